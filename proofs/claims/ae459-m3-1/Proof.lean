import JvmDerived
import JvmDerived.Pilot.@@N@@Statement
import JvmDerived.Pilot.@@N@@Code
set_option linter.unusedVariables false
set_option linter.unusedSimpArgs false
namespace Jvm.RoadKit
open Sem ClassFile Op Lib Jvm.Stand Jvm.Free Jvm.LawKit
section New
variable {p : Program} {l : Launch} {e : Env} {R : Room} {s : State} {m : MethodId} {args : Array Value} {below : List Frame} {meth : Method} {c : Code} {T : State} {locs : List Loc} {cells slots : Nat}
theorem retI (X : Stand p l e R s m args below meth c T locs cells slots) (hx : p.tables.exec = Jvm.exec) {pc : Nat} {Ls : Array Slot} {z : Int32} {rest : List Value} (hret : meth.sig.returnType = some .int) (hd : decode c.code pc = .ok (.ireturn, 1)) {fs : List Frame}
    (hl : ∀ (f : JFrame) (acts : List Action), f.method = m → f.locked = none → f.entered = [] → (doReturn e (T.setTop f) acts (some (.int z))).1 = T.setFrames fs) : Steps p.tables e below (T.setTop (mkF m pc Ls (.int z :: rest))) (T.setFrames fs) := by
  have hm' : T.vm.method? m = some meth := X.method'
  have hn : narrow .int (.int z) = .int z := rfl
  show Steps p.tables e below (T.setTop { method := m, pc := pc, locals := Ls, stack := _ :: rest, locked := none }) _
  jvm_step X.here [X.here.top, hx, hd, hm', hret, hn]
  first | (intro acts; rw [hl _ acts rfl rfl rfl]) | rw [hl _ _ rfl rfl rfl]
  exact Steps.refl _
theorem own_dia {c : Prop} [Decidable c] {tb : Tables} {S tgt : State} {F : Int32 → State} {A B : Int32} (hy : c → ∀ t, Steps tb e below (F A) t → Steps tb e below S t) (hn : ¬ c → ∀ t, Steps tb e below (F B) t → Steps tb e below S t) (k : Steps tb e below (F (if c then A else B)) tgt) : Steps tb e below S tgt := by
  by_cases q : c
  · rw [if_pos q] at k; exact hy q _ k
  · rw [if_neg q] at k; exact hn q _ k
abbrev Stp (p : Program) (e : Env) (below : List Frame) (T : State) (m : MethodId) (pc : Nat) (Ls : Array Slot) (st : List Value) (t : State) : Prop := Steps p.tables e below (T.setTop (mkF m pc Ls st)) t
end New
end Jvm.RoadKit
namespace Jvm.Pilot.@@N@@
open Jvm Jvm.ClassFile Sem Op Lib Jvm.Free Jvm.Stand Jvm.LawKit Jvm.RoadKit Bundle Jvm.Pilot.@@N@@.Jvm.D
theorem own_W {a0 : Array Value} {Z : State} (hw : ∀ d ∈ tables_1, d.before a0 Z = true) (i : Nat) {d : Jvm.Cond} (h : tables_1[i]? = some d) : d.before a0 Z = true := hw _ (List.mem_of_getElem? h)
abbrev mN0 : MethodName := ⟨"java/util/AbstractCollection", "<init>", "()V"⟩
abbrev mN1 : MethodName := ⟨"java/util/AbstractList", "<init>", "()V"⟩
abbrev mN2 : MethodName := ⟨"java/util/ArrayList", "<init>", "()V"⟩
abbrev mN3 : MethodName := ⟨"java/lang/Math", "max", "(II)I"⟩
abbrev mN4 : MethodName := ⟨"java/util/ArrayList", "grow", "(I)[Ljava/lang/Object;"⟩
abbrev mN5 : MethodName := ⟨"java/util/ArrayList", "grow", "()[Ljava/lang/Object;"⟩
abbrev mN6 : MethodName := ⟨"java/util/ArrayList", "add", "(Ljava/lang/Object;[Ljava/lang/Object;I)V"⟩
abbrev mN7 : MethodName := ⟨"java/util/ArrayList", "add", "(Ljava/lang/Object;)Z"⟩
abbrev mN8 : MethodName := ⟨"java/util/ArrayList", "isEmpty", "()Z"⟩
abbrev mN9 : MethodName := ⟨"java/util/List", "of", "()Ljava/util/List;"⟩
abbrev mN10 : MethodName := ⟨"java/lang/Math", "min", "(II)I"⟩
abbrev mN11 : MethodName := ⟨"java/util/Arrays", "copyOf", "([Ljava/lang/Object;ILjava/lang/Class;)[Ljava/lang/Object;"⟩
abbrev mN12 : MethodName := ⟨"java/util/Arrays", "copyOf", "([Ljava/lang/Object;I)[Ljava/lang/Object;"⟩
abbrev mN13 : MethodName := ⟨"java/util/ArrayList", "toArray", "()[Ljava/lang/Object;"⟩
abbrev mN14 : MethodName := ⟨"java/util/Objects", "requireNonNull", "(Ljava/lang/Object;)Ljava/lang/Object;"⟩
abbrev mN15 : MethodName := ⟨"java/util/ImmutableCollections$AbstractImmutableCollection", "<init>", "()V"⟩
abbrev mN16 : MethodName := ⟨"java/util/ImmutableCollections$AbstractImmutableList", "<init>", "()V"⟩
abbrev mN17 : MethodName := ⟨"java/util/ImmutableCollections$List12", "<init>", "(Ljava/lang/Object;)V"⟩
abbrev mN18 : MethodName := ⟨"java/util/ImmutableCollections$List12", "<init>", "(Ljava/lang/Object;Ljava/lang/Object;)V"⟩
abbrev mN19 : MethodName := ⟨"java/util/ImmutableCollections$ListN", "<init>", "([Ljava/lang/Object;Z)V"⟩
abbrev mN20 : MethodName := ⟨"java/util/ImmutableCollections", "listFromArray", "([Ljava/lang/Object;)Ljava/util/List;"⟩
abbrev mN21 : MethodName := ⟨"java/util/List", "of", "([Ljava/lang/Object;)Ljava/util/List;"⟩
abbrev mN22 : MethodName := ⟨"java/util/ImmutableCollections", "listCopy", "(Ljava/util/Collection;)Ljava/util/List;"⟩
abbrev mN23 : MethodName := ⟨"java/util/Collection", "isEmpty", "()Z"⟩
abbrev mN24 : MethodName := ⟨"java/util/Collection", "toArray", "()[Ljava/lang/Object;"⟩
abbrev mN25 : MethodName := ⟨"java/util/List", "copyOf", "(Ljava/util/Collection;)Ljava/util/List;"⟩
abbrev mN26 : MethodName := ⟨"java/lang/Record", "<init>", "()V"⟩
abbrev mN27 : MethodName := ⟨"com/example/tyche/tyche/model/jani/Expression$Operation", "<init>", "(Lcom/example/tyche/tyche/model/jani/Operator;Ljava/util/List;Ljava/lang/String;)V"⟩
abbrev mN28 : MethodName := ⟨"java/lang/StringLatin1", "canEncode", "(C)Z"⟩
abbrev mN29 : MethodName := ⟨"java/lang/StringLatin1", "toBytes", "(C)[B"⟩
abbrev mN30 : MethodName := ⟨"java/lang/String", "<init>", "([BB)V"⟩
abbrev mN31 : MethodName := ⟨"java/lang/String", "valueOf", "(C)Ljava/lang/String;"⟩
abbrev mN32 : MethodName := ⟨"java/util/ImmutableCollections$List12", "get", "(I)Ljava/lang/Object;"⟩
abbrev mN33 : MethodName := ⟨"java/util/ImmutableCollections$ListN", "get", "(I)Ljava/lang/Object;"⟩
abbrev mN34 : MethodName := ⟨"java/util/ImmutableCollections$ListN", "size", "()I"⟩
abbrev mN35 : MethodName := ⟨"java/util/ImmutableCollections$List12", "size", "()I"⟩
abbrev mN36 : MethodName := ⟨"com/example/tyche/tyche/model/jani/Expression$Operation", "operand", "(I)Lcom/example/tyche/tyche/model/jani/Expression;"⟩
abbrev mN37 : MethodName := ⟨"java/util/List", "get", "(I)Ljava/lang/Object;"⟩
abbrev mN38 : MethodName := ⟨"com/example/tyche/tyche/model/jani/Expression$Operation", "operands", "()Ljava/util/List;"⟩
abbrev mN39 : MethodName := ⟨"com/example/tyche/tyche/model/jani/OperationOperandPinLaw", "pick", "(ILcom/example/tyche/tyche/model/jani/Expression;Lcom/example/tyche/tyche/model/jani/Expression;Lcom/example/tyche/tyche/model/jani/Expression;)Lcom/example/tyche/tyche/model/jani/Expression;"⟩
abbrev mN40 : MethodName := ⟨"java/util/List", "size", "()I"⟩
abbrev vi (x : Int32) : Slot := .val (.int x)
abbrev vr (a : Addr) : Slot := .val (.ref a)
theorem own_eqv {args : Array Value} {first s : State} {o : Option Outcome} {idx : List Nat} {a b : Term} {y : Value} (h : (Jvm.Cond.eq a b).value args first o s idx = some true) (hb : b.eval args first o idx s = some y) : a.eval args first o idx s = some y := by
  obtain ⟨x, y', ha, hb', k1, k2⟩ := cmp_v (Or.inl h)
  cases hb.symm.trans hb'
  cases x <;> cases y <;> simp_all [Cond.value, Kin]
theorem own_len {args : Array Value} {first s : State} {o : Option Outcome} {idx : List Nat} {t : Term} {x : Addr} {cl : Cell} {n : Int32} (ht : t.eval args first o idx s = some (.ref x)) (ha : s.arrayAt? x = some cl) (h : (Term.length t).eval args first o idx s = some (.int n)) : cl.slots.size < 2 ^ 31 ∧ cl.slots.size.toInt32 = n := by
  by_cases q : cl.slots.size < 2 ^ 31
  · have e := len_f ht ha q
    rw [e] at h; cases h; exact ⟨q, rfl⟩
  · simp [Term.eval, ht, ha, q] at h
theorem own_ni {args : Array Value} {first s : State} {o : Option Outcome} {idx : List Nat} {a b : Term} {x y : Int32} (h : (Jvm.Cond.eq a b).value args first o s idx = some false) (ha : a.eval args first o idx s = some (.int x)) (hb : b.eval args first o idx s = some (.int y)) : ¬ (x = y) := by
  simp [Cond.value, ha, hb] at h; exact h
theorem own_found {Z : State} {a0 : Array Value} {K : String} {n : Nat} (w : (Jvm.Cond.instantiable K n).before a0 Z = true) : ∃ t k, Z.vm.findClass K = some t ∧ Z.vm.classes[t]? = some k ∧ k.kind = .ordinary ∧ k.isInterface = false := by
  cases hc : Z.vm.findClass K with
  | none => simp [Cond.before, Cond.holds, Cond.value, hc] at w
  | some t =>
    cases hk : Z.vm.classes[t]? with
    | none => simp [Cond.before, Cond.holds, Cond.value, hc, hk] at w
    | some k =>
      simp [Cond.before, Cond.holds, Cond.value, hc, hk] at w
      exact ⟨t, k, rfl, hk, w.1.1.1, w.1.1.2.1⟩
theorem own_NSroot {Z : State} {a0 : Array Value} {O K : String} {n : Nat} (w : (Jvm.Cond.noSuperclass O).before a0 Z = true) (wk : (Jvm.Cond.instantiable K n).before a0 Z = true) (hn : O ≠ K) : NS Z O K := by
  obtain ⟨c, k, h1, h2, h3, -, -⟩ := Cond.noSuperclass_spec w
  obtain ⟨t, _, g1, -⟩ := own_found wk
  have ne := ids_ne h1 g1 hn
  refine ⟨c, t, h1, g1, fun fuel => ?_⟩
  cases fuel with
  | zero => rfl
  | succ f => simp [Vm.isSubclassAux, ne, h2, h3]
theorem own_NSno {Z : State} {a0 : Array Value} {C S K : String} {n : Nat} (w : (Jvm.Cond.superclass C S).before a0 Z = true) (wk : (Jvm.Cond.instantiable K n).before a0 Z = true) (ns : NS Z C K) (hn : C ≠ K) : ∃ c t, Z.vm.findClass C = some c ∧ Z.vm.findClass K = some t ∧ Z.vm.assignable c t = false := by
  obtain ⟨c, t, h0, g0, n3⟩ := ns
  obtain ⟨p, k, kp, h1, h2, h3, h4, h5, -, h7⟩ := Cond.superclass_spec h0 w
  obtain ⟨t', k', g1, g2, g5, g7⟩ := own_found wk
  cases g0.symm.trans g1
  have ne := ids_ne h0 g0 hn
  refine ⟨c, t, h0, g0, ?_⟩
  show Z.vm.assignableAux (255 + 1) c t = false
  simp [Vm.assignableAux, ne, h2, g2, h5, g5, g7, Vm.isSubclass, n3]
theorem own_since0 (s : State) : s.Since s.vm 0 := ⟨State.Warmed39.refl s, fun j p hj hp => by
  obtain ⟨hlt, -⟩ := Array.getElem?_eq_some_iff.mp hp
  omega⟩
theorem own_wS {a0 : Array Value} {Z : State} (hw : ∀ d ∈ tables_1, d.before a0 Z = true) : ∀ a ∈ Bundle.stringAtoms, a.before a0 Z = true := fun a ha => by
  simp only [Bundle.stringAtoms, List.mem_cons, List.not_mem_nil, or_false] at ha
  rcases ha with rfl | rfl | rfl | rfl | rfl | rfl | rfl
  · exact (own_W hw 34 rfl)
  · exact (own_W hw 35 rfl)
  · exact (own_W hw 36 rfl)
  · exact (own_W hw 37 rfl)
  · exact (own_W hw 38 rfl)
  · exact (own_W hw 39 rfl)
  · exact (own_W hw 40 rfl)
theorem own_mvMN {Z s : State} {a0 args : Array Value} {own host : String} {index : Nat} {y : MethodName} (hZ : Z.Warmed39 s.vm) (w : (Jvm.Cond.methodLinkNest own index y host).before a0 Z = true) : (Jvm.Cond.methodLinkNest own index y host).before args s = true := (Cond.methodLinkNest_wide hZ w :)
section OwnM
variable {p : Program} {l : Launch} {e : Env} {R : Room} {s : State} {m : MethodId} {args : Array Value} {below : List Frame} {meth : Method} {c : ClassFile.Code} {T Z : State} {locs : List Loc} {cells slots : Nat} {h : Heap}
theorem own_ldcM (X : Stand p l e R s m args below meth c T locs cells slots) (hx : p.tables.exec = Jvm.exec) (hZ : Z.Warmed39 s.vm) {a0 : Array Value} {own C : String} {index : Nat} (hown : s.vm.findClass own = some m.cls) (w : (Jvm.Cond.classLink own index C).before a0 Z = true) (eT : T.heap = h) {mr : Addr} (M : Mir Z C mr)
    {g : JFrame} (hg : g.method = m) (hd : decode c.code g.pc = .ok (.ldc index, 2)) :
    ∃ T', Stand p l e R s m args below meth c T' locs cells slots ∧ T'.heap = h ∧ ∀ target, Steps p.tables e below (T'.setTop { g with pc := g.pc + 2, stack := .ref mr :: g.stack }) target → Steps p.tables e below (T.setTop g) target := by
  obtain ⟨cc, kc, m1, m2, m3, -⟩ := M
  obtain ⟨k', q, ek⟩ := hZ.alike.2.2 _ _ m2
  have hm : k'.mirror = some mr := by rw [ek]; exact m3
  obtain ⟨vm', X', st⟩ := X.ldcMirror hx hown (mv hZ w) (a := mr) (by simp [Term.eval, hZ.alike.findClass, m1, q, hm]) hg hd
  exact ⟨_, X', eT, st⟩
end OwnM
theorem own_c255 (c : Int32) : ¬ (255 : Int32) < (c &&& (255 : Int32)).toUInt32.toUInt16.toUInt32.toInt32 := by
  have e1 := c_i2c (c &&& (255 : Int32))
  have e2 := c_and c (255 : Int32) (by decide)
  have e3 : (255 : Int32).toInt = 255 := rfl
  rw [Int32.lt_iff_toInt_lt]
  omega
theorem own_rem (x k : Int32) (hk : 0 < k.toInt) : 0 ≤ ((x &&& (2147483647 : Int32)) % k).toInt ∧ ((x &&& (2147483647 : Int32)) % k).toInt < k.toInt := by
  have e2 := c_and x (2147483647 : Int32) (by decide)
  have e4 := (c_iremV (x &&& (2147483647 : Int32)) k).1 e2.1 hk
  exact ⟨e4.1, e4.2.1⟩
theorem own_n3 {x : Int32} (h1 : ¬ (1 : Int32) + (x &&& (2147483647 : Int32)) % (3 : Int32) = (1 : Int32)) (h2 : ¬ (1 : Int32) + (x &&& (2147483647 : Int32)) % (3 : Int32) = (2 : Int32)) : (1 : Int32) + (x &&& (2147483647 : Int32)) % (3 : Int32) = (3 : Int32) := by
  have e := own_rem x 3 (by decide)
  generalize (x &&& (2147483647 : Int32)) % (3 : Int32) = y at *
  have e3 : (3 : Int32).toInt = 3 := rfl
  have a := c_iadd 1 y
  have r := rng32 (1 + y)
  have e1 : (1 : Int32).toInt = 1 := rfl
  have e2 : (2 : Int32).toInt = 2 := rfl
  have f1 : (1 + y).toInt ≠ 1 := fun q => h1 (Int32.toInt_inj.mp (q.trans e1.symm))
  have f2 : (1 + y).toInt ≠ 2 := fun q => h2 (Int32.toInt_inj.mp (q.trans e2.symm))
  exact Int32.toInt_inj.mp (by omega)
theorem own_i1 {x : Int32} : (x &&& (2147483647 : Int32)) % (1 : Int32) = (0 : Int32) := by
  have e := own_rem x 1 (by decide)
  have e3 : (1 : Int32).toInt = 1 := rfl
  have e4 : (0 : Int32).toInt = 0 := rfl
  exact Int32.toInt_inj.mp (by omega)
theorem own_i2 {x : Int32} (h : ¬ (x &&& (2147483647 : Int32)) % (2 : Int32) = (0 : Int32)) : (x &&& (2147483647 : Int32)) % (2 : Int32) = (1 : Int32) := by
  have e := own_rem x 2 (by decide)
  generalize (x &&& (2147483647 : Int32)) % (2 : Int32) = y at *
  have e3 : (2 : Int32).toInt = 2 := rfl
  have e4 : (0 : Int32).toInt = 0 := rfl
  have e5 : (1 : Int32).toInt = 1 := rfl
  have f1 : y.toInt ≠ 0 := fun q => h (Int32.toInt_inj.mp (q.trans e4.symm))
  exact Int32.toInt_inj.mp (by omega)
theorem own_i3 {x : Int32} (h : ¬ (x &&& (2147483647 : Int32)) % (3 : Int32) = (0 : Int32)) (h1 : ¬ (x &&& (2147483647 : Int32)) % (3 : Int32) = (1 : Int32)) : (x &&& (2147483647 : Int32)) % (3 : Int32) = (2 : Int32) := by
  have e := own_rem x 3 (by decide)
  generalize (x &&& (2147483647 : Int32)) % (3 : Int32) = y at *
  have e3 : (3 : Int32).toInt = 3 := rfl
  have e2 : (2 : Int32).toInt = 2 := rfl
  have e4 : (0 : Int32).toInt = 0 := rfl
  have e5 : (1 : Int32).toInt = 1 := rfl
  have f1 : y.toInt ≠ 0 := fun q => h (Int32.toInt_inj.mp (q.trans e4.symm))
  have f2 : y.toInt ≠ 1 := fun q => h1 (Int32.toInt_inj.mp (q.trans e5.symm))
  exact Int32.toInt_inj.mp (by omega)
theorem d3_0 : decode jdk_22_method_1_code 0 = .ok (.aload_n 0, 1) := by decide +kernel
theorem d3_1 : decode jdk_22_method_1_code 1 = .ok (.invokespecial 1, 3) := by decide +kernel
theorem d3_4 : decode jdk_22_method_1_code 4 = .ok (.return_, 1) := by decide +kernel
theorem pn_3 : plainName "java/util/AbstractCollection" = true := by first | (simp [plainName, overriddenIn]; done) | decide +kernel
theorem ef_3 (m : MethodId) (pr0 : Addr) : entryFrame m #[(.ref pr0)] 1 = mkF m 0 #[vr pr0] [] := by first | (simp [entryFrame, mkF, argsToLocals, Value.category]; done) | rfl
def Q3 (Z : State) (pr0 : Addr) (h0 : Heap) (n0 : Nat) (v : Option Value) (h : Heap) (L : List Loc) : Prop := v = none ∧ Fr n0 L ∧ h = h0
set_option maxRecDepth 65536 in
set_option maxHeartbeats 40000000 in
theorem rm3 (l : Launch) (Z : State) (a0 : Array Value) (hw : ∀ d ∈ tables_1, d.before a0 Z = true) (ws : List Jvm.Cond) (pr0 : Addr) (h0 : Heap) (n0 : Nat) (Z0 : n0 ≤ h0.size) (O0 : Old Z n0 h0) :
    MetFree l mN0 (head1 (Jvm.Cond.code mN0 jdk_22_method_1_code 1 none :: ws) ({ frames := 1, cells := 0, slots := 0, locals := 12 } : Room)) (fun a U => a = #[(.ref pr0)] ∧ Z.Warmed39 U.vm ∧ U.heap = h0) (fun _ _ _ _ _ => True) (fun _ U o U' => ∃ v L, o = .returned v ∧ Q3 Z pr0 h0 n0 v U'.heap L ∧ FrameEnd U o U' L ({ frames := 1, cells := 0, slots := 0, locals := 12 } : Room).cells ({ frames := 1, cells := 0, slots := 0, locals := 12 } : Room).slots) := by
  refine MetFree.of_bodySF (plainFor_of_name pn_3) hisR ?_
  intro p e s m args below meth c s₁ Bd hml0 hP hK
  obtain ⟨rfl, hZ, hh⟩ := hP
  have hx := Bd.exec
  have hby := Bd.bytes
  have hml : c.maxLocals = 1 := hml0
  have hown : s.vm.findClass "java/util/AbstractCollection" = some m.cls := findClass_of_methodNamed Bd.named
  have hnm := (name_of_methodNamed Bd.named Bd.method).1
  have X0 : Stand p l e ({ frames := 1, cells := 0, slots := 0, locals := 12 } : Room) s m #[(.ref pr0)] below meth c s₁ [] 0 0 := Stand.of_body Bd
  have e0 : s₁.heap = h0 := by rw [← hh, Bd.state]; rfl
  have N0 := Fr.nil n0
  have pre0 : ∀ t, Steps p.tables e below (s₁.setTop (mkF m 0 #[vr pr0] [])) t → Steps p.tables e below (s₁.setTop (entryFrame m #[(.ref pr0)] 1)) t := fun t k => castTop (ef_3 m pr0) k
  obtain ⟨T1, X1, e1, st1⟩ := initO X0 hx hZ hown (own_W hw 25 rfl) (own_W hw 26 rfl) (own_W hw 27 rfl) e0 (g := (mkF m 1 #[vr pr0] [(.ref pr0)])) rfl (by rw [hml]; rfl) rfl (hb hby d3_1) (by decide) (W := 0) (by show 2 * 0 + _ ≤ _; exact Nat.le_of_eq rfl) (by decide)
  obtain ⟨fs, hr, hrun, hended, hW, hsame⟩ := X1.leave (v := none) (fun _ => rfl) (BodyLoose.notSynchronized Bd)
  refine ⟨_, _, pre0 _ ?_, hrun, hended, _, _, rfl, ?_, ⟨_, rfl⟩, hW, hsame.mono (by decide) (by decide)⟩
  · show Stp p e below s₁ m 0 #[vr pr0] [] _
    refine XS.aloadN X0.here hx rfl (hb hby d3_0) rfl rfl ?_
    refine st1 _ ?_
    show Stp p e below T1 m 4 #[vr pr0] [] _
    exact X1.returnOut hx Bd.returns (hb hby d3_4) hr
  · show Q3 Z pr0 h0 n0 _ T1.heap _
    rw [e1]
    exact ⟨rfl, N0, rfl⟩
theorem pd_0 : parseMethodDescriptor "()V" = some ⟨[], none⟩ := by decide +kernel
theorem d2_0 : decode jdk_39_method_1_code 0 = .ok (.aload_n 0, 1) := by decide +kernel
theorem d2_1 : decode jdk_39_method_1_code 1 = .ok (.invokespecial 1, 3) := by decide +kernel
theorem d2_4 : decode jdk_39_method_1_code 4 = .ok (.aload_n 0, 1) := by decide +kernel
theorem d2_5 : decode jdk_39_method_1_code 5 = .ok (.iconst 0, 1) := by decide +kernel
theorem d2_6 : decode jdk_39_method_1_code 6 = .ok (.putfield 7, 3) := by decide +kernel
theorem d2_9 : decode jdk_39_method_1_code 9 = .ok (.return_, 1) := by decide +kernel
theorem pn_2 : plainName "java/util/AbstractList" = true := by first | (simp [plainName, overriddenIn]; done) | decide +kernel
theorem ef_2 (m : MethodId) (pr0 : Addr) : entryFrame m #[(.ref pr0)] 1 = mkF m 0 #[vr pr0] [] := by first | (simp [entryFrame, mkF, argsToLocals, Value.category]; done) | rfl
def Q2 (Z : State) (pr0 : Addr) (u_modCount_pr0 : Value) (u_elementData_pr0 : Value) (u_size_pr0 : Value) (h0 : Heap) (n0 : Nat) (v : Option Value) (h : Heap) (L : List Loc) : Prop := v = none ∧ Fr n0 L ∧ Keep h0 h [pr0] ∧ Exa Z h pr0 "java/util/ArrayList" ∧ Fld Z h pr0 "java/util/AbstractList" "modCount" "I" (.int 0) ∧ Fld Z h pr0 "java/util/ArrayList" "elementData" "[Ljava/lang/Object;" u_elementData_pr0 ∧ Fld Z h pr0 "java/util/ArrayList" "size" "I" u_size_pr0
set_option maxRecDepth 65536 in
set_option maxHeartbeats 40000000 in
theorem rm2 (l : Launch) (Z : State) (a0 : Array Value) (hw : ∀ d ∈ tables_1, d.before a0 Z = true) (ws : List Jvm.Cond) (pr0 : Addr) (u_modCount_pr0 : Value) (u_elementData_pr0 : Value) (u_size_pr0 : Value) (h0 : Heap) (n0 : Nat) (Z0 : n0 ≤ h0.size) (O0 : Old Z n0 h0) (E_pr0 : Exa Z h0 pr0 "java/util/ArrayList") (F_modCount_pr0 : Fld Z h0 pr0 "java/util/AbstractList" "modCount" "I" u_modCount_pr0) (F_elementData_pr0 : Fld Z h0 pr0 "java/util/ArrayList" "elementData" "[Ljava/lang/Object;" u_elementData_pr0) (F_size_pr0 : Fld Z h0 pr0 "java/util/ArrayList" "size" "I" u_size_pr0) (g_pr0 : n0 ≤ pr0) :
    MetFree l mN1 (head1 (Jvm.Cond.code mN1 jdk_39_method_1_code 1 none :: ws) ({ frames := 2, cells := 0, slots := 0, locals := 24 } : Room)) (fun a U => a = #[(.ref pr0)] ∧ Z.Warmed39 U.vm ∧ U.heap = h0) (fun _ _ _ _ _ => True) (fun _ U o U' => ∃ v L, o = .returned v ∧ Q2 Z pr0 u_modCount_pr0 u_elementData_pr0 u_size_pr0 h0 n0 v U'.heap L ∧ FrameEnd U o U' L ({ frames := 2, cells := 0, slots := 0, locals := 24 } : Room).cells ({ frames := 2, cells := 0, slots := 0, locals := 24 } : Room).slots) := by
  refine MetFree.of_bodySF (plainFor_of_name pn_2) hisR ?_
  intro p e s m args below meth c s₁ Bd hml0 hP hK
  obtain ⟨rfl, hZ, hh⟩ := hP
  have hx := Bd.exec
  have hby := Bd.bytes
  have hml : c.maxLocals = 1 := hml0
  have hown : s.vm.findClass "java/util/AbstractList" = some m.cls := findClass_of_methodNamed Bd.named
  have hnm := (name_of_methodNamed Bd.named Bd.method).1
  have X0 : Stand p l e ({ frames := 2, cells := 0, slots := 0, locals := 24 } : Room) s m #[(.ref pr0)] below meth c s₁ [] 0 0 := Stand.of_body Bd
  have e0 : s₁.heap = h0 := by rw [← hh, Bd.state]; rfl
  have N0 := Fr.nil n0
  have pre0 : ∀ t, Steps p.tables e below (s₁.setTop (mkF m 0 #[vr pr0] [])) t → Steps p.tables e below (s₁.setTop (entryFrame m #[(.ref pr0)] 1)) t := fun t k => castTop (ef_2 m pr0) k
  obtain ⟨_, _, ⟨T1, L1, k1, n1⟩, -, X1, ⟨Lc1, hQ1, l1, y1, z1⟩, st1⟩ := X0.specialBack hx (y := mN0) rfl hown (mvT hZ (own_W hw 19 rfl)) (mvT hZ (own_W hw 20 rfl)) (mvT hZ (own_W hw 24 rfl)) (by decide) (backOf (W := 0) (rm3 l Z a0 hw [] pr0 h0 n0 Z0 O0 ) hZ (own_W hw 24 rfl) (own_W hw 23 rfl) (by decide) (by decide)) (g := (mkF m 1 #[vr pr0] [(.ref pr0)])) rfl (by rw [hml]; rfl) (Steps.refl _) (a := pr0) (argsL := []) (rest := []) (lenOf pd_0 rfl) rfl (by show 2 * 0 + _ ≤ _; exact Nat.le_of_eq rfl) (hb hby d2_1) (fun _ _ => ⟨rfl, e0, (by decide : 0 + 0 ≤ _), (by decide : 0 + 0 ≤ _)⟩)
  dsimp only [Pt.U, Pt.locs, Pt.cells, Pt.slots] at X1 l1 y1 z1 st1 hQ1
  subst l1 y1 z1
  obtain ⟨rfl, N1q, eq1⟩ := hQ1
  have N1 := Fr.app N0 N1q
  obtain ⟨T2, h2, X2, e2, W2, st2⟩ := putF X1 hx hZ hown (host := "") (Or.inl (own_W hw 28 rfl)) Via.refl eq1 F_modCount_pr0 E_pr0 (Or.inl (own_W hw 29 rfl)) (own_W hw 8 rfl) (ty := .int) (by decide) rfl rfl (g := (mkF m 6 #[vr pr0] [(.int 0), (.ref pr0)])) rfl rfl (hb hby d2_6)
  have Fw2 := F_modCount_pr0.same W2
  have N2 := Fr.snoc X2 N1 g_pr0
  have k3 : Keep h0 h2 [pr0] := (Keep.refl h0 [pr0]).wr W2 (Or.inl (List.mem_of_getElem? (i := 0) rfl))
  have f4 := E_pr0.wr W2
  have f5 := F_elementData_pr0.other W2 (Or.inr (slot_ne (Or.inl (own_W hw 32 rfl)) (Or.inl (own_W hw 29 rfl)) (by decide) (t := (.array (.object "java/lang/Object"))) (t' := .int) (by decide) (by decide)))
  have f6 := F_size_pr0.other W2 (Or.inr (slot_ne (Or.inl (own_W hw 74 rfl)) (Or.inl (own_W hw 29 rfl)) (by decide) (t := .int) (t' := .int) (by decide) (by decide)))
  obtain ⟨fs, hr, hrun, hended, hW, hsame⟩ := X2.leave (v := none) (fun _ => rfl) (BodyLoose.notSynchronized Bd)
  refine ⟨_, _, pre0 _ ?_, hrun, hended, _, _, rfl, ?_, ⟨_, rfl⟩, hW, hsame.mono (by decide) (by decide)⟩
  · show Stp p e below s₁ m 0 #[vr pr0] [] _
    refine XS.aloadN X0.here hx rfl (hb hby d2_0) rfl rfl ?_
    refine st1.trans ?_
    show Stp p e below T1 m 4 #[vr pr0] [] _
    refine XS.aloadN X1.here hx rfl (hb hby d2_4) rfl rfl ?_
    refine XS.iconst X1.here hx rfl (hb hby d2_5) ?_
    refine st2 _ ?_
    show Stp p e below T2 m 9 #[vr pr0] [] _
    exact X2.returnOut hx Bd.returns (hb hby d2_9) hr
  · show Q2 Z pr0 u_modCount_pr0 u_elementData_pr0 u_size_pr0 h0 n0 _ T2.heap _
    rw [e2]
    exact ⟨rfl, N2, k3, f4, Fw2, f5, f6⟩
theorem d1_0 : decode jdk_38_method_2_code 0 = .ok (.aload_n 0, 1) := by decide +kernel
theorem d1_1 : decode jdk_38_method_2_code 1 = .ok (.invokespecial 1, 3) := by decide +kernel
theorem d1_4 : decode jdk_38_method_2_code 4 = .ok (.aload_n 0, 1) := by decide +kernel
theorem d1_5 : decode jdk_38_method_2_code 5 = .ok (.getstatic 39, 3) := by decide +kernel
theorem d1_8 : decode jdk_38_method_2_code 8 = .ok (.putfield 9, 3) := by decide +kernel
theorem d1_11 : decode jdk_38_method_2_code 11 = .ok (.return_, 1) := by decide +kernel
theorem pn_1 : plainName "java/util/ArrayList" = true := by first | (simp [plainName, overriddenIn]; done) | decide +kernel
theorem ef_1 (m : MethodId) (pr0 : Addr) : entryFrame m #[(.ref pr0)] 1 = mkF m 0 #[vr pr0] [] := by first | (simp [entryFrame, mkF, argsToLocals, Value.category]; done) | rfl
def Q1 (Z : State) (pr0 : Addr) (w_DEF : Addr) (u_modCount_pr0 : Value) (u_elementData_pr0 : Value) (u_size_pr0 : Value) (h0 : Heap) (n0 : Nat) (v : Option Value) (h : Heap) (L : List Loc) : Prop := v = none ∧ Fr n0 L ∧ Keep h0 h [pr0] ∧ Exa Z h pr0 "java/util/ArrayList" ∧ Fld Z h pr0 "java/util/AbstractList" "modCount" "I" (.int 0) ∧ Fld Z h pr0 "java/util/ArrayList" "elementData" "[Ljava/lang/Object;" (.ref w_DEF) ∧ Fld Z h pr0 "java/util/ArrayList" "size" "I" u_size_pr0
set_option maxRecDepth 65536 in
set_option maxHeartbeats 40000000 in
theorem rm1 (l : Launch) (Z : State) (a0 : Array Value) (hw : ∀ d ∈ tables_1, d.before a0 Z = true) (ws : List Jvm.Cond) (pr0 : Addr) (w_DEF : Addr) (u_modCount_pr0 : Value) (u_elementData_pr0 : Value) (u_size_pr0 : Value) (h0 : Heap) (n0 : Nat) (Z0 : n0 ≤ h0.size) (O0 : Old Z n0 h0) (E_pr0 : Exa Z h0 pr0 "java/util/ArrayList") (S_DEFAULTCAPACITY_EMPTY_ELEMENTDATA : Sta Z Z.heap "java/util/ArrayList" "DEFAULTCAPACITY_EMPTY_ELEMENTDATA" "[Ljava/lang/Object;" (.ref w_DEF)) (F_modCount_pr0 : Fld Z h0 pr0 "java/util/AbstractList" "modCount" "I" u_modCount_pr0) (F_elementData_pr0 : Fld Z h0 pr0 "java/util/ArrayList" "elementData" "[Ljava/lang/Object;" u_elementData_pr0) (F_size_pr0 : Fld Z h0 pr0 "java/util/ArrayList" "size" "I" u_size_pr0) (g_pr0 : n0 ≤ pr0) :
    MetFree l mN2 (head1 (Jvm.Cond.code mN2 jdk_38_method_2_code 1 none :: ws) ({ frames := 3, cells := 0, slots := 0, locals := 36 } : Room)) (fun a U => a = #[(.ref pr0)] ∧ Z.Warmed39 U.vm ∧ U.heap = h0) (fun _ _ _ _ _ => True) (fun _ U o U' => ∃ v L, o = .returned v ∧ Q1 Z pr0 w_DEF u_modCount_pr0 u_elementData_pr0 u_size_pr0 h0 n0 v U'.heap L ∧ FrameEnd U o U' L ({ frames := 3, cells := 0, slots := 0, locals := 36 } : Room).cells ({ frames := 3, cells := 0, slots := 0, locals := 36 } : Room).slots) := by
  refine MetFree.of_bodySF (plainFor_of_name pn_1) hisR ?_
  intro p e s m args below meth c s₁ Bd hml0 hP hK
  obtain ⟨rfl, hZ, hh⟩ := hP
  have hx := Bd.exec
  have hby := Bd.bytes
  have hml : c.maxLocals = 1 := hml0
  have hown : s.vm.findClass "java/util/ArrayList" = some m.cls := findClass_of_methodNamed Bd.named
  have hnm := (name_of_methodNamed Bd.named Bd.method).1
  have X0 : Stand p l e ({ frames := 3, cells := 0, slots := 0, locals := 36 } : Room) s m #[(.ref pr0)] below meth c s₁ [] 0 0 := Stand.of_body Bd
  have e0 : s₁.heap = h0 := by rw [← hh, Bd.state]; rfl
  have N0 := Fr.nil n0
  have pre0 : ∀ t, Steps p.tables e below (s₁.setTop (mkF m 0 #[vr pr0] [])) t → Steps p.tables e below (s₁.setTop (entryFrame m #[(.ref pr0)] 1)) t := fun t k => castTop (ef_1 m pr0) k
  obtain ⟨_, _, ⟨T1, L1, k1, n1⟩, -, X1, ⟨Lc1, hQ1, l1, y1, z1⟩, st1⟩ := X0.specialBack hx (y := mN1) rfl hown (mvT hZ (own_W hw 13 rfl)) (mvT hZ (own_W hw 14 rfl)) (mvT hZ (own_W hw 18 rfl)) (by decide) (backOf (W := 0) (rm2 l Z a0 hw [] pr0 u_modCount_pr0 u_elementData_pr0 u_size_pr0 h0 n0 Z0 O0 E_pr0 F_modCount_pr0 F_elementData_pr0 F_size_pr0 g_pr0) hZ (own_W hw 18 rfl) (own_W hw 17 rfl) (by decide) (by decide)) (g := (mkF m 1 #[vr pr0] [(.ref pr0)])) rfl (by rw [hml]; rfl) (Steps.refl _) (a := pr0) (argsL := []) (rest := []) (lenOf pd_0 rfl) rfl (by show 2 * 0 + _ ≤ _; exact Nat.le_of_eq rfl) (hb hby d1_1) (fun _ _ => ⟨rfl, e0, (by decide : 0 + 0 ≤ _), (by decide : 0 + 0 ≤ _)⟩)
  dsimp only [Pt.U, Pt.locs, Pt.cells, Pt.slots] at X1 l1 y1 z1 st1 hQ1
  subst l1 y1 z1
  obtain ⟨rfl, N1q, K1, qf1_0, qf1_1, qf1_2, qf1_3⟩ := hQ1
  have N1 := Fr.app N0 N1q
  have o3 := O0.keep K1 (allS g_pr0 all0)
  obtain ⟨T2, X2, e2, st2⟩ := getS2 X1 hx hZ hown (host := "") (Or.inl (own_W hw 30 rfl)) Via.refl rfl (S_DEFAULTCAPACITY_EMPTY_ELEMENTDATA.ext o3.2) (g := (mkF m 5 #[vr pr0] [(.ref pr0)])) rfl (hb hby d1_5)
  obtain ⟨T4, h4, X4, e4, W4, st4⟩ := putF X2 hx hZ hown (host := "") (Or.inl (own_W hw 31 rfl)) Via.refl e2 qf1_2 qf1_0 (Or.inl (own_W hw 32 rfl)) (own_W hw 8 rfl) (ty := (.array (.object "java/lang/Object"))) (by decide) rfl rfl (g := (mkF m 8 #[vr pr0] [(.ref w_DEF), (.ref pr0)])) rfl rfl (hb hby d1_8)
  have Fw4 := qf1_2.same W4
  have N4 := Fr.snoc X4 N1 g_pr0
  have k5 : Keep h0 T1.heap [pr0] := (Keep.refl h0 [pr0]).trans K1 (allS (Or.inl (List.mem_of_getElem? (i := 0) rfl)) all0)
  have k6 : Keep h0 h4 [pr0] := k5.wr W4 (Or.inl (List.mem_of_getElem? (i := 0) rfl))
  have f7 := qf1_0.wr W4
  have f8 := qf1_1.other W4 (Or.inr (slot_ne (Or.inl (own_W hw 29 rfl)) (Or.inl (own_W hw 32 rfl)) (by decide) (t := .int) (t' := (.array (.object "java/lang/Object"))) (by decide) (by decide)))
  have f9 := qf1_3.other W4 (Or.inr (slot_ne (Or.inl (own_W hw 74 rfl)) (Or.inl (own_W hw 32 rfl)) (by decide) (t := .int) (t' := (.array (.object "java/lang/Object"))) (by decide) (by decide)))
  obtain ⟨fs, hr, hrun, hended, hW, hsame⟩ := X4.leave (v := none) (fun _ => rfl) (BodyLoose.notSynchronized Bd)
  refine ⟨_, _, pre0 _ ?_, hrun, hended, _, _, rfl, ?_, ⟨_, rfl⟩, hW, hsame.mono (by decide) (by decide)⟩
  · show Stp p e below s₁ m 0 #[vr pr0] [] _
    refine XS.aloadN X0.here hx rfl (hb hby d1_0) rfl rfl ?_
    refine st1.trans ?_
    show Stp p e below T1 m 4 #[vr pr0] [] _
    refine XS.aloadN X1.here hx rfl (hb hby d1_4) rfl rfl ?_
    refine st2 _ ?_
    show Stp p e below T2 m 8 #[vr pr0] [(.ref w_DEF), (.ref pr0)] _
    refine st4 _ ?_
    show Stp p e below T4 m 11 #[vr pr0] [] _
    exact X4.returnOut hx Bd.returns (hb hby d1_11) hr
  · show Q1 Z pr0 w_DEF u_modCount_pr0 u_elementData_pr0 u_size_pr0 h0 n0 _ T4.heap _
    rw [e4]
    exact ⟨rfl, N4, k6, f7, f8, Fw4, f9⟩
theorem d15_0 : decode jdk_29_method_65_code 0 = .ok (.iload_n 0, 1) := by decide +kernel
theorem d15_1 : decode jdk_29_method_65_code 1 = .ok (.iload_n 1, 1) := by decide +kernel
theorem d15_2 : decode jdk_29_method_65_code 2 = .ok (.if_icmp .lt 7, 3) := by decide +kernel
theorem d15_5 : decode jdk_29_method_65_code 5 = .ok (.iload_n 0, 1) := by decide +kernel
theorem d15_6 : decode jdk_29_method_65_code 6 = .ok (.goto 4, 3) := by decide +kernel
theorem d15_10 : decode jdk_29_method_65_code 10 = .ok (.ireturn, 1) := by decide +kernel
theorem ef_15 (m : MethodId) (pi1 : Int32) (pi2 : Int32) : entryFrame m #[(.int pi1), (.int pi2)] 2 = mkF m 0 #[vi pi1, vi pi2] [] := by first | (simp [entryFrame, mkF, argsToLocals, Value.category]; done) | rfl
def Q15 (Z : State) (pi1 : Int32) (pi2 : Int32) (h0 : Heap) (n0 : Nat) (v : Option Value) (h : Heap) (L : List Loc) : Prop := v = some (.int pi1) ∧ Fr n0 L ∧ h = h0
set_option maxRecDepth 65536 in
set_option maxHeartbeats 40000000 in
theorem rm15 (l : Launch) (Z : State) (a0 : Array Value) (hw : ∀ d ∈ tables_1, d.before a0 Z = true) (ws : List Jvm.Cond) (pi1 : Int32) (pi2 : Int32) (h0 : Heap) (n0 : Nat) (Z0 : n0 ≤ h0.size) (O0 : Old Z n0 h0) (hc2_0 : ¬ (pi1 < pi2)) :
    MetFree l mN3 (head1 (Jvm.Cond.code mN3 jdk_29_method_65_code 2 (some .int) :: ws) ({ frames := 0, cells := 0, slots := 0, locals := 0 } : Room)) (fun a U => a = #[(.int pi1), (.int pi2)] ∧ Z.Warmed39 U.vm ∧ U.heap = h0) (fun _ _ _ _ _ => True) (fun _ U o U' => ∃ v L, o = .returned v ∧ Q15 Z pi1 pi2 h0 n0 v U'.heap L ∧ FrameEnd U o U' L ({ frames := 0, cells := 0, slots := 0, locals := 0 } : Room).cells ({ frames := 0, cells := 0, slots := 0, locals := 0 } : Room).slots) := by
  refine MetFree.of_bodySF (Jvm.Free.JP.mathPlain rfl (by decide +kernel)) hisR ?_
  intro p e s m args below meth c s₁ Bd hml0 hP hK
  obtain ⟨rfl, hZ, hh⟩ := hP
  have hx := Bd.exec
  have hby := Bd.bytes
  have hml : c.maxLocals = 2 := hml0
  have hown : s.vm.findClass "java/lang/Math" = some m.cls := findClass_of_methodNamed Bd.named
  have hnm := (name_of_methodNamed Bd.named Bd.method).1
  have X0 : Stand p l e ({ frames := 0, cells := 0, slots := 0, locals := 0 } : Room) s m #[(.int pi1), (.int pi2)] below meth c s₁ [] 0 0 := Stand.of_body Bd
  have e0 : s₁.heap = h0 := by rw [← hh, Bd.state]; rfl
  have N0 := Fr.nil n0
  have pre0 : ∀ t, Steps p.tables e below (s₁.setTop (mkF m 0 #[vi pi1, vi pi2] [])) t → Steps p.tables e below (s₁.setTop (entryFrame m #[(.int pi1), (.int pi2)] 2)) t := fun t k => castTop (ef_15 m pi1 pi2) k
  obtain ⟨fs, hr, hrun, hended, hW, hsame⟩ := X0.leave (v := some (.int pi1)) (fun h => by rw [Bd.returns] at h; cases h) (BodyLoose.notSynchronized Bd)
  refine ⟨_, _, pre0 _ ?_, hrun, hended, _, _, rfl, ?_, ⟨_, rfl⟩, hW, hsame.mono (by decide) (by decide)⟩
  · show Stp p e below s₁ m 0 #[vi pi1, vi pi2] [] _
    refine XS.iloadN X0.here hx rfl (hb hby d15_0) rfl ?_
    refine XS.iloadN X0.here hx rfl (hb hby d15_1) rfl ?_
    refine XS.icmpNo X0.here hx rfl (hb hby d15_2) rfl (flt hc2_0).1 ?_
    show Stp p e below s₁ m 5 #[vi pi1, vi pi2] [] _
    refine XS.iloadN X0.here hx rfl (hb hby d15_5) rfl ?_
    refine XS.goto X0.here hx rfl (pc0 := 6) (pc' := 10) rfl (hb hby d15_6) (by decide) (by decide) ?_
    show Stp p e below s₁ m 10 #[vi pi1, vi pi2] [(.int pi1)] _
    exact retI X0 hx Bd.returns (hb hby d15_10) hr
  · show Q15 Z pi1 pi2 h0 n0 _ s₁.heap _
    rw [e0]
    exact ⟨rfl, N0, rfl⟩
theorem pd_9 : parseMethodDescriptor "(II)I" = some ⟨[.int, .int], some .int⟩ := by decide +kernel
theorem d14_0 : decode jdk_38_method_6_code 0 = .ok (.aload_n 0, 1) := by decide +kernel
theorem d14_1 : decode jdk_38_method_6_code 1 = .ok (.getfield 9, 3) := by decide +kernel
theorem d14_4 : decode jdk_38_method_6_code 4 = .ok (.arraylength, 1) := by decide +kernel
theorem d14_5 : decode jdk_38_method_6_code 5 = .ok (.istore_n 2, 1) := by decide +kernel
theorem d14_6 : decode jdk_38_method_6_code 6 = .ok (.iload_n 2, 1) := by decide +kernel
theorem d14_7 : decode jdk_38_method_6_code 7 = .ok (.ifCond .gt 13, 3) := by decide +kernel
theorem d14_10 : decode jdk_38_method_6_code 10 = .ok (.aload_n 0, 1) := by decide +kernel
theorem d14_11 : decode jdk_38_method_6_code 11 = .ok (.getfield 9, 3) := by decide +kernel
theorem d14_14 : decode jdk_38_method_6_code 14 = .ok (.getstatic 39, 3) := by decide +kernel
theorem d14_17 : decode jdk_38_method_6_code 17 = .ok (.if_acmp .eq 28, 3) := by decide +kernel
theorem d14_45 : decode jdk_38_method_6_code 45 = .ok (.aload_n 0, 1) := by decide +kernel
theorem d14_46 : decode jdk_38_method_6_code 46 = .ok (.bipush 10, 2) := by decide +kernel
theorem d14_48 : decode jdk_38_method_6_code 48 = .ok (.iload_n 1, 1) := by decide +kernel
theorem d14_49 : decode jdk_38_method_6_code 49 = .ok (.invokestatic 79, 3) := by decide +kernel
theorem d14_52 : decode jdk_38_method_6_code 52 = .ok (.anewarray 7, 3) := by decide +kernel
theorem d14_55 : decode jdk_38_method_6_code 55 = .ok (.dup_x1, 1) := by decide +kernel
theorem d14_56 : decode jdk_38_method_6_code 56 = .ok (.putfield 9, 3) := by decide +kernel
theorem d14_59 : decode jdk_38_method_6_code 59 = .ok (.areturn, 1) := by decide +kernel
theorem pn_14 : plainName "java/util/ArrayList" = true := by first | (simp [plainName, overriddenIn]; done) | decide +kernel
theorem ef_14_ (m : MethodId) (pr0 : Addr) : entryFrame m #[(.ref pr0), (.int 1)] 4 = mkF m 0 #[vr pr0, vi 1, .unset, .unset] [] := by first | (simp [entryFrame, mkF, argsToLocals, Value.category]; done) | rfl
def Q14 (Z : State) (pr0 : Addr) (w_DEF : Addr) (kk_w_DEF : ClassId) (u_modCount_pr0 : Value) (u_size_pr0 : Value) (h0 : Heap) (n0 : Nat) (v : Option Value) (h : Heap) (L : List Loc) : Prop := ∃ b6 : Addr, ∃ k6 : ClassId, v = some (.ref b6) ∧ Fr n0 L ∧ Keep h0 h [pr0] ∧ Exa Z h pr0 "java/util/ArrayList" ∧ Fld Z h pr0 "java/util/AbstractList" "modCount" "I" u_modCount_pr0 ∧ Fld Z h pr0 "java/util/ArrayList" "elementData" "[Ljava/lang/Object;" (.ref b6) ∧ Fld Z h pr0 "java/util/ArrayList" "size" "I" u_size_pr0 ∧ h0.size ≤ b6 ∧ Exa Z h b6 "[Ljava/lang/Object;" ∧ Arv Z h b6 k6 (.object "java/lang/Object") (10 : Int32) [.null, .null, .null, .null, .null, .null, .null, .null, .null, .null] .null ∧ Ovr Z k6 "java/lang/Object"
set_option maxRecDepth 65536 in
set_option maxHeartbeats 40000000 in
theorem rm14 (l : Launch) (Z : State) (a0 : Array Value) (hw : ∀ d ∈ tables_1, d.before a0 Z = true) (ws : List Jvm.Cond) (pr0 : Addr) (w_DEF : Addr) (kk_w_DEF : ClassId) (u_modCount_pr0 : Value) (u_size_pr0 : Value) (h0 : Heap) (n0 : Nat) (Z0 : n0 ≤ h0.size) (O0 : Old Z n0 h0) (E_pr0 : Exa Z h0 pr0 "java/util/ArrayList") (S_DEFAULTCAPACITY_EMPTY_ELEMENTDATA : Sta Z Z.heap "java/util/ArrayList" "DEFAULTCAPACITY_EMPTY_ELEMENTDATA" "[Ljava/lang/Object;" (.ref w_DEF)) (V_w_DEF : Arv Z Z.heap w_DEF kk_w_DEF (.object "java/lang/Object") (0 : Int32) [] .null) (F_modCount_pr0 : Fld Z h0 pr0 "java/util/AbstractList" "modCount" "I" u_modCount_pr0) (F_elementData_pr0 : Fld Z h0 pr0 "java/util/ArrayList" "elementData" "[Ljava/lang/Object;" (.ref w_DEF)) (F_size_pr0 : Fld Z h0 pr0 "java/util/ArrayList" "size" "I" u_size_pr0) (g_pr0 : n0 ≤ pr0) :
    MetFree l mN4 (head1 (Jvm.Cond.code mN4 jdk_38_method_6_code 4 (some (.array (.object "java/lang/Object"))) :: ws) ({ frames := 1, cells := 1, slots := 10, locals := 14 } : Room)) (fun a U => a = #[(.ref pr0), (.int 1)] ∧ Z.Warmed39 U.vm ∧ U.heap = h0) (fun _ _ _ _ _ => True) (fun _ U o U' => ∃ v L, o = .returned v ∧ Q14 Z pr0 w_DEF kk_w_DEF u_modCount_pr0 u_size_pr0 h0 n0 v U'.heap L ∧ FrameEnd U o U' L ({ frames := 1, cells := 1, slots := 10, locals := 14 } : Room).cells ({ frames := 1, cells := 1, slots := 10, locals := 14 } : Room).slots) := by
  refine MetFree.of_bodySF (plainFor_of_name pn_14) hisR ?_
  intro p e s m args below meth c s₁ Bd hml0 hP hK
  obtain ⟨rfl, hZ, hh⟩ := hP
  have hx := Bd.exec
  have hby := Bd.bytes
  have hml : c.maxLocals = 4 := hml0
  have hown : s.vm.findClass "java/util/ArrayList" = some m.cls := findClass_of_methodNamed Bd.named
  have hnm := (name_of_methodNamed Bd.named Bd.method).1
  have X0 : Stand p l e ({ frames := 1, cells := 1, slots := 10, locals := 14 } : Room) s m #[(.ref pr0), (.int 1)] below meth c s₁ [] 0 0 := Stand.of_body Bd
  have e0 : s₁.heap = h0 := by rw [← hh, Bd.state]; rfl
  have N0 := Fr.nil n0
  have pre0 : ∀ t, Steps p.tables e below (s₁.setTop (mkF m 0 #[vr pr0, vi 1, .unset, .unset] [])) t → Steps p.tables e below (s₁.setTop (entryFrame m #[(.ref pr0), (.int 1)] 4)) t := fun t k => castTop (ef_14_ m pr0) k
  obtain ⟨T1, X1, e1, st1⟩ := getF X0 hx hZ hown (host := "") (Or.inl (own_W hw 31 rfl)) Via.refl e0 F_elementData_pr0 (g := (mkF m 1 #[vr pr0, vi 1, .unset, .unset] [(.ref pr0)])) rfl rfl (hb hby d14_1)
  have V_c2 := (V_w_DEF.ext O0.2)
  obtain ⟨c2, Arc2, qc2, Sc2, Nc2, Hc2, Gc2⟩ := V_c2
  obtain ⟨T3, X3, e3, st3⟩ := getF X1 hx hZ hown (host := "") (Or.inl (own_W hw 31 rfl)) Via.refl e1 F_elementData_pr0 (g := (mkF m 11 #[vr pr0, vi 1, vi 0, .unset] [(.ref pr0)])) rfl rfl (hb hby d14_11)
  obtain ⟨T4, X4, e4, st4⟩ := getS2 X3 hx hZ hown (host := "") (Or.inl (own_W hw 30 rfl)) Via.refl e3 (S_DEFAULTCAPACITY_EMPTY_ELEMENTDATA.ext O0.2) (g := (mkF m 14 #[vr pr0, vi 1, vi 0, .unset] [(.ref w_DEF)])) rfl (hb hby d14_14)
  obtain ⟨_, _, ⟨T5, L5, k5, n5⟩, -, X5, ⟨Lc5, hQ5, l5, y5, z5⟩, st5⟩ := Jvm.LawKit.callS X4 hx (y := mN3) hown (mvT hZ (own_W hw 113 rfl)) (mvT hZ (own_W hw 114 rfl)) (mvT hZ (own_W hw 115 rfl)) (mvT hZ (own_W hw 116 rfl)) (by decide) (backOf (W := 1) (rm15 l Z a0 hw [] (10 : Int32) (1 : Int32) h0 n0 Z0 O0 (by decide)) hZ (own_W hw 116 rfl) (own_W hw 115 rfl) (by decide) (by decide)) (g := (mkF m 49 #[vr pr0, vi 1, vi 0, .unset] [(.int 1), (.int 10), (.ref pr0)])) rfl (by rw [hml]; rfl) (argsL := [(.int 10), (.int 1)]) (rest := [(.ref pr0)]) (lenOf pd_9 rfl) rfl (by show 2 * 0 + _ ≤ _; exact Nat.le_of_eq rfl) (hb hby d14_49) (fun _ _ => ⟨rfl, e4, (by decide : 0 + 0 ≤ _), (by decide : 0 + 0 ≤ _)⟩)
  dsimp only [Pt.U, Pt.locs, Pt.cells, Pt.slots] at X5 l5 y5 z5 st5 hQ5
  subst l5 y5 z5
  obtain ⟨rfl, N5q, eq5⟩ := hQ5
  have N5 := Fr.app N0 N5q
  obtain ⟨T6, h6, k6, X6, e6, E6, A6, B6, O6, st6⟩ := newRE X5 hx hZ hown (own_W hw 117 rfl) (own_W hw 118 rfl) eq5 (g := (mkF m 52 #[vr pr0, vi 1, vi 0, .unset] [(.int 10), (.ref pr0)])) rfl (hb hby d14_52) rfl (by decide) (cap := 10) (by decide) (by decide) (by decide) (by decide) (ad := "[Ljava/lang/Object;") rfl
  obtain ⟨b6, g6⟩ : ∃ z, z = h0.size := ⟨_, rfl⟩
  rw [← g6] at A6 B6 st6
  have V6 : Arv Z h6 b6 k6 (.object "java/lang/Object") (10 : Int32) [.null, .null, .null, .null, .null, .null, .null, .null, .null, .null] .null := (Arv.new A6 (by decide)).pad (pad_rep [] .null 10)
  have f7 := F_elementData_pr0.ext E6
  have f8 := E_pr0.ext E6
  obtain ⟨T9, h9, X9, e9, W9, st9⟩ := putF X6 hx hZ hown (host := "") (Or.inl (own_W hw 31 rfl)) Via.refl e6 f7 f8 (Or.inl (own_W hw 32 rfl)) (own_W hw 8 rfl) (ty := (.array (.object "java/lang/Object"))) (by decide) rfl rfl (g := (mkF m 56 #[vr pr0, vi 1, vi 0, .unset] [(.ref b6), (.ref pr0), (.ref b6)])) rfl rfl (hb hby d14_56)
  have Fw9 := f7.same W9
  have N9 := Fr.snoc X9 N5 g_pr0
  have k10 : Keep h0 h6 [pr0] := (Keep.refl h0 [pr0]).ext E6
  have k11 : Keep h0 h9 [pr0] := k10.wr W9 (Or.inl (List.mem_of_getElem? (i := 0) rfl))
  have f12 := f8.wr W9
  have f13 := F_modCount_pr0.ext E6
  have f14 := f13.other W9 (Or.inr (slot_ne (Or.inl (own_W hw 29 rfl)) (Or.inl (own_W hw 32 rfl)) (by decide) (t := .int) (t' := (.array (.object "java/lang/Object"))) (by decide) (by decide)))
  have f15 := F_size_pr0.ext E6
  have f16 := f15.other W9 (Or.inr (slot_ne (Or.inl (own_W hw 74 rfl)) (Or.inl (own_W hw 32 rfl)) (by decide) (t := .int) (t' := (.array (.object "java/lang/Object"))) (by decide) (by decide)))
  have f17 := B6.wr W9
  have f18 := V6.other W9 (Ne.symm (Nat.ne_of_lt (Nat.lt_of_lt_of_le F_size_pr0.lt (Nat.le_of_eq g6.symm))))
  obtain ⟨fs, hr, hrun, hended, hW, hsame⟩ := X9.leave (v := some (.ref b6)) (fun h => by rw [Bd.returns] at h; cases h) (BodyLoose.notSynchronized Bd)
  refine ⟨_, _, pre0 _ ?_, hrun, hended, _, _, rfl, ?_, ⟨_, rfl⟩, hW, hsame.mono (by decide) (by decide)⟩
  · show Stp p e below s₁ m 0 #[vr pr0, vi 1, .unset, .unset] [] _
    refine XS.aloadN X0.here hx rfl (hb hby d14_0) rfl rfl ?_
    refine st1 _ ?_
    show Stp p e below T1 m 4 #[vr pr0, vi 1, .unset, .unset] [(.ref w_DEF)] _
    refine X1.arraylength hx (by rw [e1]; exact Arc2.1) (State.isArrayOf_alike hZ.alike Arc2.2.1) (g := (mkF m 4 #[vr pr0, vi 1, .unset, .unset] [(.ref w_DEF)])) rfl rfl (hb hby d14_4) _ ?_
    rw [len_of Sc2 Nc2]
    show Stp p e below T1 m 5 #[vr pr0, vi 1, .unset, .unset] [(.int 0)] _
    refine XS.istoreN X1.here hx rfl (hb hby d14_5) rfl (l' := #[vr pr0, vi 1, vi 0, .unset]) rfl ?_
    refine XS.iloadN X1.here hx rfl (hb hby d14_6) rfl ?_
    refine XS.ifNo X1.here hx rfl (hb hby d14_7) rfl ((if0 _ _).trans (flt (by simp : ¬ ((0 : Int32) < (0 : Int32)))).2.2.1) ?_
    show Stp p e below T1 m 10 #[vr pr0, vi 1, vi 0, .unset] [] _
    refine XS.aloadN X1.here hx rfl (hb hby d14_10) rfl rfl ?_
    refine st3 _ ?_
    show Stp p e below T3 m 14 #[vr pr0, vi 1, vi 0, .unset] [(.ref w_DEF)] _
    refine st4 _ ?_
    show Stp p e below T4 m 17 #[vr pr0, vi 1, vi 0, .unset] [(.ref w_DEF), (.ref w_DEF)] _
    refine Jvm.RoadKit.acmp (g := (mkF m 17 #[vr pr0, vi 1, vi 0, .unset] [(.ref w_DEF), (.ref w_DEF)])) X4 hx rfl rfl rfl (pc0 := 17) (pc' := 45) (same := true) rfl (hb hby d14_17) rfl (decide_eq_true rfl) (by decide) (by decide) ?_
    show Stp p e below T4 m 45 #[vr pr0, vi 1, vi 0, .unset] [] _
    refine XS.aloadN X4.here hx rfl (hb hby d14_45) rfl rfl ?_
    refine XS.bipush X4.here hx rfl (hb hby d14_46) ?_
    refine XS.iloadN X4.here hx rfl (hb hby d14_48) rfl ?_
    refine st5 _ ?_
    show Stp p e below T5 m 52 #[vr pr0, vi 1, vi 0, .unset] [(.int 10), (.ref pr0)] _
    refine st6 _ ?_
    show Stp p e below T6 m 55 #[vr pr0, vi 1, vi 0, .unset] [(.ref b6), (.ref pr0)] _
    refine XS.dupX1 X6.here hx rfl (hb hby d14_55) rfl rfl rfl ?_
    show Stp p e below T6 m 56 #[vr pr0, vi 1, vi 0, .unset] [(.ref b6), (.ref pr0), (.ref b6)] _
    refine st9 _ ?_
    show Stp p e below T9 m 59 #[vr pr0, vi 1, vi 0, .unset] [(.ref b6)] _
    jvm_step X9.here [X9.here.top, hx, (hb hby d14_59), X9.method', Bd.returns, Value.isRef, FieldType.isReference]
    first | (intro acts; rw [hr _ acts rfl rfl rfl]) | rw [hr _ _ rfl rfl rfl]
    exact Steps.refl _
  · show Q14 Z pr0 w_DEF kk_w_DEF u_modCount_pr0 u_size_pr0 h0 n0 _ T9.heap _
    rw [e9]
    exact ⟨b6, k6, rfl, N9, k11, f12, f14, Fw9, f16, (Nat.le_trans (Keep.refl h0 [pr0]).1 (Nat.le_of_eq g6.symm)), f17, f18, O6⟩
theorem pd_8 : parseMethodDescriptor "(I)[Ljava/lang/Object;" = some ⟨[.int], some (.array (.object "java/lang/Object"))⟩ := by decide +kernel
theorem d13_0 : decode jdk_38_method_7_code 0 = .ok (.aload_n 0, 1) := by decide +kernel
theorem d13_1 : decode jdk_38_method_7_code 1 = .ok (.aload_n 0, 1) := by decide +kernel
theorem d13_2 : decode jdk_38_method_7_code 2 = .ok (.getfield 48, 3) := by decide +kernel
theorem d13_5 : decode jdk_38_method_7_code 5 = .ok (.iconst 1, 1) := by decide +kernel
theorem d13_6 : decode jdk_38_method_7_code 6 = .ok (.iadd, 1) := by decide +kernel
theorem d13_7 : decode jdk_38_method_7_code 7 = .ok (.invokevirtual 69, 3) := by decide +kernel
theorem d13_10 : decode jdk_38_method_7_code 10 = .ok (.areturn, 1) := by decide +kernel
theorem pn_13 : plainName "java/util/ArrayList" = true := by first | (simp [plainName, overriddenIn]; done) | decide +kernel
theorem ef_13 (m : MethodId) (pr0 : Addr) : entryFrame m #[(.ref pr0)] 1 = mkF m 0 #[vr pr0] [] := by first | (simp [entryFrame, mkF, argsToLocals, Value.category]; done) | rfl
def Q13 (Z : State) (pr0 : Addr) (w_DEF : Addr) (kk_w_DEF : ClassId) (u_modCount_pr0 : Value) (h0 : Heap) (n0 : Nat) (v : Option Value) (h : Heap) (L : List Loc) : Prop := ∃ b2 : Addr, ∃ b2_1 : ClassId, v = some (.ref b2) ∧ Fr n0 L ∧ Keep h0 h [pr0] ∧ Exa Z h pr0 "java/util/ArrayList" ∧ Fld Z h pr0 "java/util/AbstractList" "modCount" "I" u_modCount_pr0 ∧ Fld Z h pr0 "java/util/ArrayList" "elementData" "[Ljava/lang/Object;" (.ref b2) ∧ Fld Z h pr0 "java/util/ArrayList" "size" "I" (.int 0) ∧ h0.size ≤ b2 ∧ Exa Z h b2 "[Ljava/lang/Object;" ∧ Arv Z h b2 b2_1 (.object "java/lang/Object") (10 : Int32) [.null, .null, .null, .null, .null, .null, .null, .null, .null, .null] .null ∧ Ovr Z b2_1 "java/lang/Object"
set_option maxRecDepth 65536 in
set_option maxHeartbeats 40000000 in
theorem rm13 (l : Launch) (Z : State) (a0 : Array Value) (hw : ∀ d ∈ tables_1, d.before a0 Z = true) (ws : List Jvm.Cond) (pr0 : Addr) (w_DEF : Addr) (kk_w_DEF : ClassId) (u_modCount_pr0 : Value) (h0 : Heap) (n0 : Nat) (Z0 : n0 ≤ h0.size) (O0 : Old Z n0 h0) (E_pr0 : Exa Z h0 pr0 "java/util/ArrayList") (S_DEFAULTCAPACITY_EMPTY_ELEMENTDATA : Sta Z Z.heap "java/util/ArrayList" "DEFAULTCAPACITY_EMPTY_ELEMENTDATA" "[Ljava/lang/Object;" (.ref w_DEF)) (V_w_DEF : Arv Z Z.heap w_DEF kk_w_DEF (.object "java/lang/Object") (0 : Int32) [] .null) (F_modCount_pr0 : Fld Z h0 pr0 "java/util/AbstractList" "modCount" "I" u_modCount_pr0) (F_elementData_pr0 : Fld Z h0 pr0 "java/util/ArrayList" "elementData" "[Ljava/lang/Object;" (.ref w_DEF)) (F_size_pr0 : Fld Z h0 pr0 "java/util/ArrayList" "size" "I" (.int 0)) (g_pr0 : n0 ≤ pr0) :
    MetFree l mN5 (head1 (Jvm.Cond.code mN5 jdk_38_method_7_code 1 (some (.array (.object "java/lang/Object"))) :: ws) ({ frames := 2, cells := 1, slots := 10, locals := 29 } : Room)) (fun a U => a = #[(.ref pr0)] ∧ Z.Warmed39 U.vm ∧ U.heap = h0) (fun _ _ _ _ _ => True) (fun _ U o U' => ∃ v L, o = .returned v ∧ Q13 Z pr0 w_DEF kk_w_DEF u_modCount_pr0 h0 n0 v U'.heap L ∧ FrameEnd U o U' L ({ frames := 2, cells := 1, slots := 10, locals := 29 } : Room).cells ({ frames := 2, cells := 1, slots := 10, locals := 29 } : Room).slots) := by
  refine MetFree.of_bodySF (plainFor_of_name pn_13) hisR ?_
  intro p e s m args below meth c s₁ Bd hml0 hP hK
  obtain ⟨rfl, hZ, hh⟩ := hP
  have hx := Bd.exec
  have hby := Bd.bytes
  have hml : c.maxLocals = 1 := hml0
  have hown : s.vm.findClass "java/util/ArrayList" = some m.cls := findClass_of_methodNamed Bd.named
  have hnm := (name_of_methodNamed Bd.named Bd.method).1
  have X0 : Stand p l e ({ frames := 2, cells := 1, slots := 10, locals := 29 } : Room) s m #[(.ref pr0)] below meth c s₁ [] 0 0 := Stand.of_body Bd
  have e0 : s₁.heap = h0 := by rw [← hh, Bd.state]; rfl
  have N0 := Fr.nil n0
  have pre0 : ∀ t, Steps p.tables e below (s₁.setTop (mkF m 0 #[vr pr0] [])) t → Steps p.tables e below (s₁.setTop (entryFrame m #[(.ref pr0)] 1)) t := fun t k => castTop (ef_13 m pr0) k
  obtain ⟨T1, X1, e1, st1⟩ := getF X0 hx hZ hown (host := "") (Or.inl (own_W hw 73 rfl)) Via.refl e0 F_size_pr0 (g := (mkF m 2 #[vr pr0] [(.ref pr0), (.ref pr0)])) rfl rfl (hb hby d13_2)
  obtain ⟨cq2, q2, q2'⟩ := E_pr0.cell
  obtain ⟨_, _, ⟨T2, L2, k2, n2⟩, -, X2, ⟨Lc2, hQ2, l2, y2, z2⟩, st2⟩ := X1.privateBack hx (y := mN4) hown (mvT hZ (own_W hw 108 rfl)) (mvT hZ (own_W hw 109 rfl)) (mvT hZ (own_W hw 111 rfl)) (Cond.privateMethod_at (mvP hZ (own_W hw 110 rfl) (args := #[]))) (mvT hZ (own_W hw 112 rfl)) (by decide) (backOf (W := 0) (rm14 l Z a0 hw [] pr0 w_DEF kk_w_DEF u_modCount_pr0 (.int 0) h0 n0 Z0 O0 E_pr0 S_DEFAULTCAPACITY_EMPTY_ELEMENTDATA V_w_DEF F_modCount_pr0 F_elementData_pr0 F_size_pr0 g_pr0) hZ (own_W hw 112 rfl) (own_W hw 9 rfl) (by decide) (by decide)) (g := (mkF m 7 #[vr pr0] [(.int 1), (.ref pr0)])) rfl (by rw [hml]; rfl) (Steps.refl _) (a := pr0) (by rw [e1]; exact q2) q2' (argsL := [(.int 1)]) (rest := []) (lenOf pd_8 rfl) rfl (by show 2 * 0 + _ ≤ _; exact Nat.le_of_eq rfl) (hb hby d13_7) (fun _ _ => ⟨rfl, e1, (by decide : 0 + 1 ≤ _), (by decide : 0 + 10 ≤ _)⟩)
  dsimp only [Pt.U, Pt.locs, Pt.cells, Pt.slots] at X2 l2 y2 z2 st2 hQ2
  subst l2 y2 z2
  obtain ⟨b2, b2_1, rfl, N2q, K2, qf2_0, qf2_1, qf2_2, qf2_3, qf2_4, qf2_5, qf2_6, qf2_7⟩ := hQ2
  have N2 := Fr.app N0 N2q
  have k3 : Keep h0 T2.heap [pr0] := (Keep.refl h0 [pr0]).trans K2 (allS (Or.inl (List.mem_of_getElem? (i := 0) rfl)) all0)
  obtain ⟨fs, hr, hrun, hended, hW, hsame⟩ := X2.leave (v := some (.ref b2)) (fun h => by rw [Bd.returns] at h; cases h) (BodyLoose.notSynchronized Bd)
  refine ⟨_, _, pre0 _ ?_, hrun, hended, _, _, rfl, ?_, ⟨_, rfl⟩, hW, hsame.mono (by decide) (by decide)⟩
  · show Stp p e below s₁ m 0 #[vr pr0] [] _
    refine XS.aloadN X0.here hx rfl (hb hby d13_0) rfl rfl ?_
    refine XS.aloadN X0.here hx rfl (hb hby d13_1) rfl rfl ?_
    refine st1 _ ?_
    show Stp p e below T1 m 5 #[vr pr0] [(.int 0), (.ref pr0)] _
    refine XS.iconst X1.here hx rfl (hb hby d13_5) ?_
    refine XS.iadd X1.here hx rfl (hb hby d13_6) rfl ?_
    refine st2.trans ?_
    show Stp p e below T2 m 10 #[vr pr0] [(.ref b2)] _
    jvm_step X2.here [X2.here.top, hx, (hb hby d13_10), X2.method', Bd.returns, Value.isRef, FieldType.isReference]
    first | (intro acts; rw [hr _ acts rfl rfl rfl]) | rw [hr _ _ rfl rfl rfl]
    exact Steps.refl _
  · show Q13 Z pr0 w_DEF kk_w_DEF u_modCount_pr0 h0 n0 _ T2.heap _
    exact ⟨b2, b2_1, rfl, N2, k3, qf2_0, qf2_1, qf2_2, qf2_3, (Nat.le_trans (Keep.refl h0 [pr0]).1 qf2_4), qf2_5, qf2_6, qf2_7⟩
theorem pd_7 : parseMethodDescriptor "()[Ljava/lang/Object;" = some ⟨[], some (.array (.object "java/lang/Object"))⟩ := by decide +kernel
theorem d12_0 : decode jdk_38_method_24_code 0 = .ok (.iload_n 3, 1) := by decide +kernel
theorem d12_1 : decode jdk_38_method_24_code 1 = .ok (.aload_n 2, 1) := by decide +kernel
theorem d12_2 : decode jdk_38_method_24_code 2 = .ok (.arraylength, 1) := by decide +kernel
theorem d12_3 : decode jdk_38_method_24_code 3 = .ok (.if_icmp .ne 8, 3) := by decide +kernel
theorem d12_6 : decode jdk_38_method_24_code 6 = .ok (.aload_n 0, 1) := by decide +kernel
theorem d12_7 : decode jdk_38_method_24_code 7 = .ok (.invokevirtual 129, 3) := by decide +kernel
theorem d12_10 : decode jdk_38_method_24_code 10 = .ok (.astore_n 2, 1) := by decide +kernel
theorem d12_11 : decode jdk_38_method_24_code 11 = .ok (.aload_n 2, 1) := by decide +kernel
theorem d12_12 : decode jdk_38_method_24_code 12 = .ok (.iload_n 3, 1) := by decide +kernel
theorem d12_13 : decode jdk_38_method_24_code 13 = .ok (.aload_n 1, 1) := by decide +kernel
theorem d12_14 : decode jdk_38_method_24_code 14 = .ok (.aastore, 1) := by decide +kernel
theorem d12_15 : decode jdk_38_method_24_code 15 = .ok (.aload_n 0, 1) := by decide +kernel
theorem d12_16 : decode jdk_38_method_24_code 16 = .ok (.iload_n 3, 1) := by decide +kernel
theorem d12_17 : decode jdk_38_method_24_code 17 = .ok (.iconst 1, 1) := by decide +kernel
theorem d12_18 : decode jdk_38_method_24_code 18 = .ok (.iadd, 1) := by decide +kernel
theorem d12_19 : decode jdk_38_method_24_code 19 = .ok (.putfield 48, 3) := by decide +kernel
theorem d12_22 : decode jdk_38_method_24_code 22 = .ok (.return_, 1) := by decide +kernel
theorem pn_12 : plainName "java/util/ArrayList" = true := by first | (simp [plainName, overriddenIn]; done) | decide +kernel
theorem ef_12__0 (m : MethodId) (pr0 : Addr) (pr1 : Addr) (w_DEF : Addr) : entryFrame m #[(.ref pr0), (.ref pr1), (.ref w_DEF), (.int 0)] 4 = mkF m 0 #[vr pr0, vr pr1, vr w_DEF, vi 0] [] := by first | (simp [entryFrame, mkF, argsToLocals, Value.category]; done) | rfl
def Q12_0 (Z : State) (pr0 : Addr) (pr1 : Addr) (w_DEF : Addr) (kk_w_DEF : ClassId) (u_modCount_pr0 : Value) (h0 : Heap) (n0 : Nat) (v : Option Value) (h : Heap) (L : List Loc) : Prop := ∃ b2 : Addr, ∃ b2_1 : ClassId, v = none ∧ Fr n0 L ∧ Keep h0 h [pr0] ∧ Exa Z h pr0 "java/util/ArrayList" ∧ Fld Z h pr0 "java/util/AbstractList" "modCount" "I" u_modCount_pr0 ∧ Fld Z h pr0 "java/util/ArrayList" "elementData" "[Ljava/lang/Object;" (.ref b2) ∧ Fld Z h pr0 "java/util/ArrayList" "size" "I" (.int 1) ∧ h0.size ≤ b2 ∧ Exa Z h b2 "[Ljava/lang/Object;" ∧ Arv Z h b2 b2_1 (.object "java/lang/Object") (10 : Int32) [(.ref pr1), .null, .null, .null, .null, .null, .null, .null, .null, .null] .null ∧ Ovr Z b2_1 "java/lang/Object"
set_option maxRecDepth 65536 in
set_option maxHeartbeats 40000000 in
theorem rm12_0 (l : Launch) (Z : State) (a0 : Array Value) (hw : ∀ d ∈ tables_1, d.before a0 Z = true) (ws : List Jvm.Cond) (pr0 : Addr) (pr1 : Addr) (w_DEF : Addr) (kk_w_DEF : ClassId) (u_modCount_pr0 : Value) (h0 : Heap) (n0 : Nat) (Z0 : n0 ≤ h0.size) (O0 : Old Z n0 h0) (E_pr0 : Exa Z h0 pr0 "java/util/ArrayList") (E_pr1 : Exa Z h0 pr1 "com/example/tyche/tyche/model/jani/Expression$Operation") (S_DEFAULTCAPACITY_EMPTY_ELEMENTDATA : Sta Z Z.heap "java/util/ArrayList" "DEFAULTCAPACITY_EMPTY_ELEMENTDATA" "[Ljava/lang/Object;" (.ref w_DEF)) (V_w_DEF : Arv Z Z.heap w_DEF kk_w_DEF (.object "java/lang/Object") (0 : Int32) [] .null) (F_modCount_pr0 : Fld Z h0 pr0 "java/util/AbstractList" "modCount" "I" u_modCount_pr0) (F_elementData_pr0 : Fld Z h0 pr0 "java/util/ArrayList" "elementData" "[Ljava/lang/Object;" (.ref w_DEF)) (F_size_pr0 : Fld Z h0 pr0 "java/util/ArrayList" "size" "I" (.int 0)) (g_pr0 : n0 ≤ pr0) :
    MetFree l mN6 (head1 (Jvm.Cond.code mN6 jdk_38_method_24_code 4 none :: ws) ({ frames := 3, cells := 1, slots := 10, locals := 41 } : Room)) (fun a U => a = #[(.ref pr0), (.ref pr1), (.ref w_DEF), (.int 0)] ∧ Z.Warmed39 U.vm ∧ U.heap = h0) (fun _ _ _ _ _ => True) (fun _ U o U' => ∃ v L, o = .returned v ∧ Q12_0 Z pr0 pr1 w_DEF kk_w_DEF u_modCount_pr0 h0 n0 v U'.heap L ∧ FrameEnd U o U' L ({ frames := 3, cells := 1, slots := 10, locals := 41 } : Room).cells ({ frames := 3, cells := 1, slots := 10, locals := 41 } : Room).slots) := by
  refine MetFree.of_bodySF (plainFor_of_name pn_12) hisR ?_
  intro p e s m args below meth c s₁ Bd hml0 hP hK
  obtain ⟨rfl, hZ, hh⟩ := hP
  have hx := Bd.exec
  have hby := Bd.bytes
  have hml : c.maxLocals = 4 := hml0
  have hown : s.vm.findClass "java/util/ArrayList" = some m.cls := findClass_of_methodNamed Bd.named
  have hnm := (name_of_methodNamed Bd.named Bd.method).1
  have X0 : Stand p l e ({ frames := 3, cells := 1, slots := 10, locals := 41 } : Room) s m #[(.ref pr0), (.ref pr1), (.ref w_DEF), (.int 0)] below meth c s₁ [] 0 0 := Stand.of_body Bd
  have e0 : s₁.heap = h0 := by rw [← hh, Bd.state]; rfl
  have N0 := Fr.nil n0
  have pre0 : ∀ t, Steps p.tables e below (s₁.setTop (mkF m 0 #[vr pr0, vr pr1, vr w_DEF, vi 0] [])) t → Steps p.tables e below (s₁.setTop (entryFrame m #[(.ref pr0), (.ref pr1), (.ref w_DEF), (.int 0)] 4)) t := fun t k => castTop (ef_12__0 m pr0 pr1 w_DEF) k
  have V_c1 := (V_w_DEF.ext O0.2)
  obtain ⟨c1, Arc1, qc1, Sc1, Nc1, Hc1, Gc1⟩ := V_c1
  obtain ⟨cq2, q2, q2'⟩ := E_pr0.cell
  obtain ⟨_, _, ⟨T2, L2, k2, n2⟩, -, X2, ⟨Lc2, hQ2, l2, y2, z2⟩, st2⟩ := X0.privateBack hx (y := mN5) hown (mvT hZ (own_W hw 103 rfl)) (mvT hZ (own_W hw 104 rfl)) (mvT hZ (own_W hw 106 rfl)) (Cond.privateMethod_at (mvP hZ (own_W hw 105 rfl) (args := #[]))) (mvT hZ (own_W hw 107 rfl)) (by decide) (backOf (W := 0) (rm13 l Z a0 hw [] pr0 w_DEF kk_w_DEF u_modCount_pr0 h0 n0 Z0 O0 E_pr0 S_DEFAULTCAPACITY_EMPTY_ELEMENTDATA V_w_DEF F_modCount_pr0 F_elementData_pr0 F_size_pr0 g_pr0) hZ (own_W hw 107 rfl) (own_W hw 9 rfl) (by decide) (by decide)) (g := (mkF m 7 #[vr pr0, vr pr1, vr w_DEF, vi 0] [(.ref pr0)])) rfl (by rw [hml]; rfl) (Steps.refl _) (a := pr0) (by rw [e0]; exact q2) q2' (argsL := []) (rest := []) (lenOf pd_7 rfl) rfl (by show 2 * 0 + _ ≤ _; exact Nat.le_of_eq rfl) (hb hby d12_7) (fun _ _ => ⟨rfl, e0, (by decide : 0 + 1 ≤ _), (by decide : 0 + 10 ≤ _)⟩)
  dsimp only [Pt.U, Pt.locs, Pt.cells, Pt.slots] at X2 l2 y2 z2 st2 hQ2
  subst l2 y2 z2
  obtain ⟨b2, b2_1, rfl, N2q, K2, qf2_0, qf2_1, qf2_2, qf2_3, qf2_4, qf2_5, qf2_6, qf2_7⟩ := hQ2
  have N2 := Fr.app N0 N2q
  have g_b2 : n0 ≤ b2 := Nat.le_trans Z0 qf2_4
  have V_c3 := qf2_6
  obtain ⟨c3, Arc3, qc3, Sc3, Nc3, Hc3, Gc3⟩ := V_c3
  have hin4 : ¬ ((0 : Int32) < 0 ∨ c3.slots.size ≤ ((0 : Int32)).toNatClampNeg) := inb_of Sc3 ⟨by decide, by decide⟩
  have f5 := E_pr1.keep K2
  obtain ⟨T4, h4, X4, e4, W4, st4⟩ := stR X2 hx hZ rfl Arc3 (j := (0 : Int32)) hin4 rfl (Sto.ofV Arc3 qc3 qf2_7 (Ins.of_exa f5 (own_W hw 119 rfl))) (g := (mkF m 14 #[vr pr0, vr pr1, vr b2, vi 0] [(.ref pr1), (.int 0), (.ref b2)])) rfl rfl (hb hby d12_14)
  have V4 : Arv Z h4 b2 b2_1 (.object "java/lang/Object") (10 : Int32) [(.ref pr1), .null, .null, .null, .null, .null, .null, .null, .null, .null] .null := Arv.set Arc3 qc3 Sc3 Nc3 Hc3 Gc3 rfl W4 0 rfl (Nat.le_of_ble_eq_true rfl)
  have N4 := Fr.snoc X4 N2 g_b2
  have f6 := qf2_3.other W4 (Or.inl (Nat.ne_of_lt (Nat.lt_of_lt_of_le E_pr0.lt qf2_4)))
  have f7 := qf2_0.wr W4
  obtain ⟨T8, h8, X8, e8, W8, st8⟩ := putF X4 hx hZ hown (host := "") (Or.inl (own_W hw 73 rfl)) Via.refl e4 f6 f7 (Or.inl (own_W hw 74 rfl)) (own_W hw 8 rfl) (ty := .int) (by decide) rfl rfl (g := (mkF m 19 #[vr pr0, vr pr1, vr b2, vi 0] [(.int 1), (.ref pr0)])) rfl rfl (hb hby d12_19)
  have Fw8 := f6.same W8
  have N8 := Fr.snoc X8 N4 g_pr0
  have k9 : Keep h0 T2.heap [pr0] := (Keep.refl h0 [pr0]).trans K2 (allS (Or.inl (List.mem_of_getElem? (i := 0) rfl)) all0)
  have k10 : Keep h0 h4 [pr0] := k9.wr W4 (Or.inr (Nat.le_trans (Keep.refl h0 [pr0]).1 qf2_4))
  have k11 : Keep h0 h8 [pr0] := k10.wr W8 (Or.inl (List.mem_of_getElem? (i := 0) rfl))
  have f12 := f7.wr W8
  have f13 := qf2_1.other W4 (Or.inl (Nat.ne_of_lt (Nat.lt_of_lt_of_le E_pr0.lt qf2_4)))
  have f14 := f13.other W8 (Or.inr (slot_ne (Or.inl (own_W hw 29 rfl)) (Or.inl (own_W hw 74 rfl)) (by decide) (t := .int) (t' := .int) (by decide) (by decide)))
  have f15 := qf2_2.other W4 (Or.inl (Nat.ne_of_lt (Nat.lt_of_lt_of_le E_pr0.lt qf2_4)))
  have f16 := f15.other W8 (Or.inr (slot_ne (Or.inl (own_W hw 32 rfl)) (Or.inl (own_W hw 74 rfl)) (by decide) (t := (.array (.object "java/lang/Object"))) (t' := .int) (by decide) (by decide)))
  have f17 := qf2_5.wr W4
  have f18 := f17.wr W8
  have f19 := V4.other W8 (Ne.symm (Nat.ne_of_lt (Nat.lt_of_lt_of_le E_pr0.lt qf2_4)))
  obtain ⟨fs, hr, hrun, hended, hW, hsame⟩ := X8.leave (v := none) (fun _ => rfl) (BodyLoose.notSynchronized Bd)
  refine ⟨_, _, pre0 _ ?_, hrun, hended, _, _, rfl, ?_, ⟨_, rfl⟩, hW, hsame.mono (by decide) (by decide)⟩
  · show Stp p e below s₁ m 0 #[vr pr0, vr pr1, vr w_DEF, vi 0] [] _
    refine XS.iloadN X0.here hx rfl (hb hby d12_0) rfl ?_
    refine XS.aloadN X0.here hx rfl (hb hby d12_1) rfl rfl ?_
    refine X0.arraylength hx (by rw [e0]; exact Arc1.1) (State.isArrayOf_alike hZ.alike Arc1.2.1) (g := (mkF m 2 #[vr pr0, vr pr1, vr w_DEF, vi 0] [(.ref w_DEF), (.int 0)])) rfl rfl (hb hby d12_2) _ ?_
    rw [len_of Sc1 Nc1]
    show Stp p e below s₁ m 3 #[vr pr0, vr pr1, vr w_DEF, vi 0] [(.int 0), (.int 0)] _
    refine XS.icmpNo X0.here hx rfl (hb hby d12_3) rfl (teq (rfl : (0 : Int32) = (0 : Int32))).2 ?_
    show Stp p e below s₁ m 6 #[vr pr0, vr pr1, vr w_DEF, vi 0] [] _
    refine XS.aloadN X0.here hx rfl (hb hby d12_6) rfl rfl ?_
    refine st2.trans ?_
    show Stp p e below T2 m 10 #[vr pr0, vr pr1, vr w_DEF, vi 0] [(.ref b2)] _
    refine XS.astoreN X2.here hx rfl (hb hby d12_10) rfl rfl (l' := #[vr pr0, vr pr1, vr b2, vi 0]) rfl ?_
    refine XS.aloadN X2.here hx rfl (hb hby d12_11) rfl rfl ?_
    refine XS.iloadN X2.here hx rfl (hb hby d12_12) rfl ?_
    refine XS.aloadN X2.here hx rfl (hb hby d12_13) rfl rfl ?_
    refine st4 _ ?_
    show Stp p e below T4 m 15 #[vr pr0, vr pr1, vr b2, vi 0] [] _
    refine XS.aloadN X4.here hx rfl (hb hby d12_15) rfl rfl ?_
    refine XS.iloadN X4.here hx rfl (hb hby d12_16) rfl ?_
    refine XS.iconst X4.here hx rfl (hb hby d12_17) ?_
    refine XS.iadd X4.here hx rfl (hb hby d12_18) rfl ?_
    refine st8 _ ?_
    show Stp p e below T8 m 22 #[vr pr0, vr pr1, vr b2, vi 0] [] _
    exact X8.returnOut hx Bd.returns (hb hby d12_22) hr
  · show Q12_0 Z pr0 pr1 w_DEF kk_w_DEF u_modCount_pr0 h0 n0 _ T8.heap _
    rw [e8]
    exact ⟨b2, b2_1, rfl, N8, k11, f12, f14, f16, Fw8, (Nat.le_trans (Keep.refl h0 [pr0]).1 qf2_4), f18, f19, qf2_7⟩
theorem ef_12__1 (m : MethodId) (pr0 : Addr) (pr1 : Addr) (pr2 : Addr) : entryFrame m #[(.ref pr0), (.ref pr1), (.ref pr2), (.int 1)] 4 = mkF m 0 #[vr pr0, vr pr1, vr pr2, vi 1] [] := by first | (simp [entryFrame, mkF, argsToLocals, Value.category]; done) | rfl
def Q12_1 (Z : State) (pr0 : Addr) (pr1 : Addr) (pr2 : Addr) (kk_pr2 : ClassId) (c0_pr2 : Value) (c1_pr2 : Value) (c2_pr2 : Value) (c3_pr2 : Value) (c4_pr2 : Value) (c5_pr2 : Value) (c6_pr2 : Value) (c7_pr2 : Value) (c8_pr2 : Value) (c9_pr2 : Value) (u_modCount_pr0 : Value) (h0 : Heap) (n0 : Nat) (v : Option Value) (h : Heap) (L : List Loc) : Prop := v = none ∧ Fr n0 L ∧ Keep h0 h [pr0, pr2] ∧ Exa Z h pr0 "java/util/ArrayList" ∧ Fld Z h pr0 "java/util/AbstractList" "modCount" "I" u_modCount_pr0 ∧ Fld Z h pr0 "java/util/ArrayList" "elementData" "[Ljava/lang/Object;" (.ref pr2) ∧ Fld Z h pr0 "java/util/ArrayList" "size" "I" (.int 2) ∧ Arv Z h pr2 kk_pr2 (.object "java/lang/Object") (10 : Int32) [c0_pr2, (.ref pr1), c2_pr2, c3_pr2, c4_pr2, c5_pr2, c6_pr2, c7_pr2, c8_pr2, c9_pr2] .null ∧ Ovr Z kk_pr2 "java/lang/Object"
set_option maxRecDepth 65536 in
set_option maxHeartbeats 40000000 in
theorem rm12_1 (l : Launch) (Z : State) (a0 : Array Value) (hw : ∀ d ∈ tables_1, d.before a0 Z = true) (ws : List Jvm.Cond) (pr0 : Addr) (pr1 : Addr) (pr2 : Addr) (kk_pr2 : ClassId) (c0_pr2 : Value) (c1_pr2 : Value) (c2_pr2 : Value) (c3_pr2 : Value) (c4_pr2 : Value) (c5_pr2 : Value) (c6_pr2 : Value) (c7_pr2 : Value) (c8_pr2 : Value) (c9_pr2 : Value) (u_modCount_pr0 : Value) (h0 : Heap) (n0 : Nat) (Z0 : n0 ≤ h0.size) (O0 : Old Z n0 h0) (E_pr0 : Exa Z h0 pr0 "java/util/ArrayList") (E_pr1 : Exa Z h0 pr1 "com/example/tyche/tyche/model/jani/Expression$Operation") (V_pr2 : Arv Z h0 pr2 kk_pr2 (.object "java/lang/Object") (10 : Int32) [c0_pr2, c1_pr2, c2_pr2, c3_pr2, c4_pr2, c5_pr2, c6_pr2, c7_pr2, c8_pr2, c9_pr2] .null) (ovr_pr2 : Ovr Z kk_pr2 "java/lang/Object") (F_modCount_pr0 : Fld Z h0 pr0 "java/util/AbstractList" "modCount" "I" u_modCount_pr0) (F_elementData_pr0 : Fld Z h0 pr0 "java/util/ArrayList" "elementData" "[Ljava/lang/Object;" (.ref pr2)) (F_size_pr0 : Fld Z h0 pr0 "java/util/ArrayList" "size" "I" (.int 1)) (g_pr2 : n0 ≤ pr2) (ne_pr0_pr2 : pr0 ≠ pr2) (g_pr0 : n0 ≤ pr0) :
    MetFree l mN6 (head1 (Jvm.Cond.code mN6 jdk_38_method_24_code 4 none :: ws) ({ frames := 0, cells := 0, slots := 0, locals := 0 } : Room)) (fun a U => a = #[(.ref pr0), (.ref pr1), (.ref pr2), (.int 1)] ∧ Z.Warmed39 U.vm ∧ U.heap = h0) (fun _ _ _ _ _ => True) (fun _ U o U' => ∃ v L, o = .returned v ∧ Q12_1 Z pr0 pr1 pr2 kk_pr2 c0_pr2 c1_pr2 c2_pr2 c3_pr2 c4_pr2 c5_pr2 c6_pr2 c7_pr2 c8_pr2 c9_pr2 u_modCount_pr0 h0 n0 v U'.heap L ∧ FrameEnd U o U' L ({ frames := 0, cells := 0, slots := 0, locals := 0 } : Room).cells ({ frames := 0, cells := 0, slots := 0, locals := 0 } : Room).slots) := by
  refine MetFree.of_bodySF (plainFor_of_name pn_12) hisR ?_
  intro p e s m args below meth c s₁ Bd hml0 hP hK
  obtain ⟨rfl, hZ, hh⟩ := hP
  have hx := Bd.exec
  have hby := Bd.bytes
  have hml : c.maxLocals = 4 := hml0
  have hown : s.vm.findClass "java/util/ArrayList" = some m.cls := findClass_of_methodNamed Bd.named
  have hnm := (name_of_methodNamed Bd.named Bd.method).1
  have X0 : Stand p l e ({ frames := 0, cells := 0, slots := 0, locals := 0 } : Room) s m #[(.ref pr0), (.ref pr1), (.ref pr2), (.int 1)] below meth c s₁ [] 0 0 := Stand.of_body Bd
  have e0 : s₁.heap = h0 := by rw [← hh, Bd.state]; rfl
  have N0 := Fr.nil n0
  have pre0 : ∀ t, Steps p.tables e below (s₁.setTop (mkF m 0 #[vr pr0, vr pr1, vr pr2, vi 1] [])) t → Steps p.tables e below (s₁.setTop (entryFrame m #[(.ref pr0), (.ref pr1), (.ref pr2), (.int 1)] 4)) t := fun t k => castTop (ef_12__1 m pr0 pr1 pr2) k
  have V_c1 := V_pr2
  obtain ⟨c1, Arc1, qc1, Sc1, Nc1, Hc1, Gc1⟩ := V_c1
  have V_c2 := V_pr2
  obtain ⟨c2, Arc2, qc2, Sc2, Nc2, Hc2, Gc2⟩ := V_c2
  have hin3 : ¬ ((1 : Int32) < 0 ∨ c2.slots.size ≤ ((1 : Int32)).toNatClampNeg) := inb_of Sc2 ⟨by decide, by decide⟩
  obtain ⟨T3, h3, X3, e3, W3, st3⟩ := stR X0 hx hZ e0 Arc2 (j := (1 : Int32)) hin3 rfl (Sto.ofV Arc2 qc2 ovr_pr2 (Ins.of_exa E_pr1 (own_W hw 119 rfl))) (g := (mkF m 14 #[vr pr0, vr pr1, vr pr2, vi 1] [(.ref pr1), (.int 1), (.ref pr2)])) rfl rfl (hb hby d12_14)
  have V3 : Arv Z h3 pr2 kk_pr2 (.object "java/lang/Object") (10 : Int32) [c0_pr2, (.ref pr1), c2_pr2, c3_pr2, c4_pr2, c5_pr2, c6_pr2, c7_pr2, c8_pr2, c9_pr2] .null := Arv.set Arc2 qc2 Sc2 Nc2 Hc2 Gc2 rfl W3 1 rfl (Nat.le_of_ble_eq_true rfl)
  have N3 := Fr.snoc X3 N0 g_pr2
  have f4 := F_size_pr0.other W3 (Or.inl ne_pr0_pr2)
  have f5 := E_pr0.wr W3
  obtain ⟨T6, h6, X6, e6, W6, st6⟩ := putF X3 hx hZ hown (host := "") (Or.inl (own_W hw 73 rfl)) Via.refl e3 f4 f5 (Or.inl (own_W hw 74 rfl)) (own_W hw 8 rfl) (ty := .int) (by decide) rfl rfl (g := (mkF m 19 #[vr pr0, vr pr1, vr pr2, vi 1] [(.int 2), (.ref pr0)])) rfl rfl (hb hby d12_19)
  have Fw6 := f4.same W6
  have N6 := Fr.snoc X6 N3 g_pr0
  have k7 : Keep h0 h3 [pr0, pr2] := (Keep.refl h0 [pr0, pr2]).wr W3 (Or.inl (List.mem_of_getElem? (i := 1) rfl))
  have k8 : Keep h0 h6 [pr0, pr2] := k7.wr W6 (Or.inl (List.mem_of_getElem? (i := 0) rfl))
  have f9 := f5.wr W6
  have f10 := F_modCount_pr0.other W3 (Or.inl ne_pr0_pr2)
  have f11 := f10.other W6 (Or.inr (slot_ne (Or.inl (own_W hw 29 rfl)) (Or.inl (own_W hw 74 rfl)) (by decide) (t := .int) (t' := .int) (by decide) (by decide)))
  have f12 := F_elementData_pr0.other W3 (Or.inl ne_pr0_pr2)
  have f13 := f12.other W6 (Or.inr (slot_ne (Or.inl (own_W hw 32 rfl)) (Or.inl (own_W hw 74 rfl)) (by decide) (t := (.array (.object "java/lang/Object"))) (t' := .int) (by decide) (by decide)))
  have f14 := V3.other W6 (Ne.symm ne_pr0_pr2)
  obtain ⟨fs, hr, hrun, hended, hW, hsame⟩ := X6.leave (v := none) (fun _ => rfl) (BodyLoose.notSynchronized Bd)
  refine ⟨_, _, pre0 _ ?_, hrun, hended, _, _, rfl, ?_, ⟨_, rfl⟩, hW, hsame.mono (by decide) (by decide)⟩
  · show Stp p e below s₁ m 0 #[vr pr0, vr pr1, vr pr2, vi 1] [] _
    refine XS.iloadN X0.here hx rfl (hb hby d12_0) rfl ?_
    refine XS.aloadN X0.here hx rfl (hb hby d12_1) rfl rfl ?_
    refine X0.arraylength hx (by rw [e0]; exact Arc1.1) (State.isArrayOf_alike hZ.alike Arc1.2.1) (g := (mkF m 2 #[vr pr0, vr pr1, vr pr2, vi 1] [(.ref pr2), (.int 1)])) rfl rfl (hb hby d12_2) _ ?_
    rw [len_of Sc1 Nc1]
    show Stp p e below s₁ m 3 #[vr pr0, vr pr1, vr pr2, vi 1] [(.int 10), (.int 1)] _
    refine XS.icmpYes X0.here hx rfl (pc0 := 3) (pc' := 11) rfl (hb hby d12_3) rfl (feq (by decide : ¬ ((1 : Int32) = (10 : Int32)))).2 (by decide) (by decide) ?_
    show Stp p e below s₁ m 11 #[vr pr0, vr pr1, vr pr2, vi 1] [] _
    refine XS.aloadN X0.here hx rfl (hb hby d12_11) rfl rfl ?_
    refine XS.iloadN X0.here hx rfl (hb hby d12_12) rfl ?_
    refine XS.aloadN X0.here hx rfl (hb hby d12_13) rfl rfl ?_
    refine st3 _ ?_
    show Stp p e below T3 m 15 #[vr pr0, vr pr1, vr pr2, vi 1] [] _
    refine XS.aloadN X3.here hx rfl (hb hby d12_15) rfl rfl ?_
    refine XS.iloadN X3.here hx rfl (hb hby d12_16) rfl ?_
    refine XS.iconst X3.here hx rfl (hb hby d12_17) ?_
    refine XS.iadd X3.here hx rfl (hb hby d12_18) rfl ?_
    refine st6 _ ?_
    show Stp p e below T6 m 22 #[vr pr0, vr pr1, vr pr2, vi 1] [] _
    exact X6.returnOut hx Bd.returns (hb hby d12_22) hr
  · show Q12_1 Z pr0 pr1 pr2 kk_pr2 c0_pr2 c1_pr2 c2_pr2 c3_pr2 c4_pr2 c5_pr2 c6_pr2 c7_pr2 c8_pr2 c9_pr2 u_modCount_pr0 h0 n0 _ T6.heap _
    rw [e6]
    exact ⟨rfl, N6, k8, f9, f11, f13, Fw6, f14, ovr_pr2⟩
theorem ef_12__2 (m : MethodId) (pr0 : Addr) (pr1 : Addr) (pr2 : Addr) : entryFrame m #[(.ref pr0), (.ref pr1), (.ref pr2), (.int 2)] 4 = mkF m 0 #[vr pr0, vr pr1, vr pr2, vi 2] [] := by first | (simp [entryFrame, mkF, argsToLocals, Value.category]; done) | rfl
def Q12_2 (Z : State) (pr0 : Addr) (pr1 : Addr) (pr2 : Addr) (kk_pr2 : ClassId) (c0_pr2 : Value) (c1_pr2 : Value) (c2_pr2 : Value) (c3_pr2 : Value) (c4_pr2 : Value) (c5_pr2 : Value) (c6_pr2 : Value) (c7_pr2 : Value) (c8_pr2 : Value) (c9_pr2 : Value) (u_modCount_pr0 : Value) (h0 : Heap) (n0 : Nat) (v : Option Value) (h : Heap) (L : List Loc) : Prop := v = none ∧ Fr n0 L ∧ Keep h0 h [pr0, pr2] ∧ Exa Z h pr0 "java/util/ArrayList" ∧ Fld Z h pr0 "java/util/AbstractList" "modCount" "I" u_modCount_pr0 ∧ Fld Z h pr0 "java/util/ArrayList" "elementData" "[Ljava/lang/Object;" (.ref pr2) ∧ Fld Z h pr0 "java/util/ArrayList" "size" "I" (.int 3) ∧ Arv Z h pr2 kk_pr2 (.object "java/lang/Object") (10 : Int32) [c0_pr2, c1_pr2, (.ref pr1), c3_pr2, c4_pr2, c5_pr2, c6_pr2, c7_pr2, c8_pr2, c9_pr2] .null ∧ Ovr Z kk_pr2 "java/lang/Object"
set_option maxRecDepth 65536 in
set_option maxHeartbeats 40000000 in
theorem rm12_2 (l : Launch) (Z : State) (a0 : Array Value) (hw : ∀ d ∈ tables_1, d.before a0 Z = true) (ws : List Jvm.Cond) (pr0 : Addr) (pr1 : Addr) (pr2 : Addr) (kk_pr2 : ClassId) (c0_pr2 : Value) (c1_pr2 : Value) (c2_pr2 : Value) (c3_pr2 : Value) (c4_pr2 : Value) (c5_pr2 : Value) (c6_pr2 : Value) (c7_pr2 : Value) (c8_pr2 : Value) (c9_pr2 : Value) (u_modCount_pr0 : Value) (h0 : Heap) (n0 : Nat) (Z0 : n0 ≤ h0.size) (O0 : Old Z n0 h0) (E_pr0 : Exa Z h0 pr0 "java/util/ArrayList") (E_pr1 : Exa Z h0 pr1 "com/example/tyche/tyche/model/jani/Expression$Operation") (V_pr2 : Arv Z h0 pr2 kk_pr2 (.object "java/lang/Object") (10 : Int32) [c0_pr2, c1_pr2, c2_pr2, c3_pr2, c4_pr2, c5_pr2, c6_pr2, c7_pr2, c8_pr2, c9_pr2] .null) (ovr_pr2 : Ovr Z kk_pr2 "java/lang/Object") (F_modCount_pr0 : Fld Z h0 pr0 "java/util/AbstractList" "modCount" "I" u_modCount_pr0) (F_elementData_pr0 : Fld Z h0 pr0 "java/util/ArrayList" "elementData" "[Ljava/lang/Object;" (.ref pr2)) (F_size_pr0 : Fld Z h0 pr0 "java/util/ArrayList" "size" "I" (.int 2)) (g_pr2 : n0 ≤ pr2) (ne_pr0_pr2 : pr0 ≠ pr2) (g_pr0 : n0 ≤ pr0) :
    MetFree l mN6 (head1 (Jvm.Cond.code mN6 jdk_38_method_24_code 4 none :: ws) ({ frames := 0, cells := 0, slots := 0, locals := 0 } : Room)) (fun a U => a = #[(.ref pr0), (.ref pr1), (.ref pr2), (.int 2)] ∧ Z.Warmed39 U.vm ∧ U.heap = h0) (fun _ _ _ _ _ => True) (fun _ U o U' => ∃ v L, o = .returned v ∧ Q12_2 Z pr0 pr1 pr2 kk_pr2 c0_pr2 c1_pr2 c2_pr2 c3_pr2 c4_pr2 c5_pr2 c6_pr2 c7_pr2 c8_pr2 c9_pr2 u_modCount_pr0 h0 n0 v U'.heap L ∧ FrameEnd U o U' L ({ frames := 0, cells := 0, slots := 0, locals := 0 } : Room).cells ({ frames := 0, cells := 0, slots := 0, locals := 0 } : Room).slots) := by
  refine MetFree.of_bodySF (plainFor_of_name pn_12) hisR ?_
  intro p e s m args below meth c s₁ Bd hml0 hP hK
  obtain ⟨rfl, hZ, hh⟩ := hP
  have hx := Bd.exec
  have hby := Bd.bytes
  have hml : c.maxLocals = 4 := hml0
  have hown : s.vm.findClass "java/util/ArrayList" = some m.cls := findClass_of_methodNamed Bd.named
  have hnm := (name_of_methodNamed Bd.named Bd.method).1
  have X0 : Stand p l e ({ frames := 0, cells := 0, slots := 0, locals := 0 } : Room) s m #[(.ref pr0), (.ref pr1), (.ref pr2), (.int 2)] below meth c s₁ [] 0 0 := Stand.of_body Bd
  have e0 : s₁.heap = h0 := by rw [← hh, Bd.state]; rfl
  have N0 := Fr.nil n0
  have pre0 : ∀ t, Steps p.tables e below (s₁.setTop (mkF m 0 #[vr pr0, vr pr1, vr pr2, vi 2] [])) t → Steps p.tables e below (s₁.setTop (entryFrame m #[(.ref pr0), (.ref pr1), (.ref pr2), (.int 2)] 4)) t := fun t k => castTop (ef_12__2 m pr0 pr1 pr2) k
  have V_c1 := V_pr2
  obtain ⟨c1, Arc1, qc1, Sc1, Nc1, Hc1, Gc1⟩ := V_c1
  have V_c2 := V_pr2
  obtain ⟨c2, Arc2, qc2, Sc2, Nc2, Hc2, Gc2⟩ := V_c2
  have hin3 : ¬ ((2 : Int32) < 0 ∨ c2.slots.size ≤ ((2 : Int32)).toNatClampNeg) := inb_of Sc2 ⟨by decide, by decide⟩
  obtain ⟨T3, h3, X3, e3, W3, st3⟩ := stR X0 hx hZ e0 Arc2 (j := (2 : Int32)) hin3 rfl (Sto.ofV Arc2 qc2 ovr_pr2 (Ins.of_exa E_pr1 (own_W hw 119 rfl))) (g := (mkF m 14 #[vr pr0, vr pr1, vr pr2, vi 2] [(.ref pr1), (.int 2), (.ref pr2)])) rfl rfl (hb hby d12_14)
  have V3 : Arv Z h3 pr2 kk_pr2 (.object "java/lang/Object") (10 : Int32) [c0_pr2, c1_pr2, (.ref pr1), c3_pr2, c4_pr2, c5_pr2, c6_pr2, c7_pr2, c8_pr2, c9_pr2] .null := Arv.set Arc2 qc2 Sc2 Nc2 Hc2 Gc2 rfl W3 2 rfl (Nat.le_of_ble_eq_true rfl)
  have N3 := Fr.snoc X3 N0 g_pr2
  have f4 := F_size_pr0.other W3 (Or.inl ne_pr0_pr2)
  have f5 := E_pr0.wr W3
  obtain ⟨T6, h6, X6, e6, W6, st6⟩ := putF X3 hx hZ hown (host := "") (Or.inl (own_W hw 73 rfl)) Via.refl e3 f4 f5 (Or.inl (own_W hw 74 rfl)) (own_W hw 8 rfl) (ty := .int) (by decide) rfl rfl (g := (mkF m 19 #[vr pr0, vr pr1, vr pr2, vi 2] [(.int 3), (.ref pr0)])) rfl rfl (hb hby d12_19)
  have Fw6 := f4.same W6
  have N6 := Fr.snoc X6 N3 g_pr0
  have k7 : Keep h0 h3 [pr0, pr2] := (Keep.refl h0 [pr0, pr2]).wr W3 (Or.inl (List.mem_of_getElem? (i := 1) rfl))
  have k8 : Keep h0 h6 [pr0, pr2] := k7.wr W6 (Or.inl (List.mem_of_getElem? (i := 0) rfl))
  have f9 := f5.wr W6
  have f10 := F_modCount_pr0.other W3 (Or.inl ne_pr0_pr2)
  have f11 := f10.other W6 (Or.inr (slot_ne (Or.inl (own_W hw 29 rfl)) (Or.inl (own_W hw 74 rfl)) (by decide) (t := .int) (t' := .int) (by decide) (by decide)))
  have f12 := F_elementData_pr0.other W3 (Or.inl ne_pr0_pr2)
  have f13 := f12.other W6 (Or.inr (slot_ne (Or.inl (own_W hw 32 rfl)) (Or.inl (own_W hw 74 rfl)) (by decide) (t := (.array (.object "java/lang/Object"))) (t' := .int) (by decide) (by decide)))
  have f14 := V3.other W6 (Ne.symm ne_pr0_pr2)
  obtain ⟨fs, hr, hrun, hended, hW, hsame⟩ := X6.leave (v := none) (fun _ => rfl) (BodyLoose.notSynchronized Bd)
  refine ⟨_, _, pre0 _ ?_, hrun, hended, _, _, rfl, ?_, ⟨_, rfl⟩, hW, hsame.mono (by decide) (by decide)⟩
  · show Stp p e below s₁ m 0 #[vr pr0, vr pr1, vr pr2, vi 2] [] _
    refine XS.iloadN X0.here hx rfl (hb hby d12_0) rfl ?_
    refine XS.aloadN X0.here hx rfl (hb hby d12_1) rfl rfl ?_
    refine X0.arraylength hx (by rw [e0]; exact Arc1.1) (State.isArrayOf_alike hZ.alike Arc1.2.1) (g := (mkF m 2 #[vr pr0, vr pr1, vr pr2, vi 2] [(.ref pr2), (.int 2)])) rfl rfl (hb hby d12_2) _ ?_
    rw [len_of Sc1 Nc1]
    show Stp p e below s₁ m 3 #[vr pr0, vr pr1, vr pr2, vi 2] [(.int 10), (.int 2)] _
    refine XS.icmpYes X0.here hx rfl (pc0 := 3) (pc' := 11) rfl (hb hby d12_3) rfl (feq (by decide : ¬ ((2 : Int32) = (10 : Int32)))).2 (by decide) (by decide) ?_
    show Stp p e below s₁ m 11 #[vr pr0, vr pr1, vr pr2, vi 2] [] _
    refine XS.aloadN X0.here hx rfl (hb hby d12_11) rfl rfl ?_
    refine XS.iloadN X0.here hx rfl (hb hby d12_12) rfl ?_
    refine XS.aloadN X0.here hx rfl (hb hby d12_13) rfl rfl ?_
    refine st3 _ ?_
    show Stp p e below T3 m 15 #[vr pr0, vr pr1, vr pr2, vi 2] [] _
    refine XS.aloadN X3.here hx rfl (hb hby d12_15) rfl rfl ?_
    refine XS.iloadN X3.here hx rfl (hb hby d12_16) rfl ?_
    refine XS.iconst X3.here hx rfl (hb hby d12_17) ?_
    refine XS.iadd X3.here hx rfl (hb hby d12_18) rfl ?_
    refine st6 _ ?_
    show Stp p e below T6 m 22 #[vr pr0, vr pr1, vr pr2, vi 2] [] _
    exact X6.returnOut hx Bd.returns (hb hby d12_22) hr
  · show Q12_2 Z pr0 pr1 pr2 kk_pr2 c0_pr2 c1_pr2 c2_pr2 c3_pr2 c4_pr2 c5_pr2 c6_pr2 c7_pr2 c8_pr2 c9_pr2 u_modCount_pr0 h0 n0 _ T6.heap _
    rw [e6]
    exact ⟨rfl, N6, k8, f9, f11, f13, Fw6, f14, ovr_pr2⟩
theorem ef_12__3 (m : MethodId) (pr0 : Addr) (pr1 : Addr) (pr2 : Addr) : entryFrame m #[(.ref pr0), (.ref pr1), (.ref pr2), (.int 3)] 4 = mkF m 0 #[vr pr0, vr pr1, vr pr2, vi 3] [] := by first | (simp [entryFrame, mkF, argsToLocals, Value.category]; done) | rfl
def Q12_3 (Z : State) (pr0 : Addr) (pr1 : Addr) (pr2 : Addr) (kk_pr2 : ClassId) (c0_pr2 : Value) (c1_pr2 : Value) (c2_pr2 : Value) (c3_pr2 : Value) (c4_pr2 : Value) (c5_pr2 : Value) (c6_pr2 : Value) (c7_pr2 : Value) (c8_pr2 : Value) (c9_pr2 : Value) (u_modCount_pr0 : Value) (h0 : Heap) (n0 : Nat) (v : Option Value) (h : Heap) (L : List Loc) : Prop := v = none ∧ Fr n0 L ∧ Keep h0 h [pr0, pr2] ∧ Exa Z h pr0 "java/util/ArrayList" ∧ Fld Z h pr0 "java/util/AbstractList" "modCount" "I" u_modCount_pr0 ∧ Fld Z h pr0 "java/util/ArrayList" "elementData" "[Ljava/lang/Object;" (.ref pr2) ∧ Fld Z h pr0 "java/util/ArrayList" "size" "I" (.int 4) ∧ Arv Z h pr2 kk_pr2 (.object "java/lang/Object") (10 : Int32) [c0_pr2, c1_pr2, c2_pr2, (.ref pr1), c4_pr2, c5_pr2, c6_pr2, c7_pr2, c8_pr2, c9_pr2] .null ∧ Ovr Z kk_pr2 "java/lang/Object"
set_option maxRecDepth 65536 in
set_option maxHeartbeats 40000000 in
theorem rm12_3 (l : Launch) (Z : State) (a0 : Array Value) (hw : ∀ d ∈ tables_1, d.before a0 Z = true) (ws : List Jvm.Cond) (pr0 : Addr) (pr1 : Addr) (pr2 : Addr) (kk_pr2 : ClassId) (c0_pr2 : Value) (c1_pr2 : Value) (c2_pr2 : Value) (c3_pr2 : Value) (c4_pr2 : Value) (c5_pr2 : Value) (c6_pr2 : Value) (c7_pr2 : Value) (c8_pr2 : Value) (c9_pr2 : Value) (u_modCount_pr0 : Value) (h0 : Heap) (n0 : Nat) (Z0 : n0 ≤ h0.size) (O0 : Old Z n0 h0) (E_pr0 : Exa Z h0 pr0 "java/util/ArrayList") (E_pr1 : Exa Z h0 pr1 "com/example/tyche/tyche/model/jani/Expression$Operation") (V_pr2 : Arv Z h0 pr2 kk_pr2 (.object "java/lang/Object") (10 : Int32) [c0_pr2, c1_pr2, c2_pr2, c3_pr2, c4_pr2, c5_pr2, c6_pr2, c7_pr2, c8_pr2, c9_pr2] .null) (ovr_pr2 : Ovr Z kk_pr2 "java/lang/Object") (F_modCount_pr0 : Fld Z h0 pr0 "java/util/AbstractList" "modCount" "I" u_modCount_pr0) (F_elementData_pr0 : Fld Z h0 pr0 "java/util/ArrayList" "elementData" "[Ljava/lang/Object;" (.ref pr2)) (F_size_pr0 : Fld Z h0 pr0 "java/util/ArrayList" "size" "I" (.int 3)) (g_pr2 : n0 ≤ pr2) (ne_pr0_pr2 : pr0 ≠ pr2) (g_pr0 : n0 ≤ pr0) :
    MetFree l mN6 (head1 (Jvm.Cond.code mN6 jdk_38_method_24_code 4 none :: ws) ({ frames := 0, cells := 0, slots := 0, locals := 0 } : Room)) (fun a U => a = #[(.ref pr0), (.ref pr1), (.ref pr2), (.int 3)] ∧ Z.Warmed39 U.vm ∧ U.heap = h0) (fun _ _ _ _ _ => True) (fun _ U o U' => ∃ v L, o = .returned v ∧ Q12_3 Z pr0 pr1 pr2 kk_pr2 c0_pr2 c1_pr2 c2_pr2 c3_pr2 c4_pr2 c5_pr2 c6_pr2 c7_pr2 c8_pr2 c9_pr2 u_modCount_pr0 h0 n0 v U'.heap L ∧ FrameEnd U o U' L ({ frames := 0, cells := 0, slots := 0, locals := 0 } : Room).cells ({ frames := 0, cells := 0, slots := 0, locals := 0 } : Room).slots) := by
  refine MetFree.of_bodySF (plainFor_of_name pn_12) hisR ?_
  intro p e s m args below meth c s₁ Bd hml0 hP hK
  obtain ⟨rfl, hZ, hh⟩ := hP
  have hx := Bd.exec
  have hby := Bd.bytes
  have hml : c.maxLocals = 4 := hml0
  have hown : s.vm.findClass "java/util/ArrayList" = some m.cls := findClass_of_methodNamed Bd.named
  have hnm := (name_of_methodNamed Bd.named Bd.method).1
  have X0 : Stand p l e ({ frames := 0, cells := 0, slots := 0, locals := 0 } : Room) s m #[(.ref pr0), (.ref pr1), (.ref pr2), (.int 3)] below meth c s₁ [] 0 0 := Stand.of_body Bd
  have e0 : s₁.heap = h0 := by rw [← hh, Bd.state]; rfl
  have N0 := Fr.nil n0
  have pre0 : ∀ t, Steps p.tables e below (s₁.setTop (mkF m 0 #[vr pr0, vr pr1, vr pr2, vi 3] [])) t → Steps p.tables e below (s₁.setTop (entryFrame m #[(.ref pr0), (.ref pr1), (.ref pr2), (.int 3)] 4)) t := fun t k => castTop (ef_12__3 m pr0 pr1 pr2) k
  have V_c1 := V_pr2
  obtain ⟨c1, Arc1, qc1, Sc1, Nc1, Hc1, Gc1⟩ := V_c1
  have V_c2 := V_pr2
  obtain ⟨c2, Arc2, qc2, Sc2, Nc2, Hc2, Gc2⟩ := V_c2
  have hin3 : ¬ ((3 : Int32) < 0 ∨ c2.slots.size ≤ ((3 : Int32)).toNatClampNeg) := inb_of Sc2 ⟨by decide, by decide⟩
  obtain ⟨T3, h3, X3, e3, W3, st3⟩ := stR X0 hx hZ e0 Arc2 (j := (3 : Int32)) hin3 rfl (Sto.ofV Arc2 qc2 ovr_pr2 (Ins.of_exa E_pr1 (own_W hw 119 rfl))) (g := (mkF m 14 #[vr pr0, vr pr1, vr pr2, vi 3] [(.ref pr1), (.int 3), (.ref pr2)])) rfl rfl (hb hby d12_14)
  have V3 : Arv Z h3 pr2 kk_pr2 (.object "java/lang/Object") (10 : Int32) [c0_pr2, c1_pr2, c2_pr2, (.ref pr1), c4_pr2, c5_pr2, c6_pr2, c7_pr2, c8_pr2, c9_pr2] .null := Arv.set Arc2 qc2 Sc2 Nc2 Hc2 Gc2 rfl W3 3 rfl (Nat.le_of_ble_eq_true rfl)
  have N3 := Fr.snoc X3 N0 g_pr2
  have f4 := F_size_pr0.other W3 (Or.inl ne_pr0_pr2)
  have f5 := E_pr0.wr W3
  obtain ⟨T6, h6, X6, e6, W6, st6⟩ := putF X3 hx hZ hown (host := "") (Or.inl (own_W hw 73 rfl)) Via.refl e3 f4 f5 (Or.inl (own_W hw 74 rfl)) (own_W hw 8 rfl) (ty := .int) (by decide) rfl rfl (g := (mkF m 19 #[vr pr0, vr pr1, vr pr2, vi 3] [(.int 4), (.ref pr0)])) rfl rfl (hb hby d12_19)
  have Fw6 := f4.same W6
  have N6 := Fr.snoc X6 N3 g_pr0
  have k7 : Keep h0 h3 [pr0, pr2] := (Keep.refl h0 [pr0, pr2]).wr W3 (Or.inl (List.mem_of_getElem? (i := 1) rfl))
  have k8 : Keep h0 h6 [pr0, pr2] := k7.wr W6 (Or.inl (List.mem_of_getElem? (i := 0) rfl))
  have f9 := f5.wr W6
  have f10 := F_modCount_pr0.other W3 (Or.inl ne_pr0_pr2)
  have f11 := f10.other W6 (Or.inr (slot_ne (Or.inl (own_W hw 29 rfl)) (Or.inl (own_W hw 74 rfl)) (by decide) (t := .int) (t' := .int) (by decide) (by decide)))
  have f12 := F_elementData_pr0.other W3 (Or.inl ne_pr0_pr2)
  have f13 := f12.other W6 (Or.inr (slot_ne (Or.inl (own_W hw 32 rfl)) (Or.inl (own_W hw 74 rfl)) (by decide) (t := (.array (.object "java/lang/Object"))) (t' := .int) (by decide) (by decide)))
  have f14 := V3.other W6 (Ne.symm ne_pr0_pr2)
  obtain ⟨fs, hr, hrun, hended, hW, hsame⟩ := X6.leave (v := none) (fun _ => rfl) (BodyLoose.notSynchronized Bd)
  refine ⟨_, _, pre0 _ ?_, hrun, hended, _, _, rfl, ?_, ⟨_, rfl⟩, hW, hsame.mono (by decide) (by decide)⟩
  · show Stp p e below s₁ m 0 #[vr pr0, vr pr1, vr pr2, vi 3] [] _
    refine XS.iloadN X0.here hx rfl (hb hby d12_0) rfl ?_
    refine XS.aloadN X0.here hx rfl (hb hby d12_1) rfl rfl ?_
    refine X0.arraylength hx (by rw [e0]; exact Arc1.1) (State.isArrayOf_alike hZ.alike Arc1.2.1) (g := (mkF m 2 #[vr pr0, vr pr1, vr pr2, vi 3] [(.ref pr2), (.int 3)])) rfl rfl (hb hby d12_2) _ ?_
    rw [len_of Sc1 Nc1]
    show Stp p e below s₁ m 3 #[vr pr0, vr pr1, vr pr2, vi 3] [(.int 10), (.int 3)] _
    refine XS.icmpYes X0.here hx rfl (pc0 := 3) (pc' := 11) rfl (hb hby d12_3) rfl (feq (by decide : ¬ ((3 : Int32) = (10 : Int32)))).2 (by decide) (by decide) ?_
    show Stp p e below s₁ m 11 #[vr pr0, vr pr1, vr pr2, vi 3] [] _
    refine XS.aloadN X0.here hx rfl (hb hby d12_11) rfl rfl ?_
    refine XS.iloadN X0.here hx rfl (hb hby d12_12) rfl ?_
    refine XS.aloadN X0.here hx rfl (hb hby d12_13) rfl rfl ?_
    refine st3 _ ?_
    show Stp p e below T3 m 15 #[vr pr0, vr pr1, vr pr2, vi 3] [] _
    refine XS.aloadN X3.here hx rfl (hb hby d12_15) rfl rfl ?_
    refine XS.iloadN X3.here hx rfl (hb hby d12_16) rfl ?_
    refine XS.iconst X3.here hx rfl (hb hby d12_17) ?_
    refine XS.iadd X3.here hx rfl (hb hby d12_18) rfl ?_
    refine st6 _ ?_
    show Stp p e below T6 m 22 #[vr pr0, vr pr1, vr pr2, vi 3] [] _
    exact X6.returnOut hx Bd.returns (hb hby d12_22) hr
  · show Q12_3 Z pr0 pr1 pr2 kk_pr2 c0_pr2 c1_pr2 c2_pr2 c3_pr2 c4_pr2 c5_pr2 c6_pr2 c7_pr2 c8_pr2 c9_pr2 u_modCount_pr0 h0 n0 _ T6.heap _
    rw [e6]
    exact ⟨rfl, N6, k8, f9, f11, f13, Fw6, f14, ovr_pr2⟩
theorem pd_6 : parseMethodDescriptor "(Ljava/lang/Object;[Ljava/lang/Object;I)V" = some ⟨[(.object "java/lang/Object"), (.array (.object "java/lang/Object")), .int], none⟩ := by decide +kernel
theorem d11_0 : decode jdk_38_method_25_code 0 = .ok (.aload_n 0, 1) := by decide +kernel
theorem d11_1 : decode jdk_38_method_25_code 1 = .ok (.dup, 1) := by decide +kernel
theorem d11_2 : decode jdk_38_method_25_code 2 = .ok (.getfield 63, 3) := by decide +kernel
theorem d11_5 : decode jdk_38_method_25_code 5 = .ok (.iconst 1, 1) := by decide +kernel
theorem d11_6 : decode jdk_38_method_25_code 6 = .ok (.iadd, 1) := by decide +kernel
theorem d11_7 : decode jdk_38_method_25_code 7 = .ok (.putfield 63, 3) := by decide +kernel
theorem d11_10 : decode jdk_38_method_25_code 10 = .ok (.aload_n 0, 1) := by decide +kernel
theorem d11_11 : decode jdk_38_method_25_code 11 = .ok (.aload_n 1, 1) := by decide +kernel
theorem d11_12 : decode jdk_38_method_25_code 12 = .ok (.aload_n 0, 1) := by decide +kernel
theorem d11_13 : decode jdk_38_method_25_code 13 = .ok (.getfield 9, 3) := by decide +kernel
theorem d11_16 : decode jdk_38_method_25_code 16 = .ok (.aload_n 0, 1) := by decide +kernel
theorem d11_17 : decode jdk_38_method_25_code 17 = .ok (.getfield 48, 3) := by decide +kernel
theorem d11_20 : decode jdk_38_method_25_code 20 = .ok (.invokevirtual 131, 3) := by decide +kernel
theorem d11_23 : decode jdk_38_method_25_code 23 = .ok (.iconst 1, 1) := by decide +kernel
theorem d11_24 : decode jdk_38_method_25_code 24 = .ok (.ireturn, 1) := by decide +kernel
theorem pn_11 : plainName "java/util/ArrayList" = true := by first | (simp [plainName, overriddenIn]; done) | decide +kernel
theorem ef_11 (m : MethodId) (pr0 : Addr) (pr1 : Addr) : entryFrame m #[(.ref pr0), (.ref pr1)] 2 = mkF m 0 #[vr pr0, vr pr1] [] := by first | (simp [entryFrame, mkF, argsToLocals, Value.category]; done) | rfl
def Q11_0 (Z : State) (pr0 : Addr) (pr1 : Addr) (w_DEF : Addr) (kk_w_DEF : ClassId) (w_mod : Int32) (h0 : Heap) (n0 : Nat) (v : Option Value) (h : Heap) (L : List Loc) : Prop := ∃ b9 : Addr, ∃ b9_1 : ClassId, v = some (.int 1) ∧ Fr n0 L ∧ Keep h0 h [pr0] ∧ Exa Z h pr0 "java/util/ArrayList" ∧ Fld Z h pr0 "java/util/AbstractList" "modCount" "I" (.int (w_mod + (1 : Int32))) ∧ Fld Z h pr0 "java/util/ArrayList" "elementData" "[Ljava/lang/Object;" (.ref b9) ∧ Fld Z h pr0 "java/util/ArrayList" "size" "I" (.int 1) ∧ h0.size ≤ b9 ∧ Exa Z h b9 "[Ljava/lang/Object;" ∧ Arv Z h b9 b9_1 (.object "java/lang/Object") (10 : Int32) [(.ref pr1), .null, .null, .null, .null, .null, .null, .null, .null, .null] .null ∧ Ovr Z b9_1 "java/lang/Object"
set_option maxRecDepth 65536 in
set_option maxHeartbeats 40000000 in
theorem rm11_0 (l : Launch) (Z : State) (a0 : Array Value) (hw : ∀ d ∈ tables_1, d.before a0 Z = true) (ws : List Jvm.Cond) (pr0 : Addr) (pr1 : Addr) (w_DEF : Addr) (kk_w_DEF : ClassId) (w_mod : Int32) (h0 : Heap) (n0 : Nat) (Z0 : n0 ≤ h0.size) (O0 : Old Z n0 h0) (E_pr0 : Exa Z h0 pr0 "java/util/ArrayList") (E_pr1 : Exa Z h0 pr1 "com/example/tyche/tyche/model/jani/Expression$Operation") (S_DEFAULTCAPACITY_EMPTY_ELEMENTDATA : Sta Z Z.heap "java/util/ArrayList" "DEFAULTCAPACITY_EMPTY_ELEMENTDATA" "[Ljava/lang/Object;" (.ref w_DEF)) (V_w_DEF : Arv Z Z.heap w_DEF kk_w_DEF (.object "java/lang/Object") (0 : Int32) [] .null) (F_modCount_pr0 : Fld Z h0 pr0 "java/util/AbstractList" "modCount" "I" (.int w_mod)) (F_elementData_pr0 : Fld Z h0 pr0 "java/util/ArrayList" "elementData" "[Ljava/lang/Object;" (.ref w_DEF)) (F_size_pr0 : Fld Z h0 pr0 "java/util/ArrayList" "size" "I" (.int 0)) (g_pr0 : n0 ≤ pr0) :
    MetFree l mN7 (head1 (Jvm.Cond.code mN7 jdk_38_method_25_code 2 (some .boolean) :: ws) ({ frames := 4, cells := 1, slots := 10, locals := 56 } : Room)) (fun a U => a = #[(.ref pr0), (.ref pr1)] ∧ Z.Warmed39 U.vm ∧ U.heap = h0) (fun _ _ _ _ _ => True) (fun _ U o U' => ∃ v L, o = .returned v ∧ Q11_0 Z pr0 pr1 w_DEF kk_w_DEF w_mod h0 n0 v U'.heap L ∧ FrameEnd U o U' L ({ frames := 4, cells := 1, slots := 10, locals := 56 } : Room).cells ({ frames := 4, cells := 1, slots := 10, locals := 56 } : Room).slots) := by
  refine MetFree.of_bodySF (plainFor_of_name pn_11) hisR ?_
  intro p e s m args below meth c s₁ Bd hml0 hP hK
  obtain ⟨rfl, hZ, hh⟩ := hP
  have hx := Bd.exec
  have hby := Bd.bytes
  have hml : c.maxLocals = 2 := hml0
  have hown : s.vm.findClass "java/util/ArrayList" = some m.cls := findClass_of_methodNamed Bd.named
  have hnm := (name_of_methodNamed Bd.named Bd.method).1
  have X0 : Stand p l e ({ frames := 4, cells := 1, slots := 10, locals := 56 } : Room) s m #[(.ref pr0), (.ref pr1)] below meth c s₁ [] 0 0 := Stand.of_body Bd
  have e0 : s₁.heap = h0 := by rw [← hh, Bd.state]; rfl
  have N0 := Fr.nil n0
  have pre0 : ∀ t, Steps p.tables e below (s₁.setTop (mkF m 0 #[vr pr0, vr pr1] [])) t → Steps p.tables e below (s₁.setTop (entryFrame m #[(.ref pr0), (.ref pr1)] 2)) t := fun t k => castTop (ef_11 m pr0 pr1) k
  obtain ⟨T1, X1, e1, st1⟩ := getF X0 hx hZ hown (host := "") (Or.inl (own_W hw 96 rfl)) (Via.of (own_W hw 97 rfl)) e0 F_modCount_pr0 (g := (mkF m 2 #[vr pr0, vr pr1] [(.ref pr0), (.ref pr0)])) rfl rfl (hb hby d11_2)
  obtain ⟨T2, h2, X2, e2, W2, st2⟩ := putF X1 hx hZ hown (host := "") (Or.inl (own_W hw 96 rfl)) (Via.of (own_W hw 97 rfl)) e1 F_modCount_pr0 E_pr0 (Or.inl (own_W hw 29 rfl)) (own_W hw 8 rfl) (ty := .int) (by decide) rfl rfl (g := (mkF m 7 #[vr pr0, vr pr1] [(.int (w_mod + (1 : Int32))), (.ref pr0)])) rfl rfl (hb hby d11_7)
  have Fw2 := F_modCount_pr0.same W2
  have N2 := Fr.snoc X2 N0 g_pr0
  have f4 := F_elementData_pr0.other W2 (Or.inr (slot_ne (Or.inl (own_W hw 32 rfl)) (Or.inl (own_W hw 29 rfl)) (by decide) (t := (.array (.object "java/lang/Object"))) (t' := .int) (by decide) (by decide)))
  obtain ⟨T3, X3, e3, st3⟩ := getF X2 hx hZ hown (host := "") (Or.inl (own_W hw 31 rfl)) Via.refl e2 f4 (g := (mkF m 13 #[vr pr0, vr pr1] [(.ref pr0), (.ref pr1), (.ref pr0)])) rfl rfl (hb hby d11_13)
  have f6 := F_size_pr0.other W2 (Or.inr (slot_ne (Or.inl (own_W hw 74 rfl)) (Or.inl (own_W hw 29 rfl)) (by decide) (t := .int) (t' := .int) (by decide) (by decide)))
  obtain ⟨T5, X5, e5, st5⟩ := getF X3 hx hZ hown (host := "") (Or.inl (own_W hw 73 rfl)) Via.refl e3 f6 (g := (mkF m 17 #[vr pr0, vr pr1] [(.ref pr0), (.ref w_DEF), (.ref pr1), (.ref pr0)])) rfl rfl (hb hby d11_17)
  have f7 := E_pr0.wr W2
  have f8 := E_pr1.wr W2
  have z10 := Nat.le_trans Z0 (Keep.of_wr W2).1
  have o11 := O0.wr W2 g_pr0
  obtain ⟨cq9, q9, q9'⟩ := f7.cell
  obtain ⟨_, _, ⟨T9, L9, k9, n9⟩, -, X9, ⟨Lc9, hQ9, l9, y9, z9⟩, st9⟩ := X5.privateBack hx (y := mN6) hown (mvT hZ (own_W hw 98 rfl)) (mvT hZ (own_W hw 99 rfl)) (mvT hZ (own_W hw 101 rfl)) (Cond.privateMethod_at (mvP hZ (own_W hw 100 rfl) (args := #[]))) (mvT hZ (own_W hw 102 rfl)) (by decide) (backOf (W := 0) (rm12_0 l Z a0 hw [] pr0 pr1 w_DEF kk_w_DEF (.int (w_mod + (1 : Int32))) h2 n0 z10 o11 f7 f8 S_DEFAULTCAPACITY_EMPTY_ELEMENTDATA V_w_DEF Fw2 f4 f6 g_pr0) hZ (own_W hw 102 rfl) (own_W hw 9 rfl) (by decide) (by decide)) (g := (mkF m 20 #[vr pr0, vr pr1] [(.int 0), (.ref w_DEF), (.ref pr1), (.ref pr0)])) rfl (by rw [hml]; rfl) (Steps.refl _) (a := pr0) (by rw [e5]; exact q9) q9' (argsL := [(.ref pr1), (.ref w_DEF), (.int 0)]) (rest := []) (lenOf pd_6 rfl) rfl (by show 2 * 0 + _ ≤ _; exact Nat.le_of_eq rfl) (hb hby d11_20) (fun _ _ => ⟨rfl, e5, (by decide : 0 + 1 ≤ _), (by decide : 0 + 10 ≤ _)⟩)
  dsimp only [Pt.U, Pt.locs, Pt.cells, Pt.slots] at X9 l9 y9 z9 st9 hQ9
  subst l9 y9 z9
  obtain ⟨b9, b9_1, rfl, N9q, K9, qf9_0, qf9_1, qf9_2, qf9_3, qf9_4, qf9_5, qf9_6, qf9_7⟩ := hQ9
  have N9 := Fr.app N2 N9q
  have k12 : Keep h0 h2 [pr0] := (Keep.refl h0 [pr0]).wr W2 (Or.inl (List.mem_of_getElem? (i := 0) rfl))
  have k13 : Keep h0 T9.heap [pr0] := k12.trans K9 (allS (Or.inl (List.mem_of_getElem? (i := 0) rfl)) all0)
  obtain ⟨fs, hr, hrun, hended, hW, hsame⟩ := X9.leave (v := some (.int 1)) (fun h => by rw [Bd.returns] at h; cases h) (BodyLoose.notSynchronized Bd)
  refine ⟨_, _, pre0 _ ?_, hrun, hended, _, _, rfl, ?_, ⟨_, rfl⟩, hW, hsame.mono (by decide) (by decide)⟩
  · show Stp p e below s₁ m 0 #[vr pr0, vr pr1] [] _
    refine XS.aloadN X0.here hx rfl (hb hby d11_0) rfl rfl ?_
    refine XS.dup X0.here hx rfl (hb hby d11_1) rfl rfl ?_
    refine st1 _ ?_
    show Stp p e below T1 m 5 #[vr pr0, vr pr1] [(.int w_mod), (.ref pr0)] _
    refine XS.iconst X1.here hx rfl (hb hby d11_5) ?_
    refine XS.iadd X1.here hx rfl (hb hby d11_6) rfl ?_
    refine st2 _ ?_
    show Stp p e below T2 m 10 #[vr pr0, vr pr1] [] _
    refine XS.aloadN X2.here hx rfl (hb hby d11_10) rfl rfl ?_
    refine XS.aloadN X2.here hx rfl (hb hby d11_11) rfl rfl ?_
    refine XS.aloadN X2.here hx rfl (hb hby d11_12) rfl rfl ?_
    refine st3 _ ?_
    show Stp p e below T3 m 16 #[vr pr0, vr pr1] [(.ref w_DEF), (.ref pr1), (.ref pr0)] _
    refine XS.aloadN X3.here hx rfl (hb hby d11_16) rfl rfl ?_
    refine st5 _ ?_
    show Stp p e below T5 m 20 #[vr pr0, vr pr1] [(.int 0), (.ref w_DEF), (.ref pr1), (.ref pr0)] _
    refine st9.trans ?_
    show Stp p e below T9 m 23 #[vr pr0, vr pr1] [] _
    refine XS.iconst X9.here hx rfl (hb hby d11_23) ?_
    exact retN X9 hx (t := .boolean) Bd.returns (by simp) (hb hby d11_24) hr
  · show Q11_0 Z pr0 pr1 w_DEF kk_w_DEF w_mod h0 n0 _ T9.heap _
    exact ⟨b9, b9_1, rfl, N9, k13, qf9_0, qf9_1, qf9_2, qf9_3, (Nat.le_trans k12.1 qf9_4), qf9_5, qf9_6, qf9_7⟩
def Q11_1 (Z : State) (pr0 : Addr) (pr1 : Addr) (w_mod : Int32) (w_arr : Addr) (kk_w_arr : ClassId) (c0_w_arr : Value) (c1_w_arr : Value) (c2_w_arr : Value) (c3_w_arr : Value) (c4_w_arr : Value) (c5_w_arr : Value) (c6_w_arr : Value) (c7_w_arr : Value) (c8_w_arr : Value) (c9_w_arr : Value) (h0 : Heap) (n0 : Nat) (v : Option Value) (h : Heap) (L : List Loc) : Prop := v = some (.int 1) ∧ Fr n0 L ∧ Keep h0 h [pr0, w_arr] ∧ Exa Z h pr0 "java/util/ArrayList" ∧ Fld Z h pr0 "java/util/AbstractList" "modCount" "I" (.int (w_mod + (1 : Int32))) ∧ Fld Z h pr0 "java/util/ArrayList" "elementData" "[Ljava/lang/Object;" (.ref w_arr) ∧ Fld Z h pr0 "java/util/ArrayList" "size" "I" (.int 2) ∧ Arv Z h w_arr kk_w_arr (.object "java/lang/Object") (10 : Int32) [c0_w_arr, (.ref pr1), c2_w_arr, c3_w_arr, c4_w_arr, c5_w_arr, c6_w_arr, c7_w_arr, c8_w_arr, c9_w_arr] .null ∧ Ovr Z kk_w_arr "java/lang/Object"
set_option maxRecDepth 65536 in
set_option maxHeartbeats 40000000 in
theorem rm11_1 (l : Launch) (Z : State) (a0 : Array Value) (hw : ∀ d ∈ tables_1, d.before a0 Z = true) (ws : List Jvm.Cond) (pr0 : Addr) (pr1 : Addr) (w_mod : Int32) (w_arr : Addr) (kk_w_arr : ClassId) (c0_w_arr : Value) (c1_w_arr : Value) (c2_w_arr : Value) (c3_w_arr : Value) (c4_w_arr : Value) (c5_w_arr : Value) (c6_w_arr : Value) (c7_w_arr : Value) (c8_w_arr : Value) (c9_w_arr : Value) (h0 : Heap) (n0 : Nat) (Z0 : n0 ≤ h0.size) (O0 : Old Z n0 h0) (E_pr0 : Exa Z h0 pr0 "java/util/ArrayList") (E_pr1 : Exa Z h0 pr1 "com/example/tyche/tyche/model/jani/Expression$Operation") (F_modCount_pr0 : Fld Z h0 pr0 "java/util/AbstractList" "modCount" "I" (.int w_mod)) (F_elementData_pr0 : Fld Z h0 pr0 "java/util/ArrayList" "elementData" "[Ljava/lang/Object;" (.ref w_arr)) (V_w_arr : Arv Z h0 w_arr kk_w_arr (.object "java/lang/Object") (10 : Int32) [c0_w_arr, c1_w_arr, c2_w_arr, c3_w_arr, c4_w_arr, c5_w_arr, c6_w_arr, c7_w_arr, c8_w_arr, c9_w_arr] .null) (ovr_w_arr : Ovr Z kk_w_arr "java/lang/Object") (F_size_pr0 : Fld Z h0 pr0 "java/util/ArrayList" "size" "I" (.int 1)) (g_pr0 : n0 ≤ pr0) (ne_w_arr_pr0 : w_arr ≠ pr0) (g_w_arr : n0 ≤ w_arr) :
    MetFree l mN7 (head1 (Jvm.Cond.code mN7 jdk_38_method_25_code 2 (some .boolean) :: ws) ({ frames := 1, cells := 0, slots := 0, locals := 15 } : Room)) (fun a U => a = #[(.ref pr0), (.ref pr1)] ∧ Z.Warmed39 U.vm ∧ U.heap = h0) (fun _ _ _ _ _ => True) (fun _ U o U' => ∃ v L, o = .returned v ∧ Q11_1 Z pr0 pr1 w_mod w_arr kk_w_arr c0_w_arr c1_w_arr c2_w_arr c3_w_arr c4_w_arr c5_w_arr c6_w_arr c7_w_arr c8_w_arr c9_w_arr h0 n0 v U'.heap L ∧ FrameEnd U o U' L ({ frames := 1, cells := 0, slots := 0, locals := 15 } : Room).cells ({ frames := 1, cells := 0, slots := 0, locals := 15 } : Room).slots) := by
  refine MetFree.of_bodySF (plainFor_of_name pn_11) hisR ?_
  intro p e s m args below meth c s₁ Bd hml0 hP hK
  obtain ⟨rfl, hZ, hh⟩ := hP
  have hx := Bd.exec
  have hby := Bd.bytes
  have hml : c.maxLocals = 2 := hml0
  have hown : s.vm.findClass "java/util/ArrayList" = some m.cls := findClass_of_methodNamed Bd.named
  have hnm := (name_of_methodNamed Bd.named Bd.method).1
  have X0 : Stand p l e ({ frames := 1, cells := 0, slots := 0, locals := 15 } : Room) s m #[(.ref pr0), (.ref pr1)] below meth c s₁ [] 0 0 := Stand.of_body Bd
  have e0 : s₁.heap = h0 := by rw [← hh, Bd.state]; rfl
  have N0 := Fr.nil n0
  have pre0 : ∀ t, Steps p.tables e below (s₁.setTop (mkF m 0 #[vr pr0, vr pr1] [])) t → Steps p.tables e below (s₁.setTop (entryFrame m #[(.ref pr0), (.ref pr1)] 2)) t := fun t k => castTop (ef_11 m pr0 pr1) k
  obtain ⟨T1, X1, e1, st1⟩ := getF X0 hx hZ hown (host := "") (Or.inl (own_W hw 96 rfl)) (Via.of (own_W hw 97 rfl)) e0 F_modCount_pr0 (g := (mkF m 2 #[vr pr0, vr pr1] [(.ref pr0), (.ref pr0)])) rfl rfl (hb hby d11_2)
  obtain ⟨T2, h2, X2, e2, W2, st2⟩ := putF X1 hx hZ hown (host := "") (Or.inl (own_W hw 96 rfl)) (Via.of (own_W hw 97 rfl)) e1 F_modCount_pr0 E_pr0 (Or.inl (own_W hw 29 rfl)) (own_W hw 8 rfl) (ty := .int) (by decide) rfl rfl (g := (mkF m 7 #[vr pr0, vr pr1] [(.int (w_mod + (1 : Int32))), (.ref pr0)])) rfl rfl (hb hby d11_7)
  have Fw2 := F_modCount_pr0.same W2
  have N2 := Fr.snoc X2 N0 g_pr0
  have f4 := F_elementData_pr0.other W2 (Or.inr (slot_ne (Or.inl (own_W hw 32 rfl)) (Or.inl (own_W hw 29 rfl)) (by decide) (t := (.array (.object "java/lang/Object"))) (t' := .int) (by decide) (by decide)))
  obtain ⟨T3, X3, e3, st3⟩ := getF X2 hx hZ hown (host := "") (Or.inl (own_W hw 31 rfl)) Via.refl e2 f4 (g := (mkF m 13 #[vr pr0, vr pr1] [(.ref pr0), (.ref pr1), (.ref pr0)])) rfl rfl (hb hby d11_13)
  have f6 := F_size_pr0.other W2 (Or.inr (slot_ne (Or.inl (own_W hw 74 rfl)) (Or.inl (own_W hw 29 rfl)) (by decide) (t := .int) (t' := .int) (by decide) (by decide)))
  obtain ⟨T5, X5, e5, st5⟩ := getF X3 hx hZ hown (host := "") (Or.inl (own_W hw 73 rfl)) Via.refl e3 f6 (g := (mkF m 17 #[vr pr0, vr pr1] [(.ref pr0), (.ref w_arr), (.ref pr1), (.ref pr0)])) rfl rfl (hb hby d11_17)
  have f7 := E_pr0.wr W2
  have f8 := E_pr1.wr W2
  have f9 := V_w_arr.other W2 ne_w_arr_pr0
  have z11 := Nat.le_trans Z0 (Keep.of_wr W2).1
  have o12 := O0.wr W2 g_pr0
  obtain ⟨cq10, q10, q10'⟩ := f7.cell
  obtain ⟨_, _, ⟨T10, L10, k10, n10⟩, -, X10, ⟨Lc10, hQ10, l10, y10, z10⟩, st10⟩ := X5.privateBack hx (y := mN6) hown (mvT hZ (own_W hw 98 rfl)) (mvT hZ (own_W hw 99 rfl)) (mvT hZ (own_W hw 101 rfl)) (Cond.privateMethod_at (mvP hZ (own_W hw 100 rfl) (args := #[]))) (mvT hZ (own_W hw 102 rfl)) (by decide) (backOf (W := 0) (rm12_1 l Z a0 hw [] pr0 pr1 w_arr kk_w_arr c0_w_arr c1_w_arr c2_w_arr c3_w_arr c4_w_arr c5_w_arr c6_w_arr c7_w_arr c8_w_arr c9_w_arr (.int (w_mod + (1 : Int32))) h2 n0 z11 o12 f7 f8 f9 ovr_w_arr Fw2 f4 f6 g_w_arr (Ne.symm ne_w_arr_pr0) g_pr0) hZ (own_W hw 102 rfl) (own_W hw 9 rfl) (by decide) (by decide)) (g := (mkF m 20 #[vr pr0, vr pr1] [(.int 1), (.ref w_arr), (.ref pr1), (.ref pr0)])) rfl (by rw [hml]; rfl) (Steps.refl _) (a := pr0) (by rw [e5]; exact q10) q10' (argsL := [(.ref pr1), (.ref w_arr), (.int 1)]) (rest := []) (lenOf pd_6 rfl) rfl (by show 2 * 0 + _ ≤ _; exact Nat.le_of_eq rfl) (hb hby d11_20) (fun _ _ => ⟨rfl, e5, (by decide : 0 + 0 ≤ _), (by decide : 0 + 0 ≤ _)⟩)
  dsimp only [Pt.U, Pt.locs, Pt.cells, Pt.slots] at X10 l10 y10 z10 st10 hQ10
  subst l10 y10 z10
  obtain ⟨rfl, N10q, K10, qf10_0, qf10_1, qf10_2, qf10_3, qf10_4, qf10_5⟩ := hQ10
  have N10 := Fr.app N2 N10q
  have k13 : Keep h0 h2 [pr0, w_arr] := (Keep.refl h0 [pr0, w_arr]).wr W2 (Or.inl (List.mem_of_getElem? (i := 0) rfl))
  have k14 : Keep h0 T10.heap [pr0, w_arr] := k13.trans K10 (allS (Or.inl (List.mem_of_getElem? (i := 0) rfl)) (allS (Or.inl (List.mem_of_getElem? (i := 1) rfl)) all0))
  obtain ⟨fs, hr, hrun, hended, hW, hsame⟩ := X10.leave (v := some (.int 1)) (fun h => by rw [Bd.returns] at h; cases h) (BodyLoose.notSynchronized Bd)
  refine ⟨_, _, pre0 _ ?_, hrun, hended, _, _, rfl, ?_, ⟨_, rfl⟩, hW, hsame.mono (by decide) (by decide)⟩
  · show Stp p e below s₁ m 0 #[vr pr0, vr pr1] [] _
    refine XS.aloadN X0.here hx rfl (hb hby d11_0) rfl rfl ?_
    refine XS.dup X0.here hx rfl (hb hby d11_1) rfl rfl ?_
    refine st1 _ ?_
    show Stp p e below T1 m 5 #[vr pr0, vr pr1] [(.int w_mod), (.ref pr0)] _
    refine XS.iconst X1.here hx rfl (hb hby d11_5) ?_
    refine XS.iadd X1.here hx rfl (hb hby d11_6) rfl ?_
    refine st2 _ ?_
    show Stp p e below T2 m 10 #[vr pr0, vr pr1] [] _
    refine XS.aloadN X2.here hx rfl (hb hby d11_10) rfl rfl ?_
    refine XS.aloadN X2.here hx rfl (hb hby d11_11) rfl rfl ?_
    refine XS.aloadN X2.here hx rfl (hb hby d11_12) rfl rfl ?_
    refine st3 _ ?_
    show Stp p e below T3 m 16 #[vr pr0, vr pr1] [(.ref w_arr), (.ref pr1), (.ref pr0)] _
    refine XS.aloadN X3.here hx rfl (hb hby d11_16) rfl rfl ?_
    refine st5 _ ?_
    show Stp p e below T5 m 20 #[vr pr0, vr pr1] [(.int 1), (.ref w_arr), (.ref pr1), (.ref pr0)] _
    refine st10.trans ?_
    show Stp p e below T10 m 23 #[vr pr0, vr pr1] [] _
    refine XS.iconst X10.here hx rfl (hb hby d11_23) ?_
    exact retN X10 hx (t := .boolean) Bd.returns (by simp) (hb hby d11_24) hr
  · show Q11_1 Z pr0 pr1 w_mod w_arr kk_w_arr c0_w_arr c1_w_arr c2_w_arr c3_w_arr c4_w_arr c5_w_arr c6_w_arr c7_w_arr c8_w_arr c9_w_arr h0 n0 _ T10.heap _
    exact ⟨rfl, N10, k14, qf10_0, qf10_1, qf10_2, qf10_3, qf10_4, qf10_5⟩
def Q11_2 (Z : State) (pr0 : Addr) (pr1 : Addr) (w_mod : Int32) (w_arr : Addr) (kk_w_arr : ClassId) (c0_w_arr : Value) (c1_w_arr : Value) (c2_w_arr : Value) (c3_w_arr : Value) (c4_w_arr : Value) (c5_w_arr : Value) (c6_w_arr : Value) (c7_w_arr : Value) (c8_w_arr : Value) (c9_w_arr : Value) (h0 : Heap) (n0 : Nat) (v : Option Value) (h : Heap) (L : List Loc) : Prop := v = some (.int 1) ∧ Fr n0 L ∧ Keep h0 h [pr0, w_arr] ∧ Exa Z h pr0 "java/util/ArrayList" ∧ Fld Z h pr0 "java/util/AbstractList" "modCount" "I" (.int (w_mod + (1 : Int32))) ∧ Fld Z h pr0 "java/util/ArrayList" "elementData" "[Ljava/lang/Object;" (.ref w_arr) ∧ Fld Z h pr0 "java/util/ArrayList" "size" "I" (.int 3) ∧ Arv Z h w_arr kk_w_arr (.object "java/lang/Object") (10 : Int32) [c0_w_arr, c1_w_arr, (.ref pr1), c3_w_arr, c4_w_arr, c5_w_arr, c6_w_arr, c7_w_arr, c8_w_arr, c9_w_arr] .null ∧ Ovr Z kk_w_arr "java/lang/Object"
set_option maxRecDepth 65536 in
set_option maxHeartbeats 40000000 in
theorem rm11_2 (l : Launch) (Z : State) (a0 : Array Value) (hw : ∀ d ∈ tables_1, d.before a0 Z = true) (ws : List Jvm.Cond) (pr0 : Addr) (pr1 : Addr) (w_mod : Int32) (w_arr : Addr) (kk_w_arr : ClassId) (c0_w_arr : Value) (c1_w_arr : Value) (c2_w_arr : Value) (c3_w_arr : Value) (c4_w_arr : Value) (c5_w_arr : Value) (c6_w_arr : Value) (c7_w_arr : Value) (c8_w_arr : Value) (c9_w_arr : Value) (h0 : Heap) (n0 : Nat) (Z0 : n0 ≤ h0.size) (O0 : Old Z n0 h0) (E_pr0 : Exa Z h0 pr0 "java/util/ArrayList") (E_pr1 : Exa Z h0 pr1 "com/example/tyche/tyche/model/jani/Expression$Operation") (F_modCount_pr0 : Fld Z h0 pr0 "java/util/AbstractList" "modCount" "I" (.int w_mod)) (F_elementData_pr0 : Fld Z h0 pr0 "java/util/ArrayList" "elementData" "[Ljava/lang/Object;" (.ref w_arr)) (V_w_arr : Arv Z h0 w_arr kk_w_arr (.object "java/lang/Object") (10 : Int32) [c0_w_arr, c1_w_arr, c2_w_arr, c3_w_arr, c4_w_arr, c5_w_arr, c6_w_arr, c7_w_arr, c8_w_arr, c9_w_arr] .null) (ovr_w_arr : Ovr Z kk_w_arr "java/lang/Object") (F_size_pr0 : Fld Z h0 pr0 "java/util/ArrayList" "size" "I" (.int 2)) (g_pr0 : n0 ≤ pr0) (ne_w_arr_pr0 : w_arr ≠ pr0) (g_w_arr : n0 ≤ w_arr) :
    MetFree l mN7 (head1 (Jvm.Cond.code mN7 jdk_38_method_25_code 2 (some .boolean) :: ws) ({ frames := 1, cells := 0, slots := 0, locals := 15 } : Room)) (fun a U => a = #[(.ref pr0), (.ref pr1)] ∧ Z.Warmed39 U.vm ∧ U.heap = h0) (fun _ _ _ _ _ => True) (fun _ U o U' => ∃ v L, o = .returned v ∧ Q11_2 Z pr0 pr1 w_mod w_arr kk_w_arr c0_w_arr c1_w_arr c2_w_arr c3_w_arr c4_w_arr c5_w_arr c6_w_arr c7_w_arr c8_w_arr c9_w_arr h0 n0 v U'.heap L ∧ FrameEnd U o U' L ({ frames := 1, cells := 0, slots := 0, locals := 15 } : Room).cells ({ frames := 1, cells := 0, slots := 0, locals := 15 } : Room).slots) := by
  refine MetFree.of_bodySF (plainFor_of_name pn_11) hisR ?_
  intro p e s m args below meth c s₁ Bd hml0 hP hK
  obtain ⟨rfl, hZ, hh⟩ := hP
  have hx := Bd.exec
  have hby := Bd.bytes
  have hml : c.maxLocals = 2 := hml0
  have hown : s.vm.findClass "java/util/ArrayList" = some m.cls := findClass_of_methodNamed Bd.named
  have hnm := (name_of_methodNamed Bd.named Bd.method).1
  have X0 : Stand p l e ({ frames := 1, cells := 0, slots := 0, locals := 15 } : Room) s m #[(.ref pr0), (.ref pr1)] below meth c s₁ [] 0 0 := Stand.of_body Bd
  have e0 : s₁.heap = h0 := by rw [← hh, Bd.state]; rfl
  have N0 := Fr.nil n0
  have pre0 : ∀ t, Steps p.tables e below (s₁.setTop (mkF m 0 #[vr pr0, vr pr1] [])) t → Steps p.tables e below (s₁.setTop (entryFrame m #[(.ref pr0), (.ref pr1)] 2)) t := fun t k => castTop (ef_11 m pr0 pr1) k
  obtain ⟨T1, X1, e1, st1⟩ := getF X0 hx hZ hown (host := "") (Or.inl (own_W hw 96 rfl)) (Via.of (own_W hw 97 rfl)) e0 F_modCount_pr0 (g := (mkF m 2 #[vr pr0, vr pr1] [(.ref pr0), (.ref pr0)])) rfl rfl (hb hby d11_2)
  obtain ⟨T2, h2, X2, e2, W2, st2⟩ := putF X1 hx hZ hown (host := "") (Or.inl (own_W hw 96 rfl)) (Via.of (own_W hw 97 rfl)) e1 F_modCount_pr0 E_pr0 (Or.inl (own_W hw 29 rfl)) (own_W hw 8 rfl) (ty := .int) (by decide) rfl rfl (g := (mkF m 7 #[vr pr0, vr pr1] [(.int (w_mod + (1 : Int32))), (.ref pr0)])) rfl rfl (hb hby d11_7)
  have Fw2 := F_modCount_pr0.same W2
  have N2 := Fr.snoc X2 N0 g_pr0
  have f4 := F_elementData_pr0.other W2 (Or.inr (slot_ne (Or.inl (own_W hw 32 rfl)) (Or.inl (own_W hw 29 rfl)) (by decide) (t := (.array (.object "java/lang/Object"))) (t' := .int) (by decide) (by decide)))
  obtain ⟨T3, X3, e3, st3⟩ := getF X2 hx hZ hown (host := "") (Or.inl (own_W hw 31 rfl)) Via.refl e2 f4 (g := (mkF m 13 #[vr pr0, vr pr1] [(.ref pr0), (.ref pr1), (.ref pr0)])) rfl rfl (hb hby d11_13)
  have f6 := F_size_pr0.other W2 (Or.inr (slot_ne (Or.inl (own_W hw 74 rfl)) (Or.inl (own_W hw 29 rfl)) (by decide) (t := .int) (t' := .int) (by decide) (by decide)))
  obtain ⟨T5, X5, e5, st5⟩ := getF X3 hx hZ hown (host := "") (Or.inl (own_W hw 73 rfl)) Via.refl e3 f6 (g := (mkF m 17 #[vr pr0, vr pr1] [(.ref pr0), (.ref w_arr), (.ref pr1), (.ref pr0)])) rfl rfl (hb hby d11_17)
  have f7 := E_pr0.wr W2
  have f8 := E_pr1.wr W2
  have f9 := V_w_arr.other W2 ne_w_arr_pr0
  have z11 := Nat.le_trans Z0 (Keep.of_wr W2).1
  have o12 := O0.wr W2 g_pr0
  obtain ⟨cq10, q10, q10'⟩ := f7.cell
  obtain ⟨_, _, ⟨T10, L10, k10, n10⟩, -, X10, ⟨Lc10, hQ10, l10, y10, z10⟩, st10⟩ := X5.privateBack hx (y := mN6) hown (mvT hZ (own_W hw 98 rfl)) (mvT hZ (own_W hw 99 rfl)) (mvT hZ (own_W hw 101 rfl)) (Cond.privateMethod_at (mvP hZ (own_W hw 100 rfl) (args := #[]))) (mvT hZ (own_W hw 102 rfl)) (by decide) (backOf (W := 0) (rm12_2 l Z a0 hw [] pr0 pr1 w_arr kk_w_arr c0_w_arr c1_w_arr c2_w_arr c3_w_arr c4_w_arr c5_w_arr c6_w_arr c7_w_arr c8_w_arr c9_w_arr (.int (w_mod + (1 : Int32))) h2 n0 z11 o12 f7 f8 f9 ovr_w_arr Fw2 f4 f6 g_w_arr (Ne.symm ne_w_arr_pr0) g_pr0) hZ (own_W hw 102 rfl) (own_W hw 9 rfl) (by decide) (by decide)) (g := (mkF m 20 #[vr pr0, vr pr1] [(.int 2), (.ref w_arr), (.ref pr1), (.ref pr0)])) rfl (by rw [hml]; rfl) (Steps.refl _) (a := pr0) (by rw [e5]; exact q10) q10' (argsL := [(.ref pr1), (.ref w_arr), (.int 2)]) (rest := []) (lenOf pd_6 rfl) rfl (by show 2 * 0 + _ ≤ _; exact Nat.le_of_eq rfl) (hb hby d11_20) (fun _ _ => ⟨rfl, e5, (by decide : 0 + 0 ≤ _), (by decide : 0 + 0 ≤ _)⟩)
  dsimp only [Pt.U, Pt.locs, Pt.cells, Pt.slots] at X10 l10 y10 z10 st10 hQ10
  subst l10 y10 z10
  obtain ⟨rfl, N10q, K10, qf10_0, qf10_1, qf10_2, qf10_3, qf10_4, qf10_5⟩ := hQ10
  have N10 := Fr.app N2 N10q
  have k13 : Keep h0 h2 [pr0, w_arr] := (Keep.refl h0 [pr0, w_arr]).wr W2 (Or.inl (List.mem_of_getElem? (i := 0) rfl))
  have k14 : Keep h0 T10.heap [pr0, w_arr] := k13.trans K10 (allS (Or.inl (List.mem_of_getElem? (i := 0) rfl)) (allS (Or.inl (List.mem_of_getElem? (i := 1) rfl)) all0))
  obtain ⟨fs, hr, hrun, hended, hW, hsame⟩ := X10.leave (v := some (.int 1)) (fun h => by rw [Bd.returns] at h; cases h) (BodyLoose.notSynchronized Bd)
  refine ⟨_, _, pre0 _ ?_, hrun, hended, _, _, rfl, ?_, ⟨_, rfl⟩, hW, hsame.mono (by decide) (by decide)⟩
  · show Stp p e below s₁ m 0 #[vr pr0, vr pr1] [] _
    refine XS.aloadN X0.here hx rfl (hb hby d11_0) rfl rfl ?_
    refine XS.dup X0.here hx rfl (hb hby d11_1) rfl rfl ?_
    refine st1 _ ?_
    show Stp p e below T1 m 5 #[vr pr0, vr pr1] [(.int w_mod), (.ref pr0)] _
    refine XS.iconst X1.here hx rfl (hb hby d11_5) ?_
    refine XS.iadd X1.here hx rfl (hb hby d11_6) rfl ?_
    refine st2 _ ?_
    show Stp p e below T2 m 10 #[vr pr0, vr pr1] [] _
    refine XS.aloadN X2.here hx rfl (hb hby d11_10) rfl rfl ?_
    refine XS.aloadN X2.here hx rfl (hb hby d11_11) rfl rfl ?_
    refine XS.aloadN X2.here hx rfl (hb hby d11_12) rfl rfl ?_
    refine st3 _ ?_
    show Stp p e below T3 m 16 #[vr pr0, vr pr1] [(.ref w_arr), (.ref pr1), (.ref pr0)] _
    refine XS.aloadN X3.here hx rfl (hb hby d11_16) rfl rfl ?_
    refine st5 _ ?_
    show Stp p e below T5 m 20 #[vr pr0, vr pr1] [(.int 2), (.ref w_arr), (.ref pr1), (.ref pr0)] _
    refine st10.trans ?_
    show Stp p e below T10 m 23 #[vr pr0, vr pr1] [] _
    refine XS.iconst X10.here hx rfl (hb hby d11_23) ?_
    exact retN X10 hx (t := .boolean) Bd.returns (by simp) (hb hby d11_24) hr
  · show Q11_2 Z pr0 pr1 w_mod w_arr kk_w_arr c0_w_arr c1_w_arr c2_w_arr c3_w_arr c4_w_arr c5_w_arr c6_w_arr c7_w_arr c8_w_arr c9_w_arr h0 n0 _ T10.heap _
    exact ⟨rfl, N10, k14, qf10_0, qf10_1, qf10_2, qf10_3, qf10_4, qf10_5⟩
def Q11_3 (Z : State) (pr0 : Addr) (pr1 : Addr) (w_mod : Int32) (w_arr : Addr) (kk_w_arr : ClassId) (c0_w_arr : Value) (c1_w_arr : Value) (c2_w_arr : Value) (c3_w_arr : Value) (c4_w_arr : Value) (c5_w_arr : Value) (c6_w_arr : Value) (c7_w_arr : Value) (c8_w_arr : Value) (c9_w_arr : Value) (h0 : Heap) (n0 : Nat) (v : Option Value) (h : Heap) (L : List Loc) : Prop := v = some (.int 1) ∧ Fr n0 L ∧ Keep h0 h [pr0, w_arr] ∧ Exa Z h pr0 "java/util/ArrayList" ∧ Fld Z h pr0 "java/util/AbstractList" "modCount" "I" (.int (w_mod + (1 : Int32))) ∧ Fld Z h pr0 "java/util/ArrayList" "elementData" "[Ljava/lang/Object;" (.ref w_arr) ∧ Fld Z h pr0 "java/util/ArrayList" "size" "I" (.int 4) ∧ Arv Z h w_arr kk_w_arr (.object "java/lang/Object") (10 : Int32) [c0_w_arr, c1_w_arr, c2_w_arr, (.ref pr1), c4_w_arr, c5_w_arr, c6_w_arr, c7_w_arr, c8_w_arr, c9_w_arr] .null ∧ Ovr Z kk_w_arr "java/lang/Object"
set_option maxRecDepth 65536 in
set_option maxHeartbeats 40000000 in
theorem rm11_3 (l : Launch) (Z : State) (a0 : Array Value) (hw : ∀ d ∈ tables_1, d.before a0 Z = true) (ws : List Jvm.Cond) (pr0 : Addr) (pr1 : Addr) (w_mod : Int32) (w_arr : Addr) (kk_w_arr : ClassId) (c0_w_arr : Value) (c1_w_arr : Value) (c2_w_arr : Value) (c3_w_arr : Value) (c4_w_arr : Value) (c5_w_arr : Value) (c6_w_arr : Value) (c7_w_arr : Value) (c8_w_arr : Value) (c9_w_arr : Value) (h0 : Heap) (n0 : Nat) (Z0 : n0 ≤ h0.size) (O0 : Old Z n0 h0) (E_pr0 : Exa Z h0 pr0 "java/util/ArrayList") (E_pr1 : Exa Z h0 pr1 "com/example/tyche/tyche/model/jani/Expression$Operation") (F_modCount_pr0 : Fld Z h0 pr0 "java/util/AbstractList" "modCount" "I" (.int w_mod)) (F_elementData_pr0 : Fld Z h0 pr0 "java/util/ArrayList" "elementData" "[Ljava/lang/Object;" (.ref w_arr)) (V_w_arr : Arv Z h0 w_arr kk_w_arr (.object "java/lang/Object") (10 : Int32) [c0_w_arr, c1_w_arr, c2_w_arr, c3_w_arr, c4_w_arr, c5_w_arr, c6_w_arr, c7_w_arr, c8_w_arr, c9_w_arr] .null) (ovr_w_arr : Ovr Z kk_w_arr "java/lang/Object") (F_size_pr0 : Fld Z h0 pr0 "java/util/ArrayList" "size" "I" (.int 3)) (g_pr0 : n0 ≤ pr0) (ne_w_arr_pr0 : w_arr ≠ pr0) (g_w_arr : n0 ≤ w_arr) :
    MetFree l mN7 (head1 (Jvm.Cond.code mN7 jdk_38_method_25_code 2 (some .boolean) :: ws) ({ frames := 1, cells := 0, slots := 0, locals := 15 } : Room)) (fun a U => a = #[(.ref pr0), (.ref pr1)] ∧ Z.Warmed39 U.vm ∧ U.heap = h0) (fun _ _ _ _ _ => True) (fun _ U o U' => ∃ v L, o = .returned v ∧ Q11_3 Z pr0 pr1 w_mod w_arr kk_w_arr c0_w_arr c1_w_arr c2_w_arr c3_w_arr c4_w_arr c5_w_arr c6_w_arr c7_w_arr c8_w_arr c9_w_arr h0 n0 v U'.heap L ∧ FrameEnd U o U' L ({ frames := 1, cells := 0, slots := 0, locals := 15 } : Room).cells ({ frames := 1, cells := 0, slots := 0, locals := 15 } : Room).slots) := by
  refine MetFree.of_bodySF (plainFor_of_name pn_11) hisR ?_
  intro p e s m args below meth c s₁ Bd hml0 hP hK
  obtain ⟨rfl, hZ, hh⟩ := hP
  have hx := Bd.exec
  have hby := Bd.bytes
  have hml : c.maxLocals = 2 := hml0
  have hown : s.vm.findClass "java/util/ArrayList" = some m.cls := findClass_of_methodNamed Bd.named
  have hnm := (name_of_methodNamed Bd.named Bd.method).1
  have X0 : Stand p l e ({ frames := 1, cells := 0, slots := 0, locals := 15 } : Room) s m #[(.ref pr0), (.ref pr1)] below meth c s₁ [] 0 0 := Stand.of_body Bd
  have e0 : s₁.heap = h0 := by rw [← hh, Bd.state]; rfl
  have N0 := Fr.nil n0
  have pre0 : ∀ t, Steps p.tables e below (s₁.setTop (mkF m 0 #[vr pr0, vr pr1] [])) t → Steps p.tables e below (s₁.setTop (entryFrame m #[(.ref pr0), (.ref pr1)] 2)) t := fun t k => castTop (ef_11 m pr0 pr1) k
  obtain ⟨T1, X1, e1, st1⟩ := getF X0 hx hZ hown (host := "") (Or.inl (own_W hw 96 rfl)) (Via.of (own_W hw 97 rfl)) e0 F_modCount_pr0 (g := (mkF m 2 #[vr pr0, vr pr1] [(.ref pr0), (.ref pr0)])) rfl rfl (hb hby d11_2)
  obtain ⟨T2, h2, X2, e2, W2, st2⟩ := putF X1 hx hZ hown (host := "") (Or.inl (own_W hw 96 rfl)) (Via.of (own_W hw 97 rfl)) e1 F_modCount_pr0 E_pr0 (Or.inl (own_W hw 29 rfl)) (own_W hw 8 rfl) (ty := .int) (by decide) rfl rfl (g := (mkF m 7 #[vr pr0, vr pr1] [(.int (w_mod + (1 : Int32))), (.ref pr0)])) rfl rfl (hb hby d11_7)
  have Fw2 := F_modCount_pr0.same W2
  have N2 := Fr.snoc X2 N0 g_pr0
  have f4 := F_elementData_pr0.other W2 (Or.inr (slot_ne (Or.inl (own_W hw 32 rfl)) (Or.inl (own_W hw 29 rfl)) (by decide) (t := (.array (.object "java/lang/Object"))) (t' := .int) (by decide) (by decide)))
  obtain ⟨T3, X3, e3, st3⟩ := getF X2 hx hZ hown (host := "") (Or.inl (own_W hw 31 rfl)) Via.refl e2 f4 (g := (mkF m 13 #[vr pr0, vr pr1] [(.ref pr0), (.ref pr1), (.ref pr0)])) rfl rfl (hb hby d11_13)
  have f6 := F_size_pr0.other W2 (Or.inr (slot_ne (Or.inl (own_W hw 74 rfl)) (Or.inl (own_W hw 29 rfl)) (by decide) (t := .int) (t' := .int) (by decide) (by decide)))
  obtain ⟨T5, X5, e5, st5⟩ := getF X3 hx hZ hown (host := "") (Or.inl (own_W hw 73 rfl)) Via.refl e3 f6 (g := (mkF m 17 #[vr pr0, vr pr1] [(.ref pr0), (.ref w_arr), (.ref pr1), (.ref pr0)])) rfl rfl (hb hby d11_17)
  have f7 := E_pr0.wr W2
  have f8 := E_pr1.wr W2
  have f9 := V_w_arr.other W2 ne_w_arr_pr0
  have z11 := Nat.le_trans Z0 (Keep.of_wr W2).1
  have o12 := O0.wr W2 g_pr0
  obtain ⟨cq10, q10, q10'⟩ := f7.cell
  obtain ⟨_, _, ⟨T10, L10, k10, n10⟩, -, X10, ⟨Lc10, hQ10, l10, y10, z10⟩, st10⟩ := X5.privateBack hx (y := mN6) hown (mvT hZ (own_W hw 98 rfl)) (mvT hZ (own_W hw 99 rfl)) (mvT hZ (own_W hw 101 rfl)) (Cond.privateMethod_at (mvP hZ (own_W hw 100 rfl) (args := #[]))) (mvT hZ (own_W hw 102 rfl)) (by decide) (backOf (W := 0) (rm12_3 l Z a0 hw [] pr0 pr1 w_arr kk_w_arr c0_w_arr c1_w_arr c2_w_arr c3_w_arr c4_w_arr c5_w_arr c6_w_arr c7_w_arr c8_w_arr c9_w_arr (.int (w_mod + (1 : Int32))) h2 n0 z11 o12 f7 f8 f9 ovr_w_arr Fw2 f4 f6 g_w_arr (Ne.symm ne_w_arr_pr0) g_pr0) hZ (own_W hw 102 rfl) (own_W hw 9 rfl) (by decide) (by decide)) (g := (mkF m 20 #[vr pr0, vr pr1] [(.int 3), (.ref w_arr), (.ref pr1), (.ref pr0)])) rfl (by rw [hml]; rfl) (Steps.refl _) (a := pr0) (by rw [e5]; exact q10) q10' (argsL := [(.ref pr1), (.ref w_arr), (.int 3)]) (rest := []) (lenOf pd_6 rfl) rfl (by show 2 * 0 + _ ≤ _; exact Nat.le_of_eq rfl) (hb hby d11_20) (fun _ _ => ⟨rfl, e5, (by decide : 0 + 0 ≤ _), (by decide : 0 + 0 ≤ _)⟩)
  dsimp only [Pt.U, Pt.locs, Pt.cells, Pt.slots] at X10 l10 y10 z10 st10 hQ10
  subst l10 y10 z10
  obtain ⟨rfl, N10q, K10, qf10_0, qf10_1, qf10_2, qf10_3, qf10_4, qf10_5⟩ := hQ10
  have N10 := Fr.app N2 N10q
  have k13 : Keep h0 h2 [pr0, w_arr] := (Keep.refl h0 [pr0, w_arr]).wr W2 (Or.inl (List.mem_of_getElem? (i := 0) rfl))
  have k14 : Keep h0 T10.heap [pr0, w_arr] := k13.trans K10 (allS (Or.inl (List.mem_of_getElem? (i := 0) rfl)) (allS (Or.inl (List.mem_of_getElem? (i := 1) rfl)) all0))
  obtain ⟨fs, hr, hrun, hended, hW, hsame⟩ := X10.leave (v := some (.int 1)) (fun h => by rw [Bd.returns] at h; cases h) (BodyLoose.notSynchronized Bd)
  refine ⟨_, _, pre0 _ ?_, hrun, hended, _, _, rfl, ?_, ⟨_, rfl⟩, hW, hsame.mono (by decide) (by decide)⟩
  · show Stp p e below s₁ m 0 #[vr pr0, vr pr1] [] _
    refine XS.aloadN X0.here hx rfl (hb hby d11_0) rfl rfl ?_
    refine XS.dup X0.here hx rfl (hb hby d11_1) rfl rfl ?_
    refine st1 _ ?_
    show Stp p e below T1 m 5 #[vr pr0, vr pr1] [(.int w_mod), (.ref pr0)] _
    refine XS.iconst X1.here hx rfl (hb hby d11_5) ?_
    refine XS.iadd X1.here hx rfl (hb hby d11_6) rfl ?_
    refine st2 _ ?_
    show Stp p e below T2 m 10 #[vr pr0, vr pr1] [] _
    refine XS.aloadN X2.here hx rfl (hb hby d11_10) rfl rfl ?_
    refine XS.aloadN X2.here hx rfl (hb hby d11_11) rfl rfl ?_
    refine XS.aloadN X2.here hx rfl (hb hby d11_12) rfl rfl ?_
    refine st3 _ ?_
    show Stp p e below T3 m 16 #[vr pr0, vr pr1] [(.ref w_arr), (.ref pr1), (.ref pr0)] _
    refine XS.aloadN X3.here hx rfl (hb hby d11_16) rfl rfl ?_
    refine st5 _ ?_
    show Stp p e below T5 m 20 #[vr pr0, vr pr1] [(.int 3), (.ref w_arr), (.ref pr1), (.ref pr0)] _
    refine st10.trans ?_
    show Stp p e below T10 m 23 #[vr pr0, vr pr1] [] _
    refine XS.iconst X10.here hx rfl (hb hby d11_23) ?_
    exact retN X10 hx (t := .boolean) Bd.returns (by simp) (hb hby d11_24) hr
  · show Q11_3 Z pr0 pr1 w_mod w_arr kk_w_arr c0_w_arr c1_w_arr c2_w_arr c3_w_arr c4_w_arr c5_w_arr c6_w_arr c7_w_arr c8_w_arr c9_w_arr h0 n0 _ T10.heap _
    exact ⟨rfl, N10, k14, qf10_0, qf10_1, qf10_2, qf10_3, qf10_4, qf10_5⟩
theorem d9_0 : decode jdk_38_method_9_code 0 = .ok (.aload_n 0, 1) := by decide +kernel
theorem d9_1 : decode jdk_38_method_9_code 1 = .ok (.getfield 48, 3) := by decide +kernel
theorem d9_4 : decode jdk_38_method_9_code 4 = .ok (.ifCond .ne 7, 3) := by decide +kernel
theorem d9_7 : decode jdk_38_method_9_code 7 = .ok (.iconst 1, 1) := by decide +kernel
theorem d9_8 : decode jdk_38_method_9_code 8 = .ok (.goto 4, 3) := by decide +kernel
theorem d9_12 : decode jdk_38_method_9_code 12 = .ok (.ireturn, 1) := by decide +kernel
theorem pn_9 : plainName "java/util/ArrayList" = true := by first | (simp [plainName, overriddenIn]; done) | decide +kernel
theorem ef_9 (m : MethodId) (pr0 : Addr) : entryFrame m #[(.ref pr0)] 1 = mkF m 0 #[vr pr0] [] := by first | (simp [entryFrame, mkF, argsToLocals, Value.category]; done) | rfl
def Q9_0 (Z : State) (pr0 : Addr) (h0 : Heap) (n0 : Nat) (v : Option Value) (h : Heap) (L : List Loc) : Prop := v = some (.int 1) ∧ Fr n0 L ∧ h = h0
set_option maxRecDepth 65536 in
set_option maxHeartbeats 40000000 in
theorem rm9_0 (l : Launch) (Z : State) (a0 : Array Value) (hw : ∀ d ∈ tables_1, d.before a0 Z = true) (ws : List Jvm.Cond) (pr0 : Addr) (h0 : Heap) (n0 : Nat) (Z0 : n0 ≤ h0.size) (O0 : Old Z n0 h0) (F_size_pr0 : Fld Z h0 pr0 "java/util/ArrayList" "size" "I" (.int 0)) :
    MetFree l mN8 (head1 (Jvm.Cond.code mN8 jdk_38_method_9_code 1 (some .boolean) :: ws) ({ frames := 0, cells := 0, slots := 0, locals := 0 } : Room)) (fun a U => a = #[(.ref pr0)] ∧ Z.Warmed39 U.vm ∧ U.heap = h0) (fun _ _ _ _ _ => True) (fun _ U o U' => ∃ v L, o = .returned v ∧ Q9_0 Z pr0 h0 n0 v U'.heap L ∧ FrameEnd U o U' L ({ frames := 0, cells := 0, slots := 0, locals := 0 } : Room).cells ({ frames := 0, cells := 0, slots := 0, locals := 0 } : Room).slots) := by
  refine MetFree.of_bodySF (plainFor_of_name pn_9) hisR ?_
  intro p e s m args below meth c s₁ Bd hml0 hP hK
  obtain ⟨rfl, hZ, hh⟩ := hP
  have hx := Bd.exec
  have hby := Bd.bytes
  have hml : c.maxLocals = 1 := hml0
  have hown : s.vm.findClass "java/util/ArrayList" = some m.cls := findClass_of_methodNamed Bd.named
  have hnm := (name_of_methodNamed Bd.named Bd.method).1
  have X0 : Stand p l e ({ frames := 0, cells := 0, slots := 0, locals := 0 } : Room) s m #[(.ref pr0)] below meth c s₁ [] 0 0 := Stand.of_body Bd
  have e0 : s₁.heap = h0 := by rw [← hh, Bd.state]; rfl
  have N0 := Fr.nil n0
  have pre0 : ∀ t, Steps p.tables e below (s₁.setTop (mkF m 0 #[vr pr0] [])) t → Steps p.tables e below (s₁.setTop (entryFrame m #[(.ref pr0)] 1)) t := fun t k => castTop (ef_9 m pr0) k
  obtain ⟨T1, X1, e1, st1⟩ := getF X0 hx hZ hown (host := "") (Or.inl (own_W hw 73 rfl)) Via.refl e0 F_size_pr0 (g := (mkF m 1 #[vr pr0] [(.ref pr0)])) rfl rfl (hb hby d9_1)
  obtain ⟨fs, hr, hrun, hended, hW, hsame⟩ := X1.leave (v := some (.int 1)) (fun h => by rw [Bd.returns] at h; cases h) (BodyLoose.notSynchronized Bd)
  refine ⟨_, _, pre0 _ ?_, hrun, hended, _, _, rfl, ?_, ⟨_, rfl⟩, hW, hsame.mono (by decide) (by decide)⟩
  · show Stp p e below s₁ m 0 #[vr pr0] [] _
    refine XS.aloadN X0.here hx rfl (hb hby d9_0) rfl rfl ?_
    refine st1 _ ?_
    show Stp p e below T1 m 4 #[vr pr0] [(.int 0)] _
    refine XS.ifNo X1.here hx rfl (hb hby d9_4) rfl ((if0 _ _).trans (teq (rfl : (0 : Int32) = (0 : Int32))).2) ?_
    show Stp p e below T1 m 7 #[vr pr0] [] _
    refine XS.iconst X1.here hx rfl (hb hby d9_7) ?_
    refine XS.goto X1.here hx rfl (pc0 := 8) (pc' := 12) rfl (hb hby d9_8) (by decide) (by decide) ?_
    show Stp p e below T1 m 12 #[vr pr0] [(.int 1)] _
    exact retN X1 hx (t := .boolean) Bd.returns (by simp) (hb hby d9_12) hr
  · show Q9_0 Z pr0 h0 n0 _ T1.heap _
    rw [e1]
    exact ⟨rfl, N0, rfl⟩
theorem d9_11 : decode jdk_38_method_9_code 11 = .ok (.iconst 0, 1) := by decide +kernel
def Q9_1 (Z : State) (pr0 : Addr) (h0 : Heap) (n0 : Nat) (v : Option Value) (h : Heap) (L : List Loc) : Prop := v = some (.int 0) ∧ Fr n0 L ∧ h = h0
set_option maxRecDepth 65536 in
set_option maxHeartbeats 40000000 in
theorem rm9_1 (l : Launch) (Z : State) (a0 : Array Value) (hw : ∀ d ∈ tables_1, d.before a0 Z = true) (ws : List Jvm.Cond) (pr0 : Addr) (h0 : Heap) (n0 : Nat) (Z0 : n0 ≤ h0.size) (O0 : Old Z n0 h0) (F_size_pr0 : Fld Z h0 pr0 "java/util/ArrayList" "size" "I" (.int 1)) :
    MetFree l mN8 (head1 (Jvm.Cond.code mN8 jdk_38_method_9_code 1 (some .boolean) :: ws) ({ frames := 0, cells := 0, slots := 0, locals := 0 } : Room)) (fun a U => a = #[(.ref pr0)] ∧ Z.Warmed39 U.vm ∧ U.heap = h0) (fun _ _ _ _ _ => True) (fun _ U o U' => ∃ v L, o = .returned v ∧ Q9_1 Z pr0 h0 n0 v U'.heap L ∧ FrameEnd U o U' L ({ frames := 0, cells := 0, slots := 0, locals := 0 } : Room).cells ({ frames := 0, cells := 0, slots := 0, locals := 0 } : Room).slots) := by
  refine MetFree.of_bodySF (plainFor_of_name pn_9) hisR ?_
  intro p e s m args below meth c s₁ Bd hml0 hP hK
  obtain ⟨rfl, hZ, hh⟩ := hP
  have hx := Bd.exec
  have hby := Bd.bytes
  have hml : c.maxLocals = 1 := hml0
  have hown : s.vm.findClass "java/util/ArrayList" = some m.cls := findClass_of_methodNamed Bd.named
  have hnm := (name_of_methodNamed Bd.named Bd.method).1
  have X0 : Stand p l e ({ frames := 0, cells := 0, slots := 0, locals := 0 } : Room) s m #[(.ref pr0)] below meth c s₁ [] 0 0 := Stand.of_body Bd
  have e0 : s₁.heap = h0 := by rw [← hh, Bd.state]; rfl
  have N0 := Fr.nil n0
  have pre0 : ∀ t, Steps p.tables e below (s₁.setTop (mkF m 0 #[vr pr0] [])) t → Steps p.tables e below (s₁.setTop (entryFrame m #[(.ref pr0)] 1)) t := fun t k => castTop (ef_9 m pr0) k
  obtain ⟨T1, X1, e1, st1⟩ := getF X0 hx hZ hown (host := "") (Or.inl (own_W hw 73 rfl)) Via.refl e0 F_size_pr0 (g := (mkF m 1 #[vr pr0] [(.ref pr0)])) rfl rfl (hb hby d9_1)
  obtain ⟨fs, hr, hrun, hended, hW, hsame⟩ := X1.leave (v := some (.int 0)) (fun h => by rw [Bd.returns] at h; cases h) (BodyLoose.notSynchronized Bd)
  refine ⟨_, _, pre0 _ ?_, hrun, hended, _, _, rfl, ?_, ⟨_, rfl⟩, hW, hsame.mono (by decide) (by decide)⟩
  · show Stp p e below s₁ m 0 #[vr pr0] [] _
    refine XS.aloadN X0.here hx rfl (hb hby d9_0) rfl rfl ?_
    refine st1 _ ?_
    show Stp p e below T1 m 4 #[vr pr0] [(.int 1)] _
    refine XS.ifYes X1.here hx rfl (pc0 := 4) (pc' := 11) rfl (hb hby d9_4) rfl ((if0 _ _).trans (feq (by decide : ¬ ((1 : Int32) = (0 : Int32)))).2) (by decide) (by decide) ?_
    show Stp p e below T1 m 11 #[vr pr0] [] _
    refine XS.iconst X1.here hx rfl (hb hby d9_11) ?_
    exact retN X1 hx (t := .boolean) Bd.returns (by simp) (hb hby d9_12) hr
  · show Q9_1 Z pr0 h0 n0 _ T1.heap _
    rw [e1]
    exact ⟨rfl, N0, rfl⟩
def Q9_2 (Z : State) (pr0 : Addr) (h0 : Heap) (n0 : Nat) (v : Option Value) (h : Heap) (L : List Loc) : Prop := v = some (.int 0) ∧ Fr n0 L ∧ h = h0
set_option maxRecDepth 65536 in
set_option maxHeartbeats 40000000 in
theorem rm9_2 (l : Launch) (Z : State) (a0 : Array Value) (hw : ∀ d ∈ tables_1, d.before a0 Z = true) (ws : List Jvm.Cond) (pr0 : Addr) (h0 : Heap) (n0 : Nat) (Z0 : n0 ≤ h0.size) (O0 : Old Z n0 h0) (F_size_pr0 : Fld Z h0 pr0 "java/util/ArrayList" "size" "I" (.int 2)) :
    MetFree l mN8 (head1 (Jvm.Cond.code mN8 jdk_38_method_9_code 1 (some .boolean) :: ws) ({ frames := 0, cells := 0, slots := 0, locals := 0 } : Room)) (fun a U => a = #[(.ref pr0)] ∧ Z.Warmed39 U.vm ∧ U.heap = h0) (fun _ _ _ _ _ => True) (fun _ U o U' => ∃ v L, o = .returned v ∧ Q9_2 Z pr0 h0 n0 v U'.heap L ∧ FrameEnd U o U' L ({ frames := 0, cells := 0, slots := 0, locals := 0 } : Room).cells ({ frames := 0, cells := 0, slots := 0, locals := 0 } : Room).slots) := by
  refine MetFree.of_bodySF (plainFor_of_name pn_9) hisR ?_
  intro p e s m args below meth c s₁ Bd hml0 hP hK
  obtain ⟨rfl, hZ, hh⟩ := hP
  have hx := Bd.exec
  have hby := Bd.bytes
  have hml : c.maxLocals = 1 := hml0
  have hown : s.vm.findClass "java/util/ArrayList" = some m.cls := findClass_of_methodNamed Bd.named
  have hnm := (name_of_methodNamed Bd.named Bd.method).1
  have X0 : Stand p l e ({ frames := 0, cells := 0, slots := 0, locals := 0 } : Room) s m #[(.ref pr0)] below meth c s₁ [] 0 0 := Stand.of_body Bd
  have e0 : s₁.heap = h0 := by rw [← hh, Bd.state]; rfl
  have N0 := Fr.nil n0
  have pre0 : ∀ t, Steps p.tables e below (s₁.setTop (mkF m 0 #[vr pr0] [])) t → Steps p.tables e below (s₁.setTop (entryFrame m #[(.ref pr0)] 1)) t := fun t k => castTop (ef_9 m pr0) k
  obtain ⟨T1, X1, e1, st1⟩ := getF X0 hx hZ hown (host := "") (Or.inl (own_W hw 73 rfl)) Via.refl e0 F_size_pr0 (g := (mkF m 1 #[vr pr0] [(.ref pr0)])) rfl rfl (hb hby d9_1)
  obtain ⟨fs, hr, hrun, hended, hW, hsame⟩ := X1.leave (v := some (.int 0)) (fun h => by rw [Bd.returns] at h; cases h) (BodyLoose.notSynchronized Bd)
  refine ⟨_, _, pre0 _ ?_, hrun, hended, _, _, rfl, ?_, ⟨_, rfl⟩, hW, hsame.mono (by decide) (by decide)⟩
  · show Stp p e below s₁ m 0 #[vr pr0] [] _
    refine XS.aloadN X0.here hx rfl (hb hby d9_0) rfl rfl ?_
    refine st1 _ ?_
    show Stp p e below T1 m 4 #[vr pr0] [(.int 2)] _
    refine XS.ifYes X1.here hx rfl (pc0 := 4) (pc' := 11) rfl (hb hby d9_4) rfl ((if0 _ _).trans (feq (by decide : ¬ ((2 : Int32) = (0 : Int32)))).2) (by decide) (by decide) ?_
    show Stp p e below T1 m 11 #[vr pr0] [] _
    refine XS.iconst X1.here hx rfl (hb hby d9_11) ?_
    exact retN X1 hx (t := .boolean) Bd.returns (by simp) (hb hby d9_12) hr
  · show Q9_2 Z pr0 h0 n0 _ T1.heap _
    rw [e1]
    exact ⟨rfl, N0, rfl⟩
def Q9_3 (Z : State) (pr0 : Addr) (h0 : Heap) (n0 : Nat) (v : Option Value) (h : Heap) (L : List Loc) : Prop := v = some (.int 0) ∧ Fr n0 L ∧ h = h0
set_option maxRecDepth 65536 in
set_option maxHeartbeats 40000000 in
theorem rm9_3 (l : Launch) (Z : State) (a0 : Array Value) (hw : ∀ d ∈ tables_1, d.before a0 Z = true) (ws : List Jvm.Cond) (pr0 : Addr) (h0 : Heap) (n0 : Nat) (Z0 : n0 ≤ h0.size) (O0 : Old Z n0 h0) (F_size_pr0 : Fld Z h0 pr0 "java/util/ArrayList" "size" "I" (.int 3)) :
    MetFree l mN8 (head1 (Jvm.Cond.code mN8 jdk_38_method_9_code 1 (some .boolean) :: ws) ({ frames := 0, cells := 0, slots := 0, locals := 0 } : Room)) (fun a U => a = #[(.ref pr0)] ∧ Z.Warmed39 U.vm ∧ U.heap = h0) (fun _ _ _ _ _ => True) (fun _ U o U' => ∃ v L, o = .returned v ∧ Q9_3 Z pr0 h0 n0 v U'.heap L ∧ FrameEnd U o U' L ({ frames := 0, cells := 0, slots := 0, locals := 0 } : Room).cells ({ frames := 0, cells := 0, slots := 0, locals := 0 } : Room).slots) := by
  refine MetFree.of_bodySF (plainFor_of_name pn_9) hisR ?_
  intro p e s m args below meth c s₁ Bd hml0 hP hK
  obtain ⟨rfl, hZ, hh⟩ := hP
  have hx := Bd.exec
  have hby := Bd.bytes
  have hml : c.maxLocals = 1 := hml0
  have hown : s.vm.findClass "java/util/ArrayList" = some m.cls := findClass_of_methodNamed Bd.named
  have hnm := (name_of_methodNamed Bd.named Bd.method).1
  have X0 : Stand p l e ({ frames := 0, cells := 0, slots := 0, locals := 0 } : Room) s m #[(.ref pr0)] below meth c s₁ [] 0 0 := Stand.of_body Bd
  have e0 : s₁.heap = h0 := by rw [← hh, Bd.state]; rfl
  have N0 := Fr.nil n0
  have pre0 : ∀ t, Steps p.tables e below (s₁.setTop (mkF m 0 #[vr pr0] [])) t → Steps p.tables e below (s₁.setTop (entryFrame m #[(.ref pr0)] 1)) t := fun t k => castTop (ef_9 m pr0) k
  obtain ⟨T1, X1, e1, st1⟩ := getF X0 hx hZ hown (host := "") (Or.inl (own_W hw 73 rfl)) Via.refl e0 F_size_pr0 (g := (mkF m 1 #[vr pr0] [(.ref pr0)])) rfl rfl (hb hby d9_1)
  obtain ⟨fs, hr, hrun, hended, hW, hsame⟩ := X1.leave (v := some (.int 0)) (fun h => by rw [Bd.returns] at h; cases h) (BodyLoose.notSynchronized Bd)
  refine ⟨_, _, pre0 _ ?_, hrun, hended, _, _, rfl, ?_, ⟨_, rfl⟩, hW, hsame.mono (by decide) (by decide)⟩
  · show Stp p e below s₁ m 0 #[vr pr0] [] _
    refine XS.aloadN X0.here hx rfl (hb hby d9_0) rfl rfl ?_
    refine st1 _ ?_
    show Stp p e below T1 m 4 #[vr pr0] [(.int 3)] _
    refine XS.ifYes X1.here hx rfl (pc0 := 4) (pc' := 11) rfl (hb hby d9_4) rfl ((if0 _ _).trans (feq (by decide : ¬ ((3 : Int32) = (0 : Int32)))).2) (by decide) (by decide) ?_
    show Stp p e below T1 m 11 #[vr pr0] [] _
    refine XS.iconst X1.here hx rfl (hb hby d9_11) ?_
    exact retN X1 hx (t := .boolean) Bd.returns (by simp) (hb hby d9_12) hr
  · show Q9_3 Z pr0 h0 n0 _ T1.heap _
    rw [e1]
    exact ⟨rfl, N0, rfl⟩
theorem d10_0 : decode jdk_40_method_36_code 0 = .ok (.getstatic 90, 3) := by decide +kernel
theorem d10_3 : decode jdk_40_method_36_code 3 = .ok (.areturn, 1) := by decide +kernel
theorem pn_10 : plainName "java/util/List" = true := by first | (simp [plainName, overriddenIn]; done) | decide +kernel
theorem ef_10 (m : MethodId)  : entryFrame m #[] 0 = mkF m 0 #[] [] := by first | (simp [entryFrame, mkF, argsToLocals, Value.category]; done) | rfl
def Q10 (Z : State) (w_EMPTY_LIST : Addr) (h0 : Heap) (n0 : Nat) (v : Option Value) (h : Heap) (L : List Loc) : Prop := v = some (.ref w_EMPTY_LIST) ∧ Fr n0 L ∧ h = h0
set_option maxRecDepth 65536 in
set_option maxHeartbeats 40000000 in
theorem rm10 (l : Launch) (Z : State) (a0 : Array Value) (hw : ∀ d ∈ tables_1, d.before a0 Z = true) (ws : List Jvm.Cond) (w_EMPTY_LIST : Addr) (h0 : Heap) (n0 : Nat) (Z0 : n0 ≤ h0.size) (O0 : Old Z n0 h0) (S_EMPTY_LIST : Sta Z Z.heap "java/util/ImmutableCollections" "EMPTY_LIST" "Ljava/util/ImmutableCollections$ListN;" (.ref w_EMPTY_LIST)) :
    MetFree l mN9 (head1 (Jvm.Cond.code mN9 jdk_40_method_36_code 0 (some (.object "java/util/List")) :: ws) ({ frames := 0, cells := 0, slots := 0, locals := 0 } : Room)) (fun a U => a = #[] ∧ Z.Warmed39 U.vm ∧ U.heap = h0) (fun _ _ _ _ _ => True) (fun _ U o U' => ∃ v L, o = .returned v ∧ Q10 Z w_EMPTY_LIST h0 n0 v U'.heap L ∧ FrameEnd U o U' L ({ frames := 0, cells := 0, slots := 0, locals := 0 } : Room).cells ({ frames := 0, cells := 0, slots := 0, locals := 0 } : Room).slots) := by
  refine MetFree.of_bodySF (plainFor_of_name pn_10) hisR ?_
  intro p e s m args below meth c s₁ Bd hml0 hP hK
  obtain ⟨rfl, hZ, hh⟩ := hP
  have hx := Bd.exec
  have hby := Bd.bytes
  have hml : c.maxLocals = 0 := hml0
  have hown : s.vm.findClass "java/util/List" = some m.cls := findClass_of_methodNamed Bd.named
  have hnm := (name_of_methodNamed Bd.named Bd.method).1
  have X0 : Stand p l e ({ frames := 0, cells := 0, slots := 0, locals := 0 } : Room) s m #[] below meth c s₁ [] 0 0 := Stand.of_body Bd
  have e0 : s₁.heap = h0 := by rw [← hh, Bd.state]; rfl
  have N0 := Fr.nil n0
  have pre0 : ∀ t, Steps p.tables e below (s₁.setTop (mkF m 0 #[] [])) t → Steps p.tables e below (s₁.setTop (entryFrame m #[] 0)) t := fun t k => castTop (ef_10 m ) k
  obtain ⟨T1, X1, e1, st1⟩ := getS2 X0 hx hZ hown (host := "") (Or.inl (own_W hw 78 rfl)) Via.refl e0 (S_EMPTY_LIST.ext O0.2) (g := (mkF m 0 #[] [])) rfl (hb hby d10_0)
  obtain ⟨fs, hr, hrun, hended, hW, hsame⟩ := X1.leave (v := some (.ref w_EMPTY_LIST)) (fun h => by rw [Bd.returns] at h; cases h) (BodyLoose.notSynchronized Bd)
  refine ⟨_, _, pre0 _ ?_, hrun, hended, _, _, rfl, ?_, ⟨_, rfl⟩, hW, hsame.mono (by decide) (by decide)⟩
  · show Stp p e below s₁ m 0 #[] [] _
    refine st1 _ ?_
    show Stp p e below T1 m 3 #[] [(.ref w_EMPTY_LIST)] _
    jvm_step X1.here [X1.here.top, hx, (hb hby d10_3), X1.method', Bd.returns, Value.isRef, FieldType.isReference]
    first | (intro acts; rw [hr _ acts rfl rfl rfl]) | rw [hr _ _ rfl rfl rfl]
    exact Steps.refl _
  · show Q10 Z w_EMPTY_LIST h0 n0 _ T1.heap _
    rw [e1]
    exact ⟨rfl, N0, rfl⟩
theorem d23_0 : decode jdk_29_method_69_code 0 = .ok (.iload_n 0, 1) := by decide +kernel
theorem d23_1 : decode jdk_29_method_69_code 1 = .ok (.iload_n 1, 1) := by decide +kernel
theorem d23_2 : decode jdk_29_method_69_code 2 = .ok (.if_icmp .gt 7, 3) := by decide +kernel
theorem d23_9 : decode jdk_29_method_69_code 9 = .ok (.iload_n 1, 1) := by decide +kernel
theorem d23_10 : decode jdk_29_method_69_code 10 = .ok (.ireturn, 1) := by decide +kernel
theorem ef_23 (m : MethodId) (pi1 : Int32) (pi2 : Int32) : entryFrame m #[(.int pi1), (.int pi2)] 2 = mkF m 0 #[vi pi1, vi pi2] [] := by first | (simp [entryFrame, mkF, argsToLocals, Value.category]; done) | rfl
def Q23 (Z : State) (pi1 : Int32) (pi2 : Int32) (h0 : Heap) (n0 : Nat) (v : Option Value) (h : Heap) (L : List Loc) : Prop := v = some (.int pi2) ∧ Fr n0 L ∧ h = h0
set_option maxRecDepth 65536 in
set_option maxHeartbeats 40000000 in
theorem rm23 (l : Launch) (Z : State) (a0 : Array Value) (hw : ∀ d ∈ tables_1, d.before a0 Z = true) (ws : List Jvm.Cond) (pi1 : Int32) (pi2 : Int32) (h0 : Heap) (n0 : Nat) (Z0 : n0 ≤ h0.size) (O0 : Old Z n0 h0) (hc2_0 : pi2 < pi1) :
    MetFree l mN10 (head1 (Jvm.Cond.code mN10 jdk_29_method_69_code 2 (some .int) :: ws) ({ frames := 0, cells := 0, slots := 0, locals := 0 } : Room)) (fun a U => a = #[(.int pi1), (.int pi2)] ∧ Z.Warmed39 U.vm ∧ U.heap = h0) (fun _ _ _ _ _ => True) (fun _ U o U' => ∃ v L, o = .returned v ∧ Q23 Z pi1 pi2 h0 n0 v U'.heap L ∧ FrameEnd U o U' L ({ frames := 0, cells := 0, slots := 0, locals := 0 } : Room).cells ({ frames := 0, cells := 0, slots := 0, locals := 0 } : Room).slots) := by
  refine MetFree.of_bodySF (Jvm.Free.JP.mathPlain rfl (by decide +kernel)) hisR ?_
  intro p e s m args below meth c s₁ Bd hml0 hP hK
  obtain ⟨rfl, hZ, hh⟩ := hP
  have hx := Bd.exec
  have hby := Bd.bytes
  have hml : c.maxLocals = 2 := hml0
  have hown : s.vm.findClass "java/lang/Math" = some m.cls := findClass_of_methodNamed Bd.named
  have hnm := (name_of_methodNamed Bd.named Bd.method).1
  have X0 : Stand p l e ({ frames := 0, cells := 0, slots := 0, locals := 0 } : Room) s m #[(.int pi1), (.int pi2)] below meth c s₁ [] 0 0 := Stand.of_body Bd
  have e0 : s₁.heap = h0 := by rw [← hh, Bd.state]; rfl
  have N0 := Fr.nil n0
  have pre0 : ∀ t, Steps p.tables e below (s₁.setTop (mkF m 0 #[vi pi1, vi pi2] [])) t → Steps p.tables e below (s₁.setTop (entryFrame m #[(.int pi1), (.int pi2)] 2)) t := fun t k => castTop (ef_23 m pi1 pi2) k
  obtain ⟨fs, hr, hrun, hended, hW, hsame⟩ := X0.leave (v := some (.int pi2)) (fun h => by rw [Bd.returns] at h; cases h) (BodyLoose.notSynchronized Bd)
  refine ⟨_, _, pre0 _ ?_, hrun, hended, _, _, rfl, ?_, ⟨_, rfl⟩, hW, hsame.mono (by decide) (by decide)⟩
  · show Stp p e below s₁ m 0 #[vi pi1, vi pi2] [] _
    refine XS.iloadN X0.here hx rfl (hb hby d23_0) rfl ?_
    refine XS.iloadN X0.here hx rfl (hb hby d23_1) rfl ?_
    refine XS.icmpYes X0.here hx rfl (pc0 := 2) (pc' := 9) rfl (hb hby d23_2) rfl (tlt hc2_0).2.2.1 (by decide) (by decide) ?_
    show Stp p e below s₁ m 9 #[vi pi1, vi pi2] [] _
    refine XS.iloadN X0.here hx rfl (hb hby d23_9) rfl ?_
    exact retI X0 hx Bd.returns (hb hby d23_10) hr
  · show Q23 Z pi1 pi2 h0 n0 _ s₁.heap _
    rw [e0]
    exact ⟨rfl, N0, rfl⟩
theorem d22_0 : decode jdk_65_method_120_code 0 = .ok (.aload_n 2, 1) := by decide +kernel
theorem d22_1 : decode jdk_65_method_120_code 1 = .ok (.ldc 110, 2) := by decide +kernel
theorem d22_3 : decode jdk_65_method_120_code 3 = .ok (.if_acmp .ne 10, 3) := by decide +kernel
theorem d22_6 : decode jdk_65_method_120_code 6 = .ok (.iload_n 1, 1) := by decide +kernel
theorem d22_7 : decode jdk_65_method_120_code 7 = .ok (.anewarray 2, 3) := by decide +kernel
theorem d22_10 : decode jdk_65_method_120_code 10 = .ok (.goto 14, 3) := by decide +kernel
theorem d22_24 : decode jdk_65_method_120_code 24 = .ok (.astore_n 3, 1) := by decide +kernel
theorem d22_25 : decode jdk_65_method_120_code 25 = .ok (.aload_n 0, 1) := by decide +kernel
theorem d22_26 : decode jdk_65_method_120_code 26 = .ok (.iconst 0, 1) := by decide +kernel
theorem d22_27 : decode jdk_65_method_120_code 27 = .ok (.aload_n 3, 1) := by decide +kernel
theorem d22_28 : decode jdk_65_method_120_code 28 = .ok (.iconst 0, 1) := by decide +kernel
theorem d22_29 : decode jdk_65_method_120_code 29 = .ok (.aload_n 0, 1) := by decide +kernel
theorem d22_30 : decode jdk_65_method_120_code 30 = .ok (.arraylength, 1) := by decide +kernel
theorem d22_31 : decode jdk_65_method_120_code 31 = .ok (.iload_n 1, 1) := by decide +kernel
theorem d22_32 : decode jdk_65_method_120_code 32 = .ok (.invokestatic 304, 3) := by decide +kernel
theorem d22_35 : decode jdk_65_method_120_code 35 = .ok (.invokestatic 150, 3) := by decide +kernel
theorem d22_38 : decode jdk_65_method_120_code 38 = .ok (.aload_n 3, 1) := by decide +kernel
theorem d22_39 : decode jdk_65_method_120_code 39 = .ok (.areturn, 1) := by decide +kernel
theorem pn_22 : plainName "java/util/Arrays" = true := by first | (simp [plainName, overriddenIn]; done) | decide +kernel
theorem ef_22__1 (m : MethodId) (pr1 : Addr) (w_mir : Addr) : entryFrame m #[(.ref pr1), (.int 1), (.ref w_mir)] 4 = mkF m 0 #[vr pr1, vi 1, vr w_mir, .unset] [] := by first | (simp [entryFrame, mkF, argsToLocals, Value.category]; done) | rfl
def Q22_1 (Z : State) (pr1 : Addr) (w_mir : Addr) (kk_pr1 : ClassId) (c0_pr1 : Addr) (c1_pr1 : Value) (c2_pr1 : Value) (c3_pr1 : Value) (c4_pr1 : Value) (c5_pr1 : Value) (c6_pr1 : Value) (c7_pr1 : Value) (c8_pr1 : Value) (c9_pr1 : Value) (h0 : Heap) (n0 : Nat) (v : Option Value) (h : Heap) (L : List Loc) : Prop := ∃ b2 : Addr, ∃ k2 : ClassId, v = some (.ref b2) ∧ Fr n0 L ∧ Keep h0 h [] ∧ h0.size ≤ b2 ∧ Arv Z h b2 k2 (.object "java/lang/Object") (1 : Int32) [(.ref c0_pr1)] .null ∧ Ovr Z k2 "java/lang/Object"
set_option maxRecDepth 65536 in
set_option maxHeartbeats 40000000 in
theorem rm22_1 (l : Launch) (Z : State) (a0 : Array Value) (hw : ∀ d ∈ tables_1, d.before a0 Z = true) (ws : List Jvm.Cond) (pr1 : Addr) (w_mir : Addr) (kk_pr1 : ClassId) (c0_pr1 : Addr) (c1_pr1 : Value) (c2_pr1 : Value) (c3_pr1 : Value) (c4_pr1 : Value) (c5_pr1 : Value) (c6_pr1 : Value) (c7_pr1 : Value) (c8_pr1 : Value) (c9_pr1 : Value) (h0 : Heap) (n0 : Nat) (Z0 : n0 ≤ h0.size) (O0 : Old Z n0 h0) (M_mir : Mir Z "[Ljava/lang/Object;" w_mir) (V_pr1 : Arv Z h0 pr1 kk_pr1 (.object "java/lang/Object") (10 : Int32) [(.ref c0_pr1), c1_pr1, c2_pr1, c3_pr1, c4_pr1, c5_pr1, c6_pr1, c7_pr1, c8_pr1, c9_pr1] .null) (E_c0_pr1 : Exa Z h0 c0_pr1 "com/example/tyche/tyche/model/jani/Expression$Operation") :
    MetFree l mN11 (head1 (Jvm.Cond.code mN11 jdk_65_method_120_code 4 (some (.array (.object "java/lang/Object"))) :: ws) ({ frames := 1, cells := 1, slots := 1, locals := 18 } : Room)) (fun a U => a = #[(.ref pr1), (.int 1), (.ref w_mir)] ∧ Z.Warmed39 U.vm ∧ U.heap = h0) (fun _ _ _ _ _ => True) (fun _ U o U' => ∃ v L, o = .returned v ∧ Q22_1 Z pr1 w_mir kk_pr1 c0_pr1 c1_pr1 c2_pr1 c3_pr1 c4_pr1 c5_pr1 c6_pr1 c7_pr1 c8_pr1 c9_pr1 h0 n0 v U'.heap L ∧ FrameEnd U o U' L ({ frames := 1, cells := 1, slots := 1, locals := 18 } : Room).cells ({ frames := 1, cells := 1, slots := 1, locals := 18 } : Room).slots) := by
  refine MetFree.of_bodySF (plainFor_of_name pn_22) hisR ?_
  intro p e s m args below meth c s₁ Bd hml0 hP hK
  obtain ⟨rfl, hZ, hh⟩ := hP
  have hx := Bd.exec
  have hby := Bd.bytes
  have hml : c.maxLocals = 4 := hml0
  have hown : s.vm.findClass "java/util/Arrays" = some m.cls := findClass_of_methodNamed Bd.named
  have hnm := (name_of_methodNamed Bd.named Bd.method).1
  have X0 : Stand p l e ({ frames := 1, cells := 1, slots := 1, locals := 18 } : Room) s m #[(.ref pr1), (.int 1), (.ref w_mir)] below meth c s₁ [] 0 0 := Stand.of_body Bd
  have e0 : s₁.heap = h0 := by rw [← hh, Bd.state]; rfl
  have N0 := Fr.nil n0
  have pre0 : ∀ t, Steps p.tables e below (s₁.setTop (mkF m 0 #[vr pr1, vi 1, vr w_mir, .unset] [])) t → Steps p.tables e below (s₁.setTop (entryFrame m #[(.ref pr1), (.int 1), (.ref w_mir)] 4)) t := fun t k => castTop (ef_22__1 m pr1 w_mir) k
  obtain ⟨T1, X1, e1, st1⟩ := own_ldcM X0 hx hZ hown (own_W hw 162 rfl) e0 M_mir (g := (mkF m 1 #[vr pr1, vi 1, vr w_mir, .unset] [(.ref w_mir)])) rfl (hb hby d22_1)
  obtain ⟨T2, h2, k2, X2, e2, E2, A2, O2, st2⟩ := newR X1 hx hZ hown (own_W hw 163 rfl) (own_W hw 118 rfl) e1 (g := (mkF m 7 #[vr pr1, vi 1, vr w_mir, .unset] [(.int 1)])) rfl (hb hby d22_7) rfl (by decide) (cap := 1) (by decide) (by decide) (by decide) (by decide)
  obtain ⟨b2, g2⟩ : ∃ z, z = h0.size := ⟨_, rfl⟩
  rw [← g2] at A2 st2
  have V2 : Arv Z h2 b2 k2 (.object "java/lang/Object") (1 : Int32) [.null] .null := (Arv.new A2 (by decide)).pad (pad_rep [] .null 1)
  have f4 := V_pr1.ext E2
  have V_c3 := f4
  obtain ⟨c3, Arc3, qc3, Sc3, Nc3, Hc3, Gc3⟩ := V_c3
  have z6 := Nat.le_trans Z0 E2.1
  have o7 := O0.ext E2
  obtain ⟨_, _, ⟨T5, L5, k5, n5⟩, -, X5, ⟨Lc5, hQ5, l5, y5, z5⟩, st5⟩ := Jvm.LawKit.callS X2 hx (y := mN10) hown (mvT hZ (own_W hw 164 rfl)) (mvT hZ (own_W hw 165 rfl)) (mvT hZ (own_W hw 115 rfl)) (mvT hZ (own_W hw 166 rfl)) (by decide) (backOf (W := 4) (rm23 l Z a0 hw [] (10 : Int32) (1 : Int32) h2 n0 z6 o7 (by decide)) hZ (own_W hw 166 rfl) (own_W hw 115 rfl) (by decide) (by decide)) (g := (mkF m 32 #[vr pr1, vi 1, vr w_mir, vr b2] [(.int 1), (.int 10), (.int 0), (.ref b2), (.int 0), (.ref pr1)])) rfl (by rw [hml]; rfl) (argsL := [(.int 10), (.int 1)]) (rest := [(.int 0), (.ref b2), (.int 0), (.ref pr1)]) (lenOf pd_9 rfl) rfl (by show 2 * 0 + _ ≤ _; exact Nat.le_of_eq rfl) (hb hby d22_32) (fun _ _ => ⟨rfl, e2, (by decide : 1 + 0 ≤ _), (by decide : 1 + 0 ≤ _)⟩)
  dsimp only [Pt.U, Pt.locs, Pt.cells, Pt.slots] at X5 l5 y5 z5 st5 hQ5
  subst l5 y5 z5
  obtain ⟨rfl, N5q, eq5⟩ := hQ5
  have N5 := Fr.app N0 N5q
  have g_b2 : n0 ≤ b2 := Nat.le_trans Z0 (Nat.le_of_eq g2.symm)
  have V_c8 := V2
  obtain ⟨c8, Arc8, qc8, Sc8, Nc8, Hc8, Gc8⟩ := V_c8
  have f9 := E_c0_pr1.ext E2
  obtain ⟨T10, h10, Lq10, X10, e10, N10, K10, Va10, st10⟩ := cpA X5 hx hZ hown (own_W hw 167 rfl) (own_W hw 170 rfl) (own_W hw 168 rfl) (own_W hw 169 rfl) eq5 f4 V2 (sp := (0 : Int32)) (dp := (0 : Int32)) (nn := (1 : Int32)) (us := [(.ref c0_pr1)]) (Or.inr ⟨rfl, rfl, ⟨Sto.ofV Arc8 qc8 O2 (Ins.of_exa f9 (own_W hw 119 rfl)), True.intro⟩⟩) (by decide) (by decide) (by decide) (by decide) (by decide) rfl (by decide) N5 g_b2 (g := (mkF m 35 #[vr pr1, vi 1, vr w_mir, vr b2] [(.int 1), (.int 0), (.ref b2), (.int 0), (.ref pr1)])) rfl (by rw [hml]; rfl) rfl (hb hby d22_35) (by decide) (W := 0) (by show 2 * 0 + _ ≤ _; exact Nat.le_of_eq rfl) (by decide)
  have V10 : Arv Z h10 b2 k2 (.object "java/lang/Object") (1 : Int32) [(.ref c0_pr1)] .null := Va10
  have k11 : Keep h0 h2 [] := (Keep.refl h0 []).ext E2
  have k12 : Keep h0 h10 [] := k11.trans K10 (allS (Or.inr (Nat.le_trans (Keep.refl h0 []).1 (Nat.le_of_eq g2.symm))) all0)
  obtain ⟨fs, hr, hrun, hended, hW, hsame⟩ := X10.leave (v := some (.ref b2)) (fun h => by rw [Bd.returns] at h; cases h) (BodyLoose.notSynchronized Bd)
  refine ⟨_, _, pre0 _ ?_, hrun, hended, _, _, rfl, ?_, ⟨_, rfl⟩, hW, hsame.mono (by decide) (by decide)⟩
  · show Stp p e below s₁ m 0 #[vr pr1, vi 1, vr w_mir, .unset] [] _
    refine XS.aloadN X0.here hx rfl (hb hby d22_0) rfl rfl ?_
    refine st1 _ ?_
    show Stp p e below T1 m 3 #[vr pr1, vi 1, vr w_mir, .unset] [(.ref w_mir), (.ref w_mir)] _
    refine Jvm.RoadKit.acmp (g := (mkF m 3 #[vr pr1, vi 1, vr w_mir, .unset] [(.ref w_mir), (.ref w_mir)])) X1 hx rfl rfl rfl (pc0 := 3) (pc' := 6) (same := true) rfl (hb hby d22_3) rfl (decide_eq_true rfl) (by decide) (by decide) ?_
    show Stp p e below T1 m 6 #[vr pr1, vi 1, vr w_mir, .unset] [] _
    refine XS.iloadN X1.here hx rfl (hb hby d22_6) rfl ?_
    refine st2 _ ?_
    show Stp p e below T2 m 10 #[vr pr1, vi 1, vr w_mir, .unset] [(.ref b2)] _
    refine XS.goto X2.here hx rfl (pc0 := 10) (pc' := 24) rfl (hb hby d22_10) (by decide) (by decide) ?_
    show Stp p e below T2 m 24 #[vr pr1, vi 1, vr w_mir, .unset] [(.ref b2)] _
    refine XS.astoreN X2.here hx rfl (hb hby d22_24) rfl rfl (l' := #[vr pr1, vi 1, vr w_mir, vr b2]) rfl ?_
    refine XS.aloadN X2.here hx rfl (hb hby d22_25) rfl rfl ?_
    refine XS.iconst X2.here hx rfl (hb hby d22_26) ?_
    refine XS.aloadN X2.here hx rfl (hb hby d22_27) rfl rfl ?_
    refine XS.iconst X2.here hx rfl (hb hby d22_28) ?_
    refine XS.aloadN X2.here hx rfl (hb hby d22_29) rfl rfl ?_
    refine X2.arraylength hx (by rw [e2]; exact Arc3.1) (State.isArrayOf_alike hZ.alike Arc3.2.1) (g := (mkF m 30 #[vr pr1, vi 1, vr w_mir, vr b2] [(.ref pr1), (.int 0), (.ref b2), (.int 0), (.ref pr1)])) rfl rfl (hb hby d22_30) _ ?_
    rw [len_of Sc3 Nc3]
    show Stp p e below T2 m 31 #[vr pr1, vi 1, vr w_mir, vr b2] [(.int 10), (.int 0), (.ref b2), (.int 0), (.ref pr1)] _
    refine XS.iloadN X2.here hx rfl (hb hby d22_31) rfl ?_
    refine st5 _ ?_
    show Stp p e below T5 m 35 #[vr pr1, vi 1, vr w_mir, vr b2] [(.int 1), (.int 0), (.ref b2), (.int 0), (.ref pr1)] _
    refine st10 _ ?_
    show Stp p e below T10 m 38 #[vr pr1, vi 1, vr w_mir, vr b2] [] _
    refine XS.aloadN X10.here hx rfl (hb hby d22_38) rfl rfl ?_
    jvm_step X10.here [X10.here.top, hx, (hb hby d22_39), X10.method', Bd.returns, Value.isRef, FieldType.isReference]
    first | (intro acts; rw [hr _ acts rfl rfl rfl]) | rw [hr _ _ rfl rfl rfl]
    exact Steps.refl _
  · show Q22_1 Z pr1 w_mir kk_pr1 c0_pr1 c1_pr1 c2_pr1 c3_pr1 c4_pr1 c5_pr1 c6_pr1 c7_pr1 c8_pr1 c9_pr1 h0 n0 _ T10.heap _
    rw [e10]
    exact ⟨b2, k2, rfl, N10, k12, (Nat.le_trans (Keep.refl h0 []).1 (Nat.le_of_eq g2.symm)), V10, O2⟩
theorem ef_22__2 (m : MethodId) (pr1 : Addr) (w_mir : Addr) : entryFrame m #[(.ref pr1), (.int 2), (.ref w_mir)] 4 = mkF m 0 #[vr pr1, vi 2, vr w_mir, .unset] [] := by first | (simp [entryFrame, mkF, argsToLocals, Value.category]; done) | rfl
def Q22_2 (Z : State) (pr1 : Addr) (w_mir : Addr) (kk_pr1 : ClassId) (c0_pr1 : Addr) (c1_pr1 : Addr) (c2_pr1 : Value) (c3_pr1 : Value) (c4_pr1 : Value) (c5_pr1 : Value) (c6_pr1 : Value) (c7_pr1 : Value) (c8_pr1 : Value) (c9_pr1 : Value) (h0 : Heap) (n0 : Nat) (v : Option Value) (h : Heap) (L : List Loc) : Prop := ∃ b2 : Addr, ∃ k2 : ClassId, v = some (.ref b2) ∧ Fr n0 L ∧ Keep h0 h [] ∧ h0.size ≤ b2 ∧ Arv Z h b2 k2 (.object "java/lang/Object") (2 : Int32) [(.ref c0_pr1), (.ref c1_pr1)] .null ∧ Ovr Z k2 "java/lang/Object"
set_option maxRecDepth 65536 in
set_option maxHeartbeats 40000000 in
theorem rm22_2 (l : Launch) (Z : State) (a0 : Array Value) (hw : ∀ d ∈ tables_1, d.before a0 Z = true) (ws : List Jvm.Cond) (pr1 : Addr) (w_mir : Addr) (kk_pr1 : ClassId) (c0_pr1 : Addr) (c1_pr1 : Addr) (c2_pr1 : Value) (c3_pr1 : Value) (c4_pr1 : Value) (c5_pr1 : Value) (c6_pr1 : Value) (c7_pr1 : Value) (c8_pr1 : Value) (c9_pr1 : Value) (h0 : Heap) (n0 : Nat) (Z0 : n0 ≤ h0.size) (O0 : Old Z n0 h0) (M_mir : Mir Z "[Ljava/lang/Object;" w_mir) (V_pr1 : Arv Z h0 pr1 kk_pr1 (.object "java/lang/Object") (10 : Int32) [(.ref c0_pr1), (.ref c1_pr1), c2_pr1, c3_pr1, c4_pr1, c5_pr1, c6_pr1, c7_pr1, c8_pr1, c9_pr1] .null) (E_c0_pr1 : Exa Z h0 c0_pr1 "com/example/tyche/tyche/model/jani/Expression$Operation") (E_c1_pr1 : Exa Z h0 c1_pr1 "com/example/tyche/tyche/model/jani/Expression$Operation") :
    MetFree l mN11 (head1 (Jvm.Cond.code mN11 jdk_65_method_120_code 4 (some (.array (.object "java/lang/Object"))) :: ws) ({ frames := 1, cells := 1, slots := 2, locals := 18 } : Room)) (fun a U => a = #[(.ref pr1), (.int 2), (.ref w_mir)] ∧ Z.Warmed39 U.vm ∧ U.heap = h0) (fun _ _ _ _ _ => True) (fun _ U o U' => ∃ v L, o = .returned v ∧ Q22_2 Z pr1 w_mir kk_pr1 c0_pr1 c1_pr1 c2_pr1 c3_pr1 c4_pr1 c5_pr1 c6_pr1 c7_pr1 c8_pr1 c9_pr1 h0 n0 v U'.heap L ∧ FrameEnd U o U' L ({ frames := 1, cells := 1, slots := 2, locals := 18 } : Room).cells ({ frames := 1, cells := 1, slots := 2, locals := 18 } : Room).slots) := by
  refine MetFree.of_bodySF (plainFor_of_name pn_22) hisR ?_
  intro p e s m args below meth c s₁ Bd hml0 hP hK
  obtain ⟨rfl, hZ, hh⟩ := hP
  have hx := Bd.exec
  have hby := Bd.bytes
  have hml : c.maxLocals = 4 := hml0
  have hown : s.vm.findClass "java/util/Arrays" = some m.cls := findClass_of_methodNamed Bd.named
  have hnm := (name_of_methodNamed Bd.named Bd.method).1
  have X0 : Stand p l e ({ frames := 1, cells := 1, slots := 2, locals := 18 } : Room) s m #[(.ref pr1), (.int 2), (.ref w_mir)] below meth c s₁ [] 0 0 := Stand.of_body Bd
  have e0 : s₁.heap = h0 := by rw [← hh, Bd.state]; rfl
  have N0 := Fr.nil n0
  have pre0 : ∀ t, Steps p.tables e below (s₁.setTop (mkF m 0 #[vr pr1, vi 2, vr w_mir, .unset] [])) t → Steps p.tables e below (s₁.setTop (entryFrame m #[(.ref pr1), (.int 2), (.ref w_mir)] 4)) t := fun t k => castTop (ef_22__2 m pr1 w_mir) k
  obtain ⟨T1, X1, e1, st1⟩ := own_ldcM X0 hx hZ hown (own_W hw 162 rfl) e0 M_mir (g := (mkF m 1 #[vr pr1, vi 2, vr w_mir, .unset] [(.ref w_mir)])) rfl (hb hby d22_1)
  obtain ⟨T2, h2, k2, X2, e2, E2, A2, O2, st2⟩ := newR X1 hx hZ hown (own_W hw 163 rfl) (own_W hw 118 rfl) e1 (g := (mkF m 7 #[vr pr1, vi 2, vr w_mir, .unset] [(.int 2)])) rfl (hb hby d22_7) rfl (by decide) (cap := 2) (by decide) (by decide) (by decide) (by decide)
  obtain ⟨b2, g2⟩ : ∃ z, z = h0.size := ⟨_, rfl⟩
  rw [← g2] at A2 st2
  have V2 : Arv Z h2 b2 k2 (.object "java/lang/Object") (2 : Int32) [.null, .null] .null := (Arv.new A2 (by decide)).pad (pad_rep [] .null 2)
  have f4 := V_pr1.ext E2
  have V_c3 := f4
  obtain ⟨c3, Arc3, qc3, Sc3, Nc3, Hc3, Gc3⟩ := V_c3
  have z6 := Nat.le_trans Z0 E2.1
  have o7 := O0.ext E2
  obtain ⟨_, _, ⟨T5, L5, k5, n5⟩, -, X5, ⟨Lc5, hQ5, l5, y5, z5⟩, st5⟩ := Jvm.LawKit.callS X2 hx (y := mN10) hown (mvT hZ (own_W hw 164 rfl)) (mvT hZ (own_W hw 165 rfl)) (mvT hZ (own_W hw 115 rfl)) (mvT hZ (own_W hw 166 rfl)) (by decide) (backOf (W := 4) (rm23 l Z a0 hw [] (10 : Int32) (2 : Int32) h2 n0 z6 o7 (by decide)) hZ (own_W hw 166 rfl) (own_W hw 115 rfl) (by decide) (by decide)) (g := (mkF m 32 #[vr pr1, vi 2, vr w_mir, vr b2] [(.int 2), (.int 10), (.int 0), (.ref b2), (.int 0), (.ref pr1)])) rfl (by rw [hml]; rfl) (argsL := [(.int 10), (.int 2)]) (rest := [(.int 0), (.ref b2), (.int 0), (.ref pr1)]) (lenOf pd_9 rfl) rfl (by show 2 * 0 + _ ≤ _; exact Nat.le_of_eq rfl) (hb hby d22_32) (fun _ _ => ⟨rfl, e2, (by decide : 1 + 0 ≤ _), (by decide : 2 + 0 ≤ _)⟩)
  dsimp only [Pt.U, Pt.locs, Pt.cells, Pt.slots] at X5 l5 y5 z5 st5 hQ5
  subst l5 y5 z5
  obtain ⟨rfl, N5q, eq5⟩ := hQ5
  have N5 := Fr.app N0 N5q
  have g_b2 : n0 ≤ b2 := Nat.le_trans Z0 (Nat.le_of_eq g2.symm)
  have V_c8 := V2
  obtain ⟨c8, Arc8, qc8, Sc8, Nc8, Hc8, Gc8⟩ := V_c8
  have f9 := E_c1_pr1.ext E2
  have f10 := E_c0_pr1.ext E2
  obtain ⟨T11, h11, Lq11, X11, e11, N11, K11, Va11, st11⟩ := cpA X5 hx hZ hown (own_W hw 167 rfl) (own_W hw 170 rfl) (own_W hw 168 rfl) (own_W hw 169 rfl) eq5 f4 V2 (sp := (0 : Int32)) (dp := (0 : Int32)) (nn := (2 : Int32)) (us := [(.ref c0_pr1), (.ref c1_pr1)]) (Or.inr ⟨rfl, rfl, ⟨Sto.ofV Arc8 qc8 O2 (Ins.of_exa f10 (own_W hw 119 rfl)), ⟨Sto.ofV Arc8 qc8 O2 (Ins.of_exa f9 (own_W hw 119 rfl)), True.intro⟩⟩⟩) (by decide) (by decide) (by decide) (by decide) (by decide) rfl (by decide) N5 g_b2 (g := (mkF m 35 #[vr pr1, vi 2, vr w_mir, vr b2] [(.int 2), (.int 0), (.ref b2), (.int 0), (.ref pr1)])) rfl (by rw [hml]; rfl) rfl (hb hby d22_35) (by decide) (W := 0) (by show 2 * 0 + _ ≤ _; exact Nat.le_of_eq rfl) (by decide)
  have V11 : Arv Z h11 b2 k2 (.object "java/lang/Object") (2 : Int32) [(.ref c0_pr1), (.ref c1_pr1)] .null := Va11
  have k12 : Keep h0 h2 [] := (Keep.refl h0 []).ext E2
  have k13 : Keep h0 h11 [] := k12.trans K11 (allS (Or.inr (Nat.le_trans (Keep.refl h0 []).1 (Nat.le_of_eq g2.symm))) all0)
  obtain ⟨fs, hr, hrun, hended, hW, hsame⟩ := X11.leave (v := some (.ref b2)) (fun h => by rw [Bd.returns] at h; cases h) (BodyLoose.notSynchronized Bd)
  refine ⟨_, _, pre0 _ ?_, hrun, hended, _, _, rfl, ?_, ⟨_, rfl⟩, hW, hsame.mono (by decide) (by decide)⟩
  · show Stp p e below s₁ m 0 #[vr pr1, vi 2, vr w_mir, .unset] [] _
    refine XS.aloadN X0.here hx rfl (hb hby d22_0) rfl rfl ?_
    refine st1 _ ?_
    show Stp p e below T1 m 3 #[vr pr1, vi 2, vr w_mir, .unset] [(.ref w_mir), (.ref w_mir)] _
    refine Jvm.RoadKit.acmp (g := (mkF m 3 #[vr pr1, vi 2, vr w_mir, .unset] [(.ref w_mir), (.ref w_mir)])) X1 hx rfl rfl rfl (pc0 := 3) (pc' := 6) (same := true) rfl (hb hby d22_3) rfl (decide_eq_true rfl) (by decide) (by decide) ?_
    show Stp p e below T1 m 6 #[vr pr1, vi 2, vr w_mir, .unset] [] _
    refine XS.iloadN X1.here hx rfl (hb hby d22_6) rfl ?_
    refine st2 _ ?_
    show Stp p e below T2 m 10 #[vr pr1, vi 2, vr w_mir, .unset] [(.ref b2)] _
    refine XS.goto X2.here hx rfl (pc0 := 10) (pc' := 24) rfl (hb hby d22_10) (by decide) (by decide) ?_
    show Stp p e below T2 m 24 #[vr pr1, vi 2, vr w_mir, .unset] [(.ref b2)] _
    refine XS.astoreN X2.here hx rfl (hb hby d22_24) rfl rfl (l' := #[vr pr1, vi 2, vr w_mir, vr b2]) rfl ?_
    refine XS.aloadN X2.here hx rfl (hb hby d22_25) rfl rfl ?_
    refine XS.iconst X2.here hx rfl (hb hby d22_26) ?_
    refine XS.aloadN X2.here hx rfl (hb hby d22_27) rfl rfl ?_
    refine XS.iconst X2.here hx rfl (hb hby d22_28) ?_
    refine XS.aloadN X2.here hx rfl (hb hby d22_29) rfl rfl ?_
    refine X2.arraylength hx (by rw [e2]; exact Arc3.1) (State.isArrayOf_alike hZ.alike Arc3.2.1) (g := (mkF m 30 #[vr pr1, vi 2, vr w_mir, vr b2] [(.ref pr1), (.int 0), (.ref b2), (.int 0), (.ref pr1)])) rfl rfl (hb hby d22_30) _ ?_
    rw [len_of Sc3 Nc3]
    show Stp p e below T2 m 31 #[vr pr1, vi 2, vr w_mir, vr b2] [(.int 10), (.int 0), (.ref b2), (.int 0), (.ref pr1)] _
    refine XS.iloadN X2.here hx rfl (hb hby d22_31) rfl ?_
    refine st5 _ ?_
    show Stp p e below T5 m 35 #[vr pr1, vi 2, vr w_mir, vr b2] [(.int 2), (.int 0), (.ref b2), (.int 0), (.ref pr1)] _
    refine st11 _ ?_
    show Stp p e below T11 m 38 #[vr pr1, vi 2, vr w_mir, vr b2] [] _
    refine XS.aloadN X11.here hx rfl (hb hby d22_38) rfl rfl ?_
    jvm_step X11.here [X11.here.top, hx, (hb hby d22_39), X11.method', Bd.returns, Value.isRef, FieldType.isReference]
    first | (intro acts; rw [hr _ acts rfl rfl rfl]) | rw [hr _ _ rfl rfl rfl]
    exact Steps.refl _
  · show Q22_2 Z pr1 w_mir kk_pr1 c0_pr1 c1_pr1 c2_pr1 c3_pr1 c4_pr1 c5_pr1 c6_pr1 c7_pr1 c8_pr1 c9_pr1 h0 n0 _ T11.heap _
    rw [e11]
    exact ⟨b2, k2, rfl, N11, k13, (Nat.le_trans (Keep.refl h0 []).1 (Nat.le_of_eq g2.symm)), V11, O2⟩
theorem ef_22__3 (m : MethodId) (pr1 : Addr) (w_mir : Addr) : entryFrame m #[(.ref pr1), (.int 3), (.ref w_mir)] 4 = mkF m 0 #[vr pr1, vi 3, vr w_mir, .unset] [] := by first | (simp [entryFrame, mkF, argsToLocals, Value.category]; done) | rfl
def Q22_3 (Z : State) (pr1 : Addr) (w_mir : Addr) (kk_pr1 : ClassId) (c0_pr1 : Addr) (c1_pr1 : Addr) (c2_pr1 : Addr) (c3_pr1 : Value) (c4_pr1 : Value) (c5_pr1 : Value) (c6_pr1 : Value) (c7_pr1 : Value) (c8_pr1 : Value) (c9_pr1 : Value) (h0 : Heap) (n0 : Nat) (v : Option Value) (h : Heap) (L : List Loc) : Prop := ∃ b2 : Addr, ∃ k2 : ClassId, v = some (.ref b2) ∧ Fr n0 L ∧ Keep h0 h [] ∧ h0.size ≤ b2 ∧ Arv Z h b2 k2 (.object "java/lang/Object") (3 : Int32) [(.ref c0_pr1), (.ref c1_pr1), (.ref c2_pr1)] .null ∧ Ovr Z k2 "java/lang/Object"
set_option maxRecDepth 65536 in
set_option maxHeartbeats 40000000 in
theorem rm22_3 (l : Launch) (Z : State) (a0 : Array Value) (hw : ∀ d ∈ tables_1, d.before a0 Z = true) (ws : List Jvm.Cond) (pr1 : Addr) (w_mir : Addr) (kk_pr1 : ClassId) (c0_pr1 : Addr) (c1_pr1 : Addr) (c2_pr1 : Addr) (c3_pr1 : Value) (c4_pr1 : Value) (c5_pr1 : Value) (c6_pr1 : Value) (c7_pr1 : Value) (c8_pr1 : Value) (c9_pr1 : Value) (h0 : Heap) (n0 : Nat) (Z0 : n0 ≤ h0.size) (O0 : Old Z n0 h0) (M_mir : Mir Z "[Ljava/lang/Object;" w_mir) (V_pr1 : Arv Z h0 pr1 kk_pr1 (.object "java/lang/Object") (10 : Int32) [(.ref c0_pr1), (.ref c1_pr1), (.ref c2_pr1), c3_pr1, c4_pr1, c5_pr1, c6_pr1, c7_pr1, c8_pr1, c9_pr1] .null) (E_c0_pr1 : Exa Z h0 c0_pr1 "com/example/tyche/tyche/model/jani/Expression$Operation") (E_c1_pr1 : Exa Z h0 c1_pr1 "com/example/tyche/tyche/model/jani/Expression$Operation") (E_c2_pr1 : Exa Z h0 c2_pr1 "com/example/tyche/tyche/model/jani/Expression$Operation") :
    MetFree l mN11 (head1 (Jvm.Cond.code mN11 jdk_65_method_120_code 4 (some (.array (.object "java/lang/Object"))) :: ws) ({ frames := 1, cells := 1, slots := 3, locals := 18 } : Room)) (fun a U => a = #[(.ref pr1), (.int 3), (.ref w_mir)] ∧ Z.Warmed39 U.vm ∧ U.heap = h0) (fun _ _ _ _ _ => True) (fun _ U o U' => ∃ v L, o = .returned v ∧ Q22_3 Z pr1 w_mir kk_pr1 c0_pr1 c1_pr1 c2_pr1 c3_pr1 c4_pr1 c5_pr1 c6_pr1 c7_pr1 c8_pr1 c9_pr1 h0 n0 v U'.heap L ∧ FrameEnd U o U' L ({ frames := 1, cells := 1, slots := 3, locals := 18 } : Room).cells ({ frames := 1, cells := 1, slots := 3, locals := 18 } : Room).slots) := by
  refine MetFree.of_bodySF (plainFor_of_name pn_22) hisR ?_
  intro p e s m args below meth c s₁ Bd hml0 hP hK
  obtain ⟨rfl, hZ, hh⟩ := hP
  have hx := Bd.exec
  have hby := Bd.bytes
  have hml : c.maxLocals = 4 := hml0
  have hown : s.vm.findClass "java/util/Arrays" = some m.cls := findClass_of_methodNamed Bd.named
  have hnm := (name_of_methodNamed Bd.named Bd.method).1
  have X0 : Stand p l e ({ frames := 1, cells := 1, slots := 3, locals := 18 } : Room) s m #[(.ref pr1), (.int 3), (.ref w_mir)] below meth c s₁ [] 0 0 := Stand.of_body Bd
  have e0 : s₁.heap = h0 := by rw [← hh, Bd.state]; rfl
  have N0 := Fr.nil n0
  have pre0 : ∀ t, Steps p.tables e below (s₁.setTop (mkF m 0 #[vr pr1, vi 3, vr w_mir, .unset] [])) t → Steps p.tables e below (s₁.setTop (entryFrame m #[(.ref pr1), (.int 3), (.ref w_mir)] 4)) t := fun t k => castTop (ef_22__3 m pr1 w_mir) k
  obtain ⟨T1, X1, e1, st1⟩ := own_ldcM X0 hx hZ hown (own_W hw 162 rfl) e0 M_mir (g := (mkF m 1 #[vr pr1, vi 3, vr w_mir, .unset] [(.ref w_mir)])) rfl (hb hby d22_1)
  obtain ⟨T2, h2, k2, X2, e2, E2, A2, O2, st2⟩ := newR X1 hx hZ hown (own_W hw 163 rfl) (own_W hw 118 rfl) e1 (g := (mkF m 7 #[vr pr1, vi 3, vr w_mir, .unset] [(.int 3)])) rfl (hb hby d22_7) rfl (by decide) (cap := 3) (by decide) (by decide) (by decide) (by decide)
  obtain ⟨b2, g2⟩ : ∃ z, z = h0.size := ⟨_, rfl⟩
  rw [← g2] at A2 st2
  have V2 : Arv Z h2 b2 k2 (.object "java/lang/Object") (3 : Int32) [.null, .null, .null] .null := (Arv.new A2 (by decide)).pad (pad_rep [] .null 3)
  have f4 := V_pr1.ext E2
  have V_c3 := f4
  obtain ⟨c3, Arc3, qc3, Sc3, Nc3, Hc3, Gc3⟩ := V_c3
  have z6 := Nat.le_trans Z0 E2.1
  have o7 := O0.ext E2
  obtain ⟨_, _, ⟨T5, L5, k5, n5⟩, -, X5, ⟨Lc5, hQ5, l5, y5, z5⟩, st5⟩ := Jvm.LawKit.callS X2 hx (y := mN10) hown (mvT hZ (own_W hw 164 rfl)) (mvT hZ (own_W hw 165 rfl)) (mvT hZ (own_W hw 115 rfl)) (mvT hZ (own_W hw 166 rfl)) (by decide) (backOf (W := 4) (rm23 l Z a0 hw [] (10 : Int32) (3 : Int32) h2 n0 z6 o7 (by decide)) hZ (own_W hw 166 rfl) (own_W hw 115 rfl) (by decide) (by decide)) (g := (mkF m 32 #[vr pr1, vi 3, vr w_mir, vr b2] [(.int 3), (.int 10), (.int 0), (.ref b2), (.int 0), (.ref pr1)])) rfl (by rw [hml]; rfl) (argsL := [(.int 10), (.int 3)]) (rest := [(.int 0), (.ref b2), (.int 0), (.ref pr1)]) (lenOf pd_9 rfl) rfl (by show 2 * 0 + _ ≤ _; exact Nat.le_of_eq rfl) (hb hby d22_32) (fun _ _ => ⟨rfl, e2, (by decide : 1 + 0 ≤ _), (by decide : 3 + 0 ≤ _)⟩)
  dsimp only [Pt.U, Pt.locs, Pt.cells, Pt.slots] at X5 l5 y5 z5 st5 hQ5
  subst l5 y5 z5
  obtain ⟨rfl, N5q, eq5⟩ := hQ5
  have N5 := Fr.app N0 N5q
  have g_b2 : n0 ≤ b2 := Nat.le_trans Z0 (Nat.le_of_eq g2.symm)
  have V_c8 := V2
  obtain ⟨c8, Arc8, qc8, Sc8, Nc8, Hc8, Gc8⟩ := V_c8
  have f9 := E_c2_pr1.ext E2
  have f10 := E_c1_pr1.ext E2
  have f11 := E_c0_pr1.ext E2
  obtain ⟨T12, h12, Lq12, X12, e12, N12, K12, Va12, st12⟩ := cpA X5 hx hZ hown (own_W hw 167 rfl) (own_W hw 170 rfl) (own_W hw 168 rfl) (own_W hw 169 rfl) eq5 f4 V2 (sp := (0 : Int32)) (dp := (0 : Int32)) (nn := (3 : Int32)) (us := [(.ref c0_pr1), (.ref c1_pr1), (.ref c2_pr1)]) (Or.inr ⟨rfl, rfl, ⟨Sto.ofV Arc8 qc8 O2 (Ins.of_exa f11 (own_W hw 119 rfl)), ⟨Sto.ofV Arc8 qc8 O2 (Ins.of_exa f10 (own_W hw 119 rfl)), ⟨Sto.ofV Arc8 qc8 O2 (Ins.of_exa f9 (own_W hw 119 rfl)), True.intro⟩⟩⟩⟩) (by decide) (by decide) (by decide) (by decide) (by decide) rfl (by decide) N5 g_b2 (g := (mkF m 35 #[vr pr1, vi 3, vr w_mir, vr b2] [(.int 3), (.int 0), (.ref b2), (.int 0), (.ref pr1)])) rfl (by rw [hml]; rfl) rfl (hb hby d22_35) (by decide) (W := 0) (by show 2 * 0 + _ ≤ _; exact Nat.le_of_eq rfl) (by decide)
  have V12 : Arv Z h12 b2 k2 (.object "java/lang/Object") (3 : Int32) [(.ref c0_pr1), (.ref c1_pr1), (.ref c2_pr1)] .null := Va12
  have k13 : Keep h0 h2 [] := (Keep.refl h0 []).ext E2
  have k14 : Keep h0 h12 [] := k13.trans K12 (allS (Or.inr (Nat.le_trans (Keep.refl h0 []).1 (Nat.le_of_eq g2.symm))) all0)
  obtain ⟨fs, hr, hrun, hended, hW, hsame⟩ := X12.leave (v := some (.ref b2)) (fun h => by rw [Bd.returns] at h; cases h) (BodyLoose.notSynchronized Bd)
  refine ⟨_, _, pre0 _ ?_, hrun, hended, _, _, rfl, ?_, ⟨_, rfl⟩, hW, hsame.mono (by decide) (by decide)⟩
  · show Stp p e below s₁ m 0 #[vr pr1, vi 3, vr w_mir, .unset] [] _
    refine XS.aloadN X0.here hx rfl (hb hby d22_0) rfl rfl ?_
    refine st1 _ ?_
    show Stp p e below T1 m 3 #[vr pr1, vi 3, vr w_mir, .unset] [(.ref w_mir), (.ref w_mir)] _
    refine Jvm.RoadKit.acmp (g := (mkF m 3 #[vr pr1, vi 3, vr w_mir, .unset] [(.ref w_mir), (.ref w_mir)])) X1 hx rfl rfl rfl (pc0 := 3) (pc' := 6) (same := true) rfl (hb hby d22_3) rfl (decide_eq_true rfl) (by decide) (by decide) ?_
    show Stp p e below T1 m 6 #[vr pr1, vi 3, vr w_mir, .unset] [] _
    refine XS.iloadN X1.here hx rfl (hb hby d22_6) rfl ?_
    refine st2 _ ?_
    show Stp p e below T2 m 10 #[vr pr1, vi 3, vr w_mir, .unset] [(.ref b2)] _
    refine XS.goto X2.here hx rfl (pc0 := 10) (pc' := 24) rfl (hb hby d22_10) (by decide) (by decide) ?_
    show Stp p e below T2 m 24 #[vr pr1, vi 3, vr w_mir, .unset] [(.ref b2)] _
    refine XS.astoreN X2.here hx rfl (hb hby d22_24) rfl rfl (l' := #[vr pr1, vi 3, vr w_mir, vr b2]) rfl ?_
    refine XS.aloadN X2.here hx rfl (hb hby d22_25) rfl rfl ?_
    refine XS.iconst X2.here hx rfl (hb hby d22_26) ?_
    refine XS.aloadN X2.here hx rfl (hb hby d22_27) rfl rfl ?_
    refine XS.iconst X2.here hx rfl (hb hby d22_28) ?_
    refine XS.aloadN X2.here hx rfl (hb hby d22_29) rfl rfl ?_
    refine X2.arraylength hx (by rw [e2]; exact Arc3.1) (State.isArrayOf_alike hZ.alike Arc3.2.1) (g := (mkF m 30 #[vr pr1, vi 3, vr w_mir, vr b2] [(.ref pr1), (.int 0), (.ref b2), (.int 0), (.ref pr1)])) rfl rfl (hb hby d22_30) _ ?_
    rw [len_of Sc3 Nc3]
    show Stp p e below T2 m 31 #[vr pr1, vi 3, vr w_mir, vr b2] [(.int 10), (.int 0), (.ref b2), (.int 0), (.ref pr1)] _
    refine XS.iloadN X2.here hx rfl (hb hby d22_31) rfl ?_
    refine st5 _ ?_
    show Stp p e below T5 m 35 #[vr pr1, vi 3, vr w_mir, vr b2] [(.int 3), (.int 0), (.ref b2), (.int 0), (.ref pr1)] _
    refine st12 _ ?_
    show Stp p e below T12 m 38 #[vr pr1, vi 3, vr w_mir, vr b2] [] _
    refine XS.aloadN X12.here hx rfl (hb hby d22_38) rfl rfl ?_
    jvm_step X12.here [X12.here.top, hx, (hb hby d22_39), X12.method', Bd.returns, Value.isRef, FieldType.isReference]
    first | (intro acts; rw [hr _ acts rfl rfl rfl]) | rw [hr _ _ rfl rfl rfl]
    exact Steps.refl _
  · show Q22_3 Z pr1 w_mir kk_pr1 c0_pr1 c1_pr1 c2_pr1 c3_pr1 c4_pr1 c5_pr1 c6_pr1 c7_pr1 c8_pr1 c9_pr1 h0 n0 _ T12.heap _
    rw [e12]
    exact ⟨b2, k2, rfl, N12, k14, (Nat.le_trans (Keep.refl h0 []).1 (Nat.le_of_eq g2.symm)), V12, O2⟩
theorem pd_16 : parseMethodDescriptor "([Ljava/lang/Object;ILjava/lang/Class;)[Ljava/lang/Object;" = some ⟨[(.array (.object "java/lang/Object")), .int, (.object "java/lang/Class")], some (.array (.object "java/lang/Object"))⟩ := by decide +kernel
theorem d21_0 : decode jdk_65_method_119_code 0 = .ok (.aload_n 0, 1) := by decide +kernel
theorem d21_1 : decode jdk_65_method_119_code 1 = .ok (.iload_n 1, 1) := by decide +kernel
theorem d21_2 : decode jdk_65_method_119_code 2 = .ok (.aload_n 0, 1) := by decide +kernel
theorem d21_3 : decode jdk_65_method_119_code 3 = .ok (.invokevirtual 86, 3) := by decide +kernel
theorem d21_6 : decode jdk_65_method_119_code 6 = .ok (.invokestatic 300, 3) := by decide +kernel
theorem d21_9 : decode jdk_65_method_119_code 9 = .ok (.areturn, 1) := by decide +kernel
theorem pn_21 : plainName "java/util/Arrays" = true := by first | (simp [plainName, overriddenIn]; done) | decide +kernel
theorem ef_21__1 (m : MethodId) (pr1 : Addr) : entryFrame m #[(.ref pr1), (.int 1)] 2 = mkF m 0 #[vr pr1, vi 1] [] := by first | (simp [entryFrame, mkF, argsToLocals, Value.category]; done) | rfl
def Q21_1 (Z : State) (pr1 : Addr) (w_mir : Addr) (kk_pr1 : ClassId) (c0_pr1 : Addr) (c1_pr1 : Value) (c2_pr1 : Value) (c3_pr1 : Value) (c4_pr1 : Value) (c5_pr1 : Value) (c6_pr1 : Value) (c7_pr1 : Value) (c8_pr1 : Value) (c9_pr1 : Value) (h0 : Heap) (n0 : Nat) (v : Option Value) (h : Heap) (L : List Loc) : Prop := ∃ b2 : Addr, ∃ b2_1 : ClassId, v = some (.ref b2) ∧ Fr n0 L ∧ Keep h0 h [] ∧ h0.size ≤ b2 ∧ Arv Z h b2 b2_1 (.object "java/lang/Object") (1 : Int32) [(.ref c0_pr1)] .null ∧ Ovr Z b2_1 "java/lang/Object"
set_option maxRecDepth 65536 in
set_option maxHeartbeats 40000000 in
theorem rm21_1 (l : Launch) (Z : State) (a0 : Array Value) (hw : ∀ d ∈ tables_1, d.before a0 Z = true) (ws : List Jvm.Cond) (pr1 : Addr) (w_mir : Addr) (kk_pr1 : ClassId) (c0_pr1 : Addr) (c1_pr1 : Value) (c2_pr1 : Value) (c3_pr1 : Value) (c4_pr1 : Value) (c5_pr1 : Value) (c6_pr1 : Value) (c7_pr1 : Value) (c8_pr1 : Value) (c9_pr1 : Value) (h0 : Heap) (n0 : Nat) (Z0 : n0 ≤ h0.size) (O0 : Old Z n0 h0) (M_mir : Mir Z "[Ljava/lang/Object;" w_mir) (E_pr1 : Exa Z h0 pr1 "[Ljava/lang/Object;") (V_pr1 : Arv Z h0 pr1 kk_pr1 (.object "java/lang/Object") (10 : Int32) [(.ref c0_pr1), c1_pr1, c2_pr1, c3_pr1, c4_pr1, c5_pr1, c6_pr1, c7_pr1, c8_pr1, c9_pr1] .null) (E_c0_pr1 : Exa Z h0 c0_pr1 "com/example/tyche/tyche/model/jani/Expression$Operation") :
    MetFree l mN12 (head1 (Jvm.Cond.code mN12 jdk_65_method_119_code 2 (some (.array (.object "java/lang/Object"))) :: ws) ({ frames := 2, cells := 1, slots := 1, locals := 33 } : Room)) (fun a U => a = #[(.ref pr1), (.int 1)] ∧ Z.Warmed39 U.vm ∧ U.heap = h0) (fun _ _ _ _ _ => True) (fun _ U o U' => ∃ v L, o = .returned v ∧ Q21_1 Z pr1 w_mir kk_pr1 c0_pr1 c1_pr1 c2_pr1 c3_pr1 c4_pr1 c5_pr1 c6_pr1 c7_pr1 c8_pr1 c9_pr1 h0 n0 v U'.heap L ∧ FrameEnd U o U' L ({ frames := 2, cells := 1, slots := 1, locals := 33 } : Room).cells ({ frames := 2, cells := 1, slots := 1, locals := 33 } : Room).slots) := by
  refine MetFree.of_bodySF (plainFor_of_name pn_21) hisR ?_
  intro p e s m args below meth c s₁ Bd hml0 hP hK
  obtain ⟨rfl, hZ, hh⟩ := hP
  have hx := Bd.exec
  have hby := Bd.bytes
  have hml : c.maxLocals = 2 := hml0
  have hown : s.vm.findClass "java/util/Arrays" = some m.cls := findClass_of_methodNamed Bd.named
  have hnm := (name_of_methodNamed Bd.named Bd.method).1
  have X0 : Stand p l e ({ frames := 2, cells := 1, slots := 1, locals := 33 } : Room) s m #[(.ref pr1), (.int 1)] below meth c s₁ [] 0 0 := Stand.of_body Bd
  have e0 : s₁.heap = h0 := by rw [← hh, Bd.state]; rfl
  have N0 := Fr.nil n0
  have pre0 : ∀ t, Steps p.tables e below (s₁.setTop (mkF m 0 #[vr pr1, vi 1] [])) t → Steps p.tables e below (s₁.setTop (entryFrame m #[(.ref pr1), (.int 1)] 2)) t := fun t k => castTop (ef_21__1 m pr1) k
  obtain ⟨T1, X1, e1, st1⟩ := gcls X0 hx hZ hown (own_W hw 153 rfl) (own_W hw 154 rfl) (own_W hw 62 rfl) (own_W hw 156 rfl) (own_W hw 155 rfl) (own_W hw 157 rfl) e0 E_pr1 M_mir (g := (mkF m 3 #[vr pr1, vi 1] [(.ref pr1), (.int 1), (.ref pr1)])) rfl (by rw [hml]; rfl) rfl (hb hby d21_3) (by decide) (W := 2) (by show 2 * 0 + _ ≤ _; exact Nat.le_of_eq rfl) (by decide)
  obtain ⟨_, _, ⟨T2, L2, k2, n2⟩, -, X2, ⟨Lc2, hQ2, l2, y2, z2⟩, st2⟩ := Jvm.LawKit.callS X1 hx (y := mN11) hown (mvT hZ (own_W hw 159 rfl)) (mvT hZ (own_W hw 160 rfl)) (mvT hZ (own_W hw 151 rfl)) (mvT hZ (own_W hw 161 rfl)) (by decide) (backOf (W := 0) (rm22_1 l Z a0 hw [] pr1 w_mir kk_pr1 c0_pr1 c1_pr1 c2_pr1 c3_pr1 c4_pr1 c5_pr1 c6_pr1 c7_pr1 c8_pr1 c9_pr1 h0 n0 Z0 O0 M_mir V_pr1 E_c0_pr1) hZ (own_W hw 161 rfl) (own_W hw 151 rfl) (by decide) (by decide)) (g := (mkF m 6 #[vr pr1, vi 1] [(.ref w_mir), (.int 1), (.ref pr1)])) rfl (by rw [hml]; rfl) (argsL := [(.ref pr1), (.int 1), (.ref w_mir)]) (rest := []) (lenOf pd_16 rfl) rfl (by show 2 * 0 + _ ≤ _; exact Nat.le_of_eq rfl) (hb hby d21_6) (fun _ _ => ⟨rfl, e1, (by decide : 0 + 1 ≤ _), (by decide : 0 + 1 ≤ _)⟩)
  dsimp only [Pt.U, Pt.locs, Pt.cells, Pt.slots] at X2 l2 y2 z2 st2 hQ2
  subst l2 y2 z2
  obtain ⟨b2, b2_1, rfl, N2q, K2, qf2_0, qf2_1, qf2_2⟩ := hQ2
  have N2 := Fr.app N0 N2q
  have k3 : Keep h0 T2.heap [] := (Keep.refl h0 []).trans K2 all0
  obtain ⟨fs, hr, hrun, hended, hW, hsame⟩ := X2.leave (v := some (.ref b2)) (fun h => by rw [Bd.returns] at h; cases h) (BodyLoose.notSynchronized Bd)
  refine ⟨_, _, pre0 _ ?_, hrun, hended, _, _, rfl, ?_, ⟨_, rfl⟩, hW, hsame.mono (by decide) (by decide)⟩
  · show Stp p e below s₁ m 0 #[vr pr1, vi 1] [] _
    refine XS.aloadN X0.here hx rfl (hb hby d21_0) rfl rfl ?_
    refine XS.iloadN X0.here hx rfl (hb hby d21_1) rfl ?_
    refine XS.aloadN X0.here hx rfl (hb hby d21_2) rfl rfl ?_
    refine st1 _ ?_
    show Stp p e below T1 m 6 #[vr pr1, vi 1] [(.ref w_mir), (.int 1), (.ref pr1)] _
    refine st2 _ ?_
    show Stp p e below T2 m 9 #[vr pr1, vi 1] [(.ref b2)] _
    jvm_step X2.here [X2.here.top, hx, (hb hby d21_9), X2.method', Bd.returns, Value.isRef, FieldType.isReference]
    first | (intro acts; rw [hr _ acts rfl rfl rfl]) | rw [hr _ _ rfl rfl rfl]
    exact Steps.refl _
  · show Q21_1 Z pr1 w_mir kk_pr1 c0_pr1 c1_pr1 c2_pr1 c3_pr1 c4_pr1 c5_pr1 c6_pr1 c7_pr1 c8_pr1 c9_pr1 h0 n0 _ T2.heap _
    exact ⟨b2, b2_1, rfl, N2, k3, (Nat.le_trans (Keep.refl h0 []).1 qf2_0), qf2_1, qf2_2⟩
theorem ef_21__2 (m : MethodId) (pr1 : Addr) : entryFrame m #[(.ref pr1), (.int 2)] 2 = mkF m 0 #[vr pr1, vi 2] [] := by first | (simp [entryFrame, mkF, argsToLocals, Value.category]; done) | rfl
def Q21_2 (Z : State) (pr1 : Addr) (w_mir : Addr) (kk_pr1 : ClassId) (c0_pr1 : Addr) (c1_pr1 : Addr) (c2_pr1 : Value) (c3_pr1 : Value) (c4_pr1 : Value) (c5_pr1 : Value) (c6_pr1 : Value) (c7_pr1 : Value) (c8_pr1 : Value) (c9_pr1 : Value) (h0 : Heap) (n0 : Nat) (v : Option Value) (h : Heap) (L : List Loc) : Prop := ∃ b2 : Addr, ∃ b2_1 : ClassId, v = some (.ref b2) ∧ Fr n0 L ∧ Keep h0 h [] ∧ h0.size ≤ b2 ∧ Arv Z h b2 b2_1 (.object "java/lang/Object") (2 : Int32) [(.ref c0_pr1), (.ref c1_pr1)] .null ∧ Ovr Z b2_1 "java/lang/Object"
set_option maxRecDepth 65536 in
set_option maxHeartbeats 40000000 in
theorem rm21_2 (l : Launch) (Z : State) (a0 : Array Value) (hw : ∀ d ∈ tables_1, d.before a0 Z = true) (ws : List Jvm.Cond) (pr1 : Addr) (w_mir : Addr) (kk_pr1 : ClassId) (c0_pr1 : Addr) (c1_pr1 : Addr) (c2_pr1 : Value) (c3_pr1 : Value) (c4_pr1 : Value) (c5_pr1 : Value) (c6_pr1 : Value) (c7_pr1 : Value) (c8_pr1 : Value) (c9_pr1 : Value) (h0 : Heap) (n0 : Nat) (Z0 : n0 ≤ h0.size) (O0 : Old Z n0 h0) (M_mir : Mir Z "[Ljava/lang/Object;" w_mir) (E_pr1 : Exa Z h0 pr1 "[Ljava/lang/Object;") (V_pr1 : Arv Z h0 pr1 kk_pr1 (.object "java/lang/Object") (10 : Int32) [(.ref c0_pr1), (.ref c1_pr1), c2_pr1, c3_pr1, c4_pr1, c5_pr1, c6_pr1, c7_pr1, c8_pr1, c9_pr1] .null) (E_c0_pr1 : Exa Z h0 c0_pr1 "com/example/tyche/tyche/model/jani/Expression$Operation") (E_c1_pr1 : Exa Z h0 c1_pr1 "com/example/tyche/tyche/model/jani/Expression$Operation") :
    MetFree l mN12 (head1 (Jvm.Cond.code mN12 jdk_65_method_119_code 2 (some (.array (.object "java/lang/Object"))) :: ws) ({ frames := 2, cells := 1, slots := 2, locals := 33 } : Room)) (fun a U => a = #[(.ref pr1), (.int 2)] ∧ Z.Warmed39 U.vm ∧ U.heap = h0) (fun _ _ _ _ _ => True) (fun _ U o U' => ∃ v L, o = .returned v ∧ Q21_2 Z pr1 w_mir kk_pr1 c0_pr1 c1_pr1 c2_pr1 c3_pr1 c4_pr1 c5_pr1 c6_pr1 c7_pr1 c8_pr1 c9_pr1 h0 n0 v U'.heap L ∧ FrameEnd U o U' L ({ frames := 2, cells := 1, slots := 2, locals := 33 } : Room).cells ({ frames := 2, cells := 1, slots := 2, locals := 33 } : Room).slots) := by
  refine MetFree.of_bodySF (plainFor_of_name pn_21) hisR ?_
  intro p e s m args below meth c s₁ Bd hml0 hP hK
  obtain ⟨rfl, hZ, hh⟩ := hP
  have hx := Bd.exec
  have hby := Bd.bytes
  have hml : c.maxLocals = 2 := hml0
  have hown : s.vm.findClass "java/util/Arrays" = some m.cls := findClass_of_methodNamed Bd.named
  have hnm := (name_of_methodNamed Bd.named Bd.method).1
  have X0 : Stand p l e ({ frames := 2, cells := 1, slots := 2, locals := 33 } : Room) s m #[(.ref pr1), (.int 2)] below meth c s₁ [] 0 0 := Stand.of_body Bd
  have e0 : s₁.heap = h0 := by rw [← hh, Bd.state]; rfl
  have N0 := Fr.nil n0
  have pre0 : ∀ t, Steps p.tables e below (s₁.setTop (mkF m 0 #[vr pr1, vi 2] [])) t → Steps p.tables e below (s₁.setTop (entryFrame m #[(.ref pr1), (.int 2)] 2)) t := fun t k => castTop (ef_21__2 m pr1) k
  obtain ⟨T1, X1, e1, st1⟩ := gcls X0 hx hZ hown (own_W hw 153 rfl) (own_W hw 154 rfl) (own_W hw 62 rfl) (own_W hw 156 rfl) (own_W hw 155 rfl) (own_W hw 157 rfl) e0 E_pr1 M_mir (g := (mkF m 3 #[vr pr1, vi 2] [(.ref pr1), (.int 2), (.ref pr1)])) rfl (by rw [hml]; rfl) rfl (hb hby d21_3) (by decide) (W := 2) (by show 2 * 0 + _ ≤ _; exact Nat.le_of_eq rfl) (by decide)
  obtain ⟨_, _, ⟨T2, L2, k2, n2⟩, -, X2, ⟨Lc2, hQ2, l2, y2, z2⟩, st2⟩ := Jvm.LawKit.callS X1 hx (y := mN11) hown (mvT hZ (own_W hw 159 rfl)) (mvT hZ (own_W hw 160 rfl)) (mvT hZ (own_W hw 151 rfl)) (mvT hZ (own_W hw 161 rfl)) (by decide) (backOf (W := 0) (rm22_2 l Z a0 hw [] pr1 w_mir kk_pr1 c0_pr1 c1_pr1 c2_pr1 c3_pr1 c4_pr1 c5_pr1 c6_pr1 c7_pr1 c8_pr1 c9_pr1 h0 n0 Z0 O0 M_mir V_pr1 E_c0_pr1 E_c1_pr1) hZ (own_W hw 161 rfl) (own_W hw 151 rfl) (by decide) (by decide)) (g := (mkF m 6 #[vr pr1, vi 2] [(.ref w_mir), (.int 2), (.ref pr1)])) rfl (by rw [hml]; rfl) (argsL := [(.ref pr1), (.int 2), (.ref w_mir)]) (rest := []) (lenOf pd_16 rfl) rfl (by show 2 * 0 + _ ≤ _; exact Nat.le_of_eq rfl) (hb hby d21_6) (fun _ _ => ⟨rfl, e1, (by decide : 0 + 1 ≤ _), (by decide : 0 + 2 ≤ _)⟩)
  dsimp only [Pt.U, Pt.locs, Pt.cells, Pt.slots] at X2 l2 y2 z2 st2 hQ2
  subst l2 y2 z2
  obtain ⟨b2, b2_1, rfl, N2q, K2, qf2_0, qf2_1, qf2_2⟩ := hQ2
  have N2 := Fr.app N0 N2q
  have k3 : Keep h0 T2.heap [] := (Keep.refl h0 []).trans K2 all0
  obtain ⟨fs, hr, hrun, hended, hW, hsame⟩ := X2.leave (v := some (.ref b2)) (fun h => by rw [Bd.returns] at h; cases h) (BodyLoose.notSynchronized Bd)
  refine ⟨_, _, pre0 _ ?_, hrun, hended, _, _, rfl, ?_, ⟨_, rfl⟩, hW, hsame.mono (by decide) (by decide)⟩
  · show Stp p e below s₁ m 0 #[vr pr1, vi 2] [] _
    refine XS.aloadN X0.here hx rfl (hb hby d21_0) rfl rfl ?_
    refine XS.iloadN X0.here hx rfl (hb hby d21_1) rfl ?_
    refine XS.aloadN X0.here hx rfl (hb hby d21_2) rfl rfl ?_
    refine st1 _ ?_
    show Stp p e below T1 m 6 #[vr pr1, vi 2] [(.ref w_mir), (.int 2), (.ref pr1)] _
    refine st2 _ ?_
    show Stp p e below T2 m 9 #[vr pr1, vi 2] [(.ref b2)] _
    jvm_step X2.here [X2.here.top, hx, (hb hby d21_9), X2.method', Bd.returns, Value.isRef, FieldType.isReference]
    first | (intro acts; rw [hr _ acts rfl rfl rfl]) | rw [hr _ _ rfl rfl rfl]
    exact Steps.refl _
  · show Q21_2 Z pr1 w_mir kk_pr1 c0_pr1 c1_pr1 c2_pr1 c3_pr1 c4_pr1 c5_pr1 c6_pr1 c7_pr1 c8_pr1 c9_pr1 h0 n0 _ T2.heap _
    exact ⟨b2, b2_1, rfl, N2, k3, (Nat.le_trans (Keep.refl h0 []).1 qf2_0), qf2_1, qf2_2⟩
theorem ef_21__3 (m : MethodId) (pr1 : Addr) : entryFrame m #[(.ref pr1), (.int 3)] 2 = mkF m 0 #[vr pr1, vi 3] [] := by first | (simp [entryFrame, mkF, argsToLocals, Value.category]; done) | rfl
def Q21_3 (Z : State) (pr1 : Addr) (w_mir : Addr) (kk_pr1 : ClassId) (c0_pr1 : Addr) (c1_pr1 : Addr) (c2_pr1 : Addr) (c3_pr1 : Value) (c4_pr1 : Value) (c5_pr1 : Value) (c6_pr1 : Value) (c7_pr1 : Value) (c8_pr1 : Value) (c9_pr1 : Value) (h0 : Heap) (n0 : Nat) (v : Option Value) (h : Heap) (L : List Loc) : Prop := ∃ b2 : Addr, ∃ b2_1 : ClassId, v = some (.ref b2) ∧ Fr n0 L ∧ Keep h0 h [] ∧ h0.size ≤ b2 ∧ Arv Z h b2 b2_1 (.object "java/lang/Object") (3 : Int32) [(.ref c0_pr1), (.ref c1_pr1), (.ref c2_pr1)] .null ∧ Ovr Z b2_1 "java/lang/Object"
set_option maxRecDepth 65536 in
set_option maxHeartbeats 40000000 in
theorem rm21_3 (l : Launch) (Z : State) (a0 : Array Value) (hw : ∀ d ∈ tables_1, d.before a0 Z = true) (ws : List Jvm.Cond) (pr1 : Addr) (w_mir : Addr) (kk_pr1 : ClassId) (c0_pr1 : Addr) (c1_pr1 : Addr) (c2_pr1 : Addr) (c3_pr1 : Value) (c4_pr1 : Value) (c5_pr1 : Value) (c6_pr1 : Value) (c7_pr1 : Value) (c8_pr1 : Value) (c9_pr1 : Value) (h0 : Heap) (n0 : Nat) (Z0 : n0 ≤ h0.size) (O0 : Old Z n0 h0) (M_mir : Mir Z "[Ljava/lang/Object;" w_mir) (E_pr1 : Exa Z h0 pr1 "[Ljava/lang/Object;") (V_pr1 : Arv Z h0 pr1 kk_pr1 (.object "java/lang/Object") (10 : Int32) [(.ref c0_pr1), (.ref c1_pr1), (.ref c2_pr1), c3_pr1, c4_pr1, c5_pr1, c6_pr1, c7_pr1, c8_pr1, c9_pr1] .null) (E_c0_pr1 : Exa Z h0 c0_pr1 "com/example/tyche/tyche/model/jani/Expression$Operation") (E_c1_pr1 : Exa Z h0 c1_pr1 "com/example/tyche/tyche/model/jani/Expression$Operation") (E_c2_pr1 : Exa Z h0 c2_pr1 "com/example/tyche/tyche/model/jani/Expression$Operation") :
    MetFree l mN12 (head1 (Jvm.Cond.code mN12 jdk_65_method_119_code 2 (some (.array (.object "java/lang/Object"))) :: ws) ({ frames := 2, cells := 1, slots := 3, locals := 33 } : Room)) (fun a U => a = #[(.ref pr1), (.int 3)] ∧ Z.Warmed39 U.vm ∧ U.heap = h0) (fun _ _ _ _ _ => True) (fun _ U o U' => ∃ v L, o = .returned v ∧ Q21_3 Z pr1 w_mir kk_pr1 c0_pr1 c1_pr1 c2_pr1 c3_pr1 c4_pr1 c5_pr1 c6_pr1 c7_pr1 c8_pr1 c9_pr1 h0 n0 v U'.heap L ∧ FrameEnd U o U' L ({ frames := 2, cells := 1, slots := 3, locals := 33 } : Room).cells ({ frames := 2, cells := 1, slots := 3, locals := 33 } : Room).slots) := by
  refine MetFree.of_bodySF (plainFor_of_name pn_21) hisR ?_
  intro p e s m args below meth c s₁ Bd hml0 hP hK
  obtain ⟨rfl, hZ, hh⟩ := hP
  have hx := Bd.exec
  have hby := Bd.bytes
  have hml : c.maxLocals = 2 := hml0
  have hown : s.vm.findClass "java/util/Arrays" = some m.cls := findClass_of_methodNamed Bd.named
  have hnm := (name_of_methodNamed Bd.named Bd.method).1
  have X0 : Stand p l e ({ frames := 2, cells := 1, slots := 3, locals := 33 } : Room) s m #[(.ref pr1), (.int 3)] below meth c s₁ [] 0 0 := Stand.of_body Bd
  have e0 : s₁.heap = h0 := by rw [← hh, Bd.state]; rfl
  have N0 := Fr.nil n0
  have pre0 : ∀ t, Steps p.tables e below (s₁.setTop (mkF m 0 #[vr pr1, vi 3] [])) t → Steps p.tables e below (s₁.setTop (entryFrame m #[(.ref pr1), (.int 3)] 2)) t := fun t k => castTop (ef_21__3 m pr1) k
  obtain ⟨T1, X1, e1, st1⟩ := gcls X0 hx hZ hown (own_W hw 153 rfl) (own_W hw 154 rfl) (own_W hw 62 rfl) (own_W hw 156 rfl) (own_W hw 155 rfl) (own_W hw 157 rfl) e0 E_pr1 M_mir (g := (mkF m 3 #[vr pr1, vi 3] [(.ref pr1), (.int 3), (.ref pr1)])) rfl (by rw [hml]; rfl) rfl (hb hby d21_3) (by decide) (W := 2) (by show 2 * 0 + _ ≤ _; exact Nat.le_of_eq rfl) (by decide)
  obtain ⟨_, _, ⟨T2, L2, k2, n2⟩, -, X2, ⟨Lc2, hQ2, l2, y2, z2⟩, st2⟩ := Jvm.LawKit.callS X1 hx (y := mN11) hown (mvT hZ (own_W hw 159 rfl)) (mvT hZ (own_W hw 160 rfl)) (mvT hZ (own_W hw 151 rfl)) (mvT hZ (own_W hw 161 rfl)) (by decide) (backOf (W := 0) (rm22_3 l Z a0 hw [] pr1 w_mir kk_pr1 c0_pr1 c1_pr1 c2_pr1 c3_pr1 c4_pr1 c5_pr1 c6_pr1 c7_pr1 c8_pr1 c9_pr1 h0 n0 Z0 O0 M_mir V_pr1 E_c0_pr1 E_c1_pr1 E_c2_pr1) hZ (own_W hw 161 rfl) (own_W hw 151 rfl) (by decide) (by decide)) (g := (mkF m 6 #[vr pr1, vi 3] [(.ref w_mir), (.int 3), (.ref pr1)])) rfl (by rw [hml]; rfl) (argsL := [(.ref pr1), (.int 3), (.ref w_mir)]) (rest := []) (lenOf pd_16 rfl) rfl (by show 2 * 0 + _ ≤ _; exact Nat.le_of_eq rfl) (hb hby d21_6) (fun _ _ => ⟨rfl, e1, (by decide : 0 + 1 ≤ _), (by decide : 0 + 3 ≤ _)⟩)
  dsimp only [Pt.U, Pt.locs, Pt.cells, Pt.slots] at X2 l2 y2 z2 st2 hQ2
  subst l2 y2 z2
  obtain ⟨b2, b2_1, rfl, N2q, K2, qf2_0, qf2_1, qf2_2⟩ := hQ2
  have N2 := Fr.app N0 N2q
  have k3 : Keep h0 T2.heap [] := (Keep.refl h0 []).trans K2 all0
  obtain ⟨fs, hr, hrun, hended, hW, hsame⟩ := X2.leave (v := some (.ref b2)) (fun h => by rw [Bd.returns] at h; cases h) (BodyLoose.notSynchronized Bd)
  refine ⟨_, _, pre0 _ ?_, hrun, hended, _, _, rfl, ?_, ⟨_, rfl⟩, hW, hsame.mono (by decide) (by decide)⟩
  · show Stp p e below s₁ m 0 #[vr pr1, vi 3] [] _
    refine XS.aloadN X0.here hx rfl (hb hby d21_0) rfl rfl ?_
    refine XS.iloadN X0.here hx rfl (hb hby d21_1) rfl ?_
    refine XS.aloadN X0.here hx rfl (hb hby d21_2) rfl rfl ?_
    refine st1 _ ?_
    show Stp p e below T1 m 6 #[vr pr1, vi 3] [(.ref w_mir), (.int 3), (.ref pr1)] _
    refine st2 _ ?_
    show Stp p e below T2 m 9 #[vr pr1, vi 3] [(.ref b2)] _
    jvm_step X2.here [X2.here.top, hx, (hb hby d21_9), X2.method', Bd.returns, Value.isRef, FieldType.isReference]
    first | (intro acts; rw [hr _ acts rfl rfl rfl]) | rw [hr _ _ rfl rfl rfl]
    exact Steps.refl _
  · show Q21_3 Z pr1 w_mir kk_pr1 c0_pr1 c1_pr1 c2_pr1 c3_pr1 c4_pr1 c5_pr1 c6_pr1 c7_pr1 c8_pr1 c9_pr1 h0 n0 _ T2.heap _
    exact ⟨b2, b2_1, rfl, N2, k3, (Nat.le_trans (Keep.refl h0 []).1 qf2_0), qf2_1, qf2_2⟩
theorem pd_14 : parseMethodDescriptor "([Ljava/lang/Object;I)[Ljava/lang/Object;" = some ⟨[(.array (.object "java/lang/Object")), .int], some (.array (.object "java/lang/Object"))⟩ := by decide +kernel
theorem d20_0 : decode jdk_38_method_16_code 0 = .ok (.aload_n 0, 1) := by decide +kernel
theorem d20_1 : decode jdk_38_method_16_code 1 = .ok (.getfield 9, 3) := by decide +kernel
theorem d20_4 : decode jdk_38_method_16_code 4 = .ok (.aload_n 0, 1) := by decide +kernel
theorem d20_5 : decode jdk_38_method_16_code 5 = .ok (.getfield 48, 3) := by decide +kernel
theorem d20_8 : decode jdk_38_method_16_code 8 = .ok (.invokestatic 66, 3) := by decide +kernel
theorem d20_11 : decode jdk_38_method_16_code 11 = .ok (.areturn, 1) := by decide +kernel
theorem pn_20 : plainName "java/util/ArrayList" = true := by first | (simp [plainName, overriddenIn]; done) | decide +kernel
theorem ef_20 (m : MethodId) (pr0 : Addr) : entryFrame m #[(.ref pr0)] 1 = mkF m 0 #[vr pr0] [] := by first | (simp [entryFrame, mkF, argsToLocals, Value.category]; done) | rfl
def Q20_1 (Z : State) (pr0 : Addr) (w_mir : Addr) (w_arr : Addr) (kk_w_arr : ClassId) (c0_w_arr : Addr) (c1_w_arr : Value) (c2_w_arr : Value) (c3_w_arr : Value) (c4_w_arr : Value) (c5_w_arr : Value) (c6_w_arr : Value) (c7_w_arr : Value) (c8_w_arr : Value) (c9_w_arr : Value) (h0 : Heap) (n0 : Nat) (v : Option Value) (h : Heap) (L : List Loc) : Prop := ∃ b3 : Addr, ∃ b3_1 : ClassId, v = some (.ref b3) ∧ Fr n0 L ∧ Keep h0 h [] ∧ h0.size ≤ b3 ∧ Arv Z h b3 b3_1 (.object "java/lang/Object") (1 : Int32) [(.ref c0_w_arr)] .null ∧ Ovr Z b3_1 "java/lang/Object"
set_option maxRecDepth 65536 in
set_option maxHeartbeats 40000000 in
theorem rm20_1 (l : Launch) (Z : State) (a0 : Array Value) (hw : ∀ d ∈ tables_1, d.before a0 Z = true) (ws : List Jvm.Cond) (pr0 : Addr) (w_mir : Addr) (w_arr : Addr) (kk_w_arr : ClassId) (c0_w_arr : Addr) (c1_w_arr : Value) (c2_w_arr : Value) (c3_w_arr : Value) (c4_w_arr : Value) (c5_w_arr : Value) (c6_w_arr : Value) (c7_w_arr : Value) (c8_w_arr : Value) (c9_w_arr : Value) (h0 : Heap) (n0 : Nat) (Z0 : n0 ≤ h0.size) (O0 : Old Z n0 h0) (M_mir : Mir Z "[Ljava/lang/Object;" w_mir) (F_elementData_pr0 : Fld Z h0 pr0 "java/util/ArrayList" "elementData" "[Ljava/lang/Object;" (.ref w_arr)) (F_size_pr0 : Fld Z h0 pr0 "java/util/ArrayList" "size" "I" (.int 1)) (E_w_arr : Exa Z h0 w_arr "[Ljava/lang/Object;") (V_w_arr : Arv Z h0 w_arr kk_w_arr (.object "java/lang/Object") (10 : Int32) [(.ref c0_w_arr), c1_w_arr, c2_w_arr, c3_w_arr, c4_w_arr, c5_w_arr, c6_w_arr, c7_w_arr, c8_w_arr, c9_w_arr] .null) (E_c0_w_arr : Exa Z h0 c0_w_arr "com/example/tyche/tyche/model/jani/Expression$Operation") :
    MetFree l mN13 (head1 (Jvm.Cond.code mN13 jdk_38_method_16_code 1 (some (.array (.object "java/lang/Object"))) :: ws) ({ frames := 3, cells := 1, slots := 1, locals := 46 } : Room)) (fun a U => a = #[(.ref pr0)] ∧ Z.Warmed39 U.vm ∧ U.heap = h0) (fun _ _ _ _ _ => True) (fun _ U o U' => ∃ v L, o = .returned v ∧ Q20_1 Z pr0 w_mir w_arr kk_w_arr c0_w_arr c1_w_arr c2_w_arr c3_w_arr c4_w_arr c5_w_arr c6_w_arr c7_w_arr c8_w_arr c9_w_arr h0 n0 v U'.heap L ∧ FrameEnd U o U' L ({ frames := 3, cells := 1, slots := 1, locals := 46 } : Room).cells ({ frames := 3, cells := 1, slots := 1, locals := 46 } : Room).slots) := by
  refine MetFree.of_bodySF (plainFor_of_name pn_20) hisR ?_
  intro p e s m args below meth c s₁ Bd hml0 hP hK
  obtain ⟨rfl, hZ, hh⟩ := hP
  have hx := Bd.exec
  have hby := Bd.bytes
  have hml : c.maxLocals = 1 := hml0
  have hown : s.vm.findClass "java/util/ArrayList" = some m.cls := findClass_of_methodNamed Bd.named
  have hnm := (name_of_methodNamed Bd.named Bd.method).1
  have X0 : Stand p l e ({ frames := 3, cells := 1, slots := 1, locals := 46 } : Room) s m #[(.ref pr0)] below meth c s₁ [] 0 0 := Stand.of_body Bd
  have e0 : s₁.heap = h0 := by rw [← hh, Bd.state]; rfl
  have N0 := Fr.nil n0
  have pre0 : ∀ t, Steps p.tables e below (s₁.setTop (mkF m 0 #[vr pr0] [])) t → Steps p.tables e below (s₁.setTop (entryFrame m #[(.ref pr0)] 1)) t := fun t k => castTop (ef_20 m pr0) k
  obtain ⟨T1, X1, e1, st1⟩ := getF X0 hx hZ hown (host := "") (Or.inl (own_W hw 31 rfl)) Via.refl e0 F_elementData_pr0 (g := (mkF m 1 #[vr pr0] [(.ref pr0)])) rfl rfl (hb hby d20_1)
  obtain ⟨T2, X2, e2, st2⟩ := getF X1 hx hZ hown (host := "") (Or.inl (own_W hw 73 rfl)) Via.refl e1 F_size_pr0 (g := (mkF m 5 #[vr pr0] [(.ref pr0), (.ref w_arr)])) rfl rfl (hb hby d20_5)
  obtain ⟨_, _, ⟨T3, L3, k3, n3⟩, -, X3, ⟨Lc3, hQ3, l3, y3, z3⟩, st3⟩ := Jvm.LawKit.callS X2 hx (y := mN12) hown (mvT hZ (own_W hw 149 rfl)) (mvT hZ (own_W hw 150 rfl)) (mvT hZ (own_W hw 151 rfl)) (mvT hZ (own_W hw 152 rfl)) (by decide) (backOf (W := 0) (rm21_1 l Z a0 hw [] w_arr w_mir kk_w_arr c0_w_arr c1_w_arr c2_w_arr c3_w_arr c4_w_arr c5_w_arr c6_w_arr c7_w_arr c8_w_arr c9_w_arr h0 n0 Z0 O0 M_mir E_w_arr V_w_arr E_c0_w_arr) hZ (own_W hw 152 rfl) (own_W hw 151 rfl) (by decide) (by decide)) (g := (mkF m 8 #[vr pr0] [(.int 1), (.ref w_arr)])) rfl (by rw [hml]; rfl) (argsL := [(.ref w_arr), (.int 1)]) (rest := []) (lenOf pd_14 rfl) rfl (by show 2 * 0 + _ ≤ _; exact Nat.le_of_eq rfl) (hb hby d20_8) (fun _ _ => ⟨rfl, e2, (by decide : 0 + 1 ≤ _), (by decide : 0 + 1 ≤ _)⟩)
  dsimp only [Pt.U, Pt.locs, Pt.cells, Pt.slots] at X3 l3 y3 z3 st3 hQ3
  subst l3 y3 z3
  obtain ⟨b3, b3_1, rfl, N3q, K3, qf3_0, qf3_1, qf3_2⟩ := hQ3
  have N3 := Fr.app N0 N3q
  have k4 : Keep h0 T3.heap [] := (Keep.refl h0 []).trans K3 all0
  obtain ⟨fs, hr, hrun, hended, hW, hsame⟩ := X3.leave (v := some (.ref b3)) (fun h => by rw [Bd.returns] at h; cases h) (BodyLoose.notSynchronized Bd)
  refine ⟨_, _, pre0 _ ?_, hrun, hended, _, _, rfl, ?_, ⟨_, rfl⟩, hW, hsame.mono (by decide) (by decide)⟩
  · show Stp p e below s₁ m 0 #[vr pr0] [] _
    refine XS.aloadN X0.here hx rfl (hb hby d20_0) rfl rfl ?_
    refine st1 _ ?_
    show Stp p e below T1 m 4 #[vr pr0] [(.ref w_arr)] _
    refine XS.aloadN X1.here hx rfl (hb hby d20_4) rfl rfl ?_
    refine st2 _ ?_
    show Stp p e below T2 m 8 #[vr pr0] [(.int 1), (.ref w_arr)] _
    refine st3 _ ?_
    show Stp p e below T3 m 11 #[vr pr0] [(.ref b3)] _
    jvm_step X3.here [X3.here.top, hx, (hb hby d20_11), X3.method', Bd.returns, Value.isRef, FieldType.isReference]
    first | (intro acts; rw [hr _ acts rfl rfl rfl]) | rw [hr _ _ rfl rfl rfl]
    exact Steps.refl _
  · show Q20_1 Z pr0 w_mir w_arr kk_w_arr c0_w_arr c1_w_arr c2_w_arr c3_w_arr c4_w_arr c5_w_arr c6_w_arr c7_w_arr c8_w_arr c9_w_arr h0 n0 _ T3.heap _
    exact ⟨b3, b3_1, rfl, N3, k4, (Nat.le_trans (Keep.refl h0 []).1 qf3_0), qf3_1, qf3_2⟩
def Q20_2 (Z : State) (pr0 : Addr) (w_mir : Addr) (w_arr : Addr) (kk_w_arr : ClassId) (c0_w_arr : Addr) (c1_w_arr : Addr) (c2_w_arr : Value) (c3_w_arr : Value) (c4_w_arr : Value) (c5_w_arr : Value) (c6_w_arr : Value) (c7_w_arr : Value) (c8_w_arr : Value) (c9_w_arr : Value) (h0 : Heap) (n0 : Nat) (v : Option Value) (h : Heap) (L : List Loc) : Prop := ∃ b3 : Addr, ∃ b3_1 : ClassId, v = some (.ref b3) ∧ Fr n0 L ∧ Keep h0 h [] ∧ h0.size ≤ b3 ∧ Arv Z h b3 b3_1 (.object "java/lang/Object") (2 : Int32) [(.ref c0_w_arr), (.ref c1_w_arr)] .null ∧ Ovr Z b3_1 "java/lang/Object"
set_option maxRecDepth 65536 in
set_option maxHeartbeats 40000000 in
theorem rm20_2 (l : Launch) (Z : State) (a0 : Array Value) (hw : ∀ d ∈ tables_1, d.before a0 Z = true) (ws : List Jvm.Cond) (pr0 : Addr) (w_mir : Addr) (w_arr : Addr) (kk_w_arr : ClassId) (c0_w_arr : Addr) (c1_w_arr : Addr) (c2_w_arr : Value) (c3_w_arr : Value) (c4_w_arr : Value) (c5_w_arr : Value) (c6_w_arr : Value) (c7_w_arr : Value) (c8_w_arr : Value) (c9_w_arr : Value) (h0 : Heap) (n0 : Nat) (Z0 : n0 ≤ h0.size) (O0 : Old Z n0 h0) (M_mir : Mir Z "[Ljava/lang/Object;" w_mir) (F_elementData_pr0 : Fld Z h0 pr0 "java/util/ArrayList" "elementData" "[Ljava/lang/Object;" (.ref w_arr)) (F_size_pr0 : Fld Z h0 pr0 "java/util/ArrayList" "size" "I" (.int 2)) (E_w_arr : Exa Z h0 w_arr "[Ljava/lang/Object;") (V_w_arr : Arv Z h0 w_arr kk_w_arr (.object "java/lang/Object") (10 : Int32) [(.ref c0_w_arr), (.ref c1_w_arr), c2_w_arr, c3_w_arr, c4_w_arr, c5_w_arr, c6_w_arr, c7_w_arr, c8_w_arr, c9_w_arr] .null) (E_c0_w_arr : Exa Z h0 c0_w_arr "com/example/tyche/tyche/model/jani/Expression$Operation") (E_c1_w_arr : Exa Z h0 c1_w_arr "com/example/tyche/tyche/model/jani/Expression$Operation") :
    MetFree l mN13 (head1 (Jvm.Cond.code mN13 jdk_38_method_16_code 1 (some (.array (.object "java/lang/Object"))) :: ws) ({ frames := 3, cells := 1, slots := 2, locals := 46 } : Room)) (fun a U => a = #[(.ref pr0)] ∧ Z.Warmed39 U.vm ∧ U.heap = h0) (fun _ _ _ _ _ => True) (fun _ U o U' => ∃ v L, o = .returned v ∧ Q20_2 Z pr0 w_mir w_arr kk_w_arr c0_w_arr c1_w_arr c2_w_arr c3_w_arr c4_w_arr c5_w_arr c6_w_arr c7_w_arr c8_w_arr c9_w_arr h0 n0 v U'.heap L ∧ FrameEnd U o U' L ({ frames := 3, cells := 1, slots := 2, locals := 46 } : Room).cells ({ frames := 3, cells := 1, slots := 2, locals := 46 } : Room).slots) := by
  refine MetFree.of_bodySF (plainFor_of_name pn_20) hisR ?_
  intro p e s m args below meth c s₁ Bd hml0 hP hK
  obtain ⟨rfl, hZ, hh⟩ := hP
  have hx := Bd.exec
  have hby := Bd.bytes
  have hml : c.maxLocals = 1 := hml0
  have hown : s.vm.findClass "java/util/ArrayList" = some m.cls := findClass_of_methodNamed Bd.named
  have hnm := (name_of_methodNamed Bd.named Bd.method).1
  have X0 : Stand p l e ({ frames := 3, cells := 1, slots := 2, locals := 46 } : Room) s m #[(.ref pr0)] below meth c s₁ [] 0 0 := Stand.of_body Bd
  have e0 : s₁.heap = h0 := by rw [← hh, Bd.state]; rfl
  have N0 := Fr.nil n0
  have pre0 : ∀ t, Steps p.tables e below (s₁.setTop (mkF m 0 #[vr pr0] [])) t → Steps p.tables e below (s₁.setTop (entryFrame m #[(.ref pr0)] 1)) t := fun t k => castTop (ef_20 m pr0) k
  obtain ⟨T1, X1, e1, st1⟩ := getF X0 hx hZ hown (host := "") (Or.inl (own_W hw 31 rfl)) Via.refl e0 F_elementData_pr0 (g := (mkF m 1 #[vr pr0] [(.ref pr0)])) rfl rfl (hb hby d20_1)
  obtain ⟨T2, X2, e2, st2⟩ := getF X1 hx hZ hown (host := "") (Or.inl (own_W hw 73 rfl)) Via.refl e1 F_size_pr0 (g := (mkF m 5 #[vr pr0] [(.ref pr0), (.ref w_arr)])) rfl rfl (hb hby d20_5)
  obtain ⟨_, _, ⟨T3, L3, k3, n3⟩, -, X3, ⟨Lc3, hQ3, l3, y3, z3⟩, st3⟩ := Jvm.LawKit.callS X2 hx (y := mN12) hown (mvT hZ (own_W hw 149 rfl)) (mvT hZ (own_W hw 150 rfl)) (mvT hZ (own_W hw 151 rfl)) (mvT hZ (own_W hw 152 rfl)) (by decide) (backOf (W := 0) (rm21_2 l Z a0 hw [] w_arr w_mir kk_w_arr c0_w_arr c1_w_arr c2_w_arr c3_w_arr c4_w_arr c5_w_arr c6_w_arr c7_w_arr c8_w_arr c9_w_arr h0 n0 Z0 O0 M_mir E_w_arr V_w_arr E_c0_w_arr E_c1_w_arr) hZ (own_W hw 152 rfl) (own_W hw 151 rfl) (by decide) (by decide)) (g := (mkF m 8 #[vr pr0] [(.int 2), (.ref w_arr)])) rfl (by rw [hml]; rfl) (argsL := [(.ref w_arr), (.int 2)]) (rest := []) (lenOf pd_14 rfl) rfl (by show 2 * 0 + _ ≤ _; exact Nat.le_of_eq rfl) (hb hby d20_8) (fun _ _ => ⟨rfl, e2, (by decide : 0 + 1 ≤ _), (by decide : 0 + 2 ≤ _)⟩)
  dsimp only [Pt.U, Pt.locs, Pt.cells, Pt.slots] at X3 l3 y3 z3 st3 hQ3
  subst l3 y3 z3
  obtain ⟨b3, b3_1, rfl, N3q, K3, qf3_0, qf3_1, qf3_2⟩ := hQ3
  have N3 := Fr.app N0 N3q
  have k4 : Keep h0 T3.heap [] := (Keep.refl h0 []).trans K3 all0
  obtain ⟨fs, hr, hrun, hended, hW, hsame⟩ := X3.leave (v := some (.ref b3)) (fun h => by rw [Bd.returns] at h; cases h) (BodyLoose.notSynchronized Bd)
  refine ⟨_, _, pre0 _ ?_, hrun, hended, _, _, rfl, ?_, ⟨_, rfl⟩, hW, hsame.mono (by decide) (by decide)⟩
  · show Stp p e below s₁ m 0 #[vr pr0] [] _
    refine XS.aloadN X0.here hx rfl (hb hby d20_0) rfl rfl ?_
    refine st1 _ ?_
    show Stp p e below T1 m 4 #[vr pr0] [(.ref w_arr)] _
    refine XS.aloadN X1.here hx rfl (hb hby d20_4) rfl rfl ?_
    refine st2 _ ?_
    show Stp p e below T2 m 8 #[vr pr0] [(.int 2), (.ref w_arr)] _
    refine st3 _ ?_
    show Stp p e below T3 m 11 #[vr pr0] [(.ref b3)] _
    jvm_step X3.here [X3.here.top, hx, (hb hby d20_11), X3.method', Bd.returns, Value.isRef, FieldType.isReference]
    first | (intro acts; rw [hr _ acts rfl rfl rfl]) | rw [hr _ _ rfl rfl rfl]
    exact Steps.refl _
  · show Q20_2 Z pr0 w_mir w_arr kk_w_arr c0_w_arr c1_w_arr c2_w_arr c3_w_arr c4_w_arr c5_w_arr c6_w_arr c7_w_arr c8_w_arr c9_w_arr h0 n0 _ T3.heap _
    exact ⟨b3, b3_1, rfl, N3, k4, (Nat.le_trans (Keep.refl h0 []).1 qf3_0), qf3_1, qf3_2⟩
def Q20_3 (Z : State) (pr0 : Addr) (w_mir : Addr) (w_arr : Addr) (kk_w_arr : ClassId) (c0_w_arr : Addr) (c1_w_arr : Addr) (c2_w_arr : Addr) (c3_w_arr : Value) (c4_w_arr : Value) (c5_w_arr : Value) (c6_w_arr : Value) (c7_w_arr : Value) (c8_w_arr : Value) (c9_w_arr : Value) (h0 : Heap) (n0 : Nat) (v : Option Value) (h : Heap) (L : List Loc) : Prop := ∃ b3 : Addr, ∃ b3_1 : ClassId, v = some (.ref b3) ∧ Fr n0 L ∧ Keep h0 h [] ∧ h0.size ≤ b3 ∧ Arv Z h b3 b3_1 (.object "java/lang/Object") (3 : Int32) [(.ref c0_w_arr), (.ref c1_w_arr), (.ref c2_w_arr)] .null ∧ Ovr Z b3_1 "java/lang/Object"
set_option maxRecDepth 65536 in
set_option maxHeartbeats 40000000 in
theorem rm20_3 (l : Launch) (Z : State) (a0 : Array Value) (hw : ∀ d ∈ tables_1, d.before a0 Z = true) (ws : List Jvm.Cond) (pr0 : Addr) (w_mir : Addr) (w_arr : Addr) (kk_w_arr : ClassId) (c0_w_arr : Addr) (c1_w_arr : Addr) (c2_w_arr : Addr) (c3_w_arr : Value) (c4_w_arr : Value) (c5_w_arr : Value) (c6_w_arr : Value) (c7_w_arr : Value) (c8_w_arr : Value) (c9_w_arr : Value) (h0 : Heap) (n0 : Nat) (Z0 : n0 ≤ h0.size) (O0 : Old Z n0 h0) (M_mir : Mir Z "[Ljava/lang/Object;" w_mir) (F_elementData_pr0 : Fld Z h0 pr0 "java/util/ArrayList" "elementData" "[Ljava/lang/Object;" (.ref w_arr)) (F_size_pr0 : Fld Z h0 pr0 "java/util/ArrayList" "size" "I" (.int 3)) (E_w_arr : Exa Z h0 w_arr "[Ljava/lang/Object;") (V_w_arr : Arv Z h0 w_arr kk_w_arr (.object "java/lang/Object") (10 : Int32) [(.ref c0_w_arr), (.ref c1_w_arr), (.ref c2_w_arr), c3_w_arr, c4_w_arr, c5_w_arr, c6_w_arr, c7_w_arr, c8_w_arr, c9_w_arr] .null) (E_c0_w_arr : Exa Z h0 c0_w_arr "com/example/tyche/tyche/model/jani/Expression$Operation") (E_c1_w_arr : Exa Z h0 c1_w_arr "com/example/tyche/tyche/model/jani/Expression$Operation") (E_c2_w_arr : Exa Z h0 c2_w_arr "com/example/tyche/tyche/model/jani/Expression$Operation") :
    MetFree l mN13 (head1 (Jvm.Cond.code mN13 jdk_38_method_16_code 1 (some (.array (.object "java/lang/Object"))) :: ws) ({ frames := 3, cells := 1, slots := 3, locals := 46 } : Room)) (fun a U => a = #[(.ref pr0)] ∧ Z.Warmed39 U.vm ∧ U.heap = h0) (fun _ _ _ _ _ => True) (fun _ U o U' => ∃ v L, o = .returned v ∧ Q20_3 Z pr0 w_mir w_arr kk_w_arr c0_w_arr c1_w_arr c2_w_arr c3_w_arr c4_w_arr c5_w_arr c6_w_arr c7_w_arr c8_w_arr c9_w_arr h0 n0 v U'.heap L ∧ FrameEnd U o U' L ({ frames := 3, cells := 1, slots := 3, locals := 46 } : Room).cells ({ frames := 3, cells := 1, slots := 3, locals := 46 } : Room).slots) := by
  refine MetFree.of_bodySF (plainFor_of_name pn_20) hisR ?_
  intro p e s m args below meth c s₁ Bd hml0 hP hK
  obtain ⟨rfl, hZ, hh⟩ := hP
  have hx := Bd.exec
  have hby := Bd.bytes
  have hml : c.maxLocals = 1 := hml0
  have hown : s.vm.findClass "java/util/ArrayList" = some m.cls := findClass_of_methodNamed Bd.named
  have hnm := (name_of_methodNamed Bd.named Bd.method).1
  have X0 : Stand p l e ({ frames := 3, cells := 1, slots := 3, locals := 46 } : Room) s m #[(.ref pr0)] below meth c s₁ [] 0 0 := Stand.of_body Bd
  have e0 : s₁.heap = h0 := by rw [← hh, Bd.state]; rfl
  have N0 := Fr.nil n0
  have pre0 : ∀ t, Steps p.tables e below (s₁.setTop (mkF m 0 #[vr pr0] [])) t → Steps p.tables e below (s₁.setTop (entryFrame m #[(.ref pr0)] 1)) t := fun t k => castTop (ef_20 m pr0) k
  obtain ⟨T1, X1, e1, st1⟩ := getF X0 hx hZ hown (host := "") (Or.inl (own_W hw 31 rfl)) Via.refl e0 F_elementData_pr0 (g := (mkF m 1 #[vr pr0] [(.ref pr0)])) rfl rfl (hb hby d20_1)
  obtain ⟨T2, X2, e2, st2⟩ := getF X1 hx hZ hown (host := "") (Or.inl (own_W hw 73 rfl)) Via.refl e1 F_size_pr0 (g := (mkF m 5 #[vr pr0] [(.ref pr0), (.ref w_arr)])) rfl rfl (hb hby d20_5)
  obtain ⟨_, _, ⟨T3, L3, k3, n3⟩, -, X3, ⟨Lc3, hQ3, l3, y3, z3⟩, st3⟩ := Jvm.LawKit.callS X2 hx (y := mN12) hown (mvT hZ (own_W hw 149 rfl)) (mvT hZ (own_W hw 150 rfl)) (mvT hZ (own_W hw 151 rfl)) (mvT hZ (own_W hw 152 rfl)) (by decide) (backOf (W := 0) (rm21_3 l Z a0 hw [] w_arr w_mir kk_w_arr c0_w_arr c1_w_arr c2_w_arr c3_w_arr c4_w_arr c5_w_arr c6_w_arr c7_w_arr c8_w_arr c9_w_arr h0 n0 Z0 O0 M_mir E_w_arr V_w_arr E_c0_w_arr E_c1_w_arr E_c2_w_arr) hZ (own_W hw 152 rfl) (own_W hw 151 rfl) (by decide) (by decide)) (g := (mkF m 8 #[vr pr0] [(.int 3), (.ref w_arr)])) rfl (by rw [hml]; rfl) (argsL := [(.ref w_arr), (.int 3)]) (rest := []) (lenOf pd_14 rfl) rfl (by show 2 * 0 + _ ≤ _; exact Nat.le_of_eq rfl) (hb hby d20_8) (fun _ _ => ⟨rfl, e2, (by decide : 0 + 1 ≤ _), (by decide : 0 + 3 ≤ _)⟩)
  dsimp only [Pt.U, Pt.locs, Pt.cells, Pt.slots] at X3 l3 y3 z3 st3 hQ3
  subst l3 y3 z3
  obtain ⟨b3, b3_1, rfl, N3q, K3, qf3_0, qf3_1, qf3_2⟩ := hQ3
  have N3 := Fr.app N0 N3q
  have k4 : Keep h0 T3.heap [] := (Keep.refl h0 []).trans K3 all0
  obtain ⟨fs, hr, hrun, hended, hW, hsame⟩ := X3.leave (v := some (.ref b3)) (fun h => by rw [Bd.returns] at h; cases h) (BodyLoose.notSynchronized Bd)
  refine ⟨_, _, pre0 _ ?_, hrun, hended, _, _, rfl, ?_, ⟨_, rfl⟩, hW, hsame.mono (by decide) (by decide)⟩
  · show Stp p e below s₁ m 0 #[vr pr0] [] _
    refine XS.aloadN X0.here hx rfl (hb hby d20_0) rfl rfl ?_
    refine st1 _ ?_
    show Stp p e below T1 m 4 #[vr pr0] [(.ref w_arr)] _
    refine XS.aloadN X1.here hx rfl (hb hby d20_4) rfl rfl ?_
    refine st2 _ ?_
    show Stp p e below T2 m 8 #[vr pr0] [(.int 3), (.ref w_arr)] _
    refine st3 _ ?_
    show Stp p e below T3 m 11 #[vr pr0] [(.ref b3)] _
    jvm_step X3.here [X3.here.top, hx, (hb hby d20_11), X3.method', Bd.returns, Value.isRef, FieldType.isReference]
    first | (intro acts; rw [hr _ acts rfl rfl rfl]) | rw [hr _ _ rfl rfl rfl]
    exact Steps.refl _
  · show Q20_3 Z pr0 w_mir w_arr kk_w_arr c0_w_arr c1_w_arr c2_w_arr c3_w_arr c4_w_arr c5_w_arr c6_w_arr c7_w_arr c8_w_arr c9_w_arr h0 n0 _ T3.heap _
    exact ⟨b3, b3_1, rfl, N3, k4, (Nat.le_trans (Keep.refl h0 []).1 qf3_0), qf3_1, qf3_2⟩
theorem d28_0 : decode jdk_31_method_10_code 0 = .ok (.aload_n 0, 1) := by decide +kernel
theorem d28_1 : decode jdk_31_method_10_code 1 = .ok (.ifnonnull 11, 3) := by decide +kernel
theorem d28_12 : decode jdk_31_method_10_code 12 = .ok (.aload_n 0, 1) := by decide +kernel
theorem d28_13 : decode jdk_31_method_10_code 13 = .ok (.areturn, 1) := by decide +kernel
theorem pn_28 : plainName "java/util/Objects" = true := by first | (simp [plainName, overriddenIn]; done) | decide +kernel
theorem ef_28 (m : MethodId) (pr1 : Addr) : entryFrame m #[(.ref pr1)] 1 = mkF m 0 #[vr pr1] [] := by first | (simp [entryFrame, mkF, argsToLocals, Value.category]; done) | rfl
def Q28 (Z : State) (pr1 : Addr) (h0 : Heap) (n0 : Nat) (v : Option Value) (h : Heap) (L : List Loc) : Prop := v = some (.ref pr1) ∧ Fr n0 L ∧ h = h0
set_option maxRecDepth 65536 in
set_option maxHeartbeats 40000000 in
theorem rm28 (l : Launch) (Z : State) (a0 : Array Value) (hw : ∀ d ∈ tables_1, d.before a0 Z = true) (ws : List Jvm.Cond) (pr1 : Addr) (h0 : Heap) (n0 : Nat) (Z0 : n0 ≤ h0.size) (O0 : Old Z n0 h0) :
    MetFree l mN14 (head1 (Jvm.Cond.code mN14 jdk_31_method_10_code 1 (some (.object "java/lang/Object")) :: ws) ({ frames := 0, cells := 0, slots := 0, locals := 0 } : Room)) (fun a U => a = #[(.ref pr1)] ∧ Z.Warmed39 U.vm ∧ U.heap = h0) (fun _ _ _ _ _ => True) (fun _ U o U' => ∃ v L, o = .returned v ∧ Q28 Z pr1 h0 n0 v U'.heap L ∧ FrameEnd U o U' L ({ frames := 0, cells := 0, slots := 0, locals := 0 } : Room).cells ({ frames := 0, cells := 0, slots := 0, locals := 0 } : Room).slots) := by
  refine MetFree.of_bodySF (plainFor_of_name pn_28) hisR ?_
  intro p e s m args below meth c s₁ Bd hml0 hP hK
  obtain ⟨rfl, hZ, hh⟩ := hP
  have hx := Bd.exec
  have hby := Bd.bytes
  have hml : c.maxLocals = 1 := hml0
  have hown : s.vm.findClass "java/util/Objects" = some m.cls := findClass_of_methodNamed Bd.named
  have hnm := (name_of_methodNamed Bd.named Bd.method).1
  have X0 : Stand p l e ({ frames := 0, cells := 0, slots := 0, locals := 0 } : Room) s m #[(.ref pr1)] below meth c s₁ [] 0 0 := Stand.of_body Bd
  have e0 : s₁.heap = h0 := by rw [← hh, Bd.state]; rfl
  have N0 := Fr.nil n0
  have pre0 : ∀ t, Steps p.tables e below (s₁.setTop (mkF m 0 #[vr pr1] [])) t → Steps p.tables e below (s₁.setTop (entryFrame m #[(.ref pr1)] 1)) t := fun t k => castTop (ef_28 m pr1) k
  obtain ⟨fs, hr, hrun, hended, hW, hsame⟩ := X0.leave (v := some (.ref pr1)) (fun h => by rw [Bd.returns] at h; cases h) (BodyLoose.notSynchronized Bd)
  refine ⟨_, _, pre0 _ ?_, hrun, hended, _, _, rfl, ?_, ⟨_, rfl⟩, hW, hsame.mono (by decide) (by decide)⟩
  · show Stp p e below s₁ m 0 #[vr pr1] [] _
    refine XS.aloadN X0.here hx rfl (hb hby d28_0) rfl rfl ?_
    refine XS.ifnonnullYes X0.here hx rfl (pc0 := 1) (pc' := 12) rfl (hb hby d28_1) rfl (by decide) (by decide) ?_
    show Stp p e below s₁ m 12 #[vr pr1] [] _
    refine XS.aloadN X0.here hx rfl (hb hby d28_12) rfl rfl ?_
    jvm_step X0.here [X0.here.top, hx, (hb hby d28_13), X0.method', Bd.returns, Value.isRef, FieldType.isReference]
    first | (intro acts; rw [hr _ acts rfl rfl rfl]) | rw [hr _ _ rfl rfl rfl]
    exact Steps.refl _
  · show Q28 Z pr1 h0 n0 _ s₁.heap _
    rw [e0]
    exact ⟨rfl, N0, rfl⟩
theorem d27_0 : decode jdk_47_method_1_code 0 = .ok (.aload_n 0, 1) := by decide +kernel
theorem d27_1 : decode jdk_47_method_1_code 1 = .ok (.invokespecial 1, 3) := by decide +kernel
theorem d27_4 : decode jdk_47_method_1_code 4 = .ok (.return_, 1) := by decide +kernel
theorem pn_27 : plainName "java/util/ImmutableCollections$AbstractImmutableCollection" = true := by first | (simp [plainName, overriddenIn]; done) | decide +kernel
theorem ef_27 (m : MethodId) (pr0 : Addr) : entryFrame m #[(.ref pr0)] 1 = mkF m 0 #[vr pr0] [] := by first | (simp [entryFrame, mkF, argsToLocals, Value.category]; done) | rfl
def Q27 (Z : State) (pr0 : Addr) (h0 : Heap) (n0 : Nat) (v : Option Value) (h : Heap) (L : List Loc) : Prop := v = none ∧ Fr n0 L ∧ h = h0
set_option maxRecDepth 65536 in
set_option maxHeartbeats 40000000 in
theorem rm27 (l : Launch) (Z : State) (a0 : Array Value) (hw : ∀ d ∈ tables_1, d.before a0 Z = true) (ws : List Jvm.Cond) (pr0 : Addr) (h0 : Heap) (n0 : Nat) (Z0 : n0 ≤ h0.size) (O0 : Old Z n0 h0) :
    MetFree l mN15 (head1 (Jvm.Cond.code mN15 jdk_47_method_1_code 1 none :: ws) ({ frames := 2, cells := 0, slots := 0, locals := 24 } : Room)) (fun a U => a = #[(.ref pr0)] ∧ Z.Warmed39 U.vm ∧ U.heap = h0) (fun _ _ _ _ _ => True) (fun _ U o U' => ∃ v L, o = .returned v ∧ Q27 Z pr0 h0 n0 v U'.heap L ∧ FrameEnd U o U' L ({ frames := 2, cells := 0, slots := 0, locals := 24 } : Room).cells ({ frames := 2, cells := 0, slots := 0, locals := 24 } : Room).slots) := by
  refine MetFree.of_bodySF (plainFor_of_name pn_27) hisR ?_
  intro p e s m args below meth c s₁ Bd hml0 hP hK
  obtain ⟨rfl, hZ, hh⟩ := hP
  have hx := Bd.exec
  have hby := Bd.bytes
  have hml : c.maxLocals = 1 := hml0
  have hown : s.vm.findClass "java/util/ImmutableCollections$AbstractImmutableCollection" = some m.cls := findClass_of_methodNamed Bd.named
  have hnm := (name_of_methodNamed Bd.named Bd.method).1
  have X0 : Stand p l e ({ frames := 2, cells := 0, slots := 0, locals := 24 } : Room) s m #[(.ref pr0)] below meth c s₁ [] 0 0 := Stand.of_body Bd
  have e0 : s₁.heap = h0 := by rw [← hh, Bd.state]; rfl
  have N0 := Fr.nil n0
  have pre0 : ∀ t, Steps p.tables e below (s₁.setTop (mkF m 0 #[vr pr0] [])) t → Steps p.tables e below (s₁.setTop (entryFrame m #[(.ref pr0)] 1)) t := fun t k => castTop (ef_27 m pr0) k
  obtain ⟨_, _, ⟨T1, L1, k1, n1⟩, -, X1, ⟨Lc1, hQ1, l1, y1, z1⟩, st1⟩ := X0.specialBack hx (y := mN0) rfl hown (mvT hZ (own_W hw 193 rfl)) (mvT hZ (own_W hw 20 rfl)) (mvT hZ (own_W hw 24 rfl)) (by decide) (backOf (W := 0) (rm3 l Z a0 hw [] pr0 h0 n0 Z0 O0 ) hZ (own_W hw 24 rfl) (own_W hw 23 rfl) (by decide) (by decide)) (g := (mkF m 1 #[vr pr0] [(.ref pr0)])) rfl (by rw [hml]; rfl) (Steps.refl _) (a := pr0) (argsL := []) (rest := []) (lenOf pd_0 rfl) rfl (by show 2 * 0 + _ ≤ _; exact Nat.le_of_eq rfl) (hb hby d27_1) (fun _ _ => ⟨rfl, e0, (by decide : 0 + 0 ≤ _), (by decide : 0 + 0 ≤ _)⟩)
  dsimp only [Pt.U, Pt.locs, Pt.cells, Pt.slots] at X1 l1 y1 z1 st1 hQ1
  subst l1 y1 z1
  obtain ⟨rfl, N1q, eq1⟩ := hQ1
  have N1 := Fr.app N0 N1q
  obtain ⟨fs, hr, hrun, hended, hW, hsame⟩ := X1.leave (v := none) (fun _ => rfl) (BodyLoose.notSynchronized Bd)
  refine ⟨_, _, pre0 _ ?_, hrun, hended, _, _, rfl, ?_, ⟨_, rfl⟩, hW, hsame.mono (by decide) (by decide)⟩
  · show Stp p e below s₁ m 0 #[vr pr0] [] _
    refine XS.aloadN X0.here hx rfl (hb hby d27_0) rfl rfl ?_
    refine st1.trans ?_
    show Stp p e below T1 m 4 #[vr pr0] [] _
    exact X1.returnOut hx Bd.returns (hb hby d27_4) hr
  · show Q27 Z pr0 h0 n0 _ T1.heap _
    rw [eq1]
    exact ⟨rfl, N1, rfl⟩
theorem d26_0 : decode jdk_46_method_1_code 0 = .ok (.aload_n 0, 1) := by decide +kernel
theorem d26_1 : decode jdk_46_method_1_code 1 = .ok (.invokespecial 1, 3) := by decide +kernel
theorem d26_4 : decode jdk_46_method_1_code 4 = .ok (.return_, 1) := by decide +kernel
theorem pn_26 : plainName "java/util/ImmutableCollections$AbstractImmutableList" = true := by first | (simp [plainName, overriddenIn]; done) | decide +kernel
theorem ef_26 (m : MethodId) (pr0 : Addr) : entryFrame m #[(.ref pr0)] 1 = mkF m 0 #[vr pr0] [] := by first | (simp [entryFrame, mkF, argsToLocals, Value.category]; done) | rfl
def Q26 (Z : State) (pr0 : Addr) (h0 : Heap) (n0 : Nat) (v : Option Value) (h : Heap) (L : List Loc) : Prop := v = none ∧ Fr n0 L ∧ h = h0
set_option maxRecDepth 65536 in
set_option maxHeartbeats 40000000 in
theorem rm26 (l : Launch) (Z : State) (a0 : Array Value) (hw : ∀ d ∈ tables_1, d.before a0 Z = true) (ws : List Jvm.Cond) (pr0 : Addr) (h0 : Heap) (n0 : Nat) (Z0 : n0 ≤ h0.size) (O0 : Old Z n0 h0) :
    MetFree l mN16 (head1 (Jvm.Cond.code mN16 jdk_46_method_1_code 1 none :: ws) ({ frames := 3, cells := 0, slots := 0, locals := 36 } : Room)) (fun a U => a = #[(.ref pr0)] ∧ Z.Warmed39 U.vm ∧ U.heap = h0) (fun _ _ _ _ _ => True) (fun _ U o U' => ∃ v L, o = .returned v ∧ Q26 Z pr0 h0 n0 v U'.heap L ∧ FrameEnd U o U' L ({ frames := 3, cells := 0, slots := 0, locals := 36 } : Room).cells ({ frames := 3, cells := 0, slots := 0, locals := 36 } : Room).slots) := by
  refine MetFree.of_bodySF (plainFor_of_name pn_26) hisR ?_
  intro p e s m args below meth c s₁ Bd hml0 hP hK
  obtain ⟨rfl, hZ, hh⟩ := hP
  have hx := Bd.exec
  have hby := Bd.bytes
  have hml : c.maxLocals = 1 := hml0
  have hown : s.vm.findClass "java/util/ImmutableCollections$AbstractImmutableList" = some m.cls := findClass_of_methodNamed Bd.named
  have hnm := (name_of_methodNamed Bd.named Bd.method).1
  have X0 : Stand p l e ({ frames := 3, cells := 0, slots := 0, locals := 36 } : Room) s m #[(.ref pr0)] below meth c s₁ [] 0 0 := Stand.of_body Bd
  have e0 : s₁.heap = h0 := by rw [← hh, Bd.state]; rfl
  have N0 := Fr.nil n0
  have pre0 : ∀ t, Steps p.tables e below (s₁.setTop (mkF m 0 #[vr pr0] [])) t → Steps p.tables e below (s₁.setTop (entryFrame m #[(.ref pr0)] 1)) t := fun t k => castTop (ef_26 m pr0) k
  obtain ⟨_, _, ⟨T1, L1, k1, n1⟩, -, X1, ⟨Lc1, hQ1, l1, y1, z1⟩, st1⟩ := X0.specialBack hx (y := mN15) rfl hown (mvT hZ (own_W hw 187 rfl)) (mvT hZ (own_W hw 188 rfl)) (mvT hZ (own_W hw 192 rfl)) (by decide) (backOf (W := 0) (rm27 l Z a0 hw [] pr0 h0 n0 Z0 O0 ) hZ (own_W hw 192 rfl) (own_W hw 191 rfl) (by decide) (by decide)) (g := (mkF m 1 #[vr pr0] [(.ref pr0)])) rfl (by rw [hml]; rfl) (Steps.refl _) (a := pr0) (argsL := []) (rest := []) (lenOf pd_0 rfl) rfl (by show 2 * 0 + _ ≤ _; exact Nat.le_of_eq rfl) (hb hby d26_1) (fun _ _ => ⟨rfl, e0, (by decide : 0 + 0 ≤ _), (by decide : 0 + 0 ≤ _)⟩)
  dsimp only [Pt.U, Pt.locs, Pt.cells, Pt.slots] at X1 l1 y1 z1 st1 hQ1
  subst l1 y1 z1
  obtain ⟨rfl, N1q, eq1⟩ := hQ1
  have N1 := Fr.app N0 N1q
  obtain ⟨fs, hr, hrun, hended, hW, hsame⟩ := X1.leave (v := none) (fun _ => rfl) (BodyLoose.notSynchronized Bd)
  refine ⟨_, _, pre0 _ ?_, hrun, hended, _, _, rfl, ?_, ⟨_, rfl⟩, hW, hsame.mono (by decide) (by decide)⟩
  · show Stp p e below s₁ m 0 #[vr pr0] [] _
    refine XS.aloadN X0.here hx rfl (hb hby d26_0) rfl rfl ?_
    refine st1.trans ?_
    show Stp p e below T1 m 4 #[vr pr0] [] _
    exact X1.returnOut hx Bd.returns (hb hby d26_4) hr
  · show Q26 Z pr0 h0 n0 _ T1.heap _
    rw [eq1]
    exact ⟨rfl, N1, rfl⟩
theorem pd_20 : parseMethodDescriptor "(Ljava/lang/Object;)Ljava/lang/Object;" = some ⟨[(.object "java/lang/Object")], some (.object "java/lang/Object")⟩ := by decide +kernel
theorem d25_0 : decode jdk_44_method_1_code 0 = .ok (.aload_n 0, 1) := by decide +kernel
theorem d25_1 : decode jdk_44_method_1_code 1 = .ok (.invokespecial 1, 3) := by decide +kernel
theorem d25_4 : decode jdk_44_method_1_code 4 = .ok (.aload_n 0, 1) := by decide +kernel
theorem d25_5 : decode jdk_44_method_1_code 5 = .ok (.aload_n 1, 1) := by decide +kernel
theorem d25_6 : decode jdk_44_method_1_code 6 = .ok (.invokestatic 7, 3) := by decide +kernel
theorem d25_9 : decode jdk_44_method_1_code 9 = .ok (.putfield 13, 3) := by decide +kernel
theorem d25_12 : decode jdk_44_method_1_code 12 = .ok (.aload_n 0, 1) := by decide +kernel
theorem d25_13 : decode jdk_44_method_1_code 13 = .ok (.getstatic 19, 3) := by decide +kernel
theorem d25_16 : decode jdk_44_method_1_code 16 = .ok (.putfield 24, 3) := by decide +kernel
theorem d25_19 : decode jdk_44_method_1_code 19 = .ok (.return_, 1) := by decide +kernel
theorem pn_25 : plainName "java/util/ImmutableCollections$List12" = true := by first | (simp [plainName, overriddenIn]; done) | decide +kernel
theorem ef_25 (m : MethodId) (pr0 : Addr) (pr1 : Addr) : entryFrame m #[(.ref pr0), (.ref pr1)] 2 = mkF m 0 #[vr pr0, vr pr1] [] := by first | (simp [entryFrame, mkF, argsToLocals, Value.category]; done) | rfl
def Q25 (Z : State) (pr0 : Addr) (pr1 : Addr) (w_EMPTY : Addr) (u_e0_pr0 : Value) (u_e1_pr0 : Value) (h0 : Heap) (n0 : Nat) (v : Option Value) (h : Heap) (L : List Loc) : Prop := v = none ∧ Fr n0 L ∧ Keep h0 h [pr0] ∧ Exa Z h pr0 "java/util/ImmutableCollections$List12" ∧ Fld Z h pr0 "java/util/ImmutableCollections$List12" "e0" "Ljava/lang/Object;" (.ref pr1) ∧ Fld Z h pr0 "java/util/ImmutableCollections$List12" "e1" "Ljava/lang/Object;" (.ref w_EMPTY)
set_option maxRecDepth 65536 in
set_option maxHeartbeats 40000000 in
theorem rm25 (l : Launch) (Z : State) (a0 : Array Value) (hw : ∀ d ∈ tables_1, d.before a0 Z = true) (ws : List Jvm.Cond) (pr0 : Addr) (pr1 : Addr) (w_EMPTY : Addr) (u_e0_pr0 : Value) (u_e1_pr0 : Value) (h0 : Heap) (n0 : Nat) (Z0 : n0 ≤ h0.size) (O0 : Old Z n0 h0) (E_pr0 : Exa Z h0 pr0 "java/util/ImmutableCollections$List12") (S_EMPTY : Sta Z Z.heap "java/util/ImmutableCollections" "EMPTY" "Ljava/lang/Object;" (.ref w_EMPTY)) (F_e0_pr0 : Fld Z h0 pr0 "java/util/ImmutableCollections$List12" "e0" "Ljava/lang/Object;" u_e0_pr0) (g_pr0 : n0 ≤ pr0) (F_e1_pr0 : Fld Z h0 pr0 "java/util/ImmutableCollections$List12" "e1" "Ljava/lang/Object;" u_e1_pr0) :
    MetFree l mN17 (head1 (Jvm.Cond.code mN17 jdk_44_method_1_code 2 none :: ws) ({ frames := 4, cells := 0, slots := 0, locals := 48 } : Room)) (fun a U => a = #[(.ref pr0), (.ref pr1)] ∧ Z.Warmed39 U.vm ∧ U.heap = h0) (fun _ _ _ _ _ => True) (fun _ U o U' => ∃ v L, o = .returned v ∧ Q25 Z pr0 pr1 w_EMPTY u_e0_pr0 u_e1_pr0 h0 n0 v U'.heap L ∧ FrameEnd U o U' L ({ frames := 4, cells := 0, slots := 0, locals := 48 } : Room).cells ({ frames := 4, cells := 0, slots := 0, locals := 48 } : Room).slots) := by
  refine MetFree.of_bodySF (plainFor_of_name pn_25) hisR ?_
  intro p e s m args below meth c s₁ Bd hml0 hP hK
  obtain ⟨rfl, hZ, hh⟩ := hP
  have hx := Bd.exec
  have hby := Bd.bytes
  have hml : c.maxLocals = 2 := hml0
  have hown : s.vm.findClass "java/util/ImmutableCollections$List12" = some m.cls := findClass_of_methodNamed Bd.named
  have hnm := (name_of_methodNamed Bd.named Bd.method).1
  have X0 : Stand p l e ({ frames := 4, cells := 0, slots := 0, locals := 48 } : Room) s m #[(.ref pr0), (.ref pr1)] below meth c s₁ [] 0 0 := Stand.of_body Bd
  have e0 : s₁.heap = h0 := by rw [← hh, Bd.state]; rfl
  have N0 := Fr.nil n0
  have pre0 : ∀ t, Steps p.tables e below (s₁.setTop (mkF m 0 #[vr pr0, vr pr1] [])) t → Steps p.tables e below (s₁.setTop (entryFrame m #[(.ref pr0), (.ref pr1)] 2)) t := fun t k => castTop (ef_25 m pr0 pr1) k
  obtain ⟨_, _, ⟨T1, L1, k1, n1⟩, -, X1, ⟨Lc1, hQ1, l1, y1, z1⟩, st1⟩ := X0.specialBack hx (y := mN16) rfl hown (mvT hZ (own_W hw 181 rfl)) (mvT hZ (own_W hw 182 rfl)) (mvT hZ (own_W hw 186 rfl)) (by decide) (backOf (W := 0) (rm26 l Z a0 hw [] pr0 h0 n0 Z0 O0 ) hZ (own_W hw 186 rfl) (own_W hw 185 rfl) (by decide) (by decide)) (g := (mkF m 1 #[vr pr0, vr pr1] [(.ref pr0)])) rfl (by rw [hml]; rfl) (Steps.refl _) (a := pr0) (argsL := []) (rest := []) (lenOf pd_0 rfl) rfl (by show 2 * 0 + _ ≤ _; exact Nat.le_of_eq rfl) (hb hby d25_1) (fun _ _ => ⟨rfl, e0, (by decide : 0 + 0 ≤ _), (by decide : 0 + 0 ≤ _)⟩)
  dsimp only [Pt.U, Pt.locs, Pt.cells, Pt.slots] at X1 l1 y1 z1 st1 hQ1
  subst l1 y1 z1
  obtain ⟨rfl, N1q, eq1⟩ := hQ1
  have N1 := Fr.app N0 N1q
  obtain ⟨_, _, ⟨T2, L2, k2, n2⟩, -, X2, ⟨Lc2, hQ2, l2, y2, z2⟩, st2⟩ := Jvm.LawKit.callS X1 hx (y := mN14) hown (mvT hZ (own_W hw 195 rfl)) (mvT hZ (own_W hw 196 rfl)) (mvT hZ (own_W hw 197 rfl)) (mvT hZ (own_W hw 198 rfl)) (by decide) (backOf (W := 1) (rm28 l Z a0 hw [] pr1 h0 n0 Z0 O0 ) hZ (own_W hw 198 rfl) (own_W hw 197 rfl) (by decide) (by decide)) (g := (mkF m 6 #[vr pr0, vr pr1] [(.ref pr1), (.ref pr0)])) rfl (by rw [hml]; rfl) (argsL := [(.ref pr1)]) (rest := [(.ref pr0)]) (lenOf pd_20 rfl) rfl (by show 2 * 0 + _ ≤ _; exact Nat.le_of_eq rfl) (hb hby d25_6) (fun _ _ => ⟨rfl, eq1, (by decide : 0 + 0 ≤ _), (by decide : 0 + 0 ≤ _)⟩)
  dsimp only [Pt.U, Pt.locs, Pt.cells, Pt.slots] at X2 l2 y2 z2 st2 hQ2
  subst l2 y2 z2
  obtain ⟨rfl, N2q, eq2⟩ := hQ2
  have N2 := Fr.app N1 N2q
  obtain ⟨T3, h3, X3, e3, W3, st3⟩ := putF X2 hx hZ hown (host := "") (Or.inl (own_W hw 199 rfl)) Via.refl eq2 F_e0_pr0 E_pr0 (Or.inr ⟨(own_W hw 200 rfl), rfl, hnm⟩) (own_W hw 175 rfl) (ty := (.object "java/lang/Object")) (by decide) rfl rfl (g := (mkF m 9 #[vr pr0, vr pr1] [(.ref pr1), (.ref pr0)])) rfl rfl (hb hby d25_9)
  have Fw3 := F_e0_pr0.same W3
  have N3 := Fr.snoc X3 N2 g_pr0
  have o5 := O0.wr W3 g_pr0
  obtain ⟨T4, X4, e4, st4⟩ := getS2 X3 hx hZ hown (Or.inr (own_W hw 201 rfl)) Via.refl e3 (S_EMPTY.ext o5.2) (g := (mkF m 13 #[vr pr0, vr pr1] [(.ref pr0)])) rfl (hb hby d25_13)
  have f6 := F_e1_pr0.other W3 (Or.inr (slot_ne (Or.inr (own_W hw 203 rfl)) (Or.inr (own_W hw 200 rfl)) (by decide) (t := (.object "java/lang/Object")) (t' := (.object "java/lang/Object")) (by decide) (by decide)))
  have f7 := E_pr0.wr W3
  obtain ⟨T8, h8, X8, e8, W8, st8⟩ := putF X4 hx hZ hown (host := "") (Or.inl (own_W hw 202 rfl)) Via.refl e4 f6 f7 (Or.inr ⟨(own_W hw 203 rfl), rfl, hnm⟩) (own_W hw 175 rfl) (ty := (.object "java/lang/Object")) (by decide) rfl rfl (g := (mkF m 16 #[vr pr0, vr pr1] [(.ref w_EMPTY), (.ref pr0)])) rfl rfl (hb hby d25_16)
  have Fw8 := f6.same W8
  have N8 := Fr.snoc X8 N3 g_pr0
  have k9 : Keep h0 h3 [pr0] := (Keep.refl h0 [pr0]).wr W3 (Or.inl (List.mem_of_getElem? (i := 0) rfl))
  have k10 : Keep h0 h8 [pr0] := k9.wr W8 (Or.inl (List.mem_of_getElem? (i := 0) rfl))
  have f11 := f7.wr W8
  have f12 := Fw3.other W8 (Or.inr (slot_ne (Or.inr (own_W hw 200 rfl)) (Or.inr (own_W hw 203 rfl)) (by decide) (t := (.object "java/lang/Object")) (t' := (.object "java/lang/Object")) (by decide) (by decide)))
  obtain ⟨fs, hr, hrun, hended, hW, hsame⟩ := X8.leave (v := none) (fun _ => rfl) (BodyLoose.notSynchronized Bd)
  refine ⟨_, _, pre0 _ ?_, hrun, hended, _, _, rfl, ?_, ⟨_, rfl⟩, hW, hsame.mono (by decide) (by decide)⟩
  · show Stp p e below s₁ m 0 #[vr pr0, vr pr1] [] _
    refine XS.aloadN X0.here hx rfl (hb hby d25_0) rfl rfl ?_
    refine st1.trans ?_
    show Stp p e below T1 m 4 #[vr pr0, vr pr1] [] _
    refine XS.aloadN X1.here hx rfl (hb hby d25_4) rfl rfl ?_
    refine XS.aloadN X1.here hx rfl (hb hby d25_5) rfl rfl ?_
    refine st2 _ ?_
    show Stp p e below T2 m 9 #[vr pr0, vr pr1] [(.ref pr1), (.ref pr0)] _
    refine st3 _ ?_
    show Stp p e below T3 m 12 #[vr pr0, vr pr1] [] _
    refine XS.aloadN X3.here hx rfl (hb hby d25_12) rfl rfl ?_
    refine st4 _ ?_
    show Stp p e below T4 m 16 #[vr pr0, vr pr1] [(.ref w_EMPTY), (.ref pr0)] _
    refine st8 _ ?_
    show Stp p e below T8 m 19 #[vr pr0, vr pr1] [] _
    exact X8.returnOut hx Bd.returns (hb hby d25_19) hr
  · show Q25 Z pr0 pr1 w_EMPTY u_e0_pr0 u_e1_pr0 h0 n0 _ T8.heap _
    rw [e8]
    exact ⟨rfl, N8, k10, f11, f12, Fw8⟩
theorem d34_0 : decode jdk_44_method_2_code 0 = .ok (.aload_n 0, 1) := by decide +kernel
theorem d34_1 : decode jdk_44_method_2_code 1 = .ok (.invokespecial 1, 3) := by decide +kernel
theorem d34_4 : decode jdk_44_method_2_code 4 = .ok (.aload_n 0, 1) := by decide +kernel
theorem d34_5 : decode jdk_44_method_2_code 5 = .ok (.aload_n 1, 1) := by decide +kernel
theorem d34_6 : decode jdk_44_method_2_code 6 = .ok (.invokestatic 7, 3) := by decide +kernel
theorem d34_9 : decode jdk_44_method_2_code 9 = .ok (.putfield 13, 3) := by decide +kernel
theorem d34_12 : decode jdk_44_method_2_code 12 = .ok (.aload_n 0, 1) := by decide +kernel
theorem d34_13 : decode jdk_44_method_2_code 13 = .ok (.aload_n 2, 1) := by decide +kernel
theorem d34_14 : decode jdk_44_method_2_code 14 = .ok (.invokestatic 7, 3) := by decide +kernel
theorem d34_17 : decode jdk_44_method_2_code 17 = .ok (.putfield 24, 3) := by decide +kernel
theorem d34_20 : decode jdk_44_method_2_code 20 = .ok (.return_, 1) := by decide +kernel
theorem pn_34 : plainName "java/util/ImmutableCollections$List12" = true := by first | (simp [plainName, overriddenIn]; done) | decide +kernel
theorem ef_34 (m : MethodId) (pr0 : Addr) (pr1 : Addr) (pr2 : Addr) : entryFrame m #[(.ref pr0), (.ref pr1), (.ref pr2)] 3 = mkF m 0 #[vr pr0, vr pr1, vr pr2] [] := by first | (simp [entryFrame, mkF, argsToLocals, Value.category]; done) | rfl
def Q34 (Z : State) (pr0 : Addr) (pr1 : Addr) (pr2 : Addr) (u_e0_pr0 : Value) (u_e1_pr0 : Value) (h0 : Heap) (n0 : Nat) (v : Option Value) (h : Heap) (L : List Loc) : Prop := v = none ∧ Fr n0 L ∧ Keep h0 h [pr0] ∧ Exa Z h pr0 "java/util/ImmutableCollections$List12" ∧ Fld Z h pr0 "java/util/ImmutableCollections$List12" "e0" "Ljava/lang/Object;" (.ref pr1) ∧ Fld Z h pr0 "java/util/ImmutableCollections$List12" "e1" "Ljava/lang/Object;" (.ref pr2)
set_option maxRecDepth 65536 in
set_option maxHeartbeats 40000000 in
theorem rm34 (l : Launch) (Z : State) (a0 : Array Value) (hw : ∀ d ∈ tables_1, d.before a0 Z = true) (ws : List Jvm.Cond) (pr0 : Addr) (pr1 : Addr) (pr2 : Addr) (u_e0_pr0 : Value) (u_e1_pr0 : Value) (h0 : Heap) (n0 : Nat) (Z0 : n0 ≤ h0.size) (O0 : Old Z n0 h0) (E_pr0 : Exa Z h0 pr0 "java/util/ImmutableCollections$List12") (F_e0_pr0 : Fld Z h0 pr0 "java/util/ImmutableCollections$List12" "e0" "Ljava/lang/Object;" u_e0_pr0) (g_pr0 : n0 ≤ pr0) (F_e1_pr0 : Fld Z h0 pr0 "java/util/ImmutableCollections$List12" "e1" "Ljava/lang/Object;" u_e1_pr0) :
    MetFree l mN18 (head1 (Jvm.Cond.code mN18 jdk_44_method_2_code 3 none :: ws) ({ frames := 4, cells := 0, slots := 0, locals := 48 } : Room)) (fun a U => a = #[(.ref pr0), (.ref pr1), (.ref pr2)] ∧ Z.Warmed39 U.vm ∧ U.heap = h0) (fun _ _ _ _ _ => True) (fun _ U o U' => ∃ v L, o = .returned v ∧ Q34 Z pr0 pr1 pr2 u_e0_pr0 u_e1_pr0 h0 n0 v U'.heap L ∧ FrameEnd U o U' L ({ frames := 4, cells := 0, slots := 0, locals := 48 } : Room).cells ({ frames := 4, cells := 0, slots := 0, locals := 48 } : Room).slots) := by
  refine MetFree.of_bodySF (plainFor_of_name pn_34) hisR ?_
  intro p e s m args below meth c s₁ Bd hml0 hP hK
  obtain ⟨rfl, hZ, hh⟩ := hP
  have hx := Bd.exec
  have hby := Bd.bytes
  have hml : c.maxLocals = 3 := hml0
  have hown : s.vm.findClass "java/util/ImmutableCollections$List12" = some m.cls := findClass_of_methodNamed Bd.named
  have hnm := (name_of_methodNamed Bd.named Bd.method).1
  have X0 : Stand p l e ({ frames := 4, cells := 0, slots := 0, locals := 48 } : Room) s m #[(.ref pr0), (.ref pr1), (.ref pr2)] below meth c s₁ [] 0 0 := Stand.of_body Bd
  have e0 : s₁.heap = h0 := by rw [← hh, Bd.state]; rfl
  have N0 := Fr.nil n0
  have pre0 : ∀ t, Steps p.tables e below (s₁.setTop (mkF m 0 #[vr pr0, vr pr1, vr pr2] [])) t → Steps p.tables e below (s₁.setTop (entryFrame m #[(.ref pr0), (.ref pr1), (.ref pr2)] 3)) t := fun t k => castTop (ef_34 m pr0 pr1 pr2) k
  obtain ⟨_, _, ⟨T1, L1, k1, n1⟩, -, X1, ⟨Lc1, hQ1, l1, y1, z1⟩, st1⟩ := X0.specialBack hx (y := mN16) rfl hown (mvT hZ (own_W hw 181 rfl)) (mvT hZ (own_W hw 182 rfl)) (mvT hZ (own_W hw 186 rfl)) (by decide) (backOf (W := 0) (rm26 l Z a0 hw [] pr0 h0 n0 Z0 O0 ) hZ (own_W hw 186 rfl) (own_W hw 185 rfl) (by decide) (by decide)) (g := (mkF m 1 #[vr pr0, vr pr1, vr pr2] [(.ref pr0)])) rfl (by rw [hml]; rfl) (Steps.refl _) (a := pr0) (argsL := []) (rest := []) (lenOf pd_0 rfl) rfl (by show 2 * 0 + _ ≤ _; exact Nat.le_of_eq rfl) (hb hby d34_1) (fun _ _ => ⟨rfl, e0, (by decide : 0 + 0 ≤ _), (by decide : 0 + 0 ≤ _)⟩)
  dsimp only [Pt.U, Pt.locs, Pt.cells, Pt.slots] at X1 l1 y1 z1 st1 hQ1
  subst l1 y1 z1
  obtain ⟨rfl, N1q, eq1⟩ := hQ1
  have N1 := Fr.app N0 N1q
  obtain ⟨_, _, ⟨T2, L2, k2, n2⟩, -, X2, ⟨Lc2, hQ2, l2, y2, z2⟩, st2⟩ := Jvm.LawKit.callS X1 hx (y := mN14) hown (mvT hZ (own_W hw 195 rfl)) (mvT hZ (own_W hw 196 rfl)) (mvT hZ (own_W hw 197 rfl)) (mvT hZ (own_W hw 198 rfl)) (by decide) (backOf (W := 1) (rm28 l Z a0 hw [] pr1 h0 n0 Z0 O0 ) hZ (own_W hw 198 rfl) (own_W hw 197 rfl) (by decide) (by decide)) (g := (mkF m 6 #[vr pr0, vr pr1, vr pr2] [(.ref pr1), (.ref pr0)])) rfl (by rw [hml]; rfl) (argsL := [(.ref pr1)]) (rest := [(.ref pr0)]) (lenOf pd_20 rfl) rfl (by show 2 * 0 + _ ≤ _; exact Nat.le_of_eq rfl) (hb hby d34_6) (fun _ _ => ⟨rfl, eq1, (by decide : 0 + 0 ≤ _), (by decide : 0 + 0 ≤ _)⟩)
  dsimp only [Pt.U, Pt.locs, Pt.cells, Pt.slots] at X2 l2 y2 z2 st2 hQ2
  subst l2 y2 z2
  obtain ⟨rfl, N2q, eq2⟩ := hQ2
  have N2 := Fr.app N1 N2q
  obtain ⟨T3, h3, X3, e3, W3, st3⟩ := putF X2 hx hZ hown (host := "") (Or.inl (own_W hw 199 rfl)) Via.refl eq2 F_e0_pr0 E_pr0 (Or.inr ⟨(own_W hw 200 rfl), rfl, hnm⟩) (own_W hw 175 rfl) (ty := (.object "java/lang/Object")) (by decide) rfl rfl (g := (mkF m 9 #[vr pr0, vr pr1, vr pr2] [(.ref pr1), (.ref pr0)])) rfl rfl (hb hby d34_9)
  have Fw3 := F_e0_pr0.same W3
  have N3 := Fr.snoc X3 N2 g_pr0
  have z5 := Nat.le_trans Z0 (Keep.of_wr W3).1
  have o6 := O0.wr W3 g_pr0
  obtain ⟨_, _, ⟨T4, L4, k4, n4⟩, -, X4, ⟨Lc4, hQ4, l4, y4, z4⟩, st4⟩ := Jvm.LawKit.callS X3 hx (y := mN14) hown (mvT hZ (own_W hw 195 rfl)) (mvT hZ (own_W hw 196 rfl)) (mvT hZ (own_W hw 197 rfl)) (mvT hZ (own_W hw 198 rfl)) (by decide) (backOf (W := 1) (rm28 l Z a0 hw [] pr2 h3 n0 z5 o6 ) hZ (own_W hw 198 rfl) (own_W hw 197 rfl) (by decide) (by decide)) (g := (mkF m 14 #[vr pr0, vr pr1, vr pr2] [(.ref pr2), (.ref pr0)])) rfl (by rw [hml]; rfl) (argsL := [(.ref pr2)]) (rest := [(.ref pr0)]) (lenOf pd_20 rfl) rfl (by show 2 * 0 + _ ≤ _; exact Nat.le_of_eq rfl) (hb hby d34_14) (fun _ _ => ⟨rfl, e3, (by decide : 0 + 0 ≤ _), (by decide : 0 + 0 ≤ _)⟩)
  dsimp only [Pt.U, Pt.locs, Pt.cells, Pt.slots] at X4 l4 y4 z4 st4 hQ4
  subst l4 y4 z4
  obtain ⟨rfl, N4q, eq4⟩ := hQ4
  have N4 := Fr.app N3 N4q
  have f7 := F_e1_pr0.other W3 (Or.inr (slot_ne (Or.inr (own_W hw 203 rfl)) (Or.inr (own_W hw 200 rfl)) (by decide) (t := (.object "java/lang/Object")) (t' := (.object "java/lang/Object")) (by decide) (by decide)))
  have f8 := E_pr0.wr W3
  obtain ⟨T9, h9, X9, e9, W9, st9⟩ := putF X4 hx hZ hown (host := "") (Or.inl (own_W hw 202 rfl)) Via.refl eq4 f7 f8 (Or.inr ⟨(own_W hw 203 rfl), rfl, hnm⟩) (own_W hw 175 rfl) (ty := (.object "java/lang/Object")) (by decide) rfl rfl (g := (mkF m 17 #[vr pr0, vr pr1, vr pr2] [(.ref pr2), (.ref pr0)])) rfl rfl (hb hby d34_17)
  have Fw9 := f7.same W9
  have N9 := Fr.snoc X9 N4 g_pr0
  have k10 : Keep h0 h3 [pr0] := (Keep.refl h0 [pr0]).wr W3 (Or.inl (List.mem_of_getElem? (i := 0) rfl))
  have k11 : Keep h0 h9 [pr0] := k10.wr W9 (Or.inl (List.mem_of_getElem? (i := 0) rfl))
  have f12 := f8.wr W9
  have f13 := Fw3.other W9 (Or.inr (slot_ne (Or.inr (own_W hw 200 rfl)) (Or.inr (own_W hw 203 rfl)) (by decide) (t := (.object "java/lang/Object")) (t' := (.object "java/lang/Object")) (by decide) (by decide)))
  obtain ⟨fs, hr, hrun, hended, hW, hsame⟩ := X9.leave (v := none) (fun _ => rfl) (BodyLoose.notSynchronized Bd)
  refine ⟨_, _, pre0 _ ?_, hrun, hended, _, _, rfl, ?_, ⟨_, rfl⟩, hW, hsame.mono (by decide) (by decide)⟩
  · show Stp p e below s₁ m 0 #[vr pr0, vr pr1, vr pr2] [] _
    refine XS.aloadN X0.here hx rfl (hb hby d34_0) rfl rfl ?_
    refine st1.trans ?_
    show Stp p e below T1 m 4 #[vr pr0, vr pr1, vr pr2] [] _
    refine XS.aloadN X1.here hx rfl (hb hby d34_4) rfl rfl ?_
    refine XS.aloadN X1.here hx rfl (hb hby d34_5) rfl rfl ?_
    refine st2 _ ?_
    show Stp p e below T2 m 9 #[vr pr0, vr pr1, vr pr2] [(.ref pr1), (.ref pr0)] _
    refine st3 _ ?_
    show Stp p e below T3 m 12 #[vr pr0, vr pr1, vr pr2] [] _
    refine XS.aloadN X3.here hx rfl (hb hby d34_12) rfl rfl ?_
    refine XS.aloadN X3.here hx rfl (hb hby d34_13) rfl rfl ?_
    refine st4 _ ?_
    show Stp p e below T4 m 17 #[vr pr0, vr pr1, vr pr2] [(.ref pr2), (.ref pr0)] _
    refine st9 _ ?_
    show Stp p e below T9 m 20 #[vr pr0, vr pr1, vr pr2] [] _
    exact X9.returnOut hx Bd.returns (hb hby d34_20) hr
  · show Q34 Z pr0 pr1 pr2 u_e0_pr0 u_e1_pr0 h0 n0 _ T9.heap _
    rw [e9]
    exact ⟨rfl, N9, k11, f12, f13, Fw9⟩
theorem d36_0 : decode jdk_45_method_1_code 0 = .ok (.aload_n 0, 1) := by decide +kernel
theorem d36_1 : decode jdk_45_method_1_code 1 = .ok (.invokespecial 1, 3) := by decide +kernel
theorem d36_4 : decode jdk_45_method_1_code 4 = .ok (.aload_n 0, 1) := by decide +kernel
theorem d36_5 : decode jdk_45_method_1_code 5 = .ok (.aload_n 1, 1) := by decide +kernel
theorem d36_6 : decode jdk_45_method_1_code 6 = .ok (.putfield 7, 3) := by decide +kernel
theorem d36_9 : decode jdk_45_method_1_code 9 = .ok (.aload_n 0, 1) := by decide +kernel
theorem d36_10 : decode jdk_45_method_1_code 10 = .ok (.iload_n 2, 1) := by decide +kernel
theorem d36_11 : decode jdk_45_method_1_code 11 = .ok (.putfield 13, 3) := by decide +kernel
theorem d36_14 : decode jdk_45_method_1_code 14 = .ok (.return_, 1) := by decide +kernel
theorem pn_36 : plainName "java/util/ImmutableCollections$ListN" = true := by first | (simp [plainName, overriddenIn]; done) | decide +kernel
theorem ef_36_ (m : MethodId) (pr0 : Addr) (pr1 : Addr) : entryFrame m #[(.ref pr0), (.ref pr1), (.int 0)] 3 = mkF m 0 #[vr pr0, vr pr1, vi 0] [] := by first | (simp [entryFrame, mkF, argsToLocals, Value.category]; done) | rfl
def Q36 (Z : State) (pr0 : Addr) (pr1 : Addr) (u_elements_pr0 : Value) (u_allowNulls_pr0 : Value) (h0 : Heap) (n0 : Nat) (v : Option Value) (h : Heap) (L : List Loc) : Prop := v = none ∧ Fr n0 L ∧ Keep h0 h [pr0] ∧ Exa Z h pr0 "java/util/ImmutableCollections$ListN" ∧ Fld Z h pr0 "java/util/ImmutableCollections$ListN" "elements" "[Ljava/lang/Object;" (.ref pr1) ∧ Fld Z h pr0 "java/util/ImmutableCollections$ListN" "allowNulls" "Z" (.int 0)
set_option maxRecDepth 65536 in
set_option maxHeartbeats 40000000 in
theorem rm36 (l : Launch) (Z : State) (a0 : Array Value) (hw : ∀ d ∈ tables_1, d.before a0 Z = true) (ws : List Jvm.Cond) (pr0 : Addr) (pr1 : Addr) (u_elements_pr0 : Value) (u_allowNulls_pr0 : Value) (h0 : Heap) (n0 : Nat) (Z0 : n0 ≤ h0.size) (O0 : Old Z n0 h0) (E_pr0 : Exa Z h0 pr0 "java/util/ImmutableCollections$ListN") (F_elements_pr0 : Fld Z h0 pr0 "java/util/ImmutableCollections$ListN" "elements" "[Ljava/lang/Object;" u_elements_pr0) (g_pr0 : n0 ≤ pr0) (F_allowNulls_pr0 : Fld Z h0 pr0 "java/util/ImmutableCollections$ListN" "allowNulls" "Z" u_allowNulls_pr0) :
    MetFree l mN19 (head1 (Jvm.Cond.code mN19 jdk_45_method_1_code 3 none :: ws) ({ frames := 4, cells := 0, slots := 0, locals := 48 } : Room)) (fun a U => a = #[(.ref pr0), (.ref pr1), (.int 0)] ∧ Z.Warmed39 U.vm ∧ U.heap = h0) (fun _ _ _ _ _ => True) (fun _ U o U' => ∃ v L, o = .returned v ∧ Q36 Z pr0 pr1 u_elements_pr0 u_allowNulls_pr0 h0 n0 v U'.heap L ∧ FrameEnd U o U' L ({ frames := 4, cells := 0, slots := 0, locals := 48 } : Room).cells ({ frames := 4, cells := 0, slots := 0, locals := 48 } : Room).slots) := by
  refine MetFree.of_bodySF (plainFor_of_name pn_36) hisR ?_
  intro p e s m args below meth c s₁ Bd hml0 hP hK
  obtain ⟨rfl, hZ, hh⟩ := hP
  have hx := Bd.exec
  have hby := Bd.bytes
  have hml : c.maxLocals = 3 := hml0
  have hown : s.vm.findClass "java/util/ImmutableCollections$ListN" = some m.cls := findClass_of_methodNamed Bd.named
  have hnm := (name_of_methodNamed Bd.named Bd.method).1
  have X0 : Stand p l e ({ frames := 4, cells := 0, slots := 0, locals := 48 } : Room) s m #[(.ref pr0), (.ref pr1), (.int 0)] below meth c s₁ [] 0 0 := Stand.of_body Bd
  have e0 : s₁.heap = h0 := by rw [← hh, Bd.state]; rfl
  have N0 := Fr.nil n0
  have pre0 : ∀ t, Steps p.tables e below (s₁.setTop (mkF m 0 #[vr pr0, vr pr1, vi 0] [])) t → Steps p.tables e below (s₁.setTop (entryFrame m #[(.ref pr0), (.ref pr1), (.int 0)] 3)) t := fun t k => castTop (ef_36_ m pr0 pr1) k
  obtain ⟨_, _, ⟨T1, L1, k1, n1⟩, -, X1, ⟨Lc1, hQ1, l1, y1, z1⟩, st1⟩ := X0.specialBack hx (y := mN16) rfl hown (mvT hZ (own_W hw 251 rfl)) (mvT hZ (own_W hw 182 rfl)) (mvT hZ (own_W hw 186 rfl)) (by decide) (backOf (W := 0) (rm26 l Z a0 hw [] pr0 h0 n0 Z0 O0 ) hZ (own_W hw 186 rfl) (own_W hw 185 rfl) (by decide) (by decide)) (g := (mkF m 1 #[vr pr0, vr pr1, vi 0] [(.ref pr0)])) rfl (by rw [hml]; rfl) (Steps.refl _) (a := pr0) (argsL := []) (rest := []) (lenOf pd_0 rfl) rfl (by show 2 * 0 + _ ≤ _; exact Nat.le_of_eq rfl) (hb hby d36_1) (fun _ _ => ⟨rfl, e0, (by decide : 0 + 0 ≤ _), (by decide : 0 + 0 ≤ _)⟩)
  dsimp only [Pt.U, Pt.locs, Pt.cells, Pt.slots] at X1 l1 y1 z1 st1 hQ1
  subst l1 y1 z1
  obtain ⟨rfl, N1q, eq1⟩ := hQ1
  have N1 := Fr.app N0 N1q
  obtain ⟨T2, h2, X2, e2, W2, st2⟩ := putF X1 hx hZ hown (host := "") (Or.inl (own_W hw 255 rfl)) Via.refl eq1 F_elements_pr0 E_pr0 (Or.inr ⟨(own_W hw 256 rfl), rfl, hnm⟩) (own_W hw 245 rfl) (ty := (.array (.object "java/lang/Object"))) (by decide) rfl rfl (g := (mkF m 6 #[vr pr0, vr pr1, vi 0] [(.ref pr1), (.ref pr0)])) rfl rfl (hb hby d36_6)
  have Fw2 := F_elements_pr0.same W2
  have N2 := Fr.snoc X2 N1 g_pr0
  have f3 := F_allowNulls_pr0.other W2 (Or.inr (slot_ne (Or.inr (own_W hw 258 rfl)) (Or.inr (own_W hw 256 rfl)) (by decide) (t := .boolean) (t' := (.array (.object "java/lang/Object"))) (by decide) (by decide)))
  have f4 := E_pr0.wr W2
  obtain ⟨T5, h5, X5, e5, W5, st5⟩ := putFN X2 hx hZ hown (own_W hw 257 rfl) Via.refl e2 f3 f4 (Or.inr ⟨(own_W hw 258 rfl), rfl, hnm⟩) (own_W hw 245 rfl) (ty := .boolean) (v' := (.int 0)) (by decide) rfl (by decide) (g := (mkF m 11 #[vr pr0, vr pr1, vi 0] [(.int 0), (.ref pr0)])) rfl rfl (hb hby d36_11)
  have Fw5 := f3.same W5
  have N5 := Fr.snoc X5 N2 g_pr0
  have k6 : Keep h0 h2 [pr0] := (Keep.refl h0 [pr0]).wr W2 (Or.inl (List.mem_of_getElem? (i := 0) rfl))
  have k7 : Keep h0 h5 [pr0] := k6.wr W5 (Or.inl (List.mem_of_getElem? (i := 0) rfl))
  have f8 := f4.wr W5
  have f9 := Fw2.other W5 (Or.inr (slot_ne (Or.inr (own_W hw 256 rfl)) (Or.inr (own_W hw 258 rfl)) (by decide) (t := (.array (.object "java/lang/Object"))) (t' := .boolean) (by decide) (by decide)))
  obtain ⟨fs, hr, hrun, hended, hW, hsame⟩ := X5.leave (v := none) (fun _ => rfl) (BodyLoose.notSynchronized Bd)
  refine ⟨_, _, pre0 _ ?_, hrun, hended, _, _, rfl, ?_, ⟨_, rfl⟩, hW, hsame.mono (by decide) (by decide)⟩
  · show Stp p e below s₁ m 0 #[vr pr0, vr pr1, vi 0] [] _
    refine XS.aloadN X0.here hx rfl (hb hby d36_0) rfl rfl ?_
    refine st1.trans ?_
    show Stp p e below T1 m 4 #[vr pr0, vr pr1, vi 0] [] _
    refine XS.aloadN X1.here hx rfl (hb hby d36_4) rfl rfl ?_
    refine XS.aloadN X1.here hx rfl (hb hby d36_5) rfl rfl ?_
    refine st2 _ ?_
    show Stp p e below T2 m 9 #[vr pr0, vr pr1, vi 0] [] _
    refine XS.aloadN X2.here hx rfl (hb hby d36_9) rfl rfl ?_
    refine XS.iloadN X2.here hx rfl (hb hby d36_10) rfl ?_
    refine st5 _ ?_
    show Stp p e below T5 m 14 #[vr pr0, vr pr1, vi 0] [] _
    exact X5.returnOut hx Bd.returns (hb hby d36_14) hr
  · show Q36 Z pr0 pr1 u_elements_pr0 u_allowNulls_pr0 h0 n0 _ T5.heap _
    rw [e5]
    exact ⟨rfl, N5, k7, f8, f9, Fw5⟩
theorem pd_26 : parseMethodDescriptor "([Ljava/lang/Object;Z)V" = some ⟨[(.array (.object "java/lang/Object")), .boolean], none⟩ := by decide +kernel
theorem d35_0 : decode jdk_56_method_4_code 0 = .ok (.aload_n 0, 1) := by decide +kernel
theorem d35_1 : decode jdk_56_method_4_code 1 = .ok (.arraylength, 1) := by decide +kernel
theorem d35_2 : decode jdk_56_method_4_code 2 = .ok (.anewarray 2, 3) := by decide +kernel
theorem d35_5 : decode jdk_56_method_4_code 5 = .ok (.astore_n 1, 1) := by decide +kernel
theorem d35_6 : decode jdk_56_method_4_code 6 = .ok (.iconst 0, 1) := by decide +kernel
theorem d35_7 : decode jdk_56_method_4_code 7 = .ok (.istore_n 2, 1) := by decide +kernel
theorem d35_8 : decode jdk_56_method_4_code 8 = .ok (.iload_n 2, 1) := by decide +kernel
theorem d35_9 : decode jdk_56_method_4_code 9 = .ok (.aload_n 0, 1) := by decide +kernel
theorem d35_10 : decode jdk_56_method_4_code 10 = .ok (.arraylength, 1) := by decide +kernel
theorem d35_11 : decode jdk_56_method_4_code 11 = .ok (.if_icmp .ge 18, 3) := by decide +kernel
theorem d35_14 : decode jdk_56_method_4_code 14 = .ok (.aload_n 1, 1) := by decide +kernel
theorem d35_15 : decode jdk_56_method_4_code 15 = .ok (.iload_n 2, 1) := by decide +kernel
theorem d35_16 : decode jdk_56_method_4_code 16 = .ok (.aload_n 0, 1) := by decide +kernel
theorem d35_17 : decode jdk_56_method_4_code 17 = .ok (.iload_n 2, 1) := by decide +kernel
theorem d35_18 : decode jdk_56_method_4_code 18 = .ok (.aaload, 1) := by decide +kernel
theorem d35_19 : decode jdk_56_method_4_code 19 = .ok (.invokestatic 37, 3) := by decide +kernel
theorem d35_22 : decode jdk_56_method_4_code 22 = .ok (.aastore, 1) := by decide +kernel
theorem d35_23 : decode jdk_56_method_4_code 23 = .ok (.iinc 2 1, 3) := by decide +kernel
theorem d35_26 : decode jdk_56_method_4_code 26 = .ok (.goto (-18), 3) := by decide +kernel
theorem d35_29 : decode jdk_56_method_4_code 29 = .ok (.new 12, 3) := by decide +kernel
theorem d35_32 : decode jdk_56_method_4_code 32 = .ok (.dup, 1) := by decide +kernel
theorem d35_33 : decode jdk_56_method_4_code 33 = .ok (.aload_n 1, 1) := by decide +kernel
theorem d35_34 : decode jdk_56_method_4_code 34 = .ok (.iconst 0, 1) := by decide +kernel
theorem d35_35 : decode jdk_56_method_4_code 35 = .ok (.invokespecial 43, 3) := by decide +kernel
theorem d35_38 : decode jdk_56_method_4_code 38 = .ok (.areturn, 1) := by decide +kernel
theorem pn_35 : plainName "java/util/ImmutableCollections" = true := by first | (simp [plainName, overriddenIn]; done) | decide +kernel
theorem ef_35 (m : MethodId) (pr1 : Addr) : entryFrame m #[(.ref pr1)] 3 = mkF m 0 #[vr pr1, .unset, .unset] [] := by first | (simp [entryFrame, mkF, argsToLocals, Value.category]; done) | rfl
def Q35 (Z : State) (pr1 : Addr) (kk_pr1 : ClassId) (c0_pr1 : Addr) (c1_pr1 : Addr) (c2_pr1 : Addr) (h0 : Heap) (n0 : Nat) (v : Option Value) (h : Heap) (L : List Loc) : Prop := ∃ b38 : Addr, ∃ b2 : Addr, ∃ k2 : ClassId, v = some (.ref b38) ∧ Fr n0 L ∧ Keep h0 h [] ∧ h0.size ≤ b38 ∧ Exa Z h b38 "java/util/ImmutableCollections$ListN" ∧ Fld Z h b38 "java/util/ImmutableCollections$ListN" "elements" "[Ljava/lang/Object;" (.ref b2) ∧ Fld Z h b38 "java/util/ImmutableCollections$ListN" "allowNulls" "Z" (.int 0) ∧ h0.size ≤ b2 ∧ Arv Z h b2 k2 (.object "java/lang/Object") (3 : Int32) [(.ref c0_pr1), (.ref c1_pr1), (.ref c2_pr1)] .null ∧ Ovr Z k2 "java/lang/Object"
set_option maxRecDepth 65536 in
set_option maxHeartbeats 40000000 in
theorem rm35 (l : Launch) (Z : State) (a0 : Array Value) (hw : ∀ d ∈ tables_1, d.before a0 Z = true) (ws : List Jvm.Cond) (pr1 : Addr) (kk_pr1 : ClassId) (c0_pr1 : Addr) (c1_pr1 : Addr) (c2_pr1 : Addr) (h0 : Heap) (n0 : Nat) (Z0 : n0 ≤ h0.size) (O0 : Old Z n0 h0) (V_pr1 : Arv Z h0 pr1 kk_pr1 (.object "java/lang/Object") (3 : Int32) [(.ref c0_pr1), (.ref c1_pr1), (.ref c2_pr1)] .null) (E_c0_pr1 : Exa Z h0 c0_pr1 "com/example/tyche/tyche/model/jani/Expression$Operation") (E_c1_pr1 : Exa Z h0 c1_pr1 "com/example/tyche/tyche/model/jani/Expression$Operation") (E_c2_pr1 : Exa Z h0 c2_pr1 "com/example/tyche/tyche/model/jani/Expression$Operation") :
    MetFree l mN20 (head1 (Jvm.Cond.code mN20 jdk_56_method_4_code 3 (some (.object "java/util/List")) :: ws) ({ frames := 5, cells := 2, slots := 5, locals := 63 } : Room)) (fun a U => a = #[(.ref pr1)] ∧ Z.Warmed39 U.vm ∧ U.heap = h0) (fun _ _ _ _ _ => True) (fun _ U o U' => ∃ v L, o = .returned v ∧ Q35 Z pr1 kk_pr1 c0_pr1 c1_pr1 c2_pr1 h0 n0 v U'.heap L ∧ FrameEnd U o U' L ({ frames := 5, cells := 2, slots := 5, locals := 63 } : Room).cells ({ frames := 5, cells := 2, slots := 5, locals := 63 } : Room).slots) := by
  refine MetFree.of_bodySF (plainFor_of_name pn_35) hisR ?_
  intro p e s m args below meth c s₁ Bd hml0 hP hK
  obtain ⟨rfl, hZ, hh⟩ := hP
  have hx := Bd.exec
  have hby := Bd.bytes
  have hml : c.maxLocals = 3 := hml0
  have hown : s.vm.findClass "java/util/ImmutableCollections" = some m.cls := findClass_of_methodNamed Bd.named
  have hnm := (name_of_methodNamed Bd.named Bd.method).1
  have X0 : Stand p l e ({ frames := 5, cells := 2, slots := 5, locals := 63 } : Room) s m #[(.ref pr1)] below meth c s₁ [] 0 0 := Stand.of_body Bd
  have e0 : s₁.heap = h0 := by rw [← hh, Bd.state]; rfl
  have N0 := Fr.nil n0
  have pre0 : ∀ t, Steps p.tables e below (s₁.setTop (mkF m 0 #[vr pr1, .unset, .unset] [])) t → Steps p.tables e below (s₁.setTop (entryFrame m #[(.ref pr1)] 3)) t := fun t k => castTop (ef_35 m pr1) k
  have V_c1 := V_pr1
  obtain ⟨c1, Arc1, qc1, Sc1, Nc1, Hc1, Gc1⟩ := V_c1
  obtain ⟨T2, h2, k2, X2, e2, E2, A2, O2, st2⟩ := newR X0 hx hZ hown (own_W hw 243 rfl) (own_W hw 118 rfl) e0 (g := (mkF m 2 #[vr pr1, .unset, .unset] [(.int 3)])) rfl (hb hby d35_2) rfl (by decide) (cap := 3) (by decide) (by decide) (by decide) (by decide)
  obtain ⟨b2, g2⟩ : ∃ z, z = h0.size := ⟨_, rfl⟩
  rw [← g2] at A2 st2
  have V2 : Arv Z h2 b2 k2 (.object "java/lang/Object") (3 : Int32) [.null, .null, .null] .null := (Arv.new A2 (by decide)).pad (pad_rep [] .null 3)
  have f4 := V_pr1.ext E2
  have V_c3 := f4
  obtain ⟨c3, Arc3, qc3, Sc3, Nc3, Hc3, Gc3⟩ := V_c3
  have V_c5 := f4
  obtain ⟨c5, Arc5, qc5, Sc5, Nc5, Hc5, Gc5⟩ := V_c5
  have hin6 : ¬ ((0 : Int32) < 0 ∨ c5.slots.size ≤ ((0 : Int32)).toNatClampNeg) := inb_of Sc5 ⟨by decide, by decide⟩
  have z8 := Nat.le_trans Z0 E2.1
  have o9 := O0.ext E2
  obtain ⟨_, _, ⟨T7, L7, k7, n7⟩, -, X7, ⟨Lc7, hQ7, l7, y7, z7⟩, st7⟩ := Jvm.LawKit.callS X2 hx (y := mN14) hown (mvT hZ (own_W hw 244 rfl)) (mvT hZ (own_W hw 196 rfl)) (mvT hZ (own_W hw 197 rfl)) (mvT hZ (own_W hw 198 rfl)) (by decide) (backOf (W := 2) (rm28 l Z a0 hw [] c0_pr1 h2 n0 z8 o9 ) hZ (own_W hw 198 rfl) (own_W hw 197 rfl) (by decide) (by decide)) (g := (mkF m 19 #[vr pr1, vr b2, vi 0] [(.ref c0_pr1), (.int 0), (.ref b2)])) rfl (by rw [hml]; rfl) (argsL := [(.ref c0_pr1)]) (rest := [(.int 0), (.ref b2)]) (lenOf pd_20 rfl) rfl (by show 2 * 0 + _ ≤ _; exact Nat.le_of_eq rfl) (hb hby d35_19) (fun _ _ => ⟨rfl, e2, (by decide : 1 + 0 ≤ _), (by decide : 3 + 0 ≤ _)⟩)
  dsimp only [Pt.U, Pt.locs, Pt.cells, Pt.slots] at X7 l7 y7 z7 st7 hQ7
  subst l7 y7 z7
  obtain ⟨rfl, N7q, eq7⟩ := hQ7
  have N7 := Fr.app N0 N7q
  have g_b2 : n0 ≤ b2 := Nat.le_trans Z0 (Nat.le_of_eq g2.symm)
  have V_c10 := V2
  obtain ⟨c10, Arc10, qc10, Sc10, Nc10, Hc10, Gc10⟩ := V_c10
  have hin11 : ¬ ((0 : Int32) < 0 ∨ c10.slots.size ≤ ((0 : Int32)).toNatClampNeg) := inb_of Sc10 ⟨by decide, by decide⟩
  have f12 := E_c0_pr1.ext E2
  obtain ⟨T11, h11, X11, e11, W11, st11⟩ := stR X7 hx hZ eq7 Arc10 (j := (0 : Int32)) hin11 rfl (Sto.ofV Arc10 qc10 O2 (Ins.of_exa f12 (own_W hw 119 rfl))) (g := (mkF m 22 #[vr pr1, vr b2, vi 0] [(.ref c0_pr1), (.int 0), (.ref b2)])) rfl rfl (hb hby d35_22)
  have V11 : Arv Z h11 b2 k2 (.object "java/lang/Object") (3 : Int32) [(.ref c0_pr1), .null, .null] .null := Arv.set Arc10 qc10 Sc10 Nc10 Hc10 Gc10 rfl W11 0 rfl (Nat.le_of_ble_eq_true rfl)
  have N11 := Fr.snoc X11 N7 g_b2
  have f14 := f4.other W11 (Nat.ne_of_lt (Nat.lt_of_lt_of_le V_pr1.lt (Nat.le_of_eq g2.symm)))
  have V_c13 := f14
  obtain ⟨c13, Arc13, qc13, Sc13, Nc13, Hc13, Gc13⟩ := V_c13
  have V_c15 := f14
  obtain ⟨c15, Arc15, qc15, Sc15, Nc15, Hc15, Gc15⟩ := V_c15
  have hin16 : ¬ ((1 : Int32) < 0 ∨ c15.slots.size ≤ ((1 : Int32)).toNatClampNeg) := inb_of Sc15 ⟨by decide, by decide⟩
  have z18 := Nat.le_trans z8 (Keep.of_wr W11).1
  have o19 := o9.wr W11 g_b2
  obtain ⟨_, _, ⟨T17, L17, k17, n17⟩, -, X17, ⟨Lc17, hQ17, l17, y17, z17⟩, st17⟩ := Jvm.LawKit.callS X11 hx (y := mN14) hown (mvT hZ (own_W hw 244 rfl)) (mvT hZ (own_W hw 196 rfl)) (mvT hZ (own_W hw 197 rfl)) (mvT hZ (own_W hw 198 rfl)) (by decide) (backOf (W := 2) (rm28 l Z a0 hw [] c1_pr1 h11 n0 z18 o19 ) hZ (own_W hw 198 rfl) (own_W hw 197 rfl) (by decide) (by decide)) (g := (mkF m 19 #[vr pr1, vr b2, vi 1] [(.ref c1_pr1), (.int 1), (.ref b2)])) rfl (by rw [hml]; rfl) (argsL := [(.ref c1_pr1)]) (rest := [(.int 1), (.ref b2)]) (lenOf pd_20 rfl) rfl (by show 2 * 0 + _ ≤ _; exact Nat.le_of_eq rfl) (hb hby d35_19) (fun _ _ => ⟨rfl, e11, (by decide : 1 + 0 ≤ _), (by decide : 3 + 0 ≤ _)⟩)
  dsimp only [Pt.U, Pt.locs, Pt.cells, Pt.slots] at X17 l17 y17 z17 st17 hQ17
  subst l17 y17 z17
  obtain ⟨rfl, N17q, eq17⟩ := hQ17
  have N17 := Fr.app N11 N17q
  have V_c20 := V11
  obtain ⟨c20, Arc20, qc20, Sc20, Nc20, Hc20, Gc20⟩ := V_c20
  have hin21 : ¬ ((1 : Int32) < 0 ∨ c20.slots.size ≤ ((1 : Int32)).toNatClampNeg) := inb_of Sc20 ⟨by decide, by decide⟩
  have f22 := E_c1_pr1.ext E2
  have f23 := f22.wr W11
  obtain ⟨T21, h21, X21, e21, W21, st21⟩ := stR X17 hx hZ eq17 Arc20 (j := (1 : Int32)) hin21 rfl (Sto.ofV Arc20 qc20 O2 (Ins.of_exa f23 (own_W hw 119 rfl))) (g := (mkF m 22 #[vr pr1, vr b2, vi 1] [(.ref c1_pr1), (.int 1), (.ref b2)])) rfl rfl (hb hby d35_22)
  have V21 : Arv Z h21 b2 k2 (.object "java/lang/Object") (3 : Int32) [(.ref c0_pr1), (.ref c1_pr1), .null] .null := Arv.set Arc20 qc20 Sc20 Nc20 Hc20 Gc20 rfl W21 1 rfl (Nat.le_of_ble_eq_true rfl)
  have N21 := Fr.snoc X21 N17 g_b2
  have f25 := f14.other W21 (Nat.ne_of_lt (Nat.lt_of_lt_of_le V_pr1.lt (Nat.le_of_eq g2.symm)))
  have V_c24 := f25
  obtain ⟨c24, Arc24, qc24, Sc24, Nc24, Hc24, Gc24⟩ := V_c24
  have V_c26 := f25
  obtain ⟨c26, Arc26, qc26, Sc26, Nc26, Hc26, Gc26⟩ := V_c26
  have hin27 : ¬ ((2 : Int32) < 0 ∨ c26.slots.size ≤ ((2 : Int32)).toNatClampNeg) := inb_of Sc26 ⟨by decide, by decide⟩
  have z29 := Nat.le_trans z18 (Keep.of_wr W21).1
  have o30 := o19.wr W21 g_b2
  obtain ⟨_, _, ⟨T28, L28, k28, n28⟩, -, X28, ⟨Lc28, hQ28, l28, y28, z28⟩, st28⟩ := Jvm.LawKit.callS X21 hx (y := mN14) hown (mvT hZ (own_W hw 244 rfl)) (mvT hZ (own_W hw 196 rfl)) (mvT hZ (own_W hw 197 rfl)) (mvT hZ (own_W hw 198 rfl)) (by decide) (backOf (W := 2) (rm28 l Z a0 hw [] c2_pr1 h21 n0 z29 o30 ) hZ (own_W hw 198 rfl) (own_W hw 197 rfl) (by decide) (by decide)) (g := (mkF m 19 #[vr pr1, vr b2, vi 2] [(.ref c2_pr1), (.int 2), (.ref b2)])) rfl (by rw [hml]; rfl) (argsL := [(.ref c2_pr1)]) (rest := [(.int 2), (.ref b2)]) (lenOf pd_20 rfl) rfl (by show 2 * 0 + _ ≤ _; exact Nat.le_of_eq rfl) (hb hby d35_19) (fun _ _ => ⟨rfl, e21, (by decide : 1 + 0 ≤ _), (by decide : 3 + 0 ≤ _)⟩)
  dsimp only [Pt.U, Pt.locs, Pt.cells, Pt.slots] at X28 l28 y28 z28 st28 hQ28
  subst l28 y28 z28
  obtain ⟨rfl, N28q, eq28⟩ := hQ28
  have N28 := Fr.app N21 N28q
  have V_c31 := V21
  obtain ⟨c31, Arc31, qc31, Sc31, Nc31, Hc31, Gc31⟩ := V_c31
  have hin32 : ¬ ((2 : Int32) < 0 ∨ c31.slots.size ≤ ((2 : Int32)).toNatClampNeg) := inb_of Sc31 ⟨by decide, by decide⟩
  have f33 := E_c2_pr1.ext E2
  have f34 := f33.wr W11
  have f35 := f34.wr W21
  obtain ⟨T32, h32, X32, e32, W32, st32⟩ := stR X28 hx hZ eq28 Arc31 (j := (2 : Int32)) hin32 rfl (Sto.ofV Arc31 qc31 O2 (Ins.of_exa f35 (own_W hw 119 rfl))) (g := (mkF m 22 #[vr pr1, vr b2, vi 2] [(.ref c2_pr1), (.int 2), (.ref b2)])) rfl rfl (hb hby d35_22)
  have V32 : Arv Z h32 b2 k2 (.object "java/lang/Object") (3 : Int32) [(.ref c0_pr1), (.ref c1_pr1), (.ref c2_pr1)] .null := Arv.set Arc31 qc31 Sc31 Nc31 Hc31 Gc31 rfl W32 2 rfl (Nat.le_of_ble_eq_true rfl)
  have N32 := Fr.snoc X32 N28 g_b2
  have f37 := f25.other W32 (Nat.ne_of_lt (Nat.lt_of_lt_of_le V_pr1.lt (Nat.le_of_eq g2.symm)))
  have V_c36 := f37
  obtain ⟨c36, Arc36, qc36, Sc36, Nc36, Hc36, Gc36⟩ := V_c36
  obtain ⟨T38, h38, X38, e38, E38, A38, D38, -, st38⟩ := newO X32 hx hZ hown (own_W hw 63 rfl) (own_W hw 245 rfl) (own_W hw 246 rfl) e32 (g := (mkF m 29 #[vr pr1, vr b2, vi 3] [])) rfl (hb hby d35_29) (by decide) (by decide)
  obtain ⟨b38, g38⟩ : ∃ z, z = h32.size := ⟨_, rfl⟩
  rw [← g38] at A38 D38 st38
  have F_elements_b38 : Fld Z h38 b38 "java/util/ImmutableCollections$ListN" "elements" "[Ljava/lang/Object;" .null := D38 (Or.inr (own_W hw 256 rfl)) (ty := (.array (.object "java/lang/Object"))) (by decide)
  have F_allowNulls_b38 : Fld Z h38 b38 "java/util/ImmutableCollections$ListN" "allowNulls" "Z" (.int 0) := D38 (Or.inr (own_W hw 258 rfl)) (ty := .boolean) (by decide)
  have z39 := Nat.le_trans z29 (Keep.of_wr W32).1
  have g_b38 : n0 ≤ b38 := Nat.le_trans z39 (Nat.le_of_eq g38.symm)
  have z41 := Nat.le_trans z39 E38.1
  have o42 := o30.wr W32 g_b2
  have o43 := o42.ext E38
  obtain ⟨_, _, ⟨T40, L40, k40, n40⟩, -, X40, ⟨Lc40, hQ40, l40, y40, z40⟩, st40⟩ := X38.specialBackNest hx (y := mN19) rfl hown (own_mvMN hZ (own_W hw 247 rfl)) (mvT hZ (own_W hw 248 rfl)) (mvT hZ (own_W hw 250 rfl)) (by decide) (backOf (W := 1) (rm36 l Z a0 hw [] b38 b2 .null (.int 0) h38 n0 z41 o43 A38 F_elements_b38 g_b38 F_allowNulls_b38) hZ (own_W hw 250 rfl) (own_W hw 246 rfl) (by decide) (by decide)) (g := (mkF m 35 #[vr pr1, vr b2, vi 3] [(.int 0), (.ref b2), (.ref b38), (.ref b38)])) rfl (by rw [hml]; rfl) (Steps.refl _) (a := b38) (argsL := [(.ref b2), (.int 0)]) (rest := [(.ref b38)]) (lenOf pd_26 rfl) rfl (by show 2 * 0 + _ ≤ _; exact Nat.le_of_eq rfl) (hb hby d35_35) (fun _ _ => ⟨rfl, e38, (by decide : 2 + 0 ≤ _), (by decide : 5 + 0 ≤ _)⟩)
  dsimp only [Pt.U, Pt.locs, Pt.cells, Pt.slots] at X40 l40 y40 z40 st40 hQ40
  subst l40 y40 z40
  obtain ⟨rfl, N40q, K40, qf40_0, qf40_1, qf40_2⟩ := hQ40
  have N40 := Fr.app N32 N40q
  have k44 : Keep h0 h2 [] := (Keep.refl h0 []).ext E2
  have k45 : Keep h0 h11 [] := k44.wr W11 (Or.inr (Nat.le_trans (Keep.refl h0 []).1 (Nat.le_of_eq g2.symm)))
  have k46 : Keep h0 h21 [] := k45.wr W21 (Or.inr (Nat.le_trans (Keep.refl h0 []).1 (Nat.le_of_eq g2.symm)))
  have k47 : Keep h0 h32 [] := k46.wr W32 (Or.inr (Nat.le_trans (Keep.refl h0 []).1 (Nat.le_of_eq g2.symm)))
  have k48 : Keep h0 h38 [] := k47.ext E38
  have k49 : Keep h0 T40.heap [] := k48.trans K40 (allS (Or.inr (Nat.le_trans k47.1 (Nat.le_of_eq g38.symm))) all0)
  have f50 := V32.ext E38
  have f51 := f50.keep K40 (ninS (Nat.ne_of_lt (Nat.lt_of_lt_of_le V32.lt (Nat.le_of_eq g38.symm))) nin0)
  obtain ⟨fs, hr, hrun, hended, hW, hsame⟩ := X40.leave (v := some (.ref b38)) (fun h => by rw [Bd.returns] at h; cases h) (BodyLoose.notSynchronized Bd)
  refine ⟨_, _, pre0 _ ?_, hrun, hended, _, _, rfl, ?_, ⟨_, rfl⟩, hW, hsame.mono (by decide) (by decide)⟩
  · show Stp p e below s₁ m 0 #[vr pr1, .unset, .unset] [] _
    refine XS.aloadN X0.here hx rfl (hb hby d35_0) rfl rfl ?_
    refine X0.arraylength hx (by rw [e0]; exact Arc1.1) (State.isArrayOf_alike hZ.alike Arc1.2.1) (g := (mkF m 1 #[vr pr1, .unset, .unset] [(.ref pr1)])) rfl rfl (hb hby d35_1) _ ?_
    rw [len_of Sc1 Nc1]
    show Stp p e below s₁ m 2 #[vr pr1, .unset, .unset] [(.int 3)] _
    refine st2 _ ?_
    show Stp p e below T2 m 5 #[vr pr1, .unset, .unset] [(.ref b2)] _
    refine XS.astoreN X2.here hx rfl (hb hby d35_5) rfl rfl (l' := #[vr pr1, vr b2, .unset]) rfl ?_
    refine XS.iconst X2.here hx rfl (hb hby d35_6) ?_
    refine XS.istoreN X2.here hx rfl (hb hby d35_7) rfl (l' := #[vr pr1, vr b2, vi 0]) rfl ?_
    refine XS.iloadN X2.here hx rfl (hb hby d35_8) rfl ?_
    refine XS.aloadN X2.here hx rfl (hb hby d35_9) rfl rfl ?_
    refine X2.arraylength hx (by rw [e2]; exact Arc3.1) (State.isArrayOf_alike hZ.alike Arc3.2.1) (g := (mkF m 10 #[vr pr1, vr b2, vi 0] [(.ref pr1), (.int 0)])) rfl rfl (hb hby d35_10) _ ?_
    rw [len_of Sc3 Nc3]
    show Stp p e below T2 m 11 #[vr pr1, vr b2, vi 0] [(.int 3), (.int 0)] _
    refine XS.icmpNo X2.here hx rfl (hb hby d35_11) rfl (tlt (by decide : (0 : Int32) < (3 : Int32))).2.1 ?_
    show Stp p e below T2 m 14 #[vr pr1, vr b2, vi 0] [] _
    refine XS.aloadN X2.here hx rfl (hb hby d35_14) rfl rfl ?_
    refine XS.iloadN X2.here hx rfl (hb hby d35_15) rfl ?_
    refine XS.aloadN X2.here hx rfl (hb hby d35_16) rfl rfl ?_
    refine XS.iloadN X2.here hx rfl (hb hby d35_17) rfl ?_
    refine X2.aaload hx (j := (0 : Int32)) (v := (.ref c0_pr1)) (by rw [e2]; exact Arc5.1) (State.isArrayOf_alike hZ.alike Arc5.2.1) rfl Arc5.2.2 hin6 (Has.at Hc5 hin6 rfl) (g := (mkF m 18 #[vr pr1, vr b2, vi 0] [(.int 0), (.ref pr1), (.int 0), (.ref b2)])) rfl rfl (hb hby d35_18) _ ?_
    show Stp p e below T2 m 19 #[vr pr1, vr b2, vi 0] [(.ref c0_pr1), (.int 0), (.ref b2)] _
    refine st7 _ ?_
    show Stp p e below T7 m 22 #[vr pr1, vr b2, vi 0] [(.ref c0_pr1), (.int 0), (.ref b2)] _
    refine st11 _ ?_
    show Stp p e below T11 m 23 #[vr pr1, vr b2, vi 0] [] _
    refine XS.iinc X11.here hx rfl (hb hby d35_23) rfl (l' := #[vr pr1, vr b2, vi 1]) rfl ?_
    refine XS.goto X11.here hx rfl (pc0 := 26) (pc' := 8) rfl (hb hby d35_26) (by decide) (by decide) ?_
    show Stp p e below T11 m 8 #[vr pr1, vr b2, vi 1] [] _
    refine XS.iloadN X11.here hx rfl (hb hby d35_8) rfl ?_
    refine XS.aloadN X11.here hx rfl (hb hby d35_9) rfl rfl ?_
    refine X11.arraylength hx (by rw [e11]; exact Arc13.1) (State.isArrayOf_alike hZ.alike Arc13.2.1) (g := (mkF m 10 #[vr pr1, vr b2, vi 1] [(.ref pr1), (.int 1)])) rfl rfl (hb hby d35_10) _ ?_
    rw [len_of Sc13 Nc13]
    show Stp p e below T11 m 11 #[vr pr1, vr b2, vi 1] [(.int 3), (.int 1)] _
    refine XS.icmpNo X11.here hx rfl (hb hby d35_11) rfl (tlt (by decide : (1 : Int32) < (3 : Int32))).2.1 ?_
    show Stp p e below T11 m 14 #[vr pr1, vr b2, vi 1] [] _
    refine XS.aloadN X11.here hx rfl (hb hby d35_14) rfl rfl ?_
    refine XS.iloadN X11.here hx rfl (hb hby d35_15) rfl ?_
    refine XS.aloadN X11.here hx rfl (hb hby d35_16) rfl rfl ?_
    refine XS.iloadN X11.here hx rfl (hb hby d35_17) rfl ?_
    refine X11.aaload hx (j := (1 : Int32)) (v := (.ref c1_pr1)) (by rw [e11]; exact Arc15.1) (State.isArrayOf_alike hZ.alike Arc15.2.1) rfl Arc15.2.2 hin16 (Has.at Hc15 hin16 rfl) (g := (mkF m 18 #[vr pr1, vr b2, vi 1] [(.int 1), (.ref pr1), (.int 1), (.ref b2)])) rfl rfl (hb hby d35_18) _ ?_
    show Stp p e below T11 m 19 #[vr pr1, vr b2, vi 1] [(.ref c1_pr1), (.int 1), (.ref b2)] _
    refine st17 _ ?_
    show Stp p e below T17 m 22 #[vr pr1, vr b2, vi 1] [(.ref c1_pr1), (.int 1), (.ref b2)] _
    refine st21 _ ?_
    show Stp p e below T21 m 23 #[vr pr1, vr b2, vi 1] [] _
    refine XS.iinc X21.here hx rfl (hb hby d35_23) rfl (l' := #[vr pr1, vr b2, vi 2]) rfl ?_
    refine XS.goto X21.here hx rfl (pc0 := 26) (pc' := 8) rfl (hb hby d35_26) (by decide) (by decide) ?_
    show Stp p e below T21 m 8 #[vr pr1, vr b2, vi 2] [] _
    refine XS.iloadN X21.here hx rfl (hb hby d35_8) rfl ?_
    refine XS.aloadN X21.here hx rfl (hb hby d35_9) rfl rfl ?_
    refine X21.arraylength hx (by rw [e21]; exact Arc24.1) (State.isArrayOf_alike hZ.alike Arc24.2.1) (g := (mkF m 10 #[vr pr1, vr b2, vi 2] [(.ref pr1), (.int 2)])) rfl rfl (hb hby d35_10) _ ?_
    rw [len_of Sc24 Nc24]
    show Stp p e below T21 m 11 #[vr pr1, vr b2, vi 2] [(.int 3), (.int 2)] _
    refine XS.icmpNo X21.here hx rfl (hb hby d35_11) rfl (tlt (by decide : (2 : Int32) < (3 : Int32))).2.1 ?_
    show Stp p e below T21 m 14 #[vr pr1, vr b2, vi 2] [] _
    refine XS.aloadN X21.here hx rfl (hb hby d35_14) rfl rfl ?_
    refine XS.iloadN X21.here hx rfl (hb hby d35_15) rfl ?_
    refine XS.aloadN X21.here hx rfl (hb hby d35_16) rfl rfl ?_
    refine XS.iloadN X21.here hx rfl (hb hby d35_17) rfl ?_
    refine X21.aaload hx (j := (2 : Int32)) (v := (.ref c2_pr1)) (by rw [e21]; exact Arc26.1) (State.isArrayOf_alike hZ.alike Arc26.2.1) rfl Arc26.2.2 hin27 (Has.at Hc26 hin27 rfl) (g := (mkF m 18 #[vr pr1, vr b2, vi 2] [(.int 2), (.ref pr1), (.int 2), (.ref b2)])) rfl rfl (hb hby d35_18) _ ?_
    show Stp p e below T21 m 19 #[vr pr1, vr b2, vi 2] [(.ref c2_pr1), (.int 2), (.ref b2)] _
    refine st28 _ ?_
    show Stp p e below T28 m 22 #[vr pr1, vr b2, vi 2] [(.ref c2_pr1), (.int 2), (.ref b2)] _
    refine st32 _ ?_
    show Stp p e below T32 m 23 #[vr pr1, vr b2, vi 2] [] _
    refine XS.iinc X32.here hx rfl (hb hby d35_23) rfl (l' := #[vr pr1, vr b2, vi 3]) rfl ?_
    refine XS.goto X32.here hx rfl (pc0 := 26) (pc' := 8) rfl (hb hby d35_26) (by decide) (by decide) ?_
    show Stp p e below T32 m 8 #[vr pr1, vr b2, vi 3] [] _
    refine XS.iloadN X32.here hx rfl (hb hby d35_8) rfl ?_
    refine XS.aloadN X32.here hx rfl (hb hby d35_9) rfl rfl ?_
    refine X32.arraylength hx (by rw [e32]; exact Arc36.1) (State.isArrayOf_alike hZ.alike Arc36.2.1) (g := (mkF m 10 #[vr pr1, vr b2, vi 3] [(.ref pr1), (.int 3)])) rfl rfl (hb hby d35_10) _ ?_
    rw [len_of Sc36 Nc36]
    show Stp p e below T32 m 11 #[vr pr1, vr b2, vi 3] [(.int 3), (.int 3)] _
    refine XS.icmpYes X32.here hx rfl (pc0 := 11) (pc' := 29) rfl (hb hby d35_11) rfl (flt (by simp : ¬ ((3 : Int32) < (3 : Int32)))).2.1 (by decide) (by decide) ?_
    show Stp p e below T32 m 29 #[vr pr1, vr b2, vi 3] [] _
    refine st38 _ ?_
    show Stp p e below T38 m 32 #[vr pr1, vr b2, vi 3] [(.ref b38)] _
    refine XS.dup X38.here hx rfl (hb hby d35_32) rfl rfl ?_
    refine XS.aloadN X38.here hx rfl (hb hby d35_33) rfl rfl ?_
    refine XS.iconst X38.here hx rfl (hb hby d35_34) ?_
    refine st40.trans ?_
    show Stp p e below T40 m 38 #[vr pr1, vr b2, vi 3] [(.ref b38)] _
    jvm_step X40.here [X40.here.top, hx, (hb hby d35_38), X40.method', Bd.returns, Value.isRef, FieldType.isReference]
    first | (intro acts; rw [hr _ acts rfl rfl rfl]) | rw [hr _ _ rfl rfl rfl]
    exact Steps.refl _
  · show Q35 Z pr1 kk_pr1 c0_pr1 c1_pr1 c2_pr1 h0 n0 _ T40.heap _
    exact ⟨b38, b2, k2, rfl, N40, k49, (Nat.le_trans k47.1 (Nat.le_of_eq g38.symm)), qf40_0, qf40_1, qf40_2, (Nat.le_trans (Keep.refl h0 []).1 (Nat.le_of_eq g2.symm)), f51, O2⟩
theorem pd_19 : parseMethodDescriptor "(Ljava/lang/Object;)V" = some ⟨[(.object "java/lang/Object")], none⟩ := by decide +kernel
theorem d24_0 : decode jdk_40_method_47_code 0 = .ok (.aload_n 0, 1) := by decide +kernel
theorem d24_1 : decode jdk_40_method_47_code 1 = .ok (.arraylength, 1) := by decide +kernel
theorem d24_2 : decode jdk_40_method_47_code 2 = .ok (.tableswitch 57 0 2 #[26, 32, 43], 26) := by decide +kernel
theorem d24_34 : decode jdk_40_method_47_code 34 = .ok (.new 96, 3) := by decide +kernel
theorem d24_37 : decode jdk_40_method_47_code 37 = .ok (.dup, 1) := by decide +kernel
theorem d24_38 : decode jdk_40_method_47_code 38 = .ok (.aload_n 0, 1) := by decide +kernel
theorem d24_39 : decode jdk_40_method_47_code 39 = .ok (.iconst 0, 1) := by decide +kernel
theorem d24_40 : decode jdk_40_method_47_code 40 = .ok (.aaload, 1) := by decide +kernel
theorem d24_41 : decode jdk_40_method_47_code 41 = .ok (.invokespecial 98, 3) := by decide +kernel
theorem d24_44 : decode jdk_40_method_47_code 44 = .ok (.areturn, 1) := by decide +kernel
theorem pn_24 : plainName "java/util/List" = true := by first | (simp [plainName, overriddenIn]; done) | decide +kernel
theorem ef_24 (m : MethodId) (pr1 : Addr) : entryFrame m #[(.ref pr1)] 2 = mkF m 0 #[vr pr1, .unset] [] := by first | (simp [entryFrame, mkF, argsToLocals, Value.category]; done) | rfl
def Q24_1 (Z : State) (pr1 : Addr) (kk_pr1 : ClassId) (c0_pr1 : Addr) (w_EMPTY : Addr) (h0 : Heap) (n0 : Nat) (v : Option Value) (h : Heap) (L : List Loc) : Prop := ∃ b2 : Addr, v = some (.ref b2) ∧ Fr n0 L ∧ Keep h0 h [] ∧ h0.size ≤ b2 ∧ Exa Z h b2 "java/util/ImmutableCollections$List12" ∧ Fld Z h b2 "java/util/ImmutableCollections$List12" "e0" "Ljava/lang/Object;" (.ref c0_pr1) ∧ Fld Z h b2 "java/util/ImmutableCollections$List12" "e1" "Ljava/lang/Object;" (.ref w_EMPTY)
set_option maxRecDepth 65536 in
set_option maxHeartbeats 40000000 in
theorem rm24_1 (l : Launch) (Z : State) (a0 : Array Value) (hw : ∀ d ∈ tables_1, d.before a0 Z = true) (ws : List Jvm.Cond) (pr1 : Addr) (kk_pr1 : ClassId) (c0_pr1 : Addr) (w_EMPTY : Addr) (h0 : Heap) (n0 : Nat) (Z0 : n0 ≤ h0.size) (O0 : Old Z n0 h0) (V_pr1 : Arv Z h0 pr1 kk_pr1 (.object "java/lang/Object") (1 : Int32) [(.ref c0_pr1)] .null) (E_c0_pr1 : Exa Z h0 c0_pr1 "com/example/tyche/tyche/model/jani/Expression$Operation") (S_EMPTY : Sta Z Z.heap "java/util/ImmutableCollections" "EMPTY" "Ljava/lang/Object;" (.ref w_EMPTY)) :
    MetFree l mN21 (head1 (Jvm.Cond.code mN21 jdk_40_method_47_code 2 (some (.object "java/util/List")) :: ws) ({ frames := 5, cells := 1, slots := 2, locals := 62 } : Room)) (fun a U => a = #[(.ref pr1)] ∧ Z.Warmed39 U.vm ∧ U.heap = h0) (fun _ _ _ _ _ => True) (fun _ U o U' => ∃ v L, o = .returned v ∧ Q24_1 Z pr1 kk_pr1 c0_pr1 w_EMPTY h0 n0 v U'.heap L ∧ FrameEnd U o U' L ({ frames := 5, cells := 1, slots := 2, locals := 62 } : Room).cells ({ frames := 5, cells := 1, slots := 2, locals := 62 } : Room).slots) := by
  refine MetFree.of_bodySF (plainFor_of_name pn_24) hisR ?_
  intro p e s m args below meth c s₁ Bd hml0 hP hK
  obtain ⟨rfl, hZ, hh⟩ := hP
  have hx := Bd.exec
  have hby := Bd.bytes
  have hml : c.maxLocals = 2 := hml0
  have hown : s.vm.findClass "java/util/List" = some m.cls := findClass_of_methodNamed Bd.named
  have hnm := (name_of_methodNamed Bd.named Bd.method).1
  have X0 : Stand p l e ({ frames := 5, cells := 1, slots := 2, locals := 62 } : Room) s m #[(.ref pr1)] below meth c s₁ [] 0 0 := Stand.of_body Bd
  have e0 : s₁.heap = h0 := by rw [← hh, Bd.state]; rfl
  have N0 := Fr.nil n0
  have pre0 : ∀ t, Steps p.tables e below (s₁.setTop (mkF m 0 #[vr pr1, .unset] [])) t → Steps p.tables e below (s₁.setTop (entryFrame m #[(.ref pr1)] 2)) t := fun t k => castTop (ef_24 m pr1) k
  have V_c1 := V_pr1
  obtain ⟨c1, Arc1, qc1, Sc1, Nc1, Hc1, Gc1⟩ := V_c1
  obtain ⟨T2, h2, X2, e2, E2, A2, D2, -, st2⟩ := newO X0 hx hZ hown (own_W hw 174 rfl) (own_W hw 175 rfl) (own_W hw 176 rfl) e0 (g := (mkF m 34 #[vr pr1, .unset] [])) rfl (hb hby d24_34) (by decide) (by decide)
  obtain ⟨b2, g2⟩ : ∃ z, z = h0.size := ⟨_, rfl⟩
  rw [← g2] at A2 D2 st2
  have F_e0_b2 : Fld Z h2 b2 "java/util/ImmutableCollections$List12" "e0" "Ljava/lang/Object;" .null := D2 (Or.inr (own_W hw 200 rfl)) (ty := (.object "java/lang/Object")) (by decide)
  have F_e1_b2 : Fld Z h2 b2 "java/util/ImmutableCollections$List12" "e1" "Ljava/lang/Object;" .null := D2 (Or.inr (own_W hw 203 rfl)) (ty := (.object "java/lang/Object")) (by decide)
  have f4 := V_pr1.ext E2
  have V_c3 := f4
  obtain ⟨c3, Arc3, qc3, Sc3, Nc3, Hc3, Gc3⟩ := V_c3
  have hin5 : ¬ ((0 : Int32) < 0 ∨ c3.slots.size ≤ ((0 : Int32)).toNatClampNeg) := inb_of Sc3 ⟨by decide, by decide⟩
  have g_b2 : n0 ≤ b2 := Nat.le_trans Z0 (Nat.le_of_eq g2.symm)
  have z7 := Nat.le_trans Z0 E2.1
  have o8 := O0.ext E2
  obtain ⟨_, _, ⟨T6, L6, k6, n6⟩, -, X6, ⟨Lc6, hQ6, l6, y6, z6⟩, st6⟩ := X2.specialBack hx (y := mN17) rfl hown (mvT hZ (own_W hw 177 rfl)) (mvT hZ (own_W hw 178 rfl)) (mvT hZ (own_W hw 180 rfl)) (by decide) (backOf (W := 1) (rm25 l Z a0 hw [] b2 c0_pr1 w_EMPTY .null .null h2 n0 z7 o8 A2 S_EMPTY F_e0_b2 g_b2 F_e1_b2) hZ (own_W hw 180 rfl) (own_W hw 176 rfl) (by decide) (by decide)) (g := (mkF m 41 #[vr pr1, .unset] [(.ref c0_pr1), (.ref b2), (.ref b2)])) rfl (by rw [hml]; rfl) (Steps.refl _) (a := b2) (argsL := [(.ref c0_pr1)]) (rest := [(.ref b2)]) (lenOf pd_19 rfl) rfl (by show 2 * 0 + _ ≤ _; exact Nat.le_of_eq rfl) (hb hby d24_41) (fun _ _ => ⟨rfl, e2, (by decide : 1 + 0 ≤ _), (by decide : 2 + 0 ≤ _)⟩)
  dsimp only [Pt.U, Pt.locs, Pt.cells, Pt.slots] at X6 l6 y6 z6 st6 hQ6
  subst l6 y6 z6
  obtain ⟨rfl, N6q, K6, qf6_0, qf6_1, qf6_2⟩ := hQ6
  have N6 := Fr.app N0 N6q
  have k9 : Keep h0 h2 [] := (Keep.refl h0 []).ext E2
  have k10 : Keep h0 T6.heap [] := k9.trans K6 (allS (Or.inr (Nat.le_trans (Keep.refl h0 []).1 (Nat.le_of_eq g2.symm))) all0)
  obtain ⟨fs, hr, hrun, hended, hW, hsame⟩ := X6.leave (v := some (.ref b2)) (fun h => by rw [Bd.returns] at h; cases h) (BodyLoose.notSynchronized Bd)
  refine ⟨_, _, pre0 _ ?_, hrun, hended, _, _, rfl, ?_, ⟨_, rfl⟩, hW, hsame.mono (by decide) (by decide)⟩
  · show Stp p e below s₁ m 0 #[vr pr1, .unset] [] _
    refine XS.aloadN X0.here hx rfl (hb hby d24_0) rfl rfl ?_
    refine X0.arraylength hx (by rw [e0]; exact Arc1.1) (State.isArrayOf_alike hZ.alike Arc1.2.1) (g := (mkF m 1 #[vr pr1, .unset] [(.ref pr1)])) rfl rfl (hb hby d24_1) _ ?_
    rw [len_of Sc1 Nc1]
    show Stp p e below s₁ m 2 #[vr pr1, .unset] [(.int 1)] _
    refine X0.tableswitchIn hx (g := (mkF m 2 #[vr pr1, .unset] [(.int 1)])) rfl rfl (hb hby d24_2) (by decide) (off := 32) rfl (by show (0 : Int) ≤ ((2 : Nat) : Int) + 32; decide) _ ?_
    show Stp p e below s₁ m 34 #[vr pr1, .unset] [] _
    refine st2 _ ?_
    show Stp p e below T2 m 37 #[vr pr1, .unset] [(.ref b2)] _
    refine XS.dup X2.here hx rfl (hb hby d24_37) rfl rfl ?_
    refine XS.aloadN X2.here hx rfl (hb hby d24_38) rfl rfl ?_
    refine XS.iconst X2.here hx rfl (hb hby d24_39) ?_
    refine X2.aaload hx (j := (0 : Int32)) (v := (.ref c0_pr1)) (by rw [e2]; exact Arc3.1) (State.isArrayOf_alike hZ.alike Arc3.2.1) rfl Arc3.2.2 hin5 (Has.at Hc3 hin5 rfl) (g := (mkF m 40 #[vr pr1, .unset] [(.int 0), (.ref pr1), (.ref b2), (.ref b2)])) rfl rfl (hb hby d24_40) _ ?_
    show Stp p e below T2 m 41 #[vr pr1, .unset] [(.ref c0_pr1), (.ref b2), (.ref b2)] _
    refine st6.trans ?_
    show Stp p e below T6 m 44 #[vr pr1, .unset] [(.ref b2)] _
    jvm_step X6.here [X6.here.top, hx, (hb hby d24_44), X6.method', Bd.returns, Value.isRef, FieldType.isReference]
    first | (intro acts; rw [hr _ acts rfl rfl rfl]) | rw [hr _ _ rfl rfl rfl]
    exact Steps.refl _
  · show Q24_1 Z pr1 kk_pr1 c0_pr1 w_EMPTY h0 n0 _ T6.heap _
    exact ⟨b2, rfl, N6, k10, (Nat.le_trans (Keep.refl h0 []).1 (Nat.le_of_eq g2.symm)), qf6_0, qf6_1, qf6_2⟩
theorem pd_25 : parseMethodDescriptor "(Ljava/lang/Object;Ljava/lang/Object;)V" = some ⟨[(.object "java/lang/Object"), (.object "java/lang/Object")], none⟩ := by decide +kernel
theorem d24_45 : decode jdk_40_method_47_code 45 = .ok (.new 96, 3) := by decide +kernel
theorem d24_48 : decode jdk_40_method_47_code 48 = .ok (.dup, 1) := by decide +kernel
theorem d24_49 : decode jdk_40_method_47_code 49 = .ok (.aload_n 0, 1) := by decide +kernel
theorem d24_50 : decode jdk_40_method_47_code 50 = .ok (.iconst 0, 1) := by decide +kernel
theorem d24_51 : decode jdk_40_method_47_code 51 = .ok (.aaload, 1) := by decide +kernel
theorem d24_52 : decode jdk_40_method_47_code 52 = .ok (.aload_n 0, 1) := by decide +kernel
theorem d24_53 : decode jdk_40_method_47_code 53 = .ok (.iconst 1, 1) := by decide +kernel
theorem d24_54 : decode jdk_40_method_47_code 54 = .ok (.aaload, 1) := by decide +kernel
theorem d24_55 : decode jdk_40_method_47_code 55 = .ok (.invokespecial 100, 3) := by decide +kernel
theorem d24_58 : decode jdk_40_method_47_code 58 = .ok (.areturn, 1) := by decide +kernel
def Q24_2 (Z : State) (pr1 : Addr) (kk_pr1 : ClassId) (c0_pr1 : Addr) (c1_pr1 : Addr) (h0 : Heap) (n0 : Nat) (v : Option Value) (h : Heap) (L : List Loc) : Prop := ∃ b2 : Addr, v = some (.ref b2) ∧ Fr n0 L ∧ Keep h0 h [] ∧ h0.size ≤ b2 ∧ Exa Z h b2 "java/util/ImmutableCollections$List12" ∧ Fld Z h b2 "java/util/ImmutableCollections$List12" "e0" "Ljava/lang/Object;" (.ref c0_pr1) ∧ Fld Z h b2 "java/util/ImmutableCollections$List12" "e1" "Ljava/lang/Object;" (.ref c1_pr1)
set_option maxRecDepth 65536 in
set_option maxHeartbeats 40000000 in
theorem rm24_2 (l : Launch) (Z : State) (a0 : Array Value) (hw : ∀ d ∈ tables_1, d.before a0 Z = true) (ws : List Jvm.Cond) (pr1 : Addr) (kk_pr1 : ClassId) (c0_pr1 : Addr) (c1_pr1 : Addr) (h0 : Heap) (n0 : Nat) (Z0 : n0 ≤ h0.size) (O0 : Old Z n0 h0) (V_pr1 : Arv Z h0 pr1 kk_pr1 (.object "java/lang/Object") (2 : Int32) [(.ref c0_pr1), (.ref c1_pr1)] .null) (E_c0_pr1 : Exa Z h0 c0_pr1 "com/example/tyche/tyche/model/jani/Expression$Operation") (E_c1_pr1 : Exa Z h0 c1_pr1 "com/example/tyche/tyche/model/jani/Expression$Operation") :
    MetFree l mN21 (head1 (Jvm.Cond.code mN21 jdk_40_method_47_code 2 (some (.object "java/util/List")) :: ws) ({ frames := 5, cells := 1, slots := 2, locals := 63 } : Room)) (fun a U => a = #[(.ref pr1)] ∧ Z.Warmed39 U.vm ∧ U.heap = h0) (fun _ _ _ _ _ => True) (fun _ U o U' => ∃ v L, o = .returned v ∧ Q24_2 Z pr1 kk_pr1 c0_pr1 c1_pr1 h0 n0 v U'.heap L ∧ FrameEnd U o U' L ({ frames := 5, cells := 1, slots := 2, locals := 63 } : Room).cells ({ frames := 5, cells := 1, slots := 2, locals := 63 } : Room).slots) := by
  refine MetFree.of_bodySF (plainFor_of_name pn_24) hisR ?_
  intro p e s m args below meth c s₁ Bd hml0 hP hK
  obtain ⟨rfl, hZ, hh⟩ := hP
  have hx := Bd.exec
  have hby := Bd.bytes
  have hml : c.maxLocals = 2 := hml0
  have hown : s.vm.findClass "java/util/List" = some m.cls := findClass_of_methodNamed Bd.named
  have hnm := (name_of_methodNamed Bd.named Bd.method).1
  have X0 : Stand p l e ({ frames := 5, cells := 1, slots := 2, locals := 63 } : Room) s m #[(.ref pr1)] below meth c s₁ [] 0 0 := Stand.of_body Bd
  have e0 : s₁.heap = h0 := by rw [← hh, Bd.state]; rfl
  have N0 := Fr.nil n0
  have pre0 : ∀ t, Steps p.tables e below (s₁.setTop (mkF m 0 #[vr pr1, .unset] [])) t → Steps p.tables e below (s₁.setTop (entryFrame m #[(.ref pr1)] 2)) t := fun t k => castTop (ef_24 m pr1) k
  have V_c1 := V_pr1
  obtain ⟨c1, Arc1, qc1, Sc1, Nc1, Hc1, Gc1⟩ := V_c1
  obtain ⟨T2, h2, X2, e2, E2, A2, D2, -, st2⟩ := newO X0 hx hZ hown (own_W hw 174 rfl) (own_W hw 175 rfl) (own_W hw 176 rfl) e0 (g := (mkF m 45 #[vr pr1, .unset] [])) rfl (hb hby d24_45) (by decide) (by decide)
  obtain ⟨b2, g2⟩ : ∃ z, z = h0.size := ⟨_, rfl⟩
  rw [← g2] at A2 D2 st2
  have F_e0_b2 : Fld Z h2 b2 "java/util/ImmutableCollections$List12" "e0" "Ljava/lang/Object;" .null := D2 (Or.inr (own_W hw 200 rfl)) (ty := (.object "java/lang/Object")) (by decide)
  have F_e1_b2 : Fld Z h2 b2 "java/util/ImmutableCollections$List12" "e1" "Ljava/lang/Object;" .null := D2 (Or.inr (own_W hw 203 rfl)) (ty := (.object "java/lang/Object")) (by decide)
  have f4 := V_pr1.ext E2
  have V_c3 := f4
  obtain ⟨c3, Arc3, qc3, Sc3, Nc3, Hc3, Gc3⟩ := V_c3
  have hin5 : ¬ ((0 : Int32) < 0 ∨ c3.slots.size ≤ ((0 : Int32)).toNatClampNeg) := inb_of Sc3 ⟨by decide, by decide⟩
  have V_c6 := f4
  obtain ⟨c6, Arc6, qc6, Sc6, Nc6, Hc6, Gc6⟩ := V_c6
  have hin7 : ¬ ((1 : Int32) < 0 ∨ c6.slots.size ≤ ((1 : Int32)).toNatClampNeg) := inb_of Sc6 ⟨by decide, by decide⟩
  have g_b2 : n0 ≤ b2 := Nat.le_trans Z0 (Nat.le_of_eq g2.symm)
  have z9 := Nat.le_trans Z0 E2.1
  have o10 := O0.ext E2
  obtain ⟨_, _, ⟨T8, L8, k8, n8⟩, -, X8, ⟨Lc8, hQ8, l8, y8, z8⟩, st8⟩ := X2.specialBack hx (y := mN18) rfl hown (mvT hZ (own_W hw 237 rfl)) (mvT hZ (own_W hw 238 rfl)) (mvT hZ (own_W hw 239 rfl)) (by decide) (backOf (W := 1) (rm34 l Z a0 hw [] b2 c0_pr1 c1_pr1 .null .null h2 n0 z9 o10 A2 F_e0_b2 g_b2 F_e1_b2) hZ (own_W hw 239 rfl) (own_W hw 176 rfl) (by decide) (by decide)) (g := (mkF m 55 #[vr pr1, .unset] [(.ref c1_pr1), (.ref c0_pr1), (.ref b2), (.ref b2)])) rfl (by rw [hml]; rfl) (Steps.refl _) (a := b2) (argsL := [(.ref c0_pr1), (.ref c1_pr1)]) (rest := [(.ref b2)]) (lenOf pd_25 rfl) rfl (by show 2 * 0 + _ ≤ _; exact Nat.le_of_eq rfl) (hb hby d24_55) (fun _ _ => ⟨rfl, e2, (by decide : 1 + 0 ≤ _), (by decide : 2 + 0 ≤ _)⟩)
  dsimp only [Pt.U, Pt.locs, Pt.cells, Pt.slots] at X8 l8 y8 z8 st8 hQ8
  subst l8 y8 z8
  obtain ⟨rfl, N8q, K8, qf8_0, qf8_1, qf8_2⟩ := hQ8
  have N8 := Fr.app N0 N8q
  have k11 : Keep h0 h2 [] := (Keep.refl h0 []).ext E2
  have k12 : Keep h0 T8.heap [] := k11.trans K8 (allS (Or.inr (Nat.le_trans (Keep.refl h0 []).1 (Nat.le_of_eq g2.symm))) all0)
  obtain ⟨fs, hr, hrun, hended, hW, hsame⟩ := X8.leave (v := some (.ref b2)) (fun h => by rw [Bd.returns] at h; cases h) (BodyLoose.notSynchronized Bd)
  refine ⟨_, _, pre0 _ ?_, hrun, hended, _, _, rfl, ?_, ⟨_, rfl⟩, hW, hsame.mono (by decide) (by decide)⟩
  · show Stp p e below s₁ m 0 #[vr pr1, .unset] [] _
    refine XS.aloadN X0.here hx rfl (hb hby d24_0) rfl rfl ?_
    refine X0.arraylength hx (by rw [e0]; exact Arc1.1) (State.isArrayOf_alike hZ.alike Arc1.2.1) (g := (mkF m 1 #[vr pr1, .unset] [(.ref pr1)])) rfl rfl (hb hby d24_1) _ ?_
    rw [len_of Sc1 Nc1]
    show Stp p e below s₁ m 2 #[vr pr1, .unset] [(.int 2)] _
    refine X0.tableswitchIn hx (g := (mkF m 2 #[vr pr1, .unset] [(.int 2)])) rfl rfl (hb hby d24_2) (by decide) (off := 43) rfl (by show (0 : Int) ≤ ((2 : Nat) : Int) + 43; decide) _ ?_
    show Stp p e below s₁ m 45 #[vr pr1, .unset] [] _
    refine st2 _ ?_
    show Stp p e below T2 m 48 #[vr pr1, .unset] [(.ref b2)] _
    refine XS.dup X2.here hx rfl (hb hby d24_48) rfl rfl ?_
    refine XS.aloadN X2.here hx rfl (hb hby d24_49) rfl rfl ?_
    refine XS.iconst X2.here hx rfl (hb hby d24_50) ?_
    refine X2.aaload hx (j := (0 : Int32)) (v := (.ref c0_pr1)) (by rw [e2]; exact Arc3.1) (State.isArrayOf_alike hZ.alike Arc3.2.1) rfl Arc3.2.2 hin5 (Has.at Hc3 hin5 rfl) (g := (mkF m 51 #[vr pr1, .unset] [(.int 0), (.ref pr1), (.ref b2), (.ref b2)])) rfl rfl (hb hby d24_51) _ ?_
    show Stp p e below T2 m 52 #[vr pr1, .unset] [(.ref c0_pr1), (.ref b2), (.ref b2)] _
    refine XS.aloadN X2.here hx rfl (hb hby d24_52) rfl rfl ?_
    refine XS.iconst X2.here hx rfl (hb hby d24_53) ?_
    refine X2.aaload hx (j := (1 : Int32)) (v := (.ref c1_pr1)) (by rw [e2]; exact Arc6.1) (State.isArrayOf_alike hZ.alike Arc6.2.1) rfl Arc6.2.2 hin7 (Has.at Hc6 hin7 rfl) (g := (mkF m 54 #[vr pr1, .unset] [(.int 1), (.ref pr1), (.ref c0_pr1), (.ref b2), (.ref b2)])) rfl rfl (hb hby d24_54) _ ?_
    show Stp p e below T2 m 55 #[vr pr1, .unset] [(.ref c1_pr1), (.ref c0_pr1), (.ref b2), (.ref b2)] _
    refine st8.trans ?_
    show Stp p e below T8 m 58 #[vr pr1, .unset] [(.ref b2)] _
    jvm_step X8.here [X8.here.top, hx, (hb hby d24_58), X8.method', Bd.returns, Value.isRef, FieldType.isReference]
    first | (intro acts; rw [hr _ acts rfl rfl rfl]) | rw [hr _ _ rfl rfl rfl]
    exact Steps.refl _
  · show Q24_2 Z pr1 kk_pr1 c0_pr1 c1_pr1 h0 n0 _ T8.heap _
    exact ⟨b2, rfl, N8, k12, (Nat.le_trans (Keep.refl h0 []).1 (Nat.le_of_eq g2.symm)), qf8_0, qf8_1, qf8_2⟩
theorem pd_18 : parseMethodDescriptor "([Ljava/lang/Object;)Ljava/util/List;" = some ⟨[(.array (.object "java/lang/Object"))], some (.object "java/util/List")⟩ := by decide +kernel
theorem d24_59 : decode jdk_40_method_47_code 59 = .ok (.aload_n 0, 1) := by decide +kernel
theorem d24_60 : decode jdk_40_method_47_code 60 = .ok (.invokestatic 109, 3) := by decide +kernel
theorem d24_63 : decode jdk_40_method_47_code 63 = .ok (.areturn, 1) := by decide +kernel
def Q24_3 (Z : State) (pr1 : Addr) (kk_pr1 : ClassId) (c0_pr1 : Addr) (c1_pr1 : Addr) (c2_pr1 : Addr) (h0 : Heap) (n0 : Nat) (v : Option Value) (h : Heap) (L : List Loc) : Prop := ∃ b2 : Addr, ∃ b2_1 : Addr, ∃ b2_2 : ClassId, v = some (.ref b2) ∧ Fr n0 L ∧ Keep h0 h [] ∧ h0.size ≤ b2 ∧ Exa Z h b2 "java/util/ImmutableCollections$ListN" ∧ Fld Z h b2 "java/util/ImmutableCollections$ListN" "elements" "[Ljava/lang/Object;" (.ref b2_1) ∧ Fld Z h b2 "java/util/ImmutableCollections$ListN" "allowNulls" "Z" (.int 0) ∧ h0.size ≤ b2_1 ∧ Arv Z h b2_1 b2_2 (.object "java/lang/Object") (3 : Int32) [(.ref c0_pr1), (.ref c1_pr1), (.ref c2_pr1)] .null ∧ Ovr Z b2_2 "java/lang/Object"
set_option maxRecDepth 65536 in
set_option maxHeartbeats 40000000 in
theorem rm24_3 (l : Launch) (Z : State) (a0 : Array Value) (hw : ∀ d ∈ tables_1, d.before a0 Z = true) (ws : List Jvm.Cond) (pr1 : Addr) (kk_pr1 : ClassId) (c0_pr1 : Addr) (c1_pr1 : Addr) (c2_pr1 : Addr) (h0 : Heap) (n0 : Nat) (Z0 : n0 ≤ h0.size) (O0 : Old Z n0 h0) (V_pr1 : Arv Z h0 pr1 kk_pr1 (.object "java/lang/Object") (3 : Int32) [(.ref c0_pr1), (.ref c1_pr1), (.ref c2_pr1)] .null) (E_c0_pr1 : Exa Z h0 c0_pr1 "com/example/tyche/tyche/model/jani/Expression$Operation") (E_c1_pr1 : Exa Z h0 c1_pr1 "com/example/tyche/tyche/model/jani/Expression$Operation") (E_c2_pr1 : Exa Z h0 c2_pr1 "com/example/tyche/tyche/model/jani/Expression$Operation") :
    MetFree l mN21 (head1 (Jvm.Cond.code mN21 jdk_40_method_47_code 2 (some (.object "java/util/List")) :: ws) ({ frames := 6, cells := 2, slots := 5, locals := 77 } : Room)) (fun a U => a = #[(.ref pr1)] ∧ Z.Warmed39 U.vm ∧ U.heap = h0) (fun _ _ _ _ _ => True) (fun _ U o U' => ∃ v L, o = .returned v ∧ Q24_3 Z pr1 kk_pr1 c0_pr1 c1_pr1 c2_pr1 h0 n0 v U'.heap L ∧ FrameEnd U o U' L ({ frames := 6, cells := 2, slots := 5, locals := 77 } : Room).cells ({ frames := 6, cells := 2, slots := 5, locals := 77 } : Room).slots) := by
  refine MetFree.of_bodySF (plainFor_of_name pn_24) hisR ?_
  intro p e s m args below meth c s₁ Bd hml0 hP hK
  obtain ⟨rfl, hZ, hh⟩ := hP
  have hx := Bd.exec
  have hby := Bd.bytes
  have hml : c.maxLocals = 2 := hml0
  have hown : s.vm.findClass "java/util/List" = some m.cls := findClass_of_methodNamed Bd.named
  have hnm := (name_of_methodNamed Bd.named Bd.method).1
  have X0 : Stand p l e ({ frames := 6, cells := 2, slots := 5, locals := 77 } : Room) s m #[(.ref pr1)] below meth c s₁ [] 0 0 := Stand.of_body Bd
  have e0 : s₁.heap = h0 := by rw [← hh, Bd.state]; rfl
  have N0 := Fr.nil n0
  have pre0 : ∀ t, Steps p.tables e below (s₁.setTop (mkF m 0 #[vr pr1, .unset] [])) t → Steps p.tables e below (s₁.setTop (entryFrame m #[(.ref pr1)] 2)) t := fun t k => castTop (ef_24 m pr1) k
  have V_c1 := V_pr1
  obtain ⟨c1, Arc1, qc1, Sc1, Nc1, Hc1, Gc1⟩ := V_c1
  obtain ⟨_, _, ⟨T2, L2, k2, n2⟩, -, X2, ⟨Lc2, hQ2, l2, y2, z2⟩, st2⟩ := Jvm.LawKit.callS X0 hx (y := mN20) hown (mvT hZ (own_W hw 240 rfl)) (mvT hZ (own_W hw 241 rfl)) (mvT hZ (own_W hw 56 rfl)) (mvT hZ (own_W hw 242 rfl)) (by decide) (backOf (W := 0) (rm35 l Z a0 hw [] pr1 kk_pr1 c0_pr1 c1_pr1 c2_pr1 h0 n0 Z0 O0 V_pr1 E_c0_pr1 E_c1_pr1 E_c2_pr1) hZ (own_W hw 242 rfl) (own_W hw 56 rfl) (by decide) (by decide)) (g := (mkF m 60 #[vr pr1, .unset] [(.ref pr1)])) rfl (by rw [hml]; rfl) (argsL := [(.ref pr1)]) (rest := []) (lenOf pd_18 rfl) rfl (by show 2 * 0 + _ ≤ _; exact Nat.le_of_eq rfl) (hb hby d24_60) (fun _ _ => ⟨rfl, e0, (by decide : 0 + 2 ≤ _), (by decide : 0 + 5 ≤ _)⟩)
  dsimp only [Pt.U, Pt.locs, Pt.cells, Pt.slots] at X2 l2 y2 z2 st2 hQ2
  subst l2 y2 z2
  obtain ⟨b2, b2_1, b2_2, rfl, N2q, K2, qf2_0, qf2_1, qf2_2, qf2_3, qf2_4, qf2_5, qf2_6⟩ := hQ2
  have N2 := Fr.app N0 N2q
  have k3 : Keep h0 T2.heap [] := (Keep.refl h0 []).trans K2 all0
  obtain ⟨fs, hr, hrun, hended, hW, hsame⟩ := X2.leave (v := some (.ref b2)) (fun h => by rw [Bd.returns] at h; cases h) (BodyLoose.notSynchronized Bd)
  refine ⟨_, _, pre0 _ ?_, hrun, hended, _, _, rfl, ?_, ⟨_, rfl⟩, hW, hsame.mono (by decide) (by decide)⟩
  · show Stp p e below s₁ m 0 #[vr pr1, .unset] [] _
    refine XS.aloadN X0.here hx rfl (hb hby d24_0) rfl rfl ?_
    refine X0.arraylength hx (by rw [e0]; exact Arc1.1) (State.isArrayOf_alike hZ.alike Arc1.2.1) (g := (mkF m 1 #[vr pr1, .unset] [(.ref pr1)])) rfl rfl (hb hby d24_1) _ ?_
    rw [len_of Sc1 Nc1]
    show Stp p e below s₁ m 2 #[vr pr1, .unset] [(.int 3)] _
    refine X0.tableswitchOut hx (g := (mkF m 2 #[vr pr1, .unset] [(.int 3)])) rfl rfl (hb hby d24_2) (by decide) (by show (0 : Int) ≤ ((2 : Nat) : Int) + 57; decide) _ ?_
    show Stp p e below s₁ m 59 #[vr pr1, .unset] [] _
    refine XS.aloadN X0.here hx rfl (hb hby d24_59) rfl rfl ?_
    refine st2 _ ?_
    show Stp p e below T2 m 63 #[vr pr1, .unset] [(.ref b2)] _
    jvm_step X2.here [X2.here.top, hx, (hb hby d24_63), X2.method', Bd.returns, Value.isRef, FieldType.isReference]
    first | (intro acts; rw [hr _ acts rfl rfl rfl]) | rw [hr _ _ rfl rfl rfl]
    exact Steps.refl _
  · show Q24_3 Z pr1 kk_pr1 c0_pr1 c1_pr1 c2_pr1 h0 n0 _ T2.heap _
    exact ⟨b2, b2_1, b2_2, rfl, N2, k3, (Nat.le_trans (Keep.refl h0 []).1 qf2_0), qf2_1, qf2_2, qf2_3, (Nat.le_trans (Keep.refl h0 []).1 qf2_4), qf2_5, qf2_6⟩
theorem pd_3 : parseMethodDescriptor "()Z" = some ⟨[], some .boolean⟩ := by decide +kernel
theorem pd_4 : parseMethodDescriptor "()Ljava/util/List;" = some ⟨[], some (.object "java/util/List")⟩ := by decide +kernel
theorem d8_0 : decode jdk_56_method_3_code 0 = .ok (.aload_n 0, 1) := by decide +kernel
theorem d8_1 : decode jdk_56_method_3_code 1 = .ok (.instanceof 10, 3) := by decide +kernel
theorem d8_4 : decode jdk_56_method_3_code 4 = .ok (.ifCond .ne 22, 3) := by decide +kernel
theorem d8_7 : decode jdk_56_method_3_code 7 = .ok (.aload_n 0, 1) := by decide +kernel
theorem d8_8 : decode jdk_56_method_3_code 8 = .ok (.instanceof 12, 3) := by decide +kernel
theorem d8_11 : decode jdk_56_method_3_code 11 = .ok (.ifCond .eq 20, 3) := by decide +kernel
theorem d8_31 : decode jdk_56_method_3_code 31 = .ok (.aload_n 0, 1) := by decide +kernel
theorem d8_32 : decode jdk_56_method_3_code 32 = .ok (.invokeinterface 20 1, 5) := by decide +kernel
theorem d8_37 : decode jdk_56_method_3_code 37 = .ok (.ifCond .eq 7, 3) := by decide +kernel
theorem d8_40 : decode jdk_56_method_3_code 40 = .ok (.invokestatic 26, 3) := by decide +kernel
theorem d8_43 : decode jdk_56_method_3_code 43 = .ok (.areturn, 1) := by decide +kernel
theorem pn_8 : plainName "java/util/ImmutableCollections" = true := by first | (simp [plainName, overriddenIn]; done) | decide +kernel
theorem ef_8 (m : MethodId) (pr1 : Addr) : entryFrame m #[(.ref pr1)] 2 = mkF m 0 #[vr pr1, .unset] [] := by first | (simp [entryFrame, mkF, argsToLocals, Value.category]; done) | rfl
def Q8_0 (Z : State) (pr1 : Addr) (w_EMPTY_LIST : Addr) (h0 : Heap) (n0 : Nat) (v : Option Value) (h : Heap) (L : List Loc) : Prop := v = some (.ref w_EMPTY_LIST) ∧ Fr n0 L ∧ h = h0
set_option maxRecDepth 65536 in
set_option maxHeartbeats 40000000 in
theorem rm8_0 (l : Launch) (Z : State) (a0 : Array Value) (hw : ∀ d ∈ tables_1, d.before a0 Z = true) (ws : List Jvm.Cond) (pr1 : Addr) (w_EMPTY_LIST : Addr) (h0 : Heap) (n0 : Nat) (Z0 : n0 ≤ h0.size) (O0 : Old Z n0 h0) (E_pr1 : Exa Z h0 pr1 "java/util/ArrayList") (F_size_pr1 : Fld Z h0 pr1 "java/util/ArrayList" "size" "I" (.int 0)) (S_EMPTY_LIST : Sta Z Z.heap "java/util/ImmutableCollections" "EMPTY_LIST" "Ljava/util/ImmutableCollections$ListN;" (.ref w_EMPTY_LIST)) :
    MetFree l mN22 (head1 (Jvm.Cond.code mN22 jdk_56_method_3_code 2 (some (.object "java/util/List")) :: ws) ({ frames := 1, cells := 0, slots := 0, locals := 12 } : Room)) (fun a U => a = #[(.ref pr1)] ∧ Z.Warmed39 U.vm ∧ U.heap = h0) (fun _ _ _ _ _ => True) (fun _ U o U' => ∃ v L, o = .returned v ∧ Q8_0 Z pr1 w_EMPTY_LIST h0 n0 v U'.heap L ∧ FrameEnd U o U' L ({ frames := 1, cells := 0, slots := 0, locals := 12 } : Room).cells ({ frames := 1, cells := 0, slots := 0, locals := 12 } : Room).slots) := by
  refine MetFree.of_bodySF (plainFor_of_name pn_8) hisR ?_
  intro p e s m args below meth c s₁ Bd hml0 hP hK
  obtain ⟨rfl, hZ, hh⟩ := hP
  have hx := Bd.exec
  have hby := Bd.bytes
  have hml : c.maxLocals = 2 := hml0
  have hown : s.vm.findClass "java/util/ImmutableCollections" = some m.cls := findClass_of_methodNamed Bd.named
  have hnm := (name_of_methodNamed Bd.named Bd.method).1
  have X0 : Stand p l e ({ frames := 1, cells := 0, slots := 0, locals := 12 } : Room) s m #[(.ref pr1)] below meth c s₁ [] 0 0 := Stand.of_body Bd
  have e0 : s₁.heap = h0 := by rw [← hh, Bd.state]; rfl
  have N0 := Fr.nil n0
  have pre0 : ∀ t, Steps p.tables e below (s₁.setTop (mkF m 0 #[vr pr1, .unset] [])) t → Steps p.tables e below (s₁.setTop (entryFrame m #[(.ref pr1)] 2)) t := fun t k => castTop (ef_8 m pr1) k
  obtain ⟨T1, X1, e1, st1⟩ := instNo X0 hx hZ hown (own_W hw 58 rfl) e0 E_pr1 (own_NSno (own_W hw 59 rfl) (own_W hw 175 rfl) (NS.step (own_W hw 59 rfl) (NS.step (own_W hw 60 rfl) (NS.step (own_W hw 61 rfl) (own_NSroot (own_W hw 62 rfl) (own_W hw 175 rfl) (by decide)) (by decide)) (by decide)) (by decide)) (by decide)) (g := (mkF m 1 #[vr pr1, .unset] [(.ref pr1)])) rfl rfl (hb hby d8_1)
  obtain ⟨T2, X2, e2, st2⟩ := instNo X1 hx hZ hown (own_W hw 63 rfl) e1 E_pr1 (own_NSno (own_W hw 59 rfl) (own_W hw 245 rfl) (NS.step (own_W hw 59 rfl) (NS.step (own_W hw 60 rfl) (NS.step (own_W hw 61 rfl) (own_NSroot (own_W hw 62 rfl) (own_W hw 245 rfl) (by decide)) (by decide)) (by decide)) (by decide)) (by decide)) (g := (mkF m 8 #[vr pr1, .unset] [(.ref pr1)])) rfl rfl (hb hby d8_8)
  obtain ⟨cq3, kq3, q3a, q3b, q3c⟩ := isOf hZ e2 E_pr1
  obtain ⟨_, _, ⟨T3, L3, k3, n3⟩, -, X3, ⟨Lc3, hQ3, l3, y3, z3⟩, st3⟩ := X2.interfaceBack hx (xi := mN23) (y := mN8) hown (mvT hZ (own_W hw 64 rfl)) (mvT hZ (own_W hw 65 rfl)) (mvT hZ (own_W hw 66 rfl)) (mvT hZ (own_W hw 67 rfl)) (mvT hZ (own_W hw 68 rfl)) (mvT hZ (own_W hw 69 rfl)) (mvT hZ (own_W hw 70 rfl)) (mvT hZ (own_W hw 71 rfl)) (by decide) (backOf (W := 0) (rm9_0 l Z a0 hw [] pr1 h0 n0 Z0 O0 F_size_pr1) hZ (own_W hw 72 rfl) (own_W hw 9 rfl) (by decide) (by decide)) q3a q3b q3c (g := (mkF m 32 #[vr pr1, .unset] [(.ref pr1)])) rfl (by rw [hml]; rfl) (Steps.refl _) (argsL := []) (rest := []) (lenOf pd_3 rfl) rfl (by show 2 * 0 + _ ≤ _; exact Nat.le_of_eq rfl) (hb hby d8_32) (fun _ _ => ⟨rfl, e2, (by decide : 0 + 0 ≤ _), (by decide : 0 + 0 ≤ _)⟩)
  dsimp only [Pt.U, Pt.locs, Pt.cells, Pt.slots] at X3 l3 y3 z3 st3 hQ3
  subst l3 y3 z3
  obtain ⟨rfl, N3q, eq3⟩ := hQ3
  have N3 := Fr.app N0 N3q
  obtain ⟨_, _, ⟨T4, L4, k4, n4⟩, -, X4, ⟨Lc4, hQ4, l4, y4, z4⟩, st4⟩ := Jvm.LawKit.callS X3 hx (y := mN9) hown (mvT hZ (own_W hw 75 rfl)) (mvT hZ (own_W hw 76 rfl)) (mvT hZ (own_W hw 52 rfl)) (mvT hZ (own_W hw 77 rfl)) (by decide) (backOf (W := 0) (rm10 l Z a0 hw [] w_EMPTY_LIST h0 n0 Z0 O0 S_EMPTY_LIST) hZ (own_W hw 77 rfl) (own_W hw 52 rfl) (by decide) (by decide)) (g := (mkF m 40 #[vr pr1, .unset] [])) rfl (by rw [hml]; rfl) (argsL := []) (rest := []) (lenOf pd_4 rfl) rfl (by show 2 * 0 + _ ≤ _; exact Nat.le_of_eq rfl) (hb hby d8_40) (fun _ _ => ⟨rfl, eq3, (by decide : 0 + 0 ≤ _), (by decide : 0 + 0 ≤ _)⟩)
  dsimp only [Pt.U, Pt.locs, Pt.cells, Pt.slots] at X4 l4 y4 z4 st4 hQ4
  subst l4 y4 z4
  obtain ⟨rfl, N4q, eq4⟩ := hQ4
  have N4 := Fr.app N3 N4q
  obtain ⟨fs, hr, hrun, hended, hW, hsame⟩ := X4.leave (v := some (.ref w_EMPTY_LIST)) (fun h => by rw [Bd.returns] at h; cases h) (BodyLoose.notSynchronized Bd)
  refine ⟨_, _, pre0 _ ?_, hrun, hended, _, _, rfl, ?_, ⟨_, rfl⟩, hW, hsame.mono (by decide) (by decide)⟩
  · show Stp p e below s₁ m 0 #[vr pr1, .unset] [] _
    refine XS.aloadN X0.here hx rfl (hb hby d8_0) rfl rfl ?_
    refine st1 _ ?_
    show Stp p e below T1 m 4 #[vr pr1, .unset] [(.int 0)] _
    refine XS.ifNo X1.here hx rfl (hb hby d8_4) rfl ((if0 _ _).trans (teq (rfl : (0 : Int32) = (0 : Int32))).2) ?_
    show Stp p e below T1 m 7 #[vr pr1, .unset] [] _
    refine XS.aloadN X1.here hx rfl (hb hby d8_7) rfl rfl ?_
    refine st2 _ ?_
    show Stp p e below T2 m 11 #[vr pr1, .unset] [(.int 0)] _
    refine XS.ifYes X2.here hx rfl (pc0 := 11) (pc' := 31) rfl (hb hby d8_11) rfl ((if0 _ _).trans (teq (rfl : (0 : Int32) = (0 : Int32))).1) (by decide) (by decide) ?_
    show Stp p e below T2 m 31 #[vr pr1, .unset] [] _
    refine XS.aloadN X2.here hx rfl (hb hby d8_31) rfl rfl ?_
    refine st3.trans ?_
    show Stp p e below T3 m 37 #[vr pr1, .unset] [(.int 1)] _
    refine XS.ifNo X3.here hx rfl (hb hby d8_37) rfl ((if0 _ _).trans (feq (by decide : ¬ ((1 : Int32) = (0 : Int32)))).1) ?_
    show Stp p e below T3 m 40 #[vr pr1, .unset] [] _
    refine st4 _ ?_
    show Stp p e below T4 m 43 #[vr pr1, .unset] [(.ref w_EMPTY_LIST)] _
    jvm_step X4.here [X4.here.top, hx, (hb hby d8_43), X4.method', Bd.returns, Value.isRef, FieldType.isReference]
    first | (intro acts; rw [hr _ acts rfl rfl rfl]) | rw [hr _ _ rfl rfl rfl]
    exact Steps.refl _
  · show Q8_0 Z pr1 w_EMPTY_LIST h0 n0 _ T4.heap _
    rw [eq4]
    exact ⟨rfl, N4, rfl⟩
theorem d8_44 : decode jdk_56_method_3_code 44 = .ok (.aload_n 0, 1) := by decide +kernel
theorem d8_45 : decode jdk_56_method_3_code 45 = .ok (.invokeinterface 30 1, 5) := by decide +kernel
theorem d8_50 : decode jdk_56_method_3_code 50 = .ok (.invokestatic 34, 3) := by decide +kernel
theorem d8_53 : decode jdk_56_method_3_code 53 = .ok (.areturn, 1) := by decide +kernel
def Q8_1 (Z : State) (pr1 : Addr) (w_mir : Addr) (w_arr : Addr) (kk_w_arr : ClassId) (c0_w_arr : Addr) (c1_w_arr : Value) (c2_w_arr : Value) (c3_w_arr : Value) (c4_w_arr : Value) (c5_w_arr : Value) (c6_w_arr : Value) (c7_w_arr : Value) (c8_w_arr : Value) (c9_w_arr : Value) (w_EMPTY : Addr) (h0 : Heap) (n0 : Nat) (v : Option Value) (h : Heap) (L : List Loc) : Prop := ∃ b6 : Addr, v = some (.ref b6) ∧ Fr n0 L ∧ Keep h0 h [] ∧ h0.size ≤ b6 ∧ Exa Z h b6 "java/util/ImmutableCollections$List12" ∧ Fld Z h b6 "java/util/ImmutableCollections$List12" "e0" "Ljava/lang/Object;" (.ref c0_w_arr) ∧ Fld Z h b6 "java/util/ImmutableCollections$List12" "e1" "Ljava/lang/Object;" (.ref w_EMPTY)
set_option maxRecDepth 65536 in
set_option maxHeartbeats 40000000 in
theorem rm8_1 (l : Launch) (Z : State) (a0 : Array Value) (hw : ∀ d ∈ tables_1, d.before a0 Z = true) (ws : List Jvm.Cond) (pr1 : Addr) (w_mir : Addr) (w_arr : Addr) (kk_w_arr : ClassId) (c0_w_arr : Addr) (c1_w_arr : Value) (c2_w_arr : Value) (c3_w_arr : Value) (c4_w_arr : Value) (c5_w_arr : Value) (c6_w_arr : Value) (c7_w_arr : Value) (c8_w_arr : Value) (c9_w_arr : Value) (w_EMPTY : Addr) (h0 : Heap) (n0 : Nat) (Z0 : n0 ≤ h0.size) (O0 : Old Z n0 h0) (M_mir : Mir Z "[Ljava/lang/Object;" w_mir) (E_pr1 : Exa Z h0 pr1 "java/util/ArrayList") (F_elementData_pr1 : Fld Z h0 pr1 "java/util/ArrayList" "elementData" "[Ljava/lang/Object;" (.ref w_arr)) (F_size_pr1 : Fld Z h0 pr1 "java/util/ArrayList" "size" "I" (.int 1)) (E_w_arr : Exa Z h0 w_arr "[Ljava/lang/Object;") (V_w_arr : Arv Z h0 w_arr kk_w_arr (.object "java/lang/Object") (10 : Int32) [(.ref c0_w_arr), c1_w_arr, c2_w_arr, c3_w_arr, c4_w_arr, c5_w_arr, c6_w_arr, c7_w_arr, c8_w_arr, c9_w_arr] .null) (E_c0_w_arr : Exa Z h0 c0_w_arr "com/example/tyche/tyche/model/jani/Expression$Operation") (S_EMPTY : Sta Z Z.heap "java/util/ImmutableCollections" "EMPTY" "Ljava/lang/Object;" (.ref w_EMPTY)) :
    MetFree l mN22 (head1 (Jvm.Cond.code mN22 jdk_56_method_3_code 2 (some (.object "java/util/List")) :: ws) ({ frames := 6, cells := 2, slots := 3, locals := 75 } : Room)) (fun a U => a = #[(.ref pr1)] ∧ Z.Warmed39 U.vm ∧ U.heap = h0) (fun _ _ _ _ _ => True) (fun _ U o U' => ∃ v L, o = .returned v ∧ Q8_1 Z pr1 w_mir w_arr kk_w_arr c0_w_arr c1_w_arr c2_w_arr c3_w_arr c4_w_arr c5_w_arr c6_w_arr c7_w_arr c8_w_arr c9_w_arr w_EMPTY h0 n0 v U'.heap L ∧ FrameEnd U o U' L ({ frames := 6, cells := 2, slots := 3, locals := 75 } : Room).cells ({ frames := 6, cells := 2, slots := 3, locals := 75 } : Room).slots) := by
  refine MetFree.of_bodySF (plainFor_of_name pn_8) hisR ?_
  intro p e s m args below meth c s₁ Bd hml0 hP hK
  obtain ⟨rfl, hZ, hh⟩ := hP
  have hx := Bd.exec
  have hby := Bd.bytes
  have hml : c.maxLocals = 2 := hml0
  have hown : s.vm.findClass "java/util/ImmutableCollections" = some m.cls := findClass_of_methodNamed Bd.named
  have hnm := (name_of_methodNamed Bd.named Bd.method).1
  have X0 : Stand p l e ({ frames := 6, cells := 2, slots := 3, locals := 75 } : Room) s m #[(.ref pr1)] below meth c s₁ [] 0 0 := Stand.of_body Bd
  have e0 : s₁.heap = h0 := by rw [← hh, Bd.state]; rfl
  have N0 := Fr.nil n0
  have pre0 : ∀ t, Steps p.tables e below (s₁.setTop (mkF m 0 #[vr pr1, .unset] [])) t → Steps p.tables e below (s₁.setTop (entryFrame m #[(.ref pr1)] 2)) t := fun t k => castTop (ef_8 m pr1) k
  obtain ⟨T1, X1, e1, st1⟩ := instNo X0 hx hZ hown (own_W hw 58 rfl) e0 E_pr1 (own_NSno (own_W hw 59 rfl) (own_W hw 175 rfl) (NS.step (own_W hw 59 rfl) (NS.step (own_W hw 60 rfl) (NS.step (own_W hw 61 rfl) (own_NSroot (own_W hw 62 rfl) (own_W hw 175 rfl) (by decide)) (by decide)) (by decide)) (by decide)) (by decide)) (g := (mkF m 1 #[vr pr1, .unset] [(.ref pr1)])) rfl rfl (hb hby d8_1)
  obtain ⟨T2, X2, e2, st2⟩ := instNo X1 hx hZ hown (own_W hw 63 rfl) e1 E_pr1 (own_NSno (own_W hw 59 rfl) (own_W hw 245 rfl) (NS.step (own_W hw 59 rfl) (NS.step (own_W hw 60 rfl) (NS.step (own_W hw 61 rfl) (own_NSroot (own_W hw 62 rfl) (own_W hw 245 rfl) (by decide)) (by decide)) (by decide)) (by decide)) (by decide)) (g := (mkF m 8 #[vr pr1, .unset] [(.ref pr1)])) rfl rfl (hb hby d8_8)
  obtain ⟨cq3, kq3, q3a, q3b, q3c⟩ := isOf hZ e2 E_pr1
  obtain ⟨_, _, ⟨T3, L3, k3, n3⟩, -, X3, ⟨Lc3, hQ3, l3, y3, z3⟩, st3⟩ := X2.interfaceBack hx (xi := mN23) (y := mN8) hown (mvT hZ (own_W hw 64 rfl)) (mvT hZ (own_W hw 65 rfl)) (mvT hZ (own_W hw 66 rfl)) (mvT hZ (own_W hw 67 rfl)) (mvT hZ (own_W hw 68 rfl)) (mvT hZ (own_W hw 69 rfl)) (mvT hZ (own_W hw 70 rfl)) (mvT hZ (own_W hw 71 rfl)) (by decide) (backOf (W := 0) (rm9_1 l Z a0 hw [] pr1 h0 n0 Z0 O0 F_size_pr1) hZ (own_W hw 72 rfl) (own_W hw 9 rfl) (by decide) (by decide)) q3a q3b q3c (g := (mkF m 32 #[vr pr1, .unset] [(.ref pr1)])) rfl (by rw [hml]; rfl) (Steps.refl _) (argsL := []) (rest := []) (lenOf pd_3 rfl) rfl (by show 2 * 0 + _ ≤ _; exact Nat.le_of_eq rfl) (hb hby d8_32) (fun _ _ => ⟨rfl, e2, (by decide : 0 + 0 ≤ _), (by decide : 0 + 0 ≤ _)⟩)
  dsimp only [Pt.U, Pt.locs, Pt.cells, Pt.slots] at X3 l3 y3 z3 st3 hQ3
  subst l3 y3 z3
  obtain ⟨rfl, N3q, eq3⟩ := hQ3
  have N3 := Fr.app N0 N3q
  obtain ⟨cq4, kq4, q4a, q4b, q4c⟩ := isOf hZ eq3 E_pr1
  obtain ⟨_, _, ⟨T4, L4, k4, n4⟩, -, X4, ⟨Lc4, hQ4, l4, y4, z4⟩, st4⟩ := X3.interfaceBack hx (xi := mN24) (y := mN13) hown (mvT hZ (own_W hw 141 rfl)) (mvT hZ (own_W hw 142 rfl)) (mvT hZ (own_W hw 143 rfl)) (mvT hZ (own_W hw 144 rfl)) (mvT hZ (own_W hw 145 rfl)) (mvT hZ (own_W hw 146 rfl)) (mvT hZ (own_W hw 147 rfl)) (mvT hZ (own_W hw 71 rfl)) (by decide) (backOf (W := 0) (rm20_1 l Z a0 hw [] pr1 w_mir w_arr kk_w_arr c0_w_arr c1_w_arr c2_w_arr c3_w_arr c4_w_arr c5_w_arr c6_w_arr c7_w_arr c8_w_arr c9_w_arr h0 n0 Z0 O0 M_mir F_elementData_pr1 F_size_pr1 E_w_arr V_w_arr E_c0_w_arr) hZ (own_W hw 148 rfl) (own_W hw 9 rfl) (by decide) (by decide)) q4a q4b q4c (g := (mkF m 45 #[vr pr1, .unset] [(.ref pr1)])) rfl (by rw [hml]; rfl) (Steps.refl _) (argsL := []) (rest := []) (lenOf pd_7 rfl) rfl (by show 2 * 0 + _ ≤ _; exact Nat.le_of_eq rfl) (hb hby d8_45) (fun _ _ => ⟨rfl, eq3, (by decide : 0 + 1 ≤ _), (by decide : 0 + 1 ≤ _)⟩)
  dsimp only [Pt.U, Pt.locs, Pt.cells, Pt.slots] at X4 l4 y4 z4 st4 hQ4
  subst l4 y4 z4
  obtain ⟨b4, b4_1, rfl, N4q, K4, qf4_0, qf4_1, qf4_2⟩ := hQ4
  have N4 := Fr.app N3 N4q
  have f5 := E_c0_w_arr.keep K4
  have z7 := Nat.le_trans Z0 K4.1
  have o8 := O0.keep K4 all0
  obtain ⟨_, _, ⟨T6, L6, k6, n6⟩, -, X6, ⟨Lc6, hQ6, l6, y6, z6⟩, st6⟩ := Jvm.LawKit.callS X4 hx (y := mN21) hown (mvT hZ (own_W hw 171 rfl)) (mvT hZ (own_W hw 172 rfl)) (mvT hZ (own_W hw 52 rfl)) (mvT hZ (own_W hw 173 rfl)) (by decide) (backOf (W := 0) (rm24_1 l Z a0 hw [] b4 b4_1 c0_w_arr w_EMPTY T4.heap n0 z7 o8 qf4_1 f5 S_EMPTY) hZ (own_W hw 173 rfl) (own_W hw 52 rfl) (by decide) (by decide)) (g := (mkF m 50 #[vr pr1, .unset] [(.ref b4)])) rfl (by rw [hml]; rfl) (argsL := [(.ref b4)]) (rest := []) (lenOf pd_18 rfl) rfl (by show 2 * 0 + _ ≤ _; exact Nat.le_of_eq rfl) (hb hby d8_50) (fun _ _ => ⟨rfl, rfl, (by decide : 1 + 1 ≤ _), (by decide : 1 + 2 ≤ _)⟩)
  dsimp only [Pt.U, Pt.locs, Pt.cells, Pt.slots] at X6 l6 y6 z6 st6 hQ6
  subst l6 y6 z6
  obtain ⟨b6, rfl, N6q, K6, qf6_0, qf6_1, qf6_2, qf6_3⟩ := hQ6
  have N6 := Fr.app N4 N6q
  have k9 : Keep h0 T4.heap [] := (Keep.refl h0 []).trans K4 all0
  have k10 : Keep h0 T6.heap [] := k9.trans K6 all0
  obtain ⟨fs, hr, hrun, hended, hW, hsame⟩ := X6.leave (v := some (.ref b6)) (fun h => by rw [Bd.returns] at h; cases h) (BodyLoose.notSynchronized Bd)
  refine ⟨_, _, pre0 _ ?_, hrun, hended, _, _, rfl, ?_, ⟨_, rfl⟩, hW, hsame.mono (by decide) (by decide)⟩
  · show Stp p e below s₁ m 0 #[vr pr1, .unset] [] _
    refine XS.aloadN X0.here hx rfl (hb hby d8_0) rfl rfl ?_
    refine st1 _ ?_
    show Stp p e below T1 m 4 #[vr pr1, .unset] [(.int 0)] _
    refine XS.ifNo X1.here hx rfl (hb hby d8_4) rfl ((if0 _ _).trans (teq (rfl : (0 : Int32) = (0 : Int32))).2) ?_
    show Stp p e below T1 m 7 #[vr pr1, .unset] [] _
    refine XS.aloadN X1.here hx rfl (hb hby d8_7) rfl rfl ?_
    refine st2 _ ?_
    show Stp p e below T2 m 11 #[vr pr1, .unset] [(.int 0)] _
    refine XS.ifYes X2.here hx rfl (pc0 := 11) (pc' := 31) rfl (hb hby d8_11) rfl ((if0 _ _).trans (teq (rfl : (0 : Int32) = (0 : Int32))).1) (by decide) (by decide) ?_
    show Stp p e below T2 m 31 #[vr pr1, .unset] [] _
    refine XS.aloadN X2.here hx rfl (hb hby d8_31) rfl rfl ?_
    refine st3.trans ?_
    show Stp p e below T3 m 37 #[vr pr1, .unset] [(.int 0)] _
    refine XS.ifYes X3.here hx rfl (pc0 := 37) (pc' := 44) rfl (hb hby d8_37) rfl ((if0 _ _).trans (teq (rfl : (0 : Int32) = (0 : Int32))).1) (by decide) (by decide) ?_
    show Stp p e below T3 m 44 #[vr pr1, .unset] [] _
    refine XS.aloadN X3.here hx rfl (hb hby d8_44) rfl rfl ?_
    refine st4.trans ?_
    show Stp p e below T4 m 50 #[vr pr1, .unset] [(.ref b4)] _
    refine st6 _ ?_
    show Stp p e below T6 m 53 #[vr pr1, .unset] [(.ref b6)] _
    jvm_step X6.here [X6.here.top, hx, (hb hby d8_53), X6.method', Bd.returns, Value.isRef, FieldType.isReference]
    first | (intro acts; rw [hr _ acts rfl rfl rfl]) | rw [hr _ _ rfl rfl rfl]
    exact Steps.refl _
  · show Q8_1 Z pr1 w_mir w_arr kk_w_arr c0_w_arr c1_w_arr c2_w_arr c3_w_arr c4_w_arr c5_w_arr c6_w_arr c7_w_arr c8_w_arr c9_w_arr w_EMPTY h0 n0 _ T6.heap _
    exact ⟨b6, rfl, N6, k10, (Nat.le_trans k9.1 qf6_0), qf6_1, qf6_2, qf6_3⟩
def Q8_2 (Z : State) (pr1 : Addr) (w_mir : Addr) (w_arr : Addr) (kk_w_arr : ClassId) (c0_w_arr : Addr) (c1_w_arr : Addr) (c2_w_arr : Value) (c3_w_arr : Value) (c4_w_arr : Value) (c5_w_arr : Value) (c6_w_arr : Value) (c7_w_arr : Value) (c8_w_arr : Value) (c9_w_arr : Value) (h0 : Heap) (n0 : Nat) (v : Option Value) (h : Heap) (L : List Loc) : Prop := ∃ b7 : Addr, v = some (.ref b7) ∧ Fr n0 L ∧ Keep h0 h [] ∧ h0.size ≤ b7 ∧ Exa Z h b7 "java/util/ImmutableCollections$List12" ∧ Fld Z h b7 "java/util/ImmutableCollections$List12" "e0" "Ljava/lang/Object;" (.ref c0_w_arr) ∧ Fld Z h b7 "java/util/ImmutableCollections$List12" "e1" "Ljava/lang/Object;" (.ref c1_w_arr)
set_option maxRecDepth 65536 in
set_option maxHeartbeats 40000000 in
theorem rm8_2 (l : Launch) (Z : State) (a0 : Array Value) (hw : ∀ d ∈ tables_1, d.before a0 Z = true) (ws : List Jvm.Cond) (pr1 : Addr) (w_mir : Addr) (w_arr : Addr) (kk_w_arr : ClassId) (c0_w_arr : Addr) (c1_w_arr : Addr) (c2_w_arr : Value) (c3_w_arr : Value) (c4_w_arr : Value) (c5_w_arr : Value) (c6_w_arr : Value) (c7_w_arr : Value) (c8_w_arr : Value) (c9_w_arr : Value) (h0 : Heap) (n0 : Nat) (Z0 : n0 ≤ h0.size) (O0 : Old Z n0 h0) (M_mir : Mir Z "[Ljava/lang/Object;" w_mir) (E_pr1 : Exa Z h0 pr1 "java/util/ArrayList") (F_elementData_pr1 : Fld Z h0 pr1 "java/util/ArrayList" "elementData" "[Ljava/lang/Object;" (.ref w_arr)) (F_size_pr1 : Fld Z h0 pr1 "java/util/ArrayList" "size" "I" (.int 2)) (E_w_arr : Exa Z h0 w_arr "[Ljava/lang/Object;") (V_w_arr : Arv Z h0 w_arr kk_w_arr (.object "java/lang/Object") (10 : Int32) [(.ref c0_w_arr), (.ref c1_w_arr), c2_w_arr, c3_w_arr, c4_w_arr, c5_w_arr, c6_w_arr, c7_w_arr, c8_w_arr, c9_w_arr] .null) (E_c0_w_arr : Exa Z h0 c0_w_arr "com/example/tyche/tyche/model/jani/Expression$Operation") (E_c1_w_arr : Exa Z h0 c1_w_arr "com/example/tyche/tyche/model/jani/Expression$Operation") :
    MetFree l mN22 (head1 (Jvm.Cond.code mN22 jdk_56_method_3_code 2 (some (.object "java/util/List")) :: ws) ({ frames := 6, cells := 2, slots := 4, locals := 76 } : Room)) (fun a U => a = #[(.ref pr1)] ∧ Z.Warmed39 U.vm ∧ U.heap = h0) (fun _ _ _ _ _ => True) (fun _ U o U' => ∃ v L, o = .returned v ∧ Q8_2 Z pr1 w_mir w_arr kk_w_arr c0_w_arr c1_w_arr c2_w_arr c3_w_arr c4_w_arr c5_w_arr c6_w_arr c7_w_arr c8_w_arr c9_w_arr h0 n0 v U'.heap L ∧ FrameEnd U o U' L ({ frames := 6, cells := 2, slots := 4, locals := 76 } : Room).cells ({ frames := 6, cells := 2, slots := 4, locals := 76 } : Room).slots) := by
  refine MetFree.of_bodySF (plainFor_of_name pn_8) hisR ?_
  intro p e s m args below meth c s₁ Bd hml0 hP hK
  obtain ⟨rfl, hZ, hh⟩ := hP
  have hx := Bd.exec
  have hby := Bd.bytes
  have hml : c.maxLocals = 2 := hml0
  have hown : s.vm.findClass "java/util/ImmutableCollections" = some m.cls := findClass_of_methodNamed Bd.named
  have hnm := (name_of_methodNamed Bd.named Bd.method).1
  have X0 : Stand p l e ({ frames := 6, cells := 2, slots := 4, locals := 76 } : Room) s m #[(.ref pr1)] below meth c s₁ [] 0 0 := Stand.of_body Bd
  have e0 : s₁.heap = h0 := by rw [← hh, Bd.state]; rfl
  have N0 := Fr.nil n0
  have pre0 : ∀ t, Steps p.tables e below (s₁.setTop (mkF m 0 #[vr pr1, .unset] [])) t → Steps p.tables e below (s₁.setTop (entryFrame m #[(.ref pr1)] 2)) t := fun t k => castTop (ef_8 m pr1) k
  obtain ⟨T1, X1, e1, st1⟩ := instNo X0 hx hZ hown (own_W hw 58 rfl) e0 E_pr1 (own_NSno (own_W hw 59 rfl) (own_W hw 175 rfl) (NS.step (own_W hw 59 rfl) (NS.step (own_W hw 60 rfl) (NS.step (own_W hw 61 rfl) (own_NSroot (own_W hw 62 rfl) (own_W hw 175 rfl) (by decide)) (by decide)) (by decide)) (by decide)) (by decide)) (g := (mkF m 1 #[vr pr1, .unset] [(.ref pr1)])) rfl rfl (hb hby d8_1)
  obtain ⟨T2, X2, e2, st2⟩ := instNo X1 hx hZ hown (own_W hw 63 rfl) e1 E_pr1 (own_NSno (own_W hw 59 rfl) (own_W hw 245 rfl) (NS.step (own_W hw 59 rfl) (NS.step (own_W hw 60 rfl) (NS.step (own_W hw 61 rfl) (own_NSroot (own_W hw 62 rfl) (own_W hw 245 rfl) (by decide)) (by decide)) (by decide)) (by decide)) (by decide)) (g := (mkF m 8 #[vr pr1, .unset] [(.ref pr1)])) rfl rfl (hb hby d8_8)
  obtain ⟨cq3, kq3, q3a, q3b, q3c⟩ := isOf hZ e2 E_pr1
  obtain ⟨_, _, ⟨T3, L3, k3, n3⟩, -, X3, ⟨Lc3, hQ3, l3, y3, z3⟩, st3⟩ := X2.interfaceBack hx (xi := mN23) (y := mN8) hown (mvT hZ (own_W hw 64 rfl)) (mvT hZ (own_W hw 65 rfl)) (mvT hZ (own_W hw 66 rfl)) (mvT hZ (own_W hw 67 rfl)) (mvT hZ (own_W hw 68 rfl)) (mvT hZ (own_W hw 69 rfl)) (mvT hZ (own_W hw 70 rfl)) (mvT hZ (own_W hw 71 rfl)) (by decide) (backOf (W := 0) (rm9_2 l Z a0 hw [] pr1 h0 n0 Z0 O0 F_size_pr1) hZ (own_W hw 72 rfl) (own_W hw 9 rfl) (by decide) (by decide)) q3a q3b q3c (g := (mkF m 32 #[vr pr1, .unset] [(.ref pr1)])) rfl (by rw [hml]; rfl) (Steps.refl _) (argsL := []) (rest := []) (lenOf pd_3 rfl) rfl (by show 2 * 0 + _ ≤ _; exact Nat.le_of_eq rfl) (hb hby d8_32) (fun _ _ => ⟨rfl, e2, (by decide : 0 + 0 ≤ _), (by decide : 0 + 0 ≤ _)⟩)
  dsimp only [Pt.U, Pt.locs, Pt.cells, Pt.slots] at X3 l3 y3 z3 st3 hQ3
  subst l3 y3 z3
  obtain ⟨rfl, N3q, eq3⟩ := hQ3
  have N3 := Fr.app N0 N3q
  obtain ⟨cq4, kq4, q4a, q4b, q4c⟩ := isOf hZ eq3 E_pr1
  obtain ⟨_, _, ⟨T4, L4, k4, n4⟩, -, X4, ⟨Lc4, hQ4, l4, y4, z4⟩, st4⟩ := X3.interfaceBack hx (xi := mN24) (y := mN13) hown (mvT hZ (own_W hw 141 rfl)) (mvT hZ (own_W hw 142 rfl)) (mvT hZ (own_W hw 143 rfl)) (mvT hZ (own_W hw 144 rfl)) (mvT hZ (own_W hw 145 rfl)) (mvT hZ (own_W hw 146 rfl)) (mvT hZ (own_W hw 147 rfl)) (mvT hZ (own_W hw 71 rfl)) (by decide) (backOf (W := 0) (rm20_2 l Z a0 hw [] pr1 w_mir w_arr kk_w_arr c0_w_arr c1_w_arr c2_w_arr c3_w_arr c4_w_arr c5_w_arr c6_w_arr c7_w_arr c8_w_arr c9_w_arr h0 n0 Z0 O0 M_mir F_elementData_pr1 F_size_pr1 E_w_arr V_w_arr E_c0_w_arr E_c1_w_arr) hZ (own_W hw 148 rfl) (own_W hw 9 rfl) (by decide) (by decide)) q4a q4b q4c (g := (mkF m 45 #[vr pr1, .unset] [(.ref pr1)])) rfl (by rw [hml]; rfl) (Steps.refl _) (argsL := []) (rest := []) (lenOf pd_7 rfl) rfl (by show 2 * 0 + _ ≤ _; exact Nat.le_of_eq rfl) (hb hby d8_45) (fun _ _ => ⟨rfl, eq3, (by decide : 0 + 1 ≤ _), (by decide : 0 + 2 ≤ _)⟩)
  dsimp only [Pt.U, Pt.locs, Pt.cells, Pt.slots] at X4 l4 y4 z4 st4 hQ4
  subst l4 y4 z4
  obtain ⟨b4, b4_1, rfl, N4q, K4, qf4_0, qf4_1, qf4_2⟩ := hQ4
  have N4 := Fr.app N3 N4q
  have f5 := E_c0_w_arr.keep K4
  have f6 := E_c1_w_arr.keep K4
  have z8 := Nat.le_trans Z0 K4.1
  have o9 := O0.keep K4 all0
  obtain ⟨_, _, ⟨T7, L7, k7, n7⟩, -, X7, ⟨Lc7, hQ7, l7, y7, z7⟩, st7⟩ := Jvm.LawKit.callS X4 hx (y := mN21) hown (mvT hZ (own_W hw 171 rfl)) (mvT hZ (own_W hw 172 rfl)) (mvT hZ (own_W hw 52 rfl)) (mvT hZ (own_W hw 173 rfl)) (by decide) (backOf (W := 0) (rm24_2 l Z a0 hw [] b4 b4_1 c0_w_arr c1_w_arr T4.heap n0 z8 o9 qf4_1 f5 f6) hZ (own_W hw 173 rfl) (own_W hw 52 rfl) (by decide) (by decide)) (g := (mkF m 50 #[vr pr1, .unset] [(.ref b4)])) rfl (by rw [hml]; rfl) (argsL := [(.ref b4)]) (rest := []) (lenOf pd_18 rfl) rfl (by show 2 * 0 + _ ≤ _; exact Nat.le_of_eq rfl) (hb hby d8_50) (fun _ _ => ⟨rfl, rfl, (by decide : 1 + 1 ≤ _), (by decide : 2 + 2 ≤ _)⟩)
  dsimp only [Pt.U, Pt.locs, Pt.cells, Pt.slots] at X7 l7 y7 z7 st7 hQ7
  subst l7 y7 z7
  obtain ⟨b7, rfl, N7q, K7, qf7_0, qf7_1, qf7_2, qf7_3⟩ := hQ7
  have N7 := Fr.app N4 N7q
  have k10 : Keep h0 T4.heap [] := (Keep.refl h0 []).trans K4 all0
  have k11 : Keep h0 T7.heap [] := k10.trans K7 all0
  obtain ⟨fs, hr, hrun, hended, hW, hsame⟩ := X7.leave (v := some (.ref b7)) (fun h => by rw [Bd.returns] at h; cases h) (BodyLoose.notSynchronized Bd)
  refine ⟨_, _, pre0 _ ?_, hrun, hended, _, _, rfl, ?_, ⟨_, rfl⟩, hW, hsame.mono (by decide) (by decide)⟩
  · show Stp p e below s₁ m 0 #[vr pr1, .unset] [] _
    refine XS.aloadN X0.here hx rfl (hb hby d8_0) rfl rfl ?_
    refine st1 _ ?_
    show Stp p e below T1 m 4 #[vr pr1, .unset] [(.int 0)] _
    refine XS.ifNo X1.here hx rfl (hb hby d8_4) rfl ((if0 _ _).trans (teq (rfl : (0 : Int32) = (0 : Int32))).2) ?_
    show Stp p e below T1 m 7 #[vr pr1, .unset] [] _
    refine XS.aloadN X1.here hx rfl (hb hby d8_7) rfl rfl ?_
    refine st2 _ ?_
    show Stp p e below T2 m 11 #[vr pr1, .unset] [(.int 0)] _
    refine XS.ifYes X2.here hx rfl (pc0 := 11) (pc' := 31) rfl (hb hby d8_11) rfl ((if0 _ _).trans (teq (rfl : (0 : Int32) = (0 : Int32))).1) (by decide) (by decide) ?_
    show Stp p e below T2 m 31 #[vr pr1, .unset] [] _
    refine XS.aloadN X2.here hx rfl (hb hby d8_31) rfl rfl ?_
    refine st3.trans ?_
    show Stp p e below T3 m 37 #[vr pr1, .unset] [(.int 0)] _
    refine XS.ifYes X3.here hx rfl (pc0 := 37) (pc' := 44) rfl (hb hby d8_37) rfl ((if0 _ _).trans (teq (rfl : (0 : Int32) = (0 : Int32))).1) (by decide) (by decide) ?_
    show Stp p e below T3 m 44 #[vr pr1, .unset] [] _
    refine XS.aloadN X3.here hx rfl (hb hby d8_44) rfl rfl ?_
    refine st4.trans ?_
    show Stp p e below T4 m 50 #[vr pr1, .unset] [(.ref b4)] _
    refine st7 _ ?_
    show Stp p e below T7 m 53 #[vr pr1, .unset] [(.ref b7)] _
    jvm_step X7.here [X7.here.top, hx, (hb hby d8_53), X7.method', Bd.returns, Value.isRef, FieldType.isReference]
    first | (intro acts; rw [hr _ acts rfl rfl rfl]) | rw [hr _ _ rfl rfl rfl]
    exact Steps.refl _
  · show Q8_2 Z pr1 w_mir w_arr kk_w_arr c0_w_arr c1_w_arr c2_w_arr c3_w_arr c4_w_arr c5_w_arr c6_w_arr c7_w_arr c8_w_arr c9_w_arr h0 n0 _ T7.heap _
    exact ⟨b7, rfl, N7, k11, (Nat.le_trans k10.1 qf7_0), qf7_1, qf7_2, qf7_3⟩
def Q8_3 (Z : State) (pr1 : Addr) (w_mir : Addr) (w_arr : Addr) (kk_w_arr : ClassId) (c0_w_arr : Addr) (c1_w_arr : Addr) (c2_w_arr : Addr) (c3_w_arr : Value) (c4_w_arr : Value) (c5_w_arr : Value) (c6_w_arr : Value) (c7_w_arr : Value) (c8_w_arr : Value) (c9_w_arr : Value) (h0 : Heap) (n0 : Nat) (v : Option Value) (h : Heap) (L : List Loc) : Prop := ∃ b8 : Addr, ∃ b8_1 : Addr, ∃ b8_2 : ClassId, v = some (.ref b8) ∧ Fr n0 L ∧ Keep h0 h [] ∧ h0.size ≤ b8 ∧ Exa Z h b8 "java/util/ImmutableCollections$ListN" ∧ Fld Z h b8 "java/util/ImmutableCollections$ListN" "elements" "[Ljava/lang/Object;" (.ref b8_1) ∧ Fld Z h b8 "java/util/ImmutableCollections$ListN" "allowNulls" "Z" (.int 0) ∧ h0.size ≤ b8_1 ∧ Arv Z h b8_1 b8_2 (.object "java/lang/Object") (3 : Int32) [(.ref c0_w_arr), (.ref c1_w_arr), (.ref c2_w_arr)] .null ∧ Ovr Z b8_2 "java/lang/Object"
set_option maxRecDepth 65536 in
set_option maxHeartbeats 40000000 in
theorem rm8_3 (l : Launch) (Z : State) (a0 : Array Value) (hw : ∀ d ∈ tables_1, d.before a0 Z = true) (ws : List Jvm.Cond) (pr1 : Addr) (w_mir : Addr) (w_arr : Addr) (kk_w_arr : ClassId) (c0_w_arr : Addr) (c1_w_arr : Addr) (c2_w_arr : Addr) (c3_w_arr : Value) (c4_w_arr : Value) (c5_w_arr : Value) (c6_w_arr : Value) (c7_w_arr : Value) (c8_w_arr : Value) (c9_w_arr : Value) (h0 : Heap) (n0 : Nat) (Z0 : n0 ≤ h0.size) (O0 : Old Z n0 h0) (M_mir : Mir Z "[Ljava/lang/Object;" w_mir) (E_pr1 : Exa Z h0 pr1 "java/util/ArrayList") (F_elementData_pr1 : Fld Z h0 pr1 "java/util/ArrayList" "elementData" "[Ljava/lang/Object;" (.ref w_arr)) (F_size_pr1 : Fld Z h0 pr1 "java/util/ArrayList" "size" "I" (.int 3)) (E_w_arr : Exa Z h0 w_arr "[Ljava/lang/Object;") (V_w_arr : Arv Z h0 w_arr kk_w_arr (.object "java/lang/Object") (10 : Int32) [(.ref c0_w_arr), (.ref c1_w_arr), (.ref c2_w_arr), c3_w_arr, c4_w_arr, c5_w_arr, c6_w_arr, c7_w_arr, c8_w_arr, c9_w_arr] .null) (E_c0_w_arr : Exa Z h0 c0_w_arr "com/example/tyche/tyche/model/jani/Expression$Operation") (E_c1_w_arr : Exa Z h0 c1_w_arr "com/example/tyche/tyche/model/jani/Expression$Operation") (E_c2_w_arr : Exa Z h0 c2_w_arr "com/example/tyche/tyche/model/jani/Expression$Operation") :
    MetFree l mN22 (head1 (Jvm.Cond.code mN22 jdk_56_method_3_code 2 (some (.object "java/util/List")) :: ws) ({ frames := 7, cells := 3, slots := 8, locals := 90 } : Room)) (fun a U => a = #[(.ref pr1)] ∧ Z.Warmed39 U.vm ∧ U.heap = h0) (fun _ _ _ _ _ => True) (fun _ U o U' => ∃ v L, o = .returned v ∧ Q8_3 Z pr1 w_mir w_arr kk_w_arr c0_w_arr c1_w_arr c2_w_arr c3_w_arr c4_w_arr c5_w_arr c6_w_arr c7_w_arr c8_w_arr c9_w_arr h0 n0 v U'.heap L ∧ FrameEnd U o U' L ({ frames := 7, cells := 3, slots := 8, locals := 90 } : Room).cells ({ frames := 7, cells := 3, slots := 8, locals := 90 } : Room).slots) := by
  refine MetFree.of_bodySF (plainFor_of_name pn_8) hisR ?_
  intro p e s m args below meth c s₁ Bd hml0 hP hK
  obtain ⟨rfl, hZ, hh⟩ := hP
  have hx := Bd.exec
  have hby := Bd.bytes
  have hml : c.maxLocals = 2 := hml0
  have hown : s.vm.findClass "java/util/ImmutableCollections" = some m.cls := findClass_of_methodNamed Bd.named
  have hnm := (name_of_methodNamed Bd.named Bd.method).1
  have X0 : Stand p l e ({ frames := 7, cells := 3, slots := 8, locals := 90 } : Room) s m #[(.ref pr1)] below meth c s₁ [] 0 0 := Stand.of_body Bd
  have e0 : s₁.heap = h0 := by rw [← hh, Bd.state]; rfl
  have N0 := Fr.nil n0
  have pre0 : ∀ t, Steps p.tables e below (s₁.setTop (mkF m 0 #[vr pr1, .unset] [])) t → Steps p.tables e below (s₁.setTop (entryFrame m #[(.ref pr1)] 2)) t := fun t k => castTop (ef_8 m pr1) k
  obtain ⟨T1, X1, e1, st1⟩ := instNo X0 hx hZ hown (own_W hw 58 rfl) e0 E_pr1 (own_NSno (own_W hw 59 rfl) (own_W hw 175 rfl) (NS.step (own_W hw 59 rfl) (NS.step (own_W hw 60 rfl) (NS.step (own_W hw 61 rfl) (own_NSroot (own_W hw 62 rfl) (own_W hw 175 rfl) (by decide)) (by decide)) (by decide)) (by decide)) (by decide)) (g := (mkF m 1 #[vr pr1, .unset] [(.ref pr1)])) rfl rfl (hb hby d8_1)
  obtain ⟨T2, X2, e2, st2⟩ := instNo X1 hx hZ hown (own_W hw 63 rfl) e1 E_pr1 (own_NSno (own_W hw 59 rfl) (own_W hw 245 rfl) (NS.step (own_W hw 59 rfl) (NS.step (own_W hw 60 rfl) (NS.step (own_W hw 61 rfl) (own_NSroot (own_W hw 62 rfl) (own_W hw 245 rfl) (by decide)) (by decide)) (by decide)) (by decide)) (by decide)) (g := (mkF m 8 #[vr pr1, .unset] [(.ref pr1)])) rfl rfl (hb hby d8_8)
  obtain ⟨cq3, kq3, q3a, q3b, q3c⟩ := isOf hZ e2 E_pr1
  obtain ⟨_, _, ⟨T3, L3, k3, n3⟩, -, X3, ⟨Lc3, hQ3, l3, y3, z3⟩, st3⟩ := X2.interfaceBack hx (xi := mN23) (y := mN8) hown (mvT hZ (own_W hw 64 rfl)) (mvT hZ (own_W hw 65 rfl)) (mvT hZ (own_W hw 66 rfl)) (mvT hZ (own_W hw 67 rfl)) (mvT hZ (own_W hw 68 rfl)) (mvT hZ (own_W hw 69 rfl)) (mvT hZ (own_W hw 70 rfl)) (mvT hZ (own_W hw 71 rfl)) (by decide) (backOf (W := 0) (rm9_3 l Z a0 hw [] pr1 h0 n0 Z0 O0 F_size_pr1) hZ (own_W hw 72 rfl) (own_W hw 9 rfl) (by decide) (by decide)) q3a q3b q3c (g := (mkF m 32 #[vr pr1, .unset] [(.ref pr1)])) rfl (by rw [hml]; rfl) (Steps.refl _) (argsL := []) (rest := []) (lenOf pd_3 rfl) rfl (by show 2 * 0 + _ ≤ _; exact Nat.le_of_eq rfl) (hb hby d8_32) (fun _ _ => ⟨rfl, e2, (by decide : 0 + 0 ≤ _), (by decide : 0 + 0 ≤ _)⟩)
  dsimp only [Pt.U, Pt.locs, Pt.cells, Pt.slots] at X3 l3 y3 z3 st3 hQ3
  subst l3 y3 z3
  obtain ⟨rfl, N3q, eq3⟩ := hQ3
  have N3 := Fr.app N0 N3q
  obtain ⟨cq4, kq4, q4a, q4b, q4c⟩ := isOf hZ eq3 E_pr1
  obtain ⟨_, _, ⟨T4, L4, k4, n4⟩, -, X4, ⟨Lc4, hQ4, l4, y4, z4⟩, st4⟩ := X3.interfaceBack hx (xi := mN24) (y := mN13) hown (mvT hZ (own_W hw 141 rfl)) (mvT hZ (own_W hw 142 rfl)) (mvT hZ (own_W hw 143 rfl)) (mvT hZ (own_W hw 144 rfl)) (mvT hZ (own_W hw 145 rfl)) (mvT hZ (own_W hw 146 rfl)) (mvT hZ (own_W hw 147 rfl)) (mvT hZ (own_W hw 71 rfl)) (by decide) (backOf (W := 0) (rm20_3 l Z a0 hw [] pr1 w_mir w_arr kk_w_arr c0_w_arr c1_w_arr c2_w_arr c3_w_arr c4_w_arr c5_w_arr c6_w_arr c7_w_arr c8_w_arr c9_w_arr h0 n0 Z0 O0 M_mir F_elementData_pr1 F_size_pr1 E_w_arr V_w_arr E_c0_w_arr E_c1_w_arr E_c2_w_arr) hZ (own_W hw 148 rfl) (own_W hw 9 rfl) (by decide) (by decide)) q4a q4b q4c (g := (mkF m 45 #[vr pr1, .unset] [(.ref pr1)])) rfl (by rw [hml]; rfl) (Steps.refl _) (argsL := []) (rest := []) (lenOf pd_7 rfl) rfl (by show 2 * 0 + _ ≤ _; exact Nat.le_of_eq rfl) (hb hby d8_45) (fun _ _ => ⟨rfl, eq3, (by decide : 0 + 1 ≤ _), (by decide : 0 + 3 ≤ _)⟩)
  dsimp only [Pt.U, Pt.locs, Pt.cells, Pt.slots] at X4 l4 y4 z4 st4 hQ4
  subst l4 y4 z4
  obtain ⟨b4, b4_1, rfl, N4q, K4, qf4_0, qf4_1, qf4_2⟩ := hQ4
  have N4 := Fr.app N3 N4q
  have f5 := E_c0_w_arr.keep K4
  have f6 := E_c1_w_arr.keep K4
  have f7 := E_c2_w_arr.keep K4
  have z9 := Nat.le_trans Z0 K4.1
  have o10 := O0.keep K4 all0
  obtain ⟨_, _, ⟨T8, L8, k8, n8⟩, -, X8, ⟨Lc8, hQ8, l8, y8, z8⟩, st8⟩ := Jvm.LawKit.callS X4 hx (y := mN21) hown (mvT hZ (own_W hw 171 rfl)) (mvT hZ (own_W hw 172 rfl)) (mvT hZ (own_W hw 52 rfl)) (mvT hZ (own_W hw 173 rfl)) (by decide) (backOf (W := 0) (rm24_3 l Z a0 hw [] b4 b4_1 c0_w_arr c1_w_arr c2_w_arr T4.heap n0 z9 o10 qf4_1 f5 f6 f7) hZ (own_W hw 173 rfl) (own_W hw 52 rfl) (by decide) (by decide)) (g := (mkF m 50 #[vr pr1, .unset] [(.ref b4)])) rfl (by rw [hml]; rfl) (argsL := [(.ref b4)]) (rest := []) (lenOf pd_18 rfl) rfl (by show 2 * 0 + _ ≤ _; exact Nat.le_of_eq rfl) (hb hby d8_50) (fun _ _ => ⟨rfl, rfl, (by decide : 1 + 2 ≤ _), (by decide : 3 + 5 ≤ _)⟩)
  dsimp only [Pt.U, Pt.locs, Pt.cells, Pt.slots] at X8 l8 y8 z8 st8 hQ8
  subst l8 y8 z8
  obtain ⟨b8, b8_1, b8_2, rfl, N8q, K8, qf8_0, qf8_1, qf8_2, qf8_3, qf8_4, qf8_5, qf8_6⟩ := hQ8
  have N8 := Fr.app N4 N8q
  have k11 : Keep h0 T4.heap [] := (Keep.refl h0 []).trans K4 all0
  have k12 : Keep h0 T8.heap [] := k11.trans K8 all0
  obtain ⟨fs, hr, hrun, hended, hW, hsame⟩ := X8.leave (v := some (.ref b8)) (fun h => by rw [Bd.returns] at h; cases h) (BodyLoose.notSynchronized Bd)
  refine ⟨_, _, pre0 _ ?_, hrun, hended, _, _, rfl, ?_, ⟨_, rfl⟩, hW, hsame.mono (by decide) (by decide)⟩
  · show Stp p e below s₁ m 0 #[vr pr1, .unset] [] _
    refine XS.aloadN X0.here hx rfl (hb hby d8_0) rfl rfl ?_
    refine st1 _ ?_
    show Stp p e below T1 m 4 #[vr pr1, .unset] [(.int 0)] _
    refine XS.ifNo X1.here hx rfl (hb hby d8_4) rfl ((if0 _ _).trans (teq (rfl : (0 : Int32) = (0 : Int32))).2) ?_
    show Stp p e below T1 m 7 #[vr pr1, .unset] [] _
    refine XS.aloadN X1.here hx rfl (hb hby d8_7) rfl rfl ?_
    refine st2 _ ?_
    show Stp p e below T2 m 11 #[vr pr1, .unset] [(.int 0)] _
    refine XS.ifYes X2.here hx rfl (pc0 := 11) (pc' := 31) rfl (hb hby d8_11) rfl ((if0 _ _).trans (teq (rfl : (0 : Int32) = (0 : Int32))).1) (by decide) (by decide) ?_
    show Stp p e below T2 m 31 #[vr pr1, .unset] [] _
    refine XS.aloadN X2.here hx rfl (hb hby d8_31) rfl rfl ?_
    refine st3.trans ?_
    show Stp p e below T3 m 37 #[vr pr1, .unset] [(.int 0)] _
    refine XS.ifYes X3.here hx rfl (pc0 := 37) (pc' := 44) rfl (hb hby d8_37) rfl ((if0 _ _).trans (teq (rfl : (0 : Int32) = (0 : Int32))).1) (by decide) (by decide) ?_
    show Stp p e below T3 m 44 #[vr pr1, .unset] [] _
    refine XS.aloadN X3.here hx rfl (hb hby d8_44) rfl rfl ?_
    refine st4.trans ?_
    show Stp p e below T4 m 50 #[vr pr1, .unset] [(.ref b4)] _
    refine st8 _ ?_
    show Stp p e below T8 m 53 #[vr pr1, .unset] [(.ref b8)] _
    jvm_step X8.here [X8.here.top, hx, (hb hby d8_53), X8.method', Bd.returns, Value.isRef, FieldType.isReference]
    first | (intro acts; rw [hr _ acts rfl rfl rfl]) | rw [hr _ _ rfl rfl rfl]
    exact Steps.refl _
  · show Q8_3 Z pr1 w_mir w_arr kk_w_arr c0_w_arr c1_w_arr c2_w_arr c3_w_arr c4_w_arr c5_w_arr c6_w_arr c7_w_arr c8_w_arr c9_w_arr h0 n0 _ T8.heap _
    exact ⟨b8, b8_1, b8_2, rfl, N8, k12, (Nat.le_trans k11.1 qf8_0), qf8_1, qf8_2, qf8_3, (Nat.le_trans k11.1 qf8_4), qf8_5, qf8_6⟩
theorem pd_2 : parseMethodDescriptor "(Ljava/util/Collection;)Ljava/util/List;" = some ⟨[(.object "java/util/Collection")], some (.object "java/util/List")⟩ := by decide +kernel
theorem d7_0 : decode jdk_40_method_48_code 0 = .ok (.aload_n 0, 1) := by decide +kernel
theorem d7_1 : decode jdk_40_method_48_code 1 = .ok (.invokestatic 112, 3) := by decide +kernel
theorem d7_4 : decode jdk_40_method_48_code 4 = .ok (.areturn, 1) := by decide +kernel
theorem pn_7 : plainName "java/util/List" = true := by first | (simp [plainName, overriddenIn]; done) | decide +kernel
theorem ef_7 (m : MethodId) (pr1 : Addr) : entryFrame m #[(.ref pr1)] 1 = mkF m 0 #[vr pr1] [] := by first | (simp [entryFrame, mkF, argsToLocals, Value.category]; done) | rfl
def Q7_0 (Z : State) (pr1 : Addr) (w_EMPTY_LIST : Addr) (h0 : Heap) (n0 : Nat) (v : Option Value) (h : Heap) (L : List Loc) : Prop := v = some (.ref w_EMPTY_LIST) ∧ Fr n0 L ∧ h = h0
set_option maxRecDepth 65536 in
set_option maxHeartbeats 40000000 in
theorem rm7_0 (l : Launch) (Z : State) (a0 : Array Value) (hw : ∀ d ∈ tables_1, d.before a0 Z = true) (ws : List Jvm.Cond) (pr1 : Addr) (w_EMPTY_LIST : Addr) (h0 : Heap) (n0 : Nat) (Z0 : n0 ≤ h0.size) (O0 : Old Z n0 h0) (E_pr1 : Exa Z h0 pr1 "java/util/ArrayList") (F_size_pr1 : Fld Z h0 pr1 "java/util/ArrayList" "size" "I" (.int 0)) (S_EMPTY_LIST : Sta Z Z.heap "java/util/ImmutableCollections" "EMPTY_LIST" "Ljava/util/ImmutableCollections$ListN;" (.ref w_EMPTY_LIST)) :
    MetFree l mN25 (head1 (Jvm.Cond.code mN25 jdk_40_method_48_code 1 (some (.object "java/util/List")) :: ws) ({ frames := 2, cells := 0, slots := 0, locals := 25 } : Room)) (fun a U => a = #[(.ref pr1)] ∧ Z.Warmed39 U.vm ∧ U.heap = h0) (fun _ _ _ _ _ => True) (fun _ U o U' => ∃ v L, o = .returned v ∧ Q7_0 Z pr1 w_EMPTY_LIST h0 n0 v U'.heap L ∧ FrameEnd U o U' L ({ frames := 2, cells := 0, slots := 0, locals := 25 } : Room).cells ({ frames := 2, cells := 0, slots := 0, locals := 25 } : Room).slots) := by
  refine MetFree.of_bodySF (plainFor_of_name pn_7) hisR ?_
  intro p e s m args below meth c s₁ Bd hml0 hP hK
  obtain ⟨rfl, hZ, hh⟩ := hP
  have hx := Bd.exec
  have hby := Bd.bytes
  have hml : c.maxLocals = 1 := hml0
  have hown : s.vm.findClass "java/util/List" = some m.cls := findClass_of_methodNamed Bd.named
  have hnm := (name_of_methodNamed Bd.named Bd.method).1
  have X0 : Stand p l e ({ frames := 2, cells := 0, slots := 0, locals := 25 } : Room) s m #[(.ref pr1)] below meth c s₁ [] 0 0 := Stand.of_body Bd
  have e0 : s₁.heap = h0 := by rw [← hh, Bd.state]; rfl
  have N0 := Fr.nil n0
  have pre0 : ∀ t, Steps p.tables e below (s₁.setTop (mkF m 0 #[vr pr1] [])) t → Steps p.tables e below (s₁.setTop (entryFrame m #[(.ref pr1)] 1)) t := fun t k => castTop (ef_7 m pr1) k
  obtain ⟨_, _, ⟨T1, L1, k1, n1⟩, -, X1, ⟨Lc1, hQ1, l1, y1, z1⟩, st1⟩ := Jvm.LawKit.callS X0 hx (y := mN22) hown (mvT hZ (own_W hw 54 rfl)) (mvT hZ (own_W hw 55 rfl)) (mvT hZ (own_W hw 56 rfl)) (mvT hZ (own_W hw 57 rfl)) (by decide) (backOf (W := 0) (rm8_0 l Z a0 hw [] pr1 w_EMPTY_LIST h0 n0 Z0 O0 E_pr1 F_size_pr1 S_EMPTY_LIST) hZ (own_W hw 57 rfl) (own_W hw 56 rfl) (by decide) (by decide)) (g := (mkF m 1 #[vr pr1] [(.ref pr1)])) rfl (by rw [hml]; rfl) (argsL := [(.ref pr1)]) (rest := []) (lenOf pd_2 rfl) rfl (by show 2 * 0 + _ ≤ _; exact Nat.le_of_eq rfl) (hb hby d7_1) (fun _ _ => ⟨rfl, e0, (by decide : 0 + 0 ≤ _), (by decide : 0 + 0 ≤ _)⟩)
  dsimp only [Pt.U, Pt.locs, Pt.cells, Pt.slots] at X1 l1 y1 z1 st1 hQ1
  subst l1 y1 z1
  obtain ⟨rfl, N1q, eq1⟩ := hQ1
  have N1 := Fr.app N0 N1q
  obtain ⟨fs, hr, hrun, hended, hW, hsame⟩ := X1.leave (v := some (.ref w_EMPTY_LIST)) (fun h => by rw [Bd.returns] at h; cases h) (BodyLoose.notSynchronized Bd)
  refine ⟨_, _, pre0 _ ?_, hrun, hended, _, _, rfl, ?_, ⟨_, rfl⟩, hW, hsame.mono (by decide) (by decide)⟩
  · show Stp p e below s₁ m 0 #[vr pr1] [] _
    refine XS.aloadN X0.here hx rfl (hb hby d7_0) rfl rfl ?_
    refine st1 _ ?_
    show Stp p e below T1 m 4 #[vr pr1] [(.ref w_EMPTY_LIST)] _
    jvm_step X1.here [X1.here.top, hx, (hb hby d7_4), X1.method', Bd.returns, Value.isRef, FieldType.isReference]
    first | (intro acts; rw [hr _ acts rfl rfl rfl]) | rw [hr _ _ rfl rfl rfl]
    exact Steps.refl _
  · show Q7_0 Z pr1 w_EMPTY_LIST h0 n0 _ T1.heap _
    rw [eq1]
    exact ⟨rfl, N1, rfl⟩
def Q7_1 (Z : State) (pr1 : Addr) (w_mir : Addr) (w_arr : Addr) (kk_w_arr : ClassId) (c0_w_arr : Addr) (c1_w_arr : Value) (c2_w_arr : Value) (c3_w_arr : Value) (c4_w_arr : Value) (c5_w_arr : Value) (c6_w_arr : Value) (c7_w_arr : Value) (c8_w_arr : Value) (c9_w_arr : Value) (w_EMPTY : Addr) (h0 : Heap) (n0 : Nat) (v : Option Value) (h : Heap) (L : List Loc) : Prop := ∃ b1 : Addr, v = some (.ref b1) ∧ Fr n0 L ∧ Keep h0 h [] ∧ h0.size ≤ b1 ∧ Exa Z h b1 "java/util/ImmutableCollections$List12" ∧ Fld Z h b1 "java/util/ImmutableCollections$List12" "e0" "Ljava/lang/Object;" (.ref c0_w_arr) ∧ Fld Z h b1 "java/util/ImmutableCollections$List12" "e1" "Ljava/lang/Object;" (.ref w_EMPTY)
set_option maxRecDepth 65536 in
set_option maxHeartbeats 40000000 in
theorem rm7_1 (l : Launch) (Z : State) (a0 : Array Value) (hw : ∀ d ∈ tables_1, d.before a0 Z = true) (ws : List Jvm.Cond) (pr1 : Addr) (w_mir : Addr) (w_arr : Addr) (kk_w_arr : ClassId) (c0_w_arr : Addr) (c1_w_arr : Value) (c2_w_arr : Value) (c3_w_arr : Value) (c4_w_arr : Value) (c5_w_arr : Value) (c6_w_arr : Value) (c7_w_arr : Value) (c8_w_arr : Value) (c9_w_arr : Value) (w_EMPTY : Addr) (h0 : Heap) (n0 : Nat) (Z0 : n0 ≤ h0.size) (O0 : Old Z n0 h0) (M_mir : Mir Z "[Ljava/lang/Object;" w_mir) (E_pr1 : Exa Z h0 pr1 "java/util/ArrayList") (F_elementData_pr1 : Fld Z h0 pr1 "java/util/ArrayList" "elementData" "[Ljava/lang/Object;" (.ref w_arr)) (F_size_pr1 : Fld Z h0 pr1 "java/util/ArrayList" "size" "I" (.int 1)) (E_w_arr : Exa Z h0 w_arr "[Ljava/lang/Object;") (V_w_arr : Arv Z h0 w_arr kk_w_arr (.object "java/lang/Object") (10 : Int32) [(.ref c0_w_arr), c1_w_arr, c2_w_arr, c3_w_arr, c4_w_arr, c5_w_arr, c6_w_arr, c7_w_arr, c8_w_arr, c9_w_arr] .null) (E_c0_w_arr : Exa Z h0 c0_w_arr "com/example/tyche/tyche/model/jani/Expression$Operation") (S_EMPTY : Sta Z Z.heap "java/util/ImmutableCollections" "EMPTY" "Ljava/lang/Object;" (.ref w_EMPTY)) :
    MetFree l mN25 (head1 (Jvm.Cond.code mN25 jdk_40_method_48_code 1 (some (.object "java/util/List")) :: ws) ({ frames := 7, cells := 2, slots := 3, locals := 88 } : Room)) (fun a U => a = #[(.ref pr1)] ∧ Z.Warmed39 U.vm ∧ U.heap = h0) (fun _ _ _ _ _ => True) (fun _ U o U' => ∃ v L, o = .returned v ∧ Q7_1 Z pr1 w_mir w_arr kk_w_arr c0_w_arr c1_w_arr c2_w_arr c3_w_arr c4_w_arr c5_w_arr c6_w_arr c7_w_arr c8_w_arr c9_w_arr w_EMPTY h0 n0 v U'.heap L ∧ FrameEnd U o U' L ({ frames := 7, cells := 2, slots := 3, locals := 88 } : Room).cells ({ frames := 7, cells := 2, slots := 3, locals := 88 } : Room).slots) := by
  refine MetFree.of_bodySF (plainFor_of_name pn_7) hisR ?_
  intro p e s m args below meth c s₁ Bd hml0 hP hK
  obtain ⟨rfl, hZ, hh⟩ := hP
  have hx := Bd.exec
  have hby := Bd.bytes
  have hml : c.maxLocals = 1 := hml0
  have hown : s.vm.findClass "java/util/List" = some m.cls := findClass_of_methodNamed Bd.named
  have hnm := (name_of_methodNamed Bd.named Bd.method).1
  have X0 : Stand p l e ({ frames := 7, cells := 2, slots := 3, locals := 88 } : Room) s m #[(.ref pr1)] below meth c s₁ [] 0 0 := Stand.of_body Bd
  have e0 : s₁.heap = h0 := by rw [← hh, Bd.state]; rfl
  have N0 := Fr.nil n0
  have pre0 : ∀ t, Steps p.tables e below (s₁.setTop (mkF m 0 #[vr pr1] [])) t → Steps p.tables e below (s₁.setTop (entryFrame m #[(.ref pr1)] 1)) t := fun t k => castTop (ef_7 m pr1) k
  obtain ⟨_, _, ⟨T1, L1, k1, n1⟩, -, X1, ⟨Lc1, hQ1, l1, y1, z1⟩, st1⟩ := Jvm.LawKit.callS X0 hx (y := mN22) hown (mvT hZ (own_W hw 54 rfl)) (mvT hZ (own_W hw 55 rfl)) (mvT hZ (own_W hw 56 rfl)) (mvT hZ (own_W hw 57 rfl)) (by decide) (backOf (W := 0) (rm8_1 l Z a0 hw [] pr1 w_mir w_arr kk_w_arr c0_w_arr c1_w_arr c2_w_arr c3_w_arr c4_w_arr c5_w_arr c6_w_arr c7_w_arr c8_w_arr c9_w_arr w_EMPTY h0 n0 Z0 O0 M_mir E_pr1 F_elementData_pr1 F_size_pr1 E_w_arr V_w_arr E_c0_w_arr S_EMPTY) hZ (own_W hw 57 rfl) (own_W hw 56 rfl) (by decide) (by decide)) (g := (mkF m 1 #[vr pr1] [(.ref pr1)])) rfl (by rw [hml]; rfl) (argsL := [(.ref pr1)]) (rest := []) (lenOf pd_2 rfl) rfl (by show 2 * 0 + _ ≤ _; exact Nat.le_of_eq rfl) (hb hby d7_1) (fun _ _ => ⟨rfl, e0, (by decide : 0 + 2 ≤ _), (by decide : 0 + 3 ≤ _)⟩)
  dsimp only [Pt.U, Pt.locs, Pt.cells, Pt.slots] at X1 l1 y1 z1 st1 hQ1
  subst l1 y1 z1
  obtain ⟨b1, rfl, N1q, K1, qf1_0, qf1_1, qf1_2, qf1_3⟩ := hQ1
  have N1 := Fr.app N0 N1q
  have k2 : Keep h0 T1.heap [] := (Keep.refl h0 []).trans K1 all0
  obtain ⟨fs, hr, hrun, hended, hW, hsame⟩ := X1.leave (v := some (.ref b1)) (fun h => by rw [Bd.returns] at h; cases h) (BodyLoose.notSynchronized Bd)
  refine ⟨_, _, pre0 _ ?_, hrun, hended, _, _, rfl, ?_, ⟨_, rfl⟩, hW, hsame.mono (by decide) (by decide)⟩
  · show Stp p e below s₁ m 0 #[vr pr1] [] _
    refine XS.aloadN X0.here hx rfl (hb hby d7_0) rfl rfl ?_
    refine st1 _ ?_
    show Stp p e below T1 m 4 #[vr pr1] [(.ref b1)] _
    jvm_step X1.here [X1.here.top, hx, (hb hby d7_4), X1.method', Bd.returns, Value.isRef, FieldType.isReference]
    first | (intro acts; rw [hr _ acts rfl rfl rfl]) | rw [hr _ _ rfl rfl rfl]
    exact Steps.refl _
  · show Q7_1 Z pr1 w_mir w_arr kk_w_arr c0_w_arr c1_w_arr c2_w_arr c3_w_arr c4_w_arr c5_w_arr c6_w_arr c7_w_arr c8_w_arr c9_w_arr w_EMPTY h0 n0 _ T1.heap _
    exact ⟨b1, rfl, N1, k2, (Nat.le_trans (Keep.refl h0 []).1 qf1_0), qf1_1, qf1_2, qf1_3⟩
def Q7_2 (Z : State) (pr1 : Addr) (w_mir : Addr) (w_arr : Addr) (kk_w_arr : ClassId) (c0_w_arr : Addr) (c1_w_arr : Addr) (c2_w_arr : Value) (c3_w_arr : Value) (c4_w_arr : Value) (c5_w_arr : Value) (c6_w_arr : Value) (c7_w_arr : Value) (c8_w_arr : Value) (c9_w_arr : Value) (h0 : Heap) (n0 : Nat) (v : Option Value) (h : Heap) (L : List Loc) : Prop := ∃ b1 : Addr, v = some (.ref b1) ∧ Fr n0 L ∧ Keep h0 h [] ∧ h0.size ≤ b1 ∧ Exa Z h b1 "java/util/ImmutableCollections$List12" ∧ Fld Z h b1 "java/util/ImmutableCollections$List12" "e0" "Ljava/lang/Object;" (.ref c0_w_arr) ∧ Fld Z h b1 "java/util/ImmutableCollections$List12" "e1" "Ljava/lang/Object;" (.ref c1_w_arr)
set_option maxRecDepth 65536 in
set_option maxHeartbeats 40000000 in
theorem rm7_2 (l : Launch) (Z : State) (a0 : Array Value) (hw : ∀ d ∈ tables_1, d.before a0 Z = true) (ws : List Jvm.Cond) (pr1 : Addr) (w_mir : Addr) (w_arr : Addr) (kk_w_arr : ClassId) (c0_w_arr : Addr) (c1_w_arr : Addr) (c2_w_arr : Value) (c3_w_arr : Value) (c4_w_arr : Value) (c5_w_arr : Value) (c6_w_arr : Value) (c7_w_arr : Value) (c8_w_arr : Value) (c9_w_arr : Value) (h0 : Heap) (n0 : Nat) (Z0 : n0 ≤ h0.size) (O0 : Old Z n0 h0) (M_mir : Mir Z "[Ljava/lang/Object;" w_mir) (E_pr1 : Exa Z h0 pr1 "java/util/ArrayList") (F_elementData_pr1 : Fld Z h0 pr1 "java/util/ArrayList" "elementData" "[Ljava/lang/Object;" (.ref w_arr)) (F_size_pr1 : Fld Z h0 pr1 "java/util/ArrayList" "size" "I" (.int 2)) (E_w_arr : Exa Z h0 w_arr "[Ljava/lang/Object;") (V_w_arr : Arv Z h0 w_arr kk_w_arr (.object "java/lang/Object") (10 : Int32) [(.ref c0_w_arr), (.ref c1_w_arr), c2_w_arr, c3_w_arr, c4_w_arr, c5_w_arr, c6_w_arr, c7_w_arr, c8_w_arr, c9_w_arr] .null) (E_c0_w_arr : Exa Z h0 c0_w_arr "com/example/tyche/tyche/model/jani/Expression$Operation") (E_c1_w_arr : Exa Z h0 c1_w_arr "com/example/tyche/tyche/model/jani/Expression$Operation") :
    MetFree l mN25 (head1 (Jvm.Cond.code mN25 jdk_40_method_48_code 1 (some (.object "java/util/List")) :: ws) ({ frames := 7, cells := 2, slots := 4, locals := 89 } : Room)) (fun a U => a = #[(.ref pr1)] ∧ Z.Warmed39 U.vm ∧ U.heap = h0) (fun _ _ _ _ _ => True) (fun _ U o U' => ∃ v L, o = .returned v ∧ Q7_2 Z pr1 w_mir w_arr kk_w_arr c0_w_arr c1_w_arr c2_w_arr c3_w_arr c4_w_arr c5_w_arr c6_w_arr c7_w_arr c8_w_arr c9_w_arr h0 n0 v U'.heap L ∧ FrameEnd U o U' L ({ frames := 7, cells := 2, slots := 4, locals := 89 } : Room).cells ({ frames := 7, cells := 2, slots := 4, locals := 89 } : Room).slots) := by
  refine MetFree.of_bodySF (plainFor_of_name pn_7) hisR ?_
  intro p e s m args below meth c s₁ Bd hml0 hP hK
  obtain ⟨rfl, hZ, hh⟩ := hP
  have hx := Bd.exec
  have hby := Bd.bytes
  have hml : c.maxLocals = 1 := hml0
  have hown : s.vm.findClass "java/util/List" = some m.cls := findClass_of_methodNamed Bd.named
  have hnm := (name_of_methodNamed Bd.named Bd.method).1
  have X0 : Stand p l e ({ frames := 7, cells := 2, slots := 4, locals := 89 } : Room) s m #[(.ref pr1)] below meth c s₁ [] 0 0 := Stand.of_body Bd
  have e0 : s₁.heap = h0 := by rw [← hh, Bd.state]; rfl
  have N0 := Fr.nil n0
  have pre0 : ∀ t, Steps p.tables e below (s₁.setTop (mkF m 0 #[vr pr1] [])) t → Steps p.tables e below (s₁.setTop (entryFrame m #[(.ref pr1)] 1)) t := fun t k => castTop (ef_7 m pr1) k
  obtain ⟨_, _, ⟨T1, L1, k1, n1⟩, -, X1, ⟨Lc1, hQ1, l1, y1, z1⟩, st1⟩ := Jvm.LawKit.callS X0 hx (y := mN22) hown (mvT hZ (own_W hw 54 rfl)) (mvT hZ (own_W hw 55 rfl)) (mvT hZ (own_W hw 56 rfl)) (mvT hZ (own_W hw 57 rfl)) (by decide) (backOf (W := 0) (rm8_2 l Z a0 hw [] pr1 w_mir w_arr kk_w_arr c0_w_arr c1_w_arr c2_w_arr c3_w_arr c4_w_arr c5_w_arr c6_w_arr c7_w_arr c8_w_arr c9_w_arr h0 n0 Z0 O0 M_mir E_pr1 F_elementData_pr1 F_size_pr1 E_w_arr V_w_arr E_c0_w_arr E_c1_w_arr) hZ (own_W hw 57 rfl) (own_W hw 56 rfl) (by decide) (by decide)) (g := (mkF m 1 #[vr pr1] [(.ref pr1)])) rfl (by rw [hml]; rfl) (argsL := [(.ref pr1)]) (rest := []) (lenOf pd_2 rfl) rfl (by show 2 * 0 + _ ≤ _; exact Nat.le_of_eq rfl) (hb hby d7_1) (fun _ _ => ⟨rfl, e0, (by decide : 0 + 2 ≤ _), (by decide : 0 + 4 ≤ _)⟩)
  dsimp only [Pt.U, Pt.locs, Pt.cells, Pt.slots] at X1 l1 y1 z1 st1 hQ1
  subst l1 y1 z1
  obtain ⟨b1, rfl, N1q, K1, qf1_0, qf1_1, qf1_2, qf1_3⟩ := hQ1
  have N1 := Fr.app N0 N1q
  have k2 : Keep h0 T1.heap [] := (Keep.refl h0 []).trans K1 all0
  obtain ⟨fs, hr, hrun, hended, hW, hsame⟩ := X1.leave (v := some (.ref b1)) (fun h => by rw [Bd.returns] at h; cases h) (BodyLoose.notSynchronized Bd)
  refine ⟨_, _, pre0 _ ?_, hrun, hended, _, _, rfl, ?_, ⟨_, rfl⟩, hW, hsame.mono (by decide) (by decide)⟩
  · show Stp p e below s₁ m 0 #[vr pr1] [] _
    refine XS.aloadN X0.here hx rfl (hb hby d7_0) rfl rfl ?_
    refine st1 _ ?_
    show Stp p e below T1 m 4 #[vr pr1] [(.ref b1)] _
    jvm_step X1.here [X1.here.top, hx, (hb hby d7_4), X1.method', Bd.returns, Value.isRef, FieldType.isReference]
    first | (intro acts; rw [hr _ acts rfl rfl rfl]) | rw [hr _ _ rfl rfl rfl]
    exact Steps.refl _
  · show Q7_2 Z pr1 w_mir w_arr kk_w_arr c0_w_arr c1_w_arr c2_w_arr c3_w_arr c4_w_arr c5_w_arr c6_w_arr c7_w_arr c8_w_arr c9_w_arr h0 n0 _ T1.heap _
    exact ⟨b1, rfl, N1, k2, (Nat.le_trans (Keep.refl h0 []).1 qf1_0), qf1_1, qf1_2, qf1_3⟩
def Q7_3 (Z : State) (pr1 : Addr) (w_mir : Addr) (w_arr : Addr) (kk_w_arr : ClassId) (c0_w_arr : Addr) (c1_w_arr : Addr) (c2_w_arr : Addr) (c3_w_arr : Value) (c4_w_arr : Value) (c5_w_arr : Value) (c6_w_arr : Value) (c7_w_arr : Value) (c8_w_arr : Value) (c9_w_arr : Value) (h0 : Heap) (n0 : Nat) (v : Option Value) (h : Heap) (L : List Loc) : Prop := ∃ b1 : Addr, ∃ b1_1 : Addr, ∃ b1_2 : ClassId, v = some (.ref b1) ∧ Fr n0 L ∧ Keep h0 h [] ∧ h0.size ≤ b1 ∧ Exa Z h b1 "java/util/ImmutableCollections$ListN" ∧ Fld Z h b1 "java/util/ImmutableCollections$ListN" "elements" "[Ljava/lang/Object;" (.ref b1_1) ∧ Fld Z h b1 "java/util/ImmutableCollections$ListN" "allowNulls" "Z" (.int 0) ∧ h0.size ≤ b1_1 ∧ Arv Z h b1_1 b1_2 (.object "java/lang/Object") (3 : Int32) [(.ref c0_w_arr), (.ref c1_w_arr), (.ref c2_w_arr)] .null ∧ Ovr Z b1_2 "java/lang/Object"
set_option maxRecDepth 65536 in
set_option maxHeartbeats 40000000 in
theorem rm7_3 (l : Launch) (Z : State) (a0 : Array Value) (hw : ∀ d ∈ tables_1, d.before a0 Z = true) (ws : List Jvm.Cond) (pr1 : Addr) (w_mir : Addr) (w_arr : Addr) (kk_w_arr : ClassId) (c0_w_arr : Addr) (c1_w_arr : Addr) (c2_w_arr : Addr) (c3_w_arr : Value) (c4_w_arr : Value) (c5_w_arr : Value) (c6_w_arr : Value) (c7_w_arr : Value) (c8_w_arr : Value) (c9_w_arr : Value) (h0 : Heap) (n0 : Nat) (Z0 : n0 ≤ h0.size) (O0 : Old Z n0 h0) (M_mir : Mir Z "[Ljava/lang/Object;" w_mir) (E_pr1 : Exa Z h0 pr1 "java/util/ArrayList") (F_elementData_pr1 : Fld Z h0 pr1 "java/util/ArrayList" "elementData" "[Ljava/lang/Object;" (.ref w_arr)) (F_size_pr1 : Fld Z h0 pr1 "java/util/ArrayList" "size" "I" (.int 3)) (E_w_arr : Exa Z h0 w_arr "[Ljava/lang/Object;") (V_w_arr : Arv Z h0 w_arr kk_w_arr (.object "java/lang/Object") (10 : Int32) [(.ref c0_w_arr), (.ref c1_w_arr), (.ref c2_w_arr), c3_w_arr, c4_w_arr, c5_w_arr, c6_w_arr, c7_w_arr, c8_w_arr, c9_w_arr] .null) (E_c0_w_arr : Exa Z h0 c0_w_arr "com/example/tyche/tyche/model/jani/Expression$Operation") (E_c1_w_arr : Exa Z h0 c1_w_arr "com/example/tyche/tyche/model/jani/Expression$Operation") (E_c2_w_arr : Exa Z h0 c2_w_arr "com/example/tyche/tyche/model/jani/Expression$Operation") :
    MetFree l mN25 (head1 (Jvm.Cond.code mN25 jdk_40_method_48_code 1 (some (.object "java/util/List")) :: ws) ({ frames := 8, cells := 3, slots := 8, locals := 103 } : Room)) (fun a U => a = #[(.ref pr1)] ∧ Z.Warmed39 U.vm ∧ U.heap = h0) (fun _ _ _ _ _ => True) (fun _ U o U' => ∃ v L, o = .returned v ∧ Q7_3 Z pr1 w_mir w_arr kk_w_arr c0_w_arr c1_w_arr c2_w_arr c3_w_arr c4_w_arr c5_w_arr c6_w_arr c7_w_arr c8_w_arr c9_w_arr h0 n0 v U'.heap L ∧ FrameEnd U o U' L ({ frames := 8, cells := 3, slots := 8, locals := 103 } : Room).cells ({ frames := 8, cells := 3, slots := 8, locals := 103 } : Room).slots) := by
  refine MetFree.of_bodySF (plainFor_of_name pn_7) hisR ?_
  intro p e s m args below meth c s₁ Bd hml0 hP hK
  obtain ⟨rfl, hZ, hh⟩ := hP
  have hx := Bd.exec
  have hby := Bd.bytes
  have hml : c.maxLocals = 1 := hml0
  have hown : s.vm.findClass "java/util/List" = some m.cls := findClass_of_methodNamed Bd.named
  have hnm := (name_of_methodNamed Bd.named Bd.method).1
  have X0 : Stand p l e ({ frames := 8, cells := 3, slots := 8, locals := 103 } : Room) s m #[(.ref pr1)] below meth c s₁ [] 0 0 := Stand.of_body Bd
  have e0 : s₁.heap = h0 := by rw [← hh, Bd.state]; rfl
  have N0 := Fr.nil n0
  have pre0 : ∀ t, Steps p.tables e below (s₁.setTop (mkF m 0 #[vr pr1] [])) t → Steps p.tables e below (s₁.setTop (entryFrame m #[(.ref pr1)] 1)) t := fun t k => castTop (ef_7 m pr1) k
  obtain ⟨_, _, ⟨T1, L1, k1, n1⟩, -, X1, ⟨Lc1, hQ1, l1, y1, z1⟩, st1⟩ := Jvm.LawKit.callS X0 hx (y := mN22) hown (mvT hZ (own_W hw 54 rfl)) (mvT hZ (own_W hw 55 rfl)) (mvT hZ (own_W hw 56 rfl)) (mvT hZ (own_W hw 57 rfl)) (by decide) (backOf (W := 0) (rm8_3 l Z a0 hw [] pr1 w_mir w_arr kk_w_arr c0_w_arr c1_w_arr c2_w_arr c3_w_arr c4_w_arr c5_w_arr c6_w_arr c7_w_arr c8_w_arr c9_w_arr h0 n0 Z0 O0 M_mir E_pr1 F_elementData_pr1 F_size_pr1 E_w_arr V_w_arr E_c0_w_arr E_c1_w_arr E_c2_w_arr) hZ (own_W hw 57 rfl) (own_W hw 56 rfl) (by decide) (by decide)) (g := (mkF m 1 #[vr pr1] [(.ref pr1)])) rfl (by rw [hml]; rfl) (argsL := [(.ref pr1)]) (rest := []) (lenOf pd_2 rfl) rfl (by show 2 * 0 + _ ≤ _; exact Nat.le_of_eq rfl) (hb hby d7_1) (fun _ _ => ⟨rfl, e0, (by decide : 0 + 3 ≤ _), (by decide : 0 + 8 ≤ _)⟩)
  dsimp only [Pt.U, Pt.locs, Pt.cells, Pt.slots] at X1 l1 y1 z1 st1 hQ1
  subst l1 y1 z1
  obtain ⟨b1, b1_1, b1_2, rfl, N1q, K1, qf1_0, qf1_1, qf1_2, qf1_3, qf1_4, qf1_5, qf1_6⟩ := hQ1
  have N1 := Fr.app N0 N1q
  have k2 : Keep h0 T1.heap [] := (Keep.refl h0 []).trans K1 all0
  obtain ⟨fs, hr, hrun, hended, hW, hsame⟩ := X1.leave (v := some (.ref b1)) (fun h => by rw [Bd.returns] at h; cases h) (BodyLoose.notSynchronized Bd)
  refine ⟨_, _, pre0 _ ?_, hrun, hended, _, _, rfl, ?_, ⟨_, rfl⟩, hW, hsame.mono (by decide) (by decide)⟩
  · show Stp p e below s₁ m 0 #[vr pr1] [] _
    refine XS.aloadN X0.here hx rfl (hb hby d7_0) rfl rfl ?_
    refine st1 _ ?_
    show Stp p e below T1 m 4 #[vr pr1] [(.ref b1)] _
    jvm_step X1.here [X1.here.top, hx, (hb hby d7_4), X1.method', Bd.returns, Value.isRef, FieldType.isReference]
    first | (intro acts; rw [hr _ acts rfl rfl rfl]) | rw [hr _ _ rfl rfl rfl]
    exact Steps.refl _
  · show Q7_3 Z pr1 w_mir w_arr kk_w_arr c0_w_arr c1_w_arr c2_w_arr c3_w_arr c4_w_arr c5_w_arr c6_w_arr c7_w_arr c8_w_arr c9_w_arr h0 n0 _ T1.heap _
    exact ⟨b1, b1_1, b1_2, rfl, N1, k2, (Nat.le_trans (Keep.refl h0 []).1 qf1_0), qf1_1, qf1_2, qf1_3, (Nat.le_trans (Keep.refl h0 []).1 qf1_4), qf1_5, qf1_6⟩
theorem d6_0 : decode jdk_30_method_1_code 0 = .ok (.aload_n 0, 1) := by decide +kernel
theorem d6_1 : decode jdk_30_method_1_code 1 = .ok (.invokespecial 1, 3) := by decide +kernel
theorem d6_4 : decode jdk_30_method_1_code 4 = .ok (.return_, 1) := by decide +kernel
theorem pn_6 : plainName "java/lang/Record" = true := by first | (simp [plainName, overriddenIn]; done) | decide +kernel
theorem ef_6 (m : MethodId) (pr0 : Addr) : entryFrame m #[(.ref pr0)] 1 = mkF m 0 #[vr pr0] [] := by first | (simp [entryFrame, mkF, argsToLocals, Value.category]; done) | rfl
def Q6 (Z : State) (pr0 : Addr) (h0 : Heap) (n0 : Nat) (v : Option Value) (h : Heap) (L : List Loc) : Prop := v = none ∧ Fr n0 L ∧ h = h0
set_option maxRecDepth 65536 in
set_option maxHeartbeats 40000000 in
theorem rm6 (l : Launch) (Z : State) (a0 : Array Value) (hw : ∀ d ∈ tables_1, d.before a0 Z = true) (ws : List Jvm.Cond) (pr0 : Addr) (h0 : Heap) (n0 : Nat) (Z0 : n0 ≤ h0.size) (O0 : Old Z n0 h0) :
    MetFree l mN26 (head1 (Jvm.Cond.code mN26 jdk_30_method_1_code 1 none :: ws) ({ frames := 1, cells := 0, slots := 0, locals := 12 } : Room)) (fun a U => a = #[(.ref pr0)] ∧ Z.Warmed39 U.vm ∧ U.heap = h0) (fun _ _ _ _ _ => True) (fun _ U o U' => ∃ v L, o = .returned v ∧ Q6 Z pr0 h0 n0 v U'.heap L ∧ FrameEnd U o U' L ({ frames := 1, cells := 0, slots := 0, locals := 12 } : Room).cells ({ frames := 1, cells := 0, slots := 0, locals := 12 } : Room).slots) := by
  refine MetFree.of_bodySF (plainFor_of_name pn_6) hisR ?_
  intro p e s m args below meth c s₁ Bd hml0 hP hK
  obtain ⟨rfl, hZ, hh⟩ := hP
  have hx := Bd.exec
  have hby := Bd.bytes
  have hml : c.maxLocals = 1 := hml0
  have hown : s.vm.findClass "java/lang/Record" = some m.cls := findClass_of_methodNamed Bd.named
  have hnm := (name_of_methodNamed Bd.named Bd.method).1
  have X0 : Stand p l e ({ frames := 1, cells := 0, slots := 0, locals := 12 } : Room) s m #[(.ref pr0)] below meth c s₁ [] 0 0 := Stand.of_body Bd
  have e0 : s₁.heap = h0 := by rw [← hh, Bd.state]; rfl
  have N0 := Fr.nil n0
  have pre0 : ∀ t, Steps p.tables e below (s₁.setTop (mkF m 0 #[vr pr0] [])) t → Steps p.tables e below (s₁.setTop (entryFrame m #[(.ref pr0)] 1)) t := fun t k => castTop (ef_6 m pr0) k
  obtain ⟨T1, X1, e1, st1⟩ := initO X0 hx hZ hown (own_W hw 49 rfl) (own_W hw 26 rfl) (own_W hw 27 rfl) e0 (g := (mkF m 1 #[vr pr0] [(.ref pr0)])) rfl (by rw [hml]; rfl) rfl (hb hby d6_1) (by decide) (W := 0) (by show 2 * 0 + _ ≤ _; exact Nat.le_of_eq rfl) (by decide)
  obtain ⟨fs, hr, hrun, hended, hW, hsame⟩ := X1.leave (v := none) (fun _ => rfl) (BodyLoose.notSynchronized Bd)
  refine ⟨_, _, pre0 _ ?_, hrun, hended, _, _, rfl, ?_, ⟨_, rfl⟩, hW, hsame.mono (by decide) (by decide)⟩
  · show Stp p e below s₁ m 0 #[vr pr0] [] _
    refine XS.aloadN X0.here hx rfl (hb hby d6_0) rfl rfl ?_
    refine st1 _ ?_
    show Stp p e below T1 m 4 #[vr pr0] [] _
    exact X1.returnOut hx Bd.returns (hb hby d6_4) hr
  · show Q6 Z pr0 h0 n0 _ T1.heap _
    rw [e1]
    exact ⟨rfl, N0, rfl⟩
theorem d5_0 : decode prog_67_method_1_code 0 = .ok (.aload_n 0, 1) := by decide +kernel
theorem d5_1 : decode prog_67_method_1_code 1 = .ok (.invokespecial 1, 3) := by decide +kernel
theorem d5_4 : decode prog_67_method_1_code 4 = .ok (.aload_n 2, 1) := by decide +kernel
theorem d5_5 : decode prog_67_method_1_code 5 = .ok (.invokestatic 7, 3) := by decide +kernel
theorem d5_8 : decode prog_67_method_1_code 8 = .ok (.astore_n 2, 1) := by decide +kernel
theorem d5_9 : decode prog_67_method_1_code 9 = .ok (.aload_n 0, 1) := by decide +kernel
theorem d5_10 : decode prog_67_method_1_code 10 = .ok (.aload_n 1, 1) := by decide +kernel
theorem d5_11 : decode prog_67_method_1_code 11 = .ok (.putfield 13, 3) := by decide +kernel
theorem d5_14 : decode prog_67_method_1_code 14 = .ok (.aload_n 0, 1) := by decide +kernel
theorem d5_15 : decode prog_67_method_1_code 15 = .ok (.aload_n 2, 1) := by decide +kernel
theorem d5_16 : decode prog_67_method_1_code 16 = .ok (.putfield 19, 3) := by decide +kernel
theorem d5_19 : decode prog_67_method_1_code 19 = .ok (.aload_n 0, 1) := by decide +kernel
theorem d5_20 : decode prog_67_method_1_code 20 = .ok (.aload_n 3, 1) := by decide +kernel
theorem d5_21 : decode prog_67_method_1_code 21 = .ok (.putfield 23, 3) := by decide +kernel
theorem d5_24 : decode prog_67_method_1_code 24 = .ok (.return_, 1) := by decide +kernel
theorem pn_5 : plainName "com/example/tyche/tyche/model/jani/Expression$Operation" = true := by first | (simp [plainName, overriddenIn]; done) | decide +kernel
theorem ef_5 (m : MethodId) (pr0 : Addr) (pr1 : Addr) (pr2 : Addr) (pr3 : Addr) : entryFrame m #[(.ref pr0), (.ref pr1), (.ref pr2), (.ref pr3)] 4 = mkF m 0 #[vr pr0, vr pr1, vr pr2, vr pr3] [] := by first | (simp [entryFrame, mkF, argsToLocals, Value.category]; done) | rfl
def Q5_0 (Z : State) (pr0 : Addr) (pr1 : Addr) (pr2 : Addr) (pr3 : Addr) (w_EMPTY_LIST : Addr) (u_operator_pr0 : Value) (u_operands_pr0 : Value) (u_path_pr0 : Value) (h0 : Heap) (n0 : Nat) (v : Option Value) (h : Heap) (L : List Loc) : Prop := v = none ∧ Fr n0 L ∧ Keep h0 h [pr0] ∧ Exa Z h pr0 "com/example/tyche/tyche/model/jani/Expression$Operation" ∧ Fld Z h pr0 "com/example/tyche/tyche/model/jani/Expression$Operation" "operator" "Lcom/example/tyche/tyche/model/jani/Operator;" (.ref pr1) ∧ Fld Z h pr0 "com/example/tyche/tyche/model/jani/Expression$Operation" "operands" "Ljava/util/List;" (.ref w_EMPTY_LIST) ∧ Fld Z h pr0 "com/example/tyche/tyche/model/jani/Expression$Operation" "path" "Ljava/lang/String;" (.ref pr3)
set_option maxRecDepth 65536 in
set_option maxHeartbeats 40000000 in
theorem rm5_0 (l : Launch) (Z : State) (a0 : Array Value) (hw : ∀ d ∈ tables_1, d.before a0 Z = true) (ws : List Jvm.Cond) (pr0 : Addr) (pr1 : Addr) (pr2 : Addr) (pr3 : Addr) (w_EMPTY_LIST : Addr) (u_operator_pr0 : Value) (u_operands_pr0 : Value) (u_path_pr0 : Value) (h0 : Heap) (n0 : Nat) (Z0 : n0 ≤ h0.size) (O0 : Old Z n0 h0) (E_pr0 : Exa Z h0 pr0 "com/example/tyche/tyche/model/jani/Expression$Operation") (E_pr2 : Exa Z h0 pr2 "java/util/ArrayList") (F_size_pr2 : Fld Z h0 pr2 "java/util/ArrayList" "size" "I" (.int 0)) (S_EMPTY_LIST : Sta Z Z.heap "java/util/ImmutableCollections" "EMPTY_LIST" "Ljava/util/ImmutableCollections$ListN;" (.ref w_EMPTY_LIST)) (F_operator_pr0 : Fld Z h0 pr0 "com/example/tyche/tyche/model/jani/Expression$Operation" "operator" "Lcom/example/tyche/tyche/model/jani/Operator;" u_operator_pr0) (g_pr0 : n0 ≤ pr0) (F_operands_pr0 : Fld Z h0 pr0 "com/example/tyche/tyche/model/jani/Expression$Operation" "operands" "Ljava/util/List;" u_operands_pr0) (F_path_pr0 : Fld Z h0 pr0 "com/example/tyche/tyche/model/jani/Expression$Operation" "path" "Ljava/lang/String;" u_path_pr0) :
    MetFree l mN27 (head1 (Jvm.Cond.code mN27 prog_67_method_1_code 4 none :: ws) ({ frames := 3, cells := 0, slots := 0, locals := 37 } : Room)) (fun a U => a = #[(.ref pr0), (.ref pr1), (.ref pr2), (.ref pr3)] ∧ Z.Warmed39 U.vm ∧ U.heap = h0) (fun _ _ _ _ _ => True) (fun _ U o U' => ∃ v L, o = .returned v ∧ Q5_0 Z pr0 pr1 pr2 pr3 w_EMPTY_LIST u_operator_pr0 u_operands_pr0 u_path_pr0 h0 n0 v U'.heap L ∧ FrameEnd U o U' L ({ frames := 3, cells := 0, slots := 0, locals := 37 } : Room).cells ({ frames := 3, cells := 0, slots := 0, locals := 37 } : Room).slots) := by
  refine MetFree.of_bodySF (plainFor_of_name pn_5) hisR ?_
  intro p e s m args below meth c s₁ Bd hml0 hP hK
  obtain ⟨rfl, hZ, hh⟩ := hP
  have hx := Bd.exec
  have hby := Bd.bytes
  have hml : c.maxLocals = 4 := hml0
  have hown : s.vm.findClass "com/example/tyche/tyche/model/jani/Expression$Operation" = some m.cls := findClass_of_methodNamed Bd.named
  have hnm := (name_of_methodNamed Bd.named Bd.method).1
  have X0 : Stand p l e ({ frames := 3, cells := 0, slots := 0, locals := 37 } : Room) s m #[(.ref pr0), (.ref pr1), (.ref pr2), (.ref pr3)] below meth c s₁ [] 0 0 := Stand.of_body Bd
  have e0 : s₁.heap = h0 := by rw [← hh, Bd.state]; rfl
  have N0 := Fr.nil n0
  have pre0 : ∀ t, Steps p.tables e below (s₁.setTop (mkF m 0 #[vr pr0, vr pr1, vr pr2, vr pr3] [])) t → Steps p.tables e below (s₁.setTop (entryFrame m #[(.ref pr0), (.ref pr1), (.ref pr2), (.ref pr3)] 4)) t := fun t k => castTop (ef_5 m pr0 pr1 pr2 pr3) k
  obtain ⟨_, _, ⟨T1, L1, k1, n1⟩, -, X1, ⟨Lc1, hQ1, l1, y1, z1⟩, st1⟩ := X0.specialBack hx (y := mN26) rfl hown (mvT hZ (own_W hw 44 rfl)) (mvT hZ (own_W hw 45 rfl)) (mvT hZ (own_W hw 48 rfl)) (by decide) (backOf (W := 0) (rm6 l Z a0 hw [] pr0 h0 n0 Z0 O0 ) hZ (own_W hw 48 rfl) (own_W hw 47 rfl) (by decide) (by decide)) (g := (mkF m 1 #[vr pr0, vr pr1, vr pr2, vr pr3] [(.ref pr0)])) rfl (by rw [hml]; rfl) (Steps.refl _) (a := pr0) (argsL := []) (rest := []) (lenOf pd_0 rfl) rfl (by show 2 * 0 + _ ≤ _; exact Nat.le_of_eq rfl) (hb hby d5_1) (fun _ _ => ⟨rfl, e0, (by decide : 0 + 0 ≤ _), (by decide : 0 + 0 ≤ _)⟩)
  dsimp only [Pt.U, Pt.locs, Pt.cells, Pt.slots] at X1 l1 y1 z1 st1 hQ1
  subst l1 y1 z1
  obtain ⟨rfl, N1q, eq1⟩ := hQ1
  have N1 := Fr.app N0 N1q
  obtain ⟨_, _, ⟨T2, L2, k2, n2⟩, -, X2, ⟨Lc2, hQ2, l2, y2, z2⟩, st2⟩ := Jvm.LawKit.callS X1 hx (y := mN25) hown (mvT hZ (own_W hw 50 rfl)) (mvT hZ (own_W hw 51 rfl)) (mvT hZ (own_W hw 52 rfl)) (mvT hZ (own_W hw 53 rfl)) (by decide) (backOf (W := 0) (rm7_0 l Z a0 hw [] pr2 w_EMPTY_LIST h0 n0 Z0 O0 E_pr2 F_size_pr2 S_EMPTY_LIST) hZ (own_W hw 53 rfl) (own_W hw 52 rfl) (by decide) (by decide)) (g := (mkF m 5 #[vr pr0, vr pr1, vr pr2, vr pr3] [(.ref pr2)])) rfl (by rw [hml]; rfl) (argsL := [(.ref pr2)]) (rest := []) (lenOf pd_2 rfl) rfl (by show 2 * 0 + _ ≤ _; exact Nat.le_of_eq rfl) (hb hby d5_5) (fun _ _ => ⟨rfl, eq1, (by decide : 0 + 0 ≤ _), (by decide : 0 + 0 ≤ _)⟩)
  dsimp only [Pt.U, Pt.locs, Pt.cells, Pt.slots] at X2 l2 y2 z2 st2 hQ2
  subst l2 y2 z2
  obtain ⟨rfl, N2q, eq2⟩ := hQ2
  have N2 := Fr.app N1 N2q
  obtain ⟨T3, h3, X3, e3, W3, st3⟩ := putF X2 hx hZ hown (host := "") (Or.inl (own_W hw 79 rfl)) Via.refl eq2 F_operator_pr0 E_pr0 (Or.inr ⟨(own_W hw 80 rfl), rfl, hnm⟩) (own_W hw 2 rfl) (ty := (.object "com/example/tyche/tyche/model/jani/Operator")) (by decide) rfl rfl (g := (mkF m 11 #[vr pr0, vr pr1, vr w_EMPTY_LIST, vr pr3] [(.ref pr1), (.ref pr0)])) rfl rfl (hb hby d5_11)
  have Fw3 := F_operator_pr0.same W3
  have N3 := Fr.snoc X3 N2 g_pr0
  have f4 := F_operands_pr0.other W3 (Or.inr (slot_ne (Or.inr (own_W hw 82 rfl)) (Or.inr (own_W hw 80 rfl)) (by decide) (t := (.object "java/util/List")) (t' := (.object "com/example/tyche/tyche/model/jani/Operator")) (by decide) (by decide)))
  have f5 := E_pr0.wr W3
  obtain ⟨T6, h6, X6, e6, W6, st6⟩ := putF X3 hx hZ hown (host := "") (Or.inl (own_W hw 81 rfl)) Via.refl e3 f4 f5 (Or.inr ⟨(own_W hw 82 rfl), rfl, hnm⟩) (own_W hw 2 rfl) (ty := (.object "java/util/List")) (by decide) rfl rfl (g := (mkF m 16 #[vr pr0, vr pr1, vr w_EMPTY_LIST, vr pr3] [(.ref w_EMPTY_LIST), (.ref pr0)])) rfl rfl (hb hby d5_16)
  have Fw6 := f4.same W6
  have N6 := Fr.snoc X6 N3 g_pr0
  have f7 := F_path_pr0.other W3 (Or.inr (slot_ne (Or.inr (own_W hw 84 rfl)) (Or.inr (own_W hw 80 rfl)) (by decide) (t := (.object "java/lang/String")) (t' := (.object "com/example/tyche/tyche/model/jani/Operator")) (by decide) (by decide)))
  have f8 := f7.other W6 (Or.inr (slot_ne (Or.inr (own_W hw 84 rfl)) (Or.inr (own_W hw 82 rfl)) (by decide) (t := (.object "java/lang/String")) (t' := (.object "java/util/List")) (by decide) (by decide)))
  have f9 := f5.wr W6
  obtain ⟨T10, h10, X10, e10, W10, st10⟩ := putF X6 hx hZ hown (host := "") (Or.inl (own_W hw 83 rfl)) Via.refl e6 f8 f9 (Or.inr ⟨(own_W hw 84 rfl), rfl, hnm⟩) (own_W hw 2 rfl) (ty := (.object "java/lang/String")) (by decide) rfl rfl (g := (mkF m 21 #[vr pr0, vr pr1, vr w_EMPTY_LIST, vr pr3] [(.ref pr3), (.ref pr0)])) rfl rfl (hb hby d5_21)
  have Fw10 := f8.same W10
  have N10 := Fr.snoc X10 N6 g_pr0
  have k11 : Keep h0 h3 [pr0] := (Keep.refl h0 [pr0]).wr W3 (Or.inl (List.mem_of_getElem? (i := 0) rfl))
  have k12 : Keep h0 h6 [pr0] := k11.wr W6 (Or.inl (List.mem_of_getElem? (i := 0) rfl))
  have k13 : Keep h0 h10 [pr0] := k12.wr W10 (Or.inl (List.mem_of_getElem? (i := 0) rfl))
  have f14 := f9.wr W10
  have f15 := Fw3.other W6 (Or.inr (slot_ne (Or.inr (own_W hw 80 rfl)) (Or.inr (own_W hw 82 rfl)) (by decide) (t := (.object "com/example/tyche/tyche/model/jani/Operator")) (t' := (.object "java/util/List")) (by decide) (by decide)))
  have f16 := f15.other W10 (Or.inr (slot_ne (Or.inr (own_W hw 80 rfl)) (Or.inr (own_W hw 84 rfl)) (by decide) (t := (.object "com/example/tyche/tyche/model/jani/Operator")) (t' := (.object "java/lang/String")) (by decide) (by decide)))
  have f17 := Fw6.other W10 (Or.inr (slot_ne (Or.inr (own_W hw 82 rfl)) (Or.inr (own_W hw 84 rfl)) (by decide) (t := (.object "java/util/List")) (t' := (.object "java/lang/String")) (by decide) (by decide)))
  obtain ⟨fs, hr, hrun, hended, hW, hsame⟩ := X10.leave (v := none) (fun _ => rfl) (BodyLoose.notSynchronized Bd)
  refine ⟨_, _, pre0 _ ?_, hrun, hended, _, _, rfl, ?_, ⟨_, rfl⟩, hW, hsame.mono (by decide) (by decide)⟩
  · show Stp p e below s₁ m 0 #[vr pr0, vr pr1, vr pr2, vr pr3] [] _
    refine XS.aloadN X0.here hx rfl (hb hby d5_0) rfl rfl ?_
    refine st1.trans ?_
    show Stp p e below T1 m 4 #[vr pr0, vr pr1, vr pr2, vr pr3] [] _
    refine XS.aloadN X1.here hx rfl (hb hby d5_4) rfl rfl ?_
    refine st2 _ ?_
    show Stp p e below T2 m 8 #[vr pr0, vr pr1, vr pr2, vr pr3] [(.ref w_EMPTY_LIST)] _
    refine XS.astoreN X2.here hx rfl (hb hby d5_8) rfl rfl (l' := #[vr pr0, vr pr1, vr w_EMPTY_LIST, vr pr3]) rfl ?_
    refine XS.aloadN X2.here hx rfl (hb hby d5_9) rfl rfl ?_
    refine XS.aloadN X2.here hx rfl (hb hby d5_10) rfl rfl ?_
    refine st3 _ ?_
    show Stp p e below T3 m 14 #[vr pr0, vr pr1, vr w_EMPTY_LIST, vr pr3] [] _
    refine XS.aloadN X3.here hx rfl (hb hby d5_14) rfl rfl ?_
    refine XS.aloadN X3.here hx rfl (hb hby d5_15) rfl rfl ?_
    refine st6 _ ?_
    show Stp p e below T6 m 19 #[vr pr0, vr pr1, vr w_EMPTY_LIST, vr pr3] [] _
    refine XS.aloadN X6.here hx rfl (hb hby d5_19) rfl rfl ?_
    refine XS.aloadN X6.here hx rfl (hb hby d5_20) rfl rfl ?_
    refine st10 _ ?_
    show Stp p e below T10 m 24 #[vr pr0, vr pr1, vr w_EMPTY_LIST, vr pr3] [] _
    exact X10.returnOut hx Bd.returns (hb hby d5_24) hr
  · show Q5_0 Z pr0 pr1 pr2 pr3 w_EMPTY_LIST u_operator_pr0 u_operands_pr0 u_path_pr0 h0 n0 _ T10.heap _
    rw [e10]
    exact ⟨rfl, N10, k13, f14, f16, f17, Fw10⟩
def Q5_1 (Z : State) (pr0 : Addr) (pr1 : Addr) (pr2 : Addr) (pr3 : Addr) (w_mir : Addr) (w_arr : Addr) (kk_w_arr : ClassId) (c0_w_arr : Addr) (c1_w_arr : Value) (c2_w_arr : Value) (c3_w_arr : Value) (c4_w_arr : Value) (c5_w_arr : Value) (c6_w_arr : Value) (c7_w_arr : Value) (c8_w_arr : Value) (c9_w_arr : Value) (w_EMPTY : Addr) (u_operator_pr0 : Value) (u_operands_pr0 : Value) (u_path_pr0 : Value) (h0 : Heap) (n0 : Nat) (v : Option Value) (h : Heap) (L : List Loc) : Prop := ∃ b2 : Addr, v = none ∧ Fr n0 L ∧ Keep h0 h [pr0] ∧ Exa Z h pr0 "com/example/tyche/tyche/model/jani/Expression$Operation" ∧ Fld Z h pr0 "com/example/tyche/tyche/model/jani/Expression$Operation" "operator" "Lcom/example/tyche/tyche/model/jani/Operator;" (.ref pr1) ∧ Fld Z h pr0 "com/example/tyche/tyche/model/jani/Expression$Operation" "operands" "Ljava/util/List;" (.ref b2) ∧ Fld Z h pr0 "com/example/tyche/tyche/model/jani/Expression$Operation" "path" "Ljava/lang/String;" (.ref pr3) ∧ h0.size ≤ b2 ∧ Exa Z h b2 "java/util/ImmutableCollections$List12" ∧ Fld Z h b2 "java/util/ImmutableCollections$List12" "e0" "Ljava/lang/Object;" (.ref c0_w_arr) ∧ Fld Z h b2 "java/util/ImmutableCollections$List12" "e1" "Ljava/lang/Object;" (.ref w_EMPTY)
set_option maxRecDepth 65536 in
set_option maxHeartbeats 40000000 in
theorem rm5_1 (l : Launch) (Z : State) (a0 : Array Value) (hw : ∀ d ∈ tables_1, d.before a0 Z = true) (ws : List Jvm.Cond) (pr0 : Addr) (pr1 : Addr) (pr2 : Addr) (pr3 : Addr) (w_mir : Addr) (w_arr : Addr) (kk_w_arr : ClassId) (c0_w_arr : Addr) (c1_w_arr : Value) (c2_w_arr : Value) (c3_w_arr : Value) (c4_w_arr : Value) (c5_w_arr : Value) (c6_w_arr : Value) (c7_w_arr : Value) (c8_w_arr : Value) (c9_w_arr : Value) (w_EMPTY : Addr) (u_operator_pr0 : Value) (u_operands_pr0 : Value) (u_path_pr0 : Value) (h0 : Heap) (n0 : Nat) (Z0 : n0 ≤ h0.size) (O0 : Old Z n0 h0) (E_pr0 : Exa Z h0 pr0 "com/example/tyche/tyche/model/jani/Expression$Operation") (M_mir : Mir Z "[Ljava/lang/Object;" w_mir) (E_pr2 : Exa Z h0 pr2 "java/util/ArrayList") (F_elementData_pr2 : Fld Z h0 pr2 "java/util/ArrayList" "elementData" "[Ljava/lang/Object;" (.ref w_arr)) (F_size_pr2 : Fld Z h0 pr2 "java/util/ArrayList" "size" "I" (.int 1)) (E_w_arr : Exa Z h0 w_arr "[Ljava/lang/Object;") (V_w_arr : Arv Z h0 w_arr kk_w_arr (.object "java/lang/Object") (10 : Int32) [(.ref c0_w_arr), c1_w_arr, c2_w_arr, c3_w_arr, c4_w_arr, c5_w_arr, c6_w_arr, c7_w_arr, c8_w_arr, c9_w_arr] .null) (E_c0_w_arr : Exa Z h0 c0_w_arr "com/example/tyche/tyche/model/jani/Expression$Operation") (S_EMPTY : Sta Z Z.heap "java/util/ImmutableCollections" "EMPTY" "Ljava/lang/Object;" (.ref w_EMPTY)) (F_operator_pr0 : Fld Z h0 pr0 "com/example/tyche/tyche/model/jani/Expression$Operation" "operator" "Lcom/example/tyche/tyche/model/jani/Operator;" u_operator_pr0) (g_pr0 : n0 ≤ pr0) (F_operands_pr0 : Fld Z h0 pr0 "com/example/tyche/tyche/model/jani/Expression$Operation" "operands" "Ljava/util/List;" u_operands_pr0) (F_path_pr0 : Fld Z h0 pr0 "com/example/tyche/tyche/model/jani/Expression$Operation" "path" "Ljava/lang/String;" u_path_pr0) :
    MetFree l mN27 (head1 (Jvm.Cond.code mN27 prog_67_method_1_code 4 none :: ws) ({ frames := 8, cells := 2, slots := 3, locals := 100 } : Room)) (fun a U => a = #[(.ref pr0), (.ref pr1), (.ref pr2), (.ref pr3)] ∧ Z.Warmed39 U.vm ∧ U.heap = h0) (fun _ _ _ _ _ => True) (fun _ U o U' => ∃ v L, o = .returned v ∧ Q5_1 Z pr0 pr1 pr2 pr3 w_mir w_arr kk_w_arr c0_w_arr c1_w_arr c2_w_arr c3_w_arr c4_w_arr c5_w_arr c6_w_arr c7_w_arr c8_w_arr c9_w_arr w_EMPTY u_operator_pr0 u_operands_pr0 u_path_pr0 h0 n0 v U'.heap L ∧ FrameEnd U o U' L ({ frames := 8, cells := 2, slots := 3, locals := 100 } : Room).cells ({ frames := 8, cells := 2, slots := 3, locals := 100 } : Room).slots) := by
  refine MetFree.of_bodySF (plainFor_of_name pn_5) hisR ?_
  intro p e s m args below meth c s₁ Bd hml0 hP hK
  obtain ⟨rfl, hZ, hh⟩ := hP
  have hx := Bd.exec
  have hby := Bd.bytes
  have hml : c.maxLocals = 4 := hml0
  have hown : s.vm.findClass "com/example/tyche/tyche/model/jani/Expression$Operation" = some m.cls := findClass_of_methodNamed Bd.named
  have hnm := (name_of_methodNamed Bd.named Bd.method).1
  have X0 : Stand p l e ({ frames := 8, cells := 2, slots := 3, locals := 100 } : Room) s m #[(.ref pr0), (.ref pr1), (.ref pr2), (.ref pr3)] below meth c s₁ [] 0 0 := Stand.of_body Bd
  have e0 : s₁.heap = h0 := by rw [← hh, Bd.state]; rfl
  have N0 := Fr.nil n0
  have pre0 : ∀ t, Steps p.tables e below (s₁.setTop (mkF m 0 #[vr pr0, vr pr1, vr pr2, vr pr3] [])) t → Steps p.tables e below (s₁.setTop (entryFrame m #[(.ref pr0), (.ref pr1), (.ref pr2), (.ref pr3)] 4)) t := fun t k => castTop (ef_5 m pr0 pr1 pr2 pr3) k
  obtain ⟨_, _, ⟨T1, L1, k1, n1⟩, -, X1, ⟨Lc1, hQ1, l1, y1, z1⟩, st1⟩ := X0.specialBack hx (y := mN26) rfl hown (mvT hZ (own_W hw 44 rfl)) (mvT hZ (own_W hw 45 rfl)) (mvT hZ (own_W hw 48 rfl)) (by decide) (backOf (W := 0) (rm6 l Z a0 hw [] pr0 h0 n0 Z0 O0 ) hZ (own_W hw 48 rfl) (own_W hw 47 rfl) (by decide) (by decide)) (g := (mkF m 1 #[vr pr0, vr pr1, vr pr2, vr pr3] [(.ref pr0)])) rfl (by rw [hml]; rfl) (Steps.refl _) (a := pr0) (argsL := []) (rest := []) (lenOf pd_0 rfl) rfl (by show 2 * 0 + _ ≤ _; exact Nat.le_of_eq rfl) (hb hby d5_1) (fun _ _ => ⟨rfl, e0, (by decide : 0 + 0 ≤ _), (by decide : 0 + 0 ≤ _)⟩)
  dsimp only [Pt.U, Pt.locs, Pt.cells, Pt.slots] at X1 l1 y1 z1 st1 hQ1
  subst l1 y1 z1
  obtain ⟨rfl, N1q, eq1⟩ := hQ1
  have N1 := Fr.app N0 N1q
  obtain ⟨_, _, ⟨T2, L2, k2, n2⟩, -, X2, ⟨Lc2, hQ2, l2, y2, z2⟩, st2⟩ := Jvm.LawKit.callS X1 hx (y := mN25) hown (mvT hZ (own_W hw 50 rfl)) (mvT hZ (own_W hw 51 rfl)) (mvT hZ (own_W hw 52 rfl)) (mvT hZ (own_W hw 53 rfl)) (by decide) (backOf (W := 0) (rm7_1 l Z a0 hw [] pr2 w_mir w_arr kk_w_arr c0_w_arr c1_w_arr c2_w_arr c3_w_arr c4_w_arr c5_w_arr c6_w_arr c7_w_arr c8_w_arr c9_w_arr w_EMPTY h0 n0 Z0 O0 M_mir E_pr2 F_elementData_pr2 F_size_pr2 E_w_arr V_w_arr E_c0_w_arr S_EMPTY) hZ (own_W hw 53 rfl) (own_W hw 52 rfl) (by decide) (by decide)) (g := (mkF m 5 #[vr pr0, vr pr1, vr pr2, vr pr3] [(.ref pr2)])) rfl (by rw [hml]; rfl) (argsL := [(.ref pr2)]) (rest := []) (lenOf pd_2 rfl) rfl (by show 2 * 0 + _ ≤ _; exact Nat.le_of_eq rfl) (hb hby d5_5) (fun _ _ => ⟨rfl, eq1, (by decide : 0 + 2 ≤ _), (by decide : 0 + 3 ≤ _)⟩)
  dsimp only [Pt.U, Pt.locs, Pt.cells, Pt.slots] at X2 l2 y2 z2 st2 hQ2
  subst l2 y2 z2
  obtain ⟨b2, rfl, N2q, K2, qf2_0, qf2_1, qf2_2, qf2_3⟩ := hQ2
  have N2 := Fr.app N1 N2q
  have f3 := F_operator_pr0.keep K2 nin0
  have f4 := E_pr0.keep K2
  obtain ⟨T5, h5, X5, e5, W5, st5⟩ := putF X2 hx hZ hown (host := "") (Or.inl (own_W hw 79 rfl)) Via.refl rfl f3 f4 (Or.inr ⟨(own_W hw 80 rfl), rfl, hnm⟩) (own_W hw 2 rfl) (ty := (.object "com/example/tyche/tyche/model/jani/Operator")) (by decide) rfl rfl (g := (mkF m 11 #[vr pr0, vr pr1, vr b2, vr pr3] [(.ref pr1), (.ref pr0)])) rfl rfl (hb hby d5_11)
  have Fw5 := f3.same W5
  have N5 := Fr.snoc X5 N2 g_pr0
  have f6 := F_operands_pr0.keep K2 nin0
  have f7 := f6.other W5 (Or.inr (slot_ne (Or.inr (own_W hw 82 rfl)) (Or.inr (own_W hw 80 rfl)) (by decide) (t := (.object "java/util/List")) (t' := (.object "com/example/tyche/tyche/model/jani/Operator")) (by decide) (by decide)))
  have f8 := f4.wr W5
  obtain ⟨T9, h9, X9, e9, W9, st9⟩ := putF X5 hx hZ hown (host := "") (Or.inl (own_W hw 81 rfl)) Via.refl e5 f7 f8 (Or.inr ⟨(own_W hw 82 rfl), rfl, hnm⟩) (own_W hw 2 rfl) (ty := (.object "java/util/List")) (by decide) rfl rfl (g := (mkF m 16 #[vr pr0, vr pr1, vr b2, vr pr3] [(.ref b2), (.ref pr0)])) rfl rfl (hb hby d5_16)
  have Fw9 := f7.same W9
  have N9 := Fr.snoc X9 N5 g_pr0
  have f10 := F_path_pr0.keep K2 nin0
  have f11 := f10.other W5 (Or.inr (slot_ne (Or.inr (own_W hw 84 rfl)) (Or.inr (own_W hw 80 rfl)) (by decide) (t := (.object "java/lang/String")) (t' := (.object "com/example/tyche/tyche/model/jani/Operator")) (by decide) (by decide)))
  have f12 := f11.other W9 (Or.inr (slot_ne (Or.inr (own_W hw 84 rfl)) (Or.inr (own_W hw 82 rfl)) (by decide) (t := (.object "java/lang/String")) (t' := (.object "java/util/List")) (by decide) (by decide)))
  have f13 := f8.wr W9
  obtain ⟨T14, h14, X14, e14, W14, st14⟩ := putF X9 hx hZ hown (host := "") (Or.inl (own_W hw 83 rfl)) Via.refl e9 f12 f13 (Or.inr ⟨(own_W hw 84 rfl), rfl, hnm⟩) (own_W hw 2 rfl) (ty := (.object "java/lang/String")) (by decide) rfl rfl (g := (mkF m 21 #[vr pr0, vr pr1, vr b2, vr pr3] [(.ref pr3), (.ref pr0)])) rfl rfl (hb hby d5_21)
  have Fw14 := f12.same W14
  have N14 := Fr.snoc X14 N9 g_pr0
  have k15 : Keep h0 T2.heap [pr0] := (Keep.refl h0 [pr0]).trans K2 all0
  have k16 : Keep h0 h5 [pr0] := k15.wr W5 (Or.inl (List.mem_of_getElem? (i := 0) rfl))
  have k17 : Keep h0 h9 [pr0] := k16.wr W9 (Or.inl (List.mem_of_getElem? (i := 0) rfl))
  have k18 : Keep h0 h14 [pr0] := k17.wr W14 (Or.inl (List.mem_of_getElem? (i := 0) rfl))
  have f19 := f13.wr W14
  have f20 := Fw5.other W9 (Or.inr (slot_ne (Or.inr (own_W hw 80 rfl)) (Or.inr (own_W hw 82 rfl)) (by decide) (t := (.object "com/example/tyche/tyche/model/jani/Operator")) (t' := (.object "java/util/List")) (by decide) (by decide)))
  have f21 := f20.other W14 (Or.inr (slot_ne (Or.inr (own_W hw 80 rfl)) (Or.inr (own_W hw 84 rfl)) (by decide) (t := (.object "com/example/tyche/tyche/model/jani/Operator")) (t' := (.object "java/lang/String")) (by decide) (by decide)))
  have f22 := Fw9.other W14 (Or.inr (slot_ne (Or.inr (own_W hw 82 rfl)) (Or.inr (own_W hw 84 rfl)) (by decide) (t := (.object "java/util/List")) (t' := (.object "java/lang/String")) (by decide) (by decide)))
  have f23 := qf2_1.wr W5
  have f24 := f23.wr W9
  have f25 := f24.wr W14
  have f26 := qf2_2.other W5 (Or.inl (Ne.symm (Nat.ne_of_lt (Nat.lt_of_lt_of_le F_path_pr0.lt qf2_0))))
  have f27 := f26.other W9 (Or.inl (Ne.symm (Nat.ne_of_lt (Nat.lt_of_lt_of_le F_path_pr0.lt qf2_0))))
  have f28 := f27.other W14 (Or.inl (Ne.symm (Nat.ne_of_lt (Nat.lt_of_lt_of_le F_path_pr0.lt qf2_0))))
  have f29 := qf2_3.other W5 (Or.inl (Ne.symm (Nat.ne_of_lt (Nat.lt_of_lt_of_le F_path_pr0.lt qf2_0))))
  have f30 := f29.other W9 (Or.inl (Ne.symm (Nat.ne_of_lt (Nat.lt_of_lt_of_le F_path_pr0.lt qf2_0))))
  have f31 := f30.other W14 (Or.inl (Ne.symm (Nat.ne_of_lt (Nat.lt_of_lt_of_le F_path_pr0.lt qf2_0))))
  obtain ⟨fs, hr, hrun, hended, hW, hsame⟩ := X14.leave (v := none) (fun _ => rfl) (BodyLoose.notSynchronized Bd)
  refine ⟨_, _, pre0 _ ?_, hrun, hended, _, _, rfl, ?_, ⟨_, rfl⟩, hW, hsame.mono (by decide) (by decide)⟩
  · show Stp p e below s₁ m 0 #[vr pr0, vr pr1, vr pr2, vr pr3] [] _
    refine XS.aloadN X0.here hx rfl (hb hby d5_0) rfl rfl ?_
    refine st1.trans ?_
    show Stp p e below T1 m 4 #[vr pr0, vr pr1, vr pr2, vr pr3] [] _
    refine XS.aloadN X1.here hx rfl (hb hby d5_4) rfl rfl ?_
    refine st2 _ ?_
    show Stp p e below T2 m 8 #[vr pr0, vr pr1, vr pr2, vr pr3] [(.ref b2)] _
    refine XS.astoreN X2.here hx rfl (hb hby d5_8) rfl rfl (l' := #[vr pr0, vr pr1, vr b2, vr pr3]) rfl ?_
    refine XS.aloadN X2.here hx rfl (hb hby d5_9) rfl rfl ?_
    refine XS.aloadN X2.here hx rfl (hb hby d5_10) rfl rfl ?_
    refine st5 _ ?_
    show Stp p e below T5 m 14 #[vr pr0, vr pr1, vr b2, vr pr3] [] _
    refine XS.aloadN X5.here hx rfl (hb hby d5_14) rfl rfl ?_
    refine XS.aloadN X5.here hx rfl (hb hby d5_15) rfl rfl ?_
    refine st9 _ ?_
    show Stp p e below T9 m 19 #[vr pr0, vr pr1, vr b2, vr pr3] [] _
    refine XS.aloadN X9.here hx rfl (hb hby d5_19) rfl rfl ?_
    refine XS.aloadN X9.here hx rfl (hb hby d5_20) rfl rfl ?_
    refine st14 _ ?_
    show Stp p e below T14 m 24 #[vr pr0, vr pr1, vr b2, vr pr3] [] _
    exact X14.returnOut hx Bd.returns (hb hby d5_24) hr
  · show Q5_1 Z pr0 pr1 pr2 pr3 w_mir w_arr kk_w_arr c0_w_arr c1_w_arr c2_w_arr c3_w_arr c4_w_arr c5_w_arr c6_w_arr c7_w_arr c8_w_arr c9_w_arr w_EMPTY u_operator_pr0 u_operands_pr0 u_path_pr0 h0 n0 _ T14.heap _
    rw [e14]
    exact ⟨b2, rfl, N14, k18, f19, f21, f22, Fw14, (Nat.le_trans (Keep.refl h0 [pr0]).1 qf2_0), f25, f28, f31⟩
def Q5_2 (Z : State) (pr0 : Addr) (pr1 : Addr) (pr2 : Addr) (pr3 : Addr) (w_mir : Addr) (w_arr : Addr) (kk_w_arr : ClassId) (c0_w_arr : Addr) (c1_w_arr : Addr) (c2_w_arr : Value) (c3_w_arr : Value) (c4_w_arr : Value) (c5_w_arr : Value) (c6_w_arr : Value) (c7_w_arr : Value) (c8_w_arr : Value) (c9_w_arr : Value) (u_operator_pr0 : Value) (u_operands_pr0 : Value) (u_path_pr0 : Value) (h0 : Heap) (n0 : Nat) (v : Option Value) (h : Heap) (L : List Loc) : Prop := ∃ b2 : Addr, v = none ∧ Fr n0 L ∧ Keep h0 h [pr0] ∧ Exa Z h pr0 "com/example/tyche/tyche/model/jani/Expression$Operation" ∧ Fld Z h pr0 "com/example/tyche/tyche/model/jani/Expression$Operation" "operator" "Lcom/example/tyche/tyche/model/jani/Operator;" (.ref pr1) ∧ Fld Z h pr0 "com/example/tyche/tyche/model/jani/Expression$Operation" "operands" "Ljava/util/List;" (.ref b2) ∧ Fld Z h pr0 "com/example/tyche/tyche/model/jani/Expression$Operation" "path" "Ljava/lang/String;" (.ref pr3) ∧ h0.size ≤ b2 ∧ Exa Z h b2 "java/util/ImmutableCollections$List12" ∧ Fld Z h b2 "java/util/ImmutableCollections$List12" "e0" "Ljava/lang/Object;" (.ref c0_w_arr) ∧ Fld Z h b2 "java/util/ImmutableCollections$List12" "e1" "Ljava/lang/Object;" (.ref c1_w_arr)
set_option maxRecDepth 65536 in
set_option maxHeartbeats 40000000 in
theorem rm5_2 (l : Launch) (Z : State) (a0 : Array Value) (hw : ∀ d ∈ tables_1, d.before a0 Z = true) (ws : List Jvm.Cond) (pr0 : Addr) (pr1 : Addr) (pr2 : Addr) (pr3 : Addr) (w_mir : Addr) (w_arr : Addr) (kk_w_arr : ClassId) (c0_w_arr : Addr) (c1_w_arr : Addr) (c2_w_arr : Value) (c3_w_arr : Value) (c4_w_arr : Value) (c5_w_arr : Value) (c6_w_arr : Value) (c7_w_arr : Value) (c8_w_arr : Value) (c9_w_arr : Value) (u_operator_pr0 : Value) (u_operands_pr0 : Value) (u_path_pr0 : Value) (h0 : Heap) (n0 : Nat) (Z0 : n0 ≤ h0.size) (O0 : Old Z n0 h0) (E_pr0 : Exa Z h0 pr0 "com/example/tyche/tyche/model/jani/Expression$Operation") (M_mir : Mir Z "[Ljava/lang/Object;" w_mir) (E_pr2 : Exa Z h0 pr2 "java/util/ArrayList") (F_elementData_pr2 : Fld Z h0 pr2 "java/util/ArrayList" "elementData" "[Ljava/lang/Object;" (.ref w_arr)) (F_size_pr2 : Fld Z h0 pr2 "java/util/ArrayList" "size" "I" (.int 2)) (E_w_arr : Exa Z h0 w_arr "[Ljava/lang/Object;") (V_w_arr : Arv Z h0 w_arr kk_w_arr (.object "java/lang/Object") (10 : Int32) [(.ref c0_w_arr), (.ref c1_w_arr), c2_w_arr, c3_w_arr, c4_w_arr, c5_w_arr, c6_w_arr, c7_w_arr, c8_w_arr, c9_w_arr] .null) (E_c0_w_arr : Exa Z h0 c0_w_arr "com/example/tyche/tyche/model/jani/Expression$Operation") (E_c1_w_arr : Exa Z h0 c1_w_arr "com/example/tyche/tyche/model/jani/Expression$Operation") (F_operator_pr0 : Fld Z h0 pr0 "com/example/tyche/tyche/model/jani/Expression$Operation" "operator" "Lcom/example/tyche/tyche/model/jani/Operator;" u_operator_pr0) (g_pr0 : n0 ≤ pr0) (F_operands_pr0 : Fld Z h0 pr0 "com/example/tyche/tyche/model/jani/Expression$Operation" "operands" "Ljava/util/List;" u_operands_pr0) (F_path_pr0 : Fld Z h0 pr0 "com/example/tyche/tyche/model/jani/Expression$Operation" "path" "Ljava/lang/String;" u_path_pr0) :
    MetFree l mN27 (head1 (Jvm.Cond.code mN27 prog_67_method_1_code 4 none :: ws) ({ frames := 8, cells := 2, slots := 4, locals := 101 } : Room)) (fun a U => a = #[(.ref pr0), (.ref pr1), (.ref pr2), (.ref pr3)] ∧ Z.Warmed39 U.vm ∧ U.heap = h0) (fun _ _ _ _ _ => True) (fun _ U o U' => ∃ v L, o = .returned v ∧ Q5_2 Z pr0 pr1 pr2 pr3 w_mir w_arr kk_w_arr c0_w_arr c1_w_arr c2_w_arr c3_w_arr c4_w_arr c5_w_arr c6_w_arr c7_w_arr c8_w_arr c9_w_arr u_operator_pr0 u_operands_pr0 u_path_pr0 h0 n0 v U'.heap L ∧ FrameEnd U o U' L ({ frames := 8, cells := 2, slots := 4, locals := 101 } : Room).cells ({ frames := 8, cells := 2, slots := 4, locals := 101 } : Room).slots) := by
  refine MetFree.of_bodySF (plainFor_of_name pn_5) hisR ?_
  intro p e s m args below meth c s₁ Bd hml0 hP hK
  obtain ⟨rfl, hZ, hh⟩ := hP
  have hx := Bd.exec
  have hby := Bd.bytes
  have hml : c.maxLocals = 4 := hml0
  have hown : s.vm.findClass "com/example/tyche/tyche/model/jani/Expression$Operation" = some m.cls := findClass_of_methodNamed Bd.named
  have hnm := (name_of_methodNamed Bd.named Bd.method).1
  have X0 : Stand p l e ({ frames := 8, cells := 2, slots := 4, locals := 101 } : Room) s m #[(.ref pr0), (.ref pr1), (.ref pr2), (.ref pr3)] below meth c s₁ [] 0 0 := Stand.of_body Bd
  have e0 : s₁.heap = h0 := by rw [← hh, Bd.state]; rfl
  have N0 := Fr.nil n0
  have pre0 : ∀ t, Steps p.tables e below (s₁.setTop (mkF m 0 #[vr pr0, vr pr1, vr pr2, vr pr3] [])) t → Steps p.tables e below (s₁.setTop (entryFrame m #[(.ref pr0), (.ref pr1), (.ref pr2), (.ref pr3)] 4)) t := fun t k => castTop (ef_5 m pr0 pr1 pr2 pr3) k
  obtain ⟨_, _, ⟨T1, L1, k1, n1⟩, -, X1, ⟨Lc1, hQ1, l1, y1, z1⟩, st1⟩ := X0.specialBack hx (y := mN26) rfl hown (mvT hZ (own_W hw 44 rfl)) (mvT hZ (own_W hw 45 rfl)) (mvT hZ (own_W hw 48 rfl)) (by decide) (backOf (W := 0) (rm6 l Z a0 hw [] pr0 h0 n0 Z0 O0 ) hZ (own_W hw 48 rfl) (own_W hw 47 rfl) (by decide) (by decide)) (g := (mkF m 1 #[vr pr0, vr pr1, vr pr2, vr pr3] [(.ref pr0)])) rfl (by rw [hml]; rfl) (Steps.refl _) (a := pr0) (argsL := []) (rest := []) (lenOf pd_0 rfl) rfl (by show 2 * 0 + _ ≤ _; exact Nat.le_of_eq rfl) (hb hby d5_1) (fun _ _ => ⟨rfl, e0, (by decide : 0 + 0 ≤ _), (by decide : 0 + 0 ≤ _)⟩)
  dsimp only [Pt.U, Pt.locs, Pt.cells, Pt.slots] at X1 l1 y1 z1 st1 hQ1
  subst l1 y1 z1
  obtain ⟨rfl, N1q, eq1⟩ := hQ1
  have N1 := Fr.app N0 N1q
  obtain ⟨_, _, ⟨T2, L2, k2, n2⟩, -, X2, ⟨Lc2, hQ2, l2, y2, z2⟩, st2⟩ := Jvm.LawKit.callS X1 hx (y := mN25) hown (mvT hZ (own_W hw 50 rfl)) (mvT hZ (own_W hw 51 rfl)) (mvT hZ (own_W hw 52 rfl)) (mvT hZ (own_W hw 53 rfl)) (by decide) (backOf (W := 0) (rm7_2 l Z a0 hw [] pr2 w_mir w_arr kk_w_arr c0_w_arr c1_w_arr c2_w_arr c3_w_arr c4_w_arr c5_w_arr c6_w_arr c7_w_arr c8_w_arr c9_w_arr h0 n0 Z0 O0 M_mir E_pr2 F_elementData_pr2 F_size_pr2 E_w_arr V_w_arr E_c0_w_arr E_c1_w_arr) hZ (own_W hw 53 rfl) (own_W hw 52 rfl) (by decide) (by decide)) (g := (mkF m 5 #[vr pr0, vr pr1, vr pr2, vr pr3] [(.ref pr2)])) rfl (by rw [hml]; rfl) (argsL := [(.ref pr2)]) (rest := []) (lenOf pd_2 rfl) rfl (by show 2 * 0 + _ ≤ _; exact Nat.le_of_eq rfl) (hb hby d5_5) (fun _ _ => ⟨rfl, eq1, (by decide : 0 + 2 ≤ _), (by decide : 0 + 4 ≤ _)⟩)
  dsimp only [Pt.U, Pt.locs, Pt.cells, Pt.slots] at X2 l2 y2 z2 st2 hQ2
  subst l2 y2 z2
  obtain ⟨b2, rfl, N2q, K2, qf2_0, qf2_1, qf2_2, qf2_3⟩ := hQ2
  have N2 := Fr.app N1 N2q
  have f3 := F_operator_pr0.keep K2 nin0
  have f4 := E_pr0.keep K2
  obtain ⟨T5, h5, X5, e5, W5, st5⟩ := putF X2 hx hZ hown (host := "") (Or.inl (own_W hw 79 rfl)) Via.refl rfl f3 f4 (Or.inr ⟨(own_W hw 80 rfl), rfl, hnm⟩) (own_W hw 2 rfl) (ty := (.object "com/example/tyche/tyche/model/jani/Operator")) (by decide) rfl rfl (g := (mkF m 11 #[vr pr0, vr pr1, vr b2, vr pr3] [(.ref pr1), (.ref pr0)])) rfl rfl (hb hby d5_11)
  have Fw5 := f3.same W5
  have N5 := Fr.snoc X5 N2 g_pr0
  have f6 := F_operands_pr0.keep K2 nin0
  have f7 := f6.other W5 (Or.inr (slot_ne (Or.inr (own_W hw 82 rfl)) (Or.inr (own_W hw 80 rfl)) (by decide) (t := (.object "java/util/List")) (t' := (.object "com/example/tyche/tyche/model/jani/Operator")) (by decide) (by decide)))
  have f8 := f4.wr W5
  obtain ⟨T9, h9, X9, e9, W9, st9⟩ := putF X5 hx hZ hown (host := "") (Or.inl (own_W hw 81 rfl)) Via.refl e5 f7 f8 (Or.inr ⟨(own_W hw 82 rfl), rfl, hnm⟩) (own_W hw 2 rfl) (ty := (.object "java/util/List")) (by decide) rfl rfl (g := (mkF m 16 #[vr pr0, vr pr1, vr b2, vr pr3] [(.ref b2), (.ref pr0)])) rfl rfl (hb hby d5_16)
  have Fw9 := f7.same W9
  have N9 := Fr.snoc X9 N5 g_pr0
  have f10 := F_path_pr0.keep K2 nin0
  have f11 := f10.other W5 (Or.inr (slot_ne (Or.inr (own_W hw 84 rfl)) (Or.inr (own_W hw 80 rfl)) (by decide) (t := (.object "java/lang/String")) (t' := (.object "com/example/tyche/tyche/model/jani/Operator")) (by decide) (by decide)))
  have f12 := f11.other W9 (Or.inr (slot_ne (Or.inr (own_W hw 84 rfl)) (Or.inr (own_W hw 82 rfl)) (by decide) (t := (.object "java/lang/String")) (t' := (.object "java/util/List")) (by decide) (by decide)))
  have f13 := f8.wr W9
  obtain ⟨T14, h14, X14, e14, W14, st14⟩ := putF X9 hx hZ hown (host := "") (Or.inl (own_W hw 83 rfl)) Via.refl e9 f12 f13 (Or.inr ⟨(own_W hw 84 rfl), rfl, hnm⟩) (own_W hw 2 rfl) (ty := (.object "java/lang/String")) (by decide) rfl rfl (g := (mkF m 21 #[vr pr0, vr pr1, vr b2, vr pr3] [(.ref pr3), (.ref pr0)])) rfl rfl (hb hby d5_21)
  have Fw14 := f12.same W14
  have N14 := Fr.snoc X14 N9 g_pr0
  have k15 : Keep h0 T2.heap [pr0] := (Keep.refl h0 [pr0]).trans K2 all0
  have k16 : Keep h0 h5 [pr0] := k15.wr W5 (Or.inl (List.mem_of_getElem? (i := 0) rfl))
  have k17 : Keep h0 h9 [pr0] := k16.wr W9 (Or.inl (List.mem_of_getElem? (i := 0) rfl))
  have k18 : Keep h0 h14 [pr0] := k17.wr W14 (Or.inl (List.mem_of_getElem? (i := 0) rfl))
  have f19 := f13.wr W14
  have f20 := Fw5.other W9 (Or.inr (slot_ne (Or.inr (own_W hw 80 rfl)) (Or.inr (own_W hw 82 rfl)) (by decide) (t := (.object "com/example/tyche/tyche/model/jani/Operator")) (t' := (.object "java/util/List")) (by decide) (by decide)))
  have f21 := f20.other W14 (Or.inr (slot_ne (Or.inr (own_W hw 80 rfl)) (Or.inr (own_W hw 84 rfl)) (by decide) (t := (.object "com/example/tyche/tyche/model/jani/Operator")) (t' := (.object "java/lang/String")) (by decide) (by decide)))
  have f22 := Fw9.other W14 (Or.inr (slot_ne (Or.inr (own_W hw 82 rfl)) (Or.inr (own_W hw 84 rfl)) (by decide) (t := (.object "java/util/List")) (t' := (.object "java/lang/String")) (by decide) (by decide)))
  have f23 := qf2_1.wr W5
  have f24 := f23.wr W9
  have f25 := f24.wr W14
  have f26 := qf2_2.other W5 (Or.inl (Ne.symm (Nat.ne_of_lt (Nat.lt_of_lt_of_le F_path_pr0.lt qf2_0))))
  have f27 := f26.other W9 (Or.inl (Ne.symm (Nat.ne_of_lt (Nat.lt_of_lt_of_le F_path_pr0.lt qf2_0))))
  have f28 := f27.other W14 (Or.inl (Ne.symm (Nat.ne_of_lt (Nat.lt_of_lt_of_le F_path_pr0.lt qf2_0))))
  have f29 := qf2_3.other W5 (Or.inl (Ne.symm (Nat.ne_of_lt (Nat.lt_of_lt_of_le F_path_pr0.lt qf2_0))))
  have f30 := f29.other W9 (Or.inl (Ne.symm (Nat.ne_of_lt (Nat.lt_of_lt_of_le F_path_pr0.lt qf2_0))))
  have f31 := f30.other W14 (Or.inl (Ne.symm (Nat.ne_of_lt (Nat.lt_of_lt_of_le F_path_pr0.lt qf2_0))))
  obtain ⟨fs, hr, hrun, hended, hW, hsame⟩ := X14.leave (v := none) (fun _ => rfl) (BodyLoose.notSynchronized Bd)
  refine ⟨_, _, pre0 _ ?_, hrun, hended, _, _, rfl, ?_, ⟨_, rfl⟩, hW, hsame.mono (by decide) (by decide)⟩
  · show Stp p e below s₁ m 0 #[vr pr0, vr pr1, vr pr2, vr pr3] [] _
    refine XS.aloadN X0.here hx rfl (hb hby d5_0) rfl rfl ?_
    refine st1.trans ?_
    show Stp p e below T1 m 4 #[vr pr0, vr pr1, vr pr2, vr pr3] [] _
    refine XS.aloadN X1.here hx rfl (hb hby d5_4) rfl rfl ?_
    refine st2 _ ?_
    show Stp p e below T2 m 8 #[vr pr0, vr pr1, vr pr2, vr pr3] [(.ref b2)] _
    refine XS.astoreN X2.here hx rfl (hb hby d5_8) rfl rfl (l' := #[vr pr0, vr pr1, vr b2, vr pr3]) rfl ?_
    refine XS.aloadN X2.here hx rfl (hb hby d5_9) rfl rfl ?_
    refine XS.aloadN X2.here hx rfl (hb hby d5_10) rfl rfl ?_
    refine st5 _ ?_
    show Stp p e below T5 m 14 #[vr pr0, vr pr1, vr b2, vr pr3] [] _
    refine XS.aloadN X5.here hx rfl (hb hby d5_14) rfl rfl ?_
    refine XS.aloadN X5.here hx rfl (hb hby d5_15) rfl rfl ?_
    refine st9 _ ?_
    show Stp p e below T9 m 19 #[vr pr0, vr pr1, vr b2, vr pr3] [] _
    refine XS.aloadN X9.here hx rfl (hb hby d5_19) rfl rfl ?_
    refine XS.aloadN X9.here hx rfl (hb hby d5_20) rfl rfl ?_
    refine st14 _ ?_
    show Stp p e below T14 m 24 #[vr pr0, vr pr1, vr b2, vr pr3] [] _
    exact X14.returnOut hx Bd.returns (hb hby d5_24) hr
  · show Q5_2 Z pr0 pr1 pr2 pr3 w_mir w_arr kk_w_arr c0_w_arr c1_w_arr c2_w_arr c3_w_arr c4_w_arr c5_w_arr c6_w_arr c7_w_arr c8_w_arr c9_w_arr u_operator_pr0 u_operands_pr0 u_path_pr0 h0 n0 _ T14.heap _
    rw [e14]
    exact ⟨b2, rfl, N14, k18, f19, f21, f22, Fw14, (Nat.le_trans (Keep.refl h0 [pr0]).1 qf2_0), f25, f28, f31⟩
def Q5_3 (Z : State) (pr0 : Addr) (pr1 : Addr) (pr2 : Addr) (pr3 : Addr) (w_mir : Addr) (w_arr : Addr) (kk_w_arr : ClassId) (c0_w_arr : Addr) (c1_w_arr : Addr) (c2_w_arr : Addr) (c3_w_arr : Value) (c4_w_arr : Value) (c5_w_arr : Value) (c6_w_arr : Value) (c7_w_arr : Value) (c8_w_arr : Value) (c9_w_arr : Value) (u_operator_pr0 : Value) (u_operands_pr0 : Value) (u_path_pr0 : Value) (h0 : Heap) (n0 : Nat) (v : Option Value) (h : Heap) (L : List Loc) : Prop := ∃ b2 : Addr, ∃ b2_1 : Addr, ∃ b2_2 : ClassId, v = none ∧ Fr n0 L ∧ Keep h0 h [pr0] ∧ Exa Z h pr0 "com/example/tyche/tyche/model/jani/Expression$Operation" ∧ Fld Z h pr0 "com/example/tyche/tyche/model/jani/Expression$Operation" "operator" "Lcom/example/tyche/tyche/model/jani/Operator;" (.ref pr1) ∧ Fld Z h pr0 "com/example/tyche/tyche/model/jani/Expression$Operation" "operands" "Ljava/util/List;" (.ref b2) ∧ Fld Z h pr0 "com/example/tyche/tyche/model/jani/Expression$Operation" "path" "Ljava/lang/String;" (.ref pr3) ∧ h0.size ≤ b2 ∧ Exa Z h b2 "java/util/ImmutableCollections$ListN" ∧ Fld Z h b2 "java/util/ImmutableCollections$ListN" "elements" "[Ljava/lang/Object;" (.ref b2_1) ∧ Fld Z h b2 "java/util/ImmutableCollections$ListN" "allowNulls" "Z" (.int 0) ∧ h0.size ≤ b2_1 ∧ Arv Z h b2_1 b2_2 (.object "java/lang/Object") (3 : Int32) [(.ref c0_w_arr), (.ref c1_w_arr), (.ref c2_w_arr)] .null ∧ Ovr Z b2_2 "java/lang/Object"
set_option maxRecDepth 65536 in
set_option maxHeartbeats 40000000 in
theorem rm5_3 (l : Launch) (Z : State) (a0 : Array Value) (hw : ∀ d ∈ tables_1, d.before a0 Z = true) (ws : List Jvm.Cond) (pr0 : Addr) (pr1 : Addr) (pr2 : Addr) (pr3 : Addr) (w_mir : Addr) (w_arr : Addr) (kk_w_arr : ClassId) (c0_w_arr : Addr) (c1_w_arr : Addr) (c2_w_arr : Addr) (c3_w_arr : Value) (c4_w_arr : Value) (c5_w_arr : Value) (c6_w_arr : Value) (c7_w_arr : Value) (c8_w_arr : Value) (c9_w_arr : Value) (u_operator_pr0 : Value) (u_operands_pr0 : Value) (u_path_pr0 : Value) (h0 : Heap) (n0 : Nat) (Z0 : n0 ≤ h0.size) (O0 : Old Z n0 h0) (E_pr0 : Exa Z h0 pr0 "com/example/tyche/tyche/model/jani/Expression$Operation") (M_mir : Mir Z "[Ljava/lang/Object;" w_mir) (E_pr2 : Exa Z h0 pr2 "java/util/ArrayList") (F_elementData_pr2 : Fld Z h0 pr2 "java/util/ArrayList" "elementData" "[Ljava/lang/Object;" (.ref w_arr)) (F_size_pr2 : Fld Z h0 pr2 "java/util/ArrayList" "size" "I" (.int 3)) (E_w_arr : Exa Z h0 w_arr "[Ljava/lang/Object;") (V_w_arr : Arv Z h0 w_arr kk_w_arr (.object "java/lang/Object") (10 : Int32) [(.ref c0_w_arr), (.ref c1_w_arr), (.ref c2_w_arr), c3_w_arr, c4_w_arr, c5_w_arr, c6_w_arr, c7_w_arr, c8_w_arr, c9_w_arr] .null) (E_c0_w_arr : Exa Z h0 c0_w_arr "com/example/tyche/tyche/model/jani/Expression$Operation") (E_c1_w_arr : Exa Z h0 c1_w_arr "com/example/tyche/tyche/model/jani/Expression$Operation") (E_c2_w_arr : Exa Z h0 c2_w_arr "com/example/tyche/tyche/model/jani/Expression$Operation") (F_operator_pr0 : Fld Z h0 pr0 "com/example/tyche/tyche/model/jani/Expression$Operation" "operator" "Lcom/example/tyche/tyche/model/jani/Operator;" u_operator_pr0) (g_pr0 : n0 ≤ pr0) (F_operands_pr0 : Fld Z h0 pr0 "com/example/tyche/tyche/model/jani/Expression$Operation" "operands" "Ljava/util/List;" u_operands_pr0) (F_path_pr0 : Fld Z h0 pr0 "com/example/tyche/tyche/model/jani/Expression$Operation" "path" "Ljava/lang/String;" u_path_pr0) :
    MetFree l mN27 (head1 (Jvm.Cond.code mN27 prog_67_method_1_code 4 none :: ws) ({ frames := 9, cells := 3, slots := 8, locals := 115 } : Room)) (fun a U => a = #[(.ref pr0), (.ref pr1), (.ref pr2), (.ref pr3)] ∧ Z.Warmed39 U.vm ∧ U.heap = h0) (fun _ _ _ _ _ => True) (fun _ U o U' => ∃ v L, o = .returned v ∧ Q5_3 Z pr0 pr1 pr2 pr3 w_mir w_arr kk_w_arr c0_w_arr c1_w_arr c2_w_arr c3_w_arr c4_w_arr c5_w_arr c6_w_arr c7_w_arr c8_w_arr c9_w_arr u_operator_pr0 u_operands_pr0 u_path_pr0 h0 n0 v U'.heap L ∧ FrameEnd U o U' L ({ frames := 9, cells := 3, slots := 8, locals := 115 } : Room).cells ({ frames := 9, cells := 3, slots := 8, locals := 115 } : Room).slots) := by
  refine MetFree.of_bodySF (plainFor_of_name pn_5) hisR ?_
  intro p e s m args below meth c s₁ Bd hml0 hP hK
  obtain ⟨rfl, hZ, hh⟩ := hP
  have hx := Bd.exec
  have hby := Bd.bytes
  have hml : c.maxLocals = 4 := hml0
  have hown : s.vm.findClass "com/example/tyche/tyche/model/jani/Expression$Operation" = some m.cls := findClass_of_methodNamed Bd.named
  have hnm := (name_of_methodNamed Bd.named Bd.method).1
  have X0 : Stand p l e ({ frames := 9, cells := 3, slots := 8, locals := 115 } : Room) s m #[(.ref pr0), (.ref pr1), (.ref pr2), (.ref pr3)] below meth c s₁ [] 0 0 := Stand.of_body Bd
  have e0 : s₁.heap = h0 := by rw [← hh, Bd.state]; rfl
  have N0 := Fr.nil n0
  have pre0 : ∀ t, Steps p.tables e below (s₁.setTop (mkF m 0 #[vr pr0, vr pr1, vr pr2, vr pr3] [])) t → Steps p.tables e below (s₁.setTop (entryFrame m #[(.ref pr0), (.ref pr1), (.ref pr2), (.ref pr3)] 4)) t := fun t k => castTop (ef_5 m pr0 pr1 pr2 pr3) k
  obtain ⟨_, _, ⟨T1, L1, k1, n1⟩, -, X1, ⟨Lc1, hQ1, l1, y1, z1⟩, st1⟩ := X0.specialBack hx (y := mN26) rfl hown (mvT hZ (own_W hw 44 rfl)) (mvT hZ (own_W hw 45 rfl)) (mvT hZ (own_W hw 48 rfl)) (by decide) (backOf (W := 0) (rm6 l Z a0 hw [] pr0 h0 n0 Z0 O0 ) hZ (own_W hw 48 rfl) (own_W hw 47 rfl) (by decide) (by decide)) (g := (mkF m 1 #[vr pr0, vr pr1, vr pr2, vr pr3] [(.ref pr0)])) rfl (by rw [hml]; rfl) (Steps.refl _) (a := pr0) (argsL := []) (rest := []) (lenOf pd_0 rfl) rfl (by show 2 * 0 + _ ≤ _; exact Nat.le_of_eq rfl) (hb hby d5_1) (fun _ _ => ⟨rfl, e0, (by decide : 0 + 0 ≤ _), (by decide : 0 + 0 ≤ _)⟩)
  dsimp only [Pt.U, Pt.locs, Pt.cells, Pt.slots] at X1 l1 y1 z1 st1 hQ1
  subst l1 y1 z1
  obtain ⟨rfl, N1q, eq1⟩ := hQ1
  have N1 := Fr.app N0 N1q
  obtain ⟨_, _, ⟨T2, L2, k2, n2⟩, -, X2, ⟨Lc2, hQ2, l2, y2, z2⟩, st2⟩ := Jvm.LawKit.callS X1 hx (y := mN25) hown (mvT hZ (own_W hw 50 rfl)) (mvT hZ (own_W hw 51 rfl)) (mvT hZ (own_W hw 52 rfl)) (mvT hZ (own_W hw 53 rfl)) (by decide) (backOf (W := 0) (rm7_3 l Z a0 hw [] pr2 w_mir w_arr kk_w_arr c0_w_arr c1_w_arr c2_w_arr c3_w_arr c4_w_arr c5_w_arr c6_w_arr c7_w_arr c8_w_arr c9_w_arr h0 n0 Z0 O0 M_mir E_pr2 F_elementData_pr2 F_size_pr2 E_w_arr V_w_arr E_c0_w_arr E_c1_w_arr E_c2_w_arr) hZ (own_W hw 53 rfl) (own_W hw 52 rfl) (by decide) (by decide)) (g := (mkF m 5 #[vr pr0, vr pr1, vr pr2, vr pr3] [(.ref pr2)])) rfl (by rw [hml]; rfl) (argsL := [(.ref pr2)]) (rest := []) (lenOf pd_2 rfl) rfl (by show 2 * 0 + _ ≤ _; exact Nat.le_of_eq rfl) (hb hby d5_5) (fun _ _ => ⟨rfl, eq1, (by decide : 0 + 3 ≤ _), (by decide : 0 + 8 ≤ _)⟩)
  dsimp only [Pt.U, Pt.locs, Pt.cells, Pt.slots] at X2 l2 y2 z2 st2 hQ2
  subst l2 y2 z2
  obtain ⟨b2, b2_1, b2_2, rfl, N2q, K2, qf2_0, qf2_1, qf2_2, qf2_3, qf2_4, qf2_5, qf2_6⟩ := hQ2
  have N2 := Fr.app N1 N2q
  have f3 := F_operator_pr0.keep K2 nin0
  have f4 := E_pr0.keep K2
  obtain ⟨T5, h5, X5, e5, W5, st5⟩ := putF X2 hx hZ hown (host := "") (Or.inl (own_W hw 79 rfl)) Via.refl rfl f3 f4 (Or.inr ⟨(own_W hw 80 rfl), rfl, hnm⟩) (own_W hw 2 rfl) (ty := (.object "com/example/tyche/tyche/model/jani/Operator")) (by decide) rfl rfl (g := (mkF m 11 #[vr pr0, vr pr1, vr b2, vr pr3] [(.ref pr1), (.ref pr0)])) rfl rfl (hb hby d5_11)
  have Fw5 := f3.same W5
  have N5 := Fr.snoc X5 N2 g_pr0
  have f6 := F_operands_pr0.keep K2 nin0
  have f7 := f6.other W5 (Or.inr (slot_ne (Or.inr (own_W hw 82 rfl)) (Or.inr (own_W hw 80 rfl)) (by decide) (t := (.object "java/util/List")) (t' := (.object "com/example/tyche/tyche/model/jani/Operator")) (by decide) (by decide)))
  have f8 := f4.wr W5
  obtain ⟨T9, h9, X9, e9, W9, st9⟩ := putF X5 hx hZ hown (host := "") (Or.inl (own_W hw 81 rfl)) Via.refl e5 f7 f8 (Or.inr ⟨(own_W hw 82 rfl), rfl, hnm⟩) (own_W hw 2 rfl) (ty := (.object "java/util/List")) (by decide) rfl rfl (g := (mkF m 16 #[vr pr0, vr pr1, vr b2, vr pr3] [(.ref b2), (.ref pr0)])) rfl rfl (hb hby d5_16)
  have Fw9 := f7.same W9
  have N9 := Fr.snoc X9 N5 g_pr0
  have f10 := F_path_pr0.keep K2 nin0
  have f11 := f10.other W5 (Or.inr (slot_ne (Or.inr (own_W hw 84 rfl)) (Or.inr (own_W hw 80 rfl)) (by decide) (t := (.object "java/lang/String")) (t' := (.object "com/example/tyche/tyche/model/jani/Operator")) (by decide) (by decide)))
  have f12 := f11.other W9 (Or.inr (slot_ne (Or.inr (own_W hw 84 rfl)) (Or.inr (own_W hw 82 rfl)) (by decide) (t := (.object "java/lang/String")) (t' := (.object "java/util/List")) (by decide) (by decide)))
  have f13 := f8.wr W9
  obtain ⟨T14, h14, X14, e14, W14, st14⟩ := putF X9 hx hZ hown (host := "") (Or.inl (own_W hw 83 rfl)) Via.refl e9 f12 f13 (Or.inr ⟨(own_W hw 84 rfl), rfl, hnm⟩) (own_W hw 2 rfl) (ty := (.object "java/lang/String")) (by decide) rfl rfl (g := (mkF m 21 #[vr pr0, vr pr1, vr b2, vr pr3] [(.ref pr3), (.ref pr0)])) rfl rfl (hb hby d5_21)
  have Fw14 := f12.same W14
  have N14 := Fr.snoc X14 N9 g_pr0
  have k15 : Keep h0 T2.heap [pr0] := (Keep.refl h0 [pr0]).trans K2 all0
  have k16 : Keep h0 h5 [pr0] := k15.wr W5 (Or.inl (List.mem_of_getElem? (i := 0) rfl))
  have k17 : Keep h0 h9 [pr0] := k16.wr W9 (Or.inl (List.mem_of_getElem? (i := 0) rfl))
  have k18 : Keep h0 h14 [pr0] := k17.wr W14 (Or.inl (List.mem_of_getElem? (i := 0) rfl))
  have f19 := f13.wr W14
  have f20 := Fw5.other W9 (Or.inr (slot_ne (Or.inr (own_W hw 80 rfl)) (Or.inr (own_W hw 82 rfl)) (by decide) (t := (.object "com/example/tyche/tyche/model/jani/Operator")) (t' := (.object "java/util/List")) (by decide) (by decide)))
  have f21 := f20.other W14 (Or.inr (slot_ne (Or.inr (own_W hw 80 rfl)) (Or.inr (own_W hw 84 rfl)) (by decide) (t := (.object "com/example/tyche/tyche/model/jani/Operator")) (t' := (.object "java/lang/String")) (by decide) (by decide)))
  have f22 := Fw9.other W14 (Or.inr (slot_ne (Or.inr (own_W hw 82 rfl)) (Or.inr (own_W hw 84 rfl)) (by decide) (t := (.object "java/util/List")) (t' := (.object "java/lang/String")) (by decide) (by decide)))
  have f23 := qf2_1.wr W5
  have f24 := f23.wr W9
  have f25 := f24.wr W14
  have f26 := qf2_2.other W5 (Or.inl (Ne.symm (Nat.ne_of_lt (Nat.lt_of_lt_of_le F_path_pr0.lt qf2_0))))
  have f27 := f26.other W9 (Or.inl (Ne.symm (Nat.ne_of_lt (Nat.lt_of_lt_of_le F_path_pr0.lt qf2_0))))
  have f28 := f27.other W14 (Or.inl (Ne.symm (Nat.ne_of_lt (Nat.lt_of_lt_of_le F_path_pr0.lt qf2_0))))
  have f29 := qf2_3.other W5 (Or.inl (Ne.symm (Nat.ne_of_lt (Nat.lt_of_lt_of_le F_path_pr0.lt qf2_0))))
  have f30 := f29.other W9 (Or.inl (Ne.symm (Nat.ne_of_lt (Nat.lt_of_lt_of_le F_path_pr0.lt qf2_0))))
  have f31 := f30.other W14 (Or.inl (Ne.symm (Nat.ne_of_lt (Nat.lt_of_lt_of_le F_path_pr0.lt qf2_0))))
  have f32 := qf2_5.other W5 (Ne.symm (Nat.ne_of_lt (Nat.lt_of_lt_of_le F_path_pr0.lt qf2_4)))
  have f33 := f32.other W9 (Ne.symm (Nat.ne_of_lt (Nat.lt_of_lt_of_le F_path_pr0.lt qf2_4)))
  have f34 := f33.other W14 (Ne.symm (Nat.ne_of_lt (Nat.lt_of_lt_of_le F_path_pr0.lt qf2_4)))
  obtain ⟨fs, hr, hrun, hended, hW, hsame⟩ := X14.leave (v := none) (fun _ => rfl) (BodyLoose.notSynchronized Bd)
  refine ⟨_, _, pre0 _ ?_, hrun, hended, _, _, rfl, ?_, ⟨_, rfl⟩, hW, hsame.mono (by decide) (by decide)⟩
  · show Stp p e below s₁ m 0 #[vr pr0, vr pr1, vr pr2, vr pr3] [] _
    refine XS.aloadN X0.here hx rfl (hb hby d5_0) rfl rfl ?_
    refine st1.trans ?_
    show Stp p e below T1 m 4 #[vr pr0, vr pr1, vr pr2, vr pr3] [] _
    refine XS.aloadN X1.here hx rfl (hb hby d5_4) rfl rfl ?_
    refine st2 _ ?_
    show Stp p e below T2 m 8 #[vr pr0, vr pr1, vr pr2, vr pr3] [(.ref b2)] _
    refine XS.astoreN X2.here hx rfl (hb hby d5_8) rfl rfl (l' := #[vr pr0, vr pr1, vr b2, vr pr3]) rfl ?_
    refine XS.aloadN X2.here hx rfl (hb hby d5_9) rfl rfl ?_
    refine XS.aloadN X2.here hx rfl (hb hby d5_10) rfl rfl ?_
    refine st5 _ ?_
    show Stp p e below T5 m 14 #[vr pr0, vr pr1, vr b2, vr pr3] [] _
    refine XS.aloadN X5.here hx rfl (hb hby d5_14) rfl rfl ?_
    refine XS.aloadN X5.here hx rfl (hb hby d5_15) rfl rfl ?_
    refine st9 _ ?_
    show Stp p e below T9 m 19 #[vr pr0, vr pr1, vr b2, vr pr3] [] _
    refine XS.aloadN X9.here hx rfl (hb hby d5_19) rfl rfl ?_
    refine XS.aloadN X9.here hx rfl (hb hby d5_20) rfl rfl ?_
    refine st14 _ ?_
    show Stp p e below T14 m 24 #[vr pr0, vr pr1, vr b2, vr pr3] [] _
    exact X14.returnOut hx Bd.returns (hb hby d5_24) hr
  · show Q5_3 Z pr0 pr1 pr2 pr3 w_mir w_arr kk_w_arr c0_w_arr c1_w_arr c2_w_arr c3_w_arr c4_w_arr c5_w_arr c6_w_arr c7_w_arr c8_w_arr c9_w_arr u_operator_pr0 u_operands_pr0 u_path_pr0 h0 n0 _ T14.heap _
    rw [e14]
    exact ⟨b2, b2_1, b2_2, rfl, N14, k18, f19, f21, f22, Fw14, (Nat.le_trans (Keep.refl h0 [pr0]).1 qf2_0), f25, f28, f31, (Nat.le_trans (Keep.refl h0 [pr0]).1 qf2_4), f34, qf2_6⟩
theorem d17_0 : decode jdk_43_method_3_code 0 = .ok (.iload_n 0, 1) := by decide +kernel
theorem d17_1 : decode jdk_43_method_3_code 1 = .ok (.sipush 255, 3) := by decide +kernel
theorem d17_4 : decode jdk_43_method_3_code 4 = .ok (.if_icmp .gt 7, 3) := by decide +kernel
theorem d17_7 : decode jdk_43_method_3_code 7 = .ok (.iconst 1, 1) := by decide +kernel
theorem d17_8 : decode jdk_43_method_3_code 8 = .ok (.goto 4, 3) := by decide +kernel
theorem d17_12 : decode jdk_43_method_3_code 12 = .ok (.ireturn, 1) := by decide +kernel
theorem pn_17 : plainName "java/lang/StringLatin1" = true := by first | (simp [plainName, overriddenIn]; done) | decide +kernel
theorem ef_17 (m : MethodId) (pi1 : Int32) : entryFrame m #[(.int pi1)] 1 = mkF m 0 #[vi pi1] [] := by first | (simp [entryFrame, mkF, argsToLocals, Value.category]; done) | rfl
def Q17 (Z : State) (pi1 : Int32) (h0 : Heap) (n0 : Nat) (v : Option Value) (h : Heap) (L : List Loc) : Prop := v = some (.int 1) ∧ Fr n0 L ∧ h = h0
set_option maxRecDepth 65536 in
set_option maxHeartbeats 40000000 in
theorem rm17 (l : Launch) (Z : State) (a0 : Array Value) (hw : ∀ d ∈ tables_1, d.before a0 Z = true) (ws : List Jvm.Cond) (pi1 : Int32) (h0 : Heap) (n0 : Nat) (Z0 : n0 ≤ h0.size) (O0 : Old Z n0 h0) (hc4_0 : ¬ ((255 : Int32) < pi1)) :
    MetFree l mN28 (head1 (Jvm.Cond.code mN28 jdk_43_method_3_code 1 (some .boolean) :: ws) ({ frames := 0, cells := 0, slots := 0, locals := 0 } : Room)) (fun a U => a = #[(.int pi1)] ∧ Z.Warmed39 U.vm ∧ U.heap = h0) (fun _ _ _ _ _ => True) (fun _ U o U' => ∃ v L, o = .returned v ∧ Q17 Z pi1 h0 n0 v U'.heap L ∧ FrameEnd U o U' L ({ frames := 0, cells := 0, slots := 0, locals := 0 } : Room).cells ({ frames := 0, cells := 0, slots := 0, locals := 0 } : Room).slots) := by
  refine MetFree.of_bodySF (plainFor_of_name pn_17) hisR ?_
  intro p e s m args below meth c s₁ Bd hml0 hP hK
  obtain ⟨rfl, hZ, hh⟩ := hP
  have hx := Bd.exec
  have hby := Bd.bytes
  have hml : c.maxLocals = 1 := hml0
  have hown : s.vm.findClass "java/lang/StringLatin1" = some m.cls := findClass_of_methodNamed Bd.named
  have hnm := (name_of_methodNamed Bd.named Bd.method).1
  have X0 : Stand p l e ({ frames := 0, cells := 0, slots := 0, locals := 0 } : Room) s m #[(.int pi1)] below meth c s₁ [] 0 0 := Stand.of_body Bd
  have e0 : s₁.heap = h0 := by rw [← hh, Bd.state]; rfl
  have N0 := Fr.nil n0
  have pre0 : ∀ t, Steps p.tables e below (s₁.setTop (mkF m 0 #[vi pi1] [])) t → Steps p.tables e below (s₁.setTop (entryFrame m #[(.int pi1)] 1)) t := fun t k => castTop (ef_17 m pi1) k
  obtain ⟨fs, hr, hrun, hended, hW, hsame⟩ := X0.leave (v := some (.int 1)) (fun h => by rw [Bd.returns] at h; cases h) (BodyLoose.notSynchronized Bd)
  refine ⟨_, _, pre0 _ ?_, hrun, hended, _, _, rfl, ?_, ⟨_, rfl⟩, hW, hsame.mono (by decide) (by decide)⟩
  · show Stp p e below s₁ m 0 #[vi pi1] [] _
    refine XS.iloadN X0.here hx rfl (hb hby d17_0) rfl ?_
    refine XS.sipush X0.here hx rfl (hb hby d17_1) ?_
    refine XS.icmpNo X0.here hx rfl (hb hby d17_4) rfl (flt hc4_0).2.2.1 ?_
    show Stp p e below s₁ m 7 #[vi pi1] [] _
    refine XS.iconst X0.here hx rfl (hb hby d17_7) ?_
    refine XS.goto X0.here hx rfl (pc0 := 8) (pc' := 12) rfl (hb hby d17_8) (by decide) (by decide) ?_
    show Stp p e below s₁ m 12 #[vi pi1] [(.int 1)] _
    exact retN X0 hx (t := .boolean) Bd.returns (by simp) (hb hby d17_12) hr
  · show Q17 Z pi1 h0 n0 _ s₁.heap _
    rw [e0]
    exact ⟨rfl, N0, rfl⟩
theorem d18_0 : decode jdk_43_method_46_code 0 = .ok (.iconst 1, 1) := by decide +kernel
theorem d18_1 : decode jdk_43_method_46_code 1 = .ok (.newarray .byte, 2) := by decide +kernel
theorem d18_3 : decode jdk_43_method_46_code 3 = .ok (.dup, 1) := by decide +kernel
theorem d18_4 : decode jdk_43_method_46_code 4 = .ok (.iconst 0, 1) := by decide +kernel
theorem d18_5 : decode jdk_43_method_46_code 5 = .ok (.iload_n 0, 1) := by decide +kernel
theorem d18_6 : decode jdk_43_method_46_code 6 = .ok (.i2b, 1) := by decide +kernel
theorem d18_7 : decode jdk_43_method_46_code 7 = .ok (.bastore, 1) := by decide +kernel
theorem d18_8 : decode jdk_43_method_46_code 8 = .ok (.areturn, 1) := by decide +kernel
theorem pn_18 : plainName "java/lang/StringLatin1" = true := by first | (simp [plainName, overriddenIn]; done) | decide +kernel
theorem ef_18 (m : MethodId) (pi1 : Int32) : entryFrame m #[(.int pi1)] 1 = mkF m 0 #[vi pi1] [] := by first | (simp [entryFrame, mkF, argsToLocals, Value.category]; done) | rfl
def Q18 (Z : State) (pi1 : Int32) (h0 : Heap) (n0 : Nat) (v : Option Value) (h : Heap) (L : List Loc) : Prop := ∃ b1 : Addr, ∃ k1 : ClassId, v = some (.ref b1) ∧ Fr n0 L ∧ Keep h0 h [] ∧ h0.size ≤ b1 ∧ Arv Z h b1 k1 .byte (1 : Int32) [(.int (nar .byte (pi1.toInt8.toInt32)))] (.int 0)
set_option maxRecDepth 65536 in
set_option maxHeartbeats 40000000 in
theorem rm18 (l : Launch) (Z : State) (a0 : Array Value) (hw : ∀ d ∈ tables_1, d.before a0 Z = true) (ws : List Jvm.Cond) (pi1 : Int32) (h0 : Heap) (n0 : Nat) (Z0 : n0 ≤ h0.size) (O0 : Old Z n0 h0) :
    MetFree l mN29 (head1 (Jvm.Cond.code mN29 jdk_43_method_46_code 1 (some (.array .byte)) :: ws) ({ frames := 0, cells := 1, slots := 1, locals := 0 } : Room)) (fun a U => a = #[(.int pi1)] ∧ Z.Warmed39 U.vm ∧ U.heap = h0) (fun _ _ _ _ _ => True) (fun _ U o U' => ∃ v L, o = .returned v ∧ Q18 Z pi1 h0 n0 v U'.heap L ∧ FrameEnd U o U' L ({ frames := 0, cells := 1, slots := 1, locals := 0 } : Room).cells ({ frames := 0, cells := 1, slots := 1, locals := 0 } : Room).slots) := by
  refine MetFree.of_bodySF (plainFor_of_name pn_18) hisR ?_
  intro p e s m args below meth c s₁ Bd hml0 hP hK
  obtain ⟨rfl, hZ, hh⟩ := hP
  have hx := Bd.exec
  have hby := Bd.bytes
  have hml : c.maxLocals = 1 := hml0
  have hown : s.vm.findClass "java/lang/StringLatin1" = some m.cls := findClass_of_methodNamed Bd.named
  have hnm := (name_of_methodNamed Bd.named Bd.method).1
  have X0 : Stand p l e ({ frames := 0, cells := 1, slots := 1, locals := 0 } : Room) s m #[(.int pi1)] below meth c s₁ [] 0 0 := Stand.of_body Bd
  have e0 : s₁.heap = h0 := by rw [← hh, Bd.state]; rfl
  have N0 := Fr.nil n0
  have pre0 : ∀ t, Steps p.tables e below (s₁.setTop (mkF m 0 #[vi pi1] [])) t → Steps p.tables e below (s₁.setTop (entryFrame m #[(.int pi1)] 1)) t := fun t k => castTop (ef_18 m pi1) k
  obtain ⟨T1, h1, k1, X1, e1, E1, A1, st1⟩ := newP X0 hx hZ (own_W hw 36 rfl) e0 (g := (mkF m 1 #[vi pi1] [(.int 1)])) rfl (hb hby d18_1) rfl (by decide) (cap := 1) (by decide) (by decide) (by decide) (by decide)
  obtain ⟨b1, g1⟩ : ∃ z, z = h0.size := ⟨_, rfl⟩
  rw [← g1] at A1 st1
  have V1 : Arv Z h1 b1 k1 .byte (1 : Int32) [(.int 0)] (.int 0) := (Arv.new A1 (by decide)).pad (pad_rep [] (.int 0) 1)
  have g_b1 : n0 ≤ b1 := Nat.le_trans Z0 (Nat.le_of_eq g1.symm)
  have V_c2 := V1
  obtain ⟨c2, Arc2, qc2, Sc2, Nc2, Hc2, Gc2⟩ := V_c2
  have hin3 : ¬ ((0 : Int32) < 0 ∨ c2.slots.size ≤ ((0 : Int32)).toNatClampNeg) := inb_of Sc2 ⟨by decide, by decide⟩
  obtain ⟨T3, h3, X3, e3, W3, st3⟩ := stB X1 hx hZ e1 Arc2 (j := (0 : Int32)) hin3 (g := (mkF m 7 #[vi pi1] [(.int (pi1.toInt8.toInt32)), (.int 0), (.ref b1), (.ref b1)])) rfl rfl (hb hby d18_7)
  have V3 : Arv Z h3 b1 k1 .byte (1 : Int32) [(.int (nar .byte (pi1.toInt8.toInt32)))] (.int 0) := Arv.set Arc2 qc2 Sc2 Nc2 Hc2 Gc2 (fits_nar_byte _) W3 0 rfl (Nat.le_of_ble_eq_true rfl)
  have N3 := Fr.snoc X3 N0 g_b1
  have k4 : Keep h0 h1 [] := (Keep.refl h0 []).ext E1
  have k5 : Keep h0 h3 [] := k4.wr W3 (Or.inr (Nat.le_trans (Keep.refl h0 []).1 (Nat.le_of_eq g1.symm)))
  obtain ⟨fs, hr, hrun, hended, hW, hsame⟩ := X3.leave (v := some (.ref b1)) (fun h => by rw [Bd.returns] at h; cases h) (BodyLoose.notSynchronized Bd)
  refine ⟨_, _, pre0 _ ?_, hrun, hended, _, _, rfl, ?_, ⟨_, rfl⟩, hW, hsame.mono (by decide) (by decide)⟩
  · show Stp p e below s₁ m 0 #[vi pi1] [] _
    refine XS.iconst X0.here hx rfl (hb hby d18_0) ?_
    refine st1 _ ?_
    show Stp p e below T1 m 3 #[vi pi1] [(.ref b1)] _
    refine XS.dup X1.here hx rfl (hb hby d18_3) rfl rfl ?_
    refine XS.iconst X1.here hx rfl (hb hby d18_4) ?_
    refine XS.iloadN X1.here hx rfl (hb hby d18_5) rfl ?_
    refine XS.i2b X1.here hx rfl (hb hby d18_6) rfl ?_
    refine st3 _ ?_
    show Stp p e below T3 m 8 #[vi pi1] [(.ref b1)] _
    jvm_step X3.here [X3.here.top, hx, (hb hby d18_8), X3.method', Bd.returns, Value.isRef, FieldType.isReference]
    first | (intro acts; rw [hr _ acts rfl rfl rfl]) | rw [hr _ _ rfl rfl rfl]
    exact Steps.refl _
  · show Q18 Z pi1 h0 n0 _ T3.heap _
    rw [e3]
    exact ⟨b1, k1, rfl, N3, k5, (Nat.le_trans (Keep.refl h0 []).1 (Nat.le_of_eq g1.symm)), V3⟩
theorem d19_0 : decode jdk_42_method_151_code 0 = .ok (.aload_n 0, 1) := by decide +kernel
theorem d19_1 : decode jdk_42_method_151_code 1 = .ok (.invokespecial 1, 3) := by decide +kernel
theorem d19_4 : decode jdk_42_method_151_code 4 = .ok (.aload_n 0, 1) := by decide +kernel
theorem d19_5 : decode jdk_42_method_151_code 5 = .ok (.aload_n 1, 1) := by decide +kernel
theorem d19_6 : decode jdk_42_method_151_code 6 = .ok (.putfield 9, 3) := by decide +kernel
theorem d19_9 : decode jdk_42_method_151_code 9 = .ok (.aload_n 0, 1) := by decide +kernel
theorem d19_10 : decode jdk_42_method_151_code 10 = .ok (.iload_n 2, 1) := by decide +kernel
theorem d19_11 : decode jdk_42_method_151_code 11 = .ok (.putfield 15, 3) := by decide +kernel
theorem d19_14 : decode jdk_42_method_151_code 14 = .ok (.return_, 1) := by decide +kernel
theorem pn_19 : plainName "java/lang/String" = true := by first | (simp [plainName, overriddenIn]; done) | decide +kernel
theorem ef_19_ (m : MethodId) (pr0 : Addr) (pr1 : Addr) : entryFrame m #[(.ref pr0), (.ref pr1), (.int 0)] 3 = mkF m 0 #[vr pr0, vr pr1, vi 0] [] := by first | (simp [entryFrame, mkF, argsToLocals, Value.category]; done) | rfl
def Q19 (Z : State) (pr0 : Addr) (pr1 : Addr) (u_value_pr0 : Value) (u_coder_pr0 : Value) (h0 : Heap) (n0 : Nat) (v : Option Value) (h : Heap) (L : List Loc) : Prop := v = none ∧ Fr n0 L ∧ Keep h0 h [pr0] ∧ Exa Z h pr0 "java/lang/String" ∧ Fld Z h pr0 "java/lang/String" "value" "[B" (.ref pr1) ∧ Fld Z h pr0 "java/lang/String" "coder" "B" (.int 0)
set_option maxRecDepth 65536 in
set_option maxHeartbeats 40000000 in
theorem rm19 (l : Launch) (Z : State) (a0 : Array Value) (hw : ∀ d ∈ tables_1, d.before a0 Z = true) (ws : List Jvm.Cond) (pr0 : Addr) (pr1 : Addr) (u_value_pr0 : Value) (u_coder_pr0 : Value) (h0 : Heap) (n0 : Nat) (Z0 : n0 ≤ h0.size) (O0 : Old Z n0 h0) (E_pr0 : Exa Z h0 pr0 "java/lang/String") (F_value_pr0 : Fld Z h0 pr0 "java/lang/String" "value" "[B" u_value_pr0) (g_pr0 : n0 ≤ pr0) (F_coder_pr0 : Fld Z h0 pr0 "java/lang/String" "coder" "B" u_coder_pr0) :
    MetFree l mN30 (head1 (Jvm.Cond.code mN30 jdk_42_method_151_code 3 none :: ws) ({ frames := 1, cells := 0, slots := 0, locals := 12 } : Room)) (fun a U => a = #[(.ref pr0), (.ref pr1), (.int 0)] ∧ Z.Warmed39 U.vm ∧ U.heap = h0) (fun _ _ _ _ _ => True) (fun _ U o U' => ∃ v L, o = .returned v ∧ Q19 Z pr0 pr1 u_value_pr0 u_coder_pr0 h0 n0 v U'.heap L ∧ FrameEnd U o U' L ({ frames := 1, cells := 0, slots := 0, locals := 12 } : Room).cells ({ frames := 1, cells := 0, slots := 0, locals := 12 } : Room).slots) := by
  refine MetFree.of_bodySF (plainFor_of_name pn_19) hisR ?_
  intro p e s m args below meth c s₁ Bd hml0 hP hK
  obtain ⟨rfl, hZ, hh⟩ := hP
  have hx := Bd.exec
  have hby := Bd.bytes
  have hml : c.maxLocals = 3 := hml0
  have hown : s.vm.findClass "java/lang/String" = some m.cls := findClass_of_methodNamed Bd.named
  have hnm := (name_of_methodNamed Bd.named Bd.method).1
  have X0 : Stand p l e ({ frames := 1, cells := 0, slots := 0, locals := 12 } : Room) s m #[(.ref pr0), (.ref pr1), (.int 0)] below meth c s₁ [] 0 0 := Stand.of_body Bd
  have e0 : s₁.heap = h0 := by rw [← hh, Bd.state]; rfl
  have N0 := Fr.nil n0
  have pre0 : ∀ t, Steps p.tables e below (s₁.setTop (mkF m 0 #[vr pr0, vr pr1, vi 0] [])) t → Steps p.tables e below (s₁.setTop (entryFrame m #[(.ref pr0), (.ref pr1), (.int 0)] 3)) t := fun t k => castTop (ef_19_ m pr0 pr1) k
  obtain ⟨T1, X1, e1, st1⟩ := initO X0 hx hZ hown (own_W hw 138 rfl) (own_W hw 26 rfl) (own_W hw 27 rfl) e0 (g := (mkF m 1 #[vr pr0, vr pr1, vi 0] [(.ref pr0)])) rfl (by rw [hml]; rfl) rfl (hb hby d19_1) (by decide) (W := 0) (by show 2 * 0 + _ ≤ _; exact Nat.le_of_eq rfl) (by decide)
  obtain ⟨T2, h2, X2, e2, W2, st2⟩ := putF X1 hx hZ hown (host := "") (Or.inl (own_W hw 139 rfl)) Via.refl e1 F_value_pr0 E_pr0 (Or.inr ⟨(own_W hw 37 rfl), rfl, hnm⟩) (own_W hw 35 rfl) (ty := (.array .byte)) (by decide) rfl rfl (g := (mkF m 6 #[vr pr0, vr pr1, vi 0] [(.ref pr1), (.ref pr0)])) rfl rfl (hb hby d19_6)
  have Fw2 := F_value_pr0.same W2
  have N2 := Fr.snoc X2 N0 g_pr0
  have f3 := F_coder_pr0.other W2 (Or.inr (slot_ne (Or.inr (own_W hw 38 rfl)) (Or.inr (own_W hw 37 rfl)) (by decide) (t := .byte) (t' := (.array .byte)) (by decide) (by decide)))
  have f4 := E_pr0.wr W2
  obtain ⟨T5, h5, X5, e5, W5, st5⟩ := putFN X2 hx hZ hown (own_W hw 140 rfl) Via.refl e2 f3 f4 (Or.inr ⟨(own_W hw 38 rfl), rfl, hnm⟩) (own_W hw 35 rfl) (ty := .byte) (v' := (.int 0)) (by decide) rfl (by decide) (g := (mkF m 11 #[vr pr0, vr pr1, vi 0] [(.int 0), (.ref pr0)])) rfl rfl (hb hby d19_11)
  have Fw5 := f3.same W5
  have N5 := Fr.snoc X5 N2 g_pr0
  have k6 : Keep h0 h2 [pr0] := (Keep.refl h0 [pr0]).wr W2 (Or.inl (List.mem_of_getElem? (i := 0) rfl))
  have k7 : Keep h0 h5 [pr0] := k6.wr W5 (Or.inl (List.mem_of_getElem? (i := 0) rfl))
  have f8 := f4.wr W5
  have f9 := Fw2.other W5 (Or.inr (slot_ne (Or.inr (own_W hw 37 rfl)) (Or.inr (own_W hw 38 rfl)) (by decide) (t := (.array .byte)) (t' := .byte) (by decide) (by decide)))
  obtain ⟨fs, hr, hrun, hended, hW, hsame⟩ := X5.leave (v := none) (fun _ => rfl) (BodyLoose.notSynchronized Bd)
  refine ⟨_, _, pre0 _ ?_, hrun, hended, _, _, rfl, ?_, ⟨_, rfl⟩, hW, hsame.mono (by decide) (by decide)⟩
  · show Stp p e below s₁ m 0 #[vr pr0, vr pr1, vi 0] [] _
    refine XS.aloadN X0.here hx rfl (hb hby d19_0) rfl rfl ?_
    refine st1 _ ?_
    show Stp p e below T1 m 4 #[vr pr0, vr pr1, vi 0] [] _
    refine XS.aloadN X1.here hx rfl (hb hby d19_4) rfl rfl ?_
    refine XS.aloadN X1.here hx rfl (hb hby d19_5) rfl rfl ?_
    refine st2 _ ?_
    show Stp p e below T2 m 9 #[vr pr0, vr pr1, vi 0] [] _
    refine XS.aloadN X2.here hx rfl (hb hby d19_9) rfl rfl ?_
    refine XS.iloadN X2.here hx rfl (hb hby d19_10) rfl ?_
    refine st5 _ ?_
    show Stp p e below T5 m 14 #[vr pr0, vr pr1, vi 0] [] _
    exact X5.returnOut hx Bd.returns (hb hby d19_14) hr
  · show Q19 Z pr0 pr1 u_value_pr0 u_coder_pr0 h0 n0 _ T5.heap _
    rw [e5]
    exact ⟨rfl, N5, k7, f8, f9, Fw5⟩
theorem pd_11 : parseMethodDescriptor "(C)Z" = some ⟨[.char], some .boolean⟩ := by decide +kernel
theorem pd_12 : parseMethodDescriptor "(C)[B" = some ⟨[.char], some (.array .byte)⟩ := by decide +kernel
theorem pd_13 : parseMethodDescriptor "([BB)V" = some ⟨[(.array .byte), .byte], none⟩ := by decide +kernel
theorem d16_0 : decode jdk_42_method_139_code 0 = .ok (.getstatic 38, 3) := by decide +kernel
theorem d16_3 : decode jdk_42_method_139_code 3 = .ok (.ifCond .eq 23, 3) := by decide +kernel
theorem d16_6 : decode jdk_42_method_139_code 6 = .ok (.iload_n 0, 1) := by decide +kernel
theorem d16_7 : decode jdk_42_method_139_code 7 = .ok (.invokestatic 1015, 3) := by decide +kernel
theorem d16_10 : decode jdk_42_method_139_code 10 = .ok (.ifCond .eq 16, 3) := by decide +kernel
theorem d16_13 : decode jdk_42_method_139_code 13 = .ok (.new 10, 3) := by decide +kernel
theorem d16_16 : decode jdk_42_method_139_code 16 = .ok (.dup, 1) := by decide +kernel
theorem d16_17 : decode jdk_42_method_139_code 17 = .ok (.iload_n 0, 1) := by decide +kernel
theorem d16_18 : decode jdk_42_method_139_code 18 = .ok (.invokestatic 1018, 3) := by decide +kernel
theorem d16_21 : decode jdk_42_method_139_code 21 = .ok (.iconst 0, 1) := by decide +kernel
theorem d16_22 : decode jdk_42_method_139_code 22 = .ok (.invokespecial 209, 3) := by decide +kernel
theorem d16_25 : decode jdk_42_method_139_code 25 = .ok (.areturn, 1) := by decide +kernel
theorem pn_16 : plainName "java/lang/String" = true := by first | (simp [plainName, overriddenIn]; done) | decide +kernel
theorem ef_16 (m : MethodId) (pi1 : Int32) : entryFrame m #[(.int pi1)] 1 = mkF m 0 #[vi pi1] [] := by first | (simp [entryFrame, mkF, argsToLocals, Value.category]; done) | rfl
def Q16 (Z : State) (pi1 : Int32) (w_COMPACT_STRINGS : Int32) (h0 : Heap) (n0 : Nat) (v : Option Value) (h : Heap) (L : List Loc) : Prop := ∃ b3 : Addr, ∃ b4 : Addr, v = some (.ref b3) ∧ Fr n0 L ∧ Keep h0 h [] ∧ h0.size ≤ b3 ∧ h0.size ≤ b4
set_option maxRecDepth 65536 in
set_option maxHeartbeats 40000000 in
theorem rm16 (l : Launch) (Z : State) (a0 : Array Value) (hw : ∀ d ∈ tables_1, d.before a0 Z = true) (ws : List Jvm.Cond) (pi1 : Int32) (w_COMPACT_STRINGS : Int32) (h0 : Heap) (n0 : Nat) (Z0 : n0 ≤ h0.size) (O0 : Old Z n0 h0) (S_COMPACT_STRINGS : Sta Z Z.heap "java/lang/String" "COMPACT_STRINGS" "Z" (.int w_COMPACT_STRINGS)) (hCS : ¬ (w_COMPACT_STRINGS = (0 : Int32))) (hq7_0 : ¬ ((255 : Int32) < pi1)) :
    MetFree l mN31 (head1 (Jvm.Cond.code mN31 jdk_42_method_139_code 1 (some (.object "java/lang/String")) :: ws) ({ frames := 2, cells := 2, slots := 5, locals := 27 } : Room)) (fun a U => a = #[(.int pi1)] ∧ Z.Warmed39 U.vm ∧ U.heap = h0) (fun _ _ _ _ _ => True) (fun _ U o U' => ∃ v L, o = .returned v ∧ Q16 Z pi1 w_COMPACT_STRINGS h0 n0 v U'.heap L ∧ FrameEnd U o U' L ({ frames := 2, cells := 2, slots := 5, locals := 27 } : Room).cells ({ frames := 2, cells := 2, slots := 5, locals := 27 } : Room).slots) := by
  refine MetFree.of_bodySF (plainFor_of_name pn_16) hisR ?_
  intro p e s m args below meth c s₁ Bd hml0 hP hK
  obtain ⟨rfl, hZ, hh⟩ := hP
  have hx := Bd.exec
  have hby := Bd.bytes
  have hml : c.maxLocals = 1 := hml0
  have hown : s.vm.findClass "java/lang/String" = some m.cls := findClass_of_methodNamed Bd.named
  have hnm := (name_of_methodNamed Bd.named Bd.method).1
  have X0 : Stand p l e ({ frames := 2, cells := 2, slots := 5, locals := 27 } : Room) s m #[(.int pi1)] below meth c s₁ [] 0 0 := Stand.of_body Bd
  have e0 : s₁.heap = h0 := by rw [← hh, Bd.state]; rfl
  have N0 := Fr.nil n0
  have pre0 : ∀ t, Steps p.tables e below (s₁.setTop (mkF m 0 #[vi pi1] [])) t → Steps p.tables e below (s₁.setTop (entryFrame m #[(.int pi1)] 1)) t := fun t k => castTop (ef_16 m pi1) k
  obtain ⟨T1, X1, e1, st1⟩ := getS2 X0 hx hZ hown (host := "") (Or.inl (own_W hw 125 rfl)) Via.refl e0 (S_COMPACT_STRINGS.ext O0.2) (g := (mkF m 0 #[vi pi1] [])) rfl (hb hby d16_0)
  obtain ⟨_, _, ⟨T2, L2, k2, n2⟩, -, X2, ⟨Lc2, hQ2, l2, y2, z2⟩, st2⟩ := Jvm.LawKit.callS X1 hx (y := mN28) hown (mvT hZ (own_W hw 126 rfl)) (mvT hZ (own_W hw 127 rfl)) (mvT hZ (own_W hw 128 rfl)) (mvT hZ (own_W hw 129 rfl)) (by decide) (backOf (W := 0) (rm17 l Z a0 hw [] pi1 h0 n0 Z0 O0 hq7_0) hZ (own_W hw 129 rfl) (own_W hw 128 rfl) (by decide) (by decide)) (g := (mkF m 7 #[vi pi1] [(.int pi1)])) rfl (by rw [hml]; rfl) (argsL := [(.int pi1)]) (rest := []) (lenOf pd_11 rfl) rfl (by show 2 * 0 + _ ≤ _; exact Nat.le_of_eq rfl) (hb hby d16_7) (fun _ _ => ⟨rfl, e1, (by decide : 0 + 0 ≤ _), (by decide : 0 + 0 ≤ _)⟩)
  dsimp only [Pt.U, Pt.locs, Pt.cells, Pt.slots] at X2 l2 y2 z2 st2 hQ2
  subst l2 y2 z2
  obtain ⟨rfl, N2q, eq2⟩ := hQ2
  have N2 := Fr.app N0 N2q
  obtain ⟨T3, h3, X3, e3, E3, A3, D3, -, st3⟩ := newO X2 hx hZ hown (own_W hw 130 rfl) (own_W hw 35 rfl) (own_W hw 34 rfl) eq2 (g := (mkF m 13 #[vi pi1] [])) rfl (hb hby d16_13) (by decide) (by decide)
  obtain ⟨b3, g3⟩ : ∃ z, z = h0.size := ⟨_, rfl⟩
  rw [← g3] at A3 D3 st3
  have F_value_b3 : Fld Z h3 b3 "java/lang/String" "value" "[B" .null := D3 (Or.inr (own_W hw 37 rfl)) (ty := (.array .byte)) (by decide)
  have F_coder_b3 : Fld Z h3 b3 "java/lang/String" "coder" "B" (.int 0) := D3 (Or.inr (own_W hw 38 rfl)) (ty := .byte) (by decide)
  have z5 := Nat.le_trans Z0 E3.1
  have o6 := O0.ext E3
  obtain ⟨_, _, ⟨T4, L4, k4, n4⟩, -, X4, ⟨Lc4, hQ4, l4, y4, z4⟩, st4⟩ := Jvm.LawKit.callS X3 hx (y := mN29) hown (mvT hZ (own_W hw 131 rfl)) (mvT hZ (own_W hw 132 rfl)) (mvT hZ (own_W hw 128 rfl)) (mvT hZ (own_W hw 133 rfl)) (by decide) (backOf (W := 2) (rm18 l Z a0 hw [] pi1 h3 n0 z5 o6 ) hZ (own_W hw 133 rfl) (own_W hw 128 rfl) (by decide) (by decide)) (g := (mkF m 18 #[vi pi1] [(.int pi1), (.ref b3), (.ref b3)])) rfl (by rw [hml]; rfl) (argsL := [(.int pi1)]) (rest := [(.ref b3), (.ref b3)]) (lenOf pd_12 rfl) rfl (by show 2 * 0 + _ ≤ _; exact Nat.le_of_eq rfl) (hb hby d16_18) (fun _ _ => ⟨rfl, e3, (by decide : 1 + 1 ≤ _), (by decide : 4 + 1 ≤ _)⟩)
  dsimp only [Pt.U, Pt.locs, Pt.cells, Pt.slots] at X4 l4 y4 z4 st4 hQ4
  subst l4 y4 z4
  obtain ⟨b4, b4_1, rfl, N4q, K4, qf4_0, qf4_1⟩ := hQ4
  have N4 := Fr.app N2 N4q
  have f7 := A3.keep K4
  have f8 := F_value_b3.keep K4 nin0
  have g_b3 : n0 ≤ b3 := Nat.le_trans Z0 (Nat.le_of_eq g3.symm)
  have f9 := F_coder_b3.keep K4 nin0
  have z11 := Nat.le_trans z5 K4.1
  have o12 := o6.keep K4 all0
  obtain ⟨_, _, ⟨T10, L10, k10, n10⟩, -, X10, ⟨Lc10, hQ10, l10, y10, z10⟩, st10⟩ := X4.specialBack hx (y := mN30) rfl hown (mvT hZ (own_W hw 134 rfl)) (mvT hZ (own_W hw 135 rfl)) (mvT hZ (own_W hw 137 rfl)) (by decide) (backOf (W := 1) (rm19 l Z a0 hw [] b3 b4 .null (.int 0) T4.heap n0 z11 o12 f7 f8 g_b3 f9) hZ (own_W hw 137 rfl) (own_W hw 34 rfl) (by decide) (by decide)) (g := (mkF m 22 #[vi pi1] [(.int 0), (.ref b4), (.ref b3), (.ref b3)])) rfl (by rw [hml]; rfl) (Steps.refl _) (a := b3) (argsL := [(.ref b4), (.int 0)]) (rest := [(.ref b3)]) (lenOf pd_13 rfl) rfl (by show 2 * 0 + _ ≤ _; exact Nat.le_of_eq rfl) (hb hby d16_22) (fun _ _ => ⟨rfl, rfl, (by decide : 2 + 0 ≤ _), (by decide : 5 + 0 ≤ _)⟩)
  dsimp only [Pt.U, Pt.locs, Pt.cells, Pt.slots] at X10 l10 y10 z10 st10 hQ10
  subst l10 y10 z10
  obtain ⟨rfl, N10q, K10, qf10_0, qf10_1, qf10_2⟩ := hQ10
  have N10 := Fr.app N4 N10q
  have k13 : Keep h0 h3 [] := (Keep.refl h0 []).ext E3
  have k14 : Keep h0 T4.heap [] := k13.trans K4 all0
  have k15 : Keep h0 T10.heap [] := k14.trans K10 (allS (Or.inr (Nat.le_trans (Keep.refl h0 []).1 (Nat.le_of_eq g3.symm))) all0)
  obtain ⟨fs, hr, hrun, hended, hW, hsame⟩ := X10.leave (v := some (.ref b3)) (fun h => by rw [Bd.returns] at h; cases h) (BodyLoose.notSynchronized Bd)
  refine ⟨_, _, pre0 _ ?_, hrun, hended, _, _, rfl, ?_, ⟨_, rfl⟩, hW, hsame.mono (by decide) (by decide)⟩
  · show Stp p e below s₁ m 0 #[vi pi1] [] _
    refine st1 _ ?_
    show Stp p e below T1 m 3 #[vi pi1] [(.int w_COMPACT_STRINGS)] _
    refine XS.ifNo X1.here hx rfl (hb hby d16_3) rfl ((if0 _ _).trans (feq hCS).1) ?_
    show Stp p e below T1 m 6 #[vi pi1] [] _
    refine XS.iloadN X1.here hx rfl (hb hby d16_6) rfl ?_
    refine st2 _ ?_
    show Stp p e below T2 m 10 #[vi pi1] [(.int 1)] _
    refine XS.ifNo X2.here hx rfl (hb hby d16_10) rfl ((if0 _ _).trans (feq (by decide : ¬ ((1 : Int32) = (0 : Int32)))).1) ?_
    show Stp p e below T2 m 13 #[vi pi1] [] _
    refine st3 _ ?_
    show Stp p e below T3 m 16 #[vi pi1] [(.ref b3)] _
    refine XS.dup X3.here hx rfl (hb hby d16_16) rfl rfl ?_
    refine XS.iloadN X3.here hx rfl (hb hby d16_17) rfl ?_
    refine st4 _ ?_
    show Stp p e below T4 m 21 #[vi pi1] [(.ref b4), (.ref b3), (.ref b3)] _
    refine XS.iconst X4.here hx rfl (hb hby d16_21) ?_
    refine st10.trans ?_
    show Stp p e below T10 m 25 #[vi pi1] [(.ref b3)] _
    jvm_step X10.here [X10.here.top, hx, (hb hby d16_25), X10.method', Bd.returns, Value.isRef, FieldType.isReference]
    first | (intro acts; rw [hr _ acts rfl rfl rfl]) | rw [hr _ _ rfl rfl rfl]
    exact Steps.refl _
  · show Q16 Z pi1 w_COMPACT_STRINGS h0 n0 _ T10.heap _
    exact ⟨b3, b4, rfl, N10, k15, (Nat.le_trans (Keep.refl h0 []).1 (Nat.le_of_eq g3.symm)), (Nat.le_trans k13.1 qf4_0)⟩
theorem d30_0 : decode jdk_44_method_5_code 0 = .ok (.iload_n 1, 1) := by decide +kernel
theorem d30_1 : decode jdk_44_method_5_code 1 = .ok (.ifCond .ne 8, 3) := by decide +kernel
theorem d30_4 : decode jdk_44_method_5_code 4 = .ok (.aload_n 0, 1) := by decide +kernel
theorem d30_5 : decode jdk_44_method_5_code 5 = .ok (.getfield 13, 3) := by decide +kernel
theorem d30_8 : decode jdk_44_method_5_code 8 = .ok (.areturn, 1) := by decide +kernel
theorem pn_30 : plainName "java/util/ImmutableCollections$List12" = true := by first | (simp [plainName, overriddenIn]; done) | decide +kernel
theorem ef_30__0 (m : MethodId) (pr0 : Addr) : entryFrame m #[(.ref pr0), (.int 0)] 2 = mkF m 0 #[vr pr0, vi 0] [] := by first | (simp [entryFrame, mkF, argsToLocals, Value.category]; done) | rfl
def Q30_0 (Z : State) (pr0 : Addr) (w_e0_pr0 : Addr) (h0 : Heap) (n0 : Nat) (v : Option Value) (h : Heap) (L : List Loc) : Prop := v = some (.ref w_e0_pr0) ∧ Fr n0 L ∧ h = h0
set_option maxRecDepth 65536 in
set_option maxHeartbeats 40000000 in
theorem rm30_0 (l : Launch) (Z : State) (a0 : Array Value) (hw : ∀ d ∈ tables_1, d.before a0 Z = true) (ws : List Jvm.Cond) (pr0 : Addr) (w_e0_pr0 : Addr) (h0 : Heap) (n0 : Nat) (Z0 : n0 ≤ h0.size) (O0 : Old Z n0 h0) (F_e0_pr0 : Fld Z h0 pr0 "java/util/ImmutableCollections$List12" "e0" "Ljava/lang/Object;" (.ref w_e0_pr0)) :
    MetFree l mN32 (head1 (Jvm.Cond.code mN32 jdk_44_method_5_code 2 (some (.object "java/lang/Object")) :: ws) ({ frames := 0, cells := 0, slots := 0, locals := 0 } : Room)) (fun a U => a = #[(.ref pr0), (.int 0)] ∧ Z.Warmed39 U.vm ∧ U.heap = h0) (fun _ _ _ _ _ => True) (fun _ U o U' => ∃ v L, o = .returned v ∧ Q30_0 Z pr0 w_e0_pr0 h0 n0 v U'.heap L ∧ FrameEnd U o U' L ({ frames := 0, cells := 0, slots := 0, locals := 0 } : Room).cells ({ frames := 0, cells := 0, slots := 0, locals := 0 } : Room).slots) := by
  refine MetFree.of_bodySF (plainFor_of_name pn_30) hisR ?_
  intro p e s m args below meth c s₁ Bd hml0 hP hK
  obtain ⟨rfl, hZ, hh⟩ := hP
  have hx := Bd.exec
  have hby := Bd.bytes
  have hml : c.maxLocals = 2 := hml0
  have hown : s.vm.findClass "java/util/ImmutableCollections$List12" = some m.cls := findClass_of_methodNamed Bd.named
  have hnm := (name_of_methodNamed Bd.named Bd.method).1
  have X0 : Stand p l e ({ frames := 0, cells := 0, slots := 0, locals := 0 } : Room) s m #[(.ref pr0), (.int 0)] below meth c s₁ [] 0 0 := Stand.of_body Bd
  have e0 : s₁.heap = h0 := by rw [← hh, Bd.state]; rfl
  have N0 := Fr.nil n0
  have pre0 : ∀ t, Steps p.tables e below (s₁.setTop (mkF m 0 #[vr pr0, vi 0] [])) t → Steps p.tables e below (s₁.setTop (entryFrame m #[(.ref pr0), (.int 0)] 2)) t := fun t k => castTop (ef_30__0 m pr0) k
  obtain ⟨T1, X1, e1, st1⟩ := getF X0 hx hZ hown (host := "") (Or.inl (own_W hw 199 rfl)) Via.refl e0 F_e0_pr0 (g := (mkF m 5 #[vr pr0, vi 0] [(.ref pr0)])) rfl rfl (hb hby d30_5)
  obtain ⟨fs, hr, hrun, hended, hW, hsame⟩ := X1.leave (v := some (.ref w_e0_pr0)) (fun h => by rw [Bd.returns] at h; cases h) (BodyLoose.notSynchronized Bd)
  refine ⟨_, _, pre0 _ ?_, hrun, hended, _, _, rfl, ?_, ⟨_, rfl⟩, hW, hsame.mono (by decide) (by decide)⟩
  · show Stp p e below s₁ m 0 #[vr pr0, vi 0] [] _
    refine XS.iloadN X0.here hx rfl (hb hby d30_0) rfl ?_
    refine XS.ifNo X0.here hx rfl (hb hby d30_1) rfl ((if0 _ _).trans (teq (rfl : (0 : Int32) = (0 : Int32))).2) ?_
    show Stp p e below s₁ m 4 #[vr pr0, vi 0] [] _
    refine XS.aloadN X0.here hx rfl (hb hby d30_4) rfl rfl ?_
    refine st1 _ ?_
    show Stp p e below T1 m 8 #[vr pr0, vi 0] [(.ref w_e0_pr0)] _
    jvm_step X1.here [X1.here.top, hx, (hb hby d30_8), X1.method', Bd.returns, Value.isRef, FieldType.isReference]
    first | (intro acts; rw [hr _ acts rfl rfl rfl]) | rw [hr _ _ rfl rfl rfl]
    exact Steps.refl _
  · show Q30_0 Z pr0 w_e0_pr0 h0 n0 _ T1.heap _
    rw [e1]
    exact ⟨rfl, N0, rfl⟩
theorem d30_9 : decode jdk_44_method_5_code 9 = .ok (.iload_n 1, 1) := by decide +kernel
theorem d30_10 : decode jdk_44_method_5_code 10 = .ok (.iconst 1, 1) := by decide +kernel
theorem d30_11 : decode jdk_44_method_5_code 11 = .ok (.if_icmp .ne 18, 3) := by decide +kernel
theorem d30_14 : decode jdk_44_method_5_code 14 = .ok (.aload_n 0, 1) := by decide +kernel
theorem d30_15 : decode jdk_44_method_5_code 15 = .ok (.getfield 24, 3) := by decide +kernel
theorem d30_18 : decode jdk_44_method_5_code 18 = .ok (.getstatic 19, 3) := by decide +kernel
theorem d30_21 : decode jdk_44_method_5_code 21 = .ok (.if_acmp .eq 8, 3) := by decide +kernel
theorem d30_24 : decode jdk_44_method_5_code 24 = .ok (.aload_n 0, 1) := by decide +kernel
theorem d30_25 : decode jdk_44_method_5_code 25 = .ok (.getfield 24, 3) := by decide +kernel
theorem d30_28 : decode jdk_44_method_5_code 28 = .ok (.areturn, 1) := by decide +kernel
theorem ef_30__1 (m : MethodId) (pr0 : Addr) : entryFrame m #[(.ref pr0), (.int 1)] 2 = mkF m 0 #[vr pr0, vi 1] [] := by first | (simp [entryFrame, mkF, argsToLocals, Value.category]; done) | rfl
def Q30_1 (Z : State) (pr0 : Addr) (w_EMPTY : Addr) (w_e1_pr0 : Addr) (h0 : Heap) (n0 : Nat) (v : Option Value) (h : Heap) (L : List Loc) : Prop := v = some (.ref w_e1_pr0) ∧ Fr n0 L ∧ h = h0
set_option maxRecDepth 65536 in
set_option maxHeartbeats 40000000 in
theorem rm30_1 (l : Launch) (Z : State) (a0 : Array Value) (hw : ∀ d ∈ tables_1, d.before a0 Z = true) (ws : List Jvm.Cond) (pr0 : Addr) (w_EMPTY : Addr) (w_e1_pr0 : Addr) (h0 : Heap) (n0 : Nat) (Z0 : n0 ≤ h0.size) (O0 : Old Z n0 h0) (S_EMPTY : Sta Z Z.heap "java/util/ImmutableCollections" "EMPTY" "Ljava/lang/Object;" (.ref w_EMPTY)) (E_w_EMPTY : Exa Z Z.heap w_EMPTY "java/lang/Object") (F_e1_pr0 : Fld Z h0 pr0 "java/util/ImmutableCollections$List12" "e1" "Ljava/lang/Object;" (.ref w_e1_pr0)) (g_w_e1_pr0 : n0 ≤ w_e1_pr0) :
    MetFree l mN32 (head1 (Jvm.Cond.code mN32 jdk_44_method_5_code 2 (some (.object "java/lang/Object")) :: ws) ({ frames := 0, cells := 0, slots := 0, locals := 0 } : Room)) (fun a U => a = #[(.ref pr0), (.int 1)] ∧ Z.Warmed39 U.vm ∧ U.heap = h0) (fun _ _ _ _ _ => True) (fun _ U o U' => ∃ v L, o = .returned v ∧ Q30_1 Z pr0 w_EMPTY w_e1_pr0 h0 n0 v U'.heap L ∧ FrameEnd U o U' L ({ frames := 0, cells := 0, slots := 0, locals := 0 } : Room).cells ({ frames := 0, cells := 0, slots := 0, locals := 0 } : Room).slots) := by
  refine MetFree.of_bodySF (plainFor_of_name pn_30) hisR ?_
  intro p e s m args below meth c s₁ Bd hml0 hP hK
  obtain ⟨rfl, hZ, hh⟩ := hP
  have hx := Bd.exec
  have hby := Bd.bytes
  have hml : c.maxLocals = 2 := hml0
  have hown : s.vm.findClass "java/util/ImmutableCollections$List12" = some m.cls := findClass_of_methodNamed Bd.named
  have hnm := (name_of_methodNamed Bd.named Bd.method).1
  have X0 : Stand p l e ({ frames := 0, cells := 0, slots := 0, locals := 0 } : Room) s m #[(.ref pr0), (.int 1)] below meth c s₁ [] 0 0 := Stand.of_body Bd
  have e0 : s₁.heap = h0 := by rw [← hh, Bd.state]; rfl
  have N0 := Fr.nil n0
  have pre0 : ∀ t, Steps p.tables e below (s₁.setTop (mkF m 0 #[vr pr0, vi 1] [])) t → Steps p.tables e below (s₁.setTop (entryFrame m #[(.ref pr0), (.int 1)] 2)) t := fun t k => castTop (ef_30__1 m pr0) k
  obtain ⟨T1, X1, e1, st1⟩ := getF X0 hx hZ hown (host := "") (Or.inl (own_W hw 202 rfl)) Via.refl e0 F_e1_pr0 (g := (mkF m 15 #[vr pr0, vi 1] [(.ref pr0)])) rfl rfl (hb hby d30_15)
  obtain ⟨T2, X2, e2, st2⟩ := getS2 X1 hx hZ hown (Or.inr (own_W hw 201 rfl)) Via.refl e1 (S_EMPTY.ext O0.2) (g := (mkF m 18 #[vr pr0, vi 1] [(.ref w_e1_pr0)])) rfl (hb hby d30_18)
  obtain ⟨T3, X3, e3, st3⟩ := getF X2 hx hZ hown (host := "") (Or.inl (own_W hw 202 rfl)) Via.refl e2 F_e1_pr0 (g := (mkF m 25 #[vr pr0, vi 1] [(.ref pr0)])) rfl rfl (hb hby d30_25)
  obtain ⟨fs, hr, hrun, hended, hW, hsame⟩ := X3.leave (v := some (.ref w_e1_pr0)) (fun h => by rw [Bd.returns] at h; cases h) (BodyLoose.notSynchronized Bd)
  refine ⟨_, _, pre0 _ ?_, hrun, hended, _, _, rfl, ?_, ⟨_, rfl⟩, hW, hsame.mono (by decide) (by decide)⟩
  · show Stp p e below s₁ m 0 #[vr pr0, vi 1] [] _
    refine XS.iloadN X0.here hx rfl (hb hby d30_0) rfl ?_
    refine XS.ifYes X0.here hx rfl (pc0 := 1) (pc' := 9) rfl (hb hby d30_1) rfl ((if0 _ _).trans (feq (by decide : ¬ ((1 : Int32) = (0 : Int32)))).2) (by decide) (by decide) ?_
    show Stp p e below s₁ m 9 #[vr pr0, vi 1] [] _
    refine XS.iloadN X0.here hx rfl (hb hby d30_9) rfl ?_
    refine XS.iconst X0.here hx rfl (hb hby d30_10) ?_
    refine XS.icmpNo X0.here hx rfl (hb hby d30_11) rfl (teq (rfl : (1 : Int32) = (1 : Int32))).2 ?_
    show Stp p e below s₁ m 14 #[vr pr0, vi 1] [] _
    refine XS.aloadN X0.here hx rfl (hb hby d30_14) rfl rfl ?_
    refine st1 _ ?_
    show Stp p e below T1 m 18 #[vr pr0, vi 1] [(.ref w_e1_pr0)] _
    refine st2 _ ?_
    show Stp p e below T2 m 21 #[vr pr0, vi 1] [(.ref w_EMPTY), (.ref w_e1_pr0)] _
    refine Jvm.RoadKit.acmp (g := (mkF m 21 #[vr pr0, vi 1] [(.ref w_EMPTY), (.ref w_e1_pr0)])) X2 hx rfl rfl rfl (pc0 := 21) (pc' := 24) (same := false) rfl (hb hby d30_21) rfl (decide_eq_false fun q => (Ne.symm (O0.ne E_w_EMPTY.lt g_w_e1_pr0)) (Value.ref.inj q)) (by decide) (by decide) ?_
    show Stp p e below T2 m 24 #[vr pr0, vi 1] [] _
    refine XS.aloadN X2.here hx rfl (hb hby d30_24) rfl rfl ?_
    refine st3 _ ?_
    show Stp p e below T3 m 28 #[vr pr0, vi 1] [(.ref w_e1_pr0)] _
    jvm_step X3.here [X3.here.top, hx, (hb hby d30_28), X3.method', Bd.returns, Value.isRef, FieldType.isReference]
    first | (intro acts; rw [hr _ acts rfl rfl rfl]) | rw [hr _ _ rfl rfl rfl]
    exact Steps.refl _
  · show Q30_1 Z pr0 w_EMPTY w_e1_pr0 h0 n0 _ T3.heap _
    rw [e3]
    exact ⟨rfl, N0, rfl⟩
theorem d37_0 : decode jdk_45_method_4_code 0 = .ok (.aload_n 0, 1) := by decide +kernel
theorem d37_1 : decode jdk_45_method_4_code 1 = .ok (.getfield 7, 3) := by decide +kernel
theorem d37_4 : decode jdk_45_method_4_code 4 = .ok (.iload_n 1, 1) := by decide +kernel
theorem d37_5 : decode jdk_45_method_4_code 5 = .ok (.aaload, 1) := by decide +kernel
theorem d37_6 : decode jdk_45_method_4_code 6 = .ok (.areturn, 1) := by decide +kernel
theorem pn_37 : plainName "java/util/ImmutableCollections$ListN" = true := by first | (simp [plainName, overriddenIn]; done) | decide +kernel
theorem ef_37__0 (m : MethodId) (pr0 : Addr) : entryFrame m #[(.ref pr0), (.int 0)] 2 = mkF m 0 #[vr pr0, vi 0] [] := by first | (simp [entryFrame, mkF, argsToLocals, Value.category]; done) | rfl
def Q37_0 (Z : State) (pr0 : Addr) (w_els : Addr) (kk_w_els : ClassId) (c0_w_els : Addr) (c1_w_els : Addr) (c2_w_els : Addr) (h0 : Heap) (n0 : Nat) (v : Option Value) (h : Heap) (L : List Loc) : Prop := v = some (.ref c0_w_els) ∧ Fr n0 L ∧ h = h0
set_option maxRecDepth 65536 in
set_option maxHeartbeats 40000000 in
theorem rm37_0 (l : Launch) (Z : State) (a0 : Array Value) (hw : ∀ d ∈ tables_1, d.before a0 Z = true) (ws : List Jvm.Cond) (pr0 : Addr) (w_els : Addr) (kk_w_els : ClassId) (c0_w_els : Addr) (c1_w_els : Addr) (c2_w_els : Addr) (h0 : Heap) (n0 : Nat) (Z0 : n0 ≤ h0.size) (O0 : Old Z n0 h0) (F_elements_pr0 : Fld Z h0 pr0 "java/util/ImmutableCollections$ListN" "elements" "[Ljava/lang/Object;" (.ref w_els)) (V_w_els : Arv Z h0 w_els kk_w_els (.object "java/lang/Object") (3 : Int32) [(.ref c0_w_els), (.ref c1_w_els), (.ref c2_w_els)] .null) :
    MetFree l mN33 (head1 (Jvm.Cond.code mN33 jdk_45_method_4_code 2 (some (.object "java/lang/Object")) :: ws) ({ frames := 0, cells := 0, slots := 0, locals := 0 } : Room)) (fun a U => a = #[(.ref pr0), (.int 0)] ∧ Z.Warmed39 U.vm ∧ U.heap = h0) (fun _ _ _ _ _ => True) (fun _ U o U' => ∃ v L, o = .returned v ∧ Q37_0 Z pr0 w_els kk_w_els c0_w_els c1_w_els c2_w_els h0 n0 v U'.heap L ∧ FrameEnd U o U' L ({ frames := 0, cells := 0, slots := 0, locals := 0 } : Room).cells ({ frames := 0, cells := 0, slots := 0, locals := 0 } : Room).slots) := by
  refine MetFree.of_bodySF (plainFor_of_name pn_37) hisR ?_
  intro p e s m args below meth c s₁ Bd hml0 hP hK
  obtain ⟨rfl, hZ, hh⟩ := hP
  have hx := Bd.exec
  have hby := Bd.bytes
  have hml : c.maxLocals = 2 := hml0
  have hown : s.vm.findClass "java/util/ImmutableCollections$ListN" = some m.cls := findClass_of_methodNamed Bd.named
  have hnm := (name_of_methodNamed Bd.named Bd.method).1
  have X0 : Stand p l e ({ frames := 0, cells := 0, slots := 0, locals := 0 } : Room) s m #[(.ref pr0), (.int 0)] below meth c s₁ [] 0 0 := Stand.of_body Bd
  have e0 : s₁.heap = h0 := by rw [← hh, Bd.state]; rfl
  have N0 := Fr.nil n0
  have pre0 : ∀ t, Steps p.tables e below (s₁.setTop (mkF m 0 #[vr pr0, vi 0] [])) t → Steps p.tables e below (s₁.setTop (entryFrame m #[(.ref pr0), (.int 0)] 2)) t := fun t k => castTop (ef_37__0 m pr0) k
  obtain ⟨T1, X1, e1, st1⟩ := getF X0 hx hZ hown (host := "") (Or.inl (own_W hw 255 rfl)) Via.refl e0 F_elements_pr0 (g := (mkF m 1 #[vr pr0, vi 0] [(.ref pr0)])) rfl rfl (hb hby d37_1)
  have V_c2 := V_w_els
  obtain ⟨c2, Arc2, qc2, Sc2, Nc2, Hc2, Gc2⟩ := V_c2
  have hin3 : ¬ ((0 : Int32) < 0 ∨ c2.slots.size ≤ ((0 : Int32)).toNatClampNeg) := inb_of Sc2 ⟨by decide, by decide⟩
  obtain ⟨fs, hr, hrun, hended, hW, hsame⟩ := X1.leave (v := some (.ref c0_w_els)) (fun h => by rw [Bd.returns] at h; cases h) (BodyLoose.notSynchronized Bd)
  refine ⟨_, _, pre0 _ ?_, hrun, hended, _, _, rfl, ?_, ⟨_, rfl⟩, hW, hsame.mono (by decide) (by decide)⟩
  · show Stp p e below s₁ m 0 #[vr pr0, vi 0] [] _
    refine XS.aloadN X0.here hx rfl (hb hby d37_0) rfl rfl ?_
    refine st1 _ ?_
    show Stp p e below T1 m 4 #[vr pr0, vi 0] [(.ref w_els)] _
    refine XS.iloadN X1.here hx rfl (hb hby d37_4) rfl ?_
    refine X1.aaload hx (j := (0 : Int32)) (v := (.ref c0_w_els)) (by rw [e1]; exact Arc2.1) (State.isArrayOf_alike hZ.alike Arc2.2.1) rfl Arc2.2.2 hin3 (Has.at Hc2 hin3 rfl) (g := (mkF m 5 #[vr pr0, vi 0] [(.int 0), (.ref w_els)])) rfl rfl (hb hby d37_5) _ ?_
    show Stp p e below T1 m 6 #[vr pr0, vi 0] [(.ref c0_w_els)] _
    jvm_step X1.here [X1.here.top, hx, (hb hby d37_6), X1.method', Bd.returns, Value.isRef, FieldType.isReference]
    first | (intro acts; rw [hr _ acts rfl rfl rfl]) | rw [hr _ _ rfl rfl rfl]
    exact Steps.refl _
  · show Q37_0 Z pr0 w_els kk_w_els c0_w_els c1_w_els c2_w_els h0 n0 _ T1.heap _
    rw [e1]
    exact ⟨rfl, N0, rfl⟩
theorem ef_37__1 (m : MethodId) (pr0 : Addr) : entryFrame m #[(.ref pr0), (.int 1)] 2 = mkF m 0 #[vr pr0, vi 1] [] := by first | (simp [entryFrame, mkF, argsToLocals, Value.category]; done) | rfl
def Q37_1 (Z : State) (pr0 : Addr) (w_els : Addr) (kk_w_els : ClassId) (c0_w_els : Addr) (c1_w_els : Addr) (c2_w_els : Addr) (h0 : Heap) (n0 : Nat) (v : Option Value) (h : Heap) (L : List Loc) : Prop := v = some (.ref c1_w_els) ∧ Fr n0 L ∧ h = h0
set_option maxRecDepth 65536 in
set_option maxHeartbeats 40000000 in
theorem rm37_1 (l : Launch) (Z : State) (a0 : Array Value) (hw : ∀ d ∈ tables_1, d.before a0 Z = true) (ws : List Jvm.Cond) (pr0 : Addr) (w_els : Addr) (kk_w_els : ClassId) (c0_w_els : Addr) (c1_w_els : Addr) (c2_w_els : Addr) (h0 : Heap) (n0 : Nat) (Z0 : n0 ≤ h0.size) (O0 : Old Z n0 h0) (F_elements_pr0 : Fld Z h0 pr0 "java/util/ImmutableCollections$ListN" "elements" "[Ljava/lang/Object;" (.ref w_els)) (V_w_els : Arv Z h0 w_els kk_w_els (.object "java/lang/Object") (3 : Int32) [(.ref c0_w_els), (.ref c1_w_els), (.ref c2_w_els)] .null) :
    MetFree l mN33 (head1 (Jvm.Cond.code mN33 jdk_45_method_4_code 2 (some (.object "java/lang/Object")) :: ws) ({ frames := 0, cells := 0, slots := 0, locals := 0 } : Room)) (fun a U => a = #[(.ref pr0), (.int 1)] ∧ Z.Warmed39 U.vm ∧ U.heap = h0) (fun _ _ _ _ _ => True) (fun _ U o U' => ∃ v L, o = .returned v ∧ Q37_1 Z pr0 w_els kk_w_els c0_w_els c1_w_els c2_w_els h0 n0 v U'.heap L ∧ FrameEnd U o U' L ({ frames := 0, cells := 0, slots := 0, locals := 0 } : Room).cells ({ frames := 0, cells := 0, slots := 0, locals := 0 } : Room).slots) := by
  refine MetFree.of_bodySF (plainFor_of_name pn_37) hisR ?_
  intro p e s m args below meth c s₁ Bd hml0 hP hK
  obtain ⟨rfl, hZ, hh⟩ := hP
  have hx := Bd.exec
  have hby := Bd.bytes
  have hml : c.maxLocals = 2 := hml0
  have hown : s.vm.findClass "java/util/ImmutableCollections$ListN" = some m.cls := findClass_of_methodNamed Bd.named
  have hnm := (name_of_methodNamed Bd.named Bd.method).1
  have X0 : Stand p l e ({ frames := 0, cells := 0, slots := 0, locals := 0 } : Room) s m #[(.ref pr0), (.int 1)] below meth c s₁ [] 0 0 := Stand.of_body Bd
  have e0 : s₁.heap = h0 := by rw [← hh, Bd.state]; rfl
  have N0 := Fr.nil n0
  have pre0 : ∀ t, Steps p.tables e below (s₁.setTop (mkF m 0 #[vr pr0, vi 1] [])) t → Steps p.tables e below (s₁.setTop (entryFrame m #[(.ref pr0), (.int 1)] 2)) t := fun t k => castTop (ef_37__1 m pr0) k
  obtain ⟨T1, X1, e1, st1⟩ := getF X0 hx hZ hown (host := "") (Or.inl (own_W hw 255 rfl)) Via.refl e0 F_elements_pr0 (g := (mkF m 1 #[vr pr0, vi 1] [(.ref pr0)])) rfl rfl (hb hby d37_1)
  have V_c2 := V_w_els
  obtain ⟨c2, Arc2, qc2, Sc2, Nc2, Hc2, Gc2⟩ := V_c2
  have hin3 : ¬ ((1 : Int32) < 0 ∨ c2.slots.size ≤ ((1 : Int32)).toNatClampNeg) := inb_of Sc2 ⟨by decide, by decide⟩
  obtain ⟨fs, hr, hrun, hended, hW, hsame⟩ := X1.leave (v := some (.ref c1_w_els)) (fun h => by rw [Bd.returns] at h; cases h) (BodyLoose.notSynchronized Bd)
  refine ⟨_, _, pre0 _ ?_, hrun, hended, _, _, rfl, ?_, ⟨_, rfl⟩, hW, hsame.mono (by decide) (by decide)⟩
  · show Stp p e below s₁ m 0 #[vr pr0, vi 1] [] _
    refine XS.aloadN X0.here hx rfl (hb hby d37_0) rfl rfl ?_
    refine st1 _ ?_
    show Stp p e below T1 m 4 #[vr pr0, vi 1] [(.ref w_els)] _
    refine XS.iloadN X1.here hx rfl (hb hby d37_4) rfl ?_
    refine X1.aaload hx (j := (1 : Int32)) (v := (.ref c1_w_els)) (by rw [e1]; exact Arc2.1) (State.isArrayOf_alike hZ.alike Arc2.2.1) rfl Arc2.2.2 hin3 (Has.at Hc2 hin3 rfl) (g := (mkF m 5 #[vr pr0, vi 1] [(.int 1), (.ref w_els)])) rfl rfl (hb hby d37_5) _ ?_
    show Stp p e below T1 m 6 #[vr pr0, vi 1] [(.ref c1_w_els)] _
    jvm_step X1.here [X1.here.top, hx, (hb hby d37_6), X1.method', Bd.returns, Value.isRef, FieldType.isReference]
    first | (intro acts; rw [hr _ acts rfl rfl rfl]) | rw [hr _ _ rfl rfl rfl]
    exact Steps.refl _
  · show Q37_1 Z pr0 w_els kk_w_els c0_w_els c1_w_els c2_w_els h0 n0 _ T1.heap _
    rw [e1]
    exact ⟨rfl, N0, rfl⟩
theorem ef_37__2 (m : MethodId) (pr0 : Addr) : entryFrame m #[(.ref pr0), (.int 2)] 2 = mkF m 0 #[vr pr0, vi 2] [] := by first | (simp [entryFrame, mkF, argsToLocals, Value.category]; done) | rfl
def Q37_2 (Z : State) (pr0 : Addr) (w_els : Addr) (kk_w_els : ClassId) (c0_w_els : Addr) (c1_w_els : Addr) (c2_w_els : Addr) (h0 : Heap) (n0 : Nat) (v : Option Value) (h : Heap) (L : List Loc) : Prop := v = some (.ref c2_w_els) ∧ Fr n0 L ∧ h = h0
set_option maxRecDepth 65536 in
set_option maxHeartbeats 40000000 in
theorem rm37_2 (l : Launch) (Z : State) (a0 : Array Value) (hw : ∀ d ∈ tables_1, d.before a0 Z = true) (ws : List Jvm.Cond) (pr0 : Addr) (w_els : Addr) (kk_w_els : ClassId) (c0_w_els : Addr) (c1_w_els : Addr) (c2_w_els : Addr) (h0 : Heap) (n0 : Nat) (Z0 : n0 ≤ h0.size) (O0 : Old Z n0 h0) (F_elements_pr0 : Fld Z h0 pr0 "java/util/ImmutableCollections$ListN" "elements" "[Ljava/lang/Object;" (.ref w_els)) (V_w_els : Arv Z h0 w_els kk_w_els (.object "java/lang/Object") (3 : Int32) [(.ref c0_w_els), (.ref c1_w_els), (.ref c2_w_els)] .null) :
    MetFree l mN33 (head1 (Jvm.Cond.code mN33 jdk_45_method_4_code 2 (some (.object "java/lang/Object")) :: ws) ({ frames := 0, cells := 0, slots := 0, locals := 0 } : Room)) (fun a U => a = #[(.ref pr0), (.int 2)] ∧ Z.Warmed39 U.vm ∧ U.heap = h0) (fun _ _ _ _ _ => True) (fun _ U o U' => ∃ v L, o = .returned v ∧ Q37_2 Z pr0 w_els kk_w_els c0_w_els c1_w_els c2_w_els h0 n0 v U'.heap L ∧ FrameEnd U o U' L ({ frames := 0, cells := 0, slots := 0, locals := 0 } : Room).cells ({ frames := 0, cells := 0, slots := 0, locals := 0 } : Room).slots) := by
  refine MetFree.of_bodySF (plainFor_of_name pn_37) hisR ?_
  intro p e s m args below meth c s₁ Bd hml0 hP hK
  obtain ⟨rfl, hZ, hh⟩ := hP
  have hx := Bd.exec
  have hby := Bd.bytes
  have hml : c.maxLocals = 2 := hml0
  have hown : s.vm.findClass "java/util/ImmutableCollections$ListN" = some m.cls := findClass_of_methodNamed Bd.named
  have hnm := (name_of_methodNamed Bd.named Bd.method).1
  have X0 : Stand p l e ({ frames := 0, cells := 0, slots := 0, locals := 0 } : Room) s m #[(.ref pr0), (.int 2)] below meth c s₁ [] 0 0 := Stand.of_body Bd
  have e0 : s₁.heap = h0 := by rw [← hh, Bd.state]; rfl
  have N0 := Fr.nil n0
  have pre0 : ∀ t, Steps p.tables e below (s₁.setTop (mkF m 0 #[vr pr0, vi 2] [])) t → Steps p.tables e below (s₁.setTop (entryFrame m #[(.ref pr0), (.int 2)] 2)) t := fun t k => castTop (ef_37__2 m pr0) k
  obtain ⟨T1, X1, e1, st1⟩ := getF X0 hx hZ hown (host := "") (Or.inl (own_W hw 255 rfl)) Via.refl e0 F_elements_pr0 (g := (mkF m 1 #[vr pr0, vi 2] [(.ref pr0)])) rfl rfl (hb hby d37_1)
  have V_c2 := V_w_els
  obtain ⟨c2, Arc2, qc2, Sc2, Nc2, Hc2, Gc2⟩ := V_c2
  have hin3 : ¬ ((2 : Int32) < 0 ∨ c2.slots.size ≤ ((2 : Int32)).toNatClampNeg) := inb_of Sc2 ⟨by decide, by decide⟩
  obtain ⟨fs, hr, hrun, hended, hW, hsame⟩ := X1.leave (v := some (.ref c2_w_els)) (fun h => by rw [Bd.returns] at h; cases h) (BodyLoose.notSynchronized Bd)
  refine ⟨_, _, pre0 _ ?_, hrun, hended, _, _, rfl, ?_, ⟨_, rfl⟩, hW, hsame.mono (by decide) (by decide)⟩
  · show Stp p e below s₁ m 0 #[vr pr0, vi 2] [] _
    refine XS.aloadN X0.here hx rfl (hb hby d37_0) rfl rfl ?_
    refine st1 _ ?_
    show Stp p e below T1 m 4 #[vr pr0, vi 2] [(.ref w_els)] _
    refine XS.iloadN X1.here hx rfl (hb hby d37_4) rfl ?_
    refine X1.aaload hx (j := (2 : Int32)) (v := (.ref c2_w_els)) (by rw [e1]; exact Arc2.1) (State.isArrayOf_alike hZ.alike Arc2.2.1) rfl Arc2.2.2 hin3 (Has.at Hc2 hin3 rfl) (g := (mkF m 5 #[vr pr0, vi 2] [(.int 2), (.ref w_els)])) rfl rfl (hb hby d37_5) _ ?_
    show Stp p e below T1 m 6 #[vr pr0, vi 2] [(.ref c2_w_els)] _
    jvm_step X1.here [X1.here.top, hx, (hb hby d37_6), X1.method', Bd.returns, Value.isRef, FieldType.isReference]
    first | (intro acts; rw [hr _ acts rfl rfl rfl]) | rw [hr _ _ rfl rfl rfl]
    exact Steps.refl _
  · show Q37_2 Z pr0 w_els kk_w_els c0_w_els c1_w_els c2_w_els h0 n0 _ T1.heap _
    rw [e1]
    exact ⟨rfl, N0, rfl⟩
theorem d38_0 : decode jdk_45_method_3_code 0 = .ok (.aload_n 0, 1) := by decide +kernel
theorem d38_1 : decode jdk_45_method_3_code 1 = .ok (.getfield 7, 3) := by decide +kernel
theorem d38_4 : decode jdk_45_method_3_code 4 = .ok (.arraylength, 1) := by decide +kernel
theorem d38_5 : decode jdk_45_method_3_code 5 = .ok (.ireturn, 1) := by decide +kernel
theorem pn_38 : plainName "java/util/ImmutableCollections$ListN" = true := by first | (simp [plainName, overriddenIn]; done) | decide +kernel
theorem ef_38 (m : MethodId) (pr0 : Addr) : entryFrame m #[(.ref pr0)] 1 = mkF m 0 #[vr pr0] [] := by first | (simp [entryFrame, mkF, argsToLocals, Value.category]; done) | rfl
def Q38 (Z : State) (pr0 : Addr) (w_els : Addr) (kk_w_els : ClassId) (c0_w_els : Addr) (c1_w_els : Addr) (c2_w_els : Addr) (h0 : Heap) (n0 : Nat) (v : Option Value) (h : Heap) (L : List Loc) : Prop := v = some (.int 3) ∧ Fr n0 L ∧ h = h0
set_option maxRecDepth 65536 in
set_option maxHeartbeats 40000000 in
theorem rm38 (l : Launch) (Z : State) (a0 : Array Value) (hw : ∀ d ∈ tables_1, d.before a0 Z = true) (ws : List Jvm.Cond) (pr0 : Addr) (w_els : Addr) (kk_w_els : ClassId) (c0_w_els : Addr) (c1_w_els : Addr) (c2_w_els : Addr) (h0 : Heap) (n0 : Nat) (Z0 : n0 ≤ h0.size) (O0 : Old Z n0 h0) (F_elements_pr0 : Fld Z h0 pr0 "java/util/ImmutableCollections$ListN" "elements" "[Ljava/lang/Object;" (.ref w_els)) (V_w_els : Arv Z h0 w_els kk_w_els (.object "java/lang/Object") (3 : Int32) [(.ref c0_w_els), (.ref c1_w_els), (.ref c2_w_els)] .null) :
    MetFree l mN34 (head1 (Jvm.Cond.code mN34 jdk_45_method_3_code 1 (some .int) :: ws) ({ frames := 0, cells := 0, slots := 0, locals := 0 } : Room)) (fun a U => a = #[(.ref pr0)] ∧ Z.Warmed39 U.vm ∧ U.heap = h0) (fun _ _ _ _ _ => True) (fun _ U o U' => ∃ v L, o = .returned v ∧ Q38 Z pr0 w_els kk_w_els c0_w_els c1_w_els c2_w_els h0 n0 v U'.heap L ∧ FrameEnd U o U' L ({ frames := 0, cells := 0, slots := 0, locals := 0 } : Room).cells ({ frames := 0, cells := 0, slots := 0, locals := 0 } : Room).slots) := by
  refine MetFree.of_bodySF (plainFor_of_name pn_38) hisR ?_
  intro p e s m args below meth c s₁ Bd hml0 hP hK
  obtain ⟨rfl, hZ, hh⟩ := hP
  have hx := Bd.exec
  have hby := Bd.bytes
  have hml : c.maxLocals = 1 := hml0
  have hown : s.vm.findClass "java/util/ImmutableCollections$ListN" = some m.cls := findClass_of_methodNamed Bd.named
  have hnm := (name_of_methodNamed Bd.named Bd.method).1
  have X0 : Stand p l e ({ frames := 0, cells := 0, slots := 0, locals := 0 } : Room) s m #[(.ref pr0)] below meth c s₁ [] 0 0 := Stand.of_body Bd
  have e0 : s₁.heap = h0 := by rw [← hh, Bd.state]; rfl
  have N0 := Fr.nil n0
  have pre0 : ∀ t, Steps p.tables e below (s₁.setTop (mkF m 0 #[vr pr0] [])) t → Steps p.tables e below (s₁.setTop (entryFrame m #[(.ref pr0)] 1)) t := fun t k => castTop (ef_38 m pr0) k
  obtain ⟨T1, X1, e1, st1⟩ := getF X0 hx hZ hown (host := "") (Or.inl (own_W hw 255 rfl)) Via.refl e0 F_elements_pr0 (g := (mkF m 1 #[vr pr0] [(.ref pr0)])) rfl rfl (hb hby d38_1)
  have V_c2 := V_w_els
  obtain ⟨c2, Arc2, qc2, Sc2, Nc2, Hc2, Gc2⟩ := V_c2
  obtain ⟨fs, hr, hrun, hended, hW, hsame⟩ := X1.leave (v := some (.int 3)) (fun h => by rw [Bd.returns] at h; cases h) (BodyLoose.notSynchronized Bd)
  refine ⟨_, _, pre0 _ ?_, hrun, hended, _, _, rfl, ?_, ⟨_, rfl⟩, hW, hsame.mono (by decide) (by decide)⟩
  · show Stp p e below s₁ m 0 #[vr pr0] [] _
    refine XS.aloadN X0.here hx rfl (hb hby d38_0) rfl rfl ?_
    refine st1 _ ?_
    show Stp p e below T1 m 4 #[vr pr0] [(.ref w_els)] _
    refine X1.arraylength hx (by rw [e1]; exact Arc2.1) (State.isArrayOf_alike hZ.alike Arc2.2.1) (g := (mkF m 4 #[vr pr0] [(.ref w_els)])) rfl rfl (hb hby d38_4) _ ?_
    rw [len_of Sc2 Nc2]
    show Stp p e below T1 m 5 #[vr pr0] [(.int 3)] _
    exact retI X1 hx Bd.returns (hb hby d38_5) hr
  · show Q38 Z pr0 w_els kk_w_els c0_w_els c1_w_els c2_w_els h0 n0 _ T1.heap _
    rw [e1]
    exact ⟨rfl, N0, rfl⟩
theorem d33_0 : decode jdk_44_method_3_code 0 = .ok (.aload_n 0, 1) := by decide +kernel
theorem d33_1 : decode jdk_44_method_3_code 1 = .ok (.getfield 24, 3) := by decide +kernel
theorem d33_4 : decode jdk_44_method_3_code 4 = .ok (.getstatic 19, 3) := by decide +kernel
theorem d33_7 : decode jdk_44_method_3_code 7 = .ok (.if_acmp .eq 7, 3) := by decide +kernel
theorem d33_14 : decode jdk_44_method_3_code 14 = .ok (.iconst 1, 1) := by decide +kernel
theorem d33_15 : decode jdk_44_method_3_code 15 = .ok (.ireturn, 1) := by decide +kernel
theorem pn_33 : plainName "java/util/ImmutableCollections$List12" = true := by first | (simp [plainName, overriddenIn]; done) | decide +kernel
theorem ef_33 (m : MethodId) (pr0 : Addr) : entryFrame m #[(.ref pr0)] 1 = mkF m 0 #[vr pr0] [] := by first | (simp [entryFrame, mkF, argsToLocals, Value.category]; done) | rfl
def Q33_1 (Z : State) (pr0 : Addr) (w_EMPTY : Addr) (h0 : Heap) (n0 : Nat) (v : Option Value) (h : Heap) (L : List Loc) : Prop := v = some (.int 1) ∧ Fr n0 L ∧ h = h0
set_option maxRecDepth 65536 in
set_option maxHeartbeats 40000000 in
theorem rm33_1 (l : Launch) (Z : State) (a0 : Array Value) (hw : ∀ d ∈ tables_1, d.before a0 Z = true) (ws : List Jvm.Cond) (pr0 : Addr) (w_EMPTY : Addr) (h0 : Heap) (n0 : Nat) (Z0 : n0 ≤ h0.size) (O0 : Old Z n0 h0) (S_EMPTY : Sta Z Z.heap "java/util/ImmutableCollections" "EMPTY" "Ljava/lang/Object;" (.ref w_EMPTY)) (F_e1_pr0 : Fld Z h0 pr0 "java/util/ImmutableCollections$List12" "e1" "Ljava/lang/Object;" (.ref w_EMPTY)) :
    MetFree l mN35 (head1 (Jvm.Cond.code mN35 jdk_44_method_3_code 1 (some .int) :: ws) ({ frames := 0, cells := 0, slots := 0, locals := 0 } : Room)) (fun a U => a = #[(.ref pr0)] ∧ Z.Warmed39 U.vm ∧ U.heap = h0) (fun _ _ _ _ _ => True) (fun _ U o U' => ∃ v L, o = .returned v ∧ Q33_1 Z pr0 w_EMPTY h0 n0 v U'.heap L ∧ FrameEnd U o U' L ({ frames := 0, cells := 0, slots := 0, locals := 0 } : Room).cells ({ frames := 0, cells := 0, slots := 0, locals := 0 } : Room).slots) := by
  refine MetFree.of_bodySF (plainFor_of_name pn_33) hisR ?_
  intro p e s m args below meth c s₁ Bd hml0 hP hK
  obtain ⟨rfl, hZ, hh⟩ := hP
  have hx := Bd.exec
  have hby := Bd.bytes
  have hml : c.maxLocals = 1 := hml0
  have hown : s.vm.findClass "java/util/ImmutableCollections$List12" = some m.cls := findClass_of_methodNamed Bd.named
  have hnm := (name_of_methodNamed Bd.named Bd.method).1
  have X0 : Stand p l e ({ frames := 0, cells := 0, slots := 0, locals := 0 } : Room) s m #[(.ref pr0)] below meth c s₁ [] 0 0 := Stand.of_body Bd
  have e0 : s₁.heap = h0 := by rw [← hh, Bd.state]; rfl
  have N0 := Fr.nil n0
  have pre0 : ∀ t, Steps p.tables e below (s₁.setTop (mkF m 0 #[vr pr0] [])) t → Steps p.tables e below (s₁.setTop (entryFrame m #[(.ref pr0)] 1)) t := fun t k => castTop (ef_33 m pr0) k
  obtain ⟨T1, X1, e1, st1⟩ := getF X0 hx hZ hown (host := "") (Or.inl (own_W hw 202 rfl)) Via.refl e0 F_e1_pr0 (g := (mkF m 1 #[vr pr0] [(.ref pr0)])) rfl rfl (hb hby d33_1)
  obtain ⟨T2, X2, e2, st2⟩ := getS2 X1 hx hZ hown (Or.inr (own_W hw 201 rfl)) Via.refl e1 (S_EMPTY.ext O0.2) (g := (mkF m 4 #[vr pr0] [(.ref w_EMPTY)])) rfl (hb hby d33_4)
  obtain ⟨fs, hr, hrun, hended, hW, hsame⟩ := X2.leave (v := some (.int 1)) (fun h => by rw [Bd.returns] at h; cases h) (BodyLoose.notSynchronized Bd)
  refine ⟨_, _, pre0 _ ?_, hrun, hended, _, _, rfl, ?_, ⟨_, rfl⟩, hW, hsame.mono (by decide) (by decide)⟩
  · show Stp p e below s₁ m 0 #[vr pr0] [] _
    refine XS.aloadN X0.here hx rfl (hb hby d33_0) rfl rfl ?_
    refine st1 _ ?_
    show Stp p e below T1 m 4 #[vr pr0] [(.ref w_EMPTY)] _
    refine st2 _ ?_
    show Stp p e below T2 m 7 #[vr pr0] [(.ref w_EMPTY), (.ref w_EMPTY)] _
    refine Jvm.RoadKit.acmp (g := (mkF m 7 #[vr pr0] [(.ref w_EMPTY), (.ref w_EMPTY)])) X2 hx rfl rfl rfl (pc0 := 7) (pc' := 14) (same := true) rfl (hb hby d33_7) rfl (decide_eq_true rfl) (by decide) (by decide) ?_
    show Stp p e below T2 m 14 #[vr pr0] [] _
    refine XS.iconst X2.here hx rfl (hb hby d33_14) ?_
    exact retI X2 hx Bd.returns (hb hby d33_15) hr
  · show Q33_1 Z pr0 w_EMPTY h0 n0 _ T2.heap _
    rw [e2]
    exact ⟨rfl, N0, rfl⟩
theorem d33_10 : decode jdk_44_method_3_code 10 = .ok (.iconst 2, 1) := by decide +kernel
theorem d33_11 : decode jdk_44_method_3_code 11 = .ok (.goto 4, 3) := by decide +kernel
def Q33_2 (Z : State) (pr0 : Addr) (w_EMPTY : Addr) (w_e1_pr0 : Addr) (h0 : Heap) (n0 : Nat) (v : Option Value) (h : Heap) (L : List Loc) : Prop := v = some (.int 2) ∧ Fr n0 L ∧ h = h0
set_option maxRecDepth 65536 in
set_option maxHeartbeats 40000000 in
theorem rm33_2 (l : Launch) (Z : State) (a0 : Array Value) (hw : ∀ d ∈ tables_1, d.before a0 Z = true) (ws : List Jvm.Cond) (pr0 : Addr) (w_EMPTY : Addr) (w_e1_pr0 : Addr) (h0 : Heap) (n0 : Nat) (Z0 : n0 ≤ h0.size) (O0 : Old Z n0 h0) (S_EMPTY : Sta Z Z.heap "java/util/ImmutableCollections" "EMPTY" "Ljava/lang/Object;" (.ref w_EMPTY)) (E_w_EMPTY : Exa Z Z.heap w_EMPTY "java/lang/Object") (F_e1_pr0 : Fld Z h0 pr0 "java/util/ImmutableCollections$List12" "e1" "Ljava/lang/Object;" (.ref w_e1_pr0)) (g_w_e1_pr0 : n0 ≤ w_e1_pr0) :
    MetFree l mN35 (head1 (Jvm.Cond.code mN35 jdk_44_method_3_code 1 (some .int) :: ws) ({ frames := 0, cells := 0, slots := 0, locals := 0 } : Room)) (fun a U => a = #[(.ref pr0)] ∧ Z.Warmed39 U.vm ∧ U.heap = h0) (fun _ _ _ _ _ => True) (fun _ U o U' => ∃ v L, o = .returned v ∧ Q33_2 Z pr0 w_EMPTY w_e1_pr0 h0 n0 v U'.heap L ∧ FrameEnd U o U' L ({ frames := 0, cells := 0, slots := 0, locals := 0 } : Room).cells ({ frames := 0, cells := 0, slots := 0, locals := 0 } : Room).slots) := by
  refine MetFree.of_bodySF (plainFor_of_name pn_33) hisR ?_
  intro p e s m args below meth c s₁ Bd hml0 hP hK
  obtain ⟨rfl, hZ, hh⟩ := hP
  have hx := Bd.exec
  have hby := Bd.bytes
  have hml : c.maxLocals = 1 := hml0
  have hown : s.vm.findClass "java/util/ImmutableCollections$List12" = some m.cls := findClass_of_methodNamed Bd.named
  have hnm := (name_of_methodNamed Bd.named Bd.method).1
  have X0 : Stand p l e ({ frames := 0, cells := 0, slots := 0, locals := 0 } : Room) s m #[(.ref pr0)] below meth c s₁ [] 0 0 := Stand.of_body Bd
  have e0 : s₁.heap = h0 := by rw [← hh, Bd.state]; rfl
  have N0 := Fr.nil n0
  have pre0 : ∀ t, Steps p.tables e below (s₁.setTop (mkF m 0 #[vr pr0] [])) t → Steps p.tables e below (s₁.setTop (entryFrame m #[(.ref pr0)] 1)) t := fun t k => castTop (ef_33 m pr0) k
  obtain ⟨T1, X1, e1, st1⟩ := getF X0 hx hZ hown (host := "") (Or.inl (own_W hw 202 rfl)) Via.refl e0 F_e1_pr0 (g := (mkF m 1 #[vr pr0] [(.ref pr0)])) rfl rfl (hb hby d33_1)
  obtain ⟨T2, X2, e2, st2⟩ := getS2 X1 hx hZ hown (Or.inr (own_W hw 201 rfl)) Via.refl e1 (S_EMPTY.ext O0.2) (g := (mkF m 4 #[vr pr0] [(.ref w_e1_pr0)])) rfl (hb hby d33_4)
  obtain ⟨fs, hr, hrun, hended, hW, hsame⟩ := X2.leave (v := some (.int 2)) (fun h => by rw [Bd.returns] at h; cases h) (BodyLoose.notSynchronized Bd)
  refine ⟨_, _, pre0 _ ?_, hrun, hended, _, _, rfl, ?_, ⟨_, rfl⟩, hW, hsame.mono (by decide) (by decide)⟩
  · show Stp p e below s₁ m 0 #[vr pr0] [] _
    refine XS.aloadN X0.here hx rfl (hb hby d33_0) rfl rfl ?_
    refine st1 _ ?_
    show Stp p e below T1 m 4 #[vr pr0] [(.ref w_e1_pr0)] _
    refine st2 _ ?_
    show Stp p e below T2 m 7 #[vr pr0] [(.ref w_EMPTY), (.ref w_e1_pr0)] _
    refine Jvm.RoadKit.acmp (g := (mkF m 7 #[vr pr0] [(.ref w_EMPTY), (.ref w_e1_pr0)])) X2 hx rfl rfl rfl (pc0 := 7) (pc' := 10) (same := false) rfl (hb hby d33_7) rfl (decide_eq_false fun q => (Ne.symm (O0.ne E_w_EMPTY.lt g_w_e1_pr0)) (Value.ref.inj q)) (by decide) (by decide) ?_
    show Stp p e below T2 m 10 #[vr pr0] [] _
    refine XS.iconst X2.here hx rfl (hb hby d33_10) ?_
    refine XS.goto X2.here hx rfl (pc0 := 11) (pc' := 15) rfl (hb hby d33_11) (by decide) (by decide) ?_
    show Stp p e below T2 m 15 #[vr pr0] [(.int 2)] _
    exact retI X2 hx Bd.returns (hb hby d33_15) hr
  · show Q33_2 Z pr0 w_EMPTY w_e1_pr0 h0 n0 _ T2.heap _
    rw [e2]
    exact ⟨rfl, N0, rfl⟩
theorem pd_22 : parseMethodDescriptor "(I)Ljava/lang/Object;" = some ⟨[.int], some (.object "java/lang/Object")⟩ := by decide +kernel
theorem d29_0 : decode prog_67_method_2_code 0 = .ok (.aload_n 0, 1) := by decide +kernel
theorem d29_1 : decode prog_67_method_2_code 1 = .ok (.getfield 19, 3) := by decide +kernel
theorem d29_4 : decode prog_67_method_2_code 4 = .ok (.iload_n 1, 1) := by decide +kernel
theorem d29_5 : decode prog_67_method_2_code 5 = .ok (.invokeinterface 27 2, 5) := by decide +kernel
theorem d29_10 : decode prog_67_method_2_code 10 = .ok (.checkcast 31, 3) := by decide +kernel
theorem d29_13 : decode prog_67_method_2_code 13 = .ok (.areturn, 1) := by decide +kernel
theorem pn_29 : plainName "com/example/tyche/tyche/model/jani/Expression$Operation" = true := by first | (simp [plainName, overriddenIn]; done) | decide +kernel
theorem ef_29__0 (m : MethodId) (pr0 : Addr) : entryFrame m #[(.ref pr0), (.int 0)] 2 = mkF m 0 #[vr pr0, vi 0] [] := by first | (simp [entryFrame, mkF, argsToLocals, Value.category]; done) | rfl
def Q29_0 (Z : State) (pr0 : Addr) (w_ops : Addr) (w_e0 : Addr) (h0 : Heap) (n0 : Nat) (v : Option Value) (h : Heap) (L : List Loc) : Prop := v = some (.ref w_e0) ∧ Fr n0 L ∧ h = h0
set_option maxRecDepth 65536 in
set_option maxHeartbeats 40000000 in
theorem rm29_0 (l : Launch) (Z : State) (a0 : Array Value) (hw : ∀ d ∈ tables_1, d.before a0 Z = true) (ws : List Jvm.Cond) (pr0 : Addr) (w_ops : Addr) (w_e0 : Addr) (h0 : Heap) (n0 : Nat) (Z0 : n0 ≤ h0.size) (O0 : Old Z n0 h0) (F_operands_pr0 : Fld Z h0 pr0 "com/example/tyche/tyche/model/jani/Expression$Operation" "operands" "Ljava/util/List;" (.ref w_ops)) (E_w_ops : Exa Z h0 w_ops "java/util/ImmutableCollections$List12") (F_e0_w_ops : Fld Z h0 w_ops "java/util/ImmutableCollections$List12" "e0" "Ljava/lang/Object;" (.ref w_e0)) (E_w_e0 : Exa Z h0 w_e0 "com/example/tyche/tyche/model/jani/Expression$Operation") :
    MetFree l mN36 (head1 (Jvm.Cond.code mN36 prog_67_method_2_code 2 (some (.object "com/example/tyche/tyche/model/jani/Expression")) :: ws) ({ frames := 1, cells := 0, slots := 0, locals := 13 } : Room)) (fun a U => a = #[(.ref pr0), (.int 0)] ∧ Z.Warmed39 U.vm ∧ U.heap = h0) (fun _ _ _ _ _ => True) (fun _ U o U' => ∃ v L, o = .returned v ∧ Q29_0 Z pr0 w_ops w_e0 h0 n0 v U'.heap L ∧ FrameEnd U o U' L ({ frames := 1, cells := 0, slots := 0, locals := 13 } : Room).cells ({ frames := 1, cells := 0, slots := 0, locals := 13 } : Room).slots) := by
  refine MetFree.of_bodySF (plainFor_of_name pn_29) hisR ?_
  intro p e s m args below meth c s₁ Bd hml0 hP hK
  obtain ⟨rfl, hZ, hh⟩ := hP
  have hx := Bd.exec
  have hby := Bd.bytes
  have hml : c.maxLocals = 2 := hml0
  have hown : s.vm.findClass "com/example/tyche/tyche/model/jani/Expression$Operation" = some m.cls := findClass_of_methodNamed Bd.named
  have hnm := (name_of_methodNamed Bd.named Bd.method).1
  have X0 : Stand p l e ({ frames := 1, cells := 0, slots := 0, locals := 13 } : Room) s m #[(.ref pr0), (.int 0)] below meth c s₁ [] 0 0 := Stand.of_body Bd
  have e0 : s₁.heap = h0 := by rw [← hh, Bd.state]; rfl
  have N0 := Fr.nil n0
  have pre0 : ∀ t, Steps p.tables e below (s₁.setTop (mkF m 0 #[vr pr0, vi 0] [])) t → Steps p.tables e below (s₁.setTop (entryFrame m #[(.ref pr0), (.int 0)] 2)) t := fun t k => castTop (ef_29__0 m pr0) k
  obtain ⟨T1, X1, e1, st1⟩ := getF X0 hx hZ hown (host := "") (Or.inl (own_W hw 81 rfl)) Via.refl e0 F_operands_pr0 (g := (mkF m 1 #[vr pr0, vi 0] [(.ref pr0)])) rfl rfl (hb hby d29_1)
  obtain ⟨cq2, kq2, q2a, q2b, q2c⟩ := isOf hZ e1 E_w_ops
  obtain ⟨_, _, ⟨T2, L2, k2, n2⟩, -, X2, ⟨Lc2, hQ2, l2, y2, z2⟩, st2⟩ := X1.interfaceBack hx (xi := mN37) (y := mN32) hown (mvT hZ (own_W hw 209 rfl)) (mvT hZ (own_W hw 210 rfl)) (mvT hZ (own_W hw 211 rfl)) (mvT hZ (own_W hw 212 rfl)) (mvT hZ (own_W hw 213 rfl)) (mvT hZ (own_W hw 214 rfl)) (mvT hZ (own_W hw 215 rfl)) (mvT hZ (own_W hw 216 rfl)) (by decide) (backOf (W := 0) (rm30_0 l Z a0 hw [] w_ops w_e0 h0 n0 Z0 O0 F_e0_w_ops) hZ (own_W hw 217 rfl) (own_W hw 176 rfl) (by decide) (by decide)) q2a q2b q2c (g := (mkF m 5 #[vr pr0, vi 0] [(.int 0), (.ref w_ops)])) rfl (by rw [hml]; rfl) (Steps.refl _) (argsL := [(.int 0)]) (rest := []) (lenOf pd_22 rfl) rfl (by show 2 * 0 + _ ≤ _; exact Nat.le_of_eq rfl) (hb hby d29_5) (fun _ _ => ⟨rfl, e1, (by decide : 0 + 0 ≤ _), (by decide : 0 + 0 ≤ _)⟩)
  dsimp only [Pt.U, Pt.locs, Pt.cells, Pt.slots] at X2 l2 y2 z2 st2 hQ2
  subst l2 y2 z2
  obtain ⟨rfl, N2q, eq2⟩ := hQ2
  have N2 := Fr.app N0 N2q
  obtain ⟨T3, X3, e3, st3⟩ := castY X2 hx hZ hown (own_W hw 218 rfl) eq2 (Ins.of_exa E_w_e0 (own_W hw 219 rfl)) (g := (mkF m 10 #[vr pr0, vi 0] [(.ref w_e0)])) rfl rfl (hb hby d29_10)
  obtain ⟨fs, hr, hrun, hended, hW, hsame⟩ := X3.leave (v := some (.ref w_e0)) (fun h => by rw [Bd.returns] at h; cases h) (BodyLoose.notSynchronized Bd)
  refine ⟨_, _, pre0 _ ?_, hrun, hended, _, _, rfl, ?_, ⟨_, rfl⟩, hW, hsame.mono (by decide) (by decide)⟩
  · show Stp p e below s₁ m 0 #[vr pr0, vi 0] [] _
    refine XS.aloadN X0.here hx rfl (hb hby d29_0) rfl rfl ?_
    refine st1 _ ?_
    show Stp p e below T1 m 4 #[vr pr0, vi 0] [(.ref w_ops)] _
    refine XS.iloadN X1.here hx rfl (hb hby d29_4) rfl ?_
    refine st2.trans ?_
    show Stp p e below T2 m 10 #[vr pr0, vi 0] [(.ref w_e0)] _
    refine st3 _ ?_
    show Stp p e below T3 m 13 #[vr pr0, vi 0] [(.ref w_e0)] _
    jvm_step X3.here [X3.here.top, hx, (hb hby d29_13), X3.method', Bd.returns, Value.isRef, FieldType.isReference]
    first | (intro acts; rw [hr _ acts rfl rfl rfl]) | rw [hr _ _ rfl rfl rfl]
    exact Steps.refl _
  · show Q29_0 Z pr0 w_ops w_e0 h0 n0 _ T3.heap _
    rw [e3]
    exact ⟨rfl, N2, rfl⟩
theorem ef_29__1 (m : MethodId) (pr0 : Addr) : entryFrame m #[(.ref pr0), (.int 1)] 2 = mkF m 0 #[vr pr0, vi 1] [] := by first | (simp [entryFrame, mkF, argsToLocals, Value.category]; done) | rfl
def Q29_1 (Z : State) (pr0 : Addr) (w_EMPTY : Addr) (w_ops : Addr) (w_e1 : Addr) (h0 : Heap) (n0 : Nat) (v : Option Value) (h : Heap) (L : List Loc) : Prop := v = some (.ref w_e1) ∧ Fr n0 L ∧ h = h0
set_option maxRecDepth 65536 in
set_option maxHeartbeats 40000000 in
theorem rm29_1 (l : Launch) (Z : State) (a0 : Array Value) (hw : ∀ d ∈ tables_1, d.before a0 Z = true) (ws : List Jvm.Cond) (pr0 : Addr) (w_EMPTY : Addr) (w_ops : Addr) (w_e1 : Addr) (h0 : Heap) (n0 : Nat) (Z0 : n0 ≤ h0.size) (O0 : Old Z n0 h0) (S_EMPTY : Sta Z Z.heap "java/util/ImmutableCollections" "EMPTY" "Ljava/lang/Object;" (.ref w_EMPTY)) (E_w_EMPTY : Exa Z Z.heap w_EMPTY "java/lang/Object") (F_operands_pr0 : Fld Z h0 pr0 "com/example/tyche/tyche/model/jani/Expression$Operation" "operands" "Ljava/util/List;" (.ref w_ops)) (E_w_ops : Exa Z h0 w_ops "java/util/ImmutableCollections$List12") (F_e1_w_ops : Fld Z h0 w_ops "java/util/ImmutableCollections$List12" "e1" "Ljava/lang/Object;" (.ref w_e1)) (E_w_e1 : Exa Z h0 w_e1 "com/example/tyche/tyche/model/jani/Expression$Operation") (g_w_e1 : n0 ≤ w_e1) :
    MetFree l mN36 (head1 (Jvm.Cond.code mN36 prog_67_method_2_code 2 (some (.object "com/example/tyche/tyche/model/jani/Expression")) :: ws) ({ frames := 1, cells := 0, slots := 0, locals := 13 } : Room)) (fun a U => a = #[(.ref pr0), (.int 1)] ∧ Z.Warmed39 U.vm ∧ U.heap = h0) (fun _ _ _ _ _ => True) (fun _ U o U' => ∃ v L, o = .returned v ∧ Q29_1 Z pr0 w_EMPTY w_ops w_e1 h0 n0 v U'.heap L ∧ FrameEnd U o U' L ({ frames := 1, cells := 0, slots := 0, locals := 13 } : Room).cells ({ frames := 1, cells := 0, slots := 0, locals := 13 } : Room).slots) := by
  refine MetFree.of_bodySF (plainFor_of_name pn_29) hisR ?_
  intro p e s m args below meth c s₁ Bd hml0 hP hK
  obtain ⟨rfl, hZ, hh⟩ := hP
  have hx := Bd.exec
  have hby := Bd.bytes
  have hml : c.maxLocals = 2 := hml0
  have hown : s.vm.findClass "com/example/tyche/tyche/model/jani/Expression$Operation" = some m.cls := findClass_of_methodNamed Bd.named
  have hnm := (name_of_methodNamed Bd.named Bd.method).1
  have X0 : Stand p l e ({ frames := 1, cells := 0, slots := 0, locals := 13 } : Room) s m #[(.ref pr0), (.int 1)] below meth c s₁ [] 0 0 := Stand.of_body Bd
  have e0 : s₁.heap = h0 := by rw [← hh, Bd.state]; rfl
  have N0 := Fr.nil n0
  have pre0 : ∀ t, Steps p.tables e below (s₁.setTop (mkF m 0 #[vr pr0, vi 1] [])) t → Steps p.tables e below (s₁.setTop (entryFrame m #[(.ref pr0), (.int 1)] 2)) t := fun t k => castTop (ef_29__1 m pr0) k
  obtain ⟨T1, X1, e1, st1⟩ := getF X0 hx hZ hown (host := "") (Or.inl (own_W hw 81 rfl)) Via.refl e0 F_operands_pr0 (g := (mkF m 1 #[vr pr0, vi 1] [(.ref pr0)])) rfl rfl (hb hby d29_1)
  obtain ⟨cq2, kq2, q2a, q2b, q2c⟩ := isOf hZ e1 E_w_ops
  obtain ⟨_, _, ⟨T2, L2, k2, n2⟩, -, X2, ⟨Lc2, hQ2, l2, y2, z2⟩, st2⟩ := X1.interfaceBack hx (xi := mN37) (y := mN32) hown (mvT hZ (own_W hw 209 rfl)) (mvT hZ (own_W hw 210 rfl)) (mvT hZ (own_W hw 211 rfl)) (mvT hZ (own_W hw 212 rfl)) (mvT hZ (own_W hw 213 rfl)) (mvT hZ (own_W hw 214 rfl)) (mvT hZ (own_W hw 215 rfl)) (mvT hZ (own_W hw 216 rfl)) (by decide) (backOf (W := 0) (rm30_1 l Z a0 hw [] w_ops w_EMPTY w_e1 h0 n0 Z0 O0 S_EMPTY E_w_EMPTY F_e1_w_ops g_w_e1) hZ (own_W hw 217 rfl) (own_W hw 176 rfl) (by decide) (by decide)) q2a q2b q2c (g := (mkF m 5 #[vr pr0, vi 1] [(.int 1), (.ref w_ops)])) rfl (by rw [hml]; rfl) (Steps.refl _) (argsL := [(.int 1)]) (rest := []) (lenOf pd_22 rfl) rfl (by show 2 * 0 + _ ≤ _; exact Nat.le_of_eq rfl) (hb hby d29_5) (fun _ _ => ⟨rfl, e1, (by decide : 0 + 0 ≤ _), (by decide : 0 + 0 ≤ _)⟩)
  dsimp only [Pt.U, Pt.locs, Pt.cells, Pt.slots] at X2 l2 y2 z2 st2 hQ2
  subst l2 y2 z2
  obtain ⟨rfl, N2q, eq2⟩ := hQ2
  have N2 := Fr.app N0 N2q
  obtain ⟨T3, X3, e3, st3⟩ := castY X2 hx hZ hown (own_W hw 218 rfl) eq2 (Ins.of_exa E_w_e1 (own_W hw 219 rfl)) (g := (mkF m 10 #[vr pr0, vi 1] [(.ref w_e1)])) rfl rfl (hb hby d29_10)
  obtain ⟨fs, hr, hrun, hended, hW, hsame⟩ := X3.leave (v := some (.ref w_e1)) (fun h => by rw [Bd.returns] at h; cases h) (BodyLoose.notSynchronized Bd)
  refine ⟨_, _, pre0 _ ?_, hrun, hended, _, _, rfl, ?_, ⟨_, rfl⟩, hW, hsame.mono (by decide) (by decide)⟩
  · show Stp p e below s₁ m 0 #[vr pr0, vi 1] [] _
    refine XS.aloadN X0.here hx rfl (hb hby d29_0) rfl rfl ?_
    refine st1 _ ?_
    show Stp p e below T1 m 4 #[vr pr0, vi 1] [(.ref w_ops)] _
    refine XS.iloadN X1.here hx rfl (hb hby d29_4) rfl ?_
    refine st2.trans ?_
    show Stp p e below T2 m 10 #[vr pr0, vi 1] [(.ref w_e1)] _
    refine st3 _ ?_
    show Stp p e below T3 m 13 #[vr pr0, vi 1] [(.ref w_e1)] _
    jvm_step X3.here [X3.here.top, hx, (hb hby d29_13), X3.method', Bd.returns, Value.isRef, FieldType.isReference]
    first | (intro acts; rw [hr _ acts rfl rfl rfl]) | rw [hr _ _ rfl rfl rfl]
    exact Steps.refl _
  · show Q29_1 Z pr0 w_EMPTY w_ops w_e1 h0 n0 _ T3.heap _
    rw [e3]
    exact ⟨rfl, N2, rfl⟩
theorem ef_29__30 (m : MethodId) (pr0 : Addr) : entryFrame m #[(.ref pr0), (.int 0)] 2 = mkF m 0 #[vr pr0, vi 0] [] := by first | (simp [entryFrame, mkF, argsToLocals, Value.category]; done) | rfl
def Q29_30 (Z : State) (pr0 : Addr) (w_ops : Addr) (w_els : Addr) (kk_w_els : ClassId) (c0_w_els : Addr) (c1_w_els : Addr) (c2_w_els : Addr) (h0 : Heap) (n0 : Nat) (v : Option Value) (h : Heap) (L : List Loc) : Prop := v = some (.ref c0_w_els) ∧ Fr n0 L ∧ h = h0
set_option maxRecDepth 65536 in
set_option maxHeartbeats 40000000 in
theorem rm29_30 (l : Launch) (Z : State) (a0 : Array Value) (hw : ∀ d ∈ tables_1, d.before a0 Z = true) (ws : List Jvm.Cond) (pr0 : Addr) (w_ops : Addr) (w_els : Addr) (kk_w_els : ClassId) (c0_w_els : Addr) (c1_w_els : Addr) (c2_w_els : Addr) (h0 : Heap) (n0 : Nat) (Z0 : n0 ≤ h0.size) (O0 : Old Z n0 h0) (F_operands_pr0 : Fld Z h0 pr0 "com/example/tyche/tyche/model/jani/Expression$Operation" "operands" "Ljava/util/List;" (.ref w_ops)) (E_w_ops : Exa Z h0 w_ops "java/util/ImmutableCollections$ListN") (F_elements_w_ops : Fld Z h0 w_ops "java/util/ImmutableCollections$ListN" "elements" "[Ljava/lang/Object;" (.ref w_els)) (V_w_els : Arv Z h0 w_els kk_w_els (.object "java/lang/Object") (3 : Int32) [(.ref c0_w_els), (.ref c1_w_els), (.ref c2_w_els)] .null) (E_c0_w_els : Exa Z h0 c0_w_els "com/example/tyche/tyche/model/jani/Expression$Operation") :
    MetFree l mN36 (head1 (Jvm.Cond.code mN36 prog_67_method_2_code 2 (some (.object "com/example/tyche/tyche/model/jani/Expression")) :: ws) ({ frames := 1, cells := 0, slots := 0, locals := 13 } : Room)) (fun a U => a = #[(.ref pr0), (.int 0)] ∧ Z.Warmed39 U.vm ∧ U.heap = h0) (fun _ _ _ _ _ => True) (fun _ U o U' => ∃ v L, o = .returned v ∧ Q29_30 Z pr0 w_ops w_els kk_w_els c0_w_els c1_w_els c2_w_els h0 n0 v U'.heap L ∧ FrameEnd U o U' L ({ frames := 1, cells := 0, slots := 0, locals := 13 } : Room).cells ({ frames := 1, cells := 0, slots := 0, locals := 13 } : Room).slots) := by
  refine MetFree.of_bodySF (plainFor_of_name pn_29) hisR ?_
  intro p e s m args below meth c s₁ Bd hml0 hP hK
  obtain ⟨rfl, hZ, hh⟩ := hP
  have hx := Bd.exec
  have hby := Bd.bytes
  have hml : c.maxLocals = 2 := hml0
  have hown : s.vm.findClass "com/example/tyche/tyche/model/jani/Expression$Operation" = some m.cls := findClass_of_methodNamed Bd.named
  have hnm := (name_of_methodNamed Bd.named Bd.method).1
  have X0 : Stand p l e ({ frames := 1, cells := 0, slots := 0, locals := 13 } : Room) s m #[(.ref pr0), (.int 0)] below meth c s₁ [] 0 0 := Stand.of_body Bd
  have e0 : s₁.heap = h0 := by rw [← hh, Bd.state]; rfl
  have N0 := Fr.nil n0
  have pre0 : ∀ t, Steps p.tables e below (s₁.setTop (mkF m 0 #[vr pr0, vi 0] [])) t → Steps p.tables e below (s₁.setTop (entryFrame m #[(.ref pr0), (.int 0)] 2)) t := fun t k => castTop (ef_29__30 m pr0) k
  obtain ⟨T1, X1, e1, st1⟩ := getF X0 hx hZ hown (host := "") (Or.inl (own_W hw 81 rfl)) Via.refl e0 F_operands_pr0 (g := (mkF m 1 #[vr pr0, vi 0] [(.ref pr0)])) rfl rfl (hb hby d29_1)
  obtain ⟨cq2, kq2, q2a, q2b, q2c⟩ := isOf hZ e1 E_w_ops
  obtain ⟨_, _, ⟨T2, L2, k2, n2⟩, -, X2, ⟨Lc2, hQ2, l2, y2, z2⟩, st2⟩ := X1.interfaceBack hx (xi := mN37) (y := mN33) hown (mvT hZ (own_W hw 209 rfl)) (mvT hZ (own_W hw 210 rfl)) (mvT hZ (own_W hw 211 rfl)) (mvT hZ (own_W hw 259 rfl)) (mvT hZ (own_W hw 260 rfl)) (mvT hZ (own_W hw 261 rfl)) (mvT hZ (own_W hw 262 rfl)) (mvT hZ (own_W hw 263 rfl)) (by decide) (backOf (W := 0) (rm37_0 l Z a0 hw [] w_ops w_els kk_w_els c0_w_els c1_w_els c2_w_els h0 n0 Z0 O0 F_elements_w_ops V_w_els) hZ (own_W hw 264 rfl) (own_W hw 246 rfl) (by decide) (by decide)) q2a q2b q2c (g := (mkF m 5 #[vr pr0, vi 0] [(.int 0), (.ref w_ops)])) rfl (by rw [hml]; rfl) (Steps.refl _) (argsL := [(.int 0)]) (rest := []) (lenOf pd_22 rfl) rfl (by show 2 * 0 + _ ≤ _; exact Nat.le_of_eq rfl) (hb hby d29_5) (fun _ _ => ⟨rfl, e1, (by decide : 0 + 0 ≤ _), (by decide : 0 + 0 ≤ _)⟩)
  dsimp only [Pt.U, Pt.locs, Pt.cells, Pt.slots] at X2 l2 y2 z2 st2 hQ2
  subst l2 y2 z2
  obtain ⟨rfl, N2q, eq2⟩ := hQ2
  have N2 := Fr.app N0 N2q
  obtain ⟨T3, X3, e3, st3⟩ := castY X2 hx hZ hown (own_W hw 218 rfl) eq2 (Ins.of_exa E_c0_w_els (own_W hw 219 rfl)) (g := (mkF m 10 #[vr pr0, vi 0] [(.ref c0_w_els)])) rfl rfl (hb hby d29_10)
  obtain ⟨fs, hr, hrun, hended, hW, hsame⟩ := X3.leave (v := some (.ref c0_w_els)) (fun h => by rw [Bd.returns] at h; cases h) (BodyLoose.notSynchronized Bd)
  refine ⟨_, _, pre0 _ ?_, hrun, hended, _, _, rfl, ?_, ⟨_, rfl⟩, hW, hsame.mono (by decide) (by decide)⟩
  · show Stp p e below s₁ m 0 #[vr pr0, vi 0] [] _
    refine XS.aloadN X0.here hx rfl (hb hby d29_0) rfl rfl ?_
    refine st1 _ ?_
    show Stp p e below T1 m 4 #[vr pr0, vi 0] [(.ref w_ops)] _
    refine XS.iloadN X1.here hx rfl (hb hby d29_4) rfl ?_
    refine st2.trans ?_
    show Stp p e below T2 m 10 #[vr pr0, vi 0] [(.ref c0_w_els)] _
    refine st3 _ ?_
    show Stp p e below T3 m 13 #[vr pr0, vi 0] [(.ref c0_w_els)] _
    jvm_step X3.here [X3.here.top, hx, (hb hby d29_13), X3.method', Bd.returns, Value.isRef, FieldType.isReference]
    first | (intro acts; rw [hr _ acts rfl rfl rfl]) | rw [hr _ _ rfl rfl rfl]
    exact Steps.refl _
  · show Q29_30 Z pr0 w_ops w_els kk_w_els c0_w_els c1_w_els c2_w_els h0 n0 _ T3.heap _
    rw [e3]
    exact ⟨rfl, N2, rfl⟩
theorem ef_29__31 (m : MethodId) (pr0 : Addr) : entryFrame m #[(.ref pr0), (.int 1)] 2 = mkF m 0 #[vr pr0, vi 1] [] := by first | (simp [entryFrame, mkF, argsToLocals, Value.category]; done) | rfl
def Q29_31 (Z : State) (pr0 : Addr) (w_ops : Addr) (w_els : Addr) (kk_w_els : ClassId) (c0_w_els : Addr) (c1_w_els : Addr) (c2_w_els : Addr) (h0 : Heap) (n0 : Nat) (v : Option Value) (h : Heap) (L : List Loc) : Prop := v = some (.ref c1_w_els) ∧ Fr n0 L ∧ h = h0
set_option maxRecDepth 65536 in
set_option maxHeartbeats 40000000 in
theorem rm29_31 (l : Launch) (Z : State) (a0 : Array Value) (hw : ∀ d ∈ tables_1, d.before a0 Z = true) (ws : List Jvm.Cond) (pr0 : Addr) (w_ops : Addr) (w_els : Addr) (kk_w_els : ClassId) (c0_w_els : Addr) (c1_w_els : Addr) (c2_w_els : Addr) (h0 : Heap) (n0 : Nat) (Z0 : n0 ≤ h0.size) (O0 : Old Z n0 h0) (F_operands_pr0 : Fld Z h0 pr0 "com/example/tyche/tyche/model/jani/Expression$Operation" "operands" "Ljava/util/List;" (.ref w_ops)) (E_w_ops : Exa Z h0 w_ops "java/util/ImmutableCollections$ListN") (F_elements_w_ops : Fld Z h0 w_ops "java/util/ImmutableCollections$ListN" "elements" "[Ljava/lang/Object;" (.ref w_els)) (V_w_els : Arv Z h0 w_els kk_w_els (.object "java/lang/Object") (3 : Int32) [(.ref c0_w_els), (.ref c1_w_els), (.ref c2_w_els)] .null) (E_c1_w_els : Exa Z h0 c1_w_els "com/example/tyche/tyche/model/jani/Expression$Operation") :
    MetFree l mN36 (head1 (Jvm.Cond.code mN36 prog_67_method_2_code 2 (some (.object "com/example/tyche/tyche/model/jani/Expression")) :: ws) ({ frames := 1, cells := 0, slots := 0, locals := 13 } : Room)) (fun a U => a = #[(.ref pr0), (.int 1)] ∧ Z.Warmed39 U.vm ∧ U.heap = h0) (fun _ _ _ _ _ => True) (fun _ U o U' => ∃ v L, o = .returned v ∧ Q29_31 Z pr0 w_ops w_els kk_w_els c0_w_els c1_w_els c2_w_els h0 n0 v U'.heap L ∧ FrameEnd U o U' L ({ frames := 1, cells := 0, slots := 0, locals := 13 } : Room).cells ({ frames := 1, cells := 0, slots := 0, locals := 13 } : Room).slots) := by
  refine MetFree.of_bodySF (plainFor_of_name pn_29) hisR ?_
  intro p e s m args below meth c s₁ Bd hml0 hP hK
  obtain ⟨rfl, hZ, hh⟩ := hP
  have hx := Bd.exec
  have hby := Bd.bytes
  have hml : c.maxLocals = 2 := hml0
  have hown : s.vm.findClass "com/example/tyche/tyche/model/jani/Expression$Operation" = some m.cls := findClass_of_methodNamed Bd.named
  have hnm := (name_of_methodNamed Bd.named Bd.method).1
  have X0 : Stand p l e ({ frames := 1, cells := 0, slots := 0, locals := 13 } : Room) s m #[(.ref pr0), (.int 1)] below meth c s₁ [] 0 0 := Stand.of_body Bd
  have e0 : s₁.heap = h0 := by rw [← hh, Bd.state]; rfl
  have N0 := Fr.nil n0
  have pre0 : ∀ t, Steps p.tables e below (s₁.setTop (mkF m 0 #[vr pr0, vi 1] [])) t → Steps p.tables e below (s₁.setTop (entryFrame m #[(.ref pr0), (.int 1)] 2)) t := fun t k => castTop (ef_29__31 m pr0) k
  obtain ⟨T1, X1, e1, st1⟩ := getF X0 hx hZ hown (host := "") (Or.inl (own_W hw 81 rfl)) Via.refl e0 F_operands_pr0 (g := (mkF m 1 #[vr pr0, vi 1] [(.ref pr0)])) rfl rfl (hb hby d29_1)
  obtain ⟨cq2, kq2, q2a, q2b, q2c⟩ := isOf hZ e1 E_w_ops
  obtain ⟨_, _, ⟨T2, L2, k2, n2⟩, -, X2, ⟨Lc2, hQ2, l2, y2, z2⟩, st2⟩ := X1.interfaceBack hx (xi := mN37) (y := mN33) hown (mvT hZ (own_W hw 209 rfl)) (mvT hZ (own_W hw 210 rfl)) (mvT hZ (own_W hw 211 rfl)) (mvT hZ (own_W hw 259 rfl)) (mvT hZ (own_W hw 260 rfl)) (mvT hZ (own_W hw 261 rfl)) (mvT hZ (own_W hw 262 rfl)) (mvT hZ (own_W hw 263 rfl)) (by decide) (backOf (W := 0) (rm37_1 l Z a0 hw [] w_ops w_els kk_w_els c0_w_els c1_w_els c2_w_els h0 n0 Z0 O0 F_elements_w_ops V_w_els) hZ (own_W hw 264 rfl) (own_W hw 246 rfl) (by decide) (by decide)) q2a q2b q2c (g := (mkF m 5 #[vr pr0, vi 1] [(.int 1), (.ref w_ops)])) rfl (by rw [hml]; rfl) (Steps.refl _) (argsL := [(.int 1)]) (rest := []) (lenOf pd_22 rfl) rfl (by show 2 * 0 + _ ≤ _; exact Nat.le_of_eq rfl) (hb hby d29_5) (fun _ _ => ⟨rfl, e1, (by decide : 0 + 0 ≤ _), (by decide : 0 + 0 ≤ _)⟩)
  dsimp only [Pt.U, Pt.locs, Pt.cells, Pt.slots] at X2 l2 y2 z2 st2 hQ2
  subst l2 y2 z2
  obtain ⟨rfl, N2q, eq2⟩ := hQ2
  have N2 := Fr.app N0 N2q
  obtain ⟨T3, X3, e3, st3⟩ := castY X2 hx hZ hown (own_W hw 218 rfl) eq2 (Ins.of_exa E_c1_w_els (own_W hw 219 rfl)) (g := (mkF m 10 #[vr pr0, vi 1] [(.ref c1_w_els)])) rfl rfl (hb hby d29_10)
  obtain ⟨fs, hr, hrun, hended, hW, hsame⟩ := X3.leave (v := some (.ref c1_w_els)) (fun h => by rw [Bd.returns] at h; cases h) (BodyLoose.notSynchronized Bd)
  refine ⟨_, _, pre0 _ ?_, hrun, hended, _, _, rfl, ?_, ⟨_, rfl⟩, hW, hsame.mono (by decide) (by decide)⟩
  · show Stp p e below s₁ m 0 #[vr pr0, vi 1] [] _
    refine XS.aloadN X0.here hx rfl (hb hby d29_0) rfl rfl ?_
    refine st1 _ ?_
    show Stp p e below T1 m 4 #[vr pr0, vi 1] [(.ref w_ops)] _
    refine XS.iloadN X1.here hx rfl (hb hby d29_4) rfl ?_
    refine st2.trans ?_
    show Stp p e below T2 m 10 #[vr pr0, vi 1] [(.ref c1_w_els)] _
    refine st3 _ ?_
    show Stp p e below T3 m 13 #[vr pr0, vi 1] [(.ref c1_w_els)] _
    jvm_step X3.here [X3.here.top, hx, (hb hby d29_13), X3.method', Bd.returns, Value.isRef, FieldType.isReference]
    first | (intro acts; rw [hr _ acts rfl rfl rfl]) | rw [hr _ _ rfl rfl rfl]
    exact Steps.refl _
  · show Q29_31 Z pr0 w_ops w_els kk_w_els c0_w_els c1_w_els c2_w_els h0 n0 _ T3.heap _
    rw [e3]
    exact ⟨rfl, N2, rfl⟩
theorem ef_29__32 (m : MethodId) (pr0 : Addr) : entryFrame m #[(.ref pr0), (.int 2)] 2 = mkF m 0 #[vr pr0, vi 2] [] := by first | (simp [entryFrame, mkF, argsToLocals, Value.category]; done) | rfl
def Q29_32 (Z : State) (pr0 : Addr) (w_ops : Addr) (w_els : Addr) (kk_w_els : ClassId) (c0_w_els : Addr) (c1_w_els : Addr) (c2_w_els : Addr) (h0 : Heap) (n0 : Nat) (v : Option Value) (h : Heap) (L : List Loc) : Prop := v = some (.ref c2_w_els) ∧ Fr n0 L ∧ h = h0
set_option maxRecDepth 65536 in
set_option maxHeartbeats 40000000 in
theorem rm29_32 (l : Launch) (Z : State) (a0 : Array Value) (hw : ∀ d ∈ tables_1, d.before a0 Z = true) (ws : List Jvm.Cond) (pr0 : Addr) (w_ops : Addr) (w_els : Addr) (kk_w_els : ClassId) (c0_w_els : Addr) (c1_w_els : Addr) (c2_w_els : Addr) (h0 : Heap) (n0 : Nat) (Z0 : n0 ≤ h0.size) (O0 : Old Z n0 h0) (F_operands_pr0 : Fld Z h0 pr0 "com/example/tyche/tyche/model/jani/Expression$Operation" "operands" "Ljava/util/List;" (.ref w_ops)) (E_w_ops : Exa Z h0 w_ops "java/util/ImmutableCollections$ListN") (F_elements_w_ops : Fld Z h0 w_ops "java/util/ImmutableCollections$ListN" "elements" "[Ljava/lang/Object;" (.ref w_els)) (V_w_els : Arv Z h0 w_els kk_w_els (.object "java/lang/Object") (3 : Int32) [(.ref c0_w_els), (.ref c1_w_els), (.ref c2_w_els)] .null) (E_c2_w_els : Exa Z h0 c2_w_els "com/example/tyche/tyche/model/jani/Expression$Operation") :
    MetFree l mN36 (head1 (Jvm.Cond.code mN36 prog_67_method_2_code 2 (some (.object "com/example/tyche/tyche/model/jani/Expression")) :: ws) ({ frames := 1, cells := 0, slots := 0, locals := 13 } : Room)) (fun a U => a = #[(.ref pr0), (.int 2)] ∧ Z.Warmed39 U.vm ∧ U.heap = h0) (fun _ _ _ _ _ => True) (fun _ U o U' => ∃ v L, o = .returned v ∧ Q29_32 Z pr0 w_ops w_els kk_w_els c0_w_els c1_w_els c2_w_els h0 n0 v U'.heap L ∧ FrameEnd U o U' L ({ frames := 1, cells := 0, slots := 0, locals := 13 } : Room).cells ({ frames := 1, cells := 0, slots := 0, locals := 13 } : Room).slots) := by
  refine MetFree.of_bodySF (plainFor_of_name pn_29) hisR ?_
  intro p e s m args below meth c s₁ Bd hml0 hP hK
  obtain ⟨rfl, hZ, hh⟩ := hP
  have hx := Bd.exec
  have hby := Bd.bytes
  have hml : c.maxLocals = 2 := hml0
  have hown : s.vm.findClass "com/example/tyche/tyche/model/jani/Expression$Operation" = some m.cls := findClass_of_methodNamed Bd.named
  have hnm := (name_of_methodNamed Bd.named Bd.method).1
  have X0 : Stand p l e ({ frames := 1, cells := 0, slots := 0, locals := 13 } : Room) s m #[(.ref pr0), (.int 2)] below meth c s₁ [] 0 0 := Stand.of_body Bd
  have e0 : s₁.heap = h0 := by rw [← hh, Bd.state]; rfl
  have N0 := Fr.nil n0
  have pre0 : ∀ t, Steps p.tables e below (s₁.setTop (mkF m 0 #[vr pr0, vi 2] [])) t → Steps p.tables e below (s₁.setTop (entryFrame m #[(.ref pr0), (.int 2)] 2)) t := fun t k => castTop (ef_29__32 m pr0) k
  obtain ⟨T1, X1, e1, st1⟩ := getF X0 hx hZ hown (host := "") (Or.inl (own_W hw 81 rfl)) Via.refl e0 F_operands_pr0 (g := (mkF m 1 #[vr pr0, vi 2] [(.ref pr0)])) rfl rfl (hb hby d29_1)
  obtain ⟨cq2, kq2, q2a, q2b, q2c⟩ := isOf hZ e1 E_w_ops
  obtain ⟨_, _, ⟨T2, L2, k2, n2⟩, -, X2, ⟨Lc2, hQ2, l2, y2, z2⟩, st2⟩ := X1.interfaceBack hx (xi := mN37) (y := mN33) hown (mvT hZ (own_W hw 209 rfl)) (mvT hZ (own_W hw 210 rfl)) (mvT hZ (own_W hw 211 rfl)) (mvT hZ (own_W hw 259 rfl)) (mvT hZ (own_W hw 260 rfl)) (mvT hZ (own_W hw 261 rfl)) (mvT hZ (own_W hw 262 rfl)) (mvT hZ (own_W hw 263 rfl)) (by decide) (backOf (W := 0) (rm37_2 l Z a0 hw [] w_ops w_els kk_w_els c0_w_els c1_w_els c2_w_els h0 n0 Z0 O0 F_elements_w_ops V_w_els) hZ (own_W hw 264 rfl) (own_W hw 246 rfl) (by decide) (by decide)) q2a q2b q2c (g := (mkF m 5 #[vr pr0, vi 2] [(.int 2), (.ref w_ops)])) rfl (by rw [hml]; rfl) (Steps.refl _) (argsL := [(.int 2)]) (rest := []) (lenOf pd_22 rfl) rfl (by show 2 * 0 + _ ≤ _; exact Nat.le_of_eq rfl) (hb hby d29_5) (fun _ _ => ⟨rfl, e1, (by decide : 0 + 0 ≤ _), (by decide : 0 + 0 ≤ _)⟩)
  dsimp only [Pt.U, Pt.locs, Pt.cells, Pt.slots] at X2 l2 y2 z2 st2 hQ2
  subst l2 y2 z2
  obtain ⟨rfl, N2q, eq2⟩ := hQ2
  have N2 := Fr.app N0 N2q
  obtain ⟨T3, X3, e3, st3⟩ := castY X2 hx hZ hown (own_W hw 218 rfl) eq2 (Ins.of_exa E_c2_w_els (own_W hw 219 rfl)) (g := (mkF m 10 #[vr pr0, vi 2] [(.ref c2_w_els)])) rfl rfl (hb hby d29_10)
  obtain ⟨fs, hr, hrun, hended, hW, hsame⟩ := X3.leave (v := some (.ref c2_w_els)) (fun h => by rw [Bd.returns] at h; cases h) (BodyLoose.notSynchronized Bd)
  refine ⟨_, _, pre0 _ ?_, hrun, hended, _, _, rfl, ?_, ⟨_, rfl⟩, hW, hsame.mono (by decide) (by decide)⟩
  · show Stp p e below s₁ m 0 #[vr pr0, vi 2] [] _
    refine XS.aloadN X0.here hx rfl (hb hby d29_0) rfl rfl ?_
    refine st1 _ ?_
    show Stp p e below T1 m 4 #[vr pr0, vi 2] [(.ref w_ops)] _
    refine XS.iloadN X1.here hx rfl (hb hby d29_4) rfl ?_
    refine st2.trans ?_
    show Stp p e below T2 m 10 #[vr pr0, vi 2] [(.ref c2_w_els)] _
    refine st3 _ ?_
    show Stp p e below T3 m 13 #[vr pr0, vi 2] [(.ref c2_w_els)] _
    jvm_step X3.here [X3.here.top, hx, (hb hby d29_13), X3.method', Bd.returns, Value.isRef, FieldType.isReference]
    first | (intro acts; rw [hr _ acts rfl rfl rfl]) | rw [hr _ _ rfl rfl rfl]
    exact Steps.refl _
  · show Q29_32 Z pr0 w_ops w_els kk_w_els c0_w_els c1_w_els c2_w_els h0 n0 _ T3.heap _
    rw [e3]
    exact ⟨rfl, N2, rfl⟩
theorem d32_0 : decode prog_67_method_7_code 0 = .ok (.aload_n 0, 1) := by decide +kernel
theorem d32_1 : decode prog_67_method_7_code 1 = .ok (.getfield 19, 3) := by decide +kernel
theorem d32_4 : decode prog_67_method_7_code 4 = .ok (.areturn, 1) := by decide +kernel
theorem pn_32 : plainName "com/example/tyche/tyche/model/jani/Expression$Operation" = true := by first | (simp [plainName, overriddenIn]; done) | decide +kernel
theorem ef_32 (m : MethodId) (pr0 : Addr) : entryFrame m #[(.ref pr0)] 1 = mkF m 0 #[vr pr0] [] := by first | (simp [entryFrame, mkF, argsToLocals, Value.category]; done) | rfl
def Q32 (Z : State) (pr0 : Addr) (w_operands_pr0 : Addr) (h0 : Heap) (n0 : Nat) (v : Option Value) (h : Heap) (L : List Loc) : Prop := v = some (.ref w_operands_pr0) ∧ Fr n0 L ∧ h = h0
set_option maxRecDepth 65536 in
set_option maxHeartbeats 40000000 in
theorem rm32 (l : Launch) (Z : State) (a0 : Array Value) (hw : ∀ d ∈ tables_1, d.before a0 Z = true) (ws : List Jvm.Cond) (pr0 : Addr) (w_operands_pr0 : Addr) (h0 : Heap) (n0 : Nat) (Z0 : n0 ≤ h0.size) (O0 : Old Z n0 h0) (F_operands_pr0 : Fld Z h0 pr0 "com/example/tyche/tyche/model/jani/Expression$Operation" "operands" "Ljava/util/List;" (.ref w_operands_pr0)) :
    MetFree l mN38 (head1 (Jvm.Cond.code mN38 prog_67_method_7_code 1 (some (.object "java/util/List")) :: ws) ({ frames := 0, cells := 0, slots := 0, locals := 0 } : Room)) (fun a U => a = #[(.ref pr0)] ∧ Z.Warmed39 U.vm ∧ U.heap = h0) (fun _ _ _ _ _ => True) (fun _ U o U' => ∃ v L, o = .returned v ∧ Q32 Z pr0 w_operands_pr0 h0 n0 v U'.heap L ∧ FrameEnd U o U' L ({ frames := 0, cells := 0, slots := 0, locals := 0 } : Room).cells ({ frames := 0, cells := 0, slots := 0, locals := 0 } : Room).slots) := by
  refine MetFree.of_bodySF (plainFor_of_name pn_32) hisR ?_
  intro p e s m args below meth c s₁ Bd hml0 hP hK
  obtain ⟨rfl, hZ, hh⟩ := hP
  have hx := Bd.exec
  have hby := Bd.bytes
  have hml : c.maxLocals = 1 := hml0
  have hown : s.vm.findClass "com/example/tyche/tyche/model/jani/Expression$Operation" = some m.cls := findClass_of_methodNamed Bd.named
  have hnm := (name_of_methodNamed Bd.named Bd.method).1
  have X0 : Stand p l e ({ frames := 0, cells := 0, slots := 0, locals := 0 } : Room) s m #[(.ref pr0)] below meth c s₁ [] 0 0 := Stand.of_body Bd
  have e0 : s₁.heap = h0 := by rw [← hh, Bd.state]; rfl
  have N0 := Fr.nil n0
  have pre0 : ∀ t, Steps p.tables e below (s₁.setTop (mkF m 0 #[vr pr0] [])) t → Steps p.tables e below (s₁.setTop (entryFrame m #[(.ref pr0)] 1)) t := fun t k => castTop (ef_32 m pr0) k
  obtain ⟨T1, X1, e1, st1⟩ := getF X0 hx hZ hown (host := "") (Or.inl (own_W hw 81 rfl)) Via.refl e0 F_operands_pr0 (g := (mkF m 1 #[vr pr0] [(.ref pr0)])) rfl rfl (hb hby d32_1)
  obtain ⟨fs, hr, hrun, hended, hW, hsame⟩ := X1.leave (v := some (.ref w_operands_pr0)) (fun h => by rw [Bd.returns] at h; cases h) (BodyLoose.notSynchronized Bd)
  refine ⟨_, _, pre0 _ ?_, hrun, hended, _, _, rfl, ?_, ⟨_, rfl⟩, hW, hsame.mono (by decide) (by decide)⟩
  · show Stp p e below s₁ m 0 #[vr pr0] [] _
    refine XS.aloadN X0.here hx rfl (hb hby d32_0) rfl rfl ?_
    refine st1 _ ?_
    show Stp p e below T1 m 4 #[vr pr0] [(.ref w_operands_pr0)] _
    jvm_step X1.here [X1.here.top, hx, (hb hby d32_4), X1.method', Bd.returns, Value.isRef, FieldType.isReference]
    first | (intro acts; rw [hr _ acts rfl rfl rfl]) | rw [hr _ _ rfl rfl rfl]
    exact Steps.refl _
  · show Q32 Z pr0 w_operands_pr0 h0 n0 _ T1.heap _
    rw [e1]
    exact ⟨rfl, N0, rfl⟩
theorem d31_0 : decode method_2_code 0 = .ok (.iload_n 0, 1) := by decide +kernel
theorem d31_1 : decode method_2_code 1 = .ok (.ifCond .ne 5, 3) := by decide +kernel
theorem d31_4 : decode method_2_code 4 = .ok (.aload_n 1, 1) := by decide +kernel
theorem d31_5 : decode method_2_code 5 = .ok (.areturn, 1) := by decide +kernel
theorem pn_31 : plainName "com/example/tyche/tyche/model/jani/OperationOperandPinLaw" = true := by first | (simp [plainName, overriddenIn]; done) | decide +kernel
theorem ef_31__0 (m : MethodId) (pr2 : Addr) (pr3 : Addr) (pr4 : Addr) : entryFrame m #[(.int 0), (.ref pr2), (.ref pr3), (.ref pr4)] 4 = mkF m 0 #[vi 0, vr pr2, vr pr3, vr pr4] [] := by first | (simp [entryFrame, mkF, argsToLocals, Value.category]; done) | rfl
def Q31_0 (Z : State) (pr2 : Addr) (pr3 : Addr) (pr4 : Addr) (h0 : Heap) (n0 : Nat) (v : Option Value) (h : Heap) (L : List Loc) : Prop := v = some (.ref pr2) ∧ Fr n0 L ∧ h = h0
set_option maxRecDepth 65536 in
set_option maxHeartbeats 40000000 in
theorem rm31_0 (l : Launch) (Z : State) (a0 : Array Value) (hw : ∀ d ∈ tables_1, d.before a0 Z = true) (ws : List Jvm.Cond) (pr2 : Addr) (pr3 : Addr) (pr4 : Addr) (h0 : Heap) (n0 : Nat) (Z0 : n0 ≤ h0.size) (O0 : Old Z n0 h0) :
    MetFree l mN39 (head1 (Jvm.Cond.code mN39 method_2_code 4 (some (.object "com/example/tyche/tyche/model/jani/Expression")) :: ws) ({ frames := 0, cells := 0, slots := 0, locals := 0 } : Room)) (fun a U => a = #[(.int 0), (.ref pr2), (.ref pr3), (.ref pr4)] ∧ Z.Warmed39 U.vm ∧ U.heap = h0) (fun _ _ _ _ _ => True) (fun _ U o U' => ∃ v L, o = .returned v ∧ Q31_0 Z pr2 pr3 pr4 h0 n0 v U'.heap L ∧ FrameEnd U o U' L ({ frames := 0, cells := 0, slots := 0, locals := 0 } : Room).cells ({ frames := 0, cells := 0, slots := 0, locals := 0 } : Room).slots) := by
  refine MetFree.of_bodySF (plainFor_of_name pn_31) hisR ?_
  intro p e s m args below meth c s₁ Bd hml0 hP hK
  obtain ⟨rfl, hZ, hh⟩ := hP
  have hx := Bd.exec
  have hby := Bd.bytes
  have hml : c.maxLocals = 4 := hml0
  have hown : s.vm.findClass "com/example/tyche/tyche/model/jani/OperationOperandPinLaw" = some m.cls := findClass_of_methodNamed Bd.named
  have hnm := (name_of_methodNamed Bd.named Bd.method).1
  have X0 : Stand p l e ({ frames := 0, cells := 0, slots := 0, locals := 0 } : Room) s m #[(.int 0), (.ref pr2), (.ref pr3), (.ref pr4)] below meth c s₁ [] 0 0 := Stand.of_body Bd
  have e0 : s₁.heap = h0 := by rw [← hh, Bd.state]; rfl
  have N0 := Fr.nil n0
  have pre0 : ∀ t, Steps p.tables e below (s₁.setTop (mkF m 0 #[vi 0, vr pr2, vr pr3, vr pr4] [])) t → Steps p.tables e below (s₁.setTop (entryFrame m #[(.int 0), (.ref pr2), (.ref pr3), (.ref pr4)] 4)) t := fun t k => castTop (ef_31__0 m pr2 pr3 pr4) k
  obtain ⟨fs, hr, hrun, hended, hW, hsame⟩ := X0.leave (v := some (.ref pr2)) (fun h => by rw [Bd.returns] at h; cases h) (BodyLoose.notSynchronized Bd)
  refine ⟨_, _, pre0 _ ?_, hrun, hended, _, _, rfl, ?_, ⟨_, rfl⟩, hW, hsame.mono (by decide) (by decide)⟩
  · show Stp p e below s₁ m 0 #[vi 0, vr pr2, vr pr3, vr pr4] [] _
    refine XS.iloadN X0.here hx rfl (hb hby d31_0) rfl ?_
    refine XS.ifNo X0.here hx rfl (hb hby d31_1) rfl ((if0 _ _).trans (teq (rfl : (0 : Int32) = (0 : Int32))).2) ?_
    show Stp p e below s₁ m 4 #[vi 0, vr pr2, vr pr3, vr pr4] [] _
    refine XS.aloadN X0.here hx rfl (hb hby d31_4) rfl rfl ?_
    jvm_step X0.here [X0.here.top, hx, (hb hby d31_5), X0.method', Bd.returns, Value.isRef, FieldType.isReference]
    first | (intro acts; rw [hr _ acts rfl rfl rfl]) | rw [hr _ _ rfl rfl rfl]
    exact Steps.refl _
  · show Q31_0 Z pr2 pr3 pr4 h0 n0 _ s₁.heap _
    rw [e0]
    exact ⟨rfl, N0, rfl⟩
theorem d31_6 : decode method_2_code 6 = .ok (.iload_n 0, 1) := by decide +kernel
theorem d31_7 : decode method_2_code 7 = .ok (.iconst 1, 1) := by decide +kernel
theorem d31_8 : decode method_2_code 8 = .ok (.if_icmp .ne 5, 3) := by decide +kernel
theorem d31_11 : decode method_2_code 11 = .ok (.aload_n 2, 1) := by decide +kernel
theorem d31_12 : decode method_2_code 12 = .ok (.areturn, 1) := by decide +kernel
theorem ef_31__1 (m : MethodId) (pr2 : Addr) (pr3 : Addr) (pr4 : Addr) : entryFrame m #[(.int 1), (.ref pr2), (.ref pr3), (.ref pr4)] 4 = mkF m 0 #[vi 1, vr pr2, vr pr3, vr pr4] [] := by first | (simp [entryFrame, mkF, argsToLocals, Value.category]; done) | rfl
def Q31_1 (Z : State) (pr2 : Addr) (pr3 : Addr) (pr4 : Addr) (h0 : Heap) (n0 : Nat) (v : Option Value) (h : Heap) (L : List Loc) : Prop := v = some (.ref pr3) ∧ Fr n0 L ∧ h = h0
set_option maxRecDepth 65536 in
set_option maxHeartbeats 40000000 in
theorem rm31_1 (l : Launch) (Z : State) (a0 : Array Value) (hw : ∀ d ∈ tables_1, d.before a0 Z = true) (ws : List Jvm.Cond) (pr2 : Addr) (pr3 : Addr) (pr4 : Addr) (h0 : Heap) (n0 : Nat) (Z0 : n0 ≤ h0.size) (O0 : Old Z n0 h0) :
    MetFree l mN39 (head1 (Jvm.Cond.code mN39 method_2_code 4 (some (.object "com/example/tyche/tyche/model/jani/Expression")) :: ws) ({ frames := 0, cells := 0, slots := 0, locals := 0 } : Room)) (fun a U => a = #[(.int 1), (.ref pr2), (.ref pr3), (.ref pr4)] ∧ Z.Warmed39 U.vm ∧ U.heap = h0) (fun _ _ _ _ _ => True) (fun _ U o U' => ∃ v L, o = .returned v ∧ Q31_1 Z pr2 pr3 pr4 h0 n0 v U'.heap L ∧ FrameEnd U o U' L ({ frames := 0, cells := 0, slots := 0, locals := 0 } : Room).cells ({ frames := 0, cells := 0, slots := 0, locals := 0 } : Room).slots) := by
  refine MetFree.of_bodySF (plainFor_of_name pn_31) hisR ?_
  intro p e s m args below meth c s₁ Bd hml0 hP hK
  obtain ⟨rfl, hZ, hh⟩ := hP
  have hx := Bd.exec
  have hby := Bd.bytes
  have hml : c.maxLocals = 4 := hml0
  have hown : s.vm.findClass "com/example/tyche/tyche/model/jani/OperationOperandPinLaw" = some m.cls := findClass_of_methodNamed Bd.named
  have hnm := (name_of_methodNamed Bd.named Bd.method).1
  have X0 : Stand p l e ({ frames := 0, cells := 0, slots := 0, locals := 0 } : Room) s m #[(.int 1), (.ref pr2), (.ref pr3), (.ref pr4)] below meth c s₁ [] 0 0 := Stand.of_body Bd
  have e0 : s₁.heap = h0 := by rw [← hh, Bd.state]; rfl
  have N0 := Fr.nil n0
  have pre0 : ∀ t, Steps p.tables e below (s₁.setTop (mkF m 0 #[vi 1, vr pr2, vr pr3, vr pr4] [])) t → Steps p.tables e below (s₁.setTop (entryFrame m #[(.int 1), (.ref pr2), (.ref pr3), (.ref pr4)] 4)) t := fun t k => castTop (ef_31__1 m pr2 pr3 pr4) k
  obtain ⟨fs, hr, hrun, hended, hW, hsame⟩ := X0.leave (v := some (.ref pr3)) (fun h => by rw [Bd.returns] at h; cases h) (BodyLoose.notSynchronized Bd)
  refine ⟨_, _, pre0 _ ?_, hrun, hended, _, _, rfl, ?_, ⟨_, rfl⟩, hW, hsame.mono (by decide) (by decide)⟩
  · show Stp p e below s₁ m 0 #[vi 1, vr pr2, vr pr3, vr pr4] [] _
    refine XS.iloadN X0.here hx rfl (hb hby d31_0) rfl ?_
    refine XS.ifYes X0.here hx rfl (pc0 := 1) (pc' := 6) rfl (hb hby d31_1) rfl ((if0 _ _).trans (feq (by decide : ¬ ((1 : Int32) = (0 : Int32)))).2) (by decide) (by decide) ?_
    show Stp p e below s₁ m 6 #[vi 1, vr pr2, vr pr3, vr pr4] [] _
    refine XS.iloadN X0.here hx rfl (hb hby d31_6) rfl ?_
    refine XS.iconst X0.here hx rfl (hb hby d31_7) ?_
    refine XS.icmpNo X0.here hx rfl (hb hby d31_8) rfl (teq (rfl : (1 : Int32) = (1 : Int32))).2 ?_
    show Stp p e below s₁ m 11 #[vi 1, vr pr2, vr pr3, vr pr4] [] _
    refine XS.aloadN X0.here hx rfl (hb hby d31_11) rfl rfl ?_
    jvm_step X0.here [X0.here.top, hx, (hb hby d31_12), X0.method', Bd.returns, Value.isRef, FieldType.isReference]
    first | (intro acts; rw [hr _ acts rfl rfl rfl]) | rw [hr _ _ rfl rfl rfl]
    exact Steps.refl _
  · show Q31_1 Z pr2 pr3 pr4 h0 n0 _ s₁.heap _
    rw [e0]
    exact ⟨rfl, N0, rfl⟩
theorem d31_13 : decode method_2_code 13 = .ok (.aload_n 3, 1) := by decide +kernel
theorem d31_14 : decode method_2_code 14 = .ok (.areturn, 1) := by decide +kernel
theorem ef_31__2 (m : MethodId) (pr2 : Addr) (pr3 : Addr) (pr4 : Addr) : entryFrame m #[(.int 2), (.ref pr2), (.ref pr3), (.ref pr4)] 4 = mkF m 0 #[vi 2, vr pr2, vr pr3, vr pr4] [] := by first | (simp [entryFrame, mkF, argsToLocals, Value.category]; done) | rfl
def Q31_2 (Z : State) (pr2 : Addr) (pr3 : Addr) (pr4 : Addr) (h0 : Heap) (n0 : Nat) (v : Option Value) (h : Heap) (L : List Loc) : Prop := v = some (.ref pr4) ∧ Fr n0 L ∧ h = h0
set_option maxRecDepth 65536 in
set_option maxHeartbeats 40000000 in
theorem rm31_2 (l : Launch) (Z : State) (a0 : Array Value) (hw : ∀ d ∈ tables_1, d.before a0 Z = true) (ws : List Jvm.Cond) (pr2 : Addr) (pr3 : Addr) (pr4 : Addr) (h0 : Heap) (n0 : Nat) (Z0 : n0 ≤ h0.size) (O0 : Old Z n0 h0) :
    MetFree l mN39 (head1 (Jvm.Cond.code mN39 method_2_code 4 (some (.object "com/example/tyche/tyche/model/jani/Expression")) :: ws) ({ frames := 0, cells := 0, slots := 0, locals := 0 } : Room)) (fun a U => a = #[(.int 2), (.ref pr2), (.ref pr3), (.ref pr4)] ∧ Z.Warmed39 U.vm ∧ U.heap = h0) (fun _ _ _ _ _ => True) (fun _ U o U' => ∃ v L, o = .returned v ∧ Q31_2 Z pr2 pr3 pr4 h0 n0 v U'.heap L ∧ FrameEnd U o U' L ({ frames := 0, cells := 0, slots := 0, locals := 0 } : Room).cells ({ frames := 0, cells := 0, slots := 0, locals := 0 } : Room).slots) := by
  refine MetFree.of_bodySF (plainFor_of_name pn_31) hisR ?_
  intro p e s m args below meth c s₁ Bd hml0 hP hK
  obtain ⟨rfl, hZ, hh⟩ := hP
  have hx := Bd.exec
  have hby := Bd.bytes
  have hml : c.maxLocals = 4 := hml0
  have hown : s.vm.findClass "com/example/tyche/tyche/model/jani/OperationOperandPinLaw" = some m.cls := findClass_of_methodNamed Bd.named
  have hnm := (name_of_methodNamed Bd.named Bd.method).1
  have X0 : Stand p l e ({ frames := 0, cells := 0, slots := 0, locals := 0 } : Room) s m #[(.int 2), (.ref pr2), (.ref pr3), (.ref pr4)] below meth c s₁ [] 0 0 := Stand.of_body Bd
  have e0 : s₁.heap = h0 := by rw [← hh, Bd.state]; rfl
  have N0 := Fr.nil n0
  have pre0 : ∀ t, Steps p.tables e below (s₁.setTop (mkF m 0 #[vi 2, vr pr2, vr pr3, vr pr4] [])) t → Steps p.tables e below (s₁.setTop (entryFrame m #[(.int 2), (.ref pr2), (.ref pr3), (.ref pr4)] 4)) t := fun t k => castTop (ef_31__2 m pr2 pr3 pr4) k
  obtain ⟨fs, hr, hrun, hended, hW, hsame⟩ := X0.leave (v := some (.ref pr4)) (fun h => by rw [Bd.returns] at h; cases h) (BodyLoose.notSynchronized Bd)
  refine ⟨_, _, pre0 _ ?_, hrun, hended, _, _, rfl, ?_, ⟨_, rfl⟩, hW, hsame.mono (by decide) (by decide)⟩
  · show Stp p e below s₁ m 0 #[vi 2, vr pr2, vr pr3, vr pr4] [] _
    refine XS.iloadN X0.here hx rfl (hb hby d31_0) rfl ?_
    refine XS.ifYes X0.here hx rfl (pc0 := 1) (pc' := 6) rfl (hb hby d31_1) rfl ((if0 _ _).trans (feq (by decide : ¬ ((2 : Int32) = (0 : Int32)))).2) (by decide) (by decide) ?_
    show Stp p e below s₁ m 6 #[vi 2, vr pr2, vr pr3, vr pr4] [] _
    refine XS.iloadN X0.here hx rfl (hb hby d31_6) rfl ?_
    refine XS.iconst X0.here hx rfl (hb hby d31_7) ?_
    refine XS.icmpYes X0.here hx rfl (pc0 := 8) (pc' := 13) rfl (hb hby d31_8) rfl (feq (by decide : ¬ ((2 : Int32) = (1 : Int32)))).2 (by decide) (by decide) ?_
    show Stp p e below s₁ m 13 #[vi 2, vr pr2, vr pr3, vr pr4] [] _
    refine XS.aloadN X0.here hx rfl (hb hby d31_13) rfl rfl ?_
    jvm_step X0.here [X0.here.top, hx, (hb hby d31_14), X0.method', Bd.returns, Value.isRef, FieldType.isReference]
    first | (intro acts; rw [hr _ acts rfl rfl rfl]) | rw [hr _ _ rfl rfl rfl]
    exact Steps.refl _
  · show Q31_2 Z pr2 pr3 pr4 h0 n0 _ s₁.heap _
    rw [e0]
    exact ⟨rfl, N0, rfl⟩
theorem pd_1 : parseMethodDescriptor "(Lcom/example/tyche/tyche/model/jani/Operator;Ljava/util/List;Ljava/lang/String;)V" = some ⟨[(.object "com/example/tyche/tyche/model/jani/Operator"), (.object "java/util/List"), (.object "java/lang/String")], none⟩ := by decide +kernel
theorem pd_5 : parseMethodDescriptor "(Ljava/lang/Object;)Z" = some ⟨[(.object "java/lang/Object")], some .boolean⟩ := by decide +kernel
theorem pd_10 : parseMethodDescriptor "(C)Ljava/lang/String;" = some ⟨[.char], some (.object "java/lang/String")⟩ := by decide +kernel
theorem pd_21 : parseMethodDescriptor "(I)Lcom/example/tyche/tyche/model/jani/Expression;" = some ⟨[.int], some (.object "com/example/tyche/tyche/model/jani/Expression")⟩ := by decide +kernel
theorem pd_23 : parseMethodDescriptor "(ILcom/example/tyche/tyche/model/jani/Expression;Lcom/example/tyche/tyche/model/jani/Expression;Lcom/example/tyche/tyche/model/jani/Expression;)Lcom/example/tyche/tyche/model/jani/Expression;" = some ⟨[.int, (.object "com/example/tyche/tyche/model/jani/Expression"), (.object "com/example/tyche/tyche/model/jani/Expression"), (.object "com/example/tyche/tyche/model/jani/Expression")], some (.object "com/example/tyche/tyche/model/jani/Expression")⟩ := by decide +kernel
theorem pd_24 : parseMethodDescriptor "()I" = some ⟨[], some .int⟩ := by decide +kernel
theorem pn_0 : plainName "com/example/tyche/tyche/model/jani/OperationOperandPinLaw" = true := by first | (simp [plainName, overriddenIn]; done) | decide +kernel
theorem ef_0 (m : MethodId) (pi1 : Int32) (pi2 : Int32) (pi3 : Int32) : entryFrame m #[(.int pi1), (.int pi2), (.int pi3)] maxLocals = mkF m 0 #[vi pi1, vi pi2, vi pi3, .unset, .unset, .unset, .unset, .unset, .unset, .unset, .unset, .unset, .unset, .unset] [] := by first | (simp [entryFrame, mkF, argsToLocals, Value.category, maxLocals]; done) | rfl
def Q0 (v : Option Value) (L : List Loc) (n0 : Nat) : Prop := v = some (.int 1) ∧ Fr n0 L
set_option maxRecDepth 65536 in
set_option maxHeartbeats 40000000 in
theorem rm0_t (l : Launch) (Z : State) (a0 : Array Value) (hw : ∀ d ∈ tables_1, d.before a0 Z = true) (ws : List Jvm.Cond) (pi1 : Int32) (pi2 : Int32) (pi3 : Int32) (w_DEF : Addr) (kk_w_DEF : ClassId) (w_EMPTY : Addr) (w_NOT : Addr) (w_EMPTY_LIST : Addr) (w_AND : Addr) (w_DERIVATIVE : Addr) (w_PLUS : Addr) (w_COMPACT_STRINGS : Int32) (w_mir : Addr) (h0 : Heap) (n0 : Nat) (Z0 : n0 ≤ h0.size) (O0 : Old Z n0 h0) (S_DEFAULTCAPACITY_EMPTY_ELEMENTDATA : Sta Z Z.heap "java/util/ArrayList" "DEFAULTCAPACITY_EMPTY_ELEMENTDATA" "[Ljava/lang/Object;" (.ref w_DEF)) (V_w_DEF : Arv Z Z.heap w_DEF kk_w_DEF (.object "java/lang/Object") (0 : Int32) [] .null) (S_EMPTY : Sta Z Z.heap "java/util/ImmutableCollections" "EMPTY" "Ljava/lang/Object;" (.ref w_EMPTY)) (E_w_EMPTY : Exa Z Z.heap w_EMPTY "java/lang/Object") (S_NOT : Sta Z Z.heap "com/example/tyche/tyche/model/jani/Operator" "NOT" "Lcom/example/tyche/tyche/model/jani/Operator;" (.ref w_NOT)) (S_EMPTY_LIST : Sta Z Z.heap "java/util/ImmutableCollections" "EMPTY_LIST" "Ljava/util/ImmutableCollections$ListN;" (.ref w_EMPTY_LIST)) (S_AND : Sta Z Z.heap "com/example/tyche/tyche/model/jani/Operator" "AND" "Lcom/example/tyche/tyche/model/jani/Operator;" (.ref w_AND)) (S_DERIVATIVE : Sta Z Z.heap "com/example/tyche/tyche/model/jani/Operator" "DERIVATIVE" "Lcom/example/tyche/tyche/model/jani/Operator;" (.ref w_DERIVATIVE)) (S_PLUS : Sta Z Z.heap "com/example/tyche/tyche/model/jani/Operator" "PLUS" "Lcom/example/tyche/tyche/model/jani/Operator;" (.ref w_PLUS)) (S_COMPACT_STRINGS : Sta Z Z.heap "java/lang/String" "COMPACT_STRINGS" "Z" (.int w_COMPACT_STRINGS)) (hCS : ¬ (w_COMPACT_STRINGS = (0 : Int32))) (M_mir : Mir Z "[Ljava/lang/Object;" w_mir) (hc8_0 : ((1 : Int32) + ((pi1 &&& (2147483647 : Int32)) % (3 : Int32))) = (1 : Int32)) :
    MetFree l x (head1 (Jvm.Cond.code x code maxLocals ret :: ws) room_1) (fun a U => a = #[(.int pi1), (.int pi2), (.int pi3)] ∧ Z.Warmed39 U.vm ∧ U.heap = h0) (fun _ _ _ _ _ => True) (fun _ U o U' => ∃ v L, o = .returned v ∧ Q0 v L n0 ∧ ReturnedEndW U o U' L room_1.cells room_1.slots) := by
  refine MetFree.of_bodySF (plainFor_of_name pn_0) hisR ?_
  intro p e s m args below meth c s₁ Bd hml0 hP hK
  obtain ⟨rfl, hZ, hh⟩ := hP
  have hx := Bd.exec
  have hby := Bd.bytes
  have hml : c.maxLocals = 14 := hml0
  have hown : s.vm.findClass "com/example/tyche/tyche/model/jani/OperationOperandPinLaw" = some m.cls := findClass_of_methodNamed Bd.named
  have hnm := (name_of_methodNamed Bd.named Bd.method).1
  have X0 : Stand p l e room_1 s m #[(.int pi1), (.int pi2), (.int pi3)] below meth c s₁ [] 0 0 := Stand.of_body Bd
  have e0 : s₁.heap = h0 := by rw [← hh, Bd.state]; rfl
  have N0 := Fr.nil n0
  have pre0 : ∀ t, Steps p.tables e below (s₁.setTop (mkF m 0 #[vi pi1, vi pi2, vi pi3, .unset, .unset, .unset, .unset, .unset, .unset, .unset, .unset, .unset, .unset, .unset] [])) t → Steps p.tables e below (s₁.setTop (entryFrame m #[(.int pi1), (.int pi2), (.int pi3)] maxLocals)) t := fun t k => castTop (ef_0 m pi1 pi2 pi3) k
  obtain ⟨T1, h1, X1, e1, E1, A1, D1, -, st1⟩ := newO X0 hx hZ hown (own_W hw 1 rfl) (own_W hw 2 rfl) (own_W hw 3 rfl) e0 (g := (mkF m 25 #[vi pi1, vi pi2, vi pi3, vi 1, vi 0, vi 0, .unset, .unset, .unset, .unset, .unset, .unset, .unset, .unset] [])) rfl (hb hby at_25) (by decide) (by decide)
  obtain ⟨b1, g1⟩ : ∃ z, z = h0.size := ⟨_, rfl⟩
  rw [← g1] at A1 D1 st1
  have F_operator_b1 : Fld Z h1 b1 "com/example/tyche/tyche/model/jani/Expression$Operation" "operator" "Lcom/example/tyche/tyche/model/jani/Operator;" .null := D1 (Or.inr (own_W hw 80 rfl)) (ty := (.object "com/example/tyche/tyche/model/jani/Operator")) (by decide)
  have F_operands_b1 : Fld Z h1 b1 "com/example/tyche/tyche/model/jani/Expression$Operation" "operands" "Ljava/util/List;" .null := D1 (Or.inr (own_W hw 82 rfl)) (ty := (.object "java/util/List")) (by decide)
  have F_path_b1 : Fld Z h1 b1 "com/example/tyche/tyche/model/jani/Expression$Operation" "path" "Ljava/lang/String;" .null := D1 (Or.inr (own_W hw 84 rfl)) (ty := (.object "java/lang/String")) (by decide)
  have o3 := O0.ext E1
  obtain ⟨T2, X2, e2, st2⟩ := getS2 X1 hx hZ hown (host := "") (Or.inl (own_W hw 4 rfl)) Via.refl e1 (S_NOT.ext o3.2) (g := (mkF m 29 #[vi pi1, vi pi2, vi pi3, vi 1, vi 0, vi 0, .unset, .unset, .unset, .unset, .unset, .unset, .unset, .unset] [(.ref b1), (.ref b1)])) rfl (hb hby at_29)
  obtain ⟨T4, h4, X4, e4, E4, A4, D4, -, st4⟩ := newO X2 hx hZ hown (own_W hw 7 rfl) (own_W hw 8 rfl) (own_W hw 9 rfl) e2 (g := (mkF m 32 #[vi pi1, vi pi2, vi pi3, vi 1, vi 0, vi 0, .unset, .unset, .unset, .unset, .unset, .unset, .unset, .unset] [(.ref w_NOT), (.ref b1), (.ref b1)])) rfl (hb hby at_32) (by decide) (by decide)
  obtain ⟨b4, g4⟩ : ∃ z, z = h1.size := ⟨_, rfl⟩
  rw [← g4] at A4 D4 st4
  have F_modCount_b4 : Fld Z h4 b4 "java/util/AbstractList" "modCount" "I" (.int 0) := D4 (Or.inl (own_W hw 29 rfl)) (ty := .int) (by decide)
  have F_elementData_b4 : Fld Z h4 b4 "java/util/ArrayList" "elementData" "[Ljava/lang/Object;" .null := D4 (Or.inl (own_W hw 32 rfl)) (ty := (.array (.object "java/lang/Object"))) (by decide)
  have F_size_b4 : Fld Z h4 b4 "java/util/ArrayList" "size" "I" (.int 0) := D4 (Or.inl (own_W hw 74 rfl)) (ty := .int) (by decide)
  have z5 := Nat.le_trans Z0 E1.1
  have g_b4 : n0 ≤ b4 := Nat.le_trans z5 (Nat.le_of_eq g4.symm)
  have z7 := Nat.le_trans z5 E4.1
  have o8 := o3.ext E4
  obtain ⟨_, _, ⟨T6, L6, k6, n6⟩, -, X6, ⟨Lc6, hQ6, l6, y6, z6⟩, st6⟩ := X4.specialBack hx (y := mN2) rfl hown (mvT hZ (own_W hw 10 rfl)) (mvT hZ (own_W hw 11 rfl)) (mvT hZ (own_W hw 12 rfl)) (by decide) (backOf (W := 4) (rm1 l Z a0 hw [] b4 w_DEF (.int 0) .null (.int 0) h4 n0 z7 o8 A4 S_DEFAULTCAPACITY_EMPTY_ELEMENTDATA F_modCount_b4 F_elementData_b4 F_size_b4 g_b4) hZ (own_W hw 12 rfl) (own_W hw 9 rfl) (by decide) (by decide)) (g := (mkF m 36 #[vi pi1, vi pi2, vi pi3, vi 1, vi 0, vi 0, .unset, .unset, .unset, .unset, .unset, .unset, .unset, .unset] [(.ref b4), (.ref b4), (.ref w_NOT), (.ref b1), (.ref b1)])) rfl (by rw [hml]; rfl) (Steps.refl _) (a := b4) (argsL := []) (rest := [(.ref b4), (.ref w_NOT), (.ref b1), (.ref b1)]) (lenOf pd_0 rfl) rfl (by show 2 * 0 + _ ≤ _; exact Nat.le_of_eq rfl) (hb hby at_36) (fun _ _ => ⟨rfl, e4, (by decide : 2 + 0 ≤ _), (by decide : 6 + 0 ≤ _)⟩)
  dsimp only [Pt.U, Pt.locs, Pt.cells, Pt.slots] at X6 l6 y6 z6 st6 hQ6
  subst l6 y6 z6
  obtain ⟨rfl, N6q, K6, qf6_0, qf6_1, qf6_2, qf6_3⟩ := hQ6
  have N6 := Fr.app N0 N6q
  obtain ⟨sa9, T9, h9, ks9, X9, e9, E9, hS9, hk9, hZ9, hown9, st9⟩ := ldcS (show Stand p l e room_1 (s.setVm s.vm) m _ below meth c T6 _ _ _ from X6) hx hZ hown (own_W hw 33 rfl) (own_wS hw) rfl (own_since0 s) (Nat.zero_le _) (g := (mkF m 39 #[vi pi1, vi pi2, vi pi3, vi 1, vi 0, vi 0, .unset, .unset, .unset, .unset, .unset, .unset, .unset, .unset] [(.ref b4), (.ref w_NOT), (.ref b1), (.ref b1)])) rfl (hb hby at_39) (n := 4) (by decide) (by decide) (by decide) (by decide)
  have f10 := A1.ext E4
  have f11 := f10.keep K6
  have f12 := f11.ext E9
  have f13 := qf6_0.ext E9
  have f14 := qf6_3.ext E9
  have f15 := F_operator_b1.ext E4
  have f16 := f15.keep K6 (ninS (Nat.ne_of_lt (Nat.lt_of_lt_of_le F_path_b1.lt (Nat.le_of_eq g4.symm))) nin0)
  have f17 := f16.ext E9
  have g_b1 : n0 ≤ b1 := Nat.le_trans Z0 (Nat.le_of_eq g1.symm)
  have f18 := F_operands_b1.ext E4
  have f19 := f18.keep K6 (ninS (Nat.ne_of_lt (Nat.lt_of_lt_of_le F_path_b1.lt (Nat.le_of_eq g4.symm))) nin0)
  have f20 := f19.ext E9
  have f21 := F_path_b1.ext E4
  have f22 := f21.keep K6 (ninS (Nat.ne_of_lt (Nat.lt_of_lt_of_le F_path_b1.lt (Nat.le_of_eq g4.symm))) nin0)
  have f23 := f22.ext E9
  have z25 := Nat.le_trans z7 K6.1
  have z26 := Nat.le_trans z25 E9.1
  have o27 := o8.keep K6 (allS g_b4 all0)
  have o28 := o27.ext E9
  obtain ⟨_, _, ⟨T24, L24, k24, n24⟩, -, X24, ⟨Lc24, hQ24, l24, y24, z24⟩, st24⟩ := X9.specialBack hx (y := mN27) rfl hown9 (mvT hZ9 (own_W hw 41 rfl)) (mvT hZ9 (own_W hw 42 rfl)) (mvT hZ9 (own_W hw 43 rfl)) (by decide) (backOf (W := 1) (rm5_0 l Z a0 hw [] b1 w_NOT b4 sa9 w_EMPTY_LIST .null .null .null h9 n0 z26 o28 f12 f13 f14 S_EMPTY_LIST f17 g_b1 f20 f23) hZ9 (own_W hw 43 rfl) (own_W hw 3 rfl) (by decide) (by decide)) (g := (mkF m 41 #[vi pi1, vi pi2, vi pi3, vi 1, vi 0, vi 0, .unset, .unset, .unset, .unset, .unset, .unset, .unset, .unset] [(.ref sa9), (.ref b4), (.ref w_NOT), (.ref b1), (.ref b1)])) rfl (by rw [hml]; rfl) (Steps.refl _) (a := b1) (argsL := [(.ref w_NOT), (.ref b4), (.ref sa9)]) (rest := [(.ref b1)]) (lenOf pd_1 rfl) rfl (by show 2 * 0 + _ ≤ _; exact Nat.le_of_eq rfl) (hb hby at_41) (fun _ _ => ⟨rfl, e9, (by decide : 4 + 0 ≤ _), (by decide : 14 + 0 ≤ _)⟩)
  dsimp only [Pt.U, Pt.locs, Pt.cells, Pt.slots] at X24 l24 y24 z24 st24 hQ24
  subst l24 y24 z24
  obtain ⟨rfl, N24q, K24, qf24_0, qf24_1, qf24_2, qf24_3⟩ := hQ24
  have N24 := Fr.app N6 N24q
  obtain ⟨T29, h29, X29, e29, E29, A29, D29, -, st29⟩ := newO X24 hx hZ9 hown9 (own_W hw 1 rfl) (own_W hw 2 rfl) (own_W hw 3 rfl) rfl (g := (mkF m 46 #[vi pi1, vi pi2, vi pi3, vi 1, vi 0, vi 0, vr b1, .unset, .unset, .unset, .unset, .unset, .unset, .unset] [])) rfl (hb hby at_46) (by decide) (by decide)
  obtain ⟨b29, g29⟩ : ∃ z, z = T24.heap.size := ⟨_, rfl⟩
  rw [← g29] at A29 D29 st29
  have F_operator_b29 : Fld Z h29 b29 "com/example/tyche/tyche/model/jani/Expression$Operation" "operator" "Lcom/example/tyche/tyche/model/jani/Operator;" .null := D29 (Or.inr (own_W hw 80 rfl)) (ty := (.object "com/example/tyche/tyche/model/jani/Operator")) (by decide)
  have F_operands_b29 : Fld Z h29 b29 "com/example/tyche/tyche/model/jani/Expression$Operation" "operands" "Ljava/util/List;" .null := D29 (Or.inr (own_W hw 82 rfl)) (ty := (.object "java/util/List")) (by decide)
  have F_path_b29 : Fld Z h29 b29 "com/example/tyche/tyche/model/jani/Expression$Operation" "path" "Ljava/lang/String;" .null := D29 (Or.inr (own_W hw 84 rfl)) (ty := (.object "java/lang/String")) (by decide)
  have o31 := o28.keep K24 (allS g_b1 all0)
  have o32 := o31.ext E29
  obtain ⟨T30, X30, e30, st30⟩ := getS2 X29 hx hZ9 hown9 (host := "") (Or.inl (own_W hw 85 rfl)) Via.refl e29 (S_AND.ext o32.2) (g := (mkF m 50 #[vi pi1, vi pi2, vi pi3, vi 1, vi 0, vi 0, vr b1, .unset, .unset, .unset, .unset, .unset, .unset, .unset] [(.ref b29), (.ref b29)])) rfl (hb hby at_50)
  obtain ⟨T33, h33, X33, e33, E33, A33, D33, -, st33⟩ := newO X30 hx hZ9 hown9 (own_W hw 7 rfl) (own_W hw 8 rfl) (own_W hw 9 rfl) e30 (g := (mkF m 53 #[vi pi1, vi pi2, vi pi3, vi 1, vi 0, vi 0, vr b1, .unset, .unset, .unset, .unset, .unset, .unset, .unset] [(.ref w_AND), (.ref b29), (.ref b29)])) rfl (hb hby at_53) (by decide) (by decide)
  obtain ⟨b33, g33⟩ : ∃ z, z = h29.size := ⟨_, rfl⟩
  rw [← g33] at A33 D33 st33
  have F_modCount_b33 : Fld Z h33 b33 "java/util/AbstractList" "modCount" "I" (.int 0) := D33 (Or.inl (own_W hw 29 rfl)) (ty := .int) (by decide)
  have F_elementData_b33 : Fld Z h33 b33 "java/util/ArrayList" "elementData" "[Ljava/lang/Object;" .null := D33 (Or.inl (own_W hw 32 rfl)) (ty := (.array (.object "java/lang/Object"))) (by decide)
  have F_size_b33 : Fld Z h33 b33 "java/util/ArrayList" "size" "I" (.int 0) := D33 (Or.inl (own_W hw 74 rfl)) (ty := .int) (by decide)
  have z34 := Nat.le_trans z26 K24.1
  have z35 := Nat.le_trans z34 E29.1
  have g_b33 : n0 ≤ b33 := Nat.le_trans z35 (Nat.le_of_eq g33.symm)
  have z37 := Nat.le_trans z35 E33.1
  have o38 := o32.ext E33
  obtain ⟨_, _, ⟨T36, L36, k36, n36⟩, -, X36, ⟨Lc36, hQ36, l36, y36, z36⟩, st36⟩ := X33.specialBack hx (y := mN2) rfl hown9 (mvT hZ9 (own_W hw 10 rfl)) (mvT hZ9 (own_W hw 11 rfl)) (mvT hZ9 (own_W hw 12 rfl)) (by decide) (backOf (W := 4) (rm1 l Z a0 hw [] b33 w_DEF (.int 0) .null (.int 0) h33 n0 z37 o38 A33 S_DEFAULTCAPACITY_EMPTY_ELEMENTDATA F_modCount_b33 F_elementData_b33 F_size_b33 g_b33) hZ9 (own_W hw 12 rfl) (own_W hw 9 rfl) (by decide) (by decide)) (g := (mkF m 57 #[vi pi1, vi pi2, vi pi3, vi 1, vi 0, vi 0, vr b1, .unset, .unset, .unset, .unset, .unset, .unset, .unset] [(.ref b33), (.ref b33), (.ref w_AND), (.ref b29), (.ref b29)])) rfl (by rw [hml]; rfl) (Steps.refl _) (a := b33) (argsL := []) (rest := [(.ref b33), (.ref w_AND), (.ref b29), (.ref b29)]) (lenOf pd_0 rfl) rfl (by show 2 * 0 + _ ≤ _; exact Nat.le_of_eq rfl) (hb hby at_57) (fun _ _ => ⟨rfl, e33, (by decide : 6 + 0 ≤ _), (by decide : 20 + 0 ≤ _)⟩)
  dsimp only [Pt.U, Pt.locs, Pt.cells, Pt.slots] at X36 l36 y36 z36 st36 hQ36
  subst l36 y36 z36
  obtain ⟨rfl, N36q, K36, qf36_0, qf36_1, qf36_2, qf36_3⟩ := hQ36
  have N36 := Fr.app N24 N36q
  have y40 := Nat.le_trans hk9 K24.1
  have y41 := Nat.le_trans y40 E29.1
  have y42 := Nat.le_trans y41 E33.1
  have y43 := Nat.le_trans y42 K36.1
  obtain ⟨sa39, T39, h39, ks39, X39, e39, E39, hS39, hk39, hZ39, hown39, st39⟩ := ldcS X36 hx hZ9 hown9 (own_W hw 87 rfl) (own_wS hw) rfl hS9 y43 (g := (mkF m 60 #[vi pi1, vi pi2, vi pi3, vi 1, vi 0, vi 0, vr b1, .unset, .unset, .unset, .unset, .unset, .unset, .unset] [(.ref b33), (.ref w_AND), (.ref b29), (.ref b29)])) rfl (hb hby at_60) (n := 4) (by decide) (by decide) (by decide) (by decide)
  have f44 := A29.ext E33
  have f45 := f44.keep K36
  have f46 := f45.ext E39
  have f47 := qf36_0.ext E39
  have f48 := qf36_3.ext E39
  have f49 := F_operator_b29.ext E33
  have f50 := f49.keep K36 (ninS (Nat.ne_of_lt (Nat.lt_of_lt_of_le F_path_b29.lt (Nat.le_of_eq g33.symm))) nin0)
  have f51 := f50.ext E39
  have g_b29 : n0 ≤ b29 := Nat.le_trans z34 (Nat.le_of_eq g29.symm)
  have f52 := F_operands_b29.ext E33
  have f53 := f52.keep K36 (ninS (Nat.ne_of_lt (Nat.lt_of_lt_of_le F_path_b29.lt (Nat.le_of_eq g33.symm))) nin0)
  have f54 := f53.ext E39
  have f55 := F_path_b29.ext E33
  have f56 := f55.keep K36 (ninS (Nat.ne_of_lt (Nat.lt_of_lt_of_le F_path_b29.lt (Nat.le_of_eq g33.symm))) nin0)
  have f57 := f56.ext E39
  have z59 := Nat.le_trans z37 K36.1
  have z60 := Nat.le_trans z59 E39.1
  have o61 := o38.keep K36 (allS g_b33 all0)
  have o62 := o61.ext E39
  obtain ⟨_, _, ⟨T58, L58, k58, n58⟩, -, X58, ⟨Lc58, hQ58, l58, y58, z58⟩, st58⟩ := X39.specialBack hx (y := mN27) rfl hown39 (mvT hZ39 (own_W hw 41 rfl)) (mvT hZ39 (own_W hw 42 rfl)) (mvT hZ39 (own_W hw 43 rfl)) (by decide) (backOf (W := 1) (rm5_0 l Z a0 hw [] b29 w_AND b33 sa39 w_EMPTY_LIST .null .null .null h39 n0 z60 o62 f46 f47 f48 S_EMPTY_LIST f51 g_b29 f54 f57) hZ39 (own_W hw 43 rfl) (own_W hw 3 rfl) (by decide) (by decide)) (g := (mkF m 62 #[vi pi1, vi pi2, vi pi3, vi 1, vi 0, vi 0, vr b1, .unset, .unset, .unset, .unset, .unset, .unset, .unset] [(.ref sa39), (.ref b33), (.ref w_AND), (.ref b29), (.ref b29)])) rfl (by rw [hml]; rfl) (Steps.refl _) (a := b29) (argsL := [(.ref w_AND), (.ref b33), (.ref sa39)]) (rest := [(.ref b29)]) (lenOf pd_1 rfl) rfl (by show 2 * 0 + _ ≤ _; exact Nat.le_of_eq rfl) (hb hby at_62) (fun _ _ => ⟨rfl, e39, (by decide : 8 + 0 ≤ _), (by decide : 28 + 0 ≤ _)⟩)
  dsimp only [Pt.U, Pt.locs, Pt.cells, Pt.slots] at X58 l58 y58 z58 st58 hQ58
  subst l58 y58 z58
  obtain ⟨rfl, N58q, K58, qf58_0, qf58_1, qf58_2, qf58_3⟩ := hQ58
  have N58 := Fr.app N36 N58q
  obtain ⟨T63, h63, X63, e63, E63, A63, D63, -, st63⟩ := newO X58 hx hZ39 hown39 (own_W hw 1 rfl) (own_W hw 2 rfl) (own_W hw 3 rfl) rfl (g := (mkF m 67 #[vi pi1, vi pi2, vi pi3, vi 1, vi 0, vi 0, vr b1, vr b29, .unset, .unset, .unset, .unset, .unset, .unset] [])) rfl (hb hby at_67) (by decide) (by decide)
  obtain ⟨b63, g63⟩ : ∃ z, z = T58.heap.size := ⟨_, rfl⟩
  rw [← g63] at A63 D63 st63
  have F_operator_b63 : Fld Z h63 b63 "com/example/tyche/tyche/model/jani/Expression$Operation" "operator" "Lcom/example/tyche/tyche/model/jani/Operator;" .null := D63 (Or.inr (own_W hw 80 rfl)) (ty := (.object "com/example/tyche/tyche/model/jani/Operator")) (by decide)
  have F_operands_b63 : Fld Z h63 b63 "com/example/tyche/tyche/model/jani/Expression$Operation" "operands" "Ljava/util/List;" .null := D63 (Or.inr (own_W hw 82 rfl)) (ty := (.object "java/util/List")) (by decide)
  have F_path_b63 : Fld Z h63 b63 "com/example/tyche/tyche/model/jani/Expression$Operation" "path" "Ljava/lang/String;" .null := D63 (Or.inr (own_W hw 84 rfl)) (ty := (.object "java/lang/String")) (by decide)
  have o65 := o62.keep K58 (allS g_b29 all0)
  have o66 := o65.ext E63
  obtain ⟨T64, X64, e64, st64⟩ := getS2 X63 hx hZ39 hown39 (host := "") (Or.inl (own_W hw 88 rfl)) Via.refl e63 (S_DERIVATIVE.ext o66.2) (g := (mkF m 71 #[vi pi1, vi pi2, vi pi3, vi 1, vi 0, vi 0, vr b1, vr b29, .unset, .unset, .unset, .unset, .unset, .unset] [(.ref b63), (.ref b63)])) rfl (hb hby at_71)
  obtain ⟨T67, h67, X67, e67, E67, A67, D67, -, st67⟩ := newO X64 hx hZ39 hown39 (own_W hw 7 rfl) (own_W hw 8 rfl) (own_W hw 9 rfl) e64 (g := (mkF m 74 #[vi pi1, vi pi2, vi pi3, vi 1, vi 0, vi 0, vr b1, vr b29, .unset, .unset, .unset, .unset, .unset, .unset] [(.ref w_DERIVATIVE), (.ref b63), (.ref b63)])) rfl (hb hby at_74) (by decide) (by decide)
  obtain ⟨b67, g67⟩ : ∃ z, z = h63.size := ⟨_, rfl⟩
  rw [← g67] at A67 D67 st67
  have F_modCount_b67 : Fld Z h67 b67 "java/util/AbstractList" "modCount" "I" (.int 0) := D67 (Or.inl (own_W hw 29 rfl)) (ty := .int) (by decide)
  have F_elementData_b67 : Fld Z h67 b67 "java/util/ArrayList" "elementData" "[Ljava/lang/Object;" .null := D67 (Or.inl (own_W hw 32 rfl)) (ty := (.array (.object "java/lang/Object"))) (by decide)
  have F_size_b67 : Fld Z h67 b67 "java/util/ArrayList" "size" "I" (.int 0) := D67 (Or.inl (own_W hw 74 rfl)) (ty := .int) (by decide)
  have z68 := Nat.le_trans z60 K58.1
  have z69 := Nat.le_trans z68 E63.1
  have g_b67 : n0 ≤ b67 := Nat.le_trans z69 (Nat.le_of_eq g67.symm)
  have z71 := Nat.le_trans z69 E67.1
  have o72 := o66.ext E67
  obtain ⟨_, _, ⟨T70, L70, k70, n70⟩, -, X70, ⟨Lc70, hQ70, l70, y70, z70⟩, st70⟩ := X67.specialBack hx (y := mN2) rfl hown39 (mvT hZ39 (own_W hw 10 rfl)) (mvT hZ39 (own_W hw 11 rfl)) (mvT hZ39 (own_W hw 12 rfl)) (by decide) (backOf (W := 4) (rm1 l Z a0 hw [] b67 w_DEF (.int 0) .null (.int 0) h67 n0 z71 o72 A67 S_DEFAULTCAPACITY_EMPTY_ELEMENTDATA F_modCount_b67 F_elementData_b67 F_size_b67 g_b67) hZ39 (own_W hw 12 rfl) (own_W hw 9 rfl) (by decide) (by decide)) (g := (mkF m 78 #[vi pi1, vi pi2, vi pi3, vi 1, vi 0, vi 0, vr b1, vr b29, .unset, .unset, .unset, .unset, .unset, .unset] [(.ref b67), (.ref b67), (.ref w_DERIVATIVE), (.ref b63), (.ref b63)])) rfl (by rw [hml]; rfl) (Steps.refl _) (a := b67) (argsL := []) (rest := [(.ref b67), (.ref w_DERIVATIVE), (.ref b63), (.ref b63)]) (lenOf pd_0 rfl) rfl (by show 2 * 0 + _ ≤ _; exact Nat.le_of_eq rfl) (hb hby at_78) (fun _ _ => ⟨rfl, e67, (by decide : 10 + 0 ≤ _), (by decide : 34 + 0 ≤ _)⟩)
  dsimp only [Pt.U, Pt.locs, Pt.cells, Pt.slots] at X70 l70 y70 z70 st70 hQ70
  subst l70 y70 z70
  obtain ⟨rfl, N70q, K70, qf70_0, qf70_1, qf70_2, qf70_3⟩ := hQ70
  have N70 := Fr.app N58 N70q
  have y74 := Nat.le_trans hk39 K58.1
  have y75 := Nat.le_trans y74 E63.1
  have y76 := Nat.le_trans y75 E67.1
  have y77 := Nat.le_trans y76 K70.1
  obtain ⟨sa73, T73, h73, ks73, X73, e73, E73, hS73, hk73, hZ73, hown73, st73⟩ := ldcS X70 hx hZ39 hown39 (own_W hw 90 rfl) (own_wS hw) rfl hS39 y77 (g := (mkF m 81 #[vi pi1, vi pi2, vi pi3, vi 1, vi 0, vi 0, vr b1, vr b29, .unset, .unset, .unset, .unset, .unset, .unset] [(.ref b67), (.ref w_DERIVATIVE), (.ref b63), (.ref b63)])) rfl (hb hby at_81) (n := 4) (by decide) (by decide) (by decide) (by decide)
  have f78 := A63.ext E67
  have f79 := f78.keep K70
  have f80 := f79.ext E73
  have f81 := qf70_0.ext E73
  have f82 := qf70_3.ext E73
  have f83 := F_operator_b63.ext E67
  have f84 := f83.keep K70 (ninS (Nat.ne_of_lt (Nat.lt_of_lt_of_le F_path_b63.lt (Nat.le_of_eq g67.symm))) nin0)
  have f85 := f84.ext E73
  have g_b63 : n0 ≤ b63 := Nat.le_trans z68 (Nat.le_of_eq g63.symm)
  have f86 := F_operands_b63.ext E67
  have f87 := f86.keep K70 (ninS (Nat.ne_of_lt (Nat.lt_of_lt_of_le F_path_b63.lt (Nat.le_of_eq g67.symm))) nin0)
  have f88 := f87.ext E73
  have f89 := F_path_b63.ext E67
  have f90 := f89.keep K70 (ninS (Nat.ne_of_lt (Nat.lt_of_lt_of_le F_path_b63.lt (Nat.le_of_eq g67.symm))) nin0)
  have f91 := f90.ext E73
  have z93 := Nat.le_trans z71 K70.1
  have z94 := Nat.le_trans z93 E73.1
  have o95 := o72.keep K70 (allS g_b67 all0)
  have o96 := o95.ext E73
  obtain ⟨_, _, ⟨T92, L92, k92, n92⟩, -, X92, ⟨Lc92, hQ92, l92, y92, z92⟩, st92⟩ := X73.specialBack hx (y := mN27) rfl hown73 (mvT hZ73 (own_W hw 41 rfl)) (mvT hZ73 (own_W hw 42 rfl)) (mvT hZ73 (own_W hw 43 rfl)) (by decide) (backOf (W := 1) (rm5_0 l Z a0 hw [] b63 w_DERIVATIVE b67 sa73 w_EMPTY_LIST .null .null .null h73 n0 z94 o96 f80 f81 f82 S_EMPTY_LIST f85 g_b63 f88 f91) hZ73 (own_W hw 43 rfl) (own_W hw 3 rfl) (by decide) (by decide)) (g := (mkF m 83 #[vi pi1, vi pi2, vi pi3, vi 1, vi 0, vi 0, vr b1, vr b29, .unset, .unset, .unset, .unset, .unset, .unset] [(.ref sa73), (.ref b67), (.ref w_DERIVATIVE), (.ref b63), (.ref b63)])) rfl (by rw [hml]; rfl) (Steps.refl _) (a := b63) (argsL := [(.ref w_DERIVATIVE), (.ref b67), (.ref sa73)]) (rest := [(.ref b63)]) (lenOf pd_1 rfl) rfl (by show 2 * 0 + _ ≤ _; exact Nat.le_of_eq rfl) (hb hby at_83) (fun _ _ => ⟨rfl, e73, (by decide : 12 + 0 ≤ _), (by decide : 42 + 0 ≤ _)⟩)
  dsimp only [Pt.U, Pt.locs, Pt.cells, Pt.slots] at X92 l92 y92 z92 st92 hQ92
  subst l92 y92 z92
  obtain ⟨rfl, N92q, K92, qf92_0, qf92_1, qf92_2, qf92_3⟩ := hQ92
  have N92 := Fr.app N70 N92q
  obtain ⟨T97, h97, X97, e97, E97, A97, D97, -, st97⟩ := newO X92 hx hZ73 hown73 (own_W hw 7 rfl) (own_W hw 8 rfl) (own_W hw 9 rfl) rfl (g := (mkF m 88 #[vi pi1, vi pi2, vi pi3, vi 1, vi 0, vi 0, vr b1, vr b29, vr b63, .unset, .unset, .unset, .unset, .unset] [])) rfl (hb hby at_88) (by decide) (by decide)
  obtain ⟨b97, g97⟩ : ∃ z, z = T92.heap.size := ⟨_, rfl⟩
  rw [← g97] at A97 D97 st97
  have F_modCount_b97 : Fld Z h97 b97 "java/util/AbstractList" "modCount" "I" (.int 0) := D97 (Or.inl (own_W hw 29 rfl)) (ty := .int) (by decide)
  have F_elementData_b97 : Fld Z h97 b97 "java/util/ArrayList" "elementData" "[Ljava/lang/Object;" .null := D97 (Or.inl (own_W hw 32 rfl)) (ty := (.array (.object "java/lang/Object"))) (by decide)
  have F_size_b97 : Fld Z h97 b97 "java/util/ArrayList" "size" "I" (.int 0) := D97 (Or.inl (own_W hw 74 rfl)) (ty := .int) (by decide)
  have z98 := Nat.le_trans z94 K92.1
  have g_b97 : n0 ≤ b97 := Nat.le_trans z98 (Nat.le_of_eq g97.symm)
  have z100 := Nat.le_trans z98 E97.1
  have o101 := o96.keep K92 (allS g_b63 all0)
  have o102 := o101.ext E97
  obtain ⟨_, _, ⟨T99, L99, k99, n99⟩, -, X99, ⟨Lc99, hQ99, l99, y99, z99⟩, st99⟩ := X97.specialBack hx (y := mN2) rfl hown73 (mvT hZ73 (own_W hw 10 rfl)) (mvT hZ73 (own_W hw 11 rfl)) (mvT hZ73 (own_W hw 12 rfl)) (by decide) (backOf (W := 1) (rm1 l Z a0 hw [] b97 w_DEF (.int 0) .null (.int 0) h97 n0 z100 o102 A97 S_DEFAULTCAPACITY_EMPTY_ELEMENTDATA F_modCount_b97 F_elementData_b97 F_size_b97 g_b97) hZ73 (own_W hw 12 rfl) (own_W hw 9 rfl) (by decide) (by decide)) (g := (mkF m 92 #[vi pi1, vi pi2, vi pi3, vi 1, vi 0, vi 0, vr b1, vr b29, vr b63, .unset, .unset, .unset, .unset, .unset] [(.ref b97), (.ref b97)])) rfl (by rw [hml]; rfl) (Steps.refl _) (a := b97) (argsL := []) (rest := [(.ref b97)]) (lenOf pd_0 rfl) rfl (by show 2 * 0 + _ ≤ _; exact Nat.le_of_eq rfl) (hb hby at_92) (fun _ _ => ⟨rfl, e97, (by decide : 13 + 0 ≤ _), (by decide : 45 + 0 ≤ _)⟩)
  dsimp only [Pt.U, Pt.locs, Pt.cells, Pt.slots] at X99 l99 y99 z99 st99 hQ99
  subst l99 y99 z99
  obtain ⟨rfl, N99q, K99, qf99_0, qf99_1, qf99_2, qf99_3⟩ := hQ99
  have N99 := Fr.app N92 N99q
  have f103 := qf24_0.ext E29
  have f104 := f103.ext E33
  have f105 := f104.keep K36
  have f106 := f105.ext E39
  have f107 := f106.keep K58
  have f108 := f107.ext E63
  have f109 := f108.ext E67
  have f110 := f109.keep K70
  have f111 := f110.ext E73
  have f112 := f111.keep K92
  have f113 := f112.ext E97
  have f114 := f113.keep K99
  have z116 := Nat.le_trans z100 K99.1
  have o117 := o102.keep K99 (allS g_b97 all0)
  obtain ⟨cq115, kq115, q115a, q115b, q115c⟩ := isOf hZ73 rfl qf99_0
  obtain ⟨_, _, ⟨T115, L115, k115, n115⟩, -, X115, ⟨Lc115, hQ115, l115, y115, z115⟩, st115⟩ := X99.virtualBack hx (y := mN7) (z := mN7) hown73 (mvT hZ73 (own_W hw 91 rfl)) (mvT hZ73 (own_W hw 92 rfl)) (notFace_of_selects (args := #[]) (mvT hZ73 (own_W hw 94 rfl))) (mvT hZ73 (own_W hw 94 rfl)) (mvT hZ73 (own_W hw 93 rfl)) (by decide) (backOf (W := 0) (rm11_0 l Z a0 hw [] b97 b1 w_DEF kk_w_DEF (0 : Int32) T99.heap n0 z116 o117 qf99_0 f114 S_DEFAULTCAPACITY_EMPTY_ELEMENTDATA V_w_DEF qf99_1 qf99_2 qf99_3 g_b97) hZ73 (own_W hw 95 rfl) (own_W hw 9 rfl) (by decide) (by decide)) q115a q115c (g := (mkF m 101 #[vi pi1, vi pi2, vi pi3, vi 1, vi 0, vi 0, vr b1, vr b29, vr b63, vr b97, .unset, .unset, .unset, .unset] [(.ref b1), (.ref b97)])) rfl (by rw [hml]; rfl) (Steps.refl _) (argsL := [(.ref b1)]) (rest := []) (lenOf pd_5 rfl) rfl (by show 2 * 0 + _ ≤ _; exact Nat.le_of_eq rfl) (hb hby at_101) (fun _ _ => ⟨rfl, rfl, (by decide : 13 + 1 ≤ _), (by decide : 45 + 10 ≤ _)⟩)
  dsimp only [Pt.U, Pt.locs, Pt.cells, Pt.slots] at X115 l115 y115 z115 st115 hQ115
  subst l115 y115 z115
  obtain ⟨b115, b115_1, rfl, N115q, K115, qf115_0, qf115_1, qf115_2, qf115_3, qf115_4, qf115_5, qf115_6, qf115_7⟩ := hQ115
  have N115 := Fr.app N99 N115q
  obtain ⟨T118, h118, X118, e118, E118, A118, D118, -, st118⟩ := newO X115 hx hZ73 hown73 (own_W hw 1 rfl) (own_W hw 2 rfl) (own_W hw 3 rfl) rfl (g := (mkF m 131 #[vi pi1, vi pi2, vi pi3, vi 1, vi 0, vi 0, vr b1, vr b29, vr b63, vr b97, .unset, .unset, .unset, .unset] [])) rfl (hb hby at_131) (by decide) (by decide)
  obtain ⟨b118, g118⟩ : ∃ z, z = T115.heap.size := ⟨_, rfl⟩
  rw [← g118] at A118 D118 st118
  have F_operator_b118 : Fld Z h118 b118 "com/example/tyche/tyche/model/jani/Expression$Operation" "operator" "Lcom/example/tyche/tyche/model/jani/Operator;" .null := D118 (Or.inr (own_W hw 80 rfl)) (ty := (.object "com/example/tyche/tyche/model/jani/Operator")) (by decide)
  have F_operands_b118 : Fld Z h118 b118 "com/example/tyche/tyche/model/jani/Expression$Operation" "operands" "Ljava/util/List;" .null := D118 (Or.inr (own_W hw 82 rfl)) (ty := (.object "java/util/List")) (by decide)
  have F_path_b118 : Fld Z h118 b118 "com/example/tyche/tyche/model/jani/Expression$Operation" "path" "Ljava/lang/String;" .null := D118 (Or.inr (own_W hw 84 rfl)) (ty := (.object "java/lang/String")) (by decide)
  have o120 := o117.keep K115 (allS g_b97 all0)
  have o121 := o120.ext E118
  obtain ⟨T119, X119, e119, st119⟩ := getS2 X118 hx hZ73 hown73 (host := "") (Or.inl (own_W hw 120 rfl)) Via.refl e118 (S_PLUS.ext o121.2) (g := (mkF m 135 #[vi pi1, vi pi2, vi pi3, vi 1, vi 0, vi 0, vr b1, vr b29, vr b63, vr b97, .unset, .unset, .unset, .unset] [(.ref b118), (.ref b118)])) rfl (hb hby at_135)
  have z123 := Nat.le_trans z116 K115.1
  have z124 := Nat.le_trans z123 E118.1
  obtain ⟨_, _, ⟨T122, L122, k122, n122⟩, -, X122, ⟨Lc122, hQ122, l122, y122, z122⟩, st122⟩ := Jvm.LawKit.callS X119 hx (y := mN31) hown73 (mvT hZ73 (own_W hw 122 rfl)) (mvT hZ73 (own_W hw 123 rfl)) (mvT hZ73 (own_W hw 34 rfl)) (mvT hZ73 (own_W hw 124 rfl)) (by decide) (backOf (W := 4) (rm16 l Z a0 hw [] ((pi3 &&& (255 : Int32)).toUInt32.toUInt16.toUInt32.toInt32) w_COMPACT_STRINGS h118 n0 z124 o121 S_COMPACT_STRINGS hCS (own_c255 _)) hZ73 (own_W hw 124 rfl) (own_W hw 34 rfl) (by decide) (by decide)) (g := (mkF m 146 #[vi pi1, vi pi2, vi pi3, vi 1, vi 0, vi 0, vr b1, vr b29, vr b63, vr b97, .unset, .unset, .unset, .unset] [(.int ((pi3 &&& (255 : Int32)).toUInt32.toUInt16.toUInt32.toInt32)), (.ref b97), (.ref w_PLUS), (.ref b118), (.ref b118)])) rfl (by rw [hml]; rfl) (argsL := [(.int ((pi3 &&& (255 : Int32)).toUInt32.toUInt16.toUInt32.toInt32))]) (rest := [(.ref b97), (.ref w_PLUS), (.ref b118), (.ref b118)]) (lenOf pd_10 rfl) rfl (by show 2 * 0 + _ ≤ _; exact Nat.le_of_eq rfl) (hb hby at_146) (fun _ _ => ⟨rfl, e119, (by decide : 15 + 2 ≤ _), (by decide : 58 + 5 ≤ _)⟩)
  dsimp only [Pt.U, Pt.locs, Pt.cells, Pt.slots] at X122 l122 y122 z122 st122 hQ122
  subst l122 y122 z122
  obtain ⟨b122, b122_1, rfl, N122q, K122, qf122_0, qf122_1⟩ := hQ122
  have N122 := Fr.app N115 N122q
  have f125 := A118.keep K122
  have f126 := qf115_0.ext E118
  have f127 := f126.keep K122
  have f128 := qf115_2.ext E118
  have f129 := f128.keep K122 nin0
  have f130 := qf115_3.ext E118
  have f131 := f130.keep K122 nin0
  have f132 := qf115_5.ext E118
  have f133 := f132.keep K122
  have f134 := qf115_6.ext E118
  have f135 := f134.keep K122 nin0
  have f136 := f114.keep K115
  have f137 := f136.ext E118
  have f138 := f137.keep K122
  have f139 := F_operator_b118.keep K122 nin0
  have g_b118 : n0 ≤ b118 := Nat.le_trans z123 (Nat.le_of_eq g118.symm)
  have f140 := F_operands_b118.keep K122 nin0
  have f141 := F_path_b118.keep K122 nin0
  have z143 := Nat.le_trans z124 K122.1
  have o144 := o121.keep K122 all0
  obtain ⟨_, _, ⟨T142, L142, k142, n142⟩, -, X142, ⟨Lc142, hQ142, l142, y142, z142⟩, st142⟩ := X122.specialBack hx (y := mN27) rfl hown73 (mvT hZ73 (own_W hw 41 rfl)) (mvT hZ73 (own_W hw 42 rfl)) (mvT hZ73 (own_W hw 43 rfl)) (by decide) (backOf (W := 1) (rm5_1 l Z a0 hw [] b118 w_PLUS b97 b122 w_mir b115 b115_1 b1 .null .null .null .null .null .null .null .null .null w_EMPTY .null .null .null T122.heap n0 z143 o144 f125 M_mir f127 f129 f131 f133 f135 f138 S_EMPTY f139 g_b118 f140 f141) hZ73 (own_W hw 43 rfl) (own_W hw 3 rfl) (by decide) (by decide)) (g := (mkF m 149 #[vi pi1, vi pi2, vi pi3, vi 1, vi 0, vi 0, vr b1, vr b29, vr b63, vr b97, .unset, .unset, .unset, .unset] [(.ref b122), (.ref b97), (.ref w_PLUS), (.ref b118), (.ref b118)])) rfl (by rw [hml]; rfl) (Steps.refl _) (a := b118) (argsL := [(.ref w_PLUS), (.ref b97), (.ref b122)]) (rest := [(.ref b118)]) (lenOf pd_1 rfl) rfl (by show 2 * 0 + _ ≤ _; exact Nat.le_of_eq rfl) (hb hby at_149) (fun _ _ => ⟨rfl, rfl, (by decide : 17 + 2 ≤ _), (by decide : 63 + 3 ≤ _)⟩)
  dsimp only [Pt.U, Pt.locs, Pt.cells, Pt.slots] at X142 l142 y142 z142 st142 hQ142
  subst l142 y142 z142
  obtain ⟨b142, rfl, N142q, K142, qf142_0, qf142_1, qf142_2, qf142_3, qf142_4, qf142_5, qf142_6, qf142_7⟩ := hQ142
  have N142 := Fr.app N122 N142q
  have f145 := f127.keep K142
  have f146 := f138.keep K142
  have f147 := qf115_1.ext E118
  have f148 := f147.keep K122 nin0
  have f149 := f148.keep K142 (ninS (Nat.ne_of_lt (Nat.lt_of_lt_of_le qf115_3.lt (Nat.le_of_eq g118.symm))) nin0)
  have f150 := f129.keep K142 (ninS (Nat.ne_of_lt (Nat.lt_of_lt_of_le qf115_3.lt (Nat.le_of_eq g118.symm))) nin0)
  have f151 := f135.keep K142 (ninS (Nat.ne_of_lt (Nat.lt_of_lt_of_le qf115_6.lt (Nat.le_of_eq g118.symm))) nin0)
  have f152 := f131.keep K142 (ninS (Nat.ne_of_lt (Nat.lt_of_lt_of_le qf115_3.lt (Nat.le_of_eq g118.symm))) nin0)
  have g_b115 : n0 ≤ b115 := Nat.le_trans z116 qf115_4
  have z154 := Nat.le_trans z143 K142.1
  have o155 := o144.keep K142 (allS g_b118 all0)
  obtain ⟨cq153, kq153, q153a, q153b, q153c⟩ := isOf hZ73 rfl f145
  obtain ⟨_, _, ⟨T153, L153, k153, n153⟩, -, X153, ⟨Lc153, hQ153, l153, y153, z153⟩, st153⟩ := X142.virtualBack hx (y := mN7) (z := mN7) hown73 (mvT hZ73 (own_W hw 91 rfl)) (mvT hZ73 (own_W hw 92 rfl)) (notFace_of_selects (args := #[]) (mvT hZ73 (own_W hw 94 rfl))) (mvT hZ73 (own_W hw 94 rfl)) (mvT hZ73 (own_W hw 93 rfl)) (by decide) (backOf (W := 0) (rm11_1 l Z a0 hw [] b97 b1 ((0 : Int32) + (1 : Int32)) b115 b115_1 (.ref b1) .null .null .null .null .null .null .null .null .null T142.heap n0 z154 o155 f145 f146 f149 f150 f151 qf115_7 f152 g_b97 (Ne.symm (Nat.ne_of_lt (Nat.lt_of_lt_of_le qf99_0.lt qf115_4))) g_b115) hZ73 (own_W hw 95 rfl) (own_W hw 9 rfl) (by decide) (by decide)) q153a q153c (g := (mkF m 158 #[vi pi1, vi pi2, vi pi3, vi 1, vi 0, vi 0, vr b1, vr b29, vr b63, vr b97, vr b118, .unset, .unset, .unset] [(.ref b1), (.ref b97)])) rfl (by rw [hml]; rfl) (Steps.refl _) (argsL := [(.ref b1)]) (rest := []) (lenOf pd_5 rfl) rfl (by show 2 * 0 + _ ≤ _; exact Nat.le_of_eq rfl) (hb hby at_158) (fun _ _ => ⟨rfl, rfl, (by decide : 19 + 0 ≤ _), (by decide : 66 + 0 ≤ _)⟩)
  dsimp only [Pt.U, Pt.locs, Pt.cells, Pt.slots] at X153 l153 y153 z153 st153 hQ153
  subst l153 y153 z153
  obtain ⟨rfl, N153q, K153, qf153_0, qf153_1, qf153_2, qf153_3, qf153_4, qf153_5⟩ := hQ153
  have N153 := Fr.app N142 N153q
  have f156 := f133.keep K142
  have f157 := qf142_2.keep K153 (ninS (Ne.symm (Nat.ne_of_lt (Nat.lt_of_lt_of_le qf115_3.lt (Nat.le_of_eq g118.symm)))) (ninS (Ne.symm (Nat.ne_of_lt (Nat.lt_of_lt_of_le qf115_6.lt (Nat.le_of_eq g118.symm)))) nin0))
  have f158 := qf142_5.keep K153
  have f159 := qf142_6.keep K153 (ninS (Ne.symm (Nat.ne_of_lt (Nat.lt_of_lt_of_le f131.lt qf142_4))) (ninS (Ne.symm (Nat.ne_of_lt (Nat.lt_of_lt_of_le f135.lt qf142_4))) nin0))
  have f160 := f146.keep K153
  have z162 := Nat.le_trans z154 K153.1
  have o163 := o155.keep K153 (allS g_b97 (allS g_b115 all0))
  have f164 := qf142_0.keep K153
  obtain ⟨cq161, kq161, q161a, q161b, q161c⟩ := isOf hZ73 rfl f164
  obtain ⟨_, _, ⟨T161, L161, k161, n161⟩, -, X161, ⟨Lc161, hQ161, l161, y161, z161⟩, st161⟩ := X153.virtualBack hx (y := mN36) (z := mN36) hown73 (mvT hZ73 (own_W hw 204 rfl)) (mvT hZ73 (own_W hw 205 rfl)) (notFace_of_selects (args := #[]) (mvT hZ73 (own_W hw 207 rfl))) (mvT hZ73 (own_W hw 207 rfl)) (mvT hZ73 (own_W hw 206 rfl)) (by decide) (backOf (W := 0) (rm29_0 l Z a0 hw [] b118 b142 b1 T153.heap n0 z162 o163 f157 f158 f159 f160) hZ73 (own_W hw 208 rfl) (own_W hw 3 rfl) (by decide) (by decide)) q161a q161c (g := (mkF m 166 #[vi pi1, vi pi2, vi pi3, vi 1, vi 0, vi 0, vr b1, vr b29, vr b63, vr b97, vr b118, .unset, .unset, .unset] [(.int 0), (.ref b118)])) rfl (by rw [hml]; rfl) (Steps.refl _) (argsL := [(.int 0)]) (rest := []) (lenOf pd_21 rfl) rfl (by show 2 * 0 + _ ≤ _; exact Nat.le_of_eq rfl) (hb hby at_166) (fun _ _ => ⟨rfl, rfl, (by decide : 19 + 0 ≤ _), (by decide : 66 + 0 ≤ _)⟩)
  dsimp only [Pt.U, Pt.locs, Pt.cells, Pt.slots] at X161 l161 y161 z161 st161 hQ161
  subst l161 y161 z161
  obtain ⟨rfl, N161q, eq161⟩ := hQ161
  have N161 := Fr.app N153 N161q
  obtain ⟨_, _, ⟨T165, L165, k165, n165⟩, -, X165, ⟨Lc165, hQ165, l165, y165, z165⟩, st165⟩ := Jvm.LawKit.callS X161 hx (y := mN39) hown73 (mvT hZ73 (own_W hw 220 rfl)) (mvT hZ73 (own_W hw 221 rfl)) (mvT hZ73 (own_W hw 222 rfl)) (mvT hZ73 (own_W hw 223 rfl)) (by decide) (backOf (W := 1) (rm31_0 l Z a0 hw [] b1 b29 b63 T153.heap n0 z162 o163 ) hZ73 (own_W hw 223 rfl) (own_W hw 222 rfl) (by decide) (by decide)) (g := (mkF m 177 #[vi pi1, vi pi2, vi pi3, vi 1, vi 0, vi 0, vr b1, vr b29, vr b63, vr b97, vr b118, .unset, .unset, .unset] [(.ref b63), (.ref b29), (.ref b1), (.int 0), (.ref b1)])) rfl (by rw [hml]; rfl) (argsL := [(.int 0), (.ref b1), (.ref b29), (.ref b63)]) (rest := [(.ref b1)]) (lenOf pd_23 rfl) rfl (by show 2 * 0 + _ ≤ _; exact Nat.le_of_eq rfl) (hb hby at_177) (fun _ _ => ⟨rfl, eq161, (by decide : 19 + 0 ≤ _), (by decide : 66 + 0 ≤ _)⟩)
  dsimp only [Pt.U, Pt.locs, Pt.cells, Pt.slots] at X165 l165 y165 z165 st165 hQ165
  subst l165 y165 z165
  obtain ⟨rfl, N165q, eq165⟩ := hQ165
  have N165 := Fr.app N161 N165q
  obtain ⟨cq166, kq166, q166a, q166b, q166c⟩ := isOf hZ73 eq165 f164
  obtain ⟨_, _, ⟨T166, L166, k166, n166⟩, -, X166, ⟨Lc166, hQ166, l166, y166, z166⟩, st166⟩ := X165.virtualBack hx (y := mN36) (z := mN36) hown73 (mvT hZ73 (own_W hw 204 rfl)) (mvT hZ73 (own_W hw 205 rfl)) (notFace_of_selects (args := #[]) (mvT hZ73 (own_W hw 207 rfl))) (mvT hZ73 (own_W hw 207 rfl)) (mvT hZ73 (own_W hw 206 rfl)) (by decide) (backOf (W := 0) (rm29_0 l Z a0 hw [] b118 b142 b1 T153.heap n0 z162 o163 f157 f158 f159 f160) hZ73 (own_W hw 208 rfl) (own_W hw 3 rfl) (by decide) (by decide)) q166a q166c (g := (mkF m 194 #[vi pi1, vi pi2, vi pi3, vi 1, vi 0, vi 0, vr b1, vr b29, vr b63, vr b97, vr b118, vi 1, .unset, .unset] [(.int 0), (.ref b118)])) rfl (by rw [hml]; rfl) (Steps.refl _) (argsL := [(.int 0)]) (rest := []) (lenOf pd_21 rfl) rfl (by show 2 * 0 + _ ≤ _; exact Nat.le_of_eq rfl) (hb hby at_194) (fun _ _ => ⟨rfl, eq165, (by decide : 19 + 0 ≤ _), (by decide : 66 + 0 ≤ _)⟩)
  dsimp only [Pt.U, Pt.locs, Pt.cells, Pt.slots] at X166 l166 y166 z166 st166 hQ166
  subst l166 y166 z166
  obtain ⟨rfl, N166q, eq166⟩ := hQ166
  have N166 := Fr.app N165 N166q
  obtain ⟨_, _, ⟨T167, L167, k167, n167⟩, -, X167, ⟨Lc167, hQ167, l167, y167, z167⟩, st167⟩ := Jvm.LawKit.callS X166 hx (y := mN39) hown73 (mvT hZ73 (own_W hw 220 rfl)) (mvT hZ73 (own_W hw 221 rfl)) (mvT hZ73 (own_W hw 222 rfl)) (mvT hZ73 (own_W hw 223 rfl)) (by decide) (backOf (W := 1) (rm31_0 l Z a0 hw [] b1 b29 b63 T153.heap n0 z162 o163 ) hZ73 (own_W hw 223 rfl) (own_W hw 222 rfl) (by decide) (by decide)) (g := (mkF m 205 #[vi pi1, vi pi2, vi pi3, vi 1, vi 0, vi 0, vr b1, vr b29, vr b63, vr b97, vr b118, vi 1, .unset, .unset] [(.ref b63), (.ref b29), (.ref b1), (.int 0), (.ref b1)])) rfl (by rw [hml]; rfl) (argsL := [(.int 0), (.ref b1), (.ref b29), (.ref b63)]) (rest := [(.ref b1)]) (lenOf pd_23 rfl) rfl (by show 2 * 0 + _ ≤ _; exact Nat.le_of_eq rfl) (hb hby at_205) (fun _ _ => ⟨rfl, eq166, (by decide : 19 + 0 ≤ _), (by decide : 66 + 0 ≤ _)⟩)
  dsimp only [Pt.U, Pt.locs, Pt.cells, Pt.slots] at X167 l167 y167 z167 st167 hQ167
  subst l167 y167 z167
  obtain ⟨rfl, N167q, eq167⟩ := hQ167
  have N167 := Fr.app N166 N167q
  obtain ⟨cq168, kq168, q168a, q168b, q168c⟩ := isOf hZ73 eq167 f164
  obtain ⟨_, _, ⟨T168, L168, k168, n168⟩, -, X168, ⟨Lc168, hQ168, l168, y168, z168⟩, st168⟩ := X167.virtualBack hx (y := mN38) (z := mN38) hown73 (mvT hZ73 (own_W hw 224 rfl)) (mvT hZ73 (own_W hw 225 rfl)) (notFace_of_selects (args := #[]) (mvT hZ73 (own_W hw 227 rfl))) (mvT hZ73 (own_W hw 227 rfl)) (mvT hZ73 (own_W hw 226 rfl)) (by decide) (backOf (W := 0) (rm32 l Z a0 hw [] b118 b142 T153.heap n0 z162 o163 f157) hZ73 (own_W hw 228 rfl) (own_W hw 3 rfl) (by decide) (by decide)) q168a q168c (g := (mkF m 220 #[vi pi1, vi pi2, vi pi3, vi 1, vi 0, vi 0, vr b1, vr b29, vr b63, vr b97, vr b118, vi 1, vi 1, .unset] [(.ref b118)])) rfl (by rw [hml]; rfl) (Steps.refl _) (argsL := []) (rest := []) (lenOf pd_4 rfl) rfl (by show 2 * 0 + _ ≤ _; exact Nat.le_of_eq rfl) (hb hby at_220) (fun _ _ => ⟨rfl, eq167, (by decide : 19 + 0 ≤ _), (by decide : 66 + 0 ≤ _)⟩)
  dsimp only [Pt.U, Pt.locs, Pt.cells, Pt.slots] at X168 l168 y168 z168 st168 hQ168
  subst l168 y168 z168
  obtain ⟨rfl, N168q, eq168⟩ := hQ168
  have N168 := Fr.app N167 N168q
  have f169 := qf142_7.keep K153 (ninS (Ne.symm (Nat.ne_of_lt (Nat.lt_of_lt_of_le f131.lt qf142_4))) (ninS (Ne.symm (Nat.ne_of_lt (Nat.lt_of_lt_of_le f135.lt qf142_4))) nin0))
  obtain ⟨cq170, kq170, q170a, q170b, q170c⟩ := isOf hZ73 eq168 f158
  obtain ⟨_, _, ⟨T170, L170, k170, n170⟩, -, X170, ⟨Lc170, hQ170, l170, y170, z170⟩, st170⟩ := X168.interfaceBack hx (xi := mN40) (y := mN35) hown73 (mvT hZ73 (own_W hw 229 rfl)) (mvT hZ73 (own_W hw 230 rfl)) (mvT hZ73 (own_W hw 231 rfl)) (mvT hZ73 (own_W hw 232 rfl)) (mvT hZ73 (own_W hw 233 rfl)) (mvT hZ73 (own_W hw 234 rfl)) (mvT hZ73 (own_W hw 235 rfl)) (mvT hZ73 (own_W hw 216 rfl)) (by decide) (backOf (W := 0) (rm33_1 l Z a0 hw [] b142 w_EMPTY T153.heap n0 z162 o163 S_EMPTY f169) hZ73 (own_W hw 236 rfl) (own_W hw 176 rfl) (by decide) (by decide)) q170a q170b q170c (g := (mkF m 223 #[vi pi1, vi pi2, vi pi3, vi 1, vi 0, vi 0, vr b1, vr b29, vr b63, vr b97, vr b118, vi 1, vi 1, .unset] [(.ref b142)])) rfl (by rw [hml]; rfl) (Steps.refl _) (argsL := []) (rest := []) (lenOf pd_24 rfl) rfl (by show 2 * 0 + _ ≤ _; exact Nat.le_of_eq rfl) (hb hby at_223) (fun _ _ => ⟨rfl, eq168, (by decide : 19 + 0 ≤ _), (by decide : 66 + 0 ≤ _)⟩)
  dsimp only [Pt.U, Pt.locs, Pt.cells, Pt.slots] at X170 l170 y170 z170 st170 hQ170
  subst l170 y170 z170
  obtain ⟨rfl, N170q, eq170⟩ := hQ170
  have N170 := Fr.app N168 N170q
  have y171 := Nat.le_trans hk73 K92.1
  have y172 := Nat.le_trans y171 E97.1
  have y173 := Nat.le_trans y172 K99.1
  have y174 := Nat.le_trans y173 K115.1
  have y175 := Nat.le_trans y174 E118.1
  have y176 := Nat.le_trans y175 K122.1
  have y177 := Nat.le_trans y176 K142.1
  have y178 := Nat.le_trans y177 K153.1
  obtain ⟨fs, hr, hrun, hended, hE1, hE2, hE3, hsame⟩ := X170.leaveW hS73 (by rw [eq170]; exact y178) (v := some (.int 1)) (fun h => by rw [Bd.returns] at h; cases h) (BodyLoose.notSynchronized Bd)
  refine ⟨_, _, pre0 _ ?_, hrun, hended, _, _, rfl, ?_, ⟨_, rfl⟩, hE2, hE3, hsame.mono (by decide) (by decide)⟩
  · show Stp p e below s₁ m 0 #[vi pi1, vi pi2, vi pi3, .unset, .unset, .unset, .unset, .unset, .unset, .unset, .unset, .unset, .unset, .unset] [] _
    refine XS.iconst X0.here hx rfl (hb hby at_0) ?_
    refine XS.iloadN X0.here hx rfl (hb hby at_1) rfl ?_
    refine X0.ldcInt hx hown (mvT hZ (own_W hw 0 rfl)) (g := (mkF m 2 #[vi pi1, vi pi2, vi pi3, .unset, .unset, .unset, .unset, .unset, .unset, .unset, .unset, .unset, .unset, .unset] [(.int pi1), (.int 1)])) rfl (hb hby at_2) _ ?_
    show Stp p e below s₁ m 4 #[vi pi1, vi pi2, vi pi3, .unset, .unset, .unset, .unset, .unset, .unset, .unset, .unset, .unset, .unset, .unset] [(.int 2147483647), (.int pi1), (.int 1)] _
    refine XS.iand X0.here hx rfl (hb hby at_4) rfl ?_
    refine XS.iconst X0.here hx rfl (hb hby at_5) ?_
    refine iremM X0 hx rfl (hb hby at_6) rfl (by decide) ?_
    show Stp p e below s₁ m 7 #[vi pi1, vi pi2, vi pi3, .unset, .unset, .unset, .unset, .unset, .unset, .unset, .unset, .unset, .unset, .unset] [(.int ((pi1 &&& (2147483647 : Int32)) % (3 : Int32))), (.int 1)] _
    refine XS.iadd X0.here hx rfl (hb hby at_7) rfl ?_
    refine XS.istoreN X0.here hx rfl (hb hby at_8) rfl (l' := #[vi pi1, vi pi2, vi pi3, .val (.int ((1 : Int32) + ((pi1 &&& (2147483647 : Int32)) % (3 : Int32)))), .unset, .unset, .unset, .unset, .unset, .unset, .unset, .unset, .unset, .unset]) rfl ?_
    show Stp p e below s₁ m 9 #[vi pi1, vi pi2, vi pi3, .val (.int ((1 : Int32) + ((pi1 &&& (2147483647 : Int32)) % (3 : Int32)))), .unset, .unset, .unset, .unset, .unset, .unset, .unset, .unset, .unset, .unset] [] _
    rw [show ((1 : Int32) + ((pi1 &&& (2147483647 : Int32)) % (3 : Int32))) = (1 : Int32) from hc8_0]
    show Stp p e below s₁ m 9 #[vi pi1, vi pi2, vi pi3, vi 1, .unset, .unset, .unset, .unset, .unset, .unset, .unset, .unset, .unset, .unset] [] _
    refine XS.iloadN X0.here hx rfl (hb hby at_9) rfl ?_
    refine X0.ldcInt hx hown (mvT hZ (own_W hw 0 rfl)) (g := (mkF m 10 #[vi pi1, vi pi2, vi pi3, vi 1, .unset, .unset, .unset, .unset, .unset, .unset, .unset, .unset, .unset, .unset] [(.int pi2)])) rfl (hb hby at_10) _ ?_
    show Stp p e below s₁ m 12 #[vi pi1, vi pi2, vi pi3, vi 1, .unset, .unset, .unset, .unset, .unset, .unset, .unset, .unset, .unset, .unset] [(.int 2147483647), (.int pi2)] _
    refine XS.iand X0.here hx rfl (hb hby at_12) rfl ?_
    refine XS.iloadN X0.here hx rfl (hb hby at_13) rfl ?_
    refine iremM X0 hx rfl (hb hby at_14) rfl (by decide) ?_
    show Stp p e below s₁ m 15 #[vi pi1, vi pi2, vi pi3, vi 1, .unset, .unset, .unset, .unset, .unset, .unset, .unset, .unset, .unset, .unset] [(.int ((pi2 &&& (2147483647 : Int32)) % (1 : Int32)))] _
    refine XS.istore X0.here hx rfl (hb hby at_15) rfl (l' := #[vi pi1, vi pi2, vi pi3, vi 1, .val (.int ((pi2 &&& (2147483647 : Int32)) % (1 : Int32))), .unset, .unset, .unset, .unset, .unset, .unset, .unset, .unset, .unset]) rfl ?_
    show Stp p e below s₁ m 17 #[vi pi1, vi pi2, vi pi3, vi 1, .val (.int ((pi2 &&& (2147483647 : Int32)) % (1 : Int32))), .unset, .unset, .unset, .unset, .unset, .unset, .unset, .unset, .unset] [] _
    rw [show ((pi2 &&& (2147483647 : Int32)) % (1 : Int32)) = (0 : Int32) from own_i1]
    show Stp p e below s₁ m 17 #[vi pi1, vi pi2, vi pi3, vi 1, vi 0, .unset, .unset, .unset, .unset, .unset, .unset, .unset, .unset, .unset] [] _
    refine XS.iloadN X0.here hx rfl (hb hby at_17) rfl ?_
    refine XS.iconst X0.here hx rfl (hb hby at_18) ?_
    refine XS.isub X0.here hx rfl (hb hby at_19) rfl ?_
    refine XS.iload X0.here hx rfl (hb hby at_20) rfl ?_
    refine XS.isub X0.here hx rfl (hb hby at_22) rfl ?_
    refine XS.istore X0.here hx rfl (hb hby at_23) rfl (l' := #[vi pi1, vi pi2, vi pi3, vi 1, vi 0, vi 0, .unset, .unset, .unset, .unset, .unset, .unset, .unset, .unset]) rfl ?_
    refine st1 _ ?_
    show Stp p e below T1 m 28 #[vi pi1, vi pi2, vi pi3, vi 1, vi 0, vi 0, .unset, .unset, .unset, .unset, .unset, .unset, .unset, .unset] [(.ref b1)] _
    refine XS.dup X1.here hx rfl (hb hby at_28) rfl rfl ?_
    refine st2 _ ?_
    show Stp p e below T2 m 32 #[vi pi1, vi pi2, vi pi3, vi 1, vi 0, vi 0, .unset, .unset, .unset, .unset, .unset, .unset, .unset, .unset] [(.ref w_NOT), (.ref b1), (.ref b1)] _
    refine st4 _ ?_
    show Stp p e below T4 m 35 #[vi pi1, vi pi2, vi pi3, vi 1, vi 0, vi 0, .unset, .unset, .unset, .unset, .unset, .unset, .unset, .unset] [(.ref b4), (.ref w_NOT), (.ref b1), (.ref b1)] _
    refine XS.dup X4.here hx rfl (hb hby at_35) rfl rfl ?_
    refine st6.trans ?_
    show Stp p e below T6 m 39 #[vi pi1, vi pi2, vi pi3, vi 1, vi 0, vi 0, .unset, .unset, .unset, .unset, .unset, .unset, .unset, .unset] [(.ref b4), (.ref w_NOT), (.ref b1), (.ref b1)] _
    refine st9 _ ?_
    show Stp p e below T9 m 41 #[vi pi1, vi pi2, vi pi3, vi 1, vi 0, vi 0, .unset, .unset, .unset, .unset, .unset, .unset, .unset, .unset] [(.ref sa9), (.ref b4), (.ref w_NOT), (.ref b1), (.ref b1)] _
    refine st24.trans ?_
    show Stp p e below T24 m 44 #[vi pi1, vi pi2, vi pi3, vi 1, vi 0, vi 0, .unset, .unset, .unset, .unset, .unset, .unset, .unset, .unset] [(.ref b1)] _
    refine XS.astore X24.here hx rfl (hb hby at_44) rfl rfl (l' := #[vi pi1, vi pi2, vi pi3, vi 1, vi 0, vi 0, vr b1, .unset, .unset, .unset, .unset, .unset, .unset, .unset]) rfl ?_
    refine st29 _ ?_
    show Stp p e below T29 m 49 #[vi pi1, vi pi2, vi pi3, vi 1, vi 0, vi 0, vr b1, .unset, .unset, .unset, .unset, .unset, .unset, .unset] [(.ref b29)] _
    refine XS.dup X29.here hx rfl (hb hby at_49) rfl rfl ?_
    refine st30 _ ?_
    show Stp p e below T30 m 53 #[vi pi1, vi pi2, vi pi3, vi 1, vi 0, vi 0, vr b1, .unset, .unset, .unset, .unset, .unset, .unset, .unset] [(.ref w_AND), (.ref b29), (.ref b29)] _
    refine st33 _ ?_
    show Stp p e below T33 m 56 #[vi pi1, vi pi2, vi pi3, vi 1, vi 0, vi 0, vr b1, .unset, .unset, .unset, .unset, .unset, .unset, .unset] [(.ref b33), (.ref w_AND), (.ref b29), (.ref b29)] _
    refine XS.dup X33.here hx rfl (hb hby at_56) rfl rfl ?_
    refine st36.trans ?_
    show Stp p e below T36 m 60 #[vi pi1, vi pi2, vi pi3, vi 1, vi 0, vi 0, vr b1, .unset, .unset, .unset, .unset, .unset, .unset, .unset] [(.ref b33), (.ref w_AND), (.ref b29), (.ref b29)] _
    refine st39 _ ?_
    show Stp p e below T39 m 62 #[vi pi1, vi pi2, vi pi3, vi 1, vi 0, vi 0, vr b1, .unset, .unset, .unset, .unset, .unset, .unset, .unset] [(.ref sa39), (.ref b33), (.ref w_AND), (.ref b29), (.ref b29)] _
    refine st58.trans ?_
    show Stp p e below T58 m 65 #[vi pi1, vi pi2, vi pi3, vi 1, vi 0, vi 0, vr b1, .unset, .unset, .unset, .unset, .unset, .unset, .unset] [(.ref b29)] _
    refine XS.astore X58.here hx rfl (hb hby at_65) rfl rfl (l' := #[vi pi1, vi pi2, vi pi3, vi 1, vi 0, vi 0, vr b1, vr b29, .unset, .unset, .unset, .unset, .unset, .unset]) rfl ?_
    refine st63 _ ?_
    show Stp p e below T63 m 70 #[vi pi1, vi pi2, vi pi3, vi 1, vi 0, vi 0, vr b1, vr b29, .unset, .unset, .unset, .unset, .unset, .unset] [(.ref b63)] _
    refine XS.dup X63.here hx rfl (hb hby at_70) rfl rfl ?_
    refine st64 _ ?_
    show Stp p e below T64 m 74 #[vi pi1, vi pi2, vi pi3, vi 1, vi 0, vi 0, vr b1, vr b29, .unset, .unset, .unset, .unset, .unset, .unset] [(.ref w_DERIVATIVE), (.ref b63), (.ref b63)] _
    refine st67 _ ?_
    show Stp p e below T67 m 77 #[vi pi1, vi pi2, vi pi3, vi 1, vi 0, vi 0, vr b1, vr b29, .unset, .unset, .unset, .unset, .unset, .unset] [(.ref b67), (.ref w_DERIVATIVE), (.ref b63), (.ref b63)] _
    refine XS.dup X67.here hx rfl (hb hby at_77) rfl rfl ?_
    refine st70.trans ?_
    show Stp p e below T70 m 81 #[vi pi1, vi pi2, vi pi3, vi 1, vi 0, vi 0, vr b1, vr b29, .unset, .unset, .unset, .unset, .unset, .unset] [(.ref b67), (.ref w_DERIVATIVE), (.ref b63), (.ref b63)] _
    refine st73 _ ?_
    show Stp p e below T73 m 83 #[vi pi1, vi pi2, vi pi3, vi 1, vi 0, vi 0, vr b1, vr b29, .unset, .unset, .unset, .unset, .unset, .unset] [(.ref sa73), (.ref b67), (.ref w_DERIVATIVE), (.ref b63), (.ref b63)] _
    refine st92.trans ?_
    show Stp p e below T92 m 86 #[vi pi1, vi pi2, vi pi3, vi 1, vi 0, vi 0, vr b1, vr b29, .unset, .unset, .unset, .unset, .unset, .unset] [(.ref b63)] _
    refine XS.astore X92.here hx rfl (hb hby at_86) rfl rfl (l' := #[vi pi1, vi pi2, vi pi3, vi 1, vi 0, vi 0, vr b1, vr b29, vr b63, .unset, .unset, .unset, .unset, .unset]) rfl ?_
    refine st97 _ ?_
    show Stp p e below T97 m 91 #[vi pi1, vi pi2, vi pi3, vi 1, vi 0, vi 0, vr b1, vr b29, vr b63, .unset, .unset, .unset, .unset, .unset] [(.ref b97)] _
    refine XS.dup X97.here hx rfl (hb hby at_91) rfl rfl ?_
    refine st99.trans ?_
    show Stp p e below T99 m 95 #[vi pi1, vi pi2, vi pi3, vi 1, vi 0, vi 0, vr b1, vr b29, vr b63, .unset, .unset, .unset, .unset, .unset] [(.ref b97)] _
    refine XS.astore X99.here hx rfl (hb hby at_95) rfl rfl (l' := #[vi pi1, vi pi2, vi pi3, vi 1, vi 0, vi 0, vr b1, vr b29, vr b63, vr b97, .unset, .unset, .unset, .unset]) rfl ?_
    refine XS.aload X99.here hx rfl (hb hby at_97) rfl rfl ?_
    refine XS.aload X99.here hx rfl (hb hby at_99) rfl rfl ?_
    refine st115.trans ?_
    show Stp p e below T115 m 104 #[vi pi1, vi pi2, vi pi3, vi 1, vi 0, vi 0, vr b1, vr b29, vr b63, vr b97, .unset, .unset, .unset, .unset] [(.int 1)] _
    refine XS.pop X115.here hx rfl (hb hby at_104) rfl rfl ?_
    refine XS.iloadN X115.here hx rfl (hb hby at_105) rfl ?_
    refine XS.iconst X115.here hx rfl (hb hby at_106) ?_
    refine XS.icmpYes X115.here hx rfl (pc0 := 107) (pc' := 118) rfl (hb hby at_107) rfl (tlt (by decide : (1 : Int32) < (2 : Int32))).1 (by decide) (by decide) ?_
    show Stp p e below T115 m 118 #[vi pi1, vi pi2, vi pi3, vi 1, vi 0, vi 0, vr b1, vr b29, vr b63, vr b97, .unset, .unset, .unset, .unset] [] _
    refine XS.iloadN X115.here hx rfl (hb hby at_118) rfl ?_
    refine XS.iconst X115.here hx rfl (hb hby at_119) ?_
    refine XS.icmpYes X115.here hx rfl (pc0 := 120) (pc' := 131) rfl (hb hby at_120) rfl (tlt (by decide : (1 : Int32) < (3 : Int32))).1 (by decide) (by decide) ?_
    show Stp p e below T115 m 131 #[vi pi1, vi pi2, vi pi3, vi 1, vi 0, vi 0, vr b1, vr b29, vr b63, vr b97, .unset, .unset, .unset, .unset] [] _
    refine st118 _ ?_
    show Stp p e below T118 m 134 #[vi pi1, vi pi2, vi pi3, vi 1, vi 0, vi 0, vr b1, vr b29, vr b63, vr b97, .unset, .unset, .unset, .unset] [(.ref b118)] _
    refine XS.dup X118.here hx rfl (hb hby at_134) rfl rfl ?_
    refine st119 _ ?_
    show Stp p e below T119 m 138 #[vi pi1, vi pi2, vi pi3, vi 1, vi 0, vi 0, vr b1, vr b29, vr b63, vr b97, .unset, .unset, .unset, .unset] [(.ref w_PLUS), (.ref b118), (.ref b118)] _
    refine XS.aload X119.here hx rfl (hb hby at_138) rfl rfl ?_
    refine XS.iloadN X119.here hx rfl (hb hby at_140) rfl ?_
    refine XS.sipush X119.here hx rfl (hb hby at_141) ?_
    refine XS.iand X119.here hx rfl (hb hby at_144) rfl ?_
    refine XS.i2c X119.here hx rfl (hb hby at_145) rfl ?_
    refine st122 _ ?_
    show Stp p e below T122 m 149 #[vi pi1, vi pi2, vi pi3, vi 1, vi 0, vi 0, vr b1, vr b29, vr b63, vr b97, .unset, .unset, .unset, .unset] [(.ref b122), (.ref b97), (.ref w_PLUS), (.ref b118), (.ref b118)] _
    refine st142.trans ?_
    show Stp p e below T142 m 152 #[vi pi1, vi pi2, vi pi3, vi 1, vi 0, vi 0, vr b1, vr b29, vr b63, vr b97, .unset, .unset, .unset, .unset] [(.ref b118)] _
    refine XS.astore X142.here hx rfl (hb hby at_152) rfl rfl (l' := #[vi pi1, vi pi2, vi pi3, vi 1, vi 0, vi 0, vr b1, vr b29, vr b63, vr b97, vr b118, .unset, .unset, .unset]) rfl ?_
    refine XS.aload X142.here hx rfl (hb hby at_154) rfl rfl ?_
    refine XS.aload X142.here hx rfl (hb hby at_156) rfl rfl ?_
    refine st153.trans ?_
    show Stp p e below T153 m 161 #[vi pi1, vi pi2, vi pi3, vi 1, vi 0, vi 0, vr b1, vr b29, vr b63, vr b97, vr b118, .unset, .unset, .unset] [(.int 1)] _
    refine XS.pop X153.here hx rfl (hb hby at_161) rfl rfl ?_
    refine XS.aload X153.here hx rfl (hb hby at_162) rfl rfl ?_
    refine XS.iload X153.here hx rfl (hb hby at_164) rfl ?_
    refine st161.trans ?_
    show Stp p e below T161 m 169 #[vi pi1, vi pi2, vi pi3, vi 1, vi 0, vi 0, vr b1, vr b29, vr b63, vr b97, vr b118, .unset, .unset, .unset] [(.ref b1)] _
    refine XS.iload X161.here hx rfl (hb hby at_169) rfl ?_
    refine XS.aload X161.here hx rfl (hb hby at_171) rfl rfl ?_
    refine XS.aload X161.here hx rfl (hb hby at_173) rfl rfl ?_
    refine XS.aload X161.here hx rfl (hb hby at_175) rfl rfl ?_
    refine st165 _ ?_
    show Stp p e below T165 m 180 #[vi pi1, vi pi2, vi pi3, vi 1, vi 0, vi 0, vr b1, vr b29, vr b63, vr b97, vr b118, .unset, .unset, .unset] [(.ref b1), (.ref b1)] _
    refine Jvm.RoadKit.acmp (g := (mkF m 180 #[vi pi1, vi pi2, vi pi3, vi 1, vi 0, vi 0, vr b1, vr b29, vr b63, vr b97, vr b118, .unset, .unset, .unset] [(.ref b1), (.ref b1)])) X165 hx rfl rfl rfl (pc0 := 180) (pc' := 183) (same := true) rfl (hb hby at_180) rfl (decide_eq_true rfl) (by decide) (by decide) ?_
    show Stp p e below T165 m 183 #[vi pi1, vi pi2, vi pi3, vi 1, vi 0, vi 0, vr b1, vr b29, vr b63, vr b97, vr b118, .unset, .unset, .unset] [] _
    refine XS.iconst X165.here hx rfl (hb hby at_183) ?_
    refine XS.goto X165.here hx rfl (pc0 := 184) (pc' := 188) rfl (hb hby at_184) (by decide) (by decide) ?_
    show Stp p e below T165 m 188 #[vi pi1, vi pi2, vi pi3, vi 1, vi 0, vi 0, vr b1, vr b29, vr b63, vr b97, vr b118, .unset, .unset, .unset] [(.int 1)] _
    refine XS.istore X165.here hx rfl (hb hby at_188) rfl (l' := #[vi pi1, vi pi2, vi pi3, vi 1, vi 0, vi 0, vr b1, vr b29, vr b63, vr b97, vr b118, vi 1, .unset, .unset]) rfl ?_
    refine XS.aload X165.here hx rfl (hb hby at_190) rfl rfl ?_
    refine XS.iload X165.here hx rfl (hb hby at_192) rfl ?_
    refine st166.trans ?_
    show Stp p e below T166 m 197 #[vi pi1, vi pi2, vi pi3, vi 1, vi 0, vi 0, vr b1, vr b29, vr b63, vr b97, vr b118, vi 1, .unset, .unset] [(.ref b1)] _
    refine XS.iload X166.here hx rfl (hb hby at_197) rfl ?_
    refine XS.aload X166.here hx rfl (hb hby at_199) rfl rfl ?_
    refine XS.aload X166.here hx rfl (hb hby at_201) rfl rfl ?_
    refine XS.aload X166.here hx rfl (hb hby at_203) rfl rfl ?_
    refine st167 _ ?_
    show Stp p e below T167 m 208 #[vi pi1, vi pi2, vi pi3, vi 1, vi 0, vi 0, vr b1, vr b29, vr b63, vr b97, vr b118, vi 1, .unset, .unset] [(.ref b1), (.ref b1)] _
    refine Jvm.RoadKit.acmp (g := (mkF m 208 #[vi pi1, vi pi2, vi pi3, vi 1, vi 0, vi 0, vr b1, vr b29, vr b63, vr b97, vr b118, vi 1, .unset, .unset] [(.ref b1), (.ref b1)])) X167 hx rfl rfl rfl (pc0 := 208) (pc' := 211) (same := true) rfl (hb hby at_208) rfl (decide_eq_true rfl) (by decide) (by decide) ?_
    show Stp p e below T167 m 211 #[vi pi1, vi pi2, vi pi3, vi 1, vi 0, vi 0, vr b1, vr b29, vr b63, vr b97, vr b118, vi 1, .unset, .unset] [] _
    refine XS.iconst X167.here hx rfl (hb hby at_211) ?_
    refine XS.goto X167.here hx rfl (pc0 := 212) (pc' := 216) rfl (hb hby at_212) (by decide) (by decide) ?_
    show Stp p e below T167 m 216 #[vi pi1, vi pi2, vi pi3, vi 1, vi 0, vi 0, vr b1, vr b29, vr b63, vr b97, vr b118, vi 1, .unset, .unset] [(.int 1)] _
    refine XS.istore X167.here hx rfl (hb hby at_216) rfl (l' := #[vi pi1, vi pi2, vi pi3, vi 1, vi 0, vi 0, vr b1, vr b29, vr b63, vr b97, vr b118, vi 1, vi 1, .unset]) rfl ?_
    refine XS.aload X167.here hx rfl (hb hby at_218) rfl rfl ?_
    refine st168.trans ?_
    show Stp p e below T168 m 223 #[vi pi1, vi pi2, vi pi3, vi 1, vi 0, vi 0, vr b1, vr b29, vr b63, vr b97, vr b118, vi 1, vi 1, .unset] [(.ref b142)] _
    refine st170.trans ?_
    show Stp p e below T170 m 228 #[vi pi1, vi pi2, vi pi3, vi 1, vi 0, vi 0, vr b1, vr b29, vr b63, vr b97, vr b118, vi 1, vi 1, .unset] [(.int 1)] _
    refine XS.iloadN X170.here hx rfl (hb hby at_228) rfl ?_
    refine XS.icmpNo X170.here hx rfl (hb hby at_229) rfl (teq (rfl : (1 : Int32) = (1 : Int32))).2 ?_
    show Stp p e below T170 m 232 #[vi pi1, vi pi2, vi pi3, vi 1, vi 0, vi 0, vr b1, vr b29, vr b63, vr b97, vr b118, vi 1, vi 1, .unset] [] _
    refine XS.iconst X170.here hx rfl (hb hby at_232) ?_
    refine XS.goto X170.here hx rfl (pc0 := 233) (pc' := 237) rfl (hb hby at_233) (by decide) (by decide) ?_
    show Stp p e below T170 m 237 #[vi pi1, vi pi2, vi pi3, vi 1, vi 0, vi 0, vr b1, vr b29, vr b63, vr b97, vr b118, vi 1, vi 1, .unset] [(.int 1)] _
    refine XS.istore X170.here hx rfl (hb hby at_237) rfl (l' := #[vi pi1, vi pi2, vi pi3, vi 1, vi 0, vi 0, vr b1, vr b29, vr b63, vr b97, vr b118, vi 1, vi 1, vi 1]) rfl ?_
    refine XS.iload X170.here hx rfl (hb hby at_239) rfl ?_
    refine XS.ifNo X170.here hx rfl (hb hby at_241) rfl ((if0 _ _).trans (feq (by decide : ¬ ((1 : Int32) = (0 : Int32)))).1) ?_
    show Stp p e below T170 m 244 #[vi pi1, vi pi2, vi pi3, vi 1, vi 0, vi 0, vr b1, vr b29, vr b63, vr b97, vr b118, vi 1, vi 1, vi 1] [] _
    refine XS.iload X170.here hx rfl (hb hby at_244) rfl ?_
    refine XS.ifNo X170.here hx rfl (hb hby at_246) rfl ((if0 _ _).trans (feq (by decide : ¬ ((1 : Int32) = (0 : Int32)))).1) ?_
    show Stp p e below T170 m 249 #[vi pi1, vi pi2, vi pi3, vi 1, vi 0, vi 0, vr b1, vr b29, vr b63, vr b97, vr b118, vi 1, vi 1, vi 1] [] _
    refine XS.iload X170.here hx rfl (hb hby at_249) rfl ?_
    refine XS.ifNo X170.here hx rfl (hb hby at_251) rfl ((if0 _ _).trans (feq (by decide : ¬ ((1 : Int32) = (0 : Int32)))).1) ?_
    show Stp p e below T170 m 254 #[vi pi1, vi pi2, vi pi3, vi 1, vi 0, vi 0, vr b1, vr b29, vr b63, vr b97, vr b118, vi 1, vi 1, vi 1] [] _
    refine XS.iconst X170.here hx rfl (hb hby at_254) ?_
    refine XS.goto X170.here hx rfl (pc0 := 255) (pc' := 259) rfl (hb hby at_255) (by decide) (by decide) ?_
    show Stp p e below T170 m 259 #[vi pi1, vi pi2, vi pi3, vi 1, vi 0, vi 0, vr b1, vr b29, vr b63, vr b97, vr b118, vi 1, vi 1, vi 1] [(.int 1)] _
    exact retN X170 hx (t := .boolean) Bd.returns (by simp) (hb hby at_259) hr
  · exact ⟨rfl, N170⟩
set_option maxRecDepth 65536 in
set_option maxHeartbeats 40000000 in
theorem rm0_ftt (l : Launch) (Z : State) (a0 : Array Value) (hw : ∀ d ∈ tables_1, d.before a0 Z = true) (ws : List Jvm.Cond) (pi1 : Int32) (pi2 : Int32) (pi3 : Int32) (w_DEF : Addr) (kk_w_DEF : ClassId) (w_EMPTY : Addr) (w_NOT : Addr) (w_EMPTY_LIST : Addr) (w_AND : Addr) (w_DERIVATIVE : Addr) (w_PLUS : Addr) (w_COMPACT_STRINGS : Int32) (w_mir : Addr) (h0 : Heap) (n0 : Nat) (Z0 : n0 ≤ h0.size) (O0 : Old Z n0 h0) (S_DEFAULTCAPACITY_EMPTY_ELEMENTDATA : Sta Z Z.heap "java/util/ArrayList" "DEFAULTCAPACITY_EMPTY_ELEMENTDATA" "[Ljava/lang/Object;" (.ref w_DEF)) (V_w_DEF : Arv Z Z.heap w_DEF kk_w_DEF (.object "java/lang/Object") (0 : Int32) [] .null) (S_EMPTY : Sta Z Z.heap "java/util/ImmutableCollections" "EMPTY" "Ljava/lang/Object;" (.ref w_EMPTY)) (E_w_EMPTY : Exa Z Z.heap w_EMPTY "java/lang/Object") (S_NOT : Sta Z Z.heap "com/example/tyche/tyche/model/jani/Operator" "NOT" "Lcom/example/tyche/tyche/model/jani/Operator;" (.ref w_NOT)) (S_EMPTY_LIST : Sta Z Z.heap "java/util/ImmutableCollections" "EMPTY_LIST" "Ljava/util/ImmutableCollections$ListN;" (.ref w_EMPTY_LIST)) (S_AND : Sta Z Z.heap "com/example/tyche/tyche/model/jani/Operator" "AND" "Lcom/example/tyche/tyche/model/jani/Operator;" (.ref w_AND)) (S_DERIVATIVE : Sta Z Z.heap "com/example/tyche/tyche/model/jani/Operator" "DERIVATIVE" "Lcom/example/tyche/tyche/model/jani/Operator;" (.ref w_DERIVATIVE)) (S_PLUS : Sta Z Z.heap "com/example/tyche/tyche/model/jani/Operator" "PLUS" "Lcom/example/tyche/tyche/model/jani/Operator;" (.ref w_PLUS)) (S_COMPACT_STRINGS : Sta Z Z.heap "java/lang/String" "COMPACT_STRINGS" "Z" (.int w_COMPACT_STRINGS)) (hCS : ¬ (w_COMPACT_STRINGS = (0 : Int32))) (M_mir : Mir Z "[Ljava/lang/Object;" w_mir) (hc8_0 : ¬ (((1 : Int32) + ((pi1 &&& (2147483647 : Int32)) % (3 : Int32))) = (1 : Int32))) (hc8_1 : ((1 : Int32) + ((pi1 &&& (2147483647 : Int32)) % (3 : Int32))) = (2 : Int32)) (hc15_2 : ((pi2 &&& (2147483647 : Int32)) % (2 : Int32)) = (0 : Int32)) :
    MetFree l x (head1 (Jvm.Cond.code x code maxLocals ret :: ws) room_1) (fun a U => a = #[(.int pi1), (.int pi2), (.int pi3)] ∧ Z.Warmed39 U.vm ∧ U.heap = h0) (fun _ _ _ _ _ => True) (fun _ U o U' => ∃ v L, o = .returned v ∧ Q0 v L n0 ∧ ReturnedEndW U o U' L room_1.cells room_1.slots) := by
  refine MetFree.of_bodySF (plainFor_of_name pn_0) hisR ?_
  intro p e s m args below meth c s₁ Bd hml0 hP hK
  obtain ⟨rfl, hZ, hh⟩ := hP
  have hx := Bd.exec
  have hby := Bd.bytes
  have hml : c.maxLocals = 14 := hml0
  have hown : s.vm.findClass "com/example/tyche/tyche/model/jani/OperationOperandPinLaw" = some m.cls := findClass_of_methodNamed Bd.named
  have hnm := (name_of_methodNamed Bd.named Bd.method).1
  have X0 : Stand p l e room_1 s m #[(.int pi1), (.int pi2), (.int pi3)] below meth c s₁ [] 0 0 := Stand.of_body Bd
  have e0 : s₁.heap = h0 := by rw [← hh, Bd.state]; rfl
  have N0 := Fr.nil n0
  have pre0 : ∀ t, Steps p.tables e below (s₁.setTop (mkF m 0 #[vi pi1, vi pi2, vi pi3, .unset, .unset, .unset, .unset, .unset, .unset, .unset, .unset, .unset, .unset, .unset] [])) t → Steps p.tables e below (s₁.setTop (entryFrame m #[(.int pi1), (.int pi2), (.int pi3)] maxLocals)) t := fun t k => castTop (ef_0 m pi1 pi2 pi3) k
  obtain ⟨T1, h1, X1, e1, E1, A1, D1, -, st1⟩ := newO X0 hx hZ hown (own_W hw 1 rfl) (own_W hw 2 rfl) (own_W hw 3 rfl) e0 (g := (mkF m 25 #[vi pi1, vi pi2, vi pi3, vi 2, vi 0, vi 1, .unset, .unset, .unset, .unset, .unset, .unset, .unset, .unset] [])) rfl (hb hby at_25) (by decide) (by decide)
  obtain ⟨b1, g1⟩ : ∃ z, z = h0.size := ⟨_, rfl⟩
  rw [← g1] at A1 D1 st1
  have F_operator_b1 : Fld Z h1 b1 "com/example/tyche/tyche/model/jani/Expression$Operation" "operator" "Lcom/example/tyche/tyche/model/jani/Operator;" .null := D1 (Or.inr (own_W hw 80 rfl)) (ty := (.object "com/example/tyche/tyche/model/jani/Operator")) (by decide)
  have F_operands_b1 : Fld Z h1 b1 "com/example/tyche/tyche/model/jani/Expression$Operation" "operands" "Ljava/util/List;" .null := D1 (Or.inr (own_W hw 82 rfl)) (ty := (.object "java/util/List")) (by decide)
  have F_path_b1 : Fld Z h1 b1 "com/example/tyche/tyche/model/jani/Expression$Operation" "path" "Ljava/lang/String;" .null := D1 (Or.inr (own_W hw 84 rfl)) (ty := (.object "java/lang/String")) (by decide)
  have o3 := O0.ext E1
  obtain ⟨T2, X2, e2, st2⟩ := getS2 X1 hx hZ hown (host := "") (Or.inl (own_W hw 4 rfl)) Via.refl e1 (S_NOT.ext o3.2) (g := (mkF m 29 #[vi pi1, vi pi2, vi pi3, vi 2, vi 0, vi 1, .unset, .unset, .unset, .unset, .unset, .unset, .unset, .unset] [(.ref b1), (.ref b1)])) rfl (hb hby at_29)
  obtain ⟨T4, h4, X4, e4, E4, A4, D4, -, st4⟩ := newO X2 hx hZ hown (own_W hw 7 rfl) (own_W hw 8 rfl) (own_W hw 9 rfl) e2 (g := (mkF m 32 #[vi pi1, vi pi2, vi pi3, vi 2, vi 0, vi 1, .unset, .unset, .unset, .unset, .unset, .unset, .unset, .unset] [(.ref w_NOT), (.ref b1), (.ref b1)])) rfl (hb hby at_32) (by decide) (by decide)
  obtain ⟨b4, g4⟩ : ∃ z, z = h1.size := ⟨_, rfl⟩
  rw [← g4] at A4 D4 st4
  have F_modCount_b4 : Fld Z h4 b4 "java/util/AbstractList" "modCount" "I" (.int 0) := D4 (Or.inl (own_W hw 29 rfl)) (ty := .int) (by decide)
  have F_elementData_b4 : Fld Z h4 b4 "java/util/ArrayList" "elementData" "[Ljava/lang/Object;" .null := D4 (Or.inl (own_W hw 32 rfl)) (ty := (.array (.object "java/lang/Object"))) (by decide)
  have F_size_b4 : Fld Z h4 b4 "java/util/ArrayList" "size" "I" (.int 0) := D4 (Or.inl (own_W hw 74 rfl)) (ty := .int) (by decide)
  have z5 := Nat.le_trans Z0 E1.1
  have g_b4 : n0 ≤ b4 := Nat.le_trans z5 (Nat.le_of_eq g4.symm)
  have z7 := Nat.le_trans z5 E4.1
  have o8 := o3.ext E4
  obtain ⟨_, _, ⟨T6, L6, k6, n6⟩, -, X6, ⟨Lc6, hQ6, l6, y6, z6⟩, st6⟩ := X4.specialBack hx (y := mN2) rfl hown (mvT hZ (own_W hw 10 rfl)) (mvT hZ (own_W hw 11 rfl)) (mvT hZ (own_W hw 12 rfl)) (by decide) (backOf (W := 4) (rm1 l Z a0 hw [] b4 w_DEF (.int 0) .null (.int 0) h4 n0 z7 o8 A4 S_DEFAULTCAPACITY_EMPTY_ELEMENTDATA F_modCount_b4 F_elementData_b4 F_size_b4 g_b4) hZ (own_W hw 12 rfl) (own_W hw 9 rfl) (by decide) (by decide)) (g := (mkF m 36 #[vi pi1, vi pi2, vi pi3, vi 2, vi 0, vi 1, .unset, .unset, .unset, .unset, .unset, .unset, .unset, .unset] [(.ref b4), (.ref b4), (.ref w_NOT), (.ref b1), (.ref b1)])) rfl (by rw [hml]; rfl) (Steps.refl _) (a := b4) (argsL := []) (rest := [(.ref b4), (.ref w_NOT), (.ref b1), (.ref b1)]) (lenOf pd_0 rfl) rfl (by show 2 * 0 + _ ≤ _; exact Nat.le_of_eq rfl) (hb hby at_36) (fun _ _ => ⟨rfl, e4, (by decide : 2 + 0 ≤ _), (by decide : 6 + 0 ≤ _)⟩)
  dsimp only [Pt.U, Pt.locs, Pt.cells, Pt.slots] at X6 l6 y6 z6 st6 hQ6
  subst l6 y6 z6
  obtain ⟨rfl, N6q, K6, qf6_0, qf6_1, qf6_2, qf6_3⟩ := hQ6
  have N6 := Fr.app N0 N6q
  obtain ⟨sa9, T9, h9, ks9, X9, e9, E9, hS9, hk9, hZ9, hown9, st9⟩ := ldcS (show Stand p l e room_1 (s.setVm s.vm) m _ below meth c T6 _ _ _ from X6) hx hZ hown (own_W hw 33 rfl) (own_wS hw) rfl (own_since0 s) (Nat.zero_le _) (g := (mkF m 39 #[vi pi1, vi pi2, vi pi3, vi 2, vi 0, vi 1, .unset, .unset, .unset, .unset, .unset, .unset, .unset, .unset] [(.ref b4), (.ref w_NOT), (.ref b1), (.ref b1)])) rfl (hb hby at_39) (n := 4) (by decide) (by decide) (by decide) (by decide)
  have f10 := A1.ext E4
  have f11 := f10.keep K6
  have f12 := f11.ext E9
  have f13 := qf6_0.ext E9
  have f14 := qf6_3.ext E9
  have f15 := F_operator_b1.ext E4
  have f16 := f15.keep K6 (ninS (Nat.ne_of_lt (Nat.lt_of_lt_of_le F_path_b1.lt (Nat.le_of_eq g4.symm))) nin0)
  have f17 := f16.ext E9
  have g_b1 : n0 ≤ b1 := Nat.le_trans Z0 (Nat.le_of_eq g1.symm)
  have f18 := F_operands_b1.ext E4
  have f19 := f18.keep K6 (ninS (Nat.ne_of_lt (Nat.lt_of_lt_of_le F_path_b1.lt (Nat.le_of_eq g4.symm))) nin0)
  have f20 := f19.ext E9
  have f21 := F_path_b1.ext E4
  have f22 := f21.keep K6 (ninS (Nat.ne_of_lt (Nat.lt_of_lt_of_le F_path_b1.lt (Nat.le_of_eq g4.symm))) nin0)
  have f23 := f22.ext E9
  have z25 := Nat.le_trans z7 K6.1
  have z26 := Nat.le_trans z25 E9.1
  have o27 := o8.keep K6 (allS g_b4 all0)
  have o28 := o27.ext E9
  obtain ⟨_, _, ⟨T24, L24, k24, n24⟩, -, X24, ⟨Lc24, hQ24, l24, y24, z24⟩, st24⟩ := X9.specialBack hx (y := mN27) rfl hown9 (mvT hZ9 (own_W hw 41 rfl)) (mvT hZ9 (own_W hw 42 rfl)) (mvT hZ9 (own_W hw 43 rfl)) (by decide) (backOf (W := 1) (rm5_0 l Z a0 hw [] b1 w_NOT b4 sa9 w_EMPTY_LIST .null .null .null h9 n0 z26 o28 f12 f13 f14 S_EMPTY_LIST f17 g_b1 f20 f23) hZ9 (own_W hw 43 rfl) (own_W hw 3 rfl) (by decide) (by decide)) (g := (mkF m 41 #[vi pi1, vi pi2, vi pi3, vi 2, vi 0, vi 1, .unset, .unset, .unset, .unset, .unset, .unset, .unset, .unset] [(.ref sa9), (.ref b4), (.ref w_NOT), (.ref b1), (.ref b1)])) rfl (by rw [hml]; rfl) (Steps.refl _) (a := b1) (argsL := [(.ref w_NOT), (.ref b4), (.ref sa9)]) (rest := [(.ref b1)]) (lenOf pd_1 rfl) rfl (by show 2 * 0 + _ ≤ _; exact Nat.le_of_eq rfl) (hb hby at_41) (fun _ _ => ⟨rfl, e9, (by decide : 4 + 0 ≤ _), (by decide : 14 + 0 ≤ _)⟩)
  dsimp only [Pt.U, Pt.locs, Pt.cells, Pt.slots] at X24 l24 y24 z24 st24 hQ24
  subst l24 y24 z24
  obtain ⟨rfl, N24q, K24, qf24_0, qf24_1, qf24_2, qf24_3⟩ := hQ24
  have N24 := Fr.app N6 N24q
  obtain ⟨T29, h29, X29, e29, E29, A29, D29, -, st29⟩ := newO X24 hx hZ9 hown9 (own_W hw 1 rfl) (own_W hw 2 rfl) (own_W hw 3 rfl) rfl (g := (mkF m 46 #[vi pi1, vi pi2, vi pi3, vi 2, vi 0, vi 1, vr b1, .unset, .unset, .unset, .unset, .unset, .unset, .unset] [])) rfl (hb hby at_46) (by decide) (by decide)
  obtain ⟨b29, g29⟩ : ∃ z, z = T24.heap.size := ⟨_, rfl⟩
  rw [← g29] at A29 D29 st29
  have F_operator_b29 : Fld Z h29 b29 "com/example/tyche/tyche/model/jani/Expression$Operation" "operator" "Lcom/example/tyche/tyche/model/jani/Operator;" .null := D29 (Or.inr (own_W hw 80 rfl)) (ty := (.object "com/example/tyche/tyche/model/jani/Operator")) (by decide)
  have F_operands_b29 : Fld Z h29 b29 "com/example/tyche/tyche/model/jani/Expression$Operation" "operands" "Ljava/util/List;" .null := D29 (Or.inr (own_W hw 82 rfl)) (ty := (.object "java/util/List")) (by decide)
  have F_path_b29 : Fld Z h29 b29 "com/example/tyche/tyche/model/jani/Expression$Operation" "path" "Ljava/lang/String;" .null := D29 (Or.inr (own_W hw 84 rfl)) (ty := (.object "java/lang/String")) (by decide)
  have o31 := o28.keep K24 (allS g_b1 all0)
  have o32 := o31.ext E29
  obtain ⟨T30, X30, e30, st30⟩ := getS2 X29 hx hZ9 hown9 (host := "") (Or.inl (own_W hw 85 rfl)) Via.refl e29 (S_AND.ext o32.2) (g := (mkF m 50 #[vi pi1, vi pi2, vi pi3, vi 2, vi 0, vi 1, vr b1, .unset, .unset, .unset, .unset, .unset, .unset, .unset] [(.ref b29), (.ref b29)])) rfl (hb hby at_50)
  obtain ⟨T33, h33, X33, e33, E33, A33, D33, -, st33⟩ := newO X30 hx hZ9 hown9 (own_W hw 7 rfl) (own_W hw 8 rfl) (own_W hw 9 rfl) e30 (g := (mkF m 53 #[vi pi1, vi pi2, vi pi3, vi 2, vi 0, vi 1, vr b1, .unset, .unset, .unset, .unset, .unset, .unset, .unset] [(.ref w_AND), (.ref b29), (.ref b29)])) rfl (hb hby at_53) (by decide) (by decide)
  obtain ⟨b33, g33⟩ : ∃ z, z = h29.size := ⟨_, rfl⟩
  rw [← g33] at A33 D33 st33
  have F_modCount_b33 : Fld Z h33 b33 "java/util/AbstractList" "modCount" "I" (.int 0) := D33 (Or.inl (own_W hw 29 rfl)) (ty := .int) (by decide)
  have F_elementData_b33 : Fld Z h33 b33 "java/util/ArrayList" "elementData" "[Ljava/lang/Object;" .null := D33 (Or.inl (own_W hw 32 rfl)) (ty := (.array (.object "java/lang/Object"))) (by decide)
  have F_size_b33 : Fld Z h33 b33 "java/util/ArrayList" "size" "I" (.int 0) := D33 (Or.inl (own_W hw 74 rfl)) (ty := .int) (by decide)
  have z34 := Nat.le_trans z26 K24.1
  have z35 := Nat.le_trans z34 E29.1
  have g_b33 : n0 ≤ b33 := Nat.le_trans z35 (Nat.le_of_eq g33.symm)
  have z37 := Nat.le_trans z35 E33.1
  have o38 := o32.ext E33
  obtain ⟨_, _, ⟨T36, L36, k36, n36⟩, -, X36, ⟨Lc36, hQ36, l36, y36, z36⟩, st36⟩ := X33.specialBack hx (y := mN2) rfl hown9 (mvT hZ9 (own_W hw 10 rfl)) (mvT hZ9 (own_W hw 11 rfl)) (mvT hZ9 (own_W hw 12 rfl)) (by decide) (backOf (W := 4) (rm1 l Z a0 hw [] b33 w_DEF (.int 0) .null (.int 0) h33 n0 z37 o38 A33 S_DEFAULTCAPACITY_EMPTY_ELEMENTDATA F_modCount_b33 F_elementData_b33 F_size_b33 g_b33) hZ9 (own_W hw 12 rfl) (own_W hw 9 rfl) (by decide) (by decide)) (g := (mkF m 57 #[vi pi1, vi pi2, vi pi3, vi 2, vi 0, vi 1, vr b1, .unset, .unset, .unset, .unset, .unset, .unset, .unset] [(.ref b33), (.ref b33), (.ref w_AND), (.ref b29), (.ref b29)])) rfl (by rw [hml]; rfl) (Steps.refl _) (a := b33) (argsL := []) (rest := [(.ref b33), (.ref w_AND), (.ref b29), (.ref b29)]) (lenOf pd_0 rfl) rfl (by show 2 * 0 + _ ≤ _; exact Nat.le_of_eq rfl) (hb hby at_57) (fun _ _ => ⟨rfl, e33, (by decide : 6 + 0 ≤ _), (by decide : 20 + 0 ≤ _)⟩)
  dsimp only [Pt.U, Pt.locs, Pt.cells, Pt.slots] at X36 l36 y36 z36 st36 hQ36
  subst l36 y36 z36
  obtain ⟨rfl, N36q, K36, qf36_0, qf36_1, qf36_2, qf36_3⟩ := hQ36
  have N36 := Fr.app N24 N36q
  have y40 := Nat.le_trans hk9 K24.1
  have y41 := Nat.le_trans y40 E29.1
  have y42 := Nat.le_trans y41 E33.1
  have y43 := Nat.le_trans y42 K36.1
  obtain ⟨sa39, T39, h39, ks39, X39, e39, E39, hS39, hk39, hZ39, hown39, st39⟩ := ldcS X36 hx hZ9 hown9 (own_W hw 87 rfl) (own_wS hw) rfl hS9 y43 (g := (mkF m 60 #[vi pi1, vi pi2, vi pi3, vi 2, vi 0, vi 1, vr b1, .unset, .unset, .unset, .unset, .unset, .unset, .unset] [(.ref b33), (.ref w_AND), (.ref b29), (.ref b29)])) rfl (hb hby at_60) (n := 4) (by decide) (by decide) (by decide) (by decide)
  have f44 := A29.ext E33
  have f45 := f44.keep K36
  have f46 := f45.ext E39
  have f47 := qf36_0.ext E39
  have f48 := qf36_3.ext E39
  have f49 := F_operator_b29.ext E33
  have f50 := f49.keep K36 (ninS (Nat.ne_of_lt (Nat.lt_of_lt_of_le F_path_b29.lt (Nat.le_of_eq g33.symm))) nin0)
  have f51 := f50.ext E39
  have g_b29 : n0 ≤ b29 := Nat.le_trans z34 (Nat.le_of_eq g29.symm)
  have f52 := F_operands_b29.ext E33
  have f53 := f52.keep K36 (ninS (Nat.ne_of_lt (Nat.lt_of_lt_of_le F_path_b29.lt (Nat.le_of_eq g33.symm))) nin0)
  have f54 := f53.ext E39
  have f55 := F_path_b29.ext E33
  have f56 := f55.keep K36 (ninS (Nat.ne_of_lt (Nat.lt_of_lt_of_le F_path_b29.lt (Nat.le_of_eq g33.symm))) nin0)
  have f57 := f56.ext E39
  have z59 := Nat.le_trans z37 K36.1
  have z60 := Nat.le_trans z59 E39.1
  have o61 := o38.keep K36 (allS g_b33 all0)
  have o62 := o61.ext E39
  obtain ⟨_, _, ⟨T58, L58, k58, n58⟩, -, X58, ⟨Lc58, hQ58, l58, y58, z58⟩, st58⟩ := X39.specialBack hx (y := mN27) rfl hown39 (mvT hZ39 (own_W hw 41 rfl)) (mvT hZ39 (own_W hw 42 rfl)) (mvT hZ39 (own_W hw 43 rfl)) (by decide) (backOf (W := 1) (rm5_0 l Z a0 hw [] b29 w_AND b33 sa39 w_EMPTY_LIST .null .null .null h39 n0 z60 o62 f46 f47 f48 S_EMPTY_LIST f51 g_b29 f54 f57) hZ39 (own_W hw 43 rfl) (own_W hw 3 rfl) (by decide) (by decide)) (g := (mkF m 62 #[vi pi1, vi pi2, vi pi3, vi 2, vi 0, vi 1, vr b1, .unset, .unset, .unset, .unset, .unset, .unset, .unset] [(.ref sa39), (.ref b33), (.ref w_AND), (.ref b29), (.ref b29)])) rfl (by rw [hml]; rfl) (Steps.refl _) (a := b29) (argsL := [(.ref w_AND), (.ref b33), (.ref sa39)]) (rest := [(.ref b29)]) (lenOf pd_1 rfl) rfl (by show 2 * 0 + _ ≤ _; exact Nat.le_of_eq rfl) (hb hby at_62) (fun _ _ => ⟨rfl, e39, (by decide : 8 + 0 ≤ _), (by decide : 28 + 0 ≤ _)⟩)
  dsimp only [Pt.U, Pt.locs, Pt.cells, Pt.slots] at X58 l58 y58 z58 st58 hQ58
  subst l58 y58 z58
  obtain ⟨rfl, N58q, K58, qf58_0, qf58_1, qf58_2, qf58_3⟩ := hQ58
  have N58 := Fr.app N36 N58q
  obtain ⟨T63, h63, X63, e63, E63, A63, D63, -, st63⟩ := newO X58 hx hZ39 hown39 (own_W hw 1 rfl) (own_W hw 2 rfl) (own_W hw 3 rfl) rfl (g := (mkF m 67 #[vi pi1, vi pi2, vi pi3, vi 2, vi 0, vi 1, vr b1, vr b29, .unset, .unset, .unset, .unset, .unset, .unset] [])) rfl (hb hby at_67) (by decide) (by decide)
  obtain ⟨b63, g63⟩ : ∃ z, z = T58.heap.size := ⟨_, rfl⟩
  rw [← g63] at A63 D63 st63
  have F_operator_b63 : Fld Z h63 b63 "com/example/tyche/tyche/model/jani/Expression$Operation" "operator" "Lcom/example/tyche/tyche/model/jani/Operator;" .null := D63 (Or.inr (own_W hw 80 rfl)) (ty := (.object "com/example/tyche/tyche/model/jani/Operator")) (by decide)
  have F_operands_b63 : Fld Z h63 b63 "com/example/tyche/tyche/model/jani/Expression$Operation" "operands" "Ljava/util/List;" .null := D63 (Or.inr (own_W hw 82 rfl)) (ty := (.object "java/util/List")) (by decide)
  have F_path_b63 : Fld Z h63 b63 "com/example/tyche/tyche/model/jani/Expression$Operation" "path" "Ljava/lang/String;" .null := D63 (Or.inr (own_W hw 84 rfl)) (ty := (.object "java/lang/String")) (by decide)
  have o65 := o62.keep K58 (allS g_b29 all0)
  have o66 := o65.ext E63
  obtain ⟨T64, X64, e64, st64⟩ := getS2 X63 hx hZ39 hown39 (host := "") (Or.inl (own_W hw 88 rfl)) Via.refl e63 (S_DERIVATIVE.ext o66.2) (g := (mkF m 71 #[vi pi1, vi pi2, vi pi3, vi 2, vi 0, vi 1, vr b1, vr b29, .unset, .unset, .unset, .unset, .unset, .unset] [(.ref b63), (.ref b63)])) rfl (hb hby at_71)
  obtain ⟨T67, h67, X67, e67, E67, A67, D67, -, st67⟩ := newO X64 hx hZ39 hown39 (own_W hw 7 rfl) (own_W hw 8 rfl) (own_W hw 9 rfl) e64 (g := (mkF m 74 #[vi pi1, vi pi2, vi pi3, vi 2, vi 0, vi 1, vr b1, vr b29, .unset, .unset, .unset, .unset, .unset, .unset] [(.ref w_DERIVATIVE), (.ref b63), (.ref b63)])) rfl (hb hby at_74) (by decide) (by decide)
  obtain ⟨b67, g67⟩ : ∃ z, z = h63.size := ⟨_, rfl⟩
  rw [← g67] at A67 D67 st67
  have F_modCount_b67 : Fld Z h67 b67 "java/util/AbstractList" "modCount" "I" (.int 0) := D67 (Or.inl (own_W hw 29 rfl)) (ty := .int) (by decide)
  have F_elementData_b67 : Fld Z h67 b67 "java/util/ArrayList" "elementData" "[Ljava/lang/Object;" .null := D67 (Or.inl (own_W hw 32 rfl)) (ty := (.array (.object "java/lang/Object"))) (by decide)
  have F_size_b67 : Fld Z h67 b67 "java/util/ArrayList" "size" "I" (.int 0) := D67 (Or.inl (own_W hw 74 rfl)) (ty := .int) (by decide)
  have z68 := Nat.le_trans z60 K58.1
  have z69 := Nat.le_trans z68 E63.1
  have g_b67 : n0 ≤ b67 := Nat.le_trans z69 (Nat.le_of_eq g67.symm)
  have z71 := Nat.le_trans z69 E67.1
  have o72 := o66.ext E67
  obtain ⟨_, _, ⟨T70, L70, k70, n70⟩, -, X70, ⟨Lc70, hQ70, l70, y70, z70⟩, st70⟩ := X67.specialBack hx (y := mN2) rfl hown39 (mvT hZ39 (own_W hw 10 rfl)) (mvT hZ39 (own_W hw 11 rfl)) (mvT hZ39 (own_W hw 12 rfl)) (by decide) (backOf (W := 4) (rm1 l Z a0 hw [] b67 w_DEF (.int 0) .null (.int 0) h67 n0 z71 o72 A67 S_DEFAULTCAPACITY_EMPTY_ELEMENTDATA F_modCount_b67 F_elementData_b67 F_size_b67 g_b67) hZ39 (own_W hw 12 rfl) (own_W hw 9 rfl) (by decide) (by decide)) (g := (mkF m 78 #[vi pi1, vi pi2, vi pi3, vi 2, vi 0, vi 1, vr b1, vr b29, .unset, .unset, .unset, .unset, .unset, .unset] [(.ref b67), (.ref b67), (.ref w_DERIVATIVE), (.ref b63), (.ref b63)])) rfl (by rw [hml]; rfl) (Steps.refl _) (a := b67) (argsL := []) (rest := [(.ref b67), (.ref w_DERIVATIVE), (.ref b63), (.ref b63)]) (lenOf pd_0 rfl) rfl (by show 2 * 0 + _ ≤ _; exact Nat.le_of_eq rfl) (hb hby at_78) (fun _ _ => ⟨rfl, e67, (by decide : 10 + 0 ≤ _), (by decide : 34 + 0 ≤ _)⟩)
  dsimp only [Pt.U, Pt.locs, Pt.cells, Pt.slots] at X70 l70 y70 z70 st70 hQ70
  subst l70 y70 z70
  obtain ⟨rfl, N70q, K70, qf70_0, qf70_1, qf70_2, qf70_3⟩ := hQ70
  have N70 := Fr.app N58 N70q
  have y74 := Nat.le_trans hk39 K58.1
  have y75 := Nat.le_trans y74 E63.1
  have y76 := Nat.le_trans y75 E67.1
  have y77 := Nat.le_trans y76 K70.1
  obtain ⟨sa73, T73, h73, ks73, X73, e73, E73, hS73, hk73, hZ73, hown73, st73⟩ := ldcS X70 hx hZ39 hown39 (own_W hw 90 rfl) (own_wS hw) rfl hS39 y77 (g := (mkF m 81 #[vi pi1, vi pi2, vi pi3, vi 2, vi 0, vi 1, vr b1, vr b29, .unset, .unset, .unset, .unset, .unset, .unset] [(.ref b67), (.ref w_DERIVATIVE), (.ref b63), (.ref b63)])) rfl (hb hby at_81) (n := 4) (by decide) (by decide) (by decide) (by decide)
  have f78 := A63.ext E67
  have f79 := f78.keep K70
  have f80 := f79.ext E73
  have f81 := qf70_0.ext E73
  have f82 := qf70_3.ext E73
  have f83 := F_operator_b63.ext E67
  have f84 := f83.keep K70 (ninS (Nat.ne_of_lt (Nat.lt_of_lt_of_le F_path_b63.lt (Nat.le_of_eq g67.symm))) nin0)
  have f85 := f84.ext E73
  have g_b63 : n0 ≤ b63 := Nat.le_trans z68 (Nat.le_of_eq g63.symm)
  have f86 := F_operands_b63.ext E67
  have f87 := f86.keep K70 (ninS (Nat.ne_of_lt (Nat.lt_of_lt_of_le F_path_b63.lt (Nat.le_of_eq g67.symm))) nin0)
  have f88 := f87.ext E73
  have f89 := F_path_b63.ext E67
  have f90 := f89.keep K70 (ninS (Nat.ne_of_lt (Nat.lt_of_lt_of_le F_path_b63.lt (Nat.le_of_eq g67.symm))) nin0)
  have f91 := f90.ext E73
  have z93 := Nat.le_trans z71 K70.1
  have z94 := Nat.le_trans z93 E73.1
  have o95 := o72.keep K70 (allS g_b67 all0)
  have o96 := o95.ext E73
  obtain ⟨_, _, ⟨T92, L92, k92, n92⟩, -, X92, ⟨Lc92, hQ92, l92, y92, z92⟩, st92⟩ := X73.specialBack hx (y := mN27) rfl hown73 (mvT hZ73 (own_W hw 41 rfl)) (mvT hZ73 (own_W hw 42 rfl)) (mvT hZ73 (own_W hw 43 rfl)) (by decide) (backOf (W := 1) (rm5_0 l Z a0 hw [] b63 w_DERIVATIVE b67 sa73 w_EMPTY_LIST .null .null .null h73 n0 z94 o96 f80 f81 f82 S_EMPTY_LIST f85 g_b63 f88 f91) hZ73 (own_W hw 43 rfl) (own_W hw 3 rfl) (by decide) (by decide)) (g := (mkF m 83 #[vi pi1, vi pi2, vi pi3, vi 2, vi 0, vi 1, vr b1, vr b29, .unset, .unset, .unset, .unset, .unset, .unset] [(.ref sa73), (.ref b67), (.ref w_DERIVATIVE), (.ref b63), (.ref b63)])) rfl (by rw [hml]; rfl) (Steps.refl _) (a := b63) (argsL := [(.ref w_DERIVATIVE), (.ref b67), (.ref sa73)]) (rest := [(.ref b63)]) (lenOf pd_1 rfl) rfl (by show 2 * 0 + _ ≤ _; exact Nat.le_of_eq rfl) (hb hby at_83) (fun _ _ => ⟨rfl, e73, (by decide : 12 + 0 ≤ _), (by decide : 42 + 0 ≤ _)⟩)
  dsimp only [Pt.U, Pt.locs, Pt.cells, Pt.slots] at X92 l92 y92 z92 st92 hQ92
  subst l92 y92 z92
  obtain ⟨rfl, N92q, K92, qf92_0, qf92_1, qf92_2, qf92_3⟩ := hQ92
  have N92 := Fr.app N70 N92q
  obtain ⟨T97, h97, X97, e97, E97, A97, D97, -, st97⟩ := newO X92 hx hZ73 hown73 (own_W hw 7 rfl) (own_W hw 8 rfl) (own_W hw 9 rfl) rfl (g := (mkF m 88 #[vi pi1, vi pi2, vi pi3, vi 2, vi 0, vi 1, vr b1, vr b29, vr b63, .unset, .unset, .unset, .unset, .unset] [])) rfl (hb hby at_88) (by decide) (by decide)
  obtain ⟨b97, g97⟩ : ∃ z, z = T92.heap.size := ⟨_, rfl⟩
  rw [← g97] at A97 D97 st97
  have F_modCount_b97 : Fld Z h97 b97 "java/util/AbstractList" "modCount" "I" (.int 0) := D97 (Or.inl (own_W hw 29 rfl)) (ty := .int) (by decide)
  have F_elementData_b97 : Fld Z h97 b97 "java/util/ArrayList" "elementData" "[Ljava/lang/Object;" .null := D97 (Or.inl (own_W hw 32 rfl)) (ty := (.array (.object "java/lang/Object"))) (by decide)
  have F_size_b97 : Fld Z h97 b97 "java/util/ArrayList" "size" "I" (.int 0) := D97 (Or.inl (own_W hw 74 rfl)) (ty := .int) (by decide)
  have z98 := Nat.le_trans z94 K92.1
  have g_b97 : n0 ≤ b97 := Nat.le_trans z98 (Nat.le_of_eq g97.symm)
  have z100 := Nat.le_trans z98 E97.1
  have o101 := o96.keep K92 (allS g_b63 all0)
  have o102 := o101.ext E97
  obtain ⟨_, _, ⟨T99, L99, k99, n99⟩, -, X99, ⟨Lc99, hQ99, l99, y99, z99⟩, st99⟩ := X97.specialBack hx (y := mN2) rfl hown73 (mvT hZ73 (own_W hw 10 rfl)) (mvT hZ73 (own_W hw 11 rfl)) (mvT hZ73 (own_W hw 12 rfl)) (by decide) (backOf (W := 1) (rm1 l Z a0 hw [] b97 w_DEF (.int 0) .null (.int 0) h97 n0 z100 o102 A97 S_DEFAULTCAPACITY_EMPTY_ELEMENTDATA F_modCount_b97 F_elementData_b97 F_size_b97 g_b97) hZ73 (own_W hw 12 rfl) (own_W hw 9 rfl) (by decide) (by decide)) (g := (mkF m 92 #[vi pi1, vi pi2, vi pi3, vi 2, vi 0, vi 1, vr b1, vr b29, vr b63, .unset, .unset, .unset, .unset, .unset] [(.ref b97), (.ref b97)])) rfl (by rw [hml]; rfl) (Steps.refl _) (a := b97) (argsL := []) (rest := [(.ref b97)]) (lenOf pd_0 rfl) rfl (by show 2 * 0 + _ ≤ _; exact Nat.le_of_eq rfl) (hb hby at_92) (fun _ _ => ⟨rfl, e97, (by decide : 13 + 0 ≤ _), (by decide : 45 + 0 ≤ _)⟩)
  dsimp only [Pt.U, Pt.locs, Pt.cells, Pt.slots] at X99 l99 y99 z99 st99 hQ99
  subst l99 y99 z99
  obtain ⟨rfl, N99q, K99, qf99_0, qf99_1, qf99_2, qf99_3⟩ := hQ99
  have N99 := Fr.app N92 N99q
  have f103 := qf24_0.ext E29
  have f104 := f103.ext E33
  have f105 := f104.keep K36
  have f106 := f105.ext E39
  have f107 := f106.keep K58
  have f108 := f107.ext E63
  have f109 := f108.ext E67
  have f110 := f109.keep K70
  have f111 := f110.ext E73
  have f112 := f111.keep K92
  have f113 := f112.ext E97
  have f114 := f113.keep K99
  have z116 := Nat.le_trans z100 K99.1
  have o117 := o102.keep K99 (allS g_b97 all0)
  obtain ⟨cq115, kq115, q115a, q115b, q115c⟩ := isOf hZ73 rfl qf99_0
  obtain ⟨_, _, ⟨T115, L115, k115, n115⟩, -, X115, ⟨Lc115, hQ115, l115, y115, z115⟩, st115⟩ := X99.virtualBack hx (y := mN7) (z := mN7) hown73 (mvT hZ73 (own_W hw 91 rfl)) (mvT hZ73 (own_W hw 92 rfl)) (notFace_of_selects (args := #[]) (mvT hZ73 (own_W hw 94 rfl))) (mvT hZ73 (own_W hw 94 rfl)) (mvT hZ73 (own_W hw 93 rfl)) (by decide) (backOf (W := 0) (rm11_0 l Z a0 hw [] b97 b1 w_DEF kk_w_DEF (0 : Int32) T99.heap n0 z116 o117 qf99_0 f114 S_DEFAULTCAPACITY_EMPTY_ELEMENTDATA V_w_DEF qf99_1 qf99_2 qf99_3 g_b97) hZ73 (own_W hw 95 rfl) (own_W hw 9 rfl) (by decide) (by decide)) q115a q115c (g := (mkF m 101 #[vi pi1, vi pi2, vi pi3, vi 2, vi 0, vi 1, vr b1, vr b29, vr b63, vr b97, .unset, .unset, .unset, .unset] [(.ref b1), (.ref b97)])) rfl (by rw [hml]; rfl) (Steps.refl _) (argsL := [(.ref b1)]) (rest := []) (lenOf pd_5 rfl) rfl (by show 2 * 0 + _ ≤ _; exact Nat.le_of_eq rfl) (hb hby at_101) (fun _ _ => ⟨rfl, rfl, (by decide : 13 + 1 ≤ _), (by decide : 45 + 10 ≤ _)⟩)
  dsimp only [Pt.U, Pt.locs, Pt.cells, Pt.slots] at X115 l115 y115 z115 st115 hQ115
  subst l115 y115 z115
  obtain ⟨b115, b115_1, rfl, N115q, K115, qf115_0, qf115_1, qf115_2, qf115_3, qf115_4, qf115_5, qf115_6, qf115_7⟩ := hQ115
  have N115 := Fr.app N99 N115q
  have f118 := qf58_0.ext E63
  have f119 := f118.ext E67
  have f120 := f119.keep K70
  have f121 := f120.ext E73
  have f122 := f121.keep K92
  have f123 := f122.ext E97
  have f124 := f123.keep K99
  have f125 := f124.keep K115
  have g_b115 : n0 ≤ b115 := Nat.le_trans z116 qf115_4
  have z127 := Nat.le_trans z116 K115.1
  have o128 := o117.keep K115 (allS g_b97 all0)
  obtain ⟨cq126, kq126, q126a, q126b, q126c⟩ := isOf hZ73 rfl qf115_0
  obtain ⟨_, _, ⟨T126, L126, k126, n126⟩, -, X126, ⟨Lc126, hQ126, l126, y126, z126⟩, st126⟩ := X115.virtualBack hx (y := mN7) (z := mN7) hown73 (mvT hZ73 (own_W hw 91 rfl)) (mvT hZ73 (own_W hw 92 rfl)) (notFace_of_selects (args := #[]) (mvT hZ73 (own_W hw 94 rfl))) (mvT hZ73 (own_W hw 94 rfl)) (mvT hZ73 (own_W hw 93 rfl)) (by decide) (backOf (W := 0) (rm11_1 l Z a0 hw [] b97 b29 ((0 : Int32) + (1 : Int32)) b115 b115_1 (.ref b1) .null .null .null .null .null .null .null .null .null T115.heap n0 z127 o128 qf115_0 f125 qf115_1 qf115_2 qf115_6 qf115_7 qf115_3 g_b97 (Ne.symm (Nat.ne_of_lt (Nat.lt_of_lt_of_le qf99_0.lt qf115_4))) g_b115) hZ73 (own_W hw 95 rfl) (own_W hw 9 rfl) (by decide) (by decide)) q126a q126c (g := (mkF m 114 #[vi pi1, vi pi2, vi pi3, vi 2, vi 0, vi 1, vr b1, vr b29, vr b63, vr b97, .unset, .unset, .unset, .unset] [(.ref b29), (.ref b97)])) rfl (by rw [hml]; rfl) (Steps.refl _) (argsL := [(.ref b29)]) (rest := []) (lenOf pd_5 rfl) rfl (by show 2 * 0 + _ ≤ _; exact Nat.le_of_eq rfl) (hb hby at_114) (fun _ _ => ⟨rfl, rfl, (by decide : 14 + 0 ≤ _), (by decide : 55 + 0 ≤ _)⟩)
  dsimp only [Pt.U, Pt.locs, Pt.cells, Pt.slots] at X126 l126 y126 z126 st126 hQ126
  subst l126 y126 z126
  obtain ⟨rfl, N126q, K126, qf126_0, qf126_1, qf126_2, qf126_3, qf126_4, qf126_5⟩ := hQ126
  have N126 := Fr.app N115 N126q
  obtain ⟨T129, h129, X129, e129, E129, A129, D129, -, st129⟩ := newO X126 hx hZ73 hown73 (own_W hw 1 rfl) (own_W hw 2 rfl) (own_W hw 3 rfl) rfl (g := (mkF m 131 #[vi pi1, vi pi2, vi pi3, vi 2, vi 0, vi 1, vr b1, vr b29, vr b63, vr b97, .unset, .unset, .unset, .unset] [])) rfl (hb hby at_131) (by decide) (by decide)
  obtain ⟨b129, g129⟩ : ∃ z, z = T126.heap.size := ⟨_, rfl⟩
  rw [← g129] at A129 D129 st129
  have F_operator_b129 : Fld Z h129 b129 "com/example/tyche/tyche/model/jani/Expression$Operation" "operator" "Lcom/example/tyche/tyche/model/jani/Operator;" .null := D129 (Or.inr (own_W hw 80 rfl)) (ty := (.object "com/example/tyche/tyche/model/jani/Operator")) (by decide)
  have F_operands_b129 : Fld Z h129 b129 "com/example/tyche/tyche/model/jani/Expression$Operation" "operands" "Ljava/util/List;" .null := D129 (Or.inr (own_W hw 82 rfl)) (ty := (.object "java/util/List")) (by decide)
  have F_path_b129 : Fld Z h129 b129 "com/example/tyche/tyche/model/jani/Expression$Operation" "path" "Ljava/lang/String;" .null := D129 (Or.inr (own_W hw 84 rfl)) (ty := (.object "java/lang/String")) (by decide)
  have o131 := o128.keep K126 (allS g_b97 (allS g_b115 all0))
  have o132 := o131.ext E129
  obtain ⟨T130, X130, e130, st130⟩ := getS2 X129 hx hZ73 hown73 (host := "") (Or.inl (own_W hw 120 rfl)) Via.refl e129 (S_PLUS.ext o132.2) (g := (mkF m 135 #[vi pi1, vi pi2, vi pi3, vi 2, vi 0, vi 1, vr b1, vr b29, vr b63, vr b97, .unset, .unset, .unset, .unset] [(.ref b129), (.ref b129)])) rfl (hb hby at_135)
  have z134 := Nat.le_trans z127 K126.1
  have z135 := Nat.le_trans z134 E129.1
  obtain ⟨_, _, ⟨T133, L133, k133, n133⟩, -, X133, ⟨Lc133, hQ133, l133, y133, z133⟩, st133⟩ := Jvm.LawKit.callS X130 hx (y := mN31) hown73 (mvT hZ73 (own_W hw 122 rfl)) (mvT hZ73 (own_W hw 123 rfl)) (mvT hZ73 (own_W hw 34 rfl)) (mvT hZ73 (own_W hw 124 rfl)) (by decide) (backOf (W := 4) (rm16 l Z a0 hw [] ((pi3 &&& (255 : Int32)).toUInt32.toUInt16.toUInt32.toInt32) w_COMPACT_STRINGS h129 n0 z135 o132 S_COMPACT_STRINGS hCS (own_c255 _)) hZ73 (own_W hw 124 rfl) (own_W hw 34 rfl) (by decide) (by decide)) (g := (mkF m 146 #[vi pi1, vi pi2, vi pi3, vi 2, vi 0, vi 1, vr b1, vr b29, vr b63, vr b97, .unset, .unset, .unset, .unset] [(.int ((pi3 &&& (255 : Int32)).toUInt32.toUInt16.toUInt32.toInt32)), (.ref b97), (.ref w_PLUS), (.ref b129), (.ref b129)])) rfl (by rw [hml]; rfl) (argsL := [(.int ((pi3 &&& (255 : Int32)).toUInt32.toUInt16.toUInt32.toInt32))]) (rest := [(.ref b97), (.ref w_PLUS), (.ref b129), (.ref b129)]) (lenOf pd_10 rfl) rfl (by show 2 * 0 + _ ≤ _; exact Nat.le_of_eq rfl) (hb hby at_146) (fun _ _ => ⟨rfl, e130, (by decide : 15 + 2 ≤ _), (by decide : 58 + 5 ≤ _)⟩)
  dsimp only [Pt.U, Pt.locs, Pt.cells, Pt.slots] at X133 l133 y133 z133 st133 hQ133
  subst l133 y133 z133
  obtain ⟨b133, b133_1, rfl, N133q, K133, qf133_0, qf133_1⟩ := hQ133
  have N133 := Fr.app N126 N133q
  have f136 := A129.keep K133
  have f137 := qf126_0.ext E129
  have f138 := f137.keep K133
  have f139 := qf126_2.ext E129
  have f140 := f139.keep K133 nin0
  have f141 := qf126_3.ext E129
  have f142 := f141.keep K133 nin0
  have f143 := qf115_5.keep K126
  have f144 := f143.ext E129
  have f145 := f144.keep K133
  have f146 := qf126_4.ext E129
  have f147 := f146.keep K133 nin0
  have f148 := f114.keep K115
  have f149 := f148.keep K126
  have f150 := f149.ext E129
  have f151 := f150.keep K133
  have f152 := f125.keep K126
  have f153 := f152.ext E129
  have f154 := f153.keep K133
  have f155 := F_operator_b129.keep K133 nin0
  have g_b129 : n0 ≤ b129 := Nat.le_trans z134 (Nat.le_of_eq g129.symm)
  have f156 := F_operands_b129.keep K133 nin0
  have f157 := F_path_b129.keep K133 nin0
  have z159 := Nat.le_trans z135 K133.1
  have o160 := o132.keep K133 all0
  obtain ⟨_, _, ⟨T158, L158, k158, n158⟩, -, X158, ⟨Lc158, hQ158, l158, y158, z158⟩, st158⟩ := X133.specialBack hx (y := mN27) rfl hown73 (mvT hZ73 (own_W hw 41 rfl)) (mvT hZ73 (own_W hw 42 rfl)) (mvT hZ73 (own_W hw 43 rfl)) (by decide) (backOf (W := 1) (rm5_2 l Z a0 hw [] b129 w_PLUS b97 b133 w_mir b115 b115_1 b1 b29 .null .null .null .null .null .null .null .null .null .null .null T133.heap n0 z159 o160 f136 M_mir f138 f140 f142 f145 f147 f151 f154 f155 g_b129 f156 f157) hZ73 (own_W hw 43 rfl) (own_W hw 3 rfl) (by decide) (by decide)) (g := (mkF m 149 #[vi pi1, vi pi2, vi pi3, vi 2, vi 0, vi 1, vr b1, vr b29, vr b63, vr b97, .unset, .unset, .unset, .unset] [(.ref b133), (.ref b97), (.ref w_PLUS), (.ref b129), (.ref b129)])) rfl (by rw [hml]; rfl) (Steps.refl _) (a := b129) (argsL := [(.ref w_PLUS), (.ref b97), (.ref b133)]) (rest := [(.ref b129)]) (lenOf pd_1 rfl) rfl (by show 2 * 0 + _ ≤ _; exact Nat.le_of_eq rfl) (hb hby at_149) (fun _ _ => ⟨rfl, rfl, (by decide : 17 + 2 ≤ _), (by decide : 63 + 4 ≤ _)⟩)
  dsimp only [Pt.U, Pt.locs, Pt.cells, Pt.slots] at X158 l158 y158 z158 st158 hQ158
  subst l158 y158 z158
  obtain ⟨b158, rfl, N158q, K158, qf158_0, qf158_1, qf158_2, qf158_3, qf158_4, qf158_5, qf158_6, qf158_7⟩ := hQ158
  have N158 := Fr.app N133 N158q
  have f161 := f138.keep K158
  have f162 := f151.keep K158
  have f163 := qf126_1.ext E129
  have f164 := f163.keep K133 nin0
  have f165 := f164.keep K158 (ninS (Nat.ne_of_lt (Nat.lt_of_lt_of_le qf126_3.lt (Nat.le_of_eq g129.symm))) nin0)
  have f166 := f140.keep K158 (ninS (Nat.ne_of_lt (Nat.lt_of_lt_of_le qf126_3.lt (Nat.le_of_eq g129.symm))) nin0)
  have f167 := f147.keep K158 (ninS (Nat.ne_of_lt (Nat.lt_of_lt_of_le qf126_4.lt (Nat.le_of_eq g129.symm))) nin0)
  have f168 := f142.keep K158 (ninS (Nat.ne_of_lt (Nat.lt_of_lt_of_le qf126_3.lt (Nat.le_of_eq g129.symm))) nin0)
  have z170 := Nat.le_trans z159 K158.1
  have o171 := o160.keep K158 (allS g_b129 all0)
  obtain ⟨cq169, kq169, q169a, q169b, q169c⟩ := isOf hZ73 rfl f161
  obtain ⟨_, _, ⟨T169, L169, k169, n169⟩, -, X169, ⟨Lc169, hQ169, l169, y169, z169⟩, st169⟩ := X158.virtualBack hx (y := mN7) (z := mN7) hown73 (mvT hZ73 (own_W hw 91 rfl)) (mvT hZ73 (own_W hw 92 rfl)) (notFace_of_selects (args := #[]) (mvT hZ73 (own_W hw 94 rfl))) (mvT hZ73 (own_W hw 94 rfl)) (mvT hZ73 (own_W hw 93 rfl)) (by decide) (backOf (W := 0) (rm11_2 l Z a0 hw [] b97 b1 (((0 : Int32) + (1 : Int32)) + (1 : Int32)) b115 b115_1 (.ref b1) (.ref b29) .null .null .null .null .null .null .null .null T158.heap n0 z170 o171 f161 f162 f165 f166 f167 qf126_5 f168 g_b97 (Ne.symm (Nat.ne_of_lt (Nat.lt_of_lt_of_le qf99_0.lt qf115_4))) g_b115) hZ73 (own_W hw 95 rfl) (own_W hw 9 rfl) (by decide) (by decide)) q169a q169c (g := (mkF m 158 #[vi pi1, vi pi2, vi pi3, vi 2, vi 0, vi 1, vr b1, vr b29, vr b63, vr b97, vr b129, .unset, .unset, .unset] [(.ref b1), (.ref b97)])) rfl (by rw [hml]; rfl) (Steps.refl _) (argsL := [(.ref b1)]) (rest := []) (lenOf pd_5 rfl) rfl (by show 2 * 0 + _ ≤ _; exact Nat.le_of_eq rfl) (hb hby at_158) (fun _ _ => ⟨rfl, rfl, (by decide : 19 + 0 ≤ _), (by decide : 67 + 0 ≤ _)⟩)
  dsimp only [Pt.U, Pt.locs, Pt.cells, Pt.slots] at X169 l169 y169 z169 st169 hQ169
  subst l169 y169 z169
  obtain ⟨rfl, N169q, K169, qf169_0, qf169_1, qf169_2, qf169_3, qf169_4, qf169_5⟩ := hQ169
  have N169 := Fr.app N158 N169q
  have f172 := f145.keep K158
  have f173 := qf158_2.keep K169 (ninS (Ne.symm (Nat.ne_of_lt (Nat.lt_of_lt_of_le qf126_3.lt (Nat.le_of_eq g129.symm)))) (ninS (Ne.symm (Nat.ne_of_lt (Nat.lt_of_lt_of_le qf126_4.lt (Nat.le_of_eq g129.symm)))) nin0))
  have f174 := qf158_5.keep K169
  have f175 := qf158_6.keep K169 (ninS (Ne.symm (Nat.ne_of_lt (Nat.lt_of_lt_of_le f142.lt qf158_4))) (ninS (Ne.symm (Nat.ne_of_lt (Nat.lt_of_lt_of_le f147.lt qf158_4))) nin0))
  have f176 := f162.keep K169
  have z178 := Nat.le_trans z170 K169.1
  have o179 := o171.keep K169 (allS g_b97 (allS g_b115 all0))
  have f180 := qf158_0.keep K169
  obtain ⟨cq177, kq177, q177a, q177b, q177c⟩ := isOf hZ73 rfl f180
  obtain ⟨_, _, ⟨T177, L177, k177, n177⟩, -, X177, ⟨Lc177, hQ177, l177, y177, z177⟩, st177⟩ := X169.virtualBack hx (y := mN36) (z := mN36) hown73 (mvT hZ73 (own_W hw 204 rfl)) (mvT hZ73 (own_W hw 205 rfl)) (notFace_of_selects (args := #[]) (mvT hZ73 (own_W hw 207 rfl))) (mvT hZ73 (own_W hw 207 rfl)) (mvT hZ73 (own_W hw 206 rfl)) (by decide) (backOf (W := 0) (rm29_0 l Z a0 hw [] b129 b158 b1 T169.heap n0 z178 o179 f173 f174 f175 f176) hZ73 (own_W hw 208 rfl) (own_W hw 3 rfl) (by decide) (by decide)) q177a q177c (g := (mkF m 166 #[vi pi1, vi pi2, vi pi3, vi 2, vi 0, vi 1, vr b1, vr b29, vr b63, vr b97, vr b129, .unset, .unset, .unset] [(.int 0), (.ref b129)])) rfl (by rw [hml]; rfl) (Steps.refl _) (argsL := [(.int 0)]) (rest := []) (lenOf pd_21 rfl) rfl (by show 2 * 0 + _ ≤ _; exact Nat.le_of_eq rfl) (hb hby at_166) (fun _ _ => ⟨rfl, rfl, (by decide : 19 + 0 ≤ _), (by decide : 67 + 0 ≤ _)⟩)
  dsimp only [Pt.U, Pt.locs, Pt.cells, Pt.slots] at X177 l177 y177 z177 st177 hQ177
  subst l177 y177 z177
  obtain ⟨rfl, N177q, eq177⟩ := hQ177
  have N177 := Fr.app N169 N177q
  obtain ⟨_, _, ⟨T181, L181, k181, n181⟩, -, X181, ⟨Lc181, hQ181, l181, y181, z181⟩, st181⟩ := Jvm.LawKit.callS X177 hx (y := mN39) hown73 (mvT hZ73 (own_W hw 220 rfl)) (mvT hZ73 (own_W hw 221 rfl)) (mvT hZ73 (own_W hw 222 rfl)) (mvT hZ73 (own_W hw 223 rfl)) (by decide) (backOf (W := 1) (rm31_0 l Z a0 hw [] b1 b29 b63 T169.heap n0 z178 o179 ) hZ73 (own_W hw 223 rfl) (own_W hw 222 rfl) (by decide) (by decide)) (g := (mkF m 177 #[vi pi1, vi pi2, vi pi3, vi 2, vi 0, vi 1, vr b1, vr b29, vr b63, vr b97, vr b129, .unset, .unset, .unset] [(.ref b63), (.ref b29), (.ref b1), (.int 0), (.ref b1)])) rfl (by rw [hml]; rfl) (argsL := [(.int 0), (.ref b1), (.ref b29), (.ref b63)]) (rest := [(.ref b1)]) (lenOf pd_23 rfl) rfl (by show 2 * 0 + _ ≤ _; exact Nat.le_of_eq rfl) (hb hby at_177) (fun _ _ => ⟨rfl, eq177, (by decide : 19 + 0 ≤ _), (by decide : 67 + 0 ≤ _)⟩)
  dsimp only [Pt.U, Pt.locs, Pt.cells, Pt.slots] at X181 l181 y181 z181 st181 hQ181
  subst l181 y181 z181
  obtain ⟨rfl, N181q, eq181⟩ := hQ181
  have N181 := Fr.app N177 N181q
  have f182 := qf158_7.keep K169 (ninS (Ne.symm (Nat.ne_of_lt (Nat.lt_of_lt_of_le f142.lt qf158_4))) (ninS (Ne.symm (Nat.ne_of_lt (Nat.lt_of_lt_of_le f147.lt qf158_4))) nin0))
  have f183 := f154.keep K158
  have f184 := f183.keep K169
  obtain ⟨cq185, kq185, q185a, q185b, q185c⟩ := isOf hZ73 eq181 f180
  obtain ⟨_, _, ⟨T185, L185, k185, n185⟩, -, X185, ⟨Lc185, hQ185, l185, y185, z185⟩, st185⟩ := X181.virtualBack hx (y := mN36) (z := mN36) hown73 (mvT hZ73 (own_W hw 204 rfl)) (mvT hZ73 (own_W hw 205 rfl)) (notFace_of_selects (args := #[]) (mvT hZ73 (own_W hw 207 rfl))) (mvT hZ73 (own_W hw 207 rfl)) (mvT hZ73 (own_W hw 206 rfl)) (by decide) (backOf (W := 0) (rm29_1 l Z a0 hw [] b129 w_EMPTY b158 b29 T169.heap n0 z178 o179 S_EMPTY E_w_EMPTY f173 f174 f182 f184 g_b29) hZ73 (own_W hw 208 rfl) (own_W hw 3 rfl) (by decide) (by decide)) q185a q185c (g := (mkF m 194 #[vi pi1, vi pi2, vi pi3, vi 2, vi 0, vi 1, vr b1, vr b29, vr b63, vr b97, vr b129, vi 1, .unset, .unset] [(.int 1), (.ref b129)])) rfl (by rw [hml]; rfl) (Steps.refl _) (argsL := [(.int 1)]) (rest := []) (lenOf pd_21 rfl) rfl (by show 2 * 0 + _ ≤ _; exact Nat.le_of_eq rfl) (hb hby at_194) (fun _ _ => ⟨rfl, eq181, (by decide : 19 + 0 ≤ _), (by decide : 67 + 0 ≤ _)⟩)
  dsimp only [Pt.U, Pt.locs, Pt.cells, Pt.slots] at X185 l185 y185 z185 st185 hQ185
  subst l185 y185 z185
  obtain ⟨rfl, N185q, eq185⟩ := hQ185
  have N185 := Fr.app N181 N185q
  obtain ⟨_, _, ⟨T186, L186, k186, n186⟩, -, X186, ⟨Lc186, hQ186, l186, y186, z186⟩, st186⟩ := Jvm.LawKit.callS X185 hx (y := mN39) hown73 (mvT hZ73 (own_W hw 220 rfl)) (mvT hZ73 (own_W hw 221 rfl)) (mvT hZ73 (own_W hw 222 rfl)) (mvT hZ73 (own_W hw 223 rfl)) (by decide) (backOf (W := 1) (rm31_1 l Z a0 hw [] b1 b29 b63 T169.heap n0 z178 o179 ) hZ73 (own_W hw 223 rfl) (own_W hw 222 rfl) (by decide) (by decide)) (g := (mkF m 205 #[vi pi1, vi pi2, vi pi3, vi 2, vi 0, vi 1, vr b1, vr b29, vr b63, vr b97, vr b129, vi 1, .unset, .unset] [(.ref b63), (.ref b29), (.ref b1), (.int 1), (.ref b29)])) rfl (by rw [hml]; rfl) (argsL := [(.int 1), (.ref b1), (.ref b29), (.ref b63)]) (rest := [(.ref b29)]) (lenOf pd_23 rfl) rfl (by show 2 * 0 + _ ≤ _; exact Nat.le_of_eq rfl) (hb hby at_205) (fun _ _ => ⟨rfl, eq185, (by decide : 19 + 0 ≤ _), (by decide : 67 + 0 ≤ _)⟩)
  dsimp only [Pt.U, Pt.locs, Pt.cells, Pt.slots] at X186 l186 y186 z186 st186 hQ186
  subst l186 y186 z186
  obtain ⟨rfl, N186q, eq186⟩ := hQ186
  have N186 := Fr.app N185 N186q
  obtain ⟨cq187, kq187, q187a, q187b, q187c⟩ := isOf hZ73 eq186 f180
  obtain ⟨_, _, ⟨T187, L187, k187, n187⟩, -, X187, ⟨Lc187, hQ187, l187, y187, z187⟩, st187⟩ := X186.virtualBack hx (y := mN38) (z := mN38) hown73 (mvT hZ73 (own_W hw 224 rfl)) (mvT hZ73 (own_W hw 225 rfl)) (notFace_of_selects (args := #[]) (mvT hZ73 (own_W hw 227 rfl))) (mvT hZ73 (own_W hw 227 rfl)) (mvT hZ73 (own_W hw 226 rfl)) (by decide) (backOf (W := 0) (rm32 l Z a0 hw [] b129 b158 T169.heap n0 z178 o179 f173) hZ73 (own_W hw 228 rfl) (own_W hw 3 rfl) (by decide) (by decide)) q187a q187c (g := (mkF m 220 #[vi pi1, vi pi2, vi pi3, vi 2, vi 0, vi 1, vr b1, vr b29, vr b63, vr b97, vr b129, vi 1, vi 1, .unset] [(.ref b129)])) rfl (by rw [hml]; rfl) (Steps.refl _) (argsL := []) (rest := []) (lenOf pd_4 rfl) rfl (by show 2 * 0 + _ ≤ _; exact Nat.le_of_eq rfl) (hb hby at_220) (fun _ _ => ⟨rfl, eq186, (by decide : 19 + 0 ≤ _), (by decide : 67 + 0 ≤ _)⟩)
  dsimp only [Pt.U, Pt.locs, Pt.cells, Pt.slots] at X187 l187 y187 z187 st187 hQ187
  subst l187 y187 z187
  obtain ⟨rfl, N187q, eq187⟩ := hQ187
  have N187 := Fr.app N186 N187q
  obtain ⟨cq188, kq188, q188a, q188b, q188c⟩ := isOf hZ73 eq187 f174
  obtain ⟨_, _, ⟨T188, L188, k188, n188⟩, -, X188, ⟨Lc188, hQ188, l188, y188, z188⟩, st188⟩ := X187.interfaceBack hx (xi := mN40) (y := mN35) hown73 (mvT hZ73 (own_W hw 229 rfl)) (mvT hZ73 (own_W hw 230 rfl)) (mvT hZ73 (own_W hw 231 rfl)) (mvT hZ73 (own_W hw 232 rfl)) (mvT hZ73 (own_W hw 233 rfl)) (mvT hZ73 (own_W hw 234 rfl)) (mvT hZ73 (own_W hw 235 rfl)) (mvT hZ73 (own_W hw 216 rfl)) (by decide) (backOf (W := 0) (rm33_2 l Z a0 hw [] b158 w_EMPTY b29 T169.heap n0 z178 o179 S_EMPTY E_w_EMPTY f182 g_b29) hZ73 (own_W hw 236 rfl) (own_W hw 176 rfl) (by decide) (by decide)) q188a q188b q188c (g := (mkF m 223 #[vi pi1, vi pi2, vi pi3, vi 2, vi 0, vi 1, vr b1, vr b29, vr b63, vr b97, vr b129, vi 1, vi 1, .unset] [(.ref b158)])) rfl (by rw [hml]; rfl) (Steps.refl _) (argsL := []) (rest := []) (lenOf pd_24 rfl) rfl (by show 2 * 0 + _ ≤ _; exact Nat.le_of_eq rfl) (hb hby at_223) (fun _ _ => ⟨rfl, eq187, (by decide : 19 + 0 ≤ _), (by decide : 67 + 0 ≤ _)⟩)
  dsimp only [Pt.U, Pt.locs, Pt.cells, Pt.slots] at X188 l188 y188 z188 st188 hQ188
  subst l188 y188 z188
  obtain ⟨rfl, N188q, eq188⟩ := hQ188
  have N188 := Fr.app N187 N188q
  have y189 := Nat.le_trans hk73 K92.1
  have y190 := Nat.le_trans y189 E97.1
  have y191 := Nat.le_trans y190 K99.1
  have y192 := Nat.le_trans y191 K115.1
  have y193 := Nat.le_trans y192 K126.1
  have y194 := Nat.le_trans y193 E129.1
  have y195 := Nat.le_trans y194 K133.1
  have y196 := Nat.le_trans y195 K158.1
  have y197 := Nat.le_trans y196 K169.1
  obtain ⟨fs, hr, hrun, hended, hE1, hE2, hE3, hsame⟩ := X188.leaveW hS73 (by rw [eq188]; exact y197) (v := some (.int 1)) (fun h => by rw [Bd.returns] at h; cases h) (BodyLoose.notSynchronized Bd)
  refine ⟨_, _, pre0 _ ?_, hrun, hended, _, _, rfl, ?_, ⟨_, rfl⟩, hE2, hE3, hsame.mono (by decide) (by decide)⟩
  · show Stp p e below s₁ m 0 #[vi pi1, vi pi2, vi pi3, .unset, .unset, .unset, .unset, .unset, .unset, .unset, .unset, .unset, .unset, .unset] [] _
    refine XS.iconst X0.here hx rfl (hb hby at_0) ?_
    refine XS.iloadN X0.here hx rfl (hb hby at_1) rfl ?_
    refine X0.ldcInt hx hown (mvT hZ (own_W hw 0 rfl)) (g := (mkF m 2 #[vi pi1, vi pi2, vi pi3, .unset, .unset, .unset, .unset, .unset, .unset, .unset, .unset, .unset, .unset, .unset] [(.int pi1), (.int 1)])) rfl (hb hby at_2) _ ?_
    show Stp p e below s₁ m 4 #[vi pi1, vi pi2, vi pi3, .unset, .unset, .unset, .unset, .unset, .unset, .unset, .unset, .unset, .unset, .unset] [(.int 2147483647), (.int pi1), (.int 1)] _
    refine XS.iand X0.here hx rfl (hb hby at_4) rfl ?_
    refine XS.iconst X0.here hx rfl (hb hby at_5) ?_
    refine iremM X0 hx rfl (hb hby at_6) rfl (by decide) ?_
    show Stp p e below s₁ m 7 #[vi pi1, vi pi2, vi pi3, .unset, .unset, .unset, .unset, .unset, .unset, .unset, .unset, .unset, .unset, .unset] [(.int ((pi1 &&& (2147483647 : Int32)) % (3 : Int32))), (.int 1)] _
    refine XS.iadd X0.here hx rfl (hb hby at_7) rfl ?_
    refine XS.istoreN X0.here hx rfl (hb hby at_8) rfl (l' := #[vi pi1, vi pi2, vi pi3, .val (.int ((1 : Int32) + ((pi1 &&& (2147483647 : Int32)) % (3 : Int32)))), .unset, .unset, .unset, .unset, .unset, .unset, .unset, .unset, .unset, .unset]) rfl ?_
    show Stp p e below s₁ m 9 #[vi pi1, vi pi2, vi pi3, .val (.int ((1 : Int32) + ((pi1 &&& (2147483647 : Int32)) % (3 : Int32)))), .unset, .unset, .unset, .unset, .unset, .unset, .unset, .unset, .unset, .unset] [] _
    rw [show ((1 : Int32) + ((pi1 &&& (2147483647 : Int32)) % (3 : Int32))) = (2 : Int32) from hc8_1]
    show Stp p e below s₁ m 9 #[vi pi1, vi pi2, vi pi3, vi 2, .unset, .unset, .unset, .unset, .unset, .unset, .unset, .unset, .unset, .unset] [] _
    refine XS.iloadN X0.here hx rfl (hb hby at_9) rfl ?_
    refine X0.ldcInt hx hown (mvT hZ (own_W hw 0 rfl)) (g := (mkF m 10 #[vi pi1, vi pi2, vi pi3, vi 2, .unset, .unset, .unset, .unset, .unset, .unset, .unset, .unset, .unset, .unset] [(.int pi2)])) rfl (hb hby at_10) _ ?_
    show Stp p e below s₁ m 12 #[vi pi1, vi pi2, vi pi3, vi 2, .unset, .unset, .unset, .unset, .unset, .unset, .unset, .unset, .unset, .unset] [(.int 2147483647), (.int pi2)] _
    refine XS.iand X0.here hx rfl (hb hby at_12) rfl ?_
    refine XS.iloadN X0.here hx rfl (hb hby at_13) rfl ?_
    refine iremM X0 hx rfl (hb hby at_14) rfl (by decide) ?_
    show Stp p e below s₁ m 15 #[vi pi1, vi pi2, vi pi3, vi 2, .unset, .unset, .unset, .unset, .unset, .unset, .unset, .unset, .unset, .unset] [(.int ((pi2 &&& (2147483647 : Int32)) % (2 : Int32)))] _
    refine XS.istore X0.here hx rfl (hb hby at_15) rfl (l' := #[vi pi1, vi pi2, vi pi3, vi 2, .val (.int ((pi2 &&& (2147483647 : Int32)) % (2 : Int32))), .unset, .unset, .unset, .unset, .unset, .unset, .unset, .unset, .unset]) rfl ?_
    show Stp p e below s₁ m 17 #[vi pi1, vi pi2, vi pi3, vi 2, .val (.int ((pi2 &&& (2147483647 : Int32)) % (2 : Int32))), .unset, .unset, .unset, .unset, .unset, .unset, .unset, .unset, .unset] [] _
    rw [show ((pi2 &&& (2147483647 : Int32)) % (2 : Int32)) = (0 : Int32) from hc15_2]
    show Stp p e below s₁ m 17 #[vi pi1, vi pi2, vi pi3, vi 2, vi 0, .unset, .unset, .unset, .unset, .unset, .unset, .unset, .unset, .unset] [] _
    refine XS.iloadN X0.here hx rfl (hb hby at_17) rfl ?_
    refine XS.iconst X0.here hx rfl (hb hby at_18) ?_
    refine XS.isub X0.here hx rfl (hb hby at_19) rfl ?_
    refine XS.iload X0.here hx rfl (hb hby at_20) rfl ?_
    refine XS.isub X0.here hx rfl (hb hby at_22) rfl ?_
    refine XS.istore X0.here hx rfl (hb hby at_23) rfl (l' := #[vi pi1, vi pi2, vi pi3, vi 2, vi 0, vi 1, .unset, .unset, .unset, .unset, .unset, .unset, .unset, .unset]) rfl ?_
    refine st1 _ ?_
    show Stp p e below T1 m 28 #[vi pi1, vi pi2, vi pi3, vi 2, vi 0, vi 1, .unset, .unset, .unset, .unset, .unset, .unset, .unset, .unset] [(.ref b1)] _
    refine XS.dup X1.here hx rfl (hb hby at_28) rfl rfl ?_
    refine st2 _ ?_
    show Stp p e below T2 m 32 #[vi pi1, vi pi2, vi pi3, vi 2, vi 0, vi 1, .unset, .unset, .unset, .unset, .unset, .unset, .unset, .unset] [(.ref w_NOT), (.ref b1), (.ref b1)] _
    refine st4 _ ?_
    show Stp p e below T4 m 35 #[vi pi1, vi pi2, vi pi3, vi 2, vi 0, vi 1, .unset, .unset, .unset, .unset, .unset, .unset, .unset, .unset] [(.ref b4), (.ref w_NOT), (.ref b1), (.ref b1)] _
    refine XS.dup X4.here hx rfl (hb hby at_35) rfl rfl ?_
    refine st6.trans ?_
    show Stp p e below T6 m 39 #[vi pi1, vi pi2, vi pi3, vi 2, vi 0, vi 1, .unset, .unset, .unset, .unset, .unset, .unset, .unset, .unset] [(.ref b4), (.ref w_NOT), (.ref b1), (.ref b1)] _
    refine st9 _ ?_
    show Stp p e below T9 m 41 #[vi pi1, vi pi2, vi pi3, vi 2, vi 0, vi 1, .unset, .unset, .unset, .unset, .unset, .unset, .unset, .unset] [(.ref sa9), (.ref b4), (.ref w_NOT), (.ref b1), (.ref b1)] _
    refine st24.trans ?_
    show Stp p e below T24 m 44 #[vi pi1, vi pi2, vi pi3, vi 2, vi 0, vi 1, .unset, .unset, .unset, .unset, .unset, .unset, .unset, .unset] [(.ref b1)] _
    refine XS.astore X24.here hx rfl (hb hby at_44) rfl rfl (l' := #[vi pi1, vi pi2, vi pi3, vi 2, vi 0, vi 1, vr b1, .unset, .unset, .unset, .unset, .unset, .unset, .unset]) rfl ?_
    refine st29 _ ?_
    show Stp p e below T29 m 49 #[vi pi1, vi pi2, vi pi3, vi 2, vi 0, vi 1, vr b1, .unset, .unset, .unset, .unset, .unset, .unset, .unset] [(.ref b29)] _
    refine XS.dup X29.here hx rfl (hb hby at_49) rfl rfl ?_
    refine st30 _ ?_
    show Stp p e below T30 m 53 #[vi pi1, vi pi2, vi pi3, vi 2, vi 0, vi 1, vr b1, .unset, .unset, .unset, .unset, .unset, .unset, .unset] [(.ref w_AND), (.ref b29), (.ref b29)] _
    refine st33 _ ?_
    show Stp p e below T33 m 56 #[vi pi1, vi pi2, vi pi3, vi 2, vi 0, vi 1, vr b1, .unset, .unset, .unset, .unset, .unset, .unset, .unset] [(.ref b33), (.ref w_AND), (.ref b29), (.ref b29)] _
    refine XS.dup X33.here hx rfl (hb hby at_56) rfl rfl ?_
    refine st36.trans ?_
    show Stp p e below T36 m 60 #[vi pi1, vi pi2, vi pi3, vi 2, vi 0, vi 1, vr b1, .unset, .unset, .unset, .unset, .unset, .unset, .unset] [(.ref b33), (.ref w_AND), (.ref b29), (.ref b29)] _
    refine st39 _ ?_
    show Stp p e below T39 m 62 #[vi pi1, vi pi2, vi pi3, vi 2, vi 0, vi 1, vr b1, .unset, .unset, .unset, .unset, .unset, .unset, .unset] [(.ref sa39), (.ref b33), (.ref w_AND), (.ref b29), (.ref b29)] _
    refine st58.trans ?_
    show Stp p e below T58 m 65 #[vi pi1, vi pi2, vi pi3, vi 2, vi 0, vi 1, vr b1, .unset, .unset, .unset, .unset, .unset, .unset, .unset] [(.ref b29)] _
    refine XS.astore X58.here hx rfl (hb hby at_65) rfl rfl (l' := #[vi pi1, vi pi2, vi pi3, vi 2, vi 0, vi 1, vr b1, vr b29, .unset, .unset, .unset, .unset, .unset, .unset]) rfl ?_
    refine st63 _ ?_
    show Stp p e below T63 m 70 #[vi pi1, vi pi2, vi pi3, vi 2, vi 0, vi 1, vr b1, vr b29, .unset, .unset, .unset, .unset, .unset, .unset] [(.ref b63)] _
    refine XS.dup X63.here hx rfl (hb hby at_70) rfl rfl ?_
    refine st64 _ ?_
    show Stp p e below T64 m 74 #[vi pi1, vi pi2, vi pi3, vi 2, vi 0, vi 1, vr b1, vr b29, .unset, .unset, .unset, .unset, .unset, .unset] [(.ref w_DERIVATIVE), (.ref b63), (.ref b63)] _
    refine st67 _ ?_
    show Stp p e below T67 m 77 #[vi pi1, vi pi2, vi pi3, vi 2, vi 0, vi 1, vr b1, vr b29, .unset, .unset, .unset, .unset, .unset, .unset] [(.ref b67), (.ref w_DERIVATIVE), (.ref b63), (.ref b63)] _
    refine XS.dup X67.here hx rfl (hb hby at_77) rfl rfl ?_
    refine st70.trans ?_
    show Stp p e below T70 m 81 #[vi pi1, vi pi2, vi pi3, vi 2, vi 0, vi 1, vr b1, vr b29, .unset, .unset, .unset, .unset, .unset, .unset] [(.ref b67), (.ref w_DERIVATIVE), (.ref b63), (.ref b63)] _
    refine st73 _ ?_
    show Stp p e below T73 m 83 #[vi pi1, vi pi2, vi pi3, vi 2, vi 0, vi 1, vr b1, vr b29, .unset, .unset, .unset, .unset, .unset, .unset] [(.ref sa73), (.ref b67), (.ref w_DERIVATIVE), (.ref b63), (.ref b63)] _
    refine st92.trans ?_
    show Stp p e below T92 m 86 #[vi pi1, vi pi2, vi pi3, vi 2, vi 0, vi 1, vr b1, vr b29, .unset, .unset, .unset, .unset, .unset, .unset] [(.ref b63)] _
    refine XS.astore X92.here hx rfl (hb hby at_86) rfl rfl (l' := #[vi pi1, vi pi2, vi pi3, vi 2, vi 0, vi 1, vr b1, vr b29, vr b63, .unset, .unset, .unset, .unset, .unset]) rfl ?_
    refine st97 _ ?_
    show Stp p e below T97 m 91 #[vi pi1, vi pi2, vi pi3, vi 2, vi 0, vi 1, vr b1, vr b29, vr b63, .unset, .unset, .unset, .unset, .unset] [(.ref b97)] _
    refine XS.dup X97.here hx rfl (hb hby at_91) rfl rfl ?_
    refine st99.trans ?_
    show Stp p e below T99 m 95 #[vi pi1, vi pi2, vi pi3, vi 2, vi 0, vi 1, vr b1, vr b29, vr b63, .unset, .unset, .unset, .unset, .unset] [(.ref b97)] _
    refine XS.astore X99.here hx rfl (hb hby at_95) rfl rfl (l' := #[vi pi1, vi pi2, vi pi3, vi 2, vi 0, vi 1, vr b1, vr b29, vr b63, vr b97, .unset, .unset, .unset, .unset]) rfl ?_
    refine XS.aload X99.here hx rfl (hb hby at_97) rfl rfl ?_
    refine XS.aload X99.here hx rfl (hb hby at_99) rfl rfl ?_
    refine st115.trans ?_
    show Stp p e below T115 m 104 #[vi pi1, vi pi2, vi pi3, vi 2, vi 0, vi 1, vr b1, vr b29, vr b63, vr b97, .unset, .unset, .unset, .unset] [(.int 1)] _
    refine XS.pop X115.here hx rfl (hb hby at_104) rfl rfl ?_
    refine XS.iloadN X115.here hx rfl (hb hby at_105) rfl ?_
    refine XS.iconst X115.here hx rfl (hb hby at_106) ?_
    refine XS.icmpNo X115.here hx rfl (hb hby at_107) rfl (flt (by simp : ¬ ((2 : Int32) < (2 : Int32)))).1 ?_
    show Stp p e below T115 m 110 #[vi pi1, vi pi2, vi pi3, vi 2, vi 0, vi 1, vr b1, vr b29, vr b63, vr b97, .unset, .unset, .unset, .unset] [] _
    refine XS.aload X115.here hx rfl (hb hby at_110) rfl rfl ?_
    refine XS.aload X115.here hx rfl (hb hby at_112) rfl rfl ?_
    refine st126.trans ?_
    show Stp p e below T126 m 117 #[vi pi1, vi pi2, vi pi3, vi 2, vi 0, vi 1, vr b1, vr b29, vr b63, vr b97, .unset, .unset, .unset, .unset] [(.int 1)] _
    refine XS.pop X126.here hx rfl (hb hby at_117) rfl rfl ?_
    refine XS.iloadN X126.here hx rfl (hb hby at_118) rfl ?_
    refine XS.iconst X126.here hx rfl (hb hby at_119) ?_
    refine XS.icmpYes X126.here hx rfl (pc0 := 120) (pc' := 131) rfl (hb hby at_120) rfl (tlt (by decide : (2 : Int32) < (3 : Int32))).1 (by decide) (by decide) ?_
    show Stp p e below T126 m 131 #[vi pi1, vi pi2, vi pi3, vi 2, vi 0, vi 1, vr b1, vr b29, vr b63, vr b97, .unset, .unset, .unset, .unset] [] _
    refine st129 _ ?_
    show Stp p e below T129 m 134 #[vi pi1, vi pi2, vi pi3, vi 2, vi 0, vi 1, vr b1, vr b29, vr b63, vr b97, .unset, .unset, .unset, .unset] [(.ref b129)] _
    refine XS.dup X129.here hx rfl (hb hby at_134) rfl rfl ?_
    refine st130 _ ?_
    show Stp p e below T130 m 138 #[vi pi1, vi pi2, vi pi3, vi 2, vi 0, vi 1, vr b1, vr b29, vr b63, vr b97, .unset, .unset, .unset, .unset] [(.ref w_PLUS), (.ref b129), (.ref b129)] _
    refine XS.aload X130.here hx rfl (hb hby at_138) rfl rfl ?_
    refine XS.iloadN X130.here hx rfl (hb hby at_140) rfl ?_
    refine XS.sipush X130.here hx rfl (hb hby at_141) ?_
    refine XS.iand X130.here hx rfl (hb hby at_144) rfl ?_
    refine XS.i2c X130.here hx rfl (hb hby at_145) rfl ?_
    refine st133 _ ?_
    show Stp p e below T133 m 149 #[vi pi1, vi pi2, vi pi3, vi 2, vi 0, vi 1, vr b1, vr b29, vr b63, vr b97, .unset, .unset, .unset, .unset] [(.ref b133), (.ref b97), (.ref w_PLUS), (.ref b129), (.ref b129)] _
    refine st158.trans ?_
    show Stp p e below T158 m 152 #[vi pi1, vi pi2, vi pi3, vi 2, vi 0, vi 1, vr b1, vr b29, vr b63, vr b97, .unset, .unset, .unset, .unset] [(.ref b129)] _
    refine XS.astore X158.here hx rfl (hb hby at_152) rfl rfl (l' := #[vi pi1, vi pi2, vi pi3, vi 2, vi 0, vi 1, vr b1, vr b29, vr b63, vr b97, vr b129, .unset, .unset, .unset]) rfl ?_
    refine XS.aload X158.here hx rfl (hb hby at_154) rfl rfl ?_
    refine XS.aload X158.here hx rfl (hb hby at_156) rfl rfl ?_
    refine st169.trans ?_
    show Stp p e below T169 m 161 #[vi pi1, vi pi2, vi pi3, vi 2, vi 0, vi 1, vr b1, vr b29, vr b63, vr b97, vr b129, .unset, .unset, .unset] [(.int 1)] _
    refine XS.pop X169.here hx rfl (hb hby at_161) rfl rfl ?_
    refine XS.aload X169.here hx rfl (hb hby at_162) rfl rfl ?_
    refine XS.iload X169.here hx rfl (hb hby at_164) rfl ?_
    refine st177.trans ?_
    show Stp p e below T177 m 169 #[vi pi1, vi pi2, vi pi3, vi 2, vi 0, vi 1, vr b1, vr b29, vr b63, vr b97, vr b129, .unset, .unset, .unset] [(.ref b1)] _
    refine XS.iload X177.here hx rfl (hb hby at_169) rfl ?_
    refine XS.aload X177.here hx rfl (hb hby at_171) rfl rfl ?_
    refine XS.aload X177.here hx rfl (hb hby at_173) rfl rfl ?_
    refine XS.aload X177.here hx rfl (hb hby at_175) rfl rfl ?_
    refine st181 _ ?_
    show Stp p e below T181 m 180 #[vi pi1, vi pi2, vi pi3, vi 2, vi 0, vi 1, vr b1, vr b29, vr b63, vr b97, vr b129, .unset, .unset, .unset] [(.ref b1), (.ref b1)] _
    refine Jvm.RoadKit.acmp (g := (mkF m 180 #[vi pi1, vi pi2, vi pi3, vi 2, vi 0, vi 1, vr b1, vr b29, vr b63, vr b97, vr b129, .unset, .unset, .unset] [(.ref b1), (.ref b1)])) X181 hx rfl rfl rfl (pc0 := 180) (pc' := 183) (same := true) rfl (hb hby at_180) rfl (decide_eq_true rfl) (by decide) (by decide) ?_
    show Stp p e below T181 m 183 #[vi pi1, vi pi2, vi pi3, vi 2, vi 0, vi 1, vr b1, vr b29, vr b63, vr b97, vr b129, .unset, .unset, .unset] [] _
    refine XS.iconst X181.here hx rfl (hb hby at_183) ?_
    refine XS.goto X181.here hx rfl (pc0 := 184) (pc' := 188) rfl (hb hby at_184) (by decide) (by decide) ?_
    show Stp p e below T181 m 188 #[vi pi1, vi pi2, vi pi3, vi 2, vi 0, vi 1, vr b1, vr b29, vr b63, vr b97, vr b129, .unset, .unset, .unset] [(.int 1)] _
    refine XS.istore X181.here hx rfl (hb hby at_188) rfl (l' := #[vi pi1, vi pi2, vi pi3, vi 2, vi 0, vi 1, vr b1, vr b29, vr b63, vr b97, vr b129, vi 1, .unset, .unset]) rfl ?_
    refine XS.aload X181.here hx rfl (hb hby at_190) rfl rfl ?_
    refine XS.iload X181.here hx rfl (hb hby at_192) rfl ?_
    refine st185.trans ?_
    show Stp p e below T185 m 197 #[vi pi1, vi pi2, vi pi3, vi 2, vi 0, vi 1, vr b1, vr b29, vr b63, vr b97, vr b129, vi 1, .unset, .unset] [(.ref b29)] _
    refine XS.iload X185.here hx rfl (hb hby at_197) rfl ?_
    refine XS.aload X185.here hx rfl (hb hby at_199) rfl rfl ?_
    refine XS.aload X185.here hx rfl (hb hby at_201) rfl rfl ?_
    refine XS.aload X185.here hx rfl (hb hby at_203) rfl rfl ?_
    refine st186 _ ?_
    show Stp p e below T186 m 208 #[vi pi1, vi pi2, vi pi3, vi 2, vi 0, vi 1, vr b1, vr b29, vr b63, vr b97, vr b129, vi 1, .unset, .unset] [(.ref b29), (.ref b29)] _
    refine Jvm.RoadKit.acmp (g := (mkF m 208 #[vi pi1, vi pi2, vi pi3, vi 2, vi 0, vi 1, vr b1, vr b29, vr b63, vr b97, vr b129, vi 1, .unset, .unset] [(.ref b29), (.ref b29)])) X186 hx rfl rfl rfl (pc0 := 208) (pc' := 211) (same := true) rfl (hb hby at_208) rfl (decide_eq_true rfl) (by decide) (by decide) ?_
    show Stp p e below T186 m 211 #[vi pi1, vi pi2, vi pi3, vi 2, vi 0, vi 1, vr b1, vr b29, vr b63, vr b97, vr b129, vi 1, .unset, .unset] [] _
    refine XS.iconst X186.here hx rfl (hb hby at_211) ?_
    refine XS.goto X186.here hx rfl (pc0 := 212) (pc' := 216) rfl (hb hby at_212) (by decide) (by decide) ?_
    show Stp p e below T186 m 216 #[vi pi1, vi pi2, vi pi3, vi 2, vi 0, vi 1, vr b1, vr b29, vr b63, vr b97, vr b129, vi 1, .unset, .unset] [(.int 1)] _
    refine XS.istore X186.here hx rfl (hb hby at_216) rfl (l' := #[vi pi1, vi pi2, vi pi3, vi 2, vi 0, vi 1, vr b1, vr b29, vr b63, vr b97, vr b129, vi 1, vi 1, .unset]) rfl ?_
    refine XS.aload X186.here hx rfl (hb hby at_218) rfl rfl ?_
    refine st187.trans ?_
    show Stp p e below T187 m 223 #[vi pi1, vi pi2, vi pi3, vi 2, vi 0, vi 1, vr b1, vr b29, vr b63, vr b97, vr b129, vi 1, vi 1, .unset] [(.ref b158)] _
    refine st188.trans ?_
    show Stp p e below T188 m 228 #[vi pi1, vi pi2, vi pi3, vi 2, vi 0, vi 1, vr b1, vr b29, vr b63, vr b97, vr b129, vi 1, vi 1, .unset] [(.int 2)] _
    refine XS.iloadN X188.here hx rfl (hb hby at_228) rfl ?_
    refine XS.icmpNo X188.here hx rfl (hb hby at_229) rfl (teq (rfl : (2 : Int32) = (2 : Int32))).2 ?_
    show Stp p e below T188 m 232 #[vi pi1, vi pi2, vi pi3, vi 2, vi 0, vi 1, vr b1, vr b29, vr b63, vr b97, vr b129, vi 1, vi 1, .unset] [] _
    refine XS.iconst X188.here hx rfl (hb hby at_232) ?_
    refine XS.goto X188.here hx rfl (pc0 := 233) (pc' := 237) rfl (hb hby at_233) (by decide) (by decide) ?_
    show Stp p e below T188 m 237 #[vi pi1, vi pi2, vi pi3, vi 2, vi 0, vi 1, vr b1, vr b29, vr b63, vr b97, vr b129, vi 1, vi 1, .unset] [(.int 1)] _
    refine XS.istore X188.here hx rfl (hb hby at_237) rfl (l' := #[vi pi1, vi pi2, vi pi3, vi 2, vi 0, vi 1, vr b1, vr b29, vr b63, vr b97, vr b129, vi 1, vi 1, vi 1]) rfl ?_
    refine XS.iload X188.here hx rfl (hb hby at_239) rfl ?_
    refine XS.ifNo X188.here hx rfl (hb hby at_241) rfl ((if0 _ _).trans (feq (by decide : ¬ ((1 : Int32) = (0 : Int32)))).1) ?_
    show Stp p e below T188 m 244 #[vi pi1, vi pi2, vi pi3, vi 2, vi 0, vi 1, vr b1, vr b29, vr b63, vr b97, vr b129, vi 1, vi 1, vi 1] [] _
    refine XS.iload X188.here hx rfl (hb hby at_244) rfl ?_
    refine XS.ifNo X188.here hx rfl (hb hby at_246) rfl ((if0 _ _).trans (feq (by decide : ¬ ((1 : Int32) = (0 : Int32)))).1) ?_
    show Stp p e below T188 m 249 #[vi pi1, vi pi2, vi pi3, vi 2, vi 0, vi 1, vr b1, vr b29, vr b63, vr b97, vr b129, vi 1, vi 1, vi 1] [] _
    refine XS.iload X188.here hx rfl (hb hby at_249) rfl ?_
    refine XS.ifNo X188.here hx rfl (hb hby at_251) rfl ((if0 _ _).trans (feq (by decide : ¬ ((1 : Int32) = (0 : Int32)))).1) ?_
    show Stp p e below T188 m 254 #[vi pi1, vi pi2, vi pi3, vi 2, vi 0, vi 1, vr b1, vr b29, vr b63, vr b97, vr b129, vi 1, vi 1, vi 1] [] _
    refine XS.iconst X188.here hx rfl (hb hby at_254) ?_
    refine XS.goto X188.here hx rfl (pc0 := 255) (pc' := 259) rfl (hb hby at_255) (by decide) (by decide) ?_
    show Stp p e below T188 m 259 #[vi pi1, vi pi2, vi pi3, vi 2, vi 0, vi 1, vr b1, vr b29, vr b63, vr b97, vr b129, vi 1, vi 1, vi 1] [(.int 1)] _
    exact retN X188 hx (t := .boolean) Bd.returns (by simp) (hb hby at_259) hr
  · exact ⟨rfl, N188⟩
set_option maxRecDepth 65536 in
set_option maxHeartbeats 40000000 in
theorem rm0_ftf (l : Launch) (Z : State) (a0 : Array Value) (hw : ∀ d ∈ tables_1, d.before a0 Z = true) (ws : List Jvm.Cond) (pi1 : Int32) (pi2 : Int32) (pi3 : Int32) (w_DEF : Addr) (kk_w_DEF : ClassId) (w_EMPTY : Addr) (w_NOT : Addr) (w_EMPTY_LIST : Addr) (w_AND : Addr) (w_DERIVATIVE : Addr) (w_PLUS : Addr) (w_COMPACT_STRINGS : Int32) (w_mir : Addr) (h0 : Heap) (n0 : Nat) (Z0 : n0 ≤ h0.size) (O0 : Old Z n0 h0) (S_DEFAULTCAPACITY_EMPTY_ELEMENTDATA : Sta Z Z.heap "java/util/ArrayList" "DEFAULTCAPACITY_EMPTY_ELEMENTDATA" "[Ljava/lang/Object;" (.ref w_DEF)) (V_w_DEF : Arv Z Z.heap w_DEF kk_w_DEF (.object "java/lang/Object") (0 : Int32) [] .null) (S_EMPTY : Sta Z Z.heap "java/util/ImmutableCollections" "EMPTY" "Ljava/lang/Object;" (.ref w_EMPTY)) (E_w_EMPTY : Exa Z Z.heap w_EMPTY "java/lang/Object") (S_NOT : Sta Z Z.heap "com/example/tyche/tyche/model/jani/Operator" "NOT" "Lcom/example/tyche/tyche/model/jani/Operator;" (.ref w_NOT)) (S_EMPTY_LIST : Sta Z Z.heap "java/util/ImmutableCollections" "EMPTY_LIST" "Ljava/util/ImmutableCollections$ListN;" (.ref w_EMPTY_LIST)) (S_AND : Sta Z Z.heap "com/example/tyche/tyche/model/jani/Operator" "AND" "Lcom/example/tyche/tyche/model/jani/Operator;" (.ref w_AND)) (S_DERIVATIVE : Sta Z Z.heap "com/example/tyche/tyche/model/jani/Operator" "DERIVATIVE" "Lcom/example/tyche/tyche/model/jani/Operator;" (.ref w_DERIVATIVE)) (S_PLUS : Sta Z Z.heap "com/example/tyche/tyche/model/jani/Operator" "PLUS" "Lcom/example/tyche/tyche/model/jani/Operator;" (.ref w_PLUS)) (S_COMPACT_STRINGS : Sta Z Z.heap "java/lang/String" "COMPACT_STRINGS" "Z" (.int w_COMPACT_STRINGS)) (hCS : ¬ (w_COMPACT_STRINGS = (0 : Int32))) (M_mir : Mir Z "[Ljava/lang/Object;" w_mir) (hc8_0 : ¬ (((1 : Int32) + ((pi1 &&& (2147483647 : Int32)) % (3 : Int32))) = (1 : Int32))) (hc8_1 : ((1 : Int32) + ((pi1 &&& (2147483647 : Int32)) % (3 : Int32))) = (2 : Int32)) (hc15_2 : ¬ (((pi2 &&& (2147483647 : Int32)) % (2 : Int32)) = (0 : Int32))) :
    MetFree l x (head1 (Jvm.Cond.code x code maxLocals ret :: ws) room_1) (fun a U => a = #[(.int pi1), (.int pi2), (.int pi3)] ∧ Z.Warmed39 U.vm ∧ U.heap = h0) (fun _ _ _ _ _ => True) (fun _ U o U' => ∃ v L, o = .returned v ∧ Q0 v L n0 ∧ ReturnedEndW U o U' L room_1.cells room_1.slots) := by
  refine MetFree.of_bodySF (plainFor_of_name pn_0) hisR ?_
  intro p e s m args below meth c s₁ Bd hml0 hP hK
  obtain ⟨rfl, hZ, hh⟩ := hP
  have hx := Bd.exec
  have hby := Bd.bytes
  have hml : c.maxLocals = 14 := hml0
  have hown : s.vm.findClass "com/example/tyche/tyche/model/jani/OperationOperandPinLaw" = some m.cls := findClass_of_methodNamed Bd.named
  have hnm := (name_of_methodNamed Bd.named Bd.method).1
  have X0 : Stand p l e room_1 s m #[(.int pi1), (.int pi2), (.int pi3)] below meth c s₁ [] 0 0 := Stand.of_body Bd
  have e0 : s₁.heap = h0 := by rw [← hh, Bd.state]; rfl
  have N0 := Fr.nil n0
  have pre0 : ∀ t, Steps p.tables e below (s₁.setTop (mkF m 0 #[vi pi1, vi pi2, vi pi3, .unset, .unset, .unset, .unset, .unset, .unset, .unset, .unset, .unset, .unset, .unset] [])) t → Steps p.tables e below (s₁.setTop (entryFrame m #[(.int pi1), (.int pi2), (.int pi3)] maxLocals)) t := fun t k => castTop (ef_0 m pi1 pi2 pi3) k
  obtain ⟨T1, h1, X1, e1, E1, A1, D1, -, st1⟩ := newO X0 hx hZ hown (own_W hw 1 rfl) (own_W hw 2 rfl) (own_W hw 3 rfl) e0 (g := (mkF m 25 #[vi pi1, vi pi2, vi pi3, vi 2, vi 1, vi 0, .unset, .unset, .unset, .unset, .unset, .unset, .unset, .unset] [])) rfl (hb hby at_25) (by decide) (by decide)
  obtain ⟨b1, g1⟩ : ∃ z, z = h0.size := ⟨_, rfl⟩
  rw [← g1] at A1 D1 st1
  have F_operator_b1 : Fld Z h1 b1 "com/example/tyche/tyche/model/jani/Expression$Operation" "operator" "Lcom/example/tyche/tyche/model/jani/Operator;" .null := D1 (Or.inr (own_W hw 80 rfl)) (ty := (.object "com/example/tyche/tyche/model/jani/Operator")) (by decide)
  have F_operands_b1 : Fld Z h1 b1 "com/example/tyche/tyche/model/jani/Expression$Operation" "operands" "Ljava/util/List;" .null := D1 (Or.inr (own_W hw 82 rfl)) (ty := (.object "java/util/List")) (by decide)
  have F_path_b1 : Fld Z h1 b1 "com/example/tyche/tyche/model/jani/Expression$Operation" "path" "Ljava/lang/String;" .null := D1 (Or.inr (own_W hw 84 rfl)) (ty := (.object "java/lang/String")) (by decide)
  have o3 := O0.ext E1
  obtain ⟨T2, X2, e2, st2⟩ := getS2 X1 hx hZ hown (host := "") (Or.inl (own_W hw 4 rfl)) Via.refl e1 (S_NOT.ext o3.2) (g := (mkF m 29 #[vi pi1, vi pi2, vi pi3, vi 2, vi 1, vi 0, .unset, .unset, .unset, .unset, .unset, .unset, .unset, .unset] [(.ref b1), (.ref b1)])) rfl (hb hby at_29)
  obtain ⟨T4, h4, X4, e4, E4, A4, D4, -, st4⟩ := newO X2 hx hZ hown (own_W hw 7 rfl) (own_W hw 8 rfl) (own_W hw 9 rfl) e2 (g := (mkF m 32 #[vi pi1, vi pi2, vi pi3, vi 2, vi 1, vi 0, .unset, .unset, .unset, .unset, .unset, .unset, .unset, .unset] [(.ref w_NOT), (.ref b1), (.ref b1)])) rfl (hb hby at_32) (by decide) (by decide)
  obtain ⟨b4, g4⟩ : ∃ z, z = h1.size := ⟨_, rfl⟩
  rw [← g4] at A4 D4 st4
  have F_modCount_b4 : Fld Z h4 b4 "java/util/AbstractList" "modCount" "I" (.int 0) := D4 (Or.inl (own_W hw 29 rfl)) (ty := .int) (by decide)
  have F_elementData_b4 : Fld Z h4 b4 "java/util/ArrayList" "elementData" "[Ljava/lang/Object;" .null := D4 (Or.inl (own_W hw 32 rfl)) (ty := (.array (.object "java/lang/Object"))) (by decide)
  have F_size_b4 : Fld Z h4 b4 "java/util/ArrayList" "size" "I" (.int 0) := D4 (Or.inl (own_W hw 74 rfl)) (ty := .int) (by decide)
  have z5 := Nat.le_trans Z0 E1.1
  have g_b4 : n0 ≤ b4 := Nat.le_trans z5 (Nat.le_of_eq g4.symm)
  have z7 := Nat.le_trans z5 E4.1
  have o8 := o3.ext E4
  obtain ⟨_, _, ⟨T6, L6, k6, n6⟩, -, X6, ⟨Lc6, hQ6, l6, y6, z6⟩, st6⟩ := X4.specialBack hx (y := mN2) rfl hown (mvT hZ (own_W hw 10 rfl)) (mvT hZ (own_W hw 11 rfl)) (mvT hZ (own_W hw 12 rfl)) (by decide) (backOf (W := 4) (rm1 l Z a0 hw [] b4 w_DEF (.int 0) .null (.int 0) h4 n0 z7 o8 A4 S_DEFAULTCAPACITY_EMPTY_ELEMENTDATA F_modCount_b4 F_elementData_b4 F_size_b4 g_b4) hZ (own_W hw 12 rfl) (own_W hw 9 rfl) (by decide) (by decide)) (g := (mkF m 36 #[vi pi1, vi pi2, vi pi3, vi 2, vi 1, vi 0, .unset, .unset, .unset, .unset, .unset, .unset, .unset, .unset] [(.ref b4), (.ref b4), (.ref w_NOT), (.ref b1), (.ref b1)])) rfl (by rw [hml]; rfl) (Steps.refl _) (a := b4) (argsL := []) (rest := [(.ref b4), (.ref w_NOT), (.ref b1), (.ref b1)]) (lenOf pd_0 rfl) rfl (by show 2 * 0 + _ ≤ _; exact Nat.le_of_eq rfl) (hb hby at_36) (fun _ _ => ⟨rfl, e4, (by decide : 2 + 0 ≤ _), (by decide : 6 + 0 ≤ _)⟩)
  dsimp only [Pt.U, Pt.locs, Pt.cells, Pt.slots] at X6 l6 y6 z6 st6 hQ6
  subst l6 y6 z6
  obtain ⟨rfl, N6q, K6, qf6_0, qf6_1, qf6_2, qf6_3⟩ := hQ6
  have N6 := Fr.app N0 N6q
  obtain ⟨sa9, T9, h9, ks9, X9, e9, E9, hS9, hk9, hZ9, hown9, st9⟩ := ldcS (show Stand p l e room_1 (s.setVm s.vm) m _ below meth c T6 _ _ _ from X6) hx hZ hown (own_W hw 33 rfl) (own_wS hw) rfl (own_since0 s) (Nat.zero_le _) (g := (mkF m 39 #[vi pi1, vi pi2, vi pi3, vi 2, vi 1, vi 0, .unset, .unset, .unset, .unset, .unset, .unset, .unset, .unset] [(.ref b4), (.ref w_NOT), (.ref b1), (.ref b1)])) rfl (hb hby at_39) (n := 4) (by decide) (by decide) (by decide) (by decide)
  have f10 := A1.ext E4
  have f11 := f10.keep K6
  have f12 := f11.ext E9
  have f13 := qf6_0.ext E9
  have f14 := qf6_3.ext E9
  have f15 := F_operator_b1.ext E4
  have f16 := f15.keep K6 (ninS (Nat.ne_of_lt (Nat.lt_of_lt_of_le F_path_b1.lt (Nat.le_of_eq g4.symm))) nin0)
  have f17 := f16.ext E9
  have g_b1 : n0 ≤ b1 := Nat.le_trans Z0 (Nat.le_of_eq g1.symm)
  have f18 := F_operands_b1.ext E4
  have f19 := f18.keep K6 (ninS (Nat.ne_of_lt (Nat.lt_of_lt_of_le F_path_b1.lt (Nat.le_of_eq g4.symm))) nin0)
  have f20 := f19.ext E9
  have f21 := F_path_b1.ext E4
  have f22 := f21.keep K6 (ninS (Nat.ne_of_lt (Nat.lt_of_lt_of_le F_path_b1.lt (Nat.le_of_eq g4.symm))) nin0)
  have f23 := f22.ext E9
  have z25 := Nat.le_trans z7 K6.1
  have z26 := Nat.le_trans z25 E9.1
  have o27 := o8.keep K6 (allS g_b4 all0)
  have o28 := o27.ext E9
  obtain ⟨_, _, ⟨T24, L24, k24, n24⟩, -, X24, ⟨Lc24, hQ24, l24, y24, z24⟩, st24⟩ := X9.specialBack hx (y := mN27) rfl hown9 (mvT hZ9 (own_W hw 41 rfl)) (mvT hZ9 (own_W hw 42 rfl)) (mvT hZ9 (own_W hw 43 rfl)) (by decide) (backOf (W := 1) (rm5_0 l Z a0 hw [] b1 w_NOT b4 sa9 w_EMPTY_LIST .null .null .null h9 n0 z26 o28 f12 f13 f14 S_EMPTY_LIST f17 g_b1 f20 f23) hZ9 (own_W hw 43 rfl) (own_W hw 3 rfl) (by decide) (by decide)) (g := (mkF m 41 #[vi pi1, vi pi2, vi pi3, vi 2, vi 1, vi 0, .unset, .unset, .unset, .unset, .unset, .unset, .unset, .unset] [(.ref sa9), (.ref b4), (.ref w_NOT), (.ref b1), (.ref b1)])) rfl (by rw [hml]; rfl) (Steps.refl _) (a := b1) (argsL := [(.ref w_NOT), (.ref b4), (.ref sa9)]) (rest := [(.ref b1)]) (lenOf pd_1 rfl) rfl (by show 2 * 0 + _ ≤ _; exact Nat.le_of_eq rfl) (hb hby at_41) (fun _ _ => ⟨rfl, e9, (by decide : 4 + 0 ≤ _), (by decide : 14 + 0 ≤ _)⟩)
  dsimp only [Pt.U, Pt.locs, Pt.cells, Pt.slots] at X24 l24 y24 z24 st24 hQ24
  subst l24 y24 z24
  obtain ⟨rfl, N24q, K24, qf24_0, qf24_1, qf24_2, qf24_3⟩ := hQ24
  have N24 := Fr.app N6 N24q
  obtain ⟨T29, h29, X29, e29, E29, A29, D29, -, st29⟩ := newO X24 hx hZ9 hown9 (own_W hw 1 rfl) (own_W hw 2 rfl) (own_W hw 3 rfl) rfl (g := (mkF m 46 #[vi pi1, vi pi2, vi pi3, vi 2, vi 1, vi 0, vr b1, .unset, .unset, .unset, .unset, .unset, .unset, .unset] [])) rfl (hb hby at_46) (by decide) (by decide)
  obtain ⟨b29, g29⟩ : ∃ z, z = T24.heap.size := ⟨_, rfl⟩
  rw [← g29] at A29 D29 st29
  have F_operator_b29 : Fld Z h29 b29 "com/example/tyche/tyche/model/jani/Expression$Operation" "operator" "Lcom/example/tyche/tyche/model/jani/Operator;" .null := D29 (Or.inr (own_W hw 80 rfl)) (ty := (.object "com/example/tyche/tyche/model/jani/Operator")) (by decide)
  have F_operands_b29 : Fld Z h29 b29 "com/example/tyche/tyche/model/jani/Expression$Operation" "operands" "Ljava/util/List;" .null := D29 (Or.inr (own_W hw 82 rfl)) (ty := (.object "java/util/List")) (by decide)
  have F_path_b29 : Fld Z h29 b29 "com/example/tyche/tyche/model/jani/Expression$Operation" "path" "Ljava/lang/String;" .null := D29 (Or.inr (own_W hw 84 rfl)) (ty := (.object "java/lang/String")) (by decide)
  have o31 := o28.keep K24 (allS g_b1 all0)
  have o32 := o31.ext E29
  obtain ⟨T30, X30, e30, st30⟩ := getS2 X29 hx hZ9 hown9 (host := "") (Or.inl (own_W hw 85 rfl)) Via.refl e29 (S_AND.ext o32.2) (g := (mkF m 50 #[vi pi1, vi pi2, vi pi3, vi 2, vi 1, vi 0, vr b1, .unset, .unset, .unset, .unset, .unset, .unset, .unset] [(.ref b29), (.ref b29)])) rfl (hb hby at_50)
  obtain ⟨T33, h33, X33, e33, E33, A33, D33, -, st33⟩ := newO X30 hx hZ9 hown9 (own_W hw 7 rfl) (own_W hw 8 rfl) (own_W hw 9 rfl) e30 (g := (mkF m 53 #[vi pi1, vi pi2, vi pi3, vi 2, vi 1, vi 0, vr b1, .unset, .unset, .unset, .unset, .unset, .unset, .unset] [(.ref w_AND), (.ref b29), (.ref b29)])) rfl (hb hby at_53) (by decide) (by decide)
  obtain ⟨b33, g33⟩ : ∃ z, z = h29.size := ⟨_, rfl⟩
  rw [← g33] at A33 D33 st33
  have F_modCount_b33 : Fld Z h33 b33 "java/util/AbstractList" "modCount" "I" (.int 0) := D33 (Or.inl (own_W hw 29 rfl)) (ty := .int) (by decide)
  have F_elementData_b33 : Fld Z h33 b33 "java/util/ArrayList" "elementData" "[Ljava/lang/Object;" .null := D33 (Or.inl (own_W hw 32 rfl)) (ty := (.array (.object "java/lang/Object"))) (by decide)
  have F_size_b33 : Fld Z h33 b33 "java/util/ArrayList" "size" "I" (.int 0) := D33 (Or.inl (own_W hw 74 rfl)) (ty := .int) (by decide)
  have z34 := Nat.le_trans z26 K24.1
  have z35 := Nat.le_trans z34 E29.1
  have g_b33 : n0 ≤ b33 := Nat.le_trans z35 (Nat.le_of_eq g33.symm)
  have z37 := Nat.le_trans z35 E33.1
  have o38 := o32.ext E33
  obtain ⟨_, _, ⟨T36, L36, k36, n36⟩, -, X36, ⟨Lc36, hQ36, l36, y36, z36⟩, st36⟩ := X33.specialBack hx (y := mN2) rfl hown9 (mvT hZ9 (own_W hw 10 rfl)) (mvT hZ9 (own_W hw 11 rfl)) (mvT hZ9 (own_W hw 12 rfl)) (by decide) (backOf (W := 4) (rm1 l Z a0 hw [] b33 w_DEF (.int 0) .null (.int 0) h33 n0 z37 o38 A33 S_DEFAULTCAPACITY_EMPTY_ELEMENTDATA F_modCount_b33 F_elementData_b33 F_size_b33 g_b33) hZ9 (own_W hw 12 rfl) (own_W hw 9 rfl) (by decide) (by decide)) (g := (mkF m 57 #[vi pi1, vi pi2, vi pi3, vi 2, vi 1, vi 0, vr b1, .unset, .unset, .unset, .unset, .unset, .unset, .unset] [(.ref b33), (.ref b33), (.ref w_AND), (.ref b29), (.ref b29)])) rfl (by rw [hml]; rfl) (Steps.refl _) (a := b33) (argsL := []) (rest := [(.ref b33), (.ref w_AND), (.ref b29), (.ref b29)]) (lenOf pd_0 rfl) rfl (by show 2 * 0 + _ ≤ _; exact Nat.le_of_eq rfl) (hb hby at_57) (fun _ _ => ⟨rfl, e33, (by decide : 6 + 0 ≤ _), (by decide : 20 + 0 ≤ _)⟩)
  dsimp only [Pt.U, Pt.locs, Pt.cells, Pt.slots] at X36 l36 y36 z36 st36 hQ36
  subst l36 y36 z36
  obtain ⟨rfl, N36q, K36, qf36_0, qf36_1, qf36_2, qf36_3⟩ := hQ36
  have N36 := Fr.app N24 N36q
  have y40 := Nat.le_trans hk9 K24.1
  have y41 := Nat.le_trans y40 E29.1
  have y42 := Nat.le_trans y41 E33.1
  have y43 := Nat.le_trans y42 K36.1
  obtain ⟨sa39, T39, h39, ks39, X39, e39, E39, hS39, hk39, hZ39, hown39, st39⟩ := ldcS X36 hx hZ9 hown9 (own_W hw 87 rfl) (own_wS hw) rfl hS9 y43 (g := (mkF m 60 #[vi pi1, vi pi2, vi pi3, vi 2, vi 1, vi 0, vr b1, .unset, .unset, .unset, .unset, .unset, .unset, .unset] [(.ref b33), (.ref w_AND), (.ref b29), (.ref b29)])) rfl (hb hby at_60) (n := 4) (by decide) (by decide) (by decide) (by decide)
  have f44 := A29.ext E33
  have f45 := f44.keep K36
  have f46 := f45.ext E39
  have f47 := qf36_0.ext E39
  have f48 := qf36_3.ext E39
  have f49 := F_operator_b29.ext E33
  have f50 := f49.keep K36 (ninS (Nat.ne_of_lt (Nat.lt_of_lt_of_le F_path_b29.lt (Nat.le_of_eq g33.symm))) nin0)
  have f51 := f50.ext E39
  have g_b29 : n0 ≤ b29 := Nat.le_trans z34 (Nat.le_of_eq g29.symm)
  have f52 := F_operands_b29.ext E33
  have f53 := f52.keep K36 (ninS (Nat.ne_of_lt (Nat.lt_of_lt_of_le F_path_b29.lt (Nat.le_of_eq g33.symm))) nin0)
  have f54 := f53.ext E39
  have f55 := F_path_b29.ext E33
  have f56 := f55.keep K36 (ninS (Nat.ne_of_lt (Nat.lt_of_lt_of_le F_path_b29.lt (Nat.le_of_eq g33.symm))) nin0)
  have f57 := f56.ext E39
  have z59 := Nat.le_trans z37 K36.1
  have z60 := Nat.le_trans z59 E39.1
  have o61 := o38.keep K36 (allS g_b33 all0)
  have o62 := o61.ext E39
  obtain ⟨_, _, ⟨T58, L58, k58, n58⟩, -, X58, ⟨Lc58, hQ58, l58, y58, z58⟩, st58⟩ := X39.specialBack hx (y := mN27) rfl hown39 (mvT hZ39 (own_W hw 41 rfl)) (mvT hZ39 (own_W hw 42 rfl)) (mvT hZ39 (own_W hw 43 rfl)) (by decide) (backOf (W := 1) (rm5_0 l Z a0 hw [] b29 w_AND b33 sa39 w_EMPTY_LIST .null .null .null h39 n0 z60 o62 f46 f47 f48 S_EMPTY_LIST f51 g_b29 f54 f57) hZ39 (own_W hw 43 rfl) (own_W hw 3 rfl) (by decide) (by decide)) (g := (mkF m 62 #[vi pi1, vi pi2, vi pi3, vi 2, vi 1, vi 0, vr b1, .unset, .unset, .unset, .unset, .unset, .unset, .unset] [(.ref sa39), (.ref b33), (.ref w_AND), (.ref b29), (.ref b29)])) rfl (by rw [hml]; rfl) (Steps.refl _) (a := b29) (argsL := [(.ref w_AND), (.ref b33), (.ref sa39)]) (rest := [(.ref b29)]) (lenOf pd_1 rfl) rfl (by show 2 * 0 + _ ≤ _; exact Nat.le_of_eq rfl) (hb hby at_62) (fun _ _ => ⟨rfl, e39, (by decide : 8 + 0 ≤ _), (by decide : 28 + 0 ≤ _)⟩)
  dsimp only [Pt.U, Pt.locs, Pt.cells, Pt.slots] at X58 l58 y58 z58 st58 hQ58
  subst l58 y58 z58
  obtain ⟨rfl, N58q, K58, qf58_0, qf58_1, qf58_2, qf58_3⟩ := hQ58
  have N58 := Fr.app N36 N58q
  obtain ⟨T63, h63, X63, e63, E63, A63, D63, -, st63⟩ := newO X58 hx hZ39 hown39 (own_W hw 1 rfl) (own_W hw 2 rfl) (own_W hw 3 rfl) rfl (g := (mkF m 67 #[vi pi1, vi pi2, vi pi3, vi 2, vi 1, vi 0, vr b1, vr b29, .unset, .unset, .unset, .unset, .unset, .unset] [])) rfl (hb hby at_67) (by decide) (by decide)
  obtain ⟨b63, g63⟩ : ∃ z, z = T58.heap.size := ⟨_, rfl⟩
  rw [← g63] at A63 D63 st63
  have F_operator_b63 : Fld Z h63 b63 "com/example/tyche/tyche/model/jani/Expression$Operation" "operator" "Lcom/example/tyche/tyche/model/jani/Operator;" .null := D63 (Or.inr (own_W hw 80 rfl)) (ty := (.object "com/example/tyche/tyche/model/jani/Operator")) (by decide)
  have F_operands_b63 : Fld Z h63 b63 "com/example/tyche/tyche/model/jani/Expression$Operation" "operands" "Ljava/util/List;" .null := D63 (Or.inr (own_W hw 82 rfl)) (ty := (.object "java/util/List")) (by decide)
  have F_path_b63 : Fld Z h63 b63 "com/example/tyche/tyche/model/jani/Expression$Operation" "path" "Ljava/lang/String;" .null := D63 (Or.inr (own_W hw 84 rfl)) (ty := (.object "java/lang/String")) (by decide)
  have o65 := o62.keep K58 (allS g_b29 all0)
  have o66 := o65.ext E63
  obtain ⟨T64, X64, e64, st64⟩ := getS2 X63 hx hZ39 hown39 (host := "") (Or.inl (own_W hw 88 rfl)) Via.refl e63 (S_DERIVATIVE.ext o66.2) (g := (mkF m 71 #[vi pi1, vi pi2, vi pi3, vi 2, vi 1, vi 0, vr b1, vr b29, .unset, .unset, .unset, .unset, .unset, .unset] [(.ref b63), (.ref b63)])) rfl (hb hby at_71)
  obtain ⟨T67, h67, X67, e67, E67, A67, D67, -, st67⟩ := newO X64 hx hZ39 hown39 (own_W hw 7 rfl) (own_W hw 8 rfl) (own_W hw 9 rfl) e64 (g := (mkF m 74 #[vi pi1, vi pi2, vi pi3, vi 2, vi 1, vi 0, vr b1, vr b29, .unset, .unset, .unset, .unset, .unset, .unset] [(.ref w_DERIVATIVE), (.ref b63), (.ref b63)])) rfl (hb hby at_74) (by decide) (by decide)
  obtain ⟨b67, g67⟩ : ∃ z, z = h63.size := ⟨_, rfl⟩
  rw [← g67] at A67 D67 st67
  have F_modCount_b67 : Fld Z h67 b67 "java/util/AbstractList" "modCount" "I" (.int 0) := D67 (Or.inl (own_W hw 29 rfl)) (ty := .int) (by decide)
  have F_elementData_b67 : Fld Z h67 b67 "java/util/ArrayList" "elementData" "[Ljava/lang/Object;" .null := D67 (Or.inl (own_W hw 32 rfl)) (ty := (.array (.object "java/lang/Object"))) (by decide)
  have F_size_b67 : Fld Z h67 b67 "java/util/ArrayList" "size" "I" (.int 0) := D67 (Or.inl (own_W hw 74 rfl)) (ty := .int) (by decide)
  have z68 := Nat.le_trans z60 K58.1
  have z69 := Nat.le_trans z68 E63.1
  have g_b67 : n0 ≤ b67 := Nat.le_trans z69 (Nat.le_of_eq g67.symm)
  have z71 := Nat.le_trans z69 E67.1
  have o72 := o66.ext E67
  obtain ⟨_, _, ⟨T70, L70, k70, n70⟩, -, X70, ⟨Lc70, hQ70, l70, y70, z70⟩, st70⟩ := X67.specialBack hx (y := mN2) rfl hown39 (mvT hZ39 (own_W hw 10 rfl)) (mvT hZ39 (own_W hw 11 rfl)) (mvT hZ39 (own_W hw 12 rfl)) (by decide) (backOf (W := 4) (rm1 l Z a0 hw [] b67 w_DEF (.int 0) .null (.int 0) h67 n0 z71 o72 A67 S_DEFAULTCAPACITY_EMPTY_ELEMENTDATA F_modCount_b67 F_elementData_b67 F_size_b67 g_b67) hZ39 (own_W hw 12 rfl) (own_W hw 9 rfl) (by decide) (by decide)) (g := (mkF m 78 #[vi pi1, vi pi2, vi pi3, vi 2, vi 1, vi 0, vr b1, vr b29, .unset, .unset, .unset, .unset, .unset, .unset] [(.ref b67), (.ref b67), (.ref w_DERIVATIVE), (.ref b63), (.ref b63)])) rfl (by rw [hml]; rfl) (Steps.refl _) (a := b67) (argsL := []) (rest := [(.ref b67), (.ref w_DERIVATIVE), (.ref b63), (.ref b63)]) (lenOf pd_0 rfl) rfl (by show 2 * 0 + _ ≤ _; exact Nat.le_of_eq rfl) (hb hby at_78) (fun _ _ => ⟨rfl, e67, (by decide : 10 + 0 ≤ _), (by decide : 34 + 0 ≤ _)⟩)
  dsimp only [Pt.U, Pt.locs, Pt.cells, Pt.slots] at X70 l70 y70 z70 st70 hQ70
  subst l70 y70 z70
  obtain ⟨rfl, N70q, K70, qf70_0, qf70_1, qf70_2, qf70_3⟩ := hQ70
  have N70 := Fr.app N58 N70q
  have y74 := Nat.le_trans hk39 K58.1
  have y75 := Nat.le_trans y74 E63.1
  have y76 := Nat.le_trans y75 E67.1
  have y77 := Nat.le_trans y76 K70.1
  obtain ⟨sa73, T73, h73, ks73, X73, e73, E73, hS73, hk73, hZ73, hown73, st73⟩ := ldcS X70 hx hZ39 hown39 (own_W hw 90 rfl) (own_wS hw) rfl hS39 y77 (g := (mkF m 81 #[vi pi1, vi pi2, vi pi3, vi 2, vi 1, vi 0, vr b1, vr b29, .unset, .unset, .unset, .unset, .unset, .unset] [(.ref b67), (.ref w_DERIVATIVE), (.ref b63), (.ref b63)])) rfl (hb hby at_81) (n := 4) (by decide) (by decide) (by decide) (by decide)
  have f78 := A63.ext E67
  have f79 := f78.keep K70
  have f80 := f79.ext E73
  have f81 := qf70_0.ext E73
  have f82 := qf70_3.ext E73
  have f83 := F_operator_b63.ext E67
  have f84 := f83.keep K70 (ninS (Nat.ne_of_lt (Nat.lt_of_lt_of_le F_path_b63.lt (Nat.le_of_eq g67.symm))) nin0)
  have f85 := f84.ext E73
  have g_b63 : n0 ≤ b63 := Nat.le_trans z68 (Nat.le_of_eq g63.symm)
  have f86 := F_operands_b63.ext E67
  have f87 := f86.keep K70 (ninS (Nat.ne_of_lt (Nat.lt_of_lt_of_le F_path_b63.lt (Nat.le_of_eq g67.symm))) nin0)
  have f88 := f87.ext E73
  have f89 := F_path_b63.ext E67
  have f90 := f89.keep K70 (ninS (Nat.ne_of_lt (Nat.lt_of_lt_of_le F_path_b63.lt (Nat.le_of_eq g67.symm))) nin0)
  have f91 := f90.ext E73
  have z93 := Nat.le_trans z71 K70.1
  have z94 := Nat.le_trans z93 E73.1
  have o95 := o72.keep K70 (allS g_b67 all0)
  have o96 := o95.ext E73
  obtain ⟨_, _, ⟨T92, L92, k92, n92⟩, -, X92, ⟨Lc92, hQ92, l92, y92, z92⟩, st92⟩ := X73.specialBack hx (y := mN27) rfl hown73 (mvT hZ73 (own_W hw 41 rfl)) (mvT hZ73 (own_W hw 42 rfl)) (mvT hZ73 (own_W hw 43 rfl)) (by decide) (backOf (W := 1) (rm5_0 l Z a0 hw [] b63 w_DERIVATIVE b67 sa73 w_EMPTY_LIST .null .null .null h73 n0 z94 o96 f80 f81 f82 S_EMPTY_LIST f85 g_b63 f88 f91) hZ73 (own_W hw 43 rfl) (own_W hw 3 rfl) (by decide) (by decide)) (g := (mkF m 83 #[vi pi1, vi pi2, vi pi3, vi 2, vi 1, vi 0, vr b1, vr b29, .unset, .unset, .unset, .unset, .unset, .unset] [(.ref sa73), (.ref b67), (.ref w_DERIVATIVE), (.ref b63), (.ref b63)])) rfl (by rw [hml]; rfl) (Steps.refl _) (a := b63) (argsL := [(.ref w_DERIVATIVE), (.ref b67), (.ref sa73)]) (rest := [(.ref b63)]) (lenOf pd_1 rfl) rfl (by show 2 * 0 + _ ≤ _; exact Nat.le_of_eq rfl) (hb hby at_83) (fun _ _ => ⟨rfl, e73, (by decide : 12 + 0 ≤ _), (by decide : 42 + 0 ≤ _)⟩)
  dsimp only [Pt.U, Pt.locs, Pt.cells, Pt.slots] at X92 l92 y92 z92 st92 hQ92
  subst l92 y92 z92
  obtain ⟨rfl, N92q, K92, qf92_0, qf92_1, qf92_2, qf92_3⟩ := hQ92
  have N92 := Fr.app N70 N92q
  obtain ⟨T97, h97, X97, e97, E97, A97, D97, -, st97⟩ := newO X92 hx hZ73 hown73 (own_W hw 7 rfl) (own_W hw 8 rfl) (own_W hw 9 rfl) rfl (g := (mkF m 88 #[vi pi1, vi pi2, vi pi3, vi 2, vi 1, vi 0, vr b1, vr b29, vr b63, .unset, .unset, .unset, .unset, .unset] [])) rfl (hb hby at_88) (by decide) (by decide)
  obtain ⟨b97, g97⟩ : ∃ z, z = T92.heap.size := ⟨_, rfl⟩
  rw [← g97] at A97 D97 st97
  have F_modCount_b97 : Fld Z h97 b97 "java/util/AbstractList" "modCount" "I" (.int 0) := D97 (Or.inl (own_W hw 29 rfl)) (ty := .int) (by decide)
  have F_elementData_b97 : Fld Z h97 b97 "java/util/ArrayList" "elementData" "[Ljava/lang/Object;" .null := D97 (Or.inl (own_W hw 32 rfl)) (ty := (.array (.object "java/lang/Object"))) (by decide)
  have F_size_b97 : Fld Z h97 b97 "java/util/ArrayList" "size" "I" (.int 0) := D97 (Or.inl (own_W hw 74 rfl)) (ty := .int) (by decide)
  have z98 := Nat.le_trans z94 K92.1
  have g_b97 : n0 ≤ b97 := Nat.le_trans z98 (Nat.le_of_eq g97.symm)
  have z100 := Nat.le_trans z98 E97.1
  have o101 := o96.keep K92 (allS g_b63 all0)
  have o102 := o101.ext E97
  obtain ⟨_, _, ⟨T99, L99, k99, n99⟩, -, X99, ⟨Lc99, hQ99, l99, y99, z99⟩, st99⟩ := X97.specialBack hx (y := mN2) rfl hown73 (mvT hZ73 (own_W hw 10 rfl)) (mvT hZ73 (own_W hw 11 rfl)) (mvT hZ73 (own_W hw 12 rfl)) (by decide) (backOf (W := 1) (rm1 l Z a0 hw [] b97 w_DEF (.int 0) .null (.int 0) h97 n0 z100 o102 A97 S_DEFAULTCAPACITY_EMPTY_ELEMENTDATA F_modCount_b97 F_elementData_b97 F_size_b97 g_b97) hZ73 (own_W hw 12 rfl) (own_W hw 9 rfl) (by decide) (by decide)) (g := (mkF m 92 #[vi pi1, vi pi2, vi pi3, vi 2, vi 1, vi 0, vr b1, vr b29, vr b63, .unset, .unset, .unset, .unset, .unset] [(.ref b97), (.ref b97)])) rfl (by rw [hml]; rfl) (Steps.refl _) (a := b97) (argsL := []) (rest := [(.ref b97)]) (lenOf pd_0 rfl) rfl (by show 2 * 0 + _ ≤ _; exact Nat.le_of_eq rfl) (hb hby at_92) (fun _ _ => ⟨rfl, e97, (by decide : 13 + 0 ≤ _), (by decide : 45 + 0 ≤ _)⟩)
  dsimp only [Pt.U, Pt.locs, Pt.cells, Pt.slots] at X99 l99 y99 z99 st99 hQ99
  subst l99 y99 z99
  obtain ⟨rfl, N99q, K99, qf99_0, qf99_1, qf99_2, qf99_3⟩ := hQ99
  have N99 := Fr.app N92 N99q
  have f103 := qf24_0.ext E29
  have f104 := f103.ext E33
  have f105 := f104.keep K36
  have f106 := f105.ext E39
  have f107 := f106.keep K58
  have f108 := f107.ext E63
  have f109 := f108.ext E67
  have f110 := f109.keep K70
  have f111 := f110.ext E73
  have f112 := f111.keep K92
  have f113 := f112.ext E97
  have f114 := f113.keep K99
  have z116 := Nat.le_trans z100 K99.1
  have o117 := o102.keep K99 (allS g_b97 all0)
  obtain ⟨cq115, kq115, q115a, q115b, q115c⟩ := isOf hZ73 rfl qf99_0
  obtain ⟨_, _, ⟨T115, L115, k115, n115⟩, -, X115, ⟨Lc115, hQ115, l115, y115, z115⟩, st115⟩ := X99.virtualBack hx (y := mN7) (z := mN7) hown73 (mvT hZ73 (own_W hw 91 rfl)) (mvT hZ73 (own_W hw 92 rfl)) (notFace_of_selects (args := #[]) (mvT hZ73 (own_W hw 94 rfl))) (mvT hZ73 (own_W hw 94 rfl)) (mvT hZ73 (own_W hw 93 rfl)) (by decide) (backOf (W := 0) (rm11_0 l Z a0 hw [] b97 b1 w_DEF kk_w_DEF (0 : Int32) T99.heap n0 z116 o117 qf99_0 f114 S_DEFAULTCAPACITY_EMPTY_ELEMENTDATA V_w_DEF qf99_1 qf99_2 qf99_3 g_b97) hZ73 (own_W hw 95 rfl) (own_W hw 9 rfl) (by decide) (by decide)) q115a q115c (g := (mkF m 101 #[vi pi1, vi pi2, vi pi3, vi 2, vi 1, vi 0, vr b1, vr b29, vr b63, vr b97, .unset, .unset, .unset, .unset] [(.ref b1), (.ref b97)])) rfl (by rw [hml]; rfl) (Steps.refl _) (argsL := [(.ref b1)]) (rest := []) (lenOf pd_5 rfl) rfl (by show 2 * 0 + _ ≤ _; exact Nat.le_of_eq rfl) (hb hby at_101) (fun _ _ => ⟨rfl, rfl, (by decide : 13 + 1 ≤ _), (by decide : 45 + 10 ≤ _)⟩)
  dsimp only [Pt.U, Pt.locs, Pt.cells, Pt.slots] at X115 l115 y115 z115 st115 hQ115
  subst l115 y115 z115
  obtain ⟨b115, b115_1, rfl, N115q, K115, qf115_0, qf115_1, qf115_2, qf115_3, qf115_4, qf115_5, qf115_6, qf115_7⟩ := hQ115
  have N115 := Fr.app N99 N115q
  have f118 := qf58_0.ext E63
  have f119 := f118.ext E67
  have f120 := f119.keep K70
  have f121 := f120.ext E73
  have f122 := f121.keep K92
  have f123 := f122.ext E97
  have f124 := f123.keep K99
  have f125 := f124.keep K115
  have g_b115 : n0 ≤ b115 := Nat.le_trans z116 qf115_4
  have z127 := Nat.le_trans z116 K115.1
  have o128 := o117.keep K115 (allS g_b97 all0)
  obtain ⟨cq126, kq126, q126a, q126b, q126c⟩ := isOf hZ73 rfl qf115_0
  obtain ⟨_, _, ⟨T126, L126, k126, n126⟩, -, X126, ⟨Lc126, hQ126, l126, y126, z126⟩, st126⟩ := X115.virtualBack hx (y := mN7) (z := mN7) hown73 (mvT hZ73 (own_W hw 91 rfl)) (mvT hZ73 (own_W hw 92 rfl)) (notFace_of_selects (args := #[]) (mvT hZ73 (own_W hw 94 rfl))) (mvT hZ73 (own_W hw 94 rfl)) (mvT hZ73 (own_W hw 93 rfl)) (by decide) (backOf (W := 0) (rm11_1 l Z a0 hw [] b97 b29 ((0 : Int32) + (1 : Int32)) b115 b115_1 (.ref b1) .null .null .null .null .null .null .null .null .null T115.heap n0 z127 o128 qf115_0 f125 qf115_1 qf115_2 qf115_6 qf115_7 qf115_3 g_b97 (Ne.symm (Nat.ne_of_lt (Nat.lt_of_lt_of_le qf99_0.lt qf115_4))) g_b115) hZ73 (own_W hw 95 rfl) (own_W hw 9 rfl) (by decide) (by decide)) q126a q126c (g := (mkF m 114 #[vi pi1, vi pi2, vi pi3, vi 2, vi 1, vi 0, vr b1, vr b29, vr b63, vr b97, .unset, .unset, .unset, .unset] [(.ref b29), (.ref b97)])) rfl (by rw [hml]; rfl) (Steps.refl _) (argsL := [(.ref b29)]) (rest := []) (lenOf pd_5 rfl) rfl (by show 2 * 0 + _ ≤ _; exact Nat.le_of_eq rfl) (hb hby at_114) (fun _ _ => ⟨rfl, rfl, (by decide : 14 + 0 ≤ _), (by decide : 55 + 0 ≤ _)⟩)
  dsimp only [Pt.U, Pt.locs, Pt.cells, Pt.slots] at X126 l126 y126 z126 st126 hQ126
  subst l126 y126 z126
  obtain ⟨rfl, N126q, K126, qf126_0, qf126_1, qf126_2, qf126_3, qf126_4, qf126_5⟩ := hQ126
  have N126 := Fr.app N115 N126q
  obtain ⟨T129, h129, X129, e129, E129, A129, D129, -, st129⟩ := newO X126 hx hZ73 hown73 (own_W hw 1 rfl) (own_W hw 2 rfl) (own_W hw 3 rfl) rfl (g := (mkF m 131 #[vi pi1, vi pi2, vi pi3, vi 2, vi 1, vi 0, vr b1, vr b29, vr b63, vr b97, .unset, .unset, .unset, .unset] [])) rfl (hb hby at_131) (by decide) (by decide)
  obtain ⟨b129, g129⟩ : ∃ z, z = T126.heap.size := ⟨_, rfl⟩
  rw [← g129] at A129 D129 st129
  have F_operator_b129 : Fld Z h129 b129 "com/example/tyche/tyche/model/jani/Expression$Operation" "operator" "Lcom/example/tyche/tyche/model/jani/Operator;" .null := D129 (Or.inr (own_W hw 80 rfl)) (ty := (.object "com/example/tyche/tyche/model/jani/Operator")) (by decide)
  have F_operands_b129 : Fld Z h129 b129 "com/example/tyche/tyche/model/jani/Expression$Operation" "operands" "Ljava/util/List;" .null := D129 (Or.inr (own_W hw 82 rfl)) (ty := (.object "java/util/List")) (by decide)
  have F_path_b129 : Fld Z h129 b129 "com/example/tyche/tyche/model/jani/Expression$Operation" "path" "Ljava/lang/String;" .null := D129 (Or.inr (own_W hw 84 rfl)) (ty := (.object "java/lang/String")) (by decide)
  have o131 := o128.keep K126 (allS g_b97 (allS g_b115 all0))
  have o132 := o131.ext E129
  obtain ⟨T130, X130, e130, st130⟩ := getS2 X129 hx hZ73 hown73 (host := "") (Or.inl (own_W hw 120 rfl)) Via.refl e129 (S_PLUS.ext o132.2) (g := (mkF m 135 #[vi pi1, vi pi2, vi pi3, vi 2, vi 1, vi 0, vr b1, vr b29, vr b63, vr b97, .unset, .unset, .unset, .unset] [(.ref b129), (.ref b129)])) rfl (hb hby at_135)
  have z134 := Nat.le_trans z127 K126.1
  have z135 := Nat.le_trans z134 E129.1
  obtain ⟨_, _, ⟨T133, L133, k133, n133⟩, -, X133, ⟨Lc133, hQ133, l133, y133, z133⟩, st133⟩ := Jvm.LawKit.callS X130 hx (y := mN31) hown73 (mvT hZ73 (own_W hw 122 rfl)) (mvT hZ73 (own_W hw 123 rfl)) (mvT hZ73 (own_W hw 34 rfl)) (mvT hZ73 (own_W hw 124 rfl)) (by decide) (backOf (W := 4) (rm16 l Z a0 hw [] ((pi3 &&& (255 : Int32)).toUInt32.toUInt16.toUInt32.toInt32) w_COMPACT_STRINGS h129 n0 z135 o132 S_COMPACT_STRINGS hCS (own_c255 _)) hZ73 (own_W hw 124 rfl) (own_W hw 34 rfl) (by decide) (by decide)) (g := (mkF m 146 #[vi pi1, vi pi2, vi pi3, vi 2, vi 1, vi 0, vr b1, vr b29, vr b63, vr b97, .unset, .unset, .unset, .unset] [(.int ((pi3 &&& (255 : Int32)).toUInt32.toUInt16.toUInt32.toInt32)), (.ref b97), (.ref w_PLUS), (.ref b129), (.ref b129)])) rfl (by rw [hml]; rfl) (argsL := [(.int ((pi3 &&& (255 : Int32)).toUInt32.toUInt16.toUInt32.toInt32))]) (rest := [(.ref b97), (.ref w_PLUS), (.ref b129), (.ref b129)]) (lenOf pd_10 rfl) rfl (by show 2 * 0 + _ ≤ _; exact Nat.le_of_eq rfl) (hb hby at_146) (fun _ _ => ⟨rfl, e130, (by decide : 15 + 2 ≤ _), (by decide : 58 + 5 ≤ _)⟩)
  dsimp only [Pt.U, Pt.locs, Pt.cells, Pt.slots] at X133 l133 y133 z133 st133 hQ133
  subst l133 y133 z133
  obtain ⟨b133, b133_1, rfl, N133q, K133, qf133_0, qf133_1⟩ := hQ133
  have N133 := Fr.app N126 N133q
  have f136 := A129.keep K133
  have f137 := qf126_0.ext E129
  have f138 := f137.keep K133
  have f139 := qf126_2.ext E129
  have f140 := f139.keep K133 nin0
  have f141 := qf126_3.ext E129
  have f142 := f141.keep K133 nin0
  have f143 := qf115_5.keep K126
  have f144 := f143.ext E129
  have f145 := f144.keep K133
  have f146 := qf126_4.ext E129
  have f147 := f146.keep K133 nin0
  have f148 := f114.keep K115
  have f149 := f148.keep K126
  have f150 := f149.ext E129
  have f151 := f150.keep K133
  have f152 := f125.keep K126
  have f153 := f152.ext E129
  have f154 := f153.keep K133
  have f155 := F_operator_b129.keep K133 nin0
  have g_b129 : n0 ≤ b129 := Nat.le_trans z134 (Nat.le_of_eq g129.symm)
  have f156 := F_operands_b129.keep K133 nin0
  have f157 := F_path_b129.keep K133 nin0
  have z159 := Nat.le_trans z135 K133.1
  have o160 := o132.keep K133 all0
  obtain ⟨_, _, ⟨T158, L158, k158, n158⟩, -, X158, ⟨Lc158, hQ158, l158, y158, z158⟩, st158⟩ := X133.specialBack hx (y := mN27) rfl hown73 (mvT hZ73 (own_W hw 41 rfl)) (mvT hZ73 (own_W hw 42 rfl)) (mvT hZ73 (own_W hw 43 rfl)) (by decide) (backOf (W := 1) (rm5_2 l Z a0 hw [] b129 w_PLUS b97 b133 w_mir b115 b115_1 b1 b29 .null .null .null .null .null .null .null .null .null .null .null T133.heap n0 z159 o160 f136 M_mir f138 f140 f142 f145 f147 f151 f154 f155 g_b129 f156 f157) hZ73 (own_W hw 43 rfl) (own_W hw 3 rfl) (by decide) (by decide)) (g := (mkF m 149 #[vi pi1, vi pi2, vi pi3, vi 2, vi 1, vi 0, vr b1, vr b29, vr b63, vr b97, .unset, .unset, .unset, .unset] [(.ref b133), (.ref b97), (.ref w_PLUS), (.ref b129), (.ref b129)])) rfl (by rw [hml]; rfl) (Steps.refl _) (a := b129) (argsL := [(.ref w_PLUS), (.ref b97), (.ref b133)]) (rest := [(.ref b129)]) (lenOf pd_1 rfl) rfl (by show 2 * 0 + _ ≤ _; exact Nat.le_of_eq rfl) (hb hby at_149) (fun _ _ => ⟨rfl, rfl, (by decide : 17 + 2 ≤ _), (by decide : 63 + 4 ≤ _)⟩)
  dsimp only [Pt.U, Pt.locs, Pt.cells, Pt.slots] at X158 l158 y158 z158 st158 hQ158
  subst l158 y158 z158
  obtain ⟨b158, rfl, N158q, K158, qf158_0, qf158_1, qf158_2, qf158_3, qf158_4, qf158_5, qf158_6, qf158_7⟩ := hQ158
  have N158 := Fr.app N133 N158q
  have f161 := f138.keep K158
  have f162 := f151.keep K158
  have f163 := qf126_1.ext E129
  have f164 := f163.keep K133 nin0
  have f165 := f164.keep K158 (ninS (Nat.ne_of_lt (Nat.lt_of_lt_of_le qf126_3.lt (Nat.le_of_eq g129.symm))) nin0)
  have f166 := f140.keep K158 (ninS (Nat.ne_of_lt (Nat.lt_of_lt_of_le qf126_3.lt (Nat.le_of_eq g129.symm))) nin0)
  have f167 := f147.keep K158 (ninS (Nat.ne_of_lt (Nat.lt_of_lt_of_le qf126_4.lt (Nat.le_of_eq g129.symm))) nin0)
  have f168 := f142.keep K158 (ninS (Nat.ne_of_lt (Nat.lt_of_lt_of_le qf126_3.lt (Nat.le_of_eq g129.symm))) nin0)
  have z170 := Nat.le_trans z159 K158.1
  have o171 := o160.keep K158 (allS g_b129 all0)
  obtain ⟨cq169, kq169, q169a, q169b, q169c⟩ := isOf hZ73 rfl f161
  obtain ⟨_, _, ⟨T169, L169, k169, n169⟩, -, X169, ⟨Lc169, hQ169, l169, y169, z169⟩, st169⟩ := X158.virtualBack hx (y := mN7) (z := mN7) hown73 (mvT hZ73 (own_W hw 91 rfl)) (mvT hZ73 (own_W hw 92 rfl)) (notFace_of_selects (args := #[]) (mvT hZ73 (own_W hw 94 rfl))) (mvT hZ73 (own_W hw 94 rfl)) (mvT hZ73 (own_W hw 93 rfl)) (by decide) (backOf (W := 0) (rm11_2 l Z a0 hw [] b97 b1 (((0 : Int32) + (1 : Int32)) + (1 : Int32)) b115 b115_1 (.ref b1) (.ref b29) .null .null .null .null .null .null .null .null T158.heap n0 z170 o171 f161 f162 f165 f166 f167 qf126_5 f168 g_b97 (Ne.symm (Nat.ne_of_lt (Nat.lt_of_lt_of_le qf99_0.lt qf115_4))) g_b115) hZ73 (own_W hw 95 rfl) (own_W hw 9 rfl) (by decide) (by decide)) q169a q169c (g := (mkF m 158 #[vi pi1, vi pi2, vi pi3, vi 2, vi 1, vi 0, vr b1, vr b29, vr b63, vr b97, vr b129, .unset, .unset, .unset] [(.ref b1), (.ref b97)])) rfl (by rw [hml]; rfl) (Steps.refl _) (argsL := [(.ref b1)]) (rest := []) (lenOf pd_5 rfl) rfl (by show 2 * 0 + _ ≤ _; exact Nat.le_of_eq rfl) (hb hby at_158) (fun _ _ => ⟨rfl, rfl, (by decide : 19 + 0 ≤ _), (by decide : 67 + 0 ≤ _)⟩)
  dsimp only [Pt.U, Pt.locs, Pt.cells, Pt.slots] at X169 l169 y169 z169 st169 hQ169
  subst l169 y169 z169
  obtain ⟨rfl, N169q, K169, qf169_0, qf169_1, qf169_2, qf169_3, qf169_4, qf169_5⟩ := hQ169
  have N169 := Fr.app N158 N169q
  have f172 := f145.keep K158
  have f173 := qf158_2.keep K169 (ninS (Ne.symm (Nat.ne_of_lt (Nat.lt_of_lt_of_le qf126_3.lt (Nat.le_of_eq g129.symm)))) (ninS (Ne.symm (Nat.ne_of_lt (Nat.lt_of_lt_of_le qf126_4.lt (Nat.le_of_eq g129.symm)))) nin0))
  have f174 := qf158_5.keep K169
  have f175 := qf158_7.keep K169 (ninS (Ne.symm (Nat.ne_of_lt (Nat.lt_of_lt_of_le f142.lt qf158_4))) (ninS (Ne.symm (Nat.ne_of_lt (Nat.lt_of_lt_of_le f147.lt qf158_4))) nin0))
  have f176 := f154.keep K158
  have f177 := f176.keep K169
  have z179 := Nat.le_trans z170 K169.1
  have o180 := o171.keep K169 (allS g_b97 (allS g_b115 all0))
  have f181 := qf158_0.keep K169
  obtain ⟨cq178, kq178, q178a, q178b, q178c⟩ := isOf hZ73 rfl f181
  obtain ⟨_, _, ⟨T178, L178, k178, n178⟩, -, X178, ⟨Lc178, hQ178, l178, y178, z178⟩, st178⟩ := X169.virtualBack hx (y := mN36) (z := mN36) hown73 (mvT hZ73 (own_W hw 204 rfl)) (mvT hZ73 (own_W hw 205 rfl)) (notFace_of_selects (args := #[]) (mvT hZ73 (own_W hw 207 rfl))) (mvT hZ73 (own_W hw 207 rfl)) (mvT hZ73 (own_W hw 206 rfl)) (by decide) (backOf (W := 0) (rm29_1 l Z a0 hw [] b129 w_EMPTY b158 b29 T169.heap n0 z179 o180 S_EMPTY E_w_EMPTY f173 f174 f175 f177 g_b29) hZ73 (own_W hw 208 rfl) (own_W hw 3 rfl) (by decide) (by decide)) q178a q178c (g := (mkF m 166 #[vi pi1, vi pi2, vi pi3, vi 2, vi 1, vi 0, vr b1, vr b29, vr b63, vr b97, vr b129, .unset, .unset, .unset] [(.int 1), (.ref b129)])) rfl (by rw [hml]; rfl) (Steps.refl _) (argsL := [(.int 1)]) (rest := []) (lenOf pd_21 rfl) rfl (by show 2 * 0 + _ ≤ _; exact Nat.le_of_eq rfl) (hb hby at_166) (fun _ _ => ⟨rfl, rfl, (by decide : 19 + 0 ≤ _), (by decide : 67 + 0 ≤ _)⟩)
  dsimp only [Pt.U, Pt.locs, Pt.cells, Pt.slots] at X178 l178 y178 z178 st178 hQ178
  subst l178 y178 z178
  obtain ⟨rfl, N178q, eq178⟩ := hQ178
  have N178 := Fr.app N169 N178q
  obtain ⟨_, _, ⟨T182, L182, k182, n182⟩, -, X182, ⟨Lc182, hQ182, l182, y182, z182⟩, st182⟩ := Jvm.LawKit.callS X178 hx (y := mN39) hown73 (mvT hZ73 (own_W hw 220 rfl)) (mvT hZ73 (own_W hw 221 rfl)) (mvT hZ73 (own_W hw 222 rfl)) (mvT hZ73 (own_W hw 223 rfl)) (by decide) (backOf (W := 1) (rm31_1 l Z a0 hw [] b1 b29 b63 T169.heap n0 z179 o180 ) hZ73 (own_W hw 223 rfl) (own_W hw 222 rfl) (by decide) (by decide)) (g := (mkF m 177 #[vi pi1, vi pi2, vi pi3, vi 2, vi 1, vi 0, vr b1, vr b29, vr b63, vr b97, vr b129, .unset, .unset, .unset] [(.ref b63), (.ref b29), (.ref b1), (.int 1), (.ref b29)])) rfl (by rw [hml]; rfl) (argsL := [(.int 1), (.ref b1), (.ref b29), (.ref b63)]) (rest := [(.ref b29)]) (lenOf pd_23 rfl) rfl (by show 2 * 0 + _ ≤ _; exact Nat.le_of_eq rfl) (hb hby at_177) (fun _ _ => ⟨rfl, eq178, (by decide : 19 + 0 ≤ _), (by decide : 67 + 0 ≤ _)⟩)
  dsimp only [Pt.U, Pt.locs, Pt.cells, Pt.slots] at X182 l182 y182 z182 st182 hQ182
  subst l182 y182 z182
  obtain ⟨rfl, N182q, eq182⟩ := hQ182
  have N182 := Fr.app N178 N182q
  have f183 := qf158_6.keep K169 (ninS (Ne.symm (Nat.ne_of_lt (Nat.lt_of_lt_of_le f142.lt qf158_4))) (ninS (Ne.symm (Nat.ne_of_lt (Nat.lt_of_lt_of_le f147.lt qf158_4))) nin0))
  have f184 := f162.keep K169
  obtain ⟨cq185, kq185, q185a, q185b, q185c⟩ := isOf hZ73 eq182 f181
  obtain ⟨_, _, ⟨T185, L185, k185, n185⟩, -, X185, ⟨Lc185, hQ185, l185, y185, z185⟩, st185⟩ := X182.virtualBack hx (y := mN36) (z := mN36) hown73 (mvT hZ73 (own_W hw 204 rfl)) (mvT hZ73 (own_W hw 205 rfl)) (notFace_of_selects (args := #[]) (mvT hZ73 (own_W hw 207 rfl))) (mvT hZ73 (own_W hw 207 rfl)) (mvT hZ73 (own_W hw 206 rfl)) (by decide) (backOf (W := 0) (rm29_0 l Z a0 hw [] b129 b158 b1 T169.heap n0 z179 o180 f173 f174 f183 f184) hZ73 (own_W hw 208 rfl) (own_W hw 3 rfl) (by decide) (by decide)) q185a q185c (g := (mkF m 194 #[vi pi1, vi pi2, vi pi3, vi 2, vi 1, vi 0, vr b1, vr b29, vr b63, vr b97, vr b129, vi 1, .unset, .unset] [(.int 0), (.ref b129)])) rfl (by rw [hml]; rfl) (Steps.refl _) (argsL := [(.int 0)]) (rest := []) (lenOf pd_21 rfl) rfl (by show 2 * 0 + _ ≤ _; exact Nat.le_of_eq rfl) (hb hby at_194) (fun _ _ => ⟨rfl, eq182, (by decide : 19 + 0 ≤ _), (by decide : 67 + 0 ≤ _)⟩)
  dsimp only [Pt.U, Pt.locs, Pt.cells, Pt.slots] at X185 l185 y185 z185 st185 hQ185
  subst l185 y185 z185
  obtain ⟨rfl, N185q, eq185⟩ := hQ185
  have N185 := Fr.app N182 N185q
  obtain ⟨_, _, ⟨T186, L186, k186, n186⟩, -, X186, ⟨Lc186, hQ186, l186, y186, z186⟩, st186⟩ := Jvm.LawKit.callS X185 hx (y := mN39) hown73 (mvT hZ73 (own_W hw 220 rfl)) (mvT hZ73 (own_W hw 221 rfl)) (mvT hZ73 (own_W hw 222 rfl)) (mvT hZ73 (own_W hw 223 rfl)) (by decide) (backOf (W := 1) (rm31_0 l Z a0 hw [] b1 b29 b63 T169.heap n0 z179 o180 ) hZ73 (own_W hw 223 rfl) (own_W hw 222 rfl) (by decide) (by decide)) (g := (mkF m 205 #[vi pi1, vi pi2, vi pi3, vi 2, vi 1, vi 0, vr b1, vr b29, vr b63, vr b97, vr b129, vi 1, .unset, .unset] [(.ref b63), (.ref b29), (.ref b1), (.int 0), (.ref b1)])) rfl (by rw [hml]; rfl) (argsL := [(.int 0), (.ref b1), (.ref b29), (.ref b63)]) (rest := [(.ref b1)]) (lenOf pd_23 rfl) rfl (by show 2 * 0 + _ ≤ _; exact Nat.le_of_eq rfl) (hb hby at_205) (fun _ _ => ⟨rfl, eq185, (by decide : 19 + 0 ≤ _), (by decide : 67 + 0 ≤ _)⟩)
  dsimp only [Pt.U, Pt.locs, Pt.cells, Pt.slots] at X186 l186 y186 z186 st186 hQ186
  subst l186 y186 z186
  obtain ⟨rfl, N186q, eq186⟩ := hQ186
  have N186 := Fr.app N185 N186q
  obtain ⟨cq187, kq187, q187a, q187b, q187c⟩ := isOf hZ73 eq186 f181
  obtain ⟨_, _, ⟨T187, L187, k187, n187⟩, -, X187, ⟨Lc187, hQ187, l187, y187, z187⟩, st187⟩ := X186.virtualBack hx (y := mN38) (z := mN38) hown73 (mvT hZ73 (own_W hw 224 rfl)) (mvT hZ73 (own_W hw 225 rfl)) (notFace_of_selects (args := #[]) (mvT hZ73 (own_W hw 227 rfl))) (mvT hZ73 (own_W hw 227 rfl)) (mvT hZ73 (own_W hw 226 rfl)) (by decide) (backOf (W := 0) (rm32 l Z a0 hw [] b129 b158 T169.heap n0 z179 o180 f173) hZ73 (own_W hw 228 rfl) (own_W hw 3 rfl) (by decide) (by decide)) q187a q187c (g := (mkF m 220 #[vi pi1, vi pi2, vi pi3, vi 2, vi 1, vi 0, vr b1, vr b29, vr b63, vr b97, vr b129, vi 1, vi 1, .unset] [(.ref b129)])) rfl (by rw [hml]; rfl) (Steps.refl _) (argsL := []) (rest := []) (lenOf pd_4 rfl) rfl (by show 2 * 0 + _ ≤ _; exact Nat.le_of_eq rfl) (hb hby at_220) (fun _ _ => ⟨rfl, eq186, (by decide : 19 + 0 ≤ _), (by decide : 67 + 0 ≤ _)⟩)
  dsimp only [Pt.U, Pt.locs, Pt.cells, Pt.slots] at X187 l187 y187 z187 st187 hQ187
  subst l187 y187 z187
  obtain ⟨rfl, N187q, eq187⟩ := hQ187
  have N187 := Fr.app N186 N187q
  obtain ⟨cq188, kq188, q188a, q188b, q188c⟩ := isOf hZ73 eq187 f174
  obtain ⟨_, _, ⟨T188, L188, k188, n188⟩, -, X188, ⟨Lc188, hQ188, l188, y188, z188⟩, st188⟩ := X187.interfaceBack hx (xi := mN40) (y := mN35) hown73 (mvT hZ73 (own_W hw 229 rfl)) (mvT hZ73 (own_W hw 230 rfl)) (mvT hZ73 (own_W hw 231 rfl)) (mvT hZ73 (own_W hw 232 rfl)) (mvT hZ73 (own_W hw 233 rfl)) (mvT hZ73 (own_W hw 234 rfl)) (mvT hZ73 (own_W hw 235 rfl)) (mvT hZ73 (own_W hw 216 rfl)) (by decide) (backOf (W := 0) (rm33_2 l Z a0 hw [] b158 w_EMPTY b29 T169.heap n0 z179 o180 S_EMPTY E_w_EMPTY f175 g_b29) hZ73 (own_W hw 236 rfl) (own_W hw 176 rfl) (by decide) (by decide)) q188a q188b q188c (g := (mkF m 223 #[vi pi1, vi pi2, vi pi3, vi 2, vi 1, vi 0, vr b1, vr b29, vr b63, vr b97, vr b129, vi 1, vi 1, .unset] [(.ref b158)])) rfl (by rw [hml]; rfl) (Steps.refl _) (argsL := []) (rest := []) (lenOf pd_24 rfl) rfl (by show 2 * 0 + _ ≤ _; exact Nat.le_of_eq rfl) (hb hby at_223) (fun _ _ => ⟨rfl, eq187, (by decide : 19 + 0 ≤ _), (by decide : 67 + 0 ≤ _)⟩)
  dsimp only [Pt.U, Pt.locs, Pt.cells, Pt.slots] at X188 l188 y188 z188 st188 hQ188
  subst l188 y188 z188
  obtain ⟨rfl, N188q, eq188⟩ := hQ188
  have N188 := Fr.app N187 N188q
  have y189 := Nat.le_trans hk73 K92.1
  have y190 := Nat.le_trans y189 E97.1
  have y191 := Nat.le_trans y190 K99.1
  have y192 := Nat.le_trans y191 K115.1
  have y193 := Nat.le_trans y192 K126.1
  have y194 := Nat.le_trans y193 E129.1
  have y195 := Nat.le_trans y194 K133.1
  have y196 := Nat.le_trans y195 K158.1
  have y197 := Nat.le_trans y196 K169.1
  obtain ⟨fs, hr, hrun, hended, hE1, hE2, hE3, hsame⟩ := X188.leaveW hS73 (by rw [eq188]; exact y197) (v := some (.int 1)) (fun h => by rw [Bd.returns] at h; cases h) (BodyLoose.notSynchronized Bd)
  refine ⟨_, _, pre0 _ ?_, hrun, hended, _, _, rfl, ?_, ⟨_, rfl⟩, hE2, hE3, hsame.mono (by decide) (by decide)⟩
  · show Stp p e below s₁ m 0 #[vi pi1, vi pi2, vi pi3, .unset, .unset, .unset, .unset, .unset, .unset, .unset, .unset, .unset, .unset, .unset] [] _
    refine XS.iconst X0.here hx rfl (hb hby at_0) ?_
    refine XS.iloadN X0.here hx rfl (hb hby at_1) rfl ?_
    refine X0.ldcInt hx hown (mvT hZ (own_W hw 0 rfl)) (g := (mkF m 2 #[vi pi1, vi pi2, vi pi3, .unset, .unset, .unset, .unset, .unset, .unset, .unset, .unset, .unset, .unset, .unset] [(.int pi1), (.int 1)])) rfl (hb hby at_2) _ ?_
    show Stp p e below s₁ m 4 #[vi pi1, vi pi2, vi pi3, .unset, .unset, .unset, .unset, .unset, .unset, .unset, .unset, .unset, .unset, .unset] [(.int 2147483647), (.int pi1), (.int 1)] _
    refine XS.iand X0.here hx rfl (hb hby at_4) rfl ?_
    refine XS.iconst X0.here hx rfl (hb hby at_5) ?_
    refine iremM X0 hx rfl (hb hby at_6) rfl (by decide) ?_
    show Stp p e below s₁ m 7 #[vi pi1, vi pi2, vi pi3, .unset, .unset, .unset, .unset, .unset, .unset, .unset, .unset, .unset, .unset, .unset] [(.int ((pi1 &&& (2147483647 : Int32)) % (3 : Int32))), (.int 1)] _
    refine XS.iadd X0.here hx rfl (hb hby at_7) rfl ?_
    refine XS.istoreN X0.here hx rfl (hb hby at_8) rfl (l' := #[vi pi1, vi pi2, vi pi3, .val (.int ((1 : Int32) + ((pi1 &&& (2147483647 : Int32)) % (3 : Int32)))), .unset, .unset, .unset, .unset, .unset, .unset, .unset, .unset, .unset, .unset]) rfl ?_
    show Stp p e below s₁ m 9 #[vi pi1, vi pi2, vi pi3, .val (.int ((1 : Int32) + ((pi1 &&& (2147483647 : Int32)) % (3 : Int32)))), .unset, .unset, .unset, .unset, .unset, .unset, .unset, .unset, .unset, .unset] [] _
    rw [show ((1 : Int32) + ((pi1 &&& (2147483647 : Int32)) % (3 : Int32))) = (2 : Int32) from hc8_1]
    show Stp p e below s₁ m 9 #[vi pi1, vi pi2, vi pi3, vi 2, .unset, .unset, .unset, .unset, .unset, .unset, .unset, .unset, .unset, .unset] [] _
    refine XS.iloadN X0.here hx rfl (hb hby at_9) rfl ?_
    refine X0.ldcInt hx hown (mvT hZ (own_W hw 0 rfl)) (g := (mkF m 10 #[vi pi1, vi pi2, vi pi3, vi 2, .unset, .unset, .unset, .unset, .unset, .unset, .unset, .unset, .unset, .unset] [(.int pi2)])) rfl (hb hby at_10) _ ?_
    show Stp p e below s₁ m 12 #[vi pi1, vi pi2, vi pi3, vi 2, .unset, .unset, .unset, .unset, .unset, .unset, .unset, .unset, .unset, .unset] [(.int 2147483647), (.int pi2)] _
    refine XS.iand X0.here hx rfl (hb hby at_12) rfl ?_
    refine XS.iloadN X0.here hx rfl (hb hby at_13) rfl ?_
    refine iremM X0 hx rfl (hb hby at_14) rfl (by decide) ?_
    show Stp p e below s₁ m 15 #[vi pi1, vi pi2, vi pi3, vi 2, .unset, .unset, .unset, .unset, .unset, .unset, .unset, .unset, .unset, .unset] [(.int ((pi2 &&& (2147483647 : Int32)) % (2 : Int32)))] _
    refine XS.istore X0.here hx rfl (hb hby at_15) rfl (l' := #[vi pi1, vi pi2, vi pi3, vi 2, .val (.int ((pi2 &&& (2147483647 : Int32)) % (2 : Int32))), .unset, .unset, .unset, .unset, .unset, .unset, .unset, .unset, .unset]) rfl ?_
    show Stp p e below s₁ m 17 #[vi pi1, vi pi2, vi pi3, vi 2, .val (.int ((pi2 &&& (2147483647 : Int32)) % (2 : Int32))), .unset, .unset, .unset, .unset, .unset, .unset, .unset, .unset, .unset] [] _
    rw [show ((pi2 &&& (2147483647 : Int32)) % (2 : Int32)) = (1 : Int32) from own_i2 hc15_2]
    show Stp p e below s₁ m 17 #[vi pi1, vi pi2, vi pi3, vi 2, vi 1, .unset, .unset, .unset, .unset, .unset, .unset, .unset, .unset, .unset] [] _
    refine XS.iloadN X0.here hx rfl (hb hby at_17) rfl ?_
    refine XS.iconst X0.here hx rfl (hb hby at_18) ?_
    refine XS.isub X0.here hx rfl (hb hby at_19) rfl ?_
    refine XS.iload X0.here hx rfl (hb hby at_20) rfl ?_
    refine XS.isub X0.here hx rfl (hb hby at_22) rfl ?_
    refine XS.istore X0.here hx rfl (hb hby at_23) rfl (l' := #[vi pi1, vi pi2, vi pi3, vi 2, vi 1, vi 0, .unset, .unset, .unset, .unset, .unset, .unset, .unset, .unset]) rfl ?_
    refine st1 _ ?_
    show Stp p e below T1 m 28 #[vi pi1, vi pi2, vi pi3, vi 2, vi 1, vi 0, .unset, .unset, .unset, .unset, .unset, .unset, .unset, .unset] [(.ref b1)] _
    refine XS.dup X1.here hx rfl (hb hby at_28) rfl rfl ?_
    refine st2 _ ?_
    show Stp p e below T2 m 32 #[vi pi1, vi pi2, vi pi3, vi 2, vi 1, vi 0, .unset, .unset, .unset, .unset, .unset, .unset, .unset, .unset] [(.ref w_NOT), (.ref b1), (.ref b1)] _
    refine st4 _ ?_
    show Stp p e below T4 m 35 #[vi pi1, vi pi2, vi pi3, vi 2, vi 1, vi 0, .unset, .unset, .unset, .unset, .unset, .unset, .unset, .unset] [(.ref b4), (.ref w_NOT), (.ref b1), (.ref b1)] _
    refine XS.dup X4.here hx rfl (hb hby at_35) rfl rfl ?_
    refine st6.trans ?_
    show Stp p e below T6 m 39 #[vi pi1, vi pi2, vi pi3, vi 2, vi 1, vi 0, .unset, .unset, .unset, .unset, .unset, .unset, .unset, .unset] [(.ref b4), (.ref w_NOT), (.ref b1), (.ref b1)] _
    refine st9 _ ?_
    show Stp p e below T9 m 41 #[vi pi1, vi pi2, vi pi3, vi 2, vi 1, vi 0, .unset, .unset, .unset, .unset, .unset, .unset, .unset, .unset] [(.ref sa9), (.ref b4), (.ref w_NOT), (.ref b1), (.ref b1)] _
    refine st24.trans ?_
    show Stp p e below T24 m 44 #[vi pi1, vi pi2, vi pi3, vi 2, vi 1, vi 0, .unset, .unset, .unset, .unset, .unset, .unset, .unset, .unset] [(.ref b1)] _
    refine XS.astore X24.here hx rfl (hb hby at_44) rfl rfl (l' := #[vi pi1, vi pi2, vi pi3, vi 2, vi 1, vi 0, vr b1, .unset, .unset, .unset, .unset, .unset, .unset, .unset]) rfl ?_
    refine st29 _ ?_
    show Stp p e below T29 m 49 #[vi pi1, vi pi2, vi pi3, vi 2, vi 1, vi 0, vr b1, .unset, .unset, .unset, .unset, .unset, .unset, .unset] [(.ref b29)] _
    refine XS.dup X29.here hx rfl (hb hby at_49) rfl rfl ?_
    refine st30 _ ?_
    show Stp p e below T30 m 53 #[vi pi1, vi pi2, vi pi3, vi 2, vi 1, vi 0, vr b1, .unset, .unset, .unset, .unset, .unset, .unset, .unset] [(.ref w_AND), (.ref b29), (.ref b29)] _
    refine st33 _ ?_
    show Stp p e below T33 m 56 #[vi pi1, vi pi2, vi pi3, vi 2, vi 1, vi 0, vr b1, .unset, .unset, .unset, .unset, .unset, .unset, .unset] [(.ref b33), (.ref w_AND), (.ref b29), (.ref b29)] _
    refine XS.dup X33.here hx rfl (hb hby at_56) rfl rfl ?_
    refine st36.trans ?_
    show Stp p e below T36 m 60 #[vi pi1, vi pi2, vi pi3, vi 2, vi 1, vi 0, vr b1, .unset, .unset, .unset, .unset, .unset, .unset, .unset] [(.ref b33), (.ref w_AND), (.ref b29), (.ref b29)] _
    refine st39 _ ?_
    show Stp p e below T39 m 62 #[vi pi1, vi pi2, vi pi3, vi 2, vi 1, vi 0, vr b1, .unset, .unset, .unset, .unset, .unset, .unset, .unset] [(.ref sa39), (.ref b33), (.ref w_AND), (.ref b29), (.ref b29)] _
    refine st58.trans ?_
    show Stp p e below T58 m 65 #[vi pi1, vi pi2, vi pi3, vi 2, vi 1, vi 0, vr b1, .unset, .unset, .unset, .unset, .unset, .unset, .unset] [(.ref b29)] _
    refine XS.astore X58.here hx rfl (hb hby at_65) rfl rfl (l' := #[vi pi1, vi pi2, vi pi3, vi 2, vi 1, vi 0, vr b1, vr b29, .unset, .unset, .unset, .unset, .unset, .unset]) rfl ?_
    refine st63 _ ?_
    show Stp p e below T63 m 70 #[vi pi1, vi pi2, vi pi3, vi 2, vi 1, vi 0, vr b1, vr b29, .unset, .unset, .unset, .unset, .unset, .unset] [(.ref b63)] _
    refine XS.dup X63.here hx rfl (hb hby at_70) rfl rfl ?_
    refine st64 _ ?_
    show Stp p e below T64 m 74 #[vi pi1, vi pi2, vi pi3, vi 2, vi 1, vi 0, vr b1, vr b29, .unset, .unset, .unset, .unset, .unset, .unset] [(.ref w_DERIVATIVE), (.ref b63), (.ref b63)] _
    refine st67 _ ?_
    show Stp p e below T67 m 77 #[vi pi1, vi pi2, vi pi3, vi 2, vi 1, vi 0, vr b1, vr b29, .unset, .unset, .unset, .unset, .unset, .unset] [(.ref b67), (.ref w_DERIVATIVE), (.ref b63), (.ref b63)] _
    refine XS.dup X67.here hx rfl (hb hby at_77) rfl rfl ?_
    refine st70.trans ?_
    show Stp p e below T70 m 81 #[vi pi1, vi pi2, vi pi3, vi 2, vi 1, vi 0, vr b1, vr b29, .unset, .unset, .unset, .unset, .unset, .unset] [(.ref b67), (.ref w_DERIVATIVE), (.ref b63), (.ref b63)] _
    refine st73 _ ?_
    show Stp p e below T73 m 83 #[vi pi1, vi pi2, vi pi3, vi 2, vi 1, vi 0, vr b1, vr b29, .unset, .unset, .unset, .unset, .unset, .unset] [(.ref sa73), (.ref b67), (.ref w_DERIVATIVE), (.ref b63), (.ref b63)] _
    refine st92.trans ?_
    show Stp p e below T92 m 86 #[vi pi1, vi pi2, vi pi3, vi 2, vi 1, vi 0, vr b1, vr b29, .unset, .unset, .unset, .unset, .unset, .unset] [(.ref b63)] _
    refine XS.astore X92.here hx rfl (hb hby at_86) rfl rfl (l' := #[vi pi1, vi pi2, vi pi3, vi 2, vi 1, vi 0, vr b1, vr b29, vr b63, .unset, .unset, .unset, .unset, .unset]) rfl ?_
    refine st97 _ ?_
    show Stp p e below T97 m 91 #[vi pi1, vi pi2, vi pi3, vi 2, vi 1, vi 0, vr b1, vr b29, vr b63, .unset, .unset, .unset, .unset, .unset] [(.ref b97)] _
    refine XS.dup X97.here hx rfl (hb hby at_91) rfl rfl ?_
    refine st99.trans ?_
    show Stp p e below T99 m 95 #[vi pi1, vi pi2, vi pi3, vi 2, vi 1, vi 0, vr b1, vr b29, vr b63, .unset, .unset, .unset, .unset, .unset] [(.ref b97)] _
    refine XS.astore X99.here hx rfl (hb hby at_95) rfl rfl (l' := #[vi pi1, vi pi2, vi pi3, vi 2, vi 1, vi 0, vr b1, vr b29, vr b63, vr b97, .unset, .unset, .unset, .unset]) rfl ?_
    refine XS.aload X99.here hx rfl (hb hby at_97) rfl rfl ?_
    refine XS.aload X99.here hx rfl (hb hby at_99) rfl rfl ?_
    refine st115.trans ?_
    show Stp p e below T115 m 104 #[vi pi1, vi pi2, vi pi3, vi 2, vi 1, vi 0, vr b1, vr b29, vr b63, vr b97, .unset, .unset, .unset, .unset] [(.int 1)] _
    refine XS.pop X115.here hx rfl (hb hby at_104) rfl rfl ?_
    refine XS.iloadN X115.here hx rfl (hb hby at_105) rfl ?_
    refine XS.iconst X115.here hx rfl (hb hby at_106) ?_
    refine XS.icmpNo X115.here hx rfl (hb hby at_107) rfl (flt (by simp : ¬ ((2 : Int32) < (2 : Int32)))).1 ?_
    show Stp p e below T115 m 110 #[vi pi1, vi pi2, vi pi3, vi 2, vi 1, vi 0, vr b1, vr b29, vr b63, vr b97, .unset, .unset, .unset, .unset] [] _
    refine XS.aload X115.here hx rfl (hb hby at_110) rfl rfl ?_
    refine XS.aload X115.here hx rfl (hb hby at_112) rfl rfl ?_
    refine st126.trans ?_
    show Stp p e below T126 m 117 #[vi pi1, vi pi2, vi pi3, vi 2, vi 1, vi 0, vr b1, vr b29, vr b63, vr b97, .unset, .unset, .unset, .unset] [(.int 1)] _
    refine XS.pop X126.here hx rfl (hb hby at_117) rfl rfl ?_
    refine XS.iloadN X126.here hx rfl (hb hby at_118) rfl ?_
    refine XS.iconst X126.here hx rfl (hb hby at_119) ?_
    refine XS.icmpYes X126.here hx rfl (pc0 := 120) (pc' := 131) rfl (hb hby at_120) rfl (tlt (by decide : (2 : Int32) < (3 : Int32))).1 (by decide) (by decide) ?_
    show Stp p e below T126 m 131 #[vi pi1, vi pi2, vi pi3, vi 2, vi 1, vi 0, vr b1, vr b29, vr b63, vr b97, .unset, .unset, .unset, .unset] [] _
    refine st129 _ ?_
    show Stp p e below T129 m 134 #[vi pi1, vi pi2, vi pi3, vi 2, vi 1, vi 0, vr b1, vr b29, vr b63, vr b97, .unset, .unset, .unset, .unset] [(.ref b129)] _
    refine XS.dup X129.here hx rfl (hb hby at_134) rfl rfl ?_
    refine st130 _ ?_
    show Stp p e below T130 m 138 #[vi pi1, vi pi2, vi pi3, vi 2, vi 1, vi 0, vr b1, vr b29, vr b63, vr b97, .unset, .unset, .unset, .unset] [(.ref w_PLUS), (.ref b129), (.ref b129)] _
    refine XS.aload X130.here hx rfl (hb hby at_138) rfl rfl ?_
    refine XS.iloadN X130.here hx rfl (hb hby at_140) rfl ?_
    refine XS.sipush X130.here hx rfl (hb hby at_141) ?_
    refine XS.iand X130.here hx rfl (hb hby at_144) rfl ?_
    refine XS.i2c X130.here hx rfl (hb hby at_145) rfl ?_
    refine st133 _ ?_
    show Stp p e below T133 m 149 #[vi pi1, vi pi2, vi pi3, vi 2, vi 1, vi 0, vr b1, vr b29, vr b63, vr b97, .unset, .unset, .unset, .unset] [(.ref b133), (.ref b97), (.ref w_PLUS), (.ref b129), (.ref b129)] _
    refine st158.trans ?_
    show Stp p e below T158 m 152 #[vi pi1, vi pi2, vi pi3, vi 2, vi 1, vi 0, vr b1, vr b29, vr b63, vr b97, .unset, .unset, .unset, .unset] [(.ref b129)] _
    refine XS.astore X158.here hx rfl (hb hby at_152) rfl rfl (l' := #[vi pi1, vi pi2, vi pi3, vi 2, vi 1, vi 0, vr b1, vr b29, vr b63, vr b97, vr b129, .unset, .unset, .unset]) rfl ?_
    refine XS.aload X158.here hx rfl (hb hby at_154) rfl rfl ?_
    refine XS.aload X158.here hx rfl (hb hby at_156) rfl rfl ?_
    refine st169.trans ?_
    show Stp p e below T169 m 161 #[vi pi1, vi pi2, vi pi3, vi 2, vi 1, vi 0, vr b1, vr b29, vr b63, vr b97, vr b129, .unset, .unset, .unset] [(.int 1)] _
    refine XS.pop X169.here hx rfl (hb hby at_161) rfl rfl ?_
    refine XS.aload X169.here hx rfl (hb hby at_162) rfl rfl ?_
    refine XS.iload X169.here hx rfl (hb hby at_164) rfl ?_
    refine st178.trans ?_
    show Stp p e below T178 m 169 #[vi pi1, vi pi2, vi pi3, vi 2, vi 1, vi 0, vr b1, vr b29, vr b63, vr b97, vr b129, .unset, .unset, .unset] [(.ref b29)] _
    refine XS.iload X178.here hx rfl (hb hby at_169) rfl ?_
    refine XS.aload X178.here hx rfl (hb hby at_171) rfl rfl ?_
    refine XS.aload X178.here hx rfl (hb hby at_173) rfl rfl ?_
    refine XS.aload X178.here hx rfl (hb hby at_175) rfl rfl ?_
    refine st182 _ ?_
    show Stp p e below T182 m 180 #[vi pi1, vi pi2, vi pi3, vi 2, vi 1, vi 0, vr b1, vr b29, vr b63, vr b97, vr b129, .unset, .unset, .unset] [(.ref b29), (.ref b29)] _
    refine Jvm.RoadKit.acmp (g := (mkF m 180 #[vi pi1, vi pi2, vi pi3, vi 2, vi 1, vi 0, vr b1, vr b29, vr b63, vr b97, vr b129, .unset, .unset, .unset] [(.ref b29), (.ref b29)])) X182 hx rfl rfl rfl (pc0 := 180) (pc' := 183) (same := true) rfl (hb hby at_180) rfl (decide_eq_true rfl) (by decide) (by decide) ?_
    show Stp p e below T182 m 183 #[vi pi1, vi pi2, vi pi3, vi 2, vi 1, vi 0, vr b1, vr b29, vr b63, vr b97, vr b129, .unset, .unset, .unset] [] _
    refine XS.iconst X182.here hx rfl (hb hby at_183) ?_
    refine XS.goto X182.here hx rfl (pc0 := 184) (pc' := 188) rfl (hb hby at_184) (by decide) (by decide) ?_
    show Stp p e below T182 m 188 #[vi pi1, vi pi2, vi pi3, vi 2, vi 1, vi 0, vr b1, vr b29, vr b63, vr b97, vr b129, .unset, .unset, .unset] [(.int 1)] _
    refine XS.istore X182.here hx rfl (hb hby at_188) rfl (l' := #[vi pi1, vi pi2, vi pi3, vi 2, vi 1, vi 0, vr b1, vr b29, vr b63, vr b97, vr b129, vi 1, .unset, .unset]) rfl ?_
    refine XS.aload X182.here hx rfl (hb hby at_190) rfl rfl ?_
    refine XS.iload X182.here hx rfl (hb hby at_192) rfl ?_
    refine st185.trans ?_
    show Stp p e below T185 m 197 #[vi pi1, vi pi2, vi pi3, vi 2, vi 1, vi 0, vr b1, vr b29, vr b63, vr b97, vr b129, vi 1, .unset, .unset] [(.ref b1)] _
    refine XS.iload X185.here hx rfl (hb hby at_197) rfl ?_
    refine XS.aload X185.here hx rfl (hb hby at_199) rfl rfl ?_
    refine XS.aload X185.here hx rfl (hb hby at_201) rfl rfl ?_
    refine XS.aload X185.here hx rfl (hb hby at_203) rfl rfl ?_
    refine st186 _ ?_
    show Stp p e below T186 m 208 #[vi pi1, vi pi2, vi pi3, vi 2, vi 1, vi 0, vr b1, vr b29, vr b63, vr b97, vr b129, vi 1, .unset, .unset] [(.ref b1), (.ref b1)] _
    refine Jvm.RoadKit.acmp (g := (mkF m 208 #[vi pi1, vi pi2, vi pi3, vi 2, vi 1, vi 0, vr b1, vr b29, vr b63, vr b97, vr b129, vi 1, .unset, .unset] [(.ref b1), (.ref b1)])) X186 hx rfl rfl rfl (pc0 := 208) (pc' := 211) (same := true) rfl (hb hby at_208) rfl (decide_eq_true rfl) (by decide) (by decide) ?_
    show Stp p e below T186 m 211 #[vi pi1, vi pi2, vi pi3, vi 2, vi 1, vi 0, vr b1, vr b29, vr b63, vr b97, vr b129, vi 1, .unset, .unset] [] _
    refine XS.iconst X186.here hx rfl (hb hby at_211) ?_
    refine XS.goto X186.here hx rfl (pc0 := 212) (pc' := 216) rfl (hb hby at_212) (by decide) (by decide) ?_
    show Stp p e below T186 m 216 #[vi pi1, vi pi2, vi pi3, vi 2, vi 1, vi 0, vr b1, vr b29, vr b63, vr b97, vr b129, vi 1, .unset, .unset] [(.int 1)] _
    refine XS.istore X186.here hx rfl (hb hby at_216) rfl (l' := #[vi pi1, vi pi2, vi pi3, vi 2, vi 1, vi 0, vr b1, vr b29, vr b63, vr b97, vr b129, vi 1, vi 1, .unset]) rfl ?_
    refine XS.aload X186.here hx rfl (hb hby at_218) rfl rfl ?_
    refine st187.trans ?_
    show Stp p e below T187 m 223 #[vi pi1, vi pi2, vi pi3, vi 2, vi 1, vi 0, vr b1, vr b29, vr b63, vr b97, vr b129, vi 1, vi 1, .unset] [(.ref b158)] _
    refine st188.trans ?_
    show Stp p e below T188 m 228 #[vi pi1, vi pi2, vi pi3, vi 2, vi 1, vi 0, vr b1, vr b29, vr b63, vr b97, vr b129, vi 1, vi 1, .unset] [(.int 2)] _
    refine XS.iloadN X188.here hx rfl (hb hby at_228) rfl ?_
    refine XS.icmpNo X188.here hx rfl (hb hby at_229) rfl (teq (rfl : (2 : Int32) = (2 : Int32))).2 ?_
    show Stp p e below T188 m 232 #[vi pi1, vi pi2, vi pi3, vi 2, vi 1, vi 0, vr b1, vr b29, vr b63, vr b97, vr b129, vi 1, vi 1, .unset] [] _
    refine XS.iconst X188.here hx rfl (hb hby at_232) ?_
    refine XS.goto X188.here hx rfl (pc0 := 233) (pc' := 237) rfl (hb hby at_233) (by decide) (by decide) ?_
    show Stp p e below T188 m 237 #[vi pi1, vi pi2, vi pi3, vi 2, vi 1, vi 0, vr b1, vr b29, vr b63, vr b97, vr b129, vi 1, vi 1, .unset] [(.int 1)] _
    refine XS.istore X188.here hx rfl (hb hby at_237) rfl (l' := #[vi pi1, vi pi2, vi pi3, vi 2, vi 1, vi 0, vr b1, vr b29, vr b63, vr b97, vr b129, vi 1, vi 1, vi 1]) rfl ?_
    refine XS.iload X188.here hx rfl (hb hby at_239) rfl ?_
    refine XS.ifNo X188.here hx rfl (hb hby at_241) rfl ((if0 _ _).trans (feq (by decide : ¬ ((1 : Int32) = (0 : Int32)))).1) ?_
    show Stp p e below T188 m 244 #[vi pi1, vi pi2, vi pi3, vi 2, vi 1, vi 0, vr b1, vr b29, vr b63, vr b97, vr b129, vi 1, vi 1, vi 1] [] _
    refine XS.iload X188.here hx rfl (hb hby at_244) rfl ?_
    refine XS.ifNo X188.here hx rfl (hb hby at_246) rfl ((if0 _ _).trans (feq (by decide : ¬ ((1 : Int32) = (0 : Int32)))).1) ?_
    show Stp p e below T188 m 249 #[vi pi1, vi pi2, vi pi3, vi 2, vi 1, vi 0, vr b1, vr b29, vr b63, vr b97, vr b129, vi 1, vi 1, vi 1] [] _
    refine XS.iload X188.here hx rfl (hb hby at_249) rfl ?_
    refine XS.ifNo X188.here hx rfl (hb hby at_251) rfl ((if0 _ _).trans (feq (by decide : ¬ ((1 : Int32) = (0 : Int32)))).1) ?_
    show Stp p e below T188 m 254 #[vi pi1, vi pi2, vi pi3, vi 2, vi 1, vi 0, vr b1, vr b29, vr b63, vr b97, vr b129, vi 1, vi 1, vi 1] [] _
    refine XS.iconst X188.here hx rfl (hb hby at_254) ?_
    refine XS.goto X188.here hx rfl (pc0 := 255) (pc' := 259) rfl (hb hby at_255) (by decide) (by decide) ?_
    show Stp p e below T188 m 259 #[vi pi1, vi pi2, vi pi3, vi 2, vi 1, vi 0, vr b1, vr b29, vr b63, vr b97, vr b129, vi 1, vi 1, vi 1] [(.int 1)] _
    exact retN X188 hx (t := .boolean) Bd.returns (by simp) (hb hby at_259) hr
  · exact ⟨rfl, N188⟩
set_option maxRecDepth 65536 in
set_option maxHeartbeats 40000000 in
theorem rm0_fft (l : Launch) (Z : State) (a0 : Array Value) (hw : ∀ d ∈ tables_1, d.before a0 Z = true) (ws : List Jvm.Cond) (pi1 : Int32) (pi2 : Int32) (pi3 : Int32) (w_DEF : Addr) (kk_w_DEF : ClassId) (w_EMPTY : Addr) (w_NOT : Addr) (w_EMPTY_LIST : Addr) (w_AND : Addr) (w_DERIVATIVE : Addr) (w_PLUS : Addr) (w_COMPACT_STRINGS : Int32) (w_mir : Addr) (h0 : Heap) (n0 : Nat) (Z0 : n0 ≤ h0.size) (O0 : Old Z n0 h0) (S_DEFAULTCAPACITY_EMPTY_ELEMENTDATA : Sta Z Z.heap "java/util/ArrayList" "DEFAULTCAPACITY_EMPTY_ELEMENTDATA" "[Ljava/lang/Object;" (.ref w_DEF)) (V_w_DEF : Arv Z Z.heap w_DEF kk_w_DEF (.object "java/lang/Object") (0 : Int32) [] .null) (S_EMPTY : Sta Z Z.heap "java/util/ImmutableCollections" "EMPTY" "Ljava/lang/Object;" (.ref w_EMPTY)) (E_w_EMPTY : Exa Z Z.heap w_EMPTY "java/lang/Object") (S_NOT : Sta Z Z.heap "com/example/tyche/tyche/model/jani/Operator" "NOT" "Lcom/example/tyche/tyche/model/jani/Operator;" (.ref w_NOT)) (S_EMPTY_LIST : Sta Z Z.heap "java/util/ImmutableCollections" "EMPTY_LIST" "Ljava/util/ImmutableCollections$ListN;" (.ref w_EMPTY_LIST)) (S_AND : Sta Z Z.heap "com/example/tyche/tyche/model/jani/Operator" "AND" "Lcom/example/tyche/tyche/model/jani/Operator;" (.ref w_AND)) (S_DERIVATIVE : Sta Z Z.heap "com/example/tyche/tyche/model/jani/Operator" "DERIVATIVE" "Lcom/example/tyche/tyche/model/jani/Operator;" (.ref w_DERIVATIVE)) (S_PLUS : Sta Z Z.heap "com/example/tyche/tyche/model/jani/Operator" "PLUS" "Lcom/example/tyche/tyche/model/jani/Operator;" (.ref w_PLUS)) (S_COMPACT_STRINGS : Sta Z Z.heap "java/lang/String" "COMPACT_STRINGS" "Z" (.int w_COMPACT_STRINGS)) (hCS : ¬ (w_COMPACT_STRINGS = (0 : Int32))) (M_mir : Mir Z "[Ljava/lang/Object;" w_mir) (hc8_0 : ¬ (((1 : Int32) + ((pi1 &&& (2147483647 : Int32)) % (3 : Int32))) = (1 : Int32))) (hc8_1 : ¬ (((1 : Int32) + ((pi1 &&& (2147483647 : Int32)) % (3 : Int32))) = (2 : Int32))) (hc15_2 : ((pi2 &&& (2147483647 : Int32)) % (3 : Int32)) = (0 : Int32)) :
    MetFree l x (head1 (Jvm.Cond.code x code maxLocals ret :: ws) room_1) (fun a U => a = #[(.int pi1), (.int pi2), (.int pi3)] ∧ Z.Warmed39 U.vm ∧ U.heap = h0) (fun _ _ _ _ _ => True) (fun _ U o U' => ∃ v L, o = .returned v ∧ Q0 v L n0 ∧ ReturnedEndW U o U' L room_1.cells room_1.slots) := by
  refine MetFree.of_bodySF (plainFor_of_name pn_0) hisR ?_
  intro p e s m args below meth c s₁ Bd hml0 hP hK
  obtain ⟨rfl, hZ, hh⟩ := hP
  have hx := Bd.exec
  have hby := Bd.bytes
  have hml : c.maxLocals = 14 := hml0
  have hown : s.vm.findClass "com/example/tyche/tyche/model/jani/OperationOperandPinLaw" = some m.cls := findClass_of_methodNamed Bd.named
  have hnm := (name_of_methodNamed Bd.named Bd.method).1
  have X0 : Stand p l e room_1 s m #[(.int pi1), (.int pi2), (.int pi3)] below meth c s₁ [] 0 0 := Stand.of_body Bd
  have e0 : s₁.heap = h0 := by rw [← hh, Bd.state]; rfl
  have N0 := Fr.nil n0
  have pre0 : ∀ t, Steps p.tables e below (s₁.setTop (mkF m 0 #[vi pi1, vi pi2, vi pi3, .unset, .unset, .unset, .unset, .unset, .unset, .unset, .unset, .unset, .unset, .unset] [])) t → Steps p.tables e below (s₁.setTop (entryFrame m #[(.int pi1), (.int pi2), (.int pi3)] maxLocals)) t := fun t k => castTop (ef_0 m pi1 pi2 pi3) k
  obtain ⟨T1, h1, X1, e1, E1, A1, D1, -, st1⟩ := newO X0 hx hZ hown (own_W hw 1 rfl) (own_W hw 2 rfl) (own_W hw 3 rfl) e0 (g := (mkF m 25 #[vi pi1, vi pi2, vi pi3, vi 3, vi 0, vi 2, .unset, .unset, .unset, .unset, .unset, .unset, .unset, .unset] [])) rfl (hb hby at_25) (by decide) (by decide)
  obtain ⟨b1, g1⟩ : ∃ z, z = h0.size := ⟨_, rfl⟩
  rw [← g1] at A1 D1 st1
  have F_operator_b1 : Fld Z h1 b1 "com/example/tyche/tyche/model/jani/Expression$Operation" "operator" "Lcom/example/tyche/tyche/model/jani/Operator;" .null := D1 (Or.inr (own_W hw 80 rfl)) (ty := (.object "com/example/tyche/tyche/model/jani/Operator")) (by decide)
  have F_operands_b1 : Fld Z h1 b1 "com/example/tyche/tyche/model/jani/Expression$Operation" "operands" "Ljava/util/List;" .null := D1 (Or.inr (own_W hw 82 rfl)) (ty := (.object "java/util/List")) (by decide)
  have F_path_b1 : Fld Z h1 b1 "com/example/tyche/tyche/model/jani/Expression$Operation" "path" "Ljava/lang/String;" .null := D1 (Or.inr (own_W hw 84 rfl)) (ty := (.object "java/lang/String")) (by decide)
  have o3 := O0.ext E1
  obtain ⟨T2, X2, e2, st2⟩ := getS2 X1 hx hZ hown (host := "") (Or.inl (own_W hw 4 rfl)) Via.refl e1 (S_NOT.ext o3.2) (g := (mkF m 29 #[vi pi1, vi pi2, vi pi3, vi 3, vi 0, vi 2, .unset, .unset, .unset, .unset, .unset, .unset, .unset, .unset] [(.ref b1), (.ref b1)])) rfl (hb hby at_29)
  obtain ⟨T4, h4, X4, e4, E4, A4, D4, -, st4⟩ := newO X2 hx hZ hown (own_W hw 7 rfl) (own_W hw 8 rfl) (own_W hw 9 rfl) e2 (g := (mkF m 32 #[vi pi1, vi pi2, vi pi3, vi 3, vi 0, vi 2, .unset, .unset, .unset, .unset, .unset, .unset, .unset, .unset] [(.ref w_NOT), (.ref b1), (.ref b1)])) rfl (hb hby at_32) (by decide) (by decide)
  obtain ⟨b4, g4⟩ : ∃ z, z = h1.size := ⟨_, rfl⟩
  rw [← g4] at A4 D4 st4
  have F_modCount_b4 : Fld Z h4 b4 "java/util/AbstractList" "modCount" "I" (.int 0) := D4 (Or.inl (own_W hw 29 rfl)) (ty := .int) (by decide)
  have F_elementData_b4 : Fld Z h4 b4 "java/util/ArrayList" "elementData" "[Ljava/lang/Object;" .null := D4 (Or.inl (own_W hw 32 rfl)) (ty := (.array (.object "java/lang/Object"))) (by decide)
  have F_size_b4 : Fld Z h4 b4 "java/util/ArrayList" "size" "I" (.int 0) := D4 (Or.inl (own_W hw 74 rfl)) (ty := .int) (by decide)
  have z5 := Nat.le_trans Z0 E1.1
  have g_b4 : n0 ≤ b4 := Nat.le_trans z5 (Nat.le_of_eq g4.symm)
  have z7 := Nat.le_trans z5 E4.1
  have o8 := o3.ext E4
  obtain ⟨_, _, ⟨T6, L6, k6, n6⟩, -, X6, ⟨Lc6, hQ6, l6, y6, z6⟩, st6⟩ := X4.specialBack hx (y := mN2) rfl hown (mvT hZ (own_W hw 10 rfl)) (mvT hZ (own_W hw 11 rfl)) (mvT hZ (own_W hw 12 rfl)) (by decide) (backOf (W := 4) (rm1 l Z a0 hw [] b4 w_DEF (.int 0) .null (.int 0) h4 n0 z7 o8 A4 S_DEFAULTCAPACITY_EMPTY_ELEMENTDATA F_modCount_b4 F_elementData_b4 F_size_b4 g_b4) hZ (own_W hw 12 rfl) (own_W hw 9 rfl) (by decide) (by decide)) (g := (mkF m 36 #[vi pi1, vi pi2, vi pi3, vi 3, vi 0, vi 2, .unset, .unset, .unset, .unset, .unset, .unset, .unset, .unset] [(.ref b4), (.ref b4), (.ref w_NOT), (.ref b1), (.ref b1)])) rfl (by rw [hml]; rfl) (Steps.refl _) (a := b4) (argsL := []) (rest := [(.ref b4), (.ref w_NOT), (.ref b1), (.ref b1)]) (lenOf pd_0 rfl) rfl (by show 2 * 0 + _ ≤ _; exact Nat.le_of_eq rfl) (hb hby at_36) (fun _ _ => ⟨rfl, e4, (by decide : 2 + 0 ≤ _), (by decide : 6 + 0 ≤ _)⟩)
  dsimp only [Pt.U, Pt.locs, Pt.cells, Pt.slots] at X6 l6 y6 z6 st6 hQ6
  subst l6 y6 z6
  obtain ⟨rfl, N6q, K6, qf6_0, qf6_1, qf6_2, qf6_3⟩ := hQ6
  have N6 := Fr.app N0 N6q
  obtain ⟨sa9, T9, h9, ks9, X9, e9, E9, hS9, hk9, hZ9, hown9, st9⟩ := ldcS (show Stand p l e room_1 (s.setVm s.vm) m _ below meth c T6 _ _ _ from X6) hx hZ hown (own_W hw 33 rfl) (own_wS hw) rfl (own_since0 s) (Nat.zero_le _) (g := (mkF m 39 #[vi pi1, vi pi2, vi pi3, vi 3, vi 0, vi 2, .unset, .unset, .unset, .unset, .unset, .unset, .unset, .unset] [(.ref b4), (.ref w_NOT), (.ref b1), (.ref b1)])) rfl (hb hby at_39) (n := 4) (by decide) (by decide) (by decide) (by decide)
  have f10 := A1.ext E4
  have f11 := f10.keep K6
  have f12 := f11.ext E9
  have f13 := qf6_0.ext E9
  have f14 := qf6_3.ext E9
  have f15 := F_operator_b1.ext E4
  have f16 := f15.keep K6 (ninS (Nat.ne_of_lt (Nat.lt_of_lt_of_le F_path_b1.lt (Nat.le_of_eq g4.symm))) nin0)
  have f17 := f16.ext E9
  have g_b1 : n0 ≤ b1 := Nat.le_trans Z0 (Nat.le_of_eq g1.symm)
  have f18 := F_operands_b1.ext E4
  have f19 := f18.keep K6 (ninS (Nat.ne_of_lt (Nat.lt_of_lt_of_le F_path_b1.lt (Nat.le_of_eq g4.symm))) nin0)
  have f20 := f19.ext E9
  have f21 := F_path_b1.ext E4
  have f22 := f21.keep K6 (ninS (Nat.ne_of_lt (Nat.lt_of_lt_of_le F_path_b1.lt (Nat.le_of_eq g4.symm))) nin0)
  have f23 := f22.ext E9
  have z25 := Nat.le_trans z7 K6.1
  have z26 := Nat.le_trans z25 E9.1
  have o27 := o8.keep K6 (allS g_b4 all0)
  have o28 := o27.ext E9
  obtain ⟨_, _, ⟨T24, L24, k24, n24⟩, -, X24, ⟨Lc24, hQ24, l24, y24, z24⟩, st24⟩ := X9.specialBack hx (y := mN27) rfl hown9 (mvT hZ9 (own_W hw 41 rfl)) (mvT hZ9 (own_W hw 42 rfl)) (mvT hZ9 (own_W hw 43 rfl)) (by decide) (backOf (W := 1) (rm5_0 l Z a0 hw [] b1 w_NOT b4 sa9 w_EMPTY_LIST .null .null .null h9 n0 z26 o28 f12 f13 f14 S_EMPTY_LIST f17 g_b1 f20 f23) hZ9 (own_W hw 43 rfl) (own_W hw 3 rfl) (by decide) (by decide)) (g := (mkF m 41 #[vi pi1, vi pi2, vi pi3, vi 3, vi 0, vi 2, .unset, .unset, .unset, .unset, .unset, .unset, .unset, .unset] [(.ref sa9), (.ref b4), (.ref w_NOT), (.ref b1), (.ref b1)])) rfl (by rw [hml]; rfl) (Steps.refl _) (a := b1) (argsL := [(.ref w_NOT), (.ref b4), (.ref sa9)]) (rest := [(.ref b1)]) (lenOf pd_1 rfl) rfl (by show 2 * 0 + _ ≤ _; exact Nat.le_of_eq rfl) (hb hby at_41) (fun _ _ => ⟨rfl, e9, (by decide : 4 + 0 ≤ _), (by decide : 14 + 0 ≤ _)⟩)
  dsimp only [Pt.U, Pt.locs, Pt.cells, Pt.slots] at X24 l24 y24 z24 st24 hQ24
  subst l24 y24 z24
  obtain ⟨rfl, N24q, K24, qf24_0, qf24_1, qf24_2, qf24_3⟩ := hQ24
  have N24 := Fr.app N6 N24q
  obtain ⟨T29, h29, X29, e29, E29, A29, D29, -, st29⟩ := newO X24 hx hZ9 hown9 (own_W hw 1 rfl) (own_W hw 2 rfl) (own_W hw 3 rfl) rfl (g := (mkF m 46 #[vi pi1, vi pi2, vi pi3, vi 3, vi 0, vi 2, vr b1, .unset, .unset, .unset, .unset, .unset, .unset, .unset] [])) rfl (hb hby at_46) (by decide) (by decide)
  obtain ⟨b29, g29⟩ : ∃ z, z = T24.heap.size := ⟨_, rfl⟩
  rw [← g29] at A29 D29 st29
  have F_operator_b29 : Fld Z h29 b29 "com/example/tyche/tyche/model/jani/Expression$Operation" "operator" "Lcom/example/tyche/tyche/model/jani/Operator;" .null := D29 (Or.inr (own_W hw 80 rfl)) (ty := (.object "com/example/tyche/tyche/model/jani/Operator")) (by decide)
  have F_operands_b29 : Fld Z h29 b29 "com/example/tyche/tyche/model/jani/Expression$Operation" "operands" "Ljava/util/List;" .null := D29 (Or.inr (own_W hw 82 rfl)) (ty := (.object "java/util/List")) (by decide)
  have F_path_b29 : Fld Z h29 b29 "com/example/tyche/tyche/model/jani/Expression$Operation" "path" "Ljava/lang/String;" .null := D29 (Or.inr (own_W hw 84 rfl)) (ty := (.object "java/lang/String")) (by decide)
  have o31 := o28.keep K24 (allS g_b1 all0)
  have o32 := o31.ext E29
  obtain ⟨T30, X30, e30, st30⟩ := getS2 X29 hx hZ9 hown9 (host := "") (Or.inl (own_W hw 85 rfl)) Via.refl e29 (S_AND.ext o32.2) (g := (mkF m 50 #[vi pi1, vi pi2, vi pi3, vi 3, vi 0, vi 2, vr b1, .unset, .unset, .unset, .unset, .unset, .unset, .unset] [(.ref b29), (.ref b29)])) rfl (hb hby at_50)
  obtain ⟨T33, h33, X33, e33, E33, A33, D33, -, st33⟩ := newO X30 hx hZ9 hown9 (own_W hw 7 rfl) (own_W hw 8 rfl) (own_W hw 9 rfl) e30 (g := (mkF m 53 #[vi pi1, vi pi2, vi pi3, vi 3, vi 0, vi 2, vr b1, .unset, .unset, .unset, .unset, .unset, .unset, .unset] [(.ref w_AND), (.ref b29), (.ref b29)])) rfl (hb hby at_53) (by decide) (by decide)
  obtain ⟨b33, g33⟩ : ∃ z, z = h29.size := ⟨_, rfl⟩
  rw [← g33] at A33 D33 st33
  have F_modCount_b33 : Fld Z h33 b33 "java/util/AbstractList" "modCount" "I" (.int 0) := D33 (Or.inl (own_W hw 29 rfl)) (ty := .int) (by decide)
  have F_elementData_b33 : Fld Z h33 b33 "java/util/ArrayList" "elementData" "[Ljava/lang/Object;" .null := D33 (Or.inl (own_W hw 32 rfl)) (ty := (.array (.object "java/lang/Object"))) (by decide)
  have F_size_b33 : Fld Z h33 b33 "java/util/ArrayList" "size" "I" (.int 0) := D33 (Or.inl (own_W hw 74 rfl)) (ty := .int) (by decide)
  have z34 := Nat.le_trans z26 K24.1
  have z35 := Nat.le_trans z34 E29.1
  have g_b33 : n0 ≤ b33 := Nat.le_trans z35 (Nat.le_of_eq g33.symm)
  have z37 := Nat.le_trans z35 E33.1
  have o38 := o32.ext E33
  obtain ⟨_, _, ⟨T36, L36, k36, n36⟩, -, X36, ⟨Lc36, hQ36, l36, y36, z36⟩, st36⟩ := X33.specialBack hx (y := mN2) rfl hown9 (mvT hZ9 (own_W hw 10 rfl)) (mvT hZ9 (own_W hw 11 rfl)) (mvT hZ9 (own_W hw 12 rfl)) (by decide) (backOf (W := 4) (rm1 l Z a0 hw [] b33 w_DEF (.int 0) .null (.int 0) h33 n0 z37 o38 A33 S_DEFAULTCAPACITY_EMPTY_ELEMENTDATA F_modCount_b33 F_elementData_b33 F_size_b33 g_b33) hZ9 (own_W hw 12 rfl) (own_W hw 9 rfl) (by decide) (by decide)) (g := (mkF m 57 #[vi pi1, vi pi2, vi pi3, vi 3, vi 0, vi 2, vr b1, .unset, .unset, .unset, .unset, .unset, .unset, .unset] [(.ref b33), (.ref b33), (.ref w_AND), (.ref b29), (.ref b29)])) rfl (by rw [hml]; rfl) (Steps.refl _) (a := b33) (argsL := []) (rest := [(.ref b33), (.ref w_AND), (.ref b29), (.ref b29)]) (lenOf pd_0 rfl) rfl (by show 2 * 0 + _ ≤ _; exact Nat.le_of_eq rfl) (hb hby at_57) (fun _ _ => ⟨rfl, e33, (by decide : 6 + 0 ≤ _), (by decide : 20 + 0 ≤ _)⟩)
  dsimp only [Pt.U, Pt.locs, Pt.cells, Pt.slots] at X36 l36 y36 z36 st36 hQ36
  subst l36 y36 z36
  obtain ⟨rfl, N36q, K36, qf36_0, qf36_1, qf36_2, qf36_3⟩ := hQ36
  have N36 := Fr.app N24 N36q
  have y40 := Nat.le_trans hk9 K24.1
  have y41 := Nat.le_trans y40 E29.1
  have y42 := Nat.le_trans y41 E33.1
  have y43 := Nat.le_trans y42 K36.1
  obtain ⟨sa39, T39, h39, ks39, X39, e39, E39, hS39, hk39, hZ39, hown39, st39⟩ := ldcS X36 hx hZ9 hown9 (own_W hw 87 rfl) (own_wS hw) rfl hS9 y43 (g := (mkF m 60 #[vi pi1, vi pi2, vi pi3, vi 3, vi 0, vi 2, vr b1, .unset, .unset, .unset, .unset, .unset, .unset, .unset] [(.ref b33), (.ref w_AND), (.ref b29), (.ref b29)])) rfl (hb hby at_60) (n := 4) (by decide) (by decide) (by decide) (by decide)
  have f44 := A29.ext E33
  have f45 := f44.keep K36
  have f46 := f45.ext E39
  have f47 := qf36_0.ext E39
  have f48 := qf36_3.ext E39
  have f49 := F_operator_b29.ext E33
  have f50 := f49.keep K36 (ninS (Nat.ne_of_lt (Nat.lt_of_lt_of_le F_path_b29.lt (Nat.le_of_eq g33.symm))) nin0)
  have f51 := f50.ext E39
  have g_b29 : n0 ≤ b29 := Nat.le_trans z34 (Nat.le_of_eq g29.symm)
  have f52 := F_operands_b29.ext E33
  have f53 := f52.keep K36 (ninS (Nat.ne_of_lt (Nat.lt_of_lt_of_le F_path_b29.lt (Nat.le_of_eq g33.symm))) nin0)
  have f54 := f53.ext E39
  have f55 := F_path_b29.ext E33
  have f56 := f55.keep K36 (ninS (Nat.ne_of_lt (Nat.lt_of_lt_of_le F_path_b29.lt (Nat.le_of_eq g33.symm))) nin0)
  have f57 := f56.ext E39
  have z59 := Nat.le_trans z37 K36.1
  have z60 := Nat.le_trans z59 E39.1
  have o61 := o38.keep K36 (allS g_b33 all0)
  have o62 := o61.ext E39
  obtain ⟨_, _, ⟨T58, L58, k58, n58⟩, -, X58, ⟨Lc58, hQ58, l58, y58, z58⟩, st58⟩ := X39.specialBack hx (y := mN27) rfl hown39 (mvT hZ39 (own_W hw 41 rfl)) (mvT hZ39 (own_W hw 42 rfl)) (mvT hZ39 (own_W hw 43 rfl)) (by decide) (backOf (W := 1) (rm5_0 l Z a0 hw [] b29 w_AND b33 sa39 w_EMPTY_LIST .null .null .null h39 n0 z60 o62 f46 f47 f48 S_EMPTY_LIST f51 g_b29 f54 f57) hZ39 (own_W hw 43 rfl) (own_W hw 3 rfl) (by decide) (by decide)) (g := (mkF m 62 #[vi pi1, vi pi2, vi pi3, vi 3, vi 0, vi 2, vr b1, .unset, .unset, .unset, .unset, .unset, .unset, .unset] [(.ref sa39), (.ref b33), (.ref w_AND), (.ref b29), (.ref b29)])) rfl (by rw [hml]; rfl) (Steps.refl _) (a := b29) (argsL := [(.ref w_AND), (.ref b33), (.ref sa39)]) (rest := [(.ref b29)]) (lenOf pd_1 rfl) rfl (by show 2 * 0 + _ ≤ _; exact Nat.le_of_eq rfl) (hb hby at_62) (fun _ _ => ⟨rfl, e39, (by decide : 8 + 0 ≤ _), (by decide : 28 + 0 ≤ _)⟩)
  dsimp only [Pt.U, Pt.locs, Pt.cells, Pt.slots] at X58 l58 y58 z58 st58 hQ58
  subst l58 y58 z58
  obtain ⟨rfl, N58q, K58, qf58_0, qf58_1, qf58_2, qf58_3⟩ := hQ58
  have N58 := Fr.app N36 N58q
  obtain ⟨T63, h63, X63, e63, E63, A63, D63, -, st63⟩ := newO X58 hx hZ39 hown39 (own_W hw 1 rfl) (own_W hw 2 rfl) (own_W hw 3 rfl) rfl (g := (mkF m 67 #[vi pi1, vi pi2, vi pi3, vi 3, vi 0, vi 2, vr b1, vr b29, .unset, .unset, .unset, .unset, .unset, .unset] [])) rfl (hb hby at_67) (by decide) (by decide)
  obtain ⟨b63, g63⟩ : ∃ z, z = T58.heap.size := ⟨_, rfl⟩
  rw [← g63] at A63 D63 st63
  have F_operator_b63 : Fld Z h63 b63 "com/example/tyche/tyche/model/jani/Expression$Operation" "operator" "Lcom/example/tyche/tyche/model/jani/Operator;" .null := D63 (Or.inr (own_W hw 80 rfl)) (ty := (.object "com/example/tyche/tyche/model/jani/Operator")) (by decide)
  have F_operands_b63 : Fld Z h63 b63 "com/example/tyche/tyche/model/jani/Expression$Operation" "operands" "Ljava/util/List;" .null := D63 (Or.inr (own_W hw 82 rfl)) (ty := (.object "java/util/List")) (by decide)
  have F_path_b63 : Fld Z h63 b63 "com/example/tyche/tyche/model/jani/Expression$Operation" "path" "Ljava/lang/String;" .null := D63 (Or.inr (own_W hw 84 rfl)) (ty := (.object "java/lang/String")) (by decide)
  have o65 := o62.keep K58 (allS g_b29 all0)
  have o66 := o65.ext E63
  obtain ⟨T64, X64, e64, st64⟩ := getS2 X63 hx hZ39 hown39 (host := "") (Or.inl (own_W hw 88 rfl)) Via.refl e63 (S_DERIVATIVE.ext o66.2) (g := (mkF m 71 #[vi pi1, vi pi2, vi pi3, vi 3, vi 0, vi 2, vr b1, vr b29, .unset, .unset, .unset, .unset, .unset, .unset] [(.ref b63), (.ref b63)])) rfl (hb hby at_71)
  obtain ⟨T67, h67, X67, e67, E67, A67, D67, -, st67⟩ := newO X64 hx hZ39 hown39 (own_W hw 7 rfl) (own_W hw 8 rfl) (own_W hw 9 rfl) e64 (g := (mkF m 74 #[vi pi1, vi pi2, vi pi3, vi 3, vi 0, vi 2, vr b1, vr b29, .unset, .unset, .unset, .unset, .unset, .unset] [(.ref w_DERIVATIVE), (.ref b63), (.ref b63)])) rfl (hb hby at_74) (by decide) (by decide)
  obtain ⟨b67, g67⟩ : ∃ z, z = h63.size := ⟨_, rfl⟩
  rw [← g67] at A67 D67 st67
  have F_modCount_b67 : Fld Z h67 b67 "java/util/AbstractList" "modCount" "I" (.int 0) := D67 (Or.inl (own_W hw 29 rfl)) (ty := .int) (by decide)
  have F_elementData_b67 : Fld Z h67 b67 "java/util/ArrayList" "elementData" "[Ljava/lang/Object;" .null := D67 (Or.inl (own_W hw 32 rfl)) (ty := (.array (.object "java/lang/Object"))) (by decide)
  have F_size_b67 : Fld Z h67 b67 "java/util/ArrayList" "size" "I" (.int 0) := D67 (Or.inl (own_W hw 74 rfl)) (ty := .int) (by decide)
  have z68 := Nat.le_trans z60 K58.1
  have z69 := Nat.le_trans z68 E63.1
  have g_b67 : n0 ≤ b67 := Nat.le_trans z69 (Nat.le_of_eq g67.symm)
  have z71 := Nat.le_trans z69 E67.1
  have o72 := o66.ext E67
  obtain ⟨_, _, ⟨T70, L70, k70, n70⟩, -, X70, ⟨Lc70, hQ70, l70, y70, z70⟩, st70⟩ := X67.specialBack hx (y := mN2) rfl hown39 (mvT hZ39 (own_W hw 10 rfl)) (mvT hZ39 (own_W hw 11 rfl)) (mvT hZ39 (own_W hw 12 rfl)) (by decide) (backOf (W := 4) (rm1 l Z a0 hw [] b67 w_DEF (.int 0) .null (.int 0) h67 n0 z71 o72 A67 S_DEFAULTCAPACITY_EMPTY_ELEMENTDATA F_modCount_b67 F_elementData_b67 F_size_b67 g_b67) hZ39 (own_W hw 12 rfl) (own_W hw 9 rfl) (by decide) (by decide)) (g := (mkF m 78 #[vi pi1, vi pi2, vi pi3, vi 3, vi 0, vi 2, vr b1, vr b29, .unset, .unset, .unset, .unset, .unset, .unset] [(.ref b67), (.ref b67), (.ref w_DERIVATIVE), (.ref b63), (.ref b63)])) rfl (by rw [hml]; rfl) (Steps.refl _) (a := b67) (argsL := []) (rest := [(.ref b67), (.ref w_DERIVATIVE), (.ref b63), (.ref b63)]) (lenOf pd_0 rfl) rfl (by show 2 * 0 + _ ≤ _; exact Nat.le_of_eq rfl) (hb hby at_78) (fun _ _ => ⟨rfl, e67, (by decide : 10 + 0 ≤ _), (by decide : 34 + 0 ≤ _)⟩)
  dsimp only [Pt.U, Pt.locs, Pt.cells, Pt.slots] at X70 l70 y70 z70 st70 hQ70
  subst l70 y70 z70
  obtain ⟨rfl, N70q, K70, qf70_0, qf70_1, qf70_2, qf70_3⟩ := hQ70
  have N70 := Fr.app N58 N70q
  have y74 := Nat.le_trans hk39 K58.1
  have y75 := Nat.le_trans y74 E63.1
  have y76 := Nat.le_trans y75 E67.1
  have y77 := Nat.le_trans y76 K70.1
  obtain ⟨sa73, T73, h73, ks73, X73, e73, E73, hS73, hk73, hZ73, hown73, st73⟩ := ldcS X70 hx hZ39 hown39 (own_W hw 90 rfl) (own_wS hw) rfl hS39 y77 (g := (mkF m 81 #[vi pi1, vi pi2, vi pi3, vi 3, vi 0, vi 2, vr b1, vr b29, .unset, .unset, .unset, .unset, .unset, .unset] [(.ref b67), (.ref w_DERIVATIVE), (.ref b63), (.ref b63)])) rfl (hb hby at_81) (n := 4) (by decide) (by decide) (by decide) (by decide)
  have f78 := A63.ext E67
  have f79 := f78.keep K70
  have f80 := f79.ext E73
  have f81 := qf70_0.ext E73
  have f82 := qf70_3.ext E73
  have f83 := F_operator_b63.ext E67
  have f84 := f83.keep K70 (ninS (Nat.ne_of_lt (Nat.lt_of_lt_of_le F_path_b63.lt (Nat.le_of_eq g67.symm))) nin0)
  have f85 := f84.ext E73
  have g_b63 : n0 ≤ b63 := Nat.le_trans z68 (Nat.le_of_eq g63.symm)
  have f86 := F_operands_b63.ext E67
  have f87 := f86.keep K70 (ninS (Nat.ne_of_lt (Nat.lt_of_lt_of_le F_path_b63.lt (Nat.le_of_eq g67.symm))) nin0)
  have f88 := f87.ext E73
  have f89 := F_path_b63.ext E67
  have f90 := f89.keep K70 (ninS (Nat.ne_of_lt (Nat.lt_of_lt_of_le F_path_b63.lt (Nat.le_of_eq g67.symm))) nin0)
  have f91 := f90.ext E73
  have z93 := Nat.le_trans z71 K70.1
  have z94 := Nat.le_trans z93 E73.1
  have o95 := o72.keep K70 (allS g_b67 all0)
  have o96 := o95.ext E73
  obtain ⟨_, _, ⟨T92, L92, k92, n92⟩, -, X92, ⟨Lc92, hQ92, l92, y92, z92⟩, st92⟩ := X73.specialBack hx (y := mN27) rfl hown73 (mvT hZ73 (own_W hw 41 rfl)) (mvT hZ73 (own_W hw 42 rfl)) (mvT hZ73 (own_W hw 43 rfl)) (by decide) (backOf (W := 1) (rm5_0 l Z a0 hw [] b63 w_DERIVATIVE b67 sa73 w_EMPTY_LIST .null .null .null h73 n0 z94 o96 f80 f81 f82 S_EMPTY_LIST f85 g_b63 f88 f91) hZ73 (own_W hw 43 rfl) (own_W hw 3 rfl) (by decide) (by decide)) (g := (mkF m 83 #[vi pi1, vi pi2, vi pi3, vi 3, vi 0, vi 2, vr b1, vr b29, .unset, .unset, .unset, .unset, .unset, .unset] [(.ref sa73), (.ref b67), (.ref w_DERIVATIVE), (.ref b63), (.ref b63)])) rfl (by rw [hml]; rfl) (Steps.refl _) (a := b63) (argsL := [(.ref w_DERIVATIVE), (.ref b67), (.ref sa73)]) (rest := [(.ref b63)]) (lenOf pd_1 rfl) rfl (by show 2 * 0 + _ ≤ _; exact Nat.le_of_eq rfl) (hb hby at_83) (fun _ _ => ⟨rfl, e73, (by decide : 12 + 0 ≤ _), (by decide : 42 + 0 ≤ _)⟩)
  dsimp only [Pt.U, Pt.locs, Pt.cells, Pt.slots] at X92 l92 y92 z92 st92 hQ92
  subst l92 y92 z92
  obtain ⟨rfl, N92q, K92, qf92_0, qf92_1, qf92_2, qf92_3⟩ := hQ92
  have N92 := Fr.app N70 N92q
  obtain ⟨T97, h97, X97, e97, E97, A97, D97, -, st97⟩ := newO X92 hx hZ73 hown73 (own_W hw 7 rfl) (own_W hw 8 rfl) (own_W hw 9 rfl) rfl (g := (mkF m 88 #[vi pi1, vi pi2, vi pi3, vi 3, vi 0, vi 2, vr b1, vr b29, vr b63, .unset, .unset, .unset, .unset, .unset] [])) rfl (hb hby at_88) (by decide) (by decide)
  obtain ⟨b97, g97⟩ : ∃ z, z = T92.heap.size := ⟨_, rfl⟩
  rw [← g97] at A97 D97 st97
  have F_modCount_b97 : Fld Z h97 b97 "java/util/AbstractList" "modCount" "I" (.int 0) := D97 (Or.inl (own_W hw 29 rfl)) (ty := .int) (by decide)
  have F_elementData_b97 : Fld Z h97 b97 "java/util/ArrayList" "elementData" "[Ljava/lang/Object;" .null := D97 (Or.inl (own_W hw 32 rfl)) (ty := (.array (.object "java/lang/Object"))) (by decide)
  have F_size_b97 : Fld Z h97 b97 "java/util/ArrayList" "size" "I" (.int 0) := D97 (Or.inl (own_W hw 74 rfl)) (ty := .int) (by decide)
  have z98 := Nat.le_trans z94 K92.1
  have g_b97 : n0 ≤ b97 := Nat.le_trans z98 (Nat.le_of_eq g97.symm)
  have z100 := Nat.le_trans z98 E97.1
  have o101 := o96.keep K92 (allS g_b63 all0)
  have o102 := o101.ext E97
  obtain ⟨_, _, ⟨T99, L99, k99, n99⟩, -, X99, ⟨Lc99, hQ99, l99, y99, z99⟩, st99⟩ := X97.specialBack hx (y := mN2) rfl hown73 (mvT hZ73 (own_W hw 10 rfl)) (mvT hZ73 (own_W hw 11 rfl)) (mvT hZ73 (own_W hw 12 rfl)) (by decide) (backOf (W := 1) (rm1 l Z a0 hw [] b97 w_DEF (.int 0) .null (.int 0) h97 n0 z100 o102 A97 S_DEFAULTCAPACITY_EMPTY_ELEMENTDATA F_modCount_b97 F_elementData_b97 F_size_b97 g_b97) hZ73 (own_W hw 12 rfl) (own_W hw 9 rfl) (by decide) (by decide)) (g := (mkF m 92 #[vi pi1, vi pi2, vi pi3, vi 3, vi 0, vi 2, vr b1, vr b29, vr b63, .unset, .unset, .unset, .unset, .unset] [(.ref b97), (.ref b97)])) rfl (by rw [hml]; rfl) (Steps.refl _) (a := b97) (argsL := []) (rest := [(.ref b97)]) (lenOf pd_0 rfl) rfl (by show 2 * 0 + _ ≤ _; exact Nat.le_of_eq rfl) (hb hby at_92) (fun _ _ => ⟨rfl, e97, (by decide : 13 + 0 ≤ _), (by decide : 45 + 0 ≤ _)⟩)
  dsimp only [Pt.U, Pt.locs, Pt.cells, Pt.slots] at X99 l99 y99 z99 st99 hQ99
  subst l99 y99 z99
  obtain ⟨rfl, N99q, K99, qf99_0, qf99_1, qf99_2, qf99_3⟩ := hQ99
  have N99 := Fr.app N92 N99q
  have f103 := qf24_0.ext E29
  have f104 := f103.ext E33
  have f105 := f104.keep K36
  have f106 := f105.ext E39
  have f107 := f106.keep K58
  have f108 := f107.ext E63
  have f109 := f108.ext E67
  have f110 := f109.keep K70
  have f111 := f110.ext E73
  have f112 := f111.keep K92
  have f113 := f112.ext E97
  have f114 := f113.keep K99
  have z116 := Nat.le_trans z100 K99.1
  have o117 := o102.keep K99 (allS g_b97 all0)
  obtain ⟨cq115, kq115, q115a, q115b, q115c⟩ := isOf hZ73 rfl qf99_0
  obtain ⟨_, _, ⟨T115, L115, k115, n115⟩, -, X115, ⟨Lc115, hQ115, l115, y115, z115⟩, st115⟩ := X99.virtualBack hx (y := mN7) (z := mN7) hown73 (mvT hZ73 (own_W hw 91 rfl)) (mvT hZ73 (own_W hw 92 rfl)) (notFace_of_selects (args := #[]) (mvT hZ73 (own_W hw 94 rfl))) (mvT hZ73 (own_W hw 94 rfl)) (mvT hZ73 (own_W hw 93 rfl)) (by decide) (backOf (W := 0) (rm11_0 l Z a0 hw [] b97 b1 w_DEF kk_w_DEF (0 : Int32) T99.heap n0 z116 o117 qf99_0 f114 S_DEFAULTCAPACITY_EMPTY_ELEMENTDATA V_w_DEF qf99_1 qf99_2 qf99_3 g_b97) hZ73 (own_W hw 95 rfl) (own_W hw 9 rfl) (by decide) (by decide)) q115a q115c (g := (mkF m 101 #[vi pi1, vi pi2, vi pi3, vi 3, vi 0, vi 2, vr b1, vr b29, vr b63, vr b97, .unset, .unset, .unset, .unset] [(.ref b1), (.ref b97)])) rfl (by rw [hml]; rfl) (Steps.refl _) (argsL := [(.ref b1)]) (rest := []) (lenOf pd_5 rfl) rfl (by show 2 * 0 + _ ≤ _; exact Nat.le_of_eq rfl) (hb hby at_101) (fun _ _ => ⟨rfl, rfl, (by decide : 13 + 1 ≤ _), (by decide : 45 + 10 ≤ _)⟩)
  dsimp only [Pt.U, Pt.locs, Pt.cells, Pt.slots] at X115 l115 y115 z115 st115 hQ115
  subst l115 y115 z115
  obtain ⟨b115, b115_1, rfl, N115q, K115, qf115_0, qf115_1, qf115_2, qf115_3, qf115_4, qf115_5, qf115_6, qf115_7⟩ := hQ115
  have N115 := Fr.app N99 N115q
  have f118 := qf58_0.ext E63
  have f119 := f118.ext E67
  have f120 := f119.keep K70
  have f121 := f120.ext E73
  have f122 := f121.keep K92
  have f123 := f122.ext E97
  have f124 := f123.keep K99
  have f125 := f124.keep K115
  have g_b115 : n0 ≤ b115 := Nat.le_trans z116 qf115_4
  have z127 := Nat.le_trans z116 K115.1
  have o128 := o117.keep K115 (allS g_b97 all0)
  obtain ⟨cq126, kq126, q126a, q126b, q126c⟩ := isOf hZ73 rfl qf115_0
  obtain ⟨_, _, ⟨T126, L126, k126, n126⟩, -, X126, ⟨Lc126, hQ126, l126, y126, z126⟩, st126⟩ := X115.virtualBack hx (y := mN7) (z := mN7) hown73 (mvT hZ73 (own_W hw 91 rfl)) (mvT hZ73 (own_W hw 92 rfl)) (notFace_of_selects (args := #[]) (mvT hZ73 (own_W hw 94 rfl))) (mvT hZ73 (own_W hw 94 rfl)) (mvT hZ73 (own_W hw 93 rfl)) (by decide) (backOf (W := 0) (rm11_1 l Z a0 hw [] b97 b29 ((0 : Int32) + (1 : Int32)) b115 b115_1 (.ref b1) .null .null .null .null .null .null .null .null .null T115.heap n0 z127 o128 qf115_0 f125 qf115_1 qf115_2 qf115_6 qf115_7 qf115_3 g_b97 (Ne.symm (Nat.ne_of_lt (Nat.lt_of_lt_of_le qf99_0.lt qf115_4))) g_b115) hZ73 (own_W hw 95 rfl) (own_W hw 9 rfl) (by decide) (by decide)) q126a q126c (g := (mkF m 114 #[vi pi1, vi pi2, vi pi3, vi 3, vi 0, vi 2, vr b1, vr b29, vr b63, vr b97, .unset, .unset, .unset, .unset] [(.ref b29), (.ref b97)])) rfl (by rw [hml]; rfl) (Steps.refl _) (argsL := [(.ref b29)]) (rest := []) (lenOf pd_5 rfl) rfl (by show 2 * 0 + _ ≤ _; exact Nat.le_of_eq rfl) (hb hby at_114) (fun _ _ => ⟨rfl, rfl, (by decide : 14 + 0 ≤ _), (by decide : 55 + 0 ≤ _)⟩)
  dsimp only [Pt.U, Pt.locs, Pt.cells, Pt.slots] at X126 l126 y126 z126 st126 hQ126
  subst l126 y126 z126
  obtain ⟨rfl, N126q, K126, qf126_0, qf126_1, qf126_2, qf126_3, qf126_4, qf126_5⟩ := hQ126
  have N126 := Fr.app N115 N126q
  have f129 := qf92_0.ext E97
  have f130 := f129.keep K99
  have f131 := f130.keep K115
  have f132 := f131.keep K126
  have z134 := Nat.le_trans z127 K126.1
  have o135 := o128.keep K126 (allS g_b97 (allS g_b115 all0))
  obtain ⟨cq133, kq133, q133a, q133b, q133c⟩ := isOf hZ73 rfl qf126_0
  obtain ⟨_, _, ⟨T133, L133, k133, n133⟩, -, X133, ⟨Lc133, hQ133, l133, y133, z133⟩, st133⟩ := X126.virtualBack hx (y := mN7) (z := mN7) hown73 (mvT hZ73 (own_W hw 91 rfl)) (mvT hZ73 (own_W hw 92 rfl)) (notFace_of_selects (args := #[]) (mvT hZ73 (own_W hw 94 rfl))) (mvT hZ73 (own_W hw 94 rfl)) (mvT hZ73 (own_W hw 93 rfl)) (by decide) (backOf (W := 0) (rm11_2 l Z a0 hw [] b97 b63 (((0 : Int32) + (1 : Int32)) + (1 : Int32)) b115 b115_1 (.ref b1) (.ref b29) .null .null .null .null .null .null .null .null T126.heap n0 z134 o135 qf126_0 f132 qf126_1 qf126_2 qf126_4 qf126_5 qf126_3 g_b97 (Ne.symm (Nat.ne_of_lt (Nat.lt_of_lt_of_le qf99_0.lt qf115_4))) g_b115) hZ73 (own_W hw 95 rfl) (own_W hw 9 rfl) (by decide) (by decide)) q133a q133c (g := (mkF m 127 #[vi pi1, vi pi2, vi pi3, vi 3, vi 0, vi 2, vr b1, vr b29, vr b63, vr b97, .unset, .unset, .unset, .unset] [(.ref b63), (.ref b97)])) rfl (by rw [hml]; rfl) (Steps.refl _) (argsL := [(.ref b63)]) (rest := []) (lenOf pd_5 rfl) rfl (by show 2 * 0 + _ ≤ _; exact Nat.le_of_eq rfl) (hb hby at_127) (fun _ _ => ⟨rfl, rfl, (by decide : 14 + 0 ≤ _), (by decide : 55 + 0 ≤ _)⟩)
  dsimp only [Pt.U, Pt.locs, Pt.cells, Pt.slots] at X133 l133 y133 z133 st133 hQ133
  subst l133 y133 z133
  obtain ⟨rfl, N133q, K133, qf133_0, qf133_1, qf133_2, qf133_3, qf133_4, qf133_5⟩ := hQ133
  have N133 := Fr.app N126 N133q
  have f136 := qf115_5.keep K126
  obtain ⟨T137, h137, X137, e137, E137, A137, D137, -, st137⟩ := newO X133 hx hZ73 hown73 (own_W hw 1 rfl) (own_W hw 2 rfl) (own_W hw 3 rfl) rfl (g := (mkF m 131 #[vi pi1, vi pi2, vi pi3, vi 3, vi 0, vi 2, vr b1, vr b29, vr b63, vr b97, .unset, .unset, .unset, .unset] [])) rfl (hb hby at_131) (by decide) (by decide)
  obtain ⟨b137, g137⟩ : ∃ z, z = T133.heap.size := ⟨_, rfl⟩
  rw [← g137] at A137 D137 st137
  have F_operator_b137 : Fld Z h137 b137 "com/example/tyche/tyche/model/jani/Expression$Operation" "operator" "Lcom/example/tyche/tyche/model/jani/Operator;" .null := D137 (Or.inr (own_W hw 80 rfl)) (ty := (.object "com/example/tyche/tyche/model/jani/Operator")) (by decide)
  have F_operands_b137 : Fld Z h137 b137 "com/example/tyche/tyche/model/jani/Expression$Operation" "operands" "Ljava/util/List;" .null := D137 (Or.inr (own_W hw 82 rfl)) (ty := (.object "java/util/List")) (by decide)
  have F_path_b137 : Fld Z h137 b137 "com/example/tyche/tyche/model/jani/Expression$Operation" "path" "Ljava/lang/String;" .null := D137 (Or.inr (own_W hw 84 rfl)) (ty := (.object "java/lang/String")) (by decide)
  have o139 := o135.keep K133 (allS g_b97 (allS g_b115 all0))
  have o140 := o139.ext E137
  obtain ⟨T138, X138, e138, st138⟩ := getS2 X137 hx hZ73 hown73 (host := "") (Or.inl (own_W hw 120 rfl)) Via.refl e137 (S_PLUS.ext o140.2) (g := (mkF m 135 #[vi pi1, vi pi2, vi pi3, vi 3, vi 0, vi 2, vr b1, vr b29, vr b63, vr b97, .unset, .unset, .unset, .unset] [(.ref b137), (.ref b137)])) rfl (hb hby at_135)
  have z142 := Nat.le_trans z134 K133.1
  have z143 := Nat.le_trans z142 E137.1
  obtain ⟨_, _, ⟨T141, L141, k141, n141⟩, -, X141, ⟨Lc141, hQ141, l141, y141, z141⟩, st141⟩ := Jvm.LawKit.callS X138 hx (y := mN31) hown73 (mvT hZ73 (own_W hw 122 rfl)) (mvT hZ73 (own_W hw 123 rfl)) (mvT hZ73 (own_W hw 34 rfl)) (mvT hZ73 (own_W hw 124 rfl)) (by decide) (backOf (W := 4) (rm16 l Z a0 hw [] ((pi3 &&& (255 : Int32)).toUInt32.toUInt16.toUInt32.toInt32) w_COMPACT_STRINGS h137 n0 z143 o140 S_COMPACT_STRINGS hCS (own_c255 _)) hZ73 (own_W hw 124 rfl) (own_W hw 34 rfl) (by decide) (by decide)) (g := (mkF m 146 #[vi pi1, vi pi2, vi pi3, vi 3, vi 0, vi 2, vr b1, vr b29, vr b63, vr b97, .unset, .unset, .unset, .unset] [(.int ((pi3 &&& (255 : Int32)).toUInt32.toUInt16.toUInt32.toInt32)), (.ref b97), (.ref w_PLUS), (.ref b137), (.ref b137)])) rfl (by rw [hml]; rfl) (argsL := [(.int ((pi3 &&& (255 : Int32)).toUInt32.toUInt16.toUInt32.toInt32))]) (rest := [(.ref b97), (.ref w_PLUS), (.ref b137), (.ref b137)]) (lenOf pd_10 rfl) rfl (by show 2 * 0 + _ ≤ _; exact Nat.le_of_eq rfl) (hb hby at_146) (fun _ _ => ⟨rfl, e138, (by decide : 15 + 2 ≤ _), (by decide : 58 + 5 ≤ _)⟩)
  dsimp only [Pt.U, Pt.locs, Pt.cells, Pt.slots] at X141 l141 y141 z141 st141 hQ141
  subst l141 y141 z141
  obtain ⟨b141, b141_1, rfl, N141q, K141, qf141_0, qf141_1⟩ := hQ141
  have N141 := Fr.app N133 N141q
  have f144 := A137.keep K141
  have f145 := qf133_0.ext E137
  have f146 := f145.keep K141
  have f147 := qf133_2.ext E137
  have f148 := f147.keep K141 nin0
  have f149 := qf133_3.ext E137
  have f150 := f149.keep K141 nin0
  have f151 := f136.keep K133
  have f152 := f151.ext E137
  have f153 := f152.keep K141
  have f154 := qf133_4.ext E137
  have f155 := f154.keep K141 nin0
  have f156 := f114.keep K115
  have f157 := f156.keep K126
  have f158 := f157.keep K133
  have f159 := f158.ext E137
  have f160 := f159.keep K141
  have f161 := f125.keep K126
  have f162 := f161.keep K133
  have f163 := f162.ext E137
  have f164 := f163.keep K141
  have f165 := f132.keep K133
  have f166 := f165.ext E137
  have f167 := f166.keep K141
  have f168 := F_operator_b137.keep K141 nin0
  have g_b137 : n0 ≤ b137 := Nat.le_trans z142 (Nat.le_of_eq g137.symm)
  have f169 := F_operands_b137.keep K141 nin0
  have f170 := F_path_b137.keep K141 nin0
  have z172 := Nat.le_trans z143 K141.1
  have o173 := o140.keep K141 all0
  obtain ⟨_, _, ⟨T171, L171, k171, n171⟩, -, X171, ⟨Lc171, hQ171, l171, y171, z171⟩, st171⟩ := X141.specialBack hx (y := mN27) rfl hown73 (mvT hZ73 (own_W hw 41 rfl)) (mvT hZ73 (own_W hw 42 rfl)) (mvT hZ73 (own_W hw 43 rfl)) (by decide) (backOf (W := 1) (rm5_3 l Z a0 hw [] b137 w_PLUS b97 b141 w_mir b115 b115_1 b1 b29 b63 .null .null .null .null .null .null .null .null .null .null T141.heap n0 z172 o173 f144 M_mir f146 f148 f150 f153 f155 f160 f164 f167 f168 g_b137 f169 f170) hZ73 (own_W hw 43 rfl) (own_W hw 3 rfl) (by decide) (by decide)) (g := (mkF m 149 #[vi pi1, vi pi2, vi pi3, vi 3, vi 0, vi 2, vr b1, vr b29, vr b63, vr b97, .unset, .unset, .unset, .unset] [(.ref b141), (.ref b97), (.ref w_PLUS), (.ref b137), (.ref b137)])) rfl (by rw [hml]; rfl) (Steps.refl _) (a := b137) (argsL := [(.ref w_PLUS), (.ref b97), (.ref b141)]) (rest := [(.ref b137)]) (lenOf pd_1 rfl) rfl (by show 2 * 0 + _ ≤ _; exact Nat.le_of_eq rfl) (hb hby at_149) (fun _ _ => ⟨rfl, rfl, (by decide : 17 + 3 ≤ _), (by decide : 63 + 8 ≤ _)⟩)
  dsimp only [Pt.U, Pt.locs, Pt.cells, Pt.slots] at X171 l171 y171 z171 st171 hQ171
  subst l171 y171 z171
  obtain ⟨b171, b171_1, b171_2, rfl, N171q, K171, qf171_0, qf171_1, qf171_2, qf171_3, qf171_4, qf171_5, qf171_6, qf171_7, qf171_8, qf171_9, qf171_10⟩ := hQ171
  have N171 := Fr.app N141 N171q
  have f174 := f146.keep K171
  have f175 := f160.keep K171
  have f176 := qf133_1.ext E137
  have f177 := f176.keep K141 nin0
  have f178 := f177.keep K171 (ninS (Nat.ne_of_lt (Nat.lt_of_lt_of_le qf133_3.lt (Nat.le_of_eq g137.symm))) nin0)
  have f179 := f148.keep K171 (ninS (Nat.ne_of_lt (Nat.lt_of_lt_of_le qf133_3.lt (Nat.le_of_eq g137.symm))) nin0)
  have f180 := f155.keep K171 (ninS (Nat.ne_of_lt (Nat.lt_of_lt_of_le qf133_4.lt (Nat.le_of_eq g137.symm))) nin0)
  have f181 := f150.keep K171 (ninS (Nat.ne_of_lt (Nat.lt_of_lt_of_le qf133_3.lt (Nat.le_of_eq g137.symm))) nin0)
  have z183 := Nat.le_trans z172 K171.1
  have o184 := o173.keep K171 (allS g_b137 all0)
  obtain ⟨cq182, kq182, q182a, q182b, q182c⟩ := isOf hZ73 rfl f174
  obtain ⟨_, _, ⟨T182, L182, k182, n182⟩, -, X182, ⟨Lc182, hQ182, l182, y182, z182⟩, st182⟩ := X171.virtualBack hx (y := mN7) (z := mN7) hown73 (mvT hZ73 (own_W hw 91 rfl)) (mvT hZ73 (own_W hw 92 rfl)) (notFace_of_selects (args := #[]) (mvT hZ73 (own_W hw 94 rfl))) (mvT hZ73 (own_W hw 94 rfl)) (mvT hZ73 (own_W hw 93 rfl)) (by decide) (backOf (W := 0) (rm11_3 l Z a0 hw [] b97 b1 ((((0 : Int32) + (1 : Int32)) + (1 : Int32)) + (1 : Int32)) b115 b115_1 (.ref b1) (.ref b29) (.ref b63) .null .null .null .null .null .null .null T171.heap n0 z183 o184 f174 f175 f178 f179 f180 qf133_5 f181 g_b97 (Ne.symm (Nat.ne_of_lt (Nat.lt_of_lt_of_le qf99_0.lt qf115_4))) g_b115) hZ73 (own_W hw 95 rfl) (own_W hw 9 rfl) (by decide) (by decide)) q182a q182c (g := (mkF m 158 #[vi pi1, vi pi2, vi pi3, vi 3, vi 0, vi 2, vr b1, vr b29, vr b63, vr b97, vr b137, .unset, .unset, .unset] [(.ref b1), (.ref b97)])) rfl (by rw [hml]; rfl) (Steps.refl _) (argsL := [(.ref b1)]) (rest := []) (lenOf pd_5 rfl) rfl (by show 2 * 0 + _ ≤ _; exact Nat.le_of_eq rfl) (hb hby at_158) (fun _ _ => ⟨rfl, rfl, (by decide : 20 + 0 ≤ _), (by decide : 71 + 0 ≤ _)⟩)
  dsimp only [Pt.U, Pt.locs, Pt.cells, Pt.slots] at X182 l182 y182 z182 st182 hQ182
  subst l182 y182 z182
  obtain ⟨rfl, N182q, K182, qf182_0, qf182_1, qf182_2, qf182_3, qf182_4, qf182_5⟩ := hQ182
  have N182 := Fr.app N171 N182q
  have f185 := f153.keep K171
  have f186 := qf171_2.keep K182 (ninS (Ne.symm (Nat.ne_of_lt (Nat.lt_of_lt_of_le qf133_3.lt (Nat.le_of_eq g137.symm)))) (ninS (Ne.symm (Nat.ne_of_lt (Nat.lt_of_lt_of_le qf133_4.lt (Nat.le_of_eq g137.symm)))) nin0))
  have f187 := qf171_5.keep K182
  have f188 := qf171_6.keep K182 (ninS (Ne.symm (Nat.ne_of_lt (Nat.lt_of_lt_of_le f150.lt qf171_4))) (ninS (Ne.symm (Nat.ne_of_lt (Nat.lt_of_lt_of_le f155.lt qf171_4))) nin0))
  have f189 := qf171_9.keep K182 (ninS (Ne.symm (Nat.ne_of_lt (Nat.lt_of_lt_of_le f150.lt qf171_8))) (ninS (Ne.symm (Nat.ne_of_lt (Nat.lt_of_lt_of_le f155.lt qf171_8))) nin0))
  have f190 := f175.keep K182
  have z192 := Nat.le_trans z183 K182.1
  have o193 := o184.keep K182 (allS g_b97 (allS g_b115 all0))
  have f194 := qf171_0.keep K182
  obtain ⟨cq191, kq191, q191a, q191b, q191c⟩ := isOf hZ73 rfl f194
  obtain ⟨_, _, ⟨T191, L191, k191, n191⟩, -, X191, ⟨Lc191, hQ191, l191, y191, z191⟩, st191⟩ := X182.virtualBack hx (y := mN36) (z := mN36) hown73 (mvT hZ73 (own_W hw 204 rfl)) (mvT hZ73 (own_W hw 205 rfl)) (notFace_of_selects (args := #[]) (mvT hZ73 (own_W hw 207 rfl))) (mvT hZ73 (own_W hw 207 rfl)) (mvT hZ73 (own_W hw 206 rfl)) (by decide) (backOf (W := 0) (rm29_30 l Z a0 hw [] b137 b171 b171_1 b171_2 b1 b29 b63 T182.heap n0 z192 o193 f186 f187 f188 f189 f190) hZ73 (own_W hw 208 rfl) (own_W hw 3 rfl) (by decide) (by decide)) q191a q191c (g := (mkF m 166 #[vi pi1, vi pi2, vi pi3, vi 3, vi 0, vi 2, vr b1, vr b29, vr b63, vr b97, vr b137, .unset, .unset, .unset] [(.int 0), (.ref b137)])) rfl (by rw [hml]; rfl) (Steps.refl _) (argsL := [(.int 0)]) (rest := []) (lenOf pd_21 rfl) rfl (by show 2 * 0 + _ ≤ _; exact Nat.le_of_eq rfl) (hb hby at_166) (fun _ _ => ⟨rfl, rfl, (by decide : 20 + 0 ≤ _), (by decide : 71 + 0 ≤ _)⟩)
  dsimp only [Pt.U, Pt.locs, Pt.cells, Pt.slots] at X191 l191 y191 z191 st191 hQ191
  subst l191 y191 z191
  obtain ⟨rfl, N191q, eq191⟩ := hQ191
  have N191 := Fr.app N182 N191q
  obtain ⟨_, _, ⟨T195, L195, k195, n195⟩, -, X195, ⟨Lc195, hQ195, l195, y195, z195⟩, st195⟩ := Jvm.LawKit.callS X191 hx (y := mN39) hown73 (mvT hZ73 (own_W hw 220 rfl)) (mvT hZ73 (own_W hw 221 rfl)) (mvT hZ73 (own_W hw 222 rfl)) (mvT hZ73 (own_W hw 223 rfl)) (by decide) (backOf (W := 1) (rm31_0 l Z a0 hw [] b1 b29 b63 T182.heap n0 z192 o193 ) hZ73 (own_W hw 223 rfl) (own_W hw 222 rfl) (by decide) (by decide)) (g := (mkF m 177 #[vi pi1, vi pi2, vi pi3, vi 3, vi 0, vi 2, vr b1, vr b29, vr b63, vr b97, vr b137, .unset, .unset, .unset] [(.ref b63), (.ref b29), (.ref b1), (.int 0), (.ref b1)])) rfl (by rw [hml]; rfl) (argsL := [(.int 0), (.ref b1), (.ref b29), (.ref b63)]) (rest := [(.ref b1)]) (lenOf pd_23 rfl) rfl (by show 2 * 0 + _ ≤ _; exact Nat.le_of_eq rfl) (hb hby at_177) (fun _ _ => ⟨rfl, eq191, (by decide : 20 + 0 ≤ _), (by decide : 71 + 0 ≤ _)⟩)
  dsimp only [Pt.U, Pt.locs, Pt.cells, Pt.slots] at X195 l195 y195 z195 st195 hQ195
  subst l195 y195 z195
  obtain ⟨rfl, N195q, eq195⟩ := hQ195
  have N195 := Fr.app N191 N195q
  have f196 := f167.keep K171
  have f197 := f196.keep K182
  obtain ⟨cq198, kq198, q198a, q198b, q198c⟩ := isOf hZ73 eq195 f194
  obtain ⟨_, _, ⟨T198, L198, k198, n198⟩, -, X198, ⟨Lc198, hQ198, l198, y198, z198⟩, st198⟩ := X195.virtualBack hx (y := mN36) (z := mN36) hown73 (mvT hZ73 (own_W hw 204 rfl)) (mvT hZ73 (own_W hw 205 rfl)) (notFace_of_selects (args := #[]) (mvT hZ73 (own_W hw 207 rfl))) (mvT hZ73 (own_W hw 207 rfl)) (mvT hZ73 (own_W hw 206 rfl)) (by decide) (backOf (W := 0) (rm29_32 l Z a0 hw [] b137 b171 b171_1 b171_2 b1 b29 b63 T182.heap n0 z192 o193 f186 f187 f188 f189 f197) hZ73 (own_W hw 208 rfl) (own_W hw 3 rfl) (by decide) (by decide)) q198a q198c (g := (mkF m 194 #[vi pi1, vi pi2, vi pi3, vi 3, vi 0, vi 2, vr b1, vr b29, vr b63, vr b97, vr b137, vi 1, .unset, .unset] [(.int 2), (.ref b137)])) rfl (by rw [hml]; rfl) (Steps.refl _) (argsL := [(.int 2)]) (rest := []) (lenOf pd_21 rfl) rfl (by show 2 * 0 + _ ≤ _; exact Nat.le_of_eq rfl) (hb hby at_194) (fun _ _ => ⟨rfl, eq195, (by decide : 20 + 0 ≤ _), (by decide : 71 + 0 ≤ _)⟩)
  dsimp only [Pt.U, Pt.locs, Pt.cells, Pt.slots] at X198 l198 y198 z198 st198 hQ198
  subst l198 y198 z198
  obtain ⟨rfl, N198q, eq198⟩ := hQ198
  have N198 := Fr.app N195 N198q
  obtain ⟨_, _, ⟨T199, L199, k199, n199⟩, -, X199, ⟨Lc199, hQ199, l199, y199, z199⟩, st199⟩ := Jvm.LawKit.callS X198 hx (y := mN39) hown73 (mvT hZ73 (own_W hw 220 rfl)) (mvT hZ73 (own_W hw 221 rfl)) (mvT hZ73 (own_W hw 222 rfl)) (mvT hZ73 (own_W hw 223 rfl)) (by decide) (backOf (W := 1) (rm31_2 l Z a0 hw [] b1 b29 b63 T182.heap n0 z192 o193 ) hZ73 (own_W hw 223 rfl) (own_W hw 222 rfl) (by decide) (by decide)) (g := (mkF m 205 #[vi pi1, vi pi2, vi pi3, vi 3, vi 0, vi 2, vr b1, vr b29, vr b63, vr b97, vr b137, vi 1, .unset, .unset] [(.ref b63), (.ref b29), (.ref b1), (.int 2), (.ref b63)])) rfl (by rw [hml]; rfl) (argsL := [(.int 2), (.ref b1), (.ref b29), (.ref b63)]) (rest := [(.ref b63)]) (lenOf pd_23 rfl) rfl (by show 2 * 0 + _ ≤ _; exact Nat.le_of_eq rfl) (hb hby at_205) (fun _ _ => ⟨rfl, eq198, (by decide : 20 + 0 ≤ _), (by decide : 71 + 0 ≤ _)⟩)
  dsimp only [Pt.U, Pt.locs, Pt.cells, Pt.slots] at X199 l199 y199 z199 st199 hQ199
  subst l199 y199 z199
  obtain ⟨rfl, N199q, eq199⟩ := hQ199
  have N199 := Fr.app N198 N199q
  obtain ⟨cq200, kq200, q200a, q200b, q200c⟩ := isOf hZ73 eq199 f194
  obtain ⟨_, _, ⟨T200, L200, k200, n200⟩, -, X200, ⟨Lc200, hQ200, l200, y200, z200⟩, st200⟩ := X199.virtualBack hx (y := mN38) (z := mN38) hown73 (mvT hZ73 (own_W hw 224 rfl)) (mvT hZ73 (own_W hw 225 rfl)) (notFace_of_selects (args := #[]) (mvT hZ73 (own_W hw 227 rfl))) (mvT hZ73 (own_W hw 227 rfl)) (mvT hZ73 (own_W hw 226 rfl)) (by decide) (backOf (W := 0) (rm32 l Z a0 hw [] b137 b171 T182.heap n0 z192 o193 f186) hZ73 (own_W hw 228 rfl) (own_W hw 3 rfl) (by decide) (by decide)) q200a q200c (g := (mkF m 220 #[vi pi1, vi pi2, vi pi3, vi 3, vi 0, vi 2, vr b1, vr b29, vr b63, vr b97, vr b137, vi 1, vi 1, .unset] [(.ref b137)])) rfl (by rw [hml]; rfl) (Steps.refl _) (argsL := []) (rest := []) (lenOf pd_4 rfl) rfl (by show 2 * 0 + _ ≤ _; exact Nat.le_of_eq rfl) (hb hby at_220) (fun _ _ => ⟨rfl, eq199, (by decide : 20 + 0 ≤ _), (by decide : 71 + 0 ≤ _)⟩)
  dsimp only [Pt.U, Pt.locs, Pt.cells, Pt.slots] at X200 l200 y200 z200 st200 hQ200
  subst l200 y200 z200
  obtain ⟨rfl, N200q, eq200⟩ := hQ200
  have N200 := Fr.app N199 N200q
  obtain ⟨cq201, kq201, q201a, q201b, q201c⟩ := isOf hZ73 eq200 f187
  obtain ⟨_, _, ⟨T201, L201, k201, n201⟩, -, X201, ⟨Lc201, hQ201, l201, y201, z201⟩, st201⟩ := X200.interfaceBack hx (xi := mN40) (y := mN34) hown73 (mvT hZ73 (own_W hw 229 rfl)) (mvT hZ73 (own_W hw 230 rfl)) (mvT hZ73 (own_W hw 231 rfl)) (mvT hZ73 (own_W hw 265 rfl)) (mvT hZ73 (own_W hw 266 rfl)) (mvT hZ73 (own_W hw 267 rfl)) (mvT hZ73 (own_W hw 268 rfl)) (mvT hZ73 (own_W hw 263 rfl)) (by decide) (backOf (W := 0) (rm38 l Z a0 hw [] b171 b171_1 b171_2 b1 b29 b63 T182.heap n0 z192 o193 f188 f189) hZ73 (own_W hw 269 rfl) (own_W hw 246 rfl) (by decide) (by decide)) q201a q201b q201c (g := (mkF m 223 #[vi pi1, vi pi2, vi pi3, vi 3, vi 0, vi 2, vr b1, vr b29, vr b63, vr b97, vr b137, vi 1, vi 1, .unset] [(.ref b171)])) rfl (by rw [hml]; rfl) (Steps.refl _) (argsL := []) (rest := []) (lenOf pd_24 rfl) rfl (by show 2 * 0 + _ ≤ _; exact Nat.le_of_eq rfl) (hb hby at_223) (fun _ _ => ⟨rfl, eq200, (by decide : 20 + 0 ≤ _), (by decide : 71 + 0 ≤ _)⟩)
  dsimp only [Pt.U, Pt.locs, Pt.cells, Pt.slots] at X201 l201 y201 z201 st201 hQ201
  subst l201 y201 z201
  obtain ⟨rfl, N201q, eq201⟩ := hQ201
  have N201 := Fr.app N200 N201q
  have y202 := Nat.le_trans hk73 K92.1
  have y203 := Nat.le_trans y202 E97.1
  have y204 := Nat.le_trans y203 K99.1
  have y205 := Nat.le_trans y204 K115.1
  have y206 := Nat.le_trans y205 K126.1
  have y207 := Nat.le_trans y206 K133.1
  have y208 := Nat.le_trans y207 E137.1
  have y209 := Nat.le_trans y208 K141.1
  have y210 := Nat.le_trans y209 K171.1
  have y211 := Nat.le_trans y210 K182.1
  obtain ⟨fs, hr, hrun, hended, hE1, hE2, hE3, hsame⟩ := X201.leaveW hS73 (by rw [eq201]; exact y211) (v := some (.int 1)) (fun h => by rw [Bd.returns] at h; cases h) (BodyLoose.notSynchronized Bd)
  refine ⟨_, _, pre0 _ ?_, hrun, hended, _, _, rfl, ?_, ⟨_, rfl⟩, hE2, hE3, hsame.mono (by decide) (by decide)⟩
  · show Stp p e below s₁ m 0 #[vi pi1, vi pi2, vi pi3, .unset, .unset, .unset, .unset, .unset, .unset, .unset, .unset, .unset, .unset, .unset] [] _
    refine XS.iconst X0.here hx rfl (hb hby at_0) ?_
    refine XS.iloadN X0.here hx rfl (hb hby at_1) rfl ?_
    refine X0.ldcInt hx hown (mvT hZ (own_W hw 0 rfl)) (g := (mkF m 2 #[vi pi1, vi pi2, vi pi3, .unset, .unset, .unset, .unset, .unset, .unset, .unset, .unset, .unset, .unset, .unset] [(.int pi1), (.int 1)])) rfl (hb hby at_2) _ ?_
    show Stp p e below s₁ m 4 #[vi pi1, vi pi2, vi pi3, .unset, .unset, .unset, .unset, .unset, .unset, .unset, .unset, .unset, .unset, .unset] [(.int 2147483647), (.int pi1), (.int 1)] _
    refine XS.iand X0.here hx rfl (hb hby at_4) rfl ?_
    refine XS.iconst X0.here hx rfl (hb hby at_5) ?_
    refine iremM X0 hx rfl (hb hby at_6) rfl (by decide) ?_
    show Stp p e below s₁ m 7 #[vi pi1, vi pi2, vi pi3, .unset, .unset, .unset, .unset, .unset, .unset, .unset, .unset, .unset, .unset, .unset] [(.int ((pi1 &&& (2147483647 : Int32)) % (3 : Int32))), (.int 1)] _
    refine XS.iadd X0.here hx rfl (hb hby at_7) rfl ?_
    refine XS.istoreN X0.here hx rfl (hb hby at_8) rfl (l' := #[vi pi1, vi pi2, vi pi3, .val (.int ((1 : Int32) + ((pi1 &&& (2147483647 : Int32)) % (3 : Int32)))), .unset, .unset, .unset, .unset, .unset, .unset, .unset, .unset, .unset, .unset]) rfl ?_
    show Stp p e below s₁ m 9 #[vi pi1, vi pi2, vi pi3, .val (.int ((1 : Int32) + ((pi1 &&& (2147483647 : Int32)) % (3 : Int32)))), .unset, .unset, .unset, .unset, .unset, .unset, .unset, .unset, .unset, .unset] [] _
    rw [show ((1 : Int32) + ((pi1 &&& (2147483647 : Int32)) % (3 : Int32))) = (3 : Int32) from own_n3 hc8_0 hc8_1]
    show Stp p e below s₁ m 9 #[vi pi1, vi pi2, vi pi3, vi 3, .unset, .unset, .unset, .unset, .unset, .unset, .unset, .unset, .unset, .unset] [] _
    refine XS.iloadN X0.here hx rfl (hb hby at_9) rfl ?_
    refine X0.ldcInt hx hown (mvT hZ (own_W hw 0 rfl)) (g := (mkF m 10 #[vi pi1, vi pi2, vi pi3, vi 3, .unset, .unset, .unset, .unset, .unset, .unset, .unset, .unset, .unset, .unset] [(.int pi2)])) rfl (hb hby at_10) _ ?_
    show Stp p e below s₁ m 12 #[vi pi1, vi pi2, vi pi3, vi 3, .unset, .unset, .unset, .unset, .unset, .unset, .unset, .unset, .unset, .unset] [(.int 2147483647), (.int pi2)] _
    refine XS.iand X0.here hx rfl (hb hby at_12) rfl ?_
    refine XS.iloadN X0.here hx rfl (hb hby at_13) rfl ?_
    refine iremM X0 hx rfl (hb hby at_14) rfl (by decide) ?_
    show Stp p e below s₁ m 15 #[vi pi1, vi pi2, vi pi3, vi 3, .unset, .unset, .unset, .unset, .unset, .unset, .unset, .unset, .unset, .unset] [(.int ((pi2 &&& (2147483647 : Int32)) % (3 : Int32)))] _
    refine XS.istore X0.here hx rfl (hb hby at_15) rfl (l' := #[vi pi1, vi pi2, vi pi3, vi 3, .val (.int ((pi2 &&& (2147483647 : Int32)) % (3 : Int32))), .unset, .unset, .unset, .unset, .unset, .unset, .unset, .unset, .unset]) rfl ?_
    show Stp p e below s₁ m 17 #[vi pi1, vi pi2, vi pi3, vi 3, .val (.int ((pi2 &&& (2147483647 : Int32)) % (3 : Int32))), .unset, .unset, .unset, .unset, .unset, .unset, .unset, .unset, .unset] [] _
    rw [show ((pi2 &&& (2147483647 : Int32)) % (3 : Int32)) = (0 : Int32) from hc15_2]
    show Stp p e below s₁ m 17 #[vi pi1, vi pi2, vi pi3, vi 3, vi 0, .unset, .unset, .unset, .unset, .unset, .unset, .unset, .unset, .unset] [] _
    refine XS.iloadN X0.here hx rfl (hb hby at_17) rfl ?_
    refine XS.iconst X0.here hx rfl (hb hby at_18) ?_
    refine XS.isub X0.here hx rfl (hb hby at_19) rfl ?_
    refine XS.iload X0.here hx rfl (hb hby at_20) rfl ?_
    refine XS.isub X0.here hx rfl (hb hby at_22) rfl ?_
    refine XS.istore X0.here hx rfl (hb hby at_23) rfl (l' := #[vi pi1, vi pi2, vi pi3, vi 3, vi 0, vi 2, .unset, .unset, .unset, .unset, .unset, .unset, .unset, .unset]) rfl ?_
    refine st1 _ ?_
    show Stp p e below T1 m 28 #[vi pi1, vi pi2, vi pi3, vi 3, vi 0, vi 2, .unset, .unset, .unset, .unset, .unset, .unset, .unset, .unset] [(.ref b1)] _
    refine XS.dup X1.here hx rfl (hb hby at_28) rfl rfl ?_
    refine st2 _ ?_
    show Stp p e below T2 m 32 #[vi pi1, vi pi2, vi pi3, vi 3, vi 0, vi 2, .unset, .unset, .unset, .unset, .unset, .unset, .unset, .unset] [(.ref w_NOT), (.ref b1), (.ref b1)] _
    refine st4 _ ?_
    show Stp p e below T4 m 35 #[vi pi1, vi pi2, vi pi3, vi 3, vi 0, vi 2, .unset, .unset, .unset, .unset, .unset, .unset, .unset, .unset] [(.ref b4), (.ref w_NOT), (.ref b1), (.ref b1)] _
    refine XS.dup X4.here hx rfl (hb hby at_35) rfl rfl ?_
    refine st6.trans ?_
    show Stp p e below T6 m 39 #[vi pi1, vi pi2, vi pi3, vi 3, vi 0, vi 2, .unset, .unset, .unset, .unset, .unset, .unset, .unset, .unset] [(.ref b4), (.ref w_NOT), (.ref b1), (.ref b1)] _
    refine st9 _ ?_
    show Stp p e below T9 m 41 #[vi pi1, vi pi2, vi pi3, vi 3, vi 0, vi 2, .unset, .unset, .unset, .unset, .unset, .unset, .unset, .unset] [(.ref sa9), (.ref b4), (.ref w_NOT), (.ref b1), (.ref b1)] _
    refine st24.trans ?_
    show Stp p e below T24 m 44 #[vi pi1, vi pi2, vi pi3, vi 3, vi 0, vi 2, .unset, .unset, .unset, .unset, .unset, .unset, .unset, .unset] [(.ref b1)] _
    refine XS.astore X24.here hx rfl (hb hby at_44) rfl rfl (l' := #[vi pi1, vi pi2, vi pi3, vi 3, vi 0, vi 2, vr b1, .unset, .unset, .unset, .unset, .unset, .unset, .unset]) rfl ?_
    refine st29 _ ?_
    show Stp p e below T29 m 49 #[vi pi1, vi pi2, vi pi3, vi 3, vi 0, vi 2, vr b1, .unset, .unset, .unset, .unset, .unset, .unset, .unset] [(.ref b29)] _
    refine XS.dup X29.here hx rfl (hb hby at_49) rfl rfl ?_
    refine st30 _ ?_
    show Stp p e below T30 m 53 #[vi pi1, vi pi2, vi pi3, vi 3, vi 0, vi 2, vr b1, .unset, .unset, .unset, .unset, .unset, .unset, .unset] [(.ref w_AND), (.ref b29), (.ref b29)] _
    refine st33 _ ?_
    show Stp p e below T33 m 56 #[vi pi1, vi pi2, vi pi3, vi 3, vi 0, vi 2, vr b1, .unset, .unset, .unset, .unset, .unset, .unset, .unset] [(.ref b33), (.ref w_AND), (.ref b29), (.ref b29)] _
    refine XS.dup X33.here hx rfl (hb hby at_56) rfl rfl ?_
    refine st36.trans ?_
    show Stp p e below T36 m 60 #[vi pi1, vi pi2, vi pi3, vi 3, vi 0, vi 2, vr b1, .unset, .unset, .unset, .unset, .unset, .unset, .unset] [(.ref b33), (.ref w_AND), (.ref b29), (.ref b29)] _
    refine st39 _ ?_
    show Stp p e below T39 m 62 #[vi pi1, vi pi2, vi pi3, vi 3, vi 0, vi 2, vr b1, .unset, .unset, .unset, .unset, .unset, .unset, .unset] [(.ref sa39), (.ref b33), (.ref w_AND), (.ref b29), (.ref b29)] _
    refine st58.trans ?_
    show Stp p e below T58 m 65 #[vi pi1, vi pi2, vi pi3, vi 3, vi 0, vi 2, vr b1, .unset, .unset, .unset, .unset, .unset, .unset, .unset] [(.ref b29)] _
    refine XS.astore X58.here hx rfl (hb hby at_65) rfl rfl (l' := #[vi pi1, vi pi2, vi pi3, vi 3, vi 0, vi 2, vr b1, vr b29, .unset, .unset, .unset, .unset, .unset, .unset]) rfl ?_
    refine st63 _ ?_
    show Stp p e below T63 m 70 #[vi pi1, vi pi2, vi pi3, vi 3, vi 0, vi 2, vr b1, vr b29, .unset, .unset, .unset, .unset, .unset, .unset] [(.ref b63)] _
    refine XS.dup X63.here hx rfl (hb hby at_70) rfl rfl ?_
    refine st64 _ ?_
    show Stp p e below T64 m 74 #[vi pi1, vi pi2, vi pi3, vi 3, vi 0, vi 2, vr b1, vr b29, .unset, .unset, .unset, .unset, .unset, .unset] [(.ref w_DERIVATIVE), (.ref b63), (.ref b63)] _
    refine st67 _ ?_
    show Stp p e below T67 m 77 #[vi pi1, vi pi2, vi pi3, vi 3, vi 0, vi 2, vr b1, vr b29, .unset, .unset, .unset, .unset, .unset, .unset] [(.ref b67), (.ref w_DERIVATIVE), (.ref b63), (.ref b63)] _
    refine XS.dup X67.here hx rfl (hb hby at_77) rfl rfl ?_
    refine st70.trans ?_
    show Stp p e below T70 m 81 #[vi pi1, vi pi2, vi pi3, vi 3, vi 0, vi 2, vr b1, vr b29, .unset, .unset, .unset, .unset, .unset, .unset] [(.ref b67), (.ref w_DERIVATIVE), (.ref b63), (.ref b63)] _
    refine st73 _ ?_
    show Stp p e below T73 m 83 #[vi pi1, vi pi2, vi pi3, vi 3, vi 0, vi 2, vr b1, vr b29, .unset, .unset, .unset, .unset, .unset, .unset] [(.ref sa73), (.ref b67), (.ref w_DERIVATIVE), (.ref b63), (.ref b63)] _
    refine st92.trans ?_
    show Stp p e below T92 m 86 #[vi pi1, vi pi2, vi pi3, vi 3, vi 0, vi 2, vr b1, vr b29, .unset, .unset, .unset, .unset, .unset, .unset] [(.ref b63)] _
    refine XS.astore X92.here hx rfl (hb hby at_86) rfl rfl (l' := #[vi pi1, vi pi2, vi pi3, vi 3, vi 0, vi 2, vr b1, vr b29, vr b63, .unset, .unset, .unset, .unset, .unset]) rfl ?_
    refine st97 _ ?_
    show Stp p e below T97 m 91 #[vi pi1, vi pi2, vi pi3, vi 3, vi 0, vi 2, vr b1, vr b29, vr b63, .unset, .unset, .unset, .unset, .unset] [(.ref b97)] _
    refine XS.dup X97.here hx rfl (hb hby at_91) rfl rfl ?_
    refine st99.trans ?_
    show Stp p e below T99 m 95 #[vi pi1, vi pi2, vi pi3, vi 3, vi 0, vi 2, vr b1, vr b29, vr b63, .unset, .unset, .unset, .unset, .unset] [(.ref b97)] _
    refine XS.astore X99.here hx rfl (hb hby at_95) rfl rfl (l' := #[vi pi1, vi pi2, vi pi3, vi 3, vi 0, vi 2, vr b1, vr b29, vr b63, vr b97, .unset, .unset, .unset, .unset]) rfl ?_
    refine XS.aload X99.here hx rfl (hb hby at_97) rfl rfl ?_
    refine XS.aload X99.here hx rfl (hb hby at_99) rfl rfl ?_
    refine st115.trans ?_
    show Stp p e below T115 m 104 #[vi pi1, vi pi2, vi pi3, vi 3, vi 0, vi 2, vr b1, vr b29, vr b63, vr b97, .unset, .unset, .unset, .unset] [(.int 1)] _
    refine XS.pop X115.here hx rfl (hb hby at_104) rfl rfl ?_
    refine XS.iloadN X115.here hx rfl (hb hby at_105) rfl ?_
    refine XS.iconst X115.here hx rfl (hb hby at_106) ?_
    refine XS.icmpNo X115.here hx rfl (hb hby at_107) rfl (flt (by decide : ¬ ((3 : Int32) < (2 : Int32)))).1 ?_
    show Stp p e below T115 m 110 #[vi pi1, vi pi2, vi pi3, vi 3, vi 0, vi 2, vr b1, vr b29, vr b63, vr b97, .unset, .unset, .unset, .unset] [] _
    refine XS.aload X115.here hx rfl (hb hby at_110) rfl rfl ?_
    refine XS.aload X115.here hx rfl (hb hby at_112) rfl rfl ?_
    refine st126.trans ?_
    show Stp p e below T126 m 117 #[vi pi1, vi pi2, vi pi3, vi 3, vi 0, vi 2, vr b1, vr b29, vr b63, vr b97, .unset, .unset, .unset, .unset] [(.int 1)] _
    refine XS.pop X126.here hx rfl (hb hby at_117) rfl rfl ?_
    refine XS.iloadN X126.here hx rfl (hb hby at_118) rfl ?_
    refine XS.iconst X126.here hx rfl (hb hby at_119) ?_
    refine XS.icmpNo X126.here hx rfl (hb hby at_120) rfl (flt (by simp : ¬ ((3 : Int32) < (3 : Int32)))).1 ?_
    show Stp p e below T126 m 123 #[vi pi1, vi pi2, vi pi3, vi 3, vi 0, vi 2, vr b1, vr b29, vr b63, vr b97, .unset, .unset, .unset, .unset] [] _
    refine XS.aload X126.here hx rfl (hb hby at_123) rfl rfl ?_
    refine XS.aload X126.here hx rfl (hb hby at_125) rfl rfl ?_
    refine st133.trans ?_
    show Stp p e below T133 m 130 #[vi pi1, vi pi2, vi pi3, vi 3, vi 0, vi 2, vr b1, vr b29, vr b63, vr b97, .unset, .unset, .unset, .unset] [(.int 1)] _
    refine XS.pop X133.here hx rfl (hb hby at_130) rfl rfl ?_
    refine st137 _ ?_
    show Stp p e below T137 m 134 #[vi pi1, vi pi2, vi pi3, vi 3, vi 0, vi 2, vr b1, vr b29, vr b63, vr b97, .unset, .unset, .unset, .unset] [(.ref b137)] _
    refine XS.dup X137.here hx rfl (hb hby at_134) rfl rfl ?_
    refine st138 _ ?_
    show Stp p e below T138 m 138 #[vi pi1, vi pi2, vi pi3, vi 3, vi 0, vi 2, vr b1, vr b29, vr b63, vr b97, .unset, .unset, .unset, .unset] [(.ref w_PLUS), (.ref b137), (.ref b137)] _
    refine XS.aload X138.here hx rfl (hb hby at_138) rfl rfl ?_
    refine XS.iloadN X138.here hx rfl (hb hby at_140) rfl ?_
    refine XS.sipush X138.here hx rfl (hb hby at_141) ?_
    refine XS.iand X138.here hx rfl (hb hby at_144) rfl ?_
    refine XS.i2c X138.here hx rfl (hb hby at_145) rfl ?_
    refine st141 _ ?_
    show Stp p e below T141 m 149 #[vi pi1, vi pi2, vi pi3, vi 3, vi 0, vi 2, vr b1, vr b29, vr b63, vr b97, .unset, .unset, .unset, .unset] [(.ref b141), (.ref b97), (.ref w_PLUS), (.ref b137), (.ref b137)] _
    refine st171.trans ?_
    show Stp p e below T171 m 152 #[vi pi1, vi pi2, vi pi3, vi 3, vi 0, vi 2, vr b1, vr b29, vr b63, vr b97, .unset, .unset, .unset, .unset] [(.ref b137)] _
    refine XS.astore X171.here hx rfl (hb hby at_152) rfl rfl (l' := #[vi pi1, vi pi2, vi pi3, vi 3, vi 0, vi 2, vr b1, vr b29, vr b63, vr b97, vr b137, .unset, .unset, .unset]) rfl ?_
    refine XS.aload X171.here hx rfl (hb hby at_154) rfl rfl ?_
    refine XS.aload X171.here hx rfl (hb hby at_156) rfl rfl ?_
    refine st182.trans ?_
    show Stp p e below T182 m 161 #[vi pi1, vi pi2, vi pi3, vi 3, vi 0, vi 2, vr b1, vr b29, vr b63, vr b97, vr b137, .unset, .unset, .unset] [(.int 1)] _
    refine XS.pop X182.here hx rfl (hb hby at_161) rfl rfl ?_
    refine XS.aload X182.here hx rfl (hb hby at_162) rfl rfl ?_
    refine XS.iload X182.here hx rfl (hb hby at_164) rfl ?_
    refine st191.trans ?_
    show Stp p e below T191 m 169 #[vi pi1, vi pi2, vi pi3, vi 3, vi 0, vi 2, vr b1, vr b29, vr b63, vr b97, vr b137, .unset, .unset, .unset] [(.ref b1)] _
    refine XS.iload X191.here hx rfl (hb hby at_169) rfl ?_
    refine XS.aload X191.here hx rfl (hb hby at_171) rfl rfl ?_
    refine XS.aload X191.here hx rfl (hb hby at_173) rfl rfl ?_
    refine XS.aload X191.here hx rfl (hb hby at_175) rfl rfl ?_
    refine st195 _ ?_
    show Stp p e below T195 m 180 #[vi pi1, vi pi2, vi pi3, vi 3, vi 0, vi 2, vr b1, vr b29, vr b63, vr b97, vr b137, .unset, .unset, .unset] [(.ref b1), (.ref b1)] _
    refine Jvm.RoadKit.acmp (g := (mkF m 180 #[vi pi1, vi pi2, vi pi3, vi 3, vi 0, vi 2, vr b1, vr b29, vr b63, vr b97, vr b137, .unset, .unset, .unset] [(.ref b1), (.ref b1)])) X195 hx rfl rfl rfl (pc0 := 180) (pc' := 183) (same := true) rfl (hb hby at_180) rfl (decide_eq_true rfl) (by decide) (by decide) ?_
    show Stp p e below T195 m 183 #[vi pi1, vi pi2, vi pi3, vi 3, vi 0, vi 2, vr b1, vr b29, vr b63, vr b97, vr b137, .unset, .unset, .unset] [] _
    refine XS.iconst X195.here hx rfl (hb hby at_183) ?_
    refine XS.goto X195.here hx rfl (pc0 := 184) (pc' := 188) rfl (hb hby at_184) (by decide) (by decide) ?_
    show Stp p e below T195 m 188 #[vi pi1, vi pi2, vi pi3, vi 3, vi 0, vi 2, vr b1, vr b29, vr b63, vr b97, vr b137, .unset, .unset, .unset] [(.int 1)] _
    refine XS.istore X195.here hx rfl (hb hby at_188) rfl (l' := #[vi pi1, vi pi2, vi pi3, vi 3, vi 0, vi 2, vr b1, vr b29, vr b63, vr b97, vr b137, vi 1, .unset, .unset]) rfl ?_
    refine XS.aload X195.here hx rfl (hb hby at_190) rfl rfl ?_
    refine XS.iload X195.here hx rfl (hb hby at_192) rfl ?_
    refine st198.trans ?_
    show Stp p e below T198 m 197 #[vi pi1, vi pi2, vi pi3, vi 3, vi 0, vi 2, vr b1, vr b29, vr b63, vr b97, vr b137, vi 1, .unset, .unset] [(.ref b63)] _
    refine XS.iload X198.here hx rfl (hb hby at_197) rfl ?_
    refine XS.aload X198.here hx rfl (hb hby at_199) rfl rfl ?_
    refine XS.aload X198.here hx rfl (hb hby at_201) rfl rfl ?_
    refine XS.aload X198.here hx rfl (hb hby at_203) rfl rfl ?_
    refine st199 _ ?_
    show Stp p e below T199 m 208 #[vi pi1, vi pi2, vi pi3, vi 3, vi 0, vi 2, vr b1, vr b29, vr b63, vr b97, vr b137, vi 1, .unset, .unset] [(.ref b63), (.ref b63)] _
    refine Jvm.RoadKit.acmp (g := (mkF m 208 #[vi pi1, vi pi2, vi pi3, vi 3, vi 0, vi 2, vr b1, vr b29, vr b63, vr b97, vr b137, vi 1, .unset, .unset] [(.ref b63), (.ref b63)])) X199 hx rfl rfl rfl (pc0 := 208) (pc' := 211) (same := true) rfl (hb hby at_208) rfl (decide_eq_true rfl) (by decide) (by decide) ?_
    show Stp p e below T199 m 211 #[vi pi1, vi pi2, vi pi3, vi 3, vi 0, vi 2, vr b1, vr b29, vr b63, vr b97, vr b137, vi 1, .unset, .unset] [] _
    refine XS.iconst X199.here hx rfl (hb hby at_211) ?_
    refine XS.goto X199.here hx rfl (pc0 := 212) (pc' := 216) rfl (hb hby at_212) (by decide) (by decide) ?_
    show Stp p e below T199 m 216 #[vi pi1, vi pi2, vi pi3, vi 3, vi 0, vi 2, vr b1, vr b29, vr b63, vr b97, vr b137, vi 1, .unset, .unset] [(.int 1)] _
    refine XS.istore X199.here hx rfl (hb hby at_216) rfl (l' := #[vi pi1, vi pi2, vi pi3, vi 3, vi 0, vi 2, vr b1, vr b29, vr b63, vr b97, vr b137, vi 1, vi 1, .unset]) rfl ?_
    refine XS.aload X199.here hx rfl (hb hby at_218) rfl rfl ?_
    refine st200.trans ?_
    show Stp p e below T200 m 223 #[vi pi1, vi pi2, vi pi3, vi 3, vi 0, vi 2, vr b1, vr b29, vr b63, vr b97, vr b137, vi 1, vi 1, .unset] [(.ref b171)] _
    refine st201.trans ?_
    show Stp p e below T201 m 228 #[vi pi1, vi pi2, vi pi3, vi 3, vi 0, vi 2, vr b1, vr b29, vr b63, vr b97, vr b137, vi 1, vi 1, .unset] [(.int 3)] _
    refine XS.iloadN X201.here hx rfl (hb hby at_228) rfl ?_
    refine XS.icmpNo X201.here hx rfl (hb hby at_229) rfl (teq (rfl : (3 : Int32) = (3 : Int32))).2 ?_
    show Stp p e below T201 m 232 #[vi pi1, vi pi2, vi pi3, vi 3, vi 0, vi 2, vr b1, vr b29, vr b63, vr b97, vr b137, vi 1, vi 1, .unset] [] _
    refine XS.iconst X201.here hx rfl (hb hby at_232) ?_
    refine XS.goto X201.here hx rfl (pc0 := 233) (pc' := 237) rfl (hb hby at_233) (by decide) (by decide) ?_
    show Stp p e below T201 m 237 #[vi pi1, vi pi2, vi pi3, vi 3, vi 0, vi 2, vr b1, vr b29, vr b63, vr b97, vr b137, vi 1, vi 1, .unset] [(.int 1)] _
    refine XS.istore X201.here hx rfl (hb hby at_237) rfl (l' := #[vi pi1, vi pi2, vi pi3, vi 3, vi 0, vi 2, vr b1, vr b29, vr b63, vr b97, vr b137, vi 1, vi 1, vi 1]) rfl ?_
    refine XS.iload X201.here hx rfl (hb hby at_239) rfl ?_
    refine XS.ifNo X201.here hx rfl (hb hby at_241) rfl ((if0 _ _).trans (feq (by decide : ¬ ((1 : Int32) = (0 : Int32)))).1) ?_
    show Stp p e below T201 m 244 #[vi pi1, vi pi2, vi pi3, vi 3, vi 0, vi 2, vr b1, vr b29, vr b63, vr b97, vr b137, vi 1, vi 1, vi 1] [] _
    refine XS.iload X201.here hx rfl (hb hby at_244) rfl ?_
    refine XS.ifNo X201.here hx rfl (hb hby at_246) rfl ((if0 _ _).trans (feq (by decide : ¬ ((1 : Int32) = (0 : Int32)))).1) ?_
    show Stp p e below T201 m 249 #[vi pi1, vi pi2, vi pi3, vi 3, vi 0, vi 2, vr b1, vr b29, vr b63, vr b97, vr b137, vi 1, vi 1, vi 1] [] _
    refine XS.iload X201.here hx rfl (hb hby at_249) rfl ?_
    refine XS.ifNo X201.here hx rfl (hb hby at_251) rfl ((if0 _ _).trans (feq (by decide : ¬ ((1 : Int32) = (0 : Int32)))).1) ?_
    show Stp p e below T201 m 254 #[vi pi1, vi pi2, vi pi3, vi 3, vi 0, vi 2, vr b1, vr b29, vr b63, vr b97, vr b137, vi 1, vi 1, vi 1] [] _
    refine XS.iconst X201.here hx rfl (hb hby at_254) ?_
    refine XS.goto X201.here hx rfl (pc0 := 255) (pc' := 259) rfl (hb hby at_255) (by decide) (by decide) ?_
    show Stp p e below T201 m 259 #[vi pi1, vi pi2, vi pi3, vi 3, vi 0, vi 2, vr b1, vr b29, vr b63, vr b97, vr b137, vi 1, vi 1, vi 1] [(.int 1)] _
    exact retN X201 hx (t := .boolean) Bd.returns (by simp) (hb hby at_259) hr
  · exact ⟨rfl, N201⟩
set_option maxRecDepth 65536 in
set_option maxHeartbeats 40000000 in
theorem rm0_ffft (l : Launch) (Z : State) (a0 : Array Value) (hw : ∀ d ∈ tables_1, d.before a0 Z = true) (ws : List Jvm.Cond) (pi1 : Int32) (pi2 : Int32) (pi3 : Int32) (w_DEF : Addr) (kk_w_DEF : ClassId) (w_EMPTY : Addr) (w_NOT : Addr) (w_EMPTY_LIST : Addr) (w_AND : Addr) (w_DERIVATIVE : Addr) (w_PLUS : Addr) (w_COMPACT_STRINGS : Int32) (w_mir : Addr) (h0 : Heap) (n0 : Nat) (Z0 : n0 ≤ h0.size) (O0 : Old Z n0 h0) (S_DEFAULTCAPACITY_EMPTY_ELEMENTDATA : Sta Z Z.heap "java/util/ArrayList" "DEFAULTCAPACITY_EMPTY_ELEMENTDATA" "[Ljava/lang/Object;" (.ref w_DEF)) (V_w_DEF : Arv Z Z.heap w_DEF kk_w_DEF (.object "java/lang/Object") (0 : Int32) [] .null) (S_EMPTY : Sta Z Z.heap "java/util/ImmutableCollections" "EMPTY" "Ljava/lang/Object;" (.ref w_EMPTY)) (E_w_EMPTY : Exa Z Z.heap w_EMPTY "java/lang/Object") (S_NOT : Sta Z Z.heap "com/example/tyche/tyche/model/jani/Operator" "NOT" "Lcom/example/tyche/tyche/model/jani/Operator;" (.ref w_NOT)) (S_EMPTY_LIST : Sta Z Z.heap "java/util/ImmutableCollections" "EMPTY_LIST" "Ljava/util/ImmutableCollections$ListN;" (.ref w_EMPTY_LIST)) (S_AND : Sta Z Z.heap "com/example/tyche/tyche/model/jani/Operator" "AND" "Lcom/example/tyche/tyche/model/jani/Operator;" (.ref w_AND)) (S_DERIVATIVE : Sta Z Z.heap "com/example/tyche/tyche/model/jani/Operator" "DERIVATIVE" "Lcom/example/tyche/tyche/model/jani/Operator;" (.ref w_DERIVATIVE)) (S_PLUS : Sta Z Z.heap "com/example/tyche/tyche/model/jani/Operator" "PLUS" "Lcom/example/tyche/tyche/model/jani/Operator;" (.ref w_PLUS)) (S_COMPACT_STRINGS : Sta Z Z.heap "java/lang/String" "COMPACT_STRINGS" "Z" (.int w_COMPACT_STRINGS)) (hCS : ¬ (w_COMPACT_STRINGS = (0 : Int32))) (M_mir : Mir Z "[Ljava/lang/Object;" w_mir) (hc8_0 : ¬ (((1 : Int32) + ((pi1 &&& (2147483647 : Int32)) % (3 : Int32))) = (1 : Int32))) (hc8_1 : ¬ (((1 : Int32) + ((pi1 &&& (2147483647 : Int32)) % (3 : Int32))) = (2 : Int32))) (hc15_2 : ¬ (((pi2 &&& (2147483647 : Int32)) % (3 : Int32)) = (0 : Int32))) (hc15_3 : ((pi2 &&& (2147483647 : Int32)) % (3 : Int32)) = (1 : Int32)) :
    MetFree l x (head1 (Jvm.Cond.code x code maxLocals ret :: ws) room_1) (fun a U => a = #[(.int pi1), (.int pi2), (.int pi3)] ∧ Z.Warmed39 U.vm ∧ U.heap = h0) (fun _ _ _ _ _ => True) (fun _ U o U' => ∃ v L, o = .returned v ∧ Q0 v L n0 ∧ ReturnedEndW U o U' L room_1.cells room_1.slots) := by
  refine MetFree.of_bodySF (plainFor_of_name pn_0) hisR ?_
  intro p e s m args below meth c s₁ Bd hml0 hP hK
  obtain ⟨rfl, hZ, hh⟩ := hP
  have hx := Bd.exec
  have hby := Bd.bytes
  have hml : c.maxLocals = 14 := hml0
  have hown : s.vm.findClass "com/example/tyche/tyche/model/jani/OperationOperandPinLaw" = some m.cls := findClass_of_methodNamed Bd.named
  have hnm := (name_of_methodNamed Bd.named Bd.method).1
  have X0 : Stand p l e room_1 s m #[(.int pi1), (.int pi2), (.int pi3)] below meth c s₁ [] 0 0 := Stand.of_body Bd
  have e0 : s₁.heap = h0 := by rw [← hh, Bd.state]; rfl
  have N0 := Fr.nil n0
  have pre0 : ∀ t, Steps p.tables e below (s₁.setTop (mkF m 0 #[vi pi1, vi pi2, vi pi3, .unset, .unset, .unset, .unset, .unset, .unset, .unset, .unset, .unset, .unset, .unset] [])) t → Steps p.tables e below (s₁.setTop (entryFrame m #[(.int pi1), (.int pi2), (.int pi3)] maxLocals)) t := fun t k => castTop (ef_0 m pi1 pi2 pi3) k
  obtain ⟨T1, h1, X1, e1, E1, A1, D1, -, st1⟩ := newO X0 hx hZ hown (own_W hw 1 rfl) (own_W hw 2 rfl) (own_W hw 3 rfl) e0 (g := (mkF m 25 #[vi pi1, vi pi2, vi pi3, vi 3, vi 1, vi 1, .unset, .unset, .unset, .unset, .unset, .unset, .unset, .unset] [])) rfl (hb hby at_25) (by decide) (by decide)
  obtain ⟨b1, g1⟩ : ∃ z, z = h0.size := ⟨_, rfl⟩
  rw [← g1] at A1 D1 st1
  have F_operator_b1 : Fld Z h1 b1 "com/example/tyche/tyche/model/jani/Expression$Operation" "operator" "Lcom/example/tyche/tyche/model/jani/Operator;" .null := D1 (Or.inr (own_W hw 80 rfl)) (ty := (.object "com/example/tyche/tyche/model/jani/Operator")) (by decide)
  have F_operands_b1 : Fld Z h1 b1 "com/example/tyche/tyche/model/jani/Expression$Operation" "operands" "Ljava/util/List;" .null := D1 (Or.inr (own_W hw 82 rfl)) (ty := (.object "java/util/List")) (by decide)
  have F_path_b1 : Fld Z h1 b1 "com/example/tyche/tyche/model/jani/Expression$Operation" "path" "Ljava/lang/String;" .null := D1 (Or.inr (own_W hw 84 rfl)) (ty := (.object "java/lang/String")) (by decide)
  have o3 := O0.ext E1
  obtain ⟨T2, X2, e2, st2⟩ := getS2 X1 hx hZ hown (host := "") (Or.inl (own_W hw 4 rfl)) Via.refl e1 (S_NOT.ext o3.2) (g := (mkF m 29 #[vi pi1, vi pi2, vi pi3, vi 3, vi 1, vi 1, .unset, .unset, .unset, .unset, .unset, .unset, .unset, .unset] [(.ref b1), (.ref b1)])) rfl (hb hby at_29)
  obtain ⟨T4, h4, X4, e4, E4, A4, D4, -, st4⟩ := newO X2 hx hZ hown (own_W hw 7 rfl) (own_W hw 8 rfl) (own_W hw 9 rfl) e2 (g := (mkF m 32 #[vi pi1, vi pi2, vi pi3, vi 3, vi 1, vi 1, .unset, .unset, .unset, .unset, .unset, .unset, .unset, .unset] [(.ref w_NOT), (.ref b1), (.ref b1)])) rfl (hb hby at_32) (by decide) (by decide)
  obtain ⟨b4, g4⟩ : ∃ z, z = h1.size := ⟨_, rfl⟩
  rw [← g4] at A4 D4 st4
  have F_modCount_b4 : Fld Z h4 b4 "java/util/AbstractList" "modCount" "I" (.int 0) := D4 (Or.inl (own_W hw 29 rfl)) (ty := .int) (by decide)
  have F_elementData_b4 : Fld Z h4 b4 "java/util/ArrayList" "elementData" "[Ljava/lang/Object;" .null := D4 (Or.inl (own_W hw 32 rfl)) (ty := (.array (.object "java/lang/Object"))) (by decide)
  have F_size_b4 : Fld Z h4 b4 "java/util/ArrayList" "size" "I" (.int 0) := D4 (Or.inl (own_W hw 74 rfl)) (ty := .int) (by decide)
  have z5 := Nat.le_trans Z0 E1.1
  have g_b4 : n0 ≤ b4 := Nat.le_trans z5 (Nat.le_of_eq g4.symm)
  have z7 := Nat.le_trans z5 E4.1
  have o8 := o3.ext E4
  obtain ⟨_, _, ⟨T6, L6, k6, n6⟩, -, X6, ⟨Lc6, hQ6, l6, y6, z6⟩, st6⟩ := X4.specialBack hx (y := mN2) rfl hown (mvT hZ (own_W hw 10 rfl)) (mvT hZ (own_W hw 11 rfl)) (mvT hZ (own_W hw 12 rfl)) (by decide) (backOf (W := 4) (rm1 l Z a0 hw [] b4 w_DEF (.int 0) .null (.int 0) h4 n0 z7 o8 A4 S_DEFAULTCAPACITY_EMPTY_ELEMENTDATA F_modCount_b4 F_elementData_b4 F_size_b4 g_b4) hZ (own_W hw 12 rfl) (own_W hw 9 rfl) (by decide) (by decide)) (g := (mkF m 36 #[vi pi1, vi pi2, vi pi3, vi 3, vi 1, vi 1, .unset, .unset, .unset, .unset, .unset, .unset, .unset, .unset] [(.ref b4), (.ref b4), (.ref w_NOT), (.ref b1), (.ref b1)])) rfl (by rw [hml]; rfl) (Steps.refl _) (a := b4) (argsL := []) (rest := [(.ref b4), (.ref w_NOT), (.ref b1), (.ref b1)]) (lenOf pd_0 rfl) rfl (by show 2 * 0 + _ ≤ _; exact Nat.le_of_eq rfl) (hb hby at_36) (fun _ _ => ⟨rfl, e4, (by decide : 2 + 0 ≤ _), (by decide : 6 + 0 ≤ _)⟩)
  dsimp only [Pt.U, Pt.locs, Pt.cells, Pt.slots] at X6 l6 y6 z6 st6 hQ6
  subst l6 y6 z6
  obtain ⟨rfl, N6q, K6, qf6_0, qf6_1, qf6_2, qf6_3⟩ := hQ6
  have N6 := Fr.app N0 N6q
  obtain ⟨sa9, T9, h9, ks9, X9, e9, E9, hS9, hk9, hZ9, hown9, st9⟩ := ldcS (show Stand p l e room_1 (s.setVm s.vm) m _ below meth c T6 _ _ _ from X6) hx hZ hown (own_W hw 33 rfl) (own_wS hw) rfl (own_since0 s) (Nat.zero_le _) (g := (mkF m 39 #[vi pi1, vi pi2, vi pi3, vi 3, vi 1, vi 1, .unset, .unset, .unset, .unset, .unset, .unset, .unset, .unset] [(.ref b4), (.ref w_NOT), (.ref b1), (.ref b1)])) rfl (hb hby at_39) (n := 4) (by decide) (by decide) (by decide) (by decide)
  have f10 := A1.ext E4
  have f11 := f10.keep K6
  have f12 := f11.ext E9
  have f13 := qf6_0.ext E9
  have f14 := qf6_3.ext E9
  have f15 := F_operator_b1.ext E4
  have f16 := f15.keep K6 (ninS (Nat.ne_of_lt (Nat.lt_of_lt_of_le F_path_b1.lt (Nat.le_of_eq g4.symm))) nin0)
  have f17 := f16.ext E9
  have g_b1 : n0 ≤ b1 := Nat.le_trans Z0 (Nat.le_of_eq g1.symm)
  have f18 := F_operands_b1.ext E4
  have f19 := f18.keep K6 (ninS (Nat.ne_of_lt (Nat.lt_of_lt_of_le F_path_b1.lt (Nat.le_of_eq g4.symm))) nin0)
  have f20 := f19.ext E9
  have f21 := F_path_b1.ext E4
  have f22 := f21.keep K6 (ninS (Nat.ne_of_lt (Nat.lt_of_lt_of_le F_path_b1.lt (Nat.le_of_eq g4.symm))) nin0)
  have f23 := f22.ext E9
  have z25 := Nat.le_trans z7 K6.1
  have z26 := Nat.le_trans z25 E9.1
  have o27 := o8.keep K6 (allS g_b4 all0)
  have o28 := o27.ext E9
  obtain ⟨_, _, ⟨T24, L24, k24, n24⟩, -, X24, ⟨Lc24, hQ24, l24, y24, z24⟩, st24⟩ := X9.specialBack hx (y := mN27) rfl hown9 (mvT hZ9 (own_W hw 41 rfl)) (mvT hZ9 (own_W hw 42 rfl)) (mvT hZ9 (own_W hw 43 rfl)) (by decide) (backOf (W := 1) (rm5_0 l Z a0 hw [] b1 w_NOT b4 sa9 w_EMPTY_LIST .null .null .null h9 n0 z26 o28 f12 f13 f14 S_EMPTY_LIST f17 g_b1 f20 f23) hZ9 (own_W hw 43 rfl) (own_W hw 3 rfl) (by decide) (by decide)) (g := (mkF m 41 #[vi pi1, vi pi2, vi pi3, vi 3, vi 1, vi 1, .unset, .unset, .unset, .unset, .unset, .unset, .unset, .unset] [(.ref sa9), (.ref b4), (.ref w_NOT), (.ref b1), (.ref b1)])) rfl (by rw [hml]; rfl) (Steps.refl _) (a := b1) (argsL := [(.ref w_NOT), (.ref b4), (.ref sa9)]) (rest := [(.ref b1)]) (lenOf pd_1 rfl) rfl (by show 2 * 0 + _ ≤ _; exact Nat.le_of_eq rfl) (hb hby at_41) (fun _ _ => ⟨rfl, e9, (by decide : 4 + 0 ≤ _), (by decide : 14 + 0 ≤ _)⟩)
  dsimp only [Pt.U, Pt.locs, Pt.cells, Pt.slots] at X24 l24 y24 z24 st24 hQ24
  subst l24 y24 z24
  obtain ⟨rfl, N24q, K24, qf24_0, qf24_1, qf24_2, qf24_3⟩ := hQ24
  have N24 := Fr.app N6 N24q
  obtain ⟨T29, h29, X29, e29, E29, A29, D29, -, st29⟩ := newO X24 hx hZ9 hown9 (own_W hw 1 rfl) (own_W hw 2 rfl) (own_W hw 3 rfl) rfl (g := (mkF m 46 #[vi pi1, vi pi2, vi pi3, vi 3, vi 1, vi 1, vr b1, .unset, .unset, .unset, .unset, .unset, .unset, .unset] [])) rfl (hb hby at_46) (by decide) (by decide)
  obtain ⟨b29, g29⟩ : ∃ z, z = T24.heap.size := ⟨_, rfl⟩
  rw [← g29] at A29 D29 st29
  have F_operator_b29 : Fld Z h29 b29 "com/example/tyche/tyche/model/jani/Expression$Operation" "operator" "Lcom/example/tyche/tyche/model/jani/Operator;" .null := D29 (Or.inr (own_W hw 80 rfl)) (ty := (.object "com/example/tyche/tyche/model/jani/Operator")) (by decide)
  have F_operands_b29 : Fld Z h29 b29 "com/example/tyche/tyche/model/jani/Expression$Operation" "operands" "Ljava/util/List;" .null := D29 (Or.inr (own_W hw 82 rfl)) (ty := (.object "java/util/List")) (by decide)
  have F_path_b29 : Fld Z h29 b29 "com/example/tyche/tyche/model/jani/Expression$Operation" "path" "Ljava/lang/String;" .null := D29 (Or.inr (own_W hw 84 rfl)) (ty := (.object "java/lang/String")) (by decide)
  have o31 := o28.keep K24 (allS g_b1 all0)
  have o32 := o31.ext E29
  obtain ⟨T30, X30, e30, st30⟩ := getS2 X29 hx hZ9 hown9 (host := "") (Or.inl (own_W hw 85 rfl)) Via.refl e29 (S_AND.ext o32.2) (g := (mkF m 50 #[vi pi1, vi pi2, vi pi3, vi 3, vi 1, vi 1, vr b1, .unset, .unset, .unset, .unset, .unset, .unset, .unset] [(.ref b29), (.ref b29)])) rfl (hb hby at_50)
  obtain ⟨T33, h33, X33, e33, E33, A33, D33, -, st33⟩ := newO X30 hx hZ9 hown9 (own_W hw 7 rfl) (own_W hw 8 rfl) (own_W hw 9 rfl) e30 (g := (mkF m 53 #[vi pi1, vi pi2, vi pi3, vi 3, vi 1, vi 1, vr b1, .unset, .unset, .unset, .unset, .unset, .unset, .unset] [(.ref w_AND), (.ref b29), (.ref b29)])) rfl (hb hby at_53) (by decide) (by decide)
  obtain ⟨b33, g33⟩ : ∃ z, z = h29.size := ⟨_, rfl⟩
  rw [← g33] at A33 D33 st33
  have F_modCount_b33 : Fld Z h33 b33 "java/util/AbstractList" "modCount" "I" (.int 0) := D33 (Or.inl (own_W hw 29 rfl)) (ty := .int) (by decide)
  have F_elementData_b33 : Fld Z h33 b33 "java/util/ArrayList" "elementData" "[Ljava/lang/Object;" .null := D33 (Or.inl (own_W hw 32 rfl)) (ty := (.array (.object "java/lang/Object"))) (by decide)
  have F_size_b33 : Fld Z h33 b33 "java/util/ArrayList" "size" "I" (.int 0) := D33 (Or.inl (own_W hw 74 rfl)) (ty := .int) (by decide)
  have z34 := Nat.le_trans z26 K24.1
  have z35 := Nat.le_trans z34 E29.1
  have g_b33 : n0 ≤ b33 := Nat.le_trans z35 (Nat.le_of_eq g33.symm)
  have z37 := Nat.le_trans z35 E33.1
  have o38 := o32.ext E33
  obtain ⟨_, _, ⟨T36, L36, k36, n36⟩, -, X36, ⟨Lc36, hQ36, l36, y36, z36⟩, st36⟩ := X33.specialBack hx (y := mN2) rfl hown9 (mvT hZ9 (own_W hw 10 rfl)) (mvT hZ9 (own_W hw 11 rfl)) (mvT hZ9 (own_W hw 12 rfl)) (by decide) (backOf (W := 4) (rm1 l Z a0 hw [] b33 w_DEF (.int 0) .null (.int 0) h33 n0 z37 o38 A33 S_DEFAULTCAPACITY_EMPTY_ELEMENTDATA F_modCount_b33 F_elementData_b33 F_size_b33 g_b33) hZ9 (own_W hw 12 rfl) (own_W hw 9 rfl) (by decide) (by decide)) (g := (mkF m 57 #[vi pi1, vi pi2, vi pi3, vi 3, vi 1, vi 1, vr b1, .unset, .unset, .unset, .unset, .unset, .unset, .unset] [(.ref b33), (.ref b33), (.ref w_AND), (.ref b29), (.ref b29)])) rfl (by rw [hml]; rfl) (Steps.refl _) (a := b33) (argsL := []) (rest := [(.ref b33), (.ref w_AND), (.ref b29), (.ref b29)]) (lenOf pd_0 rfl) rfl (by show 2 * 0 + _ ≤ _; exact Nat.le_of_eq rfl) (hb hby at_57) (fun _ _ => ⟨rfl, e33, (by decide : 6 + 0 ≤ _), (by decide : 20 + 0 ≤ _)⟩)
  dsimp only [Pt.U, Pt.locs, Pt.cells, Pt.slots] at X36 l36 y36 z36 st36 hQ36
  subst l36 y36 z36
  obtain ⟨rfl, N36q, K36, qf36_0, qf36_1, qf36_2, qf36_3⟩ := hQ36
  have N36 := Fr.app N24 N36q
  have y40 := Nat.le_trans hk9 K24.1
  have y41 := Nat.le_trans y40 E29.1
  have y42 := Nat.le_trans y41 E33.1
  have y43 := Nat.le_trans y42 K36.1
  obtain ⟨sa39, T39, h39, ks39, X39, e39, E39, hS39, hk39, hZ39, hown39, st39⟩ := ldcS X36 hx hZ9 hown9 (own_W hw 87 rfl) (own_wS hw) rfl hS9 y43 (g := (mkF m 60 #[vi pi1, vi pi2, vi pi3, vi 3, vi 1, vi 1, vr b1, .unset, .unset, .unset, .unset, .unset, .unset, .unset] [(.ref b33), (.ref w_AND), (.ref b29), (.ref b29)])) rfl (hb hby at_60) (n := 4) (by decide) (by decide) (by decide) (by decide)
  have f44 := A29.ext E33
  have f45 := f44.keep K36
  have f46 := f45.ext E39
  have f47 := qf36_0.ext E39
  have f48 := qf36_3.ext E39
  have f49 := F_operator_b29.ext E33
  have f50 := f49.keep K36 (ninS (Nat.ne_of_lt (Nat.lt_of_lt_of_le F_path_b29.lt (Nat.le_of_eq g33.symm))) nin0)
  have f51 := f50.ext E39
  have g_b29 : n0 ≤ b29 := Nat.le_trans z34 (Nat.le_of_eq g29.symm)
  have f52 := F_operands_b29.ext E33
  have f53 := f52.keep K36 (ninS (Nat.ne_of_lt (Nat.lt_of_lt_of_le F_path_b29.lt (Nat.le_of_eq g33.symm))) nin0)
  have f54 := f53.ext E39
  have f55 := F_path_b29.ext E33
  have f56 := f55.keep K36 (ninS (Nat.ne_of_lt (Nat.lt_of_lt_of_le F_path_b29.lt (Nat.le_of_eq g33.symm))) nin0)
  have f57 := f56.ext E39
  have z59 := Nat.le_trans z37 K36.1
  have z60 := Nat.le_trans z59 E39.1
  have o61 := o38.keep K36 (allS g_b33 all0)
  have o62 := o61.ext E39
  obtain ⟨_, _, ⟨T58, L58, k58, n58⟩, -, X58, ⟨Lc58, hQ58, l58, y58, z58⟩, st58⟩ := X39.specialBack hx (y := mN27) rfl hown39 (mvT hZ39 (own_W hw 41 rfl)) (mvT hZ39 (own_W hw 42 rfl)) (mvT hZ39 (own_W hw 43 rfl)) (by decide) (backOf (W := 1) (rm5_0 l Z a0 hw [] b29 w_AND b33 sa39 w_EMPTY_LIST .null .null .null h39 n0 z60 o62 f46 f47 f48 S_EMPTY_LIST f51 g_b29 f54 f57) hZ39 (own_W hw 43 rfl) (own_W hw 3 rfl) (by decide) (by decide)) (g := (mkF m 62 #[vi pi1, vi pi2, vi pi3, vi 3, vi 1, vi 1, vr b1, .unset, .unset, .unset, .unset, .unset, .unset, .unset] [(.ref sa39), (.ref b33), (.ref w_AND), (.ref b29), (.ref b29)])) rfl (by rw [hml]; rfl) (Steps.refl _) (a := b29) (argsL := [(.ref w_AND), (.ref b33), (.ref sa39)]) (rest := [(.ref b29)]) (lenOf pd_1 rfl) rfl (by show 2 * 0 + _ ≤ _; exact Nat.le_of_eq rfl) (hb hby at_62) (fun _ _ => ⟨rfl, e39, (by decide : 8 + 0 ≤ _), (by decide : 28 + 0 ≤ _)⟩)
  dsimp only [Pt.U, Pt.locs, Pt.cells, Pt.slots] at X58 l58 y58 z58 st58 hQ58
  subst l58 y58 z58
  obtain ⟨rfl, N58q, K58, qf58_0, qf58_1, qf58_2, qf58_3⟩ := hQ58
  have N58 := Fr.app N36 N58q
  obtain ⟨T63, h63, X63, e63, E63, A63, D63, -, st63⟩ := newO X58 hx hZ39 hown39 (own_W hw 1 rfl) (own_W hw 2 rfl) (own_W hw 3 rfl) rfl (g := (mkF m 67 #[vi pi1, vi pi2, vi pi3, vi 3, vi 1, vi 1, vr b1, vr b29, .unset, .unset, .unset, .unset, .unset, .unset] [])) rfl (hb hby at_67) (by decide) (by decide)
  obtain ⟨b63, g63⟩ : ∃ z, z = T58.heap.size := ⟨_, rfl⟩
  rw [← g63] at A63 D63 st63
  have F_operator_b63 : Fld Z h63 b63 "com/example/tyche/tyche/model/jani/Expression$Operation" "operator" "Lcom/example/tyche/tyche/model/jani/Operator;" .null := D63 (Or.inr (own_W hw 80 rfl)) (ty := (.object "com/example/tyche/tyche/model/jani/Operator")) (by decide)
  have F_operands_b63 : Fld Z h63 b63 "com/example/tyche/tyche/model/jani/Expression$Operation" "operands" "Ljava/util/List;" .null := D63 (Or.inr (own_W hw 82 rfl)) (ty := (.object "java/util/List")) (by decide)
  have F_path_b63 : Fld Z h63 b63 "com/example/tyche/tyche/model/jani/Expression$Operation" "path" "Ljava/lang/String;" .null := D63 (Or.inr (own_W hw 84 rfl)) (ty := (.object "java/lang/String")) (by decide)
  have o65 := o62.keep K58 (allS g_b29 all0)
  have o66 := o65.ext E63
  obtain ⟨T64, X64, e64, st64⟩ := getS2 X63 hx hZ39 hown39 (host := "") (Or.inl (own_W hw 88 rfl)) Via.refl e63 (S_DERIVATIVE.ext o66.2) (g := (mkF m 71 #[vi pi1, vi pi2, vi pi3, vi 3, vi 1, vi 1, vr b1, vr b29, .unset, .unset, .unset, .unset, .unset, .unset] [(.ref b63), (.ref b63)])) rfl (hb hby at_71)
  obtain ⟨T67, h67, X67, e67, E67, A67, D67, -, st67⟩ := newO X64 hx hZ39 hown39 (own_W hw 7 rfl) (own_W hw 8 rfl) (own_W hw 9 rfl) e64 (g := (mkF m 74 #[vi pi1, vi pi2, vi pi3, vi 3, vi 1, vi 1, vr b1, vr b29, .unset, .unset, .unset, .unset, .unset, .unset] [(.ref w_DERIVATIVE), (.ref b63), (.ref b63)])) rfl (hb hby at_74) (by decide) (by decide)
  obtain ⟨b67, g67⟩ : ∃ z, z = h63.size := ⟨_, rfl⟩
  rw [← g67] at A67 D67 st67
  have F_modCount_b67 : Fld Z h67 b67 "java/util/AbstractList" "modCount" "I" (.int 0) := D67 (Or.inl (own_W hw 29 rfl)) (ty := .int) (by decide)
  have F_elementData_b67 : Fld Z h67 b67 "java/util/ArrayList" "elementData" "[Ljava/lang/Object;" .null := D67 (Or.inl (own_W hw 32 rfl)) (ty := (.array (.object "java/lang/Object"))) (by decide)
  have F_size_b67 : Fld Z h67 b67 "java/util/ArrayList" "size" "I" (.int 0) := D67 (Or.inl (own_W hw 74 rfl)) (ty := .int) (by decide)
  have z68 := Nat.le_trans z60 K58.1
  have z69 := Nat.le_trans z68 E63.1
  have g_b67 : n0 ≤ b67 := Nat.le_trans z69 (Nat.le_of_eq g67.symm)
  have z71 := Nat.le_trans z69 E67.1
  have o72 := o66.ext E67
  obtain ⟨_, _, ⟨T70, L70, k70, n70⟩, -, X70, ⟨Lc70, hQ70, l70, y70, z70⟩, st70⟩ := X67.specialBack hx (y := mN2) rfl hown39 (mvT hZ39 (own_W hw 10 rfl)) (mvT hZ39 (own_W hw 11 rfl)) (mvT hZ39 (own_W hw 12 rfl)) (by decide) (backOf (W := 4) (rm1 l Z a0 hw [] b67 w_DEF (.int 0) .null (.int 0) h67 n0 z71 o72 A67 S_DEFAULTCAPACITY_EMPTY_ELEMENTDATA F_modCount_b67 F_elementData_b67 F_size_b67 g_b67) hZ39 (own_W hw 12 rfl) (own_W hw 9 rfl) (by decide) (by decide)) (g := (mkF m 78 #[vi pi1, vi pi2, vi pi3, vi 3, vi 1, vi 1, vr b1, vr b29, .unset, .unset, .unset, .unset, .unset, .unset] [(.ref b67), (.ref b67), (.ref w_DERIVATIVE), (.ref b63), (.ref b63)])) rfl (by rw [hml]; rfl) (Steps.refl _) (a := b67) (argsL := []) (rest := [(.ref b67), (.ref w_DERIVATIVE), (.ref b63), (.ref b63)]) (lenOf pd_0 rfl) rfl (by show 2 * 0 + _ ≤ _; exact Nat.le_of_eq rfl) (hb hby at_78) (fun _ _ => ⟨rfl, e67, (by decide : 10 + 0 ≤ _), (by decide : 34 + 0 ≤ _)⟩)
  dsimp only [Pt.U, Pt.locs, Pt.cells, Pt.slots] at X70 l70 y70 z70 st70 hQ70
  subst l70 y70 z70
  obtain ⟨rfl, N70q, K70, qf70_0, qf70_1, qf70_2, qf70_3⟩ := hQ70
  have N70 := Fr.app N58 N70q
  have y74 := Nat.le_trans hk39 K58.1
  have y75 := Nat.le_trans y74 E63.1
  have y76 := Nat.le_trans y75 E67.1
  have y77 := Nat.le_trans y76 K70.1
  obtain ⟨sa73, T73, h73, ks73, X73, e73, E73, hS73, hk73, hZ73, hown73, st73⟩ := ldcS X70 hx hZ39 hown39 (own_W hw 90 rfl) (own_wS hw) rfl hS39 y77 (g := (mkF m 81 #[vi pi1, vi pi2, vi pi3, vi 3, vi 1, vi 1, vr b1, vr b29, .unset, .unset, .unset, .unset, .unset, .unset] [(.ref b67), (.ref w_DERIVATIVE), (.ref b63), (.ref b63)])) rfl (hb hby at_81) (n := 4) (by decide) (by decide) (by decide) (by decide)
  have f78 := A63.ext E67
  have f79 := f78.keep K70
  have f80 := f79.ext E73
  have f81 := qf70_0.ext E73
  have f82 := qf70_3.ext E73
  have f83 := F_operator_b63.ext E67
  have f84 := f83.keep K70 (ninS (Nat.ne_of_lt (Nat.lt_of_lt_of_le F_path_b63.lt (Nat.le_of_eq g67.symm))) nin0)
  have f85 := f84.ext E73
  have g_b63 : n0 ≤ b63 := Nat.le_trans z68 (Nat.le_of_eq g63.symm)
  have f86 := F_operands_b63.ext E67
  have f87 := f86.keep K70 (ninS (Nat.ne_of_lt (Nat.lt_of_lt_of_le F_path_b63.lt (Nat.le_of_eq g67.symm))) nin0)
  have f88 := f87.ext E73
  have f89 := F_path_b63.ext E67
  have f90 := f89.keep K70 (ninS (Nat.ne_of_lt (Nat.lt_of_lt_of_le F_path_b63.lt (Nat.le_of_eq g67.symm))) nin0)
  have f91 := f90.ext E73
  have z93 := Nat.le_trans z71 K70.1
  have z94 := Nat.le_trans z93 E73.1
  have o95 := o72.keep K70 (allS g_b67 all0)
  have o96 := o95.ext E73
  obtain ⟨_, _, ⟨T92, L92, k92, n92⟩, -, X92, ⟨Lc92, hQ92, l92, y92, z92⟩, st92⟩ := X73.specialBack hx (y := mN27) rfl hown73 (mvT hZ73 (own_W hw 41 rfl)) (mvT hZ73 (own_W hw 42 rfl)) (mvT hZ73 (own_W hw 43 rfl)) (by decide) (backOf (W := 1) (rm5_0 l Z a0 hw [] b63 w_DERIVATIVE b67 sa73 w_EMPTY_LIST .null .null .null h73 n0 z94 o96 f80 f81 f82 S_EMPTY_LIST f85 g_b63 f88 f91) hZ73 (own_W hw 43 rfl) (own_W hw 3 rfl) (by decide) (by decide)) (g := (mkF m 83 #[vi pi1, vi pi2, vi pi3, vi 3, vi 1, vi 1, vr b1, vr b29, .unset, .unset, .unset, .unset, .unset, .unset] [(.ref sa73), (.ref b67), (.ref w_DERIVATIVE), (.ref b63), (.ref b63)])) rfl (by rw [hml]; rfl) (Steps.refl _) (a := b63) (argsL := [(.ref w_DERIVATIVE), (.ref b67), (.ref sa73)]) (rest := [(.ref b63)]) (lenOf pd_1 rfl) rfl (by show 2 * 0 + _ ≤ _; exact Nat.le_of_eq rfl) (hb hby at_83) (fun _ _ => ⟨rfl, e73, (by decide : 12 + 0 ≤ _), (by decide : 42 + 0 ≤ _)⟩)
  dsimp only [Pt.U, Pt.locs, Pt.cells, Pt.slots] at X92 l92 y92 z92 st92 hQ92
  subst l92 y92 z92
  obtain ⟨rfl, N92q, K92, qf92_0, qf92_1, qf92_2, qf92_3⟩ := hQ92
  have N92 := Fr.app N70 N92q
  obtain ⟨T97, h97, X97, e97, E97, A97, D97, -, st97⟩ := newO X92 hx hZ73 hown73 (own_W hw 7 rfl) (own_W hw 8 rfl) (own_W hw 9 rfl) rfl (g := (mkF m 88 #[vi pi1, vi pi2, vi pi3, vi 3, vi 1, vi 1, vr b1, vr b29, vr b63, .unset, .unset, .unset, .unset, .unset] [])) rfl (hb hby at_88) (by decide) (by decide)
  obtain ⟨b97, g97⟩ : ∃ z, z = T92.heap.size := ⟨_, rfl⟩
  rw [← g97] at A97 D97 st97
  have F_modCount_b97 : Fld Z h97 b97 "java/util/AbstractList" "modCount" "I" (.int 0) := D97 (Or.inl (own_W hw 29 rfl)) (ty := .int) (by decide)
  have F_elementData_b97 : Fld Z h97 b97 "java/util/ArrayList" "elementData" "[Ljava/lang/Object;" .null := D97 (Or.inl (own_W hw 32 rfl)) (ty := (.array (.object "java/lang/Object"))) (by decide)
  have F_size_b97 : Fld Z h97 b97 "java/util/ArrayList" "size" "I" (.int 0) := D97 (Or.inl (own_W hw 74 rfl)) (ty := .int) (by decide)
  have z98 := Nat.le_trans z94 K92.1
  have g_b97 : n0 ≤ b97 := Nat.le_trans z98 (Nat.le_of_eq g97.symm)
  have z100 := Nat.le_trans z98 E97.1
  have o101 := o96.keep K92 (allS g_b63 all0)
  have o102 := o101.ext E97
  obtain ⟨_, _, ⟨T99, L99, k99, n99⟩, -, X99, ⟨Lc99, hQ99, l99, y99, z99⟩, st99⟩ := X97.specialBack hx (y := mN2) rfl hown73 (mvT hZ73 (own_W hw 10 rfl)) (mvT hZ73 (own_W hw 11 rfl)) (mvT hZ73 (own_W hw 12 rfl)) (by decide) (backOf (W := 1) (rm1 l Z a0 hw [] b97 w_DEF (.int 0) .null (.int 0) h97 n0 z100 o102 A97 S_DEFAULTCAPACITY_EMPTY_ELEMENTDATA F_modCount_b97 F_elementData_b97 F_size_b97 g_b97) hZ73 (own_W hw 12 rfl) (own_W hw 9 rfl) (by decide) (by decide)) (g := (mkF m 92 #[vi pi1, vi pi2, vi pi3, vi 3, vi 1, vi 1, vr b1, vr b29, vr b63, .unset, .unset, .unset, .unset, .unset] [(.ref b97), (.ref b97)])) rfl (by rw [hml]; rfl) (Steps.refl _) (a := b97) (argsL := []) (rest := [(.ref b97)]) (lenOf pd_0 rfl) rfl (by show 2 * 0 + _ ≤ _; exact Nat.le_of_eq rfl) (hb hby at_92) (fun _ _ => ⟨rfl, e97, (by decide : 13 + 0 ≤ _), (by decide : 45 + 0 ≤ _)⟩)
  dsimp only [Pt.U, Pt.locs, Pt.cells, Pt.slots] at X99 l99 y99 z99 st99 hQ99
  subst l99 y99 z99
  obtain ⟨rfl, N99q, K99, qf99_0, qf99_1, qf99_2, qf99_3⟩ := hQ99
  have N99 := Fr.app N92 N99q
  have f103 := qf24_0.ext E29
  have f104 := f103.ext E33
  have f105 := f104.keep K36
  have f106 := f105.ext E39
  have f107 := f106.keep K58
  have f108 := f107.ext E63
  have f109 := f108.ext E67
  have f110 := f109.keep K70
  have f111 := f110.ext E73
  have f112 := f111.keep K92
  have f113 := f112.ext E97
  have f114 := f113.keep K99
  have z116 := Nat.le_trans z100 K99.1
  have o117 := o102.keep K99 (allS g_b97 all0)
  obtain ⟨cq115, kq115, q115a, q115b, q115c⟩ := isOf hZ73 rfl qf99_0
  obtain ⟨_, _, ⟨T115, L115, k115, n115⟩, -, X115, ⟨Lc115, hQ115, l115, y115, z115⟩, st115⟩ := X99.virtualBack hx (y := mN7) (z := mN7) hown73 (mvT hZ73 (own_W hw 91 rfl)) (mvT hZ73 (own_W hw 92 rfl)) (notFace_of_selects (args := #[]) (mvT hZ73 (own_W hw 94 rfl))) (mvT hZ73 (own_W hw 94 rfl)) (mvT hZ73 (own_W hw 93 rfl)) (by decide) (backOf (W := 0) (rm11_0 l Z a0 hw [] b97 b1 w_DEF kk_w_DEF (0 : Int32) T99.heap n0 z116 o117 qf99_0 f114 S_DEFAULTCAPACITY_EMPTY_ELEMENTDATA V_w_DEF qf99_1 qf99_2 qf99_3 g_b97) hZ73 (own_W hw 95 rfl) (own_W hw 9 rfl) (by decide) (by decide)) q115a q115c (g := (mkF m 101 #[vi pi1, vi pi2, vi pi3, vi 3, vi 1, vi 1, vr b1, vr b29, vr b63, vr b97, .unset, .unset, .unset, .unset] [(.ref b1), (.ref b97)])) rfl (by rw [hml]; rfl) (Steps.refl _) (argsL := [(.ref b1)]) (rest := []) (lenOf pd_5 rfl) rfl (by show 2 * 0 + _ ≤ _; exact Nat.le_of_eq rfl) (hb hby at_101) (fun _ _ => ⟨rfl, rfl, (by decide : 13 + 1 ≤ _), (by decide : 45 + 10 ≤ _)⟩)
  dsimp only [Pt.U, Pt.locs, Pt.cells, Pt.slots] at X115 l115 y115 z115 st115 hQ115
  subst l115 y115 z115
  obtain ⟨b115, b115_1, rfl, N115q, K115, qf115_0, qf115_1, qf115_2, qf115_3, qf115_4, qf115_5, qf115_6, qf115_7⟩ := hQ115
  have N115 := Fr.app N99 N115q
  have f118 := qf58_0.ext E63
  have f119 := f118.ext E67
  have f120 := f119.keep K70
  have f121 := f120.ext E73
  have f122 := f121.keep K92
  have f123 := f122.ext E97
  have f124 := f123.keep K99
  have f125 := f124.keep K115
  have g_b115 : n0 ≤ b115 := Nat.le_trans z116 qf115_4
  have z127 := Nat.le_trans z116 K115.1
  have o128 := o117.keep K115 (allS g_b97 all0)
  obtain ⟨cq126, kq126, q126a, q126b, q126c⟩ := isOf hZ73 rfl qf115_0
  obtain ⟨_, _, ⟨T126, L126, k126, n126⟩, -, X126, ⟨Lc126, hQ126, l126, y126, z126⟩, st126⟩ := X115.virtualBack hx (y := mN7) (z := mN7) hown73 (mvT hZ73 (own_W hw 91 rfl)) (mvT hZ73 (own_W hw 92 rfl)) (notFace_of_selects (args := #[]) (mvT hZ73 (own_W hw 94 rfl))) (mvT hZ73 (own_W hw 94 rfl)) (mvT hZ73 (own_W hw 93 rfl)) (by decide) (backOf (W := 0) (rm11_1 l Z a0 hw [] b97 b29 ((0 : Int32) + (1 : Int32)) b115 b115_1 (.ref b1) .null .null .null .null .null .null .null .null .null T115.heap n0 z127 o128 qf115_0 f125 qf115_1 qf115_2 qf115_6 qf115_7 qf115_3 g_b97 (Ne.symm (Nat.ne_of_lt (Nat.lt_of_lt_of_le qf99_0.lt qf115_4))) g_b115) hZ73 (own_W hw 95 rfl) (own_W hw 9 rfl) (by decide) (by decide)) q126a q126c (g := (mkF m 114 #[vi pi1, vi pi2, vi pi3, vi 3, vi 1, vi 1, vr b1, vr b29, vr b63, vr b97, .unset, .unset, .unset, .unset] [(.ref b29), (.ref b97)])) rfl (by rw [hml]; rfl) (Steps.refl _) (argsL := [(.ref b29)]) (rest := []) (lenOf pd_5 rfl) rfl (by show 2 * 0 + _ ≤ _; exact Nat.le_of_eq rfl) (hb hby at_114) (fun _ _ => ⟨rfl, rfl, (by decide : 14 + 0 ≤ _), (by decide : 55 + 0 ≤ _)⟩)
  dsimp only [Pt.U, Pt.locs, Pt.cells, Pt.slots] at X126 l126 y126 z126 st126 hQ126
  subst l126 y126 z126
  obtain ⟨rfl, N126q, K126, qf126_0, qf126_1, qf126_2, qf126_3, qf126_4, qf126_5⟩ := hQ126
  have N126 := Fr.app N115 N126q
  have f129 := qf92_0.ext E97
  have f130 := f129.keep K99
  have f131 := f130.keep K115
  have f132 := f131.keep K126
  have z134 := Nat.le_trans z127 K126.1
  have o135 := o128.keep K126 (allS g_b97 (allS g_b115 all0))
  obtain ⟨cq133, kq133, q133a, q133b, q133c⟩ := isOf hZ73 rfl qf126_0
  obtain ⟨_, _, ⟨T133, L133, k133, n133⟩, -, X133, ⟨Lc133, hQ133, l133, y133, z133⟩, st133⟩ := X126.virtualBack hx (y := mN7) (z := mN7) hown73 (mvT hZ73 (own_W hw 91 rfl)) (mvT hZ73 (own_W hw 92 rfl)) (notFace_of_selects (args := #[]) (mvT hZ73 (own_W hw 94 rfl))) (mvT hZ73 (own_W hw 94 rfl)) (mvT hZ73 (own_W hw 93 rfl)) (by decide) (backOf (W := 0) (rm11_2 l Z a0 hw [] b97 b63 (((0 : Int32) + (1 : Int32)) + (1 : Int32)) b115 b115_1 (.ref b1) (.ref b29) .null .null .null .null .null .null .null .null T126.heap n0 z134 o135 qf126_0 f132 qf126_1 qf126_2 qf126_4 qf126_5 qf126_3 g_b97 (Ne.symm (Nat.ne_of_lt (Nat.lt_of_lt_of_le qf99_0.lt qf115_4))) g_b115) hZ73 (own_W hw 95 rfl) (own_W hw 9 rfl) (by decide) (by decide)) q133a q133c (g := (mkF m 127 #[vi pi1, vi pi2, vi pi3, vi 3, vi 1, vi 1, vr b1, vr b29, vr b63, vr b97, .unset, .unset, .unset, .unset] [(.ref b63), (.ref b97)])) rfl (by rw [hml]; rfl) (Steps.refl _) (argsL := [(.ref b63)]) (rest := []) (lenOf pd_5 rfl) rfl (by show 2 * 0 + _ ≤ _; exact Nat.le_of_eq rfl) (hb hby at_127) (fun _ _ => ⟨rfl, rfl, (by decide : 14 + 0 ≤ _), (by decide : 55 + 0 ≤ _)⟩)
  dsimp only [Pt.U, Pt.locs, Pt.cells, Pt.slots] at X133 l133 y133 z133 st133 hQ133
  subst l133 y133 z133
  obtain ⟨rfl, N133q, K133, qf133_0, qf133_1, qf133_2, qf133_3, qf133_4, qf133_5⟩ := hQ133
  have N133 := Fr.app N126 N133q
  have f136 := qf115_5.keep K126
  obtain ⟨T137, h137, X137, e137, E137, A137, D137, -, st137⟩ := newO X133 hx hZ73 hown73 (own_W hw 1 rfl) (own_W hw 2 rfl) (own_W hw 3 rfl) rfl (g := (mkF m 131 #[vi pi1, vi pi2, vi pi3, vi 3, vi 1, vi 1, vr b1, vr b29, vr b63, vr b97, .unset, .unset, .unset, .unset] [])) rfl (hb hby at_131) (by decide) (by decide)
  obtain ⟨b137, g137⟩ : ∃ z, z = T133.heap.size := ⟨_, rfl⟩
  rw [← g137] at A137 D137 st137
  have F_operator_b137 : Fld Z h137 b137 "com/example/tyche/tyche/model/jani/Expression$Operation" "operator" "Lcom/example/tyche/tyche/model/jani/Operator;" .null := D137 (Or.inr (own_W hw 80 rfl)) (ty := (.object "com/example/tyche/tyche/model/jani/Operator")) (by decide)
  have F_operands_b137 : Fld Z h137 b137 "com/example/tyche/tyche/model/jani/Expression$Operation" "operands" "Ljava/util/List;" .null := D137 (Or.inr (own_W hw 82 rfl)) (ty := (.object "java/util/List")) (by decide)
  have F_path_b137 : Fld Z h137 b137 "com/example/tyche/tyche/model/jani/Expression$Operation" "path" "Ljava/lang/String;" .null := D137 (Or.inr (own_W hw 84 rfl)) (ty := (.object "java/lang/String")) (by decide)
  have o139 := o135.keep K133 (allS g_b97 (allS g_b115 all0))
  have o140 := o139.ext E137
  obtain ⟨T138, X138, e138, st138⟩ := getS2 X137 hx hZ73 hown73 (host := "") (Or.inl (own_W hw 120 rfl)) Via.refl e137 (S_PLUS.ext o140.2) (g := (mkF m 135 #[vi pi1, vi pi2, vi pi3, vi 3, vi 1, vi 1, vr b1, vr b29, vr b63, vr b97, .unset, .unset, .unset, .unset] [(.ref b137), (.ref b137)])) rfl (hb hby at_135)
  have z142 := Nat.le_trans z134 K133.1
  have z143 := Nat.le_trans z142 E137.1
  obtain ⟨_, _, ⟨T141, L141, k141, n141⟩, -, X141, ⟨Lc141, hQ141, l141, y141, z141⟩, st141⟩ := Jvm.LawKit.callS X138 hx (y := mN31) hown73 (mvT hZ73 (own_W hw 122 rfl)) (mvT hZ73 (own_W hw 123 rfl)) (mvT hZ73 (own_W hw 34 rfl)) (mvT hZ73 (own_W hw 124 rfl)) (by decide) (backOf (W := 4) (rm16 l Z a0 hw [] ((pi3 &&& (255 : Int32)).toUInt32.toUInt16.toUInt32.toInt32) w_COMPACT_STRINGS h137 n0 z143 o140 S_COMPACT_STRINGS hCS (own_c255 _)) hZ73 (own_W hw 124 rfl) (own_W hw 34 rfl) (by decide) (by decide)) (g := (mkF m 146 #[vi pi1, vi pi2, vi pi3, vi 3, vi 1, vi 1, vr b1, vr b29, vr b63, vr b97, .unset, .unset, .unset, .unset] [(.int ((pi3 &&& (255 : Int32)).toUInt32.toUInt16.toUInt32.toInt32)), (.ref b97), (.ref w_PLUS), (.ref b137), (.ref b137)])) rfl (by rw [hml]; rfl) (argsL := [(.int ((pi3 &&& (255 : Int32)).toUInt32.toUInt16.toUInt32.toInt32))]) (rest := [(.ref b97), (.ref w_PLUS), (.ref b137), (.ref b137)]) (lenOf pd_10 rfl) rfl (by show 2 * 0 + _ ≤ _; exact Nat.le_of_eq rfl) (hb hby at_146) (fun _ _ => ⟨rfl, e138, (by decide : 15 + 2 ≤ _), (by decide : 58 + 5 ≤ _)⟩)
  dsimp only [Pt.U, Pt.locs, Pt.cells, Pt.slots] at X141 l141 y141 z141 st141 hQ141
  subst l141 y141 z141
  obtain ⟨b141, b141_1, rfl, N141q, K141, qf141_0, qf141_1⟩ := hQ141
  have N141 := Fr.app N133 N141q
  have f144 := A137.keep K141
  have f145 := qf133_0.ext E137
  have f146 := f145.keep K141
  have f147 := qf133_2.ext E137
  have f148 := f147.keep K141 nin0
  have f149 := qf133_3.ext E137
  have f150 := f149.keep K141 nin0
  have f151 := f136.keep K133
  have f152 := f151.ext E137
  have f153 := f152.keep K141
  have f154 := qf133_4.ext E137
  have f155 := f154.keep K141 nin0
  have f156 := f114.keep K115
  have f157 := f156.keep K126
  have f158 := f157.keep K133
  have f159 := f158.ext E137
  have f160 := f159.keep K141
  have f161 := f125.keep K126
  have f162 := f161.keep K133
  have f163 := f162.ext E137
  have f164 := f163.keep K141
  have f165 := f132.keep K133
  have f166 := f165.ext E137
  have f167 := f166.keep K141
  have f168 := F_operator_b137.keep K141 nin0
  have g_b137 : n0 ≤ b137 := Nat.le_trans z142 (Nat.le_of_eq g137.symm)
  have f169 := F_operands_b137.keep K141 nin0
  have f170 := F_path_b137.keep K141 nin0
  have z172 := Nat.le_trans z143 K141.1
  have o173 := o140.keep K141 all0
  obtain ⟨_, _, ⟨T171, L171, k171, n171⟩, -, X171, ⟨Lc171, hQ171, l171, y171, z171⟩, st171⟩ := X141.specialBack hx (y := mN27) rfl hown73 (mvT hZ73 (own_W hw 41 rfl)) (mvT hZ73 (own_W hw 42 rfl)) (mvT hZ73 (own_W hw 43 rfl)) (by decide) (backOf (W := 1) (rm5_3 l Z a0 hw [] b137 w_PLUS b97 b141 w_mir b115 b115_1 b1 b29 b63 .null .null .null .null .null .null .null .null .null .null T141.heap n0 z172 o173 f144 M_mir f146 f148 f150 f153 f155 f160 f164 f167 f168 g_b137 f169 f170) hZ73 (own_W hw 43 rfl) (own_W hw 3 rfl) (by decide) (by decide)) (g := (mkF m 149 #[vi pi1, vi pi2, vi pi3, vi 3, vi 1, vi 1, vr b1, vr b29, vr b63, vr b97, .unset, .unset, .unset, .unset] [(.ref b141), (.ref b97), (.ref w_PLUS), (.ref b137), (.ref b137)])) rfl (by rw [hml]; rfl) (Steps.refl _) (a := b137) (argsL := [(.ref w_PLUS), (.ref b97), (.ref b141)]) (rest := [(.ref b137)]) (lenOf pd_1 rfl) rfl (by show 2 * 0 + _ ≤ _; exact Nat.le_of_eq rfl) (hb hby at_149) (fun _ _ => ⟨rfl, rfl, (by decide : 17 + 3 ≤ _), (by decide : 63 + 8 ≤ _)⟩)
  dsimp only [Pt.U, Pt.locs, Pt.cells, Pt.slots] at X171 l171 y171 z171 st171 hQ171
  subst l171 y171 z171
  obtain ⟨b171, b171_1, b171_2, rfl, N171q, K171, qf171_0, qf171_1, qf171_2, qf171_3, qf171_4, qf171_5, qf171_6, qf171_7, qf171_8, qf171_9, qf171_10⟩ := hQ171
  have N171 := Fr.app N141 N171q
  have f174 := f146.keep K171
  have f175 := f160.keep K171
  have f176 := qf133_1.ext E137
  have f177 := f176.keep K141 nin0
  have f178 := f177.keep K171 (ninS (Nat.ne_of_lt (Nat.lt_of_lt_of_le qf133_3.lt (Nat.le_of_eq g137.symm))) nin0)
  have f179 := f148.keep K171 (ninS (Nat.ne_of_lt (Nat.lt_of_lt_of_le qf133_3.lt (Nat.le_of_eq g137.symm))) nin0)
  have f180 := f155.keep K171 (ninS (Nat.ne_of_lt (Nat.lt_of_lt_of_le qf133_4.lt (Nat.le_of_eq g137.symm))) nin0)
  have f181 := f150.keep K171 (ninS (Nat.ne_of_lt (Nat.lt_of_lt_of_le qf133_3.lt (Nat.le_of_eq g137.symm))) nin0)
  have z183 := Nat.le_trans z172 K171.1
  have o184 := o173.keep K171 (allS g_b137 all0)
  obtain ⟨cq182, kq182, q182a, q182b, q182c⟩ := isOf hZ73 rfl f174
  obtain ⟨_, _, ⟨T182, L182, k182, n182⟩, -, X182, ⟨Lc182, hQ182, l182, y182, z182⟩, st182⟩ := X171.virtualBack hx (y := mN7) (z := mN7) hown73 (mvT hZ73 (own_W hw 91 rfl)) (mvT hZ73 (own_W hw 92 rfl)) (notFace_of_selects (args := #[]) (mvT hZ73 (own_W hw 94 rfl))) (mvT hZ73 (own_W hw 94 rfl)) (mvT hZ73 (own_W hw 93 rfl)) (by decide) (backOf (W := 0) (rm11_3 l Z a0 hw [] b97 b1 ((((0 : Int32) + (1 : Int32)) + (1 : Int32)) + (1 : Int32)) b115 b115_1 (.ref b1) (.ref b29) (.ref b63) .null .null .null .null .null .null .null T171.heap n0 z183 o184 f174 f175 f178 f179 f180 qf133_5 f181 g_b97 (Ne.symm (Nat.ne_of_lt (Nat.lt_of_lt_of_le qf99_0.lt qf115_4))) g_b115) hZ73 (own_W hw 95 rfl) (own_W hw 9 rfl) (by decide) (by decide)) q182a q182c (g := (mkF m 158 #[vi pi1, vi pi2, vi pi3, vi 3, vi 1, vi 1, vr b1, vr b29, vr b63, vr b97, vr b137, .unset, .unset, .unset] [(.ref b1), (.ref b97)])) rfl (by rw [hml]; rfl) (Steps.refl _) (argsL := [(.ref b1)]) (rest := []) (lenOf pd_5 rfl) rfl (by show 2 * 0 + _ ≤ _; exact Nat.le_of_eq rfl) (hb hby at_158) (fun _ _ => ⟨rfl, rfl, (by decide : 20 + 0 ≤ _), (by decide : 71 + 0 ≤ _)⟩)
  dsimp only [Pt.U, Pt.locs, Pt.cells, Pt.slots] at X182 l182 y182 z182 st182 hQ182
  subst l182 y182 z182
  obtain ⟨rfl, N182q, K182, qf182_0, qf182_1, qf182_2, qf182_3, qf182_4, qf182_5⟩ := hQ182
  have N182 := Fr.app N171 N182q
  have f185 := f153.keep K171
  have f186 := qf171_2.keep K182 (ninS (Ne.symm (Nat.ne_of_lt (Nat.lt_of_lt_of_le qf133_3.lt (Nat.le_of_eq g137.symm)))) (ninS (Ne.symm (Nat.ne_of_lt (Nat.lt_of_lt_of_le qf133_4.lt (Nat.le_of_eq g137.symm)))) nin0))
  have f187 := qf171_5.keep K182
  have f188 := qf171_6.keep K182 (ninS (Ne.symm (Nat.ne_of_lt (Nat.lt_of_lt_of_le f150.lt qf171_4))) (ninS (Ne.symm (Nat.ne_of_lt (Nat.lt_of_lt_of_le f155.lt qf171_4))) nin0))
  have f189 := qf171_9.keep K182 (ninS (Ne.symm (Nat.ne_of_lt (Nat.lt_of_lt_of_le f150.lt qf171_8))) (ninS (Ne.symm (Nat.ne_of_lt (Nat.lt_of_lt_of_le f155.lt qf171_8))) nin0))
  have f190 := f164.keep K171
  have f191 := f190.keep K182
  have z193 := Nat.le_trans z183 K182.1
  have o194 := o184.keep K182 (allS g_b97 (allS g_b115 all0))
  have f195 := qf171_0.keep K182
  obtain ⟨cq192, kq192, q192a, q192b, q192c⟩ := isOf hZ73 rfl f195
  obtain ⟨_, _, ⟨T192, L192, k192, n192⟩, -, X192, ⟨Lc192, hQ192, l192, y192, z192⟩, st192⟩ := X182.virtualBack hx (y := mN36) (z := mN36) hown73 (mvT hZ73 (own_W hw 204 rfl)) (mvT hZ73 (own_W hw 205 rfl)) (notFace_of_selects (args := #[]) (mvT hZ73 (own_W hw 207 rfl))) (mvT hZ73 (own_W hw 207 rfl)) (mvT hZ73 (own_W hw 206 rfl)) (by decide) (backOf (W := 0) (rm29_31 l Z a0 hw [] b137 b171 b171_1 b171_2 b1 b29 b63 T182.heap n0 z193 o194 f186 f187 f188 f189 f191) hZ73 (own_W hw 208 rfl) (own_W hw 3 rfl) (by decide) (by decide)) q192a q192c (g := (mkF m 166 #[vi pi1, vi pi2, vi pi3, vi 3, vi 1, vi 1, vr b1, vr b29, vr b63, vr b97, vr b137, .unset, .unset, .unset] [(.int 1), (.ref b137)])) rfl (by rw [hml]; rfl) (Steps.refl _) (argsL := [(.int 1)]) (rest := []) (lenOf pd_21 rfl) rfl (by show 2 * 0 + _ ≤ _; exact Nat.le_of_eq rfl) (hb hby at_166) (fun _ _ => ⟨rfl, rfl, (by decide : 20 + 0 ≤ _), (by decide : 71 + 0 ≤ _)⟩)
  dsimp only [Pt.U, Pt.locs, Pt.cells, Pt.slots] at X192 l192 y192 z192 st192 hQ192
  subst l192 y192 z192
  obtain ⟨rfl, N192q, eq192⟩ := hQ192
  have N192 := Fr.app N182 N192q
  obtain ⟨_, _, ⟨T196, L196, k196, n196⟩, -, X196, ⟨Lc196, hQ196, l196, y196, z196⟩, st196⟩ := Jvm.LawKit.callS X192 hx (y := mN39) hown73 (mvT hZ73 (own_W hw 220 rfl)) (mvT hZ73 (own_W hw 221 rfl)) (mvT hZ73 (own_W hw 222 rfl)) (mvT hZ73 (own_W hw 223 rfl)) (by decide) (backOf (W := 1) (rm31_1 l Z a0 hw [] b1 b29 b63 T182.heap n0 z193 o194 ) hZ73 (own_W hw 223 rfl) (own_W hw 222 rfl) (by decide) (by decide)) (g := (mkF m 177 #[vi pi1, vi pi2, vi pi3, vi 3, vi 1, vi 1, vr b1, vr b29, vr b63, vr b97, vr b137, .unset, .unset, .unset] [(.ref b63), (.ref b29), (.ref b1), (.int 1), (.ref b29)])) rfl (by rw [hml]; rfl) (argsL := [(.int 1), (.ref b1), (.ref b29), (.ref b63)]) (rest := [(.ref b29)]) (lenOf pd_23 rfl) rfl (by show 2 * 0 + _ ≤ _; exact Nat.le_of_eq rfl) (hb hby at_177) (fun _ _ => ⟨rfl, eq192, (by decide : 20 + 0 ≤ _), (by decide : 71 + 0 ≤ _)⟩)
  dsimp only [Pt.U, Pt.locs, Pt.cells, Pt.slots] at X196 l196 y196 z196 st196 hQ196
  subst l196 y196 z196
  obtain ⟨rfl, N196q, eq196⟩ := hQ196
  have N196 := Fr.app N192 N196q
  obtain ⟨cq197, kq197, q197a, q197b, q197c⟩ := isOf hZ73 eq196 f195
  obtain ⟨_, _, ⟨T197, L197, k197, n197⟩, -, X197, ⟨Lc197, hQ197, l197, y197, z197⟩, st197⟩ := X196.virtualBack hx (y := mN36) (z := mN36) hown73 (mvT hZ73 (own_W hw 204 rfl)) (mvT hZ73 (own_W hw 205 rfl)) (notFace_of_selects (args := #[]) (mvT hZ73 (own_W hw 207 rfl))) (mvT hZ73 (own_W hw 207 rfl)) (mvT hZ73 (own_W hw 206 rfl)) (by decide) (backOf (W := 0) (rm29_31 l Z a0 hw [] b137 b171 b171_1 b171_2 b1 b29 b63 T182.heap n0 z193 o194 f186 f187 f188 f189 f191) hZ73 (own_W hw 208 rfl) (own_W hw 3 rfl) (by decide) (by decide)) q197a q197c (g := (mkF m 194 #[vi pi1, vi pi2, vi pi3, vi 3, vi 1, vi 1, vr b1, vr b29, vr b63, vr b97, vr b137, vi 1, .unset, .unset] [(.int 1), (.ref b137)])) rfl (by rw [hml]; rfl) (Steps.refl _) (argsL := [(.int 1)]) (rest := []) (lenOf pd_21 rfl) rfl (by show 2 * 0 + _ ≤ _; exact Nat.le_of_eq rfl) (hb hby at_194) (fun _ _ => ⟨rfl, eq196, (by decide : 20 + 0 ≤ _), (by decide : 71 + 0 ≤ _)⟩)
  dsimp only [Pt.U, Pt.locs, Pt.cells, Pt.slots] at X197 l197 y197 z197 st197 hQ197
  subst l197 y197 z197
  obtain ⟨rfl, N197q, eq197⟩ := hQ197
  have N197 := Fr.app N196 N197q
  obtain ⟨_, _, ⟨T198, L198, k198, n198⟩, -, X198, ⟨Lc198, hQ198, l198, y198, z198⟩, st198⟩ := Jvm.LawKit.callS X197 hx (y := mN39) hown73 (mvT hZ73 (own_W hw 220 rfl)) (mvT hZ73 (own_W hw 221 rfl)) (mvT hZ73 (own_W hw 222 rfl)) (mvT hZ73 (own_W hw 223 rfl)) (by decide) (backOf (W := 1) (rm31_1 l Z a0 hw [] b1 b29 b63 T182.heap n0 z193 o194 ) hZ73 (own_W hw 223 rfl) (own_W hw 222 rfl) (by decide) (by decide)) (g := (mkF m 205 #[vi pi1, vi pi2, vi pi3, vi 3, vi 1, vi 1, vr b1, vr b29, vr b63, vr b97, vr b137, vi 1, .unset, .unset] [(.ref b63), (.ref b29), (.ref b1), (.int 1), (.ref b29)])) rfl (by rw [hml]; rfl) (argsL := [(.int 1), (.ref b1), (.ref b29), (.ref b63)]) (rest := [(.ref b29)]) (lenOf pd_23 rfl) rfl (by show 2 * 0 + _ ≤ _; exact Nat.le_of_eq rfl) (hb hby at_205) (fun _ _ => ⟨rfl, eq197, (by decide : 20 + 0 ≤ _), (by decide : 71 + 0 ≤ _)⟩)
  dsimp only [Pt.U, Pt.locs, Pt.cells, Pt.slots] at X198 l198 y198 z198 st198 hQ198
  subst l198 y198 z198
  obtain ⟨rfl, N198q, eq198⟩ := hQ198
  have N198 := Fr.app N197 N198q
  obtain ⟨cq199, kq199, q199a, q199b, q199c⟩ := isOf hZ73 eq198 f195
  obtain ⟨_, _, ⟨T199, L199, k199, n199⟩, -, X199, ⟨Lc199, hQ199, l199, y199, z199⟩, st199⟩ := X198.virtualBack hx (y := mN38) (z := mN38) hown73 (mvT hZ73 (own_W hw 224 rfl)) (mvT hZ73 (own_W hw 225 rfl)) (notFace_of_selects (args := #[]) (mvT hZ73 (own_W hw 227 rfl))) (mvT hZ73 (own_W hw 227 rfl)) (mvT hZ73 (own_W hw 226 rfl)) (by decide) (backOf (W := 0) (rm32 l Z a0 hw [] b137 b171 T182.heap n0 z193 o194 f186) hZ73 (own_W hw 228 rfl) (own_W hw 3 rfl) (by decide) (by decide)) q199a q199c (g := (mkF m 220 #[vi pi1, vi pi2, vi pi3, vi 3, vi 1, vi 1, vr b1, vr b29, vr b63, vr b97, vr b137, vi 1, vi 1, .unset] [(.ref b137)])) rfl (by rw [hml]; rfl) (Steps.refl _) (argsL := []) (rest := []) (lenOf pd_4 rfl) rfl (by show 2 * 0 + _ ≤ _; exact Nat.le_of_eq rfl) (hb hby at_220) (fun _ _ => ⟨rfl, eq198, (by decide : 20 + 0 ≤ _), (by decide : 71 + 0 ≤ _)⟩)
  dsimp only [Pt.U, Pt.locs, Pt.cells, Pt.slots] at X199 l199 y199 z199 st199 hQ199
  subst l199 y199 z199
  obtain ⟨rfl, N199q, eq199⟩ := hQ199
  have N199 := Fr.app N198 N199q
  obtain ⟨cq200, kq200, q200a, q200b, q200c⟩ := isOf hZ73 eq199 f187
  obtain ⟨_, _, ⟨T200, L200, k200, n200⟩, -, X200, ⟨Lc200, hQ200, l200, y200, z200⟩, st200⟩ := X199.interfaceBack hx (xi := mN40) (y := mN34) hown73 (mvT hZ73 (own_W hw 229 rfl)) (mvT hZ73 (own_W hw 230 rfl)) (mvT hZ73 (own_W hw 231 rfl)) (mvT hZ73 (own_W hw 265 rfl)) (mvT hZ73 (own_W hw 266 rfl)) (mvT hZ73 (own_W hw 267 rfl)) (mvT hZ73 (own_W hw 268 rfl)) (mvT hZ73 (own_W hw 263 rfl)) (by decide) (backOf (W := 0) (rm38 l Z a0 hw [] b171 b171_1 b171_2 b1 b29 b63 T182.heap n0 z193 o194 f188 f189) hZ73 (own_W hw 269 rfl) (own_W hw 246 rfl) (by decide) (by decide)) q200a q200b q200c (g := (mkF m 223 #[vi pi1, vi pi2, vi pi3, vi 3, vi 1, vi 1, vr b1, vr b29, vr b63, vr b97, vr b137, vi 1, vi 1, .unset] [(.ref b171)])) rfl (by rw [hml]; rfl) (Steps.refl _) (argsL := []) (rest := []) (lenOf pd_24 rfl) rfl (by show 2 * 0 + _ ≤ _; exact Nat.le_of_eq rfl) (hb hby at_223) (fun _ _ => ⟨rfl, eq199, (by decide : 20 + 0 ≤ _), (by decide : 71 + 0 ≤ _)⟩)
  dsimp only [Pt.U, Pt.locs, Pt.cells, Pt.slots] at X200 l200 y200 z200 st200 hQ200
  subst l200 y200 z200
  obtain ⟨rfl, N200q, eq200⟩ := hQ200
  have N200 := Fr.app N199 N200q
  have y201 := Nat.le_trans hk73 K92.1
  have y202 := Nat.le_trans y201 E97.1
  have y203 := Nat.le_trans y202 K99.1
  have y204 := Nat.le_trans y203 K115.1
  have y205 := Nat.le_trans y204 K126.1
  have y206 := Nat.le_trans y205 K133.1
  have y207 := Nat.le_trans y206 E137.1
  have y208 := Nat.le_trans y207 K141.1
  have y209 := Nat.le_trans y208 K171.1
  have y210 := Nat.le_trans y209 K182.1
  obtain ⟨fs, hr, hrun, hended, hE1, hE2, hE3, hsame⟩ := X200.leaveW hS73 (by rw [eq200]; exact y210) (v := some (.int 1)) (fun h => by rw [Bd.returns] at h; cases h) (BodyLoose.notSynchronized Bd)
  refine ⟨_, _, pre0 _ ?_, hrun, hended, _, _, rfl, ?_, ⟨_, rfl⟩, hE2, hE3, hsame.mono (by decide) (by decide)⟩
  · show Stp p e below s₁ m 0 #[vi pi1, vi pi2, vi pi3, .unset, .unset, .unset, .unset, .unset, .unset, .unset, .unset, .unset, .unset, .unset] [] _
    refine XS.iconst X0.here hx rfl (hb hby at_0) ?_
    refine XS.iloadN X0.here hx rfl (hb hby at_1) rfl ?_
    refine X0.ldcInt hx hown (mvT hZ (own_W hw 0 rfl)) (g := (mkF m 2 #[vi pi1, vi pi2, vi pi3, .unset, .unset, .unset, .unset, .unset, .unset, .unset, .unset, .unset, .unset, .unset] [(.int pi1), (.int 1)])) rfl (hb hby at_2) _ ?_
    show Stp p e below s₁ m 4 #[vi pi1, vi pi2, vi pi3, .unset, .unset, .unset, .unset, .unset, .unset, .unset, .unset, .unset, .unset, .unset] [(.int 2147483647), (.int pi1), (.int 1)] _
    refine XS.iand X0.here hx rfl (hb hby at_4) rfl ?_
    refine XS.iconst X0.here hx rfl (hb hby at_5) ?_
    refine iremM X0 hx rfl (hb hby at_6) rfl (by decide) ?_
    show Stp p e below s₁ m 7 #[vi pi1, vi pi2, vi pi3, .unset, .unset, .unset, .unset, .unset, .unset, .unset, .unset, .unset, .unset, .unset] [(.int ((pi1 &&& (2147483647 : Int32)) % (3 : Int32))), (.int 1)] _
    refine XS.iadd X0.here hx rfl (hb hby at_7) rfl ?_
    refine XS.istoreN X0.here hx rfl (hb hby at_8) rfl (l' := #[vi pi1, vi pi2, vi pi3, .val (.int ((1 : Int32) + ((pi1 &&& (2147483647 : Int32)) % (3 : Int32)))), .unset, .unset, .unset, .unset, .unset, .unset, .unset, .unset, .unset, .unset]) rfl ?_
    show Stp p e below s₁ m 9 #[vi pi1, vi pi2, vi pi3, .val (.int ((1 : Int32) + ((pi1 &&& (2147483647 : Int32)) % (3 : Int32)))), .unset, .unset, .unset, .unset, .unset, .unset, .unset, .unset, .unset, .unset] [] _
    rw [show ((1 : Int32) + ((pi1 &&& (2147483647 : Int32)) % (3 : Int32))) = (3 : Int32) from own_n3 hc8_0 hc8_1]
    show Stp p e below s₁ m 9 #[vi pi1, vi pi2, vi pi3, vi 3, .unset, .unset, .unset, .unset, .unset, .unset, .unset, .unset, .unset, .unset] [] _
    refine XS.iloadN X0.here hx rfl (hb hby at_9) rfl ?_
    refine X0.ldcInt hx hown (mvT hZ (own_W hw 0 rfl)) (g := (mkF m 10 #[vi pi1, vi pi2, vi pi3, vi 3, .unset, .unset, .unset, .unset, .unset, .unset, .unset, .unset, .unset, .unset] [(.int pi2)])) rfl (hb hby at_10) _ ?_
    show Stp p e below s₁ m 12 #[vi pi1, vi pi2, vi pi3, vi 3, .unset, .unset, .unset, .unset, .unset, .unset, .unset, .unset, .unset, .unset] [(.int 2147483647), (.int pi2)] _
    refine XS.iand X0.here hx rfl (hb hby at_12) rfl ?_
    refine XS.iloadN X0.here hx rfl (hb hby at_13) rfl ?_
    refine iremM X0 hx rfl (hb hby at_14) rfl (by decide) ?_
    show Stp p e below s₁ m 15 #[vi pi1, vi pi2, vi pi3, vi 3, .unset, .unset, .unset, .unset, .unset, .unset, .unset, .unset, .unset, .unset] [(.int ((pi2 &&& (2147483647 : Int32)) % (3 : Int32)))] _
    refine XS.istore X0.here hx rfl (hb hby at_15) rfl (l' := #[vi pi1, vi pi2, vi pi3, vi 3, .val (.int ((pi2 &&& (2147483647 : Int32)) % (3 : Int32))), .unset, .unset, .unset, .unset, .unset, .unset, .unset, .unset, .unset]) rfl ?_
    show Stp p e below s₁ m 17 #[vi pi1, vi pi2, vi pi3, vi 3, .val (.int ((pi2 &&& (2147483647 : Int32)) % (3 : Int32))), .unset, .unset, .unset, .unset, .unset, .unset, .unset, .unset, .unset] [] _
    rw [show ((pi2 &&& (2147483647 : Int32)) % (3 : Int32)) = (1 : Int32) from hc15_3]
    show Stp p e below s₁ m 17 #[vi pi1, vi pi2, vi pi3, vi 3, vi 1, .unset, .unset, .unset, .unset, .unset, .unset, .unset, .unset, .unset] [] _
    refine XS.iloadN X0.here hx rfl (hb hby at_17) rfl ?_
    refine XS.iconst X0.here hx rfl (hb hby at_18) ?_
    refine XS.isub X0.here hx rfl (hb hby at_19) rfl ?_
    refine XS.iload X0.here hx rfl (hb hby at_20) rfl ?_
    refine XS.isub X0.here hx rfl (hb hby at_22) rfl ?_
    refine XS.istore X0.here hx rfl (hb hby at_23) rfl (l' := #[vi pi1, vi pi2, vi pi3, vi 3, vi 1, vi 1, .unset, .unset, .unset, .unset, .unset, .unset, .unset, .unset]) rfl ?_
    refine st1 _ ?_
    show Stp p e below T1 m 28 #[vi pi1, vi pi2, vi pi3, vi 3, vi 1, vi 1, .unset, .unset, .unset, .unset, .unset, .unset, .unset, .unset] [(.ref b1)] _
    refine XS.dup X1.here hx rfl (hb hby at_28) rfl rfl ?_
    refine st2 _ ?_
    show Stp p e below T2 m 32 #[vi pi1, vi pi2, vi pi3, vi 3, vi 1, vi 1, .unset, .unset, .unset, .unset, .unset, .unset, .unset, .unset] [(.ref w_NOT), (.ref b1), (.ref b1)] _
    refine st4 _ ?_
    show Stp p e below T4 m 35 #[vi pi1, vi pi2, vi pi3, vi 3, vi 1, vi 1, .unset, .unset, .unset, .unset, .unset, .unset, .unset, .unset] [(.ref b4), (.ref w_NOT), (.ref b1), (.ref b1)] _
    refine XS.dup X4.here hx rfl (hb hby at_35) rfl rfl ?_
    refine st6.trans ?_
    show Stp p e below T6 m 39 #[vi pi1, vi pi2, vi pi3, vi 3, vi 1, vi 1, .unset, .unset, .unset, .unset, .unset, .unset, .unset, .unset] [(.ref b4), (.ref w_NOT), (.ref b1), (.ref b1)] _
    refine st9 _ ?_
    show Stp p e below T9 m 41 #[vi pi1, vi pi2, vi pi3, vi 3, vi 1, vi 1, .unset, .unset, .unset, .unset, .unset, .unset, .unset, .unset] [(.ref sa9), (.ref b4), (.ref w_NOT), (.ref b1), (.ref b1)] _
    refine st24.trans ?_
    show Stp p e below T24 m 44 #[vi pi1, vi pi2, vi pi3, vi 3, vi 1, vi 1, .unset, .unset, .unset, .unset, .unset, .unset, .unset, .unset] [(.ref b1)] _
    refine XS.astore X24.here hx rfl (hb hby at_44) rfl rfl (l' := #[vi pi1, vi pi2, vi pi3, vi 3, vi 1, vi 1, vr b1, .unset, .unset, .unset, .unset, .unset, .unset, .unset]) rfl ?_
    refine st29 _ ?_
    show Stp p e below T29 m 49 #[vi pi1, vi pi2, vi pi3, vi 3, vi 1, vi 1, vr b1, .unset, .unset, .unset, .unset, .unset, .unset, .unset] [(.ref b29)] _
    refine XS.dup X29.here hx rfl (hb hby at_49) rfl rfl ?_
    refine st30 _ ?_
    show Stp p e below T30 m 53 #[vi pi1, vi pi2, vi pi3, vi 3, vi 1, vi 1, vr b1, .unset, .unset, .unset, .unset, .unset, .unset, .unset] [(.ref w_AND), (.ref b29), (.ref b29)] _
    refine st33 _ ?_
    show Stp p e below T33 m 56 #[vi pi1, vi pi2, vi pi3, vi 3, vi 1, vi 1, vr b1, .unset, .unset, .unset, .unset, .unset, .unset, .unset] [(.ref b33), (.ref w_AND), (.ref b29), (.ref b29)] _
    refine XS.dup X33.here hx rfl (hb hby at_56) rfl rfl ?_
    refine st36.trans ?_
    show Stp p e below T36 m 60 #[vi pi1, vi pi2, vi pi3, vi 3, vi 1, vi 1, vr b1, .unset, .unset, .unset, .unset, .unset, .unset, .unset] [(.ref b33), (.ref w_AND), (.ref b29), (.ref b29)] _
    refine st39 _ ?_
    show Stp p e below T39 m 62 #[vi pi1, vi pi2, vi pi3, vi 3, vi 1, vi 1, vr b1, .unset, .unset, .unset, .unset, .unset, .unset, .unset] [(.ref sa39), (.ref b33), (.ref w_AND), (.ref b29), (.ref b29)] _
    refine st58.trans ?_
    show Stp p e below T58 m 65 #[vi pi1, vi pi2, vi pi3, vi 3, vi 1, vi 1, vr b1, .unset, .unset, .unset, .unset, .unset, .unset, .unset] [(.ref b29)] _
    refine XS.astore X58.here hx rfl (hb hby at_65) rfl rfl (l' := #[vi pi1, vi pi2, vi pi3, vi 3, vi 1, vi 1, vr b1, vr b29, .unset, .unset, .unset, .unset, .unset, .unset]) rfl ?_
    refine st63 _ ?_
    show Stp p e below T63 m 70 #[vi pi1, vi pi2, vi pi3, vi 3, vi 1, vi 1, vr b1, vr b29, .unset, .unset, .unset, .unset, .unset, .unset] [(.ref b63)] _
    refine XS.dup X63.here hx rfl (hb hby at_70) rfl rfl ?_
    refine st64 _ ?_
    show Stp p e below T64 m 74 #[vi pi1, vi pi2, vi pi3, vi 3, vi 1, vi 1, vr b1, vr b29, .unset, .unset, .unset, .unset, .unset, .unset] [(.ref w_DERIVATIVE), (.ref b63), (.ref b63)] _
    refine st67 _ ?_
    show Stp p e below T67 m 77 #[vi pi1, vi pi2, vi pi3, vi 3, vi 1, vi 1, vr b1, vr b29, .unset, .unset, .unset, .unset, .unset, .unset] [(.ref b67), (.ref w_DERIVATIVE), (.ref b63), (.ref b63)] _
    refine XS.dup X67.here hx rfl (hb hby at_77) rfl rfl ?_
    refine st70.trans ?_
    show Stp p e below T70 m 81 #[vi pi1, vi pi2, vi pi3, vi 3, vi 1, vi 1, vr b1, vr b29, .unset, .unset, .unset, .unset, .unset, .unset] [(.ref b67), (.ref w_DERIVATIVE), (.ref b63), (.ref b63)] _
    refine st73 _ ?_
    show Stp p e below T73 m 83 #[vi pi1, vi pi2, vi pi3, vi 3, vi 1, vi 1, vr b1, vr b29, .unset, .unset, .unset, .unset, .unset, .unset] [(.ref sa73), (.ref b67), (.ref w_DERIVATIVE), (.ref b63), (.ref b63)] _
    refine st92.trans ?_
    show Stp p e below T92 m 86 #[vi pi1, vi pi2, vi pi3, vi 3, vi 1, vi 1, vr b1, vr b29, .unset, .unset, .unset, .unset, .unset, .unset] [(.ref b63)] _
    refine XS.astore X92.here hx rfl (hb hby at_86) rfl rfl (l' := #[vi pi1, vi pi2, vi pi3, vi 3, vi 1, vi 1, vr b1, vr b29, vr b63, .unset, .unset, .unset, .unset, .unset]) rfl ?_
    refine st97 _ ?_
    show Stp p e below T97 m 91 #[vi pi1, vi pi2, vi pi3, vi 3, vi 1, vi 1, vr b1, vr b29, vr b63, .unset, .unset, .unset, .unset, .unset] [(.ref b97)] _
    refine XS.dup X97.here hx rfl (hb hby at_91) rfl rfl ?_
    refine st99.trans ?_
    show Stp p e below T99 m 95 #[vi pi1, vi pi2, vi pi3, vi 3, vi 1, vi 1, vr b1, vr b29, vr b63, .unset, .unset, .unset, .unset, .unset] [(.ref b97)] _
    refine XS.astore X99.here hx rfl (hb hby at_95) rfl rfl (l' := #[vi pi1, vi pi2, vi pi3, vi 3, vi 1, vi 1, vr b1, vr b29, vr b63, vr b97, .unset, .unset, .unset, .unset]) rfl ?_
    refine XS.aload X99.here hx rfl (hb hby at_97) rfl rfl ?_
    refine XS.aload X99.here hx rfl (hb hby at_99) rfl rfl ?_
    refine st115.trans ?_
    show Stp p e below T115 m 104 #[vi pi1, vi pi2, vi pi3, vi 3, vi 1, vi 1, vr b1, vr b29, vr b63, vr b97, .unset, .unset, .unset, .unset] [(.int 1)] _
    refine XS.pop X115.here hx rfl (hb hby at_104) rfl rfl ?_
    refine XS.iloadN X115.here hx rfl (hb hby at_105) rfl ?_
    refine XS.iconst X115.here hx rfl (hb hby at_106) ?_
    refine XS.icmpNo X115.here hx rfl (hb hby at_107) rfl (flt (by decide : ¬ ((3 : Int32) < (2 : Int32)))).1 ?_
    show Stp p e below T115 m 110 #[vi pi1, vi pi2, vi pi3, vi 3, vi 1, vi 1, vr b1, vr b29, vr b63, vr b97, .unset, .unset, .unset, .unset] [] _
    refine XS.aload X115.here hx rfl (hb hby at_110) rfl rfl ?_
    refine XS.aload X115.here hx rfl (hb hby at_112) rfl rfl ?_
    refine st126.trans ?_
    show Stp p e below T126 m 117 #[vi pi1, vi pi2, vi pi3, vi 3, vi 1, vi 1, vr b1, vr b29, vr b63, vr b97, .unset, .unset, .unset, .unset] [(.int 1)] _
    refine XS.pop X126.here hx rfl (hb hby at_117) rfl rfl ?_
    refine XS.iloadN X126.here hx rfl (hb hby at_118) rfl ?_
    refine XS.iconst X126.here hx rfl (hb hby at_119) ?_
    refine XS.icmpNo X126.here hx rfl (hb hby at_120) rfl (flt (by simp : ¬ ((3 : Int32) < (3 : Int32)))).1 ?_
    show Stp p e below T126 m 123 #[vi pi1, vi pi2, vi pi3, vi 3, vi 1, vi 1, vr b1, vr b29, vr b63, vr b97, .unset, .unset, .unset, .unset] [] _
    refine XS.aload X126.here hx rfl (hb hby at_123) rfl rfl ?_
    refine XS.aload X126.here hx rfl (hb hby at_125) rfl rfl ?_
    refine st133.trans ?_
    show Stp p e below T133 m 130 #[vi pi1, vi pi2, vi pi3, vi 3, vi 1, vi 1, vr b1, vr b29, vr b63, vr b97, .unset, .unset, .unset, .unset] [(.int 1)] _
    refine XS.pop X133.here hx rfl (hb hby at_130) rfl rfl ?_
    refine st137 _ ?_
    show Stp p e below T137 m 134 #[vi pi1, vi pi2, vi pi3, vi 3, vi 1, vi 1, vr b1, vr b29, vr b63, vr b97, .unset, .unset, .unset, .unset] [(.ref b137)] _
    refine XS.dup X137.here hx rfl (hb hby at_134) rfl rfl ?_
    refine st138 _ ?_
    show Stp p e below T138 m 138 #[vi pi1, vi pi2, vi pi3, vi 3, vi 1, vi 1, vr b1, vr b29, vr b63, vr b97, .unset, .unset, .unset, .unset] [(.ref w_PLUS), (.ref b137), (.ref b137)] _
    refine XS.aload X138.here hx rfl (hb hby at_138) rfl rfl ?_
    refine XS.iloadN X138.here hx rfl (hb hby at_140) rfl ?_
    refine XS.sipush X138.here hx rfl (hb hby at_141) ?_
    refine XS.iand X138.here hx rfl (hb hby at_144) rfl ?_
    refine XS.i2c X138.here hx rfl (hb hby at_145) rfl ?_
    refine st141 _ ?_
    show Stp p e below T141 m 149 #[vi pi1, vi pi2, vi pi3, vi 3, vi 1, vi 1, vr b1, vr b29, vr b63, vr b97, .unset, .unset, .unset, .unset] [(.ref b141), (.ref b97), (.ref w_PLUS), (.ref b137), (.ref b137)] _
    refine st171.trans ?_
    show Stp p e below T171 m 152 #[vi pi1, vi pi2, vi pi3, vi 3, vi 1, vi 1, vr b1, vr b29, vr b63, vr b97, .unset, .unset, .unset, .unset] [(.ref b137)] _
    refine XS.astore X171.here hx rfl (hb hby at_152) rfl rfl (l' := #[vi pi1, vi pi2, vi pi3, vi 3, vi 1, vi 1, vr b1, vr b29, vr b63, vr b97, vr b137, .unset, .unset, .unset]) rfl ?_
    refine XS.aload X171.here hx rfl (hb hby at_154) rfl rfl ?_
    refine XS.aload X171.here hx rfl (hb hby at_156) rfl rfl ?_
    refine st182.trans ?_
    show Stp p e below T182 m 161 #[vi pi1, vi pi2, vi pi3, vi 3, vi 1, vi 1, vr b1, vr b29, vr b63, vr b97, vr b137, .unset, .unset, .unset] [(.int 1)] _
    refine XS.pop X182.here hx rfl (hb hby at_161) rfl rfl ?_
    refine XS.aload X182.here hx rfl (hb hby at_162) rfl rfl ?_
    refine XS.iload X182.here hx rfl (hb hby at_164) rfl ?_
    refine st192.trans ?_
    show Stp p e below T192 m 169 #[vi pi1, vi pi2, vi pi3, vi 3, vi 1, vi 1, vr b1, vr b29, vr b63, vr b97, vr b137, .unset, .unset, .unset] [(.ref b29)] _
    refine XS.iload X192.here hx rfl (hb hby at_169) rfl ?_
    refine XS.aload X192.here hx rfl (hb hby at_171) rfl rfl ?_
    refine XS.aload X192.here hx rfl (hb hby at_173) rfl rfl ?_
    refine XS.aload X192.here hx rfl (hb hby at_175) rfl rfl ?_
    refine st196 _ ?_
    show Stp p e below T196 m 180 #[vi pi1, vi pi2, vi pi3, vi 3, vi 1, vi 1, vr b1, vr b29, vr b63, vr b97, vr b137, .unset, .unset, .unset] [(.ref b29), (.ref b29)] _
    refine Jvm.RoadKit.acmp (g := (mkF m 180 #[vi pi1, vi pi2, vi pi3, vi 3, vi 1, vi 1, vr b1, vr b29, vr b63, vr b97, vr b137, .unset, .unset, .unset] [(.ref b29), (.ref b29)])) X196 hx rfl rfl rfl (pc0 := 180) (pc' := 183) (same := true) rfl (hb hby at_180) rfl (decide_eq_true rfl) (by decide) (by decide) ?_
    show Stp p e below T196 m 183 #[vi pi1, vi pi2, vi pi3, vi 3, vi 1, vi 1, vr b1, vr b29, vr b63, vr b97, vr b137, .unset, .unset, .unset] [] _
    refine XS.iconst X196.here hx rfl (hb hby at_183) ?_
    refine XS.goto X196.here hx rfl (pc0 := 184) (pc' := 188) rfl (hb hby at_184) (by decide) (by decide) ?_
    show Stp p e below T196 m 188 #[vi pi1, vi pi2, vi pi3, vi 3, vi 1, vi 1, vr b1, vr b29, vr b63, vr b97, vr b137, .unset, .unset, .unset] [(.int 1)] _
    refine XS.istore X196.here hx rfl (hb hby at_188) rfl (l' := #[vi pi1, vi pi2, vi pi3, vi 3, vi 1, vi 1, vr b1, vr b29, vr b63, vr b97, vr b137, vi 1, .unset, .unset]) rfl ?_
    refine XS.aload X196.here hx rfl (hb hby at_190) rfl rfl ?_
    refine XS.iload X196.here hx rfl (hb hby at_192) rfl ?_
    refine st197.trans ?_
    show Stp p e below T197 m 197 #[vi pi1, vi pi2, vi pi3, vi 3, vi 1, vi 1, vr b1, vr b29, vr b63, vr b97, vr b137, vi 1, .unset, .unset] [(.ref b29)] _
    refine XS.iload X197.here hx rfl (hb hby at_197) rfl ?_
    refine XS.aload X197.here hx rfl (hb hby at_199) rfl rfl ?_
    refine XS.aload X197.here hx rfl (hb hby at_201) rfl rfl ?_
    refine XS.aload X197.here hx rfl (hb hby at_203) rfl rfl ?_
    refine st198 _ ?_
    show Stp p e below T198 m 208 #[vi pi1, vi pi2, vi pi3, vi 3, vi 1, vi 1, vr b1, vr b29, vr b63, vr b97, vr b137, vi 1, .unset, .unset] [(.ref b29), (.ref b29)] _
    refine Jvm.RoadKit.acmp (g := (mkF m 208 #[vi pi1, vi pi2, vi pi3, vi 3, vi 1, vi 1, vr b1, vr b29, vr b63, vr b97, vr b137, vi 1, .unset, .unset] [(.ref b29), (.ref b29)])) X198 hx rfl rfl rfl (pc0 := 208) (pc' := 211) (same := true) rfl (hb hby at_208) rfl (decide_eq_true rfl) (by decide) (by decide) ?_
    show Stp p e below T198 m 211 #[vi pi1, vi pi2, vi pi3, vi 3, vi 1, vi 1, vr b1, vr b29, vr b63, vr b97, vr b137, vi 1, .unset, .unset] [] _
    refine XS.iconst X198.here hx rfl (hb hby at_211) ?_
    refine XS.goto X198.here hx rfl (pc0 := 212) (pc' := 216) rfl (hb hby at_212) (by decide) (by decide) ?_
    show Stp p e below T198 m 216 #[vi pi1, vi pi2, vi pi3, vi 3, vi 1, vi 1, vr b1, vr b29, vr b63, vr b97, vr b137, vi 1, .unset, .unset] [(.int 1)] _
    refine XS.istore X198.here hx rfl (hb hby at_216) rfl (l' := #[vi pi1, vi pi2, vi pi3, vi 3, vi 1, vi 1, vr b1, vr b29, vr b63, vr b97, vr b137, vi 1, vi 1, .unset]) rfl ?_
    refine XS.aload X198.here hx rfl (hb hby at_218) rfl rfl ?_
    refine st199.trans ?_
    show Stp p e below T199 m 223 #[vi pi1, vi pi2, vi pi3, vi 3, vi 1, vi 1, vr b1, vr b29, vr b63, vr b97, vr b137, vi 1, vi 1, .unset] [(.ref b171)] _
    refine st200.trans ?_
    show Stp p e below T200 m 228 #[vi pi1, vi pi2, vi pi3, vi 3, vi 1, vi 1, vr b1, vr b29, vr b63, vr b97, vr b137, vi 1, vi 1, .unset] [(.int 3)] _
    refine XS.iloadN X200.here hx rfl (hb hby at_228) rfl ?_
    refine XS.icmpNo X200.here hx rfl (hb hby at_229) rfl (teq (rfl : (3 : Int32) = (3 : Int32))).2 ?_
    show Stp p e below T200 m 232 #[vi pi1, vi pi2, vi pi3, vi 3, vi 1, vi 1, vr b1, vr b29, vr b63, vr b97, vr b137, vi 1, vi 1, .unset] [] _
    refine XS.iconst X200.here hx rfl (hb hby at_232) ?_
    refine XS.goto X200.here hx rfl (pc0 := 233) (pc' := 237) rfl (hb hby at_233) (by decide) (by decide) ?_
    show Stp p e below T200 m 237 #[vi pi1, vi pi2, vi pi3, vi 3, vi 1, vi 1, vr b1, vr b29, vr b63, vr b97, vr b137, vi 1, vi 1, .unset] [(.int 1)] _
    refine XS.istore X200.here hx rfl (hb hby at_237) rfl (l' := #[vi pi1, vi pi2, vi pi3, vi 3, vi 1, vi 1, vr b1, vr b29, vr b63, vr b97, vr b137, vi 1, vi 1, vi 1]) rfl ?_
    refine XS.iload X200.here hx rfl (hb hby at_239) rfl ?_
    refine XS.ifNo X200.here hx rfl (hb hby at_241) rfl ((if0 _ _).trans (feq (by decide : ¬ ((1 : Int32) = (0 : Int32)))).1) ?_
    show Stp p e below T200 m 244 #[vi pi1, vi pi2, vi pi3, vi 3, vi 1, vi 1, vr b1, vr b29, vr b63, vr b97, vr b137, vi 1, vi 1, vi 1] [] _
    refine XS.iload X200.here hx rfl (hb hby at_244) rfl ?_
    refine XS.ifNo X200.here hx rfl (hb hby at_246) rfl ((if0 _ _).trans (feq (by decide : ¬ ((1 : Int32) = (0 : Int32)))).1) ?_
    show Stp p e below T200 m 249 #[vi pi1, vi pi2, vi pi3, vi 3, vi 1, vi 1, vr b1, vr b29, vr b63, vr b97, vr b137, vi 1, vi 1, vi 1] [] _
    refine XS.iload X200.here hx rfl (hb hby at_249) rfl ?_
    refine XS.ifNo X200.here hx rfl (hb hby at_251) rfl ((if0 _ _).trans (feq (by decide : ¬ ((1 : Int32) = (0 : Int32)))).1) ?_
    show Stp p e below T200 m 254 #[vi pi1, vi pi2, vi pi3, vi 3, vi 1, vi 1, vr b1, vr b29, vr b63, vr b97, vr b137, vi 1, vi 1, vi 1] [] _
    refine XS.iconst X200.here hx rfl (hb hby at_254) ?_
    refine XS.goto X200.here hx rfl (pc0 := 255) (pc' := 259) rfl (hb hby at_255) (by decide) (by decide) ?_
    show Stp p e below T200 m 259 #[vi pi1, vi pi2, vi pi3, vi 3, vi 1, vi 1, vr b1, vr b29, vr b63, vr b97, vr b137, vi 1, vi 1, vi 1] [(.int 1)] _
    exact retN X200 hx (t := .boolean) Bd.returns (by simp) (hb hby at_259) hr
  · exact ⟨rfl, N200⟩
set_option maxRecDepth 65536 in
set_option maxHeartbeats 40000000 in
theorem rm0_ffff (l : Launch) (Z : State) (a0 : Array Value) (hw : ∀ d ∈ tables_1, d.before a0 Z = true) (ws : List Jvm.Cond) (pi1 : Int32) (pi2 : Int32) (pi3 : Int32) (w_DEF : Addr) (kk_w_DEF : ClassId) (w_EMPTY : Addr) (w_NOT : Addr) (w_EMPTY_LIST : Addr) (w_AND : Addr) (w_DERIVATIVE : Addr) (w_PLUS : Addr) (w_COMPACT_STRINGS : Int32) (w_mir : Addr) (h0 : Heap) (n0 : Nat) (Z0 : n0 ≤ h0.size) (O0 : Old Z n0 h0) (S_DEFAULTCAPACITY_EMPTY_ELEMENTDATA : Sta Z Z.heap "java/util/ArrayList" "DEFAULTCAPACITY_EMPTY_ELEMENTDATA" "[Ljava/lang/Object;" (.ref w_DEF)) (V_w_DEF : Arv Z Z.heap w_DEF kk_w_DEF (.object "java/lang/Object") (0 : Int32) [] .null) (S_EMPTY : Sta Z Z.heap "java/util/ImmutableCollections" "EMPTY" "Ljava/lang/Object;" (.ref w_EMPTY)) (E_w_EMPTY : Exa Z Z.heap w_EMPTY "java/lang/Object") (S_NOT : Sta Z Z.heap "com/example/tyche/tyche/model/jani/Operator" "NOT" "Lcom/example/tyche/tyche/model/jani/Operator;" (.ref w_NOT)) (S_EMPTY_LIST : Sta Z Z.heap "java/util/ImmutableCollections" "EMPTY_LIST" "Ljava/util/ImmutableCollections$ListN;" (.ref w_EMPTY_LIST)) (S_AND : Sta Z Z.heap "com/example/tyche/tyche/model/jani/Operator" "AND" "Lcom/example/tyche/tyche/model/jani/Operator;" (.ref w_AND)) (S_DERIVATIVE : Sta Z Z.heap "com/example/tyche/tyche/model/jani/Operator" "DERIVATIVE" "Lcom/example/tyche/tyche/model/jani/Operator;" (.ref w_DERIVATIVE)) (S_PLUS : Sta Z Z.heap "com/example/tyche/tyche/model/jani/Operator" "PLUS" "Lcom/example/tyche/tyche/model/jani/Operator;" (.ref w_PLUS)) (S_COMPACT_STRINGS : Sta Z Z.heap "java/lang/String" "COMPACT_STRINGS" "Z" (.int w_COMPACT_STRINGS)) (hCS : ¬ (w_COMPACT_STRINGS = (0 : Int32))) (M_mir : Mir Z "[Ljava/lang/Object;" w_mir) (hc8_0 : ¬ (((1 : Int32) + ((pi1 &&& (2147483647 : Int32)) % (3 : Int32))) = (1 : Int32))) (hc8_1 : ¬ (((1 : Int32) + ((pi1 &&& (2147483647 : Int32)) % (3 : Int32))) = (2 : Int32))) (hc15_2 : ¬ (((pi2 &&& (2147483647 : Int32)) % (3 : Int32)) = (0 : Int32))) (hc15_3 : ¬ (((pi2 &&& (2147483647 : Int32)) % (3 : Int32)) = (1 : Int32))) :
    MetFree l x (head1 (Jvm.Cond.code x code maxLocals ret :: ws) room_1) (fun a U => a = #[(.int pi1), (.int pi2), (.int pi3)] ∧ Z.Warmed39 U.vm ∧ U.heap = h0) (fun _ _ _ _ _ => True) (fun _ U o U' => ∃ v L, o = .returned v ∧ Q0 v L n0 ∧ ReturnedEndW U o U' L room_1.cells room_1.slots) := by
  refine MetFree.of_bodySF (plainFor_of_name pn_0) hisR ?_
  intro p e s m args below meth c s₁ Bd hml0 hP hK
  obtain ⟨rfl, hZ, hh⟩ := hP
  have hx := Bd.exec
  have hby := Bd.bytes
  have hml : c.maxLocals = 14 := hml0
  have hown : s.vm.findClass "com/example/tyche/tyche/model/jani/OperationOperandPinLaw" = some m.cls := findClass_of_methodNamed Bd.named
  have hnm := (name_of_methodNamed Bd.named Bd.method).1
  have X0 : Stand p l e room_1 s m #[(.int pi1), (.int pi2), (.int pi3)] below meth c s₁ [] 0 0 := Stand.of_body Bd
  have e0 : s₁.heap = h0 := by rw [← hh, Bd.state]; rfl
  have N0 := Fr.nil n0
  have pre0 : ∀ t, Steps p.tables e below (s₁.setTop (mkF m 0 #[vi pi1, vi pi2, vi pi3, .unset, .unset, .unset, .unset, .unset, .unset, .unset, .unset, .unset, .unset, .unset] [])) t → Steps p.tables e below (s₁.setTop (entryFrame m #[(.int pi1), (.int pi2), (.int pi3)] maxLocals)) t := fun t k => castTop (ef_0 m pi1 pi2 pi3) k
  obtain ⟨T1, h1, X1, e1, E1, A1, D1, -, st1⟩ := newO X0 hx hZ hown (own_W hw 1 rfl) (own_W hw 2 rfl) (own_W hw 3 rfl) e0 (g := (mkF m 25 #[vi pi1, vi pi2, vi pi3, vi 3, vi 2, vi 0, .unset, .unset, .unset, .unset, .unset, .unset, .unset, .unset] [])) rfl (hb hby at_25) (by decide) (by decide)
  obtain ⟨b1, g1⟩ : ∃ z, z = h0.size := ⟨_, rfl⟩
  rw [← g1] at A1 D1 st1
  have F_operator_b1 : Fld Z h1 b1 "com/example/tyche/tyche/model/jani/Expression$Operation" "operator" "Lcom/example/tyche/tyche/model/jani/Operator;" .null := D1 (Or.inr (own_W hw 80 rfl)) (ty := (.object "com/example/tyche/tyche/model/jani/Operator")) (by decide)
  have F_operands_b1 : Fld Z h1 b1 "com/example/tyche/tyche/model/jani/Expression$Operation" "operands" "Ljava/util/List;" .null := D1 (Or.inr (own_W hw 82 rfl)) (ty := (.object "java/util/List")) (by decide)
  have F_path_b1 : Fld Z h1 b1 "com/example/tyche/tyche/model/jani/Expression$Operation" "path" "Ljava/lang/String;" .null := D1 (Or.inr (own_W hw 84 rfl)) (ty := (.object "java/lang/String")) (by decide)
  have o3 := O0.ext E1
  obtain ⟨T2, X2, e2, st2⟩ := getS2 X1 hx hZ hown (host := "") (Or.inl (own_W hw 4 rfl)) Via.refl e1 (S_NOT.ext o3.2) (g := (mkF m 29 #[vi pi1, vi pi2, vi pi3, vi 3, vi 2, vi 0, .unset, .unset, .unset, .unset, .unset, .unset, .unset, .unset] [(.ref b1), (.ref b1)])) rfl (hb hby at_29)
  obtain ⟨T4, h4, X4, e4, E4, A4, D4, -, st4⟩ := newO X2 hx hZ hown (own_W hw 7 rfl) (own_W hw 8 rfl) (own_W hw 9 rfl) e2 (g := (mkF m 32 #[vi pi1, vi pi2, vi pi3, vi 3, vi 2, vi 0, .unset, .unset, .unset, .unset, .unset, .unset, .unset, .unset] [(.ref w_NOT), (.ref b1), (.ref b1)])) rfl (hb hby at_32) (by decide) (by decide)
  obtain ⟨b4, g4⟩ : ∃ z, z = h1.size := ⟨_, rfl⟩
  rw [← g4] at A4 D4 st4
  have F_modCount_b4 : Fld Z h4 b4 "java/util/AbstractList" "modCount" "I" (.int 0) := D4 (Or.inl (own_W hw 29 rfl)) (ty := .int) (by decide)
  have F_elementData_b4 : Fld Z h4 b4 "java/util/ArrayList" "elementData" "[Ljava/lang/Object;" .null := D4 (Or.inl (own_W hw 32 rfl)) (ty := (.array (.object "java/lang/Object"))) (by decide)
  have F_size_b4 : Fld Z h4 b4 "java/util/ArrayList" "size" "I" (.int 0) := D4 (Or.inl (own_W hw 74 rfl)) (ty := .int) (by decide)
  have z5 := Nat.le_trans Z0 E1.1
  have g_b4 : n0 ≤ b4 := Nat.le_trans z5 (Nat.le_of_eq g4.symm)
  have z7 := Nat.le_trans z5 E4.1
  have o8 := o3.ext E4
  obtain ⟨_, _, ⟨T6, L6, k6, n6⟩, -, X6, ⟨Lc6, hQ6, l6, y6, z6⟩, st6⟩ := X4.specialBack hx (y := mN2) rfl hown (mvT hZ (own_W hw 10 rfl)) (mvT hZ (own_W hw 11 rfl)) (mvT hZ (own_W hw 12 rfl)) (by decide) (backOf (W := 4) (rm1 l Z a0 hw [] b4 w_DEF (.int 0) .null (.int 0) h4 n0 z7 o8 A4 S_DEFAULTCAPACITY_EMPTY_ELEMENTDATA F_modCount_b4 F_elementData_b4 F_size_b4 g_b4) hZ (own_W hw 12 rfl) (own_W hw 9 rfl) (by decide) (by decide)) (g := (mkF m 36 #[vi pi1, vi pi2, vi pi3, vi 3, vi 2, vi 0, .unset, .unset, .unset, .unset, .unset, .unset, .unset, .unset] [(.ref b4), (.ref b4), (.ref w_NOT), (.ref b1), (.ref b1)])) rfl (by rw [hml]; rfl) (Steps.refl _) (a := b4) (argsL := []) (rest := [(.ref b4), (.ref w_NOT), (.ref b1), (.ref b1)]) (lenOf pd_0 rfl) rfl (by show 2 * 0 + _ ≤ _; exact Nat.le_of_eq rfl) (hb hby at_36) (fun _ _ => ⟨rfl, e4, (by decide : 2 + 0 ≤ _), (by decide : 6 + 0 ≤ _)⟩)
  dsimp only [Pt.U, Pt.locs, Pt.cells, Pt.slots] at X6 l6 y6 z6 st6 hQ6
  subst l6 y6 z6
  obtain ⟨rfl, N6q, K6, qf6_0, qf6_1, qf6_2, qf6_3⟩ := hQ6
  have N6 := Fr.app N0 N6q
  obtain ⟨sa9, T9, h9, ks9, X9, e9, E9, hS9, hk9, hZ9, hown9, st9⟩ := ldcS (show Stand p l e room_1 (s.setVm s.vm) m _ below meth c T6 _ _ _ from X6) hx hZ hown (own_W hw 33 rfl) (own_wS hw) rfl (own_since0 s) (Nat.zero_le _) (g := (mkF m 39 #[vi pi1, vi pi2, vi pi3, vi 3, vi 2, vi 0, .unset, .unset, .unset, .unset, .unset, .unset, .unset, .unset] [(.ref b4), (.ref w_NOT), (.ref b1), (.ref b1)])) rfl (hb hby at_39) (n := 4) (by decide) (by decide) (by decide) (by decide)
  have f10 := A1.ext E4
  have f11 := f10.keep K6
  have f12 := f11.ext E9
  have f13 := qf6_0.ext E9
  have f14 := qf6_3.ext E9
  have f15 := F_operator_b1.ext E4
  have f16 := f15.keep K6 (ninS (Nat.ne_of_lt (Nat.lt_of_lt_of_le F_path_b1.lt (Nat.le_of_eq g4.symm))) nin0)
  have f17 := f16.ext E9
  have g_b1 : n0 ≤ b1 := Nat.le_trans Z0 (Nat.le_of_eq g1.symm)
  have f18 := F_operands_b1.ext E4
  have f19 := f18.keep K6 (ninS (Nat.ne_of_lt (Nat.lt_of_lt_of_le F_path_b1.lt (Nat.le_of_eq g4.symm))) nin0)
  have f20 := f19.ext E9
  have f21 := F_path_b1.ext E4
  have f22 := f21.keep K6 (ninS (Nat.ne_of_lt (Nat.lt_of_lt_of_le F_path_b1.lt (Nat.le_of_eq g4.symm))) nin0)
  have f23 := f22.ext E9
  have z25 := Nat.le_trans z7 K6.1
  have z26 := Nat.le_trans z25 E9.1
  have o27 := o8.keep K6 (allS g_b4 all0)
  have o28 := o27.ext E9
  obtain ⟨_, _, ⟨T24, L24, k24, n24⟩, -, X24, ⟨Lc24, hQ24, l24, y24, z24⟩, st24⟩ := X9.specialBack hx (y := mN27) rfl hown9 (mvT hZ9 (own_W hw 41 rfl)) (mvT hZ9 (own_W hw 42 rfl)) (mvT hZ9 (own_W hw 43 rfl)) (by decide) (backOf (W := 1) (rm5_0 l Z a0 hw [] b1 w_NOT b4 sa9 w_EMPTY_LIST .null .null .null h9 n0 z26 o28 f12 f13 f14 S_EMPTY_LIST f17 g_b1 f20 f23) hZ9 (own_W hw 43 rfl) (own_W hw 3 rfl) (by decide) (by decide)) (g := (mkF m 41 #[vi pi1, vi pi2, vi pi3, vi 3, vi 2, vi 0, .unset, .unset, .unset, .unset, .unset, .unset, .unset, .unset] [(.ref sa9), (.ref b4), (.ref w_NOT), (.ref b1), (.ref b1)])) rfl (by rw [hml]; rfl) (Steps.refl _) (a := b1) (argsL := [(.ref w_NOT), (.ref b4), (.ref sa9)]) (rest := [(.ref b1)]) (lenOf pd_1 rfl) rfl (by show 2 * 0 + _ ≤ _; exact Nat.le_of_eq rfl) (hb hby at_41) (fun _ _ => ⟨rfl, e9, (by decide : 4 + 0 ≤ _), (by decide : 14 + 0 ≤ _)⟩)
  dsimp only [Pt.U, Pt.locs, Pt.cells, Pt.slots] at X24 l24 y24 z24 st24 hQ24
  subst l24 y24 z24
  obtain ⟨rfl, N24q, K24, qf24_0, qf24_1, qf24_2, qf24_3⟩ := hQ24
  have N24 := Fr.app N6 N24q
  obtain ⟨T29, h29, X29, e29, E29, A29, D29, -, st29⟩ := newO X24 hx hZ9 hown9 (own_W hw 1 rfl) (own_W hw 2 rfl) (own_W hw 3 rfl) rfl (g := (mkF m 46 #[vi pi1, vi pi2, vi pi3, vi 3, vi 2, vi 0, vr b1, .unset, .unset, .unset, .unset, .unset, .unset, .unset] [])) rfl (hb hby at_46) (by decide) (by decide)
  obtain ⟨b29, g29⟩ : ∃ z, z = T24.heap.size := ⟨_, rfl⟩
  rw [← g29] at A29 D29 st29
  have F_operator_b29 : Fld Z h29 b29 "com/example/tyche/tyche/model/jani/Expression$Operation" "operator" "Lcom/example/tyche/tyche/model/jani/Operator;" .null := D29 (Or.inr (own_W hw 80 rfl)) (ty := (.object "com/example/tyche/tyche/model/jani/Operator")) (by decide)
  have F_operands_b29 : Fld Z h29 b29 "com/example/tyche/tyche/model/jani/Expression$Operation" "operands" "Ljava/util/List;" .null := D29 (Or.inr (own_W hw 82 rfl)) (ty := (.object "java/util/List")) (by decide)
  have F_path_b29 : Fld Z h29 b29 "com/example/tyche/tyche/model/jani/Expression$Operation" "path" "Ljava/lang/String;" .null := D29 (Or.inr (own_W hw 84 rfl)) (ty := (.object "java/lang/String")) (by decide)
  have o31 := o28.keep K24 (allS g_b1 all0)
  have o32 := o31.ext E29
  obtain ⟨T30, X30, e30, st30⟩ := getS2 X29 hx hZ9 hown9 (host := "") (Or.inl (own_W hw 85 rfl)) Via.refl e29 (S_AND.ext o32.2) (g := (mkF m 50 #[vi pi1, vi pi2, vi pi3, vi 3, vi 2, vi 0, vr b1, .unset, .unset, .unset, .unset, .unset, .unset, .unset] [(.ref b29), (.ref b29)])) rfl (hb hby at_50)
  obtain ⟨T33, h33, X33, e33, E33, A33, D33, -, st33⟩ := newO X30 hx hZ9 hown9 (own_W hw 7 rfl) (own_W hw 8 rfl) (own_W hw 9 rfl) e30 (g := (mkF m 53 #[vi pi1, vi pi2, vi pi3, vi 3, vi 2, vi 0, vr b1, .unset, .unset, .unset, .unset, .unset, .unset, .unset] [(.ref w_AND), (.ref b29), (.ref b29)])) rfl (hb hby at_53) (by decide) (by decide)
  obtain ⟨b33, g33⟩ : ∃ z, z = h29.size := ⟨_, rfl⟩
  rw [← g33] at A33 D33 st33
  have F_modCount_b33 : Fld Z h33 b33 "java/util/AbstractList" "modCount" "I" (.int 0) := D33 (Or.inl (own_W hw 29 rfl)) (ty := .int) (by decide)
  have F_elementData_b33 : Fld Z h33 b33 "java/util/ArrayList" "elementData" "[Ljava/lang/Object;" .null := D33 (Or.inl (own_W hw 32 rfl)) (ty := (.array (.object "java/lang/Object"))) (by decide)
  have F_size_b33 : Fld Z h33 b33 "java/util/ArrayList" "size" "I" (.int 0) := D33 (Or.inl (own_W hw 74 rfl)) (ty := .int) (by decide)
  have z34 := Nat.le_trans z26 K24.1
  have z35 := Nat.le_trans z34 E29.1
  have g_b33 : n0 ≤ b33 := Nat.le_trans z35 (Nat.le_of_eq g33.symm)
  have z37 := Nat.le_trans z35 E33.1
  have o38 := o32.ext E33
  obtain ⟨_, _, ⟨T36, L36, k36, n36⟩, -, X36, ⟨Lc36, hQ36, l36, y36, z36⟩, st36⟩ := X33.specialBack hx (y := mN2) rfl hown9 (mvT hZ9 (own_W hw 10 rfl)) (mvT hZ9 (own_W hw 11 rfl)) (mvT hZ9 (own_W hw 12 rfl)) (by decide) (backOf (W := 4) (rm1 l Z a0 hw [] b33 w_DEF (.int 0) .null (.int 0) h33 n0 z37 o38 A33 S_DEFAULTCAPACITY_EMPTY_ELEMENTDATA F_modCount_b33 F_elementData_b33 F_size_b33 g_b33) hZ9 (own_W hw 12 rfl) (own_W hw 9 rfl) (by decide) (by decide)) (g := (mkF m 57 #[vi pi1, vi pi2, vi pi3, vi 3, vi 2, vi 0, vr b1, .unset, .unset, .unset, .unset, .unset, .unset, .unset] [(.ref b33), (.ref b33), (.ref w_AND), (.ref b29), (.ref b29)])) rfl (by rw [hml]; rfl) (Steps.refl _) (a := b33) (argsL := []) (rest := [(.ref b33), (.ref w_AND), (.ref b29), (.ref b29)]) (lenOf pd_0 rfl) rfl (by show 2 * 0 + _ ≤ _; exact Nat.le_of_eq rfl) (hb hby at_57) (fun _ _ => ⟨rfl, e33, (by decide : 6 + 0 ≤ _), (by decide : 20 + 0 ≤ _)⟩)
  dsimp only [Pt.U, Pt.locs, Pt.cells, Pt.slots] at X36 l36 y36 z36 st36 hQ36
  subst l36 y36 z36
  obtain ⟨rfl, N36q, K36, qf36_0, qf36_1, qf36_2, qf36_3⟩ := hQ36
  have N36 := Fr.app N24 N36q
  have y40 := Nat.le_trans hk9 K24.1
  have y41 := Nat.le_trans y40 E29.1
  have y42 := Nat.le_trans y41 E33.1
  have y43 := Nat.le_trans y42 K36.1
  obtain ⟨sa39, T39, h39, ks39, X39, e39, E39, hS39, hk39, hZ39, hown39, st39⟩ := ldcS X36 hx hZ9 hown9 (own_W hw 87 rfl) (own_wS hw) rfl hS9 y43 (g := (mkF m 60 #[vi pi1, vi pi2, vi pi3, vi 3, vi 2, vi 0, vr b1, .unset, .unset, .unset, .unset, .unset, .unset, .unset] [(.ref b33), (.ref w_AND), (.ref b29), (.ref b29)])) rfl (hb hby at_60) (n := 4) (by decide) (by decide) (by decide) (by decide)
  have f44 := A29.ext E33
  have f45 := f44.keep K36
  have f46 := f45.ext E39
  have f47 := qf36_0.ext E39
  have f48 := qf36_3.ext E39
  have f49 := F_operator_b29.ext E33
  have f50 := f49.keep K36 (ninS (Nat.ne_of_lt (Nat.lt_of_lt_of_le F_path_b29.lt (Nat.le_of_eq g33.symm))) nin0)
  have f51 := f50.ext E39
  have g_b29 : n0 ≤ b29 := Nat.le_trans z34 (Nat.le_of_eq g29.symm)
  have f52 := F_operands_b29.ext E33
  have f53 := f52.keep K36 (ninS (Nat.ne_of_lt (Nat.lt_of_lt_of_le F_path_b29.lt (Nat.le_of_eq g33.symm))) nin0)
  have f54 := f53.ext E39
  have f55 := F_path_b29.ext E33
  have f56 := f55.keep K36 (ninS (Nat.ne_of_lt (Nat.lt_of_lt_of_le F_path_b29.lt (Nat.le_of_eq g33.symm))) nin0)
  have f57 := f56.ext E39
  have z59 := Nat.le_trans z37 K36.1
  have z60 := Nat.le_trans z59 E39.1
  have o61 := o38.keep K36 (allS g_b33 all0)
  have o62 := o61.ext E39
  obtain ⟨_, _, ⟨T58, L58, k58, n58⟩, -, X58, ⟨Lc58, hQ58, l58, y58, z58⟩, st58⟩ := X39.specialBack hx (y := mN27) rfl hown39 (mvT hZ39 (own_W hw 41 rfl)) (mvT hZ39 (own_W hw 42 rfl)) (mvT hZ39 (own_W hw 43 rfl)) (by decide) (backOf (W := 1) (rm5_0 l Z a0 hw [] b29 w_AND b33 sa39 w_EMPTY_LIST .null .null .null h39 n0 z60 o62 f46 f47 f48 S_EMPTY_LIST f51 g_b29 f54 f57) hZ39 (own_W hw 43 rfl) (own_W hw 3 rfl) (by decide) (by decide)) (g := (mkF m 62 #[vi pi1, vi pi2, vi pi3, vi 3, vi 2, vi 0, vr b1, .unset, .unset, .unset, .unset, .unset, .unset, .unset] [(.ref sa39), (.ref b33), (.ref w_AND), (.ref b29), (.ref b29)])) rfl (by rw [hml]; rfl) (Steps.refl _) (a := b29) (argsL := [(.ref w_AND), (.ref b33), (.ref sa39)]) (rest := [(.ref b29)]) (lenOf pd_1 rfl) rfl (by show 2 * 0 + _ ≤ _; exact Nat.le_of_eq rfl) (hb hby at_62) (fun _ _ => ⟨rfl, e39, (by decide : 8 + 0 ≤ _), (by decide : 28 + 0 ≤ _)⟩)
  dsimp only [Pt.U, Pt.locs, Pt.cells, Pt.slots] at X58 l58 y58 z58 st58 hQ58
  subst l58 y58 z58
  obtain ⟨rfl, N58q, K58, qf58_0, qf58_1, qf58_2, qf58_3⟩ := hQ58
  have N58 := Fr.app N36 N58q
  obtain ⟨T63, h63, X63, e63, E63, A63, D63, -, st63⟩ := newO X58 hx hZ39 hown39 (own_W hw 1 rfl) (own_W hw 2 rfl) (own_W hw 3 rfl) rfl (g := (mkF m 67 #[vi pi1, vi pi2, vi pi3, vi 3, vi 2, vi 0, vr b1, vr b29, .unset, .unset, .unset, .unset, .unset, .unset] [])) rfl (hb hby at_67) (by decide) (by decide)
  obtain ⟨b63, g63⟩ : ∃ z, z = T58.heap.size := ⟨_, rfl⟩
  rw [← g63] at A63 D63 st63
  have F_operator_b63 : Fld Z h63 b63 "com/example/tyche/tyche/model/jani/Expression$Operation" "operator" "Lcom/example/tyche/tyche/model/jani/Operator;" .null := D63 (Or.inr (own_W hw 80 rfl)) (ty := (.object "com/example/tyche/tyche/model/jani/Operator")) (by decide)
  have F_operands_b63 : Fld Z h63 b63 "com/example/tyche/tyche/model/jani/Expression$Operation" "operands" "Ljava/util/List;" .null := D63 (Or.inr (own_W hw 82 rfl)) (ty := (.object "java/util/List")) (by decide)
  have F_path_b63 : Fld Z h63 b63 "com/example/tyche/tyche/model/jani/Expression$Operation" "path" "Ljava/lang/String;" .null := D63 (Or.inr (own_W hw 84 rfl)) (ty := (.object "java/lang/String")) (by decide)
  have o65 := o62.keep K58 (allS g_b29 all0)
  have o66 := o65.ext E63
  obtain ⟨T64, X64, e64, st64⟩ := getS2 X63 hx hZ39 hown39 (host := "") (Or.inl (own_W hw 88 rfl)) Via.refl e63 (S_DERIVATIVE.ext o66.2) (g := (mkF m 71 #[vi pi1, vi pi2, vi pi3, vi 3, vi 2, vi 0, vr b1, vr b29, .unset, .unset, .unset, .unset, .unset, .unset] [(.ref b63), (.ref b63)])) rfl (hb hby at_71)
  obtain ⟨T67, h67, X67, e67, E67, A67, D67, -, st67⟩ := newO X64 hx hZ39 hown39 (own_W hw 7 rfl) (own_W hw 8 rfl) (own_W hw 9 rfl) e64 (g := (mkF m 74 #[vi pi1, vi pi2, vi pi3, vi 3, vi 2, vi 0, vr b1, vr b29, .unset, .unset, .unset, .unset, .unset, .unset] [(.ref w_DERIVATIVE), (.ref b63), (.ref b63)])) rfl (hb hby at_74) (by decide) (by decide)
  obtain ⟨b67, g67⟩ : ∃ z, z = h63.size := ⟨_, rfl⟩
  rw [← g67] at A67 D67 st67
  have F_modCount_b67 : Fld Z h67 b67 "java/util/AbstractList" "modCount" "I" (.int 0) := D67 (Or.inl (own_W hw 29 rfl)) (ty := .int) (by decide)
  have F_elementData_b67 : Fld Z h67 b67 "java/util/ArrayList" "elementData" "[Ljava/lang/Object;" .null := D67 (Or.inl (own_W hw 32 rfl)) (ty := (.array (.object "java/lang/Object"))) (by decide)
  have F_size_b67 : Fld Z h67 b67 "java/util/ArrayList" "size" "I" (.int 0) := D67 (Or.inl (own_W hw 74 rfl)) (ty := .int) (by decide)
  have z68 := Nat.le_trans z60 K58.1
  have z69 := Nat.le_trans z68 E63.1
  have g_b67 : n0 ≤ b67 := Nat.le_trans z69 (Nat.le_of_eq g67.symm)
  have z71 := Nat.le_trans z69 E67.1
  have o72 := o66.ext E67
  obtain ⟨_, _, ⟨T70, L70, k70, n70⟩, -, X70, ⟨Lc70, hQ70, l70, y70, z70⟩, st70⟩ := X67.specialBack hx (y := mN2) rfl hown39 (mvT hZ39 (own_W hw 10 rfl)) (mvT hZ39 (own_W hw 11 rfl)) (mvT hZ39 (own_W hw 12 rfl)) (by decide) (backOf (W := 4) (rm1 l Z a0 hw [] b67 w_DEF (.int 0) .null (.int 0) h67 n0 z71 o72 A67 S_DEFAULTCAPACITY_EMPTY_ELEMENTDATA F_modCount_b67 F_elementData_b67 F_size_b67 g_b67) hZ39 (own_W hw 12 rfl) (own_W hw 9 rfl) (by decide) (by decide)) (g := (mkF m 78 #[vi pi1, vi pi2, vi pi3, vi 3, vi 2, vi 0, vr b1, vr b29, .unset, .unset, .unset, .unset, .unset, .unset] [(.ref b67), (.ref b67), (.ref w_DERIVATIVE), (.ref b63), (.ref b63)])) rfl (by rw [hml]; rfl) (Steps.refl _) (a := b67) (argsL := []) (rest := [(.ref b67), (.ref w_DERIVATIVE), (.ref b63), (.ref b63)]) (lenOf pd_0 rfl) rfl (by show 2 * 0 + _ ≤ _; exact Nat.le_of_eq rfl) (hb hby at_78) (fun _ _ => ⟨rfl, e67, (by decide : 10 + 0 ≤ _), (by decide : 34 + 0 ≤ _)⟩)
  dsimp only [Pt.U, Pt.locs, Pt.cells, Pt.slots] at X70 l70 y70 z70 st70 hQ70
  subst l70 y70 z70
  obtain ⟨rfl, N70q, K70, qf70_0, qf70_1, qf70_2, qf70_3⟩ := hQ70
  have N70 := Fr.app N58 N70q
  have y74 := Nat.le_trans hk39 K58.1
  have y75 := Nat.le_trans y74 E63.1
  have y76 := Nat.le_trans y75 E67.1
  have y77 := Nat.le_trans y76 K70.1
  obtain ⟨sa73, T73, h73, ks73, X73, e73, E73, hS73, hk73, hZ73, hown73, st73⟩ := ldcS X70 hx hZ39 hown39 (own_W hw 90 rfl) (own_wS hw) rfl hS39 y77 (g := (mkF m 81 #[vi pi1, vi pi2, vi pi3, vi 3, vi 2, vi 0, vr b1, vr b29, .unset, .unset, .unset, .unset, .unset, .unset] [(.ref b67), (.ref w_DERIVATIVE), (.ref b63), (.ref b63)])) rfl (hb hby at_81) (n := 4) (by decide) (by decide) (by decide) (by decide)
  have f78 := A63.ext E67
  have f79 := f78.keep K70
  have f80 := f79.ext E73
  have f81 := qf70_0.ext E73
  have f82 := qf70_3.ext E73
  have f83 := F_operator_b63.ext E67
  have f84 := f83.keep K70 (ninS (Nat.ne_of_lt (Nat.lt_of_lt_of_le F_path_b63.lt (Nat.le_of_eq g67.symm))) nin0)
  have f85 := f84.ext E73
  have g_b63 : n0 ≤ b63 := Nat.le_trans z68 (Nat.le_of_eq g63.symm)
  have f86 := F_operands_b63.ext E67
  have f87 := f86.keep K70 (ninS (Nat.ne_of_lt (Nat.lt_of_lt_of_le F_path_b63.lt (Nat.le_of_eq g67.symm))) nin0)
  have f88 := f87.ext E73
  have f89 := F_path_b63.ext E67
  have f90 := f89.keep K70 (ninS (Nat.ne_of_lt (Nat.lt_of_lt_of_le F_path_b63.lt (Nat.le_of_eq g67.symm))) nin0)
  have f91 := f90.ext E73
  have z93 := Nat.le_trans z71 K70.1
  have z94 := Nat.le_trans z93 E73.1
  have o95 := o72.keep K70 (allS g_b67 all0)
  have o96 := o95.ext E73
  obtain ⟨_, _, ⟨T92, L92, k92, n92⟩, -, X92, ⟨Lc92, hQ92, l92, y92, z92⟩, st92⟩ := X73.specialBack hx (y := mN27) rfl hown73 (mvT hZ73 (own_W hw 41 rfl)) (mvT hZ73 (own_W hw 42 rfl)) (mvT hZ73 (own_W hw 43 rfl)) (by decide) (backOf (W := 1) (rm5_0 l Z a0 hw [] b63 w_DERIVATIVE b67 sa73 w_EMPTY_LIST .null .null .null h73 n0 z94 o96 f80 f81 f82 S_EMPTY_LIST f85 g_b63 f88 f91) hZ73 (own_W hw 43 rfl) (own_W hw 3 rfl) (by decide) (by decide)) (g := (mkF m 83 #[vi pi1, vi pi2, vi pi3, vi 3, vi 2, vi 0, vr b1, vr b29, .unset, .unset, .unset, .unset, .unset, .unset] [(.ref sa73), (.ref b67), (.ref w_DERIVATIVE), (.ref b63), (.ref b63)])) rfl (by rw [hml]; rfl) (Steps.refl _) (a := b63) (argsL := [(.ref w_DERIVATIVE), (.ref b67), (.ref sa73)]) (rest := [(.ref b63)]) (lenOf pd_1 rfl) rfl (by show 2 * 0 + _ ≤ _; exact Nat.le_of_eq rfl) (hb hby at_83) (fun _ _ => ⟨rfl, e73, (by decide : 12 + 0 ≤ _), (by decide : 42 + 0 ≤ _)⟩)
  dsimp only [Pt.U, Pt.locs, Pt.cells, Pt.slots] at X92 l92 y92 z92 st92 hQ92
  subst l92 y92 z92
  obtain ⟨rfl, N92q, K92, qf92_0, qf92_1, qf92_2, qf92_3⟩ := hQ92
  have N92 := Fr.app N70 N92q
  obtain ⟨T97, h97, X97, e97, E97, A97, D97, -, st97⟩ := newO X92 hx hZ73 hown73 (own_W hw 7 rfl) (own_W hw 8 rfl) (own_W hw 9 rfl) rfl (g := (mkF m 88 #[vi pi1, vi pi2, vi pi3, vi 3, vi 2, vi 0, vr b1, vr b29, vr b63, .unset, .unset, .unset, .unset, .unset] [])) rfl (hb hby at_88) (by decide) (by decide)
  obtain ⟨b97, g97⟩ : ∃ z, z = T92.heap.size := ⟨_, rfl⟩
  rw [← g97] at A97 D97 st97
  have F_modCount_b97 : Fld Z h97 b97 "java/util/AbstractList" "modCount" "I" (.int 0) := D97 (Or.inl (own_W hw 29 rfl)) (ty := .int) (by decide)
  have F_elementData_b97 : Fld Z h97 b97 "java/util/ArrayList" "elementData" "[Ljava/lang/Object;" .null := D97 (Or.inl (own_W hw 32 rfl)) (ty := (.array (.object "java/lang/Object"))) (by decide)
  have F_size_b97 : Fld Z h97 b97 "java/util/ArrayList" "size" "I" (.int 0) := D97 (Or.inl (own_W hw 74 rfl)) (ty := .int) (by decide)
  have z98 := Nat.le_trans z94 K92.1
  have g_b97 : n0 ≤ b97 := Nat.le_trans z98 (Nat.le_of_eq g97.symm)
  have z100 := Nat.le_trans z98 E97.1
  have o101 := o96.keep K92 (allS g_b63 all0)
  have o102 := o101.ext E97
  obtain ⟨_, _, ⟨T99, L99, k99, n99⟩, -, X99, ⟨Lc99, hQ99, l99, y99, z99⟩, st99⟩ := X97.specialBack hx (y := mN2) rfl hown73 (mvT hZ73 (own_W hw 10 rfl)) (mvT hZ73 (own_W hw 11 rfl)) (mvT hZ73 (own_W hw 12 rfl)) (by decide) (backOf (W := 1) (rm1 l Z a0 hw [] b97 w_DEF (.int 0) .null (.int 0) h97 n0 z100 o102 A97 S_DEFAULTCAPACITY_EMPTY_ELEMENTDATA F_modCount_b97 F_elementData_b97 F_size_b97 g_b97) hZ73 (own_W hw 12 rfl) (own_W hw 9 rfl) (by decide) (by decide)) (g := (mkF m 92 #[vi pi1, vi pi2, vi pi3, vi 3, vi 2, vi 0, vr b1, vr b29, vr b63, .unset, .unset, .unset, .unset, .unset] [(.ref b97), (.ref b97)])) rfl (by rw [hml]; rfl) (Steps.refl _) (a := b97) (argsL := []) (rest := [(.ref b97)]) (lenOf pd_0 rfl) rfl (by show 2 * 0 + _ ≤ _; exact Nat.le_of_eq rfl) (hb hby at_92) (fun _ _ => ⟨rfl, e97, (by decide : 13 + 0 ≤ _), (by decide : 45 + 0 ≤ _)⟩)
  dsimp only [Pt.U, Pt.locs, Pt.cells, Pt.slots] at X99 l99 y99 z99 st99 hQ99
  subst l99 y99 z99
  obtain ⟨rfl, N99q, K99, qf99_0, qf99_1, qf99_2, qf99_3⟩ := hQ99
  have N99 := Fr.app N92 N99q
  have f103 := qf24_0.ext E29
  have f104 := f103.ext E33
  have f105 := f104.keep K36
  have f106 := f105.ext E39
  have f107 := f106.keep K58
  have f108 := f107.ext E63
  have f109 := f108.ext E67
  have f110 := f109.keep K70
  have f111 := f110.ext E73
  have f112 := f111.keep K92
  have f113 := f112.ext E97
  have f114 := f113.keep K99
  have z116 := Nat.le_trans z100 K99.1
  have o117 := o102.keep K99 (allS g_b97 all0)
  obtain ⟨cq115, kq115, q115a, q115b, q115c⟩ := isOf hZ73 rfl qf99_0
  obtain ⟨_, _, ⟨T115, L115, k115, n115⟩, -, X115, ⟨Lc115, hQ115, l115, y115, z115⟩, st115⟩ := X99.virtualBack hx (y := mN7) (z := mN7) hown73 (mvT hZ73 (own_W hw 91 rfl)) (mvT hZ73 (own_W hw 92 rfl)) (notFace_of_selects (args := #[]) (mvT hZ73 (own_W hw 94 rfl))) (mvT hZ73 (own_W hw 94 rfl)) (mvT hZ73 (own_W hw 93 rfl)) (by decide) (backOf (W := 0) (rm11_0 l Z a0 hw [] b97 b1 w_DEF kk_w_DEF (0 : Int32) T99.heap n0 z116 o117 qf99_0 f114 S_DEFAULTCAPACITY_EMPTY_ELEMENTDATA V_w_DEF qf99_1 qf99_2 qf99_3 g_b97) hZ73 (own_W hw 95 rfl) (own_W hw 9 rfl) (by decide) (by decide)) q115a q115c (g := (mkF m 101 #[vi pi1, vi pi2, vi pi3, vi 3, vi 2, vi 0, vr b1, vr b29, vr b63, vr b97, .unset, .unset, .unset, .unset] [(.ref b1), (.ref b97)])) rfl (by rw [hml]; rfl) (Steps.refl _) (argsL := [(.ref b1)]) (rest := []) (lenOf pd_5 rfl) rfl (by show 2 * 0 + _ ≤ _; exact Nat.le_of_eq rfl) (hb hby at_101) (fun _ _ => ⟨rfl, rfl, (by decide : 13 + 1 ≤ _), (by decide : 45 + 10 ≤ _)⟩)
  dsimp only [Pt.U, Pt.locs, Pt.cells, Pt.slots] at X115 l115 y115 z115 st115 hQ115
  subst l115 y115 z115
  obtain ⟨b115, b115_1, rfl, N115q, K115, qf115_0, qf115_1, qf115_2, qf115_3, qf115_4, qf115_5, qf115_6, qf115_7⟩ := hQ115
  have N115 := Fr.app N99 N115q
  have f118 := qf58_0.ext E63
  have f119 := f118.ext E67
  have f120 := f119.keep K70
  have f121 := f120.ext E73
  have f122 := f121.keep K92
  have f123 := f122.ext E97
  have f124 := f123.keep K99
  have f125 := f124.keep K115
  have g_b115 : n0 ≤ b115 := Nat.le_trans z116 qf115_4
  have z127 := Nat.le_trans z116 K115.1
  have o128 := o117.keep K115 (allS g_b97 all0)
  obtain ⟨cq126, kq126, q126a, q126b, q126c⟩ := isOf hZ73 rfl qf115_0
  obtain ⟨_, _, ⟨T126, L126, k126, n126⟩, -, X126, ⟨Lc126, hQ126, l126, y126, z126⟩, st126⟩ := X115.virtualBack hx (y := mN7) (z := mN7) hown73 (mvT hZ73 (own_W hw 91 rfl)) (mvT hZ73 (own_W hw 92 rfl)) (notFace_of_selects (args := #[]) (mvT hZ73 (own_W hw 94 rfl))) (mvT hZ73 (own_W hw 94 rfl)) (mvT hZ73 (own_W hw 93 rfl)) (by decide) (backOf (W := 0) (rm11_1 l Z a0 hw [] b97 b29 ((0 : Int32) + (1 : Int32)) b115 b115_1 (.ref b1) .null .null .null .null .null .null .null .null .null T115.heap n0 z127 o128 qf115_0 f125 qf115_1 qf115_2 qf115_6 qf115_7 qf115_3 g_b97 (Ne.symm (Nat.ne_of_lt (Nat.lt_of_lt_of_le qf99_0.lt qf115_4))) g_b115) hZ73 (own_W hw 95 rfl) (own_W hw 9 rfl) (by decide) (by decide)) q126a q126c (g := (mkF m 114 #[vi pi1, vi pi2, vi pi3, vi 3, vi 2, vi 0, vr b1, vr b29, vr b63, vr b97, .unset, .unset, .unset, .unset] [(.ref b29), (.ref b97)])) rfl (by rw [hml]; rfl) (Steps.refl _) (argsL := [(.ref b29)]) (rest := []) (lenOf pd_5 rfl) rfl (by show 2 * 0 + _ ≤ _; exact Nat.le_of_eq rfl) (hb hby at_114) (fun _ _ => ⟨rfl, rfl, (by decide : 14 + 0 ≤ _), (by decide : 55 + 0 ≤ _)⟩)
  dsimp only [Pt.U, Pt.locs, Pt.cells, Pt.slots] at X126 l126 y126 z126 st126 hQ126
  subst l126 y126 z126
  obtain ⟨rfl, N126q, K126, qf126_0, qf126_1, qf126_2, qf126_3, qf126_4, qf126_5⟩ := hQ126
  have N126 := Fr.app N115 N126q
  have f129 := qf92_0.ext E97
  have f130 := f129.keep K99
  have f131 := f130.keep K115
  have f132 := f131.keep K126
  have z134 := Nat.le_trans z127 K126.1
  have o135 := o128.keep K126 (allS g_b97 (allS g_b115 all0))
  obtain ⟨cq133, kq133, q133a, q133b, q133c⟩ := isOf hZ73 rfl qf126_0
  obtain ⟨_, _, ⟨T133, L133, k133, n133⟩, -, X133, ⟨Lc133, hQ133, l133, y133, z133⟩, st133⟩ := X126.virtualBack hx (y := mN7) (z := mN7) hown73 (mvT hZ73 (own_W hw 91 rfl)) (mvT hZ73 (own_W hw 92 rfl)) (notFace_of_selects (args := #[]) (mvT hZ73 (own_W hw 94 rfl))) (mvT hZ73 (own_W hw 94 rfl)) (mvT hZ73 (own_W hw 93 rfl)) (by decide) (backOf (W := 0) (rm11_2 l Z a0 hw [] b97 b63 (((0 : Int32) + (1 : Int32)) + (1 : Int32)) b115 b115_1 (.ref b1) (.ref b29) .null .null .null .null .null .null .null .null T126.heap n0 z134 o135 qf126_0 f132 qf126_1 qf126_2 qf126_4 qf126_5 qf126_3 g_b97 (Ne.symm (Nat.ne_of_lt (Nat.lt_of_lt_of_le qf99_0.lt qf115_4))) g_b115) hZ73 (own_W hw 95 rfl) (own_W hw 9 rfl) (by decide) (by decide)) q133a q133c (g := (mkF m 127 #[vi pi1, vi pi2, vi pi3, vi 3, vi 2, vi 0, vr b1, vr b29, vr b63, vr b97, .unset, .unset, .unset, .unset] [(.ref b63), (.ref b97)])) rfl (by rw [hml]; rfl) (Steps.refl _) (argsL := [(.ref b63)]) (rest := []) (lenOf pd_5 rfl) rfl (by show 2 * 0 + _ ≤ _; exact Nat.le_of_eq rfl) (hb hby at_127) (fun _ _ => ⟨rfl, rfl, (by decide : 14 + 0 ≤ _), (by decide : 55 + 0 ≤ _)⟩)
  dsimp only [Pt.U, Pt.locs, Pt.cells, Pt.slots] at X133 l133 y133 z133 st133 hQ133
  subst l133 y133 z133
  obtain ⟨rfl, N133q, K133, qf133_0, qf133_1, qf133_2, qf133_3, qf133_4, qf133_5⟩ := hQ133
  have N133 := Fr.app N126 N133q
  have f136 := qf115_5.keep K126
  obtain ⟨T137, h137, X137, e137, E137, A137, D137, -, st137⟩ := newO X133 hx hZ73 hown73 (own_W hw 1 rfl) (own_W hw 2 rfl) (own_W hw 3 rfl) rfl (g := (mkF m 131 #[vi pi1, vi pi2, vi pi3, vi 3, vi 2, vi 0, vr b1, vr b29, vr b63, vr b97, .unset, .unset, .unset, .unset] [])) rfl (hb hby at_131) (by decide) (by decide)
  obtain ⟨b137, g137⟩ : ∃ z, z = T133.heap.size := ⟨_, rfl⟩
  rw [← g137] at A137 D137 st137
  have F_operator_b137 : Fld Z h137 b137 "com/example/tyche/tyche/model/jani/Expression$Operation" "operator" "Lcom/example/tyche/tyche/model/jani/Operator;" .null := D137 (Or.inr (own_W hw 80 rfl)) (ty := (.object "com/example/tyche/tyche/model/jani/Operator")) (by decide)
  have F_operands_b137 : Fld Z h137 b137 "com/example/tyche/tyche/model/jani/Expression$Operation" "operands" "Ljava/util/List;" .null := D137 (Or.inr (own_W hw 82 rfl)) (ty := (.object "java/util/List")) (by decide)
  have F_path_b137 : Fld Z h137 b137 "com/example/tyche/tyche/model/jani/Expression$Operation" "path" "Ljava/lang/String;" .null := D137 (Or.inr (own_W hw 84 rfl)) (ty := (.object "java/lang/String")) (by decide)
  have o139 := o135.keep K133 (allS g_b97 (allS g_b115 all0))
  have o140 := o139.ext E137
  obtain ⟨T138, X138, e138, st138⟩ := getS2 X137 hx hZ73 hown73 (host := "") (Or.inl (own_W hw 120 rfl)) Via.refl e137 (S_PLUS.ext o140.2) (g := (mkF m 135 #[vi pi1, vi pi2, vi pi3, vi 3, vi 2, vi 0, vr b1, vr b29, vr b63, vr b97, .unset, .unset, .unset, .unset] [(.ref b137), (.ref b137)])) rfl (hb hby at_135)
  have z142 := Nat.le_trans z134 K133.1
  have z143 := Nat.le_trans z142 E137.1
  obtain ⟨_, _, ⟨T141, L141, k141, n141⟩, -, X141, ⟨Lc141, hQ141, l141, y141, z141⟩, st141⟩ := Jvm.LawKit.callS X138 hx (y := mN31) hown73 (mvT hZ73 (own_W hw 122 rfl)) (mvT hZ73 (own_W hw 123 rfl)) (mvT hZ73 (own_W hw 34 rfl)) (mvT hZ73 (own_W hw 124 rfl)) (by decide) (backOf (W := 4) (rm16 l Z a0 hw [] ((pi3 &&& (255 : Int32)).toUInt32.toUInt16.toUInt32.toInt32) w_COMPACT_STRINGS h137 n0 z143 o140 S_COMPACT_STRINGS hCS (own_c255 _)) hZ73 (own_W hw 124 rfl) (own_W hw 34 rfl) (by decide) (by decide)) (g := (mkF m 146 #[vi pi1, vi pi2, vi pi3, vi 3, vi 2, vi 0, vr b1, vr b29, vr b63, vr b97, .unset, .unset, .unset, .unset] [(.int ((pi3 &&& (255 : Int32)).toUInt32.toUInt16.toUInt32.toInt32)), (.ref b97), (.ref w_PLUS), (.ref b137), (.ref b137)])) rfl (by rw [hml]; rfl) (argsL := [(.int ((pi3 &&& (255 : Int32)).toUInt32.toUInt16.toUInt32.toInt32))]) (rest := [(.ref b97), (.ref w_PLUS), (.ref b137), (.ref b137)]) (lenOf pd_10 rfl) rfl (by show 2 * 0 + _ ≤ _; exact Nat.le_of_eq rfl) (hb hby at_146) (fun _ _ => ⟨rfl, e138, (by decide : 15 + 2 ≤ _), (by decide : 58 + 5 ≤ _)⟩)
  dsimp only [Pt.U, Pt.locs, Pt.cells, Pt.slots] at X141 l141 y141 z141 st141 hQ141
  subst l141 y141 z141
  obtain ⟨b141, b141_1, rfl, N141q, K141, qf141_0, qf141_1⟩ := hQ141
  have N141 := Fr.app N133 N141q
  have f144 := A137.keep K141
  have f145 := qf133_0.ext E137
  have f146 := f145.keep K141
  have f147 := qf133_2.ext E137
  have f148 := f147.keep K141 nin0
  have f149 := qf133_3.ext E137
  have f150 := f149.keep K141 nin0
  have f151 := f136.keep K133
  have f152 := f151.ext E137
  have f153 := f152.keep K141
  have f154 := qf133_4.ext E137
  have f155 := f154.keep K141 nin0
  have f156 := f114.keep K115
  have f157 := f156.keep K126
  have f158 := f157.keep K133
  have f159 := f158.ext E137
  have f160 := f159.keep K141
  have f161 := f125.keep K126
  have f162 := f161.keep K133
  have f163 := f162.ext E137
  have f164 := f163.keep K141
  have f165 := f132.keep K133
  have f166 := f165.ext E137
  have f167 := f166.keep K141
  have f168 := F_operator_b137.keep K141 nin0
  have g_b137 : n0 ≤ b137 := Nat.le_trans z142 (Nat.le_of_eq g137.symm)
  have f169 := F_operands_b137.keep K141 nin0
  have f170 := F_path_b137.keep K141 nin0
  have z172 := Nat.le_trans z143 K141.1
  have o173 := o140.keep K141 all0
  obtain ⟨_, _, ⟨T171, L171, k171, n171⟩, -, X171, ⟨Lc171, hQ171, l171, y171, z171⟩, st171⟩ := X141.specialBack hx (y := mN27) rfl hown73 (mvT hZ73 (own_W hw 41 rfl)) (mvT hZ73 (own_W hw 42 rfl)) (mvT hZ73 (own_W hw 43 rfl)) (by decide) (backOf (W := 1) (rm5_3 l Z a0 hw [] b137 w_PLUS b97 b141 w_mir b115 b115_1 b1 b29 b63 .null .null .null .null .null .null .null .null .null .null T141.heap n0 z172 o173 f144 M_mir f146 f148 f150 f153 f155 f160 f164 f167 f168 g_b137 f169 f170) hZ73 (own_W hw 43 rfl) (own_W hw 3 rfl) (by decide) (by decide)) (g := (mkF m 149 #[vi pi1, vi pi2, vi pi3, vi 3, vi 2, vi 0, vr b1, vr b29, vr b63, vr b97, .unset, .unset, .unset, .unset] [(.ref b141), (.ref b97), (.ref w_PLUS), (.ref b137), (.ref b137)])) rfl (by rw [hml]; rfl) (Steps.refl _) (a := b137) (argsL := [(.ref w_PLUS), (.ref b97), (.ref b141)]) (rest := [(.ref b137)]) (lenOf pd_1 rfl) rfl (by show 2 * 0 + _ ≤ _; exact Nat.le_of_eq rfl) (hb hby at_149) (fun _ _ => ⟨rfl, rfl, (by decide : 17 + 3 ≤ _), (by decide : 63 + 8 ≤ _)⟩)
  dsimp only [Pt.U, Pt.locs, Pt.cells, Pt.slots] at X171 l171 y171 z171 st171 hQ171
  subst l171 y171 z171
  obtain ⟨b171, b171_1, b171_2, rfl, N171q, K171, qf171_0, qf171_1, qf171_2, qf171_3, qf171_4, qf171_5, qf171_6, qf171_7, qf171_8, qf171_9, qf171_10⟩ := hQ171
  have N171 := Fr.app N141 N171q
  have f174 := f146.keep K171
  have f175 := f160.keep K171
  have f176 := qf133_1.ext E137
  have f177 := f176.keep K141 nin0
  have f178 := f177.keep K171 (ninS (Nat.ne_of_lt (Nat.lt_of_lt_of_le qf133_3.lt (Nat.le_of_eq g137.symm))) nin0)
  have f179 := f148.keep K171 (ninS (Nat.ne_of_lt (Nat.lt_of_lt_of_le qf133_3.lt (Nat.le_of_eq g137.symm))) nin0)
  have f180 := f155.keep K171 (ninS (Nat.ne_of_lt (Nat.lt_of_lt_of_le qf133_4.lt (Nat.le_of_eq g137.symm))) nin0)
  have f181 := f150.keep K171 (ninS (Nat.ne_of_lt (Nat.lt_of_lt_of_le qf133_3.lt (Nat.le_of_eq g137.symm))) nin0)
  have z183 := Nat.le_trans z172 K171.1
  have o184 := o173.keep K171 (allS g_b137 all0)
  obtain ⟨cq182, kq182, q182a, q182b, q182c⟩ := isOf hZ73 rfl f174
  obtain ⟨_, _, ⟨T182, L182, k182, n182⟩, -, X182, ⟨Lc182, hQ182, l182, y182, z182⟩, st182⟩ := X171.virtualBack hx (y := mN7) (z := mN7) hown73 (mvT hZ73 (own_W hw 91 rfl)) (mvT hZ73 (own_W hw 92 rfl)) (notFace_of_selects (args := #[]) (mvT hZ73 (own_W hw 94 rfl))) (mvT hZ73 (own_W hw 94 rfl)) (mvT hZ73 (own_W hw 93 rfl)) (by decide) (backOf (W := 0) (rm11_3 l Z a0 hw [] b97 b1 ((((0 : Int32) + (1 : Int32)) + (1 : Int32)) + (1 : Int32)) b115 b115_1 (.ref b1) (.ref b29) (.ref b63) .null .null .null .null .null .null .null T171.heap n0 z183 o184 f174 f175 f178 f179 f180 qf133_5 f181 g_b97 (Ne.symm (Nat.ne_of_lt (Nat.lt_of_lt_of_le qf99_0.lt qf115_4))) g_b115) hZ73 (own_W hw 95 rfl) (own_W hw 9 rfl) (by decide) (by decide)) q182a q182c (g := (mkF m 158 #[vi pi1, vi pi2, vi pi3, vi 3, vi 2, vi 0, vr b1, vr b29, vr b63, vr b97, vr b137, .unset, .unset, .unset] [(.ref b1), (.ref b97)])) rfl (by rw [hml]; rfl) (Steps.refl _) (argsL := [(.ref b1)]) (rest := []) (lenOf pd_5 rfl) rfl (by show 2 * 0 + _ ≤ _; exact Nat.le_of_eq rfl) (hb hby at_158) (fun _ _ => ⟨rfl, rfl, (by decide : 20 + 0 ≤ _), (by decide : 71 + 0 ≤ _)⟩)
  dsimp only [Pt.U, Pt.locs, Pt.cells, Pt.slots] at X182 l182 y182 z182 st182 hQ182
  subst l182 y182 z182
  obtain ⟨rfl, N182q, K182, qf182_0, qf182_1, qf182_2, qf182_3, qf182_4, qf182_5⟩ := hQ182
  have N182 := Fr.app N171 N182q
  have f185 := f153.keep K171
  have f186 := qf171_2.keep K182 (ninS (Ne.symm (Nat.ne_of_lt (Nat.lt_of_lt_of_le qf133_3.lt (Nat.le_of_eq g137.symm)))) (ninS (Ne.symm (Nat.ne_of_lt (Nat.lt_of_lt_of_le qf133_4.lt (Nat.le_of_eq g137.symm)))) nin0))
  have f187 := qf171_5.keep K182
  have f188 := qf171_6.keep K182 (ninS (Ne.symm (Nat.ne_of_lt (Nat.lt_of_lt_of_le f150.lt qf171_4))) (ninS (Ne.symm (Nat.ne_of_lt (Nat.lt_of_lt_of_le f155.lt qf171_4))) nin0))
  have f189 := qf171_9.keep K182 (ninS (Ne.symm (Nat.ne_of_lt (Nat.lt_of_lt_of_le f150.lt qf171_8))) (ninS (Ne.symm (Nat.ne_of_lt (Nat.lt_of_lt_of_le f155.lt qf171_8))) nin0))
  have f190 := f167.keep K171
  have f191 := f190.keep K182
  have z193 := Nat.le_trans z183 K182.1
  have o194 := o184.keep K182 (allS g_b97 (allS g_b115 all0))
  have f195 := qf171_0.keep K182
  obtain ⟨cq192, kq192, q192a, q192b, q192c⟩ := isOf hZ73 rfl f195
  obtain ⟨_, _, ⟨T192, L192, k192, n192⟩, -, X192, ⟨Lc192, hQ192, l192, y192, z192⟩, st192⟩ := X182.virtualBack hx (y := mN36) (z := mN36) hown73 (mvT hZ73 (own_W hw 204 rfl)) (mvT hZ73 (own_W hw 205 rfl)) (notFace_of_selects (args := #[]) (mvT hZ73 (own_W hw 207 rfl))) (mvT hZ73 (own_W hw 207 rfl)) (mvT hZ73 (own_W hw 206 rfl)) (by decide) (backOf (W := 0) (rm29_32 l Z a0 hw [] b137 b171 b171_1 b171_2 b1 b29 b63 T182.heap n0 z193 o194 f186 f187 f188 f189 f191) hZ73 (own_W hw 208 rfl) (own_W hw 3 rfl) (by decide) (by decide)) q192a q192c (g := (mkF m 166 #[vi pi1, vi pi2, vi pi3, vi 3, vi 2, vi 0, vr b1, vr b29, vr b63, vr b97, vr b137, .unset, .unset, .unset] [(.int 2), (.ref b137)])) rfl (by rw [hml]; rfl) (Steps.refl _) (argsL := [(.int 2)]) (rest := []) (lenOf pd_21 rfl) rfl (by show 2 * 0 + _ ≤ _; exact Nat.le_of_eq rfl) (hb hby at_166) (fun _ _ => ⟨rfl, rfl, (by decide : 20 + 0 ≤ _), (by decide : 71 + 0 ≤ _)⟩)
  dsimp only [Pt.U, Pt.locs, Pt.cells, Pt.slots] at X192 l192 y192 z192 st192 hQ192
  subst l192 y192 z192
  obtain ⟨rfl, N192q, eq192⟩ := hQ192
  have N192 := Fr.app N182 N192q
  obtain ⟨_, _, ⟨T196, L196, k196, n196⟩, -, X196, ⟨Lc196, hQ196, l196, y196, z196⟩, st196⟩ := Jvm.LawKit.callS X192 hx (y := mN39) hown73 (mvT hZ73 (own_W hw 220 rfl)) (mvT hZ73 (own_W hw 221 rfl)) (mvT hZ73 (own_W hw 222 rfl)) (mvT hZ73 (own_W hw 223 rfl)) (by decide) (backOf (W := 1) (rm31_2 l Z a0 hw [] b1 b29 b63 T182.heap n0 z193 o194 ) hZ73 (own_W hw 223 rfl) (own_W hw 222 rfl) (by decide) (by decide)) (g := (mkF m 177 #[vi pi1, vi pi2, vi pi3, vi 3, vi 2, vi 0, vr b1, vr b29, vr b63, vr b97, vr b137, .unset, .unset, .unset] [(.ref b63), (.ref b29), (.ref b1), (.int 2), (.ref b63)])) rfl (by rw [hml]; rfl) (argsL := [(.int 2), (.ref b1), (.ref b29), (.ref b63)]) (rest := [(.ref b63)]) (lenOf pd_23 rfl) rfl (by show 2 * 0 + _ ≤ _; exact Nat.le_of_eq rfl) (hb hby at_177) (fun _ _ => ⟨rfl, eq192, (by decide : 20 + 0 ≤ _), (by decide : 71 + 0 ≤ _)⟩)
  dsimp only [Pt.U, Pt.locs, Pt.cells, Pt.slots] at X196 l196 y196 z196 st196 hQ196
  subst l196 y196 z196
  obtain ⟨rfl, N196q, eq196⟩ := hQ196
  have N196 := Fr.app N192 N196q
  have f197 := f175.keep K182
  obtain ⟨cq198, kq198, q198a, q198b, q198c⟩ := isOf hZ73 eq196 f195
  obtain ⟨_, _, ⟨T198, L198, k198, n198⟩, -, X198, ⟨Lc198, hQ198, l198, y198, z198⟩, st198⟩ := X196.virtualBack hx (y := mN36) (z := mN36) hown73 (mvT hZ73 (own_W hw 204 rfl)) (mvT hZ73 (own_W hw 205 rfl)) (notFace_of_selects (args := #[]) (mvT hZ73 (own_W hw 207 rfl))) (mvT hZ73 (own_W hw 207 rfl)) (mvT hZ73 (own_W hw 206 rfl)) (by decide) (backOf (W := 0) (rm29_30 l Z a0 hw [] b137 b171 b171_1 b171_2 b1 b29 b63 T182.heap n0 z193 o194 f186 f187 f188 f189 f197) hZ73 (own_W hw 208 rfl) (own_W hw 3 rfl) (by decide) (by decide)) q198a q198c (g := (mkF m 194 #[vi pi1, vi pi2, vi pi3, vi 3, vi 2, vi 0, vr b1, vr b29, vr b63, vr b97, vr b137, vi 1, .unset, .unset] [(.int 0), (.ref b137)])) rfl (by rw [hml]; rfl) (Steps.refl _) (argsL := [(.int 0)]) (rest := []) (lenOf pd_21 rfl) rfl (by show 2 * 0 + _ ≤ _; exact Nat.le_of_eq rfl) (hb hby at_194) (fun _ _ => ⟨rfl, eq196, (by decide : 20 + 0 ≤ _), (by decide : 71 + 0 ≤ _)⟩)
  dsimp only [Pt.U, Pt.locs, Pt.cells, Pt.slots] at X198 l198 y198 z198 st198 hQ198
  subst l198 y198 z198
  obtain ⟨rfl, N198q, eq198⟩ := hQ198
  have N198 := Fr.app N196 N198q
  obtain ⟨_, _, ⟨T199, L199, k199, n199⟩, -, X199, ⟨Lc199, hQ199, l199, y199, z199⟩, st199⟩ := Jvm.LawKit.callS X198 hx (y := mN39) hown73 (mvT hZ73 (own_W hw 220 rfl)) (mvT hZ73 (own_W hw 221 rfl)) (mvT hZ73 (own_W hw 222 rfl)) (mvT hZ73 (own_W hw 223 rfl)) (by decide) (backOf (W := 1) (rm31_0 l Z a0 hw [] b1 b29 b63 T182.heap n0 z193 o194 ) hZ73 (own_W hw 223 rfl) (own_W hw 222 rfl) (by decide) (by decide)) (g := (mkF m 205 #[vi pi1, vi pi2, vi pi3, vi 3, vi 2, vi 0, vr b1, vr b29, vr b63, vr b97, vr b137, vi 1, .unset, .unset] [(.ref b63), (.ref b29), (.ref b1), (.int 0), (.ref b1)])) rfl (by rw [hml]; rfl) (argsL := [(.int 0), (.ref b1), (.ref b29), (.ref b63)]) (rest := [(.ref b1)]) (lenOf pd_23 rfl) rfl (by show 2 * 0 + _ ≤ _; exact Nat.le_of_eq rfl) (hb hby at_205) (fun _ _ => ⟨rfl, eq198, (by decide : 20 + 0 ≤ _), (by decide : 71 + 0 ≤ _)⟩)
  dsimp only [Pt.U, Pt.locs, Pt.cells, Pt.slots] at X199 l199 y199 z199 st199 hQ199
  subst l199 y199 z199
  obtain ⟨rfl, N199q, eq199⟩ := hQ199
  have N199 := Fr.app N198 N199q
  obtain ⟨cq200, kq200, q200a, q200b, q200c⟩ := isOf hZ73 eq199 f195
  obtain ⟨_, _, ⟨T200, L200, k200, n200⟩, -, X200, ⟨Lc200, hQ200, l200, y200, z200⟩, st200⟩ := X199.virtualBack hx (y := mN38) (z := mN38) hown73 (mvT hZ73 (own_W hw 224 rfl)) (mvT hZ73 (own_W hw 225 rfl)) (notFace_of_selects (args := #[]) (mvT hZ73 (own_W hw 227 rfl))) (mvT hZ73 (own_W hw 227 rfl)) (mvT hZ73 (own_W hw 226 rfl)) (by decide) (backOf (W := 0) (rm32 l Z a0 hw [] b137 b171 T182.heap n0 z193 o194 f186) hZ73 (own_W hw 228 rfl) (own_W hw 3 rfl) (by decide) (by decide)) q200a q200c (g := (mkF m 220 #[vi pi1, vi pi2, vi pi3, vi 3, vi 2, vi 0, vr b1, vr b29, vr b63, vr b97, vr b137, vi 1, vi 1, .unset] [(.ref b137)])) rfl (by rw [hml]; rfl) (Steps.refl _) (argsL := []) (rest := []) (lenOf pd_4 rfl) rfl (by show 2 * 0 + _ ≤ _; exact Nat.le_of_eq rfl) (hb hby at_220) (fun _ _ => ⟨rfl, eq199, (by decide : 20 + 0 ≤ _), (by decide : 71 + 0 ≤ _)⟩)
  dsimp only [Pt.U, Pt.locs, Pt.cells, Pt.slots] at X200 l200 y200 z200 st200 hQ200
  subst l200 y200 z200
  obtain ⟨rfl, N200q, eq200⟩ := hQ200
  have N200 := Fr.app N199 N200q
  obtain ⟨cq201, kq201, q201a, q201b, q201c⟩ := isOf hZ73 eq200 f187
  obtain ⟨_, _, ⟨T201, L201, k201, n201⟩, -, X201, ⟨Lc201, hQ201, l201, y201, z201⟩, st201⟩ := X200.interfaceBack hx (xi := mN40) (y := mN34) hown73 (mvT hZ73 (own_W hw 229 rfl)) (mvT hZ73 (own_W hw 230 rfl)) (mvT hZ73 (own_W hw 231 rfl)) (mvT hZ73 (own_W hw 265 rfl)) (mvT hZ73 (own_W hw 266 rfl)) (mvT hZ73 (own_W hw 267 rfl)) (mvT hZ73 (own_W hw 268 rfl)) (mvT hZ73 (own_W hw 263 rfl)) (by decide) (backOf (W := 0) (rm38 l Z a0 hw [] b171 b171_1 b171_2 b1 b29 b63 T182.heap n0 z193 o194 f188 f189) hZ73 (own_W hw 269 rfl) (own_W hw 246 rfl) (by decide) (by decide)) q201a q201b q201c (g := (mkF m 223 #[vi pi1, vi pi2, vi pi3, vi 3, vi 2, vi 0, vr b1, vr b29, vr b63, vr b97, vr b137, vi 1, vi 1, .unset] [(.ref b171)])) rfl (by rw [hml]; rfl) (Steps.refl _) (argsL := []) (rest := []) (lenOf pd_24 rfl) rfl (by show 2 * 0 + _ ≤ _; exact Nat.le_of_eq rfl) (hb hby at_223) (fun _ _ => ⟨rfl, eq200, (by decide : 20 + 0 ≤ _), (by decide : 71 + 0 ≤ _)⟩)
  dsimp only [Pt.U, Pt.locs, Pt.cells, Pt.slots] at X201 l201 y201 z201 st201 hQ201
  subst l201 y201 z201
  obtain ⟨rfl, N201q, eq201⟩ := hQ201
  have N201 := Fr.app N200 N201q
  have y202 := Nat.le_trans hk73 K92.1
  have y203 := Nat.le_trans y202 E97.1
  have y204 := Nat.le_trans y203 K99.1
  have y205 := Nat.le_trans y204 K115.1
  have y206 := Nat.le_trans y205 K126.1
  have y207 := Nat.le_trans y206 K133.1
  have y208 := Nat.le_trans y207 E137.1
  have y209 := Nat.le_trans y208 K141.1
  have y210 := Nat.le_trans y209 K171.1
  have y211 := Nat.le_trans y210 K182.1
  obtain ⟨fs, hr, hrun, hended, hE1, hE2, hE3, hsame⟩ := X201.leaveW hS73 (by rw [eq201]; exact y211) (v := some (.int 1)) (fun h => by rw [Bd.returns] at h; cases h) (BodyLoose.notSynchronized Bd)
  refine ⟨_, _, pre0 _ ?_, hrun, hended, _, _, rfl, ?_, ⟨_, rfl⟩, hE2, hE3, hsame.mono (by decide) (by decide)⟩
  · show Stp p e below s₁ m 0 #[vi pi1, vi pi2, vi pi3, .unset, .unset, .unset, .unset, .unset, .unset, .unset, .unset, .unset, .unset, .unset] [] _
    refine XS.iconst X0.here hx rfl (hb hby at_0) ?_
    refine XS.iloadN X0.here hx rfl (hb hby at_1) rfl ?_
    refine X0.ldcInt hx hown (mvT hZ (own_W hw 0 rfl)) (g := (mkF m 2 #[vi pi1, vi pi2, vi pi3, .unset, .unset, .unset, .unset, .unset, .unset, .unset, .unset, .unset, .unset, .unset] [(.int pi1), (.int 1)])) rfl (hb hby at_2) _ ?_
    show Stp p e below s₁ m 4 #[vi pi1, vi pi2, vi pi3, .unset, .unset, .unset, .unset, .unset, .unset, .unset, .unset, .unset, .unset, .unset] [(.int 2147483647), (.int pi1), (.int 1)] _
    refine XS.iand X0.here hx rfl (hb hby at_4) rfl ?_
    refine XS.iconst X0.here hx rfl (hb hby at_5) ?_
    refine iremM X0 hx rfl (hb hby at_6) rfl (by decide) ?_
    show Stp p e below s₁ m 7 #[vi pi1, vi pi2, vi pi3, .unset, .unset, .unset, .unset, .unset, .unset, .unset, .unset, .unset, .unset, .unset] [(.int ((pi1 &&& (2147483647 : Int32)) % (3 : Int32))), (.int 1)] _
    refine XS.iadd X0.here hx rfl (hb hby at_7) rfl ?_
    refine XS.istoreN X0.here hx rfl (hb hby at_8) rfl (l' := #[vi pi1, vi pi2, vi pi3, .val (.int ((1 : Int32) + ((pi1 &&& (2147483647 : Int32)) % (3 : Int32)))), .unset, .unset, .unset, .unset, .unset, .unset, .unset, .unset, .unset, .unset]) rfl ?_
    show Stp p e below s₁ m 9 #[vi pi1, vi pi2, vi pi3, .val (.int ((1 : Int32) + ((pi1 &&& (2147483647 : Int32)) % (3 : Int32)))), .unset, .unset, .unset, .unset, .unset, .unset, .unset, .unset, .unset, .unset] [] _
    rw [show ((1 : Int32) + ((pi1 &&& (2147483647 : Int32)) % (3 : Int32))) = (3 : Int32) from own_n3 hc8_0 hc8_1]
    show Stp p e below s₁ m 9 #[vi pi1, vi pi2, vi pi3, vi 3, .unset, .unset, .unset, .unset, .unset, .unset, .unset, .unset, .unset, .unset] [] _
    refine XS.iloadN X0.here hx rfl (hb hby at_9) rfl ?_
    refine X0.ldcInt hx hown (mvT hZ (own_W hw 0 rfl)) (g := (mkF m 10 #[vi pi1, vi pi2, vi pi3, vi 3, .unset, .unset, .unset, .unset, .unset, .unset, .unset, .unset, .unset, .unset] [(.int pi2)])) rfl (hb hby at_10) _ ?_
    show Stp p e below s₁ m 12 #[vi pi1, vi pi2, vi pi3, vi 3, .unset, .unset, .unset, .unset, .unset, .unset, .unset, .unset, .unset, .unset] [(.int 2147483647), (.int pi2)] _
    refine XS.iand X0.here hx rfl (hb hby at_12) rfl ?_
    refine XS.iloadN X0.here hx rfl (hb hby at_13) rfl ?_
    refine iremM X0 hx rfl (hb hby at_14) rfl (by decide) ?_
    show Stp p e below s₁ m 15 #[vi pi1, vi pi2, vi pi3, vi 3, .unset, .unset, .unset, .unset, .unset, .unset, .unset, .unset, .unset, .unset] [(.int ((pi2 &&& (2147483647 : Int32)) % (3 : Int32)))] _
    refine XS.istore X0.here hx rfl (hb hby at_15) rfl (l' := #[vi pi1, vi pi2, vi pi3, vi 3, .val (.int ((pi2 &&& (2147483647 : Int32)) % (3 : Int32))), .unset, .unset, .unset, .unset, .unset, .unset, .unset, .unset, .unset]) rfl ?_
    show Stp p e below s₁ m 17 #[vi pi1, vi pi2, vi pi3, vi 3, .val (.int ((pi2 &&& (2147483647 : Int32)) % (3 : Int32))), .unset, .unset, .unset, .unset, .unset, .unset, .unset, .unset, .unset] [] _
    rw [show ((pi2 &&& (2147483647 : Int32)) % (3 : Int32)) = (2 : Int32) from own_i3 hc15_2 hc15_3]
    show Stp p e below s₁ m 17 #[vi pi1, vi pi2, vi pi3, vi 3, vi 2, .unset, .unset, .unset, .unset, .unset, .unset, .unset, .unset, .unset] [] _
    refine XS.iloadN X0.here hx rfl (hb hby at_17) rfl ?_
    refine XS.iconst X0.here hx rfl (hb hby at_18) ?_
    refine XS.isub X0.here hx rfl (hb hby at_19) rfl ?_
    refine XS.iload X0.here hx rfl (hb hby at_20) rfl ?_
    refine XS.isub X0.here hx rfl (hb hby at_22) rfl ?_
    refine XS.istore X0.here hx rfl (hb hby at_23) rfl (l' := #[vi pi1, vi pi2, vi pi3, vi 3, vi 2, vi 0, .unset, .unset, .unset, .unset, .unset, .unset, .unset, .unset]) rfl ?_
    refine st1 _ ?_
    show Stp p e below T1 m 28 #[vi pi1, vi pi2, vi pi3, vi 3, vi 2, vi 0, .unset, .unset, .unset, .unset, .unset, .unset, .unset, .unset] [(.ref b1)] _
    refine XS.dup X1.here hx rfl (hb hby at_28) rfl rfl ?_
    refine st2 _ ?_
    show Stp p e below T2 m 32 #[vi pi1, vi pi2, vi pi3, vi 3, vi 2, vi 0, .unset, .unset, .unset, .unset, .unset, .unset, .unset, .unset] [(.ref w_NOT), (.ref b1), (.ref b1)] _
    refine st4 _ ?_
    show Stp p e below T4 m 35 #[vi pi1, vi pi2, vi pi3, vi 3, vi 2, vi 0, .unset, .unset, .unset, .unset, .unset, .unset, .unset, .unset] [(.ref b4), (.ref w_NOT), (.ref b1), (.ref b1)] _
    refine XS.dup X4.here hx rfl (hb hby at_35) rfl rfl ?_
    refine st6.trans ?_
    show Stp p e below T6 m 39 #[vi pi1, vi pi2, vi pi3, vi 3, vi 2, vi 0, .unset, .unset, .unset, .unset, .unset, .unset, .unset, .unset] [(.ref b4), (.ref w_NOT), (.ref b1), (.ref b1)] _
    refine st9 _ ?_
    show Stp p e below T9 m 41 #[vi pi1, vi pi2, vi pi3, vi 3, vi 2, vi 0, .unset, .unset, .unset, .unset, .unset, .unset, .unset, .unset] [(.ref sa9), (.ref b4), (.ref w_NOT), (.ref b1), (.ref b1)] _
    refine st24.trans ?_
    show Stp p e below T24 m 44 #[vi pi1, vi pi2, vi pi3, vi 3, vi 2, vi 0, .unset, .unset, .unset, .unset, .unset, .unset, .unset, .unset] [(.ref b1)] _
    refine XS.astore X24.here hx rfl (hb hby at_44) rfl rfl (l' := #[vi pi1, vi pi2, vi pi3, vi 3, vi 2, vi 0, vr b1, .unset, .unset, .unset, .unset, .unset, .unset, .unset]) rfl ?_
    refine st29 _ ?_
    show Stp p e below T29 m 49 #[vi pi1, vi pi2, vi pi3, vi 3, vi 2, vi 0, vr b1, .unset, .unset, .unset, .unset, .unset, .unset, .unset] [(.ref b29)] _
    refine XS.dup X29.here hx rfl (hb hby at_49) rfl rfl ?_
    refine st30 _ ?_
    show Stp p e below T30 m 53 #[vi pi1, vi pi2, vi pi3, vi 3, vi 2, vi 0, vr b1, .unset, .unset, .unset, .unset, .unset, .unset, .unset] [(.ref w_AND), (.ref b29), (.ref b29)] _
    refine st33 _ ?_
    show Stp p e below T33 m 56 #[vi pi1, vi pi2, vi pi3, vi 3, vi 2, vi 0, vr b1, .unset, .unset, .unset, .unset, .unset, .unset, .unset] [(.ref b33), (.ref w_AND), (.ref b29), (.ref b29)] _
    refine XS.dup X33.here hx rfl (hb hby at_56) rfl rfl ?_
    refine st36.trans ?_
    show Stp p e below T36 m 60 #[vi pi1, vi pi2, vi pi3, vi 3, vi 2, vi 0, vr b1, .unset, .unset, .unset, .unset, .unset, .unset, .unset] [(.ref b33), (.ref w_AND), (.ref b29), (.ref b29)] _
    refine st39 _ ?_
    show Stp p e below T39 m 62 #[vi pi1, vi pi2, vi pi3, vi 3, vi 2, vi 0, vr b1, .unset, .unset, .unset, .unset, .unset, .unset, .unset] [(.ref sa39), (.ref b33), (.ref w_AND), (.ref b29), (.ref b29)] _
    refine st58.trans ?_
    show Stp p e below T58 m 65 #[vi pi1, vi pi2, vi pi3, vi 3, vi 2, vi 0, vr b1, .unset, .unset, .unset, .unset, .unset, .unset, .unset] [(.ref b29)] _
    refine XS.astore X58.here hx rfl (hb hby at_65) rfl rfl (l' := #[vi pi1, vi pi2, vi pi3, vi 3, vi 2, vi 0, vr b1, vr b29, .unset, .unset, .unset, .unset, .unset, .unset]) rfl ?_
    refine st63 _ ?_
    show Stp p e below T63 m 70 #[vi pi1, vi pi2, vi pi3, vi 3, vi 2, vi 0, vr b1, vr b29, .unset, .unset, .unset, .unset, .unset, .unset] [(.ref b63)] _
    refine XS.dup X63.here hx rfl (hb hby at_70) rfl rfl ?_
    refine st64 _ ?_
    show Stp p e below T64 m 74 #[vi pi1, vi pi2, vi pi3, vi 3, vi 2, vi 0, vr b1, vr b29, .unset, .unset, .unset, .unset, .unset, .unset] [(.ref w_DERIVATIVE), (.ref b63), (.ref b63)] _
    refine st67 _ ?_
    show Stp p e below T67 m 77 #[vi pi1, vi pi2, vi pi3, vi 3, vi 2, vi 0, vr b1, vr b29, .unset, .unset, .unset, .unset, .unset, .unset] [(.ref b67), (.ref w_DERIVATIVE), (.ref b63), (.ref b63)] _
    refine XS.dup X67.here hx rfl (hb hby at_77) rfl rfl ?_
    refine st70.trans ?_
    show Stp p e below T70 m 81 #[vi pi1, vi pi2, vi pi3, vi 3, vi 2, vi 0, vr b1, vr b29, .unset, .unset, .unset, .unset, .unset, .unset] [(.ref b67), (.ref w_DERIVATIVE), (.ref b63), (.ref b63)] _
    refine st73 _ ?_
    show Stp p e below T73 m 83 #[vi pi1, vi pi2, vi pi3, vi 3, vi 2, vi 0, vr b1, vr b29, .unset, .unset, .unset, .unset, .unset, .unset] [(.ref sa73), (.ref b67), (.ref w_DERIVATIVE), (.ref b63), (.ref b63)] _
    refine st92.trans ?_
    show Stp p e below T92 m 86 #[vi pi1, vi pi2, vi pi3, vi 3, vi 2, vi 0, vr b1, vr b29, .unset, .unset, .unset, .unset, .unset, .unset] [(.ref b63)] _
    refine XS.astore X92.here hx rfl (hb hby at_86) rfl rfl (l' := #[vi pi1, vi pi2, vi pi3, vi 3, vi 2, vi 0, vr b1, vr b29, vr b63, .unset, .unset, .unset, .unset, .unset]) rfl ?_
    refine st97 _ ?_
    show Stp p e below T97 m 91 #[vi pi1, vi pi2, vi pi3, vi 3, vi 2, vi 0, vr b1, vr b29, vr b63, .unset, .unset, .unset, .unset, .unset] [(.ref b97)] _
    refine XS.dup X97.here hx rfl (hb hby at_91) rfl rfl ?_
    refine st99.trans ?_
    show Stp p e below T99 m 95 #[vi pi1, vi pi2, vi pi3, vi 3, vi 2, vi 0, vr b1, vr b29, vr b63, .unset, .unset, .unset, .unset, .unset] [(.ref b97)] _
    refine XS.astore X99.here hx rfl (hb hby at_95) rfl rfl (l' := #[vi pi1, vi pi2, vi pi3, vi 3, vi 2, vi 0, vr b1, vr b29, vr b63, vr b97, .unset, .unset, .unset, .unset]) rfl ?_
    refine XS.aload X99.here hx rfl (hb hby at_97) rfl rfl ?_
    refine XS.aload X99.here hx rfl (hb hby at_99) rfl rfl ?_
    refine st115.trans ?_
    show Stp p e below T115 m 104 #[vi pi1, vi pi2, vi pi3, vi 3, vi 2, vi 0, vr b1, vr b29, vr b63, vr b97, .unset, .unset, .unset, .unset] [(.int 1)] _
    refine XS.pop X115.here hx rfl (hb hby at_104) rfl rfl ?_
    refine XS.iloadN X115.here hx rfl (hb hby at_105) rfl ?_
    refine XS.iconst X115.here hx rfl (hb hby at_106) ?_
    refine XS.icmpNo X115.here hx rfl (hb hby at_107) rfl (flt (by decide : ¬ ((3 : Int32) < (2 : Int32)))).1 ?_
    show Stp p e below T115 m 110 #[vi pi1, vi pi2, vi pi3, vi 3, vi 2, vi 0, vr b1, vr b29, vr b63, vr b97, .unset, .unset, .unset, .unset] [] _
    refine XS.aload X115.here hx rfl (hb hby at_110) rfl rfl ?_
    refine XS.aload X115.here hx rfl (hb hby at_112) rfl rfl ?_
    refine st126.trans ?_
    show Stp p e below T126 m 117 #[vi pi1, vi pi2, vi pi3, vi 3, vi 2, vi 0, vr b1, vr b29, vr b63, vr b97, .unset, .unset, .unset, .unset] [(.int 1)] _
    refine XS.pop X126.here hx rfl (hb hby at_117) rfl rfl ?_
    refine XS.iloadN X126.here hx rfl (hb hby at_118) rfl ?_
    refine XS.iconst X126.here hx rfl (hb hby at_119) ?_
    refine XS.icmpNo X126.here hx rfl (hb hby at_120) rfl (flt (by simp : ¬ ((3 : Int32) < (3 : Int32)))).1 ?_
    show Stp p e below T126 m 123 #[vi pi1, vi pi2, vi pi3, vi 3, vi 2, vi 0, vr b1, vr b29, vr b63, vr b97, .unset, .unset, .unset, .unset] [] _
    refine XS.aload X126.here hx rfl (hb hby at_123) rfl rfl ?_
    refine XS.aload X126.here hx rfl (hb hby at_125) rfl rfl ?_
    refine st133.trans ?_
    show Stp p e below T133 m 130 #[vi pi1, vi pi2, vi pi3, vi 3, vi 2, vi 0, vr b1, vr b29, vr b63, vr b97, .unset, .unset, .unset, .unset] [(.int 1)] _
    refine XS.pop X133.here hx rfl (hb hby at_130) rfl rfl ?_
    refine st137 _ ?_
    show Stp p e below T137 m 134 #[vi pi1, vi pi2, vi pi3, vi 3, vi 2, vi 0, vr b1, vr b29, vr b63, vr b97, .unset, .unset, .unset, .unset] [(.ref b137)] _
    refine XS.dup X137.here hx rfl (hb hby at_134) rfl rfl ?_
    refine st138 _ ?_
    show Stp p e below T138 m 138 #[vi pi1, vi pi2, vi pi3, vi 3, vi 2, vi 0, vr b1, vr b29, vr b63, vr b97, .unset, .unset, .unset, .unset] [(.ref w_PLUS), (.ref b137), (.ref b137)] _
    refine XS.aload X138.here hx rfl (hb hby at_138) rfl rfl ?_
    refine XS.iloadN X138.here hx rfl (hb hby at_140) rfl ?_
    refine XS.sipush X138.here hx rfl (hb hby at_141) ?_
    refine XS.iand X138.here hx rfl (hb hby at_144) rfl ?_
    refine XS.i2c X138.here hx rfl (hb hby at_145) rfl ?_
    refine st141 _ ?_
    show Stp p e below T141 m 149 #[vi pi1, vi pi2, vi pi3, vi 3, vi 2, vi 0, vr b1, vr b29, vr b63, vr b97, .unset, .unset, .unset, .unset] [(.ref b141), (.ref b97), (.ref w_PLUS), (.ref b137), (.ref b137)] _
    refine st171.trans ?_
    show Stp p e below T171 m 152 #[vi pi1, vi pi2, vi pi3, vi 3, vi 2, vi 0, vr b1, vr b29, vr b63, vr b97, .unset, .unset, .unset, .unset] [(.ref b137)] _
    refine XS.astore X171.here hx rfl (hb hby at_152) rfl rfl (l' := #[vi pi1, vi pi2, vi pi3, vi 3, vi 2, vi 0, vr b1, vr b29, vr b63, vr b97, vr b137, .unset, .unset, .unset]) rfl ?_
    refine XS.aload X171.here hx rfl (hb hby at_154) rfl rfl ?_
    refine XS.aload X171.here hx rfl (hb hby at_156) rfl rfl ?_
    refine st182.trans ?_
    show Stp p e below T182 m 161 #[vi pi1, vi pi2, vi pi3, vi 3, vi 2, vi 0, vr b1, vr b29, vr b63, vr b97, vr b137, .unset, .unset, .unset] [(.int 1)] _
    refine XS.pop X182.here hx rfl (hb hby at_161) rfl rfl ?_
    refine XS.aload X182.here hx rfl (hb hby at_162) rfl rfl ?_
    refine XS.iload X182.here hx rfl (hb hby at_164) rfl ?_
    refine st192.trans ?_
    show Stp p e below T192 m 169 #[vi pi1, vi pi2, vi pi3, vi 3, vi 2, vi 0, vr b1, vr b29, vr b63, vr b97, vr b137, .unset, .unset, .unset] [(.ref b63)] _
    refine XS.iload X192.here hx rfl (hb hby at_169) rfl ?_
    refine XS.aload X192.here hx rfl (hb hby at_171) rfl rfl ?_
    refine XS.aload X192.here hx rfl (hb hby at_173) rfl rfl ?_
    refine XS.aload X192.here hx rfl (hb hby at_175) rfl rfl ?_
    refine st196 _ ?_
    show Stp p e below T196 m 180 #[vi pi1, vi pi2, vi pi3, vi 3, vi 2, vi 0, vr b1, vr b29, vr b63, vr b97, vr b137, .unset, .unset, .unset] [(.ref b63), (.ref b63)] _
    refine Jvm.RoadKit.acmp (g := (mkF m 180 #[vi pi1, vi pi2, vi pi3, vi 3, vi 2, vi 0, vr b1, vr b29, vr b63, vr b97, vr b137, .unset, .unset, .unset] [(.ref b63), (.ref b63)])) X196 hx rfl rfl rfl (pc0 := 180) (pc' := 183) (same := true) rfl (hb hby at_180) rfl (decide_eq_true rfl) (by decide) (by decide) ?_
    show Stp p e below T196 m 183 #[vi pi1, vi pi2, vi pi3, vi 3, vi 2, vi 0, vr b1, vr b29, vr b63, vr b97, vr b137, .unset, .unset, .unset] [] _
    refine XS.iconst X196.here hx rfl (hb hby at_183) ?_
    refine XS.goto X196.here hx rfl (pc0 := 184) (pc' := 188) rfl (hb hby at_184) (by decide) (by decide) ?_
    show Stp p e below T196 m 188 #[vi pi1, vi pi2, vi pi3, vi 3, vi 2, vi 0, vr b1, vr b29, vr b63, vr b97, vr b137, .unset, .unset, .unset] [(.int 1)] _
    refine XS.istore X196.here hx rfl (hb hby at_188) rfl (l' := #[vi pi1, vi pi2, vi pi3, vi 3, vi 2, vi 0, vr b1, vr b29, vr b63, vr b97, vr b137, vi 1, .unset, .unset]) rfl ?_
    refine XS.aload X196.here hx rfl (hb hby at_190) rfl rfl ?_
    refine XS.iload X196.here hx rfl (hb hby at_192) rfl ?_
    refine st198.trans ?_
    show Stp p e below T198 m 197 #[vi pi1, vi pi2, vi pi3, vi 3, vi 2, vi 0, vr b1, vr b29, vr b63, vr b97, vr b137, vi 1, .unset, .unset] [(.ref b1)] _
    refine XS.iload X198.here hx rfl (hb hby at_197) rfl ?_
    refine XS.aload X198.here hx rfl (hb hby at_199) rfl rfl ?_
    refine XS.aload X198.here hx rfl (hb hby at_201) rfl rfl ?_
    refine XS.aload X198.here hx rfl (hb hby at_203) rfl rfl ?_
    refine st199 _ ?_
    show Stp p e below T199 m 208 #[vi pi1, vi pi2, vi pi3, vi 3, vi 2, vi 0, vr b1, vr b29, vr b63, vr b97, vr b137, vi 1, .unset, .unset] [(.ref b1), (.ref b1)] _
    refine Jvm.RoadKit.acmp (g := (mkF m 208 #[vi pi1, vi pi2, vi pi3, vi 3, vi 2, vi 0, vr b1, vr b29, vr b63, vr b97, vr b137, vi 1, .unset, .unset] [(.ref b1), (.ref b1)])) X199 hx rfl rfl rfl (pc0 := 208) (pc' := 211) (same := true) rfl (hb hby at_208) rfl (decide_eq_true rfl) (by decide) (by decide) ?_
    show Stp p e below T199 m 211 #[vi pi1, vi pi2, vi pi3, vi 3, vi 2, vi 0, vr b1, vr b29, vr b63, vr b97, vr b137, vi 1, .unset, .unset] [] _
    refine XS.iconst X199.here hx rfl (hb hby at_211) ?_
    refine XS.goto X199.here hx rfl (pc0 := 212) (pc' := 216) rfl (hb hby at_212) (by decide) (by decide) ?_
    show Stp p e below T199 m 216 #[vi pi1, vi pi2, vi pi3, vi 3, vi 2, vi 0, vr b1, vr b29, vr b63, vr b97, vr b137, vi 1, .unset, .unset] [(.int 1)] _
    refine XS.istore X199.here hx rfl (hb hby at_216) rfl (l' := #[vi pi1, vi pi2, vi pi3, vi 3, vi 2, vi 0, vr b1, vr b29, vr b63, vr b97, vr b137, vi 1, vi 1, .unset]) rfl ?_
    refine XS.aload X199.here hx rfl (hb hby at_218) rfl rfl ?_
    refine st200.trans ?_
    show Stp p e below T200 m 223 #[vi pi1, vi pi2, vi pi3, vi 3, vi 2, vi 0, vr b1, vr b29, vr b63, vr b97, vr b137, vi 1, vi 1, .unset] [(.ref b171)] _
    refine st201.trans ?_
    show Stp p e below T201 m 228 #[vi pi1, vi pi2, vi pi3, vi 3, vi 2, vi 0, vr b1, vr b29, vr b63, vr b97, vr b137, vi 1, vi 1, .unset] [(.int 3)] _
    refine XS.iloadN X201.here hx rfl (hb hby at_228) rfl ?_
    refine XS.icmpNo X201.here hx rfl (hb hby at_229) rfl (teq (rfl : (3 : Int32) = (3 : Int32))).2 ?_
    show Stp p e below T201 m 232 #[vi pi1, vi pi2, vi pi3, vi 3, vi 2, vi 0, vr b1, vr b29, vr b63, vr b97, vr b137, vi 1, vi 1, .unset] [] _
    refine XS.iconst X201.here hx rfl (hb hby at_232) ?_
    refine XS.goto X201.here hx rfl (pc0 := 233) (pc' := 237) rfl (hb hby at_233) (by decide) (by decide) ?_
    show Stp p e below T201 m 237 #[vi pi1, vi pi2, vi pi3, vi 3, vi 2, vi 0, vr b1, vr b29, vr b63, vr b97, vr b137, vi 1, vi 1, .unset] [(.int 1)] _
    refine XS.istore X201.here hx rfl (hb hby at_237) rfl (l' := #[vi pi1, vi pi2, vi pi3, vi 3, vi 2, vi 0, vr b1, vr b29, vr b63, vr b97, vr b137, vi 1, vi 1, vi 1]) rfl ?_
    refine XS.iload X201.here hx rfl (hb hby at_239) rfl ?_
    refine XS.ifNo X201.here hx rfl (hb hby at_241) rfl ((if0 _ _).trans (feq (by decide : ¬ ((1 : Int32) = (0 : Int32)))).1) ?_
    show Stp p e below T201 m 244 #[vi pi1, vi pi2, vi pi3, vi 3, vi 2, vi 0, vr b1, vr b29, vr b63, vr b97, vr b137, vi 1, vi 1, vi 1] [] _
    refine XS.iload X201.here hx rfl (hb hby at_244) rfl ?_
    refine XS.ifNo X201.here hx rfl (hb hby at_246) rfl ((if0 _ _).trans (feq (by decide : ¬ ((1 : Int32) = (0 : Int32)))).1) ?_
    show Stp p e below T201 m 249 #[vi pi1, vi pi2, vi pi3, vi 3, vi 2, vi 0, vr b1, vr b29, vr b63, vr b97, vr b137, vi 1, vi 1, vi 1] [] _
    refine XS.iload X201.here hx rfl (hb hby at_249) rfl ?_
    refine XS.ifNo X201.here hx rfl (hb hby at_251) rfl ((if0 _ _).trans (feq (by decide : ¬ ((1 : Int32) = (0 : Int32)))).1) ?_
    show Stp p e below T201 m 254 #[vi pi1, vi pi2, vi pi3, vi 3, vi 2, vi 0, vr b1, vr b29, vr b63, vr b97, vr b137, vi 1, vi 1, vi 1] [] _
    refine XS.iconst X201.here hx rfl (hb hby at_254) ?_
    refine XS.goto X201.here hx rfl (pc0 := 255) (pc' := 259) rfl (hb hby at_255) (by decide) (by decide) ?_
    show Stp p e below T201 m 259 #[vi pi1, vi pi2, vi pi3, vi 3, vi 2, vi 0, vr b1, vr b29, vr b63, vr b97, vr b137, vi 1, vi 1, vi 1] [(.int 1)] _
    exact retN X201 hx (t := .boolean) Bd.returns (by simp) (hb hby at_259) hr
  · exact ⟨rfl, N201⟩
set_option maxRecDepth 65536 in
set_option maxHeartbeats 40000000 in
theorem rm0 (l : Launch) (Z : State) (a0 : Array Value) (hw : ∀ d ∈ tables_1, d.before a0 Z = true) (ws : List Jvm.Cond) (pi1 : Int32) (pi2 : Int32) (pi3 : Int32) (w_DEF : Addr) (kk_w_DEF : ClassId) (w_EMPTY : Addr) (w_NOT : Addr) (w_EMPTY_LIST : Addr) (w_AND : Addr) (w_DERIVATIVE : Addr) (w_PLUS : Addr) (w_COMPACT_STRINGS : Int32) (w_mir : Addr) (h0 : Heap) (n0 : Nat) (Z0 : n0 ≤ h0.size) (O0 : Old Z n0 h0) (S_DEFAULTCAPACITY_EMPTY_ELEMENTDATA : Sta Z Z.heap "java/util/ArrayList" "DEFAULTCAPACITY_EMPTY_ELEMENTDATA" "[Ljava/lang/Object;" (.ref w_DEF)) (V_w_DEF : Arv Z Z.heap w_DEF kk_w_DEF (.object "java/lang/Object") (0 : Int32) [] .null) (S_EMPTY : Sta Z Z.heap "java/util/ImmutableCollections" "EMPTY" "Ljava/lang/Object;" (.ref w_EMPTY)) (E_w_EMPTY : Exa Z Z.heap w_EMPTY "java/lang/Object") (S_NOT : Sta Z Z.heap "com/example/tyche/tyche/model/jani/Operator" "NOT" "Lcom/example/tyche/tyche/model/jani/Operator;" (.ref w_NOT)) (S_EMPTY_LIST : Sta Z Z.heap "java/util/ImmutableCollections" "EMPTY_LIST" "Ljava/util/ImmutableCollections$ListN;" (.ref w_EMPTY_LIST)) (S_AND : Sta Z Z.heap "com/example/tyche/tyche/model/jani/Operator" "AND" "Lcom/example/tyche/tyche/model/jani/Operator;" (.ref w_AND)) (S_DERIVATIVE : Sta Z Z.heap "com/example/tyche/tyche/model/jani/Operator" "DERIVATIVE" "Lcom/example/tyche/tyche/model/jani/Operator;" (.ref w_DERIVATIVE)) (S_PLUS : Sta Z Z.heap "com/example/tyche/tyche/model/jani/Operator" "PLUS" "Lcom/example/tyche/tyche/model/jani/Operator;" (.ref w_PLUS)) (S_COMPACT_STRINGS : Sta Z Z.heap "java/lang/String" "COMPACT_STRINGS" "Z" (.int w_COMPACT_STRINGS)) (hCS : ¬ (w_COMPACT_STRINGS = (0 : Int32))) (M_mir : Mir Z "[Ljava/lang/Object;" w_mir) :
    MetFree l x (head1 (Jvm.Cond.code x code maxLocals ret :: ws) room_1) (fun a U => a = #[(.int pi1), (.int pi2), (.int pi3)] ∧ Z.Warmed39 U.vm ∧ U.heap = h0) (fun _ _ _ _ _ => True) (fun _ U o U' => ∃ v L, o = .returned v ∧ Q0 v L n0 ∧ ReturnedEndW U o U' L room_1.cells room_1.slots) := by
  by_cases H1 : ((1 : Int32) + ((pi1 &&& (2147483647 : Int32)) % (3 : Int32))) = (1 : Int32)
  · exact rm0_t l Z a0 hw ws pi1 pi2 pi3 w_DEF kk_w_DEF w_EMPTY w_NOT w_EMPTY_LIST w_AND w_DERIVATIVE w_PLUS w_COMPACT_STRINGS w_mir h0 n0 Z0 O0 S_DEFAULTCAPACITY_EMPTY_ELEMENTDATA V_w_DEF S_EMPTY E_w_EMPTY S_NOT S_EMPTY_LIST S_AND S_DERIVATIVE S_PLUS S_COMPACT_STRINGS hCS M_mir H1
  · by_cases H2 : ((1 : Int32) + ((pi1 &&& (2147483647 : Int32)) % (3 : Int32))) = (2 : Int32)
    · by_cases H3 : ((pi2 &&& (2147483647 : Int32)) % (2 : Int32)) = (0 : Int32)
      · exact rm0_ftt l Z a0 hw ws pi1 pi2 pi3 w_DEF kk_w_DEF w_EMPTY w_NOT w_EMPTY_LIST w_AND w_DERIVATIVE w_PLUS w_COMPACT_STRINGS w_mir h0 n0 Z0 O0 S_DEFAULTCAPACITY_EMPTY_ELEMENTDATA V_w_DEF S_EMPTY E_w_EMPTY S_NOT S_EMPTY_LIST S_AND S_DERIVATIVE S_PLUS S_COMPACT_STRINGS hCS M_mir H1 H2 H3
      · exact rm0_ftf l Z a0 hw ws pi1 pi2 pi3 w_DEF kk_w_DEF w_EMPTY w_NOT w_EMPTY_LIST w_AND w_DERIVATIVE w_PLUS w_COMPACT_STRINGS w_mir h0 n0 Z0 O0 S_DEFAULTCAPACITY_EMPTY_ELEMENTDATA V_w_DEF S_EMPTY E_w_EMPTY S_NOT S_EMPTY_LIST S_AND S_DERIVATIVE S_PLUS S_COMPACT_STRINGS hCS M_mir H1 H2 H3
    · by_cases H4 : ((pi2 &&& (2147483647 : Int32)) % (3 : Int32)) = (0 : Int32)
      · exact rm0_fft l Z a0 hw ws pi1 pi2 pi3 w_DEF kk_w_DEF w_EMPTY w_NOT w_EMPTY_LIST w_AND w_DERIVATIVE w_PLUS w_COMPACT_STRINGS w_mir h0 n0 Z0 O0 S_DEFAULTCAPACITY_EMPTY_ELEMENTDATA V_w_DEF S_EMPTY E_w_EMPTY S_NOT S_EMPTY_LIST S_AND S_DERIVATIVE S_PLUS S_COMPACT_STRINGS hCS M_mir H1 H2 H4
      · by_cases H5 : ((pi2 &&& (2147483647 : Int32)) % (3 : Int32)) = (1 : Int32)
        · exact rm0_ffft l Z a0 hw ws pi1 pi2 pi3 w_DEF kk_w_DEF w_EMPTY w_NOT w_EMPTY_LIST w_AND w_DERIVATIVE w_PLUS w_COMPACT_STRINGS w_mir h0 n0 Z0 O0 S_DEFAULTCAPACITY_EMPTY_ELEMENTDATA V_w_DEF S_EMPTY E_w_EMPTY S_NOT S_EMPTY_LIST S_AND S_DERIVATIVE S_PLUS S_COMPACT_STRINGS hCS M_mir H1 H2 H4 H5
        · exact rm0_ffff l Z a0 hw ws pi1 pi2 pi3 w_DEF kk_w_DEF w_EMPTY w_NOT w_EMPTY_LIST w_AND w_DERIVATIVE w_PLUS w_COMPACT_STRINGS w_mir h0 n0 Z0 O0 S_DEFAULTCAPACITY_EMPTY_ELEMENTDATA V_w_DEF S_EMPTY E_w_EMPTY S_NOT S_EMPTY_LIST S_AND S_DERIVATIVE S_PLUS S_COMPACT_STRINGS hCS M_mir H1 H2 H4 H5
set_option maxRecDepth 65536 in
set_option maxHeartbeats 40000000 in
theorem comes_1 {Post : Tables → Env → Array Value → State → Outcome → State → Prop} (hpost : ∀ tb e args s v u, (limb_1_1.after args s (.returned v) u = true ∧ limb_1_2.after args s (.returned v) u = true ∧ True) → ReturnedEndW s (.returned v) u (Jvm.fieldLocs frame_1_writes args s ++ Jvm.arrayLocs frame_1_arrays args s ++ Jvm.staticLocs frame_1_statics s) 48 3264 → Post tb e args s (.returned v) u) :
    ArmFor flags0 classFile x code maxLocals ret World_1 tables_1 room_1 Calls_1 rest_1 Pre_1 Post := by
  intro l hfl _ _ p e ha hc hk s m args below hf hA hF happ hP
  obtain ⟨hcalls, hrest, hpre⟩ := hP
  obtain ⟨-, -, -, hnamed, -, -, -, hat⟩ := (Spec.applies_iff hf).mp happ
  obtain ⟨hg, hn⟩ := and_e (Cond.before_iff.mp (show (Jvm.Cond.and given_1 narrow_1).before args s = true from hpre))
  obtain ⟨g1, g2⟩ := and_e hg
  obtain ⟨g3, g4⟩ := and_e g2
  obtain ⟨g5, g6⟩ := and_e g4
  obtain ⟨w0, w1, w2, rfl⟩ : ∃ w0 w1 w2 : Value, args = #[w0, w1, w2] := by
    have hs : args.size = 3 := by simpa [Cond.value, given_1] using g1
    obtain ⟨L⟩ := args
    match L, hs with
    | [w0, w1, w2], _ => exact ⟨w0, w1, w2, rfl⟩
  have hw := fun d (hd : d ∈ tables_1) => atoms_spec (ws := Jvm.Cond.code x code maxLocals ret :: tables_1) hat d (List.mem_cons_of_mem _ hd)
  have hfit : Fit s := fun {y c} hc i hi => by
    obtain ⟨ha, rfl⟩ := Array.getElem?_eq_some_iff.mp hc
    have q := List.all_eq_true.mp ((Array.all_eq_true_iff_forall_mem.mp hF) _ (Array.getElem_mem ha)) i (List.mem_range.mpr hi)
    simpa [Array.getElem?_eq_getElem hi] using q
  obtain ⟨hsets, hown0⟩ := atoms_of _ (rest_1_c_eq ▸ (show rest_1_c.before _ s = true from hrest))
  have hr0 := Cond.before_iff.mp hown0
  obtain ⟨i0, ei0⟩ := is_v g3
  obtain rfl : w0 = (.int i0) := Option.some.inj ei0
  obtain ⟨i1, ei1⟩ := is_v g5
  obtain rfl : w1 = (.int i1) := Option.some.inj ei1
  obtain ⟨i2, ei2⟩ := is_v g6
  obtain rfl : w2 = (.int i2) := Option.some.inj ei2
  obtain ⟨nn1, nr1⟩ := and_e hn
  obtain ⟨nn2, nr2⟩ := and_e nr1
  obtain ⟨nn3, nr3⟩ := and_e nr2
  obtain ⟨w_NOT, ev_NOT⟩ := exa_v nn1
  have S_NOT : Sta s s.heap "com/example/tyche/tyche/model/jani/Operator" "NOT" "Lcom/example/tyche/tyche/model/jani/Operator;" (.ref w_NOT) := Sta.start ev_NOT (Or.inr ⟨(own_W hw 5 rfl), (own_W hw 6 rfl)⟩)
  have E_w_NOT : Exa s s.heap w_NOT "com/example/tyche/tyche/model/jani/Operator" := Exa.start ev_NOT nn1
  obtain ⟨w_AND, ev_AND⟩ := exa_v nn2
  have S_AND : Sta s s.heap "com/example/tyche/tyche/model/jani/Operator" "AND" "Lcom/example/tyche/tyche/model/jani/Operator;" (.ref w_AND) := Sta.start ev_AND (Or.inr ⟨(own_W hw 5 rfl), (own_W hw 86 rfl)⟩)
  have E_w_AND : Exa s s.heap w_AND "com/example/tyche/tyche/model/jani/Operator" := Exa.start ev_AND nn2
  obtain ⟨w_DERIVATIVE, ev_DERIVATIVE⟩ := exa_v nn3
  have S_DERIVATIVE : Sta s s.heap "com/example/tyche/tyche/model/jani/Operator" "DERIVATIVE" "Lcom/example/tyche/tyche/model/jani/Operator;" (.ref w_DERIVATIVE) := Sta.start ev_DERIVATIVE (Or.inr ⟨(own_W hw 5 rfl), (own_W hw 89 rfl)⟩)
  have E_w_DERIVATIVE : Exa s s.heap w_DERIVATIVE "com/example/tyche/tyche/model/jani/Operator" := Exa.start ev_DERIVATIVE nn3
  obtain ⟨w_PLUS, ev_PLUS⟩ := exa_v nr3
  have S_PLUS : Sta s s.heap "com/example/tyche/tyche/model/jani/Operator" "PLUS" "Lcom/example/tyche/tyche/model/jani/Operator;" (.ref w_PLUS) := Sta.start ev_PLUS (Or.inr ⟨(own_W hw 5 rfl), (own_W hw 121 rfl)⟩)
  have E_w_PLUS : Exa s s.heap w_PLUS "com/example/tyche/tyche/model/jani/Operator" := Exa.start ev_PLUS nr3
  obtain ⟨w_DEF, ev_D⟩ := exa_v (Cond.before_iff.mp (hsets _ (List.mem_of_getElem? (i := 7) rfl)))
  have S_DEFAULTCAPACITY_EMPTY_ELEMENTDATA : Sta s s.heap "java/util/ArrayList" "DEFAULTCAPACITY_EMPTY_ELEMENTDATA" "[Ljava/lang/Object;" (.ref w_DEF) := Sta.start ev_D (Or.inr ⟨(own_W hw 9 rfl), (hsets _ (List.mem_of_getElem? (i := 2) rfl))⟩)
  obtain ⟨cl_D, Ar_D⟩ := Arr.start ev_D (Cond.before_iff.mp (hsets _ (List.mem_of_getElem? (i := 6) rfl)))
  have ln_D := own_len ev_D (Ar_D.fin (Vm.Alike.refl _)) (own_eqv (Cond.before_iff.mp (hsets _ (List.mem_of_getElem? (i := 8) rfl))) (Term.int_eval (0)))
  obtain ⟨kk_w_DEF, hkk_D⟩ : ∃ z, z = cl_D.cls := ⟨_, rfl⟩
  have V_w_DEF : Arv s s.heap w_DEF kk_w_DEF (.object "java/lang/Object") (0 : Int32) [] .null := hkk_D ▸ Arv.start hfit Ar_D ln_D.1 ln_D.2 (by decide) rfl trivial
  obtain ⟨w_EMPTY_LIST, ev_L⟩ := exa_v (Cond.before_iff.mp (hsets _ (List.mem_of_getElem? (i := 11) rfl)))
  have S_EMPTY_LIST : Sta s s.heap "java/util/ImmutableCollections" "EMPTY_LIST" "Ljava/util/ImmutableCollections$ListN;" (.ref w_EMPTY_LIST) := Sta.start ev_L (Or.inl (hsets _ (List.mem_of_getElem? (i := 10) rfl)))
  obtain ⟨w_EMPTY, ev_E⟩ := exa_v (Cond.before_iff.mp (hsets _ (List.mem_of_getElem? (i := 27) rfl)))
  have S_EMPTY : Sta s s.heap "java/util/ImmutableCollections" "EMPTY" "Ljava/lang/Object;" (.ref w_EMPTY) := Sta.start ev_E (Or.inl (hsets _ (List.mem_of_getElem? (i := 26) rfl)))
  have E_w_EMPTY : Exa s s.heap w_EMPTY "java/lang/Object" := Exa.start ev_E (Cond.before_iff.mp (hsets _ (List.mem_of_getElem? (i := 27) rfl)))
  obtain ⟨w_COMPACT_STRINGS, ev_C⟩ := is_v (Cond.before_iff.mp (hsets _ (List.mem_of_getElem? (i := 17) rfl)))
  have S_COMPACT_STRINGS : Sta s s.heap "java/lang/String" "COMPACT_STRINGS" "Z" (.int w_COMPACT_STRINGS) := Sta.start ev_C (Or.inl (hsets _ (List.mem_of_getElem? (i := 16) rfl)))
  have hCS : ¬ (w_COMPACT_STRINGS = (0 : Int32)) := own_ni (not_v (Cond.before_iff.mp (hsets _ (List.mem_of_getElem? (i := 18) rfl)))) ev_C (Term.int_eval (0))
  obtain ⟨w_mir, M_mir⟩ : ∃ w, Mir s "[Ljava/lang/Object;" w := by
    obtain ⟨⟨mc, mk, mm, h1, h2, h3, h4⟩, -⟩ := hcalls
    exact ⟨mm, mc, mk, h1, h2, h3, h4⟩
  obtain ⟨n, o, h1, h2, h3, _, L, rfl, ⟨rfl, N⟩, hq⟩ := rm0 l s _ hw tables_1 i0 i1 i2 w_DEF kk_w_DEF w_EMPTY w_NOT w_EMPTY_LIST w_AND w_DERIVATIVE w_PLUS w_COMPACT_STRINGS w_mir s.heap s.heap.size (Nat.le_refl _) (Old.start s) S_DEFAULTCAPACITY_EMPTY_ELEMENTDATA V_w_DEF S_EMPTY E_w_EMPTY S_NOT S_EMPTY_LIST S_AND S_DERIVATIVE S_PLUS S_COMPACT_STRINGS hCS M_mir p e ha hc hk s m _ below hf ((Spec.applies_iff_loose hf).mp happ).1 ⟨rfl, State.Warmed39.refl s, rfl⟩ trivial
  refine ⟨n, _, h1, h2, h3, hpost _ _ _ _ _ _ ⟨Cond.after_iff.mpr rfl, Cond.after_iff.mpr (eq_i res_at (Term.int_eval (1)) rfl), trivial⟩ ⟨hq.1, hq.2.1, hq.2.2.1, (hq.2.2.2.sift fun y hy => Or.inr (N y hy)).mono (by decide) (by decide)⟩⟩
theorem main_1_1 : Claimed_1_1 := comes_1 fun _ _ _ _ _ _ h hF => ⟨h.1, hF⟩
theorem main_1_2 : Claimed_1_2 := comes_1 fun _ _ _ _ _ _ h hF => ⟨h.2.1, hF⟩
end Jvm.Pilot.@@N@@
namespace Jvm.Pilot.@@N@@
open Jvm Jvm.ClassFile Sem Op Lib Jvm.Free Jvm.Stand Jvm.Pilot.@@N@@.Jvm.D
/-! MADE BY PROGRAM (witnessworld.py) out of the Statement's table words and the real class files: 40 classes; the members and pool entries that the words name. The judged class is class 1, her method 2. -/
namespace start1
open Jvm.ClassFile
def u (s : String) : CpInfo := .utf8 (stringToUtf16 s)
/-- a pool by its gaps: so many unusable entries, then the entry; so many at the end -/
def gap : Nat → List CpInfo → List CpInfo
  | 0, r => r
  | n + 1, r => .unusable :: gap n r
def poolList (es : List (Nat × CpInfo)) (last : Nat) : List CpInfo := es.foldr (fun e r => gap e.1 (e.2 :: r)) (gap last [])
def pool (es : List (Nat × CpInfo)) (last : Nat) : Array CpInfo := ⟨poolList es last⟩
def fileOf (pool : Array CpInfo) (this : Nat) (attrs : Array Attribute := #[]) (ms : Array MethodInfo := #[]) (fl : Nat := 33) (sup : Nat := 0) (ifs : Array Nat := #[]) (fds : Array FieldInfo := #[]) : ClassFile where
  minorVersion := 0
  majorVersion := 65
  constantPool := pool
  accessFlags := fl
  thisClass := this
  superClass := sup
  interfaces := ifs
  fields := fds
  methods := ms
  attributes := attrs
def plain (name : String) (sup : Option ClassId) : Class where
  name := name
  kind := .ordinary
  loader := none
  accessFlags := 33
  super := sup
  interfaces := #[]
  cf := none
  fields := #[]
  methods := #[]
  instanceTypes := #[]
  staticTypes := #[]
  resolved := #[]
  callSites := []
  init := .initialized
  statics := none
  mirror := none

def pool0 : Array CpInfo := pool [(5, u "<init>"), (0, u "()V"), (1, .class_ 10), (1, u "java/lang/Object"), (0, u "getClass"), (0, u "()Ljava/lang/Class;")] 111

def k0c0 : Code := { maxStack := 0, maxLocals := 1, code := object_method_1_code, exceptionTable := #[], attributes := #[] }
def k0m0 : Method := { name := "<init>", desc := "()V", sig := { parameters := [], returnType := none }, accessFlags := 1, code := some k0c0 }
def k0m1 : Method := { name := "getClass", desc := "()Ljava/lang/Class;", sig := { parameters := [], returnType := some (.object "java/lang/Class") }, accessFlags := 273, code := none }
/-- java/lang/Object -/
def k0 : Class := { plain "java/lang/Object" none with
  accessFlags := 33
  interfaces := #[]
  cf := some (fileOf pool0 8 #[] #[{ accessFlags := 1, nameIndex := 5, descriptorIndex := 6, attributes := #[] }, { accessFlags := 273, nameIndex := 11, descriptorIndex := 12, attributes := #[] }] 33 0 #[] #[])
  fields := #[]
  methods := #[k0m0, k0m1]
  instanceTypes := #[]
  staticTypes := #[]
  resolved := Array.replicate 124 none
  statics := none }

def pool1 : Array CpInfo := pool [(2, .class_ 4), (0, .nameAndType 5 6), (0, u "java/lang/Object"), (0, u "<init>"), (0, u "()V"), (0, .integer 2147483647), (0, .class_ 9), (0, u "com/example/tyche/tyche/model/jani/Expression$Operation"), (0, .fieldref 11 12), (0, .class_ 13), (0, .nameAndType 14 15), (0, u "com/example/tyche/tyche/model/jani/Operator"), (0, u "NOT"), (0, u "Lcom/example/tyche/tyche/model/jani/Operator;"), (0, .class_ 17), (0, u "java/util/ArrayList"), (0, .methodref 16 3), (0, .string 20), (0, u "a"), (0, .methodref 8 22), (0, .nameAndType 5 23), (0, u "(Lcom/example/tyche/tyche/model/jani/Operator;Ljava/util/List;Ljava/lang/String;)V"), (0, .fieldref 11 25), (0, .nameAndType 26 15), (0, u "AND"), (0, .string 28), (0, u "b"), (0, .fieldref 11 30), (0, .nameAndType 31 15), (0, u "DERIVATIVE"), (0, .string 33), (0, u "c"), (0, .methodref 16 35), (0, .nameAndType 36 37), (0, u "add"), (0, u "(Ljava/lang/Object;)Z"), (0, .fieldref 11 39), (0, .nameAndType 40 15), (0, u "PLUS"), (0, .methodref 42 43), (0, .class_ 44), (0, .nameAndType 45 46), (0, u "java/lang/String"), (0, u "valueOf"), (0, u "(C)Ljava/lang/String;"), (0, .methodref 8 48), (0, .nameAndType 49 50), (0, u "operand"), (0, u "(I)Lcom/example/tyche/tyche/model/jani/Expression;"), (0, .methodref 52 53), (0, .class_ 54), (0, .nameAndType 55 56), (0, u "com/example/tyche/tyche/model/jani/OperationOperandPinLaw"), (0, u "pick"), (0, u "(ILcom/example/tyche/tyche/model/jani/Expression;Lcom/example/tyche/tyche/model/jani/Expression;Lcom/example/tyche/tyche/model/jani/Expression;)Lcom/example/tyche/tyche/model/jani/Expression;"), (0, .methodref 8 58), (0, .nameAndType 59 60), (0, u "operands"), (0, u "()Ljava/util/List;"), (0, .interfaceMethodref 62 63), (0, .class_ 64), (0, .nameAndType 65 66), (0, u "java/util/List"), (0, u "size"), (0, u "()I"), (3, u "law"), (0, u "(III)Z")] 6

def k1m0 : Method := { name := "<init>", desc := "()V", sig := { parameters := [], returnType := none }, accessFlags := 1, code := none }
def k1c1 : Code := { maxStack := 2, maxLocals := 4, code := method_2_code, exceptionTable := #[], attributes := #[] }
def k1m1 : Method := { name := "pick", desc := "(ILcom/example/tyche/tyche/model/jani/Expression;Lcom/example/tyche/tyche/model/jani/Expression;Lcom/example/tyche/tyche/model/jani/Expression;)Lcom/example/tyche/tyche/model/jani/Expression;", sig := { parameters := [.int, (.object "com/example/tyche/tyche/model/jani/Expression"), (.object "com/example/tyche/tyche/model/jani/Expression"), (.object "com/example/tyche/tyche/model/jani/Expression")], returnType := some (.object "com/example/tyche/tyche/model/jani/Expression") }, accessFlags := 10, code := some k1c1 }
def k1c2 : Code := { maxStack := 6, maxLocals := 14, code := code, exceptionTable := #[], attributes := #[] }
def k1m2 : Method := { name := "law", desc := "(III)Z", sig := { parameters := [.int, .int, .int], returnType := some .boolean }, accessFlags := 9, code := some k1c2 }
/-- com/example/tyche/tyche/model/jani/OperationOperandPinLaw -/
def k1 : Class := { plain "com/example/tyche/tyche/model/jani/OperationOperandPinLaw" (some 0) with
  accessFlags := 49
  interfaces := #[]
  cf := some (fileOf pool1 52 #[] #[{ accessFlags := 1, nameIndex := 5, descriptorIndex := 6, attributes := #[] }, { accessFlags := 10, nameIndex := 55, descriptorIndex := 56, attributes := #[] }, { accessFlags := 9, nameIndex := 70, descriptorIndex := 71, attributes := #[] }] 49 2 #[] #[])
  fields := #[]
  methods := #[k1m0, k1m1, k1m2]
  instanceTypes := #[]
  staticTypes := #[]
  resolved := Array.replicate 78 none
  statics := none }

def pool2 : Array CpInfo := pool [(1, .methodref 2 3), (0, .class_ 4), (0, .nameAndType 5 6), (0, u "java/lang/Object"), (0, u "<init>"), (0, u "()V"), (0, .class_ 8), (0, u "java/lang/Record")] 13

def k2c0 : Code := { maxStack := 1, maxLocals := 1, code := jdk_30_method_1_code, exceptionTable := #[], attributes := #[] }
def k2m0 : Method := { name := "<init>", desc := "()V", sig := { parameters := [], returnType := none }, accessFlags := 4, code := some k2c0 }
/-- java/lang/Record -/
def k2 : Class := { plain "java/lang/Record" (some 0) with
  accessFlags := 1057
  interfaces := #[]
  cf := some (fileOf pool2 7 #[] #[{ accessFlags := 4, nameIndex := 5, descriptorIndex := 6, attributes := #[] }] 1057 2 #[] #[])
  fields := #[]
  methods := #[k2m0]
  instanceTypes := #[]
  staticTypes := #[]
  resolved := Array.replicate 22 none
  statics := none }

def pool3 : Array CpInfo := pool [(1, .class_ 2), (0, u "com/example/tyche/tyche/model/jani/Expression"), (0, .class_ 4), (0, u "java/lang/Object"), (5, .class_ 11), (0, u "com/example/tyche/tyche/model/jani/Expression$Operation"), (0, .class_ 13), (0, u "com/example/tyche/tyche/model/jani/Expression$Variable"), (0, .class_ 15), (0, u "com/example/tyche/tyche/model/jani/Expression$Bool"), (0, .class_ 17), (0, u "com/example/tyche/tyche/model/jani/Expression$Number")] 6

/-- com/example/tyche/tyche/model/jani/Expression -/
def k3 : Class := { plain "com/example/tyche/tyche/model/jani/Expression" (some 0) with
  accessFlags := 1536
  interfaces := #[]
  cf := some (fileOf pool3 1 #[.nestMembers #[10, 12, 14, 16]] #[] 1536 3 #[] #[])
  fields := #[]
  methods := #[]
  instanceTypes := #[]
  staticTypes := #[]
  resolved := Array.replicate 24 none
  statics := none }

def pool4 : Array CpInfo := pool [(1, .methodref 2 3), (0, .class_ 4), (0, .nameAndType 5 6), (0, u "java/lang/Record"), (0, u "<init>"), (0, u "()V"), (0, .interfaceMethodref 8 9), (0, .class_ 10), (0, .nameAndType 11 12), (0, u "java/util/List"), (0, u "copyOf"), (0, u "(Ljava/util/Collection;)Ljava/util/List;"), (0, .fieldref 14 15), (0, .class_ 16), (0, .nameAndType 17 18), (0, u "com/example/tyche/tyche/model/jani/Expression$Operation"), (0, u "operator"), (0, u "Lcom/example/tyche/tyche/model/jani/Operator;"), (0, .fieldref 14 20), (0, .nameAndType 21 22), (0, u "operands"), (0, u "Ljava/util/List;"), (0, .fieldref 14 24), (0, .nameAndType 25 26), (0, u "path"), (0, u "Ljava/lang/String;"), (0, .interfaceMethodref 8 28), (0, .nameAndType 29 30), (0, u "get"), (0, u "(I)Ljava/lang/Object;"), (0, .class_ 32), (0, u "com/example/tyche/tyche/model/jani/Expression"), (14, u "(Lcom/example/tyche/tyche/model/jani/Operator;Ljava/util/List;Ljava/lang/String;)V"), (4, u "operand"), (0, u "(I)Lcom/example/tyche/tyche/model/jani/Expression;"), (4, u "()Ljava/util/List;")] 25

def k4c0 : Code := { maxStack := 2, maxLocals := 4, code := prog_67_method_1_code, exceptionTable := #[], attributes := #[] }
def k4m0 : Method := { name := "<init>", desc := "(Lcom/example/tyche/tyche/model/jani/Operator;Ljava/util/List;Ljava/lang/String;)V", sig := { parameters := [(.object "com/example/tyche/tyche/model/jani/Operator"), (.object "java/util/List"), (.object "java/lang/String")], returnType := none }, accessFlags := 1, code := some k4c0 }
def k4c1 : Code := { maxStack := 2, maxLocals := 2, code := prog_67_method_2_code, exceptionTable := #[], attributes := #[] }
def k4m1 : Method := { name := "operand", desc := "(I)Lcom/example/tyche/tyche/model/jani/Expression;", sig := { parameters := [.int], returnType := some (.object "com/example/tyche/tyche/model/jani/Expression") }, accessFlags := 0, code := some k4c1 }
def k4c2 : Code := { maxStack := 1, maxLocals := 1, code := prog_67_method_7_code, exceptionTable := #[], attributes := #[] }
def k4m2 : Method := { name := "operands", desc := "()Ljava/util/List;", sig := { parameters := [], returnType := some (.object "java/util/List") }, accessFlags := 1, code := some k4c2 }
/-- com/example/tyche/tyche/model/jani/Expression$Operation -/
def k4 : Class := { plain "com/example/tyche/tyche/model/jani/Expression$Operation" (some 2) with
  accessFlags := 49
  interfaces := #[3]
  cf := some (fileOf pool4 14 #[.nestHost 31] #[{ accessFlags := 1, nameIndex := 5, descriptorIndex := 47, attributes := #[] }, { accessFlags := 0, nameIndex := 52, descriptorIndex := 53, attributes := #[] }, { accessFlags := 1, nameIndex := 21, descriptorIndex := 58, attributes := #[] }] 49 2 #[31] #[{ accessFlags := 18, nameIndex := 17, descriptorIndex := 18, attributes := #[] }, { accessFlags := 18, nameIndex := 21, descriptorIndex := 22, attributes := #[] }, { accessFlags := 18, nameIndex := 25, descriptorIndex := 26, attributes := #[] }])
  fields := #[{ name := "operator", type := (.object "com/example/tyche/tyche/model/jani/Operator"), accessFlags := 18, slot := 0, constantValue := 0 }, { name := "operands", type := (.object "java/util/List"), accessFlags := 18, slot := 1, constantValue := 0 }, { name := "path", type := (.object "java/lang/String"), accessFlags := 18, slot := 2, constantValue := 0 }]
  methods := #[k4m0, k4m1, k4m2]
  instanceTypes := #[(.object "com/example/tyche/tyche/model/jani/Operator"), (.object "java/util/List"), (.object "java/lang/String")]
  staticTypes := #[]
  resolved := Array.replicate 84 none
  statics := none }

def pool5 : Array CpInfo := pool [(1, .class_ 2), (0, u "java/lang/constant/Constable"), (0, .class_ 4), (0, u "java/lang/Object")] 6

/-- java/lang/constant/Constable -/
def k5 : Class := { plain "java/lang/constant/Constable" (some 0) with
  accessFlags := 1537
  interfaces := #[]
  cf := some (fileOf pool5 1 #[] #[] 1537 3 #[] #[])
  fields := #[]
  methods := #[]
  instanceTypes := #[]
  staticTypes := #[]
  resolved := Array.replicate 11 none
  statics := none }

def pool6 : Array CpInfo := pool [(1, .class_ 2), (0, u "java/lang/Comparable"), (0, .class_ 4), (0, u "java/lang/Object")] 7

/-- java/lang/Comparable -/
def k6 : Class := { plain "java/lang/Comparable" (some 0) with
  accessFlags := 1537
  interfaces := #[]
  cf := some (fileOf pool6 1 #[] #[] 1537 3 #[] #[])
  fields := #[]
  methods := #[]
  instanceTypes := #[]
  staticTypes := #[]
  resolved := Array.replicate 12 none
  statics := none }

def pool7 : Array CpInfo := pool [(1, .class_ 2), (0, u "java/io/Serializable"), (0, .class_ 4), (0, u "java/lang/Object")] 2

/-- java/io/Serializable -/
def k7 : Class := { plain "java/io/Serializable" (some 0) with
  accessFlags := 1537
  interfaces := #[]
  cf := some (fileOf pool7 1 #[] #[] 1537 3 #[] #[])
  fields := #[]
  methods := #[]
  instanceTypes := #[]
  staticTypes := #[]
  resolved := Array.replicate 7 none
  statics := none }

def pool8 : Array CpInfo := pool [(2, .class_ 4), (1, u "java/lang/Enum"), (0, u "name"), (0, u "Ljava/lang/String;"), (2, u "ordinal"), (0, u "I"), (1, .class_ 14), (1, u "java/lang/Object"), (4, u "hash"), (86, .class_ 108), (1, u "java/lang/Enum$EnumDesc"), (2, .class_ 112), (0, u "java/lang/constant/Constable"), (0, .class_ 114), (0, u "java/lang/Comparable"), (0, .class_ 116), (0, u "java/io/Serializable")] 87

/-- java/lang/Enum -/
def k8 : Class := { plain "java/lang/Enum" (some 0) with
  accessFlags := 1057
  interfaces := #[5, 6, 7]
  cf := some (fileOf pool8 2 #[.nestMembers #[106]] #[] 1057 12 #[111, 113, 115] #[{ accessFlags := 18, nameIndex := 5, descriptorIndex := 6, attributes := #[] }, { accessFlags := 18, nameIndex := 9, descriptorIndex := 10, attributes := #[] }, { accessFlags := 2, nameIndex := 19, descriptorIndex := 10, attributes := #[] }])
  fields := #[{ name := "name", type := (.object "java/lang/String"), accessFlags := 18, slot := 0, constantValue := 0 }, { name := "ordinal", type := .int, accessFlags := 18, slot := 1, constantValue := 0 }, { name := "hash", type := .int, accessFlags := 2, slot := 2, constantValue := 0 }]
  methods := #[]
  instanceTypes := #[(.object "java/lang/String"), .int, .int]
  staticTypes := #[]
  resolved := Array.replicate 204 none
  statics := none }

def pool9 : Array CpInfo := pool [(1, .class_ 2), (0, u "com/example/tyche/tyche/model/jani/Operator"), (2, u "AND"), (0, u "Lcom/example/tyche/tyche/model/jani/Operator;"), (2, u "OR"), (2, u "NOT"), (2, u "EQUAL"), (2, u "LESS"), (2, u "LESS_OR_EQUAL"), (2, u "GREATER"), (2, u "GREATER_OR_EQUAL"), (2, u "PLUS"), (2, u "MINUS"), (2, u "TIMES"), (2, u "DIVIDE"), (2, u "DERIVATIVE"), (2, u "$VALUES"), (0, u "[Lcom/example/tyche/tyche/model/jani/Operator;"), (6, .class_ 55), (1, u "java/lang/Enum"), (8, u "symbol"), (0, u "Ljava/lang/String;"), (8, u "operands"), (0, u "Ljava/util/List;")] 123

/-- com/example/tyche/tyche/model/jani/Operator -/
def k9 : Class := { plain "com/example/tyche/tyche/model/jani/Operator" (some 8) with
  accessFlags := 16432
  interfaces := #[]
  cf := some (fileOf pool9 1 #[] #[] 16432 53 #[] #[{ accessFlags := 16409, nameIndex := 5, descriptorIndex := 6, attributes := #[] }, { accessFlags := 16409, nameIndex := 9, descriptorIndex := 6, attributes := #[] }, { accessFlags := 16409, nameIndex := 12, descriptorIndex := 6, attributes := #[] }, { accessFlags := 16409, nameIndex := 15, descriptorIndex := 6, attributes := #[] }, { accessFlags := 16409, nameIndex := 18, descriptorIndex := 6, attributes := #[] }, { accessFlags := 16409, nameIndex := 21, descriptorIndex := 6, attributes := #[] }, { accessFlags := 16409, nameIndex := 24, descriptorIndex := 6, attributes := #[] }, { accessFlags := 16409, nameIndex := 27, descriptorIndex := 6, attributes := #[] }, { accessFlags := 16409, nameIndex := 30, descriptorIndex := 6, attributes := #[] }, { accessFlags := 16409, nameIndex := 33, descriptorIndex := 6, attributes := #[] }, { accessFlags := 16409, nameIndex := 36, descriptorIndex := 6, attributes := #[] }, { accessFlags := 16409, nameIndex := 39, descriptorIndex := 6, attributes := #[] }, { accessFlags := 16409, nameIndex := 42, descriptorIndex := 6, attributes := #[] }, { accessFlags := 18, nameIndex := 64, descriptorIndex := 65, attributes := #[] }, { accessFlags := 18, nameIndex := 74, descriptorIndex := 75, attributes := #[] }, { accessFlags := 4122, nameIndex := 45, descriptorIndex := 46, attributes := #[] }])
  fields := #[{ name := "AND", type := (.object "com/example/tyche/tyche/model/jani/Operator"), accessFlags := 16409, slot := 0, constantValue := 0 }, { name := "OR", type := (.object "com/example/tyche/tyche/model/jani/Operator"), accessFlags := 16409, slot := 1, constantValue := 0 }, { name := "NOT", type := (.object "com/example/tyche/tyche/model/jani/Operator"), accessFlags := 16409, slot := 2, constantValue := 0 }, { name := "EQUAL", type := (.object "com/example/tyche/tyche/model/jani/Operator"), accessFlags := 16409, slot := 3, constantValue := 0 }, { name := "LESS", type := (.object "com/example/tyche/tyche/model/jani/Operator"), accessFlags := 16409, slot := 4, constantValue := 0 }, { name := "LESS_OR_EQUAL", type := (.object "com/example/tyche/tyche/model/jani/Operator"), accessFlags := 16409, slot := 5, constantValue := 0 }, { name := "GREATER", type := (.object "com/example/tyche/tyche/model/jani/Operator"), accessFlags := 16409, slot := 6, constantValue := 0 }, { name := "GREATER_OR_EQUAL", type := (.object "com/example/tyche/tyche/model/jani/Operator"), accessFlags := 16409, slot := 7, constantValue := 0 }, { name := "PLUS", type := (.object "com/example/tyche/tyche/model/jani/Operator"), accessFlags := 16409, slot := 8, constantValue := 0 }, { name := "MINUS", type := (.object "com/example/tyche/tyche/model/jani/Operator"), accessFlags := 16409, slot := 9, constantValue := 0 }, { name := "TIMES", type := (.object "com/example/tyche/tyche/model/jani/Operator"), accessFlags := 16409, slot := 10, constantValue := 0 }, { name := "DIVIDE", type := (.object "com/example/tyche/tyche/model/jani/Operator"), accessFlags := 16409, slot := 11, constantValue := 0 }, { name := "DERIVATIVE", type := (.object "com/example/tyche/tyche/model/jani/Operator"), accessFlags := 16409, slot := 12, constantValue := 0 }, { name := "symbol", type := (.object "java/lang/String"), accessFlags := 18, slot := 3, constantValue := 0 }, { name := "operands", type := (.object "java/util/List"), accessFlags := 18, slot := 4, constantValue := 0 }, { name := "$VALUES", type := (.array (.object "com/example/tyche/tyche/model/jani/Operator")), accessFlags := 4122, slot := 13, constantValue := 0 }]
  methods := #[]
  instanceTypes := #[(.object "java/lang/String"), .int, .int, (.object "java/lang/String"), (.object "java/util/List")]
  staticTypes := #[(.object "com/example/tyche/tyche/model/jani/Operator"), (.object "com/example/tyche/tyche/model/jani/Operator"), (.object "com/example/tyche/tyche/model/jani/Operator"), (.object "com/example/tyche/tyche/model/jani/Operator"), (.object "com/example/tyche/tyche/model/jani/Operator"), (.object "com/example/tyche/tyche/model/jani/Operator"), (.object "com/example/tyche/tyche/model/jani/Operator"), (.object "com/example/tyche/tyche/model/jani/Operator"), (.object "com/example/tyche/tyche/model/jani/Operator"), (.object "com/example/tyche/tyche/model/jani/Operator"), (.object "com/example/tyche/tyche/model/jani/Operator"), (.object "com/example/tyche/tyche/model/jani/Operator"), (.object "com/example/tyche/tyche/model/jani/Operator"), (.array (.object "com/example/tyche/tyche/model/jani/Operator"))]
  resolved := Array.replicate 199 none
  statics := some 0 }

def pool10 : Array CpInfo := pool [(8, .class_ 10), (1, u "java/lang/Iterable"), (24, .class_ 36), (0, u "java/lang/Object")] 25

/-- java/lang/Iterable -/
def k10 : Class := { plain "java/lang/Iterable" (some 0) with
  accessFlags := 1537
  interfaces := #[]
  cf := some (fileOf pool10 8 #[] #[] 1537 35 #[] #[])
  fields := #[]
  methods := #[]
  instanceTypes := #[]
  staticTypes := #[]
  resolved := Array.replicate 62 none
  statics := none }

def pool11 : Array CpInfo := pool [(10, .class_ 12), (1, u "java/util/Collection"), (0, u "toArray"), (16, u "()Z"), (29, .class_ 61), (0, u "java/lang/Object"), (0, .class_ 63), (0, u "java/lang/Iterable"), (2, u "isEmpty"), (3, u "()[Ljava/lang/Object;")] 44

def k11m0 : Method := { name := "isEmpty", desc := "()Z", sig := { parameters := [], returnType := some .boolean }, accessFlags := 1025, code := none }
def k11m1 : Method := { name := "toArray", desc := "()[Ljava/lang/Object;", sig := { parameters := [], returnType := some (.array (.object "java/lang/Object")) }, accessFlags := 1025, code := none }
/-- java/util/Collection -/
def k11 : Class := { plain "java/util/Collection" (some 0) with
  accessFlags := 1537
  interfaces := #[10]
  cf := some (fileOf pool11 10 #[] #[{ accessFlags := 1025, nameIndex := 66, descriptorIndex := 30, attributes := #[] }, { accessFlags := 1025, nameIndex := 13, descriptorIndex := 70, attributes := #[] }] 1537 60 #[62] #[])
  fields := #[]
  methods := #[k11m0, k11m1]
  instanceTypes := #[]
  staticTypes := #[]
  resolved := Array.replicate 115 none
  statics := none }

def pool12 : Array CpInfo := pool [(1, .methodref 2 3), (0, .class_ 4), (0, .nameAndType 5 6), (0, u "java/lang/Object"), (0, u "<init>"), (0, u "()V"), (1, .class_ 10), (1, u "java/util/AbstractCollection"), (66, .class_ 78), (0, u "java/util/Collection")] 81

def k12c0 : Code := { maxStack := 1, maxLocals := 1, code := jdk_22_method_1_code, exceptionTable := #[], attributes := #[] }
def k12m0 : Method := { name := "<init>", desc := "()V", sig := { parameters := [], returnType := none }, accessFlags := 4, code := some k12c0 }
/-- java/util/AbstractCollection -/
def k12 : Class := { plain "java/util/AbstractCollection" (some 0) with
  accessFlags := 1057
  interfaces := #[11]
  cf := some (fileOf pool12 8 #[] #[{ accessFlags := 4, nameIndex := 5, descriptorIndex := 6, attributes := #[] }] 1057 2 #[77] #[])
  fields := #[]
  methods := #[k12m0]
  instanceTypes := #[]
  staticTypes := #[]
  resolved := Array.replicate 160 none
  statics := none }

def pool13 : Array CpInfo := pool [(8, .class_ 10), (1, u "java/util/SequencedCollection"), (15, .class_ 27), (0, u "java/lang/Object"), (0, .class_ 29), (0, u "java/util/Collection")] 27

/-- java/util/SequencedCollection -/
def k13 : Class := { plain "java/util/SequencedCollection" (some 0) with
  accessFlags := 1537
  interfaces := #[11]
  cf := some (fileOf pool13 8 #[] #[] 1537 26 #[28] #[])
  fields := #[]
  methods := #[]
  instanceTypes := #[]
  staticTypes := #[]
  resolved := Array.replicate 57 none
  statics := none }

def pool14 : Array CpInfo := pool [(8, .class_ 10), (1, u "java/util/List"), (20, u "(Ljava/lang/Object;)V"), (16, u "<init>"), (26, u "get"), (0, u "(I)Ljava/lang/Object;"), (2, u "size"), (0, u "()I"), (7, u "of"), (1, .fieldref 91 92), (0, .class_ 93), (0, .nameAndType 94 95), (0, u "java/util/ImmutableCollections"), (0, u "EMPTY_LIST"), (0, u "Ljava/util/ImmutableCollections$ListN;"), (0, .class_ 97), (0, u "java/util/ImmutableCollections$List12"), (0, .methodref 96 99), (0, .nameAndType 48 31), (0, .methodref 96 101), (0, .nameAndType 48 102), (0, u "(Ljava/lang/Object;Ljava/lang/Object;)V"), (0, .class_ 104), (0, u "java/lang/Object"), (3, u "([Ljava/lang/Object;)Ljava/util/List;"), (0, .methodref 91 110), (0, .nameAndType 111 108), (0, u "listFromArray"), (0, .methodref 91 113), (0, .nameAndType 114 115), (0, u "listCopy"), (0, u "(Ljava/util/Collection;)Ljava/util/List;"), (3, u "()Ljava/util/List;"), (0, .class_ 121), (0, u "java/util/SequencedCollection"), (112, u "copyOf")] 16

def k14m0 : Method := { name := "size", desc := "()I", sig := { parameters := [], returnType := some .int }, accessFlags := 1025, code := none }
def k14m1 : Method := { name := "get", desc := "(I)Ljava/lang/Object;", sig := { parameters := [.int], returnType := some (.object "java/lang/Object") }, accessFlags := 1025, code := none }
def k14c2 : Code := { maxStack := 1, maxLocals := 0, code := jdk_40_method_36_code, exceptionTable := #[], attributes := #[] }
def k14m2 : Method := { name := "of", desc := "()Ljava/util/List;", sig := { parameters := [], returnType := some (.object "java/util/List") }, accessFlags := 9, code := some k14c2 }
def k14c3 : Code := { maxStack := 5, maxLocals := 2, code := jdk_40_method_47_code, exceptionTable := #[], attributes := #[] }
def k14m3 : Method := { name := "of", desc := "([Ljava/lang/Object;)Ljava/util/List;", sig := { parameters := [(.array (.object "java/lang/Object"))], returnType := some (.object "java/util/List") }, accessFlags := 137, code := some k14c3 }
def k14c4 : Code := { maxStack := 1, maxLocals := 1, code := jdk_40_method_48_code, exceptionTable := #[], attributes := #[] }
def k14m4 : Method := { name := "copyOf", desc := "(Ljava/util/Collection;)Ljava/util/List;", sig := { parameters := [(.object "java/util/Collection")], returnType := some (.object "java/util/List") }, accessFlags := 9, code := some k14c4 }
/-- java/util/List -/
def k14 : Class := { plain "java/util/List" (some 0) with
  accessFlags := 1537
  interfaces := #[13]
  cf := some (fileOf pool14 8 #[] #[{ accessFlags := 1025, nameIndex := 79, descriptorIndex := 80, attributes := #[] }, { accessFlags := 1025, nameIndex := 75, descriptorIndex := 76, attributes := #[] }, { accessFlags := 9, nameIndex := 88, descriptorIndex := 119, attributes := #[] }, { accessFlags := 137, nameIndex := 88, descriptorIndex := 108, attributes := #[] }, { accessFlags := 9, nameIndex := 234, descriptorIndex := 115, attributes := #[] }] 1537 103 #[120] #[])
  fields := #[]
  methods := #[k14m0, k14m1, k14m2, k14m3, k14m4]
  instanceTypes := #[]
  staticTypes := #[]
  resolved := Array.replicate 251 none
  statics := none }

def pool15 : Array CpInfo := pool [(1, .methodref 2 3), (0, .class_ 4), (0, .nameAndType 5 6), (0, u "java/util/AbstractCollection"), (0, u "<init>"), (0, u "()V"), (0, .fieldref 8 9), (0, .class_ 10), (0, .nameAndType 11 12), (0, u "java/util/AbstractList"), (0, u "modCount"), (0, u "I"), (64, .class_ 78), (0, u "java/util/AbstractList$Itr"), (3, .class_ 83), (0, u "java/util/AbstractList$ListItr"), (9, .class_ 94), (0, u "java/util/AbstractList$RandomAccessSubList"), (3, .class_ 99), (0, u "java/util/AbstractList$SubList"), (33, .class_ 134), (0, u "java/util/List"), (73, .class_ 209), (0, u "java/util/AbstractList$SubList$1"), (0, .class_ 211), (0, u "java/util/AbstractList$RandomAccessSpliterator")] 6

def k15c0 : Code := { maxStack := 2, maxLocals := 1, code := jdk_39_method_1_code, exceptionTable := #[], attributes := #[] }
def k15m0 : Method := { name := "<init>", desc := "()V", sig := { parameters := [], returnType := none }, accessFlags := 4, code := some k15c0 }
/-- java/util/AbstractList -/
def k15 : Class := { plain "java/util/AbstractList" (some 12) with
  accessFlags := 1057
  interfaces := #[14]
  cf := some (fileOf pool15 8 #[.nestMembers #[93, 98, 208, 210, 82, 77]] #[{ accessFlags := 4, nameIndex := 5, descriptorIndex := 6, attributes := #[] }] 1057 2 #[133] #[{ accessFlags := 132, nameIndex := 11, descriptorIndex := 12, attributes := #[] }])
  fields := #[{ name := "modCount", type := .int, accessFlags := 132, slot := 0, constantValue := 0 }]
  methods := #[k15m0]
  instanceTypes := #[.int]
  staticTypes := #[]
  resolved := Array.replicate 218 none
  statics := none }

def pool16 : Array CpInfo := pool [(1, .class_ 2), (0, u "java/util/RandomAccess"), (0, .class_ 4), (0, u "java/lang/Object")] 2

/-- java/util/RandomAccess -/
def k16 : Class := { plain "java/util/RandomAccess" (some 0) with
  accessFlags := 1537
  interfaces := #[]
  cf := some (fileOf pool16 1 #[] #[] 1537 3 #[] #[])
  fields := #[]
  methods := #[]
  instanceTypes := #[]
  staticTypes := #[]
  resolved := Array.replicate 7 none
  statics := none }

def pool17 : Array CpInfo := pool [(1, .class_ 2), (0, u "java/lang/Cloneable"), (0, .class_ 4), (0, u "java/lang/Object")] 2

/-- java/lang/Cloneable -/
def k17 : Class := { plain "java/lang/Cloneable" (some 0) with
  accessFlags := 1537
  interfaces := #[]
  cf := some (fileOf pool17 1 #[] #[] 1537 3 #[] #[])
  fields := #[]
  methods := #[]
  instanceTypes := #[]
  staticTypes := #[]
  resolved := Array.replicate 7 none
  statics := none }

def pool18 : Array CpInfo := pool [(1, .methodref 2 3), (0, .class_ 4), (0, .nameAndType 5 6), (0, u "java/util/AbstractList"), (0, u "<init>"), (0, u "()V"), (0, .class_ 8), (0, u "java/lang/Object"), (0, .fieldref 10 11), (0, .class_ 12), (0, .nameAndType 13 14), (0, u "java/util/ArrayList"), (0, u "elementData"), (0, u "[Ljava/lang/Object;"), (2, u "EMPTY_ELEMENTDATA"), (21, .fieldref 10 40), (0, .nameAndType 41 14), (0, u "DEFAULTCAPACITY_EMPTY_ELEMENTDATA"), (4, u "toArray"), (0, u "()[Ljava/lang/Object;"), (0, .fieldref 10 49), (0, .nameAndType 50 51), (0, u "size"), (0, u "I"), (6, .class_ 60), (1, u "java/util/Arrays"), (0, u "copyOf"), (1, .fieldref 10 64), (0, .nameAndType 65 51), (0, u "modCount"), (0, .methodref 58 67), (0, .nameAndType 61 68), (0, u "([Ljava/lang/Object;I)[Ljava/lang/Object;"), (0, .methodref 10 70), (0, .nameAndType 71 72), (0, u "grow"), (0, u "(I)[Ljava/lang/Object;"), (6, .methodref 80 81), (0, .class_ 82), (0, .nameAndType 83 84), (0, u "java/lang/Math"), (0, u "max"), (0, u "(II)I"), (11, u "(Ljava/lang/Object;)Z"), (32, .methodref 10 130), (0, .nameAndType 71 47), (0, .methodref 10 132), (0, .nameAndType 133 134), (0, u "add"), (0, u "(Ljava/lang/Object;[Ljava/lang/Object;I)V"), (13, .class_ 149), (0, u "java/util/List"), (23, u "()Z"), (88, .class_ 263), (0, u "java/util/ArrayList$ListItr"), (3, .class_ 268), (0, u "java/util/ArrayList$Itr"), (7, .class_ 277), (0, u "java/util/ArrayList$SubList"), (12, .class_ 291), (0, u "java/util/ArrayList$ArrayListSpliterator"), (37, .class_ 330), (0, u "java/util/RandomAccess"), (0, .class_ 332), (0, u "java/lang/Cloneable"), (0, .class_ 334), (0, u "java/io/Serializable"), (0, u "serialVersionUID"), (0, u "J"), (3, u "DEFAULT_CAPACITY"), (22, u "isEmpty"), (136, .class_ 501), (0, u "java/util/ArrayList$SubList$2"), (0, .class_ 503), (0, u "java/util/ArrayList$SubList$1")] 5

def k18c0 : Code := { maxStack := 2, maxLocals := 1, code := jdk_38_method_2_code, exceptionTable := #[], attributes := #[] }
def k18m0 : Method := { name := "<init>", desc := "()V", sig := { parameters := [], returnType := none }, accessFlags := 1, code := some k18c0 }
def k18c1 : Code := { maxStack := 4, maxLocals := 4, code := jdk_38_method_6_code, exceptionTable := #[], attributes := #[] }
def k18m1 : Method := { name := "grow", desc := "(I)[Ljava/lang/Object;", sig := { parameters := [.int], returnType := some (.array (.object "java/lang/Object")) }, accessFlags := 2, code := some k18c1 }
def k18c2 : Code := { maxStack := 3, maxLocals := 1, code := jdk_38_method_7_code, exceptionTable := #[], attributes := #[] }
def k18m2 : Method := { name := "grow", desc := "()[Ljava/lang/Object;", sig := { parameters := [], returnType := some (.array (.object "java/lang/Object")) }, accessFlags := 2, code := some k18c2 }
def k18c3 : Code := { maxStack := 1, maxLocals := 1, code := jdk_38_method_9_code, exceptionTable := #[], attributes := #[] }
def k18m3 : Method := { name := "isEmpty", desc := "()Z", sig := { parameters := [], returnType := some .boolean }, accessFlags := 1, code := some k18c3 }
def k18c4 : Code := { maxStack := 2, maxLocals := 1, code := jdk_38_method_16_code, exceptionTable := #[], attributes := #[] }
def k18m4 : Method := { name := "toArray", desc := "()[Ljava/lang/Object;", sig := { parameters := [], returnType := some (.array (.object "java/lang/Object")) }, accessFlags := 1, code := some k18c4 }
def k18c5 : Code := { maxStack := 3, maxLocals := 4, code := jdk_38_method_24_code, exceptionTable := #[], attributes := #[] }
def k18m5 : Method := { name := "add", desc := "(Ljava/lang/Object;[Ljava/lang/Object;I)V", sig := { parameters := [(.object "java/lang/Object"), (.array (.object "java/lang/Object")), .int], returnType := none }, accessFlags := 2, code := some k18c5 }
def k18c6 : Code := { maxStack := 4, maxLocals := 2, code := jdk_38_method_25_code, exceptionTable := #[], attributes := #[] }
def k18m6 : Method := { name := "add", desc := "(Ljava/lang/Object;)Z", sig := { parameters := [(.object "java/lang/Object")], returnType := some .boolean }, accessFlags := 1, code := some k18c6 }
/-- java/util/ArrayList -/
def k18 : Class := { plain "java/util/ArrayList" (some 15) with
  accessFlags := 33
  interfaces := #[14, 16, 17, 7]
  cf := some (fileOf pool18 10 #[.nestMembers #[290, 276, 500, 502, 262, 267]] #[{ accessFlags := 1, nameIndex := 5, descriptorIndex := 6, attributes := #[] }, { accessFlags := 2, nameIndex := 71, descriptorIndex := 72, attributes := #[] }, { accessFlags := 2, nameIndex := 71, descriptorIndex := 47, attributes := #[] }, { accessFlags := 1, nameIndex := 363, descriptorIndex := 173, attributes := #[] }, { accessFlags := 1, nameIndex := 46, descriptorIndex := 47, attributes := #[] }, { accessFlags := 2, nameIndex := 133, descriptorIndex := 134, attributes := #[] }, { accessFlags := 1, nameIndex := 133, descriptorIndex := 96, attributes := #[] }] 33 2 #[148, 329, 331, 333] #[{ accessFlags := 26, nameIndex := 335, descriptorIndex := 336, attributes := #[] }, { accessFlags := 26, nameIndex := 340, descriptorIndex := 51, attributes := #[] }, { accessFlags := 26, nameIndex := 17, descriptorIndex := 14, attributes := #[] }, { accessFlags := 26, nameIndex := 41, descriptorIndex := 14, attributes := #[] }, { accessFlags := 128, nameIndex := 13, descriptorIndex := 14, attributes := #[] }, { accessFlags := 2, nameIndex := 50, descriptorIndex := 51, attributes := #[] }])
  fields := #[{ name := "serialVersionUID", type := .long, accessFlags := 26, slot := 0, constantValue := 0 }, { name := "DEFAULT_CAPACITY", type := .int, accessFlags := 26, slot := 1, constantValue := 0 }, { name := "EMPTY_ELEMENTDATA", type := (.array (.object "java/lang/Object")), accessFlags := 26, slot := 2, constantValue := 0 }, { name := "DEFAULTCAPACITY_EMPTY_ELEMENTDATA", type := (.array (.object "java/lang/Object")), accessFlags := 26, slot := 3, constantValue := 0 }, { name := "elementData", type := (.array (.object "java/lang/Object")), accessFlags := 128, slot := 1, constantValue := 0 }, { name := "size", type := .int, accessFlags := 2, slot := 2, constantValue := 0 }]
  methods := #[k18m0, k18m1, k18m2, k18m3, k18m4, k18m5, k18m6]
  instanceTypes := #[.int, (.array (.object "java/lang/Object")), .int]
  staticTypes := #[.long, .int, (.array (.object "java/lang/Object")), (.array (.object "java/lang/Object"))]
  resolved := Array.replicate 509 none
  statics := some 1 }

def pool19 : Array CpInfo := pool [(2, .class_ 4), (1, u "java/lang/CharSequence"), (42, .class_ 48), (0, u "java/lang/CharSequence$1CodePointIterator"), (10, .class_ 60), (0, u "java/lang/CharSequence$1CharIterator"), (5, .class_ 67), (0, u "java/lang/Object")] 63

/-- java/lang/CharSequence -/
def k19 : Class := { plain "java/lang/CharSequence" (some 0) with
  accessFlags := 1537
  interfaces := #[]
  cf := some (fileOf pool19 2 #[.nestMembers #[47, 59]] #[] 1537 66 #[] #[])
  fields := #[]
  methods := #[]
  instanceTypes := #[]
  staticTypes := #[]
  resolved := Array.replicate 131 none
  statics := none }

def pool20 : Array CpInfo := pool [(1, .class_ 2), (0, u "java/lang/constant/ConstantDesc"), (0, .class_ 4), (0, u "java/lang/Object")] 32

/-- java/lang/constant/ConstantDesc -/
def k20 : Class := { plain "java/lang/constant/ConstantDesc" (some 0) with
  accessFlags := 1537
  interfaces := #[]
  cf := some (fileOf pool20 1 #[] #[] 1537 3 #[] #[])
  fields := #[]
  methods := #[]
  instanceTypes := #[]
  staticTypes := #[]
  resolved := Array.replicate 37 none
  statics := none }

def pool21 : Array CpInfo := pool [(1, .methodref 2 3), (0, .class_ 4), (0, .nameAndType 5 6), (0, u "java/lang/Object"), (0, u "<init>"), (0, u "()V"), (2, .fieldref 10 11), (0, .class_ 12), (0, .nameAndType 13 14), (0, u "java/lang/String"), (0, u "value"), (0, u "[B"), (0, .fieldref 10 16), (0, .nameAndType 17 18), (0, u "coder"), (0, u "B"), (2, u "hash"), (0, u "I"), (2, u "hashIsZero"), (0, u "Z"), (11, .fieldref 10 39), (0, .nameAndType 40 26), (0, u "COMPACT_STRINGS"), (12, u "toBytes"), (53, .class_ 109), (1, u "java/lang/StringLatin1"), (99, .methodref 10 210), (0, .nameAndType 5 211), (0, u "([BB)V"), (157, u "(C)Z"), (205, .class_ 576), (0, u "java/lang/CharSequence"), (22, u "CASE_INSENSITIVE_ORDER"), (0, u "Ljava/util/Comparator;"), (181, u "valueOf"), (0, u "(C)Ljava/lang/String;"), (231, .methodref 107 1016), (0, .nameAndType 1017 369), (0, u "canEncode"), (0, .methodref 107 1019), (0, .nameAndType 53 1020), (0, u "(C)[B"), (80, u "serialPersistentFields"), (0, u "[Ljava/io/ObjectStreamField;"), (0, .class_ 1104), (0, u "java/lang/String$CaseInsensitiveComparator"), (1, .class_ 1107), (0, u "java/io/Serializable"), (0, .class_ 1109), (0, u "java/lang/Comparable"), (0, .class_ 1111), (0, u "java/lang/constant/Constable"), (0, .class_ 1113), (0, u "java/lang/constant/ConstantDesc"), (2, u "serialVersionUID"), (0, u "J"), (3, u "REPL"), (0, u "C"), (2, u "LATIN1"), (1, u "UTF16")] 323

def k21m0 : Method := { name := "<init>", desc := "()V", sig := { parameters := [], returnType := none }, accessFlags := 1, code := none }
def k21c1 : Code := { maxStack := 4, maxLocals := 1, code := jdk_42_method_139_code, exceptionTable := #[], attributes := #[] }
def k21m1 : Method := { name := "valueOf", desc := "(C)Ljava/lang/String;", sig := { parameters := [.char], returnType := some (.object "java/lang/String") }, accessFlags := 9, code := some k21c1 }
def k21c2 : Code := { maxStack := 2, maxLocals := 3, code := jdk_42_method_151_code, exceptionTable := #[], attributes := #[] }
def k21m2 : Method := { name := "<init>", desc := "([BB)V", sig := { parameters := [(.array .byte), .byte], returnType := none }, accessFlags := 0, code := some k21c2 }
/-- java/lang/String -/
def k21 : Class := { plain "java/lang/String" (some 0) with
  accessFlags := 49
  interfaces := #[7, 6, 19, 5, 20]
  cf := some (fileOf pool21 10 #[.nestMembers #[1103]] #[{ accessFlags := 1, nameIndex := 5, descriptorIndex := 6, attributes := #[] }, { accessFlags := 9, nameIndex := 782, descriptorIndex := 783, attributes := #[] }, { accessFlags := 0, nameIndex := 5, descriptorIndex := 211, attributes := #[] }] 49 2 #[1106, 1108, 575, 1110, 1112] #[{ accessFlags := 18, nameIndex := 13, descriptorIndex := 14, attributes := #[] }, { accessFlags := 18, nameIndex := 17, descriptorIndex := 18, attributes := #[] }, { accessFlags := 2, nameIndex := 21, descriptorIndex := 22, attributes := #[] }, { accessFlags := 2, nameIndex := 25, descriptorIndex := 26, attributes := #[] }, { accessFlags := 26, nameIndex := 1116, descriptorIndex := 1117, attributes := #[] }, { accessFlags := 24, nameIndex := 40, descriptorIndex := 26, attributes := #[] }, { accessFlags := 26, nameIndex := 1101, descriptorIndex := 1102, attributes := #[] }, { accessFlags := 26, nameIndex := 1121, descriptorIndex := 1122, attributes := #[] }, { accessFlags := 25, nameIndex := 599, descriptorIndex := 600, attributes := #[] }, { accessFlags := 24, nameIndex := 1125, descriptorIndex := 18, attributes := #[] }, { accessFlags := 24, nameIndex := 1127, descriptorIndex := 18, attributes := #[] }])
  fields := #[{ name := "value", type := (.array .byte), accessFlags := 18, slot := 0, constantValue := 0 }, { name := "coder", type := .byte, accessFlags := 18, slot := 1, constantValue := 0 }, { name := "hash", type := .int, accessFlags := 2, slot := 2, constantValue := 0 }, { name := "hashIsZero", type := .boolean, accessFlags := 2, slot := 3, constantValue := 0 }, { name := "serialVersionUID", type := .long, accessFlags := 26, slot := 0, constantValue := 0 }, { name := "COMPACT_STRINGS", type := .boolean, accessFlags := 24, slot := 1, constantValue := 0 }, { name := "serialPersistentFields", type := (.array (.object "java/io/ObjectStreamField")), accessFlags := 26, slot := 2, constantValue := 0 }, { name := "REPL", type := .char, accessFlags := 26, slot := 3, constantValue := 0 }, { name := "CASE_INSENSITIVE_ORDER", type := (.object "java/util/Comparator"), accessFlags := 25, slot := 4, constantValue := 0 }, { name := "LATIN1", type := .byte, accessFlags := 24, slot := 5, constantValue := 0 }, { name := "UTF16", type := .byte, accessFlags := 24, slot := 6, constantValue := 0 }]
  methods := #[k21m0, k21m1, k21m2]
  instanceTypes := #[(.array .byte), .byte, .int, .boolean]
  staticTypes := #[.long, .boolean, (.array (.object "java/io/ObjectStreamField")), .char, (.object "java/util/Comparator"), .byte, .byte]
  resolved := Array.replicate 1451 none
  statics := some 2 }

def pool22 : Array CpInfo := pool [(2, .class_ 4), (1, u "java/lang/Object"), (0, u "<init>"), (0, u "()V"), (3, .class_ 11), (0, u "java/util/ImmutableCollections$List12"), (0, .class_ 13), (0, u "java/util/ImmutableCollections$ListN"), (3, u "Z"), (0, .class_ 19), (0, u "java/util/List"), (0, .interfaceMethodref 21 22), (0, .class_ 23), (0, .nameAndType 24 25), (0, u "java/util/Collection"), (0, u "isEmpty"), (0, u "()Z"), (0, .interfaceMethodref 18 27), (0, .nameAndType 28 29), (0, u "of"), (0, u "()Ljava/util/List;"), (0, .interfaceMethodref 21 31), (0, .nameAndType 32 33), (0, u "toArray"), (0, u "()[Ljava/lang/Object;"), (0, .interfaceMethodref 18 35), (0, .nameAndType 28 36), (0, u "([Ljava/lang/Object;)Ljava/util/List;"), (0, .methodref 38 39), (0, .class_ 40), (0, .nameAndType 41 42), (0, u "java/util/Objects"), (0, u "requireNonNull"), (0, u "(Ljava/lang/Object;)Ljava/lang/Object;"), (0, .methodref 12 44), (0, .nameAndType 5 45), (0, u "([Ljava/lang/Object;Z)V"), (1, .class_ 49), (1, u "java/util/ImmutableCollections"), (0, u "$assertionsDisabled"), (5, u "[Ljava/lang/Object;"), (5, u "EMPTY_LIST"), (0, u "Ljava/util/ImmutableCollections$ListN;"), (8, u "EMPTY_LIST_NULLS"), (22, u "SALT32L"), (0, u "J"), (2, u "REVERSE"), (6, u "archivedObjects"), (2, u "EMPTY"), (0, u "Ljava/lang/Object;"), (0, .class_ 112), (0, u "java/util/ImmutableCollections$SetN"), (5, u "EMPTY_SET"), (0, u "Ljava/util/ImmutableCollections$SetN;"), (0, .class_ 121), (0, u "java/util/ImmutableCollections$MapN"), (3, u "EMPTY_MAP"), (0, u "Ljava/util/ImmutableCollections$MapN;"), (4, u "EXPAND_FACTOR"), (0, u "I"), (9, u "listCopy"), (0, u "(Ljava/util/Collection;)Ljava/util/List;"), (7, u "listFromArray"), (17, .class_ 170), (0, u "java/util/ImmutableCollections$MapN$MapNIterator"), (0, .class_ 172), (0, u "java/util/ImmutableCollections$MapN$1"), (0, .class_ 174), (0, u "java/util/ImmutableCollections$Map1"), (0, .class_ 176), (0, u "java/util/ImmutableCollections$AbstractImmutableMap"), (0, .class_ 178), (0, u "java/util/ImmutableCollections$SetN$SetNIterator"), (0, .class_ 180), (0, u "java/util/ImmutableCollections$Set12"), (0, .class_ 182), (0, u "java/util/ImmutableCollections$Set12$1"), (0, .class_ 184), (0, u "java/util/ImmutableCollections$AbstractImmutableSet"), (0, .class_ 186), (0, u "java/util/ImmutableCollections$SubList"), (0, .class_ 188), (0, u "java/util/ImmutableCollections$ListItr"), (0, .class_ 190), (0, u "java/util/ImmutableCollections$AbstractImmutableList"), (0, .class_ 192), (0, u "java/util/ImmutableCollections$AbstractImmutableCollection"), (0, .class_ 194), (0, u "java/util/ImmutableCollections$Access"), (0, .class_ 196), (0, u "java/util/ImmutableCollections$Access$1")] 16

def k22m0 : Method := { name := "<init>", desc := "()V", sig := { parameters := [], returnType := none }, accessFlags := 2, code := none }
def k22c1 : Code := { maxStack := 1, maxLocals := 2, code := jdk_56_method_3_code, exceptionTable := #[], attributes := #[] }
def k22m1 : Method := { name := "listCopy", desc := "(Ljava/util/Collection;)Ljava/util/List;", sig := { parameters := [(.object "java/util/Collection")], returnType := some (.object "java/util/List") }, accessFlags := 8, code := some k22c1 }
def k22c2 : Code := { maxStack := 4, maxLocals := 3, code := jdk_56_method_4_code, exceptionTable := #[], attributes := #[] }
def k22m2 : Method := { name := "listFromArray", desc := "([Ljava/lang/Object;)Ljava/util/List;", sig := { parameters := [(.array (.object "java/lang/Object"))], returnType := some (.object "java/util/List") }, accessFlags := 136, code := some k22c2 }
/-- java/util/ImmutableCollections -/
def k22 : Class := { plain "java/util/ImmutableCollections" (some 0) with
  accessFlags := 32
  interfaces := #[]
  cf := some (fileOf pool22 47 #[.nestMembers #[120, 169, 171, 173, 175, 111, 177, 179, 181, 183, 12, 10, 185, 187, 189, 191, 193, 195]] #[{ accessFlags := 2, nameIndex := 5, descriptorIndex := 6, attributes := #[] }, { accessFlags := 8, nameIndex := 142, descriptorIndex := 143, attributes := #[] }, { accessFlags := 136, nameIndex := 151, descriptorIndex := 36, attributes := #[] }] 32 2 #[] #[{ accessFlags := 26, nameIndex := 95, descriptorIndex := 96, attributes := #[] }, { accessFlags := 26, nameIndex := 99, descriptorIndex := 17, attributes := #[] }, { accessFlags := 10, nameIndex := 106, descriptorIndex := 56, attributes := #[] }, { accessFlags := 26, nameIndex := 109, descriptorIndex := 110, attributes := #[] }, { accessFlags := 24, nameIndex := 62, descriptorIndex := 63, attributes := #[] }, { accessFlags := 24, nameIndex := 72, descriptorIndex := 63, attributes := #[] }, { accessFlags := 24, nameIndex := 118, descriptorIndex := 119, attributes := #[] }, { accessFlags := 24, nameIndex := 125, descriptorIndex := 126, attributes := #[] }, { accessFlags := 24, nameIndex := 131, descriptorIndex := 132, attributes := #[] }, { accessFlags := 4120, nameIndex := 50, descriptorIndex := 17, attributes := #[] }])
  fields := #[{ name := "SALT32L", type := .long, accessFlags := 26, slot := 0, constantValue := 0 }, { name := "REVERSE", type := .boolean, accessFlags := 26, slot := 1, constantValue := 0 }, { name := "archivedObjects", type := (.array (.object "java/lang/Object")), accessFlags := 10, slot := 2, constantValue := 0 }, { name := "EMPTY", type := (.object "java/lang/Object"), accessFlags := 26, slot := 3, constantValue := 0 }, { name := "EMPTY_LIST", type := (.object "java/util/ImmutableCollections$ListN"), accessFlags := 24, slot := 4, constantValue := 0 }, { name := "EMPTY_LIST_NULLS", type := (.object "java/util/ImmutableCollections$ListN"), accessFlags := 24, slot := 5, constantValue := 0 }, { name := "EMPTY_SET", type := (.object "java/util/ImmutableCollections$SetN"), accessFlags := 24, slot := 6, constantValue := 0 }, { name := "EMPTY_MAP", type := (.object "java/util/ImmutableCollections$MapN"), accessFlags := 24, slot := 7, constantValue := 0 }, { name := "EXPAND_FACTOR", type := .int, accessFlags := 24, slot := 8, constantValue := 0 }, { name := "$assertionsDisabled", type := .boolean, accessFlags := 4120, slot := 9, constantValue := 0 }]
  methods := #[k22m0, k22m1, k22m2]
  instanceTypes := #[]
  staticTypes := #[.long, .boolean, (.array (.object "java/lang/Object")), (.object "java/lang/Object"), (.object "java/util/ImmutableCollections$ListN"), (.object "java/util/ImmutableCollections$ListN"), (.object "java/util/ImmutableCollections$SetN"), (.object "java/util/ImmutableCollections$MapN"), .int, .boolean]
  resolved := Array.replicate 213 none
  statics := some 3 }

def pool23 : Array CpInfo := pool [(1, .methodref 2 3), (0, .class_ 4), (0, .nameAndType 5 6), (0, u "java/util/AbstractCollection"), (0, u "<init>"), (0, u "()V"), (1, .class_ 10), (1, u "java/util/ImmutableCollections"), (2, .class_ 14), (0, u "java/util/ImmutableCollections$AbstractImmutableCollection")] 41

def k23c0 : Code := { maxStack := 1, maxLocals := 1, code := jdk_47_method_1_code, exceptionTable := #[], attributes := #[] }
def k23m0 : Method := { name := "<init>", desc := "()V", sig := { parameters := [], returnType := none }, accessFlags := 0, code := some k23c0 }
/-- java/util/ImmutableCollections$AbstractImmutableCollection -/
def k23 : Class := { plain "java/util/ImmutableCollections$AbstractImmutableCollection" (some 12) with
  accessFlags := 1056
  interfaces := #[]
  cf := some (fileOf pool23 13 #[.nestHost 8] #[{ accessFlags := 0, nameIndex := 5, descriptorIndex := 6, attributes := #[] }] 1056 2 #[] #[])
  fields := #[]
  methods := #[k23m0]
  instanceTypes := #[]
  staticTypes := #[]
  resolved := Array.replicate 56 none
  statics := none }

def pool24 : Array CpInfo := pool [(1, .methodref 2 3), (0, .class_ 4), (0, .nameAndType 5 6), (0, u "java/util/ImmutableCollections$AbstractImmutableCollection"), (0, u "<init>"), (0, u "()V"), (1, .class_ 10), (1, u "java/util/ImmutableCollections"), (3, .class_ 16), (1, u "java/util/ImmutableCollections$AbstractImmutableList"), (60, .class_ 78), (0, u "java/util/List"), (45, .class_ 125), (0, u "java/util/RandomAccess")] 70

def k24c0 : Code := { maxStack := 1, maxLocals := 1, code := jdk_46_method_1_code, exceptionTable := #[], attributes := #[] }
def k24m0 : Method := { name := "<init>", desc := "()V", sig := { parameters := [], returnType := none }, accessFlags := 0, code := some k24c0 }
/-- java/util/ImmutableCollections$AbstractImmutableList -/
def k24 : Class := { plain "java/util/ImmutableCollections$AbstractImmutableList" (some 23) with
  accessFlags := 1056
  interfaces := #[14, 16]
  cf := some (fileOf pool24 14 #[.nestHost 8] #[{ accessFlags := 0, nameIndex := 5, descriptorIndex := 6, attributes := #[] }] 1056 2 #[77, 124] #[])
  fields := #[]
  methods := #[k24m0]
  instanceTypes := #[]
  staticTypes := #[]
  resolved := Array.replicate 196 none
  statics := none }

def pool25 : Array CpInfo := pool [(1, .methodref 2 3), (0, .class_ 4), (0, .nameAndType 5 6), (0, u "java/util/ImmutableCollections$AbstractImmutableList"), (0, u "<init>"), (0, u "()V"), (0, .methodref 8 9), (0, .class_ 10), (0, .nameAndType 11 12), (0, u "java/util/Objects"), (0, u "requireNonNull"), (0, u "(Ljava/lang/Object;)Ljava/lang/Object;"), (0, .fieldref 14 15), (0, .class_ 16), (0, .nameAndType 17 18), (0, u "java/util/ImmutableCollections$List12"), (0, u "e0"), (0, u "Ljava/lang/Object;"), (0, .fieldref 20 21), (0, .class_ 22), (0, .nameAndType 23 18), (0, u "java/util/ImmutableCollections"), (0, u "EMPTY"), (0, .fieldref 14 25), (0, .nameAndType 26 18), (0, u "e1"), (24, u "size"), (0, u "()I"), (17, .class_ 71), (0, u "java/io/Serializable"), (4, u "(Ljava/lang/Object;)V"), (8, u "(Ljava/lang/Object;Ljava/lang/Object;)V"), (4, u "get"), (0, u "(I)Ljava/lang/Object;")] 33

def k25c0 : Code := { maxStack := 2, maxLocals := 2, code := jdk_44_method_1_code, exceptionTable := #[], attributes := #[] }
def k25m0 : Method := { name := "<init>", desc := "(Ljava/lang/Object;)V", sig := { parameters := [(.object "java/lang/Object")], returnType := none }, accessFlags := 0, code := some k25c0 }
def k25c1 : Code := { maxStack := 2, maxLocals := 3, code := jdk_44_method_2_code, exceptionTable := #[], attributes := #[] }
def k25m1 : Method := { name := "<init>", desc := "(Ljava/lang/Object;Ljava/lang/Object;)V", sig := { parameters := [(.object "java/lang/Object"), (.object "java/lang/Object")], returnType := none }, accessFlags := 0, code := some k25c1 }
def k25c2 : Code := { maxStack := 2, maxLocals := 1, code := jdk_44_method_3_code, exceptionTable := #[], attributes := #[] }
def k25m2 : Method := { name := "size", desc := "()I", sig := { parameters := [], returnType := some .int }, accessFlags := 1, code := some k25c2 }
def k25c3 : Code := { maxStack := 2, maxLocals := 2, code := jdk_44_method_5_code, exceptionTable := #[], attributes := #[] }
def k25m3 : Method := { name := "get", desc := "(I)Ljava/lang/Object;", sig := { parameters := [.int], returnType := some (.object "java/lang/Object") }, accessFlags := 1, code := some k25c3 }
/-- java/util/ImmutableCollections$List12 -/
def k25 : Class := { plain "java/util/ImmutableCollections$List12" (some 24) with
  accessFlags := 48
  interfaces := #[7]
  cf := some (fileOf pool25 14 #[.nestHost 20] #[{ accessFlags := 0, nameIndex := 5, descriptorIndex := 76, attributes := #[] }, { accessFlags := 0, nameIndex := 5, descriptorIndex := 85, attributes := #[] }, { accessFlags := 1, nameIndex := 51, descriptorIndex := 52, attributes := #[] }, { accessFlags := 1, nameIndex := 90, descriptorIndex := 91, attributes := #[] }] 48 2 #[70] #[{ accessFlags := 18, nameIndex := 17, descriptorIndex := 18, attributes := #[] }, { accessFlags := 18, nameIndex := 26, descriptorIndex := 18, attributes := #[] }])
  fields := #[{ name := "e0", type := (.object "java/lang/Object"), accessFlags := 18, slot := 0, constantValue := 0 }, { name := "e1", type := (.object "java/lang/Object"), accessFlags := 18, slot := 1, constantValue := 0 }]
  methods := #[k25m0, k25m1, k25m2, k25m3]
  instanceTypes := #[(.object "java/lang/Object"), (.object "java/lang/Object")]
  staticTypes := #[]
  resolved := Array.replicate 125 none
  statics := none }

def pool26 : Array CpInfo := pool [(1, .methodref 2 3), (0, .class_ 4), (0, .nameAndType 5 6), (0, u "java/util/ImmutableCollections$AbstractImmutableList"), (0, u "<init>"), (0, u "()V"), (0, .fieldref 8 9), (0, .class_ 10), (0, .nameAndType 11 12), (0, u "java/util/ImmutableCollections$ListN"), (0, u "elements"), (0, u "[Ljava/lang/Object;"), (0, .fieldref 8 14), (0, .nameAndType 15 16), (0, u "allowNulls"), (0, u "Z"), (42, .class_ 60), (0, u "java/io/Serializable"), (4, u "([Ljava/lang/Object;Z)V"), (11, u "size"), (0, u "()I"), (0, u "get"), (0, u "(I)Ljava/lang/Object;"), (33, .class_ 115), (0, u "java/util/ImmutableCollections")] 3

def k26c0 : Code := { maxStack := 2, maxLocals := 3, code := jdk_45_method_1_code, exceptionTable := #[], attributes := #[] }
def k26m0 : Method := { name := "<init>", desc := "([Ljava/lang/Object;Z)V", sig := { parameters := [(.array (.object "java/lang/Object")), .boolean], returnType := none }, accessFlags := 2, code := some k26c0 }
def k26c1 : Code := { maxStack := 1, maxLocals := 1, code := jdk_45_method_3_code, exceptionTable := #[], attributes := #[] }
def k26m1 : Method := { name := "size", desc := "()I", sig := { parameters := [], returnType := some .int }, accessFlags := 1, code := some k26c1 }
def k26c2 : Code := { maxStack := 2, maxLocals := 2, code := jdk_45_method_4_code, exceptionTable := #[], attributes := #[] }
def k26m2 : Method := { name := "get", desc := "(I)Ljava/lang/Object;", sig := { parameters := [.int], returnType := some (.object "java/lang/Object") }, accessFlags := 1, code := some k26c2 }
/-- java/util/ImmutableCollections$ListN -/
def k26 : Class := { plain "java/util/ImmutableCollections$ListN" (some 24) with
  accessFlags := 48
  interfaces := #[7]
  cf := some (fileOf pool26 8 #[.nestHost 114] #[{ accessFlags := 2, nameIndex := 5, descriptorIndex := 65, attributes := #[] }, { accessFlags := 1, nameIndex := 77, descriptorIndex := 78, attributes := #[] }, { accessFlags := 1, nameIndex := 79, descriptorIndex := 80, attributes := #[] }] 48 2 #[59] #[{ accessFlags := 18, nameIndex := 11, descriptorIndex := 12, attributes := #[] }, { accessFlags := 18, nameIndex := 15, descriptorIndex := 16, attributes := #[] }])
  fields := #[{ name := "elements", type := (.array (.object "java/lang/Object")), accessFlags := 18, slot := 0, constantValue := 0 }, { name := "allowNulls", type := .boolean, accessFlags := 18, slot := 1, constantValue := 0 }]
  methods := #[k26m0, k26m1, k26m2]
  instanceTypes := #[(.array (.object "java/lang/Object")), .boolean]
  staticTypes := #[]
  resolved := Array.replicate 119 none
  statics := none }

def pool27 : Array CpInfo := pool [(1, .class_ 2), (0, u "java/lang/Math"), (1, .class_ 6), (1, u "java/lang/Object"), (0, u "<init>"), (0, u "()V"), (89, .class_ 100), (1, u "java/lang/Math$RandomNumberGeneratorHolder"), (71, u "negativeZeroFloatBits"), (0, u "J"), (2, u "negativeZeroDoubleBits"), (21, u "max"), (2, u "min"), (43, u "$assertionsDisabled"), (0, u "Z"), (88, u "(II)I"), (2, u "twoToTheDoubleScaleDown"), (0, u "D"), (4, u "twoToTheDoubleScaleUp"), (9, u "E"), (3, u "PI"), (2, u "TAU"), (2, u "DEGREES_TO_RADIANS"), (0, u "RADIANS_TO_DEGREES")] 94

def k27m0 : Method := { name := "<init>", desc := "()V", sig := { parameters := [], returnType := none }, accessFlags := 2, code := none }
def k27c1 : Code := { maxStack := 2, maxLocals := 2, code := jdk_29_method_65_code, exceptionTable := #[], attributes := #[] }
def k27m1 : Method := { name := "max", desc := "(II)I", sig := { parameters := [.int, .int], returnType := some .int }, accessFlags := 9, code := some k27c1 }
def k27c2 : Code := { maxStack := 2, maxLocals := 2, code := jdk_29_method_69_code, exceptionTable := #[], attributes := #[] }
def k27m2 : Method := { name := "min", desc := "(II)I", sig := { parameters := [.int, .int], returnType := some .int }, accessFlags := 9, code := some k27c2 }
/-- java/lang/Math -/
def k27 : Class := { plain "java/lang/Math" (some 0) with
  accessFlags := 49
  interfaces := #[]
  cf := some (fileOf pool27 1 #[.nestMembers #[98]] #[{ accessFlags := 2, nameIndex := 7, descriptorIndex := 8, attributes := #[] }, { accessFlags := 9, nameIndex := 198, descriptorIndex := 335, attributes := #[] }, { accessFlags := 9, nameIndex := 201, descriptorIndex := 335, attributes := #[] }] 49 4 #[] #[{ accessFlags := 25, nameIndex := 354, descriptorIndex := 339, attributes := #[] }, { accessFlags := 25, nameIndex := 358, descriptorIndex := 339, attributes := #[] }, { accessFlags := 25, nameIndex := 361, descriptorIndex := 339, attributes := #[] }, { accessFlags := 26, nameIndex := 364, descriptorIndex := 339, attributes := #[] }, { accessFlags := 26, nameIndex := 365, descriptorIndex := 339, attributes := #[] }, { accessFlags := 26, nameIndex := 172, descriptorIndex := 173, attributes := #[] }, { accessFlags := 26, nameIndex := 176, descriptorIndex := 173, attributes := #[] }, { accessFlags := 8, nameIndex := 344, descriptorIndex := 339, attributes := #[] }, { accessFlags := 8, nameIndex := 338, descriptorIndex := 339, attributes := #[] }, { accessFlags := 4120, nameIndex := 245, descriptorIndex := 246, attributes := #[] }])
  fields := #[{ name := "E", type := .double, accessFlags := 25, slot := 0, constantValue := 0 }, { name := "PI", type := .double, accessFlags := 25, slot := 1, constantValue := 0 }, { name := "TAU", type := .double, accessFlags := 25, slot := 2, constantValue := 0 }, { name := "DEGREES_TO_RADIANS", type := .double, accessFlags := 26, slot := 3, constantValue := 0 }, { name := "RADIANS_TO_DEGREES", type := .double, accessFlags := 26, slot := 4, constantValue := 0 }, { name := "negativeZeroFloatBits", type := .long, accessFlags := 26, slot := 5, constantValue := 0 }, { name := "negativeZeroDoubleBits", type := .long, accessFlags := 26, slot := 6, constantValue := 0 }, { name := "twoToTheDoubleScaleUp", type := .double, accessFlags := 8, slot := 7, constantValue := 0 }, { name := "twoToTheDoubleScaleDown", type := .double, accessFlags := 8, slot := 8, constantValue := 0 }, { name := "$assertionsDisabled", type := .boolean, accessFlags := 4120, slot := 9, constantValue := 0 }]
  methods := #[k27m0, k27m1, k27m2]
  instanceTypes := #[]
  staticTypes := #[.double, .double, .double, .double, .double, .long, .long, .double, .double, .boolean]
  resolved := Array.replicate 460 none
  statics := none }

def pool28 : Array CpInfo := pool [(4, .class_ 6), (1, u "java/lang/Object"), (0, u "<init>"), (0, u "()V"), (5, .class_ 16), (1, u "java/lang/StringLatin1"), (73, u "canEncode"), (14, u "(C)Z"), (15, u "$assertionsDisabled"), (0, u "Z"), (98, .class_ 223), (1, u "java/lang/StringLatin1$LinesSpliterator"), (156, u "toBytes"), (1, u "(C)[B"), (7, .class_ 391), (0, u "java/lang/StringLatin1$CharsSpliterator")] 3

def k28m0 : Method := { name := "<init>", desc := "()V", sig := { parameters := [], returnType := none }, accessFlags := 0, code := none }
def k28c1 : Code := { maxStack := 2, maxLocals := 1, code := jdk_43_method_3_code, exceptionTable := #[], attributes := #[] }
def k28m1 : Method := { name := "canEncode", desc := "(C)Z", sig := { parameters := [.char], returnType := some .boolean }, accessFlags := 9, code := some k28c1 }
def k28c2 : Code := { maxStack := 4, maxLocals := 1, code := jdk_43_method_46_code, exceptionTable := #[], attributes := #[] }
def k28m2 : Method := { name := "toBytes", desc := "(C)[B", sig := { parameters := [.char], returnType := some (.array .byte) }, accessFlags := 9, code := some k28c2 }
/-- java/lang/StringLatin1 -/
def k28 : Class := { plain "java/lang/StringLatin1" (some 0) with
  accessFlags := 48
  interfaces := #[]
  cf := some (fileOf pool28 14 #[.nestMembers #[390, 221]] #[{ accessFlags := 0, nameIndex := 7, descriptorIndex := 8, attributes := #[] }, { accessFlags := 9, nameIndex := 90, descriptorIndex := 105, attributes := #[] }, { accessFlags := 9, nameIndex := 380, descriptorIndex := 382, attributes := #[] }] 48 4 #[] #[{ accessFlags := 4120, nameIndex := 121, descriptorIndex := 122, attributes := #[] }])
  fields := #[{ name := "$assertionsDisabled", type := .boolean, accessFlags := 4120, slot := 0, constantValue := 0 }]
  methods := #[k28m0, k28m1, k28m2]
  instanceTypes := #[]
  staticTypes := #[.boolean]
  resolved := Array.replicate 395 none
  statics := none }

def pool29 : Array CpInfo := pool [(2, .class_ 4), (1, u "java/lang/Object"), (0, u "<init>"), (0, u "()V"), (7, .class_ 16), (1, u "java/util/Arrays"), (57, .class_ 76), (1, u "java/util/Arrays$NaturalOrder"), (9, .methodref 2 87), (0, .nameAndType 88 89), (0, u "getClass"), (0, u "()Ljava/lang/Class;"), (20, .class_ 111), (0, u "[Ljava/lang/Object;"), (1, .class_ 115), (1, u "java/util/Arrays$LegacyMergeSort"), (1, u "Z"), (32, .methodref 151 152), (0, .class_ 153), (0, .nameAndType 154 155), (0, u "java/lang/System"), (0, u "arraycopy"), (0, u "(Ljava/lang/Object;ILjava/lang/Object;II)V"), (144, .methodref 14 301), (0, .nameAndType 302 303), (0, u "copyOf"), (0, u "([Ljava/lang/Object;ILjava/lang/Class;)[Ljava/lang/Object;"), (0, .methodref 305 306), (0, .class_ 307), (0, .nameAndType 308 309), (0, u "java/lang/Math"), (0, u "min"), (0, u "(II)I"), (65, .class_ 376), (0, u "java/util/Arrays$ArrayList"), (68, u "$assertionsDisabled"), (269, u "MIN_ARRAY_SORT_GRAN"), (0, u "I"), (2, u "INSERTIONSORT_THRESHOLD"), (140, u "([Ljava/lang/Object;I)[Ljava/lang/Object;"), (114, .class_ 976), (0, u "java/util/Arrays$ArrayItr")] 52

def k29m0 : Method := { name := "<init>", desc := "()V", sig := { parameters := [], returnType := none }, accessFlags := 2, code := none }
def k29c1 : Code := { maxStack := 3, maxLocals := 2, code := jdk_65_method_119_code, exceptionTable := #[], attributes := #[] }
def k29m1 : Method := { name := "copyOf", desc := "([Ljava/lang/Object;I)[Ljava/lang/Object;", sig := { parameters := [(.array (.object "java/lang/Object")), .int], returnType := some (.array (.object "java/lang/Object")) }, accessFlags := 9, code := some k29c1 }
def k29c2 : Code := { maxStack := 6, maxLocals := 4, code := jdk_65_method_120_code, exceptionTable := #[], attributes := #[] }
def k29m2 : Method := { name := "copyOf", desc := "([Ljava/lang/Object;ILjava/lang/Class;)[Ljava/lang/Object;", sig := { parameters := [(.array (.object "java/lang/Object")), .int, (.object "java/lang/Class")], returnType := some (.array (.object "java/lang/Object")) }, accessFlags := 9, code := some k29c2 }
/-- java/util/Arrays -/
def k29 : Class := { plain "java/util/Arrays" (some 0) with
  accessFlags := 49
  interfaces := #[]
  cf := some (fileOf pool29 14 #[.nestMembers #[975, 375, 113, 74]] #[{ accessFlags := 2, nameIndex := 5, descriptorIndex := 6, attributes := #[] }, { accessFlags := 9, nameIndex := 302, descriptorIndex := 860, attributes := #[] }, { accessFlags := 9, nameIndex := 302, descriptorIndex := 303, attributes := #[] }] 49 2 #[] #[{ accessFlags := 26, nameIndex := 715, descriptorIndex := 716, attributes := #[] }, { accessFlags := 26, nameIndex := 719, descriptorIndex := 716, attributes := #[] }, { accessFlags := 4120, nameIndex := 445, descriptorIndex := 117, attributes := #[] }])
  fields := #[{ name := "MIN_ARRAY_SORT_GRAN", type := .int, accessFlags := 26, slot := 0, constantValue := 0 }, { name := "INSERTIONSORT_THRESHOLD", type := .int, accessFlags := 26, slot := 1, constantValue := 0 }, { name := "$assertionsDisabled", type := .boolean, accessFlags := 4120, slot := 2, constantValue := 0 }]
  methods := #[k29m0, k29m1, k29m2]
  instanceTypes := #[]
  staticTypes := #[.int, .int, .boolean]
  resolved := Array.replicate 1029 none
  statics := none }

def pool30 : Array CpInfo := pool [(2, .class_ 4), (1, u "java/lang/Object"), (0, u "<init>"), (0, u "()V"), (1, .class_ 10), (1, u "java/lang/System"), (0, u "allowSecurityManager"), (0, u "I"), (16, u "cons"), (0, u "Ljava/io/Console;"), (77, .class_ 110), (1, u "java/lang/System$CallersHolder"), (43, u "initialErrStream"), (0, u "Ljava/io/PrintStream;"), (19, u "security"), (0, u "Ljava/lang/SecurityManager;"), (31, .class_ 209), (0, u "java/lang/System$1"), (7, u "props"), (0, u "Ljava/util/Properties;"), (2, u "lineSeparator"), (0, u "Ljava/lang/String;"), (96, .class_ 321), (1, u "java/lang/System$LoggerFinder"), (5, .class_ 328), (0, u "java/lang/System$Logger"), (67, u "err"), (2, u "out"), (91, u "notSupportedJnuEncoding"), (15, u "in"), (17, u "initialIn"), (0, u "Ljava/io/InputStream;"), (35, u "bootLayer"), (0, u "Ljava/lang/ModuleLayer;"), (99, .class_ 664), (0, u "java/lang/System$2"), (9, u "NEVER"), (2, u "MAYBE"), (49, u "arraycopy"), (0, u "(Ljava/lang/Object;ILjava/lang/Object;II)V"), (72, .class_ 802), (0, u "java/lang/System$Logger$Level")] 31

def k30m0 : Method := { name := "<init>", desc := "()V", sig := { parameters := [], returnType := none }, accessFlags := 2, code := none }
def k30m1 : Method := { name := "arraycopy", desc := "(Ljava/lang/Object;ILjava/lang/Object;II)V", sig := { parameters := [(.object "java/lang/Object"), .int, (.object "java/lang/Object"), .int, .int], returnType := none }, accessFlags := 265, code := none }
/-- java/lang/System -/
def k30 : Class := { plain "java/lang/System" (some 0) with
  accessFlags := 49
  interfaces := #[]
  cf := some (fileOf pool30 8 #[.nestMembers #[319, 327, 801, 108, 663, 208]] #[{ accessFlags := 2, nameIndex := 5, descriptorIndex := 6, attributes := #[] }, { accessFlags := 265, nameIndex := 727, descriptorIndex := 728, attributes := #[] }] 49 2 #[] #[{ accessFlags := 25, nameIndex := 507, descriptorIndex := 526, attributes := #[] }, { accessFlags := 25, nameIndex := 399, descriptorIndex := 155, attributes := #[] }, { accessFlags := 25, nameIndex := 396, descriptorIndex := 155, attributes := #[] }, { accessFlags := 10, nameIndex := 525, descriptorIndex := 526, attributes := #[] }, { accessFlags := 26, nameIndex := 674, descriptorIndex := 12, attributes := #[] }, { accessFlags := 26, nameIndex := 677, descriptorIndex := 12, attributes := #[] }, { accessFlags := 10, nameIndex := 11, descriptorIndex := 12, attributes := #[] }, { accessFlags := 74, nameIndex := 175, descriptorIndex := 176, attributes := #[] }, { accessFlags := 10, nameIndex := 491, descriptorIndex := 222, attributes := #[] }, { accessFlags := 74, nameIndex := 29, descriptorIndex := 30, attributes := #[] }, { accessFlags := 74, nameIndex := 154, descriptorIndex := 155, attributes := #[] }, { accessFlags := 10, nameIndex := 217, descriptorIndex := 218, attributes := #[] }, { accessFlags := 10, nameIndex := 221, descriptorIndex := 222, attributes := #[] }, { accessFlags := 8, nameIndex := 562, descriptorIndex := 563, attributes := #[] }])
  fields := #[{ name := "in", type := (.object "java/io/InputStream"), accessFlags := 25, slot := 0, constantValue := 0 }, { name := "out", type := (.object "java/io/PrintStream"), accessFlags := 25, slot := 1, constantValue := 0 }, { name := "err", type := (.object "java/io/PrintStream"), accessFlags := 25, slot := 2, constantValue := 0 }, { name := "initialIn", type := (.object "java/io/InputStream"), accessFlags := 10, slot := 3, constantValue := 0 }, { name := "NEVER", type := .int, accessFlags := 26, slot := 4, constantValue := 0 }, { name := "MAYBE", type := .int, accessFlags := 26, slot := 5, constantValue := 0 }, { name := "allowSecurityManager", type := .int, accessFlags := 10, slot := 6, constantValue := 0 }, { name := "security", type := (.object "java/lang/SecurityManager"), accessFlags := 74, slot := 7, constantValue := 0 }, { name := "notSupportedJnuEncoding", type := (.object "java/lang/String"), accessFlags := 10, slot := 8, constantValue := 0 }, { name := "cons", type := (.object "java/io/Console"), accessFlags := 74, slot := 9, constantValue := 0 }, { name := "initialErrStream", type := (.object "java/io/PrintStream"), accessFlags := 74, slot := 10, constantValue := 0 }, { name := "props", type := (.object "java/util/Properties"), accessFlags := 10, slot := 11, constantValue := 0 }, { name := "lineSeparator", type := (.object "java/lang/String"), accessFlags := 10, slot := 12, constantValue := 0 }, { name := "bootLayer", type := (.object "java/lang/ModuleLayer"), accessFlags := 8, slot := 13, constantValue := 0 }]
  methods := #[k30m0, k30m1]
  instanceTypes := #[]
  staticTypes := #[(.object "java/io/InputStream"), (.object "java/io/PrintStream"), (.object "java/io/PrintStream"), (.object "java/io/InputStream"), .int, .int, .int, (.object "java/lang/SecurityManager"), (.object "java/lang/String"), (.object "java/io/Console"), (.object "java/io/PrintStream"), (.object "java/util/Properties"), (.object "java/lang/String"), (.object "java/lang/ModuleLayer")]
  resolved := Array.replicate 834 none
  statics := none }

def pool31 : Array CpInfo := pool [(2, .class_ 4), (1, u "java/lang/Object"), (0, u "<init>"), (0, u "()V"), (35, .class_ 44), (1, u "java/util/Objects"), (0, u "requireNonNull"), (0, u "(Ljava/lang/Object;)Ljava/lang/Object;")] 137

def k31m0 : Method := { name := "<init>", desc := "()V", sig := { parameters := [], returnType := none }, accessFlags := 2, code := none }
def k31c1 : Code := { maxStack := 2, maxLocals := 1, code := jdk_31_method_10_code, exceptionTable := #[], attributes := #[] }
def k31m1 : Method := { name := "requireNonNull", desc := "(Ljava/lang/Object;)Ljava/lang/Object;", sig := { parameters := [(.object "java/lang/Object")], returnType := some (.object "java/lang/Object") }, accessFlags := 9, code := some k31c1 }
/-- java/util/Objects -/
def k31 : Class := { plain "java/util/Objects" (some 0) with
  accessFlags := 49
  interfaces := #[]
  cf := some (fileOf pool31 42 #[] #[{ accessFlags := 2, nameIndex := 5, descriptorIndex := 6, attributes := #[] }, { accessFlags := 9, nameIndex := 45, descriptorIndex := 46, attributes := #[] }] 49 2 #[] #[])
  fields := #[]
  methods := #[k31m0, k31m1]
  instanceTypes := #[]
  staticTypes := #[]
  resolved := Array.replicate 184 none
  statics := none }

def pool32 : Array CpInfo := pool [(2, .class_ 4), (1, u "java/lang/Object"), (0, u "<init>"), (0, u "()V"), (17, .class_ 26), (1, u "jdk/internal/util/Preconditions"), (28, .class_ 56), (0, u "jdk/internal/util/Preconditions$4"), (57, .class_ 115), (0, u "jdk/internal/util/Preconditions$1"), (7, u "SIOOBE_FORMATTER"), (0, u "Ljava/util/function/BiFunction;"), (0, .class_ 126), (0, u "jdk/internal/util/Preconditions$2"), (3, u "AIOOBE_FORMATTER"), (0, .class_ 132), (0, u "jdk/internal/util/Preconditions$3"), (3, u "IOOBE_FORMATTER")] 57

def k32m0 : Method := { name := "<init>", desc := "()V", sig := { parameters := [], returnType := none }, accessFlags := 1, code := none }
/-- jdk/internal/util/Preconditions -/
def k32 : Class := { plain "jdk/internal/util/Preconditions" (some 0) with
  accessFlags := 33
  interfaces := #[]
  cf := some (fileOf pool32 24 #[.nestMembers #[55, 131, 125, 114]] #[{ accessFlags := 1, nameIndex := 5, descriptorIndex := 6, attributes := #[] }] 33 2 #[] #[{ accessFlags := 25, nameIndex := 123, descriptorIndex := 124, attributes := #[] }, { accessFlags := 25, nameIndex := 130, descriptorIndex := 124, attributes := #[] }, { accessFlags := 25, nameIndex := 136, descriptorIndex := 124, attributes := #[] }])
  fields := #[{ name := "SIOOBE_FORMATTER", type := (.object "java/util/function/BiFunction"), accessFlags := 25, slot := 0, constantValue := 0 }, { name := "AIOOBE_FORMATTER", type := (.object "java/util/function/BiFunction"), accessFlags := 25, slot := 1, constantValue := 0 }, { name := "IOOBE_FORMATTER", type := (.object "java/util/function/BiFunction"), accessFlags := 25, slot := 2, constantValue := 0 }]
  methods := #[k32m0]
  instanceTypes := #[]
  staticTypes := #[(.object "java/util/function/BiFunction"), (.object "java/util/function/BiFunction"), (.object "java/util/function/BiFunction")]
  resolved := Array.replicate 194 none
  statics := some 4 }

def pool33 : Array CpInfo := pool [(9, u "<init>"), (6, .class_ 18), (1, u "java/lang/Object"), (0, u "()V"), (1, .class_ 23), (1, u "jdk/internal/util/ArraysSupport"), (0, u "LOG2_ARRAY_LONG_INDEX_SCALE"), (0, u "I"), (2, u "U"), (0, u "Ljdk/internal/misc/Unsafe;"), (8, u "BIG_ENDIAN"), (0, u "Z"), (8, u "LOG2_BYTE_BIT_SIZE"), (4, u "LOG2_ARRAY_INT_INDEX_SCALE"), (54, u "JLA"), (0, u "Ljdk/internal/access/JavaLangAccess;"), (11, u "LOG2_ARRAY_BOOLEAN_INDEX_SCALE"), (9, u "LOG2_ARRAY_BYTE_INDEX_SCALE"), (5, u "LOG2_ARRAY_CHAR_INDEX_SCALE"), (5, u "LOG2_ARRAY_SHORT_INDEX_SCALE"), (18, u "LOG2_ARRAY_FLOAT_INDEX_SCALE"), (24, u "LOG2_ARRAY_DOUBLE_INDEX_SCALE"), (89, u "T_BOOLEAN"), (2, u "T_CHAR"), (1, u "T_FLOAT"), (1, u "T_DOUBLE"), (1, u "T_BYTE"), (1, u "T_SHORT"), (1, u "T_INT"), (1, u "T_LONG"), (1, u "SOFT_MAX_ARRAY_LENGTH")] 83

def k33m0 : Method := { name := "<init>", desc := "()V", sig := { parameters := [], returnType := none }, accessFlags := 2, code := none }
/-- jdk/internal/util/ArraysSupport -/
def k33 : Class := { plain "jdk/internal/util/ArraysSupport" (some 0) with
  accessFlags := 33
  interfaces := #[]
  cf := some (fileOf pool33 21 #[] #[{ accessFlags := 2, nameIndex := 9, descriptorIndex := 19, attributes := #[] }] 33 16 #[] #[{ accessFlags := 24, nameIndex := 28, descriptorIndex := 29, attributes := #[] }, { accessFlags := 26, nameIndex := 38, descriptorIndex := 39, attributes := #[] }, { accessFlags := 25, nameIndex := 121, descriptorIndex := 25, attributes := #[] }, { accessFlags := 25, nameIndex := 131, descriptorIndex := 25, attributes := #[] }, { accessFlags := 25, nameIndex := 137, descriptorIndex := 25, attributes := #[] }, { accessFlags := 25, nameIndex := 143, descriptorIndex := 25, attributes := #[] }, { accessFlags := 25, nameIndex := 53, descriptorIndex := 25, attributes := #[] }, { accessFlags := 25, nameIndex := 24, descriptorIndex := 25, attributes := #[] }, { accessFlags := 25, nameIndex := 162, descriptorIndex := 25, attributes := #[] }, { accessFlags := 25, nameIndex := 187, descriptorIndex := 25, attributes := #[] }, { accessFlags := 26, nameIndex := 48, descriptorIndex := 25, attributes := #[] }, { accessFlags := 25, nameIndex := 277, descriptorIndex := 25, attributes := #[] }, { accessFlags := 25, nameIndex := 280, descriptorIndex := 25, attributes := #[] }, { accessFlags := 25, nameIndex := 282, descriptorIndex := 25, attributes := #[] }, { accessFlags := 25, nameIndex := 284, descriptorIndex := 25, attributes := #[] }, { accessFlags := 25, nameIndex := 286, descriptorIndex := 25, attributes := #[] }, { accessFlags := 25, nameIndex := 288, descriptorIndex := 25, attributes := #[] }, { accessFlags := 25, nameIndex := 290, descriptorIndex := 25, attributes := #[] }, { accessFlags := 25, nameIndex := 292, descriptorIndex := 25, attributes := #[] }, { accessFlags := 26, nameIndex := 108, descriptorIndex := 109, attributes := #[] }, { accessFlags := 25, nameIndex := 294, descriptorIndex := 25, attributes := #[] }])
  fields := #[{ name := "U", type := (.object "jdk/internal/misc/Unsafe"), accessFlags := 24, slot := 0, constantValue := 0 }, { name := "BIG_ENDIAN", type := .boolean, accessFlags := 26, slot := 1, constantValue := 0 }, { name := "LOG2_ARRAY_BOOLEAN_INDEX_SCALE", type := .int, accessFlags := 25, slot := 2, constantValue := 0 }, { name := "LOG2_ARRAY_BYTE_INDEX_SCALE", type := .int, accessFlags := 25, slot := 3, constantValue := 0 }, { name := "LOG2_ARRAY_CHAR_INDEX_SCALE", type := .int, accessFlags := 25, slot := 4, constantValue := 0 }, { name := "LOG2_ARRAY_SHORT_INDEX_SCALE", type := .int, accessFlags := 25, slot := 5, constantValue := 0 }, { name := "LOG2_ARRAY_INT_INDEX_SCALE", type := .int, accessFlags := 25, slot := 6, constantValue := 0 }, { name := "LOG2_ARRAY_LONG_INDEX_SCALE", type := .int, accessFlags := 25, slot := 7, constantValue := 0 }, { name := "LOG2_ARRAY_FLOAT_INDEX_SCALE", type := .int, accessFlags := 25, slot := 8, constantValue := 0 }, { name := "LOG2_ARRAY_DOUBLE_INDEX_SCALE", type := .int, accessFlags := 25, slot := 9, constantValue := 0 }, { name := "LOG2_BYTE_BIT_SIZE", type := .int, accessFlags := 26, slot := 10, constantValue := 0 }, { name := "T_BOOLEAN", type := .int, accessFlags := 25, slot := 11, constantValue := 0 }, { name := "T_CHAR", type := .int, accessFlags := 25, slot := 12, constantValue := 0 }, { name := "T_FLOAT", type := .int, accessFlags := 25, slot := 13, constantValue := 0 }, { name := "T_DOUBLE", type := .int, accessFlags := 25, slot := 14, constantValue := 0 }, { name := "T_BYTE", type := .int, accessFlags := 25, slot := 15, constantValue := 0 }, { name := "T_SHORT", type := .int, accessFlags := 25, slot := 16, constantValue := 0 }, { name := "T_INT", type := .int, accessFlags := 25, slot := 17, constantValue := 0 }, { name := "T_LONG", type := .int, accessFlags := 25, slot := 18, constantValue := 0 }, { name := "JLA", type := (.object "jdk/internal/access/JavaLangAccess"), accessFlags := 26, slot := 19, constantValue := 0 }, { name := "SOFT_MAX_ARRAY_LENGTH", type := .int, accessFlags := 25, slot := 20, constantValue := 0 }]
  methods := #[k33m0]
  instanceTypes := #[]
  staticTypes := #[(.object "jdk/internal/misc/Unsafe"), .boolean, .int, .int, .int, .int, .int, .int, .int, .int, .int, .int, .int, .int, .int, .int, .int, .int, .int, (.object "jdk/internal/access/JavaLangAccess"), .int]
  resolved := Array.replicate 378 none
  statics := none }

def pool34 : Array CpInfo := pool [(1, u "java/lang/Class"), (0, .class_ 1), (0, u "java/lang/Object"), (0, .class_ 3)] 3

/-- java/lang/Class -/
def k34 : Class := { plain "java/lang/Class" (some 0) with
  accessFlags := 49
  interfaces := #[]
  cf := some (fileOf pool34 2 #[] #[] 49 4 #[] #[])
  fields := #[]
  methods := #[]
  instanceTypes := #[]
  staticTypes := #[]
  resolved := Array.replicate 8 none
  statics := none }

/-- the primitive byte -/
def k35 : Class := { plain "byte" none with kind := .primitive 'B', accessFlags := 0x411 }
/-- [B -/
def k36 : Class := { plain "[B" (some 0) with kind := .array 35 .byte, interfaces := #[17, 7], accessFlags := 1041 }

/-- the primitive int -/
def k37 : Class := { plain "int" none with kind := .primitive 'I', accessFlags := 0x411 }
/-- [I -/
def k38 : Class := { plain "[I" (some 0) with kind := .array 37 .int, interfaces := #[17, 7], accessFlags := 1041 }

/-- [Ljava/lang/Object; -/
def k39 : Class := { plain "[Ljava/lang/Object;" (some 0) with kind := .array 0 (.object "java/lang/Object"), interfaces := #[17, 7], accessFlags := 1041, mirror := some 5 }

def heap : Heap := #[{ cls := 9, slots := #[.ref 8, .null, .ref 8, .null, .null, .null, .null, .null, .ref 8, .null, .null, .null, .ref 8, .null], vm := .statics 9 },
  { cls := 18, slots := #[.long 0, .int 0, .ref 9, .ref 10], vm := .statics 18 },
  { cls := 21, slots := #[.long 0, .int 1, .null, .int 0, .null, .int 0, .int 0], vm := .statics 21 },
  { cls := 22, slots := #[.long 0, .int 0, .null, .ref 11, .ref 7, .null, .null, .null, .int 0, .int 1], vm := .statics 22 },
  { cls := 32, slots := #[.null, .null, .null], vm := .statics 32 },
  { cls := 34, slots := #[], vm := .mirror 39 },
  { cls := 39, slots := #[], vm := .none },
  { cls := 26, slots := #[.ref 6, .int 0], vm := .none },
  { cls := 9, slots := #[.null, .int 0, .int 0, .null, .null], vm := .none },
  { cls := 39, slots := #[], vm := .none },
  { cls := 39, slots := #[], vm := .none },
  { cls := 0, slots := #[], vm := .none }]
def classes : Array Class := #[k0, k1, k2, k3, k4, k5, k6, k7, k8, k9, k10, k11, k12, k13, k14, k15, k16, k17, k18, k19, k20, k21, k22, k23, k24, k25, k26, k27, k28, k29, k30, k31, k32, k33, k34, k35, k36, k37, k38, k39]
def interned : List (Array UInt16 × Addr) := []
def slotsUsed : Nat := 45
def theMethod : MethodId := ⟨1, 2⟩
def args0 : Array Value := #[.int 5, .int 4, .int 65]
def aboutOver (below : List Frame) : State where
  vm := { classes := classes, interned := interned.toArray }
  heap := heap
  slotsUsed := slotsUsed
  threads := #[{ frames := .invoking theMethod args0 :: below }]
def below0 : List Frame := [.native { method := ⟨0, 0⟩, args := #[] }]
def about1 : State := aboutOver below0
def p0 : Program := .bare "" "" ""
def e0 : Env := launch0.env 0 0 0
theorem w_frames : about1.frames = Frame.invoking theMethod args0 :: below0 := rfl
set_option maxRecDepth 65536 in
theorem w_args : argsFit about1.vm theMethod args0 = true := by decide +kernel
set_option maxRecDepth 65536 in
theorem w_heap : heapFits about1 = true := by decide +kernel
set_option maxRecDepth 65536 in
theorem w_runnable : about1.curStatus? = some .runnable := by decide +kernel
set_option maxRecDepth 65536 in
theorem w_alone : about1.alone = true := by decide +kernel
set_option maxRecDepth 65536 in
theorem w_named : about1.methodNamed? x = some theMethod := by decide +kernel
set_option maxRecDepth 65536 in
theorem w_hears : about1.hears theMethod below0 = true := by decide +kernel
set_option maxRecDepth 65536 in
theorem w_ripe : about1.ripe theMethod args0 below0 = true := by decide +kernel
theorem w_running : about1.status = .running := rfl
set_option maxRecDepth 65536 in
theorem w_room : about1.hasRoom e0.platform room_1 = true :=
  launch0.hasRoom_least _ room_1 (by decide +kernel) (by decide +kernel) (by decide +kernel) (by decide +kernel) (by decide +kernel) (by decide +kernel)
theorem allAtoms_all (ts : List Jvm.Cond) (a : Array Jvm.Value) (st : Jvm.State) : (allAtoms ts).before a st = ts.all (fun c => c.before a st) := by
  induction ts with
  | nil => rfl
  | cons c t ih =>
    show (Jvm.Cond.and c (allAtoms t)).before a st = _
    rw [Jvm.Cond.before_and, ih, List.all_cons]
def words1 : List Jvm.Cond := Jvm.Cond.code x code maxLocals ret :: tables_1
/-- a 'code' word, met by the world's own term for the bytes: nothing is compared byte by byte -/
theorem code_word {y : MethodName} {bytes : ByteArray} {mx : Nat} {rt : Option FieldType} {a : Array Value} {s : State} {m : MethodId} {meth : Method} {c : Code} (h1 : s.methodNamed? y = some m) (h2 : s.vm.method? m = some meth) (h3 : meth.code = some c) (h4 : c.code = bytes)
    (h5 : (c.maxLocals == mx && c.exceptionTable.isEmpty && decide (c.maxStack ≤ mostOperands) && decide (meth.sig.returnType = rt) && !meth.locks && decide (parseMethodDescriptor y.desc = some meth.sig)) = true) : (Jvm.Cond.code y bytes mx rt).before a s = true := by
  simp only [Bool.and_eq_true, beq_iff_eq, Bool.not_eq_true', decide_eq_true_eq] at h5
  obtain ⟨⟨⟨⟨⟨g1, g2⟩, g3⟩, g4⟩, g5⟩, g6⟩ := h5
  simp [Cond.before, Cond.holds, Cond.value, h1, h2, h3, h4, g1, g2, g3, g4, g5, g6]
def isCode : Jvm.Cond → Bool
  | .code _ _ _ _ => true
  | _ => false
theorem all_split {L : List Jvm.Cond} {P : Jvm.Cond → Bool} (h1 : L.all (fun c => isCode c || P c) = true) (h2 : ∀ c ∈ L.filter isCode, P c = true) : L.all P = true := by
  refine List.all_eq_true.mpr fun c hc => ?_
  have h := List.all_eq_true.mp h1 c hc
  rcases Bool.eq_false_or_eq_true (isCode c) with hi | hi
  · exact h2 c (List.mem_filter.mpr ⟨hc, hi⟩)
  · simpa [hi] using h
set_option maxRecDepth 65536 in
theorem w_c0 : (Jvm.Cond.code x code maxLocals ret).before args0 about1 = true := code_word (m := ⟨1, 2⟩) (meth := k1m2) (c := k1c2) (by decide +kernel) rfl rfl rfl (by decide +kernel)
set_option maxRecDepth 65536 in
theorem w_c1 : (Jvm.Cond.code ({ cls := "java/util/ArrayList", name := "<init>", desc := "()V" } : Jvm.MethodName) jdk_38_method_2_code (1 : Nat) (Option.none : Option Jvm.ClassFile.FieldType)).before args0 about1 = true := code_word (m := ⟨18, 0⟩) (meth := k18m0) (c := k18c0) (by decide +kernel) rfl rfl rfl (by decide +kernel)
set_option maxRecDepth 65536 in
theorem w_c2 : (Jvm.Cond.code ({ cls := "java/util/AbstractList", name := "<init>", desc := "()V" } : Jvm.MethodName) jdk_39_method_1_code (1 : Nat) (Option.none : Option Jvm.ClassFile.FieldType)).before args0 about1 = true := code_word (m := ⟨15, 0⟩) (meth := k15m0) (c := k15c0) (by decide +kernel) rfl rfl rfl (by decide +kernel)
set_option maxRecDepth 65536 in
theorem w_c3 : (Jvm.Cond.code ({ cls := "java/util/AbstractCollection", name := "<init>", desc := "()V" } : Jvm.MethodName) jdk_22_method_1_code (1 : Nat) (Option.none : Option Jvm.ClassFile.FieldType)).before args0 about1 = true := code_word (m := ⟨12, 0⟩) (meth := k12m0) (c := k12c0) (by decide +kernel) rfl rfl rfl (by decide +kernel)
set_option maxRecDepth 65536 in
theorem w_c4 : (Jvm.Cond.code ({ cls := "java/lang/Object", name := "<init>", desc := "()V" } : Jvm.MethodName) object_method_1_code (1 : Nat) (Option.none : Option Jvm.ClassFile.FieldType)).before args0 about1 = true := code_word (m := ⟨0, 0⟩) (meth := k0m0) (c := k0c0) (by decide +kernel) rfl rfl rfl (by decide +kernel)
set_option maxRecDepth 65536 in
theorem w_c5 : (Jvm.Cond.code ({ cls := "com/example/tyche/tyche/model/jani/Expression$Operation", name := "<init>", desc := "(Lcom/example/tyche/tyche/model/jani/Operator;Ljava/util/List;Ljava/lang/String;)V" } : Jvm.MethodName) prog_67_method_1_code (4 : Nat) (Option.none : Option Jvm.ClassFile.FieldType)).before args0 about1 = true := code_word (m := ⟨4, 0⟩) (meth := k4m0) (c := k4c0) (by decide +kernel) rfl rfl rfl (by decide +kernel)
set_option maxRecDepth 65536 in
theorem w_c6 : (Jvm.Cond.code ({ cls := "java/lang/Record", name := "<init>", desc := "()V" } : Jvm.MethodName) jdk_30_method_1_code (1 : Nat) (Option.none : Option Jvm.ClassFile.FieldType)).before args0 about1 = true := code_word (m := ⟨2, 0⟩) (meth := k2m0) (c := k2c0) (by decide +kernel) rfl rfl rfl (by decide +kernel)
set_option maxRecDepth 65536 in
theorem w_c7 : (Jvm.Cond.code ({ cls := "java/util/List", name := "copyOf", desc := "(Ljava/util/Collection;)Ljava/util/List;" } : Jvm.MethodName) jdk_40_method_48_code (1 : Nat) (Option.some (Jvm.ClassFile.FieldType.object "java/util/List"))).before args0 about1 = true := code_word (m := ⟨14, 4⟩) (meth := k14m4) (c := k14c4) (by decide +kernel) rfl rfl rfl (by decide +kernel)
set_option maxRecDepth 65536 in
theorem w_c8 : (Jvm.Cond.code ({ cls := "java/util/ImmutableCollections", name := "listCopy", desc := "(Ljava/util/Collection;)Ljava/util/List;" } : Jvm.MethodName) jdk_56_method_3_code (2 : Nat) (Option.some (Jvm.ClassFile.FieldType.object "java/util/List"))).before args0 about1 = true := code_word (m := ⟨22, 1⟩) (meth := k22m1) (c := k22c1) (by decide +kernel) rfl rfl rfl (by decide +kernel)
set_option maxRecDepth 65536 in
theorem w_c9 : (Jvm.Cond.code ({ cls := "java/util/ArrayList", name := "isEmpty", desc := "()Z" } : Jvm.MethodName) jdk_38_method_9_code (1 : Nat) (Option.some Jvm.ClassFile.FieldType.boolean)).before args0 about1 = true := code_word (m := ⟨18, 3⟩) (meth := k18m3) (c := k18c3) (by decide +kernel) rfl rfl rfl (by decide +kernel)
set_option maxRecDepth 65536 in
theorem w_c10 : (Jvm.Cond.code ({ cls := "java/util/List", name := "of", desc := "()Ljava/util/List;" } : Jvm.MethodName) jdk_40_method_36_code (0 : Nat) (Option.some (Jvm.ClassFile.FieldType.object "java/util/List"))).before args0 about1 = true := code_word (m := ⟨14, 2⟩) (meth := k14m2) (c := k14c2) (by decide +kernel) rfl rfl rfl (by decide +kernel)
set_option maxRecDepth 65536 in
theorem w_c11 : (Jvm.Cond.code ({ cls := "java/util/ArrayList", name := "add", desc := "(Ljava/lang/Object;)Z" } : Jvm.MethodName) jdk_38_method_25_code (2 : Nat) (Option.some Jvm.ClassFile.FieldType.boolean)).before args0 about1 = true := code_word (m := ⟨18, 6⟩) (meth := k18m6) (c := k18c6) (by decide +kernel) rfl rfl rfl (by decide +kernel)
set_option maxRecDepth 65536 in
theorem w_c12 : (Jvm.Cond.code ({ cls := "java/util/ArrayList", name := "add", desc := "(Ljava/lang/Object;[Ljava/lang/Object;I)V" } : Jvm.MethodName) jdk_38_method_24_code (4 : Nat) (Option.none : Option Jvm.ClassFile.FieldType)).before args0 about1 = true := code_word (m := ⟨18, 5⟩) (meth := k18m5) (c := k18c5) (by decide +kernel) rfl rfl rfl (by decide +kernel)
set_option maxRecDepth 65536 in
theorem w_c13 : (Jvm.Cond.code ({ cls := "java/util/ArrayList", name := "grow", desc := "()[Ljava/lang/Object;" } : Jvm.MethodName) jdk_38_method_7_code (1 : Nat) (Option.some (Jvm.ClassFile.FieldType.array (Jvm.ClassFile.FieldType.object "java/lang/Object")))).before args0 about1 = true := code_word (m := ⟨18, 2⟩) (meth := k18m2) (c := k18c2) (by decide +kernel) rfl rfl rfl (by decide +kernel)
set_option maxRecDepth 65536 in
theorem w_c14 : (Jvm.Cond.code ({ cls := "java/util/ArrayList", name := "grow", desc := "(I)[Ljava/lang/Object;" } : Jvm.MethodName) jdk_38_method_6_code (4 : Nat) (Option.some (Jvm.ClassFile.FieldType.array (Jvm.ClassFile.FieldType.object "java/lang/Object")))).before args0 about1 = true := code_word (m := ⟨18, 1⟩) (meth := k18m1) (c := k18c1) (by decide +kernel) rfl rfl rfl (by decide +kernel)
set_option maxRecDepth 65536 in
theorem w_c15 : (Jvm.Cond.code ({ cls := "java/lang/Math", name := "max", desc := "(II)I" } : Jvm.MethodName) jdk_29_method_65_code (2 : Nat) (Option.some Jvm.ClassFile.FieldType.int)).before args0 about1 = true := code_word (m := ⟨27, 1⟩) (meth := k27m1) (c := k27c1) (by decide +kernel) rfl rfl rfl (by decide +kernel)
set_option maxRecDepth 65536 in
theorem w_c16 : (Jvm.Cond.code ({ cls := "java/lang/String", name := "valueOf", desc := "(C)Ljava/lang/String;" } : Jvm.MethodName) jdk_42_method_139_code (1 : Nat) (Option.some (Jvm.ClassFile.FieldType.object "java/lang/String"))).before args0 about1 = true := code_word (m := ⟨21, 1⟩) (meth := k21m1) (c := k21c1) (by decide +kernel) rfl rfl rfl (by decide +kernel)
set_option maxRecDepth 65536 in
theorem w_c17 : (Jvm.Cond.code ({ cls := "java/lang/StringLatin1", name := "canEncode", desc := "(C)Z" } : Jvm.MethodName) jdk_43_method_3_code (1 : Nat) (Option.some Jvm.ClassFile.FieldType.boolean)).before args0 about1 = true := code_word (m := ⟨28, 1⟩) (meth := k28m1) (c := k28c1) (by decide +kernel) rfl rfl rfl (by decide +kernel)
set_option maxRecDepth 65536 in
theorem w_c18 : (Jvm.Cond.code ({ cls := "java/lang/StringLatin1", name := "toBytes", desc := "(C)[B" } : Jvm.MethodName) jdk_43_method_46_code (1 : Nat) (Option.some (Jvm.ClassFile.FieldType.array Jvm.ClassFile.FieldType.byte))).before args0 about1 = true := code_word (m := ⟨28, 2⟩) (meth := k28m2) (c := k28c2) (by decide +kernel) rfl rfl rfl (by decide +kernel)
set_option maxRecDepth 65536 in
theorem w_c19 : (Jvm.Cond.code ({ cls := "java/lang/String", name := "<init>", desc := "([BB)V" } : Jvm.MethodName) jdk_42_method_151_code (3 : Nat) (Option.none : Option Jvm.ClassFile.FieldType)).before args0 about1 = true := code_word (m := ⟨21, 2⟩) (meth := k21m2) (c := k21c2) (by decide +kernel) rfl rfl rfl (by decide +kernel)
set_option maxRecDepth 65536 in
theorem w_c20 : (Jvm.Cond.code ({ cls := "java/util/ArrayList", name := "toArray", desc := "()[Ljava/lang/Object;" } : Jvm.MethodName) jdk_38_method_16_code (1 : Nat) (Option.some (Jvm.ClassFile.FieldType.array (Jvm.ClassFile.FieldType.object "java/lang/Object")))).before args0 about1 = true := code_word (m := ⟨18, 4⟩) (meth := k18m4) (c := k18c4) (by decide +kernel) rfl rfl rfl (by decide +kernel)
set_option maxRecDepth 65536 in
theorem w_c21 : (Jvm.Cond.code ({ cls := "java/util/Arrays", name := "copyOf", desc := "([Ljava/lang/Object;I)[Ljava/lang/Object;" } : Jvm.MethodName) jdk_65_method_119_code (2 : Nat) (Option.some (Jvm.ClassFile.FieldType.array (Jvm.ClassFile.FieldType.object "java/lang/Object")))).before args0 about1 = true := code_word (m := ⟨29, 1⟩) (meth := k29m1) (c := k29c1) (by decide +kernel) rfl rfl rfl (by decide +kernel)
set_option maxRecDepth 65536 in
theorem w_c22 : (Jvm.Cond.code ({ cls := "java/util/Arrays", name := "copyOf", desc := "([Ljava/lang/Object;ILjava/lang/Class;)[Ljava/lang/Object;" } : Jvm.MethodName) jdk_65_method_120_code (4 : Nat) (Option.some (Jvm.ClassFile.FieldType.array (Jvm.ClassFile.FieldType.object "java/lang/Object")))).before args0 about1 = true := code_word (m := ⟨29, 2⟩) (meth := k29m2) (c := k29c2) (by decide +kernel) rfl rfl rfl (by decide +kernel)
set_option maxRecDepth 65536 in
theorem w_c23 : (Jvm.Cond.code ({ cls := "java/lang/Math", name := "min", desc := "(II)I" } : Jvm.MethodName) jdk_29_method_69_code (2 : Nat) (Option.some Jvm.ClassFile.FieldType.int)).before args0 about1 = true := code_word (m := ⟨27, 2⟩) (meth := k27m2) (c := k27c2) (by decide +kernel) rfl rfl rfl (by decide +kernel)
set_option maxRecDepth 65536 in
theorem w_c24 : (Jvm.Cond.code ({ cls := "java/util/List", name := "of", desc := "([Ljava/lang/Object;)Ljava/util/List;" } : Jvm.MethodName) jdk_40_method_47_code (2 : Nat) (Option.some (Jvm.ClassFile.FieldType.object "java/util/List"))).before args0 about1 = true := code_word (m := ⟨14, 3⟩) (meth := k14m3) (c := k14c3) (by decide +kernel) rfl rfl rfl (by decide +kernel)
set_option maxRecDepth 65536 in
theorem w_c25 : (Jvm.Cond.code ({ cls := "java/util/ImmutableCollections$List12", name := "<init>", desc := "(Ljava/lang/Object;)V" } : Jvm.MethodName) jdk_44_method_1_code (2 : Nat) (Option.none : Option Jvm.ClassFile.FieldType)).before args0 about1 = true := code_word (m := ⟨25, 0⟩) (meth := k25m0) (c := k25c0) (by decide +kernel) rfl rfl rfl (by decide +kernel)
set_option maxRecDepth 65536 in
theorem w_c26 : (Jvm.Cond.code ({ cls := "java/util/ImmutableCollections$AbstractImmutableList", name := "<init>", desc := "()V" } : Jvm.MethodName) jdk_46_method_1_code (1 : Nat) (Option.none : Option Jvm.ClassFile.FieldType)).before args0 about1 = true := code_word (m := ⟨24, 0⟩) (meth := k24m0) (c := k24c0) (by decide +kernel) rfl rfl rfl (by decide +kernel)
set_option maxRecDepth 65536 in
theorem w_c27 : (Jvm.Cond.code ({ cls := "java/util/ImmutableCollections$AbstractImmutableCollection", name := "<init>", desc := "()V" } : Jvm.MethodName) jdk_47_method_1_code (1 : Nat) (Option.none : Option Jvm.ClassFile.FieldType)).before args0 about1 = true := code_word (m := ⟨23, 0⟩) (meth := k23m0) (c := k23c0) (by decide +kernel) rfl rfl rfl (by decide +kernel)
set_option maxRecDepth 65536 in
theorem w_c28 : (Jvm.Cond.code ({ cls := "java/util/Objects", name := "requireNonNull", desc := "(Ljava/lang/Object;)Ljava/lang/Object;" } : Jvm.MethodName) jdk_31_method_10_code (1 : Nat) (Option.some (Jvm.ClassFile.FieldType.object "java/lang/Object"))).before args0 about1 = true := code_word (m := ⟨31, 1⟩) (meth := k31m1) (c := k31c1) (by decide +kernel) rfl rfl rfl (by decide +kernel)
set_option maxRecDepth 65536 in
theorem w_c29 : (Jvm.Cond.code ({ cls := "com/example/tyche/tyche/model/jani/Expression$Operation", name := "operand", desc := "(I)Lcom/example/tyche/tyche/model/jani/Expression;" } : Jvm.MethodName) prog_67_method_2_code (2 : Nat) (Option.some (Jvm.ClassFile.FieldType.object "com/example/tyche/tyche/model/jani/Expression"))).before args0 about1 = true := code_word (m := ⟨4, 1⟩) (meth := k4m1) (c := k4c1) (by decide +kernel) rfl rfl rfl (by decide +kernel)
set_option maxRecDepth 65536 in
theorem w_c30 : (Jvm.Cond.code ({ cls := "java/util/ImmutableCollections$List12", name := "get", desc := "(I)Ljava/lang/Object;" } : Jvm.MethodName) jdk_44_method_5_code (2 : Nat) (Option.some (Jvm.ClassFile.FieldType.object "java/lang/Object"))).before args0 about1 = true := code_word (m := ⟨25, 3⟩) (meth := k25m3) (c := k25c3) (by decide +kernel) rfl rfl rfl (by decide +kernel)
set_option maxRecDepth 65536 in
theorem w_c31 : (Jvm.Cond.code ({ cls := "com/example/tyche/tyche/model/jani/OperationOperandPinLaw", name := "pick", desc := "(ILcom/example/tyche/tyche/model/jani/Expression;Lcom/example/tyche/tyche/model/jani/Expression;Lcom/example/tyche/tyche/model/jani/Expression;)Lcom/example/tyche/tyche/model/jani/Expression;" } : Jvm.MethodName) method_2_code (4 : Nat) (Option.some (Jvm.ClassFile.FieldType.object "com/example/tyche/tyche/model/jani/Expression"))).before args0 about1 = true := code_word (m := ⟨1, 1⟩) (meth := k1m1) (c := k1c1) (by decide +kernel) rfl rfl rfl (by decide +kernel)
set_option maxRecDepth 65536 in
theorem w_c32 : (Jvm.Cond.code ({ cls := "com/example/tyche/tyche/model/jani/Expression$Operation", name := "operands", desc := "()Ljava/util/List;" } : Jvm.MethodName) prog_67_method_7_code (1 : Nat) (Option.some (Jvm.ClassFile.FieldType.object "java/util/List"))).before args0 about1 = true := code_word (m := ⟨4, 2⟩) (meth := k4m2) (c := k4c2) (by decide +kernel) rfl rfl rfl (by decide +kernel)
set_option maxRecDepth 65536 in
theorem w_c33 : (Jvm.Cond.code ({ cls := "java/util/ImmutableCollections$List12", name := "size", desc := "()I" } : Jvm.MethodName) jdk_44_method_3_code (1 : Nat) (Option.some Jvm.ClassFile.FieldType.int)).before args0 about1 = true := code_word (m := ⟨25, 2⟩) (meth := k25m2) (c := k25c2) (by decide +kernel) rfl rfl rfl (by decide +kernel)
set_option maxRecDepth 65536 in
theorem w_c34 : (Jvm.Cond.code ({ cls := "java/util/ImmutableCollections$List12", name := "<init>", desc := "(Ljava/lang/Object;Ljava/lang/Object;)V" } : Jvm.MethodName) jdk_44_method_2_code (3 : Nat) (Option.none : Option Jvm.ClassFile.FieldType)).before args0 about1 = true := code_word (m := ⟨25, 1⟩) (meth := k25m1) (c := k25c1) (by decide +kernel) rfl rfl rfl (by decide +kernel)
set_option maxRecDepth 65536 in
theorem w_c35 : (Jvm.Cond.code ({ cls := "java/util/ImmutableCollections", name := "listFromArray", desc := "([Ljava/lang/Object;)Ljava/util/List;" } : Jvm.MethodName) jdk_56_method_4_code (3 : Nat) (Option.some (Jvm.ClassFile.FieldType.object "java/util/List"))).before args0 about1 = true := code_word (m := ⟨22, 2⟩) (meth := k22m2) (c := k22c2) (by decide +kernel) rfl rfl rfl (by decide +kernel)
set_option maxRecDepth 65536 in
theorem w_c36 : (Jvm.Cond.code ({ cls := "java/util/ImmutableCollections$ListN", name := "<init>", desc := "([Ljava/lang/Object;Z)V" } : Jvm.MethodName) jdk_45_method_1_code (3 : Nat) (Option.none : Option Jvm.ClassFile.FieldType)).before args0 about1 = true := code_word (m := ⟨26, 0⟩) (meth := k26m0) (c := k26c0) (by decide +kernel) rfl rfl rfl (by decide +kernel)
set_option maxRecDepth 65536 in
theorem w_c37 : (Jvm.Cond.code ({ cls := "java/util/ImmutableCollections$ListN", name := "get", desc := "(I)Ljava/lang/Object;" } : Jvm.MethodName) jdk_45_method_4_code (2 : Nat) (Option.some (Jvm.ClassFile.FieldType.object "java/lang/Object"))).before args0 about1 = true := code_word (m := ⟨26, 2⟩) (meth := k26m2) (c := k26c2) (by decide +kernel) rfl rfl rfl (by decide +kernel)
set_option maxRecDepth 65536 in
theorem w_c38 : (Jvm.Cond.code ({ cls := "java/util/ImmutableCollections$ListN", name := "size", desc := "()I" } : Jvm.MethodName) jdk_45_method_3_code (1 : Nat) (Option.some Jvm.ClassFile.FieldType.int)).before args0 about1 = true := code_word (m := ⟨26, 1⟩) (meth := k26m1) (c := k26c1) (by decide +kernel) rfl rfl rfl (by decide +kernel)
def codes1 : List Jvm.Cond := [Jvm.Cond.code x code maxLocals ret, Jvm.Cond.code ({ cls := "java/util/ArrayList", name := "<init>", desc := "()V" } : Jvm.MethodName) jdk_38_method_2_code (1 : Nat) (Option.none : Option Jvm.ClassFile.FieldType), Jvm.Cond.code ({ cls := "java/util/AbstractList", name := "<init>", desc := "()V" } : Jvm.MethodName) jdk_39_method_1_code (1 : Nat) (Option.none : Option Jvm.ClassFile.FieldType), Jvm.Cond.code ({ cls := "java/util/AbstractCollection", name := "<init>", desc := "()V" } : Jvm.MethodName) jdk_22_method_1_code (1 : Nat) (Option.none : Option Jvm.ClassFile.FieldType), Jvm.Cond.code ({ cls := "java/lang/Object", name := "<init>", desc := "()V" } : Jvm.MethodName) object_method_1_code (1 : Nat) (Option.none : Option Jvm.ClassFile.FieldType), Jvm.Cond.code ({ cls := "com/example/tyche/tyche/model/jani/Expression$Operation", name := "<init>", desc := "(Lcom/example/tyche/tyche/model/jani/Operator;Ljava/util/List;Ljava/lang/String;)V" } : Jvm.MethodName) prog_67_method_1_code (4 : Nat) (Option.none : Option Jvm.ClassFile.FieldType), Jvm.Cond.code ({ cls := "java/lang/Record", name := "<init>", desc := "()V" } : Jvm.MethodName) jdk_30_method_1_code (1 : Nat) (Option.none : Option Jvm.ClassFile.FieldType), Jvm.Cond.code ({ cls := "java/util/List", name := "copyOf", desc := "(Ljava/util/Collection;)Ljava/util/List;" } : Jvm.MethodName) jdk_40_method_48_code (1 : Nat) (Option.some (Jvm.ClassFile.FieldType.object "java/util/List")), Jvm.Cond.code ({ cls := "java/util/ImmutableCollections", name := "listCopy", desc := "(Ljava/util/Collection;)Ljava/util/List;" } : Jvm.MethodName) jdk_56_method_3_code (2 : Nat) (Option.some (Jvm.ClassFile.FieldType.object "java/util/List")), Jvm.Cond.code ({ cls := "java/util/ArrayList", name := "isEmpty", desc := "()Z" } : Jvm.MethodName) jdk_38_method_9_code (1 : Nat) (Option.some Jvm.ClassFile.FieldType.boolean), Jvm.Cond.code ({ cls := "java/util/List", name := "of", desc := "()Ljava/util/List;" } : Jvm.MethodName) jdk_40_method_36_code (0 : Nat) (Option.some (Jvm.ClassFile.FieldType.object "java/util/List")), Jvm.Cond.code ({ cls := "java/util/ArrayList", name := "add", desc := "(Ljava/lang/Object;)Z" } : Jvm.MethodName) jdk_38_method_25_code (2 : Nat) (Option.some Jvm.ClassFile.FieldType.boolean), Jvm.Cond.code ({ cls := "java/util/ArrayList", name := "add", desc := "(Ljava/lang/Object;[Ljava/lang/Object;I)V" } : Jvm.MethodName) jdk_38_method_24_code (4 : Nat) (Option.none : Option Jvm.ClassFile.FieldType), Jvm.Cond.code ({ cls := "java/util/ArrayList", name := "grow", desc := "()[Ljava/lang/Object;" } : Jvm.MethodName) jdk_38_method_7_code (1 : Nat) (Option.some (Jvm.ClassFile.FieldType.array (Jvm.ClassFile.FieldType.object "java/lang/Object"))), Jvm.Cond.code ({ cls := "java/util/ArrayList", name := "grow", desc := "(I)[Ljava/lang/Object;" } : Jvm.MethodName) jdk_38_method_6_code (4 : Nat) (Option.some (Jvm.ClassFile.FieldType.array (Jvm.ClassFile.FieldType.object "java/lang/Object"))), Jvm.Cond.code ({ cls := "java/lang/Math", name := "max", desc := "(II)I" } : Jvm.MethodName) jdk_29_method_65_code (2 : Nat) (Option.some Jvm.ClassFile.FieldType.int), Jvm.Cond.code ({ cls := "java/lang/String", name := "valueOf", desc := "(C)Ljava/lang/String;" } : Jvm.MethodName) jdk_42_method_139_code (1 : Nat) (Option.some (Jvm.ClassFile.FieldType.object "java/lang/String")), Jvm.Cond.code ({ cls := "java/lang/StringLatin1", name := "canEncode", desc := "(C)Z" } : Jvm.MethodName) jdk_43_method_3_code (1 : Nat) (Option.some Jvm.ClassFile.FieldType.boolean), Jvm.Cond.code ({ cls := "java/lang/StringLatin1", name := "toBytes", desc := "(C)[B" } : Jvm.MethodName) jdk_43_method_46_code (1 : Nat) (Option.some (Jvm.ClassFile.FieldType.array Jvm.ClassFile.FieldType.byte)), Jvm.Cond.code ({ cls := "java/lang/String", name := "<init>", desc := "([BB)V" } : Jvm.MethodName) jdk_42_method_151_code (3 : Nat) (Option.none : Option Jvm.ClassFile.FieldType), Jvm.Cond.code ({ cls := "java/util/ArrayList", name := "toArray", desc := "()[Ljava/lang/Object;" } : Jvm.MethodName) jdk_38_method_16_code (1 : Nat) (Option.some (Jvm.ClassFile.FieldType.array (Jvm.ClassFile.FieldType.object "java/lang/Object"))), Jvm.Cond.code ({ cls := "java/util/Arrays", name := "copyOf", desc := "([Ljava/lang/Object;I)[Ljava/lang/Object;" } : Jvm.MethodName) jdk_65_method_119_code (2 : Nat) (Option.some (Jvm.ClassFile.FieldType.array (Jvm.ClassFile.FieldType.object "java/lang/Object"))), Jvm.Cond.code ({ cls := "java/util/Arrays", name := "copyOf", desc := "([Ljava/lang/Object;ILjava/lang/Class;)[Ljava/lang/Object;" } : Jvm.MethodName) jdk_65_method_120_code (4 : Nat) (Option.some (Jvm.ClassFile.FieldType.array (Jvm.ClassFile.FieldType.object "java/lang/Object"))), Jvm.Cond.code ({ cls := "java/lang/Math", name := "min", desc := "(II)I" } : Jvm.MethodName) jdk_29_method_69_code (2 : Nat) (Option.some Jvm.ClassFile.FieldType.int), Jvm.Cond.code ({ cls := "java/util/List", name := "of", desc := "([Ljava/lang/Object;)Ljava/util/List;" } : Jvm.MethodName) jdk_40_method_47_code (2 : Nat) (Option.some (Jvm.ClassFile.FieldType.object "java/util/List")), Jvm.Cond.code ({ cls := "java/util/ImmutableCollections$List12", name := "<init>", desc := "(Ljava/lang/Object;)V" } : Jvm.MethodName) jdk_44_method_1_code (2 : Nat) (Option.none : Option Jvm.ClassFile.FieldType), Jvm.Cond.code ({ cls := "java/util/ImmutableCollections$AbstractImmutableList", name := "<init>", desc := "()V" } : Jvm.MethodName) jdk_46_method_1_code (1 : Nat) (Option.none : Option Jvm.ClassFile.FieldType), Jvm.Cond.code ({ cls := "java/util/ImmutableCollections$AbstractImmutableCollection", name := "<init>", desc := "()V" } : Jvm.MethodName) jdk_47_method_1_code (1 : Nat) (Option.none : Option Jvm.ClassFile.FieldType), Jvm.Cond.code ({ cls := "java/util/Objects", name := "requireNonNull", desc := "(Ljava/lang/Object;)Ljava/lang/Object;" } : Jvm.MethodName) jdk_31_method_10_code (1 : Nat) (Option.some (Jvm.ClassFile.FieldType.object "java/lang/Object")), Jvm.Cond.code ({ cls := "com/example/tyche/tyche/model/jani/Expression$Operation", name := "operand", desc := "(I)Lcom/example/tyche/tyche/model/jani/Expression;" } : Jvm.MethodName) prog_67_method_2_code (2 : Nat) (Option.some (Jvm.ClassFile.FieldType.object "com/example/tyche/tyche/model/jani/Expression")), Jvm.Cond.code ({ cls := "java/util/ImmutableCollections$List12", name := "get", desc := "(I)Ljava/lang/Object;" } : Jvm.MethodName) jdk_44_method_5_code (2 : Nat) (Option.some (Jvm.ClassFile.FieldType.object "java/lang/Object")), Jvm.Cond.code ({ cls := "com/example/tyche/tyche/model/jani/OperationOperandPinLaw", name := "pick", desc := "(ILcom/example/tyche/tyche/model/jani/Expression;Lcom/example/tyche/tyche/model/jani/Expression;Lcom/example/tyche/tyche/model/jani/Expression;)Lcom/example/tyche/tyche/model/jani/Expression;" } : Jvm.MethodName) method_2_code (4 : Nat) (Option.some (Jvm.ClassFile.FieldType.object "com/example/tyche/tyche/model/jani/Expression")), Jvm.Cond.code ({ cls := "com/example/tyche/tyche/model/jani/Expression$Operation", name := "operands", desc := "()Ljava/util/List;" } : Jvm.MethodName) prog_67_method_7_code (1 : Nat) (Option.some (Jvm.ClassFile.FieldType.object "java/util/List")), Jvm.Cond.code ({ cls := "java/util/ImmutableCollections$List12", name := "size", desc := "()I" } : Jvm.MethodName) jdk_44_method_3_code (1 : Nat) (Option.some Jvm.ClassFile.FieldType.int), Jvm.Cond.code ({ cls := "java/util/ImmutableCollections$List12", name := "<init>", desc := "(Ljava/lang/Object;Ljava/lang/Object;)V" } : Jvm.MethodName) jdk_44_method_2_code (3 : Nat) (Option.none : Option Jvm.ClassFile.FieldType), Jvm.Cond.code ({ cls := "java/util/ImmutableCollections", name := "listFromArray", desc := "([Ljava/lang/Object;)Ljava/util/List;" } : Jvm.MethodName) jdk_56_method_4_code (3 : Nat) (Option.some (Jvm.ClassFile.FieldType.object "java/util/List")), Jvm.Cond.code ({ cls := "java/util/ImmutableCollections$ListN", name := "<init>", desc := "([Ljava/lang/Object;Z)V" } : Jvm.MethodName) jdk_45_method_1_code (3 : Nat) (Option.none : Option Jvm.ClassFile.FieldType), Jvm.Cond.code ({ cls := "java/util/ImmutableCollections$ListN", name := "get", desc := "(I)Ljava/lang/Object;" } : Jvm.MethodName) jdk_45_method_4_code (2 : Nat) (Option.some (Jvm.ClassFile.FieldType.object "java/lang/Object")), Jvm.Cond.code ({ cls := "java/util/ImmutableCollections$ListN", name := "size", desc := "()I" } : Jvm.MethodName) jdk_45_method_3_code (1 : Nat) (Option.some Jvm.ClassFile.FieldType.int)]
set_option maxRecDepth 65536 in
theorem codes_eq : words1.filter isCode = codes1 := rfl
theorem w_codes : ∀ c ∈ words1.filter isCode, c.before args0 about1 = true := by
  rw [codes_eq]
  intro c hc
  simp only [codes1, List.mem_cons, List.not_mem_nil, or_false] at hc
  rcases hc with rfl | rfl | rfl | rfl | rfl | rfl | rfl | rfl | rfl | rfl | rfl | rfl | rfl | rfl | rfl | rfl | rfl | rfl | rfl | rfl | rfl | rfl | rfl | rfl | rfl | rfl | rfl | rfl | rfl | rfl | rfl | rfl | rfl | rfl | rfl | rfl | rfl | rfl | rfl
  · exact w_c0
  · exact w_c1
  · exact w_c2
  · exact w_c3
  · exact w_c4
  · exact w_c5
  · exact w_c6
  · exact w_c7
  · exact w_c8
  · exact w_c9
  · exact w_c10
  · exact w_c11
  · exact w_c12
  · exact w_c13
  · exact w_c14
  · exact w_c15
  · exact w_c16
  · exact w_c17
  · exact w_c18
  · exact w_c19
  · exact w_c20
  · exact w_c21
  · exact w_c22
  · exact w_c23
  · exact w_c24
  · exact w_c25
  · exact w_c26
  · exact w_c27
  · exact w_c28
  · exact w_c29
  · exact w_c30
  · exact w_c31
  · exact w_c32
  · exact w_c33
  · exact w_c34
  · exact w_c35
  · exact w_c36
  · exact w_c37
  · exact w_c38
set_option maxRecDepth 65536 in
theorem w_t1 : (words1.take 24).all (fun c => isCode c || c.before args0 about1) = true := by decide +kernel
set_option maxRecDepth 65536 in
theorem w_t2 : ((words1.drop 24).take 24).all (fun c => isCode c || c.before args0 about1) = true := by decide +kernel
set_option maxRecDepth 65536 in
theorem w_t3 : (((words1.drop 24).drop 24).take 24).all (fun c => isCode c || c.before args0 about1) = true := by decide +kernel
set_option maxRecDepth 65536 in
theorem w_t4 : ((((words1.drop 24).drop 24).drop 24).take 24).all (fun c => isCode c || c.before args0 about1) = true := by decide +kernel
set_option maxRecDepth 65536 in
theorem w_t5 : (((((words1.drop 24).drop 24).drop 24).drop 24).take 24).all (fun c => isCode c || c.before args0 about1) = true := by decide +kernel
set_option maxRecDepth 65536 in
theorem w_t6 : ((((((words1.drop 24).drop 24).drop 24).drop 24).drop 24).take 24).all (fun c => isCode c || c.before args0 about1) = true := by decide +kernel
set_option maxRecDepth 65536 in
theorem w_t7 : (((((((words1.drop 24).drop 24).drop 24).drop 24).drop 24).drop 24).take 24).all (fun c => isCode c || c.before args0 about1) = true := by decide +kernel
set_option maxRecDepth 65536 in
theorem w_t8 : ((((((((words1.drop 24).drop 24).drop 24).drop 24).drop 24).drop 24).drop 24).take 24).all (fun c => isCode c || c.before args0 about1) = true := by decide +kernel
set_option maxRecDepth 65536 in
theorem w_t9 : (((((((((words1.drop 24).drop 24).drop 24).drop 24).drop 24).drop 24).drop 24).drop 24).take 24).all (fun c => isCode c || c.before args0 about1) = true := by decide +kernel
set_option maxRecDepth 65536 in
theorem w_t10 : ((((((((((words1.drop 24).drop 24).drop 24).drop 24).drop 24).drop 24).drop 24).drop 24).drop 24).take 24).all (fun c => isCode c || c.before args0 about1) = true := by decide +kernel
set_option maxRecDepth 65536 in
theorem w_t11 : (((((((((((words1.drop 24).drop 24).drop 24).drop 24).drop 24).drop 24).drop 24).drop 24).drop 24).drop 24).take 24).all (fun c => isCode c || c.before args0 about1) = true := by decide +kernel
set_option maxRecDepth 65536 in
theorem w_t12 : (((((((((((words1.drop 24).drop 24).drop 24).drop 24).drop 24).drop 24).drop 24).drop 24).drop 24).drop 24).drop 24).all (fun c => isCode c || c.before args0 about1) = true := by decide +kernel
theorem w_tables : (allAtoms (Jvm.Cond.code x code maxLocals ret :: tables_1)).before args0 about1 = true := by
  rw [allAtoms_all]
  show words1.all (fun c => c.before args0 about1) = true
  refine all_split ?_ w_codes
  rw [← List.take_append_drop 24 words1, List.all_append, w_t1, ← List.take_append_drop 24 (words1.drop 24), List.all_append, w_t2, ← List.take_append_drop 24 ((words1.drop 24).drop 24), List.all_append, w_t3, ← List.take_append_drop 24 (((words1.drop 24).drop 24).drop 24), List.all_append, w_t4, ← List.take_append_drop 24 ((((words1.drop 24).drop 24).drop 24).drop 24), List.all_append, w_t5, ← List.take_append_drop 24 (((((words1.drop 24).drop 24).drop 24).drop 24).drop 24), List.all_append, w_t6, ← List.take_append_drop 24 ((((((words1.drop 24).drop 24).drop 24).drop 24).drop 24).drop 24), List.all_append, w_t7, ← List.take_append_drop 24 (((((((words1.drop 24).drop 24).drop 24).drop 24).drop 24).drop 24).drop 24), List.all_append, w_t8, ← List.take_append_drop 24 ((((((((words1.drop 24).drop 24).drop 24).drop 24).drop 24).drop 24).drop 24).drop 24), List.all_append, w_t9, ← List.take_append_drop 24 (((((((((words1.drop 24).drop 24).drop 24).drop 24).drop 24).drop 24).drop 24).drop 24).drop 24), List.all_append, w_t10, ← List.take_append_drop 24 ((((((((((words1.drop 24).drop 24).drop 24).drop 24).drop 24).drop 24).drop 24).drop 24).drop 24).drop 24), List.all_append, w_t11, w_t12]
  rfl
set_option maxRecDepth 65536 in
theorem w_rest : rest_1_c.before args0 about1 = true := by decide +kernel
set_option maxRecDepth 65536 in
theorem w_case : (Jvm.Cond.and given_1 narrow_1).before args0 about1 = true := by decide +kernel
theorem w_applies : (headSpec (Jvm.Cond.code x code maxLocals ret :: tables_1) room_1).applies x e0.platform about1 = true :=
  (Spec.applies_iff w_frames).mpr ⟨w_running, w_runnable, w_alone, w_named, w_hears, w_ripe, w_room, w_tables⟩
theorem atStart : AtStart classFile x code maxLocals ret World_1 tables_1 room_1 Calls_1 rest_1 Pre_1 launch0 p0 e0 about1 theMethod args0 below0 :=
  ⟨lists_1, trivial, launch0.admits_env _ _ _, launch0.least_env, fairChoices_fair.cas, fairChoices_fair.clock, w_frames, w_args, w_heap, w_applies, ⟨⟨39, k39, 5, by decide +kernel, rfl, rfl, _, rfl, rfl⟩, trivial⟩, w_rest, w_case⟩
end start1
theorem witness_1 : WitnessClaimed_1 := ⟨start1.p0, start1.e0, start1.about1, start1.theMethod, start1.args0, start1.below0, start1.atStart⟩
end Jvm.Pilot.@@N@@
