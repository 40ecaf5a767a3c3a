import JvmDerived
import JvmDerived.Pilot.@@N@@Statement
import JvmDerived.Pilot.@@N@@Code
set_option linter.unusedVariables false
set_option linter.unusedSimpArgs false
namespace Jvm.RoadKit
open Sem ClassFile Op Lib Jvm.Stand Jvm.Free Jvm.LawKit
section New
variable {p : Program} {l : Launch} {e : Env} {R : Room} {s : State} {m : MethodId} {args : Array Value} {below : List Frame} {meth : Method} {c : Code} {T : State} {locs : List Loc} {cells slots : Nat}
theorem retI (X : Stand p l e R s m args below meth c T locs cells slots) (hx : p.tables.exec = Jvm.exec) {pc : Nat} {Ls : Array Slot} {z : Int32} {rest : List Value} (hret : meth.sig.returnType = some .int) (hd : decode c.code pc = .ok (.ireturn, 1)) {fs : List Frame}
    (hl : ∀ (f : JFrame) (acts : List Action), f.method = m → f.locked = none → f.entered = [] → (doReturn e (T.setTop f) acts (some (.int z))).1 = T.setFrames fs) : Steps p.tables e below (T.setTop (mkF m pc Ls (.int z :: rest))) (T.setFrames fs) := by
  have hm' : T.vm.method? m = some meth := X.method'
  have hn : narrow .int (.int z) = .int z := rfl
  show Steps p.tables e below (T.setTop { method := m, pc := pc, locals := Ls, stack := _ :: rest, locked := none }) _
  jvm_step X.here [X.here.top, hx, hd, hm', hret, hn]
  first | (intro acts; rw [hl _ acts rfl rfl rfl]) | rw [hl _ _ rfl rfl rfl]
  exact Steps.refl _
end New
end Jvm.RoadKit
namespace Jvm.Pilot.@@N@@
open Jvm Jvm.ClassFile Sem Op Lib Jvm.Free Jvm.Stand Jvm.LawKit Jvm.RoadKit Bundle Jvm.Pilot.@@N@@.Jvm.D
def OwnFin (tb : Tables) (e : Env) (below : List Frame) (G : Outcome → State → Prop) (t : State) : Prop := ∃ s₂ o, Steps tb e below t s₂ ∧ s₂.status = .running ∧ Ended s₂ below o ∧ G o s₂
theorem OwnFin.st {tb : Tables} {e : Env} {below : List Frame} {G : Outcome → State → Prop} {t t' : State} (k : ∀ target, Steps tb e below t' target → Steps tb e below t target) (h : OwnFin tb e below G t') : OwnFin tb e below G t := by
  obtain ⟨s2, o, h1, h2⟩ := h
  exact ⟨s2, o, k _ h1, h2⟩
theorem w_ {Z : State} {a0 : Array Value} (hw : ∀ d ∈ tables_1, d.before a0 Z = true) (i : Nat) {d : Jvm.Cond} (h : tables_1[i]? = some d) : d.before a0 Z = true := hw _ (List.mem_of_getElem? h)
theorem OwnFin.tr {tb : Tables} {e : Env} {below : List Frame} {G : Outcome → State → Prop} {t t' : State} (k : Steps tb e below t t') (h : OwnFin tb e below G t') : OwnFin tb e below G t := by
  obtain ⟨s2, o, h1, h2⟩ := h
  exact ⟨s2, o, k.trans h1, h2⟩
theorem own_nari2c {x : Int32} : nar .char (x.toUInt32.toUInt16.toUInt32.toInt32) = x.toUInt32.toUInt16.toUInt32.toInt32 := by simp only [nar, UInt32.toUInt32_toInt32, UInt16.toUInt16_toUInt32]
theorem own_nari2b {x : Int32} : x.toInt8.toInt32.toInt8.toInt32 = x.toInt8.toInt32 := by simp
theorem own_narc {x : Int32} (h1 : ¬ x < (0 : Int32)) (h2 : ¬ (255 : Int32) < x) : nar .char x = x := by
  have e := c_i2c x
  rw [Int32.lt_iff_toInt_lt] at h1 h2
  rw [← Int32.toInt_inj]
  show x.toUInt32.toUInt16.toUInt32.toInt32.toInt = x.toInt
  have r0 : (0 : Int32).toInt = 0 := rfl
  have r1 : (255 : Int32).toInt = 255 := rfl
  omega
theorem own_i2bne {x y : Int32} (h1 : ¬ x < (0 : Int32)) (h2 : ¬ (255 : Int32) < x) (h3 : ¬ y < (0 : Int32)) (h4 : ¬ (255 : Int32) < y) (h : ¬ x = y) : ¬ x.toInt8.toInt32 = y.toInt8.toInt32 := fun q => by
  have e := c_i2b x
  have e' := c_i2b y
  rw [Int32.lt_iff_toInt_lt] at h1 h2 h3 h4
  rw [← Int32.toInt_inj] at h q
  have r0 : (0 : Int32).toInt = 0 := rfl
  have r1 : (255 : Int32).toInt = 255 := rfl
  omega
theorem own_iteref {P : Prop} [Decidable P] {a b : Value} (ha : a.isRef = true) (hb : b.isRef = true) : (if P then a else b).isRef = true := by split <;> assumption
theorem own_fits {C : String} {v : Value} (h : v.isRef = true) : fits (.object C) v = true := by
  rcases ref_cases h with rfl | ⟨a, rfl⟩ <;> rfl
theorem own_safe {Z : State} {EL : List (String × Nat)} {vm : Vm} {h : Heap} {x : Addr} (hal : Z.vm.Alike vm) (E : Exa Z h x "java/lang/String") (F : Fld Z h x "java/lang/String" "value" "[B" .null) : Safe Z EL vm h x := fun B => by
  obtain ⟨cell, k, e1, e2, e3, -, -⟩ := E
  obtain ⟨cell', cf, kf, i, f, f1, f2, f3, f4, f5, f6, f7⟩ := F
  cases e1.symm.trans f1
  obtain ⟨p, -, u, a, -, q, -, G, rfl | rfl⟩ := B
  · cases (show h[q.sa]? = some q.sC from G.ha).symm.trans e1
    obtain ⟨cS, ⟨⟨-, -, -, ⟨c1, k1, i1, g1, -⟩, -, -, -, v1, -⟩, -⟩, -⟩ := G
    obtain ⟨k3, e3', -⟩ := State.fieldFound?_setVm (s := { Z with heap := h }) (vm' := vm) hal f2
    have e4 := (show (Wst Z vm h).fieldFound? _ _ _ = _ from e3').symm.trans g1
    simp only [Option.some.injEq, Prod.mk.injEq] at e4
    rw [← e4.2.2.2, f7] at v1
    cases v1
  · cases (show h[q.sd]? = some q.SA from G.hd).symm.trans e1
    obtain ⟨cS, -, -, g, -⟩ := G
    have g' : vm.findClass "[B" = some q.SA.cls := g
    rw [hal.findClass] at g'
    obtain ⟨k1, q1, q2⟩ := Vm.findClass_spec g'
    obtain ⟨k2, q3, q4⟩ := Vm.findClass_spec e2
    cases q1.symm.trans q3
    have : "[B" = "java/lang/String" := q2.symm.trans q4
    simp at this
theorem own_eqv {args : Array Value} {first s : State} {o : Option Outcome} {idx : List Nat} {t : Term} {n : Int32} {x : Value} (h : (Jvm.Cond.eq t (Term.int n)).value args first o s idx = some true) (e : t.eval args first o idx s = some x) : x = .int n := by
  cases x <;> simp_all [Cond.value, Term.eval]
theorem own_notinst {Z : State} {a0 : Array Value} {C K : String} {n : Nat} (w : (Jvm.Cond.superclass C "java/lang/Object").before a0 Z = true) (wO : (Jvm.Cond.noSuperclass "java/lang/Object").before a0 Z = true) (wk : (Jvm.Cond.instantiable K n).before a0 Z = true) (hn1 : C ≠ K) (hn2 : "java/lang/Object" ≠ K) : ∃ c t, Z.vm.findClass C = some c ∧ Z.vm.findClass K = some t ∧ Z.vm.assignable c t = false := by
  obtain ⟨cO, kO, o1, o2, o3, -, -⟩ := Cond.noSuperclass_spec wO
  obtain ⟨t, kt, g0, g2, g5, g7, -⟩ := Cond.instantiable_spec wk
  have g7' : kt.isInterface = false := (Bool.or_eq_false_iff.mp g7).1
  obtain ⟨c, h0⟩ := found_sup w
  obtain ⟨p, k, kp, h1, h2, h3, h4, h5, -, h7⟩ := Cond.superclass_spec h0 w
  cases o1.symm.trans h1
  have ne1 := ids_ne h0 g0 hn1
  have ne2 := ids_ne o1 g0 hn2
  have n3 : ∀ fuel, Z.vm.isSubclassAux fuel c t = false := fun fuel => by
    cases fuel with
    | zero => rfl
    | succ f =>
      cases f with
      | zero => simp [Vm.isSubclassAux, ne1, h2, h4]
      | succ f => simp [Vm.isSubclassAux, ne1, ne2, h2, h4, o2, o3]
  refine ⟨c, t, h0, g0, ?_⟩
  show Z.vm.assignableAux (255 + 1) c t = false
  simp [Vm.assignableAux, ne1, h2, g2, h5, g5, g7', Vm.isSubclass, n3]
theorem own_phne {a b : Int32} {A B : Addr} (h1 : ¬ a < (0 : Int32)) (h2 : ¬ (1 : Int32) < a) (h3 : ¬ b < (0 : Int32)) (h4 : ¬ (1 : Int32) < b) (hAB : A ≠ B) (h : ¬ a = b) : ¬ (if a = (0 : Int32) then A else B) = (if b = (0 : Int32) then A else B) := fun q => by
  by_cases p1 : a = (0 : Int32) <;> by_cases p2 : b = (0 : Int32)
  · exact h (p1.trans p2.symm)
  · rw [if_pos p1, if_neg p2] at q; exact hAB q
  · rw [if_neg p1, if_pos p2] at q; exact hAB q.symm
  · rw [Int32.lt_iff_toInt_lt] at h1 h2 h3 h4
    rw [← Int32.toInt_inj] at h p1 p2
    have r0 : (0 : Int32).toInt = 0 := rfl
    have r1 : (1 : Int32).toInt = 1 := rfl
    omega
theorem own_wS {Z : State} {a0 : Array Value} (hw : ∀ d ∈ tables_1, d.before a0 Z = true) : ∀ a ∈ Bundle.stringAtoms, a.before a0 Z = true := by
  intro a ha
  simp only [Bundle.stringAtoms, List.mem_cons, List.not_mem_nil, or_false] at ha
  rcases ha with rfl | rfl | rfl | rfl | rfl | rfl | rfl
  · exact (w_ hw 15 rfl)
  · exact (w_ hw 14 rfl)
  · exact (w_ hw 28 rfl)
  · exact (w_ hw 29 rfl)
  · exact (w_ hw 30 rfl)
  · exact (w_ hw 31 rfl)
  · exact (w_ hw 32 rfl)
def own_EL : List (String × Nat) := [("java/lang/String", 7)]
theorem own_EW {Z : State} {a0 : Array Value} (hw : ∀ d ∈ tables_1, d.before a0 Z = true) : EW Z a0 own_EL := (EW.cons (w_ hw 27 rfl) (by decide) EW.nil)
theorem own_ELc : ∀ p ∈ own_EL, p ∈ consts_1 := by decide
abbrev yM0 : MethodName := ⟨"java/lang/String", "<init>", "([CIILjava/lang/Void;)V"⟩
abbrev yM1 : MethodName := ⟨"java/lang/String", "<init>", "([C)V"⟩
abbrev yM2 : MethodName := ⟨"java/lang/StringUTF16", "compress", "([CI[BII)I"⟩
abbrev yM3 : MethodName := ⟨"java/lang/StringUTF16", "compress", "([CII)[B"⟩
abbrev yM4 : MethodName := ⟨"java/lang/StringUTF16", "coderFromArrayLen", "([BI)B"⟩
abbrev yM5 : MethodName := ⟨"com/example/neat_order/neatorder/model/LifecycleFailureEqualsPinLaw", "len", "(I)I"⟩
abbrev yM6 : MethodName := ⟨"com/example/neat_order/neatorder/model/LifecycleFailureEqualsPinLaw", "ch0", "(I)C"⟩
abbrev yM7 : MethodName := ⟨"com/example/neat_order/neatorder/model/LifecycleFailureEqualsPinLaw", "ch1", "(I)C"⟩
abbrev yM8 : MethodName := ⟨"com/example/neat_order/neatorder/model/LifecycleFailureEqualsPinLaw", "text", "(ICC)Ljava/lang/String;"⟩
abbrev yM9 : MethodName := ⟨"java/lang/String", "isEmpty", "()Z"⟩
abbrev yM10 : MethodName := ⟨"com/example/neat_order/neatorder/model/Cause", "emptyToNull", "(Ljava/lang/String;)Ljava/lang/String;"⟩
abbrev yM11 : MethodName := ⟨"com/example/neat_order/neatorder/model/Cause", "<init>", "(Ljava/lang/String;Ljava/lang/String;Ljava/lang/String;)V"⟩
abbrev yM12 : MethodName := ⟨"com/example/neat_order/neatorder/model/Cause", "of", "(Ljava/lang/String;)Lcom/example/neat_order/neatorder/model/Cause;"⟩
abbrev yM13 : MethodName := ⟨"java/util/Objects", "requireNonNull", "(Ljava/lang/Object;Ljava/lang/String;)Ljava/lang/Object;"⟩
abbrev yM14 : MethodName := ⟨"com/example/neat_order/neatorder/model/LifecycleFailure", "<init>", "(Ljava/lang/String;Lcom/example/neat_order/neatorder/model/LifecycleFailure$Phase;Lcom/example/neat_order/neatorder/model/Cause;)V"⟩
abbrev yM15 : MethodName := ⟨"java/lang/StringLatin1", "equals", "([B[B)Z"⟩
abbrev yM16 : MethodName := ⟨"java/lang/String", "equals", "(Ljava/lang/Object;)Z"⟩
abbrev yM17 : MethodName := ⟨"com/example/neat_order/neatorder/model/LifecycleFailure", "equals", "(Ljava/lang/Object;)Z"⟩
theorem d6_0 : decode jdk_42_method_149_code 0 = .ok (.aload_n 0, 1) := by decide +kernel
theorem d6_1 : decode jdk_42_method_149_code 1 = .ok (.invokespecial 1, 3) := by decide +kernel
theorem d6_4 : decode jdk_42_method_149_code 4 = .ok (.iload_n 3, 1) := by decide +kernel
theorem d6_5 : decode jdk_42_method_149_code 5 = .ok (.ifCond .ne 22, 3) := by decide +kernel
theorem d6_8 : decode jdk_42_method_149_code 8 = .ok (.aload_n 0, 1) := by decide +kernel
theorem d6_9 : decode jdk_42_method_149_code 9 = .ok (.ldc 7, 2) := by decide +kernel
theorem d6_11 : decode jdk_42_method_149_code 11 = .ok (.getfield 9, 3) := by decide +kernel
theorem d6_14 : decode jdk_42_method_149_code 14 = .ok (.putfield 9, 3) := by decide +kernel
theorem d6_17 : decode jdk_42_method_149_code 17 = .ok (.aload_n 0, 1) := by decide +kernel
theorem d6_18 : decode jdk_42_method_149_code 18 = .ok (.ldc 7, 2) := by decide +kernel
theorem d6_20 : decode jdk_42_method_149_code 20 = .ok (.getfield 15, 3) := by decide +kernel
theorem d6_23 : decode jdk_42_method_149_code 23 = .ok (.putfield 15, 3) := by decide +kernel
theorem d6_26 : decode jdk_42_method_149_code 26 = .ok (.return_, 1) := by decide +kernel
theorem pn_0 : plainName "java/lang/String" = true := by first | (simp [plainName, overriddenIn]; done) | decide +kernel
theorem ef_rm_sv_0 (m : MethodId) (a0 : Addr) (a1 : Addr) : entryFrame m #[(.ref a0), (.ref a1), (.int 0), (.int 0), .null] 6 = mkF m 0 #[.val (.ref a0), .val (.ref a1), .val (.int 0), .val (.int 0), .val .null, .unset] [] := by first | (simp [entryFrame, mkF, argsToLocals, Value.category]; done) | rfl
def Q_rm_sv_0 (Z : State) (a0 : Addr) (a1 : Addr) (k_a1 : ClassId) (h0 : Heap) (n0 : Nat) (v : Option Value) (h : Heap) (L : List Loc) : Prop := ∃ (bE : Addr) (kE : ClassId), v = none ∧ Fr n0 L ∧ Keep h0 h [a0] ∧ Fld Z h a0 "java/lang/String" "coder" "B" (.int 0) ∧ Fld Z h a0 "java/lang/String" "value" "[B" (.ref bE) ∧ Arv Z h bE kE .byte (0 : Int32) [] (.int 0)
set_option maxRecDepth 65536 in
set_option maxHeartbeats 40000000 in
theorem rm_sv_0 (l : Launch) (Z : State) (av0 : Array Value) (hw : ∀ d ∈ tables_1, d.before av0 Z = true) (ws : List Jvm.Cond) (a0 : Addr) (a1 : Addr) (k_a1 : ClassId) (h0 : Heap) (n0 : Nat) (Z0 : n0 ≤ h0.size) (X_a0 : Exa Z h0 a0 "java/lang/String") (F_value_a0 : Fld Z h0 a0 "java/lang/String" "value" "[B" .null) (F_coder_a0 : Fld Z h0 a0 "java/lang/String" "coder" "B" (.int 0)) (V_a1 : Arv Z h0 a1 k_a1 .char (0 : Int32) [] (.int 0)) (g_a0 : n0 ≤ a0) :
    MetFree l yM0 (head1 (Jvm.Cond.code yM0 jdk_42_method_149_code 6 none :: ws) ({ frames := 1, cells := 4, slots := 8, locals := 12 } : Room)) (fun a U => a = #[(.ref a0), (.ref a1), (.int 0), (.int 0), .null] ∧ Z.Warmed39 U.vm ∧ U.heap = h0 ∧ CHv Z own_EL U.vm h0) (fun _ _ _ _ _ => True) (fun _ U o U' => ∃ v L, o = .returned v ∧ Q_rm_sv_0 Z a0 a1 k_a1 h0 n0 v U'.heap L ∧ CHr Z own_EL U.vm U.heap U'.vm U'.heap ∧ ReturnedEndW U o U' L ({ frames := 1, cells := 4, slots := 8, locals := 12 } : Room).cells ({ frames := 1, cells := 4, slots := 8, locals := 12 } : Room).slots) := by
  refine MetFree.of_bodySF (plainFor_of_name pn_0) hisR ?_
  intro p e s m args below meth c s₁ Bd hml0 hP hK
  obtain ⟨rfl, hZ, hh, hCH⟩ := hP
  have hx := Bd.exec
  have hby := Bd.bytes
  have hml : c.maxLocals = 6 := hml0
  have hown : (s.setVm s.vm).vm.findClass "java/lang/String" = some m.cls := findClass_of_methodNamed Bd.named
  have hnm := (name_of_methodNamed Bd.named Bd.method).1
  have X0 : Stand p l e ({ frames := 1, cells := 4, slots := 8, locals := 12 } : Room) (s.setVm s.vm) m #[(.ref a0), (.ref a1), (.int 0), (.int 0), .null] below meth c s₁ [] 0 0 := Stand.of_body Bd
  have e0 : s₁.heap = h0 := by rw [← hh, Bd.state]; rfl
  have N0 := Fr.nil n0
  have hZ : Z.Warmed39 (s.setVm s.vm).vm := hZ
  have hS0 : s.Since s.vm s.heap.size := (State.WarmedH.refl s).since _
  have hk0 : s.heap.size ≤ h0.size := Nat.le_of_eq (by rw [hh])
  have ch0 : CHr Z own_EL s.vm h0 s.vm h0 := CHr.refl hCH
  have pre0 : ∀ t, Steps p.tables e below (s₁.setTop (mkF m 0 #[.val (.ref a0), .val (.ref a1), .val (.int 0), .val (.int 0), .val .null, .unset] [])) t → Steps p.tables e below (s₁.setTop (entryFrame m #[(.ref a0), (.ref a1), (.int 0), (.int 0), .null] 6)) t := fun t k => castTop (ef_rm_sv_0 m a0 a1) k
  change OwnFin p.tables e below _ (s₁.setTop (entryFrame m #[(.ref a0), (.ref a1), (.int 0), (.int 0), .null] 6))
  have kp0 : Keep h0 h0 [a0] := Keep.refl _ _
  refine OwnFin.st (fun _ q => pre0 _ q) ?_
  show OwnFin _ _ _ _ (s₁.setTop (mkF m 0 #[.val (.ref a0), .val (.ref a1), .val (.int 0), .val (.int 0), .val .null, .unset] []))
  refine OwnFin.st (fun _ q => XS.aloadN X0.here hx rfl (hb hby d6_0) rfl rfl q) ?_
  show OwnFin _ _ _ _ (s₁.setTop (mkF m 1 _ [(.ref a0)]))
  obtain ⟨T1, X1, e1, st1⟩ := initO X0 hx hZ hown (w_ hw 24 rfl) (w_ hw 25 rfl) (w_ hw 26 rfl) e0 (g := (mkF m 1 #[.val (.ref a0), .val (.ref a1), .val (.int 0), .val (.int 0), .val .null, .unset] [(.ref a0)])) rfl (by rw [hml]; rfl) rfl (hb hby d6_1) (by decide) (W := 0) (by show 2 * 0 + _ ≤ _; exact Nat.le_of_eq rfl) (by decide)
  refine OwnFin.st st1 ?_
  show OwnFin _ _ _ _ (T1.setTop (mkF m 4 _ []))
  refine OwnFin.st (fun _ q => XS.iloadN X1.here hx rfl (hb hby d6_4) rfl q) ?_
  show OwnFin _ _ _ _ (T1.setTop (mkF m 5 _ [(.int 0)]))
  refine OwnFin.st (fun _ q => XS.ifNo X1.here hx rfl (hb hby d6_5) rfl (Jvm.Free.XT.i0_ne_f (rfl : (0 : Int32) = (0 : Int32))) q) ?_
  show OwnFin _ _ _ _ (T1.setTop (mkF m 8 _ []))
  refine OwnFin.st (fun _ q => XS.aloadN X1.here hx rfl (hb hby d6_8) rfl rfl q) ?_
  show OwnFin _ _ _ _ (T1.setTop (mkF m 9 _ [(.ref a0)]))
  obtain ⟨al2, T2, h2, k2, bl2, kl2, X2, e2, E2, hS2, hk2, hZ2, hown2, XA2, FC2, FV2, VB2, la2, lb2, hC2, hL2, hne2, st2⟩ := ldcCH (s := s) (vm0 := s.vm) X1 hx hZ hown (w_ hw 27 rfl) (own_wS hw) e1 hS0 (Nat.le_trans hk0 (Nat.le_refl _)) (own_EW hw) (by decide) ch0.1 (ht := ⟨by decide, rfl⟩) (vs := []) (z := (0 : Int32)) (by decide) rfl (g := (mkF m 9 #[.val (.ref a0), .val (.ref a1), .val (.int 0), .val (.int 0), .val .null, .unset] [(.ref a0)])) rfl (hb hby d6_9) (n := 0) (by decide) (by decide) (by decide) (by decide)
  refine OwnFin.st st2 ?_
  have ch3 := ch0.trans (hC2)
  have kp3 : Keep h0 h2 [a0] := kp0.ext E2
  have nl2_a0 := hne2 a0 (own_safe (hZ2).alike (X_a0.ext E2) (F_value_a0.ext E2))
  show OwnFin _ _ _ _ (T2.setTop (mkF m 11 _ [(.ref al2), (.ref a0)]))
  obtain ⟨T4, X4, e4, st4⟩ := getF X2 hx hZ2 hown2 (host := "") (Or.inl (w_ hw 33 rfl)) Via.refl e2 FV2 (g := (mkF m 11 #[.val (.ref a0), .val (.ref a1), .val (.int 0), .val (.int 0), .val .null, .unset] [(.ref al2), (.ref a0)])) rfl rfl (hb hby d6_11)
  refine OwnFin.st st4 ?_
  show OwnFin _ _ _ _ (T4.setTop (mkF m 14 _ [(.ref bl2), (.ref a0)]))
  obtain ⟨T5, h5, X5, e5, W5, st5⟩ := putF X4 hx hZ2 hown2 (host := "") (Or.inl (w_ hw 33 rfl)) Via.refl e4 (F_value_a0.ext E2) (X_a0.ext E2) (Or.inr ⟨(w_ hw 29 rfl), rfl, hnm⟩) (w_ hw 14 rfl) (ty := (.array .byte)) (by decide) rfl rfl (g := (mkF m 14 #[.val (.ref a0), .val (.ref a1), .val (.int 0), .val (.int 0), .val .null, .unset] [(.ref bl2), (.ref a0)])) rfl rfl (hb hby d6_14)
  refine OwnFin.st st5 ?_
  have Fw5 : Fld Z h5 a0 "java/lang/String" "value" "[B" (.ref bl2) := (F_value_a0.ext E2).same W5
  have N5 := Fr.snoc X5 N0 g_a0
  have sf6_a0 := Safe.wr W5 (own_safe (hZ2).alike (X_a0.ext E2) (F_value_a0.ext E2)) ch3.1 (own_safe (hZ2).alike (X_a0.ext E2) (F_value_a0.ext E2))
  have ch6 := ch3.trans (CHr.wr W5 (own_safe (hZ2).alike (X_a0.ext E2) (F_value_a0.ext E2)) ch3.1)
  have kp6 : Keep h0 h5 [a0] := kp3.wr W5 (Or.inl (List.mem_of_getElem? (i := 0) rfl))
  show OwnFin _ _ _ _ (T5.setTop (mkF m 17 _ []))
  refine OwnFin.st (fun _ q => XS.aloadN X5.here hx rfl (hb hby d6_17) rfl rfl q) ?_
  show OwnFin _ _ _ _ (T5.setTop (mkF m 18 _ [(.ref a0)]))
  obtain ⟨al7, T7, h7, k7, bl7, kl7, X7, e7, E7, hS7, hk7, hZ7, hown7, XA7, FC7, FV7, VB7, la7, lb7, hC7, hL7, hne7, st7⟩ := ldcCH (s := s) (vm0 := T2.vm) X5 hx hZ2 hown2 (w_ hw 27 rfl) (own_wS hw) e5 hS2 (Nat.le_trans hk2 (Nat.le_of_eq W5.size.symm)) (own_EW hw) (by decide) ch6.1 (ht := ⟨by decide, rfl⟩) (vs := []) (z := (0 : Int32)) (by decide) rfl (g := (mkF m 18 #[.val (.ref a0), .val (.ref a1), .val (.int 0), .val (.int 0), .val .null, .unset] [(.ref a0)])) rfl (hb hby d6_18) (n := 0) (by decide) (by decide) (by decide) (by decide)
  refine OwnFin.st st7 ?_
  have sf8_a0 := (hC7).safe ((X_a0.ext E2).wr W5).lt sf6_a0
  have ch8 := ch6.trans (hC7)
  have kp8 : Keep h0 h7 [a0] := kp6.ext E7
  have nl7_a0 := hne7 a0 sf8_a0
  show OwnFin _ _ _ _ (T7.setTop (mkF m 20 _ [(.ref al7), (.ref a0)]))
  obtain ⟨T9, X9, e9, st9⟩ := getF X7 hx hZ7 hown7 (host := "") (Or.inl (w_ hw 34 rfl)) Via.refl e7 FC7 (g := (mkF m 20 #[.val (.ref a0), .val (.ref a1), .val (.int 0), .val (.int 0), .val .null, .unset] [(.ref al7), (.ref a0)])) rfl rfl (hb hby d6_20)
  refine OwnFin.st st9 ?_
  show OwnFin _ _ _ _ (T9.setTop (mkF m 23 _ [(.int 0), (.ref a0)]))
  have fr10 : Fld Z h7 a0 "java/lang/String" "coder" "B" (.int 0) := (((F_coder_a0.ext E2).other W5 (Or.inr (slot_ne (Or.inr (w_ hw 30 rfl)) (Or.inr (w_ hw 29 rfl)) (by decide) (t := .byte) (t' := (.array .byte)) (by decide) (by decide)))).ext E7)
  obtain ⟨T11, h11, X11, e11, W11, st11⟩ := putFN X9 hx hZ7 hown7 (w_ hw 34 rfl) Via.refl e9 fr10 (((X_a0.ext E2).wr W5).ext E7) (Or.inr ⟨(w_ hw 30 rfl), rfl, hnm⟩) (w_ hw 14 rfl) (ty := .byte) (v' := (.int 0)) (by decide) rfl rfl (g := (mkF m 23 #[.val (.ref a0), .val (.ref a1), .val (.int 0), .val (.int 0), .val .null, .unset] [(.int 0), (.ref a0)])) rfl rfl (hb hby d6_23)
  refine OwnFin.st st11 ?_
  have Fw11 : Fld Z h11 a0 "java/lang/String" "coder" "B" (.int 0) := (((F_coder_a0.ext E2).other W5 (Or.inr (slot_ne (Or.inr (w_ hw 30 rfl)) (Or.inr (w_ hw 29 rfl)) (by decide) (t := .byte) (t' := (.array .byte)) (by decide) (by decide)))).ext E7).same W11
  have N11 := Fr.snoc X11 N5 g_a0
  have sf12_a0 := Safe.wr W11 sf8_a0 ch8.1 sf8_a0
  have ch12 := ch8.trans (CHr.wr W11 sf8_a0 ch8.1)
  have kp12 : Keep h0 h11 [a0] := kp8.wr W11 (Or.inl (List.mem_of_getElem? (i := 0) rfl))
  show OwnFin _ _ _ _ (T11.setTop (mkF m 26 _ []))
  obtain ⟨fs, hr, hrun, hended, hEW⟩ := X11.leaveW (s := s) hS7 (by rw [e11]; exact (Nat.le_trans hk7 (Nat.le_of_eq W11.size.symm))) (v := none) (fun _ => rfl)
  have chE : CHr Z own_EL s.vm s.heap T11.vm T11.heap := by
    rw [hh, e11]
    exact ch12.trans (CHv.at X11 hZ7 (own_EW hw) ch12.1)
  refine ⟨_, _, X11.returnOut hx Bd.returns (hb hby d6_26) hr, hrun, hended, _, _, rfl, ?_, chE, hEW.1, hEW.2.1, hEW.2.2.1, hEW.2.2.2.mono (by decide) (by decide)⟩
  show Q_rm_sv_0 Z a0 a1 k_a1 h0 n0 _ T11.heap _
  rw [e11]
  have fr13 : Fld Z h11 a0 "java/lang/String" "value" "[B" (.ref bl2) := ((Fw5.ext E7).other W11 (Or.inr (slot_ne (Or.inr (w_ hw 29 rfl)) (Or.inr (w_ hw 30 rfl)) (by decide) (t := (.array .byte)) (t' := .byte) (by decide) (by decide))))
  have fr14 : Arv Z h11 bl2 kl2 .byte (0 : Int32) [] (.int 0) := (((VB2.other W5 (Ne.symm nl2_a0.2)).ext E7).other W11 (Ne.symm nl2_a0.2))
  exact ⟨bl2, kl2, rfl, N11, kp12, Fw11, fr13, fr14⟩
theorem pd_0 : parseMethodDescriptor "([CIILjava/lang/Void;)V" = some ⟨[(.array .char), .int, .int, (.object "java/lang/Void")], none⟩ := by decide +kernel
theorem d5_0 : decode jdk_42_method_3_code 0 = .ok (.aload_n 0, 1) := by decide +kernel
theorem d5_1 : decode jdk_42_method_3_code 1 = .ok (.aload_n 1, 1) := by decide +kernel
theorem d5_2 : decode jdk_42_method_3_code 2 = .ok (.iconst 0, 1) := by decide +kernel
theorem d5_3 : decode jdk_42_method_3_code 3 = .ok (.aload_n 1, 1) := by decide +kernel
theorem d5_4 : decode jdk_42_method_3_code 4 = .ok (.arraylength, 1) := by decide +kernel
theorem d5_5 : decode jdk_42_method_3_code 5 = .ok (.aconst_null, 1) := by decide +kernel
theorem d5_6 : decode jdk_42_method_3_code 6 = .ok (.invokespecial 27, 3) := by decide +kernel
theorem d5_9 : decode jdk_42_method_3_code 9 = .ok (.return_, 1) := by decide +kernel
theorem ef_rm_si_0 (m : MethodId) (a0 : Addr) (a1 : Addr) : entryFrame m #[(.ref a0), (.ref a1)] 2 = mkF m 0 #[.val (.ref a0), .val (.ref a1)] [] := by first | (simp [entryFrame, mkF, argsToLocals, Value.category]; done) | rfl
def Q_rm_si_0 (Z : State) (a0 : Addr) (a1 : Addr) (k_a1 : ClassId) (h0 : Heap) (n0 : Nat) (v : Option Value) (h : Heap) (L : List Loc) : Prop := ∃ (bE : Addr) (kE : ClassId), v = none ∧ Fr n0 L ∧ Keep h0 h [a0] ∧ Fld Z h a0 "java/lang/String" "coder" "B" (.int 0) ∧ Fld Z h a0 "java/lang/String" "value" "[B" (.ref bE) ∧ Arv Z h bE kE .byte (0 : Int32) [] (.int 0)
set_option maxRecDepth 65536 in
set_option maxHeartbeats 40000000 in
theorem rm_si_0 (l : Launch) (Z : State) (av0 : Array Value) (hw : ∀ d ∈ tables_1, d.before av0 Z = true) (ws : List Jvm.Cond) (a0 : Addr) (a1 : Addr) (k_a1 : ClassId) (h0 : Heap) (n0 : Nat) (Z0 : n0 ≤ h0.size) (X_a0 : Exa Z h0 a0 "java/lang/String") (F_value_a0 : Fld Z h0 a0 "java/lang/String" "value" "[B" .null) (F_coder_a0 : Fld Z h0 a0 "java/lang/String" "coder" "B" (.int 0)) (V_a1 : Arv Z h0 a1 k_a1 .char (0 : Int32) [] (.int 0)) (g_a0 : n0 ≤ a0) :
    MetFree l yM1 (head1 (Jvm.Cond.code yM1 jdk_42_method_3_code 2 none :: ws) ({ frames := 2, cells := 4, slots := 8, locals := 29 } : Room)) (fun a U => a = #[(.ref a0), (.ref a1)] ∧ Z.Warmed39 U.vm ∧ U.heap = h0 ∧ CHv Z own_EL U.vm h0) (fun _ _ _ _ _ => True) (fun _ U o U' => ∃ v L, o = .returned v ∧ Q_rm_si_0 Z a0 a1 k_a1 h0 n0 v U'.heap L ∧ CHr Z own_EL U.vm U.heap U'.vm U'.heap ∧ ReturnedEndW U o U' L ({ frames := 2, cells := 4, slots := 8, locals := 29 } : Room).cells ({ frames := 2, cells := 4, slots := 8, locals := 29 } : Room).slots) := by
  refine MetFree.of_bodySF (plainFor_of_name pn_0) hisR ?_
  intro p e s m args below meth c s₁ Bd hml0 hP hK
  obtain ⟨rfl, hZ, hh, hCH⟩ := hP
  have hx := Bd.exec
  have hby := Bd.bytes
  have hml : c.maxLocals = 2 := hml0
  have hown : (s.setVm s.vm).vm.findClass "java/lang/String" = some m.cls := findClass_of_methodNamed Bd.named
  have hnm := (name_of_methodNamed Bd.named Bd.method).1
  have X0 : Stand p l e ({ frames := 2, cells := 4, slots := 8, locals := 29 } : Room) (s.setVm s.vm) m #[(.ref a0), (.ref a1)] below meth c s₁ [] 0 0 := Stand.of_body Bd
  have e0 : s₁.heap = h0 := by rw [← hh, Bd.state]; rfl
  have N0 := Fr.nil n0
  have hZ : Z.Warmed39 (s.setVm s.vm).vm := hZ
  have hS0 : s.Since s.vm s.heap.size := (State.WarmedH.refl s).since _
  have hk0 : s.heap.size ≤ h0.size := Nat.le_of_eq (by rw [hh])
  have ch0 : CHr Z own_EL s.vm h0 s.vm h0 := CHr.refl hCH
  have pre0 : ∀ t, Steps p.tables e below (s₁.setTop (mkF m 0 #[.val (.ref a0), .val (.ref a1)] [])) t → Steps p.tables e below (s₁.setTop (entryFrame m #[(.ref a0), (.ref a1)] 2)) t := fun t k => castTop (ef_rm_si_0 m a0 a1) k
  change OwnFin p.tables e below _ (s₁.setTop (entryFrame m #[(.ref a0), (.ref a1)] 2))
  have kp0 : Keep h0 h0 [a0] := Keep.refl _ _
  refine OwnFin.st (fun _ q => pre0 _ q) ?_
  show OwnFin _ _ _ _ (s₁.setTop (mkF m 0 #[.val (.ref a0), .val (.ref a1)] []))
  refine OwnFin.st (fun _ q => XS.aloadN X0.here hx rfl (hb hby d5_0) rfl rfl q) ?_
  show OwnFin _ _ _ _ (s₁.setTop (mkF m 1 _ [(.ref a0)]))
  refine OwnFin.st (fun _ q => XS.aloadN X0.here hx rfl (hb hby d5_1) rfl rfl q) ?_
  show OwnFin _ _ _ _ (s₁.setTop (mkF m 2 _ [(.ref a1), (.ref a0)]))
  refine OwnFin.st (fun _ q => XS.iconst X0.here hx rfl (hb hby d5_2) q) ?_
  show OwnFin _ _ _ _ (s₁.setTop (mkF m 3 _ [(.int 0), (.ref a1), (.ref a0)]))
  refine OwnFin.st (fun _ q => XS.aloadN X0.here hx rfl (hb hby d5_3) rfl rfl q) ?_
  show OwnFin _ _ _ _ (s₁.setTop (mkF m 4 _ [(.ref a1), (.int 0), (.ref a1), (.ref a0)]))
  have Vo1 : Arv Z h0 a1 k_a1 .char (0 : Int32) [] (.int 0) := V_a1
  obtain ⟨cl1, Ar1, qa1, Sa1, Na1, Ha1, Ga1⟩ := id Vo1
  refine OwnFin.st (X0.arraylength hx (by rw [e0]; exact Ar1.1) (State.isArrayOf_alike (hZ).alike Ar1.2.1) (g := (mkF m 4 #[.val (.ref a0), .val (.ref a1)] [(.ref a1), (.int 0), (.ref a1), (.ref a0)])) rfl rfl (hb hby d5_4)) ?_
  rw [len_of Sa1 Na1]
  show OwnFin _ _ _ _ (s₁.setTop (mkF m 5 _ [(.int 0), (.int 0), (.ref a1), (.ref a0)]))
  refine OwnFin.st (fun _ q => XS.aconstNull X0.here hx rfl (hb hby d5_5) q) ?_
  show OwnFin _ _ _ _ (s₁.setTop (mkF m 6 _ [.null, (.int 0), (.int 0), (.ref a1), (.ref a0)]))
  obtain ⟨_, _, ⟨T2, L2, k2, n2⟩, -, X2, hS2, hg2, ⟨Lc2, hQ2, l2, y2, z2, hC2⟩, st2⟩ := X0.specialBackS hx (y := yM0) rfl hown (mvT hZ (w_ hw 20 rfl)) (mvT hZ (w_ hw 21 rfl)) (mvT hZ (w_ hw 23 rfl)) (by decide) (backOfSH (W := 0) (rm_sv_0 l Z av0 hw [] a0 a1 k_a1 h0 n0 (Nat.le_trans Z0 kp0.1) X_a0 F_value_a0 F_coder_a0 V_a1 g_a0) hZ (w_ hw 23 rfl) (w_ hw 15 rfl) (by decide) (by decide) (own_EW hw) ch0.1) (g := (mkF m 6 #[.val (.ref a0), .val (.ref a1)] [.null, (.int 0), (.int 0), (.ref a1), (.ref a0)])) rfl (by rw [hml]; rfl) (Steps.refl _) (a := a0) (argsL := [(.ref a1), (.int 0), (.int 0), .null]) (rest := []) (lenOf pd_0 rfl) rfl (by show 2 * 0 + _ ≤ _; exact Nat.le_of_eq rfl) (hb hby d5_6) (fun _ _ => ⟨rfl, e0, (by decide : 0 + 4 ≤ _), (by decide : 0 + 8 ≤ _)⟩)
  dsimp only [Pt.U, Pt.locs, Pt.cells, Pt.slots] at X2 l2 y2 z2 st2 hQ2 hS2 hg2 hC2
  subst l2 y2 z2
  obtain ⟨c2_0, kc2_1, rfl, N2q, K2, r2_0, r2_1, r2_2⟩ := hQ2
  have N2 := Fr.app N0 N2q
  refine OwnFin.tr st2 ?_
  rw [e0] at hg2
  obtain ⟨h2, e2⟩ : ∃ z, T2.heap = z := ⟨_, rfl⟩
  rw [e2] at K2 r2_0 r2_1 r2_2 hg2 hS2 hC2
  have ch3 := ch0.trans (hC2)
  have kp3 : Keep h0 h2 [a0] := kp0.trans K2 (allS (Or.inl (List.mem_of_getElem? (i := 0) rfl)) all0)
  obtain ⟨Xr2, hSr2, hZr2, hor2⟩ := rebS hS0 (Nat.le_trans hk0 (Nat.le_refl _)) X2 hS2 hg2 hZ hown
  show OwnFin _ _ _ _ (T2.setTop (mkF m 9 _ []))
  obtain ⟨fs, hr, hrun, hended, hEW⟩ := Xr2.leaveW (s := s) hSr2 (by rw [e2]; exact (Nat.le_trans (Nat.le_refl _) (Nat.le_refl _))) (v := none) (fun _ => rfl)
  have chE : CHr Z own_EL s.vm s.heap T2.vm T2.heap := by
    rw [hh, e2]
    exact ch3.trans (CHv.at Xr2 hZr2 (own_EW hw) ch3.1)
  refine ⟨_, _, Xr2.returnOut hx Bd.returns (hb hby d5_9) hr, hrun, hended, _, _, rfl, ?_, chE, hEW.1, hEW.2.1, hEW.2.2.1, hEW.2.2.2.mono (by decide) (by decide)⟩
  show Q_rm_si_0 Z a0 a1 k_a1 h0 n0 _ T2.heap _
  rw [e2]
  exact ⟨c2_0, kc2_1, rfl, N2, kp3, r2_0, r2_1, r2_2⟩
theorem d18_0 : decode jdk_52_method_21_code 0 = .ok (.iconst 0, 1) := by decide +kernel
theorem d18_1 : decode jdk_52_method_21_code 1 = .ok (.istore 5, 2) := by decide +kernel
theorem d18_3 : decode jdk_52_method_21_code 3 = .ok (.iload 5, 2) := by decide +kernel
theorem d18_5 : decode jdk_52_method_21_code 5 = .ok (.iload 4, 2) := by decide +kernel
theorem d18_7 : decode jdk_52_method_21_code 7 = .ok (.if_icmp .ge 37, 3) := by decide +kernel
theorem d18_10 : decode jdk_52_method_21_code 10 = .ok (.aload_n 0, 1) := by decide +kernel
theorem d18_11 : decode jdk_52_method_21_code 11 = .ok (.iload_n 1, 1) := by decide +kernel
theorem d18_12 : decode jdk_52_method_21_code 12 = .ok (.caload, 1) := by decide +kernel
theorem d18_13 : decode jdk_52_method_21_code 13 = .ok (.istore 6, 2) := by decide +kernel
theorem d18_15 : decode jdk_52_method_21_code 15 = .ok (.iload 6, 2) := by decide +kernel
theorem d18_17 : decode jdk_52_method_21_code 17 = .ok (.sipush 255, 3) := by decide +kernel
theorem d18_20 : decode jdk_52_method_21_code 20 = .ok (.if_icmp .le 6, 3) := by decide +kernel
theorem d18_26 : decode jdk_52_method_21_code 26 = .ok (.aload_n 2, 1) := by decide +kernel
theorem d18_27 : decode jdk_52_method_21_code 27 = .ok (.iload_n 3, 1) := by decide +kernel
theorem d18_28 : decode jdk_52_method_21_code 28 = .ok (.iload 6, 2) := by decide +kernel
theorem d18_30 : decode jdk_52_method_21_code 30 = .ok (.i2b, 1) := by decide +kernel
theorem d18_31 : decode jdk_52_method_21_code 31 = .ok (.bastore, 1) := by decide +kernel
theorem d18_32 : decode jdk_52_method_21_code 32 = .ok (.iinc 1 1, 3) := by decide +kernel
theorem d18_35 : decode jdk_52_method_21_code 35 = .ok (.iinc 3 1, 3) := by decide +kernel
theorem d18_38 : decode jdk_52_method_21_code 38 = .ok (.iinc 5 1, 3) := by decide +kernel
theorem d18_41 : decode jdk_52_method_21_code 41 = .ok (.goto (-38), 3) := by decide +kernel
theorem d18_44 : decode jdk_52_method_21_code 44 = .ok (.iload 4, 2) := by decide +kernel
theorem d18_46 : decode jdk_52_method_21_code 46 = .ok (.ireturn, 1) := by decide +kernel
theorem pn_1 : plainName "java/lang/StringUTF16" = true := by first | (simp [plainName, overriddenIn]; done) | decide +kernel
theorem ef_rm_c5_1 (m : MethodId) (a0 : Addr) (a2 : Addr) : entryFrame m #[(.ref a0), (.int 0), (.ref a2), (.int 0), (.int 1)] 7 = mkF m 0 #[.val (.ref a0), .val (.int 0), .val (.ref a2), .val (.int 0), .val (.int 1), .unset, .unset] [] := by first | (simp [entryFrame, mkF, argsToLocals, Value.category]; done) | rfl
def Q_rm_c5_1 (Z : State) (a0 : Addr) (a2 : Addr) (k_a0 : ClassId) (c0 : Int32) (k_a2 : ClassId) (h0 : Heap) (n0 : Nat) (v : Option Value) (h : Heap) (L : List Loc) : Prop := v = some (.int 1) ∧ Fr n0 L ∧ Keep h0 h [a2] ∧ Arv Z h a2 k_a2 .byte (1 : Int32) [(.int (c0.toInt8.toInt32))] (.int 0)
set_option maxRecDepth 65536 in
set_option maxHeartbeats 40000000 in
theorem rm_c5_1 (l : Launch) (Z : State) (av0 : Array Value) (hw : ∀ d ∈ tables_1, d.before av0 Z = true) (ws : List Jvm.Cond) (a0 : Addr) (a2 : Addr) (k_a0 : ClassId) (c0 : Int32) (k_a2 : ClassId) (h0 : Heap) (n0 : Nat) (Z0 : n0 ≤ h0.size) (V_a0 : Arv Z h0 a0 k_a0 .char (1 : Int32) [(.int c0)] (.int 0)) (V_a2 : Arv Z h0 a2 k_a2 .byte (1 : Int32) [(.int 0)] (.int 0)) (hc0 : ¬ ((255 : Int32) < c0)) (g_a2 : n0 ≤ a2) :
    MetFree l yM2 (head1 (Jvm.Cond.code yM2 jdk_52_method_21_code 7 (some .int) :: ws) ({ frames := 0, cells := 0, slots := 0, locals := 0 } : Room)) (fun a U => a = #[(.ref a0), (.int 0), (.ref a2), (.int 0), (.int 1)] ∧ Z.Warmed39 U.vm ∧ U.heap = h0) (fun _ _ _ _ _ => True) (fun _ U o U' => ∃ v L, o = .returned v ∧ Q_rm_c5_1 Z a0 a2 k_a0 c0 k_a2 h0 n0 v U'.heap L ∧ FrameEnd U o U' L ({ frames := 0, cells := 0, slots := 0, locals := 0 } : Room).cells ({ frames := 0, cells := 0, slots := 0, locals := 0 } : Room).slots) := by
  refine MetFree.of_bodySF (plainFor_of_name pn_1) hisR ?_
  intro p e s m args below meth c s₁ Bd hml0 hP hK
  obtain ⟨rfl, hZ, hh⟩ := hP
  have hx := Bd.exec
  have hby := Bd.bytes
  have hml : c.maxLocals = 7 := hml0
  have hown : s.vm.findClass "java/lang/StringUTF16" = some m.cls := findClass_of_methodNamed Bd.named
  have hnm := (name_of_methodNamed Bd.named Bd.method).1
  have X0 : Stand p l e ({ frames := 0, cells := 0, slots := 0, locals := 0 } : Room) s m #[(.ref a0), (.int 0), (.ref a2), (.int 0), (.int 1)] below meth c s₁ [] 0 0 := Stand.of_body Bd
  have e0 : s₁.heap = h0 := by rw [← hh, Bd.state]; rfl
  have N0 := Fr.nil n0
  have pre0 : ∀ t, Steps p.tables e below (s₁.setTop (mkF m 0 #[.val (.ref a0), .val (.int 0), .val (.ref a2), .val (.int 0), .val (.int 1), .unset, .unset] [])) t → Steps p.tables e below (s₁.setTop (entryFrame m #[(.ref a0), (.int 0), (.ref a2), (.int 0), (.int 1)] 7)) t := fun t k => castTop (ef_rm_c5_1 m a0 a2) k
  change OwnFin p.tables e below _ (s₁.setTop (entryFrame m #[(.ref a0), (.int 0), (.ref a2), (.int 0), (.int 1)] 7))
  have kp0 : Keep h0 h0 [a2] := Keep.refl _ _
  refine OwnFin.st (fun _ q => pre0 _ q) ?_
  show OwnFin _ _ _ _ (s₁.setTop (mkF m 0 #[.val (.ref a0), .val (.int 0), .val (.ref a2), .val (.int 0), .val (.int 1), .unset, .unset] []))
  refine OwnFin.st (fun _ q => XS.iconst X0.here hx rfl (hb hby d18_0) q) ?_
  show OwnFin _ _ _ _ (s₁.setTop (mkF m 1 _ [(.int 0)]))
  refine OwnFin.st (fun _ q => XS.istore X0.here hx rfl (hb hby d18_1) rfl (l' := #[.val (.ref a0), .val (.int 0), .val (.ref a2), .val (.int 0), .val (.int 1), .val (.int 0), .unset]) rfl q) ?_
  show OwnFin _ _ _ _ (s₁.setTop (mkF m 3 _ []))
  refine OwnFin.st (fun _ q => XS.iload X0.here hx rfl (hb hby d18_3) rfl q) ?_
  show OwnFin _ _ _ _ (s₁.setTop (mkF m 5 _ [(.int 0)]))
  refine OwnFin.st (fun _ q => XS.iload X0.here hx rfl (hb hby d18_5) rfl q) ?_
  show OwnFin _ _ _ _ (s₁.setTop (mkF m 7 _ [(.int 1), (.int 0)]))
  refine OwnFin.st (fun _ q => XS.icmpNo X0.here hx rfl (hb hby d18_7) rfl (Jvm.Free.XT.ii_ge_f (by decide : (0 : Int32) < (1 : Int32))) q) ?_
  show OwnFin _ _ _ _ (s₁.setTop (mkF m 10 _ []))
  refine OwnFin.st (fun _ q => XS.aloadN X0.here hx rfl (hb hby d18_10) rfl rfl q) ?_
  show OwnFin _ _ _ _ (s₁.setTop (mkF m 11 _ [(.ref a0)]))
  refine OwnFin.st (fun _ q => XS.iloadN X0.here hx rfl (hb hby d18_11) rfl q) ?_
  show OwnFin _ _ _ _ (s₁.setTop (mkF m 12 _ [(.int 0), (.ref a0)]))
  have Vo1 : Arv Z h0 a0 k_a0 .char (1 : Int32) [(.int c0)] (.int 0) := V_a0
  obtain ⟨cl1, Ar1, qa1, Sa1, Na1, Ha1, Ga1⟩ := id Vo1
  have hin1 : ¬ ((0 : Int32) < 0 ∨ cl1.slots.size ≤ ((0 : Int32)).toNatClampNeg) := inb_of Sa1 ⟨by decide, by decide⟩
  refine OwnFin.st (X0.caload hx (j := (0 : Int32)) (v := (.int c0)) (by rw [e0]; exact Ar1.1) (State.isArrayOf_alike (hZ).alike Ar1.2.1) Ar1.2.2 hin1 (Ha1.at hin1 rfl) (g := (mkF m 12 #[.val (.ref a0), .val (.int 0), .val (.ref a2), .val (.int 0), .val (.int 1), .val (.int 0), .unset] [(.int 0), (.ref a0)])) rfl rfl (hb hby d18_12)) ?_
  show OwnFin _ _ _ _ (s₁.setTop (mkF m 13 _ [(.int c0)]))
  refine OwnFin.st (fun _ q => XS.istore X0.here hx rfl (hb hby d18_13) rfl (l' := #[.val (.ref a0), .val (.int 0), .val (.ref a2), .val (.int 0), .val (.int 1), .val (.int 0), .val (.int c0)]) rfl q) ?_
  show OwnFin _ _ _ _ (s₁.setTop (mkF m 15 _ []))
  refine OwnFin.st (fun _ q => XS.iload X0.here hx rfl (hb hby d18_15) rfl q) ?_
  show OwnFin _ _ _ _ (s₁.setTop (mkF m 17 _ [(.int c0)]))
  refine OwnFin.st (fun _ q => XS.sipush X0.here hx rfl (hb hby d18_17) q) ?_
  show OwnFin _ _ _ _ (s₁.setTop (mkF m 20 _ [(.int 255), (.int c0)]))
  refine OwnFin.st (fun _ q => XS.icmpYes X0.here hx rfl (pc0 := 20) (pc' := 26) rfl (hb hby d18_20) rfl (Jvm.Free.XT.ii_le_t hc0) (by decide) (by decide) q) ?_
  show OwnFin _ _ _ _ (s₁.setTop (mkF m 26 _ []))
  refine OwnFin.st (fun _ q => XS.aloadN X0.here hx rfl (hb hby d18_26) rfl rfl q) ?_
  show OwnFin _ _ _ _ (s₁.setTop (mkF m 27 #[.val (.ref a0), .val (.int 0), .val (.ref a2), .val (.int 0), .val (.int 1), .val (.int 0), .val (.int c0)] [(.ref a2)]))
  refine OwnFin.st (fun _ q => XS.iloadN X0.here hx rfl (hb hby d18_27) rfl q) ?_
  show OwnFin _ _ _ _ (s₁.setTop (mkF m 28 _ [(.int 0), (.ref a2)]))
  refine OwnFin.st (fun _ q => XS.iload X0.here hx rfl (hb hby d18_28) rfl q) ?_
  show OwnFin _ _ _ _ (s₁.setTop (mkF m 30 _ [(.int c0), (.int 0), (.ref a2)]))
  refine OwnFin.st (fun _ q => XS.i2b X0.here hx rfl (hb hby d18_30) rfl q) ?_
  show OwnFin _ _ _ _ (s₁.setTop (mkF m 31 _ [(.int (c0.toInt8.toInt32)), (.int 0), (.ref a2)]))
  have Vo2 : Arv Z h0 a2 k_a2 .byte (1 : Int32) [(.int 0)] (.int 0) := V_a2
  obtain ⟨cl2, Ar2, qa2, Sa2, Na2, Ha2, Ga2⟩ := id Vo2
  obtain ⟨T2, h2, X2, e2, W2, st2⟩ := stB X0 hx hZ e0 Ar2 (j := (0 : Int32)) (inb_of Sa2 ⟨by decide, by decide⟩) (g := (mkF m 31 #[.val (.ref a0), .val (.int 0), .val (.ref a2), .val (.int 0), .val (.int 1), .val (.int 0), .val (.int c0)] [(.int (c0.toInt8.toInt32)), (.int 0), (.ref a2)])) rfl rfl (hb hby d18_31)
  refine OwnFin.st st2 ?_
  have V2 : Arv Z h2 a2 k_a2 .byte (1 : Int32) [(.int (c0.toInt8.toInt32))] (.int 0) := by
    have z := Arv.set Ar2 qa2 Sa2 Na2 Ha2 Ga2 (fits_nar_byte _) W2 0 rfl (Nat.le_of_ble_eq_true rfl)
    rw [own_nari2b] at z
    exact z
  have N2 := Fr.snoc X2 N0 g_a2
  have kp3 : Keep h0 h2 [a2] := kp0.wr W2 (Or.inl (List.mem_of_getElem? (i := 0) rfl))
  show OwnFin _ _ _ _ (T2.setTop (mkF m 32 _ []))
  refine OwnFin.st (fun _ q => XS.iinc X2.here hx rfl (hb hby d18_32) rfl (l' := #[.val (.ref a0), .val (.int ((0 : Int32) + (1 : Int32))), .val (.ref a2), .val (.int 0), .val (.int 1), .val (.int 0), .val (.int c0)]) rfl q) ?_
  show OwnFin _ _ _ _ (T2.setTop (mkF m 35 _ []))
  refine OwnFin.st (fun _ q => XS.iinc X2.here hx rfl (hb hby d18_35) rfl (l' := #[.val (.ref a0), .val (.int ((0 : Int32) + (1 : Int32))), .val (.ref a2), .val (.int ((0 : Int32) + (1 : Int32))), .val (.int 1), .val (.int 0), .val (.int c0)]) rfl q) ?_
  show OwnFin _ _ _ _ (T2.setTop (mkF m 38 _ []))
  refine OwnFin.st (fun _ q => XS.iinc X2.here hx rfl (hb hby d18_38) rfl (l' := #[.val (.ref a0), .val (.int ((0 : Int32) + (1 : Int32))), .val (.ref a2), .val (.int ((0 : Int32) + (1 : Int32))), .val (.int 1), .val (.int ((0 : Int32) + (1 : Int32))), .val (.int c0)]) rfl q) ?_
  show OwnFin _ _ _ _ (T2.setTop (mkF m 41 _ []))
  refine OwnFin.st (fun _ q => XS.goto X2.here hx rfl (pc0 := 41) (pc' := 3) rfl (hb hby d18_41) (by decide) (by decide) q) ?_
  show OwnFin _ _ _ _ (T2.setTop (mkF m 3 _ []))
  refine OwnFin.st (fun _ q => XS.iload X2.here hx rfl (hb hby d18_3) rfl q) ?_
  show OwnFin _ _ _ _ (T2.setTop (mkF m 5 _ [(.int ((0 : Int32) + (1 : Int32)))]))
  refine OwnFin.st (fun _ q => XS.iload X2.here hx rfl (hb hby d18_5) rfl q) ?_
  show OwnFin _ _ _ _ (T2.setTop (mkF m 7 _ [(.int 1), (.int ((0 : Int32) + (1 : Int32)))]))
  refine OwnFin.st (fun _ q => XS.icmpYes X2.here hx rfl (pc0 := 7) (pc' := 44) rfl (hb hby d18_7) rfl (Jvm.Free.XT.ii_ge_t (by decide : ¬ (((0 : Int32) + (1 : Int32)) < (1 : Int32)))) (by decide) (by decide) q) ?_
  show OwnFin _ _ _ _ (T2.setTop (mkF m 44 _ []))
  refine OwnFin.st (fun _ q => XS.iload X2.here hx rfl (hb hby d18_44) rfl q) ?_
  show OwnFin _ _ _ _ (T2.setTop (mkF m 46 _ [(.int 1)]))
  obtain ⟨fs, hr, hrun, hended, hW, hsame⟩ := X2.leave (v := some (.int 1)) (fun h => by rw [Bd.returns] at h; cases h)
  refine ⟨_, _, retI X2 hx Bd.returns (hb hby d18_46) hr, hrun, hended, _, _, rfl, ?_, ⟨_, rfl⟩, hW, hsame.mono (by decide) (by decide)⟩
  show Q_rm_c5_1 Z a0 a2 k_a0 c0 k_a2 h0 n0 _ T2.heap _
  rw [e2]
  exact ⟨rfl, N2, kp3, V2⟩
theorem pd_1 : parseMethodDescriptor "([CI[BII)I" = some ⟨[(.array .char), .int, (.array .byte), .int, .int], some .int⟩ := by decide +kernel
theorem d17_0 : decode jdk_52_method_16_code 0 = .ok (.iload_n 2, 1) := by decide +kernel
theorem d17_1 : decode jdk_52_method_16_code 1 = .ok (.newarray .byte, 2) := by decide +kernel
theorem d17_3 : decode jdk_52_method_16_code 3 = .ok (.astore_n 3, 1) := by decide +kernel
theorem d17_4 : decode jdk_52_method_16_code 4 = .ok (.aload_n 0, 1) := by decide +kernel
theorem d17_5 : decode jdk_52_method_16_code 5 = .ok (.iload_n 1, 1) := by decide +kernel
theorem d17_6 : decode jdk_52_method_16_code 6 = .ok (.aload_n 3, 1) := by decide +kernel
theorem d17_7 : decode jdk_52_method_16_code 7 = .ok (.iconst 0, 1) := by decide +kernel
theorem d17_8 : decode jdk_52_method_16_code 8 = .ok (.iload_n 2, 1) := by decide +kernel
theorem d17_9 : decode jdk_52_method_16_code 9 = .ok (.invokestatic 115, 3) := by decide +kernel
theorem d17_12 : decode jdk_52_method_16_code 12 = .ok (.istore 4, 2) := by decide +kernel
theorem d17_14 : decode jdk_52_method_16_code 14 = .ok (.iload 4, 2) := by decide +kernel
theorem d17_16 : decode jdk_52_method_16_code 16 = .ok (.iload_n 2, 1) := by decide +kernel
theorem d17_17 : decode jdk_52_method_16_code 17 = .ok (.if_icmp .eq 40, 3) := by decide +kernel
theorem d17_57 : decode jdk_52_method_16_code 57 = .ok (.aload_n 3, 1) := by decide +kernel
theorem d17_58 : decode jdk_52_method_16_code 58 = .ok (.areturn, 1) := by decide +kernel
theorem ef_rm_c3_1 (m : MethodId) (a0 : Addr) : entryFrame m #[(.ref a0), (.int 0), (.int 1)] 6 = mkF m 0 #[.val (.ref a0), .val (.int 0), .val (.int 1), .unset, .unset, .unset] [] := by first | (simp [entryFrame, mkF, argsToLocals, Value.category]; done) | rfl
def Q_rm_c3_1 (Z : State) (a0 : Addr) (k_a0 : ClassId) (c0 : Int32) (h0 : Heap) (n0 : Nat) (v : Option Value) (h : Heap) (L : List Loc) : Prop := ∃ b1 : Addr, ∃ k1 : ClassId, v = some (.ref b1) ∧ Fr n0 L ∧ Keep h0 h [] ∧ h0.size ≤ b1 ∧ Arv Z h b1 k1 .byte (1 : Int32) [(.int (c0.toInt8.toInt32))] (.int 0)
set_option maxRecDepth 65536 in
set_option maxHeartbeats 40000000 in
theorem rm_c3_1 (l : Launch) (Z : State) (av0 : Array Value) (hw : ∀ d ∈ tables_1, d.before av0 Z = true) (ws : List Jvm.Cond) (a0 : Addr) (k_a0 : ClassId) (c0 : Int32) (h0 : Heap) (n0 : Nat) (Z0 : n0 ≤ h0.size) (V_a0 : Arv Z h0 a0 k_a0 .char (1 : Int32) [(.int c0)] (.int 0)) (hc0 : ¬ ((255 : Int32) < c0)) :
    MetFree l yM3 (head1 (Jvm.Cond.code yM3 jdk_52_method_16_code 6 (some (.array .byte)) :: ws) ({ frames := 1, cells := 1, slots := 1, locals := 18 } : Room)) (fun a U => a = #[(.ref a0), (.int 0), (.int 1)] ∧ Z.Warmed39 U.vm ∧ U.heap = h0) (fun _ _ _ _ _ => True) (fun _ U o U' => ∃ v L, o = .returned v ∧ Q_rm_c3_1 Z a0 k_a0 c0 h0 n0 v U'.heap L ∧ FrameEnd U o U' L ({ frames := 1, cells := 1, slots := 1, locals := 18 } : Room).cells ({ frames := 1, cells := 1, slots := 1, locals := 18 } : Room).slots) := by
  refine MetFree.of_bodySF (plainFor_of_name pn_1) hisR ?_
  intro p e s m args below meth c s₁ Bd hml0 hP hK
  obtain ⟨rfl, hZ, hh⟩ := hP
  have hx := Bd.exec
  have hby := Bd.bytes
  have hml : c.maxLocals = 6 := hml0
  have hown : s.vm.findClass "java/lang/StringUTF16" = some m.cls := findClass_of_methodNamed Bd.named
  have hnm := (name_of_methodNamed Bd.named Bd.method).1
  have X0 : Stand p l e ({ frames := 1, cells := 1, slots := 1, locals := 18 } : Room) s m #[(.ref a0), (.int 0), (.int 1)] below meth c s₁ [] 0 0 := Stand.of_body Bd
  have e0 : s₁.heap = h0 := by rw [← hh, Bd.state]; rfl
  have N0 := Fr.nil n0
  have pre0 : ∀ t, Steps p.tables e below (s₁.setTop (mkF m 0 #[.val (.ref a0), .val (.int 0), .val (.int 1), .unset, .unset, .unset] [])) t → Steps p.tables e below (s₁.setTop (entryFrame m #[(.ref a0), (.int 0), (.int 1)] 6)) t := fun t k => castTop (ef_rm_c3_1 m a0) k
  change OwnFin p.tables e below _ (s₁.setTop (entryFrame m #[(.ref a0), (.int 0), (.int 1)] 6))
  have kp0 : Keep h0 h0 [] := Keep.refl _ _
  refine OwnFin.st (fun _ q => pre0 _ q) ?_
  show OwnFin _ _ _ _ (s₁.setTop (mkF m 0 #[.val (.ref a0), .val (.int 0), .val (.int 1), .unset, .unset, .unset] []))
  refine OwnFin.st (fun _ q => XS.iloadN X0.here hx rfl (hb hby d17_0) rfl q) ?_
  show OwnFin _ _ _ _ (s₁.setTop (mkF m 1 _ [(.int 1)]))
  obtain ⟨T1, h1, k1, X1, e1, E1, A1, st1⟩ := newP X0 hx hZ (w_ hw 28 rfl) e0 (g := (mkF m 1 #[.val (.ref a0), .val (.int 0), .val (.int 1), .unset, .unset, .unset] [(.int 1)])) rfl (hb hby d17_1) rfl (by decide) (cap := 1) (by decide) (by decide) (by decide) (by decide)
  obtain ⟨b1, qe1⟩ : ∃ z, z = h0.size := ⟨_, rfl⟩
  rw [← qe1] at A1 st1
  refine OwnFin.st st1 ?_
  have bi_b1 : h0.size ≤ b1 := Nat.le_of_eq qe1.symm
  have lo_b1 : h0.size ≤ b1 := Nat.le_trans kp0.1 bi_b1
  have g_b1 : n0 ≤ b1 := Nat.le_trans Z0 lo_b1
  have kp2 : Keep h0 h1 [] := kp0.ext E1
  have V1 : Arv Z h1 b1 k1 .byte (1 : Int32) [(.int 0)] (.int 0) := (Arv.new A1 (by decide)).pad (pad_rep [] (.int 0) 1)
  show OwnFin _ _ _ _ (T1.setTop (mkF m 3 _ [(.ref b1)]))
  refine OwnFin.st (fun _ q => XS.astoreN X1.here hx rfl (hb hby d17_3) rfl rfl (l' := #[.val (.ref a0), .val (.int 0), .val (.int 1), .val (.ref b1), .unset, .unset]) rfl q) ?_
  show OwnFin _ _ _ _ (T1.setTop (mkF m 4 _ []))
  refine OwnFin.st (fun _ q => XS.aloadN X1.here hx rfl (hb hby d17_4) rfl rfl q) ?_
  show OwnFin _ _ _ _ (T1.setTop (mkF m 5 _ [(.ref a0)]))
  refine OwnFin.st (fun _ q => XS.iloadN X1.here hx rfl (hb hby d17_5) rfl q) ?_
  show OwnFin _ _ _ _ (T1.setTop (mkF m 6 _ [(.int 0), (.ref a0)]))
  refine OwnFin.st (fun _ q => XS.aloadN X1.here hx rfl (hb hby d17_6) rfl rfl q) ?_
  show OwnFin _ _ _ _ (T1.setTop (mkF m 7 _ [(.ref b1), (.int 0), (.ref a0)]))
  refine OwnFin.st (fun _ q => XS.iconst X1.here hx rfl (hb hby d17_7) q) ?_
  show OwnFin _ _ _ _ (T1.setTop (mkF m 8 _ [(.int 0), (.ref b1), (.int 0), (.ref a0)]))
  refine OwnFin.st (fun _ q => XS.iloadN X1.here hx rfl (hb hby d17_8) rfl q) ?_
  show OwnFin _ _ _ _ (T1.setTop (mkF m 9 _ [(.int 1), (.int 0), (.ref b1), (.int 0), (.ref a0)]))
  show OwnFin _ _ _ _ (T1.setTop (mkF m 9 _ [(.int 1), (.int 0), (.ref b1), (.int 0), (.ref a0)]))
  obtain ⟨_, _, ⟨T3, L3, k3, n3⟩, -, X3, ⟨Lc3, hQ3, l3, y3, z3⟩, st3⟩ := Jvm.LawKit.callS X1 hx (y := yM2) hown (mvT hZ (w_ hw 110 rfl)) (mvT hZ (w_ hw 111 rfl)) (mvT hZ (w_ hw 108 rfl)) (mvT hZ (w_ hw 112 rfl)) (by decide) (backOf (W := 0) (rm_c5_1 l Z av0 hw [] a0 b1 k_a0 c0 k1 h1 n0 (Nat.le_trans Z0 kp2.1) (V_a0.ext E1) V1 hc0 g_b1) hZ (w_ hw 112 rfl) (w_ hw 108 rfl) (by decide) (by decide)) (g := (mkF m 9 #[.val (.ref a0), .val (.int 0), .val (.int 1), .val (.ref b1), .unset, .unset] [(.int 1), (.int 0), (.ref b1), (.int 0), (.ref a0)])) rfl (by rw [hml]; rfl) (argsL := [(.ref a0), (.int 0), (.ref b1), (.int 0), (.int 1)]) (rest := []) (lenOf pd_1 rfl) rfl (by show 2 * 0 + _ ≤ _; exact Nat.le_of_eq rfl) (hb hby d17_9) (fun _ _ => ⟨rfl, e1, (by decide : 1 + 0 ≤ _), (by decide : 1 + 0 ≤ _)⟩)
  dsimp only [Pt.U, Pt.locs, Pt.cells, Pt.slots] at X3 l3 y3 z3 st3 hQ3
  subst l3 y3 z3
  obtain ⟨rfl, N3q, K3, r3_0⟩ := hQ3
  have N3 := Fr.app N0 N3q
  refine OwnFin.st st3 ?_
  obtain ⟨h3, e3⟩ : ∃ z, T3.heap = z := ⟨_, rfl⟩
  rw [e3] at K3 r3_0
  have kp4 : Keep h0 h3 [] := kp2.trans K3 (allS (Or.inr lo_b1) all0)
  show OwnFin _ _ _ _ (T3.setTop (mkF m 12 _ [(.int 1)]))
  refine OwnFin.st (fun _ q => XS.istore X3.here hx rfl (hb hby d17_12) rfl (l' := #[.val (.ref a0), .val (.int 0), .val (.int 1), .val (.ref b1), .val (.int 1), .unset]) rfl q) ?_
  show OwnFin _ _ _ _ (T3.setTop (mkF m 14 _ []))
  refine OwnFin.st (fun _ q => XS.iload X3.here hx rfl (hb hby d17_14) rfl q) ?_
  show OwnFin _ _ _ _ (T3.setTop (mkF m 16 _ [(.int 1)]))
  refine OwnFin.st (fun _ q => XS.iloadN X3.here hx rfl (hb hby d17_16) rfl q) ?_
  show OwnFin _ _ _ _ (T3.setTop (mkF m 17 #[.val (.ref a0), .val (.int 0), .val (.int 1), .val (.ref b1), .val (.int 1), .unset] [(.int 1), (.int 1)]))
  refine OwnFin.st (fun _ q => XS.icmpYes X3.here hx rfl (pc0 := 17) (pc' := 57) rfl (hb hby d17_17) rfl (Jvm.Free.XT.ii_eq_t (rfl : (1 : Int32) = (1 : Int32))) (by decide) (by decide) q) ?_
  show OwnFin _ _ _ _ (T3.setTop (mkF m 57 _ []))
  refine OwnFin.st (fun _ q => XS.aloadN X3.here hx rfl (hb hby d17_57) rfl rfl q) ?_
  show OwnFin _ _ _ _ (T3.setTop (mkF m 58 _ [(.ref b1)]))
  obtain ⟨fs, hr, hrun, hended, hW, hsame⟩ := X3.leave (v := some (.ref b1)) (fun h => by rw [Bd.returns] at h; cases h)
  refine ⟨_, _, retOut X3 hx Bd.returns rfl (Or.inr (Or.inr (Or.inr (Or.inr ⟨rfl, rfl, rfl⟩)))) (hb hby d17_58) hr, hrun, hended, _, _, rfl, ?_, ⟨_, rfl⟩, hW, hsame.mono (by decide) (by decide)⟩
  show Q_rm_c3_1 Z a0 k_a0 c0 h0 n0 _ T3.heap _
  rw [e3]
  exact ⟨b1, k1, rfl, N3, kp4, lo_b1, r3_0⟩
theorem d19_0 : decode jdk_52_method_15_code 0 = .ok (.iload_n 1, 1) := by decide +kernel
theorem d19_1 : decode jdk_52_method_15_code 1 = .ok (.aload_n 0, 1) := by decide +kernel
theorem d19_2 : decode jdk_52_method_15_code 2 = .ok (.arraylength, 1) := by decide +kernel
theorem d19_3 : decode jdk_52_method_15_code 3 = .ok (.isub, 1) := by decide +kernel
theorem d19_4 : decode jdk_52_method_15_code 4 = .ok (.bipush 31, 2) := by decide +kernel
theorem d19_6 : decode jdk_52_method_15_code 6 = .ok (.iushr, 1) := by decide +kernel
theorem d19_7 : decode jdk_52_method_15_code 7 = .ok (.i2b, 1) := by decide +kernel
theorem d19_8 : decode jdk_52_method_15_code 8 = .ok (.ireturn, 1) := by decide +kernel
theorem ef_rm_cl_1 (m : MethodId) (a0 : Addr) : entryFrame m #[(.ref a0), (.int 1)] 2 = mkF m 0 #[.val (.ref a0), .val (.int 1)] [] := by first | (simp [entryFrame, mkF, argsToLocals, Value.category]; done) | rfl
def Q_rm_cl_1 (Z : State) (a0 : Addr) (k_a0 : ClassId) (y0 : Int32) (h0 : Heap) (n0 : Nat) (v : Option Value) (h : Heap) (L : List Loc) : Prop := v = some (.int 0) ∧ Fr n0 L ∧ h = h0
set_option maxRecDepth 65536 in
set_option maxHeartbeats 40000000 in
theorem rm_cl_1 (l : Launch) (Z : State) (av0 : Array Value) (hw : ∀ d ∈ tables_1, d.before av0 Z = true) (ws : List Jvm.Cond) (a0 : Addr) (k_a0 : ClassId) (y0 : Int32) (h0 : Heap) (n0 : Nat) (Z0 : n0 ≤ h0.size) (V_a0 : Arv Z h0 a0 k_a0 .byte (1 : Int32) [(.int y0)] (.int 0)) :
    MetFree l yM4 (head1 (Jvm.Cond.code yM4 jdk_52_method_15_code 2 (some .byte) :: ws) ({ frames := 0, cells := 0, slots := 0, locals := 0 } : Room)) (fun a U => a = #[(.ref a0), (.int 1)] ∧ Z.Warmed39 U.vm ∧ U.heap = h0) (fun _ _ _ _ _ => True) (fun _ U o U' => ∃ v L, o = .returned v ∧ Q_rm_cl_1 Z a0 k_a0 y0 h0 n0 v U'.heap L ∧ FrameEnd U o U' L ({ frames := 0, cells := 0, slots := 0, locals := 0 } : Room).cells ({ frames := 0, cells := 0, slots := 0, locals := 0 } : Room).slots) := by
  refine MetFree.of_bodySF (plainFor_of_name pn_1) hisR ?_
  intro p e s m args below meth c s₁ Bd hml0 hP hK
  obtain ⟨rfl, hZ, hh⟩ := hP
  have hx := Bd.exec
  have hby := Bd.bytes
  have hml : c.maxLocals = 2 := hml0
  have hown : s.vm.findClass "java/lang/StringUTF16" = some m.cls := findClass_of_methodNamed Bd.named
  have hnm := (name_of_methodNamed Bd.named Bd.method).1
  have X0 : Stand p l e ({ frames := 0, cells := 0, slots := 0, locals := 0 } : Room) s m #[(.ref a0), (.int 1)] below meth c s₁ [] 0 0 := Stand.of_body Bd
  have e0 : s₁.heap = h0 := by rw [← hh, Bd.state]; rfl
  have N0 := Fr.nil n0
  have pre0 : ∀ t, Steps p.tables e below (s₁.setTop (mkF m 0 #[.val (.ref a0), .val (.int 1)] [])) t → Steps p.tables e below (s₁.setTop (entryFrame m #[(.ref a0), (.int 1)] 2)) t := fun t k => castTop (ef_rm_cl_1 m a0) k
  change OwnFin p.tables e below _ (s₁.setTop (entryFrame m #[(.ref a0), (.int 1)] 2))
  have kp0 : Keep h0 h0 [] := Keep.refl _ _
  refine OwnFin.st (fun _ q => pre0 _ q) ?_
  show OwnFin _ _ _ _ (s₁.setTop (mkF m 0 #[.val (.ref a0), .val (.int 1)] []))
  refine OwnFin.st (fun _ q => XS.iloadN X0.here hx rfl (hb hby d19_0) rfl q) ?_
  show OwnFin _ _ _ _ (s₁.setTop (mkF m 1 _ [(.int 1)]))
  refine OwnFin.st (fun _ q => XS.aloadN X0.here hx rfl (hb hby d19_1) rfl rfl q) ?_
  show OwnFin _ _ _ _ (s₁.setTop (mkF m 2 _ [(.ref a0), (.int 1)]))
  have Vo1 : Arv Z h0 a0 k_a0 .byte (1 : Int32) [(.int y0)] (.int 0) := V_a0
  obtain ⟨cl1, Ar1, qa1, Sa1, Na1, Ha1, Ga1⟩ := id Vo1
  refine OwnFin.st (X0.arraylength hx (by rw [e0]; exact Ar1.1) (State.isArrayOf_alike (hZ).alike Ar1.2.1) (g := (mkF m 2 #[.val (.ref a0), .val (.int 1)] [(.ref a0), (.int 1)])) rfl rfl (hb hby d19_2)) ?_
  rw [len_of Sa1 Na1]
  show OwnFin _ _ _ _ (s₁.setTop (mkF m 3 _ [(.int 1), (.int 1)]))
  refine OwnFin.st (fun _ q => XS.isub X0.here hx rfl (hb hby d19_3) rfl q) ?_
  show OwnFin _ _ _ _ (s₁.setTop (mkF m 4 _ [(.int ((1 : Int32) - (1 : Int32)))]))
  refine OwnFin.st (fun _ q => XS.bipush X0.here hx rfl (hb hby d19_4) q) ?_
  show OwnFin _ _ _ _ (s₁.setTop (mkF m 6 _ [(.int 31), (.int ((1 : Int32) - (1 : Int32)))]))
  refine OwnFin.st (fun _ q => XS.iushr X0.here hx rfl (hb hby d19_6) rfl q) ?_
  show OwnFin _ _ _ _ (s₁.setTop (mkF m 7 _ [(.int ((((1 : Int32) - (1 : Int32)).toUInt32 >>> ((31 : Int32) &&& 31).toUInt32).toInt32))]))
  refine OwnFin.st (fun _ q => XS.i2b X0.here hx rfl (hb hby d19_7) rfl q) ?_
  show OwnFin _ _ _ _ (s₁.setTop (mkF m 8 _ [(.int (((((1 : Int32) - (1 : Int32)).toUInt32 >>> ((31 : Int32) &&& 31).toUInt32).toInt32).toInt8.toInt32))]))
  obtain ⟨fs, hr, hrun, hended, hW, hsame⟩ := X0.leave (v := some (.int 0)) (fun h => by rw [Bd.returns] at h; cases h)
  refine ⟨_, _, retN X0 hx (t := .byte) Bd.returns (by simp) (hb hby d19_8) hr, hrun, hended, _, _, rfl, ?_, ⟨_, rfl⟩, hW, hsame.mono (by decide) (by decide)⟩
  show Q_rm_cl_1 Z a0 k_a0 y0 h0 n0 _ s₁.heap _
  rw [e0]
  exact ⟨rfl, N0, rfl⟩
theorem pd_2 : parseMethodDescriptor "([CII)[B" = some ⟨[(.array .char), .int, .int], some (.array .byte)⟩ := by decide +kernel
theorem pd_3 : parseMethodDescriptor "([BI)B" = some ⟨[(.array .byte), .int], some .byte⟩ := by decide +kernel
theorem d6_27 : decode jdk_42_method_149_code 27 = .ok (.getstatic 38, 3) := by decide +kernel
theorem d6_30 : decode jdk_42_method_149_code 30 = .ok (.ifCond .eq 28, 3) := by decide +kernel
theorem d6_33 : decode jdk_42_method_149_code 33 = .ok (.aload_n 1, 1) := by decide +kernel
theorem d6_34 : decode jdk_42_method_149_code 34 = .ok (.iload_n 2, 1) := by decide +kernel
theorem d6_35 : decode jdk_42_method_149_code 35 = .ok (.iload_n 3, 1) := by decide +kernel
theorem d6_36 : decode jdk_42_method_149_code 36 = .ok (.invokestatic 177, 3) := by decide +kernel
theorem d6_39 : decode jdk_42_method_149_code 39 = .ok (.astore 5, 2) := by decide +kernel
theorem d6_41 : decode jdk_42_method_149_code 41 = .ok (.aload_n 0, 1) := by decide +kernel
theorem d6_42 : decode jdk_42_method_149_code 42 = .ok (.aload 5, 2) := by decide +kernel
theorem d6_44 : decode jdk_42_method_149_code 44 = .ok (.iload_n 3, 1) := by decide +kernel
theorem d6_45 : decode jdk_42_method_149_code 45 = .ok (.invokestatic 47, 3) := by decide +kernel
theorem d6_48 : decode jdk_42_method_149_code 48 = .ok (.putfield 15, 3) := by decide +kernel
theorem d6_51 : decode jdk_42_method_149_code 51 = .ok (.aload_n 0, 1) := by decide +kernel
theorem d6_52 : decode jdk_42_method_149_code 52 = .ok (.aload 5, 2) := by decide +kernel
theorem d6_54 : decode jdk_42_method_149_code 54 = .ok (.putfield 9, 3) := by decide +kernel
theorem d6_57 : decode jdk_42_method_149_code 57 = .ok (.return_, 1) := by decide +kernel
theorem ef_rm_sv_1 (m : MethodId) (a0 : Addr) (a1 : Addr) : entryFrame m #[(.ref a0), (.ref a1), (.int 0), (.int 1), .null] 6 = mkF m 0 #[.val (.ref a0), .val (.ref a1), .val (.int 0), .val (.int 1), .val .null, .unset] [] := by first | (simp [entryFrame, mkF, argsToLocals, Value.category]; done) | rfl
def Q_rm_sv_1 (Z : State) (a0 : Addr) (a1 : Addr) (k_a1 : ClassId) (c0 : Int32) (w_COMPACT_STRINGS : Int32) (u_coder_a0 : Value) (u_value_a0 : Value) (h0 : Heap) (n0 : Nat) (v : Option Value) (h : Heap) (L : List Loc) : Prop := ∃ c3_0 : Addr, ∃ kc3_1 : ClassId, v = none ∧ Fr n0 L ∧ Keep h0 h [a0] ∧ h0.size ≤ c3_0 ∧ Arv Z h c3_0 kc3_1 .byte (1 : Int32) [(.int (c0.toInt8.toInt32))] (.int 0) ∧ Fld Z h a0 "java/lang/String" "coder" "B" (.int 0) ∧ Fld Z h a0 "java/lang/String" "value" "[B" (.ref c3_0)
set_option maxRecDepth 65536 in
set_option maxHeartbeats 40000000 in
theorem rm_sv_1 (l : Launch) (Z : State) (av0 : Array Value) (hw : ∀ d ∈ tables_1, d.before av0 Z = true) (ws : List Jvm.Cond) (a0 : Addr) (a1 : Addr) (k_a1 : ClassId) (c0 : Int32) (w_COMPACT_STRINGS : Int32) (u_coder_a0 : Value) (u_value_a0 : Value) (h0 : Heap) (n0 : Nat) (Z0 : n0 ≤ h0.size) (Ol0 : Old Z n0 h0) (V_a1 : Arv Z h0 a1 k_a1 .char (1 : Int32) [(.int c0)] (.int 0)) (S_COMPACT_STRINGS : Sta Z Z.heap "java/lang/String" "COMPACT_STRINGS" "Z" (.int w_COMPACT_STRINGS)) (hc0 : ¬ (w_COMPACT_STRINGS = (0 : Int32))) (hc1 : ¬ ((255 : Int32) < c0)) (X_a0 : Exa Z h0 a0 "java/lang/String") (F_coder_a0 : Fld Z h0 a0 "java/lang/String" "coder" "B" u_coder_a0) (g_a0 : n0 ≤ a0) (F_value_a0 : Fld Z h0 a0 "java/lang/String" "value" "[B" u_value_a0) :
    MetFree l yM0 (head1 (Jvm.Cond.code yM0 jdk_42_method_149_code 6 none :: ws) ({ frames := 2, cells := 1, slots := 1, locals := 35 } : Room)) (fun a U => a = #[(.ref a0), (.ref a1), (.int 0), (.int 1), .null] ∧ Z.Warmed39 U.vm ∧ U.heap = h0) (fun _ _ _ _ _ => True) (fun _ U o U' => ∃ v L, o = .returned v ∧ Q_rm_sv_1 Z a0 a1 k_a1 c0 w_COMPACT_STRINGS u_coder_a0 u_value_a0 h0 n0 v U'.heap L ∧ FrameEnd U o U' L ({ frames := 2, cells := 1, slots := 1, locals := 35 } : Room).cells ({ frames := 2, cells := 1, slots := 1, locals := 35 } : Room).slots) := by
  refine MetFree.of_bodySF (plainFor_of_name pn_0) hisR ?_
  intro p e s m args below meth c s₁ Bd hml0 hP hK
  obtain ⟨rfl, hZ, hh⟩ := hP
  have hx := Bd.exec
  have hby := Bd.bytes
  have hml : c.maxLocals = 6 := hml0
  have hown : s.vm.findClass "java/lang/String" = some m.cls := findClass_of_methodNamed Bd.named
  have hnm := (name_of_methodNamed Bd.named Bd.method).1
  have X0 : Stand p l e ({ frames := 2, cells := 1, slots := 1, locals := 35 } : Room) s m #[(.ref a0), (.ref a1), (.int 0), (.int 1), .null] below meth c s₁ [] 0 0 := Stand.of_body Bd
  have e0 : s₁.heap = h0 := by rw [← hh, Bd.state]; rfl
  have N0 := Fr.nil n0
  have pre0 : ∀ t, Steps p.tables e below (s₁.setTop (mkF m 0 #[.val (.ref a0), .val (.ref a1), .val (.int 0), .val (.int 1), .val .null, .unset] [])) t → Steps p.tables e below (s₁.setTop (entryFrame m #[(.ref a0), (.ref a1), (.int 0), (.int 1), .null] 6)) t := fun t k => castTop (ef_rm_sv_1 m a0 a1) k
  change OwnFin p.tables e below _ (s₁.setTop (entryFrame m #[(.ref a0), (.ref a1), (.int 0), (.int 1), .null] 6))
  have kp0 : Keep h0 h0 [a0] := Keep.refl _ _
  refine OwnFin.st (fun _ q => pre0 _ q) ?_
  show OwnFin _ _ _ _ (s₁.setTop (mkF m 0 #[.val (.ref a0), .val (.ref a1), .val (.int 0), .val (.int 1), .val .null, .unset] []))
  refine OwnFin.st (fun _ q => XS.aloadN X0.here hx rfl (hb hby d6_0) rfl rfl q) ?_
  show OwnFin _ _ _ _ (s₁.setTop (mkF m 1 _ [(.ref a0)]))
  obtain ⟨T1, X1, e1, st1⟩ := initO X0 hx hZ hown (w_ hw 24 rfl) (w_ hw 25 rfl) (w_ hw 26 rfl) e0 (g := (mkF m 1 #[.val (.ref a0), .val (.ref a1), .val (.int 0), .val (.int 1), .val .null, .unset] [(.ref a0)])) rfl (by rw [hml]; rfl) rfl (hb hby d6_1) (by decide) (W := 0) (by show 2 * 0 + _ ≤ _; exact Nat.le_of_eq rfl) (by decide)
  refine OwnFin.st st1 ?_
  show OwnFin _ _ _ _ (T1.setTop (mkF m 4 _ []))
  refine OwnFin.st (fun _ q => XS.iloadN X1.here hx rfl (hb hby d6_4) rfl q) ?_
  show OwnFin _ _ _ _ (T1.setTop (mkF m 5 _ [(.int 1)]))
  refine OwnFin.st (fun _ q => XS.ifYes X1.here hx rfl (pc0 := 5) (pc' := 27) rfl (hb hby d6_5) rfl (Jvm.Free.XT.i0_ne_t (by decide : ¬ ((1 : Int32) = (0 : Int32)))) (by decide) (by decide) q) ?_
  show OwnFin _ _ _ _ (T1.setTop (mkF m 27 _ []))
  obtain ⟨T2, X2, e2, st2⟩ := getS2 X1 hx hZ hown (host := "") (Or.inl (w_ hw 99 rfl)) Via.refl e1 (S_COMPACT_STRINGS.ext Ol0.2) (g := (mkF m 27 #[.val (.ref a0), .val (.ref a1), .val (.int 0), .val (.int 1), .val .null, .unset] [])) rfl (hb hby d6_27)
  refine OwnFin.st st2 ?_
  show OwnFin _ _ _ _ (T2.setTop (mkF m 30 _ [(.int w_COMPACT_STRINGS)]))
  refine OwnFin.st (fun _ q => XS.ifNo X2.here hx rfl (hb hby d6_30) rfl (Jvm.Free.XT.i0_eq_f hc0) q) ?_
  show OwnFin _ _ _ _ (T2.setTop (mkF m 33 _ []))
  refine OwnFin.st (fun _ q => XS.aloadN X2.here hx rfl (hb hby d6_33) rfl rfl q) ?_
  show OwnFin _ _ _ _ (T2.setTop (mkF m 34 _ [(.ref a1)]))
  refine OwnFin.st (fun _ q => XS.iloadN X2.here hx rfl (hb hby d6_34) rfl q) ?_
  show OwnFin _ _ _ _ (T2.setTop (mkF m 35 _ [(.int 0), (.ref a1)]))
  refine OwnFin.st (fun _ q => XS.iloadN X2.here hx rfl (hb hby d6_35) rfl q) ?_
  show OwnFin _ _ _ _ (T2.setTop (mkF m 36 _ [(.int 1), (.int 0), (.ref a1)]))
  show OwnFin _ _ _ _ (T2.setTop (mkF m 36 _ [(.int 1), (.int 0), (.ref a1)]))
  obtain ⟨_, _, ⟨T3, L3, k3, n3⟩, -, X3, ⟨Lc3, hQ3, l3, y3, z3⟩, st3⟩ := Jvm.LawKit.callS X2 hx (y := yM3) hown (mvT hZ (w_ hw 106 rfl)) (mvT hZ (w_ hw 107 rfl)) (mvT hZ (w_ hw 108 rfl)) (mvT hZ (w_ hw 109 rfl)) (by decide) (backOf (W := 0) (rm_c3_1 l Z av0 hw [] a1 k_a1 c0 h0 n0 (Nat.le_trans Z0 kp0.1) V_a1 hc1) hZ (w_ hw 109 rfl) (w_ hw 108 rfl) (by decide) (by decide)) (g := (mkF m 36 #[.val (.ref a0), .val (.ref a1), .val (.int 0), .val (.int 1), .val .null, .unset] [(.int 1), (.int 0), (.ref a1)])) rfl (by rw [hml]; rfl) (argsL := [(.ref a1), (.int 0), (.int 1)]) (rest := []) (lenOf pd_2 rfl) rfl (by show 2 * 0 + _ ≤ _; exact Nat.le_of_eq rfl) (hb hby d6_36) (fun _ _ => ⟨rfl, e2, (by decide : 0 + 1 ≤ _), (by decide : 0 + 1 ≤ _)⟩)
  dsimp only [Pt.U, Pt.locs, Pt.cells, Pt.slots] at X3 l3 y3 z3 st3 hQ3
  subst l3 y3 z3
  obtain ⟨c3_0, kc3_1, rfl, N3q, K3, r3_0, r3_1⟩ := hQ3
  have N3 := Fr.app N0 N3q
  refine OwnFin.st st3 ?_
  obtain ⟨h3, e3⟩ : ∃ z, T3.heap = z := ⟨_, rfl⟩
  rw [e3] at K3 r3_1
  have bi_c3_0 : h0.size ≤ c3_0 := r3_0
  have lo_c3_0 : h0.size ≤ c3_0 := Nat.le_trans kp0.1 bi_c3_0
  have g_c3_0 : n0 ≤ c3_0 := Nat.le_trans Z0 lo_c3_0
  have kp4 : Keep h0 h3 [a0] := kp0.trans K3 all0
  have ol4 : Old Z n0 h3 := Ol0.keep K3 all0
  show OwnFin _ _ _ _ (T3.setTop (mkF m 39 _ [(.ref c3_0)]))
  refine OwnFin.st (fun _ q => XS.astore X3.here hx rfl (hb hby d6_39) rfl rfl (l' := #[.val (.ref a0), .val (.ref a1), .val (.int 0), .val (.int 1), .val .null, .val (.ref c3_0)]) rfl q) ?_
  show OwnFin _ _ _ _ (T3.setTop (mkF m 41 _ []))
  refine OwnFin.st (fun _ q => XS.aloadN X3.here hx rfl (hb hby d6_41) rfl rfl q) ?_
  show OwnFin _ _ _ _ (T3.setTop (mkF m 42 #[.val (.ref a0), .val (.ref a1), .val (.int 0), .val (.int 1), .val .null, .val (.ref c3_0)] [(.ref a0)]))
  refine OwnFin.st (fun _ q => XS.aload X3.here hx rfl (hb hby d6_42) rfl rfl q) ?_
  show OwnFin _ _ _ _ (T3.setTop (mkF m 44 _ [(.ref c3_0), (.ref a0)]))
  refine OwnFin.st (fun _ q => XS.iloadN X3.here hx rfl (hb hby d6_44) rfl q) ?_
  show OwnFin _ _ _ _ (T3.setTop (mkF m 45 _ [(.int 1), (.ref c3_0), (.ref a0)]))
  obtain ⟨_, _, ⟨T5, L5, k5, n5⟩, -, X5, ⟨Lc5, hQ5, l5, y5, z5⟩, st5⟩ := Jvm.LawKit.callS X3 hx (y := yM4) hown (mvT hZ (w_ hw 113 rfl)) (mvT hZ (w_ hw 114 rfl)) (mvT hZ (w_ hw 108 rfl)) (mvT hZ (w_ hw 115 rfl)) (by decide) (backOf (W := 1) (rm_cl_1 l Z av0 hw [] c3_0 kc3_1 (c0.toInt8.toInt32) h3 n0 (Nat.le_trans Z0 kp4.1) r3_1) hZ (w_ hw 115 rfl) (w_ hw 108 rfl) (by decide) (by decide)) (g := (mkF m 45 #[.val (.ref a0), .val (.ref a1), .val (.int 0), .val (.int 1), .val .null, .val (.ref c3_0)] [(.int 1), (.ref c3_0), (.ref a0)])) rfl (by rw [hml]; rfl) (argsL := [(.ref c3_0), (.int 1)]) (rest := [(.ref a0)]) (lenOf pd_3 rfl) rfl (by show 2 * 0 + _ ≤ _; exact Nat.le_of_eq rfl) (hb hby d6_45) (fun _ _ => ⟨rfl, e3, (by decide : 1 + 0 ≤ _), (by decide : 1 + 0 ≤ _)⟩)
  dsimp only [Pt.U, Pt.locs, Pt.cells, Pt.slots] at X5 l5 y5 z5 st5 hQ5
  subst l5 y5 z5
  obtain ⟨rfl, N5q, he5⟩ := hQ5
  have N5 := Fr.app N3 N5q
  refine OwnFin.st st5 ?_
  show OwnFin _ _ _ _ (T5.setTop (mkF m 48 _ [(.int 0), (.ref a0)]))
  obtain ⟨T6, h6, X6, e6, W6, st6⟩ := putFN X5 hx hZ hown (w_ hw 34 rfl) Via.refl he5 (F_coder_a0.keep K3 nin0) (X_a0.keep K3) (Or.inr ⟨(w_ hw 30 rfl), rfl, hnm⟩) (w_ hw 14 rfl) (ty := .byte) (v' := (.int 0)) (by decide) rfl rfl (g := (mkF m 48 #[.val (.ref a0), .val (.ref a1), .val (.int 0), .val (.int 1), .val .null, .val (.ref c3_0)] [(.int 0), (.ref a0)])) rfl rfl (hb hby d6_48)
  refine OwnFin.st st6 ?_
  have Fw6 : Fld Z h6 a0 "java/lang/String" "coder" "B" (.int 0) := (F_coder_a0.keep K3 nin0).same W6
  have N6 := Fr.snoc X6 N5 g_a0
  have kp7 : Keep h0 h6 [a0] := kp4.wr W6 (Or.inl (List.mem_of_getElem? (i := 0) rfl))
  have ol7 : Old Z n0 h6 := ol4.wr W6 g_a0
  show OwnFin _ _ _ _ (T6.setTop (mkF m 51 _ []))
  refine OwnFin.st (fun _ q => XS.aloadN X6.here hx rfl (hb hby d6_51) rfl rfl q) ?_
  show OwnFin _ _ _ _ (T6.setTop (mkF m 52 _ [(.ref a0)]))
  refine OwnFin.st (fun _ q => XS.aload X6.here hx rfl (hb hby d6_52) rfl rfl q) ?_
  show OwnFin _ _ _ _ (T6.setTop (mkF m 54 _ [(.ref c3_0), (.ref a0)]))
  have fr8 : Fld Z h6 a0 "java/lang/String" "value" "[B" u_value_a0 := ((F_value_a0.keep K3 nin0).other W6 (Or.inr (slot_ne (Or.inr (w_ hw 29 rfl)) (Or.inr (w_ hw 30 rfl)) (by decide) (t := (.array .byte)) (t' := .byte) (by decide) (by decide))))
  obtain ⟨T9, h9, X9, e9, W9, st9⟩ := putF X6 hx hZ hown (host := "") (Or.inl (w_ hw 33 rfl)) Via.refl e6 fr8 ((X_a0.keep K3).wr W6) (Or.inr ⟨(w_ hw 29 rfl), rfl, hnm⟩) (w_ hw 14 rfl) (ty := (.array .byte)) (by decide) rfl rfl (g := (mkF m 54 #[.val (.ref a0), .val (.ref a1), .val (.int 0), .val (.int 1), .val .null, .val (.ref c3_0)] [(.ref c3_0), (.ref a0)])) rfl rfl (hb hby d6_54)
  refine OwnFin.st st9 ?_
  have Fw9 : Fld Z h9 a0 "java/lang/String" "value" "[B" (.ref c3_0) := ((F_value_a0.keep K3 nin0).other W6 (Or.inr (slot_ne (Or.inr (w_ hw 29 rfl)) (Or.inr (w_ hw 30 rfl)) (by decide) (t := (.array .byte)) (t' := .byte) (by decide) (by decide)))).same W9
  have N9 := Fr.snoc X9 N6 g_a0
  have kp10 : Keep h0 h9 [a0] := kp7.wr W9 (Or.inl (List.mem_of_getElem? (i := 0) rfl))
  have ol10 : Old Z n0 h9 := ol7.wr W9 g_a0
  show OwnFin _ _ _ _ (T9.setTop (mkF m 57 _ []))
  obtain ⟨fs, hr, hrun, hended, hW, hsame⟩ := X9.leave (v := none) (fun _ => rfl)
  refine ⟨_, _, X9.returnOut hx Bd.returns (hb hby d6_57) hr, hrun, hended, _, _, rfl, ?_, ⟨_, rfl⟩, hW, hsame.mono (by decide) (by decide)⟩
  show Q_rm_sv_1 Z a0 a1 k_a1 c0 w_COMPACT_STRINGS u_coder_a0 u_value_a0 h0 n0 _ T9.heap _
  rw [e9]
  have fr11 : Arv Z h9 c3_0 kc3_1 .byte (1 : Int32) [(.int (c0.toInt8.toInt32))] (.int 0) := ((r3_1.other W6 (Ne.symm (Nat.ne_of_lt (Nat.lt_of_lt_of_le X_a0.lt bi_c3_0)))).other W9 (Ne.symm (Nat.ne_of_lt (Nat.lt_of_lt_of_le X_a0.lt bi_c3_0))))
  have fr12 : Fld Z h9 a0 "java/lang/String" "coder" "B" (.int 0) := (Fw6.other W9 (Or.inr (slot_ne (Or.inr (w_ hw 30 rfl)) (Or.inr (w_ hw 29 rfl)) (by decide) (t := .byte) (t' := (.array .byte)) (by decide) (by decide))))
  exact ⟨c3_0, kc3_1, rfl, N9, kp10, lo_c3_0, fr11, fr12, Fw9⟩
theorem ef_rm_si_1 (m : MethodId) (a0 : Addr) (a1 : Addr) : entryFrame m #[(.ref a0), (.ref a1)] 2 = mkF m 0 #[.val (.ref a0), .val (.ref a1)] [] := by first | (simp [entryFrame, mkF, argsToLocals, Value.category]; done) | rfl
def Q_rm_si_1 (Z : State) (a0 : Addr) (a1 : Addr) (k_a1 : ClassId) (c0 : Int32) (w_COMPACT_STRINGS : Int32) (u_coder_a0 : Value) (u_value_a0 : Value) (h0 : Heap) (n0 : Nat) (v : Option Value) (h : Heap) (L : List Loc) : Prop := ∃ c2_0 : Addr, ∃ kc2_1 : ClassId, v = none ∧ Fr n0 L ∧ Keep h0 h [a0] ∧ h0.size ≤ c2_0 ∧ Arv Z h c2_0 kc2_1 .byte (1 : Int32) [(.int (c0.toInt8.toInt32))] (.int 0) ∧ Fld Z h a0 "java/lang/String" "coder" "B" (.int 0) ∧ Fld Z h a0 "java/lang/String" "value" "[B" (.ref c2_0)
set_option maxRecDepth 65536 in
set_option maxHeartbeats 40000000 in
theorem rm_si_1 (l : Launch) (Z : State) (av0 : Array Value) (hw : ∀ d ∈ tables_1, d.before av0 Z = true) (ws : List Jvm.Cond) (a0 : Addr) (a1 : Addr) (k_a1 : ClassId) (c0 : Int32) (w_COMPACT_STRINGS : Int32) (u_coder_a0 : Value) (u_value_a0 : Value) (h0 : Heap) (n0 : Nat) (Z0 : n0 ≤ h0.size) (Ol0 : Old Z n0 h0) (V_a1 : Arv Z h0 a1 k_a1 .char (1 : Int32) [(.int c0)] (.int 0)) (S_COMPACT_STRINGS : Sta Z Z.heap "java/lang/String" "COMPACT_STRINGS" "Z" (.int w_COMPACT_STRINGS)) (hc0 : ¬ (w_COMPACT_STRINGS = (0 : Int32))) (hc1 : ¬ ((255 : Int32) < c0)) (X_a0 : Exa Z h0 a0 "java/lang/String") (F_coder_a0 : Fld Z h0 a0 "java/lang/String" "coder" "B" u_coder_a0) (g_a0 : n0 ≤ a0) (F_value_a0 : Fld Z h0 a0 "java/lang/String" "value" "[B" u_value_a0) :
    MetFree l yM1 (head1 (Jvm.Cond.code yM1 jdk_42_method_3_code 2 none :: ws) ({ frames := 3, cells := 1, slots := 1, locals := 52 } : Room)) (fun a U => a = #[(.ref a0), (.ref a1)] ∧ Z.Warmed39 U.vm ∧ U.heap = h0) (fun _ _ _ _ _ => True) (fun _ U o U' => ∃ v L, o = .returned v ∧ Q_rm_si_1 Z a0 a1 k_a1 c0 w_COMPACT_STRINGS u_coder_a0 u_value_a0 h0 n0 v U'.heap L ∧ FrameEnd U o U' L ({ frames := 3, cells := 1, slots := 1, locals := 52 } : Room).cells ({ frames := 3, cells := 1, slots := 1, locals := 52 } : Room).slots) := by
  refine MetFree.of_bodySF (plainFor_of_name pn_0) hisR ?_
  intro p e s m args below meth c s₁ Bd hml0 hP hK
  obtain ⟨rfl, hZ, hh⟩ := hP
  have hx := Bd.exec
  have hby := Bd.bytes
  have hml : c.maxLocals = 2 := hml0
  have hown : s.vm.findClass "java/lang/String" = some m.cls := findClass_of_methodNamed Bd.named
  have hnm := (name_of_methodNamed Bd.named Bd.method).1
  have X0 : Stand p l e ({ frames := 3, cells := 1, slots := 1, locals := 52 } : Room) s m #[(.ref a0), (.ref a1)] below meth c s₁ [] 0 0 := Stand.of_body Bd
  have e0 : s₁.heap = h0 := by rw [← hh, Bd.state]; rfl
  have N0 := Fr.nil n0
  have pre0 : ∀ t, Steps p.tables e below (s₁.setTop (mkF m 0 #[.val (.ref a0), .val (.ref a1)] [])) t → Steps p.tables e below (s₁.setTop (entryFrame m #[(.ref a0), (.ref a1)] 2)) t := fun t k => castTop (ef_rm_si_1 m a0 a1) k
  change OwnFin p.tables e below _ (s₁.setTop (entryFrame m #[(.ref a0), (.ref a1)] 2))
  have kp0 : Keep h0 h0 [a0] := Keep.refl _ _
  refine OwnFin.st (fun _ q => pre0 _ q) ?_
  show OwnFin _ _ _ _ (s₁.setTop (mkF m 0 #[.val (.ref a0), .val (.ref a1)] []))
  refine OwnFin.st (fun _ q => XS.aloadN X0.here hx rfl (hb hby d5_0) rfl rfl q) ?_
  show OwnFin _ _ _ _ (s₁.setTop (mkF m 1 _ [(.ref a0)]))
  refine OwnFin.st (fun _ q => XS.aloadN X0.here hx rfl (hb hby d5_1) rfl rfl q) ?_
  show OwnFin _ _ _ _ (s₁.setTop (mkF m 2 _ [(.ref a1), (.ref a0)]))
  refine OwnFin.st (fun _ q => XS.iconst X0.here hx rfl (hb hby d5_2) q) ?_
  show OwnFin _ _ _ _ (s₁.setTop (mkF m 3 _ [(.int 0), (.ref a1), (.ref a0)]))
  refine OwnFin.st (fun _ q => XS.aloadN X0.here hx rfl (hb hby d5_3) rfl rfl q) ?_
  show OwnFin _ _ _ _ (s₁.setTop (mkF m 4 _ [(.ref a1), (.int 0), (.ref a1), (.ref a0)]))
  have Vo1 : Arv Z h0 a1 k_a1 .char (1 : Int32) [(.int c0)] (.int 0) := V_a1
  obtain ⟨cl1, Ar1, qa1, Sa1, Na1, Ha1, Ga1⟩ := id Vo1
  refine OwnFin.st (X0.arraylength hx (by rw [e0]; exact Ar1.1) (State.isArrayOf_alike (hZ).alike Ar1.2.1) (g := (mkF m 4 #[.val (.ref a0), .val (.ref a1)] [(.ref a1), (.int 0), (.ref a1), (.ref a0)])) rfl rfl (hb hby d5_4)) ?_
  rw [len_of Sa1 Na1]
  show OwnFin _ _ _ _ (s₁.setTop (mkF m 5 _ [(.int 1), (.int 0), (.ref a1), (.ref a0)]))
  refine OwnFin.st (fun _ q => XS.aconstNull X0.here hx rfl (hb hby d5_5) q) ?_
  show OwnFin _ _ _ _ (s₁.setTop (mkF m 6 _ [.null, (.int 1), (.int 0), (.ref a1), (.ref a0)]))
  show OwnFin _ _ _ _ (s₁.setTop (mkF m 6 _ [.null, (.int 1), (.int 0), (.ref a1), (.ref a0)]))
  show OwnFin _ _ _ _ (s₁.setTop (mkF m 6 _ [.null, (.int 1), (.int 0), (.ref a1), (.ref a0)]))
  obtain ⟨_, _, ⟨T2, L2, k2, n2⟩, -, X2, ⟨Lc2, hQ2, l2, y2, z2⟩, st2⟩ := X0.specialBack hx (y := yM0) rfl hown (mvT hZ (w_ hw 20 rfl)) (mvT hZ (w_ hw 21 rfl)) (mvT hZ (w_ hw 23 rfl)) (by decide) (backOf (W := 0) (rm_sv_1 l Z av0 hw [] a0 a1 k_a1 c0 w_COMPACT_STRINGS u_coder_a0 u_value_a0 h0 n0 (Nat.le_trans Z0 kp0.1) Ol0 V_a1 S_COMPACT_STRINGS hc0 hc1 X_a0 F_coder_a0 g_a0 F_value_a0) hZ (w_ hw 23 rfl) (w_ hw 15 rfl) (by decide) (by decide)) (g := (mkF m 6 #[.val (.ref a0), .val (.ref a1)] [.null, (.int 1), (.int 0), (.ref a1), (.ref a0)])) rfl (by rw [hml]; rfl) (Steps.refl _) (a := a0) (argsL := [(.ref a1), (.int 0), (.int 1), .null]) (rest := []) (lenOf pd_0 rfl) rfl (by show 2 * 0 + _ ≤ _; exact Nat.le_of_eq rfl) (hb hby d5_6) (fun _ _ => ⟨rfl, e0, (by decide : 0 + 1 ≤ _), (by decide : 0 + 1 ≤ _)⟩)
  dsimp only [Pt.U, Pt.locs, Pt.cells, Pt.slots] at X2 l2 y2 z2 st2 hQ2
  subst l2 y2 z2
  obtain ⟨c2_0, kc2_1, rfl, N2q, K2, r2_0, r2_1, r2_2, r2_3⟩ := hQ2
  have N2 := Fr.app N0 N2q
  refine OwnFin.tr st2 ?_
  obtain ⟨h2, e2⟩ : ∃ z, T2.heap = z := ⟨_, rfl⟩
  rw [e2] at K2 r2_1 r2_2 r2_3
  have bi_c2_0 : h0.size ≤ c2_0 := r2_0
  have lo_c2_0 : h0.size ≤ c2_0 := Nat.le_trans kp0.1 bi_c2_0
  have g_c2_0 : n0 ≤ c2_0 := Nat.le_trans Z0 lo_c2_0
  have kp3 : Keep h0 h2 [a0] := kp0.trans K2 (allS (Or.inl (List.mem_of_getElem? (i := 0) rfl)) all0)
  have ol3 : Old Z n0 h2 := Ol0.keep K2 (allS g_a0 all0)
  show OwnFin _ _ _ _ (T2.setTop (mkF m 9 _ []))
  obtain ⟨fs, hr, hrun, hended, hW, hsame⟩ := X2.leave (v := none) (fun _ => rfl)
  refine ⟨_, _, X2.returnOut hx Bd.returns (hb hby d5_9) hr, hrun, hended, _, _, rfl, ?_, ⟨_, rfl⟩, hW, hsame.mono (by decide) (by decide)⟩
  show Q_rm_si_1 Z a0 a1 k_a1 c0 w_COMPACT_STRINGS u_coder_a0 u_value_a0 h0 n0 _ T2.heap _
  rw [e2]
  exact ⟨c2_0, kc2_1, rfl, N2, kp3, lo_c2_0, r2_1, r2_2, r2_3⟩
theorem ef_rm_c5_2 (m : MethodId) (a0 : Addr) (a2 : Addr) : entryFrame m #[(.ref a0), (.int 0), (.ref a2), (.int 0), (.int 2)] 7 = mkF m 0 #[.val (.ref a0), .val (.int 0), .val (.ref a2), .val (.int 0), .val (.int 2), .unset, .unset] [] := by first | (simp [entryFrame, mkF, argsToLocals, Value.category]; done) | rfl
def Q_rm_c5_2 (Z : State) (a0 : Addr) (a2 : Addr) (k_a0 : ClassId) (c0 : Int32) (c1 : Int32) (k_a2 : ClassId) (h0 : Heap) (n0 : Nat) (v : Option Value) (h : Heap) (L : List Loc) : Prop := v = some (.int 2) ∧ Fr n0 L ∧ Keep h0 h [a2] ∧ Arv Z h a2 k_a2 .byte (2 : Int32) [(.int (c0.toInt8.toInt32)), (.int (c1.toInt8.toInt32))] (.int 0)
set_option maxRecDepth 65536 in
set_option maxHeartbeats 40000000 in
theorem rm_c5_2 (l : Launch) (Z : State) (av0 : Array Value) (hw : ∀ d ∈ tables_1, d.before av0 Z = true) (ws : List Jvm.Cond) (a0 : Addr) (a2 : Addr) (k_a0 : ClassId) (c0 : Int32) (c1 : Int32) (k_a2 : ClassId) (h0 : Heap) (n0 : Nat) (Z0 : n0 ≤ h0.size) (V_a0 : Arv Z h0 a0 k_a0 .char (2 : Int32) [(.int c0), (.int c1)] (.int 0)) (V_a2 : Arv Z h0 a2 k_a2 .byte (2 : Int32) [(.int 0), (.int 0)] (.int 0)) (hc0 : ¬ ((255 : Int32) < c0)) (g_a2 : n0 ≤ a2) (ne_a0_a2 : a0 ≠ a2) (hc1 : ¬ ((255 : Int32) < c1)) :
    MetFree l yM2 (head1 (Jvm.Cond.code yM2 jdk_52_method_21_code 7 (some .int) :: ws) ({ frames := 0, cells := 0, slots := 0, locals := 0 } : Room)) (fun a U => a = #[(.ref a0), (.int 0), (.ref a2), (.int 0), (.int 2)] ∧ Z.Warmed39 U.vm ∧ U.heap = h0) (fun _ _ _ _ _ => True) (fun _ U o U' => ∃ v L, o = .returned v ∧ Q_rm_c5_2 Z a0 a2 k_a0 c0 c1 k_a2 h0 n0 v U'.heap L ∧ FrameEnd U o U' L ({ frames := 0, cells := 0, slots := 0, locals := 0 } : Room).cells ({ frames := 0, cells := 0, slots := 0, locals := 0 } : Room).slots) := by
  refine MetFree.of_bodySF (plainFor_of_name pn_1) hisR ?_
  intro p e s m args below meth c s₁ Bd hml0 hP hK
  obtain ⟨rfl, hZ, hh⟩ := hP
  have hx := Bd.exec
  have hby := Bd.bytes
  have hml : c.maxLocals = 7 := hml0
  have hown : s.vm.findClass "java/lang/StringUTF16" = some m.cls := findClass_of_methodNamed Bd.named
  have hnm := (name_of_methodNamed Bd.named Bd.method).1
  have X0 : Stand p l e ({ frames := 0, cells := 0, slots := 0, locals := 0 } : Room) s m #[(.ref a0), (.int 0), (.ref a2), (.int 0), (.int 2)] below meth c s₁ [] 0 0 := Stand.of_body Bd
  have e0 : s₁.heap = h0 := by rw [← hh, Bd.state]; rfl
  have N0 := Fr.nil n0
  have pre0 : ∀ t, Steps p.tables e below (s₁.setTop (mkF m 0 #[.val (.ref a0), .val (.int 0), .val (.ref a2), .val (.int 0), .val (.int 2), .unset, .unset] [])) t → Steps p.tables e below (s₁.setTop (entryFrame m #[(.ref a0), (.int 0), (.ref a2), (.int 0), (.int 2)] 7)) t := fun t k => castTop (ef_rm_c5_2 m a0 a2) k
  change OwnFin p.tables e below _ (s₁.setTop (entryFrame m #[(.ref a0), (.int 0), (.ref a2), (.int 0), (.int 2)] 7))
  have kp0 : Keep h0 h0 [a2] := Keep.refl _ _
  refine OwnFin.st (fun _ q => pre0 _ q) ?_
  show OwnFin _ _ _ _ (s₁.setTop (mkF m 0 #[.val (.ref a0), .val (.int 0), .val (.ref a2), .val (.int 0), .val (.int 2), .unset, .unset] []))
  refine OwnFin.st (fun _ q => XS.iconst X0.here hx rfl (hb hby d18_0) q) ?_
  show OwnFin _ _ _ _ (s₁.setTop (mkF m 1 _ [(.int 0)]))
  refine OwnFin.st (fun _ q => XS.istore X0.here hx rfl (hb hby d18_1) rfl (l' := #[.val (.ref a0), .val (.int 0), .val (.ref a2), .val (.int 0), .val (.int 2), .val (.int 0), .unset]) rfl q) ?_
  show OwnFin _ _ _ _ (s₁.setTop (mkF m 3 _ []))
  refine OwnFin.st (fun _ q => XS.iload X0.here hx rfl (hb hby d18_3) rfl q) ?_
  show OwnFin _ _ _ _ (s₁.setTop (mkF m 5 _ [(.int 0)]))
  refine OwnFin.st (fun _ q => XS.iload X0.here hx rfl (hb hby d18_5) rfl q) ?_
  show OwnFin _ _ _ _ (s₁.setTop (mkF m 7 _ [(.int 2), (.int 0)]))
  refine OwnFin.st (fun _ q => XS.icmpNo X0.here hx rfl (hb hby d18_7) rfl (Jvm.Free.XT.ii_ge_f (by decide : (0 : Int32) < (2 : Int32))) q) ?_
  show OwnFin _ _ _ _ (s₁.setTop (mkF m 10 _ []))
  refine OwnFin.st (fun _ q => XS.aloadN X0.here hx rfl (hb hby d18_10) rfl rfl q) ?_
  show OwnFin _ _ _ _ (s₁.setTop (mkF m 11 _ [(.ref a0)]))
  refine OwnFin.st (fun _ q => XS.iloadN X0.here hx rfl (hb hby d18_11) rfl q) ?_
  show OwnFin _ _ _ _ (s₁.setTop (mkF m 12 _ [(.int 0), (.ref a0)]))
  have Vo1 : Arv Z h0 a0 k_a0 .char (2 : Int32) [(.int c0), (.int c1)] (.int 0) := V_a0
  obtain ⟨cl1, Ar1, qa1, Sa1, Na1, Ha1, Ga1⟩ := id Vo1
  have hin1 : ¬ ((0 : Int32) < 0 ∨ cl1.slots.size ≤ ((0 : Int32)).toNatClampNeg) := inb_of Sa1 ⟨by decide, by decide⟩
  refine OwnFin.st (X0.caload hx (j := (0 : Int32)) (v := (.int c0)) (by rw [e0]; exact Ar1.1) (State.isArrayOf_alike (hZ).alike Ar1.2.1) Ar1.2.2 hin1 (Ha1.at hin1 rfl) (g := (mkF m 12 #[.val (.ref a0), .val (.int 0), .val (.ref a2), .val (.int 0), .val (.int 2), .val (.int 0), .unset] [(.int 0), (.ref a0)])) rfl rfl (hb hby d18_12)) ?_
  show OwnFin _ _ _ _ (s₁.setTop (mkF m 13 _ [(.int c0)]))
  refine OwnFin.st (fun _ q => XS.istore X0.here hx rfl (hb hby d18_13) rfl (l' := #[.val (.ref a0), .val (.int 0), .val (.ref a2), .val (.int 0), .val (.int 2), .val (.int 0), .val (.int c0)]) rfl q) ?_
  show OwnFin _ _ _ _ (s₁.setTop (mkF m 15 _ []))
  refine OwnFin.st (fun _ q => XS.iload X0.here hx rfl (hb hby d18_15) rfl q) ?_
  show OwnFin _ _ _ _ (s₁.setTop (mkF m 17 _ [(.int c0)]))
  refine OwnFin.st (fun _ q => XS.sipush X0.here hx rfl (hb hby d18_17) q) ?_
  show OwnFin _ _ _ _ (s₁.setTop (mkF m 20 _ [(.int 255), (.int c0)]))
  refine OwnFin.st (fun _ q => XS.icmpYes X0.here hx rfl (pc0 := 20) (pc' := 26) rfl (hb hby d18_20) rfl (Jvm.Free.XT.ii_le_t hc0) (by decide) (by decide) q) ?_
  show OwnFin _ _ _ _ (s₁.setTop (mkF m 26 _ []))
  refine OwnFin.st (fun _ q => XS.aloadN X0.here hx rfl (hb hby d18_26) rfl rfl q) ?_
  show OwnFin _ _ _ _ (s₁.setTop (mkF m 27 #[.val (.ref a0), .val (.int 0), .val (.ref a2), .val (.int 0), .val (.int 2), .val (.int 0), .val (.int c0)] [(.ref a2)]))
  refine OwnFin.st (fun _ q => XS.iloadN X0.here hx rfl (hb hby d18_27) rfl q) ?_
  show OwnFin _ _ _ _ (s₁.setTop (mkF m 28 _ [(.int 0), (.ref a2)]))
  refine OwnFin.st (fun _ q => XS.iload X0.here hx rfl (hb hby d18_28) rfl q) ?_
  show OwnFin _ _ _ _ (s₁.setTop (mkF m 30 _ [(.int c0), (.int 0), (.ref a2)]))
  refine OwnFin.st (fun _ q => XS.i2b X0.here hx rfl (hb hby d18_30) rfl q) ?_
  show OwnFin _ _ _ _ (s₁.setTop (mkF m 31 _ [(.int (c0.toInt8.toInt32)), (.int 0), (.ref a2)]))
  have Vo2 : Arv Z h0 a2 k_a2 .byte (2 : Int32) [(.int 0), (.int 0)] (.int 0) := V_a2
  obtain ⟨cl2, Ar2, qa2, Sa2, Na2, Ha2, Ga2⟩ := id Vo2
  obtain ⟨T2, h2, X2, e2, W2, st2⟩ := stB X0 hx hZ e0 Ar2 (j := (0 : Int32)) (inb_of Sa2 ⟨by decide, by decide⟩) (g := (mkF m 31 #[.val (.ref a0), .val (.int 0), .val (.ref a2), .val (.int 0), .val (.int 2), .val (.int 0), .val (.int c0)] [(.int (c0.toInt8.toInt32)), (.int 0), (.ref a2)])) rfl rfl (hb hby d18_31)
  refine OwnFin.st st2 ?_
  have V2 : Arv Z h2 a2 k_a2 .byte (2 : Int32) [(.int (c0.toInt8.toInt32)), (.int 0)] (.int 0) := by
    have z := Arv.set Ar2 qa2 Sa2 Na2 Ha2 Ga2 (fits_nar_byte _) W2 0 rfl (Nat.le_of_ble_eq_true rfl)
    rw [own_nari2b] at z
    exact z
  have N2 := Fr.snoc X2 N0 g_a2
  have kp3 : Keep h0 h2 [a2] := kp0.wr W2 (Or.inl (List.mem_of_getElem? (i := 0) rfl))
  show OwnFin _ _ _ _ (T2.setTop (mkF m 32 _ []))
  refine OwnFin.st (fun _ q => XS.iinc X2.here hx rfl (hb hby d18_32) rfl (l' := #[.val (.ref a0), .val (.int ((0 : Int32) + (1 : Int32))), .val (.ref a2), .val (.int 0), .val (.int 2), .val (.int 0), .val (.int c0)]) rfl q) ?_
  show OwnFin _ _ _ _ (T2.setTop (mkF m 35 _ []))
  refine OwnFin.st (fun _ q => XS.iinc X2.here hx rfl (hb hby d18_35) rfl (l' := #[.val (.ref a0), .val (.int ((0 : Int32) + (1 : Int32))), .val (.ref a2), .val (.int ((0 : Int32) + (1 : Int32))), .val (.int 2), .val (.int 0), .val (.int c0)]) rfl q) ?_
  show OwnFin _ _ _ _ (T2.setTop (mkF m 38 _ []))
  refine OwnFin.st (fun _ q => XS.iinc X2.here hx rfl (hb hby d18_38) rfl (l' := #[.val (.ref a0), .val (.int ((0 : Int32) + (1 : Int32))), .val (.ref a2), .val (.int ((0 : Int32) + (1 : Int32))), .val (.int 2), .val (.int ((0 : Int32) + (1 : Int32))), .val (.int c0)]) rfl q) ?_
  show OwnFin _ _ _ _ (T2.setTop (mkF m 41 _ []))
  refine OwnFin.st (fun _ q => XS.goto X2.here hx rfl (pc0 := 41) (pc' := 3) rfl (hb hby d18_41) (by decide) (by decide) q) ?_
  show OwnFin _ _ _ _ (T2.setTop (mkF m 3 _ []))
  refine OwnFin.st (fun _ q => XS.iload X2.here hx rfl (hb hby d18_3) rfl q) ?_
  show OwnFin _ _ _ _ (T2.setTop (mkF m 5 _ [(.int ((0 : Int32) + (1 : Int32)))]))
  refine OwnFin.st (fun _ q => XS.iload X2.here hx rfl (hb hby d18_5) rfl q) ?_
  show OwnFin _ _ _ _ (T2.setTop (mkF m 7 _ [(.int 2), (.int ((0 : Int32) + (1 : Int32)))]))
  refine OwnFin.st (fun _ q => XS.icmpNo X2.here hx rfl (hb hby d18_7) rfl (Jvm.Free.XT.ii_ge_f (by decide : ((0 : Int32) + (1 : Int32)) < (2 : Int32))) q) ?_
  show OwnFin _ _ _ _ (T2.setTop (mkF m 10 _ []))
  refine OwnFin.st (fun _ q => XS.aloadN X2.here hx rfl (hb hby d18_10) rfl rfl q) ?_
  show OwnFin _ _ _ _ (T2.setTop (mkF m 11 _ [(.ref a0)]))
  refine OwnFin.st (fun _ q => XS.iloadN X2.here hx rfl (hb hby d18_11) rfl q) ?_
  show OwnFin _ _ _ _ (T2.setTop (mkF m 12 #[.val (.ref a0), .val (.int ((0 : Int32) + (1 : Int32))), .val (.ref a2), .val (.int ((0 : Int32) + (1 : Int32))), .val (.int 2), .val (.int ((0 : Int32) + (1 : Int32))), .val (.int c0)] [(.int ((0 : Int32) + (1 : Int32))), (.ref a0)]))
  have Vo4 : Arv Z h2 a0 k_a0 .char (2 : Int32) [(.int c0), (.int c1)] (.int 0) := (V_a0.other W2 ne_a0_a2)
  obtain ⟨cl4, Ar4, qa4, Sa4, Na4, Ha4, Ga4⟩ := id Vo4
  have hin4 : ¬ (((0 : Int32) + (1 : Int32)) < 0 ∨ cl4.slots.size ≤ (((0 : Int32) + (1 : Int32))).toNatClampNeg) := inb_of Sa4 ⟨by decide, by decide⟩
  refine OwnFin.st (X2.caload hx (j := ((0 : Int32) + (1 : Int32))) (v := (.int c1)) (by rw [e2]; exact Ar4.1) (State.isArrayOf_alike (hZ).alike Ar4.2.1) Ar4.2.2 hin4 (Ha4.at hin4 rfl) (g := (mkF m 12 #[.val (.ref a0), .val (.int ((0 : Int32) + (1 : Int32))), .val (.ref a2), .val (.int ((0 : Int32) + (1 : Int32))), .val (.int 2), .val (.int ((0 : Int32) + (1 : Int32))), .val (.int c0)] [(.int ((0 : Int32) + (1 : Int32))), (.ref a0)])) rfl rfl (hb hby d18_12)) ?_
  show OwnFin _ _ _ _ (T2.setTop (mkF m 13 _ [(.int c1)]))
  refine OwnFin.st (fun _ q => XS.istore X2.here hx rfl (hb hby d18_13) rfl (l' := #[.val (.ref a0), .val (.int ((0 : Int32) + (1 : Int32))), .val (.ref a2), .val (.int ((0 : Int32) + (1 : Int32))), .val (.int 2), .val (.int ((0 : Int32) + (1 : Int32))), .val (.int c1)]) rfl q) ?_
  show OwnFin _ _ _ _ (T2.setTop (mkF m 15 _ []))
  refine OwnFin.st (fun _ q => XS.iload X2.here hx rfl (hb hby d18_15) rfl q) ?_
  show OwnFin _ _ _ _ (T2.setTop (mkF m 17 _ [(.int c1)]))
  refine OwnFin.st (fun _ q => XS.sipush X2.here hx rfl (hb hby d18_17) q) ?_
  show OwnFin _ _ _ _ (T2.setTop (mkF m 20 _ [(.int 255), (.int c1)]))
  refine OwnFin.st (fun _ q => XS.icmpYes X2.here hx rfl (pc0 := 20) (pc' := 26) rfl (hb hby d18_20) rfl (Jvm.Free.XT.ii_le_t hc1) (by decide) (by decide) q) ?_
  show OwnFin _ _ _ _ (T2.setTop (mkF m 26 _ []))
  refine OwnFin.st (fun _ q => XS.aloadN X2.here hx rfl (hb hby d18_26) rfl rfl q) ?_
  show OwnFin _ _ _ _ (T2.setTop (mkF m 27 _ [(.ref a2)]))
  refine OwnFin.st (fun _ q => XS.iloadN X2.here hx rfl (hb hby d18_27) rfl q) ?_
  show OwnFin _ _ _ _ (T2.setTop (mkF m 28 _ [(.int ((0 : Int32) + (1 : Int32))), (.ref a2)]))
  refine OwnFin.st (fun _ q => XS.iload X2.here hx rfl (hb hby d18_28) rfl q) ?_
  show OwnFin _ _ _ _ (T2.setTop (mkF m 30 _ [(.int c1), (.int ((0 : Int32) + (1 : Int32))), (.ref a2)]))
  refine OwnFin.st (fun _ q => XS.i2b X2.here hx rfl (hb hby d18_30) rfl q) ?_
  show OwnFin _ _ _ _ (T2.setTop (mkF m 31 _ [(.int (c1.toInt8.toInt32)), (.int ((0 : Int32) + (1 : Int32))), (.ref a2)]))
  have Vo5 : Arv Z h2 a2 k_a2 .byte (2 : Int32) [(.int (c0.toInt8.toInt32)), (.int 0)] (.int 0) := V2
  obtain ⟨cl5, Ar5, qa5, Sa5, Na5, Ha5, Ga5⟩ := id Vo5
  obtain ⟨T5, h5, X5, e5, W5, st5⟩ := stB X2 hx hZ e2 Ar5 (j := ((0 : Int32) + (1 : Int32))) (inb_of Sa5 ⟨by decide, by decide⟩) (g := (mkF m 31 #[.val (.ref a0), .val (.int ((0 : Int32) + (1 : Int32))), .val (.ref a2), .val (.int ((0 : Int32) + (1 : Int32))), .val (.int 2), .val (.int ((0 : Int32) + (1 : Int32))), .val (.int c1)] [(.int (c1.toInt8.toInt32)), (.int ((0 : Int32) + (1 : Int32))), (.ref a2)])) rfl rfl (hb hby d18_31)
  refine OwnFin.st st5 ?_
  have V5 : Arv Z h5 a2 k_a2 .byte (2 : Int32) [(.int (c0.toInt8.toInt32)), (.int (c1.toInt8.toInt32))] (.int 0) := by
    have z := Arv.set Ar5 qa5 Sa5 Na5 Ha5 Ga5 (fits_nar_byte _) W5 1 rfl (Nat.le_of_ble_eq_true rfl)
    rw [own_nari2b] at z
    exact z
  have N5 := Fr.snoc X5 N2 g_a2
  have kp6 : Keep h0 h5 [a2] := kp3.wr W5 (Or.inl (List.mem_of_getElem? (i := 0) rfl))
  show OwnFin _ _ _ _ (T5.setTop (mkF m 32 _ []))
  refine OwnFin.st (fun _ q => XS.iinc X5.here hx rfl (hb hby d18_32) rfl (l' := #[.val (.ref a0), .val (.int (((0 : Int32) + (1 : Int32)) + (1 : Int32))), .val (.ref a2), .val (.int ((0 : Int32) + (1 : Int32))), .val (.int 2), .val (.int ((0 : Int32) + (1 : Int32))), .val (.int c1)]) rfl q) ?_
  show OwnFin _ _ _ _ (T5.setTop (mkF m 35 _ []))
  refine OwnFin.st (fun _ q => XS.iinc X5.here hx rfl (hb hby d18_35) rfl (l' := #[.val (.ref a0), .val (.int (((0 : Int32) + (1 : Int32)) + (1 : Int32))), .val (.ref a2), .val (.int (((0 : Int32) + (1 : Int32)) + (1 : Int32))), .val (.int 2), .val (.int ((0 : Int32) + (1 : Int32))), .val (.int c1)]) rfl q) ?_
  show OwnFin _ _ _ _ (T5.setTop (mkF m 38 _ []))
  refine OwnFin.st (fun _ q => XS.iinc X5.here hx rfl (hb hby d18_38) rfl (l' := #[.val (.ref a0), .val (.int (((0 : Int32) + (1 : Int32)) + (1 : Int32))), .val (.ref a2), .val (.int (((0 : Int32) + (1 : Int32)) + (1 : Int32))), .val (.int 2), .val (.int (((0 : Int32) + (1 : Int32)) + (1 : Int32))), .val (.int c1)]) rfl q) ?_
  show OwnFin _ _ _ _ (T5.setTop (mkF m 41 #[.val (.ref a0), .val (.int (((0 : Int32) + (1 : Int32)) + (1 : Int32))), .val (.ref a2), .val (.int (((0 : Int32) + (1 : Int32)) + (1 : Int32))), .val (.int 2), .val (.int (((0 : Int32) + (1 : Int32)) + (1 : Int32))), .val (.int c1)] []))
  refine OwnFin.st (fun _ q => XS.goto X5.here hx rfl (pc0 := 41) (pc' := 3) rfl (hb hby d18_41) (by decide) (by decide) q) ?_
  show OwnFin _ _ _ _ (T5.setTop (mkF m 3 _ []))
  refine OwnFin.st (fun _ q => XS.iload X5.here hx rfl (hb hby d18_3) rfl q) ?_
  show OwnFin _ _ _ _ (T5.setTop (mkF m 5 _ [(.int (((0 : Int32) + (1 : Int32)) + (1 : Int32)))]))
  refine OwnFin.st (fun _ q => XS.iload X5.here hx rfl (hb hby d18_5) rfl q) ?_
  show OwnFin _ _ _ _ (T5.setTop (mkF m 7 _ [(.int 2), (.int (((0 : Int32) + (1 : Int32)) + (1 : Int32)))]))
  refine OwnFin.st (fun _ q => XS.icmpYes X5.here hx rfl (pc0 := 7) (pc' := 44) rfl (hb hby d18_7) rfl (Jvm.Free.XT.ii_ge_t (by decide : ¬ ((((0 : Int32) + (1 : Int32)) + (1 : Int32)) < (2 : Int32)))) (by decide) (by decide) q) ?_
  show OwnFin _ _ _ _ (T5.setTop (mkF m 44 _ []))
  refine OwnFin.st (fun _ q => XS.iload X5.here hx rfl (hb hby d18_44) rfl q) ?_
  show OwnFin _ _ _ _ (T5.setTop (mkF m 46 _ [(.int 2)]))
  obtain ⟨fs, hr, hrun, hended, hW, hsame⟩ := X5.leave (v := some (.int 2)) (fun h => by rw [Bd.returns] at h; cases h)
  refine ⟨_, _, retI X5 hx Bd.returns (hb hby d18_46) hr, hrun, hended, _, _, rfl, ?_, ⟨_, rfl⟩, hW, hsame.mono (by decide) (by decide)⟩
  show Q_rm_c5_2 Z a0 a2 k_a0 c0 c1 k_a2 h0 n0 _ T5.heap _
  rw [e5]
  exact ⟨rfl, N5, kp6, V5⟩
theorem ef_rm_c3_2 (m : MethodId) (a0 : Addr) : entryFrame m #[(.ref a0), (.int 0), (.int 2)] 6 = mkF m 0 #[.val (.ref a0), .val (.int 0), .val (.int 2), .unset, .unset, .unset] [] := by first | (simp [entryFrame, mkF, argsToLocals, Value.category]; done) | rfl
def Q_rm_c3_2 (Z : State) (a0 : Addr) (k_a0 : ClassId) (c0 : Int32) (c1 : Int32) (h0 : Heap) (n0 : Nat) (v : Option Value) (h : Heap) (L : List Loc) : Prop := ∃ b1 : Addr, ∃ k1 : ClassId, v = some (.ref b1) ∧ Fr n0 L ∧ Keep h0 h [] ∧ h0.size ≤ b1 ∧ Arv Z h b1 k1 .byte (2 : Int32) [(.int (c0.toInt8.toInt32)), (.int (c1.toInt8.toInt32))] (.int 0)
set_option maxRecDepth 65536 in
set_option maxHeartbeats 40000000 in
theorem rm_c3_2 (l : Launch) (Z : State) (av0 : Array Value) (hw : ∀ d ∈ tables_1, d.before av0 Z = true) (ws : List Jvm.Cond) (a0 : Addr) (k_a0 : ClassId) (c0 : Int32) (c1 : Int32) (h0 : Heap) (n0 : Nat) (Z0 : n0 ≤ h0.size) (V_a0 : Arv Z h0 a0 k_a0 .char (2 : Int32) [(.int c0), (.int c1)] (.int 0)) (hc0 : ¬ ((255 : Int32) < c0)) (hc1 : ¬ ((255 : Int32) < c1)) :
    MetFree l yM3 (head1 (Jvm.Cond.code yM3 jdk_52_method_16_code 6 (some (.array .byte)) :: ws) ({ frames := 1, cells := 1, slots := 2, locals := 18 } : Room)) (fun a U => a = #[(.ref a0), (.int 0), (.int 2)] ∧ Z.Warmed39 U.vm ∧ U.heap = h0) (fun _ _ _ _ _ => True) (fun _ U o U' => ∃ v L, o = .returned v ∧ Q_rm_c3_2 Z a0 k_a0 c0 c1 h0 n0 v U'.heap L ∧ FrameEnd U o U' L ({ frames := 1, cells := 1, slots := 2, locals := 18 } : Room).cells ({ frames := 1, cells := 1, slots := 2, locals := 18 } : Room).slots) := by
  refine MetFree.of_bodySF (plainFor_of_name pn_1) hisR ?_
  intro p e s m args below meth c s₁ Bd hml0 hP hK
  obtain ⟨rfl, hZ, hh⟩ := hP
  have hx := Bd.exec
  have hby := Bd.bytes
  have hml : c.maxLocals = 6 := hml0
  have hown : s.vm.findClass "java/lang/StringUTF16" = some m.cls := findClass_of_methodNamed Bd.named
  have hnm := (name_of_methodNamed Bd.named Bd.method).1
  have X0 : Stand p l e ({ frames := 1, cells := 1, slots := 2, locals := 18 } : Room) s m #[(.ref a0), (.int 0), (.int 2)] below meth c s₁ [] 0 0 := Stand.of_body Bd
  have e0 : s₁.heap = h0 := by rw [← hh, Bd.state]; rfl
  have N0 := Fr.nil n0
  have pre0 : ∀ t, Steps p.tables e below (s₁.setTop (mkF m 0 #[.val (.ref a0), .val (.int 0), .val (.int 2), .unset, .unset, .unset] [])) t → Steps p.tables e below (s₁.setTop (entryFrame m #[(.ref a0), (.int 0), (.int 2)] 6)) t := fun t k => castTop (ef_rm_c3_2 m a0) k
  change OwnFin p.tables e below _ (s₁.setTop (entryFrame m #[(.ref a0), (.int 0), (.int 2)] 6))
  have kp0 : Keep h0 h0 [] := Keep.refl _ _
  refine OwnFin.st (fun _ q => pre0 _ q) ?_
  show OwnFin _ _ _ _ (s₁.setTop (mkF m 0 #[.val (.ref a0), .val (.int 0), .val (.int 2), .unset, .unset, .unset] []))
  refine OwnFin.st (fun _ q => XS.iloadN X0.here hx rfl (hb hby d17_0) rfl q) ?_
  show OwnFin _ _ _ _ (s₁.setTop (mkF m 1 _ [(.int 2)]))
  obtain ⟨T1, h1, k1, X1, e1, E1, A1, st1⟩ := newP X0 hx hZ (w_ hw 28 rfl) e0 (g := (mkF m 1 #[.val (.ref a0), .val (.int 0), .val (.int 2), .unset, .unset, .unset] [(.int 2)])) rfl (hb hby d17_1) rfl (by decide) (cap := 2) (by decide) (by decide) (by decide) (by decide)
  obtain ⟨b1, qe1⟩ : ∃ z, z = h0.size := ⟨_, rfl⟩
  rw [← qe1] at A1 st1
  refine OwnFin.st st1 ?_
  have bi_b1 : h0.size ≤ b1 := Nat.le_of_eq qe1.symm
  have lo_b1 : h0.size ≤ b1 := Nat.le_trans kp0.1 bi_b1
  have g_b1 : n0 ≤ b1 := Nat.le_trans Z0 lo_b1
  have kp2 : Keep h0 h1 [] := kp0.ext E1
  have V1 : Arv Z h1 b1 k1 .byte (2 : Int32) [(.int 0), (.int 0)] (.int 0) := (Arv.new A1 (by decide)).pad (pad_rep [] (.int 0) 2)
  show OwnFin _ _ _ _ (T1.setTop (mkF m 3 _ [(.ref b1)]))
  refine OwnFin.st (fun _ q => XS.astoreN X1.here hx rfl (hb hby d17_3) rfl rfl (l' := #[.val (.ref a0), .val (.int 0), .val (.int 2), .val (.ref b1), .unset, .unset]) rfl q) ?_
  show OwnFin _ _ _ _ (T1.setTop (mkF m 4 _ []))
  refine OwnFin.st (fun _ q => XS.aloadN X1.here hx rfl (hb hby d17_4) rfl rfl q) ?_
  show OwnFin _ _ _ _ (T1.setTop (mkF m 5 _ [(.ref a0)]))
  refine OwnFin.st (fun _ q => XS.iloadN X1.here hx rfl (hb hby d17_5) rfl q) ?_
  show OwnFin _ _ _ _ (T1.setTop (mkF m 6 _ [(.int 0), (.ref a0)]))
  refine OwnFin.st (fun _ q => XS.aloadN X1.here hx rfl (hb hby d17_6) rfl rfl q) ?_
  show OwnFin _ _ _ _ (T1.setTop (mkF m 7 _ [(.ref b1), (.int 0), (.ref a0)]))
  refine OwnFin.st (fun _ q => XS.iconst X1.here hx rfl (hb hby d17_7) q) ?_
  show OwnFin _ _ _ _ (T1.setTop (mkF m 8 _ [(.int 0), (.ref b1), (.int 0), (.ref a0)]))
  refine OwnFin.st (fun _ q => XS.iloadN X1.here hx rfl (hb hby d17_8) rfl q) ?_
  show OwnFin _ _ _ _ (T1.setTop (mkF m 9 _ [(.int 2), (.int 0), (.ref b1), (.int 0), (.ref a0)]))
  show OwnFin _ _ _ _ (T1.setTop (mkF m 9 _ [(.int 2), (.int 0), (.ref b1), (.int 0), (.ref a0)]))
  show OwnFin _ _ _ _ (T1.setTop (mkF m 9 _ [(.int 2), (.int 0), (.ref b1), (.int 0), (.ref a0)]))
  obtain ⟨_, _, ⟨T3, L3, k3, n3⟩, -, X3, ⟨Lc3, hQ3, l3, y3, z3⟩, st3⟩ := Jvm.LawKit.callS X1 hx (y := yM2) hown (mvT hZ (w_ hw 110 rfl)) (mvT hZ (w_ hw 111 rfl)) (mvT hZ (w_ hw 108 rfl)) (mvT hZ (w_ hw 112 rfl)) (by decide) (backOf (W := 0) (rm_c5_2 l Z av0 hw [] a0 b1 k_a0 c0 c1 k1 h1 n0 (Nat.le_trans Z0 kp2.1) (V_a0.ext E1) V1 hc0 g_b1 (Nat.ne_of_lt (Nat.lt_of_lt_of_le V_a0.lt bi_b1)) hc1) hZ (w_ hw 112 rfl) (w_ hw 108 rfl) (by decide) (by decide)) (g := (mkF m 9 #[.val (.ref a0), .val (.int 0), .val (.int 2), .val (.ref b1), .unset, .unset] [(.int 2), (.int 0), (.ref b1), (.int 0), (.ref a0)])) rfl (by rw [hml]; rfl) (argsL := [(.ref a0), (.int 0), (.ref b1), (.int 0), (.int 2)]) (rest := []) (lenOf pd_1 rfl) rfl (by show 2 * 0 + _ ≤ _; exact Nat.le_of_eq rfl) (hb hby d17_9) (fun _ _ => ⟨rfl, e1, (by decide : 1 + 0 ≤ _), (by decide : 2 + 0 ≤ _)⟩)
  dsimp only [Pt.U, Pt.locs, Pt.cells, Pt.slots] at X3 l3 y3 z3 st3 hQ3
  subst l3 y3 z3
  obtain ⟨rfl, N3q, K3, r3_0⟩ := hQ3
  have N3 := Fr.app N0 N3q
  refine OwnFin.st st3 ?_
  obtain ⟨h3, e3⟩ : ∃ z, T3.heap = z := ⟨_, rfl⟩
  rw [e3] at K3 r3_0
  have kp4 : Keep h0 h3 [] := kp2.trans K3 (allS (Or.inr lo_b1) all0)
  show OwnFin _ _ _ _ (T3.setTop (mkF m 12 _ [(.int 2)]))
  refine OwnFin.st (fun _ q => XS.istore X3.here hx rfl (hb hby d17_12) rfl (l' := #[.val (.ref a0), .val (.int 0), .val (.int 2), .val (.ref b1), .val (.int 2), .unset]) rfl q) ?_
  show OwnFin _ _ _ _ (T3.setTop (mkF m 14 _ []))
  refine OwnFin.st (fun _ q => XS.iload X3.here hx rfl (hb hby d17_14) rfl q) ?_
  show OwnFin _ _ _ _ (T3.setTop (mkF m 16 #[.val (.ref a0), .val (.int 0), .val (.int 2), .val (.ref b1), .val (.int 2), .unset] [(.int 2)]))
  refine OwnFin.st (fun _ q => XS.iloadN X3.here hx rfl (hb hby d17_16) rfl q) ?_
  show OwnFin _ _ _ _ (T3.setTop (mkF m 17 _ [(.int 2), (.int 2)]))
  refine OwnFin.st (fun _ q => XS.icmpYes X3.here hx rfl (pc0 := 17) (pc' := 57) rfl (hb hby d17_17) rfl (Jvm.Free.XT.ii_eq_t (rfl : (2 : Int32) = (2 : Int32))) (by decide) (by decide) q) ?_
  show OwnFin _ _ _ _ (T3.setTop (mkF m 57 _ []))
  refine OwnFin.st (fun _ q => XS.aloadN X3.here hx rfl (hb hby d17_57) rfl rfl q) ?_
  show OwnFin _ _ _ _ (T3.setTop (mkF m 58 _ [(.ref b1)]))
  obtain ⟨fs, hr, hrun, hended, hW, hsame⟩ := X3.leave (v := some (.ref b1)) (fun h => by rw [Bd.returns] at h; cases h)
  refine ⟨_, _, retOut X3 hx Bd.returns rfl (Or.inr (Or.inr (Or.inr (Or.inr ⟨rfl, rfl, rfl⟩)))) (hb hby d17_58) hr, hrun, hended, _, _, rfl, ?_, ⟨_, rfl⟩, hW, hsame.mono (by decide) (by decide)⟩
  show Q_rm_c3_2 Z a0 k_a0 c0 c1 h0 n0 _ T3.heap _
  rw [e3]
  exact ⟨b1, k1, rfl, N3, kp4, lo_b1, r3_0⟩
theorem ef_rm_cl_2 (m : MethodId) (a0 : Addr) : entryFrame m #[(.ref a0), (.int 2)] 2 = mkF m 0 #[.val (.ref a0), .val (.int 2)] [] := by first | (simp [entryFrame, mkF, argsToLocals, Value.category]; done) | rfl
def Q_rm_cl_2 (Z : State) (a0 : Addr) (k_a0 : ClassId) (y0 : Int32) (y1 : Int32) (h0 : Heap) (n0 : Nat) (v : Option Value) (h : Heap) (L : List Loc) : Prop := v = some (.int 0) ∧ Fr n0 L ∧ h = h0
set_option maxRecDepth 65536 in
set_option maxHeartbeats 40000000 in
theorem rm_cl_2 (l : Launch) (Z : State) (av0 : Array Value) (hw : ∀ d ∈ tables_1, d.before av0 Z = true) (ws : List Jvm.Cond) (a0 : Addr) (k_a0 : ClassId) (y0 : Int32) (y1 : Int32) (h0 : Heap) (n0 : Nat) (Z0 : n0 ≤ h0.size) (V_a0 : Arv Z h0 a0 k_a0 .byte (2 : Int32) [(.int y0), (.int y1)] (.int 0)) :
    MetFree l yM4 (head1 (Jvm.Cond.code yM4 jdk_52_method_15_code 2 (some .byte) :: ws) ({ frames := 0, cells := 0, slots := 0, locals := 0 } : Room)) (fun a U => a = #[(.ref a0), (.int 2)] ∧ Z.Warmed39 U.vm ∧ U.heap = h0) (fun _ _ _ _ _ => True) (fun _ U o U' => ∃ v L, o = .returned v ∧ Q_rm_cl_2 Z a0 k_a0 y0 y1 h0 n0 v U'.heap L ∧ FrameEnd U o U' L ({ frames := 0, cells := 0, slots := 0, locals := 0 } : Room).cells ({ frames := 0, cells := 0, slots := 0, locals := 0 } : Room).slots) := by
  refine MetFree.of_bodySF (plainFor_of_name pn_1) hisR ?_
  intro p e s m args below meth c s₁ Bd hml0 hP hK
  obtain ⟨rfl, hZ, hh⟩ := hP
  have hx := Bd.exec
  have hby := Bd.bytes
  have hml : c.maxLocals = 2 := hml0
  have hown : s.vm.findClass "java/lang/StringUTF16" = some m.cls := findClass_of_methodNamed Bd.named
  have hnm := (name_of_methodNamed Bd.named Bd.method).1
  have X0 : Stand p l e ({ frames := 0, cells := 0, slots := 0, locals := 0 } : Room) s m #[(.ref a0), (.int 2)] below meth c s₁ [] 0 0 := Stand.of_body Bd
  have e0 : s₁.heap = h0 := by rw [← hh, Bd.state]; rfl
  have N0 := Fr.nil n0
  have pre0 : ∀ t, Steps p.tables e below (s₁.setTop (mkF m 0 #[.val (.ref a0), .val (.int 2)] [])) t → Steps p.tables e below (s₁.setTop (entryFrame m #[(.ref a0), (.int 2)] 2)) t := fun t k => castTop (ef_rm_cl_2 m a0) k
  change OwnFin p.tables e below _ (s₁.setTop (entryFrame m #[(.ref a0), (.int 2)] 2))
  have kp0 : Keep h0 h0 [] := Keep.refl _ _
  refine OwnFin.st (fun _ q => pre0 _ q) ?_
  show OwnFin _ _ _ _ (s₁.setTop (mkF m 0 #[.val (.ref a0), .val (.int 2)] []))
  refine OwnFin.st (fun _ q => XS.iloadN X0.here hx rfl (hb hby d19_0) rfl q) ?_
  show OwnFin _ _ _ _ (s₁.setTop (mkF m 1 _ [(.int 2)]))
  refine OwnFin.st (fun _ q => XS.aloadN X0.here hx rfl (hb hby d19_1) rfl rfl q) ?_
  show OwnFin _ _ _ _ (s₁.setTop (mkF m 2 _ [(.ref a0), (.int 2)]))
  have Vo1 : Arv Z h0 a0 k_a0 .byte (2 : Int32) [(.int y0), (.int y1)] (.int 0) := V_a0
  obtain ⟨cl1, Ar1, qa1, Sa1, Na1, Ha1, Ga1⟩ := id Vo1
  refine OwnFin.st (X0.arraylength hx (by rw [e0]; exact Ar1.1) (State.isArrayOf_alike (hZ).alike Ar1.2.1) (g := (mkF m 2 #[.val (.ref a0), .val (.int 2)] [(.ref a0), (.int 2)])) rfl rfl (hb hby d19_2)) ?_
  rw [len_of Sa1 Na1]
  show OwnFin _ _ _ _ (s₁.setTop (mkF m 3 _ [(.int 2), (.int 2)]))
  refine OwnFin.st (fun _ q => XS.isub X0.here hx rfl (hb hby d19_3) rfl q) ?_
  show OwnFin _ _ _ _ (s₁.setTop (mkF m 4 _ [(.int ((2 : Int32) - (2 : Int32)))]))
  refine OwnFin.st (fun _ q => XS.bipush X0.here hx rfl (hb hby d19_4) q) ?_
  show OwnFin _ _ _ _ (s₁.setTop (mkF m 6 _ [(.int 31), (.int ((2 : Int32) - (2 : Int32)))]))
  refine OwnFin.st (fun _ q => XS.iushr X0.here hx rfl (hb hby d19_6) rfl q) ?_
  show OwnFin _ _ _ _ (s₁.setTop (mkF m 7 _ [(.int ((((2 : Int32) - (2 : Int32)).toUInt32 >>> ((31 : Int32) &&& 31).toUInt32).toInt32))]))
  refine OwnFin.st (fun _ q => XS.i2b X0.here hx rfl (hb hby d19_7) rfl q) ?_
  show OwnFin _ _ _ _ (s₁.setTop (mkF m 8 _ [(.int (((((2 : Int32) - (2 : Int32)).toUInt32 >>> ((31 : Int32) &&& 31).toUInt32).toInt32).toInt8.toInt32))]))
  obtain ⟨fs, hr, hrun, hended, hW, hsame⟩ := X0.leave (v := some (.int 0)) (fun h => by rw [Bd.returns] at h; cases h)
  refine ⟨_, _, retN X0 hx (t := .byte) Bd.returns (by simp) (hb hby d19_8) hr, hrun, hended, _, _, rfl, ?_, ⟨_, rfl⟩, hW, hsame.mono (by decide) (by decide)⟩
  show Q_rm_cl_2 Z a0 k_a0 y0 y1 h0 n0 _ s₁.heap _
  rw [e0]
  exact ⟨rfl, N0, rfl⟩
theorem ef_rm_sv_2 (m : MethodId) (a0 : Addr) (a1 : Addr) : entryFrame m #[(.ref a0), (.ref a1), (.int 0), (.int 2), .null] 6 = mkF m 0 #[.val (.ref a0), .val (.ref a1), .val (.int 0), .val (.int 2), .val .null, .unset] [] := by first | (simp [entryFrame, mkF, argsToLocals, Value.category]; done) | rfl
def Q_rm_sv_2 (Z : State) (a0 : Addr) (a1 : Addr) (k_a1 : ClassId) (c0 : Int32) (c1 : Int32) (w_COMPACT_STRINGS : Int32) (u_coder_a0 : Value) (u_value_a0 : Value) (h0 : Heap) (n0 : Nat) (v : Option Value) (h : Heap) (L : List Loc) : Prop := ∃ c3_0 : Addr, ∃ kc3_1 : ClassId, v = none ∧ Fr n0 L ∧ Keep h0 h [a0] ∧ h0.size ≤ c3_0 ∧ Arv Z h c3_0 kc3_1 .byte (2 : Int32) [(.int (c0.toInt8.toInt32)), (.int (c1.toInt8.toInt32))] (.int 0) ∧ Fld Z h a0 "java/lang/String" "coder" "B" (.int 0) ∧ Fld Z h a0 "java/lang/String" "value" "[B" (.ref c3_0)
set_option maxRecDepth 65536 in
set_option maxHeartbeats 40000000 in
theorem rm_sv_2 (l : Launch) (Z : State) (av0 : Array Value) (hw : ∀ d ∈ tables_1, d.before av0 Z = true) (ws : List Jvm.Cond) (a0 : Addr) (a1 : Addr) (k_a1 : ClassId) (c0 : Int32) (c1 : Int32) (w_COMPACT_STRINGS : Int32) (u_coder_a0 : Value) (u_value_a0 : Value) (h0 : Heap) (n0 : Nat) (Z0 : n0 ≤ h0.size) (Ol0 : Old Z n0 h0) (V_a1 : Arv Z h0 a1 k_a1 .char (2 : Int32) [(.int c0), (.int c1)] (.int 0)) (S_COMPACT_STRINGS : Sta Z Z.heap "java/lang/String" "COMPACT_STRINGS" "Z" (.int w_COMPACT_STRINGS)) (hc0 : ¬ (w_COMPACT_STRINGS = (0 : Int32))) (hc1 : ¬ ((255 : Int32) < c0)) (hc2 : ¬ ((255 : Int32) < c1)) (X_a0 : Exa Z h0 a0 "java/lang/String") (F_coder_a0 : Fld Z h0 a0 "java/lang/String" "coder" "B" u_coder_a0) (g_a0 : n0 ≤ a0) (F_value_a0 : Fld Z h0 a0 "java/lang/String" "value" "[B" u_value_a0) :
    MetFree l yM0 (head1 (Jvm.Cond.code yM0 jdk_42_method_149_code 6 none :: ws) ({ frames := 2, cells := 1, slots := 2, locals := 35 } : Room)) (fun a U => a = #[(.ref a0), (.ref a1), (.int 0), (.int 2), .null] ∧ Z.Warmed39 U.vm ∧ U.heap = h0) (fun _ _ _ _ _ => True) (fun _ U o U' => ∃ v L, o = .returned v ∧ Q_rm_sv_2 Z a0 a1 k_a1 c0 c1 w_COMPACT_STRINGS u_coder_a0 u_value_a0 h0 n0 v U'.heap L ∧ FrameEnd U o U' L ({ frames := 2, cells := 1, slots := 2, locals := 35 } : Room).cells ({ frames := 2, cells := 1, slots := 2, locals := 35 } : Room).slots) := by
  refine MetFree.of_bodySF (plainFor_of_name pn_0) hisR ?_
  intro p e s m args below meth c s₁ Bd hml0 hP hK
  obtain ⟨rfl, hZ, hh⟩ := hP
  have hx := Bd.exec
  have hby := Bd.bytes
  have hml : c.maxLocals = 6 := hml0
  have hown : s.vm.findClass "java/lang/String" = some m.cls := findClass_of_methodNamed Bd.named
  have hnm := (name_of_methodNamed Bd.named Bd.method).1
  have X0 : Stand p l e ({ frames := 2, cells := 1, slots := 2, locals := 35 } : Room) s m #[(.ref a0), (.ref a1), (.int 0), (.int 2), .null] below meth c s₁ [] 0 0 := Stand.of_body Bd
  have e0 : s₁.heap = h0 := by rw [← hh, Bd.state]; rfl
  have N0 := Fr.nil n0
  have pre0 : ∀ t, Steps p.tables e below (s₁.setTop (mkF m 0 #[.val (.ref a0), .val (.ref a1), .val (.int 0), .val (.int 2), .val .null, .unset] [])) t → Steps p.tables e below (s₁.setTop (entryFrame m #[(.ref a0), (.ref a1), (.int 0), (.int 2), .null] 6)) t := fun t k => castTop (ef_rm_sv_2 m a0 a1) k
  change OwnFin p.tables e below _ (s₁.setTop (entryFrame m #[(.ref a0), (.ref a1), (.int 0), (.int 2), .null] 6))
  have kp0 : Keep h0 h0 [a0] := Keep.refl _ _
  refine OwnFin.st (fun _ q => pre0 _ q) ?_
  show OwnFin _ _ _ _ (s₁.setTop (mkF m 0 #[.val (.ref a0), .val (.ref a1), .val (.int 0), .val (.int 2), .val .null, .unset] []))
  refine OwnFin.st (fun _ q => XS.aloadN X0.here hx rfl (hb hby d6_0) rfl rfl q) ?_
  show OwnFin _ _ _ _ (s₁.setTop (mkF m 1 _ [(.ref a0)]))
  obtain ⟨T1, X1, e1, st1⟩ := initO X0 hx hZ hown (w_ hw 24 rfl) (w_ hw 25 rfl) (w_ hw 26 rfl) e0 (g := (mkF m 1 #[.val (.ref a0), .val (.ref a1), .val (.int 0), .val (.int 2), .val .null, .unset] [(.ref a0)])) rfl (by rw [hml]; rfl) rfl (hb hby d6_1) (by decide) (W := 0) (by show 2 * 0 + _ ≤ _; exact Nat.le_of_eq rfl) (by decide)
  refine OwnFin.st st1 ?_
  show OwnFin _ _ _ _ (T1.setTop (mkF m 4 _ []))
  refine OwnFin.st (fun _ q => XS.iloadN X1.here hx rfl (hb hby d6_4) rfl q) ?_
  show OwnFin _ _ _ _ (T1.setTop (mkF m 5 _ [(.int 2)]))
  refine OwnFin.st (fun _ q => XS.ifYes X1.here hx rfl (pc0 := 5) (pc' := 27) rfl (hb hby d6_5) rfl (Jvm.Free.XT.i0_ne_t (by decide : ¬ ((2 : Int32) = (0 : Int32)))) (by decide) (by decide) q) ?_
  show OwnFin _ _ _ _ (T1.setTop (mkF m 27 _ []))
  obtain ⟨T2, X2, e2, st2⟩ := getS2 X1 hx hZ hown (host := "") (Or.inl (w_ hw 99 rfl)) Via.refl e1 (S_COMPACT_STRINGS.ext Ol0.2) (g := (mkF m 27 #[.val (.ref a0), .val (.ref a1), .val (.int 0), .val (.int 2), .val .null, .unset] [])) rfl (hb hby d6_27)
  refine OwnFin.st st2 ?_
  show OwnFin _ _ _ _ (T2.setTop (mkF m 30 _ [(.int w_COMPACT_STRINGS)]))
  refine OwnFin.st (fun _ q => XS.ifNo X2.here hx rfl (hb hby d6_30) rfl (Jvm.Free.XT.i0_eq_f hc0) q) ?_
  show OwnFin _ _ _ _ (T2.setTop (mkF m 33 _ []))
  refine OwnFin.st (fun _ q => XS.aloadN X2.here hx rfl (hb hby d6_33) rfl rfl q) ?_
  show OwnFin _ _ _ _ (T2.setTop (mkF m 34 _ [(.ref a1)]))
  refine OwnFin.st (fun _ q => XS.iloadN X2.here hx rfl (hb hby d6_34) rfl q) ?_
  show OwnFin _ _ _ _ (T2.setTop (mkF m 35 _ [(.int 0), (.ref a1)]))
  refine OwnFin.st (fun _ q => XS.iloadN X2.here hx rfl (hb hby d6_35) rfl q) ?_
  show OwnFin _ _ _ _ (T2.setTop (mkF m 36 _ [(.int 2), (.int 0), (.ref a1)]))
  show OwnFin _ _ _ _ (T2.setTop (mkF m 36 _ [(.int 2), (.int 0), (.ref a1)]))
  show OwnFin _ _ _ _ (T2.setTop (mkF m 36 _ [(.int 2), (.int 0), (.ref a1)]))
  obtain ⟨_, _, ⟨T3, L3, k3, n3⟩, -, X3, ⟨Lc3, hQ3, l3, y3, z3⟩, st3⟩ := Jvm.LawKit.callS X2 hx (y := yM3) hown (mvT hZ (w_ hw 106 rfl)) (mvT hZ (w_ hw 107 rfl)) (mvT hZ (w_ hw 108 rfl)) (mvT hZ (w_ hw 109 rfl)) (by decide) (backOf (W := 0) (rm_c3_2 l Z av0 hw [] a1 k_a1 c0 c1 h0 n0 (Nat.le_trans Z0 kp0.1) V_a1 hc1 hc2) hZ (w_ hw 109 rfl) (w_ hw 108 rfl) (by decide) (by decide)) (g := (mkF m 36 #[.val (.ref a0), .val (.ref a1), .val (.int 0), .val (.int 2), .val .null, .unset] [(.int 2), (.int 0), (.ref a1)])) rfl (by rw [hml]; rfl) (argsL := [(.ref a1), (.int 0), (.int 2)]) (rest := []) (lenOf pd_2 rfl) rfl (by show 2 * 0 + _ ≤ _; exact Nat.le_of_eq rfl) (hb hby d6_36) (fun _ _ => ⟨rfl, e2, (by decide : 0 + 1 ≤ _), (by decide : 0 + 2 ≤ _)⟩)
  dsimp only [Pt.U, Pt.locs, Pt.cells, Pt.slots] at X3 l3 y3 z3 st3 hQ3
  subst l3 y3 z3
  obtain ⟨c3_0, kc3_1, rfl, N3q, K3, r3_0, r3_1⟩ := hQ3
  have N3 := Fr.app N0 N3q
  refine OwnFin.st st3 ?_
  obtain ⟨h3, e3⟩ : ∃ z, T3.heap = z := ⟨_, rfl⟩
  rw [e3] at K3 r3_1
  have bi_c3_0 : h0.size ≤ c3_0 := r3_0
  have lo_c3_0 : h0.size ≤ c3_0 := Nat.le_trans kp0.1 bi_c3_0
  have g_c3_0 : n0 ≤ c3_0 := Nat.le_trans Z0 lo_c3_0
  have kp4 : Keep h0 h3 [a0] := kp0.trans K3 all0
  have ol4 : Old Z n0 h3 := Ol0.keep K3 all0
  show OwnFin _ _ _ _ (T3.setTop (mkF m 39 _ [(.ref c3_0)]))
  refine OwnFin.st (fun _ q => XS.astore X3.here hx rfl (hb hby d6_39) rfl rfl (l' := #[.val (.ref a0), .val (.ref a1), .val (.int 0), .val (.int 2), .val .null, .val (.ref c3_0)]) rfl q) ?_
  show OwnFin _ _ _ _ (T3.setTop (mkF m 41 #[.val (.ref a0), .val (.ref a1), .val (.int 0), .val (.int 2), .val .null, .val (.ref c3_0)] []))
  refine OwnFin.st (fun _ q => XS.aloadN X3.here hx rfl (hb hby d6_41) rfl rfl q) ?_
  show OwnFin _ _ _ _ (T3.setTop (mkF m 42 _ [(.ref a0)]))
  refine OwnFin.st (fun _ q => XS.aload X3.here hx rfl (hb hby d6_42) rfl rfl q) ?_
  show OwnFin _ _ _ _ (T3.setTop (mkF m 44 _ [(.ref c3_0), (.ref a0)]))
  refine OwnFin.st (fun _ q => XS.iloadN X3.here hx rfl (hb hby d6_44) rfl q) ?_
  show OwnFin _ _ _ _ (T3.setTop (mkF m 45 _ [(.int 2), (.ref c3_0), (.ref a0)]))
  obtain ⟨_, _, ⟨T5, L5, k5, n5⟩, -, X5, ⟨Lc5, hQ5, l5, y5, z5⟩, st5⟩ := Jvm.LawKit.callS X3 hx (y := yM4) hown (mvT hZ (w_ hw 113 rfl)) (mvT hZ (w_ hw 114 rfl)) (mvT hZ (w_ hw 108 rfl)) (mvT hZ (w_ hw 115 rfl)) (by decide) (backOf (W := 1) (rm_cl_2 l Z av0 hw [] c3_0 kc3_1 (c0.toInt8.toInt32) (c1.toInt8.toInt32) h3 n0 (Nat.le_trans Z0 kp4.1) r3_1) hZ (w_ hw 115 rfl) (w_ hw 108 rfl) (by decide) (by decide)) (g := (mkF m 45 #[.val (.ref a0), .val (.ref a1), .val (.int 0), .val (.int 2), .val .null, .val (.ref c3_0)] [(.int 2), (.ref c3_0), (.ref a0)])) rfl (by rw [hml]; rfl) (argsL := [(.ref c3_0), (.int 2)]) (rest := [(.ref a0)]) (lenOf pd_3 rfl) rfl (by show 2 * 0 + _ ≤ _; exact Nat.le_of_eq rfl) (hb hby d6_45) (fun _ _ => ⟨rfl, e3, (by decide : 1 + 0 ≤ _), (by decide : 2 + 0 ≤ _)⟩)
  dsimp only [Pt.U, Pt.locs, Pt.cells, Pt.slots] at X5 l5 y5 z5 st5 hQ5
  subst l5 y5 z5
  obtain ⟨rfl, N5q, he5⟩ := hQ5
  have N5 := Fr.app N3 N5q
  refine OwnFin.st st5 ?_
  show OwnFin _ _ _ _ (T5.setTop (mkF m 48 _ [(.int 0), (.ref a0)]))
  obtain ⟨T6, h6, X6, e6, W6, st6⟩ := putFN X5 hx hZ hown (w_ hw 34 rfl) Via.refl he5 (F_coder_a0.keep K3 nin0) (X_a0.keep K3) (Or.inr ⟨(w_ hw 30 rfl), rfl, hnm⟩) (w_ hw 14 rfl) (ty := .byte) (v' := (.int 0)) (by decide) rfl rfl (g := (mkF m 48 #[.val (.ref a0), .val (.ref a1), .val (.int 0), .val (.int 2), .val .null, .val (.ref c3_0)] [(.int 0), (.ref a0)])) rfl rfl (hb hby d6_48)
  refine OwnFin.st st6 ?_
  have Fw6 : Fld Z h6 a0 "java/lang/String" "coder" "B" (.int 0) := (F_coder_a0.keep K3 nin0).same W6
  have N6 := Fr.snoc X6 N5 g_a0
  have kp7 : Keep h0 h6 [a0] := kp4.wr W6 (Or.inl (List.mem_of_getElem? (i := 0) rfl))
  have ol7 : Old Z n0 h6 := ol4.wr W6 g_a0
  show OwnFin _ _ _ _ (T6.setTop (mkF m 51 _ []))
  refine OwnFin.st (fun _ q => XS.aloadN X6.here hx rfl (hb hby d6_51) rfl rfl q) ?_
  show OwnFin _ _ _ _ (T6.setTop (mkF m 52 _ [(.ref a0)]))
  refine OwnFin.st (fun _ q => XS.aload X6.here hx rfl (hb hby d6_52) rfl rfl q) ?_
  show OwnFin _ _ _ _ (T6.setTop (mkF m 54 _ [(.ref c3_0), (.ref a0)]))
  have fr8 : Fld Z h6 a0 "java/lang/String" "value" "[B" u_value_a0 := ((F_value_a0.keep K3 nin0).other W6 (Or.inr (slot_ne (Or.inr (w_ hw 29 rfl)) (Or.inr (w_ hw 30 rfl)) (by decide) (t := (.array .byte)) (t' := .byte) (by decide) (by decide))))
  obtain ⟨T9, h9, X9, e9, W9, st9⟩ := putF X6 hx hZ hown (host := "") (Or.inl (w_ hw 33 rfl)) Via.refl e6 fr8 ((X_a0.keep K3).wr W6) (Or.inr ⟨(w_ hw 29 rfl), rfl, hnm⟩) (w_ hw 14 rfl) (ty := (.array .byte)) (by decide) rfl rfl (g := (mkF m 54 #[.val (.ref a0), .val (.ref a1), .val (.int 0), .val (.int 2), .val .null, .val (.ref c3_0)] [(.ref c3_0), (.ref a0)])) rfl rfl (hb hby d6_54)
  refine OwnFin.st st9 ?_
  have Fw9 : Fld Z h9 a0 "java/lang/String" "value" "[B" (.ref c3_0) := ((F_value_a0.keep K3 nin0).other W6 (Or.inr (slot_ne (Or.inr (w_ hw 29 rfl)) (Or.inr (w_ hw 30 rfl)) (by decide) (t := (.array .byte)) (t' := .byte) (by decide) (by decide)))).same W9
  have N9 := Fr.snoc X9 N6 g_a0
  have kp10 : Keep h0 h9 [a0] := kp7.wr W9 (Or.inl (List.mem_of_getElem? (i := 0) rfl))
  have ol10 : Old Z n0 h9 := ol7.wr W9 g_a0
  show OwnFin _ _ _ _ (T9.setTop (mkF m 57 _ []))
  obtain ⟨fs, hr, hrun, hended, hW, hsame⟩ := X9.leave (v := none) (fun _ => rfl)
  refine ⟨_, _, X9.returnOut hx Bd.returns (hb hby d6_57) hr, hrun, hended, _, _, rfl, ?_, ⟨_, rfl⟩, hW, hsame.mono (by decide) (by decide)⟩
  show Q_rm_sv_2 Z a0 a1 k_a1 c0 c1 w_COMPACT_STRINGS u_coder_a0 u_value_a0 h0 n0 _ T9.heap _
  rw [e9]
  have fr11 : Arv Z h9 c3_0 kc3_1 .byte (2 : Int32) [(.int (c0.toInt8.toInt32)), (.int (c1.toInt8.toInt32))] (.int 0) := ((r3_1.other W6 (Ne.symm (Nat.ne_of_lt (Nat.lt_of_lt_of_le X_a0.lt bi_c3_0)))).other W9 (Ne.symm (Nat.ne_of_lt (Nat.lt_of_lt_of_le X_a0.lt bi_c3_0))))
  have fr12 : Fld Z h9 a0 "java/lang/String" "coder" "B" (.int 0) := (Fw6.other W9 (Or.inr (slot_ne (Or.inr (w_ hw 30 rfl)) (Or.inr (w_ hw 29 rfl)) (by decide) (t := .byte) (t' := (.array .byte)) (by decide) (by decide))))
  exact ⟨c3_0, kc3_1, rfl, N9, kp10, lo_c3_0, fr11, fr12, Fw9⟩
theorem ef_rm_si_2 (m : MethodId) (a0 : Addr) (a1 : Addr) : entryFrame m #[(.ref a0), (.ref a1)] 2 = mkF m 0 #[.val (.ref a0), .val (.ref a1)] [] := by first | (simp [entryFrame, mkF, argsToLocals, Value.category]; done) | rfl
def Q_rm_si_2 (Z : State) (a0 : Addr) (a1 : Addr) (k_a1 : ClassId) (c0 : Int32) (c1 : Int32) (w_COMPACT_STRINGS : Int32) (u_coder_a0 : Value) (u_value_a0 : Value) (h0 : Heap) (n0 : Nat) (v : Option Value) (h : Heap) (L : List Loc) : Prop := ∃ c2_0 : Addr, ∃ kc2_1 : ClassId, v = none ∧ Fr n0 L ∧ Keep h0 h [a0] ∧ h0.size ≤ c2_0 ∧ Arv Z h c2_0 kc2_1 .byte (2 : Int32) [(.int (c0.toInt8.toInt32)), (.int (c1.toInt8.toInt32))] (.int 0) ∧ Fld Z h a0 "java/lang/String" "coder" "B" (.int 0) ∧ Fld Z h a0 "java/lang/String" "value" "[B" (.ref c2_0)
set_option maxRecDepth 65536 in
set_option maxHeartbeats 40000000 in
theorem rm_si_2 (l : Launch) (Z : State) (av0 : Array Value) (hw : ∀ d ∈ tables_1, d.before av0 Z = true) (ws : List Jvm.Cond) (a0 : Addr) (a1 : Addr) (k_a1 : ClassId) (c0 : Int32) (c1 : Int32) (w_COMPACT_STRINGS : Int32) (u_coder_a0 : Value) (u_value_a0 : Value) (h0 : Heap) (n0 : Nat) (Z0 : n0 ≤ h0.size) (Ol0 : Old Z n0 h0) (V_a1 : Arv Z h0 a1 k_a1 .char (2 : Int32) [(.int c0), (.int c1)] (.int 0)) (S_COMPACT_STRINGS : Sta Z Z.heap "java/lang/String" "COMPACT_STRINGS" "Z" (.int w_COMPACT_STRINGS)) (hc0 : ¬ (w_COMPACT_STRINGS = (0 : Int32))) (hc1 : ¬ ((255 : Int32) < c0)) (hc2 : ¬ ((255 : Int32) < c1)) (X_a0 : Exa Z h0 a0 "java/lang/String") (F_coder_a0 : Fld Z h0 a0 "java/lang/String" "coder" "B" u_coder_a0) (g_a0 : n0 ≤ a0) (F_value_a0 : Fld Z h0 a0 "java/lang/String" "value" "[B" u_value_a0) :
    MetFree l yM1 (head1 (Jvm.Cond.code yM1 jdk_42_method_3_code 2 none :: ws) ({ frames := 3, cells := 1, slots := 2, locals := 52 } : Room)) (fun a U => a = #[(.ref a0), (.ref a1)] ∧ Z.Warmed39 U.vm ∧ U.heap = h0) (fun _ _ _ _ _ => True) (fun _ U o U' => ∃ v L, o = .returned v ∧ Q_rm_si_2 Z a0 a1 k_a1 c0 c1 w_COMPACT_STRINGS u_coder_a0 u_value_a0 h0 n0 v U'.heap L ∧ FrameEnd U o U' L ({ frames := 3, cells := 1, slots := 2, locals := 52 } : Room).cells ({ frames := 3, cells := 1, slots := 2, locals := 52 } : Room).slots) := by
  refine MetFree.of_bodySF (plainFor_of_name pn_0) hisR ?_
  intro p e s m args below meth c s₁ Bd hml0 hP hK
  obtain ⟨rfl, hZ, hh⟩ := hP
  have hx := Bd.exec
  have hby := Bd.bytes
  have hml : c.maxLocals = 2 := hml0
  have hown : s.vm.findClass "java/lang/String" = some m.cls := findClass_of_methodNamed Bd.named
  have hnm := (name_of_methodNamed Bd.named Bd.method).1
  have X0 : Stand p l e ({ frames := 3, cells := 1, slots := 2, locals := 52 } : Room) s m #[(.ref a0), (.ref a1)] below meth c s₁ [] 0 0 := Stand.of_body Bd
  have e0 : s₁.heap = h0 := by rw [← hh, Bd.state]; rfl
  have N0 := Fr.nil n0
  have pre0 : ∀ t, Steps p.tables e below (s₁.setTop (mkF m 0 #[.val (.ref a0), .val (.ref a1)] [])) t → Steps p.tables e below (s₁.setTop (entryFrame m #[(.ref a0), (.ref a1)] 2)) t := fun t k => castTop (ef_rm_si_2 m a0 a1) k
  change OwnFin p.tables e below _ (s₁.setTop (entryFrame m #[(.ref a0), (.ref a1)] 2))
  have kp0 : Keep h0 h0 [a0] := Keep.refl _ _
  refine OwnFin.st (fun _ q => pre0 _ q) ?_
  show OwnFin _ _ _ _ (s₁.setTop (mkF m 0 #[.val (.ref a0), .val (.ref a1)] []))
  refine OwnFin.st (fun _ q => XS.aloadN X0.here hx rfl (hb hby d5_0) rfl rfl q) ?_
  show OwnFin _ _ _ _ (s₁.setTop (mkF m 1 _ [(.ref a0)]))
  refine OwnFin.st (fun _ q => XS.aloadN X0.here hx rfl (hb hby d5_1) rfl rfl q) ?_
  show OwnFin _ _ _ _ (s₁.setTop (mkF m 2 _ [(.ref a1), (.ref a0)]))
  refine OwnFin.st (fun _ q => XS.iconst X0.here hx rfl (hb hby d5_2) q) ?_
  show OwnFin _ _ _ _ (s₁.setTop (mkF m 3 _ [(.int 0), (.ref a1), (.ref a0)]))
  refine OwnFin.st (fun _ q => XS.aloadN X0.here hx rfl (hb hby d5_3) rfl rfl q) ?_
  show OwnFin _ _ _ _ (s₁.setTop (mkF m 4 _ [(.ref a1), (.int 0), (.ref a1), (.ref a0)]))
  have Vo1 : Arv Z h0 a1 k_a1 .char (2 : Int32) [(.int c0), (.int c1)] (.int 0) := V_a1
  obtain ⟨cl1, Ar1, qa1, Sa1, Na1, Ha1, Ga1⟩ := id Vo1
  refine OwnFin.st (X0.arraylength hx (by rw [e0]; exact Ar1.1) (State.isArrayOf_alike (hZ).alike Ar1.2.1) (g := (mkF m 4 #[.val (.ref a0), .val (.ref a1)] [(.ref a1), (.int 0), (.ref a1), (.ref a0)])) rfl rfl (hb hby d5_4)) ?_
  rw [len_of Sa1 Na1]
  show OwnFin _ _ _ _ (s₁.setTop (mkF m 5 _ [(.int 2), (.int 0), (.ref a1), (.ref a0)]))
  refine OwnFin.st (fun _ q => XS.aconstNull X0.here hx rfl (hb hby d5_5) q) ?_
  show OwnFin _ _ _ _ (s₁.setTop (mkF m 6 _ [.null, (.int 2), (.int 0), (.ref a1), (.ref a0)]))
  show OwnFin _ _ _ _ (s₁.setTop (mkF m 6 _ [.null, (.int 2), (.int 0), (.ref a1), (.ref a0)]))
  show OwnFin _ _ _ _ (s₁.setTop (mkF m 6 _ [.null, (.int 2), (.int 0), (.ref a1), (.ref a0)]))
  show OwnFin _ _ _ _ (s₁.setTop (mkF m 6 _ [.null, (.int 2), (.int 0), (.ref a1), (.ref a0)]))
  obtain ⟨_, _, ⟨T2, L2, k2, n2⟩, -, X2, ⟨Lc2, hQ2, l2, y2, z2⟩, st2⟩ := X0.specialBack hx (y := yM0) rfl hown (mvT hZ (w_ hw 20 rfl)) (mvT hZ (w_ hw 21 rfl)) (mvT hZ (w_ hw 23 rfl)) (by decide) (backOf (W := 0) (rm_sv_2 l Z av0 hw [] a0 a1 k_a1 c0 c1 w_COMPACT_STRINGS u_coder_a0 u_value_a0 h0 n0 (Nat.le_trans Z0 kp0.1) Ol0 V_a1 S_COMPACT_STRINGS hc0 hc1 hc2 X_a0 F_coder_a0 g_a0 F_value_a0) hZ (w_ hw 23 rfl) (w_ hw 15 rfl) (by decide) (by decide)) (g := (mkF m 6 #[.val (.ref a0), .val (.ref a1)] [.null, (.int 2), (.int 0), (.ref a1), (.ref a0)])) rfl (by rw [hml]; rfl) (Steps.refl _) (a := a0) (argsL := [(.ref a1), (.int 0), (.int 2), .null]) (rest := []) (lenOf pd_0 rfl) rfl (by show 2 * 0 + _ ≤ _; exact Nat.le_of_eq rfl) (hb hby d5_6) (fun _ _ => ⟨rfl, e0, (by decide : 0 + 1 ≤ _), (by decide : 0 + 2 ≤ _)⟩)
  dsimp only [Pt.U, Pt.locs, Pt.cells, Pt.slots] at X2 l2 y2 z2 st2 hQ2
  subst l2 y2 z2
  obtain ⟨c2_0, kc2_1, rfl, N2q, K2, r2_0, r2_1, r2_2, r2_3⟩ := hQ2
  have N2 := Fr.app N0 N2q
  refine OwnFin.tr st2 ?_
  obtain ⟨h2, e2⟩ : ∃ z, T2.heap = z := ⟨_, rfl⟩
  rw [e2] at K2 r2_1 r2_2 r2_3
  have bi_c2_0 : h0.size ≤ c2_0 := r2_0
  have lo_c2_0 : h0.size ≤ c2_0 := Nat.le_trans kp0.1 bi_c2_0
  have g_c2_0 : n0 ≤ c2_0 := Nat.le_trans Z0 lo_c2_0
  have kp3 : Keep h0 h2 [a0] := kp0.trans K2 (allS (Or.inl (List.mem_of_getElem? (i := 0) rfl)) all0)
  have ol3 : Old Z n0 h2 := Ol0.keep K2 (allS g_a0 all0)
  show OwnFin _ _ _ _ (T2.setTop (mkF m 9 _ []))
  obtain ⟨fs, hr, hrun, hended, hW, hsame⟩ := X2.leave (v := none) (fun _ => rfl)
  refine ⟨_, _, X2.returnOut hx Bd.returns (hb hby d5_9) hr, hrun, hended, _, _, rfl, ?_, ⟨_, rfl⟩, hW, hsame.mono (by decide) (by decide)⟩
  show Q_rm_si_2 Z a0 a1 k_a1 c0 c1 w_COMPACT_STRINGS u_coder_a0 u_value_a0 h0 n0 _ T2.heap _
  rw [e2]
  exact ⟨c2_0, kc2_1, rfl, N2, kp3, lo_c2_0, r2_1, r2_2, r2_3⟩
theorem d1_0 : decode method_3_code 0 = .ok (.iload_n 0, 1) := by decide +kernel
theorem d1_1 : decode method_3_code 1 = .ok (.bipush 16, 2) := by decide +kernel
theorem d1_3 : decode method_3_code 3 = .ok (.iushr, 1) := by decide +kernel
theorem d1_4 : decode method_3_code 4 = .ok (.sipush 255, 3) := by decide +kernel
theorem d1_7 : decode method_3_code 7 = .ok (.iand, 1) := by decide +kernel
theorem d1_8 : decode method_3_code 8 = .ok (.iconst 3, 1) := by decide +kernel
theorem d1_9 : decode method_3_code 9 = .ok (.irem, 1) := by decide +kernel
theorem d1_10 : decode method_3_code 10 = .ok (.ireturn, 1) := by decide +kernel
theorem pn_2 : plainName "com/example/neat_order/neatorder/model/LifecycleFailureEqualsPinLaw" = true := by first | (simp [plainName, overriddenIn]; done) | decide +kernel
theorem ef_rm_len (m : MethodId) (p0 : Int32) : entryFrame m #[(.int p0)] 1 = mkF m 0 #[.val (.int p0)] [] := by first | (simp [entryFrame, mkF, argsToLocals, Value.category]; done) | rfl
def Q_rm_len (Z : State) (p0 : Int32) (h0 : Heap) (n0 : Nat) (v : Option Value) (h : Heap) (L : List Loc) : Prop := v = some (.int ((((p0.toUInt32 >>> ((16 : Int32) &&& 31).toUInt32).toInt32) &&& (255 : Int32)) % (3 : Int32))) ∧ Fr n0 L ∧ h = h0
set_option maxRecDepth 65536 in
set_option maxHeartbeats 40000000 in
theorem rm_len (l : Launch) (Z : State) (av0 : Array Value) (hw : ∀ d ∈ tables_1, d.before av0 Z = true) (ws : List Jvm.Cond) (p0 : Int32) (h0 : Heap) (n0 : Nat) (Z0 : n0 ≤ h0.size) :
    MetFree l yM5 (head1 (Jvm.Cond.code yM5 method_3_code 1 (some .int) :: ws) ({ frames := 0, cells := 0, slots := 0, locals := 0 } : Room)) (fun a U => a = #[(.int p0)] ∧ Z.Warmed39 U.vm ∧ U.heap = h0) (fun _ _ _ _ _ => True) (fun _ U o U' => ∃ v L, o = .returned v ∧ Q_rm_len Z p0 h0 n0 v U'.heap L ∧ FrameEnd U o U' L ({ frames := 0, cells := 0, slots := 0, locals := 0 } : Room).cells ({ frames := 0, cells := 0, slots := 0, locals := 0 } : Room).slots) := by
  refine MetFree.of_bodySF (plainFor_of_name pn_2) hisR ?_
  intro p e s m args below meth c s₁ Bd hml0 hP hK
  obtain ⟨rfl, hZ, hh⟩ := hP
  have hx := Bd.exec
  have hby := Bd.bytes
  have hml : c.maxLocals = 1 := hml0
  have hown : s.vm.findClass "com/example/neat_order/neatorder/model/LifecycleFailureEqualsPinLaw" = some m.cls := findClass_of_methodNamed Bd.named
  have hnm := (name_of_methodNamed Bd.named Bd.method).1
  have X0 : Stand p l e ({ frames := 0, cells := 0, slots := 0, locals := 0 } : Room) s m #[(.int p0)] below meth c s₁ [] 0 0 := Stand.of_body Bd
  have e0 : s₁.heap = h0 := by rw [← hh, Bd.state]; rfl
  have N0 := Fr.nil n0
  have pre0 : ∀ t, Steps p.tables e below (s₁.setTop (mkF m 0 #[.val (.int p0)] [])) t → Steps p.tables e below (s₁.setTop (entryFrame m #[(.int p0)] 1)) t := fun t k => castTop (ef_rm_len m p0) k
  change OwnFin p.tables e below _ (s₁.setTop (entryFrame m #[(.int p0)] 1))
  have kp0 : Keep h0 h0 [] := Keep.refl _ _
  refine OwnFin.st (fun _ q => pre0 _ q) ?_
  show OwnFin _ _ _ _ (s₁.setTop (mkF m 0 #[.val (.int p0)] []))
  refine OwnFin.st (fun _ q => XS.iloadN X0.here hx rfl (hb hby d1_0) rfl q) ?_
  show OwnFin _ _ _ _ (s₁.setTop (mkF m 1 _ [(.int p0)]))
  refine OwnFin.st (fun _ q => XS.bipush X0.here hx rfl (hb hby d1_1) q) ?_
  show OwnFin _ _ _ _ (s₁.setTop (mkF m 3 _ [(.int 16), (.int p0)]))
  refine OwnFin.st (fun _ q => XS.iushr X0.here hx rfl (hb hby d1_3) rfl q) ?_
  show OwnFin _ _ _ _ (s₁.setTop (mkF m 4 _ [(.int ((p0.toUInt32 >>> ((16 : Int32) &&& 31).toUInt32).toInt32))]))
  refine OwnFin.st (fun _ q => XS.sipush X0.here hx rfl (hb hby d1_4) q) ?_
  show OwnFin _ _ _ _ (s₁.setTop (mkF m 7 _ [(.int 255), (.int ((p0.toUInt32 >>> ((16 : Int32) &&& 31).toUInt32).toInt32))]))
  refine OwnFin.st (fun _ q => XS.iand X0.here hx rfl (hb hby d1_7) rfl q) ?_
  show OwnFin _ _ _ _ (s₁.setTop (mkF m 8 _ [(.int (((p0.toUInt32 >>> ((16 : Int32) &&& 31).toUInt32).toInt32) &&& (255 : Int32)))]))
  refine OwnFin.st (fun _ q => XS.iconst X0.here hx rfl (hb hby d1_8) q) ?_
  show OwnFin _ _ _ _ (s₁.setTop (mkF m 9 _ [(.int 3), (.int (((p0.toUInt32 >>> ((16 : Int32) &&& 31).toUInt32).toInt32) &&& (255 : Int32)))]))
  refine OwnFin.st (fun _ q => Jvm.RoadKit.iremM X0 hx rfl (hb hby d1_9) rfl (by decide) q) ?_
  show OwnFin _ _ _ _ (s₁.setTop (mkF m 10 _ [(.int ((((p0.toUInt32 >>> ((16 : Int32) &&& 31).toUInt32).toInt32) &&& (255 : Int32)) % (3 : Int32)))]))
  obtain ⟨fs, hr, hrun, hended, hW, hsame⟩ := X0.leave (v := some (.int ((((p0.toUInt32 >>> ((16 : Int32) &&& 31).toUInt32).toInt32) &&& (255 : Int32)) % (3 : Int32)))) (fun h => by rw [Bd.returns] at h; cases h)
  refine ⟨_, _, retI X0 hx Bd.returns (hb hby d1_10) hr, hrun, hended, _, _, rfl, ?_, ⟨_, rfl⟩, hW, hsame.mono (by decide) (by decide)⟩
  show Q_rm_len Z p0 h0 n0 _ s₁.heap _
  rw [e0]
  exact ⟨rfl, N0, rfl⟩
theorem d2_0 : decode method_4_code 0 = .ok (.iload_n 0, 1) := by decide +kernel
theorem d2_1 : decode method_4_code 1 = .ok (.sipush 255, 3) := by decide +kernel
theorem d2_4 : decode method_4_code 4 = .ok (.iand, 1) := by decide +kernel
theorem d2_5 : decode method_4_code 5 = .ok (.i2c, 1) := by decide +kernel
theorem d2_6 : decode method_4_code 6 = .ok (.ireturn, 1) := by decide +kernel
theorem ef_rm_ch0 (m : MethodId) (p0 : Int32) : entryFrame m #[(.int p0)] 1 = mkF m 0 #[.val (.int p0)] [] := by first | (simp [entryFrame, mkF, argsToLocals, Value.category]; done) | rfl
def Q_rm_ch0 (Z : State) (p0 : Int32) (h0 : Heap) (n0 : Nat) (v : Option Value) (h : Heap) (L : List Loc) : Prop := v = some (.int ((p0 &&& (255 : Int32)).toUInt32.toUInt16.toUInt32.toInt32)) ∧ Fr n0 L ∧ h = h0
set_option maxRecDepth 65536 in
set_option maxHeartbeats 40000000 in
theorem rm_ch0 (l : Launch) (Z : State) (av0 : Array Value) (hw : ∀ d ∈ tables_1, d.before av0 Z = true) (ws : List Jvm.Cond) (p0 : Int32) (h0 : Heap) (n0 : Nat) (Z0 : n0 ≤ h0.size) :
    MetFree l yM6 (head1 (Jvm.Cond.code yM6 method_4_code 1 (some .char) :: ws) ({ frames := 0, cells := 0, slots := 0, locals := 0 } : Room)) (fun a U => a = #[(.int p0)] ∧ Z.Warmed39 U.vm ∧ U.heap = h0) (fun _ _ _ _ _ => True) (fun _ U o U' => ∃ v L, o = .returned v ∧ Q_rm_ch0 Z p0 h0 n0 v U'.heap L ∧ FrameEnd U o U' L ({ frames := 0, cells := 0, slots := 0, locals := 0 } : Room).cells ({ frames := 0, cells := 0, slots := 0, locals := 0 } : Room).slots) := by
  refine MetFree.of_bodySF (plainFor_of_name pn_2) hisR ?_
  intro p e s m args below meth c s₁ Bd hml0 hP hK
  obtain ⟨rfl, hZ, hh⟩ := hP
  have hx := Bd.exec
  have hby := Bd.bytes
  have hml : c.maxLocals = 1 := hml0
  have hown : s.vm.findClass "com/example/neat_order/neatorder/model/LifecycleFailureEqualsPinLaw" = some m.cls := findClass_of_methodNamed Bd.named
  have hnm := (name_of_methodNamed Bd.named Bd.method).1
  have X0 : Stand p l e ({ frames := 0, cells := 0, slots := 0, locals := 0 } : Room) s m #[(.int p0)] below meth c s₁ [] 0 0 := Stand.of_body Bd
  have e0 : s₁.heap = h0 := by rw [← hh, Bd.state]; rfl
  have N0 := Fr.nil n0
  have pre0 : ∀ t, Steps p.tables e below (s₁.setTop (mkF m 0 #[.val (.int p0)] [])) t → Steps p.tables e below (s₁.setTop (entryFrame m #[(.int p0)] 1)) t := fun t k => castTop (ef_rm_ch0 m p0) k
  change OwnFin p.tables e below _ (s₁.setTop (entryFrame m #[(.int p0)] 1))
  have kp0 : Keep h0 h0 [] := Keep.refl _ _
  refine OwnFin.st (fun _ q => pre0 _ q) ?_
  show OwnFin _ _ _ _ (s₁.setTop (mkF m 0 #[.val (.int p0)] []))
  refine OwnFin.st (fun _ q => XS.iloadN X0.here hx rfl (hb hby d2_0) rfl q) ?_
  show OwnFin _ _ _ _ (s₁.setTop (mkF m 1 _ [(.int p0)]))
  refine OwnFin.st (fun _ q => XS.sipush X0.here hx rfl (hb hby d2_1) q) ?_
  show OwnFin _ _ _ _ (s₁.setTop (mkF m 4 _ [(.int 255), (.int p0)]))
  refine OwnFin.st (fun _ q => XS.iand X0.here hx rfl (hb hby d2_4) rfl q) ?_
  show OwnFin _ _ _ _ (s₁.setTop (mkF m 5 _ [(.int (p0 &&& (255 : Int32)))]))
  refine OwnFin.st (fun _ q => XS.i2c X0.here hx rfl (hb hby d2_5) rfl q) ?_
  show OwnFin _ _ _ _ (s₁.setTop (mkF m 6 _ [(.int ((p0 &&& (255 : Int32)).toUInt32.toUInt16.toUInt32.toInt32))]))
  obtain ⟨fs, hr, hrun, hended, hW, hsame⟩ := X0.leave (v := some (.int (nar .char ((p0 &&& (255 : Int32)).toUInt32.toUInt16.toUInt32.toInt32)))) (fun h => by rw [Bd.returns] at h; cases h)
  refine ⟨_, _, retN X0 hx (t := .char) Bd.returns (by simp) (hb hby d2_6) hr, hrun, hended, _, _, rfl, ?_, ⟨_, rfl⟩, hW, hsame.mono (by decide) (by decide)⟩
  show Q_rm_ch0 Z p0 h0 n0 _ s₁.heap _
  rw [e0]
  exact ⟨congrArg (fun q => some (Value.int q)) own_nari2c, N0, rfl⟩
theorem d3_0 : decode method_5_code 0 = .ok (.iload_n 0, 1) := by decide +kernel
theorem d3_1 : decode method_5_code 1 = .ok (.bipush 8, 2) := by decide +kernel
theorem d3_3 : decode method_5_code 3 = .ok (.iushr, 1) := by decide +kernel
theorem d3_4 : decode method_5_code 4 = .ok (.sipush 255, 3) := by decide +kernel
theorem d3_7 : decode method_5_code 7 = .ok (.iand, 1) := by decide +kernel
theorem d3_8 : decode method_5_code 8 = .ok (.i2c, 1) := by decide +kernel
theorem d3_9 : decode method_5_code 9 = .ok (.ireturn, 1) := by decide +kernel
theorem ef_rm_ch1 (m : MethodId) (p0 : Int32) : entryFrame m #[(.int p0)] 1 = mkF m 0 #[.val (.int p0)] [] := by first | (simp [entryFrame, mkF, argsToLocals, Value.category]; done) | rfl
def Q_rm_ch1 (Z : State) (p0 : Int32) (h0 : Heap) (n0 : Nat) (v : Option Value) (h : Heap) (L : List Loc) : Prop := v = some (.int ((((p0.toUInt32 >>> ((8 : Int32) &&& 31).toUInt32).toInt32) &&& (255 : Int32)).toUInt32.toUInt16.toUInt32.toInt32)) ∧ Fr n0 L ∧ h = h0
set_option maxRecDepth 65536 in
set_option maxHeartbeats 40000000 in
theorem rm_ch1 (l : Launch) (Z : State) (av0 : Array Value) (hw : ∀ d ∈ tables_1, d.before av0 Z = true) (ws : List Jvm.Cond) (p0 : Int32) (h0 : Heap) (n0 : Nat) (Z0 : n0 ≤ h0.size) :
    MetFree l yM7 (head1 (Jvm.Cond.code yM7 method_5_code 1 (some .char) :: ws) ({ frames := 0, cells := 0, slots := 0, locals := 0 } : Room)) (fun a U => a = #[(.int p0)] ∧ Z.Warmed39 U.vm ∧ U.heap = h0) (fun _ _ _ _ _ => True) (fun _ U o U' => ∃ v L, o = .returned v ∧ Q_rm_ch1 Z p0 h0 n0 v U'.heap L ∧ FrameEnd U o U' L ({ frames := 0, cells := 0, slots := 0, locals := 0 } : Room).cells ({ frames := 0, cells := 0, slots := 0, locals := 0 } : Room).slots) := by
  refine MetFree.of_bodySF (plainFor_of_name pn_2) hisR ?_
  intro p e s m args below meth c s₁ Bd hml0 hP hK
  obtain ⟨rfl, hZ, hh⟩ := hP
  have hx := Bd.exec
  have hby := Bd.bytes
  have hml : c.maxLocals = 1 := hml0
  have hown : s.vm.findClass "com/example/neat_order/neatorder/model/LifecycleFailureEqualsPinLaw" = some m.cls := findClass_of_methodNamed Bd.named
  have hnm := (name_of_methodNamed Bd.named Bd.method).1
  have X0 : Stand p l e ({ frames := 0, cells := 0, slots := 0, locals := 0 } : Room) s m #[(.int p0)] below meth c s₁ [] 0 0 := Stand.of_body Bd
  have e0 : s₁.heap = h0 := by rw [← hh, Bd.state]; rfl
  have N0 := Fr.nil n0
  have pre0 : ∀ t, Steps p.tables e below (s₁.setTop (mkF m 0 #[.val (.int p0)] [])) t → Steps p.tables e below (s₁.setTop (entryFrame m #[(.int p0)] 1)) t := fun t k => castTop (ef_rm_ch1 m p0) k
  change OwnFin p.tables e below _ (s₁.setTop (entryFrame m #[(.int p0)] 1))
  have kp0 : Keep h0 h0 [] := Keep.refl _ _
  refine OwnFin.st (fun _ q => pre0 _ q) ?_
  show OwnFin _ _ _ _ (s₁.setTop (mkF m 0 #[.val (.int p0)] []))
  refine OwnFin.st (fun _ q => XS.iloadN X0.here hx rfl (hb hby d3_0) rfl q) ?_
  show OwnFin _ _ _ _ (s₁.setTop (mkF m 1 _ [(.int p0)]))
  refine OwnFin.st (fun _ q => XS.bipush X0.here hx rfl (hb hby d3_1) q) ?_
  show OwnFin _ _ _ _ (s₁.setTop (mkF m 3 _ [(.int 8), (.int p0)]))
  refine OwnFin.st (fun _ q => XS.iushr X0.here hx rfl (hb hby d3_3) rfl q) ?_
  show OwnFin _ _ _ _ (s₁.setTop (mkF m 4 _ [(.int ((p0.toUInt32 >>> ((8 : Int32) &&& 31).toUInt32).toInt32))]))
  refine OwnFin.st (fun _ q => XS.sipush X0.here hx rfl (hb hby d3_4) q) ?_
  show OwnFin _ _ _ _ (s₁.setTop (mkF m 7 _ [(.int 255), (.int ((p0.toUInt32 >>> ((8 : Int32) &&& 31).toUInt32).toInt32))]))
  refine OwnFin.st (fun _ q => XS.iand X0.here hx rfl (hb hby d3_7) rfl q) ?_
  show OwnFin _ _ _ _ (s₁.setTop (mkF m 8 _ [(.int (((p0.toUInt32 >>> ((8 : Int32) &&& 31).toUInt32).toInt32) &&& (255 : Int32)))]))
  refine OwnFin.st (fun _ q => XS.i2c X0.here hx rfl (hb hby d3_8) rfl q) ?_
  show OwnFin _ _ _ _ (s₁.setTop (mkF m 9 _ [(.int ((((p0.toUInt32 >>> ((8 : Int32) &&& 31).toUInt32).toInt32) &&& (255 : Int32)).toUInt32.toUInt16.toUInt32.toInt32))]))
  obtain ⟨fs, hr, hrun, hended, hW, hsame⟩ := X0.leave (v := some (.int (nar .char ((((p0.toUInt32 >>> ((8 : Int32) &&& 31).toUInt32).toInt32) &&& (255 : Int32)).toUInt32.toUInt16.toUInt32.toInt32)))) (fun h => by rw [Bd.returns] at h; cases h)
  refine ⟨_, _, retN X0 hx (t := .char) Bd.returns (by simp) (hb hby d3_9) hr, hrun, hended, _, _, rfl, ?_, ⟨_, rfl⟩, hW, hsame.mono (by decide) (by decide)⟩
  show Q_rm_ch1 Z p0 h0 n0 _ s₁.heap _
  rw [e0]
  exact ⟨congrArg (fun q => some (Value.int q)) own_nari2c, N0, rfl⟩
theorem pd_4 : parseMethodDescriptor "([C)V" = some ⟨[(.array .char)], none⟩ := by decide +kernel
def own_by (n c d : Int32) : List Value := if n = 0 then [] else if n = 1 then [.int c.toInt8.toInt32] else [.int c.toInt8.toInt32, .int d.toInt8.toInt32]
theorem own_by0 {Z : State} {h : Heap} {b : Addr} {k : ClassId} {n c d : Int32} {dv : Value} (e : n = (0 : Int32)) (F : Arv Z h b k .byte (0 : Int32) [] dv) : Arv Z h b k .byte n (own_by n c d) dv := by subst e; simpa [own_by] using F
theorem own_by1 {Z : State} {h : Heap} {b : Addr} {k : ClassId} {n c d : Int32} {dv : Value} (e : n = (1 : Int32)) (F : Arv Z h b k .byte (1 : Int32) [.int c.toInt8.toInt32] dv) : Arv Z h b k .byte n (own_by n c d) dv := by subst e; simpa [own_by] using F
theorem own_by2 {Z : State} {h : Heap} {b : Addr} {k : ClassId} {n c d : Int32} {dv : Value} (e : n = (2 : Int32)) (F : Arv Z h b k .byte (2 : Int32) [.int c.toInt8.toInt32, .int d.toInt8.toInt32] dv) : Arv Z h b k .byte n (own_by n c d) dv := by subst e; simpa [own_by] using F
theorem d4_0 : decode method_2_code 0 = .ok (.iload_n 0, 1) := by decide +kernel
theorem d4_1 : decode method_2_code 1 = .ok (.ifCond .ne 14, 3) := by decide +kernel
theorem d4_4 : decode method_2_code 4 = .ok (.new 7, 3) := by decide +kernel
theorem d4_7 : decode method_2_code 7 = .ok (.dup, 1) := by decide +kernel
theorem d4_8 : decode method_2_code 8 = .ok (.iconst 0, 1) := by decide +kernel
theorem d4_9 : decode method_2_code 9 = .ok (.newarray .char, 2) := by decide +kernel
theorem d4_11 : decode method_2_code 11 = .ok (.invokespecial 9, 3) := by decide +kernel
theorem d4_14 : decode method_2_code 14 = .ok (.areturn, 1) := by decide +kernel
theorem d4_15 : decode method_2_code 15 = .ok (.iload_n 0, 1) := by decide +kernel
theorem d4_16 : decode method_2_code 16 = .ok (.iconst 1, 1) := by decide +kernel
theorem d4_17 : decode method_2_code 17 = .ok (.if_icmp .ne 20, 3) := by decide +kernel
theorem d4_20 : decode method_2_code 20 = .ok (.iconst 1, 1) := by decide +kernel
theorem d4_21 : decode method_2_code 21 = .ok (.newarray .char, 2) := by decide +kernel
theorem d4_23 : decode method_2_code 23 = .ok (.astore_n 3, 1) := by decide +kernel
theorem d4_24 : decode method_2_code 24 = .ok (.aload_n 3, 1) := by decide +kernel
theorem d4_25 : decode method_2_code 25 = .ok (.iconst 0, 1) := by decide +kernel
theorem d4_26 : decode method_2_code 26 = .ok (.iload_n 1, 1) := by decide +kernel
theorem d4_27 : decode method_2_code 27 = .ok (.castore, 1) := by decide +kernel
theorem d4_28 : decode method_2_code 28 = .ok (.new 7, 3) := by decide +kernel
theorem d4_31 : decode method_2_code 31 = .ok (.dup, 1) := by decide +kernel
theorem d4_32 : decode method_2_code 32 = .ok (.aload_n 3, 1) := by decide +kernel
theorem d4_33 : decode method_2_code 33 = .ok (.invokespecial 9, 3) := by decide +kernel
theorem d4_36 : decode method_2_code 36 = .ok (.areturn, 1) := by decide +kernel
theorem d4_37 : decode method_2_code 37 = .ok (.iconst 2, 1) := by decide +kernel
theorem d4_38 : decode method_2_code 38 = .ok (.newarray .char, 2) := by decide +kernel
theorem d4_40 : decode method_2_code 40 = .ok (.astore_n 3, 1) := by decide +kernel
theorem d4_41 : decode method_2_code 41 = .ok (.aload_n 3, 1) := by decide +kernel
theorem d4_42 : decode method_2_code 42 = .ok (.iconst 0, 1) := by decide +kernel
theorem d4_43 : decode method_2_code 43 = .ok (.iload_n 1, 1) := by decide +kernel
theorem d4_44 : decode method_2_code 44 = .ok (.castore, 1) := by decide +kernel
theorem d4_45 : decode method_2_code 45 = .ok (.aload_n 3, 1) := by decide +kernel
theorem d4_46 : decode method_2_code 46 = .ok (.iconst 1, 1) := by decide +kernel
theorem d4_47 : decode method_2_code 47 = .ok (.iload_n 2, 1) := by decide +kernel
theorem d4_48 : decode method_2_code 48 = .ok (.castore, 1) := by decide +kernel
theorem d4_49 : decode method_2_code 49 = .ok (.new 7, 3) := by decide +kernel
theorem d4_52 : decode method_2_code 52 = .ok (.dup, 1) := by decide +kernel
theorem d4_53 : decode method_2_code 53 = .ok (.aload_n 3, 1) := by decide +kernel
theorem d4_54 : decode method_2_code 54 = .ok (.invokespecial 9, 3) := by decide +kernel
theorem d4_57 : decode method_2_code 57 = .ok (.areturn, 1) := by decide +kernel
theorem ef_rm_text (m : MethodId) (p0 : Int32) (p1 : Int32) (p2 : Int32) : entryFrame m #[(.int p0), (.int p1), (.int p2)] 4 = mkF m 0 #[.val (.int p0), .val (.int p1), .val (.int p2), .unset] [] := by first | (simp [entryFrame, mkF, argsToLocals, Value.category]; done) | rfl
def Q_rm_text (Z : State) (p0 : Int32) (p1 : Int32) (p2 : Int32) (w_COMPACT_STRINGS : Int32) (h0 : Heap) (n0 : Nat) (v : Option Value) (h : Heap) (L : List Loc) : Prop := ∃ (xT : Addr) (bT : Addr) (kT : ClassId), v = some (.ref xT) ∧ Fr n0 L ∧ Keep h0 h [] ∧ h0.size ≤ xT ∧ Exa Z h xT "java/lang/String" ∧ Fld Z h xT "java/lang/String" "coder" "B" (.int 0) ∧ Fld Z h xT "java/lang/String" "value" "[B" (.ref bT) ∧ Arv Z h bT kT .byte p0 (own_by p0 p1 p2) (.int 0)
set_option maxHeartbeats 4000000 in
theorem om_rm_text_0 (p0 : Int32) (oh0 : ¬ (p0 < (0 : Int32))) (oh1 : ¬ ((2 : Int32) < p0)) (oh2 : ¬ (p0 = (0 : Int32))) (oh3 : ¬ (p0 = (1 : Int32))) : p0 = (2 : Int32) := by
  have om1 := rng32 p0
  have om2 := rng32 (0 : Int32)
  have om2l : (0 : Int32).toInt = 0 := by decide +kernel
  have om3 := rng32 (2 : Int32)
  have om3l : (2 : Int32).toInt = 2 := by decide +kernel
  have om4 := rng32 (1 : Int32)
  have om4l : (1 : Int32).toInt = 1 := by decide +kernel
  have ow0 := oh0
  rw [Int32.lt_iff_toInt_lt] at ow0
  have ow1 := oh1
  rw [Int32.lt_iff_toInt_lt] at ow1
  have ow2 := oh2
  rw [← Int32.toInt_inj] at ow2
  have ow3 := oh3
  rw [← Int32.toInt_inj] at ow3
  rw [← Int32.toInt_inj]
  generalize (0 : Int32).toInt = gx0 at *
  generalize (2 : Int32).toInt = gx1 at *
  generalize (1 : Int32).toInt = gx2 at *
  generalize p0.toInt = gx3 at *
  omega
set_option maxRecDepth 65536 in
set_option maxHeartbeats 40000000 in
theorem rm_text (l : Launch) (Z : State) (av0 : Array Value) (hw : ∀ d ∈ tables_1, d.before av0 Z = true) (ws : List Jvm.Cond) (p0 : Int32) (p1 : Int32) (p2 : Int32) (w_COMPACT_STRINGS : Int32) (h0 : Heap) (n0 : Nat) (Z0 : n0 ≤ h0.size) (Ol0 : Old Z n0 h0) (hn1 : nar .char p1 = p1) (hn2 : nar .char p2 = p2) (hb1 : ¬ ((255 : Int32) < p1)) (hb2 : ¬ ((255 : Int32) < p2)) (hcs : ¬ (w_COMPACT_STRINGS = (0 : Int32))) (hlo : ¬ (p0 < (0 : Int32))) (hhi : ¬ ((2 : Int32) < p0)) (S_COMPACT_STRINGS : Sta Z Z.heap "java/lang/String" "COMPACT_STRINGS" "Z" (.int w_COMPACT_STRINGS)) :
    MetFree l yM8 (head1 (Jvm.Cond.code yM8 method_2_code 4 (some (.object "java/lang/String")) :: ws) ({ frames := 4, cells := 6, slots := 12, locals := 66 } : Room)) (fun a U => a = #[(.int p0), (.int p1), (.int p2)] ∧ Z.Warmed39 U.vm ∧ U.heap = h0 ∧ CHv Z own_EL U.vm h0) (fun _ _ _ _ _ => True) (fun _ U o U' => ∃ v L, o = .returned v ∧ Q_rm_text Z p0 p1 p2 w_COMPACT_STRINGS h0 n0 v U'.heap L ∧ CHr Z own_EL U.vm U.heap U'.vm U'.heap ∧ ReturnedEndW U o U' L ({ frames := 4, cells := 6, slots := 12, locals := 66 } : Room).cells ({ frames := 4, cells := 6, slots := 12, locals := 66 } : Room).slots) := by
  refine MetFree.of_bodySF (plainFor_of_name pn_2) hisR ?_
  intro p e s m args below meth c s₁ Bd hml0 hP hK
  obtain ⟨rfl, hZ, hh, hCH⟩ := hP
  have hx := Bd.exec
  have hby := Bd.bytes
  have hml : c.maxLocals = 4 := hml0
  have hown : (s.setVm s.vm).vm.findClass "com/example/neat_order/neatorder/model/LifecycleFailureEqualsPinLaw" = some m.cls := findClass_of_methodNamed Bd.named
  have hnm := (name_of_methodNamed Bd.named Bd.method).1
  have X0 : Stand p l e ({ frames := 4, cells := 6, slots := 12, locals := 66 } : Room) (s.setVm s.vm) m #[(.int p0), (.int p1), (.int p2)] below meth c s₁ [] 0 0 := Stand.of_body Bd
  have e0 : s₁.heap = h0 := by rw [← hh, Bd.state]; rfl
  have N0 := Fr.nil n0
  have hZ : Z.Warmed39 (s.setVm s.vm).vm := hZ
  have hS0 : s.Since s.vm s.heap.size := (State.WarmedH.refl s).since _
  have hk0 : s.heap.size ≤ h0.size := Nat.le_of_eq (by rw [hh])
  have ch0 : CHr Z own_EL s.vm h0 s.vm h0 := CHr.refl hCH
  have pre0 : ∀ t, Steps p.tables e below (s₁.setTop (mkF m 0 #[.val (.int p0), .val (.int p1), .val (.int p2), .unset] [])) t → Steps p.tables e below (s₁.setTop (entryFrame m #[(.int p0), (.int p1), (.int p2)] 4)) t := fun t k => castTop (ef_rm_text m p0 p1 p2) k
  change OwnFin p.tables e below _ (s₁.setTop (entryFrame m #[(.int p0), (.int p1), (.int p2)] 4))
  have kp0 : Keep h0 h0 [] := Keep.refl _ _
  refine OwnFin.st (fun _ q => pre0 _ q) ?_
  show OwnFin _ _ _ _ (s₁.setTop (mkF m 0 #[.val (.int p0), .val (.int p1), .val (.int p2), .unset] []))
  refine OwnFin.st (fun _ q => XS.iloadN X0.here hx rfl (hb hby d4_0) rfl q) ?_
  show OwnFin _ _ _ _ (s₁.setTop (mkF m 1 _ [(.int p0)]))
  by_cases hc1 : p0 = (0 : Int32)
  ·
   refine OwnFin.st (fun _ q => XS.ifNo X0.here hx rfl (hb hby d4_1) rfl (Jvm.Free.XT.i0_ne_f hc1) q) ?_
   show OwnFin _ _ _ _ (s₁.setTop (mkF m 4 _ []))
   obtain ⟨T2, h2, X2, e2, E2, A2, D2, -, st2⟩ := newO X0 hx hZ hown (w_ hw 13 rfl) (w_ hw 14 rfl) (w_ hw 15 rfl) e0 (g := (mkF m 4 #[.val (.int p0), .val (.int p1), .val (.int p2), .unset] [])) rfl (hb hby d4_4) (by decide) (by decide)
   obtain ⟨b2, qe2⟩ : ∃ z, z = h0.size := ⟨_, rfl⟩
   rw [← qe2] at A2 D2 st2
   refine OwnFin.st st2 ?_
   have bi_b2 : h0.size ≤ b2 := Nat.le_of_eq qe2.symm
   have lo_b2 : h0.size ≤ b2 := Nat.le_trans kp0.1 bi_b2
   have g_b2 : n0 ≤ b2 := Nat.le_trans Z0 lo_b2
   have ch3 := ch0.trans (CHr.ext E2 ch0.1)
   have kp3 : Keep h0 h2 [] := kp0.ext E2
   have ol3 : Old Z n0 h2 := Ol0.ext E2
   have F_value_b2 : Fld Z h2 b2 "java/lang/String" "value" "[B" .null := D2 (Or.inr (w_ hw 29 rfl)) (ty := (.array .byte)) (by decide)
   have F_coder_b2 : Fld Z h2 b2 "java/lang/String" "coder" "B" (.int 0) := D2 (Or.inr (w_ hw 30 rfl)) (ty := .byte) (by decide)
   show OwnFin _ _ _ _ (T2.setTop (mkF m 7 _ [(.ref b2)]))
   refine OwnFin.st (fun _ q => XS.dup X2.here hx rfl (hb hby d4_7) rfl rfl q) ?_
   show OwnFin _ _ _ _ (T2.setTop (mkF m 8 _ [(.ref b2), (.ref b2)]))
   refine OwnFin.st (fun _ q => XS.iconst X2.here hx rfl (hb hby d4_8) q) ?_
   show OwnFin _ _ _ _ (T2.setTop (mkF m 9 _ [(.int 0), (.ref b2), (.ref b2)]))
   obtain ⟨T4, h4, k4, X4, e4, E4, A4, st4⟩ := newP X2 hx hZ (w_ hw 16 rfl) e2 (g := (mkF m 9 #[.val (.int p0), .val (.int p1), .val (.int p2), .unset] [(.int 0), (.ref b2), (.ref b2)])) rfl (hb hby d4_9) rfl (by decide) (cap := 0) (by decide) (by decide) (by decide) (by decide)
   obtain ⟨b4, qe4⟩ : ∃ z, z = h2.size := ⟨_, rfl⟩
   rw [← qe4] at A4 st4
   refine OwnFin.st st4 ?_
   have bi_b4 : h2.size ≤ b4 := Nat.le_of_eq qe4.symm
   have lo_b4 : h0.size ≤ b4 := Nat.le_trans kp3.1 bi_b4
   have g_b4 : n0 ≤ b4 := Nat.le_trans Z0 lo_b4
   have ch5 := ch3.trans (CHr.ext E4 ch3.1)
   have kp5 : Keep h0 h4 [] := kp3.ext E4
   have ol5 : Old Z n0 h4 := ol3.ext E4
   have V4 : Arv Z h4 b4 k4 .char (0 : Int32) [] (.int 0) := Arv.new A4 (by decide)
   show OwnFin _ _ _ _ (T4.setTop (mkF m 11 _ [(.ref b4), (.ref b2), (.ref b2)]))
   obtain ⟨_, _, ⟨T6, L6, k6, n6⟩, -, X6, hS6, hg6, ⟨Lc6, hQ6, l6, y6, z6, hC6⟩, st6⟩ := X4.specialBackS hx (y := yM1) rfl hown (mvT hZ (w_ hw 17 rfl)) (mvT hZ (w_ hw 18 rfl)) (mvT hZ (w_ hw 19 rfl)) (by decide) (backOfSH (W := 1) (rm_si_0 l Z av0 hw [] b2 b4 k4 h4 n0 (Nat.le_trans Z0 kp5.1) (A2.ext E4) (F_value_b2.ext E4) (F_coder_b2.ext E4) V4 g_b2) hZ (w_ hw 19 rfl) (w_ hw 15 rfl) (by decide) (by decide) (own_EW hw) ch5.1) (g := (mkF m 11 #[.val (.int p0), .val (.int p1), .val (.int p2), .unset] [(.ref b4), (.ref b2), (.ref b2)])) rfl (by rw [hml]; rfl) (Steps.refl _) (a := b2) (argsL := [(.ref b4)]) (rest := [(.ref b2)]) (lenOf pd_4 rfl) rfl (by show 2 * 0 + _ ≤ _; exact Nat.le_of_eq rfl) (hb hby d4_11) (fun _ _ => ⟨rfl, e4, (by decide : 2 + 4 ≤ _), (by decide : 4 + 8 ≤ _)⟩)
   dsimp only [Pt.U, Pt.locs, Pt.cells, Pt.slots] at X6 l6 y6 z6 st6 hQ6 hS6 hg6 hC6
   subst l6 y6 z6
   obtain ⟨c6_0, kc6_1, rfl, N6q, K6, r6_0, r6_1, r6_2⟩ := hQ6
   have N6 := Fr.app N0 N6q
   refine OwnFin.tr st6 ?_
   rw [e4] at hg6
   obtain ⟨h6, e6⟩ : ∃ z, T6.heap = z := ⟨_, rfl⟩
   rw [e6] at K6 r6_0 r6_1 r6_2 hg6 hS6 hC6
   have ch7 := ch5.trans (hC6)
   have kp7 : Keep h0 h6 [] := kp5.trans K6 (allS (Or.inr lo_b2) all0)
   have ol7 : Old Z n0 h6 := ol5.keep K6 (allS g_b2 all0)
   obtain ⟨Xr6, hSr6, hZr6, hor6⟩ := rebS hS0 (Nat.le_trans hk0 (Nat.le_trans E2.1 E4.1)) X6 hS6 hg6 hZ hown
   show OwnFin _ _ _ _ (T6.setTop (mkF m 14 _ [(.ref b2)]))
   obtain ⟨fs, hr, hrun, hended, hEW⟩ := Xr6.leaveW (s := s) hSr6 (by rw [e6]; exact (Nat.le_trans (Nat.le_refl _) (Nat.le_refl _))) (v := some (.ref b2)) (fun h => by rw [Bd.returns] at h; cases h)
   have chE : CHr Z own_EL s.vm s.heap T6.vm T6.heap := by
     rw [hh, e6]
     exact ch7.trans (CHv.at Xr6 hZr6 (own_EW hw) ch7.1)
   refine ⟨_, _, retOut Xr6 hx Bd.returns rfl (Or.inr (Or.inr (Or.inr (Or.inr ⟨rfl, rfl, rfl⟩)))) (hb hby d4_14) hr, hrun, hended, _, _, rfl, ?_, chE, hEW.1, hEW.2.1, hEW.2.2.1, hEW.2.2.2.mono (by decide) (by decide)⟩
   show Q_rm_text Z p0 p1 p2 w_COMPACT_STRINGS h0 n0 _ T6.heap _
   rw [e6]
   have vb8 := own_by0 (c := p1) (d := p2) hc1 r6_2
   exact ⟨b2, c6_0, kc6_1, rfl, N6, kp7, lo_b2, ((A2.ext E4).keep K6), r6_0, r6_1, vb8⟩
  ·
   refine OwnFin.st (fun _ q => XS.ifYes X0.here hx rfl (pc0 := 1) (pc' := 15) rfl (hb hby d4_1) rfl (Jvm.Free.XT.i0_ne_t hc1) (by decide) (by decide) q) ?_
   show OwnFin _ _ _ _ (s₁.setTop (mkF m 15 _ []))
   refine OwnFin.st (fun _ q => XS.iloadN X0.here hx rfl (hb hby d4_15) rfl q) ?_
   show OwnFin _ _ _ _ (s₁.setTop (mkF m 16 _ [(.int p0)]))
   refine OwnFin.st (fun _ q => XS.iconst X0.here hx rfl (hb hby d4_16) q) ?_
   show OwnFin _ _ _ _ (s₁.setTop (mkF m 17 _ [(.int 1), (.int p0)]))
   by_cases hc9 : p0 = (1 : Int32)
   ·
    refine OwnFin.st (fun _ q => XS.icmpNo X0.here hx rfl (hb hby d4_17) rfl (Jvm.Free.XT.ii_ne_f hc9) q) ?_
    show OwnFin _ _ _ _ (s₁.setTop (mkF m 20 _ []))
    refine OwnFin.st (fun _ q => XS.iconst X0.here hx rfl (hb hby d4_20) q) ?_
    show OwnFin _ _ _ _ (s₁.setTop (mkF m 21 _ [(.int 1)]))
    obtain ⟨T10, h10, k10, X10, e10, E10, A10, st10⟩ := newP X0 hx hZ (w_ hw 16 rfl) e0 (g := (mkF m 21 #[.val (.int p0), .val (.int p1), .val (.int p2), .unset] [(.int 1)])) rfl (hb hby d4_21) rfl (by decide) (cap := 1) (by decide) (by decide) (by decide) (by decide)
    obtain ⟨b10, qe10⟩ : ∃ z, z = h0.size := ⟨_, rfl⟩
    rw [← qe10] at A10 st10
    refine OwnFin.st st10 ?_
    have bi_b10 : h0.size ≤ b10 := Nat.le_of_eq qe10.symm
    have lo_b10 : h0.size ≤ b10 := Nat.le_trans kp0.1 bi_b10
    have g_b10 : n0 ≤ b10 := Nat.le_trans Z0 lo_b10
    have ch11 := ch0.trans (CHr.ext E10 ch0.1)
    have kp11 : Keep h0 h10 [] := kp0.ext E10
    have ol11 : Old Z n0 h10 := Ol0.ext E10
    have V10 : Arv Z h10 b10 k10 .char (1 : Int32) [(.int 0)] (.int 0) := (Arv.new A10 (by decide)).pad (pad_rep [] (.int 0) 1)
    show OwnFin _ _ _ _ (T10.setTop (mkF m 23 _ [(.ref b10)]))
    refine OwnFin.st (fun _ q => XS.astoreN X10.here hx rfl (hb hby d4_23) rfl rfl (l' := #[.val (.int p0), .val (.int p1), .val (.int p2), .val (.ref b10)]) rfl q) ?_
    show OwnFin _ _ _ _ (T10.setTop (mkF m 24 _ []))
    refine OwnFin.st (fun _ q => XS.aloadN X10.here hx rfl (hb hby d4_24) rfl rfl q) ?_
    show OwnFin _ _ _ _ (T10.setTop (mkF m 25 _ [(.ref b10)]))
    refine OwnFin.st (fun _ q => XS.iconst X10.here hx rfl (hb hby d4_25) q) ?_
    show OwnFin _ _ _ _ (T10.setTop (mkF m 26 _ [(.int 0), (.ref b10)]))
    refine OwnFin.st (fun _ q => XS.iloadN X10.here hx rfl (hb hby d4_26) rfl q) ?_
    show OwnFin _ _ _ _ (T10.setTop (mkF m 27 _ [(.int p1), (.int 0), (.ref b10)]))
    have Vo12 : Arv Z h10 b10 k10 .char (1 : Int32) [(.int 0)] (.int 0) := V10
    obtain ⟨cl12, Ar12, qa12, Sa12, Na12, Ha12, Ga12⟩ := id Vo12
    obtain ⟨T12, h12, X12, e12, W12, st12⟩ := stC X10 hx hZ e10 Ar12 (j := (0 : Int32)) (inb_of Sa12 ⟨by decide, by decide⟩) (g := (mkF m 27 #[.val (.int p0), .val (.int p1), .val (.int p2), .val (.ref b10)] [(.int p1), (.int 0), (.ref b10)])) rfl rfl (hb hby d4_27)
    refine OwnFin.st st12 ?_
    have V12 : Arv Z h12 b10 k10 .char (1 : Int32) [(.int p1)] (.int 0) := by
      have z := Arv.set Ar12 qa12 Sa12 Na12 Ha12 Ga12 (fits_nar_char _) W12 0 rfl (Nat.le_of_ble_eq_true rfl)
      rw [hn1] at z
      exact z
    have N12 := Fr.snoc X12 N0 g_b10
    have ch13 := ch11.trans (CHr.wr W12 (Safe.arv (hZ).alike V10 (by decide)) ch11.1)
    have kp13 : Keep h0 h12 [] := kp11.wr W12 (Or.inr lo_b10)
    have ol13 : Old Z n0 h12 := ol11.wr W12 g_b10
    show OwnFin _ _ _ _ (T12.setTop (mkF m 28 _ []))
    obtain ⟨T14, h14, X14, e14, E14, A14, D14, -, st14⟩ := newO X12 hx hZ hown (w_ hw 13 rfl) (w_ hw 14 rfl) (w_ hw 15 rfl) e12 (g := (mkF m 28 #[.val (.int p0), .val (.int p1), .val (.int p2), .val (.ref b10)] [])) rfl (hb hby d4_28) (by decide) (by decide)
    obtain ⟨b14, qe14⟩ : ∃ z, z = h12.size := ⟨_, rfl⟩
    rw [← qe14] at A14 D14 st14
    refine OwnFin.st st14 ?_
    have bi_b14 : h12.size ≤ b14 := Nat.le_of_eq qe14.symm
    have lo_b14 : h0.size ≤ b14 := Nat.le_trans kp13.1 bi_b14
    have g_b14 : n0 ≤ b14 := Nat.le_trans Z0 lo_b14
    have ch15 := ch13.trans (CHr.ext E14 ch13.1)
    have kp15 : Keep h0 h14 [] := kp13.ext E14
    have ol15 : Old Z n0 h14 := ol13.ext E14
    have F_value_b14 : Fld Z h14 b14 "java/lang/String" "value" "[B" .null := D14 (Or.inr (w_ hw 29 rfl)) (ty := (.array .byte)) (by decide)
    have F_coder_b14 : Fld Z h14 b14 "java/lang/String" "coder" "B" (.int 0) := D14 (Or.inr (w_ hw 30 rfl)) (ty := .byte) (by decide)
    show OwnFin _ _ _ _ (T14.setTop (mkF m 31 #[.val (.int p0), .val (.int p1), .val (.int p2), .val (.ref b10)] [(.ref b14)]))
    refine OwnFin.st (fun _ q => XS.dup X14.here hx rfl (hb hby d4_31) rfl rfl q) ?_
    show OwnFin _ _ _ _ (T14.setTop (mkF m 32 _ [(.ref b14), (.ref b14)]))
    refine OwnFin.st (fun _ q => XS.aloadN X14.here hx rfl (hb hby d4_32) rfl rfl q) ?_
    show OwnFin _ _ _ _ (T14.setTop (mkF m 33 _ [(.ref b10), (.ref b14), (.ref b14)]))
    obtain ⟨_, _, ⟨T16, L16, k16, n16⟩, -, X16, ⟨Lc16, hQ16, l16, y16, z16⟩, st16⟩ := X14.specialBack hx (y := yM1) rfl hown (mvT hZ (w_ hw 17 rfl)) (mvT hZ (w_ hw 18 rfl)) (mvT hZ (w_ hw 19 rfl)) (by decide) (backOf (W := 1) (rm_si_1 l Z av0 hw [] b14 b10 k10 p1 w_COMPACT_STRINGS (.int 0) .null h14 n0 (Nat.le_trans Z0 kp15.1) ol15 (V12.ext E14) S_COMPACT_STRINGS hcs hb1 A14 F_coder_b14 g_b14 F_value_b14) hZ (w_ hw 19 rfl) (w_ hw 15 rfl) (by decide) (by decide)) (g := (mkF m 33 #[.val (.int p0), .val (.int p1), .val (.int p2), .val (.ref b10)] [(.ref b10), (.ref b14), (.ref b14)])) rfl (by rw [hml]; rfl) (Steps.refl _) (a := b14) (argsL := [(.ref b10)]) (rest := [(.ref b14)]) (lenOf pd_4 rfl) rfl (by show 2 * 0 + _ ≤ _; exact Nat.le_of_eq rfl) (hb hby d4_33) (fun _ _ => ⟨rfl, e14, (by decide : 2 + 1 ≤ _), (by decide : 5 + 1 ≤ _)⟩)
    dsimp only [Pt.U, Pt.locs, Pt.cells, Pt.slots] at X16 l16 y16 z16 st16 hQ16
    subst l16 y16 z16
    obtain ⟨c16_0, kc16_1, rfl, N16q, K16, r16_0, r16_1, r16_2, r16_3⟩ := hQ16
    have N16 := Fr.app N12 N16q
    refine OwnFin.tr st16 ?_
    obtain ⟨h16, e16⟩ : ∃ z, T16.heap = z := ⟨_, rfl⟩
    rw [e16] at K16 r16_1 r16_2 r16_3
    have bi_c16_0 : h14.size ≤ c16_0 := r16_0
    have lo_c16_0 : h0.size ≤ c16_0 := Nat.le_trans kp15.1 bi_c16_0
    have g_c16_0 : n0 ≤ c16_0 := Nat.le_trans Z0 lo_c16_0
    have ch17 := ch15.trans (CHr.keep K16 (sfS (own_safe (hZ).alike A14 F_value_b14) sf0) ch15.1)
    have kp17 : Keep h0 h16 [] := kp15.trans K16 (allS (Or.inr lo_b14) all0)
    have ol17 : Old Z n0 h16 := ol15.keep K16 (allS g_b14 all0)
    show OwnFin _ _ _ _ (T16.setTop (mkF m 36 _ [(.ref b14)]))
    obtain ⟨fs, hr, hrun, hended, hEW⟩ := X16.leaveW (s := s) hS0 (by rw [e16]; exact (Nat.le_trans hk0 (Nat.le_trans (Nat.le_trans (Nat.le_trans E10.1 (Nat.le_of_eq W12.size.symm)) E14.1) K16.1))) (v := some (.ref b14)) (fun h => by rw [Bd.returns] at h; cases h)
    have chE : CHr Z own_EL s.vm s.heap T16.vm T16.heap := by
      rw [hh, e16]
      exact ch17.trans (CHv.at X16 hZ (own_EW hw) ch17.1)
    refine ⟨_, _, retOut X16 hx Bd.returns rfl (Or.inr (Or.inr (Or.inr (Or.inr ⟨rfl, rfl, rfl⟩)))) (hb hby d4_36) hr, hrun, hended, _, _, rfl, ?_, chE, hEW.1, hEW.2.1, hEW.2.2.1, hEW.2.2.2.mono (by decide) (by decide)⟩
    show Q_rm_text Z p0 p1 p2 w_COMPACT_STRINGS h0 n0 _ T16.heap _
    rw [e16]
    have vb18 := own_by1 (c := p1) (d := p2) hc9 r16_1
    exact ⟨b14, c16_0, kc16_1, rfl, N16, kp17, lo_b14, (A14.keep K16), r16_2, r16_3, vb18⟩
   ·
    refine OwnFin.st (fun _ q => XS.icmpYes X0.here hx rfl (pc0 := 17) (pc' := 37) rfl (hb hby d4_17) rfl (Jvm.Free.XT.ii_ne_t hc9) (by decide) (by decide) q) ?_
    show OwnFin _ _ _ _ (s₁.setTop (mkF m 37 _ []))
    refine OwnFin.st (fun _ q => XS.iconst X0.here hx rfl (hb hby d4_37) q) ?_
    show OwnFin _ _ _ _ (s₁.setTop (mkF m 38 _ [(.int 2)]))
    obtain ⟨T19, h19, k19, X19, e19, E19, A19, st19⟩ := newP X0 hx hZ (w_ hw 16 rfl) e0 (g := (mkF m 38 #[.val (.int p0), .val (.int p1), .val (.int p2), .unset] [(.int 2)])) rfl (hb hby d4_38) rfl (by decide) (cap := 2) (by decide) (by decide) (by decide) (by decide)
    obtain ⟨b19, qe19⟩ : ∃ z, z = h0.size := ⟨_, rfl⟩
    rw [← qe19] at A19 st19
    refine OwnFin.st st19 ?_
    have bi_b19 : h0.size ≤ b19 := Nat.le_of_eq qe19.symm
    have lo_b19 : h0.size ≤ b19 := Nat.le_trans kp0.1 bi_b19
    have g_b19 : n0 ≤ b19 := Nat.le_trans Z0 lo_b19
    have ch20 := ch0.trans (CHr.ext E19 ch0.1)
    have kp20 : Keep h0 h19 [] := kp0.ext E19
    have ol20 : Old Z n0 h19 := Ol0.ext E19
    have V19 : Arv Z h19 b19 k19 .char (2 : Int32) [(.int 0), (.int 0)] (.int 0) := (Arv.new A19 (by decide)).pad (pad_rep [] (.int 0) 2)
    show OwnFin _ _ _ _ (T19.setTop (mkF m 40 _ [(.ref b19)]))
    refine OwnFin.st (fun _ q => XS.astoreN X19.here hx rfl (hb hby d4_40) rfl rfl (l' := #[.val (.int p0), .val (.int p1), .val (.int p2), .val (.ref b19)]) rfl q) ?_
    show OwnFin _ _ _ _ (T19.setTop (mkF m 41 _ []))
    refine OwnFin.st (fun _ q => XS.aloadN X19.here hx rfl (hb hby d4_41) rfl rfl q) ?_
    show OwnFin _ _ _ _ (T19.setTop (mkF m 42 _ [(.ref b19)]))
    refine OwnFin.st (fun _ q => XS.iconst X19.here hx rfl (hb hby d4_42) q) ?_
    show OwnFin _ _ _ _ (T19.setTop (mkF m 43 _ [(.int 0), (.ref b19)]))
    refine OwnFin.st (fun _ q => XS.iloadN X19.here hx rfl (hb hby d4_43) rfl q) ?_
    show OwnFin _ _ _ _ (T19.setTop (mkF m 44 _ [(.int p1), (.int 0), (.ref b19)]))
    have Vo21 : Arv Z h19 b19 k19 .char (2 : Int32) [(.int 0), (.int 0)] (.int 0) := V19
    obtain ⟨cl21, Ar21, qa21, Sa21, Na21, Ha21, Ga21⟩ := id Vo21
    obtain ⟨T21, h21, X21, e21, W21, st21⟩ := stC X19 hx hZ e19 Ar21 (j := (0 : Int32)) (inb_of Sa21 ⟨by decide, by decide⟩) (g := (mkF m 44 #[.val (.int p0), .val (.int p1), .val (.int p2), .val (.ref b19)] [(.int p1), (.int 0), (.ref b19)])) rfl rfl (hb hby d4_44)
    refine OwnFin.st st21 ?_
    have V21 : Arv Z h21 b19 k19 .char (2 : Int32) [(.int p1), (.int 0)] (.int 0) := by
      have z := Arv.set Ar21 qa21 Sa21 Na21 Ha21 Ga21 (fits_nar_char _) W21 0 rfl (Nat.le_of_ble_eq_true rfl)
      rw [hn1] at z
      exact z
    have N21 := Fr.snoc X21 N0 g_b19
    have ch22 := ch20.trans (CHr.wr W21 (Safe.arv (hZ).alike V19 (by decide)) ch20.1)
    have kp22 : Keep h0 h21 [] := kp20.wr W21 (Or.inr lo_b19)
    have ol22 : Old Z n0 h21 := ol20.wr W21 g_b19
    show OwnFin _ _ _ _ (T21.setTop (mkF m 45 _ []))
    refine OwnFin.st (fun _ q => XS.aloadN X21.here hx rfl (hb hby d4_45) rfl rfl q) ?_
    show OwnFin _ _ _ _ (T21.setTop (mkF m 46 #[.val (.int p0), .val (.int p1), .val (.int p2), .val (.ref b19)] [(.ref b19)]))
    refine OwnFin.st (fun _ q => XS.iconst X21.here hx rfl (hb hby d4_46) q) ?_
    show OwnFin _ _ _ _ (T21.setTop (mkF m 47 _ [(.int 1), (.ref b19)]))
    refine OwnFin.st (fun _ q => XS.iloadN X21.here hx rfl (hb hby d4_47) rfl q) ?_
    show OwnFin _ _ _ _ (T21.setTop (mkF m 48 _ [(.int p2), (.int 1), (.ref b19)]))
    have Vo23 : Arv Z h21 b19 k19 .char (2 : Int32) [(.int p1), (.int 0)] (.int 0) := V21
    obtain ⟨cl23, Ar23, qa23, Sa23, Na23, Ha23, Ga23⟩ := id Vo23
    obtain ⟨T23, h23, X23, e23, W23, st23⟩ := stC X21 hx hZ e21 Ar23 (j := (1 : Int32)) (inb_of Sa23 ⟨by decide, by decide⟩) (g := (mkF m 48 #[.val (.int p0), .val (.int p1), .val (.int p2), .val (.ref b19)] [(.int p2), (.int 1), (.ref b19)])) rfl rfl (hb hby d4_48)
    refine OwnFin.st st23 ?_
    have V23 : Arv Z h23 b19 k19 .char (2 : Int32) [(.int p1), (.int p2)] (.int 0) := by
      have z := Arv.set Ar23 qa23 Sa23 Na23 Ha23 Ga23 (fits_nar_char _) W23 1 rfl (Nat.le_of_ble_eq_true rfl)
      rw [hn2] at z
      exact z
    have N23 := Fr.snoc X23 N21 g_b19
    have ch24 := ch22.trans (CHr.wr W23 (Safe.arv (hZ).alike V21 (by decide)) ch22.1)
    have kp24 : Keep h0 h23 [] := kp22.wr W23 (Or.inr lo_b19)
    have ol24 : Old Z n0 h23 := ol22.wr W23 g_b19
    show OwnFin _ _ _ _ (T23.setTop (mkF m 49 _ []))
    obtain ⟨T25, h25, X25, e25, E25, A25, D25, -, st25⟩ := newO X23 hx hZ hown (w_ hw 13 rfl) (w_ hw 14 rfl) (w_ hw 15 rfl) e23 (g := (mkF m 49 #[.val (.int p0), .val (.int p1), .val (.int p2), .val (.ref b19)] [])) rfl (hb hby d4_49) (by decide) (by decide)
    obtain ⟨b25, qe25⟩ : ∃ z, z = h23.size := ⟨_, rfl⟩
    rw [← qe25] at A25 D25 st25
    refine OwnFin.st st25 ?_
    have bi_b25 : h23.size ≤ b25 := Nat.le_of_eq qe25.symm
    have lo_b25 : h0.size ≤ b25 := Nat.le_trans kp24.1 bi_b25
    have g_b25 : n0 ≤ b25 := Nat.le_trans Z0 lo_b25
    have ch26 := ch24.trans (CHr.ext E25 ch24.1)
    have kp26 : Keep h0 h25 [] := kp24.ext E25
    have ol26 : Old Z n0 h25 := ol24.ext E25
    have F_value_b25 : Fld Z h25 b25 "java/lang/String" "value" "[B" .null := D25 (Or.inr (w_ hw 29 rfl)) (ty := (.array .byte)) (by decide)
    have F_coder_b25 : Fld Z h25 b25 "java/lang/String" "coder" "B" (.int 0) := D25 (Or.inr (w_ hw 30 rfl)) (ty := .byte) (by decide)
    show OwnFin _ _ _ _ (T25.setTop (mkF m 52 _ [(.ref b25)]))
    refine OwnFin.st (fun _ q => XS.dup X25.here hx rfl (hb hby d4_52) rfl rfl q) ?_
    show OwnFin _ _ _ _ (T25.setTop (mkF m 53 _ [(.ref b25), (.ref b25)]))
    refine OwnFin.st (fun _ q => XS.aloadN X25.here hx rfl (hb hby d4_53) rfl rfl q) ?_
    show OwnFin _ _ _ _ (T25.setTop (mkF m 54 _ [(.ref b19), (.ref b25), (.ref b25)]))
    obtain ⟨_, _, ⟨T27, L27, k27, n27⟩, -, X27, ⟨Lc27, hQ27, l27, y27, z27⟩, st27⟩ := X25.specialBack hx (y := yM1) rfl hown (mvT hZ (w_ hw 17 rfl)) (mvT hZ (w_ hw 18 rfl)) (mvT hZ (w_ hw 19 rfl)) (by decide) (backOf (W := 1) (rm_si_2 l Z av0 hw [] b25 b19 k19 p1 p2 w_COMPACT_STRINGS (.int 0) .null h25 n0 (Nat.le_trans Z0 kp26.1) ol26 (V23.ext E25) S_COMPACT_STRINGS hcs hb1 hb2 A25 F_coder_b25 g_b25 F_value_b25) hZ (w_ hw 19 rfl) (w_ hw 15 rfl) (by decide) (by decide)) (g := (mkF m 54 #[.val (.int p0), .val (.int p1), .val (.int p2), .val (.ref b19)] [(.ref b19), (.ref b25), (.ref b25)])) rfl (by rw [hml]; rfl) (Steps.refl _) (a := b25) (argsL := [(.ref b19)]) (rest := [(.ref b25)]) (lenOf pd_4 rfl) rfl (by show 2 * 0 + _ ≤ _; exact Nat.le_of_eq rfl) (hb hby d4_54) (fun _ _ => ⟨rfl, e25, (by decide : 2 + 1 ≤ _), (by decide : 6 + 2 ≤ _)⟩)
    dsimp only [Pt.U, Pt.locs, Pt.cells, Pt.slots] at X27 l27 y27 z27 st27 hQ27
    subst l27 y27 z27
    obtain ⟨c27_0, kc27_1, rfl, N27q, K27, r27_0, r27_1, r27_2, r27_3⟩ := hQ27
    have N27 := Fr.app N23 N27q
    refine OwnFin.tr st27 ?_
    obtain ⟨h27, e27⟩ : ∃ z, T27.heap = z := ⟨_, rfl⟩
    rw [e27] at K27 r27_1 r27_2 r27_3
    have bi_c27_0 : h25.size ≤ c27_0 := r27_0
    have lo_c27_0 : h0.size ≤ c27_0 := Nat.le_trans kp26.1 bi_c27_0
    have g_c27_0 : n0 ≤ c27_0 := Nat.le_trans Z0 lo_c27_0
    have ch28 := ch26.trans (CHr.keep K27 (sfS (own_safe (hZ).alike A25 F_value_b25) sf0) ch26.1)
    have kp28 : Keep h0 h27 [] := kp26.trans K27 (allS (Or.inr lo_b25) all0)
    have ol28 : Old Z n0 h27 := ol26.keep K27 (allS g_b25 all0)
    show OwnFin _ _ _ _ (T27.setTop (mkF m 57 _ [(.ref b25)]))
    obtain ⟨fs, hr, hrun, hended, hEW⟩ := X27.leaveW (s := s) hS0 (by rw [e27]; exact (Nat.le_trans hk0 (Nat.le_trans (Nat.le_trans (Nat.le_trans (Nat.le_trans E19.1 (Nat.le_of_eq W21.size.symm)) (Nat.le_of_eq W23.size.symm)) E25.1) K27.1))) (v := some (.ref b25)) (fun h => by rw [Bd.returns] at h; cases h)
    have chE : CHr Z own_EL s.vm s.heap T27.vm T27.heap := by
      rw [hh, e27]
      exact ch28.trans (CHv.at X27 hZ (own_EW hw) ch28.1)
    refine ⟨_, _, retOut X27 hx Bd.returns rfl (Or.inr (Or.inr (Or.inr (Or.inr ⟨rfl, rfl, rfl⟩)))) (hb hby d4_57) hr, hrun, hended, _, _, rfl, ?_, chE, hEW.1, hEW.2.1, hEW.2.2.1, hEW.2.2.2.mono (by decide) (by decide)⟩
    show Q_rm_text Z p0 p1 p2 w_COMPACT_STRINGS h0 n0 _ T27.heap _
    rw [e27]
    have vb29 := own_by2 (c := p1) (d := p2) (om_rm_text_0 p0 hlo hhi hc1 hc9) r27_1
    exact ⟨b25, c27_0, kc27_1, rfl, N27, kp28, lo_b25, (A25.keep K27), r27_2, r27_3, vb29⟩
theorem ef_rm_textW (m : MethodId) (p0 : Int32) (p1 : Int32) (p2 : Int32) : entryFrame m #[(.int p0), (.int p1), (.int p2)] 4 = mkF m 0 #[.val (.int p0), .val (.int p1), .val (.int p2), .unset] [] := by first | (simp [entryFrame, mkF, argsToLocals, Value.category]; done) | rfl
def Q_rm_textW (Z : State) (p0 : Int32) (p1 : Int32) (p2 : Int32) (w_COMPACT_STRINGS : Int32) (h0 : Heap) (n0 : Nat) (v : Option Value) (h : Heap) (L : List Loc) : Prop := ∃ (xT : Addr) (bT : Addr) (kT : ClassId) (zT : Int32) (vT : List Value), v = some (.ref xT) ∧ Fr n0 L ∧ Keep h0 h [] ∧ h0.size ≤ xT ∧ Exa Z h xT "java/lang/String" ∧ Fld Z h xT "java/lang/String" "value" "[B" (.ref bT) ∧ Arv Z h bT kT .byte zT vT (.int 0)
set_option maxRecDepth 65536 in
set_option maxHeartbeats 40000000 in
theorem rm_textW (l : Launch) (Z : State) (av0 : Array Value) (hw : ∀ d ∈ tables_1, d.before av0 Z = true) (ws : List Jvm.Cond) (p0 : Int32) (p1 : Int32) (p2 : Int32) (w_COMPACT_STRINGS : Int32) (h0 : Heap) (n0 : Nat) (Z0 : n0 ≤ h0.size) (Ol0 : Old Z n0 h0) (hn1 : nar .char p1 = p1) (hn2 : nar .char p2 = p2) (hb1 : ¬ ((255 : Int32) < p1)) (hb2 : ¬ ((255 : Int32) < p2)) (hcs : ¬ (w_COMPACT_STRINGS = (0 : Int32))) (S_COMPACT_STRINGS : Sta Z Z.heap "java/lang/String" "COMPACT_STRINGS" "Z" (.int w_COMPACT_STRINGS)) :
    MetFree l yM8 (head1 (Jvm.Cond.code yM8 method_2_code 4 (some (.object "java/lang/String")) :: ws) ({ frames := 4, cells := 6, slots := 12, locals := 66 } : Room)) (fun a U => a = #[(.int p0), (.int p1), (.int p2)] ∧ Z.Warmed39 U.vm ∧ U.heap = h0 ∧ CHv Z own_EL U.vm h0) (fun _ _ _ _ _ => True) (fun _ U o U' => ∃ v L, o = .returned v ∧ Q_rm_textW Z p0 p1 p2 w_COMPACT_STRINGS h0 n0 v U'.heap L ∧ CHr Z own_EL U.vm U.heap U'.vm U'.heap ∧ ReturnedEndW U o U' L ({ frames := 4, cells := 6, slots := 12, locals := 66 } : Room).cells ({ frames := 4, cells := 6, slots := 12, locals := 66 } : Room).slots) := by
  refine MetFree.of_bodySF (plainFor_of_name pn_2) hisR ?_
  intro p e s m args below meth c s₁ Bd hml0 hP hK
  obtain ⟨rfl, hZ, hh, hCH⟩ := hP
  have hx := Bd.exec
  have hby := Bd.bytes
  have hml : c.maxLocals = 4 := hml0
  have hown : (s.setVm s.vm).vm.findClass "com/example/neat_order/neatorder/model/LifecycleFailureEqualsPinLaw" = some m.cls := findClass_of_methodNamed Bd.named
  have hnm := (name_of_methodNamed Bd.named Bd.method).1
  have X0 : Stand p l e ({ frames := 4, cells := 6, slots := 12, locals := 66 } : Room) (s.setVm s.vm) m #[(.int p0), (.int p1), (.int p2)] below meth c s₁ [] 0 0 := Stand.of_body Bd
  have e0 : s₁.heap = h0 := by rw [← hh, Bd.state]; rfl
  have N0 := Fr.nil n0
  have hZ : Z.Warmed39 (s.setVm s.vm).vm := hZ
  have hS0 : s.Since s.vm s.heap.size := (State.WarmedH.refl s).since _
  have hk0 : s.heap.size ≤ h0.size := Nat.le_of_eq (by rw [hh])
  have ch0 : CHr Z own_EL s.vm h0 s.vm h0 := CHr.refl hCH
  have pre0 : ∀ t, Steps p.tables e below (s₁.setTop (mkF m 0 #[.val (.int p0), .val (.int p1), .val (.int p2), .unset] [])) t → Steps p.tables e below (s₁.setTop (entryFrame m #[(.int p0), (.int p1), (.int p2)] 4)) t := fun t k => castTop (ef_rm_textW m p0 p1 p2) k
  change OwnFin p.tables e below _ (s₁.setTop (entryFrame m #[(.int p0), (.int p1), (.int p2)] 4))
  have kp0 : Keep h0 h0 [] := Keep.refl _ _
  refine OwnFin.st (fun _ q => pre0 _ q) ?_
  show OwnFin _ _ _ _ (s₁.setTop (mkF m 0 #[.val (.int p0), .val (.int p1), .val (.int p2), .unset] []))
  refine OwnFin.st (fun _ q => XS.iloadN X0.here hx rfl (hb hby d4_0) rfl q) ?_
  show OwnFin _ _ _ _ (s₁.setTop (mkF m 1 _ [(.int p0)]))
  by_cases hc1 : p0 = (0 : Int32)
  ·
   refine OwnFin.st (fun _ q => XS.ifNo X0.here hx rfl (hb hby d4_1) rfl (Jvm.Free.XT.i0_ne_f hc1) q) ?_
   show OwnFin _ _ _ _ (s₁.setTop (mkF m 4 _ []))
   obtain ⟨T2, h2, X2, e2, E2, A2, D2, -, st2⟩ := newO X0 hx hZ hown (w_ hw 13 rfl) (w_ hw 14 rfl) (w_ hw 15 rfl) e0 (g := (mkF m 4 #[.val (.int p0), .val (.int p1), .val (.int p2), .unset] [])) rfl (hb hby d4_4) (by decide) (by decide)
   obtain ⟨b2, qe2⟩ : ∃ z, z = h0.size := ⟨_, rfl⟩
   rw [← qe2] at A2 D2 st2
   refine OwnFin.st st2 ?_
   have bi_b2 : h0.size ≤ b2 := Nat.le_of_eq qe2.symm
   have lo_b2 : h0.size ≤ b2 := Nat.le_trans kp0.1 bi_b2
   have g_b2 : n0 ≤ b2 := Nat.le_trans Z0 lo_b2
   have ch3 := ch0.trans (CHr.ext E2 ch0.1)
   have kp3 : Keep h0 h2 [] := kp0.ext E2
   have ol3 : Old Z n0 h2 := Ol0.ext E2
   have F_value_b2 : Fld Z h2 b2 "java/lang/String" "value" "[B" .null := D2 (Or.inr (w_ hw 29 rfl)) (ty := (.array .byte)) (by decide)
   have F_coder_b2 : Fld Z h2 b2 "java/lang/String" "coder" "B" (.int 0) := D2 (Or.inr (w_ hw 30 rfl)) (ty := .byte) (by decide)
   show OwnFin _ _ _ _ (T2.setTop (mkF m 7 _ [(.ref b2)]))
   refine OwnFin.st (fun _ q => XS.dup X2.here hx rfl (hb hby d4_7) rfl rfl q) ?_
   show OwnFin _ _ _ _ (T2.setTop (mkF m 8 _ [(.ref b2), (.ref b2)]))
   refine OwnFin.st (fun _ q => XS.iconst X2.here hx rfl (hb hby d4_8) q) ?_
   show OwnFin _ _ _ _ (T2.setTop (mkF m 9 _ [(.int 0), (.ref b2), (.ref b2)]))
   obtain ⟨T4, h4, k4, X4, e4, E4, A4, st4⟩ := newP X2 hx hZ (w_ hw 16 rfl) e2 (g := (mkF m 9 #[.val (.int p0), .val (.int p1), .val (.int p2), .unset] [(.int 0), (.ref b2), (.ref b2)])) rfl (hb hby d4_9) rfl (by decide) (cap := 0) (by decide) (by decide) (by decide) (by decide)
   obtain ⟨b4, qe4⟩ : ∃ z, z = h2.size := ⟨_, rfl⟩
   rw [← qe4] at A4 st4
   refine OwnFin.st st4 ?_
   have bi_b4 : h2.size ≤ b4 := Nat.le_of_eq qe4.symm
   have lo_b4 : h0.size ≤ b4 := Nat.le_trans kp3.1 bi_b4
   have g_b4 : n0 ≤ b4 := Nat.le_trans Z0 lo_b4
   have ch5 := ch3.trans (CHr.ext E4 ch3.1)
   have kp5 : Keep h0 h4 [] := kp3.ext E4
   have ol5 : Old Z n0 h4 := ol3.ext E4
   have V4 : Arv Z h4 b4 k4 .char (0 : Int32) [] (.int 0) := Arv.new A4 (by decide)
   show OwnFin _ _ _ _ (T4.setTop (mkF m 11 _ [(.ref b4), (.ref b2), (.ref b2)]))
   obtain ⟨_, _, ⟨T6, L6, k6, n6⟩, -, X6, hS6, hg6, ⟨Lc6, hQ6, l6, y6, z6, hC6⟩, st6⟩ := X4.specialBackS hx (y := yM1) rfl hown (mvT hZ (w_ hw 17 rfl)) (mvT hZ (w_ hw 18 rfl)) (mvT hZ (w_ hw 19 rfl)) (by decide) (backOfSH (W := 1) (rm_si_0 l Z av0 hw [] b2 b4 k4 h4 n0 (Nat.le_trans Z0 kp5.1) (A2.ext E4) (F_value_b2.ext E4) (F_coder_b2.ext E4) V4 g_b2) hZ (w_ hw 19 rfl) (w_ hw 15 rfl) (by decide) (by decide) (own_EW hw) ch5.1) (g := (mkF m 11 #[.val (.int p0), .val (.int p1), .val (.int p2), .unset] [(.ref b4), (.ref b2), (.ref b2)])) rfl (by rw [hml]; rfl) (Steps.refl _) (a := b2) (argsL := [(.ref b4)]) (rest := [(.ref b2)]) (lenOf pd_4 rfl) rfl (by show 2 * 0 + _ ≤ _; exact Nat.le_of_eq rfl) (hb hby d4_11) (fun _ _ => ⟨rfl, e4, (by decide : 2 + 4 ≤ _), (by decide : 4 + 8 ≤ _)⟩)
   dsimp only [Pt.U, Pt.locs, Pt.cells, Pt.slots] at X6 l6 y6 z6 st6 hQ6 hS6 hg6 hC6
   subst l6 y6 z6
   obtain ⟨c6_0, kc6_1, rfl, N6q, K6, r6_0, r6_1, r6_2⟩ := hQ6
   have N6 := Fr.app N0 N6q
   refine OwnFin.tr st6 ?_
   rw [e4] at hg6
   obtain ⟨h6, e6⟩ : ∃ z, T6.heap = z := ⟨_, rfl⟩
   rw [e6] at K6 r6_0 r6_1 r6_2 hg6 hS6 hC6
   have ch7 := ch5.trans (hC6)
   have kp7 : Keep h0 h6 [] := kp5.trans K6 (allS (Or.inr lo_b2) all0)
   have ol7 : Old Z n0 h6 := ol5.keep K6 (allS g_b2 all0)
   obtain ⟨Xr6, hSr6, hZr6, hor6⟩ := rebS hS0 (Nat.le_trans hk0 (Nat.le_trans E2.1 E4.1)) X6 hS6 hg6 hZ hown
   show OwnFin _ _ _ _ (T6.setTop (mkF m 14 _ [(.ref b2)]))
   obtain ⟨fs, hr, hrun, hended, hEW⟩ := Xr6.leaveW (s := s) hSr6 (by rw [e6]; exact (Nat.le_trans (Nat.le_refl _) (Nat.le_refl _))) (v := some (.ref b2)) (fun h => by rw [Bd.returns] at h; cases h)
   have chE : CHr Z own_EL s.vm s.heap T6.vm T6.heap := by
     rw [hh, e6]
     exact ch7.trans (CHv.at Xr6 hZr6 (own_EW hw) ch7.1)
   refine ⟨_, _, retOut Xr6 hx Bd.returns rfl (Or.inr (Or.inr (Or.inr (Or.inr ⟨rfl, rfl, rfl⟩)))) (hb hby d4_14) hr, hrun, hended, _, _, rfl, ?_, chE, hEW.1, hEW.2.1, hEW.2.2.1, hEW.2.2.2.mono (by decide) (by decide)⟩
   show Q_rm_textW Z p0 p1 p2 w_COMPACT_STRINGS h0 n0 _ T6.heap _
   rw [e6]
   exact ⟨b2, c6_0, kc6_1, (0 : Int32), [], rfl, N6, kp7, lo_b2, ((A2.ext E4).keep K6), r6_1, r6_2⟩
  ·
   refine OwnFin.st (fun _ q => XS.ifYes X0.here hx rfl (pc0 := 1) (pc' := 15) rfl (hb hby d4_1) rfl (Jvm.Free.XT.i0_ne_t hc1) (by decide) (by decide) q) ?_
   show OwnFin _ _ _ _ (s₁.setTop (mkF m 15 _ []))
   refine OwnFin.st (fun _ q => XS.iloadN X0.here hx rfl (hb hby d4_15) rfl q) ?_
   show OwnFin _ _ _ _ (s₁.setTop (mkF m 16 _ [(.int p0)]))
   refine OwnFin.st (fun _ q => XS.iconst X0.here hx rfl (hb hby d4_16) q) ?_
   show OwnFin _ _ _ _ (s₁.setTop (mkF m 17 _ [(.int 1), (.int p0)]))
   by_cases hc8 : p0 = (1 : Int32)
   ·
    refine OwnFin.st (fun _ q => XS.icmpNo X0.here hx rfl (hb hby d4_17) rfl (Jvm.Free.XT.ii_ne_f hc8) q) ?_
    show OwnFin _ _ _ _ (s₁.setTop (mkF m 20 _ []))
    refine OwnFin.st (fun _ q => XS.iconst X0.here hx rfl (hb hby d4_20) q) ?_
    show OwnFin _ _ _ _ (s₁.setTop (mkF m 21 _ [(.int 1)]))
    obtain ⟨T9, h9, k9, X9, e9, E9, A9, st9⟩ := newP X0 hx hZ (w_ hw 16 rfl) e0 (g := (mkF m 21 #[.val (.int p0), .val (.int p1), .val (.int p2), .unset] [(.int 1)])) rfl (hb hby d4_21) rfl (by decide) (cap := 1) (by decide) (by decide) (by decide) (by decide)
    obtain ⟨b9, qe9⟩ : ∃ z, z = h0.size := ⟨_, rfl⟩
    rw [← qe9] at A9 st9
    refine OwnFin.st st9 ?_
    have bi_b9 : h0.size ≤ b9 := Nat.le_of_eq qe9.symm
    have lo_b9 : h0.size ≤ b9 := Nat.le_trans kp0.1 bi_b9
    have g_b9 : n0 ≤ b9 := Nat.le_trans Z0 lo_b9
    have ch10 := ch0.trans (CHr.ext E9 ch0.1)
    have kp10 : Keep h0 h9 [] := kp0.ext E9
    have ol10 : Old Z n0 h9 := Ol0.ext E9
    have V9 : Arv Z h9 b9 k9 .char (1 : Int32) [(.int 0)] (.int 0) := (Arv.new A9 (by decide)).pad (pad_rep [] (.int 0) 1)
    show OwnFin _ _ _ _ (T9.setTop (mkF m 23 _ [(.ref b9)]))
    refine OwnFin.st (fun _ q => XS.astoreN X9.here hx rfl (hb hby d4_23) rfl rfl (l' := #[.val (.int p0), .val (.int p1), .val (.int p2), .val (.ref b9)]) rfl q) ?_
    show OwnFin _ _ _ _ (T9.setTop (mkF m 24 _ []))
    refine OwnFin.st (fun _ q => XS.aloadN X9.here hx rfl (hb hby d4_24) rfl rfl q) ?_
    show OwnFin _ _ _ _ (T9.setTop (mkF m 25 _ [(.ref b9)]))
    refine OwnFin.st (fun _ q => XS.iconst X9.here hx rfl (hb hby d4_25) q) ?_
    show OwnFin _ _ _ _ (T9.setTop (mkF m 26 _ [(.int 0), (.ref b9)]))
    refine OwnFin.st (fun _ q => XS.iloadN X9.here hx rfl (hb hby d4_26) rfl q) ?_
    show OwnFin _ _ _ _ (T9.setTop (mkF m 27 _ [(.int p1), (.int 0), (.ref b9)]))
    have Vo11 : Arv Z h9 b9 k9 .char (1 : Int32) [(.int 0)] (.int 0) := V9
    obtain ⟨cl11, Ar11, qa11, Sa11, Na11, Ha11, Ga11⟩ := id Vo11
    obtain ⟨T11, h11, X11, e11, W11, st11⟩ := stC X9 hx hZ e9 Ar11 (j := (0 : Int32)) (inb_of Sa11 ⟨by decide, by decide⟩) (g := (mkF m 27 #[.val (.int p0), .val (.int p1), .val (.int p2), .val (.ref b9)] [(.int p1), (.int 0), (.ref b9)])) rfl rfl (hb hby d4_27)
    refine OwnFin.st st11 ?_
    have V11 : Arv Z h11 b9 k9 .char (1 : Int32) [(.int p1)] (.int 0) := by
      have z := Arv.set Ar11 qa11 Sa11 Na11 Ha11 Ga11 (fits_nar_char _) W11 0 rfl (Nat.le_of_ble_eq_true rfl)
      rw [hn1] at z
      exact z
    have N11 := Fr.snoc X11 N0 g_b9
    have ch12 := ch10.trans (CHr.wr W11 (Safe.arv (hZ).alike V9 (by decide)) ch10.1)
    have kp12 : Keep h0 h11 [] := kp10.wr W11 (Or.inr lo_b9)
    have ol12 : Old Z n0 h11 := ol10.wr W11 g_b9
    show OwnFin _ _ _ _ (T11.setTop (mkF m 28 _ []))
    obtain ⟨T13, h13, X13, e13, E13, A13, D13, -, st13⟩ := newO X11 hx hZ hown (w_ hw 13 rfl) (w_ hw 14 rfl) (w_ hw 15 rfl) e11 (g := (mkF m 28 #[.val (.int p0), .val (.int p1), .val (.int p2), .val (.ref b9)] [])) rfl (hb hby d4_28) (by decide) (by decide)
    obtain ⟨b13, qe13⟩ : ∃ z, z = h11.size := ⟨_, rfl⟩
    rw [← qe13] at A13 D13 st13
    refine OwnFin.st st13 ?_
    have bi_b13 : h11.size ≤ b13 := Nat.le_of_eq qe13.symm
    have lo_b13 : h0.size ≤ b13 := Nat.le_trans kp12.1 bi_b13
    have g_b13 : n0 ≤ b13 := Nat.le_trans Z0 lo_b13
    have ch14 := ch12.trans (CHr.ext E13 ch12.1)
    have kp14 : Keep h0 h13 [] := kp12.ext E13
    have ol14 : Old Z n0 h13 := ol12.ext E13
    have F_value_b13 : Fld Z h13 b13 "java/lang/String" "value" "[B" .null := D13 (Or.inr (w_ hw 29 rfl)) (ty := (.array .byte)) (by decide)
    have F_coder_b13 : Fld Z h13 b13 "java/lang/String" "coder" "B" (.int 0) := D13 (Or.inr (w_ hw 30 rfl)) (ty := .byte) (by decide)
    show OwnFin _ _ _ _ (T13.setTop (mkF m 31 #[.val (.int p0), .val (.int p1), .val (.int p2), .val (.ref b9)] [(.ref b13)]))
    refine OwnFin.st (fun _ q => XS.dup X13.here hx rfl (hb hby d4_31) rfl rfl q) ?_
    show OwnFin _ _ _ _ (T13.setTop (mkF m 32 _ [(.ref b13), (.ref b13)]))
    refine OwnFin.st (fun _ q => XS.aloadN X13.here hx rfl (hb hby d4_32) rfl rfl q) ?_
    show OwnFin _ _ _ _ (T13.setTop (mkF m 33 _ [(.ref b9), (.ref b13), (.ref b13)]))
    obtain ⟨_, _, ⟨T15, L15, k15, n15⟩, -, X15, ⟨Lc15, hQ15, l15, y15, z15⟩, st15⟩ := X13.specialBack hx (y := yM1) rfl hown (mvT hZ (w_ hw 17 rfl)) (mvT hZ (w_ hw 18 rfl)) (mvT hZ (w_ hw 19 rfl)) (by decide) (backOf (W := 1) (rm_si_1 l Z av0 hw [] b13 b9 k9 p1 w_COMPACT_STRINGS (.int 0) .null h13 n0 (Nat.le_trans Z0 kp14.1) ol14 (V11.ext E13) S_COMPACT_STRINGS hcs hb1 A13 F_coder_b13 g_b13 F_value_b13) hZ (w_ hw 19 rfl) (w_ hw 15 rfl) (by decide) (by decide)) (g := (mkF m 33 #[.val (.int p0), .val (.int p1), .val (.int p2), .val (.ref b9)] [(.ref b9), (.ref b13), (.ref b13)])) rfl (by rw [hml]; rfl) (Steps.refl _) (a := b13) (argsL := [(.ref b9)]) (rest := [(.ref b13)]) (lenOf pd_4 rfl) rfl (by show 2 * 0 + _ ≤ _; exact Nat.le_of_eq rfl) (hb hby d4_33) (fun _ _ => ⟨rfl, e13, (by decide : 2 + 1 ≤ _), (by decide : 5 + 1 ≤ _)⟩)
    dsimp only [Pt.U, Pt.locs, Pt.cells, Pt.slots] at X15 l15 y15 z15 st15 hQ15
    subst l15 y15 z15
    obtain ⟨c15_0, kc15_1, rfl, N15q, K15, r15_0, r15_1, r15_2, r15_3⟩ := hQ15
    have N15 := Fr.app N11 N15q
    refine OwnFin.tr st15 ?_
    obtain ⟨h15, e15⟩ : ∃ z, T15.heap = z := ⟨_, rfl⟩
    rw [e15] at K15 r15_1 r15_2 r15_3
    have bi_c15_0 : h13.size ≤ c15_0 := r15_0
    have lo_c15_0 : h0.size ≤ c15_0 := Nat.le_trans kp14.1 bi_c15_0
    have g_c15_0 : n0 ≤ c15_0 := Nat.le_trans Z0 lo_c15_0
    have ch16 := ch14.trans (CHr.keep K15 (sfS (own_safe (hZ).alike A13 F_value_b13) sf0) ch14.1)
    have kp16 : Keep h0 h15 [] := kp14.trans K15 (allS (Or.inr lo_b13) all0)
    have ol16 : Old Z n0 h15 := ol14.keep K15 (allS g_b13 all0)
    show OwnFin _ _ _ _ (T15.setTop (mkF m 36 _ [(.ref b13)]))
    obtain ⟨fs, hr, hrun, hended, hEW⟩ := X15.leaveW (s := s) hS0 (by rw [e15]; exact (Nat.le_trans hk0 (Nat.le_trans (Nat.le_trans (Nat.le_trans E9.1 (Nat.le_of_eq W11.size.symm)) E13.1) K15.1))) (v := some (.ref b13)) (fun h => by rw [Bd.returns] at h; cases h)
    have chE : CHr Z own_EL s.vm s.heap T15.vm T15.heap := by
      rw [hh, e15]
      exact ch16.trans (CHv.at X15 hZ (own_EW hw) ch16.1)
    refine ⟨_, _, retOut X15 hx Bd.returns rfl (Or.inr (Or.inr (Or.inr (Or.inr ⟨rfl, rfl, rfl⟩)))) (hb hby d4_36) hr, hrun, hended, _, _, rfl, ?_, chE, hEW.1, hEW.2.1, hEW.2.2.1, hEW.2.2.2.mono (by decide) (by decide)⟩
    show Q_rm_textW Z p0 p1 p2 w_COMPACT_STRINGS h0 n0 _ T15.heap _
    rw [e15]
    exact ⟨b13, c15_0, kc15_1, (1 : Int32), [(.int (p1.toInt8.toInt32))], rfl, N15, kp16, lo_b13, (A13.keep K15), r15_3, r15_1⟩
   ·
    refine OwnFin.st (fun _ q => XS.icmpYes X0.here hx rfl (pc0 := 17) (pc' := 37) rfl (hb hby d4_17) rfl (Jvm.Free.XT.ii_ne_t hc8) (by decide) (by decide) q) ?_
    show OwnFin _ _ _ _ (s₁.setTop (mkF m 37 _ []))
    refine OwnFin.st (fun _ q => XS.iconst X0.here hx rfl (hb hby d4_37) q) ?_
    show OwnFin _ _ _ _ (s₁.setTop (mkF m 38 _ [(.int 2)]))
    obtain ⟨T17, h17, k17, X17, e17, E17, A17, st17⟩ := newP X0 hx hZ (w_ hw 16 rfl) e0 (g := (mkF m 38 #[.val (.int p0), .val (.int p1), .val (.int p2), .unset] [(.int 2)])) rfl (hb hby d4_38) rfl (by decide) (cap := 2) (by decide) (by decide) (by decide) (by decide)
    obtain ⟨b17, qe17⟩ : ∃ z, z = h0.size := ⟨_, rfl⟩
    rw [← qe17] at A17 st17
    refine OwnFin.st st17 ?_
    have bi_b17 : h0.size ≤ b17 := Nat.le_of_eq qe17.symm
    have lo_b17 : h0.size ≤ b17 := Nat.le_trans kp0.1 bi_b17
    have g_b17 : n0 ≤ b17 := Nat.le_trans Z0 lo_b17
    have ch18 := ch0.trans (CHr.ext E17 ch0.1)
    have kp18 : Keep h0 h17 [] := kp0.ext E17
    have ol18 : Old Z n0 h17 := Ol0.ext E17
    have V17 : Arv Z h17 b17 k17 .char (2 : Int32) [(.int 0), (.int 0)] (.int 0) := (Arv.new A17 (by decide)).pad (pad_rep [] (.int 0) 2)
    show OwnFin _ _ _ _ (T17.setTop (mkF m 40 _ [(.ref b17)]))
    refine OwnFin.st (fun _ q => XS.astoreN X17.here hx rfl (hb hby d4_40) rfl rfl (l' := #[.val (.int p0), .val (.int p1), .val (.int p2), .val (.ref b17)]) rfl q) ?_
    show OwnFin _ _ _ _ (T17.setTop (mkF m 41 _ []))
    refine OwnFin.st (fun _ q => XS.aloadN X17.here hx rfl (hb hby d4_41) rfl rfl q) ?_
    show OwnFin _ _ _ _ (T17.setTop (mkF m 42 _ [(.ref b17)]))
    refine OwnFin.st (fun _ q => XS.iconst X17.here hx rfl (hb hby d4_42) q) ?_
    show OwnFin _ _ _ _ (T17.setTop (mkF m 43 _ [(.int 0), (.ref b17)]))
    refine OwnFin.st (fun _ q => XS.iloadN X17.here hx rfl (hb hby d4_43) rfl q) ?_
    show OwnFin _ _ _ _ (T17.setTop (mkF m 44 _ [(.int p1), (.int 0), (.ref b17)]))
    have Vo19 : Arv Z h17 b17 k17 .char (2 : Int32) [(.int 0), (.int 0)] (.int 0) := V17
    obtain ⟨cl19, Ar19, qa19, Sa19, Na19, Ha19, Ga19⟩ := id Vo19
    obtain ⟨T19, h19, X19, e19, W19, st19⟩ := stC X17 hx hZ e17 Ar19 (j := (0 : Int32)) (inb_of Sa19 ⟨by decide, by decide⟩) (g := (mkF m 44 #[.val (.int p0), .val (.int p1), .val (.int p2), .val (.ref b17)] [(.int p1), (.int 0), (.ref b17)])) rfl rfl (hb hby d4_44)
    refine OwnFin.st st19 ?_
    have V19 : Arv Z h19 b17 k17 .char (2 : Int32) [(.int p1), (.int 0)] (.int 0) := by
      have z := Arv.set Ar19 qa19 Sa19 Na19 Ha19 Ga19 (fits_nar_char _) W19 0 rfl (Nat.le_of_ble_eq_true rfl)
      rw [hn1] at z
      exact z
    have N19 := Fr.snoc X19 N0 g_b17
    have ch20 := ch18.trans (CHr.wr W19 (Safe.arv (hZ).alike V17 (by decide)) ch18.1)
    have kp20 : Keep h0 h19 [] := kp18.wr W19 (Or.inr lo_b17)
    have ol20 : Old Z n0 h19 := ol18.wr W19 g_b17
    show OwnFin _ _ _ _ (T19.setTop (mkF m 45 _ []))
    refine OwnFin.st (fun _ q => XS.aloadN X19.here hx rfl (hb hby d4_45) rfl rfl q) ?_
    show OwnFin _ _ _ _ (T19.setTop (mkF m 46 #[.val (.int p0), .val (.int p1), .val (.int p2), .val (.ref b17)] [(.ref b17)]))
    refine OwnFin.st (fun _ q => XS.iconst X19.here hx rfl (hb hby d4_46) q) ?_
    show OwnFin _ _ _ _ (T19.setTop (mkF m 47 _ [(.int 1), (.ref b17)]))
    refine OwnFin.st (fun _ q => XS.iloadN X19.here hx rfl (hb hby d4_47) rfl q) ?_
    show OwnFin _ _ _ _ (T19.setTop (mkF m 48 _ [(.int p2), (.int 1), (.ref b17)]))
    have Vo21 : Arv Z h19 b17 k17 .char (2 : Int32) [(.int p1), (.int 0)] (.int 0) := V19
    obtain ⟨cl21, Ar21, qa21, Sa21, Na21, Ha21, Ga21⟩ := id Vo21
    obtain ⟨T21, h21, X21, e21, W21, st21⟩ := stC X19 hx hZ e19 Ar21 (j := (1 : Int32)) (inb_of Sa21 ⟨by decide, by decide⟩) (g := (mkF m 48 #[.val (.int p0), .val (.int p1), .val (.int p2), .val (.ref b17)] [(.int p2), (.int 1), (.ref b17)])) rfl rfl (hb hby d4_48)
    refine OwnFin.st st21 ?_
    have V21 : Arv Z h21 b17 k17 .char (2 : Int32) [(.int p1), (.int p2)] (.int 0) := by
      have z := Arv.set Ar21 qa21 Sa21 Na21 Ha21 Ga21 (fits_nar_char _) W21 1 rfl (Nat.le_of_ble_eq_true rfl)
      rw [hn2] at z
      exact z
    have N21 := Fr.snoc X21 N19 g_b17
    have ch22 := ch20.trans (CHr.wr W21 (Safe.arv (hZ).alike V19 (by decide)) ch20.1)
    have kp22 : Keep h0 h21 [] := kp20.wr W21 (Or.inr lo_b17)
    have ol22 : Old Z n0 h21 := ol20.wr W21 g_b17
    show OwnFin _ _ _ _ (T21.setTop (mkF m 49 _ []))
    obtain ⟨T23, h23, X23, e23, E23, A23, D23, -, st23⟩ := newO X21 hx hZ hown (w_ hw 13 rfl) (w_ hw 14 rfl) (w_ hw 15 rfl) e21 (g := (mkF m 49 #[.val (.int p0), .val (.int p1), .val (.int p2), .val (.ref b17)] [])) rfl (hb hby d4_49) (by decide) (by decide)
    obtain ⟨b23, qe23⟩ : ∃ z, z = h21.size := ⟨_, rfl⟩
    rw [← qe23] at A23 D23 st23
    refine OwnFin.st st23 ?_
    have bi_b23 : h21.size ≤ b23 := Nat.le_of_eq qe23.symm
    have lo_b23 : h0.size ≤ b23 := Nat.le_trans kp22.1 bi_b23
    have g_b23 : n0 ≤ b23 := Nat.le_trans Z0 lo_b23
    have ch24 := ch22.trans (CHr.ext E23 ch22.1)
    have kp24 : Keep h0 h23 [] := kp22.ext E23
    have ol24 : Old Z n0 h23 := ol22.ext E23
    have F_value_b23 : Fld Z h23 b23 "java/lang/String" "value" "[B" .null := D23 (Or.inr (w_ hw 29 rfl)) (ty := (.array .byte)) (by decide)
    have F_coder_b23 : Fld Z h23 b23 "java/lang/String" "coder" "B" (.int 0) := D23 (Or.inr (w_ hw 30 rfl)) (ty := .byte) (by decide)
    show OwnFin _ _ _ _ (T23.setTop (mkF m 52 _ [(.ref b23)]))
    refine OwnFin.st (fun _ q => XS.dup X23.here hx rfl (hb hby d4_52) rfl rfl q) ?_
    show OwnFin _ _ _ _ (T23.setTop (mkF m 53 _ [(.ref b23), (.ref b23)]))
    refine OwnFin.st (fun _ q => XS.aloadN X23.here hx rfl (hb hby d4_53) rfl rfl q) ?_
    show OwnFin _ _ _ _ (T23.setTop (mkF m 54 _ [(.ref b17), (.ref b23), (.ref b23)]))
    obtain ⟨_, _, ⟨T25, L25, k25, n25⟩, -, X25, ⟨Lc25, hQ25, l25, y25, z25⟩, st25⟩ := X23.specialBack hx (y := yM1) rfl hown (mvT hZ (w_ hw 17 rfl)) (mvT hZ (w_ hw 18 rfl)) (mvT hZ (w_ hw 19 rfl)) (by decide) (backOf (W := 1) (rm_si_2 l Z av0 hw [] b23 b17 k17 p1 p2 w_COMPACT_STRINGS (.int 0) .null h23 n0 (Nat.le_trans Z0 kp24.1) ol24 (V21.ext E23) S_COMPACT_STRINGS hcs hb1 hb2 A23 F_coder_b23 g_b23 F_value_b23) hZ (w_ hw 19 rfl) (w_ hw 15 rfl) (by decide) (by decide)) (g := (mkF m 54 #[.val (.int p0), .val (.int p1), .val (.int p2), .val (.ref b17)] [(.ref b17), (.ref b23), (.ref b23)])) rfl (by rw [hml]; rfl) (Steps.refl _) (a := b23) (argsL := [(.ref b17)]) (rest := [(.ref b23)]) (lenOf pd_4 rfl) rfl (by show 2 * 0 + _ ≤ _; exact Nat.le_of_eq rfl) (hb hby d4_54) (fun _ _ => ⟨rfl, e23, (by decide : 2 + 1 ≤ _), (by decide : 6 + 2 ≤ _)⟩)
    dsimp only [Pt.U, Pt.locs, Pt.cells, Pt.slots] at X25 l25 y25 z25 st25 hQ25
    subst l25 y25 z25
    obtain ⟨c25_0, kc25_1, rfl, N25q, K25, r25_0, r25_1, r25_2, r25_3⟩ := hQ25
    have N25 := Fr.app N21 N25q
    refine OwnFin.tr st25 ?_
    obtain ⟨h25, e25⟩ : ∃ z, T25.heap = z := ⟨_, rfl⟩
    rw [e25] at K25 r25_1 r25_2 r25_3
    have bi_c25_0 : h23.size ≤ c25_0 := r25_0
    have lo_c25_0 : h0.size ≤ c25_0 := Nat.le_trans kp24.1 bi_c25_0
    have g_c25_0 : n0 ≤ c25_0 := Nat.le_trans Z0 lo_c25_0
    have ch26 := ch24.trans (CHr.keep K25 (sfS (own_safe (hZ).alike A23 F_value_b23) sf0) ch24.1)
    have kp26 : Keep h0 h25 [] := kp24.trans K25 (allS (Or.inr lo_b23) all0)
    have ol26 : Old Z n0 h25 := ol24.keep K25 (allS g_b23 all0)
    show OwnFin _ _ _ _ (T25.setTop (mkF m 57 _ [(.ref b23)]))
    obtain ⟨fs, hr, hrun, hended, hEW⟩ := X25.leaveW (s := s) hS0 (by rw [e25]; exact (Nat.le_trans hk0 (Nat.le_trans (Nat.le_trans (Nat.le_trans (Nat.le_trans E17.1 (Nat.le_of_eq W19.size.symm)) (Nat.le_of_eq W21.size.symm)) E23.1) K25.1))) (v := some (.ref b23)) (fun h => by rw [Bd.returns] at h; cases h)
    have chE : CHr Z own_EL s.vm s.heap T25.vm T25.heap := by
      rw [hh, e25]
      exact ch26.trans (CHv.at X25 hZ (own_EW hw) ch26.1)
    refine ⟨_, _, retOut X25 hx Bd.returns rfl (Or.inr (Or.inr (Or.inr (Or.inr ⟨rfl, rfl, rfl⟩)))) (hb hby d4_57) hr, hrun, hended, _, _, rfl, ?_, chE, hEW.1, hEW.2.1, hEW.2.2.1, hEW.2.2.2.mono (by decide) (by decide)⟩
    show Q_rm_textW Z p0 p1 p2 w_COMPACT_STRINGS h0 n0 _ T25.heap _
    rw [e25]
    exact ⟨b23, c25_0, kc25_1, (2 : Int32), [(.int (p1.toInt8.toInt32)), (.int (p2.toInt8.toInt32))], rfl, N25, kp26, lo_b23, (A23.keep K25), r25_3, r25_1⟩
theorem d11_0 : decode jdk_42_method_55_code 0 = .ok (.aload_n 0, 1) := by decide +kernel
theorem d11_1 : decode jdk_42_method_55_code 1 = .ok (.getfield 9, 3) := by decide +kernel
theorem d11_4 : decode jdk_42_method_55_code 4 = .ok (.arraylength, 1) := by decide +kernel
theorem d11_5 : decode jdk_42_method_55_code 5 = .ok (.ifCond .ne 7, 3) := by decide +kernel
theorem d11_8 : decode jdk_42_method_55_code 8 = .ok (.iconst 1, 1) := by decide +kernel
theorem d11_9 : decode jdk_42_method_55_code 9 = .ok (.goto 4, 3) := by decide +kernel
theorem d11_13 : decode jdk_42_method_55_code 13 = .ok (.ireturn, 1) := by decide +kernel
theorem ef_rm_empY (m : MethodId) (a0 : Addr) : entryFrame m #[(.ref a0)] 1 = mkF m 0 #[.val (.ref a0)] [] := by first | (simp [entryFrame, mkF, argsToLocals, Value.category]; done) | rfl
def Q_rm_empY (Z : State) (a0 : Addr) (b0 : Addr) (k_b0 : ClassId) (vs0 : List Value) (z0 : Int32) (h0 : Heap) (n0 : Nat) (v : Option Value) (h : Heap) (L : List Loc) : Prop := v = some (.int 1) ∧ Fr n0 L ∧ h = h0
set_option maxRecDepth 65536 in
set_option maxHeartbeats 40000000 in
theorem rm_empY (l : Launch) (Z : State) (av0 : Array Value) (hw : ∀ d ∈ tables_1, d.before av0 Z = true) (ws : List Jvm.Cond) (a0 : Addr) (b0 : Addr) (k_b0 : ClassId) (vs0 : List Value) (z0 : Int32) (h0 : Heap) (n0 : Nat) (Z0 : n0 ≤ h0.size) (X_a0 : Exa Z h0 a0 "java/lang/String") (F_value_a0 : Fld Z h0 a0 "java/lang/String" "value" "[B" (.ref b0)) (V_b0 : Arv Z h0 b0 k_b0 .byte z0 vs0 (.int 0)) (hc0 : z0 = (0 : Int32)) :
    MetFree l yM9 (head1 (Jvm.Cond.code yM9 jdk_42_method_55_code 1 (some .boolean) :: ws) ({ frames := 0, cells := 0, slots := 0, locals := 0 } : Room)) (fun a U => a = #[(.ref a0)] ∧ Z.Warmed39 U.vm ∧ U.heap = h0) (fun _ _ _ _ _ => True) (fun _ U o U' => ∃ v L, o = .returned v ∧ Q_rm_empY Z a0 b0 k_b0 vs0 z0 h0 n0 v U'.heap L ∧ FrameEnd U o U' L ({ frames := 0, cells := 0, slots := 0, locals := 0 } : Room).cells ({ frames := 0, cells := 0, slots := 0, locals := 0 } : Room).slots) := by
  refine MetFree.of_bodySF (plainFor_of_name pn_0) hisR ?_
  intro p e s m args below meth c s₁ Bd hml0 hP hK
  obtain ⟨rfl, hZ, hh⟩ := hP
  have hx := Bd.exec
  have hby := Bd.bytes
  have hml : c.maxLocals = 1 := hml0
  have hown : s.vm.findClass "java/lang/String" = some m.cls := findClass_of_methodNamed Bd.named
  have hnm := (name_of_methodNamed Bd.named Bd.method).1
  have X0 : Stand p l e ({ frames := 0, cells := 0, slots := 0, locals := 0 } : Room) s m #[(.ref a0)] below meth c s₁ [] 0 0 := Stand.of_body Bd
  have e0 : s₁.heap = h0 := by rw [← hh, Bd.state]; rfl
  have N0 := Fr.nil n0
  have pre0 : ∀ t, Steps p.tables e below (s₁.setTop (mkF m 0 #[.val (.ref a0)] [])) t → Steps p.tables e below (s₁.setTop (entryFrame m #[(.ref a0)] 1)) t := fun t k => castTop (ef_rm_empY m a0) k
  change OwnFin p.tables e below _ (s₁.setTop (entryFrame m #[(.ref a0)] 1))
  have kp0 : Keep h0 h0 [] := Keep.refl _ _
  refine OwnFin.st (fun _ q => pre0 _ q) ?_
  show OwnFin _ _ _ _ (s₁.setTop (mkF m 0 #[.val (.ref a0)] []))
  refine OwnFin.st (fun _ q => XS.aloadN X0.here hx rfl (hb hby d11_0) rfl rfl q) ?_
  show OwnFin _ _ _ _ (s₁.setTop (mkF m 1 _ [(.ref a0)]))
  obtain ⟨T1, X1, e1, st1⟩ := getF X0 hx hZ hown (host := "") (Or.inl (w_ hw 33 rfl)) Via.refl e0 F_value_a0 (g := (mkF m 1 #[.val (.ref a0)] [(.ref a0)])) rfl rfl (hb hby d11_1)
  refine OwnFin.st st1 ?_
  show OwnFin _ _ _ _ (T1.setTop (mkF m 4 _ [(.ref b0)]))
  have Vo2 : Arv Z h0 b0 k_b0 .byte z0 vs0 (.int 0) := V_b0
  obtain ⟨cl2, Ar2, qa2, Sa2, Na2, Ha2, Ga2⟩ := id Vo2
  refine OwnFin.st (X1.arraylength hx (by rw [e1]; exact Ar2.1) (State.isArrayOf_alike (hZ).alike Ar2.2.1) (g := (mkF m 4 #[.val (.ref a0)] [(.ref b0)])) rfl rfl (hb hby d11_4)) ?_
  rw [len_of Sa2 Na2]
  show OwnFin _ _ _ _ (T1.setTop (mkF m 5 _ [(.int z0)]))
  refine OwnFin.st (fun _ q => XS.ifNo X1.here hx rfl (hb hby d11_5) rfl (Jvm.Free.XT.i0_ne_f hc0) q) ?_
  show OwnFin _ _ _ _ (T1.setTop (mkF m 8 _ []))
  refine OwnFin.st (fun _ q => XS.iconst X1.here hx rfl (hb hby d11_8) q) ?_
  show OwnFin _ _ _ _ (T1.setTop (mkF m 9 _ [(.int 1)]))
  refine OwnFin.st (fun _ q => XS.goto X1.here hx rfl (pc0 := 9) (pc' := 13) rfl (hb hby d11_9) (by decide) (by decide) q) ?_
  show OwnFin _ _ _ _ (T1.setTop (mkF m 13 _ [(.int 1)]))
  obtain ⟨fs, hr, hrun, hended, hW, hsame⟩ := X1.leave (v := some (.int 1)) (fun h => by rw [Bd.returns] at h; cases h)
  refine ⟨_, _, retN X1 hx (t := .boolean) Bd.returns (by simp) (hb hby d11_13) hr, hrun, hended, _, _, rfl, ?_, ⟨_, rfl⟩, hW, hsame.mono (by decide) (by decide)⟩
  show Q_rm_empY Z a0 b0 k_b0 vs0 z0 h0 n0 _ T1.heap _
  rw [e1]
  exact ⟨rfl, N0, rfl⟩
theorem d11_12 : decode jdk_42_method_55_code 12 = .ok (.iconst 0, 1) := by decide +kernel
theorem ef_rm_empN (m : MethodId) (a0 : Addr) : entryFrame m #[(.ref a0)] 1 = mkF m 0 #[.val (.ref a0)] [] := by first | (simp [entryFrame, mkF, argsToLocals, Value.category]; done) | rfl
def Q_rm_empN (Z : State) (a0 : Addr) (b0 : Addr) (k_b0 : ClassId) (vs0 : List Value) (z0 : Int32) (h0 : Heap) (n0 : Nat) (v : Option Value) (h : Heap) (L : List Loc) : Prop := v = some (.int 0) ∧ Fr n0 L ∧ h = h0
set_option maxRecDepth 65536 in
set_option maxHeartbeats 40000000 in
theorem rm_empN (l : Launch) (Z : State) (av0 : Array Value) (hw : ∀ d ∈ tables_1, d.before av0 Z = true) (ws : List Jvm.Cond) (a0 : Addr) (b0 : Addr) (k_b0 : ClassId) (vs0 : List Value) (z0 : Int32) (h0 : Heap) (n0 : Nat) (Z0 : n0 ≤ h0.size) (X_a0 : Exa Z h0 a0 "java/lang/String") (F_value_a0 : Fld Z h0 a0 "java/lang/String" "value" "[B" (.ref b0)) (V_b0 : Arv Z h0 b0 k_b0 .byte z0 vs0 (.int 0)) (hc0 : ¬ (z0 = (0 : Int32))) :
    MetFree l yM9 (head1 (Jvm.Cond.code yM9 jdk_42_method_55_code 1 (some .boolean) :: ws) ({ frames := 0, cells := 0, slots := 0, locals := 0 } : Room)) (fun a U => a = #[(.ref a0)] ∧ Z.Warmed39 U.vm ∧ U.heap = h0) (fun _ _ _ _ _ => True) (fun _ U o U' => ∃ v L, o = .returned v ∧ Q_rm_empN Z a0 b0 k_b0 vs0 z0 h0 n0 v U'.heap L ∧ FrameEnd U o U' L ({ frames := 0, cells := 0, slots := 0, locals := 0 } : Room).cells ({ frames := 0, cells := 0, slots := 0, locals := 0 } : Room).slots) := by
  refine MetFree.of_bodySF (plainFor_of_name pn_0) hisR ?_
  intro p e s m args below meth c s₁ Bd hml0 hP hK
  obtain ⟨rfl, hZ, hh⟩ := hP
  have hx := Bd.exec
  have hby := Bd.bytes
  have hml : c.maxLocals = 1 := hml0
  have hown : s.vm.findClass "java/lang/String" = some m.cls := findClass_of_methodNamed Bd.named
  have hnm := (name_of_methodNamed Bd.named Bd.method).1
  have X0 : Stand p l e ({ frames := 0, cells := 0, slots := 0, locals := 0 } : Room) s m #[(.ref a0)] below meth c s₁ [] 0 0 := Stand.of_body Bd
  have e0 : s₁.heap = h0 := by rw [← hh, Bd.state]; rfl
  have N0 := Fr.nil n0
  have pre0 : ∀ t, Steps p.tables e below (s₁.setTop (mkF m 0 #[.val (.ref a0)] [])) t → Steps p.tables e below (s₁.setTop (entryFrame m #[(.ref a0)] 1)) t := fun t k => castTop (ef_rm_empN m a0) k
  change OwnFin p.tables e below _ (s₁.setTop (entryFrame m #[(.ref a0)] 1))
  have kp0 : Keep h0 h0 [] := Keep.refl _ _
  refine OwnFin.st (fun _ q => pre0 _ q) ?_
  show OwnFin _ _ _ _ (s₁.setTop (mkF m 0 #[.val (.ref a0)] []))
  refine OwnFin.st (fun _ q => XS.aloadN X0.here hx rfl (hb hby d11_0) rfl rfl q) ?_
  show OwnFin _ _ _ _ (s₁.setTop (mkF m 1 _ [(.ref a0)]))
  obtain ⟨T1, X1, e1, st1⟩ := getF X0 hx hZ hown (host := "") (Or.inl (w_ hw 33 rfl)) Via.refl e0 F_value_a0 (g := (mkF m 1 #[.val (.ref a0)] [(.ref a0)])) rfl rfl (hb hby d11_1)
  refine OwnFin.st st1 ?_
  show OwnFin _ _ _ _ (T1.setTop (mkF m 4 _ [(.ref b0)]))
  have Vo2 : Arv Z h0 b0 k_b0 .byte z0 vs0 (.int 0) := V_b0
  obtain ⟨cl2, Ar2, qa2, Sa2, Na2, Ha2, Ga2⟩ := id Vo2
  refine OwnFin.st (X1.arraylength hx (by rw [e1]; exact Ar2.1) (State.isArrayOf_alike (hZ).alike Ar2.2.1) (g := (mkF m 4 #[.val (.ref a0)] [(.ref b0)])) rfl rfl (hb hby d11_4)) ?_
  rw [len_of Sa2 Na2]
  show OwnFin _ _ _ _ (T1.setTop (mkF m 5 _ [(.int z0)]))
  refine OwnFin.st (fun _ q => XS.ifYes X1.here hx rfl (pc0 := 5) (pc' := 12) rfl (hb hby d11_5) rfl (Jvm.Free.XT.i0_ne_t hc0) (by decide) (by decide) q) ?_
  show OwnFin _ _ _ _ (T1.setTop (mkF m 12 _ []))
  refine OwnFin.st (fun _ q => XS.iconst X1.here hx rfl (hb hby d11_12) q) ?_
  show OwnFin _ _ _ _ (T1.setTop (mkF m 13 _ [(.int 0)]))
  obtain ⟨fs, hr, hrun, hended, hW, hsame⟩ := X1.leave (v := some (.int 0)) (fun h => by rw [Bd.returns] at h; cases h)
  refine ⟨_, _, retN X1 hx (t := .boolean) Bd.returns (by simp) (hb hby d11_13) hr, hrun, hended, _, _, rfl, ?_, ⟨_, rfl⟩, hW, hsame.mono (by decide) (by decide)⟩
  show Q_rm_empN Z a0 b0 k_b0 vs0 z0 h0 n0 _ T1.heap _
  rw [e1]
  exact ⟨rfl, N0, rfl⟩
theorem d10_0 : decode prog_37_method_10_code 0 = .ok (.aload_n 0, 1) := by decide +kernel
theorem d10_1 : decode prog_37_method_10_code 1 = .ok (.ifnull 10, 3) := by decide +kernel
theorem d10_11 : decode prog_37_method_10_code 11 = .ok (.aconst_null, 1) := by decide +kernel
theorem d10_12 : decode prog_37_method_10_code 12 = .ok (.goto 4, 3) := by decide +kernel
theorem d10_16 : decode prog_37_method_10_code 16 = .ok (.areturn, 1) := by decide +kernel
theorem pn_3 : plainName "com/example/neat_order/neatorder/model/Cause" = true := by first | (simp [plainName, overriddenIn]; done) | decide +kernel
theorem ef_rm_etnN (m : MethodId)  : entryFrame m #[.null] 1 = mkF m 0 #[.val .null] [] := by first | (simp [entryFrame, mkF, argsToLocals, Value.category]; done) | rfl
def Q_rm_etnN (Z : State)  (h0 : Heap) (n0 : Nat) (v : Option Value) (h : Heap) (L : List Loc) : Prop := v = some .null ∧ Fr n0 L ∧ h = h0
set_option maxRecDepth 65536 in
set_option maxHeartbeats 40000000 in
theorem rm_etnN (l : Launch) (Z : State) (av0 : Array Value) (hw : ∀ d ∈ tables_1, d.before av0 Z = true) (ws : List Jvm.Cond)  (h0 : Heap) (n0 : Nat) (Z0 : n0 ≤ h0.size) :
    MetFree l yM10 (head1 (Jvm.Cond.code yM10 prog_37_method_10_code 1 (some (.object "java/lang/String")) :: ws) ({ frames := 0, cells := 0, slots := 0, locals := 0 } : Room)) (fun a U => a = #[.null] ∧ Z.Warmed39 U.vm ∧ U.heap = h0) (fun _ _ _ _ _ => True) (fun _ U o U' => ∃ v L, o = .returned v ∧ Q_rm_etnN Z  h0 n0 v U'.heap L ∧ FrameEnd U o U' L ({ frames := 0, cells := 0, slots := 0, locals := 0 } : Room).cells ({ frames := 0, cells := 0, slots := 0, locals := 0 } : Room).slots) := by
  refine MetFree.of_bodySF (plainFor_of_name pn_3) hisR ?_
  intro p e s m args below meth c s₁ Bd hml0 hP hK
  obtain ⟨rfl, hZ, hh⟩ := hP
  have hx := Bd.exec
  have hby := Bd.bytes
  have hml : c.maxLocals = 1 := hml0
  have hown : s.vm.findClass "com/example/neat_order/neatorder/model/Cause" = some m.cls := findClass_of_methodNamed Bd.named
  have hnm := (name_of_methodNamed Bd.named Bd.method).1
  have X0 : Stand p l e ({ frames := 0, cells := 0, slots := 0, locals := 0 } : Room) s m #[.null] below meth c s₁ [] 0 0 := Stand.of_body Bd
  have e0 : s₁.heap = h0 := by rw [← hh, Bd.state]; rfl
  have N0 := Fr.nil n0
  have pre0 : ∀ t, Steps p.tables e below (s₁.setTop (mkF m 0 #[.val .null] [])) t → Steps p.tables e below (s₁.setTop (entryFrame m #[.null] 1)) t := fun t k => castTop (ef_rm_etnN m ) k
  change OwnFin p.tables e below _ (s₁.setTop (entryFrame m #[.null] 1))
  have kp0 : Keep h0 h0 [] := Keep.refl _ _
  refine OwnFin.st (fun _ q => pre0 _ q) ?_
  show OwnFin _ _ _ _ (s₁.setTop (mkF m 0 #[.val .null] []))
  refine OwnFin.st (fun _ q => XS.aloadN X0.here hx rfl (hb hby d10_0) rfl rfl q) ?_
  show OwnFin _ _ _ _ (s₁.setTop (mkF m 1 _ [.null]))
  refine OwnFin.st (fun _ q => XS.ifnullYes X0.here hx rfl (pc0 := 1) (pc' := 11) rfl (hb hby d10_1) rfl (by decide) (by decide) q) ?_
  show OwnFin _ _ _ _ (s₁.setTop (mkF m 11 _ []))
  refine OwnFin.st (fun _ q => XS.aconstNull X0.here hx rfl (hb hby d10_11) q) ?_
  show OwnFin _ _ _ _ (s₁.setTop (mkF m 12 _ [.null]))
  refine OwnFin.st (fun _ q => XS.goto X0.here hx rfl (pc0 := 12) (pc' := 16) rfl (hb hby d10_12) (by decide) (by decide) q) ?_
  show OwnFin _ _ _ _ (s₁.setTop (mkF m 16 _ [.null]))
  obtain ⟨fs, hr, hrun, hended, hW, hsame⟩ := X0.leave (v := some .null) (fun h => by rw [Bd.returns] at h; cases h)
  refine ⟨_, _, retOut X0 hx Bd.returns rfl (Or.inr (Or.inr (Or.inr (Or.inr ⟨rfl, rfl, rfl⟩)))) (hb hby d10_16) hr, hrun, hended, _, _, rfl, ?_, ⟨_, rfl⟩, hW, hsame.mono (by decide) (by decide)⟩
  show Q_rm_etnN Z  h0 n0 _ s₁.heap _
  rw [e0]
  exact ⟨rfl, N0, rfl⟩
theorem pd_5 : parseMethodDescriptor "()Z" = some ⟨[], some .boolean⟩ := by decide +kernel
theorem d10_4 : decode prog_37_method_10_code 4 = .ok (.aload_n 0, 1) := by decide +kernel
theorem d10_5 : decode prog_37_method_10_code 5 = .ok (.invokevirtual 81, 3) := by decide +kernel
theorem d10_8 : decode prog_37_method_10_code 8 = .ok (.ifCond .eq 7, 3) := by decide +kernel
theorem ef_rm_etnY (m : MethodId) (a0 : Addr) : entryFrame m #[(.ref a0)] 1 = mkF m 0 #[.val (.ref a0)] [] := by first | (simp [entryFrame, mkF, argsToLocals, Value.category]; done) | rfl
def Q_rm_etnY (Z : State) (a0 : Addr) (b0 : Addr) (k_b0 : ClassId) (vs0 : List Value) (z0 : Int32) (h0 : Heap) (n0 : Nat) (v : Option Value) (h : Heap) (L : List Loc) : Prop := v = some .null ∧ Fr n0 L ∧ h = h0
set_option maxRecDepth 65536 in
set_option maxHeartbeats 40000000 in
theorem rm_etnY (l : Launch) (Z : State) (av0 : Array Value) (hw : ∀ d ∈ tables_1, d.before av0 Z = true) (ws : List Jvm.Cond) (a0 : Addr) (b0 : Addr) (k_b0 : ClassId) (vs0 : List Value) (z0 : Int32) (h0 : Heap) (n0 : Nat) (Z0 : n0 ≤ h0.size) (X_a0 : Exa Z h0 a0 "java/lang/String") (F_value_a0 : Fld Z h0 a0 "java/lang/String" "value" "[B" (.ref b0)) (V_b0 : Arv Z h0 b0 k_b0 .byte z0 vs0 (.int 0)) (hc0 : z0 = (0 : Int32)) :
    MetFree l yM10 (head1 (Jvm.Cond.code yM10 prog_37_method_10_code 1 (some (.object "java/lang/String")) :: ws) ({ frames := 1, cells := 0, slots := 0, locals := 12 } : Room)) (fun a U => a = #[(.ref a0)] ∧ Z.Warmed39 U.vm ∧ U.heap = h0) (fun _ _ _ _ _ => True) (fun _ U o U' => ∃ v L, o = .returned v ∧ Q_rm_etnY Z a0 b0 k_b0 vs0 z0 h0 n0 v U'.heap L ∧ FrameEnd U o U' L ({ frames := 1, cells := 0, slots := 0, locals := 12 } : Room).cells ({ frames := 1, cells := 0, slots := 0, locals := 12 } : Room).slots) := by
  refine MetFree.of_bodySF (plainFor_of_name pn_3) hisR ?_
  intro p e s m args below meth c s₁ Bd hml0 hP hK
  obtain ⟨rfl, hZ, hh⟩ := hP
  have hx := Bd.exec
  have hby := Bd.bytes
  have hml : c.maxLocals = 1 := hml0
  have hown : s.vm.findClass "com/example/neat_order/neatorder/model/Cause" = some m.cls := findClass_of_methodNamed Bd.named
  have hnm := (name_of_methodNamed Bd.named Bd.method).1
  have X0 : Stand p l e ({ frames := 1, cells := 0, slots := 0, locals := 12 } : Room) s m #[(.ref a0)] below meth c s₁ [] 0 0 := Stand.of_body Bd
  have e0 : s₁.heap = h0 := by rw [← hh, Bd.state]; rfl
  have N0 := Fr.nil n0
  have pre0 : ∀ t, Steps p.tables e below (s₁.setTop (mkF m 0 #[.val (.ref a0)] [])) t → Steps p.tables e below (s₁.setTop (entryFrame m #[(.ref a0)] 1)) t := fun t k => castTop (ef_rm_etnY m a0) k
  change OwnFin p.tables e below _ (s₁.setTop (entryFrame m #[(.ref a0)] 1))
  have kp0 : Keep h0 h0 [] := Keep.refl _ _
  refine OwnFin.st (fun _ q => pre0 _ q) ?_
  show OwnFin _ _ _ _ (s₁.setTop (mkF m 0 #[.val (.ref a0)] []))
  refine OwnFin.st (fun _ q => XS.aloadN X0.here hx rfl (hb hby d10_0) rfl rfl q) ?_
  show OwnFin _ _ _ _ (s₁.setTop (mkF m 1 _ [(.ref a0)]))
  refine OwnFin.st (fun _ q => XS.ifnullNo X0.here hx rfl (hb hby d10_1) rfl q) ?_
  show OwnFin _ _ _ _ (s₁.setTop (mkF m 4 _ []))
  refine OwnFin.st (fun _ q => XS.aloadN X0.here hx rfl (hb hby d10_4) rfl rfl q) ?_
  show OwnFin _ _ _ _ (s₁.setTop (mkF m 5 _ [(.ref a0)]))
  show OwnFin _ _ _ _ (s₁.setTop (mkF m 5 _ [(.ref a0)]))
  obtain ⟨cq1, kq1, q1a, q1b, q1c⟩ := isOf hZ e0 X_a0
  obtain ⟨_, _, ⟨T1, L1, k1, n1⟩, -, X1, ⟨Lc1, hQ1, l1, y1, z1⟩, st1⟩ := X0.virtualBack hx (y := yM9) (z := yM9) hown (mvT hZ (w_ hw 55 rfl)) (mvT hZ (w_ hw 56 rfl)) (notFace_of_selects (args := #[]) (mvT hZ (w_ hw 58 rfl))) (mvT hZ (w_ hw 58 rfl)) (mvT hZ (w_ hw 57 rfl)) (by decide) (backOf (W := 0) (rm_empY l Z av0 hw [] a0 b0 k_b0 vs0 z0 h0 n0 (Nat.le_trans Z0 kp0.1) X_a0 F_value_a0 V_b0 hc0) hZ (w_ hw 59 rfl) (w_ hw 15 rfl) (by decide) (by decide)) q1a q1c (g := (mkF m 5 #[.val (.ref a0)] [(.ref a0)])) rfl (by rw [hml]; rfl) (Steps.refl _) (argsL := []) (rest := []) (lenOf pd_5 rfl) rfl (by show 2 * 0 + _ ≤ _; exact Nat.le_of_eq rfl) (hb hby d10_5) (fun _ _ => ⟨rfl, e0, (by decide : 0 + 0 ≤ _), (by decide : 0 + 0 ≤ _)⟩)
  dsimp only [Pt.U, Pt.locs, Pt.cells, Pt.slots] at X1 l1 y1 z1 st1 hQ1
  subst l1 y1 z1
  obtain ⟨rfl, N1q, he1⟩ := hQ1
  have N1 := Fr.app N0 N1q
  refine OwnFin.tr st1 ?_
  show OwnFin _ _ _ _ (T1.setTop (mkF m 8 _ [(.int 1)]))
  refine OwnFin.st (fun _ q => XS.ifNo X1.here hx rfl (hb hby d10_8) rfl (Jvm.Free.XT.i0_eq_f (by decide : ¬ ((1 : Int32) = (0 : Int32)))) q) ?_
  show OwnFin _ _ _ _ (T1.setTop (mkF m 11 _ []))
  refine OwnFin.st (fun _ q => XS.aconstNull X1.here hx rfl (hb hby d10_11) q) ?_
  show OwnFin _ _ _ _ (T1.setTop (mkF m 12 _ [.null]))
  refine OwnFin.st (fun _ q => XS.goto X1.here hx rfl (pc0 := 12) (pc' := 16) rfl (hb hby d10_12) (by decide) (by decide) q) ?_
  show OwnFin _ _ _ _ (T1.setTop (mkF m 16 _ [.null]))
  obtain ⟨fs, hr, hrun, hended, hW, hsame⟩ := X1.leave (v := some .null) (fun h => by rw [Bd.returns] at h; cases h)
  refine ⟨_, _, retOut X1 hx Bd.returns rfl (Or.inr (Or.inr (Or.inr (Or.inr ⟨rfl, rfl, rfl⟩)))) (hb hby d10_16) hr, hrun, hended, _, _, rfl, ?_, ⟨_, rfl⟩, hW, hsame.mono (by decide) (by decide)⟩
  show Q_rm_etnY Z a0 b0 k_b0 vs0 z0 h0 n0 _ T1.heap _
  rw [he1]
  exact ⟨rfl, N1, rfl⟩
theorem d10_15 : decode prog_37_method_10_code 15 = .ok (.aload_n 0, 1) := by decide +kernel
theorem ef_rm_etnZ (m : MethodId) (a0 : Addr) : entryFrame m #[(.ref a0)] 1 = mkF m 0 #[.val (.ref a0)] [] := by first | (simp [entryFrame, mkF, argsToLocals, Value.category]; done) | rfl
def Q_rm_etnZ (Z : State) (a0 : Addr) (b0 : Addr) (k_b0 : ClassId) (vs0 : List Value) (z0 : Int32) (h0 : Heap) (n0 : Nat) (v : Option Value) (h : Heap) (L : List Loc) : Prop := v = some (.ref a0) ∧ Fr n0 L ∧ h = h0
set_option maxRecDepth 65536 in
set_option maxHeartbeats 40000000 in
theorem rm_etnZ (l : Launch) (Z : State) (av0 : Array Value) (hw : ∀ d ∈ tables_1, d.before av0 Z = true) (ws : List Jvm.Cond) (a0 : Addr) (b0 : Addr) (k_b0 : ClassId) (vs0 : List Value) (z0 : Int32) (h0 : Heap) (n0 : Nat) (Z0 : n0 ≤ h0.size) (X_a0 : Exa Z h0 a0 "java/lang/String") (F_value_a0 : Fld Z h0 a0 "java/lang/String" "value" "[B" (.ref b0)) (V_b0 : Arv Z h0 b0 k_b0 .byte z0 vs0 (.int 0)) (hc0 : ¬ (z0 = (0 : Int32))) :
    MetFree l yM10 (head1 (Jvm.Cond.code yM10 prog_37_method_10_code 1 (some (.object "java/lang/String")) :: ws) ({ frames := 1, cells := 0, slots := 0, locals := 12 } : Room)) (fun a U => a = #[(.ref a0)] ∧ Z.Warmed39 U.vm ∧ U.heap = h0) (fun _ _ _ _ _ => True) (fun _ U o U' => ∃ v L, o = .returned v ∧ Q_rm_etnZ Z a0 b0 k_b0 vs0 z0 h0 n0 v U'.heap L ∧ FrameEnd U o U' L ({ frames := 1, cells := 0, slots := 0, locals := 12 } : Room).cells ({ frames := 1, cells := 0, slots := 0, locals := 12 } : Room).slots) := by
  refine MetFree.of_bodySF (plainFor_of_name pn_3) hisR ?_
  intro p e s m args below meth c s₁ Bd hml0 hP hK
  obtain ⟨rfl, hZ, hh⟩ := hP
  have hx := Bd.exec
  have hby := Bd.bytes
  have hml : c.maxLocals = 1 := hml0
  have hown : s.vm.findClass "com/example/neat_order/neatorder/model/Cause" = some m.cls := findClass_of_methodNamed Bd.named
  have hnm := (name_of_methodNamed Bd.named Bd.method).1
  have X0 : Stand p l e ({ frames := 1, cells := 0, slots := 0, locals := 12 } : Room) s m #[(.ref a0)] below meth c s₁ [] 0 0 := Stand.of_body Bd
  have e0 : s₁.heap = h0 := by rw [← hh, Bd.state]; rfl
  have N0 := Fr.nil n0
  have pre0 : ∀ t, Steps p.tables e below (s₁.setTop (mkF m 0 #[.val (.ref a0)] [])) t → Steps p.tables e below (s₁.setTop (entryFrame m #[(.ref a0)] 1)) t := fun t k => castTop (ef_rm_etnZ m a0) k
  change OwnFin p.tables e below _ (s₁.setTop (entryFrame m #[(.ref a0)] 1))
  have kp0 : Keep h0 h0 [] := Keep.refl _ _
  refine OwnFin.st (fun _ q => pre0 _ q) ?_
  show OwnFin _ _ _ _ (s₁.setTop (mkF m 0 #[.val (.ref a0)] []))
  refine OwnFin.st (fun _ q => XS.aloadN X0.here hx rfl (hb hby d10_0) rfl rfl q) ?_
  show OwnFin _ _ _ _ (s₁.setTop (mkF m 1 _ [(.ref a0)]))
  refine OwnFin.st (fun _ q => XS.ifnullNo X0.here hx rfl (hb hby d10_1) rfl q) ?_
  show OwnFin _ _ _ _ (s₁.setTop (mkF m 4 _ []))
  refine OwnFin.st (fun _ q => XS.aloadN X0.here hx rfl (hb hby d10_4) rfl rfl q) ?_
  show OwnFin _ _ _ _ (s₁.setTop (mkF m 5 _ [(.ref a0)]))
  show OwnFin _ _ _ _ (s₁.setTop (mkF m 5 _ [(.ref a0)]))
  obtain ⟨cq1, kq1, q1a, q1b, q1c⟩ := isOf hZ e0 X_a0
  obtain ⟨_, _, ⟨T1, L1, k1, n1⟩, -, X1, ⟨Lc1, hQ1, l1, y1, z1⟩, st1⟩ := X0.virtualBack hx (y := yM9) (z := yM9) hown (mvT hZ (w_ hw 55 rfl)) (mvT hZ (w_ hw 56 rfl)) (notFace_of_selects (args := #[]) (mvT hZ (w_ hw 58 rfl))) (mvT hZ (w_ hw 58 rfl)) (mvT hZ (w_ hw 57 rfl)) (by decide) (backOf (W := 0) (rm_empN l Z av0 hw [] a0 b0 k_b0 vs0 z0 h0 n0 (Nat.le_trans Z0 kp0.1) X_a0 F_value_a0 V_b0 hc0) hZ (w_ hw 59 rfl) (w_ hw 15 rfl) (by decide) (by decide)) q1a q1c (g := (mkF m 5 #[.val (.ref a0)] [(.ref a0)])) rfl (by rw [hml]; rfl) (Steps.refl _) (argsL := []) (rest := []) (lenOf pd_5 rfl) rfl (by show 2 * 0 + _ ≤ _; exact Nat.le_of_eq rfl) (hb hby d10_5) (fun _ _ => ⟨rfl, e0, (by decide : 0 + 0 ≤ _), (by decide : 0 + 0 ≤ _)⟩)
  dsimp only [Pt.U, Pt.locs, Pt.cells, Pt.slots] at X1 l1 y1 z1 st1 hQ1
  subst l1 y1 z1
  obtain ⟨rfl, N1q, he1⟩ := hQ1
  have N1 := Fr.app N0 N1q
  refine OwnFin.tr st1 ?_
  show OwnFin _ _ _ _ (T1.setTop (mkF m 8 _ [(.int 0)]))
  refine OwnFin.st (fun _ q => XS.ifYes X1.here hx rfl (pc0 := 8) (pc' := 15) rfl (hb hby d10_8) rfl (Jvm.Free.XT.i0_eq_t (rfl : (0 : Int32) = (0 : Int32))) (by decide) (by decide) q) ?_
  show OwnFin _ _ _ _ (T1.setTop (mkF m 15 _ []))
  refine OwnFin.st (fun _ q => XS.aloadN X1.here hx rfl (hb hby d10_15) rfl rfl q) ?_
  show OwnFin _ _ _ _ (T1.setTop (mkF m 16 _ [(.ref a0)]))
  obtain ⟨fs, hr, hrun, hended, hW, hsame⟩ := X1.leave (v := some (.ref a0)) (fun h => by rw [Bd.returns] at h; cases h)
  refine ⟨_, _, retOut X1 hx Bd.returns rfl (Or.inr (Or.inr (Or.inr (Or.inr ⟨rfl, rfl, rfl⟩)))) (hb hby d10_16) hr, hrun, hended, _, _, rfl, ?_, ⟨_, rfl⟩, hW, hsame.mono (by decide) (by decide)⟩
  show Q_rm_etnZ Z a0 b0 k_b0 vs0 z0 h0 n0 _ T1.heap _
  rw [he1]
  exact ⟨rfl, N1, rfl⟩
theorem pd_6 : parseMethodDescriptor "(Ljava/lang/String;)Ljava/lang/String;" = some ⟨[(.object "java/lang/String")], some (.object "java/lang/String")⟩ := by decide +kernel
theorem d9_0 : decode prog_37_method_1_code 0 = .ok (.aload_n 0, 1) := by decide +kernel
theorem d9_1 : decode prog_37_method_1_code 1 = .ok (.invokespecial 1, 3) := by decide +kernel
theorem d9_4 : decode prog_37_method_1_code 4 = .ok (.aload_n 0, 1) := by decide +kernel
theorem d9_5 : decode prog_37_method_1_code 5 = .ok (.aload_n 1, 1) := by decide +kernel
theorem d9_6 : decode prog_37_method_1_code 6 = .ok (.invokestatic 7, 3) := by decide +kernel
theorem d9_9 : decode prog_37_method_1_code 9 = .ok (.putfield 13, 3) := by decide +kernel
theorem d9_12 : decode prog_37_method_1_code 12 = .ok (.aload_n 0, 1) := by decide +kernel
theorem d9_13 : decode prog_37_method_1_code 13 = .ok (.aload_n 2, 1) := by decide +kernel
theorem d9_14 : decode prog_37_method_1_code 14 = .ok (.invokestatic 7, 3) := by decide +kernel
theorem d9_17 : decode prog_37_method_1_code 17 = .ok (.putfield 17, 3) := by decide +kernel
theorem d9_20 : decode prog_37_method_1_code 20 = .ok (.aload_n 0, 1) := by decide +kernel
theorem d9_21 : decode prog_37_method_1_code 21 = .ok (.aload_n 3, 1) := by decide +kernel
theorem d9_22 : decode prog_37_method_1_code 22 = .ok (.invokestatic 7, 3) := by decide +kernel
theorem d9_25 : decode prog_37_method_1_code 25 = .ok (.putfield 20, 3) := by decide +kernel
theorem d9_28 : decode prog_37_method_1_code 28 = .ok (.return_, 1) := by decide +kernel
theorem ef_rm_ciY (m : MethodId) (a0 : Addr) (a2 : Addr) : entryFrame m #[(.ref a0), .null, (.ref a2), .null] 4 = mkF m 0 #[.val (.ref a0), .val .null, .val (.ref a2), .val .null] [] := by first | (simp [entryFrame, mkF, argsToLocals, Value.category]; done) | rfl
def Q_rm_ciY (Z : State) (a0 : Addr) (a2 : Addr) (b0 : Addr) (k_b0 : ClassId) (vs0 : List Value) (z0 : Int32) (u_type_a0 : Value) (u_message_a0 : Value) (u_stackTrace_a0 : Value) (h0 : Heap) (n0 : Nat) (v : Option Value) (h : Heap) (L : List Loc) : Prop := v = none ∧ Fr n0 L ∧ Keep h0 h [a0] ∧ Fld Z h a0 "com/example/neat_order/neatorder/model/Cause" "type" "Ljava/lang/String;" .null ∧ Fld Z h a0 "com/example/neat_order/neatorder/model/Cause" "message" "Ljava/lang/String;" .null ∧ Fld Z h a0 "com/example/neat_order/neatorder/model/Cause" "stackTrace" "Ljava/lang/String;" .null
set_option maxRecDepth 65536 in
set_option maxHeartbeats 40000000 in
theorem rm_ciY (l : Launch) (Z : State) (av0 : Array Value) (hw : ∀ d ∈ tables_1, d.before av0 Z = true) (ws : List Jvm.Cond) (a0 : Addr) (a2 : Addr) (b0 : Addr) (k_b0 : ClassId) (vs0 : List Value) (z0 : Int32) (u_type_a0 : Value) (u_message_a0 : Value) (u_stackTrace_a0 : Value) (h0 : Heap) (n0 : Nat) (Z0 : n0 ≤ h0.size) (X_a2 : Exa Z h0 a2 "java/lang/String") (F_value_a2 : Fld Z h0 a2 "java/lang/String" "value" "[B" (.ref b0)) (V_b0 : Arv Z h0 b0 k_b0 .byte z0 vs0 (.int 0)) (X_a0 : Exa Z h0 a0 "com/example/neat_order/neatorder/model/Cause") (F_type_a0 : Fld Z h0 a0 "com/example/neat_order/neatorder/model/Cause" "type" "Ljava/lang/String;" u_type_a0) (g_a0 : n0 ≤ a0) (ne_a2_a0 : a2 ≠ a0) (ne_b0_a0 : b0 ≠ a0) (hc0 : z0 = (0 : Int32)) (F_message_a0 : Fld Z h0 a0 "com/example/neat_order/neatorder/model/Cause" "message" "Ljava/lang/String;" u_message_a0) (F_stackTrace_a0 : Fld Z h0 a0 "com/example/neat_order/neatorder/model/Cause" "stackTrace" "Ljava/lang/String;" u_stackTrace_a0) :
    MetFree l yM11 (head1 (Jvm.Cond.code yM11 prog_37_method_1_code 4 none :: ws) ({ frames := 2, cells := 0, slots := 0, locals := 25 } : Room)) (fun a U => a = #[(.ref a0), .null, (.ref a2), .null] ∧ Z.Warmed39 U.vm ∧ U.heap = h0) (fun _ _ _ _ _ => True) (fun _ U o U' => ∃ v L, o = .returned v ∧ Q_rm_ciY Z a0 a2 b0 k_b0 vs0 z0 u_type_a0 u_message_a0 u_stackTrace_a0 h0 n0 v U'.heap L ∧ FrameEnd U o U' L ({ frames := 2, cells := 0, slots := 0, locals := 25 } : Room).cells ({ frames := 2, cells := 0, slots := 0, locals := 25 } : Room).slots) := by
  refine MetFree.of_bodySF (plainFor_of_name pn_3) hisR ?_
  intro p e s m args below meth c s₁ Bd hml0 hP hK
  obtain ⟨rfl, hZ, hh⟩ := hP
  have hx := Bd.exec
  have hby := Bd.bytes
  have hml : c.maxLocals = 4 := hml0
  have hown : s.vm.findClass "com/example/neat_order/neatorder/model/Cause" = some m.cls := findClass_of_methodNamed Bd.named
  have hnm := (name_of_methodNamed Bd.named Bd.method).1
  have X0 : Stand p l e ({ frames := 2, cells := 0, slots := 0, locals := 25 } : Room) s m #[(.ref a0), .null, (.ref a2), .null] below meth c s₁ [] 0 0 := Stand.of_body Bd
  have e0 : s₁.heap = h0 := by rw [← hh, Bd.state]; rfl
  have N0 := Fr.nil n0
  have pre0 : ∀ t, Steps p.tables e below (s₁.setTop (mkF m 0 #[.val (.ref a0), .val .null, .val (.ref a2), .val .null] [])) t → Steps p.tables e below (s₁.setTop (entryFrame m #[(.ref a0), .null, (.ref a2), .null] 4)) t := fun t k => castTop (ef_rm_ciY m a0 a2) k
  change OwnFin p.tables e below _ (s₁.setTop (entryFrame m #[(.ref a0), .null, (.ref a2), .null] 4))
  have kp0 : Keep h0 h0 [a0] := Keep.refl _ _
  refine OwnFin.st (fun _ q => pre0 _ q) ?_
  show OwnFin _ _ _ _ (s₁.setTop (mkF m 0 #[.val (.ref a0), .val .null, .val (.ref a2), .val .null] []))
  refine OwnFin.st (fun _ q => XS.aloadN X0.here hx rfl (hb hby d9_0) rfl rfl q) ?_
  show OwnFin _ _ _ _ (s₁.setTop (mkF m 1 _ [(.ref a0)]))
  obtain ⟨T1, X1, e1, st1⟩ := initO X0 hx hZ hown (w_ hw 49 rfl) (w_ hw 25 rfl) (w_ hw 26 rfl) e0 (g := (mkF m 1 #[.val (.ref a0), .val .null, .val (.ref a2), .val .null] [(.ref a0)])) rfl (by rw [hml]; rfl) rfl (hb hby d9_1) (by decide) (W := 0) (by show 2 * 0 + _ ≤ _; exact Nat.le_of_eq rfl) (by decide)
  refine OwnFin.st st1 ?_
  show OwnFin _ _ _ _ (T1.setTop (mkF m 4 _ []))
  refine OwnFin.st (fun _ q => XS.aloadN X1.here hx rfl (hb hby d9_4) rfl rfl q) ?_
  show OwnFin _ _ _ _ (T1.setTop (mkF m 5 _ [(.ref a0)]))
  refine OwnFin.st (fun _ q => XS.aloadN X1.here hx rfl (hb hby d9_5) rfl rfl q) ?_
  show OwnFin _ _ _ _ (T1.setTop (mkF m 6 _ [.null, (.ref a0)]))
  obtain ⟨_, _, ⟨T2, L2, k2, n2⟩, -, X2, ⟨Lc2, hQ2, l2, y2, z2⟩, st2⟩ := Jvm.LawKit.callS X1 hx (y := yM10) hown (mvT hZ (w_ hw 50 rfl)) (mvT hZ (w_ hw 51 rfl)) (mvT hZ (w_ hw 42 rfl)) (mvT hZ (w_ hw 52 rfl)) (by decide) (backOf (W := 1) (rm_etnN l Z av0 hw []  h0 n0 (Nat.le_trans Z0 kp0.1) ) hZ (w_ hw 52 rfl) (w_ hw 42 rfl) (by decide) (by decide)) (g := (mkF m 6 #[.val (.ref a0), .val .null, .val (.ref a2), .val .null] [.null, (.ref a0)])) rfl (by rw [hml]; rfl) (argsL := [.null]) (rest := [(.ref a0)]) (lenOf pd_6 rfl) rfl (by show 2 * 0 + _ ≤ _; exact Nat.le_of_eq rfl) (hb hby d9_6) (fun _ _ => ⟨rfl, e1, (by decide : 0 + 0 ≤ _), (by decide : 0 + 0 ≤ _)⟩)
  dsimp only [Pt.U, Pt.locs, Pt.cells, Pt.slots] at X2 l2 y2 z2 st2 hQ2
  subst l2 y2 z2
  obtain ⟨rfl, N2q, he2⟩ := hQ2
  have N2 := Fr.app N0 N2q
  refine OwnFin.st st2 ?_
  show OwnFin _ _ _ _ (T2.setTop (mkF m 9 _ [.null, (.ref a0)]))
  obtain ⟨T3, h3, X3, e3, W3, st3⟩ := putF X2 hx hZ hown (host := "") (Or.inl (w_ hw 53 rfl)) Via.refl he2 F_type_a0 X_a0 (Or.inr ⟨(w_ hw 54 rfl), rfl, hnm⟩) (w_ hw 45 rfl) (ty := (.object "java/lang/String")) (by decide) rfl rfl (g := (mkF m 9 #[.val (.ref a0), .val .null, .val (.ref a2), .val .null] [.null, (.ref a0)])) rfl rfl (hb hby d9_9)
  refine OwnFin.st st3 ?_
  have Fw3 : Fld Z h3 a0 "com/example/neat_order/neatorder/model/Cause" "type" "Ljava/lang/String;" .null := F_type_a0.same W3
  have N3 := Fr.snoc X3 N2 g_a0
  have kp4 : Keep h0 h3 [a0] := kp0.wr W3 (Or.inl (List.mem_of_getElem? (i := 0) rfl))
  show OwnFin _ _ _ _ (T3.setTop (mkF m 12 _ []))
  refine OwnFin.st (fun _ q => XS.aloadN X3.here hx rfl (hb hby d9_12) rfl rfl q) ?_
  show OwnFin _ _ _ _ (T3.setTop (mkF m 13 _ [(.ref a0)]))
  refine OwnFin.st (fun _ q => XS.aloadN X3.here hx rfl (hb hby d9_13) rfl rfl q) ?_
  show OwnFin _ _ _ _ (T3.setTop (mkF m 14 _ [(.ref a2), (.ref a0)]))
  show OwnFin _ _ _ _ (T3.setTop (mkF m 14 _ [(.ref a2), (.ref a0)]))
  obtain ⟨_, _, ⟨T5, L5, k5, n5⟩, -, X5, ⟨Lc5, hQ5, l5, y5, z5⟩, st5⟩ := Jvm.LawKit.callS X3 hx (y := yM10) hown (mvT hZ (w_ hw 50 rfl)) (mvT hZ (w_ hw 51 rfl)) (mvT hZ (w_ hw 42 rfl)) (mvT hZ (w_ hw 52 rfl)) (by decide) (backOf (W := 1) (rm_etnY l Z av0 hw [] a2 b0 k_b0 vs0 z0 h3 n0 (Nat.le_trans Z0 kp4.1) (X_a2.wr W3) (F_value_a2.other W3 (Or.inl ne_a2_a0)) (V_b0.other W3 ne_b0_a0) hc0) hZ (w_ hw 52 rfl) (w_ hw 42 rfl) (by decide) (by decide)) (g := (mkF m 14 #[.val (.ref a0), .val .null, .val (.ref a2), .val .null] [(.ref a2), (.ref a0)])) rfl (by rw [hml]; rfl) (argsL := [(.ref a2)]) (rest := [(.ref a0)]) (lenOf pd_6 rfl) rfl (by show 2 * 0 + _ ≤ _; exact Nat.le_of_eq rfl) (hb hby d9_14) (fun _ _ => ⟨rfl, e3, (by decide : 0 + 0 ≤ _), (by decide : 0 + 0 ≤ _)⟩)
  dsimp only [Pt.U, Pt.locs, Pt.cells, Pt.slots] at X5 l5 y5 z5 st5 hQ5
  subst l5 y5 z5
  obtain ⟨rfl, N5q, he5⟩ := hQ5
  have N5 := Fr.app N3 N5q
  refine OwnFin.st st5 ?_
  show OwnFin _ _ _ _ (T5.setTop (mkF m 17 _ [.null, (.ref a0)]))
  have fr6 : Fld Z h3 a0 "com/example/neat_order/neatorder/model/Cause" "message" "Ljava/lang/String;" u_message_a0 := (F_message_a0.other W3 (Or.inr (slot_ne (Or.inr (w_ hw 61 rfl)) (Or.inr (w_ hw 54 rfl)) (by decide) (t := (.object "java/lang/String")) (t' := (.object "java/lang/String")) (by decide) (by decide))))
  obtain ⟨T7, h7, X7, e7, W7, st7⟩ := putF X5 hx hZ hown (host := "") (Or.inl (w_ hw 60 rfl)) Via.refl he5 fr6 (X_a0.wr W3) (Or.inr ⟨(w_ hw 61 rfl), rfl, hnm⟩) (w_ hw 45 rfl) (ty := (.object "java/lang/String")) (by decide) rfl rfl (g := (mkF m 17 #[.val (.ref a0), .val .null, .val (.ref a2), .val .null] [.null, (.ref a0)])) rfl rfl (hb hby d9_17)
  refine OwnFin.st st7 ?_
  have Fw7 : Fld Z h7 a0 "com/example/neat_order/neatorder/model/Cause" "message" "Ljava/lang/String;" .null := (F_message_a0.other W3 (Or.inr (slot_ne (Or.inr (w_ hw 61 rfl)) (Or.inr (w_ hw 54 rfl)) (by decide) (t := (.object "java/lang/String")) (t' := (.object "java/lang/String")) (by decide) (by decide)))).same W7
  have N7 := Fr.snoc X7 N5 g_a0
  have kp8 : Keep h0 h7 [a0] := kp4.wr W7 (Or.inl (List.mem_of_getElem? (i := 0) rfl))
  show OwnFin _ _ _ _ (T7.setTop (mkF m 20 _ []))
  refine OwnFin.st (fun _ q => XS.aloadN X7.here hx rfl (hb hby d9_20) rfl rfl q) ?_
  show OwnFin _ _ _ _ (T7.setTop (mkF m 21 _ [(.ref a0)]))
  refine OwnFin.st (fun _ q => XS.aloadN X7.here hx rfl (hb hby d9_21) rfl rfl q) ?_
  show OwnFin _ _ _ _ (T7.setTop (mkF m 22 #[.val (.ref a0), .val .null, .val (.ref a2), .val .null] [.null, (.ref a0)]))
  obtain ⟨_, _, ⟨T9, L9, k9, n9⟩, -, X9, ⟨Lc9, hQ9, l9, y9, z9⟩, st9⟩ := Jvm.LawKit.callS X7 hx (y := yM10) hown (mvT hZ (w_ hw 50 rfl)) (mvT hZ (w_ hw 51 rfl)) (mvT hZ (w_ hw 42 rfl)) (mvT hZ (w_ hw 52 rfl)) (by decide) (backOf (W := 1) (rm_etnN l Z av0 hw []  h7 n0 (Nat.le_trans Z0 kp8.1) ) hZ (w_ hw 52 rfl) (w_ hw 42 rfl) (by decide) (by decide)) (g := (mkF m 22 #[.val (.ref a0), .val .null, .val (.ref a2), .val .null] [.null, (.ref a0)])) rfl (by rw [hml]; rfl) (argsL := [.null]) (rest := [(.ref a0)]) (lenOf pd_6 rfl) rfl (by show 2 * 0 + _ ≤ _; exact Nat.le_of_eq rfl) (hb hby d9_22) (fun _ _ => ⟨rfl, e7, (by decide : 0 + 0 ≤ _), (by decide : 0 + 0 ≤ _)⟩)
  dsimp only [Pt.U, Pt.locs, Pt.cells, Pt.slots] at X9 l9 y9 z9 st9 hQ9
  subst l9 y9 z9
  obtain ⟨rfl, N9q, he9⟩ := hQ9
  have N9 := Fr.app N7 N9q
  refine OwnFin.st st9 ?_
  show OwnFin _ _ _ _ (T9.setTop (mkF m 25 _ [.null, (.ref a0)]))
  have fr10 : Fld Z h7 a0 "com/example/neat_order/neatorder/model/Cause" "stackTrace" "Ljava/lang/String;" u_stackTrace_a0 := ((F_stackTrace_a0.other W3 (Or.inr (slot_ne (Or.inr (w_ hw 63 rfl)) (Or.inr (w_ hw 54 rfl)) (by decide) (t := (.object "java/lang/String")) (t' := (.object "java/lang/String")) (by decide) (by decide)))).other W7 (Or.inr (slot_ne (Or.inr (w_ hw 63 rfl)) (Or.inr (w_ hw 61 rfl)) (by decide) (t := (.object "java/lang/String")) (t' := (.object "java/lang/String")) (by decide) (by decide))))
  obtain ⟨T11, h11, X11, e11, W11, st11⟩ := putF X9 hx hZ hown (host := "") (Or.inl (w_ hw 62 rfl)) Via.refl he9 fr10 ((X_a0.wr W3).wr W7) (Or.inr ⟨(w_ hw 63 rfl), rfl, hnm⟩) (w_ hw 45 rfl) (ty := (.object "java/lang/String")) (by decide) rfl rfl (g := (mkF m 25 #[.val (.ref a0), .val .null, .val (.ref a2), .val .null] [.null, (.ref a0)])) rfl rfl (hb hby d9_25)
  refine OwnFin.st st11 ?_
  have Fw11 : Fld Z h11 a0 "com/example/neat_order/neatorder/model/Cause" "stackTrace" "Ljava/lang/String;" .null := ((F_stackTrace_a0.other W3 (Or.inr (slot_ne (Or.inr (w_ hw 63 rfl)) (Or.inr (w_ hw 54 rfl)) (by decide) (t := (.object "java/lang/String")) (t' := (.object "java/lang/String")) (by decide) (by decide)))).other W7 (Or.inr (slot_ne (Or.inr (w_ hw 63 rfl)) (Or.inr (w_ hw 61 rfl)) (by decide) (t := (.object "java/lang/String")) (t' := (.object "java/lang/String")) (by decide) (by decide)))).same W11
  have N11 := Fr.snoc X11 N9 g_a0
  have kp12 : Keep h0 h11 [a0] := kp8.wr W11 (Or.inl (List.mem_of_getElem? (i := 0) rfl))
  show OwnFin _ _ _ _ (T11.setTop (mkF m 28 _ []))
  obtain ⟨fs, hr, hrun, hended, hW, hsame⟩ := X11.leave (v := none) (fun _ => rfl)
  refine ⟨_, _, X11.returnOut hx Bd.returns (hb hby d9_28) hr, hrun, hended, _, _, rfl, ?_, ⟨_, rfl⟩, hW, hsame.mono (by decide) (by decide)⟩
  show Q_rm_ciY Z a0 a2 b0 k_b0 vs0 z0 u_type_a0 u_message_a0 u_stackTrace_a0 h0 n0 _ T11.heap _
  rw [e11]
  have fr13 : Fld Z h11 a0 "com/example/neat_order/neatorder/model/Cause" "type" "Ljava/lang/String;" .null := ((Fw3.other W7 (Or.inr (slot_ne (Or.inr (w_ hw 54 rfl)) (Or.inr (w_ hw 61 rfl)) (by decide) (t := (.object "java/lang/String")) (t' := (.object "java/lang/String")) (by decide) (by decide)))).other W11 (Or.inr (slot_ne (Or.inr (w_ hw 54 rfl)) (Or.inr (w_ hw 63 rfl)) (by decide) (t := (.object "java/lang/String")) (t' := (.object "java/lang/String")) (by decide) (by decide))))
  have fr14 : Fld Z h11 a0 "com/example/neat_order/neatorder/model/Cause" "message" "Ljava/lang/String;" .null := (Fw7.other W11 (Or.inr (slot_ne (Or.inr (w_ hw 61 rfl)) (Or.inr (w_ hw 63 rfl)) (by decide) (t := (.object "java/lang/String")) (t' := (.object "java/lang/String")) (by decide) (by decide))))
  exact ⟨rfl, N11, kp12, fr13, fr14, Fw11⟩
theorem ef_rm_ciZ (m : MethodId) (a0 : Addr) (a2 : Addr) : entryFrame m #[(.ref a0), .null, (.ref a2), .null] 4 = mkF m 0 #[.val (.ref a0), .val .null, .val (.ref a2), .val .null] [] := by first | (simp [entryFrame, mkF, argsToLocals, Value.category]; done) | rfl
def Q_rm_ciZ (Z : State) (a0 : Addr) (a2 : Addr) (b0 : Addr) (k_b0 : ClassId) (vs0 : List Value) (z0 : Int32) (u_type_a0 : Value) (u_message_a0 : Value) (u_stackTrace_a0 : Value) (h0 : Heap) (n0 : Nat) (v : Option Value) (h : Heap) (L : List Loc) : Prop := v = none ∧ Fr n0 L ∧ Keep h0 h [a0] ∧ Fld Z h a0 "com/example/neat_order/neatorder/model/Cause" "type" "Ljava/lang/String;" .null ∧ Fld Z h a0 "com/example/neat_order/neatorder/model/Cause" "message" "Ljava/lang/String;" (.ref a2) ∧ Fld Z h a0 "com/example/neat_order/neatorder/model/Cause" "stackTrace" "Ljava/lang/String;" .null
set_option maxRecDepth 65536 in
set_option maxHeartbeats 40000000 in
theorem rm_ciZ (l : Launch) (Z : State) (av0 : Array Value) (hw : ∀ d ∈ tables_1, d.before av0 Z = true) (ws : List Jvm.Cond) (a0 : Addr) (a2 : Addr) (b0 : Addr) (k_b0 : ClassId) (vs0 : List Value) (z0 : Int32) (u_type_a0 : Value) (u_message_a0 : Value) (u_stackTrace_a0 : Value) (h0 : Heap) (n0 : Nat) (Z0 : n0 ≤ h0.size) (X_a2 : Exa Z h0 a2 "java/lang/String") (F_value_a2 : Fld Z h0 a2 "java/lang/String" "value" "[B" (.ref b0)) (V_b0 : Arv Z h0 b0 k_b0 .byte z0 vs0 (.int 0)) (X_a0 : Exa Z h0 a0 "com/example/neat_order/neatorder/model/Cause") (F_type_a0 : Fld Z h0 a0 "com/example/neat_order/neatorder/model/Cause" "type" "Ljava/lang/String;" u_type_a0) (g_a0 : n0 ≤ a0) (ne_a2_a0 : a2 ≠ a0) (ne_b0_a0 : b0 ≠ a0) (hc0 : ¬ (z0 = (0 : Int32))) (F_message_a0 : Fld Z h0 a0 "com/example/neat_order/neatorder/model/Cause" "message" "Ljava/lang/String;" u_message_a0) (F_stackTrace_a0 : Fld Z h0 a0 "com/example/neat_order/neatorder/model/Cause" "stackTrace" "Ljava/lang/String;" u_stackTrace_a0) :
    MetFree l yM11 (head1 (Jvm.Cond.code yM11 prog_37_method_1_code 4 none :: ws) ({ frames := 2, cells := 0, slots := 0, locals := 25 } : Room)) (fun a U => a = #[(.ref a0), .null, (.ref a2), .null] ∧ Z.Warmed39 U.vm ∧ U.heap = h0) (fun _ _ _ _ _ => True) (fun _ U o U' => ∃ v L, o = .returned v ∧ Q_rm_ciZ Z a0 a2 b0 k_b0 vs0 z0 u_type_a0 u_message_a0 u_stackTrace_a0 h0 n0 v U'.heap L ∧ FrameEnd U o U' L ({ frames := 2, cells := 0, slots := 0, locals := 25 } : Room).cells ({ frames := 2, cells := 0, slots := 0, locals := 25 } : Room).slots) := by
  refine MetFree.of_bodySF (plainFor_of_name pn_3) hisR ?_
  intro p e s m args below meth c s₁ Bd hml0 hP hK
  obtain ⟨rfl, hZ, hh⟩ := hP
  have hx := Bd.exec
  have hby := Bd.bytes
  have hml : c.maxLocals = 4 := hml0
  have hown : s.vm.findClass "com/example/neat_order/neatorder/model/Cause" = some m.cls := findClass_of_methodNamed Bd.named
  have hnm := (name_of_methodNamed Bd.named Bd.method).1
  have X0 : Stand p l e ({ frames := 2, cells := 0, slots := 0, locals := 25 } : Room) s m #[(.ref a0), .null, (.ref a2), .null] below meth c s₁ [] 0 0 := Stand.of_body Bd
  have e0 : s₁.heap = h0 := by rw [← hh, Bd.state]; rfl
  have N0 := Fr.nil n0
  have pre0 : ∀ t, Steps p.tables e below (s₁.setTop (mkF m 0 #[.val (.ref a0), .val .null, .val (.ref a2), .val .null] [])) t → Steps p.tables e below (s₁.setTop (entryFrame m #[(.ref a0), .null, (.ref a2), .null] 4)) t := fun t k => castTop (ef_rm_ciZ m a0 a2) k
  change OwnFin p.tables e below _ (s₁.setTop (entryFrame m #[(.ref a0), .null, (.ref a2), .null] 4))
  have kp0 : Keep h0 h0 [a0] := Keep.refl _ _
  refine OwnFin.st (fun _ q => pre0 _ q) ?_
  show OwnFin _ _ _ _ (s₁.setTop (mkF m 0 #[.val (.ref a0), .val .null, .val (.ref a2), .val .null] []))
  refine OwnFin.st (fun _ q => XS.aloadN X0.here hx rfl (hb hby d9_0) rfl rfl q) ?_
  show OwnFin _ _ _ _ (s₁.setTop (mkF m 1 _ [(.ref a0)]))
  obtain ⟨T1, X1, e1, st1⟩ := initO X0 hx hZ hown (w_ hw 49 rfl) (w_ hw 25 rfl) (w_ hw 26 rfl) e0 (g := (mkF m 1 #[.val (.ref a0), .val .null, .val (.ref a2), .val .null] [(.ref a0)])) rfl (by rw [hml]; rfl) rfl (hb hby d9_1) (by decide) (W := 0) (by show 2 * 0 + _ ≤ _; exact Nat.le_of_eq rfl) (by decide)
  refine OwnFin.st st1 ?_
  show OwnFin _ _ _ _ (T1.setTop (mkF m 4 _ []))
  refine OwnFin.st (fun _ q => XS.aloadN X1.here hx rfl (hb hby d9_4) rfl rfl q) ?_
  show OwnFin _ _ _ _ (T1.setTop (mkF m 5 _ [(.ref a0)]))
  refine OwnFin.st (fun _ q => XS.aloadN X1.here hx rfl (hb hby d9_5) rfl rfl q) ?_
  show OwnFin _ _ _ _ (T1.setTop (mkF m 6 _ [.null, (.ref a0)]))
  obtain ⟨_, _, ⟨T2, L2, k2, n2⟩, -, X2, ⟨Lc2, hQ2, l2, y2, z2⟩, st2⟩ := Jvm.LawKit.callS X1 hx (y := yM10) hown (mvT hZ (w_ hw 50 rfl)) (mvT hZ (w_ hw 51 rfl)) (mvT hZ (w_ hw 42 rfl)) (mvT hZ (w_ hw 52 rfl)) (by decide) (backOf (W := 1) (rm_etnN l Z av0 hw []  h0 n0 (Nat.le_trans Z0 kp0.1) ) hZ (w_ hw 52 rfl) (w_ hw 42 rfl) (by decide) (by decide)) (g := (mkF m 6 #[.val (.ref a0), .val .null, .val (.ref a2), .val .null] [.null, (.ref a0)])) rfl (by rw [hml]; rfl) (argsL := [.null]) (rest := [(.ref a0)]) (lenOf pd_6 rfl) rfl (by show 2 * 0 + _ ≤ _; exact Nat.le_of_eq rfl) (hb hby d9_6) (fun _ _ => ⟨rfl, e1, (by decide : 0 + 0 ≤ _), (by decide : 0 + 0 ≤ _)⟩)
  dsimp only [Pt.U, Pt.locs, Pt.cells, Pt.slots] at X2 l2 y2 z2 st2 hQ2
  subst l2 y2 z2
  obtain ⟨rfl, N2q, he2⟩ := hQ2
  have N2 := Fr.app N0 N2q
  refine OwnFin.st st2 ?_
  show OwnFin _ _ _ _ (T2.setTop (mkF m 9 _ [.null, (.ref a0)]))
  obtain ⟨T3, h3, X3, e3, W3, st3⟩ := putF X2 hx hZ hown (host := "") (Or.inl (w_ hw 53 rfl)) Via.refl he2 F_type_a0 X_a0 (Or.inr ⟨(w_ hw 54 rfl), rfl, hnm⟩) (w_ hw 45 rfl) (ty := (.object "java/lang/String")) (by decide) rfl rfl (g := (mkF m 9 #[.val (.ref a0), .val .null, .val (.ref a2), .val .null] [.null, (.ref a0)])) rfl rfl (hb hby d9_9)
  refine OwnFin.st st3 ?_
  have Fw3 : Fld Z h3 a0 "com/example/neat_order/neatorder/model/Cause" "type" "Ljava/lang/String;" .null := F_type_a0.same W3
  have N3 := Fr.snoc X3 N2 g_a0
  have kp4 : Keep h0 h3 [a0] := kp0.wr W3 (Or.inl (List.mem_of_getElem? (i := 0) rfl))
  show OwnFin _ _ _ _ (T3.setTop (mkF m 12 _ []))
  refine OwnFin.st (fun _ q => XS.aloadN X3.here hx rfl (hb hby d9_12) rfl rfl q) ?_
  show OwnFin _ _ _ _ (T3.setTop (mkF m 13 _ [(.ref a0)]))
  refine OwnFin.st (fun _ q => XS.aloadN X3.here hx rfl (hb hby d9_13) rfl rfl q) ?_
  show OwnFin _ _ _ _ (T3.setTop (mkF m 14 _ [(.ref a2), (.ref a0)]))
  show OwnFin _ _ _ _ (T3.setTop (mkF m 14 _ [(.ref a2), (.ref a0)]))
  obtain ⟨_, _, ⟨T5, L5, k5, n5⟩, -, X5, ⟨Lc5, hQ5, l5, y5, z5⟩, st5⟩ := Jvm.LawKit.callS X3 hx (y := yM10) hown (mvT hZ (w_ hw 50 rfl)) (mvT hZ (w_ hw 51 rfl)) (mvT hZ (w_ hw 42 rfl)) (mvT hZ (w_ hw 52 rfl)) (by decide) (backOf (W := 1) (rm_etnZ l Z av0 hw [] a2 b0 k_b0 vs0 z0 h3 n0 (Nat.le_trans Z0 kp4.1) (X_a2.wr W3) (F_value_a2.other W3 (Or.inl ne_a2_a0)) (V_b0.other W3 ne_b0_a0) hc0) hZ (w_ hw 52 rfl) (w_ hw 42 rfl) (by decide) (by decide)) (g := (mkF m 14 #[.val (.ref a0), .val .null, .val (.ref a2), .val .null] [(.ref a2), (.ref a0)])) rfl (by rw [hml]; rfl) (argsL := [(.ref a2)]) (rest := [(.ref a0)]) (lenOf pd_6 rfl) rfl (by show 2 * 0 + _ ≤ _; exact Nat.le_of_eq rfl) (hb hby d9_14) (fun _ _ => ⟨rfl, e3, (by decide : 0 + 0 ≤ _), (by decide : 0 + 0 ≤ _)⟩)
  dsimp only [Pt.U, Pt.locs, Pt.cells, Pt.slots] at X5 l5 y5 z5 st5 hQ5
  subst l5 y5 z5
  obtain ⟨rfl, N5q, he5⟩ := hQ5
  have N5 := Fr.app N3 N5q
  refine OwnFin.st st5 ?_
  show OwnFin _ _ _ _ (T5.setTop (mkF m 17 _ [(.ref a2), (.ref a0)]))
  have fr6 : Fld Z h3 a0 "com/example/neat_order/neatorder/model/Cause" "message" "Ljava/lang/String;" u_message_a0 := (F_message_a0.other W3 (Or.inr (slot_ne (Or.inr (w_ hw 61 rfl)) (Or.inr (w_ hw 54 rfl)) (by decide) (t := (.object "java/lang/String")) (t' := (.object "java/lang/String")) (by decide) (by decide))))
  obtain ⟨T7, h7, X7, e7, W7, st7⟩ := putF X5 hx hZ hown (host := "") (Or.inl (w_ hw 60 rfl)) Via.refl he5 fr6 (X_a0.wr W3) (Or.inr ⟨(w_ hw 61 rfl), rfl, hnm⟩) (w_ hw 45 rfl) (ty := (.object "java/lang/String")) (by decide) rfl rfl (g := (mkF m 17 #[.val (.ref a0), .val .null, .val (.ref a2), .val .null] [(.ref a2), (.ref a0)])) rfl rfl (hb hby d9_17)
  refine OwnFin.st st7 ?_
  have Fw7 : Fld Z h7 a0 "com/example/neat_order/neatorder/model/Cause" "message" "Ljava/lang/String;" (.ref a2) := (F_message_a0.other W3 (Or.inr (slot_ne (Or.inr (w_ hw 61 rfl)) (Or.inr (w_ hw 54 rfl)) (by decide) (t := (.object "java/lang/String")) (t' := (.object "java/lang/String")) (by decide) (by decide)))).same W7
  have N7 := Fr.snoc X7 N5 g_a0
  have kp8 : Keep h0 h7 [a0] := kp4.wr W7 (Or.inl (List.mem_of_getElem? (i := 0) rfl))
  show OwnFin _ _ _ _ (T7.setTop (mkF m 20 _ []))
  refine OwnFin.st (fun _ q => XS.aloadN X7.here hx rfl (hb hby d9_20) rfl rfl q) ?_
  show OwnFin _ _ _ _ (T7.setTop (mkF m 21 _ [(.ref a0)]))
  refine OwnFin.st (fun _ q => XS.aloadN X7.here hx rfl (hb hby d9_21) rfl rfl q) ?_
  show OwnFin _ _ _ _ (T7.setTop (mkF m 22 #[.val (.ref a0), .val .null, .val (.ref a2), .val .null] [.null, (.ref a0)]))
  obtain ⟨_, _, ⟨T9, L9, k9, n9⟩, -, X9, ⟨Lc9, hQ9, l9, y9, z9⟩, st9⟩ := Jvm.LawKit.callS X7 hx (y := yM10) hown (mvT hZ (w_ hw 50 rfl)) (mvT hZ (w_ hw 51 rfl)) (mvT hZ (w_ hw 42 rfl)) (mvT hZ (w_ hw 52 rfl)) (by decide) (backOf (W := 1) (rm_etnN l Z av0 hw []  h7 n0 (Nat.le_trans Z0 kp8.1) ) hZ (w_ hw 52 rfl) (w_ hw 42 rfl) (by decide) (by decide)) (g := (mkF m 22 #[.val (.ref a0), .val .null, .val (.ref a2), .val .null] [.null, (.ref a0)])) rfl (by rw [hml]; rfl) (argsL := [.null]) (rest := [(.ref a0)]) (lenOf pd_6 rfl) rfl (by show 2 * 0 + _ ≤ _; exact Nat.le_of_eq rfl) (hb hby d9_22) (fun _ _ => ⟨rfl, e7, (by decide : 0 + 0 ≤ _), (by decide : 0 + 0 ≤ _)⟩)
  dsimp only [Pt.U, Pt.locs, Pt.cells, Pt.slots] at X9 l9 y9 z9 st9 hQ9
  subst l9 y9 z9
  obtain ⟨rfl, N9q, he9⟩ := hQ9
  have N9 := Fr.app N7 N9q
  refine OwnFin.st st9 ?_
  show OwnFin _ _ _ _ (T9.setTop (mkF m 25 _ [.null, (.ref a0)]))
  have fr10 : Fld Z h7 a0 "com/example/neat_order/neatorder/model/Cause" "stackTrace" "Ljava/lang/String;" u_stackTrace_a0 := ((F_stackTrace_a0.other W3 (Or.inr (slot_ne (Or.inr (w_ hw 63 rfl)) (Or.inr (w_ hw 54 rfl)) (by decide) (t := (.object "java/lang/String")) (t' := (.object "java/lang/String")) (by decide) (by decide)))).other W7 (Or.inr (slot_ne (Or.inr (w_ hw 63 rfl)) (Or.inr (w_ hw 61 rfl)) (by decide) (t := (.object "java/lang/String")) (t' := (.object "java/lang/String")) (by decide) (by decide))))
  obtain ⟨T11, h11, X11, e11, W11, st11⟩ := putF X9 hx hZ hown (host := "") (Or.inl (w_ hw 62 rfl)) Via.refl he9 fr10 ((X_a0.wr W3).wr W7) (Or.inr ⟨(w_ hw 63 rfl), rfl, hnm⟩) (w_ hw 45 rfl) (ty := (.object "java/lang/String")) (by decide) rfl rfl (g := (mkF m 25 #[.val (.ref a0), .val .null, .val (.ref a2), .val .null] [.null, (.ref a0)])) rfl rfl (hb hby d9_25)
  refine OwnFin.st st11 ?_
  have Fw11 : Fld Z h11 a0 "com/example/neat_order/neatorder/model/Cause" "stackTrace" "Ljava/lang/String;" .null := ((F_stackTrace_a0.other W3 (Or.inr (slot_ne (Or.inr (w_ hw 63 rfl)) (Or.inr (w_ hw 54 rfl)) (by decide) (t := (.object "java/lang/String")) (t' := (.object "java/lang/String")) (by decide) (by decide)))).other W7 (Or.inr (slot_ne (Or.inr (w_ hw 63 rfl)) (Or.inr (w_ hw 61 rfl)) (by decide) (t := (.object "java/lang/String")) (t' := (.object "java/lang/String")) (by decide) (by decide)))).same W11
  have N11 := Fr.snoc X11 N9 g_a0
  have kp12 : Keep h0 h11 [a0] := kp8.wr W11 (Or.inl (List.mem_of_getElem? (i := 0) rfl))
  show OwnFin _ _ _ _ (T11.setTop (mkF m 28 _ []))
  obtain ⟨fs, hr, hrun, hended, hW, hsame⟩ := X11.leave (v := none) (fun _ => rfl)
  refine ⟨_, _, X11.returnOut hx Bd.returns (hb hby d9_28) hr, hrun, hended, _, _, rfl, ?_, ⟨_, rfl⟩, hW, hsame.mono (by decide) (by decide)⟩
  show Q_rm_ciZ Z a0 a2 b0 k_b0 vs0 z0 u_type_a0 u_message_a0 u_stackTrace_a0 h0 n0 _ T11.heap _
  rw [e11]
  have fr13 : Fld Z h11 a0 "com/example/neat_order/neatorder/model/Cause" "type" "Ljava/lang/String;" .null := ((Fw3.other W7 (Or.inr (slot_ne (Or.inr (w_ hw 54 rfl)) (Or.inr (w_ hw 61 rfl)) (by decide) (t := (.object "java/lang/String")) (t' := (.object "java/lang/String")) (by decide) (by decide)))).other W11 (Or.inr (slot_ne (Or.inr (w_ hw 54 rfl)) (Or.inr (w_ hw 63 rfl)) (by decide) (t := (.object "java/lang/String")) (t' := (.object "java/lang/String")) (by decide) (by decide))))
  have fr14 : Fld Z h11 a0 "com/example/neat_order/neatorder/model/Cause" "message" "Ljava/lang/String;" (.ref a2) := (Fw7.other W11 (Or.inr (slot_ne (Or.inr (w_ hw 61 rfl)) (Or.inr (w_ hw 63 rfl)) (by decide) (t := (.object "java/lang/String")) (t' := (.object "java/lang/String")) (by decide) (by decide))))
  exact ⟨rfl, N11, kp12, fr13, fr14, Fw11⟩
theorem pd_7 : parseMethodDescriptor "(Ljava/lang/String;Ljava/lang/String;Ljava/lang/String;)V" = some ⟨[(.object "java/lang/String"), (.object "java/lang/String"), (.object "java/lang/String")], none⟩ := by decide +kernel
theorem d8_0 : decode prog_37_method_2_code 0 = .ok (.new 8, 3) := by decide +kernel
theorem d8_3 : decode prog_37_method_2_code 3 = .ok (.dup, 1) := by decide +kernel
theorem d8_4 : decode prog_37_method_2_code 4 = .ok (.aconst_null, 1) := by decide +kernel
theorem d8_5 : decode prog_37_method_2_code 5 = .ok (.aload_n 0, 1) := by decide +kernel
theorem d8_6 : decode prog_37_method_2_code 6 = .ok (.aconst_null, 1) := by decide +kernel
theorem d8_7 : decode prog_37_method_2_code 7 = .ok (.invokespecial 23, 3) := by decide +kernel
theorem d8_10 : decode prog_37_method_2_code 10 = .ok (.areturn, 1) := by decide +kernel
theorem ef_rm_cof (m : MethodId) (a0 : Addr) : entryFrame m #[(.ref a0)] 1 = mkF m 0 #[.val (.ref a0)] [] := by first | (simp [entryFrame, mkF, argsToLocals, Value.category]; done) | rfl
def Q_rm_cof (Z : State) (a0 : Addr) (b0 : Addr) (k_b0 : ClassId) (vs0 : List Value) (z0 : Int32) (h0 : Heap) (n0 : Nat) (v : Option Value) (h : Heap) (L : List Loc) : Prop := ∃ (rC : Addr), v = some (.ref rC) ∧ Fr n0 L ∧ Keep h0 h [] ∧ h0.size ≤ rC ∧ Exa Z h rC "com/example/neat_order/neatorder/model/Cause"
set_option maxRecDepth 65536 in
set_option maxHeartbeats 40000000 in
theorem rm_cof (l : Launch) (Z : State) (av0 : Array Value) (hw : ∀ d ∈ tables_1, d.before av0 Z = true) (ws : List Jvm.Cond) (a0 : Addr) (b0 : Addr) (k_b0 : ClassId) (vs0 : List Value) (z0 : Int32) (h0 : Heap) (n0 : Nat) (Z0 : n0 ≤ h0.size) (X_a0 : Exa Z h0 a0 "java/lang/String") (F_value_a0 : Fld Z h0 a0 "java/lang/String" "value" "[B" (.ref b0)) (V_b0 : Arv Z h0 b0 k_b0 .byte z0 vs0 (.int 0)) :
    MetFree l yM12 (head1 (Jvm.Cond.code yM12 prog_37_method_2_code 1 (some (.object "com/example/neat_order/neatorder/model/Cause")) :: ws) ({ frames := 3, cells := 1, slots := 3, locals := 41 } : Room)) (fun a U => a = #[(.ref a0)] ∧ Z.Warmed39 U.vm ∧ U.heap = h0) (fun _ _ _ _ _ => True) (fun _ U o U' => ∃ v L, o = .returned v ∧ Q_rm_cof Z a0 b0 k_b0 vs0 z0 h0 n0 v U'.heap L ∧ FrameEnd U o U' L ({ frames := 3, cells := 1, slots := 3, locals := 41 } : Room).cells ({ frames := 3, cells := 1, slots := 3, locals := 41 } : Room).slots) := by
  refine MetFree.of_bodySF (plainFor_of_name pn_3) hisR ?_
  intro p e s m args below meth c s₁ Bd hml0 hP hK
  obtain ⟨rfl, hZ, hh⟩ := hP
  have hx := Bd.exec
  have hby := Bd.bytes
  have hml : c.maxLocals = 1 := hml0
  have hown : s.vm.findClass "com/example/neat_order/neatorder/model/Cause" = some m.cls := findClass_of_methodNamed Bd.named
  have hnm := (name_of_methodNamed Bd.named Bd.method).1
  have X0 : Stand p l e ({ frames := 3, cells := 1, slots := 3, locals := 41 } : Room) s m #[(.ref a0)] below meth c s₁ [] 0 0 := Stand.of_body Bd
  have e0 : s₁.heap = h0 := by rw [← hh, Bd.state]; rfl
  have N0 := Fr.nil n0
  have pre0 : ∀ t, Steps p.tables e below (s₁.setTop (mkF m 0 #[.val (.ref a0)] [])) t → Steps p.tables e below (s₁.setTop (entryFrame m #[(.ref a0)] 1)) t := fun t k => castTop (ef_rm_cof m a0) k
  change OwnFin p.tables e below _ (s₁.setTop (entryFrame m #[(.ref a0)] 1))
  have kp0 : Keep h0 h0 [] := Keep.refl _ _
  refine OwnFin.st (fun _ q => pre0 _ q) ?_
  show OwnFin _ _ _ _ (s₁.setTop (mkF m 0 #[.val (.ref a0)] []))
  obtain ⟨T1, h1, X1, e1, E1, A1, D1, -, st1⟩ := newO X0 hx hZ hown (w_ hw 44 rfl) (w_ hw 45 rfl) (w_ hw 42 rfl) e0 (g := (mkF m 0 #[.val (.ref a0)] [])) rfl (hb hby d8_0) (by decide) (by decide)
  obtain ⟨b1, qe1⟩ : ∃ z, z = h0.size := ⟨_, rfl⟩
  rw [← qe1] at A1 D1 st1
  refine OwnFin.st st1 ?_
  have bi_b1 : h0.size ≤ b1 := Nat.le_of_eq qe1.symm
  have lo_b1 : h0.size ≤ b1 := Nat.le_trans kp0.1 bi_b1
  have g_b1 : n0 ≤ b1 := Nat.le_trans Z0 lo_b1
  have kp2 : Keep h0 h1 [] := kp0.ext E1
  have F_type_b1 : Fld Z h1 b1 "com/example/neat_order/neatorder/model/Cause" "type" "Ljava/lang/String;" .null := D1 (Or.inr (w_ hw 54 rfl)) (ty := (.object "java/lang/String")) (by decide)
  have F_message_b1 : Fld Z h1 b1 "com/example/neat_order/neatorder/model/Cause" "message" "Ljava/lang/String;" .null := D1 (Or.inr (w_ hw 61 rfl)) (ty := (.object "java/lang/String")) (by decide)
  have F_stackTrace_b1 : Fld Z h1 b1 "com/example/neat_order/neatorder/model/Cause" "stackTrace" "Ljava/lang/String;" .null := D1 (Or.inr (w_ hw 63 rfl)) (ty := (.object "java/lang/String")) (by decide)
  show OwnFin _ _ _ _ (T1.setTop (mkF m 3 _ [(.ref b1)]))
  refine OwnFin.st (fun _ q => XS.dup X1.here hx rfl (hb hby d8_3) rfl rfl q) ?_
  show OwnFin _ _ _ _ (T1.setTop (mkF m 4 _ [(.ref b1), (.ref b1)]))
  refine OwnFin.st (fun _ q => XS.aconstNull X1.here hx rfl (hb hby d8_4) q) ?_
  show OwnFin _ _ _ _ (T1.setTop (mkF m 5 _ [.null, (.ref b1), (.ref b1)]))
  refine OwnFin.st (fun _ q => XS.aloadN X1.here hx rfl (hb hby d8_5) rfl rfl q) ?_
  show OwnFin _ _ _ _ (T1.setTop (mkF m 6 _ [(.ref a0), .null, (.ref b1), (.ref b1)]))
  refine OwnFin.st (fun _ q => XS.aconstNull X1.here hx rfl (hb hby d8_6) q) ?_
  show OwnFin _ _ _ _ (T1.setTop (mkF m 7 _ [.null, (.ref a0), .null, (.ref b1), (.ref b1)]))
  by_cases hc3 : z0 = (0 : Int32)
  ·
   show OwnFin _ _ _ _ (T1.setTop (mkF m 7 _ [.null, (.ref a0), .null, (.ref b1), (.ref b1)]))
   obtain ⟨_, _, ⟨T4, L4, k4, n4⟩, -, X4, ⟨Lc4, hQ4, l4, y4, z4⟩, st4⟩ := X1.specialBack hx (y := yM11) rfl hown (mvT hZ (w_ hw 46 rfl)) (mvT hZ (w_ hw 47 rfl)) (mvT hZ (w_ hw 48 rfl)) (by decide) (backOf (W := 1) (rm_ciY l Z av0 hw [] b1 a0 b0 k_b0 vs0 z0 .null .null .null h1 n0 (Nat.le_trans Z0 kp2.1) (X_a0.ext E1) (F_value_a0.ext E1) (V_b0.ext E1) A1 F_type_b1 g_b1 (Nat.ne_of_lt (Nat.lt_of_lt_of_le X_a0.lt bi_b1)) (Nat.ne_of_lt (Nat.lt_of_lt_of_le V_b0.lt bi_b1)) hc3 F_message_b1 F_stackTrace_b1) hZ (w_ hw 48 rfl) (w_ hw 42 rfl) (by decide) (by decide)) (g := (mkF m 7 #[.val (.ref a0)] [.null, (.ref a0), .null, (.ref b1), (.ref b1)])) rfl (by rw [hml]; rfl) (Steps.refl _) (a := b1) (argsL := [.null, (.ref a0), .null]) (rest := [(.ref b1)]) (lenOf pd_7 rfl) rfl (by show 2 * 0 + _ ≤ _; exact Nat.le_of_eq rfl) (hb hby d8_7) (fun _ _ => ⟨rfl, e1, (by decide : 1 + 0 ≤ _), (by decide : 3 + 0 ≤ _)⟩)
   dsimp only [Pt.U, Pt.locs, Pt.cells, Pt.slots] at X4 l4 y4 z4 st4 hQ4
   subst l4 y4 z4
   obtain ⟨rfl, N4q, K4, r4_0, r4_1, r4_2⟩ := hQ4
   have N4 := Fr.app N0 N4q
   refine OwnFin.tr st4 ?_
   obtain ⟨h4, e4⟩ : ∃ z, T4.heap = z := ⟨_, rfl⟩
   rw [e4] at K4 r4_0 r4_1 r4_2
   have kp5 : Keep h0 h4 [] := kp2.trans K4 (allS (Or.inr lo_b1) all0)
   show OwnFin _ _ _ _ (T4.setTop (mkF m 10 _ [(.ref b1)]))
   obtain ⟨fs, hr, hrun, hended, hW, hsame⟩ := X4.leave (v := some (.ref b1)) (fun h => by rw [Bd.returns] at h; cases h)
   refine ⟨_, _, retOut X4 hx Bd.returns rfl (Or.inr (Or.inr (Or.inr (Or.inr ⟨rfl, rfl, rfl⟩)))) (hb hby d8_10) hr, hrun, hended, _, _, rfl, ?_, ⟨_, rfl⟩, hW, hsame.mono (by decide) (by decide)⟩
   show Q_rm_cof Z a0 b0 k_b0 vs0 z0 h0 n0 _ T4.heap _
   rw [e4]
   exact ⟨b1, rfl, N4, kp5, lo_b1, (A1.keep K4)⟩
  ·
   show OwnFin _ _ _ _ (T1.setTop (mkF m 7 _ [.null, (.ref a0), .null, (.ref b1), (.ref b1)]))
   obtain ⟨_, _, ⟨T6, L6, k6, n6⟩, -, X6, ⟨Lc6, hQ6, l6, y6, z6⟩, st6⟩ := X1.specialBack hx (y := yM11) rfl hown (mvT hZ (w_ hw 46 rfl)) (mvT hZ (w_ hw 47 rfl)) (mvT hZ (w_ hw 48 rfl)) (by decide) (backOf (W := 1) (rm_ciZ l Z av0 hw [] b1 a0 b0 k_b0 vs0 z0 .null .null .null h1 n0 (Nat.le_trans Z0 kp2.1) (X_a0.ext E1) (F_value_a0.ext E1) (V_b0.ext E1) A1 F_type_b1 g_b1 (Nat.ne_of_lt (Nat.lt_of_lt_of_le X_a0.lt bi_b1)) (Nat.ne_of_lt (Nat.lt_of_lt_of_le V_b0.lt bi_b1)) hc3 F_message_b1 F_stackTrace_b1) hZ (w_ hw 48 rfl) (w_ hw 42 rfl) (by decide) (by decide)) (g := (mkF m 7 #[.val (.ref a0)] [.null, (.ref a0), .null, (.ref b1), (.ref b1)])) rfl (by rw [hml]; rfl) (Steps.refl _) (a := b1) (argsL := [.null, (.ref a0), .null]) (rest := [(.ref b1)]) (lenOf pd_7 rfl) rfl (by show 2 * 0 + _ ≤ _; exact Nat.le_of_eq rfl) (hb hby d8_7) (fun _ _ => ⟨rfl, e1, (by decide : 1 + 0 ≤ _), (by decide : 3 + 0 ≤ _)⟩)
   dsimp only [Pt.U, Pt.locs, Pt.cells, Pt.slots] at X6 l6 y6 z6 st6 hQ6
   subst l6 y6 z6
   obtain ⟨rfl, N6q, K6, r6_0, r6_1, r6_2⟩ := hQ6
   have N6 := Fr.app N0 N6q
   refine OwnFin.tr st6 ?_
   obtain ⟨h6, e6⟩ : ∃ z, T6.heap = z := ⟨_, rfl⟩
   rw [e6] at K6 r6_0 r6_1 r6_2
   have kp7 : Keep h0 h6 [] := kp2.trans K6 (allS (Or.inr lo_b1) all0)
   show OwnFin _ _ _ _ (T6.setTop (mkF m 10 _ [(.ref b1)]))
   obtain ⟨fs, hr, hrun, hended, hW, hsame⟩ := X6.leave (v := some (.ref b1)) (fun h => by rw [Bd.returns] at h; cases h)
   refine ⟨_, _, retOut X6 hx Bd.returns rfl (Or.inr (Or.inr (Or.inr (Or.inr ⟨rfl, rfl, rfl⟩)))) (hb hby d8_10) hr, hrun, hended, _, _, rfl, ?_, ⟨_, rfl⟩, hW, hsame.mono (by decide) (by decide)⟩
   show Q_rm_cof Z a0 b0 k_b0 vs0 z0 h0 n0 _ T6.heap _
   rw [e6]
   exact ⟨b1, rfl, N6, kp7, lo_b1, (A1.keep K6)⟩
theorem d13_0 : decode jdk_31_method_11_code 0 = .ok (.aload_n 0, 1) := by decide +kernel
theorem d13_1 : decode jdk_31_method_11_code 1 = .ok (.ifnonnull 12, 3) := by decide +kernel
theorem d13_13 : decode jdk_31_method_11_code 13 = .ok (.aload_n 0, 1) := by decide +kernel
theorem d13_14 : decode jdk_31_method_11_code 14 = .ok (.areturn, 1) := by decide +kernel
theorem pn_4 : plainName "java/util/Objects" = true := by first | (simp [plainName, overriddenIn]; done) | decide +kernel
theorem ef_rm_rnn (m : MethodId) (a0 : Addr) (a1 : Addr) : entryFrame m #[(.ref a0), (.ref a1)] 2 = mkF m 0 #[.val (.ref a0), .val (.ref a1)] [] := by first | (simp [entryFrame, mkF, argsToLocals, Value.category]; done) | rfl
def Q_rm_rnn (Z : State) (a0 : Addr) (a1 : Addr) (h0 : Heap) (n0 : Nat) (v : Option Value) (h : Heap) (L : List Loc) : Prop := v = some (.ref a0) ∧ Fr n0 L ∧ h = h0
set_option maxRecDepth 65536 in
set_option maxHeartbeats 40000000 in
theorem rm_rnn (l : Launch) (Z : State) (av0 : Array Value) (hw : ∀ d ∈ tables_1, d.before av0 Z = true) (ws : List Jvm.Cond) (a0 : Addr) (a1 : Addr) (h0 : Heap) (n0 : Nat) (Z0 : n0 ≤ h0.size) :
    MetFree l yM13 (head1 (Jvm.Cond.code yM13 jdk_31_method_11_code 2 (some (.object "java/lang/Object")) :: ws) ({ frames := 0, cells := 0, slots := 0, locals := 0 } : Room)) (fun a U => a = #[(.ref a0), (.ref a1)] ∧ Z.Warmed39 U.vm ∧ U.heap = h0) (fun _ _ _ _ _ => True) (fun _ U o U' => ∃ v L, o = .returned v ∧ Q_rm_rnn Z a0 a1 h0 n0 v U'.heap L ∧ FrameEnd U o U' L ({ frames := 0, cells := 0, slots := 0, locals := 0 } : Room).cells ({ frames := 0, cells := 0, slots := 0, locals := 0 } : Room).slots) := by
  refine MetFree.of_bodySF (plainFor_of_name pn_4) hisR ?_
  intro p e s m args below meth c s₁ Bd hml0 hP hK
  obtain ⟨rfl, hZ, hh⟩ := hP
  have hx := Bd.exec
  have hby := Bd.bytes
  have hml : c.maxLocals = 2 := hml0
  have hown : s.vm.findClass "java/util/Objects" = some m.cls := findClass_of_methodNamed Bd.named
  have hnm := (name_of_methodNamed Bd.named Bd.method).1
  have X0 : Stand p l e ({ frames := 0, cells := 0, slots := 0, locals := 0 } : Room) s m #[(.ref a0), (.ref a1)] below meth c s₁ [] 0 0 := Stand.of_body Bd
  have e0 : s₁.heap = h0 := by rw [← hh, Bd.state]; rfl
  have N0 := Fr.nil n0
  have pre0 : ∀ t, Steps p.tables e below (s₁.setTop (mkF m 0 #[.val (.ref a0), .val (.ref a1)] [])) t → Steps p.tables e below (s₁.setTop (entryFrame m #[(.ref a0), (.ref a1)] 2)) t := fun t k => castTop (ef_rm_rnn m a0 a1) k
  change OwnFin p.tables e below _ (s₁.setTop (entryFrame m #[(.ref a0), (.ref a1)] 2))
  have kp0 : Keep h0 h0 [] := Keep.refl _ _
  refine OwnFin.st (fun _ q => pre0 _ q) ?_
  show OwnFin _ _ _ _ (s₁.setTop (mkF m 0 #[.val (.ref a0), .val (.ref a1)] []))
  refine OwnFin.st (fun _ q => XS.aloadN X0.here hx rfl (hb hby d13_0) rfl rfl q) ?_
  show OwnFin _ _ _ _ (s₁.setTop (mkF m 1 _ [(.ref a0)]))
  refine OwnFin.st (fun _ q => XS.ifnonnullYes X0.here hx rfl (pc0 := 1) (pc' := 13) rfl (hb hby d13_1) rfl (by decide) (by decide) q) ?_
  show OwnFin _ _ _ _ (s₁.setTop (mkF m 13 _ []))
  refine OwnFin.st (fun _ q => XS.aloadN X0.here hx rfl (hb hby d13_13) rfl rfl q) ?_
  show OwnFin _ _ _ _ (s₁.setTop (mkF m 14 _ [(.ref a0)]))
  obtain ⟨fs, hr, hrun, hended, hW, hsame⟩ := X0.leave (v := some (.ref a0)) (fun h => by rw [Bd.returns] at h; cases h)
  refine ⟨_, _, retOut X0 hx Bd.returns rfl (Or.inr (Or.inr (Or.inr (Or.inr ⟨rfl, rfl, rfl⟩)))) (hb hby d13_14) hr, hrun, hended, _, _, rfl, ?_, ⟨_, rfl⟩, hW, hsame.mono (by decide) (by decide)⟩
  show Q_rm_rnn Z a0 a1 h0 n0 _ s₁.heap _
  rw [e0]
  exact ⟨rfl, N0, rfl⟩
theorem pd_8 : parseMethodDescriptor "(Ljava/lang/Object;Ljava/lang/String;)Ljava/lang/Object;" = some ⟨[(.object "java/lang/Object"), (.object "java/lang/String")], some (.object "java/lang/Object")⟩ := by decide +kernel
theorem d12_0 : decode prog_38_method_2_code 0 = .ok (.aload_n 0, 1) := by decide +kernel
theorem d12_1 : decode prog_38_method_2_code 1 = .ok (.invokespecial 7, 3) := by decide +kernel
theorem d12_4 : decode prog_38_method_2_code 4 = .ok (.aload_n 0, 1) := by decide +kernel
theorem d12_5 : decode prog_38_method_2_code 5 = .ok (.aload_n 1, 1) := by decide +kernel
theorem d12_6 : decode prog_38_method_2_code 6 = .ok (.ldc 12, 2) := by decide +kernel
theorem d12_8 : decode prog_38_method_2_code 8 = .ok (.invokestatic 14, 3) := by decide +kernel
theorem d12_11 : decode prog_38_method_2_code 11 = .ok (.checkcast 20, 3) := by decide +kernel
theorem d12_14 : decode prog_38_method_2_code 14 = .ok (.putfield 22, 3) := by decide +kernel
theorem d12_17 : decode prog_38_method_2_code 17 = .ok (.aload_n 0, 1) := by decide +kernel
theorem d12_18 : decode prog_38_method_2_code 18 = .ok (.aload_n 2, 1) := by decide +kernel
theorem d12_19 : decode prog_38_method_2_code 19 = .ok (.ldc 25, 2) := by decide +kernel
theorem d12_21 : decode prog_38_method_2_code 21 = .ok (.invokestatic 14, 3) := by decide +kernel
theorem d12_24 : decode prog_38_method_2_code 24 = .ok (.checkcast 27, 3) := by decide +kernel
theorem d12_27 : decode prog_38_method_2_code 27 = .ok (.putfield 29, 3) := by decide +kernel
theorem d12_30 : decode prog_38_method_2_code 30 = .ok (.aload_n 0, 1) := by decide +kernel
theorem d12_31 : decode prog_38_method_2_code 31 = .ok (.aload_n 3, 1) := by decide +kernel
theorem d12_32 : decode prog_38_method_2_code 32 = .ok (.putfield 32, 3) := by decide +kernel
theorem d12_35 : decode prog_38_method_2_code 35 = .ok (.return_, 1) := by decide +kernel
theorem pn_5 : plainName "com/example/neat_order/neatorder/model/LifecycleFailure" = true := by first | (simp [plainName, overriddenIn]; done) | decide +kernel
theorem ef_rm_lfi (m : MethodId) (a0 : Addr) (a1 : Addr) (a2 : Addr) (u3 : Value) (h_u3 : u3.isRef = true) : entryFrame m #[(.ref a0), (.ref a1), (.ref a2), u3] 4 = mkF m 0 #[.val (.ref a0), .val (.ref a1), .val (.ref a2), .val u3] [] := by rcases ref_cases h_u3 with rfl | ⟨_, rfl⟩ <;> first | (simp [entryFrame, mkF, argsToLocals, Value.category]; done) | rfl
def Q_rm_lfi (Z : State) (a0 : Addr) (a1 : Addr) (a2 : Addr) (u3 : Value) (u_container_a0 : Value) (u_phase_a0 : Value) (u_cause_a0 : Value) (h0 : Heap) (n0 : Nat) (v : Option Value) (h : Heap) (L : List Loc) : Prop := v = none ∧ Fr n0 L ∧ Keep h0 h [a0] ∧ Fld Z h a0 "com/example/neat_order/neatorder/model/LifecycleFailure" "container" "Ljava/lang/String;" (.ref a1) ∧ Fld Z h a0 "com/example/neat_order/neatorder/model/LifecycleFailure" "phase" "Lcom/example/neat_order/neatorder/model/LifecycleFailure$Phase;" (.ref a2) ∧ Fld Z h a0 "com/example/neat_order/neatorder/model/LifecycleFailure" "cause" "Lcom/example/neat_order/neatorder/model/Cause;" u3
set_option maxRecDepth 65536 in
set_option maxHeartbeats 40000000 in
theorem rm_lfi (l : Launch) (Z : State) (av0 : Array Value) (hw : ∀ d ∈ tables_1, d.before av0 Z = true) (ws : List Jvm.Cond) (a0 : Addr) (a1 : Addr) (a2 : Addr) (u3 : Value) (u_container_a0 : Value) (u_phase_a0 : Value) (u_cause_a0 : Value) (h0 : Heap) (n0 : Nat) (Z0 : n0 ≤ h0.size) (X_a1 : Exa Z h0 a1 "java/lang/String") (X_a2 : Exa Z h0 a2 "com/example/neat_order/neatorder/model/LifecycleFailure$Phase") (X_a0 : Exa Z h0 a0 "com/example/neat_order/neatorder/model/LifecycleFailure") (F_container_a0 : Fld Z h0 a0 "com/example/neat_order/neatorder/model/LifecycleFailure" "container" "Ljava/lang/String;" u_container_a0) (g_a0 : n0 ≤ a0) (F_phase_a0 : Fld Z h0 a0 "com/example/neat_order/neatorder/model/LifecycleFailure" "phase" "Lcom/example/neat_order/neatorder/model/LifecycleFailure$Phase;" u_phase_a0) (hr_u3 : u3.isRef = true) (F_cause_a0 : Fld Z h0 a0 "com/example/neat_order/neatorder/model/LifecycleFailure" "cause" "Lcom/example/neat_order/neatorder/model/Cause;" u_cause_a0) :
    MetFree l yM14 (head1 (Jvm.Cond.code yM14 prog_38_method_2_code 4 none :: ws) ({ frames := 1, cells := 4, slots := 64, locals := 14 } : Room)) (fun a U => a = #[(.ref a0), (.ref a1), (.ref a2), u3] ∧ Z.Warmed39 U.vm ∧ U.heap = h0 ∧ CHv Z own_EL U.vm h0) (fun _ _ _ _ _ => True) (fun _ U o U' => ∃ v L, o = .returned v ∧ Q_rm_lfi Z a0 a1 a2 u3 u_container_a0 u_phase_a0 u_cause_a0 h0 n0 v U'.heap L ∧ CHr Z own_EL U.vm U.heap U'.vm U'.heap ∧ ReturnedEndW U o U' L ({ frames := 1, cells := 4, slots := 64, locals := 14 } : Room).cells ({ frames := 1, cells := 4, slots := 64, locals := 14 } : Room).slots) := by
  refine MetFree.of_bodySF (plainFor_of_name pn_5) hisR ?_
  intro p e s m args below meth c s₁ Bd hml0 hP hK
  obtain ⟨rfl, hZ, hh, hCH⟩ := hP
  have hx := Bd.exec
  have hby := Bd.bytes
  have hml : c.maxLocals = 4 := hml0
  have hown : (s.setVm s.vm).vm.findClass "com/example/neat_order/neatorder/model/LifecycleFailure" = some m.cls := findClass_of_methodNamed Bd.named
  have hnm := (name_of_methodNamed Bd.named Bd.method).1
  have X0 : Stand p l e ({ frames := 1, cells := 4, slots := 64, locals := 14 } : Room) (s.setVm s.vm) m #[(.ref a0), (.ref a1), (.ref a2), u3] below meth c s₁ [] 0 0 := Stand.of_body Bd
  have e0 : s₁.heap = h0 := by rw [← hh, Bd.state]; rfl
  have N0 := Fr.nil n0
  have hZ : Z.Warmed39 (s.setVm s.vm).vm := hZ
  have hS0 : s.Since s.vm s.heap.size := (State.WarmedH.refl s).since _
  have hk0 : s.heap.size ≤ h0.size := Nat.le_of_eq (by rw [hh])
  have ch0 : CHr Z own_EL s.vm h0 s.vm h0 := CHr.refl hCH
  have pre0 : ∀ t, Steps p.tables e below (s₁.setTop (mkF m 0 #[.val (.ref a0), .val (.ref a1), .val (.ref a2), .val u3] [])) t → Steps p.tables e below (s₁.setTop (entryFrame m #[(.ref a0), (.ref a1), (.ref a2), u3] 4)) t := fun t k => castTop (ef_rm_lfi m a0 a1 a2 u3 hr_u3) k
  change OwnFin p.tables e below _ (s₁.setTop (entryFrame m #[(.ref a0), (.ref a1), (.ref a2), u3] 4))
  have kp0 : Keep h0 h0 [a0] := Keep.refl _ _
  refine OwnFin.st (fun _ q => pre0 _ q) ?_
  show OwnFin _ _ _ _ (s₁.setTop (mkF m 0 #[.val (.ref a0), .val (.ref a1), .val (.ref a2), .val u3] []))
  refine OwnFin.st (fun _ q => XS.aloadN X0.here hx rfl (hb hby d12_0) rfl rfl q) ?_
  show OwnFin _ _ _ _ (s₁.setTop (mkF m 1 _ [(.ref a0)]))
  obtain ⟨T1, X1, e1, st1⟩ := initO X0 hx hZ hown (w_ hw 70 rfl) (w_ hw 25 rfl) (w_ hw 26 rfl) e0 (g := (mkF m 1 #[.val (.ref a0), .val (.ref a1), .val (.ref a2), .val u3] [(.ref a0)])) rfl (by rw [hml]; rfl) rfl (hb hby d12_1) (by decide) (W := 0) (by show 2 * 0 + _ ≤ _; exact Nat.le_of_eq rfl) (by decide)
  refine OwnFin.st st1 ?_
  show OwnFin _ _ _ _ (T1.setTop (mkF m 4 _ []))
  refine OwnFin.st (fun _ q => XS.aloadN X1.here hx rfl (hb hby d12_4) rfl rfl q) ?_
  show OwnFin _ _ _ _ (T1.setTop (mkF m 5 _ [(.ref a0)]))
  refine OwnFin.st (fun _ q => XS.aloadN X1.here hx rfl (hb hby d12_5) rfl rfl q) ?_
  show OwnFin _ _ _ _ (T1.setTop (mkF m 6 _ [(.ref a1), (.ref a0)]))
  obtain ⟨al2, T2, h2, k2, X2, e2, E2, hS2, hk2, hZ2, hown2, hC2, hL2, st2⟩ := ldcOH (s := s) (vm0 := s.vm) X1 hx hZ hown (w_ hw 71 rfl) (own_wS hw) e1 hS0 (Nat.le_trans hk0 (Nat.le_refl _)) (own_EW hw) ch0.1 (g := (mkF m 6 #[.val (.ref a0), .val (.ref a1), .val (.ref a2), .val u3] [(.ref a1), (.ref a0)])) rfl (hb hby d12_6) (n := 36) (by decide) (by decide) (by decide) (by decide)
  refine OwnFin.st st2 ?_
  have ch3 := ch0.trans (hC2)
  have kp3 : Keep h0 h2 [a0] := kp0.ext E2
  show OwnFin _ _ _ _ (T2.setTop (mkF m 8 _ [(.ref al2), (.ref a1), (.ref a0)]))
  obtain ⟨_, _, ⟨T4, L4, k4, n4⟩, -, X4, ⟨Lc4, hQ4, l4, y4, z4⟩, st4⟩ := Jvm.LawKit.callS X2 hx (y := yM13) hown2 (mvT hZ2 (w_ hw 72 rfl)) (mvT hZ2 (w_ hw 73 rfl)) (mvT hZ2 (w_ hw 74 rfl)) (mvT hZ2 (w_ hw 75 rfl)) (by decide) (backOf (W := 1) (rm_rnn l Z av0 hw [] a1 al2 h2 n0 (Nat.le_trans Z0 kp3.1) ) hZ2 (w_ hw 75 rfl) (w_ hw 74 rfl) (by decide) (by decide)) (g := (mkF m 8 #[.val (.ref a0), .val (.ref a1), .val (.ref a2), .val u3] [(.ref al2), (.ref a1), (.ref a0)])) rfl (by rw [hml]; rfl) (argsL := [(.ref a1), (.ref al2)]) (rest := [(.ref a0)]) (lenOf pd_8 rfl) rfl (by show 2 * 0 + _ ≤ _; exact Nat.le_of_eq rfl) (hb hby d12_8) (fun _ _ => ⟨rfl, e2, (by decide : 2 + 0 ≤ _), (by decide : 40 + 0 ≤ _)⟩)
  dsimp only [Pt.U, Pt.locs, Pt.cells, Pt.slots] at X4 l4 y4 z4 st4 hQ4
  subst l4 y4 z4
  obtain ⟨rfl, N4q, he4⟩ := hQ4
  have N4 := Fr.app N0 N4q
  refine OwnFin.st st4 ?_
  show OwnFin _ _ _ _ (T4.setTop (mkF m 11 _ [(.ref a1), (.ref a0)]))
  obtain ⟨T5, X5, e5, st5⟩ := castY X4 hx hZ2 hown2 (w_ hw 76 rfl) he4 (Ins.self (X_a1.ext E2)) (g := (mkF m 11 #[.val (.ref a0), .val (.ref a1), .val (.ref a2), .val u3] [(.ref a1), (.ref a0)])) rfl rfl (hb hby d12_11)
  refine OwnFin.st st5 ?_
  show OwnFin _ _ _ _ (T5.setTop (mkF m 14 _ [(.ref a1), (.ref a0)]))
  obtain ⟨T6, h6, X6, e6, W6, st6⟩ := putF X5 hx hZ2 hown2 (host := "") (Or.inl (w_ hw 77 rfl)) Via.refl e5 (F_container_a0.ext E2) (X_a0.ext E2) (Or.inr ⟨(w_ hw 78 rfl), rfl, hnm⟩) (w_ hw 65 rfl) (ty := (.object "java/lang/String")) (by decide) rfl rfl (g := (mkF m 14 #[.val (.ref a0), .val (.ref a1), .val (.ref a2), .val u3] [(.ref a1), (.ref a0)])) rfl rfl (hb hby d12_14)
  refine OwnFin.st st6 ?_
  have Fw6 : Fld Z h6 a0 "com/example/neat_order/neatorder/model/LifecycleFailure" "container" "Ljava/lang/String;" (.ref a1) := (F_container_a0.ext E2).same W6
  have N6 := Fr.snoc X6 N4 g_a0
  have ch7 := ch3.trans (CHr.wr W6 (Safe.exa (hZ2).alike (X_a0.ext E2) (by decide) (by decide)) ch3.1)
  have kp7 : Keep h0 h6 [a0] := kp3.wr W6 (Or.inl (List.mem_of_getElem? (i := 0) rfl))
  show OwnFin _ _ _ _ (T6.setTop (mkF m 17 _ []))
  refine OwnFin.st (fun _ q => XS.aloadN X6.here hx rfl (hb hby d12_17) rfl rfl q) ?_
  show OwnFin _ _ _ _ (T6.setTop (mkF m 18 _ [(.ref a0)]))
  refine OwnFin.st (fun _ q => XS.aloadN X6.here hx rfl (hb hby d12_18) rfl rfl q) ?_
  show OwnFin _ _ _ _ (T6.setTop (mkF m 19 _ [(.ref a2), (.ref a0)]))
  obtain ⟨al8, T8, h8, k8, X8, e8, E8, hS8, hk8, hZ8, hown8, hC8, hL8, st8⟩ := ldcOH (s := s) (vm0 := T2.vm) X6 hx hZ2 hown2 (w_ hw 79 rfl) (own_wS hw) e6 hS2 (Nat.le_trans hk2 (Nat.le_of_eq W6.size.symm)) (own_EW hw) ch7.1 (g := (mkF m 19 #[.val (.ref a0), .val (.ref a1), .val (.ref a2), .val u3] [(.ref a2), (.ref a0)])) rfl (hb hby d12_19) (n := 20) (by decide) (by decide) (by decide) (by decide)
  refine OwnFin.st st8 ?_
  have ch9 := ch7.trans (hC8)
  have kp9 : Keep h0 h8 [a0] := kp7.ext E8
  show OwnFin _ _ _ _ (T8.setTop (mkF m 21 _ [(.ref al8), (.ref a2), (.ref a0)]))
  obtain ⟨_, _, ⟨T10, L10, k10, n10⟩, -, X10, ⟨Lc10, hQ10, l10, y10, z10⟩, st10⟩ := Jvm.LawKit.callS X8 hx (y := yM13) hown8 (mvT hZ8 (w_ hw 72 rfl)) (mvT hZ8 (w_ hw 73 rfl)) (mvT hZ8 (w_ hw 74 rfl)) (mvT hZ8 (w_ hw 75 rfl)) (by decide) (backOf (W := 1) (rm_rnn l Z av0 hw [] a2 al8 h8 n0 (Nat.le_trans Z0 kp9.1) ) hZ8 (w_ hw 75 rfl) (w_ hw 74 rfl) (by decide) (by decide)) (g := (mkF m 21 #[.val (.ref a0), .val (.ref a1), .val (.ref a2), .val u3] [(.ref al8), (.ref a2), (.ref a0)])) rfl (by rw [hml]; rfl) (argsL := [(.ref a2), (.ref al8)]) (rest := [(.ref a0)]) (lenOf pd_8 rfl) rfl (by show 2 * 0 + _ ≤ _; exact Nat.le_of_eq rfl) (hb hby d12_21) (fun _ _ => ⟨rfl, e8, (by decide : 4 + 0 ≤ _), (by decide : 64 + 0 ≤ _)⟩)
  dsimp only [Pt.U, Pt.locs, Pt.cells, Pt.slots] at X10 l10 y10 z10 st10 hQ10
  subst l10 y10 z10
  obtain ⟨rfl, N10q, he10⟩ := hQ10
  have N10 := Fr.app N6 N10q
  refine OwnFin.st st10 ?_
  show OwnFin _ _ _ _ (T10.setTop (mkF m 24 _ [(.ref a2), (.ref a0)]))
  obtain ⟨T11, X11, e11, st11⟩ := castY X10 hx hZ8 hown8 (w_ hw 80 rfl) he10 (Ins.self (((X_a2.ext E2).wr W6).ext E8)) (g := (mkF m 24 #[.val (.ref a0), .val (.ref a1), .val (.ref a2), .val u3] [(.ref a2), (.ref a0)])) rfl rfl (hb hby d12_24)
  refine OwnFin.st st11 ?_
  show OwnFin _ _ _ _ (T11.setTop (mkF m 27 #[.val (.ref a0), .val (.ref a1), .val (.ref a2), .val u3] [(.ref a2), (.ref a0)]))
  have fr12 : Fld Z h8 a0 "com/example/neat_order/neatorder/model/LifecycleFailure" "phase" "Lcom/example/neat_order/neatorder/model/LifecycleFailure$Phase;" u_phase_a0 := (((F_phase_a0.ext E2).other W6 (Or.inr (slot_ne (Or.inr (w_ hw 83 rfl)) (Or.inr (w_ hw 78 rfl)) (by decide) (t := (.object "com/example/neat_order/neatorder/model/LifecycleFailure$Phase")) (t' := (.object "java/lang/String")) (by decide) (by decide)))).ext E8)
  obtain ⟨T13, h13, X13, e13, W13, st13⟩ := putF X11 hx hZ8 hown8 (host := "") (Or.inl (w_ hw 82 rfl)) Via.refl e11 fr12 (((X_a0.ext E2).wr W6).ext E8) (Or.inr ⟨(w_ hw 83 rfl), rfl, hnm⟩) (w_ hw 65 rfl) (ty := (.object "com/example/neat_order/neatorder/model/LifecycleFailure$Phase")) (by decide) rfl rfl (g := (mkF m 27 #[.val (.ref a0), .val (.ref a1), .val (.ref a2), .val u3] [(.ref a2), (.ref a0)])) rfl rfl (hb hby d12_27)
  refine OwnFin.st st13 ?_
  have Fw13 : Fld Z h13 a0 "com/example/neat_order/neatorder/model/LifecycleFailure" "phase" "Lcom/example/neat_order/neatorder/model/LifecycleFailure$Phase;" (.ref a2) := (((F_phase_a0.ext E2).other W6 (Or.inr (slot_ne (Or.inr (w_ hw 83 rfl)) (Or.inr (w_ hw 78 rfl)) (by decide) (t := (.object "com/example/neat_order/neatorder/model/LifecycleFailure$Phase")) (t' := (.object "java/lang/String")) (by decide) (by decide)))).ext E8).same W13
  have N13 := Fr.snoc X13 N10 g_a0
  have ch14 := ch9.trans (CHr.wr W13 (Safe.exa (hZ8).alike (((X_a0.ext E2).wr W6).ext E8) (by decide) (by decide)) ch9.1)
  have kp14 : Keep h0 h13 [a0] := kp9.wr W13 (Or.inl (List.mem_of_getElem? (i := 0) rfl))
  show OwnFin _ _ _ _ (T13.setTop (mkF m 30 _ []))
  refine OwnFin.st (fun _ q => XS.aloadN X13.here hx rfl (hb hby d12_30) rfl rfl q) ?_
  show OwnFin _ _ _ _ (T13.setTop (mkF m 31 _ [(.ref a0)]))
  refine OwnFin.st (fun _ q => XS.aloadN X13.here hx rfl (hb hby d12_31) rfl hr_u3 q) ?_
  show OwnFin _ _ _ _ (T13.setTop (mkF m 32 _ [u3, (.ref a0)]))
  have fr15 : Fld Z h13 a0 "com/example/neat_order/neatorder/model/LifecycleFailure" "cause" "Lcom/example/neat_order/neatorder/model/Cause;" u_cause_a0 := ((((F_cause_a0.ext E2).other W6 (Or.inr (slot_ne (Or.inr (w_ hw 85 rfl)) (Or.inr (w_ hw 78 rfl)) (by decide) (t := (.object "com/example/neat_order/neatorder/model/Cause")) (t' := (.object "java/lang/String")) (by decide) (by decide)))).ext E8).other W13 (Or.inr (slot_ne (Or.inr (w_ hw 85 rfl)) (Or.inr (w_ hw 83 rfl)) (by decide) (t := (.object "com/example/neat_order/neatorder/model/Cause")) (t' := (.object "com/example/neat_order/neatorder/model/LifecycleFailure$Phase")) (by decide) (by decide))))
  obtain ⟨T16, h16, X16, e16, W16, st16⟩ := putF X13 hx hZ8 hown8 (host := "") (Or.inl (w_ hw 84 rfl)) Via.refl e13 fr15 ((((X_a0.ext E2).wr W6).ext E8).wr W13) (Or.inr ⟨(w_ hw 85 rfl), rfl, hnm⟩) (w_ hw 65 rfl) (ty := (.object "com/example/neat_order/neatorder/model/Cause")) (by decide) rfl (own_fits hr_u3) (g := (mkF m 32 #[.val (.ref a0), .val (.ref a1), .val (.ref a2), .val u3] [u3, (.ref a0)])) rfl rfl (hb hby d12_32)
  refine OwnFin.st st16 ?_
  have Fw16 : Fld Z h16 a0 "com/example/neat_order/neatorder/model/LifecycleFailure" "cause" "Lcom/example/neat_order/neatorder/model/Cause;" u3 := ((((F_cause_a0.ext E2).other W6 (Or.inr (slot_ne (Or.inr (w_ hw 85 rfl)) (Or.inr (w_ hw 78 rfl)) (by decide) (t := (.object "com/example/neat_order/neatorder/model/Cause")) (t' := (.object "java/lang/String")) (by decide) (by decide)))).ext E8).other W13 (Or.inr (slot_ne (Or.inr (w_ hw 85 rfl)) (Or.inr (w_ hw 83 rfl)) (by decide) (t := (.object "com/example/neat_order/neatorder/model/Cause")) (t' := (.object "com/example/neat_order/neatorder/model/LifecycleFailure$Phase")) (by decide) (by decide)))).same W16
  have N16 := Fr.snoc X16 N13 g_a0
  have ch17 := ch14.trans (CHr.wr W16 (Safe.exa (hZ8).alike ((((X_a0.ext E2).wr W6).ext E8).wr W13) (by decide) (by decide)) ch14.1)
  have kp17 : Keep h0 h16 [a0] := kp14.wr W16 (Or.inl (List.mem_of_getElem? (i := 0) rfl))
  show OwnFin _ _ _ _ (T16.setTop (mkF m 35 _ []))
  obtain ⟨fs, hr, hrun, hended, hEW⟩ := X16.leaveW (s := s) hS8 (by rw [e16]; exact (Nat.le_trans hk8 (Nat.le_trans (Nat.le_of_eq W13.size.symm) (Nat.le_of_eq W16.size.symm)))) (v := none) (fun _ => rfl)
  have chE : CHr Z own_EL s.vm s.heap T16.vm T16.heap := by
    rw [hh, e16]
    exact ch17.trans (CHv.at X16 hZ8 (own_EW hw) ch17.1)
  refine ⟨_, _, X16.returnOut hx Bd.returns (hb hby d12_35) hr, hrun, hended, _, _, rfl, ?_, chE, hEW.1, hEW.2.1, hEW.2.2.1, hEW.2.2.2.mono (by decide) (by decide)⟩
  show Q_rm_lfi Z a0 a1 a2 u3 u_container_a0 u_phase_a0 u_cause_a0 h0 n0 _ T16.heap _
  rw [e16]
  have fr18 : Fld Z h16 a0 "com/example/neat_order/neatorder/model/LifecycleFailure" "container" "Ljava/lang/String;" (.ref a1) := (((Fw6.ext E8).other W13 (Or.inr (slot_ne (Or.inr (w_ hw 78 rfl)) (Or.inr (w_ hw 83 rfl)) (by decide) (t := (.object "java/lang/String")) (t' := (.object "com/example/neat_order/neatorder/model/LifecycleFailure$Phase")) (by decide) (by decide)))).other W16 (Or.inr (slot_ne (Or.inr (w_ hw 78 rfl)) (Or.inr (w_ hw 85 rfl)) (by decide) (t := (.object "java/lang/String")) (t' := (.object "com/example/neat_order/neatorder/model/Cause")) (by decide) (by decide))))
  have fr19 : Fld Z h16 a0 "com/example/neat_order/neatorder/model/LifecycleFailure" "phase" "Lcom/example/neat_order/neatorder/model/LifecycleFailure$Phase;" (.ref a2) := (Fw13.other W16 (Or.inr (slot_ne (Or.inr (w_ hw 83 rfl)) (Or.inr (w_ hw 85 rfl)) (by decide) (t := (.object "com/example/neat_order/neatorder/model/LifecycleFailure$Phase")) (t' := (.object "com/example/neat_order/neatorder/model/Cause")) (by decide) (by decide))))
  exact ⟨rfl, N16, kp17, fr18, fr19, Fw16⟩
theorem d16_0 : decode jdk_43_method_13_code 0 = .ok (.aload_n 0, 1) := by decide +kernel
theorem d16_1 : decode jdk_43_method_13_code 1 = .ok (.arraylength, 1) := by decide +kernel
theorem d16_2 : decode jdk_43_method_13_code 2 = .ok (.aload_n 1, 1) := by decide +kernel
theorem d16_3 : decode jdk_43_method_13_code 3 = .ok (.arraylength, 1) := by decide +kernel
theorem d16_4 : decode jdk_43_method_13_code 4 = .ok (.if_icmp .ne 30, 3) := by decide +kernel
theorem d16_7 : decode jdk_43_method_13_code 7 = .ok (.iconst 0, 1) := by decide +kernel
theorem d16_8 : decode jdk_43_method_13_code 8 = .ok (.istore_n 2, 1) := by decide +kernel
theorem d16_9 : decode jdk_43_method_13_code 9 = .ok (.iload_n 2, 1) := by decide +kernel
theorem d16_10 : decode jdk_43_method_13_code 10 = .ok (.aload_n 0, 1) := by decide +kernel
theorem d16_11 : decode jdk_43_method_13_code 11 = .ok (.arraylength, 1) := by decide +kernel
theorem d16_12 : decode jdk_43_method_13_code 12 = .ok (.if_icmp .ge 20, 3) := by decide +kernel
theorem d16_32 : decode jdk_43_method_13_code 32 = .ok (.iconst 1, 1) := by decide +kernel
theorem d16_33 : decode jdk_43_method_13_code 33 = .ok (.ireturn, 1) := by decide +kernel
theorem pn_6 : plainName "java/lang/StringLatin1" = true := by first | (simp [plainName, overriddenIn]; done) | decide +kernel
theorem ef_rm_le00 (m : MethodId) (a0 : Addr) (a1 : Addr) : entryFrame m #[(.ref a0), (.ref a1)] 3 = mkF m 0 #[.val (.ref a0), .val (.ref a1), .unset] [] := by first | (simp [entryFrame, mkF, argsToLocals, Value.category]; done) | rfl
def Q_rm_le00 (Z : State) (a0 : Addr) (a1 : Addr) (k_a0 : ClassId) (k_a1 : ClassId) (h0 : Heap) (n0 : Nat) (v : Option Value) (h : Heap) (L : List Loc) : Prop := v = some (.int 1) ∧ Fr n0 L ∧ h = h0
set_option maxRecDepth 65536 in
set_option maxHeartbeats 40000000 in
theorem rm_le00 (l : Launch) (Z : State) (av0 : Array Value) (hw : ∀ d ∈ tables_1, d.before av0 Z = true) (ws : List Jvm.Cond) (a0 : Addr) (a1 : Addr) (k_a0 : ClassId) (k_a1 : ClassId) (h0 : Heap) (n0 : Nat) (Z0 : n0 ≤ h0.size) (V_a0 : Arv Z h0 a0 k_a0 .byte (0 : Int32) [] (.int 0)) (V_a1 : Arv Z h0 a1 k_a1 .byte (0 : Int32) [] (.int 0)) :
    MetFree l yM15 (head1 (Jvm.Cond.code yM15 jdk_43_method_13_code 3 (some .boolean) :: ws) ({ frames := 0, cells := 0, slots := 0, locals := 0 } : Room)) (fun a U => a = #[(.ref a0), (.ref a1)] ∧ Z.Warmed39 U.vm ∧ U.heap = h0) (fun _ _ _ _ _ => True) (fun _ U o U' => ∃ v L, o = .returned v ∧ Q_rm_le00 Z a0 a1 k_a0 k_a1 h0 n0 v U'.heap L ∧ FrameEnd U o U' L ({ frames := 0, cells := 0, slots := 0, locals := 0 } : Room).cells ({ frames := 0, cells := 0, slots := 0, locals := 0 } : Room).slots) := by
  refine MetFree.of_bodySF (plainFor_of_name pn_6) hisR ?_
  intro p e s m args below meth c s₁ Bd hml0 hP hK
  obtain ⟨rfl, hZ, hh⟩ := hP
  have hx := Bd.exec
  have hby := Bd.bytes
  have hml : c.maxLocals = 3 := hml0
  have hown : s.vm.findClass "java/lang/StringLatin1" = some m.cls := findClass_of_methodNamed Bd.named
  have hnm := (name_of_methodNamed Bd.named Bd.method).1
  have X0 : Stand p l e ({ frames := 0, cells := 0, slots := 0, locals := 0 } : Room) s m #[(.ref a0), (.ref a1)] below meth c s₁ [] 0 0 := Stand.of_body Bd
  have e0 : s₁.heap = h0 := by rw [← hh, Bd.state]; rfl
  have N0 := Fr.nil n0
  have pre0 : ∀ t, Steps p.tables e below (s₁.setTop (mkF m 0 #[.val (.ref a0), .val (.ref a1), .unset] [])) t → Steps p.tables e below (s₁.setTop (entryFrame m #[(.ref a0), (.ref a1)] 3)) t := fun t k => castTop (ef_rm_le00 m a0 a1) k
  change OwnFin p.tables e below _ (s₁.setTop (entryFrame m #[(.ref a0), (.ref a1)] 3))
  have kp0 : Keep h0 h0 [] := Keep.refl _ _
  refine OwnFin.st (fun _ q => pre0 _ q) ?_
  show OwnFin _ _ _ _ (s₁.setTop (mkF m 0 #[.val (.ref a0), .val (.ref a1), .unset] []))
  refine OwnFin.st (fun _ q => XS.aloadN X0.here hx rfl (hb hby d16_0) rfl rfl q) ?_
  show OwnFin _ _ _ _ (s₁.setTop (mkF m 1 _ [(.ref a0)]))
  have Vo1 : Arv Z h0 a0 k_a0 .byte (0 : Int32) [] (.int 0) := V_a0
  obtain ⟨cl1, Ar1, qa1, Sa1, Na1, Ha1, Ga1⟩ := id Vo1
  refine OwnFin.st (X0.arraylength hx (by rw [e0]; exact Ar1.1) (State.isArrayOf_alike (hZ).alike Ar1.2.1) (g := (mkF m 1 #[.val (.ref a0), .val (.ref a1), .unset] [(.ref a0)])) rfl rfl (hb hby d16_1)) ?_
  rw [len_of Sa1 Na1]
  show OwnFin _ _ _ _ (s₁.setTop (mkF m 2 _ [(.int 0)]))
  refine OwnFin.st (fun _ q => XS.aloadN X0.here hx rfl (hb hby d16_2) rfl rfl q) ?_
  show OwnFin _ _ _ _ (s₁.setTop (mkF m 3 _ [(.ref a1), (.int 0)]))
  have Vo2 : Arv Z h0 a1 k_a1 .byte (0 : Int32) [] (.int 0) := V_a1
  obtain ⟨cl2, Ar2, qa2, Sa2, Na2, Ha2, Ga2⟩ := id Vo2
  refine OwnFin.st (X0.arraylength hx (by rw [e0]; exact Ar2.1) (State.isArrayOf_alike (hZ).alike Ar2.2.1) (g := (mkF m 3 #[.val (.ref a0), .val (.ref a1), .unset] [(.ref a1), (.int 0)])) rfl rfl (hb hby d16_3)) ?_
  rw [len_of Sa2 Na2]
  show OwnFin _ _ _ _ (s₁.setTop (mkF m 4 _ [(.int 0), (.int 0)]))
  refine OwnFin.st (fun _ q => XS.icmpNo X0.here hx rfl (hb hby d16_4) rfl (Jvm.Free.XT.ii_ne_f (rfl : (0 : Int32) = (0 : Int32))) q) ?_
  show OwnFin _ _ _ _ (s₁.setTop (mkF m 7 _ []))
  refine OwnFin.st (fun _ q => XS.iconst X0.here hx rfl (hb hby d16_7) q) ?_
  show OwnFin _ _ _ _ (s₁.setTop (mkF m 8 _ [(.int 0)]))
  refine OwnFin.st (fun _ q => XS.istoreN X0.here hx rfl (hb hby d16_8) rfl (l' := #[.val (.ref a0), .val (.ref a1), .val (.int 0)]) rfl q) ?_
  show OwnFin _ _ _ _ (s₁.setTop (mkF m 9 _ []))
  refine OwnFin.st (fun _ q => XS.iloadN X0.here hx rfl (hb hby d16_9) rfl q) ?_
  show OwnFin _ _ _ _ (s₁.setTop (mkF m 10 _ [(.int 0)]))
  refine OwnFin.st (fun _ q => XS.aloadN X0.here hx rfl (hb hby d16_10) rfl rfl q) ?_
  show OwnFin _ _ _ _ (s₁.setTop (mkF m 11 _ [(.ref a0), (.int 0)]))
  have Vo3 : Arv Z h0 a0 k_a0 .byte (0 : Int32) [] (.int 0) := V_a0
  obtain ⟨cl3, Ar3, qa3, Sa3, Na3, Ha3, Ga3⟩ := id Vo3
  refine OwnFin.st (X0.arraylength hx (by rw [e0]; exact Ar3.1) (State.isArrayOf_alike (hZ).alike Ar3.2.1) (g := (mkF m 11 #[.val (.ref a0), .val (.ref a1), .val (.int 0)] [(.ref a0), (.int 0)])) rfl rfl (hb hby d16_11)) ?_
  rw [len_of Sa3 Na3]
  show OwnFin _ _ _ _ (s₁.setTop (mkF m 12 _ [(.int 0), (.int 0)]))
  refine OwnFin.st (fun _ q => XS.icmpYes X0.here hx rfl (pc0 := 12) (pc' := 32) rfl (hb hby d16_12) rfl (Jvm.Free.XT.ii_ge_t (Int32.lt_irrefl : ¬ ((0 : Int32) < (0 : Int32)))) (by decide) (by decide) q) ?_
  show OwnFin _ _ _ _ (s₁.setTop (mkF m 32 _ []))
  refine OwnFin.st (fun _ q => XS.iconst X0.here hx rfl (hb hby d16_32) q) ?_
  show OwnFin _ _ _ _ (s₁.setTop (mkF m 33 _ [(.int 1)]))
  obtain ⟨fs, hr, hrun, hended, hW, hsame⟩ := X0.leave (v := some (.int 1)) (fun h => by rw [Bd.returns] at h; cases h)
  refine ⟨_, _, retN X0 hx (t := .boolean) Bd.returns (by simp) (hb hby d16_33) hr, hrun, hended, _, _, rfl, ?_, ⟨_, rfl⟩, hW, hsame.mono (by decide) (by decide)⟩
  show Q_rm_le00 Z a0 a1 k_a0 k_a1 h0 n0 _ s₁.heap _
  rw [e0]
  exact ⟨rfl, N0, rfl⟩
theorem pd_9 : parseMethodDescriptor "([B[B)Z" = some ⟨[(.array .byte), (.array .byte)], some .boolean⟩ := by decide +kernel
theorem d15_0 : decode jdk_42_method_66_code 0 = .ok (.aload_n 0, 1) := by decide +kernel
theorem d15_1 : decode jdk_42_method_66_code 1 = .ok (.aload_n 1, 1) := by decide +kernel
theorem d15_2 : decode jdk_42_method_66_code 2 = .ok (.if_acmp .ne 5, 3) := by decide +kernel
theorem d15_7 : decode jdk_42_method_66_code 7 = .ok (.aload_n 1, 1) := by decide +kernel
theorem d15_8 : decode jdk_42_method_66_code 8 = .ok (.instanceof 10, 3) := by decide +kernel
theorem d15_11 : decode jdk_42_method_66_code 11 = .ok (.ifCond .eq 43, 3) := by decide +kernel
theorem d15_14 : decode jdk_42_method_66_code 14 = .ok (.aload_n 1, 1) := by decide +kernel
theorem d15_15 : decode jdk_42_method_66_code 15 = .ok (.checkcast 10, 3) := by decide +kernel
theorem d15_18 : decode jdk_42_method_66_code 18 = .ok (.astore_n 2, 1) := by decide +kernel
theorem d15_19 : decode jdk_42_method_66_code 19 = .ok (.getstatic 38, 3) := by decide +kernel
theorem d15_22 : decode jdk_42_method_66_code 22 = .ok (.ifCond .eq 14, 3) := by decide +kernel
theorem d15_25 : decode jdk_42_method_66_code 25 = .ok (.aload_n 0, 1) := by decide +kernel
theorem d15_26 : decode jdk_42_method_66_code 26 = .ok (.getfield 15, 3) := by decide +kernel
theorem d15_29 : decode jdk_42_method_66_code 29 = .ok (.aload_n 2, 1) := by decide +kernel
theorem d15_30 : decode jdk_42_method_66_code 30 = .ok (.getfield 15, 3) := by decide +kernel
theorem d15_33 : decode jdk_42_method_66_code 33 = .ok (.if_icmp .ne 21, 3) := by decide +kernel
theorem d15_36 : decode jdk_42_method_66_code 36 = .ok (.aload_n 0, 1) := by decide +kernel
theorem d15_37 : decode jdk_42_method_66_code 37 = .ok (.getfield 9, 3) := by decide +kernel
theorem d15_40 : decode jdk_42_method_66_code 40 = .ok (.aload_n 2, 1) := by decide +kernel
theorem d15_41 : decode jdk_42_method_66_code 41 = .ok (.getfield 9, 3) := by decide +kernel
theorem d15_44 : decode jdk_42_method_66_code 44 = .ok (.invokestatic 541, 3) := by decide +kernel
theorem d15_47 : decode jdk_42_method_66_code 47 = .ok (.ifCond .eq 7, 3) := by decide +kernel
theorem d15_50 : decode jdk_42_method_66_code 50 = .ok (.iconst 1, 1) := by decide +kernel
theorem d15_51 : decode jdk_42_method_66_code 51 = .ok (.goto 4, 3) := by decide +kernel
theorem d15_55 : decode jdk_42_method_66_code 55 = .ok (.ireturn, 1) := by decide +kernel
theorem ef_rm_se00 (m : MethodId) (a0 : Addr) (a1 : Addr) : entryFrame m #[(.ref a0), (.ref a1)] 3 = mkF m 0 #[.val (.ref a0), .val (.ref a1), .unset] [] := by first | (simp [entryFrame, mkF, argsToLocals, Value.category]; done) | rfl
def Q_rm_se00 (Z : State) (a0 : Addr) (a1 : Addr) (b0 : Addr) (b1 : Addr) (k_b0 : ClassId) (k_b1 : ClassId) (w_COMPACT_STRINGS : Int32) (h0 : Heap) (n0 : Nat) (v : Option Value) (h : Heap) (L : List Loc) : Prop := v = some (.int 1) ∧ Fr n0 L ∧ h = h0
set_option maxRecDepth 65536 in
set_option maxHeartbeats 40000000 in
theorem rm_se00 (l : Launch) (Z : State) (av0 : Array Value) (hw : ∀ d ∈ tables_1, d.before av0 Z = true) (ws : List Jvm.Cond) (a0 : Addr) (a1 : Addr) (b0 : Addr) (b1 : Addr) (k_b0 : ClassId) (k_b1 : ClassId) (w_COMPACT_STRINGS : Int32) (h0 : Heap) (n0 : Nat) (Z0 : n0 ≤ h0.size) (Ol0 : Old Z n0 h0) (X_a0 : Exa Z h0 a0 "java/lang/String") (F_coder_a0 : Fld Z h0 a0 "java/lang/String" "coder" "B" (.int 0)) (F_value_a0 : Fld Z h0 a0 "java/lang/String" "value" "[B" (.ref b0)) (X_a1 : Exa Z h0 a1 "java/lang/String") (F_coder_a1 : Fld Z h0 a1 "java/lang/String" "coder" "B" (.int 0)) (F_value_a1 : Fld Z h0 a1 "java/lang/String" "value" "[B" (.ref b1)) (V_b0 : Arv Z h0 b0 k_b0 .byte (0 : Int32) [] (.int 0)) (V_b1 : Arv Z h0 b1 k_b1 .byte (0 : Int32) [] (.int 0)) (hc0 : ¬ (a0 = a1)) (S_COMPACT_STRINGS : Sta Z Z.heap "java/lang/String" "COMPACT_STRINGS" "Z" (.int w_COMPACT_STRINGS)) (hc1 : ¬ (w_COMPACT_STRINGS = (0 : Int32))) :
    MetFree l yM16 (head1 (Jvm.Cond.code yM16 jdk_42_method_66_code 3 (some .boolean) :: ws) ({ frames := 1, cells := 0, slots := 0, locals := 14 } : Room)) (fun a U => a = #[(.ref a0), (.ref a1)] ∧ Z.Warmed39 U.vm ∧ U.heap = h0) (fun _ _ _ _ _ => True) (fun _ U o U' => ∃ v L, o = .returned v ∧ Q_rm_se00 Z a0 a1 b0 b1 k_b0 k_b1 w_COMPACT_STRINGS h0 n0 v U'.heap L ∧ FrameEnd U o U' L ({ frames := 1, cells := 0, slots := 0, locals := 14 } : Room).cells ({ frames := 1, cells := 0, slots := 0, locals := 14 } : Room).slots) := by
  refine MetFree.of_bodySF (plainFor_of_name pn_0) hisR ?_
  intro p e s m args below meth c s₁ Bd hml0 hP hK
  obtain ⟨rfl, hZ, hh⟩ := hP
  have hx := Bd.exec
  have hby := Bd.bytes
  have hml : c.maxLocals = 3 := hml0
  have hown : s.vm.findClass "java/lang/String" = some m.cls := findClass_of_methodNamed Bd.named
  have hnm := (name_of_methodNamed Bd.named Bd.method).1
  have X0 : Stand p l e ({ frames := 1, cells := 0, slots := 0, locals := 14 } : Room) s m #[(.ref a0), (.ref a1)] below meth c s₁ [] 0 0 := Stand.of_body Bd
  have e0 : s₁.heap = h0 := by rw [← hh, Bd.state]; rfl
  have N0 := Fr.nil n0
  have pre0 : ∀ t, Steps p.tables e below (s₁.setTop (mkF m 0 #[.val (.ref a0), .val (.ref a1), .unset] [])) t → Steps p.tables e below (s₁.setTop (entryFrame m #[(.ref a0), (.ref a1)] 3)) t := fun t k => castTop (ef_rm_se00 m a0 a1) k
  change OwnFin p.tables e below _ (s₁.setTop (entryFrame m #[(.ref a0), (.ref a1)] 3))
  have kp0 : Keep h0 h0 [] := Keep.refl _ _
  refine OwnFin.st (fun _ q => pre0 _ q) ?_
  show OwnFin _ _ _ _ (s₁.setTop (mkF m 0 #[.val (.ref a0), .val (.ref a1), .unset] []))
  refine OwnFin.st (fun _ q => XS.aloadN X0.here hx rfl (hb hby d15_0) rfl rfl q) ?_
  show OwnFin _ _ _ _ (s₁.setTop (mkF m 1 _ [(.ref a0)]))
  refine OwnFin.st (fun _ q => XS.aloadN X0.here hx rfl (hb hby d15_1) rfl rfl q) ?_
  show OwnFin _ _ _ _ (s₁.setTop (mkF m 2 _ [(.ref a1), (.ref a0)]))
  refine OwnFin.st (fun _ q => Jvm.RoadKit.acmp (g := (mkF m 2 #[.val (.ref a0), .val (.ref a1), .unset] [(.ref a1), (.ref a0)])) X0 hx rfl rfl rfl (pc0 := 2) (pc' := 7) (same := false) rfl (hb hby d15_2) rfl (decide_eq_false fun q => hc0 (Value.ref.inj q)) (by decide) (by decide) q) ?_
  show OwnFin _ _ _ _ (s₁.setTop (mkF m 7 _ []))
  refine OwnFin.st (fun _ q => XS.aloadN X0.here hx rfl (hb hby d15_7) rfl rfl q) ?_
  show OwnFin _ _ _ _ (s₁.setTop (mkF m 8 _ [(.ref a1)]))
  obtain ⟨T1, X1, e1, st1⟩ := instY X0 hx hZ hown (w_ hw 98 rfl) e0 (Ins.self X_a1) (g := (mkF m 8 #[.val (.ref a0), .val (.ref a1), .unset] [(.ref a1)])) rfl rfl (hb hby d15_8)
  refine OwnFin.st st1 ?_
  show OwnFin _ _ _ _ (T1.setTop (mkF m 11 _ [(.int 1)]))
  refine OwnFin.st (fun _ q => XS.ifNo X1.here hx rfl (hb hby d15_11) rfl (Jvm.Free.XT.i0_eq_f (by decide : ¬ ((1 : Int32) = (0 : Int32)))) q) ?_
  show OwnFin _ _ _ _ (T1.setTop (mkF m 14 _ []))
  refine OwnFin.st (fun _ q => XS.aloadN X1.here hx rfl (hb hby d15_14) rfl rfl q) ?_
  show OwnFin _ _ _ _ (T1.setTop (mkF m 15 _ [(.ref a1)]))
  obtain ⟨T2, X2, e2, st2⟩ := castY X1 hx hZ hown (w_ hw 98 rfl) e1 (Ins.self X_a1) (g := (mkF m 15 #[.val (.ref a0), .val (.ref a1), .unset] [(.ref a1)])) rfl rfl (hb hby d15_15)
  refine OwnFin.st st2 ?_
  show OwnFin _ _ _ _ (T2.setTop (mkF m 18 _ [(.ref a1)]))
  refine OwnFin.st (fun _ q => XS.astoreN X2.here hx rfl (hb hby d15_18) rfl rfl (l' := #[.val (.ref a0), .val (.ref a1), .val (.ref a1)]) rfl q) ?_
  show OwnFin _ _ _ _ (T2.setTop (mkF m 19 _ []))
  obtain ⟨T3, X3, e3, st3⟩ := getS2 X2 hx hZ hown (host := "") (Or.inl (w_ hw 99 rfl)) Via.refl e2 (S_COMPACT_STRINGS.ext Ol0.2) (g := (mkF m 19 #[.val (.ref a0), .val (.ref a1), .val (.ref a1)] [])) rfl (hb hby d15_19)
  refine OwnFin.st st3 ?_
  show OwnFin _ _ _ _ (T3.setTop (mkF m 22 _ [(.int w_COMPACT_STRINGS)]))
  refine OwnFin.st (fun _ q => XS.ifNo X3.here hx rfl (hb hby d15_22) rfl (Jvm.Free.XT.i0_eq_f hc1) q) ?_
  show OwnFin _ _ _ _ (T3.setTop (mkF m 25 _ []))
  refine OwnFin.st (fun _ q => XS.aloadN X3.here hx rfl (hb hby d15_25) rfl rfl q) ?_
  show OwnFin _ _ _ _ (T3.setTop (mkF m 26 _ [(.ref a0)]))
  obtain ⟨T4, X4, e4, st4⟩ := getF X3 hx hZ hown (host := "") (Or.inl (w_ hw 34 rfl)) Via.refl e3 F_coder_a0 (g := (mkF m 26 #[.val (.ref a0), .val (.ref a1), .val (.ref a1)] [(.ref a0)])) rfl rfl (hb hby d15_26)
  refine OwnFin.st st4 ?_
  show OwnFin _ _ _ _ (T4.setTop (mkF m 29 #[.val (.ref a0), .val (.ref a1), .val (.ref a1)] [(.int 0)]))
  refine OwnFin.st (fun _ q => XS.aloadN X4.here hx rfl (hb hby d15_29) rfl rfl q) ?_
  show OwnFin _ _ _ _ (T4.setTop (mkF m 30 _ [(.ref a1), (.int 0)]))
  obtain ⟨T5, X5, e5, st5⟩ := getF X4 hx hZ hown (host := "") (Or.inl (w_ hw 34 rfl)) Via.refl e4 F_coder_a1 (g := (mkF m 30 #[.val (.ref a0), .val (.ref a1), .val (.ref a1)] [(.ref a1), (.int 0)])) rfl rfl (hb hby d15_30)
  refine OwnFin.st st5 ?_
  show OwnFin _ _ _ _ (T5.setTop (mkF m 33 _ [(.int 0), (.int 0)]))
  refine OwnFin.st (fun _ q => XS.icmpNo X5.here hx rfl (hb hby d15_33) rfl (Jvm.Free.XT.ii_ne_f (rfl : (0 : Int32) = (0 : Int32))) q) ?_
  show OwnFin _ _ _ _ (T5.setTop (mkF m 36 _ []))
  refine OwnFin.st (fun _ q => XS.aloadN X5.here hx rfl (hb hby d15_36) rfl rfl q) ?_
  show OwnFin _ _ _ _ (T5.setTop (mkF m 37 _ [(.ref a0)]))
  obtain ⟨T6, X6, e6, st6⟩ := getF X5 hx hZ hown (host := "") (Or.inl (w_ hw 33 rfl)) Via.refl e5 F_value_a0 (g := (mkF m 37 #[.val (.ref a0), .val (.ref a1), .val (.ref a1)] [(.ref a0)])) rfl rfl (hb hby d15_37)
  refine OwnFin.st st6 ?_
  show OwnFin _ _ _ _ (T6.setTop (mkF m 40 _ [(.ref b0)]))
  refine OwnFin.st (fun _ q => XS.aloadN X6.here hx rfl (hb hby d15_40) rfl rfl q) ?_
  show OwnFin _ _ _ _ (T6.setTop (mkF m 41 _ [(.ref a1), (.ref b0)]))
  obtain ⟨T7, X7, e7, st7⟩ := getF X6 hx hZ hown (host := "") (Or.inl (w_ hw 33 rfl)) Via.refl e6 F_value_a1 (g := (mkF m 41 #[.val (.ref a0), .val (.ref a1), .val (.ref a1)] [(.ref a1), (.ref b0)])) rfl rfl (hb hby d15_41)
  refine OwnFin.st st7 ?_
  show OwnFin _ _ _ _ (T7.setTop (mkF m 44 _ [(.ref b1), (.ref b0)]))
  obtain ⟨_, _, ⟨T8, L8, k8, n8⟩, -, X8, ⟨Lc8, hQ8, l8, y8, z8⟩, st8⟩ := Jvm.LawKit.callS X7 hx (y := yM15) hown (mvT hZ (w_ hw 100 rfl)) (mvT hZ (w_ hw 101 rfl)) (mvT hZ (w_ hw 102 rfl)) (mvT hZ (w_ hw 103 rfl)) (by decide) (backOf (W := 0) (rm_le00 l Z av0 hw [] b0 b1 k_b0 k_b1 h0 n0 (Nat.le_trans Z0 kp0.1) V_b0 V_b1) hZ (w_ hw 103 rfl) (w_ hw 102 rfl) (by decide) (by decide)) (g := (mkF m 44 #[.val (.ref a0), .val (.ref a1), .val (.ref a1)] [(.ref b1), (.ref b0)])) rfl (by rw [hml]; rfl) (argsL := [(.ref b0), (.ref b1)]) (rest := []) (lenOf pd_9 rfl) rfl (by show 2 * 0 + _ ≤ _; exact Nat.le_of_eq rfl) (hb hby d15_44) (fun _ _ => ⟨rfl, e7, (by decide : 0 + 0 ≤ _), (by decide : 0 + 0 ≤ _)⟩)
  dsimp only [Pt.U, Pt.locs, Pt.cells, Pt.slots] at X8 l8 y8 z8 st8 hQ8
  subst l8 y8 z8
  obtain ⟨rfl, N8q, he8⟩ := hQ8
  have N8 := Fr.app N0 N8q
  refine OwnFin.st st8 ?_
  show OwnFin _ _ _ _ (T8.setTop (mkF m 47 _ [(.int 1)]))
  refine OwnFin.st (fun _ q => XS.ifNo X8.here hx rfl (hb hby d15_47) rfl (Jvm.Free.XT.i0_eq_f (by decide : ¬ ((1 : Int32) = (0 : Int32)))) q) ?_
  show OwnFin _ _ _ _ (T8.setTop (mkF m 50 _ []))
  refine OwnFin.st (fun _ q => XS.iconst X8.here hx rfl (hb hby d15_50) q) ?_
  show OwnFin _ _ _ _ (T8.setTop (mkF m 51 _ [(.int 1)]))
  refine OwnFin.st (fun _ q => XS.goto X8.here hx rfl (pc0 := 51) (pc' := 55) rfl (hb hby d15_51) (by decide) (by decide) q) ?_
  show OwnFin _ _ _ _ (T8.setTop (mkF m 55 _ [(.int 1)]))
  obtain ⟨fs, hr, hrun, hended, hW, hsame⟩ := X8.leave (v := some (.int 1)) (fun h => by rw [Bd.returns] at h; cases h)
  refine ⟨_, _, retN X8 hx (t := .boolean) Bd.returns (by simp) (hb hby d15_55) hr, hrun, hended, _, _, rfl, ?_, ⟨_, rfl⟩, hW, hsame.mono (by decide) (by decide)⟩
  show Q_rm_se00 Z a0 a1 b0 b1 k_b0 k_b1 w_COMPACT_STRINGS h0 n0 _ T8.heap _
  rw [he8]
  exact ⟨rfl, N8, rfl⟩
theorem d16_34 : decode jdk_43_method_13_code 34 = .ok (.iconst 0, 1) := by decide +kernel
theorem d16_35 : decode jdk_43_method_13_code 35 = .ok (.ireturn, 1) := by decide +kernel
theorem ef_rm_le01 (m : MethodId) (a0 : Addr) (a1 : Addr) : entryFrame m #[(.ref a0), (.ref a1)] 3 = mkF m 0 #[.val (.ref a0), .val (.ref a1), .unset] [] := by first | (simp [entryFrame, mkF, argsToLocals, Value.category]; done) | rfl
def Q_rm_le01 (Z : State) (a0 : Addr) (a1 : Addr) (k_a0 : ClassId) (k_a1 : ClassId) (x0 : Int32) (h0 : Heap) (n0 : Nat) (v : Option Value) (h : Heap) (L : List Loc) : Prop := v = some (.int 0) ∧ Fr n0 L ∧ h = h0
set_option maxRecDepth 65536 in
set_option maxHeartbeats 40000000 in
theorem rm_le01 (l : Launch) (Z : State) (av0 : Array Value) (hw : ∀ d ∈ tables_1, d.before av0 Z = true) (ws : List Jvm.Cond) (a0 : Addr) (a1 : Addr) (k_a0 : ClassId) (k_a1 : ClassId) (x0 : Int32) (h0 : Heap) (n0 : Nat) (Z0 : n0 ≤ h0.size) (V_a0 : Arv Z h0 a0 k_a0 .byte (0 : Int32) [] (.int 0)) (V_a1 : Arv Z h0 a1 k_a1 .byte (1 : Int32) [(.int x0)] (.int 0)) :
    MetFree l yM15 (head1 (Jvm.Cond.code yM15 jdk_43_method_13_code 3 (some .boolean) :: ws) ({ frames := 0, cells := 0, slots := 0, locals := 0 } : Room)) (fun a U => a = #[(.ref a0), (.ref a1)] ∧ Z.Warmed39 U.vm ∧ U.heap = h0) (fun _ _ _ _ _ => True) (fun _ U o U' => ∃ v L, o = .returned v ∧ Q_rm_le01 Z a0 a1 k_a0 k_a1 x0 h0 n0 v U'.heap L ∧ FrameEnd U o U' L ({ frames := 0, cells := 0, slots := 0, locals := 0 } : Room).cells ({ frames := 0, cells := 0, slots := 0, locals := 0 } : Room).slots) := by
  refine MetFree.of_bodySF (plainFor_of_name pn_6) hisR ?_
  intro p e s m args below meth c s₁ Bd hml0 hP hK
  obtain ⟨rfl, hZ, hh⟩ := hP
  have hx := Bd.exec
  have hby := Bd.bytes
  have hml : c.maxLocals = 3 := hml0
  have hown : s.vm.findClass "java/lang/StringLatin1" = some m.cls := findClass_of_methodNamed Bd.named
  have hnm := (name_of_methodNamed Bd.named Bd.method).1
  have X0 : Stand p l e ({ frames := 0, cells := 0, slots := 0, locals := 0 } : Room) s m #[(.ref a0), (.ref a1)] below meth c s₁ [] 0 0 := Stand.of_body Bd
  have e0 : s₁.heap = h0 := by rw [← hh, Bd.state]; rfl
  have N0 := Fr.nil n0
  have pre0 : ∀ t, Steps p.tables e below (s₁.setTop (mkF m 0 #[.val (.ref a0), .val (.ref a1), .unset] [])) t → Steps p.tables e below (s₁.setTop (entryFrame m #[(.ref a0), (.ref a1)] 3)) t := fun t k => castTop (ef_rm_le01 m a0 a1) k
  change OwnFin p.tables e below _ (s₁.setTop (entryFrame m #[(.ref a0), (.ref a1)] 3))
  have kp0 : Keep h0 h0 [] := Keep.refl _ _
  refine OwnFin.st (fun _ q => pre0 _ q) ?_
  show OwnFin _ _ _ _ (s₁.setTop (mkF m 0 #[.val (.ref a0), .val (.ref a1), .unset] []))
  refine OwnFin.st (fun _ q => XS.aloadN X0.here hx rfl (hb hby d16_0) rfl rfl q) ?_
  show OwnFin _ _ _ _ (s₁.setTop (mkF m 1 _ [(.ref a0)]))
  have Vo1 : Arv Z h0 a0 k_a0 .byte (0 : Int32) [] (.int 0) := V_a0
  obtain ⟨cl1, Ar1, qa1, Sa1, Na1, Ha1, Ga1⟩ := id Vo1
  refine OwnFin.st (X0.arraylength hx (by rw [e0]; exact Ar1.1) (State.isArrayOf_alike (hZ).alike Ar1.2.1) (g := (mkF m 1 #[.val (.ref a0), .val (.ref a1), .unset] [(.ref a0)])) rfl rfl (hb hby d16_1)) ?_
  rw [len_of Sa1 Na1]
  show OwnFin _ _ _ _ (s₁.setTop (mkF m 2 _ [(.int 0)]))
  refine OwnFin.st (fun _ q => XS.aloadN X0.here hx rfl (hb hby d16_2) rfl rfl q) ?_
  show OwnFin _ _ _ _ (s₁.setTop (mkF m 3 _ [(.ref a1), (.int 0)]))
  have Vo2 : Arv Z h0 a1 k_a1 .byte (1 : Int32) [(.int x0)] (.int 0) := V_a1
  obtain ⟨cl2, Ar2, qa2, Sa2, Na2, Ha2, Ga2⟩ := id Vo2
  refine OwnFin.st (X0.arraylength hx (by rw [e0]; exact Ar2.1) (State.isArrayOf_alike (hZ).alike Ar2.2.1) (g := (mkF m 3 #[.val (.ref a0), .val (.ref a1), .unset] [(.ref a1), (.int 0)])) rfl rfl (hb hby d16_3)) ?_
  rw [len_of Sa2 Na2]
  show OwnFin _ _ _ _ (s₁.setTop (mkF m 4 _ [(.int 1), (.int 0)]))
  refine OwnFin.st (fun _ q => XS.icmpYes X0.here hx rfl (pc0 := 4) (pc' := 34) rfl (hb hby d16_4) rfl (Jvm.Free.XT.ii_ne_t (by decide : ¬ ((0 : Int32) = (1 : Int32)))) (by decide) (by decide) q) ?_
  show OwnFin _ _ _ _ (s₁.setTop (mkF m 34 _ []))
  refine OwnFin.st (fun _ q => XS.iconst X0.here hx rfl (hb hby d16_34) q) ?_
  show OwnFin _ _ _ _ (s₁.setTop (mkF m 35 _ [(.int 0)]))
  obtain ⟨fs, hr, hrun, hended, hW, hsame⟩ := X0.leave (v := some (.int 0)) (fun h => by rw [Bd.returns] at h; cases h)
  refine ⟨_, _, retN X0 hx (t := .boolean) Bd.returns (by simp) (hb hby d16_35) hr, hrun, hended, _, _, rfl, ?_, ⟨_, rfl⟩, hW, hsame.mono (by decide) (by decide)⟩
  show Q_rm_le01 Z a0 a1 k_a0 k_a1 x0 h0 n0 _ s₁.heap _
  rw [e0]
  exact ⟨rfl, N0, rfl⟩
theorem d15_54 : decode jdk_42_method_66_code 54 = .ok (.iconst 0, 1) := by decide +kernel
theorem ef_rm_se01 (m : MethodId) (a0 : Addr) (a1 : Addr) : entryFrame m #[(.ref a0), (.ref a1)] 3 = mkF m 0 #[.val (.ref a0), .val (.ref a1), .unset] [] := by first | (simp [entryFrame, mkF, argsToLocals, Value.category]; done) | rfl
def Q_rm_se01 (Z : State) (a0 : Addr) (a1 : Addr) (b0 : Addr) (b1 : Addr) (k_b0 : ClassId) (k_b1 : ClassId) (x0 : Int32) (w_COMPACT_STRINGS : Int32) (h0 : Heap) (n0 : Nat) (v : Option Value) (h : Heap) (L : List Loc) : Prop := v = some (.int 0) ∧ Fr n0 L ∧ h = h0
set_option maxRecDepth 65536 in
set_option maxHeartbeats 40000000 in
theorem rm_se01 (l : Launch) (Z : State) (av0 : Array Value) (hw : ∀ d ∈ tables_1, d.before av0 Z = true) (ws : List Jvm.Cond) (a0 : Addr) (a1 : Addr) (b0 : Addr) (b1 : Addr) (k_b0 : ClassId) (k_b1 : ClassId) (x0 : Int32) (w_COMPACT_STRINGS : Int32) (h0 : Heap) (n0 : Nat) (Z0 : n0 ≤ h0.size) (Ol0 : Old Z n0 h0) (X_a0 : Exa Z h0 a0 "java/lang/String") (F_coder_a0 : Fld Z h0 a0 "java/lang/String" "coder" "B" (.int 0)) (F_value_a0 : Fld Z h0 a0 "java/lang/String" "value" "[B" (.ref b0)) (X_a1 : Exa Z h0 a1 "java/lang/String") (F_coder_a1 : Fld Z h0 a1 "java/lang/String" "coder" "B" (.int 0)) (F_value_a1 : Fld Z h0 a1 "java/lang/String" "value" "[B" (.ref b1)) (V_b0 : Arv Z h0 b0 k_b0 .byte (0 : Int32) [] (.int 0)) (V_b1 : Arv Z h0 b1 k_b1 .byte (1 : Int32) [(.int x0)] (.int 0)) (hc0 : ¬ (a0 = a1)) (S_COMPACT_STRINGS : Sta Z Z.heap "java/lang/String" "COMPACT_STRINGS" "Z" (.int w_COMPACT_STRINGS)) (hc1 : ¬ (w_COMPACT_STRINGS = (0 : Int32))) :
    MetFree l yM16 (head1 (Jvm.Cond.code yM16 jdk_42_method_66_code 3 (some .boolean) :: ws) ({ frames := 1, cells := 0, slots := 0, locals := 14 } : Room)) (fun a U => a = #[(.ref a0), (.ref a1)] ∧ Z.Warmed39 U.vm ∧ U.heap = h0) (fun _ _ _ _ _ => True) (fun _ U o U' => ∃ v L, o = .returned v ∧ Q_rm_se01 Z a0 a1 b0 b1 k_b0 k_b1 x0 w_COMPACT_STRINGS h0 n0 v U'.heap L ∧ FrameEnd U o U' L ({ frames := 1, cells := 0, slots := 0, locals := 14 } : Room).cells ({ frames := 1, cells := 0, slots := 0, locals := 14 } : Room).slots) := by
  refine MetFree.of_bodySF (plainFor_of_name pn_0) hisR ?_
  intro p e s m args below meth c s₁ Bd hml0 hP hK
  obtain ⟨rfl, hZ, hh⟩ := hP
  have hx := Bd.exec
  have hby := Bd.bytes
  have hml : c.maxLocals = 3 := hml0
  have hown : s.vm.findClass "java/lang/String" = some m.cls := findClass_of_methodNamed Bd.named
  have hnm := (name_of_methodNamed Bd.named Bd.method).1
  have X0 : Stand p l e ({ frames := 1, cells := 0, slots := 0, locals := 14 } : Room) s m #[(.ref a0), (.ref a1)] below meth c s₁ [] 0 0 := Stand.of_body Bd
  have e0 : s₁.heap = h0 := by rw [← hh, Bd.state]; rfl
  have N0 := Fr.nil n0
  have pre0 : ∀ t, Steps p.tables e below (s₁.setTop (mkF m 0 #[.val (.ref a0), .val (.ref a1), .unset] [])) t → Steps p.tables e below (s₁.setTop (entryFrame m #[(.ref a0), (.ref a1)] 3)) t := fun t k => castTop (ef_rm_se01 m a0 a1) k
  change OwnFin p.tables e below _ (s₁.setTop (entryFrame m #[(.ref a0), (.ref a1)] 3))
  have kp0 : Keep h0 h0 [] := Keep.refl _ _
  refine OwnFin.st (fun _ q => pre0 _ q) ?_
  show OwnFin _ _ _ _ (s₁.setTop (mkF m 0 #[.val (.ref a0), .val (.ref a1), .unset] []))
  refine OwnFin.st (fun _ q => XS.aloadN X0.here hx rfl (hb hby d15_0) rfl rfl q) ?_
  show OwnFin _ _ _ _ (s₁.setTop (mkF m 1 _ [(.ref a0)]))
  refine OwnFin.st (fun _ q => XS.aloadN X0.here hx rfl (hb hby d15_1) rfl rfl q) ?_
  show OwnFin _ _ _ _ (s₁.setTop (mkF m 2 _ [(.ref a1), (.ref a0)]))
  refine OwnFin.st (fun _ q => Jvm.RoadKit.acmp (g := (mkF m 2 #[.val (.ref a0), .val (.ref a1), .unset] [(.ref a1), (.ref a0)])) X0 hx rfl rfl rfl (pc0 := 2) (pc' := 7) (same := false) rfl (hb hby d15_2) rfl (decide_eq_false fun q => hc0 (Value.ref.inj q)) (by decide) (by decide) q) ?_
  show OwnFin _ _ _ _ (s₁.setTop (mkF m 7 _ []))
  refine OwnFin.st (fun _ q => XS.aloadN X0.here hx rfl (hb hby d15_7) rfl rfl q) ?_
  show OwnFin _ _ _ _ (s₁.setTop (mkF m 8 _ [(.ref a1)]))
  obtain ⟨T1, X1, e1, st1⟩ := instY X0 hx hZ hown (w_ hw 98 rfl) e0 (Ins.self X_a1) (g := (mkF m 8 #[.val (.ref a0), .val (.ref a1), .unset] [(.ref a1)])) rfl rfl (hb hby d15_8)
  refine OwnFin.st st1 ?_
  show OwnFin _ _ _ _ (T1.setTop (mkF m 11 _ [(.int 1)]))
  refine OwnFin.st (fun _ q => XS.ifNo X1.here hx rfl (hb hby d15_11) rfl (Jvm.Free.XT.i0_eq_f (by decide : ¬ ((1 : Int32) = (0 : Int32)))) q) ?_
  show OwnFin _ _ _ _ (T1.setTop (mkF m 14 _ []))
  refine OwnFin.st (fun _ q => XS.aloadN X1.here hx rfl (hb hby d15_14) rfl rfl q) ?_
  show OwnFin _ _ _ _ (T1.setTop (mkF m 15 _ [(.ref a1)]))
  obtain ⟨T2, X2, e2, st2⟩ := castY X1 hx hZ hown (w_ hw 98 rfl) e1 (Ins.self X_a1) (g := (mkF m 15 #[.val (.ref a0), .val (.ref a1), .unset] [(.ref a1)])) rfl rfl (hb hby d15_15)
  refine OwnFin.st st2 ?_
  show OwnFin _ _ _ _ (T2.setTop (mkF m 18 _ [(.ref a1)]))
  refine OwnFin.st (fun _ q => XS.astoreN X2.here hx rfl (hb hby d15_18) rfl rfl (l' := #[.val (.ref a0), .val (.ref a1), .val (.ref a1)]) rfl q) ?_
  show OwnFin _ _ _ _ (T2.setTop (mkF m 19 _ []))
  obtain ⟨T3, X3, e3, st3⟩ := getS2 X2 hx hZ hown (host := "") (Or.inl (w_ hw 99 rfl)) Via.refl e2 (S_COMPACT_STRINGS.ext Ol0.2) (g := (mkF m 19 #[.val (.ref a0), .val (.ref a1), .val (.ref a1)] [])) rfl (hb hby d15_19)
  refine OwnFin.st st3 ?_
  show OwnFin _ _ _ _ (T3.setTop (mkF m 22 _ [(.int w_COMPACT_STRINGS)]))
  refine OwnFin.st (fun _ q => XS.ifNo X3.here hx rfl (hb hby d15_22) rfl (Jvm.Free.XT.i0_eq_f hc1) q) ?_
  show OwnFin _ _ _ _ (T3.setTop (mkF m 25 _ []))
  refine OwnFin.st (fun _ q => XS.aloadN X3.here hx rfl (hb hby d15_25) rfl rfl q) ?_
  show OwnFin _ _ _ _ (T3.setTop (mkF m 26 _ [(.ref a0)]))
  obtain ⟨T4, X4, e4, st4⟩ := getF X3 hx hZ hown (host := "") (Or.inl (w_ hw 34 rfl)) Via.refl e3 F_coder_a0 (g := (mkF m 26 #[.val (.ref a0), .val (.ref a1), .val (.ref a1)] [(.ref a0)])) rfl rfl (hb hby d15_26)
  refine OwnFin.st st4 ?_
  show OwnFin _ _ _ _ (T4.setTop (mkF m 29 #[.val (.ref a0), .val (.ref a1), .val (.ref a1)] [(.int 0)]))
  refine OwnFin.st (fun _ q => XS.aloadN X4.here hx rfl (hb hby d15_29) rfl rfl q) ?_
  show OwnFin _ _ _ _ (T4.setTop (mkF m 30 _ [(.ref a1), (.int 0)]))
  obtain ⟨T5, X5, e5, st5⟩ := getF X4 hx hZ hown (host := "") (Or.inl (w_ hw 34 rfl)) Via.refl e4 F_coder_a1 (g := (mkF m 30 #[.val (.ref a0), .val (.ref a1), .val (.ref a1)] [(.ref a1), (.int 0)])) rfl rfl (hb hby d15_30)
  refine OwnFin.st st5 ?_
  show OwnFin _ _ _ _ (T5.setTop (mkF m 33 _ [(.int 0), (.int 0)]))
  refine OwnFin.st (fun _ q => XS.icmpNo X5.here hx rfl (hb hby d15_33) rfl (Jvm.Free.XT.ii_ne_f (rfl : (0 : Int32) = (0 : Int32))) q) ?_
  show OwnFin _ _ _ _ (T5.setTop (mkF m 36 _ []))
  refine OwnFin.st (fun _ q => XS.aloadN X5.here hx rfl (hb hby d15_36) rfl rfl q) ?_
  show OwnFin _ _ _ _ (T5.setTop (mkF m 37 _ [(.ref a0)]))
  obtain ⟨T6, X6, e6, st6⟩ := getF X5 hx hZ hown (host := "") (Or.inl (w_ hw 33 rfl)) Via.refl e5 F_value_a0 (g := (mkF m 37 #[.val (.ref a0), .val (.ref a1), .val (.ref a1)] [(.ref a0)])) rfl rfl (hb hby d15_37)
  refine OwnFin.st st6 ?_
  show OwnFin _ _ _ _ (T6.setTop (mkF m 40 _ [(.ref b0)]))
  refine OwnFin.st (fun _ q => XS.aloadN X6.here hx rfl (hb hby d15_40) rfl rfl q) ?_
  show OwnFin _ _ _ _ (T6.setTop (mkF m 41 _ [(.ref a1), (.ref b0)]))
  obtain ⟨T7, X7, e7, st7⟩ := getF X6 hx hZ hown (host := "") (Or.inl (w_ hw 33 rfl)) Via.refl e6 F_value_a1 (g := (mkF m 41 #[.val (.ref a0), .val (.ref a1), .val (.ref a1)] [(.ref a1), (.ref b0)])) rfl rfl (hb hby d15_41)
  refine OwnFin.st st7 ?_
  show OwnFin _ _ _ _ (T7.setTop (mkF m 44 _ [(.ref b1), (.ref b0)]))
  obtain ⟨_, _, ⟨T8, L8, k8, n8⟩, -, X8, ⟨Lc8, hQ8, l8, y8, z8⟩, st8⟩ := Jvm.LawKit.callS X7 hx (y := yM15) hown (mvT hZ (w_ hw 100 rfl)) (mvT hZ (w_ hw 101 rfl)) (mvT hZ (w_ hw 102 rfl)) (mvT hZ (w_ hw 103 rfl)) (by decide) (backOf (W := 0) (rm_le01 l Z av0 hw [] b0 b1 k_b0 k_b1 x0 h0 n0 (Nat.le_trans Z0 kp0.1) V_b0 V_b1) hZ (w_ hw 103 rfl) (w_ hw 102 rfl) (by decide) (by decide)) (g := (mkF m 44 #[.val (.ref a0), .val (.ref a1), .val (.ref a1)] [(.ref b1), (.ref b0)])) rfl (by rw [hml]; rfl) (argsL := [(.ref b0), (.ref b1)]) (rest := []) (lenOf pd_9 rfl) rfl (by show 2 * 0 + _ ≤ _; exact Nat.le_of_eq rfl) (hb hby d15_44) (fun _ _ => ⟨rfl, e7, (by decide : 0 + 0 ≤ _), (by decide : 0 + 0 ≤ _)⟩)
  dsimp only [Pt.U, Pt.locs, Pt.cells, Pt.slots] at X8 l8 y8 z8 st8 hQ8
  subst l8 y8 z8
  obtain ⟨rfl, N8q, he8⟩ := hQ8
  have N8 := Fr.app N0 N8q
  refine OwnFin.st st8 ?_
  show OwnFin _ _ _ _ (T8.setTop (mkF m 47 _ [(.int 0)]))
  refine OwnFin.st (fun _ q => XS.ifYes X8.here hx rfl (pc0 := 47) (pc' := 54) rfl (hb hby d15_47) rfl (Jvm.Free.XT.i0_eq_t (rfl : (0 : Int32) = (0 : Int32))) (by decide) (by decide) q) ?_
  show OwnFin _ _ _ _ (T8.setTop (mkF m 54 _ []))
  refine OwnFin.st (fun _ q => XS.iconst X8.here hx rfl (hb hby d15_54) q) ?_
  show OwnFin _ _ _ _ (T8.setTop (mkF m 55 _ [(.int 0)]))
  obtain ⟨fs, hr, hrun, hended, hW, hsame⟩ := X8.leave (v := some (.int 0)) (fun h => by rw [Bd.returns] at h; cases h)
  refine ⟨_, _, retN X8 hx (t := .boolean) Bd.returns (by simp) (hb hby d15_55) hr, hrun, hended, _, _, rfl, ?_, ⟨_, rfl⟩, hW, hsame.mono (by decide) (by decide)⟩
  show Q_rm_se01 Z a0 a1 b0 b1 k_b0 k_b1 x0 w_COMPACT_STRINGS h0 n0 _ T8.heap _
  rw [he8]
  exact ⟨rfl, N8, rfl⟩
theorem ef_rm_le02 (m : MethodId) (a0 : Addr) (a1 : Addr) : entryFrame m #[(.ref a0), (.ref a1)] 3 = mkF m 0 #[.val (.ref a0), .val (.ref a1), .unset] [] := by first | (simp [entryFrame, mkF, argsToLocals, Value.category]; done) | rfl
def Q_rm_le02 (Z : State) (a0 : Addr) (a1 : Addr) (k_a0 : ClassId) (k_a1 : ClassId) (x0 : Int32) (x1 : Int32) (h0 : Heap) (n0 : Nat) (v : Option Value) (h : Heap) (L : List Loc) : Prop := v = some (.int 0) ∧ Fr n0 L ∧ h = h0
set_option maxRecDepth 65536 in
set_option maxHeartbeats 40000000 in
theorem rm_le02 (l : Launch) (Z : State) (av0 : Array Value) (hw : ∀ d ∈ tables_1, d.before av0 Z = true) (ws : List Jvm.Cond) (a0 : Addr) (a1 : Addr) (k_a0 : ClassId) (k_a1 : ClassId) (x0 : Int32) (x1 : Int32) (h0 : Heap) (n0 : Nat) (Z0 : n0 ≤ h0.size) (V_a0 : Arv Z h0 a0 k_a0 .byte (0 : Int32) [] (.int 0)) (V_a1 : Arv Z h0 a1 k_a1 .byte (2 : Int32) [(.int x0), (.int x1)] (.int 0)) :
    MetFree l yM15 (head1 (Jvm.Cond.code yM15 jdk_43_method_13_code 3 (some .boolean) :: ws) ({ frames := 0, cells := 0, slots := 0, locals := 0 } : Room)) (fun a U => a = #[(.ref a0), (.ref a1)] ∧ Z.Warmed39 U.vm ∧ U.heap = h0) (fun _ _ _ _ _ => True) (fun _ U o U' => ∃ v L, o = .returned v ∧ Q_rm_le02 Z a0 a1 k_a0 k_a1 x0 x1 h0 n0 v U'.heap L ∧ FrameEnd U o U' L ({ frames := 0, cells := 0, slots := 0, locals := 0 } : Room).cells ({ frames := 0, cells := 0, slots := 0, locals := 0 } : Room).slots) := by
  refine MetFree.of_bodySF (plainFor_of_name pn_6) hisR ?_
  intro p e s m args below meth c s₁ Bd hml0 hP hK
  obtain ⟨rfl, hZ, hh⟩ := hP
  have hx := Bd.exec
  have hby := Bd.bytes
  have hml : c.maxLocals = 3 := hml0
  have hown : s.vm.findClass "java/lang/StringLatin1" = some m.cls := findClass_of_methodNamed Bd.named
  have hnm := (name_of_methodNamed Bd.named Bd.method).1
  have X0 : Stand p l e ({ frames := 0, cells := 0, slots := 0, locals := 0 } : Room) s m #[(.ref a0), (.ref a1)] below meth c s₁ [] 0 0 := Stand.of_body Bd
  have e0 : s₁.heap = h0 := by rw [← hh, Bd.state]; rfl
  have N0 := Fr.nil n0
  have pre0 : ∀ t, Steps p.tables e below (s₁.setTop (mkF m 0 #[.val (.ref a0), .val (.ref a1), .unset] [])) t → Steps p.tables e below (s₁.setTop (entryFrame m #[(.ref a0), (.ref a1)] 3)) t := fun t k => castTop (ef_rm_le02 m a0 a1) k
  change OwnFin p.tables e below _ (s₁.setTop (entryFrame m #[(.ref a0), (.ref a1)] 3))
  have kp0 : Keep h0 h0 [] := Keep.refl _ _
  refine OwnFin.st (fun _ q => pre0 _ q) ?_
  show OwnFin _ _ _ _ (s₁.setTop (mkF m 0 #[.val (.ref a0), .val (.ref a1), .unset] []))
  refine OwnFin.st (fun _ q => XS.aloadN X0.here hx rfl (hb hby d16_0) rfl rfl q) ?_
  show OwnFin _ _ _ _ (s₁.setTop (mkF m 1 _ [(.ref a0)]))
  have Vo1 : Arv Z h0 a0 k_a0 .byte (0 : Int32) [] (.int 0) := V_a0
  obtain ⟨cl1, Ar1, qa1, Sa1, Na1, Ha1, Ga1⟩ := id Vo1
  refine OwnFin.st (X0.arraylength hx (by rw [e0]; exact Ar1.1) (State.isArrayOf_alike (hZ).alike Ar1.2.1) (g := (mkF m 1 #[.val (.ref a0), .val (.ref a1), .unset] [(.ref a0)])) rfl rfl (hb hby d16_1)) ?_
  rw [len_of Sa1 Na1]
  show OwnFin _ _ _ _ (s₁.setTop (mkF m 2 _ [(.int 0)]))
  refine OwnFin.st (fun _ q => XS.aloadN X0.here hx rfl (hb hby d16_2) rfl rfl q) ?_
  show OwnFin _ _ _ _ (s₁.setTop (mkF m 3 _ [(.ref a1), (.int 0)]))
  have Vo2 : Arv Z h0 a1 k_a1 .byte (2 : Int32) [(.int x0), (.int x1)] (.int 0) := V_a1
  obtain ⟨cl2, Ar2, qa2, Sa2, Na2, Ha2, Ga2⟩ := id Vo2
  refine OwnFin.st (X0.arraylength hx (by rw [e0]; exact Ar2.1) (State.isArrayOf_alike (hZ).alike Ar2.2.1) (g := (mkF m 3 #[.val (.ref a0), .val (.ref a1), .unset] [(.ref a1), (.int 0)])) rfl rfl (hb hby d16_3)) ?_
  rw [len_of Sa2 Na2]
  show OwnFin _ _ _ _ (s₁.setTop (mkF m 4 _ [(.int 2), (.int 0)]))
  refine OwnFin.st (fun _ q => XS.icmpYes X0.here hx rfl (pc0 := 4) (pc' := 34) rfl (hb hby d16_4) rfl (Jvm.Free.XT.ii_ne_t (by decide : ¬ ((0 : Int32) = (2 : Int32)))) (by decide) (by decide) q) ?_
  show OwnFin _ _ _ _ (s₁.setTop (mkF m 34 _ []))
  refine OwnFin.st (fun _ q => XS.iconst X0.here hx rfl (hb hby d16_34) q) ?_
  show OwnFin _ _ _ _ (s₁.setTop (mkF m 35 _ [(.int 0)]))
  obtain ⟨fs, hr, hrun, hended, hW, hsame⟩ := X0.leave (v := some (.int 0)) (fun h => by rw [Bd.returns] at h; cases h)
  refine ⟨_, _, retN X0 hx (t := .boolean) Bd.returns (by simp) (hb hby d16_35) hr, hrun, hended, _, _, rfl, ?_, ⟨_, rfl⟩, hW, hsame.mono (by decide) (by decide)⟩
  show Q_rm_le02 Z a0 a1 k_a0 k_a1 x0 x1 h0 n0 _ s₁.heap _
  rw [e0]
  exact ⟨rfl, N0, rfl⟩
theorem ef_rm_se02 (m : MethodId) (a0 : Addr) (a1 : Addr) : entryFrame m #[(.ref a0), (.ref a1)] 3 = mkF m 0 #[.val (.ref a0), .val (.ref a1), .unset] [] := by first | (simp [entryFrame, mkF, argsToLocals, Value.category]; done) | rfl
def Q_rm_se02 (Z : State) (a0 : Addr) (a1 : Addr) (b0 : Addr) (b1 : Addr) (k_b0 : ClassId) (k_b1 : ClassId) (x0 : Int32) (x1 : Int32) (w_COMPACT_STRINGS : Int32) (h0 : Heap) (n0 : Nat) (v : Option Value) (h : Heap) (L : List Loc) : Prop := v = some (.int 0) ∧ Fr n0 L ∧ h = h0
set_option maxRecDepth 65536 in
set_option maxHeartbeats 40000000 in
theorem rm_se02 (l : Launch) (Z : State) (av0 : Array Value) (hw : ∀ d ∈ tables_1, d.before av0 Z = true) (ws : List Jvm.Cond) (a0 : Addr) (a1 : Addr) (b0 : Addr) (b1 : Addr) (k_b0 : ClassId) (k_b1 : ClassId) (x0 : Int32) (x1 : Int32) (w_COMPACT_STRINGS : Int32) (h0 : Heap) (n0 : Nat) (Z0 : n0 ≤ h0.size) (Ol0 : Old Z n0 h0) (X_a0 : Exa Z h0 a0 "java/lang/String") (F_coder_a0 : Fld Z h0 a0 "java/lang/String" "coder" "B" (.int 0)) (F_value_a0 : Fld Z h0 a0 "java/lang/String" "value" "[B" (.ref b0)) (X_a1 : Exa Z h0 a1 "java/lang/String") (F_coder_a1 : Fld Z h0 a1 "java/lang/String" "coder" "B" (.int 0)) (F_value_a1 : Fld Z h0 a1 "java/lang/String" "value" "[B" (.ref b1)) (V_b0 : Arv Z h0 b0 k_b0 .byte (0 : Int32) [] (.int 0)) (V_b1 : Arv Z h0 b1 k_b1 .byte (2 : Int32) [(.int x0), (.int x1)] (.int 0)) (hc0 : ¬ (a0 = a1)) (S_COMPACT_STRINGS : Sta Z Z.heap "java/lang/String" "COMPACT_STRINGS" "Z" (.int w_COMPACT_STRINGS)) (hc1 : ¬ (w_COMPACT_STRINGS = (0 : Int32))) :
    MetFree l yM16 (head1 (Jvm.Cond.code yM16 jdk_42_method_66_code 3 (some .boolean) :: ws) ({ frames := 1, cells := 0, slots := 0, locals := 14 } : Room)) (fun a U => a = #[(.ref a0), (.ref a1)] ∧ Z.Warmed39 U.vm ∧ U.heap = h0) (fun _ _ _ _ _ => True) (fun _ U o U' => ∃ v L, o = .returned v ∧ Q_rm_se02 Z a0 a1 b0 b1 k_b0 k_b1 x0 x1 w_COMPACT_STRINGS h0 n0 v U'.heap L ∧ FrameEnd U o U' L ({ frames := 1, cells := 0, slots := 0, locals := 14 } : Room).cells ({ frames := 1, cells := 0, slots := 0, locals := 14 } : Room).slots) := by
  refine MetFree.of_bodySF (plainFor_of_name pn_0) hisR ?_
  intro p e s m args below meth c s₁ Bd hml0 hP hK
  obtain ⟨rfl, hZ, hh⟩ := hP
  have hx := Bd.exec
  have hby := Bd.bytes
  have hml : c.maxLocals = 3 := hml0
  have hown : s.vm.findClass "java/lang/String" = some m.cls := findClass_of_methodNamed Bd.named
  have hnm := (name_of_methodNamed Bd.named Bd.method).1
  have X0 : Stand p l e ({ frames := 1, cells := 0, slots := 0, locals := 14 } : Room) s m #[(.ref a0), (.ref a1)] below meth c s₁ [] 0 0 := Stand.of_body Bd
  have e0 : s₁.heap = h0 := by rw [← hh, Bd.state]; rfl
  have N0 := Fr.nil n0
  have pre0 : ∀ t, Steps p.tables e below (s₁.setTop (mkF m 0 #[.val (.ref a0), .val (.ref a1), .unset] [])) t → Steps p.tables e below (s₁.setTop (entryFrame m #[(.ref a0), (.ref a1)] 3)) t := fun t k => castTop (ef_rm_se02 m a0 a1) k
  change OwnFin p.tables e below _ (s₁.setTop (entryFrame m #[(.ref a0), (.ref a1)] 3))
  have kp0 : Keep h0 h0 [] := Keep.refl _ _
  refine OwnFin.st (fun _ q => pre0 _ q) ?_
  show OwnFin _ _ _ _ (s₁.setTop (mkF m 0 #[.val (.ref a0), .val (.ref a1), .unset] []))
  refine OwnFin.st (fun _ q => XS.aloadN X0.here hx rfl (hb hby d15_0) rfl rfl q) ?_
  show OwnFin _ _ _ _ (s₁.setTop (mkF m 1 _ [(.ref a0)]))
  refine OwnFin.st (fun _ q => XS.aloadN X0.here hx rfl (hb hby d15_1) rfl rfl q) ?_
  show OwnFin _ _ _ _ (s₁.setTop (mkF m 2 _ [(.ref a1), (.ref a0)]))
  refine OwnFin.st (fun _ q => Jvm.RoadKit.acmp (g := (mkF m 2 #[.val (.ref a0), .val (.ref a1), .unset] [(.ref a1), (.ref a0)])) X0 hx rfl rfl rfl (pc0 := 2) (pc' := 7) (same := false) rfl (hb hby d15_2) rfl (decide_eq_false fun q => hc0 (Value.ref.inj q)) (by decide) (by decide) q) ?_
  show OwnFin _ _ _ _ (s₁.setTop (mkF m 7 _ []))
  refine OwnFin.st (fun _ q => XS.aloadN X0.here hx rfl (hb hby d15_7) rfl rfl q) ?_
  show OwnFin _ _ _ _ (s₁.setTop (mkF m 8 _ [(.ref a1)]))
  obtain ⟨T1, X1, e1, st1⟩ := instY X0 hx hZ hown (w_ hw 98 rfl) e0 (Ins.self X_a1) (g := (mkF m 8 #[.val (.ref a0), .val (.ref a1), .unset] [(.ref a1)])) rfl rfl (hb hby d15_8)
  refine OwnFin.st st1 ?_
  show OwnFin _ _ _ _ (T1.setTop (mkF m 11 _ [(.int 1)]))
  refine OwnFin.st (fun _ q => XS.ifNo X1.here hx rfl (hb hby d15_11) rfl (Jvm.Free.XT.i0_eq_f (by decide : ¬ ((1 : Int32) = (0 : Int32)))) q) ?_
  show OwnFin _ _ _ _ (T1.setTop (mkF m 14 _ []))
  refine OwnFin.st (fun _ q => XS.aloadN X1.here hx rfl (hb hby d15_14) rfl rfl q) ?_
  show OwnFin _ _ _ _ (T1.setTop (mkF m 15 _ [(.ref a1)]))
  obtain ⟨T2, X2, e2, st2⟩ := castY X1 hx hZ hown (w_ hw 98 rfl) e1 (Ins.self X_a1) (g := (mkF m 15 #[.val (.ref a0), .val (.ref a1), .unset] [(.ref a1)])) rfl rfl (hb hby d15_15)
  refine OwnFin.st st2 ?_
  show OwnFin _ _ _ _ (T2.setTop (mkF m 18 _ [(.ref a1)]))
  refine OwnFin.st (fun _ q => XS.astoreN X2.here hx rfl (hb hby d15_18) rfl rfl (l' := #[.val (.ref a0), .val (.ref a1), .val (.ref a1)]) rfl q) ?_
  show OwnFin _ _ _ _ (T2.setTop (mkF m 19 _ []))
  obtain ⟨T3, X3, e3, st3⟩ := getS2 X2 hx hZ hown (host := "") (Or.inl (w_ hw 99 rfl)) Via.refl e2 (S_COMPACT_STRINGS.ext Ol0.2) (g := (mkF m 19 #[.val (.ref a0), .val (.ref a1), .val (.ref a1)] [])) rfl (hb hby d15_19)
  refine OwnFin.st st3 ?_
  show OwnFin _ _ _ _ (T3.setTop (mkF m 22 _ [(.int w_COMPACT_STRINGS)]))
  refine OwnFin.st (fun _ q => XS.ifNo X3.here hx rfl (hb hby d15_22) rfl (Jvm.Free.XT.i0_eq_f hc1) q) ?_
  show OwnFin _ _ _ _ (T3.setTop (mkF m 25 _ []))
  refine OwnFin.st (fun _ q => XS.aloadN X3.here hx rfl (hb hby d15_25) rfl rfl q) ?_
  show OwnFin _ _ _ _ (T3.setTop (mkF m 26 _ [(.ref a0)]))
  obtain ⟨T4, X4, e4, st4⟩ := getF X3 hx hZ hown (host := "") (Or.inl (w_ hw 34 rfl)) Via.refl e3 F_coder_a0 (g := (mkF m 26 #[.val (.ref a0), .val (.ref a1), .val (.ref a1)] [(.ref a0)])) rfl rfl (hb hby d15_26)
  refine OwnFin.st st4 ?_
  show OwnFin _ _ _ _ (T4.setTop (mkF m 29 #[.val (.ref a0), .val (.ref a1), .val (.ref a1)] [(.int 0)]))
  refine OwnFin.st (fun _ q => XS.aloadN X4.here hx rfl (hb hby d15_29) rfl rfl q) ?_
  show OwnFin _ _ _ _ (T4.setTop (mkF m 30 _ [(.ref a1), (.int 0)]))
  obtain ⟨T5, X5, e5, st5⟩ := getF X4 hx hZ hown (host := "") (Or.inl (w_ hw 34 rfl)) Via.refl e4 F_coder_a1 (g := (mkF m 30 #[.val (.ref a0), .val (.ref a1), .val (.ref a1)] [(.ref a1), (.int 0)])) rfl rfl (hb hby d15_30)
  refine OwnFin.st st5 ?_
  show OwnFin _ _ _ _ (T5.setTop (mkF m 33 _ [(.int 0), (.int 0)]))
  refine OwnFin.st (fun _ q => XS.icmpNo X5.here hx rfl (hb hby d15_33) rfl (Jvm.Free.XT.ii_ne_f (rfl : (0 : Int32) = (0 : Int32))) q) ?_
  show OwnFin _ _ _ _ (T5.setTop (mkF m 36 _ []))
  refine OwnFin.st (fun _ q => XS.aloadN X5.here hx rfl (hb hby d15_36) rfl rfl q) ?_
  show OwnFin _ _ _ _ (T5.setTop (mkF m 37 _ [(.ref a0)]))
  obtain ⟨T6, X6, e6, st6⟩ := getF X5 hx hZ hown (host := "") (Or.inl (w_ hw 33 rfl)) Via.refl e5 F_value_a0 (g := (mkF m 37 #[.val (.ref a0), .val (.ref a1), .val (.ref a1)] [(.ref a0)])) rfl rfl (hb hby d15_37)
  refine OwnFin.st st6 ?_
  show OwnFin _ _ _ _ (T6.setTop (mkF m 40 _ [(.ref b0)]))
  refine OwnFin.st (fun _ q => XS.aloadN X6.here hx rfl (hb hby d15_40) rfl rfl q) ?_
  show OwnFin _ _ _ _ (T6.setTop (mkF m 41 _ [(.ref a1), (.ref b0)]))
  obtain ⟨T7, X7, e7, st7⟩ := getF X6 hx hZ hown (host := "") (Or.inl (w_ hw 33 rfl)) Via.refl e6 F_value_a1 (g := (mkF m 41 #[.val (.ref a0), .val (.ref a1), .val (.ref a1)] [(.ref a1), (.ref b0)])) rfl rfl (hb hby d15_41)
  refine OwnFin.st st7 ?_
  show OwnFin _ _ _ _ (T7.setTop (mkF m 44 _ [(.ref b1), (.ref b0)]))
  obtain ⟨_, _, ⟨T8, L8, k8, n8⟩, -, X8, ⟨Lc8, hQ8, l8, y8, z8⟩, st8⟩ := Jvm.LawKit.callS X7 hx (y := yM15) hown (mvT hZ (w_ hw 100 rfl)) (mvT hZ (w_ hw 101 rfl)) (mvT hZ (w_ hw 102 rfl)) (mvT hZ (w_ hw 103 rfl)) (by decide) (backOf (W := 0) (rm_le02 l Z av0 hw [] b0 b1 k_b0 k_b1 x0 x1 h0 n0 (Nat.le_trans Z0 kp0.1) V_b0 V_b1) hZ (w_ hw 103 rfl) (w_ hw 102 rfl) (by decide) (by decide)) (g := (mkF m 44 #[.val (.ref a0), .val (.ref a1), .val (.ref a1)] [(.ref b1), (.ref b0)])) rfl (by rw [hml]; rfl) (argsL := [(.ref b0), (.ref b1)]) (rest := []) (lenOf pd_9 rfl) rfl (by show 2 * 0 + _ ≤ _; exact Nat.le_of_eq rfl) (hb hby d15_44) (fun _ _ => ⟨rfl, e7, (by decide : 0 + 0 ≤ _), (by decide : 0 + 0 ≤ _)⟩)
  dsimp only [Pt.U, Pt.locs, Pt.cells, Pt.slots] at X8 l8 y8 z8 st8 hQ8
  subst l8 y8 z8
  obtain ⟨rfl, N8q, he8⟩ := hQ8
  have N8 := Fr.app N0 N8q
  refine OwnFin.st st8 ?_
  show OwnFin _ _ _ _ (T8.setTop (mkF m 47 _ [(.int 0)]))
  refine OwnFin.st (fun _ q => XS.ifYes X8.here hx rfl (pc0 := 47) (pc' := 54) rfl (hb hby d15_47) rfl (Jvm.Free.XT.i0_eq_t (rfl : (0 : Int32) = (0 : Int32))) (by decide) (by decide) q) ?_
  show OwnFin _ _ _ _ (T8.setTop (mkF m 54 _ []))
  refine OwnFin.st (fun _ q => XS.iconst X8.here hx rfl (hb hby d15_54) q) ?_
  show OwnFin _ _ _ _ (T8.setTop (mkF m 55 _ [(.int 0)]))
  obtain ⟨fs, hr, hrun, hended, hW, hsame⟩ := X8.leave (v := some (.int 0)) (fun h => by rw [Bd.returns] at h; cases h)
  refine ⟨_, _, retN X8 hx (t := .boolean) Bd.returns (by simp) (hb hby d15_55) hr, hrun, hended, _, _, rfl, ?_, ⟨_, rfl⟩, hW, hsame.mono (by decide) (by decide)⟩
  show Q_rm_se02 Z a0 a1 b0 b1 k_b0 k_b1 x0 x1 w_COMPACT_STRINGS h0 n0 _ T8.heap _
  rw [he8]
  exact ⟨rfl, N8, rfl⟩
theorem ef_rm_le10 (m : MethodId) (a0 : Addr) (a1 : Addr) : entryFrame m #[(.ref a0), (.ref a1)] 3 = mkF m 0 #[.val (.ref a0), .val (.ref a1), .unset] [] := by first | (simp [entryFrame, mkF, argsToLocals, Value.category]; done) | rfl
def Q_rm_le10 (Z : State) (a0 : Addr) (a1 : Addr) (k_a0 : ClassId) (y0 : Int32) (k_a1 : ClassId) (h0 : Heap) (n0 : Nat) (v : Option Value) (h : Heap) (L : List Loc) : Prop := v = some (.int 0) ∧ Fr n0 L ∧ h = h0
set_option maxRecDepth 65536 in
set_option maxHeartbeats 40000000 in
theorem rm_le10 (l : Launch) (Z : State) (av0 : Array Value) (hw : ∀ d ∈ tables_1, d.before av0 Z = true) (ws : List Jvm.Cond) (a0 : Addr) (a1 : Addr) (k_a0 : ClassId) (y0 : Int32) (k_a1 : ClassId) (h0 : Heap) (n0 : Nat) (Z0 : n0 ≤ h0.size) (V_a0 : Arv Z h0 a0 k_a0 .byte (1 : Int32) [(.int y0)] (.int 0)) (V_a1 : Arv Z h0 a1 k_a1 .byte (0 : Int32) [] (.int 0)) :
    MetFree l yM15 (head1 (Jvm.Cond.code yM15 jdk_43_method_13_code 3 (some .boolean) :: ws) ({ frames := 0, cells := 0, slots := 0, locals := 0 } : Room)) (fun a U => a = #[(.ref a0), (.ref a1)] ∧ Z.Warmed39 U.vm ∧ U.heap = h0) (fun _ _ _ _ _ => True) (fun _ U o U' => ∃ v L, o = .returned v ∧ Q_rm_le10 Z a0 a1 k_a0 y0 k_a1 h0 n0 v U'.heap L ∧ FrameEnd U o U' L ({ frames := 0, cells := 0, slots := 0, locals := 0 } : Room).cells ({ frames := 0, cells := 0, slots := 0, locals := 0 } : Room).slots) := by
  refine MetFree.of_bodySF (plainFor_of_name pn_6) hisR ?_
  intro p e s m args below meth c s₁ Bd hml0 hP hK
  obtain ⟨rfl, hZ, hh⟩ := hP
  have hx := Bd.exec
  have hby := Bd.bytes
  have hml : c.maxLocals = 3 := hml0
  have hown : s.vm.findClass "java/lang/StringLatin1" = some m.cls := findClass_of_methodNamed Bd.named
  have hnm := (name_of_methodNamed Bd.named Bd.method).1
  have X0 : Stand p l e ({ frames := 0, cells := 0, slots := 0, locals := 0 } : Room) s m #[(.ref a0), (.ref a1)] below meth c s₁ [] 0 0 := Stand.of_body Bd
  have e0 : s₁.heap = h0 := by rw [← hh, Bd.state]; rfl
  have N0 := Fr.nil n0
  have pre0 : ∀ t, Steps p.tables e below (s₁.setTop (mkF m 0 #[.val (.ref a0), .val (.ref a1), .unset] [])) t → Steps p.tables e below (s₁.setTop (entryFrame m #[(.ref a0), (.ref a1)] 3)) t := fun t k => castTop (ef_rm_le10 m a0 a1) k
  change OwnFin p.tables e below _ (s₁.setTop (entryFrame m #[(.ref a0), (.ref a1)] 3))
  have kp0 : Keep h0 h0 [] := Keep.refl _ _
  refine OwnFin.st (fun _ q => pre0 _ q) ?_
  show OwnFin _ _ _ _ (s₁.setTop (mkF m 0 #[.val (.ref a0), .val (.ref a1), .unset] []))
  refine OwnFin.st (fun _ q => XS.aloadN X0.here hx rfl (hb hby d16_0) rfl rfl q) ?_
  show OwnFin _ _ _ _ (s₁.setTop (mkF m 1 _ [(.ref a0)]))
  have Vo1 : Arv Z h0 a0 k_a0 .byte (1 : Int32) [(.int y0)] (.int 0) := V_a0
  obtain ⟨cl1, Ar1, qa1, Sa1, Na1, Ha1, Ga1⟩ := id Vo1
  refine OwnFin.st (X0.arraylength hx (by rw [e0]; exact Ar1.1) (State.isArrayOf_alike (hZ).alike Ar1.2.1) (g := (mkF m 1 #[.val (.ref a0), .val (.ref a1), .unset] [(.ref a0)])) rfl rfl (hb hby d16_1)) ?_
  rw [len_of Sa1 Na1]
  show OwnFin _ _ _ _ (s₁.setTop (mkF m 2 _ [(.int 1)]))
  refine OwnFin.st (fun _ q => XS.aloadN X0.here hx rfl (hb hby d16_2) rfl rfl q) ?_
  show OwnFin _ _ _ _ (s₁.setTop (mkF m 3 _ [(.ref a1), (.int 1)]))
  have Vo2 : Arv Z h0 a1 k_a1 .byte (0 : Int32) [] (.int 0) := V_a1
  obtain ⟨cl2, Ar2, qa2, Sa2, Na2, Ha2, Ga2⟩ := id Vo2
  refine OwnFin.st (X0.arraylength hx (by rw [e0]; exact Ar2.1) (State.isArrayOf_alike (hZ).alike Ar2.2.1) (g := (mkF m 3 #[.val (.ref a0), .val (.ref a1), .unset] [(.ref a1), (.int 1)])) rfl rfl (hb hby d16_3)) ?_
  rw [len_of Sa2 Na2]
  show OwnFin _ _ _ _ (s₁.setTop (mkF m 4 _ [(.int 0), (.int 1)]))
  refine OwnFin.st (fun _ q => XS.icmpYes X0.here hx rfl (pc0 := 4) (pc' := 34) rfl (hb hby d16_4) rfl (Jvm.Free.XT.ii_ne_t (by decide : ¬ ((1 : Int32) = (0 : Int32)))) (by decide) (by decide) q) ?_
  show OwnFin _ _ _ _ (s₁.setTop (mkF m 34 _ []))
  refine OwnFin.st (fun _ q => XS.iconst X0.here hx rfl (hb hby d16_34) q) ?_
  show OwnFin _ _ _ _ (s₁.setTop (mkF m 35 _ [(.int 0)]))
  obtain ⟨fs, hr, hrun, hended, hW, hsame⟩ := X0.leave (v := some (.int 0)) (fun h => by rw [Bd.returns] at h; cases h)
  refine ⟨_, _, retN X0 hx (t := .boolean) Bd.returns (by simp) (hb hby d16_35) hr, hrun, hended, _, _, rfl, ?_, ⟨_, rfl⟩, hW, hsame.mono (by decide) (by decide)⟩
  show Q_rm_le10 Z a0 a1 k_a0 y0 k_a1 h0 n0 _ s₁.heap _
  rw [e0]
  exact ⟨rfl, N0, rfl⟩
theorem ef_rm_se10 (m : MethodId) (a0 : Addr) (a1 : Addr) : entryFrame m #[(.ref a0), (.ref a1)] 3 = mkF m 0 #[.val (.ref a0), .val (.ref a1), .unset] [] := by first | (simp [entryFrame, mkF, argsToLocals, Value.category]; done) | rfl
def Q_rm_se10 (Z : State) (a0 : Addr) (a1 : Addr) (b0 : Addr) (b1 : Addr) (k_b0 : ClassId) (y0 : Int32) (k_b1 : ClassId) (w_COMPACT_STRINGS : Int32) (h0 : Heap) (n0 : Nat) (v : Option Value) (h : Heap) (L : List Loc) : Prop := v = some (.int 0) ∧ Fr n0 L ∧ h = h0
set_option maxRecDepth 65536 in
set_option maxHeartbeats 40000000 in
theorem rm_se10 (l : Launch) (Z : State) (av0 : Array Value) (hw : ∀ d ∈ tables_1, d.before av0 Z = true) (ws : List Jvm.Cond) (a0 : Addr) (a1 : Addr) (b0 : Addr) (b1 : Addr) (k_b0 : ClassId) (y0 : Int32) (k_b1 : ClassId) (w_COMPACT_STRINGS : Int32) (h0 : Heap) (n0 : Nat) (Z0 : n0 ≤ h0.size) (Ol0 : Old Z n0 h0) (X_a0 : Exa Z h0 a0 "java/lang/String") (F_coder_a0 : Fld Z h0 a0 "java/lang/String" "coder" "B" (.int 0)) (F_value_a0 : Fld Z h0 a0 "java/lang/String" "value" "[B" (.ref b0)) (X_a1 : Exa Z h0 a1 "java/lang/String") (F_coder_a1 : Fld Z h0 a1 "java/lang/String" "coder" "B" (.int 0)) (F_value_a1 : Fld Z h0 a1 "java/lang/String" "value" "[B" (.ref b1)) (V_b0 : Arv Z h0 b0 k_b0 .byte (1 : Int32) [(.int y0)] (.int 0)) (V_b1 : Arv Z h0 b1 k_b1 .byte (0 : Int32) [] (.int 0)) (hc0 : ¬ (a0 = a1)) (S_COMPACT_STRINGS : Sta Z Z.heap "java/lang/String" "COMPACT_STRINGS" "Z" (.int w_COMPACT_STRINGS)) (hc1 : ¬ (w_COMPACT_STRINGS = (0 : Int32))) :
    MetFree l yM16 (head1 (Jvm.Cond.code yM16 jdk_42_method_66_code 3 (some .boolean) :: ws) ({ frames := 1, cells := 0, slots := 0, locals := 14 } : Room)) (fun a U => a = #[(.ref a0), (.ref a1)] ∧ Z.Warmed39 U.vm ∧ U.heap = h0) (fun _ _ _ _ _ => True) (fun _ U o U' => ∃ v L, o = .returned v ∧ Q_rm_se10 Z a0 a1 b0 b1 k_b0 y0 k_b1 w_COMPACT_STRINGS h0 n0 v U'.heap L ∧ FrameEnd U o U' L ({ frames := 1, cells := 0, slots := 0, locals := 14 } : Room).cells ({ frames := 1, cells := 0, slots := 0, locals := 14 } : Room).slots) := by
  refine MetFree.of_bodySF (plainFor_of_name pn_0) hisR ?_
  intro p e s m args below meth c s₁ Bd hml0 hP hK
  obtain ⟨rfl, hZ, hh⟩ := hP
  have hx := Bd.exec
  have hby := Bd.bytes
  have hml : c.maxLocals = 3 := hml0
  have hown : s.vm.findClass "java/lang/String" = some m.cls := findClass_of_methodNamed Bd.named
  have hnm := (name_of_methodNamed Bd.named Bd.method).1
  have X0 : Stand p l e ({ frames := 1, cells := 0, slots := 0, locals := 14 } : Room) s m #[(.ref a0), (.ref a1)] below meth c s₁ [] 0 0 := Stand.of_body Bd
  have e0 : s₁.heap = h0 := by rw [← hh, Bd.state]; rfl
  have N0 := Fr.nil n0
  have pre0 : ∀ t, Steps p.tables e below (s₁.setTop (mkF m 0 #[.val (.ref a0), .val (.ref a1), .unset] [])) t → Steps p.tables e below (s₁.setTop (entryFrame m #[(.ref a0), (.ref a1)] 3)) t := fun t k => castTop (ef_rm_se10 m a0 a1) k
  change OwnFin p.tables e below _ (s₁.setTop (entryFrame m #[(.ref a0), (.ref a1)] 3))
  have kp0 : Keep h0 h0 [] := Keep.refl _ _
  refine OwnFin.st (fun _ q => pre0 _ q) ?_
  show OwnFin _ _ _ _ (s₁.setTop (mkF m 0 #[.val (.ref a0), .val (.ref a1), .unset] []))
  refine OwnFin.st (fun _ q => XS.aloadN X0.here hx rfl (hb hby d15_0) rfl rfl q) ?_
  show OwnFin _ _ _ _ (s₁.setTop (mkF m 1 _ [(.ref a0)]))
  refine OwnFin.st (fun _ q => XS.aloadN X0.here hx rfl (hb hby d15_1) rfl rfl q) ?_
  show OwnFin _ _ _ _ (s₁.setTop (mkF m 2 _ [(.ref a1), (.ref a0)]))
  refine OwnFin.st (fun _ q => Jvm.RoadKit.acmp (g := (mkF m 2 #[.val (.ref a0), .val (.ref a1), .unset] [(.ref a1), (.ref a0)])) X0 hx rfl rfl rfl (pc0 := 2) (pc' := 7) (same := false) rfl (hb hby d15_2) rfl (decide_eq_false fun q => hc0 (Value.ref.inj q)) (by decide) (by decide) q) ?_
  show OwnFin _ _ _ _ (s₁.setTop (mkF m 7 _ []))
  refine OwnFin.st (fun _ q => XS.aloadN X0.here hx rfl (hb hby d15_7) rfl rfl q) ?_
  show OwnFin _ _ _ _ (s₁.setTop (mkF m 8 _ [(.ref a1)]))
  obtain ⟨T1, X1, e1, st1⟩ := instY X0 hx hZ hown (w_ hw 98 rfl) e0 (Ins.self X_a1) (g := (mkF m 8 #[.val (.ref a0), .val (.ref a1), .unset] [(.ref a1)])) rfl rfl (hb hby d15_8)
  refine OwnFin.st st1 ?_
  show OwnFin _ _ _ _ (T1.setTop (mkF m 11 _ [(.int 1)]))
  refine OwnFin.st (fun _ q => XS.ifNo X1.here hx rfl (hb hby d15_11) rfl (Jvm.Free.XT.i0_eq_f (by decide : ¬ ((1 : Int32) = (0 : Int32)))) q) ?_
  show OwnFin _ _ _ _ (T1.setTop (mkF m 14 _ []))
  refine OwnFin.st (fun _ q => XS.aloadN X1.here hx rfl (hb hby d15_14) rfl rfl q) ?_
  show OwnFin _ _ _ _ (T1.setTop (mkF m 15 _ [(.ref a1)]))
  obtain ⟨T2, X2, e2, st2⟩ := castY X1 hx hZ hown (w_ hw 98 rfl) e1 (Ins.self X_a1) (g := (mkF m 15 #[.val (.ref a0), .val (.ref a1), .unset] [(.ref a1)])) rfl rfl (hb hby d15_15)
  refine OwnFin.st st2 ?_
  show OwnFin _ _ _ _ (T2.setTop (mkF m 18 _ [(.ref a1)]))
  refine OwnFin.st (fun _ q => XS.astoreN X2.here hx rfl (hb hby d15_18) rfl rfl (l' := #[.val (.ref a0), .val (.ref a1), .val (.ref a1)]) rfl q) ?_
  show OwnFin _ _ _ _ (T2.setTop (mkF m 19 _ []))
  obtain ⟨T3, X3, e3, st3⟩ := getS2 X2 hx hZ hown (host := "") (Or.inl (w_ hw 99 rfl)) Via.refl e2 (S_COMPACT_STRINGS.ext Ol0.2) (g := (mkF m 19 #[.val (.ref a0), .val (.ref a1), .val (.ref a1)] [])) rfl (hb hby d15_19)
  refine OwnFin.st st3 ?_
  show OwnFin _ _ _ _ (T3.setTop (mkF m 22 _ [(.int w_COMPACT_STRINGS)]))
  refine OwnFin.st (fun _ q => XS.ifNo X3.here hx rfl (hb hby d15_22) rfl (Jvm.Free.XT.i0_eq_f hc1) q) ?_
  show OwnFin _ _ _ _ (T3.setTop (mkF m 25 _ []))
  refine OwnFin.st (fun _ q => XS.aloadN X3.here hx rfl (hb hby d15_25) rfl rfl q) ?_
  show OwnFin _ _ _ _ (T3.setTop (mkF m 26 _ [(.ref a0)]))
  obtain ⟨T4, X4, e4, st4⟩ := getF X3 hx hZ hown (host := "") (Or.inl (w_ hw 34 rfl)) Via.refl e3 F_coder_a0 (g := (mkF m 26 #[.val (.ref a0), .val (.ref a1), .val (.ref a1)] [(.ref a0)])) rfl rfl (hb hby d15_26)
  refine OwnFin.st st4 ?_
  show OwnFin _ _ _ _ (T4.setTop (mkF m 29 #[.val (.ref a0), .val (.ref a1), .val (.ref a1)] [(.int 0)]))
  refine OwnFin.st (fun _ q => XS.aloadN X4.here hx rfl (hb hby d15_29) rfl rfl q) ?_
  show OwnFin _ _ _ _ (T4.setTop (mkF m 30 _ [(.ref a1), (.int 0)]))
  obtain ⟨T5, X5, e5, st5⟩ := getF X4 hx hZ hown (host := "") (Or.inl (w_ hw 34 rfl)) Via.refl e4 F_coder_a1 (g := (mkF m 30 #[.val (.ref a0), .val (.ref a1), .val (.ref a1)] [(.ref a1), (.int 0)])) rfl rfl (hb hby d15_30)
  refine OwnFin.st st5 ?_
  show OwnFin _ _ _ _ (T5.setTop (mkF m 33 _ [(.int 0), (.int 0)]))
  refine OwnFin.st (fun _ q => XS.icmpNo X5.here hx rfl (hb hby d15_33) rfl (Jvm.Free.XT.ii_ne_f (rfl : (0 : Int32) = (0 : Int32))) q) ?_
  show OwnFin _ _ _ _ (T5.setTop (mkF m 36 _ []))
  refine OwnFin.st (fun _ q => XS.aloadN X5.here hx rfl (hb hby d15_36) rfl rfl q) ?_
  show OwnFin _ _ _ _ (T5.setTop (mkF m 37 _ [(.ref a0)]))
  obtain ⟨T6, X6, e6, st6⟩ := getF X5 hx hZ hown (host := "") (Or.inl (w_ hw 33 rfl)) Via.refl e5 F_value_a0 (g := (mkF m 37 #[.val (.ref a0), .val (.ref a1), .val (.ref a1)] [(.ref a0)])) rfl rfl (hb hby d15_37)
  refine OwnFin.st st6 ?_
  show OwnFin _ _ _ _ (T6.setTop (mkF m 40 _ [(.ref b0)]))
  refine OwnFin.st (fun _ q => XS.aloadN X6.here hx rfl (hb hby d15_40) rfl rfl q) ?_
  show OwnFin _ _ _ _ (T6.setTop (mkF m 41 _ [(.ref a1), (.ref b0)]))
  obtain ⟨T7, X7, e7, st7⟩ := getF X6 hx hZ hown (host := "") (Or.inl (w_ hw 33 rfl)) Via.refl e6 F_value_a1 (g := (mkF m 41 #[.val (.ref a0), .val (.ref a1), .val (.ref a1)] [(.ref a1), (.ref b0)])) rfl rfl (hb hby d15_41)
  refine OwnFin.st st7 ?_
  show OwnFin _ _ _ _ (T7.setTop (mkF m 44 _ [(.ref b1), (.ref b0)]))
  obtain ⟨_, _, ⟨T8, L8, k8, n8⟩, -, X8, ⟨Lc8, hQ8, l8, y8, z8⟩, st8⟩ := Jvm.LawKit.callS X7 hx (y := yM15) hown (mvT hZ (w_ hw 100 rfl)) (mvT hZ (w_ hw 101 rfl)) (mvT hZ (w_ hw 102 rfl)) (mvT hZ (w_ hw 103 rfl)) (by decide) (backOf (W := 0) (rm_le10 l Z av0 hw [] b0 b1 k_b0 y0 k_b1 h0 n0 (Nat.le_trans Z0 kp0.1) V_b0 V_b1) hZ (w_ hw 103 rfl) (w_ hw 102 rfl) (by decide) (by decide)) (g := (mkF m 44 #[.val (.ref a0), .val (.ref a1), .val (.ref a1)] [(.ref b1), (.ref b0)])) rfl (by rw [hml]; rfl) (argsL := [(.ref b0), (.ref b1)]) (rest := []) (lenOf pd_9 rfl) rfl (by show 2 * 0 + _ ≤ _; exact Nat.le_of_eq rfl) (hb hby d15_44) (fun _ _ => ⟨rfl, e7, (by decide : 0 + 0 ≤ _), (by decide : 0 + 0 ≤ _)⟩)
  dsimp only [Pt.U, Pt.locs, Pt.cells, Pt.slots] at X8 l8 y8 z8 st8 hQ8
  subst l8 y8 z8
  obtain ⟨rfl, N8q, he8⟩ := hQ8
  have N8 := Fr.app N0 N8q
  refine OwnFin.st st8 ?_
  show OwnFin _ _ _ _ (T8.setTop (mkF m 47 _ [(.int 0)]))
  refine OwnFin.st (fun _ q => XS.ifYes X8.here hx rfl (pc0 := 47) (pc' := 54) rfl (hb hby d15_47) rfl (Jvm.Free.XT.i0_eq_t (rfl : (0 : Int32) = (0 : Int32))) (by decide) (by decide) q) ?_
  show OwnFin _ _ _ _ (T8.setTop (mkF m 54 _ []))
  refine OwnFin.st (fun _ q => XS.iconst X8.here hx rfl (hb hby d15_54) q) ?_
  show OwnFin _ _ _ _ (T8.setTop (mkF m 55 _ [(.int 0)]))
  obtain ⟨fs, hr, hrun, hended, hW, hsame⟩ := X8.leave (v := some (.int 0)) (fun h => by rw [Bd.returns] at h; cases h)
  refine ⟨_, _, retN X8 hx (t := .boolean) Bd.returns (by simp) (hb hby d15_55) hr, hrun, hended, _, _, rfl, ?_, ⟨_, rfl⟩, hW, hsame.mono (by decide) (by decide)⟩
  show Q_rm_se10 Z a0 a1 b0 b1 k_b0 y0 k_b1 w_COMPACT_STRINGS h0 n0 _ T8.heap _
  rw [he8]
  exact ⟨rfl, N8, rfl⟩
theorem d16_15 : decode jdk_43_method_13_code 15 = .ok (.aload_n 0, 1) := by decide +kernel
theorem d16_16 : decode jdk_43_method_13_code 16 = .ok (.iload_n 2, 1) := by decide +kernel
theorem d16_17 : decode jdk_43_method_13_code 17 = .ok (.baload, 1) := by decide +kernel
theorem d16_18 : decode jdk_43_method_13_code 18 = .ok (.aload_n 1, 1) := by decide +kernel
theorem d16_19 : decode jdk_43_method_13_code 19 = .ok (.iload_n 2, 1) := by decide +kernel
theorem d16_20 : decode jdk_43_method_13_code 20 = .ok (.baload, 1) := by decide +kernel
theorem d16_21 : decode jdk_43_method_13_code 21 = .ok (.if_icmp .eq 5, 3) := by decide +kernel
theorem d16_24 : decode jdk_43_method_13_code 24 = .ok (.iconst 0, 1) := by decide +kernel
theorem d16_25 : decode jdk_43_method_13_code 25 = .ok (.ireturn, 1) := by decide +kernel
theorem ef_rm_le11F (m : MethodId) (a0 : Addr) (a1 : Addr) : entryFrame m #[(.ref a0), (.ref a1)] 3 = mkF m 0 #[.val (.ref a0), .val (.ref a1), .unset] [] := by first | (simp [entryFrame, mkF, argsToLocals, Value.category]; done) | rfl
def Q_rm_le11F (Z : State) (a0 : Addr) (a1 : Addr) (k_a0 : ClassId) (y0 : Int32) (k_a1 : ClassId) (x0 : Int32) (h0 : Heap) (n0 : Nat) (v : Option Value) (h : Heap) (L : List Loc) : Prop := v = some (.int 0) ∧ Fr n0 L ∧ h = h0
set_option maxRecDepth 65536 in
set_option maxHeartbeats 40000000 in
theorem rm_le11F (l : Launch) (Z : State) (av0 : Array Value) (hw : ∀ d ∈ tables_1, d.before av0 Z = true) (ws : List Jvm.Cond) (a0 : Addr) (a1 : Addr) (k_a0 : ClassId) (y0 : Int32) (k_a1 : ClassId) (x0 : Int32) (h0 : Heap) (n0 : Nat) (Z0 : n0 ≤ h0.size) (V_a0 : Arv Z h0 a0 k_a0 .byte (1 : Int32) [(.int y0)] (.int 0)) (V_a1 : Arv Z h0 a1 k_a1 .byte (1 : Int32) [(.int x0)] (.int 0)) (hc0 : ¬ (y0 = x0)) :
    MetFree l yM15 (head1 (Jvm.Cond.code yM15 jdk_43_method_13_code 3 (some .boolean) :: ws) ({ frames := 0, cells := 0, slots := 0, locals := 0 } : Room)) (fun a U => a = #[(.ref a0), (.ref a1)] ∧ Z.Warmed39 U.vm ∧ U.heap = h0) (fun _ _ _ _ _ => True) (fun _ U o U' => ∃ v L, o = .returned v ∧ Q_rm_le11F Z a0 a1 k_a0 y0 k_a1 x0 h0 n0 v U'.heap L ∧ FrameEnd U o U' L ({ frames := 0, cells := 0, slots := 0, locals := 0 } : Room).cells ({ frames := 0, cells := 0, slots := 0, locals := 0 } : Room).slots) := by
  refine MetFree.of_bodySF (plainFor_of_name pn_6) hisR ?_
  intro p e s m args below meth c s₁ Bd hml0 hP hK
  obtain ⟨rfl, hZ, hh⟩ := hP
  have hx := Bd.exec
  have hby := Bd.bytes
  have hml : c.maxLocals = 3 := hml0
  have hown : s.vm.findClass "java/lang/StringLatin1" = some m.cls := findClass_of_methodNamed Bd.named
  have hnm := (name_of_methodNamed Bd.named Bd.method).1
  have X0 : Stand p l e ({ frames := 0, cells := 0, slots := 0, locals := 0 } : Room) s m #[(.ref a0), (.ref a1)] below meth c s₁ [] 0 0 := Stand.of_body Bd
  have e0 : s₁.heap = h0 := by rw [← hh, Bd.state]; rfl
  have N0 := Fr.nil n0
  have pre0 : ∀ t, Steps p.tables e below (s₁.setTop (mkF m 0 #[.val (.ref a0), .val (.ref a1), .unset] [])) t → Steps p.tables e below (s₁.setTop (entryFrame m #[(.ref a0), (.ref a1)] 3)) t := fun t k => castTop (ef_rm_le11F m a0 a1) k
  change OwnFin p.tables e below _ (s₁.setTop (entryFrame m #[(.ref a0), (.ref a1)] 3))
  have kp0 : Keep h0 h0 [] := Keep.refl _ _
  refine OwnFin.st (fun _ q => pre0 _ q) ?_
  show OwnFin _ _ _ _ (s₁.setTop (mkF m 0 #[.val (.ref a0), .val (.ref a1), .unset] []))
  refine OwnFin.st (fun _ q => XS.aloadN X0.here hx rfl (hb hby d16_0) rfl rfl q) ?_
  show OwnFin _ _ _ _ (s₁.setTop (mkF m 1 _ [(.ref a0)]))
  have Vo1 : Arv Z h0 a0 k_a0 .byte (1 : Int32) [(.int y0)] (.int 0) := V_a0
  obtain ⟨cl1, Ar1, qa1, Sa1, Na1, Ha1, Ga1⟩ := id Vo1
  refine OwnFin.st (X0.arraylength hx (by rw [e0]; exact Ar1.1) (State.isArrayOf_alike (hZ).alike Ar1.2.1) (g := (mkF m 1 #[.val (.ref a0), .val (.ref a1), .unset] [(.ref a0)])) rfl rfl (hb hby d16_1)) ?_
  rw [len_of Sa1 Na1]
  show OwnFin _ _ _ _ (s₁.setTop (mkF m 2 _ [(.int 1)]))
  refine OwnFin.st (fun _ q => XS.aloadN X0.here hx rfl (hb hby d16_2) rfl rfl q) ?_
  show OwnFin _ _ _ _ (s₁.setTop (mkF m 3 _ [(.ref a1), (.int 1)]))
  have Vo2 : Arv Z h0 a1 k_a1 .byte (1 : Int32) [(.int x0)] (.int 0) := V_a1
  obtain ⟨cl2, Ar2, qa2, Sa2, Na2, Ha2, Ga2⟩ := id Vo2
  refine OwnFin.st (X0.arraylength hx (by rw [e0]; exact Ar2.1) (State.isArrayOf_alike (hZ).alike Ar2.2.1) (g := (mkF m 3 #[.val (.ref a0), .val (.ref a1), .unset] [(.ref a1), (.int 1)])) rfl rfl (hb hby d16_3)) ?_
  rw [len_of Sa2 Na2]
  show OwnFin _ _ _ _ (s₁.setTop (mkF m 4 _ [(.int 1), (.int 1)]))
  refine OwnFin.st (fun _ q => XS.icmpNo X0.here hx rfl (hb hby d16_4) rfl (Jvm.Free.XT.ii_ne_f (rfl : (1 : Int32) = (1 : Int32))) q) ?_
  show OwnFin _ _ _ _ (s₁.setTop (mkF m 7 _ []))
  refine OwnFin.st (fun _ q => XS.iconst X0.here hx rfl (hb hby d16_7) q) ?_
  show OwnFin _ _ _ _ (s₁.setTop (mkF m 8 _ [(.int 0)]))
  refine OwnFin.st (fun _ q => XS.istoreN X0.here hx rfl (hb hby d16_8) rfl (l' := #[.val (.ref a0), .val (.ref a1), .val (.int 0)]) rfl q) ?_
  show OwnFin _ _ _ _ (s₁.setTop (mkF m 9 _ []))
  refine OwnFin.st (fun _ q => XS.iloadN X0.here hx rfl (hb hby d16_9) rfl q) ?_
  show OwnFin _ _ _ _ (s₁.setTop (mkF m 10 _ [(.int 0)]))
  refine OwnFin.st (fun _ q => XS.aloadN X0.here hx rfl (hb hby d16_10) rfl rfl q) ?_
  show OwnFin _ _ _ _ (s₁.setTop (mkF m 11 _ [(.ref a0), (.int 0)]))
  have Vo3 : Arv Z h0 a0 k_a0 .byte (1 : Int32) [(.int y0)] (.int 0) := V_a0
  obtain ⟨cl3, Ar3, qa3, Sa3, Na3, Ha3, Ga3⟩ := id Vo3
  refine OwnFin.st (X0.arraylength hx (by rw [e0]; exact Ar3.1) (State.isArrayOf_alike (hZ).alike Ar3.2.1) (g := (mkF m 11 #[.val (.ref a0), .val (.ref a1), .val (.int 0)] [(.ref a0), (.int 0)])) rfl rfl (hb hby d16_11)) ?_
  rw [len_of Sa3 Na3]
  show OwnFin _ _ _ _ (s₁.setTop (mkF m 12 _ [(.int 1), (.int 0)]))
  refine OwnFin.st (fun _ q => XS.icmpNo X0.here hx rfl (hb hby d16_12) rfl (Jvm.Free.XT.ii_ge_f (by decide : (0 : Int32) < (1 : Int32))) q) ?_
  show OwnFin _ _ _ _ (s₁.setTop (mkF m 15 _ []))
  refine OwnFin.st (fun _ q => XS.aloadN X0.here hx rfl (hb hby d16_15) rfl rfl q) ?_
  show OwnFin _ _ _ _ (s₁.setTop (mkF m 16 _ [(.ref a0)]))
  refine OwnFin.st (fun _ q => XS.iloadN X0.here hx rfl (hb hby d16_16) rfl q) ?_
  show OwnFin _ _ _ _ (s₁.setTop (mkF m 17 #[.val (.ref a0), .val (.ref a1), .val (.int 0)] [(.int 0), (.ref a0)]))
  have Vo4 : Arv Z h0 a0 k_a0 .byte (1 : Int32) [(.int y0)] (.int 0) := V_a0
  obtain ⟨cl4, Ar4, qa4, Sa4, Na4, Ha4, Ga4⟩ := id Vo4
  have hin4 : ¬ ((0 : Int32) < 0 ∨ cl4.slots.size ≤ ((0 : Int32)).toNatClampNeg) := inb_of Sa4 ⟨by decide, by decide⟩
  refine OwnFin.st (X0.baloadBytes hx (j := (0 : Int32)) (v := (.int y0)) (by rw [e0]; exact Ar4.1) (State.isArrayOf_alike (hZ).alike Ar4.2.1) Ar4.2.2 hin4 (Ha4.at hin4 rfl) (g := (mkF m 17 #[.val (.ref a0), .val (.ref a1), .val (.int 0)] [(.int 0), (.ref a0)])) rfl rfl (hb hby d16_17)) ?_
  show OwnFin _ _ _ _ (s₁.setTop (mkF m 18 _ [(.int y0)]))
  refine OwnFin.st (fun _ q => XS.aloadN X0.here hx rfl (hb hby d16_18) rfl rfl q) ?_
  show OwnFin _ _ _ _ (s₁.setTop (mkF m 19 _ [(.ref a1), (.int y0)]))
  refine OwnFin.st (fun _ q => XS.iloadN X0.here hx rfl (hb hby d16_19) rfl q) ?_
  show OwnFin _ _ _ _ (s₁.setTop (mkF m 20 _ [(.int 0), (.ref a1), (.int y0)]))
  have Vo5 : Arv Z h0 a1 k_a1 .byte (1 : Int32) [(.int x0)] (.int 0) := V_a1
  obtain ⟨cl5, Ar5, qa5, Sa5, Na5, Ha5, Ga5⟩ := id Vo5
  have hin5 : ¬ ((0 : Int32) < 0 ∨ cl5.slots.size ≤ ((0 : Int32)).toNatClampNeg) := inb_of Sa5 ⟨by decide, by decide⟩
  refine OwnFin.st (X0.baloadBytes hx (j := (0 : Int32)) (v := (.int x0)) (by rw [e0]; exact Ar5.1) (State.isArrayOf_alike (hZ).alike Ar5.2.1) Ar5.2.2 hin5 (Ha5.at hin5 rfl) (g := (mkF m 20 #[.val (.ref a0), .val (.ref a1), .val (.int 0)] [(.int 0), (.ref a1), (.int y0)])) rfl rfl (hb hby d16_20)) ?_
  show OwnFin _ _ _ _ (s₁.setTop (mkF m 21 _ [(.int x0), (.int y0)]))
  refine OwnFin.st (fun _ q => XS.icmpNo X0.here hx rfl (hb hby d16_21) rfl (Jvm.Free.XT.ii_eq_f hc0) q) ?_
  show OwnFin _ _ _ _ (s₁.setTop (mkF m 24 _ []))
  refine OwnFin.st (fun _ q => XS.iconst X0.here hx rfl (hb hby d16_24) q) ?_
  show OwnFin _ _ _ _ (s₁.setTop (mkF m 25 _ [(.int 0)]))
  obtain ⟨fs, hr, hrun, hended, hW, hsame⟩ := X0.leave (v := some (.int 0)) (fun h => by rw [Bd.returns] at h; cases h)
  refine ⟨_, _, retN X0 hx (t := .boolean) Bd.returns (by simp) (hb hby d16_25) hr, hrun, hended, _, _, rfl, ?_, ⟨_, rfl⟩, hW, hsame.mono (by decide) (by decide)⟩
  show Q_rm_le11F Z a0 a1 k_a0 y0 k_a1 x0 h0 n0 _ s₁.heap _
  rw [e0]
  exact ⟨rfl, N0, rfl⟩
theorem ef_rm_se11F (m : MethodId) (a0 : Addr) (a1 : Addr) : entryFrame m #[(.ref a0), (.ref a1)] 3 = mkF m 0 #[.val (.ref a0), .val (.ref a1), .unset] [] := by first | (simp [entryFrame, mkF, argsToLocals, Value.category]; done) | rfl
def Q_rm_se11F (Z : State) (a0 : Addr) (a1 : Addr) (b0 : Addr) (b1 : Addr) (k_b0 : ClassId) (y0 : Int32) (k_b1 : ClassId) (x0 : Int32) (w_COMPACT_STRINGS : Int32) (h0 : Heap) (n0 : Nat) (v : Option Value) (h : Heap) (L : List Loc) : Prop := v = some (.int 0) ∧ Fr n0 L ∧ h = h0
set_option maxRecDepth 65536 in
set_option maxHeartbeats 40000000 in
theorem rm_se11F (l : Launch) (Z : State) (av0 : Array Value) (hw : ∀ d ∈ tables_1, d.before av0 Z = true) (ws : List Jvm.Cond) (a0 : Addr) (a1 : Addr) (b0 : Addr) (b1 : Addr) (k_b0 : ClassId) (y0 : Int32) (k_b1 : ClassId) (x0 : Int32) (w_COMPACT_STRINGS : Int32) (h0 : Heap) (n0 : Nat) (Z0 : n0 ≤ h0.size) (Ol0 : Old Z n0 h0) (X_a0 : Exa Z h0 a0 "java/lang/String") (F_coder_a0 : Fld Z h0 a0 "java/lang/String" "coder" "B" (.int 0)) (F_value_a0 : Fld Z h0 a0 "java/lang/String" "value" "[B" (.ref b0)) (X_a1 : Exa Z h0 a1 "java/lang/String") (F_coder_a1 : Fld Z h0 a1 "java/lang/String" "coder" "B" (.int 0)) (F_value_a1 : Fld Z h0 a1 "java/lang/String" "value" "[B" (.ref b1)) (V_b0 : Arv Z h0 b0 k_b0 .byte (1 : Int32) [(.int y0)] (.int 0)) (V_b1 : Arv Z h0 b1 k_b1 .byte (1 : Int32) [(.int x0)] (.int 0)) (hc0 : ¬ (a0 = a1)) (S_COMPACT_STRINGS : Sta Z Z.heap "java/lang/String" "COMPACT_STRINGS" "Z" (.int w_COMPACT_STRINGS)) (hc1 : ¬ (w_COMPACT_STRINGS = (0 : Int32))) (hc2 : ¬ (y0 = x0)) :
    MetFree l yM16 (head1 (Jvm.Cond.code yM16 jdk_42_method_66_code 3 (some .boolean) :: ws) ({ frames := 1, cells := 0, slots := 0, locals := 14 } : Room)) (fun a U => a = #[(.ref a0), (.ref a1)] ∧ Z.Warmed39 U.vm ∧ U.heap = h0) (fun _ _ _ _ _ => True) (fun _ U o U' => ∃ v L, o = .returned v ∧ Q_rm_se11F Z a0 a1 b0 b1 k_b0 y0 k_b1 x0 w_COMPACT_STRINGS h0 n0 v U'.heap L ∧ FrameEnd U o U' L ({ frames := 1, cells := 0, slots := 0, locals := 14 } : Room).cells ({ frames := 1, cells := 0, slots := 0, locals := 14 } : Room).slots) := by
  refine MetFree.of_bodySF (plainFor_of_name pn_0) hisR ?_
  intro p e s m args below meth c s₁ Bd hml0 hP hK
  obtain ⟨rfl, hZ, hh⟩ := hP
  have hx := Bd.exec
  have hby := Bd.bytes
  have hml : c.maxLocals = 3 := hml0
  have hown : s.vm.findClass "java/lang/String" = some m.cls := findClass_of_methodNamed Bd.named
  have hnm := (name_of_methodNamed Bd.named Bd.method).1
  have X0 : Stand p l e ({ frames := 1, cells := 0, slots := 0, locals := 14 } : Room) s m #[(.ref a0), (.ref a1)] below meth c s₁ [] 0 0 := Stand.of_body Bd
  have e0 : s₁.heap = h0 := by rw [← hh, Bd.state]; rfl
  have N0 := Fr.nil n0
  have pre0 : ∀ t, Steps p.tables e below (s₁.setTop (mkF m 0 #[.val (.ref a0), .val (.ref a1), .unset] [])) t → Steps p.tables e below (s₁.setTop (entryFrame m #[(.ref a0), (.ref a1)] 3)) t := fun t k => castTop (ef_rm_se11F m a0 a1) k
  change OwnFin p.tables e below _ (s₁.setTop (entryFrame m #[(.ref a0), (.ref a1)] 3))
  have kp0 : Keep h0 h0 [] := Keep.refl _ _
  refine OwnFin.st (fun _ q => pre0 _ q) ?_
  show OwnFin _ _ _ _ (s₁.setTop (mkF m 0 #[.val (.ref a0), .val (.ref a1), .unset] []))
  refine OwnFin.st (fun _ q => XS.aloadN X0.here hx rfl (hb hby d15_0) rfl rfl q) ?_
  show OwnFin _ _ _ _ (s₁.setTop (mkF m 1 _ [(.ref a0)]))
  refine OwnFin.st (fun _ q => XS.aloadN X0.here hx rfl (hb hby d15_1) rfl rfl q) ?_
  show OwnFin _ _ _ _ (s₁.setTop (mkF m 2 _ [(.ref a1), (.ref a0)]))
  refine OwnFin.st (fun _ q => Jvm.RoadKit.acmp (g := (mkF m 2 #[.val (.ref a0), .val (.ref a1), .unset] [(.ref a1), (.ref a0)])) X0 hx rfl rfl rfl (pc0 := 2) (pc' := 7) (same := false) rfl (hb hby d15_2) rfl (decide_eq_false fun q => hc0 (Value.ref.inj q)) (by decide) (by decide) q) ?_
  show OwnFin _ _ _ _ (s₁.setTop (mkF m 7 _ []))
  refine OwnFin.st (fun _ q => XS.aloadN X0.here hx rfl (hb hby d15_7) rfl rfl q) ?_
  show OwnFin _ _ _ _ (s₁.setTop (mkF m 8 _ [(.ref a1)]))
  obtain ⟨T1, X1, e1, st1⟩ := instY X0 hx hZ hown (w_ hw 98 rfl) e0 (Ins.self X_a1) (g := (mkF m 8 #[.val (.ref a0), .val (.ref a1), .unset] [(.ref a1)])) rfl rfl (hb hby d15_8)
  refine OwnFin.st st1 ?_
  show OwnFin _ _ _ _ (T1.setTop (mkF m 11 _ [(.int 1)]))
  refine OwnFin.st (fun _ q => XS.ifNo X1.here hx rfl (hb hby d15_11) rfl (Jvm.Free.XT.i0_eq_f (by decide : ¬ ((1 : Int32) = (0 : Int32)))) q) ?_
  show OwnFin _ _ _ _ (T1.setTop (mkF m 14 _ []))
  refine OwnFin.st (fun _ q => XS.aloadN X1.here hx rfl (hb hby d15_14) rfl rfl q) ?_
  show OwnFin _ _ _ _ (T1.setTop (mkF m 15 _ [(.ref a1)]))
  obtain ⟨T2, X2, e2, st2⟩ := castY X1 hx hZ hown (w_ hw 98 rfl) e1 (Ins.self X_a1) (g := (mkF m 15 #[.val (.ref a0), .val (.ref a1), .unset] [(.ref a1)])) rfl rfl (hb hby d15_15)
  refine OwnFin.st st2 ?_
  show OwnFin _ _ _ _ (T2.setTop (mkF m 18 _ [(.ref a1)]))
  refine OwnFin.st (fun _ q => XS.astoreN X2.here hx rfl (hb hby d15_18) rfl rfl (l' := #[.val (.ref a0), .val (.ref a1), .val (.ref a1)]) rfl q) ?_
  show OwnFin _ _ _ _ (T2.setTop (mkF m 19 _ []))
  obtain ⟨T3, X3, e3, st3⟩ := getS2 X2 hx hZ hown (host := "") (Or.inl (w_ hw 99 rfl)) Via.refl e2 (S_COMPACT_STRINGS.ext Ol0.2) (g := (mkF m 19 #[.val (.ref a0), .val (.ref a1), .val (.ref a1)] [])) rfl (hb hby d15_19)
  refine OwnFin.st st3 ?_
  show OwnFin _ _ _ _ (T3.setTop (mkF m 22 _ [(.int w_COMPACT_STRINGS)]))
  refine OwnFin.st (fun _ q => XS.ifNo X3.here hx rfl (hb hby d15_22) rfl (Jvm.Free.XT.i0_eq_f hc1) q) ?_
  show OwnFin _ _ _ _ (T3.setTop (mkF m 25 _ []))
  refine OwnFin.st (fun _ q => XS.aloadN X3.here hx rfl (hb hby d15_25) rfl rfl q) ?_
  show OwnFin _ _ _ _ (T3.setTop (mkF m 26 _ [(.ref a0)]))
  obtain ⟨T4, X4, e4, st4⟩ := getF X3 hx hZ hown (host := "") (Or.inl (w_ hw 34 rfl)) Via.refl e3 F_coder_a0 (g := (mkF m 26 #[.val (.ref a0), .val (.ref a1), .val (.ref a1)] [(.ref a0)])) rfl rfl (hb hby d15_26)
  refine OwnFin.st st4 ?_
  show OwnFin _ _ _ _ (T4.setTop (mkF m 29 #[.val (.ref a0), .val (.ref a1), .val (.ref a1)] [(.int 0)]))
  refine OwnFin.st (fun _ q => XS.aloadN X4.here hx rfl (hb hby d15_29) rfl rfl q) ?_
  show OwnFin _ _ _ _ (T4.setTop (mkF m 30 _ [(.ref a1), (.int 0)]))
  obtain ⟨T5, X5, e5, st5⟩ := getF X4 hx hZ hown (host := "") (Or.inl (w_ hw 34 rfl)) Via.refl e4 F_coder_a1 (g := (mkF m 30 #[.val (.ref a0), .val (.ref a1), .val (.ref a1)] [(.ref a1), (.int 0)])) rfl rfl (hb hby d15_30)
  refine OwnFin.st st5 ?_
  show OwnFin _ _ _ _ (T5.setTop (mkF m 33 _ [(.int 0), (.int 0)]))
  refine OwnFin.st (fun _ q => XS.icmpNo X5.here hx rfl (hb hby d15_33) rfl (Jvm.Free.XT.ii_ne_f (rfl : (0 : Int32) = (0 : Int32))) q) ?_
  show OwnFin _ _ _ _ (T5.setTop (mkF m 36 _ []))
  refine OwnFin.st (fun _ q => XS.aloadN X5.here hx rfl (hb hby d15_36) rfl rfl q) ?_
  show OwnFin _ _ _ _ (T5.setTop (mkF m 37 _ [(.ref a0)]))
  obtain ⟨T6, X6, e6, st6⟩ := getF X5 hx hZ hown (host := "") (Or.inl (w_ hw 33 rfl)) Via.refl e5 F_value_a0 (g := (mkF m 37 #[.val (.ref a0), .val (.ref a1), .val (.ref a1)] [(.ref a0)])) rfl rfl (hb hby d15_37)
  refine OwnFin.st st6 ?_
  show OwnFin _ _ _ _ (T6.setTop (mkF m 40 _ [(.ref b0)]))
  refine OwnFin.st (fun _ q => XS.aloadN X6.here hx rfl (hb hby d15_40) rfl rfl q) ?_
  show OwnFin _ _ _ _ (T6.setTop (mkF m 41 _ [(.ref a1), (.ref b0)]))
  obtain ⟨T7, X7, e7, st7⟩ := getF X6 hx hZ hown (host := "") (Or.inl (w_ hw 33 rfl)) Via.refl e6 F_value_a1 (g := (mkF m 41 #[.val (.ref a0), .val (.ref a1), .val (.ref a1)] [(.ref a1), (.ref b0)])) rfl rfl (hb hby d15_41)
  refine OwnFin.st st7 ?_
  show OwnFin _ _ _ _ (T7.setTop (mkF m 44 _ [(.ref b1), (.ref b0)]))
  show OwnFin _ _ _ _ (T7.setTop (mkF m 44 _ [(.ref b1), (.ref b0)]))
  obtain ⟨_, _, ⟨T8, L8, k8, n8⟩, -, X8, ⟨Lc8, hQ8, l8, y8, z8⟩, st8⟩ := Jvm.LawKit.callS X7 hx (y := yM15) hown (mvT hZ (w_ hw 100 rfl)) (mvT hZ (w_ hw 101 rfl)) (mvT hZ (w_ hw 102 rfl)) (mvT hZ (w_ hw 103 rfl)) (by decide) (backOf (W := 0) (rm_le11F l Z av0 hw [] b0 b1 k_b0 y0 k_b1 x0 h0 n0 (Nat.le_trans Z0 kp0.1) V_b0 V_b1 hc2) hZ (w_ hw 103 rfl) (w_ hw 102 rfl) (by decide) (by decide)) (g := (mkF m 44 #[.val (.ref a0), .val (.ref a1), .val (.ref a1)] [(.ref b1), (.ref b0)])) rfl (by rw [hml]; rfl) (argsL := [(.ref b0), (.ref b1)]) (rest := []) (lenOf pd_9 rfl) rfl (by show 2 * 0 + _ ≤ _; exact Nat.le_of_eq rfl) (hb hby d15_44) (fun _ _ => ⟨rfl, e7, (by decide : 0 + 0 ≤ _), (by decide : 0 + 0 ≤ _)⟩)
  dsimp only [Pt.U, Pt.locs, Pt.cells, Pt.slots] at X8 l8 y8 z8 st8 hQ8
  subst l8 y8 z8
  obtain ⟨rfl, N8q, he8⟩ := hQ8
  have N8 := Fr.app N0 N8q
  refine OwnFin.st st8 ?_
  show OwnFin _ _ _ _ (T8.setTop (mkF m 47 _ [(.int 0)]))
  refine OwnFin.st (fun _ q => XS.ifYes X8.here hx rfl (pc0 := 47) (pc' := 54) rfl (hb hby d15_47) rfl (Jvm.Free.XT.i0_eq_t (rfl : (0 : Int32) = (0 : Int32))) (by decide) (by decide) q) ?_
  show OwnFin _ _ _ _ (T8.setTop (mkF m 54 _ []))
  refine OwnFin.st (fun _ q => XS.iconst X8.here hx rfl (hb hby d15_54) q) ?_
  show OwnFin _ _ _ _ (T8.setTop (mkF m 55 _ [(.int 0)]))
  obtain ⟨fs, hr, hrun, hended, hW, hsame⟩ := X8.leave (v := some (.int 0)) (fun h => by rw [Bd.returns] at h; cases h)
  refine ⟨_, _, retN X8 hx (t := .boolean) Bd.returns (by simp) (hb hby d15_55) hr, hrun, hended, _, _, rfl, ?_, ⟨_, rfl⟩, hW, hsame.mono (by decide) (by decide)⟩
  show Q_rm_se11F Z a0 a1 b0 b1 k_b0 y0 k_b1 x0 w_COMPACT_STRINGS h0 n0 _ T8.heap _
  rw [he8]
  exact ⟨rfl, N8, rfl⟩
theorem d16_26 : decode jdk_43_method_13_code 26 = .ok (.iinc 2 1, 3) := by decide +kernel
theorem d16_29 : decode jdk_43_method_13_code 29 = .ok (.goto (-20), 3) := by decide +kernel
theorem ef_rm_le11T (m : MethodId) (a0 : Addr) (a1 : Addr) : entryFrame m #[(.ref a0), (.ref a1)] 3 = mkF m 0 #[.val (.ref a0), .val (.ref a1), .unset] [] := by first | (simp [entryFrame, mkF, argsToLocals, Value.category]; done) | rfl
def Q_rm_le11T (Z : State) (a0 : Addr) (a1 : Addr) (k_a0 : ClassId) (y0 : Int32) (k_a1 : ClassId) (x0 : Int32) (h0 : Heap) (n0 : Nat) (v : Option Value) (h : Heap) (L : List Loc) : Prop := v = some (.int 1) ∧ Fr n0 L ∧ h = h0
set_option maxRecDepth 65536 in
set_option maxHeartbeats 40000000 in
theorem rm_le11T (l : Launch) (Z : State) (av0 : Array Value) (hw : ∀ d ∈ tables_1, d.before av0 Z = true) (ws : List Jvm.Cond) (a0 : Addr) (a1 : Addr) (k_a0 : ClassId) (y0 : Int32) (k_a1 : ClassId) (x0 : Int32) (h0 : Heap) (n0 : Nat) (Z0 : n0 ≤ h0.size) (V_a0 : Arv Z h0 a0 k_a0 .byte (1 : Int32) [(.int y0)] (.int 0)) (V_a1 : Arv Z h0 a1 k_a1 .byte (1 : Int32) [(.int x0)] (.int 0)) (hc0 : y0 = x0) :
    MetFree l yM15 (head1 (Jvm.Cond.code yM15 jdk_43_method_13_code 3 (some .boolean) :: ws) ({ frames := 0, cells := 0, slots := 0, locals := 0 } : Room)) (fun a U => a = #[(.ref a0), (.ref a1)] ∧ Z.Warmed39 U.vm ∧ U.heap = h0) (fun _ _ _ _ _ => True) (fun _ U o U' => ∃ v L, o = .returned v ∧ Q_rm_le11T Z a0 a1 k_a0 y0 k_a1 x0 h0 n0 v U'.heap L ∧ FrameEnd U o U' L ({ frames := 0, cells := 0, slots := 0, locals := 0 } : Room).cells ({ frames := 0, cells := 0, slots := 0, locals := 0 } : Room).slots) := by
  refine MetFree.of_bodySF (plainFor_of_name pn_6) hisR ?_
  intro p e s m args below meth c s₁ Bd hml0 hP hK
  obtain ⟨rfl, hZ, hh⟩ := hP
  have hx := Bd.exec
  have hby := Bd.bytes
  have hml : c.maxLocals = 3 := hml0
  have hown : s.vm.findClass "java/lang/StringLatin1" = some m.cls := findClass_of_methodNamed Bd.named
  have hnm := (name_of_methodNamed Bd.named Bd.method).1
  have X0 : Stand p l e ({ frames := 0, cells := 0, slots := 0, locals := 0 } : Room) s m #[(.ref a0), (.ref a1)] below meth c s₁ [] 0 0 := Stand.of_body Bd
  have e0 : s₁.heap = h0 := by rw [← hh, Bd.state]; rfl
  have N0 := Fr.nil n0
  have pre0 : ∀ t, Steps p.tables e below (s₁.setTop (mkF m 0 #[.val (.ref a0), .val (.ref a1), .unset] [])) t → Steps p.tables e below (s₁.setTop (entryFrame m #[(.ref a0), (.ref a1)] 3)) t := fun t k => castTop (ef_rm_le11T m a0 a1) k
  change OwnFin p.tables e below _ (s₁.setTop (entryFrame m #[(.ref a0), (.ref a1)] 3))
  have kp0 : Keep h0 h0 [] := Keep.refl _ _
  refine OwnFin.st (fun _ q => pre0 _ q) ?_
  show OwnFin _ _ _ _ (s₁.setTop (mkF m 0 #[.val (.ref a0), .val (.ref a1), .unset] []))
  refine OwnFin.st (fun _ q => XS.aloadN X0.here hx rfl (hb hby d16_0) rfl rfl q) ?_
  show OwnFin _ _ _ _ (s₁.setTop (mkF m 1 _ [(.ref a0)]))
  have Vo1 : Arv Z h0 a0 k_a0 .byte (1 : Int32) [(.int y0)] (.int 0) := V_a0
  obtain ⟨cl1, Ar1, qa1, Sa1, Na1, Ha1, Ga1⟩ := id Vo1
  refine OwnFin.st (X0.arraylength hx (by rw [e0]; exact Ar1.1) (State.isArrayOf_alike (hZ).alike Ar1.2.1) (g := (mkF m 1 #[.val (.ref a0), .val (.ref a1), .unset] [(.ref a0)])) rfl rfl (hb hby d16_1)) ?_
  rw [len_of Sa1 Na1]
  show OwnFin _ _ _ _ (s₁.setTop (mkF m 2 _ [(.int 1)]))
  refine OwnFin.st (fun _ q => XS.aloadN X0.here hx rfl (hb hby d16_2) rfl rfl q) ?_
  show OwnFin _ _ _ _ (s₁.setTop (mkF m 3 _ [(.ref a1), (.int 1)]))
  have Vo2 : Arv Z h0 a1 k_a1 .byte (1 : Int32) [(.int x0)] (.int 0) := V_a1
  obtain ⟨cl2, Ar2, qa2, Sa2, Na2, Ha2, Ga2⟩ := id Vo2
  refine OwnFin.st (X0.arraylength hx (by rw [e0]; exact Ar2.1) (State.isArrayOf_alike (hZ).alike Ar2.2.1) (g := (mkF m 3 #[.val (.ref a0), .val (.ref a1), .unset] [(.ref a1), (.int 1)])) rfl rfl (hb hby d16_3)) ?_
  rw [len_of Sa2 Na2]
  show OwnFin _ _ _ _ (s₁.setTop (mkF m 4 _ [(.int 1), (.int 1)]))
  refine OwnFin.st (fun _ q => XS.icmpNo X0.here hx rfl (hb hby d16_4) rfl (Jvm.Free.XT.ii_ne_f (rfl : (1 : Int32) = (1 : Int32))) q) ?_
  show OwnFin _ _ _ _ (s₁.setTop (mkF m 7 _ []))
  refine OwnFin.st (fun _ q => XS.iconst X0.here hx rfl (hb hby d16_7) q) ?_
  show OwnFin _ _ _ _ (s₁.setTop (mkF m 8 _ [(.int 0)]))
  refine OwnFin.st (fun _ q => XS.istoreN X0.here hx rfl (hb hby d16_8) rfl (l' := #[.val (.ref a0), .val (.ref a1), .val (.int 0)]) rfl q) ?_
  show OwnFin _ _ _ _ (s₁.setTop (mkF m 9 _ []))
  refine OwnFin.st (fun _ q => XS.iloadN X0.here hx rfl (hb hby d16_9) rfl q) ?_
  show OwnFin _ _ _ _ (s₁.setTop (mkF m 10 _ [(.int 0)]))
  refine OwnFin.st (fun _ q => XS.aloadN X0.here hx rfl (hb hby d16_10) rfl rfl q) ?_
  show OwnFin _ _ _ _ (s₁.setTop (mkF m 11 _ [(.ref a0), (.int 0)]))
  have Vo3 : Arv Z h0 a0 k_a0 .byte (1 : Int32) [(.int y0)] (.int 0) := V_a0
  obtain ⟨cl3, Ar3, qa3, Sa3, Na3, Ha3, Ga3⟩ := id Vo3
  refine OwnFin.st (X0.arraylength hx (by rw [e0]; exact Ar3.1) (State.isArrayOf_alike (hZ).alike Ar3.2.1) (g := (mkF m 11 #[.val (.ref a0), .val (.ref a1), .val (.int 0)] [(.ref a0), (.int 0)])) rfl rfl (hb hby d16_11)) ?_
  rw [len_of Sa3 Na3]
  show OwnFin _ _ _ _ (s₁.setTop (mkF m 12 _ [(.int 1), (.int 0)]))
  refine OwnFin.st (fun _ q => XS.icmpNo X0.here hx rfl (hb hby d16_12) rfl (Jvm.Free.XT.ii_ge_f (by decide : (0 : Int32) < (1 : Int32))) q) ?_
  show OwnFin _ _ _ _ (s₁.setTop (mkF m 15 _ []))
  refine OwnFin.st (fun _ q => XS.aloadN X0.here hx rfl (hb hby d16_15) rfl rfl q) ?_
  show OwnFin _ _ _ _ (s₁.setTop (mkF m 16 _ [(.ref a0)]))
  refine OwnFin.st (fun _ q => XS.iloadN X0.here hx rfl (hb hby d16_16) rfl q) ?_
  show OwnFin _ _ _ _ (s₁.setTop (mkF m 17 #[.val (.ref a0), .val (.ref a1), .val (.int 0)] [(.int 0), (.ref a0)]))
  have Vo4 : Arv Z h0 a0 k_a0 .byte (1 : Int32) [(.int y0)] (.int 0) := V_a0
  obtain ⟨cl4, Ar4, qa4, Sa4, Na4, Ha4, Ga4⟩ := id Vo4
  have hin4 : ¬ ((0 : Int32) < 0 ∨ cl4.slots.size ≤ ((0 : Int32)).toNatClampNeg) := inb_of Sa4 ⟨by decide, by decide⟩
  refine OwnFin.st (X0.baloadBytes hx (j := (0 : Int32)) (v := (.int y0)) (by rw [e0]; exact Ar4.1) (State.isArrayOf_alike (hZ).alike Ar4.2.1) Ar4.2.2 hin4 (Ha4.at hin4 rfl) (g := (mkF m 17 #[.val (.ref a0), .val (.ref a1), .val (.int 0)] [(.int 0), (.ref a0)])) rfl rfl (hb hby d16_17)) ?_
  show OwnFin _ _ _ _ (s₁.setTop (mkF m 18 _ [(.int y0)]))
  refine OwnFin.st (fun _ q => XS.aloadN X0.here hx rfl (hb hby d16_18) rfl rfl q) ?_
  show OwnFin _ _ _ _ (s₁.setTop (mkF m 19 _ [(.ref a1), (.int y0)]))
  refine OwnFin.st (fun _ q => XS.iloadN X0.here hx rfl (hb hby d16_19) rfl q) ?_
  show OwnFin _ _ _ _ (s₁.setTop (mkF m 20 _ [(.int 0), (.ref a1), (.int y0)]))
  have Vo5 : Arv Z h0 a1 k_a1 .byte (1 : Int32) [(.int x0)] (.int 0) := V_a1
  obtain ⟨cl5, Ar5, qa5, Sa5, Na5, Ha5, Ga5⟩ := id Vo5
  have hin5 : ¬ ((0 : Int32) < 0 ∨ cl5.slots.size ≤ ((0 : Int32)).toNatClampNeg) := inb_of Sa5 ⟨by decide, by decide⟩
  refine OwnFin.st (X0.baloadBytes hx (j := (0 : Int32)) (v := (.int x0)) (by rw [e0]; exact Ar5.1) (State.isArrayOf_alike (hZ).alike Ar5.2.1) Ar5.2.2 hin5 (Ha5.at hin5 rfl) (g := (mkF m 20 #[.val (.ref a0), .val (.ref a1), .val (.int 0)] [(.int 0), (.ref a1), (.int y0)])) rfl rfl (hb hby d16_20)) ?_
  show OwnFin _ _ _ _ (s₁.setTop (mkF m 21 _ [(.int x0), (.int y0)]))
  refine OwnFin.st (fun _ q => XS.icmpYes X0.here hx rfl (pc0 := 21) (pc' := 26) rfl (hb hby d16_21) rfl (Jvm.Free.XT.ii_eq_t hc0) (by decide) (by decide) q) ?_
  show OwnFin _ _ _ _ (s₁.setTop (mkF m 26 _ []))
  refine OwnFin.st (fun _ q => XS.iinc X0.here hx rfl (hb hby d16_26) rfl (l' := #[.val (.ref a0), .val (.ref a1), .val (.int ((0 : Int32) + (1 : Int32)))]) rfl q) ?_
  show OwnFin _ _ _ _ (s₁.setTop (mkF m 29 _ []))
  refine OwnFin.st (fun _ q => XS.goto X0.here hx rfl (pc0 := 29) (pc' := 9) rfl (hb hby d16_29) (by decide) (by decide) q) ?_
  show OwnFin _ _ _ _ (s₁.setTop (mkF m 9 _ []))
  refine OwnFin.st (fun _ q => XS.iloadN X0.here hx rfl (hb hby d16_9) rfl q) ?_
  show OwnFin _ _ _ _ (s₁.setTop (mkF m 10 _ [(.int ((0 : Int32) + (1 : Int32)))]))
  refine OwnFin.st (fun _ q => XS.aloadN X0.here hx rfl (hb hby d16_10) rfl rfl q) ?_
  show OwnFin _ _ _ _ (s₁.setTop (mkF m 11 _ [(.ref a0), (.int ((0 : Int32) + (1 : Int32)))]))
  have Vo6 : Arv Z h0 a0 k_a0 .byte (1 : Int32) [(.int y0)] (.int 0) := V_a0
  obtain ⟨cl6, Ar6, qa6, Sa6, Na6, Ha6, Ga6⟩ := id Vo6
  refine OwnFin.st (X0.arraylength hx (by rw [e0]; exact Ar6.1) (State.isArrayOf_alike (hZ).alike Ar6.2.1) (g := (mkF m 11 #[.val (.ref a0), .val (.ref a1), .val (.int ((0 : Int32) + (1 : Int32)))] [(.ref a0), (.int ((0 : Int32) + (1 : Int32)))])) rfl rfl (hb hby d16_11)) ?_
  rw [len_of Sa6 Na6]
  show OwnFin _ _ _ _ (s₁.setTop (mkF m 12 _ [(.int 1), (.int ((0 : Int32) + (1 : Int32)))]))
  refine OwnFin.st (fun _ q => XS.icmpYes X0.here hx rfl (pc0 := 12) (pc' := 32) rfl (hb hby d16_12) rfl (Jvm.Free.XT.ii_ge_t (by decide : ¬ (((0 : Int32) + (1 : Int32)) < (1 : Int32)))) (by decide) (by decide) q) ?_
  show OwnFin _ _ _ _ (s₁.setTop (mkF m 32 _ []))
  refine OwnFin.st (fun _ q => XS.iconst X0.here hx rfl (hb hby d16_32) q) ?_
  show OwnFin _ _ _ _ (s₁.setTop (mkF m 33 _ [(.int 1)]))
  obtain ⟨fs, hr, hrun, hended, hW, hsame⟩ := X0.leave (v := some (.int 1)) (fun h => by rw [Bd.returns] at h; cases h)
  refine ⟨_, _, retN X0 hx (t := .boolean) Bd.returns (by simp) (hb hby d16_33) hr, hrun, hended, _, _, rfl, ?_, ⟨_, rfl⟩, hW, hsame.mono (by decide) (by decide)⟩
  show Q_rm_le11T Z a0 a1 k_a0 y0 k_a1 x0 h0 n0 _ s₁.heap _
  rw [e0]
  exact ⟨rfl, N0, rfl⟩
theorem ef_rm_se11T (m : MethodId) (a0 : Addr) (a1 : Addr) : entryFrame m #[(.ref a0), (.ref a1)] 3 = mkF m 0 #[.val (.ref a0), .val (.ref a1), .unset] [] := by first | (simp [entryFrame, mkF, argsToLocals, Value.category]; done) | rfl
def Q_rm_se11T (Z : State) (a0 : Addr) (a1 : Addr) (b0 : Addr) (b1 : Addr) (k_b0 : ClassId) (y0 : Int32) (k_b1 : ClassId) (x0 : Int32) (w_COMPACT_STRINGS : Int32) (h0 : Heap) (n0 : Nat) (v : Option Value) (h : Heap) (L : List Loc) : Prop := v = some (.int 1) ∧ Fr n0 L ∧ h = h0
set_option maxRecDepth 65536 in
set_option maxHeartbeats 40000000 in
theorem rm_se11T (l : Launch) (Z : State) (av0 : Array Value) (hw : ∀ d ∈ tables_1, d.before av0 Z = true) (ws : List Jvm.Cond) (a0 : Addr) (a1 : Addr) (b0 : Addr) (b1 : Addr) (k_b0 : ClassId) (y0 : Int32) (k_b1 : ClassId) (x0 : Int32) (w_COMPACT_STRINGS : Int32) (h0 : Heap) (n0 : Nat) (Z0 : n0 ≤ h0.size) (Ol0 : Old Z n0 h0) (X_a0 : Exa Z h0 a0 "java/lang/String") (F_coder_a0 : Fld Z h0 a0 "java/lang/String" "coder" "B" (.int 0)) (F_value_a0 : Fld Z h0 a0 "java/lang/String" "value" "[B" (.ref b0)) (X_a1 : Exa Z h0 a1 "java/lang/String") (F_coder_a1 : Fld Z h0 a1 "java/lang/String" "coder" "B" (.int 0)) (F_value_a1 : Fld Z h0 a1 "java/lang/String" "value" "[B" (.ref b1)) (V_b0 : Arv Z h0 b0 k_b0 .byte (1 : Int32) [(.int y0)] (.int 0)) (V_b1 : Arv Z h0 b1 k_b1 .byte (1 : Int32) [(.int x0)] (.int 0)) (hc0 : ¬ (a0 = a1)) (S_COMPACT_STRINGS : Sta Z Z.heap "java/lang/String" "COMPACT_STRINGS" "Z" (.int w_COMPACT_STRINGS)) (hc1 : ¬ (w_COMPACT_STRINGS = (0 : Int32))) (hc2 : y0 = x0) :
    MetFree l yM16 (head1 (Jvm.Cond.code yM16 jdk_42_method_66_code 3 (some .boolean) :: ws) ({ frames := 1, cells := 0, slots := 0, locals := 14 } : Room)) (fun a U => a = #[(.ref a0), (.ref a1)] ∧ Z.Warmed39 U.vm ∧ U.heap = h0) (fun _ _ _ _ _ => True) (fun _ U o U' => ∃ v L, o = .returned v ∧ Q_rm_se11T Z a0 a1 b0 b1 k_b0 y0 k_b1 x0 w_COMPACT_STRINGS h0 n0 v U'.heap L ∧ FrameEnd U o U' L ({ frames := 1, cells := 0, slots := 0, locals := 14 } : Room).cells ({ frames := 1, cells := 0, slots := 0, locals := 14 } : Room).slots) := by
  refine MetFree.of_bodySF (plainFor_of_name pn_0) hisR ?_
  intro p e s m args below meth c s₁ Bd hml0 hP hK
  obtain ⟨rfl, hZ, hh⟩ := hP
  have hx := Bd.exec
  have hby := Bd.bytes
  have hml : c.maxLocals = 3 := hml0
  have hown : s.vm.findClass "java/lang/String" = some m.cls := findClass_of_methodNamed Bd.named
  have hnm := (name_of_methodNamed Bd.named Bd.method).1
  have X0 : Stand p l e ({ frames := 1, cells := 0, slots := 0, locals := 14 } : Room) s m #[(.ref a0), (.ref a1)] below meth c s₁ [] 0 0 := Stand.of_body Bd
  have e0 : s₁.heap = h0 := by rw [← hh, Bd.state]; rfl
  have N0 := Fr.nil n0
  have pre0 : ∀ t, Steps p.tables e below (s₁.setTop (mkF m 0 #[.val (.ref a0), .val (.ref a1), .unset] [])) t → Steps p.tables e below (s₁.setTop (entryFrame m #[(.ref a0), (.ref a1)] 3)) t := fun t k => castTop (ef_rm_se11T m a0 a1) k
  change OwnFin p.tables e below _ (s₁.setTop (entryFrame m #[(.ref a0), (.ref a1)] 3))
  have kp0 : Keep h0 h0 [] := Keep.refl _ _
  refine OwnFin.st (fun _ q => pre0 _ q) ?_
  show OwnFin _ _ _ _ (s₁.setTop (mkF m 0 #[.val (.ref a0), .val (.ref a1), .unset] []))
  refine OwnFin.st (fun _ q => XS.aloadN X0.here hx rfl (hb hby d15_0) rfl rfl q) ?_
  show OwnFin _ _ _ _ (s₁.setTop (mkF m 1 _ [(.ref a0)]))
  refine OwnFin.st (fun _ q => XS.aloadN X0.here hx rfl (hb hby d15_1) rfl rfl q) ?_
  show OwnFin _ _ _ _ (s₁.setTop (mkF m 2 _ [(.ref a1), (.ref a0)]))
  refine OwnFin.st (fun _ q => Jvm.RoadKit.acmp (g := (mkF m 2 #[.val (.ref a0), .val (.ref a1), .unset] [(.ref a1), (.ref a0)])) X0 hx rfl rfl rfl (pc0 := 2) (pc' := 7) (same := false) rfl (hb hby d15_2) rfl (decide_eq_false fun q => hc0 (Value.ref.inj q)) (by decide) (by decide) q) ?_
  show OwnFin _ _ _ _ (s₁.setTop (mkF m 7 _ []))
  refine OwnFin.st (fun _ q => XS.aloadN X0.here hx rfl (hb hby d15_7) rfl rfl q) ?_
  show OwnFin _ _ _ _ (s₁.setTop (mkF m 8 _ [(.ref a1)]))
  obtain ⟨T1, X1, e1, st1⟩ := instY X0 hx hZ hown (w_ hw 98 rfl) e0 (Ins.self X_a1) (g := (mkF m 8 #[.val (.ref a0), .val (.ref a1), .unset] [(.ref a1)])) rfl rfl (hb hby d15_8)
  refine OwnFin.st st1 ?_
  show OwnFin _ _ _ _ (T1.setTop (mkF m 11 _ [(.int 1)]))
  refine OwnFin.st (fun _ q => XS.ifNo X1.here hx rfl (hb hby d15_11) rfl (Jvm.Free.XT.i0_eq_f (by decide : ¬ ((1 : Int32) = (0 : Int32)))) q) ?_
  show OwnFin _ _ _ _ (T1.setTop (mkF m 14 _ []))
  refine OwnFin.st (fun _ q => XS.aloadN X1.here hx rfl (hb hby d15_14) rfl rfl q) ?_
  show OwnFin _ _ _ _ (T1.setTop (mkF m 15 _ [(.ref a1)]))
  obtain ⟨T2, X2, e2, st2⟩ := castY X1 hx hZ hown (w_ hw 98 rfl) e1 (Ins.self X_a1) (g := (mkF m 15 #[.val (.ref a0), .val (.ref a1), .unset] [(.ref a1)])) rfl rfl (hb hby d15_15)
  refine OwnFin.st st2 ?_
  show OwnFin _ _ _ _ (T2.setTop (mkF m 18 _ [(.ref a1)]))
  refine OwnFin.st (fun _ q => XS.astoreN X2.here hx rfl (hb hby d15_18) rfl rfl (l' := #[.val (.ref a0), .val (.ref a1), .val (.ref a1)]) rfl q) ?_
  show OwnFin _ _ _ _ (T2.setTop (mkF m 19 _ []))
  obtain ⟨T3, X3, e3, st3⟩ := getS2 X2 hx hZ hown (host := "") (Or.inl (w_ hw 99 rfl)) Via.refl e2 (S_COMPACT_STRINGS.ext Ol0.2) (g := (mkF m 19 #[.val (.ref a0), .val (.ref a1), .val (.ref a1)] [])) rfl (hb hby d15_19)
  refine OwnFin.st st3 ?_
  show OwnFin _ _ _ _ (T3.setTop (mkF m 22 _ [(.int w_COMPACT_STRINGS)]))
  refine OwnFin.st (fun _ q => XS.ifNo X3.here hx rfl (hb hby d15_22) rfl (Jvm.Free.XT.i0_eq_f hc1) q) ?_
  show OwnFin _ _ _ _ (T3.setTop (mkF m 25 _ []))
  refine OwnFin.st (fun _ q => XS.aloadN X3.here hx rfl (hb hby d15_25) rfl rfl q) ?_
  show OwnFin _ _ _ _ (T3.setTop (mkF m 26 _ [(.ref a0)]))
  obtain ⟨T4, X4, e4, st4⟩ := getF X3 hx hZ hown (host := "") (Or.inl (w_ hw 34 rfl)) Via.refl e3 F_coder_a0 (g := (mkF m 26 #[.val (.ref a0), .val (.ref a1), .val (.ref a1)] [(.ref a0)])) rfl rfl (hb hby d15_26)
  refine OwnFin.st st4 ?_
  show OwnFin _ _ _ _ (T4.setTop (mkF m 29 #[.val (.ref a0), .val (.ref a1), .val (.ref a1)] [(.int 0)]))
  refine OwnFin.st (fun _ q => XS.aloadN X4.here hx rfl (hb hby d15_29) rfl rfl q) ?_
  show OwnFin _ _ _ _ (T4.setTop (mkF m 30 _ [(.ref a1), (.int 0)]))
  obtain ⟨T5, X5, e5, st5⟩ := getF X4 hx hZ hown (host := "") (Or.inl (w_ hw 34 rfl)) Via.refl e4 F_coder_a1 (g := (mkF m 30 #[.val (.ref a0), .val (.ref a1), .val (.ref a1)] [(.ref a1), (.int 0)])) rfl rfl (hb hby d15_30)
  refine OwnFin.st st5 ?_
  show OwnFin _ _ _ _ (T5.setTop (mkF m 33 _ [(.int 0), (.int 0)]))
  refine OwnFin.st (fun _ q => XS.icmpNo X5.here hx rfl (hb hby d15_33) rfl (Jvm.Free.XT.ii_ne_f (rfl : (0 : Int32) = (0 : Int32))) q) ?_
  show OwnFin _ _ _ _ (T5.setTop (mkF m 36 _ []))
  refine OwnFin.st (fun _ q => XS.aloadN X5.here hx rfl (hb hby d15_36) rfl rfl q) ?_
  show OwnFin _ _ _ _ (T5.setTop (mkF m 37 _ [(.ref a0)]))
  obtain ⟨T6, X6, e6, st6⟩ := getF X5 hx hZ hown (host := "") (Or.inl (w_ hw 33 rfl)) Via.refl e5 F_value_a0 (g := (mkF m 37 #[.val (.ref a0), .val (.ref a1), .val (.ref a1)] [(.ref a0)])) rfl rfl (hb hby d15_37)
  refine OwnFin.st st6 ?_
  show OwnFin _ _ _ _ (T6.setTop (mkF m 40 _ [(.ref b0)]))
  refine OwnFin.st (fun _ q => XS.aloadN X6.here hx rfl (hb hby d15_40) rfl rfl q) ?_
  show OwnFin _ _ _ _ (T6.setTop (mkF m 41 _ [(.ref a1), (.ref b0)]))
  obtain ⟨T7, X7, e7, st7⟩ := getF X6 hx hZ hown (host := "") (Or.inl (w_ hw 33 rfl)) Via.refl e6 F_value_a1 (g := (mkF m 41 #[.val (.ref a0), .val (.ref a1), .val (.ref a1)] [(.ref a1), (.ref b0)])) rfl rfl (hb hby d15_41)
  refine OwnFin.st st7 ?_
  show OwnFin _ _ _ _ (T7.setTop (mkF m 44 _ [(.ref b1), (.ref b0)]))
  show OwnFin _ _ _ _ (T7.setTop (mkF m 44 _ [(.ref b1), (.ref b0)]))
  obtain ⟨_, _, ⟨T8, L8, k8, n8⟩, -, X8, ⟨Lc8, hQ8, l8, y8, z8⟩, st8⟩ := Jvm.LawKit.callS X7 hx (y := yM15) hown (mvT hZ (w_ hw 100 rfl)) (mvT hZ (w_ hw 101 rfl)) (mvT hZ (w_ hw 102 rfl)) (mvT hZ (w_ hw 103 rfl)) (by decide) (backOf (W := 0) (rm_le11T l Z av0 hw [] b0 b1 k_b0 y0 k_b1 x0 h0 n0 (Nat.le_trans Z0 kp0.1) V_b0 V_b1 hc2) hZ (w_ hw 103 rfl) (w_ hw 102 rfl) (by decide) (by decide)) (g := (mkF m 44 #[.val (.ref a0), .val (.ref a1), .val (.ref a1)] [(.ref b1), (.ref b0)])) rfl (by rw [hml]; rfl) (argsL := [(.ref b0), (.ref b1)]) (rest := []) (lenOf pd_9 rfl) rfl (by show 2 * 0 + _ ≤ _; exact Nat.le_of_eq rfl) (hb hby d15_44) (fun _ _ => ⟨rfl, e7, (by decide : 0 + 0 ≤ _), (by decide : 0 + 0 ≤ _)⟩)
  dsimp only [Pt.U, Pt.locs, Pt.cells, Pt.slots] at X8 l8 y8 z8 st8 hQ8
  subst l8 y8 z8
  obtain ⟨rfl, N8q, he8⟩ := hQ8
  have N8 := Fr.app N0 N8q
  refine OwnFin.st st8 ?_
  show OwnFin _ _ _ _ (T8.setTop (mkF m 47 _ [(.int 1)]))
  refine OwnFin.st (fun _ q => XS.ifNo X8.here hx rfl (hb hby d15_47) rfl (Jvm.Free.XT.i0_eq_f (by decide : ¬ ((1 : Int32) = (0 : Int32)))) q) ?_
  show OwnFin _ _ _ _ (T8.setTop (mkF m 50 _ []))
  refine OwnFin.st (fun _ q => XS.iconst X8.here hx rfl (hb hby d15_50) q) ?_
  show OwnFin _ _ _ _ (T8.setTop (mkF m 51 _ [(.int 1)]))
  refine OwnFin.st (fun _ q => XS.goto X8.here hx rfl (pc0 := 51) (pc' := 55) rfl (hb hby d15_51) (by decide) (by decide) q) ?_
  show OwnFin _ _ _ _ (T8.setTop (mkF m 55 _ [(.int 1)]))
  obtain ⟨fs, hr, hrun, hended, hW, hsame⟩ := X8.leave (v := some (.int 1)) (fun h => by rw [Bd.returns] at h; cases h)
  refine ⟨_, _, retN X8 hx (t := .boolean) Bd.returns (by simp) (hb hby d15_55) hr, hrun, hended, _, _, rfl, ?_, ⟨_, rfl⟩, hW, hsame.mono (by decide) (by decide)⟩
  show Q_rm_se11T Z a0 a1 b0 b1 k_b0 y0 k_b1 x0 w_COMPACT_STRINGS h0 n0 _ T8.heap _
  rw [he8]
  exact ⟨rfl, N8, rfl⟩
theorem ef_rm_le12 (m : MethodId) (a0 : Addr) (a1 : Addr) : entryFrame m #[(.ref a0), (.ref a1)] 3 = mkF m 0 #[.val (.ref a0), .val (.ref a1), .unset] [] := by first | (simp [entryFrame, mkF, argsToLocals, Value.category]; done) | rfl
def Q_rm_le12 (Z : State) (a0 : Addr) (a1 : Addr) (k_a0 : ClassId) (y0 : Int32) (k_a1 : ClassId) (x0 : Int32) (x1 : Int32) (h0 : Heap) (n0 : Nat) (v : Option Value) (h : Heap) (L : List Loc) : Prop := v = some (.int 0) ∧ Fr n0 L ∧ h = h0
set_option maxRecDepth 65536 in
set_option maxHeartbeats 40000000 in
theorem rm_le12 (l : Launch) (Z : State) (av0 : Array Value) (hw : ∀ d ∈ tables_1, d.before av0 Z = true) (ws : List Jvm.Cond) (a0 : Addr) (a1 : Addr) (k_a0 : ClassId) (y0 : Int32) (k_a1 : ClassId) (x0 : Int32) (x1 : Int32) (h0 : Heap) (n0 : Nat) (Z0 : n0 ≤ h0.size) (V_a0 : Arv Z h0 a0 k_a0 .byte (1 : Int32) [(.int y0)] (.int 0)) (V_a1 : Arv Z h0 a1 k_a1 .byte (2 : Int32) [(.int x0), (.int x1)] (.int 0)) :
    MetFree l yM15 (head1 (Jvm.Cond.code yM15 jdk_43_method_13_code 3 (some .boolean) :: ws) ({ frames := 0, cells := 0, slots := 0, locals := 0 } : Room)) (fun a U => a = #[(.ref a0), (.ref a1)] ∧ Z.Warmed39 U.vm ∧ U.heap = h0) (fun _ _ _ _ _ => True) (fun _ U o U' => ∃ v L, o = .returned v ∧ Q_rm_le12 Z a0 a1 k_a0 y0 k_a1 x0 x1 h0 n0 v U'.heap L ∧ FrameEnd U o U' L ({ frames := 0, cells := 0, slots := 0, locals := 0 } : Room).cells ({ frames := 0, cells := 0, slots := 0, locals := 0 } : Room).slots) := by
  refine MetFree.of_bodySF (plainFor_of_name pn_6) hisR ?_
  intro p e s m args below meth c s₁ Bd hml0 hP hK
  obtain ⟨rfl, hZ, hh⟩ := hP
  have hx := Bd.exec
  have hby := Bd.bytes
  have hml : c.maxLocals = 3 := hml0
  have hown : s.vm.findClass "java/lang/StringLatin1" = some m.cls := findClass_of_methodNamed Bd.named
  have hnm := (name_of_methodNamed Bd.named Bd.method).1
  have X0 : Stand p l e ({ frames := 0, cells := 0, slots := 0, locals := 0 } : Room) s m #[(.ref a0), (.ref a1)] below meth c s₁ [] 0 0 := Stand.of_body Bd
  have e0 : s₁.heap = h0 := by rw [← hh, Bd.state]; rfl
  have N0 := Fr.nil n0
  have pre0 : ∀ t, Steps p.tables e below (s₁.setTop (mkF m 0 #[.val (.ref a0), .val (.ref a1), .unset] [])) t → Steps p.tables e below (s₁.setTop (entryFrame m #[(.ref a0), (.ref a1)] 3)) t := fun t k => castTop (ef_rm_le12 m a0 a1) k
  change OwnFin p.tables e below _ (s₁.setTop (entryFrame m #[(.ref a0), (.ref a1)] 3))
  have kp0 : Keep h0 h0 [] := Keep.refl _ _
  refine OwnFin.st (fun _ q => pre0 _ q) ?_
  show OwnFin _ _ _ _ (s₁.setTop (mkF m 0 #[.val (.ref a0), .val (.ref a1), .unset] []))
  refine OwnFin.st (fun _ q => XS.aloadN X0.here hx rfl (hb hby d16_0) rfl rfl q) ?_
  show OwnFin _ _ _ _ (s₁.setTop (mkF m 1 _ [(.ref a0)]))
  have Vo1 : Arv Z h0 a0 k_a0 .byte (1 : Int32) [(.int y0)] (.int 0) := V_a0
  obtain ⟨cl1, Ar1, qa1, Sa1, Na1, Ha1, Ga1⟩ := id Vo1
  refine OwnFin.st (X0.arraylength hx (by rw [e0]; exact Ar1.1) (State.isArrayOf_alike (hZ).alike Ar1.2.1) (g := (mkF m 1 #[.val (.ref a0), .val (.ref a1), .unset] [(.ref a0)])) rfl rfl (hb hby d16_1)) ?_
  rw [len_of Sa1 Na1]
  show OwnFin _ _ _ _ (s₁.setTop (mkF m 2 _ [(.int 1)]))
  refine OwnFin.st (fun _ q => XS.aloadN X0.here hx rfl (hb hby d16_2) rfl rfl q) ?_
  show OwnFin _ _ _ _ (s₁.setTop (mkF m 3 _ [(.ref a1), (.int 1)]))
  have Vo2 : Arv Z h0 a1 k_a1 .byte (2 : Int32) [(.int x0), (.int x1)] (.int 0) := V_a1
  obtain ⟨cl2, Ar2, qa2, Sa2, Na2, Ha2, Ga2⟩ := id Vo2
  refine OwnFin.st (X0.arraylength hx (by rw [e0]; exact Ar2.1) (State.isArrayOf_alike (hZ).alike Ar2.2.1) (g := (mkF m 3 #[.val (.ref a0), .val (.ref a1), .unset] [(.ref a1), (.int 1)])) rfl rfl (hb hby d16_3)) ?_
  rw [len_of Sa2 Na2]
  show OwnFin _ _ _ _ (s₁.setTop (mkF m 4 _ [(.int 2), (.int 1)]))
  refine OwnFin.st (fun _ q => XS.icmpYes X0.here hx rfl (pc0 := 4) (pc' := 34) rfl (hb hby d16_4) rfl (Jvm.Free.XT.ii_ne_t (by decide : ¬ ((1 : Int32) = (2 : Int32)))) (by decide) (by decide) q) ?_
  show OwnFin _ _ _ _ (s₁.setTop (mkF m 34 _ []))
  refine OwnFin.st (fun _ q => XS.iconst X0.here hx rfl (hb hby d16_34) q) ?_
  show OwnFin _ _ _ _ (s₁.setTop (mkF m 35 _ [(.int 0)]))
  obtain ⟨fs, hr, hrun, hended, hW, hsame⟩ := X0.leave (v := some (.int 0)) (fun h => by rw [Bd.returns] at h; cases h)
  refine ⟨_, _, retN X0 hx (t := .boolean) Bd.returns (by simp) (hb hby d16_35) hr, hrun, hended, _, _, rfl, ?_, ⟨_, rfl⟩, hW, hsame.mono (by decide) (by decide)⟩
  show Q_rm_le12 Z a0 a1 k_a0 y0 k_a1 x0 x1 h0 n0 _ s₁.heap _
  rw [e0]
  exact ⟨rfl, N0, rfl⟩
theorem ef_rm_se12 (m : MethodId) (a0 : Addr) (a1 : Addr) : entryFrame m #[(.ref a0), (.ref a1)] 3 = mkF m 0 #[.val (.ref a0), .val (.ref a1), .unset] [] := by first | (simp [entryFrame, mkF, argsToLocals, Value.category]; done) | rfl
def Q_rm_se12 (Z : State) (a0 : Addr) (a1 : Addr) (b0 : Addr) (b1 : Addr) (k_b0 : ClassId) (y0 : Int32) (k_b1 : ClassId) (x0 : Int32) (x1 : Int32) (w_COMPACT_STRINGS : Int32) (h0 : Heap) (n0 : Nat) (v : Option Value) (h : Heap) (L : List Loc) : Prop := v = some (.int 0) ∧ Fr n0 L ∧ h = h0
set_option maxRecDepth 65536 in
set_option maxHeartbeats 40000000 in
theorem rm_se12 (l : Launch) (Z : State) (av0 : Array Value) (hw : ∀ d ∈ tables_1, d.before av0 Z = true) (ws : List Jvm.Cond) (a0 : Addr) (a1 : Addr) (b0 : Addr) (b1 : Addr) (k_b0 : ClassId) (y0 : Int32) (k_b1 : ClassId) (x0 : Int32) (x1 : Int32) (w_COMPACT_STRINGS : Int32) (h0 : Heap) (n0 : Nat) (Z0 : n0 ≤ h0.size) (Ol0 : Old Z n0 h0) (X_a0 : Exa Z h0 a0 "java/lang/String") (F_coder_a0 : Fld Z h0 a0 "java/lang/String" "coder" "B" (.int 0)) (F_value_a0 : Fld Z h0 a0 "java/lang/String" "value" "[B" (.ref b0)) (X_a1 : Exa Z h0 a1 "java/lang/String") (F_coder_a1 : Fld Z h0 a1 "java/lang/String" "coder" "B" (.int 0)) (F_value_a1 : Fld Z h0 a1 "java/lang/String" "value" "[B" (.ref b1)) (V_b0 : Arv Z h0 b0 k_b0 .byte (1 : Int32) [(.int y0)] (.int 0)) (V_b1 : Arv Z h0 b1 k_b1 .byte (2 : Int32) [(.int x0), (.int x1)] (.int 0)) (hc0 : ¬ (a0 = a1)) (S_COMPACT_STRINGS : Sta Z Z.heap "java/lang/String" "COMPACT_STRINGS" "Z" (.int w_COMPACT_STRINGS)) (hc1 : ¬ (w_COMPACT_STRINGS = (0 : Int32))) :
    MetFree l yM16 (head1 (Jvm.Cond.code yM16 jdk_42_method_66_code 3 (some .boolean) :: ws) ({ frames := 1, cells := 0, slots := 0, locals := 14 } : Room)) (fun a U => a = #[(.ref a0), (.ref a1)] ∧ Z.Warmed39 U.vm ∧ U.heap = h0) (fun _ _ _ _ _ => True) (fun _ U o U' => ∃ v L, o = .returned v ∧ Q_rm_se12 Z a0 a1 b0 b1 k_b0 y0 k_b1 x0 x1 w_COMPACT_STRINGS h0 n0 v U'.heap L ∧ FrameEnd U o U' L ({ frames := 1, cells := 0, slots := 0, locals := 14 } : Room).cells ({ frames := 1, cells := 0, slots := 0, locals := 14 } : Room).slots) := by
  refine MetFree.of_bodySF (plainFor_of_name pn_0) hisR ?_
  intro p e s m args below meth c s₁ Bd hml0 hP hK
  obtain ⟨rfl, hZ, hh⟩ := hP
  have hx := Bd.exec
  have hby := Bd.bytes
  have hml : c.maxLocals = 3 := hml0
  have hown : s.vm.findClass "java/lang/String" = some m.cls := findClass_of_methodNamed Bd.named
  have hnm := (name_of_methodNamed Bd.named Bd.method).1
  have X0 : Stand p l e ({ frames := 1, cells := 0, slots := 0, locals := 14 } : Room) s m #[(.ref a0), (.ref a1)] below meth c s₁ [] 0 0 := Stand.of_body Bd
  have e0 : s₁.heap = h0 := by rw [← hh, Bd.state]; rfl
  have N0 := Fr.nil n0
  have pre0 : ∀ t, Steps p.tables e below (s₁.setTop (mkF m 0 #[.val (.ref a0), .val (.ref a1), .unset] [])) t → Steps p.tables e below (s₁.setTop (entryFrame m #[(.ref a0), (.ref a1)] 3)) t := fun t k => castTop (ef_rm_se12 m a0 a1) k
  change OwnFin p.tables e below _ (s₁.setTop (entryFrame m #[(.ref a0), (.ref a1)] 3))
  have kp0 : Keep h0 h0 [] := Keep.refl _ _
  refine OwnFin.st (fun _ q => pre0 _ q) ?_
  show OwnFin _ _ _ _ (s₁.setTop (mkF m 0 #[.val (.ref a0), .val (.ref a1), .unset] []))
  refine OwnFin.st (fun _ q => XS.aloadN X0.here hx rfl (hb hby d15_0) rfl rfl q) ?_
  show OwnFin _ _ _ _ (s₁.setTop (mkF m 1 _ [(.ref a0)]))
  refine OwnFin.st (fun _ q => XS.aloadN X0.here hx rfl (hb hby d15_1) rfl rfl q) ?_
  show OwnFin _ _ _ _ (s₁.setTop (mkF m 2 _ [(.ref a1), (.ref a0)]))
  refine OwnFin.st (fun _ q => Jvm.RoadKit.acmp (g := (mkF m 2 #[.val (.ref a0), .val (.ref a1), .unset] [(.ref a1), (.ref a0)])) X0 hx rfl rfl rfl (pc0 := 2) (pc' := 7) (same := false) rfl (hb hby d15_2) rfl (decide_eq_false fun q => hc0 (Value.ref.inj q)) (by decide) (by decide) q) ?_
  show OwnFin _ _ _ _ (s₁.setTop (mkF m 7 _ []))
  refine OwnFin.st (fun _ q => XS.aloadN X0.here hx rfl (hb hby d15_7) rfl rfl q) ?_
  show OwnFin _ _ _ _ (s₁.setTop (mkF m 8 _ [(.ref a1)]))
  obtain ⟨T1, X1, e1, st1⟩ := instY X0 hx hZ hown (w_ hw 98 rfl) e0 (Ins.self X_a1) (g := (mkF m 8 #[.val (.ref a0), .val (.ref a1), .unset] [(.ref a1)])) rfl rfl (hb hby d15_8)
  refine OwnFin.st st1 ?_
  show OwnFin _ _ _ _ (T1.setTop (mkF m 11 _ [(.int 1)]))
  refine OwnFin.st (fun _ q => XS.ifNo X1.here hx rfl (hb hby d15_11) rfl (Jvm.Free.XT.i0_eq_f (by decide : ¬ ((1 : Int32) = (0 : Int32)))) q) ?_
  show OwnFin _ _ _ _ (T1.setTop (mkF m 14 _ []))
  refine OwnFin.st (fun _ q => XS.aloadN X1.here hx rfl (hb hby d15_14) rfl rfl q) ?_
  show OwnFin _ _ _ _ (T1.setTop (mkF m 15 _ [(.ref a1)]))
  obtain ⟨T2, X2, e2, st2⟩ := castY X1 hx hZ hown (w_ hw 98 rfl) e1 (Ins.self X_a1) (g := (mkF m 15 #[.val (.ref a0), .val (.ref a1), .unset] [(.ref a1)])) rfl rfl (hb hby d15_15)
  refine OwnFin.st st2 ?_
  show OwnFin _ _ _ _ (T2.setTop (mkF m 18 _ [(.ref a1)]))
  refine OwnFin.st (fun _ q => XS.astoreN X2.here hx rfl (hb hby d15_18) rfl rfl (l' := #[.val (.ref a0), .val (.ref a1), .val (.ref a1)]) rfl q) ?_
  show OwnFin _ _ _ _ (T2.setTop (mkF m 19 _ []))
  obtain ⟨T3, X3, e3, st3⟩ := getS2 X2 hx hZ hown (host := "") (Or.inl (w_ hw 99 rfl)) Via.refl e2 (S_COMPACT_STRINGS.ext Ol0.2) (g := (mkF m 19 #[.val (.ref a0), .val (.ref a1), .val (.ref a1)] [])) rfl (hb hby d15_19)
  refine OwnFin.st st3 ?_
  show OwnFin _ _ _ _ (T3.setTop (mkF m 22 _ [(.int w_COMPACT_STRINGS)]))
  refine OwnFin.st (fun _ q => XS.ifNo X3.here hx rfl (hb hby d15_22) rfl (Jvm.Free.XT.i0_eq_f hc1) q) ?_
  show OwnFin _ _ _ _ (T3.setTop (mkF m 25 _ []))
  refine OwnFin.st (fun _ q => XS.aloadN X3.here hx rfl (hb hby d15_25) rfl rfl q) ?_
  show OwnFin _ _ _ _ (T3.setTop (mkF m 26 _ [(.ref a0)]))
  obtain ⟨T4, X4, e4, st4⟩ := getF X3 hx hZ hown (host := "") (Or.inl (w_ hw 34 rfl)) Via.refl e3 F_coder_a0 (g := (mkF m 26 #[.val (.ref a0), .val (.ref a1), .val (.ref a1)] [(.ref a0)])) rfl rfl (hb hby d15_26)
  refine OwnFin.st st4 ?_
  show OwnFin _ _ _ _ (T4.setTop (mkF m 29 #[.val (.ref a0), .val (.ref a1), .val (.ref a1)] [(.int 0)]))
  refine OwnFin.st (fun _ q => XS.aloadN X4.here hx rfl (hb hby d15_29) rfl rfl q) ?_
  show OwnFin _ _ _ _ (T4.setTop (mkF m 30 _ [(.ref a1), (.int 0)]))
  obtain ⟨T5, X5, e5, st5⟩ := getF X4 hx hZ hown (host := "") (Or.inl (w_ hw 34 rfl)) Via.refl e4 F_coder_a1 (g := (mkF m 30 #[.val (.ref a0), .val (.ref a1), .val (.ref a1)] [(.ref a1), (.int 0)])) rfl rfl (hb hby d15_30)
  refine OwnFin.st st5 ?_
  show OwnFin _ _ _ _ (T5.setTop (mkF m 33 _ [(.int 0), (.int 0)]))
  refine OwnFin.st (fun _ q => XS.icmpNo X5.here hx rfl (hb hby d15_33) rfl (Jvm.Free.XT.ii_ne_f (rfl : (0 : Int32) = (0 : Int32))) q) ?_
  show OwnFin _ _ _ _ (T5.setTop (mkF m 36 _ []))
  refine OwnFin.st (fun _ q => XS.aloadN X5.here hx rfl (hb hby d15_36) rfl rfl q) ?_
  show OwnFin _ _ _ _ (T5.setTop (mkF m 37 _ [(.ref a0)]))
  obtain ⟨T6, X6, e6, st6⟩ := getF X5 hx hZ hown (host := "") (Or.inl (w_ hw 33 rfl)) Via.refl e5 F_value_a0 (g := (mkF m 37 #[.val (.ref a0), .val (.ref a1), .val (.ref a1)] [(.ref a0)])) rfl rfl (hb hby d15_37)
  refine OwnFin.st st6 ?_
  show OwnFin _ _ _ _ (T6.setTop (mkF m 40 _ [(.ref b0)]))
  refine OwnFin.st (fun _ q => XS.aloadN X6.here hx rfl (hb hby d15_40) rfl rfl q) ?_
  show OwnFin _ _ _ _ (T6.setTop (mkF m 41 _ [(.ref a1), (.ref b0)]))
  obtain ⟨T7, X7, e7, st7⟩ := getF X6 hx hZ hown (host := "") (Or.inl (w_ hw 33 rfl)) Via.refl e6 F_value_a1 (g := (mkF m 41 #[.val (.ref a0), .val (.ref a1), .val (.ref a1)] [(.ref a1), (.ref b0)])) rfl rfl (hb hby d15_41)
  refine OwnFin.st st7 ?_
  show OwnFin _ _ _ _ (T7.setTop (mkF m 44 _ [(.ref b1), (.ref b0)]))
  obtain ⟨_, _, ⟨T8, L8, k8, n8⟩, -, X8, ⟨Lc8, hQ8, l8, y8, z8⟩, st8⟩ := Jvm.LawKit.callS X7 hx (y := yM15) hown (mvT hZ (w_ hw 100 rfl)) (mvT hZ (w_ hw 101 rfl)) (mvT hZ (w_ hw 102 rfl)) (mvT hZ (w_ hw 103 rfl)) (by decide) (backOf (W := 0) (rm_le12 l Z av0 hw [] b0 b1 k_b0 y0 k_b1 x0 x1 h0 n0 (Nat.le_trans Z0 kp0.1) V_b0 V_b1) hZ (w_ hw 103 rfl) (w_ hw 102 rfl) (by decide) (by decide)) (g := (mkF m 44 #[.val (.ref a0), .val (.ref a1), .val (.ref a1)] [(.ref b1), (.ref b0)])) rfl (by rw [hml]; rfl) (argsL := [(.ref b0), (.ref b1)]) (rest := []) (lenOf pd_9 rfl) rfl (by show 2 * 0 + _ ≤ _; exact Nat.le_of_eq rfl) (hb hby d15_44) (fun _ _ => ⟨rfl, e7, (by decide : 0 + 0 ≤ _), (by decide : 0 + 0 ≤ _)⟩)
  dsimp only [Pt.U, Pt.locs, Pt.cells, Pt.slots] at X8 l8 y8 z8 st8 hQ8
  subst l8 y8 z8
  obtain ⟨rfl, N8q, he8⟩ := hQ8
  have N8 := Fr.app N0 N8q
  refine OwnFin.st st8 ?_
  show OwnFin _ _ _ _ (T8.setTop (mkF m 47 _ [(.int 0)]))
  refine OwnFin.st (fun _ q => XS.ifYes X8.here hx rfl (pc0 := 47) (pc' := 54) rfl (hb hby d15_47) rfl (Jvm.Free.XT.i0_eq_t (rfl : (0 : Int32) = (0 : Int32))) (by decide) (by decide) q) ?_
  show OwnFin _ _ _ _ (T8.setTop (mkF m 54 _ []))
  refine OwnFin.st (fun _ q => XS.iconst X8.here hx rfl (hb hby d15_54) q) ?_
  show OwnFin _ _ _ _ (T8.setTop (mkF m 55 _ [(.int 0)]))
  obtain ⟨fs, hr, hrun, hended, hW, hsame⟩ := X8.leave (v := some (.int 0)) (fun h => by rw [Bd.returns] at h; cases h)
  refine ⟨_, _, retN X8 hx (t := .boolean) Bd.returns (by simp) (hb hby d15_55) hr, hrun, hended, _, _, rfl, ?_, ⟨_, rfl⟩, hW, hsame.mono (by decide) (by decide)⟩
  show Q_rm_se12 Z a0 a1 b0 b1 k_b0 y0 k_b1 x0 x1 w_COMPACT_STRINGS h0 n0 _ T8.heap _
  rw [he8]
  exact ⟨rfl, N8, rfl⟩
theorem ef_rm_le20 (m : MethodId) (a0 : Addr) (a1 : Addr) : entryFrame m #[(.ref a0), (.ref a1)] 3 = mkF m 0 #[.val (.ref a0), .val (.ref a1), .unset] [] := by first | (simp [entryFrame, mkF, argsToLocals, Value.category]; done) | rfl
def Q_rm_le20 (Z : State) (a0 : Addr) (a1 : Addr) (k_a0 : ClassId) (y0 : Int32) (y1 : Int32) (k_a1 : ClassId) (h0 : Heap) (n0 : Nat) (v : Option Value) (h : Heap) (L : List Loc) : Prop := v = some (.int 0) ∧ Fr n0 L ∧ h = h0
set_option maxRecDepth 65536 in
set_option maxHeartbeats 40000000 in
theorem rm_le20 (l : Launch) (Z : State) (av0 : Array Value) (hw : ∀ d ∈ tables_1, d.before av0 Z = true) (ws : List Jvm.Cond) (a0 : Addr) (a1 : Addr) (k_a0 : ClassId) (y0 : Int32) (y1 : Int32) (k_a1 : ClassId) (h0 : Heap) (n0 : Nat) (Z0 : n0 ≤ h0.size) (V_a0 : Arv Z h0 a0 k_a0 .byte (2 : Int32) [(.int y0), (.int y1)] (.int 0)) (V_a1 : Arv Z h0 a1 k_a1 .byte (0 : Int32) [] (.int 0)) :
    MetFree l yM15 (head1 (Jvm.Cond.code yM15 jdk_43_method_13_code 3 (some .boolean) :: ws) ({ frames := 0, cells := 0, slots := 0, locals := 0 } : Room)) (fun a U => a = #[(.ref a0), (.ref a1)] ∧ Z.Warmed39 U.vm ∧ U.heap = h0) (fun _ _ _ _ _ => True) (fun _ U o U' => ∃ v L, o = .returned v ∧ Q_rm_le20 Z a0 a1 k_a0 y0 y1 k_a1 h0 n0 v U'.heap L ∧ FrameEnd U o U' L ({ frames := 0, cells := 0, slots := 0, locals := 0 } : Room).cells ({ frames := 0, cells := 0, slots := 0, locals := 0 } : Room).slots) := by
  refine MetFree.of_bodySF (plainFor_of_name pn_6) hisR ?_
  intro p e s m args below meth c s₁ Bd hml0 hP hK
  obtain ⟨rfl, hZ, hh⟩ := hP
  have hx := Bd.exec
  have hby := Bd.bytes
  have hml : c.maxLocals = 3 := hml0
  have hown : s.vm.findClass "java/lang/StringLatin1" = some m.cls := findClass_of_methodNamed Bd.named
  have hnm := (name_of_methodNamed Bd.named Bd.method).1
  have X0 : Stand p l e ({ frames := 0, cells := 0, slots := 0, locals := 0 } : Room) s m #[(.ref a0), (.ref a1)] below meth c s₁ [] 0 0 := Stand.of_body Bd
  have e0 : s₁.heap = h0 := by rw [← hh, Bd.state]; rfl
  have N0 := Fr.nil n0
  have pre0 : ∀ t, Steps p.tables e below (s₁.setTop (mkF m 0 #[.val (.ref a0), .val (.ref a1), .unset] [])) t → Steps p.tables e below (s₁.setTop (entryFrame m #[(.ref a0), (.ref a1)] 3)) t := fun t k => castTop (ef_rm_le20 m a0 a1) k
  change OwnFin p.tables e below _ (s₁.setTop (entryFrame m #[(.ref a0), (.ref a1)] 3))
  have kp0 : Keep h0 h0 [] := Keep.refl _ _
  refine OwnFin.st (fun _ q => pre0 _ q) ?_
  show OwnFin _ _ _ _ (s₁.setTop (mkF m 0 #[.val (.ref a0), .val (.ref a1), .unset] []))
  refine OwnFin.st (fun _ q => XS.aloadN X0.here hx rfl (hb hby d16_0) rfl rfl q) ?_
  show OwnFin _ _ _ _ (s₁.setTop (mkF m 1 _ [(.ref a0)]))
  have Vo1 : Arv Z h0 a0 k_a0 .byte (2 : Int32) [(.int y0), (.int y1)] (.int 0) := V_a0
  obtain ⟨cl1, Ar1, qa1, Sa1, Na1, Ha1, Ga1⟩ := id Vo1
  refine OwnFin.st (X0.arraylength hx (by rw [e0]; exact Ar1.1) (State.isArrayOf_alike (hZ).alike Ar1.2.1) (g := (mkF m 1 #[.val (.ref a0), .val (.ref a1), .unset] [(.ref a0)])) rfl rfl (hb hby d16_1)) ?_
  rw [len_of Sa1 Na1]
  show OwnFin _ _ _ _ (s₁.setTop (mkF m 2 _ [(.int 2)]))
  refine OwnFin.st (fun _ q => XS.aloadN X0.here hx rfl (hb hby d16_2) rfl rfl q) ?_
  show OwnFin _ _ _ _ (s₁.setTop (mkF m 3 _ [(.ref a1), (.int 2)]))
  have Vo2 : Arv Z h0 a1 k_a1 .byte (0 : Int32) [] (.int 0) := V_a1
  obtain ⟨cl2, Ar2, qa2, Sa2, Na2, Ha2, Ga2⟩ := id Vo2
  refine OwnFin.st (X0.arraylength hx (by rw [e0]; exact Ar2.1) (State.isArrayOf_alike (hZ).alike Ar2.2.1) (g := (mkF m 3 #[.val (.ref a0), .val (.ref a1), .unset] [(.ref a1), (.int 2)])) rfl rfl (hb hby d16_3)) ?_
  rw [len_of Sa2 Na2]
  show OwnFin _ _ _ _ (s₁.setTop (mkF m 4 _ [(.int 0), (.int 2)]))
  refine OwnFin.st (fun _ q => XS.icmpYes X0.here hx rfl (pc0 := 4) (pc' := 34) rfl (hb hby d16_4) rfl (Jvm.Free.XT.ii_ne_t (by decide : ¬ ((2 : Int32) = (0 : Int32)))) (by decide) (by decide) q) ?_
  show OwnFin _ _ _ _ (s₁.setTop (mkF m 34 _ []))
  refine OwnFin.st (fun _ q => XS.iconst X0.here hx rfl (hb hby d16_34) q) ?_
  show OwnFin _ _ _ _ (s₁.setTop (mkF m 35 _ [(.int 0)]))
  obtain ⟨fs, hr, hrun, hended, hW, hsame⟩ := X0.leave (v := some (.int 0)) (fun h => by rw [Bd.returns] at h; cases h)
  refine ⟨_, _, retN X0 hx (t := .boolean) Bd.returns (by simp) (hb hby d16_35) hr, hrun, hended, _, _, rfl, ?_, ⟨_, rfl⟩, hW, hsame.mono (by decide) (by decide)⟩
  show Q_rm_le20 Z a0 a1 k_a0 y0 y1 k_a1 h0 n0 _ s₁.heap _
  rw [e0]
  exact ⟨rfl, N0, rfl⟩
theorem ef_rm_se20 (m : MethodId) (a0 : Addr) (a1 : Addr) : entryFrame m #[(.ref a0), (.ref a1)] 3 = mkF m 0 #[.val (.ref a0), .val (.ref a1), .unset] [] := by first | (simp [entryFrame, mkF, argsToLocals, Value.category]; done) | rfl
def Q_rm_se20 (Z : State) (a0 : Addr) (a1 : Addr) (b0 : Addr) (b1 : Addr) (k_b0 : ClassId) (y0 : Int32) (y1 : Int32) (k_b1 : ClassId) (w_COMPACT_STRINGS : Int32) (h0 : Heap) (n0 : Nat) (v : Option Value) (h : Heap) (L : List Loc) : Prop := v = some (.int 0) ∧ Fr n0 L ∧ h = h0
set_option maxRecDepth 65536 in
set_option maxHeartbeats 40000000 in
theorem rm_se20 (l : Launch) (Z : State) (av0 : Array Value) (hw : ∀ d ∈ tables_1, d.before av0 Z = true) (ws : List Jvm.Cond) (a0 : Addr) (a1 : Addr) (b0 : Addr) (b1 : Addr) (k_b0 : ClassId) (y0 : Int32) (y1 : Int32) (k_b1 : ClassId) (w_COMPACT_STRINGS : Int32) (h0 : Heap) (n0 : Nat) (Z0 : n0 ≤ h0.size) (Ol0 : Old Z n0 h0) (X_a0 : Exa Z h0 a0 "java/lang/String") (F_coder_a0 : Fld Z h0 a0 "java/lang/String" "coder" "B" (.int 0)) (F_value_a0 : Fld Z h0 a0 "java/lang/String" "value" "[B" (.ref b0)) (X_a1 : Exa Z h0 a1 "java/lang/String") (F_coder_a1 : Fld Z h0 a1 "java/lang/String" "coder" "B" (.int 0)) (F_value_a1 : Fld Z h0 a1 "java/lang/String" "value" "[B" (.ref b1)) (V_b0 : Arv Z h0 b0 k_b0 .byte (2 : Int32) [(.int y0), (.int y1)] (.int 0)) (V_b1 : Arv Z h0 b1 k_b1 .byte (0 : Int32) [] (.int 0)) (hc0 : ¬ (a0 = a1)) (S_COMPACT_STRINGS : Sta Z Z.heap "java/lang/String" "COMPACT_STRINGS" "Z" (.int w_COMPACT_STRINGS)) (hc1 : ¬ (w_COMPACT_STRINGS = (0 : Int32))) :
    MetFree l yM16 (head1 (Jvm.Cond.code yM16 jdk_42_method_66_code 3 (some .boolean) :: ws) ({ frames := 1, cells := 0, slots := 0, locals := 14 } : Room)) (fun a U => a = #[(.ref a0), (.ref a1)] ∧ Z.Warmed39 U.vm ∧ U.heap = h0) (fun _ _ _ _ _ => True) (fun _ U o U' => ∃ v L, o = .returned v ∧ Q_rm_se20 Z a0 a1 b0 b1 k_b0 y0 y1 k_b1 w_COMPACT_STRINGS h0 n0 v U'.heap L ∧ FrameEnd U o U' L ({ frames := 1, cells := 0, slots := 0, locals := 14 } : Room).cells ({ frames := 1, cells := 0, slots := 0, locals := 14 } : Room).slots) := by
  refine MetFree.of_bodySF (plainFor_of_name pn_0) hisR ?_
  intro p e s m args below meth c s₁ Bd hml0 hP hK
  obtain ⟨rfl, hZ, hh⟩ := hP
  have hx := Bd.exec
  have hby := Bd.bytes
  have hml : c.maxLocals = 3 := hml0
  have hown : s.vm.findClass "java/lang/String" = some m.cls := findClass_of_methodNamed Bd.named
  have hnm := (name_of_methodNamed Bd.named Bd.method).1
  have X0 : Stand p l e ({ frames := 1, cells := 0, slots := 0, locals := 14 } : Room) s m #[(.ref a0), (.ref a1)] below meth c s₁ [] 0 0 := Stand.of_body Bd
  have e0 : s₁.heap = h0 := by rw [← hh, Bd.state]; rfl
  have N0 := Fr.nil n0
  have pre0 : ∀ t, Steps p.tables e below (s₁.setTop (mkF m 0 #[.val (.ref a0), .val (.ref a1), .unset] [])) t → Steps p.tables e below (s₁.setTop (entryFrame m #[(.ref a0), (.ref a1)] 3)) t := fun t k => castTop (ef_rm_se20 m a0 a1) k
  change OwnFin p.tables e below _ (s₁.setTop (entryFrame m #[(.ref a0), (.ref a1)] 3))
  have kp0 : Keep h0 h0 [] := Keep.refl _ _
  refine OwnFin.st (fun _ q => pre0 _ q) ?_
  show OwnFin _ _ _ _ (s₁.setTop (mkF m 0 #[.val (.ref a0), .val (.ref a1), .unset] []))
  refine OwnFin.st (fun _ q => XS.aloadN X0.here hx rfl (hb hby d15_0) rfl rfl q) ?_
  show OwnFin _ _ _ _ (s₁.setTop (mkF m 1 _ [(.ref a0)]))
  refine OwnFin.st (fun _ q => XS.aloadN X0.here hx rfl (hb hby d15_1) rfl rfl q) ?_
  show OwnFin _ _ _ _ (s₁.setTop (mkF m 2 _ [(.ref a1), (.ref a0)]))
  refine OwnFin.st (fun _ q => Jvm.RoadKit.acmp (g := (mkF m 2 #[.val (.ref a0), .val (.ref a1), .unset] [(.ref a1), (.ref a0)])) X0 hx rfl rfl rfl (pc0 := 2) (pc' := 7) (same := false) rfl (hb hby d15_2) rfl (decide_eq_false fun q => hc0 (Value.ref.inj q)) (by decide) (by decide) q) ?_
  show OwnFin _ _ _ _ (s₁.setTop (mkF m 7 _ []))
  refine OwnFin.st (fun _ q => XS.aloadN X0.here hx rfl (hb hby d15_7) rfl rfl q) ?_
  show OwnFin _ _ _ _ (s₁.setTop (mkF m 8 _ [(.ref a1)]))
  obtain ⟨T1, X1, e1, st1⟩ := instY X0 hx hZ hown (w_ hw 98 rfl) e0 (Ins.self X_a1) (g := (mkF m 8 #[.val (.ref a0), .val (.ref a1), .unset] [(.ref a1)])) rfl rfl (hb hby d15_8)
  refine OwnFin.st st1 ?_
  show OwnFin _ _ _ _ (T1.setTop (mkF m 11 _ [(.int 1)]))
  refine OwnFin.st (fun _ q => XS.ifNo X1.here hx rfl (hb hby d15_11) rfl (Jvm.Free.XT.i0_eq_f (by decide : ¬ ((1 : Int32) = (0 : Int32)))) q) ?_
  show OwnFin _ _ _ _ (T1.setTop (mkF m 14 _ []))
  refine OwnFin.st (fun _ q => XS.aloadN X1.here hx rfl (hb hby d15_14) rfl rfl q) ?_
  show OwnFin _ _ _ _ (T1.setTop (mkF m 15 _ [(.ref a1)]))
  obtain ⟨T2, X2, e2, st2⟩ := castY X1 hx hZ hown (w_ hw 98 rfl) e1 (Ins.self X_a1) (g := (mkF m 15 #[.val (.ref a0), .val (.ref a1), .unset] [(.ref a1)])) rfl rfl (hb hby d15_15)
  refine OwnFin.st st2 ?_
  show OwnFin _ _ _ _ (T2.setTop (mkF m 18 _ [(.ref a1)]))
  refine OwnFin.st (fun _ q => XS.astoreN X2.here hx rfl (hb hby d15_18) rfl rfl (l' := #[.val (.ref a0), .val (.ref a1), .val (.ref a1)]) rfl q) ?_
  show OwnFin _ _ _ _ (T2.setTop (mkF m 19 _ []))
  obtain ⟨T3, X3, e3, st3⟩ := getS2 X2 hx hZ hown (host := "") (Or.inl (w_ hw 99 rfl)) Via.refl e2 (S_COMPACT_STRINGS.ext Ol0.2) (g := (mkF m 19 #[.val (.ref a0), .val (.ref a1), .val (.ref a1)] [])) rfl (hb hby d15_19)
  refine OwnFin.st st3 ?_
  show OwnFin _ _ _ _ (T3.setTop (mkF m 22 _ [(.int w_COMPACT_STRINGS)]))
  refine OwnFin.st (fun _ q => XS.ifNo X3.here hx rfl (hb hby d15_22) rfl (Jvm.Free.XT.i0_eq_f hc1) q) ?_
  show OwnFin _ _ _ _ (T3.setTop (mkF m 25 _ []))
  refine OwnFin.st (fun _ q => XS.aloadN X3.here hx rfl (hb hby d15_25) rfl rfl q) ?_
  show OwnFin _ _ _ _ (T3.setTop (mkF m 26 _ [(.ref a0)]))
  obtain ⟨T4, X4, e4, st4⟩ := getF X3 hx hZ hown (host := "") (Or.inl (w_ hw 34 rfl)) Via.refl e3 F_coder_a0 (g := (mkF m 26 #[.val (.ref a0), .val (.ref a1), .val (.ref a1)] [(.ref a0)])) rfl rfl (hb hby d15_26)
  refine OwnFin.st st4 ?_
  show OwnFin _ _ _ _ (T4.setTop (mkF m 29 #[.val (.ref a0), .val (.ref a1), .val (.ref a1)] [(.int 0)]))
  refine OwnFin.st (fun _ q => XS.aloadN X4.here hx rfl (hb hby d15_29) rfl rfl q) ?_
  show OwnFin _ _ _ _ (T4.setTop (mkF m 30 _ [(.ref a1), (.int 0)]))
  obtain ⟨T5, X5, e5, st5⟩ := getF X4 hx hZ hown (host := "") (Or.inl (w_ hw 34 rfl)) Via.refl e4 F_coder_a1 (g := (mkF m 30 #[.val (.ref a0), .val (.ref a1), .val (.ref a1)] [(.ref a1), (.int 0)])) rfl rfl (hb hby d15_30)
  refine OwnFin.st st5 ?_
  show OwnFin _ _ _ _ (T5.setTop (mkF m 33 _ [(.int 0), (.int 0)]))
  refine OwnFin.st (fun _ q => XS.icmpNo X5.here hx rfl (hb hby d15_33) rfl (Jvm.Free.XT.ii_ne_f (rfl : (0 : Int32) = (0 : Int32))) q) ?_
  show OwnFin _ _ _ _ (T5.setTop (mkF m 36 _ []))
  refine OwnFin.st (fun _ q => XS.aloadN X5.here hx rfl (hb hby d15_36) rfl rfl q) ?_
  show OwnFin _ _ _ _ (T5.setTop (mkF m 37 _ [(.ref a0)]))
  obtain ⟨T6, X6, e6, st6⟩ := getF X5 hx hZ hown (host := "") (Or.inl (w_ hw 33 rfl)) Via.refl e5 F_value_a0 (g := (mkF m 37 #[.val (.ref a0), .val (.ref a1), .val (.ref a1)] [(.ref a0)])) rfl rfl (hb hby d15_37)
  refine OwnFin.st st6 ?_
  show OwnFin _ _ _ _ (T6.setTop (mkF m 40 _ [(.ref b0)]))
  refine OwnFin.st (fun _ q => XS.aloadN X6.here hx rfl (hb hby d15_40) rfl rfl q) ?_
  show OwnFin _ _ _ _ (T6.setTop (mkF m 41 _ [(.ref a1), (.ref b0)]))
  obtain ⟨T7, X7, e7, st7⟩ := getF X6 hx hZ hown (host := "") (Or.inl (w_ hw 33 rfl)) Via.refl e6 F_value_a1 (g := (mkF m 41 #[.val (.ref a0), .val (.ref a1), .val (.ref a1)] [(.ref a1), (.ref b0)])) rfl rfl (hb hby d15_41)
  refine OwnFin.st st7 ?_
  show OwnFin _ _ _ _ (T7.setTop (mkF m 44 _ [(.ref b1), (.ref b0)]))
  obtain ⟨_, _, ⟨T8, L8, k8, n8⟩, -, X8, ⟨Lc8, hQ8, l8, y8, z8⟩, st8⟩ := Jvm.LawKit.callS X7 hx (y := yM15) hown (mvT hZ (w_ hw 100 rfl)) (mvT hZ (w_ hw 101 rfl)) (mvT hZ (w_ hw 102 rfl)) (mvT hZ (w_ hw 103 rfl)) (by decide) (backOf (W := 0) (rm_le20 l Z av0 hw [] b0 b1 k_b0 y0 y1 k_b1 h0 n0 (Nat.le_trans Z0 kp0.1) V_b0 V_b1) hZ (w_ hw 103 rfl) (w_ hw 102 rfl) (by decide) (by decide)) (g := (mkF m 44 #[.val (.ref a0), .val (.ref a1), .val (.ref a1)] [(.ref b1), (.ref b0)])) rfl (by rw [hml]; rfl) (argsL := [(.ref b0), (.ref b1)]) (rest := []) (lenOf pd_9 rfl) rfl (by show 2 * 0 + _ ≤ _; exact Nat.le_of_eq rfl) (hb hby d15_44) (fun _ _ => ⟨rfl, e7, (by decide : 0 + 0 ≤ _), (by decide : 0 + 0 ≤ _)⟩)
  dsimp only [Pt.U, Pt.locs, Pt.cells, Pt.slots] at X8 l8 y8 z8 st8 hQ8
  subst l8 y8 z8
  obtain ⟨rfl, N8q, he8⟩ := hQ8
  have N8 := Fr.app N0 N8q
  refine OwnFin.st st8 ?_
  show OwnFin _ _ _ _ (T8.setTop (mkF m 47 _ [(.int 0)]))
  refine OwnFin.st (fun _ q => XS.ifYes X8.here hx rfl (pc0 := 47) (pc' := 54) rfl (hb hby d15_47) rfl (Jvm.Free.XT.i0_eq_t (rfl : (0 : Int32) = (0 : Int32))) (by decide) (by decide) q) ?_
  show OwnFin _ _ _ _ (T8.setTop (mkF m 54 _ []))
  refine OwnFin.st (fun _ q => XS.iconst X8.here hx rfl (hb hby d15_54) q) ?_
  show OwnFin _ _ _ _ (T8.setTop (mkF m 55 _ [(.int 0)]))
  obtain ⟨fs, hr, hrun, hended, hW, hsame⟩ := X8.leave (v := some (.int 0)) (fun h => by rw [Bd.returns] at h; cases h)
  refine ⟨_, _, retN X8 hx (t := .boolean) Bd.returns (by simp) (hb hby d15_55) hr, hrun, hended, _, _, rfl, ?_, ⟨_, rfl⟩, hW, hsame.mono (by decide) (by decide)⟩
  show Q_rm_se20 Z a0 a1 b0 b1 k_b0 y0 y1 k_b1 w_COMPACT_STRINGS h0 n0 _ T8.heap _
  rw [he8]
  exact ⟨rfl, N8, rfl⟩
theorem ef_rm_le21 (m : MethodId) (a0 : Addr) (a1 : Addr) : entryFrame m #[(.ref a0), (.ref a1)] 3 = mkF m 0 #[.val (.ref a0), .val (.ref a1), .unset] [] := by first | (simp [entryFrame, mkF, argsToLocals, Value.category]; done) | rfl
def Q_rm_le21 (Z : State) (a0 : Addr) (a1 : Addr) (k_a0 : ClassId) (y0 : Int32) (y1 : Int32) (k_a1 : ClassId) (x0 : Int32) (h0 : Heap) (n0 : Nat) (v : Option Value) (h : Heap) (L : List Loc) : Prop := v = some (.int 0) ∧ Fr n0 L ∧ h = h0
set_option maxRecDepth 65536 in
set_option maxHeartbeats 40000000 in
theorem rm_le21 (l : Launch) (Z : State) (av0 : Array Value) (hw : ∀ d ∈ tables_1, d.before av0 Z = true) (ws : List Jvm.Cond) (a0 : Addr) (a1 : Addr) (k_a0 : ClassId) (y0 : Int32) (y1 : Int32) (k_a1 : ClassId) (x0 : Int32) (h0 : Heap) (n0 : Nat) (Z0 : n0 ≤ h0.size) (V_a0 : Arv Z h0 a0 k_a0 .byte (2 : Int32) [(.int y0), (.int y1)] (.int 0)) (V_a1 : Arv Z h0 a1 k_a1 .byte (1 : Int32) [(.int x0)] (.int 0)) :
    MetFree l yM15 (head1 (Jvm.Cond.code yM15 jdk_43_method_13_code 3 (some .boolean) :: ws) ({ frames := 0, cells := 0, slots := 0, locals := 0 } : Room)) (fun a U => a = #[(.ref a0), (.ref a1)] ∧ Z.Warmed39 U.vm ∧ U.heap = h0) (fun _ _ _ _ _ => True) (fun _ U o U' => ∃ v L, o = .returned v ∧ Q_rm_le21 Z a0 a1 k_a0 y0 y1 k_a1 x0 h0 n0 v U'.heap L ∧ FrameEnd U o U' L ({ frames := 0, cells := 0, slots := 0, locals := 0 } : Room).cells ({ frames := 0, cells := 0, slots := 0, locals := 0 } : Room).slots) := by
  refine MetFree.of_bodySF (plainFor_of_name pn_6) hisR ?_
  intro p e s m args below meth c s₁ Bd hml0 hP hK
  obtain ⟨rfl, hZ, hh⟩ := hP
  have hx := Bd.exec
  have hby := Bd.bytes
  have hml : c.maxLocals = 3 := hml0
  have hown : s.vm.findClass "java/lang/StringLatin1" = some m.cls := findClass_of_methodNamed Bd.named
  have hnm := (name_of_methodNamed Bd.named Bd.method).1
  have X0 : Stand p l e ({ frames := 0, cells := 0, slots := 0, locals := 0 } : Room) s m #[(.ref a0), (.ref a1)] below meth c s₁ [] 0 0 := Stand.of_body Bd
  have e0 : s₁.heap = h0 := by rw [← hh, Bd.state]; rfl
  have N0 := Fr.nil n0
  have pre0 : ∀ t, Steps p.tables e below (s₁.setTop (mkF m 0 #[.val (.ref a0), .val (.ref a1), .unset] [])) t → Steps p.tables e below (s₁.setTop (entryFrame m #[(.ref a0), (.ref a1)] 3)) t := fun t k => castTop (ef_rm_le21 m a0 a1) k
  change OwnFin p.tables e below _ (s₁.setTop (entryFrame m #[(.ref a0), (.ref a1)] 3))
  have kp0 : Keep h0 h0 [] := Keep.refl _ _
  refine OwnFin.st (fun _ q => pre0 _ q) ?_
  show OwnFin _ _ _ _ (s₁.setTop (mkF m 0 #[.val (.ref a0), .val (.ref a1), .unset] []))
  refine OwnFin.st (fun _ q => XS.aloadN X0.here hx rfl (hb hby d16_0) rfl rfl q) ?_
  show OwnFin _ _ _ _ (s₁.setTop (mkF m 1 _ [(.ref a0)]))
  have Vo1 : Arv Z h0 a0 k_a0 .byte (2 : Int32) [(.int y0), (.int y1)] (.int 0) := V_a0
  obtain ⟨cl1, Ar1, qa1, Sa1, Na1, Ha1, Ga1⟩ := id Vo1
  refine OwnFin.st (X0.arraylength hx (by rw [e0]; exact Ar1.1) (State.isArrayOf_alike (hZ).alike Ar1.2.1) (g := (mkF m 1 #[.val (.ref a0), .val (.ref a1), .unset] [(.ref a0)])) rfl rfl (hb hby d16_1)) ?_
  rw [len_of Sa1 Na1]
  show OwnFin _ _ _ _ (s₁.setTop (mkF m 2 _ [(.int 2)]))
  refine OwnFin.st (fun _ q => XS.aloadN X0.here hx rfl (hb hby d16_2) rfl rfl q) ?_
  show OwnFin _ _ _ _ (s₁.setTop (mkF m 3 _ [(.ref a1), (.int 2)]))
  have Vo2 : Arv Z h0 a1 k_a1 .byte (1 : Int32) [(.int x0)] (.int 0) := V_a1
  obtain ⟨cl2, Ar2, qa2, Sa2, Na2, Ha2, Ga2⟩ := id Vo2
  refine OwnFin.st (X0.arraylength hx (by rw [e0]; exact Ar2.1) (State.isArrayOf_alike (hZ).alike Ar2.2.1) (g := (mkF m 3 #[.val (.ref a0), .val (.ref a1), .unset] [(.ref a1), (.int 2)])) rfl rfl (hb hby d16_3)) ?_
  rw [len_of Sa2 Na2]
  show OwnFin _ _ _ _ (s₁.setTop (mkF m 4 _ [(.int 1), (.int 2)]))
  refine OwnFin.st (fun _ q => XS.icmpYes X0.here hx rfl (pc0 := 4) (pc' := 34) rfl (hb hby d16_4) rfl (Jvm.Free.XT.ii_ne_t (by decide : ¬ ((2 : Int32) = (1 : Int32)))) (by decide) (by decide) q) ?_
  show OwnFin _ _ _ _ (s₁.setTop (mkF m 34 _ []))
  refine OwnFin.st (fun _ q => XS.iconst X0.here hx rfl (hb hby d16_34) q) ?_
  show OwnFin _ _ _ _ (s₁.setTop (mkF m 35 _ [(.int 0)]))
  obtain ⟨fs, hr, hrun, hended, hW, hsame⟩ := X0.leave (v := some (.int 0)) (fun h => by rw [Bd.returns] at h; cases h)
  refine ⟨_, _, retN X0 hx (t := .boolean) Bd.returns (by simp) (hb hby d16_35) hr, hrun, hended, _, _, rfl, ?_, ⟨_, rfl⟩, hW, hsame.mono (by decide) (by decide)⟩
  show Q_rm_le21 Z a0 a1 k_a0 y0 y1 k_a1 x0 h0 n0 _ s₁.heap _
  rw [e0]
  exact ⟨rfl, N0, rfl⟩
theorem ef_rm_se21 (m : MethodId) (a0 : Addr) (a1 : Addr) : entryFrame m #[(.ref a0), (.ref a1)] 3 = mkF m 0 #[.val (.ref a0), .val (.ref a1), .unset] [] := by first | (simp [entryFrame, mkF, argsToLocals, Value.category]; done) | rfl
def Q_rm_se21 (Z : State) (a0 : Addr) (a1 : Addr) (b0 : Addr) (b1 : Addr) (k_b0 : ClassId) (y0 : Int32) (y1 : Int32) (k_b1 : ClassId) (x0 : Int32) (w_COMPACT_STRINGS : Int32) (h0 : Heap) (n0 : Nat) (v : Option Value) (h : Heap) (L : List Loc) : Prop := v = some (.int 0) ∧ Fr n0 L ∧ h = h0
set_option maxRecDepth 65536 in
set_option maxHeartbeats 40000000 in
theorem rm_se21 (l : Launch) (Z : State) (av0 : Array Value) (hw : ∀ d ∈ tables_1, d.before av0 Z = true) (ws : List Jvm.Cond) (a0 : Addr) (a1 : Addr) (b0 : Addr) (b1 : Addr) (k_b0 : ClassId) (y0 : Int32) (y1 : Int32) (k_b1 : ClassId) (x0 : Int32) (w_COMPACT_STRINGS : Int32) (h0 : Heap) (n0 : Nat) (Z0 : n0 ≤ h0.size) (Ol0 : Old Z n0 h0) (X_a0 : Exa Z h0 a0 "java/lang/String") (F_coder_a0 : Fld Z h0 a0 "java/lang/String" "coder" "B" (.int 0)) (F_value_a0 : Fld Z h0 a0 "java/lang/String" "value" "[B" (.ref b0)) (X_a1 : Exa Z h0 a1 "java/lang/String") (F_coder_a1 : Fld Z h0 a1 "java/lang/String" "coder" "B" (.int 0)) (F_value_a1 : Fld Z h0 a1 "java/lang/String" "value" "[B" (.ref b1)) (V_b0 : Arv Z h0 b0 k_b0 .byte (2 : Int32) [(.int y0), (.int y1)] (.int 0)) (V_b1 : Arv Z h0 b1 k_b1 .byte (1 : Int32) [(.int x0)] (.int 0)) (hc0 : ¬ (a0 = a1)) (S_COMPACT_STRINGS : Sta Z Z.heap "java/lang/String" "COMPACT_STRINGS" "Z" (.int w_COMPACT_STRINGS)) (hc1 : ¬ (w_COMPACT_STRINGS = (0 : Int32))) :
    MetFree l yM16 (head1 (Jvm.Cond.code yM16 jdk_42_method_66_code 3 (some .boolean) :: ws) ({ frames := 1, cells := 0, slots := 0, locals := 14 } : Room)) (fun a U => a = #[(.ref a0), (.ref a1)] ∧ Z.Warmed39 U.vm ∧ U.heap = h0) (fun _ _ _ _ _ => True) (fun _ U o U' => ∃ v L, o = .returned v ∧ Q_rm_se21 Z a0 a1 b0 b1 k_b0 y0 y1 k_b1 x0 w_COMPACT_STRINGS h0 n0 v U'.heap L ∧ FrameEnd U o U' L ({ frames := 1, cells := 0, slots := 0, locals := 14 } : Room).cells ({ frames := 1, cells := 0, slots := 0, locals := 14 } : Room).slots) := by
  refine MetFree.of_bodySF (plainFor_of_name pn_0) hisR ?_
  intro p e s m args below meth c s₁ Bd hml0 hP hK
  obtain ⟨rfl, hZ, hh⟩ := hP
  have hx := Bd.exec
  have hby := Bd.bytes
  have hml : c.maxLocals = 3 := hml0
  have hown : s.vm.findClass "java/lang/String" = some m.cls := findClass_of_methodNamed Bd.named
  have hnm := (name_of_methodNamed Bd.named Bd.method).1
  have X0 : Stand p l e ({ frames := 1, cells := 0, slots := 0, locals := 14 } : Room) s m #[(.ref a0), (.ref a1)] below meth c s₁ [] 0 0 := Stand.of_body Bd
  have e0 : s₁.heap = h0 := by rw [← hh, Bd.state]; rfl
  have N0 := Fr.nil n0
  have pre0 : ∀ t, Steps p.tables e below (s₁.setTop (mkF m 0 #[.val (.ref a0), .val (.ref a1), .unset] [])) t → Steps p.tables e below (s₁.setTop (entryFrame m #[(.ref a0), (.ref a1)] 3)) t := fun t k => castTop (ef_rm_se21 m a0 a1) k
  change OwnFin p.tables e below _ (s₁.setTop (entryFrame m #[(.ref a0), (.ref a1)] 3))
  have kp0 : Keep h0 h0 [] := Keep.refl _ _
  refine OwnFin.st (fun _ q => pre0 _ q) ?_
  show OwnFin _ _ _ _ (s₁.setTop (mkF m 0 #[.val (.ref a0), .val (.ref a1), .unset] []))
  refine OwnFin.st (fun _ q => XS.aloadN X0.here hx rfl (hb hby d15_0) rfl rfl q) ?_
  show OwnFin _ _ _ _ (s₁.setTop (mkF m 1 _ [(.ref a0)]))
  refine OwnFin.st (fun _ q => XS.aloadN X0.here hx rfl (hb hby d15_1) rfl rfl q) ?_
  show OwnFin _ _ _ _ (s₁.setTop (mkF m 2 _ [(.ref a1), (.ref a0)]))
  refine OwnFin.st (fun _ q => Jvm.RoadKit.acmp (g := (mkF m 2 #[.val (.ref a0), .val (.ref a1), .unset] [(.ref a1), (.ref a0)])) X0 hx rfl rfl rfl (pc0 := 2) (pc' := 7) (same := false) rfl (hb hby d15_2) rfl (decide_eq_false fun q => hc0 (Value.ref.inj q)) (by decide) (by decide) q) ?_
  show OwnFin _ _ _ _ (s₁.setTop (mkF m 7 _ []))
  refine OwnFin.st (fun _ q => XS.aloadN X0.here hx rfl (hb hby d15_7) rfl rfl q) ?_
  show OwnFin _ _ _ _ (s₁.setTop (mkF m 8 _ [(.ref a1)]))
  obtain ⟨T1, X1, e1, st1⟩ := instY X0 hx hZ hown (w_ hw 98 rfl) e0 (Ins.self X_a1) (g := (mkF m 8 #[.val (.ref a0), .val (.ref a1), .unset] [(.ref a1)])) rfl rfl (hb hby d15_8)
  refine OwnFin.st st1 ?_
  show OwnFin _ _ _ _ (T1.setTop (mkF m 11 _ [(.int 1)]))
  refine OwnFin.st (fun _ q => XS.ifNo X1.here hx rfl (hb hby d15_11) rfl (Jvm.Free.XT.i0_eq_f (by decide : ¬ ((1 : Int32) = (0 : Int32)))) q) ?_
  show OwnFin _ _ _ _ (T1.setTop (mkF m 14 _ []))
  refine OwnFin.st (fun _ q => XS.aloadN X1.here hx rfl (hb hby d15_14) rfl rfl q) ?_
  show OwnFin _ _ _ _ (T1.setTop (mkF m 15 _ [(.ref a1)]))
  obtain ⟨T2, X2, e2, st2⟩ := castY X1 hx hZ hown (w_ hw 98 rfl) e1 (Ins.self X_a1) (g := (mkF m 15 #[.val (.ref a0), .val (.ref a1), .unset] [(.ref a1)])) rfl rfl (hb hby d15_15)
  refine OwnFin.st st2 ?_
  show OwnFin _ _ _ _ (T2.setTop (mkF m 18 _ [(.ref a1)]))
  refine OwnFin.st (fun _ q => XS.astoreN X2.here hx rfl (hb hby d15_18) rfl rfl (l' := #[.val (.ref a0), .val (.ref a1), .val (.ref a1)]) rfl q) ?_
  show OwnFin _ _ _ _ (T2.setTop (mkF m 19 _ []))
  obtain ⟨T3, X3, e3, st3⟩ := getS2 X2 hx hZ hown (host := "") (Or.inl (w_ hw 99 rfl)) Via.refl e2 (S_COMPACT_STRINGS.ext Ol0.2) (g := (mkF m 19 #[.val (.ref a0), .val (.ref a1), .val (.ref a1)] [])) rfl (hb hby d15_19)
  refine OwnFin.st st3 ?_
  show OwnFin _ _ _ _ (T3.setTop (mkF m 22 _ [(.int w_COMPACT_STRINGS)]))
  refine OwnFin.st (fun _ q => XS.ifNo X3.here hx rfl (hb hby d15_22) rfl (Jvm.Free.XT.i0_eq_f hc1) q) ?_
  show OwnFin _ _ _ _ (T3.setTop (mkF m 25 _ []))
  refine OwnFin.st (fun _ q => XS.aloadN X3.here hx rfl (hb hby d15_25) rfl rfl q) ?_
  show OwnFin _ _ _ _ (T3.setTop (mkF m 26 _ [(.ref a0)]))
  obtain ⟨T4, X4, e4, st4⟩ := getF X3 hx hZ hown (host := "") (Or.inl (w_ hw 34 rfl)) Via.refl e3 F_coder_a0 (g := (mkF m 26 #[.val (.ref a0), .val (.ref a1), .val (.ref a1)] [(.ref a0)])) rfl rfl (hb hby d15_26)
  refine OwnFin.st st4 ?_
  show OwnFin _ _ _ _ (T4.setTop (mkF m 29 #[.val (.ref a0), .val (.ref a1), .val (.ref a1)] [(.int 0)]))
  refine OwnFin.st (fun _ q => XS.aloadN X4.here hx rfl (hb hby d15_29) rfl rfl q) ?_
  show OwnFin _ _ _ _ (T4.setTop (mkF m 30 _ [(.ref a1), (.int 0)]))
  obtain ⟨T5, X5, e5, st5⟩ := getF X4 hx hZ hown (host := "") (Or.inl (w_ hw 34 rfl)) Via.refl e4 F_coder_a1 (g := (mkF m 30 #[.val (.ref a0), .val (.ref a1), .val (.ref a1)] [(.ref a1), (.int 0)])) rfl rfl (hb hby d15_30)
  refine OwnFin.st st5 ?_
  show OwnFin _ _ _ _ (T5.setTop (mkF m 33 _ [(.int 0), (.int 0)]))
  refine OwnFin.st (fun _ q => XS.icmpNo X5.here hx rfl (hb hby d15_33) rfl (Jvm.Free.XT.ii_ne_f (rfl : (0 : Int32) = (0 : Int32))) q) ?_
  show OwnFin _ _ _ _ (T5.setTop (mkF m 36 _ []))
  refine OwnFin.st (fun _ q => XS.aloadN X5.here hx rfl (hb hby d15_36) rfl rfl q) ?_
  show OwnFin _ _ _ _ (T5.setTop (mkF m 37 _ [(.ref a0)]))
  obtain ⟨T6, X6, e6, st6⟩ := getF X5 hx hZ hown (host := "") (Or.inl (w_ hw 33 rfl)) Via.refl e5 F_value_a0 (g := (mkF m 37 #[.val (.ref a0), .val (.ref a1), .val (.ref a1)] [(.ref a0)])) rfl rfl (hb hby d15_37)
  refine OwnFin.st st6 ?_
  show OwnFin _ _ _ _ (T6.setTop (mkF m 40 _ [(.ref b0)]))
  refine OwnFin.st (fun _ q => XS.aloadN X6.here hx rfl (hb hby d15_40) rfl rfl q) ?_
  show OwnFin _ _ _ _ (T6.setTop (mkF m 41 _ [(.ref a1), (.ref b0)]))
  obtain ⟨T7, X7, e7, st7⟩ := getF X6 hx hZ hown (host := "") (Or.inl (w_ hw 33 rfl)) Via.refl e6 F_value_a1 (g := (mkF m 41 #[.val (.ref a0), .val (.ref a1), .val (.ref a1)] [(.ref a1), (.ref b0)])) rfl rfl (hb hby d15_41)
  refine OwnFin.st st7 ?_
  show OwnFin _ _ _ _ (T7.setTop (mkF m 44 _ [(.ref b1), (.ref b0)]))
  obtain ⟨_, _, ⟨T8, L8, k8, n8⟩, -, X8, ⟨Lc8, hQ8, l8, y8, z8⟩, st8⟩ := Jvm.LawKit.callS X7 hx (y := yM15) hown (mvT hZ (w_ hw 100 rfl)) (mvT hZ (w_ hw 101 rfl)) (mvT hZ (w_ hw 102 rfl)) (mvT hZ (w_ hw 103 rfl)) (by decide) (backOf (W := 0) (rm_le21 l Z av0 hw [] b0 b1 k_b0 y0 y1 k_b1 x0 h0 n0 (Nat.le_trans Z0 kp0.1) V_b0 V_b1) hZ (w_ hw 103 rfl) (w_ hw 102 rfl) (by decide) (by decide)) (g := (mkF m 44 #[.val (.ref a0), .val (.ref a1), .val (.ref a1)] [(.ref b1), (.ref b0)])) rfl (by rw [hml]; rfl) (argsL := [(.ref b0), (.ref b1)]) (rest := []) (lenOf pd_9 rfl) rfl (by show 2 * 0 + _ ≤ _; exact Nat.le_of_eq rfl) (hb hby d15_44) (fun _ _ => ⟨rfl, e7, (by decide : 0 + 0 ≤ _), (by decide : 0 + 0 ≤ _)⟩)
  dsimp only [Pt.U, Pt.locs, Pt.cells, Pt.slots] at X8 l8 y8 z8 st8 hQ8
  subst l8 y8 z8
  obtain ⟨rfl, N8q, he8⟩ := hQ8
  have N8 := Fr.app N0 N8q
  refine OwnFin.st st8 ?_
  show OwnFin _ _ _ _ (T8.setTop (mkF m 47 _ [(.int 0)]))
  refine OwnFin.st (fun _ q => XS.ifYes X8.here hx rfl (pc0 := 47) (pc' := 54) rfl (hb hby d15_47) rfl (Jvm.Free.XT.i0_eq_t (rfl : (0 : Int32) = (0 : Int32))) (by decide) (by decide) q) ?_
  show OwnFin _ _ _ _ (T8.setTop (mkF m 54 _ []))
  refine OwnFin.st (fun _ q => XS.iconst X8.here hx rfl (hb hby d15_54) q) ?_
  show OwnFin _ _ _ _ (T8.setTop (mkF m 55 _ [(.int 0)]))
  obtain ⟨fs, hr, hrun, hended, hW, hsame⟩ := X8.leave (v := some (.int 0)) (fun h => by rw [Bd.returns] at h; cases h)
  refine ⟨_, _, retN X8 hx (t := .boolean) Bd.returns (by simp) (hb hby d15_55) hr, hrun, hended, _, _, rfl, ?_, ⟨_, rfl⟩, hW, hsame.mono (by decide) (by decide)⟩
  show Q_rm_se21 Z a0 a1 b0 b1 k_b0 y0 y1 k_b1 x0 w_COMPACT_STRINGS h0 n0 _ T8.heap _
  rw [he8]
  exact ⟨rfl, N8, rfl⟩
theorem ef_rm_le22F (m : MethodId) (a0 : Addr) (a1 : Addr) : entryFrame m #[(.ref a0), (.ref a1)] 3 = mkF m 0 #[.val (.ref a0), .val (.ref a1), .unset] [] := by first | (simp [entryFrame, mkF, argsToLocals, Value.category]; done) | rfl
def Q_rm_le22F (Z : State) (a0 : Addr) (a1 : Addr) (k_a0 : ClassId) (y0 : Int32) (y1 : Int32) (k_a1 : ClassId) (x0 : Int32) (x1 : Int32) (h0 : Heap) (n0 : Nat) (v : Option Value) (h : Heap) (L : List Loc) : Prop := v = some (.int 0) ∧ Fr n0 L ∧ h = h0
set_option maxRecDepth 65536 in
set_option maxHeartbeats 40000000 in
theorem rm_le22F (l : Launch) (Z : State) (av0 : Array Value) (hw : ∀ d ∈ tables_1, d.before av0 Z = true) (ws : List Jvm.Cond) (a0 : Addr) (a1 : Addr) (k_a0 : ClassId) (y0 : Int32) (y1 : Int32) (k_a1 : ClassId) (x0 : Int32) (x1 : Int32) (h0 : Heap) (n0 : Nat) (Z0 : n0 ≤ h0.size) (V_a0 : Arv Z h0 a0 k_a0 .byte (2 : Int32) [(.int y0), (.int y1)] (.int 0)) (V_a1 : Arv Z h0 a1 k_a1 .byte (2 : Int32) [(.int x0), (.int x1)] (.int 0)) (hc0 : ¬ (y0 = x0)) :
    MetFree l yM15 (head1 (Jvm.Cond.code yM15 jdk_43_method_13_code 3 (some .boolean) :: ws) ({ frames := 0, cells := 0, slots := 0, locals := 0 } : Room)) (fun a U => a = #[(.ref a0), (.ref a1)] ∧ Z.Warmed39 U.vm ∧ U.heap = h0) (fun _ _ _ _ _ => True) (fun _ U o U' => ∃ v L, o = .returned v ∧ Q_rm_le22F Z a0 a1 k_a0 y0 y1 k_a1 x0 x1 h0 n0 v U'.heap L ∧ FrameEnd U o U' L ({ frames := 0, cells := 0, slots := 0, locals := 0 } : Room).cells ({ frames := 0, cells := 0, slots := 0, locals := 0 } : Room).slots) := by
  refine MetFree.of_bodySF (plainFor_of_name pn_6) hisR ?_
  intro p e s m args below meth c s₁ Bd hml0 hP hK
  obtain ⟨rfl, hZ, hh⟩ := hP
  have hx := Bd.exec
  have hby := Bd.bytes
  have hml : c.maxLocals = 3 := hml0
  have hown : s.vm.findClass "java/lang/StringLatin1" = some m.cls := findClass_of_methodNamed Bd.named
  have hnm := (name_of_methodNamed Bd.named Bd.method).1
  have X0 : Stand p l e ({ frames := 0, cells := 0, slots := 0, locals := 0 } : Room) s m #[(.ref a0), (.ref a1)] below meth c s₁ [] 0 0 := Stand.of_body Bd
  have e0 : s₁.heap = h0 := by rw [← hh, Bd.state]; rfl
  have N0 := Fr.nil n0
  have pre0 : ∀ t, Steps p.tables e below (s₁.setTop (mkF m 0 #[.val (.ref a0), .val (.ref a1), .unset] [])) t → Steps p.tables e below (s₁.setTop (entryFrame m #[(.ref a0), (.ref a1)] 3)) t := fun t k => castTop (ef_rm_le22F m a0 a1) k
  change OwnFin p.tables e below _ (s₁.setTop (entryFrame m #[(.ref a0), (.ref a1)] 3))
  have kp0 : Keep h0 h0 [] := Keep.refl _ _
  refine OwnFin.st (fun _ q => pre0 _ q) ?_
  show OwnFin _ _ _ _ (s₁.setTop (mkF m 0 #[.val (.ref a0), .val (.ref a1), .unset] []))
  refine OwnFin.st (fun _ q => XS.aloadN X0.here hx rfl (hb hby d16_0) rfl rfl q) ?_
  show OwnFin _ _ _ _ (s₁.setTop (mkF m 1 _ [(.ref a0)]))
  have Vo1 : Arv Z h0 a0 k_a0 .byte (2 : Int32) [(.int y0), (.int y1)] (.int 0) := V_a0
  obtain ⟨cl1, Ar1, qa1, Sa1, Na1, Ha1, Ga1⟩ := id Vo1
  refine OwnFin.st (X0.arraylength hx (by rw [e0]; exact Ar1.1) (State.isArrayOf_alike (hZ).alike Ar1.2.1) (g := (mkF m 1 #[.val (.ref a0), .val (.ref a1), .unset] [(.ref a0)])) rfl rfl (hb hby d16_1)) ?_
  rw [len_of Sa1 Na1]
  show OwnFin _ _ _ _ (s₁.setTop (mkF m 2 _ [(.int 2)]))
  refine OwnFin.st (fun _ q => XS.aloadN X0.here hx rfl (hb hby d16_2) rfl rfl q) ?_
  show OwnFin _ _ _ _ (s₁.setTop (mkF m 3 _ [(.ref a1), (.int 2)]))
  have Vo2 : Arv Z h0 a1 k_a1 .byte (2 : Int32) [(.int x0), (.int x1)] (.int 0) := V_a1
  obtain ⟨cl2, Ar2, qa2, Sa2, Na2, Ha2, Ga2⟩ := id Vo2
  refine OwnFin.st (X0.arraylength hx (by rw [e0]; exact Ar2.1) (State.isArrayOf_alike (hZ).alike Ar2.2.1) (g := (mkF m 3 #[.val (.ref a0), .val (.ref a1), .unset] [(.ref a1), (.int 2)])) rfl rfl (hb hby d16_3)) ?_
  rw [len_of Sa2 Na2]
  show OwnFin _ _ _ _ (s₁.setTop (mkF m 4 _ [(.int 2), (.int 2)]))
  refine OwnFin.st (fun _ q => XS.icmpNo X0.here hx rfl (hb hby d16_4) rfl (Jvm.Free.XT.ii_ne_f (rfl : (2 : Int32) = (2 : Int32))) q) ?_
  show OwnFin _ _ _ _ (s₁.setTop (mkF m 7 _ []))
  refine OwnFin.st (fun _ q => XS.iconst X0.here hx rfl (hb hby d16_7) q) ?_
  show OwnFin _ _ _ _ (s₁.setTop (mkF m 8 _ [(.int 0)]))
  refine OwnFin.st (fun _ q => XS.istoreN X0.here hx rfl (hb hby d16_8) rfl (l' := #[.val (.ref a0), .val (.ref a1), .val (.int 0)]) rfl q) ?_
  show OwnFin _ _ _ _ (s₁.setTop (mkF m 9 _ []))
  refine OwnFin.st (fun _ q => XS.iloadN X0.here hx rfl (hb hby d16_9) rfl q) ?_
  show OwnFin _ _ _ _ (s₁.setTop (mkF m 10 _ [(.int 0)]))
  refine OwnFin.st (fun _ q => XS.aloadN X0.here hx rfl (hb hby d16_10) rfl rfl q) ?_
  show OwnFin _ _ _ _ (s₁.setTop (mkF m 11 _ [(.ref a0), (.int 0)]))
  have Vo3 : Arv Z h0 a0 k_a0 .byte (2 : Int32) [(.int y0), (.int y1)] (.int 0) := V_a0
  obtain ⟨cl3, Ar3, qa3, Sa3, Na3, Ha3, Ga3⟩ := id Vo3
  refine OwnFin.st (X0.arraylength hx (by rw [e0]; exact Ar3.1) (State.isArrayOf_alike (hZ).alike Ar3.2.1) (g := (mkF m 11 #[.val (.ref a0), .val (.ref a1), .val (.int 0)] [(.ref a0), (.int 0)])) rfl rfl (hb hby d16_11)) ?_
  rw [len_of Sa3 Na3]
  show OwnFin _ _ _ _ (s₁.setTop (mkF m 12 _ [(.int 2), (.int 0)]))
  refine OwnFin.st (fun _ q => XS.icmpNo X0.here hx rfl (hb hby d16_12) rfl (Jvm.Free.XT.ii_ge_f (by decide : (0 : Int32) < (2 : Int32))) q) ?_
  show OwnFin _ _ _ _ (s₁.setTop (mkF m 15 _ []))
  refine OwnFin.st (fun _ q => XS.aloadN X0.here hx rfl (hb hby d16_15) rfl rfl q) ?_
  show OwnFin _ _ _ _ (s₁.setTop (mkF m 16 _ [(.ref a0)]))
  refine OwnFin.st (fun _ q => XS.iloadN X0.here hx rfl (hb hby d16_16) rfl q) ?_
  show OwnFin _ _ _ _ (s₁.setTop (mkF m 17 #[.val (.ref a0), .val (.ref a1), .val (.int 0)] [(.int 0), (.ref a0)]))
  have Vo4 : Arv Z h0 a0 k_a0 .byte (2 : Int32) [(.int y0), (.int y1)] (.int 0) := V_a0
  obtain ⟨cl4, Ar4, qa4, Sa4, Na4, Ha4, Ga4⟩ := id Vo4
  have hin4 : ¬ ((0 : Int32) < 0 ∨ cl4.slots.size ≤ ((0 : Int32)).toNatClampNeg) := inb_of Sa4 ⟨by decide, by decide⟩
  refine OwnFin.st (X0.baloadBytes hx (j := (0 : Int32)) (v := (.int y0)) (by rw [e0]; exact Ar4.1) (State.isArrayOf_alike (hZ).alike Ar4.2.1) Ar4.2.2 hin4 (Ha4.at hin4 rfl) (g := (mkF m 17 #[.val (.ref a0), .val (.ref a1), .val (.int 0)] [(.int 0), (.ref a0)])) rfl rfl (hb hby d16_17)) ?_
  show OwnFin _ _ _ _ (s₁.setTop (mkF m 18 _ [(.int y0)]))
  refine OwnFin.st (fun _ q => XS.aloadN X0.here hx rfl (hb hby d16_18) rfl rfl q) ?_
  show OwnFin _ _ _ _ (s₁.setTop (mkF m 19 _ [(.ref a1), (.int y0)]))
  refine OwnFin.st (fun _ q => XS.iloadN X0.here hx rfl (hb hby d16_19) rfl q) ?_
  show OwnFin _ _ _ _ (s₁.setTop (mkF m 20 _ [(.int 0), (.ref a1), (.int y0)]))
  have Vo5 : Arv Z h0 a1 k_a1 .byte (2 : Int32) [(.int x0), (.int x1)] (.int 0) := V_a1
  obtain ⟨cl5, Ar5, qa5, Sa5, Na5, Ha5, Ga5⟩ := id Vo5
  have hin5 : ¬ ((0 : Int32) < 0 ∨ cl5.slots.size ≤ ((0 : Int32)).toNatClampNeg) := inb_of Sa5 ⟨by decide, by decide⟩
  refine OwnFin.st (X0.baloadBytes hx (j := (0 : Int32)) (v := (.int x0)) (by rw [e0]; exact Ar5.1) (State.isArrayOf_alike (hZ).alike Ar5.2.1) Ar5.2.2 hin5 (Ha5.at hin5 rfl) (g := (mkF m 20 #[.val (.ref a0), .val (.ref a1), .val (.int 0)] [(.int 0), (.ref a1), (.int y0)])) rfl rfl (hb hby d16_20)) ?_
  show OwnFin _ _ _ _ (s₁.setTop (mkF m 21 _ [(.int x0), (.int y0)]))
  refine OwnFin.st (fun _ q => XS.icmpNo X0.here hx rfl (hb hby d16_21) rfl (Jvm.Free.XT.ii_eq_f hc0) q) ?_
  show OwnFin _ _ _ _ (s₁.setTop (mkF m 24 _ []))
  refine OwnFin.st (fun _ q => XS.iconst X0.here hx rfl (hb hby d16_24) q) ?_
  show OwnFin _ _ _ _ (s₁.setTop (mkF m 25 _ [(.int 0)]))
  obtain ⟨fs, hr, hrun, hended, hW, hsame⟩ := X0.leave (v := some (.int 0)) (fun h => by rw [Bd.returns] at h; cases h)
  refine ⟨_, _, retN X0 hx (t := .boolean) Bd.returns (by simp) (hb hby d16_25) hr, hrun, hended, _, _, rfl, ?_, ⟨_, rfl⟩, hW, hsame.mono (by decide) (by decide)⟩
  show Q_rm_le22F Z a0 a1 k_a0 y0 y1 k_a1 x0 x1 h0 n0 _ s₁.heap _
  rw [e0]
  exact ⟨rfl, N0, rfl⟩
theorem ef_rm_se22F (m : MethodId) (a0 : Addr) (a1 : Addr) : entryFrame m #[(.ref a0), (.ref a1)] 3 = mkF m 0 #[.val (.ref a0), .val (.ref a1), .unset] [] := by first | (simp [entryFrame, mkF, argsToLocals, Value.category]; done) | rfl
def Q_rm_se22F (Z : State) (a0 : Addr) (a1 : Addr) (b0 : Addr) (b1 : Addr) (k_b0 : ClassId) (y0 : Int32) (y1 : Int32) (k_b1 : ClassId) (x0 : Int32) (x1 : Int32) (w_COMPACT_STRINGS : Int32) (h0 : Heap) (n0 : Nat) (v : Option Value) (h : Heap) (L : List Loc) : Prop := v = some (.int 0) ∧ Fr n0 L ∧ h = h0
set_option maxRecDepth 65536 in
set_option maxHeartbeats 40000000 in
theorem rm_se22F (l : Launch) (Z : State) (av0 : Array Value) (hw : ∀ d ∈ tables_1, d.before av0 Z = true) (ws : List Jvm.Cond) (a0 : Addr) (a1 : Addr) (b0 : Addr) (b1 : Addr) (k_b0 : ClassId) (y0 : Int32) (y1 : Int32) (k_b1 : ClassId) (x0 : Int32) (x1 : Int32) (w_COMPACT_STRINGS : Int32) (h0 : Heap) (n0 : Nat) (Z0 : n0 ≤ h0.size) (Ol0 : Old Z n0 h0) (X_a0 : Exa Z h0 a0 "java/lang/String") (F_coder_a0 : Fld Z h0 a0 "java/lang/String" "coder" "B" (.int 0)) (F_value_a0 : Fld Z h0 a0 "java/lang/String" "value" "[B" (.ref b0)) (X_a1 : Exa Z h0 a1 "java/lang/String") (F_coder_a1 : Fld Z h0 a1 "java/lang/String" "coder" "B" (.int 0)) (F_value_a1 : Fld Z h0 a1 "java/lang/String" "value" "[B" (.ref b1)) (V_b0 : Arv Z h0 b0 k_b0 .byte (2 : Int32) [(.int y0), (.int y1)] (.int 0)) (V_b1 : Arv Z h0 b1 k_b1 .byte (2 : Int32) [(.int x0), (.int x1)] (.int 0)) (hc0 : ¬ (a0 = a1)) (S_COMPACT_STRINGS : Sta Z Z.heap "java/lang/String" "COMPACT_STRINGS" "Z" (.int w_COMPACT_STRINGS)) (hc1 : ¬ (w_COMPACT_STRINGS = (0 : Int32))) (hc2 : ¬ (y0 = x0)) :
    MetFree l yM16 (head1 (Jvm.Cond.code yM16 jdk_42_method_66_code 3 (some .boolean) :: ws) ({ frames := 1, cells := 0, slots := 0, locals := 14 } : Room)) (fun a U => a = #[(.ref a0), (.ref a1)] ∧ Z.Warmed39 U.vm ∧ U.heap = h0) (fun _ _ _ _ _ => True) (fun _ U o U' => ∃ v L, o = .returned v ∧ Q_rm_se22F Z a0 a1 b0 b1 k_b0 y0 y1 k_b1 x0 x1 w_COMPACT_STRINGS h0 n0 v U'.heap L ∧ FrameEnd U o U' L ({ frames := 1, cells := 0, slots := 0, locals := 14 } : Room).cells ({ frames := 1, cells := 0, slots := 0, locals := 14 } : Room).slots) := by
  refine MetFree.of_bodySF (plainFor_of_name pn_0) hisR ?_
  intro p e s m args below meth c s₁ Bd hml0 hP hK
  obtain ⟨rfl, hZ, hh⟩ := hP
  have hx := Bd.exec
  have hby := Bd.bytes
  have hml : c.maxLocals = 3 := hml0
  have hown : s.vm.findClass "java/lang/String" = some m.cls := findClass_of_methodNamed Bd.named
  have hnm := (name_of_methodNamed Bd.named Bd.method).1
  have X0 : Stand p l e ({ frames := 1, cells := 0, slots := 0, locals := 14 } : Room) s m #[(.ref a0), (.ref a1)] below meth c s₁ [] 0 0 := Stand.of_body Bd
  have e0 : s₁.heap = h0 := by rw [← hh, Bd.state]; rfl
  have N0 := Fr.nil n0
  have pre0 : ∀ t, Steps p.tables e below (s₁.setTop (mkF m 0 #[.val (.ref a0), .val (.ref a1), .unset] [])) t → Steps p.tables e below (s₁.setTop (entryFrame m #[(.ref a0), (.ref a1)] 3)) t := fun t k => castTop (ef_rm_se22F m a0 a1) k
  change OwnFin p.tables e below _ (s₁.setTop (entryFrame m #[(.ref a0), (.ref a1)] 3))
  have kp0 : Keep h0 h0 [] := Keep.refl _ _
  refine OwnFin.st (fun _ q => pre0 _ q) ?_
  show OwnFin _ _ _ _ (s₁.setTop (mkF m 0 #[.val (.ref a0), .val (.ref a1), .unset] []))
  refine OwnFin.st (fun _ q => XS.aloadN X0.here hx rfl (hb hby d15_0) rfl rfl q) ?_
  show OwnFin _ _ _ _ (s₁.setTop (mkF m 1 _ [(.ref a0)]))
  refine OwnFin.st (fun _ q => XS.aloadN X0.here hx rfl (hb hby d15_1) rfl rfl q) ?_
  show OwnFin _ _ _ _ (s₁.setTop (mkF m 2 _ [(.ref a1), (.ref a0)]))
  refine OwnFin.st (fun _ q => Jvm.RoadKit.acmp (g := (mkF m 2 #[.val (.ref a0), .val (.ref a1), .unset] [(.ref a1), (.ref a0)])) X0 hx rfl rfl rfl (pc0 := 2) (pc' := 7) (same := false) rfl (hb hby d15_2) rfl (decide_eq_false fun q => hc0 (Value.ref.inj q)) (by decide) (by decide) q) ?_
  show OwnFin _ _ _ _ (s₁.setTop (mkF m 7 _ []))
  refine OwnFin.st (fun _ q => XS.aloadN X0.here hx rfl (hb hby d15_7) rfl rfl q) ?_
  show OwnFin _ _ _ _ (s₁.setTop (mkF m 8 _ [(.ref a1)]))
  obtain ⟨T1, X1, e1, st1⟩ := instY X0 hx hZ hown (w_ hw 98 rfl) e0 (Ins.self X_a1) (g := (mkF m 8 #[.val (.ref a0), .val (.ref a1), .unset] [(.ref a1)])) rfl rfl (hb hby d15_8)
  refine OwnFin.st st1 ?_
  show OwnFin _ _ _ _ (T1.setTop (mkF m 11 _ [(.int 1)]))
  refine OwnFin.st (fun _ q => XS.ifNo X1.here hx rfl (hb hby d15_11) rfl (Jvm.Free.XT.i0_eq_f (by decide : ¬ ((1 : Int32) = (0 : Int32)))) q) ?_
  show OwnFin _ _ _ _ (T1.setTop (mkF m 14 _ []))
  refine OwnFin.st (fun _ q => XS.aloadN X1.here hx rfl (hb hby d15_14) rfl rfl q) ?_
  show OwnFin _ _ _ _ (T1.setTop (mkF m 15 _ [(.ref a1)]))
  obtain ⟨T2, X2, e2, st2⟩ := castY X1 hx hZ hown (w_ hw 98 rfl) e1 (Ins.self X_a1) (g := (mkF m 15 #[.val (.ref a0), .val (.ref a1), .unset] [(.ref a1)])) rfl rfl (hb hby d15_15)
  refine OwnFin.st st2 ?_
  show OwnFin _ _ _ _ (T2.setTop (mkF m 18 _ [(.ref a1)]))
  refine OwnFin.st (fun _ q => XS.astoreN X2.here hx rfl (hb hby d15_18) rfl rfl (l' := #[.val (.ref a0), .val (.ref a1), .val (.ref a1)]) rfl q) ?_
  show OwnFin _ _ _ _ (T2.setTop (mkF m 19 _ []))
  obtain ⟨T3, X3, e3, st3⟩ := getS2 X2 hx hZ hown (host := "") (Or.inl (w_ hw 99 rfl)) Via.refl e2 (S_COMPACT_STRINGS.ext Ol0.2) (g := (mkF m 19 #[.val (.ref a0), .val (.ref a1), .val (.ref a1)] [])) rfl (hb hby d15_19)
  refine OwnFin.st st3 ?_
  show OwnFin _ _ _ _ (T3.setTop (mkF m 22 _ [(.int w_COMPACT_STRINGS)]))
  refine OwnFin.st (fun _ q => XS.ifNo X3.here hx rfl (hb hby d15_22) rfl (Jvm.Free.XT.i0_eq_f hc1) q) ?_
  show OwnFin _ _ _ _ (T3.setTop (mkF m 25 _ []))
  refine OwnFin.st (fun _ q => XS.aloadN X3.here hx rfl (hb hby d15_25) rfl rfl q) ?_
  show OwnFin _ _ _ _ (T3.setTop (mkF m 26 _ [(.ref a0)]))
  obtain ⟨T4, X4, e4, st4⟩ := getF X3 hx hZ hown (host := "") (Or.inl (w_ hw 34 rfl)) Via.refl e3 F_coder_a0 (g := (mkF m 26 #[.val (.ref a0), .val (.ref a1), .val (.ref a1)] [(.ref a0)])) rfl rfl (hb hby d15_26)
  refine OwnFin.st st4 ?_
  show OwnFin _ _ _ _ (T4.setTop (mkF m 29 #[.val (.ref a0), .val (.ref a1), .val (.ref a1)] [(.int 0)]))
  refine OwnFin.st (fun _ q => XS.aloadN X4.here hx rfl (hb hby d15_29) rfl rfl q) ?_
  show OwnFin _ _ _ _ (T4.setTop (mkF m 30 _ [(.ref a1), (.int 0)]))
  obtain ⟨T5, X5, e5, st5⟩ := getF X4 hx hZ hown (host := "") (Or.inl (w_ hw 34 rfl)) Via.refl e4 F_coder_a1 (g := (mkF m 30 #[.val (.ref a0), .val (.ref a1), .val (.ref a1)] [(.ref a1), (.int 0)])) rfl rfl (hb hby d15_30)
  refine OwnFin.st st5 ?_
  show OwnFin _ _ _ _ (T5.setTop (mkF m 33 _ [(.int 0), (.int 0)]))
  refine OwnFin.st (fun _ q => XS.icmpNo X5.here hx rfl (hb hby d15_33) rfl (Jvm.Free.XT.ii_ne_f (rfl : (0 : Int32) = (0 : Int32))) q) ?_
  show OwnFin _ _ _ _ (T5.setTop (mkF m 36 _ []))
  refine OwnFin.st (fun _ q => XS.aloadN X5.here hx rfl (hb hby d15_36) rfl rfl q) ?_
  show OwnFin _ _ _ _ (T5.setTop (mkF m 37 _ [(.ref a0)]))
  obtain ⟨T6, X6, e6, st6⟩ := getF X5 hx hZ hown (host := "") (Or.inl (w_ hw 33 rfl)) Via.refl e5 F_value_a0 (g := (mkF m 37 #[.val (.ref a0), .val (.ref a1), .val (.ref a1)] [(.ref a0)])) rfl rfl (hb hby d15_37)
  refine OwnFin.st st6 ?_
  show OwnFin _ _ _ _ (T6.setTop (mkF m 40 _ [(.ref b0)]))
  refine OwnFin.st (fun _ q => XS.aloadN X6.here hx rfl (hb hby d15_40) rfl rfl q) ?_
  show OwnFin _ _ _ _ (T6.setTop (mkF m 41 _ [(.ref a1), (.ref b0)]))
  obtain ⟨T7, X7, e7, st7⟩ := getF X6 hx hZ hown (host := "") (Or.inl (w_ hw 33 rfl)) Via.refl e6 F_value_a1 (g := (mkF m 41 #[.val (.ref a0), .val (.ref a1), .val (.ref a1)] [(.ref a1), (.ref b0)])) rfl rfl (hb hby d15_41)
  refine OwnFin.st st7 ?_
  show OwnFin _ _ _ _ (T7.setTop (mkF m 44 _ [(.ref b1), (.ref b0)]))
  show OwnFin _ _ _ _ (T7.setTop (mkF m 44 _ [(.ref b1), (.ref b0)]))
  obtain ⟨_, _, ⟨T8, L8, k8, n8⟩, -, X8, ⟨Lc8, hQ8, l8, y8, z8⟩, st8⟩ := Jvm.LawKit.callS X7 hx (y := yM15) hown (mvT hZ (w_ hw 100 rfl)) (mvT hZ (w_ hw 101 rfl)) (mvT hZ (w_ hw 102 rfl)) (mvT hZ (w_ hw 103 rfl)) (by decide) (backOf (W := 0) (rm_le22F l Z av0 hw [] b0 b1 k_b0 y0 y1 k_b1 x0 x1 h0 n0 (Nat.le_trans Z0 kp0.1) V_b0 V_b1 hc2) hZ (w_ hw 103 rfl) (w_ hw 102 rfl) (by decide) (by decide)) (g := (mkF m 44 #[.val (.ref a0), .val (.ref a1), .val (.ref a1)] [(.ref b1), (.ref b0)])) rfl (by rw [hml]; rfl) (argsL := [(.ref b0), (.ref b1)]) (rest := []) (lenOf pd_9 rfl) rfl (by show 2 * 0 + _ ≤ _; exact Nat.le_of_eq rfl) (hb hby d15_44) (fun _ _ => ⟨rfl, e7, (by decide : 0 + 0 ≤ _), (by decide : 0 + 0 ≤ _)⟩)
  dsimp only [Pt.U, Pt.locs, Pt.cells, Pt.slots] at X8 l8 y8 z8 st8 hQ8
  subst l8 y8 z8
  obtain ⟨rfl, N8q, he8⟩ := hQ8
  have N8 := Fr.app N0 N8q
  refine OwnFin.st st8 ?_
  show OwnFin _ _ _ _ (T8.setTop (mkF m 47 _ [(.int 0)]))
  refine OwnFin.st (fun _ q => XS.ifYes X8.here hx rfl (pc0 := 47) (pc' := 54) rfl (hb hby d15_47) rfl (Jvm.Free.XT.i0_eq_t (rfl : (0 : Int32) = (0 : Int32))) (by decide) (by decide) q) ?_
  show OwnFin _ _ _ _ (T8.setTop (mkF m 54 _ []))
  refine OwnFin.st (fun _ q => XS.iconst X8.here hx rfl (hb hby d15_54) q) ?_
  show OwnFin _ _ _ _ (T8.setTop (mkF m 55 _ [(.int 0)]))
  obtain ⟨fs, hr, hrun, hended, hW, hsame⟩ := X8.leave (v := some (.int 0)) (fun h => by rw [Bd.returns] at h; cases h)
  refine ⟨_, _, retN X8 hx (t := .boolean) Bd.returns (by simp) (hb hby d15_55) hr, hrun, hended, _, _, rfl, ?_, ⟨_, rfl⟩, hW, hsame.mono (by decide) (by decide)⟩
  show Q_rm_se22F Z a0 a1 b0 b1 k_b0 y0 y1 k_b1 x0 x1 w_COMPACT_STRINGS h0 n0 _ T8.heap _
  rw [he8]
  exact ⟨rfl, N8, rfl⟩
theorem ef_rm_le22TF (m : MethodId) (a0 : Addr) (a1 : Addr) : entryFrame m #[(.ref a0), (.ref a1)] 3 = mkF m 0 #[.val (.ref a0), .val (.ref a1), .unset] [] := by first | (simp [entryFrame, mkF, argsToLocals, Value.category]; done) | rfl
def Q_rm_le22TF (Z : State) (a0 : Addr) (a1 : Addr) (k_a0 : ClassId) (y0 : Int32) (y1 : Int32) (k_a1 : ClassId) (x0 : Int32) (x1 : Int32) (h0 : Heap) (n0 : Nat) (v : Option Value) (h : Heap) (L : List Loc) : Prop := v = some (.int 0) ∧ Fr n0 L ∧ h = h0
set_option maxRecDepth 65536 in
set_option maxHeartbeats 40000000 in
theorem rm_le22TF (l : Launch) (Z : State) (av0 : Array Value) (hw : ∀ d ∈ tables_1, d.before av0 Z = true) (ws : List Jvm.Cond) (a0 : Addr) (a1 : Addr) (k_a0 : ClassId) (y0 : Int32) (y1 : Int32) (k_a1 : ClassId) (x0 : Int32) (x1 : Int32) (h0 : Heap) (n0 : Nat) (Z0 : n0 ≤ h0.size) (V_a0 : Arv Z h0 a0 k_a0 .byte (2 : Int32) [(.int y0), (.int y1)] (.int 0)) (V_a1 : Arv Z h0 a1 k_a1 .byte (2 : Int32) [(.int x0), (.int x1)] (.int 0)) (hc0 : y0 = x0) (hc1 : ¬ (y1 = x1)) :
    MetFree l yM15 (head1 (Jvm.Cond.code yM15 jdk_43_method_13_code 3 (some .boolean) :: ws) ({ frames := 0, cells := 0, slots := 0, locals := 0 } : Room)) (fun a U => a = #[(.ref a0), (.ref a1)] ∧ Z.Warmed39 U.vm ∧ U.heap = h0) (fun _ _ _ _ _ => True) (fun _ U o U' => ∃ v L, o = .returned v ∧ Q_rm_le22TF Z a0 a1 k_a0 y0 y1 k_a1 x0 x1 h0 n0 v U'.heap L ∧ FrameEnd U o U' L ({ frames := 0, cells := 0, slots := 0, locals := 0 } : Room).cells ({ frames := 0, cells := 0, slots := 0, locals := 0 } : Room).slots) := by
  refine MetFree.of_bodySF (plainFor_of_name pn_6) hisR ?_
  intro p e s m args below meth c s₁ Bd hml0 hP hK
  obtain ⟨rfl, hZ, hh⟩ := hP
  have hx := Bd.exec
  have hby := Bd.bytes
  have hml : c.maxLocals = 3 := hml0
  have hown : s.vm.findClass "java/lang/StringLatin1" = some m.cls := findClass_of_methodNamed Bd.named
  have hnm := (name_of_methodNamed Bd.named Bd.method).1
  have X0 : Stand p l e ({ frames := 0, cells := 0, slots := 0, locals := 0 } : Room) s m #[(.ref a0), (.ref a1)] below meth c s₁ [] 0 0 := Stand.of_body Bd
  have e0 : s₁.heap = h0 := by rw [← hh, Bd.state]; rfl
  have N0 := Fr.nil n0
  have pre0 : ∀ t, Steps p.tables e below (s₁.setTop (mkF m 0 #[.val (.ref a0), .val (.ref a1), .unset] [])) t → Steps p.tables e below (s₁.setTop (entryFrame m #[(.ref a0), (.ref a1)] 3)) t := fun t k => castTop (ef_rm_le22TF m a0 a1) k
  change OwnFin p.tables e below _ (s₁.setTop (entryFrame m #[(.ref a0), (.ref a1)] 3))
  have kp0 : Keep h0 h0 [] := Keep.refl _ _
  refine OwnFin.st (fun _ q => pre0 _ q) ?_
  show OwnFin _ _ _ _ (s₁.setTop (mkF m 0 #[.val (.ref a0), .val (.ref a1), .unset] []))
  refine OwnFin.st (fun _ q => XS.aloadN X0.here hx rfl (hb hby d16_0) rfl rfl q) ?_
  show OwnFin _ _ _ _ (s₁.setTop (mkF m 1 _ [(.ref a0)]))
  have Vo1 : Arv Z h0 a0 k_a0 .byte (2 : Int32) [(.int y0), (.int y1)] (.int 0) := V_a0
  obtain ⟨cl1, Ar1, qa1, Sa1, Na1, Ha1, Ga1⟩ := id Vo1
  refine OwnFin.st (X0.arraylength hx (by rw [e0]; exact Ar1.1) (State.isArrayOf_alike (hZ).alike Ar1.2.1) (g := (mkF m 1 #[.val (.ref a0), .val (.ref a1), .unset] [(.ref a0)])) rfl rfl (hb hby d16_1)) ?_
  rw [len_of Sa1 Na1]
  show OwnFin _ _ _ _ (s₁.setTop (mkF m 2 _ [(.int 2)]))
  refine OwnFin.st (fun _ q => XS.aloadN X0.here hx rfl (hb hby d16_2) rfl rfl q) ?_
  show OwnFin _ _ _ _ (s₁.setTop (mkF m 3 _ [(.ref a1), (.int 2)]))
  have Vo2 : Arv Z h0 a1 k_a1 .byte (2 : Int32) [(.int x0), (.int x1)] (.int 0) := V_a1
  obtain ⟨cl2, Ar2, qa2, Sa2, Na2, Ha2, Ga2⟩ := id Vo2
  refine OwnFin.st (X0.arraylength hx (by rw [e0]; exact Ar2.1) (State.isArrayOf_alike (hZ).alike Ar2.2.1) (g := (mkF m 3 #[.val (.ref a0), .val (.ref a1), .unset] [(.ref a1), (.int 2)])) rfl rfl (hb hby d16_3)) ?_
  rw [len_of Sa2 Na2]
  show OwnFin _ _ _ _ (s₁.setTop (mkF m 4 _ [(.int 2), (.int 2)]))
  refine OwnFin.st (fun _ q => XS.icmpNo X0.here hx rfl (hb hby d16_4) rfl (Jvm.Free.XT.ii_ne_f (rfl : (2 : Int32) = (2 : Int32))) q) ?_
  show OwnFin _ _ _ _ (s₁.setTop (mkF m 7 _ []))
  refine OwnFin.st (fun _ q => XS.iconst X0.here hx rfl (hb hby d16_7) q) ?_
  show OwnFin _ _ _ _ (s₁.setTop (mkF m 8 _ [(.int 0)]))
  refine OwnFin.st (fun _ q => XS.istoreN X0.here hx rfl (hb hby d16_8) rfl (l' := #[.val (.ref a0), .val (.ref a1), .val (.int 0)]) rfl q) ?_
  show OwnFin _ _ _ _ (s₁.setTop (mkF m 9 _ []))
  refine OwnFin.st (fun _ q => XS.iloadN X0.here hx rfl (hb hby d16_9) rfl q) ?_
  show OwnFin _ _ _ _ (s₁.setTop (mkF m 10 _ [(.int 0)]))
  refine OwnFin.st (fun _ q => XS.aloadN X0.here hx rfl (hb hby d16_10) rfl rfl q) ?_
  show OwnFin _ _ _ _ (s₁.setTop (mkF m 11 _ [(.ref a0), (.int 0)]))
  have Vo3 : Arv Z h0 a0 k_a0 .byte (2 : Int32) [(.int y0), (.int y1)] (.int 0) := V_a0
  obtain ⟨cl3, Ar3, qa3, Sa3, Na3, Ha3, Ga3⟩ := id Vo3
  refine OwnFin.st (X0.arraylength hx (by rw [e0]; exact Ar3.1) (State.isArrayOf_alike (hZ).alike Ar3.2.1) (g := (mkF m 11 #[.val (.ref a0), .val (.ref a1), .val (.int 0)] [(.ref a0), (.int 0)])) rfl rfl (hb hby d16_11)) ?_
  rw [len_of Sa3 Na3]
  show OwnFin _ _ _ _ (s₁.setTop (mkF m 12 _ [(.int 2), (.int 0)]))
  refine OwnFin.st (fun _ q => XS.icmpNo X0.here hx rfl (hb hby d16_12) rfl (Jvm.Free.XT.ii_ge_f (by decide : (0 : Int32) < (2 : Int32))) q) ?_
  show OwnFin _ _ _ _ (s₁.setTop (mkF m 15 _ []))
  refine OwnFin.st (fun _ q => XS.aloadN X0.here hx rfl (hb hby d16_15) rfl rfl q) ?_
  show OwnFin _ _ _ _ (s₁.setTop (mkF m 16 _ [(.ref a0)]))
  refine OwnFin.st (fun _ q => XS.iloadN X0.here hx rfl (hb hby d16_16) rfl q) ?_
  show OwnFin _ _ _ _ (s₁.setTop (mkF m 17 #[.val (.ref a0), .val (.ref a1), .val (.int 0)] [(.int 0), (.ref a0)]))
  have Vo4 : Arv Z h0 a0 k_a0 .byte (2 : Int32) [(.int y0), (.int y1)] (.int 0) := V_a0
  obtain ⟨cl4, Ar4, qa4, Sa4, Na4, Ha4, Ga4⟩ := id Vo4
  have hin4 : ¬ ((0 : Int32) < 0 ∨ cl4.slots.size ≤ ((0 : Int32)).toNatClampNeg) := inb_of Sa4 ⟨by decide, by decide⟩
  refine OwnFin.st (X0.baloadBytes hx (j := (0 : Int32)) (v := (.int y0)) (by rw [e0]; exact Ar4.1) (State.isArrayOf_alike (hZ).alike Ar4.2.1) Ar4.2.2 hin4 (Ha4.at hin4 rfl) (g := (mkF m 17 #[.val (.ref a0), .val (.ref a1), .val (.int 0)] [(.int 0), (.ref a0)])) rfl rfl (hb hby d16_17)) ?_
  show OwnFin _ _ _ _ (s₁.setTop (mkF m 18 _ [(.int y0)]))
  refine OwnFin.st (fun _ q => XS.aloadN X0.here hx rfl (hb hby d16_18) rfl rfl q) ?_
  show OwnFin _ _ _ _ (s₁.setTop (mkF m 19 _ [(.ref a1), (.int y0)]))
  refine OwnFin.st (fun _ q => XS.iloadN X0.here hx rfl (hb hby d16_19) rfl q) ?_
  show OwnFin _ _ _ _ (s₁.setTop (mkF m 20 _ [(.int 0), (.ref a1), (.int y0)]))
  have Vo5 : Arv Z h0 a1 k_a1 .byte (2 : Int32) [(.int x0), (.int x1)] (.int 0) := V_a1
  obtain ⟨cl5, Ar5, qa5, Sa5, Na5, Ha5, Ga5⟩ := id Vo5
  have hin5 : ¬ ((0 : Int32) < 0 ∨ cl5.slots.size ≤ ((0 : Int32)).toNatClampNeg) := inb_of Sa5 ⟨by decide, by decide⟩
  refine OwnFin.st (X0.baloadBytes hx (j := (0 : Int32)) (v := (.int x0)) (by rw [e0]; exact Ar5.1) (State.isArrayOf_alike (hZ).alike Ar5.2.1) Ar5.2.2 hin5 (Ha5.at hin5 rfl) (g := (mkF m 20 #[.val (.ref a0), .val (.ref a1), .val (.int 0)] [(.int 0), (.ref a1), (.int y0)])) rfl rfl (hb hby d16_20)) ?_
  show OwnFin _ _ _ _ (s₁.setTop (mkF m 21 _ [(.int x0), (.int y0)]))
  refine OwnFin.st (fun _ q => XS.icmpYes X0.here hx rfl (pc0 := 21) (pc' := 26) rfl (hb hby d16_21) rfl (Jvm.Free.XT.ii_eq_t hc0) (by decide) (by decide) q) ?_
  show OwnFin _ _ _ _ (s₁.setTop (mkF m 26 _ []))
  refine OwnFin.st (fun _ q => XS.iinc X0.here hx rfl (hb hby d16_26) rfl (l' := #[.val (.ref a0), .val (.ref a1), .val (.int ((0 : Int32) + (1 : Int32)))]) rfl q) ?_
  show OwnFin _ _ _ _ (s₁.setTop (mkF m 29 _ []))
  refine OwnFin.st (fun _ q => XS.goto X0.here hx rfl (pc0 := 29) (pc' := 9) rfl (hb hby d16_29) (by decide) (by decide) q) ?_
  show OwnFin _ _ _ _ (s₁.setTop (mkF m 9 _ []))
  refine OwnFin.st (fun _ q => XS.iloadN X0.here hx rfl (hb hby d16_9) rfl q) ?_
  show OwnFin _ _ _ _ (s₁.setTop (mkF m 10 _ [(.int ((0 : Int32) + (1 : Int32)))]))
  refine OwnFin.st (fun _ q => XS.aloadN X0.here hx rfl (hb hby d16_10) rfl rfl q) ?_
  show OwnFin _ _ _ _ (s₁.setTop (mkF m 11 _ [(.ref a0), (.int ((0 : Int32) + (1 : Int32)))]))
  have Vo6 : Arv Z h0 a0 k_a0 .byte (2 : Int32) [(.int y0), (.int y1)] (.int 0) := V_a0
  obtain ⟨cl6, Ar6, qa6, Sa6, Na6, Ha6, Ga6⟩ := id Vo6
  refine OwnFin.st (X0.arraylength hx (by rw [e0]; exact Ar6.1) (State.isArrayOf_alike (hZ).alike Ar6.2.1) (g := (mkF m 11 #[.val (.ref a0), .val (.ref a1), .val (.int ((0 : Int32) + (1 : Int32)))] [(.ref a0), (.int ((0 : Int32) + (1 : Int32)))])) rfl rfl (hb hby d16_11)) ?_
  rw [len_of Sa6 Na6]
  show OwnFin _ _ _ _ (s₁.setTop (mkF m 12 _ [(.int 2), (.int ((0 : Int32) + (1 : Int32)))]))
  refine OwnFin.st (fun _ q => XS.icmpNo X0.here hx rfl (hb hby d16_12) rfl (Jvm.Free.XT.ii_ge_f (by decide : ((0 : Int32) + (1 : Int32)) < (2 : Int32))) q) ?_
  show OwnFin _ _ _ _ (s₁.setTop (mkF m 15 _ []))
  refine OwnFin.st (fun _ q => XS.aloadN X0.here hx rfl (hb hby d16_15) rfl rfl q) ?_
  show OwnFin _ _ _ _ (s₁.setTop (mkF m 16 _ [(.ref a0)]))
  refine OwnFin.st (fun _ q => XS.iloadN X0.here hx rfl (hb hby d16_16) rfl q) ?_
  show OwnFin _ _ _ _ (s₁.setTop (mkF m 17 #[.val (.ref a0), .val (.ref a1), .val (.int ((0 : Int32) + (1 : Int32)))] [(.int ((0 : Int32) + (1 : Int32))), (.ref a0)]))
  have Vo7 : Arv Z h0 a0 k_a0 .byte (2 : Int32) [(.int y0), (.int y1)] (.int 0) := V_a0
  obtain ⟨cl7, Ar7, qa7, Sa7, Na7, Ha7, Ga7⟩ := id Vo7
  have hin7 : ¬ (((0 : Int32) + (1 : Int32)) < 0 ∨ cl7.slots.size ≤ (((0 : Int32) + (1 : Int32))).toNatClampNeg) := inb_of Sa7 ⟨by decide, by decide⟩
  refine OwnFin.st (X0.baloadBytes hx (j := ((0 : Int32) + (1 : Int32))) (v := (.int y1)) (by rw [e0]; exact Ar7.1) (State.isArrayOf_alike (hZ).alike Ar7.2.1) Ar7.2.2 hin7 (Ha7.at hin7 rfl) (g := (mkF m 17 #[.val (.ref a0), .val (.ref a1), .val (.int ((0 : Int32) + (1 : Int32)))] [(.int ((0 : Int32) + (1 : Int32))), (.ref a0)])) rfl rfl (hb hby d16_17)) ?_
  show OwnFin _ _ _ _ (s₁.setTop (mkF m 18 _ [(.int y1)]))
  refine OwnFin.st (fun _ q => XS.aloadN X0.here hx rfl (hb hby d16_18) rfl rfl q) ?_
  show OwnFin _ _ _ _ (s₁.setTop (mkF m 19 _ [(.ref a1), (.int y1)]))
  refine OwnFin.st (fun _ q => XS.iloadN X0.here hx rfl (hb hby d16_19) rfl q) ?_
  show OwnFin _ _ _ _ (s₁.setTop (mkF m 20 _ [(.int ((0 : Int32) + (1 : Int32))), (.ref a1), (.int y1)]))
  have Vo8 : Arv Z h0 a1 k_a1 .byte (2 : Int32) [(.int x0), (.int x1)] (.int 0) := V_a1
  obtain ⟨cl8, Ar8, qa8, Sa8, Na8, Ha8, Ga8⟩ := id Vo8
  have hin8 : ¬ (((0 : Int32) + (1 : Int32)) < 0 ∨ cl8.slots.size ≤ (((0 : Int32) + (1 : Int32))).toNatClampNeg) := inb_of Sa8 ⟨by decide, by decide⟩
  refine OwnFin.st (X0.baloadBytes hx (j := ((0 : Int32) + (1 : Int32))) (v := (.int x1)) (by rw [e0]; exact Ar8.1) (State.isArrayOf_alike (hZ).alike Ar8.2.1) Ar8.2.2 hin8 (Ha8.at hin8 rfl) (g := (mkF m 20 #[.val (.ref a0), .val (.ref a1), .val (.int ((0 : Int32) + (1 : Int32)))] [(.int ((0 : Int32) + (1 : Int32))), (.ref a1), (.int y1)])) rfl rfl (hb hby d16_20)) ?_
  show OwnFin _ _ _ _ (s₁.setTop (mkF m 21 _ [(.int x1), (.int y1)]))
  refine OwnFin.st (fun _ q => XS.icmpNo X0.here hx rfl (hb hby d16_21) rfl (Jvm.Free.XT.ii_eq_f hc1) q) ?_
  show OwnFin _ _ _ _ (s₁.setTop (mkF m 24 _ []))
  refine OwnFin.st (fun _ q => XS.iconst X0.here hx rfl (hb hby d16_24) q) ?_
  show OwnFin _ _ _ _ (s₁.setTop (mkF m 25 _ [(.int 0)]))
  obtain ⟨fs, hr, hrun, hended, hW, hsame⟩ := X0.leave (v := some (.int 0)) (fun h => by rw [Bd.returns] at h; cases h)
  refine ⟨_, _, retN X0 hx (t := .boolean) Bd.returns (by simp) (hb hby d16_25) hr, hrun, hended, _, _, rfl, ?_, ⟨_, rfl⟩, hW, hsame.mono (by decide) (by decide)⟩
  show Q_rm_le22TF Z a0 a1 k_a0 y0 y1 k_a1 x0 x1 h0 n0 _ s₁.heap _
  rw [e0]
  exact ⟨rfl, N0, rfl⟩
theorem ef_rm_se22TF (m : MethodId) (a0 : Addr) (a1 : Addr) : entryFrame m #[(.ref a0), (.ref a1)] 3 = mkF m 0 #[.val (.ref a0), .val (.ref a1), .unset] [] := by first | (simp [entryFrame, mkF, argsToLocals, Value.category]; done) | rfl
def Q_rm_se22TF (Z : State) (a0 : Addr) (a1 : Addr) (b0 : Addr) (b1 : Addr) (k_b0 : ClassId) (y0 : Int32) (y1 : Int32) (k_b1 : ClassId) (x0 : Int32) (x1 : Int32) (w_COMPACT_STRINGS : Int32) (h0 : Heap) (n0 : Nat) (v : Option Value) (h : Heap) (L : List Loc) : Prop := v = some (.int 0) ∧ Fr n0 L ∧ h = h0
set_option maxRecDepth 65536 in
set_option maxHeartbeats 40000000 in
theorem rm_se22TF (l : Launch) (Z : State) (av0 : Array Value) (hw : ∀ d ∈ tables_1, d.before av0 Z = true) (ws : List Jvm.Cond) (a0 : Addr) (a1 : Addr) (b0 : Addr) (b1 : Addr) (k_b0 : ClassId) (y0 : Int32) (y1 : Int32) (k_b1 : ClassId) (x0 : Int32) (x1 : Int32) (w_COMPACT_STRINGS : Int32) (h0 : Heap) (n0 : Nat) (Z0 : n0 ≤ h0.size) (Ol0 : Old Z n0 h0) (X_a0 : Exa Z h0 a0 "java/lang/String") (F_coder_a0 : Fld Z h0 a0 "java/lang/String" "coder" "B" (.int 0)) (F_value_a0 : Fld Z h0 a0 "java/lang/String" "value" "[B" (.ref b0)) (X_a1 : Exa Z h0 a1 "java/lang/String") (F_coder_a1 : Fld Z h0 a1 "java/lang/String" "coder" "B" (.int 0)) (F_value_a1 : Fld Z h0 a1 "java/lang/String" "value" "[B" (.ref b1)) (V_b0 : Arv Z h0 b0 k_b0 .byte (2 : Int32) [(.int y0), (.int y1)] (.int 0)) (V_b1 : Arv Z h0 b1 k_b1 .byte (2 : Int32) [(.int x0), (.int x1)] (.int 0)) (hc0 : ¬ (a0 = a1)) (S_COMPACT_STRINGS : Sta Z Z.heap "java/lang/String" "COMPACT_STRINGS" "Z" (.int w_COMPACT_STRINGS)) (hc1 : ¬ (w_COMPACT_STRINGS = (0 : Int32))) (hc2 : y0 = x0) (hc3 : ¬ (y1 = x1)) :
    MetFree l yM16 (head1 (Jvm.Cond.code yM16 jdk_42_method_66_code 3 (some .boolean) :: ws) ({ frames := 1, cells := 0, slots := 0, locals := 14 } : Room)) (fun a U => a = #[(.ref a0), (.ref a1)] ∧ Z.Warmed39 U.vm ∧ U.heap = h0) (fun _ _ _ _ _ => True) (fun _ U o U' => ∃ v L, o = .returned v ∧ Q_rm_se22TF Z a0 a1 b0 b1 k_b0 y0 y1 k_b1 x0 x1 w_COMPACT_STRINGS h0 n0 v U'.heap L ∧ FrameEnd U o U' L ({ frames := 1, cells := 0, slots := 0, locals := 14 } : Room).cells ({ frames := 1, cells := 0, slots := 0, locals := 14 } : Room).slots) := by
  refine MetFree.of_bodySF (plainFor_of_name pn_0) hisR ?_
  intro p e s m args below meth c s₁ Bd hml0 hP hK
  obtain ⟨rfl, hZ, hh⟩ := hP
  have hx := Bd.exec
  have hby := Bd.bytes
  have hml : c.maxLocals = 3 := hml0
  have hown : s.vm.findClass "java/lang/String" = some m.cls := findClass_of_methodNamed Bd.named
  have hnm := (name_of_methodNamed Bd.named Bd.method).1
  have X0 : Stand p l e ({ frames := 1, cells := 0, slots := 0, locals := 14 } : Room) s m #[(.ref a0), (.ref a1)] below meth c s₁ [] 0 0 := Stand.of_body Bd
  have e0 : s₁.heap = h0 := by rw [← hh, Bd.state]; rfl
  have N0 := Fr.nil n0
  have pre0 : ∀ t, Steps p.tables e below (s₁.setTop (mkF m 0 #[.val (.ref a0), .val (.ref a1), .unset] [])) t → Steps p.tables e below (s₁.setTop (entryFrame m #[(.ref a0), (.ref a1)] 3)) t := fun t k => castTop (ef_rm_se22TF m a0 a1) k
  change OwnFin p.tables e below _ (s₁.setTop (entryFrame m #[(.ref a0), (.ref a1)] 3))
  have kp0 : Keep h0 h0 [] := Keep.refl _ _
  refine OwnFin.st (fun _ q => pre0 _ q) ?_
  show OwnFin _ _ _ _ (s₁.setTop (mkF m 0 #[.val (.ref a0), .val (.ref a1), .unset] []))
  refine OwnFin.st (fun _ q => XS.aloadN X0.here hx rfl (hb hby d15_0) rfl rfl q) ?_
  show OwnFin _ _ _ _ (s₁.setTop (mkF m 1 _ [(.ref a0)]))
  refine OwnFin.st (fun _ q => XS.aloadN X0.here hx rfl (hb hby d15_1) rfl rfl q) ?_
  show OwnFin _ _ _ _ (s₁.setTop (mkF m 2 _ [(.ref a1), (.ref a0)]))
  refine OwnFin.st (fun _ q => Jvm.RoadKit.acmp (g := (mkF m 2 #[.val (.ref a0), .val (.ref a1), .unset] [(.ref a1), (.ref a0)])) X0 hx rfl rfl rfl (pc0 := 2) (pc' := 7) (same := false) rfl (hb hby d15_2) rfl (decide_eq_false fun q => hc0 (Value.ref.inj q)) (by decide) (by decide) q) ?_
  show OwnFin _ _ _ _ (s₁.setTop (mkF m 7 _ []))
  refine OwnFin.st (fun _ q => XS.aloadN X0.here hx rfl (hb hby d15_7) rfl rfl q) ?_
  show OwnFin _ _ _ _ (s₁.setTop (mkF m 8 _ [(.ref a1)]))
  obtain ⟨T1, X1, e1, st1⟩ := instY X0 hx hZ hown (w_ hw 98 rfl) e0 (Ins.self X_a1) (g := (mkF m 8 #[.val (.ref a0), .val (.ref a1), .unset] [(.ref a1)])) rfl rfl (hb hby d15_8)
  refine OwnFin.st st1 ?_
  show OwnFin _ _ _ _ (T1.setTop (mkF m 11 _ [(.int 1)]))
  refine OwnFin.st (fun _ q => XS.ifNo X1.here hx rfl (hb hby d15_11) rfl (Jvm.Free.XT.i0_eq_f (by decide : ¬ ((1 : Int32) = (0 : Int32)))) q) ?_
  show OwnFin _ _ _ _ (T1.setTop (mkF m 14 _ []))
  refine OwnFin.st (fun _ q => XS.aloadN X1.here hx rfl (hb hby d15_14) rfl rfl q) ?_
  show OwnFin _ _ _ _ (T1.setTop (mkF m 15 _ [(.ref a1)]))
  obtain ⟨T2, X2, e2, st2⟩ := castY X1 hx hZ hown (w_ hw 98 rfl) e1 (Ins.self X_a1) (g := (mkF m 15 #[.val (.ref a0), .val (.ref a1), .unset] [(.ref a1)])) rfl rfl (hb hby d15_15)
  refine OwnFin.st st2 ?_
  show OwnFin _ _ _ _ (T2.setTop (mkF m 18 _ [(.ref a1)]))
  refine OwnFin.st (fun _ q => XS.astoreN X2.here hx rfl (hb hby d15_18) rfl rfl (l' := #[.val (.ref a0), .val (.ref a1), .val (.ref a1)]) rfl q) ?_
  show OwnFin _ _ _ _ (T2.setTop (mkF m 19 _ []))
  obtain ⟨T3, X3, e3, st3⟩ := getS2 X2 hx hZ hown (host := "") (Or.inl (w_ hw 99 rfl)) Via.refl e2 (S_COMPACT_STRINGS.ext Ol0.2) (g := (mkF m 19 #[.val (.ref a0), .val (.ref a1), .val (.ref a1)] [])) rfl (hb hby d15_19)
  refine OwnFin.st st3 ?_
  show OwnFin _ _ _ _ (T3.setTop (mkF m 22 _ [(.int w_COMPACT_STRINGS)]))
  refine OwnFin.st (fun _ q => XS.ifNo X3.here hx rfl (hb hby d15_22) rfl (Jvm.Free.XT.i0_eq_f hc1) q) ?_
  show OwnFin _ _ _ _ (T3.setTop (mkF m 25 _ []))
  refine OwnFin.st (fun _ q => XS.aloadN X3.here hx rfl (hb hby d15_25) rfl rfl q) ?_
  show OwnFin _ _ _ _ (T3.setTop (mkF m 26 _ [(.ref a0)]))
  obtain ⟨T4, X4, e4, st4⟩ := getF X3 hx hZ hown (host := "") (Or.inl (w_ hw 34 rfl)) Via.refl e3 F_coder_a0 (g := (mkF m 26 #[.val (.ref a0), .val (.ref a1), .val (.ref a1)] [(.ref a0)])) rfl rfl (hb hby d15_26)
  refine OwnFin.st st4 ?_
  show OwnFin _ _ _ _ (T4.setTop (mkF m 29 #[.val (.ref a0), .val (.ref a1), .val (.ref a1)] [(.int 0)]))
  refine OwnFin.st (fun _ q => XS.aloadN X4.here hx rfl (hb hby d15_29) rfl rfl q) ?_
  show OwnFin _ _ _ _ (T4.setTop (mkF m 30 _ [(.ref a1), (.int 0)]))
  obtain ⟨T5, X5, e5, st5⟩ := getF X4 hx hZ hown (host := "") (Or.inl (w_ hw 34 rfl)) Via.refl e4 F_coder_a1 (g := (mkF m 30 #[.val (.ref a0), .val (.ref a1), .val (.ref a1)] [(.ref a1), (.int 0)])) rfl rfl (hb hby d15_30)
  refine OwnFin.st st5 ?_
  show OwnFin _ _ _ _ (T5.setTop (mkF m 33 _ [(.int 0), (.int 0)]))
  refine OwnFin.st (fun _ q => XS.icmpNo X5.here hx rfl (hb hby d15_33) rfl (Jvm.Free.XT.ii_ne_f (rfl : (0 : Int32) = (0 : Int32))) q) ?_
  show OwnFin _ _ _ _ (T5.setTop (mkF m 36 _ []))
  refine OwnFin.st (fun _ q => XS.aloadN X5.here hx rfl (hb hby d15_36) rfl rfl q) ?_
  show OwnFin _ _ _ _ (T5.setTop (mkF m 37 _ [(.ref a0)]))
  obtain ⟨T6, X6, e6, st6⟩ := getF X5 hx hZ hown (host := "") (Or.inl (w_ hw 33 rfl)) Via.refl e5 F_value_a0 (g := (mkF m 37 #[.val (.ref a0), .val (.ref a1), .val (.ref a1)] [(.ref a0)])) rfl rfl (hb hby d15_37)
  refine OwnFin.st st6 ?_
  show OwnFin _ _ _ _ (T6.setTop (mkF m 40 _ [(.ref b0)]))
  refine OwnFin.st (fun _ q => XS.aloadN X6.here hx rfl (hb hby d15_40) rfl rfl q) ?_
  show OwnFin _ _ _ _ (T6.setTop (mkF m 41 _ [(.ref a1), (.ref b0)]))
  obtain ⟨T7, X7, e7, st7⟩ := getF X6 hx hZ hown (host := "") (Or.inl (w_ hw 33 rfl)) Via.refl e6 F_value_a1 (g := (mkF m 41 #[.val (.ref a0), .val (.ref a1), .val (.ref a1)] [(.ref a1), (.ref b0)])) rfl rfl (hb hby d15_41)
  refine OwnFin.st st7 ?_
  show OwnFin _ _ _ _ (T7.setTop (mkF m 44 _ [(.ref b1), (.ref b0)]))
  show OwnFin _ _ _ _ (T7.setTop (mkF m 44 _ [(.ref b1), (.ref b0)]))
  show OwnFin _ _ _ _ (T7.setTop (mkF m 44 _ [(.ref b1), (.ref b0)]))
  obtain ⟨_, _, ⟨T8, L8, k8, n8⟩, -, X8, ⟨Lc8, hQ8, l8, y8, z8⟩, st8⟩ := Jvm.LawKit.callS X7 hx (y := yM15) hown (mvT hZ (w_ hw 100 rfl)) (mvT hZ (w_ hw 101 rfl)) (mvT hZ (w_ hw 102 rfl)) (mvT hZ (w_ hw 103 rfl)) (by decide) (backOf (W := 0) (rm_le22TF l Z av0 hw [] b0 b1 k_b0 y0 y1 k_b1 x0 x1 h0 n0 (Nat.le_trans Z0 kp0.1) V_b0 V_b1 hc2 hc3) hZ (w_ hw 103 rfl) (w_ hw 102 rfl) (by decide) (by decide)) (g := (mkF m 44 #[.val (.ref a0), .val (.ref a1), .val (.ref a1)] [(.ref b1), (.ref b0)])) rfl (by rw [hml]; rfl) (argsL := [(.ref b0), (.ref b1)]) (rest := []) (lenOf pd_9 rfl) rfl (by show 2 * 0 + _ ≤ _; exact Nat.le_of_eq rfl) (hb hby d15_44) (fun _ _ => ⟨rfl, e7, (by decide : 0 + 0 ≤ _), (by decide : 0 + 0 ≤ _)⟩)
  dsimp only [Pt.U, Pt.locs, Pt.cells, Pt.slots] at X8 l8 y8 z8 st8 hQ8
  subst l8 y8 z8
  obtain ⟨rfl, N8q, he8⟩ := hQ8
  have N8 := Fr.app N0 N8q
  refine OwnFin.st st8 ?_
  show OwnFin _ _ _ _ (T8.setTop (mkF m 47 _ [(.int 0)]))
  refine OwnFin.st (fun _ q => XS.ifYes X8.here hx rfl (pc0 := 47) (pc' := 54) rfl (hb hby d15_47) rfl (Jvm.Free.XT.i0_eq_t (rfl : (0 : Int32) = (0 : Int32))) (by decide) (by decide) q) ?_
  show OwnFin _ _ _ _ (T8.setTop (mkF m 54 _ []))
  refine OwnFin.st (fun _ q => XS.iconst X8.here hx rfl (hb hby d15_54) q) ?_
  show OwnFin _ _ _ _ (T8.setTop (mkF m 55 _ [(.int 0)]))
  obtain ⟨fs, hr, hrun, hended, hW, hsame⟩ := X8.leave (v := some (.int 0)) (fun h => by rw [Bd.returns] at h; cases h)
  refine ⟨_, _, retN X8 hx (t := .boolean) Bd.returns (by simp) (hb hby d15_55) hr, hrun, hended, _, _, rfl, ?_, ⟨_, rfl⟩, hW, hsame.mono (by decide) (by decide)⟩
  show Q_rm_se22TF Z a0 a1 b0 b1 k_b0 y0 y1 k_b1 x0 x1 w_COMPACT_STRINGS h0 n0 _ T8.heap _
  rw [he8]
  exact ⟨rfl, N8, rfl⟩
theorem ef_rm_le22TT (m : MethodId) (a0 : Addr) (a1 : Addr) : entryFrame m #[(.ref a0), (.ref a1)] 3 = mkF m 0 #[.val (.ref a0), .val (.ref a1), .unset] [] := by first | (simp [entryFrame, mkF, argsToLocals, Value.category]; done) | rfl
def Q_rm_le22TT (Z : State) (a0 : Addr) (a1 : Addr) (k_a0 : ClassId) (y0 : Int32) (y1 : Int32) (k_a1 : ClassId) (x0 : Int32) (x1 : Int32) (h0 : Heap) (n0 : Nat) (v : Option Value) (h : Heap) (L : List Loc) : Prop := v = some (.int 1) ∧ Fr n0 L ∧ h = h0
set_option maxRecDepth 65536 in
set_option maxHeartbeats 40000000 in
theorem rm_le22TT (l : Launch) (Z : State) (av0 : Array Value) (hw : ∀ d ∈ tables_1, d.before av0 Z = true) (ws : List Jvm.Cond) (a0 : Addr) (a1 : Addr) (k_a0 : ClassId) (y0 : Int32) (y1 : Int32) (k_a1 : ClassId) (x0 : Int32) (x1 : Int32) (h0 : Heap) (n0 : Nat) (Z0 : n0 ≤ h0.size) (V_a0 : Arv Z h0 a0 k_a0 .byte (2 : Int32) [(.int y0), (.int y1)] (.int 0)) (V_a1 : Arv Z h0 a1 k_a1 .byte (2 : Int32) [(.int x0), (.int x1)] (.int 0)) (hc0 : y0 = x0) (hc1 : y1 = x1) :
    MetFree l yM15 (head1 (Jvm.Cond.code yM15 jdk_43_method_13_code 3 (some .boolean) :: ws) ({ frames := 0, cells := 0, slots := 0, locals := 0 } : Room)) (fun a U => a = #[(.ref a0), (.ref a1)] ∧ Z.Warmed39 U.vm ∧ U.heap = h0) (fun _ _ _ _ _ => True) (fun _ U o U' => ∃ v L, o = .returned v ∧ Q_rm_le22TT Z a0 a1 k_a0 y0 y1 k_a1 x0 x1 h0 n0 v U'.heap L ∧ FrameEnd U o U' L ({ frames := 0, cells := 0, slots := 0, locals := 0 } : Room).cells ({ frames := 0, cells := 0, slots := 0, locals := 0 } : Room).slots) := by
  refine MetFree.of_bodySF (plainFor_of_name pn_6) hisR ?_
  intro p e s m args below meth c s₁ Bd hml0 hP hK
  obtain ⟨rfl, hZ, hh⟩ := hP
  have hx := Bd.exec
  have hby := Bd.bytes
  have hml : c.maxLocals = 3 := hml0
  have hown : s.vm.findClass "java/lang/StringLatin1" = some m.cls := findClass_of_methodNamed Bd.named
  have hnm := (name_of_methodNamed Bd.named Bd.method).1
  have X0 : Stand p l e ({ frames := 0, cells := 0, slots := 0, locals := 0 } : Room) s m #[(.ref a0), (.ref a1)] below meth c s₁ [] 0 0 := Stand.of_body Bd
  have e0 : s₁.heap = h0 := by rw [← hh, Bd.state]; rfl
  have N0 := Fr.nil n0
  have pre0 : ∀ t, Steps p.tables e below (s₁.setTop (mkF m 0 #[.val (.ref a0), .val (.ref a1), .unset] [])) t → Steps p.tables e below (s₁.setTop (entryFrame m #[(.ref a0), (.ref a1)] 3)) t := fun t k => castTop (ef_rm_le22TT m a0 a1) k
  change OwnFin p.tables e below _ (s₁.setTop (entryFrame m #[(.ref a0), (.ref a1)] 3))
  have kp0 : Keep h0 h0 [] := Keep.refl _ _
  refine OwnFin.st (fun _ q => pre0 _ q) ?_
  show OwnFin _ _ _ _ (s₁.setTop (mkF m 0 #[.val (.ref a0), .val (.ref a1), .unset] []))
  refine OwnFin.st (fun _ q => XS.aloadN X0.here hx rfl (hb hby d16_0) rfl rfl q) ?_
  show OwnFin _ _ _ _ (s₁.setTop (mkF m 1 _ [(.ref a0)]))
  have Vo1 : Arv Z h0 a0 k_a0 .byte (2 : Int32) [(.int y0), (.int y1)] (.int 0) := V_a0
  obtain ⟨cl1, Ar1, qa1, Sa1, Na1, Ha1, Ga1⟩ := id Vo1
  refine OwnFin.st (X0.arraylength hx (by rw [e0]; exact Ar1.1) (State.isArrayOf_alike (hZ).alike Ar1.2.1) (g := (mkF m 1 #[.val (.ref a0), .val (.ref a1), .unset] [(.ref a0)])) rfl rfl (hb hby d16_1)) ?_
  rw [len_of Sa1 Na1]
  show OwnFin _ _ _ _ (s₁.setTop (mkF m 2 _ [(.int 2)]))
  refine OwnFin.st (fun _ q => XS.aloadN X0.here hx rfl (hb hby d16_2) rfl rfl q) ?_
  show OwnFin _ _ _ _ (s₁.setTop (mkF m 3 _ [(.ref a1), (.int 2)]))
  have Vo2 : Arv Z h0 a1 k_a1 .byte (2 : Int32) [(.int x0), (.int x1)] (.int 0) := V_a1
  obtain ⟨cl2, Ar2, qa2, Sa2, Na2, Ha2, Ga2⟩ := id Vo2
  refine OwnFin.st (X0.arraylength hx (by rw [e0]; exact Ar2.1) (State.isArrayOf_alike (hZ).alike Ar2.2.1) (g := (mkF m 3 #[.val (.ref a0), .val (.ref a1), .unset] [(.ref a1), (.int 2)])) rfl rfl (hb hby d16_3)) ?_
  rw [len_of Sa2 Na2]
  show OwnFin _ _ _ _ (s₁.setTop (mkF m 4 _ [(.int 2), (.int 2)]))
  refine OwnFin.st (fun _ q => XS.icmpNo X0.here hx rfl (hb hby d16_4) rfl (Jvm.Free.XT.ii_ne_f (rfl : (2 : Int32) = (2 : Int32))) q) ?_
  show OwnFin _ _ _ _ (s₁.setTop (mkF m 7 _ []))
  refine OwnFin.st (fun _ q => XS.iconst X0.here hx rfl (hb hby d16_7) q) ?_
  show OwnFin _ _ _ _ (s₁.setTop (mkF m 8 _ [(.int 0)]))
  refine OwnFin.st (fun _ q => XS.istoreN X0.here hx rfl (hb hby d16_8) rfl (l' := #[.val (.ref a0), .val (.ref a1), .val (.int 0)]) rfl q) ?_
  show OwnFin _ _ _ _ (s₁.setTop (mkF m 9 _ []))
  refine OwnFin.st (fun _ q => XS.iloadN X0.here hx rfl (hb hby d16_9) rfl q) ?_
  show OwnFin _ _ _ _ (s₁.setTop (mkF m 10 _ [(.int 0)]))
  refine OwnFin.st (fun _ q => XS.aloadN X0.here hx rfl (hb hby d16_10) rfl rfl q) ?_
  show OwnFin _ _ _ _ (s₁.setTop (mkF m 11 _ [(.ref a0), (.int 0)]))
  have Vo3 : Arv Z h0 a0 k_a0 .byte (2 : Int32) [(.int y0), (.int y1)] (.int 0) := V_a0
  obtain ⟨cl3, Ar3, qa3, Sa3, Na3, Ha3, Ga3⟩ := id Vo3
  refine OwnFin.st (X0.arraylength hx (by rw [e0]; exact Ar3.1) (State.isArrayOf_alike (hZ).alike Ar3.2.1) (g := (mkF m 11 #[.val (.ref a0), .val (.ref a1), .val (.int 0)] [(.ref a0), (.int 0)])) rfl rfl (hb hby d16_11)) ?_
  rw [len_of Sa3 Na3]
  show OwnFin _ _ _ _ (s₁.setTop (mkF m 12 _ [(.int 2), (.int 0)]))
  refine OwnFin.st (fun _ q => XS.icmpNo X0.here hx rfl (hb hby d16_12) rfl (Jvm.Free.XT.ii_ge_f (by decide : (0 : Int32) < (2 : Int32))) q) ?_
  show OwnFin _ _ _ _ (s₁.setTop (mkF m 15 _ []))
  refine OwnFin.st (fun _ q => XS.aloadN X0.here hx rfl (hb hby d16_15) rfl rfl q) ?_
  show OwnFin _ _ _ _ (s₁.setTop (mkF m 16 _ [(.ref a0)]))
  refine OwnFin.st (fun _ q => XS.iloadN X0.here hx rfl (hb hby d16_16) rfl q) ?_
  show OwnFin _ _ _ _ (s₁.setTop (mkF m 17 #[.val (.ref a0), .val (.ref a1), .val (.int 0)] [(.int 0), (.ref a0)]))
  have Vo4 : Arv Z h0 a0 k_a0 .byte (2 : Int32) [(.int y0), (.int y1)] (.int 0) := V_a0
  obtain ⟨cl4, Ar4, qa4, Sa4, Na4, Ha4, Ga4⟩ := id Vo4
  have hin4 : ¬ ((0 : Int32) < 0 ∨ cl4.slots.size ≤ ((0 : Int32)).toNatClampNeg) := inb_of Sa4 ⟨by decide, by decide⟩
  refine OwnFin.st (X0.baloadBytes hx (j := (0 : Int32)) (v := (.int y0)) (by rw [e0]; exact Ar4.1) (State.isArrayOf_alike (hZ).alike Ar4.2.1) Ar4.2.2 hin4 (Ha4.at hin4 rfl) (g := (mkF m 17 #[.val (.ref a0), .val (.ref a1), .val (.int 0)] [(.int 0), (.ref a0)])) rfl rfl (hb hby d16_17)) ?_
  show OwnFin _ _ _ _ (s₁.setTop (mkF m 18 _ [(.int y0)]))
  refine OwnFin.st (fun _ q => XS.aloadN X0.here hx rfl (hb hby d16_18) rfl rfl q) ?_
  show OwnFin _ _ _ _ (s₁.setTop (mkF m 19 _ [(.ref a1), (.int y0)]))
  refine OwnFin.st (fun _ q => XS.iloadN X0.here hx rfl (hb hby d16_19) rfl q) ?_
  show OwnFin _ _ _ _ (s₁.setTop (mkF m 20 _ [(.int 0), (.ref a1), (.int y0)]))
  have Vo5 : Arv Z h0 a1 k_a1 .byte (2 : Int32) [(.int x0), (.int x1)] (.int 0) := V_a1
  obtain ⟨cl5, Ar5, qa5, Sa5, Na5, Ha5, Ga5⟩ := id Vo5
  have hin5 : ¬ ((0 : Int32) < 0 ∨ cl5.slots.size ≤ ((0 : Int32)).toNatClampNeg) := inb_of Sa5 ⟨by decide, by decide⟩
  refine OwnFin.st (X0.baloadBytes hx (j := (0 : Int32)) (v := (.int x0)) (by rw [e0]; exact Ar5.1) (State.isArrayOf_alike (hZ).alike Ar5.2.1) Ar5.2.2 hin5 (Ha5.at hin5 rfl) (g := (mkF m 20 #[.val (.ref a0), .val (.ref a1), .val (.int 0)] [(.int 0), (.ref a1), (.int y0)])) rfl rfl (hb hby d16_20)) ?_
  show OwnFin _ _ _ _ (s₁.setTop (mkF m 21 _ [(.int x0), (.int y0)]))
  refine OwnFin.st (fun _ q => XS.icmpYes X0.here hx rfl (pc0 := 21) (pc' := 26) rfl (hb hby d16_21) rfl (Jvm.Free.XT.ii_eq_t hc0) (by decide) (by decide) q) ?_
  show OwnFin _ _ _ _ (s₁.setTop (mkF m 26 _ []))
  refine OwnFin.st (fun _ q => XS.iinc X0.here hx rfl (hb hby d16_26) rfl (l' := #[.val (.ref a0), .val (.ref a1), .val (.int ((0 : Int32) + (1 : Int32)))]) rfl q) ?_
  show OwnFin _ _ _ _ (s₁.setTop (mkF m 29 _ []))
  refine OwnFin.st (fun _ q => XS.goto X0.here hx rfl (pc0 := 29) (pc' := 9) rfl (hb hby d16_29) (by decide) (by decide) q) ?_
  show OwnFin _ _ _ _ (s₁.setTop (mkF m 9 _ []))
  refine OwnFin.st (fun _ q => XS.iloadN X0.here hx rfl (hb hby d16_9) rfl q) ?_
  show OwnFin _ _ _ _ (s₁.setTop (mkF m 10 _ [(.int ((0 : Int32) + (1 : Int32)))]))
  refine OwnFin.st (fun _ q => XS.aloadN X0.here hx rfl (hb hby d16_10) rfl rfl q) ?_
  show OwnFin _ _ _ _ (s₁.setTop (mkF m 11 _ [(.ref a0), (.int ((0 : Int32) + (1 : Int32)))]))
  have Vo6 : Arv Z h0 a0 k_a0 .byte (2 : Int32) [(.int y0), (.int y1)] (.int 0) := V_a0
  obtain ⟨cl6, Ar6, qa6, Sa6, Na6, Ha6, Ga6⟩ := id Vo6
  refine OwnFin.st (X0.arraylength hx (by rw [e0]; exact Ar6.1) (State.isArrayOf_alike (hZ).alike Ar6.2.1) (g := (mkF m 11 #[.val (.ref a0), .val (.ref a1), .val (.int ((0 : Int32) + (1 : Int32)))] [(.ref a0), (.int ((0 : Int32) + (1 : Int32)))])) rfl rfl (hb hby d16_11)) ?_
  rw [len_of Sa6 Na6]
  show OwnFin _ _ _ _ (s₁.setTop (mkF m 12 _ [(.int 2), (.int ((0 : Int32) + (1 : Int32)))]))
  refine OwnFin.st (fun _ q => XS.icmpNo X0.here hx rfl (hb hby d16_12) rfl (Jvm.Free.XT.ii_ge_f (by decide : ((0 : Int32) + (1 : Int32)) < (2 : Int32))) q) ?_
  show OwnFin _ _ _ _ (s₁.setTop (mkF m 15 _ []))
  refine OwnFin.st (fun _ q => XS.aloadN X0.here hx rfl (hb hby d16_15) rfl rfl q) ?_
  show OwnFin _ _ _ _ (s₁.setTop (mkF m 16 _ [(.ref a0)]))
  refine OwnFin.st (fun _ q => XS.iloadN X0.here hx rfl (hb hby d16_16) rfl q) ?_
  show OwnFin _ _ _ _ (s₁.setTop (mkF m 17 #[.val (.ref a0), .val (.ref a1), .val (.int ((0 : Int32) + (1 : Int32)))] [(.int ((0 : Int32) + (1 : Int32))), (.ref a0)]))
  have Vo7 : Arv Z h0 a0 k_a0 .byte (2 : Int32) [(.int y0), (.int y1)] (.int 0) := V_a0
  obtain ⟨cl7, Ar7, qa7, Sa7, Na7, Ha7, Ga7⟩ := id Vo7
  have hin7 : ¬ (((0 : Int32) + (1 : Int32)) < 0 ∨ cl7.slots.size ≤ (((0 : Int32) + (1 : Int32))).toNatClampNeg) := inb_of Sa7 ⟨by decide, by decide⟩
  refine OwnFin.st (X0.baloadBytes hx (j := ((0 : Int32) + (1 : Int32))) (v := (.int y1)) (by rw [e0]; exact Ar7.1) (State.isArrayOf_alike (hZ).alike Ar7.2.1) Ar7.2.2 hin7 (Ha7.at hin7 rfl) (g := (mkF m 17 #[.val (.ref a0), .val (.ref a1), .val (.int ((0 : Int32) + (1 : Int32)))] [(.int ((0 : Int32) + (1 : Int32))), (.ref a0)])) rfl rfl (hb hby d16_17)) ?_
  show OwnFin _ _ _ _ (s₁.setTop (mkF m 18 _ [(.int y1)]))
  refine OwnFin.st (fun _ q => XS.aloadN X0.here hx rfl (hb hby d16_18) rfl rfl q) ?_
  show OwnFin _ _ _ _ (s₁.setTop (mkF m 19 _ [(.ref a1), (.int y1)]))
  refine OwnFin.st (fun _ q => XS.iloadN X0.here hx rfl (hb hby d16_19) rfl q) ?_
  show OwnFin _ _ _ _ (s₁.setTop (mkF m 20 _ [(.int ((0 : Int32) + (1 : Int32))), (.ref a1), (.int y1)]))
  have Vo8 : Arv Z h0 a1 k_a1 .byte (2 : Int32) [(.int x0), (.int x1)] (.int 0) := V_a1
  obtain ⟨cl8, Ar8, qa8, Sa8, Na8, Ha8, Ga8⟩ := id Vo8
  have hin8 : ¬ (((0 : Int32) + (1 : Int32)) < 0 ∨ cl8.slots.size ≤ (((0 : Int32) + (1 : Int32))).toNatClampNeg) := inb_of Sa8 ⟨by decide, by decide⟩
  refine OwnFin.st (X0.baloadBytes hx (j := ((0 : Int32) + (1 : Int32))) (v := (.int x1)) (by rw [e0]; exact Ar8.1) (State.isArrayOf_alike (hZ).alike Ar8.2.1) Ar8.2.2 hin8 (Ha8.at hin8 rfl) (g := (mkF m 20 #[.val (.ref a0), .val (.ref a1), .val (.int ((0 : Int32) + (1 : Int32)))] [(.int ((0 : Int32) + (1 : Int32))), (.ref a1), (.int y1)])) rfl rfl (hb hby d16_20)) ?_
  show OwnFin _ _ _ _ (s₁.setTop (mkF m 21 _ [(.int x1), (.int y1)]))
  refine OwnFin.st (fun _ q => XS.icmpYes X0.here hx rfl (pc0 := 21) (pc' := 26) rfl (hb hby d16_21) rfl (Jvm.Free.XT.ii_eq_t hc1) (by decide) (by decide) q) ?_
  show OwnFin _ _ _ _ (s₁.setTop (mkF m 26 _ []))
  refine OwnFin.st (fun _ q => XS.iinc X0.here hx rfl (hb hby d16_26) rfl (l' := #[.val (.ref a0), .val (.ref a1), .val (.int (((0 : Int32) + (1 : Int32)) + (1 : Int32)))]) rfl q) ?_
  show OwnFin _ _ _ _ (s₁.setTop (mkF m 29 _ []))
  refine OwnFin.st (fun _ q => XS.goto X0.here hx rfl (pc0 := 29) (pc' := 9) rfl (hb hby d16_29) (by decide) (by decide) q) ?_
  show OwnFin _ _ _ _ (s₁.setTop (mkF m 9 _ []))
  refine OwnFin.st (fun _ q => XS.iloadN X0.here hx rfl (hb hby d16_9) rfl q) ?_
  show OwnFin _ _ _ _ (s₁.setTop (mkF m 10 _ [(.int (((0 : Int32) + (1 : Int32)) + (1 : Int32)))]))
  refine OwnFin.st (fun _ q => XS.aloadN X0.here hx rfl (hb hby d16_10) rfl rfl q) ?_
  show OwnFin _ _ _ _ (s₁.setTop (mkF m 11 _ [(.ref a0), (.int (((0 : Int32) + (1 : Int32)) + (1 : Int32)))]))
  have Vo9 : Arv Z h0 a0 k_a0 .byte (2 : Int32) [(.int y0), (.int y1)] (.int 0) := V_a0
  obtain ⟨cl9, Ar9, qa9, Sa9, Na9, Ha9, Ga9⟩ := id Vo9
  refine OwnFin.st (X0.arraylength hx (by rw [e0]; exact Ar9.1) (State.isArrayOf_alike (hZ).alike Ar9.2.1) (g := (mkF m 11 #[.val (.ref a0), .val (.ref a1), .val (.int (((0 : Int32) + (1 : Int32)) + (1 : Int32)))] [(.ref a0), (.int (((0 : Int32) + (1 : Int32)) + (1 : Int32)))])) rfl rfl (hb hby d16_11)) ?_
  rw [len_of Sa9 Na9]
  show OwnFin _ _ _ _ (s₁.setTop (mkF m 12 _ [(.int 2), (.int (((0 : Int32) + (1 : Int32)) + (1 : Int32)))]))
  refine OwnFin.st (fun _ q => XS.icmpYes X0.here hx rfl (pc0 := 12) (pc' := 32) rfl (hb hby d16_12) rfl (Jvm.Free.XT.ii_ge_t (by decide : ¬ ((((0 : Int32) + (1 : Int32)) + (1 : Int32)) < (2 : Int32)))) (by decide) (by decide) q) ?_
  show OwnFin _ _ _ _ (s₁.setTop (mkF m 32 _ []))
  refine OwnFin.st (fun _ q => XS.iconst X0.here hx rfl (hb hby d16_32) q) ?_
  show OwnFin _ _ _ _ (s₁.setTop (mkF m 33 _ [(.int 1)]))
  obtain ⟨fs, hr, hrun, hended, hW, hsame⟩ := X0.leave (v := some (.int 1)) (fun h => by rw [Bd.returns] at h; cases h)
  refine ⟨_, _, retN X0 hx (t := .boolean) Bd.returns (by simp) (hb hby d16_33) hr, hrun, hended, _, _, rfl, ?_, ⟨_, rfl⟩, hW, hsame.mono (by decide) (by decide)⟩
  show Q_rm_le22TT Z a0 a1 k_a0 y0 y1 k_a1 x0 x1 h0 n0 _ s₁.heap _
  rw [e0]
  exact ⟨rfl, N0, rfl⟩
theorem ef_rm_se22TT (m : MethodId) (a0 : Addr) (a1 : Addr) : entryFrame m #[(.ref a0), (.ref a1)] 3 = mkF m 0 #[.val (.ref a0), .val (.ref a1), .unset] [] := by first | (simp [entryFrame, mkF, argsToLocals, Value.category]; done) | rfl
def Q_rm_se22TT (Z : State) (a0 : Addr) (a1 : Addr) (b0 : Addr) (b1 : Addr) (k_b0 : ClassId) (y0 : Int32) (y1 : Int32) (k_b1 : ClassId) (x0 : Int32) (x1 : Int32) (w_COMPACT_STRINGS : Int32) (h0 : Heap) (n0 : Nat) (v : Option Value) (h : Heap) (L : List Loc) : Prop := v = some (.int 1) ∧ Fr n0 L ∧ h = h0
set_option maxRecDepth 65536 in
set_option maxHeartbeats 40000000 in
theorem rm_se22TT (l : Launch) (Z : State) (av0 : Array Value) (hw : ∀ d ∈ tables_1, d.before av0 Z = true) (ws : List Jvm.Cond) (a0 : Addr) (a1 : Addr) (b0 : Addr) (b1 : Addr) (k_b0 : ClassId) (y0 : Int32) (y1 : Int32) (k_b1 : ClassId) (x0 : Int32) (x1 : Int32) (w_COMPACT_STRINGS : Int32) (h0 : Heap) (n0 : Nat) (Z0 : n0 ≤ h0.size) (Ol0 : Old Z n0 h0) (X_a0 : Exa Z h0 a0 "java/lang/String") (F_coder_a0 : Fld Z h0 a0 "java/lang/String" "coder" "B" (.int 0)) (F_value_a0 : Fld Z h0 a0 "java/lang/String" "value" "[B" (.ref b0)) (X_a1 : Exa Z h0 a1 "java/lang/String") (F_coder_a1 : Fld Z h0 a1 "java/lang/String" "coder" "B" (.int 0)) (F_value_a1 : Fld Z h0 a1 "java/lang/String" "value" "[B" (.ref b1)) (V_b0 : Arv Z h0 b0 k_b0 .byte (2 : Int32) [(.int y0), (.int y1)] (.int 0)) (V_b1 : Arv Z h0 b1 k_b1 .byte (2 : Int32) [(.int x0), (.int x1)] (.int 0)) (hc0 : ¬ (a0 = a1)) (S_COMPACT_STRINGS : Sta Z Z.heap "java/lang/String" "COMPACT_STRINGS" "Z" (.int w_COMPACT_STRINGS)) (hc1 : ¬ (w_COMPACT_STRINGS = (0 : Int32))) (hc2 : y0 = x0) (hc3 : y1 = x1) :
    MetFree l yM16 (head1 (Jvm.Cond.code yM16 jdk_42_method_66_code 3 (some .boolean) :: ws) ({ frames := 1, cells := 0, slots := 0, locals := 14 } : Room)) (fun a U => a = #[(.ref a0), (.ref a1)] ∧ Z.Warmed39 U.vm ∧ U.heap = h0) (fun _ _ _ _ _ => True) (fun _ U o U' => ∃ v L, o = .returned v ∧ Q_rm_se22TT Z a0 a1 b0 b1 k_b0 y0 y1 k_b1 x0 x1 w_COMPACT_STRINGS h0 n0 v U'.heap L ∧ FrameEnd U o U' L ({ frames := 1, cells := 0, slots := 0, locals := 14 } : Room).cells ({ frames := 1, cells := 0, slots := 0, locals := 14 } : Room).slots) := by
  refine MetFree.of_bodySF (plainFor_of_name pn_0) hisR ?_
  intro p e s m args below meth c s₁ Bd hml0 hP hK
  obtain ⟨rfl, hZ, hh⟩ := hP
  have hx := Bd.exec
  have hby := Bd.bytes
  have hml : c.maxLocals = 3 := hml0
  have hown : s.vm.findClass "java/lang/String" = some m.cls := findClass_of_methodNamed Bd.named
  have hnm := (name_of_methodNamed Bd.named Bd.method).1
  have X0 : Stand p l e ({ frames := 1, cells := 0, slots := 0, locals := 14 } : Room) s m #[(.ref a0), (.ref a1)] below meth c s₁ [] 0 0 := Stand.of_body Bd
  have e0 : s₁.heap = h0 := by rw [← hh, Bd.state]; rfl
  have N0 := Fr.nil n0
  have pre0 : ∀ t, Steps p.tables e below (s₁.setTop (mkF m 0 #[.val (.ref a0), .val (.ref a1), .unset] [])) t → Steps p.tables e below (s₁.setTop (entryFrame m #[(.ref a0), (.ref a1)] 3)) t := fun t k => castTop (ef_rm_se22TT m a0 a1) k
  change OwnFin p.tables e below _ (s₁.setTop (entryFrame m #[(.ref a0), (.ref a1)] 3))
  have kp0 : Keep h0 h0 [] := Keep.refl _ _
  refine OwnFin.st (fun _ q => pre0 _ q) ?_
  show OwnFin _ _ _ _ (s₁.setTop (mkF m 0 #[.val (.ref a0), .val (.ref a1), .unset] []))
  refine OwnFin.st (fun _ q => XS.aloadN X0.here hx rfl (hb hby d15_0) rfl rfl q) ?_
  show OwnFin _ _ _ _ (s₁.setTop (mkF m 1 _ [(.ref a0)]))
  refine OwnFin.st (fun _ q => XS.aloadN X0.here hx rfl (hb hby d15_1) rfl rfl q) ?_
  show OwnFin _ _ _ _ (s₁.setTop (mkF m 2 _ [(.ref a1), (.ref a0)]))
  refine OwnFin.st (fun _ q => Jvm.RoadKit.acmp (g := (mkF m 2 #[.val (.ref a0), .val (.ref a1), .unset] [(.ref a1), (.ref a0)])) X0 hx rfl rfl rfl (pc0 := 2) (pc' := 7) (same := false) rfl (hb hby d15_2) rfl (decide_eq_false fun q => hc0 (Value.ref.inj q)) (by decide) (by decide) q) ?_
  show OwnFin _ _ _ _ (s₁.setTop (mkF m 7 _ []))
  refine OwnFin.st (fun _ q => XS.aloadN X0.here hx rfl (hb hby d15_7) rfl rfl q) ?_
  show OwnFin _ _ _ _ (s₁.setTop (mkF m 8 _ [(.ref a1)]))
  obtain ⟨T1, X1, e1, st1⟩ := instY X0 hx hZ hown (w_ hw 98 rfl) e0 (Ins.self X_a1) (g := (mkF m 8 #[.val (.ref a0), .val (.ref a1), .unset] [(.ref a1)])) rfl rfl (hb hby d15_8)
  refine OwnFin.st st1 ?_
  show OwnFin _ _ _ _ (T1.setTop (mkF m 11 _ [(.int 1)]))
  refine OwnFin.st (fun _ q => XS.ifNo X1.here hx rfl (hb hby d15_11) rfl (Jvm.Free.XT.i0_eq_f (by decide : ¬ ((1 : Int32) = (0 : Int32)))) q) ?_
  show OwnFin _ _ _ _ (T1.setTop (mkF m 14 _ []))
  refine OwnFin.st (fun _ q => XS.aloadN X1.here hx rfl (hb hby d15_14) rfl rfl q) ?_
  show OwnFin _ _ _ _ (T1.setTop (mkF m 15 _ [(.ref a1)]))
  obtain ⟨T2, X2, e2, st2⟩ := castY X1 hx hZ hown (w_ hw 98 rfl) e1 (Ins.self X_a1) (g := (mkF m 15 #[.val (.ref a0), .val (.ref a1), .unset] [(.ref a1)])) rfl rfl (hb hby d15_15)
  refine OwnFin.st st2 ?_
  show OwnFin _ _ _ _ (T2.setTop (mkF m 18 _ [(.ref a1)]))
  refine OwnFin.st (fun _ q => XS.astoreN X2.here hx rfl (hb hby d15_18) rfl rfl (l' := #[.val (.ref a0), .val (.ref a1), .val (.ref a1)]) rfl q) ?_
  show OwnFin _ _ _ _ (T2.setTop (mkF m 19 _ []))
  obtain ⟨T3, X3, e3, st3⟩ := getS2 X2 hx hZ hown (host := "") (Or.inl (w_ hw 99 rfl)) Via.refl e2 (S_COMPACT_STRINGS.ext Ol0.2) (g := (mkF m 19 #[.val (.ref a0), .val (.ref a1), .val (.ref a1)] [])) rfl (hb hby d15_19)
  refine OwnFin.st st3 ?_
  show OwnFin _ _ _ _ (T3.setTop (mkF m 22 _ [(.int w_COMPACT_STRINGS)]))
  refine OwnFin.st (fun _ q => XS.ifNo X3.here hx rfl (hb hby d15_22) rfl (Jvm.Free.XT.i0_eq_f hc1) q) ?_
  show OwnFin _ _ _ _ (T3.setTop (mkF m 25 _ []))
  refine OwnFin.st (fun _ q => XS.aloadN X3.here hx rfl (hb hby d15_25) rfl rfl q) ?_
  show OwnFin _ _ _ _ (T3.setTop (mkF m 26 _ [(.ref a0)]))
  obtain ⟨T4, X4, e4, st4⟩ := getF X3 hx hZ hown (host := "") (Or.inl (w_ hw 34 rfl)) Via.refl e3 F_coder_a0 (g := (mkF m 26 #[.val (.ref a0), .val (.ref a1), .val (.ref a1)] [(.ref a0)])) rfl rfl (hb hby d15_26)
  refine OwnFin.st st4 ?_
  show OwnFin _ _ _ _ (T4.setTop (mkF m 29 #[.val (.ref a0), .val (.ref a1), .val (.ref a1)] [(.int 0)]))
  refine OwnFin.st (fun _ q => XS.aloadN X4.here hx rfl (hb hby d15_29) rfl rfl q) ?_
  show OwnFin _ _ _ _ (T4.setTop (mkF m 30 _ [(.ref a1), (.int 0)]))
  obtain ⟨T5, X5, e5, st5⟩ := getF X4 hx hZ hown (host := "") (Or.inl (w_ hw 34 rfl)) Via.refl e4 F_coder_a1 (g := (mkF m 30 #[.val (.ref a0), .val (.ref a1), .val (.ref a1)] [(.ref a1), (.int 0)])) rfl rfl (hb hby d15_30)
  refine OwnFin.st st5 ?_
  show OwnFin _ _ _ _ (T5.setTop (mkF m 33 _ [(.int 0), (.int 0)]))
  refine OwnFin.st (fun _ q => XS.icmpNo X5.here hx rfl (hb hby d15_33) rfl (Jvm.Free.XT.ii_ne_f (rfl : (0 : Int32) = (0 : Int32))) q) ?_
  show OwnFin _ _ _ _ (T5.setTop (mkF m 36 _ []))
  refine OwnFin.st (fun _ q => XS.aloadN X5.here hx rfl (hb hby d15_36) rfl rfl q) ?_
  show OwnFin _ _ _ _ (T5.setTop (mkF m 37 _ [(.ref a0)]))
  obtain ⟨T6, X6, e6, st6⟩ := getF X5 hx hZ hown (host := "") (Or.inl (w_ hw 33 rfl)) Via.refl e5 F_value_a0 (g := (mkF m 37 #[.val (.ref a0), .val (.ref a1), .val (.ref a1)] [(.ref a0)])) rfl rfl (hb hby d15_37)
  refine OwnFin.st st6 ?_
  show OwnFin _ _ _ _ (T6.setTop (mkF m 40 _ [(.ref b0)]))
  refine OwnFin.st (fun _ q => XS.aloadN X6.here hx rfl (hb hby d15_40) rfl rfl q) ?_
  show OwnFin _ _ _ _ (T6.setTop (mkF m 41 _ [(.ref a1), (.ref b0)]))
  obtain ⟨T7, X7, e7, st7⟩ := getF X6 hx hZ hown (host := "") (Or.inl (w_ hw 33 rfl)) Via.refl e6 F_value_a1 (g := (mkF m 41 #[.val (.ref a0), .val (.ref a1), .val (.ref a1)] [(.ref a1), (.ref b0)])) rfl rfl (hb hby d15_41)
  refine OwnFin.st st7 ?_
  show OwnFin _ _ _ _ (T7.setTop (mkF m 44 _ [(.ref b1), (.ref b0)]))
  show OwnFin _ _ _ _ (T7.setTop (mkF m 44 _ [(.ref b1), (.ref b0)]))
  show OwnFin _ _ _ _ (T7.setTop (mkF m 44 _ [(.ref b1), (.ref b0)]))
  obtain ⟨_, _, ⟨T8, L8, k8, n8⟩, -, X8, ⟨Lc8, hQ8, l8, y8, z8⟩, st8⟩ := Jvm.LawKit.callS X7 hx (y := yM15) hown (mvT hZ (w_ hw 100 rfl)) (mvT hZ (w_ hw 101 rfl)) (mvT hZ (w_ hw 102 rfl)) (mvT hZ (w_ hw 103 rfl)) (by decide) (backOf (W := 0) (rm_le22TT l Z av0 hw [] b0 b1 k_b0 y0 y1 k_b1 x0 x1 h0 n0 (Nat.le_trans Z0 kp0.1) V_b0 V_b1 hc2 hc3) hZ (w_ hw 103 rfl) (w_ hw 102 rfl) (by decide) (by decide)) (g := (mkF m 44 #[.val (.ref a0), .val (.ref a1), .val (.ref a1)] [(.ref b1), (.ref b0)])) rfl (by rw [hml]; rfl) (argsL := [(.ref b0), (.ref b1)]) (rest := []) (lenOf pd_9 rfl) rfl (by show 2 * 0 + _ ≤ _; exact Nat.le_of_eq rfl) (hb hby d15_44) (fun _ _ => ⟨rfl, e7, (by decide : 0 + 0 ≤ _), (by decide : 0 + 0 ≤ _)⟩)
  dsimp only [Pt.U, Pt.locs, Pt.cells, Pt.slots] at X8 l8 y8 z8 st8 hQ8
  subst l8 y8 z8
  obtain ⟨rfl, N8q, he8⟩ := hQ8
  have N8 := Fr.app N0 N8q
  refine OwnFin.st st8 ?_
  show OwnFin _ _ _ _ (T8.setTop (mkF m 47 _ [(.int 1)]))
  refine OwnFin.st (fun _ q => XS.ifNo X8.here hx rfl (hb hby d15_47) rfl (Jvm.Free.XT.i0_eq_f (by decide : ¬ ((1 : Int32) = (0 : Int32)))) q) ?_
  show OwnFin _ _ _ _ (T8.setTop (mkF m 50 _ []))
  refine OwnFin.st (fun _ q => XS.iconst X8.here hx rfl (hb hby d15_50) q) ?_
  show OwnFin _ _ _ _ (T8.setTop (mkF m 51 _ [(.int 1)]))
  refine OwnFin.st (fun _ q => XS.goto X8.here hx rfl (pc0 := 51) (pc' := 55) rfl (hb hby d15_51) (by decide) (by decide) q) ?_
  show OwnFin _ _ _ _ (T8.setTop (mkF m 55 #[.val (.ref a0), .val (.ref a1), .val (.ref a1)] [(.int 1)]))
  obtain ⟨fs, hr, hrun, hended, hW, hsame⟩ := X8.leave (v := some (.int 1)) (fun h => by rw [Bd.returns] at h; cases h)
  refine ⟨_, _, retN X8 hx (t := .boolean) Bd.returns (by simp) (hb hby d15_55) hr, hrun, hended, _, _, rfl, ?_, ⟨_, rfl⟩, hW, hsame.mono (by decide) (by decide)⟩
  show Q_rm_se22TT Z a0 a1 b0 b1 k_b0 y0 y1 k_b1 x0 x1 w_COMPACT_STRINGS h0 n0 _ T8.heap _
  rw [he8]
  exact ⟨rfl, N8, rfl⟩
def own_eq (n c d n' c' d' : Int32) : Int32 := if n = n' ∧ (n < 1 ∨ c = c') ∧ (n < 2 ∨ d = d') then 1 else 0
theorem own_012 {n : Int32} (h1 : ¬ n < (0 : Int32)) (h2 : ¬ (2 : Int32) < n) : n = 0 ∨ n = 1 ∨ n = 2 := by
  rw [Int32.lt_iff_toInt_lt] at h1 h2
  rw [← Int32.toInt_inj, ← Int32.toInt_inj, ← Int32.toInt_inj]
  have r0 : (0 : Int32).toInt = 0 := rfl
  have r1 : (1 : Int32).toInt = 1 := rfl
  have r2 : (2 : Int32).toInt = 2 := rfl
  omega
def Q_rm_se (Z : State) (n c d n' c' d' : Int32) (h0 : Heap) (n0 : Nat) (v : Option Value) (h : Heap) (L : List Loc) : Prop := v = some (.int (own_eq n c d n' c' d')) ∧ Fr n0 L ∧ h = h0
set_option maxHeartbeats 4000000 in
theorem rm_se (l : Launch) (Z : State) (av0 : Array Value) (hw : ∀ d ∈ tables_1, d.before av0 Z = true) (ws : List Jvm.Cond) (a0 a1 b0 b1 : Addr) (k_b0 k_b1 : ClassId) (n c d n' c' d' w_COMPACT_STRINGS : Int32) (h0 : Heap) (n0 : Nat) (Z0 : n0 ≤ h0.size) (Ol0 : Old Z n0 h0) (X_a0 : Exa Z h0 a0 "java/lang/String") (F_coder_a0 : Fld Z h0 a0 "java/lang/String" "coder" "B" (.int 0)) (F_value_a0 : Fld Z h0 a0 "java/lang/String" "value" "[B" (.ref b0)) (X_a1 : Exa Z h0 a1 "java/lang/String") (F_coder_a1 : Fld Z h0 a1 "java/lang/String" "coder" "B" (.int 0)) (F_value_a1 : Fld Z h0 a1 "java/lang/String" "value" "[B" (.ref b1)) (V_b0 : Arv Z h0 b0 k_b0 .byte n (own_by n c d) (.int 0)) (V_b1 : Arv Z h0 b1 k_b1 .byte n' (own_by n' c' d') (.int 0)) (hc0 : ¬ (a0 = a1)) (S_COMPACT_STRINGS : Sta Z Z.heap "java/lang/String" "COMPACT_STRINGS" "Z" (.int w_COMPACT_STRINGS)) (hc1 : ¬ (w_COMPACT_STRINGS = (0 : Int32))) (n1 : ¬ n < (0 : Int32)) (n2 : ¬ (2 : Int32) < n) (n3 : ¬ n' < (0 : Int32)) (n4 : ¬ (2 : Int32) < n') (c1 : ¬ c < (0 : Int32)) (c2 : ¬ (255 : Int32) < c) (c3 : ¬ c' < (0 : Int32)) (c4 : ¬ (255 : Int32) < c') (d1 : ¬ d < (0 : Int32)) (d2 : ¬ (255 : Int32) < d) (d3 : ¬ d' < (0 : Int32)) (d4 : ¬ (255 : Int32) < d') :
    MetFree l yM16 (head1 (Jvm.Cond.code yM16 jdk_42_method_66_code 3 (some .boolean) :: ws) ({ frames := 1, cells := 0, slots := 0, locals := 14 } : Room)) (fun a U => a = #[(.ref a0), (.ref a1)] ∧ Z.Warmed39 U.vm ∧ U.heap = h0) (fun _ _ _ _ _ => True) (fun _ U o U' => ∃ v L, o = .returned v ∧ Q_rm_se Z n c d n' c' d' h0 n0 v U'.heap L ∧ FrameEnd U o U' L ({ frames := 1, cells := 0, slots := 0, locals := 14 } : Room).cells ({ frames := 1, cells := 0, slots := 0, locals := 14 } : Room).slots) := by
  intro p e ha hcc hk s m args below hf happ hP hK
  rcases own_012 n1 n2 with rfl | rfl | rfl
  · have W0 : Arv Z h0 b0 k_b0 .byte (0 : Int32) [] (.int 0) := by simpa [own_by] using V_b0
    rcases own_012 n3 n4 with rfl | rfl | rfl
    · have W1 : Arv Z h0 b1 k_b1 .byte (0 : Int32) [] (.int 0) := by simpa [own_by] using V_b1
      obtain ⟨nn, o, h1, h2, h3, v, L, e1, ⟨q1, q2, q3⟩, r⟩ := rm_se00 l Z av0 hw ws a0 a1 b0 b1 k_b0 k_b1 w_COMPACT_STRINGS h0 n0 Z0 Ol0 X_a0 F_coder_a0 F_value_a0 X_a1 F_coder_a1 F_value_a1 W0 W1 hc0 S_COMPACT_STRINGS hc1 p e ha hcc hk s m args below hf happ hP hK
      exact ⟨nn, o, h1, h2, h3, v, L, e1, ⟨q1.trans (by simp [own_eq]), q2, q3⟩, r⟩
    · have W1 : Arv Z h0 b1 k_b1 .byte (1 : Int32) [.int c'.toInt8.toInt32] (.int 0) := by simpa [own_by] using V_b1
      obtain ⟨nn, o, h1, h2, h3, v, L, e1, ⟨q1, q2, q3⟩, r⟩ := rm_se01 l Z av0 hw ws a0 a1 b0 b1 k_b0 k_b1 (c'.toInt8.toInt32) w_COMPACT_STRINGS h0 n0 Z0 Ol0 X_a0 F_coder_a0 F_value_a0 X_a1 F_coder_a1 F_value_a1 W0 W1 hc0 S_COMPACT_STRINGS hc1 p e ha hcc hk s m args below hf happ hP hK
      exact ⟨nn, o, h1, h2, h3, v, L, e1, ⟨q1.trans (by simp [own_eq]), q2, q3⟩, r⟩
    · have W1 : Arv Z h0 b1 k_b1 .byte (2 : Int32) [.int c'.toInt8.toInt32, .int d'.toInt8.toInt32] (.int 0) := by simpa [own_by] using V_b1
      obtain ⟨nn, o, h1, h2, h3, v, L, e1, ⟨q1, q2, q3⟩, r⟩ := rm_se02 l Z av0 hw ws a0 a1 b0 b1 k_b0 k_b1 (c'.toInt8.toInt32) (d'.toInt8.toInt32) w_COMPACT_STRINGS h0 n0 Z0 Ol0 X_a0 F_coder_a0 F_value_a0 X_a1 F_coder_a1 F_value_a1 W0 W1 hc0 S_COMPACT_STRINGS hc1 p e ha hcc hk s m args below hf happ hP hK
      exact ⟨nn, o, h1, h2, h3, v, L, e1, ⟨q1.trans (by simp [own_eq]), q2, q3⟩, r⟩
  · have W0 : Arv Z h0 b0 k_b0 .byte (1 : Int32) [.int c.toInt8.toInt32] (.int 0) := by simpa [own_by] using V_b0
    rcases own_012 n3 n4 with rfl | rfl | rfl
    · have W1 : Arv Z h0 b1 k_b1 .byte (0 : Int32) [] (.int 0) := by simpa [own_by] using V_b1
      obtain ⟨nn, o, h1, h2, h3, v, L, e1, ⟨q1, q2, q3⟩, r⟩ := rm_se10 l Z av0 hw ws a0 a1 b0 b1 k_b0 (c.toInt8.toInt32) k_b1 w_COMPACT_STRINGS h0 n0 Z0 Ol0 X_a0 F_coder_a0 F_value_a0 X_a1 F_coder_a1 F_value_a1 W0 W1 hc0 S_COMPACT_STRINGS hc1 p e ha hcc hk s m args below hf happ hP hK
      exact ⟨nn, o, h1, h2, h3, v, L, e1, ⟨q1.trans (by simp [own_eq]), q2, q3⟩, r⟩
    · have W1 : Arv Z h0 b1 k_b1 .byte (1 : Int32) [.int c'.toInt8.toInt32] (.int 0) := by simpa [own_by] using V_b1
      by_cases hcc0 : c = c'
      · obtain ⟨nn, o, h1, h2, h3, v, L, e1, ⟨q1, q2, q3⟩, r⟩ := rm_se11T l Z av0 hw ws a0 a1 b0 b1 k_b0 (c.toInt8.toInt32) k_b1 (c'.toInt8.toInt32) w_COMPACT_STRINGS h0 n0 Z0 Ol0 X_a0 F_coder_a0 F_value_a0 X_a1 F_coder_a1 F_value_a1 W0 W1 hc0 S_COMPACT_STRINGS hc1 (congrArg (fun z : Int32 => z.toInt8.toInt32) hcc0) p e ha hcc hk s m args below hf happ hP hK
        exact ⟨nn, o, h1, h2, h3, v, L, e1, ⟨q1.trans (by simp [own_eq, hcc0]), q2, q3⟩, r⟩
      · obtain ⟨nn, o, h1, h2, h3, v, L, e1, ⟨q1, q2, q3⟩, r⟩ := rm_se11F l Z av0 hw ws a0 a1 b0 b1 k_b0 (c.toInt8.toInt32) k_b1 (c'.toInt8.toInt32) w_COMPACT_STRINGS h0 n0 Z0 Ol0 X_a0 F_coder_a0 F_value_a0 X_a1 F_coder_a1 F_value_a1 W0 W1 hc0 S_COMPACT_STRINGS hc1 (own_i2bne c1 c2 c3 c4 hcc0) p e ha hcc hk s m args below hf happ hP hK
        exact ⟨nn, o, h1, h2, h3, v, L, e1, ⟨q1.trans (by simp [own_eq, hcc0]), q2, q3⟩, r⟩
    · have W1 : Arv Z h0 b1 k_b1 .byte (2 : Int32) [.int c'.toInt8.toInt32, .int d'.toInt8.toInt32] (.int 0) := by simpa [own_by] using V_b1
      obtain ⟨nn, o, h1, h2, h3, v, L, e1, ⟨q1, q2, q3⟩, r⟩ := rm_se12 l Z av0 hw ws a0 a1 b0 b1 k_b0 (c.toInt8.toInt32) k_b1 (c'.toInt8.toInt32) (d'.toInt8.toInt32) w_COMPACT_STRINGS h0 n0 Z0 Ol0 X_a0 F_coder_a0 F_value_a0 X_a1 F_coder_a1 F_value_a1 W0 W1 hc0 S_COMPACT_STRINGS hc1 p e ha hcc hk s m args below hf happ hP hK
      exact ⟨nn, o, h1, h2, h3, v, L, e1, ⟨q1.trans (by simp [own_eq]), q2, q3⟩, r⟩
  · have W0 : Arv Z h0 b0 k_b0 .byte (2 : Int32) [.int c.toInt8.toInt32, .int d.toInt8.toInt32] (.int 0) := by simpa [own_by] using V_b0
    rcases own_012 n3 n4 with rfl | rfl | rfl
    · have W1 : Arv Z h0 b1 k_b1 .byte (0 : Int32) [] (.int 0) := by simpa [own_by] using V_b1
      obtain ⟨nn, o, h1, h2, h3, v, L, e1, ⟨q1, q2, q3⟩, r⟩ := rm_se20 l Z av0 hw ws a0 a1 b0 b1 k_b0 (c.toInt8.toInt32) (d.toInt8.toInt32) k_b1 w_COMPACT_STRINGS h0 n0 Z0 Ol0 X_a0 F_coder_a0 F_value_a0 X_a1 F_coder_a1 F_value_a1 W0 W1 hc0 S_COMPACT_STRINGS hc1 p e ha hcc hk s m args below hf happ hP hK
      exact ⟨nn, o, h1, h2, h3, v, L, e1, ⟨q1.trans (by simp [own_eq]), q2, q3⟩, r⟩
    · have W1 : Arv Z h0 b1 k_b1 .byte (1 : Int32) [.int c'.toInt8.toInt32] (.int 0) := by simpa [own_by] using V_b1
      obtain ⟨nn, o, h1, h2, h3, v, L, e1, ⟨q1, q2, q3⟩, r⟩ := rm_se21 l Z av0 hw ws a0 a1 b0 b1 k_b0 (c.toInt8.toInt32) (d.toInt8.toInt32) k_b1 (c'.toInt8.toInt32) w_COMPACT_STRINGS h0 n0 Z0 Ol0 X_a0 F_coder_a0 F_value_a0 X_a1 F_coder_a1 F_value_a1 W0 W1 hc0 S_COMPACT_STRINGS hc1 p e ha hcc hk s m args below hf happ hP hK
      exact ⟨nn, o, h1, h2, h3, v, L, e1, ⟨q1.trans (by simp [own_eq]), q2, q3⟩, r⟩
    · have W1 : Arv Z h0 b1 k_b1 .byte (2 : Int32) [.int c'.toInt8.toInt32, .int d'.toInt8.toInt32] (.int 0) := by simpa [own_by] using V_b1
      by_cases hcc0 : c = c'
      · by_cases hdd0 : d = d'
        · obtain ⟨nn, o, h1, h2, h3, v, L, e1, ⟨q1, q2, q3⟩, r⟩ := rm_se22TT l Z av0 hw ws a0 a1 b0 b1 k_b0 (c.toInt8.toInt32) (d.toInt8.toInt32) k_b1 (c'.toInt8.toInt32) (d'.toInt8.toInt32) w_COMPACT_STRINGS h0 n0 Z0 Ol0 X_a0 F_coder_a0 F_value_a0 X_a1 F_coder_a1 F_value_a1 W0 W1 hc0 S_COMPACT_STRINGS hc1 (congrArg (fun z : Int32 => z.toInt8.toInt32) hcc0) (congrArg (fun z : Int32 => z.toInt8.toInt32) hdd0) p e ha hcc hk s m args below hf happ hP hK
          exact ⟨nn, o, h1, h2, h3, v, L, e1, ⟨q1.trans (by simp [own_eq, hcc0, hdd0]), q2, q3⟩, r⟩
        · obtain ⟨nn, o, h1, h2, h3, v, L, e1, ⟨q1, q2, q3⟩, r⟩ := rm_se22TF l Z av0 hw ws a0 a1 b0 b1 k_b0 (c.toInt8.toInt32) (d.toInt8.toInt32) k_b1 (c'.toInt8.toInt32) (d'.toInt8.toInt32) w_COMPACT_STRINGS h0 n0 Z0 Ol0 X_a0 F_coder_a0 F_value_a0 X_a1 F_coder_a1 F_value_a1 W0 W1 hc0 S_COMPACT_STRINGS hc1 (congrArg (fun z : Int32 => z.toInt8.toInt32) hcc0) (own_i2bne d1 d2 d3 d4 hdd0) p e ha hcc hk s m args below hf happ hP hK
          exact ⟨nn, o, h1, h2, h3, v, L, e1, ⟨q1.trans (by simp [own_eq, hcc0, hdd0]), q2, q3⟩, r⟩
      · obtain ⟨nn, o, h1, h2, h3, v, L, e1, ⟨q1, q2, q3⟩, r⟩ := rm_se22F l Z av0 hw ws a0 a1 b0 b1 k_b0 (c.toInt8.toInt32) (d.toInt8.toInt32) k_b1 (c'.toInt8.toInt32) (d'.toInt8.toInt32) w_COMPACT_STRINGS h0 n0 Z0 Ol0 X_a0 F_coder_a0 F_value_a0 X_a1 F_coder_a1 F_value_a1 W0 W1 hc0 S_COMPACT_STRINGS hc1 (own_i2bne c1 c2 c3 c4 hcc0) p e ha hcc hk s m args below hf happ hP hK
        exact ⟨nn, o, h1, h2, h3, v, L, e1, ⟨q1.trans (by simp [own_eq, hcc0]), q2, q3⟩, r⟩
theorem pd_10 : parseMethodDescriptor "(Ljava/lang/Object;)Z" = some ⟨[(.object "java/lang/Object")], some .boolean⟩ := by decide +kernel
theorem d14_0 : decode prog_38_method_9_code 0 = .ok (.aload_n 1, 1) := by decide +kernel
theorem d14_1 : decode prog_38_method_9_code 1 = .ok (.instanceof 2, 3) := by decide +kernel
theorem d14_4 : decode prog_38_method_9_code 4 = .ok (.ifCond .eq 11, 3) := by decide +kernel
theorem d14_7 : decode prog_38_method_9_code 7 = .ok (.aload_n 1, 1) := by decide +kernel
theorem d14_8 : decode prog_38_method_9_code 8 = .ok (.checkcast 2, 3) := by decide +kernel
theorem d14_11 : decode prog_38_method_9_code 11 = .ok (.astore_n 2, 1) := by decide +kernel
theorem d14_12 : decode prog_38_method_9_code 12 = .ok (.goto 5, 3) := by decide +kernel
theorem d14_17 : decode prog_38_method_9_code 17 = .ok (.aload_n 0, 1) := by decide +kernel
theorem d14_18 : decode prog_38_method_9_code 18 = .ok (.getfield 22, 3) := by decide +kernel
theorem d14_21 : decode prog_38_method_9_code 21 = .ok (.aload_n 2, 1) := by decide +kernel
theorem d14_22 : decode prog_38_method_9_code 22 = .ok (.getfield 22, 3) := by decide +kernel
theorem d14_25 : decode prog_38_method_9_code 25 = .ok (.invokevirtual 59, 3) := by decide +kernel
theorem d14_28 : decode prog_38_method_9_code 28 = .ok (.ifCond .eq 18, 3) := by decide +kernel
theorem d14_46 : decode prog_38_method_9_code 46 = .ok (.iconst 0, 1) := by decide +kernel
theorem d14_47 : decode prog_38_method_9_code 47 = .ok (.ireturn, 1) := by decide +kernel
theorem ef_rm_feF (m : MethodId) (a0 : Addr) (a1 : Addr) : entryFrame m #[(.ref a0), (.ref a1)] 3 = mkF m 0 #[.val (.ref a0), .val (.ref a1), .unset] [] := by first | (simp [entryFrame, mkF, argsToLocals, Value.category]; done) | rfl
def Q_rm_feF (Z : State) (a0 : Addr) (a1 : Addr) (s0 : Addr) (s1 : Addr) (b0 : Addr) (b1 : Addr) (k_b0 : ClassId) (v0 : Int32) (c0 : Int32) (d0 : Int32) (k_b1 : ClassId) (v1 : Int32) (c1 : Int32) (d1 : Int32) (w_COMPACT_STRINGS : Int32) (h0 : Heap) (n0 : Nat) (v : Option Value) (h : Heap) (L : List Loc) : Prop := v = some (.int 0) ∧ Fr n0 L ∧ h = h0
set_option maxRecDepth 65536 in
set_option maxHeartbeats 40000000 in
theorem rm_feF (l : Launch) (Z : State) (av0 : Array Value) (hw : ∀ d ∈ tables_1, d.before av0 Z = true) (ws : List Jvm.Cond) (a0 : Addr) (a1 : Addr) (s0 : Addr) (s1 : Addr) (b0 : Addr) (b1 : Addr) (k_b0 : ClassId) (v0 : Int32) (c0 : Int32) (d0 : Int32) (k_b1 : ClassId) (v1 : Int32) (c1 : Int32) (d1 : Int32) (w_COMPACT_STRINGS : Int32) (h0 : Heap) (n0 : Nat) (Z0 : n0 ≤ h0.size) (Ol0 : Old Z n0 h0) (X_a1 : Exa Z h0 a1 "com/example/neat_order/neatorder/model/LifecycleFailure") (F_container_a0 : Fld Z h0 a0 "com/example/neat_order/neatorder/model/LifecycleFailure" "container" "Ljava/lang/String;" (.ref s0)) (F_container_a1 : Fld Z h0 a1 "com/example/neat_order/neatorder/model/LifecycleFailure" "container" "Ljava/lang/String;" (.ref s1)) (X_s0 : Exa Z h0 s0 "java/lang/String") (F_coder_s0 : Fld Z h0 s0 "java/lang/String" "coder" "B" (.int 0)) (F_value_s0 : Fld Z h0 s0 "java/lang/String" "value" "[B" (.ref b0)) (X_s1 : Exa Z h0 s1 "java/lang/String") (F_coder_s1 : Fld Z h0 s1 "java/lang/String" "coder" "B" (.int 0)) (F_value_s1 : Fld Z h0 s1 "java/lang/String" "value" "[B" (.ref b1)) (V_b0 : Arv Z h0 b0 k_b0 .byte v0 (own_by v0 c0 d0) (.int 0)) (V_b1 : Arv Z h0 b1 k_b1 .byte v1 (own_by v1 c1 d1) (.int 0)) (hc0 : ¬ (s0 = s1)) (S_COMPACT_STRINGS : Sta Z Z.heap "java/lang/String" "COMPACT_STRINGS" "Z" (.int w_COMPACT_STRINGS)) (hc1 : ¬ (w_COMPACT_STRINGS = (0 : Int32))) (hc2 : ¬ (v0 < (0 : Int32))) (hc3 : ¬ ((2 : Int32) < v0)) (hc4 : ¬ (v1 < (0 : Int32))) (hc5 : ¬ ((2 : Int32) < v1)) (hc6 : ¬ (c0 < (0 : Int32))) (hc7 : ¬ ((255 : Int32) < c0)) (hc8 : ¬ (c1 < (0 : Int32))) (hc9 : ¬ ((255 : Int32) < c1)) (hc10 : ¬ (d0 < (0 : Int32))) (hc11 : ¬ ((255 : Int32) < d0)) (hc12 : ¬ (d1 < (0 : Int32))) (hc13 : ¬ ((255 : Int32) < d1)) (hc14 : (own_eq v0 c0 d0 v1 c1 d1) = (0 : Int32)) :
    MetFree l yM17 (head1 (Jvm.Cond.code yM17 prog_38_method_9_code 3 (some .boolean) :: ws) ({ frames := 2, cells := 0, slots := 0, locals := 28 } : Room)) (fun a U => a = #[(.ref a0), (.ref a1)] ∧ Z.Warmed39 U.vm ∧ U.heap = h0) (fun _ _ _ _ _ => True) (fun _ U o U' => ∃ v L, o = .returned v ∧ Q_rm_feF Z a0 a1 s0 s1 b0 b1 k_b0 v0 c0 d0 k_b1 v1 c1 d1 w_COMPACT_STRINGS h0 n0 v U'.heap L ∧ FrameEnd U o U' L ({ frames := 2, cells := 0, slots := 0, locals := 28 } : Room).cells ({ frames := 2, cells := 0, slots := 0, locals := 28 } : Room).slots) := by
  refine MetFree.of_bodySF (plainFor_of_name pn_5) hisR ?_
  intro p e s m args below meth c s₁ Bd hml0 hP hK
  obtain ⟨rfl, hZ, hh⟩ := hP
  have hx := Bd.exec
  have hby := Bd.bytes
  have hml : c.maxLocals = 3 := hml0
  have hown : s.vm.findClass "com/example/neat_order/neatorder/model/LifecycleFailure" = some m.cls := findClass_of_methodNamed Bd.named
  have hnm := (name_of_methodNamed Bd.named Bd.method).1
  have X0 : Stand p l e ({ frames := 2, cells := 0, slots := 0, locals := 28 } : Room) s m #[(.ref a0), (.ref a1)] below meth c s₁ [] 0 0 := Stand.of_body Bd
  have e0 : s₁.heap = h0 := by rw [← hh, Bd.state]; rfl
  have N0 := Fr.nil n0
  have pre0 : ∀ t, Steps p.tables e below (s₁.setTop (mkF m 0 #[.val (.ref a0), .val (.ref a1), .unset] [])) t → Steps p.tables e below (s₁.setTop (entryFrame m #[(.ref a0), (.ref a1)] 3)) t := fun t k => castTop (ef_rm_feF m a0 a1) k
  change OwnFin p.tables e below _ (s₁.setTop (entryFrame m #[(.ref a0), (.ref a1)] 3))
  have kp0 : Keep h0 h0 [] := Keep.refl _ _
  refine OwnFin.st (fun _ q => pre0 _ q) ?_
  show OwnFin _ _ _ _ (s₁.setTop (mkF m 0 #[.val (.ref a0), .val (.ref a1), .unset] []))
  refine OwnFin.st (fun _ q => XS.aloadN X0.here hx rfl (hb hby d14_0) rfl rfl q) ?_
  show OwnFin _ _ _ _ (s₁.setTop (mkF m 1 _ [(.ref a1)]))
  obtain ⟨T1, X1, e1, st1⟩ := instY X0 hx hZ hown (w_ hw 91 rfl) e0 (Ins.self X_a1) (g := (mkF m 1 #[.val (.ref a0), .val (.ref a1), .unset] [(.ref a1)])) rfl rfl (hb hby d14_1)
  refine OwnFin.st st1 ?_
  show OwnFin _ _ _ _ (T1.setTop (mkF m 4 _ [(.int 1)]))
  refine OwnFin.st (fun _ q => XS.ifNo X1.here hx rfl (hb hby d14_4) rfl (Jvm.Free.XT.i0_eq_f (by decide : ¬ ((1 : Int32) = (0 : Int32)))) q) ?_
  show OwnFin _ _ _ _ (T1.setTop (mkF m 7 _ []))
  refine OwnFin.st (fun _ q => XS.aloadN X1.here hx rfl (hb hby d14_7) rfl rfl q) ?_
  show OwnFin _ _ _ _ (T1.setTop (mkF m 8 _ [(.ref a1)]))
  obtain ⟨T2, X2, e2, st2⟩ := castY X1 hx hZ hown (w_ hw 91 rfl) e1 (Ins.self X_a1) (g := (mkF m 8 #[.val (.ref a0), .val (.ref a1), .unset] [(.ref a1)])) rfl rfl (hb hby d14_8)
  refine OwnFin.st st2 ?_
  show OwnFin _ _ _ _ (T2.setTop (mkF m 11 _ [(.ref a1)]))
  refine OwnFin.st (fun _ q => XS.astoreN X2.here hx rfl (hb hby d14_11) rfl rfl (l' := #[.val (.ref a0), .val (.ref a1), .val (.ref a1)]) rfl q) ?_
  show OwnFin _ _ _ _ (T2.setTop (mkF m 12 _ []))
  refine OwnFin.st (fun _ q => XS.goto X2.here hx rfl (pc0 := 12) (pc' := 17) rfl (hb hby d14_12) (by decide) (by decide) q) ?_
  show OwnFin _ _ _ _ (T2.setTop (mkF m 17 _ []))
  refine OwnFin.st (fun _ q => XS.aloadN X2.here hx rfl (hb hby d14_17) rfl rfl q) ?_
  show OwnFin _ _ _ _ (T2.setTop (mkF m 18 _ [(.ref a0)]))
  obtain ⟨T3, X3, e3, st3⟩ := getF X2 hx hZ hown (host := "") (Or.inl (w_ hw 77 rfl)) Via.refl e2 F_container_a0 (g := (mkF m 18 #[.val (.ref a0), .val (.ref a1), .val (.ref a1)] [(.ref a0)])) rfl rfl (hb hby d14_18)
  refine OwnFin.st st3 ?_
  show OwnFin _ _ _ _ (T3.setTop (mkF m 21 _ [(.ref s0)]))
  refine OwnFin.st (fun _ q => XS.aloadN X3.here hx rfl (hb hby d14_21) rfl rfl q) ?_
  show OwnFin _ _ _ _ (T3.setTop (mkF m 22 _ [(.ref a1), (.ref s0)]))
  obtain ⟨T4, X4, e4, st4⟩ := getF X3 hx hZ hown (host := "") (Or.inl (w_ hw 77 rfl)) Via.refl e3 F_container_a1 (g := (mkF m 22 #[.val (.ref a0), .val (.ref a1), .val (.ref a1)] [(.ref a1), (.ref s0)])) rfl rfl (hb hby d14_22)
  refine OwnFin.st st4 ?_
  show OwnFin _ _ _ _ (T4.setTop (mkF m 25 _ [(.ref s1), (.ref s0)]))
  show OwnFin _ _ _ _ (T4.setTop (mkF m 25 _ [(.ref s1), (.ref s0)]))
  show OwnFin _ _ _ _ (T4.setTop (mkF m 25 #[.val (.ref a0), .val (.ref a1), .val (.ref a1)] [(.ref s1), (.ref s0)]))
  show OwnFin _ _ _ _ (T4.setTop (mkF m 25 _ [(.ref s1), (.ref s0)]))
  show OwnFin _ _ _ _ (T4.setTop (mkF m 25 _ [(.ref s1), (.ref s0)]))
  show OwnFin _ _ _ _ (T4.setTop (mkF m 25 _ [(.ref s1), (.ref s0)]))
  show OwnFin _ _ _ _ (T4.setTop (mkF m 25 _ [(.ref s1), (.ref s0)]))
  show OwnFin _ _ _ _ (T4.setTop (mkF m 25 _ [(.ref s1), (.ref s0)]))
  show OwnFin _ _ _ _ (T4.setTop (mkF m 25 _ [(.ref s1), (.ref s0)]))
  show OwnFin _ _ _ _ (T4.setTop (mkF m 25 _ [(.ref s1), (.ref s0)]))
  show OwnFin _ _ _ _ (T4.setTop (mkF m 25 _ [(.ref s1), (.ref s0)]))
  show OwnFin _ _ _ _ (T4.setTop (mkF m 25 _ [(.ref s1), (.ref s0)]))
  show OwnFin _ _ _ _ (T4.setTop (mkF m 25 _ [(.ref s1), (.ref s0)]))
  show OwnFin _ _ _ _ (T4.setTop (mkF m 25 _ [(.ref s1), (.ref s0)]))
  show OwnFin _ _ _ _ (T4.setTop (mkF m 25 _ [(.ref s1), (.ref s0)]))
  obtain ⟨cq5, kq5, q5a, q5b, q5c⟩ := isOf hZ e4 X_s0
  obtain ⟨_, _, ⟨T5, L5, k5, n5⟩, -, X5, ⟨Lc5, hQ5, l5, y5, z5⟩, st5⟩ := X4.virtualBack hx (y := yM16) (z := yM16) hown (mvT hZ (w_ hw 93 rfl)) (mvT hZ (w_ hw 94 rfl)) (notFace_of_selects (args := #[]) (mvT hZ (w_ hw 96 rfl))) (mvT hZ (w_ hw 96 rfl)) (mvT hZ (w_ hw 95 rfl)) (by decide) (backOf (W := 0) (rm_se l Z av0 hw [] s0 s1 b0 b1 k_b0 k_b1 v0 c0 d0 v1 c1 d1 w_COMPACT_STRINGS h0 n0 (Nat.le_trans Z0 kp0.1) Ol0 X_s0 F_coder_s0 F_value_s0 X_s1 F_coder_s1 F_value_s1 V_b0 V_b1 hc0 S_COMPACT_STRINGS hc1 hc2 hc3 hc4 hc5 hc6 hc7 hc8 hc9 hc10 hc11 hc12 hc13) hZ (w_ hw 97 rfl) (w_ hw 15 rfl) (by decide) (by decide)) q5a q5c (g := (mkF m 25 #[.val (.ref a0), .val (.ref a1), .val (.ref a1)] [(.ref s1), (.ref s0)])) rfl (by rw [hml]; rfl) (Steps.refl _) (argsL := [(.ref s1)]) (rest := []) (lenOf pd_10 rfl) rfl (by show 2 * 0 + _ ≤ _; exact Nat.le_of_eq rfl) (hb hby d14_25) (fun _ _ => ⟨rfl, e4, (by decide : 0 + 0 ≤ _), (by decide : 0 + 0 ≤ _)⟩)
  dsimp only [Pt.U, Pt.locs, Pt.cells, Pt.slots] at X5 l5 y5 z5 st5 hQ5
  subst l5 y5 z5
  obtain ⟨rfl, N5q, he5⟩ := hQ5
  have N5 := Fr.app N0 N5q
  refine OwnFin.tr st5 ?_
  show OwnFin _ _ _ _ (T5.setTop (mkF m 28 #[.val (.ref a0), .val (.ref a1), .val (.ref a1)] [(.int (own_eq v0 c0 d0 v1 c1 d1))]))
  refine OwnFin.st (fun _ q => XS.ifYes X5.here hx rfl (pc0 := 28) (pc' := 46) rfl (hb hby d14_28) rfl (Jvm.Free.XT.i0_eq_t hc14) (by decide) (by decide) q) ?_
  show OwnFin _ _ _ _ (T5.setTop (mkF m 46 _ []))
  refine OwnFin.st (fun _ q => XS.iconst X5.here hx rfl (hb hby d14_46) q) ?_
  show OwnFin _ _ _ _ (T5.setTop (mkF m 47 _ [(.int 0)]))
  obtain ⟨fs, hr, hrun, hended, hW, hsame⟩ := X5.leave (v := some (.int 0)) (fun h => by rw [Bd.returns] at h; cases h)
  refine ⟨_, _, retN X5 hx (t := .boolean) Bd.returns (by simp) (hb hby d14_47) hr, hrun, hended, _, _, rfl, ?_, ⟨_, rfl⟩, hW, hsame.mono (by decide) (by decide)⟩
  show Q_rm_feF Z a0 a1 s0 s1 b0 b1 k_b0 v0 c0 d0 k_b1 v1 c1 d1 w_COMPACT_STRINGS h0 n0 _ T5.heap _
  rw [he5]
  exact ⟨rfl, N5, rfl⟩
theorem d14_31 : decode prog_38_method_9_code 31 = .ok (.aload_n 0, 1) := by decide +kernel
theorem d14_32 : decode prog_38_method_9_code 32 = .ok (.getfield 29, 3) := by decide +kernel
theorem d14_35 : decode prog_38_method_9_code 35 = .ok (.aload_n 2, 1) := by decide +kernel
theorem d14_36 : decode prog_38_method_9_code 36 = .ok (.getfield 29, 3) := by decide +kernel
theorem d14_39 : decode prog_38_method_9_code 39 = .ok (.if_acmp .ne 7, 3) := by decide +kernel
theorem d14_42 : decode prog_38_method_9_code 42 = .ok (.iconst 1, 1) := by decide +kernel
theorem d14_43 : decode prog_38_method_9_code 43 = .ok (.goto 4, 3) := by decide +kernel
theorem ef_rm_feTt (m : MethodId) (a0 : Addr) (a1 : Addr) : entryFrame m #[(.ref a0), (.ref a1)] 3 = mkF m 0 #[.val (.ref a0), .val (.ref a1), .unset] [] := by first | (simp [entryFrame, mkF, argsToLocals, Value.category]; done) | rfl
def Q_rm_feTt (Z : State) (a0 : Addr) (a1 : Addr) (s0 : Addr) (s1 : Addr) (b0 : Addr) (b1 : Addr) (k_b0 : ClassId) (v0 : Int32) (c0 : Int32) (d0 : Int32) (k_b1 : ClassId) (v1 : Int32) (c1 : Int32) (d1 : Int32) (w_COMPACT_STRINGS : Int32) (w_phase_a0 : Addr) (w_phase_a1 : Addr) (h0 : Heap) (n0 : Nat) (v : Option Value) (h : Heap) (L : List Loc) : Prop := v = some (.int 1) ∧ Fr n0 L ∧ h = h0
set_option maxRecDepth 65536 in
set_option maxHeartbeats 40000000 in
theorem rm_feTt (l : Launch) (Z : State) (av0 : Array Value) (hw : ∀ d ∈ tables_1, d.before av0 Z = true) (ws : List Jvm.Cond) (a0 : Addr) (a1 : Addr) (s0 : Addr) (s1 : Addr) (b0 : Addr) (b1 : Addr) (k_b0 : ClassId) (v0 : Int32) (c0 : Int32) (d0 : Int32) (k_b1 : ClassId) (v1 : Int32) (c1 : Int32) (d1 : Int32) (w_COMPACT_STRINGS : Int32) (w_phase_a0 : Addr) (w_phase_a1 : Addr) (h0 : Heap) (n0 : Nat) (Z0 : n0 ≤ h0.size) (Ol0 : Old Z n0 h0) (X_a1 : Exa Z h0 a1 "com/example/neat_order/neatorder/model/LifecycleFailure") (F_container_a0 : Fld Z h0 a0 "com/example/neat_order/neatorder/model/LifecycleFailure" "container" "Ljava/lang/String;" (.ref s0)) (F_container_a1 : Fld Z h0 a1 "com/example/neat_order/neatorder/model/LifecycleFailure" "container" "Ljava/lang/String;" (.ref s1)) (X_s0 : Exa Z h0 s0 "java/lang/String") (F_coder_s0 : Fld Z h0 s0 "java/lang/String" "coder" "B" (.int 0)) (F_value_s0 : Fld Z h0 s0 "java/lang/String" "value" "[B" (.ref b0)) (X_s1 : Exa Z h0 s1 "java/lang/String") (F_coder_s1 : Fld Z h0 s1 "java/lang/String" "coder" "B" (.int 0)) (F_value_s1 : Fld Z h0 s1 "java/lang/String" "value" "[B" (.ref b1)) (V_b0 : Arv Z h0 b0 k_b0 .byte v0 (own_by v0 c0 d0) (.int 0)) (V_b1 : Arv Z h0 b1 k_b1 .byte v1 (own_by v1 c1 d1) (.int 0)) (hc0 : ¬ (s0 = s1)) (S_COMPACT_STRINGS : Sta Z Z.heap "java/lang/String" "COMPACT_STRINGS" "Z" (.int w_COMPACT_STRINGS)) (hc1 : ¬ (w_COMPACT_STRINGS = (0 : Int32))) (hc2 : ¬ (v0 < (0 : Int32))) (hc3 : ¬ ((2 : Int32) < v0)) (hc4 : ¬ (v1 < (0 : Int32))) (hc5 : ¬ ((2 : Int32) < v1)) (hc6 : ¬ (c0 < (0 : Int32))) (hc7 : ¬ ((255 : Int32) < c0)) (hc8 : ¬ (c1 < (0 : Int32))) (hc9 : ¬ ((255 : Int32) < c1)) (hc10 : ¬ (d0 < (0 : Int32))) (hc11 : ¬ ((255 : Int32) < d0)) (hc12 : ¬ (d1 < (0 : Int32))) (hc13 : ¬ ((255 : Int32) < d1)) (hc14 : ¬ ((own_eq v0 c0 d0 v1 c1 d1) = (0 : Int32))) (F_phase_a0 : Fld Z h0 a0 "com/example/neat_order/neatorder/model/LifecycleFailure" "phase" "Lcom/example/neat_order/neatorder/model/LifecycleFailure$Phase;" (.ref w_phase_a0)) (F_phase_a1 : Fld Z h0 a1 "com/example/neat_order/neatorder/model/LifecycleFailure" "phase" "Lcom/example/neat_order/neatorder/model/LifecycleFailure$Phase;" (.ref w_phase_a1)) (hc15 : w_phase_a0 = w_phase_a1) :
    MetFree l yM17 (head1 (Jvm.Cond.code yM17 prog_38_method_9_code 3 (some .boolean) :: ws) ({ frames := 2, cells := 0, slots := 0, locals := 28 } : Room)) (fun a U => a = #[(.ref a0), (.ref a1)] ∧ Z.Warmed39 U.vm ∧ U.heap = h0) (fun _ _ _ _ _ => True) (fun _ U o U' => ∃ v L, o = .returned v ∧ Q_rm_feTt Z a0 a1 s0 s1 b0 b1 k_b0 v0 c0 d0 k_b1 v1 c1 d1 w_COMPACT_STRINGS w_phase_a0 w_phase_a1 h0 n0 v U'.heap L ∧ FrameEnd U o U' L ({ frames := 2, cells := 0, slots := 0, locals := 28 } : Room).cells ({ frames := 2, cells := 0, slots := 0, locals := 28 } : Room).slots) := by
  refine MetFree.of_bodySF (plainFor_of_name pn_5) hisR ?_
  intro p e s m args below meth c s₁ Bd hml0 hP hK
  obtain ⟨rfl, hZ, hh⟩ := hP
  have hx := Bd.exec
  have hby := Bd.bytes
  have hml : c.maxLocals = 3 := hml0
  have hown : s.vm.findClass "com/example/neat_order/neatorder/model/LifecycleFailure" = some m.cls := findClass_of_methodNamed Bd.named
  have hnm := (name_of_methodNamed Bd.named Bd.method).1
  have X0 : Stand p l e ({ frames := 2, cells := 0, slots := 0, locals := 28 } : Room) s m #[(.ref a0), (.ref a1)] below meth c s₁ [] 0 0 := Stand.of_body Bd
  have e0 : s₁.heap = h0 := by rw [← hh, Bd.state]; rfl
  have N0 := Fr.nil n0
  have pre0 : ∀ t, Steps p.tables e below (s₁.setTop (mkF m 0 #[.val (.ref a0), .val (.ref a1), .unset] [])) t → Steps p.tables e below (s₁.setTop (entryFrame m #[(.ref a0), (.ref a1)] 3)) t := fun t k => castTop (ef_rm_feTt m a0 a1) k
  change OwnFin p.tables e below _ (s₁.setTop (entryFrame m #[(.ref a0), (.ref a1)] 3))
  have kp0 : Keep h0 h0 [] := Keep.refl _ _
  refine OwnFin.st (fun _ q => pre0 _ q) ?_
  show OwnFin _ _ _ _ (s₁.setTop (mkF m 0 #[.val (.ref a0), .val (.ref a1), .unset] []))
  refine OwnFin.st (fun _ q => XS.aloadN X0.here hx rfl (hb hby d14_0) rfl rfl q) ?_
  show OwnFin _ _ _ _ (s₁.setTop (mkF m 1 _ [(.ref a1)]))
  obtain ⟨T1, X1, e1, st1⟩ := instY X0 hx hZ hown (w_ hw 91 rfl) e0 (Ins.self X_a1) (g := (mkF m 1 #[.val (.ref a0), .val (.ref a1), .unset] [(.ref a1)])) rfl rfl (hb hby d14_1)
  refine OwnFin.st st1 ?_
  show OwnFin _ _ _ _ (T1.setTop (mkF m 4 _ [(.int 1)]))
  refine OwnFin.st (fun _ q => XS.ifNo X1.here hx rfl (hb hby d14_4) rfl (Jvm.Free.XT.i0_eq_f (by decide : ¬ ((1 : Int32) = (0 : Int32)))) q) ?_
  show OwnFin _ _ _ _ (T1.setTop (mkF m 7 _ []))
  refine OwnFin.st (fun _ q => XS.aloadN X1.here hx rfl (hb hby d14_7) rfl rfl q) ?_
  show OwnFin _ _ _ _ (T1.setTop (mkF m 8 _ [(.ref a1)]))
  obtain ⟨T2, X2, e2, st2⟩ := castY X1 hx hZ hown (w_ hw 91 rfl) e1 (Ins.self X_a1) (g := (mkF m 8 #[.val (.ref a0), .val (.ref a1), .unset] [(.ref a1)])) rfl rfl (hb hby d14_8)
  refine OwnFin.st st2 ?_
  show OwnFin _ _ _ _ (T2.setTop (mkF m 11 _ [(.ref a1)]))
  refine OwnFin.st (fun _ q => XS.astoreN X2.here hx rfl (hb hby d14_11) rfl rfl (l' := #[.val (.ref a0), .val (.ref a1), .val (.ref a1)]) rfl q) ?_
  show OwnFin _ _ _ _ (T2.setTop (mkF m 12 _ []))
  refine OwnFin.st (fun _ q => XS.goto X2.here hx rfl (pc0 := 12) (pc' := 17) rfl (hb hby d14_12) (by decide) (by decide) q) ?_
  show OwnFin _ _ _ _ (T2.setTop (mkF m 17 _ []))
  refine OwnFin.st (fun _ q => XS.aloadN X2.here hx rfl (hb hby d14_17) rfl rfl q) ?_
  show OwnFin _ _ _ _ (T2.setTop (mkF m 18 _ [(.ref a0)]))
  obtain ⟨T3, X3, e3, st3⟩ := getF X2 hx hZ hown (host := "") (Or.inl (w_ hw 77 rfl)) Via.refl e2 F_container_a0 (g := (mkF m 18 #[.val (.ref a0), .val (.ref a1), .val (.ref a1)] [(.ref a0)])) rfl rfl (hb hby d14_18)
  refine OwnFin.st st3 ?_
  show OwnFin _ _ _ _ (T3.setTop (mkF m 21 _ [(.ref s0)]))
  refine OwnFin.st (fun _ q => XS.aloadN X3.here hx rfl (hb hby d14_21) rfl rfl q) ?_
  show OwnFin _ _ _ _ (T3.setTop (mkF m 22 _ [(.ref a1), (.ref s0)]))
  obtain ⟨T4, X4, e4, st4⟩ := getF X3 hx hZ hown (host := "") (Or.inl (w_ hw 77 rfl)) Via.refl e3 F_container_a1 (g := (mkF m 22 #[.val (.ref a0), .val (.ref a1), .val (.ref a1)] [(.ref a1), (.ref s0)])) rfl rfl (hb hby d14_22)
  refine OwnFin.st st4 ?_
  show OwnFin _ _ _ _ (T4.setTop (mkF m 25 _ [(.ref s1), (.ref s0)]))
  show OwnFin _ _ _ _ (T4.setTop (mkF m 25 _ [(.ref s1), (.ref s0)]))
  show OwnFin _ _ _ _ (T4.setTop (mkF m 25 #[.val (.ref a0), .val (.ref a1), .val (.ref a1)] [(.ref s1), (.ref s0)]))
  show OwnFin _ _ _ _ (T4.setTop (mkF m 25 _ [(.ref s1), (.ref s0)]))
  show OwnFin _ _ _ _ (T4.setTop (mkF m 25 _ [(.ref s1), (.ref s0)]))
  show OwnFin _ _ _ _ (T4.setTop (mkF m 25 _ [(.ref s1), (.ref s0)]))
  show OwnFin _ _ _ _ (T4.setTop (mkF m 25 _ [(.ref s1), (.ref s0)]))
  show OwnFin _ _ _ _ (T4.setTop (mkF m 25 _ [(.ref s1), (.ref s0)]))
  show OwnFin _ _ _ _ (T4.setTop (mkF m 25 _ [(.ref s1), (.ref s0)]))
  show OwnFin _ _ _ _ (T4.setTop (mkF m 25 _ [(.ref s1), (.ref s0)]))
  show OwnFin _ _ _ _ (T4.setTop (mkF m 25 _ [(.ref s1), (.ref s0)]))
  show OwnFin _ _ _ _ (T4.setTop (mkF m 25 _ [(.ref s1), (.ref s0)]))
  show OwnFin _ _ _ _ (T4.setTop (mkF m 25 _ [(.ref s1), (.ref s0)]))
  show OwnFin _ _ _ _ (T4.setTop (mkF m 25 _ [(.ref s1), (.ref s0)]))
  show OwnFin _ _ _ _ (T4.setTop (mkF m 25 _ [(.ref s1), (.ref s0)]))
  obtain ⟨cq5, kq5, q5a, q5b, q5c⟩ := isOf hZ e4 X_s0
  obtain ⟨_, _, ⟨T5, L5, k5, n5⟩, -, X5, ⟨Lc5, hQ5, l5, y5, z5⟩, st5⟩ := X4.virtualBack hx (y := yM16) (z := yM16) hown (mvT hZ (w_ hw 93 rfl)) (mvT hZ (w_ hw 94 rfl)) (notFace_of_selects (args := #[]) (mvT hZ (w_ hw 96 rfl))) (mvT hZ (w_ hw 96 rfl)) (mvT hZ (w_ hw 95 rfl)) (by decide) (backOf (W := 0) (rm_se l Z av0 hw [] s0 s1 b0 b1 k_b0 k_b1 v0 c0 d0 v1 c1 d1 w_COMPACT_STRINGS h0 n0 (Nat.le_trans Z0 kp0.1) Ol0 X_s0 F_coder_s0 F_value_s0 X_s1 F_coder_s1 F_value_s1 V_b0 V_b1 hc0 S_COMPACT_STRINGS hc1 hc2 hc3 hc4 hc5 hc6 hc7 hc8 hc9 hc10 hc11 hc12 hc13) hZ (w_ hw 97 rfl) (w_ hw 15 rfl) (by decide) (by decide)) q5a q5c (g := (mkF m 25 #[.val (.ref a0), .val (.ref a1), .val (.ref a1)] [(.ref s1), (.ref s0)])) rfl (by rw [hml]; rfl) (Steps.refl _) (argsL := [(.ref s1)]) (rest := []) (lenOf pd_10 rfl) rfl (by show 2 * 0 + _ ≤ _; exact Nat.le_of_eq rfl) (hb hby d14_25) (fun _ _ => ⟨rfl, e4, (by decide : 0 + 0 ≤ _), (by decide : 0 + 0 ≤ _)⟩)
  dsimp only [Pt.U, Pt.locs, Pt.cells, Pt.slots] at X5 l5 y5 z5 st5 hQ5
  subst l5 y5 z5
  obtain ⟨rfl, N5q, he5⟩ := hQ5
  have N5 := Fr.app N0 N5q
  refine OwnFin.tr st5 ?_
  show OwnFin _ _ _ _ (T5.setTop (mkF m 28 #[.val (.ref a0), .val (.ref a1), .val (.ref a1)] [(.int (own_eq v0 c0 d0 v1 c1 d1))]))
  refine OwnFin.st (fun _ q => XS.ifNo X5.here hx rfl (hb hby d14_28) rfl (Jvm.Free.XT.i0_eq_f hc14) q) ?_
  show OwnFin _ _ _ _ (T5.setTop (mkF m 31 _ []))
  refine OwnFin.st (fun _ q => XS.aloadN X5.here hx rfl (hb hby d14_31) rfl rfl q) ?_
  show OwnFin _ _ _ _ (T5.setTop (mkF m 32 _ [(.ref a0)]))
  obtain ⟨T6, X6, e6, st6⟩ := getF X5 hx hZ hown (host := "") (Or.inl (w_ hw 82 rfl)) Via.refl he5 F_phase_a0 (g := (mkF m 32 #[.val (.ref a0), .val (.ref a1), .val (.ref a1)] [(.ref a0)])) rfl rfl (hb hby d14_32)
  refine OwnFin.st st6 ?_
  show OwnFin _ _ _ _ (T6.setTop (mkF m 35 _ [(.ref w_phase_a0)]))
  refine OwnFin.st (fun _ q => XS.aloadN X6.here hx rfl (hb hby d14_35) rfl rfl q) ?_
  show OwnFin _ _ _ _ (T6.setTop (mkF m 36 _ [(.ref a1), (.ref w_phase_a0)]))
  obtain ⟨T7, X7, e7, st7⟩ := getF X6 hx hZ hown (host := "") (Or.inl (w_ hw 82 rfl)) Via.refl e6 F_phase_a1 (g := (mkF m 36 #[.val (.ref a0), .val (.ref a1), .val (.ref a1)] [(.ref a1), (.ref w_phase_a0)])) rfl rfl (hb hby d14_36)
  refine OwnFin.st st7 ?_
  show OwnFin _ _ _ _ (T7.setTop (mkF m 39 _ [(.ref w_phase_a1), (.ref w_phase_a0)]))
  refine OwnFin.st (fun _ q => Jvm.RoadKit.acmp (g := (mkF m 39 #[.val (.ref a0), .val (.ref a1), .val (.ref a1)] [(.ref w_phase_a1), (.ref w_phase_a0)])) X7 hx rfl rfl rfl (pc0 := 39) (pc' := 42) (same := true) rfl (hb hby d14_39) rfl (decide_eq_true (congrArg Value.ref hc15)) (by decide) (by decide) q) ?_
  show OwnFin _ _ _ _ (T7.setTop (mkF m 42 _ []))
  refine OwnFin.st (fun _ q => XS.iconst X7.here hx rfl (hb hby d14_42) q) ?_
  show OwnFin _ _ _ _ (T7.setTop (mkF m 43 _ [(.int 1)]))
  refine OwnFin.st (fun _ q => XS.goto X7.here hx rfl (pc0 := 43) (pc' := 47) rfl (hb hby d14_43) (by decide) (by decide) q) ?_
  show OwnFin _ _ _ _ (T7.setTop (mkF m 47 _ [(.int 1)]))
  obtain ⟨fs, hr, hrun, hended, hW, hsame⟩ := X7.leave (v := some (.int 1)) (fun h => by rw [Bd.returns] at h; cases h)
  refine ⟨_, _, retN X7 hx (t := .boolean) Bd.returns (by simp) (hb hby d14_47) hr, hrun, hended, _, _, rfl, ?_, ⟨_, rfl⟩, hW, hsame.mono (by decide) (by decide)⟩
  show Q_rm_feTt Z a0 a1 s0 s1 b0 b1 k_b0 v0 c0 d0 k_b1 v1 c1 d1 w_COMPACT_STRINGS w_phase_a0 w_phase_a1 h0 n0 _ T7.heap _
  rw [e7]
  exact ⟨rfl, N5, rfl⟩
theorem ef_rm_feTf (m : MethodId) (a0 : Addr) (a1 : Addr) : entryFrame m #[(.ref a0), (.ref a1)] 3 = mkF m 0 #[.val (.ref a0), .val (.ref a1), .unset] [] := by first | (simp [entryFrame, mkF, argsToLocals, Value.category]; done) | rfl
def Q_rm_feTf (Z : State) (a0 : Addr) (a1 : Addr) (s0 : Addr) (s1 : Addr) (b0 : Addr) (b1 : Addr) (k_b0 : ClassId) (v0 : Int32) (c0 : Int32) (d0 : Int32) (k_b1 : ClassId) (v1 : Int32) (c1 : Int32) (d1 : Int32) (w_COMPACT_STRINGS : Int32) (w_phase_a0 : Addr) (w_phase_a1 : Addr) (h0 : Heap) (n0 : Nat) (v : Option Value) (h : Heap) (L : List Loc) : Prop := v = some (.int 0) ∧ Fr n0 L ∧ h = h0
set_option maxRecDepth 65536 in
set_option maxHeartbeats 40000000 in
theorem rm_feTf (l : Launch) (Z : State) (av0 : Array Value) (hw : ∀ d ∈ tables_1, d.before av0 Z = true) (ws : List Jvm.Cond) (a0 : Addr) (a1 : Addr) (s0 : Addr) (s1 : Addr) (b0 : Addr) (b1 : Addr) (k_b0 : ClassId) (v0 : Int32) (c0 : Int32) (d0 : Int32) (k_b1 : ClassId) (v1 : Int32) (c1 : Int32) (d1 : Int32) (w_COMPACT_STRINGS : Int32) (w_phase_a0 : Addr) (w_phase_a1 : Addr) (h0 : Heap) (n0 : Nat) (Z0 : n0 ≤ h0.size) (Ol0 : Old Z n0 h0) (X_a1 : Exa Z h0 a1 "com/example/neat_order/neatorder/model/LifecycleFailure") (F_container_a0 : Fld Z h0 a0 "com/example/neat_order/neatorder/model/LifecycleFailure" "container" "Ljava/lang/String;" (.ref s0)) (F_container_a1 : Fld Z h0 a1 "com/example/neat_order/neatorder/model/LifecycleFailure" "container" "Ljava/lang/String;" (.ref s1)) (X_s0 : Exa Z h0 s0 "java/lang/String") (F_coder_s0 : Fld Z h0 s0 "java/lang/String" "coder" "B" (.int 0)) (F_value_s0 : Fld Z h0 s0 "java/lang/String" "value" "[B" (.ref b0)) (X_s1 : Exa Z h0 s1 "java/lang/String") (F_coder_s1 : Fld Z h0 s1 "java/lang/String" "coder" "B" (.int 0)) (F_value_s1 : Fld Z h0 s1 "java/lang/String" "value" "[B" (.ref b1)) (V_b0 : Arv Z h0 b0 k_b0 .byte v0 (own_by v0 c0 d0) (.int 0)) (V_b1 : Arv Z h0 b1 k_b1 .byte v1 (own_by v1 c1 d1) (.int 0)) (hc0 : ¬ (s0 = s1)) (S_COMPACT_STRINGS : Sta Z Z.heap "java/lang/String" "COMPACT_STRINGS" "Z" (.int w_COMPACT_STRINGS)) (hc1 : ¬ (w_COMPACT_STRINGS = (0 : Int32))) (hc2 : ¬ (v0 < (0 : Int32))) (hc3 : ¬ ((2 : Int32) < v0)) (hc4 : ¬ (v1 < (0 : Int32))) (hc5 : ¬ ((2 : Int32) < v1)) (hc6 : ¬ (c0 < (0 : Int32))) (hc7 : ¬ ((255 : Int32) < c0)) (hc8 : ¬ (c1 < (0 : Int32))) (hc9 : ¬ ((255 : Int32) < c1)) (hc10 : ¬ (d0 < (0 : Int32))) (hc11 : ¬ ((255 : Int32) < d0)) (hc12 : ¬ (d1 < (0 : Int32))) (hc13 : ¬ ((255 : Int32) < d1)) (hc14 : ¬ ((own_eq v0 c0 d0 v1 c1 d1) = (0 : Int32))) (F_phase_a0 : Fld Z h0 a0 "com/example/neat_order/neatorder/model/LifecycleFailure" "phase" "Lcom/example/neat_order/neatorder/model/LifecycleFailure$Phase;" (.ref w_phase_a0)) (F_phase_a1 : Fld Z h0 a1 "com/example/neat_order/neatorder/model/LifecycleFailure" "phase" "Lcom/example/neat_order/neatorder/model/LifecycleFailure$Phase;" (.ref w_phase_a1)) (hc15 : ¬ (w_phase_a0 = w_phase_a1)) :
    MetFree l yM17 (head1 (Jvm.Cond.code yM17 prog_38_method_9_code 3 (some .boolean) :: ws) ({ frames := 2, cells := 0, slots := 0, locals := 28 } : Room)) (fun a U => a = #[(.ref a0), (.ref a1)] ∧ Z.Warmed39 U.vm ∧ U.heap = h0) (fun _ _ _ _ _ => True) (fun _ U o U' => ∃ v L, o = .returned v ∧ Q_rm_feTf Z a0 a1 s0 s1 b0 b1 k_b0 v0 c0 d0 k_b1 v1 c1 d1 w_COMPACT_STRINGS w_phase_a0 w_phase_a1 h0 n0 v U'.heap L ∧ FrameEnd U o U' L ({ frames := 2, cells := 0, slots := 0, locals := 28 } : Room).cells ({ frames := 2, cells := 0, slots := 0, locals := 28 } : Room).slots) := by
  refine MetFree.of_bodySF (plainFor_of_name pn_5) hisR ?_
  intro p e s m args below meth c s₁ Bd hml0 hP hK
  obtain ⟨rfl, hZ, hh⟩ := hP
  have hx := Bd.exec
  have hby := Bd.bytes
  have hml : c.maxLocals = 3 := hml0
  have hown : s.vm.findClass "com/example/neat_order/neatorder/model/LifecycleFailure" = some m.cls := findClass_of_methodNamed Bd.named
  have hnm := (name_of_methodNamed Bd.named Bd.method).1
  have X0 : Stand p l e ({ frames := 2, cells := 0, slots := 0, locals := 28 } : Room) s m #[(.ref a0), (.ref a1)] below meth c s₁ [] 0 0 := Stand.of_body Bd
  have e0 : s₁.heap = h0 := by rw [← hh, Bd.state]; rfl
  have N0 := Fr.nil n0
  have pre0 : ∀ t, Steps p.tables e below (s₁.setTop (mkF m 0 #[.val (.ref a0), .val (.ref a1), .unset] [])) t → Steps p.tables e below (s₁.setTop (entryFrame m #[(.ref a0), (.ref a1)] 3)) t := fun t k => castTop (ef_rm_feTf m a0 a1) k
  change OwnFin p.tables e below _ (s₁.setTop (entryFrame m #[(.ref a0), (.ref a1)] 3))
  have kp0 : Keep h0 h0 [] := Keep.refl _ _
  refine OwnFin.st (fun _ q => pre0 _ q) ?_
  show OwnFin _ _ _ _ (s₁.setTop (mkF m 0 #[.val (.ref a0), .val (.ref a1), .unset] []))
  refine OwnFin.st (fun _ q => XS.aloadN X0.here hx rfl (hb hby d14_0) rfl rfl q) ?_
  show OwnFin _ _ _ _ (s₁.setTop (mkF m 1 _ [(.ref a1)]))
  obtain ⟨T1, X1, e1, st1⟩ := instY X0 hx hZ hown (w_ hw 91 rfl) e0 (Ins.self X_a1) (g := (mkF m 1 #[.val (.ref a0), .val (.ref a1), .unset] [(.ref a1)])) rfl rfl (hb hby d14_1)
  refine OwnFin.st st1 ?_
  show OwnFin _ _ _ _ (T1.setTop (mkF m 4 _ [(.int 1)]))
  refine OwnFin.st (fun _ q => XS.ifNo X1.here hx rfl (hb hby d14_4) rfl (Jvm.Free.XT.i0_eq_f (by decide : ¬ ((1 : Int32) = (0 : Int32)))) q) ?_
  show OwnFin _ _ _ _ (T1.setTop (mkF m 7 _ []))
  refine OwnFin.st (fun _ q => XS.aloadN X1.here hx rfl (hb hby d14_7) rfl rfl q) ?_
  show OwnFin _ _ _ _ (T1.setTop (mkF m 8 _ [(.ref a1)]))
  obtain ⟨T2, X2, e2, st2⟩ := castY X1 hx hZ hown (w_ hw 91 rfl) e1 (Ins.self X_a1) (g := (mkF m 8 #[.val (.ref a0), .val (.ref a1), .unset] [(.ref a1)])) rfl rfl (hb hby d14_8)
  refine OwnFin.st st2 ?_
  show OwnFin _ _ _ _ (T2.setTop (mkF m 11 _ [(.ref a1)]))
  refine OwnFin.st (fun _ q => XS.astoreN X2.here hx rfl (hb hby d14_11) rfl rfl (l' := #[.val (.ref a0), .val (.ref a1), .val (.ref a1)]) rfl q) ?_
  show OwnFin _ _ _ _ (T2.setTop (mkF m 12 _ []))
  refine OwnFin.st (fun _ q => XS.goto X2.here hx rfl (pc0 := 12) (pc' := 17) rfl (hb hby d14_12) (by decide) (by decide) q) ?_
  show OwnFin _ _ _ _ (T2.setTop (mkF m 17 _ []))
  refine OwnFin.st (fun _ q => XS.aloadN X2.here hx rfl (hb hby d14_17) rfl rfl q) ?_
  show OwnFin _ _ _ _ (T2.setTop (mkF m 18 _ [(.ref a0)]))
  obtain ⟨T3, X3, e3, st3⟩ := getF X2 hx hZ hown (host := "") (Or.inl (w_ hw 77 rfl)) Via.refl e2 F_container_a0 (g := (mkF m 18 #[.val (.ref a0), .val (.ref a1), .val (.ref a1)] [(.ref a0)])) rfl rfl (hb hby d14_18)
  refine OwnFin.st st3 ?_
  show OwnFin _ _ _ _ (T3.setTop (mkF m 21 _ [(.ref s0)]))
  refine OwnFin.st (fun _ q => XS.aloadN X3.here hx rfl (hb hby d14_21) rfl rfl q) ?_
  show OwnFin _ _ _ _ (T3.setTop (mkF m 22 _ [(.ref a1), (.ref s0)]))
  obtain ⟨T4, X4, e4, st4⟩ := getF X3 hx hZ hown (host := "") (Or.inl (w_ hw 77 rfl)) Via.refl e3 F_container_a1 (g := (mkF m 22 #[.val (.ref a0), .val (.ref a1), .val (.ref a1)] [(.ref a1), (.ref s0)])) rfl rfl (hb hby d14_22)
  refine OwnFin.st st4 ?_
  show OwnFin _ _ _ _ (T4.setTop (mkF m 25 _ [(.ref s1), (.ref s0)]))
  show OwnFin _ _ _ _ (T4.setTop (mkF m 25 _ [(.ref s1), (.ref s0)]))
  show OwnFin _ _ _ _ (T4.setTop (mkF m 25 #[.val (.ref a0), .val (.ref a1), .val (.ref a1)] [(.ref s1), (.ref s0)]))
  show OwnFin _ _ _ _ (T4.setTop (mkF m 25 _ [(.ref s1), (.ref s0)]))
  show OwnFin _ _ _ _ (T4.setTop (mkF m 25 _ [(.ref s1), (.ref s0)]))
  show OwnFin _ _ _ _ (T4.setTop (mkF m 25 _ [(.ref s1), (.ref s0)]))
  show OwnFin _ _ _ _ (T4.setTop (mkF m 25 _ [(.ref s1), (.ref s0)]))
  show OwnFin _ _ _ _ (T4.setTop (mkF m 25 _ [(.ref s1), (.ref s0)]))
  show OwnFin _ _ _ _ (T4.setTop (mkF m 25 _ [(.ref s1), (.ref s0)]))
  show OwnFin _ _ _ _ (T4.setTop (mkF m 25 _ [(.ref s1), (.ref s0)]))
  show OwnFin _ _ _ _ (T4.setTop (mkF m 25 _ [(.ref s1), (.ref s0)]))
  show OwnFin _ _ _ _ (T4.setTop (mkF m 25 _ [(.ref s1), (.ref s0)]))
  show OwnFin _ _ _ _ (T4.setTop (mkF m 25 _ [(.ref s1), (.ref s0)]))
  show OwnFin _ _ _ _ (T4.setTop (mkF m 25 _ [(.ref s1), (.ref s0)]))
  show OwnFin _ _ _ _ (T4.setTop (mkF m 25 _ [(.ref s1), (.ref s0)]))
  obtain ⟨cq5, kq5, q5a, q5b, q5c⟩ := isOf hZ e4 X_s0
  obtain ⟨_, _, ⟨T5, L5, k5, n5⟩, -, X5, ⟨Lc5, hQ5, l5, y5, z5⟩, st5⟩ := X4.virtualBack hx (y := yM16) (z := yM16) hown (mvT hZ (w_ hw 93 rfl)) (mvT hZ (w_ hw 94 rfl)) (notFace_of_selects (args := #[]) (mvT hZ (w_ hw 96 rfl))) (mvT hZ (w_ hw 96 rfl)) (mvT hZ (w_ hw 95 rfl)) (by decide) (backOf (W := 0) (rm_se l Z av0 hw [] s0 s1 b0 b1 k_b0 k_b1 v0 c0 d0 v1 c1 d1 w_COMPACT_STRINGS h0 n0 (Nat.le_trans Z0 kp0.1) Ol0 X_s0 F_coder_s0 F_value_s0 X_s1 F_coder_s1 F_value_s1 V_b0 V_b1 hc0 S_COMPACT_STRINGS hc1 hc2 hc3 hc4 hc5 hc6 hc7 hc8 hc9 hc10 hc11 hc12 hc13) hZ (w_ hw 97 rfl) (w_ hw 15 rfl) (by decide) (by decide)) q5a q5c (g := (mkF m 25 #[.val (.ref a0), .val (.ref a1), .val (.ref a1)] [(.ref s1), (.ref s0)])) rfl (by rw [hml]; rfl) (Steps.refl _) (argsL := [(.ref s1)]) (rest := []) (lenOf pd_10 rfl) rfl (by show 2 * 0 + _ ≤ _; exact Nat.le_of_eq rfl) (hb hby d14_25) (fun _ _ => ⟨rfl, e4, (by decide : 0 + 0 ≤ _), (by decide : 0 + 0 ≤ _)⟩)
  dsimp only [Pt.U, Pt.locs, Pt.cells, Pt.slots] at X5 l5 y5 z5 st5 hQ5
  subst l5 y5 z5
  obtain ⟨rfl, N5q, he5⟩ := hQ5
  have N5 := Fr.app N0 N5q
  refine OwnFin.tr st5 ?_
  show OwnFin _ _ _ _ (T5.setTop (mkF m 28 #[.val (.ref a0), .val (.ref a1), .val (.ref a1)] [(.int (own_eq v0 c0 d0 v1 c1 d1))]))
  refine OwnFin.st (fun _ q => XS.ifNo X5.here hx rfl (hb hby d14_28) rfl (Jvm.Free.XT.i0_eq_f hc14) q) ?_
  show OwnFin _ _ _ _ (T5.setTop (mkF m 31 _ []))
  refine OwnFin.st (fun _ q => XS.aloadN X5.here hx rfl (hb hby d14_31) rfl rfl q) ?_
  show OwnFin _ _ _ _ (T5.setTop (mkF m 32 _ [(.ref a0)]))
  obtain ⟨T6, X6, e6, st6⟩ := getF X5 hx hZ hown (host := "") (Or.inl (w_ hw 82 rfl)) Via.refl he5 F_phase_a0 (g := (mkF m 32 #[.val (.ref a0), .val (.ref a1), .val (.ref a1)] [(.ref a0)])) rfl rfl (hb hby d14_32)
  refine OwnFin.st st6 ?_
  show OwnFin _ _ _ _ (T6.setTop (mkF m 35 _ [(.ref w_phase_a0)]))
  refine OwnFin.st (fun _ q => XS.aloadN X6.here hx rfl (hb hby d14_35) rfl rfl q) ?_
  show OwnFin _ _ _ _ (T6.setTop (mkF m 36 _ [(.ref a1), (.ref w_phase_a0)]))
  obtain ⟨T7, X7, e7, st7⟩ := getF X6 hx hZ hown (host := "") (Or.inl (w_ hw 82 rfl)) Via.refl e6 F_phase_a1 (g := (mkF m 36 #[.val (.ref a0), .val (.ref a1), .val (.ref a1)] [(.ref a1), (.ref w_phase_a0)])) rfl rfl (hb hby d14_36)
  refine OwnFin.st st7 ?_
  show OwnFin _ _ _ _ (T7.setTop (mkF m 39 _ [(.ref w_phase_a1), (.ref w_phase_a0)]))
  refine OwnFin.st (fun _ q => Jvm.RoadKit.acmp (g := (mkF m 39 #[.val (.ref a0), .val (.ref a1), .val (.ref a1)] [(.ref w_phase_a1), (.ref w_phase_a0)])) X7 hx rfl rfl rfl (pc0 := 39) (pc' := 46) (same := false) rfl (hb hby d14_39) rfl (decide_eq_false fun q => hc15 (Value.ref.inj q)) (by decide) (by decide) q) ?_
  show OwnFin _ _ _ _ (T7.setTop (mkF m 46 _ []))
  refine OwnFin.st (fun _ q => XS.iconst X7.here hx rfl (hb hby d14_46) q) ?_
  show OwnFin _ _ _ _ (T7.setTop (mkF m 47 _ [(.int 0)]))
  obtain ⟨fs, hr, hrun, hended, hW, hsame⟩ := X7.leave (v := some (.int 0)) (fun h => by rw [Bd.returns] at h; cases h)
  refine ⟨_, _, retN X7 hx (t := .boolean) Bd.returns (by simp) (hb hby d14_47) hr, hrun, hended, _, _, rfl, ?_, ⟨_, rfl⟩, hW, hsame.mono (by decide) (by decide)⟩
  show Q_rm_feTf Z a0 a1 s0 s1 b0 b1 k_b0 v0 c0 d0 k_b1 v1 c1 d1 w_COMPACT_STRINGS w_phase_a0 w_phase_a1 h0 n0 _ T7.heap _
  rw [e7]
  exact ⟨rfl, N5, rfl⟩
theorem d14_15 : decode prog_38_method_9_code 15 = .ok (.iconst 0, 1) := by decide +kernel
theorem d14_16 : decode prog_38_method_9_code 16 = .ok (.ireturn, 1) := by decide +kernel
theorem ef_rm_feN (m : MethodId) (a0 : Addr) : entryFrame m #[(.ref a0), .null] 3 = mkF m 0 #[.val (.ref a0), .val .null, .unset] [] := by first | (simp [entryFrame, mkF, argsToLocals, Value.category]; done) | rfl
def Q_rm_feN (Z : State) (a0 : Addr) (h0 : Heap) (n0 : Nat) (v : Option Value) (h : Heap) (L : List Loc) : Prop := v = some (.int 0) ∧ Fr n0 L ∧ h = h0
set_option maxRecDepth 65536 in
set_option maxHeartbeats 40000000 in
theorem rm_feN (l : Launch) (Z : State) (av0 : Array Value) (hw : ∀ d ∈ tables_1, d.before av0 Z = true) (ws : List Jvm.Cond) (a0 : Addr) (h0 : Heap) (n0 : Nat) (Z0 : n0 ≤ h0.size) :
    MetFree l yM17 (head1 (Jvm.Cond.code yM17 prog_38_method_9_code 3 (some .boolean) :: ws) ({ frames := 0, cells := 0, slots := 0, locals := 0 } : Room)) (fun a U => a = #[(.ref a0), .null] ∧ Z.Warmed39 U.vm ∧ U.heap = h0) (fun _ _ _ _ _ => True) (fun _ U o U' => ∃ v L, o = .returned v ∧ Q_rm_feN Z a0 h0 n0 v U'.heap L ∧ FrameEnd U o U' L ({ frames := 0, cells := 0, slots := 0, locals := 0 } : Room).cells ({ frames := 0, cells := 0, slots := 0, locals := 0 } : Room).slots) := by
  refine MetFree.of_bodySF (plainFor_of_name pn_5) hisR ?_
  intro p e s m args below meth c s₁ Bd hml0 hP hK
  obtain ⟨rfl, hZ, hh⟩ := hP
  have hx := Bd.exec
  have hby := Bd.bytes
  have hml : c.maxLocals = 3 := hml0
  have hown : s.vm.findClass "com/example/neat_order/neatorder/model/LifecycleFailure" = some m.cls := findClass_of_methodNamed Bd.named
  have hnm := (name_of_methodNamed Bd.named Bd.method).1
  have X0 : Stand p l e ({ frames := 0, cells := 0, slots := 0, locals := 0 } : Room) s m #[(.ref a0), .null] below meth c s₁ [] 0 0 := Stand.of_body Bd
  have e0 : s₁.heap = h0 := by rw [← hh, Bd.state]; rfl
  have N0 := Fr.nil n0
  have pre0 : ∀ t, Steps p.tables e below (s₁.setTop (mkF m 0 #[.val (.ref a0), .val .null, .unset] [])) t → Steps p.tables e below (s₁.setTop (entryFrame m #[(.ref a0), .null] 3)) t := fun t k => castTop (ef_rm_feN m a0) k
  change OwnFin p.tables e below _ (s₁.setTop (entryFrame m #[(.ref a0), .null] 3))
  have kp0 : Keep h0 h0 [] := Keep.refl _ _
  refine OwnFin.st (fun _ q => pre0 _ q) ?_
  show OwnFin _ _ _ _ (s₁.setTop (mkF m 0 #[.val (.ref a0), .val .null, .unset] []))
  refine OwnFin.st (fun _ q => XS.aloadN X0.here hx rfl (hb hby d14_0) rfl rfl q) ?_
  show OwnFin _ _ _ _ (s₁.setTop (mkF m 1 _ [.null]))
  refine OwnFin.st (X0.instanceofNull hx (g := (mkF m 1 #[.val (.ref a0), .val .null, .unset] [.null])) rfl rfl (hb hby d14_1)) ?_
  show OwnFin _ _ _ _ (s₁.setTop (mkF m 4 _ [(.int 0)]))
  refine OwnFin.st (fun _ q => XS.ifYes X0.here hx rfl (pc0 := 4) (pc' := 15) rfl (hb hby d14_4) rfl (Jvm.Free.XT.i0_eq_t (rfl : (0 : Int32) = (0 : Int32))) (by decide) (by decide) q) ?_
  show OwnFin _ _ _ _ (s₁.setTop (mkF m 15 _ []))
  refine OwnFin.st (fun _ q => XS.iconst X0.here hx rfl (hb hby d14_15) q) ?_
  show OwnFin _ _ _ _ (s₁.setTop (mkF m 16 _ [(.int 0)]))
  obtain ⟨fs, hr, hrun, hended, hW, hsame⟩ := X0.leave (v := some (.int 0)) (fun h => by rw [Bd.returns] at h; cases h)
  refine ⟨_, _, retN X0 hx (t := .boolean) Bd.returns (by simp) (hb hby d14_16) hr, hrun, hended, _, _, rfl, ?_, ⟨_, rfl⟩, hW, hsame.mono (by decide) (by decide)⟩
  show Q_rm_feN Z a0 h0 n0 _ s₁.heap _
  rw [e0]
  exact ⟨rfl, N0, rfl⟩
theorem ef_rm_feS (m : MethodId) (a0 : Addr) (a1 : Addr) : entryFrame m #[(.ref a0), (.ref a1)] 3 = mkF m 0 #[.val (.ref a0), .val (.ref a1), .unset] [] := by first | (simp [entryFrame, mkF, argsToLocals, Value.category]; done) | rfl
def Q_rm_feS (Z : State) (a0 : Addr) (a1 : Addr) (h0 : Heap) (n0 : Nat) (v : Option Value) (h : Heap) (L : List Loc) : Prop := v = some (.int 0) ∧ Fr n0 L ∧ h = h0
set_option maxRecDepth 65536 in
set_option maxHeartbeats 40000000 in
theorem rm_feS (l : Launch) (Z : State) (av0 : Array Value) (hw : ∀ d ∈ tables_1, d.before av0 Z = true) (ws : List Jvm.Cond) (a0 : Addr) (a1 : Addr) (h0 : Heap) (n0 : Nat) (Z0 : n0 ≤ h0.size) (X_a1 : Exa Z h0 a1 "java/lang/String") :
    MetFree l yM17 (head1 (Jvm.Cond.code yM17 prog_38_method_9_code 3 (some .boolean) :: ws) ({ frames := 0, cells := 0, slots := 0, locals := 0 } : Room)) (fun a U => a = #[(.ref a0), (.ref a1)] ∧ Z.Warmed39 U.vm ∧ U.heap = h0) (fun _ _ _ _ _ => True) (fun _ U o U' => ∃ v L, o = .returned v ∧ Q_rm_feS Z a0 a1 h0 n0 v U'.heap L ∧ FrameEnd U o U' L ({ frames := 0, cells := 0, slots := 0, locals := 0 } : Room).cells ({ frames := 0, cells := 0, slots := 0, locals := 0 } : Room).slots) := by
  refine MetFree.of_bodySF (plainFor_of_name pn_5) hisR ?_
  intro p e s m args below meth c s₁ Bd hml0 hP hK
  obtain ⟨rfl, hZ, hh⟩ := hP
  have hx := Bd.exec
  have hby := Bd.bytes
  have hml : c.maxLocals = 3 := hml0
  have hown : s.vm.findClass "com/example/neat_order/neatorder/model/LifecycleFailure" = some m.cls := findClass_of_methodNamed Bd.named
  have hnm := (name_of_methodNamed Bd.named Bd.method).1
  have X0 : Stand p l e ({ frames := 0, cells := 0, slots := 0, locals := 0 } : Room) s m #[(.ref a0), (.ref a1)] below meth c s₁ [] 0 0 := Stand.of_body Bd
  have e0 : s₁.heap = h0 := by rw [← hh, Bd.state]; rfl
  have N0 := Fr.nil n0
  have pre0 : ∀ t, Steps p.tables e below (s₁.setTop (mkF m 0 #[.val (.ref a0), .val (.ref a1), .unset] [])) t → Steps p.tables e below (s₁.setTop (entryFrame m #[(.ref a0), (.ref a1)] 3)) t := fun t k => castTop (ef_rm_feS m a0 a1) k
  change OwnFin p.tables e below _ (s₁.setTop (entryFrame m #[(.ref a0), (.ref a1)] 3))
  have kp0 : Keep h0 h0 [] := Keep.refl _ _
  refine OwnFin.st (fun _ q => pre0 _ q) ?_
  show OwnFin _ _ _ _ (s₁.setTop (mkF m 0 #[.val (.ref a0), .val (.ref a1), .unset] []))
  refine OwnFin.st (fun _ q => XS.aloadN X0.here hx rfl (hb hby d14_0) rfl rfl q) ?_
  show OwnFin _ _ _ _ (s₁.setTop (mkF m 1 _ [(.ref a1)]))
  obtain ⟨T1, X1, e1, st1⟩ := instNo X0 hx hZ hown (w_ hw 91 rfl) e0 X_a1 (own_notinst (w_ hw 104 rfl) (w_ hw 105 rfl) (w_ hw 65 rfl) (by decide) (by decide)) (g := (mkF m 1 #[.val (.ref a0), .val (.ref a1), .unset] [(.ref a1)])) rfl rfl (hb hby d14_1)
  refine OwnFin.st st1 ?_
  show OwnFin _ _ _ _ (T1.setTop (mkF m 4 _ [(.int 0)]))
  refine OwnFin.st (fun _ q => XS.ifYes X1.here hx rfl (pc0 := 4) (pc' := 15) rfl (hb hby d14_4) rfl (Jvm.Free.XT.i0_eq_t (rfl : (0 : Int32) = (0 : Int32))) (by decide) (by decide) q) ?_
  show OwnFin _ _ _ _ (T1.setTop (mkF m 15 _ []))
  refine OwnFin.st (fun _ q => XS.iconst X1.here hx rfl (hb hby d14_15) q) ?_
  show OwnFin _ _ _ _ (T1.setTop (mkF m 16 _ [(.int 0)]))
  obtain ⟨fs, hr, hrun, hended, hW, hsame⟩ := X1.leave (v := some (.int 0)) (fun h => by rw [Bd.returns] at h; cases h)
  refine ⟨_, _, retN X1 hx (t := .boolean) Bd.returns (by simp) (hb hby d14_16) hr, hrun, hended, _, _, rfl, ?_, ⟨_, rfl⟩, hW, hsame.mono (by decide) (by decide)⟩
  show Q_rm_feS Z a0 a1 h0 n0 _ T1.heap _
  rw [e1]
  exact ⟨rfl, N0, rfl⟩
theorem ef_rm_feC (m : MethodId) (a0 : Addr) (a1 : Addr) : entryFrame m #[(.ref a0), (.ref a1)] 3 = mkF m 0 #[.val (.ref a0), .val (.ref a1), .unset] [] := by first | (simp [entryFrame, mkF, argsToLocals, Value.category]; done) | rfl
def Q_rm_feC (Z : State) (a0 : Addr) (a1 : Addr) (h0 : Heap) (n0 : Nat) (v : Option Value) (h : Heap) (L : List Loc) : Prop := v = some (.int 0) ∧ Fr n0 L ∧ h = h0
set_option maxRecDepth 65536 in
set_option maxHeartbeats 40000000 in
theorem rm_feC (l : Launch) (Z : State) (av0 : Array Value) (hw : ∀ d ∈ tables_1, d.before av0 Z = true) (ws : List Jvm.Cond) (a0 : Addr) (a1 : Addr) (h0 : Heap) (n0 : Nat) (Z0 : n0 ≤ h0.size) (X_a1 : Exa Z h0 a1 "com/example/neat_order/neatorder/model/Cause") :
    MetFree l yM17 (head1 (Jvm.Cond.code yM17 prog_38_method_9_code 3 (some .boolean) :: ws) ({ frames := 0, cells := 0, slots := 0, locals := 0 } : Room)) (fun a U => a = #[(.ref a0), (.ref a1)] ∧ Z.Warmed39 U.vm ∧ U.heap = h0) (fun _ _ _ _ _ => True) (fun _ U o U' => ∃ v L, o = .returned v ∧ Q_rm_feC Z a0 a1 h0 n0 v U'.heap L ∧ FrameEnd U o U' L ({ frames := 0, cells := 0, slots := 0, locals := 0 } : Room).cells ({ frames := 0, cells := 0, slots := 0, locals := 0 } : Room).slots) := by
  refine MetFree.of_bodySF (plainFor_of_name pn_5) hisR ?_
  intro p e s m args below meth c s₁ Bd hml0 hP hK
  obtain ⟨rfl, hZ, hh⟩ := hP
  have hx := Bd.exec
  have hby := Bd.bytes
  have hml : c.maxLocals = 3 := hml0
  have hown : s.vm.findClass "com/example/neat_order/neatorder/model/LifecycleFailure" = some m.cls := findClass_of_methodNamed Bd.named
  have hnm := (name_of_methodNamed Bd.named Bd.method).1
  have X0 : Stand p l e ({ frames := 0, cells := 0, slots := 0, locals := 0 } : Room) s m #[(.ref a0), (.ref a1)] below meth c s₁ [] 0 0 := Stand.of_body Bd
  have e0 : s₁.heap = h0 := by rw [← hh, Bd.state]; rfl
  have N0 := Fr.nil n0
  have pre0 : ∀ t, Steps p.tables e below (s₁.setTop (mkF m 0 #[.val (.ref a0), .val (.ref a1), .unset] [])) t → Steps p.tables e below (s₁.setTop (entryFrame m #[(.ref a0), (.ref a1)] 3)) t := fun t k => castTop (ef_rm_feC m a0 a1) k
  change OwnFin p.tables e below _ (s₁.setTop (entryFrame m #[(.ref a0), (.ref a1)] 3))
  have kp0 : Keep h0 h0 [] := Keep.refl _ _
  refine OwnFin.st (fun _ q => pre0 _ q) ?_
  show OwnFin _ _ _ _ (s₁.setTop (mkF m 0 #[.val (.ref a0), .val (.ref a1), .unset] []))
  refine OwnFin.st (fun _ q => XS.aloadN X0.here hx rfl (hb hby d14_0) rfl rfl q) ?_
  show OwnFin _ _ _ _ (s₁.setTop (mkF m 1 _ [(.ref a1)]))
  obtain ⟨T1, X1, e1, st1⟩ := instNo X0 hx hZ hown (w_ hw 91 rfl) e0 X_a1 (own_notinst (w_ hw 116 rfl) (w_ hw 105 rfl) (w_ hw 65 rfl) (by decide) (by decide)) (g := (mkF m 1 #[.val (.ref a0), .val (.ref a1), .unset] [(.ref a1)])) rfl rfl (hb hby d14_1)
  refine OwnFin.st st1 ?_
  show OwnFin _ _ _ _ (T1.setTop (mkF m 4 _ [(.int 0)]))
  refine OwnFin.st (fun _ q => XS.ifYes X1.here hx rfl (pc0 := 4) (pc' := 15) rfl (hb hby d14_4) rfl (Jvm.Free.XT.i0_eq_t (rfl : (0 : Int32) = (0 : Int32))) (by decide) (by decide) q) ?_
  show OwnFin _ _ _ _ (T1.setTop (mkF m 15 _ []))
  refine OwnFin.st (fun _ q => XS.iconst X1.here hx rfl (hb hby d14_15) q) ?_
  show OwnFin _ _ _ _ (T1.setTop (mkF m 16 _ [(.int 0)]))
  obtain ⟨fs, hr, hrun, hended, hW, hsame⟩ := X1.leave (v := some (.int 0)) (fun h => by rw [Bd.returns] at h; cases h)
  refine ⟨_, _, retN X1 hx (t := .boolean) Bd.returns (by simp) (hb hby d14_16) hr, hrun, hended, _, _, rfl, ?_, ⟨_, rfl⟩, hW, hsame.mono (by decide) (by decide)⟩
  show Q_rm_feC Z a0 a1 h0 n0 _ T1.heap _
  rw [e1]
  exact ⟨rfl, N0, rfl⟩
theorem pd_11 : parseMethodDescriptor "(I)I" = some ⟨[.int], some .int⟩ := by decide +kernel
theorem pd_12 : parseMethodDescriptor "(I)C" = some ⟨[.int], some .char⟩ := by decide +kernel
theorem pd_13 : parseMethodDescriptor "(ICC)Ljava/lang/String;" = some ⟨[.int, .char, .char], some (.object "java/lang/String")⟩ := by decide +kernel
theorem pd_14 : parseMethodDescriptor "(Ljava/lang/String;)Lcom/example/neat_order/neatorder/model/Cause;" = some ⟨[(.object "java/lang/String")], some (.object "com/example/neat_order/neatorder/model/Cause")⟩ := by decide +kernel
theorem pd_15 : parseMethodDescriptor "(Ljava/lang/String;Lcom/example/neat_order/neatorder/model/LifecycleFailure$Phase;Lcom/example/neat_order/neatorder/model/Cause;)V" = some ⟨[(.object "java/lang/String"), (.object "com/example/neat_order/neatorder/model/LifecycleFailure$Phase"), (.object "com/example/neat_order/neatorder/model/Cause")], none⟩ := by decide +kernel
theorem ef_rm0 (m : MethodId) (p0 : Int32) (p1 : Int32) (p2 : Int32) (p3 : Int32) (p4 : Int32) : entryFrame m #[(.int p0), (.int p1), (.int p2), (.int p3), (.int p4)] maxLocals = mkF m 0 #[.val (.int p0), .val (.int p1), .val (.int p2), .val (.int p3), .val (.int p4), .unset, .unset, .unset, .unset, .unset, .unset, .unset, .unset, .unset, .unset, .unset, .unset, .unset, .unset, .unset, .unset, .unset, .unset, .unset, .unset, .unset, .unset, .unset] [] := by first | (simp [entryFrame, mkF, argsToLocals, Value.category, maxLocals]; done) | rfl
def Q_rm0 (Z : State) (p0 : Int32) (p1 : Int32) (p2 : Int32) (p3 : Int32) (p4 : Int32) (w_TEAR_DOWN : Addr) (w_SET_UP : Addr) (w_COMPACT_STRINGS : Int32) (h0 : Heap) (n0 : Nat) (v : Option Value) (h : Heap) (L : List Loc) : Prop := v = some (.int 1) ∧ Fr n0 L
set_option maxHeartbeats 4000000 in
theorem om_rm0_0 (p0 : Int32) : ¬ (((((p0.toUInt32 >>> ((16 : Int32) &&& 31).toUInt32).toInt32) &&& (255 : Int32)) % (3 : Int32)) < (0 : Int32)) := by
  have om1 := rng32 ((((p0.toUInt32 >>> ((16 : Int32) &&& 31).toUInt32).toInt32) &&& (255 : Int32)) % (3 : Int32))
  have om2 := c_irem (((p0.toUInt32 >>> ((16 : Int32) &&& 31).toUInt32).toInt32) &&& (255 : Int32)) (3 : Int32) 3 (by decide +kernel)
  have om3 := rng32 (((p0.toUInt32 >>> ((16 : Int32) &&& 31).toUInt32).toInt32) &&& (255 : Int32))
  have om4 := c_mask ((p0.toUInt32 >>> ((16 : Int32) &&& 31).toUInt32).toInt32) (255 : Int32) 8 (by decide +kernel) (by decide +kernel)
  have om5 := rng32 ((p0.toUInt32 >>> ((16 : Int32) &&& 31).toUInt32).toInt32)
  have om6 := c_iushr p0 (16 : Int32) 16 (by decide +kernel) (by decide +kernel)
  have om7 := rng32 p0
  have om8 := rng32 (16 : Int32)
  have om8l : (16 : Int32).toInt = 16 := by decide +kernel
  have om9 := rng32 (255 : Int32)
  have om9l : (255 : Int32).toInt = 255 := by decide +kernel
  have om10 := rng32 (3 : Int32)
  have om10l : (3 : Int32).toInt = 3 := by decide +kernel
  have om11 := rng32 (0 : Int32)
  have om11l : (0 : Int32).toInt = 0 := by decide +kernel
  rw [Int32.lt_iff_toInt_lt]
  generalize ((((p0.toUInt32 >>> ((16 : Int32) &&& 31).toUInt32).toInt32) &&& (255 : Int32)) % (3 : Int32)).toInt = gx0 at *
  generalize (((p0.toUInt32 >>> ((16 : Int32) &&& 31).toUInt32).toInt32) &&& (255 : Int32)).toInt = gx1 at *
  generalize ((p0.toUInt32 >>> ((16 : Int32) &&& 31).toUInt32).toInt32).toInt = gx2 at *
  generalize (255 : Int32).toInt = gx3 at *
  generalize (16 : Int32).toInt = gx4 at *
  generalize (3 : Int32).toInt = gx5 at *
  generalize (0 : Int32).toInt = gx6 at *
  generalize p0.toInt = gx7 at *
  omega
set_option maxHeartbeats 4000000 in
theorem om_rm0_1 (p0 : Int32) : ¬ ((2 : Int32) < ((((p0.toUInt32 >>> ((16 : Int32) &&& 31).toUInt32).toInt32) &&& (255 : Int32)) % (3 : Int32))) := by
  have om1 := rng32 (2 : Int32)
  have om1l : (2 : Int32).toInt = 2 := by decide +kernel
  have om2 := rng32 ((((p0.toUInt32 >>> ((16 : Int32) &&& 31).toUInt32).toInt32) &&& (255 : Int32)) % (3 : Int32))
  have om3 := c_irem (((p0.toUInt32 >>> ((16 : Int32) &&& 31).toUInt32).toInt32) &&& (255 : Int32)) (3 : Int32) 3 (by decide +kernel)
  have om4 := rng32 (((p0.toUInt32 >>> ((16 : Int32) &&& 31).toUInt32).toInt32) &&& (255 : Int32))
  have om5 := c_mask ((p0.toUInt32 >>> ((16 : Int32) &&& 31).toUInt32).toInt32) (255 : Int32) 8 (by decide +kernel) (by decide +kernel)
  have om6 := rng32 ((p0.toUInt32 >>> ((16 : Int32) &&& 31).toUInt32).toInt32)
  have om7 := c_iushr p0 (16 : Int32) 16 (by decide +kernel) (by decide +kernel)
  have om8 := rng32 p0
  have om9 := rng32 (16 : Int32)
  have om9l : (16 : Int32).toInt = 16 := by decide +kernel
  have om10 := rng32 (255 : Int32)
  have om10l : (255 : Int32).toInt = 255 := by decide +kernel
  have om11 := rng32 (3 : Int32)
  have om11l : (3 : Int32).toInt = 3 := by decide +kernel
  rw [Int32.lt_iff_toInt_lt]
  generalize ((((p0.toUInt32 >>> ((16 : Int32) &&& 31).toUInt32).toInt32) &&& (255 : Int32)) % (3 : Int32)).toInt = gx0 at *
  generalize (((p0.toUInt32 >>> ((16 : Int32) &&& 31).toUInt32).toInt32) &&& (255 : Int32)).toInt = gx1 at *
  generalize ((p0.toUInt32 >>> ((16 : Int32) &&& 31).toUInt32).toInt32).toInt = gx2 at *
  generalize (255 : Int32).toInt = gx3 at *
  generalize (16 : Int32).toInt = gx4 at *
  generalize (2 : Int32).toInt = gx5 at *
  generalize (3 : Int32).toInt = gx6 at *
  generalize p0.toInt = gx7 at *
  omega
set_option maxHeartbeats 4000000 in
theorem om_rm0_2 (y1_0 : Int32) : ¬ (((((y1_0.toUInt32 >>> ((16 : Int32) &&& 31).toUInt32).toInt32) &&& (255 : Int32)) % (3 : Int32)) < (0 : Int32)) := by
  have om1 := rng32 ((((y1_0.toUInt32 >>> ((16 : Int32) &&& 31).toUInt32).toInt32) &&& (255 : Int32)) % (3 : Int32))
  have om2 := c_irem (((y1_0.toUInt32 >>> ((16 : Int32) &&& 31).toUInt32).toInt32) &&& (255 : Int32)) (3 : Int32) 3 (by decide +kernel)
  have om3 := rng32 (((y1_0.toUInt32 >>> ((16 : Int32) &&& 31).toUInt32).toInt32) &&& (255 : Int32))
  have om4 := c_mask ((y1_0.toUInt32 >>> ((16 : Int32) &&& 31).toUInt32).toInt32) (255 : Int32) 8 (by decide +kernel) (by decide +kernel)
  have om5 := rng32 ((y1_0.toUInt32 >>> ((16 : Int32) &&& 31).toUInt32).toInt32)
  have om6 := c_iushr y1_0 (16 : Int32) 16 (by decide +kernel) (by decide +kernel)
  have om7 := rng32 y1_0
  have om8 := rng32 (16 : Int32)
  have om8l : (16 : Int32).toInt = 16 := by decide +kernel
  have om9 := rng32 (255 : Int32)
  have om9l : (255 : Int32).toInt = 255 := by decide +kernel
  have om10 := rng32 (3 : Int32)
  have om10l : (3 : Int32).toInt = 3 := by decide +kernel
  have om11 := rng32 (0 : Int32)
  have om11l : (0 : Int32).toInt = 0 := by decide +kernel
  rw [Int32.lt_iff_toInt_lt]
  generalize ((((y1_0.toUInt32 >>> ((16 : Int32) &&& 31).toUInt32).toInt32) &&& (255 : Int32)) % (3 : Int32)).toInt = gx0 at *
  generalize (((y1_0.toUInt32 >>> ((16 : Int32) &&& 31).toUInt32).toInt32) &&& (255 : Int32)).toInt = gx1 at *
  generalize ((y1_0.toUInt32 >>> ((16 : Int32) &&& 31).toUInt32).toInt32).toInt = gx2 at *
  generalize (255 : Int32).toInt = gx3 at *
  generalize (16 : Int32).toInt = gx4 at *
  generalize (3 : Int32).toInt = gx5 at *
  generalize (0 : Int32).toInt = gx6 at *
  generalize y1_0.toInt = gx7 at *
  omega
set_option maxHeartbeats 4000000 in
theorem om_rm0_3 (y1_0 : Int32) : ¬ ((2 : Int32) < ((((y1_0.toUInt32 >>> ((16 : Int32) &&& 31).toUInt32).toInt32) &&& (255 : Int32)) % (3 : Int32))) := by
  have om1 := rng32 (2 : Int32)
  have om1l : (2 : Int32).toInt = 2 := by decide +kernel
  have om2 := rng32 ((((y1_0.toUInt32 >>> ((16 : Int32) &&& 31).toUInt32).toInt32) &&& (255 : Int32)) % (3 : Int32))
  have om3 := c_irem (((y1_0.toUInt32 >>> ((16 : Int32) &&& 31).toUInt32).toInt32) &&& (255 : Int32)) (3 : Int32) 3 (by decide +kernel)
  have om4 := rng32 (((y1_0.toUInt32 >>> ((16 : Int32) &&& 31).toUInt32).toInt32) &&& (255 : Int32))
  have om5 := c_mask ((y1_0.toUInt32 >>> ((16 : Int32) &&& 31).toUInt32).toInt32) (255 : Int32) 8 (by decide +kernel) (by decide +kernel)
  have om6 := rng32 ((y1_0.toUInt32 >>> ((16 : Int32) &&& 31).toUInt32).toInt32)
  have om7 := c_iushr y1_0 (16 : Int32) 16 (by decide +kernel) (by decide +kernel)
  have om8 := rng32 y1_0
  have om9 := rng32 (16 : Int32)
  have om9l : (16 : Int32).toInt = 16 := by decide +kernel
  have om10 := rng32 (255 : Int32)
  have om10l : (255 : Int32).toInt = 255 := by decide +kernel
  have om11 := rng32 (3 : Int32)
  have om11l : (3 : Int32).toInt = 3 := by decide +kernel
  rw [Int32.lt_iff_toInt_lt]
  generalize ((((y1_0.toUInt32 >>> ((16 : Int32) &&& 31).toUInt32).toInt32) &&& (255 : Int32)) % (3 : Int32)).toInt = gx0 at *
  generalize (((y1_0.toUInt32 >>> ((16 : Int32) &&& 31).toUInt32).toInt32) &&& (255 : Int32)).toInt = gx1 at *
  generalize ((y1_0.toUInt32 >>> ((16 : Int32) &&& 31).toUInt32).toInt32).toInt = gx2 at *
  generalize (255 : Int32).toInt = gx3 at *
  generalize (16 : Int32).toInt = gx4 at *
  generalize (2 : Int32).toInt = gx5 at *
  generalize (3 : Int32).toInt = gx6 at *
  generalize y1_0.toInt = gx7 at *
  omega
set_option maxHeartbeats 4000000 in
theorem om_rm0_4 (p0 : Int32) : ¬ (((p0 &&& (255 : Int32)).toUInt32.toUInt16.toUInt32.toInt32) < (0 : Int32)) := by
  have om1 := rng32 ((p0 &&& (255 : Int32)).toUInt32.toUInt16.toUInt32.toInt32)
  have om2 := c_i2c (p0 &&& (255 : Int32))
  have om3 := rng32 (p0 &&& (255 : Int32))
  have om4 := c_mask p0 (255 : Int32) 8 (by decide +kernel) (by decide +kernel)
  have om5 := rng32 p0
  have om6 := rng32 (255 : Int32)
  have om6l : (255 : Int32).toInt = 255 := by decide +kernel
  have om7 := rng32 (0 : Int32)
  have om7l : (0 : Int32).toInt = 0 := by decide +kernel
  rw [Int32.lt_iff_toInt_lt]
  generalize ((p0 &&& (255 : Int32)).toUInt32.toUInt16.toUInt32.toInt32).toInt = gx0 at *
  generalize (p0 &&& (255 : Int32)).toInt = gx1 at *
  generalize (255 : Int32).toInt = gx2 at *
  generalize (0 : Int32).toInt = gx3 at *
  generalize p0.toInt = gx4 at *
  omega
set_option maxHeartbeats 4000000 in
theorem om_rm0_5 (p0 : Int32) : ¬ ((255 : Int32) < ((p0 &&& (255 : Int32)).toUInt32.toUInt16.toUInt32.toInt32)) := by
  have om1 := rng32 (255 : Int32)
  have om1l : (255 : Int32).toInt = 255 := by decide +kernel
  have om2 := rng32 ((p0 &&& (255 : Int32)).toUInt32.toUInt16.toUInt32.toInt32)
  have om3 := c_i2c (p0 &&& (255 : Int32))
  have om4 := rng32 (p0 &&& (255 : Int32))
  have om5 := c_mask p0 (255 : Int32) 8 (by decide +kernel) (by decide +kernel)
  have om6 := rng32 p0
  rw [Int32.lt_iff_toInt_lt]
  generalize ((p0 &&& (255 : Int32)).toUInt32.toUInt16.toUInt32.toInt32).toInt = gx0 at *
  generalize (p0 &&& (255 : Int32)).toInt = gx1 at *
  generalize (255 : Int32).toInt = gx2 at *
  generalize p0.toInt = gx3 at *
  omega
set_option maxHeartbeats 4000000 in
theorem om_rm0_6 (p0 : Int32) : ¬ (((((p0.toUInt32 >>> ((8 : Int32) &&& 31).toUInt32).toInt32) &&& (255 : Int32)).toUInt32.toUInt16.toUInt32.toInt32) < (0 : Int32)) := by
  have om1 := rng32 ((((p0.toUInt32 >>> ((8 : Int32) &&& 31).toUInt32).toInt32) &&& (255 : Int32)).toUInt32.toUInt16.toUInt32.toInt32)
  have om2 := c_i2c (((p0.toUInt32 >>> ((8 : Int32) &&& 31).toUInt32).toInt32) &&& (255 : Int32))
  have om3 := rng32 (((p0.toUInt32 >>> ((8 : Int32) &&& 31).toUInt32).toInt32) &&& (255 : Int32))
  have om4 := c_mask ((p0.toUInt32 >>> ((8 : Int32) &&& 31).toUInt32).toInt32) (255 : Int32) 8 (by decide +kernel) (by decide +kernel)
  have om5 := rng32 ((p0.toUInt32 >>> ((8 : Int32) &&& 31).toUInt32).toInt32)
  have om6 := c_iushr p0 (8 : Int32) 8 (by decide +kernel) (by decide +kernel)
  have om7 := rng32 p0
  have om8 := rng32 (8 : Int32)
  have om8l : (8 : Int32).toInt = 8 := by decide +kernel
  have om9 := rng32 (255 : Int32)
  have om9l : (255 : Int32).toInt = 255 := by decide +kernel
  have om10 := rng32 (0 : Int32)
  have om10l : (0 : Int32).toInt = 0 := by decide +kernel
  rw [Int32.lt_iff_toInt_lt]
  generalize ((((p0.toUInt32 >>> ((8 : Int32) &&& 31).toUInt32).toInt32) &&& (255 : Int32)).toUInt32.toUInt16.toUInt32.toInt32).toInt = gx0 at *
  generalize (((p0.toUInt32 >>> ((8 : Int32) &&& 31).toUInt32).toInt32) &&& (255 : Int32)).toInt = gx1 at *
  generalize ((p0.toUInt32 >>> ((8 : Int32) &&& 31).toUInt32).toInt32).toInt = gx2 at *
  generalize (255 : Int32).toInt = gx3 at *
  generalize (8 : Int32).toInt = gx4 at *
  generalize (0 : Int32).toInt = gx5 at *
  generalize p0.toInt = gx6 at *
  omega
set_option maxHeartbeats 4000000 in
theorem om_rm0_7 (p0 : Int32) : ¬ ((255 : Int32) < ((((p0.toUInt32 >>> ((8 : Int32) &&& 31).toUInt32).toInt32) &&& (255 : Int32)).toUInt32.toUInt16.toUInt32.toInt32)) := by
  have om1 := rng32 (255 : Int32)
  have om1l : (255 : Int32).toInt = 255 := by decide +kernel
  have om2 := rng32 ((((p0.toUInt32 >>> ((8 : Int32) &&& 31).toUInt32).toInt32) &&& (255 : Int32)).toUInt32.toUInt16.toUInt32.toInt32)
  have om3 := c_i2c (((p0.toUInt32 >>> ((8 : Int32) &&& 31).toUInt32).toInt32) &&& (255 : Int32))
  have om4 := rng32 (((p0.toUInt32 >>> ((8 : Int32) &&& 31).toUInt32).toInt32) &&& (255 : Int32))
  have om5 := c_mask ((p0.toUInt32 >>> ((8 : Int32) &&& 31).toUInt32).toInt32) (255 : Int32) 8 (by decide +kernel) (by decide +kernel)
  have om6 := rng32 ((p0.toUInt32 >>> ((8 : Int32) &&& 31).toUInt32).toInt32)
  have om7 := c_iushr p0 (8 : Int32) 8 (by decide +kernel) (by decide +kernel)
  have om8 := rng32 p0
  have om9 := rng32 (8 : Int32)
  have om9l : (8 : Int32).toInt = 8 := by decide +kernel
  rw [Int32.lt_iff_toInt_lt]
  generalize ((((p0.toUInt32 >>> ((8 : Int32) &&& 31).toUInt32).toInt32) &&& (255 : Int32)).toUInt32.toUInt16.toUInt32.toInt32).toInt = gx0 at *
  generalize (((p0.toUInt32 >>> ((8 : Int32) &&& 31).toUInt32).toInt32) &&& (255 : Int32)).toInt = gx1 at *
  generalize ((p0.toUInt32 >>> ((8 : Int32) &&& 31).toUInt32).toInt32).toInt = gx2 at *
  generalize (255 : Int32).toInt = gx3 at *
  generalize (8 : Int32).toInt = gx4 at *
  generalize p0.toInt = gx5 at *
  omega
set_option maxHeartbeats 4000000 in
theorem om_rm0_8 (y1_0 : Int32) : ¬ (((y1_0 &&& (255 : Int32)).toUInt32.toUInt16.toUInt32.toInt32) < (0 : Int32)) := by
  have om1 := rng32 ((y1_0 &&& (255 : Int32)).toUInt32.toUInt16.toUInt32.toInt32)
  have om2 := c_i2c (y1_0 &&& (255 : Int32))
  have om3 := rng32 (y1_0 &&& (255 : Int32))
  have om4 := c_mask y1_0 (255 : Int32) 8 (by decide +kernel) (by decide +kernel)
  have om5 := rng32 y1_0
  have om6 := rng32 (255 : Int32)
  have om6l : (255 : Int32).toInt = 255 := by decide +kernel
  have om7 := rng32 (0 : Int32)
  have om7l : (0 : Int32).toInt = 0 := by decide +kernel
  rw [Int32.lt_iff_toInt_lt]
  generalize ((y1_0 &&& (255 : Int32)).toUInt32.toUInt16.toUInt32.toInt32).toInt = gx0 at *
  generalize (y1_0 &&& (255 : Int32)).toInt = gx1 at *
  generalize (255 : Int32).toInt = gx2 at *
  generalize (0 : Int32).toInt = gx3 at *
  generalize y1_0.toInt = gx4 at *
  omega
set_option maxHeartbeats 4000000 in
theorem om_rm0_9 (y1_0 : Int32) : ¬ ((255 : Int32) < ((y1_0 &&& (255 : Int32)).toUInt32.toUInt16.toUInt32.toInt32)) := by
  have om1 := rng32 (255 : Int32)
  have om1l : (255 : Int32).toInt = 255 := by decide +kernel
  have om2 := rng32 ((y1_0 &&& (255 : Int32)).toUInt32.toUInt16.toUInt32.toInt32)
  have om3 := c_i2c (y1_0 &&& (255 : Int32))
  have om4 := rng32 (y1_0 &&& (255 : Int32))
  have om5 := c_mask y1_0 (255 : Int32) 8 (by decide +kernel) (by decide +kernel)
  have om6 := rng32 y1_0
  rw [Int32.lt_iff_toInt_lt]
  generalize ((y1_0 &&& (255 : Int32)).toUInt32.toUInt16.toUInt32.toInt32).toInt = gx0 at *
  generalize (y1_0 &&& (255 : Int32)).toInt = gx1 at *
  generalize (255 : Int32).toInt = gx2 at *
  generalize y1_0.toInt = gx3 at *
  omega
set_option maxHeartbeats 4000000 in
theorem om_rm0_10 (y1_0 : Int32) : ¬ (((((y1_0.toUInt32 >>> ((8 : Int32) &&& 31).toUInt32).toInt32) &&& (255 : Int32)).toUInt32.toUInt16.toUInt32.toInt32) < (0 : Int32)) := by
  have om1 := rng32 ((((y1_0.toUInt32 >>> ((8 : Int32) &&& 31).toUInt32).toInt32) &&& (255 : Int32)).toUInt32.toUInt16.toUInt32.toInt32)
  have om2 := c_i2c (((y1_0.toUInt32 >>> ((8 : Int32) &&& 31).toUInt32).toInt32) &&& (255 : Int32))
  have om3 := rng32 (((y1_0.toUInt32 >>> ((8 : Int32) &&& 31).toUInt32).toInt32) &&& (255 : Int32))
  have om4 := c_mask ((y1_0.toUInt32 >>> ((8 : Int32) &&& 31).toUInt32).toInt32) (255 : Int32) 8 (by decide +kernel) (by decide +kernel)
  have om5 := rng32 ((y1_0.toUInt32 >>> ((8 : Int32) &&& 31).toUInt32).toInt32)
  have om6 := c_iushr y1_0 (8 : Int32) 8 (by decide +kernel) (by decide +kernel)
  have om7 := rng32 y1_0
  have om8 := rng32 (8 : Int32)
  have om8l : (8 : Int32).toInt = 8 := by decide +kernel
  have om9 := rng32 (255 : Int32)
  have om9l : (255 : Int32).toInt = 255 := by decide +kernel
  have om10 := rng32 (0 : Int32)
  have om10l : (0 : Int32).toInt = 0 := by decide +kernel
  rw [Int32.lt_iff_toInt_lt]
  generalize ((((y1_0.toUInt32 >>> ((8 : Int32) &&& 31).toUInt32).toInt32) &&& (255 : Int32)).toUInt32.toUInt16.toUInt32.toInt32).toInt = gx0 at *
  generalize (((y1_0.toUInt32 >>> ((8 : Int32) &&& 31).toUInt32).toInt32) &&& (255 : Int32)).toInt = gx1 at *
  generalize ((y1_0.toUInt32 >>> ((8 : Int32) &&& 31).toUInt32).toInt32).toInt = gx2 at *
  generalize (255 : Int32).toInt = gx3 at *
  generalize (8 : Int32).toInt = gx4 at *
  generalize (0 : Int32).toInt = gx5 at *
  generalize y1_0.toInt = gx6 at *
  omega
set_option maxHeartbeats 4000000 in
theorem om_rm0_11 (y1_0 : Int32) : ¬ ((255 : Int32) < ((((y1_0.toUInt32 >>> ((8 : Int32) &&& 31).toUInt32).toInt32) &&& (255 : Int32)).toUInt32.toUInt16.toUInt32.toInt32)) := by
  have om1 := rng32 (255 : Int32)
  have om1l : (255 : Int32).toInt = 255 := by decide +kernel
  have om2 := rng32 ((((y1_0.toUInt32 >>> ((8 : Int32) &&& 31).toUInt32).toInt32) &&& (255 : Int32)).toUInt32.toUInt16.toUInt32.toInt32)
  have om3 := c_i2c (((y1_0.toUInt32 >>> ((8 : Int32) &&& 31).toUInt32).toInt32) &&& (255 : Int32))
  have om4 := rng32 (((y1_0.toUInt32 >>> ((8 : Int32) &&& 31).toUInt32).toInt32) &&& (255 : Int32))
  have om5 := c_mask ((y1_0.toUInt32 >>> ((8 : Int32) &&& 31).toUInt32).toInt32) (255 : Int32) 8 (by decide +kernel) (by decide +kernel)
  have om6 := rng32 ((y1_0.toUInt32 >>> ((8 : Int32) &&& 31).toUInt32).toInt32)
  have om7 := c_iushr y1_0 (8 : Int32) 8 (by decide +kernel) (by decide +kernel)
  have om8 := rng32 y1_0
  have om9 := rng32 (8 : Int32)
  have om9l : (8 : Int32).toInt = 8 := by decide +kernel
  rw [Int32.lt_iff_toInt_lt]
  generalize ((((y1_0.toUInt32 >>> ((8 : Int32) &&& 31).toUInt32).toInt32) &&& (255 : Int32)).toUInt32.toUInt16.toUInt32.toInt32).toInt = gx0 at *
  generalize (((y1_0.toUInt32 >>> ((8 : Int32) &&& 31).toUInt32).toInt32) &&& (255 : Int32)).toInt = gx1 at *
  generalize ((y1_0.toUInt32 >>> ((8 : Int32) &&& 31).toUInt32).toInt32).toInt = gx2 at *
  generalize (255 : Int32).toInt = gx3 at *
  generalize (8 : Int32).toInt = gx4 at *
  generalize y1_0.toInt = gx5 at *
  omega
set_option maxHeartbeats 4000000 in
theorem om_rm0_12 (p2 : Int32) : ¬ ((((p2.toUInt32 >>> ((1 : Int32) &&& 31).toUInt32).toInt32) &&& (1 : Int32)) < (0 : Int32)) := by
  have om1 := rng32 (((p2.toUInt32 >>> ((1 : Int32) &&& 31).toUInt32).toInt32) &&& (1 : Int32))
  have om2 := c_mask ((p2.toUInt32 >>> ((1 : Int32) &&& 31).toUInt32).toInt32) (1 : Int32) 1 (by decide +kernel) (by decide +kernel)
  have om3 := rng32 ((p2.toUInt32 >>> ((1 : Int32) &&& 31).toUInt32).toInt32)
  have om4 := c_iushr p2 (1 : Int32) 1 (by decide +kernel) (by decide +kernel)
  have om5 := rng32 p2
  have om6 := rng32 (1 : Int32)
  have om6l : (1 : Int32).toInt = 1 := by decide +kernel
  have om7 := rng32 (0 : Int32)
  have om7l : (0 : Int32).toInt = 0 := by decide +kernel
  rw [Int32.lt_iff_toInt_lt]
  generalize (((p2.toUInt32 >>> ((1 : Int32) &&& 31).toUInt32).toInt32) &&& (1 : Int32)).toInt = gx0 at *
  generalize ((p2.toUInt32 >>> ((1 : Int32) &&& 31).toUInt32).toInt32).toInt = gx1 at *
  generalize (1 : Int32).toInt = gx2 at *
  generalize (0 : Int32).toInt = gx3 at *
  generalize p2.toInt = gx4 at *
  omega
set_option maxHeartbeats 4000000 in
theorem om_rm0_13 (p2 : Int32) : ¬ ((1 : Int32) < (((p2.toUInt32 >>> ((1 : Int32) &&& 31).toUInt32).toInt32) &&& (1 : Int32))) := by
  have om1 := rng32 (1 : Int32)
  have om1l : (1 : Int32).toInt = 1 := by decide +kernel
  have om2 := rng32 (((p2.toUInt32 >>> ((1 : Int32) &&& 31).toUInt32).toInt32) &&& (1 : Int32))
  have om3 := c_mask ((p2.toUInt32 >>> ((1 : Int32) &&& 31).toUInt32).toInt32) (1 : Int32) 1 (by decide +kernel) (by decide +kernel)
  have om4 := rng32 ((p2.toUInt32 >>> ((1 : Int32) &&& 31).toUInt32).toInt32)
  have om5 := c_iushr p2 (1 : Int32) 1 (by decide +kernel) (by decide +kernel)
  have om6 := rng32 p2
  rw [Int32.lt_iff_toInt_lt]
  generalize (((p2.toUInt32 >>> ((1 : Int32) &&& 31).toUInt32).toInt32) &&& (1 : Int32)).toInt = gx0 at *
  generalize ((p2.toUInt32 >>> ((1 : Int32) &&& 31).toUInt32).toInt32).toInt = gx1 at *
  generalize (1 : Int32).toInt = gx2 at *
  generalize p2.toInt = gx3 at *
  omega
set_option maxHeartbeats 4000000 in
theorem om_rm0_14 (p2 : Int32) : ¬ ((((p2.toUInt32 >>> ((2 : Int32) &&& 31).toUInt32).toInt32) &&& (1 : Int32)) < (0 : Int32)) := by
  have om1 := rng32 (((p2.toUInt32 >>> ((2 : Int32) &&& 31).toUInt32).toInt32) &&& (1 : Int32))
  have om2 := c_mask ((p2.toUInt32 >>> ((2 : Int32) &&& 31).toUInt32).toInt32) (1 : Int32) 1 (by decide +kernel) (by decide +kernel)
  have om3 := rng32 ((p2.toUInt32 >>> ((2 : Int32) &&& 31).toUInt32).toInt32)
  have om4 := c_iushr p2 (2 : Int32) 2 (by decide +kernel) (by decide +kernel)
  have om5 := rng32 p2
  have om6 := rng32 (2 : Int32)
  have om6l : (2 : Int32).toInt = 2 := by decide +kernel
  have om7 := rng32 (1 : Int32)
  have om7l : (1 : Int32).toInt = 1 := by decide +kernel
  have om8 := rng32 (0 : Int32)
  have om8l : (0 : Int32).toInt = 0 := by decide +kernel
  rw [Int32.lt_iff_toInt_lt]
  generalize (((p2.toUInt32 >>> ((2 : Int32) &&& 31).toUInt32).toInt32) &&& (1 : Int32)).toInt = gx0 at *
  generalize ((p2.toUInt32 >>> ((2 : Int32) &&& 31).toUInt32).toInt32).toInt = gx1 at *
  generalize (2 : Int32).toInt = gx2 at *
  generalize (1 : Int32).toInt = gx3 at *
  generalize (0 : Int32).toInt = gx4 at *
  generalize p2.toInt = gx5 at *
  omega
set_option maxHeartbeats 4000000 in
theorem om_rm0_15 (p2 : Int32) : ¬ ((1 : Int32) < (((p2.toUInt32 >>> ((2 : Int32) &&& 31).toUInt32).toInt32) &&& (1 : Int32))) := by
  have om1 := rng32 (1 : Int32)
  have om1l : (1 : Int32).toInt = 1 := by decide +kernel
  have om2 := rng32 (((p2.toUInt32 >>> ((2 : Int32) &&& 31).toUInt32).toInt32) &&& (1 : Int32))
  have om3 := c_mask ((p2.toUInt32 >>> ((2 : Int32) &&& 31).toUInt32).toInt32) (1 : Int32) 1 (by decide +kernel) (by decide +kernel)
  have om4 := rng32 ((p2.toUInt32 >>> ((2 : Int32) &&& 31).toUInt32).toInt32)
  have om5 := c_iushr p2 (2 : Int32) 2 (by decide +kernel) (by decide +kernel)
  have om6 := rng32 p2
  have om7 := rng32 (2 : Int32)
  have om7l : (2 : Int32).toInt = 2 := by decide +kernel
  rw [Int32.lt_iff_toInt_lt]
  generalize (((p2.toUInt32 >>> ((2 : Int32) &&& 31).toUInt32).toInt32) &&& (1 : Int32)).toInt = gx0 at *
  generalize ((p2.toUInt32 >>> ((2 : Int32) &&& 31).toUInt32).toInt32).toInt = gx1 at *
  generalize (1 : Int32).toInt = gx2 at *
  generalize (2 : Int32).toInt = gx3 at *
  generalize p2.toInt = gx4 at *
  omega
set_option maxHeartbeats 4000000 in
theorem om_rm0_16 (p3 : Int32) : ¬ (((p3 &&& (255 : Int32)).toUInt32.toUInt16.toUInt32.toInt32) < (0 : Int32)) := by
  have om1 := rng32 ((p3 &&& (255 : Int32)).toUInt32.toUInt16.toUInt32.toInt32)
  have om2 := c_i2c (p3 &&& (255 : Int32))
  have om3 := rng32 (p3 &&& (255 : Int32))
  have om4 := c_mask p3 (255 : Int32) 8 (by decide +kernel) (by decide +kernel)
  have om5 := rng32 p3
  have om6 := rng32 (255 : Int32)
  have om6l : (255 : Int32).toInt = 255 := by decide +kernel
  have om7 := rng32 (0 : Int32)
  have om7l : (0 : Int32).toInt = 0 := by decide +kernel
  rw [Int32.lt_iff_toInt_lt]
  generalize ((p3 &&& (255 : Int32)).toUInt32.toUInt16.toUInt32.toInt32).toInt = gx0 at *
  generalize (p3 &&& (255 : Int32)).toInt = gx1 at *
  generalize (255 : Int32).toInt = gx2 at *
  generalize (0 : Int32).toInt = gx3 at *
  generalize p3.toInt = gx4 at *
  omega
set_option maxHeartbeats 4000000 in
theorem om_rm0_17 (p3 : Int32) : ¬ ((255 : Int32) < ((p3 &&& (255 : Int32)).toUInt32.toUInt16.toUInt32.toInt32)) := by
  have om1 := rng32 (255 : Int32)
  have om1l : (255 : Int32).toInt = 255 := by decide +kernel
  have om2 := rng32 ((p3 &&& (255 : Int32)).toUInt32.toUInt16.toUInt32.toInt32)
  have om3 := c_i2c (p3 &&& (255 : Int32))
  have om4 := rng32 (p3 &&& (255 : Int32))
  have om5 := c_mask p3 (255 : Int32) 8 (by decide +kernel) (by decide +kernel)
  have om6 := rng32 p3
  rw [Int32.lt_iff_toInt_lt]
  generalize ((p3 &&& (255 : Int32)).toUInt32.toUInt16.toUInt32.toInt32).toInt = gx0 at *
  generalize (p3 &&& (255 : Int32)).toInt = gx1 at *
  generalize (255 : Int32).toInt = gx2 at *
  generalize p3.toInt = gx3 at *
  omega
set_option maxHeartbeats 4000000 in
theorem om_rm0_18 (p3 : Int32) : ¬ (((((p3.toUInt32 >>> ((8 : Int32) &&& 31).toUInt32).toInt32) &&& (255 : Int32)).toUInt32.toUInt16.toUInt32.toInt32) < (0 : Int32)) := by
  have om1 := rng32 ((((p3.toUInt32 >>> ((8 : Int32) &&& 31).toUInt32).toInt32) &&& (255 : Int32)).toUInt32.toUInt16.toUInt32.toInt32)
  have om2 := c_i2c (((p3.toUInt32 >>> ((8 : Int32) &&& 31).toUInt32).toInt32) &&& (255 : Int32))
  have om3 := rng32 (((p3.toUInt32 >>> ((8 : Int32) &&& 31).toUInt32).toInt32) &&& (255 : Int32))
  have om4 := c_mask ((p3.toUInt32 >>> ((8 : Int32) &&& 31).toUInt32).toInt32) (255 : Int32) 8 (by decide +kernel) (by decide +kernel)
  have om5 := rng32 ((p3.toUInt32 >>> ((8 : Int32) &&& 31).toUInt32).toInt32)
  have om6 := c_iushr p3 (8 : Int32) 8 (by decide +kernel) (by decide +kernel)
  have om7 := rng32 p3
  have om8 := rng32 (8 : Int32)
  have om8l : (8 : Int32).toInt = 8 := by decide +kernel
  have om9 := rng32 (255 : Int32)
  have om9l : (255 : Int32).toInt = 255 := by decide +kernel
  have om10 := rng32 (0 : Int32)
  have om10l : (0 : Int32).toInt = 0 := by decide +kernel
  rw [Int32.lt_iff_toInt_lt]
  generalize ((((p3.toUInt32 >>> ((8 : Int32) &&& 31).toUInt32).toInt32) &&& (255 : Int32)).toUInt32.toUInt16.toUInt32.toInt32).toInt = gx0 at *
  generalize (((p3.toUInt32 >>> ((8 : Int32) &&& 31).toUInt32).toInt32) &&& (255 : Int32)).toInt = gx1 at *
  generalize ((p3.toUInt32 >>> ((8 : Int32) &&& 31).toUInt32).toInt32).toInt = gx2 at *
  generalize (255 : Int32).toInt = gx3 at *
  generalize (8 : Int32).toInt = gx4 at *
  generalize (0 : Int32).toInt = gx5 at *
  generalize p3.toInt = gx6 at *
  omega
set_option maxHeartbeats 4000000 in
theorem om_rm0_19 (p3 : Int32) : ¬ ((255 : Int32) < ((((p3.toUInt32 >>> ((8 : Int32) &&& 31).toUInt32).toInt32) &&& (255 : Int32)).toUInt32.toUInt16.toUInt32.toInt32)) := by
  have om1 := rng32 (255 : Int32)
  have om1l : (255 : Int32).toInt = 255 := by decide +kernel
  have om2 := rng32 ((((p3.toUInt32 >>> ((8 : Int32) &&& 31).toUInt32).toInt32) &&& (255 : Int32)).toUInt32.toUInt16.toUInt32.toInt32)
  have om3 := c_i2c (((p3.toUInt32 >>> ((8 : Int32) &&& 31).toUInt32).toInt32) &&& (255 : Int32))
  have om4 := rng32 (((p3.toUInt32 >>> ((8 : Int32) &&& 31).toUInt32).toInt32) &&& (255 : Int32))
  have om5 := c_mask ((p3.toUInt32 >>> ((8 : Int32) &&& 31).toUInt32).toInt32) (255 : Int32) 8 (by decide +kernel) (by decide +kernel)
  have om6 := rng32 ((p3.toUInt32 >>> ((8 : Int32) &&& 31).toUInt32).toInt32)
  have om7 := c_iushr p3 (8 : Int32) 8 (by decide +kernel) (by decide +kernel)
  have om8 := rng32 p3
  have om9 := rng32 (8 : Int32)
  have om9l : (8 : Int32).toInt = 8 := by decide +kernel
  rw [Int32.lt_iff_toInt_lt]
  generalize ((((p3.toUInt32 >>> ((8 : Int32) &&& 31).toUInt32).toInt32) &&& (255 : Int32)).toUInt32.toUInt16.toUInt32.toInt32).toInt = gx0 at *
  generalize (((p3.toUInt32 >>> ((8 : Int32) &&& 31).toUInt32).toInt32) &&& (255 : Int32)).toInt = gx1 at *
  generalize ((p3.toUInt32 >>> ((8 : Int32) &&& 31).toUInt32).toInt32).toInt = gx2 at *
  generalize (255 : Int32).toInt = gx3 at *
  generalize (8 : Int32).toInt = gx4 at *
  generalize p3.toInt = gx5 at *
  omega
set_option maxHeartbeats 4000000 in
theorem om_rm0_20 (p4 : Int32) : ¬ (((p4 &&& (255 : Int32)).toUInt32.toUInt16.toUInt32.toInt32) < (0 : Int32)) := by
  have om1 := rng32 ((p4 &&& (255 : Int32)).toUInt32.toUInt16.toUInt32.toInt32)
  have om2 := c_i2c (p4 &&& (255 : Int32))
  have om3 := rng32 (p4 &&& (255 : Int32))
  have om4 := c_mask p4 (255 : Int32) 8 (by decide +kernel) (by decide +kernel)
  have om5 := rng32 p4
  have om6 := rng32 (255 : Int32)
  have om6l : (255 : Int32).toInt = 255 := by decide +kernel
  have om7 := rng32 (0 : Int32)
  have om7l : (0 : Int32).toInt = 0 := by decide +kernel
  rw [Int32.lt_iff_toInt_lt]
  generalize ((p4 &&& (255 : Int32)).toUInt32.toUInt16.toUInt32.toInt32).toInt = gx0 at *
  generalize (p4 &&& (255 : Int32)).toInt = gx1 at *
  generalize (255 : Int32).toInt = gx2 at *
  generalize (0 : Int32).toInt = gx3 at *
  generalize p4.toInt = gx4 at *
  omega
set_option maxHeartbeats 4000000 in
theorem om_rm0_21 (p4 : Int32) : ¬ ((255 : Int32) < ((p4 &&& (255 : Int32)).toUInt32.toUInt16.toUInt32.toInt32)) := by
  have om1 := rng32 (255 : Int32)
  have om1l : (255 : Int32).toInt = 255 := by decide +kernel
  have om2 := rng32 ((p4 &&& (255 : Int32)).toUInt32.toUInt16.toUInt32.toInt32)
  have om3 := c_i2c (p4 &&& (255 : Int32))
  have om4 := rng32 (p4 &&& (255 : Int32))
  have om5 := c_mask p4 (255 : Int32) 8 (by decide +kernel) (by decide +kernel)
  have om6 := rng32 p4
  rw [Int32.lt_iff_toInt_lt]
  generalize ((p4 &&& (255 : Int32)).toUInt32.toUInt16.toUInt32.toInt32).toInt = gx0 at *
  generalize (p4 &&& (255 : Int32)).toInt = gx1 at *
  generalize (255 : Int32).toInt = gx2 at *
  generalize p4.toInt = gx3 at *
  omega
set_option maxHeartbeats 4000000 in
theorem om_rm0_22 (p4 : Int32) : ¬ (((((p4.toUInt32 >>> ((8 : Int32) &&& 31).toUInt32).toInt32) &&& (255 : Int32)).toUInt32.toUInt16.toUInt32.toInt32) < (0 : Int32)) := by
  have om1 := rng32 ((((p4.toUInt32 >>> ((8 : Int32) &&& 31).toUInt32).toInt32) &&& (255 : Int32)).toUInt32.toUInt16.toUInt32.toInt32)
  have om2 := c_i2c (((p4.toUInt32 >>> ((8 : Int32) &&& 31).toUInt32).toInt32) &&& (255 : Int32))
  have om3 := rng32 (((p4.toUInt32 >>> ((8 : Int32) &&& 31).toUInt32).toInt32) &&& (255 : Int32))
  have om4 := c_mask ((p4.toUInt32 >>> ((8 : Int32) &&& 31).toUInt32).toInt32) (255 : Int32) 8 (by decide +kernel) (by decide +kernel)
  have om5 := rng32 ((p4.toUInt32 >>> ((8 : Int32) &&& 31).toUInt32).toInt32)
  have om6 := c_iushr p4 (8 : Int32) 8 (by decide +kernel) (by decide +kernel)
  have om7 := rng32 p4
  have om8 := rng32 (8 : Int32)
  have om8l : (8 : Int32).toInt = 8 := by decide +kernel
  have om9 := rng32 (255 : Int32)
  have om9l : (255 : Int32).toInt = 255 := by decide +kernel
  have om10 := rng32 (0 : Int32)
  have om10l : (0 : Int32).toInt = 0 := by decide +kernel
  rw [Int32.lt_iff_toInt_lt]
  generalize ((((p4.toUInt32 >>> ((8 : Int32) &&& 31).toUInt32).toInt32) &&& (255 : Int32)).toUInt32.toUInt16.toUInt32.toInt32).toInt = gx0 at *
  generalize (((p4.toUInt32 >>> ((8 : Int32) &&& 31).toUInt32).toInt32) &&& (255 : Int32)).toInt = gx1 at *
  generalize ((p4.toUInt32 >>> ((8 : Int32) &&& 31).toUInt32).toInt32).toInt = gx2 at *
  generalize (255 : Int32).toInt = gx3 at *
  generalize (8 : Int32).toInt = gx4 at *
  generalize (0 : Int32).toInt = gx5 at *
  generalize p4.toInt = gx6 at *
  omega
set_option maxHeartbeats 4000000 in
theorem om_rm0_23 (p4 : Int32) : ¬ ((255 : Int32) < ((((p4.toUInt32 >>> ((8 : Int32) &&& 31).toUInt32).toInt32) &&& (255 : Int32)).toUInt32.toUInt16.toUInt32.toInt32)) := by
  have om1 := rng32 (255 : Int32)
  have om1l : (255 : Int32).toInt = 255 := by decide +kernel
  have om2 := rng32 ((((p4.toUInt32 >>> ((8 : Int32) &&& 31).toUInt32).toInt32) &&& (255 : Int32)).toUInt32.toUInt16.toUInt32.toInt32)
  have om3 := c_i2c (((p4.toUInt32 >>> ((8 : Int32) &&& 31).toUInt32).toInt32) &&& (255 : Int32))
  have om4 := rng32 (((p4.toUInt32 >>> ((8 : Int32) &&& 31).toUInt32).toInt32) &&& (255 : Int32))
  have om5 := c_mask ((p4.toUInt32 >>> ((8 : Int32) &&& 31).toUInt32).toInt32) (255 : Int32) 8 (by decide +kernel) (by decide +kernel)
  have om6 := rng32 ((p4.toUInt32 >>> ((8 : Int32) &&& 31).toUInt32).toInt32)
  have om7 := c_iushr p4 (8 : Int32) 8 (by decide +kernel) (by decide +kernel)
  have om8 := rng32 p4
  have om9 := rng32 (8 : Int32)
  have om9l : (8 : Int32).toInt = 8 := by decide +kernel
  rw [Int32.lt_iff_toInt_lt]
  generalize ((((p4.toUInt32 >>> ((8 : Int32) &&& 31).toUInt32).toInt32) &&& (255 : Int32)).toUInt32.toUInt16.toUInt32.toInt32).toInt = gx0 at *
  generalize (((p4.toUInt32 >>> ((8 : Int32) &&& 31).toUInt32).toInt32) &&& (255 : Int32)).toInt = gx1 at *
  generalize ((p4.toUInt32 >>> ((8 : Int32) &&& 31).toUInt32).toInt32).toInt = gx2 at *
  generalize (255 : Int32).toInt = gx3 at *
  generalize (8 : Int32).toInt = gx4 at *
  generalize p4.toInt = gx5 at *
  omega
set_option maxHeartbeats 4000000 in
theorem om_rm0_24 (p2 : Int32) : ¬ ((((p2.toUInt32 >>> ((5 : Int32) &&& 31).toUInt32).toInt32) &&& (3 : Int32)) < (0 : Int32)) := by
  have om1 := rng32 (((p2.toUInt32 >>> ((5 : Int32) &&& 31).toUInt32).toInt32) &&& (3 : Int32))
  have om2 := c_mask ((p2.toUInt32 >>> ((5 : Int32) &&& 31).toUInt32).toInt32) (3 : Int32) 2 (by decide +kernel) (by decide +kernel)
  have om3 := rng32 ((p2.toUInt32 >>> ((5 : Int32) &&& 31).toUInt32).toInt32)
  have om4 := c_iushr p2 (5 : Int32) 5 (by decide +kernel) (by decide +kernel)
  have om5 := rng32 p2
  have om6 := rng32 (5 : Int32)
  have om6l : (5 : Int32).toInt = 5 := by decide +kernel
  have om7 := rng32 (3 : Int32)
  have om7l : (3 : Int32).toInt = 3 := by decide +kernel
  have om8 := rng32 (0 : Int32)
  have om8l : (0 : Int32).toInt = 0 := by decide +kernel
  rw [Int32.lt_iff_toInt_lt]
  generalize (((p2.toUInt32 >>> ((5 : Int32) &&& 31).toUInt32).toInt32) &&& (3 : Int32)).toInt = gx0 at *
  generalize ((p2.toUInt32 >>> ((5 : Int32) &&& 31).toUInt32).toInt32).toInt = gx1 at *
  generalize (5 : Int32).toInt = gx2 at *
  generalize (3 : Int32).toInt = gx3 at *
  generalize (0 : Int32).toInt = gx4 at *
  generalize p2.toInt = gx5 at *
  omega
set_option maxHeartbeats 4000000 in
theorem om_rm0_25 (p2 : Int32) : ¬ ((3 : Int32) < (((p2.toUInt32 >>> ((5 : Int32) &&& 31).toUInt32).toInt32) &&& (3 : Int32))) := by
  have om1 := rng32 (3 : Int32)
  have om1l : (3 : Int32).toInt = 3 := by decide +kernel
  have om2 := rng32 (((p2.toUInt32 >>> ((5 : Int32) &&& 31).toUInt32).toInt32) &&& (3 : Int32))
  have om3 := c_mask ((p2.toUInt32 >>> ((5 : Int32) &&& 31).toUInt32).toInt32) (3 : Int32) 2 (by decide +kernel) (by decide +kernel)
  have om4 := rng32 ((p2.toUInt32 >>> ((5 : Int32) &&& 31).toUInt32).toInt32)
  have om5 := c_iushr p2 (5 : Int32) 5 (by decide +kernel) (by decide +kernel)
  have om6 := rng32 p2
  have om7 := rng32 (5 : Int32)
  have om7l : (5 : Int32).toInt = 5 := by decide +kernel
  rw [Int32.lt_iff_toInt_lt]
  generalize (((p2.toUInt32 >>> ((5 : Int32) &&& 31).toUInt32).toInt32) &&& (3 : Int32)).toInt = gx0 at *
  generalize ((p2.toUInt32 >>> ((5 : Int32) &&& 31).toUInt32).toInt32).toInt = gx1 at *
  generalize (3 : Int32).toInt = gx2 at *
  generalize (5 : Int32).toInt = gx3 at *
  generalize p2.toInt = gx4 at *
  omega
set_option maxHeartbeats 4000000 in
theorem om_rm0_26 (n_3 : Int32) (n_5 : Int32) (oh0 : ¬ (n_3 < (0 : Int32))) (oh1 : ¬ ((2 : Int32) < n_3)) (oh2 : ¬ (n_5 < (0 : Int32))) (oh3 : ¬ ((2 : Int32) < n_5)) (oh4 : n_3 = n_5) (oh5 : n_3 < (1 : Int32)) : n_3 < (2 : Int32) := by
  have om1 := rng32 n_3
  have om2 := rng32 (0 : Int32)
  have om2l : (0 : Int32).toInt = 0 := by decide +kernel
  have om3 := rng32 (2 : Int32)
  have om3l : (2 : Int32).toInt = 2 := by decide +kernel
  have om4 := rng32 n_5
  have om5 := rng32 (1 : Int32)
  have om5l : (1 : Int32).toInt = 1 := by decide +kernel
  have ow0 := oh0
  rw [Int32.lt_iff_toInt_lt] at ow0
  have ow1 := oh1
  rw [Int32.lt_iff_toInt_lt] at ow1
  have ow2 := oh2
  rw [Int32.lt_iff_toInt_lt] at ow2
  have ow3 := oh3
  rw [Int32.lt_iff_toInt_lt] at ow3
  have ow4 := oh4
  rw [← Int32.toInt_inj] at ow4
  have ow5 := oh5
  rw [Int32.lt_iff_toInt_lt] at ow5
  rw [Int32.lt_iff_toInt_lt]
  generalize (0 : Int32).toInt = gx0 at *
  generalize (2 : Int32).toInt = gx1 at *
  generalize (1 : Int32).toInt = gx2 at *
  generalize n_3.toInt = gx3 at *
  generalize n_5.toInt = gx4 at *
  omega
set_option maxRecDepth 65536 in
set_option maxHeartbeats 40000000 in
theorem rm0 (l : Launch) (Z : State) (av0 : Array Value) (hw : ∀ d ∈ tables_1, d.before av0 Z = true) (ws : List Jvm.Cond) (p0 : Int32) (p1 : Int32) (p2 : Int32) (p3 : Int32) (p4 : Int32) (w_TEAR_DOWN : Addr) (w_SET_UP : Addr) (w_COMPACT_STRINGS : Int32) (h0 : Heap) (n0 : Nat) (Z0 : n0 ≤ h0.size) (Ol0 : Old Z n0 h0) (X_w_TEAR_DOWN : Exa Z Z.heap w_TEAR_DOWN "com/example/neat_order/neatorder/model/LifecycleFailure$Phase") (X_w_SET_UP : Exa Z Z.heap w_SET_UP "com/example/neat_order/neatorder/model/LifecycleFailure$Phase") (hcs : ¬ (w_COMPACT_STRINGS = (0 : Int32))) (S_COMPACT_STRINGS : Sta Z Z.heap "java/lang/String" "COMPACT_STRINGS" "Z" (.int w_COMPACT_STRINGS)) (S_SET_UP : Sta Z Z.heap "com/example/neat_order/neatorder/model/LifecycleFailure$Phase" "SET_UP" "Lcom/example/neat_order/neatorder/model/LifecycleFailure$Phase;" (.ref w_SET_UP)) (S_TEAR_DOWN : Sta Z Z.heap "com/example/neat_order/neatorder/model/LifecycleFailure$Phase" "TEAR_DOWN" "Lcom/example/neat_order/neatorder/model/LifecycleFailure$Phase;" (.ref w_TEAR_DOWN)) (F_ordinal_w_TEAR_DOWN : Fld Z Z.heap w_TEAR_DOWN "java/lang/Enum" "ordinal" "I" (.int 1)) (F_ordinal_w_SET_UP : Fld Z Z.heap w_SET_UP "java/lang/Enum" "ordinal" "I" (.int 0)) :
    MetFree l x (head1 (Jvm.Cond.code x code maxLocals ret :: ws) room_1) (fun a U => a = #[(.int p0), (.int p1), (.int p2), (.int p3), (.int p4)] ∧ Z.Warmed39 U.vm ∧ U.heap = h0 ∧ CHv Z own_EL U.vm h0) (fun _ _ _ _ _ => True) (fun _ U o U' => ∃ v L, o = .returned v ∧ Q_rm0 Z p0 p1 p2 p3 p4 w_TEAR_DOWN w_SET_UP w_COMPACT_STRINGS h0 n0 v U'.heap L ∧ CHr Z own_EL U.vm U.heap U'.vm U'.heap ∧ ReturnedEndW U o U' L room_1.cells room_1.slots) := by
  refine MetFree.of_bodySF (plainFor_of_name pn_2) hisR ?_
  intro p e s m args below meth c s₁ Bd hml0 hP hK
  obtain ⟨rfl, hZ, hh, hCH⟩ := hP
  have hx := Bd.exec
  have hby := Bd.bytes
  have hml : c.maxLocals = 28 := hml0
  have hown : (s.setVm s.vm).vm.findClass "com/example/neat_order/neatorder/model/LifecycleFailureEqualsPinLaw" = some m.cls := findClass_of_methodNamed Bd.named
  have hnm := (name_of_methodNamed Bd.named Bd.method).1
  have X0 : Stand p l e room_1 (s.setVm s.vm) m #[(.int p0), (.int p1), (.int p2), (.int p3), (.int p4)] below meth c s₁ [] 0 0 := Stand.of_body Bd
  have e0 : s₁.heap = h0 := by rw [← hh, Bd.state]; rfl
  have N0 := Fr.nil n0
  have hZ : Z.Warmed39 (s.setVm s.vm).vm := hZ
  have hS0 : s.Since s.vm s.heap.size := (State.WarmedH.refl s).since _
  have hk0 : s.heap.size ≤ h0.size := Nat.le_of_eq (by rw [hh])
  have ch0 : CHr Z own_EL s.vm h0 s.vm h0 := CHr.refl hCH
  have pre0 : ∀ t, Steps p.tables e below (s₁.setTop (mkF m 0 #[.val (.int p0), .val (.int p1), .val (.int p2), .val (.int p3), .val (.int p4), .unset, .unset, .unset, .unset, .unset, .unset, .unset, .unset, .unset, .unset, .unset, .unset, .unset, .unset, .unset, .unset, .unset, .unset, .unset, .unset, .unset, .unset, .unset] [])) t → Steps p.tables e below (s₁.setTop (entryFrame m #[(.int p0), (.int p1), (.int p2), (.int p3), (.int p4)] maxLocals)) t := fun t k => castTop (ef_rm0 m p0 p1 p2 p3 p4) k
  change OwnFin p.tables e below _ (s₁.setTop (entryFrame m #[(.int p0), (.int p1), (.int p2), (.int p3), (.int p4)] maxLocals))
  have kp0 : Keep h0 h0 [] := Keep.refl _ _
  refine OwnFin.st (fun _ q => pre0 _ q) ?_
  show OwnFin _ _ _ _ (s₁.setTop (mkF m 0 #[.val (.int p0), .val (.int p1), .val (.int p2), .val (.int p3), .val (.int p4), .unset, .unset, .unset, .unset, .unset, .unset, .unset, .unset, .unset, .unset, .unset, .unset, .unset, .unset, .unset, .unset, .unset, .unset, .unset, .unset, .unset, .unset, .unset] []))
  refine OwnFin.st (fun _ q => XS.iloadN X0.here hx rfl (hb hby at_0) rfl q) ?_
  show OwnFin _ _ _ _ (s₁.setTop (mkF m 1 _ [(.int p2)]))
  refine OwnFin.st (fun _ q => XS.iconst X0.here hx rfl (hb hby at_1) q) ?_
  show OwnFin _ _ _ _ (s₁.setTop (mkF m 2 _ [(.int 1), (.int p2)]))
  refine OwnFin.st (fun _ q => XS.iand X0.here hx rfl (hb hby at_2) rfl q) ?_
  show OwnFin _ _ _ _ (s₁.setTop (mkF m 3 _ [(.int (p2 &&& (1 : Int32)))]))
  have H1 : ∀ (T : State) (lc : List Loc) (y1_0 : Int32), Stand p l e room_1 (s.setVm s.vm) m #[(.int p0), (.int p1), (.int p2), (.int p3), (.int p4)] below meth c T lc 0 0 → Fr n0 lc → T.heap = h0 → OwnFin p.tables e below (fun o U' => ∃ v L, o = .returned v ∧ Q_rm0 Z p0 p1 p2 p3 p4 w_TEAR_DOWN w_SET_UP w_COMPACT_STRINGS h0 n0 v U'.heap L ∧ CHr Z own_EL s.vm s.heap U'.vm U'.heap ∧ ReturnedEndW s o U' L room_1.cells room_1.slots) (T.setTop (mkF m 11 #[.val (.int p0), .val (.int p1), .val (.int p2), .val (.int p3), .val (.int p4), .unset, .unset, .unset, .unset, .unset, .unset, .unset, .unset, .unset, .unset, .unset, .unset, .unset, .unset, .unset, .unset, .unset, .unset, .unset, .unset, .unset, .unset, .unset] [(.int y1_0)])) := by
   intro T1 lc1 y1_0 X1 N1 e1
   show OwnFin _ _ _ _ (T1.setTop (mkF m 11 #[.val (.int p0), .val (.int p1), .val (.int p2), .val (.int p3), .val (.int p4), .unset, .unset, .unset, .unset, .unset, .unset, .unset, .unset, .unset, .unset, .unset, .unset, .unset, .unset, .unset, .unset, .unset, .unset, .unset, .unset, .unset, .unset, .unset] [(.int y1_0)]))
   refine OwnFin.st (fun _ q => XS.istore X1.here hx rfl (hb hby at_11) rfl (l' := #[.val (.int p0), .val (.int p1), .val (.int p2), .val (.int p3), .val (.int p4), .val (.int y1_0), .unset, .unset, .unset, .unset, .unset, .unset, .unset, .unset, .unset, .unset, .unset, .unset, .unset, .unset, .unset, .unset, .unset, .unset, .unset, .unset, .unset, .unset]) rfl q) ?_
   show OwnFin _ _ _ _ (T1.setTop (mkF m 13 _ []))
   refine OwnFin.st (fun _ q => XS.iloadN X1.here hx rfl (hb hby at_13) rfl q) ?_
   show OwnFin _ _ _ _ (T1.setTop (mkF m 14 _ [(.int p0)]))
   obtain ⟨_, _, ⟨T2, L2, k2, n2⟩, -, X2, ⟨Lc2, hQ2, l2, y2, z2⟩, st2⟩ := Jvm.LawKit.callS X1 hx (y := yM5) hown (mvT hZ (w_ hw 0 rfl)) (mvT hZ (w_ hw 1 rfl)) (mvT hZ (w_ hw 2 rfl)) (mvT hZ (w_ hw 3 rfl)) (by decide) (backOf (W := 0) (rm_len l Z av0 hw [] p0 h0 n0 (Nat.le_trans Z0 kp0.1) ) hZ (w_ hw 3 rfl) (w_ hw 2 rfl) (by decide) (by decide)) (g := (mkF m 14 #[.val (.int p0), .val (.int p1), .val (.int p2), .val (.int p3), .val (.int p4), .val (.int y1_0), .unset, .unset, .unset, .unset, .unset, .unset, .unset, .unset, .unset, .unset, .unset, .unset, .unset, .unset, .unset, .unset, .unset, .unset, .unset, .unset, .unset, .unset] [(.int p0)])) rfl (by rw [hml]; rfl) (argsL := [(.int p0)]) (rest := []) (lenOf pd_11 rfl) rfl (by show 2 * 0 + _ ≤ _; exact Nat.le_of_eq rfl) (hb hby at_14) (fun _ _ => ⟨rfl, e1, (by decide : 0 + 0 ≤ _), (by decide : 0 + 0 ≤ _)⟩)
   dsimp only [Pt.U, Pt.locs, Pt.cells, Pt.slots] at X2 l2 y2 z2 st2 hQ2
   subst l2 y2 z2
   obtain ⟨rfl, N2q, he2⟩ := hQ2
   have N2 := Fr.app N1 N2q
   refine OwnFin.st st2 ?_
   show OwnFin _ _ _ _ (T2.setTop (mkF m 17 _ [(.int ((((p0.toUInt32 >>> ((16 : Int32) &&& 31).toUInt32).toInt32) &&& (255 : Int32)) % (3 : Int32)))]))
   have hbn_3_0 := (om_rm0_0 p0)
   have hbn_3_1 := (om_rm0_1 p0)
   obtain ⟨n_3, hxn_3⟩ : ∃ z : Int32, ((((p0.toUInt32 >>> ((16 : Int32) &&& 31).toUInt32).toInt32) &&& (255 : Int32)) % (3 : Int32)) = z := ⟨_, rfl⟩
   rw [hxn_3] at hbn_3_0 hbn_3_1 ⊢
   show OwnFin _ _ _ _ (T2.setTop (mkF m 17 #[.val (.int p0), .val (.int p1), .val (.int p2), .val (.int p3), .val (.int p4), .val (.int y1_0), .unset, .unset, .unset, .unset, .unset, .unset, .unset, .unset, .unset, .unset, .unset, .unset, .unset, .unset, .unset, .unset, .unset, .unset, .unset, .unset, .unset, .unset] [(.int n_3)]))
   refine OwnFin.st (fun _ q => XS.istore X2.here hx rfl (hb hby at_17) rfl (l' := #[.val (.int p0), .val (.int p1), .val (.int p2), .val (.int p3), .val (.int p4), .val (.int y1_0), .val (.int n_3), .unset, .unset, .unset, .unset, .unset, .unset, .unset, .unset, .unset, .unset, .unset, .unset, .unset, .unset, .unset, .unset, .unset, .unset, .unset, .unset, .unset]) rfl q) ?_
   show OwnFin _ _ _ _ (T2.setTop (mkF m 19 _ []))
   refine OwnFin.st (fun _ q => XS.iload X2.here hx rfl (hb hby at_19) rfl q) ?_
   show OwnFin _ _ _ _ (T2.setTop (mkF m 21 _ [(.int y1_0)]))
   obtain ⟨_, _, ⟨T4, L4, k4, n4⟩, -, X4, ⟨Lc4, hQ4, l4, y4, z4⟩, st4⟩ := Jvm.LawKit.callS X2 hx (y := yM5) hown (mvT hZ (w_ hw 0 rfl)) (mvT hZ (w_ hw 1 rfl)) (mvT hZ (w_ hw 2 rfl)) (mvT hZ (w_ hw 3 rfl)) (by decide) (backOf (W := 0) (rm_len l Z av0 hw [] y1_0 h0 n0 (Nat.le_trans Z0 kp0.1) ) hZ (w_ hw 3 rfl) (w_ hw 2 rfl) (by decide) (by decide)) (g := (mkF m 21 #[.val (.int p0), .val (.int p1), .val (.int p2), .val (.int p3), .val (.int p4), .val (.int y1_0), .val (.int n_3), .unset, .unset, .unset, .unset, .unset, .unset, .unset, .unset, .unset, .unset, .unset, .unset, .unset, .unset, .unset, .unset, .unset, .unset, .unset, .unset, .unset] [(.int y1_0)])) rfl (by rw [hml]; rfl) (argsL := [(.int y1_0)]) (rest := []) (lenOf pd_11 rfl) rfl (by show 2 * 0 + _ ≤ _; exact Nat.le_of_eq rfl) (hb hby at_21) (fun _ _ => ⟨rfl, he2, (by decide : 0 + 0 ≤ _), (by decide : 0 + 0 ≤ _)⟩)
   dsimp only [Pt.U, Pt.locs, Pt.cells, Pt.slots] at X4 l4 y4 z4 st4 hQ4
   subst l4 y4 z4
   obtain ⟨rfl, N4q, he4⟩ := hQ4
   have N4 := Fr.app N2 N4q
   refine OwnFin.st st4 ?_
   show OwnFin _ _ _ _ (T4.setTop (mkF m 24 _ [(.int ((((y1_0.toUInt32 >>> ((16 : Int32) &&& 31).toUInt32).toInt32) &&& (255 : Int32)) % (3 : Int32)))]))
   have hbn_5_0 := (om_rm0_2 y1_0)
   have hbn_5_1 := (om_rm0_3 y1_0)
   obtain ⟨n_5, hxn_5⟩ : ∃ z : Int32, ((((y1_0.toUInt32 >>> ((16 : Int32) &&& 31).toUInt32).toInt32) &&& (255 : Int32)) % (3 : Int32)) = z := ⟨_, rfl⟩
   rw [hxn_5] at hbn_5_0 hbn_5_1 ⊢
   show OwnFin _ _ _ _ (T4.setTop (mkF m 24 #[.val (.int p0), .val (.int p1), .val (.int p2), .val (.int p3), .val (.int p4), .val (.int y1_0), .val (.int n_3), .unset, .unset, .unset, .unset, .unset, .unset, .unset, .unset, .unset, .unset, .unset, .unset, .unset, .unset, .unset, .unset, .unset, .unset, .unset, .unset, .unset] [(.int n_5)]))
   refine OwnFin.st (fun _ q => XS.istore X4.here hx rfl (hb hby at_24) rfl (l' := #[.val (.int p0), .val (.int p1), .val (.int p2), .val (.int p3), .val (.int p4), .val (.int y1_0), .val (.int n_3), .val (.int n_5), .unset, .unset, .unset, .unset, .unset, .unset, .unset, .unset, .unset, .unset, .unset, .unset, .unset, .unset, .unset, .unset, .unset, .unset, .unset, .unset]) rfl q) ?_
   show OwnFin _ _ _ _ (T4.setTop (mkF m 26 _ []))
   refine OwnFin.st (fun _ q => XS.iloadN X4.here hx rfl (hb hby at_26) rfl q) ?_
   show OwnFin _ _ _ _ (T4.setTop (mkF m 27 _ [(.int p0)]))
   obtain ⟨_, _, ⟨T6, L6, k6, n6⟩, -, X6, ⟨Lc6, hQ6, l6, y6, z6⟩, st6⟩ := Jvm.LawKit.callS X4 hx (y := yM6) hown (mvT hZ (w_ hw 4 rfl)) (mvT hZ (w_ hw 5 rfl)) (mvT hZ (w_ hw 2 rfl)) (mvT hZ (w_ hw 6 rfl)) (by decide) (backOf (W := 0) (rm_ch0 l Z av0 hw [] p0 h0 n0 (Nat.le_trans Z0 kp0.1) ) hZ (w_ hw 6 rfl) (w_ hw 2 rfl) (by decide) (by decide)) (g := (mkF m 27 #[.val (.int p0), .val (.int p1), .val (.int p2), .val (.int p3), .val (.int p4), .val (.int y1_0), .val (.int n_3), .val (.int n_5), .unset, .unset, .unset, .unset, .unset, .unset, .unset, .unset, .unset, .unset, .unset, .unset, .unset, .unset, .unset, .unset, .unset, .unset, .unset, .unset] [(.int p0)])) rfl (by rw [hml]; rfl) (argsL := [(.int p0)]) (rest := []) (lenOf pd_12 rfl) rfl (by show 2 * 0 + _ ≤ _; exact Nat.le_of_eq rfl) (hb hby at_27) (fun _ _ => ⟨rfl, he4, (by decide : 0 + 0 ≤ _), (by decide : 0 + 0 ≤ _)⟩)
   dsimp only [Pt.U, Pt.locs, Pt.cells, Pt.slots] at X6 l6 y6 z6 st6 hQ6
   subst l6 y6 z6
   obtain ⟨rfl, N6q, he6⟩ := hQ6
   have N6 := Fr.app N4 N6q
   refine OwnFin.st st6 ?_
   show OwnFin _ _ _ _ (T6.setTop (mkF m 30 _ [(.int ((p0 &&& (255 : Int32)).toUInt32.toUInt16.toUInt32.toInt32))]))
   have hbc_7_0 := (om_rm0_4 p0)
   have hbc_7_1 := (om_rm0_5 p0)
   obtain ⟨c_7, hxc_7⟩ : ∃ z : Int32, ((p0 &&& (255 : Int32)).toUInt32.toUInt16.toUInt32.toInt32) = z := ⟨_, rfl⟩
   rw [hxc_7] at hbc_7_0 hbc_7_1 ⊢
   show OwnFin _ _ _ _ (T6.setTop (mkF m 30 #[.val (.int p0), .val (.int p1), .val (.int p2), .val (.int p3), .val (.int p4), .val (.int y1_0), .val (.int n_3), .val (.int n_5), .unset, .unset, .unset, .unset, .unset, .unset, .unset, .unset, .unset, .unset, .unset, .unset, .unset, .unset, .unset, .unset, .unset, .unset, .unset, .unset] [(.int c_7)]))
   refine OwnFin.st (fun _ q => XS.istore X6.here hx rfl (hb hby at_30) rfl (l' := #[.val (.int p0), .val (.int p1), .val (.int p2), .val (.int p3), .val (.int p4), .val (.int y1_0), .val (.int n_3), .val (.int n_5), .val (.int c_7), .unset, .unset, .unset, .unset, .unset, .unset, .unset, .unset, .unset, .unset, .unset, .unset, .unset, .unset, .unset, .unset, .unset, .unset, .unset]) rfl q) ?_
   show OwnFin _ _ _ _ (T6.setTop (mkF m 32 _ []))
   refine OwnFin.st (fun _ q => XS.iloadN X6.here hx rfl (hb hby at_32) rfl q) ?_
   show OwnFin _ _ _ _ (T6.setTop (mkF m 33 _ [(.int p0)]))
   obtain ⟨_, _, ⟨T8, L8, k8, n8⟩, -, X8, ⟨Lc8, hQ8, l8, y8, z8⟩, st8⟩ := Jvm.LawKit.callS X6 hx (y := yM7) hown (mvT hZ (w_ hw 7 rfl)) (mvT hZ (w_ hw 8 rfl)) (mvT hZ (w_ hw 2 rfl)) (mvT hZ (w_ hw 9 rfl)) (by decide) (backOf (W := 0) (rm_ch1 l Z av0 hw [] p0 h0 n0 (Nat.le_trans Z0 kp0.1) ) hZ (w_ hw 9 rfl) (w_ hw 2 rfl) (by decide) (by decide)) (g := (mkF m 33 #[.val (.int p0), .val (.int p1), .val (.int p2), .val (.int p3), .val (.int p4), .val (.int y1_0), .val (.int n_3), .val (.int n_5), .val (.int c_7), .unset, .unset, .unset, .unset, .unset, .unset, .unset, .unset, .unset, .unset, .unset, .unset, .unset, .unset, .unset, .unset, .unset, .unset, .unset] [(.int p0)])) rfl (by rw [hml]; rfl) (argsL := [(.int p0)]) (rest := []) (lenOf pd_12 rfl) rfl (by show 2 * 0 + _ ≤ _; exact Nat.le_of_eq rfl) (hb hby at_33) (fun _ _ => ⟨rfl, he6, (by decide : 0 + 0 ≤ _), (by decide : 0 + 0 ≤ _)⟩)
   dsimp only [Pt.U, Pt.locs, Pt.cells, Pt.slots] at X8 l8 y8 z8 st8 hQ8
   subst l8 y8 z8
   obtain ⟨rfl, N8q, he8⟩ := hQ8
   have N8 := Fr.app N6 N8q
   refine OwnFin.st st8 ?_
   show OwnFin _ _ _ _ (T8.setTop (mkF m 36 _ [(.int ((((p0.toUInt32 >>> ((8 : Int32) &&& 31).toUInt32).toInt32) &&& (255 : Int32)).toUInt32.toUInt16.toUInt32.toInt32))]))
   have hbc_9_0 := (om_rm0_6 p0)
   have hbc_9_1 := (om_rm0_7 p0)
   obtain ⟨c_9, hxc_9⟩ : ∃ z : Int32, ((((p0.toUInt32 >>> ((8 : Int32) &&& 31).toUInt32).toInt32) &&& (255 : Int32)).toUInt32.toUInt16.toUInt32.toInt32) = z := ⟨_, rfl⟩
   rw [hxc_9] at hbc_9_0 hbc_9_1 ⊢
   show OwnFin _ _ _ _ (T8.setTop (mkF m 36 #[.val (.int p0), .val (.int p1), .val (.int p2), .val (.int p3), .val (.int p4), .val (.int y1_0), .val (.int n_3), .val (.int n_5), .val (.int c_7), .unset, .unset, .unset, .unset, .unset, .unset, .unset, .unset, .unset, .unset, .unset, .unset, .unset, .unset, .unset, .unset, .unset, .unset, .unset] [(.int c_9)]))
   refine OwnFin.st (fun _ q => XS.istore X8.here hx rfl (hb hby at_36) rfl (l' := #[.val (.int p0), .val (.int p1), .val (.int p2), .val (.int p3), .val (.int p4), .val (.int y1_0), .val (.int n_3), .val (.int n_5), .val (.int c_7), .val (.int c_9), .unset, .unset, .unset, .unset, .unset, .unset, .unset, .unset, .unset, .unset, .unset, .unset, .unset, .unset, .unset, .unset, .unset, .unset]) rfl q) ?_
   show OwnFin _ _ _ _ (T8.setTop (mkF m 38 _ []))
   refine OwnFin.st (fun _ q => XS.iload X8.here hx rfl (hb hby at_38) rfl q) ?_
   show OwnFin _ _ _ _ (T8.setTop (mkF m 40 _ [(.int y1_0)]))
   obtain ⟨_, _, ⟨T10, L10, k10, n10⟩, -, X10, ⟨Lc10, hQ10, l10, y10, z10⟩, st10⟩ := Jvm.LawKit.callS X8 hx (y := yM6) hown (mvT hZ (w_ hw 4 rfl)) (mvT hZ (w_ hw 5 rfl)) (mvT hZ (w_ hw 2 rfl)) (mvT hZ (w_ hw 6 rfl)) (by decide) (backOf (W := 0) (rm_ch0 l Z av0 hw [] y1_0 h0 n0 (Nat.le_trans Z0 kp0.1) ) hZ (w_ hw 6 rfl) (w_ hw 2 rfl) (by decide) (by decide)) (g := (mkF m 40 #[.val (.int p0), .val (.int p1), .val (.int p2), .val (.int p3), .val (.int p4), .val (.int y1_0), .val (.int n_3), .val (.int n_5), .val (.int c_7), .val (.int c_9), .unset, .unset, .unset, .unset, .unset, .unset, .unset, .unset, .unset, .unset, .unset, .unset, .unset, .unset, .unset, .unset, .unset, .unset] [(.int y1_0)])) rfl (by rw [hml]; rfl) (argsL := [(.int y1_0)]) (rest := []) (lenOf pd_12 rfl) rfl (by show 2 * 0 + _ ≤ _; exact Nat.le_of_eq rfl) (hb hby at_40) (fun _ _ => ⟨rfl, he8, (by decide : 0 + 0 ≤ _), (by decide : 0 + 0 ≤ _)⟩)
   dsimp only [Pt.U, Pt.locs, Pt.cells, Pt.slots] at X10 l10 y10 z10 st10 hQ10
   subst l10 y10 z10
   obtain ⟨rfl, N10q, he10⟩ := hQ10
   have N10 := Fr.app N8 N10q
   refine OwnFin.st st10 ?_
   show OwnFin _ _ _ _ (T10.setTop (mkF m 43 _ [(.int ((y1_0 &&& (255 : Int32)).toUInt32.toUInt16.toUInt32.toInt32))]))
   have hbc_11_0 := (om_rm0_8 y1_0)
   have hbc_11_1 := (om_rm0_9 y1_0)
   obtain ⟨c_11, hxc_11⟩ : ∃ z : Int32, ((y1_0 &&& (255 : Int32)).toUInt32.toUInt16.toUInt32.toInt32) = z := ⟨_, rfl⟩
   rw [hxc_11] at hbc_11_0 hbc_11_1 ⊢
   show OwnFin _ _ _ _ (T10.setTop (mkF m 43 #[.val (.int p0), .val (.int p1), .val (.int p2), .val (.int p3), .val (.int p4), .val (.int y1_0), .val (.int n_3), .val (.int n_5), .val (.int c_7), .val (.int c_9), .unset, .unset, .unset, .unset, .unset, .unset, .unset, .unset, .unset, .unset, .unset, .unset, .unset, .unset, .unset, .unset, .unset, .unset] [(.int c_11)]))
   refine OwnFin.st (fun _ q => XS.istore X10.here hx rfl (hb hby at_43) rfl (l' := #[.val (.int p0), .val (.int p1), .val (.int p2), .val (.int p3), .val (.int p4), .val (.int y1_0), .val (.int n_3), .val (.int n_5), .val (.int c_7), .val (.int c_9), .val (.int c_11), .unset, .unset, .unset, .unset, .unset, .unset, .unset, .unset, .unset, .unset, .unset, .unset, .unset, .unset, .unset, .unset, .unset]) rfl q) ?_
   show OwnFin _ _ _ _ (T10.setTop (mkF m 45 _ []))
   refine OwnFin.st (fun _ q => XS.iload X10.here hx rfl (hb hby at_45) rfl q) ?_
   show OwnFin _ _ _ _ (T10.setTop (mkF m 47 _ [(.int y1_0)]))
   obtain ⟨_, _, ⟨T12, L12, k12, n12⟩, -, X12, ⟨Lc12, hQ12, l12, y12, z12⟩, st12⟩ := Jvm.LawKit.callS X10 hx (y := yM7) hown (mvT hZ (w_ hw 7 rfl)) (mvT hZ (w_ hw 8 rfl)) (mvT hZ (w_ hw 2 rfl)) (mvT hZ (w_ hw 9 rfl)) (by decide) (backOf (W := 0) (rm_ch1 l Z av0 hw [] y1_0 h0 n0 (Nat.le_trans Z0 kp0.1) ) hZ (w_ hw 9 rfl) (w_ hw 2 rfl) (by decide) (by decide)) (g := (mkF m 47 #[.val (.int p0), .val (.int p1), .val (.int p2), .val (.int p3), .val (.int p4), .val (.int y1_0), .val (.int n_3), .val (.int n_5), .val (.int c_7), .val (.int c_9), .val (.int c_11), .unset, .unset, .unset, .unset, .unset, .unset, .unset, .unset, .unset, .unset, .unset, .unset, .unset, .unset, .unset, .unset, .unset] [(.int y1_0)])) rfl (by rw [hml]; rfl) (argsL := [(.int y1_0)]) (rest := []) (lenOf pd_12 rfl) rfl (by show 2 * 0 + _ ≤ _; exact Nat.le_of_eq rfl) (hb hby at_47) (fun _ _ => ⟨rfl, he10, (by decide : 0 + 0 ≤ _), (by decide : 0 + 0 ≤ _)⟩)
   dsimp only [Pt.U, Pt.locs, Pt.cells, Pt.slots] at X12 l12 y12 z12 st12 hQ12
   subst l12 y12 z12
   obtain ⟨rfl, N12q, he12⟩ := hQ12
   have N12 := Fr.app N10 N12q
   refine OwnFin.st st12 ?_
   show OwnFin _ _ _ _ (T12.setTop (mkF m 50 _ [(.int ((((y1_0.toUInt32 >>> ((8 : Int32) &&& 31).toUInt32).toInt32) &&& (255 : Int32)).toUInt32.toUInt16.toUInt32.toInt32))]))
   have hbc_13_0 := (om_rm0_10 y1_0)
   have hbc_13_1 := (om_rm0_11 y1_0)
   obtain ⟨c_13, hxc_13⟩ : ∃ z : Int32, ((((y1_0.toUInt32 >>> ((8 : Int32) &&& 31).toUInt32).toInt32) &&& (255 : Int32)).toUInt32.toUInt16.toUInt32.toInt32) = z := ⟨_, rfl⟩
   rw [hxc_13] at hbc_13_0 hbc_13_1 ⊢
   show OwnFin _ _ _ _ (T12.setTop (mkF m 50 #[.val (.int p0), .val (.int p1), .val (.int p2), .val (.int p3), .val (.int p4), .val (.int y1_0), .val (.int n_3), .val (.int n_5), .val (.int c_7), .val (.int c_9), .val (.int c_11), .unset, .unset, .unset, .unset, .unset, .unset, .unset, .unset, .unset, .unset, .unset, .unset, .unset, .unset, .unset, .unset, .unset] [(.int c_13)]))
   refine OwnFin.st (fun _ q => XS.istore X12.here hx rfl (hb hby at_50) rfl (l' := #[.val (.int p0), .val (.int p1), .val (.int p2), .val (.int p3), .val (.int p4), .val (.int y1_0), .val (.int n_3), .val (.int n_5), .val (.int c_7), .val (.int c_9), .val (.int c_11), .val (.int c_13), .unset, .unset, .unset, .unset, .unset, .unset, .unset, .unset, .unset, .unset, .unset, .unset, .unset, .unset, .unset, .unset]) rfl q) ?_
   show OwnFin _ _ _ _ (T12.setTop (mkF m 52 _ []))
   refine OwnFin.st (fun _ q => XS.iload X12.here hx rfl (hb hby at_52) rfl q) ?_
   show OwnFin _ _ _ _ (T12.setTop (mkF m 54 _ [(.int n_3)]))
   refine OwnFin.st (fun _ q => XS.iload X12.here hx rfl (hb hby at_54) rfl q) ?_
   show OwnFin _ _ _ _ (T12.setTop (mkF m 56 _ [(.int c_7), (.int n_3)]))
   refine OwnFin.st (fun _ q => XS.iload X12.here hx rfl (hb hby at_56) rfl q) ?_
   show OwnFin _ _ _ _ (T12.setTop (mkF m 58 _ [(.int c_9), (.int c_7), (.int n_3)]))
   obtain ⟨_, _, ⟨T14, L14, k14, n14⟩, -, X14, hS14, hg14, ⟨Lc14, hQ14, l14, y14, z14, hC14⟩, st14⟩ := callSS X12 hx (y := yM8) hown (mvT hZ (w_ hw 10 rfl)) (mvT hZ (w_ hw 11 rfl)) (mvT hZ (w_ hw 2 rfl)) (mvT hZ (w_ hw 12 rfl)) (by decide) (backOfSH (W := 0) (rm_text l Z av0 hw [] n_3 c_7 c_9 w_COMPACT_STRINGS h0 n0 (Nat.le_trans Z0 kp0.1) Ol0 (own_narc hbc_7_0 hbc_7_1) (own_narc hbc_9_0 hbc_9_1) hbc_7_1 hbc_9_1 hcs hbn_3_0 hbn_3_1 S_COMPACT_STRINGS) hZ (w_ hw 12 rfl) (w_ hw 2 rfl) (by decide) (by decide) (own_EW hw) ch0.1) (g := (mkF m 58 #[.val (.int p0), .val (.int p1), .val (.int p2), .val (.int p3), .val (.int p4), .val (.int y1_0), .val (.int n_3), .val (.int n_5), .val (.int c_7), .val (.int c_9), .val (.int c_11), .val (.int c_13), .unset, .unset, .unset, .unset, .unset, .unset, .unset, .unset, .unset, .unset, .unset, .unset, .unset, .unset, .unset, .unset] [(.int c_9), (.int c_7), (.int n_3)])) rfl (by rw [hml]; rfl) (argsL := [(.int n_3), (.int c_7), (.int c_9)]) (rest := []) (lenOf pd_13 rfl) rfl (by show 2 * 0 + _ ≤ _; exact Nat.le_of_eq rfl) (hb hby at_58) (fun _ _ => ⟨rfl, he12, (by decide : 0 + 6 ≤ _), (by decide : 0 + 12 ≤ _)⟩)
   dsimp only [Pt.U, Pt.locs, Pt.cells, Pt.slots] at X14 l14 y14 z14 st14 hQ14 hS14 hg14 hC14
   subst l14 y14 z14
   obtain ⟨c14_0, c14_1, kc14_2, rfl, N14q, K14, r14_0, r14_1, r14_2, r14_3, r14_4⟩ := hQ14
   have N14 := Fr.app N12 N14q
   refine OwnFin.tr st14 ?_
   rw [he12] at hg14
   obtain ⟨h14, e14⟩ : ∃ z, T14.heap = z := ⟨_, rfl⟩
   rw [e14] at K14 r14_1 r14_2 r14_3 r14_4 hg14 hS14 hC14
   have bi_c14_0 : h0.size ≤ c14_0 := r14_0
   have lo_c14_0 : h0.size ≤ c14_0 := Nat.le_trans kp0.1 bi_c14_0
   have g_c14_0 : n0 ≤ c14_0 := Nat.le_trans Z0 lo_c14_0
   have ch15 := ch0.trans (hC14)
   have kp15 : Keep h0 h14 [] := kp0.trans K14 all0
   have ol15 : Old Z n0 h14 := Ol0.keep K14 all0
   obtain ⟨Xr14, hSr14, hZr14, hor14⟩ := rebS hS0 (Nat.le_trans hk0 (Nat.le_refl _)) X14 hS14 hg14 hZ hown
   show OwnFin _ _ _ _ (T14.setTop (mkF m 61 _ [(.ref c14_0)]))
   refine OwnFin.st (fun _ q => XS.astore Xr14.here hx rfl (hb hby at_61) rfl rfl (l' := #[.val (.int p0), .val (.int p1), .val (.int p2), .val (.int p3), .val (.int p4), .val (.int y1_0), .val (.int n_3), .val (.int n_5), .val (.int c_7), .val (.int c_9), .val (.int c_11), .val (.int c_13), .val (.ref c14_0), .unset, .unset, .unset, .unset, .unset, .unset, .unset, .unset, .unset, .unset, .unset, .unset, .unset, .unset, .unset]) rfl q) ?_
   show OwnFin _ _ _ _ (T14.setTop (mkF m 63 _ []))
   refine OwnFin.st (fun _ q => XS.iload Xr14.here hx rfl (hb hby at_63) rfl q) ?_
   show OwnFin _ _ _ _ (T14.setTop (mkF m 65 _ [(.int n_5)]))
   refine OwnFin.st (fun _ q => XS.iload Xr14.here hx rfl (hb hby at_65) rfl q) ?_
   show OwnFin _ _ _ _ (T14.setTop (mkF m 67 _ [(.int c_11), (.int n_5)]))
   refine OwnFin.st (fun _ q => XS.iload Xr14.here hx rfl (hb hby at_67) rfl q) ?_
   show OwnFin _ _ _ _ (T14.setTop (mkF m 69 _ [(.int c_13), (.int c_11), (.int n_5)]))
   obtain ⟨_, _, ⟨T16, L16, k16, n16⟩, -, X16, hS16, hg16, ⟨Lc16, hQ16, l16, y16, z16, hC16⟩, st16⟩ := callSS Xr14 hx (y := yM8) hor14 (mvT hZr14 (w_ hw 10 rfl)) (mvT hZr14 (w_ hw 11 rfl)) (mvT hZr14 (w_ hw 2 rfl)) (mvT hZr14 (w_ hw 12 rfl)) (by decide) (backOfSH (W := 0) (rm_text l Z av0 hw [] n_5 c_11 c_13 w_COMPACT_STRINGS h14 n0 (Nat.le_trans Z0 kp15.1) ol15 (own_narc hbc_11_0 hbc_11_1) (own_narc hbc_13_0 hbc_13_1) hbc_11_1 hbc_13_1 hcs hbn_5_0 hbn_5_1 S_COMPACT_STRINGS) hZr14 (w_ hw 12 rfl) (w_ hw 2 rfl) (by decide) (by decide) (own_EW hw) ch15.1) (g := (mkF m 69 #[.val (.int p0), .val (.int p1), .val (.int p2), .val (.int p3), .val (.int p4), .val (.int y1_0), .val (.int n_3), .val (.int n_5), .val (.int c_7), .val (.int c_9), .val (.int c_11), .val (.int c_13), .val (.ref c14_0), .unset, .unset, .unset, .unset, .unset, .unset, .unset, .unset, .unset, .unset, .unset, .unset, .unset, .unset, .unset] [(.int c_13), (.int c_11), (.int n_5)])) rfl (by rw [hml]; rfl) (argsL := [(.int n_5), (.int c_11), (.int c_13)]) (rest := []) (lenOf pd_13 rfl) rfl (by show 2 * 0 + _ ≤ _; exact Nat.le_of_eq rfl) (hb hby at_69) (fun _ _ => ⟨rfl, e14, (by decide : 6 + 6 ≤ _), (by decide : 12 + 12 ≤ _)⟩)
   dsimp only [Pt.U, Pt.locs, Pt.cells, Pt.slots] at X16 l16 y16 z16 st16 hQ16 hS16 hg16 hC16
   subst l16 y16 z16
   obtain ⟨c16_0, c16_1, kc16_2, rfl, N16q, K16, r16_0, r16_1, r16_2, r16_3, r16_4⟩ := hQ16
   have N16 := Fr.app N14 N16q
   refine OwnFin.tr st16 ?_
   rw [e14] at hg16
   obtain ⟨h16, e16⟩ : ∃ z, T16.heap = z := ⟨_, rfl⟩
   rw [e16] at K16 r16_1 r16_2 r16_3 r16_4 hg16 hS16 hC16
   have bi_c16_0 : h14.size ≤ c16_0 := r16_0
   have lo_c16_0 : h0.size ≤ c16_0 := Nat.le_trans kp15.1 bi_c16_0
   have g_c16_0 : n0 ≤ c16_0 := Nat.le_trans Z0 lo_c16_0
   have ch17 := ch15.trans (hC16)
   have kp17 : Keep h0 h16 [] := kp15.trans K16 all0
   have ol17 : Old Z n0 h16 := ol15.keep K16 all0
   obtain ⟨Xr16, hSr16, hZr16, hor16⟩ := rebS hSr14 (Nat.le_trans (Nat.le_refl _) (Nat.le_refl _)) X16 hS16 hg16 hZr14 hor14
   show OwnFin _ _ _ _ (T16.setTop (mkF m 72 _ [(.ref c16_0)]))
   refine OwnFin.st (fun _ q => XS.astore Xr16.here hx rfl (hb hby at_72) rfl rfl (l' := #[.val (.int p0), .val (.int p1), .val (.int p2), .val (.int p3), .val (.int p4), .val (.int y1_0), .val (.int n_3), .val (.int n_5), .val (.int c_7), .val (.int c_9), .val (.int c_11), .val (.int c_13), .val (.ref c14_0), .val (.ref c16_0), .unset, .unset, .unset, .unset, .unset, .unset, .unset, .unset, .unset, .unset, .unset, .unset, .unset, .unset]) rfl q) ?_
   show OwnFin _ _ _ _ (T16.setTop (mkF m 74 _ []))
   refine OwnFin.st (fun _ q => XS.iloadN Xr16.here hx rfl (hb hby at_74) rfl q) ?_
   show OwnFin _ _ _ _ (T16.setTop (mkF m 75 _ [(.int p2)]))
   refine OwnFin.st (fun _ q => XS.iconst Xr16.here hx rfl (hb hby at_75) q) ?_
   show OwnFin _ _ _ _ (T16.setTop (mkF m 76 #[.val (.int p0), .val (.int p1), .val (.int p2), .val (.int p3), .val (.int p4), .val (.int y1_0), .val (.int n_3), .val (.int n_5), .val (.int c_7), .val (.int c_9), .val (.int c_11), .val (.int c_13), .val (.ref c14_0), .val (.ref c16_0), .unset, .unset, .unset, .unset, .unset, .unset, .unset, .unset, .unset, .unset, .unset, .unset, .unset, .unset] [(.int 1), (.int p2)]))
   refine OwnFin.st (fun _ q => XS.iushr Xr16.here hx rfl (hb hby at_76) rfl q) ?_
   show OwnFin _ _ _ _ (T16.setTop (mkF m 77 _ [(.int ((p2.toUInt32 >>> ((1 : Int32) &&& 31).toUInt32).toInt32))]))
   refine OwnFin.st (fun _ q => XS.iconst Xr16.here hx rfl (hb hby at_77) q) ?_
   show OwnFin _ _ _ _ (T16.setTop (mkF m 78 _ [(.int 1), (.int ((p2.toUInt32 >>> ((1 : Int32) &&& 31).toUInt32).toInt32))]))
   refine OwnFin.st (fun _ q => XS.iand Xr16.here hx rfl (hb hby at_78) rfl q) ?_
   show OwnFin _ _ _ _ (T16.setTop (mkF m 79 _ [(.int (((p2.toUInt32 >>> ((1 : Int32) &&& 31).toUInt32).toInt32) &&& (1 : Int32)))]))
   have hbph_18_0 := (om_rm0_12 p2)
   have hbph_18_1 := (om_rm0_13 p2)
   obtain ⟨ph_18, hxph_18⟩ : ∃ z : Int32, (((p2.toUInt32 >>> ((1 : Int32) &&& 31).toUInt32).toInt32) &&& (1 : Int32)) = z := ⟨_, rfl⟩
   rw [hxph_18] at hbph_18_0 hbph_18_1 ⊢
   show OwnFin _ _ _ _ (T16.setTop (mkF m 79 #[.val (.int p0), .val (.int p1), .val (.int p2), .val (.int p3), .val (.int p4), .val (.int y1_0), .val (.int n_3), .val (.int n_5), .val (.int c_7), .val (.int c_9), .val (.int c_11), .val (.int c_13), .val (.ref c14_0), .val (.ref c16_0), .unset, .unset, .unset, .unset, .unset, .unset, .unset, .unset, .unset, .unset, .unset, .unset, .unset, .unset] [(.int ph_18)]))
   refine OwnFin.st (fun _ q => XS.istore Xr16.here hx rfl (hb hby at_79) rfl (l' := #[.val (.int p0), .val (.int p1), .val (.int p2), .val (.int p3), .val (.int p4), .val (.int y1_0), .val (.int n_3), .val (.int n_5), .val (.int c_7), .val (.int c_9), .val (.int c_11), .val (.int c_13), .val (.ref c14_0), .val (.ref c16_0), .val (.int ph_18), .unset, .unset, .unset, .unset, .unset, .unset, .unset, .unset, .unset, .unset, .unset, .unset, .unset]) rfl q) ?_
   show OwnFin _ _ _ _ (T16.setTop (mkF m 81 _ []))
   refine OwnFin.st (fun _ q => XS.iloadN Xr16.here hx rfl (hb hby at_81) rfl q) ?_
   show OwnFin _ _ _ _ (T16.setTop (mkF m 82 _ [(.int p2)]))
   refine OwnFin.st (fun _ q => XS.iconst Xr16.here hx rfl (hb hby at_82) q) ?_
   show OwnFin _ _ _ _ (T16.setTop (mkF m 83 _ [(.int 2), (.int p2)]))
   refine OwnFin.st (fun _ q => XS.iushr Xr16.here hx rfl (hb hby at_83) rfl q) ?_
   show OwnFin _ _ _ _ (T16.setTop (mkF m 84 _ [(.int ((p2.toUInt32 >>> ((2 : Int32) &&& 31).toUInt32).toInt32))]))
   refine OwnFin.st (fun _ q => XS.iconst Xr16.here hx rfl (hb hby at_84) q) ?_
   show OwnFin _ _ _ _ (T16.setTop (mkF m 85 _ [(.int 1), (.int ((p2.toUInt32 >>> ((2 : Int32) &&& 31).toUInt32).toInt32))]))
   refine OwnFin.st (fun _ q => XS.iand Xr16.here hx rfl (hb hby at_85) rfl q) ?_
   show OwnFin _ _ _ _ (T16.setTop (mkF m 86 _ [(.int (((p2.toUInt32 >>> ((2 : Int32) &&& 31).toUInt32).toInt32) &&& (1 : Int32)))]))
   have hbph_19_0 := (om_rm0_14 p2)
   have hbph_19_1 := (om_rm0_15 p2)
   obtain ⟨ph_19, hxph_19⟩ : ∃ z : Int32, (((p2.toUInt32 >>> ((2 : Int32) &&& 31).toUInt32).toInt32) &&& (1 : Int32)) = z := ⟨_, rfl⟩
   rw [hxph_19] at hbph_19_0 hbph_19_1 ⊢
   show OwnFin _ _ _ _ (T16.setTop (mkF m 86 #[.val (.int p0), .val (.int p1), .val (.int p2), .val (.int p3), .val (.int p4), .val (.int y1_0), .val (.int n_3), .val (.int n_5), .val (.int c_7), .val (.int c_9), .val (.int c_11), .val (.int c_13), .val (.ref c14_0), .val (.ref c16_0), .val (.int ph_18), .unset, .unset, .unset, .unset, .unset, .unset, .unset, .unset, .unset, .unset, .unset, .unset, .unset] [(.int ph_19)]))
   refine OwnFin.st (fun _ q => XS.istore Xr16.here hx rfl (hb hby at_86) rfl (l' := #[.val (.int p0), .val (.int p1), .val (.int p2), .val (.int p3), .val (.int p4), .val (.int y1_0), .val (.int n_3), .val (.int n_5), .val (.int c_7), .val (.int c_9), .val (.int c_11), .val (.int c_13), .val (.ref c14_0), .val (.ref c16_0), .val (.int ph_18), .val (.int ph_19), .unset, .unset, .unset, .unset, .unset, .unset, .unset, .unset, .unset, .unset, .unset, .unset]) rfl q) ?_
   show OwnFin _ _ _ _ (T16.setTop (mkF m 88 _ []))
   refine OwnFin.st (fun _ q => XS.iload Xr16.here hx rfl (hb hby at_88) rfl q) ?_
   show OwnFin _ _ _ _ (T16.setTop (mkF m 90 _ [(.int ph_18)]))
   have H20 : ∀ (T : State) (lc : List Loc), Stand p l e room_1 (s.setVm T16.vm) m #[(.int p0), (.int p1), (.int p2), (.int p3), (.int p4)] below meth c T lc 12 24 → Fr n0 lc → T.heap = h16 → OwnFin p.tables e below (fun o U' => ∃ v L, o = .returned v ∧ Q_rm0 Z p0 p1 p2 p3 p4 w_TEAR_DOWN w_SET_UP w_COMPACT_STRINGS h0 n0 v U'.heap L ∧ CHr Z own_EL s.vm s.heap U'.vm U'.heap ∧ ReturnedEndW s o U' L room_1.cells room_1.slots) (T.setTop (mkF m 102 #[.val (.int p0), .val (.int p1), .val (.int p2), .val (.int p3), .val (.int p4), .val (.int y1_0), .val (.int n_3), .val (.int n_5), .val (.int c_7), .val (.int c_9), .val (.int c_11), .val (.int c_13), .val (.ref c14_0), .val (.ref c16_0), .val (.int ph_18), .val (.int ph_19), .unset, .unset, .unset, .unset, .unset, .unset, .unset, .unset, .unset, .unset, .unset, .unset] [(.ref (if ph_18 = (0 : Int32) then w_SET_UP else w_TEAR_DOWN))])) := by
    intro T20 lc20 X20 N20 e20
    have Xm23 : Exa Z Z.heap (if ph_18 = (0 : Int32) then w_SET_UP else w_TEAR_DOWN) "com/example/neat_order/neatorder/model/LifecycleFailure$Phase" := by split; exact X_w_SET_UP; exact X_w_TEAR_DOWN
    show OwnFin _ _ _ _ (T20.setTop (mkF m 102 #[.val (.int p0), .val (.int p1), .val (.int p2), .val (.int p3), .val (.int p4), .val (.int y1_0), .val (.int n_3), .val (.int n_5), .val (.int c_7), .val (.int c_9), .val (.int c_11), .val (.int c_13), .val (.ref c14_0), .val (.ref c16_0), .val (.int ph_18), .val (.int ph_19), .unset, .unset, .unset, .unset, .unset, .unset, .unset, .unset, .unset, .unset, .unset, .unset] [(.ref (if ph_18 = (0 : Int32) then w_SET_UP else w_TEAR_DOWN))]))
    refine OwnFin.st (fun _ q => XS.astore X20.here hx rfl (hb hby at_102) rfl rfl (l' := #[.val (.int p0), .val (.int p1), .val (.int p2), .val (.int p3), .val (.int p4), .val (.int y1_0), .val (.int n_3), .val (.int n_5), .val (.int c_7), .val (.int c_9), .val (.int c_11), .val (.int c_13), .val (.ref c14_0), .val (.ref c16_0), .val (.int ph_18), .val (.int ph_19), .val (.ref (if ph_18 = (0 : Int32) then w_SET_UP else w_TEAR_DOWN)), .unset, .unset, .unset, .unset, .unset, .unset, .unset, .unset, .unset, .unset, .unset]) rfl q) ?_
    show OwnFin _ _ _ _ (T20.setTop (mkF m 104 _ []))
    refine OwnFin.st (fun _ q => XS.iload X20.here hx rfl (hb hby at_104) rfl q) ?_
    show OwnFin _ _ _ _ (T20.setTop (mkF m 106 _ [(.int ph_19)]))
    have H24 : ∀ (T : State) (lc : List Loc), Stand p l e room_1 (s.setVm T16.vm) m #[(.int p0), (.int p1), (.int p2), (.int p3), (.int p4)] below meth c T lc 12 24 → Fr n0 lc → T.heap = h16 → OwnFin p.tables e below (fun o U' => ∃ v L, o = .returned v ∧ Q_rm0 Z p0 p1 p2 p3 p4 w_TEAR_DOWN w_SET_UP w_COMPACT_STRINGS h0 n0 v U'.heap L ∧ CHr Z own_EL s.vm s.heap U'.vm U'.heap ∧ ReturnedEndW s o U' L room_1.cells room_1.slots) (T.setTop (mkF m 118 #[.val (.int p0), .val (.int p1), .val (.int p2), .val (.int p3), .val (.int p4), .val (.int y1_0), .val (.int n_3), .val (.int n_5), .val (.int c_7), .val (.int c_9), .val (.int c_11), .val (.int c_13), .val (.ref c14_0), .val (.ref c16_0), .val (.int ph_18), .val (.int ph_19), .val (.ref (if ph_18 = (0 : Int32) then w_SET_UP else w_TEAR_DOWN)), .unset, .unset, .unset, .unset, .unset, .unset, .unset, .unset, .unset, .unset, .unset] [(.ref (if ph_19 = (0 : Int32) then w_SET_UP else w_TEAR_DOWN))])) := by
     intro T24 lc24 X24 N24 e24
     have Xm27 : Exa Z Z.heap (if ph_19 = (0 : Int32) then w_SET_UP else w_TEAR_DOWN) "com/example/neat_order/neatorder/model/LifecycleFailure$Phase" := by split; exact X_w_SET_UP; exact X_w_TEAR_DOWN
     show OwnFin _ _ _ _ (T24.setTop (mkF m 118 #[.val (.int p0), .val (.int p1), .val (.int p2), .val (.int p3), .val (.int p4), .val (.int y1_0), .val (.int n_3), .val (.int n_5), .val (.int c_7), .val (.int c_9), .val (.int c_11), .val (.int c_13), .val (.ref c14_0), .val (.ref c16_0), .val (.int ph_18), .val (.int ph_19), .val (.ref (if ph_18 = (0 : Int32) then w_SET_UP else w_TEAR_DOWN)), .unset, .unset, .unset, .unset, .unset, .unset, .unset, .unset, .unset, .unset, .unset] [(.ref (if ph_19 = (0 : Int32) then w_SET_UP else w_TEAR_DOWN))]))
     refine OwnFin.st (fun _ q => XS.astore X24.here hx rfl (hb hby at_118) rfl rfl (l' := #[.val (.int p0), .val (.int p1), .val (.int p2), .val (.int p3), .val (.int p4), .val (.int y1_0), .val (.int n_3), .val (.int n_5), .val (.int c_7), .val (.int c_9), .val (.int c_11), .val (.int c_13), .val (.ref c14_0), .val (.ref c16_0), .val (.int ph_18), .val (.int ph_19), .val (.ref (if ph_18 = (0 : Int32) then w_SET_UP else w_TEAR_DOWN)), .val (.ref (if ph_19 = (0 : Int32) then w_SET_UP else w_TEAR_DOWN)), .unset, .unset, .unset, .unset, .unset, .unset, .unset, .unset, .unset, .unset]) rfl q) ?_
     show OwnFin _ _ _ _ (T24.setTop (mkF m 120 _ []))
     refine OwnFin.st (fun _ q => XS.iloadN X24.here hx rfl (hb hby at_120) rfl q) ?_
     show OwnFin _ _ _ _ (T24.setTop (mkF m 121 _ [(.int p3)]))
     obtain ⟨_, _, ⟨T28, L28, k28, n28⟩, -, X28, ⟨Lc28, hQ28, l28, y28, z28⟩, st28⟩ := Jvm.LawKit.callS X24 hx (y := yM5) hor16 (mvT hZr16 (w_ hw 0 rfl)) (mvT hZr16 (w_ hw 1 rfl)) (mvT hZr16 (w_ hw 2 rfl)) (mvT hZr16 (w_ hw 3 rfl)) (by decide) (backOf (W := 0) (rm_len l Z av0 hw [] p3 h16 n0 (Nat.le_trans Z0 kp17.1) ) hZr16 (w_ hw 3 rfl) (w_ hw 2 rfl) (by decide) (by decide)) (g := (mkF m 121 #[.val (.int p0), .val (.int p1), .val (.int p2), .val (.int p3), .val (.int p4), .val (.int y1_0), .val (.int n_3), .val (.int n_5), .val (.int c_7), .val (.int c_9), .val (.int c_11), .val (.int c_13), .val (.ref c14_0), .val (.ref c16_0), .val (.int ph_18), .val (.int ph_19), .val (.ref (if ph_18 = (0 : Int32) then w_SET_UP else w_TEAR_DOWN)), .val (.ref (if ph_19 = (0 : Int32) then w_SET_UP else w_TEAR_DOWN)), .unset, .unset, .unset, .unset, .unset, .unset, .unset, .unset, .unset, .unset] [(.int p3)])) rfl (by rw [hml]; rfl) (argsL := [(.int p3)]) (rest := []) (lenOf pd_11 rfl) rfl (by show 2 * 0 + _ ≤ _; exact Nat.le_of_eq rfl) (hb hby at_121) (fun _ _ => ⟨rfl, e24, (by decide : 12 + 0 ≤ _), (by decide : 24 + 0 ≤ _)⟩)
     dsimp only [Pt.U, Pt.locs, Pt.cells, Pt.slots] at X28 l28 y28 z28 st28 hQ28
     subst l28 y28 z28
     obtain ⟨rfl, N28q, he28⟩ := hQ28
     have N28 := Fr.app N24 N28q
     refine OwnFin.st st28 ?_
     show OwnFin _ _ _ _ (T28.setTop (mkF m 124 _ [(.int ((((p3.toUInt32 >>> ((16 : Int32) &&& 31).toUInt32).toInt32) &&& (255 : Int32)) % (3 : Int32)))]))
     obtain ⟨m_29, hxm_29⟩ : ∃ z : Int32, ((((p3.toUInt32 >>> ((16 : Int32) &&& 31).toUInt32).toInt32) &&& (255 : Int32)) % (3 : Int32)) = z := ⟨_, rfl⟩
     rw [hxm_29]
     show OwnFin _ _ _ _ (T28.setTop (mkF m 124 #[.val (.int p0), .val (.int p1), .val (.int p2), .val (.int p3), .val (.int p4), .val (.int y1_0), .val (.int n_3), .val (.int n_5), .val (.int c_7), .val (.int c_9), .val (.int c_11), .val (.int c_13), .val (.ref c14_0), .val (.ref c16_0), .val (.int ph_18), .val (.int ph_19), .val (.ref (if ph_18 = (0 : Int32) then w_SET_UP else w_TEAR_DOWN)), .val (.ref (if ph_19 = (0 : Int32) then w_SET_UP else w_TEAR_DOWN)), .unset, .unset, .unset, .unset, .unset, .unset, .unset, .unset, .unset, .unset] [(.int m_29)]))
     refine OwnFin.st (fun _ q => XS.iloadN X28.here hx rfl (hb hby at_124) rfl q) ?_
     show OwnFin _ _ _ _ (T28.setTop (mkF m 125 _ [(.int p3), (.int m_29)]))
     obtain ⟨_, _, ⟨T30, L30, k30, n30⟩, -, X30, ⟨Lc30, hQ30, l30, y30, z30⟩, st30⟩ := Jvm.LawKit.callS X28 hx (y := yM6) hor16 (mvT hZr16 (w_ hw 4 rfl)) (mvT hZr16 (w_ hw 5 rfl)) (mvT hZr16 (w_ hw 2 rfl)) (mvT hZr16 (w_ hw 6 rfl)) (by decide) (backOf (W := 1) (rm_ch0 l Z av0 hw [] p3 h16 n0 (Nat.le_trans Z0 kp17.1) ) hZr16 (w_ hw 6 rfl) (w_ hw 2 rfl) (by decide) (by decide)) (g := (mkF m 125 #[.val (.int p0), .val (.int p1), .val (.int p2), .val (.int p3), .val (.int p4), .val (.int y1_0), .val (.int n_3), .val (.int n_5), .val (.int c_7), .val (.int c_9), .val (.int c_11), .val (.int c_13), .val (.ref c14_0), .val (.ref c16_0), .val (.int ph_18), .val (.int ph_19), .val (.ref (if ph_18 = (0 : Int32) then w_SET_UP else w_TEAR_DOWN)), .val (.ref (if ph_19 = (0 : Int32) then w_SET_UP else w_TEAR_DOWN)), .unset, .unset, .unset, .unset, .unset, .unset, .unset, .unset, .unset, .unset] [(.int p3), (.int m_29)])) rfl (by rw [hml]; rfl) (argsL := [(.int p3)]) (rest := [(.int m_29)]) (lenOf pd_12 rfl) rfl (by show 2 * 0 + _ ≤ _; exact Nat.le_of_eq rfl) (hb hby at_125) (fun _ _ => ⟨rfl, he28, (by decide : 12 + 0 ≤ _), (by decide : 24 + 0 ≤ _)⟩)
     dsimp only [Pt.U, Pt.locs, Pt.cells, Pt.slots] at X30 l30 y30 z30 st30 hQ30
     subst l30 y30 z30
     obtain ⟨rfl, N30q, he30⟩ := hQ30
     have N30 := Fr.app N28 N30q
     refine OwnFin.st st30 ?_
     show OwnFin _ _ _ _ (T30.setTop (mkF m 128 _ [(.int ((p3 &&& (255 : Int32)).toUInt32.toUInt16.toUInt32.toInt32)), (.int m_29)]))
     have hbc_31_0 := (om_rm0_16 p3)
     have hbc_31_1 := (om_rm0_17 p3)
     obtain ⟨c_31, hxc_31⟩ : ∃ z : Int32, ((p3 &&& (255 : Int32)).toUInt32.toUInt16.toUInt32.toInt32) = z := ⟨_, rfl⟩
     rw [hxc_31] at hbc_31_0 hbc_31_1 ⊢
     show OwnFin _ _ _ _ (T30.setTop (mkF m 128 #[.val (.int p0), .val (.int p1), .val (.int p2), .val (.int p3), .val (.int p4), .val (.int y1_0), .val (.int n_3), .val (.int n_5), .val (.int c_7), .val (.int c_9), .val (.int c_11), .val (.int c_13), .val (.ref c14_0), .val (.ref c16_0), .val (.int ph_18), .val (.int ph_19), .val (.ref (if ph_18 = (0 : Int32) then w_SET_UP else w_TEAR_DOWN)), .val (.ref (if ph_19 = (0 : Int32) then w_SET_UP else w_TEAR_DOWN)), .unset, .unset, .unset, .unset, .unset, .unset, .unset, .unset, .unset, .unset] [(.int c_31), (.int m_29)]))
     refine OwnFin.st (fun _ q => XS.iloadN X30.here hx rfl (hb hby at_128) rfl q) ?_
     show OwnFin _ _ _ _ (T30.setTop (mkF m 129 _ [(.int p3), (.int c_31), (.int m_29)]))
     obtain ⟨_, _, ⟨T32, L32, k32, n32⟩, -, X32, ⟨Lc32, hQ32, l32, y32, z32⟩, st32⟩ := Jvm.LawKit.callS X30 hx (y := yM7) hor16 (mvT hZr16 (w_ hw 7 rfl)) (mvT hZr16 (w_ hw 8 rfl)) (mvT hZr16 (w_ hw 2 rfl)) (mvT hZr16 (w_ hw 9 rfl)) (by decide) (backOf (W := 2) (rm_ch1 l Z av0 hw [] p3 h16 n0 (Nat.le_trans Z0 kp17.1) ) hZr16 (w_ hw 9 rfl) (w_ hw 2 rfl) (by decide) (by decide)) (g := (mkF m 129 #[.val (.int p0), .val (.int p1), .val (.int p2), .val (.int p3), .val (.int p4), .val (.int y1_0), .val (.int n_3), .val (.int n_5), .val (.int c_7), .val (.int c_9), .val (.int c_11), .val (.int c_13), .val (.ref c14_0), .val (.ref c16_0), .val (.int ph_18), .val (.int ph_19), .val (.ref (if ph_18 = (0 : Int32) then w_SET_UP else w_TEAR_DOWN)), .val (.ref (if ph_19 = (0 : Int32) then w_SET_UP else w_TEAR_DOWN)), .unset, .unset, .unset, .unset, .unset, .unset, .unset, .unset, .unset, .unset] [(.int p3), (.int c_31), (.int m_29)])) rfl (by rw [hml]; rfl) (argsL := [(.int p3)]) (rest := [(.int c_31), (.int m_29)]) (lenOf pd_12 rfl) rfl (by show 2 * 0 + _ ≤ _; exact Nat.le_of_eq rfl) (hb hby at_129) (fun _ _ => ⟨rfl, he30, (by decide : 12 + 0 ≤ _), (by decide : 24 + 0 ≤ _)⟩)
     dsimp only [Pt.U, Pt.locs, Pt.cells, Pt.slots] at X32 l32 y32 z32 st32 hQ32
     subst l32 y32 z32
     obtain ⟨rfl, N32q, he32⟩ := hQ32
     have N32 := Fr.app N30 N32q
     refine OwnFin.st st32 ?_
     show OwnFin _ _ _ _ (T32.setTop (mkF m 132 _ [(.int ((((p3.toUInt32 >>> ((8 : Int32) &&& 31).toUInt32).toInt32) &&& (255 : Int32)).toUInt32.toUInt16.toUInt32.toInt32)), (.int c_31), (.int m_29)]))
     have hbc_33_0 := (om_rm0_18 p3)
     have hbc_33_1 := (om_rm0_19 p3)
     obtain ⟨c_33, hxc_33⟩ : ∃ z : Int32, ((((p3.toUInt32 >>> ((8 : Int32) &&& 31).toUInt32).toInt32) &&& (255 : Int32)).toUInt32.toUInt16.toUInt32.toInt32) = z := ⟨_, rfl⟩
     rw [hxc_33] at hbc_33_0 hbc_33_1 ⊢
     show OwnFin _ _ _ _ (T32.setTop (mkF m 132 #[.val (.int p0), .val (.int p1), .val (.int p2), .val (.int p3), .val (.int p4), .val (.int y1_0), .val (.int n_3), .val (.int n_5), .val (.int c_7), .val (.int c_9), .val (.int c_11), .val (.int c_13), .val (.ref c14_0), .val (.ref c16_0), .val (.int ph_18), .val (.int ph_19), .val (.ref (if ph_18 = (0 : Int32) then w_SET_UP else w_TEAR_DOWN)), .val (.ref (if ph_19 = (0 : Int32) then w_SET_UP else w_TEAR_DOWN)), .unset, .unset, .unset, .unset, .unset, .unset, .unset, .unset, .unset, .unset] [(.int c_33), (.int c_31), (.int m_29)]))
     obtain ⟨_, _, ⟨T34, L34, k34, n34⟩, -, X34, hS34, hg34, ⟨Lc34, hQ34, l34, y34, z34, hC34⟩, st34⟩ := callSS X32 hx (y := yM8) hor16 (mvT hZr16 (w_ hw 10 rfl)) (mvT hZr16 (w_ hw 11 rfl)) (mvT hZr16 (w_ hw 2 rfl)) (mvT hZr16 (w_ hw 12 rfl)) (by decide) (backOfSH (W := 0) (rm_textW l Z av0 hw [] m_29 c_31 c_33 w_COMPACT_STRINGS h16 n0 (Nat.le_trans Z0 kp17.1) ol17 (own_narc hbc_31_0 hbc_31_1) (own_narc hbc_33_0 hbc_33_1) hbc_31_1 hbc_33_1 hcs S_COMPACT_STRINGS) hZr16 (w_ hw 12 rfl) (w_ hw 2 rfl) (by decide) (by decide) (own_EW hw) ch17.1) (g := (mkF m 132 #[.val (.int p0), .val (.int p1), .val (.int p2), .val (.int p3), .val (.int p4), .val (.int y1_0), .val (.int n_3), .val (.int n_5), .val (.int c_7), .val (.int c_9), .val (.int c_11), .val (.int c_13), .val (.ref c14_0), .val (.ref c16_0), .val (.int ph_18), .val (.int ph_19), .val (.ref (if ph_18 = (0 : Int32) then w_SET_UP else w_TEAR_DOWN)), .val (.ref (if ph_19 = (0 : Int32) then w_SET_UP else w_TEAR_DOWN)), .unset, .unset, .unset, .unset, .unset, .unset, .unset, .unset, .unset, .unset] [(.int c_33), (.int c_31), (.int m_29)])) rfl (by rw [hml]; rfl) (argsL := [(.int m_29), (.int c_31), (.int c_33)]) (rest := []) (lenOf pd_13 rfl) rfl (by show 2 * 0 + _ ≤ _; exact Nat.le_of_eq rfl) (hb hby at_132) (fun _ _ => ⟨rfl, he32, (by decide : 12 + 6 ≤ _), (by decide : 24 + 12 ≤ _)⟩)
     dsimp only [Pt.U, Pt.locs, Pt.cells, Pt.slots] at X34 l34 y34 z34 st34 hQ34 hS34 hg34 hC34
     subst l34 y34 z34
     obtain ⟨c34_0, c34_1, kc34_2, zc34_3, vc34_4, rfl, N34q, K34, r34_0, r34_1, r34_2, r34_3⟩ := hQ34
     have N34 := Fr.app N32 N34q
     refine OwnFin.tr st34 ?_
     rw [he32] at hg34
     obtain ⟨h34, e34⟩ : ∃ z, T34.heap = z := ⟨_, rfl⟩
     rw [e34] at K34 r34_1 r34_2 r34_3 hg34 hS34 hC34
     have bi_c34_0 : h16.size ≤ c34_0 := r34_0
     have lo_c34_0 : h0.size ≤ c34_0 := Nat.le_trans kp17.1 bi_c34_0
     have g_c34_0 : n0 ≤ c34_0 := Nat.le_trans Z0 lo_c34_0
     have ch35 := ch17.trans (hC34)
     have kp35 : Keep h0 h34 [] := kp17.trans K34 all0
     have ol35 : Old Z n0 h34 := ol17.keep K34 all0
     obtain ⟨Xr34, hSr34, hZr34, hor34⟩ := rebS hSr16 (Nat.le_trans (Nat.le_refl _) (Nat.le_refl _)) X34 hS34 hg34 hZr16 hor16
     show OwnFin _ _ _ _ (T34.setTop (mkF m 135 _ [(.ref c34_0)]))
     obtain ⟨_, _, ⟨T36, L36, k36, n36⟩, -, X36, ⟨Lc36, hQ36, l36, y36, z36⟩, st36⟩ := Jvm.LawKit.callS Xr34 hx (y := yM12) hor34 (mvT hZr34 (w_ hw 40 rfl)) (mvT hZr34 (w_ hw 41 rfl)) (mvT hZr34 (w_ hw 42 rfl)) (mvT hZr34 (w_ hw 43 rfl)) (by decide) (backOf (W := 0) (rm_cof l Z av0 hw [] c34_0 c34_1 kc34_2 vc34_4 zc34_3 h34 n0 (Nat.le_trans Z0 kp35.1) r34_1 r34_2 r34_3) hZr34 (w_ hw 43 rfl) (w_ hw 42 rfl) (by decide) (by decide)) (g := (mkF m 135 #[.val (.int p0), .val (.int p1), .val (.int p2), .val (.int p3), .val (.int p4), .val (.int y1_0), .val (.int n_3), .val (.int n_5), .val (.int c_7), .val (.int c_9), .val (.int c_11), .val (.int c_13), .val (.ref c14_0), .val (.ref c16_0), .val (.int ph_18), .val (.int ph_19), .val (.ref (if ph_18 = (0 : Int32) then w_SET_UP else w_TEAR_DOWN)), .val (.ref (if ph_19 = (0 : Int32) then w_SET_UP else w_TEAR_DOWN)), .unset, .unset, .unset, .unset, .unset, .unset, .unset, .unset, .unset, .unset] [(.ref c34_0)])) rfl (by rw [hml]; rfl) (argsL := [(.ref c34_0)]) (rest := []) (lenOf pd_14 rfl) rfl (by show 2 * 0 + _ ≤ _; exact Nat.le_of_eq rfl) (hb hby at_135) (fun _ _ => ⟨rfl, e34, (by decide : 18 + 1 ≤ _), (by decide : 36 + 3 ≤ _)⟩)
     dsimp only [Pt.U, Pt.locs, Pt.cells, Pt.slots] at X36 l36 y36 z36 st36 hQ36
     subst l36 y36 z36
     obtain ⟨c36_0, rfl, N36q, K36, r36_0, r36_1⟩ := hQ36
     have N36 := Fr.app N34 N36q
     refine OwnFin.st st36 ?_
     obtain ⟨h36, e36⟩ : ∃ z, T36.heap = z := ⟨_, rfl⟩
     rw [e36] at K36 r36_1
     have bi_c36_0 : h34.size ≤ c36_0 := r36_0
     have lo_c36_0 : h0.size ≤ c36_0 := Nat.le_trans kp35.1 bi_c36_0
     have g_c36_0 : n0 ≤ c36_0 := Nat.le_trans Z0 lo_c36_0
     have ch37 := ch35.trans (CHr.keep K36 sf0 ch35.1)
     have kp37 : Keep h0 h36 [] := kp35.trans K36 all0
     have ol37 : Old Z n0 h36 := ol35.keep K36 all0
     show OwnFin _ _ _ _ (T36.setTop (mkF m 138 _ [(.ref c36_0)]))
     refine OwnFin.st (fun _ q => XS.astore X36.here hx rfl (hb hby at_138) rfl rfl (l' := #[.val (.int p0), .val (.int p1), .val (.int p2), .val (.int p3), .val (.int p4), .val (.int y1_0), .val (.int n_3), .val (.int n_5), .val (.int c_7), .val (.int c_9), .val (.int c_11), .val (.int c_13), .val (.ref c14_0), .val (.ref c16_0), .val (.int ph_18), .val (.int ph_19), .val (.ref (if ph_18 = (0 : Int32) then w_SET_UP else w_TEAR_DOWN)), .val (.ref (if ph_19 = (0 : Int32) then w_SET_UP else w_TEAR_DOWN)), .val (.ref c36_0), .unset, .unset, .unset, .unset, .unset, .unset, .unset, .unset, .unset]) rfl q) ?_
     show OwnFin _ _ _ _ (T36.setTop (mkF m 140 _ []))
     refine OwnFin.st (fun _ q => XS.iload X36.here hx rfl (hb hby at_140) rfl q) ?_
     show OwnFin _ _ _ _ (T36.setTop (mkF m 142 _ [(.int p4)]))
     obtain ⟨_, _, ⟨T38, L38, k38, n38⟩, -, X38, ⟨Lc38, hQ38, l38, y38, z38⟩, st38⟩ := Jvm.LawKit.callS X36 hx (y := yM5) hor34 (mvT hZr34 (w_ hw 0 rfl)) (mvT hZr34 (w_ hw 1 rfl)) (mvT hZr34 (w_ hw 2 rfl)) (mvT hZr34 (w_ hw 3 rfl)) (by decide) (backOf (W := 0) (rm_len l Z av0 hw [] p4 h36 n0 (Nat.le_trans Z0 kp37.1) ) hZr34 (w_ hw 3 rfl) (w_ hw 2 rfl) (by decide) (by decide)) (g := (mkF m 142 #[.val (.int p0), .val (.int p1), .val (.int p2), .val (.int p3), .val (.int p4), .val (.int y1_0), .val (.int n_3), .val (.int n_5), .val (.int c_7), .val (.int c_9), .val (.int c_11), .val (.int c_13), .val (.ref c14_0), .val (.ref c16_0), .val (.int ph_18), .val (.int ph_19), .val (.ref (if ph_18 = (0 : Int32) then w_SET_UP else w_TEAR_DOWN)), .val (.ref (if ph_19 = (0 : Int32) then w_SET_UP else w_TEAR_DOWN)), .val (.ref c36_0), .unset, .unset, .unset, .unset, .unset, .unset, .unset, .unset, .unset] [(.int p4)])) rfl (by rw [hml]; rfl) (argsL := [(.int p4)]) (rest := []) (lenOf pd_11 rfl) rfl (by show 2 * 0 + _ ≤ _; exact Nat.le_of_eq rfl) (hb hby at_142) (fun _ _ => ⟨rfl, e36, (by decide : 19 + 0 ≤ _), (by decide : 39 + 0 ≤ _)⟩)
     dsimp only [Pt.U, Pt.locs, Pt.cells, Pt.slots] at X38 l38 y38 z38 st38 hQ38
     subst l38 y38 z38
     obtain ⟨rfl, N38q, he38⟩ := hQ38
     have N38 := Fr.app N36 N38q
     refine OwnFin.st st38 ?_
     show OwnFin _ _ _ _ (T38.setTop (mkF m 145 _ [(.int ((((p4.toUInt32 >>> ((16 : Int32) &&& 31).toUInt32).toInt32) &&& (255 : Int32)) % (3 : Int32)))]))
     obtain ⟨m_39, hxm_39⟩ : ∃ z : Int32, ((((p4.toUInt32 >>> ((16 : Int32) &&& 31).toUInt32).toInt32) &&& (255 : Int32)) % (3 : Int32)) = z := ⟨_, rfl⟩
     rw [hxm_39]
     show OwnFin _ _ _ _ (T38.setTop (mkF m 145 #[.val (.int p0), .val (.int p1), .val (.int p2), .val (.int p3), .val (.int p4), .val (.int y1_0), .val (.int n_3), .val (.int n_5), .val (.int c_7), .val (.int c_9), .val (.int c_11), .val (.int c_13), .val (.ref c14_0), .val (.ref c16_0), .val (.int ph_18), .val (.int ph_19), .val (.ref (if ph_18 = (0 : Int32) then w_SET_UP else w_TEAR_DOWN)), .val (.ref (if ph_19 = (0 : Int32) then w_SET_UP else w_TEAR_DOWN)), .val (.ref c36_0), .unset, .unset, .unset, .unset, .unset, .unset, .unset, .unset, .unset] [(.int m_39)]))
     refine OwnFin.st (fun _ q => XS.iload X38.here hx rfl (hb hby at_145) rfl q) ?_
     show OwnFin _ _ _ _ (T38.setTop (mkF m 147 _ [(.int p4), (.int m_39)]))
     obtain ⟨_, _, ⟨T40, L40, k40, n40⟩, -, X40, ⟨Lc40, hQ40, l40, y40, z40⟩, st40⟩ := Jvm.LawKit.callS X38 hx (y := yM6) hor34 (mvT hZr34 (w_ hw 4 rfl)) (mvT hZr34 (w_ hw 5 rfl)) (mvT hZr34 (w_ hw 2 rfl)) (mvT hZr34 (w_ hw 6 rfl)) (by decide) (backOf (W := 1) (rm_ch0 l Z av0 hw [] p4 h36 n0 (Nat.le_trans Z0 kp37.1) ) hZr34 (w_ hw 6 rfl) (w_ hw 2 rfl) (by decide) (by decide)) (g := (mkF m 147 #[.val (.int p0), .val (.int p1), .val (.int p2), .val (.int p3), .val (.int p4), .val (.int y1_0), .val (.int n_3), .val (.int n_5), .val (.int c_7), .val (.int c_9), .val (.int c_11), .val (.int c_13), .val (.ref c14_0), .val (.ref c16_0), .val (.int ph_18), .val (.int ph_19), .val (.ref (if ph_18 = (0 : Int32) then w_SET_UP else w_TEAR_DOWN)), .val (.ref (if ph_19 = (0 : Int32) then w_SET_UP else w_TEAR_DOWN)), .val (.ref c36_0), .unset, .unset, .unset, .unset, .unset, .unset, .unset, .unset, .unset] [(.int p4), (.int m_39)])) rfl (by rw [hml]; rfl) (argsL := [(.int p4)]) (rest := [(.int m_39)]) (lenOf pd_12 rfl) rfl (by show 2 * 0 + _ ≤ _; exact Nat.le_of_eq rfl) (hb hby at_147) (fun _ _ => ⟨rfl, he38, (by decide : 19 + 0 ≤ _), (by decide : 39 + 0 ≤ _)⟩)
     dsimp only [Pt.U, Pt.locs, Pt.cells, Pt.slots] at X40 l40 y40 z40 st40 hQ40
     subst l40 y40 z40
     obtain ⟨rfl, N40q, he40⟩ := hQ40
     have N40 := Fr.app N38 N40q
     refine OwnFin.st st40 ?_
     show OwnFin _ _ _ _ (T40.setTop (mkF m 150 _ [(.int ((p4 &&& (255 : Int32)).toUInt32.toUInt16.toUInt32.toInt32)), (.int m_39)]))
     have hbc_41_0 := (om_rm0_20 p4)
     have hbc_41_1 := (om_rm0_21 p4)
     obtain ⟨c_41, hxc_41⟩ : ∃ z : Int32, ((p4 &&& (255 : Int32)).toUInt32.toUInt16.toUInt32.toInt32) = z := ⟨_, rfl⟩
     rw [hxc_41] at hbc_41_0 hbc_41_1 ⊢
     show OwnFin _ _ _ _ (T40.setTop (mkF m 150 #[.val (.int p0), .val (.int p1), .val (.int p2), .val (.int p3), .val (.int p4), .val (.int y1_0), .val (.int n_3), .val (.int n_5), .val (.int c_7), .val (.int c_9), .val (.int c_11), .val (.int c_13), .val (.ref c14_0), .val (.ref c16_0), .val (.int ph_18), .val (.int ph_19), .val (.ref (if ph_18 = (0 : Int32) then w_SET_UP else w_TEAR_DOWN)), .val (.ref (if ph_19 = (0 : Int32) then w_SET_UP else w_TEAR_DOWN)), .val (.ref c36_0), .unset, .unset, .unset, .unset, .unset, .unset, .unset, .unset, .unset] [(.int c_41), (.int m_39)]))
     refine OwnFin.st (fun _ q => XS.iload X40.here hx rfl (hb hby at_150) rfl q) ?_
     show OwnFin _ _ _ _ (T40.setTop (mkF m 152 _ [(.int p4), (.int c_41), (.int m_39)]))
     obtain ⟨_, _, ⟨T42, L42, k42, n42⟩, -, X42, ⟨Lc42, hQ42, l42, y42, z42⟩, st42⟩ := Jvm.LawKit.callS X40 hx (y := yM7) hor34 (mvT hZr34 (w_ hw 7 rfl)) (mvT hZr34 (w_ hw 8 rfl)) (mvT hZr34 (w_ hw 2 rfl)) (mvT hZr34 (w_ hw 9 rfl)) (by decide) (backOf (W := 2) (rm_ch1 l Z av0 hw [] p4 h36 n0 (Nat.le_trans Z0 kp37.1) ) hZr34 (w_ hw 9 rfl) (w_ hw 2 rfl) (by decide) (by decide)) (g := (mkF m 152 #[.val (.int p0), .val (.int p1), .val (.int p2), .val (.int p3), .val (.int p4), .val (.int y1_0), .val (.int n_3), .val (.int n_5), .val (.int c_7), .val (.int c_9), .val (.int c_11), .val (.int c_13), .val (.ref c14_0), .val (.ref c16_0), .val (.int ph_18), .val (.int ph_19), .val (.ref (if ph_18 = (0 : Int32) then w_SET_UP else w_TEAR_DOWN)), .val (.ref (if ph_19 = (0 : Int32) then w_SET_UP else w_TEAR_DOWN)), .val (.ref c36_0), .unset, .unset, .unset, .unset, .unset, .unset, .unset, .unset, .unset] [(.int p4), (.int c_41), (.int m_39)])) rfl (by rw [hml]; rfl) (argsL := [(.int p4)]) (rest := [(.int c_41), (.int m_39)]) (lenOf pd_12 rfl) rfl (by show 2 * 0 + _ ≤ _; exact Nat.le_of_eq rfl) (hb hby at_152) (fun _ _ => ⟨rfl, he40, (by decide : 19 + 0 ≤ _), (by decide : 39 + 0 ≤ _)⟩)
     dsimp only [Pt.U, Pt.locs, Pt.cells, Pt.slots] at X42 l42 y42 z42 st42 hQ42
     subst l42 y42 z42
     obtain ⟨rfl, N42q, he42⟩ := hQ42
     have N42 := Fr.app N40 N42q
     refine OwnFin.st st42 ?_
     show OwnFin _ _ _ _ (T42.setTop (mkF m 155 _ [(.int ((((p4.toUInt32 >>> ((8 : Int32) &&& 31).toUInt32).toInt32) &&& (255 : Int32)).toUInt32.toUInt16.toUInt32.toInt32)), (.int c_41), (.int m_39)]))
     have hbc_43_0 := (om_rm0_22 p4)
     have hbc_43_1 := (om_rm0_23 p4)
     obtain ⟨c_43, hxc_43⟩ : ∃ z : Int32, ((((p4.toUInt32 >>> ((8 : Int32) &&& 31).toUInt32).toInt32) &&& (255 : Int32)).toUInt32.toUInt16.toUInt32.toInt32) = z := ⟨_, rfl⟩
     rw [hxc_43] at hbc_43_0 hbc_43_1 ⊢
     show OwnFin _ _ _ _ (T42.setTop (mkF m 155 #[.val (.int p0), .val (.int p1), .val (.int p2), .val (.int p3), .val (.int p4), .val (.int y1_0), .val (.int n_3), .val (.int n_5), .val (.int c_7), .val (.int c_9), .val (.int c_11), .val (.int c_13), .val (.ref c14_0), .val (.ref c16_0), .val (.int ph_18), .val (.int ph_19), .val (.ref (if ph_18 = (0 : Int32) then w_SET_UP else w_TEAR_DOWN)), .val (.ref (if ph_19 = (0 : Int32) then w_SET_UP else w_TEAR_DOWN)), .val (.ref c36_0), .unset, .unset, .unset, .unset, .unset, .unset, .unset, .unset, .unset] [(.int c_43), (.int c_41), (.int m_39)]))
     obtain ⟨_, _, ⟨T44, L44, k44, n44⟩, -, X44, hS44, hg44, ⟨Lc44, hQ44, l44, y44, z44, hC44⟩, st44⟩ := callSS X42 hx (y := yM8) hor34 (mvT hZr34 (w_ hw 10 rfl)) (mvT hZr34 (w_ hw 11 rfl)) (mvT hZr34 (w_ hw 2 rfl)) (mvT hZr34 (w_ hw 12 rfl)) (by decide) (backOfSH (W := 0) (rm_textW l Z av0 hw [] m_39 c_41 c_43 w_COMPACT_STRINGS h36 n0 (Nat.le_trans Z0 kp37.1) ol37 (own_narc hbc_41_0 hbc_41_1) (own_narc hbc_43_0 hbc_43_1) hbc_41_1 hbc_43_1 hcs S_COMPACT_STRINGS) hZr34 (w_ hw 12 rfl) (w_ hw 2 rfl) (by decide) (by decide) (own_EW hw) ch37.1) (g := (mkF m 155 #[.val (.int p0), .val (.int p1), .val (.int p2), .val (.int p3), .val (.int p4), .val (.int y1_0), .val (.int n_3), .val (.int n_5), .val (.int c_7), .val (.int c_9), .val (.int c_11), .val (.int c_13), .val (.ref c14_0), .val (.ref c16_0), .val (.int ph_18), .val (.int ph_19), .val (.ref (if ph_18 = (0 : Int32) then w_SET_UP else w_TEAR_DOWN)), .val (.ref (if ph_19 = (0 : Int32) then w_SET_UP else w_TEAR_DOWN)), .val (.ref c36_0), .unset, .unset, .unset, .unset, .unset, .unset, .unset, .unset, .unset] [(.int c_43), (.int c_41), (.int m_39)])) rfl (by rw [hml]; rfl) (argsL := [(.int m_39), (.int c_41), (.int c_43)]) (rest := []) (lenOf pd_13 rfl) rfl (by show 2 * 0 + _ ≤ _; exact Nat.le_of_eq rfl) (hb hby at_155) (fun _ _ => ⟨rfl, he42, (by decide : 19 + 6 ≤ _), (by decide : 39 + 12 ≤ _)⟩)
     dsimp only [Pt.U, Pt.locs, Pt.cells, Pt.slots] at X44 l44 y44 z44 st44 hQ44 hS44 hg44 hC44
     subst l44 y44 z44
     obtain ⟨c44_0, c44_1, kc44_2, zc44_3, vc44_4, rfl, N44q, K44, r44_0, r44_1, r44_2, r44_3⟩ := hQ44
     have N44 := Fr.app N42 N44q
     refine OwnFin.tr st44 ?_
     rw [he42] at hg44
     obtain ⟨h44, e44⟩ : ∃ z, T44.heap = z := ⟨_, rfl⟩
     rw [e44] at K44 r44_1 r44_2 r44_3 hg44 hS44 hC44
     have bi_c44_0 : h36.size ≤ c44_0 := r44_0
     have lo_c44_0 : h0.size ≤ c44_0 := Nat.le_trans kp37.1 bi_c44_0
     have g_c44_0 : n0 ≤ c44_0 := Nat.le_trans Z0 lo_c44_0
     have ch45 := ch37.trans (hC44)
     have kp45 : Keep h0 h44 [] := kp37.trans K44 all0
     have ol45 : Old Z n0 h44 := ol37.keep K44 all0
     obtain ⟨Xr44, hSr44, hZr44, hor44⟩ := rebS hSr34 (Nat.le_trans (Nat.le_refl _) K36.1) X44 hS44 hg44 hZr34 hor34
     show OwnFin _ _ _ _ (T44.setTop (mkF m 158 _ [(.ref c44_0)]))
     obtain ⟨_, _, ⟨T46, L46, k46, n46⟩, -, X46, ⟨Lc46, hQ46, l46, y46, z46⟩, st46⟩ := Jvm.LawKit.callS Xr44 hx (y := yM12) hor44 (mvT hZr44 (w_ hw 40 rfl)) (mvT hZr44 (w_ hw 41 rfl)) (mvT hZr44 (w_ hw 42 rfl)) (mvT hZr44 (w_ hw 43 rfl)) (by decide) (backOf (W := 0) (rm_cof l Z av0 hw [] c44_0 c44_1 kc44_2 vc44_4 zc44_3 h44 n0 (Nat.le_trans Z0 kp45.1) r44_1 r44_2 r44_3) hZr44 (w_ hw 43 rfl) (w_ hw 42 rfl) (by decide) (by decide)) (g := (mkF m 158 #[.val (.int p0), .val (.int p1), .val (.int p2), .val (.int p3), .val (.int p4), .val (.int y1_0), .val (.int n_3), .val (.int n_5), .val (.int c_7), .val (.int c_9), .val (.int c_11), .val (.int c_13), .val (.ref c14_0), .val (.ref c16_0), .val (.int ph_18), .val (.int ph_19), .val (.ref (if ph_18 = (0 : Int32) then w_SET_UP else w_TEAR_DOWN)), .val (.ref (if ph_19 = (0 : Int32) then w_SET_UP else w_TEAR_DOWN)), .val (.ref c36_0), .unset, .unset, .unset, .unset, .unset, .unset, .unset, .unset, .unset] [(.ref c44_0)])) rfl (by rw [hml]; rfl) (argsL := [(.ref c44_0)]) (rest := []) (lenOf pd_14 rfl) rfl (by show 2 * 0 + _ ≤ _; exact Nat.le_of_eq rfl) (hb hby at_158) (fun _ _ => ⟨rfl, e44, (by decide : 25 + 1 ≤ _), (by decide : 51 + 3 ≤ _)⟩)
     dsimp only [Pt.U, Pt.locs, Pt.cells, Pt.slots] at X46 l46 y46 z46 st46 hQ46
     subst l46 y46 z46
     obtain ⟨c46_0, rfl, N46q, K46, r46_0, r46_1⟩ := hQ46
     have N46 := Fr.app N44 N46q
     refine OwnFin.st st46 ?_
     obtain ⟨h46, e46⟩ : ∃ z, T46.heap = z := ⟨_, rfl⟩
     rw [e46] at K46 r46_1
     have bi_c46_0 : h44.size ≤ c46_0 := r46_0
     have lo_c46_0 : h0.size ≤ c46_0 := Nat.le_trans kp45.1 bi_c46_0
     have g_c46_0 : n0 ≤ c46_0 := Nat.le_trans Z0 lo_c46_0
     have ch47 := ch45.trans (CHr.keep K46 sf0 ch45.1)
     have kp47 : Keep h0 h46 [] := kp45.trans K46 all0
     have ol47 : Old Z n0 h46 := ol45.keep K46 all0
     show OwnFin _ _ _ _ (T46.setTop (mkF m 161 _ [(.ref c46_0)]))
     refine OwnFin.st (fun _ q => XS.astore X46.here hx rfl (hb hby at_161) rfl rfl (l' := #[.val (.int p0), .val (.int p1), .val (.int p2), .val (.int p3), .val (.int p4), .val (.int y1_0), .val (.int n_3), .val (.int n_5), .val (.int c_7), .val (.int c_9), .val (.int c_11), .val (.int c_13), .val (.ref c14_0), .val (.ref c16_0), .val (.int ph_18), .val (.int ph_19), .val (.ref (if ph_18 = (0 : Int32) then w_SET_UP else w_TEAR_DOWN)), .val (.ref (if ph_19 = (0 : Int32) then w_SET_UP else w_TEAR_DOWN)), .val (.ref c36_0), .val (.ref c46_0), .unset, .unset, .unset, .unset, .unset, .unset, .unset, .unset]) rfl q) ?_
     show OwnFin _ _ _ _ (T46.setTop (mkF m 163 _ []))
     refine OwnFin.st (fun _ q => XS.iloadN X46.here hx rfl (hb hby at_163) rfl q) ?_
     show OwnFin _ _ _ _ (T46.setTop (mkF m 164 _ [(.int p2)]))
     refine OwnFin.st (fun _ q => XS.bipush X46.here hx rfl (hb hby at_164) q) ?_
     show OwnFin _ _ _ _ (T46.setTop (mkF m 166 _ [(.int 8), (.int p2)]))
     refine OwnFin.st (fun _ q => XS.iand X46.here hx rfl (hb hby at_166) rfl q) ?_
     show OwnFin _ _ _ _ (T46.setTop (mkF m 167 _ [(.int (p2 &&& (8 : Int32)))]))
     have H48 : ∀ (T : State) (lc : List Loc), Stand p l e room_1 (s.setVm T44.vm) m #[(.int p0), (.int p1), (.int p2), (.int p3), (.int p4)] below meth c T lc 26 54 → Fr n0 lc → T.heap = h46 → OwnFin p.tables e below (fun o U' => ∃ v L, o = .returned v ∧ Q_rm0 Z p0 p1 p2 p3 p4 w_TEAR_DOWN w_SET_UP w_COMPACT_STRINGS h0 n0 v U'.heap L ∧ CHr Z own_EL s.vm s.heap U'.vm U'.heap ∧ ReturnedEndW s o U' L room_1.cells room_1.slots) (T.setTop (mkF m 176 #[.val (.int p0), .val (.int p1), .val (.int p2), .val (.int p3), .val (.int p4), .val (.int y1_0), .val (.int n_3), .val (.int n_5), .val (.int c_7), .val (.int c_9), .val (.int c_11), .val (.int c_13), .val (.ref c14_0), .val (.ref c16_0), .val (.int ph_18), .val (.int ph_19), .val (.ref (if ph_18 = (0 : Int32) then w_SET_UP else w_TEAR_DOWN)), .val (.ref (if ph_19 = (0 : Int32) then w_SET_UP else w_TEAR_DOWN)), .val (.ref c36_0), .val (.ref c46_0), .unset, .unset, .unset, .unset, .unset, .unset, .unset, .unset] [(if (p2 &&& (8 : Int32)) = (0 : Int32) then (.ref c36_0) else .null)])) := by
      intro T48 lc48 X48 N48 e48
      show OwnFin _ _ _ _ (T48.setTop (mkF m 176 #[.val (.int p0), .val (.int p1), .val (.int p2), .val (.int p3), .val (.int p4), .val (.int y1_0), .val (.int n_3), .val (.int n_5), .val (.int c_7), .val (.int c_9), .val (.int c_11), .val (.int c_13), .val (.ref c14_0), .val (.ref c16_0), .val (.int ph_18), .val (.int ph_19), .val (.ref (if ph_18 = (0 : Int32) then w_SET_UP else w_TEAR_DOWN)), .val (.ref (if ph_19 = (0 : Int32) then w_SET_UP else w_TEAR_DOWN)), .val (.ref c36_0), .val (.ref c46_0), .unset, .unset, .unset, .unset, .unset, .unset, .unset, .unset] [(if (p2 &&& (8 : Int32)) = (0 : Int32) then (.ref c36_0) else .null)]))
      refine OwnFin.st (fun _ q => XS.astoreS X48.here hx rfl (hb hby at_176) rfl (own_iteref rfl rfl) (Jvm.Free.XT.cat1 (own_iteref rfl rfl)) rfl (Or.inl rfl) q) ?_
      show OwnFin _ _ _ _ (T48.setTop (mkF m 178 _ []))
      refine OwnFin.st (fun _ q => XS.iloadN X48.here hx rfl (hb hby at_178) rfl q) ?_
      show OwnFin _ _ _ _ (T48.setTop (mkF m 179 _ [(.int p2)]))
      refine OwnFin.st (fun _ q => XS.bipush X48.here hx rfl (hb hby at_179) q) ?_
      show OwnFin _ _ _ _ (T48.setTop (mkF m 181 _ [(.int 16), (.int p2)]))
      refine OwnFin.st (fun _ q => XS.iand X48.here hx rfl (hb hby at_181) rfl q) ?_
      show OwnFin _ _ _ _ (T48.setTop (mkF m 182 _ [(.int (p2 &&& (16 : Int32)))]))
      have H49 : ∀ (T : State) (lc : List Loc), Stand p l e room_1 (s.setVm T44.vm) m #[(.int p0), (.int p1), (.int p2), (.int p3), (.int p4)] below meth c T lc 26 54 → Fr n0 lc → T.heap = h46 → OwnFin p.tables e below (fun o U' => ∃ v L, o = .returned v ∧ Q_rm0 Z p0 p1 p2 p3 p4 w_TEAR_DOWN w_SET_UP w_COMPACT_STRINGS h0 n0 v U'.heap L ∧ CHr Z own_EL s.vm s.heap U'.vm U'.heap ∧ ReturnedEndW s o U' L room_1.cells room_1.slots) (T.setTop (mkF m 191 #[.val (.int p0), .val (.int p1), .val (.int p2), .val (.int p3), .val (.int p4), .val (.int y1_0), .val (.int n_3), .val (.int n_5), .val (.int c_7), .val (.int c_9), .val (.int c_11), .val (.int c_13), .val (.ref c14_0), .val (.ref c16_0), .val (.int ph_18), .val (.int ph_19), .val (.ref (if ph_18 = (0 : Int32) then w_SET_UP else w_TEAR_DOWN)), .val (.ref (if ph_19 = (0 : Int32) then w_SET_UP else w_TEAR_DOWN)), .val (.ref c36_0), .val (.ref c46_0), .val (if (p2 &&& (8 : Int32)) = (0 : Int32) then (.ref c36_0) else .null), .unset, .unset, .unset, .unset, .unset, .unset, .unset] [(if (p2 &&& (16 : Int32)) = (0 : Int32) then (.ref c46_0) else .null)])) := by
       intro T49 lc49 X49 N49 e49
       show OwnFin _ _ _ _ (T49.setTop (mkF m 191 #[.val (.int p0), .val (.int p1), .val (.int p2), .val (.int p3), .val (.int p4), .val (.int y1_0), .val (.int n_3), .val (.int n_5), .val (.int c_7), .val (.int c_9), .val (.int c_11), .val (.int c_13), .val (.ref c14_0), .val (.ref c16_0), .val (.int ph_18), .val (.int ph_19), .val (.ref (if ph_18 = (0 : Int32) then w_SET_UP else w_TEAR_DOWN)), .val (.ref (if ph_19 = (0 : Int32) then w_SET_UP else w_TEAR_DOWN)), .val (.ref c36_0), .val (.ref c46_0), .val (if (p2 &&& (8 : Int32)) = (0 : Int32) then (.ref c36_0) else .null), .unset, .unset, .unset, .unset, .unset, .unset, .unset] [(if (p2 &&& (16 : Int32)) = (0 : Int32) then (.ref c46_0) else .null)]))
       refine OwnFin.st (fun _ q => XS.astoreS X49.here hx rfl (hb hby at_191) rfl (own_iteref rfl rfl) (Jvm.Free.XT.cat1 (own_iteref rfl rfl)) rfl (Or.inl rfl) q) ?_
       show OwnFin _ _ _ _ (T49.setTop (mkF m 193 _ []))
       obtain ⟨T50, h50, X50, e50, E50, A50, D50, -, st50⟩ := newO X49 hx hZr44 hor44 (w_ hw 64 rfl) (w_ hw 65 rfl) (w_ hw 66 rfl) e49 (g := (mkF m 193 #[.val (.int p0), .val (.int p1), .val (.int p2), .val (.int p3), .val (.int p4), .val (.int y1_0), .val (.int n_3), .val (.int n_5), .val (.int c_7), .val (.int c_9), .val (.int c_11), .val (.int c_13), .val (.ref c14_0), .val (.ref c16_0), .val (.int ph_18), .val (.int ph_19), .val (.ref (if ph_18 = (0 : Int32) then w_SET_UP else w_TEAR_DOWN)), .val (.ref (if ph_19 = (0 : Int32) then w_SET_UP else w_TEAR_DOWN)), .val (.ref c36_0), .val (.ref c46_0), .val (if (p2 &&& (8 : Int32)) = (0 : Int32) then (.ref c36_0) else .null), .val (if (p2 &&& (16 : Int32)) = (0 : Int32) then (.ref c46_0) else .null), .unset, .unset, .unset, .unset, .unset, .unset] [])) rfl (hb hby at_193) (by decide) (by decide)
       obtain ⟨b50, qe50⟩ : ∃ z, z = h46.size := ⟨_, rfl⟩
       rw [← qe50] at A50 D50 st50
       refine OwnFin.st st50 ?_
       have bi_b50 : h46.size ≤ b50 := Nat.le_of_eq qe50.symm
       have lo_b50 : h0.size ≤ b50 := Nat.le_trans kp47.1 bi_b50
       have g_b50 : n0 ≤ b50 := Nat.le_trans Z0 lo_b50
       have ch51 := ch47.trans (CHr.ext E50 ch47.1)
       have kp51 : Keep h0 h50 [] := kp47.ext E50
       have ol51 : Old Z n0 h50 := ol47.ext E50
       have F_container_b50 : Fld Z h50 b50 "com/example/neat_order/neatorder/model/LifecycleFailure" "container" "Ljava/lang/String;" .null := D50 (Or.inr (w_ hw 78 rfl)) (ty := (.object "java/lang/String")) (by decide)
       have F_phase_b50 : Fld Z h50 b50 "com/example/neat_order/neatorder/model/LifecycleFailure" "phase" "Lcom/example/neat_order/neatorder/model/LifecycleFailure$Phase;" .null := D50 (Or.inr (w_ hw 83 rfl)) (ty := (.object "com/example/neat_order/neatorder/model/LifecycleFailure$Phase")) (by decide)
       have F_cause_b50 : Fld Z h50 b50 "com/example/neat_order/neatorder/model/LifecycleFailure" "cause" "Lcom/example/neat_order/neatorder/model/Cause;" .null := D50 (Or.inr (w_ hw 85 rfl)) (ty := (.object "com/example/neat_order/neatorder/model/Cause")) (by decide)
       show OwnFin _ _ _ _ (T50.setTop (mkF m 196 _ [(.ref b50)]))
       refine OwnFin.st (fun _ q => XS.dup X50.here hx rfl (hb hby at_196) rfl rfl q) ?_
       show OwnFin _ _ _ _ (T50.setTop (mkF m 197 _ [(.ref b50), (.ref b50)]))
       refine OwnFin.st (fun _ q => XS.aload X50.here hx rfl (hb hby at_197) rfl rfl q) ?_
       show OwnFin _ _ _ _ (T50.setTop (mkF m 199 _ [(.ref c14_0), (.ref b50), (.ref b50)]))
       refine OwnFin.st (fun _ q => XS.aload X50.here hx rfl (hb hby at_199) rfl rfl q) ?_
       show OwnFin _ _ _ _ (T50.setTop (mkF m 201 _ [(.ref (if ph_18 = (0 : Int32) then w_SET_UP else w_TEAR_DOWN)), (.ref c14_0), (.ref b50), (.ref b50)]))
       refine OwnFin.st (fun _ q => XS.aload X50.here hx rfl (hb hby at_201) rfl (own_iteref rfl rfl) q) ?_
       show OwnFin _ _ _ _ (T50.setTop (mkF m 203 _ [(if (p2 &&& (8 : Int32)) = (0 : Int32) then (.ref c36_0) else .null), (.ref (if ph_18 = (0 : Int32) then w_SET_UP else w_TEAR_DOWN)), (.ref c14_0), (.ref b50), (.ref b50)]))
       obtain ⟨_, _, ⟨T52, L52, k52, n52⟩, -, X52, hS52, hg52, ⟨Lc52, hQ52, l52, y52, z52, hC52⟩, st52⟩ := X50.specialBackS hx (y := yM14) rfl hor44 (mvT hZr44 (w_ hw 67 rfl)) (mvT hZr44 (w_ hw 68 rfl)) (mvT hZr44 (w_ hw 69 rfl)) (by decide) (backOfSH (W := 1) (rm_lfi l Z av0 hw [] b50 c14_0 (if ph_18 = (0 : Int32) then w_SET_UP else w_TEAR_DOWN) (if (p2 &&& (8 : Int32)) = (0 : Int32) then (.ref c36_0) else .null) .null .null .null h50 n0 (Nat.le_trans Z0 kp51.1) ((((((r14_1.keep K16).keep K34).keep K36).keep K44).keep K46).ext E50) (Xm23.ext ol51.2) A50 F_container_b50 g_b50 F_phase_b50 (own_iteref rfl rfl) F_cause_b50) hZr44 (w_ hw 69 rfl) (w_ hw 66 rfl) (by decide) (by decide) (own_EW hw) ch51.1) (g := (mkF m 203 #[.val (.int p0), .val (.int p1), .val (.int p2), .val (.int p3), .val (.int p4), .val (.int y1_0), .val (.int n_3), .val (.int n_5), .val (.int c_7), .val (.int c_9), .val (.int c_11), .val (.int c_13), .val (.ref c14_0), .val (.ref c16_0), .val (.int ph_18), .val (.int ph_19), .val (.ref (if ph_18 = (0 : Int32) then w_SET_UP else w_TEAR_DOWN)), .val (.ref (if ph_19 = (0 : Int32) then w_SET_UP else w_TEAR_DOWN)), .val (.ref c36_0), .val (.ref c46_0), .val (if (p2 &&& (8 : Int32)) = (0 : Int32) then (.ref c36_0) else .null), .val (if (p2 &&& (16 : Int32)) = (0 : Int32) then (.ref c46_0) else .null), .unset, .unset, .unset, .unset, .unset, .unset] [(if (p2 &&& (8 : Int32)) = (0 : Int32) then (.ref c36_0) else .null), (.ref (if ph_18 = (0 : Int32) then w_SET_UP else w_TEAR_DOWN)), (.ref c14_0), (.ref b50), (.ref b50)])) rfl (by rw [hml]; rfl) (Steps.refl _) (a := b50) (argsL := [(.ref c14_0), (.ref (if ph_18 = (0 : Int32) then w_SET_UP else w_TEAR_DOWN)), (if (p2 &&& (8 : Int32)) = (0 : Int32) then (.ref c36_0) else .null)]) (rest := [(.ref b50)]) (lenOf pd_15 rfl) rfl (by show 2 * 0 + _ ≤ _; exact Nat.le_of_eq rfl) (hb hby at_203) (fun _ _ => ⟨rfl, e50, (by decide : 27 + 4 ≤ _), (by decide : 57 + 64 ≤ _)⟩)
       dsimp only [Pt.U, Pt.locs, Pt.cells, Pt.slots] at X52 l52 y52 z52 st52 hQ52 hS52 hg52 hC52
       subst l52 y52 z52
       obtain ⟨rfl, N52q, K52, r52_0, r52_1, r52_2⟩ := hQ52
       have N52 := Fr.app N49 N52q
       refine OwnFin.tr st52 ?_
       rw [e50] at hg52
       obtain ⟨h52, e52⟩ : ∃ z, T52.heap = z := ⟨_, rfl⟩
       rw [e52] at K52 r52_0 r52_1 r52_2 hg52 hS52 hC52
       have ch53 := ch51.trans (hC52)
       have kp53 : Keep h0 h52 [] := kp51.trans K52 (allS (Or.inr lo_b50) all0)
       have ol53 : Old Z n0 h52 := ol51.keep K52 (allS g_b50 all0)
       obtain ⟨Xr52, hSr52, hZr52, hor52⟩ := rebS hSr44 (Nat.le_trans (Nat.le_refl _) (Nat.le_trans K46.1 E50.1)) X52 hS52 hg52 hZr44 hor44
       show OwnFin _ _ _ _ (T52.setTop (mkF m 206 _ [(.ref b50)]))
       refine OwnFin.st (fun _ q => XS.astore Xr52.here hx rfl (hb hby at_206) rfl rfl (l' := #[.val (.int p0), .val (.int p1), .val (.int p2), .val (.int p3), .val (.int p4), .val (.int y1_0), .val (.int n_3), .val (.int n_5), .val (.int c_7), .val (.int c_9), .val (.int c_11), .val (.int c_13), .val (.ref c14_0), .val (.ref c16_0), .val (.int ph_18), .val (.int ph_19), .val (.ref (if ph_18 = (0 : Int32) then w_SET_UP else w_TEAR_DOWN)), .val (.ref (if ph_19 = (0 : Int32) then w_SET_UP else w_TEAR_DOWN)), .val (.ref c36_0), .val (.ref c46_0), .val (if (p2 &&& (8 : Int32)) = (0 : Int32) then (.ref c36_0) else .null), .val (if (p2 &&& (16 : Int32)) = (0 : Int32) then (.ref c46_0) else .null), .val (.ref b50), .unset, .unset, .unset, .unset, .unset]) rfl q) ?_
       show OwnFin _ _ _ _ (T52.setTop (mkF m 208 _ []))
       obtain ⟨T54, h54, X54, e54, E54, A54, D54, -, st54⟩ := newO Xr52 hx hZr52 hor52 (w_ hw 64 rfl) (w_ hw 65 rfl) (w_ hw 66 rfl) e52 (g := (mkF m 208 #[.val (.int p0), .val (.int p1), .val (.int p2), .val (.int p3), .val (.int p4), .val (.int y1_0), .val (.int n_3), .val (.int n_5), .val (.int c_7), .val (.int c_9), .val (.int c_11), .val (.int c_13), .val (.ref c14_0), .val (.ref c16_0), .val (.int ph_18), .val (.int ph_19), .val (.ref (if ph_18 = (0 : Int32) then w_SET_UP else w_TEAR_DOWN)), .val (.ref (if ph_19 = (0 : Int32) then w_SET_UP else w_TEAR_DOWN)), .val (.ref c36_0), .val (.ref c46_0), .val (if (p2 &&& (8 : Int32)) = (0 : Int32) then (.ref c36_0) else .null), .val (if (p2 &&& (16 : Int32)) = (0 : Int32) then (.ref c46_0) else .null), .val (.ref b50), .unset, .unset, .unset, .unset, .unset] [])) rfl (hb hby at_208) (by decide) (by decide)
       obtain ⟨b54, qe54⟩ : ∃ z, z = h52.size := ⟨_, rfl⟩
       rw [← qe54] at A54 D54 st54
       refine OwnFin.st st54 ?_
       have bi_b54 : h52.size ≤ b54 := Nat.le_of_eq qe54.symm
       have lo_b54 : h0.size ≤ b54 := Nat.le_trans kp53.1 bi_b54
       have g_b54 : n0 ≤ b54 := Nat.le_trans Z0 lo_b54
       have ch55 := ch53.trans (CHr.ext E54 ch53.1)
       have kp55 : Keep h0 h54 [] := kp53.ext E54
       have ol55 : Old Z n0 h54 := ol53.ext E54
       have F_container_b54 : Fld Z h54 b54 "com/example/neat_order/neatorder/model/LifecycleFailure" "container" "Ljava/lang/String;" .null := D54 (Or.inr (w_ hw 78 rfl)) (ty := (.object "java/lang/String")) (by decide)
       have F_phase_b54 : Fld Z h54 b54 "com/example/neat_order/neatorder/model/LifecycleFailure" "phase" "Lcom/example/neat_order/neatorder/model/LifecycleFailure$Phase;" .null := D54 (Or.inr (w_ hw 83 rfl)) (ty := (.object "com/example/neat_order/neatorder/model/LifecycleFailure$Phase")) (by decide)
       have F_cause_b54 : Fld Z h54 b54 "com/example/neat_order/neatorder/model/LifecycleFailure" "cause" "Lcom/example/neat_order/neatorder/model/Cause;" .null := D54 (Or.inr (w_ hw 85 rfl)) (ty := (.object "com/example/neat_order/neatorder/model/Cause")) (by decide)
       show OwnFin _ _ _ _ (T54.setTop (mkF m 211 _ [(.ref b54)]))
       refine OwnFin.st (fun _ q => XS.dup X54.here hx rfl (hb hby at_211) rfl rfl q) ?_
       show OwnFin _ _ _ _ (T54.setTop (mkF m 212 _ [(.ref b54), (.ref b54)]))
       refine OwnFin.st (fun _ q => XS.aload X54.here hx rfl (hb hby at_212) rfl rfl q) ?_
       show OwnFin _ _ _ _ (T54.setTop (mkF m 214 _ [(.ref c16_0), (.ref b54), (.ref b54)]))
       refine OwnFin.st (fun _ q => XS.aload X54.here hx rfl (hb hby at_214) rfl rfl q) ?_
       show OwnFin _ _ _ _ (T54.setTop (mkF m 216 _ [(.ref (if ph_19 = (0 : Int32) then w_SET_UP else w_TEAR_DOWN)), (.ref c16_0), (.ref b54), (.ref b54)]))
       refine OwnFin.st (fun _ q => XS.aload X54.here hx rfl (hb hby at_216) rfl (own_iteref rfl rfl) q) ?_
       show OwnFin _ _ _ _ (T54.setTop (mkF m 218 #[.val (.int p0), .val (.int p1), .val (.int p2), .val (.int p3), .val (.int p4), .val (.int y1_0), .val (.int n_3), .val (.int n_5), .val (.int c_7), .val (.int c_9), .val (.int c_11), .val (.int c_13), .val (.ref c14_0), .val (.ref c16_0), .val (.int ph_18), .val (.int ph_19), .val (.ref (if ph_18 = (0 : Int32) then w_SET_UP else w_TEAR_DOWN)), .val (.ref (if ph_19 = (0 : Int32) then w_SET_UP else w_TEAR_DOWN)), .val (.ref c36_0), .val (.ref c46_0), .val (if (p2 &&& (8 : Int32)) = (0 : Int32) then (.ref c36_0) else .null), .val (if (p2 &&& (16 : Int32)) = (0 : Int32) then (.ref c46_0) else .null), .val (.ref b50), .unset, .unset, .unset, .unset, .unset] [(if (p2 &&& (16 : Int32)) = (0 : Int32) then (.ref c46_0) else .null), (.ref (if ph_19 = (0 : Int32) then w_SET_UP else w_TEAR_DOWN)), (.ref c16_0), (.ref b54), (.ref b54)]))
       have fr56 : Exa Z h54 c16_0 "java/lang/String" := (((((((r16_1.keep K34).keep K36).keep K44).keep K46).ext E50).keep K52).ext E54)
       obtain ⟨_, _, ⟨T57, L57, k57, n57⟩, -, X57, hS57, hg57, ⟨Lc57, hQ57, l57, y57, z57, hC57⟩, st57⟩ := X54.specialBackS hx (y := yM14) rfl hor52 (mvT hZr52 (w_ hw 67 rfl)) (mvT hZr52 (w_ hw 68 rfl)) (mvT hZr52 (w_ hw 69 rfl)) (by decide) (backOfSH (W := 1) (rm_lfi l Z av0 hw [] b54 c16_0 (if ph_19 = (0 : Int32) then w_SET_UP else w_TEAR_DOWN) (if (p2 &&& (16 : Int32)) = (0 : Int32) then (.ref c46_0) else .null) .null .null .null h54 n0 (Nat.le_trans Z0 kp55.1) fr56 (Xm27.ext ol55.2) A54 F_container_b54 g_b54 F_phase_b54 (own_iteref rfl rfl) F_cause_b54) hZr52 (w_ hw 69 rfl) (w_ hw 66 rfl) (by decide) (by decide) (own_EW hw) ch55.1) (g := (mkF m 218 #[.val (.int p0), .val (.int p1), .val (.int p2), .val (.int p3), .val (.int p4), .val (.int y1_0), .val (.int n_3), .val (.int n_5), .val (.int c_7), .val (.int c_9), .val (.int c_11), .val (.int c_13), .val (.ref c14_0), .val (.ref c16_0), .val (.int ph_18), .val (.int ph_19), .val (.ref (if ph_18 = (0 : Int32) then w_SET_UP else w_TEAR_DOWN)), .val (.ref (if ph_19 = (0 : Int32) then w_SET_UP else w_TEAR_DOWN)), .val (.ref c36_0), .val (.ref c46_0), .val (if (p2 &&& (8 : Int32)) = (0 : Int32) then (.ref c36_0) else .null), .val (if (p2 &&& (16 : Int32)) = (0 : Int32) then (.ref c46_0) else .null), .val (.ref b50), .unset, .unset, .unset, .unset, .unset] [(if (p2 &&& (16 : Int32)) = (0 : Int32) then (.ref c46_0) else .null), (.ref (if ph_19 = (0 : Int32) then w_SET_UP else w_TEAR_DOWN)), (.ref c16_0), (.ref b54), (.ref b54)])) rfl (by rw [hml]; rfl) (Steps.refl _) (a := b54) (argsL := [(.ref c16_0), (.ref (if ph_19 = (0 : Int32) then w_SET_UP else w_TEAR_DOWN)), (if (p2 &&& (16 : Int32)) = (0 : Int32) then (.ref c46_0) else .null)]) (rest := [(.ref b54)]) (lenOf pd_15 rfl) rfl (by show 2 * 0 + _ ≤ _; exact Nat.le_of_eq rfl) (hb hby at_218) (fun _ _ => ⟨rfl, e54, (by decide : 32 + 4 ≤ _), (by decide : 124 + 64 ≤ _)⟩)
       dsimp only [Pt.U, Pt.locs, Pt.cells, Pt.slots] at X57 l57 y57 z57 st57 hQ57 hS57 hg57 hC57
       subst l57 y57 z57
       obtain ⟨rfl, N57q, K57, r57_0, r57_1, r57_2⟩ := hQ57
       have N57 := Fr.app N52 N57q
       refine OwnFin.tr st57 ?_
       rw [e54] at hg57
       obtain ⟨h57, e57⟩ : ∃ z, T57.heap = z := ⟨_, rfl⟩
       rw [e57] at K57 r57_0 r57_1 r57_2 hg57 hS57 hC57
       have ch58 := ch55.trans (hC57)
       have kp58 : Keep h0 h57 [] := kp55.trans K57 (allS (Or.inr lo_b54) all0)
       have ol58 : Old Z n0 h57 := ol55.keep K57 (allS g_b54 all0)
       obtain ⟨Xr57, hSr57, hZr57, hor57⟩ := rebS hSr52 (Nat.le_trans (Nat.le_refl _) E54.1) X57 hS57 hg57 hZr52 hor52
       show OwnFin _ _ _ _ (T57.setTop (mkF m 221 _ [(.ref b54)]))
       refine OwnFin.st (fun _ q => XS.astore Xr57.here hx rfl (hb hby at_221) rfl rfl (l' := #[.val (.int p0), .val (.int p1), .val (.int p2), .val (.int p3), .val (.int p4), .val (.int y1_0), .val (.int n_3), .val (.int n_5), .val (.int c_7), .val (.int c_9), .val (.int c_11), .val (.int c_13), .val (.ref c14_0), .val (.ref c16_0), .val (.int ph_18), .val (.int ph_19), .val (.ref (if ph_18 = (0 : Int32) then w_SET_UP else w_TEAR_DOWN)), .val (.ref (if ph_19 = (0 : Int32) then w_SET_UP else w_TEAR_DOWN)), .val (.ref c36_0), .val (.ref c46_0), .val (if (p2 &&& (8 : Int32)) = (0 : Int32) then (.ref c36_0) else .null), .val (if (p2 &&& (16 : Int32)) = (0 : Int32) then (.ref c46_0) else .null), .val (.ref b50), .val (.ref b54), .unset, .unset, .unset, .unset]) rfl q) ?_
       show OwnFin _ _ _ _ (T57.setTop (mkF m 223 _ []))
       refine OwnFin.st (fun _ q => XS.iloadN Xr57.here hx rfl (hb hby at_223) rfl q) ?_
       show OwnFin _ _ _ _ (T57.setTop (mkF m 224 _ [(.int p2)]))
       refine OwnFin.st (fun _ q => XS.iconst Xr57.here hx rfl (hb hby at_224) q) ?_
       show OwnFin _ _ _ _ (T57.setTop (mkF m 225 _ [(.int 5), (.int p2)]))
       refine OwnFin.st (fun _ q => XS.iushr Xr57.here hx rfl (hb hby at_225) rfl q) ?_
       show OwnFin _ _ _ _ (T57.setTop (mkF m 226 _ [(.int ((p2.toUInt32 >>> ((5 : Int32) &&& 31).toUInt32).toInt32))]))
       refine OwnFin.st (fun _ q => XS.iconst Xr57.here hx rfl (hb hby at_226) q) ?_
       show OwnFin _ _ _ _ (T57.setTop (mkF m 227 _ [(.int 3), (.int ((p2.toUInt32 >>> ((5 : Int32) &&& 31).toUInt32).toInt32))]))
       refine OwnFin.st (fun _ q => XS.iand Xr57.here hx rfl (hb hby at_227) rfl q) ?_
       show OwnFin _ _ _ _ (T57.setTop (mkF m 228 _ [(.int (((p2.toUInt32 >>> ((5 : Int32) &&& 31).toUInt32).toInt32) &&& (3 : Int32)))]))
       have hbkd_59_0 := (om_rm0_24 p2)
       have hbkd_59_1 := (om_rm0_25 p2)
       obtain ⟨kd_59, hxkd_59⟩ : ∃ z : Int32, (((p2.toUInt32 >>> ((5 : Int32) &&& 31).toUInt32).toInt32) &&& (3 : Int32)) = z := ⟨_, rfl⟩
       rw [hxkd_59] at hbkd_59_0 hbkd_59_1 ⊢
       show OwnFin _ _ _ _ (T57.setTop (mkF m 228 #[.val (.int p0), .val (.int p1), .val (.int p2), .val (.int p3), .val (.int p4), .val (.int y1_0), .val (.int n_3), .val (.int n_5), .val (.int c_7), .val (.int c_9), .val (.int c_11), .val (.int c_13), .val (.ref c14_0), .val (.ref c16_0), .val (.int ph_18), .val (.int ph_19), .val (.ref (if ph_18 = (0 : Int32) then w_SET_UP else w_TEAR_DOWN)), .val (.ref (if ph_19 = (0 : Int32) then w_SET_UP else w_TEAR_DOWN)), .val (.ref c36_0), .val (.ref c46_0), .val (if (p2 &&& (8 : Int32)) = (0 : Int32) then (.ref c36_0) else .null), .val (if (p2 &&& (16 : Int32)) = (0 : Int32) then (.ref c46_0) else .null), .val (.ref b50), .val (.ref b54), .unset, .unset, .unset, .unset] [(.int kd_59)]))
       refine OwnFin.st (fun _ q => XS.istore Xr57.here hx rfl (hb hby at_228) rfl (l' := #[.val (.int p0), .val (.int p1), .val (.int p2), .val (.int p3), .val (.int p4), .val (.int y1_0), .val (.int n_3), .val (.int n_5), .val (.int c_7), .val (.int c_9), .val (.int c_11), .val (.int c_13), .val (.ref c14_0), .val (.ref c16_0), .val (.int ph_18), .val (.int ph_19), .val (.ref (if ph_18 = (0 : Int32) then w_SET_UP else w_TEAR_DOWN)), .val (.ref (if ph_19 = (0 : Int32) then w_SET_UP else w_TEAR_DOWN)), .val (.ref c36_0), .val (.ref c46_0), .val (if (p2 &&& (8 : Int32)) = (0 : Int32) then (.ref c36_0) else .null), .val (if (p2 &&& (16 : Int32)) = (0 : Int32) then (.ref c46_0) else .null), .val (.ref b50), .val (.ref b54), .val (.int kd_59), .unset, .unset, .unset]) rfl q) ?_
       show OwnFin _ _ _ _ (T57.setTop (mkF m 230 _ []))
       refine OwnFin.st (fun _ q => XS.iload Xr57.here hx rfl (hb hby at_230) rfl q) ?_
       show OwnFin _ _ _ _ (T57.setTop (mkF m 232 _ [(.int kd_59)]))
       by_cases hc60 : kd_59 = (0 : Int32)
       ·
        refine OwnFin.st (fun _ q => XS.ifNo Xr57.here hx rfl (hb hby at_232) rfl (Jvm.Free.XT.i0_ne_f hc60) q) ?_
        show OwnFin _ _ _ _ (T57.setTop (mkF m 235 _ []))
        refine OwnFin.st (fun _ q => XS.aload Xr57.here hx rfl (hb hby at_235) rfl rfl q) ?_
        show OwnFin _ _ _ _ (T57.setTop (mkF m 237 _ [(.ref b54)]))
        refine OwnFin.st (fun _ q => XS.astore Xr57.here hx rfl (hb hby at_237) rfl rfl (l' := #[.val (.int p0), .val (.int p1), .val (.int p2), .val (.int p3), .val (.int p4), .val (.int y1_0), .val (.int n_3), .val (.int n_5), .val (.int c_7), .val (.int c_9), .val (.int c_11), .val (.int c_13), .val (.ref c14_0), .val (.ref c16_0), .val (.int ph_18), .val (.int ph_19), .val (.ref (if ph_18 = (0 : Int32) then w_SET_UP else w_TEAR_DOWN)), .val (.ref (if ph_19 = (0 : Int32) then w_SET_UP else w_TEAR_DOWN)), .val (.ref c36_0), .val (.ref c46_0), .val (if (p2 &&& (8 : Int32)) = (0 : Int32) then (.ref c36_0) else .null), .val (if (p2 &&& (16 : Int32)) = (0 : Int32) then (.ref c46_0) else .null), .val (.ref b50), .val (.ref b54), .val (.int kd_59), .val (.ref b54), .unset, .unset]) rfl q) ?_
        show OwnFin _ _ _ _ (T57.setTop (mkF m 239 _ []))
        refine OwnFin.st (fun _ q => XS.goto Xr57.here hx rfl (pc0 := 239) (pc' := 271) rfl (hb hby at_239) (by decide) (by decide) q) ?_
        show OwnFin _ _ _ _ (T57.setTop (mkF m 271 _ []))
        refine OwnFin.st (fun _ q => XS.iload Xr57.here hx rfl (hb hby at_271) rfl q) ?_
        show OwnFin _ _ _ _ (T57.setTop (mkF m 273 _ [(.int n_3)]))
        refine OwnFin.st (fun _ q => XS.iload Xr57.here hx rfl (hb hby at_273) rfl q) ?_
        show OwnFin _ _ _ _ (T57.setTop (mkF m 275 _ [(.int n_5), (.int n_3)]))
        by_cases hc61 : n_3 = n_5
        ·
         refine OwnFin.st (fun _ q => XS.icmpNo Xr57.here hx rfl (hb hby at_275) rfl (Jvm.Free.XT.ii_ne_f hc61) q) ?_
         show OwnFin _ _ _ _ (T57.setTop (mkF m 278 _ []))
         refine OwnFin.st (fun _ q => XS.iload Xr57.here hx rfl (hb hby at_278) rfl q) ?_
         show OwnFin _ _ _ _ (T57.setTop (mkF m 280 _ [(.int n_3)]))
         refine OwnFin.st (fun _ q => XS.iconst Xr57.here hx rfl (hb hby at_280) q) ?_
         show OwnFin _ _ _ _ (T57.setTop (mkF m 281 _ [(.int 1), (.int n_3)]))
         by_cases hc62 : n_3 < (1 : Int32)
         ·
          refine OwnFin.st (fun _ q => XS.icmpYes Xr57.here hx rfl (pc0 := 281) (pc' := 291) rfl (hb hby at_281) rfl (Jvm.Free.XT.ii_lt_t hc62) (by decide) (by decide) q) ?_
          show OwnFin _ _ _ _ (T57.setTop (mkF m 291 _ []))
          refine OwnFin.st (fun _ q => XS.iload Xr57.here hx rfl (hb hby at_291) rfl q) ?_
          show OwnFin _ _ _ _ (T57.setTop (mkF m 293 #[.val (.int p0), .val (.int p1), .val (.int p2), .val (.int p3), .val (.int p4), .val (.int y1_0), .val (.int n_3), .val (.int n_5), .val (.int c_7), .val (.int c_9), .val (.int c_11), .val (.int c_13), .val (.ref c14_0), .val (.ref c16_0), .val (.int ph_18), .val (.int ph_19), .val (.ref (if ph_18 = (0 : Int32) then w_SET_UP else w_TEAR_DOWN)), .val (.ref (if ph_19 = (0 : Int32) then w_SET_UP else w_TEAR_DOWN)), .val (.ref c36_0), .val (.ref c46_0), .val (if (p2 &&& (8 : Int32)) = (0 : Int32) then (.ref c36_0) else .null), .val (if (p2 &&& (16 : Int32)) = (0 : Int32) then (.ref c46_0) else .null), .val (.ref b50), .val (.ref b54), .val (.int kd_59), .val (.ref b54), .unset, .unset] [(.int n_3)]))
          refine OwnFin.st (fun _ q => XS.iconst Xr57.here hx rfl (hb hby at_293) q) ?_
          show OwnFin _ _ _ _ (T57.setTop (mkF m 294 _ [(.int 2), (.int n_3)]))
          have hd63 : n_3 < (2 : Int32) := (om_rm0_26 n_3 n_5 hbn_3_0 hbn_3_1 hbn_5_0 hbn_5_1 hc61 hc62)
          refine OwnFin.st (fun _ q => XS.icmpYes Xr57.here hx rfl (pc0 := 294) (pc' := 304) rfl (hb hby at_294) rfl (Jvm.Free.XT.ii_lt_t hd63) (by decide) (by decide) q) ?_
          show OwnFin _ _ _ _ (T57.setTop (mkF m 304 _ []))
          refine OwnFin.st (fun _ q => XS.iconst Xr57.here hx rfl (hb hby at_304) q) ?_
          show OwnFin _ _ _ _ (T57.setTop (mkF m 305 _ [(.int 1)]))
          refine OwnFin.st (fun _ q => XS.goto Xr57.here hx rfl (pc0 := 305) (pc' := 309) rfl (hb hby at_305) (by decide) (by decide) q) ?_
          show OwnFin _ _ _ _ (T57.setTop (mkF m 309 _ [(.int 1)]))
          refine OwnFin.st (fun _ q => XS.istore Xr57.here hx rfl (hb hby at_309) rfl (l' := #[.val (.int p0), .val (.int p1), .val (.int p2), .val (.int p3), .val (.int p4), .val (.int y1_0), .val (.int n_3), .val (.int n_5), .val (.int c_7), .val (.int c_9), .val (.int c_11), .val (.int c_13), .val (.ref c14_0), .val (.ref c16_0), .val (.int ph_18), .val (.int ph_19), .val (.ref (if ph_18 = (0 : Int32) then w_SET_UP else w_TEAR_DOWN)), .val (.ref (if ph_19 = (0 : Int32) then w_SET_UP else w_TEAR_DOWN)), .val (.ref c36_0), .val (.ref c46_0), .val (if (p2 &&& (8 : Int32)) = (0 : Int32) then (.ref c36_0) else .null), .val (if (p2 &&& (16 : Int32)) = (0 : Int32) then (.ref c46_0) else .null), .val (.ref b50), .val (.ref b54), .val (.int kd_59), .val (.ref b54), .val (.int 1), .unset]) rfl q) ?_
          show OwnFin _ _ _ _ (T57.setTop (mkF m 311 _ []))
          refine OwnFin.st (fun _ q => XS.iload Xr57.here hx rfl (hb hby at_311) rfl q) ?_
          show OwnFin _ _ _ _ (T57.setTop (mkF m 313 _ [(.int kd_59)]))
          refine OwnFin.st (fun _ q => XS.ifNo Xr57.here hx rfl (hb hby at_313) rfl (Jvm.Free.XT.i0_ne_f hc60) q) ?_
          show OwnFin _ _ _ _ (T57.setTop (mkF m 316 _ []))
          refine OwnFin.st (fun _ q => XS.iload Xr57.here hx rfl (hb hby at_316) rfl q) ?_
          show OwnFin _ _ _ _ (T57.setTop (mkF m 318 _ [(.int 1)]))
          refine OwnFin.st (fun _ q => XS.ifNo Xr57.here hx rfl (hb hby at_318) rfl (Jvm.Free.XT.i0_eq_f (by decide : ¬ ((1 : Int32) = (0 : Int32)))) q) ?_
          show OwnFin _ _ _ _ (T57.setTop (mkF m 321 _ []))
          refine OwnFin.st (fun _ q => XS.iload Xr57.here hx rfl (hb hby at_321) rfl q) ?_
          show OwnFin _ _ _ _ (T57.setTop (mkF m 323 _ [(.int ph_18)]))
          refine OwnFin.st (fun _ q => XS.iload Xr57.here hx rfl (hb hby at_323) rfl q) ?_
          show OwnFin _ _ _ _ (T57.setTop (mkF m 325 _ [(.int ph_19), (.int ph_18)]))
          by_cases hc64 : ph_18 = ph_19
          ·
           refine OwnFin.st (fun _ q => XS.icmpNo Xr57.here hx rfl (hb hby at_325) rfl (Jvm.Free.XT.ii_ne_f hc64) q) ?_
           show OwnFin _ _ _ _ (T57.setTop (mkF m 328 _ []))
           refine OwnFin.st (fun _ q => XS.iconst Xr57.here hx rfl (hb hby at_328) q) ?_
           show OwnFin _ _ _ _ (T57.setTop (mkF m 329 #[.val (.int p0), .val (.int p1), .val (.int p2), .val (.int p3), .val (.int p4), .val (.int y1_0), .val (.int n_3), .val (.int n_5), .val (.int c_7), .val (.int c_9), .val (.int c_11), .val (.int c_13), .val (.ref c14_0), .val (.ref c16_0), .val (.int ph_18), .val (.int ph_19), .val (.ref (if ph_18 = (0 : Int32) then w_SET_UP else w_TEAR_DOWN)), .val (.ref (if ph_19 = (0 : Int32) then w_SET_UP else w_TEAR_DOWN)), .val (.ref c36_0), .val (.ref c46_0), .val (if (p2 &&& (8 : Int32)) = (0 : Int32) then (.ref c36_0) else .null), .val (if (p2 &&& (16 : Int32)) = (0 : Int32) then (.ref c46_0) else .null), .val (.ref b50), .val (.ref b54), .val (.int kd_59), .val (.ref b54), .val (.int 1), .unset] [(.int 1)]))
           refine OwnFin.st (fun _ q => XS.goto Xr57.here hx rfl (pc0 := 329) (pc' := 333) rfl (hb hby at_329) (by decide) (by decide) q) ?_
           show OwnFin _ _ _ _ (T57.setTop (mkF m 333 _ [(.int 1)]))
           refine OwnFin.st (fun _ q => XS.istore Xr57.here hx rfl (hb hby at_333) rfl (l' := #[.val (.int p0), .val (.int p1), .val (.int p2), .val (.int p3), .val (.int p4), .val (.int y1_0), .val (.int n_3), .val (.int n_5), .val (.int c_7), .val (.int c_9), .val (.int c_11), .val (.int c_13), .val (.ref c14_0), .val (.ref c16_0), .val (.int ph_18), .val (.int ph_19), .val (.ref (if ph_18 = (0 : Int32) then w_SET_UP else w_TEAR_DOWN)), .val (.ref (if ph_19 = (0 : Int32) then w_SET_UP else w_TEAR_DOWN)), .val (.ref c36_0), .val (.ref c46_0), .val (if (p2 &&& (8 : Int32)) = (0 : Int32) then (.ref c36_0) else .null), .val (if (p2 &&& (16 : Int32)) = (0 : Int32) then (.ref c46_0) else .null), .val (.ref b50), .val (.ref b54), .val (.int kd_59), .val (.ref b54), .val (.int 1), .val (.int 1)]) rfl q) ?_
           show OwnFin _ _ _ _ (T57.setTop (mkF m 335 _ []))
           refine OwnFin.st (fun _ q => XS.aload Xr57.here hx rfl (hb hby at_335) rfl rfl q) ?_
           show OwnFin _ _ _ _ (T57.setTop (mkF m 337 _ [(.ref b50)]))
           refine OwnFin.st (fun _ q => XS.aload Xr57.here hx rfl (hb hby at_337) rfl rfl q) ?_
           show OwnFin _ _ _ _ (T57.setTop (mkF m 339 _ [(.ref b54), (.ref b50)]))
           have fr65 : Fld Z h57 b50 "com/example/neat_order/neatorder/model/LifecycleFailure" "container" "Ljava/lang/String;" (.ref c14_0) := ((r52_0.ext E54).keep K57 (ninS (Nat.ne_of_lt (Nat.lt_of_lt_of_le (A50.keep K52).lt bi_b54)) nin0))
           have fr66 : Exa Z h57 c14_0 "java/lang/String" := (((((((((r14_1.keep K16).keep K34).keep K36).keep K44).keep K46).ext E50).keep K52).ext E54).keep K57)
           have fr67 : Fld Z h57 c14_0 "java/lang/String" "coder" "B" (.int 0) := (((((((((r14_2.keep K16 nin0).keep K34 nin0).keep K36 nin0).keep K44 nin0).keep K46 nin0).ext E50).keep K52 (ninS (Nat.ne_of_lt (Nat.lt_of_lt_of_le (((((r14_1.keep K16).keep K34).keep K36).keep K44).keep K46).lt bi_b50)) nin0)).ext E54).keep K57 (ninS (Nat.ne_of_lt (Nat.lt_of_lt_of_le (((((((r14_1.keep K16).keep K34).keep K36).keep K44).keep K46).ext E50).keep K52).lt bi_b54)) nin0))
           have fr68 : Fld Z h57 c14_0 "java/lang/String" "value" "[B" (.ref c14_1) := (((((((((r14_3.keep K16 nin0).keep K34 nin0).keep K36 nin0).keep K44 nin0).keep K46 nin0).ext E50).keep K52 (ninS (Nat.ne_of_lt (Nat.lt_of_lt_of_le (((((r14_1.keep K16).keep K34).keep K36).keep K44).keep K46).lt bi_b50)) nin0)).ext E54).keep K57 (ninS (Nat.ne_of_lt (Nat.lt_of_lt_of_le (((((((r14_1.keep K16).keep K34).keep K36).keep K44).keep K46).ext E50).keep K52).lt bi_b54)) nin0))
           have fr69 : Fld Z h57 c16_0 "java/lang/String" "coder" "B" (.int 0) := ((((((((r16_2.keep K34 nin0).keep K36 nin0).keep K44 nin0).keep K46 nin0).ext E50).keep K52 (ninS (Nat.ne_of_lt (Nat.lt_of_lt_of_le ((((r16_1.keep K34).keep K36).keep K44).keep K46).lt bi_b50)) nin0)).ext E54).keep K57 (ninS (Nat.ne_of_lt (Nat.lt_of_lt_of_le ((((((r16_1.keep K34).keep K36).keep K44).keep K46).ext E50).keep K52).lt bi_b54)) nin0))
           have fr70 : Fld Z h57 c16_0 "java/lang/String" "value" "[B" (.ref c16_1) := ((((((((r16_3.keep K34 nin0).keep K36 nin0).keep K44 nin0).keep K46 nin0).ext E50).keep K52 (ninS (Nat.ne_of_lt (Nat.lt_of_lt_of_le ((((r16_1.keep K34).keep K36).keep K44).keep K46).lt bi_b50)) nin0)).ext E54).keep K57 (ninS (Nat.ne_of_lt (Nat.lt_of_lt_of_le ((((((r16_1.keep K34).keep K36).keep K44).keep K46).ext E50).keep K52).lt bi_b54)) nin0))
           have fr71 : Arv Z h57 c14_1 kc14_2 .byte n_3 (own_by n_3 c_7 c_9) (.int 0) := (((((((((r14_4.keep K16 nin0).keep K34 nin0).keep K36 nin0).keep K44 nin0).keep K46 nin0).ext E50).keep K52 (ninS (Nat.ne_of_lt (Nat.lt_of_lt_of_le (((((r14_4.keep K16 nin0).keep K34 nin0).keep K36 nin0).keep K44 nin0).keep K46 nin0).lt bi_b50)) nin0)).ext E54).keep K57 (ninS (Nat.ne_of_lt (Nat.lt_of_lt_of_le (((((((r14_4.keep K16 nin0).keep K34 nin0).keep K36 nin0).keep K44 nin0).keep K46 nin0).ext E50).keep K52 (ninS (Nat.ne_of_lt (Nat.lt_of_lt_of_le (((((r14_4.keep K16 nin0).keep K34 nin0).keep K36 nin0).keep K44 nin0).keep K46 nin0).lt bi_b50)) nin0)).lt bi_b54)) nin0))
           have fr72 : Arv Z h57 c16_1 kc16_2 .byte n_5 (own_by n_5 c_11 c_13) (.int 0) := ((((((((r16_4.keep K34 nin0).keep K36 nin0).keep K44 nin0).keep K46 nin0).ext E50).keep K52 (ninS (Nat.ne_of_lt (Nat.lt_of_lt_of_le ((((r16_4.keep K34 nin0).keep K36 nin0).keep K44 nin0).keep K46 nin0).lt bi_b50)) nin0)).ext E54).keep K57 (ninS (Nat.ne_of_lt (Nat.lt_of_lt_of_le ((((((r16_4.keep K34 nin0).keep K36 nin0).keep K44 nin0).keep K46 nin0).ext E50).keep K52 (ninS (Nat.ne_of_lt (Nat.lt_of_lt_of_le ((((r16_4.keep K34 nin0).keep K36 nin0).keep K44 nin0).keep K46 nin0).lt bi_b50)) nin0)).lt bi_b54)) nin0))
           have fr73 : Fld Z h57 b50 "com/example/neat_order/neatorder/model/LifecycleFailure" "phase" "Lcom/example/neat_order/neatorder/model/LifecycleFailure$Phase;" (.ref (if ph_18 = (0 : Int32) then w_SET_UP else w_TEAR_DOWN)) := ((r52_1.ext E54).keep K57 (ninS (Nat.ne_of_lt (Nat.lt_of_lt_of_le (A50.keep K52).lt bi_b54)) nin0))
           obtain ⟨cq74, kq74, q74a, q74b, q74c⟩ := isOf hZr57 e57 (((A50.keep K52).ext E54).keep K57)
           obtain ⟨_, _, ⟨T74, L74, k74, n74⟩, -, X74, ⟨Lc74, hQ74, l74, y74, z74⟩, st74⟩ := Xr57.virtualBack hx (y := yM17) (z := yM17) hor57 (mvT hZr57 (w_ hw 86 rfl)) (mvT hZr57 (w_ hw 87 rfl)) (notFace_of_selects (args := #[]) (mvT hZr57 (w_ hw 89 rfl))) (mvT hZr57 (w_ hw 89 rfl)) (mvT hZr57 (w_ hw 88 rfl)) (by decide) (backOf (W := 0) (rm_feTt l Z av0 hw [] b50 b54 c14_0 c16_0 c14_1 c16_1 kc14_2 n_3 c_7 c_9 kc16_2 n_5 c_11 c_13 w_COMPACT_STRINGS (if ph_18 = (0 : Int32) then w_SET_UP else w_TEAR_DOWN) (if ph_19 = (0 : Int32) then w_SET_UP else w_TEAR_DOWN) h57 n0 (Nat.le_trans Z0 kp58.1) ol58 (A54.keep K57) fr65 r57_0 fr66 fr67 fr68 (fr56.keep K57) fr69 fr70 fr71 fr72 (Nat.ne_of_lt (Nat.lt_of_lt_of_le r14_1.lt bi_c16_0)) S_COMPACT_STRINGS hcs hbn_3_0 hbn_3_1 hbn_5_0 hbn_5_1 hbc_7_0 hbc_7_1 hbc_11_0 hbc_11_1 hbc_9_0 hbc_9_1 hbc_13_0 hbc_13_1 (fun z => absurd ((show (own_eq n_3 c_7 c_9 n_5 c_11 c_13) = 1 from if_pos ⟨hc61, Or.inl hc62, Or.inl hd63⟩).symm.trans z) (by decide)) fr73 r57_1 (congrArg (fun z : Int32 => if z = (0 : Int32) then w_SET_UP else w_TEAR_DOWN) hc64)) hZr57 (w_ hw 90 rfl) (w_ hw 66 rfl) (by decide) (by decide)) q74a q74c (g := (mkF m 339 #[.val (.int p0), .val (.int p1), .val (.int p2), .val (.int p3), .val (.int p4), .val (.int y1_0), .val (.int n_3), .val (.int n_5), .val (.int c_7), .val (.int c_9), .val (.int c_11), .val (.int c_13), .val (.ref c14_0), .val (.ref c16_0), .val (.int ph_18), .val (.int ph_19), .val (.ref (if ph_18 = (0 : Int32) then w_SET_UP else w_TEAR_DOWN)), .val (.ref (if ph_19 = (0 : Int32) then w_SET_UP else w_TEAR_DOWN)), .val (.ref c36_0), .val (.ref c46_0), .val (if (p2 &&& (8 : Int32)) = (0 : Int32) then (.ref c36_0) else .null), .val (if (p2 &&& (16 : Int32)) = (0 : Int32) then (.ref c46_0) else .null), .val (.ref b50), .val (.ref b54), .val (.int kd_59), .val (.ref b54), .val (.int 1), .val (.int 1)] [(.ref b54), (.ref b50)])) rfl (by rw [hml]; rfl) (Steps.refl _) (argsL := [(.ref b54)]) (rest := []) (lenOf pd_10 rfl) rfl (by show 2 * 0 + _ ≤ _; exact Nat.le_of_eq rfl) (hb hby at_339) (fun _ _ => ⟨rfl, e57, (by decide : 36 + 0 ≤ _), (by decide : 188 + 0 ≤ _)⟩)
           dsimp only [Pt.U, Pt.locs, Pt.cells, Pt.slots] at X74 l74 y74 z74 st74 hQ74
           subst l74 y74 z74
           obtain ⟨rfl, N74q, he74⟩ := hQ74
           have N74 := Fr.app N57 N74q
           refine OwnFin.tr st74 ?_
           show OwnFin _ _ _ _ (T74.setTop (mkF m 342 _ [(.int 1)]))
           refine OwnFin.st (fun _ q => XS.iload X74.here hx rfl (hb hby at_342) rfl q) ?_
           show OwnFin _ _ _ _ (T74.setTop (mkF m 344 _ [(.int 1), (.int 1)]))
           refine OwnFin.st (fun _ q => XS.icmpNo X74.here hx rfl (hb hby at_344) rfl (Jvm.Free.XT.ii_ne_f (rfl : (1 : Int32) = (1 : Int32))) q) ?_
           show OwnFin _ _ _ _ (T74.setTop (mkF m 347 _ []))
           refine OwnFin.st (fun _ q => XS.iconst X74.here hx rfl (hb hby at_347) q) ?_
           show OwnFin _ _ _ _ (T74.setTop (mkF m 348 _ [(.int 1)]))
           refine OwnFin.st (fun _ q => XS.goto X74.here hx rfl (pc0 := 348) (pc' := 352) rfl (hb hby at_348) (by decide) (by decide) q) ?_
           show OwnFin _ _ _ _ (T74.setTop (mkF m 352 _ [(.int 1)]))
           obtain ⟨fs, hr, hrun, hended, hEW⟩ := X74.leaveW (s := s) hSr57 (by rw [he74]; exact (Nat.le_trans (Nat.le_refl _) (Nat.le_refl _))) (v := some (.int 1)) (fun h => by rw [Bd.returns] at h; cases h)
           have chE : CHr Z own_EL s.vm s.heap T74.vm T74.heap := by
             rw [hh, he74]
             exact ch58.trans (CHv.at X74 hZr57 (own_EW hw) ch58.1)
           refine ⟨_, _, retN X74 hx (t := .boolean) Bd.returns (by simp) (hb hby at_352) hr, hrun, hended, _, _, rfl, ?_, chE, hEW.1, hEW.2.1, hEW.2.2.1, hEW.2.2.2.mono (by decide) (by decide)⟩
           show Q_rm0 Z p0 p1 p2 p3 p4 w_TEAR_DOWN w_SET_UP w_COMPACT_STRINGS h0 n0 _ T74.heap _
           rw [he74]
           exact ⟨rfl, N74⟩
          ·
           refine OwnFin.st (fun _ q => XS.icmpYes Xr57.here hx rfl (pc0 := 325) (pc' := 332) rfl (hb hby at_325) rfl (Jvm.Free.XT.ii_ne_t hc64) (by decide) (by decide) q) ?_
           show OwnFin _ _ _ _ (T57.setTop (mkF m 332 _ []))
           refine OwnFin.st (fun _ q => XS.iconst Xr57.here hx rfl (hb hby at_332) q) ?_
           show OwnFin _ _ _ _ (T57.setTop (mkF m 333 #[.val (.int p0), .val (.int p1), .val (.int p2), .val (.int p3), .val (.int p4), .val (.int y1_0), .val (.int n_3), .val (.int n_5), .val (.int c_7), .val (.int c_9), .val (.int c_11), .val (.int c_13), .val (.ref c14_0), .val (.ref c16_0), .val (.int ph_18), .val (.int ph_19), .val (.ref (if ph_18 = (0 : Int32) then w_SET_UP else w_TEAR_DOWN)), .val (.ref (if ph_19 = (0 : Int32) then w_SET_UP else w_TEAR_DOWN)), .val (.ref c36_0), .val (.ref c46_0), .val (if (p2 &&& (8 : Int32)) = (0 : Int32) then (.ref c36_0) else .null), .val (if (p2 &&& (16 : Int32)) = (0 : Int32) then (.ref c46_0) else .null), .val (.ref b50), .val (.ref b54), .val (.int kd_59), .val (.ref b54), .val (.int 1), .unset] [(.int 0)]))
           refine OwnFin.st (fun _ q => XS.istore Xr57.here hx rfl (hb hby at_333) rfl (l' := #[.val (.int p0), .val (.int p1), .val (.int p2), .val (.int p3), .val (.int p4), .val (.int y1_0), .val (.int n_3), .val (.int n_5), .val (.int c_7), .val (.int c_9), .val (.int c_11), .val (.int c_13), .val (.ref c14_0), .val (.ref c16_0), .val (.int ph_18), .val (.int ph_19), .val (.ref (if ph_18 = (0 : Int32) then w_SET_UP else w_TEAR_DOWN)), .val (.ref (if ph_19 = (0 : Int32) then w_SET_UP else w_TEAR_DOWN)), .val (.ref c36_0), .val (.ref c46_0), .val (if (p2 &&& (8 : Int32)) = (0 : Int32) then (.ref c36_0) else .null), .val (if (p2 &&& (16 : Int32)) = (0 : Int32) then (.ref c46_0) else .null), .val (.ref b50), .val (.ref b54), .val (.int kd_59), .val (.ref b54), .val (.int 1), .val (.int 0)]) rfl q) ?_
           show OwnFin _ _ _ _ (T57.setTop (mkF m 335 _ []))
           refine OwnFin.st (fun _ q => XS.aload Xr57.here hx rfl (hb hby at_335) rfl rfl q) ?_
           show OwnFin _ _ _ _ (T57.setTop (mkF m 337 _ [(.ref b50)]))
           refine OwnFin.st (fun _ q => XS.aload Xr57.here hx rfl (hb hby at_337) rfl rfl q) ?_
           show OwnFin _ _ _ _ (T57.setTop (mkF m 339 _ [(.ref b54), (.ref b50)]))
           have fr75 : Fld Z h57 b50 "com/example/neat_order/neatorder/model/LifecycleFailure" "container" "Ljava/lang/String;" (.ref c14_0) := ((r52_0.ext E54).keep K57 (ninS (Nat.ne_of_lt (Nat.lt_of_lt_of_le (A50.keep K52).lt bi_b54)) nin0))
           have fr76 : Exa Z h57 c14_0 "java/lang/String" := (((((((((r14_1.keep K16).keep K34).keep K36).keep K44).keep K46).ext E50).keep K52).ext E54).keep K57)
           have fr77 : Fld Z h57 c14_0 "java/lang/String" "coder" "B" (.int 0) := (((((((((r14_2.keep K16 nin0).keep K34 nin0).keep K36 nin0).keep K44 nin0).keep K46 nin0).ext E50).keep K52 (ninS (Nat.ne_of_lt (Nat.lt_of_lt_of_le (((((r14_1.keep K16).keep K34).keep K36).keep K44).keep K46).lt bi_b50)) nin0)).ext E54).keep K57 (ninS (Nat.ne_of_lt (Nat.lt_of_lt_of_le (((((((r14_1.keep K16).keep K34).keep K36).keep K44).keep K46).ext E50).keep K52).lt bi_b54)) nin0))
           have fr78 : Fld Z h57 c14_0 "java/lang/String" "value" "[B" (.ref c14_1) := (((((((((r14_3.keep K16 nin0).keep K34 nin0).keep K36 nin0).keep K44 nin0).keep K46 nin0).ext E50).keep K52 (ninS (Nat.ne_of_lt (Nat.lt_of_lt_of_le (((((r14_1.keep K16).keep K34).keep K36).keep K44).keep K46).lt bi_b50)) nin0)).ext E54).keep K57 (ninS (Nat.ne_of_lt (Nat.lt_of_lt_of_le (((((((r14_1.keep K16).keep K34).keep K36).keep K44).keep K46).ext E50).keep K52).lt bi_b54)) nin0))
           have fr79 : Fld Z h57 c16_0 "java/lang/String" "coder" "B" (.int 0) := ((((((((r16_2.keep K34 nin0).keep K36 nin0).keep K44 nin0).keep K46 nin0).ext E50).keep K52 (ninS (Nat.ne_of_lt (Nat.lt_of_lt_of_le ((((r16_1.keep K34).keep K36).keep K44).keep K46).lt bi_b50)) nin0)).ext E54).keep K57 (ninS (Nat.ne_of_lt (Nat.lt_of_lt_of_le ((((((r16_1.keep K34).keep K36).keep K44).keep K46).ext E50).keep K52).lt bi_b54)) nin0))
           have fr80 : Fld Z h57 c16_0 "java/lang/String" "value" "[B" (.ref c16_1) := ((((((((r16_3.keep K34 nin0).keep K36 nin0).keep K44 nin0).keep K46 nin0).ext E50).keep K52 (ninS (Nat.ne_of_lt (Nat.lt_of_lt_of_le ((((r16_1.keep K34).keep K36).keep K44).keep K46).lt bi_b50)) nin0)).ext E54).keep K57 (ninS (Nat.ne_of_lt (Nat.lt_of_lt_of_le ((((((r16_1.keep K34).keep K36).keep K44).keep K46).ext E50).keep K52).lt bi_b54)) nin0))
           have fr81 : Arv Z h57 c14_1 kc14_2 .byte n_3 (own_by n_3 c_7 c_9) (.int 0) := (((((((((r14_4.keep K16 nin0).keep K34 nin0).keep K36 nin0).keep K44 nin0).keep K46 nin0).ext E50).keep K52 (ninS (Nat.ne_of_lt (Nat.lt_of_lt_of_le (((((r14_4.keep K16 nin0).keep K34 nin0).keep K36 nin0).keep K44 nin0).keep K46 nin0).lt bi_b50)) nin0)).ext E54).keep K57 (ninS (Nat.ne_of_lt (Nat.lt_of_lt_of_le (((((((r14_4.keep K16 nin0).keep K34 nin0).keep K36 nin0).keep K44 nin0).keep K46 nin0).ext E50).keep K52 (ninS (Nat.ne_of_lt (Nat.lt_of_lt_of_le (((((r14_4.keep K16 nin0).keep K34 nin0).keep K36 nin0).keep K44 nin0).keep K46 nin0).lt bi_b50)) nin0)).lt bi_b54)) nin0))
           have fr82 : Arv Z h57 c16_1 kc16_2 .byte n_5 (own_by n_5 c_11 c_13) (.int 0) := ((((((((r16_4.keep K34 nin0).keep K36 nin0).keep K44 nin0).keep K46 nin0).ext E50).keep K52 (ninS (Nat.ne_of_lt (Nat.lt_of_lt_of_le ((((r16_4.keep K34 nin0).keep K36 nin0).keep K44 nin0).keep K46 nin0).lt bi_b50)) nin0)).ext E54).keep K57 (ninS (Nat.ne_of_lt (Nat.lt_of_lt_of_le ((((((r16_4.keep K34 nin0).keep K36 nin0).keep K44 nin0).keep K46 nin0).ext E50).keep K52 (ninS (Nat.ne_of_lt (Nat.lt_of_lt_of_le ((((r16_4.keep K34 nin0).keep K36 nin0).keep K44 nin0).keep K46 nin0).lt bi_b50)) nin0)).lt bi_b54)) nin0))
           have fr83 : Fld Z h57 b50 "com/example/neat_order/neatorder/model/LifecycleFailure" "phase" "Lcom/example/neat_order/neatorder/model/LifecycleFailure$Phase;" (.ref (if ph_18 = (0 : Int32) then w_SET_UP else w_TEAR_DOWN)) := ((r52_1.ext E54).keep K57 (ninS (Nat.ne_of_lt (Nat.lt_of_lt_of_le (A50.keep K52).lt bi_b54)) nin0))
           obtain ⟨cq84, kq84, q84a, q84b, q84c⟩ := isOf hZr57 e57 (((A50.keep K52).ext E54).keep K57)
           obtain ⟨_, _, ⟨T84, L84, k84, n84⟩, -, X84, ⟨Lc84, hQ84, l84, y84, z84⟩, st84⟩ := Xr57.virtualBack hx (y := yM17) (z := yM17) hor57 (mvT hZr57 (w_ hw 86 rfl)) (mvT hZr57 (w_ hw 87 rfl)) (notFace_of_selects (args := #[]) (mvT hZr57 (w_ hw 89 rfl))) (mvT hZr57 (w_ hw 89 rfl)) (mvT hZr57 (w_ hw 88 rfl)) (by decide) (backOf (W := 0) (rm_feTf l Z av0 hw [] b50 b54 c14_0 c16_0 c14_1 c16_1 kc14_2 n_3 c_7 c_9 kc16_2 n_5 c_11 c_13 w_COMPACT_STRINGS (if ph_18 = (0 : Int32) then w_SET_UP else w_TEAR_DOWN) (if ph_19 = (0 : Int32) then w_SET_UP else w_TEAR_DOWN) h57 n0 (Nat.le_trans Z0 kp58.1) ol58 (A54.keep K57) fr75 r57_0 fr76 fr77 fr78 (fr56.keep K57) fr79 fr80 fr81 fr82 (Nat.ne_of_lt (Nat.lt_of_lt_of_le r14_1.lt bi_c16_0)) S_COMPACT_STRINGS hcs hbn_3_0 hbn_3_1 hbn_5_0 hbn_5_1 hbc_7_0 hbc_7_1 hbc_11_0 hbc_11_1 hbc_9_0 hbc_9_1 hbc_13_0 hbc_13_1 (fun z => absurd ((show (own_eq n_3 c_7 c_9 n_5 c_11 c_13) = 1 from if_pos ⟨hc61, Or.inl hc62, Or.inl hd63⟩).symm.trans z) (by decide)) fr83 r57_1 (own_phne hbph_18_0 hbph_18_1 hbph_19_0 hbph_19_1 (Fld.ne F_ordinal_w_SET_UP F_ordinal_w_TEAR_DOWN (by decide)) hc64)) hZr57 (w_ hw 90 rfl) (w_ hw 66 rfl) (by decide) (by decide)) q84a q84c (g := (mkF m 339 #[.val (.int p0), .val (.int p1), .val (.int p2), .val (.int p3), .val (.int p4), .val (.int y1_0), .val (.int n_3), .val (.int n_5), .val (.int c_7), .val (.int c_9), .val (.int c_11), .val (.int c_13), .val (.ref c14_0), .val (.ref c16_0), .val (.int ph_18), .val (.int ph_19), .val (.ref (if ph_18 = (0 : Int32) then w_SET_UP else w_TEAR_DOWN)), .val (.ref (if ph_19 = (0 : Int32) then w_SET_UP else w_TEAR_DOWN)), .val (.ref c36_0), .val (.ref c46_0), .val (if (p2 &&& (8 : Int32)) = (0 : Int32) then (.ref c36_0) else .null), .val (if (p2 &&& (16 : Int32)) = (0 : Int32) then (.ref c46_0) else .null), .val (.ref b50), .val (.ref b54), .val (.int kd_59), .val (.ref b54), .val (.int 1), .val (.int 0)] [(.ref b54), (.ref b50)])) rfl (by rw [hml]; rfl) (Steps.refl _) (argsL := [(.ref b54)]) (rest := []) (lenOf pd_10 rfl) rfl (by show 2 * 0 + _ ≤ _; exact Nat.le_of_eq rfl) (hb hby at_339) (fun _ _ => ⟨rfl, e57, (by decide : 36 + 0 ≤ _), (by decide : 188 + 0 ≤ _)⟩)
           dsimp only [Pt.U, Pt.locs, Pt.cells, Pt.slots] at X84 l84 y84 z84 st84 hQ84
           subst l84 y84 z84
           obtain ⟨rfl, N84q, he84⟩ := hQ84
           have N84 := Fr.app N57 N84q
           refine OwnFin.tr st84 ?_
           show OwnFin _ _ _ _ (T84.setTop (mkF m 342 _ [(.int 0)]))
           refine OwnFin.st (fun _ q => XS.iload X84.here hx rfl (hb hby at_342) rfl q) ?_
           show OwnFin _ _ _ _ (T84.setTop (mkF m 344 _ [(.int 0), (.int 0)]))
           refine OwnFin.st (fun _ q => XS.icmpNo X84.here hx rfl (hb hby at_344) rfl (Jvm.Free.XT.ii_ne_f (rfl : (0 : Int32) = (0 : Int32))) q) ?_
           show OwnFin _ _ _ _ (T84.setTop (mkF m 347 _ []))
           refine OwnFin.st (fun _ q => XS.iconst X84.here hx rfl (hb hby at_347) q) ?_
           show OwnFin _ _ _ _ (T84.setTop (mkF m 348 _ [(.int 1)]))
           refine OwnFin.st (fun _ q => XS.goto X84.here hx rfl (pc0 := 348) (pc' := 352) rfl (hb hby at_348) (by decide) (by decide) q) ?_
           show OwnFin _ _ _ _ (T84.setTop (mkF m 352 _ [(.int 1)]))
           obtain ⟨fs, hr, hrun, hended, hEW⟩ := X84.leaveW (s := s) hSr57 (by rw [he84]; exact (Nat.le_trans (Nat.le_refl _) (Nat.le_refl _))) (v := some (.int 1)) (fun h => by rw [Bd.returns] at h; cases h)
           have chE : CHr Z own_EL s.vm s.heap T84.vm T84.heap := by
             rw [hh, he84]
             exact ch58.trans (CHv.at X84 hZr57 (own_EW hw) ch58.1)
           refine ⟨_, _, retN X84 hx (t := .boolean) Bd.returns (by simp) (hb hby at_352) hr, hrun, hended, _, _, rfl, ?_, chE, hEW.1, hEW.2.1, hEW.2.2.1, hEW.2.2.2.mono (by decide) (by decide)⟩
           show Q_rm0 Z p0 p1 p2 p3 p4 w_TEAR_DOWN w_SET_UP w_COMPACT_STRINGS h0 n0 _ T84.heap _
           rw [he84]
           exact ⟨rfl, N84⟩
         ·
          refine OwnFin.st (fun _ q => XS.icmpNo Xr57.here hx rfl (hb hby at_281) rfl (Jvm.Free.XT.ii_lt_f hc62) q) ?_
          show OwnFin _ _ _ _ (T57.setTop (mkF m 284 _ []))
          refine OwnFin.st (fun _ q => XS.iload Xr57.here hx rfl (hb hby at_284) rfl q) ?_
          show OwnFin _ _ _ _ (T57.setTop (mkF m 286 #[.val (.int p0), .val (.int p1), .val (.int p2), .val (.int p3), .val (.int p4), .val (.int y1_0), .val (.int n_3), .val (.int n_5), .val (.int c_7), .val (.int c_9), .val (.int c_11), .val (.int c_13), .val (.ref c14_0), .val (.ref c16_0), .val (.int ph_18), .val (.int ph_19), .val (.ref (if ph_18 = (0 : Int32) then w_SET_UP else w_TEAR_DOWN)), .val (.ref (if ph_19 = (0 : Int32) then w_SET_UP else w_TEAR_DOWN)), .val (.ref c36_0), .val (.ref c46_0), .val (if (p2 &&& (8 : Int32)) = (0 : Int32) then (.ref c36_0) else .null), .val (if (p2 &&& (16 : Int32)) = (0 : Int32) then (.ref c46_0) else .null), .val (.ref b50), .val (.ref b54), .val (.int kd_59), .val (.ref b54), .unset, .unset] [(.int c_7)]))
          refine OwnFin.st (fun _ q => XS.iload Xr57.here hx rfl (hb hby at_286) rfl q) ?_
          show OwnFin _ _ _ _ (T57.setTop (mkF m 288 _ [(.int c_11), (.int c_7)]))
          by_cases hc85 : c_7 = c_11
          ·
           refine OwnFin.st (fun _ q => XS.icmpNo Xr57.here hx rfl (hb hby at_288) rfl (Jvm.Free.XT.ii_ne_f hc85) q) ?_
           show OwnFin _ _ _ _ (T57.setTop (mkF m 291 _ []))
           refine OwnFin.st (fun _ q => XS.iload Xr57.here hx rfl (hb hby at_291) rfl q) ?_
           show OwnFin _ _ _ _ (T57.setTop (mkF m 293 _ [(.int n_3)]))
           refine OwnFin.st (fun _ q => XS.iconst Xr57.here hx rfl (hb hby at_293) q) ?_
           show OwnFin _ _ _ _ (T57.setTop (mkF m 294 _ [(.int 2), (.int n_3)]))
           by_cases hc86 : n_3 < (2 : Int32)
           ·
            refine OwnFin.st (fun _ q => XS.icmpYes Xr57.here hx rfl (pc0 := 294) (pc' := 304) rfl (hb hby at_294) rfl (Jvm.Free.XT.ii_lt_t hc86) (by decide) (by decide) q) ?_
            show OwnFin _ _ _ _ (T57.setTop (mkF m 304 _ []))
            refine OwnFin.st (fun _ q => XS.iconst Xr57.here hx rfl (hb hby at_304) q) ?_
            show OwnFin _ _ _ _ (T57.setTop (mkF m 305 _ [(.int 1)]))
            refine OwnFin.st (fun _ q => XS.goto Xr57.here hx rfl (pc0 := 305) (pc' := 309) rfl (hb hby at_305) (by decide) (by decide) q) ?_
            show OwnFin _ _ _ _ (T57.setTop (mkF m 309 _ [(.int 1)]))
            refine OwnFin.st (fun _ q => XS.istore Xr57.here hx rfl (hb hby at_309) rfl (l' := #[.val (.int p0), .val (.int p1), .val (.int p2), .val (.int p3), .val (.int p4), .val (.int y1_0), .val (.int n_3), .val (.int n_5), .val (.int c_7), .val (.int c_9), .val (.int c_11), .val (.int c_13), .val (.ref c14_0), .val (.ref c16_0), .val (.int ph_18), .val (.int ph_19), .val (.ref (if ph_18 = (0 : Int32) then w_SET_UP else w_TEAR_DOWN)), .val (.ref (if ph_19 = (0 : Int32) then w_SET_UP else w_TEAR_DOWN)), .val (.ref c36_0), .val (.ref c46_0), .val (if (p2 &&& (8 : Int32)) = (0 : Int32) then (.ref c36_0) else .null), .val (if (p2 &&& (16 : Int32)) = (0 : Int32) then (.ref c46_0) else .null), .val (.ref b50), .val (.ref b54), .val (.int kd_59), .val (.ref b54), .val (.int 1), .unset]) rfl q) ?_
            show OwnFin _ _ _ _ (T57.setTop (mkF m 311 _ []))
            refine OwnFin.st (fun _ q => XS.iload Xr57.here hx rfl (hb hby at_311) rfl q) ?_
            show OwnFin _ _ _ _ (T57.setTop (mkF m 313 _ [(.int kd_59)]))
            refine OwnFin.st (fun _ q => XS.ifNo Xr57.here hx rfl (hb hby at_313) rfl (Jvm.Free.XT.i0_ne_f hc60) q) ?_
            show OwnFin _ _ _ _ (T57.setTop (mkF m 316 _ []))
            refine OwnFin.st (fun _ q => XS.iload Xr57.here hx rfl (hb hby at_316) rfl q) ?_
            show OwnFin _ _ _ _ (T57.setTop (mkF m 318 _ [(.int 1)]))
            refine OwnFin.st (fun _ q => XS.ifNo Xr57.here hx rfl (hb hby at_318) rfl (Jvm.Free.XT.i0_eq_f (by decide : ¬ ((1 : Int32) = (0 : Int32)))) q) ?_
            show OwnFin _ _ _ _ (T57.setTop (mkF m 321 _ []))
            refine OwnFin.st (fun _ q => XS.iload Xr57.here hx rfl (hb hby at_321) rfl q) ?_
            show OwnFin _ _ _ _ (T57.setTop (mkF m 323 #[.val (.int p0), .val (.int p1), .val (.int p2), .val (.int p3), .val (.int p4), .val (.int y1_0), .val (.int n_3), .val (.int n_5), .val (.int c_7), .val (.int c_9), .val (.int c_11), .val (.int c_13), .val (.ref c14_0), .val (.ref c16_0), .val (.int ph_18), .val (.int ph_19), .val (.ref (if ph_18 = (0 : Int32) then w_SET_UP else w_TEAR_DOWN)), .val (.ref (if ph_19 = (0 : Int32) then w_SET_UP else w_TEAR_DOWN)), .val (.ref c36_0), .val (.ref c46_0), .val (if (p2 &&& (8 : Int32)) = (0 : Int32) then (.ref c36_0) else .null), .val (if (p2 &&& (16 : Int32)) = (0 : Int32) then (.ref c46_0) else .null), .val (.ref b50), .val (.ref b54), .val (.int kd_59), .val (.ref b54), .val (.int 1), .unset] [(.int ph_18)]))
            refine OwnFin.st (fun _ q => XS.iload Xr57.here hx rfl (hb hby at_323) rfl q) ?_
            show OwnFin _ _ _ _ (T57.setTop (mkF m 325 _ [(.int ph_19), (.int ph_18)]))
            by_cases hc87 : ph_18 = ph_19
            ·
             refine OwnFin.st (fun _ q => XS.icmpNo Xr57.here hx rfl (hb hby at_325) rfl (Jvm.Free.XT.ii_ne_f hc87) q) ?_
             show OwnFin _ _ _ _ (T57.setTop (mkF m 328 _ []))
             refine OwnFin.st (fun _ q => XS.iconst Xr57.here hx rfl (hb hby at_328) q) ?_
             show OwnFin _ _ _ _ (T57.setTop (mkF m 329 _ [(.int 1)]))
             refine OwnFin.st (fun _ q => XS.goto Xr57.here hx rfl (pc0 := 329) (pc' := 333) rfl (hb hby at_329) (by decide) (by decide) q) ?_
             show OwnFin _ _ _ _ (T57.setTop (mkF m 333 _ [(.int 1)]))
             refine OwnFin.st (fun _ q => XS.istore Xr57.here hx rfl (hb hby at_333) rfl (l' := #[.val (.int p0), .val (.int p1), .val (.int p2), .val (.int p3), .val (.int p4), .val (.int y1_0), .val (.int n_3), .val (.int n_5), .val (.int c_7), .val (.int c_9), .val (.int c_11), .val (.int c_13), .val (.ref c14_0), .val (.ref c16_0), .val (.int ph_18), .val (.int ph_19), .val (.ref (if ph_18 = (0 : Int32) then w_SET_UP else w_TEAR_DOWN)), .val (.ref (if ph_19 = (0 : Int32) then w_SET_UP else w_TEAR_DOWN)), .val (.ref c36_0), .val (.ref c46_0), .val (if (p2 &&& (8 : Int32)) = (0 : Int32) then (.ref c36_0) else .null), .val (if (p2 &&& (16 : Int32)) = (0 : Int32) then (.ref c46_0) else .null), .val (.ref b50), .val (.ref b54), .val (.int kd_59), .val (.ref b54), .val (.int 1), .val (.int 1)]) rfl q) ?_
             show OwnFin _ _ _ _ (T57.setTop (mkF m 335 _ []))
             refine OwnFin.st (fun _ q => XS.aload Xr57.here hx rfl (hb hby at_335) rfl rfl q) ?_
             show OwnFin _ _ _ _ (T57.setTop (mkF m 337 _ [(.ref b50)]))
             refine OwnFin.st (fun _ q => XS.aload Xr57.here hx rfl (hb hby at_337) rfl rfl q) ?_
             show OwnFin _ _ _ _ (T57.setTop (mkF m 339 _ [(.ref b54), (.ref b50)]))
             have fr88 : Fld Z h57 b50 "com/example/neat_order/neatorder/model/LifecycleFailure" "container" "Ljava/lang/String;" (.ref c14_0) := ((r52_0.ext E54).keep K57 (ninS (Nat.ne_of_lt (Nat.lt_of_lt_of_le (A50.keep K52).lt bi_b54)) nin0))
             have fr89 : Exa Z h57 c14_0 "java/lang/String" := (((((((((r14_1.keep K16).keep K34).keep K36).keep K44).keep K46).ext E50).keep K52).ext E54).keep K57)
             have fr90 : Fld Z h57 c14_0 "java/lang/String" "coder" "B" (.int 0) := (((((((((r14_2.keep K16 nin0).keep K34 nin0).keep K36 nin0).keep K44 nin0).keep K46 nin0).ext E50).keep K52 (ninS (Nat.ne_of_lt (Nat.lt_of_lt_of_le (((((r14_1.keep K16).keep K34).keep K36).keep K44).keep K46).lt bi_b50)) nin0)).ext E54).keep K57 (ninS (Nat.ne_of_lt (Nat.lt_of_lt_of_le (((((((r14_1.keep K16).keep K34).keep K36).keep K44).keep K46).ext E50).keep K52).lt bi_b54)) nin0))
             have fr91 : Fld Z h57 c14_0 "java/lang/String" "value" "[B" (.ref c14_1) := (((((((((r14_3.keep K16 nin0).keep K34 nin0).keep K36 nin0).keep K44 nin0).keep K46 nin0).ext E50).keep K52 (ninS (Nat.ne_of_lt (Nat.lt_of_lt_of_le (((((r14_1.keep K16).keep K34).keep K36).keep K44).keep K46).lt bi_b50)) nin0)).ext E54).keep K57 (ninS (Nat.ne_of_lt (Nat.lt_of_lt_of_le (((((((r14_1.keep K16).keep K34).keep K36).keep K44).keep K46).ext E50).keep K52).lt bi_b54)) nin0))
             have fr92 : Fld Z h57 c16_0 "java/lang/String" "coder" "B" (.int 0) := ((((((((r16_2.keep K34 nin0).keep K36 nin0).keep K44 nin0).keep K46 nin0).ext E50).keep K52 (ninS (Nat.ne_of_lt (Nat.lt_of_lt_of_le ((((r16_1.keep K34).keep K36).keep K44).keep K46).lt bi_b50)) nin0)).ext E54).keep K57 (ninS (Nat.ne_of_lt (Nat.lt_of_lt_of_le ((((((r16_1.keep K34).keep K36).keep K44).keep K46).ext E50).keep K52).lt bi_b54)) nin0))
             have fr93 : Fld Z h57 c16_0 "java/lang/String" "value" "[B" (.ref c16_1) := ((((((((r16_3.keep K34 nin0).keep K36 nin0).keep K44 nin0).keep K46 nin0).ext E50).keep K52 (ninS (Nat.ne_of_lt (Nat.lt_of_lt_of_le ((((r16_1.keep K34).keep K36).keep K44).keep K46).lt bi_b50)) nin0)).ext E54).keep K57 (ninS (Nat.ne_of_lt (Nat.lt_of_lt_of_le ((((((r16_1.keep K34).keep K36).keep K44).keep K46).ext E50).keep K52).lt bi_b54)) nin0))
             have fr94 : Arv Z h57 c14_1 kc14_2 .byte n_3 (own_by n_3 c_7 c_9) (.int 0) := (((((((((r14_4.keep K16 nin0).keep K34 nin0).keep K36 nin0).keep K44 nin0).keep K46 nin0).ext E50).keep K52 (ninS (Nat.ne_of_lt (Nat.lt_of_lt_of_le (((((r14_4.keep K16 nin0).keep K34 nin0).keep K36 nin0).keep K44 nin0).keep K46 nin0).lt bi_b50)) nin0)).ext E54).keep K57 (ninS (Nat.ne_of_lt (Nat.lt_of_lt_of_le (((((((r14_4.keep K16 nin0).keep K34 nin0).keep K36 nin0).keep K44 nin0).keep K46 nin0).ext E50).keep K52 (ninS (Nat.ne_of_lt (Nat.lt_of_lt_of_le (((((r14_4.keep K16 nin0).keep K34 nin0).keep K36 nin0).keep K44 nin0).keep K46 nin0).lt bi_b50)) nin0)).lt bi_b54)) nin0))
             have fr95 : Arv Z h57 c16_1 kc16_2 .byte n_5 (own_by n_5 c_11 c_13) (.int 0) := ((((((((r16_4.keep K34 nin0).keep K36 nin0).keep K44 nin0).keep K46 nin0).ext E50).keep K52 (ninS (Nat.ne_of_lt (Nat.lt_of_lt_of_le ((((r16_4.keep K34 nin0).keep K36 nin0).keep K44 nin0).keep K46 nin0).lt bi_b50)) nin0)).ext E54).keep K57 (ninS (Nat.ne_of_lt (Nat.lt_of_lt_of_le ((((((r16_4.keep K34 nin0).keep K36 nin0).keep K44 nin0).keep K46 nin0).ext E50).keep K52 (ninS (Nat.ne_of_lt (Nat.lt_of_lt_of_le ((((r16_4.keep K34 nin0).keep K36 nin0).keep K44 nin0).keep K46 nin0).lt bi_b50)) nin0)).lt bi_b54)) nin0))
             have fr96 : Fld Z h57 b50 "com/example/neat_order/neatorder/model/LifecycleFailure" "phase" "Lcom/example/neat_order/neatorder/model/LifecycleFailure$Phase;" (.ref (if ph_18 = (0 : Int32) then w_SET_UP else w_TEAR_DOWN)) := ((r52_1.ext E54).keep K57 (ninS (Nat.ne_of_lt (Nat.lt_of_lt_of_le (A50.keep K52).lt bi_b54)) nin0))
             obtain ⟨cq97, kq97, q97a, q97b, q97c⟩ := isOf hZr57 e57 (((A50.keep K52).ext E54).keep K57)
             obtain ⟨_, _, ⟨T97, L97, k97, n97⟩, -, X97, ⟨Lc97, hQ97, l97, y97, z97⟩, st97⟩ := Xr57.virtualBack hx (y := yM17) (z := yM17) hor57 (mvT hZr57 (w_ hw 86 rfl)) (mvT hZr57 (w_ hw 87 rfl)) (notFace_of_selects (args := #[]) (mvT hZr57 (w_ hw 89 rfl))) (mvT hZr57 (w_ hw 89 rfl)) (mvT hZr57 (w_ hw 88 rfl)) (by decide) (backOf (W := 0) (rm_feTt l Z av0 hw [] b50 b54 c14_0 c16_0 c14_1 c16_1 kc14_2 n_3 c_7 c_9 kc16_2 n_5 c_11 c_13 w_COMPACT_STRINGS (if ph_18 = (0 : Int32) then w_SET_UP else w_TEAR_DOWN) (if ph_19 = (0 : Int32) then w_SET_UP else w_TEAR_DOWN) h57 n0 (Nat.le_trans Z0 kp58.1) ol58 (A54.keep K57) fr88 r57_0 fr89 fr90 fr91 (fr56.keep K57) fr92 fr93 fr94 fr95 (Nat.ne_of_lt (Nat.lt_of_lt_of_le r14_1.lt bi_c16_0)) S_COMPACT_STRINGS hcs hbn_3_0 hbn_3_1 hbn_5_0 hbn_5_1 hbc_7_0 hbc_7_1 hbc_11_0 hbc_11_1 hbc_9_0 hbc_9_1 hbc_13_0 hbc_13_1 (fun z => absurd ((show (own_eq n_3 c_7 c_9 n_5 c_11 c_13) = 1 from if_pos ⟨hc61, Or.inr hc85, Or.inl hc86⟩).symm.trans z) (by decide)) fr96 r57_1 (congrArg (fun z : Int32 => if z = (0 : Int32) then w_SET_UP else w_TEAR_DOWN) hc87)) hZr57 (w_ hw 90 rfl) (w_ hw 66 rfl) (by decide) (by decide)) q97a q97c (g := (mkF m 339 #[.val (.int p0), .val (.int p1), .val (.int p2), .val (.int p3), .val (.int p4), .val (.int y1_0), .val (.int n_3), .val (.int n_5), .val (.int c_7), .val (.int c_9), .val (.int c_11), .val (.int c_13), .val (.ref c14_0), .val (.ref c16_0), .val (.int ph_18), .val (.int ph_19), .val (.ref (if ph_18 = (0 : Int32) then w_SET_UP else w_TEAR_DOWN)), .val (.ref (if ph_19 = (0 : Int32) then w_SET_UP else w_TEAR_DOWN)), .val (.ref c36_0), .val (.ref c46_0), .val (if (p2 &&& (8 : Int32)) = (0 : Int32) then (.ref c36_0) else .null), .val (if (p2 &&& (16 : Int32)) = (0 : Int32) then (.ref c46_0) else .null), .val (.ref b50), .val (.ref b54), .val (.int kd_59), .val (.ref b54), .val (.int 1), .val (.int 1)] [(.ref b54), (.ref b50)])) rfl (by rw [hml]; rfl) (Steps.refl _) (argsL := [(.ref b54)]) (rest := []) (lenOf pd_10 rfl) rfl (by show 2 * 0 + _ ≤ _; exact Nat.le_of_eq rfl) (hb hby at_339) (fun _ _ => ⟨rfl, e57, (by decide : 36 + 0 ≤ _), (by decide : 188 + 0 ≤ _)⟩)
             dsimp only [Pt.U, Pt.locs, Pt.cells, Pt.slots] at X97 l97 y97 z97 st97 hQ97
             subst l97 y97 z97
             obtain ⟨rfl, N97q, he97⟩ := hQ97
             have N97 := Fr.app N57 N97q
             refine OwnFin.tr st97 ?_
             show OwnFin _ _ _ _ (T97.setTop (mkF m 342 _ [(.int 1)]))
             refine OwnFin.st (fun _ q => XS.iload X97.here hx rfl (hb hby at_342) rfl q) ?_
             show OwnFin _ _ _ _ (T97.setTop (mkF m 344 _ [(.int 1), (.int 1)]))
             refine OwnFin.st (fun _ q => XS.icmpNo X97.here hx rfl (hb hby at_344) rfl (Jvm.Free.XT.ii_ne_f (rfl : (1 : Int32) = (1 : Int32))) q) ?_
             show OwnFin _ _ _ _ (T97.setTop (mkF m 347 _ []))
             refine OwnFin.st (fun _ q => XS.iconst X97.here hx rfl (hb hby at_347) q) ?_
             show OwnFin _ _ _ _ (T97.setTop (mkF m 348 _ [(.int 1)]))
             refine OwnFin.st (fun _ q => XS.goto X97.here hx rfl (pc0 := 348) (pc' := 352) rfl (hb hby at_348) (by decide) (by decide) q) ?_
             show OwnFin _ _ _ _ (T97.setTop (mkF m 352 _ [(.int 1)]))
             obtain ⟨fs, hr, hrun, hended, hEW⟩ := X97.leaveW (s := s) hSr57 (by rw [he97]; exact (Nat.le_trans (Nat.le_refl _) (Nat.le_refl _))) (v := some (.int 1)) (fun h => by rw [Bd.returns] at h; cases h)
             have chE : CHr Z own_EL s.vm s.heap T97.vm T97.heap := by
               rw [hh, he97]
               exact ch58.trans (CHv.at X97 hZr57 (own_EW hw) ch58.1)
             refine ⟨_, _, retN X97 hx (t := .boolean) Bd.returns (by simp) (hb hby at_352) hr, hrun, hended, _, _, rfl, ?_, chE, hEW.1, hEW.2.1, hEW.2.2.1, hEW.2.2.2.mono (by decide) (by decide)⟩
             show Q_rm0 Z p0 p1 p2 p3 p4 w_TEAR_DOWN w_SET_UP w_COMPACT_STRINGS h0 n0 _ T97.heap _
             rw [he97]
             exact ⟨rfl, N97⟩
            ·
             refine OwnFin.st (fun _ q => XS.icmpYes Xr57.here hx rfl (pc0 := 325) (pc' := 332) rfl (hb hby at_325) rfl (Jvm.Free.XT.ii_ne_t hc87) (by decide) (by decide) q) ?_
             show OwnFin _ _ _ _ (T57.setTop (mkF m 332 _ []))
             refine OwnFin.st (fun _ q => XS.iconst Xr57.here hx rfl (hb hby at_332) q) ?_
             show OwnFin _ _ _ _ (T57.setTop (mkF m 333 _ [(.int 0)]))
             refine OwnFin.st (fun _ q => XS.istore Xr57.here hx rfl (hb hby at_333) rfl (l' := #[.val (.int p0), .val (.int p1), .val (.int p2), .val (.int p3), .val (.int p4), .val (.int y1_0), .val (.int n_3), .val (.int n_5), .val (.int c_7), .val (.int c_9), .val (.int c_11), .val (.int c_13), .val (.ref c14_0), .val (.ref c16_0), .val (.int ph_18), .val (.int ph_19), .val (.ref (if ph_18 = (0 : Int32) then w_SET_UP else w_TEAR_DOWN)), .val (.ref (if ph_19 = (0 : Int32) then w_SET_UP else w_TEAR_DOWN)), .val (.ref c36_0), .val (.ref c46_0), .val (if (p2 &&& (8 : Int32)) = (0 : Int32) then (.ref c36_0) else .null), .val (if (p2 &&& (16 : Int32)) = (0 : Int32) then (.ref c46_0) else .null), .val (.ref b50), .val (.ref b54), .val (.int kd_59), .val (.ref b54), .val (.int 1), .val (.int 0)]) rfl q) ?_
             show OwnFin _ _ _ _ (T57.setTop (mkF m 335 _ []))
             refine OwnFin.st (fun _ q => XS.aload Xr57.here hx rfl (hb hby at_335) rfl rfl q) ?_
             show OwnFin _ _ _ _ (T57.setTop (mkF m 337 _ [(.ref b50)]))
             refine OwnFin.st (fun _ q => XS.aload Xr57.here hx rfl (hb hby at_337) rfl rfl q) ?_
             show OwnFin _ _ _ _ (T57.setTop (mkF m 339 _ [(.ref b54), (.ref b50)]))
             have fr98 : Fld Z h57 b50 "com/example/neat_order/neatorder/model/LifecycleFailure" "container" "Ljava/lang/String;" (.ref c14_0) := ((r52_0.ext E54).keep K57 (ninS (Nat.ne_of_lt (Nat.lt_of_lt_of_le (A50.keep K52).lt bi_b54)) nin0))
             have fr99 : Exa Z h57 c14_0 "java/lang/String" := (((((((((r14_1.keep K16).keep K34).keep K36).keep K44).keep K46).ext E50).keep K52).ext E54).keep K57)
             have fr100 : Fld Z h57 c14_0 "java/lang/String" "coder" "B" (.int 0) := (((((((((r14_2.keep K16 nin0).keep K34 nin0).keep K36 nin0).keep K44 nin0).keep K46 nin0).ext E50).keep K52 (ninS (Nat.ne_of_lt (Nat.lt_of_lt_of_le (((((r14_1.keep K16).keep K34).keep K36).keep K44).keep K46).lt bi_b50)) nin0)).ext E54).keep K57 (ninS (Nat.ne_of_lt (Nat.lt_of_lt_of_le (((((((r14_1.keep K16).keep K34).keep K36).keep K44).keep K46).ext E50).keep K52).lt bi_b54)) nin0))
             have fr101 : Fld Z h57 c14_0 "java/lang/String" "value" "[B" (.ref c14_1) := (((((((((r14_3.keep K16 nin0).keep K34 nin0).keep K36 nin0).keep K44 nin0).keep K46 nin0).ext E50).keep K52 (ninS (Nat.ne_of_lt (Nat.lt_of_lt_of_le (((((r14_1.keep K16).keep K34).keep K36).keep K44).keep K46).lt bi_b50)) nin0)).ext E54).keep K57 (ninS (Nat.ne_of_lt (Nat.lt_of_lt_of_le (((((((r14_1.keep K16).keep K34).keep K36).keep K44).keep K46).ext E50).keep K52).lt bi_b54)) nin0))
             have fr102 : Fld Z h57 c16_0 "java/lang/String" "coder" "B" (.int 0) := ((((((((r16_2.keep K34 nin0).keep K36 nin0).keep K44 nin0).keep K46 nin0).ext E50).keep K52 (ninS (Nat.ne_of_lt (Nat.lt_of_lt_of_le ((((r16_1.keep K34).keep K36).keep K44).keep K46).lt bi_b50)) nin0)).ext E54).keep K57 (ninS (Nat.ne_of_lt (Nat.lt_of_lt_of_le ((((((r16_1.keep K34).keep K36).keep K44).keep K46).ext E50).keep K52).lt bi_b54)) nin0))
             have fr103 : Fld Z h57 c16_0 "java/lang/String" "value" "[B" (.ref c16_1) := ((((((((r16_3.keep K34 nin0).keep K36 nin0).keep K44 nin0).keep K46 nin0).ext E50).keep K52 (ninS (Nat.ne_of_lt (Nat.lt_of_lt_of_le ((((r16_1.keep K34).keep K36).keep K44).keep K46).lt bi_b50)) nin0)).ext E54).keep K57 (ninS (Nat.ne_of_lt (Nat.lt_of_lt_of_le ((((((r16_1.keep K34).keep K36).keep K44).keep K46).ext E50).keep K52).lt bi_b54)) nin0))
             have fr104 : Arv Z h57 c14_1 kc14_2 .byte n_3 (own_by n_3 c_7 c_9) (.int 0) := (((((((((r14_4.keep K16 nin0).keep K34 nin0).keep K36 nin0).keep K44 nin0).keep K46 nin0).ext E50).keep K52 (ninS (Nat.ne_of_lt (Nat.lt_of_lt_of_le (((((r14_4.keep K16 nin0).keep K34 nin0).keep K36 nin0).keep K44 nin0).keep K46 nin0).lt bi_b50)) nin0)).ext E54).keep K57 (ninS (Nat.ne_of_lt (Nat.lt_of_lt_of_le (((((((r14_4.keep K16 nin0).keep K34 nin0).keep K36 nin0).keep K44 nin0).keep K46 nin0).ext E50).keep K52 (ninS (Nat.ne_of_lt (Nat.lt_of_lt_of_le (((((r14_4.keep K16 nin0).keep K34 nin0).keep K36 nin0).keep K44 nin0).keep K46 nin0).lt bi_b50)) nin0)).lt bi_b54)) nin0))
             have fr105 : Arv Z h57 c16_1 kc16_2 .byte n_5 (own_by n_5 c_11 c_13) (.int 0) := ((((((((r16_4.keep K34 nin0).keep K36 nin0).keep K44 nin0).keep K46 nin0).ext E50).keep K52 (ninS (Nat.ne_of_lt (Nat.lt_of_lt_of_le ((((r16_4.keep K34 nin0).keep K36 nin0).keep K44 nin0).keep K46 nin0).lt bi_b50)) nin0)).ext E54).keep K57 (ninS (Nat.ne_of_lt (Nat.lt_of_lt_of_le ((((((r16_4.keep K34 nin0).keep K36 nin0).keep K44 nin0).keep K46 nin0).ext E50).keep K52 (ninS (Nat.ne_of_lt (Nat.lt_of_lt_of_le ((((r16_4.keep K34 nin0).keep K36 nin0).keep K44 nin0).keep K46 nin0).lt bi_b50)) nin0)).lt bi_b54)) nin0))
             have fr106 : Fld Z h57 b50 "com/example/neat_order/neatorder/model/LifecycleFailure" "phase" "Lcom/example/neat_order/neatorder/model/LifecycleFailure$Phase;" (.ref (if ph_18 = (0 : Int32) then w_SET_UP else w_TEAR_DOWN)) := ((r52_1.ext E54).keep K57 (ninS (Nat.ne_of_lt (Nat.lt_of_lt_of_le (A50.keep K52).lt bi_b54)) nin0))
             obtain ⟨cq107, kq107, q107a, q107b, q107c⟩ := isOf hZr57 e57 (((A50.keep K52).ext E54).keep K57)
             obtain ⟨_, _, ⟨T107, L107, k107, n107⟩, -, X107, ⟨Lc107, hQ107, l107, y107, z107⟩, st107⟩ := Xr57.virtualBack hx (y := yM17) (z := yM17) hor57 (mvT hZr57 (w_ hw 86 rfl)) (mvT hZr57 (w_ hw 87 rfl)) (notFace_of_selects (args := #[]) (mvT hZr57 (w_ hw 89 rfl))) (mvT hZr57 (w_ hw 89 rfl)) (mvT hZr57 (w_ hw 88 rfl)) (by decide) (backOf (W := 0) (rm_feTf l Z av0 hw [] b50 b54 c14_0 c16_0 c14_1 c16_1 kc14_2 n_3 c_7 c_9 kc16_2 n_5 c_11 c_13 w_COMPACT_STRINGS (if ph_18 = (0 : Int32) then w_SET_UP else w_TEAR_DOWN) (if ph_19 = (0 : Int32) then w_SET_UP else w_TEAR_DOWN) h57 n0 (Nat.le_trans Z0 kp58.1) ol58 (A54.keep K57) fr98 r57_0 fr99 fr100 fr101 (fr56.keep K57) fr102 fr103 fr104 fr105 (Nat.ne_of_lt (Nat.lt_of_lt_of_le r14_1.lt bi_c16_0)) S_COMPACT_STRINGS hcs hbn_3_0 hbn_3_1 hbn_5_0 hbn_5_1 hbc_7_0 hbc_7_1 hbc_11_0 hbc_11_1 hbc_9_0 hbc_9_1 hbc_13_0 hbc_13_1 (fun z => absurd ((show (own_eq n_3 c_7 c_9 n_5 c_11 c_13) = 1 from if_pos ⟨hc61, Or.inr hc85, Or.inl hc86⟩).symm.trans z) (by decide)) fr106 r57_1 (own_phne hbph_18_0 hbph_18_1 hbph_19_0 hbph_19_1 (Fld.ne F_ordinal_w_SET_UP F_ordinal_w_TEAR_DOWN (by decide)) hc87)) hZr57 (w_ hw 90 rfl) (w_ hw 66 rfl) (by decide) (by decide)) q107a q107c (g := (mkF m 339 #[.val (.int p0), .val (.int p1), .val (.int p2), .val (.int p3), .val (.int p4), .val (.int y1_0), .val (.int n_3), .val (.int n_5), .val (.int c_7), .val (.int c_9), .val (.int c_11), .val (.int c_13), .val (.ref c14_0), .val (.ref c16_0), .val (.int ph_18), .val (.int ph_19), .val (.ref (if ph_18 = (0 : Int32) then w_SET_UP else w_TEAR_DOWN)), .val (.ref (if ph_19 = (0 : Int32) then w_SET_UP else w_TEAR_DOWN)), .val (.ref c36_0), .val (.ref c46_0), .val (if (p2 &&& (8 : Int32)) = (0 : Int32) then (.ref c36_0) else .null), .val (if (p2 &&& (16 : Int32)) = (0 : Int32) then (.ref c46_0) else .null), .val (.ref b50), .val (.ref b54), .val (.int kd_59), .val (.ref b54), .val (.int 1), .val (.int 0)] [(.ref b54), (.ref b50)])) rfl (by rw [hml]; rfl) (Steps.refl _) (argsL := [(.ref b54)]) (rest := []) (lenOf pd_10 rfl) rfl (by show 2 * 0 + _ ≤ _; exact Nat.le_of_eq rfl) (hb hby at_339) (fun _ _ => ⟨rfl, e57, (by decide : 36 + 0 ≤ _), (by decide : 188 + 0 ≤ _)⟩)
             dsimp only [Pt.U, Pt.locs, Pt.cells, Pt.slots] at X107 l107 y107 z107 st107 hQ107
             subst l107 y107 z107
             obtain ⟨rfl, N107q, he107⟩ := hQ107
             have N107 := Fr.app N57 N107q
             refine OwnFin.tr st107 ?_
             show OwnFin _ _ _ _ (T107.setTop (mkF m 342 _ [(.int 0)]))
             refine OwnFin.st (fun _ q => XS.iload X107.here hx rfl (hb hby at_342) rfl q) ?_
             show OwnFin _ _ _ _ (T107.setTop (mkF m 344 _ [(.int 0), (.int 0)]))
             refine OwnFin.st (fun _ q => XS.icmpNo X107.here hx rfl (hb hby at_344) rfl (Jvm.Free.XT.ii_ne_f (rfl : (0 : Int32) = (0 : Int32))) q) ?_
             show OwnFin _ _ _ _ (T107.setTop (mkF m 347 _ []))
             refine OwnFin.st (fun _ q => XS.iconst X107.here hx rfl (hb hby at_347) q) ?_
             show OwnFin _ _ _ _ (T107.setTop (mkF m 348 _ [(.int 1)]))
             refine OwnFin.st (fun _ q => XS.goto X107.here hx rfl (pc0 := 348) (pc' := 352) rfl (hb hby at_348) (by decide) (by decide) q) ?_
             show OwnFin _ _ _ _ (T107.setTop (mkF m 352 _ [(.int 1)]))
             obtain ⟨fs, hr, hrun, hended, hEW⟩ := X107.leaveW (s := s) hSr57 (by rw [he107]; exact (Nat.le_trans (Nat.le_refl _) (Nat.le_refl _))) (v := some (.int 1)) (fun h => by rw [Bd.returns] at h; cases h)
             have chE : CHr Z own_EL s.vm s.heap T107.vm T107.heap := by
               rw [hh, he107]
               exact ch58.trans (CHv.at X107 hZr57 (own_EW hw) ch58.1)
             refine ⟨_, _, retN X107 hx (t := .boolean) Bd.returns (by simp) (hb hby at_352) hr, hrun, hended, _, _, rfl, ?_, chE, hEW.1, hEW.2.1, hEW.2.2.1, hEW.2.2.2.mono (by decide) (by decide)⟩
             show Q_rm0 Z p0 p1 p2 p3 p4 w_TEAR_DOWN w_SET_UP w_COMPACT_STRINGS h0 n0 _ T107.heap _
             rw [he107]
             exact ⟨rfl, N107⟩
           ·
            refine OwnFin.st (fun _ q => XS.icmpNo Xr57.here hx rfl (hb hby at_294) rfl (Jvm.Free.XT.ii_lt_f hc86) q) ?_
            show OwnFin _ _ _ _ (T57.setTop (mkF m 297 _ []))
            refine OwnFin.st (fun _ q => XS.iload Xr57.here hx rfl (hb hby at_297) rfl q) ?_
            show OwnFin _ _ _ _ (T57.setTop (mkF m 299 _ [(.int c_9)]))
            refine OwnFin.st (fun _ q => XS.iload Xr57.here hx rfl (hb hby at_299) rfl q) ?_
            show OwnFin _ _ _ _ (T57.setTop (mkF m 301 _ [(.int c_13), (.int c_9)]))
            by_cases hc108 : c_9 = c_13
            ·
             refine OwnFin.st (fun _ q => XS.icmpNo Xr57.here hx rfl (hb hby at_301) rfl (Jvm.Free.XT.ii_ne_f hc108) q) ?_
             show OwnFin _ _ _ _ (T57.setTop (mkF m 304 _ []))
             refine OwnFin.st (fun _ q => XS.iconst Xr57.here hx rfl (hb hby at_304) q) ?_
             show OwnFin _ _ _ _ (T57.setTop (mkF m 305 _ [(.int 1)]))
             refine OwnFin.st (fun _ q => XS.goto Xr57.here hx rfl (pc0 := 305) (pc' := 309) rfl (hb hby at_305) (by decide) (by decide) q) ?_
             show OwnFin _ _ _ _ (T57.setTop (mkF m 309 _ [(.int 1)]))
             refine OwnFin.st (fun _ q => XS.istore Xr57.here hx rfl (hb hby at_309) rfl (l' := #[.val (.int p0), .val (.int p1), .val (.int p2), .val (.int p3), .val (.int p4), .val (.int y1_0), .val (.int n_3), .val (.int n_5), .val (.int c_7), .val (.int c_9), .val (.int c_11), .val (.int c_13), .val (.ref c14_0), .val (.ref c16_0), .val (.int ph_18), .val (.int ph_19), .val (.ref (if ph_18 = (0 : Int32) then w_SET_UP else w_TEAR_DOWN)), .val (.ref (if ph_19 = (0 : Int32) then w_SET_UP else w_TEAR_DOWN)), .val (.ref c36_0), .val (.ref c46_0), .val (if (p2 &&& (8 : Int32)) = (0 : Int32) then (.ref c36_0) else .null), .val (if (p2 &&& (16 : Int32)) = (0 : Int32) then (.ref c46_0) else .null), .val (.ref b50), .val (.ref b54), .val (.int kd_59), .val (.ref b54), .val (.int 1), .unset]) rfl q) ?_
             show OwnFin _ _ _ _ (T57.setTop (mkF m 311 _ []))
             refine OwnFin.st (fun _ q => XS.iload Xr57.here hx rfl (hb hby at_311) rfl q) ?_
             show OwnFin _ _ _ _ (T57.setTop (mkF m 313 _ [(.int kd_59)]))
             refine OwnFin.st (fun _ q => XS.ifNo Xr57.here hx rfl (hb hby at_313) rfl (Jvm.Free.XT.i0_ne_f hc60) q) ?_
             show OwnFin _ _ _ _ (T57.setTop (mkF m 316 #[.val (.int p0), .val (.int p1), .val (.int p2), .val (.int p3), .val (.int p4), .val (.int y1_0), .val (.int n_3), .val (.int n_5), .val (.int c_7), .val (.int c_9), .val (.int c_11), .val (.int c_13), .val (.ref c14_0), .val (.ref c16_0), .val (.int ph_18), .val (.int ph_19), .val (.ref (if ph_18 = (0 : Int32) then w_SET_UP else w_TEAR_DOWN)), .val (.ref (if ph_19 = (0 : Int32) then w_SET_UP else w_TEAR_DOWN)), .val (.ref c36_0), .val (.ref c46_0), .val (if (p2 &&& (8 : Int32)) = (0 : Int32) then (.ref c36_0) else .null), .val (if (p2 &&& (16 : Int32)) = (0 : Int32) then (.ref c46_0) else .null), .val (.ref b50), .val (.ref b54), .val (.int kd_59), .val (.ref b54), .val (.int 1), .unset] []))
             refine OwnFin.st (fun _ q => XS.iload Xr57.here hx rfl (hb hby at_316) rfl q) ?_
             show OwnFin _ _ _ _ (T57.setTop (mkF m 318 _ [(.int 1)]))
             refine OwnFin.st (fun _ q => XS.ifNo Xr57.here hx rfl (hb hby at_318) rfl (Jvm.Free.XT.i0_eq_f (by decide : ¬ ((1 : Int32) = (0 : Int32)))) q) ?_
             show OwnFin _ _ _ _ (T57.setTop (mkF m 321 _ []))
             refine OwnFin.st (fun _ q => XS.iload Xr57.here hx rfl (hb hby at_321) rfl q) ?_
             show OwnFin _ _ _ _ (T57.setTop (mkF m 323 _ [(.int ph_18)]))
             refine OwnFin.st (fun _ q => XS.iload Xr57.here hx rfl (hb hby at_323) rfl q) ?_
             show OwnFin _ _ _ _ (T57.setTop (mkF m 325 _ [(.int ph_19), (.int ph_18)]))
             by_cases hc109 : ph_18 = ph_19
             ·
              refine OwnFin.st (fun _ q => XS.icmpNo Xr57.here hx rfl (hb hby at_325) rfl (Jvm.Free.XT.ii_ne_f hc109) q) ?_
              show OwnFin _ _ _ _ (T57.setTop (mkF m 328 _ []))
              refine OwnFin.st (fun _ q => XS.iconst Xr57.here hx rfl (hb hby at_328) q) ?_
              show OwnFin _ _ _ _ (T57.setTop (mkF m 329 _ [(.int 1)]))
              refine OwnFin.st (fun _ q => XS.goto Xr57.here hx rfl (pc0 := 329) (pc' := 333) rfl (hb hby at_329) (by decide) (by decide) q) ?_
              show OwnFin _ _ _ _ (T57.setTop (mkF m 333 _ [(.int 1)]))
              refine OwnFin.st (fun _ q => XS.istore Xr57.here hx rfl (hb hby at_333) rfl (l' := #[.val (.int p0), .val (.int p1), .val (.int p2), .val (.int p3), .val (.int p4), .val (.int y1_0), .val (.int n_3), .val (.int n_5), .val (.int c_7), .val (.int c_9), .val (.int c_11), .val (.int c_13), .val (.ref c14_0), .val (.ref c16_0), .val (.int ph_18), .val (.int ph_19), .val (.ref (if ph_18 = (0 : Int32) then w_SET_UP else w_TEAR_DOWN)), .val (.ref (if ph_19 = (0 : Int32) then w_SET_UP else w_TEAR_DOWN)), .val (.ref c36_0), .val (.ref c46_0), .val (if (p2 &&& (8 : Int32)) = (0 : Int32) then (.ref c36_0) else .null), .val (if (p2 &&& (16 : Int32)) = (0 : Int32) then (.ref c46_0) else .null), .val (.ref b50), .val (.ref b54), .val (.int kd_59), .val (.ref b54), .val (.int 1), .val (.int 1)]) rfl q) ?_
              show OwnFin _ _ _ _ (T57.setTop (mkF m 335 _ []))
              refine OwnFin.st (fun _ q => XS.aload Xr57.here hx rfl (hb hby at_335) rfl rfl q) ?_
              show OwnFin _ _ _ _ (T57.setTop (mkF m 337 _ [(.ref b50)]))
              refine OwnFin.st (fun _ q => XS.aload Xr57.here hx rfl (hb hby at_337) rfl rfl q) ?_
              show OwnFin _ _ _ _ (T57.setTop (mkF m 339 _ [(.ref b54), (.ref b50)]))
              have fr110 : Fld Z h57 b50 "com/example/neat_order/neatorder/model/LifecycleFailure" "container" "Ljava/lang/String;" (.ref c14_0) := ((r52_0.ext E54).keep K57 (ninS (Nat.ne_of_lt (Nat.lt_of_lt_of_le (A50.keep K52).lt bi_b54)) nin0))
              have fr111 : Exa Z h57 c14_0 "java/lang/String" := (((((((((r14_1.keep K16).keep K34).keep K36).keep K44).keep K46).ext E50).keep K52).ext E54).keep K57)
              have fr112 : Fld Z h57 c14_0 "java/lang/String" "coder" "B" (.int 0) := (((((((((r14_2.keep K16 nin0).keep K34 nin0).keep K36 nin0).keep K44 nin0).keep K46 nin0).ext E50).keep K52 (ninS (Nat.ne_of_lt (Nat.lt_of_lt_of_le (((((r14_1.keep K16).keep K34).keep K36).keep K44).keep K46).lt bi_b50)) nin0)).ext E54).keep K57 (ninS (Nat.ne_of_lt (Nat.lt_of_lt_of_le (((((((r14_1.keep K16).keep K34).keep K36).keep K44).keep K46).ext E50).keep K52).lt bi_b54)) nin0))
              have fr113 : Fld Z h57 c14_0 "java/lang/String" "value" "[B" (.ref c14_1) := (((((((((r14_3.keep K16 nin0).keep K34 nin0).keep K36 nin0).keep K44 nin0).keep K46 nin0).ext E50).keep K52 (ninS (Nat.ne_of_lt (Nat.lt_of_lt_of_le (((((r14_1.keep K16).keep K34).keep K36).keep K44).keep K46).lt bi_b50)) nin0)).ext E54).keep K57 (ninS (Nat.ne_of_lt (Nat.lt_of_lt_of_le (((((((r14_1.keep K16).keep K34).keep K36).keep K44).keep K46).ext E50).keep K52).lt bi_b54)) nin0))
              have fr114 : Fld Z h57 c16_0 "java/lang/String" "coder" "B" (.int 0) := ((((((((r16_2.keep K34 nin0).keep K36 nin0).keep K44 nin0).keep K46 nin0).ext E50).keep K52 (ninS (Nat.ne_of_lt (Nat.lt_of_lt_of_le ((((r16_1.keep K34).keep K36).keep K44).keep K46).lt bi_b50)) nin0)).ext E54).keep K57 (ninS (Nat.ne_of_lt (Nat.lt_of_lt_of_le ((((((r16_1.keep K34).keep K36).keep K44).keep K46).ext E50).keep K52).lt bi_b54)) nin0))
              have fr115 : Fld Z h57 c16_0 "java/lang/String" "value" "[B" (.ref c16_1) := ((((((((r16_3.keep K34 nin0).keep K36 nin0).keep K44 nin0).keep K46 nin0).ext E50).keep K52 (ninS (Nat.ne_of_lt (Nat.lt_of_lt_of_le ((((r16_1.keep K34).keep K36).keep K44).keep K46).lt bi_b50)) nin0)).ext E54).keep K57 (ninS (Nat.ne_of_lt (Nat.lt_of_lt_of_le ((((((r16_1.keep K34).keep K36).keep K44).keep K46).ext E50).keep K52).lt bi_b54)) nin0))
              have fr116 : Arv Z h57 c14_1 kc14_2 .byte n_3 (own_by n_3 c_7 c_9) (.int 0) := (((((((((r14_4.keep K16 nin0).keep K34 nin0).keep K36 nin0).keep K44 nin0).keep K46 nin0).ext E50).keep K52 (ninS (Nat.ne_of_lt (Nat.lt_of_lt_of_le (((((r14_4.keep K16 nin0).keep K34 nin0).keep K36 nin0).keep K44 nin0).keep K46 nin0).lt bi_b50)) nin0)).ext E54).keep K57 (ninS (Nat.ne_of_lt (Nat.lt_of_lt_of_le (((((((r14_4.keep K16 nin0).keep K34 nin0).keep K36 nin0).keep K44 nin0).keep K46 nin0).ext E50).keep K52 (ninS (Nat.ne_of_lt (Nat.lt_of_lt_of_le (((((r14_4.keep K16 nin0).keep K34 nin0).keep K36 nin0).keep K44 nin0).keep K46 nin0).lt bi_b50)) nin0)).lt bi_b54)) nin0))
              have fr117 : Arv Z h57 c16_1 kc16_2 .byte n_5 (own_by n_5 c_11 c_13) (.int 0) := ((((((((r16_4.keep K34 nin0).keep K36 nin0).keep K44 nin0).keep K46 nin0).ext E50).keep K52 (ninS (Nat.ne_of_lt (Nat.lt_of_lt_of_le ((((r16_4.keep K34 nin0).keep K36 nin0).keep K44 nin0).keep K46 nin0).lt bi_b50)) nin0)).ext E54).keep K57 (ninS (Nat.ne_of_lt (Nat.lt_of_lt_of_le ((((((r16_4.keep K34 nin0).keep K36 nin0).keep K44 nin0).keep K46 nin0).ext E50).keep K52 (ninS (Nat.ne_of_lt (Nat.lt_of_lt_of_le ((((r16_4.keep K34 nin0).keep K36 nin0).keep K44 nin0).keep K46 nin0).lt bi_b50)) nin0)).lt bi_b54)) nin0))
              have fr118 : Fld Z h57 b50 "com/example/neat_order/neatorder/model/LifecycleFailure" "phase" "Lcom/example/neat_order/neatorder/model/LifecycleFailure$Phase;" (.ref (if ph_18 = (0 : Int32) then w_SET_UP else w_TEAR_DOWN)) := ((r52_1.ext E54).keep K57 (ninS (Nat.ne_of_lt (Nat.lt_of_lt_of_le (A50.keep K52).lt bi_b54)) nin0))
              obtain ⟨cq119, kq119, q119a, q119b, q119c⟩ := isOf hZr57 e57 (((A50.keep K52).ext E54).keep K57)
              obtain ⟨_, _, ⟨T119, L119, k119, n119⟩, -, X119, ⟨Lc119, hQ119, l119, y119, z119⟩, st119⟩ := Xr57.virtualBack hx (y := yM17) (z := yM17) hor57 (mvT hZr57 (w_ hw 86 rfl)) (mvT hZr57 (w_ hw 87 rfl)) (notFace_of_selects (args := #[]) (mvT hZr57 (w_ hw 89 rfl))) (mvT hZr57 (w_ hw 89 rfl)) (mvT hZr57 (w_ hw 88 rfl)) (by decide) (backOf (W := 0) (rm_feTt l Z av0 hw [] b50 b54 c14_0 c16_0 c14_1 c16_1 kc14_2 n_3 c_7 c_9 kc16_2 n_5 c_11 c_13 w_COMPACT_STRINGS (if ph_18 = (0 : Int32) then w_SET_UP else w_TEAR_DOWN) (if ph_19 = (0 : Int32) then w_SET_UP else w_TEAR_DOWN) h57 n0 (Nat.le_trans Z0 kp58.1) ol58 (A54.keep K57) fr110 r57_0 fr111 fr112 fr113 (fr56.keep K57) fr114 fr115 fr116 fr117 (Nat.ne_of_lt (Nat.lt_of_lt_of_le r14_1.lt bi_c16_0)) S_COMPACT_STRINGS hcs hbn_3_0 hbn_3_1 hbn_5_0 hbn_5_1 hbc_7_0 hbc_7_1 hbc_11_0 hbc_11_1 hbc_9_0 hbc_9_1 hbc_13_0 hbc_13_1 (fun z => absurd ((show (own_eq n_3 c_7 c_9 n_5 c_11 c_13) = 1 from if_pos ⟨hc61, Or.inr hc85, Or.inr hc108⟩).symm.trans z) (by decide)) fr118 r57_1 (congrArg (fun z : Int32 => if z = (0 : Int32) then w_SET_UP else w_TEAR_DOWN) hc109)) hZr57 (w_ hw 90 rfl) (w_ hw 66 rfl) (by decide) (by decide)) q119a q119c (g := (mkF m 339 #[.val (.int p0), .val (.int p1), .val (.int p2), .val (.int p3), .val (.int p4), .val (.int y1_0), .val (.int n_3), .val (.int n_5), .val (.int c_7), .val (.int c_9), .val (.int c_11), .val (.int c_13), .val (.ref c14_0), .val (.ref c16_0), .val (.int ph_18), .val (.int ph_19), .val (.ref (if ph_18 = (0 : Int32) then w_SET_UP else w_TEAR_DOWN)), .val (.ref (if ph_19 = (0 : Int32) then w_SET_UP else w_TEAR_DOWN)), .val (.ref c36_0), .val (.ref c46_0), .val (if (p2 &&& (8 : Int32)) = (0 : Int32) then (.ref c36_0) else .null), .val (if (p2 &&& (16 : Int32)) = (0 : Int32) then (.ref c46_0) else .null), .val (.ref b50), .val (.ref b54), .val (.int kd_59), .val (.ref b54), .val (.int 1), .val (.int 1)] [(.ref b54), (.ref b50)])) rfl (by rw [hml]; rfl) (Steps.refl _) (argsL := [(.ref b54)]) (rest := []) (lenOf pd_10 rfl) rfl (by show 2 * 0 + _ ≤ _; exact Nat.le_of_eq rfl) (hb hby at_339) (fun _ _ => ⟨rfl, e57, (by decide : 36 + 0 ≤ _), (by decide : 188 + 0 ≤ _)⟩)
              dsimp only [Pt.U, Pt.locs, Pt.cells, Pt.slots] at X119 l119 y119 z119 st119 hQ119
              subst l119 y119 z119
              obtain ⟨rfl, N119q, he119⟩ := hQ119
              have N119 := Fr.app N57 N119q
              refine OwnFin.tr st119 ?_
              show OwnFin _ _ _ _ (T119.setTop (mkF m 342 _ [(.int 1)]))
              refine OwnFin.st (fun _ q => XS.iload X119.here hx rfl (hb hby at_342) rfl q) ?_
              show OwnFin _ _ _ _ (T119.setTop (mkF m 344 _ [(.int 1), (.int 1)]))
              refine OwnFin.st (fun _ q => XS.icmpNo X119.here hx rfl (hb hby at_344) rfl (Jvm.Free.XT.ii_ne_f (rfl : (1 : Int32) = (1 : Int32))) q) ?_
              show OwnFin _ _ _ _ (T119.setTop (mkF m 347 #[.val (.int p0), .val (.int p1), .val (.int p2), .val (.int p3), .val (.int p4), .val (.int y1_0), .val (.int n_3), .val (.int n_5), .val (.int c_7), .val (.int c_9), .val (.int c_11), .val (.int c_13), .val (.ref c14_0), .val (.ref c16_0), .val (.int ph_18), .val (.int ph_19), .val (.ref (if ph_18 = (0 : Int32) then w_SET_UP else w_TEAR_DOWN)), .val (.ref (if ph_19 = (0 : Int32) then w_SET_UP else w_TEAR_DOWN)), .val (.ref c36_0), .val (.ref c46_0), .val (if (p2 &&& (8 : Int32)) = (0 : Int32) then (.ref c36_0) else .null), .val (if (p2 &&& (16 : Int32)) = (0 : Int32) then (.ref c46_0) else .null), .val (.ref b50), .val (.ref b54), .val (.int kd_59), .val (.ref b54), .val (.int 1), .val (.int 1)] []))
              refine OwnFin.st (fun _ q => XS.iconst X119.here hx rfl (hb hby at_347) q) ?_
              show OwnFin _ _ _ _ (T119.setTop (mkF m 348 _ [(.int 1)]))
              refine OwnFin.st (fun _ q => XS.goto X119.here hx rfl (pc0 := 348) (pc' := 352) rfl (hb hby at_348) (by decide) (by decide) q) ?_
              show OwnFin _ _ _ _ (T119.setTop (mkF m 352 _ [(.int 1)]))
              obtain ⟨fs, hr, hrun, hended, hEW⟩ := X119.leaveW (s := s) hSr57 (by rw [he119]; exact (Nat.le_trans (Nat.le_refl _) (Nat.le_refl _))) (v := some (.int 1)) (fun h => by rw [Bd.returns] at h; cases h)
              have chE : CHr Z own_EL s.vm s.heap T119.vm T119.heap := by
                rw [hh, he119]
                exact ch58.trans (CHv.at X119 hZr57 (own_EW hw) ch58.1)
              refine ⟨_, _, retN X119 hx (t := .boolean) Bd.returns (by simp) (hb hby at_352) hr, hrun, hended, _, _, rfl, ?_, chE, hEW.1, hEW.2.1, hEW.2.2.1, hEW.2.2.2.mono (by decide) (by decide)⟩
              show Q_rm0 Z p0 p1 p2 p3 p4 w_TEAR_DOWN w_SET_UP w_COMPACT_STRINGS h0 n0 _ T119.heap _
              rw [he119]
              exact ⟨rfl, N119⟩
             ·
              refine OwnFin.st (fun _ q => XS.icmpYes Xr57.here hx rfl (pc0 := 325) (pc' := 332) rfl (hb hby at_325) rfl (Jvm.Free.XT.ii_ne_t hc109) (by decide) (by decide) q) ?_
              show OwnFin _ _ _ _ (T57.setTop (mkF m 332 _ []))
              refine OwnFin.st (fun _ q => XS.iconst Xr57.here hx rfl (hb hby at_332) q) ?_
              show OwnFin _ _ _ _ (T57.setTop (mkF m 333 _ [(.int 0)]))
              refine OwnFin.st (fun _ q => XS.istore Xr57.here hx rfl (hb hby at_333) rfl (l' := #[.val (.int p0), .val (.int p1), .val (.int p2), .val (.int p3), .val (.int p4), .val (.int y1_0), .val (.int n_3), .val (.int n_5), .val (.int c_7), .val (.int c_9), .val (.int c_11), .val (.int c_13), .val (.ref c14_0), .val (.ref c16_0), .val (.int ph_18), .val (.int ph_19), .val (.ref (if ph_18 = (0 : Int32) then w_SET_UP else w_TEAR_DOWN)), .val (.ref (if ph_19 = (0 : Int32) then w_SET_UP else w_TEAR_DOWN)), .val (.ref c36_0), .val (.ref c46_0), .val (if (p2 &&& (8 : Int32)) = (0 : Int32) then (.ref c36_0) else .null), .val (if (p2 &&& (16 : Int32)) = (0 : Int32) then (.ref c46_0) else .null), .val (.ref b50), .val (.ref b54), .val (.int kd_59), .val (.ref b54), .val (.int 1), .val (.int 0)]) rfl q) ?_
              show OwnFin _ _ _ _ (T57.setTop (mkF m 335 _ []))
              refine OwnFin.st (fun _ q => XS.aload Xr57.here hx rfl (hb hby at_335) rfl rfl q) ?_
              show OwnFin _ _ _ _ (T57.setTop (mkF m 337 _ [(.ref b50)]))
              refine OwnFin.st (fun _ q => XS.aload Xr57.here hx rfl (hb hby at_337) rfl rfl q) ?_
              show OwnFin _ _ _ _ (T57.setTop (mkF m 339 _ [(.ref b54), (.ref b50)]))
              have fr120 : Fld Z h57 b50 "com/example/neat_order/neatorder/model/LifecycleFailure" "container" "Ljava/lang/String;" (.ref c14_0) := ((r52_0.ext E54).keep K57 (ninS (Nat.ne_of_lt (Nat.lt_of_lt_of_le (A50.keep K52).lt bi_b54)) nin0))
              have fr121 : Exa Z h57 c14_0 "java/lang/String" := (((((((((r14_1.keep K16).keep K34).keep K36).keep K44).keep K46).ext E50).keep K52).ext E54).keep K57)
              have fr122 : Fld Z h57 c14_0 "java/lang/String" "coder" "B" (.int 0) := (((((((((r14_2.keep K16 nin0).keep K34 nin0).keep K36 nin0).keep K44 nin0).keep K46 nin0).ext E50).keep K52 (ninS (Nat.ne_of_lt (Nat.lt_of_lt_of_le (((((r14_1.keep K16).keep K34).keep K36).keep K44).keep K46).lt bi_b50)) nin0)).ext E54).keep K57 (ninS (Nat.ne_of_lt (Nat.lt_of_lt_of_le (((((((r14_1.keep K16).keep K34).keep K36).keep K44).keep K46).ext E50).keep K52).lt bi_b54)) nin0))
              have fr123 : Fld Z h57 c14_0 "java/lang/String" "value" "[B" (.ref c14_1) := (((((((((r14_3.keep K16 nin0).keep K34 nin0).keep K36 nin0).keep K44 nin0).keep K46 nin0).ext E50).keep K52 (ninS (Nat.ne_of_lt (Nat.lt_of_lt_of_le (((((r14_1.keep K16).keep K34).keep K36).keep K44).keep K46).lt bi_b50)) nin0)).ext E54).keep K57 (ninS (Nat.ne_of_lt (Nat.lt_of_lt_of_le (((((((r14_1.keep K16).keep K34).keep K36).keep K44).keep K46).ext E50).keep K52).lt bi_b54)) nin0))
              have fr124 : Fld Z h57 c16_0 "java/lang/String" "coder" "B" (.int 0) := ((((((((r16_2.keep K34 nin0).keep K36 nin0).keep K44 nin0).keep K46 nin0).ext E50).keep K52 (ninS (Nat.ne_of_lt (Nat.lt_of_lt_of_le ((((r16_1.keep K34).keep K36).keep K44).keep K46).lt bi_b50)) nin0)).ext E54).keep K57 (ninS (Nat.ne_of_lt (Nat.lt_of_lt_of_le ((((((r16_1.keep K34).keep K36).keep K44).keep K46).ext E50).keep K52).lt bi_b54)) nin0))
              have fr125 : Fld Z h57 c16_0 "java/lang/String" "value" "[B" (.ref c16_1) := ((((((((r16_3.keep K34 nin0).keep K36 nin0).keep K44 nin0).keep K46 nin0).ext E50).keep K52 (ninS (Nat.ne_of_lt (Nat.lt_of_lt_of_le ((((r16_1.keep K34).keep K36).keep K44).keep K46).lt bi_b50)) nin0)).ext E54).keep K57 (ninS (Nat.ne_of_lt (Nat.lt_of_lt_of_le ((((((r16_1.keep K34).keep K36).keep K44).keep K46).ext E50).keep K52).lt bi_b54)) nin0))
              have fr126 : Arv Z h57 c14_1 kc14_2 .byte n_3 (own_by n_3 c_7 c_9) (.int 0) := (((((((((r14_4.keep K16 nin0).keep K34 nin0).keep K36 nin0).keep K44 nin0).keep K46 nin0).ext E50).keep K52 (ninS (Nat.ne_of_lt (Nat.lt_of_lt_of_le (((((r14_4.keep K16 nin0).keep K34 nin0).keep K36 nin0).keep K44 nin0).keep K46 nin0).lt bi_b50)) nin0)).ext E54).keep K57 (ninS (Nat.ne_of_lt (Nat.lt_of_lt_of_le (((((((r14_4.keep K16 nin0).keep K34 nin0).keep K36 nin0).keep K44 nin0).keep K46 nin0).ext E50).keep K52 (ninS (Nat.ne_of_lt (Nat.lt_of_lt_of_le (((((r14_4.keep K16 nin0).keep K34 nin0).keep K36 nin0).keep K44 nin0).keep K46 nin0).lt bi_b50)) nin0)).lt bi_b54)) nin0))
              have fr127 : Arv Z h57 c16_1 kc16_2 .byte n_5 (own_by n_5 c_11 c_13) (.int 0) := ((((((((r16_4.keep K34 nin0).keep K36 nin0).keep K44 nin0).keep K46 nin0).ext E50).keep K52 (ninS (Nat.ne_of_lt (Nat.lt_of_lt_of_le ((((r16_4.keep K34 nin0).keep K36 nin0).keep K44 nin0).keep K46 nin0).lt bi_b50)) nin0)).ext E54).keep K57 (ninS (Nat.ne_of_lt (Nat.lt_of_lt_of_le ((((((r16_4.keep K34 nin0).keep K36 nin0).keep K44 nin0).keep K46 nin0).ext E50).keep K52 (ninS (Nat.ne_of_lt (Nat.lt_of_lt_of_le ((((r16_4.keep K34 nin0).keep K36 nin0).keep K44 nin0).keep K46 nin0).lt bi_b50)) nin0)).lt bi_b54)) nin0))
              have fr128 : Fld Z h57 b50 "com/example/neat_order/neatorder/model/LifecycleFailure" "phase" "Lcom/example/neat_order/neatorder/model/LifecycleFailure$Phase;" (.ref (if ph_18 = (0 : Int32) then w_SET_UP else w_TEAR_DOWN)) := ((r52_1.ext E54).keep K57 (ninS (Nat.ne_of_lt (Nat.lt_of_lt_of_le (A50.keep K52).lt bi_b54)) nin0))
              obtain ⟨cq129, kq129, q129a, q129b, q129c⟩ := isOf hZr57 e57 (((A50.keep K52).ext E54).keep K57)
              obtain ⟨_, _, ⟨T129, L129, k129, n129⟩, -, X129, ⟨Lc129, hQ129, l129, y129, z129⟩, st129⟩ := Xr57.virtualBack hx (y := yM17) (z := yM17) hor57 (mvT hZr57 (w_ hw 86 rfl)) (mvT hZr57 (w_ hw 87 rfl)) (notFace_of_selects (args := #[]) (mvT hZr57 (w_ hw 89 rfl))) (mvT hZr57 (w_ hw 89 rfl)) (mvT hZr57 (w_ hw 88 rfl)) (by decide) (backOf (W := 0) (rm_feTf l Z av0 hw [] b50 b54 c14_0 c16_0 c14_1 c16_1 kc14_2 n_3 c_7 c_9 kc16_2 n_5 c_11 c_13 w_COMPACT_STRINGS (if ph_18 = (0 : Int32) then w_SET_UP else w_TEAR_DOWN) (if ph_19 = (0 : Int32) then w_SET_UP else w_TEAR_DOWN) h57 n0 (Nat.le_trans Z0 kp58.1) ol58 (A54.keep K57) fr120 r57_0 fr121 fr122 fr123 (fr56.keep K57) fr124 fr125 fr126 fr127 (Nat.ne_of_lt (Nat.lt_of_lt_of_le r14_1.lt bi_c16_0)) S_COMPACT_STRINGS hcs hbn_3_0 hbn_3_1 hbn_5_0 hbn_5_1 hbc_7_0 hbc_7_1 hbc_11_0 hbc_11_1 hbc_9_0 hbc_9_1 hbc_13_0 hbc_13_1 (fun z => absurd ((show (own_eq n_3 c_7 c_9 n_5 c_11 c_13) = 1 from if_pos ⟨hc61, Or.inr hc85, Or.inr hc108⟩).symm.trans z) (by decide)) fr128 r57_1 (own_phne hbph_18_0 hbph_18_1 hbph_19_0 hbph_19_1 (Fld.ne F_ordinal_w_SET_UP F_ordinal_w_TEAR_DOWN (by decide)) hc109)) hZr57 (w_ hw 90 rfl) (w_ hw 66 rfl) (by decide) (by decide)) q129a q129c (g := (mkF m 339 #[.val (.int p0), .val (.int p1), .val (.int p2), .val (.int p3), .val (.int p4), .val (.int y1_0), .val (.int n_3), .val (.int n_5), .val (.int c_7), .val (.int c_9), .val (.int c_11), .val (.int c_13), .val (.ref c14_0), .val (.ref c16_0), .val (.int ph_18), .val (.int ph_19), .val (.ref (if ph_18 = (0 : Int32) then w_SET_UP else w_TEAR_DOWN)), .val (.ref (if ph_19 = (0 : Int32) then w_SET_UP else w_TEAR_DOWN)), .val (.ref c36_0), .val (.ref c46_0), .val (if (p2 &&& (8 : Int32)) = (0 : Int32) then (.ref c36_0) else .null), .val (if (p2 &&& (16 : Int32)) = (0 : Int32) then (.ref c46_0) else .null), .val (.ref b50), .val (.ref b54), .val (.int kd_59), .val (.ref b54), .val (.int 1), .val (.int 0)] [(.ref b54), (.ref b50)])) rfl (by rw [hml]; rfl) (Steps.refl _) (argsL := [(.ref b54)]) (rest := []) (lenOf pd_10 rfl) rfl (by show 2 * 0 + _ ≤ _; exact Nat.le_of_eq rfl) (hb hby at_339) (fun _ _ => ⟨rfl, e57, (by decide : 36 + 0 ≤ _), (by decide : 188 + 0 ≤ _)⟩)
              dsimp only [Pt.U, Pt.locs, Pt.cells, Pt.slots] at X129 l129 y129 z129 st129 hQ129
              subst l129 y129 z129
              obtain ⟨rfl, N129q, he129⟩ := hQ129
              have N129 := Fr.app N57 N129q
              refine OwnFin.tr st129 ?_
              show OwnFin _ _ _ _ (T129.setTop (mkF m 342 _ [(.int 0)]))
              refine OwnFin.st (fun _ q => XS.iload X129.here hx rfl (hb hby at_342) rfl q) ?_
              show OwnFin _ _ _ _ (T129.setTop (mkF m 344 _ [(.int 0), (.int 0)]))
              refine OwnFin.st (fun _ q => XS.icmpNo X129.here hx rfl (hb hby at_344) rfl (Jvm.Free.XT.ii_ne_f (rfl : (0 : Int32) = (0 : Int32))) q) ?_
              show OwnFin _ _ _ _ (T129.setTop (mkF m 347 _ []))
              refine OwnFin.st (fun _ q => XS.iconst X129.here hx rfl (hb hby at_347) q) ?_
              show OwnFin _ _ _ _ (T129.setTop (mkF m 348 #[.val (.int p0), .val (.int p1), .val (.int p2), .val (.int p3), .val (.int p4), .val (.int y1_0), .val (.int n_3), .val (.int n_5), .val (.int c_7), .val (.int c_9), .val (.int c_11), .val (.int c_13), .val (.ref c14_0), .val (.ref c16_0), .val (.int ph_18), .val (.int ph_19), .val (.ref (if ph_18 = (0 : Int32) then w_SET_UP else w_TEAR_DOWN)), .val (.ref (if ph_19 = (0 : Int32) then w_SET_UP else w_TEAR_DOWN)), .val (.ref c36_0), .val (.ref c46_0), .val (if (p2 &&& (8 : Int32)) = (0 : Int32) then (.ref c36_0) else .null), .val (if (p2 &&& (16 : Int32)) = (0 : Int32) then (.ref c46_0) else .null), .val (.ref b50), .val (.ref b54), .val (.int kd_59), .val (.ref b54), .val (.int 1), .val (.int 0)] [(.int 1)]))
              refine OwnFin.st (fun _ q => XS.goto X129.here hx rfl (pc0 := 348) (pc' := 352) rfl (hb hby at_348) (by decide) (by decide) q) ?_
              show OwnFin _ _ _ _ (T129.setTop (mkF m 352 _ [(.int 1)]))
              obtain ⟨fs, hr, hrun, hended, hEW⟩ := X129.leaveW (s := s) hSr57 (by rw [he129]; exact (Nat.le_trans (Nat.le_refl _) (Nat.le_refl _))) (v := some (.int 1)) (fun h => by rw [Bd.returns] at h; cases h)
              have chE : CHr Z own_EL s.vm s.heap T129.vm T129.heap := by
                rw [hh, he129]
                exact ch58.trans (CHv.at X129 hZr57 (own_EW hw) ch58.1)
              refine ⟨_, _, retN X129 hx (t := .boolean) Bd.returns (by simp) (hb hby at_352) hr, hrun, hended, _, _, rfl, ?_, chE, hEW.1, hEW.2.1, hEW.2.2.1, hEW.2.2.2.mono (by decide) (by decide)⟩
              show Q_rm0 Z p0 p1 p2 p3 p4 w_TEAR_DOWN w_SET_UP w_COMPACT_STRINGS h0 n0 _ T129.heap _
              rw [he129]
              exact ⟨rfl, N129⟩
            ·
             refine OwnFin.st (fun _ q => XS.icmpYes Xr57.here hx rfl (pc0 := 301) (pc' := 308) rfl (hb hby at_301) rfl (Jvm.Free.XT.ii_ne_t hc108) (by decide) (by decide) q) ?_
             show OwnFin _ _ _ _ (T57.setTop (mkF m 308 _ []))
             refine OwnFin.st (fun _ q => XS.iconst Xr57.here hx rfl (hb hby at_308) q) ?_
             show OwnFin _ _ _ _ (T57.setTop (mkF m 309 _ [(.int 0)]))
             refine OwnFin.st (fun _ q => XS.istore Xr57.here hx rfl (hb hby at_309) rfl (l' := #[.val (.int p0), .val (.int p1), .val (.int p2), .val (.int p3), .val (.int p4), .val (.int y1_0), .val (.int n_3), .val (.int n_5), .val (.int c_7), .val (.int c_9), .val (.int c_11), .val (.int c_13), .val (.ref c14_0), .val (.ref c16_0), .val (.int ph_18), .val (.int ph_19), .val (.ref (if ph_18 = (0 : Int32) then w_SET_UP else w_TEAR_DOWN)), .val (.ref (if ph_19 = (0 : Int32) then w_SET_UP else w_TEAR_DOWN)), .val (.ref c36_0), .val (.ref c46_0), .val (if (p2 &&& (8 : Int32)) = (0 : Int32) then (.ref c36_0) else .null), .val (if (p2 &&& (16 : Int32)) = (0 : Int32) then (.ref c46_0) else .null), .val (.ref b50), .val (.ref b54), .val (.int kd_59), .val (.ref b54), .val (.int 0), .unset]) rfl q) ?_
             show OwnFin _ _ _ _ (T57.setTop (mkF m 311 _ []))
             refine OwnFin.st (fun _ q => XS.iload Xr57.here hx rfl (hb hby at_311) rfl q) ?_
             show OwnFin _ _ _ _ (T57.setTop (mkF m 313 _ [(.int kd_59)]))
             refine OwnFin.st (fun _ q => XS.ifNo Xr57.here hx rfl (hb hby at_313) rfl (Jvm.Free.XT.i0_ne_f hc60) q) ?_
             show OwnFin _ _ _ _ (T57.setTop (mkF m 316 _ []))
             refine OwnFin.st (fun _ q => XS.iload Xr57.here hx rfl (hb hby at_316) rfl q) ?_
             show OwnFin _ _ _ _ (T57.setTop (mkF m 318 #[.val (.int p0), .val (.int p1), .val (.int p2), .val (.int p3), .val (.int p4), .val (.int y1_0), .val (.int n_3), .val (.int n_5), .val (.int c_7), .val (.int c_9), .val (.int c_11), .val (.int c_13), .val (.ref c14_0), .val (.ref c16_0), .val (.int ph_18), .val (.int ph_19), .val (.ref (if ph_18 = (0 : Int32) then w_SET_UP else w_TEAR_DOWN)), .val (.ref (if ph_19 = (0 : Int32) then w_SET_UP else w_TEAR_DOWN)), .val (.ref c36_0), .val (.ref c46_0), .val (if (p2 &&& (8 : Int32)) = (0 : Int32) then (.ref c36_0) else .null), .val (if (p2 &&& (16 : Int32)) = (0 : Int32) then (.ref c46_0) else .null), .val (.ref b50), .val (.ref b54), .val (.int kd_59), .val (.ref b54), .val (.int 0), .unset] [(.int 0)]))
             refine OwnFin.st (fun _ q => XS.ifYes Xr57.here hx rfl (pc0 := 318) (pc' := 332) rfl (hb hby at_318) rfl (Jvm.Free.XT.i0_eq_t (rfl : (0 : Int32) = (0 : Int32))) (by decide) (by decide) q) ?_
             show OwnFin _ _ _ _ (T57.setTop (mkF m 332 _ []))
             refine OwnFin.st (fun _ q => XS.iconst Xr57.here hx rfl (hb hby at_332) q) ?_
             show OwnFin _ _ _ _ (T57.setTop (mkF m 333 _ [(.int 0)]))
             refine OwnFin.st (fun _ q => XS.istore Xr57.here hx rfl (hb hby at_333) rfl (l' := #[.val (.int p0), .val (.int p1), .val (.int p2), .val (.int p3), .val (.int p4), .val (.int y1_0), .val (.int n_3), .val (.int n_5), .val (.int c_7), .val (.int c_9), .val (.int c_11), .val (.int c_13), .val (.ref c14_0), .val (.ref c16_0), .val (.int ph_18), .val (.int ph_19), .val (.ref (if ph_18 = (0 : Int32) then w_SET_UP else w_TEAR_DOWN)), .val (.ref (if ph_19 = (0 : Int32) then w_SET_UP else w_TEAR_DOWN)), .val (.ref c36_0), .val (.ref c46_0), .val (if (p2 &&& (8 : Int32)) = (0 : Int32) then (.ref c36_0) else .null), .val (if (p2 &&& (16 : Int32)) = (0 : Int32) then (.ref c46_0) else .null), .val (.ref b50), .val (.ref b54), .val (.int kd_59), .val (.ref b54), .val (.int 0), .val (.int 0)]) rfl q) ?_
             show OwnFin _ _ _ _ (T57.setTop (mkF m 335 _ []))
             refine OwnFin.st (fun _ q => XS.aload Xr57.here hx rfl (hb hby at_335) rfl rfl q) ?_
             show OwnFin _ _ _ _ (T57.setTop (mkF m 337 _ [(.ref b50)]))
             refine OwnFin.st (fun _ q => XS.aload Xr57.here hx rfl (hb hby at_337) rfl rfl q) ?_
             show OwnFin _ _ _ _ (T57.setTop (mkF m 339 _ [(.ref b54), (.ref b50)]))
             have fr130 : Fld Z h57 b50 "com/example/neat_order/neatorder/model/LifecycleFailure" "container" "Ljava/lang/String;" (.ref c14_0) := ((r52_0.ext E54).keep K57 (ninS (Nat.ne_of_lt (Nat.lt_of_lt_of_le (A50.keep K52).lt bi_b54)) nin0))
             have fr131 : Exa Z h57 c14_0 "java/lang/String" := (((((((((r14_1.keep K16).keep K34).keep K36).keep K44).keep K46).ext E50).keep K52).ext E54).keep K57)
             have fr132 : Fld Z h57 c14_0 "java/lang/String" "coder" "B" (.int 0) := (((((((((r14_2.keep K16 nin0).keep K34 nin0).keep K36 nin0).keep K44 nin0).keep K46 nin0).ext E50).keep K52 (ninS (Nat.ne_of_lt (Nat.lt_of_lt_of_le (((((r14_1.keep K16).keep K34).keep K36).keep K44).keep K46).lt bi_b50)) nin0)).ext E54).keep K57 (ninS (Nat.ne_of_lt (Nat.lt_of_lt_of_le (((((((r14_1.keep K16).keep K34).keep K36).keep K44).keep K46).ext E50).keep K52).lt bi_b54)) nin0))
             have fr133 : Fld Z h57 c14_0 "java/lang/String" "value" "[B" (.ref c14_1) := (((((((((r14_3.keep K16 nin0).keep K34 nin0).keep K36 nin0).keep K44 nin0).keep K46 nin0).ext E50).keep K52 (ninS (Nat.ne_of_lt (Nat.lt_of_lt_of_le (((((r14_1.keep K16).keep K34).keep K36).keep K44).keep K46).lt bi_b50)) nin0)).ext E54).keep K57 (ninS (Nat.ne_of_lt (Nat.lt_of_lt_of_le (((((((r14_1.keep K16).keep K34).keep K36).keep K44).keep K46).ext E50).keep K52).lt bi_b54)) nin0))
             have fr134 : Fld Z h57 c16_0 "java/lang/String" "coder" "B" (.int 0) := ((((((((r16_2.keep K34 nin0).keep K36 nin0).keep K44 nin0).keep K46 nin0).ext E50).keep K52 (ninS (Nat.ne_of_lt (Nat.lt_of_lt_of_le ((((r16_1.keep K34).keep K36).keep K44).keep K46).lt bi_b50)) nin0)).ext E54).keep K57 (ninS (Nat.ne_of_lt (Nat.lt_of_lt_of_le ((((((r16_1.keep K34).keep K36).keep K44).keep K46).ext E50).keep K52).lt bi_b54)) nin0))
             have fr135 : Fld Z h57 c16_0 "java/lang/String" "value" "[B" (.ref c16_1) := ((((((((r16_3.keep K34 nin0).keep K36 nin0).keep K44 nin0).keep K46 nin0).ext E50).keep K52 (ninS (Nat.ne_of_lt (Nat.lt_of_lt_of_le ((((r16_1.keep K34).keep K36).keep K44).keep K46).lt bi_b50)) nin0)).ext E54).keep K57 (ninS (Nat.ne_of_lt (Nat.lt_of_lt_of_le ((((((r16_1.keep K34).keep K36).keep K44).keep K46).ext E50).keep K52).lt bi_b54)) nin0))
             have fr136 : Arv Z h57 c14_1 kc14_2 .byte n_3 (own_by n_3 c_7 c_9) (.int 0) := (((((((((r14_4.keep K16 nin0).keep K34 nin0).keep K36 nin0).keep K44 nin0).keep K46 nin0).ext E50).keep K52 (ninS (Nat.ne_of_lt (Nat.lt_of_lt_of_le (((((r14_4.keep K16 nin0).keep K34 nin0).keep K36 nin0).keep K44 nin0).keep K46 nin0).lt bi_b50)) nin0)).ext E54).keep K57 (ninS (Nat.ne_of_lt (Nat.lt_of_lt_of_le (((((((r14_4.keep K16 nin0).keep K34 nin0).keep K36 nin0).keep K44 nin0).keep K46 nin0).ext E50).keep K52 (ninS (Nat.ne_of_lt (Nat.lt_of_lt_of_le (((((r14_4.keep K16 nin0).keep K34 nin0).keep K36 nin0).keep K44 nin0).keep K46 nin0).lt bi_b50)) nin0)).lt bi_b54)) nin0))
             have fr137 : Arv Z h57 c16_1 kc16_2 .byte n_5 (own_by n_5 c_11 c_13) (.int 0) := ((((((((r16_4.keep K34 nin0).keep K36 nin0).keep K44 nin0).keep K46 nin0).ext E50).keep K52 (ninS (Nat.ne_of_lt (Nat.lt_of_lt_of_le ((((r16_4.keep K34 nin0).keep K36 nin0).keep K44 nin0).keep K46 nin0).lt bi_b50)) nin0)).ext E54).keep K57 (ninS (Nat.ne_of_lt (Nat.lt_of_lt_of_le ((((((r16_4.keep K34 nin0).keep K36 nin0).keep K44 nin0).keep K46 nin0).ext E50).keep K52 (ninS (Nat.ne_of_lt (Nat.lt_of_lt_of_le ((((r16_4.keep K34 nin0).keep K36 nin0).keep K44 nin0).keep K46 nin0).lt bi_b50)) nin0)).lt bi_b54)) nin0))
             obtain ⟨cq138, kq138, q138a, q138b, q138c⟩ := isOf hZr57 e57 (((A50.keep K52).ext E54).keep K57)
             obtain ⟨_, _, ⟨T138, L138, k138, n138⟩, -, X138, ⟨Lc138, hQ138, l138, y138, z138⟩, st138⟩ := Xr57.virtualBack hx (y := yM17) (z := yM17) hor57 (mvT hZr57 (w_ hw 86 rfl)) (mvT hZr57 (w_ hw 87 rfl)) (notFace_of_selects (args := #[]) (mvT hZr57 (w_ hw 89 rfl))) (mvT hZr57 (w_ hw 89 rfl)) (mvT hZr57 (w_ hw 88 rfl)) (by decide) (backOf (W := 0) (rm_feF l Z av0 hw [] b50 b54 c14_0 c16_0 c14_1 c16_1 kc14_2 n_3 c_7 c_9 kc16_2 n_5 c_11 c_13 w_COMPACT_STRINGS h57 n0 (Nat.le_trans Z0 kp58.1) ol58 (A54.keep K57) fr130 r57_0 fr131 fr132 fr133 (fr56.keep K57) fr134 fr135 fr136 fr137 (Nat.ne_of_lt (Nat.lt_of_lt_of_le r14_1.lt bi_c16_0)) S_COMPACT_STRINGS hcs hbn_3_0 hbn_3_1 hbn_5_0 hbn_5_1 hbc_7_0 hbc_7_1 hbc_11_0 hbc_11_1 hbc_9_0 hbc_9_1 hbc_13_0 hbc_13_1 (show (own_eq n_3 c_7 c_9 n_5 c_11 c_13) = 0 from if_neg (fun z => z.2.2.elim hc86 hc108))) hZr57 (w_ hw 90 rfl) (w_ hw 66 rfl) (by decide) (by decide)) q138a q138c (g := (mkF m 339 #[.val (.int p0), .val (.int p1), .val (.int p2), .val (.int p3), .val (.int p4), .val (.int y1_0), .val (.int n_3), .val (.int n_5), .val (.int c_7), .val (.int c_9), .val (.int c_11), .val (.int c_13), .val (.ref c14_0), .val (.ref c16_0), .val (.int ph_18), .val (.int ph_19), .val (.ref (if ph_18 = (0 : Int32) then w_SET_UP else w_TEAR_DOWN)), .val (.ref (if ph_19 = (0 : Int32) then w_SET_UP else w_TEAR_DOWN)), .val (.ref c36_0), .val (.ref c46_0), .val (if (p2 &&& (8 : Int32)) = (0 : Int32) then (.ref c36_0) else .null), .val (if (p2 &&& (16 : Int32)) = (0 : Int32) then (.ref c46_0) else .null), .val (.ref b50), .val (.ref b54), .val (.int kd_59), .val (.ref b54), .val (.int 0), .val (.int 0)] [(.ref b54), (.ref b50)])) rfl (by rw [hml]; rfl) (Steps.refl _) (argsL := [(.ref b54)]) (rest := []) (lenOf pd_10 rfl) rfl (by show 2 * 0 + _ ≤ _; exact Nat.le_of_eq rfl) (hb hby at_339) (fun _ _ => ⟨rfl, e57, (by decide : 36 + 0 ≤ _), (by decide : 188 + 0 ≤ _)⟩)
             dsimp only [Pt.U, Pt.locs, Pt.cells, Pt.slots] at X138 l138 y138 z138 st138 hQ138
             subst l138 y138 z138
             obtain ⟨rfl, N138q, he138⟩ := hQ138
             have N138 := Fr.app N57 N138q
             refine OwnFin.tr st138 ?_
             show OwnFin _ _ _ _ (T138.setTop (mkF m 342 _ [(.int 0)]))
             refine OwnFin.st (fun _ q => XS.iload X138.here hx rfl (hb hby at_342) rfl q) ?_
             show OwnFin _ _ _ _ (T138.setTop (mkF m 344 _ [(.int 0), (.int 0)]))
             refine OwnFin.st (fun _ q => XS.icmpNo X138.here hx rfl (hb hby at_344) rfl (Jvm.Free.XT.ii_ne_f (rfl : (0 : Int32) = (0 : Int32))) q) ?_
             show OwnFin _ _ _ _ (T138.setTop (mkF m 347 _ []))
             refine OwnFin.st (fun _ q => XS.iconst X138.here hx rfl (hb hby at_347) q) ?_
             show OwnFin _ _ _ _ (T138.setTop (mkF m 348 _ [(.int 1)]))
             refine OwnFin.st (fun _ q => XS.goto X138.here hx rfl (pc0 := 348) (pc' := 352) rfl (hb hby at_348) (by decide) (by decide) q) ?_
             show OwnFin _ _ _ _ (T138.setTop (mkF m 352 _ [(.int 1)]))
             obtain ⟨fs, hr, hrun, hended, hEW⟩ := X138.leaveW (s := s) hSr57 (by rw [he138]; exact (Nat.le_trans (Nat.le_refl _) (Nat.le_refl _))) (v := some (.int 1)) (fun h => by rw [Bd.returns] at h; cases h)
             have chE : CHr Z own_EL s.vm s.heap T138.vm T138.heap := by
               rw [hh, he138]
               exact ch58.trans (CHv.at X138 hZr57 (own_EW hw) ch58.1)
             refine ⟨_, _, retN X138 hx (t := .boolean) Bd.returns (by simp) (hb hby at_352) hr, hrun, hended, _, _, rfl, ?_, chE, hEW.1, hEW.2.1, hEW.2.2.1, hEW.2.2.2.mono (by decide) (by decide)⟩
             show Q_rm0 Z p0 p1 p2 p3 p4 w_TEAR_DOWN w_SET_UP w_COMPACT_STRINGS h0 n0 _ T138.heap _
             rw [he138]
             exact ⟨rfl, N138⟩
          ·
           refine OwnFin.st (fun _ q => XS.icmpYes Xr57.here hx rfl (pc0 := 288) (pc' := 308) rfl (hb hby at_288) rfl (Jvm.Free.XT.ii_ne_t hc85) (by decide) (by decide) q) ?_
           show OwnFin _ _ _ _ (T57.setTop (mkF m 308 _ []))
           refine OwnFin.st (fun _ q => XS.iconst Xr57.here hx rfl (hb hby at_308) q) ?_
           show OwnFin _ _ _ _ (T57.setTop (mkF m 309 _ [(.int 0)]))
           refine OwnFin.st (fun _ q => XS.istore Xr57.here hx rfl (hb hby at_309) rfl (l' := #[.val (.int p0), .val (.int p1), .val (.int p2), .val (.int p3), .val (.int p4), .val (.int y1_0), .val (.int n_3), .val (.int n_5), .val (.int c_7), .val (.int c_9), .val (.int c_11), .val (.int c_13), .val (.ref c14_0), .val (.ref c16_0), .val (.int ph_18), .val (.int ph_19), .val (.ref (if ph_18 = (0 : Int32) then w_SET_UP else w_TEAR_DOWN)), .val (.ref (if ph_19 = (0 : Int32) then w_SET_UP else w_TEAR_DOWN)), .val (.ref c36_0), .val (.ref c46_0), .val (if (p2 &&& (8 : Int32)) = (0 : Int32) then (.ref c36_0) else .null), .val (if (p2 &&& (16 : Int32)) = (0 : Int32) then (.ref c46_0) else .null), .val (.ref b50), .val (.ref b54), .val (.int kd_59), .val (.ref b54), .val (.int 0), .unset]) rfl q) ?_
           show OwnFin _ _ _ _ (T57.setTop (mkF m 311 _ []))
           refine OwnFin.st (fun _ q => XS.iload Xr57.here hx rfl (hb hby at_311) rfl q) ?_
           show OwnFin _ _ _ _ (T57.setTop (mkF m 313 _ [(.int kd_59)]))
           refine OwnFin.st (fun _ q => XS.ifNo Xr57.here hx rfl (hb hby at_313) rfl (Jvm.Free.XT.i0_ne_f hc60) q) ?_
           show OwnFin _ _ _ _ (T57.setTop (mkF m 316 _ []))
           refine OwnFin.st (fun _ q => XS.iload Xr57.here hx rfl (hb hby at_316) rfl q) ?_
           show OwnFin _ _ _ _ (T57.setTop (mkF m 318 _ [(.int 0)]))
           refine OwnFin.st (fun _ q => XS.ifYes Xr57.here hx rfl (pc0 := 318) (pc' := 332) rfl (hb hby at_318) rfl (Jvm.Free.XT.i0_eq_t (rfl : (0 : Int32) = (0 : Int32))) (by decide) (by decide) q) ?_
           show OwnFin _ _ _ _ (T57.setTop (mkF m 332 _ []))
           refine OwnFin.st (fun _ q => XS.iconst Xr57.here hx rfl (hb hby at_332) q) ?_
           show OwnFin _ _ _ _ (T57.setTop (mkF m 333 _ [(.int 0)]))
           refine OwnFin.st (fun _ q => XS.istore Xr57.here hx rfl (hb hby at_333) rfl (l' := #[.val (.int p0), .val (.int p1), .val (.int p2), .val (.int p3), .val (.int p4), .val (.int y1_0), .val (.int n_3), .val (.int n_5), .val (.int c_7), .val (.int c_9), .val (.int c_11), .val (.int c_13), .val (.ref c14_0), .val (.ref c16_0), .val (.int ph_18), .val (.int ph_19), .val (.ref (if ph_18 = (0 : Int32) then w_SET_UP else w_TEAR_DOWN)), .val (.ref (if ph_19 = (0 : Int32) then w_SET_UP else w_TEAR_DOWN)), .val (.ref c36_0), .val (.ref c46_0), .val (if (p2 &&& (8 : Int32)) = (0 : Int32) then (.ref c36_0) else .null), .val (if (p2 &&& (16 : Int32)) = (0 : Int32) then (.ref c46_0) else .null), .val (.ref b50), .val (.ref b54), .val (.int kd_59), .val (.ref b54), .val (.int 0), .val (.int 0)]) rfl q) ?_
           show OwnFin _ _ _ _ (T57.setTop (mkF m 335 _ []))
           refine OwnFin.st (fun _ q => XS.aload Xr57.here hx rfl (hb hby at_335) rfl rfl q) ?_
           show OwnFin _ _ _ _ (T57.setTop (mkF m 337 _ [(.ref b50)]))
           refine OwnFin.st (fun _ q => XS.aload Xr57.here hx rfl (hb hby at_337) rfl rfl q) ?_
           show OwnFin _ _ _ _ (T57.setTop (mkF m 339 _ [(.ref b54), (.ref b50)]))
           have fr139 : Fld Z h57 b50 "com/example/neat_order/neatorder/model/LifecycleFailure" "container" "Ljava/lang/String;" (.ref c14_0) := ((r52_0.ext E54).keep K57 (ninS (Nat.ne_of_lt (Nat.lt_of_lt_of_le (A50.keep K52).lt bi_b54)) nin0))
           have fr140 : Exa Z h57 c14_0 "java/lang/String" := (((((((((r14_1.keep K16).keep K34).keep K36).keep K44).keep K46).ext E50).keep K52).ext E54).keep K57)
           have fr141 : Fld Z h57 c14_0 "java/lang/String" "coder" "B" (.int 0) := (((((((((r14_2.keep K16 nin0).keep K34 nin0).keep K36 nin0).keep K44 nin0).keep K46 nin0).ext E50).keep K52 (ninS (Nat.ne_of_lt (Nat.lt_of_lt_of_le (((((r14_1.keep K16).keep K34).keep K36).keep K44).keep K46).lt bi_b50)) nin0)).ext E54).keep K57 (ninS (Nat.ne_of_lt (Nat.lt_of_lt_of_le (((((((r14_1.keep K16).keep K34).keep K36).keep K44).keep K46).ext E50).keep K52).lt bi_b54)) nin0))
           have fr142 : Fld Z h57 c14_0 "java/lang/String" "value" "[B" (.ref c14_1) := (((((((((r14_3.keep K16 nin0).keep K34 nin0).keep K36 nin0).keep K44 nin0).keep K46 nin0).ext E50).keep K52 (ninS (Nat.ne_of_lt (Nat.lt_of_lt_of_le (((((r14_1.keep K16).keep K34).keep K36).keep K44).keep K46).lt bi_b50)) nin0)).ext E54).keep K57 (ninS (Nat.ne_of_lt (Nat.lt_of_lt_of_le (((((((r14_1.keep K16).keep K34).keep K36).keep K44).keep K46).ext E50).keep K52).lt bi_b54)) nin0))
           have fr143 : Fld Z h57 c16_0 "java/lang/String" "coder" "B" (.int 0) := ((((((((r16_2.keep K34 nin0).keep K36 nin0).keep K44 nin0).keep K46 nin0).ext E50).keep K52 (ninS (Nat.ne_of_lt (Nat.lt_of_lt_of_le ((((r16_1.keep K34).keep K36).keep K44).keep K46).lt bi_b50)) nin0)).ext E54).keep K57 (ninS (Nat.ne_of_lt (Nat.lt_of_lt_of_le ((((((r16_1.keep K34).keep K36).keep K44).keep K46).ext E50).keep K52).lt bi_b54)) nin0))
           have fr144 : Fld Z h57 c16_0 "java/lang/String" "value" "[B" (.ref c16_1) := ((((((((r16_3.keep K34 nin0).keep K36 nin0).keep K44 nin0).keep K46 nin0).ext E50).keep K52 (ninS (Nat.ne_of_lt (Nat.lt_of_lt_of_le ((((r16_1.keep K34).keep K36).keep K44).keep K46).lt bi_b50)) nin0)).ext E54).keep K57 (ninS (Nat.ne_of_lt (Nat.lt_of_lt_of_le ((((((r16_1.keep K34).keep K36).keep K44).keep K46).ext E50).keep K52).lt bi_b54)) nin0))
           have fr145 : Arv Z h57 c14_1 kc14_2 .byte n_3 (own_by n_3 c_7 c_9) (.int 0) := (((((((((r14_4.keep K16 nin0).keep K34 nin0).keep K36 nin0).keep K44 nin0).keep K46 nin0).ext E50).keep K52 (ninS (Nat.ne_of_lt (Nat.lt_of_lt_of_le (((((r14_4.keep K16 nin0).keep K34 nin0).keep K36 nin0).keep K44 nin0).keep K46 nin0).lt bi_b50)) nin0)).ext E54).keep K57 (ninS (Nat.ne_of_lt (Nat.lt_of_lt_of_le (((((((r14_4.keep K16 nin0).keep K34 nin0).keep K36 nin0).keep K44 nin0).keep K46 nin0).ext E50).keep K52 (ninS (Nat.ne_of_lt (Nat.lt_of_lt_of_le (((((r14_4.keep K16 nin0).keep K34 nin0).keep K36 nin0).keep K44 nin0).keep K46 nin0).lt bi_b50)) nin0)).lt bi_b54)) nin0))
           have fr146 : Arv Z h57 c16_1 kc16_2 .byte n_5 (own_by n_5 c_11 c_13) (.int 0) := ((((((((r16_4.keep K34 nin0).keep K36 nin0).keep K44 nin0).keep K46 nin0).ext E50).keep K52 (ninS (Nat.ne_of_lt (Nat.lt_of_lt_of_le ((((r16_4.keep K34 nin0).keep K36 nin0).keep K44 nin0).keep K46 nin0).lt bi_b50)) nin0)).ext E54).keep K57 (ninS (Nat.ne_of_lt (Nat.lt_of_lt_of_le ((((((r16_4.keep K34 nin0).keep K36 nin0).keep K44 nin0).keep K46 nin0).ext E50).keep K52 (ninS (Nat.ne_of_lt (Nat.lt_of_lt_of_le ((((r16_4.keep K34 nin0).keep K36 nin0).keep K44 nin0).keep K46 nin0).lt bi_b50)) nin0)).lt bi_b54)) nin0))
           obtain ⟨cq147, kq147, q147a, q147b, q147c⟩ := isOf hZr57 e57 (((A50.keep K52).ext E54).keep K57)
           obtain ⟨_, _, ⟨T147, L147, k147, n147⟩, -, X147, ⟨Lc147, hQ147, l147, y147, z147⟩, st147⟩ := Xr57.virtualBack hx (y := yM17) (z := yM17) hor57 (mvT hZr57 (w_ hw 86 rfl)) (mvT hZr57 (w_ hw 87 rfl)) (notFace_of_selects (args := #[]) (mvT hZr57 (w_ hw 89 rfl))) (mvT hZr57 (w_ hw 89 rfl)) (mvT hZr57 (w_ hw 88 rfl)) (by decide) (backOf (W := 0) (rm_feF l Z av0 hw [] b50 b54 c14_0 c16_0 c14_1 c16_1 kc14_2 n_3 c_7 c_9 kc16_2 n_5 c_11 c_13 w_COMPACT_STRINGS h57 n0 (Nat.le_trans Z0 kp58.1) ol58 (A54.keep K57) fr139 r57_0 fr140 fr141 fr142 (fr56.keep K57) fr143 fr144 fr145 fr146 (Nat.ne_of_lt (Nat.lt_of_lt_of_le r14_1.lt bi_c16_0)) S_COMPACT_STRINGS hcs hbn_3_0 hbn_3_1 hbn_5_0 hbn_5_1 hbc_7_0 hbc_7_1 hbc_11_0 hbc_11_1 hbc_9_0 hbc_9_1 hbc_13_0 hbc_13_1 (show (own_eq n_3 c_7 c_9 n_5 c_11 c_13) = 0 from if_neg (fun z => z.2.1.elim hc62 hc85))) hZr57 (w_ hw 90 rfl) (w_ hw 66 rfl) (by decide) (by decide)) q147a q147c (g := (mkF m 339 #[.val (.int p0), .val (.int p1), .val (.int p2), .val (.int p3), .val (.int p4), .val (.int y1_0), .val (.int n_3), .val (.int n_5), .val (.int c_7), .val (.int c_9), .val (.int c_11), .val (.int c_13), .val (.ref c14_0), .val (.ref c16_0), .val (.int ph_18), .val (.int ph_19), .val (.ref (if ph_18 = (0 : Int32) then w_SET_UP else w_TEAR_DOWN)), .val (.ref (if ph_19 = (0 : Int32) then w_SET_UP else w_TEAR_DOWN)), .val (.ref c36_0), .val (.ref c46_0), .val (if (p2 &&& (8 : Int32)) = (0 : Int32) then (.ref c36_0) else .null), .val (if (p2 &&& (16 : Int32)) = (0 : Int32) then (.ref c46_0) else .null), .val (.ref b50), .val (.ref b54), .val (.int kd_59), .val (.ref b54), .val (.int 0), .val (.int 0)] [(.ref b54), (.ref b50)])) rfl (by rw [hml]; rfl) (Steps.refl _) (argsL := [(.ref b54)]) (rest := []) (lenOf pd_10 rfl) rfl (by show 2 * 0 + _ ≤ _; exact Nat.le_of_eq rfl) (hb hby at_339) (fun _ _ => ⟨rfl, e57, (by decide : 36 + 0 ≤ _), (by decide : 188 + 0 ≤ _)⟩)
           dsimp only [Pt.U, Pt.locs, Pt.cells, Pt.slots] at X147 l147 y147 z147 st147 hQ147
           subst l147 y147 z147
           obtain ⟨rfl, N147q, he147⟩ := hQ147
           have N147 := Fr.app N57 N147q
           refine OwnFin.tr st147 ?_
           show OwnFin _ _ _ _ (T147.setTop (mkF m 342 #[.val (.int p0), .val (.int p1), .val (.int p2), .val (.int p3), .val (.int p4), .val (.int y1_0), .val (.int n_3), .val (.int n_5), .val (.int c_7), .val (.int c_9), .val (.int c_11), .val (.int c_13), .val (.ref c14_0), .val (.ref c16_0), .val (.int ph_18), .val (.int ph_19), .val (.ref (if ph_18 = (0 : Int32) then w_SET_UP else w_TEAR_DOWN)), .val (.ref (if ph_19 = (0 : Int32) then w_SET_UP else w_TEAR_DOWN)), .val (.ref c36_0), .val (.ref c46_0), .val (if (p2 &&& (8 : Int32)) = (0 : Int32) then (.ref c36_0) else .null), .val (if (p2 &&& (16 : Int32)) = (0 : Int32) then (.ref c46_0) else .null), .val (.ref b50), .val (.ref b54), .val (.int kd_59), .val (.ref b54), .val (.int 0), .val (.int 0)] [(.int 0)]))
           refine OwnFin.st (fun _ q => XS.iload X147.here hx rfl (hb hby at_342) rfl q) ?_
           show OwnFin _ _ _ _ (T147.setTop (mkF m 344 _ [(.int 0), (.int 0)]))
           refine OwnFin.st (fun _ q => XS.icmpNo X147.here hx rfl (hb hby at_344) rfl (Jvm.Free.XT.ii_ne_f (rfl : (0 : Int32) = (0 : Int32))) q) ?_
           show OwnFin _ _ _ _ (T147.setTop (mkF m 347 _ []))
           refine OwnFin.st (fun _ q => XS.iconst X147.here hx rfl (hb hby at_347) q) ?_
           show OwnFin _ _ _ _ (T147.setTop (mkF m 348 _ [(.int 1)]))
           refine OwnFin.st (fun _ q => XS.goto X147.here hx rfl (pc0 := 348) (pc' := 352) rfl (hb hby at_348) (by decide) (by decide) q) ?_
           show OwnFin _ _ _ _ (T147.setTop (mkF m 352 _ [(.int 1)]))
           obtain ⟨fs, hr, hrun, hended, hEW⟩ := X147.leaveW (s := s) hSr57 (by rw [he147]; exact (Nat.le_trans (Nat.le_refl _) (Nat.le_refl _))) (v := some (.int 1)) (fun h => by rw [Bd.returns] at h; cases h)
           have chE : CHr Z own_EL s.vm s.heap T147.vm T147.heap := by
             rw [hh, he147]
             exact ch58.trans (CHv.at X147 hZr57 (own_EW hw) ch58.1)
           refine ⟨_, _, retN X147 hx (t := .boolean) Bd.returns (by simp) (hb hby at_352) hr, hrun, hended, _, _, rfl, ?_, chE, hEW.1, hEW.2.1, hEW.2.2.1, hEW.2.2.2.mono (by decide) (by decide)⟩
           show Q_rm0 Z p0 p1 p2 p3 p4 w_TEAR_DOWN w_SET_UP w_COMPACT_STRINGS h0 n0 _ T147.heap _
           rw [he147]
           exact ⟨rfl, N147⟩
        ·
         refine OwnFin.st (fun _ q => XS.icmpYes Xr57.here hx rfl (pc0 := 275) (pc' := 308) rfl (hb hby at_275) rfl (Jvm.Free.XT.ii_ne_t hc61) (by decide) (by decide) q) ?_
         show OwnFin _ _ _ _ (T57.setTop (mkF m 308 _ []))
         refine OwnFin.st (fun _ q => XS.iconst Xr57.here hx rfl (hb hby at_308) q) ?_
         show OwnFin _ _ _ _ (T57.setTop (mkF m 309 _ [(.int 0)]))
         refine OwnFin.st (fun _ q => XS.istore Xr57.here hx rfl (hb hby at_309) rfl (l' := #[.val (.int p0), .val (.int p1), .val (.int p2), .val (.int p3), .val (.int p4), .val (.int y1_0), .val (.int n_3), .val (.int n_5), .val (.int c_7), .val (.int c_9), .val (.int c_11), .val (.int c_13), .val (.ref c14_0), .val (.ref c16_0), .val (.int ph_18), .val (.int ph_19), .val (.ref (if ph_18 = (0 : Int32) then w_SET_UP else w_TEAR_DOWN)), .val (.ref (if ph_19 = (0 : Int32) then w_SET_UP else w_TEAR_DOWN)), .val (.ref c36_0), .val (.ref c46_0), .val (if (p2 &&& (8 : Int32)) = (0 : Int32) then (.ref c36_0) else .null), .val (if (p2 &&& (16 : Int32)) = (0 : Int32) then (.ref c46_0) else .null), .val (.ref b50), .val (.ref b54), .val (.int kd_59), .val (.ref b54), .val (.int 0), .unset]) rfl q) ?_
         show OwnFin _ _ _ _ (T57.setTop (mkF m 311 _ []))
         refine OwnFin.st (fun _ q => XS.iload Xr57.here hx rfl (hb hby at_311) rfl q) ?_
         show OwnFin _ _ _ _ (T57.setTop (mkF m 313 _ [(.int kd_59)]))
         refine OwnFin.st (fun _ q => XS.ifNo Xr57.here hx rfl (hb hby at_313) rfl (Jvm.Free.XT.i0_ne_f hc60) q) ?_
         show OwnFin _ _ _ _ (T57.setTop (mkF m 316 #[.val (.int p0), .val (.int p1), .val (.int p2), .val (.int p3), .val (.int p4), .val (.int y1_0), .val (.int n_3), .val (.int n_5), .val (.int c_7), .val (.int c_9), .val (.int c_11), .val (.int c_13), .val (.ref c14_0), .val (.ref c16_0), .val (.int ph_18), .val (.int ph_19), .val (.ref (if ph_18 = (0 : Int32) then w_SET_UP else w_TEAR_DOWN)), .val (.ref (if ph_19 = (0 : Int32) then w_SET_UP else w_TEAR_DOWN)), .val (.ref c36_0), .val (.ref c46_0), .val (if (p2 &&& (8 : Int32)) = (0 : Int32) then (.ref c36_0) else .null), .val (if (p2 &&& (16 : Int32)) = (0 : Int32) then (.ref c46_0) else .null), .val (.ref b50), .val (.ref b54), .val (.int kd_59), .val (.ref b54), .val (.int 0), .unset] []))
         refine OwnFin.st (fun _ q => XS.iload Xr57.here hx rfl (hb hby at_316) rfl q) ?_
         show OwnFin _ _ _ _ (T57.setTop (mkF m 318 _ [(.int 0)]))
         refine OwnFin.st (fun _ q => XS.ifYes Xr57.here hx rfl (pc0 := 318) (pc' := 332) rfl (hb hby at_318) rfl (Jvm.Free.XT.i0_eq_t (rfl : (0 : Int32) = (0 : Int32))) (by decide) (by decide) q) ?_
         show OwnFin _ _ _ _ (T57.setTop (mkF m 332 _ []))
         refine OwnFin.st (fun _ q => XS.iconst Xr57.here hx rfl (hb hby at_332) q) ?_
         show OwnFin _ _ _ _ (T57.setTop (mkF m 333 _ [(.int 0)]))
         refine OwnFin.st (fun _ q => XS.istore Xr57.here hx rfl (hb hby at_333) rfl (l' := #[.val (.int p0), .val (.int p1), .val (.int p2), .val (.int p3), .val (.int p4), .val (.int y1_0), .val (.int n_3), .val (.int n_5), .val (.int c_7), .val (.int c_9), .val (.int c_11), .val (.int c_13), .val (.ref c14_0), .val (.ref c16_0), .val (.int ph_18), .val (.int ph_19), .val (.ref (if ph_18 = (0 : Int32) then w_SET_UP else w_TEAR_DOWN)), .val (.ref (if ph_19 = (0 : Int32) then w_SET_UP else w_TEAR_DOWN)), .val (.ref c36_0), .val (.ref c46_0), .val (if (p2 &&& (8 : Int32)) = (0 : Int32) then (.ref c36_0) else .null), .val (if (p2 &&& (16 : Int32)) = (0 : Int32) then (.ref c46_0) else .null), .val (.ref b50), .val (.ref b54), .val (.int kd_59), .val (.ref b54), .val (.int 0), .val (.int 0)]) rfl q) ?_
         show OwnFin _ _ _ _ (T57.setTop (mkF m 335 _ []))
         refine OwnFin.st (fun _ q => XS.aload Xr57.here hx rfl (hb hby at_335) rfl rfl q) ?_
         show OwnFin _ _ _ _ (T57.setTop (mkF m 337 _ [(.ref b50)]))
         refine OwnFin.st (fun _ q => XS.aload Xr57.here hx rfl (hb hby at_337) rfl rfl q) ?_
         show OwnFin _ _ _ _ (T57.setTop (mkF m 339 _ [(.ref b54), (.ref b50)]))
         have fr148 : Fld Z h57 b50 "com/example/neat_order/neatorder/model/LifecycleFailure" "container" "Ljava/lang/String;" (.ref c14_0) := ((r52_0.ext E54).keep K57 (ninS (Nat.ne_of_lt (Nat.lt_of_lt_of_le (A50.keep K52).lt bi_b54)) nin0))
         have fr149 : Exa Z h57 c14_0 "java/lang/String" := (((((((((r14_1.keep K16).keep K34).keep K36).keep K44).keep K46).ext E50).keep K52).ext E54).keep K57)
         have fr150 : Fld Z h57 c14_0 "java/lang/String" "coder" "B" (.int 0) := (((((((((r14_2.keep K16 nin0).keep K34 nin0).keep K36 nin0).keep K44 nin0).keep K46 nin0).ext E50).keep K52 (ninS (Nat.ne_of_lt (Nat.lt_of_lt_of_le (((((r14_1.keep K16).keep K34).keep K36).keep K44).keep K46).lt bi_b50)) nin0)).ext E54).keep K57 (ninS (Nat.ne_of_lt (Nat.lt_of_lt_of_le (((((((r14_1.keep K16).keep K34).keep K36).keep K44).keep K46).ext E50).keep K52).lt bi_b54)) nin0))
         have fr151 : Fld Z h57 c14_0 "java/lang/String" "value" "[B" (.ref c14_1) := (((((((((r14_3.keep K16 nin0).keep K34 nin0).keep K36 nin0).keep K44 nin0).keep K46 nin0).ext E50).keep K52 (ninS (Nat.ne_of_lt (Nat.lt_of_lt_of_le (((((r14_1.keep K16).keep K34).keep K36).keep K44).keep K46).lt bi_b50)) nin0)).ext E54).keep K57 (ninS (Nat.ne_of_lt (Nat.lt_of_lt_of_le (((((((r14_1.keep K16).keep K34).keep K36).keep K44).keep K46).ext E50).keep K52).lt bi_b54)) nin0))
         have fr152 : Fld Z h57 c16_0 "java/lang/String" "coder" "B" (.int 0) := ((((((((r16_2.keep K34 nin0).keep K36 nin0).keep K44 nin0).keep K46 nin0).ext E50).keep K52 (ninS (Nat.ne_of_lt (Nat.lt_of_lt_of_le ((((r16_1.keep K34).keep K36).keep K44).keep K46).lt bi_b50)) nin0)).ext E54).keep K57 (ninS (Nat.ne_of_lt (Nat.lt_of_lt_of_le ((((((r16_1.keep K34).keep K36).keep K44).keep K46).ext E50).keep K52).lt bi_b54)) nin0))
         have fr153 : Fld Z h57 c16_0 "java/lang/String" "value" "[B" (.ref c16_1) := ((((((((r16_3.keep K34 nin0).keep K36 nin0).keep K44 nin0).keep K46 nin0).ext E50).keep K52 (ninS (Nat.ne_of_lt (Nat.lt_of_lt_of_le ((((r16_1.keep K34).keep K36).keep K44).keep K46).lt bi_b50)) nin0)).ext E54).keep K57 (ninS (Nat.ne_of_lt (Nat.lt_of_lt_of_le ((((((r16_1.keep K34).keep K36).keep K44).keep K46).ext E50).keep K52).lt bi_b54)) nin0))
         have fr154 : Arv Z h57 c14_1 kc14_2 .byte n_3 (own_by n_3 c_7 c_9) (.int 0) := (((((((((r14_4.keep K16 nin0).keep K34 nin0).keep K36 nin0).keep K44 nin0).keep K46 nin0).ext E50).keep K52 (ninS (Nat.ne_of_lt (Nat.lt_of_lt_of_le (((((r14_4.keep K16 nin0).keep K34 nin0).keep K36 nin0).keep K44 nin0).keep K46 nin0).lt bi_b50)) nin0)).ext E54).keep K57 (ninS (Nat.ne_of_lt (Nat.lt_of_lt_of_le (((((((r14_4.keep K16 nin0).keep K34 nin0).keep K36 nin0).keep K44 nin0).keep K46 nin0).ext E50).keep K52 (ninS (Nat.ne_of_lt (Nat.lt_of_lt_of_le (((((r14_4.keep K16 nin0).keep K34 nin0).keep K36 nin0).keep K44 nin0).keep K46 nin0).lt bi_b50)) nin0)).lt bi_b54)) nin0))
         have fr155 : Arv Z h57 c16_1 kc16_2 .byte n_5 (own_by n_5 c_11 c_13) (.int 0) := ((((((((r16_4.keep K34 nin0).keep K36 nin0).keep K44 nin0).keep K46 nin0).ext E50).keep K52 (ninS (Nat.ne_of_lt (Nat.lt_of_lt_of_le ((((r16_4.keep K34 nin0).keep K36 nin0).keep K44 nin0).keep K46 nin0).lt bi_b50)) nin0)).ext E54).keep K57 (ninS (Nat.ne_of_lt (Nat.lt_of_lt_of_le ((((((r16_4.keep K34 nin0).keep K36 nin0).keep K44 nin0).keep K46 nin0).ext E50).keep K52 (ninS (Nat.ne_of_lt (Nat.lt_of_lt_of_le ((((r16_4.keep K34 nin0).keep K36 nin0).keep K44 nin0).keep K46 nin0).lt bi_b50)) nin0)).lt bi_b54)) nin0))
         obtain ⟨cq156, kq156, q156a, q156b, q156c⟩ := isOf hZr57 e57 (((A50.keep K52).ext E54).keep K57)
         obtain ⟨_, _, ⟨T156, L156, k156, n156⟩, -, X156, ⟨Lc156, hQ156, l156, y156, z156⟩, st156⟩ := Xr57.virtualBack hx (y := yM17) (z := yM17) hor57 (mvT hZr57 (w_ hw 86 rfl)) (mvT hZr57 (w_ hw 87 rfl)) (notFace_of_selects (args := #[]) (mvT hZr57 (w_ hw 89 rfl))) (mvT hZr57 (w_ hw 89 rfl)) (mvT hZr57 (w_ hw 88 rfl)) (by decide) (backOf (W := 0) (rm_feF l Z av0 hw [] b50 b54 c14_0 c16_0 c14_1 c16_1 kc14_2 n_3 c_7 c_9 kc16_2 n_5 c_11 c_13 w_COMPACT_STRINGS h57 n0 (Nat.le_trans Z0 kp58.1) ol58 (A54.keep K57) fr148 r57_0 fr149 fr150 fr151 (fr56.keep K57) fr152 fr153 fr154 fr155 (Nat.ne_of_lt (Nat.lt_of_lt_of_le r14_1.lt bi_c16_0)) S_COMPACT_STRINGS hcs hbn_3_0 hbn_3_1 hbn_5_0 hbn_5_1 hbc_7_0 hbc_7_1 hbc_11_0 hbc_11_1 hbc_9_0 hbc_9_1 hbc_13_0 hbc_13_1 (show (own_eq n_3 c_7 c_9 n_5 c_11 c_13) = 0 from if_neg (fun z => hc61 z.1))) hZr57 (w_ hw 90 rfl) (w_ hw 66 rfl) (by decide) (by decide)) q156a q156c (g := (mkF m 339 #[.val (.int p0), .val (.int p1), .val (.int p2), .val (.int p3), .val (.int p4), .val (.int y1_0), .val (.int n_3), .val (.int n_5), .val (.int c_7), .val (.int c_9), .val (.int c_11), .val (.int c_13), .val (.ref c14_0), .val (.ref c16_0), .val (.int ph_18), .val (.int ph_19), .val (.ref (if ph_18 = (0 : Int32) then w_SET_UP else w_TEAR_DOWN)), .val (.ref (if ph_19 = (0 : Int32) then w_SET_UP else w_TEAR_DOWN)), .val (.ref c36_0), .val (.ref c46_0), .val (if (p2 &&& (8 : Int32)) = (0 : Int32) then (.ref c36_0) else .null), .val (if (p2 &&& (16 : Int32)) = (0 : Int32) then (.ref c46_0) else .null), .val (.ref b50), .val (.ref b54), .val (.int kd_59), .val (.ref b54), .val (.int 0), .val (.int 0)] [(.ref b54), (.ref b50)])) rfl (by rw [hml]; rfl) (Steps.refl _) (argsL := [(.ref b54)]) (rest := []) (lenOf pd_10 rfl) rfl (by show 2 * 0 + _ ≤ _; exact Nat.le_of_eq rfl) (hb hby at_339) (fun _ _ => ⟨rfl, e57, (by decide : 36 + 0 ≤ _), (by decide : 188 + 0 ≤ _)⟩)
         dsimp only [Pt.U, Pt.locs, Pt.cells, Pt.slots] at X156 l156 y156 z156 st156 hQ156
         subst l156 y156 z156
         obtain ⟨rfl, N156q, he156⟩ := hQ156
         have N156 := Fr.app N57 N156q
         refine OwnFin.tr st156 ?_
         show OwnFin _ _ _ _ (T156.setTop (mkF m 342 _ [(.int 0)]))
         refine OwnFin.st (fun _ q => XS.iload X156.here hx rfl (hb hby at_342) rfl q) ?_
         show OwnFin _ _ _ _ (T156.setTop (mkF m 344 _ [(.int 0), (.int 0)]))
         refine OwnFin.st (fun _ q => XS.icmpNo X156.here hx rfl (hb hby at_344) rfl (Jvm.Free.XT.ii_ne_f (rfl : (0 : Int32) = (0 : Int32))) q) ?_
         show OwnFin _ _ _ _ (T156.setTop (mkF m 347 _ []))
         refine OwnFin.st (fun _ q => XS.iconst X156.here hx rfl (hb hby at_347) q) ?_
         show OwnFin _ _ _ _ (T156.setTop (mkF m 348 _ [(.int 1)]))
         refine OwnFin.st (fun _ q => XS.goto X156.here hx rfl (pc0 := 348) (pc' := 352) rfl (hb hby at_348) (by decide) (by decide) q) ?_
         show OwnFin _ _ _ _ (T156.setTop (mkF m 352 _ [(.int 1)]))
         obtain ⟨fs, hr, hrun, hended, hEW⟩ := X156.leaveW (s := s) hSr57 (by rw [he156]; exact (Nat.le_trans (Nat.le_refl _) (Nat.le_refl _))) (v := some (.int 1)) (fun h => by rw [Bd.returns] at h; cases h)
         have chE : CHr Z own_EL s.vm s.heap T156.vm T156.heap := by
           rw [hh, he156]
           exact ch58.trans (CHv.at X156 hZr57 (own_EW hw) ch58.1)
         refine ⟨_, _, retN X156 hx (t := .boolean) Bd.returns (by simp) (hb hby at_352) hr, hrun, hended, _, _, rfl, ?_, chE, hEW.1, hEW.2.1, hEW.2.2.1, hEW.2.2.2.mono (by decide) (by decide)⟩
         show Q_rm0 Z p0 p1 p2 p3 p4 w_TEAR_DOWN w_SET_UP w_COMPACT_STRINGS h0 n0 _ T156.heap _
         rw [he156]
         exact ⟨rfl, N156⟩
       ·
        refine OwnFin.st (fun _ q => XS.ifYes Xr57.here hx rfl (pc0 := 232) (pc' := 242) rfl (hb hby at_232) rfl (Jvm.Free.XT.i0_ne_t hc60) (by decide) (by decide) q) ?_
        show OwnFin _ _ _ _ (T57.setTop (mkF m 242 _ []))
        refine OwnFin.st (fun _ q => XS.iload Xr57.here hx rfl (hb hby at_242) rfl q) ?_
        show OwnFin _ _ _ _ (T57.setTop (mkF m 244 _ [(.int kd_59)]))
        refine OwnFin.st (fun _ q => XS.iconst Xr57.here hx rfl (hb hby at_244) q) ?_
        show OwnFin _ _ _ _ (T57.setTop (mkF m 245 _ [(.int 1), (.int kd_59)]))
        by_cases hc157 : kd_59 = (1 : Int32)
        ·
         refine OwnFin.st (fun _ q => XS.icmpNo Xr57.here hx rfl (hb hby at_245) rfl (Jvm.Free.XT.ii_ne_f hc157) q) ?_
         show OwnFin _ _ _ _ (T57.setTop (mkF m 248 _ []))
         refine OwnFin.st (fun _ q => XS.aconstNull Xr57.here hx rfl (hb hby at_248) q) ?_
         show OwnFin _ _ _ _ (T57.setTop (mkF m 249 _ [.null]))
         refine OwnFin.st (fun _ q => XS.astore Xr57.here hx rfl (hb hby at_249) rfl rfl (l' := #[.val (.int p0), .val (.int p1), .val (.int p2), .val (.int p3), .val (.int p4), .val (.int y1_0), .val (.int n_3), .val (.int n_5), .val (.int c_7), .val (.int c_9), .val (.int c_11), .val (.int c_13), .val (.ref c14_0), .val (.ref c16_0), .val (.int ph_18), .val (.int ph_19), .val (.ref (if ph_18 = (0 : Int32) then w_SET_UP else w_TEAR_DOWN)), .val (.ref (if ph_19 = (0 : Int32) then w_SET_UP else w_TEAR_DOWN)), .val (.ref c36_0), .val (.ref c46_0), .val (if (p2 &&& (8 : Int32)) = (0 : Int32) then (.ref c36_0) else .null), .val (if (p2 &&& (16 : Int32)) = (0 : Int32) then (.ref c46_0) else .null), .val (.ref b50), .val (.ref b54), .val (.int kd_59), .val .null, .unset, .unset]) rfl q) ?_
         show OwnFin _ _ _ _ (T57.setTop (mkF m 251 _ []))
         refine OwnFin.st (fun _ q => XS.goto Xr57.here hx rfl (pc0 := 251) (pc' := 271) rfl (hb hby at_251) (by decide) (by decide) q) ?_
         show OwnFin _ _ _ _ (T57.setTop (mkF m 271 _ []))
         refine OwnFin.st (fun _ q => XS.iload Xr57.here hx rfl (hb hby at_271) rfl q) ?_
         show OwnFin _ _ _ _ (T57.setTop (mkF m 273 _ [(.int n_3)]))
         refine OwnFin.st (fun _ q => XS.iload Xr57.here hx rfl (hb hby at_273) rfl q) ?_
         show OwnFin _ _ _ _ (T57.setTop (mkF m 275 _ [(.int n_5), (.int n_3)]))
         by_cases hc158 : n_3 = n_5
         ·
          refine OwnFin.st (fun _ q => XS.icmpNo Xr57.here hx rfl (hb hby at_275) rfl (Jvm.Free.XT.ii_ne_f hc158) q) ?_
          show OwnFin _ _ _ _ (T57.setTop (mkF m 278 _ []))
          refine OwnFin.st (fun _ q => XS.iload Xr57.here hx rfl (hb hby at_278) rfl q) ?_
          show OwnFin _ _ _ _ (T57.setTop (mkF m 280 #[.val (.int p0), .val (.int p1), .val (.int p2), .val (.int p3), .val (.int p4), .val (.int y1_0), .val (.int n_3), .val (.int n_5), .val (.int c_7), .val (.int c_9), .val (.int c_11), .val (.int c_13), .val (.ref c14_0), .val (.ref c16_0), .val (.int ph_18), .val (.int ph_19), .val (.ref (if ph_18 = (0 : Int32) then w_SET_UP else w_TEAR_DOWN)), .val (.ref (if ph_19 = (0 : Int32) then w_SET_UP else w_TEAR_DOWN)), .val (.ref c36_0), .val (.ref c46_0), .val (if (p2 &&& (8 : Int32)) = (0 : Int32) then (.ref c36_0) else .null), .val (if (p2 &&& (16 : Int32)) = (0 : Int32) then (.ref c46_0) else .null), .val (.ref b50), .val (.ref b54), .val (.int kd_59), .val .null, .unset, .unset] [(.int n_3)]))
          refine OwnFin.st (fun _ q => XS.iconst Xr57.here hx rfl (hb hby at_280) q) ?_
          show OwnFin _ _ _ _ (T57.setTop (mkF m 281 _ [(.int 1), (.int n_3)]))
          by_cases hc159 : n_3 < (1 : Int32)
          ·
           refine OwnFin.st (fun _ q => XS.icmpYes Xr57.here hx rfl (pc0 := 281) (pc' := 291) rfl (hb hby at_281) rfl (Jvm.Free.XT.ii_lt_t hc159) (by decide) (by decide) q) ?_
           show OwnFin _ _ _ _ (T57.setTop (mkF m 291 _ []))
           refine OwnFin.st (fun _ q => XS.iload Xr57.here hx rfl (hb hby at_291) rfl q) ?_
           show OwnFin _ _ _ _ (T57.setTop (mkF m 293 _ [(.int n_3)]))
           refine OwnFin.st (fun _ q => XS.iconst Xr57.here hx rfl (hb hby at_293) q) ?_
           show OwnFin _ _ _ _ (T57.setTop (mkF m 294 _ [(.int 2), (.int n_3)]))
           have hd160 : n_3 < (2 : Int32) := (om_rm0_26 n_3 n_5 hbn_3_0 hbn_3_1 hbn_5_0 hbn_5_1 hc158 hc159)
           refine OwnFin.st (fun _ q => XS.icmpYes Xr57.here hx rfl (pc0 := 294) (pc' := 304) rfl (hb hby at_294) rfl (Jvm.Free.XT.ii_lt_t hd160) (by decide) (by decide) q) ?_
           show OwnFin _ _ _ _ (T57.setTop (mkF m 304 _ []))
           refine OwnFin.st (fun _ q => XS.iconst Xr57.here hx rfl (hb hby at_304) q) ?_
           show OwnFin _ _ _ _ (T57.setTop (mkF m 305 _ [(.int 1)]))
           refine OwnFin.st (fun _ q => XS.goto Xr57.here hx rfl (pc0 := 305) (pc' := 309) rfl (hb hby at_305) (by decide) (by decide) q) ?_
           show OwnFin _ _ _ _ (T57.setTop (mkF m 309 _ [(.int 1)]))
           refine OwnFin.st (fun _ q => XS.istore Xr57.here hx rfl (hb hby at_309) rfl (l' := #[.val (.int p0), .val (.int p1), .val (.int p2), .val (.int p3), .val (.int p4), .val (.int y1_0), .val (.int n_3), .val (.int n_5), .val (.int c_7), .val (.int c_9), .val (.int c_11), .val (.int c_13), .val (.ref c14_0), .val (.ref c16_0), .val (.int ph_18), .val (.int ph_19), .val (.ref (if ph_18 = (0 : Int32) then w_SET_UP else w_TEAR_DOWN)), .val (.ref (if ph_19 = (0 : Int32) then w_SET_UP else w_TEAR_DOWN)), .val (.ref c36_0), .val (.ref c46_0), .val (if (p2 &&& (8 : Int32)) = (0 : Int32) then (.ref c36_0) else .null), .val (if (p2 &&& (16 : Int32)) = (0 : Int32) then (.ref c46_0) else .null), .val (.ref b50), .val (.ref b54), .val (.int kd_59), .val .null, .val (.int 1), .unset]) rfl q) ?_
           show OwnFin _ _ _ _ (T57.setTop (mkF m 311 _ []))
           refine OwnFin.st (fun _ q => XS.iload Xr57.here hx rfl (hb hby at_311) rfl q) ?_
           show OwnFin _ _ _ _ (T57.setTop (mkF m 313 _ [(.int kd_59)]))
           refine OwnFin.st (fun _ q => XS.ifYes Xr57.here hx rfl (pc0 := 313) (pc' := 332) rfl (hb hby at_313) rfl (Jvm.Free.XT.i0_ne_t hc60) (by decide) (by decide) q) ?_
           show OwnFin _ _ _ _ (T57.setTop (mkF m 332 _ []))
           refine OwnFin.st (fun _ q => XS.iconst Xr57.here hx rfl (hb hby at_332) q) ?_
           show OwnFin _ _ _ _ (T57.setTop (mkF m 333 _ [(.int 0)]))
           refine OwnFin.st (fun _ q => XS.istore Xr57.here hx rfl (hb hby at_333) rfl (l' := #[.val (.int p0), .val (.int p1), .val (.int p2), .val (.int p3), .val (.int p4), .val (.int y1_0), .val (.int n_3), .val (.int n_5), .val (.int c_7), .val (.int c_9), .val (.int c_11), .val (.int c_13), .val (.ref c14_0), .val (.ref c16_0), .val (.int ph_18), .val (.int ph_19), .val (.ref (if ph_18 = (0 : Int32) then w_SET_UP else w_TEAR_DOWN)), .val (.ref (if ph_19 = (0 : Int32) then w_SET_UP else w_TEAR_DOWN)), .val (.ref c36_0), .val (.ref c46_0), .val (if (p2 &&& (8 : Int32)) = (0 : Int32) then (.ref c36_0) else .null), .val (if (p2 &&& (16 : Int32)) = (0 : Int32) then (.ref c46_0) else .null), .val (.ref b50), .val (.ref b54), .val (.int kd_59), .val .null, .val (.int 1), .val (.int 0)]) rfl q) ?_
           show OwnFin _ _ _ _ (T57.setTop (mkF m 335 _ []))
           refine OwnFin.st (fun _ q => XS.aload Xr57.here hx rfl (hb hby at_335) rfl rfl q) ?_
           show OwnFin _ _ _ _ (T57.setTop (mkF m 337 #[.val (.int p0), .val (.int p1), .val (.int p2), .val (.int p3), .val (.int p4), .val (.int y1_0), .val (.int n_3), .val (.int n_5), .val (.int c_7), .val (.int c_9), .val (.int c_11), .val (.int c_13), .val (.ref c14_0), .val (.ref c16_0), .val (.int ph_18), .val (.int ph_19), .val (.ref (if ph_18 = (0 : Int32) then w_SET_UP else w_TEAR_DOWN)), .val (.ref (if ph_19 = (0 : Int32) then w_SET_UP else w_TEAR_DOWN)), .val (.ref c36_0), .val (.ref c46_0), .val (if (p2 &&& (8 : Int32)) = (0 : Int32) then (.ref c36_0) else .null), .val (if (p2 &&& (16 : Int32)) = (0 : Int32) then (.ref c46_0) else .null), .val (.ref b50), .val (.ref b54), .val (.int kd_59), .val .null, .val (.int 1), .val (.int 0)] [(.ref b50)]))
           refine OwnFin.st (fun _ q => XS.aload Xr57.here hx rfl (hb hby at_337) rfl rfl q) ?_
           show OwnFin _ _ _ _ (T57.setTop (mkF m 339 _ [.null, (.ref b50)]))
           obtain ⟨cq161, kq161, q161a, q161b, q161c⟩ := isOf hZr57 e57 (((A50.keep K52).ext E54).keep K57)
           obtain ⟨_, _, ⟨T161, L161, k161, n161⟩, -, X161, ⟨Lc161, hQ161, l161, y161, z161⟩, st161⟩ := Xr57.virtualBack hx (y := yM17) (z := yM17) hor57 (mvT hZr57 (w_ hw 86 rfl)) (mvT hZr57 (w_ hw 87 rfl)) (notFace_of_selects (args := #[]) (mvT hZr57 (w_ hw 89 rfl))) (mvT hZr57 (w_ hw 89 rfl)) (mvT hZr57 (w_ hw 88 rfl)) (by decide) (backOf (W := 0) (rm_feN l Z av0 hw [] b50 h57 n0 (Nat.le_trans Z0 kp58.1) ) hZr57 (w_ hw 90 rfl) (w_ hw 66 rfl) (by decide) (by decide)) q161a q161c (g := (mkF m 339 #[.val (.int p0), .val (.int p1), .val (.int p2), .val (.int p3), .val (.int p4), .val (.int y1_0), .val (.int n_3), .val (.int n_5), .val (.int c_7), .val (.int c_9), .val (.int c_11), .val (.int c_13), .val (.ref c14_0), .val (.ref c16_0), .val (.int ph_18), .val (.int ph_19), .val (.ref (if ph_18 = (0 : Int32) then w_SET_UP else w_TEAR_DOWN)), .val (.ref (if ph_19 = (0 : Int32) then w_SET_UP else w_TEAR_DOWN)), .val (.ref c36_0), .val (.ref c46_0), .val (if (p2 &&& (8 : Int32)) = (0 : Int32) then (.ref c36_0) else .null), .val (if (p2 &&& (16 : Int32)) = (0 : Int32) then (.ref c46_0) else .null), .val (.ref b50), .val (.ref b54), .val (.int kd_59), .val .null, .val (.int 1), .val (.int 0)] [.null, (.ref b50)])) rfl (by rw [hml]; rfl) (Steps.refl _) (argsL := [.null]) (rest := []) (lenOf pd_10 rfl) rfl (by show 2 * 0 + _ ≤ _; exact Nat.le_of_eq rfl) (hb hby at_339) (fun _ _ => ⟨rfl, e57, (by decide : 36 + 0 ≤ _), (by decide : 188 + 0 ≤ _)⟩)
           dsimp only [Pt.U, Pt.locs, Pt.cells, Pt.slots] at X161 l161 y161 z161 st161 hQ161
           subst l161 y161 z161
           obtain ⟨rfl, N161q, he161⟩ := hQ161
           have N161 := Fr.app N57 N161q
           refine OwnFin.tr st161 ?_
           show OwnFin _ _ _ _ (T161.setTop (mkF m 342 _ [(.int 0)]))
           refine OwnFin.st (fun _ q => XS.iload X161.here hx rfl (hb hby at_342) rfl q) ?_
           show OwnFin _ _ _ _ (T161.setTop (mkF m 344 _ [(.int 0), (.int 0)]))
           refine OwnFin.st (fun _ q => XS.icmpNo X161.here hx rfl (hb hby at_344) rfl (Jvm.Free.XT.ii_ne_f (rfl : (0 : Int32) = (0 : Int32))) q) ?_
           show OwnFin _ _ _ _ (T161.setTop (mkF m 347 _ []))
           refine OwnFin.st (fun _ q => XS.iconst X161.here hx rfl (hb hby at_347) q) ?_
           show OwnFin _ _ _ _ (T161.setTop (mkF m 348 _ [(.int 1)]))
           refine OwnFin.st (fun _ q => XS.goto X161.here hx rfl (pc0 := 348) (pc' := 352) rfl (hb hby at_348) (by decide) (by decide) q) ?_
           show OwnFin _ _ _ _ (T161.setTop (mkF m 352 _ [(.int 1)]))
           obtain ⟨fs, hr, hrun, hended, hEW⟩ := X161.leaveW (s := s) hSr57 (by rw [he161]; exact (Nat.le_trans (Nat.le_refl _) (Nat.le_refl _))) (v := some (.int 1)) (fun h => by rw [Bd.returns] at h; cases h)
           have chE : CHr Z own_EL s.vm s.heap T161.vm T161.heap := by
             rw [hh, he161]
             exact ch58.trans (CHv.at X161 hZr57 (own_EW hw) ch58.1)
           refine ⟨_, _, retN X161 hx (t := .boolean) Bd.returns (by simp) (hb hby at_352) hr, hrun, hended, _, _, rfl, ?_, chE, hEW.1, hEW.2.1, hEW.2.2.1, hEW.2.2.2.mono (by decide) (by decide)⟩
           show Q_rm0 Z p0 p1 p2 p3 p4 w_TEAR_DOWN w_SET_UP w_COMPACT_STRINGS h0 n0 _ T161.heap _
           rw [he161]
           exact ⟨rfl, N161⟩
          ·
           refine OwnFin.st (fun _ q => XS.icmpNo Xr57.here hx rfl (hb hby at_281) rfl (Jvm.Free.XT.ii_lt_f hc159) q) ?_
           show OwnFin _ _ _ _ (T57.setTop (mkF m 284 _ []))
           refine OwnFin.st (fun _ q => XS.iload Xr57.here hx rfl (hb hby at_284) rfl q) ?_
           show OwnFin _ _ _ _ (T57.setTop (mkF m 286 _ [(.int c_7)]))
           refine OwnFin.st (fun _ q => XS.iload Xr57.here hx rfl (hb hby at_286) rfl q) ?_
           show OwnFin _ _ _ _ (T57.setTop (mkF m 288 _ [(.int c_11), (.int c_7)]))
           by_cases hc162 : c_7 = c_11
           ·
            refine OwnFin.st (fun _ q => XS.icmpNo Xr57.here hx rfl (hb hby at_288) rfl (Jvm.Free.XT.ii_ne_f hc162) q) ?_
            show OwnFin _ _ _ _ (T57.setTop (mkF m 291 _ []))
            refine OwnFin.st (fun _ q => XS.iload Xr57.here hx rfl (hb hby at_291) rfl q) ?_
            show OwnFin _ _ _ _ (T57.setTop (mkF m 293 _ [(.int n_3)]))
            refine OwnFin.st (fun _ q => XS.iconst Xr57.here hx rfl (hb hby at_293) q) ?_
            show OwnFin _ _ _ _ (T57.setTop (mkF m 294 _ [(.int 2), (.int n_3)]))
            by_cases hc163 : n_3 < (2 : Int32)
            ·
             refine OwnFin.st (fun _ q => XS.icmpYes Xr57.here hx rfl (pc0 := 294) (pc' := 304) rfl (hb hby at_294) rfl (Jvm.Free.XT.ii_lt_t hc163) (by decide) (by decide) q) ?_
             show OwnFin _ _ _ _ (T57.setTop (mkF m 304 _ []))
             refine OwnFin.st (fun _ q => XS.iconst Xr57.here hx rfl (hb hby at_304) q) ?_
             show OwnFin _ _ _ _ (T57.setTop (mkF m 305 _ [(.int 1)]))
             refine OwnFin.st (fun _ q => XS.goto Xr57.here hx rfl (pc0 := 305) (pc' := 309) rfl (hb hby at_305) (by decide) (by decide) q) ?_
             show OwnFin _ _ _ _ (T57.setTop (mkF m 309 _ [(.int 1)]))
             refine OwnFin.st (fun _ q => XS.istore Xr57.here hx rfl (hb hby at_309) rfl (l' := #[.val (.int p0), .val (.int p1), .val (.int p2), .val (.int p3), .val (.int p4), .val (.int y1_0), .val (.int n_3), .val (.int n_5), .val (.int c_7), .val (.int c_9), .val (.int c_11), .val (.int c_13), .val (.ref c14_0), .val (.ref c16_0), .val (.int ph_18), .val (.int ph_19), .val (.ref (if ph_18 = (0 : Int32) then w_SET_UP else w_TEAR_DOWN)), .val (.ref (if ph_19 = (0 : Int32) then w_SET_UP else w_TEAR_DOWN)), .val (.ref c36_0), .val (.ref c46_0), .val (if (p2 &&& (8 : Int32)) = (0 : Int32) then (.ref c36_0) else .null), .val (if (p2 &&& (16 : Int32)) = (0 : Int32) then (.ref c46_0) else .null), .val (.ref b50), .val (.ref b54), .val (.int kd_59), .val .null, .val (.int 1), .unset]) rfl q) ?_
             show OwnFin _ _ _ _ (T57.setTop (mkF m 311 _ []))
             refine OwnFin.st (fun _ q => XS.iload Xr57.here hx rfl (hb hby at_311) rfl q) ?_
             show OwnFin _ _ _ _ (T57.setTop (mkF m 313 _ [(.int kd_59)]))
             refine OwnFin.st (fun _ q => XS.ifYes Xr57.here hx rfl (pc0 := 313) (pc' := 332) rfl (hb hby at_313) rfl (Jvm.Free.XT.i0_ne_t hc60) (by decide) (by decide) q) ?_
             show OwnFin _ _ _ _ (T57.setTop (mkF m 332 #[.val (.int p0), .val (.int p1), .val (.int p2), .val (.int p3), .val (.int p4), .val (.int y1_0), .val (.int n_3), .val (.int n_5), .val (.int c_7), .val (.int c_9), .val (.int c_11), .val (.int c_13), .val (.ref c14_0), .val (.ref c16_0), .val (.int ph_18), .val (.int ph_19), .val (.ref (if ph_18 = (0 : Int32) then w_SET_UP else w_TEAR_DOWN)), .val (.ref (if ph_19 = (0 : Int32) then w_SET_UP else w_TEAR_DOWN)), .val (.ref c36_0), .val (.ref c46_0), .val (if (p2 &&& (8 : Int32)) = (0 : Int32) then (.ref c36_0) else .null), .val (if (p2 &&& (16 : Int32)) = (0 : Int32) then (.ref c46_0) else .null), .val (.ref b50), .val (.ref b54), .val (.int kd_59), .val .null, .val (.int 1), .unset] []))
             refine OwnFin.st (fun _ q => XS.iconst Xr57.here hx rfl (hb hby at_332) q) ?_
             show OwnFin _ _ _ _ (T57.setTop (mkF m 333 _ [(.int 0)]))
             refine OwnFin.st (fun _ q => XS.istore Xr57.here hx rfl (hb hby at_333) rfl (l' := #[.val (.int p0), .val (.int p1), .val (.int p2), .val (.int p3), .val (.int p4), .val (.int y1_0), .val (.int n_3), .val (.int n_5), .val (.int c_7), .val (.int c_9), .val (.int c_11), .val (.int c_13), .val (.ref c14_0), .val (.ref c16_0), .val (.int ph_18), .val (.int ph_19), .val (.ref (if ph_18 = (0 : Int32) then w_SET_UP else w_TEAR_DOWN)), .val (.ref (if ph_19 = (0 : Int32) then w_SET_UP else w_TEAR_DOWN)), .val (.ref c36_0), .val (.ref c46_0), .val (if (p2 &&& (8 : Int32)) = (0 : Int32) then (.ref c36_0) else .null), .val (if (p2 &&& (16 : Int32)) = (0 : Int32) then (.ref c46_0) else .null), .val (.ref b50), .val (.ref b54), .val (.int kd_59), .val .null, .val (.int 1), .val (.int 0)]) rfl q) ?_
             show OwnFin _ _ _ _ (T57.setTop (mkF m 335 _ []))
             refine OwnFin.st (fun _ q => XS.aload Xr57.here hx rfl (hb hby at_335) rfl rfl q) ?_
             show OwnFin _ _ _ _ (T57.setTop (mkF m 337 _ [(.ref b50)]))
             refine OwnFin.st (fun _ q => XS.aload Xr57.here hx rfl (hb hby at_337) rfl rfl q) ?_
             show OwnFin _ _ _ _ (T57.setTop (mkF m 339 _ [.null, (.ref b50)]))
             obtain ⟨cq164, kq164, q164a, q164b, q164c⟩ := isOf hZr57 e57 (((A50.keep K52).ext E54).keep K57)
             obtain ⟨_, _, ⟨T164, L164, k164, n164⟩, -, X164, ⟨Lc164, hQ164, l164, y164, z164⟩, st164⟩ := Xr57.virtualBack hx (y := yM17) (z := yM17) hor57 (mvT hZr57 (w_ hw 86 rfl)) (mvT hZr57 (w_ hw 87 rfl)) (notFace_of_selects (args := #[]) (mvT hZr57 (w_ hw 89 rfl))) (mvT hZr57 (w_ hw 89 rfl)) (mvT hZr57 (w_ hw 88 rfl)) (by decide) (backOf (W := 0) (rm_feN l Z av0 hw [] b50 h57 n0 (Nat.le_trans Z0 kp58.1) ) hZr57 (w_ hw 90 rfl) (w_ hw 66 rfl) (by decide) (by decide)) q164a q164c (g := (mkF m 339 #[.val (.int p0), .val (.int p1), .val (.int p2), .val (.int p3), .val (.int p4), .val (.int y1_0), .val (.int n_3), .val (.int n_5), .val (.int c_7), .val (.int c_9), .val (.int c_11), .val (.int c_13), .val (.ref c14_0), .val (.ref c16_0), .val (.int ph_18), .val (.int ph_19), .val (.ref (if ph_18 = (0 : Int32) then w_SET_UP else w_TEAR_DOWN)), .val (.ref (if ph_19 = (0 : Int32) then w_SET_UP else w_TEAR_DOWN)), .val (.ref c36_0), .val (.ref c46_0), .val (if (p2 &&& (8 : Int32)) = (0 : Int32) then (.ref c36_0) else .null), .val (if (p2 &&& (16 : Int32)) = (0 : Int32) then (.ref c46_0) else .null), .val (.ref b50), .val (.ref b54), .val (.int kd_59), .val .null, .val (.int 1), .val (.int 0)] [.null, (.ref b50)])) rfl (by rw [hml]; rfl) (Steps.refl _) (argsL := [.null]) (rest := []) (lenOf pd_10 rfl) rfl (by show 2 * 0 + _ ≤ _; exact Nat.le_of_eq rfl) (hb hby at_339) (fun _ _ => ⟨rfl, e57, (by decide : 36 + 0 ≤ _), (by decide : 188 + 0 ≤ _)⟩)
             dsimp only [Pt.U, Pt.locs, Pt.cells, Pt.slots] at X164 l164 y164 z164 st164 hQ164
             subst l164 y164 z164
             obtain ⟨rfl, N164q, he164⟩ := hQ164
             have N164 := Fr.app N57 N164q
             refine OwnFin.tr st164 ?_
             show OwnFin _ _ _ _ (T164.setTop (mkF m 342 _ [(.int 0)]))
             refine OwnFin.st (fun _ q => XS.iload X164.here hx rfl (hb hby at_342) rfl q) ?_
             show OwnFin _ _ _ _ (T164.setTop (mkF m 344 _ [(.int 0), (.int 0)]))
             refine OwnFin.st (fun _ q => XS.icmpNo X164.here hx rfl (hb hby at_344) rfl (Jvm.Free.XT.ii_ne_f (rfl : (0 : Int32) = (0 : Int32))) q) ?_
             show OwnFin _ _ _ _ (T164.setTop (mkF m 347 _ []))
             refine OwnFin.st (fun _ q => XS.iconst X164.here hx rfl (hb hby at_347) q) ?_
             show OwnFin _ _ _ _ (T164.setTop (mkF m 348 _ [(.int 1)]))
             refine OwnFin.st (fun _ q => XS.goto X164.here hx rfl (pc0 := 348) (pc' := 352) rfl (hb hby at_348) (by decide) (by decide) q) ?_
             show OwnFin _ _ _ _ (T164.setTop (mkF m 352 _ [(.int 1)]))
             obtain ⟨fs, hr, hrun, hended, hEW⟩ := X164.leaveW (s := s) hSr57 (by rw [he164]; exact (Nat.le_trans (Nat.le_refl _) (Nat.le_refl _))) (v := some (.int 1)) (fun h => by rw [Bd.returns] at h; cases h)
             have chE : CHr Z own_EL s.vm s.heap T164.vm T164.heap := by
               rw [hh, he164]
               exact ch58.trans (CHv.at X164 hZr57 (own_EW hw) ch58.1)
             refine ⟨_, _, retN X164 hx (t := .boolean) Bd.returns (by simp) (hb hby at_352) hr, hrun, hended, _, _, rfl, ?_, chE, hEW.1, hEW.2.1, hEW.2.2.1, hEW.2.2.2.mono (by decide) (by decide)⟩
             show Q_rm0 Z p0 p1 p2 p3 p4 w_TEAR_DOWN w_SET_UP w_COMPACT_STRINGS h0 n0 _ T164.heap _
             rw [he164]
             exact ⟨rfl, N164⟩
            ·
             refine OwnFin.st (fun _ q => XS.icmpNo Xr57.here hx rfl (hb hby at_294) rfl (Jvm.Free.XT.ii_lt_f hc163) q) ?_
             show OwnFin _ _ _ _ (T57.setTop (mkF m 297 _ []))
             refine OwnFin.st (fun _ q => XS.iload Xr57.here hx rfl (hb hby at_297) rfl q) ?_
             show OwnFin _ _ _ _ (T57.setTop (mkF m 299 _ [(.int c_9)]))
             refine OwnFin.st (fun _ q => XS.iload Xr57.here hx rfl (hb hby at_299) rfl q) ?_
             show OwnFin _ _ _ _ (T57.setTop (mkF m 301 _ [(.int c_13), (.int c_9)]))
             by_cases hc165 : c_9 = c_13
             ·
              refine OwnFin.st (fun _ q => XS.icmpNo Xr57.here hx rfl (hb hby at_301) rfl (Jvm.Free.XT.ii_ne_f hc165) q) ?_
              show OwnFin _ _ _ _ (T57.setTop (mkF m 304 _ []))
              refine OwnFin.st (fun _ q => XS.iconst Xr57.here hx rfl (hb hby at_304) q) ?_
              show OwnFin _ _ _ _ (T57.setTop (mkF m 305 _ [(.int 1)]))
              refine OwnFin.st (fun _ q => XS.goto Xr57.here hx rfl (pc0 := 305) (pc' := 309) rfl (hb hby at_305) (by decide) (by decide) q) ?_
              show OwnFin _ _ _ _ (T57.setTop (mkF m 309 #[.val (.int p0), .val (.int p1), .val (.int p2), .val (.int p3), .val (.int p4), .val (.int y1_0), .val (.int n_3), .val (.int n_5), .val (.int c_7), .val (.int c_9), .val (.int c_11), .val (.int c_13), .val (.ref c14_0), .val (.ref c16_0), .val (.int ph_18), .val (.int ph_19), .val (.ref (if ph_18 = (0 : Int32) then w_SET_UP else w_TEAR_DOWN)), .val (.ref (if ph_19 = (0 : Int32) then w_SET_UP else w_TEAR_DOWN)), .val (.ref c36_0), .val (.ref c46_0), .val (if (p2 &&& (8 : Int32)) = (0 : Int32) then (.ref c36_0) else .null), .val (if (p2 &&& (16 : Int32)) = (0 : Int32) then (.ref c46_0) else .null), .val (.ref b50), .val (.ref b54), .val (.int kd_59), .val .null, .unset, .unset] [(.int 1)]))
              refine OwnFin.st (fun _ q => XS.istore Xr57.here hx rfl (hb hby at_309) rfl (l' := #[.val (.int p0), .val (.int p1), .val (.int p2), .val (.int p3), .val (.int p4), .val (.int y1_0), .val (.int n_3), .val (.int n_5), .val (.int c_7), .val (.int c_9), .val (.int c_11), .val (.int c_13), .val (.ref c14_0), .val (.ref c16_0), .val (.int ph_18), .val (.int ph_19), .val (.ref (if ph_18 = (0 : Int32) then w_SET_UP else w_TEAR_DOWN)), .val (.ref (if ph_19 = (0 : Int32) then w_SET_UP else w_TEAR_DOWN)), .val (.ref c36_0), .val (.ref c46_0), .val (if (p2 &&& (8 : Int32)) = (0 : Int32) then (.ref c36_0) else .null), .val (if (p2 &&& (16 : Int32)) = (0 : Int32) then (.ref c46_0) else .null), .val (.ref b50), .val (.ref b54), .val (.int kd_59), .val .null, .val (.int 1), .unset]) rfl q) ?_
              show OwnFin _ _ _ _ (T57.setTop (mkF m 311 _ []))
              refine OwnFin.st (fun _ q => XS.iload Xr57.here hx rfl (hb hby at_311) rfl q) ?_
              show OwnFin _ _ _ _ (T57.setTop (mkF m 313 _ [(.int kd_59)]))
              refine OwnFin.st (fun _ q => XS.ifYes Xr57.here hx rfl (pc0 := 313) (pc' := 332) rfl (hb hby at_313) rfl (Jvm.Free.XT.i0_ne_t hc60) (by decide) (by decide) q) ?_
              show OwnFin _ _ _ _ (T57.setTop (mkF m 332 _ []))
              refine OwnFin.st (fun _ q => XS.iconst Xr57.here hx rfl (hb hby at_332) q) ?_
              show OwnFin _ _ _ _ (T57.setTop (mkF m 333 _ [(.int 0)]))
              refine OwnFin.st (fun _ q => XS.istore Xr57.here hx rfl (hb hby at_333) rfl (l' := #[.val (.int p0), .val (.int p1), .val (.int p2), .val (.int p3), .val (.int p4), .val (.int y1_0), .val (.int n_3), .val (.int n_5), .val (.int c_7), .val (.int c_9), .val (.int c_11), .val (.int c_13), .val (.ref c14_0), .val (.ref c16_0), .val (.int ph_18), .val (.int ph_19), .val (.ref (if ph_18 = (0 : Int32) then w_SET_UP else w_TEAR_DOWN)), .val (.ref (if ph_19 = (0 : Int32) then w_SET_UP else w_TEAR_DOWN)), .val (.ref c36_0), .val (.ref c46_0), .val (if (p2 &&& (8 : Int32)) = (0 : Int32) then (.ref c36_0) else .null), .val (if (p2 &&& (16 : Int32)) = (0 : Int32) then (.ref c46_0) else .null), .val (.ref b50), .val (.ref b54), .val (.int kd_59), .val .null, .val (.int 1), .val (.int 0)]) rfl q) ?_
              show OwnFin _ _ _ _ (T57.setTop (mkF m 335 _ []))
              refine OwnFin.st (fun _ q => XS.aload Xr57.here hx rfl (hb hby at_335) rfl rfl q) ?_
              show OwnFin _ _ _ _ (T57.setTop (mkF m 337 _ [(.ref b50)]))
              refine OwnFin.st (fun _ q => XS.aload Xr57.here hx rfl (hb hby at_337) rfl rfl q) ?_
              show OwnFin _ _ _ _ (T57.setTop (mkF m 339 _ [.null, (.ref b50)]))
              obtain ⟨cq166, kq166, q166a, q166b, q166c⟩ := isOf hZr57 e57 (((A50.keep K52).ext E54).keep K57)
              obtain ⟨_, _, ⟨T166, L166, k166, n166⟩, -, X166, ⟨Lc166, hQ166, l166, y166, z166⟩, st166⟩ := Xr57.virtualBack hx (y := yM17) (z := yM17) hor57 (mvT hZr57 (w_ hw 86 rfl)) (mvT hZr57 (w_ hw 87 rfl)) (notFace_of_selects (args := #[]) (mvT hZr57 (w_ hw 89 rfl))) (mvT hZr57 (w_ hw 89 rfl)) (mvT hZr57 (w_ hw 88 rfl)) (by decide) (backOf (W := 0) (rm_feN l Z av0 hw [] b50 h57 n0 (Nat.le_trans Z0 kp58.1) ) hZr57 (w_ hw 90 rfl) (w_ hw 66 rfl) (by decide) (by decide)) q166a q166c (g := (mkF m 339 #[.val (.int p0), .val (.int p1), .val (.int p2), .val (.int p3), .val (.int p4), .val (.int y1_0), .val (.int n_3), .val (.int n_5), .val (.int c_7), .val (.int c_9), .val (.int c_11), .val (.int c_13), .val (.ref c14_0), .val (.ref c16_0), .val (.int ph_18), .val (.int ph_19), .val (.ref (if ph_18 = (0 : Int32) then w_SET_UP else w_TEAR_DOWN)), .val (.ref (if ph_19 = (0 : Int32) then w_SET_UP else w_TEAR_DOWN)), .val (.ref c36_0), .val (.ref c46_0), .val (if (p2 &&& (8 : Int32)) = (0 : Int32) then (.ref c36_0) else .null), .val (if (p2 &&& (16 : Int32)) = (0 : Int32) then (.ref c46_0) else .null), .val (.ref b50), .val (.ref b54), .val (.int kd_59), .val .null, .val (.int 1), .val (.int 0)] [.null, (.ref b50)])) rfl (by rw [hml]; rfl) (Steps.refl _) (argsL := [.null]) (rest := []) (lenOf pd_10 rfl) rfl (by show 2 * 0 + _ ≤ _; exact Nat.le_of_eq rfl) (hb hby at_339) (fun _ _ => ⟨rfl, e57, (by decide : 36 + 0 ≤ _), (by decide : 188 + 0 ≤ _)⟩)
              dsimp only [Pt.U, Pt.locs, Pt.cells, Pt.slots] at X166 l166 y166 z166 st166 hQ166
              subst l166 y166 z166
              obtain ⟨rfl, N166q, he166⟩ := hQ166
              have N166 := Fr.app N57 N166q
              refine OwnFin.tr st166 ?_
              show OwnFin _ _ _ _ (T166.setTop (mkF m 342 _ [(.int 0)]))
              refine OwnFin.st (fun _ q => XS.iload X166.here hx rfl (hb hby at_342) rfl q) ?_
              show OwnFin _ _ _ _ (T166.setTop (mkF m 344 _ [(.int 0), (.int 0)]))
              refine OwnFin.st (fun _ q => XS.icmpNo X166.here hx rfl (hb hby at_344) rfl (Jvm.Free.XT.ii_ne_f (rfl : (0 : Int32) = (0 : Int32))) q) ?_
              show OwnFin _ _ _ _ (T166.setTop (mkF m 347 _ []))
              refine OwnFin.st (fun _ q => XS.iconst X166.here hx rfl (hb hby at_347) q) ?_
              show OwnFin _ _ _ _ (T166.setTop (mkF m 348 _ [(.int 1)]))
              refine OwnFin.st (fun _ q => XS.goto X166.here hx rfl (pc0 := 348) (pc' := 352) rfl (hb hby at_348) (by decide) (by decide) q) ?_
              show OwnFin _ _ _ _ (T166.setTop (mkF m 352 _ [(.int 1)]))
              obtain ⟨fs, hr, hrun, hended, hEW⟩ := X166.leaveW (s := s) hSr57 (by rw [he166]; exact (Nat.le_trans (Nat.le_refl _) (Nat.le_refl _))) (v := some (.int 1)) (fun h => by rw [Bd.returns] at h; cases h)
              have chE : CHr Z own_EL s.vm s.heap T166.vm T166.heap := by
                rw [hh, he166]
                exact ch58.trans (CHv.at X166 hZr57 (own_EW hw) ch58.1)
              refine ⟨_, _, retN X166 hx (t := .boolean) Bd.returns (by simp) (hb hby at_352) hr, hrun, hended, _, _, rfl, ?_, chE, hEW.1, hEW.2.1, hEW.2.2.1, hEW.2.2.2.mono (by decide) (by decide)⟩
              show Q_rm0 Z p0 p1 p2 p3 p4 w_TEAR_DOWN w_SET_UP w_COMPACT_STRINGS h0 n0 _ T166.heap _
              rw [he166]
              exact ⟨rfl, N166⟩
             ·
              refine OwnFin.st (fun _ q => XS.icmpYes Xr57.here hx rfl (pc0 := 301) (pc' := 308) rfl (hb hby at_301) rfl (Jvm.Free.XT.ii_ne_t hc165) (by decide) (by decide) q) ?_
              show OwnFin _ _ _ _ (T57.setTop (mkF m 308 _ []))
              refine OwnFin.st (fun _ q => XS.iconst Xr57.here hx rfl (hb hby at_308) q) ?_
              show OwnFin _ _ _ _ (T57.setTop (mkF m 309 _ [(.int 0)]))
              refine OwnFin.st (fun _ q => XS.istore Xr57.here hx rfl (hb hby at_309) rfl (l' := #[.val (.int p0), .val (.int p1), .val (.int p2), .val (.int p3), .val (.int p4), .val (.int y1_0), .val (.int n_3), .val (.int n_5), .val (.int c_7), .val (.int c_9), .val (.int c_11), .val (.int c_13), .val (.ref c14_0), .val (.ref c16_0), .val (.int ph_18), .val (.int ph_19), .val (.ref (if ph_18 = (0 : Int32) then w_SET_UP else w_TEAR_DOWN)), .val (.ref (if ph_19 = (0 : Int32) then w_SET_UP else w_TEAR_DOWN)), .val (.ref c36_0), .val (.ref c46_0), .val (if (p2 &&& (8 : Int32)) = (0 : Int32) then (.ref c36_0) else .null), .val (if (p2 &&& (16 : Int32)) = (0 : Int32) then (.ref c46_0) else .null), .val (.ref b50), .val (.ref b54), .val (.int kd_59), .val .null, .val (.int 0), .unset]) rfl q) ?_
              show OwnFin _ _ _ _ (T57.setTop (mkF m 311 #[.val (.int p0), .val (.int p1), .val (.int p2), .val (.int p3), .val (.int p4), .val (.int y1_0), .val (.int n_3), .val (.int n_5), .val (.int c_7), .val (.int c_9), .val (.int c_11), .val (.int c_13), .val (.ref c14_0), .val (.ref c16_0), .val (.int ph_18), .val (.int ph_19), .val (.ref (if ph_18 = (0 : Int32) then w_SET_UP else w_TEAR_DOWN)), .val (.ref (if ph_19 = (0 : Int32) then w_SET_UP else w_TEAR_DOWN)), .val (.ref c36_0), .val (.ref c46_0), .val (if (p2 &&& (8 : Int32)) = (0 : Int32) then (.ref c36_0) else .null), .val (if (p2 &&& (16 : Int32)) = (0 : Int32) then (.ref c46_0) else .null), .val (.ref b50), .val (.ref b54), .val (.int kd_59), .val .null, .val (.int 0), .unset] []))
              refine OwnFin.st (fun _ q => XS.iload Xr57.here hx rfl (hb hby at_311) rfl q) ?_
              show OwnFin _ _ _ _ (T57.setTop (mkF m 313 _ [(.int kd_59)]))
              refine OwnFin.st (fun _ q => XS.ifYes Xr57.here hx rfl (pc0 := 313) (pc' := 332) rfl (hb hby at_313) rfl (Jvm.Free.XT.i0_ne_t hc60) (by decide) (by decide) q) ?_
              show OwnFin _ _ _ _ (T57.setTop (mkF m 332 _ []))
              refine OwnFin.st (fun _ q => XS.iconst Xr57.here hx rfl (hb hby at_332) q) ?_
              show OwnFin _ _ _ _ (T57.setTop (mkF m 333 _ [(.int 0)]))
              refine OwnFin.st (fun _ q => XS.istore Xr57.here hx rfl (hb hby at_333) rfl (l' := #[.val (.int p0), .val (.int p1), .val (.int p2), .val (.int p3), .val (.int p4), .val (.int y1_0), .val (.int n_3), .val (.int n_5), .val (.int c_7), .val (.int c_9), .val (.int c_11), .val (.int c_13), .val (.ref c14_0), .val (.ref c16_0), .val (.int ph_18), .val (.int ph_19), .val (.ref (if ph_18 = (0 : Int32) then w_SET_UP else w_TEAR_DOWN)), .val (.ref (if ph_19 = (0 : Int32) then w_SET_UP else w_TEAR_DOWN)), .val (.ref c36_0), .val (.ref c46_0), .val (if (p2 &&& (8 : Int32)) = (0 : Int32) then (.ref c36_0) else .null), .val (if (p2 &&& (16 : Int32)) = (0 : Int32) then (.ref c46_0) else .null), .val (.ref b50), .val (.ref b54), .val (.int kd_59), .val .null, .val (.int 0), .val (.int 0)]) rfl q) ?_
              show OwnFin _ _ _ _ (T57.setTop (mkF m 335 _ []))
              refine OwnFin.st (fun _ q => XS.aload Xr57.here hx rfl (hb hby at_335) rfl rfl q) ?_
              show OwnFin _ _ _ _ (T57.setTop (mkF m 337 _ [(.ref b50)]))
              refine OwnFin.st (fun _ q => XS.aload Xr57.here hx rfl (hb hby at_337) rfl rfl q) ?_
              show OwnFin _ _ _ _ (T57.setTop (mkF m 339 _ [.null, (.ref b50)]))
              obtain ⟨cq167, kq167, q167a, q167b, q167c⟩ := isOf hZr57 e57 (((A50.keep K52).ext E54).keep K57)
              obtain ⟨_, _, ⟨T167, L167, k167, n167⟩, -, X167, ⟨Lc167, hQ167, l167, y167, z167⟩, st167⟩ := Xr57.virtualBack hx (y := yM17) (z := yM17) hor57 (mvT hZr57 (w_ hw 86 rfl)) (mvT hZr57 (w_ hw 87 rfl)) (notFace_of_selects (args := #[]) (mvT hZr57 (w_ hw 89 rfl))) (mvT hZr57 (w_ hw 89 rfl)) (mvT hZr57 (w_ hw 88 rfl)) (by decide) (backOf (W := 0) (rm_feN l Z av0 hw [] b50 h57 n0 (Nat.le_trans Z0 kp58.1) ) hZr57 (w_ hw 90 rfl) (w_ hw 66 rfl) (by decide) (by decide)) q167a q167c (g := (mkF m 339 #[.val (.int p0), .val (.int p1), .val (.int p2), .val (.int p3), .val (.int p4), .val (.int y1_0), .val (.int n_3), .val (.int n_5), .val (.int c_7), .val (.int c_9), .val (.int c_11), .val (.int c_13), .val (.ref c14_0), .val (.ref c16_0), .val (.int ph_18), .val (.int ph_19), .val (.ref (if ph_18 = (0 : Int32) then w_SET_UP else w_TEAR_DOWN)), .val (.ref (if ph_19 = (0 : Int32) then w_SET_UP else w_TEAR_DOWN)), .val (.ref c36_0), .val (.ref c46_0), .val (if (p2 &&& (8 : Int32)) = (0 : Int32) then (.ref c36_0) else .null), .val (if (p2 &&& (16 : Int32)) = (0 : Int32) then (.ref c46_0) else .null), .val (.ref b50), .val (.ref b54), .val (.int kd_59), .val .null, .val (.int 0), .val (.int 0)] [.null, (.ref b50)])) rfl (by rw [hml]; rfl) (Steps.refl _) (argsL := [.null]) (rest := []) (lenOf pd_10 rfl) rfl (by show 2 * 0 + _ ≤ _; exact Nat.le_of_eq rfl) (hb hby at_339) (fun _ _ => ⟨rfl, e57, (by decide : 36 + 0 ≤ _), (by decide : 188 + 0 ≤ _)⟩)
              dsimp only [Pt.U, Pt.locs, Pt.cells, Pt.slots] at X167 l167 y167 z167 st167 hQ167
              subst l167 y167 z167
              obtain ⟨rfl, N167q, he167⟩ := hQ167
              have N167 := Fr.app N57 N167q
              refine OwnFin.tr st167 ?_
              show OwnFin _ _ _ _ (T167.setTop (mkF m 342 _ [(.int 0)]))
              refine OwnFin.st (fun _ q => XS.iload X167.here hx rfl (hb hby at_342) rfl q) ?_
              show OwnFin _ _ _ _ (T167.setTop (mkF m 344 _ [(.int 0), (.int 0)]))
              refine OwnFin.st (fun _ q => XS.icmpNo X167.here hx rfl (hb hby at_344) rfl (Jvm.Free.XT.ii_ne_f (rfl : (0 : Int32) = (0 : Int32))) q) ?_
              show OwnFin _ _ _ _ (T167.setTop (mkF m 347 _ []))
              refine OwnFin.st (fun _ q => XS.iconst X167.here hx rfl (hb hby at_347) q) ?_
              show OwnFin _ _ _ _ (T167.setTop (mkF m 348 _ [(.int 1)]))
              refine OwnFin.st (fun _ q => XS.goto X167.here hx rfl (pc0 := 348) (pc' := 352) rfl (hb hby at_348) (by decide) (by decide) q) ?_
              show OwnFin _ _ _ _ (T167.setTop (mkF m 352 _ [(.int 1)]))
              obtain ⟨fs, hr, hrun, hended, hEW⟩ := X167.leaveW (s := s) hSr57 (by rw [he167]; exact (Nat.le_trans (Nat.le_refl _) (Nat.le_refl _))) (v := some (.int 1)) (fun h => by rw [Bd.returns] at h; cases h)
              have chE : CHr Z own_EL s.vm s.heap T167.vm T167.heap := by
                rw [hh, he167]
                exact ch58.trans (CHv.at X167 hZr57 (own_EW hw) ch58.1)
              refine ⟨_, _, retN X167 hx (t := .boolean) Bd.returns (by simp) (hb hby at_352) hr, hrun, hended, _, _, rfl, ?_, chE, hEW.1, hEW.2.1, hEW.2.2.1, hEW.2.2.2.mono (by decide) (by decide)⟩
              show Q_rm0 Z p0 p1 p2 p3 p4 w_TEAR_DOWN w_SET_UP w_COMPACT_STRINGS h0 n0 _ T167.heap _
              rw [he167]
              exact ⟨rfl, N167⟩
           ·
            refine OwnFin.st (fun _ q => XS.icmpYes Xr57.here hx rfl (pc0 := 288) (pc' := 308) rfl (hb hby at_288) rfl (Jvm.Free.XT.ii_ne_t hc162) (by decide) (by decide) q) ?_
            show OwnFin _ _ _ _ (T57.setTop (mkF m 308 _ []))
            refine OwnFin.st (fun _ q => XS.iconst Xr57.here hx rfl (hb hby at_308) q) ?_
            show OwnFin _ _ _ _ (T57.setTop (mkF m 309 _ [(.int 0)]))
            refine OwnFin.st (fun _ q => XS.istore Xr57.here hx rfl (hb hby at_309) rfl (l' := #[.val (.int p0), .val (.int p1), .val (.int p2), .val (.int p3), .val (.int p4), .val (.int y1_0), .val (.int n_3), .val (.int n_5), .val (.int c_7), .val (.int c_9), .val (.int c_11), .val (.int c_13), .val (.ref c14_0), .val (.ref c16_0), .val (.int ph_18), .val (.int ph_19), .val (.ref (if ph_18 = (0 : Int32) then w_SET_UP else w_TEAR_DOWN)), .val (.ref (if ph_19 = (0 : Int32) then w_SET_UP else w_TEAR_DOWN)), .val (.ref c36_0), .val (.ref c46_0), .val (if (p2 &&& (8 : Int32)) = (0 : Int32) then (.ref c36_0) else .null), .val (if (p2 &&& (16 : Int32)) = (0 : Int32) then (.ref c46_0) else .null), .val (.ref b50), .val (.ref b54), .val (.int kd_59), .val .null, .val (.int 0), .unset]) rfl q) ?_
            show OwnFin _ _ _ _ (T57.setTop (mkF m 311 _ []))
            refine OwnFin.st (fun _ q => XS.iload Xr57.here hx rfl (hb hby at_311) rfl q) ?_
            show OwnFin _ _ _ _ (T57.setTop (mkF m 313 _ [(.int kd_59)]))
            refine OwnFin.st (fun _ q => XS.ifYes Xr57.here hx rfl (pc0 := 313) (pc' := 332) rfl (hb hby at_313) rfl (Jvm.Free.XT.i0_ne_t hc60) (by decide) (by decide) q) ?_
            show OwnFin _ _ _ _ (T57.setTop (mkF m 332 _ []))
            refine OwnFin.st (fun _ q => XS.iconst Xr57.here hx rfl (hb hby at_332) q) ?_
            show OwnFin _ _ _ _ (T57.setTop (mkF m 333 _ [(.int 0)]))
            refine OwnFin.st (fun _ q => XS.istore Xr57.here hx rfl (hb hby at_333) rfl (l' := #[.val (.int p0), .val (.int p1), .val (.int p2), .val (.int p3), .val (.int p4), .val (.int y1_0), .val (.int n_3), .val (.int n_5), .val (.int c_7), .val (.int c_9), .val (.int c_11), .val (.int c_13), .val (.ref c14_0), .val (.ref c16_0), .val (.int ph_18), .val (.int ph_19), .val (.ref (if ph_18 = (0 : Int32) then w_SET_UP else w_TEAR_DOWN)), .val (.ref (if ph_19 = (0 : Int32) then w_SET_UP else w_TEAR_DOWN)), .val (.ref c36_0), .val (.ref c46_0), .val (if (p2 &&& (8 : Int32)) = (0 : Int32) then (.ref c36_0) else .null), .val (if (p2 &&& (16 : Int32)) = (0 : Int32) then (.ref c46_0) else .null), .val (.ref b50), .val (.ref b54), .val (.int kd_59), .val .null, .val (.int 0), .val (.int 0)]) rfl q) ?_
            show OwnFin _ _ _ _ (T57.setTop (mkF m 335 _ []))
            refine OwnFin.st (fun _ q => XS.aload Xr57.here hx rfl (hb hby at_335) rfl rfl q) ?_
            show OwnFin _ _ _ _ (T57.setTop (mkF m 337 _ [(.ref b50)]))
            refine OwnFin.st (fun _ q => XS.aload Xr57.here hx rfl (hb hby at_337) rfl rfl q) ?_
            show OwnFin _ _ _ _ (T57.setTop (mkF m 339 #[.val (.int p0), .val (.int p1), .val (.int p2), .val (.int p3), .val (.int p4), .val (.int y1_0), .val (.int n_3), .val (.int n_5), .val (.int c_7), .val (.int c_9), .val (.int c_11), .val (.int c_13), .val (.ref c14_0), .val (.ref c16_0), .val (.int ph_18), .val (.int ph_19), .val (.ref (if ph_18 = (0 : Int32) then w_SET_UP else w_TEAR_DOWN)), .val (.ref (if ph_19 = (0 : Int32) then w_SET_UP else w_TEAR_DOWN)), .val (.ref c36_0), .val (.ref c46_0), .val (if (p2 &&& (8 : Int32)) = (0 : Int32) then (.ref c36_0) else .null), .val (if (p2 &&& (16 : Int32)) = (0 : Int32) then (.ref c46_0) else .null), .val (.ref b50), .val (.ref b54), .val (.int kd_59), .val .null, .val (.int 0), .val (.int 0)] [.null, (.ref b50)]))
            obtain ⟨cq168, kq168, q168a, q168b, q168c⟩ := isOf hZr57 e57 (((A50.keep K52).ext E54).keep K57)
            obtain ⟨_, _, ⟨T168, L168, k168, n168⟩, -, X168, ⟨Lc168, hQ168, l168, y168, z168⟩, st168⟩ := Xr57.virtualBack hx (y := yM17) (z := yM17) hor57 (mvT hZr57 (w_ hw 86 rfl)) (mvT hZr57 (w_ hw 87 rfl)) (notFace_of_selects (args := #[]) (mvT hZr57 (w_ hw 89 rfl))) (mvT hZr57 (w_ hw 89 rfl)) (mvT hZr57 (w_ hw 88 rfl)) (by decide) (backOf (W := 0) (rm_feN l Z av0 hw [] b50 h57 n0 (Nat.le_trans Z0 kp58.1) ) hZr57 (w_ hw 90 rfl) (w_ hw 66 rfl) (by decide) (by decide)) q168a q168c (g := (mkF m 339 #[.val (.int p0), .val (.int p1), .val (.int p2), .val (.int p3), .val (.int p4), .val (.int y1_0), .val (.int n_3), .val (.int n_5), .val (.int c_7), .val (.int c_9), .val (.int c_11), .val (.int c_13), .val (.ref c14_0), .val (.ref c16_0), .val (.int ph_18), .val (.int ph_19), .val (.ref (if ph_18 = (0 : Int32) then w_SET_UP else w_TEAR_DOWN)), .val (.ref (if ph_19 = (0 : Int32) then w_SET_UP else w_TEAR_DOWN)), .val (.ref c36_0), .val (.ref c46_0), .val (if (p2 &&& (8 : Int32)) = (0 : Int32) then (.ref c36_0) else .null), .val (if (p2 &&& (16 : Int32)) = (0 : Int32) then (.ref c46_0) else .null), .val (.ref b50), .val (.ref b54), .val (.int kd_59), .val .null, .val (.int 0), .val (.int 0)] [.null, (.ref b50)])) rfl (by rw [hml]; rfl) (Steps.refl _) (argsL := [.null]) (rest := []) (lenOf pd_10 rfl) rfl (by show 2 * 0 + _ ≤ _; exact Nat.le_of_eq rfl) (hb hby at_339) (fun _ _ => ⟨rfl, e57, (by decide : 36 + 0 ≤ _), (by decide : 188 + 0 ≤ _)⟩)
            dsimp only [Pt.U, Pt.locs, Pt.cells, Pt.slots] at X168 l168 y168 z168 st168 hQ168
            subst l168 y168 z168
            obtain ⟨rfl, N168q, he168⟩ := hQ168
            have N168 := Fr.app N57 N168q
            refine OwnFin.tr st168 ?_
            show OwnFin _ _ _ _ (T168.setTop (mkF m 342 _ [(.int 0)]))
            refine OwnFin.st (fun _ q => XS.iload X168.here hx rfl (hb hby at_342) rfl q) ?_
            show OwnFin _ _ _ _ (T168.setTop (mkF m 344 _ [(.int 0), (.int 0)]))
            refine OwnFin.st (fun _ q => XS.icmpNo X168.here hx rfl (hb hby at_344) rfl (Jvm.Free.XT.ii_ne_f (rfl : (0 : Int32) = (0 : Int32))) q) ?_
            show OwnFin _ _ _ _ (T168.setTop (mkF m 347 _ []))
            refine OwnFin.st (fun _ q => XS.iconst X168.here hx rfl (hb hby at_347) q) ?_
            show OwnFin _ _ _ _ (T168.setTop (mkF m 348 _ [(.int 1)]))
            refine OwnFin.st (fun _ q => XS.goto X168.here hx rfl (pc0 := 348) (pc' := 352) rfl (hb hby at_348) (by decide) (by decide) q) ?_
            show OwnFin _ _ _ _ (T168.setTop (mkF m 352 _ [(.int 1)]))
            obtain ⟨fs, hr, hrun, hended, hEW⟩ := X168.leaveW (s := s) hSr57 (by rw [he168]; exact (Nat.le_trans (Nat.le_refl _) (Nat.le_refl _))) (v := some (.int 1)) (fun h => by rw [Bd.returns] at h; cases h)
            have chE : CHr Z own_EL s.vm s.heap T168.vm T168.heap := by
              rw [hh, he168]
              exact ch58.trans (CHv.at X168 hZr57 (own_EW hw) ch58.1)
            refine ⟨_, _, retN X168 hx (t := .boolean) Bd.returns (by simp) (hb hby at_352) hr, hrun, hended, _, _, rfl, ?_, chE, hEW.1, hEW.2.1, hEW.2.2.1, hEW.2.2.2.mono (by decide) (by decide)⟩
            show Q_rm0 Z p0 p1 p2 p3 p4 w_TEAR_DOWN w_SET_UP w_COMPACT_STRINGS h0 n0 _ T168.heap _
            rw [he168]
            exact ⟨rfl, N168⟩
         ·
          refine OwnFin.st (fun _ q => XS.icmpYes Xr57.here hx rfl (pc0 := 275) (pc' := 308) rfl (hb hby at_275) rfl (Jvm.Free.XT.ii_ne_t hc158) (by decide) (by decide) q) ?_
          show OwnFin _ _ _ _ (T57.setTop (mkF m 308 _ []))
          refine OwnFin.st (fun _ q => XS.iconst Xr57.here hx rfl (hb hby at_308) q) ?_
          show OwnFin _ _ _ _ (T57.setTop (mkF m 309 #[.val (.int p0), .val (.int p1), .val (.int p2), .val (.int p3), .val (.int p4), .val (.int y1_0), .val (.int n_3), .val (.int n_5), .val (.int c_7), .val (.int c_9), .val (.int c_11), .val (.int c_13), .val (.ref c14_0), .val (.ref c16_0), .val (.int ph_18), .val (.int ph_19), .val (.ref (if ph_18 = (0 : Int32) then w_SET_UP else w_TEAR_DOWN)), .val (.ref (if ph_19 = (0 : Int32) then w_SET_UP else w_TEAR_DOWN)), .val (.ref c36_0), .val (.ref c46_0), .val (if (p2 &&& (8 : Int32)) = (0 : Int32) then (.ref c36_0) else .null), .val (if (p2 &&& (16 : Int32)) = (0 : Int32) then (.ref c46_0) else .null), .val (.ref b50), .val (.ref b54), .val (.int kd_59), .val .null, .unset, .unset] [(.int 0)]))
          refine OwnFin.st (fun _ q => XS.istore Xr57.here hx rfl (hb hby at_309) rfl (l' := #[.val (.int p0), .val (.int p1), .val (.int p2), .val (.int p3), .val (.int p4), .val (.int y1_0), .val (.int n_3), .val (.int n_5), .val (.int c_7), .val (.int c_9), .val (.int c_11), .val (.int c_13), .val (.ref c14_0), .val (.ref c16_0), .val (.int ph_18), .val (.int ph_19), .val (.ref (if ph_18 = (0 : Int32) then w_SET_UP else w_TEAR_DOWN)), .val (.ref (if ph_19 = (0 : Int32) then w_SET_UP else w_TEAR_DOWN)), .val (.ref c36_0), .val (.ref c46_0), .val (if (p2 &&& (8 : Int32)) = (0 : Int32) then (.ref c36_0) else .null), .val (if (p2 &&& (16 : Int32)) = (0 : Int32) then (.ref c46_0) else .null), .val (.ref b50), .val (.ref b54), .val (.int kd_59), .val .null, .val (.int 0), .unset]) rfl q) ?_
          show OwnFin _ _ _ _ (T57.setTop (mkF m 311 _ []))
          refine OwnFin.st (fun _ q => XS.iload Xr57.here hx rfl (hb hby at_311) rfl q) ?_
          show OwnFin _ _ _ _ (T57.setTop (mkF m 313 _ [(.int kd_59)]))
          refine OwnFin.st (fun _ q => XS.ifYes Xr57.here hx rfl (pc0 := 313) (pc' := 332) rfl (hb hby at_313) rfl (Jvm.Free.XT.i0_ne_t hc60) (by decide) (by decide) q) ?_
          show OwnFin _ _ _ _ (T57.setTop (mkF m 332 _ []))
          refine OwnFin.st (fun _ q => XS.iconst Xr57.here hx rfl (hb hby at_332) q) ?_
          show OwnFin _ _ _ _ (T57.setTop (mkF m 333 _ [(.int 0)]))
          refine OwnFin.st (fun _ q => XS.istore Xr57.here hx rfl (hb hby at_333) rfl (l' := #[.val (.int p0), .val (.int p1), .val (.int p2), .val (.int p3), .val (.int p4), .val (.int y1_0), .val (.int n_3), .val (.int n_5), .val (.int c_7), .val (.int c_9), .val (.int c_11), .val (.int c_13), .val (.ref c14_0), .val (.ref c16_0), .val (.int ph_18), .val (.int ph_19), .val (.ref (if ph_18 = (0 : Int32) then w_SET_UP else w_TEAR_DOWN)), .val (.ref (if ph_19 = (0 : Int32) then w_SET_UP else w_TEAR_DOWN)), .val (.ref c36_0), .val (.ref c46_0), .val (if (p2 &&& (8 : Int32)) = (0 : Int32) then (.ref c36_0) else .null), .val (if (p2 &&& (16 : Int32)) = (0 : Int32) then (.ref c46_0) else .null), .val (.ref b50), .val (.ref b54), .val (.int kd_59), .val .null, .val (.int 0), .val (.int 0)]) rfl q) ?_
          show OwnFin _ _ _ _ (T57.setTop (mkF m 335 _ []))
          refine OwnFin.st (fun _ q => XS.aload Xr57.here hx rfl (hb hby at_335) rfl rfl q) ?_
          show OwnFin _ _ _ _ (T57.setTop (mkF m 337 _ [(.ref b50)]))
          refine OwnFin.st (fun _ q => XS.aload Xr57.here hx rfl (hb hby at_337) rfl rfl q) ?_
          show OwnFin _ _ _ _ (T57.setTop (mkF m 339 _ [.null, (.ref b50)]))
          obtain ⟨cq169, kq169, q169a, q169b, q169c⟩ := isOf hZr57 e57 (((A50.keep K52).ext E54).keep K57)
          obtain ⟨_, _, ⟨T169, L169, k169, n169⟩, -, X169, ⟨Lc169, hQ169, l169, y169, z169⟩, st169⟩ := Xr57.virtualBack hx (y := yM17) (z := yM17) hor57 (mvT hZr57 (w_ hw 86 rfl)) (mvT hZr57 (w_ hw 87 rfl)) (notFace_of_selects (args := #[]) (mvT hZr57 (w_ hw 89 rfl))) (mvT hZr57 (w_ hw 89 rfl)) (mvT hZr57 (w_ hw 88 rfl)) (by decide) (backOf (W := 0) (rm_feN l Z av0 hw [] b50 h57 n0 (Nat.le_trans Z0 kp58.1) ) hZr57 (w_ hw 90 rfl) (w_ hw 66 rfl) (by decide) (by decide)) q169a q169c (g := (mkF m 339 #[.val (.int p0), .val (.int p1), .val (.int p2), .val (.int p3), .val (.int p4), .val (.int y1_0), .val (.int n_3), .val (.int n_5), .val (.int c_7), .val (.int c_9), .val (.int c_11), .val (.int c_13), .val (.ref c14_0), .val (.ref c16_0), .val (.int ph_18), .val (.int ph_19), .val (.ref (if ph_18 = (0 : Int32) then w_SET_UP else w_TEAR_DOWN)), .val (.ref (if ph_19 = (0 : Int32) then w_SET_UP else w_TEAR_DOWN)), .val (.ref c36_0), .val (.ref c46_0), .val (if (p2 &&& (8 : Int32)) = (0 : Int32) then (.ref c36_0) else .null), .val (if (p2 &&& (16 : Int32)) = (0 : Int32) then (.ref c46_0) else .null), .val (.ref b50), .val (.ref b54), .val (.int kd_59), .val .null, .val (.int 0), .val (.int 0)] [.null, (.ref b50)])) rfl (by rw [hml]; rfl) (Steps.refl _) (argsL := [.null]) (rest := []) (lenOf pd_10 rfl) rfl (by show 2 * 0 + _ ≤ _; exact Nat.le_of_eq rfl) (hb hby at_339) (fun _ _ => ⟨rfl, e57, (by decide : 36 + 0 ≤ _), (by decide : 188 + 0 ≤ _)⟩)
          dsimp only [Pt.U, Pt.locs, Pt.cells, Pt.slots] at X169 l169 y169 z169 st169 hQ169
          subst l169 y169 z169
          obtain ⟨rfl, N169q, he169⟩ := hQ169
          have N169 := Fr.app N57 N169q
          refine OwnFin.tr st169 ?_
          show OwnFin _ _ _ _ (T169.setTop (mkF m 342 _ [(.int 0)]))
          refine OwnFin.st (fun _ q => XS.iload X169.here hx rfl (hb hby at_342) rfl q) ?_
          show OwnFin _ _ _ _ (T169.setTop (mkF m 344 _ [(.int 0), (.int 0)]))
          refine OwnFin.st (fun _ q => XS.icmpNo X169.here hx rfl (hb hby at_344) rfl (Jvm.Free.XT.ii_ne_f (rfl : (0 : Int32) = (0 : Int32))) q) ?_
          show OwnFin _ _ _ _ (T169.setTop (mkF m 347 _ []))
          refine OwnFin.st (fun _ q => XS.iconst X169.here hx rfl (hb hby at_347) q) ?_
          show OwnFin _ _ _ _ (T169.setTop (mkF m 348 _ [(.int 1)]))
          refine OwnFin.st (fun _ q => XS.goto X169.here hx rfl (pc0 := 348) (pc' := 352) rfl (hb hby at_348) (by decide) (by decide) q) ?_
          show OwnFin _ _ _ _ (T169.setTop (mkF m 352 _ [(.int 1)]))
          obtain ⟨fs, hr, hrun, hended, hEW⟩ := X169.leaveW (s := s) hSr57 (by rw [he169]; exact (Nat.le_trans (Nat.le_refl _) (Nat.le_refl _))) (v := some (.int 1)) (fun h => by rw [Bd.returns] at h; cases h)
          have chE : CHr Z own_EL s.vm s.heap T169.vm T169.heap := by
            rw [hh, he169]
            exact ch58.trans (CHv.at X169 hZr57 (own_EW hw) ch58.1)
          refine ⟨_, _, retN X169 hx (t := .boolean) Bd.returns (by simp) (hb hby at_352) hr, hrun, hended, _, _, rfl, ?_, chE, hEW.1, hEW.2.1, hEW.2.2.1, hEW.2.2.2.mono (by decide) (by decide)⟩
          show Q_rm0 Z p0 p1 p2 p3 p4 w_TEAR_DOWN w_SET_UP w_COMPACT_STRINGS h0 n0 _ T169.heap _
          rw [he169]
          exact ⟨rfl, N169⟩
        ·
         refine OwnFin.st (fun _ q => XS.icmpYes Xr57.here hx rfl (pc0 := 245) (pc' := 254) rfl (hb hby at_245) rfl (Jvm.Free.XT.ii_ne_t hc157) (by decide) (by decide) q) ?_
         show OwnFin _ _ _ _ (T57.setTop (mkF m 254 _ []))
         refine OwnFin.st (fun _ q => XS.iload Xr57.here hx rfl (hb hby at_254) rfl q) ?_
         show OwnFin _ _ _ _ (T57.setTop (mkF m 256 _ [(.int kd_59)]))
         refine OwnFin.st (fun _ q => XS.iconst Xr57.here hx rfl (hb hby at_256) q) ?_
         show OwnFin _ _ _ _ (T57.setTop (mkF m 257 _ [(.int 2), (.int kd_59)]))
         by_cases hc170 : kd_59 = (2 : Int32)
         ·
          refine OwnFin.st (fun _ q => XS.icmpNo Xr57.here hx rfl (hb hby at_257) rfl (Jvm.Free.XT.ii_ne_f hc170) q) ?_
          show OwnFin _ _ _ _ (T57.setTop (mkF m 260 _ []))
          refine OwnFin.st (fun _ q => XS.aload Xr57.here hx rfl (hb hby at_260) rfl rfl q) ?_
          show OwnFin _ _ _ _ (T57.setTop (mkF m 262 _ [(.ref c14_0)]))
          refine OwnFin.st (fun _ q => XS.astore Xr57.here hx rfl (hb hby at_262) rfl rfl (l' := #[.val (.int p0), .val (.int p1), .val (.int p2), .val (.int p3), .val (.int p4), .val (.int y1_0), .val (.int n_3), .val (.int n_5), .val (.int c_7), .val (.int c_9), .val (.int c_11), .val (.int c_13), .val (.ref c14_0), .val (.ref c16_0), .val (.int ph_18), .val (.int ph_19), .val (.ref (if ph_18 = (0 : Int32) then w_SET_UP else w_TEAR_DOWN)), .val (.ref (if ph_19 = (0 : Int32) then w_SET_UP else w_TEAR_DOWN)), .val (.ref c36_0), .val (.ref c46_0), .val (if (p2 &&& (8 : Int32)) = (0 : Int32) then (.ref c36_0) else .null), .val (if (p2 &&& (16 : Int32)) = (0 : Int32) then (.ref c46_0) else .null), .val (.ref b50), .val (.ref b54), .val (.int kd_59), .val (.ref c14_0), .unset, .unset]) rfl q) ?_
          show OwnFin _ _ _ _ (T57.setTop (mkF m 264 _ []))
          refine OwnFin.st (fun _ q => XS.goto Xr57.here hx rfl (pc0 := 264) (pc' := 271) rfl (hb hby at_264) (by decide) (by decide) q) ?_
          show OwnFin _ _ _ _ (T57.setTop (mkF m 271 _ []))
          refine OwnFin.st (fun _ q => XS.iload Xr57.here hx rfl (hb hby at_271) rfl q) ?_
          show OwnFin _ _ _ _ (T57.setTop (mkF m 273 #[.val (.int p0), .val (.int p1), .val (.int p2), .val (.int p3), .val (.int p4), .val (.int y1_0), .val (.int n_3), .val (.int n_5), .val (.int c_7), .val (.int c_9), .val (.int c_11), .val (.int c_13), .val (.ref c14_0), .val (.ref c16_0), .val (.int ph_18), .val (.int ph_19), .val (.ref (if ph_18 = (0 : Int32) then w_SET_UP else w_TEAR_DOWN)), .val (.ref (if ph_19 = (0 : Int32) then w_SET_UP else w_TEAR_DOWN)), .val (.ref c36_0), .val (.ref c46_0), .val (if (p2 &&& (8 : Int32)) = (0 : Int32) then (.ref c36_0) else .null), .val (if (p2 &&& (16 : Int32)) = (0 : Int32) then (.ref c46_0) else .null), .val (.ref b50), .val (.ref b54), .val (.int kd_59), .val (.ref c14_0), .unset, .unset] [(.int n_3)]))
          refine OwnFin.st (fun _ q => XS.iload Xr57.here hx rfl (hb hby at_273) rfl q) ?_
          show OwnFin _ _ _ _ (T57.setTop (mkF m 275 _ [(.int n_5), (.int n_3)]))
          by_cases hc171 : n_3 = n_5
          ·
           refine OwnFin.st (fun _ q => XS.icmpNo Xr57.here hx rfl (hb hby at_275) rfl (Jvm.Free.XT.ii_ne_f hc171) q) ?_
           show OwnFin _ _ _ _ (T57.setTop (mkF m 278 _ []))
           refine OwnFin.st (fun _ q => XS.iload Xr57.here hx rfl (hb hby at_278) rfl q) ?_
           show OwnFin _ _ _ _ (T57.setTop (mkF m 280 _ [(.int n_3)]))
           refine OwnFin.st (fun _ q => XS.iconst Xr57.here hx rfl (hb hby at_280) q) ?_
           show OwnFin _ _ _ _ (T57.setTop (mkF m 281 _ [(.int 1), (.int n_3)]))
           by_cases hc172 : n_3 < (1 : Int32)
           ·
            refine OwnFin.st (fun _ q => XS.icmpYes Xr57.here hx rfl (pc0 := 281) (pc' := 291) rfl (hb hby at_281) rfl (Jvm.Free.XT.ii_lt_t hc172) (by decide) (by decide) q) ?_
            show OwnFin _ _ _ _ (T57.setTop (mkF m 291 _ []))
            refine OwnFin.st (fun _ q => XS.iload Xr57.here hx rfl (hb hby at_291) rfl q) ?_
            show OwnFin _ _ _ _ (T57.setTop (mkF m 293 _ [(.int n_3)]))
            refine OwnFin.st (fun _ q => XS.iconst Xr57.here hx rfl (hb hby at_293) q) ?_
            show OwnFin _ _ _ _ (T57.setTop (mkF m 294 _ [(.int 2), (.int n_3)]))
            have hd173 : n_3 < (2 : Int32) := (om_rm0_26 n_3 n_5 hbn_3_0 hbn_3_1 hbn_5_0 hbn_5_1 hc171 hc172)
            refine OwnFin.st (fun _ q => XS.icmpYes Xr57.here hx rfl (pc0 := 294) (pc' := 304) rfl (hb hby at_294) rfl (Jvm.Free.XT.ii_lt_t hd173) (by decide) (by decide) q) ?_
            show OwnFin _ _ _ _ (T57.setTop (mkF m 304 _ []))
            refine OwnFin.st (fun _ q => XS.iconst Xr57.here hx rfl (hb hby at_304) q) ?_
            show OwnFin _ _ _ _ (T57.setTop (mkF m 305 _ [(.int 1)]))
            refine OwnFin.st (fun _ q => XS.goto Xr57.here hx rfl (pc0 := 305) (pc' := 309) rfl (hb hby at_305) (by decide) (by decide) q) ?_
            show OwnFin _ _ _ _ (T57.setTop (mkF m 309 _ [(.int 1)]))
            refine OwnFin.st (fun _ q => XS.istore Xr57.here hx rfl (hb hby at_309) rfl (l' := #[.val (.int p0), .val (.int p1), .val (.int p2), .val (.int p3), .val (.int p4), .val (.int y1_0), .val (.int n_3), .val (.int n_5), .val (.int c_7), .val (.int c_9), .val (.int c_11), .val (.int c_13), .val (.ref c14_0), .val (.ref c16_0), .val (.int ph_18), .val (.int ph_19), .val (.ref (if ph_18 = (0 : Int32) then w_SET_UP else w_TEAR_DOWN)), .val (.ref (if ph_19 = (0 : Int32) then w_SET_UP else w_TEAR_DOWN)), .val (.ref c36_0), .val (.ref c46_0), .val (if (p2 &&& (8 : Int32)) = (0 : Int32) then (.ref c36_0) else .null), .val (if (p2 &&& (16 : Int32)) = (0 : Int32) then (.ref c46_0) else .null), .val (.ref b50), .val (.ref b54), .val (.int kd_59), .val (.ref c14_0), .val (.int 1), .unset]) rfl q) ?_
            show OwnFin _ _ _ _ (T57.setTop (mkF m 311 _ []))
            refine OwnFin.st (fun _ q => XS.iload Xr57.here hx rfl (hb hby at_311) rfl q) ?_
            show OwnFin _ _ _ _ (T57.setTop (mkF m 313 _ [(.int kd_59)]))
            refine OwnFin.st (fun _ q => XS.ifYes Xr57.here hx rfl (pc0 := 313) (pc' := 332) rfl (hb hby at_313) rfl (Jvm.Free.XT.i0_ne_t hc60) (by decide) (by decide) q) ?_
            show OwnFin _ _ _ _ (T57.setTop (mkF m 332 #[.val (.int p0), .val (.int p1), .val (.int p2), .val (.int p3), .val (.int p4), .val (.int y1_0), .val (.int n_3), .val (.int n_5), .val (.int c_7), .val (.int c_9), .val (.int c_11), .val (.int c_13), .val (.ref c14_0), .val (.ref c16_0), .val (.int ph_18), .val (.int ph_19), .val (.ref (if ph_18 = (0 : Int32) then w_SET_UP else w_TEAR_DOWN)), .val (.ref (if ph_19 = (0 : Int32) then w_SET_UP else w_TEAR_DOWN)), .val (.ref c36_0), .val (.ref c46_0), .val (if (p2 &&& (8 : Int32)) = (0 : Int32) then (.ref c36_0) else .null), .val (if (p2 &&& (16 : Int32)) = (0 : Int32) then (.ref c46_0) else .null), .val (.ref b50), .val (.ref b54), .val (.int kd_59), .val (.ref c14_0), .val (.int 1), .unset] []))
            refine OwnFin.st (fun _ q => XS.iconst Xr57.here hx rfl (hb hby at_332) q) ?_
            show OwnFin _ _ _ _ (T57.setTop (mkF m 333 _ [(.int 0)]))
            refine OwnFin.st (fun _ q => XS.istore Xr57.here hx rfl (hb hby at_333) rfl (l' := #[.val (.int p0), .val (.int p1), .val (.int p2), .val (.int p3), .val (.int p4), .val (.int y1_0), .val (.int n_3), .val (.int n_5), .val (.int c_7), .val (.int c_9), .val (.int c_11), .val (.int c_13), .val (.ref c14_0), .val (.ref c16_0), .val (.int ph_18), .val (.int ph_19), .val (.ref (if ph_18 = (0 : Int32) then w_SET_UP else w_TEAR_DOWN)), .val (.ref (if ph_19 = (0 : Int32) then w_SET_UP else w_TEAR_DOWN)), .val (.ref c36_0), .val (.ref c46_0), .val (if (p2 &&& (8 : Int32)) = (0 : Int32) then (.ref c36_0) else .null), .val (if (p2 &&& (16 : Int32)) = (0 : Int32) then (.ref c46_0) else .null), .val (.ref b50), .val (.ref b54), .val (.int kd_59), .val (.ref c14_0), .val (.int 1), .val (.int 0)]) rfl q) ?_
            show OwnFin _ _ _ _ (T57.setTop (mkF m 335 _ []))
            refine OwnFin.st (fun _ q => XS.aload Xr57.here hx rfl (hb hby at_335) rfl rfl q) ?_
            show OwnFin _ _ _ _ (T57.setTop (mkF m 337 _ [(.ref b50)]))
            refine OwnFin.st (fun _ q => XS.aload Xr57.here hx rfl (hb hby at_337) rfl rfl q) ?_
            show OwnFin _ _ _ _ (T57.setTop (mkF m 339 _ [(.ref c14_0), (.ref b50)]))
            have fr174 : Exa Z h57 c14_0 "java/lang/String" := (((((((((r14_1.keep K16).keep K34).keep K36).keep K44).keep K46).ext E50).keep K52).ext E54).keep K57)
            obtain ⟨cq175, kq175, q175a, q175b, q175c⟩ := isOf hZr57 e57 (((A50.keep K52).ext E54).keep K57)
            obtain ⟨_, _, ⟨T175, L175, k175, n175⟩, -, X175, ⟨Lc175, hQ175, l175, y175, z175⟩, st175⟩ := Xr57.virtualBack hx (y := yM17) (z := yM17) hor57 (mvT hZr57 (w_ hw 86 rfl)) (mvT hZr57 (w_ hw 87 rfl)) (notFace_of_selects (args := #[]) (mvT hZr57 (w_ hw 89 rfl))) (mvT hZr57 (w_ hw 89 rfl)) (mvT hZr57 (w_ hw 88 rfl)) (by decide) (backOf (W := 0) (rm_feS l Z av0 hw [] b50 c14_0 h57 n0 (Nat.le_trans Z0 kp58.1) fr174) hZr57 (w_ hw 90 rfl) (w_ hw 66 rfl) (by decide) (by decide)) q175a q175c (g := (mkF m 339 #[.val (.int p0), .val (.int p1), .val (.int p2), .val (.int p3), .val (.int p4), .val (.int y1_0), .val (.int n_3), .val (.int n_5), .val (.int c_7), .val (.int c_9), .val (.int c_11), .val (.int c_13), .val (.ref c14_0), .val (.ref c16_0), .val (.int ph_18), .val (.int ph_19), .val (.ref (if ph_18 = (0 : Int32) then w_SET_UP else w_TEAR_DOWN)), .val (.ref (if ph_19 = (0 : Int32) then w_SET_UP else w_TEAR_DOWN)), .val (.ref c36_0), .val (.ref c46_0), .val (if (p2 &&& (8 : Int32)) = (0 : Int32) then (.ref c36_0) else .null), .val (if (p2 &&& (16 : Int32)) = (0 : Int32) then (.ref c46_0) else .null), .val (.ref b50), .val (.ref b54), .val (.int kd_59), .val (.ref c14_0), .val (.int 1), .val (.int 0)] [(.ref c14_0), (.ref b50)])) rfl (by rw [hml]; rfl) (Steps.refl _) (argsL := [(.ref c14_0)]) (rest := []) (lenOf pd_10 rfl) rfl (by show 2 * 0 + _ ≤ _; exact Nat.le_of_eq rfl) (hb hby at_339) (fun _ _ => ⟨rfl, e57, (by decide : 36 + 0 ≤ _), (by decide : 188 + 0 ≤ _)⟩)
            dsimp only [Pt.U, Pt.locs, Pt.cells, Pt.slots] at X175 l175 y175 z175 st175 hQ175
            subst l175 y175 z175
            obtain ⟨rfl, N175q, he175⟩ := hQ175
            have N175 := Fr.app N57 N175q
            refine OwnFin.tr st175 ?_
            show OwnFin _ _ _ _ (T175.setTop (mkF m 342 _ [(.int 0)]))
            refine OwnFin.st (fun _ q => XS.iload X175.here hx rfl (hb hby at_342) rfl q) ?_
            show OwnFin _ _ _ _ (T175.setTop (mkF m 344 _ [(.int 0), (.int 0)]))
            refine OwnFin.st (fun _ q => XS.icmpNo X175.here hx rfl (hb hby at_344) rfl (Jvm.Free.XT.ii_ne_f (rfl : (0 : Int32) = (0 : Int32))) q) ?_
            show OwnFin _ _ _ _ (T175.setTop (mkF m 347 _ []))
            refine OwnFin.st (fun _ q => XS.iconst X175.here hx rfl (hb hby at_347) q) ?_
            show OwnFin _ _ _ _ (T175.setTop (mkF m 348 _ [(.int 1)]))
            refine OwnFin.st (fun _ q => XS.goto X175.here hx rfl (pc0 := 348) (pc' := 352) rfl (hb hby at_348) (by decide) (by decide) q) ?_
            show OwnFin _ _ _ _ (T175.setTop (mkF m 352 _ [(.int 1)]))
            obtain ⟨fs, hr, hrun, hended, hEW⟩ := X175.leaveW (s := s) hSr57 (by rw [he175]; exact (Nat.le_trans (Nat.le_refl _) (Nat.le_refl _))) (v := some (.int 1)) (fun h => by rw [Bd.returns] at h; cases h)
            have chE : CHr Z own_EL s.vm s.heap T175.vm T175.heap := by
              rw [hh, he175]
              exact ch58.trans (CHv.at X175 hZr57 (own_EW hw) ch58.1)
            refine ⟨_, _, retN X175 hx (t := .boolean) Bd.returns (by simp) (hb hby at_352) hr, hrun, hended, _, _, rfl, ?_, chE, hEW.1, hEW.2.1, hEW.2.2.1, hEW.2.2.2.mono (by decide) (by decide)⟩
            show Q_rm0 Z p0 p1 p2 p3 p4 w_TEAR_DOWN w_SET_UP w_COMPACT_STRINGS h0 n0 _ T175.heap _
            rw [he175]
            exact ⟨rfl, N175⟩
           ·
            refine OwnFin.st (fun _ q => XS.icmpNo Xr57.here hx rfl (hb hby at_281) rfl (Jvm.Free.XT.ii_lt_f hc172) q) ?_
            show OwnFin _ _ _ _ (T57.setTop (mkF m 284 _ []))
            refine OwnFin.st (fun _ q => XS.iload Xr57.here hx rfl (hb hby at_284) rfl q) ?_
            show OwnFin _ _ _ _ (T57.setTop (mkF m 286 _ [(.int c_7)]))
            refine OwnFin.st (fun _ q => XS.iload Xr57.here hx rfl (hb hby at_286) rfl q) ?_
            show OwnFin _ _ _ _ (T57.setTop (mkF m 288 _ [(.int c_11), (.int c_7)]))
            by_cases hc176 : c_7 = c_11
            ·
             refine OwnFin.st (fun _ q => XS.icmpNo Xr57.here hx rfl (hb hby at_288) rfl (Jvm.Free.XT.ii_ne_f hc176) q) ?_
             show OwnFin _ _ _ _ (T57.setTop (mkF m 291 _ []))
             refine OwnFin.st (fun _ q => XS.iload Xr57.here hx rfl (hb hby at_291) rfl q) ?_
             show OwnFin _ _ _ _ (T57.setTop (mkF m 293 _ [(.int n_3)]))
             refine OwnFin.st (fun _ q => XS.iconst Xr57.here hx rfl (hb hby at_293) q) ?_
             show OwnFin _ _ _ _ (T57.setTop (mkF m 294 _ [(.int 2), (.int n_3)]))
             by_cases hc177 : n_3 < (2 : Int32)
             ·
              refine OwnFin.st (fun _ q => XS.icmpYes Xr57.here hx rfl (pc0 := 294) (pc' := 304) rfl (hb hby at_294) rfl (Jvm.Free.XT.ii_lt_t hc177) (by decide) (by decide) q) ?_
              show OwnFin _ _ _ _ (T57.setTop (mkF m 304 _ []))
              refine OwnFin.st (fun _ q => XS.iconst Xr57.here hx rfl (hb hby at_304) q) ?_
              show OwnFin _ _ _ _ (T57.setTop (mkF m 305 _ [(.int 1)]))
              refine OwnFin.st (fun _ q => XS.goto Xr57.here hx rfl (pc0 := 305) (pc' := 309) rfl (hb hby at_305) (by decide) (by decide) q) ?_
              show OwnFin _ _ _ _ (T57.setTop (mkF m 309 #[.val (.int p0), .val (.int p1), .val (.int p2), .val (.int p3), .val (.int p4), .val (.int y1_0), .val (.int n_3), .val (.int n_5), .val (.int c_7), .val (.int c_9), .val (.int c_11), .val (.int c_13), .val (.ref c14_0), .val (.ref c16_0), .val (.int ph_18), .val (.int ph_19), .val (.ref (if ph_18 = (0 : Int32) then w_SET_UP else w_TEAR_DOWN)), .val (.ref (if ph_19 = (0 : Int32) then w_SET_UP else w_TEAR_DOWN)), .val (.ref c36_0), .val (.ref c46_0), .val (if (p2 &&& (8 : Int32)) = (0 : Int32) then (.ref c36_0) else .null), .val (if (p2 &&& (16 : Int32)) = (0 : Int32) then (.ref c46_0) else .null), .val (.ref b50), .val (.ref b54), .val (.int kd_59), .val (.ref c14_0), .unset, .unset] [(.int 1)]))
              refine OwnFin.st (fun _ q => XS.istore Xr57.here hx rfl (hb hby at_309) rfl (l' := #[.val (.int p0), .val (.int p1), .val (.int p2), .val (.int p3), .val (.int p4), .val (.int y1_0), .val (.int n_3), .val (.int n_5), .val (.int c_7), .val (.int c_9), .val (.int c_11), .val (.int c_13), .val (.ref c14_0), .val (.ref c16_0), .val (.int ph_18), .val (.int ph_19), .val (.ref (if ph_18 = (0 : Int32) then w_SET_UP else w_TEAR_DOWN)), .val (.ref (if ph_19 = (0 : Int32) then w_SET_UP else w_TEAR_DOWN)), .val (.ref c36_0), .val (.ref c46_0), .val (if (p2 &&& (8 : Int32)) = (0 : Int32) then (.ref c36_0) else .null), .val (if (p2 &&& (16 : Int32)) = (0 : Int32) then (.ref c46_0) else .null), .val (.ref b50), .val (.ref b54), .val (.int kd_59), .val (.ref c14_0), .val (.int 1), .unset]) rfl q) ?_
              show OwnFin _ _ _ _ (T57.setTop (mkF m 311 _ []))
              refine OwnFin.st (fun _ q => XS.iload Xr57.here hx rfl (hb hby at_311) rfl q) ?_
              show OwnFin _ _ _ _ (T57.setTop (mkF m 313 _ [(.int kd_59)]))
              refine OwnFin.st (fun _ q => XS.ifYes Xr57.here hx rfl (pc0 := 313) (pc' := 332) rfl (hb hby at_313) rfl (Jvm.Free.XT.i0_ne_t hc60) (by decide) (by decide) q) ?_
              show OwnFin _ _ _ _ (T57.setTop (mkF m 332 _ []))
              refine OwnFin.st (fun _ q => XS.iconst Xr57.here hx rfl (hb hby at_332) q) ?_
              show OwnFin _ _ _ _ (T57.setTop (mkF m 333 _ [(.int 0)]))
              refine OwnFin.st (fun _ q => XS.istore Xr57.here hx rfl (hb hby at_333) rfl (l' := #[.val (.int p0), .val (.int p1), .val (.int p2), .val (.int p3), .val (.int p4), .val (.int y1_0), .val (.int n_3), .val (.int n_5), .val (.int c_7), .val (.int c_9), .val (.int c_11), .val (.int c_13), .val (.ref c14_0), .val (.ref c16_0), .val (.int ph_18), .val (.int ph_19), .val (.ref (if ph_18 = (0 : Int32) then w_SET_UP else w_TEAR_DOWN)), .val (.ref (if ph_19 = (0 : Int32) then w_SET_UP else w_TEAR_DOWN)), .val (.ref c36_0), .val (.ref c46_0), .val (if (p2 &&& (8 : Int32)) = (0 : Int32) then (.ref c36_0) else .null), .val (if (p2 &&& (16 : Int32)) = (0 : Int32) then (.ref c46_0) else .null), .val (.ref b50), .val (.ref b54), .val (.int kd_59), .val (.ref c14_0), .val (.int 1), .val (.int 0)]) rfl q) ?_
              show OwnFin _ _ _ _ (T57.setTop (mkF m 335 _ []))
              refine OwnFin.st (fun _ q => XS.aload Xr57.here hx rfl (hb hby at_335) rfl rfl q) ?_
              show OwnFin _ _ _ _ (T57.setTop (mkF m 337 _ [(.ref b50)]))
              refine OwnFin.st (fun _ q => XS.aload Xr57.here hx rfl (hb hby at_337) rfl rfl q) ?_
              show OwnFin _ _ _ _ (T57.setTop (mkF m 339 _ [(.ref c14_0), (.ref b50)]))
              have fr178 : Exa Z h57 c14_0 "java/lang/String" := (((((((((r14_1.keep K16).keep K34).keep K36).keep K44).keep K46).ext E50).keep K52).ext E54).keep K57)
              obtain ⟨cq179, kq179, q179a, q179b, q179c⟩ := isOf hZr57 e57 (((A50.keep K52).ext E54).keep K57)
              obtain ⟨_, _, ⟨T179, L179, k179, n179⟩, -, X179, ⟨Lc179, hQ179, l179, y179, z179⟩, st179⟩ := Xr57.virtualBack hx (y := yM17) (z := yM17) hor57 (mvT hZr57 (w_ hw 86 rfl)) (mvT hZr57 (w_ hw 87 rfl)) (notFace_of_selects (args := #[]) (mvT hZr57 (w_ hw 89 rfl))) (mvT hZr57 (w_ hw 89 rfl)) (mvT hZr57 (w_ hw 88 rfl)) (by decide) (backOf (W := 0) (rm_feS l Z av0 hw [] b50 c14_0 h57 n0 (Nat.le_trans Z0 kp58.1) fr178) hZr57 (w_ hw 90 rfl) (w_ hw 66 rfl) (by decide) (by decide)) q179a q179c (g := (mkF m 339 #[.val (.int p0), .val (.int p1), .val (.int p2), .val (.int p3), .val (.int p4), .val (.int y1_0), .val (.int n_3), .val (.int n_5), .val (.int c_7), .val (.int c_9), .val (.int c_11), .val (.int c_13), .val (.ref c14_0), .val (.ref c16_0), .val (.int ph_18), .val (.int ph_19), .val (.ref (if ph_18 = (0 : Int32) then w_SET_UP else w_TEAR_DOWN)), .val (.ref (if ph_19 = (0 : Int32) then w_SET_UP else w_TEAR_DOWN)), .val (.ref c36_0), .val (.ref c46_0), .val (if (p2 &&& (8 : Int32)) = (0 : Int32) then (.ref c36_0) else .null), .val (if (p2 &&& (16 : Int32)) = (0 : Int32) then (.ref c46_0) else .null), .val (.ref b50), .val (.ref b54), .val (.int kd_59), .val (.ref c14_0), .val (.int 1), .val (.int 0)] [(.ref c14_0), (.ref b50)])) rfl (by rw [hml]; rfl) (Steps.refl _) (argsL := [(.ref c14_0)]) (rest := []) (lenOf pd_10 rfl) rfl (by show 2 * 0 + _ ≤ _; exact Nat.le_of_eq rfl) (hb hby at_339) (fun _ _ => ⟨rfl, e57, (by decide : 36 + 0 ≤ _), (by decide : 188 + 0 ≤ _)⟩)
              dsimp only [Pt.U, Pt.locs, Pt.cells, Pt.slots] at X179 l179 y179 z179 st179 hQ179
              subst l179 y179 z179
              obtain ⟨rfl, N179q, he179⟩ := hQ179
              have N179 := Fr.app N57 N179q
              refine OwnFin.tr st179 ?_
              show OwnFin _ _ _ _ (T179.setTop (mkF m 342 _ [(.int 0)]))
              refine OwnFin.st (fun _ q => XS.iload X179.here hx rfl (hb hby at_342) rfl q) ?_
              show OwnFin _ _ _ _ (T179.setTop (mkF m 344 _ [(.int 0), (.int 0)]))
              refine OwnFin.st (fun _ q => XS.icmpNo X179.here hx rfl (hb hby at_344) rfl (Jvm.Free.XT.ii_ne_f (rfl : (0 : Int32) = (0 : Int32))) q) ?_
              show OwnFin _ _ _ _ (T179.setTop (mkF m 347 _ []))
              refine OwnFin.st (fun _ q => XS.iconst X179.here hx rfl (hb hby at_347) q) ?_
              show OwnFin _ _ _ _ (T179.setTop (mkF m 348 _ [(.int 1)]))
              refine OwnFin.st (fun _ q => XS.goto X179.here hx rfl (pc0 := 348) (pc' := 352) rfl (hb hby at_348) (by decide) (by decide) q) ?_
              show OwnFin _ _ _ _ (T179.setTop (mkF m 352 _ [(.int 1)]))
              obtain ⟨fs, hr, hrun, hended, hEW⟩ := X179.leaveW (s := s) hSr57 (by rw [he179]; exact (Nat.le_trans (Nat.le_refl _) (Nat.le_refl _))) (v := some (.int 1)) (fun h => by rw [Bd.returns] at h; cases h)
              have chE : CHr Z own_EL s.vm s.heap T179.vm T179.heap := by
                rw [hh, he179]
                exact ch58.trans (CHv.at X179 hZr57 (own_EW hw) ch58.1)
              refine ⟨_, _, retN X179 hx (t := .boolean) Bd.returns (by simp) (hb hby at_352) hr, hrun, hended, _, _, rfl, ?_, chE, hEW.1, hEW.2.1, hEW.2.2.1, hEW.2.2.2.mono (by decide) (by decide)⟩
              show Q_rm0 Z p0 p1 p2 p3 p4 w_TEAR_DOWN w_SET_UP w_COMPACT_STRINGS h0 n0 _ T179.heap _
              rw [he179]
              exact ⟨rfl, N179⟩
             ·
              refine OwnFin.st (fun _ q => XS.icmpNo Xr57.here hx rfl (hb hby at_294) rfl (Jvm.Free.XT.ii_lt_f hc177) q) ?_
              show OwnFin _ _ _ _ (T57.setTop (mkF m 297 _ []))
              refine OwnFin.st (fun _ q => XS.iload Xr57.here hx rfl (hb hby at_297) rfl q) ?_
              show OwnFin _ _ _ _ (T57.setTop (mkF m 299 _ [(.int c_9)]))
              refine OwnFin.st (fun _ q => XS.iload Xr57.here hx rfl (hb hby at_299) rfl q) ?_
              show OwnFin _ _ _ _ (T57.setTop (mkF m 301 #[.val (.int p0), .val (.int p1), .val (.int p2), .val (.int p3), .val (.int p4), .val (.int y1_0), .val (.int n_3), .val (.int n_5), .val (.int c_7), .val (.int c_9), .val (.int c_11), .val (.int c_13), .val (.ref c14_0), .val (.ref c16_0), .val (.int ph_18), .val (.int ph_19), .val (.ref (if ph_18 = (0 : Int32) then w_SET_UP else w_TEAR_DOWN)), .val (.ref (if ph_19 = (0 : Int32) then w_SET_UP else w_TEAR_DOWN)), .val (.ref c36_0), .val (.ref c46_0), .val (if (p2 &&& (8 : Int32)) = (0 : Int32) then (.ref c36_0) else .null), .val (if (p2 &&& (16 : Int32)) = (0 : Int32) then (.ref c46_0) else .null), .val (.ref b50), .val (.ref b54), .val (.int kd_59), .val (.ref c14_0), .unset, .unset] [(.int c_13), (.int c_9)]))
              by_cases hc180 : c_9 = c_13
              ·
               refine OwnFin.st (fun _ q => XS.icmpNo Xr57.here hx rfl (hb hby at_301) rfl (Jvm.Free.XT.ii_ne_f hc180) q) ?_
               show OwnFin _ _ _ _ (T57.setTop (mkF m 304 _ []))
               refine OwnFin.st (fun _ q => XS.iconst Xr57.here hx rfl (hb hby at_304) q) ?_
               show OwnFin _ _ _ _ (T57.setTop (mkF m 305 _ [(.int 1)]))
               refine OwnFin.st (fun _ q => XS.goto Xr57.here hx rfl (pc0 := 305) (pc' := 309) rfl (hb hby at_305) (by decide) (by decide) q) ?_
               show OwnFin _ _ _ _ (T57.setTop (mkF m 309 _ [(.int 1)]))
               refine OwnFin.st (fun _ q => XS.istore Xr57.here hx rfl (hb hby at_309) rfl (l' := #[.val (.int p0), .val (.int p1), .val (.int p2), .val (.int p3), .val (.int p4), .val (.int y1_0), .val (.int n_3), .val (.int n_5), .val (.int c_7), .val (.int c_9), .val (.int c_11), .val (.int c_13), .val (.ref c14_0), .val (.ref c16_0), .val (.int ph_18), .val (.int ph_19), .val (.ref (if ph_18 = (0 : Int32) then w_SET_UP else w_TEAR_DOWN)), .val (.ref (if ph_19 = (0 : Int32) then w_SET_UP else w_TEAR_DOWN)), .val (.ref c36_0), .val (.ref c46_0), .val (if (p2 &&& (8 : Int32)) = (0 : Int32) then (.ref c36_0) else .null), .val (if (p2 &&& (16 : Int32)) = (0 : Int32) then (.ref c46_0) else .null), .val (.ref b50), .val (.ref b54), .val (.int kd_59), .val (.ref c14_0), .val (.int 1), .unset]) rfl q) ?_
               show OwnFin _ _ _ _ (T57.setTop (mkF m 311 _ []))
               refine OwnFin.st (fun _ q => XS.iload Xr57.here hx rfl (hb hby at_311) rfl q) ?_
               show OwnFin _ _ _ _ (T57.setTop (mkF m 313 _ [(.int kd_59)]))
               refine OwnFin.st (fun _ q => XS.ifYes Xr57.here hx rfl (pc0 := 313) (pc' := 332) rfl (hb hby at_313) rfl (Jvm.Free.XT.i0_ne_t hc60) (by decide) (by decide) q) ?_
               show OwnFin _ _ _ _ (T57.setTop (mkF m 332 _ []))
               refine OwnFin.st (fun _ q => XS.iconst Xr57.here hx rfl (hb hby at_332) q) ?_
               show OwnFin _ _ _ _ (T57.setTop (mkF m 333 _ [(.int 0)]))
               refine OwnFin.st (fun _ q => XS.istore Xr57.here hx rfl (hb hby at_333) rfl (l' := #[.val (.int p0), .val (.int p1), .val (.int p2), .val (.int p3), .val (.int p4), .val (.int y1_0), .val (.int n_3), .val (.int n_5), .val (.int c_7), .val (.int c_9), .val (.int c_11), .val (.int c_13), .val (.ref c14_0), .val (.ref c16_0), .val (.int ph_18), .val (.int ph_19), .val (.ref (if ph_18 = (0 : Int32) then w_SET_UP else w_TEAR_DOWN)), .val (.ref (if ph_19 = (0 : Int32) then w_SET_UP else w_TEAR_DOWN)), .val (.ref c36_0), .val (.ref c46_0), .val (if (p2 &&& (8 : Int32)) = (0 : Int32) then (.ref c36_0) else .null), .val (if (p2 &&& (16 : Int32)) = (0 : Int32) then (.ref c46_0) else .null), .val (.ref b50), .val (.ref b54), .val (.int kd_59), .val (.ref c14_0), .val (.int 1), .val (.int 0)]) rfl q) ?_
               show OwnFin _ _ _ _ (T57.setTop (mkF m 335 _ []))
               refine OwnFin.st (fun _ q => XS.aload Xr57.here hx rfl (hb hby at_335) rfl rfl q) ?_
               show OwnFin _ _ _ _ (T57.setTop (mkF m 337 _ [(.ref b50)]))
               refine OwnFin.st (fun _ q => XS.aload Xr57.here hx rfl (hb hby at_337) rfl rfl q) ?_
               show OwnFin _ _ _ _ (T57.setTop (mkF m 339 _ [(.ref c14_0), (.ref b50)]))
               have fr181 : Exa Z h57 c14_0 "java/lang/String" := (((((((((r14_1.keep K16).keep K34).keep K36).keep K44).keep K46).ext E50).keep K52).ext E54).keep K57)
               obtain ⟨cq182, kq182, q182a, q182b, q182c⟩ := isOf hZr57 e57 (((A50.keep K52).ext E54).keep K57)
               obtain ⟨_, _, ⟨T182, L182, k182, n182⟩, -, X182, ⟨Lc182, hQ182, l182, y182, z182⟩, st182⟩ := Xr57.virtualBack hx (y := yM17) (z := yM17) hor57 (mvT hZr57 (w_ hw 86 rfl)) (mvT hZr57 (w_ hw 87 rfl)) (notFace_of_selects (args := #[]) (mvT hZr57 (w_ hw 89 rfl))) (mvT hZr57 (w_ hw 89 rfl)) (mvT hZr57 (w_ hw 88 rfl)) (by decide) (backOf (W := 0) (rm_feS l Z av0 hw [] b50 c14_0 h57 n0 (Nat.le_trans Z0 kp58.1) fr181) hZr57 (w_ hw 90 rfl) (w_ hw 66 rfl) (by decide) (by decide)) q182a q182c (g := (mkF m 339 #[.val (.int p0), .val (.int p1), .val (.int p2), .val (.int p3), .val (.int p4), .val (.int y1_0), .val (.int n_3), .val (.int n_5), .val (.int c_7), .val (.int c_9), .val (.int c_11), .val (.int c_13), .val (.ref c14_0), .val (.ref c16_0), .val (.int ph_18), .val (.int ph_19), .val (.ref (if ph_18 = (0 : Int32) then w_SET_UP else w_TEAR_DOWN)), .val (.ref (if ph_19 = (0 : Int32) then w_SET_UP else w_TEAR_DOWN)), .val (.ref c36_0), .val (.ref c46_0), .val (if (p2 &&& (8 : Int32)) = (0 : Int32) then (.ref c36_0) else .null), .val (if (p2 &&& (16 : Int32)) = (0 : Int32) then (.ref c46_0) else .null), .val (.ref b50), .val (.ref b54), .val (.int kd_59), .val (.ref c14_0), .val (.int 1), .val (.int 0)] [(.ref c14_0), (.ref b50)])) rfl (by rw [hml]; rfl) (Steps.refl _) (argsL := [(.ref c14_0)]) (rest := []) (lenOf pd_10 rfl) rfl (by show 2 * 0 + _ ≤ _; exact Nat.le_of_eq rfl) (hb hby at_339) (fun _ _ => ⟨rfl, e57, (by decide : 36 + 0 ≤ _), (by decide : 188 + 0 ≤ _)⟩)
               dsimp only [Pt.U, Pt.locs, Pt.cells, Pt.slots] at X182 l182 y182 z182 st182 hQ182
               subst l182 y182 z182
               obtain ⟨rfl, N182q, he182⟩ := hQ182
               have N182 := Fr.app N57 N182q
               refine OwnFin.tr st182 ?_
               show OwnFin _ _ _ _ (T182.setTop (mkF m 342 _ [(.int 0)]))
               refine OwnFin.st (fun _ q => XS.iload X182.here hx rfl (hb hby at_342) rfl q) ?_
               show OwnFin _ _ _ _ (T182.setTop (mkF m 344 _ [(.int 0), (.int 0)]))
               refine OwnFin.st (fun _ q => XS.icmpNo X182.here hx rfl (hb hby at_344) rfl (Jvm.Free.XT.ii_ne_f (rfl : (0 : Int32) = (0 : Int32))) q) ?_
               show OwnFin _ _ _ _ (T182.setTop (mkF m 347 #[.val (.int p0), .val (.int p1), .val (.int p2), .val (.int p3), .val (.int p4), .val (.int y1_0), .val (.int n_3), .val (.int n_5), .val (.int c_7), .val (.int c_9), .val (.int c_11), .val (.int c_13), .val (.ref c14_0), .val (.ref c16_0), .val (.int ph_18), .val (.int ph_19), .val (.ref (if ph_18 = (0 : Int32) then w_SET_UP else w_TEAR_DOWN)), .val (.ref (if ph_19 = (0 : Int32) then w_SET_UP else w_TEAR_DOWN)), .val (.ref c36_0), .val (.ref c46_0), .val (if (p2 &&& (8 : Int32)) = (0 : Int32) then (.ref c36_0) else .null), .val (if (p2 &&& (16 : Int32)) = (0 : Int32) then (.ref c46_0) else .null), .val (.ref b50), .val (.ref b54), .val (.int kd_59), .val (.ref c14_0), .val (.int 1), .val (.int 0)] []))
               refine OwnFin.st (fun _ q => XS.iconst X182.here hx rfl (hb hby at_347) q) ?_
               show OwnFin _ _ _ _ (T182.setTop (mkF m 348 _ [(.int 1)]))
               refine OwnFin.st (fun _ q => XS.goto X182.here hx rfl (pc0 := 348) (pc' := 352) rfl (hb hby at_348) (by decide) (by decide) q) ?_
               show OwnFin _ _ _ _ (T182.setTop (mkF m 352 _ [(.int 1)]))
               obtain ⟨fs, hr, hrun, hended, hEW⟩ := X182.leaveW (s := s) hSr57 (by rw [he182]; exact (Nat.le_trans (Nat.le_refl _) (Nat.le_refl _))) (v := some (.int 1)) (fun h => by rw [Bd.returns] at h; cases h)
               have chE : CHr Z own_EL s.vm s.heap T182.vm T182.heap := by
                 rw [hh, he182]
                 exact ch58.trans (CHv.at X182 hZr57 (own_EW hw) ch58.1)
               refine ⟨_, _, retN X182 hx (t := .boolean) Bd.returns (by simp) (hb hby at_352) hr, hrun, hended, _, _, rfl, ?_, chE, hEW.1, hEW.2.1, hEW.2.2.1, hEW.2.2.2.mono (by decide) (by decide)⟩
               show Q_rm0 Z p0 p1 p2 p3 p4 w_TEAR_DOWN w_SET_UP w_COMPACT_STRINGS h0 n0 _ T182.heap _
               rw [he182]
               exact ⟨rfl, N182⟩
              ·
               refine OwnFin.st (fun _ q => XS.icmpYes Xr57.here hx rfl (pc0 := 301) (pc' := 308) rfl (hb hby at_301) rfl (Jvm.Free.XT.ii_ne_t hc180) (by decide) (by decide) q) ?_
               show OwnFin _ _ _ _ (T57.setTop (mkF m 308 _ []))
               refine OwnFin.st (fun _ q => XS.iconst Xr57.here hx rfl (hb hby at_308) q) ?_
               show OwnFin _ _ _ _ (T57.setTop (mkF m 309 _ [(.int 0)]))
               refine OwnFin.st (fun _ q => XS.istore Xr57.here hx rfl (hb hby at_309) rfl (l' := #[.val (.int p0), .val (.int p1), .val (.int p2), .val (.int p3), .val (.int p4), .val (.int y1_0), .val (.int n_3), .val (.int n_5), .val (.int c_7), .val (.int c_9), .val (.int c_11), .val (.int c_13), .val (.ref c14_0), .val (.ref c16_0), .val (.int ph_18), .val (.int ph_19), .val (.ref (if ph_18 = (0 : Int32) then w_SET_UP else w_TEAR_DOWN)), .val (.ref (if ph_19 = (0 : Int32) then w_SET_UP else w_TEAR_DOWN)), .val (.ref c36_0), .val (.ref c46_0), .val (if (p2 &&& (8 : Int32)) = (0 : Int32) then (.ref c36_0) else .null), .val (if (p2 &&& (16 : Int32)) = (0 : Int32) then (.ref c46_0) else .null), .val (.ref b50), .val (.ref b54), .val (.int kd_59), .val (.ref c14_0), .val (.int 0), .unset]) rfl q) ?_
               show OwnFin _ _ _ _ (T57.setTop (mkF m 311 _ []))
               refine OwnFin.st (fun _ q => XS.iload Xr57.here hx rfl (hb hby at_311) rfl q) ?_
               show OwnFin _ _ _ _ (T57.setTop (mkF m 313 _ [(.int kd_59)]))
               refine OwnFin.st (fun _ q => XS.ifYes Xr57.here hx rfl (pc0 := 313) (pc' := 332) rfl (hb hby at_313) rfl (Jvm.Free.XT.i0_ne_t hc60) (by decide) (by decide) q) ?_
               show OwnFin _ _ _ _ (T57.setTop (mkF m 332 _ []))
               refine OwnFin.st (fun _ q => XS.iconst Xr57.here hx rfl (hb hby at_332) q) ?_
               show OwnFin _ _ _ _ (T57.setTop (mkF m 333 _ [(.int 0)]))
               refine OwnFin.st (fun _ q => XS.istore Xr57.here hx rfl (hb hby at_333) rfl (l' := #[.val (.int p0), .val (.int p1), .val (.int p2), .val (.int p3), .val (.int p4), .val (.int y1_0), .val (.int n_3), .val (.int n_5), .val (.int c_7), .val (.int c_9), .val (.int c_11), .val (.int c_13), .val (.ref c14_0), .val (.ref c16_0), .val (.int ph_18), .val (.int ph_19), .val (.ref (if ph_18 = (0 : Int32) then w_SET_UP else w_TEAR_DOWN)), .val (.ref (if ph_19 = (0 : Int32) then w_SET_UP else w_TEAR_DOWN)), .val (.ref c36_0), .val (.ref c46_0), .val (if (p2 &&& (8 : Int32)) = (0 : Int32) then (.ref c36_0) else .null), .val (if (p2 &&& (16 : Int32)) = (0 : Int32) then (.ref c46_0) else .null), .val (.ref b50), .val (.ref b54), .val (.int kd_59), .val (.ref c14_0), .val (.int 0), .val (.int 0)]) rfl q) ?_
               show OwnFin _ _ _ _ (T57.setTop (mkF m 335 _ []))
               refine OwnFin.st (fun _ q => XS.aload Xr57.here hx rfl (hb hby at_335) rfl rfl q) ?_
               show OwnFin _ _ _ _ (T57.setTop (mkF m 337 _ [(.ref b50)]))
               refine OwnFin.st (fun _ q => XS.aload Xr57.here hx rfl (hb hby at_337) rfl rfl q) ?_
               show OwnFin _ _ _ _ (T57.setTop (mkF m 339 _ [(.ref c14_0), (.ref b50)]))
               have fr183 : Exa Z h57 c14_0 "java/lang/String" := (((((((((r14_1.keep K16).keep K34).keep K36).keep K44).keep K46).ext E50).keep K52).ext E54).keep K57)
               obtain ⟨cq184, kq184, q184a, q184b, q184c⟩ := isOf hZr57 e57 (((A50.keep K52).ext E54).keep K57)
               obtain ⟨_, _, ⟨T184, L184, k184, n184⟩, -, X184, ⟨Lc184, hQ184, l184, y184, z184⟩, st184⟩ := Xr57.virtualBack hx (y := yM17) (z := yM17) hor57 (mvT hZr57 (w_ hw 86 rfl)) (mvT hZr57 (w_ hw 87 rfl)) (notFace_of_selects (args := #[]) (mvT hZr57 (w_ hw 89 rfl))) (mvT hZr57 (w_ hw 89 rfl)) (mvT hZr57 (w_ hw 88 rfl)) (by decide) (backOf (W := 0) (rm_feS l Z av0 hw [] b50 c14_0 h57 n0 (Nat.le_trans Z0 kp58.1) fr183) hZr57 (w_ hw 90 rfl) (w_ hw 66 rfl) (by decide) (by decide)) q184a q184c (g := (mkF m 339 #[.val (.int p0), .val (.int p1), .val (.int p2), .val (.int p3), .val (.int p4), .val (.int y1_0), .val (.int n_3), .val (.int n_5), .val (.int c_7), .val (.int c_9), .val (.int c_11), .val (.int c_13), .val (.ref c14_0), .val (.ref c16_0), .val (.int ph_18), .val (.int ph_19), .val (.ref (if ph_18 = (0 : Int32) then w_SET_UP else w_TEAR_DOWN)), .val (.ref (if ph_19 = (0 : Int32) then w_SET_UP else w_TEAR_DOWN)), .val (.ref c36_0), .val (.ref c46_0), .val (if (p2 &&& (8 : Int32)) = (0 : Int32) then (.ref c36_0) else .null), .val (if (p2 &&& (16 : Int32)) = (0 : Int32) then (.ref c46_0) else .null), .val (.ref b50), .val (.ref b54), .val (.int kd_59), .val (.ref c14_0), .val (.int 0), .val (.int 0)] [(.ref c14_0), (.ref b50)])) rfl (by rw [hml]; rfl) (Steps.refl _) (argsL := [(.ref c14_0)]) (rest := []) (lenOf pd_10 rfl) rfl (by show 2 * 0 + _ ≤ _; exact Nat.le_of_eq rfl) (hb hby at_339) (fun _ _ => ⟨rfl, e57, (by decide : 36 + 0 ≤ _), (by decide : 188 + 0 ≤ _)⟩)
               dsimp only [Pt.U, Pt.locs, Pt.cells, Pt.slots] at X184 l184 y184 z184 st184 hQ184
               subst l184 y184 z184
               obtain ⟨rfl, N184q, he184⟩ := hQ184
               have N184 := Fr.app N57 N184q
               refine OwnFin.tr st184 ?_
               show OwnFin _ _ _ _ (T184.setTop (mkF m 342 _ [(.int 0)]))
               refine OwnFin.st (fun _ q => XS.iload X184.here hx rfl (hb hby at_342) rfl q) ?_
               show OwnFin _ _ _ _ (T184.setTop (mkF m 344 _ [(.int 0), (.int 0)]))
               refine OwnFin.st (fun _ q => XS.icmpNo X184.here hx rfl (hb hby at_344) rfl (Jvm.Free.XT.ii_ne_f (rfl : (0 : Int32) = (0 : Int32))) q) ?_
               show OwnFin _ _ _ _ (T184.setTop (mkF m 347 _ []))
               refine OwnFin.st (fun _ q => XS.iconst X184.here hx rfl (hb hby at_347) q) ?_
               show OwnFin _ _ _ _ (T184.setTop (mkF m 348 #[.val (.int p0), .val (.int p1), .val (.int p2), .val (.int p3), .val (.int p4), .val (.int y1_0), .val (.int n_3), .val (.int n_5), .val (.int c_7), .val (.int c_9), .val (.int c_11), .val (.int c_13), .val (.ref c14_0), .val (.ref c16_0), .val (.int ph_18), .val (.int ph_19), .val (.ref (if ph_18 = (0 : Int32) then w_SET_UP else w_TEAR_DOWN)), .val (.ref (if ph_19 = (0 : Int32) then w_SET_UP else w_TEAR_DOWN)), .val (.ref c36_0), .val (.ref c46_0), .val (if (p2 &&& (8 : Int32)) = (0 : Int32) then (.ref c36_0) else .null), .val (if (p2 &&& (16 : Int32)) = (0 : Int32) then (.ref c46_0) else .null), .val (.ref b50), .val (.ref b54), .val (.int kd_59), .val (.ref c14_0), .val (.int 0), .val (.int 0)] [(.int 1)]))
               refine OwnFin.st (fun _ q => XS.goto X184.here hx rfl (pc0 := 348) (pc' := 352) rfl (hb hby at_348) (by decide) (by decide) q) ?_
               show OwnFin _ _ _ _ (T184.setTop (mkF m 352 _ [(.int 1)]))
               obtain ⟨fs, hr, hrun, hended, hEW⟩ := X184.leaveW (s := s) hSr57 (by rw [he184]; exact (Nat.le_trans (Nat.le_refl _) (Nat.le_refl _))) (v := some (.int 1)) (fun h => by rw [Bd.returns] at h; cases h)
               have chE : CHr Z own_EL s.vm s.heap T184.vm T184.heap := by
                 rw [hh, he184]
                 exact ch58.trans (CHv.at X184 hZr57 (own_EW hw) ch58.1)
               refine ⟨_, _, retN X184 hx (t := .boolean) Bd.returns (by simp) (hb hby at_352) hr, hrun, hended, _, _, rfl, ?_, chE, hEW.1, hEW.2.1, hEW.2.2.1, hEW.2.2.2.mono (by decide) (by decide)⟩
               show Q_rm0 Z p0 p1 p2 p3 p4 w_TEAR_DOWN w_SET_UP w_COMPACT_STRINGS h0 n0 _ T184.heap _
               rw [he184]
               exact ⟨rfl, N184⟩
            ·
             refine OwnFin.st (fun _ q => XS.icmpYes Xr57.here hx rfl (pc0 := 288) (pc' := 308) rfl (hb hby at_288) rfl (Jvm.Free.XT.ii_ne_t hc176) (by decide) (by decide) q) ?_
             show OwnFin _ _ _ _ (T57.setTop (mkF m 308 _ []))
             refine OwnFin.st (fun _ q => XS.iconst Xr57.here hx rfl (hb hby at_308) q) ?_
             show OwnFin _ _ _ _ (T57.setTop (mkF m 309 _ [(.int 0)]))
             refine OwnFin.st (fun _ q => XS.istore Xr57.here hx rfl (hb hby at_309) rfl (l' := #[.val (.int p0), .val (.int p1), .val (.int p2), .val (.int p3), .val (.int p4), .val (.int y1_0), .val (.int n_3), .val (.int n_5), .val (.int c_7), .val (.int c_9), .val (.int c_11), .val (.int c_13), .val (.ref c14_0), .val (.ref c16_0), .val (.int ph_18), .val (.int ph_19), .val (.ref (if ph_18 = (0 : Int32) then w_SET_UP else w_TEAR_DOWN)), .val (.ref (if ph_19 = (0 : Int32) then w_SET_UP else w_TEAR_DOWN)), .val (.ref c36_0), .val (.ref c46_0), .val (if (p2 &&& (8 : Int32)) = (0 : Int32) then (.ref c36_0) else .null), .val (if (p2 &&& (16 : Int32)) = (0 : Int32) then (.ref c46_0) else .null), .val (.ref b50), .val (.ref b54), .val (.int kd_59), .val (.ref c14_0), .val (.int 0), .unset]) rfl q) ?_
             show OwnFin _ _ _ _ (T57.setTop (mkF m 311 _ []))
             refine OwnFin.st (fun _ q => XS.iload Xr57.here hx rfl (hb hby at_311) rfl q) ?_
             show OwnFin _ _ _ _ (T57.setTop (mkF m 313 _ [(.int kd_59)]))
             refine OwnFin.st (fun _ q => XS.ifYes Xr57.here hx rfl (pc0 := 313) (pc' := 332) rfl (hb hby at_313) rfl (Jvm.Free.XT.i0_ne_t hc60) (by decide) (by decide) q) ?_
             show OwnFin _ _ _ _ (T57.setTop (mkF m 332 _ []))
             refine OwnFin.st (fun _ q => XS.iconst Xr57.here hx rfl (hb hby at_332) q) ?_
             show OwnFin _ _ _ _ (T57.setTop (mkF m 333 #[.val (.int p0), .val (.int p1), .val (.int p2), .val (.int p3), .val (.int p4), .val (.int y1_0), .val (.int n_3), .val (.int n_5), .val (.int c_7), .val (.int c_9), .val (.int c_11), .val (.int c_13), .val (.ref c14_0), .val (.ref c16_0), .val (.int ph_18), .val (.int ph_19), .val (.ref (if ph_18 = (0 : Int32) then w_SET_UP else w_TEAR_DOWN)), .val (.ref (if ph_19 = (0 : Int32) then w_SET_UP else w_TEAR_DOWN)), .val (.ref c36_0), .val (.ref c46_0), .val (if (p2 &&& (8 : Int32)) = (0 : Int32) then (.ref c36_0) else .null), .val (if (p2 &&& (16 : Int32)) = (0 : Int32) then (.ref c46_0) else .null), .val (.ref b50), .val (.ref b54), .val (.int kd_59), .val (.ref c14_0), .val (.int 0), .unset] [(.int 0)]))
             refine OwnFin.st (fun _ q => XS.istore Xr57.here hx rfl (hb hby at_333) rfl (l' := #[.val (.int p0), .val (.int p1), .val (.int p2), .val (.int p3), .val (.int p4), .val (.int y1_0), .val (.int n_3), .val (.int n_5), .val (.int c_7), .val (.int c_9), .val (.int c_11), .val (.int c_13), .val (.ref c14_0), .val (.ref c16_0), .val (.int ph_18), .val (.int ph_19), .val (.ref (if ph_18 = (0 : Int32) then w_SET_UP else w_TEAR_DOWN)), .val (.ref (if ph_19 = (0 : Int32) then w_SET_UP else w_TEAR_DOWN)), .val (.ref c36_0), .val (.ref c46_0), .val (if (p2 &&& (8 : Int32)) = (0 : Int32) then (.ref c36_0) else .null), .val (if (p2 &&& (16 : Int32)) = (0 : Int32) then (.ref c46_0) else .null), .val (.ref b50), .val (.ref b54), .val (.int kd_59), .val (.ref c14_0), .val (.int 0), .val (.int 0)]) rfl q) ?_
             show OwnFin _ _ _ _ (T57.setTop (mkF m 335 _ []))
             refine OwnFin.st (fun _ q => XS.aload Xr57.here hx rfl (hb hby at_335) rfl rfl q) ?_
             show OwnFin _ _ _ _ (T57.setTop (mkF m 337 _ [(.ref b50)]))
             refine OwnFin.st (fun _ q => XS.aload Xr57.here hx rfl (hb hby at_337) rfl rfl q) ?_
             show OwnFin _ _ _ _ (T57.setTop (mkF m 339 _ [(.ref c14_0), (.ref b50)]))
             have fr185 : Exa Z h57 c14_0 "java/lang/String" := (((((((((r14_1.keep K16).keep K34).keep K36).keep K44).keep K46).ext E50).keep K52).ext E54).keep K57)
             obtain ⟨cq186, kq186, q186a, q186b, q186c⟩ := isOf hZr57 e57 (((A50.keep K52).ext E54).keep K57)
             obtain ⟨_, _, ⟨T186, L186, k186, n186⟩, -, X186, ⟨Lc186, hQ186, l186, y186, z186⟩, st186⟩ := Xr57.virtualBack hx (y := yM17) (z := yM17) hor57 (mvT hZr57 (w_ hw 86 rfl)) (mvT hZr57 (w_ hw 87 rfl)) (notFace_of_selects (args := #[]) (mvT hZr57 (w_ hw 89 rfl))) (mvT hZr57 (w_ hw 89 rfl)) (mvT hZr57 (w_ hw 88 rfl)) (by decide) (backOf (W := 0) (rm_feS l Z av0 hw [] b50 c14_0 h57 n0 (Nat.le_trans Z0 kp58.1) fr185) hZr57 (w_ hw 90 rfl) (w_ hw 66 rfl) (by decide) (by decide)) q186a q186c (g := (mkF m 339 #[.val (.int p0), .val (.int p1), .val (.int p2), .val (.int p3), .val (.int p4), .val (.int y1_0), .val (.int n_3), .val (.int n_5), .val (.int c_7), .val (.int c_9), .val (.int c_11), .val (.int c_13), .val (.ref c14_0), .val (.ref c16_0), .val (.int ph_18), .val (.int ph_19), .val (.ref (if ph_18 = (0 : Int32) then w_SET_UP else w_TEAR_DOWN)), .val (.ref (if ph_19 = (0 : Int32) then w_SET_UP else w_TEAR_DOWN)), .val (.ref c36_0), .val (.ref c46_0), .val (if (p2 &&& (8 : Int32)) = (0 : Int32) then (.ref c36_0) else .null), .val (if (p2 &&& (16 : Int32)) = (0 : Int32) then (.ref c46_0) else .null), .val (.ref b50), .val (.ref b54), .val (.int kd_59), .val (.ref c14_0), .val (.int 0), .val (.int 0)] [(.ref c14_0), (.ref b50)])) rfl (by rw [hml]; rfl) (Steps.refl _) (argsL := [(.ref c14_0)]) (rest := []) (lenOf pd_10 rfl) rfl (by show 2 * 0 + _ ≤ _; exact Nat.le_of_eq rfl) (hb hby at_339) (fun _ _ => ⟨rfl, e57, (by decide : 36 + 0 ≤ _), (by decide : 188 + 0 ≤ _)⟩)
             dsimp only [Pt.U, Pt.locs, Pt.cells, Pt.slots] at X186 l186 y186 z186 st186 hQ186
             subst l186 y186 z186
             obtain ⟨rfl, N186q, he186⟩ := hQ186
             have N186 := Fr.app N57 N186q
             refine OwnFin.tr st186 ?_
             show OwnFin _ _ _ _ (T186.setTop (mkF m 342 _ [(.int 0)]))
             refine OwnFin.st (fun _ q => XS.iload X186.here hx rfl (hb hby at_342) rfl q) ?_
             show OwnFin _ _ _ _ (T186.setTop (mkF m 344 _ [(.int 0), (.int 0)]))
             refine OwnFin.st (fun _ q => XS.icmpNo X186.here hx rfl (hb hby at_344) rfl (Jvm.Free.XT.ii_ne_f (rfl : (0 : Int32) = (0 : Int32))) q) ?_
             show OwnFin _ _ _ _ (T186.setTop (mkF m 347 _ []))
             refine OwnFin.st (fun _ q => XS.iconst X186.here hx rfl (hb hby at_347) q) ?_
             show OwnFin _ _ _ _ (T186.setTop (mkF m 348 _ [(.int 1)]))
             refine OwnFin.st (fun _ q => XS.goto X186.here hx rfl (pc0 := 348) (pc' := 352) rfl (hb hby at_348) (by decide) (by decide) q) ?_
             show OwnFin _ _ _ _ (T186.setTop (mkF m 352 _ [(.int 1)]))
             obtain ⟨fs, hr, hrun, hended, hEW⟩ := X186.leaveW (s := s) hSr57 (by rw [he186]; exact (Nat.le_trans (Nat.le_refl _) (Nat.le_refl _))) (v := some (.int 1)) (fun h => by rw [Bd.returns] at h; cases h)
             have chE : CHr Z own_EL s.vm s.heap T186.vm T186.heap := by
               rw [hh, he186]
               exact ch58.trans (CHv.at X186 hZr57 (own_EW hw) ch58.1)
             refine ⟨_, _, retN X186 hx (t := .boolean) Bd.returns (by simp) (hb hby at_352) hr, hrun, hended, _, _, rfl, ?_, chE, hEW.1, hEW.2.1, hEW.2.2.1, hEW.2.2.2.mono (by decide) (by decide)⟩
             show Q_rm0 Z p0 p1 p2 p3 p4 w_TEAR_DOWN w_SET_UP w_COMPACT_STRINGS h0 n0 _ T186.heap _
             rw [he186]
             exact ⟨rfl, N186⟩
          ·
           refine OwnFin.st (fun _ q => XS.icmpYes Xr57.here hx rfl (pc0 := 275) (pc' := 308) rfl (hb hby at_275) rfl (Jvm.Free.XT.ii_ne_t hc171) (by decide) (by decide) q) ?_
           show OwnFin _ _ _ _ (T57.setTop (mkF m 308 _ []))
           refine OwnFin.st (fun _ q => XS.iconst Xr57.here hx rfl (hb hby at_308) q) ?_
           show OwnFin _ _ _ _ (T57.setTop (mkF m 309 _ [(.int 0)]))
           refine OwnFin.st (fun _ q => XS.istore Xr57.here hx rfl (hb hby at_309) rfl (l' := #[.val (.int p0), .val (.int p1), .val (.int p2), .val (.int p3), .val (.int p4), .val (.int y1_0), .val (.int n_3), .val (.int n_5), .val (.int c_7), .val (.int c_9), .val (.int c_11), .val (.int c_13), .val (.ref c14_0), .val (.ref c16_0), .val (.int ph_18), .val (.int ph_19), .val (.ref (if ph_18 = (0 : Int32) then w_SET_UP else w_TEAR_DOWN)), .val (.ref (if ph_19 = (0 : Int32) then w_SET_UP else w_TEAR_DOWN)), .val (.ref c36_0), .val (.ref c46_0), .val (if (p2 &&& (8 : Int32)) = (0 : Int32) then (.ref c36_0) else .null), .val (if (p2 &&& (16 : Int32)) = (0 : Int32) then (.ref c46_0) else .null), .val (.ref b50), .val (.ref b54), .val (.int kd_59), .val (.ref c14_0), .val (.int 0), .unset]) rfl q) ?_
           show OwnFin _ _ _ _ (T57.setTop (mkF m 311 _ []))
           refine OwnFin.st (fun _ q => XS.iload Xr57.here hx rfl (hb hby at_311) rfl q) ?_
           show OwnFin _ _ _ _ (T57.setTop (mkF m 313 _ [(.int kd_59)]))
           refine OwnFin.st (fun _ q => XS.ifYes Xr57.here hx rfl (pc0 := 313) (pc' := 332) rfl (hb hby at_313) rfl (Jvm.Free.XT.i0_ne_t hc60) (by decide) (by decide) q) ?_
           show OwnFin _ _ _ _ (T57.setTop (mkF m 332 _ []))
           refine OwnFin.st (fun _ q => XS.iconst Xr57.here hx rfl (hb hby at_332) q) ?_
           show OwnFin _ _ _ _ (T57.setTop (mkF m 333 _ [(.int 0)]))
           refine OwnFin.st (fun _ q => XS.istore Xr57.here hx rfl (hb hby at_333) rfl (l' := #[.val (.int p0), .val (.int p1), .val (.int p2), .val (.int p3), .val (.int p4), .val (.int y1_0), .val (.int n_3), .val (.int n_5), .val (.int c_7), .val (.int c_9), .val (.int c_11), .val (.int c_13), .val (.ref c14_0), .val (.ref c16_0), .val (.int ph_18), .val (.int ph_19), .val (.ref (if ph_18 = (0 : Int32) then w_SET_UP else w_TEAR_DOWN)), .val (.ref (if ph_19 = (0 : Int32) then w_SET_UP else w_TEAR_DOWN)), .val (.ref c36_0), .val (.ref c46_0), .val (if (p2 &&& (8 : Int32)) = (0 : Int32) then (.ref c36_0) else .null), .val (if (p2 &&& (16 : Int32)) = (0 : Int32) then (.ref c46_0) else .null), .val (.ref b50), .val (.ref b54), .val (.int kd_59), .val (.ref c14_0), .val (.int 0), .val (.int 0)]) rfl q) ?_
           show OwnFin _ _ _ _ (T57.setTop (mkF m 335 _ []))
           refine OwnFin.st (fun _ q => XS.aload Xr57.here hx rfl (hb hby at_335) rfl rfl q) ?_
           show OwnFin _ _ _ _ (T57.setTop (mkF m 337 _ [(.ref b50)]))
           refine OwnFin.st (fun _ q => XS.aload Xr57.here hx rfl (hb hby at_337) rfl rfl q) ?_
           show OwnFin _ _ _ _ (T57.setTop (mkF m 339 _ [(.ref c14_0), (.ref b50)]))
           have fr187 : Exa Z h57 c14_0 "java/lang/String" := (((((((((r14_1.keep K16).keep K34).keep K36).keep K44).keep K46).ext E50).keep K52).ext E54).keep K57)
           obtain ⟨cq188, kq188, q188a, q188b, q188c⟩ := isOf hZr57 e57 (((A50.keep K52).ext E54).keep K57)
           obtain ⟨_, _, ⟨T188, L188, k188, n188⟩, -, X188, ⟨Lc188, hQ188, l188, y188, z188⟩, st188⟩ := Xr57.virtualBack hx (y := yM17) (z := yM17) hor57 (mvT hZr57 (w_ hw 86 rfl)) (mvT hZr57 (w_ hw 87 rfl)) (notFace_of_selects (args := #[]) (mvT hZr57 (w_ hw 89 rfl))) (mvT hZr57 (w_ hw 89 rfl)) (mvT hZr57 (w_ hw 88 rfl)) (by decide) (backOf (W := 0) (rm_feS l Z av0 hw [] b50 c14_0 h57 n0 (Nat.le_trans Z0 kp58.1) fr187) hZr57 (w_ hw 90 rfl) (w_ hw 66 rfl) (by decide) (by decide)) q188a q188c (g := (mkF m 339 #[.val (.int p0), .val (.int p1), .val (.int p2), .val (.int p3), .val (.int p4), .val (.int y1_0), .val (.int n_3), .val (.int n_5), .val (.int c_7), .val (.int c_9), .val (.int c_11), .val (.int c_13), .val (.ref c14_0), .val (.ref c16_0), .val (.int ph_18), .val (.int ph_19), .val (.ref (if ph_18 = (0 : Int32) then w_SET_UP else w_TEAR_DOWN)), .val (.ref (if ph_19 = (0 : Int32) then w_SET_UP else w_TEAR_DOWN)), .val (.ref c36_0), .val (.ref c46_0), .val (if (p2 &&& (8 : Int32)) = (0 : Int32) then (.ref c36_0) else .null), .val (if (p2 &&& (16 : Int32)) = (0 : Int32) then (.ref c46_0) else .null), .val (.ref b50), .val (.ref b54), .val (.int kd_59), .val (.ref c14_0), .val (.int 0), .val (.int 0)] [(.ref c14_0), (.ref b50)])) rfl (by rw [hml]; rfl) (Steps.refl _) (argsL := [(.ref c14_0)]) (rest := []) (lenOf pd_10 rfl) rfl (by show 2 * 0 + _ ≤ _; exact Nat.le_of_eq rfl) (hb hby at_339) (fun _ _ => ⟨rfl, e57, (by decide : 36 + 0 ≤ _), (by decide : 188 + 0 ≤ _)⟩)
           dsimp only [Pt.U, Pt.locs, Pt.cells, Pt.slots] at X188 l188 y188 z188 st188 hQ188
           subst l188 y188 z188
           obtain ⟨rfl, N188q, he188⟩ := hQ188
           have N188 := Fr.app N57 N188q
           refine OwnFin.tr st188 ?_
           show OwnFin _ _ _ _ (T188.setTop (mkF m 342 _ [(.int 0)]))
           refine OwnFin.st (fun _ q => XS.iload X188.here hx rfl (hb hby at_342) rfl q) ?_
           show OwnFin _ _ _ _ (T188.setTop (mkF m 344 _ [(.int 0), (.int 0)]))
           refine OwnFin.st (fun _ q => XS.icmpNo X188.here hx rfl (hb hby at_344) rfl (Jvm.Free.XT.ii_ne_f (rfl : (0 : Int32) = (0 : Int32))) q) ?_
           show OwnFin _ _ _ _ (T188.setTop (mkF m 347 #[.val (.int p0), .val (.int p1), .val (.int p2), .val (.int p3), .val (.int p4), .val (.int y1_0), .val (.int n_3), .val (.int n_5), .val (.int c_7), .val (.int c_9), .val (.int c_11), .val (.int c_13), .val (.ref c14_0), .val (.ref c16_0), .val (.int ph_18), .val (.int ph_19), .val (.ref (if ph_18 = (0 : Int32) then w_SET_UP else w_TEAR_DOWN)), .val (.ref (if ph_19 = (0 : Int32) then w_SET_UP else w_TEAR_DOWN)), .val (.ref c36_0), .val (.ref c46_0), .val (if (p2 &&& (8 : Int32)) = (0 : Int32) then (.ref c36_0) else .null), .val (if (p2 &&& (16 : Int32)) = (0 : Int32) then (.ref c46_0) else .null), .val (.ref b50), .val (.ref b54), .val (.int kd_59), .val (.ref c14_0), .val (.int 0), .val (.int 0)] []))
           refine OwnFin.st (fun _ q => XS.iconst X188.here hx rfl (hb hby at_347) q) ?_
           show OwnFin _ _ _ _ (T188.setTop (mkF m 348 _ [(.int 1)]))
           refine OwnFin.st (fun _ q => XS.goto X188.here hx rfl (pc0 := 348) (pc' := 352) rfl (hb hby at_348) (by decide) (by decide) q) ?_
           show OwnFin _ _ _ _ (T188.setTop (mkF m 352 _ [(.int 1)]))
           obtain ⟨fs, hr, hrun, hended, hEW⟩ := X188.leaveW (s := s) hSr57 (by rw [he188]; exact (Nat.le_trans (Nat.le_refl _) (Nat.le_refl _))) (v := some (.int 1)) (fun h => by rw [Bd.returns] at h; cases h)
           have chE : CHr Z own_EL s.vm s.heap T188.vm T188.heap := by
             rw [hh, he188]
             exact ch58.trans (CHv.at X188 hZr57 (own_EW hw) ch58.1)
           refine ⟨_, _, retN X188 hx (t := .boolean) Bd.returns (by simp) (hb hby at_352) hr, hrun, hended, _, _, rfl, ?_, chE, hEW.1, hEW.2.1, hEW.2.2.1, hEW.2.2.2.mono (by decide) (by decide)⟩
           show Q_rm0 Z p0 p1 p2 p3 p4 w_TEAR_DOWN w_SET_UP w_COMPACT_STRINGS h0 n0 _ T188.heap _
           rw [he188]
           exact ⟨rfl, N188⟩
         ·
          refine OwnFin.st (fun _ q => XS.icmpYes Xr57.here hx rfl (pc0 := 257) (pc' := 267) rfl (hb hby at_257) rfl (Jvm.Free.XT.ii_ne_t hc170) (by decide) (by decide) q) ?_
          show OwnFin _ _ _ _ (T57.setTop (mkF m 267 _ []))
          refine OwnFin.st (fun _ q => XS.aload Xr57.here hx rfl (hb hby at_267) rfl rfl q) ?_
          show OwnFin _ _ _ _ (T57.setTop (mkF m 269 _ [(.ref c36_0)]))
          refine OwnFin.st (fun _ q => XS.astore Xr57.here hx rfl (hb hby at_269) rfl rfl (l' := #[.val (.int p0), .val (.int p1), .val (.int p2), .val (.int p3), .val (.int p4), .val (.int y1_0), .val (.int n_3), .val (.int n_5), .val (.int c_7), .val (.int c_9), .val (.int c_11), .val (.int c_13), .val (.ref c14_0), .val (.ref c16_0), .val (.int ph_18), .val (.int ph_19), .val (.ref (if ph_18 = (0 : Int32) then w_SET_UP else w_TEAR_DOWN)), .val (.ref (if ph_19 = (0 : Int32) then w_SET_UP else w_TEAR_DOWN)), .val (.ref c36_0), .val (.ref c46_0), .val (if (p2 &&& (8 : Int32)) = (0 : Int32) then (.ref c36_0) else .null), .val (if (p2 &&& (16 : Int32)) = (0 : Int32) then (.ref c46_0) else .null), .val (.ref b50), .val (.ref b54), .val (.int kd_59), .val (.ref c36_0), .unset, .unset]) rfl q) ?_
          show OwnFin _ _ _ _ (T57.setTop (mkF m 271 _ []))
          refine OwnFin.st (fun _ q => XS.iload Xr57.here hx rfl (hb hby at_271) rfl q) ?_
          show OwnFin _ _ _ _ (T57.setTop (mkF m 273 _ [(.int n_3)]))
          refine OwnFin.st (fun _ q => XS.iload Xr57.here hx rfl (hb hby at_273) rfl q) ?_
          show OwnFin _ _ _ _ (T57.setTop (mkF m 275 #[.val (.int p0), .val (.int p1), .val (.int p2), .val (.int p3), .val (.int p4), .val (.int y1_0), .val (.int n_3), .val (.int n_5), .val (.int c_7), .val (.int c_9), .val (.int c_11), .val (.int c_13), .val (.ref c14_0), .val (.ref c16_0), .val (.int ph_18), .val (.int ph_19), .val (.ref (if ph_18 = (0 : Int32) then w_SET_UP else w_TEAR_DOWN)), .val (.ref (if ph_19 = (0 : Int32) then w_SET_UP else w_TEAR_DOWN)), .val (.ref c36_0), .val (.ref c46_0), .val (if (p2 &&& (8 : Int32)) = (0 : Int32) then (.ref c36_0) else .null), .val (if (p2 &&& (16 : Int32)) = (0 : Int32) then (.ref c46_0) else .null), .val (.ref b50), .val (.ref b54), .val (.int kd_59), .val (.ref c36_0), .unset, .unset] [(.int n_5), (.int n_3)]))
          by_cases hc189 : n_3 = n_5
          ·
           refine OwnFin.st (fun _ q => XS.icmpNo Xr57.here hx rfl (hb hby at_275) rfl (Jvm.Free.XT.ii_ne_f hc189) q) ?_
           show OwnFin _ _ _ _ (T57.setTop (mkF m 278 _ []))
           refine OwnFin.st (fun _ q => XS.iload Xr57.here hx rfl (hb hby at_278) rfl q) ?_
           show OwnFin _ _ _ _ (T57.setTop (mkF m 280 _ [(.int n_3)]))
           refine OwnFin.st (fun _ q => XS.iconst Xr57.here hx rfl (hb hby at_280) q) ?_
           show OwnFin _ _ _ _ (T57.setTop (mkF m 281 _ [(.int 1), (.int n_3)]))
           by_cases hc190 : n_3 < (1 : Int32)
           ·
            refine OwnFin.st (fun _ q => XS.icmpYes Xr57.here hx rfl (pc0 := 281) (pc' := 291) rfl (hb hby at_281) rfl (Jvm.Free.XT.ii_lt_t hc190) (by decide) (by decide) q) ?_
            show OwnFin _ _ _ _ (T57.setTop (mkF m 291 _ []))
            refine OwnFin.st (fun _ q => XS.iload Xr57.here hx rfl (hb hby at_291) rfl q) ?_
            show OwnFin _ _ _ _ (T57.setTop (mkF m 293 _ [(.int n_3)]))
            refine OwnFin.st (fun _ q => XS.iconst Xr57.here hx rfl (hb hby at_293) q) ?_
            show OwnFin _ _ _ _ (T57.setTop (mkF m 294 _ [(.int 2), (.int n_3)]))
            have hd191 : n_3 < (2 : Int32) := (om_rm0_26 n_3 n_5 hbn_3_0 hbn_3_1 hbn_5_0 hbn_5_1 hc189 hc190)
            refine OwnFin.st (fun _ q => XS.icmpYes Xr57.here hx rfl (pc0 := 294) (pc' := 304) rfl (hb hby at_294) rfl (Jvm.Free.XT.ii_lt_t hd191) (by decide) (by decide) q) ?_
            show OwnFin _ _ _ _ (T57.setTop (mkF m 304 _ []))
            refine OwnFin.st (fun _ q => XS.iconst Xr57.here hx rfl (hb hby at_304) q) ?_
            show OwnFin _ _ _ _ (T57.setTop (mkF m 305 _ [(.int 1)]))
            refine OwnFin.st (fun _ q => XS.goto Xr57.here hx rfl (pc0 := 305) (pc' := 309) rfl (hb hby at_305) (by decide) (by decide) q) ?_
            show OwnFin _ _ _ _ (T57.setTop (mkF m 309 _ [(.int 1)]))
            refine OwnFin.st (fun _ q => XS.istore Xr57.here hx rfl (hb hby at_309) rfl (l' := #[.val (.int p0), .val (.int p1), .val (.int p2), .val (.int p3), .val (.int p4), .val (.int y1_0), .val (.int n_3), .val (.int n_5), .val (.int c_7), .val (.int c_9), .val (.int c_11), .val (.int c_13), .val (.ref c14_0), .val (.ref c16_0), .val (.int ph_18), .val (.int ph_19), .val (.ref (if ph_18 = (0 : Int32) then w_SET_UP else w_TEAR_DOWN)), .val (.ref (if ph_19 = (0 : Int32) then w_SET_UP else w_TEAR_DOWN)), .val (.ref c36_0), .val (.ref c46_0), .val (if (p2 &&& (8 : Int32)) = (0 : Int32) then (.ref c36_0) else .null), .val (if (p2 &&& (16 : Int32)) = (0 : Int32) then (.ref c46_0) else .null), .val (.ref b50), .val (.ref b54), .val (.int kd_59), .val (.ref c36_0), .val (.int 1), .unset]) rfl q) ?_
            show OwnFin _ _ _ _ (T57.setTop (mkF m 311 _ []))
            refine OwnFin.st (fun _ q => XS.iload Xr57.here hx rfl (hb hby at_311) rfl q) ?_
            show OwnFin _ _ _ _ (T57.setTop (mkF m 313 _ [(.int kd_59)]))
            refine OwnFin.st (fun _ q => XS.ifYes Xr57.here hx rfl (pc0 := 313) (pc' := 332) rfl (hb hby at_313) rfl (Jvm.Free.XT.i0_ne_t hc60) (by decide) (by decide) q) ?_
            show OwnFin _ _ _ _ (T57.setTop (mkF m 332 _ []))
            refine OwnFin.st (fun _ q => XS.iconst Xr57.here hx rfl (hb hby at_332) q) ?_
            show OwnFin _ _ _ _ (T57.setTop (mkF m 333 #[.val (.int p0), .val (.int p1), .val (.int p2), .val (.int p3), .val (.int p4), .val (.int y1_0), .val (.int n_3), .val (.int n_5), .val (.int c_7), .val (.int c_9), .val (.int c_11), .val (.int c_13), .val (.ref c14_0), .val (.ref c16_0), .val (.int ph_18), .val (.int ph_19), .val (.ref (if ph_18 = (0 : Int32) then w_SET_UP else w_TEAR_DOWN)), .val (.ref (if ph_19 = (0 : Int32) then w_SET_UP else w_TEAR_DOWN)), .val (.ref c36_0), .val (.ref c46_0), .val (if (p2 &&& (8 : Int32)) = (0 : Int32) then (.ref c36_0) else .null), .val (if (p2 &&& (16 : Int32)) = (0 : Int32) then (.ref c46_0) else .null), .val (.ref b50), .val (.ref b54), .val (.int kd_59), .val (.ref c36_0), .val (.int 1), .unset] [(.int 0)]))
            refine OwnFin.st (fun _ q => XS.istore Xr57.here hx rfl (hb hby at_333) rfl (l' := #[.val (.int p0), .val (.int p1), .val (.int p2), .val (.int p3), .val (.int p4), .val (.int y1_0), .val (.int n_3), .val (.int n_5), .val (.int c_7), .val (.int c_9), .val (.int c_11), .val (.int c_13), .val (.ref c14_0), .val (.ref c16_0), .val (.int ph_18), .val (.int ph_19), .val (.ref (if ph_18 = (0 : Int32) then w_SET_UP else w_TEAR_DOWN)), .val (.ref (if ph_19 = (0 : Int32) then w_SET_UP else w_TEAR_DOWN)), .val (.ref c36_0), .val (.ref c46_0), .val (if (p2 &&& (8 : Int32)) = (0 : Int32) then (.ref c36_0) else .null), .val (if (p2 &&& (16 : Int32)) = (0 : Int32) then (.ref c46_0) else .null), .val (.ref b50), .val (.ref b54), .val (.int kd_59), .val (.ref c36_0), .val (.int 1), .val (.int 0)]) rfl q) ?_
            show OwnFin _ _ _ _ (T57.setTop (mkF m 335 _ []))
            refine OwnFin.st (fun _ q => XS.aload Xr57.here hx rfl (hb hby at_335) rfl rfl q) ?_
            show OwnFin _ _ _ _ (T57.setTop (mkF m 337 _ [(.ref b50)]))
            refine OwnFin.st (fun _ q => XS.aload Xr57.here hx rfl (hb hby at_337) rfl rfl q) ?_
            show OwnFin _ _ _ _ (T57.setTop (mkF m 339 _ [(.ref c36_0), (.ref b50)]))
            obtain ⟨cq192, kq192, q192a, q192b, q192c⟩ := isOf hZr57 e57 (((A50.keep K52).ext E54).keep K57)
            obtain ⟨_, _, ⟨T192, L192, k192, n192⟩, -, X192, ⟨Lc192, hQ192, l192, y192, z192⟩, st192⟩ := Xr57.virtualBack hx (y := yM17) (z := yM17) hor57 (mvT hZr57 (w_ hw 86 rfl)) (mvT hZr57 (w_ hw 87 rfl)) (notFace_of_selects (args := #[]) (mvT hZr57 (w_ hw 89 rfl))) (mvT hZr57 (w_ hw 89 rfl)) (mvT hZr57 (w_ hw 88 rfl)) (by decide) (backOf (W := 0) (rm_feC l Z av0 hw [] b50 c36_0 h57 n0 (Nat.le_trans Z0 kp58.1) ((((((r36_1.keep K44).keep K46).ext E50).keep K52).ext E54).keep K57)) hZr57 (w_ hw 90 rfl) (w_ hw 66 rfl) (by decide) (by decide)) q192a q192c (g := (mkF m 339 #[.val (.int p0), .val (.int p1), .val (.int p2), .val (.int p3), .val (.int p4), .val (.int y1_0), .val (.int n_3), .val (.int n_5), .val (.int c_7), .val (.int c_9), .val (.int c_11), .val (.int c_13), .val (.ref c14_0), .val (.ref c16_0), .val (.int ph_18), .val (.int ph_19), .val (.ref (if ph_18 = (0 : Int32) then w_SET_UP else w_TEAR_DOWN)), .val (.ref (if ph_19 = (0 : Int32) then w_SET_UP else w_TEAR_DOWN)), .val (.ref c36_0), .val (.ref c46_0), .val (if (p2 &&& (8 : Int32)) = (0 : Int32) then (.ref c36_0) else .null), .val (if (p2 &&& (16 : Int32)) = (0 : Int32) then (.ref c46_0) else .null), .val (.ref b50), .val (.ref b54), .val (.int kd_59), .val (.ref c36_0), .val (.int 1), .val (.int 0)] [(.ref c36_0), (.ref b50)])) rfl (by rw [hml]; rfl) (Steps.refl _) (argsL := [(.ref c36_0)]) (rest := []) (lenOf pd_10 rfl) rfl (by show 2 * 0 + _ ≤ _; exact Nat.le_of_eq rfl) (hb hby at_339) (fun _ _ => ⟨rfl, e57, (by decide : 36 + 0 ≤ _), (by decide : 188 + 0 ≤ _)⟩)
            dsimp only [Pt.U, Pt.locs, Pt.cells, Pt.slots] at X192 l192 y192 z192 st192 hQ192
            subst l192 y192 z192
            obtain ⟨rfl, N192q, he192⟩ := hQ192
            have N192 := Fr.app N57 N192q
            refine OwnFin.tr st192 ?_
            show OwnFin _ _ _ _ (T192.setTop (mkF m 342 _ [(.int 0)]))
            refine OwnFin.st (fun _ q => XS.iload X192.here hx rfl (hb hby at_342) rfl q) ?_
            show OwnFin _ _ _ _ (T192.setTop (mkF m 344 _ [(.int 0), (.int 0)]))
            refine OwnFin.st (fun _ q => XS.icmpNo X192.here hx rfl (hb hby at_344) rfl (Jvm.Free.XT.ii_ne_f (rfl : (0 : Int32) = (0 : Int32))) q) ?_
            show OwnFin _ _ _ _ (T192.setTop (mkF m 347 _ []))
            refine OwnFin.st (fun _ q => XS.iconst X192.here hx rfl (hb hby at_347) q) ?_
            show OwnFin _ _ _ _ (T192.setTop (mkF m 348 _ [(.int 1)]))
            refine OwnFin.st (fun _ q => XS.goto X192.here hx rfl (pc0 := 348) (pc' := 352) rfl (hb hby at_348) (by decide) (by decide) q) ?_
            show OwnFin _ _ _ _ (T192.setTop (mkF m 352 _ [(.int 1)]))
            obtain ⟨fs, hr, hrun, hended, hEW⟩ := X192.leaveW (s := s) hSr57 (by rw [he192]; exact (Nat.le_trans (Nat.le_refl _) (Nat.le_refl _))) (v := some (.int 1)) (fun h => by rw [Bd.returns] at h; cases h)
            have chE : CHr Z own_EL s.vm s.heap T192.vm T192.heap := by
              rw [hh, he192]
              exact ch58.trans (CHv.at X192 hZr57 (own_EW hw) ch58.1)
            refine ⟨_, _, retN X192 hx (t := .boolean) Bd.returns (by simp) (hb hby at_352) hr, hrun, hended, _, _, rfl, ?_, chE, hEW.1, hEW.2.1, hEW.2.2.1, hEW.2.2.2.mono (by decide) (by decide)⟩
            show Q_rm0 Z p0 p1 p2 p3 p4 w_TEAR_DOWN w_SET_UP w_COMPACT_STRINGS h0 n0 _ T192.heap _
            rw [he192]
            exact ⟨rfl, N192⟩
           ·
            refine OwnFin.st (fun _ q => XS.icmpNo Xr57.here hx rfl (hb hby at_281) rfl (Jvm.Free.XT.ii_lt_f hc190) q) ?_
            show OwnFin _ _ _ _ (T57.setTop (mkF m 284 _ []))
            refine OwnFin.st (fun _ q => XS.iload Xr57.here hx rfl (hb hby at_284) rfl q) ?_
            show OwnFin _ _ _ _ (T57.setTop (mkF m 286 _ [(.int c_7)]))
            refine OwnFin.st (fun _ q => XS.iload Xr57.here hx rfl (hb hby at_286) rfl q) ?_
            show OwnFin _ _ _ _ (T57.setTop (mkF m 288 _ [(.int c_11), (.int c_7)]))
            by_cases hc193 : c_7 = c_11
            ·
             refine OwnFin.st (fun _ q => XS.icmpNo Xr57.here hx rfl (hb hby at_288) rfl (Jvm.Free.XT.ii_ne_f hc193) q) ?_
             show OwnFin _ _ _ _ (T57.setTop (mkF m 291 _ []))
             refine OwnFin.st (fun _ q => XS.iload Xr57.here hx rfl (hb hby at_291) rfl q) ?_
             show OwnFin _ _ _ _ (T57.setTop (mkF m 293 _ [(.int n_3)]))
             refine OwnFin.st (fun _ q => XS.iconst Xr57.here hx rfl (hb hby at_293) q) ?_
             show OwnFin _ _ _ _ (T57.setTop (mkF m 294 _ [(.int 2), (.int n_3)]))
             by_cases hc194 : n_3 < (2 : Int32)
             ·
              refine OwnFin.st (fun _ q => XS.icmpYes Xr57.here hx rfl (pc0 := 294) (pc' := 304) rfl (hb hby at_294) rfl (Jvm.Free.XT.ii_lt_t hc194) (by decide) (by decide) q) ?_
              show OwnFin _ _ _ _ (T57.setTop (mkF m 304 _ []))
              refine OwnFin.st (fun _ q => XS.iconst Xr57.here hx rfl (hb hby at_304) q) ?_
              show OwnFin _ _ _ _ (T57.setTop (mkF m 305 _ [(.int 1)]))
              refine OwnFin.st (fun _ q => XS.goto Xr57.here hx rfl (pc0 := 305) (pc' := 309) rfl (hb hby at_305) (by decide) (by decide) q) ?_
              show OwnFin _ _ _ _ (T57.setTop (mkF m 309 _ [(.int 1)]))
              refine OwnFin.st (fun _ q => XS.istore Xr57.here hx rfl (hb hby at_309) rfl (l' := #[.val (.int p0), .val (.int p1), .val (.int p2), .val (.int p3), .val (.int p4), .val (.int y1_0), .val (.int n_3), .val (.int n_5), .val (.int c_7), .val (.int c_9), .val (.int c_11), .val (.int c_13), .val (.ref c14_0), .val (.ref c16_0), .val (.int ph_18), .val (.int ph_19), .val (.ref (if ph_18 = (0 : Int32) then w_SET_UP else w_TEAR_DOWN)), .val (.ref (if ph_19 = (0 : Int32) then w_SET_UP else w_TEAR_DOWN)), .val (.ref c36_0), .val (.ref c46_0), .val (if (p2 &&& (8 : Int32)) = (0 : Int32) then (.ref c36_0) else .null), .val (if (p2 &&& (16 : Int32)) = (0 : Int32) then (.ref c46_0) else .null), .val (.ref b50), .val (.ref b54), .val (.int kd_59), .val (.ref c36_0), .val (.int 1), .unset]) rfl q) ?_
              show OwnFin _ _ _ _ (T57.setTop (mkF m 311 #[.val (.int p0), .val (.int p1), .val (.int p2), .val (.int p3), .val (.int p4), .val (.int y1_0), .val (.int n_3), .val (.int n_5), .val (.int c_7), .val (.int c_9), .val (.int c_11), .val (.int c_13), .val (.ref c14_0), .val (.ref c16_0), .val (.int ph_18), .val (.int ph_19), .val (.ref (if ph_18 = (0 : Int32) then w_SET_UP else w_TEAR_DOWN)), .val (.ref (if ph_19 = (0 : Int32) then w_SET_UP else w_TEAR_DOWN)), .val (.ref c36_0), .val (.ref c46_0), .val (if (p2 &&& (8 : Int32)) = (0 : Int32) then (.ref c36_0) else .null), .val (if (p2 &&& (16 : Int32)) = (0 : Int32) then (.ref c46_0) else .null), .val (.ref b50), .val (.ref b54), .val (.int kd_59), .val (.ref c36_0), .val (.int 1), .unset] []))
              refine OwnFin.st (fun _ q => XS.iload Xr57.here hx rfl (hb hby at_311) rfl q) ?_
              show OwnFin _ _ _ _ (T57.setTop (mkF m 313 _ [(.int kd_59)]))
              refine OwnFin.st (fun _ q => XS.ifYes Xr57.here hx rfl (pc0 := 313) (pc' := 332) rfl (hb hby at_313) rfl (Jvm.Free.XT.i0_ne_t hc60) (by decide) (by decide) q) ?_
              show OwnFin _ _ _ _ (T57.setTop (mkF m 332 _ []))
              refine OwnFin.st (fun _ q => XS.iconst Xr57.here hx rfl (hb hby at_332) q) ?_
              show OwnFin _ _ _ _ (T57.setTop (mkF m 333 _ [(.int 0)]))
              refine OwnFin.st (fun _ q => XS.istore Xr57.here hx rfl (hb hby at_333) rfl (l' := #[.val (.int p0), .val (.int p1), .val (.int p2), .val (.int p3), .val (.int p4), .val (.int y1_0), .val (.int n_3), .val (.int n_5), .val (.int c_7), .val (.int c_9), .val (.int c_11), .val (.int c_13), .val (.ref c14_0), .val (.ref c16_0), .val (.int ph_18), .val (.int ph_19), .val (.ref (if ph_18 = (0 : Int32) then w_SET_UP else w_TEAR_DOWN)), .val (.ref (if ph_19 = (0 : Int32) then w_SET_UP else w_TEAR_DOWN)), .val (.ref c36_0), .val (.ref c46_0), .val (if (p2 &&& (8 : Int32)) = (0 : Int32) then (.ref c36_0) else .null), .val (if (p2 &&& (16 : Int32)) = (0 : Int32) then (.ref c46_0) else .null), .val (.ref b50), .val (.ref b54), .val (.int kd_59), .val (.ref c36_0), .val (.int 1), .val (.int 0)]) rfl q) ?_
              show OwnFin _ _ _ _ (T57.setTop (mkF m 335 _ []))
              refine OwnFin.st (fun _ q => XS.aload Xr57.here hx rfl (hb hby at_335) rfl rfl q) ?_
              show OwnFin _ _ _ _ (T57.setTop (mkF m 337 _ [(.ref b50)]))
              refine OwnFin.st (fun _ q => XS.aload Xr57.here hx rfl (hb hby at_337) rfl rfl q) ?_
              show OwnFin _ _ _ _ (T57.setTop (mkF m 339 _ [(.ref c36_0), (.ref b50)]))
              obtain ⟨cq195, kq195, q195a, q195b, q195c⟩ := isOf hZr57 e57 (((A50.keep K52).ext E54).keep K57)
              obtain ⟨_, _, ⟨T195, L195, k195, n195⟩, -, X195, ⟨Lc195, hQ195, l195, y195, z195⟩, st195⟩ := Xr57.virtualBack hx (y := yM17) (z := yM17) hor57 (mvT hZr57 (w_ hw 86 rfl)) (mvT hZr57 (w_ hw 87 rfl)) (notFace_of_selects (args := #[]) (mvT hZr57 (w_ hw 89 rfl))) (mvT hZr57 (w_ hw 89 rfl)) (mvT hZr57 (w_ hw 88 rfl)) (by decide) (backOf (W := 0) (rm_feC l Z av0 hw [] b50 c36_0 h57 n0 (Nat.le_trans Z0 kp58.1) ((((((r36_1.keep K44).keep K46).ext E50).keep K52).ext E54).keep K57)) hZr57 (w_ hw 90 rfl) (w_ hw 66 rfl) (by decide) (by decide)) q195a q195c (g := (mkF m 339 #[.val (.int p0), .val (.int p1), .val (.int p2), .val (.int p3), .val (.int p4), .val (.int y1_0), .val (.int n_3), .val (.int n_5), .val (.int c_7), .val (.int c_9), .val (.int c_11), .val (.int c_13), .val (.ref c14_0), .val (.ref c16_0), .val (.int ph_18), .val (.int ph_19), .val (.ref (if ph_18 = (0 : Int32) then w_SET_UP else w_TEAR_DOWN)), .val (.ref (if ph_19 = (0 : Int32) then w_SET_UP else w_TEAR_DOWN)), .val (.ref c36_0), .val (.ref c46_0), .val (if (p2 &&& (8 : Int32)) = (0 : Int32) then (.ref c36_0) else .null), .val (if (p2 &&& (16 : Int32)) = (0 : Int32) then (.ref c46_0) else .null), .val (.ref b50), .val (.ref b54), .val (.int kd_59), .val (.ref c36_0), .val (.int 1), .val (.int 0)] [(.ref c36_0), (.ref b50)])) rfl (by rw [hml]; rfl) (Steps.refl _) (argsL := [(.ref c36_0)]) (rest := []) (lenOf pd_10 rfl) rfl (by show 2 * 0 + _ ≤ _; exact Nat.le_of_eq rfl) (hb hby at_339) (fun _ _ => ⟨rfl, e57, (by decide : 36 + 0 ≤ _), (by decide : 188 + 0 ≤ _)⟩)
              dsimp only [Pt.U, Pt.locs, Pt.cells, Pt.slots] at X195 l195 y195 z195 st195 hQ195
              subst l195 y195 z195
              obtain ⟨rfl, N195q, he195⟩ := hQ195
              have N195 := Fr.app N57 N195q
              refine OwnFin.tr st195 ?_
              show OwnFin _ _ _ _ (T195.setTop (mkF m 342 _ [(.int 0)]))
              refine OwnFin.st (fun _ q => XS.iload X195.here hx rfl (hb hby at_342) rfl q) ?_
              show OwnFin _ _ _ _ (T195.setTop (mkF m 344 _ [(.int 0), (.int 0)]))
              refine OwnFin.st (fun _ q => XS.icmpNo X195.here hx rfl (hb hby at_344) rfl (Jvm.Free.XT.ii_ne_f (rfl : (0 : Int32) = (0 : Int32))) q) ?_
              show OwnFin _ _ _ _ (T195.setTop (mkF m 347 _ []))
              refine OwnFin.st (fun _ q => XS.iconst X195.here hx rfl (hb hby at_347) q) ?_
              show OwnFin _ _ _ _ (T195.setTop (mkF m 348 _ [(.int 1)]))
              refine OwnFin.st (fun _ q => XS.goto X195.here hx rfl (pc0 := 348) (pc' := 352) rfl (hb hby at_348) (by decide) (by decide) q) ?_
              show OwnFin _ _ _ _ (T195.setTop (mkF m 352 _ [(.int 1)]))
              obtain ⟨fs, hr, hrun, hended, hEW⟩ := X195.leaveW (s := s) hSr57 (by rw [he195]; exact (Nat.le_trans (Nat.le_refl _) (Nat.le_refl _))) (v := some (.int 1)) (fun h => by rw [Bd.returns] at h; cases h)
              have chE : CHr Z own_EL s.vm s.heap T195.vm T195.heap := by
                rw [hh, he195]
                exact ch58.trans (CHv.at X195 hZr57 (own_EW hw) ch58.1)
              refine ⟨_, _, retN X195 hx (t := .boolean) Bd.returns (by simp) (hb hby at_352) hr, hrun, hended, _, _, rfl, ?_, chE, hEW.1, hEW.2.1, hEW.2.2.1, hEW.2.2.2.mono (by decide) (by decide)⟩
              show Q_rm0 Z p0 p1 p2 p3 p4 w_TEAR_DOWN w_SET_UP w_COMPACT_STRINGS h0 n0 _ T195.heap _
              rw [he195]
              exact ⟨rfl, N195⟩
             ·
              refine OwnFin.st (fun _ q => XS.icmpNo Xr57.here hx rfl (hb hby at_294) rfl (Jvm.Free.XT.ii_lt_f hc194) q) ?_
              show OwnFin _ _ _ _ (T57.setTop (mkF m 297 _ []))
              refine OwnFin.st (fun _ q => XS.iload Xr57.here hx rfl (hb hby at_297) rfl q) ?_
              show OwnFin _ _ _ _ (T57.setTop (mkF m 299 _ [(.int c_9)]))
              refine OwnFin.st (fun _ q => XS.iload Xr57.here hx rfl (hb hby at_299) rfl q) ?_
              show OwnFin _ _ _ _ (T57.setTop (mkF m 301 _ [(.int c_13), (.int c_9)]))
              by_cases hc196 : c_9 = c_13
              ·
               refine OwnFin.st (fun _ q => XS.icmpNo Xr57.here hx rfl (hb hby at_301) rfl (Jvm.Free.XT.ii_ne_f hc196) q) ?_
               show OwnFin _ _ _ _ (T57.setTop (mkF m 304 #[.val (.int p0), .val (.int p1), .val (.int p2), .val (.int p3), .val (.int p4), .val (.int y1_0), .val (.int n_3), .val (.int n_5), .val (.int c_7), .val (.int c_9), .val (.int c_11), .val (.int c_13), .val (.ref c14_0), .val (.ref c16_0), .val (.int ph_18), .val (.int ph_19), .val (.ref (if ph_18 = (0 : Int32) then w_SET_UP else w_TEAR_DOWN)), .val (.ref (if ph_19 = (0 : Int32) then w_SET_UP else w_TEAR_DOWN)), .val (.ref c36_0), .val (.ref c46_0), .val (if (p2 &&& (8 : Int32)) = (0 : Int32) then (.ref c36_0) else .null), .val (if (p2 &&& (16 : Int32)) = (0 : Int32) then (.ref c46_0) else .null), .val (.ref b50), .val (.ref b54), .val (.int kd_59), .val (.ref c36_0), .unset, .unset] []))
               refine OwnFin.st (fun _ q => XS.iconst Xr57.here hx rfl (hb hby at_304) q) ?_
               show OwnFin _ _ _ _ (T57.setTop (mkF m 305 _ [(.int 1)]))
               refine OwnFin.st (fun _ q => XS.goto Xr57.here hx rfl (pc0 := 305) (pc' := 309) rfl (hb hby at_305) (by decide) (by decide) q) ?_
               show OwnFin _ _ _ _ (T57.setTop (mkF m 309 _ [(.int 1)]))
               refine OwnFin.st (fun _ q => XS.istore Xr57.here hx rfl (hb hby at_309) rfl (l' := #[.val (.int p0), .val (.int p1), .val (.int p2), .val (.int p3), .val (.int p4), .val (.int y1_0), .val (.int n_3), .val (.int n_5), .val (.int c_7), .val (.int c_9), .val (.int c_11), .val (.int c_13), .val (.ref c14_0), .val (.ref c16_0), .val (.int ph_18), .val (.int ph_19), .val (.ref (if ph_18 = (0 : Int32) then w_SET_UP else w_TEAR_DOWN)), .val (.ref (if ph_19 = (0 : Int32) then w_SET_UP else w_TEAR_DOWN)), .val (.ref c36_0), .val (.ref c46_0), .val (if (p2 &&& (8 : Int32)) = (0 : Int32) then (.ref c36_0) else .null), .val (if (p2 &&& (16 : Int32)) = (0 : Int32) then (.ref c46_0) else .null), .val (.ref b50), .val (.ref b54), .val (.int kd_59), .val (.ref c36_0), .val (.int 1), .unset]) rfl q) ?_
               show OwnFin _ _ _ _ (T57.setTop (mkF m 311 _ []))
               refine OwnFin.st (fun _ q => XS.iload Xr57.here hx rfl (hb hby at_311) rfl q) ?_
               show OwnFin _ _ _ _ (T57.setTop (mkF m 313 _ [(.int kd_59)]))
               refine OwnFin.st (fun _ q => XS.ifYes Xr57.here hx rfl (pc0 := 313) (pc' := 332) rfl (hb hby at_313) rfl (Jvm.Free.XT.i0_ne_t hc60) (by decide) (by decide) q) ?_
               show OwnFin _ _ _ _ (T57.setTop (mkF m 332 _ []))
               refine OwnFin.st (fun _ q => XS.iconst Xr57.here hx rfl (hb hby at_332) q) ?_
               show OwnFin _ _ _ _ (T57.setTop (mkF m 333 _ [(.int 0)]))
               refine OwnFin.st (fun _ q => XS.istore Xr57.here hx rfl (hb hby at_333) rfl (l' := #[.val (.int p0), .val (.int p1), .val (.int p2), .val (.int p3), .val (.int p4), .val (.int y1_0), .val (.int n_3), .val (.int n_5), .val (.int c_7), .val (.int c_9), .val (.int c_11), .val (.int c_13), .val (.ref c14_0), .val (.ref c16_0), .val (.int ph_18), .val (.int ph_19), .val (.ref (if ph_18 = (0 : Int32) then w_SET_UP else w_TEAR_DOWN)), .val (.ref (if ph_19 = (0 : Int32) then w_SET_UP else w_TEAR_DOWN)), .val (.ref c36_0), .val (.ref c46_0), .val (if (p2 &&& (8 : Int32)) = (0 : Int32) then (.ref c36_0) else .null), .val (if (p2 &&& (16 : Int32)) = (0 : Int32) then (.ref c46_0) else .null), .val (.ref b50), .val (.ref b54), .val (.int kd_59), .val (.ref c36_0), .val (.int 1), .val (.int 0)]) rfl q) ?_
               show OwnFin _ _ _ _ (T57.setTop (mkF m 335 _ []))
               refine OwnFin.st (fun _ q => XS.aload Xr57.here hx rfl (hb hby at_335) rfl rfl q) ?_
               show OwnFin _ _ _ _ (T57.setTop (mkF m 337 _ [(.ref b50)]))
               refine OwnFin.st (fun _ q => XS.aload Xr57.here hx rfl (hb hby at_337) rfl rfl q) ?_
               show OwnFin _ _ _ _ (T57.setTop (mkF m 339 _ [(.ref c36_0), (.ref b50)]))
               obtain ⟨cq197, kq197, q197a, q197b, q197c⟩ := isOf hZr57 e57 (((A50.keep K52).ext E54).keep K57)
               obtain ⟨_, _, ⟨T197, L197, k197, n197⟩, -, X197, ⟨Lc197, hQ197, l197, y197, z197⟩, st197⟩ := Xr57.virtualBack hx (y := yM17) (z := yM17) hor57 (mvT hZr57 (w_ hw 86 rfl)) (mvT hZr57 (w_ hw 87 rfl)) (notFace_of_selects (args := #[]) (mvT hZr57 (w_ hw 89 rfl))) (mvT hZr57 (w_ hw 89 rfl)) (mvT hZr57 (w_ hw 88 rfl)) (by decide) (backOf (W := 0) (rm_feC l Z av0 hw [] b50 c36_0 h57 n0 (Nat.le_trans Z0 kp58.1) ((((((r36_1.keep K44).keep K46).ext E50).keep K52).ext E54).keep K57)) hZr57 (w_ hw 90 rfl) (w_ hw 66 rfl) (by decide) (by decide)) q197a q197c (g := (mkF m 339 #[.val (.int p0), .val (.int p1), .val (.int p2), .val (.int p3), .val (.int p4), .val (.int y1_0), .val (.int n_3), .val (.int n_5), .val (.int c_7), .val (.int c_9), .val (.int c_11), .val (.int c_13), .val (.ref c14_0), .val (.ref c16_0), .val (.int ph_18), .val (.int ph_19), .val (.ref (if ph_18 = (0 : Int32) then w_SET_UP else w_TEAR_DOWN)), .val (.ref (if ph_19 = (0 : Int32) then w_SET_UP else w_TEAR_DOWN)), .val (.ref c36_0), .val (.ref c46_0), .val (if (p2 &&& (8 : Int32)) = (0 : Int32) then (.ref c36_0) else .null), .val (if (p2 &&& (16 : Int32)) = (0 : Int32) then (.ref c46_0) else .null), .val (.ref b50), .val (.ref b54), .val (.int kd_59), .val (.ref c36_0), .val (.int 1), .val (.int 0)] [(.ref c36_0), (.ref b50)])) rfl (by rw [hml]; rfl) (Steps.refl _) (argsL := [(.ref c36_0)]) (rest := []) (lenOf pd_10 rfl) rfl (by show 2 * 0 + _ ≤ _; exact Nat.le_of_eq rfl) (hb hby at_339) (fun _ _ => ⟨rfl, e57, (by decide : 36 + 0 ≤ _), (by decide : 188 + 0 ≤ _)⟩)
               dsimp only [Pt.U, Pt.locs, Pt.cells, Pt.slots] at X197 l197 y197 z197 st197 hQ197
               subst l197 y197 z197
               obtain ⟨rfl, N197q, he197⟩ := hQ197
               have N197 := Fr.app N57 N197q
               refine OwnFin.tr st197 ?_
               show OwnFin _ _ _ _ (T197.setTop (mkF m 342 _ [(.int 0)]))
               refine OwnFin.st (fun _ q => XS.iload X197.here hx rfl (hb hby at_342) rfl q) ?_
               show OwnFin _ _ _ _ (T197.setTop (mkF m 344 _ [(.int 0), (.int 0)]))
               refine OwnFin.st (fun _ q => XS.icmpNo X197.here hx rfl (hb hby at_344) rfl (Jvm.Free.XT.ii_ne_f (rfl : (0 : Int32) = (0 : Int32))) q) ?_
               show OwnFin _ _ _ _ (T197.setTop (mkF m 347 _ []))
               refine OwnFin.st (fun _ q => XS.iconst X197.here hx rfl (hb hby at_347) q) ?_
               show OwnFin _ _ _ _ (T197.setTop (mkF m 348 #[.val (.int p0), .val (.int p1), .val (.int p2), .val (.int p3), .val (.int p4), .val (.int y1_0), .val (.int n_3), .val (.int n_5), .val (.int c_7), .val (.int c_9), .val (.int c_11), .val (.int c_13), .val (.ref c14_0), .val (.ref c16_0), .val (.int ph_18), .val (.int ph_19), .val (.ref (if ph_18 = (0 : Int32) then w_SET_UP else w_TEAR_DOWN)), .val (.ref (if ph_19 = (0 : Int32) then w_SET_UP else w_TEAR_DOWN)), .val (.ref c36_0), .val (.ref c46_0), .val (if (p2 &&& (8 : Int32)) = (0 : Int32) then (.ref c36_0) else .null), .val (if (p2 &&& (16 : Int32)) = (0 : Int32) then (.ref c46_0) else .null), .val (.ref b50), .val (.ref b54), .val (.int kd_59), .val (.ref c36_0), .val (.int 1), .val (.int 0)] [(.int 1)]))
               refine OwnFin.st (fun _ q => XS.goto X197.here hx rfl (pc0 := 348) (pc' := 352) rfl (hb hby at_348) (by decide) (by decide) q) ?_
               show OwnFin _ _ _ _ (T197.setTop (mkF m 352 _ [(.int 1)]))
               obtain ⟨fs, hr, hrun, hended, hEW⟩ := X197.leaveW (s := s) hSr57 (by rw [he197]; exact (Nat.le_trans (Nat.le_refl _) (Nat.le_refl _))) (v := some (.int 1)) (fun h => by rw [Bd.returns] at h; cases h)
               have chE : CHr Z own_EL s.vm s.heap T197.vm T197.heap := by
                 rw [hh, he197]
                 exact ch58.trans (CHv.at X197 hZr57 (own_EW hw) ch58.1)
               refine ⟨_, _, retN X197 hx (t := .boolean) Bd.returns (by simp) (hb hby at_352) hr, hrun, hended, _, _, rfl, ?_, chE, hEW.1, hEW.2.1, hEW.2.2.1, hEW.2.2.2.mono (by decide) (by decide)⟩
               show Q_rm0 Z p0 p1 p2 p3 p4 w_TEAR_DOWN w_SET_UP w_COMPACT_STRINGS h0 n0 _ T197.heap _
               rw [he197]
               exact ⟨rfl, N197⟩
              ·
               refine OwnFin.st (fun _ q => XS.icmpYes Xr57.here hx rfl (pc0 := 301) (pc' := 308) rfl (hb hby at_301) rfl (Jvm.Free.XT.ii_ne_t hc196) (by decide) (by decide) q) ?_
               show OwnFin _ _ _ _ (T57.setTop (mkF m 308 #[.val (.int p0), .val (.int p1), .val (.int p2), .val (.int p3), .val (.int p4), .val (.int y1_0), .val (.int n_3), .val (.int n_5), .val (.int c_7), .val (.int c_9), .val (.int c_11), .val (.int c_13), .val (.ref c14_0), .val (.ref c16_0), .val (.int ph_18), .val (.int ph_19), .val (.ref (if ph_18 = (0 : Int32) then w_SET_UP else w_TEAR_DOWN)), .val (.ref (if ph_19 = (0 : Int32) then w_SET_UP else w_TEAR_DOWN)), .val (.ref c36_0), .val (.ref c46_0), .val (if (p2 &&& (8 : Int32)) = (0 : Int32) then (.ref c36_0) else .null), .val (if (p2 &&& (16 : Int32)) = (0 : Int32) then (.ref c46_0) else .null), .val (.ref b50), .val (.ref b54), .val (.int kd_59), .val (.ref c36_0), .unset, .unset] []))
               refine OwnFin.st (fun _ q => XS.iconst Xr57.here hx rfl (hb hby at_308) q) ?_
               show OwnFin _ _ _ _ (T57.setTop (mkF m 309 _ [(.int 0)]))
               refine OwnFin.st (fun _ q => XS.istore Xr57.here hx rfl (hb hby at_309) rfl (l' := #[.val (.int p0), .val (.int p1), .val (.int p2), .val (.int p3), .val (.int p4), .val (.int y1_0), .val (.int n_3), .val (.int n_5), .val (.int c_7), .val (.int c_9), .val (.int c_11), .val (.int c_13), .val (.ref c14_0), .val (.ref c16_0), .val (.int ph_18), .val (.int ph_19), .val (.ref (if ph_18 = (0 : Int32) then w_SET_UP else w_TEAR_DOWN)), .val (.ref (if ph_19 = (0 : Int32) then w_SET_UP else w_TEAR_DOWN)), .val (.ref c36_0), .val (.ref c46_0), .val (if (p2 &&& (8 : Int32)) = (0 : Int32) then (.ref c36_0) else .null), .val (if (p2 &&& (16 : Int32)) = (0 : Int32) then (.ref c46_0) else .null), .val (.ref b50), .val (.ref b54), .val (.int kd_59), .val (.ref c36_0), .val (.int 0), .unset]) rfl q) ?_
               show OwnFin _ _ _ _ (T57.setTop (mkF m 311 _ []))
               refine OwnFin.st (fun _ q => XS.iload Xr57.here hx rfl (hb hby at_311) rfl q) ?_
               show OwnFin _ _ _ _ (T57.setTop (mkF m 313 _ [(.int kd_59)]))
               refine OwnFin.st (fun _ q => XS.ifYes Xr57.here hx rfl (pc0 := 313) (pc' := 332) rfl (hb hby at_313) rfl (Jvm.Free.XT.i0_ne_t hc60) (by decide) (by decide) q) ?_
               show OwnFin _ _ _ _ (T57.setTop (mkF m 332 _ []))
               refine OwnFin.st (fun _ q => XS.iconst Xr57.here hx rfl (hb hby at_332) q) ?_
               show OwnFin _ _ _ _ (T57.setTop (mkF m 333 _ [(.int 0)]))
               refine OwnFin.st (fun _ q => XS.istore Xr57.here hx rfl (hb hby at_333) rfl (l' := #[.val (.int p0), .val (.int p1), .val (.int p2), .val (.int p3), .val (.int p4), .val (.int y1_0), .val (.int n_3), .val (.int n_5), .val (.int c_7), .val (.int c_9), .val (.int c_11), .val (.int c_13), .val (.ref c14_0), .val (.ref c16_0), .val (.int ph_18), .val (.int ph_19), .val (.ref (if ph_18 = (0 : Int32) then w_SET_UP else w_TEAR_DOWN)), .val (.ref (if ph_19 = (0 : Int32) then w_SET_UP else w_TEAR_DOWN)), .val (.ref c36_0), .val (.ref c46_0), .val (if (p2 &&& (8 : Int32)) = (0 : Int32) then (.ref c36_0) else .null), .val (if (p2 &&& (16 : Int32)) = (0 : Int32) then (.ref c46_0) else .null), .val (.ref b50), .val (.ref b54), .val (.int kd_59), .val (.ref c36_0), .val (.int 0), .val (.int 0)]) rfl q) ?_
               show OwnFin _ _ _ _ (T57.setTop (mkF m 335 _ []))
               refine OwnFin.st (fun _ q => XS.aload Xr57.here hx rfl (hb hby at_335) rfl rfl q) ?_
               show OwnFin _ _ _ _ (T57.setTop (mkF m 337 _ [(.ref b50)]))
               refine OwnFin.st (fun _ q => XS.aload Xr57.here hx rfl (hb hby at_337) rfl rfl q) ?_
               show OwnFin _ _ _ _ (T57.setTop (mkF m 339 _ [(.ref c36_0), (.ref b50)]))
               obtain ⟨cq198, kq198, q198a, q198b, q198c⟩ := isOf hZr57 e57 (((A50.keep K52).ext E54).keep K57)
               obtain ⟨_, _, ⟨T198, L198, k198, n198⟩, -, X198, ⟨Lc198, hQ198, l198, y198, z198⟩, st198⟩ := Xr57.virtualBack hx (y := yM17) (z := yM17) hor57 (mvT hZr57 (w_ hw 86 rfl)) (mvT hZr57 (w_ hw 87 rfl)) (notFace_of_selects (args := #[]) (mvT hZr57 (w_ hw 89 rfl))) (mvT hZr57 (w_ hw 89 rfl)) (mvT hZr57 (w_ hw 88 rfl)) (by decide) (backOf (W := 0) (rm_feC l Z av0 hw [] b50 c36_0 h57 n0 (Nat.le_trans Z0 kp58.1) ((((((r36_1.keep K44).keep K46).ext E50).keep K52).ext E54).keep K57)) hZr57 (w_ hw 90 rfl) (w_ hw 66 rfl) (by decide) (by decide)) q198a q198c (g := (mkF m 339 #[.val (.int p0), .val (.int p1), .val (.int p2), .val (.int p3), .val (.int p4), .val (.int y1_0), .val (.int n_3), .val (.int n_5), .val (.int c_7), .val (.int c_9), .val (.int c_11), .val (.int c_13), .val (.ref c14_0), .val (.ref c16_0), .val (.int ph_18), .val (.int ph_19), .val (.ref (if ph_18 = (0 : Int32) then w_SET_UP else w_TEAR_DOWN)), .val (.ref (if ph_19 = (0 : Int32) then w_SET_UP else w_TEAR_DOWN)), .val (.ref c36_0), .val (.ref c46_0), .val (if (p2 &&& (8 : Int32)) = (0 : Int32) then (.ref c36_0) else .null), .val (if (p2 &&& (16 : Int32)) = (0 : Int32) then (.ref c46_0) else .null), .val (.ref b50), .val (.ref b54), .val (.int kd_59), .val (.ref c36_0), .val (.int 0), .val (.int 0)] [(.ref c36_0), (.ref b50)])) rfl (by rw [hml]; rfl) (Steps.refl _) (argsL := [(.ref c36_0)]) (rest := []) (lenOf pd_10 rfl) rfl (by show 2 * 0 + _ ≤ _; exact Nat.le_of_eq rfl) (hb hby at_339) (fun _ _ => ⟨rfl, e57, (by decide : 36 + 0 ≤ _), (by decide : 188 + 0 ≤ _)⟩)
               dsimp only [Pt.U, Pt.locs, Pt.cells, Pt.slots] at X198 l198 y198 z198 st198 hQ198
               subst l198 y198 z198
               obtain ⟨rfl, N198q, he198⟩ := hQ198
               have N198 := Fr.app N57 N198q
               refine OwnFin.tr st198 ?_
               show OwnFin _ _ _ _ (T198.setTop (mkF m 342 _ [(.int 0)]))
               refine OwnFin.st (fun _ q => XS.iload X198.here hx rfl (hb hby at_342) rfl q) ?_
               show OwnFin _ _ _ _ (T198.setTop (mkF m 344 _ [(.int 0), (.int 0)]))
               refine OwnFin.st (fun _ q => XS.icmpNo X198.here hx rfl (hb hby at_344) rfl (Jvm.Free.XT.ii_ne_f (rfl : (0 : Int32) = (0 : Int32))) q) ?_
               show OwnFin _ _ _ _ (T198.setTop (mkF m 347 _ []))
               refine OwnFin.st (fun _ q => XS.iconst X198.here hx rfl (hb hby at_347) q) ?_
               show OwnFin _ _ _ _ (T198.setTop (mkF m 348 _ [(.int 1)]))
               refine OwnFin.st (fun _ q => XS.goto X198.here hx rfl (pc0 := 348) (pc' := 352) rfl (hb hby at_348) (by decide) (by decide) q) ?_
               show OwnFin _ _ _ _ (T198.setTop (mkF m 352 #[.val (.int p0), .val (.int p1), .val (.int p2), .val (.int p3), .val (.int p4), .val (.int y1_0), .val (.int n_3), .val (.int n_5), .val (.int c_7), .val (.int c_9), .val (.int c_11), .val (.int c_13), .val (.ref c14_0), .val (.ref c16_0), .val (.int ph_18), .val (.int ph_19), .val (.ref (if ph_18 = (0 : Int32) then w_SET_UP else w_TEAR_DOWN)), .val (.ref (if ph_19 = (0 : Int32) then w_SET_UP else w_TEAR_DOWN)), .val (.ref c36_0), .val (.ref c46_0), .val (if (p2 &&& (8 : Int32)) = (0 : Int32) then (.ref c36_0) else .null), .val (if (p2 &&& (16 : Int32)) = (0 : Int32) then (.ref c46_0) else .null), .val (.ref b50), .val (.ref b54), .val (.int kd_59), .val (.ref c36_0), .val (.int 0), .val (.int 0)] [(.int 1)]))
               obtain ⟨fs, hr, hrun, hended, hEW⟩ := X198.leaveW (s := s) hSr57 (by rw [he198]; exact (Nat.le_trans (Nat.le_refl _) (Nat.le_refl _))) (v := some (.int 1)) (fun h => by rw [Bd.returns] at h; cases h)
               have chE : CHr Z own_EL s.vm s.heap T198.vm T198.heap := by
                 rw [hh, he198]
                 exact ch58.trans (CHv.at X198 hZr57 (own_EW hw) ch58.1)
               refine ⟨_, _, retN X198 hx (t := .boolean) Bd.returns (by simp) (hb hby at_352) hr, hrun, hended, _, _, rfl, ?_, chE, hEW.1, hEW.2.1, hEW.2.2.1, hEW.2.2.2.mono (by decide) (by decide)⟩
               show Q_rm0 Z p0 p1 p2 p3 p4 w_TEAR_DOWN w_SET_UP w_COMPACT_STRINGS h0 n0 _ T198.heap _
               rw [he198]
               exact ⟨rfl, N198⟩
            ·
             refine OwnFin.st (fun _ q => XS.icmpYes Xr57.here hx rfl (pc0 := 288) (pc' := 308) rfl (hb hby at_288) rfl (Jvm.Free.XT.ii_ne_t hc193) (by decide) (by decide) q) ?_
             show OwnFin _ _ _ _ (T57.setTop (mkF m 308 _ []))
             refine OwnFin.st (fun _ q => XS.iconst Xr57.here hx rfl (hb hby at_308) q) ?_
             show OwnFin _ _ _ _ (T57.setTop (mkF m 309 _ [(.int 0)]))
             refine OwnFin.st (fun _ q => XS.istore Xr57.here hx rfl (hb hby at_309) rfl (l' := #[.val (.int p0), .val (.int p1), .val (.int p2), .val (.int p3), .val (.int p4), .val (.int y1_0), .val (.int n_3), .val (.int n_5), .val (.int c_7), .val (.int c_9), .val (.int c_11), .val (.int c_13), .val (.ref c14_0), .val (.ref c16_0), .val (.int ph_18), .val (.int ph_19), .val (.ref (if ph_18 = (0 : Int32) then w_SET_UP else w_TEAR_DOWN)), .val (.ref (if ph_19 = (0 : Int32) then w_SET_UP else w_TEAR_DOWN)), .val (.ref c36_0), .val (.ref c46_0), .val (if (p2 &&& (8 : Int32)) = (0 : Int32) then (.ref c36_0) else .null), .val (if (p2 &&& (16 : Int32)) = (0 : Int32) then (.ref c46_0) else .null), .val (.ref b50), .val (.ref b54), .val (.int kd_59), .val (.ref c36_0), .val (.int 0), .unset]) rfl q) ?_
             show OwnFin _ _ _ _ (T57.setTop (mkF m 311 _ []))
             refine OwnFin.st (fun _ q => XS.iload Xr57.here hx rfl (hb hby at_311) rfl q) ?_
             show OwnFin _ _ _ _ (T57.setTop (mkF m 313 _ [(.int kd_59)]))
             refine OwnFin.st (fun _ q => XS.ifYes Xr57.here hx rfl (pc0 := 313) (pc' := 332) rfl (hb hby at_313) rfl (Jvm.Free.XT.i0_ne_t hc60) (by decide) (by decide) q) ?_
             show OwnFin _ _ _ _ (T57.setTop (mkF m 332 _ []))
             refine OwnFin.st (fun _ q => XS.iconst Xr57.here hx rfl (hb hby at_332) q) ?_
             show OwnFin _ _ _ _ (T57.setTop (mkF m 333 _ [(.int 0)]))
             refine OwnFin.st (fun _ q => XS.istore Xr57.here hx rfl (hb hby at_333) rfl (l' := #[.val (.int p0), .val (.int p1), .val (.int p2), .val (.int p3), .val (.int p4), .val (.int y1_0), .val (.int n_3), .val (.int n_5), .val (.int c_7), .val (.int c_9), .val (.int c_11), .val (.int c_13), .val (.ref c14_0), .val (.ref c16_0), .val (.int ph_18), .val (.int ph_19), .val (.ref (if ph_18 = (0 : Int32) then w_SET_UP else w_TEAR_DOWN)), .val (.ref (if ph_19 = (0 : Int32) then w_SET_UP else w_TEAR_DOWN)), .val (.ref c36_0), .val (.ref c46_0), .val (if (p2 &&& (8 : Int32)) = (0 : Int32) then (.ref c36_0) else .null), .val (if (p2 &&& (16 : Int32)) = (0 : Int32) then (.ref c46_0) else .null), .val (.ref b50), .val (.ref b54), .val (.int kd_59), .val (.ref c36_0), .val (.int 0), .val (.int 0)]) rfl q) ?_
             show OwnFin _ _ _ _ (T57.setTop (mkF m 335 #[.val (.int p0), .val (.int p1), .val (.int p2), .val (.int p3), .val (.int p4), .val (.int y1_0), .val (.int n_3), .val (.int n_5), .val (.int c_7), .val (.int c_9), .val (.int c_11), .val (.int c_13), .val (.ref c14_0), .val (.ref c16_0), .val (.int ph_18), .val (.int ph_19), .val (.ref (if ph_18 = (0 : Int32) then w_SET_UP else w_TEAR_DOWN)), .val (.ref (if ph_19 = (0 : Int32) then w_SET_UP else w_TEAR_DOWN)), .val (.ref c36_0), .val (.ref c46_0), .val (if (p2 &&& (8 : Int32)) = (0 : Int32) then (.ref c36_0) else .null), .val (if (p2 &&& (16 : Int32)) = (0 : Int32) then (.ref c46_0) else .null), .val (.ref b50), .val (.ref b54), .val (.int kd_59), .val (.ref c36_0), .val (.int 0), .val (.int 0)] []))
             refine OwnFin.st (fun _ q => XS.aload Xr57.here hx rfl (hb hby at_335) rfl rfl q) ?_
             show OwnFin _ _ _ _ (T57.setTop (mkF m 337 _ [(.ref b50)]))
             refine OwnFin.st (fun _ q => XS.aload Xr57.here hx rfl (hb hby at_337) rfl rfl q) ?_
             show OwnFin _ _ _ _ (T57.setTop (mkF m 339 _ [(.ref c36_0), (.ref b50)]))
             obtain ⟨cq199, kq199, q199a, q199b, q199c⟩ := isOf hZr57 e57 (((A50.keep K52).ext E54).keep K57)
             obtain ⟨_, _, ⟨T199, L199, k199, n199⟩, -, X199, ⟨Lc199, hQ199, l199, y199, z199⟩, st199⟩ := Xr57.virtualBack hx (y := yM17) (z := yM17) hor57 (mvT hZr57 (w_ hw 86 rfl)) (mvT hZr57 (w_ hw 87 rfl)) (notFace_of_selects (args := #[]) (mvT hZr57 (w_ hw 89 rfl))) (mvT hZr57 (w_ hw 89 rfl)) (mvT hZr57 (w_ hw 88 rfl)) (by decide) (backOf (W := 0) (rm_feC l Z av0 hw [] b50 c36_0 h57 n0 (Nat.le_trans Z0 kp58.1) ((((((r36_1.keep K44).keep K46).ext E50).keep K52).ext E54).keep K57)) hZr57 (w_ hw 90 rfl) (w_ hw 66 rfl) (by decide) (by decide)) q199a q199c (g := (mkF m 339 #[.val (.int p0), .val (.int p1), .val (.int p2), .val (.int p3), .val (.int p4), .val (.int y1_0), .val (.int n_3), .val (.int n_5), .val (.int c_7), .val (.int c_9), .val (.int c_11), .val (.int c_13), .val (.ref c14_0), .val (.ref c16_0), .val (.int ph_18), .val (.int ph_19), .val (.ref (if ph_18 = (0 : Int32) then w_SET_UP else w_TEAR_DOWN)), .val (.ref (if ph_19 = (0 : Int32) then w_SET_UP else w_TEAR_DOWN)), .val (.ref c36_0), .val (.ref c46_0), .val (if (p2 &&& (8 : Int32)) = (0 : Int32) then (.ref c36_0) else .null), .val (if (p2 &&& (16 : Int32)) = (0 : Int32) then (.ref c46_0) else .null), .val (.ref b50), .val (.ref b54), .val (.int kd_59), .val (.ref c36_0), .val (.int 0), .val (.int 0)] [(.ref c36_0), (.ref b50)])) rfl (by rw [hml]; rfl) (Steps.refl _) (argsL := [(.ref c36_0)]) (rest := []) (lenOf pd_10 rfl) rfl (by show 2 * 0 + _ ≤ _; exact Nat.le_of_eq rfl) (hb hby at_339) (fun _ _ => ⟨rfl, e57, (by decide : 36 + 0 ≤ _), (by decide : 188 + 0 ≤ _)⟩)
             dsimp only [Pt.U, Pt.locs, Pt.cells, Pt.slots] at X199 l199 y199 z199 st199 hQ199
             subst l199 y199 z199
             obtain ⟨rfl, N199q, he199⟩ := hQ199
             have N199 := Fr.app N57 N199q
             refine OwnFin.tr st199 ?_
             show OwnFin _ _ _ _ (T199.setTop (mkF m 342 _ [(.int 0)]))
             refine OwnFin.st (fun _ q => XS.iload X199.here hx rfl (hb hby at_342) rfl q) ?_
             show OwnFin _ _ _ _ (T199.setTop (mkF m 344 _ [(.int 0), (.int 0)]))
             refine OwnFin.st (fun _ q => XS.icmpNo X199.here hx rfl (hb hby at_344) rfl (Jvm.Free.XT.ii_ne_f (rfl : (0 : Int32) = (0 : Int32))) q) ?_
             show OwnFin _ _ _ _ (T199.setTop (mkF m 347 _ []))
             refine OwnFin.st (fun _ q => XS.iconst X199.here hx rfl (hb hby at_347) q) ?_
             show OwnFin _ _ _ _ (T199.setTop (mkF m 348 _ [(.int 1)]))
             refine OwnFin.st (fun _ q => XS.goto X199.here hx rfl (pc0 := 348) (pc' := 352) rfl (hb hby at_348) (by decide) (by decide) q) ?_
             show OwnFin _ _ _ _ (T199.setTop (mkF m 352 _ [(.int 1)]))
             obtain ⟨fs, hr, hrun, hended, hEW⟩ := X199.leaveW (s := s) hSr57 (by rw [he199]; exact (Nat.le_trans (Nat.le_refl _) (Nat.le_refl _))) (v := some (.int 1)) (fun h => by rw [Bd.returns] at h; cases h)
             have chE : CHr Z own_EL s.vm s.heap T199.vm T199.heap := by
               rw [hh, he199]
               exact ch58.trans (CHv.at X199 hZr57 (own_EW hw) ch58.1)
             refine ⟨_, _, retN X199 hx (t := .boolean) Bd.returns (by simp) (hb hby at_352) hr, hrun, hended, _, _, rfl, ?_, chE, hEW.1, hEW.2.1, hEW.2.2.1, hEW.2.2.2.mono (by decide) (by decide)⟩
             show Q_rm0 Z p0 p1 p2 p3 p4 w_TEAR_DOWN w_SET_UP w_COMPACT_STRINGS h0 n0 _ T199.heap _
             rw [he199]
             exact ⟨rfl, N199⟩
          ·
           refine OwnFin.st (fun _ q => XS.icmpYes Xr57.here hx rfl (pc0 := 275) (pc' := 308) rfl (hb hby at_275) rfl (Jvm.Free.XT.ii_ne_t hc189) (by decide) (by decide) q) ?_
           show OwnFin _ _ _ _ (T57.setTop (mkF m 308 _ []))
           refine OwnFin.st (fun _ q => XS.iconst Xr57.here hx rfl (hb hby at_308) q) ?_
           show OwnFin _ _ _ _ (T57.setTop (mkF m 309 _ [(.int 0)]))
           refine OwnFin.st (fun _ q => XS.istore Xr57.here hx rfl (hb hby at_309) rfl (l' := #[.val (.int p0), .val (.int p1), .val (.int p2), .val (.int p3), .val (.int p4), .val (.int y1_0), .val (.int n_3), .val (.int n_5), .val (.int c_7), .val (.int c_9), .val (.int c_11), .val (.int c_13), .val (.ref c14_0), .val (.ref c16_0), .val (.int ph_18), .val (.int ph_19), .val (.ref (if ph_18 = (0 : Int32) then w_SET_UP else w_TEAR_DOWN)), .val (.ref (if ph_19 = (0 : Int32) then w_SET_UP else w_TEAR_DOWN)), .val (.ref c36_0), .val (.ref c46_0), .val (if (p2 &&& (8 : Int32)) = (0 : Int32) then (.ref c36_0) else .null), .val (if (p2 &&& (16 : Int32)) = (0 : Int32) then (.ref c46_0) else .null), .val (.ref b50), .val (.ref b54), .val (.int kd_59), .val (.ref c36_0), .val (.int 0), .unset]) rfl q) ?_
           show OwnFin _ _ _ _ (T57.setTop (mkF m 311 _ []))
           refine OwnFin.st (fun _ q => XS.iload Xr57.here hx rfl (hb hby at_311) rfl q) ?_
           show OwnFin _ _ _ _ (T57.setTop (mkF m 313 _ [(.int kd_59)]))
           refine OwnFin.st (fun _ q => XS.ifYes Xr57.here hx rfl (pc0 := 313) (pc' := 332) rfl (hb hby at_313) rfl (Jvm.Free.XT.i0_ne_t hc60) (by decide) (by decide) q) ?_
           show OwnFin _ _ _ _ (T57.setTop (mkF m 332 _ []))
           refine OwnFin.st (fun _ q => XS.iconst Xr57.here hx rfl (hb hby at_332) q) ?_
           show OwnFin _ _ _ _ (T57.setTop (mkF m 333 _ [(.int 0)]))
           refine OwnFin.st (fun _ q => XS.istore Xr57.here hx rfl (hb hby at_333) rfl (l' := #[.val (.int p0), .val (.int p1), .val (.int p2), .val (.int p3), .val (.int p4), .val (.int y1_0), .val (.int n_3), .val (.int n_5), .val (.int c_7), .val (.int c_9), .val (.int c_11), .val (.int c_13), .val (.ref c14_0), .val (.ref c16_0), .val (.int ph_18), .val (.int ph_19), .val (.ref (if ph_18 = (0 : Int32) then w_SET_UP else w_TEAR_DOWN)), .val (.ref (if ph_19 = (0 : Int32) then w_SET_UP else w_TEAR_DOWN)), .val (.ref c36_0), .val (.ref c46_0), .val (if (p2 &&& (8 : Int32)) = (0 : Int32) then (.ref c36_0) else .null), .val (if (p2 &&& (16 : Int32)) = (0 : Int32) then (.ref c46_0) else .null), .val (.ref b50), .val (.ref b54), .val (.int kd_59), .val (.ref c36_0), .val (.int 0), .val (.int 0)]) rfl q) ?_
           show OwnFin _ _ _ _ (T57.setTop (mkF m 335 _ []))
           refine OwnFin.st (fun _ q => XS.aload Xr57.here hx rfl (hb hby at_335) rfl rfl q) ?_
           show OwnFin _ _ _ _ (T57.setTop (mkF m 337 _ [(.ref b50)]))
           refine OwnFin.st (fun _ q => XS.aload Xr57.here hx rfl (hb hby at_337) rfl rfl q) ?_
           show OwnFin _ _ _ _ (T57.setTop (mkF m 339 _ [(.ref c36_0), (.ref b50)]))
           obtain ⟨cq200, kq200, q200a, q200b, q200c⟩ := isOf hZr57 e57 (((A50.keep K52).ext E54).keep K57)
           obtain ⟨_, _, ⟨T200, L200, k200, n200⟩, -, X200, ⟨Lc200, hQ200, l200, y200, z200⟩, st200⟩ := Xr57.virtualBack hx (y := yM17) (z := yM17) hor57 (mvT hZr57 (w_ hw 86 rfl)) (mvT hZr57 (w_ hw 87 rfl)) (notFace_of_selects (args := #[]) (mvT hZr57 (w_ hw 89 rfl))) (mvT hZr57 (w_ hw 89 rfl)) (mvT hZr57 (w_ hw 88 rfl)) (by decide) (backOf (W := 0) (rm_feC l Z av0 hw [] b50 c36_0 h57 n0 (Nat.le_trans Z0 kp58.1) ((((((r36_1.keep K44).keep K46).ext E50).keep K52).ext E54).keep K57)) hZr57 (w_ hw 90 rfl) (w_ hw 66 rfl) (by decide) (by decide)) q200a q200c (g := (mkF m 339 #[.val (.int p0), .val (.int p1), .val (.int p2), .val (.int p3), .val (.int p4), .val (.int y1_0), .val (.int n_3), .val (.int n_5), .val (.int c_7), .val (.int c_9), .val (.int c_11), .val (.int c_13), .val (.ref c14_0), .val (.ref c16_0), .val (.int ph_18), .val (.int ph_19), .val (.ref (if ph_18 = (0 : Int32) then w_SET_UP else w_TEAR_DOWN)), .val (.ref (if ph_19 = (0 : Int32) then w_SET_UP else w_TEAR_DOWN)), .val (.ref c36_0), .val (.ref c46_0), .val (if (p2 &&& (8 : Int32)) = (0 : Int32) then (.ref c36_0) else .null), .val (if (p2 &&& (16 : Int32)) = (0 : Int32) then (.ref c46_0) else .null), .val (.ref b50), .val (.ref b54), .val (.int kd_59), .val (.ref c36_0), .val (.int 0), .val (.int 0)] [(.ref c36_0), (.ref b50)])) rfl (by rw [hml]; rfl) (Steps.refl _) (argsL := [(.ref c36_0)]) (rest := []) (lenOf pd_10 rfl) rfl (by show 2 * 0 + _ ≤ _; exact Nat.le_of_eq rfl) (hb hby at_339) (fun _ _ => ⟨rfl, e57, (by decide : 36 + 0 ≤ _), (by decide : 188 + 0 ≤ _)⟩)
           dsimp only [Pt.U, Pt.locs, Pt.cells, Pt.slots] at X200 l200 y200 z200 st200 hQ200
           subst l200 y200 z200
           obtain ⟨rfl, N200q, he200⟩ := hQ200
           have N200 := Fr.app N57 N200q
           refine OwnFin.tr st200 ?_
           show OwnFin _ _ _ _ (T200.setTop (mkF m 342 _ [(.int 0)]))
           refine OwnFin.st (fun _ q => XS.iload X200.here hx rfl (hb hby at_342) rfl q) ?_
           show OwnFin _ _ _ _ (T200.setTop (mkF m 344 _ [(.int 0), (.int 0)]))
           refine OwnFin.st (fun _ q => XS.icmpNo X200.here hx rfl (hb hby at_344) rfl (Jvm.Free.XT.ii_ne_f (rfl : (0 : Int32) = (0 : Int32))) q) ?_
           show OwnFin _ _ _ _ (T200.setTop (mkF m 347 _ []))
           refine OwnFin.st (fun _ q => XS.iconst X200.here hx rfl (hb hby at_347) q) ?_
           show OwnFin _ _ _ _ (T200.setTop (mkF m 348 #[.val (.int p0), .val (.int p1), .val (.int p2), .val (.int p3), .val (.int p4), .val (.int y1_0), .val (.int n_3), .val (.int n_5), .val (.int c_7), .val (.int c_9), .val (.int c_11), .val (.int c_13), .val (.ref c14_0), .val (.ref c16_0), .val (.int ph_18), .val (.int ph_19), .val (.ref (if ph_18 = (0 : Int32) then w_SET_UP else w_TEAR_DOWN)), .val (.ref (if ph_19 = (0 : Int32) then w_SET_UP else w_TEAR_DOWN)), .val (.ref c36_0), .val (.ref c46_0), .val (if (p2 &&& (8 : Int32)) = (0 : Int32) then (.ref c36_0) else .null), .val (if (p2 &&& (16 : Int32)) = (0 : Int32) then (.ref c46_0) else .null), .val (.ref b50), .val (.ref b54), .val (.int kd_59), .val (.ref c36_0), .val (.int 0), .val (.int 0)] [(.int 1)]))
           refine OwnFin.st (fun _ q => XS.goto X200.here hx rfl (pc0 := 348) (pc' := 352) rfl (hb hby at_348) (by decide) (by decide) q) ?_
           show OwnFin _ _ _ _ (T200.setTop (mkF m 352 _ [(.int 1)]))
           obtain ⟨fs, hr, hrun, hended, hEW⟩ := X200.leaveW (s := s) hSr57 (by rw [he200]; exact (Nat.le_trans (Nat.le_refl _) (Nat.le_refl _))) (v := some (.int 1)) (fun h => by rw [Bd.returns] at h; cases h)
           have chE : CHr Z own_EL s.vm s.heap T200.vm T200.heap := by
             rw [hh, he200]
             exact ch58.trans (CHv.at X200 hZr57 (own_EW hw) ch58.1)
           refine ⟨_, _, retN X200 hx (t := .boolean) Bd.returns (by simp) (hb hby at_352) hr, hrun, hended, _, _, rfl, ?_, chE, hEW.1, hEW.2.1, hEW.2.2.1, hEW.2.2.2.mono (by decide) (by decide)⟩
           show Q_rm0 Z p0 p1 p2 p3 p4 w_TEAR_DOWN w_SET_UP w_COMPACT_STRINGS h0 n0 _ T200.heap _
           rw [he200]
           exact ⟨rfl, N200⟩
      by_cases hc49 : (p2 &&& (16 : Int32)) = (0 : Int32)
      ·
       refine OwnFin.st (fun _ q => XS.ifYes X48.here hx rfl (pc0 := 182) (pc' := 189) rfl (hb hby at_182) rfl (Jvm.Free.XT.i0_eq_t hc49) (by decide) (by decide) q) ?_
       show OwnFin _ _ _ _ (T48.setTop (mkF m 189 _ []))
       refine OwnFin.st (fun _ q => XS.aload X48.here hx rfl (hb hby at_189) rfl rfl q) ?_
       show OwnFin _ _ _ _ (T48.setTop (mkF m 191 #[.val (.int p0), .val (.int p1), .val (.int p2), .val (.int p3), .val (.int p4), .val (.int y1_0), .val (.int n_3), .val (.int n_5), .val (.int c_7), .val (.int c_9), .val (.int c_11), .val (.int c_13), .val (.ref c14_0), .val (.ref c16_0), .val (.int ph_18), .val (.int ph_19), .val (.ref (if ph_18 = (0 : Int32) then w_SET_UP else w_TEAR_DOWN)), .val (.ref (if ph_19 = (0 : Int32) then w_SET_UP else w_TEAR_DOWN)), .val (.ref c36_0), .val (.ref c46_0), .val (if (p2 &&& (8 : Int32)) = (0 : Int32) then (.ref c36_0) else .null), .unset, .unset, .unset, .unset, .unset, .unset, .unset] [(.ref c46_0)]))
       have z := H49 _ _ X48 N48 e48
       rw [show ((if (p2 &&& (16 : Int32)) = (0 : Int32) then (.ref c46_0) else .null) : Value) = (.ref c46_0) from if_pos hc49] at z
       exact z
      ·
       refine OwnFin.st (fun _ q => XS.ifNo X48.here hx rfl (hb hby at_182) rfl (Jvm.Free.XT.i0_eq_f hc49) q) ?_
       show OwnFin _ _ _ _ (T48.setTop (mkF m 185 _ []))
       refine OwnFin.st (fun _ q => XS.aconstNull X48.here hx rfl (hb hby at_185) q) ?_
       show OwnFin _ _ _ _ (T48.setTop (mkF m 186 _ [.null]))
       refine OwnFin.st (fun _ q => XS.goto X48.here hx rfl (pc0 := 186) (pc' := 191) rfl (hb hby at_186) (by decide) (by decide) q) ?_
       show OwnFin _ _ _ _ (T48.setTop (mkF m 191 #[.val (.int p0), .val (.int p1), .val (.int p2), .val (.int p3), .val (.int p4), .val (.int y1_0), .val (.int n_3), .val (.int n_5), .val (.int c_7), .val (.int c_9), .val (.int c_11), .val (.int c_13), .val (.ref c14_0), .val (.ref c16_0), .val (.int ph_18), .val (.int ph_19), .val (.ref (if ph_18 = (0 : Int32) then w_SET_UP else w_TEAR_DOWN)), .val (.ref (if ph_19 = (0 : Int32) then w_SET_UP else w_TEAR_DOWN)), .val (.ref c36_0), .val (.ref c46_0), .val (if (p2 &&& (8 : Int32)) = (0 : Int32) then (.ref c36_0) else .null), .unset, .unset, .unset, .unset, .unset, .unset, .unset] [.null]))
       have z := H49 _ _ X48 N48 e48
       rw [show ((if (p2 &&& (16 : Int32)) = (0 : Int32) then (.ref c46_0) else .null) : Value) = .null from if_neg hc49] at z
       exact z
     by_cases hc48 : (p2 &&& (8 : Int32)) = (0 : Int32)
     ·
      refine OwnFin.st (fun _ q => XS.ifYes X46.here hx rfl (pc0 := 167) (pc' := 174) rfl (hb hby at_167) rfl (Jvm.Free.XT.i0_eq_t hc48) (by decide) (by decide) q) ?_
      show OwnFin _ _ _ _ (T46.setTop (mkF m 174 _ []))
      refine OwnFin.st (fun _ q => XS.aload X46.here hx rfl (hb hby at_174) rfl rfl q) ?_
      show OwnFin _ _ _ _ (T46.setTop (mkF m 176 #[.val (.int p0), .val (.int p1), .val (.int p2), .val (.int p3), .val (.int p4), .val (.int y1_0), .val (.int n_3), .val (.int n_5), .val (.int c_7), .val (.int c_9), .val (.int c_11), .val (.int c_13), .val (.ref c14_0), .val (.ref c16_0), .val (.int ph_18), .val (.int ph_19), .val (.ref (if ph_18 = (0 : Int32) then w_SET_UP else w_TEAR_DOWN)), .val (.ref (if ph_19 = (0 : Int32) then w_SET_UP else w_TEAR_DOWN)), .val (.ref c36_0), .val (.ref c46_0), .unset, .unset, .unset, .unset, .unset, .unset, .unset, .unset] [(.ref c36_0)]))
      have z := H48 _ _ X46 N46 e46
      rw [show ((if (p2 &&& (8 : Int32)) = (0 : Int32) then (.ref c36_0) else .null) : Value) = (.ref c36_0) from if_pos hc48] at z
      exact z
     ·
      refine OwnFin.st (fun _ q => XS.ifNo X46.here hx rfl (hb hby at_167) rfl (Jvm.Free.XT.i0_eq_f hc48) q) ?_
      show OwnFin _ _ _ _ (T46.setTop (mkF m 170 _ []))
      refine OwnFin.st (fun _ q => XS.aconstNull X46.here hx rfl (hb hby at_170) q) ?_
      show OwnFin _ _ _ _ (T46.setTop (mkF m 171 _ [.null]))
      refine OwnFin.st (fun _ q => XS.goto X46.here hx rfl (pc0 := 171) (pc' := 176) rfl (hb hby at_171) (by decide) (by decide) q) ?_
      show OwnFin _ _ _ _ (T46.setTop (mkF m 176 #[.val (.int p0), .val (.int p1), .val (.int p2), .val (.int p3), .val (.int p4), .val (.int y1_0), .val (.int n_3), .val (.int n_5), .val (.int c_7), .val (.int c_9), .val (.int c_11), .val (.int c_13), .val (.ref c14_0), .val (.ref c16_0), .val (.int ph_18), .val (.int ph_19), .val (.ref (if ph_18 = (0 : Int32) then w_SET_UP else w_TEAR_DOWN)), .val (.ref (if ph_19 = (0 : Int32) then w_SET_UP else w_TEAR_DOWN)), .val (.ref c36_0), .val (.ref c46_0), .unset, .unset, .unset, .unset, .unset, .unset, .unset, .unset] [.null]))
      have z := H48 _ _ X46 N46 e46
      rw [show ((if (p2 &&& (8 : Int32)) = (0 : Int32) then (.ref c36_0) else .null) : Value) = .null from if_neg hc48] at z
      exact z
    by_cases hc24 : ph_19 = (0 : Int32)
    ·
     refine OwnFin.st (fun _ q => XS.ifYes X20.here hx rfl (pc0 := 106) (pc' := 115) rfl (hb hby at_106) rfl (Jvm.Free.XT.i0_eq_t hc24) (by decide) (by decide) q) ?_
     show OwnFin _ _ _ _ (T20.setTop (mkF m 115 _ []))
     obtain ⟨T25, X25, e25, st25⟩ := getS2 X20 hx hZr16 hor16 (host := "") (Or.inl (w_ hw 38 rfl)) Via.refl e20 (S_SET_UP.ext ol17.2) (g := (mkF m 115 #[.val (.int p0), .val (.int p1), .val (.int p2), .val (.int p3), .val (.int p4), .val (.int y1_0), .val (.int n_3), .val (.int n_5), .val (.int c_7), .val (.int c_9), .val (.int c_11), .val (.int c_13), .val (.ref c14_0), .val (.ref c16_0), .val (.int ph_18), .val (.int ph_19), .val (.ref (if ph_18 = (0 : Int32) then w_SET_UP else w_TEAR_DOWN)), .unset, .unset, .unset, .unset, .unset, .unset, .unset, .unset, .unset, .unset, .unset] [])) rfl (hb hby at_115)
     refine OwnFin.st st25 ?_
     show OwnFin _ _ _ _ (T25.setTop (mkF m 118 #[.val (.int p0), .val (.int p1), .val (.int p2), .val (.int p3), .val (.int p4), .val (.int y1_0), .val (.int n_3), .val (.int n_5), .val (.int c_7), .val (.int c_9), .val (.int c_11), .val (.int c_13), .val (.ref c14_0), .val (.ref c16_0), .val (.int ph_18), .val (.int ph_19), .val (.ref (if ph_18 = (0 : Int32) then w_SET_UP else w_TEAR_DOWN)), .unset, .unset, .unset, .unset, .unset, .unset, .unset, .unset, .unset, .unset, .unset] [(.ref w_SET_UP)]))
     have z := H24 _ _ X25 N20 e25
     rw [show ((if ph_19 = (0 : Int32) then w_SET_UP else w_TEAR_DOWN) : Addr) = w_SET_UP from if_pos hc24] at z
     exact z
    ·
     refine OwnFin.st (fun _ q => XS.ifNo X20.here hx rfl (hb hby at_106) rfl (Jvm.Free.XT.i0_eq_f hc24) q) ?_
     show OwnFin _ _ _ _ (T20.setTop (mkF m 109 _ []))
     obtain ⟨T26, X26, e26, st26⟩ := getS2 X20 hx hZr16 hor16 (host := "") (Or.inl (w_ hw 35 rfl)) Via.refl e20 (S_TEAR_DOWN.ext ol17.2) (g := (mkF m 109 #[.val (.int p0), .val (.int p1), .val (.int p2), .val (.int p3), .val (.int p4), .val (.int y1_0), .val (.int n_3), .val (.int n_5), .val (.int c_7), .val (.int c_9), .val (.int c_11), .val (.int c_13), .val (.ref c14_0), .val (.ref c16_0), .val (.int ph_18), .val (.int ph_19), .val (.ref (if ph_18 = (0 : Int32) then w_SET_UP else w_TEAR_DOWN)), .unset, .unset, .unset, .unset, .unset, .unset, .unset, .unset, .unset, .unset, .unset] [])) rfl (hb hby at_109)
     refine OwnFin.st st26 ?_
     show OwnFin _ _ _ _ (T26.setTop (mkF m 112 _ [(.ref w_TEAR_DOWN)]))
     refine OwnFin.st (fun _ q => XS.goto X26.here hx rfl (pc0 := 112) (pc' := 118) rfl (hb hby at_112) (by decide) (by decide) q) ?_
     show OwnFin _ _ _ _ (T26.setTop (mkF m 118 #[.val (.int p0), .val (.int p1), .val (.int p2), .val (.int p3), .val (.int p4), .val (.int y1_0), .val (.int n_3), .val (.int n_5), .val (.int c_7), .val (.int c_9), .val (.int c_11), .val (.int c_13), .val (.ref c14_0), .val (.ref c16_0), .val (.int ph_18), .val (.int ph_19), .val (.ref (if ph_18 = (0 : Int32) then w_SET_UP else w_TEAR_DOWN)), .unset, .unset, .unset, .unset, .unset, .unset, .unset, .unset, .unset, .unset, .unset] [(.ref w_TEAR_DOWN)]))
     have z := H24 _ _ X26 N20 e26
     rw [show ((if ph_19 = (0 : Int32) then w_SET_UP else w_TEAR_DOWN) : Addr) = w_TEAR_DOWN from if_neg hc24] at z
     exact z
   by_cases hc20 : ph_18 = (0 : Int32)
   ·
    refine OwnFin.st (fun _ q => XS.ifYes Xr16.here hx rfl (pc0 := 90) (pc' := 99) rfl (hb hby at_90) rfl (Jvm.Free.XT.i0_eq_t hc20) (by decide) (by decide) q) ?_
    show OwnFin _ _ _ _ (T16.setTop (mkF m 99 _ []))
    obtain ⟨T21, X21, e21, st21⟩ := getS2 Xr16 hx hZr16 hor16 (host := "") (Or.inl (w_ hw 38 rfl)) Via.refl e16 (S_SET_UP.ext ol17.2) (g := (mkF m 99 #[.val (.int p0), .val (.int p1), .val (.int p2), .val (.int p3), .val (.int p4), .val (.int y1_0), .val (.int n_3), .val (.int n_5), .val (.int c_7), .val (.int c_9), .val (.int c_11), .val (.int c_13), .val (.ref c14_0), .val (.ref c16_0), .val (.int ph_18), .val (.int ph_19), .unset, .unset, .unset, .unset, .unset, .unset, .unset, .unset, .unset, .unset, .unset, .unset] [])) rfl (hb hby at_99)
    refine OwnFin.st st21 ?_
    show OwnFin _ _ _ _ (T21.setTop (mkF m 102 #[.val (.int p0), .val (.int p1), .val (.int p2), .val (.int p3), .val (.int p4), .val (.int y1_0), .val (.int n_3), .val (.int n_5), .val (.int c_7), .val (.int c_9), .val (.int c_11), .val (.int c_13), .val (.ref c14_0), .val (.ref c16_0), .val (.int ph_18), .val (.int ph_19), .unset, .unset, .unset, .unset, .unset, .unset, .unset, .unset, .unset, .unset, .unset, .unset] [(.ref w_SET_UP)]))
    have z := H20 _ _ X21 N16 e21
    rw [show ((if ph_18 = (0 : Int32) then w_SET_UP else w_TEAR_DOWN) : Addr) = w_SET_UP from if_pos hc20] at z
    exact z
   ·
    refine OwnFin.st (fun _ q => XS.ifNo Xr16.here hx rfl (hb hby at_90) rfl (Jvm.Free.XT.i0_eq_f hc20) q) ?_
    show OwnFin _ _ _ _ (T16.setTop (mkF m 93 _ []))
    obtain ⟨T22, X22, e22, st22⟩ := getS2 Xr16 hx hZr16 hor16 (host := "") (Or.inl (w_ hw 35 rfl)) Via.refl e16 (S_TEAR_DOWN.ext ol17.2) (g := (mkF m 93 #[.val (.int p0), .val (.int p1), .val (.int p2), .val (.int p3), .val (.int p4), .val (.int y1_0), .val (.int n_3), .val (.int n_5), .val (.int c_7), .val (.int c_9), .val (.int c_11), .val (.int c_13), .val (.ref c14_0), .val (.ref c16_0), .val (.int ph_18), .val (.int ph_19), .unset, .unset, .unset, .unset, .unset, .unset, .unset, .unset, .unset, .unset, .unset, .unset] [])) rfl (hb hby at_93)
    refine OwnFin.st st22 ?_
    show OwnFin _ _ _ _ (T22.setTop (mkF m 96 _ [(.ref w_TEAR_DOWN)]))
    refine OwnFin.st (fun _ q => XS.goto X22.here hx rfl (pc0 := 96) (pc' := 102) rfl (hb hby at_96) (by decide) (by decide) q) ?_
    show OwnFin _ _ _ _ (T22.setTop (mkF m 102 #[.val (.int p0), .val (.int p1), .val (.int p2), .val (.int p3), .val (.int p4), .val (.int y1_0), .val (.int n_3), .val (.int n_5), .val (.int c_7), .val (.int c_9), .val (.int c_11), .val (.int c_13), .val (.ref c14_0), .val (.ref c16_0), .val (.int ph_18), .val (.int ph_19), .unset, .unset, .unset, .unset, .unset, .unset, .unset, .unset, .unset, .unset, .unset, .unset] [(.ref w_TEAR_DOWN)]))
    have z := H20 _ _ X22 N16 e22
    rw [show ((if ph_18 = (0 : Int32) then w_SET_UP else w_TEAR_DOWN) : Addr) = w_TEAR_DOWN from if_neg hc20] at z
    exact z
  by_cases hc1 : (p2 &&& (1 : Int32)) = (0 : Int32)
  ·
   refine OwnFin.st (fun _ q => XS.ifYes X0.here hx rfl (pc0 := 3) (pc' := 10) rfl (hb hby at_3) rfl (Jvm.Free.XT.i0_eq_t hc1) (by decide) (by decide) q) ?_
   show OwnFin _ _ _ _ (s₁.setTop (mkF m 10 _ []))
   refine OwnFin.st (fun _ q => XS.iloadN X0.here hx rfl (hb hby at_10) rfl q) ?_
   show OwnFin _ _ _ _ (s₁.setTop (mkF m 11 #[.val (.int p0), .val (.int p1), .val (.int p2), .val (.int p3), .val (.int p4), .unset, .unset, .unset, .unset, .unset, .unset, .unset, .unset, .unset, .unset, .unset, .unset, .unset, .unset, .unset, .unset, .unset, .unset, .unset, .unset, .unset, .unset, .unset] [(.int p1)]))
   have z := H1 _ _ p1 X0 N0 e0
   exact z
  ·
   refine OwnFin.st (fun _ q => XS.ifNo X0.here hx rfl (hb hby at_3) rfl (Jvm.Free.XT.i0_eq_f hc1) q) ?_
   show OwnFin _ _ _ _ (s₁.setTop (mkF m 6 _ []))
   refine OwnFin.st (fun _ q => XS.iloadN X0.here hx rfl (hb hby at_6) rfl q) ?_
   show OwnFin _ _ _ _ (s₁.setTop (mkF m 7 _ [(.int p0)]))
   refine OwnFin.st (fun _ q => XS.goto X0.here hx rfl (pc0 := 7) (pc' := 11) rfl (hb hby at_7) (by decide) (by decide) q) ?_
   show OwnFin _ _ _ _ (s₁.setTop (mkF m 11 #[.val (.int p0), .val (.int p1), .val (.int p2), .val (.int p3), .val (.int p4), .unset, .unset, .unset, .unset, .unset, .unset, .unset, .unset, .unset, .unset, .unset, .unset, .unset, .unset, .unset, .unset, .unset, .unset, .unset, .unset, .unset, .unset, .unset] [(.int p0)]))
   have z := H1 _ _ p0 X0 N0 e0
   exact z
set_option maxRecDepth 65536 in
set_option maxHeartbeats 40000000 in
theorem comes_1 {Post : Tables → Env → Array Value → State → Outcome → State → Prop} (hpost : ∀ tb e args s v u, (limb_1_1.after args s (.returned v) u = true ∧ limb_1_2.after args s (.returned v) u = true ∧ True) → ReturnedEndW s (.returned v) u (Jvm.fieldLocs frame_1_writes args s ++ Jvm.arrayLocs frame_1_arrays args s ++ Jvm.staticLocs frame_1_statics s) 48 3264 → Post tb e args s (.returned v) u) :
    ArmFor flags0 classFile x code maxLocals ret World_1 tables_1 room_1 Calls_1 rest_1 Pre_1 Post := by
  intro l hfl _ _ p e ha hc hk s m args below hf hA hF happ hP
  obtain ⟨hcalls, hrest, hpre⟩ := hP
  obtain ⟨-, -, -, hnamed, -, -, -, hat⟩ := (Spec.applies_iff hf).mp happ
  obtain ⟨hg, hn⟩ := and_e (Cond.before_iff.mp (show (Jvm.Cond.and given_1 narrow_1).before args s = true from hpre))
  obtain ⟨y1, y2⟩ := and_e hg
  obtain ⟨y3, y4⟩ := and_e y2
  obtain ⟨y5, y6⟩ := and_e y4
  obtain ⟨y7, y8⟩ := and_e y6
  obtain ⟨y9, y10⟩ := and_e y8
  obtain ⟨y11, y12⟩ := and_e hn
  obtain ⟨y13, y14⟩ := and_e y12
  obtain ⟨y15, y16⟩ := and_e y14
  obtain ⟨v0, v1, v2, v3, v4, rfl⟩ : ∃ v0 v1 v2 v3 v4 : Value, args = #[v0, v1, v2, v3, v4] := by
    have hs : args.size = 5 := by simpa [Cond.value, given_1] using y1
    obtain ⟨L⟩ := args
    match L, hs with
    | [v0, v1, v2, v3, v4], _ => exact ⟨v0, v1, v2, v3, v4, rfl⟩
  have hw := fun d (hd : d ∈ tables_1) => atoms_spec (ws := Jvm.Cond.code x code maxLocals ret :: tables_1) hat d (List.mem_cons_of_mem _ hd)
  have hfit : Fit s := fun {y c} hc i hi => by
    obtain ⟨ha, rfl⟩ := Array.getElem?_eq_some_iff.mp hc
    have q := List.all_eq_true.mp ((Array.all_eq_true_iff_forall_mem.mp hF) _ (Array.getElem_mem ha)) i (List.mem_range.mpr hi)
    simpa [Array.getElem?_eq_getElem hi] using q
  obtain ⟨hsets, hown0⟩ := atoms_of _ (rest_1_c_eq ▸ (show rest_1_c.before _ s = true from hrest))
  have hr0 := Cond.before_iff.mp hown0
  obtain ⟨i0, ei0⟩ := is_v y3
  obtain rfl : v0 = (.int i0) := Option.some.inj ei0
  obtain ⟨i1, ei1⟩ := is_v y5
  obtain rfl : v1 = (.int i1) := Option.some.inj ei1
  obtain ⟨i2, ei2⟩ := is_v y7
  obtain rfl : v2 = (.int i2) := Option.some.inj ei2
  obtain ⟨i3, ei3⟩ := is_v y9
  obtain rfl : v3 = (.int i3) := Option.some.inj ei3
  obtain ⟨i4, ei4⟩ := is_v y10
  obtain rfl : v4 = (.int i4) := Option.some.inj ei4
  obtain ⟨st_TEAR_DOWN, ev_TEAR_DOWN⟩ := exa_v y11
  have Sx_TEAR_DOWN : Sta s s.heap "com/example/neat_order/neatorder/model/LifecycleFailure$Phase" "TEAR_DOWN" "Lcom/example/neat_order/neatorder/model/LifecycleFailure$Phase;" (.ref st_TEAR_DOWN) := Sta.start ev_TEAR_DOWN (Or.inr ⟨(w_ hw 36 rfl), (w_ hw 37 rfl)⟩)
  have Xx_TEAR_DOWN : Exa s s.heap st_TEAR_DOWN "com/example/neat_order/neatorder/model/LifecycleFailure$Phase" := Exa.start ev_TEAR_DOWN y11
  obtain ⟨st_SET_UP, ev_SET_UP⟩ := exa_v y13
  have Sx_SET_UP : Sta s s.heap "com/example/neat_order/neatorder/model/LifecycleFailure$Phase" "SET_UP" "Lcom/example/neat_order/neatorder/model/LifecycleFailure$Phase;" (.ref st_SET_UP) := Sta.start ev_SET_UP (Or.inr ⟨(w_ hw 36 rfl), (w_ hw 39 rfl)⟩)
  have Xx_SET_UP : Exa s s.heap st_SET_UP "com/example/neat_order/neatorder/model/LifecycleFailure$Phase" := Exa.start ev_SET_UP y13
  have Fx_TEAR_DOWN_ordinal : Fld s s.heap st_TEAR_DOWN "java/lang/Enum" "ordinal" "I" (.int 1) := by
    obtain ⟨x1, y1, e1, e2, -, -⟩ := cmp_v (Or.inl y15)
    cases e2.symm.trans (Term.int_eval (1))
    have e3 : x1 = .int 1 := own_eqv y15 e1
    subst e3
    exact Fld.start ((fld_at ev_TEAR_DOWN).symm.trans e1)
  have Fx_SET_UP_ordinal : Fld s s.heap st_SET_UP "java/lang/Enum" "ordinal" "I" (.int 0) := by
    obtain ⟨x1, y1, e1, e2, -, -⟩ := cmp_v (Or.inl y16)
    cases e2.symm.trans (Term.int_eval (0))
    have e3 : x1 = .int 0 := own_eqv y16 e1
    subst e3
    exact Fld.start ((fld_at ev_SET_UP).symm.trans e1)
  obtain ⟨icp, ecp⟩ := is_v (Cond.before_iff.mp (hsets _ (List.mem_of_getElem? (i := 1) rfl)))
  have Scp : Sta s s.heap "java/lang/String" "COMPACT_STRINGS" "Z" (.int icp) := Sta.start ecp (Or.inl (hsets _ (List.mem_of_getElem? (i := 0) rfl)))
  have hcp : ¬ (icp = (0 : Int32)) := gotF (Cond.eq_ints ecp (Term.int_eval (0))) (not_v (Cond.before_iff.mp (hsets _ (List.mem_of_getElem? (i := 2) rfl))))
  have hCHs : CHv s own_EL s.vm s.heap := CHv.start (own_EW hw) (fun p hp => hcalls.1 p (own_ELc p hp)) (show Jvm.Lit.compactW.before _ s = true from (hsets _ (List.mem_of_getElem? (i := 2) rfl))) (w_ hw 28 rfl) (w_ hw 14 rfl)
  obtain ⟨n, o, h1, h2, h3, _, L, rfl, ⟨rfl, N⟩, -, hq⟩ := rm0 l s _ hw tables_1 i0 i1 i2 i3 i4 st_TEAR_DOWN st_SET_UP icp s.heap s.heap.size (Nat.le_refl _) (Old.start s) Xx_TEAR_DOWN Xx_SET_UP hcp Scp Sx_SET_UP Sx_TEAR_DOWN Fx_TEAR_DOWN_ordinal Fx_SET_UP_ordinal p e ha hc hk s m _ below hf ((Spec.applies_iff_loose hf).mp happ).1 ⟨rfl, State.Warmed39.refl s, rfl, hCHs⟩ trivial
  refine ⟨n, _, h1, h2, h3, hpost _ _ _ _ _ _ ⟨Cond.after_iff.mpr rfl, Cond.after_iff.mpr (eq_i res_at (Term.int_eval (1)) rfl), trivial⟩ ⟨hq.1, hq.2.1, hq.2.2.1, (hq.2.2.2.sift fun y hy => Or.inr (N y hy)).mono (by decide) (by decide)⟩⟩
theorem main_1_1 : Claimed_1_1 := comes_1 fun _ _ _ _ _ _ h hF => ⟨h.1, hF⟩
theorem main_1_2 : Claimed_1_2 := comes_1 fun _ _ _ _ _ _ h hF => ⟨h.2.1, hF⟩
end Jvm.Pilot.@@N@@
namespace Jvm.Pilot.@@N@@
open Jvm Jvm.ClassFile Sem Op Lib Jvm.Free Jvm.Stand Jvm.Pilot.@@N@@.Jvm.D
/-! MADE BY PROGRAM (witnessworld.py) out of the Statement's table words and the real class files: 24 classes; the members and pool entries that the words name. The judged class is class 1, her method 5. -/
namespace start1
open Jvm.ClassFile
def u (s : String) : CpInfo := .utf8 (stringToUtf16 s)
/-- a pool by its gaps: so many unusable entries, then the entry; so many at the end -/
def gap : Nat → List CpInfo → List CpInfo
  | 0, r => r
  | n + 1, r => .unusable :: gap n r
def poolList (es : List (Nat × CpInfo)) (last : Nat) : List CpInfo := es.foldr (fun e r => gap e.1 (e.2 :: r)) (gap last [])
def pool (es : List (Nat × CpInfo)) (last : Nat) : Array CpInfo := ⟨poolList es last⟩
def fileOf (pool : Array CpInfo) (this : Nat) (attrs : Array Attribute := #[]) (ms : Array MethodInfo := #[]) (fl : Nat := 33) (sup : Nat := 0) (ifs : Array Nat := #[]) (fds : Array FieldInfo := #[]) : ClassFile where
  minorVersion := 0
  majorVersion := 65
  constantPool := pool
  accessFlags := fl
  thisClass := this
  superClass := sup
  interfaces := ifs
  fields := fds
  methods := ms
  attributes := attrs
def plain (name : String) (sup : Option ClassId) : Class where
  name := name
  kind := .ordinary
  loader := none
  accessFlags := 33
  super := sup
  interfaces := #[]
  cf := none
  fields := #[]
  methods := #[]
  instanceTypes := #[]
  staticTypes := #[]
  resolved := #[]
  callSites := []
  init := .initialized
  statics := none
  mirror := none

def pool0 : Array CpInfo := pool [(5, u "<init>"), (0, u "()V"), (1, .class_ 10), (1, u "java/lang/Object")] 113

def k0c0 : Code := { maxStack := 0, maxLocals := 1, code := object_method_1_code, exceptionTable := #[], attributes := #[] }
def k0m0 : Method := { name := "<init>", desc := "()V", sig := { parameters := [], returnType := none }, accessFlags := 1, code := some k0c0 }
/-- java/lang/Object -/
def k0 : Class := { plain "java/lang/Object" none with
  accessFlags := 33
  interfaces := #[]
  cf := some (fileOf pool0 8 #[] #[{ accessFlags := 1, nameIndex := 5, descriptorIndex := 6, attributes := #[] }] 33 0 #[] #[])
  fields := #[]
  methods := #[k0m0]
  instanceTypes := #[]
  staticTypes := #[]
  resolved := Array.replicate 124 none
  statics := none }

def pool1 : Array CpInfo := pool [(2, .class_ 4), (1, u "java/lang/Object"), (0, u "<init>"), (0, u "()V"), (0, .class_ 8), (0, u "java/lang/String"), (0, .methodref 7 10), (0, .nameAndType 5 11), (0, u "([C)V"), (0, .methodref 13 14), (0, .class_ 15), (0, .nameAndType 16 17), (0, u "com/example/neat_order/neatorder/model/LifecycleFailureEqualsPinLaw"), (0, u "len"), (0, u "(I)I"), (0, .methodref 13 19), (0, .nameAndType 20 21), (0, u "ch0"), (0, u "(I)C"), (0, .methodref 13 23), (0, .nameAndType 24 21), (0, u "ch1"), (0, .methodref 13 26), (0, .nameAndType 27 28), (0, u "text"), (0, u "(ICC)Ljava/lang/String;"), (0, .fieldref 30 31), (0, .class_ 32), (0, .nameAndType 33 34), (0, u "com/example/neat_order/neatorder/model/LifecycleFailure$Phase"), (0, u "TEAR_DOWN"), (0, u "Lcom/example/neat_order/neatorder/model/LifecycleFailure$Phase;"), (0, .fieldref 30 36), (0, .nameAndType 37 34), (0, u "SET_UP"), (0, .methodref 39 40), (0, .class_ 41), (0, .nameAndType 42 43), (0, u "com/example/neat_order/neatorder/model/Cause"), (0, u "of"), (0, u "(Ljava/lang/String;)Lcom/example/neat_order/neatorder/model/Cause;"), (0, .class_ 45), (0, u "com/example/neat_order/neatorder/model/LifecycleFailure"), (0, .methodref 44 47), (0, .nameAndType 5 48), (0, u "(Ljava/lang/String;Lcom/example/neat_order/neatorder/model/LifecycleFailure$Phase;Lcom/example/neat_order/neatorder/model/Cause;)V"), (0, .methodref 44 50), (0, .nameAndType 51 52), (0, u "equals"), (0, u "(Ljava/lang/Object;)Z"), (3, u "law"), (0, u "(IIIII)Z")] 4

def k1m0 : Method := { name := "<init>", desc := "()V", sig := { parameters := [], returnType := none }, accessFlags := 1, code := none }
def k1c1 : Code := { maxStack := 3, maxLocals := 4, code := method_2_code, exceptionTable := #[], attributes := #[] }
def k1m1 : Method := { name := "text", desc := "(ICC)Ljava/lang/String;", sig := { parameters := [.int, .char, .char], returnType := some (.object "java/lang/String") }, accessFlags := 10, code := some k1c1 }
def k1c2 : Code := { maxStack := 2, maxLocals := 1, code := method_3_code, exceptionTable := #[], attributes := #[] }
def k1m2 : Method := { name := "len", desc := "(I)I", sig := { parameters := [.int], returnType := some .int }, accessFlags := 10, code := some k1c2 }
def k1c3 : Code := { maxStack := 2, maxLocals := 1, code := method_4_code, exceptionTable := #[], attributes := #[] }
def k1m3 : Method := { name := "ch0", desc := "(I)C", sig := { parameters := [.int], returnType := some .char }, accessFlags := 10, code := some k1c3 }
def k1c4 : Code := { maxStack := 2, maxLocals := 1, code := method_5_code, exceptionTable := #[], attributes := #[] }
def k1m4 : Method := { name := "ch1", desc := "(I)C", sig := { parameters := [.int], returnType := some .char }, accessFlags := 10, code := some k1c4 }
def k1c5 : Code := { maxStack := 5, maxLocals := 28, code := code, exceptionTable := #[], attributes := #[] }
def k1m5 : Method := { name := "law", desc := "(IIIII)Z", sig := { parameters := [.int, .int, .int, .int, .int], returnType := some .boolean }, accessFlags := 9, code := some k1c5 }
/-- com/example/neat_order/neatorder/model/LifecycleFailureEqualsPinLaw -/
def k1 : Class := { plain "com/example/neat_order/neatorder/model/LifecycleFailureEqualsPinLaw" (some 0) with
  accessFlags := 49
  interfaces := #[]
  cf := some (fileOf pool1 13 #[] #[{ accessFlags := 1, nameIndex := 5, descriptorIndex := 6, attributes := #[] }, { accessFlags := 10, nameIndex := 27, descriptorIndex := 28, attributes := #[] }, { accessFlags := 10, nameIndex := 16, descriptorIndex := 17, attributes := #[] }, { accessFlags := 10, nameIndex := 20, descriptorIndex := 21, attributes := #[] }, { accessFlags := 10, nameIndex := 24, descriptorIndex := 21, attributes := #[] }, { accessFlags := 9, nameIndex := 56, descriptorIndex := 57, attributes := #[] }] 49 2 #[] #[])
  fields := #[]
  methods := #[k1m0, k1m1, k1m2, k1m3, k1m4, k1m5]
  instanceTypes := #[]
  staticTypes := #[]
  resolved := Array.replicate 62 none
  statics := none }

def pool2 : Array CpInfo := pool [(1, .class_ 2), (0, u "java/io/Serializable"), (0, .class_ 4), (0, u "java/lang/Object")] 2

/-- java/io/Serializable -/
def k2 : Class := { plain "java/io/Serializable" (some 0) with
  accessFlags := 1537
  interfaces := #[]
  cf := some (fileOf pool2 1 #[] #[] 1537 3 #[] #[])
  fields := #[]
  methods := #[]
  instanceTypes := #[]
  staticTypes := #[]
  resolved := Array.replicate 7 none
  statics := none }

def pool3 : Array CpInfo := pool [(1, .class_ 2), (0, u "java/lang/Comparable"), (0, .class_ 4), (0, u "java/lang/Object")] 7

/-- java/lang/Comparable -/
def k3 : Class := { plain "java/lang/Comparable" (some 0) with
  accessFlags := 1537
  interfaces := #[]
  cf := some (fileOf pool3 1 #[] #[] 1537 3 #[] #[])
  fields := #[]
  methods := #[]
  instanceTypes := #[]
  staticTypes := #[]
  resolved := Array.replicate 12 none
  statics := none }

def pool4 : Array CpInfo := pool [(2, .class_ 4), (1, u "java/lang/CharSequence"), (42, .class_ 48), (0, u "java/lang/CharSequence$1CodePointIterator"), (10, .class_ 60), (0, u "java/lang/CharSequence$1CharIterator"), (5, .class_ 67), (0, u "java/lang/Object")] 63

/-- java/lang/CharSequence -/
def k4 : Class := { plain "java/lang/CharSequence" (some 0) with
  accessFlags := 1537
  interfaces := #[]
  cf := some (fileOf pool4 2 #[.nestMembers #[47, 59]] #[] 1537 66 #[] #[])
  fields := #[]
  methods := #[]
  instanceTypes := #[]
  staticTypes := #[]
  resolved := Array.replicate 131 none
  statics := none }

def pool5 : Array CpInfo := pool [(1, .class_ 2), (0, u "java/lang/constant/Constable"), (0, .class_ 4), (0, u "java/lang/Object")] 6

/-- java/lang/constant/Constable -/
def k5 : Class := { plain "java/lang/constant/Constable" (some 0) with
  accessFlags := 1537
  interfaces := #[]
  cf := some (fileOf pool5 1 #[] #[] 1537 3 #[] #[])
  fields := #[]
  methods := #[]
  instanceTypes := #[]
  staticTypes := #[]
  resolved := Array.replicate 11 none
  statics := none }

def pool6 : Array CpInfo := pool [(1, .class_ 2), (0, u "java/lang/constant/ConstantDesc"), (0, .class_ 4), (0, u "java/lang/Object")] 32

/-- java/lang/constant/ConstantDesc -/
def k6 : Class := { plain "java/lang/constant/ConstantDesc" (some 0) with
  accessFlags := 1537
  interfaces := #[]
  cf := some (fileOf pool6 1 #[] #[] 1537 3 #[] #[])
  fields := #[]
  methods := #[]
  instanceTypes := #[]
  staticTypes := #[]
  resolved := Array.replicate 37 none
  statics := none }

def pool7 : Array CpInfo := pool [(1, .methodref 2 3), (0, .class_ 4), (0, .nameAndType 5 6), (0, u "java/lang/Object"), (0, u "<init>"), (0, u "()V"), (0, .string 8), (0, u ""), (0, .fieldref 10 11), (0, .class_ 12), (0, .nameAndType 13 14), (0, u "java/lang/String"), (0, u "value"), (0, u "[B"), (0, .fieldref 10 16), (0, .nameAndType 17 18), (0, u "coder"), (0, u "B"), (2, u "hash"), (0, u "I"), (2, u "hashIsZero"), (0, u "Z"), (0, .methodref 10 28), (0, .nameAndType 5 29), (0, u "([CIILjava/lang/Void;)V"), (8, .fieldref 10 39), (0, .nameAndType 40 26), (0, u "COMPACT_STRINGS"), (1, .class_ 44), (1, u "java/lang/StringUTF16"), (0, u "compress"), (1, .methodref 42 48), (0, .nameAndType 49 50), (0, u "coderFromArrayLen"), (0, u "([BI)B"), (56, .class_ 109), (1, u "java/lang/StringLatin1"), (32, u "()Z"), (34, .methodref 42 178), (0, .nameAndType 45 179), (0, u "([CII)[B"), (361, .methodref 107 542), (0, .nameAndType 543 544), (0, u "equals"), (0, u "([B[B)Z"), (28, u "(Ljava/lang/Object;)Z"), (1, .class_ 576), (0, u "java/lang/CharSequence"), (22, u "CASE_INSENSITIVE_ORDER"), (0, u "Ljava/util/Comparator;"), (91, u "isEmpty"), (317, u "([C)V"), (90, u "serialPersistentFields"), (0, u "[Ljava/io/ObjectStreamField;"), (0, .class_ 1104), (0, u "java/lang/String$CaseInsensitiveComparator"), (1, .class_ 1107), (0, u "java/io/Serializable"), (0, .class_ 1109), (0, u "java/lang/Comparable"), (0, .class_ 1111), (0, u "java/lang/constant/Constable"), (0, .class_ 1113), (0, u "java/lang/constant/ConstantDesc"), (2, u "serialVersionUID"), (0, u "J"), (3, u "REPL"), (0, u "C"), (2, u "LATIN1"), (1, u "UTF16")] 323

def k7m0 : Method := { name := "<init>", desc := "()V", sig := { parameters := [], returnType := none }, accessFlags := 1, code := none }
def k7c1 : Code := { maxStack := 5, maxLocals := 2, code := jdk_42_method_3_code, exceptionTable := #[], attributes := #[] }
def k7m1 : Method := { name := "<init>", desc := "([C)V", sig := { parameters := [(.array .char)], returnType := none }, accessFlags := 1, code := some k7c1 }
def k7c2 : Code := { maxStack := 1, maxLocals := 1, code := jdk_42_method_55_code, exceptionTable := #[], attributes := #[] }
def k7m2 : Method := { name := "isEmpty", desc := "()Z", sig := { parameters := [], returnType := some .boolean }, accessFlags := 1, code := some k7c2 }
def k7c3 : Code := { maxStack := 2, maxLocals := 3, code := jdk_42_method_66_code, exceptionTable := #[], attributes := #[] }
def k7m3 : Method := { name := "equals", desc := "(Ljava/lang/Object;)Z", sig := { parameters := [(.object "java/lang/Object")], returnType := some .boolean }, accessFlags := 1, code := some k7c3 }
def k7c4 : Code := { maxStack := 4, maxLocals := 6, code := jdk_42_method_149_code, exceptionTable := #[], attributes := #[] }
def k7m4 : Method := { name := "<init>", desc := "([CIILjava/lang/Void;)V", sig := { parameters := [(.array .char), .int, .int, (.object "java/lang/Void")], returnType := none }, accessFlags := 2, code := some k7c4 }
/-- java/lang/String -/
def k7 : Class := { plain "java/lang/String" (some 0) with
  accessFlags := 49
  interfaces := #[2, 3, 4, 5, 6]
  cf := some (fileOf pool7 10 #[.nestMembers #[1103]] #[{ accessFlags := 1, nameIndex := 5, descriptorIndex := 6, attributes := #[] }, { accessFlags := 1, nameIndex := 5, descriptorIndex := 1010, attributes := #[] }, { accessFlags := 1, nameIndex := 692, descriptorIndex := 142, attributes := #[] }, { accessFlags := 1, nameIndex := 543, descriptorIndex := 573, attributes := #[] }, { accessFlags := 2, nameIndex := 5, descriptorIndex := 29, attributes := #[] }] 49 2 #[1106, 1108, 575, 1110, 1112] #[{ accessFlags := 18, nameIndex := 13, descriptorIndex := 14, attributes := #[] }, { accessFlags := 18, nameIndex := 17, descriptorIndex := 18, attributes := #[] }, { accessFlags := 2, nameIndex := 21, descriptorIndex := 22, attributes := #[] }, { accessFlags := 2, nameIndex := 25, descriptorIndex := 26, attributes := #[] }, { accessFlags := 26, nameIndex := 1116, descriptorIndex := 1117, attributes := #[] }, { accessFlags := 24, nameIndex := 40, descriptorIndex := 26, attributes := #[] }, { accessFlags := 26, nameIndex := 1101, descriptorIndex := 1102, attributes := #[] }, { accessFlags := 26, nameIndex := 1121, descriptorIndex := 1122, attributes := #[] }, { accessFlags := 25, nameIndex := 599, descriptorIndex := 600, attributes := #[] }, { accessFlags := 24, nameIndex := 1125, descriptorIndex := 18, attributes := #[] }, { accessFlags := 24, nameIndex := 1127, descriptorIndex := 18, attributes := #[] }])
  fields := #[{ name := "value", type := (.array .byte), accessFlags := 18, slot := 0, constantValue := 0 }, { name := "coder", type := .byte, accessFlags := 18, slot := 1, constantValue := 0 }, { name := "hash", type := .int, accessFlags := 2, slot := 2, constantValue := 0 }, { name := "hashIsZero", type := .boolean, accessFlags := 2, slot := 3, constantValue := 0 }, { name := "serialVersionUID", type := .long, accessFlags := 26, slot := 0, constantValue := 0 }, { name := "COMPACT_STRINGS", type := .boolean, accessFlags := 24, slot := 1, constantValue := 0 }, { name := "serialPersistentFields", type := (.array (.object "java/io/ObjectStreamField")), accessFlags := 26, slot := 2, constantValue := 0 }, { name := "REPL", type := .char, accessFlags := 26, slot := 3, constantValue := 0 }, { name := "CASE_INSENSITIVE_ORDER", type := (.object "java/util/Comparator"), accessFlags := 25, slot := 4, constantValue := 0 }, { name := "LATIN1", type := .byte, accessFlags := 24, slot := 5, constantValue := 0 }, { name := "UTF16", type := .byte, accessFlags := 24, slot := 6, constantValue := 0 }]
  methods := #[k7m0, k7m1, k7m2, k7m3, k7m4]
  instanceTypes := #[(.array .byte), .byte, .int, .boolean]
  staticTypes := #[.long, .boolean, (.array (.object "java/io/ObjectStreamField")), .char, (.object "java/util/Comparator"), .byte, .byte]
  resolved := Array.replicate 1451 none
  statics := some 0 }

def pool8 : Array CpInfo := pool [(2, .class_ 4), (1, u "java/lang/Enum"), (0, u "name"), (0, u "Ljava/lang/String;"), (2, u "ordinal"), (0, u "I"), (1, .class_ 14), (1, u "java/lang/Object"), (4, u "hash"), (86, .class_ 108), (1, u "java/lang/Enum$EnumDesc"), (2, .class_ 112), (0, u "java/lang/constant/Constable"), (0, .class_ 114), (0, u "java/lang/Comparable"), (0, .class_ 116), (0, u "java/io/Serializable")] 87

/-- java/lang/Enum -/
def k8 : Class := { plain "java/lang/Enum" (some 0) with
  accessFlags := 1057
  interfaces := #[5, 3, 2]
  cf := some (fileOf pool8 2 #[.nestMembers #[106]] #[] 1057 12 #[111, 113, 115] #[{ accessFlags := 18, nameIndex := 5, descriptorIndex := 6, attributes := #[] }, { accessFlags := 18, nameIndex := 9, descriptorIndex := 10, attributes := #[] }, { accessFlags := 2, nameIndex := 19, descriptorIndex := 10, attributes := #[] }])
  fields := #[{ name := "name", type := (.object "java/lang/String"), accessFlags := 18, slot := 0, constantValue := 0 }, { name := "ordinal", type := .int, accessFlags := 18, slot := 1, constantValue := 0 }, { name := "hash", type := .int, accessFlags := 2, slot := 2, constantValue := 0 }]
  methods := #[]
  instanceTypes := #[(.object "java/lang/String"), .int, .int]
  staticTypes := #[]
  resolved := Array.replicate 204 none
  statics := none }

def pool9 : Array CpInfo := pool [(1, .class_ 2), (0, u "com/example/neat_order/neatorder/model/LifecycleFailure$Phase"), (2, u "SET_UP"), (0, u "Lcom/example/neat_order/neatorder/model/LifecycleFailure$Phase;"), (2, u "TEAR_DOWN"), (2, u "$VALUES"), (0, u "[Lcom/example/neat_order/neatorder/model/LifecycleFailure$Phase;"), (6, .class_ 22), (1, u "java/lang/Enum"), (8, u "word"), (0, u "Ljava/lang/String;"), (27, .class_ 61), (0, u "com/example/neat_order/neatorder/model/LifecycleFailure")] 2

/-- com/example/neat_order/neatorder/model/LifecycleFailure$Phase -/
def k9 : Class := { plain "com/example/neat_order/neatorder/model/LifecycleFailure$Phase" (some 8) with
  accessFlags := 16433
  interfaces := #[]
  cf := some (fileOf pool9 1 #[.nestHost 60] #[] 16433 20 #[] #[{ accessFlags := 16409, nameIndex := 5, descriptorIndex := 6, attributes := #[] }, { accessFlags := 16409, nameIndex := 9, descriptorIndex := 6, attributes := #[] }, { accessFlags := 18, nameIndex := 31, descriptorIndex := 32, attributes := #[] }, { accessFlags := 4122, nameIndex := 12, descriptorIndex := 13, attributes := #[] }])
  fields := #[{ name := "SET_UP", type := (.object "com/example/neat_order/neatorder/model/LifecycleFailure$Phase"), accessFlags := 16409, slot := 0, constantValue := 0 }, { name := "TEAR_DOWN", type := (.object "com/example/neat_order/neatorder/model/LifecycleFailure$Phase"), accessFlags := 16409, slot := 1, constantValue := 0 }, { name := "word", type := (.object "java/lang/String"), accessFlags := 18, slot := 3, constantValue := 0 }, { name := "$VALUES", type := (.array (.object "com/example/neat_order/neatorder/model/LifecycleFailure$Phase")), accessFlags := 4122, slot := 2, constantValue := 0 }]
  methods := #[]
  instanceTypes := #[(.object "java/lang/String"), .int, .int, (.object "java/lang/String")]
  staticTypes := #[(.object "com/example/neat_order/neatorder/model/LifecycleFailure$Phase"), (.object "com/example/neat_order/neatorder/model/LifecycleFailure$Phase"), (.array (.object "com/example/neat_order/neatorder/model/LifecycleFailure$Phase"))]
  resolved := Array.replicate 64 none
  statics := some 1 }

def pool10 : Array CpInfo := pool [(1, .methodref 2 3), (0, .class_ 4), (0, .nameAndType 5 6), (0, u "java/lang/Object"), (0, u "<init>"), (0, u "()V"), (0, .methodref 8 9), (0, .class_ 10), (0, .nameAndType 11 12), (0, u "com/example/neat_order/neatorder/model/Cause"), (0, u "emptyToNull"), (0, u "(Ljava/lang/String;)Ljava/lang/String;"), (0, .fieldref 8 14), (0, .nameAndType 15 16), (0, u "type"), (0, u "Ljava/lang/String;"), (0, .fieldref 8 18), (0, .nameAndType 19 16), (0, u "message"), (0, .fieldref 8 21), (0, .nameAndType 22 16), (0, u "stackTrace"), (0, .methodref 8 24), (0, .nameAndType 5 25), (0, u "(Ljava/lang/String;Ljava/lang/String;Ljava/lang/String;)V"), (55, .methodref 82 83), (0, .class_ 84), (0, .nameAndType 85 86), (0, u "java/lang/String"), (0, u "isEmpty"), (0, u "()Z"), (2, u "of"), (0, u "(Ljava/lang/String;)Lcom/example/neat_order/neatorder/model/Cause;")] 28

def k10c0 : Code := { maxStack := 2, maxLocals := 4, code := prog_37_method_1_code, exceptionTable := #[], attributes := #[] }
def k10m0 : Method := { name := "<init>", desc := "(Ljava/lang/String;Ljava/lang/String;Ljava/lang/String;)V", sig := { parameters := [(.object "java/lang/String"), (.object "java/lang/String"), (.object "java/lang/String")], returnType := none }, accessFlags := 1, code := some k10c0 }
def k10c1 : Code := { maxStack := 5, maxLocals := 1, code := prog_37_method_2_code, exceptionTable := #[], attributes := #[] }
def k10m1 : Method := { name := "of", desc := "(Ljava/lang/String;)Lcom/example/neat_order/neatorder/model/Cause;", sig := { parameters := [(.object "java/lang/String")], returnType := some (.object "com/example/neat_order/neatorder/model/Cause") }, accessFlags := 9, code := some k10c1 }
def k10c2 : Code := { maxStack := 1, maxLocals := 1, code := prog_37_method_10_code, exceptionTable := #[], attributes := #[] }
def k10m2 : Method := { name := "emptyToNull", desc := "(Ljava/lang/String;)Ljava/lang/String;", sig := { parameters := [(.object "java/lang/String")], returnType := some (.object "java/lang/String") }, accessFlags := 10, code := some k10c2 }
/-- com/example/neat_order/neatorder/model/Cause -/
def k10 : Class := { plain "com/example/neat_order/neatorder/model/Cause" (some 0) with
  accessFlags := 49
  interfaces := #[]
  cf := some (fileOf pool10 8 #[] #[{ accessFlags := 1, nameIndex := 5, descriptorIndex := 25, attributes := #[] }, { accessFlags := 9, nameIndex := 89, descriptorIndex := 90, attributes := #[] }, { accessFlags := 10, nameIndex := 11, descriptorIndex := 12, attributes := #[] }] 49 2 #[] #[{ accessFlags := 18, nameIndex := 15, descriptorIndex := 16, attributes := #[] }, { accessFlags := 18, nameIndex := 19, descriptorIndex := 16, attributes := #[] }, { accessFlags := 18, nameIndex := 22, descriptorIndex := 16, attributes := #[] }])
  fields := #[{ name := "type", type := (.object "java/lang/String"), accessFlags := 18, slot := 0, constantValue := 0 }, { name := "message", type := (.object "java/lang/String"), accessFlags := 18, slot := 1, constantValue := 0 }, { name := "stackTrace", type := (.object "java/lang/String"), accessFlags := 18, slot := 2, constantValue := 0 }]
  methods := #[k10m0, k10m1, k10m2]
  instanceTypes := #[(.object "java/lang/String"), (.object "java/lang/String"), (.object "java/lang/String")]
  staticTypes := #[]
  resolved := Array.replicate 119 none
  statics := none }

def pool11 : Array CpInfo := pool [(2, .class_ 4), (1, u "com/example/neat_order/neatorder/model/LifecycleFailure"), (0, u "<init>"), (0, u "(Ljava/lang/String;Lcom/example/neat_order/neatorder/model/LifecycleFailure$Phase;Lcom/example/neat_order/neatorder/model/Cause;)V"), (0, .methodref 8 9), (0, .class_ 10), (0, .nameAndType 5 11), (0, u "java/lang/Object"), (0, u "()V"), (0, .string 13), (0, u "container"), (0, .methodref 15 16), (0, .class_ 17), (0, .nameAndType 18 19), (0, u "java/util/Objects"), (0, u "requireNonNull"), (0, u "(Ljava/lang/Object;Ljava/lang/String;)Ljava/lang/Object;"), (0, .class_ 21), (0, u "java/lang/String"), (0, .fieldref 2 23), (0, .nameAndType 13 24), (0, u "Ljava/lang/String;"), (0, .string 26), (0, u "phase"), (0, .class_ 28), (0, u "com/example/neat_order/neatorder/model/LifecycleFailure$Phase"), (0, .fieldref 2 30), (0, .nameAndType 26 31), (0, u "Lcom/example/neat_order/neatorder/model/LifecycleFailure$Phase;"), (0, .fieldref 2 33), (0, .nameAndType 34 35), (0, u "cause"), (0, u "Lcom/example/neat_order/neatorder/model/Cause;"), (23, .methodref 20 60), (0, .nameAndType 61 62), (0, u "equals"), (0, u "(Ljava/lang/Object;)Z")] 37

def k11c0 : Code := { maxStack := 3, maxLocals := 4, code := prog_38_method_2_code, exceptionTable := #[], attributes := #[] }
def k11m0 : Method := { name := "<init>", desc := "(Ljava/lang/String;Lcom/example/neat_order/neatorder/model/LifecycleFailure$Phase;Lcom/example/neat_order/neatorder/model/Cause;)V", sig := { parameters := [(.object "java/lang/String"), (.object "com/example/neat_order/neatorder/model/LifecycleFailure$Phase"), (.object "com/example/neat_order/neatorder/model/Cause")], returnType := none }, accessFlags := 1, code := some k11c0 }
def k11c1 : Code := { maxStack := 2, maxLocals := 3, code := prog_38_method_9_code, exceptionTable := #[], attributes := #[] }
def k11m1 : Method := { name := "equals", desc := "(Ljava/lang/Object;)Z", sig := { parameters := [(.object "java/lang/Object")], returnType := some .boolean }, accessFlags := 1, code := some k11c1 }
/-- com/example/neat_order/neatorder/model/LifecycleFailure -/
def k11 : Class := { plain "com/example/neat_order/neatorder/model/LifecycleFailure" (some 0) with
  accessFlags := 49
  interfaces := #[]
  cf := some (fileOf pool11 2 #[.nestMembers #[27]] #[{ accessFlags := 1, nameIndex := 5, descriptorIndex := 6, attributes := #[] }, { accessFlags := 1, nameIndex := 61, descriptorIndex := 62, attributes := #[] }] 49 8 #[] #[{ accessFlags := 18, nameIndex := 13, descriptorIndex := 24, attributes := #[] }, { accessFlags := 18, nameIndex := 26, descriptorIndex := 31, attributes := #[] }, { accessFlags := 18, nameIndex := 34, descriptorIndex := 35, attributes := #[] }])
  fields := #[{ name := "container", type := (.object "java/lang/String"), accessFlags := 18, slot := 0, constantValue := 0 }, { name := "phase", type := (.object "com/example/neat_order/neatorder/model/LifecycleFailure$Phase"), accessFlags := 18, slot := 1, constantValue := 0 }, { name := "cause", type := (.object "com/example/neat_order/neatorder/model/Cause"), accessFlags := 18, slot := 2, constantValue := 0 }]
  methods := #[k11m0, k11m1]
  instanceTypes := #[(.object "java/lang/String"), (.object "com/example/neat_order/neatorder/model/LifecycleFailure$Phase"), (.object "com/example/neat_order/neatorder/model/Cause")]
  staticTypes := #[]
  resolved := Array.replicate 100 none
  statics := none }

def pool12 : Array CpInfo := pool [(2, .class_ 4), (1, u "java/lang/Object"), (0, u "<init>"), (0, u "()V"), (35, .class_ 44), (1, u "java/util/Objects"), (0, u "requireNonNull"), (48, u "(Ljava/lang/Object;Ljava/lang/String;)Ljava/lang/Object;")] 89

def k12m0 : Method := { name := "<init>", desc := "()V", sig := { parameters := [], returnType := none }, accessFlags := 2, code := none }
def k12c1 : Code := { maxStack := 3, maxLocals := 2, code := jdk_31_method_11_code, exceptionTable := #[], attributes := #[] }
def k12m1 : Method := { name := "requireNonNull", desc := "(Ljava/lang/Object;Ljava/lang/String;)Ljava/lang/Object;", sig := { parameters := [(.object "java/lang/Object"), (.object "java/lang/String")], returnType := some (.object "java/lang/Object") }, accessFlags := 9, code := some k12c1 }
/-- java/util/Objects -/
def k12 : Class := { plain "java/util/Objects" (some 0) with
  accessFlags := 49
  interfaces := #[]
  cf := some (fileOf pool12 42 #[] #[{ accessFlags := 2, nameIndex := 5, descriptorIndex := 6, attributes := #[] }, { accessFlags := 9, nameIndex := 45, descriptorIndex := 94, attributes := #[] }] 49 2 #[] #[])
  fields := #[]
  methods := #[k12m0, k12m1]
  instanceTypes := #[]
  staticTypes := #[]
  resolved := Array.replicate 184 none
  statics := none }

def pool13 : Array CpInfo := pool [(4, .class_ 6), (1, u "java/lang/Object"), (0, u "<init>"), (0, u "()V"), (5, .class_ 16), (1, u "java/lang/StringLatin1"), (104, u "$assertionsDisabled"), (0, u "Z"), (98, .class_ 223), (1, u "java/lang/StringLatin1$LinesSpliterator"), (57, u "equals"), (0, u "([B[B)Z"), (107, .class_ 391), (0, u "java/lang/StringLatin1$CharsSpliterator")] 3

def k13m0 : Method := { name := "<init>", desc := "()V", sig := { parameters := [], returnType := none }, accessFlags := 0, code := none }
def k13c1 : Code := { maxStack := 3, maxLocals := 3, code := jdk_43_method_13_code, exceptionTable := #[], attributes := #[] }
def k13m1 : Method := { name := "equals", desc := "([B[B)Z", sig := { parameters := [(.array .byte), (.array .byte)], returnType := some .boolean }, accessFlags := 9, code := some k13c1 }
/-- java/lang/StringLatin1 -/
def k13 : Class := { plain "java/lang/StringLatin1" (some 0) with
  accessFlags := 48
  interfaces := #[]
  cf := some (fileOf pool13 14 #[.nestMembers #[390, 221]] #[{ accessFlags := 0, nameIndex := 7, descriptorIndex := 8, attributes := #[] }, { accessFlags := 9, nameIndex := 281, descriptorIndex := 282, attributes := #[] }] 48 4 #[] #[{ accessFlags := 4120, nameIndex := 121, descriptorIndex := 122, attributes := #[] }])
  fields := #[{ name := "$assertionsDisabled", type := .boolean, accessFlags := 4120, slot := 0, constantValue := 0 }]
  methods := #[k13m0, k13m1]
  instanceTypes := #[]
  staticTypes := #[.boolean]
  resolved := Array.replicate 395 none
  statics := none }

def pool14 : Array CpInfo := pool [(6, .class_ 8), (1, u "java/lang/Object"), (0, u "<init>"), (0, u "()V"), (1, .class_ 14), (1, u "java/lang/StringUTF16"), (31, u "$assertionsDisabled"), (0, u "Z"), (13, u "HI_BYTE_SHIFT"), (0, u "I"), (2, u "LO_BYTE_SHIFT"), (49, .methodref 12 116), (0, .nameAndType 117 118), (0, u "compress"), (0, u "([CI[BII)I"), (3, u "([CII)[B"), (138, u "coderFromArrayLen"), (0, u "([BI)B"), (106, .class_ 371), (1, u "java/lang/StringUTF16$LinesSpliterator"), (58, u "MAX_LENGTH"), (196, .class_ 628), (0, u "java/lang/StringUTF16$CodePointsSpliterator"), (0, .class_ 630), (0, u "java/lang/StringUTF16$CharsSpliterator")] 4

def k14m0 : Method := { name := "<init>", desc := "()V", sig := { parameters := [], returnType := none }, accessFlags := 0, code := none }
def k14c1 : Code := { maxStack := 2, maxLocals := 2, code := jdk_52_method_15_code, exceptionTable := #[], attributes := #[] }
def k14m1 : Method := { name := "coderFromArrayLen", desc := "([BI)B", sig := { parameters := [(.array .byte), .int], returnType := some .byte }, accessFlags := 8, code := some k14c1 }
def k14c2 : Code := { maxStack := 5, maxLocals := 6, code := jdk_52_method_16_code, exceptionTable := #[], attributes := #[] }
def k14m2 : Method := { name := "compress", desc := "([CII)[B", sig := { parameters := [(.array .char), .int, .int], returnType := some (.array .byte) }, accessFlags := 9, code := some k14c2 }
def k14c3 : Code := { maxStack := 3, maxLocals := 7, code := jdk_52_method_21_code, exceptionTable := #[], attributes := #[] }
def k14m3 : Method := { name := "compress", desc := "([CI[BII)I", sig := { parameters := [(.array .char), .int, (.array .byte), .int, .int], returnType := some .int }, accessFlags := 9, code := some k14c3 }
/-- java/lang/StringUTF16 -/
def k14 : Class := { plain "java/lang/StringUTF16" (some 0) with
  accessFlags := 48
  interfaces := #[]
  cf := some (fileOf pool14 12 #[.nestMembers #[627, 629, 369]] #[{ accessFlags := 0, nameIndex := 9, descriptorIndex := 10, attributes := #[] }, { accessFlags := 8, nameIndex := 261, descriptorIndex := 262, attributes := #[] }, { accessFlags := 9, nameIndex := 117, descriptorIndex := 122, attributes := #[] }, { accessFlags := 9, nameIndex := 117, descriptorIndex := 118, attributes := #[] }] 48 6 #[] #[{ accessFlags := 26, nameIndex := 61, descriptorIndex := 62, attributes := #[] }, { accessFlags := 26, nameIndex := 65, descriptorIndex := 62, attributes := #[] }, { accessFlags := 24, nameIndex := 430, descriptorIndex := 62, attributes := #[] }, { accessFlags := 4120, nameIndex := 46, descriptorIndex := 47, attributes := #[] }])
  fields := #[{ name := "HI_BYTE_SHIFT", type := .int, accessFlags := 26, slot := 0, constantValue := 0 }, { name := "LO_BYTE_SHIFT", type := .int, accessFlags := 26, slot := 1, constantValue := 0 }, { name := "MAX_LENGTH", type := .int, accessFlags := 24, slot := 2, constantValue := 0 }, { name := "$assertionsDisabled", type := .boolean, accessFlags := 4120, slot := 3, constantValue := 0 }]
  methods := #[k14m0, k14m1, k14m2, k14m3]
  instanceTypes := #[]
  staticTypes := #[.int, .int, .int, .boolean]
  resolved := Array.replicate 635 none
  statics := none }

def pool15 : Array CpInfo := pool [(2, .class_ 4), (1, u "java/lang/Object"), (0, u "<init>"), (0, u "()V"), (17, .class_ 26), (1, u "jdk/internal/util/Preconditions"), (28, .class_ 56), (0, u "jdk/internal/util/Preconditions$4"), (57, .class_ 115), (0, u "jdk/internal/util/Preconditions$1"), (7, u "SIOOBE_FORMATTER"), (0, u "Ljava/util/function/BiFunction;"), (0, .class_ 126), (0, u "jdk/internal/util/Preconditions$2"), (3, u "AIOOBE_FORMATTER"), (0, .class_ 132), (0, u "jdk/internal/util/Preconditions$3"), (3, u "IOOBE_FORMATTER")] 57

def k15m0 : Method := { name := "<init>", desc := "()V", sig := { parameters := [], returnType := none }, accessFlags := 1, code := none }
/-- jdk/internal/util/Preconditions -/
def k15 : Class := { plain "jdk/internal/util/Preconditions" (some 0) with
  accessFlags := 33
  interfaces := #[]
  cf := some (fileOf pool15 24 #[.nestMembers #[55, 131, 125, 114]] #[{ accessFlags := 1, nameIndex := 5, descriptorIndex := 6, attributes := #[] }] 33 2 #[] #[{ accessFlags := 25, nameIndex := 123, descriptorIndex := 124, attributes := #[] }, { accessFlags := 25, nameIndex := 130, descriptorIndex := 124, attributes := #[] }, { accessFlags := 25, nameIndex := 136, descriptorIndex := 124, attributes := #[] }])
  fields := #[{ name := "SIOOBE_FORMATTER", type := (.object "java/util/function/BiFunction"), accessFlags := 25, slot := 0, constantValue := 0 }, { name := "AIOOBE_FORMATTER", type := (.object "java/util/function/BiFunction"), accessFlags := 25, slot := 1, constantValue := 0 }, { name := "IOOBE_FORMATTER", type := (.object "java/util/function/BiFunction"), accessFlags := 25, slot := 2, constantValue := 0 }]
  methods := #[k15m0]
  instanceTypes := #[]
  staticTypes := #[(.object "java/util/function/BiFunction"), (.object "java/util/function/BiFunction"), (.object "java/util/function/BiFunction")]
  resolved := Array.replicate 194 none
  statics := some 2 }

def pool16 : Array CpInfo := pool [(9, u "<init>"), (6, .class_ 18), (1, u "java/lang/Object"), (0, u "()V"), (1, .class_ 23), (1, u "jdk/internal/util/ArraysSupport"), (0, u "LOG2_ARRAY_LONG_INDEX_SCALE"), (0, u "I"), (2, u "U"), (0, u "Ljdk/internal/misc/Unsafe;"), (8, u "BIG_ENDIAN"), (0, u "Z"), (8, u "LOG2_BYTE_BIT_SIZE"), (4, u "LOG2_ARRAY_INT_INDEX_SCALE"), (54, u "JLA"), (0, u "Ljdk/internal/access/JavaLangAccess;"), (11, u "LOG2_ARRAY_BOOLEAN_INDEX_SCALE"), (9, u "LOG2_ARRAY_BYTE_INDEX_SCALE"), (5, u "LOG2_ARRAY_CHAR_INDEX_SCALE"), (5, u "LOG2_ARRAY_SHORT_INDEX_SCALE"), (18, u "LOG2_ARRAY_FLOAT_INDEX_SCALE"), (24, u "LOG2_ARRAY_DOUBLE_INDEX_SCALE"), (89, u "T_BOOLEAN"), (2, u "T_CHAR"), (1, u "T_FLOAT"), (1, u "T_DOUBLE"), (1, u "T_BYTE"), (1, u "T_SHORT"), (1, u "T_INT"), (1, u "T_LONG"), (1, u "SOFT_MAX_ARRAY_LENGTH")] 83

def k16m0 : Method := { name := "<init>", desc := "()V", sig := { parameters := [], returnType := none }, accessFlags := 2, code := none }
/-- jdk/internal/util/ArraysSupport -/
def k16 : Class := { plain "jdk/internal/util/ArraysSupport" (some 0) with
  accessFlags := 33
  interfaces := #[]
  cf := some (fileOf pool16 21 #[] #[{ accessFlags := 2, nameIndex := 9, descriptorIndex := 19, attributes := #[] }] 33 16 #[] #[{ accessFlags := 24, nameIndex := 28, descriptorIndex := 29, attributes := #[] }, { accessFlags := 26, nameIndex := 38, descriptorIndex := 39, attributes := #[] }, { accessFlags := 25, nameIndex := 121, descriptorIndex := 25, attributes := #[] }, { accessFlags := 25, nameIndex := 131, descriptorIndex := 25, attributes := #[] }, { accessFlags := 25, nameIndex := 137, descriptorIndex := 25, attributes := #[] }, { accessFlags := 25, nameIndex := 143, descriptorIndex := 25, attributes := #[] }, { accessFlags := 25, nameIndex := 53, descriptorIndex := 25, attributes := #[] }, { accessFlags := 25, nameIndex := 24, descriptorIndex := 25, attributes := #[] }, { accessFlags := 25, nameIndex := 162, descriptorIndex := 25, attributes := #[] }, { accessFlags := 25, nameIndex := 187, descriptorIndex := 25, attributes := #[] }, { accessFlags := 26, nameIndex := 48, descriptorIndex := 25, attributes := #[] }, { accessFlags := 25, nameIndex := 277, descriptorIndex := 25, attributes := #[] }, { accessFlags := 25, nameIndex := 280, descriptorIndex := 25, attributes := #[] }, { accessFlags := 25, nameIndex := 282, descriptorIndex := 25, attributes := #[] }, { accessFlags := 25, nameIndex := 284, descriptorIndex := 25, attributes := #[] }, { accessFlags := 25, nameIndex := 286, descriptorIndex := 25, attributes := #[] }, { accessFlags := 25, nameIndex := 288, descriptorIndex := 25, attributes := #[] }, { accessFlags := 25, nameIndex := 290, descriptorIndex := 25, attributes := #[] }, { accessFlags := 25, nameIndex := 292, descriptorIndex := 25, attributes := #[] }, { accessFlags := 26, nameIndex := 108, descriptorIndex := 109, attributes := #[] }, { accessFlags := 25, nameIndex := 294, descriptorIndex := 25, attributes := #[] }])
  fields := #[{ name := "U", type := (.object "jdk/internal/misc/Unsafe"), accessFlags := 24, slot := 0, constantValue := 0 }, { name := "BIG_ENDIAN", type := .boolean, accessFlags := 26, slot := 1, constantValue := 0 }, { name := "LOG2_ARRAY_BOOLEAN_INDEX_SCALE", type := .int, accessFlags := 25, slot := 2, constantValue := 0 }, { name := "LOG2_ARRAY_BYTE_INDEX_SCALE", type := .int, accessFlags := 25, slot := 3, constantValue := 0 }, { name := "LOG2_ARRAY_CHAR_INDEX_SCALE", type := .int, accessFlags := 25, slot := 4, constantValue := 0 }, { name := "LOG2_ARRAY_SHORT_INDEX_SCALE", type := .int, accessFlags := 25, slot := 5, constantValue := 0 }, { name := "LOG2_ARRAY_INT_INDEX_SCALE", type := .int, accessFlags := 25, slot := 6, constantValue := 0 }, { name := "LOG2_ARRAY_LONG_INDEX_SCALE", type := .int, accessFlags := 25, slot := 7, constantValue := 0 }, { name := "LOG2_ARRAY_FLOAT_INDEX_SCALE", type := .int, accessFlags := 25, slot := 8, constantValue := 0 }, { name := "LOG2_ARRAY_DOUBLE_INDEX_SCALE", type := .int, accessFlags := 25, slot := 9, constantValue := 0 }, { name := "LOG2_BYTE_BIT_SIZE", type := .int, accessFlags := 26, slot := 10, constantValue := 0 }, { name := "T_BOOLEAN", type := .int, accessFlags := 25, slot := 11, constantValue := 0 }, { name := "T_CHAR", type := .int, accessFlags := 25, slot := 12, constantValue := 0 }, { name := "T_FLOAT", type := .int, accessFlags := 25, slot := 13, constantValue := 0 }, { name := "T_DOUBLE", type := .int, accessFlags := 25, slot := 14, constantValue := 0 }, { name := "T_BYTE", type := .int, accessFlags := 25, slot := 15, constantValue := 0 }, { name := "T_SHORT", type := .int, accessFlags := 25, slot := 16, constantValue := 0 }, { name := "T_INT", type := .int, accessFlags := 25, slot := 17, constantValue := 0 }, { name := "T_LONG", type := .int, accessFlags := 25, slot := 18, constantValue := 0 }, { name := "JLA", type := (.object "jdk/internal/access/JavaLangAccess"), accessFlags := 26, slot := 19, constantValue := 0 }, { name := "SOFT_MAX_ARRAY_LENGTH", type := .int, accessFlags := 25, slot := 20, constantValue := 0 }]
  methods := #[k16m0]
  instanceTypes := #[]
  staticTypes := #[(.object "jdk/internal/misc/Unsafe"), .boolean, .int, .int, .int, .int, .int, .int, .int, .int, .int, .int, .int, .int, .int, .int, .int, .int, .int, (.object "jdk/internal/access/JavaLangAccess"), .int]
  resolved := Array.replicate 378 none
  statics := none }

def pool17 : Array CpInfo := pool [(1, u "java/lang/Cloneable"), (0, .class_ 1), (0, u "java/lang/Object"), (0, .class_ 3)] 3

/-- java/lang/Cloneable -/
def k17 : Class := { plain "java/lang/Cloneable" (some 0) with
  accessFlags := 1537
  interfaces := #[]
  cf := some (fileOf pool17 2 #[] #[] 1537 4 #[] #[])
  fields := #[]
  methods := #[]
  instanceTypes := #[]
  staticTypes := #[]
  resolved := Array.replicate 8 none
  statics := none }

/-- the primitive byte -/
def k18 : Class := { plain "byte" none with kind := .primitive 'B', accessFlags := 0x411 }
/-- [B -/
def k19 : Class := { plain "[B" (some 0) with kind := .array 18 .byte, interfaces := #[17, 2], accessFlags := 1041 }

/-- the primitive char -/
def k20 : Class := { plain "char" none with kind := .primitive 'C', accessFlags := 0x411 }
/-- [C -/
def k21 : Class := { plain "[C" (some 0) with kind := .array 20 .char, interfaces := #[17, 2], accessFlags := 1041 }

/-- the primitive int -/
def k22 : Class := { plain "int" none with kind := .primitive 'I', accessFlags := 0x411 }
/-- [I -/
def k23 : Class := { plain "[I" (some 0) with kind := .array 22 .int, interfaces := #[17, 2], accessFlags := 1041 }

def heap : Heap := #[{ cls := 7, slots := #[.long 0, .int 1, .null, .int 0, .null, .int 0, .int 0], vm := .statics 7 },
  { cls := 9, slots := #[.ref 4, .ref 3, .null], vm := .statics 9 },
  { cls := 15, slots := #[.null, .null, .null], vm := .statics 15 },
  { cls := 9, slots := #[.null, .int 1, .int 0, .null], vm := .none },
  { cls := 9, slots := #[.null, .int 0, .int 0, .null], vm := .none }]
def classes : Array Class := #[k0, k1, k2, k3, k4, k5, k6, k7, k8, k9, k10, k11, k12, k13, k14, k15, k16, k17, k18, k19, k20, k21, k22, k23]
def interned : List (Array UInt16 × Addr) := []
def slotsUsed : Nat := 21
def theMethod : MethodId := ⟨1, 5⟩
def args0 : Array Value := #[.int 5, .int 1, .int 2, .int 3, .int 4]
def aboutOver (below : List Frame) : State where
  vm := { classes := classes, interned := interned.toArray }
  heap := heap
  slotsUsed := slotsUsed
  threads := #[{ frames := .invoking theMethod args0 :: below }]
def below0 : List Frame := [.native { method := ⟨0, 0⟩, args := #[] }]
def about1 : State := aboutOver below0
def p0 : Program := .bare "" "" ""
def e0 : Env := launch0.env 0 0 0
theorem w_frames : about1.frames = Frame.invoking theMethod args0 :: below0 := rfl
set_option maxRecDepth 65536 in
theorem w_args : argsFit about1.vm theMethod args0 = true := by decide +kernel
set_option maxRecDepth 65536 in
theorem w_heap : heapFits about1 = true := by decide +kernel
set_option maxRecDepth 65536 in
theorem w_runnable : about1.curStatus? = some .runnable := by decide +kernel
set_option maxRecDepth 65536 in
theorem w_alone : about1.alone = true := by decide +kernel
set_option maxRecDepth 65536 in
theorem w_named : about1.methodNamed? x = some theMethod := by decide +kernel
set_option maxRecDepth 65536 in
theorem w_hears : about1.hears theMethod below0 = true := by decide +kernel
set_option maxRecDepth 65536 in
theorem w_ripe : about1.ripe theMethod args0 below0 = true := by decide +kernel
theorem w_running : about1.status = .running := rfl
set_option maxRecDepth 65536 in
theorem w_room : about1.hasRoom e0.platform room_1 = true :=
  launch0.hasRoom_least _ room_1 (by decide +kernel) (by decide +kernel) (by decide +kernel) (by decide +kernel) (by decide +kernel) (by decide +kernel)
theorem allAtoms_all (ts : List Jvm.Cond) (a : Array Jvm.Value) (st : Jvm.State) : (allAtoms ts).before a st = ts.all (fun c => c.before a st) := by
  induction ts with
  | nil => rfl
  | cons c t ih =>
    show (Jvm.Cond.and c (allAtoms t)).before a st = _
    rw [Jvm.Cond.before_and, ih, List.all_cons]
def words1 : List Jvm.Cond := Jvm.Cond.code x code maxLocals ret :: tables_1
/-- a 'code' word, met by the world's own term for the bytes: nothing is compared byte by byte -/
theorem code_word {y : MethodName} {bytes : ByteArray} {mx : Nat} {rt : Option FieldType} {a : Array Value} {s : State} {m : MethodId} {meth : Method} {c : Code} (h1 : s.methodNamed? y = some m) (h2 : s.vm.method? m = some meth) (h3 : meth.code = some c) (h4 : c.code = bytes)
    (h5 : (c.maxLocals == mx && c.exceptionTable.isEmpty && decide (c.maxStack ≤ mostOperands) && decide (meth.sig.returnType = rt) && !meth.locks && decide (parseMethodDescriptor y.desc = some meth.sig)) = true) : (Jvm.Cond.code y bytes mx rt).before a s = true := by
  simp only [Bool.and_eq_true, beq_iff_eq, Bool.not_eq_true', decide_eq_true_eq] at h5
  obtain ⟨⟨⟨⟨⟨g1, g2⟩, g3⟩, g4⟩, g5⟩, g6⟩ := h5
  simp [Cond.before, Cond.holds, Cond.value, h1, h2, h3, h4, g1, g2, g3, g4, g5, g6]
def isCode : Jvm.Cond → Bool
  | .code _ _ _ _ => true
  | _ => false
theorem all_split {L : List Jvm.Cond} {P : Jvm.Cond → Bool} (h1 : L.all (fun c => isCode c || P c) = true) (h2 : ∀ c ∈ L.filter isCode, P c = true) : L.all P = true := by
  refine List.all_eq_true.mpr fun c hc => ?_
  have h := List.all_eq_true.mp h1 c hc
  rcases Bool.eq_false_or_eq_true (isCode c) with hi | hi
  · exact h2 c (List.mem_filter.mpr ⟨hc, hi⟩)
  · simpa [hi] using h
set_option maxRecDepth 65536 in
theorem w_c0 : (Jvm.Cond.code x code maxLocals ret).before args0 about1 = true := code_word (m := ⟨1, 5⟩) (meth := k1m5) (c := k1c5) (by decide +kernel) rfl rfl rfl (by decide +kernel)
set_option maxRecDepth 65536 in
theorem w_c1 : (Jvm.Cond.code ({ cls := "com/example/neat_order/neatorder/model/LifecycleFailureEqualsPinLaw", name := "len", desc := "(I)I" } : Jvm.MethodName) method_3_code (1 : Nat) (Option.some Jvm.ClassFile.FieldType.int)).before args0 about1 = true := code_word (m := ⟨1, 2⟩) (meth := k1m2) (c := k1c2) (by decide +kernel) rfl rfl rfl (by decide +kernel)
set_option maxRecDepth 65536 in
theorem w_c2 : (Jvm.Cond.code ({ cls := "com/example/neat_order/neatorder/model/LifecycleFailureEqualsPinLaw", name := "ch0", desc := "(I)C" } : Jvm.MethodName) method_4_code (1 : Nat) (Option.some Jvm.ClassFile.FieldType.char)).before args0 about1 = true := code_word (m := ⟨1, 3⟩) (meth := k1m3) (c := k1c3) (by decide +kernel) rfl rfl rfl (by decide +kernel)
set_option maxRecDepth 65536 in
theorem w_c3 : (Jvm.Cond.code ({ cls := "com/example/neat_order/neatorder/model/LifecycleFailureEqualsPinLaw", name := "ch1", desc := "(I)C" } : Jvm.MethodName) method_5_code (1 : Nat) (Option.some Jvm.ClassFile.FieldType.char)).before args0 about1 = true := code_word (m := ⟨1, 4⟩) (meth := k1m4) (c := k1c4) (by decide +kernel) rfl rfl rfl (by decide +kernel)
set_option maxRecDepth 65536 in
theorem w_c4 : (Jvm.Cond.code ({ cls := "com/example/neat_order/neatorder/model/LifecycleFailureEqualsPinLaw", name := "text", desc := "(ICC)Ljava/lang/String;" } : Jvm.MethodName) method_2_code (4 : Nat) (Option.some (Jvm.ClassFile.FieldType.object "java/lang/String"))).before args0 about1 = true := code_word (m := ⟨1, 1⟩) (meth := k1m1) (c := k1c1) (by decide +kernel) rfl rfl rfl (by decide +kernel)
set_option maxRecDepth 65536 in
theorem w_c5 : (Jvm.Cond.code ({ cls := "java/lang/String", name := "<init>", desc := "([C)V" } : Jvm.MethodName) jdk_42_method_3_code (2 : Nat) (Option.none : Option Jvm.ClassFile.FieldType)).before args0 about1 = true := code_word (m := ⟨7, 1⟩) (meth := k7m1) (c := k7c1) (by decide +kernel) rfl rfl rfl (by decide +kernel)
set_option maxRecDepth 65536 in
theorem w_c6 : (Jvm.Cond.code ({ cls := "java/lang/String", name := "<init>", desc := "([CIILjava/lang/Void;)V" } : Jvm.MethodName) jdk_42_method_149_code (6 : Nat) (Option.none : Option Jvm.ClassFile.FieldType)).before args0 about1 = true := code_word (m := ⟨7, 4⟩) (meth := k7m4) (c := k7c4) (by decide +kernel) rfl rfl rfl (by decide +kernel)
set_option maxRecDepth 65536 in
theorem w_c7 : (Jvm.Cond.code ({ cls := "java/lang/Object", name := "<init>", desc := "()V" } : Jvm.MethodName) object_method_1_code (1 : Nat) (Option.none : Option Jvm.ClassFile.FieldType)).before args0 about1 = true := code_word (m := ⟨0, 0⟩) (meth := k0m0) (c := k0c0) (by decide +kernel) rfl rfl rfl (by decide +kernel)
set_option maxRecDepth 65536 in
theorem w_c8 : (Jvm.Cond.code ({ cls := "com/example/neat_order/neatorder/model/Cause", name := "of", desc := "(Ljava/lang/String;)Lcom/example/neat_order/neatorder/model/Cause;" } : Jvm.MethodName) prog_37_method_2_code (1 : Nat) (Option.some (Jvm.ClassFile.FieldType.object "com/example/neat_order/neatorder/model/Cause"))).before args0 about1 = true := code_word (m := ⟨10, 1⟩) (meth := k10m1) (c := k10c1) (by decide +kernel) rfl rfl rfl (by decide +kernel)
set_option maxRecDepth 65536 in
theorem w_c9 : (Jvm.Cond.code ({ cls := "com/example/neat_order/neatorder/model/Cause", name := "<init>", desc := "(Ljava/lang/String;Ljava/lang/String;Ljava/lang/String;)V" } : Jvm.MethodName) prog_37_method_1_code (4 : Nat) (Option.none : Option Jvm.ClassFile.FieldType)).before args0 about1 = true := code_word (m := ⟨10, 0⟩) (meth := k10m0) (c := k10c0) (by decide +kernel) rfl rfl rfl (by decide +kernel)
set_option maxRecDepth 65536 in
theorem w_c10 : (Jvm.Cond.code ({ cls := "com/example/neat_order/neatorder/model/Cause", name := "emptyToNull", desc := "(Ljava/lang/String;)Ljava/lang/String;" } : Jvm.MethodName) prog_37_method_10_code (1 : Nat) (Option.some (Jvm.ClassFile.FieldType.object "java/lang/String"))).before args0 about1 = true := code_word (m := ⟨10, 2⟩) (meth := k10m2) (c := k10c2) (by decide +kernel) rfl rfl rfl (by decide +kernel)
set_option maxRecDepth 65536 in
theorem w_c11 : (Jvm.Cond.code ({ cls := "java/lang/String", name := "isEmpty", desc := "()Z" } : Jvm.MethodName) jdk_42_method_55_code (1 : Nat) (Option.some Jvm.ClassFile.FieldType.boolean)).before args0 about1 = true := code_word (m := ⟨7, 2⟩) (meth := k7m2) (c := k7c2) (by decide +kernel) rfl rfl rfl (by decide +kernel)
set_option maxRecDepth 65536 in
theorem w_c12 : (Jvm.Cond.code ({ cls := "com/example/neat_order/neatorder/model/LifecycleFailure", name := "<init>", desc := "(Ljava/lang/String;Lcom/example/neat_order/neatorder/model/LifecycleFailure$Phase;Lcom/example/neat_order/neatorder/model/Cause;)V" } : Jvm.MethodName) prog_38_method_2_code (4 : Nat) (Option.none : Option Jvm.ClassFile.FieldType)).before args0 about1 = true := code_word (m := ⟨11, 0⟩) (meth := k11m0) (c := k11c0) (by decide +kernel) rfl rfl rfl (by decide +kernel)
set_option maxRecDepth 65536 in
theorem w_c13 : (Jvm.Cond.code ({ cls := "java/util/Objects", name := "requireNonNull", desc := "(Ljava/lang/Object;Ljava/lang/String;)Ljava/lang/Object;" } : Jvm.MethodName) jdk_31_method_11_code (2 : Nat) (Option.some (Jvm.ClassFile.FieldType.object "java/lang/Object"))).before args0 about1 = true := code_word (m := ⟨12, 1⟩) (meth := k12m1) (c := k12c1) (by decide +kernel) rfl rfl rfl (by decide +kernel)
set_option maxRecDepth 65536 in
theorem w_c14 : (Jvm.Cond.code ({ cls := "com/example/neat_order/neatorder/model/LifecycleFailure", name := "equals", desc := "(Ljava/lang/Object;)Z" } : Jvm.MethodName) prog_38_method_9_code (3 : Nat) (Option.some Jvm.ClassFile.FieldType.boolean)).before args0 about1 = true := code_word (m := ⟨11, 1⟩) (meth := k11m1) (c := k11c1) (by decide +kernel) rfl rfl rfl (by decide +kernel)
set_option maxRecDepth 65536 in
theorem w_c15 : (Jvm.Cond.code ({ cls := "java/lang/String", name := "equals", desc := "(Ljava/lang/Object;)Z" } : Jvm.MethodName) jdk_42_method_66_code (3 : Nat) (Option.some Jvm.ClassFile.FieldType.boolean)).before args0 about1 = true := code_word (m := ⟨7, 3⟩) (meth := k7m3) (c := k7c3) (by decide +kernel) rfl rfl rfl (by decide +kernel)
set_option maxRecDepth 65536 in
theorem w_c16 : (Jvm.Cond.code ({ cls := "java/lang/StringLatin1", name := "equals", desc := "([B[B)Z" } : Jvm.MethodName) jdk_43_method_13_code (3 : Nat) (Option.some Jvm.ClassFile.FieldType.boolean)).before args0 about1 = true := code_word (m := ⟨13, 1⟩) (meth := k13m1) (c := k13c1) (by decide +kernel) rfl rfl rfl (by decide +kernel)
set_option maxRecDepth 65536 in
theorem w_c17 : (Jvm.Cond.code ({ cls := "java/lang/StringUTF16", name := "compress", desc := "([CII)[B" } : Jvm.MethodName) jdk_52_method_16_code (6 : Nat) (Option.some (Jvm.ClassFile.FieldType.array Jvm.ClassFile.FieldType.byte))).before args0 about1 = true := code_word (m := ⟨14, 2⟩) (meth := k14m2) (c := k14c2) (by decide +kernel) rfl rfl rfl (by decide +kernel)
set_option maxRecDepth 65536 in
theorem w_c18 : (Jvm.Cond.code ({ cls := "java/lang/StringUTF16", name := "compress", desc := "([CI[BII)I" } : Jvm.MethodName) jdk_52_method_21_code (7 : Nat) (Option.some Jvm.ClassFile.FieldType.int)).before args0 about1 = true := code_word (m := ⟨14, 3⟩) (meth := k14m3) (c := k14c3) (by decide +kernel) rfl rfl rfl (by decide +kernel)
set_option maxRecDepth 65536 in
theorem w_c19 : (Jvm.Cond.code ({ cls := "java/lang/StringUTF16", name := "coderFromArrayLen", desc := "([BI)B" } : Jvm.MethodName) jdk_52_method_15_code (2 : Nat) (Option.some Jvm.ClassFile.FieldType.byte)).before args0 about1 = true := code_word (m := ⟨14, 1⟩) (meth := k14m1) (c := k14c1) (by decide +kernel) rfl rfl rfl (by decide +kernel)
def codes1 : List Jvm.Cond := [Jvm.Cond.code x code maxLocals ret, Jvm.Cond.code ({ cls := "com/example/neat_order/neatorder/model/LifecycleFailureEqualsPinLaw", name := "len", desc := "(I)I" } : Jvm.MethodName) method_3_code (1 : Nat) (Option.some Jvm.ClassFile.FieldType.int), Jvm.Cond.code ({ cls := "com/example/neat_order/neatorder/model/LifecycleFailureEqualsPinLaw", name := "ch0", desc := "(I)C" } : Jvm.MethodName) method_4_code (1 : Nat) (Option.some Jvm.ClassFile.FieldType.char), Jvm.Cond.code ({ cls := "com/example/neat_order/neatorder/model/LifecycleFailureEqualsPinLaw", name := "ch1", desc := "(I)C" } : Jvm.MethodName) method_5_code (1 : Nat) (Option.some Jvm.ClassFile.FieldType.char), Jvm.Cond.code ({ cls := "com/example/neat_order/neatorder/model/LifecycleFailureEqualsPinLaw", name := "text", desc := "(ICC)Ljava/lang/String;" } : Jvm.MethodName) method_2_code (4 : Nat) (Option.some (Jvm.ClassFile.FieldType.object "java/lang/String")), Jvm.Cond.code ({ cls := "java/lang/String", name := "<init>", desc := "([C)V" } : Jvm.MethodName) jdk_42_method_3_code (2 : Nat) (Option.none : Option Jvm.ClassFile.FieldType), Jvm.Cond.code ({ cls := "java/lang/String", name := "<init>", desc := "([CIILjava/lang/Void;)V" } : Jvm.MethodName) jdk_42_method_149_code (6 : Nat) (Option.none : Option Jvm.ClassFile.FieldType), Jvm.Cond.code ({ cls := "java/lang/Object", name := "<init>", desc := "()V" } : Jvm.MethodName) object_method_1_code (1 : Nat) (Option.none : Option Jvm.ClassFile.FieldType), Jvm.Cond.code ({ cls := "com/example/neat_order/neatorder/model/Cause", name := "of", desc := "(Ljava/lang/String;)Lcom/example/neat_order/neatorder/model/Cause;" } : Jvm.MethodName) prog_37_method_2_code (1 : Nat) (Option.some (Jvm.ClassFile.FieldType.object "com/example/neat_order/neatorder/model/Cause")), Jvm.Cond.code ({ cls := "com/example/neat_order/neatorder/model/Cause", name := "<init>", desc := "(Ljava/lang/String;Ljava/lang/String;Ljava/lang/String;)V" } : Jvm.MethodName) prog_37_method_1_code (4 : Nat) (Option.none : Option Jvm.ClassFile.FieldType), Jvm.Cond.code ({ cls := "com/example/neat_order/neatorder/model/Cause", name := "emptyToNull", desc := "(Ljava/lang/String;)Ljava/lang/String;" } : Jvm.MethodName) prog_37_method_10_code (1 : Nat) (Option.some (Jvm.ClassFile.FieldType.object "java/lang/String")), Jvm.Cond.code ({ cls := "java/lang/String", name := "isEmpty", desc := "()Z" } : Jvm.MethodName) jdk_42_method_55_code (1 : Nat) (Option.some Jvm.ClassFile.FieldType.boolean), Jvm.Cond.code ({ cls := "com/example/neat_order/neatorder/model/LifecycleFailure", name := "<init>", desc := "(Ljava/lang/String;Lcom/example/neat_order/neatorder/model/LifecycleFailure$Phase;Lcom/example/neat_order/neatorder/model/Cause;)V" } : Jvm.MethodName) prog_38_method_2_code (4 : Nat) (Option.none : Option Jvm.ClassFile.FieldType), Jvm.Cond.code ({ cls := "java/util/Objects", name := "requireNonNull", desc := "(Ljava/lang/Object;Ljava/lang/String;)Ljava/lang/Object;" } : Jvm.MethodName) jdk_31_method_11_code (2 : Nat) (Option.some (Jvm.ClassFile.FieldType.object "java/lang/Object")), Jvm.Cond.code ({ cls := "com/example/neat_order/neatorder/model/LifecycleFailure", name := "equals", desc := "(Ljava/lang/Object;)Z" } : Jvm.MethodName) prog_38_method_9_code (3 : Nat) (Option.some Jvm.ClassFile.FieldType.boolean), Jvm.Cond.code ({ cls := "java/lang/String", name := "equals", desc := "(Ljava/lang/Object;)Z" } : Jvm.MethodName) jdk_42_method_66_code (3 : Nat) (Option.some Jvm.ClassFile.FieldType.boolean), Jvm.Cond.code ({ cls := "java/lang/StringLatin1", name := "equals", desc := "([B[B)Z" } : Jvm.MethodName) jdk_43_method_13_code (3 : Nat) (Option.some Jvm.ClassFile.FieldType.boolean), Jvm.Cond.code ({ cls := "java/lang/StringUTF16", name := "compress", desc := "([CII)[B" } : Jvm.MethodName) jdk_52_method_16_code (6 : Nat) (Option.some (Jvm.ClassFile.FieldType.array Jvm.ClassFile.FieldType.byte)), Jvm.Cond.code ({ cls := "java/lang/StringUTF16", name := "compress", desc := "([CI[BII)I" } : Jvm.MethodName) jdk_52_method_21_code (7 : Nat) (Option.some Jvm.ClassFile.FieldType.int), Jvm.Cond.code ({ cls := "java/lang/StringUTF16", name := "coderFromArrayLen", desc := "([BI)B" } : Jvm.MethodName) jdk_52_method_15_code (2 : Nat) (Option.some Jvm.ClassFile.FieldType.byte)]
set_option maxRecDepth 65536 in
theorem codes_eq : words1.filter isCode = codes1 := rfl
theorem w_codes : ∀ c ∈ words1.filter isCode, c.before args0 about1 = true := by
  rw [codes_eq]
  intro c hc
  simp only [codes1, List.mem_cons, List.not_mem_nil, or_false] at hc
  rcases hc with rfl | rfl | rfl | rfl | rfl | rfl | rfl | rfl | rfl | rfl | rfl | rfl | rfl | rfl | rfl | rfl | rfl | rfl | rfl | rfl
  · exact w_c0
  · exact w_c1
  · exact w_c2
  · exact w_c3
  · exact w_c4
  · exact w_c5
  · exact w_c6
  · exact w_c7
  · exact w_c8
  · exact w_c9
  · exact w_c10
  · exact w_c11
  · exact w_c12
  · exact w_c13
  · exact w_c14
  · exact w_c15
  · exact w_c16
  · exact w_c17
  · exact w_c18
  · exact w_c19
set_option maxRecDepth 65536 in
theorem w_t1 : (words1.take 24).all (fun c => isCode c || c.before args0 about1) = true := by decide +kernel
set_option maxRecDepth 65536 in
theorem w_t2 : ((words1.drop 24).take 24).all (fun c => isCode c || c.before args0 about1) = true := by decide +kernel
set_option maxRecDepth 65536 in
theorem w_t3 : (((words1.drop 24).drop 24).take 24).all (fun c => isCode c || c.before args0 about1) = true := by decide +kernel
set_option maxRecDepth 65536 in
theorem w_t4 : ((((words1.drop 24).drop 24).drop 24).take 24).all (fun c => isCode c || c.before args0 about1) = true := by decide +kernel
set_option maxRecDepth 65536 in
theorem w_t5 : ((((words1.drop 24).drop 24).drop 24).drop 24).all (fun c => isCode c || c.before args0 about1) = true := by decide +kernel
theorem w_tables : (allAtoms (Jvm.Cond.code x code maxLocals ret :: tables_1)).before args0 about1 = true := by
  rw [allAtoms_all]
  show words1.all (fun c => c.before args0 about1) = true
  refine all_split ?_ w_codes
  rw [← List.take_append_drop 24 words1, List.all_append, w_t1, ← List.take_append_drop 24 (words1.drop 24), List.all_append, w_t2, ← List.take_append_drop 24 ((words1.drop 24).drop 24), List.all_append, w_t3, ← List.take_append_drop 24 (((words1.drop 24).drop 24).drop 24), List.all_append, w_t4, w_t5]
  rfl
set_option maxRecDepth 65536 in
theorem w_rest : rest_1_c.before args0 about1 = true := by decide +kernel
set_option maxRecDepth 65536 in
theorem w_case : (Jvm.Cond.and given_1 narrow_1).before args0 about1 = true := by decide +kernel
set_option maxRecDepth 65536 in
theorem w_consts : constsHeld consts_1 about1 := Jvm.Lit.constsHeldB_iff.mp (by decide +kernel)
theorem w_applies : (headSpec (Jvm.Cond.code x code maxLocals ret :: tables_1) room_1).applies x e0.platform about1 = true :=
  (Spec.applies_iff w_frames).mpr ⟨w_running, w_runnable, w_alone, w_named, w_hears, w_ripe, w_room, w_tables⟩
theorem atStart : AtStart classFile x code maxLocals ret World_1 tables_1 room_1 Calls_1 rest_1 Pre_1 launch0 p0 e0 about1 theMethod args0 below0 :=
  ⟨lists_1, trivial, launch0.admits_env _ _ _, launch0.least_env, fairChoices_fair.cas, fairChoices_fair.clock, w_frames, w_args, w_heap, w_applies, ⟨w_consts, trivial⟩, w_rest, w_case⟩
end start1
theorem witness_1 : WitnessClaimed_1 := ⟨start1.p0, start1.e0, start1.about1, start1.theMethod, start1.args0, start1.below0, start1.atStart⟩
end Jvm.Pilot.@@N@@
