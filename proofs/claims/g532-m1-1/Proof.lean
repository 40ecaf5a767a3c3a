import JvmDerived
import JvmDerived.Pilot.@@N@@Statement
import JvmDerived.Pilot.@@N@@Code
set_option linter.unusedVariables false
set_option linter.unusedSimpArgs false
namespace Jvm.RoadKit
open Sem ClassFile Op Lib Jvm.Stand Jvm.Free Jvm.LawKit
section New
variable {p : Program} {l : Launch} {e : Env} {R : Room} {s : State} {m : MethodId} {args : Array Value} {below : List Frame} {meth : Method} {c : Code} {T : State} {locs : List Loc} {cells slots : Nat}
theorem retI (X : Stand p l e R s m args below meth c T locs cells slots) (hx : p.tables.exec = Jvm.exec) {pc : Nat} {Ls : Array Slot} {z : Int32} {rest : List Value} (hret : meth.sig.returnType = some .int) (hd : decode c.code pc = .ok (.ireturn, 1)) {fs : List Frame}
    (hl : ∀ (f : JFrame) (acts : List Action), f.method = m → f.locked = none → f.entered = [] → (doReturn e (T.setTop f) acts (some (.int z))).1 = T.setFrames fs) : Steps p.tables e below (T.setTop (mkF m pc Ls (.int z :: rest))) (T.setFrames fs) := by
  have hm' : T.vm.method? m = some meth := X.method'
  have hn : narrow .int (.int z) = .int z := rfl
  show Steps p.tables e below (T.setTop { method := m, pc := pc, locals := Ls, stack := _ :: rest, locked := none }) _
  jvm_step X.here [X.here.top, hx, hd, hm', hret, hn]
  first | (intro acts; rw [hl _ acts rfl rfl rfl]) | rw [hl _ _ rfl rfl rfl]
  exact Steps.refl _
end New
end Jvm.RoadKit
namespace Jvm.Pilot.@@N@@
open Jvm Jvm.ClassFile Sem Op Lib Jvm.Free Jvm.Stand Jvm.LawKit Jvm.RoadKit Bundle Jvm.Pilot.@@N@@.Jvm.D
def OwnFin (tb : Tables) (e : Env) (below : List Frame) (G : Outcome → State → Prop) (t : State) : Prop := ∃ s₂ o, Steps tb e below t s₂ ∧ s₂.status = .running ∧ Ended s₂ below o ∧ G o s₂
theorem OwnFin.st {tb : Tables} {e : Env} {below : List Frame} {G : Outcome → State → Prop} {t t' : State} (k : ∀ target, Steps tb e below t' target → Steps tb e below t target) (h : OwnFin tb e below G t') : OwnFin tb e below G t := by
  obtain ⟨s2, o, h1, h2⟩ := h
  exact ⟨s2, o, k _ h1, h2⟩
theorem OwnFin.tr {tb : Tables} {e : Env} {below : List Frame} {G : Outcome → State → Prop} {t t' : State} (k : Steps tb e below t t') (h : OwnFin tb e below G t') : OwnFin tb e below G t := by
  obtain ⟨s2, o, h1, h2⟩ := h
  exact ⟨s2, o, k.trans h1, h2⟩
theorem own_eqv {args : Array Value} {first s : State} {o : Option Outcome} {idx : List Nat} {t : Term} {n : Int32} {x : Value} (h : (Jvm.Cond.eq t (Term.int n)).value args first o s idx = some true) (e : t.eval args first o idx s = some x) : x = .int n := by
  cases x <;> simp_all [Cond.value, Term.eval]
theorem d2_0 : decode jdk_37_method_2_code 0 = .ok (.aload_n 0, 1) := by decide +kernel
theorem d2_1 : decode jdk_37_method_2_code 1 = .ok (.getfield 7, 3) := by decide +kernel
theorem d2_4 : decode jdk_37_method_2_code 4 = .ok (.ireturn, 1) := by decide +kernel
theorem pn_0 : plainName "java/lang/Enum" = true := by first | (simp [plainName, overriddenIn]; done) | decide +kernel
theorem ef_rm2 (m : MethodId) (a0 : Addr) : entryFrame m #[(.ref a0)] 1 = mkF m 0 #[.val (.ref a0)] [] := by first | (simp [entryFrame, mkF, argsToLocals, Value.category]; done) | rfl
def Q_rm2 (Z : State) (a0 : Addr) (w_ordinal_a0 : Int32) (h0 : Heap) (n0 : Nat) (v : Option Value) (h : Heap) (L : List Loc) : Prop := v = some (.int w_ordinal_a0) ∧ Fr n0 L ∧ h = h0
set_option maxRecDepth 65536 in
set_option maxHeartbeats 40000000 in
theorem rm2 (l : Launch) (Z : State) (av0 : Array Value) (hw : ∀ d ∈ tables_1, d.before av0 Z = true) (ws : List Jvm.Cond) (a0 : Addr) (w_ordinal_a0 : Int32) (h0 : Heap) (n0 : Nat) (Z0 : n0 ≤ h0.size) (F_ordinal_a0 : Fld Z h0 a0 "java/lang/Enum" "ordinal" "I" (.int w_ordinal_a0)) :
    MetFree l (⟨"java/lang/Enum", "ordinal", "()I"⟩ : MethodName) (head1 (Jvm.Cond.code (⟨"java/lang/Enum", "ordinal", "()I"⟩ : MethodName) jdk_37_method_2_code 1 (some .int) :: ws) ({ frames := 0, cells := 0, slots := 0, locals := 0 } : Room)) (fun a U => a = #[(.ref a0)] ∧ Z.Warmed39 U.vm ∧ U.heap = h0) (fun _ _ _ _ _ => True) (fun _ U o U' => ∃ v L, o = .returned v ∧ Q_rm2 Z a0 w_ordinal_a0 h0 n0 v U'.heap L ∧ FrameEnd U o U' L ({ frames := 0, cells := 0, slots := 0, locals := 0 } : Room).cells ({ frames := 0, cells := 0, slots := 0, locals := 0 } : Room).slots) := by
  refine MetFree.of_bodySF (plainFor_of_name pn_0) hisR ?_
  intro p e s m args below meth c s₁ Bd hml0 hP hK
  obtain ⟨rfl, hZ, hh⟩ := hP
  have hx := Bd.exec
  have hby := Bd.bytes
  have hml : c.maxLocals = 1 := hml0
  have hown : s.vm.findClass "java/lang/Enum" = some m.cls := findClass_of_methodNamed Bd.named
  have hnm := (name_of_methodNamed Bd.named Bd.method).1
  have X0 : Stand p l e ({ frames := 0, cells := 0, slots := 0, locals := 0 } : Room) s m #[(.ref a0)] below meth c s₁ [] 0 0 := Stand.of_body Bd
  have e0 : s₁.heap = h0 := by rw [← hh, Bd.state]; rfl
  have N0 := Fr.nil n0
  have pre0 : ∀ t, Steps p.tables e below (s₁.setTop (mkF m 0 #[.val (.ref a0)] [])) t → Steps p.tables e below (s₁.setTop (entryFrame m #[(.ref a0)] 1)) t := fun t k => castTop (ef_rm2 m a0) k
  change OwnFin p.tables e below _ (s₁.setTop (entryFrame m #[(.ref a0)] 1))
  have kp0 : Keep h0 h0 [] := Keep.refl _ _
  refine OwnFin.st (fun _ q => pre0 _ q) ?_
  show OwnFin _ _ _ _ (s₁.setTop (mkF m 0 #[.val (.ref a0)] []))
  refine OwnFin.st (fun _ q => XS.aloadN X0.here hx rfl (hb hby d2_0) rfl rfl q) ?_
  show OwnFin _ _ _ _ (s₁.setTop (mkF m 1 #[.val (.ref a0)] [(.ref a0)]))
  obtain ⟨T1, X1, e1, st1⟩ := getF X0 hx hZ hown (host := "") (Or.inl (hw _ (List.mem_of_getElem? (i := 16) rfl))) Via.refl e0 F_ordinal_a0 (g := (mkF m 1 #[.val (.ref a0)] [(.ref a0)])) rfl rfl (hb hby d2_1)
  refine OwnFin.st st1 ?_
  show OwnFin _ _ _ _ (T1.setTop (mkF m 4 #[.val (.ref a0)] [(.int w_ordinal_a0)]))
  obtain ⟨fs, hr, hrun, hended, hW, hsame⟩ := X1.leave (v := some (.int w_ordinal_a0)) (fun h => by rw [Bd.returns] at h; cases h)
  refine ⟨_, _, retI X1 hx Bd.returns (hb hby d2_4) hr, hrun, hended, _, _, rfl, ?_, ⟨_, rfl⟩, hW, hsame.mono (by decide) (by decide)⟩
  show Q_rm2 Z a0 w_ordinal_a0 h0 n0 _ T1.heap _
  rw [e1]
  exact ⟨rfl, N0, rfl⟩
theorem pd_0 : parseMethodDescriptor "()I" = some ⟨[], some .int⟩ := by decide +kernel
theorem d1_0 : decode prog_23_method_4_code 0 = .ok (.aload_n 0, 1) := by decide +kernel
theorem d1_1 : decode prog_23_method_4_code 1 = .ok (.invokevirtual 39, 3) := by decide +kernel
theorem d1_4 : decode prog_23_method_4_code 4 = .ok (.tableswitch 28 0 2 #[38, 42, 54], 28) := by decide +kernel
theorem d1_42 : decode prog_23_method_4_code 42 = .ok (.iconst 1, 1) := by decide +kernel
theorem d1_43 : decode prog_23_method_4_code 43 = .ok (.goto 16, 3) := by decide +kernel
theorem d1_59 : decode prog_23_method_4_code 59 = .ok (.ireturn, 1) := by decide +kernel
theorem pn_1 : plainName "com/example/neat_order/neatorder/core/graph/ProcessNeed" = true := by first | (simp [plainName, overriddenIn]; done) | decide +kernel
theorem ef_rm1_0 (m : MethodId) (a0 : Addr) (p1 : Int32) : entryFrame m #[(.ref a0), (.int p1)] 2 = mkF m 0 #[.val (.ref a0), .val (.int p1)] [] := by first | (simp [entryFrame, mkF, argsToLocals, Value.category]; done) | rfl
def Q_rm1_0 (Z : State) (a0 : Addr) (p1 : Int32) (h0 : Heap) (n0 : Nat) (v : Option Value) (h : Heap) (L : List Loc) : Prop := v = some (.int (1 : Int32)) ∧ Fr n0 L ∧ h = h0
set_option maxRecDepth 65536 in
set_option maxHeartbeats 40000000 in
theorem rm1_0 (l : Launch) (Z : State) (av0 : Array Value) (hw : ∀ d ∈ tables_1, d.before av0 Z = true) (ws : List Jvm.Cond) (a0 : Addr) (p1 : Int32) (h0 : Heap) (n0 : Nat) (Z0 : n0 ≤ h0.size) (X_a0 : Exa Z h0 a0 "com/example/neat_order/neatorder/core/graph/ProcessNeed") (F_ordinal_a0 : Fld Z h0 a0 "java/lang/Enum" "ordinal" "I" (.int (0 : Int32))) :
    MetFree l (⟨"com/example/neat_order/neatorder/core/graph/ProcessNeed", "allowsNewProcess", "(Z)Z"⟩ : MethodName) (head1 (Jvm.Cond.code (⟨"com/example/neat_order/neatorder/core/graph/ProcessNeed", "allowsNewProcess", "(Z)Z"⟩ : MethodName) prog_23_method_4_code 2 (some .boolean) :: ws) ({ frames := 1, cells := 0, slots := 0, locals := 12 } : Room)) (fun a U => a = #[(.ref a0), (.int p1)] ∧ Z.Warmed39 U.vm ∧ U.heap = h0) (fun _ _ _ _ _ => True) (fun _ U o U' => ∃ v L, o = .returned v ∧ Q_rm1_0 Z a0 p1 h0 n0 v U'.heap L ∧ FrameEnd U o U' L ({ frames := 1, cells := 0, slots := 0, locals := 12 } : Room).cells ({ frames := 1, cells := 0, slots := 0, locals := 12 } : Room).slots) := by
  refine MetFree.of_bodySF (plainFor_of_name pn_1) hisR ?_
  intro p e s m args below meth c s₁ Bd hml0 hP hK
  obtain ⟨rfl, hZ, hh⟩ := hP
  have hx := Bd.exec
  have hby := Bd.bytes
  have hml : c.maxLocals = 2 := hml0
  have hown : s.vm.findClass "com/example/neat_order/neatorder/core/graph/ProcessNeed" = some m.cls := findClass_of_methodNamed Bd.named
  have hnm := (name_of_methodNamed Bd.named Bd.method).1
  have X0 : Stand p l e ({ frames := 1, cells := 0, slots := 0, locals := 12 } : Room) s m #[(.ref a0), (.int p1)] below meth c s₁ [] 0 0 := Stand.of_body Bd
  have e0 : s₁.heap = h0 := by rw [← hh, Bd.state]; rfl
  have N0 := Fr.nil n0
  have pre0 : ∀ t, Steps p.tables e below (s₁.setTop (mkF m 0 #[.val (.ref a0), .val (.int p1)] [])) t → Steps p.tables e below (s₁.setTop (entryFrame m #[(.ref a0), (.int p1)] 2)) t := fun t k => castTop (ef_rm1_0 m a0 p1) k
  change OwnFin p.tables e below _ (s₁.setTop (entryFrame m #[(.ref a0), (.int p1)] 2))
  have kp0 : Keep h0 h0 [] := Keep.refl _ _
  refine OwnFin.st (fun _ q => pre0 _ q) ?_
  show OwnFin _ _ _ _ (s₁.setTop (mkF m 0 #[.val (.ref a0), .val (.int p1)] []))
  refine OwnFin.st (fun _ q => XS.aloadN X0.here hx rfl (hb hby d1_0) rfl rfl q) ?_
  show OwnFin _ _ _ _ (s₁.setTop (mkF m 1 #[.val (.ref a0), .val (.int p1)] [(.ref a0)]))
  obtain ⟨cq1, kq1, q1a, q1b, q1c⟩ := isOf hZ e0 X_a0
  obtain ⟨_, _, ⟨T1, L1, k1, n1⟩, -, X1, ⟨Lc1, hQ1, l1, y1, z1⟩, st1⟩ := X0.virtualBackUp hx (x := (⟨"com/example/neat_order/neatorder/core/graph/ProcessNeed", "ordinal", "()I"⟩ : MethodName)) (y := (⟨"java/lang/Enum", "ordinal", "()I"⟩ : MethodName)) hown (mvT hZ (hw _ (List.mem_of_getElem? (i := 9) rfl))) (mvT hZ (hw _ (List.mem_of_getElem? (i := 10) rfl))) (mvT hZ (hw _ (List.mem_of_getElem? (i := 11) rfl))) (by decide) (mvT hZ (hw _ (List.mem_of_getElem? (i := 13) rfl))) (mvT hZ (hw _ (List.mem_of_getElem? (i := 12) rfl))) (backOf (W := 0) (rm2 l Z av0 hw [] a0 (0 : Int32) h0 n0 (Nat.le_trans Z0 kp0.1) F_ordinal_a0) hZ (hw _ (List.mem_of_getElem? (i := 15) rfl)) (hw _ (List.mem_of_getElem? (i := 14) rfl)) (by decide) (by decide)) q1a q1c (g := (mkF m 1 #[.val (.ref a0), .val (.int p1)] [(.ref a0)])) rfl (by rw [hml]; rfl) (Steps.refl _) (argsL := []) (rest := []) (lenOf pd_0 rfl) rfl (by show 2 * 0 + _ ≤ _; exact Nat.le_of_eq rfl) (hb hby d1_1) (fun _ _ => ⟨rfl, e0, (by decide : 0 + 0 ≤ _), (by decide : 0 + 0 ≤ _)⟩)
  dsimp only [Pt.U, Pt.locs, Pt.cells, Pt.slots] at X1 l1 y1 z1 st1 hQ1
  subst l1 y1 z1
  obtain ⟨rfl, N1q, he1⟩ := hQ1
  have N1 := Fr.app N0 N1q
  refine OwnFin.tr st1 ?_
  show OwnFin _ _ _ _ (T1.setTop (mkF m 4 #[.val (.ref a0), .val (.int p1)] [(.int (0 : Int32))]))
  refine OwnFin.st (fun _ q => XS.tswIn X1.here hx rfl (pc0 := 4) (pc' := 42) rfl (hb hby d1_4) rfl (by decide) rfl (by decide) (by decide) q) ?_
  show OwnFin _ _ _ _ (T1.setTop (mkF m 42 #[.val (.ref a0), .val (.int p1)] []))
  refine OwnFin.st (fun _ q => XS.iconst X1.here hx rfl (hb hby d1_42) q) ?_
  show OwnFin _ _ _ _ (T1.setTop (mkF m 43 #[.val (.ref a0), .val (.int p1)] [(.int (1 : Int32))]))
  refine OwnFin.st (fun _ q => XS.goto X1.here hx rfl (pc0 := 43) (pc' := 59) rfl (hb hby d1_43) (by decide) (by decide) q) ?_
  show OwnFin _ _ _ _ (T1.setTop (mkF m 59 #[.val (.ref a0), .val (.int p1)] [(.int (1 : Int32))]))
  obtain ⟨fs, hr, hrun, hended, hW, hsame⟩ := X1.leave (v := some (.int (1 : Int32))) (fun h => by rw [Bd.returns] at h; cases h)
  refine ⟨_, _, retN X1 hx (t := .boolean) Bd.returns (by simp) (hb hby d1_59) hr, hrun, hended, _, _, rfl, ?_, ⟨_, rfl⟩, hW, hsame.mono (by decide) (by decide)⟩
  show Q_rm1_0 Z a0 p1 h0 n0 _ T1.heap _
  rw [he1]
  exact ⟨rfl, N1, rfl⟩
theorem d1_46 : decode prog_23_method_4_code 46 = .ok (.iload_n 1, 1) := by decide +kernel
theorem d1_47 : decode prog_23_method_4_code 47 = .ok (.ifCond .ne 7, 3) := by decide +kernel
theorem d1_50 : decode prog_23_method_4_code 50 = .ok (.iconst 1, 1) := by decide +kernel
theorem d1_51 : decode prog_23_method_4_code 51 = .ok (.goto 8, 3) := by decide +kernel
theorem ef_rm1_1t (m : MethodId) (a0 : Addr) (p1 : Int32) : entryFrame m #[(.ref a0), (.int p1)] 2 = mkF m 0 #[.val (.ref a0), .val (.int p1)] [] := by first | (simp [entryFrame, mkF, argsToLocals, Value.category]; done) | rfl
def Q_rm1_1t (Z : State) (a0 : Addr) (p1 : Int32) (h0 : Heap) (n0 : Nat) (v : Option Value) (h : Heap) (L : List Loc) : Prop := v = some (.int (1 : Int32)) ∧ Fr n0 L ∧ h = h0
set_option maxRecDepth 65536 in
set_option maxHeartbeats 40000000 in
theorem rm1_1t (l : Launch) (Z : State) (av0 : Array Value) (hw : ∀ d ∈ tables_1, d.before av0 Z = true) (ws : List Jvm.Cond) (a0 : Addr) (p1 : Int32) (h0 : Heap) (n0 : Nat) (Z0 : n0 ≤ h0.size) (X_a0 : Exa Z h0 a0 "com/example/neat_order/neatorder/core/graph/ProcessNeed") (F_ordinal_a0 : Fld Z h0 a0 "java/lang/Enum" "ordinal" "I" (.int (1 : Int32))) (hc0 : p1 = (0 : Int32)) :
    MetFree l (⟨"com/example/neat_order/neatorder/core/graph/ProcessNeed", "allowsNewProcess", "(Z)Z"⟩ : MethodName) (head1 (Jvm.Cond.code (⟨"com/example/neat_order/neatorder/core/graph/ProcessNeed", "allowsNewProcess", "(Z)Z"⟩ : MethodName) prog_23_method_4_code 2 (some .boolean) :: ws) ({ frames := 1, cells := 0, slots := 0, locals := 12 } : Room)) (fun a U => a = #[(.ref a0), (.int p1)] ∧ Z.Warmed39 U.vm ∧ U.heap = h0) (fun _ _ _ _ _ => True) (fun _ U o U' => ∃ v L, o = .returned v ∧ Q_rm1_1t Z a0 p1 h0 n0 v U'.heap L ∧ FrameEnd U o U' L ({ frames := 1, cells := 0, slots := 0, locals := 12 } : Room).cells ({ frames := 1, cells := 0, slots := 0, locals := 12 } : Room).slots) := by
  refine MetFree.of_bodySF (plainFor_of_name pn_1) hisR ?_
  intro p e s m args below meth c s₁ Bd hml0 hP hK
  obtain ⟨rfl, hZ, hh⟩ := hP
  have hx := Bd.exec
  have hby := Bd.bytes
  have hml : c.maxLocals = 2 := hml0
  have hown : s.vm.findClass "com/example/neat_order/neatorder/core/graph/ProcessNeed" = some m.cls := findClass_of_methodNamed Bd.named
  have hnm := (name_of_methodNamed Bd.named Bd.method).1
  have X0 : Stand p l e ({ frames := 1, cells := 0, slots := 0, locals := 12 } : Room) s m #[(.ref a0), (.int p1)] below meth c s₁ [] 0 0 := Stand.of_body Bd
  have e0 : s₁.heap = h0 := by rw [← hh, Bd.state]; rfl
  have N0 := Fr.nil n0
  have pre0 : ∀ t, Steps p.tables e below (s₁.setTop (mkF m 0 #[.val (.ref a0), .val (.int p1)] [])) t → Steps p.tables e below (s₁.setTop (entryFrame m #[(.ref a0), (.int p1)] 2)) t := fun t k => castTop (ef_rm1_1t m a0 p1) k
  change OwnFin p.tables e below _ (s₁.setTop (entryFrame m #[(.ref a0), (.int p1)] 2))
  have kp0 : Keep h0 h0 [] := Keep.refl _ _
  refine OwnFin.st (fun _ q => pre0 _ q) ?_
  show OwnFin _ _ _ _ (s₁.setTop (mkF m 0 #[.val (.ref a0), .val (.int p1)] []))
  refine OwnFin.st (fun _ q => XS.aloadN X0.here hx rfl (hb hby d1_0) rfl rfl q) ?_
  show OwnFin _ _ _ _ (s₁.setTop (mkF m 1 #[.val (.ref a0), .val (.int p1)] [(.ref a0)]))
  obtain ⟨cq1, kq1, q1a, q1b, q1c⟩ := isOf hZ e0 X_a0
  obtain ⟨_, _, ⟨T1, L1, k1, n1⟩, -, X1, ⟨Lc1, hQ1, l1, y1, z1⟩, st1⟩ := X0.virtualBackUp hx (x := (⟨"com/example/neat_order/neatorder/core/graph/ProcessNeed", "ordinal", "()I"⟩ : MethodName)) (y := (⟨"java/lang/Enum", "ordinal", "()I"⟩ : MethodName)) hown (mvT hZ (hw _ (List.mem_of_getElem? (i := 9) rfl))) (mvT hZ (hw _ (List.mem_of_getElem? (i := 10) rfl))) (mvT hZ (hw _ (List.mem_of_getElem? (i := 11) rfl))) (by decide) (mvT hZ (hw _ (List.mem_of_getElem? (i := 13) rfl))) (mvT hZ (hw _ (List.mem_of_getElem? (i := 12) rfl))) (backOf (W := 0) (rm2 l Z av0 hw [] a0 (1 : Int32) h0 n0 (Nat.le_trans Z0 kp0.1) F_ordinal_a0) hZ (hw _ (List.mem_of_getElem? (i := 15) rfl)) (hw _ (List.mem_of_getElem? (i := 14) rfl)) (by decide) (by decide)) q1a q1c (g := (mkF m 1 #[.val (.ref a0), .val (.int p1)] [(.ref a0)])) rfl (by rw [hml]; rfl) (Steps.refl _) (argsL := []) (rest := []) (lenOf pd_0 rfl) rfl (by show 2 * 0 + _ ≤ _; exact Nat.le_of_eq rfl) (hb hby d1_1) (fun _ _ => ⟨rfl, e0, (by decide : 0 + 0 ≤ _), (by decide : 0 + 0 ≤ _)⟩)
  dsimp only [Pt.U, Pt.locs, Pt.cells, Pt.slots] at X1 l1 y1 z1 st1 hQ1
  subst l1 y1 z1
  obtain ⟨rfl, N1q, he1⟩ := hQ1
  have N1 := Fr.app N0 N1q
  refine OwnFin.tr st1 ?_
  show OwnFin _ _ _ _ (T1.setTop (mkF m 4 #[.val (.ref a0), .val (.int p1)] [(.int (1 : Int32))]))
  refine OwnFin.st (fun _ q => XS.tswIn X1.here hx rfl (pc0 := 4) (pc' := 46) rfl (hb hby d1_4) rfl (by decide) rfl (by decide) (by decide) q) ?_
  show OwnFin _ _ _ _ (T1.setTop (mkF m 46 #[.val (.ref a0), .val (.int p1)] []))
  refine OwnFin.st (fun _ q => XS.iloadN X1.here hx rfl (hb hby d1_46) rfl q) ?_
  show OwnFin _ _ _ _ (T1.setTop (mkF m 47 #[.val (.ref a0), .val (.int p1)] [(.int p1)]))
  refine OwnFin.st (fun _ q => XS.ifNo X1.here hx rfl (hb hby d1_47) rfl (Jvm.Free.XT.i0_ne_f hc0) q) ?_
  show OwnFin _ _ _ _ (T1.setTop (mkF m 50 #[.val (.ref a0), .val (.int p1)] []))
  refine OwnFin.st (fun _ q => XS.iconst X1.here hx rfl (hb hby d1_50) q) ?_
  show OwnFin _ _ _ _ (T1.setTop (mkF m 51 #[.val (.ref a0), .val (.int p1)] [(.int (1 : Int32))]))
  refine OwnFin.st (fun _ q => XS.goto X1.here hx rfl (pc0 := 51) (pc' := 59) rfl (hb hby d1_51) (by decide) (by decide) q) ?_
  show OwnFin _ _ _ _ (T1.setTop (mkF m 59 #[.val (.ref a0), .val (.int p1)] [(.int (1 : Int32))]))
  obtain ⟨fs, hr, hrun, hended, hW, hsame⟩ := X1.leave (v := some (.int (1 : Int32))) (fun h => by rw [Bd.returns] at h; cases h)
  refine ⟨_, _, retN X1 hx (t := .boolean) Bd.returns (by simp) (hb hby d1_59) hr, hrun, hended, _, _, rfl, ?_, ⟨_, rfl⟩, hW, hsame.mono (by decide) (by decide)⟩
  show Q_rm1_1t Z a0 p1 h0 n0 _ T1.heap _
  rw [he1]
  exact ⟨rfl, N1, rfl⟩
theorem d1_54 : decode prog_23_method_4_code 54 = .ok (.iconst 0, 1) := by decide +kernel
theorem d1_55 : decode prog_23_method_4_code 55 = .ok (.goto 4, 3) := by decide +kernel
theorem ef_rm1_1f (m : MethodId) (a0 : Addr) (p1 : Int32) : entryFrame m #[(.ref a0), (.int p1)] 2 = mkF m 0 #[.val (.ref a0), .val (.int p1)] [] := by first | (simp [entryFrame, mkF, argsToLocals, Value.category]; done) | rfl
def Q_rm1_1f (Z : State) (a0 : Addr) (p1 : Int32) (h0 : Heap) (n0 : Nat) (v : Option Value) (h : Heap) (L : List Loc) : Prop := v = some (.int (0 : Int32)) ∧ Fr n0 L ∧ h = h0
set_option maxRecDepth 65536 in
set_option maxHeartbeats 40000000 in
theorem rm1_1f (l : Launch) (Z : State) (av0 : Array Value) (hw : ∀ d ∈ tables_1, d.before av0 Z = true) (ws : List Jvm.Cond) (a0 : Addr) (p1 : Int32) (h0 : Heap) (n0 : Nat) (Z0 : n0 ≤ h0.size) (X_a0 : Exa Z h0 a0 "com/example/neat_order/neatorder/core/graph/ProcessNeed") (F_ordinal_a0 : Fld Z h0 a0 "java/lang/Enum" "ordinal" "I" (.int (1 : Int32))) (hc0 : ¬ (p1 = (0 : Int32))) :
    MetFree l (⟨"com/example/neat_order/neatorder/core/graph/ProcessNeed", "allowsNewProcess", "(Z)Z"⟩ : MethodName) (head1 (Jvm.Cond.code (⟨"com/example/neat_order/neatorder/core/graph/ProcessNeed", "allowsNewProcess", "(Z)Z"⟩ : MethodName) prog_23_method_4_code 2 (some .boolean) :: ws) ({ frames := 1, cells := 0, slots := 0, locals := 12 } : Room)) (fun a U => a = #[(.ref a0), (.int p1)] ∧ Z.Warmed39 U.vm ∧ U.heap = h0) (fun _ _ _ _ _ => True) (fun _ U o U' => ∃ v L, o = .returned v ∧ Q_rm1_1f Z a0 p1 h0 n0 v U'.heap L ∧ FrameEnd U o U' L ({ frames := 1, cells := 0, slots := 0, locals := 12 } : Room).cells ({ frames := 1, cells := 0, slots := 0, locals := 12 } : Room).slots) := by
  refine MetFree.of_bodySF (plainFor_of_name pn_1) hisR ?_
  intro p e s m args below meth c s₁ Bd hml0 hP hK
  obtain ⟨rfl, hZ, hh⟩ := hP
  have hx := Bd.exec
  have hby := Bd.bytes
  have hml : c.maxLocals = 2 := hml0
  have hown : s.vm.findClass "com/example/neat_order/neatorder/core/graph/ProcessNeed" = some m.cls := findClass_of_methodNamed Bd.named
  have hnm := (name_of_methodNamed Bd.named Bd.method).1
  have X0 : Stand p l e ({ frames := 1, cells := 0, slots := 0, locals := 12 } : Room) s m #[(.ref a0), (.int p1)] below meth c s₁ [] 0 0 := Stand.of_body Bd
  have e0 : s₁.heap = h0 := by rw [← hh, Bd.state]; rfl
  have N0 := Fr.nil n0
  have pre0 : ∀ t, Steps p.tables e below (s₁.setTop (mkF m 0 #[.val (.ref a0), .val (.int p1)] [])) t → Steps p.tables e below (s₁.setTop (entryFrame m #[(.ref a0), (.int p1)] 2)) t := fun t k => castTop (ef_rm1_1f m a0 p1) k
  change OwnFin p.tables e below _ (s₁.setTop (entryFrame m #[(.ref a0), (.int p1)] 2))
  have kp0 : Keep h0 h0 [] := Keep.refl _ _
  refine OwnFin.st (fun _ q => pre0 _ q) ?_
  show OwnFin _ _ _ _ (s₁.setTop (mkF m 0 #[.val (.ref a0), .val (.int p1)] []))
  refine OwnFin.st (fun _ q => XS.aloadN X0.here hx rfl (hb hby d1_0) rfl rfl q) ?_
  show OwnFin _ _ _ _ (s₁.setTop (mkF m 1 #[.val (.ref a0), .val (.int p1)] [(.ref a0)]))
  obtain ⟨cq1, kq1, q1a, q1b, q1c⟩ := isOf hZ e0 X_a0
  obtain ⟨_, _, ⟨T1, L1, k1, n1⟩, -, X1, ⟨Lc1, hQ1, l1, y1, z1⟩, st1⟩ := X0.virtualBackUp hx (x := (⟨"com/example/neat_order/neatorder/core/graph/ProcessNeed", "ordinal", "()I"⟩ : MethodName)) (y := (⟨"java/lang/Enum", "ordinal", "()I"⟩ : MethodName)) hown (mvT hZ (hw _ (List.mem_of_getElem? (i := 9) rfl))) (mvT hZ (hw _ (List.mem_of_getElem? (i := 10) rfl))) (mvT hZ (hw _ (List.mem_of_getElem? (i := 11) rfl))) (by decide) (mvT hZ (hw _ (List.mem_of_getElem? (i := 13) rfl))) (mvT hZ (hw _ (List.mem_of_getElem? (i := 12) rfl))) (backOf (W := 0) (rm2 l Z av0 hw [] a0 (1 : Int32) h0 n0 (Nat.le_trans Z0 kp0.1) F_ordinal_a0) hZ (hw _ (List.mem_of_getElem? (i := 15) rfl)) (hw _ (List.mem_of_getElem? (i := 14) rfl)) (by decide) (by decide)) q1a q1c (g := (mkF m 1 #[.val (.ref a0), .val (.int p1)] [(.ref a0)])) rfl (by rw [hml]; rfl) (Steps.refl _) (argsL := []) (rest := []) (lenOf pd_0 rfl) rfl (by show 2 * 0 + _ ≤ _; exact Nat.le_of_eq rfl) (hb hby d1_1) (fun _ _ => ⟨rfl, e0, (by decide : 0 + 0 ≤ _), (by decide : 0 + 0 ≤ _)⟩)
  dsimp only [Pt.U, Pt.locs, Pt.cells, Pt.slots] at X1 l1 y1 z1 st1 hQ1
  subst l1 y1 z1
  obtain ⟨rfl, N1q, he1⟩ := hQ1
  have N1 := Fr.app N0 N1q
  refine OwnFin.tr st1 ?_
  show OwnFin _ _ _ _ (T1.setTop (mkF m 4 #[.val (.ref a0), .val (.int p1)] [(.int (1 : Int32))]))
  refine OwnFin.st (fun _ q => XS.tswIn X1.here hx rfl (pc0 := 4) (pc' := 46) rfl (hb hby d1_4) rfl (by decide) rfl (by decide) (by decide) q) ?_
  show OwnFin _ _ _ _ (T1.setTop (mkF m 46 #[.val (.ref a0), .val (.int p1)] []))
  refine OwnFin.st (fun _ q => XS.iloadN X1.here hx rfl (hb hby d1_46) rfl q) ?_
  show OwnFin _ _ _ _ (T1.setTop (mkF m 47 #[.val (.ref a0), .val (.int p1)] [(.int p1)]))
  refine OwnFin.st (fun _ q => XS.ifYes X1.here hx rfl (pc0 := 47) (pc' := 54) rfl (hb hby d1_47) rfl (Jvm.Free.XT.i0_ne_t hc0) (by decide) (by decide) q) ?_
  show OwnFin _ _ _ _ (T1.setTop (mkF m 54 #[.val (.ref a0), .val (.int p1)] []))
  refine OwnFin.st (fun _ q => XS.iconst X1.here hx rfl (hb hby d1_54) q) ?_
  show OwnFin _ _ _ _ (T1.setTop (mkF m 55 #[.val (.ref a0), .val (.int p1)] [(.int (0 : Int32))]))
  refine OwnFin.st (fun _ q => XS.goto X1.here hx rfl (pc0 := 55) (pc' := 59) rfl (hb hby d1_55) (by decide) (by decide) q) ?_
  show OwnFin _ _ _ _ (T1.setTop (mkF m 59 #[.val (.ref a0), .val (.int p1)] [(.int (0 : Int32))]))
  obtain ⟨fs, hr, hrun, hended, hW, hsame⟩ := X1.leave (v := some (.int (0 : Int32))) (fun h => by rw [Bd.returns] at h; cases h)
  refine ⟨_, _, retN X1 hx (t := .boolean) Bd.returns (by simp) (hb hby d1_59) hr, hrun, hended, _, _, rfl, ?_, ⟨_, rfl⟩, hW, hsame.mono (by decide) (by decide)⟩
  show Q_rm1_1f Z a0 p1 h0 n0 _ T1.heap _
  rw [he1]
  exact ⟨rfl, N1, rfl⟩
theorem d1_58 : decode prog_23_method_4_code 58 = .ok (.iconst 0, 1) := by decide +kernel
theorem ef_rm1_2 (m : MethodId) (a0 : Addr) (p1 : Int32) : entryFrame m #[(.ref a0), (.int p1)] 2 = mkF m 0 #[.val (.ref a0), .val (.int p1)] [] := by first | (simp [entryFrame, mkF, argsToLocals, Value.category]; done) | rfl
def Q_rm1_2 (Z : State) (a0 : Addr) (p1 : Int32) (h0 : Heap) (n0 : Nat) (v : Option Value) (h : Heap) (L : List Loc) : Prop := v = some (.int (0 : Int32)) ∧ Fr n0 L ∧ h = h0
set_option maxRecDepth 65536 in
set_option maxHeartbeats 40000000 in
theorem rm1_2 (l : Launch) (Z : State) (av0 : Array Value) (hw : ∀ d ∈ tables_1, d.before av0 Z = true) (ws : List Jvm.Cond) (a0 : Addr) (p1 : Int32) (h0 : Heap) (n0 : Nat) (Z0 : n0 ≤ h0.size) (X_a0 : Exa Z h0 a0 "com/example/neat_order/neatorder/core/graph/ProcessNeed") (F_ordinal_a0 : Fld Z h0 a0 "java/lang/Enum" "ordinal" "I" (.int (2 : Int32))) :
    MetFree l (⟨"com/example/neat_order/neatorder/core/graph/ProcessNeed", "allowsNewProcess", "(Z)Z"⟩ : MethodName) (head1 (Jvm.Cond.code (⟨"com/example/neat_order/neatorder/core/graph/ProcessNeed", "allowsNewProcess", "(Z)Z"⟩ : MethodName) prog_23_method_4_code 2 (some .boolean) :: ws) ({ frames := 1, cells := 0, slots := 0, locals := 12 } : Room)) (fun a U => a = #[(.ref a0), (.int p1)] ∧ Z.Warmed39 U.vm ∧ U.heap = h0) (fun _ _ _ _ _ => True) (fun _ U o U' => ∃ v L, o = .returned v ∧ Q_rm1_2 Z a0 p1 h0 n0 v U'.heap L ∧ FrameEnd U o U' L ({ frames := 1, cells := 0, slots := 0, locals := 12 } : Room).cells ({ frames := 1, cells := 0, slots := 0, locals := 12 } : Room).slots) := by
  refine MetFree.of_bodySF (plainFor_of_name pn_1) hisR ?_
  intro p e s m args below meth c s₁ Bd hml0 hP hK
  obtain ⟨rfl, hZ, hh⟩ := hP
  have hx := Bd.exec
  have hby := Bd.bytes
  have hml : c.maxLocals = 2 := hml0
  have hown : s.vm.findClass "com/example/neat_order/neatorder/core/graph/ProcessNeed" = some m.cls := findClass_of_methodNamed Bd.named
  have hnm := (name_of_methodNamed Bd.named Bd.method).1
  have X0 : Stand p l e ({ frames := 1, cells := 0, slots := 0, locals := 12 } : Room) s m #[(.ref a0), (.int p1)] below meth c s₁ [] 0 0 := Stand.of_body Bd
  have e0 : s₁.heap = h0 := by rw [← hh, Bd.state]; rfl
  have N0 := Fr.nil n0
  have pre0 : ∀ t, Steps p.tables e below (s₁.setTop (mkF m 0 #[.val (.ref a0), .val (.int p1)] [])) t → Steps p.tables e below (s₁.setTop (entryFrame m #[(.ref a0), (.int p1)] 2)) t := fun t k => castTop (ef_rm1_2 m a0 p1) k
  change OwnFin p.tables e below _ (s₁.setTop (entryFrame m #[(.ref a0), (.int p1)] 2))
  have kp0 : Keep h0 h0 [] := Keep.refl _ _
  refine OwnFin.st (fun _ q => pre0 _ q) ?_
  show OwnFin _ _ _ _ (s₁.setTop (mkF m 0 #[.val (.ref a0), .val (.int p1)] []))
  refine OwnFin.st (fun _ q => XS.aloadN X0.here hx rfl (hb hby d1_0) rfl rfl q) ?_
  show OwnFin _ _ _ _ (s₁.setTop (mkF m 1 #[.val (.ref a0), .val (.int p1)] [(.ref a0)]))
  obtain ⟨cq1, kq1, q1a, q1b, q1c⟩ := isOf hZ e0 X_a0
  obtain ⟨_, _, ⟨T1, L1, k1, n1⟩, -, X1, ⟨Lc1, hQ1, l1, y1, z1⟩, st1⟩ := X0.virtualBackUp hx (x := (⟨"com/example/neat_order/neatorder/core/graph/ProcessNeed", "ordinal", "()I"⟩ : MethodName)) (y := (⟨"java/lang/Enum", "ordinal", "()I"⟩ : MethodName)) hown (mvT hZ (hw _ (List.mem_of_getElem? (i := 9) rfl))) (mvT hZ (hw _ (List.mem_of_getElem? (i := 10) rfl))) (mvT hZ (hw _ (List.mem_of_getElem? (i := 11) rfl))) (by decide) (mvT hZ (hw _ (List.mem_of_getElem? (i := 13) rfl))) (mvT hZ (hw _ (List.mem_of_getElem? (i := 12) rfl))) (backOf (W := 0) (rm2 l Z av0 hw [] a0 (2 : Int32) h0 n0 (Nat.le_trans Z0 kp0.1) F_ordinal_a0) hZ (hw _ (List.mem_of_getElem? (i := 15) rfl)) (hw _ (List.mem_of_getElem? (i := 14) rfl)) (by decide) (by decide)) q1a q1c (g := (mkF m 1 #[.val (.ref a0), .val (.int p1)] [(.ref a0)])) rfl (by rw [hml]; rfl) (Steps.refl _) (argsL := []) (rest := []) (lenOf pd_0 rfl) rfl (by show 2 * 0 + _ ≤ _; exact Nat.le_of_eq rfl) (hb hby d1_1) (fun _ _ => ⟨rfl, e0, (by decide : 0 + 0 ≤ _), (by decide : 0 + 0 ≤ _)⟩)
  dsimp only [Pt.U, Pt.locs, Pt.cells, Pt.slots] at X1 l1 y1 z1 st1 hQ1
  subst l1 y1 z1
  obtain ⟨rfl, N1q, he1⟩ := hQ1
  have N1 := Fr.app N0 N1q
  refine OwnFin.tr st1 ?_
  show OwnFin _ _ _ _ (T1.setTop (mkF m 4 #[.val (.ref a0), .val (.int p1)] [(.int (2 : Int32))]))
  refine OwnFin.st (fun _ q => XS.tswIn X1.here hx rfl (pc0 := 4) (pc' := 58) rfl (hb hby d1_4) rfl (by decide) rfl (by decide) (by decide) q) ?_
  show OwnFin _ _ _ _ (T1.setTop (mkF m 58 #[.val (.ref a0), .val (.int p1)] []))
  refine OwnFin.st (fun _ q => XS.iconst X1.here hx rfl (hb hby d1_58) q) ?_
  show OwnFin _ _ _ _ (T1.setTop (mkF m 59 #[.val (.ref a0), .val (.int p1)] [(.int (0 : Int32))]))
  obtain ⟨fs, hr, hrun, hended, hW, hsame⟩ := X1.leave (v := some (.int (0 : Int32))) (fun h => by rw [Bd.returns] at h; cases h)
  refine ⟨_, _, retN X1 hx (t := .boolean) Bd.returns (by simp) (hb hby d1_59) hr, hrun, hended, _, _, rfl, ?_, ⟨_, rfl⟩, hW, hsame.mono (by decide) (by decide)⟩
  show Q_rm1_2 Z a0 p1 h0 n0 _ T1.heap _
  rw [he1]
  exact ⟨rfl, N1, rfl⟩
theorem pd_1 : parseMethodDescriptor "(Z)Z" = some ⟨[.boolean], some .boolean⟩ := by decide +kernel
theorem pn_2 : plainName "com/example/neat_order/neatorder/core/graph/ProcessNeedAllowsNewProcessPinLaw" = true := by first | (simp [plainName, overriddenIn]; done) | decide +kernel
theorem ef_rm0 (m : MethodId) (p0 : Int32) (p1 : Int32) : entryFrame m #[(.int p0), (.int p1)] maxLocals = mkF m 0 #[.val (.int p0), .val (.int p1), .unset, .unset, .unset, .unset, .unset, .unset, .unset, .unset, .unset, .unset] [] := by first | (simp [entryFrame, mkF, argsToLocals, Value.category, maxLocals]; done) | rfl
def Q_rm0 (Z : State) (p0 : Int32) (p1 : Int32) (w_NONE : Addr) (w_ENDED : Addr) (w_SAME : Addr) (h0 : Heap) (n0 : Nat) (v : Option Value) (h : Heap) (L : List Loc) : Prop := v = some (.int 1) ∧ Fr n0 L
set_option maxRecDepth 65536 in
set_option maxHeartbeats 40000000 in
theorem rm0 (l : Launch) (Z : State) (av0 : Array Value) (hw : ∀ d ∈ tables_1, d.before av0 Z = true) (ws : List Jvm.Cond) (p0 : Int32) (p1 : Int32) (w_NONE : Addr) (w_ENDED : Addr) (w_SAME : Addr) (h0 : Heap) (n0 : Nat) (Z0 : n0 ≤ h0.size) (Ol0 : Old Z n0 h0) (S_NONE : Sta Z Z.heap "com/example/neat_order/neatorder/core/graph/ProcessNeed" "NONE" "Lcom/example/neat_order/neatorder/core/graph/ProcessNeed;" (.ref w_NONE)) (X_w_NONE : Exa Z Z.heap w_NONE "com/example/neat_order/neatorder/core/graph/ProcessNeed") (F_ordinal_w_NONE : Fld Z Z.heap w_NONE "java/lang/Enum" "ordinal" "I" (.int (0 : Int32))) (S_ENDED : Sta Z Z.heap "com/example/neat_order/neatorder/core/graph/ProcessNeed" "ENDED" "Lcom/example/neat_order/neatorder/core/graph/ProcessNeed;" (.ref w_ENDED)) (X_w_ENDED : Exa Z Z.heap w_ENDED "com/example/neat_order/neatorder/core/graph/ProcessNeed") (F_ordinal_w_ENDED : Fld Z Z.heap w_ENDED "java/lang/Enum" "ordinal" "I" (.int (1 : Int32))) (S_SAME : Sta Z Z.heap "com/example/neat_order/neatorder/core/graph/ProcessNeed" "SAME" "Lcom/example/neat_order/neatorder/core/graph/ProcessNeed;" (.ref w_SAME)) (X_w_SAME : Exa Z Z.heap w_SAME "com/example/neat_order/neatorder/core/graph/ProcessNeed") (F_ordinal_w_SAME : Fld Z Z.heap w_SAME "java/lang/Enum" "ordinal" "I" (.int (2 : Int32))) :
    MetFree l x (head1 (Jvm.Cond.code x code maxLocals ret :: ws) room_1) (fun a U => a = #[(.int p0), (.int p1)] ∧ Z.Warmed39 U.vm ∧ U.heap = h0) (fun _ _ _ _ _ => True) (fun _ U o U' => ∃ v L, o = .returned v ∧ Q_rm0 Z p0 p1 w_NONE w_ENDED w_SAME h0 n0 v U'.heap L ∧ FrameEnd U o U' L room_1.cells room_1.slots) := by
  refine MetFree.of_bodySF (plainFor_of_name pn_2) hisR ?_
  intro p e s m args below meth c s₁ Bd hml0 hP hK
  obtain ⟨rfl, hZ, hh⟩ := hP
  have hx := Bd.exec
  have hby := Bd.bytes
  have hml : c.maxLocals = 12 := hml0
  have hown : s.vm.findClass "com/example/neat_order/neatorder/core/graph/ProcessNeedAllowsNewProcessPinLaw" = some m.cls := findClass_of_methodNamed Bd.named
  have hnm := (name_of_methodNamed Bd.named Bd.method).1
  have X0 : Stand p l e room_1 s m #[(.int p0), (.int p1)] below meth c s₁ [] 0 0 := Stand.of_body Bd
  have e0 : s₁.heap = h0 := by rw [← hh, Bd.state]; rfl
  have N0 := Fr.nil n0
  have pre0 : ∀ t, Steps p.tables e below (s₁.setTop (mkF m 0 #[.val (.int p0), .val (.int p1), .unset, .unset, .unset, .unset, .unset, .unset, .unset, .unset, .unset, .unset] [])) t → Steps p.tables e below (s₁.setTop (entryFrame m #[(.int p0), (.int p1)] maxLocals)) t := fun t k => castTop (ef_rm0 m p0 p1) k
  change OwnFin p.tables e below _ (s₁.setTop (entryFrame m #[(.int p0), (.int p1)] maxLocals))
  have kp0 : Keep h0 h0 [] := Keep.refl _ _
  refine OwnFin.st (fun _ q => pre0 _ q) ?_
  show OwnFin _ _ _ _ (s₁.setTop (mkF m 0 #[.val (.int p0), .val (.int p1), .unset, .unset, .unset, .unset, .unset, .unset, .unset, .unset, .unset, .unset] []))
  refine OwnFin.st (fun _ q => XS.iloadN X0.here hx rfl (hb hby at_0) rfl q) ?_
  show OwnFin _ _ _ _ (s₁.setTop (mkF m 1 #[.val (.int p0), .val (.int p1), .unset, .unset, .unset, .unset, .unset, .unset, .unset, .unset, .unset, .unset] [(.int p0)]))
  refine OwnFin.st (X0.ldcInt hx hown (mvT hZ (hw _ (List.mem_of_getElem? (i := 0) rfl))) (g := (mkF m 1 #[.val (.int p0), .val (.int p1), .unset, .unset, .unset, .unset, .unset, .unset, .unset, .unset, .unset, .unset] [(.int p0)])) rfl (hb hby at_1)) ?_
  show OwnFin _ _ _ _ (s₁.setTop (mkF m 3 #[.val (.int p0), .val (.int p1), .unset, .unset, .unset, .unset, .unset, .unset, .unset, .unset, .unset, .unset] [(.int (2147483647 : Int32)), (.int p0)]))
  refine OwnFin.st (fun _ q => XS.iand X0.here hx rfl (hb hby at_3) rfl q) ?_
  show OwnFin _ _ _ _ (s₁.setTop (mkF m 4 #[.val (.int p0), .val (.int p1), .unset, .unset, .unset, .unset, .unset, .unset, .unset, .unset, .unset, .unset] [(.int (p0 &&& (2147483647 : Int32)))]))
  refine OwnFin.st (fun _ q => XS.iconst X0.here hx rfl (hb hby at_4) q) ?_
  show OwnFin _ _ _ _ (s₁.setTop (mkF m 5 #[.val (.int p0), .val (.int p1), .unset, .unset, .unset, .unset, .unset, .unset, .unset, .unset, .unset, .unset] [(.int (3 : Int32)), (.int (p0 &&& (2147483647 : Int32)))]))
  refine OwnFin.st (fun _ q => Jvm.RoadKit.iremM X0 hx rfl (hb hby at_5) rfl (by decide) q) ?_
  show OwnFin _ _ _ _ (s₁.setTop (mkF m 6 #[.val (.int p0), .val (.int p1), .unset, .unset, .unset, .unset, .unset, .unset, .unset, .unset, .unset, .unset] [(.int ((p0 &&& (2147483647 : Int32)) % (3 : Int32)))]))
  refine OwnFin.st (fun _ q => XS.istoreN X0.here hx rfl (hb hby at_6) rfl (l' := #[.val (.int p0), .val (.int p1), .val (.int ((p0 &&& (2147483647 : Int32)) % (3 : Int32))), .unset, .unset, .unset, .unset, .unset, .unset, .unset, .unset, .unset]) rfl q) ?_
  show OwnFin _ _ _ _ (s₁.setTop (mkF m 7 #[.val (.int p0), .val (.int p1), .val (.int ((p0 &&& (2147483647 : Int32)) % (3 : Int32))), .unset, .unset, .unset, .unset, .unset, .unset, .unset, .unset, .unset] []))
  refine OwnFin.st (fun _ q => XS.iloadN X0.here hx rfl (hb hby at_7) rfl q) ?_
  show OwnFin _ _ _ _ (s₁.setTop (mkF m 8 #[.val (.int p0), .val (.int p1), .val (.int ((p0 &&& (2147483647 : Int32)) % (3 : Int32))), .unset, .unset, .unset, .unset, .unset, .unset, .unset, .unset, .unset] [(.int p1)]))
  refine OwnFin.st (fun _ q => XS.iconst X0.here hx rfl (hb hby at_8) q) ?_
  show OwnFin _ _ _ _ (s₁.setTop (mkF m 9 #[.val (.int p0), .val (.int p1), .val (.int ((p0 &&& (2147483647 : Int32)) % (3 : Int32))), .unset, .unset, .unset, .unset, .unset, .unset, .unset, .unset, .unset] [(.int (1 : Int32)), (.int p1)]))
  refine OwnFin.st (fun _ q => XS.iand X0.here hx rfl (hb hby at_9) rfl q) ?_
  show OwnFin _ _ _ _ (s₁.setTop (mkF m 10 #[.val (.int p0), .val (.int p1), .val (.int ((p0 &&& (2147483647 : Int32)) % (3 : Int32))), .unset, .unset, .unset, .unset, .unset, .unset, .unset, .unset, .unset] [(.int (p1 &&& (1 : Int32)))]))
  by_cases hc1 : (p1 &&& (1 : Int32)) = (0 : Int32)
  · skip
    refine OwnFin.st (fun _ q => XS.ifYes X0.here hx rfl (pc0 := 10) (pc' := 17) rfl (hb hby at_10) rfl (Jvm.Free.XT.i0_eq_t hc1) (by decide) (by decide) q) ?_
    show OwnFin _ _ _ _ (s₁.setTop (mkF m 17 #[.val (.int p0), .val (.int p1), .val (.int ((p0 &&& (2147483647 : Int32)) % (3 : Int32))), .unset, .unset, .unset, .unset, .unset, .unset, .unset, .unset, .unset] []))
    refine OwnFin.st (fun _ q => XS.iconst X0.here hx rfl (hb hby at_17) q) ?_
    show OwnFin _ _ _ _ (s₁.setTop (mkF m 18 #[.val (.int p0), .val (.int p1), .val (.int ((p0 &&& (2147483647 : Int32)) % (3 : Int32))), .unset, .unset, .unset, .unset, .unset, .unset, .unset, .unset, .unset] [(.int (0 : Int32))]))
    refine OwnFin.st (fun _ q => XS.istoreN X0.here hx rfl (hb hby at_18) rfl (l' := #[.val (.int p0), .val (.int p1), .val (.int ((p0 &&& (2147483647 : Int32)) % (3 : Int32))), .val (.int (0 : Int32)), .unset, .unset, .unset, .unset, .unset, .unset, .unset, .unset]) rfl q) ?_
    show OwnFin _ _ _ _ (s₁.setTop (mkF m 19 #[.val (.int p0), .val (.int p1), .val (.int ((p0 &&& (2147483647 : Int32)) % (3 : Int32))), .val (.int (0 : Int32)), .unset, .unset, .unset, .unset, .unset, .unset, .unset, .unset] []))
    refine OwnFin.st (fun _ q => XS.iloadN X0.here hx rfl (hb hby at_19) rfl q) ?_
    show OwnFin _ _ _ _ (s₁.setTop (mkF m 20 #[.val (.int p0), .val (.int p1), .val (.int ((p0 &&& (2147483647 : Int32)) % (3 : Int32))), .val (.int (0 : Int32)), .unset, .unset, .unset, .unset, .unset, .unset, .unset, .unset] [(.int ((p0 &&& (2147483647 : Int32)) % (3 : Int32)))]))
    by_cases hc2 : ((p0 &&& (2147483647 : Int32)) % (3 : Int32)) = (0 : Int32)
    · skip
      refine OwnFin.st (fun _ q => XS.ifNo X0.here hx rfl (hb hby at_20) rfl (Jvm.Free.XT.i0_ne_f hc2) q) ?_
      show OwnFin _ _ _ _ (s₁.setTop (mkF m 23 #[.val (.int p0), .val (.int p1), .val (.int ((p0 &&& (2147483647 : Int32)) % (3 : Int32))), .val (.int (0 : Int32)), .unset, .unset, .unset, .unset, .unset, .unset, .unset, .unset] []))
      obtain ⟨T3, X3, e3, st3⟩ := getS2 X0 hx hZ hown (host := "") (Or.inl (hw _ (List.mem_of_getElem? (i := 1) rfl))) Via.refl e0 (S_NONE.ext Ol0.2) (g := (mkF m 23 #[.val (.int p0), .val (.int p1), .val (.int ((p0 &&& (2147483647 : Int32)) % (3 : Int32))), .val (.int (0 : Int32)), .unset, .unset, .unset, .unset, .unset, .unset, .unset, .unset] [])) rfl (hb hby at_23)
      refine OwnFin.st st3 ?_
      show OwnFin _ _ _ _ (T3.setTop (mkF m 26 #[.val (.int p0), .val (.int p1), .val (.int ((p0 &&& (2147483647 : Int32)) % (3 : Int32))), .val (.int (0 : Int32)), .unset, .unset, .unset, .unset, .unset, .unset, .unset, .unset] [(.ref w_NONE)]))
      refine OwnFin.st (fun _ q => XS.astore X3.here hx rfl (hb hby at_26) rfl rfl (l' := #[.val (.int p0), .val (.int p1), .val (.int ((p0 &&& (2147483647 : Int32)) % (3 : Int32))), .val (.int (0 : Int32)), .val (.ref w_NONE), .unset, .unset, .unset, .unset, .unset, .unset, .unset]) rfl q) ?_
      show OwnFin _ _ _ _ (T3.setTop (mkF m 28 #[.val (.int p0), .val (.int p1), .val (.int ((p0 &&& (2147483647 : Int32)) % (3 : Int32))), .val (.int (0 : Int32)), .val (.ref w_NONE), .unset, .unset, .unset, .unset, .unset, .unset, .unset] []))
      refine OwnFin.st (fun _ q => XS.goto X3.here hx rfl (pc0 := 28) (pc' := 49) rfl (hb hby at_28) (by decide) (by decide) q) ?_
      show OwnFin _ _ _ _ (T3.setTop (mkF m 49 #[.val (.int p0), .val (.int p1), .val (.int ((p0 &&& (2147483647 : Int32)) % (3 : Int32))), .val (.int (0 : Int32)), .val (.ref w_NONE), .unset, .unset, .unset, .unset, .unset, .unset, .unset] []))
      refine OwnFin.st (fun _ q => XS.iloadN X3.here hx rfl (hb hby at_49) rfl q) ?_
      show OwnFin _ _ _ _ (T3.setTop (mkF m 50 #[.val (.int p0), .val (.int p1), .val (.int ((p0 &&& (2147483647 : Int32)) % (3 : Int32))), .val (.int (0 : Int32)), .val (.ref w_NONE), .unset, .unset, .unset, .unset, .unset, .unset, .unset] [(.int (0 : Int32))]))
      refine OwnFin.st (fun _ q => XS.ifYes X3.here hx rfl (pc0 := 50) (pc' := 57) rfl (hb hby at_50) rfl (Jvm.Free.XT.i0_eq_t (rfl : (0 : Int32) = (0 : Int32))) (by decide) (by decide) q) ?_
      show OwnFin _ _ _ _ (T3.setTop (mkF m 57 #[.val (.int p0), .val (.int p1), .val (.int ((p0 &&& (2147483647 : Int32)) % (3 : Int32))), .val (.int (0 : Int32)), .val (.ref w_NONE), .unset, .unset, .unset, .unset, .unset, .unset, .unset] []))
      refine OwnFin.st (fun _ q => XS.iconst X3.here hx rfl (hb hby at_57) q) ?_
      show OwnFin _ _ _ _ (T3.setTop (mkF m 58 #[.val (.int p0), .val (.int p1), .val (.int ((p0 &&& (2147483647 : Int32)) % (3 : Int32))), .val (.int (0 : Int32)), .val (.ref w_NONE), .unset, .unset, .unset, .unset, .unset, .unset, .unset] [(.int (0 : Int32))]))
      refine OwnFin.st (fun _ q => XS.istore X3.here hx rfl (hb hby at_58) rfl (l' := #[.val (.int p0), .val (.int p1), .val (.int ((p0 &&& (2147483647 : Int32)) % (3 : Int32))), .val (.int (0 : Int32)), .val (.ref w_NONE), .val (.int (0 : Int32)), .unset, .unset, .unset, .unset, .unset, .unset]) rfl q) ?_
      show OwnFin _ _ _ _ (T3.setTop (mkF m 60 #[.val (.int p0), .val (.int p1), .val (.int ((p0 &&& (2147483647 : Int32)) % (3 : Int32))), .val (.int (0 : Int32)), .val (.ref w_NONE), .val (.int (0 : Int32)), .unset, .unset, .unset, .unset, .unset, .unset] []))
      refine OwnFin.st (fun _ q => XS.iloadN X3.here hx rfl (hb hby at_60) rfl q) ?_
      show OwnFin _ _ _ _ (T3.setTop (mkF m 61 #[.val (.int p0), .val (.int p1), .val (.int ((p0 &&& (2147483647 : Int32)) % (3 : Int32))), .val (.int (0 : Int32)), .val (.ref w_NONE), .val (.int (0 : Int32)), .unset, .unset, .unset, .unset, .unset, .unset] [(.int ((p0 &&& (2147483647 : Int32)) % (3 : Int32)))]))
      refine OwnFin.st (fun _ q => XS.iload X3.here hx rfl (hb hby at_61) rfl q) ?_
      show OwnFin _ _ _ _ (T3.setTop (mkF m 63 #[.val (.int p0), .val (.int p1), .val (.int ((p0 &&& (2147483647 : Int32)) % (3 : Int32))), .val (.int (0 : Int32)), .val (.ref w_NONE), .val (.int (0 : Int32)), .unset, .unset, .unset, .unset, .unset, .unset] [(.int (0 : Int32)), (.int ((p0 &&& (2147483647 : Int32)) % (3 : Int32)))]))
      refine OwnFin.st (fun _ q => XS.iadd X3.here hx rfl (hb hby at_63) rfl q) ?_
      show OwnFin _ _ _ _ (T3.setTop (mkF m 64 #[.val (.int p0), .val (.int p1), .val (.int ((p0 &&& (2147483647 : Int32)) % (3 : Int32))), .val (.int (0 : Int32)), .val (.ref w_NONE), .val (.int (0 : Int32)), .unset, .unset, .unset, .unset, .unset, .unset] [(.int (((p0 &&& (2147483647 : Int32)) % (3 : Int32)) + (0 : Int32)))]))
      refine OwnFin.st (fun _ q => XS.iconst X3.here hx rfl (hb hby at_64) q) ?_
      show OwnFin _ _ _ _ (T3.setTop (mkF m 65 #[.val (.int p0), .val (.int p1), .val (.int ((p0 &&& (2147483647 : Int32)) % (3 : Int32))), .val (.int (0 : Int32)), .val (.ref w_NONE), .val (.int (0 : Int32)), .unset, .unset, .unset, .unset, .unset, .unset] [(.int (2 : Int32)), (.int (((p0 &&& (2147483647 : Int32)) % (3 : Int32)) + (0 : Int32)))]))
      have hd4 : (((p0 &&& (2147483647 : Int32)) % (3 : Int32)) + (0 : Int32)) < (2 : Int32) := by
        have om1 := rng32 (p1 &&& (1 : Int32))
        have om2 := c_mask p1 (1 : Int32) 1 (by decide) (by decide)
        have om3 := rng32 p1
        have om4 := rng32 (1 : Int32)
        have om4l : (1 : Int32).toInt = 1 := by decide
        have om5 := rng32 (0 : Int32)
        have om5l : (0 : Int32).toInt = 0 := by decide
        have om6 := rng32 ((p0 &&& (2147483647 : Int32)) % (3 : Int32))
        have om7 := c_irem (p0 &&& (2147483647 : Int32)) (3 : Int32) 3 (by decide)
        have om8 := rng32 (p0 &&& (2147483647 : Int32))
        have om9 := c_mask p0 (2147483647 : Int32) 31 (by decide) (by decide)
        have om10 := rng32 p0
        have om11 := rng32 (2147483647 : Int32)
        have om11l : (2147483647 : Int32).toInt = 2147483647 := by decide
        have om12 := rng32 (3 : Int32)
        have om12l : (3 : Int32).toInt = 3 := by decide
        have om13 := rng32 (((p0 &&& (2147483647 : Int32)) % (3 : Int32)) + (0 : Int32))
        have om14 := c_iadd ((p0 &&& (2147483647 : Int32)) % (3 : Int32)) (0 : Int32)
        have om15 := rng32 (2 : Int32)
        have om15l : (2 : Int32).toInt = 2 := by decide
        have ow0 := hc1
        rw [← Int32.toInt_inj] at ow0
        have ow1 := hc2
        rw [← Int32.toInt_inj] at ow1
        rw [Int32.lt_iff_toInt_lt]
        omega
      refine OwnFin.st (fun _ q => XS.icmpNo X3.here hx rfl (hb hby at_65) rfl (Jvm.Free.XT.ii_ge_f hd4) q) ?_
      show OwnFin _ _ _ _ (T3.setTop (mkF m 68 #[.val (.int p0), .val (.int p1), .val (.int ((p0 &&& (2147483647 : Int32)) % (3 : Int32))), .val (.int (0 : Int32)), .val (.ref w_NONE), .val (.int (0 : Int32)), .unset, .unset, .unset, .unset, .unset, .unset] []))
      refine OwnFin.st (fun _ q => XS.iconst X3.here hx rfl (hb hby at_68) q) ?_
      show OwnFin _ _ _ _ (T3.setTop (mkF m 69 #[.val (.int p0), .val (.int p1), .val (.int ((p0 &&& (2147483647 : Int32)) % (3 : Int32))), .val (.int (0 : Int32)), .val (.ref w_NONE), .val (.int (0 : Int32)), .unset, .unset, .unset, .unset, .unset, .unset] [(.int (1 : Int32))]))
      refine OwnFin.st (fun _ q => XS.goto X3.here hx rfl (pc0 := 69) (pc' := 73) rfl (hb hby at_69) (by decide) (by decide) q) ?_
      show OwnFin _ _ _ _ (T3.setTop (mkF m 73 #[.val (.int p0), .val (.int p1), .val (.int ((p0 &&& (2147483647 : Int32)) % (3 : Int32))), .val (.int (0 : Int32)), .val (.ref w_NONE), .val (.int (0 : Int32)), .unset, .unset, .unset, .unset, .unset, .unset] [(.int (1 : Int32))]))
      refine OwnFin.st (fun _ q => XS.istore X3.here hx rfl (hb hby at_73) rfl (l' := #[.val (.int p0), .val (.int p1), .val (.int ((p0 &&& (2147483647 : Int32)) % (3 : Int32))), .val (.int (0 : Int32)), .val (.ref w_NONE), .val (.int (0 : Int32)), .val (.int (1 : Int32)), .unset, .unset, .unset, .unset, .unset]) rfl q) ?_
      show OwnFin _ _ _ _ (T3.setTop (mkF m 75 #[.val (.int p0), .val (.int p1), .val (.int ((p0 &&& (2147483647 : Int32)) % (3 : Int32))), .val (.int (0 : Int32)), .val (.ref w_NONE), .val (.int (0 : Int32)), .val (.int (1 : Int32)), .unset, .unset, .unset, .unset, .unset] []))
      refine OwnFin.st (fun _ q => XS.aload X3.here hx rfl (hb hby at_75) rfl rfl q) ?_
      show OwnFin _ _ _ _ (T3.setTop (mkF m 77 #[.val (.int p0), .val (.int p1), .val (.int ((p0 &&& (2147483647 : Int32)) % (3 : Int32))), .val (.int (0 : Int32)), .val (.ref w_NONE), .val (.int (0 : Int32)), .val (.int (1 : Int32)), .unset, .unset, .unset, .unset, .unset] [(.ref w_NONE)]))
      refine OwnFin.st (fun _ q => XS.iloadN X3.here hx rfl (hb hby at_77) rfl q) ?_
      show OwnFin _ _ _ _ (T3.setTop (mkF m 78 #[.val (.int p0), .val (.int p1), .val (.int ((p0 &&& (2147483647 : Int32)) % (3 : Int32))), .val (.int (0 : Int32)), .val (.ref w_NONE), .val (.int (0 : Int32)), .val (.int (1 : Int32)), .unset, .unset, .unset, .unset, .unset] [(.int (0 : Int32)), (.ref w_NONE)]))
      obtain ⟨cq5, kq5, q5a, q5b, q5c⟩ := isOf hZ e3 (X_w_NONE.ext Ol0.2)
      obtain ⟨_, _, ⟨T5, L5, k5, n5⟩, -, X5, ⟨Lc5, hQ5, l5, y5, z5⟩, st5⟩ := X3.virtualBack hx (y := (⟨"com/example/neat_order/neatorder/core/graph/ProcessNeed", "allowsNewProcess", "(Z)Z"⟩ : MethodName)) (z := (⟨"com/example/neat_order/neatorder/core/graph/ProcessNeed", "allowsNewProcess", "(Z)Z"⟩ : MethodName)) hown (mvT hZ (hw _ (List.mem_of_getElem? (i := 4) rfl))) (mvT hZ (hw _ (List.mem_of_getElem? (i := 5) rfl))) (notFace_of_selects (args := #[]) (mvT hZ (hw _ (List.mem_of_getElem? (i := 7) rfl)))) (mvT hZ (hw _ (List.mem_of_getElem? (i := 7) rfl))) (mvT hZ (hw _ (List.mem_of_getElem? (i := 6) rfl))) (by decide) (backOf (W := 0) (rm1_0 l Z av0 hw [] w_NONE (0 : Int32) h0 n0 (Nat.le_trans Z0 kp0.1) (X_w_NONE.ext Ol0.2) (F_ordinal_w_NONE.ext Ol0.2)) hZ (hw _ (List.mem_of_getElem? (i := 8) rfl)) (hw _ (List.mem_of_getElem? (i := 2) rfl)) (by decide) (by decide)) q5a q5c (g := (mkF m 78 #[.val (.int p0), .val (.int p1), .val (.int ((p0 &&& (2147483647 : Int32)) % (3 : Int32))), .val (.int (0 : Int32)), .val (.ref w_NONE), .val (.int (0 : Int32)), .val (.int (1 : Int32)), .unset, .unset, .unset, .unset, .unset] [(.int (0 : Int32)), (.ref w_NONE)])) rfl (by rw [hml]; rfl) (Steps.refl _) (argsL := [(.int (0 : Int32))]) (rest := []) (lenOf pd_1 rfl) rfl (by show 2 * 0 + _ ≤ _; exact Nat.le_of_eq rfl) (hb hby at_78) (fun _ _ => ⟨rfl, e3, (by decide : 0 + 0 ≤ _), (by decide : 0 + 0 ≤ _)⟩)
      dsimp only [Pt.U, Pt.locs, Pt.cells, Pt.slots] at X5 l5 y5 z5 st5 hQ5
      subst l5 y5 z5
      obtain ⟨rfl, N5q, he5⟩ := hQ5
      have N5 := Fr.app N0 N5q
      refine OwnFin.tr st5 ?_
      show OwnFin _ _ _ _ (T5.setTop (mkF m 81 #[.val (.int p0), .val (.int p1), .val (.int ((p0 &&& (2147483647 : Int32)) % (3 : Int32))), .val (.int (0 : Int32)), .val (.ref w_NONE), .val (.int (0 : Int32)), .val (.int (1 : Int32)), .unset, .unset, .unset, .unset, .unset] [(.int (1 : Int32))]))
      refine OwnFin.st (fun _ q => XS.istore X5.here hx rfl (hb hby at_81) rfl (l' := #[.val (.int p0), .val (.int p1), .val (.int ((p0 &&& (2147483647 : Int32)) % (3 : Int32))), .val (.int (0 : Int32)), .val (.ref w_NONE), .val (.int (0 : Int32)), .val (.int (1 : Int32)), .val (.int (1 : Int32)), .unset, .unset, .unset, .unset]) rfl q) ?_
      show OwnFin _ _ _ _ (T5.setTop (mkF m 83 #[.val (.int p0), .val (.int p1), .val (.int ((p0 &&& (2147483647 : Int32)) % (3 : Int32))), .val (.int (0 : Int32)), .val (.ref w_NONE), .val (.int (0 : Int32)), .val (.int (1 : Int32)), .val (.int (1 : Int32)), .unset, .unset, .unset, .unset] []))
      refine OwnFin.st (fun _ q => XS.aload X5.here hx rfl (hb hby at_83) rfl rfl q) ?_
      show OwnFin _ _ _ _ (T5.setTop (mkF m 85 #[.val (.int p0), .val (.int p1), .val (.int ((p0 &&& (2147483647 : Int32)) % (3 : Int32))), .val (.int (0 : Int32)), .val (.ref w_NONE), .val (.int (0 : Int32)), .val (.int (1 : Int32)), .val (.int (1 : Int32)), .unset, .unset, .unset, .unset] [(.ref w_NONE)]))
      refine OwnFin.st (fun _ q => XS.iloadN X5.here hx rfl (hb hby at_85) rfl q) ?_
      show OwnFin _ _ _ _ (T5.setTop (mkF m 86 #[.val (.int p0), .val (.int p1), .val (.int ((p0 &&& (2147483647 : Int32)) % (3 : Int32))), .val (.int (0 : Int32)), .val (.ref w_NONE), .val (.int (0 : Int32)), .val (.int (1 : Int32)), .val (.int (1 : Int32)), .unset, .unset, .unset, .unset] [(.int (0 : Int32)), (.ref w_NONE)]))
      refine OwnFin.st (fun _ q => XS.ifNo X5.here hx rfl (hb hby at_86) rfl (Jvm.Free.XT.i0_ne_f (rfl : (0 : Int32) = (0 : Int32))) q) ?_
      show OwnFin _ _ _ _ (T5.setTop (mkF m 89 #[.val (.int p0), .val (.int p1), .val (.int ((p0 &&& (2147483647 : Int32)) % (3 : Int32))), .val (.int (0 : Int32)), .val (.ref w_NONE), .val (.int (0 : Int32)), .val (.int (1 : Int32)), .val (.int (1 : Int32)), .unset, .unset, .unset, .unset] [(.ref w_NONE)]))
      refine OwnFin.st (fun _ q => XS.iconst X5.here hx rfl (hb hby at_89) q) ?_
      show OwnFin _ _ _ _ (T5.setTop (mkF m 90 #[.val (.int p0), .val (.int p1), .val (.int ((p0 &&& (2147483647 : Int32)) % (3 : Int32))), .val (.int (0 : Int32)), .val (.ref w_NONE), .val (.int (0 : Int32)), .val (.int (1 : Int32)), .val (.int (1 : Int32)), .unset, .unset, .unset, .unset] [(.int (1 : Int32)), (.ref w_NONE)]))
      refine OwnFin.st (fun _ q => XS.goto X5.here hx rfl (pc0 := 90) (pc' := 94) rfl (hb hby at_90) (by decide) (by decide) q) ?_
      show OwnFin _ _ _ _ (T5.setTop (mkF m 94 #[.val (.int p0), .val (.int p1), .val (.int ((p0 &&& (2147483647 : Int32)) % (3 : Int32))), .val (.int (0 : Int32)), .val (.ref w_NONE), .val (.int (0 : Int32)), .val (.int (1 : Int32)), .val (.int (1 : Int32)), .unset, .unset, .unset, .unset] [(.int (1 : Int32)), (.ref w_NONE)]))
      obtain ⟨cq6, kq6, q6a, q6b, q6c⟩ := isOf hZ he5 (X_w_NONE.ext Ol0.2)
      obtain ⟨_, _, ⟨T6, L6, k6, n6⟩, -, X6, ⟨Lc6, hQ6, l6, y6, z6⟩, st6⟩ := X5.virtualBack hx (y := (⟨"com/example/neat_order/neatorder/core/graph/ProcessNeed", "allowsNewProcess", "(Z)Z"⟩ : MethodName)) (z := (⟨"com/example/neat_order/neatorder/core/graph/ProcessNeed", "allowsNewProcess", "(Z)Z"⟩ : MethodName)) hown (mvT hZ (hw _ (List.mem_of_getElem? (i := 4) rfl))) (mvT hZ (hw _ (List.mem_of_getElem? (i := 5) rfl))) (notFace_of_selects (args := #[]) (mvT hZ (hw _ (List.mem_of_getElem? (i := 7) rfl)))) (mvT hZ (hw _ (List.mem_of_getElem? (i := 7) rfl))) (mvT hZ (hw _ (List.mem_of_getElem? (i := 6) rfl))) (by decide) (backOf (W := 0) (rm1_0 l Z av0 hw [] w_NONE (1 : Int32) h0 n0 (Nat.le_trans Z0 kp0.1) (X_w_NONE.ext Ol0.2) (F_ordinal_w_NONE.ext Ol0.2)) hZ (hw _ (List.mem_of_getElem? (i := 8) rfl)) (hw _ (List.mem_of_getElem? (i := 2) rfl)) (by decide) (by decide)) q6a q6c (g := (mkF m 94 #[.val (.int p0), .val (.int p1), .val (.int ((p0 &&& (2147483647 : Int32)) % (3 : Int32))), .val (.int (0 : Int32)), .val (.ref w_NONE), .val (.int (0 : Int32)), .val (.int (1 : Int32)), .val (.int (1 : Int32)), .unset, .unset, .unset, .unset] [(.int (1 : Int32)), (.ref w_NONE)])) rfl (by rw [hml]; rfl) (Steps.refl _) (argsL := [(.int (1 : Int32))]) (rest := []) (lenOf pd_1 rfl) rfl (by show 2 * 0 + _ ≤ _; exact Nat.le_of_eq rfl) (hb hby at_94) (fun _ _ => ⟨rfl, he5, (by decide : 0 + 0 ≤ _), (by decide : 0 + 0 ≤ _)⟩)
      dsimp only [Pt.U, Pt.locs, Pt.cells, Pt.slots] at X6 l6 y6 z6 st6 hQ6
      subst l6 y6 z6
      obtain ⟨rfl, N6q, he6⟩ := hQ6
      have N6 := Fr.app N5 N6q
      refine OwnFin.tr st6 ?_
      show OwnFin _ _ _ _ (T6.setTop (mkF m 97 #[.val (.int p0), .val (.int p1), .val (.int ((p0 &&& (2147483647 : Int32)) % (3 : Int32))), .val (.int (0 : Int32)), .val (.ref w_NONE), .val (.int (0 : Int32)), .val (.int (1 : Int32)), .val (.int (1 : Int32)), .unset, .unset, .unset, .unset] [(.int (1 : Int32))]))
      refine OwnFin.st (fun _ q => XS.istore X6.here hx rfl (hb hby at_97) rfl (l' := #[.val (.int p0), .val (.int p1), .val (.int ((p0 &&& (2147483647 : Int32)) % (3 : Int32))), .val (.int (0 : Int32)), .val (.ref w_NONE), .val (.int (0 : Int32)), .val (.int (1 : Int32)), .val (.int (1 : Int32)), .val (.int (1 : Int32)), .unset, .unset, .unset]) rfl q) ?_
      show OwnFin _ _ _ _ (T6.setTop (mkF m 99 #[.val (.int p0), .val (.int p1), .val (.int ((p0 &&& (2147483647 : Int32)) % (3 : Int32))), .val (.int (0 : Int32)), .val (.ref w_NONE), .val (.int (0 : Int32)), .val (.int (1 : Int32)), .val (.int (1 : Int32)), .val (.int (1 : Int32)), .unset, .unset, .unset] []))
      refine OwnFin.st (fun _ q => XS.iloadN X6.here hx rfl (hb hby at_99) rfl q) ?_
      show OwnFin _ _ _ _ (T6.setTop (mkF m 100 #[.val (.int p0), .val (.int p1), .val (.int ((p0 &&& (2147483647 : Int32)) % (3 : Int32))), .val (.int (0 : Int32)), .val (.ref w_NONE), .val (.int (0 : Int32)), .val (.int (1 : Int32)), .val (.int (1 : Int32)), .val (.int (1 : Int32)), .unset, .unset, .unset] [(.int (0 : Int32))]))
      refine OwnFin.st (fun _ q => XS.ifYes X6.here hx rfl (pc0 := 100) (pc' := 108) rfl (hb hby at_100) rfl (Jvm.Free.XT.i0_eq_t (rfl : (0 : Int32) = (0 : Int32))) (by decide) (by decide) q) ?_
      show OwnFin _ _ _ _ (T6.setTop (mkF m 108 #[.val (.int p0), .val (.int p1), .val (.int ((p0 &&& (2147483647 : Int32)) % (3 : Int32))), .val (.int (0 : Int32)), .val (.ref w_NONE), .val (.int (0 : Int32)), .val (.int (1 : Int32)), .val (.int (1 : Int32)), .val (.int (1 : Int32)), .unset, .unset, .unset] []))
      refine OwnFin.st (fun _ q => XS.iload X6.here hx rfl (hb hby at_108) rfl q) ?_
      show OwnFin _ _ _ _ (T6.setTop (mkF m 110 #[.val (.int p0), .val (.int p1), .val (.int ((p0 &&& (2147483647 : Int32)) % (3 : Int32))), .val (.int (0 : Int32)), .val (.ref w_NONE), .val (.int (0 : Int32)), .val (.int (1 : Int32)), .val (.int (1 : Int32)), .val (.int (1 : Int32)), .unset, .unset, .unset] [(.int (1 : Int32))]))
      refine OwnFin.st (fun _ q => XS.istore X6.here hx rfl (hb hby at_110) rfl (l' := #[.val (.int p0), .val (.int p1), .val (.int ((p0 &&& (2147483647 : Int32)) % (3 : Int32))), .val (.int (0 : Int32)), .val (.ref w_NONE), .val (.int (0 : Int32)), .val (.int (1 : Int32)), .val (.int (1 : Int32)), .val (.int (1 : Int32)), .val (.int (1 : Int32)), .unset, .unset]) rfl q) ?_
      show OwnFin _ _ _ _ (T6.setTop (mkF m 112 #[.val (.int p0), .val (.int p1), .val (.int ((p0 &&& (2147483647 : Int32)) % (3 : Int32))), .val (.int (0 : Int32)), .val (.ref w_NONE), .val (.int (0 : Int32)), .val (.int (1 : Int32)), .val (.int (1 : Int32)), .val (.int (1 : Int32)), .val (.int (1 : Int32)), .unset, .unset] []))
      refine OwnFin.st (fun _ q => XS.iloadN X6.here hx rfl (hb hby at_112) rfl q) ?_
      show OwnFin _ _ _ _ (T6.setTop (mkF m 113 #[.val (.int p0), .val (.int p1), .val (.int ((p0 &&& (2147483647 : Int32)) % (3 : Int32))), .val (.int (0 : Int32)), .val (.ref w_NONE), .val (.int (0 : Int32)), .val (.int (1 : Int32)), .val (.int (1 : Int32)), .val (.int (1 : Int32)), .val (.int (1 : Int32)), .unset, .unset] [(.int (0 : Int32))]))
      refine OwnFin.st (fun _ q => XS.ifYes X6.here hx rfl (pc0 := 113) (pc' := 121) rfl (hb hby at_113) rfl (Jvm.Free.XT.i0_eq_t (rfl : (0 : Int32) = (0 : Int32))) (by decide) (by decide) q) ?_
      show OwnFin _ _ _ _ (T6.setTop (mkF m 121 #[.val (.int p0), .val (.int p1), .val (.int ((p0 &&& (2147483647 : Int32)) % (3 : Int32))), .val (.int (0 : Int32)), .val (.ref w_NONE), .val (.int (0 : Int32)), .val (.int (1 : Int32)), .val (.int (1 : Int32)), .val (.int (1 : Int32)), .val (.int (1 : Int32)), .unset, .unset] []))
      refine OwnFin.st (fun _ q => XS.iload X6.here hx rfl (hb hby at_121) rfl q) ?_
      show OwnFin _ _ _ _ (T6.setTop (mkF m 123 #[.val (.int p0), .val (.int p1), .val (.int ((p0 &&& (2147483647 : Int32)) % (3 : Int32))), .val (.int (0 : Int32)), .val (.ref w_NONE), .val (.int (0 : Int32)), .val (.int (1 : Int32)), .val (.int (1 : Int32)), .val (.int (1 : Int32)), .val (.int (1 : Int32)), .unset, .unset] [(.int (1 : Int32))]))
      refine OwnFin.st (fun _ q => XS.istore X6.here hx rfl (hb hby at_123) rfl (l' := #[.val (.int p0), .val (.int p1), .val (.int ((p0 &&& (2147483647 : Int32)) % (3 : Int32))), .val (.int (0 : Int32)), .val (.ref w_NONE), .val (.int (0 : Int32)), .val (.int (1 : Int32)), .val (.int (1 : Int32)), .val (.int (1 : Int32)), .val (.int (1 : Int32)), .val (.int (1 : Int32)), .unset]) rfl q) ?_
      show OwnFin _ _ _ _ (T6.setTop (mkF m 125 #[.val (.int p0), .val (.int p1), .val (.int ((p0 &&& (2147483647 : Int32)) % (3 : Int32))), .val (.int (0 : Int32)), .val (.ref w_NONE), .val (.int (0 : Int32)), .val (.int (1 : Int32)), .val (.int (1 : Int32)), .val (.int (1 : Int32)), .val (.int (1 : Int32)), .val (.int (1 : Int32)), .unset] []))
      refine OwnFin.st (fun _ q => XS.iload X6.here hx rfl (hb hby at_125) rfl q) ?_
      show OwnFin _ _ _ _ (T6.setTop (mkF m 127 #[.val (.int p0), .val (.int p1), .val (.int ((p0 &&& (2147483647 : Int32)) % (3 : Int32))), .val (.int (0 : Int32)), .val (.ref w_NONE), .val (.int (0 : Int32)), .val (.int (1 : Int32)), .val (.int (1 : Int32)), .val (.int (1 : Int32)), .val (.int (1 : Int32)), .val (.int (1 : Int32)), .unset] [(.int (1 : Int32))]))
      refine OwnFin.st (fun _ q => XS.ifNo X6.here hx rfl (hb hby at_127) rfl (Jvm.Free.XT.i0_eq_f (by decide : ¬ ((1 : Int32) = (0 : Int32)))) q) ?_
      show OwnFin _ _ _ _ (T6.setTop (mkF m 130 #[.val (.int p0), .val (.int p1), .val (.int ((p0 &&& (2147483647 : Int32)) % (3 : Int32))), .val (.int (0 : Int32)), .val (.ref w_NONE), .val (.int (0 : Int32)), .val (.int (1 : Int32)), .val (.int (1 : Int32)), .val (.int (1 : Int32)), .val (.int (1 : Int32)), .val (.int (1 : Int32)), .unset] []))
      refine OwnFin.st (fun _ q => XS.iload X6.here hx rfl (hb hby at_130) rfl q) ?_
      show OwnFin _ _ _ _ (T6.setTop (mkF m 132 #[.val (.int p0), .val (.int p1), .val (.int ((p0 &&& (2147483647 : Int32)) % (3 : Int32))), .val (.int (0 : Int32)), .val (.ref w_NONE), .val (.int (0 : Int32)), .val (.int (1 : Int32)), .val (.int (1 : Int32)), .val (.int (1 : Int32)), .val (.int (1 : Int32)), .val (.int (1 : Int32)), .unset] [(.int (1 : Int32))]))
      refine OwnFin.st (fun _ q => XS.ifNo X6.here hx rfl (hb hby at_132) rfl (Jvm.Free.XT.i0_eq_f (by decide : ¬ ((1 : Int32) = (0 : Int32)))) q) ?_
      show OwnFin _ _ _ _ (T6.setTop (mkF m 135 #[.val (.int p0), .val (.int p1), .val (.int ((p0 &&& (2147483647 : Int32)) % (3 : Int32))), .val (.int (0 : Int32)), .val (.ref w_NONE), .val (.int (0 : Int32)), .val (.int (1 : Int32)), .val (.int (1 : Int32)), .val (.int (1 : Int32)), .val (.int (1 : Int32)), .val (.int (1 : Int32)), .unset] []))
      refine OwnFin.st (fun _ q => XS.iconst X6.here hx rfl (hb hby at_135) q) ?_
      show OwnFin _ _ _ _ (T6.setTop (mkF m 136 #[.val (.int p0), .val (.int p1), .val (.int ((p0 &&& (2147483647 : Int32)) % (3 : Int32))), .val (.int (0 : Int32)), .val (.ref w_NONE), .val (.int (0 : Int32)), .val (.int (1 : Int32)), .val (.int (1 : Int32)), .val (.int (1 : Int32)), .val (.int (1 : Int32)), .val (.int (1 : Int32)), .unset] [(.int (1 : Int32))]))
      refine OwnFin.st (fun _ q => XS.goto X6.here hx rfl (pc0 := 136) (pc' := 140) rfl (hb hby at_136) (by decide) (by decide) q) ?_
      show OwnFin _ _ _ _ (T6.setTop (mkF m 140 #[.val (.int p0), .val (.int p1), .val (.int ((p0 &&& (2147483647 : Int32)) % (3 : Int32))), .val (.int (0 : Int32)), .val (.ref w_NONE), .val (.int (0 : Int32)), .val (.int (1 : Int32)), .val (.int (1 : Int32)), .val (.int (1 : Int32)), .val (.int (1 : Int32)), .val (.int (1 : Int32)), .unset] [(.int (1 : Int32))]))
      refine OwnFin.st (fun _ q => XS.istore X6.here hx rfl (hb hby at_140) rfl (l' := #[.val (.int p0), .val (.int p1), .val (.int ((p0 &&& (2147483647 : Int32)) % (3 : Int32))), .val (.int (0 : Int32)), .val (.ref w_NONE), .val (.int (0 : Int32)), .val (.int (1 : Int32)), .val (.int (1 : Int32)), .val (.int (1 : Int32)), .val (.int (1 : Int32)), .val (.int (1 : Int32)), .val (.int (1 : Int32))]) rfl q) ?_
      show OwnFin _ _ _ _ (T6.setTop (mkF m 142 #[.val (.int p0), .val (.int p1), .val (.int ((p0 &&& (2147483647 : Int32)) % (3 : Int32))), .val (.int (0 : Int32)), .val (.ref w_NONE), .val (.int (0 : Int32)), .val (.int (1 : Int32)), .val (.int (1 : Int32)), .val (.int (1 : Int32)), .val (.int (1 : Int32)), .val (.int (1 : Int32)), .val (.int (1 : Int32))] []))
      refine OwnFin.st (fun _ q => XS.iload X6.here hx rfl (hb hby at_142) rfl q) ?_
      show OwnFin _ _ _ _ (T6.setTop (mkF m 144 #[.val (.int p0), .val (.int p1), .val (.int ((p0 &&& (2147483647 : Int32)) % (3 : Int32))), .val (.int (0 : Int32)), .val (.ref w_NONE), .val (.int (0 : Int32)), .val (.int (1 : Int32)), .val (.int (1 : Int32)), .val (.int (1 : Int32)), .val (.int (1 : Int32)), .val (.int (1 : Int32)), .val (.int (1 : Int32))] [(.int (1 : Int32))]))
      refine OwnFin.st (fun _ q => XS.iload X6.here hx rfl (hb hby at_144) rfl q) ?_
      show OwnFin _ _ _ _ (T6.setTop (mkF m 146 #[.val (.int p0), .val (.int p1), .val (.int ((p0 &&& (2147483647 : Int32)) % (3 : Int32))), .val (.int (0 : Int32)), .val (.ref w_NONE), .val (.int (0 : Int32)), .val (.int (1 : Int32)), .val (.int (1 : Int32)), .val (.int (1 : Int32)), .val (.int (1 : Int32)), .val (.int (1 : Int32)), .val (.int (1 : Int32))] [(.int (1 : Int32)), (.int (1 : Int32))]))
      refine OwnFin.st (fun _ q => XS.icmpNo X6.here hx rfl (hb hby at_146) rfl (Jvm.Free.XT.ii_ne_f (rfl : (1 : Int32) = (1 : Int32))) q) ?_
      show OwnFin _ _ _ _ (T6.setTop (mkF m 149 #[.val (.int p0), .val (.int p1), .val (.int ((p0 &&& (2147483647 : Int32)) % (3 : Int32))), .val (.int (0 : Int32)), .val (.ref w_NONE), .val (.int (0 : Int32)), .val (.int (1 : Int32)), .val (.int (1 : Int32)), .val (.int (1 : Int32)), .val (.int (1 : Int32)), .val (.int (1 : Int32)), .val (.int (1 : Int32))] []))
      refine OwnFin.st (fun _ q => XS.iload X6.here hx rfl (hb hby at_149) rfl q) ?_
      show OwnFin _ _ _ _ (T6.setTop (mkF m 151 #[.val (.int p0), .val (.int p1), .val (.int ((p0 &&& (2147483647 : Int32)) % (3 : Int32))), .val (.int (0 : Int32)), .val (.ref w_NONE), .val (.int (0 : Int32)), .val (.int (1 : Int32)), .val (.int (1 : Int32)), .val (.int (1 : Int32)), .val (.int (1 : Int32)), .val (.int (1 : Int32)), .val (.int (1 : Int32))] [(.int (1 : Int32))]))
      refine OwnFin.st (fun _ q => XS.ifNo X6.here hx rfl (hb hby at_151) rfl (Jvm.Free.XT.i0_eq_f (by decide : ¬ ((1 : Int32) = (0 : Int32)))) q) ?_
      show OwnFin _ _ _ _ (T6.setTop (mkF m 154 #[.val (.int p0), .val (.int p1), .val (.int ((p0 &&& (2147483647 : Int32)) % (3 : Int32))), .val (.int (0 : Int32)), .val (.ref w_NONE), .val (.int (0 : Int32)), .val (.int (1 : Int32)), .val (.int (1 : Int32)), .val (.int (1 : Int32)), .val (.int (1 : Int32)), .val (.int (1 : Int32)), .val (.int (1 : Int32))] []))
      refine OwnFin.st (fun _ q => XS.iconst X6.here hx rfl (hb hby at_154) q) ?_
      show OwnFin _ _ _ _ (T6.setTop (mkF m 155 #[.val (.int p0), .val (.int p1), .val (.int ((p0 &&& (2147483647 : Int32)) % (3 : Int32))), .val (.int (0 : Int32)), .val (.ref w_NONE), .val (.int (0 : Int32)), .val (.int (1 : Int32)), .val (.int (1 : Int32)), .val (.int (1 : Int32)), .val (.int (1 : Int32)), .val (.int (1 : Int32)), .val (.int (1 : Int32))] [(.int (1 : Int32))]))
      refine OwnFin.st (fun _ q => XS.goto X6.here hx rfl (pc0 := 155) (pc' := 159) rfl (hb hby at_155) (by decide) (by decide) q) ?_
      show OwnFin _ _ _ _ (T6.setTop (mkF m 159 #[.val (.int p0), .val (.int p1), .val (.int ((p0 &&& (2147483647 : Int32)) % (3 : Int32))), .val (.int (0 : Int32)), .val (.ref w_NONE), .val (.int (0 : Int32)), .val (.int (1 : Int32)), .val (.int (1 : Int32)), .val (.int (1 : Int32)), .val (.int (1 : Int32)), .val (.int (1 : Int32)), .val (.int (1 : Int32))] [(.int (1 : Int32))]))
      obtain ⟨fs, hr, hrun, hended, hW, hsame⟩ := X6.leave (v := some (.int (1 : Int32))) (fun h => by rw [Bd.returns] at h; cases h)
      refine ⟨_, _, retN X6 hx (t := .boolean) Bd.returns (by simp) (hb hby at_159) hr, hrun, hended, _, _, rfl, ?_, ⟨_, rfl⟩, hW, hsame.mono (by decide) (by decide)⟩
      show Q_rm0 Z p0 p1 w_NONE w_ENDED w_SAME h0 n0 _ T6.heap _
      rw [he6]
      exact ⟨rfl, N6⟩
    · skip
      refine OwnFin.st (fun _ q => XS.ifYes X0.here hx rfl (pc0 := 20) (pc' := 31) rfl (hb hby at_20) rfl (Jvm.Free.XT.i0_ne_t hc2) (by decide) (by decide) q) ?_
      show OwnFin _ _ _ _ (s₁.setTop (mkF m 31 #[.val (.int p0), .val (.int p1), .val (.int ((p0 &&& (2147483647 : Int32)) % (3 : Int32))), .val (.int (0 : Int32)), .unset, .unset, .unset, .unset, .unset, .unset, .unset, .unset] []))
      refine OwnFin.st (fun _ q => XS.iloadN X0.here hx rfl (hb hby at_31) rfl q) ?_
      show OwnFin _ _ _ _ (s₁.setTop (mkF m 32 #[.val (.int p0), .val (.int p1), .val (.int ((p0 &&& (2147483647 : Int32)) % (3 : Int32))), .val (.int (0 : Int32)), .unset, .unset, .unset, .unset, .unset, .unset, .unset, .unset] [(.int ((p0 &&& (2147483647 : Int32)) % (3 : Int32)))]))
      refine OwnFin.st (fun _ q => XS.iconst X0.here hx rfl (hb hby at_32) q) ?_
      show OwnFin _ _ _ _ (s₁.setTop (mkF m 33 #[.val (.int p0), .val (.int p1), .val (.int ((p0 &&& (2147483647 : Int32)) % (3 : Int32))), .val (.int (0 : Int32)), .unset, .unset, .unset, .unset, .unset, .unset, .unset, .unset] [(.int (1 : Int32)), (.int ((p0 &&& (2147483647 : Int32)) % (3 : Int32)))]))
      by_cases hc7 : ((p0 &&& (2147483647 : Int32)) % (3 : Int32)) = (1 : Int32)
      · skip
        refine OwnFin.st (fun _ q => XS.icmpNo X0.here hx rfl (hb hby at_33) rfl (Jvm.Free.XT.ii_ne_f hc7) q) ?_
        show OwnFin _ _ _ _ (s₁.setTop (mkF m 36 #[.val (.int p0), .val (.int p1), .val (.int ((p0 &&& (2147483647 : Int32)) % (3 : Int32))), .val (.int (0 : Int32)), .unset, .unset, .unset, .unset, .unset, .unset, .unset, .unset] []))
        obtain ⟨T8, X8, e8, st8⟩ := getS2 X0 hx hZ hown (host := "") (Or.inl (hw _ (List.mem_of_getElem? (i := 20) rfl))) Via.refl e0 (S_ENDED.ext Ol0.2) (g := (mkF m 36 #[.val (.int p0), .val (.int p1), .val (.int ((p0 &&& (2147483647 : Int32)) % (3 : Int32))), .val (.int (0 : Int32)), .unset, .unset, .unset, .unset, .unset, .unset, .unset, .unset] [])) rfl (hb hby at_36)
        refine OwnFin.st st8 ?_
        show OwnFin _ _ _ _ (T8.setTop (mkF m 39 #[.val (.int p0), .val (.int p1), .val (.int ((p0 &&& (2147483647 : Int32)) % (3 : Int32))), .val (.int (0 : Int32)), .unset, .unset, .unset, .unset, .unset, .unset, .unset, .unset] [(.ref w_ENDED)]))
        refine OwnFin.st (fun _ q => XS.astore X8.here hx rfl (hb hby at_39) rfl rfl (l' := #[.val (.int p0), .val (.int p1), .val (.int ((p0 &&& (2147483647 : Int32)) % (3 : Int32))), .val (.int (0 : Int32)), .val (.ref w_ENDED), .unset, .unset, .unset, .unset, .unset, .unset, .unset]) rfl q) ?_
        show OwnFin _ _ _ _ (T8.setTop (mkF m 41 #[.val (.int p0), .val (.int p1), .val (.int ((p0 &&& (2147483647 : Int32)) % (3 : Int32))), .val (.int (0 : Int32)), .val (.ref w_ENDED), .unset, .unset, .unset, .unset, .unset, .unset, .unset] []))
        refine OwnFin.st (fun _ q => XS.goto X8.here hx rfl (pc0 := 41) (pc' := 49) rfl (hb hby at_41) (by decide) (by decide) q) ?_
        show OwnFin _ _ _ _ (T8.setTop (mkF m 49 #[.val (.int p0), .val (.int p1), .val (.int ((p0 &&& (2147483647 : Int32)) % (3 : Int32))), .val (.int (0 : Int32)), .val (.ref w_ENDED), .unset, .unset, .unset, .unset, .unset, .unset, .unset] []))
        refine OwnFin.st (fun _ q => XS.iloadN X8.here hx rfl (hb hby at_49) rfl q) ?_
        show OwnFin _ _ _ _ (T8.setTop (mkF m 50 #[.val (.int p0), .val (.int p1), .val (.int ((p0 &&& (2147483647 : Int32)) % (3 : Int32))), .val (.int (0 : Int32)), .val (.ref w_ENDED), .unset, .unset, .unset, .unset, .unset, .unset, .unset] [(.int (0 : Int32))]))
        refine OwnFin.st (fun _ q => XS.ifYes X8.here hx rfl (pc0 := 50) (pc' := 57) rfl (hb hby at_50) rfl (Jvm.Free.XT.i0_eq_t (rfl : (0 : Int32) = (0 : Int32))) (by decide) (by decide) q) ?_
        show OwnFin _ _ _ _ (T8.setTop (mkF m 57 #[.val (.int p0), .val (.int p1), .val (.int ((p0 &&& (2147483647 : Int32)) % (3 : Int32))), .val (.int (0 : Int32)), .val (.ref w_ENDED), .unset, .unset, .unset, .unset, .unset, .unset, .unset] []))
        refine OwnFin.st (fun _ q => XS.iconst X8.here hx rfl (hb hby at_57) q) ?_
        show OwnFin _ _ _ _ (T8.setTop (mkF m 58 #[.val (.int p0), .val (.int p1), .val (.int ((p0 &&& (2147483647 : Int32)) % (3 : Int32))), .val (.int (0 : Int32)), .val (.ref w_ENDED), .unset, .unset, .unset, .unset, .unset, .unset, .unset] [(.int (0 : Int32))]))
        refine OwnFin.st (fun _ q => XS.istore X8.here hx rfl (hb hby at_58) rfl (l' := #[.val (.int p0), .val (.int p1), .val (.int ((p0 &&& (2147483647 : Int32)) % (3 : Int32))), .val (.int (0 : Int32)), .val (.ref w_ENDED), .val (.int (0 : Int32)), .unset, .unset, .unset, .unset, .unset, .unset]) rfl q) ?_
        show OwnFin _ _ _ _ (T8.setTop (mkF m 60 #[.val (.int p0), .val (.int p1), .val (.int ((p0 &&& (2147483647 : Int32)) % (3 : Int32))), .val (.int (0 : Int32)), .val (.ref w_ENDED), .val (.int (0 : Int32)), .unset, .unset, .unset, .unset, .unset, .unset] []))
        refine OwnFin.st (fun _ q => XS.iloadN X8.here hx rfl (hb hby at_60) rfl q) ?_
        show OwnFin _ _ _ _ (T8.setTop (mkF m 61 #[.val (.int p0), .val (.int p1), .val (.int ((p0 &&& (2147483647 : Int32)) % (3 : Int32))), .val (.int (0 : Int32)), .val (.ref w_ENDED), .val (.int (0 : Int32)), .unset, .unset, .unset, .unset, .unset, .unset] [(.int ((p0 &&& (2147483647 : Int32)) % (3 : Int32)))]))
        refine OwnFin.st (fun _ q => XS.iload X8.here hx rfl (hb hby at_61) rfl q) ?_
        show OwnFin _ _ _ _ (T8.setTop (mkF m 63 #[.val (.int p0), .val (.int p1), .val (.int ((p0 &&& (2147483647 : Int32)) % (3 : Int32))), .val (.int (0 : Int32)), .val (.ref w_ENDED), .val (.int (0 : Int32)), .unset, .unset, .unset, .unset, .unset, .unset] [(.int (0 : Int32)), (.int ((p0 &&& (2147483647 : Int32)) % (3 : Int32)))]))
        refine OwnFin.st (fun _ q => XS.iadd X8.here hx rfl (hb hby at_63) rfl q) ?_
        show OwnFin _ _ _ _ (T8.setTop (mkF m 64 #[.val (.int p0), .val (.int p1), .val (.int ((p0 &&& (2147483647 : Int32)) % (3 : Int32))), .val (.int (0 : Int32)), .val (.ref w_ENDED), .val (.int (0 : Int32)), .unset, .unset, .unset, .unset, .unset, .unset] [(.int (((p0 &&& (2147483647 : Int32)) % (3 : Int32)) + (0 : Int32)))]))
        refine OwnFin.st (fun _ q => XS.iconst X8.here hx rfl (hb hby at_64) q) ?_
        show OwnFin _ _ _ _ (T8.setTop (mkF m 65 #[.val (.int p0), .val (.int p1), .val (.int ((p0 &&& (2147483647 : Int32)) % (3 : Int32))), .val (.int (0 : Int32)), .val (.ref w_ENDED), .val (.int (0 : Int32)), .unset, .unset, .unset, .unset, .unset, .unset] [(.int (2 : Int32)), (.int (((p0 &&& (2147483647 : Int32)) % (3 : Int32)) + (0 : Int32)))]))
        have hd9 : (((p0 &&& (2147483647 : Int32)) % (3 : Int32)) + (0 : Int32)) < (2 : Int32) := by
          have om1 := rng32 (p1 &&& (1 : Int32))
          have om2 := c_mask p1 (1 : Int32) 1 (by decide) (by decide)
          have om3 := rng32 p1
          have om4 := rng32 (1 : Int32)
          have om4l : (1 : Int32).toInt = 1 := by decide
          have om5 := rng32 (0 : Int32)
          have om5l : (0 : Int32).toInt = 0 := by decide
          have om6 := rng32 ((p0 &&& (2147483647 : Int32)) % (3 : Int32))
          have om7 := c_irem (p0 &&& (2147483647 : Int32)) (3 : Int32) 3 (by decide)
          have om8 := rng32 (p0 &&& (2147483647 : Int32))
          have om9 := c_mask p0 (2147483647 : Int32) 31 (by decide) (by decide)
          have om10 := rng32 p0
          have om11 := rng32 (2147483647 : Int32)
          have om11l : (2147483647 : Int32).toInt = 2147483647 := by decide
          have om12 := rng32 (3 : Int32)
          have om12l : (3 : Int32).toInt = 3 := by decide
          have om13 := rng32 (((p0 &&& (2147483647 : Int32)) % (3 : Int32)) + (0 : Int32))
          have om14 := c_iadd ((p0 &&& (2147483647 : Int32)) % (3 : Int32)) (0 : Int32)
          have om15 := rng32 (2 : Int32)
          have om15l : (2 : Int32).toInt = 2 := by decide
          have ow0 := hc1
          rw [← Int32.toInt_inj] at ow0
          have ow1 := hc2
          rw [← Int32.toInt_inj] at ow1
          have ow2 := hc7
          rw [← Int32.toInt_inj] at ow2
          rw [Int32.lt_iff_toInt_lt]
          omega
        refine OwnFin.st (fun _ q => XS.icmpNo X8.here hx rfl (hb hby at_65) rfl (Jvm.Free.XT.ii_ge_f hd9) q) ?_
        show OwnFin _ _ _ _ (T8.setTop (mkF m 68 #[.val (.int p0), .val (.int p1), .val (.int ((p0 &&& (2147483647 : Int32)) % (3 : Int32))), .val (.int (0 : Int32)), .val (.ref w_ENDED), .val (.int (0 : Int32)), .unset, .unset, .unset, .unset, .unset, .unset] []))
        refine OwnFin.st (fun _ q => XS.iconst X8.here hx rfl (hb hby at_68) q) ?_
        show OwnFin _ _ _ _ (T8.setTop (mkF m 69 #[.val (.int p0), .val (.int p1), .val (.int ((p0 &&& (2147483647 : Int32)) % (3 : Int32))), .val (.int (0 : Int32)), .val (.ref w_ENDED), .val (.int (0 : Int32)), .unset, .unset, .unset, .unset, .unset, .unset] [(.int (1 : Int32))]))
        refine OwnFin.st (fun _ q => XS.goto X8.here hx rfl (pc0 := 69) (pc' := 73) rfl (hb hby at_69) (by decide) (by decide) q) ?_
        show OwnFin _ _ _ _ (T8.setTop (mkF m 73 #[.val (.int p0), .val (.int p1), .val (.int ((p0 &&& (2147483647 : Int32)) % (3 : Int32))), .val (.int (0 : Int32)), .val (.ref w_ENDED), .val (.int (0 : Int32)), .unset, .unset, .unset, .unset, .unset, .unset] [(.int (1 : Int32))]))
        refine OwnFin.st (fun _ q => XS.istore X8.here hx rfl (hb hby at_73) rfl (l' := #[.val (.int p0), .val (.int p1), .val (.int ((p0 &&& (2147483647 : Int32)) % (3 : Int32))), .val (.int (0 : Int32)), .val (.ref w_ENDED), .val (.int (0 : Int32)), .val (.int (1 : Int32)), .unset, .unset, .unset, .unset, .unset]) rfl q) ?_
        show OwnFin _ _ _ _ (T8.setTop (mkF m 75 #[.val (.int p0), .val (.int p1), .val (.int ((p0 &&& (2147483647 : Int32)) % (3 : Int32))), .val (.int (0 : Int32)), .val (.ref w_ENDED), .val (.int (0 : Int32)), .val (.int (1 : Int32)), .unset, .unset, .unset, .unset, .unset] []))
        refine OwnFin.st (fun _ q => XS.aload X8.here hx rfl (hb hby at_75) rfl rfl q) ?_
        show OwnFin _ _ _ _ (T8.setTop (mkF m 77 #[.val (.int p0), .val (.int p1), .val (.int ((p0 &&& (2147483647 : Int32)) % (3 : Int32))), .val (.int (0 : Int32)), .val (.ref w_ENDED), .val (.int (0 : Int32)), .val (.int (1 : Int32)), .unset, .unset, .unset, .unset, .unset] [(.ref w_ENDED)]))
        refine OwnFin.st (fun _ q => XS.iloadN X8.here hx rfl (hb hby at_77) rfl q) ?_
        show OwnFin _ _ _ _ (T8.setTop (mkF m 78 #[.val (.int p0), .val (.int p1), .val (.int ((p0 &&& (2147483647 : Int32)) % (3 : Int32))), .val (.int (0 : Int32)), .val (.ref w_ENDED), .val (.int (0 : Int32)), .val (.int (1 : Int32)), .unset, .unset, .unset, .unset, .unset] [(.int (0 : Int32)), (.ref w_ENDED)]))
        obtain ⟨cq10, kq10, q10a, q10b, q10c⟩ := isOf hZ e8 (X_w_ENDED.ext Ol0.2)
        obtain ⟨_, _, ⟨T10, L10, k10, n10⟩, -, X10, ⟨Lc10, hQ10, l10, y10, z10⟩, st10⟩ := X8.virtualBack hx (y := (⟨"com/example/neat_order/neatorder/core/graph/ProcessNeed", "allowsNewProcess", "(Z)Z"⟩ : MethodName)) (z := (⟨"com/example/neat_order/neatorder/core/graph/ProcessNeed", "allowsNewProcess", "(Z)Z"⟩ : MethodName)) hown (mvT hZ (hw _ (List.mem_of_getElem? (i := 4) rfl))) (mvT hZ (hw _ (List.mem_of_getElem? (i := 5) rfl))) (notFace_of_selects (args := #[]) (mvT hZ (hw _ (List.mem_of_getElem? (i := 7) rfl)))) (mvT hZ (hw _ (List.mem_of_getElem? (i := 7) rfl))) (mvT hZ (hw _ (List.mem_of_getElem? (i := 6) rfl))) (by decide) (backOf (W := 0) (rm1_1t l Z av0 hw [] w_ENDED (0 : Int32) h0 n0 (Nat.le_trans Z0 kp0.1) (X_w_ENDED.ext Ol0.2) (F_ordinal_w_ENDED.ext Ol0.2) (rfl : (0 : Int32) = (0 : Int32))) hZ (hw _ (List.mem_of_getElem? (i := 8) rfl)) (hw _ (List.mem_of_getElem? (i := 2) rfl)) (by decide) (by decide)) q10a q10c (g := (mkF m 78 #[.val (.int p0), .val (.int p1), .val (.int ((p0 &&& (2147483647 : Int32)) % (3 : Int32))), .val (.int (0 : Int32)), .val (.ref w_ENDED), .val (.int (0 : Int32)), .val (.int (1 : Int32)), .unset, .unset, .unset, .unset, .unset] [(.int (0 : Int32)), (.ref w_ENDED)])) rfl (by rw [hml]; rfl) (Steps.refl _) (argsL := [(.int (0 : Int32))]) (rest := []) (lenOf pd_1 rfl) rfl (by show 2 * 0 + _ ≤ _; exact Nat.le_of_eq rfl) (hb hby at_78) (fun _ _ => ⟨rfl, e8, (by decide : 0 + 0 ≤ _), (by decide : 0 + 0 ≤ _)⟩)
        dsimp only [Pt.U, Pt.locs, Pt.cells, Pt.slots] at X10 l10 y10 z10 st10 hQ10
        subst l10 y10 z10
        obtain ⟨rfl, N10q, he10⟩ := hQ10
        have N10 := Fr.app N0 N10q
        refine OwnFin.tr st10 ?_
        show OwnFin _ _ _ _ (T10.setTop (mkF m 81 #[.val (.int p0), .val (.int p1), .val (.int ((p0 &&& (2147483647 : Int32)) % (3 : Int32))), .val (.int (0 : Int32)), .val (.ref w_ENDED), .val (.int (0 : Int32)), .val (.int (1 : Int32)), .unset, .unset, .unset, .unset, .unset] [(.int (1 : Int32))]))
        refine OwnFin.st (fun _ q => XS.istore X10.here hx rfl (hb hby at_81) rfl (l' := #[.val (.int p0), .val (.int p1), .val (.int ((p0 &&& (2147483647 : Int32)) % (3 : Int32))), .val (.int (0 : Int32)), .val (.ref w_ENDED), .val (.int (0 : Int32)), .val (.int (1 : Int32)), .val (.int (1 : Int32)), .unset, .unset, .unset, .unset]) rfl q) ?_
        show OwnFin _ _ _ _ (T10.setTop (mkF m 83 #[.val (.int p0), .val (.int p1), .val (.int ((p0 &&& (2147483647 : Int32)) % (3 : Int32))), .val (.int (0 : Int32)), .val (.ref w_ENDED), .val (.int (0 : Int32)), .val (.int (1 : Int32)), .val (.int (1 : Int32)), .unset, .unset, .unset, .unset] []))
        refine OwnFin.st (fun _ q => XS.aload X10.here hx rfl (hb hby at_83) rfl rfl q) ?_
        show OwnFin _ _ _ _ (T10.setTop (mkF m 85 #[.val (.int p0), .val (.int p1), .val (.int ((p0 &&& (2147483647 : Int32)) % (3 : Int32))), .val (.int (0 : Int32)), .val (.ref w_ENDED), .val (.int (0 : Int32)), .val (.int (1 : Int32)), .val (.int (1 : Int32)), .unset, .unset, .unset, .unset] [(.ref w_ENDED)]))
        refine OwnFin.st (fun _ q => XS.iloadN X10.here hx rfl (hb hby at_85) rfl q) ?_
        show OwnFin _ _ _ _ (T10.setTop (mkF m 86 #[.val (.int p0), .val (.int p1), .val (.int ((p0 &&& (2147483647 : Int32)) % (3 : Int32))), .val (.int (0 : Int32)), .val (.ref w_ENDED), .val (.int (0 : Int32)), .val (.int (1 : Int32)), .val (.int (1 : Int32)), .unset, .unset, .unset, .unset] [(.int (0 : Int32)), (.ref w_ENDED)]))
        refine OwnFin.st (fun _ q => XS.ifNo X10.here hx rfl (hb hby at_86) rfl (Jvm.Free.XT.i0_ne_f (rfl : (0 : Int32) = (0 : Int32))) q) ?_
        show OwnFin _ _ _ _ (T10.setTop (mkF m 89 #[.val (.int p0), .val (.int p1), .val (.int ((p0 &&& (2147483647 : Int32)) % (3 : Int32))), .val (.int (0 : Int32)), .val (.ref w_ENDED), .val (.int (0 : Int32)), .val (.int (1 : Int32)), .val (.int (1 : Int32)), .unset, .unset, .unset, .unset] [(.ref w_ENDED)]))
        refine OwnFin.st (fun _ q => XS.iconst X10.here hx rfl (hb hby at_89) q) ?_
        show OwnFin _ _ _ _ (T10.setTop (mkF m 90 #[.val (.int p0), .val (.int p1), .val (.int ((p0 &&& (2147483647 : Int32)) % (3 : Int32))), .val (.int (0 : Int32)), .val (.ref w_ENDED), .val (.int (0 : Int32)), .val (.int (1 : Int32)), .val (.int (1 : Int32)), .unset, .unset, .unset, .unset] [(.int (1 : Int32)), (.ref w_ENDED)]))
        refine OwnFin.st (fun _ q => XS.goto X10.here hx rfl (pc0 := 90) (pc' := 94) rfl (hb hby at_90) (by decide) (by decide) q) ?_
        show OwnFin _ _ _ _ (T10.setTop (mkF m 94 #[.val (.int p0), .val (.int p1), .val (.int ((p0 &&& (2147483647 : Int32)) % (3 : Int32))), .val (.int (0 : Int32)), .val (.ref w_ENDED), .val (.int (0 : Int32)), .val (.int (1 : Int32)), .val (.int (1 : Int32)), .unset, .unset, .unset, .unset] [(.int (1 : Int32)), (.ref w_ENDED)]))
        obtain ⟨cq11, kq11, q11a, q11b, q11c⟩ := isOf hZ he10 (X_w_ENDED.ext Ol0.2)
        obtain ⟨_, _, ⟨T11, L11, k11, n11⟩, -, X11, ⟨Lc11, hQ11, l11, y11, z11⟩, st11⟩ := X10.virtualBack hx (y := (⟨"com/example/neat_order/neatorder/core/graph/ProcessNeed", "allowsNewProcess", "(Z)Z"⟩ : MethodName)) (z := (⟨"com/example/neat_order/neatorder/core/graph/ProcessNeed", "allowsNewProcess", "(Z)Z"⟩ : MethodName)) hown (mvT hZ (hw _ (List.mem_of_getElem? (i := 4) rfl))) (mvT hZ (hw _ (List.mem_of_getElem? (i := 5) rfl))) (notFace_of_selects (args := #[]) (mvT hZ (hw _ (List.mem_of_getElem? (i := 7) rfl)))) (mvT hZ (hw _ (List.mem_of_getElem? (i := 7) rfl))) (mvT hZ (hw _ (List.mem_of_getElem? (i := 6) rfl))) (by decide) (backOf (W := 0) (rm1_1f l Z av0 hw [] w_ENDED (1 : Int32) h0 n0 (Nat.le_trans Z0 kp0.1) (X_w_ENDED.ext Ol0.2) (F_ordinal_w_ENDED.ext Ol0.2) (by decide : ¬ ((1 : Int32) = (0 : Int32)))) hZ (hw _ (List.mem_of_getElem? (i := 8) rfl)) (hw _ (List.mem_of_getElem? (i := 2) rfl)) (by decide) (by decide)) q11a q11c (g := (mkF m 94 #[.val (.int p0), .val (.int p1), .val (.int ((p0 &&& (2147483647 : Int32)) % (3 : Int32))), .val (.int (0 : Int32)), .val (.ref w_ENDED), .val (.int (0 : Int32)), .val (.int (1 : Int32)), .val (.int (1 : Int32)), .unset, .unset, .unset, .unset] [(.int (1 : Int32)), (.ref w_ENDED)])) rfl (by rw [hml]; rfl) (Steps.refl _) (argsL := [(.int (1 : Int32))]) (rest := []) (lenOf pd_1 rfl) rfl (by show 2 * 0 + _ ≤ _; exact Nat.le_of_eq rfl) (hb hby at_94) (fun _ _ => ⟨rfl, he10, (by decide : 0 + 0 ≤ _), (by decide : 0 + 0 ≤ _)⟩)
        dsimp only [Pt.U, Pt.locs, Pt.cells, Pt.slots] at X11 l11 y11 z11 st11 hQ11
        subst l11 y11 z11
        obtain ⟨rfl, N11q, he11⟩ := hQ11
        have N11 := Fr.app N10 N11q
        refine OwnFin.tr st11 ?_
        show OwnFin _ _ _ _ (T11.setTop (mkF m 97 #[.val (.int p0), .val (.int p1), .val (.int ((p0 &&& (2147483647 : Int32)) % (3 : Int32))), .val (.int (0 : Int32)), .val (.ref w_ENDED), .val (.int (0 : Int32)), .val (.int (1 : Int32)), .val (.int (1 : Int32)), .unset, .unset, .unset, .unset] [(.int (0 : Int32))]))
        refine OwnFin.st (fun _ q => XS.istore X11.here hx rfl (hb hby at_97) rfl (l' := #[.val (.int p0), .val (.int p1), .val (.int ((p0 &&& (2147483647 : Int32)) % (3 : Int32))), .val (.int (0 : Int32)), .val (.ref w_ENDED), .val (.int (0 : Int32)), .val (.int (1 : Int32)), .val (.int (1 : Int32)), .val (.int (0 : Int32)), .unset, .unset, .unset]) rfl q) ?_
        show OwnFin _ _ _ _ (T11.setTop (mkF m 99 #[.val (.int p0), .val (.int p1), .val (.int ((p0 &&& (2147483647 : Int32)) % (3 : Int32))), .val (.int (0 : Int32)), .val (.ref w_ENDED), .val (.int (0 : Int32)), .val (.int (1 : Int32)), .val (.int (1 : Int32)), .val (.int (0 : Int32)), .unset, .unset, .unset] []))
        refine OwnFin.st (fun _ q => XS.iloadN X11.here hx rfl (hb hby at_99) rfl q) ?_
        show OwnFin _ _ _ _ (T11.setTop (mkF m 100 #[.val (.int p0), .val (.int p1), .val (.int ((p0 &&& (2147483647 : Int32)) % (3 : Int32))), .val (.int (0 : Int32)), .val (.ref w_ENDED), .val (.int (0 : Int32)), .val (.int (1 : Int32)), .val (.int (1 : Int32)), .val (.int (0 : Int32)), .unset, .unset, .unset] [(.int (0 : Int32))]))
        refine OwnFin.st (fun _ q => XS.ifYes X11.here hx rfl (pc0 := 100) (pc' := 108) rfl (hb hby at_100) rfl (Jvm.Free.XT.i0_eq_t (rfl : (0 : Int32) = (0 : Int32))) (by decide) (by decide) q) ?_
        show OwnFin _ _ _ _ (T11.setTop (mkF m 108 #[.val (.int p0), .val (.int p1), .val (.int ((p0 &&& (2147483647 : Int32)) % (3 : Int32))), .val (.int (0 : Int32)), .val (.ref w_ENDED), .val (.int (0 : Int32)), .val (.int (1 : Int32)), .val (.int (1 : Int32)), .val (.int (0 : Int32)), .unset, .unset, .unset] []))
        refine OwnFin.st (fun _ q => XS.iload X11.here hx rfl (hb hby at_108) rfl q) ?_
        show OwnFin _ _ _ _ (T11.setTop (mkF m 110 #[.val (.int p0), .val (.int p1), .val (.int ((p0 &&& (2147483647 : Int32)) % (3 : Int32))), .val (.int (0 : Int32)), .val (.ref w_ENDED), .val (.int (0 : Int32)), .val (.int (1 : Int32)), .val (.int (1 : Int32)), .val (.int (0 : Int32)), .unset, .unset, .unset] [(.int (0 : Int32))]))
        refine OwnFin.st (fun _ q => XS.istore X11.here hx rfl (hb hby at_110) rfl (l' := #[.val (.int p0), .val (.int p1), .val (.int ((p0 &&& (2147483647 : Int32)) % (3 : Int32))), .val (.int (0 : Int32)), .val (.ref w_ENDED), .val (.int (0 : Int32)), .val (.int (1 : Int32)), .val (.int (1 : Int32)), .val (.int (0 : Int32)), .val (.int (0 : Int32)), .unset, .unset]) rfl q) ?_
        show OwnFin _ _ _ _ (T11.setTop (mkF m 112 #[.val (.int p0), .val (.int p1), .val (.int ((p0 &&& (2147483647 : Int32)) % (3 : Int32))), .val (.int (0 : Int32)), .val (.ref w_ENDED), .val (.int (0 : Int32)), .val (.int (1 : Int32)), .val (.int (1 : Int32)), .val (.int (0 : Int32)), .val (.int (0 : Int32)), .unset, .unset] []))
        refine OwnFin.st (fun _ q => XS.iloadN X11.here hx rfl (hb hby at_112) rfl q) ?_
        show OwnFin _ _ _ _ (T11.setTop (mkF m 113 #[.val (.int p0), .val (.int p1), .val (.int ((p0 &&& (2147483647 : Int32)) % (3 : Int32))), .val (.int (0 : Int32)), .val (.ref w_ENDED), .val (.int (0 : Int32)), .val (.int (1 : Int32)), .val (.int (1 : Int32)), .val (.int (0 : Int32)), .val (.int (0 : Int32)), .unset, .unset] [(.int (0 : Int32))]))
        refine OwnFin.st (fun _ q => XS.ifYes X11.here hx rfl (pc0 := 113) (pc' := 121) rfl (hb hby at_113) rfl (Jvm.Free.XT.i0_eq_t (rfl : (0 : Int32) = (0 : Int32))) (by decide) (by decide) q) ?_
        show OwnFin _ _ _ _ (T11.setTop (mkF m 121 #[.val (.int p0), .val (.int p1), .val (.int ((p0 &&& (2147483647 : Int32)) % (3 : Int32))), .val (.int (0 : Int32)), .val (.ref w_ENDED), .val (.int (0 : Int32)), .val (.int (1 : Int32)), .val (.int (1 : Int32)), .val (.int (0 : Int32)), .val (.int (0 : Int32)), .unset, .unset] []))
        refine OwnFin.st (fun _ q => XS.iload X11.here hx rfl (hb hby at_121) rfl q) ?_
        show OwnFin _ _ _ _ (T11.setTop (mkF m 123 #[.val (.int p0), .val (.int p1), .val (.int ((p0 &&& (2147483647 : Int32)) % (3 : Int32))), .val (.int (0 : Int32)), .val (.ref w_ENDED), .val (.int (0 : Int32)), .val (.int (1 : Int32)), .val (.int (1 : Int32)), .val (.int (0 : Int32)), .val (.int (0 : Int32)), .unset, .unset] [(.int (1 : Int32))]))
        refine OwnFin.st (fun _ q => XS.istore X11.here hx rfl (hb hby at_123) rfl (l' := #[.val (.int p0), .val (.int p1), .val (.int ((p0 &&& (2147483647 : Int32)) % (3 : Int32))), .val (.int (0 : Int32)), .val (.ref w_ENDED), .val (.int (0 : Int32)), .val (.int (1 : Int32)), .val (.int (1 : Int32)), .val (.int (0 : Int32)), .val (.int (0 : Int32)), .val (.int (1 : Int32)), .unset]) rfl q) ?_
        show OwnFin _ _ _ _ (T11.setTop (mkF m 125 #[.val (.int p0), .val (.int p1), .val (.int ((p0 &&& (2147483647 : Int32)) % (3 : Int32))), .val (.int (0 : Int32)), .val (.ref w_ENDED), .val (.int (0 : Int32)), .val (.int (1 : Int32)), .val (.int (1 : Int32)), .val (.int (0 : Int32)), .val (.int (0 : Int32)), .val (.int (1 : Int32)), .unset] []))
        refine OwnFin.st (fun _ q => XS.iload X11.here hx rfl (hb hby at_125) rfl q) ?_
        show OwnFin _ _ _ _ (T11.setTop (mkF m 127 #[.val (.int p0), .val (.int p1), .val (.int ((p0 &&& (2147483647 : Int32)) % (3 : Int32))), .val (.int (0 : Int32)), .val (.ref w_ENDED), .val (.int (0 : Int32)), .val (.int (1 : Int32)), .val (.int (1 : Int32)), .val (.int (0 : Int32)), .val (.int (0 : Int32)), .val (.int (1 : Int32)), .unset] [(.int (0 : Int32))]))
        refine OwnFin.st (fun _ q => XS.ifYes X11.here hx rfl (pc0 := 127) (pc' := 135) rfl (hb hby at_127) rfl (Jvm.Free.XT.i0_eq_t (rfl : (0 : Int32) = (0 : Int32))) (by decide) (by decide) q) ?_
        show OwnFin _ _ _ _ (T11.setTop (mkF m 135 #[.val (.int p0), .val (.int p1), .val (.int ((p0 &&& (2147483647 : Int32)) % (3 : Int32))), .val (.int (0 : Int32)), .val (.ref w_ENDED), .val (.int (0 : Int32)), .val (.int (1 : Int32)), .val (.int (1 : Int32)), .val (.int (0 : Int32)), .val (.int (0 : Int32)), .val (.int (1 : Int32)), .unset] []))
        refine OwnFin.st (fun _ q => XS.iconst X11.here hx rfl (hb hby at_135) q) ?_
        show OwnFin _ _ _ _ (T11.setTop (mkF m 136 #[.val (.int p0), .val (.int p1), .val (.int ((p0 &&& (2147483647 : Int32)) % (3 : Int32))), .val (.int (0 : Int32)), .val (.ref w_ENDED), .val (.int (0 : Int32)), .val (.int (1 : Int32)), .val (.int (1 : Int32)), .val (.int (0 : Int32)), .val (.int (0 : Int32)), .val (.int (1 : Int32)), .unset] [(.int (1 : Int32))]))
        refine OwnFin.st (fun _ q => XS.goto X11.here hx rfl (pc0 := 136) (pc' := 140) rfl (hb hby at_136) (by decide) (by decide) q) ?_
        show OwnFin _ _ _ _ (T11.setTop (mkF m 140 #[.val (.int p0), .val (.int p1), .val (.int ((p0 &&& (2147483647 : Int32)) % (3 : Int32))), .val (.int (0 : Int32)), .val (.ref w_ENDED), .val (.int (0 : Int32)), .val (.int (1 : Int32)), .val (.int (1 : Int32)), .val (.int (0 : Int32)), .val (.int (0 : Int32)), .val (.int (1 : Int32)), .unset] [(.int (1 : Int32))]))
        refine OwnFin.st (fun _ q => XS.istore X11.here hx rfl (hb hby at_140) rfl (l' := #[.val (.int p0), .val (.int p1), .val (.int ((p0 &&& (2147483647 : Int32)) % (3 : Int32))), .val (.int (0 : Int32)), .val (.ref w_ENDED), .val (.int (0 : Int32)), .val (.int (1 : Int32)), .val (.int (1 : Int32)), .val (.int (0 : Int32)), .val (.int (0 : Int32)), .val (.int (1 : Int32)), .val (.int (1 : Int32))]) rfl q) ?_
        show OwnFin _ _ _ _ (T11.setTop (mkF m 142 #[.val (.int p0), .val (.int p1), .val (.int ((p0 &&& (2147483647 : Int32)) % (3 : Int32))), .val (.int (0 : Int32)), .val (.ref w_ENDED), .val (.int (0 : Int32)), .val (.int (1 : Int32)), .val (.int (1 : Int32)), .val (.int (0 : Int32)), .val (.int (0 : Int32)), .val (.int (1 : Int32)), .val (.int (1 : Int32))] []))
        refine OwnFin.st (fun _ q => XS.iload X11.here hx rfl (hb hby at_142) rfl q) ?_
        show OwnFin _ _ _ _ (T11.setTop (mkF m 144 #[.val (.int p0), .val (.int p1), .val (.int ((p0 &&& (2147483647 : Int32)) % (3 : Int32))), .val (.int (0 : Int32)), .val (.ref w_ENDED), .val (.int (0 : Int32)), .val (.int (1 : Int32)), .val (.int (1 : Int32)), .val (.int (0 : Int32)), .val (.int (0 : Int32)), .val (.int (1 : Int32)), .val (.int (1 : Int32))] [(.int (1 : Int32))]))
        refine OwnFin.st (fun _ q => XS.iload X11.here hx rfl (hb hby at_144) rfl q) ?_
        show OwnFin _ _ _ _ (T11.setTop (mkF m 146 #[.val (.int p0), .val (.int p1), .val (.int ((p0 &&& (2147483647 : Int32)) % (3 : Int32))), .val (.int (0 : Int32)), .val (.ref w_ENDED), .val (.int (0 : Int32)), .val (.int (1 : Int32)), .val (.int (1 : Int32)), .val (.int (0 : Int32)), .val (.int (0 : Int32)), .val (.int (1 : Int32)), .val (.int (1 : Int32))] [(.int (1 : Int32)), (.int (1 : Int32))]))
        refine OwnFin.st (fun _ q => XS.icmpNo X11.here hx rfl (hb hby at_146) rfl (Jvm.Free.XT.ii_ne_f (rfl : (1 : Int32) = (1 : Int32))) q) ?_
        show OwnFin _ _ _ _ (T11.setTop (mkF m 149 #[.val (.int p0), .val (.int p1), .val (.int ((p0 &&& (2147483647 : Int32)) % (3 : Int32))), .val (.int (0 : Int32)), .val (.ref w_ENDED), .val (.int (0 : Int32)), .val (.int (1 : Int32)), .val (.int (1 : Int32)), .val (.int (0 : Int32)), .val (.int (0 : Int32)), .val (.int (1 : Int32)), .val (.int (1 : Int32))] []))
        refine OwnFin.st (fun _ q => XS.iload X11.here hx rfl (hb hby at_149) rfl q) ?_
        show OwnFin _ _ _ _ (T11.setTop (mkF m 151 #[.val (.int p0), .val (.int p1), .val (.int ((p0 &&& (2147483647 : Int32)) % (3 : Int32))), .val (.int (0 : Int32)), .val (.ref w_ENDED), .val (.int (0 : Int32)), .val (.int (1 : Int32)), .val (.int (1 : Int32)), .val (.int (0 : Int32)), .val (.int (0 : Int32)), .val (.int (1 : Int32)), .val (.int (1 : Int32))] [(.int (1 : Int32))]))
        refine OwnFin.st (fun _ q => XS.ifNo X11.here hx rfl (hb hby at_151) rfl (Jvm.Free.XT.i0_eq_f (by decide : ¬ ((1 : Int32) = (0 : Int32)))) q) ?_
        show OwnFin _ _ _ _ (T11.setTop (mkF m 154 #[.val (.int p0), .val (.int p1), .val (.int ((p0 &&& (2147483647 : Int32)) % (3 : Int32))), .val (.int (0 : Int32)), .val (.ref w_ENDED), .val (.int (0 : Int32)), .val (.int (1 : Int32)), .val (.int (1 : Int32)), .val (.int (0 : Int32)), .val (.int (0 : Int32)), .val (.int (1 : Int32)), .val (.int (1 : Int32))] []))
        refine OwnFin.st (fun _ q => XS.iconst X11.here hx rfl (hb hby at_154) q) ?_
        show OwnFin _ _ _ _ (T11.setTop (mkF m 155 #[.val (.int p0), .val (.int p1), .val (.int ((p0 &&& (2147483647 : Int32)) % (3 : Int32))), .val (.int (0 : Int32)), .val (.ref w_ENDED), .val (.int (0 : Int32)), .val (.int (1 : Int32)), .val (.int (1 : Int32)), .val (.int (0 : Int32)), .val (.int (0 : Int32)), .val (.int (1 : Int32)), .val (.int (1 : Int32))] [(.int (1 : Int32))]))
        refine OwnFin.st (fun _ q => XS.goto X11.here hx rfl (pc0 := 155) (pc' := 159) rfl (hb hby at_155) (by decide) (by decide) q) ?_
        show OwnFin _ _ _ _ (T11.setTop (mkF m 159 #[.val (.int p0), .val (.int p1), .val (.int ((p0 &&& (2147483647 : Int32)) % (3 : Int32))), .val (.int (0 : Int32)), .val (.ref w_ENDED), .val (.int (0 : Int32)), .val (.int (1 : Int32)), .val (.int (1 : Int32)), .val (.int (0 : Int32)), .val (.int (0 : Int32)), .val (.int (1 : Int32)), .val (.int (1 : Int32))] [(.int (1 : Int32))]))
        obtain ⟨fs, hr, hrun, hended, hW, hsame⟩ := X11.leave (v := some (.int (1 : Int32))) (fun h => by rw [Bd.returns] at h; cases h)
        refine ⟨_, _, retN X11 hx (t := .boolean) Bd.returns (by simp) (hb hby at_159) hr, hrun, hended, _, _, rfl, ?_, ⟨_, rfl⟩, hW, hsame.mono (by decide) (by decide)⟩
        show Q_rm0 Z p0 p1 w_NONE w_ENDED w_SAME h0 n0 _ T11.heap _
        rw [he11]
        exact ⟨rfl, N11⟩
      · skip
        refine OwnFin.st (fun _ q => XS.icmpYes X0.here hx rfl (pc0 := 33) (pc' := 44) rfl (hb hby at_33) rfl (Jvm.Free.XT.ii_ne_t hc7) (by decide) (by decide) q) ?_
        show OwnFin _ _ _ _ (s₁.setTop (mkF m 44 #[.val (.int p0), .val (.int p1), .val (.int ((p0 &&& (2147483647 : Int32)) % (3 : Int32))), .val (.int (0 : Int32)), .unset, .unset, .unset, .unset, .unset, .unset, .unset, .unset] []))
        obtain ⟨T12, X12, e12, st12⟩ := getS2 X0 hx hZ hown (host := "") (Or.inl (hw _ (List.mem_of_getElem? (i := 18) rfl))) Via.refl e0 (S_SAME.ext Ol0.2) (g := (mkF m 44 #[.val (.int p0), .val (.int p1), .val (.int ((p0 &&& (2147483647 : Int32)) % (3 : Int32))), .val (.int (0 : Int32)), .unset, .unset, .unset, .unset, .unset, .unset, .unset, .unset] [])) rfl (hb hby at_44)
        refine OwnFin.st st12 ?_
        show OwnFin _ _ _ _ (T12.setTop (mkF m 47 #[.val (.int p0), .val (.int p1), .val (.int ((p0 &&& (2147483647 : Int32)) % (3 : Int32))), .val (.int (0 : Int32)), .unset, .unset, .unset, .unset, .unset, .unset, .unset, .unset] [(.ref w_SAME)]))
        refine OwnFin.st (fun _ q => XS.astore X12.here hx rfl (hb hby at_47) rfl rfl (l' := #[.val (.int p0), .val (.int p1), .val (.int ((p0 &&& (2147483647 : Int32)) % (3 : Int32))), .val (.int (0 : Int32)), .val (.ref w_SAME), .unset, .unset, .unset, .unset, .unset, .unset, .unset]) rfl q) ?_
        show OwnFin _ _ _ _ (T12.setTop (mkF m 49 #[.val (.int p0), .val (.int p1), .val (.int ((p0 &&& (2147483647 : Int32)) % (3 : Int32))), .val (.int (0 : Int32)), .val (.ref w_SAME), .unset, .unset, .unset, .unset, .unset, .unset, .unset] []))
        refine OwnFin.st (fun _ q => XS.iloadN X12.here hx rfl (hb hby at_49) rfl q) ?_
        show OwnFin _ _ _ _ (T12.setTop (mkF m 50 #[.val (.int p0), .val (.int p1), .val (.int ((p0 &&& (2147483647 : Int32)) % (3 : Int32))), .val (.int (0 : Int32)), .val (.ref w_SAME), .unset, .unset, .unset, .unset, .unset, .unset, .unset] [(.int (0 : Int32))]))
        refine OwnFin.st (fun _ q => XS.ifYes X12.here hx rfl (pc0 := 50) (pc' := 57) rfl (hb hby at_50) rfl (Jvm.Free.XT.i0_eq_t (rfl : (0 : Int32) = (0 : Int32))) (by decide) (by decide) q) ?_
        show OwnFin _ _ _ _ (T12.setTop (mkF m 57 #[.val (.int p0), .val (.int p1), .val (.int ((p0 &&& (2147483647 : Int32)) % (3 : Int32))), .val (.int (0 : Int32)), .val (.ref w_SAME), .unset, .unset, .unset, .unset, .unset, .unset, .unset] []))
        refine OwnFin.st (fun _ q => XS.iconst X12.here hx rfl (hb hby at_57) q) ?_
        show OwnFin _ _ _ _ (T12.setTop (mkF m 58 #[.val (.int p0), .val (.int p1), .val (.int ((p0 &&& (2147483647 : Int32)) % (3 : Int32))), .val (.int (0 : Int32)), .val (.ref w_SAME), .unset, .unset, .unset, .unset, .unset, .unset, .unset] [(.int (0 : Int32))]))
        refine OwnFin.st (fun _ q => XS.istore X12.here hx rfl (hb hby at_58) rfl (l' := #[.val (.int p0), .val (.int p1), .val (.int ((p0 &&& (2147483647 : Int32)) % (3 : Int32))), .val (.int (0 : Int32)), .val (.ref w_SAME), .val (.int (0 : Int32)), .unset, .unset, .unset, .unset, .unset, .unset]) rfl q) ?_
        show OwnFin _ _ _ _ (T12.setTop (mkF m 60 #[.val (.int p0), .val (.int p1), .val (.int ((p0 &&& (2147483647 : Int32)) % (3 : Int32))), .val (.int (0 : Int32)), .val (.ref w_SAME), .val (.int (0 : Int32)), .unset, .unset, .unset, .unset, .unset, .unset] []))
        refine OwnFin.st (fun _ q => XS.iloadN X12.here hx rfl (hb hby at_60) rfl q) ?_
        show OwnFin _ _ _ _ (T12.setTop (mkF m 61 #[.val (.int p0), .val (.int p1), .val (.int ((p0 &&& (2147483647 : Int32)) % (3 : Int32))), .val (.int (0 : Int32)), .val (.ref w_SAME), .val (.int (0 : Int32)), .unset, .unset, .unset, .unset, .unset, .unset] [(.int ((p0 &&& (2147483647 : Int32)) % (3 : Int32)))]))
        refine OwnFin.st (fun _ q => XS.iload X12.here hx rfl (hb hby at_61) rfl q) ?_
        show OwnFin _ _ _ _ (T12.setTop (mkF m 63 #[.val (.int p0), .val (.int p1), .val (.int ((p0 &&& (2147483647 : Int32)) % (3 : Int32))), .val (.int (0 : Int32)), .val (.ref w_SAME), .val (.int (0 : Int32)), .unset, .unset, .unset, .unset, .unset, .unset] [(.int (0 : Int32)), (.int ((p0 &&& (2147483647 : Int32)) % (3 : Int32)))]))
        refine OwnFin.st (fun _ q => XS.iadd X12.here hx rfl (hb hby at_63) rfl q) ?_
        show OwnFin _ _ _ _ (T12.setTop (mkF m 64 #[.val (.int p0), .val (.int p1), .val (.int ((p0 &&& (2147483647 : Int32)) % (3 : Int32))), .val (.int (0 : Int32)), .val (.ref w_SAME), .val (.int (0 : Int32)), .unset, .unset, .unset, .unset, .unset, .unset] [(.int (((p0 &&& (2147483647 : Int32)) % (3 : Int32)) + (0 : Int32)))]))
        refine OwnFin.st (fun _ q => XS.iconst X12.here hx rfl (hb hby at_64) q) ?_
        show OwnFin _ _ _ _ (T12.setTop (mkF m 65 #[.val (.int p0), .val (.int p1), .val (.int ((p0 &&& (2147483647 : Int32)) % (3 : Int32))), .val (.int (0 : Int32)), .val (.ref w_SAME), .val (.int (0 : Int32)), .unset, .unset, .unset, .unset, .unset, .unset] [(.int (2 : Int32)), (.int (((p0 &&& (2147483647 : Int32)) % (3 : Int32)) + (0 : Int32)))]))
        have hd13 : ¬ ((((p0 &&& (2147483647 : Int32)) % (3 : Int32)) + (0 : Int32)) < (2 : Int32)) := by
          have om1 := rng32 (p1 &&& (1 : Int32))
          have om2 := c_mask p1 (1 : Int32) 1 (by decide) (by decide)
          have om3 := rng32 p1
          have om4 := rng32 (1 : Int32)
          have om4l : (1 : Int32).toInt = 1 := by decide
          have om5 := rng32 (0 : Int32)
          have om5l : (0 : Int32).toInt = 0 := by decide
          have om6 := rng32 ((p0 &&& (2147483647 : Int32)) % (3 : Int32))
          have om7 := c_irem (p0 &&& (2147483647 : Int32)) (3 : Int32) 3 (by decide)
          have om8 := rng32 (p0 &&& (2147483647 : Int32))
          have om9 := c_mask p0 (2147483647 : Int32) 31 (by decide) (by decide)
          have om10 := rng32 p0
          have om11 := rng32 (2147483647 : Int32)
          have om11l : (2147483647 : Int32).toInt = 2147483647 := by decide
          have om12 := rng32 (3 : Int32)
          have om12l : (3 : Int32).toInt = 3 := by decide
          have om13 := rng32 (((p0 &&& (2147483647 : Int32)) % (3 : Int32)) + (0 : Int32))
          have om14 := c_iadd ((p0 &&& (2147483647 : Int32)) % (3 : Int32)) (0 : Int32)
          have om15 := rng32 (2 : Int32)
          have om15l : (2 : Int32).toInt = 2 := by decide
          have ow0 := hc1
          rw [← Int32.toInt_inj] at ow0
          have ow1 := hc2
          rw [← Int32.toInt_inj] at ow1
          have ow2 := hc7
          rw [← Int32.toInt_inj] at ow2
          rw [Int32.lt_iff_toInt_lt]
          omega
        refine OwnFin.st (fun _ q => XS.icmpYes X12.here hx rfl (pc0 := 65) (pc' := 72) rfl (hb hby at_65) rfl (Jvm.Free.XT.ii_ge_t hd13) (by decide) (by decide) q) ?_
        show OwnFin _ _ _ _ (T12.setTop (mkF m 72 #[.val (.int p0), .val (.int p1), .val (.int ((p0 &&& (2147483647 : Int32)) % (3 : Int32))), .val (.int (0 : Int32)), .val (.ref w_SAME), .val (.int (0 : Int32)), .unset, .unset, .unset, .unset, .unset, .unset] []))
        refine OwnFin.st (fun _ q => XS.iconst X12.here hx rfl (hb hby at_72) q) ?_
        show OwnFin _ _ _ _ (T12.setTop (mkF m 73 #[.val (.int p0), .val (.int p1), .val (.int ((p0 &&& (2147483647 : Int32)) % (3 : Int32))), .val (.int (0 : Int32)), .val (.ref w_SAME), .val (.int (0 : Int32)), .unset, .unset, .unset, .unset, .unset, .unset] [(.int (0 : Int32))]))
        refine OwnFin.st (fun _ q => XS.istore X12.here hx rfl (hb hby at_73) rfl (l' := #[.val (.int p0), .val (.int p1), .val (.int ((p0 &&& (2147483647 : Int32)) % (3 : Int32))), .val (.int (0 : Int32)), .val (.ref w_SAME), .val (.int (0 : Int32)), .val (.int (0 : Int32)), .unset, .unset, .unset, .unset, .unset]) rfl q) ?_
        show OwnFin _ _ _ _ (T12.setTop (mkF m 75 #[.val (.int p0), .val (.int p1), .val (.int ((p0 &&& (2147483647 : Int32)) % (3 : Int32))), .val (.int (0 : Int32)), .val (.ref w_SAME), .val (.int (0 : Int32)), .val (.int (0 : Int32)), .unset, .unset, .unset, .unset, .unset] []))
        refine OwnFin.st (fun _ q => XS.aload X12.here hx rfl (hb hby at_75) rfl rfl q) ?_
        show OwnFin _ _ _ _ (T12.setTop (mkF m 77 #[.val (.int p0), .val (.int p1), .val (.int ((p0 &&& (2147483647 : Int32)) % (3 : Int32))), .val (.int (0 : Int32)), .val (.ref w_SAME), .val (.int (0 : Int32)), .val (.int (0 : Int32)), .unset, .unset, .unset, .unset, .unset] [(.ref w_SAME)]))
        refine OwnFin.st (fun _ q => XS.iloadN X12.here hx rfl (hb hby at_77) rfl q) ?_
        show OwnFin _ _ _ _ (T12.setTop (mkF m 78 #[.val (.int p0), .val (.int p1), .val (.int ((p0 &&& (2147483647 : Int32)) % (3 : Int32))), .val (.int (0 : Int32)), .val (.ref w_SAME), .val (.int (0 : Int32)), .val (.int (0 : Int32)), .unset, .unset, .unset, .unset, .unset] [(.int (0 : Int32)), (.ref w_SAME)]))
        obtain ⟨cq14, kq14, q14a, q14b, q14c⟩ := isOf hZ e12 (X_w_SAME.ext Ol0.2)
        obtain ⟨_, _, ⟨T14, L14, k14, n14⟩, -, X14, ⟨Lc14, hQ14, l14, y14, z14⟩, st14⟩ := X12.virtualBack hx (y := (⟨"com/example/neat_order/neatorder/core/graph/ProcessNeed", "allowsNewProcess", "(Z)Z"⟩ : MethodName)) (z := (⟨"com/example/neat_order/neatorder/core/graph/ProcessNeed", "allowsNewProcess", "(Z)Z"⟩ : MethodName)) hown (mvT hZ (hw _ (List.mem_of_getElem? (i := 4) rfl))) (mvT hZ (hw _ (List.mem_of_getElem? (i := 5) rfl))) (notFace_of_selects (args := #[]) (mvT hZ (hw _ (List.mem_of_getElem? (i := 7) rfl)))) (mvT hZ (hw _ (List.mem_of_getElem? (i := 7) rfl))) (mvT hZ (hw _ (List.mem_of_getElem? (i := 6) rfl))) (by decide) (backOf (W := 0) (rm1_2 l Z av0 hw [] w_SAME (0 : Int32) h0 n0 (Nat.le_trans Z0 kp0.1) (X_w_SAME.ext Ol0.2) (F_ordinal_w_SAME.ext Ol0.2)) hZ (hw _ (List.mem_of_getElem? (i := 8) rfl)) (hw _ (List.mem_of_getElem? (i := 2) rfl)) (by decide) (by decide)) q14a q14c (g := (mkF m 78 #[.val (.int p0), .val (.int p1), .val (.int ((p0 &&& (2147483647 : Int32)) % (3 : Int32))), .val (.int (0 : Int32)), .val (.ref w_SAME), .val (.int (0 : Int32)), .val (.int (0 : Int32)), .unset, .unset, .unset, .unset, .unset] [(.int (0 : Int32)), (.ref w_SAME)])) rfl (by rw [hml]; rfl) (Steps.refl _) (argsL := [(.int (0 : Int32))]) (rest := []) (lenOf pd_1 rfl) rfl (by show 2 * 0 + _ ≤ _; exact Nat.le_of_eq rfl) (hb hby at_78) (fun _ _ => ⟨rfl, e12, (by decide : 0 + 0 ≤ _), (by decide : 0 + 0 ≤ _)⟩)
        dsimp only [Pt.U, Pt.locs, Pt.cells, Pt.slots] at X14 l14 y14 z14 st14 hQ14
        subst l14 y14 z14
        obtain ⟨rfl, N14q, he14⟩ := hQ14
        have N14 := Fr.app N0 N14q
        refine OwnFin.tr st14 ?_
        show OwnFin _ _ _ _ (T14.setTop (mkF m 81 #[.val (.int p0), .val (.int p1), .val (.int ((p0 &&& (2147483647 : Int32)) % (3 : Int32))), .val (.int (0 : Int32)), .val (.ref w_SAME), .val (.int (0 : Int32)), .val (.int (0 : Int32)), .unset, .unset, .unset, .unset, .unset] [(.int (0 : Int32))]))
        refine OwnFin.st (fun _ q => XS.istore X14.here hx rfl (hb hby at_81) rfl (l' := #[.val (.int p0), .val (.int p1), .val (.int ((p0 &&& (2147483647 : Int32)) % (3 : Int32))), .val (.int (0 : Int32)), .val (.ref w_SAME), .val (.int (0 : Int32)), .val (.int (0 : Int32)), .val (.int (0 : Int32)), .unset, .unset, .unset, .unset]) rfl q) ?_
        show OwnFin _ _ _ _ (T14.setTop (mkF m 83 #[.val (.int p0), .val (.int p1), .val (.int ((p0 &&& (2147483647 : Int32)) % (3 : Int32))), .val (.int (0 : Int32)), .val (.ref w_SAME), .val (.int (0 : Int32)), .val (.int (0 : Int32)), .val (.int (0 : Int32)), .unset, .unset, .unset, .unset] []))
        refine OwnFin.st (fun _ q => XS.aload X14.here hx rfl (hb hby at_83) rfl rfl q) ?_
        show OwnFin _ _ _ _ (T14.setTop (mkF m 85 #[.val (.int p0), .val (.int p1), .val (.int ((p0 &&& (2147483647 : Int32)) % (3 : Int32))), .val (.int (0 : Int32)), .val (.ref w_SAME), .val (.int (0 : Int32)), .val (.int (0 : Int32)), .val (.int (0 : Int32)), .unset, .unset, .unset, .unset] [(.ref w_SAME)]))
        refine OwnFin.st (fun _ q => XS.iloadN X14.here hx rfl (hb hby at_85) rfl q) ?_
        show OwnFin _ _ _ _ (T14.setTop (mkF m 86 #[.val (.int p0), .val (.int p1), .val (.int ((p0 &&& (2147483647 : Int32)) % (3 : Int32))), .val (.int (0 : Int32)), .val (.ref w_SAME), .val (.int (0 : Int32)), .val (.int (0 : Int32)), .val (.int (0 : Int32)), .unset, .unset, .unset, .unset] [(.int (0 : Int32)), (.ref w_SAME)]))
        refine OwnFin.st (fun _ q => XS.ifNo X14.here hx rfl (hb hby at_86) rfl (Jvm.Free.XT.i0_ne_f (rfl : (0 : Int32) = (0 : Int32))) q) ?_
        show OwnFin _ _ _ _ (T14.setTop (mkF m 89 #[.val (.int p0), .val (.int p1), .val (.int ((p0 &&& (2147483647 : Int32)) % (3 : Int32))), .val (.int (0 : Int32)), .val (.ref w_SAME), .val (.int (0 : Int32)), .val (.int (0 : Int32)), .val (.int (0 : Int32)), .unset, .unset, .unset, .unset] [(.ref w_SAME)]))
        refine OwnFin.st (fun _ q => XS.iconst X14.here hx rfl (hb hby at_89) q) ?_
        show OwnFin _ _ _ _ (T14.setTop (mkF m 90 #[.val (.int p0), .val (.int p1), .val (.int ((p0 &&& (2147483647 : Int32)) % (3 : Int32))), .val (.int (0 : Int32)), .val (.ref w_SAME), .val (.int (0 : Int32)), .val (.int (0 : Int32)), .val (.int (0 : Int32)), .unset, .unset, .unset, .unset] [(.int (1 : Int32)), (.ref w_SAME)]))
        refine OwnFin.st (fun _ q => XS.goto X14.here hx rfl (pc0 := 90) (pc' := 94) rfl (hb hby at_90) (by decide) (by decide) q) ?_
        show OwnFin _ _ _ _ (T14.setTop (mkF m 94 #[.val (.int p0), .val (.int p1), .val (.int ((p0 &&& (2147483647 : Int32)) % (3 : Int32))), .val (.int (0 : Int32)), .val (.ref w_SAME), .val (.int (0 : Int32)), .val (.int (0 : Int32)), .val (.int (0 : Int32)), .unset, .unset, .unset, .unset] [(.int (1 : Int32)), (.ref w_SAME)]))
        obtain ⟨cq15, kq15, q15a, q15b, q15c⟩ := isOf hZ he14 (X_w_SAME.ext Ol0.2)
        obtain ⟨_, _, ⟨T15, L15, k15, n15⟩, -, X15, ⟨Lc15, hQ15, l15, y15, z15⟩, st15⟩ := X14.virtualBack hx (y := (⟨"com/example/neat_order/neatorder/core/graph/ProcessNeed", "allowsNewProcess", "(Z)Z"⟩ : MethodName)) (z := (⟨"com/example/neat_order/neatorder/core/graph/ProcessNeed", "allowsNewProcess", "(Z)Z"⟩ : MethodName)) hown (mvT hZ (hw _ (List.mem_of_getElem? (i := 4) rfl))) (mvT hZ (hw _ (List.mem_of_getElem? (i := 5) rfl))) (notFace_of_selects (args := #[]) (mvT hZ (hw _ (List.mem_of_getElem? (i := 7) rfl)))) (mvT hZ (hw _ (List.mem_of_getElem? (i := 7) rfl))) (mvT hZ (hw _ (List.mem_of_getElem? (i := 6) rfl))) (by decide) (backOf (W := 0) (rm1_2 l Z av0 hw [] w_SAME (1 : Int32) h0 n0 (Nat.le_trans Z0 kp0.1) (X_w_SAME.ext Ol0.2) (F_ordinal_w_SAME.ext Ol0.2)) hZ (hw _ (List.mem_of_getElem? (i := 8) rfl)) (hw _ (List.mem_of_getElem? (i := 2) rfl)) (by decide) (by decide)) q15a q15c (g := (mkF m 94 #[.val (.int p0), .val (.int p1), .val (.int ((p0 &&& (2147483647 : Int32)) % (3 : Int32))), .val (.int (0 : Int32)), .val (.ref w_SAME), .val (.int (0 : Int32)), .val (.int (0 : Int32)), .val (.int (0 : Int32)), .unset, .unset, .unset, .unset] [(.int (1 : Int32)), (.ref w_SAME)])) rfl (by rw [hml]; rfl) (Steps.refl _) (argsL := [(.int (1 : Int32))]) (rest := []) (lenOf pd_1 rfl) rfl (by show 2 * 0 + _ ≤ _; exact Nat.le_of_eq rfl) (hb hby at_94) (fun _ _ => ⟨rfl, he14, (by decide : 0 + 0 ≤ _), (by decide : 0 + 0 ≤ _)⟩)
        dsimp only [Pt.U, Pt.locs, Pt.cells, Pt.slots] at X15 l15 y15 z15 st15 hQ15
        subst l15 y15 z15
        obtain ⟨rfl, N15q, he15⟩ := hQ15
        have N15 := Fr.app N14 N15q
        refine OwnFin.tr st15 ?_
        show OwnFin _ _ _ _ (T15.setTop (mkF m 97 #[.val (.int p0), .val (.int p1), .val (.int ((p0 &&& (2147483647 : Int32)) % (3 : Int32))), .val (.int (0 : Int32)), .val (.ref w_SAME), .val (.int (0 : Int32)), .val (.int (0 : Int32)), .val (.int (0 : Int32)), .unset, .unset, .unset, .unset] [(.int (0 : Int32))]))
        refine OwnFin.st (fun _ q => XS.istore X15.here hx rfl (hb hby at_97) rfl (l' := #[.val (.int p0), .val (.int p1), .val (.int ((p0 &&& (2147483647 : Int32)) % (3 : Int32))), .val (.int (0 : Int32)), .val (.ref w_SAME), .val (.int (0 : Int32)), .val (.int (0 : Int32)), .val (.int (0 : Int32)), .val (.int (0 : Int32)), .unset, .unset, .unset]) rfl q) ?_
        show OwnFin _ _ _ _ (T15.setTop (mkF m 99 #[.val (.int p0), .val (.int p1), .val (.int ((p0 &&& (2147483647 : Int32)) % (3 : Int32))), .val (.int (0 : Int32)), .val (.ref w_SAME), .val (.int (0 : Int32)), .val (.int (0 : Int32)), .val (.int (0 : Int32)), .val (.int (0 : Int32)), .unset, .unset, .unset] []))
        refine OwnFin.st (fun _ q => XS.iloadN X15.here hx rfl (hb hby at_99) rfl q) ?_
        show OwnFin _ _ _ _ (T15.setTop (mkF m 100 #[.val (.int p0), .val (.int p1), .val (.int ((p0 &&& (2147483647 : Int32)) % (3 : Int32))), .val (.int (0 : Int32)), .val (.ref w_SAME), .val (.int (0 : Int32)), .val (.int (0 : Int32)), .val (.int (0 : Int32)), .val (.int (0 : Int32)), .unset, .unset, .unset] [(.int (0 : Int32))]))
        refine OwnFin.st (fun _ q => XS.ifYes X15.here hx rfl (pc0 := 100) (pc' := 108) rfl (hb hby at_100) rfl (Jvm.Free.XT.i0_eq_t (rfl : (0 : Int32) = (0 : Int32))) (by decide) (by decide) q) ?_
        show OwnFin _ _ _ _ (T15.setTop (mkF m 108 #[.val (.int p0), .val (.int p1), .val (.int ((p0 &&& (2147483647 : Int32)) % (3 : Int32))), .val (.int (0 : Int32)), .val (.ref w_SAME), .val (.int (0 : Int32)), .val (.int (0 : Int32)), .val (.int (0 : Int32)), .val (.int (0 : Int32)), .unset, .unset, .unset] []))
        refine OwnFin.st (fun _ q => XS.iload X15.here hx rfl (hb hby at_108) rfl q) ?_
        show OwnFin _ _ _ _ (T15.setTop (mkF m 110 #[.val (.int p0), .val (.int p1), .val (.int ((p0 &&& (2147483647 : Int32)) % (3 : Int32))), .val (.int (0 : Int32)), .val (.ref w_SAME), .val (.int (0 : Int32)), .val (.int (0 : Int32)), .val (.int (0 : Int32)), .val (.int (0 : Int32)), .unset, .unset, .unset] [(.int (0 : Int32))]))
        refine OwnFin.st (fun _ q => XS.istore X15.here hx rfl (hb hby at_110) rfl (l' := #[.val (.int p0), .val (.int p1), .val (.int ((p0 &&& (2147483647 : Int32)) % (3 : Int32))), .val (.int (0 : Int32)), .val (.ref w_SAME), .val (.int (0 : Int32)), .val (.int (0 : Int32)), .val (.int (0 : Int32)), .val (.int (0 : Int32)), .val (.int (0 : Int32)), .unset, .unset]) rfl q) ?_
        show OwnFin _ _ _ _ (T15.setTop (mkF m 112 #[.val (.int p0), .val (.int p1), .val (.int ((p0 &&& (2147483647 : Int32)) % (3 : Int32))), .val (.int (0 : Int32)), .val (.ref w_SAME), .val (.int (0 : Int32)), .val (.int (0 : Int32)), .val (.int (0 : Int32)), .val (.int (0 : Int32)), .val (.int (0 : Int32)), .unset, .unset] []))
        refine OwnFin.st (fun _ q => XS.iloadN X15.here hx rfl (hb hby at_112) rfl q) ?_
        show OwnFin _ _ _ _ (T15.setTop (mkF m 113 #[.val (.int p0), .val (.int p1), .val (.int ((p0 &&& (2147483647 : Int32)) % (3 : Int32))), .val (.int (0 : Int32)), .val (.ref w_SAME), .val (.int (0 : Int32)), .val (.int (0 : Int32)), .val (.int (0 : Int32)), .val (.int (0 : Int32)), .val (.int (0 : Int32)), .unset, .unset] [(.int (0 : Int32))]))
        refine OwnFin.st (fun _ q => XS.ifYes X15.here hx rfl (pc0 := 113) (pc' := 121) rfl (hb hby at_113) rfl (Jvm.Free.XT.i0_eq_t (rfl : (0 : Int32) = (0 : Int32))) (by decide) (by decide) q) ?_
        show OwnFin _ _ _ _ (T15.setTop (mkF m 121 #[.val (.int p0), .val (.int p1), .val (.int ((p0 &&& (2147483647 : Int32)) % (3 : Int32))), .val (.int (0 : Int32)), .val (.ref w_SAME), .val (.int (0 : Int32)), .val (.int (0 : Int32)), .val (.int (0 : Int32)), .val (.int (0 : Int32)), .val (.int (0 : Int32)), .unset, .unset] []))
        refine OwnFin.st (fun _ q => XS.iload X15.here hx rfl (hb hby at_121) rfl q) ?_
        show OwnFin _ _ _ _ (T15.setTop (mkF m 123 #[.val (.int p0), .val (.int p1), .val (.int ((p0 &&& (2147483647 : Int32)) % (3 : Int32))), .val (.int (0 : Int32)), .val (.ref w_SAME), .val (.int (0 : Int32)), .val (.int (0 : Int32)), .val (.int (0 : Int32)), .val (.int (0 : Int32)), .val (.int (0 : Int32)), .unset, .unset] [(.int (0 : Int32))]))
        refine OwnFin.st (fun _ q => XS.istore X15.here hx rfl (hb hby at_123) rfl (l' := #[.val (.int p0), .val (.int p1), .val (.int ((p0 &&& (2147483647 : Int32)) % (3 : Int32))), .val (.int (0 : Int32)), .val (.ref w_SAME), .val (.int (0 : Int32)), .val (.int (0 : Int32)), .val (.int (0 : Int32)), .val (.int (0 : Int32)), .val (.int (0 : Int32)), .val (.int (0 : Int32)), .unset]) rfl q) ?_
        show OwnFin _ _ _ _ (T15.setTop (mkF m 125 #[.val (.int p0), .val (.int p1), .val (.int ((p0 &&& (2147483647 : Int32)) % (3 : Int32))), .val (.int (0 : Int32)), .val (.ref w_SAME), .val (.int (0 : Int32)), .val (.int (0 : Int32)), .val (.int (0 : Int32)), .val (.int (0 : Int32)), .val (.int (0 : Int32)), .val (.int (0 : Int32)), .unset] []))
        refine OwnFin.st (fun _ q => XS.iload X15.here hx rfl (hb hby at_125) rfl q) ?_
        show OwnFin _ _ _ _ (T15.setTop (mkF m 127 #[.val (.int p0), .val (.int p1), .val (.int ((p0 &&& (2147483647 : Int32)) % (3 : Int32))), .val (.int (0 : Int32)), .val (.ref w_SAME), .val (.int (0 : Int32)), .val (.int (0 : Int32)), .val (.int (0 : Int32)), .val (.int (0 : Int32)), .val (.int (0 : Int32)), .val (.int (0 : Int32)), .unset] [(.int (0 : Int32))]))
        refine OwnFin.st (fun _ q => XS.ifYes X15.here hx rfl (pc0 := 127) (pc' := 135) rfl (hb hby at_127) rfl (Jvm.Free.XT.i0_eq_t (rfl : (0 : Int32) = (0 : Int32))) (by decide) (by decide) q) ?_
        show OwnFin _ _ _ _ (T15.setTop (mkF m 135 #[.val (.int p0), .val (.int p1), .val (.int ((p0 &&& (2147483647 : Int32)) % (3 : Int32))), .val (.int (0 : Int32)), .val (.ref w_SAME), .val (.int (0 : Int32)), .val (.int (0 : Int32)), .val (.int (0 : Int32)), .val (.int (0 : Int32)), .val (.int (0 : Int32)), .val (.int (0 : Int32)), .unset] []))
        refine OwnFin.st (fun _ q => XS.iconst X15.here hx rfl (hb hby at_135) q) ?_
        show OwnFin _ _ _ _ (T15.setTop (mkF m 136 #[.val (.int p0), .val (.int p1), .val (.int ((p0 &&& (2147483647 : Int32)) % (3 : Int32))), .val (.int (0 : Int32)), .val (.ref w_SAME), .val (.int (0 : Int32)), .val (.int (0 : Int32)), .val (.int (0 : Int32)), .val (.int (0 : Int32)), .val (.int (0 : Int32)), .val (.int (0 : Int32)), .unset] [(.int (1 : Int32))]))
        refine OwnFin.st (fun _ q => XS.goto X15.here hx rfl (pc0 := 136) (pc' := 140) rfl (hb hby at_136) (by decide) (by decide) q) ?_
        show OwnFin _ _ _ _ (T15.setTop (mkF m 140 #[.val (.int p0), .val (.int p1), .val (.int ((p0 &&& (2147483647 : Int32)) % (3 : Int32))), .val (.int (0 : Int32)), .val (.ref w_SAME), .val (.int (0 : Int32)), .val (.int (0 : Int32)), .val (.int (0 : Int32)), .val (.int (0 : Int32)), .val (.int (0 : Int32)), .val (.int (0 : Int32)), .unset] [(.int (1 : Int32))]))
        refine OwnFin.st (fun _ q => XS.istore X15.here hx rfl (hb hby at_140) rfl (l' := #[.val (.int p0), .val (.int p1), .val (.int ((p0 &&& (2147483647 : Int32)) % (3 : Int32))), .val (.int (0 : Int32)), .val (.ref w_SAME), .val (.int (0 : Int32)), .val (.int (0 : Int32)), .val (.int (0 : Int32)), .val (.int (0 : Int32)), .val (.int (0 : Int32)), .val (.int (0 : Int32)), .val (.int (1 : Int32))]) rfl q) ?_
        show OwnFin _ _ _ _ (T15.setTop (mkF m 142 #[.val (.int p0), .val (.int p1), .val (.int ((p0 &&& (2147483647 : Int32)) % (3 : Int32))), .val (.int (0 : Int32)), .val (.ref w_SAME), .val (.int (0 : Int32)), .val (.int (0 : Int32)), .val (.int (0 : Int32)), .val (.int (0 : Int32)), .val (.int (0 : Int32)), .val (.int (0 : Int32)), .val (.int (1 : Int32))] []))
        refine OwnFin.st (fun _ q => XS.iload X15.here hx rfl (hb hby at_142) rfl q) ?_
        show OwnFin _ _ _ _ (T15.setTop (mkF m 144 #[.val (.int p0), .val (.int p1), .val (.int ((p0 &&& (2147483647 : Int32)) % (3 : Int32))), .val (.int (0 : Int32)), .val (.ref w_SAME), .val (.int (0 : Int32)), .val (.int (0 : Int32)), .val (.int (0 : Int32)), .val (.int (0 : Int32)), .val (.int (0 : Int32)), .val (.int (0 : Int32)), .val (.int (1 : Int32))] [(.int (0 : Int32))]))
        refine OwnFin.st (fun _ q => XS.iload X15.here hx rfl (hb hby at_144) rfl q) ?_
        show OwnFin _ _ _ _ (T15.setTop (mkF m 146 #[.val (.int p0), .val (.int p1), .val (.int ((p0 &&& (2147483647 : Int32)) % (3 : Int32))), .val (.int (0 : Int32)), .val (.ref w_SAME), .val (.int (0 : Int32)), .val (.int (0 : Int32)), .val (.int (0 : Int32)), .val (.int (0 : Int32)), .val (.int (0 : Int32)), .val (.int (0 : Int32)), .val (.int (1 : Int32))] [(.int (0 : Int32)), (.int (0 : Int32))]))
        refine OwnFin.st (fun _ q => XS.icmpNo X15.here hx rfl (hb hby at_146) rfl (Jvm.Free.XT.ii_ne_f (rfl : (0 : Int32) = (0 : Int32))) q) ?_
        show OwnFin _ _ _ _ (T15.setTop (mkF m 149 #[.val (.int p0), .val (.int p1), .val (.int ((p0 &&& (2147483647 : Int32)) % (3 : Int32))), .val (.int (0 : Int32)), .val (.ref w_SAME), .val (.int (0 : Int32)), .val (.int (0 : Int32)), .val (.int (0 : Int32)), .val (.int (0 : Int32)), .val (.int (0 : Int32)), .val (.int (0 : Int32)), .val (.int (1 : Int32))] []))
        refine OwnFin.st (fun _ q => XS.iload X15.here hx rfl (hb hby at_149) rfl q) ?_
        show OwnFin _ _ _ _ (T15.setTop (mkF m 151 #[.val (.int p0), .val (.int p1), .val (.int ((p0 &&& (2147483647 : Int32)) % (3 : Int32))), .val (.int (0 : Int32)), .val (.ref w_SAME), .val (.int (0 : Int32)), .val (.int (0 : Int32)), .val (.int (0 : Int32)), .val (.int (0 : Int32)), .val (.int (0 : Int32)), .val (.int (0 : Int32)), .val (.int (1 : Int32))] [(.int (1 : Int32))]))
        refine OwnFin.st (fun _ q => XS.ifNo X15.here hx rfl (hb hby at_151) rfl (Jvm.Free.XT.i0_eq_f (by decide : ¬ ((1 : Int32) = (0 : Int32)))) q) ?_
        show OwnFin _ _ _ _ (T15.setTop (mkF m 154 #[.val (.int p0), .val (.int p1), .val (.int ((p0 &&& (2147483647 : Int32)) % (3 : Int32))), .val (.int (0 : Int32)), .val (.ref w_SAME), .val (.int (0 : Int32)), .val (.int (0 : Int32)), .val (.int (0 : Int32)), .val (.int (0 : Int32)), .val (.int (0 : Int32)), .val (.int (0 : Int32)), .val (.int (1 : Int32))] []))
        refine OwnFin.st (fun _ q => XS.iconst X15.here hx rfl (hb hby at_154) q) ?_
        show OwnFin _ _ _ _ (T15.setTop (mkF m 155 #[.val (.int p0), .val (.int p1), .val (.int ((p0 &&& (2147483647 : Int32)) % (3 : Int32))), .val (.int (0 : Int32)), .val (.ref w_SAME), .val (.int (0 : Int32)), .val (.int (0 : Int32)), .val (.int (0 : Int32)), .val (.int (0 : Int32)), .val (.int (0 : Int32)), .val (.int (0 : Int32)), .val (.int (1 : Int32))] [(.int (1 : Int32))]))
        refine OwnFin.st (fun _ q => XS.goto X15.here hx rfl (pc0 := 155) (pc' := 159) rfl (hb hby at_155) (by decide) (by decide) q) ?_
        show OwnFin _ _ _ _ (T15.setTop (mkF m 159 #[.val (.int p0), .val (.int p1), .val (.int ((p0 &&& (2147483647 : Int32)) % (3 : Int32))), .val (.int (0 : Int32)), .val (.ref w_SAME), .val (.int (0 : Int32)), .val (.int (0 : Int32)), .val (.int (0 : Int32)), .val (.int (0 : Int32)), .val (.int (0 : Int32)), .val (.int (0 : Int32)), .val (.int (1 : Int32))] [(.int (1 : Int32))]))
        obtain ⟨fs, hr, hrun, hended, hW, hsame⟩ := X15.leave (v := some (.int (1 : Int32))) (fun h => by rw [Bd.returns] at h; cases h)
        refine ⟨_, _, retN X15 hx (t := .boolean) Bd.returns (by simp) (hb hby at_159) hr, hrun, hended, _, _, rfl, ?_, ⟨_, rfl⟩, hW, hsame.mono (by decide) (by decide)⟩
        show Q_rm0 Z p0 p1 w_NONE w_ENDED w_SAME h0 n0 _ T15.heap _
        rw [he15]
        exact ⟨rfl, N15⟩
  · skip
    refine OwnFin.st (fun _ q => XS.ifNo X0.here hx rfl (hb hby at_10) rfl (Jvm.Free.XT.i0_eq_f hc1) q) ?_
    show OwnFin _ _ _ _ (s₁.setTop (mkF m 13 #[.val (.int p0), .val (.int p1), .val (.int ((p0 &&& (2147483647 : Int32)) % (3 : Int32))), .unset, .unset, .unset, .unset, .unset, .unset, .unset, .unset, .unset] []))
    refine OwnFin.st (fun _ q => XS.iconst X0.here hx rfl (hb hby at_13) q) ?_
    show OwnFin _ _ _ _ (s₁.setTop (mkF m 14 #[.val (.int p0), .val (.int p1), .val (.int ((p0 &&& (2147483647 : Int32)) % (3 : Int32))), .unset, .unset, .unset, .unset, .unset, .unset, .unset, .unset, .unset] [(.int (1 : Int32))]))
    refine OwnFin.st (fun _ q => XS.goto X0.here hx rfl (pc0 := 14) (pc' := 18) rfl (hb hby at_14) (by decide) (by decide) q) ?_
    show OwnFin _ _ _ _ (s₁.setTop (mkF m 18 #[.val (.int p0), .val (.int p1), .val (.int ((p0 &&& (2147483647 : Int32)) % (3 : Int32))), .unset, .unset, .unset, .unset, .unset, .unset, .unset, .unset, .unset] [(.int (1 : Int32))]))
    refine OwnFin.st (fun _ q => XS.istoreN X0.here hx rfl (hb hby at_18) rfl (l' := #[.val (.int p0), .val (.int p1), .val (.int ((p0 &&& (2147483647 : Int32)) % (3 : Int32))), .val (.int (1 : Int32)), .unset, .unset, .unset, .unset, .unset, .unset, .unset, .unset]) rfl q) ?_
    show OwnFin _ _ _ _ (s₁.setTop (mkF m 19 #[.val (.int p0), .val (.int p1), .val (.int ((p0 &&& (2147483647 : Int32)) % (3 : Int32))), .val (.int (1 : Int32)), .unset, .unset, .unset, .unset, .unset, .unset, .unset, .unset] []))
    refine OwnFin.st (fun _ q => XS.iloadN X0.here hx rfl (hb hby at_19) rfl q) ?_
    show OwnFin _ _ _ _ (s₁.setTop (mkF m 20 #[.val (.int p0), .val (.int p1), .val (.int ((p0 &&& (2147483647 : Int32)) % (3 : Int32))), .val (.int (1 : Int32)), .unset, .unset, .unset, .unset, .unset, .unset, .unset, .unset] [(.int ((p0 &&& (2147483647 : Int32)) % (3 : Int32)))]))
    by_cases hc16 : ((p0 &&& (2147483647 : Int32)) % (3 : Int32)) = (0 : Int32)
    · skip
      refine OwnFin.st (fun _ q => XS.ifNo X0.here hx rfl (hb hby at_20) rfl (Jvm.Free.XT.i0_ne_f hc16) q) ?_
      show OwnFin _ _ _ _ (s₁.setTop (mkF m 23 #[.val (.int p0), .val (.int p1), .val (.int ((p0 &&& (2147483647 : Int32)) % (3 : Int32))), .val (.int (1 : Int32)), .unset, .unset, .unset, .unset, .unset, .unset, .unset, .unset] []))
      obtain ⟨T17, X17, e17, st17⟩ := getS2 X0 hx hZ hown (host := "") (Or.inl (hw _ (List.mem_of_getElem? (i := 1) rfl))) Via.refl e0 (S_NONE.ext Ol0.2) (g := (mkF m 23 #[.val (.int p0), .val (.int p1), .val (.int ((p0 &&& (2147483647 : Int32)) % (3 : Int32))), .val (.int (1 : Int32)), .unset, .unset, .unset, .unset, .unset, .unset, .unset, .unset] [])) rfl (hb hby at_23)
      refine OwnFin.st st17 ?_
      show OwnFin _ _ _ _ (T17.setTop (mkF m 26 #[.val (.int p0), .val (.int p1), .val (.int ((p0 &&& (2147483647 : Int32)) % (3 : Int32))), .val (.int (1 : Int32)), .unset, .unset, .unset, .unset, .unset, .unset, .unset, .unset] [(.ref w_NONE)]))
      refine OwnFin.st (fun _ q => XS.astore X17.here hx rfl (hb hby at_26) rfl rfl (l' := #[.val (.int p0), .val (.int p1), .val (.int ((p0 &&& (2147483647 : Int32)) % (3 : Int32))), .val (.int (1 : Int32)), .val (.ref w_NONE), .unset, .unset, .unset, .unset, .unset, .unset, .unset]) rfl q) ?_
      show OwnFin _ _ _ _ (T17.setTop (mkF m 28 #[.val (.int p0), .val (.int p1), .val (.int ((p0 &&& (2147483647 : Int32)) % (3 : Int32))), .val (.int (1 : Int32)), .val (.ref w_NONE), .unset, .unset, .unset, .unset, .unset, .unset, .unset] []))
      refine OwnFin.st (fun _ q => XS.goto X17.here hx rfl (pc0 := 28) (pc' := 49) rfl (hb hby at_28) (by decide) (by decide) q) ?_
      show OwnFin _ _ _ _ (T17.setTop (mkF m 49 #[.val (.int p0), .val (.int p1), .val (.int ((p0 &&& (2147483647 : Int32)) % (3 : Int32))), .val (.int (1 : Int32)), .val (.ref w_NONE), .unset, .unset, .unset, .unset, .unset, .unset, .unset] []))
      refine OwnFin.st (fun _ q => XS.iloadN X17.here hx rfl (hb hby at_49) rfl q) ?_
      show OwnFin _ _ _ _ (T17.setTop (mkF m 50 #[.val (.int p0), .val (.int p1), .val (.int ((p0 &&& (2147483647 : Int32)) % (3 : Int32))), .val (.int (1 : Int32)), .val (.ref w_NONE), .unset, .unset, .unset, .unset, .unset, .unset, .unset] [(.int (1 : Int32))]))
      refine OwnFin.st (fun _ q => XS.ifNo X17.here hx rfl (hb hby at_50) rfl (Jvm.Free.XT.i0_eq_f (by decide : ¬ ((1 : Int32) = (0 : Int32)))) q) ?_
      show OwnFin _ _ _ _ (T17.setTop (mkF m 53 #[.val (.int p0), .val (.int p1), .val (.int ((p0 &&& (2147483647 : Int32)) % (3 : Int32))), .val (.int (1 : Int32)), .val (.ref w_NONE), .unset, .unset, .unset, .unset, .unset, .unset, .unset] []))
      refine OwnFin.st (fun _ q => XS.iconst X17.here hx rfl (hb hby at_53) q) ?_
      show OwnFin _ _ _ _ (T17.setTop (mkF m 54 #[.val (.int p0), .val (.int p1), .val (.int ((p0 &&& (2147483647 : Int32)) % (3 : Int32))), .val (.int (1 : Int32)), .val (.ref w_NONE), .unset, .unset, .unset, .unset, .unset, .unset, .unset] [(.int (1 : Int32))]))
      refine OwnFin.st (fun _ q => XS.goto X17.here hx rfl (pc0 := 54) (pc' := 58) rfl (hb hby at_54) (by decide) (by decide) q) ?_
      show OwnFin _ _ _ _ (T17.setTop (mkF m 58 #[.val (.int p0), .val (.int p1), .val (.int ((p0 &&& (2147483647 : Int32)) % (3 : Int32))), .val (.int (1 : Int32)), .val (.ref w_NONE), .unset, .unset, .unset, .unset, .unset, .unset, .unset] [(.int (1 : Int32))]))
      refine OwnFin.st (fun _ q => XS.istore X17.here hx rfl (hb hby at_58) rfl (l' := #[.val (.int p0), .val (.int p1), .val (.int ((p0 &&& (2147483647 : Int32)) % (3 : Int32))), .val (.int (1 : Int32)), .val (.ref w_NONE), .val (.int (1 : Int32)), .unset, .unset, .unset, .unset, .unset, .unset]) rfl q) ?_
      show OwnFin _ _ _ _ (T17.setTop (mkF m 60 #[.val (.int p0), .val (.int p1), .val (.int ((p0 &&& (2147483647 : Int32)) % (3 : Int32))), .val (.int (1 : Int32)), .val (.ref w_NONE), .val (.int (1 : Int32)), .unset, .unset, .unset, .unset, .unset, .unset] []))
      refine OwnFin.st (fun _ q => XS.iloadN X17.here hx rfl (hb hby at_60) rfl q) ?_
      show OwnFin _ _ _ _ (T17.setTop (mkF m 61 #[.val (.int p0), .val (.int p1), .val (.int ((p0 &&& (2147483647 : Int32)) % (3 : Int32))), .val (.int (1 : Int32)), .val (.ref w_NONE), .val (.int (1 : Int32)), .unset, .unset, .unset, .unset, .unset, .unset] [(.int ((p0 &&& (2147483647 : Int32)) % (3 : Int32)))]))
      refine OwnFin.st (fun _ q => XS.iload X17.here hx rfl (hb hby at_61) rfl q) ?_
      show OwnFin _ _ _ _ (T17.setTop (mkF m 63 #[.val (.int p0), .val (.int p1), .val (.int ((p0 &&& (2147483647 : Int32)) % (3 : Int32))), .val (.int (1 : Int32)), .val (.ref w_NONE), .val (.int (1 : Int32)), .unset, .unset, .unset, .unset, .unset, .unset] [(.int (1 : Int32)), (.int ((p0 &&& (2147483647 : Int32)) % (3 : Int32)))]))
      refine OwnFin.st (fun _ q => XS.iadd X17.here hx rfl (hb hby at_63) rfl q) ?_
      show OwnFin _ _ _ _ (T17.setTop (mkF m 64 #[.val (.int p0), .val (.int p1), .val (.int ((p0 &&& (2147483647 : Int32)) % (3 : Int32))), .val (.int (1 : Int32)), .val (.ref w_NONE), .val (.int (1 : Int32)), .unset, .unset, .unset, .unset, .unset, .unset] [(.int (((p0 &&& (2147483647 : Int32)) % (3 : Int32)) + (1 : Int32)))]))
      refine OwnFin.st (fun _ q => XS.iconst X17.here hx rfl (hb hby at_64) q) ?_
      show OwnFin _ _ _ _ (T17.setTop (mkF m 65 #[.val (.int p0), .val (.int p1), .val (.int ((p0 &&& (2147483647 : Int32)) % (3 : Int32))), .val (.int (1 : Int32)), .val (.ref w_NONE), .val (.int (1 : Int32)), .unset, .unset, .unset, .unset, .unset, .unset] [(.int (2 : Int32)), (.int (((p0 &&& (2147483647 : Int32)) % (3 : Int32)) + (1 : Int32)))]))
      have hd18 : (((p0 &&& (2147483647 : Int32)) % (3 : Int32)) + (1 : Int32)) < (2 : Int32) := by
        have om1 := rng32 (p1 &&& (1 : Int32))
        have om2 := c_mask p1 (1 : Int32) 1 (by decide) (by decide)
        have om3 := rng32 p1
        have om4 := rng32 (1 : Int32)
        have om4l : (1 : Int32).toInt = 1 := by decide
        have om5 := rng32 (0 : Int32)
        have om5l : (0 : Int32).toInt = 0 := by decide
        have om6 := rng32 ((p0 &&& (2147483647 : Int32)) % (3 : Int32))
        have om7 := c_irem (p0 &&& (2147483647 : Int32)) (3 : Int32) 3 (by decide)
        have om8 := rng32 (p0 &&& (2147483647 : Int32))
        have om9 := c_mask p0 (2147483647 : Int32) 31 (by decide) (by decide)
        have om10 := rng32 p0
        have om11 := rng32 (2147483647 : Int32)
        have om11l : (2147483647 : Int32).toInt = 2147483647 := by decide
        have om12 := rng32 (3 : Int32)
        have om12l : (3 : Int32).toInt = 3 := by decide
        have om13 := rng32 (((p0 &&& (2147483647 : Int32)) % (3 : Int32)) + (1 : Int32))
        have om14 := c_iadd ((p0 &&& (2147483647 : Int32)) % (3 : Int32)) (1 : Int32)
        have om15 := rng32 (2 : Int32)
        have om15l : (2 : Int32).toInt = 2 := by decide
        have ow0 := hc1
        rw [← Int32.toInt_inj] at ow0
        have ow1 := hc16
        rw [← Int32.toInt_inj] at ow1
        rw [Int32.lt_iff_toInt_lt]
        omega
      refine OwnFin.st (fun _ q => XS.icmpNo X17.here hx rfl (hb hby at_65) rfl (Jvm.Free.XT.ii_ge_f hd18) q) ?_
      show OwnFin _ _ _ _ (T17.setTop (mkF m 68 #[.val (.int p0), .val (.int p1), .val (.int ((p0 &&& (2147483647 : Int32)) % (3 : Int32))), .val (.int (1 : Int32)), .val (.ref w_NONE), .val (.int (1 : Int32)), .unset, .unset, .unset, .unset, .unset, .unset] []))
      refine OwnFin.st (fun _ q => XS.iconst X17.here hx rfl (hb hby at_68) q) ?_
      show OwnFin _ _ _ _ (T17.setTop (mkF m 69 #[.val (.int p0), .val (.int p1), .val (.int ((p0 &&& (2147483647 : Int32)) % (3 : Int32))), .val (.int (1 : Int32)), .val (.ref w_NONE), .val (.int (1 : Int32)), .unset, .unset, .unset, .unset, .unset, .unset] [(.int (1 : Int32))]))
      refine OwnFin.st (fun _ q => XS.goto X17.here hx rfl (pc0 := 69) (pc' := 73) rfl (hb hby at_69) (by decide) (by decide) q) ?_
      show OwnFin _ _ _ _ (T17.setTop (mkF m 73 #[.val (.int p0), .val (.int p1), .val (.int ((p0 &&& (2147483647 : Int32)) % (3 : Int32))), .val (.int (1 : Int32)), .val (.ref w_NONE), .val (.int (1 : Int32)), .unset, .unset, .unset, .unset, .unset, .unset] [(.int (1 : Int32))]))
      refine OwnFin.st (fun _ q => XS.istore X17.here hx rfl (hb hby at_73) rfl (l' := #[.val (.int p0), .val (.int p1), .val (.int ((p0 &&& (2147483647 : Int32)) % (3 : Int32))), .val (.int (1 : Int32)), .val (.ref w_NONE), .val (.int (1 : Int32)), .val (.int (1 : Int32)), .unset, .unset, .unset, .unset, .unset]) rfl q) ?_
      show OwnFin _ _ _ _ (T17.setTop (mkF m 75 #[.val (.int p0), .val (.int p1), .val (.int ((p0 &&& (2147483647 : Int32)) % (3 : Int32))), .val (.int (1 : Int32)), .val (.ref w_NONE), .val (.int (1 : Int32)), .val (.int (1 : Int32)), .unset, .unset, .unset, .unset, .unset] []))
      refine OwnFin.st (fun _ q => XS.aload X17.here hx rfl (hb hby at_75) rfl rfl q) ?_
      show OwnFin _ _ _ _ (T17.setTop (mkF m 77 #[.val (.int p0), .val (.int p1), .val (.int ((p0 &&& (2147483647 : Int32)) % (3 : Int32))), .val (.int (1 : Int32)), .val (.ref w_NONE), .val (.int (1 : Int32)), .val (.int (1 : Int32)), .unset, .unset, .unset, .unset, .unset] [(.ref w_NONE)]))
      refine OwnFin.st (fun _ q => XS.iloadN X17.here hx rfl (hb hby at_77) rfl q) ?_
      show OwnFin _ _ _ _ (T17.setTop (mkF m 78 #[.val (.int p0), .val (.int p1), .val (.int ((p0 &&& (2147483647 : Int32)) % (3 : Int32))), .val (.int (1 : Int32)), .val (.ref w_NONE), .val (.int (1 : Int32)), .val (.int (1 : Int32)), .unset, .unset, .unset, .unset, .unset] [(.int (1 : Int32)), (.ref w_NONE)]))
      obtain ⟨cq19, kq19, q19a, q19b, q19c⟩ := isOf hZ e17 (X_w_NONE.ext Ol0.2)
      obtain ⟨_, _, ⟨T19, L19, k19, n19⟩, -, X19, ⟨Lc19, hQ19, l19, y19, z19⟩, st19⟩ := X17.virtualBack hx (y := (⟨"com/example/neat_order/neatorder/core/graph/ProcessNeed", "allowsNewProcess", "(Z)Z"⟩ : MethodName)) (z := (⟨"com/example/neat_order/neatorder/core/graph/ProcessNeed", "allowsNewProcess", "(Z)Z"⟩ : MethodName)) hown (mvT hZ (hw _ (List.mem_of_getElem? (i := 4) rfl))) (mvT hZ (hw _ (List.mem_of_getElem? (i := 5) rfl))) (notFace_of_selects (args := #[]) (mvT hZ (hw _ (List.mem_of_getElem? (i := 7) rfl)))) (mvT hZ (hw _ (List.mem_of_getElem? (i := 7) rfl))) (mvT hZ (hw _ (List.mem_of_getElem? (i := 6) rfl))) (by decide) (backOf (W := 0) (rm1_0 l Z av0 hw [] w_NONE (1 : Int32) h0 n0 (Nat.le_trans Z0 kp0.1) (X_w_NONE.ext Ol0.2) (F_ordinal_w_NONE.ext Ol0.2)) hZ (hw _ (List.mem_of_getElem? (i := 8) rfl)) (hw _ (List.mem_of_getElem? (i := 2) rfl)) (by decide) (by decide)) q19a q19c (g := (mkF m 78 #[.val (.int p0), .val (.int p1), .val (.int ((p0 &&& (2147483647 : Int32)) % (3 : Int32))), .val (.int (1 : Int32)), .val (.ref w_NONE), .val (.int (1 : Int32)), .val (.int (1 : Int32)), .unset, .unset, .unset, .unset, .unset] [(.int (1 : Int32)), (.ref w_NONE)])) rfl (by rw [hml]; rfl) (Steps.refl _) (argsL := [(.int (1 : Int32))]) (rest := []) (lenOf pd_1 rfl) rfl (by show 2 * 0 + _ ≤ _; exact Nat.le_of_eq rfl) (hb hby at_78) (fun _ _ => ⟨rfl, e17, (by decide : 0 + 0 ≤ _), (by decide : 0 + 0 ≤ _)⟩)
      dsimp only [Pt.U, Pt.locs, Pt.cells, Pt.slots] at X19 l19 y19 z19 st19 hQ19
      subst l19 y19 z19
      obtain ⟨rfl, N19q, he19⟩ := hQ19
      have N19 := Fr.app N0 N19q
      refine OwnFin.tr st19 ?_
      show OwnFin _ _ _ _ (T19.setTop (mkF m 81 #[.val (.int p0), .val (.int p1), .val (.int ((p0 &&& (2147483647 : Int32)) % (3 : Int32))), .val (.int (1 : Int32)), .val (.ref w_NONE), .val (.int (1 : Int32)), .val (.int (1 : Int32)), .unset, .unset, .unset, .unset, .unset] [(.int (1 : Int32))]))
      refine OwnFin.st (fun _ q => XS.istore X19.here hx rfl (hb hby at_81) rfl (l' := #[.val (.int p0), .val (.int p1), .val (.int ((p0 &&& (2147483647 : Int32)) % (3 : Int32))), .val (.int (1 : Int32)), .val (.ref w_NONE), .val (.int (1 : Int32)), .val (.int (1 : Int32)), .val (.int (1 : Int32)), .unset, .unset, .unset, .unset]) rfl q) ?_
      show OwnFin _ _ _ _ (T19.setTop (mkF m 83 #[.val (.int p0), .val (.int p1), .val (.int ((p0 &&& (2147483647 : Int32)) % (3 : Int32))), .val (.int (1 : Int32)), .val (.ref w_NONE), .val (.int (1 : Int32)), .val (.int (1 : Int32)), .val (.int (1 : Int32)), .unset, .unset, .unset, .unset] []))
      refine OwnFin.st (fun _ q => XS.aload X19.here hx rfl (hb hby at_83) rfl rfl q) ?_
      show OwnFin _ _ _ _ (T19.setTop (mkF m 85 #[.val (.int p0), .val (.int p1), .val (.int ((p0 &&& (2147483647 : Int32)) % (3 : Int32))), .val (.int (1 : Int32)), .val (.ref w_NONE), .val (.int (1 : Int32)), .val (.int (1 : Int32)), .val (.int (1 : Int32)), .unset, .unset, .unset, .unset] [(.ref w_NONE)]))
      refine OwnFin.st (fun _ q => XS.iloadN X19.here hx rfl (hb hby at_85) rfl q) ?_
      show OwnFin _ _ _ _ (T19.setTop (mkF m 86 #[.val (.int p0), .val (.int p1), .val (.int ((p0 &&& (2147483647 : Int32)) % (3 : Int32))), .val (.int (1 : Int32)), .val (.ref w_NONE), .val (.int (1 : Int32)), .val (.int (1 : Int32)), .val (.int (1 : Int32)), .unset, .unset, .unset, .unset] [(.int (1 : Int32)), (.ref w_NONE)]))
      refine OwnFin.st (fun _ q => XS.ifYes X19.here hx rfl (pc0 := 86) (pc' := 93) rfl (hb hby at_86) rfl (Jvm.Free.XT.i0_ne_t (by decide : ¬ ((1 : Int32) = (0 : Int32)))) (by decide) (by decide) q) ?_
      show OwnFin _ _ _ _ (T19.setTop (mkF m 93 #[.val (.int p0), .val (.int p1), .val (.int ((p0 &&& (2147483647 : Int32)) % (3 : Int32))), .val (.int (1 : Int32)), .val (.ref w_NONE), .val (.int (1 : Int32)), .val (.int (1 : Int32)), .val (.int (1 : Int32)), .unset, .unset, .unset, .unset] [(.ref w_NONE)]))
      refine OwnFin.st (fun _ q => XS.iconst X19.here hx rfl (hb hby at_93) q) ?_
      show OwnFin _ _ _ _ (T19.setTop (mkF m 94 #[.val (.int p0), .val (.int p1), .val (.int ((p0 &&& (2147483647 : Int32)) % (3 : Int32))), .val (.int (1 : Int32)), .val (.ref w_NONE), .val (.int (1 : Int32)), .val (.int (1 : Int32)), .val (.int (1 : Int32)), .unset, .unset, .unset, .unset] [(.int (0 : Int32)), (.ref w_NONE)]))
      obtain ⟨cq20, kq20, q20a, q20b, q20c⟩ := isOf hZ he19 (X_w_NONE.ext Ol0.2)
      obtain ⟨_, _, ⟨T20, L20, k20, n20⟩, -, X20, ⟨Lc20, hQ20, l20, y20, z20⟩, st20⟩ := X19.virtualBack hx (y := (⟨"com/example/neat_order/neatorder/core/graph/ProcessNeed", "allowsNewProcess", "(Z)Z"⟩ : MethodName)) (z := (⟨"com/example/neat_order/neatorder/core/graph/ProcessNeed", "allowsNewProcess", "(Z)Z"⟩ : MethodName)) hown (mvT hZ (hw _ (List.mem_of_getElem? (i := 4) rfl))) (mvT hZ (hw _ (List.mem_of_getElem? (i := 5) rfl))) (notFace_of_selects (args := #[]) (mvT hZ (hw _ (List.mem_of_getElem? (i := 7) rfl)))) (mvT hZ (hw _ (List.mem_of_getElem? (i := 7) rfl))) (mvT hZ (hw _ (List.mem_of_getElem? (i := 6) rfl))) (by decide) (backOf (W := 0) (rm1_0 l Z av0 hw [] w_NONE (0 : Int32) h0 n0 (Nat.le_trans Z0 kp0.1) (X_w_NONE.ext Ol0.2) (F_ordinal_w_NONE.ext Ol0.2)) hZ (hw _ (List.mem_of_getElem? (i := 8) rfl)) (hw _ (List.mem_of_getElem? (i := 2) rfl)) (by decide) (by decide)) q20a q20c (g := (mkF m 94 #[.val (.int p0), .val (.int p1), .val (.int ((p0 &&& (2147483647 : Int32)) % (3 : Int32))), .val (.int (1 : Int32)), .val (.ref w_NONE), .val (.int (1 : Int32)), .val (.int (1 : Int32)), .val (.int (1 : Int32)), .unset, .unset, .unset, .unset] [(.int (0 : Int32)), (.ref w_NONE)])) rfl (by rw [hml]; rfl) (Steps.refl _) (argsL := [(.int (0 : Int32))]) (rest := []) (lenOf pd_1 rfl) rfl (by show 2 * 0 + _ ≤ _; exact Nat.le_of_eq rfl) (hb hby at_94) (fun _ _ => ⟨rfl, he19, (by decide : 0 + 0 ≤ _), (by decide : 0 + 0 ≤ _)⟩)
      dsimp only [Pt.U, Pt.locs, Pt.cells, Pt.slots] at X20 l20 y20 z20 st20 hQ20
      subst l20 y20 z20
      obtain ⟨rfl, N20q, he20⟩ := hQ20
      have N20 := Fr.app N19 N20q
      refine OwnFin.tr st20 ?_
      show OwnFin _ _ _ _ (T20.setTop (mkF m 97 #[.val (.int p0), .val (.int p1), .val (.int ((p0 &&& (2147483647 : Int32)) % (3 : Int32))), .val (.int (1 : Int32)), .val (.ref w_NONE), .val (.int (1 : Int32)), .val (.int (1 : Int32)), .val (.int (1 : Int32)), .unset, .unset, .unset, .unset] [(.int (1 : Int32))]))
      refine OwnFin.st (fun _ q => XS.istore X20.here hx rfl (hb hby at_97) rfl (l' := #[.val (.int p0), .val (.int p1), .val (.int ((p0 &&& (2147483647 : Int32)) % (3 : Int32))), .val (.int (1 : Int32)), .val (.ref w_NONE), .val (.int (1 : Int32)), .val (.int (1 : Int32)), .val (.int (1 : Int32)), .val (.int (1 : Int32)), .unset, .unset, .unset]) rfl q) ?_
      show OwnFin _ _ _ _ (T20.setTop (mkF m 99 #[.val (.int p0), .val (.int p1), .val (.int ((p0 &&& (2147483647 : Int32)) % (3 : Int32))), .val (.int (1 : Int32)), .val (.ref w_NONE), .val (.int (1 : Int32)), .val (.int (1 : Int32)), .val (.int (1 : Int32)), .val (.int (1 : Int32)), .unset, .unset, .unset] []))
      refine OwnFin.st (fun _ q => XS.iloadN X20.here hx rfl (hb hby at_99) rfl q) ?_
      show OwnFin _ _ _ _ (T20.setTop (mkF m 100 #[.val (.int p0), .val (.int p1), .val (.int ((p0 &&& (2147483647 : Int32)) % (3 : Int32))), .val (.int (1 : Int32)), .val (.ref w_NONE), .val (.int (1 : Int32)), .val (.int (1 : Int32)), .val (.int (1 : Int32)), .val (.int (1 : Int32)), .unset, .unset, .unset] [(.int (1 : Int32))]))
      refine OwnFin.st (fun _ q => XS.ifNo X20.here hx rfl (hb hby at_100) rfl (Jvm.Free.XT.i0_eq_f (by decide : ¬ ((1 : Int32) = (0 : Int32)))) q) ?_
      show OwnFin _ _ _ _ (T20.setTop (mkF m 103 #[.val (.int p0), .val (.int p1), .val (.int ((p0 &&& (2147483647 : Int32)) % (3 : Int32))), .val (.int (1 : Int32)), .val (.ref w_NONE), .val (.int (1 : Int32)), .val (.int (1 : Int32)), .val (.int (1 : Int32)), .val (.int (1 : Int32)), .unset, .unset, .unset] []))
      refine OwnFin.st (fun _ q => XS.iload X20.here hx rfl (hb hby at_103) rfl q) ?_
      show OwnFin _ _ _ _ (T20.setTop (mkF m 105 #[.val (.int p0), .val (.int p1), .val (.int ((p0 &&& (2147483647 : Int32)) % (3 : Int32))), .val (.int (1 : Int32)), .val (.ref w_NONE), .val (.int (1 : Int32)), .val (.int (1 : Int32)), .val (.int (1 : Int32)), .val (.int (1 : Int32)), .unset, .unset, .unset] [(.int (1 : Int32))]))
      refine OwnFin.st (fun _ q => XS.goto X20.here hx rfl (pc0 := 105) (pc' := 110) rfl (hb hby at_105) (by decide) (by decide) q) ?_
      show OwnFin _ _ _ _ (T20.setTop (mkF m 110 #[.val (.int p0), .val (.int p1), .val (.int ((p0 &&& (2147483647 : Int32)) % (3 : Int32))), .val (.int (1 : Int32)), .val (.ref w_NONE), .val (.int (1 : Int32)), .val (.int (1 : Int32)), .val (.int (1 : Int32)), .val (.int (1 : Int32)), .unset, .unset, .unset] [(.int (1 : Int32))]))
      refine OwnFin.st (fun _ q => XS.istore X20.here hx rfl (hb hby at_110) rfl (l' := #[.val (.int p0), .val (.int p1), .val (.int ((p0 &&& (2147483647 : Int32)) % (3 : Int32))), .val (.int (1 : Int32)), .val (.ref w_NONE), .val (.int (1 : Int32)), .val (.int (1 : Int32)), .val (.int (1 : Int32)), .val (.int (1 : Int32)), .val (.int (1 : Int32)), .unset, .unset]) rfl q) ?_
      show OwnFin _ _ _ _ (T20.setTop (mkF m 112 #[.val (.int p0), .val (.int p1), .val (.int ((p0 &&& (2147483647 : Int32)) % (3 : Int32))), .val (.int (1 : Int32)), .val (.ref w_NONE), .val (.int (1 : Int32)), .val (.int (1 : Int32)), .val (.int (1 : Int32)), .val (.int (1 : Int32)), .val (.int (1 : Int32)), .unset, .unset] []))
      refine OwnFin.st (fun _ q => XS.iloadN X20.here hx rfl (hb hby at_112) rfl q) ?_
      show OwnFin _ _ _ _ (T20.setTop (mkF m 113 #[.val (.int p0), .val (.int p1), .val (.int ((p0 &&& (2147483647 : Int32)) % (3 : Int32))), .val (.int (1 : Int32)), .val (.ref w_NONE), .val (.int (1 : Int32)), .val (.int (1 : Int32)), .val (.int (1 : Int32)), .val (.int (1 : Int32)), .val (.int (1 : Int32)), .unset, .unset] [(.int (1 : Int32))]))
      refine OwnFin.st (fun _ q => XS.ifNo X20.here hx rfl (hb hby at_113) rfl (Jvm.Free.XT.i0_eq_f (by decide : ¬ ((1 : Int32) = (0 : Int32)))) q) ?_
      show OwnFin _ _ _ _ (T20.setTop (mkF m 116 #[.val (.int p0), .val (.int p1), .val (.int ((p0 &&& (2147483647 : Int32)) % (3 : Int32))), .val (.int (1 : Int32)), .val (.ref w_NONE), .val (.int (1 : Int32)), .val (.int (1 : Int32)), .val (.int (1 : Int32)), .val (.int (1 : Int32)), .val (.int (1 : Int32)), .unset, .unset] []))
      refine OwnFin.st (fun _ q => XS.iload X20.here hx rfl (hb hby at_116) rfl q) ?_
      show OwnFin _ _ _ _ (T20.setTop (mkF m 118 #[.val (.int p0), .val (.int p1), .val (.int ((p0 &&& (2147483647 : Int32)) % (3 : Int32))), .val (.int (1 : Int32)), .val (.ref w_NONE), .val (.int (1 : Int32)), .val (.int (1 : Int32)), .val (.int (1 : Int32)), .val (.int (1 : Int32)), .val (.int (1 : Int32)), .unset, .unset] [(.int (1 : Int32))]))
      refine OwnFin.st (fun _ q => XS.goto X20.here hx rfl (pc0 := 118) (pc' := 123) rfl (hb hby at_118) (by decide) (by decide) q) ?_
      show OwnFin _ _ _ _ (T20.setTop (mkF m 123 #[.val (.int p0), .val (.int p1), .val (.int ((p0 &&& (2147483647 : Int32)) % (3 : Int32))), .val (.int (1 : Int32)), .val (.ref w_NONE), .val (.int (1 : Int32)), .val (.int (1 : Int32)), .val (.int (1 : Int32)), .val (.int (1 : Int32)), .val (.int (1 : Int32)), .unset, .unset] [(.int (1 : Int32))]))
      refine OwnFin.st (fun _ q => XS.istore X20.here hx rfl (hb hby at_123) rfl (l' := #[.val (.int p0), .val (.int p1), .val (.int ((p0 &&& (2147483647 : Int32)) % (3 : Int32))), .val (.int (1 : Int32)), .val (.ref w_NONE), .val (.int (1 : Int32)), .val (.int (1 : Int32)), .val (.int (1 : Int32)), .val (.int (1 : Int32)), .val (.int (1 : Int32)), .val (.int (1 : Int32)), .unset]) rfl q) ?_
      show OwnFin _ _ _ _ (T20.setTop (mkF m 125 #[.val (.int p0), .val (.int p1), .val (.int ((p0 &&& (2147483647 : Int32)) % (3 : Int32))), .val (.int (1 : Int32)), .val (.ref w_NONE), .val (.int (1 : Int32)), .val (.int (1 : Int32)), .val (.int (1 : Int32)), .val (.int (1 : Int32)), .val (.int (1 : Int32)), .val (.int (1 : Int32)), .unset] []))
      refine OwnFin.st (fun _ q => XS.iload X20.here hx rfl (hb hby at_125) rfl q) ?_
      show OwnFin _ _ _ _ (T20.setTop (mkF m 127 #[.val (.int p0), .val (.int p1), .val (.int ((p0 &&& (2147483647 : Int32)) % (3 : Int32))), .val (.int (1 : Int32)), .val (.ref w_NONE), .val (.int (1 : Int32)), .val (.int (1 : Int32)), .val (.int (1 : Int32)), .val (.int (1 : Int32)), .val (.int (1 : Int32)), .val (.int (1 : Int32)), .unset] [(.int (1 : Int32))]))
      refine OwnFin.st (fun _ q => XS.ifNo X20.here hx rfl (hb hby at_127) rfl (Jvm.Free.XT.i0_eq_f (by decide : ¬ ((1 : Int32) = (0 : Int32)))) q) ?_
      show OwnFin _ _ _ _ (T20.setTop (mkF m 130 #[.val (.int p0), .val (.int p1), .val (.int ((p0 &&& (2147483647 : Int32)) % (3 : Int32))), .val (.int (1 : Int32)), .val (.ref w_NONE), .val (.int (1 : Int32)), .val (.int (1 : Int32)), .val (.int (1 : Int32)), .val (.int (1 : Int32)), .val (.int (1 : Int32)), .val (.int (1 : Int32)), .unset] []))
      refine OwnFin.st (fun _ q => XS.iload X20.here hx rfl (hb hby at_130) rfl q) ?_
      show OwnFin _ _ _ _ (T20.setTop (mkF m 132 #[.val (.int p0), .val (.int p1), .val (.int ((p0 &&& (2147483647 : Int32)) % (3 : Int32))), .val (.int (1 : Int32)), .val (.ref w_NONE), .val (.int (1 : Int32)), .val (.int (1 : Int32)), .val (.int (1 : Int32)), .val (.int (1 : Int32)), .val (.int (1 : Int32)), .val (.int (1 : Int32)), .unset] [(.int (1 : Int32))]))
      refine OwnFin.st (fun _ q => XS.ifNo X20.here hx rfl (hb hby at_132) rfl (Jvm.Free.XT.i0_eq_f (by decide : ¬ ((1 : Int32) = (0 : Int32)))) q) ?_
      show OwnFin _ _ _ _ (T20.setTop (mkF m 135 #[.val (.int p0), .val (.int p1), .val (.int ((p0 &&& (2147483647 : Int32)) % (3 : Int32))), .val (.int (1 : Int32)), .val (.ref w_NONE), .val (.int (1 : Int32)), .val (.int (1 : Int32)), .val (.int (1 : Int32)), .val (.int (1 : Int32)), .val (.int (1 : Int32)), .val (.int (1 : Int32)), .unset] []))
      refine OwnFin.st (fun _ q => XS.iconst X20.here hx rfl (hb hby at_135) q) ?_
      show OwnFin _ _ _ _ (T20.setTop (mkF m 136 #[.val (.int p0), .val (.int p1), .val (.int ((p0 &&& (2147483647 : Int32)) % (3 : Int32))), .val (.int (1 : Int32)), .val (.ref w_NONE), .val (.int (1 : Int32)), .val (.int (1 : Int32)), .val (.int (1 : Int32)), .val (.int (1 : Int32)), .val (.int (1 : Int32)), .val (.int (1 : Int32)), .unset] [(.int (1 : Int32))]))
      refine OwnFin.st (fun _ q => XS.goto X20.here hx rfl (pc0 := 136) (pc' := 140) rfl (hb hby at_136) (by decide) (by decide) q) ?_
      show OwnFin _ _ _ _ (T20.setTop (mkF m 140 #[.val (.int p0), .val (.int p1), .val (.int ((p0 &&& (2147483647 : Int32)) % (3 : Int32))), .val (.int (1 : Int32)), .val (.ref w_NONE), .val (.int (1 : Int32)), .val (.int (1 : Int32)), .val (.int (1 : Int32)), .val (.int (1 : Int32)), .val (.int (1 : Int32)), .val (.int (1 : Int32)), .unset] [(.int (1 : Int32))]))
      refine OwnFin.st (fun _ q => XS.istore X20.here hx rfl (hb hby at_140) rfl (l' := #[.val (.int p0), .val (.int p1), .val (.int ((p0 &&& (2147483647 : Int32)) % (3 : Int32))), .val (.int (1 : Int32)), .val (.ref w_NONE), .val (.int (1 : Int32)), .val (.int (1 : Int32)), .val (.int (1 : Int32)), .val (.int (1 : Int32)), .val (.int (1 : Int32)), .val (.int (1 : Int32)), .val (.int (1 : Int32))]) rfl q) ?_
      show OwnFin _ _ _ _ (T20.setTop (mkF m 142 #[.val (.int p0), .val (.int p1), .val (.int ((p0 &&& (2147483647 : Int32)) % (3 : Int32))), .val (.int (1 : Int32)), .val (.ref w_NONE), .val (.int (1 : Int32)), .val (.int (1 : Int32)), .val (.int (1 : Int32)), .val (.int (1 : Int32)), .val (.int (1 : Int32)), .val (.int (1 : Int32)), .val (.int (1 : Int32))] []))
      refine OwnFin.st (fun _ q => XS.iload X20.here hx rfl (hb hby at_142) rfl q) ?_
      show OwnFin _ _ _ _ (T20.setTop (mkF m 144 #[.val (.int p0), .val (.int p1), .val (.int ((p0 &&& (2147483647 : Int32)) % (3 : Int32))), .val (.int (1 : Int32)), .val (.ref w_NONE), .val (.int (1 : Int32)), .val (.int (1 : Int32)), .val (.int (1 : Int32)), .val (.int (1 : Int32)), .val (.int (1 : Int32)), .val (.int (1 : Int32)), .val (.int (1 : Int32))] [(.int (1 : Int32))]))
      refine OwnFin.st (fun _ q => XS.iload X20.here hx rfl (hb hby at_144) rfl q) ?_
      show OwnFin _ _ _ _ (T20.setTop (mkF m 146 #[.val (.int p0), .val (.int p1), .val (.int ((p0 &&& (2147483647 : Int32)) % (3 : Int32))), .val (.int (1 : Int32)), .val (.ref w_NONE), .val (.int (1 : Int32)), .val (.int (1 : Int32)), .val (.int (1 : Int32)), .val (.int (1 : Int32)), .val (.int (1 : Int32)), .val (.int (1 : Int32)), .val (.int (1 : Int32))] [(.int (1 : Int32)), (.int (1 : Int32))]))
      refine OwnFin.st (fun _ q => XS.icmpNo X20.here hx rfl (hb hby at_146) rfl (Jvm.Free.XT.ii_ne_f (rfl : (1 : Int32) = (1 : Int32))) q) ?_
      show OwnFin _ _ _ _ (T20.setTop (mkF m 149 #[.val (.int p0), .val (.int p1), .val (.int ((p0 &&& (2147483647 : Int32)) % (3 : Int32))), .val (.int (1 : Int32)), .val (.ref w_NONE), .val (.int (1 : Int32)), .val (.int (1 : Int32)), .val (.int (1 : Int32)), .val (.int (1 : Int32)), .val (.int (1 : Int32)), .val (.int (1 : Int32)), .val (.int (1 : Int32))] []))
      refine OwnFin.st (fun _ q => XS.iload X20.here hx rfl (hb hby at_149) rfl q) ?_
      show OwnFin _ _ _ _ (T20.setTop (mkF m 151 #[.val (.int p0), .val (.int p1), .val (.int ((p0 &&& (2147483647 : Int32)) % (3 : Int32))), .val (.int (1 : Int32)), .val (.ref w_NONE), .val (.int (1 : Int32)), .val (.int (1 : Int32)), .val (.int (1 : Int32)), .val (.int (1 : Int32)), .val (.int (1 : Int32)), .val (.int (1 : Int32)), .val (.int (1 : Int32))] [(.int (1 : Int32))]))
      refine OwnFin.st (fun _ q => XS.ifNo X20.here hx rfl (hb hby at_151) rfl (Jvm.Free.XT.i0_eq_f (by decide : ¬ ((1 : Int32) = (0 : Int32)))) q) ?_
      show OwnFin _ _ _ _ (T20.setTop (mkF m 154 #[.val (.int p0), .val (.int p1), .val (.int ((p0 &&& (2147483647 : Int32)) % (3 : Int32))), .val (.int (1 : Int32)), .val (.ref w_NONE), .val (.int (1 : Int32)), .val (.int (1 : Int32)), .val (.int (1 : Int32)), .val (.int (1 : Int32)), .val (.int (1 : Int32)), .val (.int (1 : Int32)), .val (.int (1 : Int32))] []))
      refine OwnFin.st (fun _ q => XS.iconst X20.here hx rfl (hb hby at_154) q) ?_
      show OwnFin _ _ _ _ (T20.setTop (mkF m 155 #[.val (.int p0), .val (.int p1), .val (.int ((p0 &&& (2147483647 : Int32)) % (3 : Int32))), .val (.int (1 : Int32)), .val (.ref w_NONE), .val (.int (1 : Int32)), .val (.int (1 : Int32)), .val (.int (1 : Int32)), .val (.int (1 : Int32)), .val (.int (1 : Int32)), .val (.int (1 : Int32)), .val (.int (1 : Int32))] [(.int (1 : Int32))]))
      refine OwnFin.st (fun _ q => XS.goto X20.here hx rfl (pc0 := 155) (pc' := 159) rfl (hb hby at_155) (by decide) (by decide) q) ?_
      show OwnFin _ _ _ _ (T20.setTop (mkF m 159 #[.val (.int p0), .val (.int p1), .val (.int ((p0 &&& (2147483647 : Int32)) % (3 : Int32))), .val (.int (1 : Int32)), .val (.ref w_NONE), .val (.int (1 : Int32)), .val (.int (1 : Int32)), .val (.int (1 : Int32)), .val (.int (1 : Int32)), .val (.int (1 : Int32)), .val (.int (1 : Int32)), .val (.int (1 : Int32))] [(.int (1 : Int32))]))
      obtain ⟨fs, hr, hrun, hended, hW, hsame⟩ := X20.leave (v := some (.int (1 : Int32))) (fun h => by rw [Bd.returns] at h; cases h)
      refine ⟨_, _, retN X20 hx (t := .boolean) Bd.returns (by simp) (hb hby at_159) hr, hrun, hended, _, _, rfl, ?_, ⟨_, rfl⟩, hW, hsame.mono (by decide) (by decide)⟩
      show Q_rm0 Z p0 p1 w_NONE w_ENDED w_SAME h0 n0 _ T20.heap _
      rw [he20]
      exact ⟨rfl, N20⟩
    · skip
      refine OwnFin.st (fun _ q => XS.ifYes X0.here hx rfl (pc0 := 20) (pc' := 31) rfl (hb hby at_20) rfl (Jvm.Free.XT.i0_ne_t hc16) (by decide) (by decide) q) ?_
      show OwnFin _ _ _ _ (s₁.setTop (mkF m 31 #[.val (.int p0), .val (.int p1), .val (.int ((p0 &&& (2147483647 : Int32)) % (3 : Int32))), .val (.int (1 : Int32)), .unset, .unset, .unset, .unset, .unset, .unset, .unset, .unset] []))
      refine OwnFin.st (fun _ q => XS.iloadN X0.here hx rfl (hb hby at_31) rfl q) ?_
      show OwnFin _ _ _ _ (s₁.setTop (mkF m 32 #[.val (.int p0), .val (.int p1), .val (.int ((p0 &&& (2147483647 : Int32)) % (3 : Int32))), .val (.int (1 : Int32)), .unset, .unset, .unset, .unset, .unset, .unset, .unset, .unset] [(.int ((p0 &&& (2147483647 : Int32)) % (3 : Int32)))]))
      refine OwnFin.st (fun _ q => XS.iconst X0.here hx rfl (hb hby at_32) q) ?_
      show OwnFin _ _ _ _ (s₁.setTop (mkF m 33 #[.val (.int p0), .val (.int p1), .val (.int ((p0 &&& (2147483647 : Int32)) % (3 : Int32))), .val (.int (1 : Int32)), .unset, .unset, .unset, .unset, .unset, .unset, .unset, .unset] [(.int (1 : Int32)), (.int ((p0 &&& (2147483647 : Int32)) % (3 : Int32)))]))
      by_cases hc21 : ((p0 &&& (2147483647 : Int32)) % (3 : Int32)) = (1 : Int32)
      · skip
        refine OwnFin.st (fun _ q => XS.icmpNo X0.here hx rfl (hb hby at_33) rfl (Jvm.Free.XT.ii_ne_f hc21) q) ?_
        show OwnFin _ _ _ _ (s₁.setTop (mkF m 36 #[.val (.int p0), .val (.int p1), .val (.int ((p0 &&& (2147483647 : Int32)) % (3 : Int32))), .val (.int (1 : Int32)), .unset, .unset, .unset, .unset, .unset, .unset, .unset, .unset] []))
        obtain ⟨T22, X22, e22, st22⟩ := getS2 X0 hx hZ hown (host := "") (Or.inl (hw _ (List.mem_of_getElem? (i := 20) rfl))) Via.refl e0 (S_ENDED.ext Ol0.2) (g := (mkF m 36 #[.val (.int p0), .val (.int p1), .val (.int ((p0 &&& (2147483647 : Int32)) % (3 : Int32))), .val (.int (1 : Int32)), .unset, .unset, .unset, .unset, .unset, .unset, .unset, .unset] [])) rfl (hb hby at_36)
        refine OwnFin.st st22 ?_
        show OwnFin _ _ _ _ (T22.setTop (mkF m 39 #[.val (.int p0), .val (.int p1), .val (.int ((p0 &&& (2147483647 : Int32)) % (3 : Int32))), .val (.int (1 : Int32)), .unset, .unset, .unset, .unset, .unset, .unset, .unset, .unset] [(.ref w_ENDED)]))
        refine OwnFin.st (fun _ q => XS.astore X22.here hx rfl (hb hby at_39) rfl rfl (l' := #[.val (.int p0), .val (.int p1), .val (.int ((p0 &&& (2147483647 : Int32)) % (3 : Int32))), .val (.int (1 : Int32)), .val (.ref w_ENDED), .unset, .unset, .unset, .unset, .unset, .unset, .unset]) rfl q) ?_
        show OwnFin _ _ _ _ (T22.setTop (mkF m 41 #[.val (.int p0), .val (.int p1), .val (.int ((p0 &&& (2147483647 : Int32)) % (3 : Int32))), .val (.int (1 : Int32)), .val (.ref w_ENDED), .unset, .unset, .unset, .unset, .unset, .unset, .unset] []))
        refine OwnFin.st (fun _ q => XS.goto X22.here hx rfl (pc0 := 41) (pc' := 49) rfl (hb hby at_41) (by decide) (by decide) q) ?_
        show OwnFin _ _ _ _ (T22.setTop (mkF m 49 #[.val (.int p0), .val (.int p1), .val (.int ((p0 &&& (2147483647 : Int32)) % (3 : Int32))), .val (.int (1 : Int32)), .val (.ref w_ENDED), .unset, .unset, .unset, .unset, .unset, .unset, .unset] []))
        refine OwnFin.st (fun _ q => XS.iloadN X22.here hx rfl (hb hby at_49) rfl q) ?_
        show OwnFin _ _ _ _ (T22.setTop (mkF m 50 #[.val (.int p0), .val (.int p1), .val (.int ((p0 &&& (2147483647 : Int32)) % (3 : Int32))), .val (.int (1 : Int32)), .val (.ref w_ENDED), .unset, .unset, .unset, .unset, .unset, .unset, .unset] [(.int (1 : Int32))]))
        refine OwnFin.st (fun _ q => XS.ifNo X22.here hx rfl (hb hby at_50) rfl (Jvm.Free.XT.i0_eq_f (by decide : ¬ ((1 : Int32) = (0 : Int32)))) q) ?_
        show OwnFin _ _ _ _ (T22.setTop (mkF m 53 #[.val (.int p0), .val (.int p1), .val (.int ((p0 &&& (2147483647 : Int32)) % (3 : Int32))), .val (.int (1 : Int32)), .val (.ref w_ENDED), .unset, .unset, .unset, .unset, .unset, .unset, .unset] []))
        refine OwnFin.st (fun _ q => XS.iconst X22.here hx rfl (hb hby at_53) q) ?_
        show OwnFin _ _ _ _ (T22.setTop (mkF m 54 #[.val (.int p0), .val (.int p1), .val (.int ((p0 &&& (2147483647 : Int32)) % (3 : Int32))), .val (.int (1 : Int32)), .val (.ref w_ENDED), .unset, .unset, .unset, .unset, .unset, .unset, .unset] [(.int (1 : Int32))]))
        refine OwnFin.st (fun _ q => XS.goto X22.here hx rfl (pc0 := 54) (pc' := 58) rfl (hb hby at_54) (by decide) (by decide) q) ?_
        show OwnFin _ _ _ _ (T22.setTop (mkF m 58 #[.val (.int p0), .val (.int p1), .val (.int ((p0 &&& (2147483647 : Int32)) % (3 : Int32))), .val (.int (1 : Int32)), .val (.ref w_ENDED), .unset, .unset, .unset, .unset, .unset, .unset, .unset] [(.int (1 : Int32))]))
        refine OwnFin.st (fun _ q => XS.istore X22.here hx rfl (hb hby at_58) rfl (l' := #[.val (.int p0), .val (.int p1), .val (.int ((p0 &&& (2147483647 : Int32)) % (3 : Int32))), .val (.int (1 : Int32)), .val (.ref w_ENDED), .val (.int (1 : Int32)), .unset, .unset, .unset, .unset, .unset, .unset]) rfl q) ?_
        show OwnFin _ _ _ _ (T22.setTop (mkF m 60 #[.val (.int p0), .val (.int p1), .val (.int ((p0 &&& (2147483647 : Int32)) % (3 : Int32))), .val (.int (1 : Int32)), .val (.ref w_ENDED), .val (.int (1 : Int32)), .unset, .unset, .unset, .unset, .unset, .unset] []))
        refine OwnFin.st (fun _ q => XS.iloadN X22.here hx rfl (hb hby at_60) rfl q) ?_
        show OwnFin _ _ _ _ (T22.setTop (mkF m 61 #[.val (.int p0), .val (.int p1), .val (.int ((p0 &&& (2147483647 : Int32)) % (3 : Int32))), .val (.int (1 : Int32)), .val (.ref w_ENDED), .val (.int (1 : Int32)), .unset, .unset, .unset, .unset, .unset, .unset] [(.int ((p0 &&& (2147483647 : Int32)) % (3 : Int32)))]))
        refine OwnFin.st (fun _ q => XS.iload X22.here hx rfl (hb hby at_61) rfl q) ?_
        show OwnFin _ _ _ _ (T22.setTop (mkF m 63 #[.val (.int p0), .val (.int p1), .val (.int ((p0 &&& (2147483647 : Int32)) % (3 : Int32))), .val (.int (1 : Int32)), .val (.ref w_ENDED), .val (.int (1 : Int32)), .unset, .unset, .unset, .unset, .unset, .unset] [(.int (1 : Int32)), (.int ((p0 &&& (2147483647 : Int32)) % (3 : Int32)))]))
        refine OwnFin.st (fun _ q => XS.iadd X22.here hx rfl (hb hby at_63) rfl q) ?_
        show OwnFin _ _ _ _ (T22.setTop (mkF m 64 #[.val (.int p0), .val (.int p1), .val (.int ((p0 &&& (2147483647 : Int32)) % (3 : Int32))), .val (.int (1 : Int32)), .val (.ref w_ENDED), .val (.int (1 : Int32)), .unset, .unset, .unset, .unset, .unset, .unset] [(.int (((p0 &&& (2147483647 : Int32)) % (3 : Int32)) + (1 : Int32)))]))
        refine OwnFin.st (fun _ q => XS.iconst X22.here hx rfl (hb hby at_64) q) ?_
        show OwnFin _ _ _ _ (T22.setTop (mkF m 65 #[.val (.int p0), .val (.int p1), .val (.int ((p0 &&& (2147483647 : Int32)) % (3 : Int32))), .val (.int (1 : Int32)), .val (.ref w_ENDED), .val (.int (1 : Int32)), .unset, .unset, .unset, .unset, .unset, .unset] [(.int (2 : Int32)), (.int (((p0 &&& (2147483647 : Int32)) % (3 : Int32)) + (1 : Int32)))]))
        have hd23 : ¬ ((((p0 &&& (2147483647 : Int32)) % (3 : Int32)) + (1 : Int32)) < (2 : Int32)) := by
          have om1 := rng32 (p1 &&& (1 : Int32))
          have om2 := c_mask p1 (1 : Int32) 1 (by decide) (by decide)
          have om3 := rng32 p1
          have om4 := rng32 (1 : Int32)
          have om4l : (1 : Int32).toInt = 1 := by decide
          have om5 := rng32 (0 : Int32)
          have om5l : (0 : Int32).toInt = 0 := by decide
          have om6 := rng32 ((p0 &&& (2147483647 : Int32)) % (3 : Int32))
          have om7 := c_irem (p0 &&& (2147483647 : Int32)) (3 : Int32) 3 (by decide)
          have om8 := rng32 (p0 &&& (2147483647 : Int32))
          have om9 := c_mask p0 (2147483647 : Int32) 31 (by decide) (by decide)
          have om10 := rng32 p0
          have om11 := rng32 (2147483647 : Int32)
          have om11l : (2147483647 : Int32).toInt = 2147483647 := by decide
          have om12 := rng32 (3 : Int32)
          have om12l : (3 : Int32).toInt = 3 := by decide
          have om13 := rng32 (((p0 &&& (2147483647 : Int32)) % (3 : Int32)) + (1 : Int32))
          have om14 := c_iadd ((p0 &&& (2147483647 : Int32)) % (3 : Int32)) (1 : Int32)
          have om15 := rng32 (2 : Int32)
          have om15l : (2 : Int32).toInt = 2 := by decide
          have ow0 := hc1
          rw [← Int32.toInt_inj] at ow0
          have ow1 := hc16
          rw [← Int32.toInt_inj] at ow1
          have ow2 := hc21
          rw [← Int32.toInt_inj] at ow2
          rw [Int32.lt_iff_toInt_lt]
          omega
        refine OwnFin.st (fun _ q => XS.icmpYes X22.here hx rfl (pc0 := 65) (pc' := 72) rfl (hb hby at_65) rfl (Jvm.Free.XT.ii_ge_t hd23) (by decide) (by decide) q) ?_
        show OwnFin _ _ _ _ (T22.setTop (mkF m 72 #[.val (.int p0), .val (.int p1), .val (.int ((p0 &&& (2147483647 : Int32)) % (3 : Int32))), .val (.int (1 : Int32)), .val (.ref w_ENDED), .val (.int (1 : Int32)), .unset, .unset, .unset, .unset, .unset, .unset] []))
        refine OwnFin.st (fun _ q => XS.iconst X22.here hx rfl (hb hby at_72) q) ?_
        show OwnFin _ _ _ _ (T22.setTop (mkF m 73 #[.val (.int p0), .val (.int p1), .val (.int ((p0 &&& (2147483647 : Int32)) % (3 : Int32))), .val (.int (1 : Int32)), .val (.ref w_ENDED), .val (.int (1 : Int32)), .unset, .unset, .unset, .unset, .unset, .unset] [(.int (0 : Int32))]))
        refine OwnFin.st (fun _ q => XS.istore X22.here hx rfl (hb hby at_73) rfl (l' := #[.val (.int p0), .val (.int p1), .val (.int ((p0 &&& (2147483647 : Int32)) % (3 : Int32))), .val (.int (1 : Int32)), .val (.ref w_ENDED), .val (.int (1 : Int32)), .val (.int (0 : Int32)), .unset, .unset, .unset, .unset, .unset]) rfl q) ?_
        show OwnFin _ _ _ _ (T22.setTop (mkF m 75 #[.val (.int p0), .val (.int p1), .val (.int ((p0 &&& (2147483647 : Int32)) % (3 : Int32))), .val (.int (1 : Int32)), .val (.ref w_ENDED), .val (.int (1 : Int32)), .val (.int (0 : Int32)), .unset, .unset, .unset, .unset, .unset] []))
        refine OwnFin.st (fun _ q => XS.aload X22.here hx rfl (hb hby at_75) rfl rfl q) ?_
        show OwnFin _ _ _ _ (T22.setTop (mkF m 77 #[.val (.int p0), .val (.int p1), .val (.int ((p0 &&& (2147483647 : Int32)) % (3 : Int32))), .val (.int (1 : Int32)), .val (.ref w_ENDED), .val (.int (1 : Int32)), .val (.int (0 : Int32)), .unset, .unset, .unset, .unset, .unset] [(.ref w_ENDED)]))
        refine OwnFin.st (fun _ q => XS.iloadN X22.here hx rfl (hb hby at_77) rfl q) ?_
        show OwnFin _ _ _ _ (T22.setTop (mkF m 78 #[.val (.int p0), .val (.int p1), .val (.int ((p0 &&& (2147483647 : Int32)) % (3 : Int32))), .val (.int (1 : Int32)), .val (.ref w_ENDED), .val (.int (1 : Int32)), .val (.int (0 : Int32)), .unset, .unset, .unset, .unset, .unset] [(.int (1 : Int32)), (.ref w_ENDED)]))
        obtain ⟨cq24, kq24, q24a, q24b, q24c⟩ := isOf hZ e22 (X_w_ENDED.ext Ol0.2)
        obtain ⟨_, _, ⟨T24, L24, k24, n24⟩, -, X24, ⟨Lc24, hQ24, l24, y24, z24⟩, st24⟩ := X22.virtualBack hx (y := (⟨"com/example/neat_order/neatorder/core/graph/ProcessNeed", "allowsNewProcess", "(Z)Z"⟩ : MethodName)) (z := (⟨"com/example/neat_order/neatorder/core/graph/ProcessNeed", "allowsNewProcess", "(Z)Z"⟩ : MethodName)) hown (mvT hZ (hw _ (List.mem_of_getElem? (i := 4) rfl))) (mvT hZ (hw _ (List.mem_of_getElem? (i := 5) rfl))) (notFace_of_selects (args := #[]) (mvT hZ (hw _ (List.mem_of_getElem? (i := 7) rfl)))) (mvT hZ (hw _ (List.mem_of_getElem? (i := 7) rfl))) (mvT hZ (hw _ (List.mem_of_getElem? (i := 6) rfl))) (by decide) (backOf (W := 0) (rm1_1f l Z av0 hw [] w_ENDED (1 : Int32) h0 n0 (Nat.le_trans Z0 kp0.1) (X_w_ENDED.ext Ol0.2) (F_ordinal_w_ENDED.ext Ol0.2) (by decide : ¬ ((1 : Int32) = (0 : Int32)))) hZ (hw _ (List.mem_of_getElem? (i := 8) rfl)) (hw _ (List.mem_of_getElem? (i := 2) rfl)) (by decide) (by decide)) q24a q24c (g := (mkF m 78 #[.val (.int p0), .val (.int p1), .val (.int ((p0 &&& (2147483647 : Int32)) % (3 : Int32))), .val (.int (1 : Int32)), .val (.ref w_ENDED), .val (.int (1 : Int32)), .val (.int (0 : Int32)), .unset, .unset, .unset, .unset, .unset] [(.int (1 : Int32)), (.ref w_ENDED)])) rfl (by rw [hml]; rfl) (Steps.refl _) (argsL := [(.int (1 : Int32))]) (rest := []) (lenOf pd_1 rfl) rfl (by show 2 * 0 + _ ≤ _; exact Nat.le_of_eq rfl) (hb hby at_78) (fun _ _ => ⟨rfl, e22, (by decide : 0 + 0 ≤ _), (by decide : 0 + 0 ≤ _)⟩)
        dsimp only [Pt.U, Pt.locs, Pt.cells, Pt.slots] at X24 l24 y24 z24 st24 hQ24
        subst l24 y24 z24
        obtain ⟨rfl, N24q, he24⟩ := hQ24
        have N24 := Fr.app N0 N24q
        refine OwnFin.tr st24 ?_
        show OwnFin _ _ _ _ (T24.setTop (mkF m 81 #[.val (.int p0), .val (.int p1), .val (.int ((p0 &&& (2147483647 : Int32)) % (3 : Int32))), .val (.int (1 : Int32)), .val (.ref w_ENDED), .val (.int (1 : Int32)), .val (.int (0 : Int32)), .unset, .unset, .unset, .unset, .unset] [(.int (0 : Int32))]))
        refine OwnFin.st (fun _ q => XS.istore X24.here hx rfl (hb hby at_81) rfl (l' := #[.val (.int p0), .val (.int p1), .val (.int ((p0 &&& (2147483647 : Int32)) % (3 : Int32))), .val (.int (1 : Int32)), .val (.ref w_ENDED), .val (.int (1 : Int32)), .val (.int (0 : Int32)), .val (.int (0 : Int32)), .unset, .unset, .unset, .unset]) rfl q) ?_
        show OwnFin _ _ _ _ (T24.setTop (mkF m 83 #[.val (.int p0), .val (.int p1), .val (.int ((p0 &&& (2147483647 : Int32)) % (3 : Int32))), .val (.int (1 : Int32)), .val (.ref w_ENDED), .val (.int (1 : Int32)), .val (.int (0 : Int32)), .val (.int (0 : Int32)), .unset, .unset, .unset, .unset] []))
        refine OwnFin.st (fun _ q => XS.aload X24.here hx rfl (hb hby at_83) rfl rfl q) ?_
        show OwnFin _ _ _ _ (T24.setTop (mkF m 85 #[.val (.int p0), .val (.int p1), .val (.int ((p0 &&& (2147483647 : Int32)) % (3 : Int32))), .val (.int (1 : Int32)), .val (.ref w_ENDED), .val (.int (1 : Int32)), .val (.int (0 : Int32)), .val (.int (0 : Int32)), .unset, .unset, .unset, .unset] [(.ref w_ENDED)]))
        refine OwnFin.st (fun _ q => XS.iloadN X24.here hx rfl (hb hby at_85) rfl q) ?_
        show OwnFin _ _ _ _ (T24.setTop (mkF m 86 #[.val (.int p0), .val (.int p1), .val (.int ((p0 &&& (2147483647 : Int32)) % (3 : Int32))), .val (.int (1 : Int32)), .val (.ref w_ENDED), .val (.int (1 : Int32)), .val (.int (0 : Int32)), .val (.int (0 : Int32)), .unset, .unset, .unset, .unset] [(.int (1 : Int32)), (.ref w_ENDED)]))
        refine OwnFin.st (fun _ q => XS.ifYes X24.here hx rfl (pc0 := 86) (pc' := 93) rfl (hb hby at_86) rfl (Jvm.Free.XT.i0_ne_t (by decide : ¬ ((1 : Int32) = (0 : Int32)))) (by decide) (by decide) q) ?_
        show OwnFin _ _ _ _ (T24.setTop (mkF m 93 #[.val (.int p0), .val (.int p1), .val (.int ((p0 &&& (2147483647 : Int32)) % (3 : Int32))), .val (.int (1 : Int32)), .val (.ref w_ENDED), .val (.int (1 : Int32)), .val (.int (0 : Int32)), .val (.int (0 : Int32)), .unset, .unset, .unset, .unset] [(.ref w_ENDED)]))
        refine OwnFin.st (fun _ q => XS.iconst X24.here hx rfl (hb hby at_93) q) ?_
        show OwnFin _ _ _ _ (T24.setTop (mkF m 94 #[.val (.int p0), .val (.int p1), .val (.int ((p0 &&& (2147483647 : Int32)) % (3 : Int32))), .val (.int (1 : Int32)), .val (.ref w_ENDED), .val (.int (1 : Int32)), .val (.int (0 : Int32)), .val (.int (0 : Int32)), .unset, .unset, .unset, .unset] [(.int (0 : Int32)), (.ref w_ENDED)]))
        obtain ⟨cq25, kq25, q25a, q25b, q25c⟩ := isOf hZ he24 (X_w_ENDED.ext Ol0.2)
        obtain ⟨_, _, ⟨T25, L25, k25, n25⟩, -, X25, ⟨Lc25, hQ25, l25, y25, z25⟩, st25⟩ := X24.virtualBack hx (y := (⟨"com/example/neat_order/neatorder/core/graph/ProcessNeed", "allowsNewProcess", "(Z)Z"⟩ : MethodName)) (z := (⟨"com/example/neat_order/neatorder/core/graph/ProcessNeed", "allowsNewProcess", "(Z)Z"⟩ : MethodName)) hown (mvT hZ (hw _ (List.mem_of_getElem? (i := 4) rfl))) (mvT hZ (hw _ (List.mem_of_getElem? (i := 5) rfl))) (notFace_of_selects (args := #[]) (mvT hZ (hw _ (List.mem_of_getElem? (i := 7) rfl)))) (mvT hZ (hw _ (List.mem_of_getElem? (i := 7) rfl))) (mvT hZ (hw _ (List.mem_of_getElem? (i := 6) rfl))) (by decide) (backOf (W := 0) (rm1_1t l Z av0 hw [] w_ENDED (0 : Int32) h0 n0 (Nat.le_trans Z0 kp0.1) (X_w_ENDED.ext Ol0.2) (F_ordinal_w_ENDED.ext Ol0.2) (rfl : (0 : Int32) = (0 : Int32))) hZ (hw _ (List.mem_of_getElem? (i := 8) rfl)) (hw _ (List.mem_of_getElem? (i := 2) rfl)) (by decide) (by decide)) q25a q25c (g := (mkF m 94 #[.val (.int p0), .val (.int p1), .val (.int ((p0 &&& (2147483647 : Int32)) % (3 : Int32))), .val (.int (1 : Int32)), .val (.ref w_ENDED), .val (.int (1 : Int32)), .val (.int (0 : Int32)), .val (.int (0 : Int32)), .unset, .unset, .unset, .unset] [(.int (0 : Int32)), (.ref w_ENDED)])) rfl (by rw [hml]; rfl) (Steps.refl _) (argsL := [(.int (0 : Int32))]) (rest := []) (lenOf pd_1 rfl) rfl (by show 2 * 0 + _ ≤ _; exact Nat.le_of_eq rfl) (hb hby at_94) (fun _ _ => ⟨rfl, he24, (by decide : 0 + 0 ≤ _), (by decide : 0 + 0 ≤ _)⟩)
        dsimp only [Pt.U, Pt.locs, Pt.cells, Pt.slots] at X25 l25 y25 z25 st25 hQ25
        subst l25 y25 z25
        obtain ⟨rfl, N25q, he25⟩ := hQ25
        have N25 := Fr.app N24 N25q
        refine OwnFin.tr st25 ?_
        show OwnFin _ _ _ _ (T25.setTop (mkF m 97 #[.val (.int p0), .val (.int p1), .val (.int ((p0 &&& (2147483647 : Int32)) % (3 : Int32))), .val (.int (1 : Int32)), .val (.ref w_ENDED), .val (.int (1 : Int32)), .val (.int (0 : Int32)), .val (.int (0 : Int32)), .unset, .unset, .unset, .unset] [(.int (1 : Int32))]))
        refine OwnFin.st (fun _ q => XS.istore X25.here hx rfl (hb hby at_97) rfl (l' := #[.val (.int p0), .val (.int p1), .val (.int ((p0 &&& (2147483647 : Int32)) % (3 : Int32))), .val (.int (1 : Int32)), .val (.ref w_ENDED), .val (.int (1 : Int32)), .val (.int (0 : Int32)), .val (.int (0 : Int32)), .val (.int (1 : Int32)), .unset, .unset, .unset]) rfl q) ?_
        show OwnFin _ _ _ _ (T25.setTop (mkF m 99 #[.val (.int p0), .val (.int p1), .val (.int ((p0 &&& (2147483647 : Int32)) % (3 : Int32))), .val (.int (1 : Int32)), .val (.ref w_ENDED), .val (.int (1 : Int32)), .val (.int (0 : Int32)), .val (.int (0 : Int32)), .val (.int (1 : Int32)), .unset, .unset, .unset] []))
        refine OwnFin.st (fun _ q => XS.iloadN X25.here hx rfl (hb hby at_99) rfl q) ?_
        show OwnFin _ _ _ _ (T25.setTop (mkF m 100 #[.val (.int p0), .val (.int p1), .val (.int ((p0 &&& (2147483647 : Int32)) % (3 : Int32))), .val (.int (1 : Int32)), .val (.ref w_ENDED), .val (.int (1 : Int32)), .val (.int (0 : Int32)), .val (.int (0 : Int32)), .val (.int (1 : Int32)), .unset, .unset, .unset] [(.int (1 : Int32))]))
        refine OwnFin.st (fun _ q => XS.ifNo X25.here hx rfl (hb hby at_100) rfl (Jvm.Free.XT.i0_eq_f (by decide : ¬ ((1 : Int32) = (0 : Int32)))) q) ?_
        show OwnFin _ _ _ _ (T25.setTop (mkF m 103 #[.val (.int p0), .val (.int p1), .val (.int ((p0 &&& (2147483647 : Int32)) % (3 : Int32))), .val (.int (1 : Int32)), .val (.ref w_ENDED), .val (.int (1 : Int32)), .val (.int (0 : Int32)), .val (.int (0 : Int32)), .val (.int (1 : Int32)), .unset, .unset, .unset] []))
        refine OwnFin.st (fun _ q => XS.iload X25.here hx rfl (hb hby at_103) rfl q) ?_
        show OwnFin _ _ _ _ (T25.setTop (mkF m 105 #[.val (.int p0), .val (.int p1), .val (.int ((p0 &&& (2147483647 : Int32)) % (3 : Int32))), .val (.int (1 : Int32)), .val (.ref w_ENDED), .val (.int (1 : Int32)), .val (.int (0 : Int32)), .val (.int (0 : Int32)), .val (.int (1 : Int32)), .unset, .unset, .unset] [(.int (0 : Int32))]))
        refine OwnFin.st (fun _ q => XS.goto X25.here hx rfl (pc0 := 105) (pc' := 110) rfl (hb hby at_105) (by decide) (by decide) q) ?_
        show OwnFin _ _ _ _ (T25.setTop (mkF m 110 #[.val (.int p0), .val (.int p1), .val (.int ((p0 &&& (2147483647 : Int32)) % (3 : Int32))), .val (.int (1 : Int32)), .val (.ref w_ENDED), .val (.int (1 : Int32)), .val (.int (0 : Int32)), .val (.int (0 : Int32)), .val (.int (1 : Int32)), .unset, .unset, .unset] [(.int (0 : Int32))]))
        refine OwnFin.st (fun _ q => XS.istore X25.here hx rfl (hb hby at_110) rfl (l' := #[.val (.int p0), .val (.int p1), .val (.int ((p0 &&& (2147483647 : Int32)) % (3 : Int32))), .val (.int (1 : Int32)), .val (.ref w_ENDED), .val (.int (1 : Int32)), .val (.int (0 : Int32)), .val (.int (0 : Int32)), .val (.int (1 : Int32)), .val (.int (0 : Int32)), .unset, .unset]) rfl q) ?_
        show OwnFin _ _ _ _ (T25.setTop (mkF m 112 #[.val (.int p0), .val (.int p1), .val (.int ((p0 &&& (2147483647 : Int32)) % (3 : Int32))), .val (.int (1 : Int32)), .val (.ref w_ENDED), .val (.int (1 : Int32)), .val (.int (0 : Int32)), .val (.int (0 : Int32)), .val (.int (1 : Int32)), .val (.int (0 : Int32)), .unset, .unset] []))
        refine OwnFin.st (fun _ q => XS.iloadN X25.here hx rfl (hb hby at_112) rfl q) ?_
        show OwnFin _ _ _ _ (T25.setTop (mkF m 113 #[.val (.int p0), .val (.int p1), .val (.int ((p0 &&& (2147483647 : Int32)) % (3 : Int32))), .val (.int (1 : Int32)), .val (.ref w_ENDED), .val (.int (1 : Int32)), .val (.int (0 : Int32)), .val (.int (0 : Int32)), .val (.int (1 : Int32)), .val (.int (0 : Int32)), .unset, .unset] [(.int (1 : Int32))]))
        refine OwnFin.st (fun _ q => XS.ifNo X25.here hx rfl (hb hby at_113) rfl (Jvm.Free.XT.i0_eq_f (by decide : ¬ ((1 : Int32) = (0 : Int32)))) q) ?_
        show OwnFin _ _ _ _ (T25.setTop (mkF m 116 #[.val (.int p0), .val (.int p1), .val (.int ((p0 &&& (2147483647 : Int32)) % (3 : Int32))), .val (.int (1 : Int32)), .val (.ref w_ENDED), .val (.int (1 : Int32)), .val (.int (0 : Int32)), .val (.int (0 : Int32)), .val (.int (1 : Int32)), .val (.int (0 : Int32)), .unset, .unset] []))
        refine OwnFin.st (fun _ q => XS.iload X25.here hx rfl (hb hby at_116) rfl q) ?_
        show OwnFin _ _ _ _ (T25.setTop (mkF m 118 #[.val (.int p0), .val (.int p1), .val (.int ((p0 &&& (2147483647 : Int32)) % (3 : Int32))), .val (.int (1 : Int32)), .val (.ref w_ENDED), .val (.int (1 : Int32)), .val (.int (0 : Int32)), .val (.int (0 : Int32)), .val (.int (1 : Int32)), .val (.int (0 : Int32)), .unset, .unset] [(.int (1 : Int32))]))
        refine OwnFin.st (fun _ q => XS.goto X25.here hx rfl (pc0 := 118) (pc' := 123) rfl (hb hby at_118) (by decide) (by decide) q) ?_
        show OwnFin _ _ _ _ (T25.setTop (mkF m 123 #[.val (.int p0), .val (.int p1), .val (.int ((p0 &&& (2147483647 : Int32)) % (3 : Int32))), .val (.int (1 : Int32)), .val (.ref w_ENDED), .val (.int (1 : Int32)), .val (.int (0 : Int32)), .val (.int (0 : Int32)), .val (.int (1 : Int32)), .val (.int (0 : Int32)), .unset, .unset] [(.int (1 : Int32))]))
        refine OwnFin.st (fun _ q => XS.istore X25.here hx rfl (hb hby at_123) rfl (l' := #[.val (.int p0), .val (.int p1), .val (.int ((p0 &&& (2147483647 : Int32)) % (3 : Int32))), .val (.int (1 : Int32)), .val (.ref w_ENDED), .val (.int (1 : Int32)), .val (.int (0 : Int32)), .val (.int (0 : Int32)), .val (.int (1 : Int32)), .val (.int (0 : Int32)), .val (.int (1 : Int32)), .unset]) rfl q) ?_
        show OwnFin _ _ _ _ (T25.setTop (mkF m 125 #[.val (.int p0), .val (.int p1), .val (.int ((p0 &&& (2147483647 : Int32)) % (3 : Int32))), .val (.int (1 : Int32)), .val (.ref w_ENDED), .val (.int (1 : Int32)), .val (.int (0 : Int32)), .val (.int (0 : Int32)), .val (.int (1 : Int32)), .val (.int (0 : Int32)), .val (.int (1 : Int32)), .unset] []))
        refine OwnFin.st (fun _ q => XS.iload X25.here hx rfl (hb hby at_125) rfl q) ?_
        show OwnFin _ _ _ _ (T25.setTop (mkF m 127 #[.val (.int p0), .val (.int p1), .val (.int ((p0 &&& (2147483647 : Int32)) % (3 : Int32))), .val (.int (1 : Int32)), .val (.ref w_ENDED), .val (.int (1 : Int32)), .val (.int (0 : Int32)), .val (.int (0 : Int32)), .val (.int (1 : Int32)), .val (.int (0 : Int32)), .val (.int (1 : Int32)), .unset] [(.int (0 : Int32))]))
        refine OwnFin.st (fun _ q => XS.ifYes X25.here hx rfl (pc0 := 127) (pc' := 135) rfl (hb hby at_127) rfl (Jvm.Free.XT.i0_eq_t (rfl : (0 : Int32) = (0 : Int32))) (by decide) (by decide) q) ?_
        show OwnFin _ _ _ _ (T25.setTop (mkF m 135 #[.val (.int p0), .val (.int p1), .val (.int ((p0 &&& (2147483647 : Int32)) % (3 : Int32))), .val (.int (1 : Int32)), .val (.ref w_ENDED), .val (.int (1 : Int32)), .val (.int (0 : Int32)), .val (.int (0 : Int32)), .val (.int (1 : Int32)), .val (.int (0 : Int32)), .val (.int (1 : Int32)), .unset] []))
        refine OwnFin.st (fun _ q => XS.iconst X25.here hx rfl (hb hby at_135) q) ?_
        show OwnFin _ _ _ _ (T25.setTop (mkF m 136 #[.val (.int p0), .val (.int p1), .val (.int ((p0 &&& (2147483647 : Int32)) % (3 : Int32))), .val (.int (1 : Int32)), .val (.ref w_ENDED), .val (.int (1 : Int32)), .val (.int (0 : Int32)), .val (.int (0 : Int32)), .val (.int (1 : Int32)), .val (.int (0 : Int32)), .val (.int (1 : Int32)), .unset] [(.int (1 : Int32))]))
        refine OwnFin.st (fun _ q => XS.goto X25.here hx rfl (pc0 := 136) (pc' := 140) rfl (hb hby at_136) (by decide) (by decide) q) ?_
        show OwnFin _ _ _ _ (T25.setTop (mkF m 140 #[.val (.int p0), .val (.int p1), .val (.int ((p0 &&& (2147483647 : Int32)) % (3 : Int32))), .val (.int (1 : Int32)), .val (.ref w_ENDED), .val (.int (1 : Int32)), .val (.int (0 : Int32)), .val (.int (0 : Int32)), .val (.int (1 : Int32)), .val (.int (0 : Int32)), .val (.int (1 : Int32)), .unset] [(.int (1 : Int32))]))
        refine OwnFin.st (fun _ q => XS.istore X25.here hx rfl (hb hby at_140) rfl (l' := #[.val (.int p0), .val (.int p1), .val (.int ((p0 &&& (2147483647 : Int32)) % (3 : Int32))), .val (.int (1 : Int32)), .val (.ref w_ENDED), .val (.int (1 : Int32)), .val (.int (0 : Int32)), .val (.int (0 : Int32)), .val (.int (1 : Int32)), .val (.int (0 : Int32)), .val (.int (1 : Int32)), .val (.int (1 : Int32))]) rfl q) ?_
        show OwnFin _ _ _ _ (T25.setTop (mkF m 142 #[.val (.int p0), .val (.int p1), .val (.int ((p0 &&& (2147483647 : Int32)) % (3 : Int32))), .val (.int (1 : Int32)), .val (.ref w_ENDED), .val (.int (1 : Int32)), .val (.int (0 : Int32)), .val (.int (0 : Int32)), .val (.int (1 : Int32)), .val (.int (0 : Int32)), .val (.int (1 : Int32)), .val (.int (1 : Int32))] []))
        refine OwnFin.st (fun _ q => XS.iload X25.here hx rfl (hb hby at_142) rfl q) ?_
        show OwnFin _ _ _ _ (T25.setTop (mkF m 144 #[.val (.int p0), .val (.int p1), .val (.int ((p0 &&& (2147483647 : Int32)) % (3 : Int32))), .val (.int (1 : Int32)), .val (.ref w_ENDED), .val (.int (1 : Int32)), .val (.int (0 : Int32)), .val (.int (0 : Int32)), .val (.int (1 : Int32)), .val (.int (0 : Int32)), .val (.int (1 : Int32)), .val (.int (1 : Int32))] [(.int (0 : Int32))]))
        refine OwnFin.st (fun _ q => XS.iload X25.here hx rfl (hb hby at_144) rfl q) ?_
        show OwnFin _ _ _ _ (T25.setTop (mkF m 146 #[.val (.int p0), .val (.int p1), .val (.int ((p0 &&& (2147483647 : Int32)) % (3 : Int32))), .val (.int (1 : Int32)), .val (.ref w_ENDED), .val (.int (1 : Int32)), .val (.int (0 : Int32)), .val (.int (0 : Int32)), .val (.int (1 : Int32)), .val (.int (0 : Int32)), .val (.int (1 : Int32)), .val (.int (1 : Int32))] [(.int (0 : Int32)), (.int (0 : Int32))]))
        refine OwnFin.st (fun _ q => XS.icmpNo X25.here hx rfl (hb hby at_146) rfl (Jvm.Free.XT.ii_ne_f (rfl : (0 : Int32) = (0 : Int32))) q) ?_
        show OwnFin _ _ _ _ (T25.setTop (mkF m 149 #[.val (.int p0), .val (.int p1), .val (.int ((p0 &&& (2147483647 : Int32)) % (3 : Int32))), .val (.int (1 : Int32)), .val (.ref w_ENDED), .val (.int (1 : Int32)), .val (.int (0 : Int32)), .val (.int (0 : Int32)), .val (.int (1 : Int32)), .val (.int (0 : Int32)), .val (.int (1 : Int32)), .val (.int (1 : Int32))] []))
        refine OwnFin.st (fun _ q => XS.iload X25.here hx rfl (hb hby at_149) rfl q) ?_
        show OwnFin _ _ _ _ (T25.setTop (mkF m 151 #[.val (.int p0), .val (.int p1), .val (.int ((p0 &&& (2147483647 : Int32)) % (3 : Int32))), .val (.int (1 : Int32)), .val (.ref w_ENDED), .val (.int (1 : Int32)), .val (.int (0 : Int32)), .val (.int (0 : Int32)), .val (.int (1 : Int32)), .val (.int (0 : Int32)), .val (.int (1 : Int32)), .val (.int (1 : Int32))] [(.int (1 : Int32))]))
        refine OwnFin.st (fun _ q => XS.ifNo X25.here hx rfl (hb hby at_151) rfl (Jvm.Free.XT.i0_eq_f (by decide : ¬ ((1 : Int32) = (0 : Int32)))) q) ?_
        show OwnFin _ _ _ _ (T25.setTop (mkF m 154 #[.val (.int p0), .val (.int p1), .val (.int ((p0 &&& (2147483647 : Int32)) % (3 : Int32))), .val (.int (1 : Int32)), .val (.ref w_ENDED), .val (.int (1 : Int32)), .val (.int (0 : Int32)), .val (.int (0 : Int32)), .val (.int (1 : Int32)), .val (.int (0 : Int32)), .val (.int (1 : Int32)), .val (.int (1 : Int32))] []))
        refine OwnFin.st (fun _ q => XS.iconst X25.here hx rfl (hb hby at_154) q) ?_
        show OwnFin _ _ _ _ (T25.setTop (mkF m 155 #[.val (.int p0), .val (.int p1), .val (.int ((p0 &&& (2147483647 : Int32)) % (3 : Int32))), .val (.int (1 : Int32)), .val (.ref w_ENDED), .val (.int (1 : Int32)), .val (.int (0 : Int32)), .val (.int (0 : Int32)), .val (.int (1 : Int32)), .val (.int (0 : Int32)), .val (.int (1 : Int32)), .val (.int (1 : Int32))] [(.int (1 : Int32))]))
        refine OwnFin.st (fun _ q => XS.goto X25.here hx rfl (pc0 := 155) (pc' := 159) rfl (hb hby at_155) (by decide) (by decide) q) ?_
        show OwnFin _ _ _ _ (T25.setTop (mkF m 159 #[.val (.int p0), .val (.int p1), .val (.int ((p0 &&& (2147483647 : Int32)) % (3 : Int32))), .val (.int (1 : Int32)), .val (.ref w_ENDED), .val (.int (1 : Int32)), .val (.int (0 : Int32)), .val (.int (0 : Int32)), .val (.int (1 : Int32)), .val (.int (0 : Int32)), .val (.int (1 : Int32)), .val (.int (1 : Int32))] [(.int (1 : Int32))]))
        obtain ⟨fs, hr, hrun, hended, hW, hsame⟩ := X25.leave (v := some (.int (1 : Int32))) (fun h => by rw [Bd.returns] at h; cases h)
        refine ⟨_, _, retN X25 hx (t := .boolean) Bd.returns (by simp) (hb hby at_159) hr, hrun, hended, _, _, rfl, ?_, ⟨_, rfl⟩, hW, hsame.mono (by decide) (by decide)⟩
        show Q_rm0 Z p0 p1 w_NONE w_ENDED w_SAME h0 n0 _ T25.heap _
        rw [he25]
        exact ⟨rfl, N25⟩
      · skip
        refine OwnFin.st (fun _ q => XS.icmpYes X0.here hx rfl (pc0 := 33) (pc' := 44) rfl (hb hby at_33) rfl (Jvm.Free.XT.ii_ne_t hc21) (by decide) (by decide) q) ?_
        show OwnFin _ _ _ _ (s₁.setTop (mkF m 44 #[.val (.int p0), .val (.int p1), .val (.int ((p0 &&& (2147483647 : Int32)) % (3 : Int32))), .val (.int (1 : Int32)), .unset, .unset, .unset, .unset, .unset, .unset, .unset, .unset] []))
        obtain ⟨T26, X26, e26, st26⟩ := getS2 X0 hx hZ hown (host := "") (Or.inl (hw _ (List.mem_of_getElem? (i := 18) rfl))) Via.refl e0 (S_SAME.ext Ol0.2) (g := (mkF m 44 #[.val (.int p0), .val (.int p1), .val (.int ((p0 &&& (2147483647 : Int32)) % (3 : Int32))), .val (.int (1 : Int32)), .unset, .unset, .unset, .unset, .unset, .unset, .unset, .unset] [])) rfl (hb hby at_44)
        refine OwnFin.st st26 ?_
        show OwnFin _ _ _ _ (T26.setTop (mkF m 47 #[.val (.int p0), .val (.int p1), .val (.int ((p0 &&& (2147483647 : Int32)) % (3 : Int32))), .val (.int (1 : Int32)), .unset, .unset, .unset, .unset, .unset, .unset, .unset, .unset] [(.ref w_SAME)]))
        refine OwnFin.st (fun _ q => XS.astore X26.here hx rfl (hb hby at_47) rfl rfl (l' := #[.val (.int p0), .val (.int p1), .val (.int ((p0 &&& (2147483647 : Int32)) % (3 : Int32))), .val (.int (1 : Int32)), .val (.ref w_SAME), .unset, .unset, .unset, .unset, .unset, .unset, .unset]) rfl q) ?_
        show OwnFin _ _ _ _ (T26.setTop (mkF m 49 #[.val (.int p0), .val (.int p1), .val (.int ((p0 &&& (2147483647 : Int32)) % (3 : Int32))), .val (.int (1 : Int32)), .val (.ref w_SAME), .unset, .unset, .unset, .unset, .unset, .unset, .unset] []))
        refine OwnFin.st (fun _ q => XS.iloadN X26.here hx rfl (hb hby at_49) rfl q) ?_
        show OwnFin _ _ _ _ (T26.setTop (mkF m 50 #[.val (.int p0), .val (.int p1), .val (.int ((p0 &&& (2147483647 : Int32)) % (3 : Int32))), .val (.int (1 : Int32)), .val (.ref w_SAME), .unset, .unset, .unset, .unset, .unset, .unset, .unset] [(.int (1 : Int32))]))
        refine OwnFin.st (fun _ q => XS.ifNo X26.here hx rfl (hb hby at_50) rfl (Jvm.Free.XT.i0_eq_f (by decide : ¬ ((1 : Int32) = (0 : Int32)))) q) ?_
        show OwnFin _ _ _ _ (T26.setTop (mkF m 53 #[.val (.int p0), .val (.int p1), .val (.int ((p0 &&& (2147483647 : Int32)) % (3 : Int32))), .val (.int (1 : Int32)), .val (.ref w_SAME), .unset, .unset, .unset, .unset, .unset, .unset, .unset] []))
        refine OwnFin.st (fun _ q => XS.iconst X26.here hx rfl (hb hby at_53) q) ?_
        show OwnFin _ _ _ _ (T26.setTop (mkF m 54 #[.val (.int p0), .val (.int p1), .val (.int ((p0 &&& (2147483647 : Int32)) % (3 : Int32))), .val (.int (1 : Int32)), .val (.ref w_SAME), .unset, .unset, .unset, .unset, .unset, .unset, .unset] [(.int (1 : Int32))]))
        refine OwnFin.st (fun _ q => XS.goto X26.here hx rfl (pc0 := 54) (pc' := 58) rfl (hb hby at_54) (by decide) (by decide) q) ?_
        show OwnFin _ _ _ _ (T26.setTop (mkF m 58 #[.val (.int p0), .val (.int p1), .val (.int ((p0 &&& (2147483647 : Int32)) % (3 : Int32))), .val (.int (1 : Int32)), .val (.ref w_SAME), .unset, .unset, .unset, .unset, .unset, .unset, .unset] [(.int (1 : Int32))]))
        refine OwnFin.st (fun _ q => XS.istore X26.here hx rfl (hb hby at_58) rfl (l' := #[.val (.int p0), .val (.int p1), .val (.int ((p0 &&& (2147483647 : Int32)) % (3 : Int32))), .val (.int (1 : Int32)), .val (.ref w_SAME), .val (.int (1 : Int32)), .unset, .unset, .unset, .unset, .unset, .unset]) rfl q) ?_
        show OwnFin _ _ _ _ (T26.setTop (mkF m 60 #[.val (.int p0), .val (.int p1), .val (.int ((p0 &&& (2147483647 : Int32)) % (3 : Int32))), .val (.int (1 : Int32)), .val (.ref w_SAME), .val (.int (1 : Int32)), .unset, .unset, .unset, .unset, .unset, .unset] []))
        refine OwnFin.st (fun _ q => XS.iloadN X26.here hx rfl (hb hby at_60) rfl q) ?_
        show OwnFin _ _ _ _ (T26.setTop (mkF m 61 #[.val (.int p0), .val (.int p1), .val (.int ((p0 &&& (2147483647 : Int32)) % (3 : Int32))), .val (.int (1 : Int32)), .val (.ref w_SAME), .val (.int (1 : Int32)), .unset, .unset, .unset, .unset, .unset, .unset] [(.int ((p0 &&& (2147483647 : Int32)) % (3 : Int32)))]))
        refine OwnFin.st (fun _ q => XS.iload X26.here hx rfl (hb hby at_61) rfl q) ?_
        show OwnFin _ _ _ _ (T26.setTop (mkF m 63 #[.val (.int p0), .val (.int p1), .val (.int ((p0 &&& (2147483647 : Int32)) % (3 : Int32))), .val (.int (1 : Int32)), .val (.ref w_SAME), .val (.int (1 : Int32)), .unset, .unset, .unset, .unset, .unset, .unset] [(.int (1 : Int32)), (.int ((p0 &&& (2147483647 : Int32)) % (3 : Int32)))]))
        refine OwnFin.st (fun _ q => XS.iadd X26.here hx rfl (hb hby at_63) rfl q) ?_
        show OwnFin _ _ _ _ (T26.setTop (mkF m 64 #[.val (.int p0), .val (.int p1), .val (.int ((p0 &&& (2147483647 : Int32)) % (3 : Int32))), .val (.int (1 : Int32)), .val (.ref w_SAME), .val (.int (1 : Int32)), .unset, .unset, .unset, .unset, .unset, .unset] [(.int (((p0 &&& (2147483647 : Int32)) % (3 : Int32)) + (1 : Int32)))]))
        refine OwnFin.st (fun _ q => XS.iconst X26.here hx rfl (hb hby at_64) q) ?_
        show OwnFin _ _ _ _ (T26.setTop (mkF m 65 #[.val (.int p0), .val (.int p1), .val (.int ((p0 &&& (2147483647 : Int32)) % (3 : Int32))), .val (.int (1 : Int32)), .val (.ref w_SAME), .val (.int (1 : Int32)), .unset, .unset, .unset, .unset, .unset, .unset] [(.int (2 : Int32)), (.int (((p0 &&& (2147483647 : Int32)) % (3 : Int32)) + (1 : Int32)))]))
        have hd27 : ¬ ((((p0 &&& (2147483647 : Int32)) % (3 : Int32)) + (1 : Int32)) < (2 : Int32)) := by
          have om1 := rng32 (p1 &&& (1 : Int32))
          have om2 := c_mask p1 (1 : Int32) 1 (by decide) (by decide)
          have om3 := rng32 p1
          have om4 := rng32 (1 : Int32)
          have om4l : (1 : Int32).toInt = 1 := by decide
          have om5 := rng32 (0 : Int32)
          have om5l : (0 : Int32).toInt = 0 := by decide
          have om6 := rng32 ((p0 &&& (2147483647 : Int32)) % (3 : Int32))
          have om7 := c_irem (p0 &&& (2147483647 : Int32)) (3 : Int32) 3 (by decide)
          have om8 := rng32 (p0 &&& (2147483647 : Int32))
          have om9 := c_mask p0 (2147483647 : Int32) 31 (by decide) (by decide)
          have om10 := rng32 p0
          have om11 := rng32 (2147483647 : Int32)
          have om11l : (2147483647 : Int32).toInt = 2147483647 := by decide
          have om12 := rng32 (3 : Int32)
          have om12l : (3 : Int32).toInt = 3 := by decide
          have om13 := rng32 (((p0 &&& (2147483647 : Int32)) % (3 : Int32)) + (1 : Int32))
          have om14 := c_iadd ((p0 &&& (2147483647 : Int32)) % (3 : Int32)) (1 : Int32)
          have om15 := rng32 (2 : Int32)
          have om15l : (2 : Int32).toInt = 2 := by decide
          have ow0 := hc1
          rw [← Int32.toInt_inj] at ow0
          have ow1 := hc16
          rw [← Int32.toInt_inj] at ow1
          have ow2 := hc21
          rw [← Int32.toInt_inj] at ow2
          rw [Int32.lt_iff_toInt_lt]
          omega
        refine OwnFin.st (fun _ q => XS.icmpYes X26.here hx rfl (pc0 := 65) (pc' := 72) rfl (hb hby at_65) rfl (Jvm.Free.XT.ii_ge_t hd27) (by decide) (by decide) q) ?_
        show OwnFin _ _ _ _ (T26.setTop (mkF m 72 #[.val (.int p0), .val (.int p1), .val (.int ((p0 &&& (2147483647 : Int32)) % (3 : Int32))), .val (.int (1 : Int32)), .val (.ref w_SAME), .val (.int (1 : Int32)), .unset, .unset, .unset, .unset, .unset, .unset] []))
        refine OwnFin.st (fun _ q => XS.iconst X26.here hx rfl (hb hby at_72) q) ?_
        show OwnFin _ _ _ _ (T26.setTop (mkF m 73 #[.val (.int p0), .val (.int p1), .val (.int ((p0 &&& (2147483647 : Int32)) % (3 : Int32))), .val (.int (1 : Int32)), .val (.ref w_SAME), .val (.int (1 : Int32)), .unset, .unset, .unset, .unset, .unset, .unset] [(.int (0 : Int32))]))
        refine OwnFin.st (fun _ q => XS.istore X26.here hx rfl (hb hby at_73) rfl (l' := #[.val (.int p0), .val (.int p1), .val (.int ((p0 &&& (2147483647 : Int32)) % (3 : Int32))), .val (.int (1 : Int32)), .val (.ref w_SAME), .val (.int (1 : Int32)), .val (.int (0 : Int32)), .unset, .unset, .unset, .unset, .unset]) rfl q) ?_
        show OwnFin _ _ _ _ (T26.setTop (mkF m 75 #[.val (.int p0), .val (.int p1), .val (.int ((p0 &&& (2147483647 : Int32)) % (3 : Int32))), .val (.int (1 : Int32)), .val (.ref w_SAME), .val (.int (1 : Int32)), .val (.int (0 : Int32)), .unset, .unset, .unset, .unset, .unset] []))
        refine OwnFin.st (fun _ q => XS.aload X26.here hx rfl (hb hby at_75) rfl rfl q) ?_
        show OwnFin _ _ _ _ (T26.setTop (mkF m 77 #[.val (.int p0), .val (.int p1), .val (.int ((p0 &&& (2147483647 : Int32)) % (3 : Int32))), .val (.int (1 : Int32)), .val (.ref w_SAME), .val (.int (1 : Int32)), .val (.int (0 : Int32)), .unset, .unset, .unset, .unset, .unset] [(.ref w_SAME)]))
        refine OwnFin.st (fun _ q => XS.iloadN X26.here hx rfl (hb hby at_77) rfl q) ?_
        show OwnFin _ _ _ _ (T26.setTop (mkF m 78 #[.val (.int p0), .val (.int p1), .val (.int ((p0 &&& (2147483647 : Int32)) % (3 : Int32))), .val (.int (1 : Int32)), .val (.ref w_SAME), .val (.int (1 : Int32)), .val (.int (0 : Int32)), .unset, .unset, .unset, .unset, .unset] [(.int (1 : Int32)), (.ref w_SAME)]))
        obtain ⟨cq28, kq28, q28a, q28b, q28c⟩ := isOf hZ e26 (X_w_SAME.ext Ol0.2)
        obtain ⟨_, _, ⟨T28, L28, k28, n28⟩, -, X28, ⟨Lc28, hQ28, l28, y28, z28⟩, st28⟩ := X26.virtualBack hx (y := (⟨"com/example/neat_order/neatorder/core/graph/ProcessNeed", "allowsNewProcess", "(Z)Z"⟩ : MethodName)) (z := (⟨"com/example/neat_order/neatorder/core/graph/ProcessNeed", "allowsNewProcess", "(Z)Z"⟩ : MethodName)) hown (mvT hZ (hw _ (List.mem_of_getElem? (i := 4) rfl))) (mvT hZ (hw _ (List.mem_of_getElem? (i := 5) rfl))) (notFace_of_selects (args := #[]) (mvT hZ (hw _ (List.mem_of_getElem? (i := 7) rfl)))) (mvT hZ (hw _ (List.mem_of_getElem? (i := 7) rfl))) (mvT hZ (hw _ (List.mem_of_getElem? (i := 6) rfl))) (by decide) (backOf (W := 0) (rm1_2 l Z av0 hw [] w_SAME (1 : Int32) h0 n0 (Nat.le_trans Z0 kp0.1) (X_w_SAME.ext Ol0.2) (F_ordinal_w_SAME.ext Ol0.2)) hZ (hw _ (List.mem_of_getElem? (i := 8) rfl)) (hw _ (List.mem_of_getElem? (i := 2) rfl)) (by decide) (by decide)) q28a q28c (g := (mkF m 78 #[.val (.int p0), .val (.int p1), .val (.int ((p0 &&& (2147483647 : Int32)) % (3 : Int32))), .val (.int (1 : Int32)), .val (.ref w_SAME), .val (.int (1 : Int32)), .val (.int (0 : Int32)), .unset, .unset, .unset, .unset, .unset] [(.int (1 : Int32)), (.ref w_SAME)])) rfl (by rw [hml]; rfl) (Steps.refl _) (argsL := [(.int (1 : Int32))]) (rest := []) (lenOf pd_1 rfl) rfl (by show 2 * 0 + _ ≤ _; exact Nat.le_of_eq rfl) (hb hby at_78) (fun _ _ => ⟨rfl, e26, (by decide : 0 + 0 ≤ _), (by decide : 0 + 0 ≤ _)⟩)
        dsimp only [Pt.U, Pt.locs, Pt.cells, Pt.slots] at X28 l28 y28 z28 st28 hQ28
        subst l28 y28 z28
        obtain ⟨rfl, N28q, he28⟩ := hQ28
        have N28 := Fr.app N0 N28q
        refine OwnFin.tr st28 ?_
        show OwnFin _ _ _ _ (T28.setTop (mkF m 81 #[.val (.int p0), .val (.int p1), .val (.int ((p0 &&& (2147483647 : Int32)) % (3 : Int32))), .val (.int (1 : Int32)), .val (.ref w_SAME), .val (.int (1 : Int32)), .val (.int (0 : Int32)), .unset, .unset, .unset, .unset, .unset] [(.int (0 : Int32))]))
        refine OwnFin.st (fun _ q => XS.istore X28.here hx rfl (hb hby at_81) rfl (l' := #[.val (.int p0), .val (.int p1), .val (.int ((p0 &&& (2147483647 : Int32)) % (3 : Int32))), .val (.int (1 : Int32)), .val (.ref w_SAME), .val (.int (1 : Int32)), .val (.int (0 : Int32)), .val (.int (0 : Int32)), .unset, .unset, .unset, .unset]) rfl q) ?_
        show OwnFin _ _ _ _ (T28.setTop (mkF m 83 #[.val (.int p0), .val (.int p1), .val (.int ((p0 &&& (2147483647 : Int32)) % (3 : Int32))), .val (.int (1 : Int32)), .val (.ref w_SAME), .val (.int (1 : Int32)), .val (.int (0 : Int32)), .val (.int (0 : Int32)), .unset, .unset, .unset, .unset] []))
        refine OwnFin.st (fun _ q => XS.aload X28.here hx rfl (hb hby at_83) rfl rfl q) ?_
        show OwnFin _ _ _ _ (T28.setTop (mkF m 85 #[.val (.int p0), .val (.int p1), .val (.int ((p0 &&& (2147483647 : Int32)) % (3 : Int32))), .val (.int (1 : Int32)), .val (.ref w_SAME), .val (.int (1 : Int32)), .val (.int (0 : Int32)), .val (.int (0 : Int32)), .unset, .unset, .unset, .unset] [(.ref w_SAME)]))
        refine OwnFin.st (fun _ q => XS.iloadN X28.here hx rfl (hb hby at_85) rfl q) ?_
        show OwnFin _ _ _ _ (T28.setTop (mkF m 86 #[.val (.int p0), .val (.int p1), .val (.int ((p0 &&& (2147483647 : Int32)) % (3 : Int32))), .val (.int (1 : Int32)), .val (.ref w_SAME), .val (.int (1 : Int32)), .val (.int (0 : Int32)), .val (.int (0 : Int32)), .unset, .unset, .unset, .unset] [(.int (1 : Int32)), (.ref w_SAME)]))
        refine OwnFin.st (fun _ q => XS.ifYes X28.here hx rfl (pc0 := 86) (pc' := 93) rfl (hb hby at_86) rfl (Jvm.Free.XT.i0_ne_t (by decide : ¬ ((1 : Int32) = (0 : Int32)))) (by decide) (by decide) q) ?_
        show OwnFin _ _ _ _ (T28.setTop (mkF m 93 #[.val (.int p0), .val (.int p1), .val (.int ((p0 &&& (2147483647 : Int32)) % (3 : Int32))), .val (.int (1 : Int32)), .val (.ref w_SAME), .val (.int (1 : Int32)), .val (.int (0 : Int32)), .val (.int (0 : Int32)), .unset, .unset, .unset, .unset] [(.ref w_SAME)]))
        refine OwnFin.st (fun _ q => XS.iconst X28.here hx rfl (hb hby at_93) q) ?_
        show OwnFin _ _ _ _ (T28.setTop (mkF m 94 #[.val (.int p0), .val (.int p1), .val (.int ((p0 &&& (2147483647 : Int32)) % (3 : Int32))), .val (.int (1 : Int32)), .val (.ref w_SAME), .val (.int (1 : Int32)), .val (.int (0 : Int32)), .val (.int (0 : Int32)), .unset, .unset, .unset, .unset] [(.int (0 : Int32)), (.ref w_SAME)]))
        obtain ⟨cq29, kq29, q29a, q29b, q29c⟩ := isOf hZ he28 (X_w_SAME.ext Ol0.2)
        obtain ⟨_, _, ⟨T29, L29, k29, n29⟩, -, X29, ⟨Lc29, hQ29, l29, y29, z29⟩, st29⟩ := X28.virtualBack hx (y := (⟨"com/example/neat_order/neatorder/core/graph/ProcessNeed", "allowsNewProcess", "(Z)Z"⟩ : MethodName)) (z := (⟨"com/example/neat_order/neatorder/core/graph/ProcessNeed", "allowsNewProcess", "(Z)Z"⟩ : MethodName)) hown (mvT hZ (hw _ (List.mem_of_getElem? (i := 4) rfl))) (mvT hZ (hw _ (List.mem_of_getElem? (i := 5) rfl))) (notFace_of_selects (args := #[]) (mvT hZ (hw _ (List.mem_of_getElem? (i := 7) rfl)))) (mvT hZ (hw _ (List.mem_of_getElem? (i := 7) rfl))) (mvT hZ (hw _ (List.mem_of_getElem? (i := 6) rfl))) (by decide) (backOf (W := 0) (rm1_2 l Z av0 hw [] w_SAME (0 : Int32) h0 n0 (Nat.le_trans Z0 kp0.1) (X_w_SAME.ext Ol0.2) (F_ordinal_w_SAME.ext Ol0.2)) hZ (hw _ (List.mem_of_getElem? (i := 8) rfl)) (hw _ (List.mem_of_getElem? (i := 2) rfl)) (by decide) (by decide)) q29a q29c (g := (mkF m 94 #[.val (.int p0), .val (.int p1), .val (.int ((p0 &&& (2147483647 : Int32)) % (3 : Int32))), .val (.int (1 : Int32)), .val (.ref w_SAME), .val (.int (1 : Int32)), .val (.int (0 : Int32)), .val (.int (0 : Int32)), .unset, .unset, .unset, .unset] [(.int (0 : Int32)), (.ref w_SAME)])) rfl (by rw [hml]; rfl) (Steps.refl _) (argsL := [(.int (0 : Int32))]) (rest := []) (lenOf pd_1 rfl) rfl (by show 2 * 0 + _ ≤ _; exact Nat.le_of_eq rfl) (hb hby at_94) (fun _ _ => ⟨rfl, he28, (by decide : 0 + 0 ≤ _), (by decide : 0 + 0 ≤ _)⟩)
        dsimp only [Pt.U, Pt.locs, Pt.cells, Pt.slots] at X29 l29 y29 z29 st29 hQ29
        subst l29 y29 z29
        obtain ⟨rfl, N29q, he29⟩ := hQ29
        have N29 := Fr.app N28 N29q
        refine OwnFin.tr st29 ?_
        show OwnFin _ _ _ _ (T29.setTop (mkF m 97 #[.val (.int p0), .val (.int p1), .val (.int ((p0 &&& (2147483647 : Int32)) % (3 : Int32))), .val (.int (1 : Int32)), .val (.ref w_SAME), .val (.int (1 : Int32)), .val (.int (0 : Int32)), .val (.int (0 : Int32)), .unset, .unset, .unset, .unset] [(.int (0 : Int32))]))
        refine OwnFin.st (fun _ q => XS.istore X29.here hx rfl (hb hby at_97) rfl (l' := #[.val (.int p0), .val (.int p1), .val (.int ((p0 &&& (2147483647 : Int32)) % (3 : Int32))), .val (.int (1 : Int32)), .val (.ref w_SAME), .val (.int (1 : Int32)), .val (.int (0 : Int32)), .val (.int (0 : Int32)), .val (.int (0 : Int32)), .unset, .unset, .unset]) rfl q) ?_
        show OwnFin _ _ _ _ (T29.setTop (mkF m 99 #[.val (.int p0), .val (.int p1), .val (.int ((p0 &&& (2147483647 : Int32)) % (3 : Int32))), .val (.int (1 : Int32)), .val (.ref w_SAME), .val (.int (1 : Int32)), .val (.int (0 : Int32)), .val (.int (0 : Int32)), .val (.int (0 : Int32)), .unset, .unset, .unset] []))
        refine OwnFin.st (fun _ q => XS.iloadN X29.here hx rfl (hb hby at_99) rfl q) ?_
        show OwnFin _ _ _ _ (T29.setTop (mkF m 100 #[.val (.int p0), .val (.int p1), .val (.int ((p0 &&& (2147483647 : Int32)) % (3 : Int32))), .val (.int (1 : Int32)), .val (.ref w_SAME), .val (.int (1 : Int32)), .val (.int (0 : Int32)), .val (.int (0 : Int32)), .val (.int (0 : Int32)), .unset, .unset, .unset] [(.int (1 : Int32))]))
        refine OwnFin.st (fun _ q => XS.ifNo X29.here hx rfl (hb hby at_100) rfl (Jvm.Free.XT.i0_eq_f (by decide : ¬ ((1 : Int32) = (0 : Int32)))) q) ?_
        show OwnFin _ _ _ _ (T29.setTop (mkF m 103 #[.val (.int p0), .val (.int p1), .val (.int ((p0 &&& (2147483647 : Int32)) % (3 : Int32))), .val (.int (1 : Int32)), .val (.ref w_SAME), .val (.int (1 : Int32)), .val (.int (0 : Int32)), .val (.int (0 : Int32)), .val (.int (0 : Int32)), .unset, .unset, .unset] []))
        refine OwnFin.st (fun _ q => XS.iload X29.here hx rfl (hb hby at_103) rfl q) ?_
        show OwnFin _ _ _ _ (T29.setTop (mkF m 105 #[.val (.int p0), .val (.int p1), .val (.int ((p0 &&& (2147483647 : Int32)) % (3 : Int32))), .val (.int (1 : Int32)), .val (.ref w_SAME), .val (.int (1 : Int32)), .val (.int (0 : Int32)), .val (.int (0 : Int32)), .val (.int (0 : Int32)), .unset, .unset, .unset] [(.int (0 : Int32))]))
        refine OwnFin.st (fun _ q => XS.goto X29.here hx rfl (pc0 := 105) (pc' := 110) rfl (hb hby at_105) (by decide) (by decide) q) ?_
        show OwnFin _ _ _ _ (T29.setTop (mkF m 110 #[.val (.int p0), .val (.int p1), .val (.int ((p0 &&& (2147483647 : Int32)) % (3 : Int32))), .val (.int (1 : Int32)), .val (.ref w_SAME), .val (.int (1 : Int32)), .val (.int (0 : Int32)), .val (.int (0 : Int32)), .val (.int (0 : Int32)), .unset, .unset, .unset] [(.int (0 : Int32))]))
        refine OwnFin.st (fun _ q => XS.istore X29.here hx rfl (hb hby at_110) rfl (l' := #[.val (.int p0), .val (.int p1), .val (.int ((p0 &&& (2147483647 : Int32)) % (3 : Int32))), .val (.int (1 : Int32)), .val (.ref w_SAME), .val (.int (1 : Int32)), .val (.int (0 : Int32)), .val (.int (0 : Int32)), .val (.int (0 : Int32)), .val (.int (0 : Int32)), .unset, .unset]) rfl q) ?_
        show OwnFin _ _ _ _ (T29.setTop (mkF m 112 #[.val (.int p0), .val (.int p1), .val (.int ((p0 &&& (2147483647 : Int32)) % (3 : Int32))), .val (.int (1 : Int32)), .val (.ref w_SAME), .val (.int (1 : Int32)), .val (.int (0 : Int32)), .val (.int (0 : Int32)), .val (.int (0 : Int32)), .val (.int (0 : Int32)), .unset, .unset] []))
        refine OwnFin.st (fun _ q => XS.iloadN X29.here hx rfl (hb hby at_112) rfl q) ?_
        show OwnFin _ _ _ _ (T29.setTop (mkF m 113 #[.val (.int p0), .val (.int p1), .val (.int ((p0 &&& (2147483647 : Int32)) % (3 : Int32))), .val (.int (1 : Int32)), .val (.ref w_SAME), .val (.int (1 : Int32)), .val (.int (0 : Int32)), .val (.int (0 : Int32)), .val (.int (0 : Int32)), .val (.int (0 : Int32)), .unset, .unset] [(.int (1 : Int32))]))
        refine OwnFin.st (fun _ q => XS.ifNo X29.here hx rfl (hb hby at_113) rfl (Jvm.Free.XT.i0_eq_f (by decide : ¬ ((1 : Int32) = (0 : Int32)))) q) ?_
        show OwnFin _ _ _ _ (T29.setTop (mkF m 116 #[.val (.int p0), .val (.int p1), .val (.int ((p0 &&& (2147483647 : Int32)) % (3 : Int32))), .val (.int (1 : Int32)), .val (.ref w_SAME), .val (.int (1 : Int32)), .val (.int (0 : Int32)), .val (.int (0 : Int32)), .val (.int (0 : Int32)), .val (.int (0 : Int32)), .unset, .unset] []))
        refine OwnFin.st (fun _ q => XS.iload X29.here hx rfl (hb hby at_116) rfl q) ?_
        show OwnFin _ _ _ _ (T29.setTop (mkF m 118 #[.val (.int p0), .val (.int p1), .val (.int ((p0 &&& (2147483647 : Int32)) % (3 : Int32))), .val (.int (1 : Int32)), .val (.ref w_SAME), .val (.int (1 : Int32)), .val (.int (0 : Int32)), .val (.int (0 : Int32)), .val (.int (0 : Int32)), .val (.int (0 : Int32)), .unset, .unset] [(.int (0 : Int32))]))
        refine OwnFin.st (fun _ q => XS.goto X29.here hx rfl (pc0 := 118) (pc' := 123) rfl (hb hby at_118) (by decide) (by decide) q) ?_
        show OwnFin _ _ _ _ (T29.setTop (mkF m 123 #[.val (.int p0), .val (.int p1), .val (.int ((p0 &&& (2147483647 : Int32)) % (3 : Int32))), .val (.int (1 : Int32)), .val (.ref w_SAME), .val (.int (1 : Int32)), .val (.int (0 : Int32)), .val (.int (0 : Int32)), .val (.int (0 : Int32)), .val (.int (0 : Int32)), .unset, .unset] [(.int (0 : Int32))]))
        refine OwnFin.st (fun _ q => XS.istore X29.here hx rfl (hb hby at_123) rfl (l' := #[.val (.int p0), .val (.int p1), .val (.int ((p0 &&& (2147483647 : Int32)) % (3 : Int32))), .val (.int (1 : Int32)), .val (.ref w_SAME), .val (.int (1 : Int32)), .val (.int (0 : Int32)), .val (.int (0 : Int32)), .val (.int (0 : Int32)), .val (.int (0 : Int32)), .val (.int (0 : Int32)), .unset]) rfl q) ?_
        show OwnFin _ _ _ _ (T29.setTop (mkF m 125 #[.val (.int p0), .val (.int p1), .val (.int ((p0 &&& (2147483647 : Int32)) % (3 : Int32))), .val (.int (1 : Int32)), .val (.ref w_SAME), .val (.int (1 : Int32)), .val (.int (0 : Int32)), .val (.int (0 : Int32)), .val (.int (0 : Int32)), .val (.int (0 : Int32)), .val (.int (0 : Int32)), .unset] []))
        refine OwnFin.st (fun _ q => XS.iload X29.here hx rfl (hb hby at_125) rfl q) ?_
        show OwnFin _ _ _ _ (T29.setTop (mkF m 127 #[.val (.int p0), .val (.int p1), .val (.int ((p0 &&& (2147483647 : Int32)) % (3 : Int32))), .val (.int (1 : Int32)), .val (.ref w_SAME), .val (.int (1 : Int32)), .val (.int (0 : Int32)), .val (.int (0 : Int32)), .val (.int (0 : Int32)), .val (.int (0 : Int32)), .val (.int (0 : Int32)), .unset] [(.int (0 : Int32))]))
        refine OwnFin.st (fun _ q => XS.ifYes X29.here hx rfl (pc0 := 127) (pc' := 135) rfl (hb hby at_127) rfl (Jvm.Free.XT.i0_eq_t (rfl : (0 : Int32) = (0 : Int32))) (by decide) (by decide) q) ?_
        show OwnFin _ _ _ _ (T29.setTop (mkF m 135 #[.val (.int p0), .val (.int p1), .val (.int ((p0 &&& (2147483647 : Int32)) % (3 : Int32))), .val (.int (1 : Int32)), .val (.ref w_SAME), .val (.int (1 : Int32)), .val (.int (0 : Int32)), .val (.int (0 : Int32)), .val (.int (0 : Int32)), .val (.int (0 : Int32)), .val (.int (0 : Int32)), .unset] []))
        refine OwnFin.st (fun _ q => XS.iconst X29.here hx rfl (hb hby at_135) q) ?_
        show OwnFin _ _ _ _ (T29.setTop (mkF m 136 #[.val (.int p0), .val (.int p1), .val (.int ((p0 &&& (2147483647 : Int32)) % (3 : Int32))), .val (.int (1 : Int32)), .val (.ref w_SAME), .val (.int (1 : Int32)), .val (.int (0 : Int32)), .val (.int (0 : Int32)), .val (.int (0 : Int32)), .val (.int (0 : Int32)), .val (.int (0 : Int32)), .unset] [(.int (1 : Int32))]))
        refine OwnFin.st (fun _ q => XS.goto X29.here hx rfl (pc0 := 136) (pc' := 140) rfl (hb hby at_136) (by decide) (by decide) q) ?_
        show OwnFin _ _ _ _ (T29.setTop (mkF m 140 #[.val (.int p0), .val (.int p1), .val (.int ((p0 &&& (2147483647 : Int32)) % (3 : Int32))), .val (.int (1 : Int32)), .val (.ref w_SAME), .val (.int (1 : Int32)), .val (.int (0 : Int32)), .val (.int (0 : Int32)), .val (.int (0 : Int32)), .val (.int (0 : Int32)), .val (.int (0 : Int32)), .unset] [(.int (1 : Int32))]))
        refine OwnFin.st (fun _ q => XS.istore X29.here hx rfl (hb hby at_140) rfl (l' := #[.val (.int p0), .val (.int p1), .val (.int ((p0 &&& (2147483647 : Int32)) % (3 : Int32))), .val (.int (1 : Int32)), .val (.ref w_SAME), .val (.int (1 : Int32)), .val (.int (0 : Int32)), .val (.int (0 : Int32)), .val (.int (0 : Int32)), .val (.int (0 : Int32)), .val (.int (0 : Int32)), .val (.int (1 : Int32))]) rfl q) ?_
        show OwnFin _ _ _ _ (T29.setTop (mkF m 142 #[.val (.int p0), .val (.int p1), .val (.int ((p0 &&& (2147483647 : Int32)) % (3 : Int32))), .val (.int (1 : Int32)), .val (.ref w_SAME), .val (.int (1 : Int32)), .val (.int (0 : Int32)), .val (.int (0 : Int32)), .val (.int (0 : Int32)), .val (.int (0 : Int32)), .val (.int (0 : Int32)), .val (.int (1 : Int32))] []))
        refine OwnFin.st (fun _ q => XS.iload X29.here hx rfl (hb hby at_142) rfl q) ?_
        show OwnFin _ _ _ _ (T29.setTop (mkF m 144 #[.val (.int p0), .val (.int p1), .val (.int ((p0 &&& (2147483647 : Int32)) % (3 : Int32))), .val (.int (1 : Int32)), .val (.ref w_SAME), .val (.int (1 : Int32)), .val (.int (0 : Int32)), .val (.int (0 : Int32)), .val (.int (0 : Int32)), .val (.int (0 : Int32)), .val (.int (0 : Int32)), .val (.int (1 : Int32))] [(.int (0 : Int32))]))
        refine OwnFin.st (fun _ q => XS.iload X29.here hx rfl (hb hby at_144) rfl q) ?_
        show OwnFin _ _ _ _ (T29.setTop (mkF m 146 #[.val (.int p0), .val (.int p1), .val (.int ((p0 &&& (2147483647 : Int32)) % (3 : Int32))), .val (.int (1 : Int32)), .val (.ref w_SAME), .val (.int (1 : Int32)), .val (.int (0 : Int32)), .val (.int (0 : Int32)), .val (.int (0 : Int32)), .val (.int (0 : Int32)), .val (.int (0 : Int32)), .val (.int (1 : Int32))] [(.int (0 : Int32)), (.int (0 : Int32))]))
        refine OwnFin.st (fun _ q => XS.icmpNo X29.here hx rfl (hb hby at_146) rfl (Jvm.Free.XT.ii_ne_f (rfl : (0 : Int32) = (0 : Int32))) q) ?_
        show OwnFin _ _ _ _ (T29.setTop (mkF m 149 #[.val (.int p0), .val (.int p1), .val (.int ((p0 &&& (2147483647 : Int32)) % (3 : Int32))), .val (.int (1 : Int32)), .val (.ref w_SAME), .val (.int (1 : Int32)), .val (.int (0 : Int32)), .val (.int (0 : Int32)), .val (.int (0 : Int32)), .val (.int (0 : Int32)), .val (.int (0 : Int32)), .val (.int (1 : Int32))] []))
        refine OwnFin.st (fun _ q => XS.iload X29.here hx rfl (hb hby at_149) rfl q) ?_
        show OwnFin _ _ _ _ (T29.setTop (mkF m 151 #[.val (.int p0), .val (.int p1), .val (.int ((p0 &&& (2147483647 : Int32)) % (3 : Int32))), .val (.int (1 : Int32)), .val (.ref w_SAME), .val (.int (1 : Int32)), .val (.int (0 : Int32)), .val (.int (0 : Int32)), .val (.int (0 : Int32)), .val (.int (0 : Int32)), .val (.int (0 : Int32)), .val (.int (1 : Int32))] [(.int (1 : Int32))]))
        refine OwnFin.st (fun _ q => XS.ifNo X29.here hx rfl (hb hby at_151) rfl (Jvm.Free.XT.i0_eq_f (by decide : ¬ ((1 : Int32) = (0 : Int32)))) q) ?_
        show OwnFin _ _ _ _ (T29.setTop (mkF m 154 #[.val (.int p0), .val (.int p1), .val (.int ((p0 &&& (2147483647 : Int32)) % (3 : Int32))), .val (.int (1 : Int32)), .val (.ref w_SAME), .val (.int (1 : Int32)), .val (.int (0 : Int32)), .val (.int (0 : Int32)), .val (.int (0 : Int32)), .val (.int (0 : Int32)), .val (.int (0 : Int32)), .val (.int (1 : Int32))] []))
        refine OwnFin.st (fun _ q => XS.iconst X29.here hx rfl (hb hby at_154) q) ?_
        show OwnFin _ _ _ _ (T29.setTop (mkF m 155 #[.val (.int p0), .val (.int p1), .val (.int ((p0 &&& (2147483647 : Int32)) % (3 : Int32))), .val (.int (1 : Int32)), .val (.ref w_SAME), .val (.int (1 : Int32)), .val (.int (0 : Int32)), .val (.int (0 : Int32)), .val (.int (0 : Int32)), .val (.int (0 : Int32)), .val (.int (0 : Int32)), .val (.int (1 : Int32))] [(.int (1 : Int32))]))
        refine OwnFin.st (fun _ q => XS.goto X29.here hx rfl (pc0 := 155) (pc' := 159) rfl (hb hby at_155) (by decide) (by decide) q) ?_
        show OwnFin _ _ _ _ (T29.setTop (mkF m 159 #[.val (.int p0), .val (.int p1), .val (.int ((p0 &&& (2147483647 : Int32)) % (3 : Int32))), .val (.int (1 : Int32)), .val (.ref w_SAME), .val (.int (1 : Int32)), .val (.int (0 : Int32)), .val (.int (0 : Int32)), .val (.int (0 : Int32)), .val (.int (0 : Int32)), .val (.int (0 : Int32)), .val (.int (1 : Int32))] [(.int (1 : Int32))]))
        obtain ⟨fs, hr, hrun, hended, hW, hsame⟩ := X29.leave (v := some (.int (1 : Int32))) (fun h => by rw [Bd.returns] at h; cases h)
        refine ⟨_, _, retN X29 hx (t := .boolean) Bd.returns (by simp) (hb hby at_159) hr, hrun, hended, _, _, rfl, ?_, ⟨_, rfl⟩, hW, hsame.mono (by decide) (by decide)⟩
        show Q_rm0 Z p0 p1 w_NONE w_ENDED w_SAME h0 n0 _ T29.heap _
        rw [he29]
        exact ⟨rfl, N29⟩
set_option maxRecDepth 65536 in
set_option maxHeartbeats 40000000 in
theorem comes_1 {Post : Tables → Env → Array Value → State → Outcome → State → Prop} (hpost : ∀ tb e args s v u, (limb_1_1.after args s (.returned v) u = true ∧ limb_1_2.after args s (.returned v) u = true ∧ True) → FrameEnd s (.returned v) u (Jvm.fieldLocs frame_1_writes args s ++ Jvm.arrayLocs frame_1_arrays args s ++ Jvm.staticLocs frame_1_statics s) 0 0 → Post tb e args s (.returned v) u) :
    ArmFor flags0 classFile x code maxLocals ret World_1 tables_1 room_1 Calls_1 rest_1 Pre_1 Post := by
  intro l hfl _ _ p e ha hc hk s m args below hf hA hF happ hP
  obtain ⟨hcalls, hrest, hpre⟩ := hP
  obtain ⟨-, -, -, hnamed, -, -, -, hat⟩ := (Spec.applies_iff hf).mp happ
  obtain ⟨hg, hn⟩ := and_e (Cond.before_iff.mp (show (Jvm.Cond.and given_1 narrow_1).before args s = true from hpre))
  obtain ⟨y1, y2⟩ := and_e hg
  obtain ⟨y3, y4⟩ := and_e y2
  obtain ⟨y5, y6⟩ := and_e hn
  obtain ⟨y7, y8⟩ := and_e y6
  obtain ⟨y9, y10⟩ := and_e y8
  obtain ⟨y11, y12⟩ := and_e y10
  obtain ⟨y13, y14⟩ := and_e y12
  obtain ⟨v0, v1, rfl⟩ : ∃ v0 v1 : Value, args = #[v0, v1] := by
    have hs : args.size = 2 := by simpa [Cond.value, given_1] using y1
    obtain ⟨L⟩ := args
    match L, hs with
    | [v0, v1], _ => exact ⟨v0, v1, rfl⟩
  have hw := fun d (hd : d ∈ tables_1) => atoms_spec (ws := Jvm.Cond.code x code maxLocals ret :: tables_1) hat d (List.mem_cons_of_mem _ hd)
  have hfit : Fit s := fun {y c} hc i hi => by
    obtain ⟨ha, rfl⟩ := Array.getElem?_eq_some_iff.mp hc
    have q := List.all_eq_true.mp ((Array.all_eq_true_iff_forall_mem.mp hF) _ (Array.getElem_mem ha)) i (List.mem_range.mpr hi)
    simpa [Array.getElem?_eq_getElem hi] using q
  obtain ⟨i0, ei0⟩ := is_v y3
  obtain rfl : v0 = (.int i0) := Option.some.inj ei0
  obtain ⟨i1, ei1⟩ := is_v y4
  obtain rfl : v1 = (.int i1) := Option.some.inj ei1
  obtain ⟨st_NONE, ev_NONE⟩ := exa_v y5
  have Sx_NONE : Sta s s.heap "com/example/neat_order/neatorder/core/graph/ProcessNeed" "NONE" "Lcom/example/neat_order/neatorder/core/graph/ProcessNeed;" (.ref st_NONE) := Sta.start ev_NONE (Or.inr ⟨(hw _ (List.mem_of_getElem? (i := 2) rfl)), (hw _ (List.mem_of_getElem? (i := 3) rfl))⟩)
  have Xx_NONE : Exa s s.heap st_NONE "com/example/neat_order/neatorder/core/graph/ProcessNeed" := Exa.start ev_NONE y5
  obtain ⟨st_SAME, ev_SAME⟩ := exa_v y9
  have Sx_SAME : Sta s s.heap "com/example/neat_order/neatorder/core/graph/ProcessNeed" "SAME" "Lcom/example/neat_order/neatorder/core/graph/ProcessNeed;" (.ref st_SAME) := Sta.start ev_SAME (Or.inr ⟨(hw _ (List.mem_of_getElem? (i := 2) rfl)), (hw _ (List.mem_of_getElem? (i := 19) rfl))⟩)
  have Xx_SAME : Exa s s.heap st_SAME "com/example/neat_order/neatorder/core/graph/ProcessNeed" := Exa.start ev_SAME y9
  obtain ⟨st_ENDED, ev_ENDED⟩ := exa_v y13
  have Sx_ENDED : Sta s s.heap "com/example/neat_order/neatorder/core/graph/ProcessNeed" "ENDED" "Lcom/example/neat_order/neatorder/core/graph/ProcessNeed;" (.ref st_ENDED) := Sta.start ev_ENDED (Or.inr ⟨(hw _ (List.mem_of_getElem? (i := 2) rfl)), (hw _ (List.mem_of_getElem? (i := 21) rfl))⟩)
  have Xx_ENDED : Exa s s.heap st_ENDED "com/example/neat_order/neatorder/core/graph/ProcessNeed" := Exa.start ev_ENDED y13
  have Fx_NONE_ordinal : Fld s s.heap st_NONE "java/lang/Enum" "ordinal" "I" (.int 0) := by
    obtain ⟨x1, y1, e1, e2, -, -⟩ := cmp_v (Or.inl y7)
    cases e2.symm.trans (Term.int_eval (0))
    have e3 : x1 = .int 0 := own_eqv y7 e1
    subst e3
    exact Fld.start ((fld_at ev_NONE).symm.trans e1)
  have Fx_SAME_ordinal : Fld s s.heap st_SAME "java/lang/Enum" "ordinal" "I" (.int 2) := by
    obtain ⟨x1, y1, e1, e2, -, -⟩ := cmp_v (Or.inl y11)
    cases e2.symm.trans (Term.int_eval (2))
    have e3 : x1 = .int 2 := own_eqv y11 e1
    subst e3
    exact Fld.start ((fld_at ev_SAME).symm.trans e1)
  have Fx_ENDED_ordinal : Fld s s.heap st_ENDED "java/lang/Enum" "ordinal" "I" (.int 1) := by
    obtain ⟨x1, y1, e1, e2, -, -⟩ := cmp_v (Or.inl y14)
    cases e2.symm.trans (Term.int_eval (1))
    have e3 : x1 = .int 1 := own_eqv y14 e1
    subst e3
    exact Fld.start ((fld_at ev_ENDED).symm.trans e1)
  obtain ⟨n, o, h1, h2, h3, _, L, rfl, ⟨rfl, N⟩, hq⟩ := rm0 l s _ hw tables_1 i0 i1 st_NONE st_ENDED st_SAME s.heap s.heap.size (Nat.le_refl _) (Old.start s) Sx_NONE Xx_NONE Fx_NONE_ordinal Sx_ENDED Xx_ENDED Fx_ENDED_ordinal Sx_SAME Xx_SAME Fx_SAME_ordinal p e ha hc hk s m _ below hf ((Spec.applies_iff_loose hf).mp happ).1 ⟨rfl, State.Warmed39.refl s, rfl⟩ trivial
  refine ⟨n, _, h1, h2, h3, hpost _ _ _ _ _ _ ⟨Cond.after_iff.mpr rfl, Cond.after_iff.mpr (eq_i res_at (Term.int_eval (1)) rfl), trivial⟩ ⟨hq.1, hq.2.1, (hq.2.2.sift fun y hy => Or.inr (N y hy)).mono (by decide) (by decide)⟩⟩
theorem main_1_1 : Claimed_1_1 := comes_1 fun _ _ _ _ _ _ h hF => ⟨h.1, hF⟩
theorem main_1_2 : Claimed_1_2 := comes_1 fun _ _ _ _ _ _ h hF => ⟨h.2.1, hF⟩
end Jvm.Pilot.@@N@@
namespace Jvm.Pilot.@@N@@
open Jvm Jvm.ClassFile Sem Op Lib Jvm.Free Jvm.Stand Jvm.Pilot.@@N@@.Jvm.D
/-! MADE BY PROGRAM (witnessworld.py) out of the Statement's table words and the real class files: 12 classes; the members and pool entries that the words name. The judged class is class 1, her method 1. -/
namespace start1
open Jvm.ClassFile
def u (s : String) : CpInfo := .utf8 (stringToUtf16 s)
/-- a pool by its gaps: so many unusable entries, then the entry; so many at the end -/
def gap : Nat → List CpInfo → List CpInfo
  | 0, r => r
  | n + 1, r => .unusable :: gap n r
def poolList (es : List (Nat × CpInfo)) (last : Nat) : List CpInfo := es.foldr (fun e r => gap e.1 (e.2 :: r)) (gap last [])
def pool (es : List (Nat × CpInfo)) (last : Nat) : Array CpInfo := ⟨poolList es last⟩
def fileOf (pool : Array CpInfo) (this : Nat) (attrs : Array Attribute := #[]) (ms : Array MethodInfo := #[]) (fl : Nat := 33) (sup : Nat := 0) (ifs : Array Nat := #[]) (fds : Array FieldInfo := #[]) : ClassFile where
  minorVersion := 0
  majorVersion := 65
  constantPool := pool
  accessFlags := fl
  thisClass := this
  superClass := sup
  interfaces := ifs
  fields := fds
  methods := ms
  attributes := attrs
def plain (name : String) (sup : Option ClassId) : Class where
  name := name
  kind := .ordinary
  loader := none
  accessFlags := 33
  super := sup
  interfaces := #[]
  cf := none
  fields := #[]
  methods := #[]
  instanceTypes := #[]
  staticTypes := #[]
  resolved := #[]
  callSites := []
  init := .initialized
  statics := none
  mirror := none

def pool0 : Array CpInfo := pool [(5, u "<init>"), (0, u "()V"), (1, .class_ 10), (1, u "java/lang/Object")] 113

def k0m0 : Method := { name := "<init>", desc := "()V", sig := { parameters := [], returnType := none }, accessFlags := 1, code := none }
/-- java/lang/Object -/
def k0 : Class := { plain "java/lang/Object" none with
  accessFlags := 33
  interfaces := #[]
  cf := some (fileOf pool0 8 #[] #[{ accessFlags := 1, nameIndex := 5, descriptorIndex := 6, attributes := #[] }] 33 0 #[] #[])
  fields := #[]
  methods := #[k0m0]
  instanceTypes := #[]
  staticTypes := #[]
  resolved := Array.replicate 124 none
  statics := none }

def pool1 : Array CpInfo := pool [(2, .class_ 4), (1, u "java/lang/Object"), (0, u "<init>"), (0, u "()V"), (0, .integer 2147483647), (0, .fieldref 9 10), (0, .class_ 11), (0, .nameAndType 12 13), (0, u "com/example/neat_order/neatorder/core/graph/ProcessNeed"), (0, u "NONE"), (0, u "Lcom/example/neat_order/neatorder/core/graph/ProcessNeed;"), (0, .fieldref 9 15), (0, .nameAndType 16 13), (0, u "ENDED"), (0, .fieldref 9 18), (0, .nameAndType 19 13), (0, u "SAME"), (0, .methodref 9 21), (0, .nameAndType 22 23), (0, u "allowsNewProcess"), (0, u "(Z)Z"), (0, .class_ 25), (0, u "com/example/neat_order/neatorder/core/graph/ProcessNeedAllowsNewProcessPinLaw"), (2, u "law"), (0, u "(II)Z")] 3

def k1m0 : Method := { name := "<init>", desc := "()V", sig := { parameters := [], returnType := none }, accessFlags := 2, code := none }
def k1c1 : Code := { maxStack := 2, maxLocals := 12, code := code, exceptionTable := #[], attributes := #[] }
def k1m1 : Method := { name := "law", desc := "(II)Z", sig := { parameters := [.int, .int], returnType := some .boolean }, accessFlags := 9, code := some k1c1 }
/-- com/example/neat_order/neatorder/core/graph/ProcessNeedAllowsNewProcessPinLaw -/
def k1 : Class := { plain "com/example/neat_order/neatorder/core/graph/ProcessNeedAllowsNewProcessPinLaw" (some 0) with
  accessFlags := 49
  interfaces := #[]
  cf := some (fileOf pool1 24 #[] #[{ accessFlags := 2, nameIndex := 5, descriptorIndex := 6, attributes := #[] }, { accessFlags := 9, nameIndex := 28, descriptorIndex := 29, attributes := #[] }] 49 2 #[] #[])
  fields := #[]
  methods := #[k1m0, k1m1]
  instanceTypes := #[]
  staticTypes := #[]
  resolved := Array.replicate 33 none
  statics := none }

def pool2 : Array CpInfo := pool [(1, .class_ 2), (0, u "java/lang/constant/Constable"), (0, .class_ 4), (0, u "java/lang/Object")] 6

/-- java/lang/constant/Constable -/
def k2 : Class := { plain "java/lang/constant/Constable" (some 0) with
  accessFlags := 1537
  interfaces := #[]
  cf := some (fileOf pool2 1 #[] #[] 1537 3 #[] #[])
  fields := #[]
  methods := #[]
  instanceTypes := #[]
  staticTypes := #[]
  resolved := Array.replicate 11 none
  statics := none }

def pool3 : Array CpInfo := pool [(1, .class_ 2), (0, u "java/lang/Comparable"), (0, .class_ 4), (0, u "java/lang/Object")] 7

/-- java/lang/Comparable -/
def k3 : Class := { plain "java/lang/Comparable" (some 0) with
  accessFlags := 1537
  interfaces := #[]
  cf := some (fileOf pool3 1 #[] #[] 1537 3 #[] #[])
  fields := #[]
  methods := #[]
  instanceTypes := #[]
  staticTypes := #[]
  resolved := Array.replicate 12 none
  statics := none }

def pool4 : Array CpInfo := pool [(1, .class_ 2), (0, u "java/io/Serializable"), (0, .class_ 4), (0, u "java/lang/Object")] 2

/-- java/io/Serializable -/
def k4 : Class := { plain "java/io/Serializable" (some 0) with
  accessFlags := 1537
  interfaces := #[]
  cf := some (fileOf pool4 1 #[] #[] 1537 3 #[] #[])
  fields := #[]
  methods := #[]
  instanceTypes := #[]
  staticTypes := #[]
  resolved := Array.replicate 7 none
  statics := none }

def pool5 : Array CpInfo := pool [(2, .class_ 4), (1, u "java/lang/Enum"), (0, u "name"), (0, u "Ljava/lang/String;"), (0, .fieldref 2 8), (0, .nameAndType 9 10), (0, u "ordinal"), (0, u "I"), (1, .class_ 14), (1, u "java/lang/Object"), (4, u "hash"), (86, .class_ 108), (1, u "java/lang/Enum$EnumDesc"), (2, .class_ 112), (0, u "java/lang/constant/Constable"), (0, .class_ 114), (0, u "java/lang/Comparable"), (0, .class_ 116), (0, u "java/io/Serializable"), (9, u "()I")] 77

def k5c0 : Code := { maxStack := 1, maxLocals := 1, code := jdk_37_method_2_code, exceptionTable := #[], attributes := #[] }
def k5m0 : Method := { name := "ordinal", desc := "()I", sig := { parameters := [], returnType := some .int }, accessFlags := 17, code := some k5c0 }
/-- java/lang/Enum -/
def k5 : Class := { plain "java/lang/Enum" (some 0) with
  accessFlags := 1057
  interfaces := #[2, 3, 4]
  cf := some (fileOf pool5 2 #[.nestMembers #[106]] #[{ accessFlags := 17, nameIndex := 9, descriptorIndex := 126, attributes := #[] }] 1057 12 #[111, 113, 115] #[{ accessFlags := 18, nameIndex := 5, descriptorIndex := 6, attributes := #[] }, { accessFlags := 18, nameIndex := 9, descriptorIndex := 10, attributes := #[] }, { accessFlags := 2, nameIndex := 19, descriptorIndex := 10, attributes := #[] }])
  fields := #[{ name := "name", type := (.object "java/lang/String"), accessFlags := 18, slot := 0, constantValue := 0 }, { name := "ordinal", type := .int, accessFlags := 18, slot := 1, constantValue := 0 }, { name := "hash", type := .int, accessFlags := 2, slot := 2, constantValue := 0 }]
  methods := #[k5m0]
  instanceTypes := #[(.object "java/lang/String"), .int, .int]
  staticTypes := #[]
  resolved := Array.replicate 204 none
  statics := none }

def pool6 : Array CpInfo := pool [(1, .class_ 2), (0, u "com/example/neat_order/neatorder/core/graph/ProcessNeed"), (2, u "NONE"), (0, u "Lcom/example/neat_order/neatorder/core/graph/ProcessNeed;"), (2, u "ENDED"), (2, u "SAME"), (2, u "$VALUES"), (0, u "[Lcom/example/neat_order/neatorder/core/graph/ProcessNeed;"), (6, .class_ 25), (1, u "java/lang/Enum"), (8, u "label"), (0, u "Ljava/lang/String;"), (2, u "member"), (0, .methodref 1 40), (0, .nameAndType 41 42), (0, u "ordinal"), (0, u "()I"), (30, u "allowsNewProcess"), (0, u "(Z)Z")] 9

def k6c0 : Code := { maxStack := 4, maxLocals := 2, code := prog_23_method_4_code, exceptionTable := #[], attributes := #[] }
def k6m0 : Method := { name := "allowsNewProcess", desc := "(Z)Z", sig := { parameters := [.boolean], returnType := some .boolean }, accessFlags := 1, code := some k6c0 }
/-- com/example/neat_order/neatorder/core/graph/ProcessNeed -/
def k6 : Class := { plain "com/example/neat_order/neatorder/core/graph/ProcessNeed" (some 5) with
  accessFlags := 16433
  interfaces := #[]
  cf := some (fileOf pool6 1 #[] #[{ accessFlags := 1, nameIndex := 73, descriptorIndex := 74, attributes := #[] }] 16433 23 #[] #[{ accessFlags := 16409, nameIndex := 5, descriptorIndex := 6, attributes := #[] }, { accessFlags := 16409, nameIndex := 9, descriptorIndex := 6, attributes := #[] }, { accessFlags := 16409, nameIndex := 12, descriptorIndex := 6, attributes := #[] }, { accessFlags := 18, nameIndex := 34, descriptorIndex := 35, attributes := #[] }, { accessFlags := 18, nameIndex := 38, descriptorIndex := 35, attributes := #[] }, { accessFlags := 4122, nameIndex := 15, descriptorIndex := 16, attributes := #[] }])
  fields := #[{ name := "NONE", type := (.object "com/example/neat_order/neatorder/core/graph/ProcessNeed"), accessFlags := 16409, slot := 0, constantValue := 0 }, { name := "ENDED", type := (.object "com/example/neat_order/neatorder/core/graph/ProcessNeed"), accessFlags := 16409, slot := 1, constantValue := 0 }, { name := "SAME", type := (.object "com/example/neat_order/neatorder/core/graph/ProcessNeed"), accessFlags := 16409, slot := 2, constantValue := 0 }, { name := "label", type := (.object "java/lang/String"), accessFlags := 18, slot := 3, constantValue := 0 }, { name := "member", type := (.object "java/lang/String"), accessFlags := 18, slot := 4, constantValue := 0 }, { name := "$VALUES", type := (.array (.object "com/example/neat_order/neatorder/core/graph/ProcessNeed")), accessFlags := 4122, slot := 3, constantValue := 0 }]
  methods := #[k6m0]
  instanceTypes := #[(.object "java/lang/String"), .int, .int, (.object "java/lang/String"), (.object "java/lang/String")]
  staticTypes := #[(.object "com/example/neat_order/neatorder/core/graph/ProcessNeed"), (.object "com/example/neat_order/neatorder/core/graph/ProcessNeed"), (.object "com/example/neat_order/neatorder/core/graph/ProcessNeed"), (.array (.object "com/example/neat_order/neatorder/core/graph/ProcessNeed"))]
  resolved := Array.replicate 84 none
  statics := some 0 }

def pool7 : Array CpInfo := pool [(1, u "java/lang/Cloneable"), (0, .class_ 1), (0, u "java/lang/Object"), (0, .class_ 3)] 3

/-- java/lang/Cloneable -/
def k7 : Class := { plain "java/lang/Cloneable" (some 0) with
  accessFlags := 1537
  interfaces := #[]
  cf := some (fileOf pool7 2 #[] #[] 1537 4 #[] #[])
  fields := #[]
  methods := #[]
  instanceTypes := #[]
  staticTypes := #[]
  resolved := Array.replicate 8 none
  statics := none }

/-- the primitive byte -/
def k8 : Class := { plain "byte" none with kind := .primitive 'B', accessFlags := 0x411 }
/-- [B -/
def k9 : Class := { plain "[B" (some 0) with kind := .array 8 .byte, interfaces := #[7, 4], accessFlags := 1041 }

/-- the primitive int -/
def k10 : Class := { plain "int" none with kind := .primitive 'I', accessFlags := 0x411 }
/-- [I -/
def k11 : Class := { plain "[I" (some 0) with kind := .array 10 .int, interfaces := #[7, 4], accessFlags := 1041 }

def heap : Heap := #[{ cls := 6, slots := #[.ref 1, .ref 2, .ref 3, .null], vm := .statics 6 },
  { cls := 6, slots := #[.null, .int 0, .int 0, .null, .null], vm := .none },
  { cls := 6, slots := #[.null, .int 1, .int 0, .null, .null], vm := .none },
  { cls := 6, slots := #[.null, .int 2, .int 0, .null, .null], vm := .none }]
def classes : Array Class := #[k0, k1, k2, k3, k4, k5, k6, k7, k8, k9, k10, k11]
def interned : List (Array UInt16 × Addr) := []
def slotsUsed : Nat := 19
def theMethod : MethodId := ⟨1, 1⟩
def args0 : Array Value := #[.int 5, .int 1]
def aboutOver (below : List Frame) : State where
  vm := { classes := classes, interned := interned.toArray }
  heap := heap
  slotsUsed := slotsUsed
  threads := #[{ frames := .invoking theMethod args0 :: below }]
def below0 : List Frame := [.native { method := ⟨0, 0⟩, args := #[] }]
def about1 : State := aboutOver below0
def p0 : Program := .bare "" "" ""
def e0 : Env := launch0.env 0 0 0
theorem w_frames : about1.frames = Frame.invoking theMethod args0 :: below0 := rfl
set_option maxRecDepth 65536 in
theorem w_args : argsFit about1.vm theMethod args0 = true := by decide +kernel
set_option maxRecDepth 65536 in
theorem w_heap : heapFits about1 = true := by decide +kernel
set_option maxRecDepth 65536 in
theorem w_runnable : about1.curStatus? = some .runnable := by decide +kernel
set_option maxRecDepth 65536 in
theorem w_alone : about1.alone = true := by decide +kernel
set_option maxRecDepth 65536 in
theorem w_named : about1.methodNamed? x = some theMethod := by decide +kernel
set_option maxRecDepth 65536 in
theorem w_hears : about1.hears theMethod below0 = true := by decide +kernel
set_option maxRecDepth 65536 in
theorem w_ripe : about1.ripe theMethod args0 below0 = true := by decide +kernel
theorem w_running : about1.status = .running := rfl
set_option maxRecDepth 65536 in
theorem w_room : about1.hasRoom e0.platform room_1 = true :=
  launch0.hasRoom_least _ room_1 (by decide +kernel) (by decide +kernel) (by decide +kernel) (by decide +kernel) (by decide +kernel) (by decide +kernel)
theorem allAtoms_all (ts : List Jvm.Cond) (a : Array Jvm.Value) (st : Jvm.State) : (allAtoms ts).before a st = ts.all (fun c => c.before a st) := by
  induction ts with
  | nil => rfl
  | cons c t ih =>
    show (Jvm.Cond.and c (allAtoms t)).before a st = _
    rw [Jvm.Cond.before_and, ih, List.all_cons]
def words1 : List Jvm.Cond := Jvm.Cond.code x code maxLocals ret :: tables_1
/-- a 'code' word, met by the world's own term for the bytes: nothing is compared byte by byte -/
theorem code_word {y : MethodName} {bytes : ByteArray} {mx : Nat} {rt : Option FieldType} {a : Array Value} {s : State} {m : MethodId} {meth : Method} {c : Code} (h1 : s.methodNamed? y = some m) (h2 : s.vm.method? m = some meth) (h3 : meth.code = some c) (h4 : c.code = bytes)
    (h5 : (c.maxLocals == mx && c.exceptionTable.isEmpty && decide (c.maxStack ≤ mostOperands) && decide (meth.sig.returnType = rt) && !meth.locks && decide (parseMethodDescriptor y.desc = some meth.sig)) = true) : (Jvm.Cond.code y bytes mx rt).before a s = true := by
  simp only [Bool.and_eq_true, beq_iff_eq, Bool.not_eq_true', decide_eq_true_eq] at h5
  obtain ⟨⟨⟨⟨⟨g1, g2⟩, g3⟩, g4⟩, g5⟩, g6⟩ := h5
  simp [Cond.before, Cond.holds, Cond.value, h1, h2, h3, h4, g1, g2, g3, g4, g5, g6]
def isCode : Jvm.Cond → Bool
  | .code _ _ _ _ => true
  | _ => false
theorem all_split {L : List Jvm.Cond} {P : Jvm.Cond → Bool} (h1 : L.all (fun c => isCode c || P c) = true) (h2 : ∀ c ∈ L.filter isCode, P c = true) : L.all P = true := by
  refine List.all_eq_true.mpr fun c hc => ?_
  have h := List.all_eq_true.mp h1 c hc
  rcases Bool.eq_false_or_eq_true (isCode c) with hi | hi
  · exact h2 c (List.mem_filter.mpr ⟨hc, hi⟩)
  · simpa [hi] using h
set_option maxRecDepth 65536 in
theorem w_c0 : (Jvm.Cond.code x code maxLocals ret).before args0 about1 = true := code_word (m := ⟨1, 1⟩) (meth := k1m1) (c := k1c1) (by decide +kernel) rfl rfl rfl (by decide +kernel)
set_option maxRecDepth 65536 in
theorem w_c1 : (Jvm.Cond.code ({ cls := "com/example/neat_order/neatorder/core/graph/ProcessNeed", name := "allowsNewProcess", desc := "(Z)Z" } : Jvm.MethodName) prog_23_method_4_code (2 : Nat) (Option.some Jvm.ClassFile.FieldType.boolean)).before args0 about1 = true := code_word (m := ⟨6, 0⟩) (meth := k6m0) (c := k6c0) (by decide +kernel) rfl rfl rfl (by decide +kernel)
set_option maxRecDepth 65536 in
theorem w_c2 : (Jvm.Cond.code ({ cls := "java/lang/Enum", name := "ordinal", desc := "()I" } : Jvm.MethodName) jdk_37_method_2_code (1 : Nat) (Option.some Jvm.ClassFile.FieldType.int)).before args0 about1 = true := code_word (m := ⟨5, 0⟩) (meth := k5m0) (c := k5c0) (by decide +kernel) rfl rfl rfl (by decide +kernel)
def codes1 : List Jvm.Cond := [Jvm.Cond.code x code maxLocals ret, Jvm.Cond.code ({ cls := "com/example/neat_order/neatorder/core/graph/ProcessNeed", name := "allowsNewProcess", desc := "(Z)Z" } : Jvm.MethodName) prog_23_method_4_code (2 : Nat) (Option.some Jvm.ClassFile.FieldType.boolean), Jvm.Cond.code ({ cls := "java/lang/Enum", name := "ordinal", desc := "()I" } : Jvm.MethodName) jdk_37_method_2_code (1 : Nat) (Option.some Jvm.ClassFile.FieldType.int)]
set_option maxRecDepth 65536 in
theorem codes_eq : words1.filter isCode = codes1 := rfl
theorem w_codes : ∀ c ∈ words1.filter isCode, c.before args0 about1 = true := by
  rw [codes_eq]
  intro c hc
  simp only [codes1, List.mem_cons, List.not_mem_nil, or_false] at hc
  rcases hc with rfl | rfl | rfl
  · exact w_c0
  · exact w_c1
  · exact w_c2
set_option maxRecDepth 65536 in
theorem w_t1 : words1.all (fun c => isCode c || c.before args0 about1) = true := by decide +kernel
theorem w_tables : (allAtoms (Jvm.Cond.code x code maxLocals ret :: tables_1)).before args0 about1 = true := by
  rw [allAtoms_all]
  show words1.all (fun c => c.before args0 about1) = true
  refine all_split ?_ w_codes
  rw [w_t1]
set_option maxRecDepth 65536 in
theorem w_case : (Jvm.Cond.and given_1 narrow_1).before args0 about1 = true := by decide +kernel
theorem w_applies : (headSpec (Jvm.Cond.code x code maxLocals ret :: tables_1) room_1).applies x e0.platform about1 = true :=
  (Spec.applies_iff w_frames).mpr ⟨w_running, w_runnable, w_alone, w_named, w_hears, w_ripe, w_room, w_tables⟩
theorem atStart : AtStart classFile x code maxLocals ret World_1 tables_1 room_1 Calls_1 rest_1 Pre_1 launch0 p0 e0 about1 theMethod args0 below0 :=
  ⟨lists_1, trivial, launch0.admits_env _ _ _, launch0.least_env, fairChoices_fair.cas, fairChoices_fair.clock, w_frames, w_args, w_heap, w_applies, trivial, trivial, w_case⟩
end start1
theorem witness_1 : WitnessClaimed_1 := ⟨start1.p0, start1.e0, start1.about1, start1.theMethod, start1.args0, start1.below0, start1.atStart⟩
end Jvm.Pilot.@@N@@
