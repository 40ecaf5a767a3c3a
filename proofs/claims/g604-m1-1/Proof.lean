import JvmDerived
import JvmDerived.Pilot.@@N@@Statement
import JvmDerived.Pilot.@@N@@Code
set_option linter.unusedVariables false
set_option linter.unusedSimpArgs false
namespace Jvm.RoadKit
open Sem ClassFile Op Lib Jvm.Stand Jvm.Free Jvm.LawKit
section New
variable {p : Program} {l : Launch} {e : Env} {R : Room} {s : State} {m : MethodId} {args : Array Value} {below : List Frame} {meth : Method} {c : Code} {T : State} {locs : List Loc} {cells slots : Nat}
theorem retI (X : Stand p l e R s m args below meth c T locs cells slots) (hx : p.tables.exec = Jvm.exec) {pc : Nat} {Ls : Array Slot} {z : Int32} {rest : List Value} (hret : meth.sig.returnType = some .int) (hd : decode c.code pc = .ok (.ireturn, 1)) {fs : List Frame}
    (hl : ∀ (f : JFrame) (acts : List Action), f.method = m → f.locked = none → f.entered = [] → (doReturn e (T.setTop f) acts (some (.int z))).1 = T.setFrames fs) : Steps p.tables e below (T.setTop (mkF m pc Ls (.int z :: rest))) (T.setFrames fs) := by
  have hm' : T.vm.method? m = some meth := X.method'
  have hn : narrow .int (.int z) = .int z := rfl
  show Steps p.tables e below (T.setTop { method := m, pc := pc, locals := Ls, stack := _ :: rest, locked := none }) _
  jvm_step X.here [X.here.top, hx, hd, hm', hret, hn]
  first | (intro acts; rw [hl _ acts rfl rfl rfl]) | rw [hl _ _ rfl rfl rfl]
  exact Steps.refl _
end New
end Jvm.RoadKit
namespace Jvm.Pilot.@@N@@
open Jvm Jvm.ClassFile Sem Op Lib Jvm.Free Jvm.Stand Jvm.LawKit Jvm.RoadKit Bundle Jvm.Pilot.@@N@@.Jvm.D
def OwnFin (tb : Tables) (e : Env) (below : List Frame) (G : Outcome → State → Prop) (t : State) : Prop := ∃ s₂ o, Steps tb e below t s₂ ∧ s₂.status = .running ∧ Ended s₂ below o ∧ G o s₂
theorem OwnFin.st {tb : Tables} {e : Env} {below : List Frame} {G : Outcome → State → Prop} {t t' : State} (k : ∀ target, Steps tb e below t' target → Steps tb e below t target) (h : OwnFin tb e below G t') : OwnFin tb e below G t := by
  obtain ⟨s2, o, h1, h2⟩ := h
  exact ⟨s2, o, k _ h1, h2⟩
theorem OwnFin.tr {tb : Tables} {e : Env} {below : List Frame} {G : Outcome → State → Prop} {t t' : State} (k : Steps tb e below t t') (h : OwnFin tb e below G t') : OwnFin tb e below G t := by
  obtain ⟨s2, o, h1, h2⟩ := h
  exact ⟨s2, o, k.trans h1, h2⟩
theorem own_eqv {args : Array Value} {first s : State} {o : Option Outcome} {idx : List Nat} {t : Term} {n : Int32} {x : Value} (h : (Jvm.Cond.eq t (Term.int n)).value args first o s idx = some true) (e : t.eval args first o idx s = some x) : x = .int n := by
  cases x <;> simp_all [Cond.value, Term.eval]
theorem own_wS {Z : State} {a0 : Array Value} (hw : ∀ d ∈ tables_1, d.before a0 Z = true) : ∀ a ∈ Bundle.stringAtoms, a.before a0 Z = true := by
  intro a ha
  simp only [Bundle.stringAtoms, List.mem_cons, List.not_mem_nil, or_false] at ha
  rcases ha with rfl | rfl | rfl | rfl | rfl | rfl | rfl
  · exact (hw _ (List.mem_of_getElem? (i := 19) rfl))
  · exact (hw _ (List.mem_of_getElem? (i := 20) rfl))
  · exact (hw _ (List.mem_of_getElem? (i := 21) rfl))
  · exact (hw _ (List.mem_of_getElem? (i := 22) rfl))
  · exact (hw _ (List.mem_of_getElem? (i := 23) rfl))
  · exact (hw _ (List.mem_of_getElem? (i := 24) rfl))
  · exact (hw _ (List.mem_of_getElem? (i := 25) rfl))
theorem d2_0 : decode jdk_30_method_1_code 0 = .ok (.aload_n 0, 1) := by decide +kernel
theorem d2_1 : decode jdk_30_method_1_code 1 = .ok (.invokespecial 1, 3) := by decide +kernel
theorem d2_4 : decode jdk_30_method_1_code 4 = .ok (.return_, 1) := by decide +kernel
theorem pn_0 : plainName "java/lang/Record" = true := by first | (simp [plainName, overriddenIn]; done) | decide +kernel
theorem ef_rm2 (m : MethodId) (a0 : Addr) : entryFrame m #[(.ref a0)] 1 = mkF m 0 #[.val (.ref a0)] [] := by first | (simp [entryFrame, mkF, argsToLocals, Value.category]; done) | rfl
def Q_rm2 (Z : State) (a0 : Addr) (h0 : Heap) (n0 : Nat) (v : Option Value) (h : Heap) (L : List Loc) : Prop := v = none ∧ Fr n0 L ∧ h = h0
set_option maxRecDepth 65536 in
set_option maxHeartbeats 40000000 in
theorem rm2 (l : Launch) (Z : State) (av0 : Array Value) (hw : ∀ d ∈ tables_1, d.before av0 Z = true) (ws : List Jvm.Cond) (a0 : Addr) (h0 : Heap) (n0 : Nat) (Z0 : n0 ≤ h0.size) :
    MetFree l (⟨"java/lang/Record", "<init>", "()V"⟩ : MethodName) (head1 (Jvm.Cond.code (⟨"java/lang/Record", "<init>", "()V"⟩ : MethodName) jdk_30_method_1_code 1 none :: ws) ({ frames := 1, cells := 0, slots := 0, locals := 12 } : Room)) (fun a U => a = #[(.ref a0)] ∧ Z.Warmed39 U.vm ∧ U.heap = h0) (fun _ _ _ _ _ => True) (fun _ U o U' => ∃ v L, o = .returned v ∧ Q_rm2 Z a0 h0 n0 v U'.heap L ∧ FrameEnd U o U' L ({ frames := 1, cells := 0, slots := 0, locals := 12 } : Room).cells ({ frames := 1, cells := 0, slots := 0, locals := 12 } : Room).slots) := by
  refine MetFree.of_bodySF (plainFor_of_name pn_0) hisR ?_
  intro p e s m args below meth c s₁ Bd hml0 hP hK
  obtain ⟨rfl, hZ, hh⟩ := hP
  have hx := Bd.exec
  have hby := Bd.bytes
  have hml : c.maxLocals = 1 := hml0
  have hown : s.vm.findClass "java/lang/Record" = some m.cls := findClass_of_methodNamed Bd.named
  have hnm := (name_of_methodNamed Bd.named Bd.method).1
  have X0 : Stand p l e ({ frames := 1, cells := 0, slots := 0, locals := 12 } : Room) s m #[(.ref a0)] below meth c s₁ [] 0 0 := Stand.of_body Bd
  have e0 : s₁.heap = h0 := by rw [← hh, Bd.state]; rfl
  have N0 := Fr.nil n0
  have pre0 : ∀ t, Steps p.tables e below (s₁.setTop (mkF m 0 #[.val (.ref a0)] [])) t → Steps p.tables e below (s₁.setTop (entryFrame m #[(.ref a0)] 1)) t := fun t k => castTop (ef_rm2 m a0) k
  change OwnFin p.tables e below _ (s₁.setTop (entryFrame m #[(.ref a0)] 1))
  have kp0 : Keep h0 h0 [] := Keep.refl _ _
  refine OwnFin.st (fun _ q => pre0 _ q) ?_
  show OwnFin _ _ _ _ (s₁.setTop (mkF m 0 #[.val (.ref a0)] []))
  refine OwnFin.st (fun _ q => XS.aloadN X0.here hx rfl (hb hby d2_0) rfl rfl q) ?_
  show OwnFin _ _ _ _ (s₁.setTop (mkF m 1 #[.val (.ref a0)] [(.ref a0)]))
  obtain ⟨T1, X1, e1, st1⟩ := initO X0 hx hZ hown (hw _ (List.mem_of_getElem? (i := 15) rfl)) (hw _ (List.mem_of_getElem? (i := 16) rfl)) (hw _ (List.mem_of_getElem? (i := 17) rfl)) e0 (g := (mkF m 1 #[.val (.ref a0)] [(.ref a0)])) rfl (by rw [hml]; rfl) rfl (hb hby d2_1) (by decide) (W := 0) (by show 2 * 0 + _ ≤ _; exact Nat.le_of_eq rfl) (by decide)
  refine OwnFin.st st1 ?_
  show OwnFin _ _ _ _ (T1.setTop (mkF m 4 #[.val (.ref a0)] []))
  obtain ⟨fs, hr, hrun, hended, hW, hsame⟩ := X1.leave (v := none) (fun _ => rfl)
  refine ⟨_, _, X1.returnOut hx Bd.returns (hb hby d2_4) hr, hrun, hended, _, _, rfl, ?_, ⟨_, rfl⟩, hW, hsame.mono (by decide) (by decide)⟩
  show Q_rm2 Z a0 h0 n0 _ T1.heap _
  rw [e1]
  exact ⟨rfl, N0, rfl⟩
theorem d4_0 : decode jdk_31_method_11_code 0 = .ok (.aload_n 0, 1) := by decide +kernel
theorem d4_1 : decode jdk_31_method_11_code 1 = .ok (.ifnonnull 12, 3) := by decide +kernel
theorem d4_13 : decode jdk_31_method_11_code 13 = .ok (.aload_n 0, 1) := by decide +kernel
theorem d4_14 : decode jdk_31_method_11_code 14 = .ok (.areturn, 1) := by decide +kernel
theorem pn_1 : plainName "java/util/Objects" = true := by first | (simp [plainName, overriddenIn]; done) | decide +kernel
theorem ef_rm4 (m : MethodId) (a0 : Addr) (a1 : Addr) : entryFrame m #[(.ref a0), (.ref a1)] 2 = mkF m 0 #[.val (.ref a0), .val (.ref a1)] [] := by first | (simp [entryFrame, mkF, argsToLocals, Value.category]; done) | rfl
def Q_rm4 (Z : State) (a0 : Addr) (a1 : Addr) (h0 : Heap) (n0 : Nat) (v : Option Value) (h : Heap) (L : List Loc) : Prop := v = some (.ref a0) ∧ Fr n0 L ∧ h = h0
set_option maxRecDepth 65536 in
set_option maxHeartbeats 40000000 in
theorem rm4 (l : Launch) (Z : State) (av0 : Array Value) (hw : ∀ d ∈ tables_1, d.before av0 Z = true) (ws : List Jvm.Cond) (a0 : Addr) (a1 : Addr) (h0 : Heap) (n0 : Nat) (Z0 : n0 ≤ h0.size) :
    MetFree l (⟨"java/util/Objects", "requireNonNull", "(Ljava/lang/Object;Ljava/lang/String;)Ljava/lang/Object;"⟩ : MethodName) (head1 (Jvm.Cond.code (⟨"java/util/Objects", "requireNonNull", "(Ljava/lang/Object;Ljava/lang/String;)Ljava/lang/Object;"⟩ : MethodName) jdk_31_method_11_code 2 (some (.object "java/lang/Object")) :: ws) ({ frames := 0, cells := 0, slots := 0, locals := 0 } : Room)) (fun a U => a = #[(.ref a0), (.ref a1)] ∧ Z.Warmed39 U.vm ∧ U.heap = h0) (fun _ _ _ _ _ => True) (fun _ U o U' => ∃ v L, o = .returned v ∧ Q_rm4 Z a0 a1 h0 n0 v U'.heap L ∧ FrameEnd U o U' L ({ frames := 0, cells := 0, slots := 0, locals := 0 } : Room).cells ({ frames := 0, cells := 0, slots := 0, locals := 0 } : Room).slots) := by
  refine MetFree.of_bodySF (plainFor_of_name pn_1) hisR ?_
  intro p e s m args below meth c s₁ Bd hml0 hP hK
  obtain ⟨rfl, hZ, hh⟩ := hP
  have hx := Bd.exec
  have hby := Bd.bytes
  have hml : c.maxLocals = 2 := hml0
  have hown : s.vm.findClass "java/util/Objects" = some m.cls := findClass_of_methodNamed Bd.named
  have hnm := (name_of_methodNamed Bd.named Bd.method).1
  have X0 : Stand p l e ({ frames := 0, cells := 0, slots := 0, locals := 0 } : Room) s m #[(.ref a0), (.ref a1)] below meth c s₁ [] 0 0 := Stand.of_body Bd
  have e0 : s₁.heap = h0 := by rw [← hh, Bd.state]; rfl
  have N0 := Fr.nil n0
  have pre0 : ∀ t, Steps p.tables e below (s₁.setTop (mkF m 0 #[.val (.ref a0), .val (.ref a1)] [])) t → Steps p.tables e below (s₁.setTop (entryFrame m #[(.ref a0), (.ref a1)] 2)) t := fun t k => castTop (ef_rm4 m a0 a1) k
  change OwnFin p.tables e below _ (s₁.setTop (entryFrame m #[(.ref a0), (.ref a1)] 2))
  have kp0 : Keep h0 h0 [] := Keep.refl _ _
  refine OwnFin.st (fun _ q => pre0 _ q) ?_
  show OwnFin _ _ _ _ (s₁.setTop (mkF m 0 #[.val (.ref a0), .val (.ref a1)] []))
  refine OwnFin.st (fun _ q => XS.aloadN X0.here hx rfl (hb hby d4_0) rfl rfl q) ?_
  show OwnFin _ _ _ _ (s₁.setTop (mkF m 1 #[.val (.ref a0), .val (.ref a1)] [(.ref a0)]))
  refine OwnFin.st (fun _ q => XS.ifnonnullYes X0.here hx rfl (pc0 := 1) (pc' := 13) rfl (hb hby d4_1) rfl (by decide) (by decide) q) ?_
  show OwnFin _ _ _ _ (s₁.setTop (mkF m 13 #[.val (.ref a0), .val (.ref a1)] []))
  refine OwnFin.st (fun _ q => XS.aloadN X0.here hx rfl (hb hby d4_13) rfl rfl q) ?_
  show OwnFin _ _ _ _ (s₁.setTop (mkF m 14 #[.val (.ref a0), .val (.ref a1)] [(.ref a0)]))
  obtain ⟨fs, hr, hrun, hended, hW, hsame⟩ := X0.leave (v := some (.ref a0)) (fun h => by rw [Bd.returns] at h; cases h)
  refine ⟨_, _, retOut X0 hx Bd.returns rfl (Or.inr (Or.inr (Or.inr (Or.inr ⟨rfl, rfl, rfl⟩)))) (hb hby d4_14) hr, hrun, hended, _, _, rfl, ?_, ⟨_, rfl⟩, hW, hsame.mono (by decide) (by decide)⟩
  show Q_rm4 Z a0 a1 h0 n0 _ s₁.heap _
  rw [e0]
  exact ⟨rfl, N0, rfl⟩
theorem pd_0 : parseMethodDescriptor "()V" = some ⟨[], none⟩ := by decide +kernel
theorem pd_1 : parseMethodDescriptor "(Ljava/lang/Object;Ljava/lang/String;)Ljava/lang/Object;" = some ⟨[(.object "java/lang/Object"), (.object "java/lang/String")], some (.object "java/lang/Object")⟩ := by decide +kernel
theorem d1_0 : decode prog_23_method_1_code 0 = .ok (.aload_n 0, 1) := by decide +kernel
theorem d1_1 : decode prog_23_method_1_code 1 = .ok (.invokespecial 1, 3) := by decide +kernel
theorem d1_4 : decode prog_23_method_1_code 4 = .ok (.aload_n 3, 1) := by decide +kernel
theorem d1_5 : decode prog_23_method_1_code 5 = .ok (.ldc 7, 2) := by decide +kernel
theorem d1_7 : decode prog_23_method_1_code 7 = .ok (.invokestatic 9, 3) := by decide +kernel
theorem d1_10 : decode prog_23_method_1_code 10 = .ok (.pop, 1) := by decide +kernel
theorem d1_11 : decode prog_23_method_1_code 11 = .ok (.lload_n 1, 1) := by decide +kernel
theorem d1_12 : decode prog_23_method_1_code 12 = .ok (.lconst 1, 1) := by decide +kernel
theorem d1_13 : decode prog_23_method_1_code 13 = .ok (.lcmp, 1) := by decide +kernel
theorem d1_14 : decode prog_23_method_1_code 14 = .ok (.ifCond .ge 17, 3) := by decide +kernel
theorem d1_31 : decode prog_23_method_1_code 31 = .ok (.aload_n 0, 1) := by decide +kernel
theorem d1_32 : decode prog_23_method_1_code 32 = .ok (.lload_n 1, 1) := by decide +kernel
theorem d1_33 : decode prog_23_method_1_code 33 = .ok (.putfield 24, 3) := by decide +kernel
theorem d1_36 : decode prog_23_method_1_code 36 = .ok (.aload_n 0, 1) := by decide +kernel
theorem d1_37 : decode prog_23_method_1_code 37 = .ok (.aload_n 3, 1) := by decide +kernel
theorem d1_38 : decode prog_23_method_1_code 38 = .ok (.putfield 30, 3) := by decide +kernel
theorem d1_41 : decode prog_23_method_1_code 41 = .ok (.return_, 1) := by decide +kernel
theorem pn_2 : plainName "com/example/libaccrue/libaccrue/history/Term" = true := by first | (simp [plainName, overriddenIn]; done) | decide +kernel
theorem ef_rm1 (m : MethodId) (a0x : Addr) (q1 : Int64) (a2 : Addr) : entryFrame m #[(.ref a0x), (.long q1), (.ref a2)] 4 = mkF m 0 #[.val (.ref a0x), .val (.long q1), .second, .val (.ref a2)] [] := by first | (simp [entryFrame, mkF, argsToLocals, Value.category]; done) | rfl
def Q_rm1 (Z : State) (a0x : Addr) (q1 : Int64) (a2 : Addr) (u_count_a0x : Value) (u_unit_a0x : Value) (h0 : Heap) (n0 : Nat) (v : Option Value) (h : Heap) (L : List Loc) : Prop := v = none ∧ Fr n0 L ∧ Keep h0 h [a0x] ∧ Fld Z h a0x "com/example/libaccrue/libaccrue/history/Term" "count" "J" (.long q1) ∧ Fld Z h a0x "com/example/libaccrue/libaccrue/history/Term" "unit" "Lcom/example/libaccrue/libaccrue/history/Term$Unit;" (.ref a2)
set_option maxRecDepth 65536 in
set_option maxHeartbeats 40000000 in
theorem rm1 (l : Launch) (Z : State) (av0 : Array Value) (hw : ∀ d ∈ tables_1, d.before av0 Z = true) (ws : List Jvm.Cond) (a0x : Addr) (q1 : Int64) (a2 : Addr) (u_count_a0x : Value) (u_unit_a0x : Value) (h0 : Heap) (n0 : Nat) (Z0 : n0 ≤ h0.size) (hc0 : ¬ (q1 < (1 : Int64))) (X_a0x : Exa Z h0 a0x "com/example/libaccrue/libaccrue/history/Term") (F_count_a0x : Fld Z h0 a0x "com/example/libaccrue/libaccrue/history/Term" "count" "J" u_count_a0x) (g_a0x : n0 ≤ a0x) (F_unit_a0x : Fld Z h0 a0x "com/example/libaccrue/libaccrue/history/Term" "unit" "Lcom/example/libaccrue/libaccrue/history/Term$Unit;" u_unit_a0x) :
    MetFree l (⟨"com/example/libaccrue/libaccrue/history/Term", "<init>", "(JLcom/example/libaccrue/libaccrue/history/Term$Unit;)V"⟩ : MethodName) (head1 (Jvm.Cond.code (⟨"com/example/libaccrue/libaccrue/history/Term", "<init>", "(JLcom/example/libaccrue/libaccrue/history/Term$Unit;)V"⟩ : MethodName) prog_23_method_1_code 4 none :: ws) ({ frames := 2, cells := 2, slots := 20, locals := 24 } : Room)) (fun a U => a = #[(.ref a0x), (.long q1), (.ref a2)] ∧ Z.Warmed39 U.vm ∧ U.heap = h0) (fun _ _ _ _ _ => True) (fun _ U o U' => ∃ v L, o = .returned v ∧ Q_rm1 Z a0x q1 a2 u_count_a0x u_unit_a0x h0 n0 v U'.heap L ∧ ReturnedEndW U o U' L ({ frames := 2, cells := 2, slots := 20, locals := 24 } : Room).cells ({ frames := 2, cells := 2, slots := 20, locals := 24 } : Room).slots) := by
  refine MetFree.of_bodySF (plainFor_of_name pn_2) hisR ?_
  intro p e s m args below meth c s₁ Bd hml0 hP hK
  obtain ⟨rfl, hZ, hh⟩ := hP
  have hx := Bd.exec
  have hby := Bd.bytes
  have hml : c.maxLocals = 4 := hml0
  have hown : (s.setVm s.vm).vm.findClass "com/example/libaccrue/libaccrue/history/Term" = some m.cls := findClass_of_methodNamed Bd.named
  have hnm := (name_of_methodNamed Bd.named Bd.method).1
  have X0 : Stand p l e ({ frames := 2, cells := 2, slots := 20, locals := 24 } : Room) (s.setVm s.vm) m #[(.ref a0x), (.long q1), (.ref a2)] below meth c s₁ [] 0 0 := Stand.of_body Bd
  have e0 : s₁.heap = h0 := by rw [← hh, Bd.state]; rfl
  have N0 := Fr.nil n0
  have hZ : Z.Warmed39 (s.setVm s.vm).vm := hZ
  have hS0 : s.Since s.vm s.heap.size := (State.WarmedH.refl s).since _
  have hk0 : s.heap.size ≤ h0.size := Nat.le_of_eq (by rw [hh])
  have pre0 : ∀ t, Steps p.tables e below (s₁.setTop (mkF m 0 #[.val (.ref a0x), .val (.long q1), .second, .val (.ref a2)] [])) t → Steps p.tables e below (s₁.setTop (entryFrame m #[(.ref a0x), (.long q1), (.ref a2)] 4)) t := fun t k => castTop (ef_rm1 m a0x q1 a2) k
  change OwnFin p.tables e below _ (s₁.setTop (entryFrame m #[(.ref a0x), (.long q1), (.ref a2)] 4))
  have kp0 : Keep h0 h0 [a0x] := Keep.refl _ _
  refine OwnFin.st (fun _ q => pre0 _ q) ?_
  show OwnFin _ _ _ _ (s₁.setTop (mkF m 0 #[.val (.ref a0x), .val (.long q1), .second, .val (.ref a2)] []))
  refine OwnFin.st (fun _ q => XS.aloadN X0.here hx rfl (hb hby d1_0) rfl rfl q) ?_
  show OwnFin _ _ _ _ (s₁.setTop (mkF m 1 #[.val (.ref a0x), .val (.long q1), .second, .val (.ref a2)] [(.ref a0x)]))
  obtain ⟨_, _, ⟨T1, L1, k1, n1⟩, -, X1, ⟨Lc1, hQ1, l1, y1, z1⟩, st1⟩ := X0.specialBack hx (y := (⟨"java/lang/Record", "<init>", "()V"⟩ : MethodName)) rfl hown (mvT hZ (hw _ (List.mem_of_getElem? (i := 10) rfl))) (mvT hZ (hw _ (List.mem_of_getElem? (i := 11) rfl))) (mvT hZ (hw _ (List.mem_of_getElem? (i := 14) rfl))) (by decide) (backOf (W := 0) (rm2 l Z av0 hw [] a0x h0 n0 (Nat.le_trans Z0 kp0.1) ) hZ (hw _ (List.mem_of_getElem? (i := 14) rfl)) (hw _ (List.mem_of_getElem? (i := 13) rfl)) (by decide) (by decide)) (g := (mkF m 1 #[.val (.ref a0x), .val (.long q1), .second, .val (.ref a2)] [(.ref a0x)])) rfl (by rw [hml]; rfl) (Steps.refl _) (a := a0x) (argsL := []) (rest := []) (lenOf pd_0 rfl) rfl (by show 2 * 0 + _ ≤ _; exact Nat.le_of_eq rfl) (hb hby d1_1) (fun _ _ => ⟨rfl, e0, (by decide : 0 + 0 ≤ _), (by decide : 0 + 0 ≤ _)⟩)
  dsimp only [Pt.U, Pt.locs, Pt.cells, Pt.slots] at X1 l1 y1 z1 st1 hQ1
  subst l1 y1 z1
  obtain ⟨rfl, N1q, he1⟩ := hQ1
  have N1 := Fr.app N0 N1q
  refine OwnFin.tr st1 ?_
  show OwnFin _ _ _ _ (T1.setTop (mkF m 4 #[.val (.ref a0x), .val (.long q1), .second, .val (.ref a2)] []))
  refine OwnFin.st (fun _ q => XS.aloadN X1.here hx rfl (hb hby d1_4) rfl rfl q) ?_
  show OwnFin _ _ _ _ (T1.setTop (mkF m 5 #[.val (.ref a0x), .val (.long q1), .second, .val (.ref a2)] [(.ref a2)]))
  obtain ⟨al2, T2, h2, k2, X2, e2, E2, hS2, hk2, hZ2, hown2, st2⟩ := ldcS (s := s) (vm0 := s.vm) X1 hx hZ hown (hw _ (List.mem_of_getElem? (i := 18) rfl)) (own_wS hw) he1 hS0 (Nat.le_trans hk0 (Nat.le_refl _)) (g := (mkF m 5 #[.val (.ref a0x), .val (.long q1), .second, .val (.ref a2)] [(.ref a2)])) rfl (hb hby d1_5) (n := 16) (by decide) (by decide) (by decide) (by decide)
  refine OwnFin.st st2 ?_
  have kp3 : Keep h0 h2 [a0x] := kp0.ext E2
  show OwnFin _ _ _ _ (T2.setTop (mkF m 7 #[.val (.ref a0x), .val (.long q1), .second, .val (.ref a2)] [(.ref al2), (.ref a2)]))
  obtain ⟨_, _, ⟨T4, L4, k4, n4⟩, -, X4, ⟨Lc4, hQ4, l4, y4, z4⟩, st4⟩ := Jvm.LawKit.callS X2 hx (y := (⟨"java/util/Objects", "requireNonNull", "(Ljava/lang/Object;Ljava/lang/String;)Ljava/lang/Object;"⟩ : MethodName)) hown2 (mvT hZ2 (hw _ (List.mem_of_getElem? (i := 26) rfl))) (mvT hZ2 (hw _ (List.mem_of_getElem? (i := 27) rfl))) (mvT hZ2 (hw _ (List.mem_of_getElem? (i := 28) rfl))) (mvT hZ2 (hw _ (List.mem_of_getElem? (i := 29) rfl))) (by decide) (backOf (W := 0) (rm4 l Z av0 hw [] a2 al2 h2 n0 (Nat.le_trans Z0 kp3.1) ) hZ2 (hw _ (List.mem_of_getElem? (i := 29) rfl)) (hw _ (List.mem_of_getElem? (i := 28) rfl)) (by decide) (by decide)) (g := (mkF m 7 #[.val (.ref a0x), .val (.long q1), .second, .val (.ref a2)] [(.ref al2), (.ref a2)])) rfl (by rw [hml]; rfl) (argsL := [(.ref a2), (.ref al2)]) (rest := []) (lenOf pd_1 rfl) rfl (by show 2 * 0 + _ ≤ _; exact Nat.le_of_eq rfl) (hb hby d1_7) (fun _ _ => ⟨rfl, e2, (by decide : 2 + 0 ≤ _), (by decide : 20 + 0 ≤ _)⟩)
  dsimp only [Pt.U, Pt.locs, Pt.cells, Pt.slots] at X4 l4 y4 z4 st4 hQ4
  subst l4 y4 z4
  obtain ⟨rfl, N4q, he4⟩ := hQ4
  have N4 := Fr.app N1 N4q
  refine OwnFin.st st4 ?_
  show OwnFin _ _ _ _ (T4.setTop (mkF m 10 #[.val (.ref a0x), .val (.long q1), .second, .val (.ref a2)] [(.ref a2)]))
  refine OwnFin.st (fun _ q => XS.pop X4.here hx rfl (hb hby d1_10) rfl rfl q) ?_
  show OwnFin _ _ _ _ (T4.setTop (mkF m 11 #[.val (.ref a0x), .val (.long q1), .second, .val (.ref a2)] []))
  refine OwnFin.st (fun _ q => XS.lloadN X4.here hx rfl (hb hby d1_11) rfl q) ?_
  show OwnFin _ _ _ _ (T4.setTop (mkF m 12 #[.val (.ref a0x), .val (.long q1), .second, .val (.ref a2)] [(.long q1)]))
  refine OwnFin.st (fun _ q => XS.lconst X4.here hx rfl (hb hby d1_12) q) ?_
  show OwnFin _ _ _ _ (T4.setTop (mkF m 13 #[.val (.ref a0x), .val (.long q1), .second, .val (.ref a2)] [(.long (1 : Int64)), (.long q1)]))
  refine OwnFin.st (fun _ q => XS.lcmp X4.here hx rfl (hb hby d1_13) rfl q) ?_
  show OwnFin _ _ _ _ (T4.setTop (mkF m 14 #[.val (.ref a0x), .val (.long q1), .second, .val (.ref a2)] [(.int (lcmpW q1 (1 : Int64)))]))
  refine OwnFin.st (fun _ q => XS.ifYes X4.here hx rfl (pc0 := 14) (pc' := 31) rfl (hb hby d1_14) rfl (Jvm.Free.XT.ll_ge_t hc0) (by decide) (by decide) q) ?_
  show OwnFin _ _ _ _ (T4.setTop (mkF m 31 #[.val (.ref a0x), .val (.long q1), .second, .val (.ref a2)] []))
  refine OwnFin.st (fun _ q => XS.aloadN X4.here hx rfl (hb hby d1_31) rfl rfl q) ?_
  show OwnFin _ _ _ _ (T4.setTop (mkF m 32 #[.val (.ref a0x), .val (.long q1), .second, .val (.ref a2)] [(.ref a0x)]))
  refine OwnFin.st (fun _ q => XS.lloadN X4.here hx rfl (hb hby d1_32) rfl q) ?_
  show OwnFin _ _ _ _ (T4.setTop (mkF m 33 #[.val (.ref a0x), .val (.long q1), .second, .val (.ref a2)] [(.long q1), (.ref a0x)]))
  obtain ⟨T5, h5, X5, e5, W5, st5⟩ := putF X4 hx hZ2 hown2 (host := "") (Or.inl (hw _ (List.mem_of_getElem? (i := 30) rfl))) Via.refl he4 (F_count_a0x.ext E2) (X_a0x.ext E2) (Or.inr ⟨(hw _ (List.mem_of_getElem? (i := 31) rfl)), rfl, hnm⟩) (hw _ (List.mem_of_getElem? (i := 2) rfl)) (ty := .long) (by decide) rfl rfl (g := (mkF m 33 #[.val (.ref a0x), .val (.long q1), .second, .val (.ref a2)] [(.long q1), (.ref a0x)])) rfl rfl (hb hby d1_33)
  refine OwnFin.st st5 ?_
  have Fw5 : Fld Z h5 a0x "com/example/libaccrue/libaccrue/history/Term" "count" "J" (.long q1) := (F_count_a0x.ext E2).same W5
  have N5 := Fr.snoc X5 N4 g_a0x
  have kp6 : Keep h0 h5 [a0x] := kp3.wr W5 (Or.inl (List.mem_of_getElem? (i := 0) rfl))
  show OwnFin _ _ _ _ (T5.setTop (mkF m 36 #[.val (.ref a0x), .val (.long q1), .second, .val (.ref a2)] []))
  refine OwnFin.st (fun _ q => XS.aloadN X5.here hx rfl (hb hby d1_36) rfl rfl q) ?_
  show OwnFin _ _ _ _ (T5.setTop (mkF m 37 #[.val (.ref a0x), .val (.long q1), .second, .val (.ref a2)] [(.ref a0x)]))
  refine OwnFin.st (fun _ q => XS.aloadN X5.here hx rfl (hb hby d1_37) rfl rfl q) ?_
  show OwnFin _ _ _ _ (T5.setTop (mkF m 38 #[.val (.ref a0x), .val (.long q1), .second, .val (.ref a2)] [(.ref a2), (.ref a0x)]))
  obtain ⟨T7, h7, X7, e7, W7, st7⟩ := putF X5 hx hZ2 hown2 (host := "") (Or.inl (hw _ (List.mem_of_getElem? (i := 32) rfl))) Via.refl e5 ((F_unit_a0x.ext E2).other W5 (Or.inr (slot_ne (Or.inr (hw _ (List.mem_of_getElem? (i := 33) rfl))) (Or.inr (hw _ (List.mem_of_getElem? (i := 31) rfl))) (by decide) (t := (.object "com/example/libaccrue/libaccrue/history/Term$Unit")) (t' := .long) (by decide) (by decide)))) ((X_a0x.ext E2).wr W5) (Or.inr ⟨(hw _ (List.mem_of_getElem? (i := 33) rfl)), rfl, hnm⟩) (hw _ (List.mem_of_getElem? (i := 2) rfl)) (ty := (.object "com/example/libaccrue/libaccrue/history/Term$Unit")) (by decide) rfl rfl (g := (mkF m 38 #[.val (.ref a0x), .val (.long q1), .second, .val (.ref a2)] [(.ref a2), (.ref a0x)])) rfl rfl (hb hby d1_38)
  refine OwnFin.st st7 ?_
  have Fw7 : Fld Z h7 a0x "com/example/libaccrue/libaccrue/history/Term" "unit" "Lcom/example/libaccrue/libaccrue/history/Term$Unit;" (.ref a2) := ((F_unit_a0x.ext E2).other W5 (Or.inr (slot_ne (Or.inr (hw _ (List.mem_of_getElem? (i := 33) rfl))) (Or.inr (hw _ (List.mem_of_getElem? (i := 31) rfl))) (by decide) (t := (.object "com/example/libaccrue/libaccrue/history/Term$Unit")) (t' := .long) (by decide) (by decide)))).same W7
  have N7 := Fr.snoc X7 N5 g_a0x
  have kp8 : Keep h0 h7 [a0x] := kp6.wr W7 (Or.inl (List.mem_of_getElem? (i := 0) rfl))
  show OwnFin _ _ _ _ (T7.setTop (mkF m 41 #[.val (.ref a0x), .val (.long q1), .second, .val (.ref a2)] []))
  obtain ⟨fs, hr, hrun, hended, hEW⟩ := X7.leaveW (s := s) hS2 (by rw [e7]; exact (Nat.le_trans hk2 (Nat.le_trans (Nat.le_of_eq W5.size.symm) (Nat.le_of_eq W7.size.symm)))) (v := none) (fun _ => rfl)
  refine ⟨_, _, X7.returnOut hx Bd.returns (hb hby d1_41) hr, hrun, hended, _, _, rfl, ?_, hEW.1, hEW.2.1, hEW.2.2.1, hEW.2.2.2.mono (by decide) (by decide)⟩
  show Q_rm1 Z a0x q1 a2 u_count_a0x u_unit_a0x h0 n0 _ T7.heap _
  rw [e7]
  exact ⟨rfl, N7, kp8, (Fw5.other W7 (Or.inr (slot_ne (Or.inr (hw _ (List.mem_of_getElem? (i := 31) rfl))) (Or.inr (hw _ (List.mem_of_getElem? (i := 33) rfl))) (by decide) (t := .long) (t' := (.object "com/example/libaccrue/libaccrue/history/Term$Unit")) (by decide) (by decide)))), Fw7⟩
theorem d6_0 : decode prog_24_method_4_code 0 = .ok (.aload_n 0, 1) := by decide +kernel
theorem d6_1 : decode prog_24_method_4_code 1 = .ok (.getfield 29, 3) := by decide +kernel
theorem d6_4 : decode prog_24_method_4_code 4 = .ok (.ireturn, 1) := by decide +kernel
theorem pn_3 : plainName "com/example/libaccrue/libaccrue/history/Term$Unit" = true := by first | (simp [plainName, overriddenIn]; done) | decide +kernel
theorem ef_rm6 (m : MethodId) (a0 : Addr) : entryFrame m #[(.ref a0)] 1 = mkF m 0 #[.val (.ref a0)] [] := by first | (simp [entryFrame, mkF, argsToLocals, Value.category]; done) | rfl
def Q_rm6 (Z : State) (a0 : Addr) (w_months_a0 : Int32) (h0 : Heap) (n0 : Nat) (v : Option Value) (h : Heap) (L : List Loc) : Prop := v = some (.int w_months_a0) ∧ Fr n0 L ∧ h = h0
set_option maxRecDepth 65536 in
set_option maxHeartbeats 40000000 in
theorem rm6 (l : Launch) (Z : State) (av0 : Array Value) (hw : ∀ d ∈ tables_1, d.before av0 Z = true) (ws : List Jvm.Cond) (a0 : Addr) (w_months_a0 : Int32) (h0 : Heap) (n0 : Nat) (Z0 : n0 ≤ h0.size) (F_months_a0 : Fld Z h0 a0 "com/example/libaccrue/libaccrue/history/Term$Unit" "months" "I" (.int w_months_a0)) :
    MetFree l (⟨"com/example/libaccrue/libaccrue/history/Term$Unit", "months", "()I"⟩ : MethodName) (head1 (Jvm.Cond.code (⟨"com/example/libaccrue/libaccrue/history/Term$Unit", "months", "()I"⟩ : MethodName) prog_24_method_4_code 1 (some .int) :: ws) ({ frames := 0, cells := 0, slots := 0, locals := 0 } : Room)) (fun a U => a = #[(.ref a0)] ∧ Z.Warmed39 U.vm ∧ U.heap = h0) (fun _ _ _ _ _ => True) (fun _ U o U' => ∃ v L, o = .returned v ∧ Q_rm6 Z a0 w_months_a0 h0 n0 v U'.heap L ∧ FrameEnd U o U' L ({ frames := 0, cells := 0, slots := 0, locals := 0 } : Room).cells ({ frames := 0, cells := 0, slots := 0, locals := 0 } : Room).slots) := by
  refine MetFree.of_bodySF (plainFor_of_name pn_3) hisR ?_
  intro p e s m args below meth c s₁ Bd hml0 hP hK
  obtain ⟨rfl, hZ, hh⟩ := hP
  have hx := Bd.exec
  have hby := Bd.bytes
  have hml : c.maxLocals = 1 := hml0
  have hown : s.vm.findClass "com/example/libaccrue/libaccrue/history/Term$Unit" = some m.cls := findClass_of_methodNamed Bd.named
  have hnm := (name_of_methodNamed Bd.named Bd.method).1
  have X0 : Stand p l e ({ frames := 0, cells := 0, slots := 0, locals := 0 } : Room) s m #[(.ref a0)] below meth c s₁ [] 0 0 := Stand.of_body Bd
  have e0 : s₁.heap = h0 := by rw [← hh, Bd.state]; rfl
  have N0 := Fr.nil n0
  have pre0 : ∀ t, Steps p.tables e below (s₁.setTop (mkF m 0 #[.val (.ref a0)] [])) t → Steps p.tables e below (s₁.setTop (entryFrame m #[(.ref a0)] 1)) t := fun t k => castTop (ef_rm6 m a0) k
  change OwnFin p.tables e below _ (s₁.setTop (entryFrame m #[(.ref a0)] 1))
  have kp0 : Keep h0 h0 [] := Keep.refl _ _
  refine OwnFin.st (fun _ q => pre0 _ q) ?_
  show OwnFin _ _ _ _ (s₁.setTop (mkF m 0 #[.val (.ref a0)] []))
  refine OwnFin.st (fun _ q => XS.aloadN X0.here hx rfl (hb hby d6_0) rfl rfl q) ?_
  show OwnFin _ _ _ _ (s₁.setTop (mkF m 1 #[.val (.ref a0)] [(.ref a0)]))
  obtain ⟨T1, X1, e1, st1⟩ := getF X0 hx hZ hown (host := "") (Or.inl (hw _ (List.mem_of_getElem? (i := 44) rfl))) Via.refl e0 F_months_a0 (g := (mkF m 1 #[.val (.ref a0)] [(.ref a0)])) rfl rfl (hb hby d6_1)
  refine OwnFin.st st1 ?_
  show OwnFin _ _ _ _ (T1.setTop (mkF m 4 #[.val (.ref a0)] [(.int w_months_a0)]))
  obtain ⟨fs, hr, hrun, hended, hW, hsame⟩ := X1.leave (v := some (.int w_months_a0)) (fun h => by rw [Bd.returns] at h; cases h)
  refine ⟨_, _, retI X1 hx Bd.returns (hb hby d6_4) hr, hrun, hended, _, _, rfl, ?_, ⟨_, rfl⟩, hW, hsame.mono (by decide) (by decide)⟩
  show Q_rm6 Z a0 w_months_a0 h0 n0 _ T1.heap _
  rw [e1]
  exact ⟨rfl, N0, rfl⟩
def own_absL (x : Int64) : Int64 := if x < 0 then -x else x
theorem d9_0 : decode jdk_29_method_61_code 0 = .ok (.lload_n 0, 1) := by decide +kernel
theorem d9_1 : decode jdk_29_method_61_code 1 = .ok (.lconst 0, 1) := by decide +kernel
theorem d9_2 : decode jdk_29_method_61_code 2 = .ok (.lcmp, 1) := by decide +kernel
theorem d9_3 : decode jdk_29_method_61_code 3 = .ok (.ifCond .ge 8, 3) := by decide +kernel
theorem d9_6 : decode jdk_29_method_61_code 6 = .ok (.lload_n 0, 1) := by decide +kernel
theorem d9_7 : decode jdk_29_method_61_code 7 = .ok (.lneg, 1) := by decide +kernel
theorem d9_8 : decode jdk_29_method_61_code 8 = .ok (.goto 4, 3) := by decide +kernel
theorem d9_11 : decode jdk_29_method_61_code 11 = .ok (.lload_n 0, 1) := by decide +kernel
theorem d9_12 : decode jdk_29_method_61_code 12 = .ok (.lreturn, 1) := by decide +kernel
theorem ef_rm9 (m : MethodId) (q0 : Int64) : entryFrame m #[(.long q0)] 2 = mkF m 0 #[.val (.long q0), .second] [] := by first | (simp [entryFrame, mkF, argsToLocals, Value.category]; done) | rfl
def Q_rm9 (Z : State) (q0 : Int64) (h0 : Heap) (n0 : Nat) (v : Option Value) (h : Heap) (L : List Loc) : Prop := v = some (.long (own_absL q0)) ∧ Fr n0 L ∧ h = h0
set_option maxRecDepth 65536 in
set_option maxHeartbeats 40000000 in
theorem rm9 (l : Launch) (Z : State) (av0 : Array Value) (hw : ∀ d ∈ tables_1, d.before av0 Z = true) (ws : List Jvm.Cond) (q0 : Int64) (h0 : Heap) (n0 : Nat) (Z0 : n0 ≤ h0.size) :
    MetFree l (⟨"java/lang/Math", "abs", "(J)J"⟩ : MethodName) (head1 (Jvm.Cond.code (⟨"java/lang/Math", "abs", "(J)J"⟩ : MethodName) jdk_29_method_61_code 2 (some .long) :: ws) ({ frames := 0, cells := 0, slots := 0, locals := 0 } : Room)) (fun a U => a = #[(.long q0)] ∧ Z.Warmed39 U.vm ∧ U.heap = h0) (fun _ _ _ _ _ => True) (fun _ U o U' => ∃ v L, o = .returned v ∧ Q_rm9 Z q0 h0 n0 v U'.heap L ∧ FrameEnd U o U' L ({ frames := 0, cells := 0, slots := 0, locals := 0 } : Room).cells ({ frames := 0, cells := 0, slots := 0, locals := 0 } : Room).slots) := by
  refine MetFree.of_bodySF (Jvm.Free.JP.mathPlain rfl (by decide +kernel)) hisR ?_
  intro p e s m args below meth c s₁ Bd hml0 hP hK
  obtain ⟨rfl, hZ, hh⟩ := hP
  have hx := Bd.exec
  have hby := Bd.bytes
  have hml : c.maxLocals = 2 := hml0
  have hown : s.vm.findClass "java/lang/Math" = some m.cls := findClass_of_methodNamed Bd.named
  have hnm := (name_of_methodNamed Bd.named Bd.method).1
  have X0 : Stand p l e ({ frames := 0, cells := 0, slots := 0, locals := 0 } : Room) s m #[(.long q0)] below meth c s₁ [] 0 0 := Stand.of_body Bd
  have e0 : s₁.heap = h0 := by rw [← hh, Bd.state]; rfl
  have N0 := Fr.nil n0
  have pre0 : ∀ t, Steps p.tables e below (s₁.setTop (mkF m 0 #[.val (.long q0), .second] [])) t → Steps p.tables e below (s₁.setTop (entryFrame m #[(.long q0)] 2)) t := fun t k => castTop (ef_rm9 m q0) k
  change OwnFin p.tables e below _ (s₁.setTop (entryFrame m #[(.long q0)] 2))
  have kp0 : Keep h0 h0 [] := Keep.refl _ _
  refine OwnFin.st (fun _ q => pre0 _ q) ?_
  show OwnFin _ _ _ _ (s₁.setTop (mkF m 0 #[.val (.long q0), .second] []))
  refine OwnFin.st (fun _ q => XS.lloadN X0.here hx rfl (hb hby d9_0) rfl q) ?_
  show OwnFin _ _ _ _ (s₁.setTop (mkF m 1 #[.val (.long q0), .second] [(.long q0)]))
  refine OwnFin.st (fun _ q => XS.lconst X0.here hx rfl (hb hby d9_1) q) ?_
  show OwnFin _ _ _ _ (s₁.setTop (mkF m 2 #[.val (.long q0), .second] [(.long (0 : Int64)), (.long q0)]))
  refine OwnFin.st (fun _ q => XS.lcmp X0.here hx rfl (hb hby d9_2) rfl q) ?_
  show OwnFin _ _ _ _ (s₁.setTop (mkF m 3 #[.val (.long q0), .second] [(.int (lcmpW q0 (0 : Int64)))]))
  by_cases hc1 : q0 < (0 : Int64)
  · skip
    refine OwnFin.st (fun _ q => XS.ifNo X0.here hx rfl (hb hby d9_3) rfl (Jvm.Free.XT.ll_ge_f hc1) q) ?_
    show OwnFin _ _ _ _ (s₁.setTop (mkF m 6 #[.val (.long q0), .second] []))
    refine OwnFin.st (fun _ q => XS.lloadN X0.here hx rfl (hb hby d9_6) rfl q) ?_
    show OwnFin _ _ _ _ (s₁.setTop (mkF m 7 #[.val (.long q0), .second] [(.long q0)]))
    refine OwnFin.st (fun _ q => XS.lneg X0.here hx rfl (hb hby d9_7) rfl q) ?_
    show OwnFin _ _ _ _ (s₁.setTop (mkF m 8 #[.val (.long q0), .second] [(.long (-q0))]))
    refine OwnFin.st (fun _ q => XS.goto X0.here hx rfl (pc0 := 8) (pc' := 12) rfl (hb hby d9_8) (by decide) (by decide) q) ?_
    show OwnFin _ _ _ _ (s₁.setTop (mkF m 12 #[.val (.long q0), .second] [(.long (-q0))]))
    obtain ⟨fs, hr, hrun, hended, hW, hsame⟩ := X0.leave (v := some (.long (-q0))) (fun h => by rw [Bd.returns] at h; cases h)
    refine ⟨_, _, X0.lreturnOut hx Bd.returns (hb hby d9_12) hr, hrun, hended, _, _, rfl, ?_, ⟨_, rfl⟩, hW, hsame.mono (by decide) (by decide)⟩
    show Q_rm9 Z q0 h0 n0 _ s₁.heap _
    rw [e0]
    refine ⟨?_, N0, rfl⟩
    simp [own_absL, hc1]
  · skip
    refine OwnFin.st (fun _ q => XS.ifYes X0.here hx rfl (pc0 := 3) (pc' := 11) rfl (hb hby d9_3) rfl (Jvm.Free.XT.ll_ge_t hc1) (by decide) (by decide) q) ?_
    show OwnFin _ _ _ _ (s₁.setTop (mkF m 11 #[.val (.long q0), .second] []))
    refine OwnFin.st (fun _ q => XS.lloadN X0.here hx rfl (hb hby d9_11) rfl q) ?_
    show OwnFin _ _ _ _ (s₁.setTop (mkF m 12 #[.val (.long q0), .second] [(.long q0)]))
    obtain ⟨fs, hr, hrun, hended, hW, hsame⟩ := X0.leave (v := some (.long q0)) (fun h => by rw [Bd.returns] at h; cases h)
    refine ⟨_, _, X0.lreturnOut hx Bd.returns (hb hby d9_12) hr, hrun, hended, _, _, rfl, ?_, ⟨_, rfl⟩, hW, hsame.mono (by decide) (by decide)⟩
    show Q_rm9 Z q0 h0 n0 _ s₁.heap _
    rw [e0]
    refine ⟨?_, N0, rfl⟩
    simp [own_absL, hc1]
theorem pd_2 : parseMethodDescriptor "(J)J" = some ⟨[.long], some .long⟩ := by decide +kernel
theorem d8_0 : decode jdk_29_method_30_code 0 = .ok (.lload_n 0, 1) := by decide +kernel
theorem d8_1 : decode jdk_29_method_30_code 1 = .ok (.lload_n 2, 1) := by decide +kernel
theorem d8_2 : decode jdk_29_method_30_code 2 = .ok (.lmul, 1) := by decide +kernel
theorem d8_3 : decode jdk_29_method_30_code 3 = .ok (.lstore 4, 2) := by decide +kernel
theorem d8_5 : decode jdk_29_method_30_code 5 = .ok (.lload_n 0, 1) := by decide +kernel
theorem d8_6 : decode jdk_29_method_30_code 6 = .ok (.invokestatic 122, 3) := by decide +kernel
theorem d8_9 : decode jdk_29_method_30_code 9 = .ok (.lstore 6, 2) := by decide +kernel
theorem d8_11 : decode jdk_29_method_30_code 11 = .ok (.lload_n 2, 1) := by decide +kernel
theorem d8_12 : decode jdk_29_method_30_code 12 = .ok (.invokestatic 122, 3) := by decide +kernel
theorem d8_15 : decode jdk_29_method_30_code 15 = .ok (.lstore 8, 2) := by decide +kernel
theorem d8_17 : decode jdk_29_method_30_code 17 = .ok (.lload 6, 2) := by decide +kernel
theorem d8_19 : decode jdk_29_method_30_code 19 = .ok (.lload 8, 2) := by decide +kernel
theorem d8_21 : decode jdk_29_method_30_code 21 = .ok (.lor, 1) := by decide +kernel
theorem d8_22 : decode jdk_29_method_30_code 22 = .ok (.bipush 31, 2) := by decide +kernel
theorem d8_24 : decode jdk_29_method_30_code 24 = .ok (.lushr, 1) := by decide +kernel
theorem d8_25 : decode jdk_29_method_30_code 25 = .ok (.lconst 0, 1) := by decide +kernel
theorem d8_26 : decode jdk_29_method_30_code 26 = .ok (.lcmp, 1) := by decide +kernel
theorem d8_27 : decode jdk_29_method_30_code 27 = .ok (.ifCond .eq 44, 3) := by decide +kernel
theorem d8_30 : decode jdk_29_method_30_code 30 = .ok (.lload_n 2, 1) := by decide +kernel
theorem d8_31 : decode jdk_29_method_30_code 31 = .ok (.lconst 0, 1) := by decide +kernel
theorem d8_32 : decode jdk_29_method_30_code 32 = .ok (.lcmp, 1) := by decide +kernel
theorem d8_33 : decode jdk_29_method_30_code 33 = .ok (.ifCond .eq 12, 3) := by decide +kernel
theorem d8_36 : decode jdk_29_method_30_code 36 = .ok (.lload 4, 2) := by decide +kernel
theorem d8_38 : decode jdk_29_method_30_code 38 = .ok (.lload_n 2, 1) := by decide +kernel
theorem d8_39 : decode jdk_29_method_30_code 39 = .ok (.ldiv, 1) := by decide +kernel
theorem d8_40 : decode jdk_29_method_30_code 40 = .ok (.lload_n 0, 1) := by decide +kernel
theorem d8_41 : decode jdk_29_method_30_code 41 = .ok (.lcmp, 1) := by decide +kernel
theorem d8_42 : decode jdk_29_method_30_code 42 = .ok (.ifCond .ne 19, 3) := by decide +kernel
theorem d8_45 : decode jdk_29_method_30_code 45 = .ok (.lload_n 0, 1) := by decide +kernel
theorem d8_46 : decode jdk_29_method_30_code 46 = .ok (.ldc2_w 128, 3) := by decide +kernel
theorem d8_49 : decode jdk_29_method_30_code 49 = .ok (.lcmp, 1) := by decide +kernel
theorem d8_50 : decode jdk_29_method_30_code 50 = .ok (.ifCond .ne 21, 3) := by decide +kernel
theorem d8_71 : decode jdk_29_method_30_code 71 = .ok (.lload 4, 2) := by decide +kernel
theorem d8_73 : decode jdk_29_method_30_code 73 = .ok (.lreturn, 1) := by decide +kernel
theorem ef_rm8 (m : MethodId) (q0 : Int64) (q1 : Int64) : entryFrame m #[(.long q0), (.long q1)] 10 = mkF m 0 #[.val (.long q0), .second, .val (.long q1), .second, .unset, .unset, .unset, .unset, .unset, .unset] [] := by first | (simp [entryFrame, mkF, argsToLocals, Value.category]; done) | rfl
def Q_rm8 (Z : State) (q0 : Int64) (q1 : Int64) (h0 : Heap) (n0 : Nat) (v : Option Value) (h : Heap) (L : List Loc) : Prop := v = some (.long (q0 * q1)) ∧ Fr n0 L ∧ h = h0
set_option maxRecDepth 65536 in
set_option maxHeartbeats 40000000 in
theorem rm8 (l : Launch) (Z : State) (av0 : Array Value) (hw : ∀ d ∈ tables_1, d.before av0 Z = true) (ws : List Jvm.Cond) (q0 : Int64) (q1 : Int64) (h0 : Heap) (n0 : Nat) (Z0 : n0 ≤ h0.size) (hp : Jvm.Free.XT.fits64 (q0.toInt * q1.toInt)) (hm : ¬ (q1 = (0 : Int64))) (hn : ¬ (q0 = (-9223372036854775808 : Int64))) :
    MetFree l (⟨"java/lang/Math", "multiplyExact", "(JJ)J"⟩ : MethodName) (head1 (Jvm.Cond.code (⟨"java/lang/Math", "multiplyExact", "(JJ)J"⟩ : MethodName) jdk_29_method_30_code 10 (some .long) :: ws) ({ frames := 1, cells := 0, slots := 0, locals := 13 } : Room)) (fun a U => a = #[(.long q0), (.long q1)] ∧ Z.Warmed39 U.vm ∧ U.heap = h0) (fun _ _ _ _ _ => True) (fun _ U o U' => ∃ v L, o = .returned v ∧ Q_rm8 Z q0 q1 h0 n0 v U'.heap L ∧ FrameEnd U o U' L ({ frames := 1, cells := 0, slots := 0, locals := 13 } : Room).cells ({ frames := 1, cells := 0, slots := 0, locals := 13 } : Room).slots) := by
  refine MetFree.of_bodySF (Jvm.Free.JP.mathPlain rfl (by decide +kernel)) hisR ?_
  intro p e s m args below meth c s₁ Bd hml0 hP hK
  obtain ⟨rfl, hZ, hh⟩ := hP
  have hx := Bd.exec
  have hby := Bd.bytes
  have hml : c.maxLocals = 10 := hml0
  have hown : s.vm.findClass "java/lang/Math" = some m.cls := findClass_of_methodNamed Bd.named
  have hnm := (name_of_methodNamed Bd.named Bd.method).1
  have X0 : Stand p l e ({ frames := 1, cells := 0, slots := 0, locals := 13 } : Room) s m #[(.long q0), (.long q1)] below meth c s₁ [] 0 0 := Stand.of_body Bd
  have e0 : s₁.heap = h0 := by rw [← hh, Bd.state]; rfl
  have N0 := Fr.nil n0
  have pre0 : ∀ t, Steps p.tables e below (s₁.setTop (mkF m 0 #[.val (.long q0), .second, .val (.long q1), .second, .unset, .unset, .unset, .unset, .unset, .unset] [])) t → Steps p.tables e below (s₁.setTop (entryFrame m #[(.long q0), (.long q1)] 10)) t := fun t k => castTop (ef_rm8 m q0 q1) k
  change OwnFin p.tables e below _ (s₁.setTop (entryFrame m #[(.long q0), (.long q1)] 10))
  have kp0 : Keep h0 h0 [] := Keep.refl _ _
  refine OwnFin.st (fun _ q => pre0 _ q) ?_
  show OwnFin _ _ _ _ (s₁.setTop (mkF m 0 #[.val (.long q0), .second, .val (.long q1), .second, .unset, .unset, .unset, .unset, .unset, .unset] []))
  refine OwnFin.st (fun _ q => XS.lloadN X0.here hx rfl (hb hby d8_0) rfl q) ?_
  show OwnFin _ _ _ _ (s₁.setTop (mkF m 1 #[.val (.long q0), .second, .val (.long q1), .second, .unset, .unset, .unset, .unset, .unset, .unset] [(.long q0)]))
  refine OwnFin.st (fun _ q => XS.lloadN X0.here hx rfl (hb hby d8_1) rfl q) ?_
  show OwnFin _ _ _ _ (s₁.setTop (mkF m 2 #[.val (.long q0), .second, .val (.long q1), .second, .unset, .unset, .unset, .unset, .unset, .unset] [(.long q1), (.long q0)]))
  refine OwnFin.st (fun _ q => XS.lmul X0.here hx rfl (hb hby d8_2) rfl q) ?_
  show OwnFin _ _ _ _ (s₁.setTop (mkF m 3 #[.val (.long q0), .second, .val (.long q1), .second, .unset, .unset, .unset, .unset, .unset, .unset] [(.long (q0 * q1))]))
  refine OwnFin.st (fun _ q => XS.lstore X0.here hx rfl (hb hby d8_3) rfl (l' := #[.val (.long q0), .second, .val (.long q1), .second, .val (.long (q0 * q1)), .second, .unset, .unset, .unset, .unset]) rfl q) ?_
  show OwnFin _ _ _ _ (s₁.setTop (mkF m 5 #[.val (.long q0), .second, .val (.long q1), .second, .val (.long (q0 * q1)), .second, .unset, .unset, .unset, .unset] []))
  refine OwnFin.st (fun _ q => XS.lloadN X0.here hx rfl (hb hby d8_5) rfl q) ?_
  show OwnFin _ _ _ _ (s₁.setTop (mkF m 6 #[.val (.long q0), .second, .val (.long q1), .second, .val (.long (q0 * q1)), .second, .unset, .unset, .unset, .unset] [(.long q0)]))
  obtain ⟨_, _, ⟨T1, L1, k1, n1⟩, -, X1, ⟨Lc1, hQ1, l1, y1, z1⟩, st1⟩ := Jvm.LawKit.callS X0 hx (y := (⟨"java/lang/Math", "abs", "(J)J"⟩ : MethodName)) hown (mvT hZ (hw _ (List.mem_of_getElem? (i := 53) rfl))) (mvT hZ (hw _ (List.mem_of_getElem? (i := 54) rfl))) (mvT hZ (hw _ (List.mem_of_getElem? (i := 48) rfl))) (mvT hZ (hw _ (List.mem_of_getElem? (i := 55) rfl))) (by decide) (backOf (W := 0) (rm9 l Z av0 hw [] q0 h0 n0 (Nat.le_trans Z0 kp0.1) ) hZ (hw _ (List.mem_of_getElem? (i := 55) rfl)) (hw _ (List.mem_of_getElem? (i := 48) rfl)) (by decide) (by decide)) (g := (mkF m 6 #[.val (.long q0), .second, .val (.long q1), .second, .val (.long (q0 * q1)), .second, .unset, .unset, .unset, .unset] [(.long q0)])) rfl (by rw [hml]; rfl) (argsL := [(.long q0)]) (rest := []) (lenOf pd_2 rfl) rfl (by show 2 * 0 + _ ≤ _; exact Nat.le_of_eq rfl) (hb hby d8_6) (fun _ _ => ⟨rfl, e0, (by decide : 0 + 0 ≤ _), (by decide : 0 + 0 ≤ _)⟩)
  dsimp only [Pt.U, Pt.locs, Pt.cells, Pt.slots] at X1 l1 y1 z1 st1 hQ1
  subst l1 y1 z1
  obtain ⟨rfl, N1q, he1⟩ := hQ1
  have N1 := Fr.app N0 N1q
  refine OwnFin.st st1 ?_
  show OwnFin _ _ _ _ (T1.setTop (mkF m 9 #[.val (.long q0), .second, .val (.long q1), .second, .val (.long (q0 * q1)), .second, .unset, .unset, .unset, .unset] [(.long (own_absL q0))]))
  refine OwnFin.st (fun _ q => XS.lstore X1.here hx rfl (hb hby d8_9) rfl (l' := #[.val (.long q0), .second, .val (.long q1), .second, .val (.long (q0 * q1)), .second, .val (.long (own_absL q0)), .second, .unset, .unset]) rfl q) ?_
  show OwnFin _ _ _ _ (T1.setTop (mkF m 11 #[.val (.long q0), .second, .val (.long q1), .second, .val (.long (q0 * q1)), .second, .val (.long (own_absL q0)), .second, .unset, .unset] []))
  refine OwnFin.st (fun _ q => XS.lloadN X1.here hx rfl (hb hby d8_11) rfl q) ?_
  show OwnFin _ _ _ _ (T1.setTop (mkF m 12 #[.val (.long q0), .second, .val (.long q1), .second, .val (.long (q0 * q1)), .second, .val (.long (own_absL q0)), .second, .unset, .unset] [(.long q1)]))
  obtain ⟨_, _, ⟨T2, L2, k2, n2⟩, -, X2, ⟨Lc2, hQ2, l2, y2, z2⟩, st2⟩ := Jvm.LawKit.callS X1 hx (y := (⟨"java/lang/Math", "abs", "(J)J"⟩ : MethodName)) hown (mvT hZ (hw _ (List.mem_of_getElem? (i := 53) rfl))) (mvT hZ (hw _ (List.mem_of_getElem? (i := 54) rfl))) (mvT hZ (hw _ (List.mem_of_getElem? (i := 48) rfl))) (mvT hZ (hw _ (List.mem_of_getElem? (i := 55) rfl))) (by decide) (backOf (W := 0) (rm9 l Z av0 hw [] q1 h0 n0 (Nat.le_trans Z0 kp0.1) ) hZ (hw _ (List.mem_of_getElem? (i := 55) rfl)) (hw _ (List.mem_of_getElem? (i := 48) rfl)) (by decide) (by decide)) (g := (mkF m 12 #[.val (.long q0), .second, .val (.long q1), .second, .val (.long (q0 * q1)), .second, .val (.long (own_absL q0)), .second, .unset, .unset] [(.long q1)])) rfl (by rw [hml]; rfl) (argsL := [(.long q1)]) (rest := []) (lenOf pd_2 rfl) rfl (by show 2 * 0 + _ ≤ _; exact Nat.le_of_eq rfl) (hb hby d8_12) (fun _ _ => ⟨rfl, he1, (by decide : 0 + 0 ≤ _), (by decide : 0 + 0 ≤ _)⟩)
  dsimp only [Pt.U, Pt.locs, Pt.cells, Pt.slots] at X2 l2 y2 z2 st2 hQ2
  subst l2 y2 z2
  obtain ⟨rfl, N2q, he2⟩ := hQ2
  have N2 := Fr.app N1 N2q
  refine OwnFin.st st2 ?_
  show OwnFin _ _ _ _ (T2.setTop (mkF m 15 #[.val (.long q0), .second, .val (.long q1), .second, .val (.long (q0 * q1)), .second, .val (.long (own_absL q0)), .second, .unset, .unset] [(.long (own_absL q1))]))
  refine OwnFin.st (fun _ q => XS.lstore X2.here hx rfl (hb hby d8_15) rfl (l' := #[.val (.long q0), .second, .val (.long q1), .second, .val (.long (q0 * q1)), .second, .val (.long (own_absL q0)), .second, .val (.long (own_absL q1)), .second]) rfl q) ?_
  show OwnFin _ _ _ _ (T2.setTop (mkF m 17 #[.val (.long q0), .second, .val (.long q1), .second, .val (.long (q0 * q1)), .second, .val (.long (own_absL q0)), .second, .val (.long (own_absL q1)), .second] []))
  refine OwnFin.st (fun _ q => XS.lload X2.here hx rfl (hb hby d8_17) rfl q) ?_
  show OwnFin _ _ _ _ (T2.setTop (mkF m 19 #[.val (.long q0), .second, .val (.long q1), .second, .val (.long (q0 * q1)), .second, .val (.long (own_absL q0)), .second, .val (.long (own_absL q1)), .second] [(.long (own_absL q0))]))
  refine OwnFin.st (fun _ q => XS.lload X2.here hx rfl (hb hby d8_19) rfl q) ?_
  show OwnFin _ _ _ _ (T2.setTop (mkF m 21 #[.val (.long q0), .second, .val (.long q1), .second, .val (.long (q0 * q1)), .second, .val (.long (own_absL q0)), .second, .val (.long (own_absL q1)), .second] [(.long (own_absL q1)), (.long (own_absL q0))]))
  refine OwnFin.st (fun _ q => XS.lor X2.here hx rfl (hb hby d8_21) rfl q) ?_
  show OwnFin _ _ _ _ (T2.setTop (mkF m 22 #[.val (.long q0), .second, .val (.long q1), .second, .val (.long (q0 * q1)), .second, .val (.long (own_absL q0)), .second, .val (.long (own_absL q1)), .second] [(.long ((own_absL q0) ||| (own_absL q1)))]))
  refine OwnFin.st (fun _ q => XS.bipush X2.here hx rfl (hb hby d8_22) q) ?_
  show OwnFin _ _ _ _ (T2.setTop (mkF m 24 #[.val (.long q0), .second, .val (.long q1), .second, .val (.long (q0 * q1)), .second, .val (.long (own_absL q0)), .second, .val (.long (own_absL q1)), .second] [(.int (31 : Int32)), (.long ((own_absL q0) ||| (own_absL q1)))]))
  refine OwnFin.st (fun _ q => XS.lushr X2.here hx rfl (hb hby d8_24) rfl q) ?_
  show OwnFin _ _ _ _ (T2.setTop (mkF m 25 #[.val (.long q0), .second, .val (.long q1), .second, .val (.long (q0 * q1)), .second, .val (.long (own_absL q0)), .second, .val (.long (own_absL q1)), .second] [(.long ((((own_absL q0) ||| (own_absL q1)).toUInt64 >>> ((31 : Int32) &&& 0x3f).toInt64.toUInt64).toInt64))]))
  refine OwnFin.st (fun _ q => XS.lconst X2.here hx rfl (hb hby d8_25) q) ?_
  show OwnFin _ _ _ _ (T2.setTop (mkF m 26 #[.val (.long q0), .second, .val (.long q1), .second, .val (.long (q0 * q1)), .second, .val (.long (own_absL q0)), .second, .val (.long (own_absL q1)), .second] [(.long (0 : Int64)), (.long ((((own_absL q0) ||| (own_absL q1)).toUInt64 >>> ((31 : Int32) &&& 0x3f).toInt64.toUInt64).toInt64))]))
  refine OwnFin.st (fun _ q => XS.lcmp X2.here hx rfl (hb hby d8_26) rfl q) ?_
  show OwnFin _ _ _ _ (T2.setTop (mkF m 27 #[.val (.long q0), .second, .val (.long q1), .second, .val (.long (q0 * q1)), .second, .val (.long (own_absL q0)), .second, .val (.long (own_absL q1)), .second] [(.int (lcmpW ((((own_absL q0) ||| (own_absL q1)).toUInt64 >>> ((31 : Int32) &&& 0x3f).toInt64.toUInt64).toInt64) (0 : Int64)))]))
  by_cases hc3 : ((((own_absL q0) ||| (own_absL q1)).toUInt64 >>> ((31 : Int32) &&& 0x3f).toInt64.toUInt64).toInt64) = (0 : Int64)
  · skip
    refine OwnFin.st (fun _ q => XS.ifYes X2.here hx rfl (pc0 := 27) (pc' := 71) rfl (hb hby d8_27) rfl (Jvm.Free.XT.ll_eq_t hc3) (by decide) (by decide) q) ?_
    show OwnFin _ _ _ _ (T2.setTop (mkF m 71 #[.val (.long q0), .second, .val (.long q1), .second, .val (.long (q0 * q1)), .second, .val (.long (own_absL q0)), .second, .val (.long (own_absL q1)), .second] []))
    refine OwnFin.st (fun _ q => XS.lload X2.here hx rfl (hb hby d8_71) rfl q) ?_
    show OwnFin _ _ _ _ (T2.setTop (mkF m 73 #[.val (.long q0), .second, .val (.long q1), .second, .val (.long (q0 * q1)), .second, .val (.long (own_absL q0)), .second, .val (.long (own_absL q1)), .second] [(.long (q0 * q1))]))
    obtain ⟨fs, hr, hrun, hended, hW, hsame⟩ := X2.leave (v := some (.long (q0 * q1))) (fun h => by rw [Bd.returns] at h; cases h)
    refine ⟨_, _, X2.lreturnOut hx Bd.returns (hb hby d8_73) hr, hrun, hended, _, _, rfl, ?_, ⟨_, rfl⟩, hW, hsame.mono (by decide) (by decide)⟩
    show Q_rm8 Z q0 q1 h0 n0 _ T2.heap _
    rw [he2]
    refine ⟨?_, N2, rfl⟩
    rfl
  · skip
    refine OwnFin.st (fun _ q => XS.ifNo X2.here hx rfl (hb hby d8_27) rfl (Jvm.Free.XT.ll_eq_f hc3) q) ?_
    show OwnFin _ _ _ _ (T2.setTop (mkF m 30 #[.val (.long q0), .second, .val (.long q1), .second, .val (.long (q0 * q1)), .second, .val (.long (own_absL q0)), .second, .val (.long (own_absL q1)), .second] []))
    refine OwnFin.st (fun _ q => XS.lloadN X2.here hx rfl (hb hby d8_30) rfl q) ?_
    show OwnFin _ _ _ _ (T2.setTop (mkF m 31 #[.val (.long q0), .second, .val (.long q1), .second, .val (.long (q0 * q1)), .second, .val (.long (own_absL q0)), .second, .val (.long (own_absL q1)), .second] [(.long q1)]))
    refine OwnFin.st (fun _ q => XS.lconst X2.here hx rfl (hb hby d8_31) q) ?_
    show OwnFin _ _ _ _ (T2.setTop (mkF m 32 #[.val (.long q0), .second, .val (.long q1), .second, .val (.long (q0 * q1)), .second, .val (.long (own_absL q0)), .second, .val (.long (own_absL q1)), .second] [(.long (0 : Int64)), (.long q1)]))
    refine OwnFin.st (fun _ q => XS.lcmp X2.here hx rfl (hb hby d8_32) rfl q) ?_
    show OwnFin _ _ _ _ (T2.setTop (mkF m 33 #[.val (.long q0), .second, .val (.long q1), .second, .val (.long (q0 * q1)), .second, .val (.long (own_absL q0)), .second, .val (.long (own_absL q1)), .second] [(.int (lcmpW q1 (0 : Int64)))]))
    refine OwnFin.st (fun _ q => XS.ifNo X2.here hx rfl (hb hby d8_33) rfl (Jvm.Free.XT.ll_eq_f hm) q) ?_
    show OwnFin _ _ _ _ (T2.setTop (mkF m 36 #[.val (.long q0), .second, .val (.long q1), .second, .val (.long (q0 * q1)), .second, .val (.long (own_absL q0)), .second, .val (.long (own_absL q1)), .second] []))
    refine OwnFin.st (fun _ q => XS.lload X2.here hx rfl (hb hby d8_36) rfl q) ?_
    show OwnFin _ _ _ _ (T2.setTop (mkF m 38 #[.val (.long q0), .second, .val (.long q1), .second, .val (.long (q0 * q1)), .second, .val (.long (own_absL q0)), .second, .val (.long (own_absL q1)), .second] [(.long (q0 * q1))]))
    refine OwnFin.st (fun _ q => XS.lloadN X2.here hx rfl (hb hby d8_38) rfl q) ?_
    show OwnFin _ _ _ _ (T2.setTop (mkF m 39 #[.val (.long q0), .second, .val (.long q1), .second, .val (.long (q0 * q1)), .second, .val (.long (own_absL q0)), .second, .val (.long (own_absL q1)), .second] [(.long q1), (.long (q0 * q1))]))
    refine OwnFin.st (fun _ q => XS.ldiv X2.here hx rfl (hb hby d8_39) rfl hm q) ?_
    show OwnFin _ _ _ _ (T2.setTop (mkF m 40 #[.val (.long q0), .second, .val (.long q1), .second, .val (.long (q0 * q1)), .second, .val (.long (own_absL q0)), .second, .val (.long (own_absL q1)), .second] [(.long ((q0 * q1) / q1))]))
    refine OwnFin.st (fun _ q => XS.lloadN X2.here hx rfl (hb hby d8_40) rfl q) ?_
    show OwnFin _ _ _ _ (T2.setTop (mkF m 41 #[.val (.long q0), .second, .val (.long q1), .second, .val (.long (q0 * q1)), .second, .val (.long (own_absL q0)), .second, .val (.long (own_absL q1)), .second] [(.long q0), (.long ((q0 * q1) / q1))]))
    refine OwnFin.st (fun _ q => XS.lcmp X2.here hx rfl (hb hby d8_41) rfl q) ?_
    show OwnFin _ _ _ _ (T2.setTop (mkF m 42 #[.val (.long q0), .second, .val (.long q1), .second, .val (.long (q0 * q1)), .second, .val (.long (own_absL q0)), .second, .val (.long (own_absL q1)), .second] [(.int (lcmpW ((q0 * q1) / q1) q0))]))
    refine OwnFin.st (fun _ q => XS.ifNo X2.here hx rfl (hb hby d8_42) rfl (Jvm.Free.XT.ll_ne_f (Jvm.Free.XT.mulDiv64 hp hm)) q) ?_
    show OwnFin _ _ _ _ (T2.setTop (mkF m 45 #[.val (.long q0), .second, .val (.long q1), .second, .val (.long (q0 * q1)), .second, .val (.long (own_absL q0)), .second, .val (.long (own_absL q1)), .second] []))
    refine OwnFin.st (fun _ q => XS.lloadN X2.here hx rfl (hb hby d8_45) rfl q) ?_
    show OwnFin _ _ _ _ (T2.setTop (mkF m 46 #[.val (.long q0), .second, .val (.long q1), .second, .val (.long (q0 * q1)), .second, .val (.long (own_absL q0)), .second, .val (.long (own_absL q1)), .second] [(.long q0)]))
    refine OwnFin.st (X2.ldc2Long hx hown (mvT hZ (hw _ (List.mem_of_getElem? (i := 56) rfl))) (g := (mkF m 46 #[.val (.long q0), .second, .val (.long q1), .second, .val (.long (q0 * q1)), .second, .val (.long (own_absL q0)), .second, .val (.long (own_absL q1)), .second] [(.long q0)])) rfl (hb hby d8_46)) ?_
    show OwnFin _ _ _ _ (T2.setTop (mkF m 49 #[.val (.long q0), .second, .val (.long q1), .second, .val (.long (q0 * q1)), .second, .val (.long (own_absL q0)), .second, .val (.long (own_absL q1)), .second] [(.long (-9223372036854775808 : Int64)), (.long q0)]))
    refine OwnFin.st (fun _ q => XS.lcmp X2.here hx rfl (hb hby d8_49) rfl q) ?_
    show OwnFin _ _ _ _ (T2.setTop (mkF m 50 #[.val (.long q0), .second, .val (.long q1), .second, .val (.long (q0 * q1)), .second, .val (.long (own_absL q0)), .second, .val (.long (own_absL q1)), .second] [(.int (lcmpW q0 (-9223372036854775808 : Int64)))]))
    refine OwnFin.st (fun _ q => XS.ifYes X2.here hx rfl (pc0 := 50) (pc' := 71) rfl (hb hby d8_50) rfl (Jvm.Free.XT.ll_ne_t hn) (by decide) (by decide) q) ?_
    show OwnFin _ _ _ _ (T2.setTop (mkF m 71 #[.val (.long q0), .second, .val (.long q1), .second, .val (.long (q0 * q1)), .second, .val (.long (own_absL q0)), .second, .val (.long (own_absL q1)), .second] []))
    refine OwnFin.st (fun _ q => XS.lload X2.here hx rfl (hb hby d8_71) rfl q) ?_
    show OwnFin _ _ _ _ (T2.setTop (mkF m 73 #[.val (.long q0), .second, .val (.long q1), .second, .val (.long (q0 * q1)), .second, .val (.long (own_absL q0)), .second, .val (.long (own_absL q1)), .second] [(.long (q0 * q1))]))
    obtain ⟨fs, hr, hrun, hended, hW, hsame⟩ := X2.leave (v := some (.long (q0 * q1))) (fun h => by rw [Bd.returns] at h; cases h)
    refine ⟨_, _, X2.lreturnOut hx Bd.returns (hb hby d8_73) hr, hrun, hended, _, _, rfl, ?_, ⟨_, rfl⟩, hW, hsame.mono (by decide) (by decide)⟩
    show Q_rm8 Z q0 q1 h0 n0 _ T2.heap _
    rw [he2]
    refine ⟨?_, N2, rfl⟩
    rfl
theorem pd_3 : parseMethodDescriptor "(JJ)J" = some ⟨[.long, .long], some .long⟩ := by decide +kernel
theorem d7_0 : decode jdk_29_method_29_code 0 = .ok (.lload_n 0, 1) := by decide +kernel
theorem d7_1 : decode jdk_29_method_29_code 1 = .ok (.iload_n 2, 1) := by decide +kernel
theorem d7_2 : decode jdk_29_method_29_code 2 = .ok (.i2l, 1) := by decide +kernel
theorem d7_3 : decode jdk_29_method_29_code 3 = .ok (.invokestatic 118, 3) := by decide +kernel
theorem d7_6 : decode jdk_29_method_29_code 6 = .ok (.lreturn, 1) := by decide +kernel
theorem ef_rm7 (m : MethodId) (q0 : Int64) (p1 : Int32) : entryFrame m #[(.long q0), (.int p1)] 3 = mkF m 0 #[.val (.long q0), .second, .val (.int p1)] [] := by first | (simp [entryFrame, mkF, argsToLocals, Value.category]; done) | rfl
def Q_rm7 (Z : State) (q0 : Int64) (p1 : Int32) (h0 : Heap) (n0 : Nat) (v : Option Value) (h : Heap) (L : List Loc) : Prop := v = some (.long (q0 * (p1.toInt64))) ∧ Fr n0 L ∧ h = h0
set_option maxRecDepth 65536 in
set_option maxHeartbeats 40000000 in
theorem rm7 (l : Launch) (Z : State) (av0 : Array Value) (hw : ∀ d ∈ tables_1, d.before av0 Z = true) (ws : List Jvm.Cond) (q0 : Int64) (p1 : Int32) (h0 : Heap) (n0 : Nat) (Z0 : n0 ≤ h0.size) (hp7 : Jvm.Free.XT.fits64 (q0.toInt * p1.toInt)) (hm7 : ¬ (p1.toInt64 = (0 : Int64))) (hn7 : ¬ (q0 = (-9223372036854775808 : Int64))) :
    MetFree l (⟨"java/lang/Math", "multiplyExact", "(JI)J"⟩ : MethodName) (head1 (Jvm.Cond.code (⟨"java/lang/Math", "multiplyExact", "(JI)J"⟩ : MethodName) jdk_29_method_29_code 3 (some .long) :: ws) ({ frames := 2, cells := 0, slots := 0, locals := 34 } : Room)) (fun a U => a = #[(.long q0), (.int p1)] ∧ Z.Warmed39 U.vm ∧ U.heap = h0) (fun _ _ _ _ _ => True) (fun _ U o U' => ∃ v L, o = .returned v ∧ Q_rm7 Z q0 p1 h0 n0 v U'.heap L ∧ FrameEnd U o U' L ({ frames := 2, cells := 0, slots := 0, locals := 34 } : Room).cells ({ frames := 2, cells := 0, slots := 0, locals := 34 } : Room).slots) := by
  refine MetFree.of_bodySF (Jvm.Free.JP.mathPlain rfl (by decide +kernel)) hisR ?_
  intro p e s m args below meth c s₁ Bd hml0 hP hK
  obtain ⟨rfl, hZ, hh⟩ := hP
  have hx := Bd.exec
  have hby := Bd.bytes
  have hml : c.maxLocals = 3 := hml0
  have hown : s.vm.findClass "java/lang/Math" = some m.cls := findClass_of_methodNamed Bd.named
  have hnm := (name_of_methodNamed Bd.named Bd.method).1
  have X0 : Stand p l e ({ frames := 2, cells := 0, slots := 0, locals := 34 } : Room) s m #[(.long q0), (.int p1)] below meth c s₁ [] 0 0 := Stand.of_body Bd
  have e0 : s₁.heap = h0 := by rw [← hh, Bd.state]; rfl
  have N0 := Fr.nil n0
  have pre0 : ∀ t, Steps p.tables e below (s₁.setTop (mkF m 0 #[.val (.long q0), .second, .val (.int p1)] [])) t → Steps p.tables e below (s₁.setTop (entryFrame m #[(.long q0), (.int p1)] 3)) t := fun t k => castTop (ef_rm7 m q0 p1) k
  change OwnFin p.tables e below _ (s₁.setTop (entryFrame m #[(.long q0), (.int p1)] 3))
  have kp0 : Keep h0 h0 [] := Keep.refl _ _
  refine OwnFin.st (fun _ q => pre0 _ q) ?_
  show OwnFin _ _ _ _ (s₁.setTop (mkF m 0 #[.val (.long q0), .second, .val (.int p1)] []))
  refine OwnFin.st (fun _ q => XS.lloadN X0.here hx rfl (hb hby d7_0) rfl q) ?_
  show OwnFin _ _ _ _ (s₁.setTop (mkF m 1 #[.val (.long q0), .second, .val (.int p1)] [(.long q0)]))
  refine OwnFin.st (fun _ q => XS.iloadN X0.here hx rfl (hb hby d7_1) rfl q) ?_
  show OwnFin _ _ _ _ (s₁.setTop (mkF m 2 #[.val (.long q0), .second, .val (.int p1)] [(.int p1), (.long q0)]))
  refine OwnFin.st (fun _ q => XS.i2l X0.here hx rfl (hb hby d7_2) rfl q) ?_
  show OwnFin _ _ _ _ (s₁.setTop (mkF m 3 #[.val (.long q0), .second, .val (.int p1)] [(.long (p1.toInt64)), (.long q0)]))
  obtain ⟨_, _, ⟨T1, L1, k1, n1⟩, -, X1, ⟨Lc1, hQ1, l1, y1, z1⟩, st1⟩ := Jvm.LawKit.callS X0 hx (y := (⟨"java/lang/Math", "multiplyExact", "(JJ)J"⟩ : MethodName)) hown (mvT hZ (hw _ (List.mem_of_getElem? (i := 50) rfl))) (mvT hZ (hw _ (List.mem_of_getElem? (i := 51) rfl))) (mvT hZ (hw _ (List.mem_of_getElem? (i := 48) rfl))) (mvT hZ (hw _ (List.mem_of_getElem? (i := 52) rfl))) (by decide) (backOf (W := 0) (rm8 l Z av0 hw [] q0 (p1.toInt64) h0 n0 (Nat.le_trans Z0 kp0.1) (by rw [Int32.toInt_toInt64]; exact hp7) hm7 hn7) hZ (hw _ (List.mem_of_getElem? (i := 52) rfl)) (hw _ (List.mem_of_getElem? (i := 48) rfl)) (by decide) (by decide)) (g := (mkF m 3 #[.val (.long q0), .second, .val (.int p1)] [(.long (p1.toInt64)), (.long q0)])) rfl (by rw [hml]; rfl) (argsL := [(.long q0), (.long (p1.toInt64))]) (rest := []) (lenOf pd_3 rfl) rfl (by show 2 * 0 + _ ≤ _; exact Nat.le_of_eq rfl) (hb hby d7_3) (fun _ _ => ⟨rfl, e0, (by decide : 0 + 0 ≤ _), (by decide : 0 + 0 ≤ _)⟩)
  dsimp only [Pt.U, Pt.locs, Pt.cells, Pt.slots] at X1 l1 y1 z1 st1 hQ1
  subst l1 y1 z1
  obtain ⟨rfl, N1q, he1⟩ := hQ1
  have N1 := Fr.app N0 N1q
  refine OwnFin.st st1 ?_
  show OwnFin _ _ _ _ (T1.setTop (mkF m 6 #[.val (.long q0), .second, .val (.int p1)] [(.long (q0 * (p1.toInt64)))]))
  obtain ⟨fs, hr, hrun, hended, hW, hsame⟩ := X1.leave (v := some (.long (q0 * (p1.toInt64)))) (fun h => by rw [Bd.returns] at h; cases h)
  refine ⟨_, _, X1.lreturnOut hx Bd.returns (hb hby d7_6) hr, hrun, hended, _, _, rfl, ?_, ⟨_, rfl⟩, hW, hsame.mono (by decide) (by decide)⟩
  show Q_rm7 Z q0 p1 h0 n0 _ T1.heap _
  rw [he1]
  refine ⟨?_, N1, rfl⟩
  rfl
theorem pd_4 : parseMethodDescriptor "()I" = some ⟨[], some .int⟩ := by decide +kernel
theorem pd_5 : parseMethodDescriptor "(JI)J" = some ⟨[.long, .int], some .long⟩ := by decide +kernel
theorem d5_0 : decode prog_23_method_2_code 0 = .ok (.aload_n 0, 1) := by decide +kernel
theorem d5_1 : decode prog_23_method_2_code 1 = .ok (.getfield 24, 3) := by decide +kernel
theorem d5_4 : decode prog_23_method_2_code 4 = .ok (.aload_n 0, 1) := by decide +kernel
theorem d5_5 : decode prog_23_method_2_code 5 = .ok (.getfield 30, 3) := by decide +kernel
theorem d5_8 : decode prog_23_method_2_code 8 = .ok (.invokevirtual 33, 3) := by decide +kernel
theorem d5_11 : decode prog_23_method_2_code 11 = .ok (.invokestatic 39, 3) := by decide +kernel
theorem d5_14 : decode prog_23_method_2_code 14 = .ok (.lreturn, 1) := by decide +kernel
theorem ef_rm5 (m : MethodId) (a0 : Addr) : entryFrame m #[(.ref a0)] 1 = mkF m 0 #[.val (.ref a0)] [] := by first | (simp [entryFrame, mkF, argsToLocals, Value.category]; done) | rfl
def Q_rm5 (Z : State) (a0 : Addr) (w_count_a0 : Int64) (w_unit_a0 : Addr) (w_months_w_unit_a0 : Int32) (h0 : Heap) (n0 : Nat) (v : Option Value) (h : Heap) (L : List Loc) : Prop := v = some (.long (w_count_a0 * (w_months_w_unit_a0.toInt64))) ∧ Fr n0 L ∧ h = h0
set_option maxRecDepth 65536 in
set_option maxHeartbeats 40000000 in
theorem rm5 (l : Launch) (Z : State) (av0 : Array Value) (hw : ∀ d ∈ tables_1, d.before av0 Z = true) (ws : List Jvm.Cond) (a0 : Addr) (w_count_a0 : Int64) (w_unit_a0 : Addr) (w_months_w_unit_a0 : Int32) (h0 : Heap) (n0 : Nat) (Z0 : n0 ≤ h0.size) (hp5 : Jvm.Free.XT.fits64 (w_count_a0.toInt * w_months_w_unit_a0.toInt)) (hm5 : ¬ (w_months_w_unit_a0.toInt64 = (0 : Int64))) (hn5 : ¬ (w_count_a0 = (-9223372036854775808 : Int64))) (F_count_a0 : Fld Z h0 a0 "com/example/libaccrue/libaccrue/history/Term" "count" "J" (.long w_count_a0)) (F_unit_a0 : Fld Z h0 a0 "com/example/libaccrue/libaccrue/history/Term" "unit" "Lcom/example/libaccrue/libaccrue/history/Term$Unit;" (.ref w_unit_a0)) (X_w_unit_a0 : Exa Z h0 w_unit_a0 "com/example/libaccrue/libaccrue/history/Term$Unit") (F_months_w_unit_a0 : Fld Z h0 w_unit_a0 "com/example/libaccrue/libaccrue/history/Term$Unit" "months" "I" (.int w_months_w_unit_a0)) :
    MetFree l (⟨"com/example/libaccrue/libaccrue/history/Term", "months", "()J"⟩ : MethodName) (head1 (Jvm.Cond.code (⟨"com/example/libaccrue/libaccrue/history/Term", "months", "()J"⟩ : MethodName) prog_23_method_2_code 1 (some .long) :: ws) ({ frames := 3, cells := 0, slots := 0, locals := 48 } : Room)) (fun a U => a = #[(.ref a0)] ∧ Z.Warmed39 U.vm ∧ U.heap = h0) (fun _ _ _ _ _ => True) (fun _ U o U' => ∃ v L, o = .returned v ∧ Q_rm5 Z a0 w_count_a0 w_unit_a0 w_months_w_unit_a0 h0 n0 v U'.heap L ∧ FrameEnd U o U' L ({ frames := 3, cells := 0, slots := 0, locals := 48 } : Room).cells ({ frames := 3, cells := 0, slots := 0, locals := 48 } : Room).slots) := by
  refine MetFree.of_bodySF (plainFor_of_name pn_2) hisR ?_
  intro p e s m args below meth c s₁ Bd hml0 hP hK
  obtain ⟨rfl, hZ, hh⟩ := hP
  have hx := Bd.exec
  have hby := Bd.bytes
  have hml : c.maxLocals = 1 := hml0
  have hown : s.vm.findClass "com/example/libaccrue/libaccrue/history/Term" = some m.cls := findClass_of_methodNamed Bd.named
  have hnm := (name_of_methodNamed Bd.named Bd.method).1
  have X0 : Stand p l e ({ frames := 3, cells := 0, slots := 0, locals := 48 } : Room) s m #[(.ref a0)] below meth c s₁ [] 0 0 := Stand.of_body Bd
  have e0 : s₁.heap = h0 := by rw [← hh, Bd.state]; rfl
  have N0 := Fr.nil n0
  have pre0 : ∀ t, Steps p.tables e below (s₁.setTop (mkF m 0 #[.val (.ref a0)] [])) t → Steps p.tables e below (s₁.setTop (entryFrame m #[(.ref a0)] 1)) t := fun t k => castTop (ef_rm5 m a0) k
  change OwnFin p.tables e below _ (s₁.setTop (entryFrame m #[(.ref a0)] 1))
  have kp0 : Keep h0 h0 [] := Keep.refl _ _
  refine OwnFin.st (fun _ q => pre0 _ q) ?_
  show OwnFin _ _ _ _ (s₁.setTop (mkF m 0 #[.val (.ref a0)] []))
  refine OwnFin.st (fun _ q => XS.aloadN X0.here hx rfl (hb hby d5_0) rfl rfl q) ?_
  show OwnFin _ _ _ _ (s₁.setTop (mkF m 1 #[.val (.ref a0)] [(.ref a0)]))
  obtain ⟨T1, X1, e1, st1⟩ := getF X0 hx hZ hown (host := "") (Or.inl (hw _ (List.mem_of_getElem? (i := 30) rfl))) Via.refl e0 F_count_a0 (g := (mkF m 1 #[.val (.ref a0)] [(.ref a0)])) rfl rfl (hb hby d5_1)
  refine OwnFin.st st1 ?_
  show OwnFin _ _ _ _ (T1.setTop (mkF m 4 #[.val (.ref a0)] [(.long w_count_a0)]))
  refine OwnFin.st (fun _ q => XS.aloadN X1.here hx rfl (hb hby d5_4) rfl rfl q) ?_
  show OwnFin _ _ _ _ (T1.setTop (mkF m 5 #[.val (.ref a0)] [(.ref a0), (.long w_count_a0)]))
  obtain ⟨T2, X2, e2, st2⟩ := getF X1 hx hZ hown (host := "") (Or.inl (hw _ (List.mem_of_getElem? (i := 32) rfl))) Via.refl e1 F_unit_a0 (g := (mkF m 5 #[.val (.ref a0)] [(.ref a0), (.long w_count_a0)])) rfl rfl (hb hby d5_5)
  refine OwnFin.st st2 ?_
  show OwnFin _ _ _ _ (T2.setTop (mkF m 8 #[.val (.ref a0)] [(.ref w_unit_a0), (.long w_count_a0)]))
  obtain ⟨cq3, kq3, q3a, q3b, q3c⟩ := isOf hZ e2 X_w_unit_a0
  obtain ⟨_, _, ⟨T3, L3, k3, n3⟩, -, X3, ⟨Lc3, hQ3, l3, y3, z3⟩, st3⟩ := X2.virtualBack hx (y := (⟨"com/example/libaccrue/libaccrue/history/Term$Unit", "months", "()I"⟩ : MethodName)) (z := (⟨"com/example/libaccrue/libaccrue/history/Term$Unit", "months", "()I"⟩ : MethodName)) hown (mvT hZ (hw _ (List.mem_of_getElem? (i := 39) rfl))) (mvT hZ (hw _ (List.mem_of_getElem? (i := 40) rfl))) (notFace_of_selects (args := #[]) (mvT hZ (hw _ (List.mem_of_getElem? (i := 42) rfl)))) (mvT hZ (hw _ (List.mem_of_getElem? (i := 42) rfl))) (mvT hZ (hw _ (List.mem_of_getElem? (i := 41) rfl))) (by decide) (backOf (W := 2) (rm6 l Z av0 hw [] w_unit_a0 w_months_w_unit_a0 h0 n0 (Nat.le_trans Z0 kp0.1) F_months_w_unit_a0) hZ (hw _ (List.mem_of_getElem? (i := 43) rfl)) (hw _ (List.mem_of_getElem? (i := 5) rfl)) (by decide) (by decide)) q3a q3c (g := (mkF m 8 #[.val (.ref a0)] [(.ref w_unit_a0), (.long w_count_a0)])) rfl (by rw [hml]; rfl) (Steps.refl _) (argsL := []) (rest := [(.long w_count_a0)]) (lenOf pd_4 rfl) rfl (by show 2 * 0 + _ ≤ _; exact Nat.le_of_eq rfl) (hb hby d5_8) (fun _ _ => ⟨rfl, e2, (by decide : 0 + 0 ≤ _), (by decide : 0 + 0 ≤ _)⟩)
  dsimp only [Pt.U, Pt.locs, Pt.cells, Pt.slots] at X3 l3 y3 z3 st3 hQ3
  subst l3 y3 z3
  obtain ⟨rfl, N3q, he3⟩ := hQ3
  have N3 := Fr.app N0 N3q
  refine OwnFin.tr st3 ?_
  show OwnFin _ _ _ _ (T3.setTop (mkF m 11 #[.val (.ref a0)] [(.int w_months_w_unit_a0), (.long w_count_a0)]))
  obtain ⟨_, _, ⟨T4, L4, k4, n4⟩, -, X4, ⟨Lc4, hQ4, l4, y4, z4⟩, st4⟩ := Jvm.LawKit.callS X3 hx (y := (⟨"java/lang/Math", "multiplyExact", "(JI)J"⟩ : MethodName)) hown (mvT hZ (hw _ (List.mem_of_getElem? (i := 46) rfl))) (mvT hZ (hw _ (List.mem_of_getElem? (i := 47) rfl))) (mvT hZ (hw _ (List.mem_of_getElem? (i := 48) rfl))) (mvT hZ (hw _ (List.mem_of_getElem? (i := 49) rfl))) (by decide) (backOf (W := 0) (rm7 l Z av0 hw [] w_count_a0 w_months_w_unit_a0 h0 n0 (Nat.le_trans Z0 kp0.1) hp5 hm5 hn5) hZ (hw _ (List.mem_of_getElem? (i := 49) rfl)) (hw _ (List.mem_of_getElem? (i := 48) rfl)) (by decide) (by decide)) (g := (mkF m 11 #[.val (.ref a0)] [(.int w_months_w_unit_a0), (.long w_count_a0)])) rfl (by rw [hml]; rfl) (argsL := [(.long w_count_a0), (.int w_months_w_unit_a0)]) (rest := []) (lenOf pd_5 rfl) rfl (by show 2 * 0 + _ ≤ _; exact Nat.le_of_eq rfl) (hb hby d5_11) (fun _ _ => ⟨rfl, he3, (by decide : 0 + 0 ≤ _), (by decide : 0 + 0 ≤ _)⟩)
  dsimp only [Pt.U, Pt.locs, Pt.cells, Pt.slots] at X4 l4 y4 z4 st4 hQ4
  subst l4 y4 z4
  obtain ⟨rfl, N4q, he4⟩ := hQ4
  have N4 := Fr.app N3 N4q
  refine OwnFin.st st4 ?_
  show OwnFin _ _ _ _ (T4.setTop (mkF m 14 #[.val (.ref a0)] [(.long (w_count_a0 * (w_months_w_unit_a0.toInt64)))]))
  obtain ⟨fs, hr, hrun, hended, hW, hsame⟩ := X4.leave (v := some (.long (w_count_a0 * (w_months_w_unit_a0.toInt64)))) (fun h => by rw [Bd.returns] at h; cases h)
  refine ⟨_, _, X4.lreturnOut hx Bd.returns (hb hby d5_14) hr, hrun, hended, _, _, rfl, ?_, ⟨_, rfl⟩, hW, hsame.mono (by decide) (by decide)⟩
  show Q_rm5 Z a0 w_count_a0 w_unit_a0 w_months_w_unit_a0 h0 n0 _ T4.heap _
  rw [he4]
  exact ⟨rfl, N4, rfl⟩
theorem pd_6 : parseMethodDescriptor "(JLcom/example/libaccrue/libaccrue/history/Term$Unit;)V" = some ⟨[.long, (.object "com/example/libaccrue/libaccrue/history/Term$Unit")], none⟩ := by decide +kernel
theorem pd_7 : parseMethodDescriptor "()J" = some ⟨[], some .long⟩ := by decide +kernel
theorem pn_4 : plainName "com/example/libaccrue/libaccrue/history/TermMonthsPinLaw" = true := by first | (simp [plainName, overriddenIn]; done) | decide +kernel
theorem ef_rm0 (m : MethodId) (q0 : Int64) (p1 : Int32) : entryFrame m #[(.long q0), (.int p1)] maxLocals = mkF m 0 #[.val (.long q0), .second, .val (.int p1), .unset, .unset, .unset, .unset, .unset, .unset, .unset] [] := by first | (simp [entryFrame, mkF, argsToLocals, Value.category, maxLocals]; done) | rfl
def Q_rm0 (Z : State) (q0 : Int64) (p1 : Int32) (w_MONTH : Addr) (w_YEAR : Addr) (h0 : Heap) (n0 : Nat) (v : Option Value) (h : Heap) (L : List Loc) : Prop := v = some (.int 1) ∧ Fr n0 L
set_option maxHeartbeats 4000000 in
theorem om_rm0_0 (p1 : Int32) (q0 : Int64) (oh0 : (p1 &&& (1 : Int32)) = (0 : Int32)) : ¬ ((((q0 &&& (9223372036854775807 : Int64)) - ((q0 &&& (9223372036854775807 : Int64)) / (9223372036854775807 : Int64)) * (9223372036854775807 : Int64)) + (1 : Int64)) < (1 : Int64)) := by
  have om1 := rng32 (p1 &&& (1 : Int32))
  have om2 := c_mask p1 (1 : Int32) 1 (by decide +kernel) (by decide +kernel)
  have om3 := rng32 p1
  have om4 := rng32 (1 : Int32)
  have om4l : (1 : Int32).toInt = 1 := by decide +kernel
  have om5 := rng32 (0 : Int32)
  have om5l : (0 : Int32).toInt = 0 := by decide +kernel
  have om6 := rng64 (((q0 &&& (9223372036854775807 : Int64)) - ((q0 &&& (9223372036854775807 : Int64)) / (9223372036854775807 : Int64)) * (9223372036854775807 : Int64)) + (1 : Int64))
  have om7 := c_ladd ((q0 &&& (9223372036854775807 : Int64)) - ((q0 &&& (9223372036854775807 : Int64)) / (9223372036854775807 : Int64)) * (9223372036854775807 : Int64)) (1 : Int64)
  have om8 := rng64 ((q0 &&& (9223372036854775807 : Int64)) - ((q0 &&& (9223372036854775807 : Int64)) / (9223372036854775807 : Int64)) * (9223372036854775807 : Int64))
  have om9 := c_lrem (q0 &&& (9223372036854775807 : Int64)) (9223372036854775807 : Int64) 9223372036854775807 (by decide +kernel)
  have om10 := rng64 (q0 &&& (9223372036854775807 : Int64))
  have om11 := c_maskL q0 (9223372036854775807 : Int64) 63 (by decide +kernel) (by decide +kernel)
  have om12 := rng64 q0
  have om13 := rng64 (9223372036854775807 : Int64)
  have om13l : (9223372036854775807 : Int64).toInt = 9223372036854775807 := by decide +kernel
  have om14 := rng64 (1 : Int64)
  have om14l : (1 : Int64).toInt = 1 := by decide +kernel
  have ow0 := oh0
  rw [← Int32.toInt_inj] at ow0
  rw [Int64.lt_iff_toInt_lt]
  generalize (((q0 &&& (9223372036854775807 : Int64)) - ((q0 &&& (9223372036854775807 : Int64)) / (9223372036854775807 : Int64)) * (9223372036854775807 : Int64)) + (1 : Int64)).toInt = gx0 at *
  generalize ((q0 &&& (9223372036854775807 : Int64)) - ((q0 &&& (9223372036854775807 : Int64)) / (9223372036854775807 : Int64)) * (9223372036854775807 : Int64)).toInt = gx1 at *
  generalize (q0 &&& (9223372036854775807 : Int64)).toInt = gx2 at *
  generalize (9223372036854775807 : Int64).toInt = gx3 at *
  generalize (p1 &&& (1 : Int32)).toInt = gx4 at *
  generalize (1 : Int32).toInt = gx5 at *
  generalize (0 : Int32).toInt = gx6 at *
  generalize (1 : Int64).toInt = gx7 at *
  generalize p1.toInt = gx8 at *
  generalize q0.toInt = gx9 at *
  omega
set_option maxHeartbeats 4000000 in
theorem om_rm0_1 (p1 : Int32) (q0 : Int64) (oh0 : (p1 &&& (1 : Int32)) = (0 : Int32)) : Jvm.Free.XT.fits64 ((((q0 &&& (9223372036854775807 : Int64)) - ((q0 &&& (9223372036854775807 : Int64)) / (9223372036854775807 : Int64)) * (9223372036854775807 : Int64)) + (1 : Int64)).toInt * (1 : Int32).toInt) := by
  have om1 := rng32 (p1 &&& (1 : Int32))
  have om2 := c_mask p1 (1 : Int32) 1 (by decide +kernel) (by decide +kernel)
  have om3 := rng32 p1
  have om4 := rng32 (1 : Int32)
  have om4l : (1 : Int32).toInt = 1 := by decide +kernel
  have om5 := rng32 (0 : Int32)
  have om5l : (0 : Int32).toInt = 0 := by decide +kernel
  have om6 := rng64 (((q0 &&& (9223372036854775807 : Int64)) - ((q0 &&& (9223372036854775807 : Int64)) / (9223372036854775807 : Int64)) * (9223372036854775807 : Int64)) + (1 : Int64))
  have om7 := c_ladd ((q0 &&& (9223372036854775807 : Int64)) - ((q0 &&& (9223372036854775807 : Int64)) / (9223372036854775807 : Int64)) * (9223372036854775807 : Int64)) (1 : Int64)
  have om8 := rng64 ((q0 &&& (9223372036854775807 : Int64)) - ((q0 &&& (9223372036854775807 : Int64)) / (9223372036854775807 : Int64)) * (9223372036854775807 : Int64))
  have om9 := c_lrem (q0 &&& (9223372036854775807 : Int64)) (9223372036854775807 : Int64) 9223372036854775807 (by decide +kernel)
  have om10 := rng64 (q0 &&& (9223372036854775807 : Int64))
  have om11 := c_maskL q0 (9223372036854775807 : Int64) 63 (by decide +kernel) (by decide +kernel)
  have om12 := rng64 q0
  have om13 := rng64 (9223372036854775807 : Int64)
  have om13l : (9223372036854775807 : Int64).toInt = 9223372036854775807 := by decide +kernel
  have om14 := rng64 (1 : Int64)
  have om14l : (1 : Int64).toInt = 1 := by decide +kernel
  have ow0 := oh0
  rw [← Int32.toInt_inj] at ow0
  rw [show ((1 : Int32).toInt) = 1 from rfl]
  unfold Jvm.Free.XT.fits64
  generalize (((q0 &&& (9223372036854775807 : Int64)) - ((q0 &&& (9223372036854775807 : Int64)) / (9223372036854775807 : Int64)) * (9223372036854775807 : Int64)) + (1 : Int64)).toInt = gx0 at *
  generalize ((q0 &&& (9223372036854775807 : Int64)) - ((q0 &&& (9223372036854775807 : Int64)) / (9223372036854775807 : Int64)) * (9223372036854775807 : Int64)).toInt = gx1 at *
  generalize (q0 &&& (9223372036854775807 : Int64)).toInt = gx2 at *
  generalize (9223372036854775807 : Int64).toInt = gx3 at *
  generalize (p1 &&& (1 : Int32)).toInt = gx4 at *
  generalize (1 : Int32).toInt = gx5 at *
  generalize (0 : Int32).toInt = gx6 at *
  generalize (1 : Int64).toInt = gx7 at *
  generalize p1.toInt = gx8 at *
  generalize q0.toInt = gx9 at *
  omega
set_option maxHeartbeats 4000000 in
theorem om_rm0_2 (p1 : Int32) (q0 : Int64) (oh0 : (p1 &&& (1 : Int32)) = (0 : Int32)) : ¬ ((((q0 &&& (9223372036854775807 : Int64)) - ((q0 &&& (9223372036854775807 : Int64)) / (9223372036854775807 : Int64)) * (9223372036854775807 : Int64)) + (1 : Int64)) = (-9223372036854775808 : Int64)) := by
  have om1 := rng32 (p1 &&& (1 : Int32))
  have om2 := c_mask p1 (1 : Int32) 1 (by decide +kernel) (by decide +kernel)
  have om3 := rng32 p1
  have om4 := rng32 (1 : Int32)
  have om4l : (1 : Int32).toInt = 1 := by decide +kernel
  have om5 := rng32 (0 : Int32)
  have om5l : (0 : Int32).toInt = 0 := by decide +kernel
  have om6 := rng64 (((q0 &&& (9223372036854775807 : Int64)) - ((q0 &&& (9223372036854775807 : Int64)) / (9223372036854775807 : Int64)) * (9223372036854775807 : Int64)) + (1 : Int64))
  have om7 := c_ladd ((q0 &&& (9223372036854775807 : Int64)) - ((q0 &&& (9223372036854775807 : Int64)) / (9223372036854775807 : Int64)) * (9223372036854775807 : Int64)) (1 : Int64)
  have om8 := rng64 ((q0 &&& (9223372036854775807 : Int64)) - ((q0 &&& (9223372036854775807 : Int64)) / (9223372036854775807 : Int64)) * (9223372036854775807 : Int64))
  have om9 := c_lrem (q0 &&& (9223372036854775807 : Int64)) (9223372036854775807 : Int64) 9223372036854775807 (by decide +kernel)
  have om10 := rng64 (q0 &&& (9223372036854775807 : Int64))
  have om11 := c_maskL q0 (9223372036854775807 : Int64) 63 (by decide +kernel) (by decide +kernel)
  have om12 := rng64 q0
  have om13 := rng64 (9223372036854775807 : Int64)
  have om13l : (9223372036854775807 : Int64).toInt = 9223372036854775807 := by decide +kernel
  have om14 := rng64 (1 : Int64)
  have om14l : (1 : Int64).toInt = 1 := by decide +kernel
  have om15 := rng64 (-9223372036854775808 : Int64)
  have om15l : (-9223372036854775808 : Int64).toInt = -9223372036854775808 := by decide +kernel
  have ow0 := oh0
  rw [← Int32.toInt_inj] at ow0
  rw [← Int64.toInt_inj]
  generalize (((q0 &&& (9223372036854775807 : Int64)) - ((q0 &&& (9223372036854775807 : Int64)) / (9223372036854775807 : Int64)) * (9223372036854775807 : Int64)) + (1 : Int64)).toInt = gx0 at *
  generalize ((q0 &&& (9223372036854775807 : Int64)) - ((q0 &&& (9223372036854775807 : Int64)) / (9223372036854775807 : Int64)) * (9223372036854775807 : Int64)).toInt = gx1 at *
  generalize (q0 &&& (9223372036854775807 : Int64)).toInt = gx2 at *
  generalize (-9223372036854775808 : Int64).toInt = gx3 at *
  generalize (9223372036854775807 : Int64).toInt = gx4 at *
  generalize (p1 &&& (1 : Int32)).toInt = gx5 at *
  generalize (1 : Int32).toInt = gx6 at *
  generalize (0 : Int32).toInt = gx7 at *
  generalize (1 : Int64).toInt = gx8 at *
  generalize p1.toInt = gx9 at *
  generalize q0.toInt = gx10 at *
  omega
set_option maxHeartbeats 4000000 in
theorem om_rm0_3 (p1 : Int32) (q0 : Int64) (oh0 : (p1 &&& (1 : Int32)) = (0 : Int32)) : ((((q0 &&& (9223372036854775807 : Int64)) - ((q0 &&& (9223372036854775807 : Int64)) / (9223372036854775807 : Int64)) * (9223372036854775807 : Int64)) + (1 : Int64)) * ((1 : Int32).toInt64)) = (((q0 &&& (9223372036854775807 : Int64)) - ((q0 &&& (9223372036854775807 : Int64)) / (9223372036854775807 : Int64)) * (9223372036854775807 : Int64)) + (1 : Int64)) := by
  have om1 := rng32 (p1 &&& (1 : Int32))
  have om2 := c_mask p1 (1 : Int32) 1 (by decide +kernel) (by decide +kernel)
  have om3 := rng32 p1
  have om4 := rng32 (1 : Int32)
  have om4l : (1 : Int32).toInt = 1 := by decide +kernel
  have om5 := rng32 (0 : Int32)
  have om5l : (0 : Int32).toInt = 0 := by decide +kernel
  have om6 := rng64 ((((q0 &&& (9223372036854775807 : Int64)) - ((q0 &&& (9223372036854775807 : Int64)) / (9223372036854775807 : Int64)) * (9223372036854775807 : Int64)) + (1 : Int64)) * ((1 : Int32).toInt64))
  have om7 := c_lmul (((q0 &&& (9223372036854775807 : Int64)) - ((q0 &&& (9223372036854775807 : Int64)) / (9223372036854775807 : Int64)) * (9223372036854775807 : Int64)) + (1 : Int64)) ((1 : Int32).toInt64)
  rw [show ((1 : Int32).toInt64).toInt = 1 from by decide +kernel] at om7
  have om8 := rng64 (((q0 &&& (9223372036854775807 : Int64)) - ((q0 &&& (9223372036854775807 : Int64)) / (9223372036854775807 : Int64)) * (9223372036854775807 : Int64)) + (1 : Int64))
  have om9 := c_ladd ((q0 &&& (9223372036854775807 : Int64)) - ((q0 &&& (9223372036854775807 : Int64)) / (9223372036854775807 : Int64)) * (9223372036854775807 : Int64)) (1 : Int64)
  have om10 := rng64 ((q0 &&& (9223372036854775807 : Int64)) - ((q0 &&& (9223372036854775807 : Int64)) / (9223372036854775807 : Int64)) * (9223372036854775807 : Int64))
  have om11 := c_lrem (q0 &&& (9223372036854775807 : Int64)) (9223372036854775807 : Int64) 9223372036854775807 (by decide +kernel)
  have om12 := rng64 (q0 &&& (9223372036854775807 : Int64))
  have om13 := c_maskL q0 (9223372036854775807 : Int64) 63 (by decide +kernel) (by decide +kernel)
  have om14 := rng64 q0
  have om15 := rng64 (9223372036854775807 : Int64)
  have om15l : (9223372036854775807 : Int64).toInt = 9223372036854775807 := by decide +kernel
  have om16 := rng64 (1 : Int64)
  have om16l : (1 : Int64).toInt = 1 := by decide +kernel
  have om17 := rng64 ((1 : Int32).toInt64)
  have om18 := c_i2l (1 : Int32)
  have ow0 := oh0
  rw [← Int32.toInt_inj] at ow0
  rw [← Int64.toInt_inj]
  generalize ((((q0 &&& (9223372036854775807 : Int64)) - ((q0 &&& (9223372036854775807 : Int64)) / (9223372036854775807 : Int64)) * (9223372036854775807 : Int64)) + (1 : Int64)) * ((1 : Int32).toInt64)).toInt = gx0 at *
  generalize (((q0 &&& (9223372036854775807 : Int64)) - ((q0 &&& (9223372036854775807 : Int64)) / (9223372036854775807 : Int64)) * (9223372036854775807 : Int64)) + (1 : Int64)).toInt = gx1 at *
  generalize ((q0 &&& (9223372036854775807 : Int64)) - ((q0 &&& (9223372036854775807 : Int64)) / (9223372036854775807 : Int64)) * (9223372036854775807 : Int64)).toInt = gx2 at *
  generalize (q0 &&& (9223372036854775807 : Int64)).toInt = gx3 at *
  generalize (9223372036854775807 : Int64).toInt = gx4 at *
  generalize ((1 : Int32).toInt64).toInt = gx5 at *
  generalize (p1 &&& (1 : Int32)).toInt = gx6 at *
  generalize (1 : Int32).toInt = gx7 at *
  generalize (0 : Int32).toInt = gx8 at *
  generalize (1 : Int64).toInt = gx9 at *
  generalize p1.toInt = gx10 at *
  generalize q0.toInt = gx11 at *
  omega
set_option maxHeartbeats 4000000 in
theorem om_rm0_4 (p1 : Int32) (q0 : Int64) (oh0 : ¬ ((p1 &&& (1 : Int32)) = (0 : Int32))) : ¬ ((((q0 &&& (9223372036854775807 : Int64)) - ((q0 &&& (9223372036854775807 : Int64)) / (768614336404564650 : Int64)) * (768614336404564650 : Int64)) + (1 : Int64)) < (1 : Int64)) := by
  have om1 := rng32 (p1 &&& (1 : Int32))
  have om2 := c_mask p1 (1 : Int32) 1 (by decide +kernel) (by decide +kernel)
  have om3 := rng32 p1
  have om4 := rng32 (1 : Int32)
  have om4l : (1 : Int32).toInt = 1 := by decide +kernel
  have om5 := rng32 (0 : Int32)
  have om5l : (0 : Int32).toInt = 0 := by decide +kernel
  have om6 := rng64 (((q0 &&& (9223372036854775807 : Int64)) - ((q0 &&& (9223372036854775807 : Int64)) / (768614336404564650 : Int64)) * (768614336404564650 : Int64)) + (1 : Int64))
  have om7 := c_ladd ((q0 &&& (9223372036854775807 : Int64)) - ((q0 &&& (9223372036854775807 : Int64)) / (768614336404564650 : Int64)) * (768614336404564650 : Int64)) (1 : Int64)
  have om8 := rng64 ((q0 &&& (9223372036854775807 : Int64)) - ((q0 &&& (9223372036854775807 : Int64)) / (768614336404564650 : Int64)) * (768614336404564650 : Int64))
  have om9 := c_lrem (q0 &&& (9223372036854775807 : Int64)) (768614336404564650 : Int64) 768614336404564650 (by decide +kernel)
  have om10 := rng64 (q0 &&& (9223372036854775807 : Int64))
  have om11 := c_maskL q0 (9223372036854775807 : Int64) 63 (by decide +kernel) (by decide +kernel)
  have om12 := rng64 q0
  have om13 := rng64 (9223372036854775807 : Int64)
  have om13l : (9223372036854775807 : Int64).toInt = 9223372036854775807 := by decide +kernel
  have om14 := rng64 (768614336404564650 : Int64)
  have om14l : (768614336404564650 : Int64).toInt = 768614336404564650 := by decide +kernel
  have om15 := rng64 (1 : Int64)
  have om15l : (1 : Int64).toInt = 1 := by decide +kernel
  have ow0 := oh0
  rw [← Int32.toInt_inj] at ow0
  rw [Int64.lt_iff_toInt_lt]
  generalize (((q0 &&& (9223372036854775807 : Int64)) - ((q0 &&& (9223372036854775807 : Int64)) / (768614336404564650 : Int64)) * (768614336404564650 : Int64)) + (1 : Int64)).toInt = gx0 at *
  generalize ((q0 &&& (9223372036854775807 : Int64)) - ((q0 &&& (9223372036854775807 : Int64)) / (768614336404564650 : Int64)) * (768614336404564650 : Int64)).toInt = gx1 at *
  generalize (q0 &&& (9223372036854775807 : Int64)).toInt = gx2 at *
  generalize (9223372036854775807 : Int64).toInt = gx3 at *
  generalize (768614336404564650 : Int64).toInt = gx4 at *
  generalize (p1 &&& (1 : Int32)).toInt = gx5 at *
  generalize (1 : Int32).toInt = gx6 at *
  generalize (0 : Int32).toInt = gx7 at *
  generalize (1 : Int64).toInt = gx8 at *
  generalize p1.toInt = gx9 at *
  generalize q0.toInt = gx10 at *
  omega
set_option maxHeartbeats 4000000 in
theorem om_rm0_5 (p1 : Int32) (q0 : Int64) (oh0 : ¬ ((p1 &&& (1 : Int32)) = (0 : Int32))) : Jvm.Free.XT.fits64 ((((q0 &&& (9223372036854775807 : Int64)) - ((q0 &&& (9223372036854775807 : Int64)) / (768614336404564650 : Int64)) * (768614336404564650 : Int64)) + (1 : Int64)).toInt * (12 : Int32).toInt) := by
  have om1 := rng32 (p1 &&& (1 : Int32))
  have om2 := c_mask p1 (1 : Int32) 1 (by decide +kernel) (by decide +kernel)
  have om3 := rng32 p1
  have om4 := rng32 (1 : Int32)
  have om4l : (1 : Int32).toInt = 1 := by decide +kernel
  have om5 := rng32 (0 : Int32)
  have om5l : (0 : Int32).toInt = 0 := by decide +kernel
  have om6 := rng64 (((q0 &&& (9223372036854775807 : Int64)) - ((q0 &&& (9223372036854775807 : Int64)) / (768614336404564650 : Int64)) * (768614336404564650 : Int64)) + (1 : Int64))
  have om7 := c_ladd ((q0 &&& (9223372036854775807 : Int64)) - ((q0 &&& (9223372036854775807 : Int64)) / (768614336404564650 : Int64)) * (768614336404564650 : Int64)) (1 : Int64)
  have om8 := rng64 ((q0 &&& (9223372036854775807 : Int64)) - ((q0 &&& (9223372036854775807 : Int64)) / (768614336404564650 : Int64)) * (768614336404564650 : Int64))
  have om9 := c_lrem (q0 &&& (9223372036854775807 : Int64)) (768614336404564650 : Int64) 768614336404564650 (by decide +kernel)
  have om10 := rng64 (q0 &&& (9223372036854775807 : Int64))
  have om11 := c_maskL q0 (9223372036854775807 : Int64) 63 (by decide +kernel) (by decide +kernel)
  have om12 := rng64 q0
  have om13 := rng64 (9223372036854775807 : Int64)
  have om13l : (9223372036854775807 : Int64).toInt = 9223372036854775807 := by decide +kernel
  have om14 := rng64 (768614336404564650 : Int64)
  have om14l : (768614336404564650 : Int64).toInt = 768614336404564650 := by decide +kernel
  have om15 := rng64 (1 : Int64)
  have om15l : (1 : Int64).toInt = 1 := by decide +kernel
  have om16 := rng32 (12 : Int32)
  have om16l : (12 : Int32).toInt = 12 := by decide +kernel
  have ow0 := oh0
  rw [← Int32.toInt_inj] at ow0
  rw [show ((12 : Int32).toInt) = 12 from rfl]
  unfold Jvm.Free.XT.fits64
  generalize (((q0 &&& (9223372036854775807 : Int64)) - ((q0 &&& (9223372036854775807 : Int64)) / (768614336404564650 : Int64)) * (768614336404564650 : Int64)) + (1 : Int64)).toInt = gx0 at *
  generalize ((q0 &&& (9223372036854775807 : Int64)) - ((q0 &&& (9223372036854775807 : Int64)) / (768614336404564650 : Int64)) * (768614336404564650 : Int64)).toInt = gx1 at *
  generalize (q0 &&& (9223372036854775807 : Int64)).toInt = gx2 at *
  generalize (9223372036854775807 : Int64).toInt = gx3 at *
  generalize (768614336404564650 : Int64).toInt = gx4 at *
  generalize (p1 &&& (1 : Int32)).toInt = gx5 at *
  generalize (12 : Int32).toInt = gx6 at *
  generalize (1 : Int32).toInt = gx7 at *
  generalize (0 : Int32).toInt = gx8 at *
  generalize (1 : Int64).toInt = gx9 at *
  generalize p1.toInt = gx10 at *
  generalize q0.toInt = gx11 at *
  omega
set_option maxHeartbeats 4000000 in
theorem om_rm0_6 (p1 : Int32) (q0 : Int64) (oh0 : ¬ ((p1 &&& (1 : Int32)) = (0 : Int32))) : ¬ ((((q0 &&& (9223372036854775807 : Int64)) - ((q0 &&& (9223372036854775807 : Int64)) / (768614336404564650 : Int64)) * (768614336404564650 : Int64)) + (1 : Int64)) = (-9223372036854775808 : Int64)) := by
  have om1 := rng32 (p1 &&& (1 : Int32))
  have om2 := c_mask p1 (1 : Int32) 1 (by decide +kernel) (by decide +kernel)
  have om3 := rng32 p1
  have om4 := rng32 (1 : Int32)
  have om4l : (1 : Int32).toInt = 1 := by decide +kernel
  have om5 := rng32 (0 : Int32)
  have om5l : (0 : Int32).toInt = 0 := by decide +kernel
  have om6 := rng64 (((q0 &&& (9223372036854775807 : Int64)) - ((q0 &&& (9223372036854775807 : Int64)) / (768614336404564650 : Int64)) * (768614336404564650 : Int64)) + (1 : Int64))
  have om7 := c_ladd ((q0 &&& (9223372036854775807 : Int64)) - ((q0 &&& (9223372036854775807 : Int64)) / (768614336404564650 : Int64)) * (768614336404564650 : Int64)) (1 : Int64)
  have om8 := rng64 ((q0 &&& (9223372036854775807 : Int64)) - ((q0 &&& (9223372036854775807 : Int64)) / (768614336404564650 : Int64)) * (768614336404564650 : Int64))
  have om9 := c_lrem (q0 &&& (9223372036854775807 : Int64)) (768614336404564650 : Int64) 768614336404564650 (by decide +kernel)
  have om10 := rng64 (q0 &&& (9223372036854775807 : Int64))
  have om11 := c_maskL q0 (9223372036854775807 : Int64) 63 (by decide +kernel) (by decide +kernel)
  have om12 := rng64 q0
  have om13 := rng64 (9223372036854775807 : Int64)
  have om13l : (9223372036854775807 : Int64).toInt = 9223372036854775807 := by decide +kernel
  have om14 := rng64 (768614336404564650 : Int64)
  have om14l : (768614336404564650 : Int64).toInt = 768614336404564650 := by decide +kernel
  have om15 := rng64 (1 : Int64)
  have om15l : (1 : Int64).toInt = 1 := by decide +kernel
  have om16 := rng64 (-9223372036854775808 : Int64)
  have om16l : (-9223372036854775808 : Int64).toInt = -9223372036854775808 := by decide +kernel
  have ow0 := oh0
  rw [← Int32.toInt_inj] at ow0
  rw [← Int64.toInt_inj]
  generalize (((q0 &&& (9223372036854775807 : Int64)) - ((q0 &&& (9223372036854775807 : Int64)) / (768614336404564650 : Int64)) * (768614336404564650 : Int64)) + (1 : Int64)).toInt = gx0 at *
  generalize ((q0 &&& (9223372036854775807 : Int64)) - ((q0 &&& (9223372036854775807 : Int64)) / (768614336404564650 : Int64)) * (768614336404564650 : Int64)).toInt = gx1 at *
  generalize (q0 &&& (9223372036854775807 : Int64)).toInt = gx2 at *
  generalize (-9223372036854775808 : Int64).toInt = gx3 at *
  generalize (9223372036854775807 : Int64).toInt = gx4 at *
  generalize (768614336404564650 : Int64).toInt = gx5 at *
  generalize (p1 &&& (1 : Int32)).toInt = gx6 at *
  generalize (1 : Int32).toInt = gx7 at *
  generalize (0 : Int32).toInt = gx8 at *
  generalize (1 : Int64).toInt = gx9 at *
  generalize p1.toInt = gx10 at *
  generalize q0.toInt = gx11 at *
  omega
set_option maxHeartbeats 4000000 in
theorem om_rm0_7 (p1 : Int32) (q0 : Int64) (oh0 : ¬ ((p1 &&& (1 : Int32)) = (0 : Int32))) : ((((q0 &&& (9223372036854775807 : Int64)) - ((q0 &&& (9223372036854775807 : Int64)) / (768614336404564650 : Int64)) * (768614336404564650 : Int64)) + (1 : Int64)) * ((12 : Int32).toInt64)) = ((((q0 &&& (9223372036854775807 : Int64)) - ((q0 &&& (9223372036854775807 : Int64)) / (768614336404564650 : Int64)) * (768614336404564650 : Int64)) + (1 : Int64)) * (12 : Int64)) := by
  have om1 := rng32 (p1 &&& (1 : Int32))
  have om2 := c_mask p1 (1 : Int32) 1 (by decide +kernel) (by decide +kernel)
  have om3 := rng32 p1
  have om4 := rng32 (1 : Int32)
  have om4l : (1 : Int32).toInt = 1 := by decide +kernel
  have om5 := rng32 (0 : Int32)
  have om5l : (0 : Int32).toInt = 0 := by decide +kernel
  have om6 := rng64 ((((q0 &&& (9223372036854775807 : Int64)) - ((q0 &&& (9223372036854775807 : Int64)) / (768614336404564650 : Int64)) * (768614336404564650 : Int64)) + (1 : Int64)) * ((12 : Int32).toInt64))
  have om7 := c_lmul (((q0 &&& (9223372036854775807 : Int64)) - ((q0 &&& (9223372036854775807 : Int64)) / (768614336404564650 : Int64)) * (768614336404564650 : Int64)) + (1 : Int64)) ((12 : Int32).toInt64)
  rw [show ((12 : Int32).toInt64).toInt = 12 from by decide +kernel] at om7
  have om8 := rng64 (((q0 &&& (9223372036854775807 : Int64)) - ((q0 &&& (9223372036854775807 : Int64)) / (768614336404564650 : Int64)) * (768614336404564650 : Int64)) + (1 : Int64))
  have om9 := c_ladd ((q0 &&& (9223372036854775807 : Int64)) - ((q0 &&& (9223372036854775807 : Int64)) / (768614336404564650 : Int64)) * (768614336404564650 : Int64)) (1 : Int64)
  have om10 := rng64 ((q0 &&& (9223372036854775807 : Int64)) - ((q0 &&& (9223372036854775807 : Int64)) / (768614336404564650 : Int64)) * (768614336404564650 : Int64))
  have om11 := c_lrem (q0 &&& (9223372036854775807 : Int64)) (768614336404564650 : Int64) 768614336404564650 (by decide +kernel)
  have om12 := rng64 (q0 &&& (9223372036854775807 : Int64))
  have om13 := c_maskL q0 (9223372036854775807 : Int64) 63 (by decide +kernel) (by decide +kernel)
  have om14 := rng64 q0
  have om15 := rng64 (9223372036854775807 : Int64)
  have om15l : (9223372036854775807 : Int64).toInt = 9223372036854775807 := by decide +kernel
  have om16 := rng64 (768614336404564650 : Int64)
  have om16l : (768614336404564650 : Int64).toInt = 768614336404564650 := by decide +kernel
  have om17 := rng64 (1 : Int64)
  have om17l : (1 : Int64).toInt = 1 := by decide +kernel
  have om18 := rng64 ((12 : Int32).toInt64)
  have om19 := c_i2l (12 : Int32)
  have om20 := rng32 (12 : Int32)
  have om20l : (12 : Int32).toInt = 12 := by decide +kernel
  have om21 := rng64 ((((q0 &&& (9223372036854775807 : Int64)) - ((q0 &&& (9223372036854775807 : Int64)) / (768614336404564650 : Int64)) * (768614336404564650 : Int64)) + (1 : Int64)) * (12 : Int64))
  have om22 := c_lmul (((q0 &&& (9223372036854775807 : Int64)) - ((q0 &&& (9223372036854775807 : Int64)) / (768614336404564650 : Int64)) * (768614336404564650 : Int64)) + (1 : Int64)) (12 : Int64)
  rw [show (12 : Int64).toInt = 12 from by decide +kernel] at om22
  have om23 := rng64 (12 : Int64)
  have om23l : (12 : Int64).toInt = 12 := by decide +kernel
  have ow0 := oh0
  rw [← Int32.toInt_inj] at ow0
  rw [← Int64.toInt_inj]
  generalize ((((q0 &&& (9223372036854775807 : Int64)) - ((q0 &&& (9223372036854775807 : Int64)) / (768614336404564650 : Int64)) * (768614336404564650 : Int64)) + (1 : Int64)) * ((12 : Int32).toInt64)).toInt = gx0 at *
  generalize ((((q0 &&& (9223372036854775807 : Int64)) - ((q0 &&& (9223372036854775807 : Int64)) / (768614336404564650 : Int64)) * (768614336404564650 : Int64)) + (1 : Int64)) * (12 : Int64)).toInt = gx1 at *
  generalize (((q0 &&& (9223372036854775807 : Int64)) - ((q0 &&& (9223372036854775807 : Int64)) / (768614336404564650 : Int64)) * (768614336404564650 : Int64)) + (1 : Int64)).toInt = gx2 at *
  generalize ((q0 &&& (9223372036854775807 : Int64)) - ((q0 &&& (9223372036854775807 : Int64)) / (768614336404564650 : Int64)) * (768614336404564650 : Int64)).toInt = gx3 at *
  generalize (q0 &&& (9223372036854775807 : Int64)).toInt = gx4 at *
  generalize (9223372036854775807 : Int64).toInt = gx5 at *
  generalize (768614336404564650 : Int64).toInt = gx6 at *
  generalize ((12 : Int32).toInt64).toInt = gx7 at *
  generalize (p1 &&& (1 : Int32)).toInt = gx8 at *
  generalize (12 : Int32).toInt = gx9 at *
  generalize (12 : Int64).toInt = gx10 at *
  generalize (1 : Int32).toInt = gx11 at *
  generalize (0 : Int32).toInt = gx12 at *
  generalize (1 : Int64).toInt = gx13 at *
  generalize p1.toInt = gx14 at *
  generalize q0.toInt = gx15 at *
  omega
set_option maxRecDepth 65536 in
set_option maxHeartbeats 40000000 in
theorem rm0 (l : Launch) (Z : State) (av0 : Array Value) (hw : ∀ d ∈ tables_1, d.before av0 Z = true) (ws : List Jvm.Cond) (q0 : Int64) (p1 : Int32) (w_MONTH : Addr) (w_YEAR : Addr) (h0 : Heap) (n0 : Nat) (Z0 : n0 ≤ h0.size) (Ol0 : Old Z n0 h0) (S_MONTH : Sta Z Z.heap "com/example/libaccrue/libaccrue/history/Term$Unit" "MONTH" "Lcom/example/libaccrue/libaccrue/history/Term$Unit;" (.ref w_MONTH)) (X_w_MONTH : Exa Z Z.heap w_MONTH "com/example/libaccrue/libaccrue/history/Term$Unit") (F_months_w_MONTH : Fld Z Z.heap w_MONTH "com/example/libaccrue/libaccrue/history/Term$Unit" "months" "I" (.int (1 : Int32))) (S_YEAR : Sta Z Z.heap "com/example/libaccrue/libaccrue/history/Term$Unit" "YEAR" "Lcom/example/libaccrue/libaccrue/history/Term$Unit;" (.ref w_YEAR)) (X_w_YEAR : Exa Z Z.heap w_YEAR "com/example/libaccrue/libaccrue/history/Term$Unit") (F_months_w_YEAR : Fld Z Z.heap w_YEAR "com/example/libaccrue/libaccrue/history/Term$Unit" "months" "I" (.int (12 : Int32))) :
    MetFree l x (head1 (Jvm.Cond.code x code maxLocals ret :: ws) room_1) (fun a U => a = #[(.long q0), (.int p1)] ∧ Z.Warmed39 U.vm ∧ U.heap = h0) (fun _ _ _ _ _ => True) (fun _ U o U' => ∃ v L, o = .returned v ∧ Q_rm0 Z q0 p1 w_MONTH w_YEAR h0 n0 v U'.heap L ∧ ReturnedEndW U o U' L room_1.cells room_1.slots) := by
  refine MetFree.of_bodySF (plainFor_of_name pn_4) hisR ?_
  intro p e s m args below meth c s₁ Bd hml0 hP hK
  obtain ⟨rfl, hZ, hh⟩ := hP
  have hx := Bd.exec
  have hby := Bd.bytes
  have hml : c.maxLocals = 10 := hml0
  have hown : (s.setVm s.vm).vm.findClass "com/example/libaccrue/libaccrue/history/TermMonthsPinLaw" = some m.cls := findClass_of_methodNamed Bd.named
  have hnm := (name_of_methodNamed Bd.named Bd.method).1
  have X0 : Stand p l e room_1 (s.setVm s.vm) m #[(.long q0), (.int p1)] below meth c s₁ [] 0 0 := Stand.of_body Bd
  have e0 : s₁.heap = h0 := by rw [← hh, Bd.state]; rfl
  have N0 := Fr.nil n0
  have hZ : Z.Warmed39 (s.setVm s.vm).vm := hZ
  have hS0 : s.Since s.vm s.heap.size := (State.WarmedH.refl s).since _
  have hk0 : s.heap.size ≤ h0.size := Nat.le_of_eq (by rw [hh])
  have pre0 : ∀ t, Steps p.tables e below (s₁.setTop (mkF m 0 #[.val (.long q0), .second, .val (.int p1), .unset, .unset, .unset, .unset, .unset, .unset, .unset] [])) t → Steps p.tables e below (s₁.setTop (entryFrame m #[(.long q0), (.int p1)] maxLocals)) t := fun t k => castTop (ef_rm0 m q0 p1) k
  change OwnFin p.tables e below _ (s₁.setTop (entryFrame m #[(.long q0), (.int p1)] maxLocals))
  have kp0 : Keep h0 h0 [] := Keep.refl _ _
  refine OwnFin.st (fun _ q => pre0 _ q) ?_
  show OwnFin _ _ _ _ (s₁.setTop (mkF m 0 #[.val (.long q0), .second, .val (.int p1), .unset, .unset, .unset, .unset, .unset, .unset, .unset] []))
  refine OwnFin.st (fun _ q => XS.lloadN X0.here hx rfl (hb hby at_0) rfl q) ?_
  show OwnFin _ _ _ _ (s₁.setTop (mkF m 1 #[.val (.long q0), .second, .val (.int p1), .unset, .unset, .unset, .unset, .unset, .unset, .unset] [(.long q0)]))
  refine OwnFin.st (X0.ldc2Long hx hown (mvT hZ (hw _ (List.mem_of_getElem? (i := 0) rfl))) (g := (mkF m 1 #[.val (.long q0), .second, .val (.int p1), .unset, .unset, .unset, .unset, .unset, .unset, .unset] [(.long q0)])) rfl (hb hby at_1)) ?_
  show OwnFin _ _ _ _ (s₁.setTop (mkF m 4 #[.val (.long q0), .second, .val (.int p1), .unset, .unset, .unset, .unset, .unset, .unset, .unset] [(.long (9223372036854775807 : Int64)), (.long q0)]))
  refine OwnFin.st (fun _ q => XS.land X0.here hx rfl (hb hby at_4) rfl q) ?_
  show OwnFin _ _ _ _ (s₁.setTop (mkF m 5 #[.val (.long q0), .second, .val (.int p1), .unset, .unset, .unset, .unset, .unset, .unset, .unset] [(.long (q0 &&& (9223372036854775807 : Int64)))]))
  refine OwnFin.st (fun _ q => XS.lstoreN X0.here hx rfl (hb hby at_5) rfl (l' := #[.val (.long q0), .second, .val (.int p1), .val (.long (q0 &&& (9223372036854775807 : Int64))), .second, .unset, .unset, .unset, .unset, .unset]) rfl q) ?_
  show OwnFin _ _ _ _ (s₁.setTop (mkF m 6 #[.val (.long q0), .second, .val (.int p1), .val (.long (q0 &&& (9223372036854775807 : Int64))), .second, .unset, .unset, .unset, .unset, .unset] []))
  refine OwnFin.st (fun _ q => XS.iloadN X0.here hx rfl (hb hby at_6) rfl q) ?_
  show OwnFin _ _ _ _ (s₁.setTop (mkF m 7 #[.val (.long q0), .second, .val (.int p1), .val (.long (q0 &&& (9223372036854775807 : Int64))), .second, .unset, .unset, .unset, .unset, .unset] [(.int p1)]))
  refine OwnFin.st (fun _ q => XS.iconst X0.here hx rfl (hb hby at_7) q) ?_
  show OwnFin _ _ _ _ (s₁.setTop (mkF m 8 #[.val (.long q0), .second, .val (.int p1), .val (.long (q0 &&& (9223372036854775807 : Int64))), .second, .unset, .unset, .unset, .unset, .unset] [(.int (1 : Int32)), (.int p1)]))
  refine OwnFin.st (fun _ q => XS.iand X0.here hx rfl (hb hby at_8) rfl q) ?_
  show OwnFin _ _ _ _ (s₁.setTop (mkF m 9 #[.val (.long q0), .second, .val (.int p1), .val (.long (q0 &&& (9223372036854775807 : Int64))), .second, .unset, .unset, .unset, .unset, .unset] [(.int (p1 &&& (1 : Int32)))]))
  by_cases hc1 : (p1 &&& (1 : Int32)) = (0 : Int32)
  · skip
    refine OwnFin.st (fun _ q => XS.ifNo X0.here hx rfl (hb hby at_9) rfl (Jvm.Free.XT.i0_ne_f hc1) q) ?_
    show OwnFin _ _ _ _ (s₁.setTop (mkF m 12 #[.val (.long q0), .second, .val (.int p1), .val (.long (q0 &&& (9223372036854775807 : Int64))), .second, .unset, .unset, .unset, .unset, .unset] []))
    refine OwnFin.st (fun _ q => XS.lloadN X0.here hx rfl (hb hby at_12) rfl q) ?_
    show OwnFin _ _ _ _ (s₁.setTop (mkF m 13 #[.val (.long q0), .second, .val (.int p1), .val (.long (q0 &&& (9223372036854775807 : Int64))), .second, .unset, .unset, .unset, .unset, .unset] [(.long (q0 &&& (9223372036854775807 : Int64)))]))
    refine OwnFin.st (X0.ldc2Long hx hown (mvT hZ (hw _ (List.mem_of_getElem? (i := 0) rfl))) (g := (mkF m 13 #[.val (.long q0), .second, .val (.int p1), .val (.long (q0 &&& (9223372036854775807 : Int64))), .second, .unset, .unset, .unset, .unset, .unset] [(.long (q0 &&& (9223372036854775807 : Int64)))])) rfl (hb hby at_13)) ?_
    show OwnFin _ _ _ _ (s₁.setTop (mkF m 16 #[.val (.long q0), .second, .val (.int p1), .val (.long (q0 &&& (9223372036854775807 : Int64))), .second, .unset, .unset, .unset, .unset, .unset] [(.long (9223372036854775807 : Int64)), (.long (q0 &&& (9223372036854775807 : Int64)))]))
    refine OwnFin.st (fun _ q => XS.lrem X0.here hx rfl (hb hby at_16) rfl (by decide) q) ?_
    show OwnFin _ _ _ _ (s₁.setTop (mkF m 17 #[.val (.long q0), .second, .val (.int p1), .val (.long (q0 &&& (9223372036854775807 : Int64))), .second, .unset, .unset, .unset, .unset, .unset] [(.long ((q0 &&& (9223372036854775807 : Int64)) - ((q0 &&& (9223372036854775807 : Int64)) / (9223372036854775807 : Int64)) * (9223372036854775807 : Int64)))]))
    refine OwnFin.st (fun _ q => XS.lconst X0.here hx rfl (hb hby at_17) q) ?_
    show OwnFin _ _ _ _ (s₁.setTop (mkF m 18 #[.val (.long q0), .second, .val (.int p1), .val (.long (q0 &&& (9223372036854775807 : Int64))), .second, .unset, .unset, .unset, .unset, .unset] [(.long (1 : Int64)), (.long ((q0 &&& (9223372036854775807 : Int64)) - ((q0 &&& (9223372036854775807 : Int64)) / (9223372036854775807 : Int64)) * (9223372036854775807 : Int64)))]))
    refine OwnFin.st (fun _ q => XS.ladd X0.here hx rfl (hb hby at_18) rfl q) ?_
    show OwnFin _ _ _ _ (s₁.setTop (mkF m 19 #[.val (.long q0), .second, .val (.int p1), .val (.long (q0 &&& (9223372036854775807 : Int64))), .second, .unset, .unset, .unset, .unset, .unset] [(.long (((q0 &&& (9223372036854775807 : Int64)) - ((q0 &&& (9223372036854775807 : Int64)) / (9223372036854775807 : Int64)) * (9223372036854775807 : Int64)) + (1 : Int64)))]))
    refine OwnFin.st (fun _ q => XS.lstore X0.here hx rfl (hb hby at_19) rfl (l' := #[.val (.long q0), .second, .val (.int p1), .val (.long (q0 &&& (9223372036854775807 : Int64))), .second, .val (.long (((q0 &&& (9223372036854775807 : Int64)) - ((q0 &&& (9223372036854775807 : Int64)) / (9223372036854775807 : Int64)) * (9223372036854775807 : Int64)) + (1 : Int64))), .second, .unset, .unset, .unset]) rfl q) ?_
    show OwnFin _ _ _ _ (s₁.setTop (mkF m 21 #[.val (.long q0), .second, .val (.int p1), .val (.long (q0 &&& (9223372036854775807 : Int64))), .second, .val (.long (((q0 &&& (9223372036854775807 : Int64)) - ((q0 &&& (9223372036854775807 : Int64)) / (9223372036854775807 : Int64)) * (9223372036854775807 : Int64)) + (1 : Int64))), .second, .unset, .unset, .unset] []))
    obtain ⟨T2, h2, X2, e2, E2, A2, D2, -, st2⟩ := newO X0 hx hZ hown (hw _ (List.mem_of_getElem? (i := 1) rfl)) (hw _ (List.mem_of_getElem? (i := 2) rfl)) (hw _ (List.mem_of_getElem? (i := 3) rfl)) e0 (g := (mkF m 21 #[.val (.long q0), .second, .val (.int p1), .val (.long (q0 &&& (9223372036854775807 : Int64))), .second, .val (.long (((q0 &&& (9223372036854775807 : Int64)) - ((q0 &&& (9223372036854775807 : Int64)) / (9223372036854775807 : Int64)) * (9223372036854775807 : Int64)) + (1 : Int64))), .second, .unset, .unset, .unset] [])) rfl (hb hby at_21) (by decide) (by decide)
    obtain ⟨b2, qe2⟩ : ∃ z, z = h0.size := ⟨_, rfl⟩
    rw [← qe2] at A2 D2 st2
    refine OwnFin.st st2 ?_
    have bi_b2 : h0.size ≤ b2 := Nat.le_of_eq qe2.symm
    have lo_b2 : h0.size ≤ b2 := Nat.le_trans kp0.1 bi_b2
    have g_b2 : n0 ≤ b2 := Nat.le_trans Z0 lo_b2
    have kp3 : Keep h0 h2 [] := kp0.ext E2
    have ol3 : Old Z n0 h2 := Ol0.ext E2
    have F_count_b2 : Fld Z h2 b2 "com/example/libaccrue/libaccrue/history/Term" "count" "J" (.long (0 : Int64)) := D2 (Or.inr (hw _ (List.mem_of_getElem? (i := 31) rfl))) (ty := .long) (by decide)
    have F_unit_b2 : Fld Z h2 b2 "com/example/libaccrue/libaccrue/history/Term" "unit" "Lcom/example/libaccrue/libaccrue/history/Term$Unit;" .null := D2 (Or.inr (hw _ (List.mem_of_getElem? (i := 33) rfl))) (ty := (.object "com/example/libaccrue/libaccrue/history/Term$Unit")) (by decide)
    show OwnFin _ _ _ _ (T2.setTop (mkF m 24 #[.val (.long q0), .second, .val (.int p1), .val (.long (q0 &&& (9223372036854775807 : Int64))), .second, .val (.long (((q0 &&& (9223372036854775807 : Int64)) - ((q0 &&& (9223372036854775807 : Int64)) / (9223372036854775807 : Int64)) * (9223372036854775807 : Int64)) + (1 : Int64))), .second, .unset, .unset, .unset] [(.ref b2)]))
    refine OwnFin.st (fun _ q => XS.dup X2.here hx rfl (hb hby at_24) rfl rfl q) ?_
    show OwnFin _ _ _ _ (T2.setTop (mkF m 25 #[.val (.long q0), .second, .val (.int p1), .val (.long (q0 &&& (9223372036854775807 : Int64))), .second, .val (.long (((q0 &&& (9223372036854775807 : Int64)) - ((q0 &&& (9223372036854775807 : Int64)) / (9223372036854775807 : Int64)) * (9223372036854775807 : Int64)) + (1 : Int64))), .second, .unset, .unset, .unset] [(.ref b2), (.ref b2)]))
    refine OwnFin.st (fun _ q => XS.lload X2.here hx rfl (hb hby at_25) rfl q) ?_
    show OwnFin _ _ _ _ (T2.setTop (mkF m 27 #[.val (.long q0), .second, .val (.int p1), .val (.long (q0 &&& (9223372036854775807 : Int64))), .second, .val (.long (((q0 &&& (9223372036854775807 : Int64)) - ((q0 &&& (9223372036854775807 : Int64)) / (9223372036854775807 : Int64)) * (9223372036854775807 : Int64)) + (1 : Int64))), .second, .unset, .unset, .unset] [(.long (((q0 &&& (9223372036854775807 : Int64)) - ((q0 &&& (9223372036854775807 : Int64)) / (9223372036854775807 : Int64)) * (9223372036854775807 : Int64)) + (1 : Int64))), (.ref b2), (.ref b2)]))
    obtain ⟨T4, X4, e4, st4⟩ := getS2 X2 hx hZ hown (host := "") (Or.inl (hw _ (List.mem_of_getElem? (i := 4) rfl))) Via.refl e2 (S_MONTH.ext ol3.2) (g := (mkF m 27 #[.val (.long q0), .second, .val (.int p1), .val (.long (q0 &&& (9223372036854775807 : Int64))), .second, .val (.long (((q0 &&& (9223372036854775807 : Int64)) - ((q0 &&& (9223372036854775807 : Int64)) / (9223372036854775807 : Int64)) * (9223372036854775807 : Int64)) + (1 : Int64))), .second, .unset, .unset, .unset] [(.long (((q0 &&& (9223372036854775807 : Int64)) - ((q0 &&& (9223372036854775807 : Int64)) / (9223372036854775807 : Int64)) * (9223372036854775807 : Int64)) + (1 : Int64))), (.ref b2), (.ref b2)])) rfl (hb hby at_27)
    refine OwnFin.st st4 ?_
    show OwnFin _ _ _ _ (T4.setTop (mkF m 30 #[.val (.long q0), .second, .val (.int p1), .val (.long (q0 &&& (9223372036854775807 : Int64))), .second, .val (.long (((q0 &&& (9223372036854775807 : Int64)) - ((q0 &&& (9223372036854775807 : Int64)) / (9223372036854775807 : Int64)) * (9223372036854775807 : Int64)) + (1 : Int64))), .second, .unset, .unset, .unset] [(.ref w_MONTH), (.long (((q0 &&& (9223372036854775807 : Int64)) - ((q0 &&& (9223372036854775807 : Int64)) / (9223372036854775807 : Int64)) * (9223372036854775807 : Int64)) + (1 : Int64))), (.ref b2), (.ref b2)]))
    have hd5 : ¬ ((((q0 &&& (9223372036854775807 : Int64)) - ((q0 &&& (9223372036854775807 : Int64)) / (9223372036854775807 : Int64)) * (9223372036854775807 : Int64)) + (1 : Int64)) < (1 : Int64)) := by
      exact (om_rm0_0 p1 q0 hc1)
    obtain ⟨_, _, ⟨T6, L6, k6, n6⟩, -, X6, hS6, hg6, ⟨Lc6, hQ6, l6, y6, z6⟩, st6⟩ := X4.specialBackS hx (y := (⟨"com/example/libaccrue/libaccrue/history/Term", "<init>", "(JLcom/example/libaccrue/libaccrue/history/Term$Unit;)V"⟩ : MethodName)) rfl hown (mvT hZ (hw _ (List.mem_of_getElem? (i := 7) rfl))) (mvT hZ (hw _ (List.mem_of_getElem? (i := 8) rfl))) (mvT hZ (hw _ (List.mem_of_getElem? (i := 9) rfl))) (by decide) (backOfS (W := 1) (rm1 l Z av0 hw [] b2 (((q0 &&& (9223372036854775807 : Int64)) - ((q0 &&& (9223372036854775807 : Int64)) / (9223372036854775807 : Int64)) * (9223372036854775807 : Int64)) + (1 : Int64)) w_MONTH (.long (0 : Int64)) .null h2 n0 (Nat.le_trans Z0 kp3.1) hd5 A2 F_count_b2 g_b2 F_unit_b2) hZ (hw _ (List.mem_of_getElem? (i := 9) rfl)) (hw _ (List.mem_of_getElem? (i := 3) rfl)) (by decide) (by decide)) (g := (mkF m 30 #[.val (.long q0), .second, .val (.int p1), .val (.long (q0 &&& (9223372036854775807 : Int64))), .second, .val (.long (((q0 &&& (9223372036854775807 : Int64)) - ((q0 &&& (9223372036854775807 : Int64)) / (9223372036854775807 : Int64)) * (9223372036854775807 : Int64)) + (1 : Int64))), .second, .unset, .unset, .unset] [(.ref w_MONTH), (.long (((q0 &&& (9223372036854775807 : Int64)) - ((q0 &&& (9223372036854775807 : Int64)) / (9223372036854775807 : Int64)) * (9223372036854775807 : Int64)) + (1 : Int64))), (.ref b2), (.ref b2)])) rfl (by rw [hml]; rfl) (Steps.refl _) (a := b2) (argsL := [(.long (((q0 &&& (9223372036854775807 : Int64)) - ((q0 &&& (9223372036854775807 : Int64)) / (9223372036854775807 : Int64)) * (9223372036854775807 : Int64)) + (1 : Int64))), (.ref w_MONTH)]) (rest := [(.ref b2)]) (lenOf pd_6 rfl) rfl (by show 2 * 0 + _ ≤ _; exact Nat.le_of_eq rfl) (hb hby at_30) (fun _ _ => ⟨rfl, e4, (by decide : 1 + 2 ≤ _), (by decide : 2 + 20 ≤ _)⟩)
    dsimp only [Pt.U, Pt.locs, Pt.cells, Pt.slots] at X6 l6 y6 z6 st6 hQ6 hS6 hg6
    subst l6 y6 z6
    obtain ⟨rfl, N6q, K6, r6_0, r6_1⟩ := hQ6
    have N6 := Fr.app N0 N6q
    refine OwnFin.tr st6 ?_
    rw [e4] at hg6
    obtain ⟨h6, e6⟩ : ∃ z, T6.heap = z := ⟨_, rfl⟩
    rw [e6] at K6 r6_0 r6_1 hg6 hS6
    have kp7 : Keep h0 h6 [] := kp3.trans K6 (allS (Or.inr lo_b2) all0)
    have ol7 : Old Z n0 h6 := ol3.keep K6 (allS g_b2 all0)
    obtain ⟨Xr6, hSr6, hZr6, hor6⟩ := rebS hS0 (Nat.le_trans hk0 E2.1) X6 hS6 hg6 hZ hown
    show OwnFin _ _ _ _ (T6.setTop (mkF m 33 #[.val (.long q0), .second, .val (.int p1), .val (.long (q0 &&& (9223372036854775807 : Int64))), .second, .val (.long (((q0 &&& (9223372036854775807 : Int64)) - ((q0 &&& (9223372036854775807 : Int64)) / (9223372036854775807 : Int64)) * (9223372036854775807 : Int64)) + (1 : Int64))), .second, .unset, .unset, .unset] [(.ref b2)]))
    refine OwnFin.st (fun _ q => XS.astore Xr6.here hx rfl (hb hby at_33) rfl rfl (l' := #[.val (.long q0), .second, .val (.int p1), .val (.long (q0 &&& (9223372036854775807 : Int64))), .second, .val (.long (((q0 &&& (9223372036854775807 : Int64)) - ((q0 &&& (9223372036854775807 : Int64)) / (9223372036854775807 : Int64)) * (9223372036854775807 : Int64)) + (1 : Int64))), .second, .val (.ref b2), .unset, .unset]) rfl q) ?_
    show OwnFin _ _ _ _ (T6.setTop (mkF m 35 #[.val (.long q0), .second, .val (.int p1), .val (.long (q0 &&& (9223372036854775807 : Int64))), .second, .val (.long (((q0 &&& (9223372036854775807 : Int64)) - ((q0 &&& (9223372036854775807 : Int64)) / (9223372036854775807 : Int64)) * (9223372036854775807 : Int64)) + (1 : Int64))), .second, .val (.ref b2), .unset, .unset] []))
    refine OwnFin.st (fun _ q => XS.aload Xr6.here hx rfl (hb hby at_35) rfl rfl q) ?_
    show OwnFin _ _ _ _ (T6.setTop (mkF m 37 #[.val (.long q0), .second, .val (.int p1), .val (.long (q0 &&& (9223372036854775807 : Int64))), .second, .val (.long (((q0 &&& (9223372036854775807 : Int64)) - ((q0 &&& (9223372036854775807 : Int64)) / (9223372036854775807 : Int64)) * (9223372036854775807 : Int64)) + (1 : Int64))), .second, .val (.ref b2), .unset, .unset] [(.ref b2)]))
    obtain ⟨cq8, kq8, q8a, q8b, q8c⟩ := isOf hZr6 e6 (A2.keep K6)
    obtain ⟨_, _, ⟨T8, L8, k8, n8⟩, -, X8, ⟨Lc8, hQ8, l8, y8, z8⟩, st8⟩ := Xr6.virtualBack hx (y := (⟨"com/example/libaccrue/libaccrue/history/Term", "months", "()J"⟩ : MethodName)) (z := (⟨"com/example/libaccrue/libaccrue/history/Term", "months", "()J"⟩ : MethodName)) hor6 (mvT hZr6 (hw _ (List.mem_of_getElem? (i := 34) rfl))) (mvT hZr6 (hw _ (List.mem_of_getElem? (i := 35) rfl))) (notFace_of_selects (args := #[]) (mvT hZr6 (hw _ (List.mem_of_getElem? (i := 37) rfl)))) (mvT hZr6 (hw _ (List.mem_of_getElem? (i := 37) rfl))) (mvT hZr6 (hw _ (List.mem_of_getElem? (i := 36) rfl))) (by decide) (backOf (W := 0) (rm5 l Z av0 hw [] b2 (((q0 &&& (9223372036854775807 : Int64)) - ((q0 &&& (9223372036854775807 : Int64)) / (9223372036854775807 : Int64)) * (9223372036854775807 : Int64)) + (1 : Int64)) w_MONTH (1 : Int32) h6 n0 (Nat.le_trans Z0 kp7.1) (om_rm0_1 p1 q0 hc1) (by decide) (om_rm0_2 p1 q0 hc1) r6_0 r6_1 (X_w_MONTH.ext ol7.2) (F_months_w_MONTH.ext ol7.2)) hZr6 (hw _ (List.mem_of_getElem? (i := 38) rfl)) (hw _ (List.mem_of_getElem? (i := 3) rfl)) (by decide) (by decide)) q8a q8c (g := (mkF m 37 #[.val (.long q0), .second, .val (.int p1), .val (.long (q0 &&& (9223372036854775807 : Int64))), .second, .val (.long (((q0 &&& (9223372036854775807 : Int64)) - ((q0 &&& (9223372036854775807 : Int64)) / (9223372036854775807 : Int64)) * (9223372036854775807 : Int64)) + (1 : Int64))), .second, .val (.ref b2), .unset, .unset] [(.ref b2)])) rfl (by rw [hml]; rfl) (Steps.refl _) (argsL := []) (rest := []) (lenOf pd_7 rfl) rfl (by show 2 * 0 + _ ≤ _; exact Nat.le_of_eq rfl) (hb hby at_37) (fun _ _ => ⟨rfl, e6, (by decide : 3 + 0 ≤ _), (by decide : 22 + 0 ≤ _)⟩)
    dsimp only [Pt.U, Pt.locs, Pt.cells, Pt.slots] at X8 l8 y8 z8 st8 hQ8
    subst l8 y8 z8
    obtain ⟨rfl, N8q, he8⟩ := hQ8
    have N8 := Fr.app N6 N8q
    refine OwnFin.tr st8 ?_
    show OwnFin _ _ _ _ (T8.setTop (mkF m 40 #[.val (.long q0), .second, .val (.int p1), .val (.long (q0 &&& (9223372036854775807 : Int64))), .second, .val (.long (((q0 &&& (9223372036854775807 : Int64)) - ((q0 &&& (9223372036854775807 : Int64)) / (9223372036854775807 : Int64)) * (9223372036854775807 : Int64)) + (1 : Int64))), .second, .val (.ref b2), .unset, .unset] [(.long ((((q0 &&& (9223372036854775807 : Int64)) - ((q0 &&& (9223372036854775807 : Int64)) / (9223372036854775807 : Int64)) * (9223372036854775807 : Int64)) + (1 : Int64)) * ((1 : Int32).toInt64)))]))
    refine OwnFin.st (fun _ q => XS.lload X8.here hx rfl (hb hby at_40) rfl q) ?_
    show OwnFin _ _ _ _ (T8.setTop (mkF m 42 #[.val (.long q0), .second, .val (.int p1), .val (.long (q0 &&& (9223372036854775807 : Int64))), .second, .val (.long (((q0 &&& (9223372036854775807 : Int64)) - ((q0 &&& (9223372036854775807 : Int64)) / (9223372036854775807 : Int64)) * (9223372036854775807 : Int64)) + (1 : Int64))), .second, .val (.ref b2), .unset, .unset] [(.long (((q0 &&& (9223372036854775807 : Int64)) - ((q0 &&& (9223372036854775807 : Int64)) / (9223372036854775807 : Int64)) * (9223372036854775807 : Int64)) + (1 : Int64))), (.long ((((q0 &&& (9223372036854775807 : Int64)) - ((q0 &&& (9223372036854775807 : Int64)) / (9223372036854775807 : Int64)) * (9223372036854775807 : Int64)) + (1 : Int64)) * ((1 : Int32).toInt64)))]))
    refine OwnFin.st (fun _ q => XS.lcmp X8.here hx rfl (hb hby at_42) rfl q) ?_
    show OwnFin _ _ _ _ (T8.setTop (mkF m 43 #[.val (.long q0), .second, .val (.int p1), .val (.long (q0 &&& (9223372036854775807 : Int64))), .second, .val (.long (((q0 &&& (9223372036854775807 : Int64)) - ((q0 &&& (9223372036854775807 : Int64)) / (9223372036854775807 : Int64)) * (9223372036854775807 : Int64)) + (1 : Int64))), .second, .val (.ref b2), .unset, .unset] [(.int (lcmpW ((((q0 &&& (9223372036854775807 : Int64)) - ((q0 &&& (9223372036854775807 : Int64)) / (9223372036854775807 : Int64)) * (9223372036854775807 : Int64)) + (1 : Int64)) * ((1 : Int32).toInt64)) (((q0 &&& (9223372036854775807 : Int64)) - ((q0 &&& (9223372036854775807 : Int64)) / (9223372036854775807 : Int64)) * (9223372036854775807 : Int64)) + (1 : Int64))))]))
    have hd9 : ((((q0 &&& (9223372036854775807 : Int64)) - ((q0 &&& (9223372036854775807 : Int64)) / (9223372036854775807 : Int64)) * (9223372036854775807 : Int64)) + (1 : Int64)) * ((1 : Int32).toInt64)) = (((q0 &&& (9223372036854775807 : Int64)) - ((q0 &&& (9223372036854775807 : Int64)) / (9223372036854775807 : Int64)) * (9223372036854775807 : Int64)) + (1 : Int64)) := by
      exact (om_rm0_3 p1 q0 hc1)
    refine OwnFin.st (fun _ q => XS.ifNo X8.here hx rfl (hb hby at_43) rfl (Jvm.Free.XT.ll_ne_f hd9) q) ?_
    show OwnFin _ _ _ _ (T8.setTop (mkF m 46 #[.val (.long q0), .second, .val (.int p1), .val (.long (q0 &&& (9223372036854775807 : Int64))), .second, .val (.long (((q0 &&& (9223372036854775807 : Int64)) - ((q0 &&& (9223372036854775807 : Int64)) / (9223372036854775807 : Int64)) * (9223372036854775807 : Int64)) + (1 : Int64))), .second, .val (.ref b2), .unset, .unset] []))
    refine OwnFin.st (fun _ q => XS.iconst X8.here hx rfl (hb hby at_46) q) ?_
    show OwnFin _ _ _ _ (T8.setTop (mkF m 47 #[.val (.long q0), .second, .val (.int p1), .val (.long (q0 &&& (9223372036854775807 : Int64))), .second, .val (.long (((q0 &&& (9223372036854775807 : Int64)) - ((q0 &&& (9223372036854775807 : Int64)) / (9223372036854775807 : Int64)) * (9223372036854775807 : Int64)) + (1 : Int64))), .second, .val (.ref b2), .unset, .unset] [(.int (1 : Int32))]))
    refine OwnFin.st (fun _ q => XS.goto X8.here hx rfl (pc0 := 47) (pc' := 51) rfl (hb hby at_47) (by decide) (by decide) q) ?_
    show OwnFin _ _ _ _ (T8.setTop (mkF m 51 #[.val (.long q0), .second, .val (.int p1), .val (.long (q0 &&& (9223372036854775807 : Int64))), .second, .val (.long (((q0 &&& (9223372036854775807 : Int64)) - ((q0 &&& (9223372036854775807 : Int64)) / (9223372036854775807 : Int64)) * (9223372036854775807 : Int64)) + (1 : Int64))), .second, .val (.ref b2), .unset, .unset] [(.int (1 : Int32))]))
    obtain ⟨fs, hr, hrun, hended, hEW⟩ := X8.leaveW (s := s) hSr6 (by rw [he8]; exact (Nat.le_trans (Nat.le_refl _) (Nat.le_refl _))) (v := some (.int (1 : Int32))) (fun h => by rw [Bd.returns] at h; cases h)
    refine ⟨_, _, retN X8 hx (t := .boolean) Bd.returns (by simp) (hb hby at_51) hr, hrun, hended, _, _, rfl, ?_, hEW.1, hEW.2.1, hEW.2.2.1, hEW.2.2.2.mono (by decide) (by decide)⟩
    show Q_rm0 Z q0 p1 w_MONTH w_YEAR h0 n0 _ T8.heap _
    rw [he8]
    exact ⟨rfl, N8⟩
  · skip
    refine OwnFin.st (fun _ q => XS.ifYes X0.here hx rfl (pc0 := 9) (pc' := 52) rfl (hb hby at_9) rfl (Jvm.Free.XT.i0_ne_t hc1) (by decide) (by decide) q) ?_
    show OwnFin _ _ _ _ (s₁.setTop (mkF m 52 #[.val (.long q0), .second, .val (.int p1), .val (.long (q0 &&& (9223372036854775807 : Int64))), .second, .unset, .unset, .unset, .unset, .unset] []))
    refine OwnFin.st (X0.ldc2Long hx hown (mvT hZ (hw _ (List.mem_of_getElem? (i := 57) rfl))) (g := (mkF m 52 #[.val (.long q0), .second, .val (.int p1), .val (.long (q0 &&& (9223372036854775807 : Int64))), .second, .unset, .unset, .unset, .unset, .unset] [])) rfl (hb hby at_52)) ?_
    show OwnFin _ _ _ _ (s₁.setTop (mkF m 55 #[.val (.long q0), .second, .val (.int p1), .val (.long (q0 &&& (9223372036854775807 : Int64))), .second, .unset, .unset, .unset, .unset, .unset] [(.long (768614336404564650 : Int64))]))
    refine OwnFin.st (fun _ q => XS.lstore X0.here hx rfl (hb hby at_55) rfl (l' := #[.val (.long q0), .second, .val (.int p1), .val (.long (q0 &&& (9223372036854775807 : Int64))), .second, .val (.long (768614336404564650 : Int64)), .second, .unset, .unset, .unset]) rfl q) ?_
    show OwnFin _ _ _ _ (s₁.setTop (mkF m 57 #[.val (.long q0), .second, .val (.int p1), .val (.long (q0 &&& (9223372036854775807 : Int64))), .second, .val (.long (768614336404564650 : Int64)), .second, .unset, .unset, .unset] []))
    refine OwnFin.st (fun _ q => XS.lloadN X0.here hx rfl (hb hby at_57) rfl q) ?_
    show OwnFin _ _ _ _ (s₁.setTop (mkF m 58 #[.val (.long q0), .second, .val (.int p1), .val (.long (q0 &&& (9223372036854775807 : Int64))), .second, .val (.long (768614336404564650 : Int64)), .second, .unset, .unset, .unset] [(.long (q0 &&& (9223372036854775807 : Int64)))]))
    refine OwnFin.st (fun _ q => XS.lload X0.here hx rfl (hb hby at_58) rfl q) ?_
    show OwnFin _ _ _ _ (s₁.setTop (mkF m 60 #[.val (.long q0), .second, .val (.int p1), .val (.long (q0 &&& (9223372036854775807 : Int64))), .second, .val (.long (768614336404564650 : Int64)), .second, .unset, .unset, .unset] [(.long (768614336404564650 : Int64)), (.long (q0 &&& (9223372036854775807 : Int64)))]))
    refine OwnFin.st (fun _ q => XS.lrem X0.here hx rfl (hb hby at_60) rfl (by decide) q) ?_
    show OwnFin _ _ _ _ (s₁.setTop (mkF m 61 #[.val (.long q0), .second, .val (.int p1), .val (.long (q0 &&& (9223372036854775807 : Int64))), .second, .val (.long (768614336404564650 : Int64)), .second, .unset, .unset, .unset] [(.long ((q0 &&& (9223372036854775807 : Int64)) - ((q0 &&& (9223372036854775807 : Int64)) / (768614336404564650 : Int64)) * (768614336404564650 : Int64)))]))
    refine OwnFin.st (fun _ q => XS.lconst X0.here hx rfl (hb hby at_61) q) ?_
    show OwnFin _ _ _ _ (s₁.setTop (mkF m 62 #[.val (.long q0), .second, .val (.int p1), .val (.long (q0 &&& (9223372036854775807 : Int64))), .second, .val (.long (768614336404564650 : Int64)), .second, .unset, .unset, .unset] [(.long (1 : Int64)), (.long ((q0 &&& (9223372036854775807 : Int64)) - ((q0 &&& (9223372036854775807 : Int64)) / (768614336404564650 : Int64)) * (768614336404564650 : Int64)))]))
    refine OwnFin.st (fun _ q => XS.ladd X0.here hx rfl (hb hby at_62) rfl q) ?_
    show OwnFin _ _ _ _ (s₁.setTop (mkF m 63 #[.val (.long q0), .second, .val (.int p1), .val (.long (q0 &&& (9223372036854775807 : Int64))), .second, .val (.long (768614336404564650 : Int64)), .second, .unset, .unset, .unset] [(.long (((q0 &&& (9223372036854775807 : Int64)) - ((q0 &&& (9223372036854775807 : Int64)) / (768614336404564650 : Int64)) * (768614336404564650 : Int64)) + (1 : Int64)))]))
    refine OwnFin.st (fun _ q => XS.lstore X0.here hx rfl (hb hby at_63) rfl (l' := #[.val (.long q0), .second, .val (.int p1), .val (.long (q0 &&& (9223372036854775807 : Int64))), .second, .val (.long (768614336404564650 : Int64)), .second, .val (.long (((q0 &&& (9223372036854775807 : Int64)) - ((q0 &&& (9223372036854775807 : Int64)) / (768614336404564650 : Int64)) * (768614336404564650 : Int64)) + (1 : Int64))), .second, .unset]) rfl q) ?_
    show OwnFin _ _ _ _ (s₁.setTop (mkF m 65 #[.val (.long q0), .second, .val (.int p1), .val (.long (q0 &&& (9223372036854775807 : Int64))), .second, .val (.long (768614336404564650 : Int64)), .second, .val (.long (((q0 &&& (9223372036854775807 : Int64)) - ((q0 &&& (9223372036854775807 : Int64)) / (768614336404564650 : Int64)) * (768614336404564650 : Int64)) + (1 : Int64))), .second, .unset] []))
    obtain ⟨T10, h10, X10, e10, E10, A10, D10, -, st10⟩ := newO X0 hx hZ hown (hw _ (List.mem_of_getElem? (i := 1) rfl)) (hw _ (List.mem_of_getElem? (i := 2) rfl)) (hw _ (List.mem_of_getElem? (i := 3) rfl)) e0 (g := (mkF m 65 #[.val (.long q0), .second, .val (.int p1), .val (.long (q0 &&& (9223372036854775807 : Int64))), .second, .val (.long (768614336404564650 : Int64)), .second, .val (.long (((q0 &&& (9223372036854775807 : Int64)) - ((q0 &&& (9223372036854775807 : Int64)) / (768614336404564650 : Int64)) * (768614336404564650 : Int64)) + (1 : Int64))), .second, .unset] [])) rfl (hb hby at_65) (by decide) (by decide)
    obtain ⟨b10, qe10⟩ : ∃ z, z = h0.size := ⟨_, rfl⟩
    rw [← qe10] at A10 D10 st10
    refine OwnFin.st st10 ?_
    have bi_b10 : h0.size ≤ b10 := Nat.le_of_eq qe10.symm
    have lo_b10 : h0.size ≤ b10 := Nat.le_trans kp0.1 bi_b10
    have g_b10 : n0 ≤ b10 := Nat.le_trans Z0 lo_b10
    have kp11 : Keep h0 h10 [] := kp0.ext E10
    have ol11 : Old Z n0 h10 := Ol0.ext E10
    have F_count_b10 : Fld Z h10 b10 "com/example/libaccrue/libaccrue/history/Term" "count" "J" (.long (0 : Int64)) := D10 (Or.inr (hw _ (List.mem_of_getElem? (i := 31) rfl))) (ty := .long) (by decide)
    have F_unit_b10 : Fld Z h10 b10 "com/example/libaccrue/libaccrue/history/Term" "unit" "Lcom/example/libaccrue/libaccrue/history/Term$Unit;" .null := D10 (Or.inr (hw _ (List.mem_of_getElem? (i := 33) rfl))) (ty := (.object "com/example/libaccrue/libaccrue/history/Term$Unit")) (by decide)
    show OwnFin _ _ _ _ (T10.setTop (mkF m 68 #[.val (.long q0), .second, .val (.int p1), .val (.long (q0 &&& (9223372036854775807 : Int64))), .second, .val (.long (768614336404564650 : Int64)), .second, .val (.long (((q0 &&& (9223372036854775807 : Int64)) - ((q0 &&& (9223372036854775807 : Int64)) / (768614336404564650 : Int64)) * (768614336404564650 : Int64)) + (1 : Int64))), .second, .unset] [(.ref b10)]))
    refine OwnFin.st (fun _ q => XS.dup X10.here hx rfl (hb hby at_68) rfl rfl q) ?_
    show OwnFin _ _ _ _ (T10.setTop (mkF m 69 #[.val (.long q0), .second, .val (.int p1), .val (.long (q0 &&& (9223372036854775807 : Int64))), .second, .val (.long (768614336404564650 : Int64)), .second, .val (.long (((q0 &&& (9223372036854775807 : Int64)) - ((q0 &&& (9223372036854775807 : Int64)) / (768614336404564650 : Int64)) * (768614336404564650 : Int64)) + (1 : Int64))), .second, .unset] [(.ref b10), (.ref b10)]))
    refine OwnFin.st (fun _ q => XS.lload X10.here hx rfl (hb hby at_69) rfl q) ?_
    show OwnFin _ _ _ _ (T10.setTop (mkF m 71 #[.val (.long q0), .second, .val (.int p1), .val (.long (q0 &&& (9223372036854775807 : Int64))), .second, .val (.long (768614336404564650 : Int64)), .second, .val (.long (((q0 &&& (9223372036854775807 : Int64)) - ((q0 &&& (9223372036854775807 : Int64)) / (768614336404564650 : Int64)) * (768614336404564650 : Int64)) + (1 : Int64))), .second, .unset] [(.long (((q0 &&& (9223372036854775807 : Int64)) - ((q0 &&& (9223372036854775807 : Int64)) / (768614336404564650 : Int64)) * (768614336404564650 : Int64)) + (1 : Int64))), (.ref b10), (.ref b10)]))
    obtain ⟨T12, X12, e12, st12⟩ := getS2 X10 hx hZ hown (host := "") (Or.inl (hw _ (List.mem_of_getElem? (i := 58) rfl))) Via.refl e10 (S_YEAR.ext ol11.2) (g := (mkF m 71 #[.val (.long q0), .second, .val (.int p1), .val (.long (q0 &&& (9223372036854775807 : Int64))), .second, .val (.long (768614336404564650 : Int64)), .second, .val (.long (((q0 &&& (9223372036854775807 : Int64)) - ((q0 &&& (9223372036854775807 : Int64)) / (768614336404564650 : Int64)) * (768614336404564650 : Int64)) + (1 : Int64))), .second, .unset] [(.long (((q0 &&& (9223372036854775807 : Int64)) - ((q0 &&& (9223372036854775807 : Int64)) / (768614336404564650 : Int64)) * (768614336404564650 : Int64)) + (1 : Int64))), (.ref b10), (.ref b10)])) rfl (hb hby at_71)
    refine OwnFin.st st12 ?_
    show OwnFin _ _ _ _ (T12.setTop (mkF m 74 #[.val (.long q0), .second, .val (.int p1), .val (.long (q0 &&& (9223372036854775807 : Int64))), .second, .val (.long (768614336404564650 : Int64)), .second, .val (.long (((q0 &&& (9223372036854775807 : Int64)) - ((q0 &&& (9223372036854775807 : Int64)) / (768614336404564650 : Int64)) * (768614336404564650 : Int64)) + (1 : Int64))), .second, .unset] [(.ref w_YEAR), (.long (((q0 &&& (9223372036854775807 : Int64)) - ((q0 &&& (9223372036854775807 : Int64)) / (768614336404564650 : Int64)) * (768614336404564650 : Int64)) + (1 : Int64))), (.ref b10), (.ref b10)]))
    have hd13 : ¬ ((((q0 &&& (9223372036854775807 : Int64)) - ((q0 &&& (9223372036854775807 : Int64)) / (768614336404564650 : Int64)) * (768614336404564650 : Int64)) + (1 : Int64)) < (1 : Int64)) := by
      exact (om_rm0_4 p1 q0 hc1)
    obtain ⟨_, _, ⟨T14, L14, k14, n14⟩, -, X14, hS14, hg14, ⟨Lc14, hQ14, l14, y14, z14⟩, st14⟩ := X12.specialBackS hx (y := (⟨"com/example/libaccrue/libaccrue/history/Term", "<init>", "(JLcom/example/libaccrue/libaccrue/history/Term$Unit;)V"⟩ : MethodName)) rfl hown (mvT hZ (hw _ (List.mem_of_getElem? (i := 7) rfl))) (mvT hZ (hw _ (List.mem_of_getElem? (i := 8) rfl))) (mvT hZ (hw _ (List.mem_of_getElem? (i := 9) rfl))) (by decide) (backOfS (W := 1) (rm1 l Z av0 hw [] b10 (((q0 &&& (9223372036854775807 : Int64)) - ((q0 &&& (9223372036854775807 : Int64)) / (768614336404564650 : Int64)) * (768614336404564650 : Int64)) + (1 : Int64)) w_YEAR (.long (0 : Int64)) .null h10 n0 (Nat.le_trans Z0 kp11.1) hd13 A10 F_count_b10 g_b10 F_unit_b10) hZ (hw _ (List.mem_of_getElem? (i := 9) rfl)) (hw _ (List.mem_of_getElem? (i := 3) rfl)) (by decide) (by decide)) (g := (mkF m 74 #[.val (.long q0), .second, .val (.int p1), .val (.long (q0 &&& (9223372036854775807 : Int64))), .second, .val (.long (768614336404564650 : Int64)), .second, .val (.long (((q0 &&& (9223372036854775807 : Int64)) - ((q0 &&& (9223372036854775807 : Int64)) / (768614336404564650 : Int64)) * (768614336404564650 : Int64)) + (1 : Int64))), .second, .unset] [(.ref w_YEAR), (.long (((q0 &&& (9223372036854775807 : Int64)) - ((q0 &&& (9223372036854775807 : Int64)) / (768614336404564650 : Int64)) * (768614336404564650 : Int64)) + (1 : Int64))), (.ref b10), (.ref b10)])) rfl (by rw [hml]; rfl) (Steps.refl _) (a := b10) (argsL := [(.long (((q0 &&& (9223372036854775807 : Int64)) - ((q0 &&& (9223372036854775807 : Int64)) / (768614336404564650 : Int64)) * (768614336404564650 : Int64)) + (1 : Int64))), (.ref w_YEAR)]) (rest := [(.ref b10)]) (lenOf pd_6 rfl) rfl (by show 2 * 0 + _ ≤ _; exact Nat.le_of_eq rfl) (hb hby at_74) (fun _ _ => ⟨rfl, e12, (by decide : 1 + 2 ≤ _), (by decide : 2 + 20 ≤ _)⟩)
    dsimp only [Pt.U, Pt.locs, Pt.cells, Pt.slots] at X14 l14 y14 z14 st14 hQ14 hS14 hg14
    subst l14 y14 z14
    obtain ⟨rfl, N14q, K14, r14_0, r14_1⟩ := hQ14
    have N14 := Fr.app N0 N14q
    refine OwnFin.tr st14 ?_
    rw [e12] at hg14
    obtain ⟨h14, e14⟩ : ∃ z, T14.heap = z := ⟨_, rfl⟩
    rw [e14] at K14 r14_0 r14_1 hg14 hS14
    have kp15 : Keep h0 h14 [] := kp11.trans K14 (allS (Or.inr lo_b10) all0)
    have ol15 : Old Z n0 h14 := ol11.keep K14 (allS g_b10 all0)
    obtain ⟨Xr14, hSr14, hZr14, hor14⟩ := rebS hS0 (Nat.le_trans hk0 E10.1) X14 hS14 hg14 hZ hown
    show OwnFin _ _ _ _ (T14.setTop (mkF m 77 #[.val (.long q0), .second, .val (.int p1), .val (.long (q0 &&& (9223372036854775807 : Int64))), .second, .val (.long (768614336404564650 : Int64)), .second, .val (.long (((q0 &&& (9223372036854775807 : Int64)) - ((q0 &&& (9223372036854775807 : Int64)) / (768614336404564650 : Int64)) * (768614336404564650 : Int64)) + (1 : Int64))), .second, .unset] [(.ref b10)]))
    refine OwnFin.st (fun _ q => XS.astore Xr14.here hx rfl (hb hby at_77) rfl rfl (l' := #[.val (.long q0), .second, .val (.int p1), .val (.long (q0 &&& (9223372036854775807 : Int64))), .second, .val (.long (768614336404564650 : Int64)), .second, .val (.long (((q0 &&& (9223372036854775807 : Int64)) - ((q0 &&& (9223372036854775807 : Int64)) / (768614336404564650 : Int64)) * (768614336404564650 : Int64)) + (1 : Int64))), .second, .val (.ref b10)]) rfl q) ?_
    show OwnFin _ _ _ _ (T14.setTop (mkF m 79 #[.val (.long q0), .second, .val (.int p1), .val (.long (q0 &&& (9223372036854775807 : Int64))), .second, .val (.long (768614336404564650 : Int64)), .second, .val (.long (((q0 &&& (9223372036854775807 : Int64)) - ((q0 &&& (9223372036854775807 : Int64)) / (768614336404564650 : Int64)) * (768614336404564650 : Int64)) + (1 : Int64))), .second, .val (.ref b10)] []))
    refine OwnFin.st (fun _ q => XS.aload Xr14.here hx rfl (hb hby at_79) rfl rfl q) ?_
    show OwnFin _ _ _ _ (T14.setTop (mkF m 81 #[.val (.long q0), .second, .val (.int p1), .val (.long (q0 &&& (9223372036854775807 : Int64))), .second, .val (.long (768614336404564650 : Int64)), .second, .val (.long (((q0 &&& (9223372036854775807 : Int64)) - ((q0 &&& (9223372036854775807 : Int64)) / (768614336404564650 : Int64)) * (768614336404564650 : Int64)) + (1 : Int64))), .second, .val (.ref b10)] [(.ref b10)]))
    obtain ⟨cq16, kq16, q16a, q16b, q16c⟩ := isOf hZr14 e14 (A10.keep K14)
    obtain ⟨_, _, ⟨T16, L16, k16, n16⟩, -, X16, ⟨Lc16, hQ16, l16, y16, z16⟩, st16⟩ := Xr14.virtualBack hx (y := (⟨"com/example/libaccrue/libaccrue/history/Term", "months", "()J"⟩ : MethodName)) (z := (⟨"com/example/libaccrue/libaccrue/history/Term", "months", "()J"⟩ : MethodName)) hor14 (mvT hZr14 (hw _ (List.mem_of_getElem? (i := 34) rfl))) (mvT hZr14 (hw _ (List.mem_of_getElem? (i := 35) rfl))) (notFace_of_selects (args := #[]) (mvT hZr14 (hw _ (List.mem_of_getElem? (i := 37) rfl)))) (mvT hZr14 (hw _ (List.mem_of_getElem? (i := 37) rfl))) (mvT hZr14 (hw _ (List.mem_of_getElem? (i := 36) rfl))) (by decide) (backOf (W := 0) (rm5 l Z av0 hw [] b10 (((q0 &&& (9223372036854775807 : Int64)) - ((q0 &&& (9223372036854775807 : Int64)) / (768614336404564650 : Int64)) * (768614336404564650 : Int64)) + (1 : Int64)) w_YEAR (12 : Int32) h14 n0 (Nat.le_trans Z0 kp15.1) (om_rm0_5 p1 q0 hc1) (by decide) (om_rm0_6 p1 q0 hc1) r14_0 r14_1 (X_w_YEAR.ext ol15.2) (F_months_w_YEAR.ext ol15.2)) hZr14 (hw _ (List.mem_of_getElem? (i := 38) rfl)) (hw _ (List.mem_of_getElem? (i := 3) rfl)) (by decide) (by decide)) q16a q16c (g := (mkF m 81 #[.val (.long q0), .second, .val (.int p1), .val (.long (q0 &&& (9223372036854775807 : Int64))), .second, .val (.long (768614336404564650 : Int64)), .second, .val (.long (((q0 &&& (9223372036854775807 : Int64)) - ((q0 &&& (9223372036854775807 : Int64)) / (768614336404564650 : Int64)) * (768614336404564650 : Int64)) + (1 : Int64))), .second, .val (.ref b10)] [(.ref b10)])) rfl (by rw [hml]; rfl) (Steps.refl _) (argsL := []) (rest := []) (lenOf pd_7 rfl) rfl (by show 2 * 0 + _ ≤ _; exact Nat.le_of_eq rfl) (hb hby at_81) (fun _ _ => ⟨rfl, e14, (by decide : 3 + 0 ≤ _), (by decide : 22 + 0 ≤ _)⟩)
    dsimp only [Pt.U, Pt.locs, Pt.cells, Pt.slots] at X16 l16 y16 z16 st16 hQ16
    subst l16 y16 z16
    obtain ⟨rfl, N16q, he16⟩ := hQ16
    have N16 := Fr.app N14 N16q
    refine OwnFin.tr st16 ?_
    show OwnFin _ _ _ _ (T16.setTop (mkF m 84 #[.val (.long q0), .second, .val (.int p1), .val (.long (q0 &&& (9223372036854775807 : Int64))), .second, .val (.long (768614336404564650 : Int64)), .second, .val (.long (((q0 &&& (9223372036854775807 : Int64)) - ((q0 &&& (9223372036854775807 : Int64)) / (768614336404564650 : Int64)) * (768614336404564650 : Int64)) + (1 : Int64))), .second, .val (.ref b10)] [(.long ((((q0 &&& (9223372036854775807 : Int64)) - ((q0 &&& (9223372036854775807 : Int64)) / (768614336404564650 : Int64)) * (768614336404564650 : Int64)) + (1 : Int64)) * ((12 : Int32).toInt64)))]))
    refine OwnFin.st (fun _ q => XS.lload X16.here hx rfl (hb hby at_84) rfl q) ?_
    show OwnFin _ _ _ _ (T16.setTop (mkF m 86 #[.val (.long q0), .second, .val (.int p1), .val (.long (q0 &&& (9223372036854775807 : Int64))), .second, .val (.long (768614336404564650 : Int64)), .second, .val (.long (((q0 &&& (9223372036854775807 : Int64)) - ((q0 &&& (9223372036854775807 : Int64)) / (768614336404564650 : Int64)) * (768614336404564650 : Int64)) + (1 : Int64))), .second, .val (.ref b10)] [(.long (((q0 &&& (9223372036854775807 : Int64)) - ((q0 &&& (9223372036854775807 : Int64)) / (768614336404564650 : Int64)) * (768614336404564650 : Int64)) + (1 : Int64))), (.long ((((q0 &&& (9223372036854775807 : Int64)) - ((q0 &&& (9223372036854775807 : Int64)) / (768614336404564650 : Int64)) * (768614336404564650 : Int64)) + (1 : Int64)) * ((12 : Int32).toInt64)))]))
    refine OwnFin.st (X16.ldc2Long hx hor14 (mvT hZr14 (hw _ (List.mem_of_getElem? (i := 60) rfl))) (g := (mkF m 86 #[.val (.long q0), .second, .val (.int p1), .val (.long (q0 &&& (9223372036854775807 : Int64))), .second, .val (.long (768614336404564650 : Int64)), .second, .val (.long (((q0 &&& (9223372036854775807 : Int64)) - ((q0 &&& (9223372036854775807 : Int64)) / (768614336404564650 : Int64)) * (768614336404564650 : Int64)) + (1 : Int64))), .second, .val (.ref b10)] [(.long (((q0 &&& (9223372036854775807 : Int64)) - ((q0 &&& (9223372036854775807 : Int64)) / (768614336404564650 : Int64)) * (768614336404564650 : Int64)) + (1 : Int64))), (.long ((((q0 &&& (9223372036854775807 : Int64)) - ((q0 &&& (9223372036854775807 : Int64)) / (768614336404564650 : Int64)) * (768614336404564650 : Int64)) + (1 : Int64)) * ((12 : Int32).toInt64)))])) rfl (hb hby at_86)) ?_
    show OwnFin _ _ _ _ (T16.setTop (mkF m 89 #[.val (.long q0), .second, .val (.int p1), .val (.long (q0 &&& (9223372036854775807 : Int64))), .second, .val (.long (768614336404564650 : Int64)), .second, .val (.long (((q0 &&& (9223372036854775807 : Int64)) - ((q0 &&& (9223372036854775807 : Int64)) / (768614336404564650 : Int64)) * (768614336404564650 : Int64)) + (1 : Int64))), .second, .val (.ref b10)] [(.long (12 : Int64)), (.long (((q0 &&& (9223372036854775807 : Int64)) - ((q0 &&& (9223372036854775807 : Int64)) / (768614336404564650 : Int64)) * (768614336404564650 : Int64)) + (1 : Int64))), (.long ((((q0 &&& (9223372036854775807 : Int64)) - ((q0 &&& (9223372036854775807 : Int64)) / (768614336404564650 : Int64)) * (768614336404564650 : Int64)) + (1 : Int64)) * ((12 : Int32).toInt64)))]))
    refine OwnFin.st (fun _ q => XS.lmul X16.here hx rfl (hb hby at_89) rfl q) ?_
    show OwnFin _ _ _ _ (T16.setTop (mkF m 90 #[.val (.long q0), .second, .val (.int p1), .val (.long (q0 &&& (9223372036854775807 : Int64))), .second, .val (.long (768614336404564650 : Int64)), .second, .val (.long (((q0 &&& (9223372036854775807 : Int64)) - ((q0 &&& (9223372036854775807 : Int64)) / (768614336404564650 : Int64)) * (768614336404564650 : Int64)) + (1 : Int64))), .second, .val (.ref b10)] [(.long ((((q0 &&& (9223372036854775807 : Int64)) - ((q0 &&& (9223372036854775807 : Int64)) / (768614336404564650 : Int64)) * (768614336404564650 : Int64)) + (1 : Int64)) * (12 : Int64))), (.long ((((q0 &&& (9223372036854775807 : Int64)) - ((q0 &&& (9223372036854775807 : Int64)) / (768614336404564650 : Int64)) * (768614336404564650 : Int64)) + (1 : Int64)) * ((12 : Int32).toInt64)))]))
    refine OwnFin.st (fun _ q => XS.lcmp X16.here hx rfl (hb hby at_90) rfl q) ?_
    show OwnFin _ _ _ _ (T16.setTop (mkF m 91 #[.val (.long q0), .second, .val (.int p1), .val (.long (q0 &&& (9223372036854775807 : Int64))), .second, .val (.long (768614336404564650 : Int64)), .second, .val (.long (((q0 &&& (9223372036854775807 : Int64)) - ((q0 &&& (9223372036854775807 : Int64)) / (768614336404564650 : Int64)) * (768614336404564650 : Int64)) + (1 : Int64))), .second, .val (.ref b10)] [(.int (lcmpW ((((q0 &&& (9223372036854775807 : Int64)) - ((q0 &&& (9223372036854775807 : Int64)) / (768614336404564650 : Int64)) * (768614336404564650 : Int64)) + (1 : Int64)) * ((12 : Int32).toInt64)) ((((q0 &&& (9223372036854775807 : Int64)) - ((q0 &&& (9223372036854775807 : Int64)) / (768614336404564650 : Int64)) * (768614336404564650 : Int64)) + (1 : Int64)) * (12 : Int64))))]))
    have hd17 : ((((q0 &&& (9223372036854775807 : Int64)) - ((q0 &&& (9223372036854775807 : Int64)) / (768614336404564650 : Int64)) * (768614336404564650 : Int64)) + (1 : Int64)) * ((12 : Int32).toInt64)) = ((((q0 &&& (9223372036854775807 : Int64)) - ((q0 &&& (9223372036854775807 : Int64)) / (768614336404564650 : Int64)) * (768614336404564650 : Int64)) + (1 : Int64)) * (12 : Int64)) := by
      exact (om_rm0_7 p1 q0 hc1)
    refine OwnFin.st (fun _ q => XS.ifNo X16.here hx rfl (hb hby at_91) rfl (Jvm.Free.XT.ll_ne_f hd17) q) ?_
    show OwnFin _ _ _ _ (T16.setTop (mkF m 94 #[.val (.long q0), .second, .val (.int p1), .val (.long (q0 &&& (9223372036854775807 : Int64))), .second, .val (.long (768614336404564650 : Int64)), .second, .val (.long (((q0 &&& (9223372036854775807 : Int64)) - ((q0 &&& (9223372036854775807 : Int64)) / (768614336404564650 : Int64)) * (768614336404564650 : Int64)) + (1 : Int64))), .second, .val (.ref b10)] []))
    refine OwnFin.st (fun _ q => XS.iconst X16.here hx rfl (hb hby at_94) q) ?_
    show OwnFin _ _ _ _ (T16.setTop (mkF m 95 #[.val (.long q0), .second, .val (.int p1), .val (.long (q0 &&& (9223372036854775807 : Int64))), .second, .val (.long (768614336404564650 : Int64)), .second, .val (.long (((q0 &&& (9223372036854775807 : Int64)) - ((q0 &&& (9223372036854775807 : Int64)) / (768614336404564650 : Int64)) * (768614336404564650 : Int64)) + (1 : Int64))), .second, .val (.ref b10)] [(.int (1 : Int32))]))
    refine OwnFin.st (fun _ q => XS.goto X16.here hx rfl (pc0 := 95) (pc' := 99) rfl (hb hby at_95) (by decide) (by decide) q) ?_
    show OwnFin _ _ _ _ (T16.setTop (mkF m 99 #[.val (.long q0), .second, .val (.int p1), .val (.long (q0 &&& (9223372036854775807 : Int64))), .second, .val (.long (768614336404564650 : Int64)), .second, .val (.long (((q0 &&& (9223372036854775807 : Int64)) - ((q0 &&& (9223372036854775807 : Int64)) / (768614336404564650 : Int64)) * (768614336404564650 : Int64)) + (1 : Int64))), .second, .val (.ref b10)] [(.int (1 : Int32))]))
    obtain ⟨fs, hr, hrun, hended, hEW⟩ := X16.leaveW (s := s) hSr14 (by rw [he16]; exact (Nat.le_trans (Nat.le_refl _) (Nat.le_refl _))) (v := some (.int (1 : Int32))) (fun h => by rw [Bd.returns] at h; cases h)
    refine ⟨_, _, retN X16 hx (t := .boolean) Bd.returns (by simp) (hb hby at_99) hr, hrun, hended, _, _, rfl, ?_, hEW.1, hEW.2.1, hEW.2.2.1, hEW.2.2.2.mono (by decide) (by decide)⟩
    show Q_rm0 Z q0 p1 w_MONTH w_YEAR h0 n0 _ T16.heap _
    rw [he16]
    exact ⟨rfl, N16⟩
set_option maxRecDepth 65536 in
set_option maxHeartbeats 40000000 in
theorem comes_1 {Post : Tables → Env → Array Value → State → Outcome → State → Prop} (hpost : ∀ tb e args s v u, (limb_1_1.after args s (.returned v) u = true ∧ limb_1_2.after args s (.returned v) u = true ∧ True) → ReturnedEndW s (.returned v) u (Jvm.fieldLocs frame_1_writes args s ++ Jvm.arrayLocs frame_1_arrays args s ++ Jvm.staticLocs frame_1_statics s) 16 1152 → Post tb e args s (.returned v) u) :
    ArmFor flags0 classFile x code maxLocals ret World_1 tables_1 room_1 Calls_1 rest_1 Pre_1 Post := by
  intro l hfl _ _ p e ha hc hk s m args below hf hA hF happ hP
  obtain ⟨hcalls, hrest, hpre⟩ := hP
  obtain ⟨-, -, -, hnamed, -, -, -, hat⟩ := (Spec.applies_iff hf).mp happ
  obtain ⟨hg, hn⟩ := and_e (Cond.before_iff.mp (show (Jvm.Cond.and given_1 narrow_1).before args s = true from hpre))
  obtain ⟨y1, y2⟩ := and_e hg
  obtain ⟨y3, y4⟩ := and_e y2
  obtain ⟨y5, y6⟩ := and_e hn
  obtain ⟨y7, y8⟩ := and_e y6
  obtain ⟨y9, y10⟩ := and_e y8
  obtain ⟨v0, v1, rfl⟩ : ∃ v0 v1 : Value, args = #[v0, v1] := by
    have hs : args.size = 2 := by simpa [Cond.value, given_1] using y1
    obtain ⟨L⟩ := args
    match L, hs with
    | [v0, v1], _ => exact ⟨v0, v1, rfl⟩
  have hw := fun d (hd : d ∈ tables_1) => atoms_spec (ws := Jvm.Cond.code x code maxLocals ret :: tables_1) hat d (List.mem_cons_of_mem _ hd)
  have hfit : Fit s := fun {y c} hc i hi => by
    obtain ⟨ha, rfl⟩ := Array.getElem?_eq_some_iff.mp hc
    have q := List.all_eq_true.mp ((Array.all_eq_true_iff_forall_mem.mp hF) _ (Array.getElem_mem ha)) i (List.mem_range.mpr hi)
    simpa [Array.getElem?_eq_getElem hi] using q
  obtain ⟨i0, ei0⟩ := isL_v y3
  obtain rfl : v0 = (.long i0) := Option.some.inj ei0
  obtain ⟨i1, ei1⟩ := is_v y4
  obtain rfl : v1 = (.int i1) := Option.some.inj ei1
  obtain ⟨st_MONTH, ev_MONTH⟩ := exa_v y5
  have Sx_MONTH : Sta s s.heap "com/example/libaccrue/libaccrue/history/Term$Unit" "MONTH" "Lcom/example/libaccrue/libaccrue/history/Term$Unit;" (.ref st_MONTH) := Sta.start ev_MONTH (Or.inr ⟨(hw _ (List.mem_of_getElem? (i := 5) rfl)), (hw _ (List.mem_of_getElem? (i := 6) rfl))⟩)
  have Xx_MONTH : Exa s s.heap st_MONTH "com/example/libaccrue/libaccrue/history/Term$Unit" := Exa.start ev_MONTH y5
  obtain ⟨st_YEAR, ev_YEAR⟩ := exa_v y9
  have Sx_YEAR : Sta s s.heap "com/example/libaccrue/libaccrue/history/Term$Unit" "YEAR" "Lcom/example/libaccrue/libaccrue/history/Term$Unit;" (.ref st_YEAR) := Sta.start ev_YEAR (Or.inr ⟨(hw _ (List.mem_of_getElem? (i := 5) rfl)), (hw _ (List.mem_of_getElem? (i := 59) rfl))⟩)
  have Xx_YEAR : Exa s s.heap st_YEAR "com/example/libaccrue/libaccrue/history/Term$Unit" := Exa.start ev_YEAR y9
  have Fx_MONTH_months : Fld s s.heap st_MONTH "com/example/libaccrue/libaccrue/history/Term$Unit" "months" "I" (.int 1) := by
    obtain ⟨x1, y1, e1, e2, -, -⟩ := cmp_v (Or.inl y7)
    cases e2.symm.trans (Term.int_eval (1))
    have e3 : x1 = .int 1 := own_eqv y7 e1
    subst e3
    exact Fld.start ((fld_at ev_MONTH).symm.trans e1)
  have Fx_YEAR_months : Fld s s.heap st_YEAR "com/example/libaccrue/libaccrue/history/Term$Unit" "months" "I" (.int 12) := by
    obtain ⟨x1, y1, e1, e2, -, -⟩ := cmp_v (Or.inl y10)
    cases e2.symm.trans (Term.int_eval (12))
    have e3 : x1 = .int 12 := own_eqv y10 e1
    subst e3
    exact Fld.start ((fld_at ev_YEAR).symm.trans e1)
  obtain ⟨n, o, h1, h2, h3, _, L, rfl, ⟨rfl, N⟩, hq⟩ := rm0 l s _ hw tables_1 i0 i1 st_MONTH st_YEAR s.heap s.heap.size (Nat.le_refl _) (Old.start s) Sx_MONTH Xx_MONTH Fx_MONTH_months Sx_YEAR Xx_YEAR Fx_YEAR_months p e ha hc hk s m _ below hf ((Spec.applies_iff_loose hf).mp happ).1 ⟨rfl, State.Warmed39.refl s, rfl⟩ trivial
  refine ⟨n, _, h1, h2, h3, hpost _ _ _ _ _ _ ⟨Cond.after_iff.mpr rfl, Cond.after_iff.mpr (eq_i res_at (Term.int_eval (1)) rfl), trivial⟩ ⟨hq.1, hq.2.1, hq.2.2.1, (hq.2.2.2.sift fun y hy => Or.inr (N y hy)).mono (by decide) (by decide)⟩⟩
theorem main_1_1 : Claimed_1_1 := comes_1 fun _ _ _ _ _ _ h hF => ⟨h.1, hF⟩
theorem main_1_2 : Claimed_1_2 := comes_1 fun _ _ _ _ _ _ h hF => ⟨h.2.1, hF⟩
end Jvm.Pilot.@@N@@
namespace Jvm.Pilot.@@N@@
open Jvm Jvm.ClassFile Sem Op Lib Jvm.Free Jvm.Stand Jvm.Pilot.@@N@@.Jvm.D
/-! MADE BY PROGRAM (witnessworld.py) out of the Statement's table words and the real class files: 19 classes; the members and pool entries that the words name. The judged class is class 1, her method 1. -/
namespace start1
open Jvm.ClassFile
def u (s : String) : CpInfo := .utf8 (stringToUtf16 s)
/-- a pool by its gaps: so many unusable entries, then the entry; so many at the end -/
def gap : Nat → List CpInfo → List CpInfo
  | 0, r => r
  | n + 1, r => .unusable :: gap n r
def poolList (es : List (Nat × CpInfo)) (last : Nat) : List CpInfo := es.foldr (fun e r => gap e.1 (e.2 :: r)) (gap last [])
def pool (es : List (Nat × CpInfo)) (last : Nat) : Array CpInfo := ⟨poolList es last⟩
def fileOf (pool : Array CpInfo) (this : Nat) (attrs : Array Attribute := #[]) (ms : Array MethodInfo := #[]) (fl : Nat := 33) (sup : Nat := 0) (ifs : Array Nat := #[]) (fds : Array FieldInfo := #[]) : ClassFile where
  minorVersion := 0
  majorVersion := 65
  constantPool := pool
  accessFlags := fl
  thisClass := this
  superClass := sup
  interfaces := ifs
  fields := fds
  methods := ms
  attributes := attrs
def plain (name : String) (sup : Option ClassId) : Class where
  name := name
  kind := .ordinary
  loader := none
  accessFlags := 33
  super := sup
  interfaces := #[]
  cf := none
  fields := #[]
  methods := #[]
  instanceTypes := #[]
  staticTypes := #[]
  resolved := #[]
  callSites := []
  init := .initialized
  statics := none
  mirror := none

def pool0 : Array CpInfo := pool [(5, u "<init>"), (0, u "()V"), (1, .class_ 10), (1, u "java/lang/Object")] 113

def k0c0 : Code := { maxStack := 0, maxLocals := 1, code := object_method_1_code, exceptionTable := #[], attributes := #[] }
def k0m0 : Method := { name := "<init>", desc := "()V", sig := { parameters := [], returnType := none }, accessFlags := 1, code := some k0c0 }
/-- java/lang/Object -/
def k0 : Class := { plain "java/lang/Object" none with
  accessFlags := 33
  interfaces := #[]
  cf := some (fileOf pool0 8 #[] #[{ accessFlags := 1, nameIndex := 5, descriptorIndex := 6, attributes := #[] }] 33 0 #[] #[])
  fields := #[]
  methods := #[k0m0]
  instanceTypes := #[]
  staticTypes := #[]
  resolved := Array.replicate 124 none
  statics := none }

def pool1 : Array CpInfo := pool [(2, .class_ 4), (1, u "java/lang/Object"), (0, u "<init>"), (0, u "()V"), (2, .long 9223372036854775807), (1, .class_ 12), (0, u "com/example/libaccrue/libaccrue/history/Term"), (0, .fieldref 14 15), (0, .class_ 16), (0, .nameAndType 17 18), (0, u "com/example/libaccrue/libaccrue/history/Term$Unit"), (0, u "MONTH"), (0, u "Lcom/example/libaccrue/libaccrue/history/Term$Unit;"), (0, .methodref 11 20), (0, .nameAndType 5 21), (0, u "(JLcom/example/libaccrue/libaccrue/history/Term$Unit;)V"), (0, .methodref 11 23), (0, .nameAndType 24 25), (0, u "months"), (0, u "()J"), (0, .long 768614336404564650), (1, .fieldref 14 29), (0, .nameAndType 30 18), (0, u "YEAR"), (0, .long 12), (1, .class_ 34), (0, u "com/example/libaccrue/libaccrue/history/TermMonthsPinLaw"), (2, u "law"), (0, u "(JI)Z")] 5

def k1m0 : Method := { name := "<init>", desc := "()V", sig := { parameters := [], returnType := none }, accessFlags := 1, code := none }
def k1c1 : Code := { maxStack := 6, maxLocals := 10, code := code, exceptionTable := #[], attributes := #[] }
def k1m1 : Method := { name := "law", desc := "(JI)Z", sig := { parameters := [.long, .int], returnType := some .boolean }, accessFlags := 9, code := some k1c1 }
/-- com/example/libaccrue/libaccrue/history/TermMonthsPinLaw -/
def k1 : Class := { plain "com/example/libaccrue/libaccrue/history/TermMonthsPinLaw" (some 0) with
  accessFlags := 49
  interfaces := #[]
  cf := some (fileOf pool1 33 #[] #[{ accessFlags := 1, nameIndex := 5, descriptorIndex := 6, attributes := #[] }, { accessFlags := 9, nameIndex := 37, descriptorIndex := 38, attributes := #[] }] 49 2 #[] #[])
  fields := #[]
  methods := #[k1m0, k1m1]
  instanceTypes := #[]
  staticTypes := #[]
  resolved := Array.replicate 44 none
  statics := none }

def pool2 : Array CpInfo := pool [(1, .methodref 2 3), (0, .class_ 4), (0, .nameAndType 5 6), (0, u "java/lang/Object"), (0, u "<init>"), (0, u "()V"), (0, .class_ 8), (0, u "java/lang/Record")] 13

def k2c0 : Code := { maxStack := 1, maxLocals := 1, code := jdk_30_method_1_code, exceptionTable := #[], attributes := #[] }
def k2m0 : Method := { name := "<init>", desc := "()V", sig := { parameters := [], returnType := none }, accessFlags := 4, code := some k2c0 }
/-- java/lang/Record -/
def k2 : Class := { plain "java/lang/Record" (some 0) with
  accessFlags := 1057
  interfaces := #[]
  cf := some (fileOf pool2 7 #[] #[{ accessFlags := 4, nameIndex := 5, descriptorIndex := 6, attributes := #[] }] 1057 2 #[] #[])
  fields := #[]
  methods := #[k2m0]
  instanceTypes := #[]
  staticTypes := #[]
  resolved := Array.replicate 22 none
  statics := none }

def pool3 : Array CpInfo := pool [(1, .methodref 2 3), (0, .class_ 4), (0, .nameAndType 5 6), (0, u "java/lang/Record"), (0, u "<init>"), (0, u "()V"), (0, .string 8), (0, u "unit"), (0, .methodref 10 11), (0, .class_ 12), (0, .nameAndType 13 14), (0, u "java/util/Objects"), (0, u "requireNonNull"), (0, u "(Ljava/lang/Object;Ljava/lang/String;)Ljava/lang/Object;"), (9, .fieldref 25 26), (0, .class_ 27), (0, .nameAndType 28 29), (0, u "com/example/libaccrue/libaccrue/history/Term"), (0, u "count"), (0, u "J"), (0, .fieldref 25 31), (0, .nameAndType 8 32), (0, u "Lcom/example/libaccrue/libaccrue/history/Term$Unit;"), (0, .methodref 34 35), (0, .class_ 36), (0, .nameAndType 37 38), (0, u "com/example/libaccrue/libaccrue/history/Term$Unit"), (0, u "months"), (0, u "()I"), (0, .methodref 40 41), (0, .class_ 42), (0, .nameAndType 43 44), (0, u "java/lang/Math"), (0, u "multiplyExact"), (0, u "(JI)J"), (12, u "(JLcom/example/libaccrue/libaccrue/history/Term$Unit;)V"), (4, u "()J")] 34

def k3c0 : Code := { maxStack := 4, maxLocals := 4, code := prog_23_method_1_code, exceptionTable := #[], attributes := #[] }
def k3m0 : Method := { name := "<init>", desc := "(JLcom/example/libaccrue/libaccrue/history/Term$Unit;)V", sig := { parameters := [.long, (.object "com/example/libaccrue/libaccrue/history/Term$Unit")], returnType := none }, accessFlags := 1, code := some k3c0 }
def k3c1 : Code := { maxStack := 3, maxLocals := 1, code := prog_23_method_2_code, exceptionTable := #[], attributes := #[] }
def k3m1 : Method := { name := "months", desc := "()J", sig := { parameters := [], returnType := some .long }, accessFlags := 1, code := some k3c1 }
/-- com/example/libaccrue/libaccrue/history/Term -/
def k3 : Class := { plain "com/example/libaccrue/libaccrue/history/Term" (some 2) with
  accessFlags := 49
  interfaces := #[]
  cf := some (fileOf pool3 25 #[.nestMembers #[34]] #[{ accessFlags := 1, nameIndex := 5, descriptorIndex := 57, attributes := #[] }, { accessFlags := 1, nameIndex := 37, descriptorIndex := 62, attributes := #[] }] 49 2 #[] #[{ accessFlags := 18, nameIndex := 28, descriptorIndex := 29, attributes := #[] }, { accessFlags := 18, nameIndex := 8, descriptorIndex := 32, attributes := #[] }])
  fields := #[{ name := "count", type := .long, accessFlags := 18, slot := 0, constantValue := 0 }, { name := "unit", type := (.object "com/example/libaccrue/libaccrue/history/Term$Unit"), accessFlags := 18, slot := 1, constantValue := 0 }]
  methods := #[k3m0, k3m1]
  instanceTypes := #[.long, (.object "com/example/libaccrue/libaccrue/history/Term$Unit")]
  staticTypes := #[]
  resolved := Array.replicate 97 none
  statics := none }

def pool4 : Array CpInfo := pool [(1, .class_ 2), (0, u "java/lang/constant/Constable"), (0, .class_ 4), (0, u "java/lang/Object")] 6

/-- java/lang/constant/Constable -/
def k4 : Class := { plain "java/lang/constant/Constable" (some 0) with
  accessFlags := 1537
  interfaces := #[]
  cf := some (fileOf pool4 1 #[] #[] 1537 3 #[] #[])
  fields := #[]
  methods := #[]
  instanceTypes := #[]
  staticTypes := #[]
  resolved := Array.replicate 11 none
  statics := none }

def pool5 : Array CpInfo := pool [(1, .class_ 2), (0, u "java/lang/Comparable"), (0, .class_ 4), (0, u "java/lang/Object")] 7

/-- java/lang/Comparable -/
def k5 : Class := { plain "java/lang/Comparable" (some 0) with
  accessFlags := 1537
  interfaces := #[]
  cf := some (fileOf pool5 1 #[] #[] 1537 3 #[] #[])
  fields := #[]
  methods := #[]
  instanceTypes := #[]
  staticTypes := #[]
  resolved := Array.replicate 12 none
  statics := none }

def pool6 : Array CpInfo := pool [(1, .class_ 2), (0, u "java/io/Serializable"), (0, .class_ 4), (0, u "java/lang/Object")] 2

/-- java/io/Serializable -/
def k6 : Class := { plain "java/io/Serializable" (some 0) with
  accessFlags := 1537
  interfaces := #[]
  cf := some (fileOf pool6 1 #[] #[] 1537 3 #[] #[])
  fields := #[]
  methods := #[]
  instanceTypes := #[]
  staticTypes := #[]
  resolved := Array.replicate 7 none
  statics := none }

def pool7 : Array CpInfo := pool [(2, .class_ 4), (1, u "java/lang/Enum"), (0, u "name"), (0, u "Ljava/lang/String;"), (2, u "ordinal"), (0, u "I"), (1, .class_ 14), (1, u "java/lang/Object"), (4, u "hash"), (86, .class_ 108), (1, u "java/lang/Enum$EnumDesc"), (2, .class_ 112), (0, u "java/lang/constant/Constable"), (0, .class_ 114), (0, u "java/lang/Comparable"), (0, .class_ 116), (0, u "java/io/Serializable")] 87

/-- java/lang/Enum -/
def k7 : Class := { plain "java/lang/Enum" (some 0) with
  accessFlags := 1057
  interfaces := #[4, 5, 6]
  cf := some (fileOf pool7 2 #[.nestMembers #[106]] #[] 1057 12 #[111, 113, 115] #[{ accessFlags := 18, nameIndex := 5, descriptorIndex := 6, attributes := #[] }, { accessFlags := 18, nameIndex := 9, descriptorIndex := 10, attributes := #[] }, { accessFlags := 2, nameIndex := 19, descriptorIndex := 10, attributes := #[] }])
  fields := #[{ name := "name", type := (.object "java/lang/String"), accessFlags := 18, slot := 0, constantValue := 0 }, { name := "ordinal", type := .int, accessFlags := 18, slot := 1, constantValue := 0 }, { name := "hash", type := .int, accessFlags := 2, slot := 2, constantValue := 0 }]
  methods := #[]
  instanceTypes := #[(.object "java/lang/String"), .int, .int]
  staticTypes := #[]
  resolved := Array.replicate 204 none
  statics := none }

def pool8 : Array CpInfo := pool [(1, .class_ 2), (0, u "com/example/libaccrue/libaccrue/history/Term$Unit"), (2, u "MONTH"), (0, u "Lcom/example/libaccrue/libaccrue/history/Term$Unit;"), (2, u "YEAR"), (2, u "$VALUES"), (0, u "[Lcom/example/libaccrue/libaccrue/history/Term$Unit;"), (6, .class_ 22), (1, u "java/lang/Enum"), (6, .fieldref 1 30), (0, .nameAndType 31 32), (0, u "months"), (0, u "I"), (16, u "()I"), (6, .class_ 57), (0, u "com/example/libaccrue/libaccrue/history/Term")] 2

def k8c0 : Code := { maxStack := 1, maxLocals := 1, code := prog_24_method_4_code, exceptionTable := #[], attributes := #[] }
def k8m0 : Method := { name := "months", desc := "()I", sig := { parameters := [], returnType := some .int }, accessFlags := 1, code := some k8c0 }
/-- com/example/libaccrue/libaccrue/history/Term$Unit -/
def k8 : Class := { plain "com/example/libaccrue/libaccrue/history/Term$Unit" (some 7) with
  accessFlags := 16433
  interfaces := #[]
  cf := some (fileOf pool8 1 #[.nestHost 56] #[{ accessFlags := 1, nameIndex := 31, descriptorIndex := 49, attributes := #[] }] 16433 20 #[] #[{ accessFlags := 16409, nameIndex := 5, descriptorIndex := 6, attributes := #[] }, { accessFlags := 16409, nameIndex := 9, descriptorIndex := 6, attributes := #[] }, { accessFlags := 18, nameIndex := 31, descriptorIndex := 32, attributes := #[] }, { accessFlags := 4122, nameIndex := 12, descriptorIndex := 13, attributes := #[] }])
  fields := #[{ name := "MONTH", type := (.object "com/example/libaccrue/libaccrue/history/Term$Unit"), accessFlags := 16409, slot := 0, constantValue := 0 }, { name := "YEAR", type := (.object "com/example/libaccrue/libaccrue/history/Term$Unit"), accessFlags := 16409, slot := 1, constantValue := 0 }, { name := "months", type := .int, accessFlags := 18, slot := 3, constantValue := 0 }, { name := "$VALUES", type := (.array (.object "com/example/libaccrue/libaccrue/history/Term$Unit")), accessFlags := 4122, slot := 2, constantValue := 0 }]
  methods := #[k8m0]
  instanceTypes := #[(.object "java/lang/String"), .int, .int, .int]
  staticTypes := #[(.object "com/example/libaccrue/libaccrue/history/Term$Unit"), (.object "com/example/libaccrue/libaccrue/history/Term$Unit"), (.array (.object "com/example/libaccrue/libaccrue/history/Term$Unit"))]
  resolved := Array.replicate 60 none
  statics := some 0 }

def pool9 : Array CpInfo := pool [(2, .class_ 4), (1, u "java/lang/CharSequence"), (42, .class_ 48), (0, u "java/lang/CharSequence$1CodePointIterator"), (10, .class_ 60), (0, u "java/lang/CharSequence$1CharIterator"), (5, .class_ 67), (0, u "java/lang/Object")] 63

/-- java/lang/CharSequence -/
def k9 : Class := { plain "java/lang/CharSequence" (some 0) with
  accessFlags := 1537
  interfaces := #[]
  cf := some (fileOf pool9 2 #[.nestMembers #[47, 59]] #[] 1537 66 #[] #[])
  fields := #[]
  methods := #[]
  instanceTypes := #[]
  staticTypes := #[]
  resolved := Array.replicate 131 none
  statics := none }

def pool10 : Array CpInfo := pool [(1, .class_ 2), (0, u "java/lang/constant/ConstantDesc"), (0, .class_ 4), (0, u "java/lang/Object")] 32

/-- java/lang/constant/ConstantDesc -/
def k10 : Class := { plain "java/lang/constant/ConstantDesc" (some 0) with
  accessFlags := 1537
  interfaces := #[]
  cf := some (fileOf pool10 1 #[] #[] 1537 3 #[] #[])
  fields := #[]
  methods := #[]
  instanceTypes := #[]
  staticTypes := #[]
  resolved := Array.replicate 37 none
  statics := none }

def pool11 : Array CpInfo := pool [(2, .class_ 4), (1, u "java/lang/Object"), (0, u "<init>"), (0, u "()V"), (3, .class_ 12), (1, u "java/lang/String"), (0, u "value"), (0, u "[B"), (2, u "coder"), (0, u "B"), (2, u "hash"), (0, u "I"), (2, u "hashIsZero"), (0, u "Z"), (13, u "COMPACT_STRINGS"), (534, .class_ 576), (0, u "java/lang/CharSequence"), (22, u "CASE_INSENSITIVE_ORDER"), (0, u "Ljava/util/Comparator;"), (500, u "serialPersistentFields"), (0, u "[Ljava/io/ObjectStreamField;"), (0, .class_ 1104), (0, u "java/lang/String$CaseInsensitiveComparator"), (1, .class_ 1107), (0, u "java/io/Serializable"), (0, .class_ 1109), (0, u "java/lang/Comparable"), (0, .class_ 1111), (0, u "java/lang/constant/Constable"), (0, .class_ 1113), (0, u "java/lang/constant/ConstantDesc"), (2, u "serialVersionUID"), (0, u "J"), (3, u "REPL"), (0, u "C"), (2, u "LATIN1"), (1, u "UTF16")] 323

def k11m0 : Method := { name := "<init>", desc := "()V", sig := { parameters := [], returnType := none }, accessFlags := 1, code := none }
/-- java/lang/String -/
def k11 : Class := { plain "java/lang/String" (some 0) with
  accessFlags := 49
  interfaces := #[6, 5, 9, 4, 10]
  cf := some (fileOf pool11 10 #[.nestMembers #[1103]] #[{ accessFlags := 1, nameIndex := 5, descriptorIndex := 6, attributes := #[] }] 49 2 #[1106, 1108, 575, 1110, 1112] #[{ accessFlags := 18, nameIndex := 13, descriptorIndex := 14, attributes := #[] }, { accessFlags := 18, nameIndex := 17, descriptorIndex := 18, attributes := #[] }, { accessFlags := 2, nameIndex := 21, descriptorIndex := 22, attributes := #[] }, { accessFlags := 2, nameIndex := 25, descriptorIndex := 26, attributes := #[] }, { accessFlags := 26, nameIndex := 1116, descriptorIndex := 1117, attributes := #[] }, { accessFlags := 24, nameIndex := 40, descriptorIndex := 26, attributes := #[] }, { accessFlags := 26, nameIndex := 1101, descriptorIndex := 1102, attributes := #[] }, { accessFlags := 26, nameIndex := 1121, descriptorIndex := 1122, attributes := #[] }, { accessFlags := 25, nameIndex := 599, descriptorIndex := 600, attributes := #[] }, { accessFlags := 24, nameIndex := 1125, descriptorIndex := 18, attributes := #[] }, { accessFlags := 24, nameIndex := 1127, descriptorIndex := 18, attributes := #[] }])
  fields := #[{ name := "value", type := (.array .byte), accessFlags := 18, slot := 0, constantValue := 0 }, { name := "coder", type := .byte, accessFlags := 18, slot := 1, constantValue := 0 }, { name := "hash", type := .int, accessFlags := 2, slot := 2, constantValue := 0 }, { name := "hashIsZero", type := .boolean, accessFlags := 2, slot := 3, constantValue := 0 }, { name := "serialVersionUID", type := .long, accessFlags := 26, slot := 0, constantValue := 0 }, { name := "COMPACT_STRINGS", type := .boolean, accessFlags := 24, slot := 1, constantValue := 0 }, { name := "serialPersistentFields", type := (.array (.object "java/io/ObjectStreamField")), accessFlags := 26, slot := 2, constantValue := 0 }, { name := "REPL", type := .char, accessFlags := 26, slot := 3, constantValue := 0 }, { name := "CASE_INSENSITIVE_ORDER", type := (.object "java/util/Comparator"), accessFlags := 25, slot := 4, constantValue := 0 }, { name := "LATIN1", type := .byte, accessFlags := 24, slot := 5, constantValue := 0 }, { name := "UTF16", type := .byte, accessFlags := 24, slot := 6, constantValue := 0 }]
  methods := #[k11m0]
  instanceTypes := #[(.array .byte), .byte, .int, .boolean]
  staticTypes := #[.long, .boolean, (.array (.object "java/io/ObjectStreamField")), .char, (.object "java/util/Comparator"), .byte, .byte]
  resolved := Array.replicate 1451 none
  statics := none }

def pool12 : Array CpInfo := pool [(2, .class_ 4), (1, u "java/lang/Object"), (0, u "<init>"), (0, u "()V"), (35, .class_ 44), (1, u "java/util/Objects"), (0, u "requireNonNull"), (48, u "(Ljava/lang/Object;Ljava/lang/String;)Ljava/lang/Object;")] 89

def k12m0 : Method := { name := "<init>", desc := "()V", sig := { parameters := [], returnType := none }, accessFlags := 2, code := none }
def k12c1 : Code := { maxStack := 3, maxLocals := 2, code := jdk_31_method_11_code, exceptionTable := #[], attributes := #[] }
def k12m1 : Method := { name := "requireNonNull", desc := "(Ljava/lang/Object;Ljava/lang/String;)Ljava/lang/Object;", sig := { parameters := [(.object "java/lang/Object"), (.object "java/lang/String")], returnType := some (.object "java/lang/Object") }, accessFlags := 9, code := some k12c1 }
/-- java/util/Objects -/
def k12 : Class := { plain "java/util/Objects" (some 0) with
  accessFlags := 49
  interfaces := #[]
  cf := some (fileOf pool12 42 #[] #[{ accessFlags := 2, nameIndex := 5, descriptorIndex := 6, attributes := #[] }, { accessFlags := 9, nameIndex := 45, descriptorIndex := 94, attributes := #[] }] 49 2 #[] #[])
  fields := #[]
  methods := #[k12m0, k12m1]
  instanceTypes := #[]
  staticTypes := #[]
  resolved := Array.replicate 184 none
  statics := none }

def pool13 : Array CpInfo := pool [(1, .class_ 2), (0, u "java/lang/Math"), (1, .class_ 6), (1, u "java/lang/Object"), (0, u "<init>"), (0, u "()V"), (89, .class_ 100), (1, u "java/lang/Math$RandomNumberGeneratorHolder"), (17, .methodref 1 119), (0, .nameAndType 120 121), (0, u "multiplyExact"), (0, u "(JJ)J"), (0, .methodref 1 123), (0, .nameAndType 124 125), (0, u "abs"), (0, u "(J)J"), (2, .long 9223372036854775808), (43, u "negativeZeroFloatBits"), (0, u "J"), (2, u "negativeZeroDoubleBits"), (68, u "$assertionsDisabled"), (0, u "Z"), (91, u "twoToTheDoubleScaleDown"), (0, u "D"), (4, u "twoToTheDoubleScaleUp"), (9, u "E"), (3, u "PI"), (2, u "TAU"), (2, u "DEGREES_TO_RADIANS"), (0, u "RADIANS_TO_DEGREES"), (29, u "(JI)J")] 64

def k13m0 : Method := { name := "<init>", desc := "()V", sig := { parameters := [], returnType := none }, accessFlags := 2, code := none }
def k13c1 : Code := { maxStack := 4, maxLocals := 3, code := jdk_29_method_29_code, exceptionTable := #[], attributes := #[] }
def k13m1 : Method := { name := "multiplyExact", desc := "(JI)J", sig := { parameters := [.long, .int], returnType := some .long }, accessFlags := 9, code := some k13c1 }
def k13c2 : Code := { maxStack := 4, maxLocals := 10, code := jdk_29_method_30_code, exceptionTable := #[], attributes := #[] }
def k13m2 : Method := { name := "multiplyExact", desc := "(JJ)J", sig := { parameters := [.long, .long], returnType := some .long }, accessFlags := 9, code := some k13c2 }
def k13c3 : Code := { maxStack := 4, maxLocals := 2, code := jdk_29_method_61_code, exceptionTable := #[], attributes := #[] }
def k13m3 : Method := { name := "abs", desc := "(J)J", sig := { parameters := [.long], returnType := some .long }, accessFlags := 9, code := some k13c3 }
/-- java/lang/Math -/
def k13 : Class := { plain "java/lang/Math" (some 0) with
  accessFlags := 49
  interfaces := #[]
  cf := some (fileOf pool13 1 #[.nestMembers #[98]] #[{ accessFlags := 2, nameIndex := 7, descriptorIndex := 8, attributes := #[] }, { accessFlags := 9, nameIndex := 120, descriptorIndex := 395, attributes := #[] }, { accessFlags := 9, nameIndex := 120, descriptorIndex := 121, attributes := #[] }, { accessFlags := 9, nameIndex := 124, descriptorIndex := 125, attributes := #[] }] 49 4 #[] #[{ accessFlags := 25, nameIndex := 354, descriptorIndex := 339, attributes := #[] }, { accessFlags := 25, nameIndex := 358, descriptorIndex := 339, attributes := #[] }, { accessFlags := 25, nameIndex := 361, descriptorIndex := 339, attributes := #[] }, { accessFlags := 26, nameIndex := 364, descriptorIndex := 339, attributes := #[] }, { accessFlags := 26, nameIndex := 365, descriptorIndex := 339, attributes := #[] }, { accessFlags := 26, nameIndex := 172, descriptorIndex := 173, attributes := #[] }, { accessFlags := 26, nameIndex := 176, descriptorIndex := 173, attributes := #[] }, { accessFlags := 8, nameIndex := 344, descriptorIndex := 339, attributes := #[] }, { accessFlags := 8, nameIndex := 338, descriptorIndex := 339, attributes := #[] }, { accessFlags := 4120, nameIndex := 245, descriptorIndex := 246, attributes := #[] }])
  fields := #[{ name := "E", type := .double, accessFlags := 25, slot := 0, constantValue := 0 }, { name := "PI", type := .double, accessFlags := 25, slot := 1, constantValue := 0 }, { name := "TAU", type := .double, accessFlags := 25, slot := 2, constantValue := 0 }, { name := "DEGREES_TO_RADIANS", type := .double, accessFlags := 26, slot := 3, constantValue := 0 }, { name := "RADIANS_TO_DEGREES", type := .double, accessFlags := 26, slot := 4, constantValue := 0 }, { name := "negativeZeroFloatBits", type := .long, accessFlags := 26, slot := 5, constantValue := 0 }, { name := "negativeZeroDoubleBits", type := .long, accessFlags := 26, slot := 6, constantValue := 0 }, { name := "twoToTheDoubleScaleUp", type := .double, accessFlags := 8, slot := 7, constantValue := 0 }, { name := "twoToTheDoubleScaleDown", type := .double, accessFlags := 8, slot := 8, constantValue := 0 }, { name := "$assertionsDisabled", type := .boolean, accessFlags := 4120, slot := 9, constantValue := 0 }]
  methods := #[k13m0, k13m1, k13m2, k13m3]
  instanceTypes := #[]
  staticTypes := #[.double, .double, .double, .double, .double, .long, .long, .double, .double, .boolean]
  resolved := Array.replicate 460 none
  statics := none }

def pool14 : Array CpInfo := pool [(1, u "java/lang/Cloneable"), (0, .class_ 1), (0, u "java/lang/Object"), (0, .class_ 3)] 3

/-- java/lang/Cloneable -/
def k14 : Class := { plain "java/lang/Cloneable" (some 0) with
  accessFlags := 1537
  interfaces := #[]
  cf := some (fileOf pool14 2 #[] #[] 1537 4 #[] #[])
  fields := #[]
  methods := #[]
  instanceTypes := #[]
  staticTypes := #[]
  resolved := Array.replicate 8 none
  statics := none }

/-- the primitive byte -/
def k15 : Class := { plain "byte" none with kind := .primitive 'B', accessFlags := 0x411 }
/-- [B -/
def k16 : Class := { plain "[B" (some 0) with kind := .array 15 .byte, interfaces := #[14, 6], accessFlags := 1041 }

/-- the primitive int -/
def k17 : Class := { plain "int" none with kind := .primitive 'I', accessFlags := 0x411 }
/-- [I -/
def k18 : Class := { plain "[I" (some 0) with kind := .array 17 .int, interfaces := #[14, 6], accessFlags := 1041 }

def heap : Heap := #[{ cls := 8, slots := #[.ref 1, .ref 2, .null], vm := .statics 8 },
  { cls := 8, slots := #[.null, .int 0, .int 0, .int 1], vm := .none },
  { cls := 8, slots := #[.null, .int 1, .int 0, .int 12], vm := .none }]
def classes : Array Class := #[k0, k1, k2, k3, k4, k5, k6, k7, k8, k9, k10, k11, k12, k13, k14, k15, k16, k17, k18]
def interned : List (Array UInt16 × Addr) := []
def slotsUsed : Nat := 11
def theMethod : MethodId := ⟨1, 1⟩
def args0 : Array Value := #[.long 5, .int 1]
def aboutOver (below : List Frame) : State where
  vm := { classes := classes, interned := interned.toArray }
  heap := heap
  slotsUsed := slotsUsed
  threads := #[{ frames := .invoking theMethod args0 :: below }]
def below0 : List Frame := [.native { method := ⟨0, 0⟩, args := #[] }]
def about1 : State := aboutOver below0
def p0 : Program := .bare "" "" ""
def e0 : Env := launch0.env 0 0 0
theorem w_frames : about1.frames = Frame.invoking theMethod args0 :: below0 := rfl
set_option maxRecDepth 65536 in
theorem w_args : argsFit about1.vm theMethod args0 = true := by decide +kernel
set_option maxRecDepth 65536 in
theorem w_heap : heapFits about1 = true := by decide +kernel
set_option maxRecDepth 65536 in
theorem w_runnable : about1.curStatus? = some .runnable := by decide +kernel
set_option maxRecDepth 65536 in
theorem w_alone : about1.alone = true := by decide +kernel
set_option maxRecDepth 65536 in
theorem w_named : about1.methodNamed? x = some theMethod := by decide +kernel
set_option maxRecDepth 65536 in
theorem w_hears : about1.hears theMethod below0 = true := by decide +kernel
set_option maxRecDepth 65536 in
theorem w_ripe : about1.ripe theMethod args0 below0 = true := by decide +kernel
theorem w_running : about1.status = .running := rfl
set_option maxRecDepth 65536 in
theorem w_room : about1.hasRoom e0.platform room_1 = true :=
  launch0.hasRoom_least _ room_1 (by decide +kernel) (by decide +kernel) (by decide +kernel) (by decide +kernel) (by decide +kernel) (by decide +kernel)
theorem allAtoms_all (ts : List Jvm.Cond) (a : Array Jvm.Value) (st : Jvm.State) : (allAtoms ts).before a st = ts.all (fun c => c.before a st) := by
  induction ts with
  | nil => rfl
  | cons c t ih =>
    show (Jvm.Cond.and c (allAtoms t)).before a st = _
    rw [Jvm.Cond.before_and, ih, List.all_cons]
def words1 : List Jvm.Cond := Jvm.Cond.code x code maxLocals ret :: tables_1
/-- a 'code' word, met by the world's own term for the bytes: nothing is compared byte by byte -/
theorem code_word {y : MethodName} {bytes : ByteArray} {mx : Nat} {rt : Option FieldType} {a : Array Value} {s : State} {m : MethodId} {meth : Method} {c : Code} (h1 : s.methodNamed? y = some m) (h2 : s.vm.method? m = some meth) (h3 : meth.code = some c) (h4 : c.code = bytes)
    (h5 : (c.maxLocals == mx && c.exceptionTable.isEmpty && decide (c.maxStack ≤ mostOperands) && decide (meth.sig.returnType = rt) && !meth.locks && decide (parseMethodDescriptor y.desc = some meth.sig)) = true) : (Jvm.Cond.code y bytes mx rt).before a s = true := by
  simp only [Bool.and_eq_true, beq_iff_eq, Bool.not_eq_true', decide_eq_true_eq] at h5
  obtain ⟨⟨⟨⟨⟨g1, g2⟩, g3⟩, g4⟩, g5⟩, g6⟩ := h5
  simp [Cond.before, Cond.holds, Cond.value, h1, h2, h3, h4, g1, g2, g3, g4, g5, g6]
def isCode : Jvm.Cond → Bool
  | .code _ _ _ _ => true
  | _ => false
theorem all_split {L : List Jvm.Cond} {P : Jvm.Cond → Bool} (h1 : L.all (fun c => isCode c || P c) = true) (h2 : ∀ c ∈ L.filter isCode, P c = true) : L.all P = true := by
  refine List.all_eq_true.mpr fun c hc => ?_
  have h := List.all_eq_true.mp h1 c hc
  rcases Bool.eq_false_or_eq_true (isCode c) with hi | hi
  · exact h2 c (List.mem_filter.mpr ⟨hc, hi⟩)
  · simpa [hi] using h
set_option maxRecDepth 65536 in
theorem w_c0 : (Jvm.Cond.code x code maxLocals ret).before args0 about1 = true := code_word (m := ⟨1, 1⟩) (meth := k1m1) (c := k1c1) (by decide +kernel) rfl rfl rfl (by decide +kernel)
set_option maxRecDepth 65536 in
theorem w_c1 : (Jvm.Cond.code ({ cls := "com/example/libaccrue/libaccrue/history/Term", name := "<init>", desc := "(JLcom/example/libaccrue/libaccrue/history/Term$Unit;)V" } : Jvm.MethodName) prog_23_method_1_code (4 : Nat) (Option.none : Option Jvm.ClassFile.FieldType)).before args0 about1 = true := code_word (m := ⟨3, 0⟩) (meth := k3m0) (c := k3c0) (by decide +kernel) rfl rfl rfl (by decide +kernel)
set_option maxRecDepth 65536 in
theorem w_c2 : (Jvm.Cond.code ({ cls := "java/lang/Record", name := "<init>", desc := "()V" } : Jvm.MethodName) jdk_30_method_1_code (1 : Nat) (Option.none : Option Jvm.ClassFile.FieldType)).before args0 about1 = true := code_word (m := ⟨2, 0⟩) (meth := k2m0) (c := k2c0) (by decide +kernel) rfl rfl rfl (by decide +kernel)
set_option maxRecDepth 65536 in
theorem w_c3 : (Jvm.Cond.code ({ cls := "java/lang/Object", name := "<init>", desc := "()V" } : Jvm.MethodName) object_method_1_code (1 : Nat) (Option.none : Option Jvm.ClassFile.FieldType)).before args0 about1 = true := code_word (m := ⟨0, 0⟩) (meth := k0m0) (c := k0c0) (by decide +kernel) rfl rfl rfl (by decide +kernel)
set_option maxRecDepth 65536 in
theorem w_c4 : (Jvm.Cond.code ({ cls := "java/util/Objects", name := "requireNonNull", desc := "(Ljava/lang/Object;Ljava/lang/String;)Ljava/lang/Object;" } : Jvm.MethodName) jdk_31_method_11_code (2 : Nat) (Option.some (Jvm.ClassFile.FieldType.object "java/lang/Object"))).before args0 about1 = true := code_word (m := ⟨12, 1⟩) (meth := k12m1) (c := k12c1) (by decide +kernel) rfl rfl rfl (by decide +kernel)
set_option maxRecDepth 65536 in
theorem w_c5 : (Jvm.Cond.code ({ cls := "com/example/libaccrue/libaccrue/history/Term", name := "months", desc := "()J" } : Jvm.MethodName) prog_23_method_2_code (1 : Nat) (Option.some Jvm.ClassFile.FieldType.long)).before args0 about1 = true := code_word (m := ⟨3, 1⟩) (meth := k3m1) (c := k3c1) (by decide +kernel) rfl rfl rfl (by decide +kernel)
set_option maxRecDepth 65536 in
theorem w_c6 : (Jvm.Cond.code ({ cls := "com/example/libaccrue/libaccrue/history/Term$Unit", name := "months", desc := "()I" } : Jvm.MethodName) prog_24_method_4_code (1 : Nat) (Option.some Jvm.ClassFile.FieldType.int)).before args0 about1 = true := code_word (m := ⟨8, 0⟩) (meth := k8m0) (c := k8c0) (by decide +kernel) rfl rfl rfl (by decide +kernel)
set_option maxRecDepth 65536 in
theorem w_c7 : (Jvm.Cond.code ({ cls := "java/lang/Math", name := "multiplyExact", desc := "(JI)J" } : Jvm.MethodName) jdk_29_method_29_code (3 : Nat) (Option.some Jvm.ClassFile.FieldType.long)).before args0 about1 = true := code_word (m := ⟨13, 1⟩) (meth := k13m1) (c := k13c1) (by decide +kernel) rfl rfl rfl (by decide +kernel)
set_option maxRecDepth 65536 in
theorem w_c8 : (Jvm.Cond.code ({ cls := "java/lang/Math", name := "multiplyExact", desc := "(JJ)J" } : Jvm.MethodName) jdk_29_method_30_code (10 : Nat) (Option.some Jvm.ClassFile.FieldType.long)).before args0 about1 = true := code_word (m := ⟨13, 2⟩) (meth := k13m2) (c := k13c2) (by decide +kernel) rfl rfl rfl (by decide +kernel)
set_option maxRecDepth 65536 in
theorem w_c9 : (Jvm.Cond.code ({ cls := "java/lang/Math", name := "abs", desc := "(J)J" } : Jvm.MethodName) jdk_29_method_61_code (2 : Nat) (Option.some Jvm.ClassFile.FieldType.long)).before args0 about1 = true := code_word (m := ⟨13, 3⟩) (meth := k13m3) (c := k13c3) (by decide +kernel) rfl rfl rfl (by decide +kernel)
def codes1 : List Jvm.Cond := [Jvm.Cond.code x code maxLocals ret, Jvm.Cond.code ({ cls := "com/example/libaccrue/libaccrue/history/Term", name := "<init>", desc := "(JLcom/example/libaccrue/libaccrue/history/Term$Unit;)V" } : Jvm.MethodName) prog_23_method_1_code (4 : Nat) (Option.none : Option Jvm.ClassFile.FieldType), Jvm.Cond.code ({ cls := "java/lang/Record", name := "<init>", desc := "()V" } : Jvm.MethodName) jdk_30_method_1_code (1 : Nat) (Option.none : Option Jvm.ClassFile.FieldType), Jvm.Cond.code ({ cls := "java/lang/Object", name := "<init>", desc := "()V" } : Jvm.MethodName) object_method_1_code (1 : Nat) (Option.none : Option Jvm.ClassFile.FieldType), Jvm.Cond.code ({ cls := "java/util/Objects", name := "requireNonNull", desc := "(Ljava/lang/Object;Ljava/lang/String;)Ljava/lang/Object;" } : Jvm.MethodName) jdk_31_method_11_code (2 : Nat) (Option.some (Jvm.ClassFile.FieldType.object "java/lang/Object")), Jvm.Cond.code ({ cls := "com/example/libaccrue/libaccrue/history/Term", name := "months", desc := "()J" } : Jvm.MethodName) prog_23_method_2_code (1 : Nat) (Option.some Jvm.ClassFile.FieldType.long), Jvm.Cond.code ({ cls := "com/example/libaccrue/libaccrue/history/Term$Unit", name := "months", desc := "()I" } : Jvm.MethodName) prog_24_method_4_code (1 : Nat) (Option.some Jvm.ClassFile.FieldType.int), Jvm.Cond.code ({ cls := "java/lang/Math", name := "multiplyExact", desc := "(JI)J" } : Jvm.MethodName) jdk_29_method_29_code (3 : Nat) (Option.some Jvm.ClassFile.FieldType.long), Jvm.Cond.code ({ cls := "java/lang/Math", name := "multiplyExact", desc := "(JJ)J" } : Jvm.MethodName) jdk_29_method_30_code (10 : Nat) (Option.some Jvm.ClassFile.FieldType.long), Jvm.Cond.code ({ cls := "java/lang/Math", name := "abs", desc := "(J)J" } : Jvm.MethodName) jdk_29_method_61_code (2 : Nat) (Option.some Jvm.ClassFile.FieldType.long)]
set_option maxRecDepth 65536 in
theorem codes_eq : words1.filter isCode = codes1 := rfl
theorem w_codes : ∀ c ∈ words1.filter isCode, c.before args0 about1 = true := by
  rw [codes_eq]
  intro c hc
  simp only [codes1, List.mem_cons, List.not_mem_nil, or_false] at hc
  rcases hc with rfl | rfl | rfl | rfl | rfl | rfl | rfl | rfl | rfl | rfl
  · exact w_c0
  · exact w_c1
  · exact w_c2
  · exact w_c3
  · exact w_c4
  · exact w_c5
  · exact w_c6
  · exact w_c7
  · exact w_c8
  · exact w_c9
set_option maxRecDepth 65536 in
theorem w_t1 : (words1.take 24).all (fun c => isCode c || c.before args0 about1) = true := by decide +kernel
set_option maxRecDepth 65536 in
theorem w_t2 : ((words1.drop 24).take 24).all (fun c => isCode c || c.before args0 about1) = true := by decide +kernel
set_option maxRecDepth 65536 in
theorem w_t3 : ((words1.drop 24).drop 24).all (fun c => isCode c || c.before args0 about1) = true := by decide +kernel
theorem w_tables : (allAtoms (Jvm.Cond.code x code maxLocals ret :: tables_1)).before args0 about1 = true := by
  rw [allAtoms_all]
  show words1.all (fun c => c.before args0 about1) = true
  refine all_split ?_ w_codes
  rw [← List.take_append_drop 24 words1, List.all_append, w_t1, ← List.take_append_drop 24 (words1.drop 24), List.all_append, w_t2, w_t3]
  rfl
set_option maxRecDepth 65536 in
theorem w_case : (Jvm.Cond.and given_1 narrow_1).before args0 about1 = true := by decide +kernel
theorem w_applies : (headSpec (Jvm.Cond.code x code maxLocals ret :: tables_1) room_1).applies x e0.platform about1 = true :=
  (Spec.applies_iff w_frames).mpr ⟨w_running, w_runnable, w_alone, w_named, w_hears, w_ripe, w_room, w_tables⟩
theorem atStart : AtStart classFile x code maxLocals ret World_1 tables_1 room_1 Calls_1 rest_1 Pre_1 launch0 p0 e0 about1 theMethod args0 below0 :=
  ⟨lists_1, trivial, launch0.admits_env _ _ _, launch0.least_env, fairChoices_fair.cas, fairChoices_fair.clock, w_frames, w_args, w_heap, w_applies, trivial, trivial, w_case⟩
end start1
theorem witness_1 : WitnessClaimed_1 := ⟨start1.p0, start1.e0, start1.about1, start1.theMethod, start1.args0, start1.below0, start1.atStart⟩
end Jvm.Pilot.@@N@@
