import JvmDerived
import JvmDerived.Pilot.@@N@@Statement
import JvmDerived.Pilot.@@N@@Code
set_option linter.unusedVariables false
set_option linter.unusedSimpArgs false
namespace Jvm.Pilot.@@N@@
open Jvm Jvm.ClassFile Sem Op Lib Jvm.Free Jvm.Stand Jvm.LawKit Jvm.RoadKit Bundle Jvm.Pilot.@@N@@.Jvm.D
def OwnFin (tb : Tables) (e : Env) (below : List Frame) (G : Outcome → State → Prop) (t : State) : Prop := ∃ s₂ o, Steps tb e below t s₂ ∧ s₂.status = .running ∧ Ended s₂ below o ∧ G o s₂
theorem OwnFin.st {tb : Tables} {e : Env} {below : List Frame} {G : Outcome → State → Prop} {t t' : State} (k : ∀ target, Steps tb e below t' target → Steps tb e below t target) (h : OwnFin tb e below G t') : OwnFin tb e below G t := by
  obtain ⟨s2, o, h1, h2⟩ := h
  exact ⟨s2, o, k _ h1, h2⟩
theorem OwnFin.tr {tb : Tables} {e : Env} {below : List Frame} {G : Outcome → State → Prop} {t t' : State} (k : Steps tb e below t t') (h : OwnFin tb e below G t') : OwnFin tb e below G t := by
  obtain ⟨s2, o, h1, h2⟩ := h
  exact ⟨s2, o, k.trans h1, h2⟩
theorem own_eqv {args : Array Value} {first s : State} {o : Option Outcome} {idx : List Nat} {t : Term} {n : Int32} {x : Value} (h : (Jvm.Cond.eq t (Term.int n)).value args first o s idx = some true) (e : t.eval args first o idx s = some x) : x = .int n := by
  cases x <;> simp_all [Cond.value, Term.eval]
theorem d1_0 : decode prog_14_method_4_code 0 = .ok (.getstatic 7, 3) := by decide +kernel
theorem d1_3 : decode prog_14_method_4_code 3 = .ok (.aload_n 0, 1) := by decide +kernel
theorem d1_4 : decode prog_14_method_4_code 4 = .ok (.if_acmp .eq 17, 3) := by decide +kernel
theorem d1_21 : decode prog_14_method_4_code 21 = .ok (.iconst 1, 1) := by decide +kernel
theorem d1_22 : decode prog_14_method_4_code 22 = .ok (.goto 4, 3) := by decide +kernel
theorem d1_26 : decode prog_14_method_4_code 26 = .ok (.ireturn, 1) := by decide +kernel
theorem pn_0 : plainName "com/example/nepean/nepean/mapping/BasicType$Domain" = true := by first | (simp [plainName, overriddenIn]; done) | decide +kernel
theorem ef_rm1_t (m : MethodId) (a1 : Addr) : entryFrame m #[(.ref a1)] 1 = mkF m 0 #[.val (.ref a1)] [] := by first | (simp [entryFrame, mkF, argsToLocals, Value.category]; done) | rfl
def Q_rm1_t (Z : State) (a1 : Addr) (w_INTEGRAL : Addr) (h0 : Heap) (n0 : Nat) (v : Option Value) (h : Heap) (L : List Loc) : Prop := v = some (.int (1 : Int32)) ∧ Fr n0 L ∧ h = h0
set_option maxRecDepth 65536 in
set_option maxHeartbeats 40000000 in
theorem rm1_t (l : Launch) (Z : State) (av0 : Array Value) (hw : ∀ d ∈ tables_1, d.before av0 Z = true) (ws : List Jvm.Cond) (a1 : Addr) (w_INTEGRAL : Addr) (h0 : Heap) (n0 : Nat) (Z0 : n0 ≤ h0.size) (Ol0 : Old Z n0 h0) (S_INTEGRAL : Sta Z Z.heap "com/example/nepean/nepean/mapping/BasicType$Domain" "INTEGRAL" "Lcom/example/nepean/nepean/mapping/BasicType$Domain;" (.ref w_INTEGRAL)) (hc0 : w_INTEGRAL = a1) :
    MetFree l (⟨"com/example/nepean/nepean/mapping/BasicType$Domain", "isNumeric", "()Z"⟩ : MethodName) (head1 (Jvm.Cond.code (⟨"com/example/nepean/nepean/mapping/BasicType$Domain", "isNumeric", "()Z"⟩ : MethodName) prog_14_method_4_code 1 (some .boolean) :: ws) ({ frames := 0, cells := 0, slots := 0, locals := 0 } : Room)) (fun a U => a = #[(.ref a1)] ∧ Z.Warmed39 U.vm ∧ U.heap = h0) (fun _ _ _ _ _ => True) (fun _ U o U' => ∃ v L, o = .returned v ∧ Q_rm1_t Z a1 w_INTEGRAL h0 n0 v U'.heap L ∧ FrameEnd U o U' L ({ frames := 0, cells := 0, slots := 0, locals := 0 } : Room).cells ({ frames := 0, cells := 0, slots := 0, locals := 0 } : Room).slots) := by
  refine MetFree.of_bodySF (plainFor_of_name pn_0) hisR ?_
  intro p e s m args below meth c s₁ Bd hml0 hP hK
  obtain ⟨rfl, hZ, hh⟩ := hP
  have hx := Bd.exec
  have hby := Bd.bytes
  have hml : c.maxLocals = 1 := hml0
  have hown : s.vm.findClass "com/example/nepean/nepean/mapping/BasicType$Domain" = some m.cls := findClass_of_methodNamed Bd.named
  have hnm := (name_of_methodNamed Bd.named Bd.method).1
  have X0 : Stand p l e ({ frames := 0, cells := 0, slots := 0, locals := 0 } : Room) s m #[(.ref a1)] below meth c s₁ [] 0 0 := Stand.of_body Bd
  have e0 : s₁.heap = h0 := by rw [← hh, Bd.state]; rfl
  have N0 := Fr.nil n0
  have pre0 : ∀ t, Steps p.tables e below (s₁.setTop (mkF m 0 #[.val (.ref a1)] [])) t → Steps p.tables e below (s₁.setTop (entryFrame m #[(.ref a1)] 1)) t := fun t k => castTop (ef_rm1_t m a1) k
  change OwnFin p.tables e below _ (s₁.setTop (entryFrame m #[(.ref a1)] 1))
  have kp0 : Keep h0 h0 [] := Keep.refl _ _
  refine OwnFin.st (fun _ q => pre0 _ q) ?_
  show OwnFin _ _ _ _ (s₁.setTop (mkF m 0 #[.val (.ref a1)] []))
  obtain ⟨T1, X1, e1, st1⟩ := getS2 X0 hx hZ hown (host := "") (Or.inl (hw _ (List.mem_of_getElem? (i := 9) rfl))) Via.refl e0 (S_INTEGRAL.ext Ol0.2) (g := (mkF m 0 #[.val (.ref a1)] [])) rfl (hb hby d1_0)
  refine OwnFin.st st1 ?_
  show OwnFin _ _ _ _ (T1.setTop (mkF m 3 #[.val (.ref a1)] [(.ref w_INTEGRAL)]))
  refine OwnFin.st (fun _ q => XS.aloadN X1.here hx rfl (hb hby d1_3) rfl rfl q) ?_
  show OwnFin _ _ _ _ (T1.setTop (mkF m 4 #[.val (.ref a1)] [(.ref a1), (.ref w_INTEGRAL)]))
  refine OwnFin.st (fun _ q => Jvm.RoadKit.acmp (g := (mkF m 4 #[.val (.ref a1)] [(.ref a1), (.ref w_INTEGRAL)])) X1 hx rfl rfl rfl (pc0 := 4) (pc' := 21) (same := true) rfl (hb hby d1_4) rfl (decide_eq_true (congrArg Value.ref hc0)) (by decide) (by decide) q) ?_
  show OwnFin _ _ _ _ (T1.setTop (mkF m 21 #[.val (.ref a1)] []))
  refine OwnFin.st (fun _ q => XS.iconst X1.here hx rfl (hb hby d1_21) q) ?_
  show OwnFin _ _ _ _ (T1.setTop (mkF m 22 #[.val (.ref a1)] [(.int (1 : Int32))]))
  refine OwnFin.st (fun _ q => XS.goto X1.here hx rfl (pc0 := 22) (pc' := 26) rfl (hb hby d1_22) (by decide) (by decide) q) ?_
  show OwnFin _ _ _ _ (T1.setTop (mkF m 26 #[.val (.ref a1)] [(.int (1 : Int32))]))
  obtain ⟨fs, hr, hrun, hended, hW, hsame⟩ := X1.leave (v := some (.int (1 : Int32))) (fun h => by rw [Bd.returns] at h; cases h)
  refine ⟨_, _, retN X1 hx (t := .boolean) Bd.returns (by simp) (hb hby d1_26) hr, hrun, hended, _, _, rfl, ?_, ⟨_, rfl⟩, hW, hsame.mono (by decide) (by decide)⟩
  show Q_rm1_t Z a1 w_INTEGRAL h0 n0 _ T1.heap _
  rw [e1]
  exact ⟨rfl, N0, rfl⟩
theorem d1_7 : decode prog_14_method_4_code 7 = .ok (.getstatic 10, 3) := by decide +kernel
theorem d1_10 : decode prog_14_method_4_code 10 = .ok (.aload_n 0, 1) := by decide +kernel
theorem d1_11 : decode prog_14_method_4_code 11 = .ok (.if_acmp .eq 10, 3) := by decide +kernel
theorem ef_rm1_ft (m : MethodId) (a1 : Addr) : entryFrame m #[(.ref a1)] 1 = mkF m 0 #[.val (.ref a1)] [] := by first | (simp [entryFrame, mkF, argsToLocals, Value.category]; done) | rfl
def Q_rm1_ft (Z : State) (a1 : Addr) (w_INTEGRAL : Addr) (w_FLOATING_POINT : Addr) (h0 : Heap) (n0 : Nat) (v : Option Value) (h : Heap) (L : List Loc) : Prop := v = some (.int (1 : Int32)) ∧ Fr n0 L ∧ h = h0
set_option maxRecDepth 65536 in
set_option maxHeartbeats 40000000 in
theorem rm1_ft (l : Launch) (Z : State) (av0 : Array Value) (hw : ∀ d ∈ tables_1, d.before av0 Z = true) (ws : List Jvm.Cond) (a1 : Addr) (w_INTEGRAL : Addr) (w_FLOATING_POINT : Addr) (h0 : Heap) (n0 : Nat) (Z0 : n0 ≤ h0.size) (Ol0 : Old Z n0 h0) (S_INTEGRAL : Sta Z Z.heap "com/example/nepean/nepean/mapping/BasicType$Domain" "INTEGRAL" "Lcom/example/nepean/nepean/mapping/BasicType$Domain;" (.ref w_INTEGRAL)) (hc0 : ¬ (w_INTEGRAL = a1)) (S_FLOATING_POINT : Sta Z Z.heap "com/example/nepean/nepean/mapping/BasicType$Domain" "FLOATING_POINT" "Lcom/example/nepean/nepean/mapping/BasicType$Domain;" (.ref w_FLOATING_POINT)) (hc1 : w_FLOATING_POINT = a1) :
    MetFree l (⟨"com/example/nepean/nepean/mapping/BasicType$Domain", "isNumeric", "()Z"⟩ : MethodName) (head1 (Jvm.Cond.code (⟨"com/example/nepean/nepean/mapping/BasicType$Domain", "isNumeric", "()Z"⟩ : MethodName) prog_14_method_4_code 1 (some .boolean) :: ws) ({ frames := 0, cells := 0, slots := 0, locals := 0 } : Room)) (fun a U => a = #[(.ref a1)] ∧ Z.Warmed39 U.vm ∧ U.heap = h0) (fun _ _ _ _ _ => True) (fun _ U o U' => ∃ v L, o = .returned v ∧ Q_rm1_ft Z a1 w_INTEGRAL w_FLOATING_POINT h0 n0 v U'.heap L ∧ FrameEnd U o U' L ({ frames := 0, cells := 0, slots := 0, locals := 0 } : Room).cells ({ frames := 0, cells := 0, slots := 0, locals := 0 } : Room).slots) := by
  refine MetFree.of_bodySF (plainFor_of_name pn_0) hisR ?_
  intro p e s m args below meth c s₁ Bd hml0 hP hK
  obtain ⟨rfl, hZ, hh⟩ := hP
  have hx := Bd.exec
  have hby := Bd.bytes
  have hml : c.maxLocals = 1 := hml0
  have hown : s.vm.findClass "com/example/nepean/nepean/mapping/BasicType$Domain" = some m.cls := findClass_of_methodNamed Bd.named
  have hnm := (name_of_methodNamed Bd.named Bd.method).1
  have X0 : Stand p l e ({ frames := 0, cells := 0, slots := 0, locals := 0 } : Room) s m #[(.ref a1)] below meth c s₁ [] 0 0 := Stand.of_body Bd
  have e0 : s₁.heap = h0 := by rw [← hh, Bd.state]; rfl
  have N0 := Fr.nil n0
  have pre0 : ∀ t, Steps p.tables e below (s₁.setTop (mkF m 0 #[.val (.ref a1)] [])) t → Steps p.tables e below (s₁.setTop (entryFrame m #[(.ref a1)] 1)) t := fun t k => castTop (ef_rm1_ft m a1) k
  change OwnFin p.tables e below _ (s₁.setTop (entryFrame m #[(.ref a1)] 1))
  have kp0 : Keep h0 h0 [] := Keep.refl _ _
  refine OwnFin.st (fun _ q => pre0 _ q) ?_
  show OwnFin _ _ _ _ (s₁.setTop (mkF m 0 #[.val (.ref a1)] []))
  obtain ⟨T1, X1, e1, st1⟩ := getS2 X0 hx hZ hown (host := "") (Or.inl (hw _ (List.mem_of_getElem? (i := 9) rfl))) Via.refl e0 (S_INTEGRAL.ext Ol0.2) (g := (mkF m 0 #[.val (.ref a1)] [])) rfl (hb hby d1_0)
  refine OwnFin.st st1 ?_
  show OwnFin _ _ _ _ (T1.setTop (mkF m 3 #[.val (.ref a1)] [(.ref w_INTEGRAL)]))
  refine OwnFin.st (fun _ q => XS.aloadN X1.here hx rfl (hb hby d1_3) rfl rfl q) ?_
  show OwnFin _ _ _ _ (T1.setTop (mkF m 4 #[.val (.ref a1)] [(.ref a1), (.ref w_INTEGRAL)]))
  refine OwnFin.st (fun _ q => Jvm.RoadKit.acmp (g := (mkF m 4 #[.val (.ref a1)] [(.ref a1), (.ref w_INTEGRAL)])) X1 hx rfl rfl rfl (pc0 := 4) (pc' := 7) (same := false) rfl (hb hby d1_4) rfl (decide_eq_false fun q => hc0 (Value.ref.inj q)) (by decide) (by decide) q) ?_
  show OwnFin _ _ _ _ (T1.setTop (mkF m 7 #[.val (.ref a1)] []))
  obtain ⟨T2, X2, e2, st2⟩ := getS2 X1 hx hZ hown (host := "") (Or.inl (hw _ (List.mem_of_getElem? (i := 11) rfl))) Via.refl e1 (S_FLOATING_POINT.ext Ol0.2) (g := (mkF m 7 #[.val (.ref a1)] [])) rfl (hb hby d1_7)
  refine OwnFin.st st2 ?_
  show OwnFin _ _ _ _ (T2.setTop (mkF m 10 #[.val (.ref a1)] [(.ref w_FLOATING_POINT)]))
  refine OwnFin.st (fun _ q => XS.aloadN X2.here hx rfl (hb hby d1_10) rfl rfl q) ?_
  show OwnFin _ _ _ _ (T2.setTop (mkF m 11 #[.val (.ref a1)] [(.ref a1), (.ref w_FLOATING_POINT)]))
  refine OwnFin.st (fun _ q => Jvm.RoadKit.acmp (g := (mkF m 11 #[.val (.ref a1)] [(.ref a1), (.ref w_FLOATING_POINT)])) X2 hx rfl rfl rfl (pc0 := 11) (pc' := 21) (same := true) rfl (hb hby d1_11) rfl (decide_eq_true (congrArg Value.ref hc1)) (by decide) (by decide) q) ?_
  show OwnFin _ _ _ _ (T2.setTop (mkF m 21 #[.val (.ref a1)] []))
  refine OwnFin.st (fun _ q => XS.iconst X2.here hx rfl (hb hby d1_21) q) ?_
  show OwnFin _ _ _ _ (T2.setTop (mkF m 22 #[.val (.ref a1)] [(.int (1 : Int32))]))
  refine OwnFin.st (fun _ q => XS.goto X2.here hx rfl (pc0 := 22) (pc' := 26) rfl (hb hby d1_22) (by decide) (by decide) q) ?_
  show OwnFin _ _ _ _ (T2.setTop (mkF m 26 #[.val (.ref a1)] [(.int (1 : Int32))]))
  obtain ⟨fs, hr, hrun, hended, hW, hsame⟩ := X2.leave (v := some (.int (1 : Int32))) (fun h => by rw [Bd.returns] at h; cases h)
  refine ⟨_, _, retN X2 hx (t := .boolean) Bd.returns (by simp) (hb hby d1_26) hr, hrun, hended, _, _, rfl, ?_, ⟨_, rfl⟩, hW, hsame.mono (by decide) (by decide)⟩
  show Q_rm1_ft Z a1 w_INTEGRAL w_FLOATING_POINT h0 n0 _ T2.heap _
  rw [e2]
  exact ⟨rfl, N0, rfl⟩
theorem d1_14 : decode prog_14_method_4_code 14 = .ok (.getstatic 13, 3) := by decide +kernel
theorem d1_17 : decode prog_14_method_4_code 17 = .ok (.aload_n 0, 1) := by decide +kernel
theorem d1_18 : decode prog_14_method_4_code 18 = .ok (.if_acmp .ne 7, 3) := by decide +kernel
theorem ef_rm1_fft (m : MethodId) (a1 : Addr) : entryFrame m #[(.ref a1)] 1 = mkF m 0 #[.val (.ref a1)] [] := by first | (simp [entryFrame, mkF, argsToLocals, Value.category]; done) | rfl
def Q_rm1_fft (Z : State) (a1 : Addr) (w_INTEGRAL : Addr) (w_FLOATING_POINT : Addr) (w_DECIMAL : Addr) (h0 : Heap) (n0 : Nat) (v : Option Value) (h : Heap) (L : List Loc) : Prop := v = some (.int (1 : Int32)) ∧ Fr n0 L ∧ h = h0
set_option maxRecDepth 65536 in
set_option maxHeartbeats 40000000 in
theorem rm1_fft (l : Launch) (Z : State) (av0 : Array Value) (hw : ∀ d ∈ tables_1, d.before av0 Z = true) (ws : List Jvm.Cond) (a1 : Addr) (w_INTEGRAL : Addr) (w_FLOATING_POINT : Addr) (w_DECIMAL : Addr) (h0 : Heap) (n0 : Nat) (Z0 : n0 ≤ h0.size) (Ol0 : Old Z n0 h0) (S_INTEGRAL : Sta Z Z.heap "com/example/nepean/nepean/mapping/BasicType$Domain" "INTEGRAL" "Lcom/example/nepean/nepean/mapping/BasicType$Domain;" (.ref w_INTEGRAL)) (hc0 : ¬ (w_INTEGRAL = a1)) (S_FLOATING_POINT : Sta Z Z.heap "com/example/nepean/nepean/mapping/BasicType$Domain" "FLOATING_POINT" "Lcom/example/nepean/nepean/mapping/BasicType$Domain;" (.ref w_FLOATING_POINT)) (hc1 : ¬ (w_FLOATING_POINT = a1)) (S_DECIMAL : Sta Z Z.heap "com/example/nepean/nepean/mapping/BasicType$Domain" "DECIMAL" "Lcom/example/nepean/nepean/mapping/BasicType$Domain;" (.ref w_DECIMAL)) (hc2 : w_DECIMAL = a1) :
    MetFree l (⟨"com/example/nepean/nepean/mapping/BasicType$Domain", "isNumeric", "()Z"⟩ : MethodName) (head1 (Jvm.Cond.code (⟨"com/example/nepean/nepean/mapping/BasicType$Domain", "isNumeric", "()Z"⟩ : MethodName) prog_14_method_4_code 1 (some .boolean) :: ws) ({ frames := 0, cells := 0, slots := 0, locals := 0 } : Room)) (fun a U => a = #[(.ref a1)] ∧ Z.Warmed39 U.vm ∧ U.heap = h0) (fun _ _ _ _ _ => True) (fun _ U o U' => ∃ v L, o = .returned v ∧ Q_rm1_fft Z a1 w_INTEGRAL w_FLOATING_POINT w_DECIMAL h0 n0 v U'.heap L ∧ FrameEnd U o U' L ({ frames := 0, cells := 0, slots := 0, locals := 0 } : Room).cells ({ frames := 0, cells := 0, slots := 0, locals := 0 } : Room).slots) := by
  refine MetFree.of_bodySF (plainFor_of_name pn_0) hisR ?_
  intro p e s m args below meth c s₁ Bd hml0 hP hK
  obtain ⟨rfl, hZ, hh⟩ := hP
  have hx := Bd.exec
  have hby := Bd.bytes
  have hml : c.maxLocals = 1 := hml0
  have hown : s.vm.findClass "com/example/nepean/nepean/mapping/BasicType$Domain" = some m.cls := findClass_of_methodNamed Bd.named
  have hnm := (name_of_methodNamed Bd.named Bd.method).1
  have X0 : Stand p l e ({ frames := 0, cells := 0, slots := 0, locals := 0 } : Room) s m #[(.ref a1)] below meth c s₁ [] 0 0 := Stand.of_body Bd
  have e0 : s₁.heap = h0 := by rw [← hh, Bd.state]; rfl
  have N0 := Fr.nil n0
  have pre0 : ∀ t, Steps p.tables e below (s₁.setTop (mkF m 0 #[.val (.ref a1)] [])) t → Steps p.tables e below (s₁.setTop (entryFrame m #[(.ref a1)] 1)) t := fun t k => castTop (ef_rm1_fft m a1) k
  change OwnFin p.tables e below _ (s₁.setTop (entryFrame m #[(.ref a1)] 1))
  have kp0 : Keep h0 h0 [] := Keep.refl _ _
  refine OwnFin.st (fun _ q => pre0 _ q) ?_
  show OwnFin _ _ _ _ (s₁.setTop (mkF m 0 #[.val (.ref a1)] []))
  obtain ⟨T1, X1, e1, st1⟩ := getS2 X0 hx hZ hown (host := "") (Or.inl (hw _ (List.mem_of_getElem? (i := 9) rfl))) Via.refl e0 (S_INTEGRAL.ext Ol0.2) (g := (mkF m 0 #[.val (.ref a1)] [])) rfl (hb hby d1_0)
  refine OwnFin.st st1 ?_
  show OwnFin _ _ _ _ (T1.setTop (mkF m 3 #[.val (.ref a1)] [(.ref w_INTEGRAL)]))
  refine OwnFin.st (fun _ q => XS.aloadN X1.here hx rfl (hb hby d1_3) rfl rfl q) ?_
  show OwnFin _ _ _ _ (T1.setTop (mkF m 4 #[.val (.ref a1)] [(.ref a1), (.ref w_INTEGRAL)]))
  refine OwnFin.st (fun _ q => Jvm.RoadKit.acmp (g := (mkF m 4 #[.val (.ref a1)] [(.ref a1), (.ref w_INTEGRAL)])) X1 hx rfl rfl rfl (pc0 := 4) (pc' := 7) (same := false) rfl (hb hby d1_4) rfl (decide_eq_false fun q => hc0 (Value.ref.inj q)) (by decide) (by decide) q) ?_
  show OwnFin _ _ _ _ (T1.setTop (mkF m 7 #[.val (.ref a1)] []))
  obtain ⟨T2, X2, e2, st2⟩ := getS2 X1 hx hZ hown (host := "") (Or.inl (hw _ (List.mem_of_getElem? (i := 11) rfl))) Via.refl e1 (S_FLOATING_POINT.ext Ol0.2) (g := (mkF m 7 #[.val (.ref a1)] [])) rfl (hb hby d1_7)
  refine OwnFin.st st2 ?_
  show OwnFin _ _ _ _ (T2.setTop (mkF m 10 #[.val (.ref a1)] [(.ref w_FLOATING_POINT)]))
  refine OwnFin.st (fun _ q => XS.aloadN X2.here hx rfl (hb hby d1_10) rfl rfl q) ?_
  show OwnFin _ _ _ _ (T2.setTop (mkF m 11 #[.val (.ref a1)] [(.ref a1), (.ref w_FLOATING_POINT)]))
  refine OwnFin.st (fun _ q => Jvm.RoadKit.acmp (g := (mkF m 11 #[.val (.ref a1)] [(.ref a1), (.ref w_FLOATING_POINT)])) X2 hx rfl rfl rfl (pc0 := 11) (pc' := 14) (same := false) rfl (hb hby d1_11) rfl (decide_eq_false fun q => hc1 (Value.ref.inj q)) (by decide) (by decide) q) ?_
  show OwnFin _ _ _ _ (T2.setTop (mkF m 14 #[.val (.ref a1)] []))
  obtain ⟨T3, X3, e3, st3⟩ := getS2 X2 hx hZ hown (host := "") (Or.inl (hw _ (List.mem_of_getElem? (i := 13) rfl))) Via.refl e2 (S_DECIMAL.ext Ol0.2) (g := (mkF m 14 #[.val (.ref a1)] [])) rfl (hb hby d1_14)
  refine OwnFin.st st3 ?_
  show OwnFin _ _ _ _ (T3.setTop (mkF m 17 #[.val (.ref a1)] [(.ref w_DECIMAL)]))
  refine OwnFin.st (fun _ q => XS.aloadN X3.here hx rfl (hb hby d1_17) rfl rfl q) ?_
  show OwnFin _ _ _ _ (T3.setTop (mkF m 18 #[.val (.ref a1)] [(.ref a1), (.ref w_DECIMAL)]))
  refine OwnFin.st (fun _ q => Jvm.RoadKit.acmp (g := (mkF m 18 #[.val (.ref a1)] [(.ref a1), (.ref w_DECIMAL)])) X3 hx rfl rfl rfl (pc0 := 18) (pc' := 21) (same := true) rfl (hb hby d1_18) rfl (decide_eq_true (congrArg Value.ref hc2)) (by decide) (by decide) q) ?_
  show OwnFin _ _ _ _ (T3.setTop (mkF m 21 #[.val (.ref a1)] []))
  refine OwnFin.st (fun _ q => XS.iconst X3.here hx rfl (hb hby d1_21) q) ?_
  show OwnFin _ _ _ _ (T3.setTop (mkF m 22 #[.val (.ref a1)] [(.int (1 : Int32))]))
  refine OwnFin.st (fun _ q => XS.goto X3.here hx rfl (pc0 := 22) (pc' := 26) rfl (hb hby d1_22) (by decide) (by decide) q) ?_
  show OwnFin _ _ _ _ (T3.setTop (mkF m 26 #[.val (.ref a1)] [(.int (1 : Int32))]))
  obtain ⟨fs, hr, hrun, hended, hW, hsame⟩ := X3.leave (v := some (.int (1 : Int32))) (fun h => by rw [Bd.returns] at h; cases h)
  refine ⟨_, _, retN X3 hx (t := .boolean) Bd.returns (by simp) (hb hby d1_26) hr, hrun, hended, _, _, rfl, ?_, ⟨_, rfl⟩, hW, hsame.mono (by decide) (by decide)⟩
  show Q_rm1_fft Z a1 w_INTEGRAL w_FLOATING_POINT w_DECIMAL h0 n0 _ T3.heap _
  rw [e3]
  exact ⟨rfl, N0, rfl⟩
theorem d1_25 : decode prog_14_method_4_code 25 = .ok (.iconst 0, 1) := by decide +kernel
theorem ef_rm1_fff (m : MethodId) (a1 : Addr) : entryFrame m #[(.ref a1)] 1 = mkF m 0 #[.val (.ref a1)] [] := by first | (simp [entryFrame, mkF, argsToLocals, Value.category]; done) | rfl
def Q_rm1_fff (Z : State) (a1 : Addr) (w_INTEGRAL : Addr) (w_FLOATING_POINT : Addr) (w_DECIMAL : Addr) (h0 : Heap) (n0 : Nat) (v : Option Value) (h : Heap) (L : List Loc) : Prop := v = some (.int (0 : Int32)) ∧ Fr n0 L ∧ h = h0
set_option maxRecDepth 65536 in
set_option maxHeartbeats 40000000 in
theorem rm1_fff (l : Launch) (Z : State) (av0 : Array Value) (hw : ∀ d ∈ tables_1, d.before av0 Z = true) (ws : List Jvm.Cond) (a1 : Addr) (w_INTEGRAL : Addr) (w_FLOATING_POINT : Addr) (w_DECIMAL : Addr) (h0 : Heap) (n0 : Nat) (Z0 : n0 ≤ h0.size) (Ol0 : Old Z n0 h0) (S_INTEGRAL : Sta Z Z.heap "com/example/nepean/nepean/mapping/BasicType$Domain" "INTEGRAL" "Lcom/example/nepean/nepean/mapping/BasicType$Domain;" (.ref w_INTEGRAL)) (hc0 : ¬ (w_INTEGRAL = a1)) (S_FLOATING_POINT : Sta Z Z.heap "com/example/nepean/nepean/mapping/BasicType$Domain" "FLOATING_POINT" "Lcom/example/nepean/nepean/mapping/BasicType$Domain;" (.ref w_FLOATING_POINT)) (hc1 : ¬ (w_FLOATING_POINT = a1)) (S_DECIMAL : Sta Z Z.heap "com/example/nepean/nepean/mapping/BasicType$Domain" "DECIMAL" "Lcom/example/nepean/nepean/mapping/BasicType$Domain;" (.ref w_DECIMAL)) (hc2 : ¬ (w_DECIMAL = a1)) :
    MetFree l (⟨"com/example/nepean/nepean/mapping/BasicType$Domain", "isNumeric", "()Z"⟩ : MethodName) (head1 (Jvm.Cond.code (⟨"com/example/nepean/nepean/mapping/BasicType$Domain", "isNumeric", "()Z"⟩ : MethodName) prog_14_method_4_code 1 (some .boolean) :: ws) ({ frames := 0, cells := 0, slots := 0, locals := 0 } : Room)) (fun a U => a = #[(.ref a1)] ∧ Z.Warmed39 U.vm ∧ U.heap = h0) (fun _ _ _ _ _ => True) (fun _ U o U' => ∃ v L, o = .returned v ∧ Q_rm1_fff Z a1 w_INTEGRAL w_FLOATING_POINT w_DECIMAL h0 n0 v U'.heap L ∧ FrameEnd U o U' L ({ frames := 0, cells := 0, slots := 0, locals := 0 } : Room).cells ({ frames := 0, cells := 0, slots := 0, locals := 0 } : Room).slots) := by
  refine MetFree.of_bodySF (plainFor_of_name pn_0) hisR ?_
  intro p e s m args below meth c s₁ Bd hml0 hP hK
  obtain ⟨rfl, hZ, hh⟩ := hP
  have hx := Bd.exec
  have hby := Bd.bytes
  have hml : c.maxLocals = 1 := hml0
  have hown : s.vm.findClass "com/example/nepean/nepean/mapping/BasicType$Domain" = some m.cls := findClass_of_methodNamed Bd.named
  have hnm := (name_of_methodNamed Bd.named Bd.method).1
  have X0 : Stand p l e ({ frames := 0, cells := 0, slots := 0, locals := 0 } : Room) s m #[(.ref a1)] below meth c s₁ [] 0 0 := Stand.of_body Bd
  have e0 : s₁.heap = h0 := by rw [← hh, Bd.state]; rfl
  have N0 := Fr.nil n0
  have pre0 : ∀ t, Steps p.tables e below (s₁.setTop (mkF m 0 #[.val (.ref a1)] [])) t → Steps p.tables e below (s₁.setTop (entryFrame m #[(.ref a1)] 1)) t := fun t k => castTop (ef_rm1_fff m a1) k
  change OwnFin p.tables e below _ (s₁.setTop (entryFrame m #[(.ref a1)] 1))
  have kp0 : Keep h0 h0 [] := Keep.refl _ _
  refine OwnFin.st (fun _ q => pre0 _ q) ?_
  show OwnFin _ _ _ _ (s₁.setTop (mkF m 0 #[.val (.ref a1)] []))
  obtain ⟨T1, X1, e1, st1⟩ := getS2 X0 hx hZ hown (host := "") (Or.inl (hw _ (List.mem_of_getElem? (i := 9) rfl))) Via.refl e0 (S_INTEGRAL.ext Ol0.2) (g := (mkF m 0 #[.val (.ref a1)] [])) rfl (hb hby d1_0)
  refine OwnFin.st st1 ?_
  show OwnFin _ _ _ _ (T1.setTop (mkF m 3 #[.val (.ref a1)] [(.ref w_INTEGRAL)]))
  refine OwnFin.st (fun _ q => XS.aloadN X1.here hx rfl (hb hby d1_3) rfl rfl q) ?_
  show OwnFin _ _ _ _ (T1.setTop (mkF m 4 #[.val (.ref a1)] [(.ref a1), (.ref w_INTEGRAL)]))
  refine OwnFin.st (fun _ q => Jvm.RoadKit.acmp (g := (mkF m 4 #[.val (.ref a1)] [(.ref a1), (.ref w_INTEGRAL)])) X1 hx rfl rfl rfl (pc0 := 4) (pc' := 7) (same := false) rfl (hb hby d1_4) rfl (decide_eq_false fun q => hc0 (Value.ref.inj q)) (by decide) (by decide) q) ?_
  show OwnFin _ _ _ _ (T1.setTop (mkF m 7 #[.val (.ref a1)] []))
  obtain ⟨T2, X2, e2, st2⟩ := getS2 X1 hx hZ hown (host := "") (Or.inl (hw _ (List.mem_of_getElem? (i := 11) rfl))) Via.refl e1 (S_FLOATING_POINT.ext Ol0.2) (g := (mkF m 7 #[.val (.ref a1)] [])) rfl (hb hby d1_7)
  refine OwnFin.st st2 ?_
  show OwnFin _ _ _ _ (T2.setTop (mkF m 10 #[.val (.ref a1)] [(.ref w_FLOATING_POINT)]))
  refine OwnFin.st (fun _ q => XS.aloadN X2.here hx rfl (hb hby d1_10) rfl rfl q) ?_
  show OwnFin _ _ _ _ (T2.setTop (mkF m 11 #[.val (.ref a1)] [(.ref a1), (.ref w_FLOATING_POINT)]))
  refine OwnFin.st (fun _ q => Jvm.RoadKit.acmp (g := (mkF m 11 #[.val (.ref a1)] [(.ref a1), (.ref w_FLOATING_POINT)])) X2 hx rfl rfl rfl (pc0 := 11) (pc' := 14) (same := false) rfl (hb hby d1_11) rfl (decide_eq_false fun q => hc1 (Value.ref.inj q)) (by decide) (by decide) q) ?_
  show OwnFin _ _ _ _ (T2.setTop (mkF m 14 #[.val (.ref a1)] []))
  obtain ⟨T3, X3, e3, st3⟩ := getS2 X2 hx hZ hown (host := "") (Or.inl (hw _ (List.mem_of_getElem? (i := 13) rfl))) Via.refl e2 (S_DECIMAL.ext Ol0.2) (g := (mkF m 14 #[.val (.ref a1)] [])) rfl (hb hby d1_14)
  refine OwnFin.st st3 ?_
  show OwnFin _ _ _ _ (T3.setTop (mkF m 17 #[.val (.ref a1)] [(.ref w_DECIMAL)]))
  refine OwnFin.st (fun _ q => XS.aloadN X3.here hx rfl (hb hby d1_17) rfl rfl q) ?_
  show OwnFin _ _ _ _ (T3.setTop (mkF m 18 #[.val (.ref a1)] [(.ref a1), (.ref w_DECIMAL)]))
  refine OwnFin.st (fun _ q => Jvm.RoadKit.acmp (g := (mkF m 18 #[.val (.ref a1)] [(.ref a1), (.ref w_DECIMAL)])) X3 hx rfl rfl rfl (pc0 := 18) (pc' := 25) (same := false) rfl (hb hby d1_18) rfl (decide_eq_false fun q => hc2 (Value.ref.inj q)) (by decide) (by decide) q) ?_
  show OwnFin _ _ _ _ (T3.setTop (mkF m 25 #[.val (.ref a1)] []))
  refine OwnFin.st (fun _ q => XS.iconst X3.here hx rfl (hb hby d1_25) q) ?_
  show OwnFin _ _ _ _ (T3.setTop (mkF m 26 #[.val (.ref a1)] [(.int (0 : Int32))]))
  obtain ⟨fs, hr, hrun, hended, hW, hsame⟩ := X3.leave (v := some (.int (0 : Int32))) (fun h => by rw [Bd.returns] at h; cases h)
  refine ⟨_, _, retN X3 hx (t := .boolean) Bd.returns (by simp) (hb hby d1_26) hr, hrun, hended, _, _, rfl, ?_, ⟨_, rfl⟩, hW, hsame.mono (by decide) (by decide)⟩
  show Q_rm1_fff Z a1 w_INTEGRAL w_FLOATING_POINT w_DECIMAL h0 n0 _ T3.heap _
  rw [e3]
  exact ⟨rfl, N0, rfl⟩
theorem pd_0 : parseMethodDescriptor "()Z" = some ⟨[], some .boolean⟩ := by decide +kernel
theorem pn_1 : plainName "com/example/nepean/nepean/mapping/DomainIsNumericPinLaw" = true := by first | (simp [plainName, overriddenIn]; done) | decide +kernel
theorem ef_rm0 (m : MethodId) (p0 : Int32) : entryFrame m #[(.int p0)] maxLocals = mkF m 0 #[.val (.int p0), .unset, .unset, .unset] [] := by first | (simp [entryFrame, mkF, argsToLocals, Value.category, maxLocals]; done) | rfl
def Q_rm0 (Z : State) (p0 : Int32) (w_STRING : Addr) (w_INTEGRAL : Addr) (w_FLOATING_POINT : Addr) (w_DECIMAL : Addr) (w_BOOLEAN : Addr) (w_TEMPORAL : Addr) (w_UUID : Addr) (h0 : Heap) (n0 : Nat) (v : Option Value) (h : Heap) (L : List Loc) : Prop := v = some (.int 1) ∧ Fr n0 L
set_option maxRecDepth 65536 in
set_option maxHeartbeats 40000000 in
theorem rm0 (l : Launch) (Z : State) (av0 : Array Value) (hw : ∀ d ∈ tables_1, d.before av0 Z = true) (ws : List Jvm.Cond) (p0 : Int32) (w_STRING : Addr) (w_INTEGRAL : Addr) (w_FLOATING_POINT : Addr) (w_DECIMAL : Addr) (w_BOOLEAN : Addr) (w_TEMPORAL : Addr) (w_UUID : Addr) (h0 : Heap) (n0 : Nat) (Z0 : n0 ≤ h0.size) (Ol0 : Old Z n0 h0) (S_STRING : Sta Z Z.heap "com/example/nepean/nepean/mapping/BasicType$Domain" "STRING" "Lcom/example/nepean/nepean/mapping/BasicType$Domain;" (.ref w_STRING)) (X_w_STRING : Exa Z Z.heap w_STRING "com/example/nepean/nepean/mapping/BasicType$Domain") (S_INTEGRAL : Sta Z Z.heap "com/example/nepean/nepean/mapping/BasicType$Domain" "INTEGRAL" "Lcom/example/nepean/nepean/mapping/BasicType$Domain;" (.ref w_INTEGRAL)) (F_ordinal_w_INTEGRAL : Fld Z Z.heap w_INTEGRAL "java/lang/Enum" "ordinal" "I" (.int (1 : Int32))) (F_ordinal_w_STRING : Fld Z Z.heap w_STRING "java/lang/Enum" "ordinal" "I" (.int (0 : Int32))) (S_FLOATING_POINT : Sta Z Z.heap "com/example/nepean/nepean/mapping/BasicType$Domain" "FLOATING_POINT" "Lcom/example/nepean/nepean/mapping/BasicType$Domain;" (.ref w_FLOATING_POINT)) (F_ordinal_w_FLOATING_POINT : Fld Z Z.heap w_FLOATING_POINT "java/lang/Enum" "ordinal" "I" (.int (2 : Int32))) (S_DECIMAL : Sta Z Z.heap "com/example/nepean/nepean/mapping/BasicType$Domain" "DECIMAL" "Lcom/example/nepean/nepean/mapping/BasicType$Domain;" (.ref w_DECIMAL)) (F_ordinal_w_DECIMAL : Fld Z Z.heap w_DECIMAL "java/lang/Enum" "ordinal" "I" (.int (3 : Int32))) (X_w_INTEGRAL : Exa Z Z.heap w_INTEGRAL "com/example/nepean/nepean/mapping/BasicType$Domain") (X_w_FLOATING_POINT : Exa Z Z.heap w_FLOATING_POINT "com/example/nepean/nepean/mapping/BasicType$Domain") (X_w_DECIMAL : Exa Z Z.heap w_DECIMAL "com/example/nepean/nepean/mapping/BasicType$Domain") (S_BOOLEAN : Sta Z Z.heap "com/example/nepean/nepean/mapping/BasicType$Domain" "BOOLEAN" "Lcom/example/nepean/nepean/mapping/BasicType$Domain;" (.ref w_BOOLEAN)) (X_w_BOOLEAN : Exa Z Z.heap w_BOOLEAN "com/example/nepean/nepean/mapping/BasicType$Domain") (F_ordinal_w_BOOLEAN : Fld Z Z.heap w_BOOLEAN "java/lang/Enum" "ordinal" "I" (.int (4 : Int32))) (S_TEMPORAL : Sta Z Z.heap "com/example/nepean/nepean/mapping/BasicType$Domain" "TEMPORAL" "Lcom/example/nepean/nepean/mapping/BasicType$Domain;" (.ref w_TEMPORAL)) (X_w_TEMPORAL : Exa Z Z.heap w_TEMPORAL "com/example/nepean/nepean/mapping/BasicType$Domain") (F_ordinal_w_TEMPORAL : Fld Z Z.heap w_TEMPORAL "java/lang/Enum" "ordinal" "I" (.int (5 : Int32))) (S_UUID : Sta Z Z.heap "com/example/nepean/nepean/mapping/BasicType$Domain" "UUID" "Lcom/example/nepean/nepean/mapping/BasicType$Domain;" (.ref w_UUID)) (X_w_UUID : Exa Z Z.heap w_UUID "com/example/nepean/nepean/mapping/BasicType$Domain") (F_ordinal_w_UUID : Fld Z Z.heap w_UUID "java/lang/Enum" "ordinal" "I" (.int (6 : Int32))) :
    MetFree l x (head1 (Jvm.Cond.code x code maxLocals ret :: ws) room_1) (fun a U => a = #[(.int p0)] ∧ Z.Warmed39 U.vm ∧ U.heap = h0) (fun _ _ _ _ _ => True) (fun _ U o U' => ∃ v L, o = .returned v ∧ Q_rm0 Z p0 w_STRING w_INTEGRAL w_FLOATING_POINT w_DECIMAL w_BOOLEAN w_TEMPORAL w_UUID h0 n0 v U'.heap L ∧ FrameEnd U o U' L room_1.cells room_1.slots) := by
  refine MetFree.of_bodySF (plainFor_of_name pn_1) hisR ?_
  intro p e s m args below meth c s₁ Bd hml0 hP hK
  obtain ⟨rfl, hZ, hh⟩ := hP
  have hx := Bd.exec
  have hby := Bd.bytes
  have hml : c.maxLocals = 4 := hml0
  have hown : s.vm.findClass "com/example/nepean/nepean/mapping/DomainIsNumericPinLaw" = some m.cls := findClass_of_methodNamed Bd.named
  have hnm := (name_of_methodNamed Bd.named Bd.method).1
  have X0 : Stand p l e room_1 s m #[(.int p0)] below meth c s₁ [] 0 0 := Stand.of_body Bd
  have e0 : s₁.heap = h0 := by rw [← hh, Bd.state]; rfl
  have N0 := Fr.nil n0
  have pre0 : ∀ t, Steps p.tables e below (s₁.setTop (mkF m 0 #[.val (.int p0), .unset, .unset, .unset] [])) t → Steps p.tables e below (s₁.setTop (entryFrame m #[(.int p0)] maxLocals)) t := fun t k => castTop (ef_rm0 m p0) k
  change OwnFin p.tables e below _ (s₁.setTop (entryFrame m #[(.int p0)] maxLocals))
  have kp0 : Keep h0 h0 [] := Keep.refl _ _
  refine OwnFin.st (fun _ q => pre0 _ q) ?_
  show OwnFin _ _ _ _ (s₁.setTop (mkF m 0 #[.val (.int p0), .unset, .unset, .unset] []))
  refine OwnFin.st (fun _ q => XS.iloadN X0.here hx rfl (hb hby at_0) rfl q) ?_
  show OwnFin _ _ _ _ (s₁.setTop (mkF m 1 #[.val (.int p0), .unset, .unset, .unset] [(.int p0)]))
  refine OwnFin.st (X0.ldcInt hx hown (mvT hZ (hw _ (List.mem_of_getElem? (i := 0) rfl))) (g := (mkF m 1 #[.val (.int p0), .unset, .unset, .unset] [(.int p0)])) rfl (hb hby at_1)) ?_
  show OwnFin _ _ _ _ (s₁.setTop (mkF m 3 #[.val (.int p0), .unset, .unset, .unset] [(.int (2147483647 : Int32)), (.int p0)]))
  refine OwnFin.st (fun _ q => XS.iand X0.here hx rfl (hb hby at_3) rfl q) ?_
  show OwnFin _ _ _ _ (s₁.setTop (mkF m 4 #[.val (.int p0), .unset, .unset, .unset] [(.int (p0 &&& (2147483647 : Int32)))]))
  refine OwnFin.st (fun _ q => XS.bipush X0.here hx rfl (hb hby at_4) q) ?_
  show OwnFin _ _ _ _ (s₁.setTop (mkF m 6 #[.val (.int p0), .unset, .unset, .unset] [(.int (7 : Int32)), (.int (p0 &&& (2147483647 : Int32)))]))
  refine OwnFin.st (fun _ q => Jvm.RoadKit.iremM X0 hx rfl (hb hby at_6) rfl (by decide) q) ?_
  show OwnFin _ _ _ _ (s₁.setTop (mkF m 7 #[.val (.int p0), .unset, .unset, .unset] [(.int ((p0 &&& (2147483647 : Int32)) % (7 : Int32)))]))
  refine OwnFin.st (fun _ q => XS.istoreN X0.here hx rfl (hb hby at_7) rfl (l' := #[.val (.int p0), .val (.int ((p0 &&& (2147483647 : Int32)) % (7 : Int32))), .unset, .unset]) rfl q) ?_
  show OwnFin _ _ _ _ (s₁.setTop (mkF m 8 #[.val (.int p0), .val (.int ((p0 &&& (2147483647 : Int32)) % (7 : Int32))), .unset, .unset] []))
  refine OwnFin.st (fun _ q => XS.iloadN X0.here hx rfl (hb hby at_8) rfl q) ?_
  show OwnFin _ _ _ _ (s₁.setTop (mkF m 9 #[.val (.int p0), .val (.int ((p0 &&& (2147483647 : Int32)) % (7 : Int32))), .unset, .unset] [(.int ((p0 &&& (2147483647 : Int32)) % (7 : Int32)))]))
  by_cases hc1 : ((p0 &&& (2147483647 : Int32)) % (7 : Int32)) = (0 : Int32)
  · skip
    refine OwnFin.st (fun _ q => XS.ifNo X0.here hx rfl (hb hby at_9) rfl (Jvm.Free.XT.i0_ne_f hc1) q) ?_
    show OwnFin _ _ _ _ (s₁.setTop (mkF m 12 #[.val (.int p0), .val (.int ((p0 &&& (2147483647 : Int32)) % (7 : Int32))), .unset, .unset] []))
    obtain ⟨T2, X2, e2, st2⟩ := getS2 X0 hx hZ hown (host := "") (Or.inl (hw _ (List.mem_of_getElem? (i := 1) rfl))) Via.refl e0 (S_STRING.ext Ol0.2) (g := (mkF m 12 #[.val (.int p0), .val (.int ((p0 &&& (2147483647 : Int32)) % (7 : Int32))), .unset, .unset] [])) rfl (hb hby at_12)
    refine OwnFin.st st2 ?_
    show OwnFin _ _ _ _ (T2.setTop (mkF m 15 #[.val (.int p0), .val (.int ((p0 &&& (2147483647 : Int32)) % (7 : Int32))), .unset, .unset] [(.ref w_STRING)]))
    refine OwnFin.st (fun _ q => XS.astoreN X2.here hx rfl (hb hby at_15) rfl rfl (l' := #[.val (.int p0), .val (.int ((p0 &&& (2147483647 : Int32)) % (7 : Int32))), .val (.ref w_STRING), .unset]) rfl q) ?_
    show OwnFin _ _ _ _ (T2.setTop (mkF m 16 #[.val (.int p0), .val (.int ((p0 &&& (2147483647 : Int32)) % (7 : Int32))), .val (.ref w_STRING), .unset] []))
    refine OwnFin.st (fun _ q => XS.iconst X2.here hx rfl (hb hby at_16) q) ?_
    show OwnFin _ _ _ _ (T2.setTop (mkF m 17 #[.val (.int p0), .val (.int ((p0 &&& (2147483647 : Int32)) % (7 : Int32))), .val (.ref w_STRING), .unset] [(.int (0 : Int32))]))
    refine OwnFin.st (fun _ q => XS.istoreN X2.here hx rfl (hb hby at_17) rfl (l' := #[.val (.int p0), .val (.int ((p0 &&& (2147483647 : Int32)) % (7 : Int32))), .val (.ref w_STRING), .val (.int (0 : Int32))]) rfl q) ?_
    show OwnFin _ _ _ _ (T2.setTop (mkF m 18 #[.val (.int p0), .val (.int ((p0 &&& (2147483647 : Int32)) % (7 : Int32))), .val (.ref w_STRING), .val (.int (0 : Int32))] []))
    refine OwnFin.st (fun _ q => XS.goto X2.here hx rfl (pc0 := 18) (pc' := 97) rfl (hb hby at_18) (by decide) (by decide) q) ?_
    show OwnFin _ _ _ _ (T2.setTop (mkF m 97 #[.val (.int p0), .val (.int ((p0 &&& (2147483647 : Int32)) % (7 : Int32))), .val (.ref w_STRING), .val (.int (0 : Int32))] []))
    refine OwnFin.st (fun _ q => XS.aloadN X2.here hx rfl (hb hby at_97) rfl rfl q) ?_
    show OwnFin _ _ _ _ (T2.setTop (mkF m 98 #[.val (.int p0), .val (.int ((p0 &&& (2147483647 : Int32)) % (7 : Int32))), .val (.ref w_STRING), .val (.int (0 : Int32))] [(.ref w_STRING)]))
    obtain ⟨cq3, kq3, q3a, q3b, q3c⟩ := isOf hZ e2 (X_w_STRING.ext Ol0.2)
    obtain ⟨_, _, ⟨T3, L3, k3, n3⟩, -, X3, ⟨Lc3, hQ3, l3, y3, z3⟩, st3⟩ := X2.virtualBack hx (y := (⟨"com/example/nepean/nepean/mapping/BasicType$Domain", "isNumeric", "()Z"⟩ : MethodName)) (z := (⟨"com/example/nepean/nepean/mapping/BasicType$Domain", "isNumeric", "()Z"⟩ : MethodName)) hown (mvT hZ (hw _ (List.mem_of_getElem? (i := 4) rfl))) (mvT hZ (hw _ (List.mem_of_getElem? (i := 5) rfl))) (notFace_of_selects (args := #[]) (mvT hZ (hw _ (List.mem_of_getElem? (i := 7) rfl)))) (mvT hZ (hw _ (List.mem_of_getElem? (i := 7) rfl))) (mvT hZ (hw _ (List.mem_of_getElem? (i := 6) rfl))) (by decide) (backOf (W := 0) (rm1_fff l Z av0 hw [] w_STRING w_INTEGRAL w_FLOATING_POINT w_DECIMAL h0 n0 (Nat.le_trans Z0 kp0.1) Ol0 S_INTEGRAL (Fld.ne F_ordinal_w_INTEGRAL F_ordinal_w_STRING (by decide)) S_FLOATING_POINT (Fld.ne F_ordinal_w_FLOATING_POINT F_ordinal_w_STRING (by decide)) S_DECIMAL (Fld.ne F_ordinal_w_DECIMAL F_ordinal_w_STRING (by decide))) hZ (hw _ (List.mem_of_getElem? (i := 8) rfl)) (hw _ (List.mem_of_getElem? (i := 2) rfl)) (by decide) (by decide)) q3a q3c (g := (mkF m 98 #[.val (.int p0), .val (.int ((p0 &&& (2147483647 : Int32)) % (7 : Int32))), .val (.ref w_STRING), .val (.int (0 : Int32))] [(.ref w_STRING)])) rfl (by rw [hml]; rfl) (Steps.refl _) (argsL := []) (rest := []) (lenOf pd_0 rfl) rfl (by show 2 * 0 + _ ≤ _; exact Nat.le_of_eq rfl) (hb hby at_98) (fun _ _ => ⟨rfl, e2, (by decide : 0 + 0 ≤ _), (by decide : 0 + 0 ≤ _)⟩)
    dsimp only [Pt.U, Pt.locs, Pt.cells, Pt.slots] at X3 l3 y3 z3 st3 hQ3
    subst l3 y3 z3
    obtain ⟨rfl, N3q, he3⟩ := hQ3
    have N3 := Fr.app N0 N3q
    refine OwnFin.tr st3 ?_
    show OwnFin _ _ _ _ (T3.setTop (mkF m 101 #[.val (.int p0), .val (.int ((p0 &&& (2147483647 : Int32)) % (7 : Int32))), .val (.ref w_STRING), .val (.int (0 : Int32))] [(.int (0 : Int32))]))
    refine OwnFin.st (fun _ q => XS.iloadN X3.here hx rfl (hb hby at_101) rfl q) ?_
    show OwnFin _ _ _ _ (T3.setTop (mkF m 102 #[.val (.int p0), .val (.int ((p0 &&& (2147483647 : Int32)) % (7 : Int32))), .val (.ref w_STRING), .val (.int (0 : Int32))] [(.int (0 : Int32)), (.int (0 : Int32))]))
    refine OwnFin.st (fun _ q => XS.icmpNo X3.here hx rfl (hb hby at_102) rfl (Jvm.Free.XT.ii_ne_f (rfl : (0 : Int32) = (0 : Int32))) q) ?_
    show OwnFin _ _ _ _ (T3.setTop (mkF m 105 #[.val (.int p0), .val (.int ((p0 &&& (2147483647 : Int32)) % (7 : Int32))), .val (.ref w_STRING), .val (.int (0 : Int32))] []))
    refine OwnFin.st (fun _ q => XS.iconst X3.here hx rfl (hb hby at_105) q) ?_
    show OwnFin _ _ _ _ (T3.setTop (mkF m 106 #[.val (.int p0), .val (.int ((p0 &&& (2147483647 : Int32)) % (7 : Int32))), .val (.ref w_STRING), .val (.int (0 : Int32))] [(.int (1 : Int32))]))
    refine OwnFin.st (fun _ q => XS.goto X3.here hx rfl (pc0 := 106) (pc' := 110) rfl (hb hby at_106) (by decide) (by decide) q) ?_
    show OwnFin _ _ _ _ (T3.setTop (mkF m 110 #[.val (.int p0), .val (.int ((p0 &&& (2147483647 : Int32)) % (7 : Int32))), .val (.ref w_STRING), .val (.int (0 : Int32))] [(.int (1 : Int32))]))
    obtain ⟨fs, hr, hrun, hended, hW, hsame⟩ := X3.leave (v := some (.int (1 : Int32))) (fun h => by rw [Bd.returns] at h; cases h)
    refine ⟨_, _, retN X3 hx (t := .boolean) Bd.returns (by simp) (hb hby at_110) hr, hrun, hended, _, _, rfl, ?_, ⟨_, rfl⟩, hW, hsame.mono (by decide) (by decide)⟩
    show Q_rm0 Z p0 w_STRING w_INTEGRAL w_FLOATING_POINT w_DECIMAL w_BOOLEAN w_TEMPORAL w_UUID h0 n0 _ T3.heap _
    rw [he3]
    exact ⟨rfl, N3⟩
  · skip
    refine OwnFin.st (fun _ q => XS.ifYes X0.here hx rfl (pc0 := 9) (pc' := 21) rfl (hb hby at_9) rfl (Jvm.Free.XT.i0_ne_t hc1) (by decide) (by decide) q) ?_
    show OwnFin _ _ _ _ (s₁.setTop (mkF m 21 #[.val (.int p0), .val (.int ((p0 &&& (2147483647 : Int32)) % (7 : Int32))), .unset, .unset] []))
    refine OwnFin.st (fun _ q => XS.iloadN X0.here hx rfl (hb hby at_21) rfl q) ?_
    show OwnFin _ _ _ _ (s₁.setTop (mkF m 22 #[.val (.int p0), .val (.int ((p0 &&& (2147483647 : Int32)) % (7 : Int32))), .unset, .unset] [(.int ((p0 &&& (2147483647 : Int32)) % (7 : Int32)))]))
    refine OwnFin.st (fun _ q => XS.iconst X0.here hx rfl (hb hby at_22) q) ?_
    show OwnFin _ _ _ _ (s₁.setTop (mkF m 23 #[.val (.int p0), .val (.int ((p0 &&& (2147483647 : Int32)) % (7 : Int32))), .unset, .unset] [(.int (1 : Int32)), (.int ((p0 &&& (2147483647 : Int32)) % (7 : Int32)))]))
    by_cases hc4 : ((p0 &&& (2147483647 : Int32)) % (7 : Int32)) = (1 : Int32)
    · skip
      refine OwnFin.st (fun _ q => XS.icmpNo X0.here hx rfl (hb hby at_23) rfl (Jvm.Free.XT.ii_ne_f hc4) q) ?_
      show OwnFin _ _ _ _ (s₁.setTop (mkF m 26 #[.val (.int p0), .val (.int ((p0 &&& (2147483647 : Int32)) % (7 : Int32))), .unset, .unset] []))
      obtain ⟨T5, X5, e5, st5⟩ := getS2 X0 hx hZ hown (host := "") (Or.inl (hw _ (List.mem_of_getElem? (i := 23) rfl))) Via.refl e0 (S_INTEGRAL.ext Ol0.2) (g := (mkF m 26 #[.val (.int p0), .val (.int ((p0 &&& (2147483647 : Int32)) % (7 : Int32))), .unset, .unset] [])) rfl (hb hby at_26)
      refine OwnFin.st st5 ?_
      show OwnFin _ _ _ _ (T5.setTop (mkF m 29 #[.val (.int p0), .val (.int ((p0 &&& (2147483647 : Int32)) % (7 : Int32))), .unset, .unset] [(.ref w_INTEGRAL)]))
      refine OwnFin.st (fun _ q => XS.astoreN X5.here hx rfl (hb hby at_29) rfl rfl (l' := #[.val (.int p0), .val (.int ((p0 &&& (2147483647 : Int32)) % (7 : Int32))), .val (.ref w_INTEGRAL), .unset]) rfl q) ?_
      show OwnFin _ _ _ _ (T5.setTop (mkF m 30 #[.val (.int p0), .val (.int ((p0 &&& (2147483647 : Int32)) % (7 : Int32))), .val (.ref w_INTEGRAL), .unset] []))
      refine OwnFin.st (fun _ q => XS.iconst X5.here hx rfl (hb hby at_30) q) ?_
      show OwnFin _ _ _ _ (T5.setTop (mkF m 31 #[.val (.int p0), .val (.int ((p0 &&& (2147483647 : Int32)) % (7 : Int32))), .val (.ref w_INTEGRAL), .unset] [(.int (1 : Int32))]))
      refine OwnFin.st (fun _ q => XS.istoreN X5.here hx rfl (hb hby at_31) rfl (l' := #[.val (.int p0), .val (.int ((p0 &&& (2147483647 : Int32)) % (7 : Int32))), .val (.ref w_INTEGRAL), .val (.int (1 : Int32))]) rfl q) ?_
      show OwnFin _ _ _ _ (T5.setTop (mkF m 32 #[.val (.int p0), .val (.int ((p0 &&& (2147483647 : Int32)) % (7 : Int32))), .val (.ref w_INTEGRAL), .val (.int (1 : Int32))] []))
      refine OwnFin.st (fun _ q => XS.goto X5.here hx rfl (pc0 := 32) (pc' := 97) rfl (hb hby at_32) (by decide) (by decide) q) ?_
      show OwnFin _ _ _ _ (T5.setTop (mkF m 97 #[.val (.int p0), .val (.int ((p0 &&& (2147483647 : Int32)) % (7 : Int32))), .val (.ref w_INTEGRAL), .val (.int (1 : Int32))] []))
      refine OwnFin.st (fun _ q => XS.aloadN X5.here hx rfl (hb hby at_97) rfl rfl q) ?_
      show OwnFin _ _ _ _ (T5.setTop (mkF m 98 #[.val (.int p0), .val (.int ((p0 &&& (2147483647 : Int32)) % (7 : Int32))), .val (.ref w_INTEGRAL), .val (.int (1 : Int32))] [(.ref w_INTEGRAL)]))
      obtain ⟨cq6, kq6, q6a, q6b, q6c⟩ := isOf hZ e5 (X_w_INTEGRAL.ext Ol0.2)
      obtain ⟨_, _, ⟨T6, L6, k6, n6⟩, -, X6, ⟨Lc6, hQ6, l6, y6, z6⟩, st6⟩ := X5.virtualBack hx (y := (⟨"com/example/nepean/nepean/mapping/BasicType$Domain", "isNumeric", "()Z"⟩ : MethodName)) (z := (⟨"com/example/nepean/nepean/mapping/BasicType$Domain", "isNumeric", "()Z"⟩ : MethodName)) hown (mvT hZ (hw _ (List.mem_of_getElem? (i := 4) rfl))) (mvT hZ (hw _ (List.mem_of_getElem? (i := 5) rfl))) (notFace_of_selects (args := #[]) (mvT hZ (hw _ (List.mem_of_getElem? (i := 7) rfl)))) (mvT hZ (hw _ (List.mem_of_getElem? (i := 7) rfl))) (mvT hZ (hw _ (List.mem_of_getElem? (i := 6) rfl))) (by decide) (backOf (W := 0) (rm1_t l Z av0 hw [] w_INTEGRAL w_INTEGRAL h0 n0 (Nat.le_trans Z0 kp0.1) Ol0 S_INTEGRAL (rfl : w_INTEGRAL = w_INTEGRAL)) hZ (hw _ (List.mem_of_getElem? (i := 8) rfl)) (hw _ (List.mem_of_getElem? (i := 2) rfl)) (by decide) (by decide)) q6a q6c (g := (mkF m 98 #[.val (.int p0), .val (.int ((p0 &&& (2147483647 : Int32)) % (7 : Int32))), .val (.ref w_INTEGRAL), .val (.int (1 : Int32))] [(.ref w_INTEGRAL)])) rfl (by rw [hml]; rfl) (Steps.refl _) (argsL := []) (rest := []) (lenOf pd_0 rfl) rfl (by show 2 * 0 + _ ≤ _; exact Nat.le_of_eq rfl) (hb hby at_98) (fun _ _ => ⟨rfl, e5, (by decide : 0 + 0 ≤ _), (by decide : 0 + 0 ≤ _)⟩)
      dsimp only [Pt.U, Pt.locs, Pt.cells, Pt.slots] at X6 l6 y6 z6 st6 hQ6
      subst l6 y6 z6
      obtain ⟨rfl, N6q, he6⟩ := hQ6
      have N6 := Fr.app N0 N6q
      refine OwnFin.tr st6 ?_
      show OwnFin _ _ _ _ (T6.setTop (mkF m 101 #[.val (.int p0), .val (.int ((p0 &&& (2147483647 : Int32)) % (7 : Int32))), .val (.ref w_INTEGRAL), .val (.int (1 : Int32))] [(.int (1 : Int32))]))
      refine OwnFin.st (fun _ q => XS.iloadN X6.here hx rfl (hb hby at_101) rfl q) ?_
      show OwnFin _ _ _ _ (T6.setTop (mkF m 102 #[.val (.int p0), .val (.int ((p0 &&& (2147483647 : Int32)) % (7 : Int32))), .val (.ref w_INTEGRAL), .val (.int (1 : Int32))] [(.int (1 : Int32)), (.int (1 : Int32))]))
      refine OwnFin.st (fun _ q => XS.icmpNo X6.here hx rfl (hb hby at_102) rfl (Jvm.Free.XT.ii_ne_f (rfl : (1 : Int32) = (1 : Int32))) q) ?_
      show OwnFin _ _ _ _ (T6.setTop (mkF m 105 #[.val (.int p0), .val (.int ((p0 &&& (2147483647 : Int32)) % (7 : Int32))), .val (.ref w_INTEGRAL), .val (.int (1 : Int32))] []))
      refine OwnFin.st (fun _ q => XS.iconst X6.here hx rfl (hb hby at_105) q) ?_
      show OwnFin _ _ _ _ (T6.setTop (mkF m 106 #[.val (.int p0), .val (.int ((p0 &&& (2147483647 : Int32)) % (7 : Int32))), .val (.ref w_INTEGRAL), .val (.int (1 : Int32))] [(.int (1 : Int32))]))
      refine OwnFin.st (fun _ q => XS.goto X6.here hx rfl (pc0 := 106) (pc' := 110) rfl (hb hby at_106) (by decide) (by decide) q) ?_
      show OwnFin _ _ _ _ (T6.setTop (mkF m 110 #[.val (.int p0), .val (.int ((p0 &&& (2147483647 : Int32)) % (7 : Int32))), .val (.ref w_INTEGRAL), .val (.int (1 : Int32))] [(.int (1 : Int32))]))
      obtain ⟨fs, hr, hrun, hended, hW, hsame⟩ := X6.leave (v := some (.int (1 : Int32))) (fun h => by rw [Bd.returns] at h; cases h)
      refine ⟨_, _, retN X6 hx (t := .boolean) Bd.returns (by simp) (hb hby at_110) hr, hrun, hended, _, _, rfl, ?_, ⟨_, rfl⟩, hW, hsame.mono (by decide) (by decide)⟩
      show Q_rm0 Z p0 w_STRING w_INTEGRAL w_FLOATING_POINT w_DECIMAL w_BOOLEAN w_TEMPORAL w_UUID h0 n0 _ T6.heap _
      rw [he6]
      exact ⟨rfl, N6⟩
    · skip
      refine OwnFin.st (fun _ q => XS.icmpYes X0.here hx rfl (pc0 := 23) (pc' := 35) rfl (hb hby at_23) rfl (Jvm.Free.XT.ii_ne_t hc4) (by decide) (by decide) q) ?_
      show OwnFin _ _ _ _ (s₁.setTop (mkF m 35 #[.val (.int p0), .val (.int ((p0 &&& (2147483647 : Int32)) % (7 : Int32))), .unset, .unset] []))
      refine OwnFin.st (fun _ q => XS.iloadN X0.here hx rfl (hb hby at_35) rfl q) ?_
      show OwnFin _ _ _ _ (s₁.setTop (mkF m 36 #[.val (.int p0), .val (.int ((p0 &&& (2147483647 : Int32)) % (7 : Int32))), .unset, .unset] [(.int ((p0 &&& (2147483647 : Int32)) % (7 : Int32)))]))
      refine OwnFin.st (fun _ q => XS.iconst X0.here hx rfl (hb hby at_36) q) ?_
      show OwnFin _ _ _ _ (s₁.setTop (mkF m 37 #[.val (.int p0), .val (.int ((p0 &&& (2147483647 : Int32)) % (7 : Int32))), .unset, .unset] [(.int (2 : Int32)), (.int ((p0 &&& (2147483647 : Int32)) % (7 : Int32)))]))
      by_cases hc7 : ((p0 &&& (2147483647 : Int32)) % (7 : Int32)) = (2 : Int32)
      · skip
        refine OwnFin.st (fun _ q => XS.icmpNo X0.here hx rfl (hb hby at_37) rfl (Jvm.Free.XT.ii_ne_f hc7) q) ?_
        show OwnFin _ _ _ _ (s₁.setTop (mkF m 40 #[.val (.int p0), .val (.int ((p0 &&& (2147483647 : Int32)) % (7 : Int32))), .unset, .unset] []))
        obtain ⟨T8, X8, e8, st8⟩ := getS2 X0 hx hZ hown (host := "") (Or.inl (hw _ (List.mem_of_getElem? (i := 22) rfl))) Via.refl e0 (S_FLOATING_POINT.ext Ol0.2) (g := (mkF m 40 #[.val (.int p0), .val (.int ((p0 &&& (2147483647 : Int32)) % (7 : Int32))), .unset, .unset] [])) rfl (hb hby at_40)
        refine OwnFin.st st8 ?_
        show OwnFin _ _ _ _ (T8.setTop (mkF m 43 #[.val (.int p0), .val (.int ((p0 &&& (2147483647 : Int32)) % (7 : Int32))), .unset, .unset] [(.ref w_FLOATING_POINT)]))
        refine OwnFin.st (fun _ q => XS.astoreN X8.here hx rfl (hb hby at_43) rfl rfl (l' := #[.val (.int p0), .val (.int ((p0 &&& (2147483647 : Int32)) % (7 : Int32))), .val (.ref w_FLOATING_POINT), .unset]) rfl q) ?_
        show OwnFin _ _ _ _ (T8.setTop (mkF m 44 #[.val (.int p0), .val (.int ((p0 &&& (2147483647 : Int32)) % (7 : Int32))), .val (.ref w_FLOATING_POINT), .unset] []))
        refine OwnFin.st (fun _ q => XS.iconst X8.here hx rfl (hb hby at_44) q) ?_
        show OwnFin _ _ _ _ (T8.setTop (mkF m 45 #[.val (.int p0), .val (.int ((p0 &&& (2147483647 : Int32)) % (7 : Int32))), .val (.ref w_FLOATING_POINT), .unset] [(.int (1 : Int32))]))
        refine OwnFin.st (fun _ q => XS.istoreN X8.here hx rfl (hb hby at_45) rfl (l' := #[.val (.int p0), .val (.int ((p0 &&& (2147483647 : Int32)) % (7 : Int32))), .val (.ref w_FLOATING_POINT), .val (.int (1 : Int32))]) rfl q) ?_
        show OwnFin _ _ _ _ (T8.setTop (mkF m 46 #[.val (.int p0), .val (.int ((p0 &&& (2147483647 : Int32)) % (7 : Int32))), .val (.ref w_FLOATING_POINT), .val (.int (1 : Int32))] []))
        refine OwnFin.st (fun _ q => XS.goto X8.here hx rfl (pc0 := 46) (pc' := 97) rfl (hb hby at_46) (by decide) (by decide) q) ?_
        show OwnFin _ _ _ _ (T8.setTop (mkF m 97 #[.val (.int p0), .val (.int ((p0 &&& (2147483647 : Int32)) % (7 : Int32))), .val (.ref w_FLOATING_POINT), .val (.int (1 : Int32))] []))
        refine OwnFin.st (fun _ q => XS.aloadN X8.here hx rfl (hb hby at_97) rfl rfl q) ?_
        show OwnFin _ _ _ _ (T8.setTop (mkF m 98 #[.val (.int p0), .val (.int ((p0 &&& (2147483647 : Int32)) % (7 : Int32))), .val (.ref w_FLOATING_POINT), .val (.int (1 : Int32))] [(.ref w_FLOATING_POINT)]))
        obtain ⟨cq9, kq9, q9a, q9b, q9c⟩ := isOf hZ e8 (X_w_FLOATING_POINT.ext Ol0.2)
        obtain ⟨_, _, ⟨T9, L9, k9, n9⟩, -, X9, ⟨Lc9, hQ9, l9, y9, z9⟩, st9⟩ := X8.virtualBack hx (y := (⟨"com/example/nepean/nepean/mapping/BasicType$Domain", "isNumeric", "()Z"⟩ : MethodName)) (z := (⟨"com/example/nepean/nepean/mapping/BasicType$Domain", "isNumeric", "()Z"⟩ : MethodName)) hown (mvT hZ (hw _ (List.mem_of_getElem? (i := 4) rfl))) (mvT hZ (hw _ (List.mem_of_getElem? (i := 5) rfl))) (notFace_of_selects (args := #[]) (mvT hZ (hw _ (List.mem_of_getElem? (i := 7) rfl)))) (mvT hZ (hw _ (List.mem_of_getElem? (i := 7) rfl))) (mvT hZ (hw _ (List.mem_of_getElem? (i := 6) rfl))) (by decide) (backOf (W := 0) (rm1_ft l Z av0 hw [] w_FLOATING_POINT w_INTEGRAL w_FLOATING_POINT h0 n0 (Nat.le_trans Z0 kp0.1) Ol0 S_INTEGRAL (Fld.ne F_ordinal_w_INTEGRAL F_ordinal_w_FLOATING_POINT (by decide)) S_FLOATING_POINT (rfl : w_FLOATING_POINT = w_FLOATING_POINT)) hZ (hw _ (List.mem_of_getElem? (i := 8) rfl)) (hw _ (List.mem_of_getElem? (i := 2) rfl)) (by decide) (by decide)) q9a q9c (g := (mkF m 98 #[.val (.int p0), .val (.int ((p0 &&& (2147483647 : Int32)) % (7 : Int32))), .val (.ref w_FLOATING_POINT), .val (.int (1 : Int32))] [(.ref w_FLOATING_POINT)])) rfl (by rw [hml]; rfl) (Steps.refl _) (argsL := []) (rest := []) (lenOf pd_0 rfl) rfl (by show 2 * 0 + _ ≤ _; exact Nat.le_of_eq rfl) (hb hby at_98) (fun _ _ => ⟨rfl, e8, (by decide : 0 + 0 ≤ _), (by decide : 0 + 0 ≤ _)⟩)
        dsimp only [Pt.U, Pt.locs, Pt.cells, Pt.slots] at X9 l9 y9 z9 st9 hQ9
        subst l9 y9 z9
        obtain ⟨rfl, N9q, he9⟩ := hQ9
        have N9 := Fr.app N0 N9q
        refine OwnFin.tr st9 ?_
        show OwnFin _ _ _ _ (T9.setTop (mkF m 101 #[.val (.int p0), .val (.int ((p0 &&& (2147483647 : Int32)) % (7 : Int32))), .val (.ref w_FLOATING_POINT), .val (.int (1 : Int32))] [(.int (1 : Int32))]))
        refine OwnFin.st (fun _ q => XS.iloadN X9.here hx rfl (hb hby at_101) rfl q) ?_
        show OwnFin _ _ _ _ (T9.setTop (mkF m 102 #[.val (.int p0), .val (.int ((p0 &&& (2147483647 : Int32)) % (7 : Int32))), .val (.ref w_FLOATING_POINT), .val (.int (1 : Int32))] [(.int (1 : Int32)), (.int (1 : Int32))]))
        refine OwnFin.st (fun _ q => XS.icmpNo X9.here hx rfl (hb hby at_102) rfl (Jvm.Free.XT.ii_ne_f (rfl : (1 : Int32) = (1 : Int32))) q) ?_
        show OwnFin _ _ _ _ (T9.setTop (mkF m 105 #[.val (.int p0), .val (.int ((p0 &&& (2147483647 : Int32)) % (7 : Int32))), .val (.ref w_FLOATING_POINT), .val (.int (1 : Int32))] []))
        refine OwnFin.st (fun _ q => XS.iconst X9.here hx rfl (hb hby at_105) q) ?_
        show OwnFin _ _ _ _ (T9.setTop (mkF m 106 #[.val (.int p0), .val (.int ((p0 &&& (2147483647 : Int32)) % (7 : Int32))), .val (.ref w_FLOATING_POINT), .val (.int (1 : Int32))] [(.int (1 : Int32))]))
        refine OwnFin.st (fun _ q => XS.goto X9.here hx rfl (pc0 := 106) (pc' := 110) rfl (hb hby at_106) (by decide) (by decide) q) ?_
        show OwnFin _ _ _ _ (T9.setTop (mkF m 110 #[.val (.int p0), .val (.int ((p0 &&& (2147483647 : Int32)) % (7 : Int32))), .val (.ref w_FLOATING_POINT), .val (.int (1 : Int32))] [(.int (1 : Int32))]))
        obtain ⟨fs, hr, hrun, hended, hW, hsame⟩ := X9.leave (v := some (.int (1 : Int32))) (fun h => by rw [Bd.returns] at h; cases h)
        refine ⟨_, _, retN X9 hx (t := .boolean) Bd.returns (by simp) (hb hby at_110) hr, hrun, hended, _, _, rfl, ?_, ⟨_, rfl⟩, hW, hsame.mono (by decide) (by decide)⟩
        show Q_rm0 Z p0 w_STRING w_INTEGRAL w_FLOATING_POINT w_DECIMAL w_BOOLEAN w_TEMPORAL w_UUID h0 n0 _ T9.heap _
        rw [he9]
        exact ⟨rfl, N9⟩
      · skip
        refine OwnFin.st (fun _ q => XS.icmpYes X0.here hx rfl (pc0 := 37) (pc' := 49) rfl (hb hby at_37) rfl (Jvm.Free.XT.ii_ne_t hc7) (by decide) (by decide) q) ?_
        show OwnFin _ _ _ _ (s₁.setTop (mkF m 49 #[.val (.int p0), .val (.int ((p0 &&& (2147483647 : Int32)) % (7 : Int32))), .unset, .unset] []))
        refine OwnFin.st (fun _ q => XS.iloadN X0.here hx rfl (hb hby at_49) rfl q) ?_
        show OwnFin _ _ _ _ (s₁.setTop (mkF m 50 #[.val (.int p0), .val (.int ((p0 &&& (2147483647 : Int32)) % (7 : Int32))), .unset, .unset] [(.int ((p0 &&& (2147483647 : Int32)) % (7 : Int32)))]))
        refine OwnFin.st (fun _ q => XS.iconst X0.here hx rfl (hb hby at_50) q) ?_
        show OwnFin _ _ _ _ (s₁.setTop (mkF m 51 #[.val (.int p0), .val (.int ((p0 &&& (2147483647 : Int32)) % (7 : Int32))), .unset, .unset] [(.int (3 : Int32)), (.int ((p0 &&& (2147483647 : Int32)) % (7 : Int32)))]))
        by_cases hc10 : ((p0 &&& (2147483647 : Int32)) % (7 : Int32)) = (3 : Int32)
        · skip
          refine OwnFin.st (fun _ q => XS.icmpNo X0.here hx rfl (hb hby at_51) rfl (Jvm.Free.XT.ii_ne_f hc10) q) ?_
          show OwnFin _ _ _ _ (s₁.setTop (mkF m 54 #[.val (.int p0), .val (.int ((p0 &&& (2147483647 : Int32)) % (7 : Int32))), .unset, .unset] []))
          obtain ⟨T11, X11, e11, st11⟩ := getS2 X0 hx hZ hown (host := "") (Or.inl (hw _ (List.mem_of_getElem? (i := 15) rfl))) Via.refl e0 (S_DECIMAL.ext Ol0.2) (g := (mkF m 54 #[.val (.int p0), .val (.int ((p0 &&& (2147483647 : Int32)) % (7 : Int32))), .unset, .unset] [])) rfl (hb hby at_54)
          refine OwnFin.st st11 ?_
          show OwnFin _ _ _ _ (T11.setTop (mkF m 57 #[.val (.int p0), .val (.int ((p0 &&& (2147483647 : Int32)) % (7 : Int32))), .unset, .unset] [(.ref w_DECIMAL)]))
          refine OwnFin.st (fun _ q => XS.astoreN X11.here hx rfl (hb hby at_57) rfl rfl (l' := #[.val (.int p0), .val (.int ((p0 &&& (2147483647 : Int32)) % (7 : Int32))), .val (.ref w_DECIMAL), .unset]) rfl q) ?_
          show OwnFin _ _ _ _ (T11.setTop (mkF m 58 #[.val (.int p0), .val (.int ((p0 &&& (2147483647 : Int32)) % (7 : Int32))), .val (.ref w_DECIMAL), .unset] []))
          refine OwnFin.st (fun _ q => XS.iconst X11.here hx rfl (hb hby at_58) q) ?_
          show OwnFin _ _ _ _ (T11.setTop (mkF m 59 #[.val (.int p0), .val (.int ((p0 &&& (2147483647 : Int32)) % (7 : Int32))), .val (.ref w_DECIMAL), .unset] [(.int (1 : Int32))]))
          refine OwnFin.st (fun _ q => XS.istoreN X11.here hx rfl (hb hby at_59) rfl (l' := #[.val (.int p0), .val (.int ((p0 &&& (2147483647 : Int32)) % (7 : Int32))), .val (.ref w_DECIMAL), .val (.int (1 : Int32))]) rfl q) ?_
          show OwnFin _ _ _ _ (T11.setTop (mkF m 60 #[.val (.int p0), .val (.int ((p0 &&& (2147483647 : Int32)) % (7 : Int32))), .val (.ref w_DECIMAL), .val (.int (1 : Int32))] []))
          refine OwnFin.st (fun _ q => XS.goto X11.here hx rfl (pc0 := 60) (pc' := 97) rfl (hb hby at_60) (by decide) (by decide) q) ?_
          show OwnFin _ _ _ _ (T11.setTop (mkF m 97 #[.val (.int p0), .val (.int ((p0 &&& (2147483647 : Int32)) % (7 : Int32))), .val (.ref w_DECIMAL), .val (.int (1 : Int32))] []))
          refine OwnFin.st (fun _ q => XS.aloadN X11.here hx rfl (hb hby at_97) rfl rfl q) ?_
          show OwnFin _ _ _ _ (T11.setTop (mkF m 98 #[.val (.int p0), .val (.int ((p0 &&& (2147483647 : Int32)) % (7 : Int32))), .val (.ref w_DECIMAL), .val (.int (1 : Int32))] [(.ref w_DECIMAL)]))
          obtain ⟨cq12, kq12, q12a, q12b, q12c⟩ := isOf hZ e11 (X_w_DECIMAL.ext Ol0.2)
          obtain ⟨_, _, ⟨T12, L12, k12, n12⟩, -, X12, ⟨Lc12, hQ12, l12, y12, z12⟩, st12⟩ := X11.virtualBack hx (y := (⟨"com/example/nepean/nepean/mapping/BasicType$Domain", "isNumeric", "()Z"⟩ : MethodName)) (z := (⟨"com/example/nepean/nepean/mapping/BasicType$Domain", "isNumeric", "()Z"⟩ : MethodName)) hown (mvT hZ (hw _ (List.mem_of_getElem? (i := 4) rfl))) (mvT hZ (hw _ (List.mem_of_getElem? (i := 5) rfl))) (notFace_of_selects (args := #[]) (mvT hZ (hw _ (List.mem_of_getElem? (i := 7) rfl)))) (mvT hZ (hw _ (List.mem_of_getElem? (i := 7) rfl))) (mvT hZ (hw _ (List.mem_of_getElem? (i := 6) rfl))) (by decide) (backOf (W := 0) (rm1_fft l Z av0 hw [] w_DECIMAL w_INTEGRAL w_FLOATING_POINT w_DECIMAL h0 n0 (Nat.le_trans Z0 kp0.1) Ol0 S_INTEGRAL (Fld.ne F_ordinal_w_INTEGRAL F_ordinal_w_DECIMAL (by decide)) S_FLOATING_POINT (Fld.ne F_ordinal_w_FLOATING_POINT F_ordinal_w_DECIMAL (by decide)) S_DECIMAL (rfl : w_DECIMAL = w_DECIMAL)) hZ (hw _ (List.mem_of_getElem? (i := 8) rfl)) (hw _ (List.mem_of_getElem? (i := 2) rfl)) (by decide) (by decide)) q12a q12c (g := (mkF m 98 #[.val (.int p0), .val (.int ((p0 &&& (2147483647 : Int32)) % (7 : Int32))), .val (.ref w_DECIMAL), .val (.int (1 : Int32))] [(.ref w_DECIMAL)])) rfl (by rw [hml]; rfl) (Steps.refl _) (argsL := []) (rest := []) (lenOf pd_0 rfl) rfl (by show 2 * 0 + _ ≤ _; exact Nat.le_of_eq rfl) (hb hby at_98) (fun _ _ => ⟨rfl, e11, (by decide : 0 + 0 ≤ _), (by decide : 0 + 0 ≤ _)⟩)
          dsimp only [Pt.U, Pt.locs, Pt.cells, Pt.slots] at X12 l12 y12 z12 st12 hQ12
          subst l12 y12 z12
          obtain ⟨rfl, N12q, he12⟩ := hQ12
          have N12 := Fr.app N0 N12q
          refine OwnFin.tr st12 ?_
          show OwnFin _ _ _ _ (T12.setTop (mkF m 101 #[.val (.int p0), .val (.int ((p0 &&& (2147483647 : Int32)) % (7 : Int32))), .val (.ref w_DECIMAL), .val (.int (1 : Int32))] [(.int (1 : Int32))]))
          refine OwnFin.st (fun _ q => XS.iloadN X12.here hx rfl (hb hby at_101) rfl q) ?_
          show OwnFin _ _ _ _ (T12.setTop (mkF m 102 #[.val (.int p0), .val (.int ((p0 &&& (2147483647 : Int32)) % (7 : Int32))), .val (.ref w_DECIMAL), .val (.int (1 : Int32))] [(.int (1 : Int32)), (.int (1 : Int32))]))
          refine OwnFin.st (fun _ q => XS.icmpNo X12.here hx rfl (hb hby at_102) rfl (Jvm.Free.XT.ii_ne_f (rfl : (1 : Int32) = (1 : Int32))) q) ?_
          show OwnFin _ _ _ _ (T12.setTop (mkF m 105 #[.val (.int p0), .val (.int ((p0 &&& (2147483647 : Int32)) % (7 : Int32))), .val (.ref w_DECIMAL), .val (.int (1 : Int32))] []))
          refine OwnFin.st (fun _ q => XS.iconst X12.here hx rfl (hb hby at_105) q) ?_
          show OwnFin _ _ _ _ (T12.setTop (mkF m 106 #[.val (.int p0), .val (.int ((p0 &&& (2147483647 : Int32)) % (7 : Int32))), .val (.ref w_DECIMAL), .val (.int (1 : Int32))] [(.int (1 : Int32))]))
          refine OwnFin.st (fun _ q => XS.goto X12.here hx rfl (pc0 := 106) (pc' := 110) rfl (hb hby at_106) (by decide) (by decide) q) ?_
          show OwnFin _ _ _ _ (T12.setTop (mkF m 110 #[.val (.int p0), .val (.int ((p0 &&& (2147483647 : Int32)) % (7 : Int32))), .val (.ref w_DECIMAL), .val (.int (1 : Int32))] [(.int (1 : Int32))]))
          obtain ⟨fs, hr, hrun, hended, hW, hsame⟩ := X12.leave (v := some (.int (1 : Int32))) (fun h => by rw [Bd.returns] at h; cases h)
          refine ⟨_, _, retN X12 hx (t := .boolean) Bd.returns (by simp) (hb hby at_110) hr, hrun, hended, _, _, rfl, ?_, ⟨_, rfl⟩, hW, hsame.mono (by decide) (by decide)⟩
          show Q_rm0 Z p0 w_STRING w_INTEGRAL w_FLOATING_POINT w_DECIMAL w_BOOLEAN w_TEMPORAL w_UUID h0 n0 _ T12.heap _
          rw [he12]
          exact ⟨rfl, N12⟩
        · skip
          refine OwnFin.st (fun _ q => XS.icmpYes X0.here hx rfl (pc0 := 51) (pc' := 63) rfl (hb hby at_51) rfl (Jvm.Free.XT.ii_ne_t hc10) (by decide) (by decide) q) ?_
          show OwnFin _ _ _ _ (s₁.setTop (mkF m 63 #[.val (.int p0), .val (.int ((p0 &&& (2147483647 : Int32)) % (7 : Int32))), .unset, .unset] []))
          refine OwnFin.st (fun _ q => XS.iloadN X0.here hx rfl (hb hby at_63) rfl q) ?_
          show OwnFin _ _ _ _ (s₁.setTop (mkF m 64 #[.val (.int p0), .val (.int ((p0 &&& (2147483647 : Int32)) % (7 : Int32))), .unset, .unset] [(.int ((p0 &&& (2147483647 : Int32)) % (7 : Int32)))]))
          refine OwnFin.st (fun _ q => XS.iconst X0.here hx rfl (hb hby at_64) q) ?_
          show OwnFin _ _ _ _ (s₁.setTop (mkF m 65 #[.val (.int p0), .val (.int ((p0 &&& (2147483647 : Int32)) % (7 : Int32))), .unset, .unset] [(.int (4 : Int32)), (.int ((p0 &&& (2147483647 : Int32)) % (7 : Int32)))]))
          by_cases hc13 : ((p0 &&& (2147483647 : Int32)) % (7 : Int32)) = (4 : Int32)
          · skip
            refine OwnFin.st (fun _ q => XS.icmpNo X0.here hx rfl (hb hby at_65) rfl (Jvm.Free.XT.ii_ne_f hc13) q) ?_
            show OwnFin _ _ _ _ (s₁.setTop (mkF m 68 #[.val (.int p0), .val (.int ((p0 &&& (2147483647 : Int32)) % (7 : Int32))), .unset, .unset] []))
            obtain ⟨T14, X14, e14, st14⟩ := getS2 X0 hx hZ hown (host := "") (Or.inl (hw _ (List.mem_of_getElem? (i := 20) rfl))) Via.refl e0 (S_BOOLEAN.ext Ol0.2) (g := (mkF m 68 #[.val (.int p0), .val (.int ((p0 &&& (2147483647 : Int32)) % (7 : Int32))), .unset, .unset] [])) rfl (hb hby at_68)
            refine OwnFin.st st14 ?_
            show OwnFin _ _ _ _ (T14.setTop (mkF m 71 #[.val (.int p0), .val (.int ((p0 &&& (2147483647 : Int32)) % (7 : Int32))), .unset, .unset] [(.ref w_BOOLEAN)]))
            refine OwnFin.st (fun _ q => XS.astoreN X14.here hx rfl (hb hby at_71) rfl rfl (l' := #[.val (.int p0), .val (.int ((p0 &&& (2147483647 : Int32)) % (7 : Int32))), .val (.ref w_BOOLEAN), .unset]) rfl q) ?_
            show OwnFin _ _ _ _ (T14.setTop (mkF m 72 #[.val (.int p0), .val (.int ((p0 &&& (2147483647 : Int32)) % (7 : Int32))), .val (.ref w_BOOLEAN), .unset] []))
            refine OwnFin.st (fun _ q => XS.iconst X14.here hx rfl (hb hby at_72) q) ?_
            show OwnFin _ _ _ _ (T14.setTop (mkF m 73 #[.val (.int p0), .val (.int ((p0 &&& (2147483647 : Int32)) % (7 : Int32))), .val (.ref w_BOOLEAN), .unset] [(.int (0 : Int32))]))
            refine OwnFin.st (fun _ q => XS.istoreN X14.here hx rfl (hb hby at_73) rfl (l' := #[.val (.int p0), .val (.int ((p0 &&& (2147483647 : Int32)) % (7 : Int32))), .val (.ref w_BOOLEAN), .val (.int (0 : Int32))]) rfl q) ?_
            show OwnFin _ _ _ _ (T14.setTop (mkF m 74 #[.val (.int p0), .val (.int ((p0 &&& (2147483647 : Int32)) % (7 : Int32))), .val (.ref w_BOOLEAN), .val (.int (0 : Int32))] []))
            refine OwnFin.st (fun _ q => XS.goto X14.here hx rfl (pc0 := 74) (pc' := 97) rfl (hb hby at_74) (by decide) (by decide) q) ?_
            show OwnFin _ _ _ _ (T14.setTop (mkF m 97 #[.val (.int p0), .val (.int ((p0 &&& (2147483647 : Int32)) % (7 : Int32))), .val (.ref w_BOOLEAN), .val (.int (0 : Int32))] []))
            refine OwnFin.st (fun _ q => XS.aloadN X14.here hx rfl (hb hby at_97) rfl rfl q) ?_
            show OwnFin _ _ _ _ (T14.setTop (mkF m 98 #[.val (.int p0), .val (.int ((p0 &&& (2147483647 : Int32)) % (7 : Int32))), .val (.ref w_BOOLEAN), .val (.int (0 : Int32))] [(.ref w_BOOLEAN)]))
            obtain ⟨cq15, kq15, q15a, q15b, q15c⟩ := isOf hZ e14 (X_w_BOOLEAN.ext Ol0.2)
            obtain ⟨_, _, ⟨T15, L15, k15, n15⟩, -, X15, ⟨Lc15, hQ15, l15, y15, z15⟩, st15⟩ := X14.virtualBack hx (y := (⟨"com/example/nepean/nepean/mapping/BasicType$Domain", "isNumeric", "()Z"⟩ : MethodName)) (z := (⟨"com/example/nepean/nepean/mapping/BasicType$Domain", "isNumeric", "()Z"⟩ : MethodName)) hown (mvT hZ (hw _ (List.mem_of_getElem? (i := 4) rfl))) (mvT hZ (hw _ (List.mem_of_getElem? (i := 5) rfl))) (notFace_of_selects (args := #[]) (mvT hZ (hw _ (List.mem_of_getElem? (i := 7) rfl)))) (mvT hZ (hw _ (List.mem_of_getElem? (i := 7) rfl))) (mvT hZ (hw _ (List.mem_of_getElem? (i := 6) rfl))) (by decide) (backOf (W := 0) (rm1_fff l Z av0 hw [] w_BOOLEAN w_INTEGRAL w_FLOATING_POINT w_DECIMAL h0 n0 (Nat.le_trans Z0 kp0.1) Ol0 S_INTEGRAL (Fld.ne F_ordinal_w_INTEGRAL F_ordinal_w_BOOLEAN (by decide)) S_FLOATING_POINT (Fld.ne F_ordinal_w_FLOATING_POINT F_ordinal_w_BOOLEAN (by decide)) S_DECIMAL (Fld.ne F_ordinal_w_DECIMAL F_ordinal_w_BOOLEAN (by decide))) hZ (hw _ (List.mem_of_getElem? (i := 8) rfl)) (hw _ (List.mem_of_getElem? (i := 2) rfl)) (by decide) (by decide)) q15a q15c (g := (mkF m 98 #[.val (.int p0), .val (.int ((p0 &&& (2147483647 : Int32)) % (7 : Int32))), .val (.ref w_BOOLEAN), .val (.int (0 : Int32))] [(.ref w_BOOLEAN)])) rfl (by rw [hml]; rfl) (Steps.refl _) (argsL := []) (rest := []) (lenOf pd_0 rfl) rfl (by show 2 * 0 + _ ≤ _; exact Nat.le_of_eq rfl) (hb hby at_98) (fun _ _ => ⟨rfl, e14, (by decide : 0 + 0 ≤ _), (by decide : 0 + 0 ≤ _)⟩)
            dsimp only [Pt.U, Pt.locs, Pt.cells, Pt.slots] at X15 l15 y15 z15 st15 hQ15
            subst l15 y15 z15
            obtain ⟨rfl, N15q, he15⟩ := hQ15
            have N15 := Fr.app N0 N15q
            refine OwnFin.tr st15 ?_
            show OwnFin _ _ _ _ (T15.setTop (mkF m 101 #[.val (.int p0), .val (.int ((p0 &&& (2147483647 : Int32)) % (7 : Int32))), .val (.ref w_BOOLEAN), .val (.int (0 : Int32))] [(.int (0 : Int32))]))
            refine OwnFin.st (fun _ q => XS.iloadN X15.here hx rfl (hb hby at_101) rfl q) ?_
            show OwnFin _ _ _ _ (T15.setTop (mkF m 102 #[.val (.int p0), .val (.int ((p0 &&& (2147483647 : Int32)) % (7 : Int32))), .val (.ref w_BOOLEAN), .val (.int (0 : Int32))] [(.int (0 : Int32)), (.int (0 : Int32))]))
            refine OwnFin.st (fun _ q => XS.icmpNo X15.here hx rfl (hb hby at_102) rfl (Jvm.Free.XT.ii_ne_f (rfl : (0 : Int32) = (0 : Int32))) q) ?_
            show OwnFin _ _ _ _ (T15.setTop (mkF m 105 #[.val (.int p0), .val (.int ((p0 &&& (2147483647 : Int32)) % (7 : Int32))), .val (.ref w_BOOLEAN), .val (.int (0 : Int32))] []))
            refine OwnFin.st (fun _ q => XS.iconst X15.here hx rfl (hb hby at_105) q) ?_
            show OwnFin _ _ _ _ (T15.setTop (mkF m 106 #[.val (.int p0), .val (.int ((p0 &&& (2147483647 : Int32)) % (7 : Int32))), .val (.ref w_BOOLEAN), .val (.int (0 : Int32))] [(.int (1 : Int32))]))
            refine OwnFin.st (fun _ q => XS.goto X15.here hx rfl (pc0 := 106) (pc' := 110) rfl (hb hby at_106) (by decide) (by decide) q) ?_
            show OwnFin _ _ _ _ (T15.setTop (mkF m 110 #[.val (.int p0), .val (.int ((p0 &&& (2147483647 : Int32)) % (7 : Int32))), .val (.ref w_BOOLEAN), .val (.int (0 : Int32))] [(.int (1 : Int32))]))
            obtain ⟨fs, hr, hrun, hended, hW, hsame⟩ := X15.leave (v := some (.int (1 : Int32))) (fun h => by rw [Bd.returns] at h; cases h)
            refine ⟨_, _, retN X15 hx (t := .boolean) Bd.returns (by simp) (hb hby at_110) hr, hrun, hended, _, _, rfl, ?_, ⟨_, rfl⟩, hW, hsame.mono (by decide) (by decide)⟩
            show Q_rm0 Z p0 w_STRING w_INTEGRAL w_FLOATING_POINT w_DECIMAL w_BOOLEAN w_TEMPORAL w_UUID h0 n0 _ T15.heap _
            rw [he15]
            exact ⟨rfl, N15⟩
          · skip
            refine OwnFin.st (fun _ q => XS.icmpYes X0.here hx rfl (pc0 := 65) (pc' := 77) rfl (hb hby at_65) rfl (Jvm.Free.XT.ii_ne_t hc13) (by decide) (by decide) q) ?_
            show OwnFin _ _ _ _ (s₁.setTop (mkF m 77 #[.val (.int p0), .val (.int ((p0 &&& (2147483647 : Int32)) % (7 : Int32))), .unset, .unset] []))
            refine OwnFin.st (fun _ q => XS.iloadN X0.here hx rfl (hb hby at_77) rfl q) ?_
            show OwnFin _ _ _ _ (s₁.setTop (mkF m 78 #[.val (.int p0), .val (.int ((p0 &&& (2147483647 : Int32)) % (7 : Int32))), .unset, .unset] [(.int ((p0 &&& (2147483647 : Int32)) % (7 : Int32)))]))
            refine OwnFin.st (fun _ q => XS.iconst X0.here hx rfl (hb hby at_78) q) ?_
            show OwnFin _ _ _ _ (s₁.setTop (mkF m 79 #[.val (.int p0), .val (.int ((p0 &&& (2147483647 : Int32)) % (7 : Int32))), .unset, .unset] [(.int (5 : Int32)), (.int ((p0 &&& (2147483647 : Int32)) % (7 : Int32)))]))
            by_cases hc16 : ((p0 &&& (2147483647 : Int32)) % (7 : Int32)) = (5 : Int32)
            · skip
              refine OwnFin.st (fun _ q => XS.icmpNo X0.here hx rfl (hb hby at_79) rfl (Jvm.Free.XT.ii_ne_f hc16) q) ?_
              show OwnFin _ _ _ _ (s₁.setTop (mkF m 82 #[.val (.int p0), .val (.int ((p0 &&& (2147483647 : Int32)) % (7 : Int32))), .unset, .unset] []))
              obtain ⟨T17, X17, e17, st17⟩ := getS2 X0 hx hZ hown (host := "") (Or.inl (hw _ (List.mem_of_getElem? (i := 16) rfl))) Via.refl e0 (S_TEMPORAL.ext Ol0.2) (g := (mkF m 82 #[.val (.int p0), .val (.int ((p0 &&& (2147483647 : Int32)) % (7 : Int32))), .unset, .unset] [])) rfl (hb hby at_82)
              refine OwnFin.st st17 ?_
              show OwnFin _ _ _ _ (T17.setTop (mkF m 85 #[.val (.int p0), .val (.int ((p0 &&& (2147483647 : Int32)) % (7 : Int32))), .unset, .unset] [(.ref w_TEMPORAL)]))
              refine OwnFin.st (fun _ q => XS.astoreN X17.here hx rfl (hb hby at_85) rfl rfl (l' := #[.val (.int p0), .val (.int ((p0 &&& (2147483647 : Int32)) % (7 : Int32))), .val (.ref w_TEMPORAL), .unset]) rfl q) ?_
              show OwnFin _ _ _ _ (T17.setTop (mkF m 86 #[.val (.int p0), .val (.int ((p0 &&& (2147483647 : Int32)) % (7 : Int32))), .val (.ref w_TEMPORAL), .unset] []))
              refine OwnFin.st (fun _ q => XS.iconst X17.here hx rfl (hb hby at_86) q) ?_
              show OwnFin _ _ _ _ (T17.setTop (mkF m 87 #[.val (.int p0), .val (.int ((p0 &&& (2147483647 : Int32)) % (7 : Int32))), .val (.ref w_TEMPORAL), .unset] [(.int (0 : Int32))]))
              refine OwnFin.st (fun _ q => XS.istoreN X17.here hx rfl (hb hby at_87) rfl (l' := #[.val (.int p0), .val (.int ((p0 &&& (2147483647 : Int32)) % (7 : Int32))), .val (.ref w_TEMPORAL), .val (.int (0 : Int32))]) rfl q) ?_
              show OwnFin _ _ _ _ (T17.setTop (mkF m 88 #[.val (.int p0), .val (.int ((p0 &&& (2147483647 : Int32)) % (7 : Int32))), .val (.ref w_TEMPORAL), .val (.int (0 : Int32))] []))
              refine OwnFin.st (fun _ q => XS.goto X17.here hx rfl (pc0 := 88) (pc' := 97) rfl (hb hby at_88) (by decide) (by decide) q) ?_
              show OwnFin _ _ _ _ (T17.setTop (mkF m 97 #[.val (.int p0), .val (.int ((p0 &&& (2147483647 : Int32)) % (7 : Int32))), .val (.ref w_TEMPORAL), .val (.int (0 : Int32))] []))
              refine OwnFin.st (fun _ q => XS.aloadN X17.here hx rfl (hb hby at_97) rfl rfl q) ?_
              show OwnFin _ _ _ _ (T17.setTop (mkF m 98 #[.val (.int p0), .val (.int ((p0 &&& (2147483647 : Int32)) % (7 : Int32))), .val (.ref w_TEMPORAL), .val (.int (0 : Int32))] [(.ref w_TEMPORAL)]))
              obtain ⟨cq18, kq18, q18a, q18b, q18c⟩ := isOf hZ e17 (X_w_TEMPORAL.ext Ol0.2)
              obtain ⟨_, _, ⟨T18, L18, k18, n18⟩, -, X18, ⟨Lc18, hQ18, l18, y18, z18⟩, st18⟩ := X17.virtualBack hx (y := (⟨"com/example/nepean/nepean/mapping/BasicType$Domain", "isNumeric", "()Z"⟩ : MethodName)) (z := (⟨"com/example/nepean/nepean/mapping/BasicType$Domain", "isNumeric", "()Z"⟩ : MethodName)) hown (mvT hZ (hw _ (List.mem_of_getElem? (i := 4) rfl))) (mvT hZ (hw _ (List.mem_of_getElem? (i := 5) rfl))) (notFace_of_selects (args := #[]) (mvT hZ (hw _ (List.mem_of_getElem? (i := 7) rfl)))) (mvT hZ (hw _ (List.mem_of_getElem? (i := 7) rfl))) (mvT hZ (hw _ (List.mem_of_getElem? (i := 6) rfl))) (by decide) (backOf (W := 0) (rm1_fff l Z av0 hw [] w_TEMPORAL w_INTEGRAL w_FLOATING_POINT w_DECIMAL h0 n0 (Nat.le_trans Z0 kp0.1) Ol0 S_INTEGRAL (Fld.ne F_ordinal_w_INTEGRAL F_ordinal_w_TEMPORAL (by decide)) S_FLOATING_POINT (Fld.ne F_ordinal_w_FLOATING_POINT F_ordinal_w_TEMPORAL (by decide)) S_DECIMAL (Fld.ne F_ordinal_w_DECIMAL F_ordinal_w_TEMPORAL (by decide))) hZ (hw _ (List.mem_of_getElem? (i := 8) rfl)) (hw _ (List.mem_of_getElem? (i := 2) rfl)) (by decide) (by decide)) q18a q18c (g := (mkF m 98 #[.val (.int p0), .val (.int ((p0 &&& (2147483647 : Int32)) % (7 : Int32))), .val (.ref w_TEMPORAL), .val (.int (0 : Int32))] [(.ref w_TEMPORAL)])) rfl (by rw [hml]; rfl) (Steps.refl _) (argsL := []) (rest := []) (lenOf pd_0 rfl) rfl (by show 2 * 0 + _ ≤ _; exact Nat.le_of_eq rfl) (hb hby at_98) (fun _ _ => ⟨rfl, e17, (by decide : 0 + 0 ≤ _), (by decide : 0 + 0 ≤ _)⟩)
              dsimp only [Pt.U, Pt.locs, Pt.cells, Pt.slots] at X18 l18 y18 z18 st18 hQ18
              subst l18 y18 z18
              obtain ⟨rfl, N18q, he18⟩ := hQ18
              have N18 := Fr.app N0 N18q
              refine OwnFin.tr st18 ?_
              show OwnFin _ _ _ _ (T18.setTop (mkF m 101 #[.val (.int p0), .val (.int ((p0 &&& (2147483647 : Int32)) % (7 : Int32))), .val (.ref w_TEMPORAL), .val (.int (0 : Int32))] [(.int (0 : Int32))]))
              refine OwnFin.st (fun _ q => XS.iloadN X18.here hx rfl (hb hby at_101) rfl q) ?_
              show OwnFin _ _ _ _ (T18.setTop (mkF m 102 #[.val (.int p0), .val (.int ((p0 &&& (2147483647 : Int32)) % (7 : Int32))), .val (.ref w_TEMPORAL), .val (.int (0 : Int32))] [(.int (0 : Int32)), (.int (0 : Int32))]))
              refine OwnFin.st (fun _ q => XS.icmpNo X18.here hx rfl (hb hby at_102) rfl (Jvm.Free.XT.ii_ne_f (rfl : (0 : Int32) = (0 : Int32))) q) ?_
              show OwnFin _ _ _ _ (T18.setTop (mkF m 105 #[.val (.int p0), .val (.int ((p0 &&& (2147483647 : Int32)) % (7 : Int32))), .val (.ref w_TEMPORAL), .val (.int (0 : Int32))] []))
              refine OwnFin.st (fun _ q => XS.iconst X18.here hx rfl (hb hby at_105) q) ?_
              show OwnFin _ _ _ _ (T18.setTop (mkF m 106 #[.val (.int p0), .val (.int ((p0 &&& (2147483647 : Int32)) % (7 : Int32))), .val (.ref w_TEMPORAL), .val (.int (0 : Int32))] [(.int (1 : Int32))]))
              refine OwnFin.st (fun _ q => XS.goto X18.here hx rfl (pc0 := 106) (pc' := 110) rfl (hb hby at_106) (by decide) (by decide) q) ?_
              show OwnFin _ _ _ _ (T18.setTop (mkF m 110 #[.val (.int p0), .val (.int ((p0 &&& (2147483647 : Int32)) % (7 : Int32))), .val (.ref w_TEMPORAL), .val (.int (0 : Int32))] [(.int (1 : Int32))]))
              obtain ⟨fs, hr, hrun, hended, hW, hsame⟩ := X18.leave (v := some (.int (1 : Int32))) (fun h => by rw [Bd.returns] at h; cases h)
              refine ⟨_, _, retN X18 hx (t := .boolean) Bd.returns (by simp) (hb hby at_110) hr, hrun, hended, _, _, rfl, ?_, ⟨_, rfl⟩, hW, hsame.mono (by decide) (by decide)⟩
              show Q_rm0 Z p0 w_STRING w_INTEGRAL w_FLOATING_POINT w_DECIMAL w_BOOLEAN w_TEMPORAL w_UUID h0 n0 _ T18.heap _
              rw [he18]
              exact ⟨rfl, N18⟩
            · skip
              refine OwnFin.st (fun _ q => XS.icmpYes X0.here hx rfl (pc0 := 79) (pc' := 91) rfl (hb hby at_79) rfl (Jvm.Free.XT.ii_ne_t hc16) (by decide) (by decide) q) ?_
              show OwnFin _ _ _ _ (s₁.setTop (mkF m 91 #[.val (.int p0), .val (.int ((p0 &&& (2147483647 : Int32)) % (7 : Int32))), .unset, .unset] []))
              obtain ⟨T19, X19, e19, st19⟩ := getS2 X0 hx hZ hown (host := "") (Or.inl (hw _ (List.mem_of_getElem? (i := 18) rfl))) Via.refl e0 (S_UUID.ext Ol0.2) (g := (mkF m 91 #[.val (.int p0), .val (.int ((p0 &&& (2147483647 : Int32)) % (7 : Int32))), .unset, .unset] [])) rfl (hb hby at_91)
              refine OwnFin.st st19 ?_
              show OwnFin _ _ _ _ (T19.setTop (mkF m 94 #[.val (.int p0), .val (.int ((p0 &&& (2147483647 : Int32)) % (7 : Int32))), .unset, .unset] [(.ref w_UUID)]))
              refine OwnFin.st (fun _ q => XS.astoreN X19.here hx rfl (hb hby at_94) rfl rfl (l' := #[.val (.int p0), .val (.int ((p0 &&& (2147483647 : Int32)) % (7 : Int32))), .val (.ref w_UUID), .unset]) rfl q) ?_
              show OwnFin _ _ _ _ (T19.setTop (mkF m 95 #[.val (.int p0), .val (.int ((p0 &&& (2147483647 : Int32)) % (7 : Int32))), .val (.ref w_UUID), .unset] []))
              refine OwnFin.st (fun _ q => XS.iconst X19.here hx rfl (hb hby at_95) q) ?_
              show OwnFin _ _ _ _ (T19.setTop (mkF m 96 #[.val (.int p0), .val (.int ((p0 &&& (2147483647 : Int32)) % (7 : Int32))), .val (.ref w_UUID), .unset] [(.int (0 : Int32))]))
              refine OwnFin.st (fun _ q => XS.istoreN X19.here hx rfl (hb hby at_96) rfl (l' := #[.val (.int p0), .val (.int ((p0 &&& (2147483647 : Int32)) % (7 : Int32))), .val (.ref w_UUID), .val (.int (0 : Int32))]) rfl q) ?_
              show OwnFin _ _ _ _ (T19.setTop (mkF m 97 #[.val (.int p0), .val (.int ((p0 &&& (2147483647 : Int32)) % (7 : Int32))), .val (.ref w_UUID), .val (.int (0 : Int32))] []))
              refine OwnFin.st (fun _ q => XS.aloadN X19.here hx rfl (hb hby at_97) rfl rfl q) ?_
              show OwnFin _ _ _ _ (T19.setTop (mkF m 98 #[.val (.int p0), .val (.int ((p0 &&& (2147483647 : Int32)) % (7 : Int32))), .val (.ref w_UUID), .val (.int (0 : Int32))] [(.ref w_UUID)]))
              obtain ⟨cq20, kq20, q20a, q20b, q20c⟩ := isOf hZ e19 (X_w_UUID.ext Ol0.2)
              obtain ⟨_, _, ⟨T20, L20, k20, n20⟩, -, X20, ⟨Lc20, hQ20, l20, y20, z20⟩, st20⟩ := X19.virtualBack hx (y := (⟨"com/example/nepean/nepean/mapping/BasicType$Domain", "isNumeric", "()Z"⟩ : MethodName)) (z := (⟨"com/example/nepean/nepean/mapping/BasicType$Domain", "isNumeric", "()Z"⟩ : MethodName)) hown (mvT hZ (hw _ (List.mem_of_getElem? (i := 4) rfl))) (mvT hZ (hw _ (List.mem_of_getElem? (i := 5) rfl))) (notFace_of_selects (args := #[]) (mvT hZ (hw _ (List.mem_of_getElem? (i := 7) rfl)))) (mvT hZ (hw _ (List.mem_of_getElem? (i := 7) rfl))) (mvT hZ (hw _ (List.mem_of_getElem? (i := 6) rfl))) (by decide) (backOf (W := 0) (rm1_fff l Z av0 hw [] w_UUID w_INTEGRAL w_FLOATING_POINT w_DECIMAL h0 n0 (Nat.le_trans Z0 kp0.1) Ol0 S_INTEGRAL (Fld.ne F_ordinal_w_INTEGRAL F_ordinal_w_UUID (by decide)) S_FLOATING_POINT (Fld.ne F_ordinal_w_FLOATING_POINT F_ordinal_w_UUID (by decide)) S_DECIMAL (Fld.ne F_ordinal_w_DECIMAL F_ordinal_w_UUID (by decide))) hZ (hw _ (List.mem_of_getElem? (i := 8) rfl)) (hw _ (List.mem_of_getElem? (i := 2) rfl)) (by decide) (by decide)) q20a q20c (g := (mkF m 98 #[.val (.int p0), .val (.int ((p0 &&& (2147483647 : Int32)) % (7 : Int32))), .val (.ref w_UUID), .val (.int (0 : Int32))] [(.ref w_UUID)])) rfl (by rw [hml]; rfl) (Steps.refl _) (argsL := []) (rest := []) (lenOf pd_0 rfl) rfl (by show 2 * 0 + _ ≤ _; exact Nat.le_of_eq rfl) (hb hby at_98) (fun _ _ => ⟨rfl, e19, (by decide : 0 + 0 ≤ _), (by decide : 0 + 0 ≤ _)⟩)
              dsimp only [Pt.U, Pt.locs, Pt.cells, Pt.slots] at X20 l20 y20 z20 st20 hQ20
              subst l20 y20 z20
              obtain ⟨rfl, N20q, he20⟩ := hQ20
              have N20 := Fr.app N0 N20q
              refine OwnFin.tr st20 ?_
              show OwnFin _ _ _ _ (T20.setTop (mkF m 101 #[.val (.int p0), .val (.int ((p0 &&& (2147483647 : Int32)) % (7 : Int32))), .val (.ref w_UUID), .val (.int (0 : Int32))] [(.int (0 : Int32))]))
              refine OwnFin.st (fun _ q => XS.iloadN X20.here hx rfl (hb hby at_101) rfl q) ?_
              show OwnFin _ _ _ _ (T20.setTop (mkF m 102 #[.val (.int p0), .val (.int ((p0 &&& (2147483647 : Int32)) % (7 : Int32))), .val (.ref w_UUID), .val (.int (0 : Int32))] [(.int (0 : Int32)), (.int (0 : Int32))]))
              refine OwnFin.st (fun _ q => XS.icmpNo X20.here hx rfl (hb hby at_102) rfl (Jvm.Free.XT.ii_ne_f (rfl : (0 : Int32) = (0 : Int32))) q) ?_
              show OwnFin _ _ _ _ (T20.setTop (mkF m 105 #[.val (.int p0), .val (.int ((p0 &&& (2147483647 : Int32)) % (7 : Int32))), .val (.ref w_UUID), .val (.int (0 : Int32))] []))
              refine OwnFin.st (fun _ q => XS.iconst X20.here hx rfl (hb hby at_105) q) ?_
              show OwnFin _ _ _ _ (T20.setTop (mkF m 106 #[.val (.int p0), .val (.int ((p0 &&& (2147483647 : Int32)) % (7 : Int32))), .val (.ref w_UUID), .val (.int (0 : Int32))] [(.int (1 : Int32))]))
              refine OwnFin.st (fun _ q => XS.goto X20.here hx rfl (pc0 := 106) (pc' := 110) rfl (hb hby at_106) (by decide) (by decide) q) ?_
              show OwnFin _ _ _ _ (T20.setTop (mkF m 110 #[.val (.int p0), .val (.int ((p0 &&& (2147483647 : Int32)) % (7 : Int32))), .val (.ref w_UUID), .val (.int (0 : Int32))] [(.int (1 : Int32))]))
              obtain ⟨fs, hr, hrun, hended, hW, hsame⟩ := X20.leave (v := some (.int (1 : Int32))) (fun h => by rw [Bd.returns] at h; cases h)
              refine ⟨_, _, retN X20 hx (t := .boolean) Bd.returns (by simp) (hb hby at_110) hr, hrun, hended, _, _, rfl, ?_, ⟨_, rfl⟩, hW, hsame.mono (by decide) (by decide)⟩
              show Q_rm0 Z p0 w_STRING w_INTEGRAL w_FLOATING_POINT w_DECIMAL w_BOOLEAN w_TEMPORAL w_UUID h0 n0 _ T20.heap _
              rw [he20]
              exact ⟨rfl, N20⟩
set_option maxRecDepth 65536 in
set_option maxHeartbeats 40000000 in
theorem comes_1 {Post : Tables → Env → Array Value → State → Outcome → State → Prop} (hpost : ∀ tb e args s v u, (limb_1_1.after args s (.returned v) u = true ∧ limb_1_2.after args s (.returned v) u = true ∧ True) → FrameEnd s (.returned v) u (Jvm.fieldLocs frame_1_writes args s ++ Jvm.arrayLocs frame_1_arrays args s ++ Jvm.staticLocs frame_1_statics s) 0 0 → Post tb e args s (.returned v) u) :
    ArmFor flags0 classFile x code maxLocals ret World_1 tables_1 room_1 Calls_1 rest_1 Pre_1 Post := by
  intro l hfl _ _ p e ha hc hk s m args below hf hA hF happ hP
  obtain ⟨hcalls, hrest, hpre⟩ := hP
  obtain ⟨-, -, -, hnamed, -, -, -, hat⟩ := (Spec.applies_iff hf).mp happ
  obtain ⟨hg, hn⟩ := and_e (Cond.before_iff.mp (show (Jvm.Cond.and given_1 narrow_1).before args s = true from hpre))
  obtain ⟨y1, y2⟩ := and_e hg
  obtain ⟨y3, y4⟩ := and_e hn
  obtain ⟨y5, y6⟩ := and_e y4
  obtain ⟨y7, y8⟩ := and_e y6
  obtain ⟨y9, y10⟩ := and_e y8
  obtain ⟨y11, y12⟩ := and_e y10
  obtain ⟨y13, y14⟩ := and_e y12
  obtain ⟨y15, y16⟩ := and_e y14
  obtain ⟨y17, y18⟩ := and_e y16
  obtain ⟨y19, y20⟩ := and_e y18
  obtain ⟨y21, y22⟩ := and_e y20
  obtain ⟨y23, y24⟩ := and_e y22
  obtain ⟨y25, y26⟩ := and_e y24
  obtain ⟨y27, y28⟩ := and_e y26
  obtain ⟨v0, rfl⟩ : ∃ v0 : Value, args = #[v0] := by
    have hs : args.size = 1 := by simpa [Cond.value, given_1] using y1
    obtain ⟨L⟩ := args
    match L, hs with
    | [v0], _ => exact ⟨v0, rfl⟩
  have hw := fun d (hd : d ∈ tables_1) => atoms_spec (ws := Jvm.Cond.code x code maxLocals ret :: tables_1) hat d (List.mem_cons_of_mem _ hd)
  have hfit : Fit s := fun {y c} hc i hi => by
    obtain ⟨ha, rfl⟩ := Array.getElem?_eq_some_iff.mp hc
    have q := List.all_eq_true.mp ((Array.all_eq_true_iff_forall_mem.mp hF) _ (Array.getElem_mem ha)) i (List.mem_range.mpr hi)
    simpa [Array.getElem?_eq_getElem hi] using q
  obtain ⟨i0, ei0⟩ := is_v y2
  obtain rfl : v0 = (.int i0) := Option.some.inj ei0
  obtain ⟨st_STRING, ev_STRING⟩ := exa_v y3
  have Sx_STRING : Sta s s.heap "com/example/nepean/nepean/mapping/BasicType$Domain" "STRING" "Lcom/example/nepean/nepean/mapping/BasicType$Domain;" (.ref st_STRING) := Sta.start ev_STRING (Or.inr ⟨(hw _ (List.mem_of_getElem? (i := 2) rfl)), (hw _ (List.mem_of_getElem? (i := 3) rfl))⟩)
  have Xx_STRING : Exa s s.heap st_STRING "com/example/nepean/nepean/mapping/BasicType$Domain" := Exa.start ev_STRING y3
  obtain ⟨st_INTEGRAL, ev_INTEGRAL⟩ := exa_v y5
  have Sx_INTEGRAL : Sta s s.heap "com/example/nepean/nepean/mapping/BasicType$Domain" "INTEGRAL" "Lcom/example/nepean/nepean/mapping/BasicType$Domain;" (.ref st_INTEGRAL) := Sta.start ev_INTEGRAL (Or.inr ⟨(hw _ (List.mem_of_getElem? (i := 2) rfl)), (hw _ (List.mem_of_getElem? (i := 10) rfl))⟩)
  have Xx_INTEGRAL : Exa s s.heap st_INTEGRAL "com/example/nepean/nepean/mapping/BasicType$Domain" := Exa.start ev_INTEGRAL y5
  obtain ⟨st_FLOATING_POINT, ev_FLOATING_POINT⟩ := exa_v y11
  have Sx_FLOATING_POINT : Sta s s.heap "com/example/nepean/nepean/mapping/BasicType$Domain" "FLOATING_POINT" "Lcom/example/nepean/nepean/mapping/BasicType$Domain;" (.ref st_FLOATING_POINT) := Sta.start ev_FLOATING_POINT (Or.inr ⟨(hw _ (List.mem_of_getElem? (i := 2) rfl)), (hw _ (List.mem_of_getElem? (i := 12) rfl))⟩)
  have Xx_FLOATING_POINT : Exa s s.heap st_FLOATING_POINT "com/example/nepean/nepean/mapping/BasicType$Domain" := Exa.start ev_FLOATING_POINT y11
  obtain ⟨st_DECIMAL, ev_DECIMAL⟩ := exa_v y15
  have Sx_DECIMAL : Sta s s.heap "com/example/nepean/nepean/mapping/BasicType$Domain" "DECIMAL" "Lcom/example/nepean/nepean/mapping/BasicType$Domain;" (.ref st_DECIMAL) := Sta.start ev_DECIMAL (Or.inr ⟨(hw _ (List.mem_of_getElem? (i := 2) rfl)), (hw _ (List.mem_of_getElem? (i := 14) rfl))⟩)
  have Xx_DECIMAL : Exa s s.heap st_DECIMAL "com/example/nepean/nepean/mapping/BasicType$Domain" := Exa.start ev_DECIMAL y15
  obtain ⟨st_TEMPORAL, ev_TEMPORAL⟩ := exa_v y19
  have Sx_TEMPORAL : Sta s s.heap "com/example/nepean/nepean/mapping/BasicType$Domain" "TEMPORAL" "Lcom/example/nepean/nepean/mapping/BasicType$Domain;" (.ref st_TEMPORAL) := Sta.start ev_TEMPORAL (Or.inr ⟨(hw _ (List.mem_of_getElem? (i := 2) rfl)), (hw _ (List.mem_of_getElem? (i := 17) rfl))⟩)
  have Xx_TEMPORAL : Exa s s.heap st_TEMPORAL "com/example/nepean/nepean/mapping/BasicType$Domain" := Exa.start ev_TEMPORAL y19
  obtain ⟨st_UUID, ev_UUID⟩ := exa_v y23
  have Sx_UUID : Sta s s.heap "com/example/nepean/nepean/mapping/BasicType$Domain" "UUID" "Lcom/example/nepean/nepean/mapping/BasicType$Domain;" (.ref st_UUID) := Sta.start ev_UUID (Or.inr ⟨(hw _ (List.mem_of_getElem? (i := 2) rfl)), (hw _ (List.mem_of_getElem? (i := 19) rfl))⟩)
  have Xx_UUID : Exa s s.heap st_UUID "com/example/nepean/nepean/mapping/BasicType$Domain" := Exa.start ev_UUID y23
  obtain ⟨st_BOOLEAN, ev_BOOLEAN⟩ := exa_v y27
  have Sx_BOOLEAN : Sta s s.heap "com/example/nepean/nepean/mapping/BasicType$Domain" "BOOLEAN" "Lcom/example/nepean/nepean/mapping/BasicType$Domain;" (.ref st_BOOLEAN) := Sta.start ev_BOOLEAN (Or.inr ⟨(hw _ (List.mem_of_getElem? (i := 2) rfl)), (hw _ (List.mem_of_getElem? (i := 21) rfl))⟩)
  have Xx_BOOLEAN : Exa s s.heap st_BOOLEAN "com/example/nepean/nepean/mapping/BasicType$Domain" := Exa.start ev_BOOLEAN y27
  have Fx_INTEGRAL_ordinal : Fld s s.heap st_INTEGRAL "java/lang/Enum" "ordinal" "I" (.int 1) := by
    obtain ⟨x1, y1, e1, e2, -, -⟩ := cmp_v (Or.inl y7)
    cases e2.symm.trans (Term.int_eval (1))
    have e3 : x1 = .int 1 := own_eqv y7 e1
    subst e3
    exact Fld.start ((fld_at ev_INTEGRAL).symm.trans e1)
  have Fx_STRING_ordinal : Fld s s.heap st_STRING "java/lang/Enum" "ordinal" "I" (.int 0) := by
    obtain ⟨x1, y1, e1, e2, -, -⟩ := cmp_v (Or.inl y9)
    cases e2.symm.trans (Term.int_eval (0))
    have e3 : x1 = .int 0 := own_eqv y9 e1
    subst e3
    exact Fld.start ((fld_at ev_STRING).symm.trans e1)
  have Fx_FLOATING_POINT_ordinal : Fld s s.heap st_FLOATING_POINT "java/lang/Enum" "ordinal" "I" (.int 2) := by
    obtain ⟨x1, y1, e1, e2, -, -⟩ := cmp_v (Or.inl y13)
    cases e2.symm.trans (Term.int_eval (2))
    have e3 : x1 = .int 2 := own_eqv y13 e1
    subst e3
    exact Fld.start ((fld_at ev_FLOATING_POINT).symm.trans e1)
  have Fx_DECIMAL_ordinal : Fld s s.heap st_DECIMAL "java/lang/Enum" "ordinal" "I" (.int 3) := by
    obtain ⟨x1, y1, e1, e2, -, -⟩ := cmp_v (Or.inl y17)
    cases e2.symm.trans (Term.int_eval (3))
    have e3 : x1 = .int 3 := own_eqv y17 e1
    subst e3
    exact Fld.start ((fld_at ev_DECIMAL).symm.trans e1)
  have Fx_TEMPORAL_ordinal : Fld s s.heap st_TEMPORAL "java/lang/Enum" "ordinal" "I" (.int 5) := by
    obtain ⟨x1, y1, e1, e2, -, -⟩ := cmp_v (Or.inl y21)
    cases e2.symm.trans (Term.int_eval (5))
    have e3 : x1 = .int 5 := own_eqv y21 e1
    subst e3
    exact Fld.start ((fld_at ev_TEMPORAL).symm.trans e1)
  have Fx_UUID_ordinal : Fld s s.heap st_UUID "java/lang/Enum" "ordinal" "I" (.int 6) := by
    obtain ⟨x1, y1, e1, e2, -, -⟩ := cmp_v (Or.inl y25)
    cases e2.symm.trans (Term.int_eval (6))
    have e3 : x1 = .int 6 := own_eqv y25 e1
    subst e3
    exact Fld.start ((fld_at ev_UUID).symm.trans e1)
  have Fx_BOOLEAN_ordinal : Fld s s.heap st_BOOLEAN "java/lang/Enum" "ordinal" "I" (.int 4) := by
    obtain ⟨x1, y1, e1, e2, -, -⟩ := cmp_v (Or.inl y28)
    cases e2.symm.trans (Term.int_eval (4))
    have e3 : x1 = .int 4 := own_eqv y28 e1
    subst e3
    exact Fld.start ((fld_at ev_BOOLEAN).symm.trans e1)
  obtain ⟨n, o, h1, h2, h3, _, L, rfl, ⟨rfl, N⟩, hq⟩ := rm0 l s _ hw tables_1 i0 st_STRING st_INTEGRAL st_FLOATING_POINT st_DECIMAL st_BOOLEAN st_TEMPORAL st_UUID s.heap s.heap.size (Nat.le_refl _) (Old.start s) Sx_STRING Xx_STRING Sx_INTEGRAL Fx_INTEGRAL_ordinal Fx_STRING_ordinal Sx_FLOATING_POINT Fx_FLOATING_POINT_ordinal Sx_DECIMAL Fx_DECIMAL_ordinal Xx_INTEGRAL Xx_FLOATING_POINT Xx_DECIMAL Sx_BOOLEAN Xx_BOOLEAN Fx_BOOLEAN_ordinal Sx_TEMPORAL Xx_TEMPORAL Fx_TEMPORAL_ordinal Sx_UUID Xx_UUID Fx_UUID_ordinal p e ha hc hk s m _ below hf ((Spec.applies_iff_loose hf).mp happ).1 ⟨rfl, State.Warmed39.refl s, rfl⟩ trivial
  refine ⟨n, _, h1, h2, h3, hpost _ _ _ _ _ _ ⟨Cond.after_iff.mpr rfl, Cond.after_iff.mpr (eq_i res_at (Term.int_eval (1)) rfl), trivial⟩ ⟨hq.1, hq.2.1, (hq.2.2.sift fun y hy => Or.inr (N y hy)).mono (by decide) (by decide)⟩⟩
theorem main_1_1 : Claimed_1_1 := comes_1 fun _ _ _ _ _ _ h hF => ⟨h.1, hF⟩
theorem main_1_2 : Claimed_1_2 := comes_1 fun _ _ _ _ _ _ h hF => ⟨h.2.1, hF⟩
end Jvm.Pilot.@@N@@
namespace Jvm.Pilot.@@N@@
open Jvm Jvm.ClassFile Sem Op Lib Jvm.Free Jvm.Stand Jvm.Pilot.@@N@@.Jvm.D
/-! MADE BY PROGRAM (witnessworld.py) out of the Statement's table words and the real class files: 12 classes; the members and pool entries that the words name. The judged class is class 1, her method 1. -/
namespace start1
open Jvm.ClassFile
def u (s : String) : CpInfo := .utf8 (stringToUtf16 s)
/-- a pool by its gaps: so many unusable entries, then the entry; so many at the end -/
def gap : Nat → List CpInfo → List CpInfo
  | 0, r => r
  | n + 1, r => .unusable :: gap n r
def poolList (es : List (Nat × CpInfo)) (last : Nat) : List CpInfo := es.foldr (fun e r => gap e.1 (e.2 :: r)) (gap last [])
def pool (es : List (Nat × CpInfo)) (last : Nat) : Array CpInfo := ⟨poolList es last⟩
def fileOf (pool : Array CpInfo) (this : Nat) (attrs : Array Attribute := #[]) (ms : Array MethodInfo := #[]) (fl : Nat := 33) (sup : Nat := 0) (ifs : Array Nat := #[]) (fds : Array FieldInfo := #[]) : ClassFile where
  minorVersion := 0
  majorVersion := 65
  constantPool := pool
  accessFlags := fl
  thisClass := this
  superClass := sup
  interfaces := ifs
  fields := fds
  methods := ms
  attributes := attrs
def plain (name : String) (sup : Option ClassId) : Class where
  name := name
  kind := .ordinary
  loader := none
  accessFlags := 33
  super := sup
  interfaces := #[]
  cf := none
  fields := #[]
  methods := #[]
  instanceTypes := #[]
  staticTypes := #[]
  resolved := #[]
  callSites := []
  init := .initialized
  statics := none
  mirror := none

def pool0 : Array CpInfo := pool [(5, u "<init>"), (0, u "()V"), (1, .class_ 10), (1, u "java/lang/Object")] 113

def k0m0 : Method := { name := "<init>", desc := "()V", sig := { parameters := [], returnType := none }, accessFlags := 1, code := none }
/-- java/lang/Object -/
def k0 : Class := { plain "java/lang/Object" none with
  accessFlags := 33
  interfaces := #[]
  cf := some (fileOf pool0 8 #[] #[{ accessFlags := 1, nameIndex := 5, descriptorIndex := 6, attributes := #[] }] 33 0 #[] #[])
  fields := #[]
  methods := #[k0m0]
  instanceTypes := #[]
  staticTypes := #[]
  resolved := Array.replicate 124 none
  statics := none }

def pool1 : Array CpInfo := pool [(2, .class_ 4), (1, u "java/lang/Object"), (0, u "<init>"), (0, u "()V"), (0, .integer 2147483647), (0, .fieldref 9 10), (0, .class_ 11), (0, .nameAndType 12 13), (0, u "com/example/nepean/nepean/mapping/BasicType$Domain"), (0, u "STRING"), (0, u "Lcom/example/nepean/nepean/mapping/BasicType$Domain;"), (0, .fieldref 9 15), (0, .nameAndType 16 13), (0, u "INTEGRAL"), (0, .fieldref 9 18), (0, .nameAndType 19 13), (0, u "FLOATING_POINT"), (0, .fieldref 9 21), (0, .nameAndType 22 13), (0, u "DECIMAL"), (0, .fieldref 9 24), (0, .nameAndType 25 13), (0, u "BOOLEAN"), (0, .fieldref 9 27), (0, .nameAndType 28 13), (0, u "TEMPORAL"), (0, .fieldref 9 30), (0, .nameAndType 31 13), (0, u "UUID"), (0, .methodref 9 33), (0, .nameAndType 34 35), (0, u "isNumeric"), (0, u "()Z"), (0, .class_ 37), (0, u "com/example/nepean/nepean/mapping/DomainIsNumericPinLaw"), (2, u "law"), (0, u "(I)Z")] 7

def k1m0 : Method := { name := "<init>", desc := "()V", sig := { parameters := [], returnType := none }, accessFlags := 1, code := none }
def k1c1 : Code := { maxStack := 2, maxLocals := 4, code := code, exceptionTable := #[], attributes := #[] }
def k1m1 : Method := { name := "law", desc := "(I)Z", sig := { parameters := [.int], returnType := some .boolean }, accessFlags := 9, code := some k1c1 }
/-- com/example/nepean/nepean/mapping/DomainIsNumericPinLaw -/
def k1 : Class := { plain "com/example/nepean/nepean/mapping/DomainIsNumericPinLaw" (some 0) with
  accessFlags := 49
  interfaces := #[]
  cf := some (fileOf pool1 36 #[] #[{ accessFlags := 1, nameIndex := 5, descriptorIndex := 6, attributes := #[] }, { accessFlags := 9, nameIndex := 40, descriptorIndex := 41, attributes := #[] }] 49 2 #[] #[])
  fields := #[]
  methods := #[k1m0, k1m1]
  instanceTypes := #[]
  staticTypes := #[]
  resolved := Array.replicate 49 none
  statics := none }

def pool2 : Array CpInfo := pool [(1, .class_ 2), (0, u "java/lang/constant/Constable"), (0, .class_ 4), (0, u "java/lang/Object")] 6

/-- java/lang/constant/Constable -/
def k2 : Class := { plain "java/lang/constant/Constable" (some 0) with
  accessFlags := 1537
  interfaces := #[]
  cf := some (fileOf pool2 1 #[] #[] 1537 3 #[] #[])
  fields := #[]
  methods := #[]
  instanceTypes := #[]
  staticTypes := #[]
  resolved := Array.replicate 11 none
  statics := none }

def pool3 : Array CpInfo := pool [(1, .class_ 2), (0, u "java/lang/Comparable"), (0, .class_ 4), (0, u "java/lang/Object")] 7

/-- java/lang/Comparable -/
def k3 : Class := { plain "java/lang/Comparable" (some 0) with
  accessFlags := 1537
  interfaces := #[]
  cf := some (fileOf pool3 1 #[] #[] 1537 3 #[] #[])
  fields := #[]
  methods := #[]
  instanceTypes := #[]
  staticTypes := #[]
  resolved := Array.replicate 12 none
  statics := none }

def pool4 : Array CpInfo := pool [(1, .class_ 2), (0, u "java/io/Serializable"), (0, .class_ 4), (0, u "java/lang/Object")] 2

/-- java/io/Serializable -/
def k4 : Class := { plain "java/io/Serializable" (some 0) with
  accessFlags := 1537
  interfaces := #[]
  cf := some (fileOf pool4 1 #[] #[] 1537 3 #[] #[])
  fields := #[]
  methods := #[]
  instanceTypes := #[]
  staticTypes := #[]
  resolved := Array.replicate 7 none
  statics := none }

def pool5 : Array CpInfo := pool [(2, .class_ 4), (1, u "java/lang/Enum"), (0, u "name"), (0, u "Ljava/lang/String;"), (2, u "ordinal"), (0, u "I"), (1, .class_ 14), (1, u "java/lang/Object"), (4, u "hash"), (86, .class_ 108), (1, u "java/lang/Enum$EnumDesc"), (2, .class_ 112), (0, u "java/lang/constant/Constable"), (0, .class_ 114), (0, u "java/lang/Comparable"), (0, .class_ 116), (0, u "java/io/Serializable")] 87

/-- java/lang/Enum -/
def k5 : Class := { plain "java/lang/Enum" (some 0) with
  accessFlags := 1057
  interfaces := #[2, 3, 4]
  cf := some (fileOf pool5 2 #[.nestMembers #[106]] #[] 1057 12 #[111, 113, 115] #[{ accessFlags := 18, nameIndex := 5, descriptorIndex := 6, attributes := #[] }, { accessFlags := 18, nameIndex := 9, descriptorIndex := 10, attributes := #[] }, { accessFlags := 2, nameIndex := 19, descriptorIndex := 10, attributes := #[] }])
  fields := #[{ name := "name", type := (.object "java/lang/String"), accessFlags := 18, slot := 0, constantValue := 0 }, { name := "ordinal", type := .int, accessFlags := 18, slot := 1, constantValue := 0 }, { name := "hash", type := .int, accessFlags := 2, slot := 2, constantValue := 0 }]
  methods := #[]
  instanceTypes := #[(.object "java/lang/String"), .int, .int]
  staticTypes := #[]
  resolved := Array.replicate 204 none
  statics := none }

def pool6 : Array CpInfo := pool [(1, .class_ 2), (0, u "com/example/nepean/nepean/mapping/BasicType$Domain"), (2, u "STRING"), (0, u "Lcom/example/nepean/nepean/mapping/BasicType$Domain;"), (0, .fieldref 1 8), (0, .nameAndType 9 6), (0, u "INTEGRAL"), (0, .fieldref 1 11), (0, .nameAndType 12 6), (0, u "FLOATING_POINT"), (0, .fieldref 1 14), (0, .nameAndType 15 6), (0, u "DECIMAL"), (2, u "BOOLEAN"), (2, u "TEMPORAL"), (2, u "UUID"), (2, u "$VALUES"), (0, u "[Lcom/example/nepean/nepean/mapping/BasicType$Domain;"), (6, .class_ 37), (1, u "java/lang/Enum"), (25, u "isNumeric"), (0, u "()Z"), (6, .class_ 72), (0, u "com/example/nepean/nepean/mapping/BasicType")] 2

def k6c0 : Code := { maxStack := 2, maxLocals := 1, code := prog_14_method_4_code, exceptionTable := #[], attributes := #[] }
def k6m0 : Method := { name := "isNumeric", desc := "()Z", sig := { parameters := [], returnType := some .boolean }, accessFlags := 1, code := some k6c0 }
/-- com/example/nepean/nepean/mapping/BasicType$Domain -/
def k6 : Class := { plain "com/example/nepean/nepean/mapping/BasicType$Domain" (some 5) with
  accessFlags := 16433
  interfaces := #[]
  cf := some (fileOf pool6 1 #[.nestHost 71] #[{ accessFlags := 1, nameIndex := 63, descriptorIndex := 64, attributes := #[] }] 16433 35 #[] #[{ accessFlags := 16409, nameIndex := 5, descriptorIndex := 6, attributes := #[] }, { accessFlags := 16409, nameIndex := 9, descriptorIndex := 6, attributes := #[] }, { accessFlags := 16409, nameIndex := 12, descriptorIndex := 6, attributes := #[] }, { accessFlags := 16409, nameIndex := 15, descriptorIndex := 6, attributes := #[] }, { accessFlags := 16409, nameIndex := 18, descriptorIndex := 6, attributes := #[] }, { accessFlags := 16409, nameIndex := 21, descriptorIndex := 6, attributes := #[] }, { accessFlags := 16409, nameIndex := 24, descriptorIndex := 6, attributes := #[] }, { accessFlags := 4122, nameIndex := 27, descriptorIndex := 28, attributes := #[] }])
  fields := #[{ name := "STRING", type := (.object "com/example/nepean/nepean/mapping/BasicType$Domain"), accessFlags := 16409, slot := 0, constantValue := 0 }, { name := "INTEGRAL", type := (.object "com/example/nepean/nepean/mapping/BasicType$Domain"), accessFlags := 16409, slot := 1, constantValue := 0 }, { name := "FLOATING_POINT", type := (.object "com/example/nepean/nepean/mapping/BasicType$Domain"), accessFlags := 16409, slot := 2, constantValue := 0 }, { name := "DECIMAL", type := (.object "com/example/nepean/nepean/mapping/BasicType$Domain"), accessFlags := 16409, slot := 3, constantValue := 0 }, { name := "BOOLEAN", type := (.object "com/example/nepean/nepean/mapping/BasicType$Domain"), accessFlags := 16409, slot := 4, constantValue := 0 }, { name := "TEMPORAL", type := (.object "com/example/nepean/nepean/mapping/BasicType$Domain"), accessFlags := 16409, slot := 5, constantValue := 0 }, { name := "UUID", type := (.object "com/example/nepean/nepean/mapping/BasicType$Domain"), accessFlags := 16409, slot := 6, constantValue := 0 }, { name := "$VALUES", type := (.array (.object "com/example/nepean/nepean/mapping/BasicType$Domain")), accessFlags := 4122, slot := 7, constantValue := 0 }]
  methods := #[k6m0]
  instanceTypes := #[(.object "java/lang/String"), .int, .int]
  staticTypes := #[(.object "com/example/nepean/nepean/mapping/BasicType$Domain"), (.object "com/example/nepean/nepean/mapping/BasicType$Domain"), (.object "com/example/nepean/nepean/mapping/BasicType$Domain"), (.object "com/example/nepean/nepean/mapping/BasicType$Domain"), (.object "com/example/nepean/nepean/mapping/BasicType$Domain"), (.object "com/example/nepean/nepean/mapping/BasicType$Domain"), (.object "com/example/nepean/nepean/mapping/BasicType$Domain"), (.array (.object "com/example/nepean/nepean/mapping/BasicType$Domain"))]
  resolved := Array.replicate 75 none
  statics := some 0 }

def pool7 : Array CpInfo := pool [(1, u "java/lang/Cloneable"), (0, .class_ 1), (0, u "java/lang/Object"), (0, .class_ 3)] 3

/-- java/lang/Cloneable -/
def k7 : Class := { plain "java/lang/Cloneable" (some 0) with
  accessFlags := 1537
  interfaces := #[]
  cf := some (fileOf pool7 2 #[] #[] 1537 4 #[] #[])
  fields := #[]
  methods := #[]
  instanceTypes := #[]
  staticTypes := #[]
  resolved := Array.replicate 8 none
  statics := none }

/-- the primitive byte -/
def k8 : Class := { plain "byte" none with kind := .primitive 'B', accessFlags := 0x411 }
/-- [B -/
def k9 : Class := { plain "[B" (some 0) with kind := .array 8 .byte, interfaces := #[7, 4], accessFlags := 1041 }

/-- the primitive int -/
def k10 : Class := { plain "int" none with kind := .primitive 'I', accessFlags := 0x411 }
/-- [I -/
def k11 : Class := { plain "[I" (some 0) with kind := .array 10 .int, interfaces := #[7, 4], accessFlags := 1041 }

def heap : Heap := #[{ cls := 6, slots := #[.ref 1, .ref 2, .ref 3, .ref 4, .ref 5, .ref 6, .ref 7, .null], vm := .statics 6 },
  { cls := 6, slots := #[.null, .int 0, .int 0], vm := .none },
  { cls := 6, slots := #[.null, .int 1, .int 0], vm := .none },
  { cls := 6, slots := #[.null, .int 2, .int 0], vm := .none },
  { cls := 6, slots := #[.null, .int 3, .int 0], vm := .none },
  { cls := 6, slots := #[.null, .int 4, .int 0], vm := .none },
  { cls := 6, slots := #[.null, .int 5, .int 0], vm := .none },
  { cls := 6, slots := #[.null, .int 6, .int 0], vm := .none }]
def classes : Array Class := #[k0, k1, k2, k3, k4, k5, k6, k7, k8, k9, k10, k11]
def interned : List (Array UInt16 × Addr) := []
def slotsUsed : Nat := 29
def theMethod : MethodId := ⟨1, 1⟩
def args0 : Array Value := #[.int 5]
def aboutOver (below : List Frame) : State where
  vm := { classes := classes, interned := interned.toArray }
  heap := heap
  slotsUsed := slotsUsed
  threads := #[{ frames := .invoking theMethod args0 :: below }]
def below0 : List Frame := [.native { method := ⟨0, 0⟩, args := #[] }]
def about1 : State := aboutOver below0
def p0 : Program := .bare "" "" ""
def e0 : Env := launch0.env 0 0 0
theorem w_frames : about1.frames = Frame.invoking theMethod args0 :: below0 := rfl
set_option maxRecDepth 65536 in
theorem w_args : argsFit about1.vm theMethod args0 = true := by decide +kernel
set_option maxRecDepth 65536 in
theorem w_heap : heapFits about1 = true := by decide +kernel
set_option maxRecDepth 65536 in
theorem w_runnable : about1.curStatus? = some .runnable := by decide +kernel
set_option maxRecDepth 65536 in
theorem w_alone : about1.alone = true := by decide +kernel
set_option maxRecDepth 65536 in
theorem w_named : about1.methodNamed? x = some theMethod := by decide +kernel
set_option maxRecDepth 65536 in
theorem w_hears : about1.hears theMethod below0 = true := by decide +kernel
set_option maxRecDepth 65536 in
theorem w_ripe : about1.ripe theMethod args0 below0 = true := by decide +kernel
theorem w_running : about1.status = .running := rfl
set_option maxRecDepth 65536 in
theorem w_room : about1.hasRoom e0.platform room_1 = true :=
  launch0.hasRoom_least _ room_1 (by decide +kernel) (by decide +kernel) (by decide +kernel) (by decide +kernel) (by decide +kernel) (by decide +kernel)
theorem allAtoms_all (ts : List Jvm.Cond) (a : Array Jvm.Value) (st : Jvm.State) : (allAtoms ts).before a st = ts.all (fun c => c.before a st) := by
  induction ts with
  | nil => rfl
  | cons c t ih =>
    show (Jvm.Cond.and c (allAtoms t)).before a st = _
    rw [Jvm.Cond.before_and, ih, List.all_cons]
def words1 : List Jvm.Cond := Jvm.Cond.code x code maxLocals ret :: tables_1
/-- a 'code' word, met by the world's own term for the bytes: nothing is compared byte by byte -/
theorem code_word {y : MethodName} {bytes : ByteArray} {mx : Nat} {rt : Option FieldType} {a : Array Value} {s : State} {m : MethodId} {meth : Method} {c : Code} (h1 : s.methodNamed? y = some m) (h2 : s.vm.method? m = some meth) (h3 : meth.code = some c) (h4 : c.code = bytes)
    (h5 : (c.maxLocals == mx && c.exceptionTable.isEmpty && decide (c.maxStack ≤ mostOperands) && decide (meth.sig.returnType = rt) && !meth.locks && decide (parseMethodDescriptor y.desc = some meth.sig)) = true) : (Jvm.Cond.code y bytes mx rt).before a s = true := by
  simp only [Bool.and_eq_true, beq_iff_eq, Bool.not_eq_true', decide_eq_true_eq] at h5
  obtain ⟨⟨⟨⟨⟨g1, g2⟩, g3⟩, g4⟩, g5⟩, g6⟩ := h5
  simp [Cond.before, Cond.holds, Cond.value, h1, h2, h3, h4, g1, g2, g3, g4, g5, g6]
def isCode : Jvm.Cond → Bool
  | .code _ _ _ _ => true
  | _ => false
theorem all_split {L : List Jvm.Cond} {P : Jvm.Cond → Bool} (h1 : L.all (fun c => isCode c || P c) = true) (h2 : ∀ c ∈ L.filter isCode, P c = true) : L.all P = true := by
  refine List.all_eq_true.mpr fun c hc => ?_
  have h := List.all_eq_true.mp h1 c hc
  rcases Bool.eq_false_or_eq_true (isCode c) with hi | hi
  · exact h2 c (List.mem_filter.mpr ⟨hc, hi⟩)
  · simpa [hi] using h
set_option maxRecDepth 65536 in
theorem w_c0 : (Jvm.Cond.code x code maxLocals ret).before args0 about1 = true := code_word (m := ⟨1, 1⟩) (meth := k1m1) (c := k1c1) (by decide +kernel) rfl rfl rfl (by decide +kernel)
set_option maxRecDepth 65536 in
theorem w_c1 : (Jvm.Cond.code ({ cls := "com/example/nepean/nepean/mapping/BasicType$Domain", name := "isNumeric", desc := "()Z" } : Jvm.MethodName) prog_14_method_4_code (1 : Nat) (Option.some Jvm.ClassFile.FieldType.boolean)).before args0 about1 = true := code_word (m := ⟨6, 0⟩) (meth := k6m0) (c := k6c0) (by decide +kernel) rfl rfl rfl (by decide +kernel)
def codes1 : List Jvm.Cond := [Jvm.Cond.code x code maxLocals ret, Jvm.Cond.code ({ cls := "com/example/nepean/nepean/mapping/BasicType$Domain", name := "isNumeric", desc := "()Z" } : Jvm.MethodName) prog_14_method_4_code (1 : Nat) (Option.some Jvm.ClassFile.FieldType.boolean)]
set_option maxRecDepth 65536 in
theorem codes_eq : words1.filter isCode = codes1 := rfl
theorem w_codes : ∀ c ∈ words1.filter isCode, c.before args0 about1 = true := by
  rw [codes_eq]
  intro c hc
  simp only [codes1, List.mem_cons, List.not_mem_nil, or_false] at hc
  rcases hc with rfl | rfl
  · exact w_c0
  · exact w_c1
set_option maxRecDepth 65536 in
theorem w_t1 : (words1.take 24).all (fun c => isCode c || c.before args0 about1) = true := by decide +kernel
set_option maxRecDepth 65536 in
theorem w_t2 : (words1.drop 24).all (fun c => isCode c || c.before args0 about1) = true := by decide +kernel
theorem w_tables : (allAtoms (Jvm.Cond.code x code maxLocals ret :: tables_1)).before args0 about1 = true := by
  rw [allAtoms_all]
  show words1.all (fun c => c.before args0 about1) = true
  refine all_split ?_ w_codes
  rw [← List.take_append_drop 24 words1, List.all_append, w_t1, w_t2]
  rfl
set_option maxRecDepth 65536 in
theorem w_case : (Jvm.Cond.and given_1 narrow_1).before args0 about1 = true := by decide +kernel
theorem w_applies : (headSpec (Jvm.Cond.code x code maxLocals ret :: tables_1) room_1).applies x e0.platform about1 = true :=
  (Spec.applies_iff w_frames).mpr ⟨w_running, w_runnable, w_alone, w_named, w_hears, w_ripe, w_room, w_tables⟩
theorem atStart : AtStart classFile x code maxLocals ret World_1 tables_1 room_1 Calls_1 rest_1 Pre_1 launch0 p0 e0 about1 theMethod args0 below0 :=
  ⟨lists_1, trivial, launch0.admits_env _ _ _, launch0.least_env, fairChoices_fair.cas, fairChoices_fair.clock, w_frames, w_args, w_heap, w_applies, trivial, trivial, w_case⟩
end start1
theorem witness_1 : WitnessClaimed_1 := ⟨start1.p0, start1.e0, start1.about1, start1.theMethod, start1.args0, start1.below0, start1.atStart⟩
end Jvm.Pilot.@@N@@
