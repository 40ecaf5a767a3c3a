import JvmDerived
import JvmDerived.Pilot.@@N@@Statement
import JvmDerived.Pilot.@@N@@Code
set_option linter.unusedVariables false
set_option linter.unusedSimpArgs false
namespace Jvm.RoadKit
open Sem ClassFile Op Lib Jvm.Stand Jvm.Free Jvm.LawKit
section New
variable {p : Program} {l : Launch} {e : Env} {R : Room} {s : State} {m : MethodId} {args : Array Value} {below : List Frame} {meth : Method} {c : Code} {T : State} {locs : List Loc} {cells slots : Nat}
theorem retI (X : Stand p l e R s m args below meth c T locs cells slots) (hx : p.tables.exec = Jvm.exec) {pc : Nat} {Ls : Array Slot} {z : Int32} {rest : List Value} (hret : meth.sig.returnType = some .int) (hd : decode c.code pc = .ok (.ireturn, 1)) {fs : List Frame}
    (hl : ∀ (f : JFrame) (acts : List Action), f.method = m → f.locked = none → f.entered = [] → (doReturn e (T.setTop f) acts (some (.int z))).1 = T.setFrames fs) : Steps p.tables e below (T.setTop (mkF m pc Ls (.int z :: rest))) (T.setFrames fs) := by
  have hm' : T.vm.method? m = some meth := X.method'
  have hn : narrow .int (.int z) = .int z := rfl
  show Steps p.tables e below (T.setTop { method := m, pc := pc, locals := Ls, stack := _ :: rest, locked := none }) _
  jvm_step X.here [X.here.top, hx, hd, hm', hret, hn]
  first | (intro acts; rw [hl _ acts rfl rfl rfl]) | rw [hl _ _ rfl rfl rfl]
  exact Steps.refl _
end New
end Jvm.RoadKit
namespace Jvm.Pilot.@@N@@
open Jvm Jvm.ClassFile Sem Op Lib Jvm.Free Jvm.Stand Jvm.LawKit Jvm.RoadKit Bundle Jvm.Pilot.@@N@@.Jvm.D
def OwnFin (tb : Tables) (e : Env) (below : List Frame) (G : Outcome → State → Prop) (t : State) : Prop := ∃ s₂ o, Steps tb e below t s₂ ∧ s₂.status = .running ∧ Ended s₂ below o ∧ G o s₂
theorem OwnFin.st {tb : Tables} {e : Env} {below : List Frame} {G : Outcome → State → Prop} {t t' : State} (k : ∀ target, Steps tb e below t' target → Steps tb e below t target) (h : OwnFin tb e below G t') : OwnFin tb e below G t := by
  obtain ⟨s2, o, h1, h2⟩ := h
  exact ⟨s2, o, k _ h1, h2⟩
theorem OwnFin.tr {tb : Tables} {e : Env} {below : List Frame} {G : Outcome → State → Prop} {t t' : State} (k : Steps tb e below t t') (h : OwnFin tb e below G t') : OwnFin tb e below G t := by
  obtain ⟨s2, o, h1, h2⟩ := h
  exact ⟨s2, o, k.trans h1, h2⟩
theorem own_nari2c {x : Int32} : nar .char (x.toUInt32.toUInt16.toUInt32.toInt32) = x.toUInt32.toUInt16.toUInt32.toInt32 := by simp only [nar, UInt32.toUInt32_toInt32, UInt16.toUInt16_toUInt32]
theorem own_nari2b {x : Int32} : x.toInt8.toInt32.toInt8.toInt32 = x.toInt8.toInt32 := by simp
theorem own_iteref {P : Prop} [Decidable P] {a b : Value} (ha : a.isRef = true) (hb : b.isRef = true) : (if P then a else b).isRef = true := by split <;> assumption
theorem own_fits {C : String} {v : Value} (h : v.isRef = true) : fits (.object C) v = true := by
  rcases ref_cases h with rfl | ⟨a, rfl⟩ <;> rfl
theorem own_len {s : State} {args : Array Value} {t : Term} {a : Addr} {cl : Cell} {ty : FieldType} {z : Int32} (et : t.eval args s none [] s = some (.ref a)) (A : Arr s s.heap a cl ty) (h : (Term.length t).eval args s none [] s = some (.int z)) : cl.slots.size < 2 ^ 31 ∧ cl.slots.size.toInt32 = z := by
  have q := A.fin (Vm.Alike.refl _)
  by_cases hl : cl.slots.size < 2 ^ 31
  · exact ⟨hl, by have := (len_f et q hl).symm.trans h; cases this; rfl⟩
  · simp [Term.eval, et, q, hl] at h
theorem own_sub128 {s : State} {args : Array Value} {j : Int32} (hj : ¬ j < 0) : (Term.sub (.index 0) (.int 128)).eval args s none [j.toNatClampNeg] s = some (.int (j - 128)) := by
  have q := idx_at (args := args) (s := s) (first := s) (o := none) hj
  simp [Term.eval] at q ⊢
  rw [q]
theorem own_notinst {Z : State} {a0 : Array Value} {C K : String} {n : Nat} (w : (Jvm.Cond.superclass C "java/lang/Object").before a0 Z = true) (wO : (Jvm.Cond.noSuperclass "java/lang/Object").before a0 Z = true) (wk : (Jvm.Cond.instantiable K n).before a0 Z = true) (hn1 : C ≠ K) (hn2 : "java/lang/Object" ≠ K) : ∃ c t, Z.vm.findClass C = some c ∧ Z.vm.findClass K = some t ∧ Z.vm.assignable c t = false := by
  obtain ⟨cO, kO, o1, o2, o3, -, -⟩ := Cond.noSuperclass_spec wO
  obtain ⟨t, kt, g0, g2, g5, g7, -⟩ := Cond.instantiable_spec wk
  have g7' : kt.isInterface = false := (Bool.or_eq_false_iff.mp g7).1
  obtain ⟨c, h0⟩ := found_sup w
  obtain ⟨p, k, kp, h1, h2, h3, h4, h5, -, h7⟩ := Cond.superclass_spec h0 w
  cases o1.symm.trans h1
  have ne1 := ids_ne h0 g0 hn1
  have ne2 := ids_ne o1 g0 hn2
  have n3 : ∀ fuel, Z.vm.isSubclassAux fuel c t = false := fun fuel => by
    cases fuel with
    | zero => rfl
    | succ f =>
      cases f with
      | zero => simp [Vm.isSubclassAux, ne1, h2, h4]
      | succ f => simp [Vm.isSubclassAux, ne1, ne2, h2, h4, o2, o3]
  refine ⟨c, t, h0, g0, ?_⟩
  show Z.vm.assignableAux (255 + 1) c t = false
  simp [Vm.assignableAux, ne1, h2, g2, h5, g5, g7', Vm.isSubclass, n3]
theorem d5_0 : decode jdk_52_method_21_code 0 = .ok (.iconst 0, 1) := by decide +kernel
theorem d5_1 : decode jdk_52_method_21_code 1 = .ok (.istore 5, 2) := by decide +kernel
theorem d5_3 : decode jdk_52_method_21_code 3 = .ok (.iload 5, 2) := by decide +kernel
theorem d5_5 : decode jdk_52_method_21_code 5 = .ok (.iload 4, 2) := by decide +kernel
theorem d5_7 : decode jdk_52_method_21_code 7 = .ok (.if_icmp .ge 37, 3) := by decide +kernel
theorem d5_10 : decode jdk_52_method_21_code 10 = .ok (.aload_n 0, 1) := by decide +kernel
theorem d5_11 : decode jdk_52_method_21_code 11 = .ok (.iload_n 1, 1) := by decide +kernel
theorem d5_12 : decode jdk_52_method_21_code 12 = .ok (.caload, 1) := by decide +kernel
theorem d5_13 : decode jdk_52_method_21_code 13 = .ok (.istore 6, 2) := by decide +kernel
theorem d5_15 : decode jdk_52_method_21_code 15 = .ok (.iload 6, 2) := by decide +kernel
theorem d5_17 : decode jdk_52_method_21_code 17 = .ok (.sipush 255, 3) := by decide +kernel
theorem d5_20 : decode jdk_52_method_21_code 20 = .ok (.if_icmp .le 6, 3) := by decide +kernel
theorem d5_26 : decode jdk_52_method_21_code 26 = .ok (.aload_n 2, 1) := by decide +kernel
theorem d5_27 : decode jdk_52_method_21_code 27 = .ok (.iload_n 3, 1) := by decide +kernel
theorem d5_28 : decode jdk_52_method_21_code 28 = .ok (.iload 6, 2) := by decide +kernel
theorem d5_30 : decode jdk_52_method_21_code 30 = .ok (.i2b, 1) := by decide +kernel
theorem d5_31 : decode jdk_52_method_21_code 31 = .ok (.bastore, 1) := by decide +kernel
theorem d5_32 : decode jdk_52_method_21_code 32 = .ok (.iinc 1 1, 3) := by decide +kernel
theorem d5_35 : decode jdk_52_method_21_code 35 = .ok (.iinc 3 1, 3) := by decide +kernel
theorem d5_38 : decode jdk_52_method_21_code 38 = .ok (.iinc 5 1, 3) := by decide +kernel
theorem d5_41 : decode jdk_52_method_21_code 41 = .ok (.goto (-38), 3) := by decide +kernel
theorem d5_44 : decode jdk_52_method_21_code 44 = .ok (.iload 4, 2) := by decide +kernel
theorem d5_46 : decode jdk_52_method_21_code 46 = .ok (.ireturn, 1) := by decide +kernel
theorem pn_0 : plainName "java/lang/StringUTF16" = true := by first | (simp [plainName, overriddenIn]; done) | decide +kernel
theorem ef_rm_c5_1 (m : MethodId) (a0 : Addr) (a2 : Addr) : entryFrame m #[(.ref a0), (.int (0 : Int32)), (.ref a2), (.int (0 : Int32)), (.int (1 : Int32))] 7 = mkF m 0 #[.val (.ref a0), .val (.int (0 : Int32)), .val (.ref a2), .val (.int (0 : Int32)), .val (.int (1 : Int32)), .unset, .unset] [] := by first | (simp [entryFrame, mkF, argsToLocals, Value.category]; done) | rfl
def Q_rm_c5_1 (Z : State) (a0 : Addr) (a2 : Addr) (k_a0 : ClassId) (c0 : Int32) (k_a2 : ClassId) (h0 : Heap) (n0 : Nat) (v : Option Value) (h : Heap) (L : List Loc) : Prop := v = some (.int (1 : Int32)) ∧ Fr n0 L ∧ Keep h0 h [a2] ∧ Arv Z h a2 k_a2 .byte (1 : Int32) [(.int (c0.toInt8.toInt32))] (.int (0 : Int32))
set_option maxRecDepth 65536 in
set_option maxHeartbeats 40000000 in
theorem rm_c5_1 (l : Launch) (Z : State) (av0 : Array Value) (hw : ∀ d ∈ tables_1, d.before av0 Z = true) (ws : List Jvm.Cond) (a0 : Addr) (a2 : Addr) (k_a0 : ClassId) (c0 : Int32) (k_a2 : ClassId) (h0 : Heap) (n0 : Nat) (Z0 : n0 ≤ h0.size) (V_a0 : Arv Z h0 a0 k_a0 .char (1 : Int32) [(.int c0)] (.int (0 : Int32))) (V_a2 : Arv Z h0 a2 k_a2 .byte (1 : Int32) [(.int (0 : Int32))] (.int (0 : Int32))) (hc0 : ¬ ((255 : Int32) < c0)) (g_a2 : n0 ≤ a2) :
    MetFree l (⟨"java/lang/StringUTF16", "compress", "([CI[BII)I"⟩ : MethodName) (head1 (Jvm.Cond.code (⟨"java/lang/StringUTF16", "compress", "([CI[BII)I"⟩ : MethodName) jdk_52_method_21_code 7 (some .int) :: ws) ({ frames := 0, cells := 0, slots := 0, locals := 0 } : Room)) (fun a U => a = #[(.ref a0), (.int (0 : Int32)), (.ref a2), (.int (0 : Int32)), (.int (1 : Int32))] ∧ Z.Warmed39 U.vm ∧ U.heap = h0) (fun _ _ _ _ _ => True) (fun _ U o U' => ∃ v L, o = .returned v ∧ Q_rm_c5_1 Z a0 a2 k_a0 c0 k_a2 h0 n0 v U'.heap L ∧ FrameEnd U o U' L ({ frames := 0, cells := 0, slots := 0, locals := 0 } : Room).cells ({ frames := 0, cells := 0, slots := 0, locals := 0 } : Room).slots) := by
  refine MetFree.of_bodySF (plainFor_of_name pn_0) hisR ?_
  intro p e s m args below meth c s₁ Bd hml0 hP hK
  obtain ⟨rfl, hZ, hh⟩ := hP
  have hx := Bd.exec
  have hby := Bd.bytes
  have hml : c.maxLocals = 7 := hml0
  have hown : s.vm.findClass "java/lang/StringUTF16" = some m.cls := findClass_of_methodNamed Bd.named
  have hnm := (name_of_methodNamed Bd.named Bd.method).1
  have X0 : Stand p l e ({ frames := 0, cells := 0, slots := 0, locals := 0 } : Room) s m #[(.ref a0), (.int (0 : Int32)), (.ref a2), (.int (0 : Int32)), (.int (1 : Int32))] below meth c s₁ [] 0 0 := Stand.of_body Bd
  have e0 : s₁.heap = h0 := by rw [← hh, Bd.state]; rfl
  have N0 := Fr.nil n0
  have pre0 : ∀ t, Steps p.tables e below (s₁.setTop (mkF m 0 #[.val (.ref a0), .val (.int (0 : Int32)), .val (.ref a2), .val (.int (0 : Int32)), .val (.int (1 : Int32)), .unset, .unset] [])) t → Steps p.tables e below (s₁.setTop (entryFrame m #[(.ref a0), (.int (0 : Int32)), (.ref a2), (.int (0 : Int32)), (.int (1 : Int32))] 7)) t := fun t k => castTop (ef_rm_c5_1 m a0 a2) k
  change OwnFin p.tables e below _ (s₁.setTop (entryFrame m #[(.ref a0), (.int (0 : Int32)), (.ref a2), (.int (0 : Int32)), (.int (1 : Int32))] 7))
  have kp0 : Keep h0 h0 [a2] := Keep.refl _ _
  refine OwnFin.st (fun _ q => pre0 _ q) ?_
  show OwnFin _ _ _ _ (s₁.setTop (mkF m 0 #[.val (.ref a0), .val (.int (0 : Int32)), .val (.ref a2), .val (.int (0 : Int32)), .val (.int (1 : Int32)), .unset, .unset] []))
  refine OwnFin.st (fun _ q => XS.iconst X0.here hx rfl (hb hby d5_0) q) ?_
  show OwnFin _ _ _ _ (s₁.setTop (mkF m 1 #[.val (.ref a0), .val (.int (0 : Int32)), .val (.ref a2), .val (.int (0 : Int32)), .val (.int (1 : Int32)), .unset, .unset] [(.int (0 : Int32))]))
  refine OwnFin.st (fun _ q => XS.istore X0.here hx rfl (hb hby d5_1) rfl (l' := #[.val (.ref a0), .val (.int (0 : Int32)), .val (.ref a2), .val (.int (0 : Int32)), .val (.int (1 : Int32)), .val (.int (0 : Int32)), .unset]) rfl q) ?_
  show OwnFin _ _ _ _ (s₁.setTop (mkF m 3 #[.val (.ref a0), .val (.int (0 : Int32)), .val (.ref a2), .val (.int (0 : Int32)), .val (.int (1 : Int32)), .val (.int (0 : Int32)), .unset] []))
  refine OwnFin.st (fun _ q => XS.iload X0.here hx rfl (hb hby d5_3) rfl q) ?_
  show OwnFin _ _ _ _ (s₁.setTop (mkF m 5 #[.val (.ref a0), .val (.int (0 : Int32)), .val (.ref a2), .val (.int (0 : Int32)), .val (.int (1 : Int32)), .val (.int (0 : Int32)), .unset] [(.int (0 : Int32))]))
  refine OwnFin.st (fun _ q => XS.iload X0.here hx rfl (hb hby d5_5) rfl q) ?_
  show OwnFin _ _ _ _ (s₁.setTop (mkF m 7 #[.val (.ref a0), .val (.int (0 : Int32)), .val (.ref a2), .val (.int (0 : Int32)), .val (.int (1 : Int32)), .val (.int (0 : Int32)), .unset] [(.int (1 : Int32)), (.int (0 : Int32))]))
  refine OwnFin.st (fun _ q => XS.icmpNo X0.here hx rfl (hb hby d5_7) rfl (Jvm.Free.XT.ii_ge_f (by decide : (0 : Int32) < (1 : Int32))) q) ?_
  show OwnFin _ _ _ _ (s₁.setTop (mkF m 10 #[.val (.ref a0), .val (.int (0 : Int32)), .val (.ref a2), .val (.int (0 : Int32)), .val (.int (1 : Int32)), .val (.int (0 : Int32)), .unset] []))
  refine OwnFin.st (fun _ q => XS.aloadN X0.here hx rfl (hb hby d5_10) rfl rfl q) ?_
  show OwnFin _ _ _ _ (s₁.setTop (mkF m 11 #[.val (.ref a0), .val (.int (0 : Int32)), .val (.ref a2), .val (.int (0 : Int32)), .val (.int (1 : Int32)), .val (.int (0 : Int32)), .unset] [(.ref a0)]))
  refine OwnFin.st (fun _ q => XS.iloadN X0.here hx rfl (hb hby d5_11) rfl q) ?_
  show OwnFin _ _ _ _ (s₁.setTop (mkF m 12 #[.val (.ref a0), .val (.int (0 : Int32)), .val (.ref a2), .val (.int (0 : Int32)), .val (.int (1 : Int32)), .val (.int (0 : Int32)), .unset] [(.int (0 : Int32)), (.ref a0)]))
  have Vo1 : Arv Z h0 a0 k_a0 .char (1 : Int32) [(.int c0)] (.int (0 : Int32)) := V_a0
  obtain ⟨cl1, Ar1, qa1, Sa1, Na1, Ha1, Ga1⟩ := id Vo1
  have hin1 : ¬ ((0 : Int32) < 0 ∨ cl1.slots.size ≤ ((0 : Int32)).toNatClampNeg) := inb_of Sa1 ⟨by decide, by decide⟩
  refine OwnFin.st (X0.caload hx (j := (0 : Int32)) (v := (.int c0)) (by rw [e0]; exact Ar1.1) (State.isArrayOf_alike (hZ).alike Ar1.2.1) Ar1.2.2 hin1 (Ha1.at hin1 rfl) (g := (mkF m 12 #[.val (.ref a0), .val (.int (0 : Int32)), .val (.ref a2), .val (.int (0 : Int32)), .val (.int (1 : Int32)), .val (.int (0 : Int32)), .unset] [(.int (0 : Int32)), (.ref a0)])) rfl rfl (hb hby d5_12)) ?_
  show OwnFin _ _ _ _ (s₁.setTop (mkF m 13 #[.val (.ref a0), .val (.int (0 : Int32)), .val (.ref a2), .val (.int (0 : Int32)), .val (.int (1 : Int32)), .val (.int (0 : Int32)), .unset] [(.int c0)]))
  refine OwnFin.st (fun _ q => XS.istore X0.here hx rfl (hb hby d5_13) rfl (l' := #[.val (.ref a0), .val (.int (0 : Int32)), .val (.ref a2), .val (.int (0 : Int32)), .val (.int (1 : Int32)), .val (.int (0 : Int32)), .val (.int c0)]) rfl q) ?_
  show OwnFin _ _ _ _ (s₁.setTop (mkF m 15 #[.val (.ref a0), .val (.int (0 : Int32)), .val (.ref a2), .val (.int (0 : Int32)), .val (.int (1 : Int32)), .val (.int (0 : Int32)), .val (.int c0)] []))
  refine OwnFin.st (fun _ q => XS.iload X0.here hx rfl (hb hby d5_15) rfl q) ?_
  show OwnFin _ _ _ _ (s₁.setTop (mkF m 17 #[.val (.ref a0), .val (.int (0 : Int32)), .val (.ref a2), .val (.int (0 : Int32)), .val (.int (1 : Int32)), .val (.int (0 : Int32)), .val (.int c0)] [(.int c0)]))
  refine OwnFin.st (fun _ q => XS.sipush X0.here hx rfl (hb hby d5_17) q) ?_
  show OwnFin _ _ _ _ (s₁.setTop (mkF m 20 #[.val (.ref a0), .val (.int (0 : Int32)), .val (.ref a2), .val (.int (0 : Int32)), .val (.int (1 : Int32)), .val (.int (0 : Int32)), .val (.int c0)] [(.int (255 : Int32)), (.int c0)]))
  refine OwnFin.st (fun _ q => XS.icmpYes X0.here hx rfl (pc0 := 20) (pc' := 26) rfl (hb hby d5_20) rfl (Jvm.Free.XT.ii_le_t hc0) (by decide) (by decide) q) ?_
  show OwnFin _ _ _ _ (s₁.setTop (mkF m 26 #[.val (.ref a0), .val (.int (0 : Int32)), .val (.ref a2), .val (.int (0 : Int32)), .val (.int (1 : Int32)), .val (.int (0 : Int32)), .val (.int c0)] []))
  refine OwnFin.st (fun _ q => XS.aloadN X0.here hx rfl (hb hby d5_26) rfl rfl q) ?_
  show OwnFin _ _ _ _ (s₁.setTop (mkF m 27 #[.val (.ref a0), .val (.int (0 : Int32)), .val (.ref a2), .val (.int (0 : Int32)), .val (.int (1 : Int32)), .val (.int (0 : Int32)), .val (.int c0)] [(.ref a2)]))
  refine OwnFin.st (fun _ q => XS.iloadN X0.here hx rfl (hb hby d5_27) rfl q) ?_
  show OwnFin _ _ _ _ (s₁.setTop (mkF m 28 #[.val (.ref a0), .val (.int (0 : Int32)), .val (.ref a2), .val (.int (0 : Int32)), .val (.int (1 : Int32)), .val (.int (0 : Int32)), .val (.int c0)] [(.int (0 : Int32)), (.ref a2)]))
  refine OwnFin.st (fun _ q => XS.iload X0.here hx rfl (hb hby d5_28) rfl q) ?_
  show OwnFin _ _ _ _ (s₁.setTop (mkF m 30 #[.val (.ref a0), .val (.int (0 : Int32)), .val (.ref a2), .val (.int (0 : Int32)), .val (.int (1 : Int32)), .val (.int (0 : Int32)), .val (.int c0)] [(.int c0), (.int (0 : Int32)), (.ref a2)]))
  refine OwnFin.st (fun _ q => XS.i2b X0.here hx rfl (hb hby d5_30) rfl q) ?_
  show OwnFin _ _ _ _ (s₁.setTop (mkF m 31 #[.val (.ref a0), .val (.int (0 : Int32)), .val (.ref a2), .val (.int (0 : Int32)), .val (.int (1 : Int32)), .val (.int (0 : Int32)), .val (.int c0)] [(.int (c0.toInt8.toInt32)), (.int (0 : Int32)), (.ref a2)]))
  have Vo2 : Arv Z h0 a2 k_a2 .byte (1 : Int32) [(.int (0 : Int32))] (.int (0 : Int32)) := V_a2
  obtain ⟨cl2, Ar2, qa2, Sa2, Na2, Ha2, Ga2⟩ := id Vo2
  obtain ⟨T2, h2, X2, e2, W2, st2⟩ := stB X0 hx hZ e0 Ar2 (j := (0 : Int32)) (inb_of Sa2 ⟨by decide, by decide⟩) (g := (mkF m 31 #[.val (.ref a0), .val (.int (0 : Int32)), .val (.ref a2), .val (.int (0 : Int32)), .val (.int (1 : Int32)), .val (.int (0 : Int32)), .val (.int c0)] [(.int (c0.toInt8.toInt32)), (.int (0 : Int32)), (.ref a2)])) rfl rfl (hb hby d5_31)
  refine OwnFin.st st2 ?_
  have V2 : Arv Z h2 a2 k_a2 .byte (1 : Int32) [(.int (c0.toInt8.toInt32))] (.int (0 : Int32)) := by
    have z := Arv.set Ar2 qa2 Sa2 Na2 Ha2 Ga2 (fits_nar_byte _) W2 0 rfl (Nat.le_of_ble_eq_true rfl)
    rw [own_nari2b] at z
    exact z
  have N2 := Fr.snoc X2 N0 g_a2
  have kp3 : Keep h0 h2 [a2] := kp0.wr W2 (Or.inl (List.mem_of_getElem? (i := 0) rfl))
  show OwnFin _ _ _ _ (T2.setTop (mkF m 32 #[.val (.ref a0), .val (.int (0 : Int32)), .val (.ref a2), .val (.int (0 : Int32)), .val (.int (1 : Int32)), .val (.int (0 : Int32)), .val (.int c0)] []))
  refine OwnFin.st (fun _ q => XS.iinc X2.here hx rfl (hb hby d5_32) rfl (l' := #[.val (.ref a0), .val (.int ((0 : Int32) + (1 : Int32))), .val (.ref a2), .val (.int (0 : Int32)), .val (.int (1 : Int32)), .val (.int (0 : Int32)), .val (.int c0)]) rfl q) ?_
  show OwnFin _ _ _ _ (T2.setTop (mkF m 35 #[.val (.ref a0), .val (.int ((0 : Int32) + (1 : Int32))), .val (.ref a2), .val (.int (0 : Int32)), .val (.int (1 : Int32)), .val (.int (0 : Int32)), .val (.int c0)] []))
  refine OwnFin.st (fun _ q => XS.iinc X2.here hx rfl (hb hby d5_35) rfl (l' := #[.val (.ref a0), .val (.int ((0 : Int32) + (1 : Int32))), .val (.ref a2), .val (.int ((0 : Int32) + (1 : Int32))), .val (.int (1 : Int32)), .val (.int (0 : Int32)), .val (.int c0)]) rfl q) ?_
  show OwnFin _ _ _ _ (T2.setTop (mkF m 38 #[.val (.ref a0), .val (.int ((0 : Int32) + (1 : Int32))), .val (.ref a2), .val (.int ((0 : Int32) + (1 : Int32))), .val (.int (1 : Int32)), .val (.int (0 : Int32)), .val (.int c0)] []))
  refine OwnFin.st (fun _ q => XS.iinc X2.here hx rfl (hb hby d5_38) rfl (l' := #[.val (.ref a0), .val (.int ((0 : Int32) + (1 : Int32))), .val (.ref a2), .val (.int ((0 : Int32) + (1 : Int32))), .val (.int (1 : Int32)), .val (.int ((0 : Int32) + (1 : Int32))), .val (.int c0)]) rfl q) ?_
  show OwnFin _ _ _ _ (T2.setTop (mkF m 41 #[.val (.ref a0), .val (.int ((0 : Int32) + (1 : Int32))), .val (.ref a2), .val (.int ((0 : Int32) + (1 : Int32))), .val (.int (1 : Int32)), .val (.int ((0 : Int32) + (1 : Int32))), .val (.int c0)] []))
  refine OwnFin.st (fun _ q => XS.goto X2.here hx rfl (pc0 := 41) (pc' := 3) rfl (hb hby d5_41) (by decide) (by decide) q) ?_
  show OwnFin _ _ _ _ (T2.setTop (mkF m 3 #[.val (.ref a0), .val (.int ((0 : Int32) + (1 : Int32))), .val (.ref a2), .val (.int ((0 : Int32) + (1 : Int32))), .val (.int (1 : Int32)), .val (.int ((0 : Int32) + (1 : Int32))), .val (.int c0)] []))
  refine OwnFin.st (fun _ q => XS.iload X2.here hx rfl (hb hby d5_3) rfl q) ?_
  show OwnFin _ _ _ _ (T2.setTop (mkF m 5 #[.val (.ref a0), .val (.int ((0 : Int32) + (1 : Int32))), .val (.ref a2), .val (.int ((0 : Int32) + (1 : Int32))), .val (.int (1 : Int32)), .val (.int ((0 : Int32) + (1 : Int32))), .val (.int c0)] [(.int ((0 : Int32) + (1 : Int32)))]))
  refine OwnFin.st (fun _ q => XS.iload X2.here hx rfl (hb hby d5_5) rfl q) ?_
  show OwnFin _ _ _ _ (T2.setTop (mkF m 7 #[.val (.ref a0), .val (.int ((0 : Int32) + (1 : Int32))), .val (.ref a2), .val (.int ((0 : Int32) + (1 : Int32))), .val (.int (1 : Int32)), .val (.int ((0 : Int32) + (1 : Int32))), .val (.int c0)] [(.int (1 : Int32)), (.int ((0 : Int32) + (1 : Int32)))]))
  refine OwnFin.st (fun _ q => XS.icmpYes X2.here hx rfl (pc0 := 7) (pc' := 44) rfl (hb hby d5_7) rfl (Jvm.Free.XT.ii_ge_t (by decide : ¬ (((0 : Int32) + (1 : Int32)) < (1 : Int32)))) (by decide) (by decide) q) ?_
  show OwnFin _ _ _ _ (T2.setTop (mkF m 44 #[.val (.ref a0), .val (.int ((0 : Int32) + (1 : Int32))), .val (.ref a2), .val (.int ((0 : Int32) + (1 : Int32))), .val (.int (1 : Int32)), .val (.int ((0 : Int32) + (1 : Int32))), .val (.int c0)] []))
  refine OwnFin.st (fun _ q => XS.iload X2.here hx rfl (hb hby d5_44) rfl q) ?_
  show OwnFin _ _ _ _ (T2.setTop (mkF m 46 #[.val (.ref a0), .val (.int ((0 : Int32) + (1 : Int32))), .val (.ref a2), .val (.int ((0 : Int32) + (1 : Int32))), .val (.int (1 : Int32)), .val (.int ((0 : Int32) + (1 : Int32))), .val (.int c0)] [(.int (1 : Int32))]))
  obtain ⟨fs, hr, hrun, hended, hW, hsame⟩ := X2.leave (v := some (.int (1 : Int32))) (fun h => by rw [Bd.returns] at h; cases h)
  refine ⟨_, _, retI X2 hx Bd.returns (hb hby d5_46) hr, hrun, hended, _, _, rfl, ?_, ⟨_, rfl⟩, hW, hsame.mono (by decide) (by decide)⟩
  show Q_rm_c5_1 Z a0 a2 k_a0 c0 k_a2 h0 n0 _ T2.heap _
  rw [e2]
  exact ⟨rfl, N2, kp3, V2⟩
theorem pd_0 : parseMethodDescriptor "([CI[BII)I" = some ⟨[(.array .char), .int, (.array .byte), .int, .int], some .int⟩ := by decide +kernel
theorem d4_0 : decode jdk_52_method_16_code 0 = .ok (.iload_n 2, 1) := by decide +kernel
theorem d4_1 : decode jdk_52_method_16_code 1 = .ok (.newarray .byte, 2) := by decide +kernel
theorem d4_3 : decode jdk_52_method_16_code 3 = .ok (.astore_n 3, 1) := by decide +kernel
theorem d4_4 : decode jdk_52_method_16_code 4 = .ok (.aload_n 0, 1) := by decide +kernel
theorem d4_5 : decode jdk_52_method_16_code 5 = .ok (.iload_n 1, 1) := by decide +kernel
theorem d4_6 : decode jdk_52_method_16_code 6 = .ok (.aload_n 3, 1) := by decide +kernel
theorem d4_7 : decode jdk_52_method_16_code 7 = .ok (.iconst 0, 1) := by decide +kernel
theorem d4_8 : decode jdk_52_method_16_code 8 = .ok (.iload_n 2, 1) := by decide +kernel
theorem d4_9 : decode jdk_52_method_16_code 9 = .ok (.invokestatic 115, 3) := by decide +kernel
theorem d4_12 : decode jdk_52_method_16_code 12 = .ok (.istore 4, 2) := by decide +kernel
theorem d4_14 : decode jdk_52_method_16_code 14 = .ok (.iload 4, 2) := by decide +kernel
theorem d4_16 : decode jdk_52_method_16_code 16 = .ok (.iload_n 2, 1) := by decide +kernel
theorem d4_17 : decode jdk_52_method_16_code 17 = .ok (.if_icmp .eq 40, 3) := by decide +kernel
theorem d4_57 : decode jdk_52_method_16_code 57 = .ok (.aload_n 3, 1) := by decide +kernel
theorem d4_58 : decode jdk_52_method_16_code 58 = .ok (.areturn, 1) := by decide +kernel
theorem ef_rm_c3_1 (m : MethodId) (a0 : Addr) : entryFrame m #[(.ref a0), (.int (0 : Int32)), (.int (1 : Int32))] 6 = mkF m 0 #[.val (.ref a0), .val (.int (0 : Int32)), .val (.int (1 : Int32)), .unset, .unset, .unset] [] := by first | (simp [entryFrame, mkF, argsToLocals, Value.category]; done) | rfl
def Q_rm_c3_1 (Z : State) (a0 : Addr) (k_a0 : ClassId) (c0 : Int32) (h0 : Heap) (n0 : Nat) (v : Option Value) (h : Heap) (L : List Loc) : Prop := ∃ b1 : Addr, ∃ k1 : ClassId, v = some (.ref b1) ∧ Fr n0 L ∧ Keep h0 h [] ∧ h0.size ≤ b1 ∧ Arv Z h b1 k1 .byte (1 : Int32) [(.int (c0.toInt8.toInt32))] (.int (0 : Int32))
set_option maxRecDepth 65536 in
set_option maxHeartbeats 40000000 in
theorem rm_c3_1 (l : Launch) (Z : State) (av0 : Array Value) (hw : ∀ d ∈ tables_1, d.before av0 Z = true) (ws : List Jvm.Cond) (a0 : Addr) (k_a0 : ClassId) (c0 : Int32) (h0 : Heap) (n0 : Nat) (Z0 : n0 ≤ h0.size) (V_a0 : Arv Z h0 a0 k_a0 .char (1 : Int32) [(.int c0)] (.int (0 : Int32))) (hc0 : ¬ ((255 : Int32) < c0)) :
    MetFree l (⟨"java/lang/StringUTF16", "compress", "([CII)[B"⟩ : MethodName) (head1 (Jvm.Cond.code (⟨"java/lang/StringUTF16", "compress", "([CII)[B"⟩ : MethodName) jdk_52_method_16_code 6 (some (.array .byte)) :: ws) ({ frames := 1, cells := 1, slots := 1, locals := 18 } : Room)) (fun a U => a = #[(.ref a0), (.int (0 : Int32)), (.int (1 : Int32))] ∧ Z.Warmed39 U.vm ∧ U.heap = h0) (fun _ _ _ _ _ => True) (fun _ U o U' => ∃ v L, o = .returned v ∧ Q_rm_c3_1 Z a0 k_a0 c0 h0 n0 v U'.heap L ∧ FrameEnd U o U' L ({ frames := 1, cells := 1, slots := 1, locals := 18 } : Room).cells ({ frames := 1, cells := 1, slots := 1, locals := 18 } : Room).slots) := by
  refine MetFree.of_bodySF (plainFor_of_name pn_0) hisR ?_
  intro p e s m args below meth c s₁ Bd hml0 hP hK
  obtain ⟨rfl, hZ, hh⟩ := hP
  have hx := Bd.exec
  have hby := Bd.bytes
  have hml : c.maxLocals = 6 := hml0
  have hown : s.vm.findClass "java/lang/StringUTF16" = some m.cls := findClass_of_methodNamed Bd.named
  have hnm := (name_of_methodNamed Bd.named Bd.method).1
  have X0 : Stand p l e ({ frames := 1, cells := 1, slots := 1, locals := 18 } : Room) s m #[(.ref a0), (.int (0 : Int32)), (.int (1 : Int32))] below meth c s₁ [] 0 0 := Stand.of_body Bd
  have e0 : s₁.heap = h0 := by rw [← hh, Bd.state]; rfl
  have N0 := Fr.nil n0
  have pre0 : ∀ t, Steps p.tables e below (s₁.setTop (mkF m 0 #[.val (.ref a0), .val (.int (0 : Int32)), .val (.int (1 : Int32)), .unset, .unset, .unset] [])) t → Steps p.tables e below (s₁.setTop (entryFrame m #[(.ref a0), (.int (0 : Int32)), (.int (1 : Int32))] 6)) t := fun t k => castTop (ef_rm_c3_1 m a0) k
  change OwnFin p.tables e below _ (s₁.setTop (entryFrame m #[(.ref a0), (.int (0 : Int32)), (.int (1 : Int32))] 6))
  have kp0 : Keep h0 h0 [] := Keep.refl _ _
  refine OwnFin.st (fun _ q => pre0 _ q) ?_
  show OwnFin _ _ _ _ (s₁.setTop (mkF m 0 #[.val (.ref a0), .val (.int (0 : Int32)), .val (.int (1 : Int32)), .unset, .unset, .unset] []))
  refine OwnFin.st (fun _ q => XS.iloadN X0.here hx rfl (hb hby d4_0) rfl q) ?_
  show OwnFin _ _ _ _ (s₁.setTop (mkF m 1 #[.val (.ref a0), .val (.int (0 : Int32)), .val (.int (1 : Int32)), .unset, .unset, .unset] [(.int (1 : Int32))]))
  obtain ⟨T1, h1, k1, X1, e1, E1, A1, st1⟩ := newP X0 hx hZ (hw _ (List.mem_of_getElem? (i := 19) rfl)) e0 (g := (mkF m 1 #[.val (.ref a0), .val (.int (0 : Int32)), .val (.int (1 : Int32)), .unset, .unset, .unset] [(.int (1 : Int32))])) rfl (hb hby d4_1) rfl (by decide) (cap := 1) (by decide) (by decide) (by decide) (by decide)
  obtain ⟨b1, qe1⟩ : ∃ z, z = h0.size := ⟨_, rfl⟩
  rw [← qe1] at A1 st1
  refine OwnFin.st st1 ?_
  have bi_b1 : h0.size ≤ b1 := Nat.le_of_eq qe1.symm
  have lo_b1 : h0.size ≤ b1 := Nat.le_trans kp0.1 bi_b1
  have g_b1 : n0 ≤ b1 := Nat.le_trans Z0 lo_b1
  have kp2 : Keep h0 h1 [] := kp0.ext E1
  have V1 : Arv Z h1 b1 k1 .byte (1 : Int32) [(.int (0 : Int32))] (.int (0 : Int32)) := (Arv.new A1 (by decide)).pad (pad_rep [] (.int (0 : Int32)) 1)
  show OwnFin _ _ _ _ (T1.setTop (mkF m 3 #[.val (.ref a0), .val (.int (0 : Int32)), .val (.int (1 : Int32)), .unset, .unset, .unset] [(.ref b1)]))
  refine OwnFin.st (fun _ q => XS.astoreN X1.here hx rfl (hb hby d4_3) rfl rfl (l' := #[.val (.ref a0), .val (.int (0 : Int32)), .val (.int (1 : Int32)), .val (.ref b1), .unset, .unset]) rfl q) ?_
  show OwnFin _ _ _ _ (T1.setTop (mkF m 4 #[.val (.ref a0), .val (.int (0 : Int32)), .val (.int (1 : Int32)), .val (.ref b1), .unset, .unset] []))
  refine OwnFin.st (fun _ q => XS.aloadN X1.here hx rfl (hb hby d4_4) rfl rfl q) ?_
  show OwnFin _ _ _ _ (T1.setTop (mkF m 5 #[.val (.ref a0), .val (.int (0 : Int32)), .val (.int (1 : Int32)), .val (.ref b1), .unset, .unset] [(.ref a0)]))
  refine OwnFin.st (fun _ q => XS.iloadN X1.here hx rfl (hb hby d4_5) rfl q) ?_
  show OwnFin _ _ _ _ (T1.setTop (mkF m 6 #[.val (.ref a0), .val (.int (0 : Int32)), .val (.int (1 : Int32)), .val (.ref b1), .unset, .unset] [(.int (0 : Int32)), (.ref a0)]))
  refine OwnFin.st (fun _ q => XS.aloadN X1.here hx rfl (hb hby d4_6) rfl rfl q) ?_
  show OwnFin _ _ _ _ (T1.setTop (mkF m 7 #[.val (.ref a0), .val (.int (0 : Int32)), .val (.int (1 : Int32)), .val (.ref b1), .unset, .unset] [(.ref b1), (.int (0 : Int32)), (.ref a0)]))
  refine OwnFin.st (fun _ q => XS.iconst X1.here hx rfl (hb hby d4_7) q) ?_
  show OwnFin _ _ _ _ (T1.setTop (mkF m 8 #[.val (.ref a0), .val (.int (0 : Int32)), .val (.int (1 : Int32)), .val (.ref b1), .unset, .unset] [(.int (0 : Int32)), (.ref b1), (.int (0 : Int32)), (.ref a0)]))
  refine OwnFin.st (fun _ q => XS.iloadN X1.here hx rfl (hb hby d4_8) rfl q) ?_
  show OwnFin _ _ _ _ (T1.setTop (mkF m 9 #[.val (.ref a0), .val (.int (0 : Int32)), .val (.int (1 : Int32)), .val (.ref b1), .unset, .unset] [(.int (1 : Int32)), (.int (0 : Int32)), (.ref b1), (.int (0 : Int32)), (.ref a0)]))
  show OwnFin _ _ _ _ (T1.setTop (mkF m 9 #[.val (.ref a0), .val (.int (0 : Int32)), .val (.int (1 : Int32)), .val (.ref b1), .unset, .unset] [(.int (1 : Int32)), (.int (0 : Int32)), (.ref b1), (.int (0 : Int32)), (.ref a0)]))
  obtain ⟨_, _, ⟨T3, L3, k3, n3⟩, -, X3, ⟨Lc3, hQ3, l3, y3, z3⟩, st3⟩ := Jvm.LawKit.callS X1 hx (y := (⟨"java/lang/StringUTF16", "compress", "([CI[BII)I"⟩ : MethodName)) hown (mvT hZ (hw _ (List.mem_of_getElem? (i := 20) rfl))) (mvT hZ (hw _ (List.mem_of_getElem? (i := 21) rfl))) (mvT hZ (hw _ (List.mem_of_getElem? (i := 17) rfl))) (mvT hZ (hw _ (List.mem_of_getElem? (i := 22) rfl))) (by decide) (backOf (W := 0) (rm_c5_1 l Z av0 hw [] a0 b1 k_a0 c0 k1 h1 n0 (Nat.le_trans Z0 kp2.1) (V_a0.ext E1) V1 hc0 g_b1) hZ (hw _ (List.mem_of_getElem? (i := 22) rfl)) (hw _ (List.mem_of_getElem? (i := 17) rfl)) (by decide) (by decide)) (g := (mkF m 9 #[.val (.ref a0), .val (.int (0 : Int32)), .val (.int (1 : Int32)), .val (.ref b1), .unset, .unset] [(.int (1 : Int32)), (.int (0 : Int32)), (.ref b1), (.int (0 : Int32)), (.ref a0)])) rfl (by rw [hml]; rfl) (argsL := [(.ref a0), (.int (0 : Int32)), (.ref b1), (.int (0 : Int32)), (.int (1 : Int32))]) (rest := []) (lenOf pd_0 rfl) rfl (by show 2 * 0 + _ ≤ _; exact Nat.le_of_eq rfl) (hb hby d4_9) (fun _ _ => ⟨rfl, e1, (by decide : 1 + 0 ≤ _), (by decide : 1 + 0 ≤ _)⟩)
  dsimp only [Pt.U, Pt.locs, Pt.cells, Pt.slots] at X3 l3 y3 z3 st3 hQ3
  subst l3 y3 z3
  obtain ⟨rfl, N3q, K3, r3_0⟩ := hQ3
  have N3 := Fr.app N0 N3q
  refine OwnFin.st st3 ?_
  obtain ⟨h3, e3⟩ : ∃ z, T3.heap = z := ⟨_, rfl⟩
  rw [e3] at K3 r3_0
  have kp4 : Keep h0 h3 [] := kp2.trans K3 (allS (Or.inr lo_b1) all0)
  show OwnFin _ _ _ _ (T3.setTop (mkF m 12 #[.val (.ref a0), .val (.int (0 : Int32)), .val (.int (1 : Int32)), .val (.ref b1), .unset, .unset] [(.int (1 : Int32))]))
  refine OwnFin.st (fun _ q => XS.istore X3.here hx rfl (hb hby d4_12) rfl (l' := #[.val (.ref a0), .val (.int (0 : Int32)), .val (.int (1 : Int32)), .val (.ref b1), .val (.int (1 : Int32)), .unset]) rfl q) ?_
  show OwnFin _ _ _ _ (T3.setTop (mkF m 14 #[.val (.ref a0), .val (.int (0 : Int32)), .val (.int (1 : Int32)), .val (.ref b1), .val (.int (1 : Int32)), .unset] []))
  refine OwnFin.st (fun _ q => XS.iload X3.here hx rfl (hb hby d4_14) rfl q) ?_
  show OwnFin _ _ _ _ (T3.setTop (mkF m 16 #[.val (.ref a0), .val (.int (0 : Int32)), .val (.int (1 : Int32)), .val (.ref b1), .val (.int (1 : Int32)), .unset] [(.int (1 : Int32))]))
  refine OwnFin.st (fun _ q => XS.iloadN X3.here hx rfl (hb hby d4_16) rfl q) ?_
  show OwnFin _ _ _ _ (T3.setTop (mkF m 17 #[.val (.ref a0), .val (.int (0 : Int32)), .val (.int (1 : Int32)), .val (.ref b1), .val (.int (1 : Int32)), .unset] [(.int (1 : Int32)), (.int (1 : Int32))]))
  refine OwnFin.st (fun _ q => XS.icmpYes X3.here hx rfl (pc0 := 17) (pc' := 57) rfl (hb hby d4_17) rfl (Jvm.Free.XT.ii_eq_t (rfl : (1 : Int32) = (1 : Int32))) (by decide) (by decide) q) ?_
  show OwnFin _ _ _ _ (T3.setTop (mkF m 57 #[.val (.ref a0), .val (.int (0 : Int32)), .val (.int (1 : Int32)), .val (.ref b1), .val (.int (1 : Int32)), .unset] []))
  refine OwnFin.st (fun _ q => XS.aloadN X3.here hx rfl (hb hby d4_57) rfl rfl q) ?_
  show OwnFin _ _ _ _ (T3.setTop (mkF m 58 #[.val (.ref a0), .val (.int (0 : Int32)), .val (.int (1 : Int32)), .val (.ref b1), .val (.int (1 : Int32)), .unset] [(.ref b1)]))
  obtain ⟨fs, hr, hrun, hended, hW, hsame⟩ := X3.leave (v := some (.ref b1)) (fun h => by rw [Bd.returns] at h; cases h)
  refine ⟨_, _, retOut X3 hx Bd.returns rfl (Or.inr (Or.inr (Or.inr (Or.inr ⟨rfl, rfl, rfl⟩)))) (hb hby d4_58) hr, hrun, hended, _, _, rfl, ?_, ⟨_, rfl⟩, hW, hsame.mono (by decide) (by decide)⟩
  show Q_rm_c3_1 Z a0 k_a0 c0 h0 n0 _ T3.heap _
  rw [e3]
  exact ⟨b1, k1, rfl, N3, kp4, lo_b1, r3_0⟩
theorem d6_0 : decode jdk_52_method_15_code 0 = .ok (.iload_n 1, 1) := by decide +kernel
theorem d6_1 : decode jdk_52_method_15_code 1 = .ok (.aload_n 0, 1) := by decide +kernel
theorem d6_2 : decode jdk_52_method_15_code 2 = .ok (.arraylength, 1) := by decide +kernel
theorem d6_3 : decode jdk_52_method_15_code 3 = .ok (.isub, 1) := by decide +kernel
theorem d6_4 : decode jdk_52_method_15_code 4 = .ok (.bipush 31, 2) := by decide +kernel
theorem d6_6 : decode jdk_52_method_15_code 6 = .ok (.iushr, 1) := by decide +kernel
theorem d6_7 : decode jdk_52_method_15_code 7 = .ok (.i2b, 1) := by decide +kernel
theorem d6_8 : decode jdk_52_method_15_code 8 = .ok (.ireturn, 1) := by decide +kernel
theorem ef_rm_cl_1 (m : MethodId) (a0 : Addr) : entryFrame m #[(.ref a0), (.int (1 : Int32))] 2 = mkF m 0 #[.val (.ref a0), .val (.int (1 : Int32))] [] := by first | (simp [entryFrame, mkF, argsToLocals, Value.category]; done) | rfl
def Q_rm_cl_1 (Z : State) (a0 : Addr) (k_a0 : ClassId) (y0 : Int32) (h0 : Heap) (n0 : Nat) (v : Option Value) (h : Heap) (L : List Loc) : Prop := v = some (.int (0 : Int32)) ∧ Fr n0 L ∧ h = h0
set_option maxRecDepth 65536 in
set_option maxHeartbeats 40000000 in
theorem rm_cl_1 (l : Launch) (Z : State) (av0 : Array Value) (hw : ∀ d ∈ tables_1, d.before av0 Z = true) (ws : List Jvm.Cond) (a0 : Addr) (k_a0 : ClassId) (y0 : Int32) (h0 : Heap) (n0 : Nat) (Z0 : n0 ≤ h0.size) (V_a0 : Arv Z h0 a0 k_a0 .byte (1 : Int32) [(.int y0)] (.int (0 : Int32))) :
    MetFree l (⟨"java/lang/StringUTF16", "coderFromArrayLen", "([BI)B"⟩ : MethodName) (head1 (Jvm.Cond.code (⟨"java/lang/StringUTF16", "coderFromArrayLen", "([BI)B"⟩ : MethodName) jdk_52_method_15_code 2 (some .byte) :: ws) ({ frames := 0, cells := 0, slots := 0, locals := 0 } : Room)) (fun a U => a = #[(.ref a0), (.int (1 : Int32))] ∧ Z.Warmed39 U.vm ∧ U.heap = h0) (fun _ _ _ _ _ => True) (fun _ U o U' => ∃ v L, o = .returned v ∧ Q_rm_cl_1 Z a0 k_a0 y0 h0 n0 v U'.heap L ∧ FrameEnd U o U' L ({ frames := 0, cells := 0, slots := 0, locals := 0 } : Room).cells ({ frames := 0, cells := 0, slots := 0, locals := 0 } : Room).slots) := by
  refine MetFree.of_bodySF (plainFor_of_name pn_0) hisR ?_
  intro p e s m args below meth c s₁ Bd hml0 hP hK
  obtain ⟨rfl, hZ, hh⟩ := hP
  have hx := Bd.exec
  have hby := Bd.bytes
  have hml : c.maxLocals = 2 := hml0
  have hown : s.vm.findClass "java/lang/StringUTF16" = some m.cls := findClass_of_methodNamed Bd.named
  have hnm := (name_of_methodNamed Bd.named Bd.method).1
  have X0 : Stand p l e ({ frames := 0, cells := 0, slots := 0, locals := 0 } : Room) s m #[(.ref a0), (.int (1 : Int32))] below meth c s₁ [] 0 0 := Stand.of_body Bd
  have e0 : s₁.heap = h0 := by rw [← hh, Bd.state]; rfl
  have N0 := Fr.nil n0
  have pre0 : ∀ t, Steps p.tables e below (s₁.setTop (mkF m 0 #[.val (.ref a0), .val (.int (1 : Int32))] [])) t → Steps p.tables e below (s₁.setTop (entryFrame m #[(.ref a0), (.int (1 : Int32))] 2)) t := fun t k => castTop (ef_rm_cl_1 m a0) k
  change OwnFin p.tables e below _ (s₁.setTop (entryFrame m #[(.ref a0), (.int (1 : Int32))] 2))
  have kp0 : Keep h0 h0 [] := Keep.refl _ _
  refine OwnFin.st (fun _ q => pre0 _ q) ?_
  show OwnFin _ _ _ _ (s₁.setTop (mkF m 0 #[.val (.ref a0), .val (.int (1 : Int32))] []))
  refine OwnFin.st (fun _ q => XS.iloadN X0.here hx rfl (hb hby d6_0) rfl q) ?_
  show OwnFin _ _ _ _ (s₁.setTop (mkF m 1 #[.val (.ref a0), .val (.int (1 : Int32))] [(.int (1 : Int32))]))
  refine OwnFin.st (fun _ q => XS.aloadN X0.here hx rfl (hb hby d6_1) rfl rfl q) ?_
  show OwnFin _ _ _ _ (s₁.setTop (mkF m 2 #[.val (.ref a0), .val (.int (1 : Int32))] [(.ref a0), (.int (1 : Int32))]))
  have Vo1 : Arv Z h0 a0 k_a0 .byte (1 : Int32) [(.int y0)] (.int (0 : Int32)) := V_a0
  obtain ⟨cl1, Ar1, qa1, Sa1, Na1, Ha1, Ga1⟩ := id Vo1
  refine OwnFin.st (X0.arraylength hx (by rw [e0]; exact Ar1.1) (State.isArrayOf_alike (hZ).alike Ar1.2.1) (g := (mkF m 2 #[.val (.ref a0), .val (.int (1 : Int32))] [(.ref a0), (.int (1 : Int32))])) rfl rfl (hb hby d6_2)) ?_
  rw [len_of Sa1 Na1]
  show OwnFin _ _ _ _ (s₁.setTop (mkF m 3 #[.val (.ref a0), .val (.int (1 : Int32))] [(.int (1 : Int32)), (.int (1 : Int32))]))
  refine OwnFin.st (fun _ q => XS.isub X0.here hx rfl (hb hby d6_3) rfl q) ?_
  show OwnFin _ _ _ _ (s₁.setTop (mkF m 4 #[.val (.ref a0), .val (.int (1 : Int32))] [(.int ((1 : Int32) - (1 : Int32)))]))
  refine OwnFin.st (fun _ q => XS.bipush X0.here hx rfl (hb hby d6_4) q) ?_
  show OwnFin _ _ _ _ (s₁.setTop (mkF m 6 #[.val (.ref a0), .val (.int (1 : Int32))] [(.int (31 : Int32)), (.int ((1 : Int32) - (1 : Int32)))]))
  refine OwnFin.st (fun _ q => XS.iushr X0.here hx rfl (hb hby d6_6) rfl q) ?_
  show OwnFin _ _ _ _ (s₁.setTop (mkF m 7 #[.val (.ref a0), .val (.int (1 : Int32))] [(.int ((((1 : Int32) - (1 : Int32)).toUInt32 >>> ((31 : Int32) &&& 31).toUInt32).toInt32))]))
  refine OwnFin.st (fun _ q => XS.i2b X0.here hx rfl (hb hby d6_7) rfl q) ?_
  show OwnFin _ _ _ _ (s₁.setTop (mkF m 8 #[.val (.ref a0), .val (.int (1 : Int32))] [(.int (((((1 : Int32) - (1 : Int32)).toUInt32 >>> ((31 : Int32) &&& 31).toUInt32).toInt32).toInt8.toInt32))]))
  obtain ⟨fs, hr, hrun, hended, hW, hsame⟩ := X0.leave (v := some (.int (0 : Int32))) (fun h => by rw [Bd.returns] at h; cases h)
  refine ⟨_, _, retN X0 hx (t := .byte) Bd.returns (by simp) (hb hby d6_8) hr, hrun, hended, _, _, rfl, ?_, ⟨_, rfl⟩, hW, hsame.mono (by decide) (by decide)⟩
  show Q_rm_cl_1 Z a0 k_a0 y0 h0 n0 _ s₁.heap _
  rw [e0]
  exact ⟨rfl, N0, rfl⟩
theorem pd_1 : parseMethodDescriptor "([CII)[B" = some ⟨[(.array .char), .int, .int], some (.array .byte)⟩ := by decide +kernel
theorem pd_2 : parseMethodDescriptor "([BI)B" = some ⟨[(.array .byte), .int], some .byte⟩ := by decide +kernel
theorem d2_0 : decode jdk_42_method_149_code 0 = .ok (.aload_n 0, 1) := by decide +kernel
theorem d2_1 : decode jdk_42_method_149_code 1 = .ok (.invokespecial 1, 3) := by decide +kernel
theorem d2_4 : decode jdk_42_method_149_code 4 = .ok (.iload_n 3, 1) := by decide +kernel
theorem d2_5 : decode jdk_42_method_149_code 5 = .ok (.ifCond .ne 22, 3) := by decide +kernel
theorem d2_27 : decode jdk_42_method_149_code 27 = .ok (.getstatic 38, 3) := by decide +kernel
theorem d2_30 : decode jdk_42_method_149_code 30 = .ok (.ifCond .eq 28, 3) := by decide +kernel
theorem d2_33 : decode jdk_42_method_149_code 33 = .ok (.aload_n 1, 1) := by decide +kernel
theorem d2_34 : decode jdk_42_method_149_code 34 = .ok (.iload_n 2, 1) := by decide +kernel
theorem d2_35 : decode jdk_42_method_149_code 35 = .ok (.iload_n 3, 1) := by decide +kernel
theorem d2_36 : decode jdk_42_method_149_code 36 = .ok (.invokestatic 177, 3) := by decide +kernel
theorem d2_39 : decode jdk_42_method_149_code 39 = .ok (.astore 5, 2) := by decide +kernel
theorem d2_41 : decode jdk_42_method_149_code 41 = .ok (.aload_n 0, 1) := by decide +kernel
theorem d2_42 : decode jdk_42_method_149_code 42 = .ok (.aload 5, 2) := by decide +kernel
theorem d2_44 : decode jdk_42_method_149_code 44 = .ok (.iload_n 3, 1) := by decide +kernel
theorem d2_45 : decode jdk_42_method_149_code 45 = .ok (.invokestatic 47, 3) := by decide +kernel
theorem d2_48 : decode jdk_42_method_149_code 48 = .ok (.putfield 15, 3) := by decide +kernel
theorem d2_51 : decode jdk_42_method_149_code 51 = .ok (.aload_n 0, 1) := by decide +kernel
theorem d2_52 : decode jdk_42_method_149_code 52 = .ok (.aload 5, 2) := by decide +kernel
theorem d2_54 : decode jdk_42_method_149_code 54 = .ok (.putfield 9, 3) := by decide +kernel
theorem d2_57 : decode jdk_42_method_149_code 57 = .ok (.return_, 1) := by decide +kernel
theorem pn_1 : plainName "java/lang/String" = true := by first | (simp [plainName, overriddenIn]; done) | decide +kernel
theorem ef_rm_sv_1 (m : MethodId) (a0 : Addr) (a1 : Addr) : entryFrame m #[(.ref a0), (.ref a1), (.int (0 : Int32)), (.int (1 : Int32)), .null] 6 = mkF m 0 #[.val (.ref a0), .val (.ref a1), .val (.int (0 : Int32)), .val (.int (1 : Int32)), .val .null, .unset] [] := by first | (simp [entryFrame, mkF, argsToLocals, Value.category]; done) | rfl
def Q_rm_sv_1 (Z : State) (a0 : Addr) (a1 : Addr) (k_a1 : ClassId) (c0 : Int32) (w_COMPACT_STRINGS : Int32) (u_coder_a0 : Value) (u_value_a0 : Value) (h0 : Heap) (n0 : Nat) (v : Option Value) (h : Heap) (L : List Loc) : Prop := ∃ c3_0 : Addr, ∃ kc3_0 : ClassId, v = none ∧ Fr n0 L ∧ Keep h0 h [a0] ∧ h0.size ≤ c3_0 ∧ Arv Z h c3_0 kc3_0 .byte (1 : Int32) [(.int (c0.toInt8.toInt32))] (.int (0 : Int32)) ∧ Fld Z h a0 "java/lang/String" "coder" "B" (.int (0 : Int32)) ∧ Fld Z h a0 "java/lang/String" "value" "[B" (.ref c3_0)
set_option maxRecDepth 65536 in
set_option maxHeartbeats 40000000 in
theorem rm_sv_1 (l : Launch) (Z : State) (av0 : Array Value) (hw : ∀ d ∈ tables_1, d.before av0 Z = true) (ws : List Jvm.Cond) (a0 : Addr) (a1 : Addr) (k_a1 : ClassId) (c0 : Int32) (w_COMPACT_STRINGS : Int32) (u_coder_a0 : Value) (u_value_a0 : Value) (h0 : Heap) (n0 : Nat) (Z0 : n0 ≤ h0.size) (Ol0 : Old Z n0 h0) (V_a1 : Arv Z h0 a1 k_a1 .char (1 : Int32) [(.int c0)] (.int (0 : Int32))) (S_COMPACT_STRINGS : Sta Z Z.heap "java/lang/String" "COMPACT_STRINGS" "Z" (.int w_COMPACT_STRINGS)) (hc0 : ¬ (w_COMPACT_STRINGS = (0 : Int32))) (hc1 : ¬ ((255 : Int32) < c0)) (X_a0 : Exa Z h0 a0 "java/lang/String") (F_coder_a0 : Fld Z h0 a0 "java/lang/String" "coder" "B" u_coder_a0) (g_a0 : n0 ≤ a0) (F_value_a0 : Fld Z h0 a0 "java/lang/String" "value" "[B" u_value_a0) :
    MetFree l (⟨"java/lang/String", "<init>", "([CIILjava/lang/Void;)V"⟩ : MethodName) (head1 (Jvm.Cond.code (⟨"java/lang/String", "<init>", "([CIILjava/lang/Void;)V"⟩ : MethodName) jdk_42_method_149_code 6 none :: ws) ({ frames := 2, cells := 1, slots := 1, locals := 35 } : Room)) (fun a U => a = #[(.ref a0), (.ref a1), (.int (0 : Int32)), (.int (1 : Int32)), .null] ∧ Z.Warmed39 U.vm ∧ U.heap = h0) (fun _ _ _ _ _ => True) (fun _ U o U' => ∃ v L, o = .returned v ∧ Q_rm_sv_1 Z a0 a1 k_a1 c0 w_COMPACT_STRINGS u_coder_a0 u_value_a0 h0 n0 v U'.heap L ∧ FrameEnd U o U' L ({ frames := 2, cells := 1, slots := 1, locals := 35 } : Room).cells ({ frames := 2, cells := 1, slots := 1, locals := 35 } : Room).slots) := by
  refine MetFree.of_bodySF (plainFor_of_name pn_1) hisR ?_
  intro p e s m args below meth c s₁ Bd hml0 hP hK
  obtain ⟨rfl, hZ, hh⟩ := hP
  have hx := Bd.exec
  have hby := Bd.bytes
  have hml : c.maxLocals = 6 := hml0
  have hown : s.vm.findClass "java/lang/String" = some m.cls := findClass_of_methodNamed Bd.named
  have hnm := (name_of_methodNamed Bd.named Bd.method).1
  have X0 : Stand p l e ({ frames := 2, cells := 1, slots := 1, locals := 35 } : Room) s m #[(.ref a0), (.ref a1), (.int (0 : Int32)), (.int (1 : Int32)), .null] below meth c s₁ [] 0 0 := Stand.of_body Bd
  have e0 : s₁.heap = h0 := by rw [← hh, Bd.state]; rfl
  have N0 := Fr.nil n0
  have pre0 : ∀ t, Steps p.tables e below (s₁.setTop (mkF m 0 #[.val (.ref a0), .val (.ref a1), .val (.int (0 : Int32)), .val (.int (1 : Int32)), .val .null, .unset] [])) t → Steps p.tables e below (s₁.setTop (entryFrame m #[(.ref a0), (.ref a1), (.int (0 : Int32)), (.int (1 : Int32)), .null] 6)) t := fun t k => castTop (ef_rm_sv_1 m a0 a1) k
  change OwnFin p.tables e below _ (s₁.setTop (entryFrame m #[(.ref a0), (.ref a1), (.int (0 : Int32)), (.int (1 : Int32)), .null] 6))
  have kp0 : Keep h0 h0 [a0] := Keep.refl _ _
  refine OwnFin.st (fun _ q => pre0 _ q) ?_
  show OwnFin _ _ _ _ (s₁.setTop (mkF m 0 #[.val (.ref a0), .val (.ref a1), .val (.int (0 : Int32)), .val (.int (1 : Int32)), .val .null, .unset] []))
  refine OwnFin.st (fun _ q => XS.aloadN X0.here hx rfl (hb hby d2_0) rfl rfl q) ?_
  show OwnFin _ _ _ _ (s₁.setTop (mkF m 1 #[.val (.ref a0), .val (.ref a1), .val (.int (0 : Int32)), .val (.int (1 : Int32)), .val .null, .unset] [(.ref a0)]))
  obtain ⟨T1, X1, e1, st1⟩ := initO X0 hx hZ hown (hw _ (List.mem_of_getElem? (i := 11) rfl)) (hw _ (List.mem_of_getElem? (i := 12) rfl)) (hw _ (List.mem_of_getElem? (i := 13) rfl)) e0 (g := (mkF m 1 #[.val (.ref a0), .val (.ref a1), .val (.int (0 : Int32)), .val (.int (1 : Int32)), .val .null, .unset] [(.ref a0)])) rfl (by rw [hml]; rfl) rfl (hb hby d2_1) (by decide) (W := 0) (by show 2 * 0 + _ ≤ _; exact Nat.le_of_eq rfl) (by decide)
  refine OwnFin.st st1 ?_
  show OwnFin _ _ _ _ (T1.setTop (mkF m 4 #[.val (.ref a0), .val (.ref a1), .val (.int (0 : Int32)), .val (.int (1 : Int32)), .val .null, .unset] []))
  refine OwnFin.st (fun _ q => XS.iloadN X1.here hx rfl (hb hby d2_4) rfl q) ?_
  show OwnFin _ _ _ _ (T1.setTop (mkF m 5 #[.val (.ref a0), .val (.ref a1), .val (.int (0 : Int32)), .val (.int (1 : Int32)), .val .null, .unset] [(.int (1 : Int32))]))
  refine OwnFin.st (fun _ q => XS.ifYes X1.here hx rfl (pc0 := 5) (pc' := 27) rfl (hb hby d2_5) rfl (Jvm.Free.XT.i0_ne_t (by decide : ¬ ((1 : Int32) = (0 : Int32)))) (by decide) (by decide) q) ?_
  show OwnFin _ _ _ _ (T1.setTop (mkF m 27 #[.val (.ref a0), .val (.ref a1), .val (.int (0 : Int32)), .val (.int (1 : Int32)), .val .null, .unset] []))
  obtain ⟨T2, X2, e2, st2⟩ := getS2 X1 hx hZ hown (host := "") (Or.inl (hw _ (List.mem_of_getElem? (i := 14) rfl))) Via.refl e1 (S_COMPACT_STRINGS.ext Ol0.2) (g := (mkF m 27 #[.val (.ref a0), .val (.ref a1), .val (.int (0 : Int32)), .val (.int (1 : Int32)), .val .null, .unset] [])) rfl (hb hby d2_27)
  refine OwnFin.st st2 ?_
  show OwnFin _ _ _ _ (T2.setTop (mkF m 30 #[.val (.ref a0), .val (.ref a1), .val (.int (0 : Int32)), .val (.int (1 : Int32)), .val .null, .unset] [(.int w_COMPACT_STRINGS)]))
  refine OwnFin.st (fun _ q => XS.ifNo X2.here hx rfl (hb hby d2_30) rfl (Jvm.Free.XT.i0_eq_f hc0) q) ?_
  show OwnFin _ _ _ _ (T2.setTop (mkF m 33 #[.val (.ref a0), .val (.ref a1), .val (.int (0 : Int32)), .val (.int (1 : Int32)), .val .null, .unset] []))
  refine OwnFin.st (fun _ q => XS.aloadN X2.here hx rfl (hb hby d2_33) rfl rfl q) ?_
  show OwnFin _ _ _ _ (T2.setTop (mkF m 34 #[.val (.ref a0), .val (.ref a1), .val (.int (0 : Int32)), .val (.int (1 : Int32)), .val .null, .unset] [(.ref a1)]))
  refine OwnFin.st (fun _ q => XS.iloadN X2.here hx rfl (hb hby d2_34) rfl q) ?_
  show OwnFin _ _ _ _ (T2.setTop (mkF m 35 #[.val (.ref a0), .val (.ref a1), .val (.int (0 : Int32)), .val (.int (1 : Int32)), .val .null, .unset] [(.int (0 : Int32)), (.ref a1)]))
  refine OwnFin.st (fun _ q => XS.iloadN X2.here hx rfl (hb hby d2_35) rfl q) ?_
  show OwnFin _ _ _ _ (T2.setTop (mkF m 36 #[.val (.ref a0), .val (.ref a1), .val (.int (0 : Int32)), .val (.int (1 : Int32)), .val .null, .unset] [(.int (1 : Int32)), (.int (0 : Int32)), (.ref a1)]))
  show OwnFin _ _ _ _ (T2.setTop (mkF m 36 #[.val (.ref a0), .val (.ref a1), .val (.int (0 : Int32)), .val (.int (1 : Int32)), .val .null, .unset] [(.int (1 : Int32)), (.int (0 : Int32)), (.ref a1)]))
  obtain ⟨_, _, ⟨T3, L3, k3, n3⟩, -, X3, ⟨Lc3, hQ3, l3, y3, z3⟩, st3⟩ := Jvm.LawKit.callS X2 hx (y := (⟨"java/lang/StringUTF16", "compress", "([CII)[B"⟩ : MethodName)) hown (mvT hZ (hw _ (List.mem_of_getElem? (i := 15) rfl))) (mvT hZ (hw _ (List.mem_of_getElem? (i := 16) rfl))) (mvT hZ (hw _ (List.mem_of_getElem? (i := 17) rfl))) (mvT hZ (hw _ (List.mem_of_getElem? (i := 18) rfl))) (by decide) (backOf (W := 0) (rm_c3_1 l Z av0 hw [] a1 k_a1 c0 h0 n0 (Nat.le_trans Z0 kp0.1) V_a1 hc1) hZ (hw _ (List.mem_of_getElem? (i := 18) rfl)) (hw _ (List.mem_of_getElem? (i := 17) rfl)) (by decide) (by decide)) (g := (mkF m 36 #[.val (.ref a0), .val (.ref a1), .val (.int (0 : Int32)), .val (.int (1 : Int32)), .val .null, .unset] [(.int (1 : Int32)), (.int (0 : Int32)), (.ref a1)])) rfl (by rw [hml]; rfl) (argsL := [(.ref a1), (.int (0 : Int32)), (.int (1 : Int32))]) (rest := []) (lenOf pd_1 rfl) rfl (by show 2 * 0 + _ ≤ _; exact Nat.le_of_eq rfl) (hb hby d2_36) (fun _ _ => ⟨rfl, e2, (by decide : 0 + 1 ≤ _), (by decide : 0 + 1 ≤ _)⟩)
  dsimp only [Pt.U, Pt.locs, Pt.cells, Pt.slots] at X3 l3 y3 z3 st3 hQ3
  subst l3 y3 z3
  obtain ⟨c3_0, kc3_0, rfl, N3q, K3, r3_0, r3_1⟩ := hQ3
  have N3 := Fr.app N0 N3q
  refine OwnFin.st st3 ?_
  obtain ⟨h3, e3⟩ : ∃ z, T3.heap = z := ⟨_, rfl⟩
  rw [e3] at K3 r3_1
  have bi_c3_0 : h0.size ≤ c3_0 := r3_0
  have lo_c3_0 : h0.size ≤ c3_0 := Nat.le_trans kp0.1 bi_c3_0
  have g_c3_0 : n0 ≤ c3_0 := Nat.le_trans Z0 lo_c3_0
  have kp4 : Keep h0 h3 [a0] := kp0.trans K3 all0
  have ol4 : Old Z n0 h3 := Ol0.keep K3 all0
  show OwnFin _ _ _ _ (T3.setTop (mkF m 39 #[.val (.ref a0), .val (.ref a1), .val (.int (0 : Int32)), .val (.int (1 : Int32)), .val .null, .unset] [(.ref c3_0)]))
  refine OwnFin.st (fun _ q => XS.astore X3.here hx rfl (hb hby d2_39) rfl rfl (l' := #[.val (.ref a0), .val (.ref a1), .val (.int (0 : Int32)), .val (.int (1 : Int32)), .val .null, .val (.ref c3_0)]) rfl q) ?_
  show OwnFin _ _ _ _ (T3.setTop (mkF m 41 #[.val (.ref a0), .val (.ref a1), .val (.int (0 : Int32)), .val (.int (1 : Int32)), .val .null, .val (.ref c3_0)] []))
  refine OwnFin.st (fun _ q => XS.aloadN X3.here hx rfl (hb hby d2_41) rfl rfl q) ?_
  show OwnFin _ _ _ _ (T3.setTop (mkF m 42 #[.val (.ref a0), .val (.ref a1), .val (.int (0 : Int32)), .val (.int (1 : Int32)), .val .null, .val (.ref c3_0)] [(.ref a0)]))
  refine OwnFin.st (fun _ q => XS.aload X3.here hx rfl (hb hby d2_42) rfl rfl q) ?_
  show OwnFin _ _ _ _ (T3.setTop (mkF m 44 #[.val (.ref a0), .val (.ref a1), .val (.int (0 : Int32)), .val (.int (1 : Int32)), .val .null, .val (.ref c3_0)] [(.ref c3_0), (.ref a0)]))
  refine OwnFin.st (fun _ q => XS.iloadN X3.here hx rfl (hb hby d2_44) rfl q) ?_
  show OwnFin _ _ _ _ (T3.setTop (mkF m 45 #[.val (.ref a0), .val (.ref a1), .val (.int (0 : Int32)), .val (.int (1 : Int32)), .val .null, .val (.ref c3_0)] [(.int (1 : Int32)), (.ref c3_0), (.ref a0)]))
  obtain ⟨_, _, ⟨T5, L5, k5, n5⟩, -, X5, ⟨Lc5, hQ5, l5, y5, z5⟩, st5⟩ := Jvm.LawKit.callS X3 hx (y := (⟨"java/lang/StringUTF16", "coderFromArrayLen", "([BI)B"⟩ : MethodName)) hown (mvT hZ (hw _ (List.mem_of_getElem? (i := 23) rfl))) (mvT hZ (hw _ (List.mem_of_getElem? (i := 24) rfl))) (mvT hZ (hw _ (List.mem_of_getElem? (i := 17) rfl))) (mvT hZ (hw _ (List.mem_of_getElem? (i := 25) rfl))) (by decide) (backOf (W := 1) (rm_cl_1 l Z av0 hw [] c3_0 kc3_0 (c0.toInt8.toInt32) h3 n0 (Nat.le_trans Z0 kp4.1) r3_1) hZ (hw _ (List.mem_of_getElem? (i := 25) rfl)) (hw _ (List.mem_of_getElem? (i := 17) rfl)) (by decide) (by decide)) (g := (mkF m 45 #[.val (.ref a0), .val (.ref a1), .val (.int (0 : Int32)), .val (.int (1 : Int32)), .val .null, .val (.ref c3_0)] [(.int (1 : Int32)), (.ref c3_0), (.ref a0)])) rfl (by rw [hml]; rfl) (argsL := [(.ref c3_0), (.int (1 : Int32))]) (rest := [(.ref a0)]) (lenOf pd_2 rfl) rfl (by show 2 * 0 + _ ≤ _; exact Nat.le_of_eq rfl) (hb hby d2_45) (fun _ _ => ⟨rfl, e3, (by decide : 1 + 0 ≤ _), (by decide : 1 + 0 ≤ _)⟩)
  dsimp only [Pt.U, Pt.locs, Pt.cells, Pt.slots] at X5 l5 y5 z5 st5 hQ5
  subst l5 y5 z5
  obtain ⟨rfl, N5q, he5⟩ := hQ5
  have N5 := Fr.app N3 N5q
  refine OwnFin.st st5 ?_
  show OwnFin _ _ _ _ (T5.setTop (mkF m 48 #[.val (.ref a0), .val (.ref a1), .val (.int (0 : Int32)), .val (.int (1 : Int32)), .val .null, .val (.ref c3_0)] [(.int (0 : Int32)), (.ref a0)]))
  obtain ⟨T6, h6, X6, e6, W6, st6⟩ := putFN X5 hx hZ hown (hw _ (List.mem_of_getElem? (i := 26) rfl)) Via.refl he5 (F_coder_a0.keep K3 nin0) (X_a0.keep K3) (Or.inr ⟨(hw _ (List.mem_of_getElem? (i := 27) rfl)), rfl, hnm⟩) (hw _ (List.mem_of_getElem? (i := 1) rfl)) (ty := .byte) (v' := (.int (0 : Int32))) (by decide) rfl rfl (g := (mkF m 48 #[.val (.ref a0), .val (.ref a1), .val (.int (0 : Int32)), .val (.int (1 : Int32)), .val .null, .val (.ref c3_0)] [(.int (0 : Int32)), (.ref a0)])) rfl rfl (hb hby d2_48)
  refine OwnFin.st st6 ?_
  have Fw6 : Fld Z h6 a0 "java/lang/String" "coder" "B" (.int (0 : Int32)) := (F_coder_a0.keep K3 nin0).same W6
  have N6 := Fr.snoc X6 N5 g_a0
  have kp7 : Keep h0 h6 [a0] := kp4.wr W6 (Or.inl (List.mem_of_getElem? (i := 0) rfl))
  have ol7 : Old Z n0 h6 := ol4.wr W6 g_a0
  show OwnFin _ _ _ _ (T6.setTop (mkF m 51 #[.val (.ref a0), .val (.ref a1), .val (.int (0 : Int32)), .val (.int (1 : Int32)), .val .null, .val (.ref c3_0)] []))
  refine OwnFin.st (fun _ q => XS.aloadN X6.here hx rfl (hb hby d2_51) rfl rfl q) ?_
  show OwnFin _ _ _ _ (T6.setTop (mkF m 52 #[.val (.ref a0), .val (.ref a1), .val (.int (0 : Int32)), .val (.int (1 : Int32)), .val .null, .val (.ref c3_0)] [(.ref a0)]))
  refine OwnFin.st (fun _ q => XS.aload X6.here hx rfl (hb hby d2_52) rfl rfl q) ?_
  show OwnFin _ _ _ _ (T6.setTop (mkF m 54 #[.val (.ref a0), .val (.ref a1), .val (.int (0 : Int32)), .val (.int (1 : Int32)), .val .null, .val (.ref c3_0)] [(.ref c3_0), (.ref a0)]))
  obtain ⟨T8, h8, X8, e8, W8, st8⟩ := putF X6 hx hZ hown (host := "") (Or.inl (hw _ (List.mem_of_getElem? (i := 28) rfl))) Via.refl e6 ((F_value_a0.keep K3 nin0).other W6 (Or.inr (slot_ne (Or.inr (hw _ (List.mem_of_getElem? (i := 29) rfl))) (Or.inr (hw _ (List.mem_of_getElem? (i := 27) rfl))) (by decide) (t := (.array .byte)) (t' := .byte) (by decide) (by decide)))) ((X_a0.keep K3).wr W6) (Or.inr ⟨(hw _ (List.mem_of_getElem? (i := 29) rfl)), rfl, hnm⟩) (hw _ (List.mem_of_getElem? (i := 1) rfl)) (ty := (.array .byte)) (by decide) rfl rfl (g := (mkF m 54 #[.val (.ref a0), .val (.ref a1), .val (.int (0 : Int32)), .val (.int (1 : Int32)), .val .null, .val (.ref c3_0)] [(.ref c3_0), (.ref a0)])) rfl rfl (hb hby d2_54)
  refine OwnFin.st st8 ?_
  have Fw8 : Fld Z h8 a0 "java/lang/String" "value" "[B" (.ref c3_0) := ((F_value_a0.keep K3 nin0).other W6 (Or.inr (slot_ne (Or.inr (hw _ (List.mem_of_getElem? (i := 29) rfl))) (Or.inr (hw _ (List.mem_of_getElem? (i := 27) rfl))) (by decide) (t := (.array .byte)) (t' := .byte) (by decide) (by decide)))).same W8
  have N8 := Fr.snoc X8 N6 g_a0
  have kp9 : Keep h0 h8 [a0] := kp7.wr W8 (Or.inl (List.mem_of_getElem? (i := 0) rfl))
  have ol9 : Old Z n0 h8 := ol7.wr W8 g_a0
  show OwnFin _ _ _ _ (T8.setTop (mkF m 57 #[.val (.ref a0), .val (.ref a1), .val (.int (0 : Int32)), .val (.int (1 : Int32)), .val .null, .val (.ref c3_0)] []))
  obtain ⟨fs, hr, hrun, hended, hW, hsame⟩ := X8.leave (v := none) (fun _ => rfl)
  refine ⟨_, _, X8.returnOut hx Bd.returns (hb hby d2_57) hr, hrun, hended, _, _, rfl, ?_, ⟨_, rfl⟩, hW, hsame.mono (by decide) (by decide)⟩
  show Q_rm_sv_1 Z a0 a1 k_a1 c0 w_COMPACT_STRINGS u_coder_a0 u_value_a0 h0 n0 _ T8.heap _
  rw [e8]
  exact ⟨c3_0, kc3_0, rfl, N8, kp9, lo_c3_0, ((r3_1.other W6 (Ne.symm (Nat.ne_of_lt (Nat.lt_of_lt_of_le X_a0.lt bi_c3_0)))).other W8 (Ne.symm (Nat.ne_of_lt (Nat.lt_of_lt_of_le X_a0.lt bi_c3_0)))), (Fw6.other W8 (Or.inr (slot_ne (Or.inr (hw _ (List.mem_of_getElem? (i := 27) rfl))) (Or.inr (hw _ (List.mem_of_getElem? (i := 29) rfl))) (by decide) (t := .byte) (t' := (.array .byte)) (by decide) (by decide)))), Fw8⟩
theorem pd_3 : parseMethodDescriptor "([CIILjava/lang/Void;)V" = some ⟨[(.array .char), .int, .int, (.object "java/lang/Void")], none⟩ := by decide +kernel
theorem d1_0 : decode jdk_42_method_3_code 0 = .ok (.aload_n 0, 1) := by decide +kernel
theorem d1_1 : decode jdk_42_method_3_code 1 = .ok (.aload_n 1, 1) := by decide +kernel
theorem d1_2 : decode jdk_42_method_3_code 2 = .ok (.iconst 0, 1) := by decide +kernel
theorem d1_3 : decode jdk_42_method_3_code 3 = .ok (.aload_n 1, 1) := by decide +kernel
theorem d1_4 : decode jdk_42_method_3_code 4 = .ok (.arraylength, 1) := by decide +kernel
theorem d1_5 : decode jdk_42_method_3_code 5 = .ok (.aconst_null, 1) := by decide +kernel
theorem d1_6 : decode jdk_42_method_3_code 6 = .ok (.invokespecial 27, 3) := by decide +kernel
theorem d1_9 : decode jdk_42_method_3_code 9 = .ok (.return_, 1) := by decide +kernel
theorem ef_rm_si_1 (m : MethodId) (a0 : Addr) (a1 : Addr) : entryFrame m #[(.ref a0), (.ref a1)] 2 = mkF m 0 #[.val (.ref a0), .val (.ref a1)] [] := by first | (simp [entryFrame, mkF, argsToLocals, Value.category]; done) | rfl
def Q_rm_si_1 (Z : State) (a0 : Addr) (a1 : Addr) (k_a1 : ClassId) (c0 : Int32) (w_COMPACT_STRINGS : Int32) (u_coder_a0 : Value) (u_value_a0 : Value) (h0 : Heap) (n0 : Nat) (v : Option Value) (h : Heap) (L : List Loc) : Prop := ∃ c2_0 : Addr, ∃ kc2_0 : ClassId, v = none ∧ Fr n0 L ∧ Keep h0 h [a0] ∧ h0.size ≤ c2_0 ∧ Arv Z h c2_0 kc2_0 .byte (1 : Int32) [(.int (c0.toInt8.toInt32))] (.int (0 : Int32)) ∧ Fld Z h a0 "java/lang/String" "coder" "B" (.int (0 : Int32)) ∧ Fld Z h a0 "java/lang/String" "value" "[B" (.ref c2_0)
set_option maxRecDepth 65536 in
set_option maxHeartbeats 40000000 in
theorem rm_si_1 (l : Launch) (Z : State) (av0 : Array Value) (hw : ∀ d ∈ tables_1, d.before av0 Z = true) (ws : List Jvm.Cond) (a0 : Addr) (a1 : Addr) (k_a1 : ClassId) (c0 : Int32) (w_COMPACT_STRINGS : Int32) (u_coder_a0 : Value) (u_value_a0 : Value) (h0 : Heap) (n0 : Nat) (Z0 : n0 ≤ h0.size) (Ol0 : Old Z n0 h0) (V_a1 : Arv Z h0 a1 k_a1 .char (1 : Int32) [(.int c0)] (.int (0 : Int32))) (S_COMPACT_STRINGS : Sta Z Z.heap "java/lang/String" "COMPACT_STRINGS" "Z" (.int w_COMPACT_STRINGS)) (hc0 : ¬ (w_COMPACT_STRINGS = (0 : Int32))) (hc1 : ¬ ((255 : Int32) < c0)) (X_a0 : Exa Z h0 a0 "java/lang/String") (F_coder_a0 : Fld Z h0 a0 "java/lang/String" "coder" "B" u_coder_a0) (g_a0 : n0 ≤ a0) (F_value_a0 : Fld Z h0 a0 "java/lang/String" "value" "[B" u_value_a0) :
    MetFree l (⟨"java/lang/String", "<init>", "([C)V"⟩ : MethodName) (head1 (Jvm.Cond.code (⟨"java/lang/String", "<init>", "([C)V"⟩ : MethodName) jdk_42_method_3_code 2 none :: ws) ({ frames := 3, cells := 1, slots := 1, locals := 52 } : Room)) (fun a U => a = #[(.ref a0), (.ref a1)] ∧ Z.Warmed39 U.vm ∧ U.heap = h0) (fun _ _ _ _ _ => True) (fun _ U o U' => ∃ v L, o = .returned v ∧ Q_rm_si_1 Z a0 a1 k_a1 c0 w_COMPACT_STRINGS u_coder_a0 u_value_a0 h0 n0 v U'.heap L ∧ FrameEnd U o U' L ({ frames := 3, cells := 1, slots := 1, locals := 52 } : Room).cells ({ frames := 3, cells := 1, slots := 1, locals := 52 } : Room).slots) := by
  refine MetFree.of_bodySF (plainFor_of_name pn_1) hisR ?_
  intro p e s m args below meth c s₁ Bd hml0 hP hK
  obtain ⟨rfl, hZ, hh⟩ := hP
  have hx := Bd.exec
  have hby := Bd.bytes
  have hml : c.maxLocals = 2 := hml0
  have hown : s.vm.findClass "java/lang/String" = some m.cls := findClass_of_methodNamed Bd.named
  have hnm := (name_of_methodNamed Bd.named Bd.method).1
  have X0 : Stand p l e ({ frames := 3, cells := 1, slots := 1, locals := 52 } : Room) s m #[(.ref a0), (.ref a1)] below meth c s₁ [] 0 0 := Stand.of_body Bd
  have e0 : s₁.heap = h0 := by rw [← hh, Bd.state]; rfl
  have N0 := Fr.nil n0
  have pre0 : ∀ t, Steps p.tables e below (s₁.setTop (mkF m 0 #[.val (.ref a0), .val (.ref a1)] [])) t → Steps p.tables e below (s₁.setTop (entryFrame m #[(.ref a0), (.ref a1)] 2)) t := fun t k => castTop (ef_rm_si_1 m a0 a1) k
  change OwnFin p.tables e below _ (s₁.setTop (entryFrame m #[(.ref a0), (.ref a1)] 2))
  have kp0 : Keep h0 h0 [a0] := Keep.refl _ _
  refine OwnFin.st (fun _ q => pre0 _ q) ?_
  show OwnFin _ _ _ _ (s₁.setTop (mkF m 0 #[.val (.ref a0), .val (.ref a1)] []))
  refine OwnFin.st (fun _ q => XS.aloadN X0.here hx rfl (hb hby d1_0) rfl rfl q) ?_
  show OwnFin _ _ _ _ (s₁.setTop (mkF m 1 #[.val (.ref a0), .val (.ref a1)] [(.ref a0)]))
  refine OwnFin.st (fun _ q => XS.aloadN X0.here hx rfl (hb hby d1_1) rfl rfl q) ?_
  show OwnFin _ _ _ _ (s₁.setTop (mkF m 2 #[.val (.ref a0), .val (.ref a1)] [(.ref a1), (.ref a0)]))
  refine OwnFin.st (fun _ q => XS.iconst X0.here hx rfl (hb hby d1_2) q) ?_
  show OwnFin _ _ _ _ (s₁.setTop (mkF m 3 #[.val (.ref a0), .val (.ref a1)] [(.int (0 : Int32)), (.ref a1), (.ref a0)]))
  refine OwnFin.st (fun _ q => XS.aloadN X0.here hx rfl (hb hby d1_3) rfl rfl q) ?_
  show OwnFin _ _ _ _ (s₁.setTop (mkF m 4 #[.val (.ref a0), .val (.ref a1)] [(.ref a1), (.int (0 : Int32)), (.ref a1), (.ref a0)]))
  have Vo1 : Arv Z h0 a1 k_a1 .char (1 : Int32) [(.int c0)] (.int (0 : Int32)) := V_a1
  obtain ⟨cl1, Ar1, qa1, Sa1, Na1, Ha1, Ga1⟩ := id Vo1
  refine OwnFin.st (X0.arraylength hx (by rw [e0]; exact Ar1.1) (State.isArrayOf_alike (hZ).alike Ar1.2.1) (g := (mkF m 4 #[.val (.ref a0), .val (.ref a1)] [(.ref a1), (.int (0 : Int32)), (.ref a1), (.ref a0)])) rfl rfl (hb hby d1_4)) ?_
  rw [len_of Sa1 Na1]
  show OwnFin _ _ _ _ (s₁.setTop (mkF m 5 #[.val (.ref a0), .val (.ref a1)] [(.int (1 : Int32)), (.int (0 : Int32)), (.ref a1), (.ref a0)]))
  refine OwnFin.st (fun _ q => XS.aconstNull X0.here hx rfl (hb hby d1_5) q) ?_
  show OwnFin _ _ _ _ (s₁.setTop (mkF m 6 #[.val (.ref a0), .val (.ref a1)] [.null, (.int (1 : Int32)), (.int (0 : Int32)), (.ref a1), (.ref a0)]))
  show OwnFin _ _ _ _ (s₁.setTop (mkF m 6 #[.val (.ref a0), .val (.ref a1)] [.null, (.int (1 : Int32)), (.int (0 : Int32)), (.ref a1), (.ref a0)]))
  show OwnFin _ _ _ _ (s₁.setTop (mkF m 6 #[.val (.ref a0), .val (.ref a1)] [.null, (.int (1 : Int32)), (.int (0 : Int32)), (.ref a1), (.ref a0)]))
  obtain ⟨_, _, ⟨T2, L2, k2, n2⟩, -, X2, ⟨Lc2, hQ2, l2, y2, z2⟩, st2⟩ := X0.specialBack hx (y := (⟨"java/lang/String", "<init>", "([CIILjava/lang/Void;)V"⟩ : MethodName)) rfl hown (mvT hZ (hw _ (List.mem_of_getElem? (i := 7) rfl))) (mvT hZ (hw _ (List.mem_of_getElem? (i := 8) rfl))) (mvT hZ (hw _ (List.mem_of_getElem? (i := 10) rfl))) (by decide) (backOf (W := 0) (rm_sv_1 l Z av0 hw [] a0 a1 k_a1 c0 w_COMPACT_STRINGS u_coder_a0 u_value_a0 h0 n0 (Nat.le_trans Z0 kp0.1) Ol0 V_a1 S_COMPACT_STRINGS hc0 hc1 X_a0 F_coder_a0 g_a0 F_value_a0) hZ (hw _ (List.mem_of_getElem? (i := 10) rfl)) (hw _ (List.mem_of_getElem? (i := 2) rfl)) (by decide) (by decide)) (g := (mkF m 6 #[.val (.ref a0), .val (.ref a1)] [.null, (.int (1 : Int32)), (.int (0 : Int32)), (.ref a1), (.ref a0)])) rfl (by rw [hml]; rfl) (Steps.refl _) (a := a0) (argsL := [(.ref a1), (.int (0 : Int32)), (.int (1 : Int32)), .null]) (rest := []) (lenOf pd_3 rfl) rfl (by show 2 * 0 + _ ≤ _; exact Nat.le_of_eq rfl) (hb hby d1_6) (fun _ _ => ⟨rfl, e0, (by decide : 0 + 1 ≤ _), (by decide : 0 + 1 ≤ _)⟩)
  dsimp only [Pt.U, Pt.locs, Pt.cells, Pt.slots] at X2 l2 y2 z2 st2 hQ2
  subst l2 y2 z2
  obtain ⟨c2_0, kc2_0, rfl, N2q, K2, r2_0, r2_1, r2_2, r2_3⟩ := hQ2
  have N2 := Fr.app N0 N2q
  refine OwnFin.tr st2 ?_
  obtain ⟨h2, e2⟩ : ∃ z, T2.heap = z := ⟨_, rfl⟩
  rw [e2] at K2 r2_1 r2_2 r2_3
  have bi_c2_0 : h0.size ≤ c2_0 := r2_0
  have lo_c2_0 : h0.size ≤ c2_0 := Nat.le_trans kp0.1 bi_c2_0
  have g_c2_0 : n0 ≤ c2_0 := Nat.le_trans Z0 lo_c2_0
  have kp3 : Keep h0 h2 [a0] := kp0.trans K2 (allS (Or.inl (List.mem_of_getElem? (i := 0) rfl)) all0)
  have ol3 : Old Z n0 h2 := Ol0.keep K2 (allS g_a0 all0)
  show OwnFin _ _ _ _ (T2.setTop (mkF m 9 #[.val (.ref a0), .val (.ref a1)] []))
  obtain ⟨fs, hr, hrun, hended, hW, hsame⟩ := X2.leave (v := none) (fun _ => rfl)
  refine ⟨_, _, X2.returnOut hx Bd.returns (hb hby d1_9) hr, hrun, hended, _, _, rfl, ?_, ⟨_, rfl⟩, hW, hsame.mono (by decide) (by decide)⟩
  show Q_rm_si_1 Z a0 a1 k_a1 c0 w_COMPACT_STRINGS u_coder_a0 u_value_a0 h0 n0 _ T2.heap _
  rw [e2]
  exact ⟨c2_0, kc2_0, rfl, N2, kp3, lo_c2_0, r2_1, r2_2, r2_3⟩
theorem d13_0 : decode jdk_18_method_1_code 0 = .ok (.aload_n 0, 1) := by decide +kernel
theorem d13_1 : decode jdk_18_method_1_code 1 = .ok (.invokespecial 1, 3) := by decide +kernel
theorem d13_4 : decode jdk_18_method_1_code 4 = .ok (.return_, 1) := by decide +kernel
theorem pn_2 : plainName "java/lang/Number" = true := by first | (simp [plainName, overriddenIn]; done) | decide +kernel
theorem ef_rm_Number (m : MethodId) (a0 : Addr) : entryFrame m #[(.ref a0)] 1 = mkF m 0 #[.val (.ref a0)] [] := by first | (simp [entryFrame, mkF, argsToLocals, Value.category]; done) | rfl
def Q_rm_Number (Z : State) (a0 : Addr) (h0 : Heap) (n0 : Nat) (v : Option Value) (h : Heap) (L : List Loc) : Prop := v = none ∧ Fr n0 L ∧ h = h0
set_option maxRecDepth 65536 in
set_option maxHeartbeats 40000000 in
theorem rm_Number (l : Launch) (Z : State) (av0 : Array Value) (hw : ∀ d ∈ tables_1, d.before av0 Z = true) (ws : List Jvm.Cond) (a0 : Addr) (h0 : Heap) (n0 : Nat) (Z0 : n0 ≤ h0.size) :
    MetFree l (⟨"java/lang/Number", "<init>", "()V"⟩ : MethodName) (head1 (Jvm.Cond.code (⟨"java/lang/Number", "<init>", "()V"⟩ : MethodName) jdk_18_method_1_code 1 none :: ws) ({ frames := 1, cells := 0, slots := 0, locals := 12 } : Room)) (fun a U => a = #[(.ref a0)] ∧ Z.Warmed39 U.vm ∧ U.heap = h0) (fun _ _ _ _ _ => True) (fun _ U o U' => ∃ v L, o = .returned v ∧ Q_rm_Number Z a0 h0 n0 v U'.heap L ∧ FrameEnd U o U' L ({ frames := 1, cells := 0, slots := 0, locals := 12 } : Room).cells ({ frames := 1, cells := 0, slots := 0, locals := 12 } : Room).slots) := by
  refine MetFree.of_bodySF (plainFor_of_name pn_2) hisR ?_
  intro p e s m args below meth c s₁ Bd hml0 hP hK
  obtain ⟨rfl, hZ, hh⟩ := hP
  have hx := Bd.exec
  have hby := Bd.bytes
  have hml : c.maxLocals = 1 := hml0
  have hown : s.vm.findClass "java/lang/Number" = some m.cls := findClass_of_methodNamed Bd.named
  have hnm := (name_of_methodNamed Bd.named Bd.method).1
  have X0 : Stand p l e ({ frames := 1, cells := 0, slots := 0, locals := 12 } : Room) s m #[(.ref a0)] below meth c s₁ [] 0 0 := Stand.of_body Bd
  have e0 : s₁.heap = h0 := by rw [← hh, Bd.state]; rfl
  have N0 := Fr.nil n0
  have pre0 : ∀ t, Steps p.tables e below (s₁.setTop (mkF m 0 #[.val (.ref a0)] [])) t → Steps p.tables e below (s₁.setTop (entryFrame m #[(.ref a0)] 1)) t := fun t k => castTop (ef_rm_Number m a0) k
  change OwnFin p.tables e below _ (s₁.setTop (entryFrame m #[(.ref a0)] 1))
  have kp0 : Keep h0 h0 [] := Keep.refl _ _
  refine OwnFin.st (fun _ q => pre0 _ q) ?_
  show OwnFin _ _ _ _ (s₁.setTop (mkF m 0 #[.val (.ref a0)] []))
  refine OwnFin.st (fun _ q => XS.aloadN X0.here hx rfl (hb hby d13_0) rfl rfl q) ?_
  show OwnFin _ _ _ _ (s₁.setTop (mkF m 1 #[.val (.ref a0)] [(.ref a0)]))
  obtain ⟨T1, X1, e1, st1⟩ := initO X0 hx hZ hown (hw _ (List.mem_of_getElem? (i := 77) rfl)) (hw _ (List.mem_of_getElem? (i := 12) rfl)) (hw _ (List.mem_of_getElem? (i := 13) rfl)) e0 (g := (mkF m 1 #[.val (.ref a0)] [(.ref a0)])) rfl (by rw [hml]; rfl) rfl (hb hby d13_1) (by decide) (W := 0) (by show 2 * 0 + _ ≤ _; exact Nat.le_of_eq rfl) (by decide)
  refine OwnFin.st st1 ?_
  show OwnFin _ _ _ _ (T1.setTop (mkF m 4 #[.val (.ref a0)] []))
  obtain ⟨fs, hr, hrun, hended, hW, hsame⟩ := X1.leave (v := none) (fun _ => rfl)
  refine ⟨_, _, X1.returnOut hx Bd.returns (hb hby d13_4) hr, hrun, hended, _, _, rfl, ?_, ⟨_, rfl⟩, hW, hsame.mono (by decide) (by decide)⟩
  show Q_rm_Number Z a0 h0 n0 _ T1.heap _
  rw [e1]
  exact ⟨rfl, N0, rfl⟩
theorem pd_4 : parseMethodDescriptor "()V" = some ⟨[], none⟩ := by decide +kernel
theorem d12_0 : decode jdk_33_method_23_code 0 = .ok (.aload_n 0, 1) := by decide +kernel
theorem d12_1 : decode jdk_33_method_23_code 1 = .ok (.invokespecial 202, 3) := by decide +kernel
theorem d12_4 : decode jdk_33_method_23_code 4 = .ok (.aload_n 0, 1) := by decide +kernel
theorem d12_5 : decode jdk_33_method_23_code 5 = .ok (.iload_n 1, 1) := by decide +kernel
theorem d12_6 : decode jdk_33_method_23_code 6 = .ok (.putfield 205, 3) := by decide +kernel
theorem d12_9 : decode jdk_33_method_23_code 9 = .ok (.return_, 1) := by decide +kernel
theorem pn_3 : plainName "java/lang/Integer" = true := by first | (simp [plainName, overriddenIn]; done) | decide +kernel
theorem ef_rm_IntegerInit (m : MethodId) (a0 : Addr) (p1 : Int32) : entryFrame m #[(.ref a0), (.int p1)] 2 = mkF m 0 #[.val (.ref a0), .val (.int p1)] [] := by first | (simp [entryFrame, mkF, argsToLocals, Value.category]; done) | rfl
def Q_rm_IntegerInit (Z : State) (a0 : Addr) (p1 : Int32) (u_value_a0 : Value) (h0 : Heap) (n0 : Nat) (v : Option Value) (h : Heap) (L : List Loc) : Prop := v = none ∧ Fr n0 L ∧ Keep h0 h [a0] ∧ Fld Z h a0 "java/lang/Integer" "value" "I" (.int p1)
set_option maxRecDepth 65536 in
set_option maxHeartbeats 40000000 in
theorem rm_IntegerInit (l : Launch) (Z : State) (av0 : Array Value) (hw : ∀ d ∈ tables_1, d.before av0 Z = true) (ws : List Jvm.Cond) (a0 : Addr) (p1 : Int32) (u_value_a0 : Value) (h0 : Heap) (n0 : Nat) (Z0 : n0 ≤ h0.size) (X_a0 : Exa Z h0 a0 "java/lang/Integer") (F_value_a0 : Fld Z h0 a0 "java/lang/Integer" "value" "I" u_value_a0) (g_a0 : n0 ≤ a0) :
    MetFree l (⟨"java/lang/Integer", "<init>", "(I)V"⟩ : MethodName) (head1 (Jvm.Cond.code (⟨"java/lang/Integer", "<init>", "(I)V"⟩ : MethodName) jdk_33_method_23_code 2 none :: ws) ({ frames := 2, cells := 0, slots := 0, locals := 24 } : Room)) (fun a U => a = #[(.ref a0), (.int p1)] ∧ Z.Warmed39 U.vm ∧ U.heap = h0) (fun _ _ _ _ _ => True) (fun _ U o U' => ∃ v L, o = .returned v ∧ Q_rm_IntegerInit Z a0 p1 u_value_a0 h0 n0 v U'.heap L ∧ FrameEnd U o U' L ({ frames := 2, cells := 0, slots := 0, locals := 24 } : Room).cells ({ frames := 2, cells := 0, slots := 0, locals := 24 } : Room).slots) := by
  refine MetFree.of_bodySF (plainFor_of_name pn_3) hisR ?_
  intro p e s m args below meth c s₁ Bd hml0 hP hK
  obtain ⟨rfl, hZ, hh⟩ := hP
  have hx := Bd.exec
  have hby := Bd.bytes
  have hml : c.maxLocals = 2 := hml0
  have hown : s.vm.findClass "java/lang/Integer" = some m.cls := findClass_of_methodNamed Bd.named
  have hnm := (name_of_methodNamed Bd.named Bd.method).1
  have X0 : Stand p l e ({ frames := 2, cells := 0, slots := 0, locals := 24 } : Room) s m #[(.ref a0), (.int p1)] below meth c s₁ [] 0 0 := Stand.of_body Bd
  have e0 : s₁.heap = h0 := by rw [← hh, Bd.state]; rfl
  have N0 := Fr.nil n0
  have pre0 : ∀ t, Steps p.tables e below (s₁.setTop (mkF m 0 #[.val (.ref a0), .val (.int p1)] [])) t → Steps p.tables e below (s₁.setTop (entryFrame m #[(.ref a0), (.int p1)] 2)) t := fun t k => castTop (ef_rm_IntegerInit m a0 p1) k
  change OwnFin p.tables e below _ (s₁.setTop (entryFrame m #[(.ref a0), (.int p1)] 2))
  have kp0 : Keep h0 h0 [a0] := Keep.refl _ _
  refine OwnFin.st (fun _ q => pre0 _ q) ?_
  show OwnFin _ _ _ _ (s₁.setTop (mkF m 0 #[.val (.ref a0), .val (.int p1)] []))
  refine OwnFin.st (fun _ q => XS.aloadN X0.here hx rfl (hb hby d12_0) rfl rfl q) ?_
  show OwnFin _ _ _ _ (s₁.setTop (mkF m 1 #[.val (.ref a0), .val (.int p1)] [(.ref a0)]))
  obtain ⟨_, _, ⟨T1, L1, k1, n1⟩, -, X1, ⟨Lc1, hQ1, l1, y1, z1⟩, st1⟩ := X0.specialBack hx (y := (⟨"java/lang/Number", "<init>", "()V"⟩ : MethodName)) rfl hown (mvT hZ (hw _ (List.mem_of_getElem? (i := 71) rfl))) (mvT hZ (hw _ (List.mem_of_getElem? (i := 72) rfl))) (mvT hZ (hw _ (List.mem_of_getElem? (i := 76) rfl))) (by decide) (backOf (W := 0) (rm_Number l Z av0 hw [] a0 h0 n0 (Nat.le_trans Z0 kp0.1) ) hZ (hw _ (List.mem_of_getElem? (i := 76) rfl)) (hw _ (List.mem_of_getElem? (i := 75) rfl)) (by decide) (by decide)) (g := (mkF m 1 #[.val (.ref a0), .val (.int p1)] [(.ref a0)])) rfl (by rw [hml]; rfl) (Steps.refl _) (a := a0) (argsL := []) (rest := []) (lenOf pd_4 rfl) rfl (by show 2 * 0 + _ ≤ _; exact Nat.le_of_eq rfl) (hb hby d12_1) (fun _ _ => ⟨rfl, e0, (by decide : 0 + 0 ≤ _), (by decide : 0 + 0 ≤ _)⟩)
  dsimp only [Pt.U, Pt.locs, Pt.cells, Pt.slots] at X1 l1 y1 z1 st1 hQ1
  subst l1 y1 z1
  obtain ⟨rfl, N1q, he1⟩ := hQ1
  have N1 := Fr.app N0 N1q
  refine OwnFin.tr st1 ?_
  show OwnFin _ _ _ _ (T1.setTop (mkF m 4 #[.val (.ref a0), .val (.int p1)] []))
  refine OwnFin.st (fun _ q => XS.aloadN X1.here hx rfl (hb hby d12_4) rfl rfl q) ?_
  show OwnFin _ _ _ _ (T1.setTop (mkF m 5 #[.val (.ref a0), .val (.int p1)] [(.ref a0)]))
  refine OwnFin.st (fun _ q => XS.iloadN X1.here hx rfl (hb hby d12_5) rfl q) ?_
  show OwnFin _ _ _ _ (T1.setTop (mkF m 6 #[.val (.ref a0), .val (.int p1)] [(.int p1), (.ref a0)]))
  obtain ⟨T2, h2, X2, e2, W2, st2⟩ := putF X1 hx hZ hown (host := "") (Or.inl (hw _ (List.mem_of_getElem? (i := 78) rfl))) Via.refl he1 F_value_a0 X_a0 (Or.inr ⟨(hw _ (List.mem_of_getElem? (i := 79) rfl)), rfl, hnm⟩) (hw _ (List.mem_of_getElem? (i := 66) rfl)) (ty := .int) (by decide) rfl rfl (g := (mkF m 6 #[.val (.ref a0), .val (.int p1)] [(.int p1), (.ref a0)])) rfl rfl (hb hby d12_6)
  refine OwnFin.st st2 ?_
  have Fw2 : Fld Z h2 a0 "java/lang/Integer" "value" "I" (.int p1) := F_value_a0.same W2
  have N2 := Fr.snoc X2 N1 g_a0
  have kp3 : Keep h0 h2 [a0] := kp0.wr W2 (Or.inl (List.mem_of_getElem? (i := 0) rfl))
  show OwnFin _ _ _ _ (T2.setTop (mkF m 9 #[.val (.ref a0), .val (.int p1)] []))
  obtain ⟨fs, hr, hrun, hended, hW, hsame⟩ := X2.leave (v := none) (fun _ => rfl)
  refine ⟨_, _, X2.returnOut hx Bd.returns (hb hby d12_9) hr, hrun, hended, _, _, rfl, ?_, ⟨_, rfl⟩, hW, hsame.mono (by decide) (by decide)⟩
  show Q_rm_IntegerInit Z a0 p1 u_value_a0 h0 n0 _ T2.heap _
  rw [e2]
  exact ⟨rfl, N2, kp3, Fw2⟩
theorem pd_5 : parseMethodDescriptor "(I)V" = some ⟨[.int], none⟩ := by decide +kernel
theorem d11_0 : decode jdk_33_method_22_code 0 = .ok (.iload_n 0, 1) := by decide +kernel
theorem d11_1 : decode jdk_33_method_22_code 1 = .ok (.bipush (-128), 2) := by decide +kernel
theorem d11_3 : decode jdk_33_method_22_code 3 = .ok (.if_icmp .lt 20, 3) := by decide +kernel
theorem d11_6 : decode jdk_33_method_22_code 6 = .ok (.iload_n 0, 1) := by decide +kernel
theorem d11_7 : decode jdk_33_method_22_code 7 = .ok (.getstatic 191, 3) := by decide +kernel
theorem d11_10 : decode jdk_33_method_22_code 10 = .ok (.if_icmp .gt 13, 3) := by decide +kernel
theorem d11_13 : decode jdk_33_method_22_code 13 = .ok (.getstatic 195, 3) := by decide +kernel
theorem d11_16 : decode jdk_33_method_22_code 16 = .ok (.iload_n 0, 1) := by decide +kernel
theorem d11_17 : decode jdk_33_method_22_code 17 = .ok (.sipush 128, 3) := by decide +kernel
theorem d11_20 : decode jdk_33_method_22_code 20 = .ok (.iadd, 1) := by decide +kernel
theorem d11_21 : decode jdk_33_method_22_code 21 = .ok (.aaload, 1) := by decide +kernel
theorem d11_22 : decode jdk_33_method_22_code 22 = .ok (.areturn, 1) := by decide +kernel
theorem d11_23 : decode jdk_33_method_22_code 23 = .ok (.new 1, 3) := by decide +kernel
theorem d11_26 : decode jdk_33_method_22_code 26 = .ok (.dup, 1) := by decide +kernel
theorem d11_27 : decode jdk_33_method_22_code 27 = .ok (.iload_n 0, 1) := by decide +kernel
theorem d11_28 : decode jdk_33_method_22_code 28 = .ok (.invokespecial 199, 3) := by decide +kernel
theorem d11_31 : decode jdk_33_method_22_code 31 = .ok (.areturn, 1) := by decide +kernel
theorem ef_rm_valueOf (m : MethodId) (p0 : Int32) : entryFrame m #[(.int p0)] 1 = mkF m 0 #[.val (.int p0)] [] := by first | (simp [entryFrame, mkF, argsToLocals, Value.category]; done) | rfl
def Q_rm_valueOf (Z : State) (p0 : Int32) (w_cache : Addr) (clI : Cell) (h0 : Heap) (n0 : Nat) (v : Option Value) (h : Heap) (L : List Loc) : Prop := ∃ rW : Addr, v = some (.ref rW) ∧ Fr n0 L ∧ Keep h0 h []
set_option maxHeartbeats 4000000 in
theorem om_rm_valueOf_0 (p0 : Int32) (oh0 : ¬ (p0 < (-128 : Int32))) (oh1 : ¬ ((127 : Int32) < p0)) : ¬ (p0 + (128 : Int32)) < 0 ∧ (p0 + (128 : Int32)) < (256 : Int32) := by
  have om1 := rng32 p0
  have om2 := rng32 (-128 : Int32)
  have om2l : (-128 : Int32).toInt = -128 := by decide +kernel
  have om3 := rng32 (127 : Int32)
  have om3l : (127 : Int32).toInt = 127 := by decide +kernel
  have om4 := rng32 (p0 + (128 : Int32))
  have om5 := c_iadd p0 (128 : Int32)
  have om6 := rng32 (128 : Int32)
  have om6l : (128 : Int32).toInt = 128 := by decide +kernel
  have om7 := rng32 (256 : Int32)
  have om7l : (256 : Int32).toInt = 256 := by decide +kernel
  have om8 := rng32 (0 : Int32)
  have om8l : (0 : Int32).toInt = 0 := by decide +kernel
  have ow0 := oh0
  rw [Int32.lt_iff_toInt_lt] at ow0
  have ow1 := oh1
  rw [Int32.lt_iff_toInt_lt] at ow1
  rw [Int32.lt_iff_toInt_lt, Int32.lt_iff_toInt_lt]
  generalize (p0 + (128 : Int32)).toInt = gx0 at *
  generalize (-128 : Int32).toInt = gx1 at *
  generalize (127 : Int32).toInt = gx2 at *
  generalize (128 : Int32).toInt = gx3 at *
  generalize (256 : Int32).toInt = gx4 at *
  generalize (0 : Int32).toInt = gx5 at *
  generalize p0.toInt = gx6 at *
  omega
set_option maxRecDepth 65536 in
set_option maxHeartbeats 40000000 in
theorem rm_valueOf (l : Launch) (Z : State) (av0 : Array Value) (hw : ∀ d ∈ tables_1, d.before av0 Z = true) (ws : List Jvm.Cond) (p0 : Int32) (w_cache : Addr) (clI : Cell) (h0 : Heap) (n0 : Nat) (Z0 : n0 ≤ h0.size) (Ol0 : Old Z n0 h0) (BxI : Bxs Z w_cache clI "java/lang/Integer" "I" (256 : Int32) (fun j => .int (j - 128))) (S_high : Sta Z Z.heap "java/lang/Integer$IntegerCache" "high" "I" (.int (127 : Int32))) (S_cache : Sta Z Z.heap "java/lang/Integer$IntegerCache" "cache" "[Ljava/lang/Integer;" (.ref w_cache)) :
    MetFree l (⟨"java/lang/Integer", "valueOf", "(I)Ljava/lang/Integer;"⟩ : MethodName) (head1 (Jvm.Cond.code (⟨"java/lang/Integer", "valueOf", "(I)Ljava/lang/Integer;"⟩ : MethodName) jdk_33_method_22_code 1 (some (.object "java/lang/Integer")) :: ws) ({ frames := 3, cells := 1, slots := 1, locals := 38 } : Room)) (fun a U => a = #[(.int p0)] ∧ Z.Warmed39 U.vm ∧ U.heap = h0) (fun _ _ _ _ _ => True) (fun _ U o U' => ∃ v L, o = .returned v ∧ Q_rm_valueOf Z p0 w_cache clI h0 n0 v U'.heap L ∧ FrameEnd U o U' L ({ frames := 3, cells := 1, slots := 1, locals := 38 } : Room).cells ({ frames := 3, cells := 1, slots := 1, locals := 38 } : Room).slots) := by
  refine MetFree.of_bodySF (plainFor_of_name pn_3) hisR ?_
  intro p e s m args below meth c s₁ Bd hml0 hP hK
  obtain ⟨rfl, hZ, hh⟩ := hP
  have hx := Bd.exec
  have hby := Bd.bytes
  have hml : c.maxLocals = 1 := hml0
  have hown : s.vm.findClass "java/lang/Integer" = some m.cls := findClass_of_methodNamed Bd.named
  have hnm := (name_of_methodNamed Bd.named Bd.method).1
  have X0 : Stand p l e ({ frames := 3, cells := 1, slots := 1, locals := 38 } : Room) s m #[(.int p0)] below meth c s₁ [] 0 0 := Stand.of_body Bd
  have e0 : s₁.heap = h0 := by rw [← hh, Bd.state]; rfl
  have N0 := Fr.nil n0
  have pre0 : ∀ t, Steps p.tables e below (s₁.setTop (mkF m 0 #[.val (.int p0)] [])) t → Steps p.tables e below (s₁.setTop (entryFrame m #[(.int p0)] 1)) t := fun t k => castTop (ef_rm_valueOf m p0) k
  change OwnFin p.tables e below _ (s₁.setTop (entryFrame m #[(.int p0)] 1))
  have kp0 : Keep h0 h0 [] := Keep.refl _ _
  refine OwnFin.st (fun _ q => pre0 _ q) ?_
  show OwnFin _ _ _ _ (s₁.setTop (mkF m 0 #[.val (.int p0)] []))
  refine OwnFin.st (fun _ q => XS.iloadN X0.here hx rfl (hb hby d11_0) rfl q) ?_
  show OwnFin _ _ _ _ (s₁.setTop (mkF m 1 #[.val (.int p0)] [(.int p0)]))
  refine OwnFin.st (fun _ q => XS.bipush X0.here hx rfl (hb hby d11_1) q) ?_
  show OwnFin _ _ _ _ (s₁.setTop (mkF m 3 #[.val (.int p0)] [(.int (-128 : Int32)), (.int p0)]))
  by_cases hc1 : p0 < (-128 : Int32)
  · skip
    refine OwnFin.st (fun _ q => XS.icmpYes X0.here hx rfl (pc0 := 3) (pc' := 23) rfl (hb hby d11_3) rfl (Jvm.Free.XT.ii_lt_t hc1) (by decide) (by decide) q) ?_
    show OwnFin _ _ _ _ (s₁.setTop (mkF m 23 #[.val (.int p0)] []))
    obtain ⟨T2, h2, X2, e2, E2, A2, D2, -, st2⟩ := newO X0 hx hZ hown (hw _ (List.mem_of_getElem? (i := 65) rfl)) (hw _ (List.mem_of_getElem? (i := 66) rfl)) (hw _ (List.mem_of_getElem? (i := 59) rfl)) e0 (g := (mkF m 23 #[.val (.int p0)] [])) rfl (hb hby d11_23) (by decide) (by decide)
    obtain ⟨b2, qe2⟩ : ∃ z, z = h0.size := ⟨_, rfl⟩
    rw [← qe2] at A2 D2 st2
    refine OwnFin.st st2 ?_
    have bi_b2 : h0.size ≤ b2 := Nat.le_of_eq qe2.symm
    have lo_b2 : h0.size ≤ b2 := Nat.le_trans kp0.1 bi_b2
    have g_b2 : n0 ≤ b2 := Nat.le_trans Z0 lo_b2
    have kp3 : Keep h0 h2 [] := kp0.ext E2
    have ol3 : Old Z n0 h2 := Ol0.ext E2
    have F_value_b2 : Fld Z h2 b2 "java/lang/Integer" "value" "I" (.int (0 : Int32)) := D2 (Or.inr (hw _ (List.mem_of_getElem? (i := 79) rfl))) (ty := .int) (by decide)
    show OwnFin _ _ _ _ (T2.setTop (mkF m 26 #[.val (.int p0)] [(.ref b2)]))
    refine OwnFin.st (fun _ q => XS.dup X2.here hx rfl (hb hby d11_26) rfl rfl q) ?_
    show OwnFin _ _ _ _ (T2.setTop (mkF m 27 #[.val (.int p0)] [(.ref b2), (.ref b2)]))
    refine OwnFin.st (fun _ q => XS.iloadN X2.here hx rfl (hb hby d11_27) rfl q) ?_
    show OwnFin _ _ _ _ (T2.setTop (mkF m 28 #[.val (.int p0)] [(.int p0), (.ref b2), (.ref b2)]))
    obtain ⟨_, _, ⟨T4, L4, k4, n4⟩, -, X4, ⟨Lc4, hQ4, l4, y4, z4⟩, st4⟩ := X2.specialBack hx (y := (⟨"java/lang/Integer", "<init>", "(I)V"⟩ : MethodName)) rfl hown (mvT hZ (hw _ (List.mem_of_getElem? (i := 67) rfl))) (mvT hZ (hw _ (List.mem_of_getElem? (i := 68) rfl))) (mvT hZ (hw _ (List.mem_of_getElem? (i := 70) rfl))) (by decide) (backOf (W := 1) (rm_IntegerInit l Z av0 hw [] b2 p0 (.int (0 : Int32)) h2 n0 (Nat.le_trans Z0 kp3.1) A2 F_value_b2 g_b2) hZ (hw _ (List.mem_of_getElem? (i := 70) rfl)) (hw _ (List.mem_of_getElem? (i := 59) rfl)) (by decide) (by decide)) (g := (mkF m 28 #[.val (.int p0)] [(.int p0), (.ref b2), (.ref b2)])) rfl (by rw [hml]; rfl) (Steps.refl _) (a := b2) (argsL := [(.int p0)]) (rest := [(.ref b2)]) (lenOf pd_5 rfl) rfl (by show 2 * 0 + _ ≤ _; exact Nat.le_of_eq rfl) (hb hby d11_28) (fun _ _ => ⟨rfl, e2, (by decide : 1 + 0 ≤ _), (by decide : 1 + 0 ≤ _)⟩)
    dsimp only [Pt.U, Pt.locs, Pt.cells, Pt.slots] at X4 l4 y4 z4 st4 hQ4
    subst l4 y4 z4
    obtain ⟨rfl, N4q, K4, r4_0⟩ := hQ4
    have N4 := Fr.app N0 N4q
    refine OwnFin.tr st4 ?_
    obtain ⟨h4, e4⟩ : ∃ z, T4.heap = z := ⟨_, rfl⟩
    rw [e4] at K4 r4_0
    have kp5 : Keep h0 h4 [] := kp3.trans K4 (allS (Or.inr lo_b2) all0)
    have ol5 : Old Z n0 h4 := ol3.keep K4 (allS g_b2 all0)
    show OwnFin _ _ _ _ (T4.setTop (mkF m 31 #[.val (.int p0)] [(.ref b2)]))
    obtain ⟨fs, hr, hrun, hended, hW, hsame⟩ := X4.leave (v := some (.ref b2)) (fun h => by rw [Bd.returns] at h; cases h)
    refine ⟨_, _, retOut X4 hx Bd.returns rfl (Or.inr (Or.inr (Or.inr (Or.inr ⟨rfl, rfl, rfl⟩)))) (hb hby d11_31) hr, hrun, hended, _, _, rfl, ?_, ⟨_, rfl⟩, hW, hsame.mono (by decide) (by decide)⟩
    show Q_rm_valueOf Z p0 w_cache clI h0 n0 _ T4.heap _
    rw [e4]
    exact ⟨b2, rfl, N4, kp5⟩
  · skip
    refine OwnFin.st (fun _ q => XS.icmpNo X0.here hx rfl (hb hby d11_3) rfl (Jvm.Free.XT.ii_lt_f hc1) q) ?_
    show OwnFin _ _ _ _ (s₁.setTop (mkF m 6 #[.val (.int p0)] []))
    refine OwnFin.st (fun _ q => XS.iloadN X0.here hx rfl (hb hby d11_6) rfl q) ?_
    show OwnFin _ _ _ _ (s₁.setTop (mkF m 7 #[.val (.int p0)] [(.int p0)]))
    obtain ⟨T6, X6, e6, st6⟩ := getS2 X0 hx hZ hown (host := "") (Or.inl (hw _ (List.mem_of_getElem? (i := 61) rfl))) Via.refl e0 (S_high.ext Ol0.2) (g := (mkF m 7 #[.val (.int p0)] [(.int p0)])) rfl (hb hby d11_7)
    refine OwnFin.st st6 ?_
    show OwnFin _ _ _ _ (T6.setTop (mkF m 10 #[.val (.int p0)] [(.int (127 : Int32)), (.int p0)]))
    by_cases hc7 : (127 : Int32) < p0
    · skip
      refine OwnFin.st (fun _ q => XS.icmpYes X6.here hx rfl (pc0 := 10) (pc' := 23) rfl (hb hby d11_10) rfl (Jvm.Free.XT.ii_gt_t hc7) (by decide) (by decide) q) ?_
      show OwnFin _ _ _ _ (T6.setTop (mkF m 23 #[.val (.int p0)] []))
      obtain ⟨T8, h8, X8, e8, E8, A8, D8, -, st8⟩ := newO X6 hx hZ hown (hw _ (List.mem_of_getElem? (i := 65) rfl)) (hw _ (List.mem_of_getElem? (i := 66) rfl)) (hw _ (List.mem_of_getElem? (i := 59) rfl)) e6 (g := (mkF m 23 #[.val (.int p0)] [])) rfl (hb hby d11_23) (by decide) (by decide)
      obtain ⟨b8, qe8⟩ : ∃ z, z = h0.size := ⟨_, rfl⟩
      rw [← qe8] at A8 D8 st8
      refine OwnFin.st st8 ?_
      have bi_b8 : h0.size ≤ b8 := Nat.le_of_eq qe8.symm
      have lo_b8 : h0.size ≤ b8 := Nat.le_trans kp0.1 bi_b8
      have g_b8 : n0 ≤ b8 := Nat.le_trans Z0 lo_b8
      have kp9 : Keep h0 h8 [] := kp0.ext E8
      have ol9 : Old Z n0 h8 := Ol0.ext E8
      have F_value_b8 : Fld Z h8 b8 "java/lang/Integer" "value" "I" (.int (0 : Int32)) := D8 (Or.inr (hw _ (List.mem_of_getElem? (i := 79) rfl))) (ty := .int) (by decide)
      show OwnFin _ _ _ _ (T8.setTop (mkF m 26 #[.val (.int p0)] [(.ref b8)]))
      refine OwnFin.st (fun _ q => XS.dup X8.here hx rfl (hb hby d11_26) rfl rfl q) ?_
      show OwnFin _ _ _ _ (T8.setTop (mkF m 27 #[.val (.int p0)] [(.ref b8), (.ref b8)]))
      refine OwnFin.st (fun _ q => XS.iloadN X8.here hx rfl (hb hby d11_27) rfl q) ?_
      show OwnFin _ _ _ _ (T8.setTop (mkF m 28 #[.val (.int p0)] [(.int p0), (.ref b8), (.ref b8)]))
      obtain ⟨_, _, ⟨T10, L10, k10, n10⟩, -, X10, ⟨Lc10, hQ10, l10, y10, z10⟩, st10⟩ := X8.specialBack hx (y := (⟨"java/lang/Integer", "<init>", "(I)V"⟩ : MethodName)) rfl hown (mvT hZ (hw _ (List.mem_of_getElem? (i := 67) rfl))) (mvT hZ (hw _ (List.mem_of_getElem? (i := 68) rfl))) (mvT hZ (hw _ (List.mem_of_getElem? (i := 70) rfl))) (by decide) (backOf (W := 1) (rm_IntegerInit l Z av0 hw [] b8 p0 (.int (0 : Int32)) h8 n0 (Nat.le_trans Z0 kp9.1) A8 F_value_b8 g_b8) hZ (hw _ (List.mem_of_getElem? (i := 70) rfl)) (hw _ (List.mem_of_getElem? (i := 59) rfl)) (by decide) (by decide)) (g := (mkF m 28 #[.val (.int p0)] [(.int p0), (.ref b8), (.ref b8)])) rfl (by rw [hml]; rfl) (Steps.refl _) (a := b8) (argsL := [(.int p0)]) (rest := [(.ref b8)]) (lenOf pd_5 rfl) rfl (by show 2 * 0 + _ ≤ _; exact Nat.le_of_eq rfl) (hb hby d11_28) (fun _ _ => ⟨rfl, e8, (by decide : 1 + 0 ≤ _), (by decide : 1 + 0 ≤ _)⟩)
      dsimp only [Pt.U, Pt.locs, Pt.cells, Pt.slots] at X10 l10 y10 z10 st10 hQ10
      subst l10 y10 z10
      obtain ⟨rfl, N10q, K10, r10_0⟩ := hQ10
      have N10 := Fr.app N0 N10q
      refine OwnFin.tr st10 ?_
      obtain ⟨h10, e10⟩ : ∃ z, T10.heap = z := ⟨_, rfl⟩
      rw [e10] at K10 r10_0
      have kp11 : Keep h0 h10 [] := kp9.trans K10 (allS (Or.inr lo_b8) all0)
      have ol11 : Old Z n0 h10 := ol9.keep K10 (allS g_b8 all0)
      show OwnFin _ _ _ _ (T10.setTop (mkF m 31 #[.val (.int p0)] [(.ref b8)]))
      obtain ⟨fs, hr, hrun, hended, hW, hsame⟩ := X10.leave (v := some (.ref b8)) (fun h => by rw [Bd.returns] at h; cases h)
      refine ⟨_, _, retOut X10 hx Bd.returns rfl (Or.inr (Or.inr (Or.inr (Or.inr ⟨rfl, rfl, rfl⟩)))) (hb hby d11_31) hr, hrun, hended, _, _, rfl, ?_, ⟨_, rfl⟩, hW, hsame.mono (by decide) (by decide)⟩
      show Q_rm_valueOf Z p0 w_cache clI h0 n0 _ T10.heap _
      rw [e10]
      exact ⟨b8, rfl, N10, kp11⟩
    · skip
      refine OwnFin.st (fun _ q => XS.icmpNo X6.here hx rfl (hb hby d11_10) rfl (Jvm.Free.XT.ii_gt_f hc7) q) ?_
      show OwnFin _ _ _ _ (T6.setTop (mkF m 13 #[.val (.int p0)] []))
      obtain ⟨T12, X12, e12, st12⟩ := getS2 X6 hx hZ hown (host := "") (Or.inl (hw _ (List.mem_of_getElem? (i := 63) rfl))) Via.refl e6 (S_cache.ext Ol0.2) (g := (mkF m 13 #[.val (.int p0)] [])) rfl (hb hby d11_13)
      refine OwnFin.st st12 ?_
      show OwnFin _ _ _ _ (T12.setTop (mkF m 16 #[.val (.int p0)] [(.ref w_cache)]))
      refine OwnFin.st (fun _ q => XS.iloadN X12.here hx rfl (hb hby d11_16) rfl q) ?_
      show OwnFin _ _ _ _ (T12.setTop (mkF m 17 #[.val (.int p0)] [(.int p0), (.ref w_cache)]))
      refine OwnFin.st (fun _ q => XS.sipush X12.here hx rfl (hb hby d11_17) q) ?_
      show OwnFin _ _ _ _ (T12.setTop (mkF m 20 #[.val (.int p0)] [(.int (128 : Int32)), (.int p0), (.ref w_cache)]))
      refine OwnFin.st (fun _ q => XS.iadd X12.here hx rfl (hb hby d11_20) rfl q) ?_
      show OwnFin _ _ _ _ (T12.setTop (mkF m 21 #[.val (.int p0)] [(.int (p0 + (128 : Int32))), (.ref w_cache)]))
      have hji : ¬ (p0 + (128 : Int32)) < 0 ∧ (p0 + (128 : Int32)) < (256 : Int32) := (om_rm_valueOf_0 p0 hc1 hc7)
      have hin := inb_of BxI.2.1 hji
      obtain ⟨rI, hat, XI, FI⟩ := BxI.2.2.2 (p0 + (128 : Int32)) hin
      refine OwnFin.st (X12.aaload hx (j := (p0 + (128 : Int32))) (v := (.ref rI)) (by rw [e12]; exact (BxI.1.ext Ol0.2).1) (State.isArrayOf_alike (hZ).alike BxI.1.2.1) rfl BxI.1.2.2 hin hat (g := (mkF m 21 #[.val (.int p0)] [(.int (p0 + (128 : Int32))), (.ref w_cache)])) rfl rfl (hb hby d11_21)) ?_
      show OwnFin _ _ _ _ (T12.setTop (mkF m 22 #[.val (.int p0)] [(.ref rI)]))
      obtain ⟨fs, hr, hrun, hended, hW, hsame⟩ := X12.leave (v := some (.ref rI)) (fun h => by rw [Bd.returns] at h; cases h)
      refine ⟨_, _, retOut X12 hx Bd.returns rfl (Or.inr (Or.inr (Or.inr (Or.inr ⟨rfl, rfl, rfl⟩)))) (hb hby d11_22) hr, hrun, hended, _, _, rfl, ?_, ⟨_, rfl⟩, hW, hsame.mono (by decide) (by decide)⟩
      show Q_rm_valueOf Z p0 w_cache clI h0 n0 _ T12.heap _
      rw [e12]
      exact ⟨rI, rfl, N0, kp0⟩
def own_minI (x y : Int32) : Int32 := if y < x then y else x
theorem own_minIf (x y : Int32) : (own_minI x y).toInt = min x.toInt y.toInt := by
  unfold own_minI; split <;> rename_i h <;> rw [Int32.lt_iff_toInt_lt] at h <;> omega
theorem d7_0 : decode jdk_29_method_69_code 0 = .ok (.iload_n 0, 1) := by decide +kernel
theorem d7_1 : decode jdk_29_method_69_code 1 = .ok (.iload_n 1, 1) := by decide +kernel
theorem d7_2 : decode jdk_29_method_69_code 2 = .ok (.if_icmp .gt 7, 3) := by decide +kernel
theorem d7_5 : decode jdk_29_method_69_code 5 = .ok (.iload_n 0, 1) := by decide +kernel
theorem d7_6 : decode jdk_29_method_69_code 6 = .ok (.goto 4, 3) := by decide +kernel
theorem d7_9 : decode jdk_29_method_69_code 9 = .ok (.iload_n 1, 1) := by decide +kernel
theorem d7_10 : decode jdk_29_method_69_code 10 = .ok (.ireturn, 1) := by decide +kernel
theorem ef_rm_min (m : MethodId) (p0 : Int32) (p1 : Int32) : entryFrame m #[(.int p0), (.int p1)] 2 = mkF m 0 #[.val (.int p0), .val (.int p1)] [] := by first | (simp [entryFrame, mkF, argsToLocals, Value.category]; done) | rfl
def Q_rm_min (Z : State) (p0 : Int32) (p1 : Int32) (h0 : Heap) (n0 : Nat) (v : Option Value) (h : Heap) (L : List Loc) : Prop := v = some (.int (own_minI p0 p1)) ∧ Fr n0 L ∧ h = h0
set_option maxRecDepth 65536 in
set_option maxHeartbeats 40000000 in
theorem rm_min (l : Launch) (Z : State) (av0 : Array Value) (hw : ∀ d ∈ tables_1, d.before av0 Z = true) (ws : List Jvm.Cond) (p0 : Int32) (p1 : Int32) (h0 : Heap) (n0 : Nat) (Z0 : n0 ≤ h0.size) :
    MetFree l (⟨"java/lang/Math", "min", "(II)I"⟩ : MethodName) (head1 (Jvm.Cond.code (⟨"java/lang/Math", "min", "(II)I"⟩ : MethodName) jdk_29_method_69_code 2 (some .int) :: ws) ({ frames := 0, cells := 0, slots := 0, locals := 0 } : Room)) (fun a U => a = #[(.int p0), (.int p1)] ∧ Z.Warmed39 U.vm ∧ U.heap = h0) (fun _ _ _ _ _ => True) (fun _ U o U' => ∃ v L, o = .returned v ∧ Q_rm_min Z p0 p1 h0 n0 v U'.heap L ∧ FrameEnd U o U' L ({ frames := 0, cells := 0, slots := 0, locals := 0 } : Room).cells ({ frames := 0, cells := 0, slots := 0, locals := 0 } : Room).slots) := by
  refine MetFree.of_bodySF (Jvm.Free.JP.mathPlain rfl (by decide +kernel)) hisR ?_
  intro p e s m args below meth c s₁ Bd hml0 hP hK
  obtain ⟨rfl, hZ, hh⟩ := hP
  have hx := Bd.exec
  have hby := Bd.bytes
  have hml : c.maxLocals = 2 := hml0
  have hown : s.vm.findClass "java/lang/Math" = some m.cls := findClass_of_methodNamed Bd.named
  have hnm := (name_of_methodNamed Bd.named Bd.method).1
  have X0 : Stand p l e ({ frames := 0, cells := 0, slots := 0, locals := 0 } : Room) s m #[(.int p0), (.int p1)] below meth c s₁ [] 0 0 := Stand.of_body Bd
  have e0 : s₁.heap = h0 := by rw [← hh, Bd.state]; rfl
  have N0 := Fr.nil n0
  have pre0 : ∀ t, Steps p.tables e below (s₁.setTop (mkF m 0 #[.val (.int p0), .val (.int p1)] [])) t → Steps p.tables e below (s₁.setTop (entryFrame m #[(.int p0), (.int p1)] 2)) t := fun t k => castTop (ef_rm_min m p0 p1) k
  change OwnFin p.tables e below _ (s₁.setTop (entryFrame m #[(.int p0), (.int p1)] 2))
  have kp0 : Keep h0 h0 [] := Keep.refl _ _
  refine OwnFin.st (fun _ q => pre0 _ q) ?_
  show OwnFin _ _ _ _ (s₁.setTop (mkF m 0 #[.val (.int p0), .val (.int p1)] []))
  refine OwnFin.st (fun _ q => XS.iloadN X0.here hx rfl (hb hby d7_0) rfl q) ?_
  show OwnFin _ _ _ _ (s₁.setTop (mkF m 1 #[.val (.int p0), .val (.int p1)] [(.int p0)]))
  refine OwnFin.st (fun _ q => XS.iloadN X0.here hx rfl (hb hby d7_1) rfl q) ?_
  show OwnFin _ _ _ _ (s₁.setTop (mkF m 2 #[.val (.int p0), .val (.int p1)] [(.int p1), (.int p0)]))
  by_cases hc1 : p1 < p0
  · skip
    refine OwnFin.st (fun _ q => XS.icmpYes X0.here hx rfl (pc0 := 2) (pc' := 9) rfl (hb hby d7_2) rfl (Jvm.Free.XT.ii_gt_t hc1) (by decide) (by decide) q) ?_
    show OwnFin _ _ _ _ (s₁.setTop (mkF m 9 #[.val (.int p0), .val (.int p1)] []))
    refine OwnFin.st (fun _ q => XS.iloadN X0.here hx rfl (hb hby d7_9) rfl q) ?_
    show OwnFin _ _ _ _ (s₁.setTop (mkF m 10 #[.val (.int p0), .val (.int p1)] [(.int p1)]))
    obtain ⟨fs, hr, hrun, hended, hW, hsame⟩ := X0.leave (v := some (.int p1)) (fun h => by rw [Bd.returns] at h; cases h)
    refine ⟨_, _, retI X0 hx Bd.returns (hb hby d7_10) hr, hrun, hended, _, _, rfl, ?_, ⟨_, rfl⟩, hW, hsame.mono (by decide) (by decide)⟩
    show Q_rm_min Z p0 p1 h0 n0 _ s₁.heap _
    rw [e0]
    refine ⟨?_, N0, rfl⟩
    simp [own_minI, hc1]
  · skip
    refine OwnFin.st (fun _ q => XS.icmpNo X0.here hx rfl (hb hby d7_2) rfl (Jvm.Free.XT.ii_gt_f hc1) q) ?_
    show OwnFin _ _ _ _ (s₁.setTop (mkF m 5 #[.val (.int p0), .val (.int p1)] []))
    refine OwnFin.st (fun _ q => XS.iloadN X0.here hx rfl (hb hby d7_5) rfl q) ?_
    show OwnFin _ _ _ _ (s₁.setTop (mkF m 6 #[.val (.int p0), .val (.int p1)] [(.int p0)]))
    refine OwnFin.st (fun _ q => XS.goto X0.here hx rfl (pc0 := 6) (pc' := 10) rfl (hb hby d7_6) (by decide) (by decide) q) ?_
    show OwnFin _ _ _ _ (s₁.setTop (mkF m 10 #[.val (.int p0), .val (.int p1)] [(.int p0)]))
    obtain ⟨fs, hr, hrun, hended, hW, hsame⟩ := X0.leave (v := some (.int p0)) (fun h => by rw [Bd.returns] at h; cases h)
    refine ⟨_, _, retI X0 hx Bd.returns (hb hby d7_10) hr, hrun, hended, _, _, rfl, ?_, ⟨_, rfl⟩, hW, hsame.mono (by decide) (by decide)⟩
    show Q_rm_min Z p0 p1 h0 n0 _ s₁.heap _
    rw [e0]
    refine ⟨?_, N0, rfl⟩
    simp [own_minI, hc1]
theorem d8_0 : decode method_2_code 0 = .ok (.iload_n 0, 1) := by decide +kernel
theorem d8_1 : decode method_2_code 1 = .ok (.ifCond .ne 5, 3) := by decide +kernel
theorem d8_4 : decode method_2_code 4 = .ok (.aload_n 1, 1) := by decide +kernel
theorem d8_5 : decode method_2_code 5 = .ok (.areturn, 1) := by decide +kernel
theorem pn_4 : plainName "com/example/nepean/nepean/session/PendingKeyEqualsPinLaw" = true := by first | (simp [plainName, overriddenIn]; done) | decide +kernel
theorem ef_rm_pick0 (m : MethodId) (p0 : Int32) (a1 : Addr) (a2 : Addr) : entryFrame m #[(.int p0), (.ref a1), (.ref a2)] 3 = mkF m 0 #[.val (.int p0), .val (.ref a1), .val (.ref a2)] [] := by first | (simp [entryFrame, mkF, argsToLocals, Value.category]; done) | rfl
def Q_rm_pick0 (Z : State) (p0 : Int32) (a1 : Addr) (a2 : Addr) (h0 : Heap) (n0 : Nat) (v : Option Value) (h : Heap) (L : List Loc) : Prop := v = some (.ref a1) ∧ Fr n0 L ∧ h = h0
set_option maxRecDepth 65536 in
set_option maxHeartbeats 40000000 in
theorem rm_pick0 (l : Launch) (Z : State) (av0 : Array Value) (hw : ∀ d ∈ tables_1, d.before av0 Z = true) (ws : List Jvm.Cond) (p0 : Int32) (a1 : Addr) (a2 : Addr) (h0 : Heap) (n0 : Nat) (Z0 : n0 ≤ h0.size) (hc0 : p0 = (0 : Int32)) :
    MetFree l (⟨"com/example/nepean/nepean/session/PendingKeyEqualsPinLaw", "pick", "(ILjava/lang/Object;Ljava/lang/Object;)Ljava/lang/Object;"⟩ : MethodName) (head1 (Jvm.Cond.code (⟨"com/example/nepean/nepean/session/PendingKeyEqualsPinLaw", "pick", "(ILjava/lang/Object;Ljava/lang/Object;)Ljava/lang/Object;"⟩ : MethodName) method_2_code 3 (some (.object "java/lang/Object")) :: ws) ({ frames := 0, cells := 0, slots := 0, locals := 0 } : Room)) (fun a U => a = #[(.int p0), (.ref a1), (.ref a2)] ∧ Z.Warmed39 U.vm ∧ U.heap = h0) (fun _ _ _ _ _ => True) (fun _ U o U' => ∃ v L, o = .returned v ∧ Q_rm_pick0 Z p0 a1 a2 h0 n0 v U'.heap L ∧ FrameEnd U o U' L ({ frames := 0, cells := 0, slots := 0, locals := 0 } : Room).cells ({ frames := 0, cells := 0, slots := 0, locals := 0 } : Room).slots) := by
  refine MetFree.of_bodySF (plainFor_of_name pn_4) hisR ?_
  intro p e s m args below meth c s₁ Bd hml0 hP hK
  obtain ⟨rfl, hZ, hh⟩ := hP
  have hx := Bd.exec
  have hby := Bd.bytes
  have hml : c.maxLocals = 3 := hml0
  have hown : s.vm.findClass "com/example/nepean/nepean/session/PendingKeyEqualsPinLaw" = some m.cls := findClass_of_methodNamed Bd.named
  have hnm := (name_of_methodNamed Bd.named Bd.method).1
  have X0 : Stand p l e ({ frames := 0, cells := 0, slots := 0, locals := 0 } : Room) s m #[(.int p0), (.ref a1), (.ref a2)] below meth c s₁ [] 0 0 := Stand.of_body Bd
  have e0 : s₁.heap = h0 := by rw [← hh, Bd.state]; rfl
  have N0 := Fr.nil n0
  have pre0 : ∀ t, Steps p.tables e below (s₁.setTop (mkF m 0 #[.val (.int p0), .val (.ref a1), .val (.ref a2)] [])) t → Steps p.tables e below (s₁.setTop (entryFrame m #[(.int p0), (.ref a1), (.ref a2)] 3)) t := fun t k => castTop (ef_rm_pick0 m p0 a1 a2) k
  change OwnFin p.tables e below _ (s₁.setTop (entryFrame m #[(.int p0), (.ref a1), (.ref a2)] 3))
  have kp0 : Keep h0 h0 [] := Keep.refl _ _
  refine OwnFin.st (fun _ q => pre0 _ q) ?_
  show OwnFin _ _ _ _ (s₁.setTop (mkF m 0 #[.val (.int p0), .val (.ref a1), .val (.ref a2)] []))
  refine OwnFin.st (fun _ q => XS.iloadN X0.here hx rfl (hb hby d8_0) rfl q) ?_
  show OwnFin _ _ _ _ (s₁.setTop (mkF m 1 #[.val (.int p0), .val (.ref a1), .val (.ref a2)] [(.int p0)]))
  refine OwnFin.st (fun _ q => XS.ifNo X0.here hx rfl (hb hby d8_1) rfl (Jvm.Free.XT.i0_ne_f hc0) q) ?_
  show OwnFin _ _ _ _ (s₁.setTop (mkF m 4 #[.val (.int p0), .val (.ref a1), .val (.ref a2)] []))
  refine OwnFin.st (fun _ q => XS.aloadN X0.here hx rfl (hb hby d8_4) rfl rfl q) ?_
  show OwnFin _ _ _ _ (s₁.setTop (mkF m 5 #[.val (.int p0), .val (.ref a1), .val (.ref a2)] [(.ref a1)]))
  obtain ⟨fs, hr, hrun, hended, hW, hsame⟩ := X0.leave (v := some (.ref a1)) (fun h => by rw [Bd.returns] at h; cases h)
  refine ⟨_, _, retOut X0 hx Bd.returns rfl (Or.inr (Or.inr (Or.inr (Or.inr ⟨rfl, rfl, rfl⟩)))) (hb hby d8_5) hr, hrun, hended, _, _, rfl, ?_, ⟨_, rfl⟩, hW, hsame.mono (by decide) (by decide)⟩
  show Q_rm_pick0 Z p0 a1 a2 h0 n0 _ s₁.heap _
  rw [e0]
  exact ⟨rfl, N0, rfl⟩
theorem d8_6 : decode method_2_code 6 = .ok (.iload_n 0, 1) := by decide +kernel
theorem d8_7 : decode method_2_code 7 = .ok (.iconst 1, 1) := by decide +kernel
theorem d8_8 : decode method_2_code 8 = .ok (.if_icmp .ne 5, 3) := by decide +kernel
theorem d8_11 : decode method_2_code 11 = .ok (.aload_n 2, 1) := by decide +kernel
theorem d8_12 : decode method_2_code 12 = .ok (.areturn, 1) := by decide +kernel
theorem ef_rm_pick1 (m : MethodId) (p0 : Int32) (a1 : Addr) (a2 : Addr) : entryFrame m #[(.int p0), (.ref a1), (.ref a2)] 3 = mkF m 0 #[.val (.int p0), .val (.ref a1), .val (.ref a2)] [] := by first | (simp [entryFrame, mkF, argsToLocals, Value.category]; done) | rfl
def Q_rm_pick1 (Z : State) (p0 : Int32) (a1 : Addr) (a2 : Addr) (h0 : Heap) (n0 : Nat) (v : Option Value) (h : Heap) (L : List Loc) : Prop := v = some (.ref a2) ∧ Fr n0 L ∧ h = h0
set_option maxRecDepth 65536 in
set_option maxHeartbeats 40000000 in
theorem rm_pick1 (l : Launch) (Z : State) (av0 : Array Value) (hw : ∀ d ∈ tables_1, d.before av0 Z = true) (ws : List Jvm.Cond) (p0 : Int32) (a1 : Addr) (a2 : Addr) (h0 : Heap) (n0 : Nat) (Z0 : n0 ≤ h0.size) (hc0 : ¬ (p0 = (0 : Int32))) (hc1 : p0 = (1 : Int32)) :
    MetFree l (⟨"com/example/nepean/nepean/session/PendingKeyEqualsPinLaw", "pick", "(ILjava/lang/Object;Ljava/lang/Object;)Ljava/lang/Object;"⟩ : MethodName) (head1 (Jvm.Cond.code (⟨"com/example/nepean/nepean/session/PendingKeyEqualsPinLaw", "pick", "(ILjava/lang/Object;Ljava/lang/Object;)Ljava/lang/Object;"⟩ : MethodName) method_2_code 3 (some (.object "java/lang/Object")) :: ws) ({ frames := 0, cells := 0, slots := 0, locals := 0 } : Room)) (fun a U => a = #[(.int p0), (.ref a1), (.ref a2)] ∧ Z.Warmed39 U.vm ∧ U.heap = h0) (fun _ _ _ _ _ => True) (fun _ U o U' => ∃ v L, o = .returned v ∧ Q_rm_pick1 Z p0 a1 a2 h0 n0 v U'.heap L ∧ FrameEnd U o U' L ({ frames := 0, cells := 0, slots := 0, locals := 0 } : Room).cells ({ frames := 0, cells := 0, slots := 0, locals := 0 } : Room).slots) := by
  refine MetFree.of_bodySF (plainFor_of_name pn_4) hisR ?_
  intro p e s m args below meth c s₁ Bd hml0 hP hK
  obtain ⟨rfl, hZ, hh⟩ := hP
  have hx := Bd.exec
  have hby := Bd.bytes
  have hml : c.maxLocals = 3 := hml0
  have hown : s.vm.findClass "com/example/nepean/nepean/session/PendingKeyEqualsPinLaw" = some m.cls := findClass_of_methodNamed Bd.named
  have hnm := (name_of_methodNamed Bd.named Bd.method).1
  have X0 : Stand p l e ({ frames := 0, cells := 0, slots := 0, locals := 0 } : Room) s m #[(.int p0), (.ref a1), (.ref a2)] below meth c s₁ [] 0 0 := Stand.of_body Bd
  have e0 : s₁.heap = h0 := by rw [← hh, Bd.state]; rfl
  have N0 := Fr.nil n0
  have pre0 : ∀ t, Steps p.tables e below (s₁.setTop (mkF m 0 #[.val (.int p0), .val (.ref a1), .val (.ref a2)] [])) t → Steps p.tables e below (s₁.setTop (entryFrame m #[(.int p0), (.ref a1), (.ref a2)] 3)) t := fun t k => castTop (ef_rm_pick1 m p0 a1 a2) k
  change OwnFin p.tables e below _ (s₁.setTop (entryFrame m #[(.int p0), (.ref a1), (.ref a2)] 3))
  have kp0 : Keep h0 h0 [] := Keep.refl _ _
  refine OwnFin.st (fun _ q => pre0 _ q) ?_
  show OwnFin _ _ _ _ (s₁.setTop (mkF m 0 #[.val (.int p0), .val (.ref a1), .val (.ref a2)] []))
  refine OwnFin.st (fun _ q => XS.iloadN X0.here hx rfl (hb hby d8_0) rfl q) ?_
  show OwnFin _ _ _ _ (s₁.setTop (mkF m 1 #[.val (.int p0), .val (.ref a1), .val (.ref a2)] [(.int p0)]))
  refine OwnFin.st (fun _ q => XS.ifYes X0.here hx rfl (pc0 := 1) (pc' := 6) rfl (hb hby d8_1) rfl (Jvm.Free.XT.i0_ne_t hc0) (by decide) (by decide) q) ?_
  show OwnFin _ _ _ _ (s₁.setTop (mkF m 6 #[.val (.int p0), .val (.ref a1), .val (.ref a2)] []))
  refine OwnFin.st (fun _ q => XS.iloadN X0.here hx rfl (hb hby d8_6) rfl q) ?_
  show OwnFin _ _ _ _ (s₁.setTop (mkF m 7 #[.val (.int p0), .val (.ref a1), .val (.ref a2)] [(.int p0)]))
  refine OwnFin.st (fun _ q => XS.iconst X0.here hx rfl (hb hby d8_7) q) ?_
  show OwnFin _ _ _ _ (s₁.setTop (mkF m 8 #[.val (.int p0), .val (.ref a1), .val (.ref a2)] [(.int (1 : Int32)), (.int p0)]))
  refine OwnFin.st (fun _ q => XS.icmpNo X0.here hx rfl (hb hby d8_8) rfl (Jvm.Free.XT.ii_ne_f hc1) q) ?_
  show OwnFin _ _ _ _ (s₁.setTop (mkF m 11 #[.val (.int p0), .val (.ref a1), .val (.ref a2)] []))
  refine OwnFin.st (fun _ q => XS.aloadN X0.here hx rfl (hb hby d8_11) rfl rfl q) ?_
  show OwnFin _ _ _ _ (s₁.setTop (mkF m 12 #[.val (.int p0), .val (.ref a1), .val (.ref a2)] [(.ref a2)]))
  obtain ⟨fs, hr, hrun, hended, hW, hsame⟩ := X0.leave (v := some (.ref a2)) (fun h => by rw [Bd.returns] at h; cases h)
  refine ⟨_, _, retOut X0 hx Bd.returns rfl (Or.inr (Or.inr (Or.inr (Or.inr ⟨rfl, rfl, rfl⟩)))) (hb hby d8_12) hr, hrun, hended, _, _, rfl, ?_, ⟨_, rfl⟩, hW, hsame.mono (by decide) (by decide)⟩
  show Q_rm_pick1 Z p0 a1 a2 h0 n0 _ s₁.heap _
  rw [e0]
  exact ⟨rfl, N0, rfl⟩
theorem d8_13 : decode method_2_code 13 = .ok (.aconst_null, 1) := by decide +kernel
theorem d8_14 : decode method_2_code 14 = .ok (.areturn, 1) := by decide +kernel
theorem ef_rm_pick2 (m : MethodId) (p0 : Int32) (a1 : Addr) (a2 : Addr) : entryFrame m #[(.int p0), (.ref a1), (.ref a2)] 3 = mkF m 0 #[.val (.int p0), .val (.ref a1), .val (.ref a2)] [] := by first | (simp [entryFrame, mkF, argsToLocals, Value.category]; done) | rfl
def Q_rm_pick2 (Z : State) (p0 : Int32) (a1 : Addr) (a2 : Addr) (h0 : Heap) (n0 : Nat) (v : Option Value) (h : Heap) (L : List Loc) : Prop := v = some .null ∧ Fr n0 L ∧ h = h0
set_option maxRecDepth 65536 in
set_option maxHeartbeats 40000000 in
theorem rm_pick2 (l : Launch) (Z : State) (av0 : Array Value) (hw : ∀ d ∈ tables_1, d.before av0 Z = true) (ws : List Jvm.Cond) (p0 : Int32) (a1 : Addr) (a2 : Addr) (h0 : Heap) (n0 : Nat) (Z0 : n0 ≤ h0.size) (hc0 : ¬ (p0 = (0 : Int32))) (hc1 : ¬ (p0 = (1 : Int32))) :
    MetFree l (⟨"com/example/nepean/nepean/session/PendingKeyEqualsPinLaw", "pick", "(ILjava/lang/Object;Ljava/lang/Object;)Ljava/lang/Object;"⟩ : MethodName) (head1 (Jvm.Cond.code (⟨"com/example/nepean/nepean/session/PendingKeyEqualsPinLaw", "pick", "(ILjava/lang/Object;Ljava/lang/Object;)Ljava/lang/Object;"⟩ : MethodName) method_2_code 3 (some (.object "java/lang/Object")) :: ws) ({ frames := 0, cells := 0, slots := 0, locals := 0 } : Room)) (fun a U => a = #[(.int p0), (.ref a1), (.ref a2)] ∧ Z.Warmed39 U.vm ∧ U.heap = h0) (fun _ _ _ _ _ => True) (fun _ U o U' => ∃ v L, o = .returned v ∧ Q_rm_pick2 Z p0 a1 a2 h0 n0 v U'.heap L ∧ FrameEnd U o U' L ({ frames := 0, cells := 0, slots := 0, locals := 0 } : Room).cells ({ frames := 0, cells := 0, slots := 0, locals := 0 } : Room).slots) := by
  refine MetFree.of_bodySF (plainFor_of_name pn_4) hisR ?_
  intro p e s m args below meth c s₁ Bd hml0 hP hK
  obtain ⟨rfl, hZ, hh⟩ := hP
  have hx := Bd.exec
  have hby := Bd.bytes
  have hml : c.maxLocals = 3 := hml0
  have hown : s.vm.findClass "com/example/nepean/nepean/session/PendingKeyEqualsPinLaw" = some m.cls := findClass_of_methodNamed Bd.named
  have hnm := (name_of_methodNamed Bd.named Bd.method).1
  have X0 : Stand p l e ({ frames := 0, cells := 0, slots := 0, locals := 0 } : Room) s m #[(.int p0), (.ref a1), (.ref a2)] below meth c s₁ [] 0 0 := Stand.of_body Bd
  have e0 : s₁.heap = h0 := by rw [← hh, Bd.state]; rfl
  have N0 := Fr.nil n0
  have pre0 : ∀ t, Steps p.tables e below (s₁.setTop (mkF m 0 #[.val (.int p0), .val (.ref a1), .val (.ref a2)] [])) t → Steps p.tables e below (s₁.setTop (entryFrame m #[(.int p0), (.ref a1), (.ref a2)] 3)) t := fun t k => castTop (ef_rm_pick2 m p0 a1 a2) k
  change OwnFin p.tables e below _ (s₁.setTop (entryFrame m #[(.int p0), (.ref a1), (.ref a2)] 3))
  have kp0 : Keep h0 h0 [] := Keep.refl _ _
  refine OwnFin.st (fun _ q => pre0 _ q) ?_
  show OwnFin _ _ _ _ (s₁.setTop (mkF m 0 #[.val (.int p0), .val (.ref a1), .val (.ref a2)] []))
  refine OwnFin.st (fun _ q => XS.iloadN X0.here hx rfl (hb hby d8_0) rfl q) ?_
  show OwnFin _ _ _ _ (s₁.setTop (mkF m 1 #[.val (.int p0), .val (.ref a1), .val (.ref a2)] [(.int p0)]))
  refine OwnFin.st (fun _ q => XS.ifYes X0.here hx rfl (pc0 := 1) (pc' := 6) rfl (hb hby d8_1) rfl (Jvm.Free.XT.i0_ne_t hc0) (by decide) (by decide) q) ?_
  show OwnFin _ _ _ _ (s₁.setTop (mkF m 6 #[.val (.int p0), .val (.ref a1), .val (.ref a2)] []))
  refine OwnFin.st (fun _ q => XS.iloadN X0.here hx rfl (hb hby d8_6) rfl q) ?_
  show OwnFin _ _ _ _ (s₁.setTop (mkF m 7 #[.val (.int p0), .val (.ref a1), .val (.ref a2)] [(.int p0)]))
  refine OwnFin.st (fun _ q => XS.iconst X0.here hx rfl (hb hby d8_7) q) ?_
  show OwnFin _ _ _ _ (s₁.setTop (mkF m 8 #[.val (.int p0), .val (.ref a1), .val (.ref a2)] [(.int (1 : Int32)), (.int p0)]))
  refine OwnFin.st (fun _ q => XS.icmpYes X0.here hx rfl (pc0 := 8) (pc' := 13) rfl (hb hby d8_8) rfl (Jvm.Free.XT.ii_ne_t hc1) (by decide) (by decide) q) ?_
  show OwnFin _ _ _ _ (s₁.setTop (mkF m 13 #[.val (.int p0), .val (.ref a1), .val (.ref a2)] []))
  refine OwnFin.st (fun _ q => XS.aconstNull X0.here hx rfl (hb hby d8_13) q) ?_
  show OwnFin _ _ _ _ (s₁.setTop (mkF m 14 #[.val (.int p0), .val (.ref a1), .val (.ref a2)] [.null]))
  obtain ⟨fs, hr, hrun, hended, hW, hsame⟩ := X0.leave (v := some .null) (fun h => by rw [Bd.returns] at h; cases h)
  refine ⟨_, _, retOut X0 hx Bd.returns rfl (Or.inr (Or.inr (Or.inr (Or.inr ⟨rfl, rfl, rfl⟩)))) (hb hby d8_14) hr, hrun, hended, _, _, rfl, ?_, ⟨_, rfl⟩, hW, hsame.mono (by decide) (by decide)⟩
  show Q_rm_pick2 Z p0 a1 a2 h0 n0 _ s₁.heap _
  rw [e0]
  exact ⟨rfl, N0, rfl⟩
def own_pick (s : Int32) (a b : Addr) : Value := if s = 0 then .ref a else if s = 1 then .ref b else .null
theorem own_pickr (s : Int32) (a b : Addr) : (own_pick s a b).isRef = true := by unfold own_pick; split; rfl; split <;> rfl
theorem ef_rm_pick (m : MethodId) (p0 : Int32) (a1 : Addr) (a2 : Addr) : entryFrame m #[(.int p0), (.ref a1), (.ref a2)] 3 = mkF m 0 #[.val (.int p0), .val (.ref a1), .val (.ref a2)] [] := by first | (simp [entryFrame, mkF, argsToLocals, Value.category]; done) | rfl
def Q_rm_pick (Z : State) (p0 : Int32) (a1 : Addr) (a2 : Addr) (h0 : Heap) (n0 : Nat) (v : Option Value) (h : Heap) (L : List Loc) : Prop := v = some (own_pick p0 a1 a2) ∧ Fr n0 L ∧ h = h0
set_option maxRecDepth 65536 in
set_option maxHeartbeats 40000000 in
theorem rm_pick (l : Launch) (Z : State) (av0 : Array Value) (hw : ∀ d ∈ tables_1, d.before av0 Z = true) (ws : List Jvm.Cond) (p0 : Int32) (a1 : Addr) (a2 : Addr) (h0 : Heap) (n0 : Nat) (Z0 : n0 ≤ h0.size) :
    MetFree l (⟨"com/example/nepean/nepean/session/PendingKeyEqualsPinLaw", "pick", "(ILjava/lang/Object;Ljava/lang/Object;)Ljava/lang/Object;"⟩ : MethodName) (head1 (Jvm.Cond.code (⟨"com/example/nepean/nepean/session/PendingKeyEqualsPinLaw", "pick", "(ILjava/lang/Object;Ljava/lang/Object;)Ljava/lang/Object;"⟩ : MethodName) method_2_code 3 (some (.object "java/lang/Object")) :: ws) ({ frames := 0, cells := 0, slots := 0, locals := 0 } : Room)) (fun a U => a = #[(.int p0), (.ref a1), (.ref a2)] ∧ Z.Warmed39 U.vm ∧ U.heap = h0) (fun _ _ _ _ _ => True) (fun _ U o U' => ∃ v L, o = .returned v ∧ Q_rm_pick Z p0 a1 a2 h0 n0 v U'.heap L ∧ FrameEnd U o U' L ({ frames := 0, cells := 0, slots := 0, locals := 0 } : Room).cells ({ frames := 0, cells := 0, slots := 0, locals := 0 } : Room).slots) := by
  refine MetFree.of_bodySF (plainFor_of_name pn_4) hisR ?_
  intro p e s m args below meth c s₁ Bd hml0 hP hK
  obtain ⟨rfl, hZ, hh⟩ := hP
  have hx := Bd.exec
  have hby := Bd.bytes
  have hml : c.maxLocals = 3 := hml0
  have hown : s.vm.findClass "com/example/nepean/nepean/session/PendingKeyEqualsPinLaw" = some m.cls := findClass_of_methodNamed Bd.named
  have hnm := (name_of_methodNamed Bd.named Bd.method).1
  have X0 : Stand p l e ({ frames := 0, cells := 0, slots := 0, locals := 0 } : Room) s m #[(.int p0), (.ref a1), (.ref a2)] below meth c s₁ [] 0 0 := Stand.of_body Bd
  have e0 : s₁.heap = h0 := by rw [← hh, Bd.state]; rfl
  have N0 := Fr.nil n0
  have pre0 : ∀ t, Steps p.tables e below (s₁.setTop (mkF m 0 #[.val (.int p0), .val (.ref a1), .val (.ref a2)] [])) t → Steps p.tables e below (s₁.setTop (entryFrame m #[(.int p0), (.ref a1), (.ref a2)] 3)) t := fun t k => castTop (ef_rm_pick m p0 a1 a2) k
  change OwnFin p.tables e below _ (s₁.setTop (entryFrame m #[(.int p0), (.ref a1), (.ref a2)] 3))
  have kp0 : Keep h0 h0 [] := Keep.refl _ _
  refine OwnFin.st (fun _ q => pre0 _ q) ?_
  show OwnFin _ _ _ _ (s₁.setTop (mkF m 0 #[.val (.int p0), .val (.ref a1), .val (.ref a2)] []))
  refine OwnFin.st (fun _ q => XS.iloadN X0.here hx rfl (hb hby d8_0) rfl q) ?_
  show OwnFin _ _ _ _ (s₁.setTop (mkF m 1 #[.val (.int p0), .val (.ref a1), .val (.ref a2)] [(.int p0)]))
  by_cases hc1 : p0 = (0 : Int32)
  · skip
    refine OwnFin.st (fun _ q => XS.ifNo X0.here hx rfl (hb hby d8_1) rfl (Jvm.Free.XT.i0_ne_f hc1) q) ?_
    show OwnFin _ _ _ _ (s₁.setTop (mkF m 4 #[.val (.int p0), .val (.ref a1), .val (.ref a2)] []))
    refine OwnFin.st (fun _ q => XS.aloadN X0.here hx rfl (hb hby d8_4) rfl rfl q) ?_
    show OwnFin _ _ _ _ (s₁.setTop (mkF m 5 #[.val (.int p0), .val (.ref a1), .val (.ref a2)] [(.ref a1)]))
    obtain ⟨fs, hr, hrun, hended, hW, hsame⟩ := X0.leave (v := some (.ref a1)) (fun h => by rw [Bd.returns] at h; cases h)
    refine ⟨_, _, retOut X0 hx Bd.returns rfl (Or.inr (Or.inr (Or.inr (Or.inr ⟨rfl, rfl, rfl⟩)))) (hb hby d8_5) hr, hrun, hended, _, _, rfl, ?_, ⟨_, rfl⟩, hW, hsame.mono (by decide) (by decide)⟩
    show Q_rm_pick Z p0 a1 a2 h0 n0 _ s₁.heap _
    rw [e0]
    refine ⟨?_, N0, rfl⟩
    simp [own_pick, hc1]
  · skip
    refine OwnFin.st (fun _ q => XS.ifYes X0.here hx rfl (pc0 := 1) (pc' := 6) rfl (hb hby d8_1) rfl (Jvm.Free.XT.i0_ne_t hc1) (by decide) (by decide) q) ?_
    show OwnFin _ _ _ _ (s₁.setTop (mkF m 6 #[.val (.int p0), .val (.ref a1), .val (.ref a2)] []))
    refine OwnFin.st (fun _ q => XS.iloadN X0.here hx rfl (hb hby d8_6) rfl q) ?_
    show OwnFin _ _ _ _ (s₁.setTop (mkF m 7 #[.val (.int p0), .val (.ref a1), .val (.ref a2)] [(.int p0)]))
    refine OwnFin.st (fun _ q => XS.iconst X0.here hx rfl (hb hby d8_7) q) ?_
    show OwnFin _ _ _ _ (s₁.setTop (mkF m 8 #[.val (.int p0), .val (.ref a1), .val (.ref a2)] [(.int (1 : Int32)), (.int p0)]))
    by_cases hc2 : p0 = (1 : Int32)
    · skip
      refine OwnFin.st (fun _ q => XS.icmpNo X0.here hx rfl (hb hby d8_8) rfl (Jvm.Free.XT.ii_ne_f hc2) q) ?_
      show OwnFin _ _ _ _ (s₁.setTop (mkF m 11 #[.val (.int p0), .val (.ref a1), .val (.ref a2)] []))
      refine OwnFin.st (fun _ q => XS.aloadN X0.here hx rfl (hb hby d8_11) rfl rfl q) ?_
      show OwnFin _ _ _ _ (s₁.setTop (mkF m 12 #[.val (.int p0), .val (.ref a1), .val (.ref a2)] [(.ref a2)]))
      obtain ⟨fs, hr, hrun, hended, hW, hsame⟩ := X0.leave (v := some (.ref a2)) (fun h => by rw [Bd.returns] at h; cases h)
      refine ⟨_, _, retOut X0 hx Bd.returns rfl (Or.inr (Or.inr (Or.inr (Or.inr ⟨rfl, rfl, rfl⟩)))) (hb hby d8_12) hr, hrun, hended, _, _, rfl, ?_, ⟨_, rfl⟩, hW, hsame.mono (by decide) (by decide)⟩
      show Q_rm_pick Z p0 a1 a2 h0 n0 _ s₁.heap _
      rw [e0]
      refine ⟨?_, N0, rfl⟩
      simp [own_pick, hc1, hc2]
    · skip
      refine OwnFin.st (fun _ q => XS.icmpYes X0.here hx rfl (pc0 := 8) (pc' := 13) rfl (hb hby d8_8) rfl (Jvm.Free.XT.ii_ne_t hc2) (by decide) (by decide) q) ?_
      show OwnFin _ _ _ _ (s₁.setTop (mkF m 13 #[.val (.int p0), .val (.ref a1), .val (.ref a2)] []))
      refine OwnFin.st (fun _ q => XS.aconstNull X0.here hx rfl (hb hby d8_13) q) ?_
      show OwnFin _ _ _ _ (s₁.setTop (mkF m 14 #[.val (.int p0), .val (.ref a1), .val (.ref a2)] [.null]))
      obtain ⟨fs, hr, hrun, hended, hW, hsame⟩ := X0.leave (v := some .null) (fun h => by rw [Bd.returns] at h; cases h)
      refine ⟨_, _, retOut X0 hx Bd.returns rfl (Or.inr (Or.inr (Or.inr (Or.inr ⟨rfl, rfl, rfl⟩)))) (hb hby d8_14) hr, hrun, hended, _, _, rfl, ?_, ⟨_, rfl⟩, hW, hsame.mono (by decide) (by decide)⟩
      show Q_rm_pick Z p0 a1 a2 h0 n0 _ s₁.heap _
      rw [e0]
      refine ⟨?_, N0, rfl⟩
      simp [own_pick, hc1, hc2]
theorem d9_0 : decode prog_24_method_1_code 0 = .ok (.aload_n 0, 1) := by decide +kernel
theorem d9_1 : decode prog_24_method_1_code 1 = .ok (.invokespecial 1, 3) := by decide +kernel
theorem d9_4 : decode prog_24_method_1_code 4 = .ok (.aload_n 0, 1) := by decide +kernel
theorem d9_5 : decode prog_24_method_1_code 5 = .ok (.aload_n 1, 1) := by decide +kernel
theorem d9_6 : decode prog_24_method_1_code 6 = .ok (.putfield 7, 3) := by decide +kernel
theorem d9_9 : decode prog_24_method_1_code 9 = .ok (.aload_n 0, 1) := by decide +kernel
theorem d9_10 : decode prog_24_method_1_code 10 = .ok (.aload_n 2, 1) := by decide +kernel
theorem d9_11 : decode prog_24_method_1_code 11 = .ok (.putfield 13, 3) := by decide +kernel
theorem d9_14 : decode prog_24_method_1_code 14 = .ok (.return_, 1) := by decide +kernel
theorem pn_5 : plainName "com/example/nepean/nepean/session/PendingKey" = true := by first | (simp [plainName, overriddenIn]; done) | decide +kernel
theorem ef_rm_pk (m : MethodId) (a0 : Addr) (u1 : Value) (a2 : Addr) (h_u1 : u1.isRef = true) : entryFrame m #[(.ref a0), u1, (.ref a2)] 3 = mkF m 0 #[.val (.ref a0), .val u1, .val (.ref a2)] [] := by rcases ref_cases h_u1 with rfl | ⟨_, rfl⟩ <;> first | (simp [entryFrame, mkF, argsToLocals, Value.category]; done) | rfl
def Q_rm_pk (Z : State) (a0 : Addr) (u1 : Value) (a2 : Addr) (u_entity_a0 : Value) (u_id_a0 : Value) (h0 : Heap) (n0 : Nat) (v : Option Value) (h : Heap) (L : List Loc) : Prop := v = none ∧ Fr n0 L ∧ Keep h0 h [a0] ∧ Fld Z h a0 "com/example/nepean/nepean/session/PendingKey" "entity" "Ljava/lang/Object;" u1 ∧ Fld Z h a0 "com/example/nepean/nepean/session/PendingKey" "id" "Ljava/lang/Object;" (.ref a2)
set_option maxRecDepth 65536 in
set_option maxHeartbeats 40000000 in
theorem rm_pk (l : Launch) (Z : State) (av0 : Array Value) (hw : ∀ d ∈ tables_1, d.before av0 Z = true) (ws : List Jvm.Cond) (a0 : Addr) (u1 : Value) (a2 : Addr) (u_entity_a0 : Value) (u_id_a0 : Value) (h0 : Heap) (n0 : Nat) (Z0 : n0 ≤ h0.size) (hr_u1 : u1.isRef = true) (X_a0 : Exa Z h0 a0 "com/example/nepean/nepean/session/PendingKey") (F_entity_a0 : Fld Z h0 a0 "com/example/nepean/nepean/session/PendingKey" "entity" "Ljava/lang/Object;" u_entity_a0) (g_a0 : n0 ≤ a0) (F_id_a0 : Fld Z h0 a0 "com/example/nepean/nepean/session/PendingKey" "id" "Ljava/lang/Object;" u_id_a0) :
    MetFree l (⟨"com/example/nepean/nepean/session/PendingKey", "<init>", "(Ljava/lang/Object;Ljava/lang/Object;)V"⟩ : MethodName) (head1 (Jvm.Cond.code (⟨"com/example/nepean/nepean/session/PendingKey", "<init>", "(Ljava/lang/Object;Ljava/lang/Object;)V"⟩ : MethodName) prog_24_method_1_code 3 none :: ws) ({ frames := 1, cells := 0, slots := 0, locals := 12 } : Room)) (fun a U => a = #[(.ref a0), u1, (.ref a2)] ∧ Z.Warmed39 U.vm ∧ U.heap = h0) (fun _ _ _ _ _ => True) (fun _ U o U' => ∃ v L, o = .returned v ∧ Q_rm_pk Z a0 u1 a2 u_entity_a0 u_id_a0 h0 n0 v U'.heap L ∧ FrameEnd U o U' L ({ frames := 1, cells := 0, slots := 0, locals := 12 } : Room).cells ({ frames := 1, cells := 0, slots := 0, locals := 12 } : Room).slots) := by
  refine MetFree.of_bodySF (plainFor_of_name pn_5) hisR ?_
  intro p e s m args below meth c s₁ Bd hml0 hP hK
  obtain ⟨rfl, hZ, hh⟩ := hP
  have hx := Bd.exec
  have hby := Bd.bytes
  have hml : c.maxLocals = 3 := hml0
  have hown : s.vm.findClass "com/example/nepean/nepean/session/PendingKey" = some m.cls := findClass_of_methodNamed Bd.named
  have hnm := (name_of_methodNamed Bd.named Bd.method).1
  have X0 : Stand p l e ({ frames := 1, cells := 0, slots := 0, locals := 12 } : Room) s m #[(.ref a0), u1, (.ref a2)] below meth c s₁ [] 0 0 := Stand.of_body Bd
  have e0 : s₁.heap = h0 := by rw [← hh, Bd.state]; rfl
  have N0 := Fr.nil n0
  have pre0 : ∀ t, Steps p.tables e below (s₁.setTop (mkF m 0 #[.val (.ref a0), .val u1, .val (.ref a2)] [])) t → Steps p.tables e below (s₁.setTop (entryFrame m #[(.ref a0), u1, (.ref a2)] 3)) t := fun t k => castTop (ef_rm_pk m a0 u1 a2 hr_u1) k
  change OwnFin p.tables e below _ (s₁.setTop (entryFrame m #[(.ref a0), u1, (.ref a2)] 3))
  have kp0 : Keep h0 h0 [a0] := Keep.refl _ _
  refine OwnFin.st (fun _ q => pre0 _ q) ?_
  show OwnFin _ _ _ _ (s₁.setTop (mkF m 0 #[.val (.ref a0), .val u1, .val (.ref a2)] []))
  refine OwnFin.st (fun _ q => XS.aloadN X0.here hx rfl (hb hby d9_0) rfl rfl q) ?_
  show OwnFin _ _ _ _ (s₁.setTop (mkF m 1 #[.val (.ref a0), .val u1, .val (.ref a2)] [(.ref a0)]))
  obtain ⟨T1, X1, e1, st1⟩ := initO X0 hx hZ hown (hw _ (List.mem_of_getElem? (i := 44) rfl)) (hw _ (List.mem_of_getElem? (i := 12) rfl)) (hw _ (List.mem_of_getElem? (i := 13) rfl)) e0 (g := (mkF m 1 #[.val (.ref a0), .val u1, .val (.ref a2)] [(.ref a0)])) rfl (by rw [hml]; rfl) rfl (hb hby d9_1) (by decide) (W := 0) (by show 2 * 0 + _ ≤ _; exact Nat.le_of_eq rfl) (by decide)
  refine OwnFin.st st1 ?_
  show OwnFin _ _ _ _ (T1.setTop (mkF m 4 #[.val (.ref a0), .val u1, .val (.ref a2)] []))
  refine OwnFin.st (fun _ q => XS.aloadN X1.here hx rfl (hb hby d9_4) rfl rfl q) ?_
  show OwnFin _ _ _ _ (T1.setTop (mkF m 5 #[.val (.ref a0), .val u1, .val (.ref a2)] [(.ref a0)]))
  refine OwnFin.st (fun _ q => XS.aloadN X1.here hx rfl (hb hby d9_5) rfl hr_u1 q) ?_
  show OwnFin _ _ _ _ (T1.setTop (mkF m 6 #[.val (.ref a0), .val u1, .val (.ref a2)] [u1, (.ref a0)]))
  obtain ⟨T2, h2, X2, e2, W2, st2⟩ := putF X1 hx hZ hown (host := "") (Or.inl (hw _ (List.mem_of_getElem? (i := 45) rfl))) Via.refl e1 F_entity_a0 X_a0 (Or.inr ⟨(hw _ (List.mem_of_getElem? (i := 46) rfl)), rfl, hnm⟩) (hw _ (List.mem_of_getElem? (i := 35) rfl)) (ty := (.object "java/lang/Object")) (by decide) rfl (own_fits hr_u1) (g := (mkF m 6 #[.val (.ref a0), .val u1, .val (.ref a2)] [u1, (.ref a0)])) rfl rfl (hb hby d9_6)
  refine OwnFin.st st2 ?_
  have Fw2 : Fld Z h2 a0 "com/example/nepean/nepean/session/PendingKey" "entity" "Ljava/lang/Object;" u1 := F_entity_a0.same W2
  have N2 := Fr.snoc X2 N0 g_a0
  have kp3 : Keep h0 h2 [a0] := kp0.wr W2 (Or.inl (List.mem_of_getElem? (i := 0) rfl))
  show OwnFin _ _ _ _ (T2.setTop (mkF m 9 #[.val (.ref a0), .val u1, .val (.ref a2)] []))
  refine OwnFin.st (fun _ q => XS.aloadN X2.here hx rfl (hb hby d9_9) rfl rfl q) ?_
  show OwnFin _ _ _ _ (T2.setTop (mkF m 10 #[.val (.ref a0), .val u1, .val (.ref a2)] [(.ref a0)]))
  refine OwnFin.st (fun _ q => XS.aloadN X2.here hx rfl (hb hby d9_10) rfl rfl q) ?_
  show OwnFin _ _ _ _ (T2.setTop (mkF m 11 #[.val (.ref a0), .val u1, .val (.ref a2)] [(.ref a2), (.ref a0)]))
  obtain ⟨T4, h4, X4, e4, W4, st4⟩ := putF X2 hx hZ hown (host := "") (Or.inl (hw _ (List.mem_of_getElem? (i := 47) rfl))) Via.refl e2 (F_id_a0.other W2 (Or.inr (slot_ne (Or.inr (hw _ (List.mem_of_getElem? (i := 48) rfl))) (Or.inr (hw _ (List.mem_of_getElem? (i := 46) rfl))) (by decide) (t := (.object "java/lang/Object")) (t' := (.object "java/lang/Object")) (by decide) (by decide)))) (X_a0.wr W2) (Or.inr ⟨(hw _ (List.mem_of_getElem? (i := 48) rfl)), rfl, hnm⟩) (hw _ (List.mem_of_getElem? (i := 35) rfl)) (ty := (.object "java/lang/Object")) (by decide) rfl rfl (g := (mkF m 11 #[.val (.ref a0), .val u1, .val (.ref a2)] [(.ref a2), (.ref a0)])) rfl rfl (hb hby d9_11)
  refine OwnFin.st st4 ?_
  have Fw4 : Fld Z h4 a0 "com/example/nepean/nepean/session/PendingKey" "id" "Ljava/lang/Object;" (.ref a2) := (F_id_a0.other W2 (Or.inr (slot_ne (Or.inr (hw _ (List.mem_of_getElem? (i := 48) rfl))) (Or.inr (hw _ (List.mem_of_getElem? (i := 46) rfl))) (by decide) (t := (.object "java/lang/Object")) (t' := (.object "java/lang/Object")) (by decide) (by decide)))).same W4
  have N4 := Fr.snoc X4 N2 g_a0
  have kp5 : Keep h0 h4 [a0] := kp3.wr W4 (Or.inl (List.mem_of_getElem? (i := 0) rfl))
  show OwnFin _ _ _ _ (T4.setTop (mkF m 14 #[.val (.ref a0), .val u1, .val (.ref a2)] []))
  obtain ⟨fs, hr, hrun, hended, hW, hsame⟩ := X4.leave (v := none) (fun _ => rfl)
  refine ⟨_, _, X4.returnOut hx Bd.returns (hb hby d9_14) hr, hrun, hended, _, _, rfl, ?_, ⟨_, rfl⟩, hW, hsame.mono (by decide) (by decide)⟩
  show Q_rm_pk Z a0 u1 a2 u_entity_a0 u_id_a0 h0 n0 _ T4.heap _
  rw [e4]
  exact ⟨rfl, N4, kp5, (Fw2.other W4 (Or.inr (slot_ne (Or.inr (hw _ (List.mem_of_getElem? (i := 46) rfl))) (Or.inr (hw _ (List.mem_of_getElem? (i := 48) rfl))) (by decide) (t := (.object "java/lang/Object")) (t' := (.object "java/lang/Object")) (by decide) (by decide)))), Fw4⟩
theorem ef_rm_pk2 (m : MethodId) (a0 : Addr) (u1 : Value) (h_u1 : u1.isRef = true) : entryFrame m #[(.ref a0), u1, .null] 3 = mkF m 0 #[.val (.ref a0), .val u1, .val .null] [] := by rcases ref_cases h_u1 with rfl | ⟨_, rfl⟩ <;> first | (simp [entryFrame, mkF, argsToLocals, Value.category]; done) | rfl
def Q_rm_pk2 (Z : State) (a0 : Addr) (u1 : Value) (u_entity_a0 : Value) (u_id_a0 : Value) (h0 : Heap) (n0 : Nat) (v : Option Value) (h : Heap) (L : List Loc) : Prop := v = none ∧ Fr n0 L ∧ Keep h0 h [a0] ∧ Fld Z h a0 "com/example/nepean/nepean/session/PendingKey" "entity" "Ljava/lang/Object;" u1 ∧ Fld Z h a0 "com/example/nepean/nepean/session/PendingKey" "id" "Ljava/lang/Object;" .null
set_option maxRecDepth 65536 in
set_option maxHeartbeats 40000000 in
theorem rm_pk2 (l : Launch) (Z : State) (av0 : Array Value) (hw : ∀ d ∈ tables_1, d.before av0 Z = true) (ws : List Jvm.Cond) (a0 : Addr) (u1 : Value) (u_entity_a0 : Value) (u_id_a0 : Value) (h0 : Heap) (n0 : Nat) (Z0 : n0 ≤ h0.size) (hr_u1 : u1.isRef = true) (X_a0 : Exa Z h0 a0 "com/example/nepean/nepean/session/PendingKey") (F_entity_a0 : Fld Z h0 a0 "com/example/nepean/nepean/session/PendingKey" "entity" "Ljava/lang/Object;" u_entity_a0) (g_a0 : n0 ≤ a0) (F_id_a0 : Fld Z h0 a0 "com/example/nepean/nepean/session/PendingKey" "id" "Ljava/lang/Object;" u_id_a0) :
    MetFree l (⟨"com/example/nepean/nepean/session/PendingKey", "<init>", "(Ljava/lang/Object;Ljava/lang/Object;)V"⟩ : MethodName) (head1 (Jvm.Cond.code (⟨"com/example/nepean/nepean/session/PendingKey", "<init>", "(Ljava/lang/Object;Ljava/lang/Object;)V"⟩ : MethodName) prog_24_method_1_code 3 none :: ws) ({ frames := 1, cells := 0, slots := 0, locals := 12 } : Room)) (fun a U => a = #[(.ref a0), u1, .null] ∧ Z.Warmed39 U.vm ∧ U.heap = h0) (fun _ _ _ _ _ => True) (fun _ U o U' => ∃ v L, o = .returned v ∧ Q_rm_pk2 Z a0 u1 u_entity_a0 u_id_a0 h0 n0 v U'.heap L ∧ FrameEnd U o U' L ({ frames := 1, cells := 0, slots := 0, locals := 12 } : Room).cells ({ frames := 1, cells := 0, slots := 0, locals := 12 } : Room).slots) := by
  refine MetFree.of_bodySF (plainFor_of_name pn_5) hisR ?_
  intro p e s m args below meth c s₁ Bd hml0 hP hK
  obtain ⟨rfl, hZ, hh⟩ := hP
  have hx := Bd.exec
  have hby := Bd.bytes
  have hml : c.maxLocals = 3 := hml0
  have hown : s.vm.findClass "com/example/nepean/nepean/session/PendingKey" = some m.cls := findClass_of_methodNamed Bd.named
  have hnm := (name_of_methodNamed Bd.named Bd.method).1
  have X0 : Stand p l e ({ frames := 1, cells := 0, slots := 0, locals := 12 } : Room) s m #[(.ref a0), u1, .null] below meth c s₁ [] 0 0 := Stand.of_body Bd
  have e0 : s₁.heap = h0 := by rw [← hh, Bd.state]; rfl
  have N0 := Fr.nil n0
  have pre0 : ∀ t, Steps p.tables e below (s₁.setTop (mkF m 0 #[.val (.ref a0), .val u1, .val .null] [])) t → Steps p.tables e below (s₁.setTop (entryFrame m #[(.ref a0), u1, .null] 3)) t := fun t k => castTop (ef_rm_pk2 m a0 u1 hr_u1) k
  change OwnFin p.tables e below _ (s₁.setTop (entryFrame m #[(.ref a0), u1, .null] 3))
  have kp0 : Keep h0 h0 [a0] := Keep.refl _ _
  refine OwnFin.st (fun _ q => pre0 _ q) ?_
  show OwnFin _ _ _ _ (s₁.setTop (mkF m 0 #[.val (.ref a0), .val u1, .val .null] []))
  refine OwnFin.st (fun _ q => XS.aloadN X0.here hx rfl (hb hby d9_0) rfl rfl q) ?_
  show OwnFin _ _ _ _ (s₁.setTop (mkF m 1 #[.val (.ref a0), .val u1, .val .null] [(.ref a0)]))
  obtain ⟨T1, X1, e1, st1⟩ := initO X0 hx hZ hown (hw _ (List.mem_of_getElem? (i := 44) rfl)) (hw _ (List.mem_of_getElem? (i := 12) rfl)) (hw _ (List.mem_of_getElem? (i := 13) rfl)) e0 (g := (mkF m 1 #[.val (.ref a0), .val u1, .val .null] [(.ref a0)])) rfl (by rw [hml]; rfl) rfl (hb hby d9_1) (by decide) (W := 0) (by show 2 * 0 + _ ≤ _; exact Nat.le_of_eq rfl) (by decide)
  refine OwnFin.st st1 ?_
  show OwnFin _ _ _ _ (T1.setTop (mkF m 4 #[.val (.ref a0), .val u1, .val .null] []))
  refine OwnFin.st (fun _ q => XS.aloadN X1.here hx rfl (hb hby d9_4) rfl rfl q) ?_
  show OwnFin _ _ _ _ (T1.setTop (mkF m 5 #[.val (.ref a0), .val u1, .val .null] [(.ref a0)]))
  refine OwnFin.st (fun _ q => XS.aloadN X1.here hx rfl (hb hby d9_5) rfl hr_u1 q) ?_
  show OwnFin _ _ _ _ (T1.setTop (mkF m 6 #[.val (.ref a0), .val u1, .val .null] [u1, (.ref a0)]))
  obtain ⟨T2, h2, X2, e2, W2, st2⟩ := putF X1 hx hZ hown (host := "") (Or.inl (hw _ (List.mem_of_getElem? (i := 45) rfl))) Via.refl e1 F_entity_a0 X_a0 (Or.inr ⟨(hw _ (List.mem_of_getElem? (i := 46) rfl)), rfl, hnm⟩) (hw _ (List.mem_of_getElem? (i := 35) rfl)) (ty := (.object "java/lang/Object")) (by decide) rfl (own_fits hr_u1) (g := (mkF m 6 #[.val (.ref a0), .val u1, .val .null] [u1, (.ref a0)])) rfl rfl (hb hby d9_6)
  refine OwnFin.st st2 ?_
  have Fw2 : Fld Z h2 a0 "com/example/nepean/nepean/session/PendingKey" "entity" "Ljava/lang/Object;" u1 := F_entity_a0.same W2
  have N2 := Fr.snoc X2 N0 g_a0
  have kp3 : Keep h0 h2 [a0] := kp0.wr W2 (Or.inl (List.mem_of_getElem? (i := 0) rfl))
  show OwnFin _ _ _ _ (T2.setTop (mkF m 9 #[.val (.ref a0), .val u1, .val .null] []))
  refine OwnFin.st (fun _ q => XS.aloadN X2.here hx rfl (hb hby d9_9) rfl rfl q) ?_
  show OwnFin _ _ _ _ (T2.setTop (mkF m 10 #[.val (.ref a0), .val u1, .val .null] [(.ref a0)]))
  refine OwnFin.st (fun _ q => XS.aloadN X2.here hx rfl (hb hby d9_10) rfl rfl q) ?_
  show OwnFin _ _ _ _ (T2.setTop (mkF m 11 #[.val (.ref a0), .val u1, .val .null] [.null, (.ref a0)]))
  obtain ⟨T4, h4, X4, e4, W4, st4⟩ := putF X2 hx hZ hown (host := "") (Or.inl (hw _ (List.mem_of_getElem? (i := 47) rfl))) Via.refl e2 (F_id_a0.other W2 (Or.inr (slot_ne (Or.inr (hw _ (List.mem_of_getElem? (i := 48) rfl))) (Or.inr (hw _ (List.mem_of_getElem? (i := 46) rfl))) (by decide) (t := (.object "java/lang/Object")) (t' := (.object "java/lang/Object")) (by decide) (by decide)))) (X_a0.wr W2) (Or.inr ⟨(hw _ (List.mem_of_getElem? (i := 48) rfl)), rfl, hnm⟩) (hw _ (List.mem_of_getElem? (i := 35) rfl)) (ty := (.object "java/lang/Object")) (by decide) rfl rfl (g := (mkF m 11 #[.val (.ref a0), .val u1, .val .null] [.null, (.ref a0)])) rfl rfl (hb hby d9_11)
  refine OwnFin.st st4 ?_
  have Fw4 : Fld Z h4 a0 "com/example/nepean/nepean/session/PendingKey" "id" "Ljava/lang/Object;" .null := (F_id_a0.other W2 (Or.inr (slot_ne (Or.inr (hw _ (List.mem_of_getElem? (i := 48) rfl))) (Or.inr (hw _ (List.mem_of_getElem? (i := 46) rfl))) (by decide) (t := (.object "java/lang/Object")) (t' := (.object "java/lang/Object")) (by decide) (by decide)))).same W4
  have N4 := Fr.snoc X4 N2 g_a0
  have kp5 : Keep h0 h4 [a0] := kp3.wr W4 (Or.inl (List.mem_of_getElem? (i := 0) rfl))
  show OwnFin _ _ _ _ (T4.setTop (mkF m 14 #[.val (.ref a0), .val u1, .val .null] []))
  obtain ⟨fs, hr, hrun, hended, hW, hsame⟩ := X4.leave (v := none) (fun _ => rfl)
  refine ⟨_, _, X4.returnOut hx Bd.returns (hb hby d9_14) hr, hrun, hended, _, _, rfl, ?_, ⟨_, rfl⟩, hW, hsame.mono (by decide) (by decide)⟩
  show Q_rm_pk2 Z a0 u1 u_entity_a0 u_id_a0 h0 n0 _ T4.heap _
  rw [e4]
  exact ⟨rfl, N4, kp5, (Fw2.other W4 (Or.inr (slot_ne (Or.inr (hw _ (List.mem_of_getElem? (i := 46) rfl))) (Or.inr (hw _ (List.mem_of_getElem? (i := 48) rfl))) (by decide) (t := (.object "java/lang/Object")) (t' := (.object "java/lang/Object")) (by decide) (by decide)))), Fw4⟩
theorem d10_0 : decode prog_24_method_2_code 0 = .ok (.aload_n 1, 1) := by decide +kernel
theorem d10_1 : decode prog_24_method_2_code 1 = .ok (.instanceof 8, 3) := by decide +kernel
theorem d10_4 : decode prog_24_method_2_code 4 = .ok (.ifCond .eq 21, 3) := by decide +kernel
theorem d10_25 : decode prog_24_method_2_code 25 = .ok (.iconst 0, 1) := by decide +kernel
theorem d10_26 : decode prog_24_method_2_code 26 = .ok (.ireturn, 1) := by decide +kernel
theorem ef_rm_eqN (m : MethodId) (a0 : Addr) : entryFrame m #[(.ref a0), .null] 2 = mkF m 0 #[.val (.ref a0), .val .null] [] := by first | (simp [entryFrame, mkF, argsToLocals, Value.category]; done) | rfl
def Q_rm_eqN (Z : State) (a0 : Addr) (h0 : Heap) (n0 : Nat) (v : Option Value) (h : Heap) (L : List Loc) : Prop := v = some (.int (0 : Int32)) ∧ Fr n0 L ∧ h = h0
set_option maxRecDepth 65536 in
set_option maxHeartbeats 40000000 in
theorem rm_eqN (l : Launch) (Z : State) (av0 : Array Value) (hw : ∀ d ∈ tables_1, d.before av0 Z = true) (ws : List Jvm.Cond) (a0 : Addr) (h0 : Heap) (n0 : Nat) (Z0 : n0 ≤ h0.size) :
    MetFree l (⟨"com/example/nepean/nepean/session/PendingKey", "equals", "(Ljava/lang/Object;)Z"⟩ : MethodName) (head1 (Jvm.Cond.code (⟨"com/example/nepean/nepean/session/PendingKey", "equals", "(Ljava/lang/Object;)Z"⟩ : MethodName) prog_24_method_2_code 2 (some .boolean) :: ws) ({ frames := 0, cells := 0, slots := 0, locals := 0 } : Room)) (fun a U => a = #[(.ref a0), .null] ∧ Z.Warmed39 U.vm ∧ U.heap = h0) (fun _ _ _ _ _ => True) (fun _ U o U' => ∃ v L, o = .returned v ∧ Q_rm_eqN Z a0 h0 n0 v U'.heap L ∧ FrameEnd U o U' L ({ frames := 0, cells := 0, slots := 0, locals := 0 } : Room).cells ({ frames := 0, cells := 0, slots := 0, locals := 0 } : Room).slots) := by
  refine MetFree.of_bodySF (plainFor_of_name pn_5) hisR ?_
  intro p e s m args below meth c s₁ Bd hml0 hP hK
  obtain ⟨rfl, hZ, hh⟩ := hP
  have hx := Bd.exec
  have hby := Bd.bytes
  have hml : c.maxLocals = 2 := hml0
  have hown : s.vm.findClass "com/example/nepean/nepean/session/PendingKey" = some m.cls := findClass_of_methodNamed Bd.named
  have hnm := (name_of_methodNamed Bd.named Bd.method).1
  have X0 : Stand p l e ({ frames := 0, cells := 0, slots := 0, locals := 0 } : Room) s m #[(.ref a0), .null] below meth c s₁ [] 0 0 := Stand.of_body Bd
  have e0 : s₁.heap = h0 := by rw [← hh, Bd.state]; rfl
  have N0 := Fr.nil n0
  have pre0 : ∀ t, Steps p.tables e below (s₁.setTop (mkF m 0 #[.val (.ref a0), .val .null] [])) t → Steps p.tables e below (s₁.setTop (entryFrame m #[(.ref a0), .null] 2)) t := fun t k => castTop (ef_rm_eqN m a0) k
  change OwnFin p.tables e below _ (s₁.setTop (entryFrame m #[(.ref a0), .null] 2))
  have kp0 : Keep h0 h0 [] := Keep.refl _ _
  refine OwnFin.st (fun _ q => pre0 _ q) ?_
  show OwnFin _ _ _ _ (s₁.setTop (mkF m 0 #[.val (.ref a0), .val .null] []))
  refine OwnFin.st (fun _ q => XS.aloadN X0.here hx rfl (hb hby d10_0) rfl rfl q) ?_
  show OwnFin _ _ _ _ (s₁.setTop (mkF m 1 #[.val (.ref a0), .val .null] [.null]))
  refine OwnFin.st (X0.instanceofNull hx (g := (mkF m 1 #[.val (.ref a0), .val .null] [.null])) rfl rfl (hb hby d10_1)) ?_
  show OwnFin _ _ _ _ (s₁.setTop (mkF m 4 #[.val (.ref a0), .val .null] [(.int (0 : Int32))]))
  refine OwnFin.st (fun _ q => XS.ifYes X0.here hx rfl (pc0 := 4) (pc' := 25) rfl (hb hby d10_4) rfl (Jvm.Free.XT.i0_eq_t (rfl : (0 : Int32) = (0 : Int32))) (by decide) (by decide) q) ?_
  show OwnFin _ _ _ _ (s₁.setTop (mkF m 25 #[.val (.ref a0), .val .null] []))
  refine OwnFin.st (fun _ q => XS.iconst X0.here hx rfl (hb hby d10_25) q) ?_
  show OwnFin _ _ _ _ (s₁.setTop (mkF m 26 #[.val (.ref a0), .val .null] [(.int (0 : Int32))]))
  obtain ⟨fs, hr, hrun, hended, hW, hsame⟩ := X0.leave (v := some (.int (0 : Int32))) (fun h => by rw [Bd.returns] at h; cases h)
  refine ⟨_, _, retN X0 hx (t := .boolean) Bd.returns (by simp) (hb hby d10_26) hr, hrun, hended, _, _, rfl, ?_, ⟨_, rfl⟩, hW, hsame.mono (by decide) (by decide)⟩
  show Q_rm_eqN Z a0 h0 n0 _ s₁.heap _
  rw [e0]
  exact ⟨rfl, N0, rfl⟩
theorem ef_rm_eqS (m : MethodId) (a0 : Addr) (a1 : Addr) : entryFrame m #[(.ref a0), (.ref a1)] 2 = mkF m 0 #[.val (.ref a0), .val (.ref a1)] [] := by first | (simp [entryFrame, mkF, argsToLocals, Value.category]; done) | rfl
def Q_rm_eqS (Z : State) (a0 : Addr) (a1 : Addr) (h0 : Heap) (n0 : Nat) (v : Option Value) (h : Heap) (L : List Loc) : Prop := v = some (.int (0 : Int32)) ∧ Fr n0 L ∧ h = h0
set_option maxRecDepth 65536 in
set_option maxHeartbeats 40000000 in
theorem rm_eqS (l : Launch) (Z : State) (av0 : Array Value) (hw : ∀ d ∈ tables_1, d.before av0 Z = true) (ws : List Jvm.Cond) (a0 : Addr) (a1 : Addr) (h0 : Heap) (n0 : Nat) (Z0 : n0 ≤ h0.size) (X_a1 : Exa Z h0 a1 "java/lang/String") :
    MetFree l (⟨"com/example/nepean/nepean/session/PendingKey", "equals", "(Ljava/lang/Object;)Z"⟩ : MethodName) (head1 (Jvm.Cond.code (⟨"com/example/nepean/nepean/session/PendingKey", "equals", "(Ljava/lang/Object;)Z"⟩ : MethodName) prog_24_method_2_code 2 (some .boolean) :: ws) ({ frames := 0, cells := 0, slots := 0, locals := 0 } : Room)) (fun a U => a = #[(.ref a0), (.ref a1)] ∧ Z.Warmed39 U.vm ∧ U.heap = h0) (fun _ _ _ _ _ => True) (fun _ U o U' => ∃ v L, o = .returned v ∧ Q_rm_eqS Z a0 a1 h0 n0 v U'.heap L ∧ FrameEnd U o U' L ({ frames := 0, cells := 0, slots := 0, locals := 0 } : Room).cells ({ frames := 0, cells := 0, slots := 0, locals := 0 } : Room).slots) := by
  refine MetFree.of_bodySF (plainFor_of_name pn_5) hisR ?_
  intro p e s m args below meth c s₁ Bd hml0 hP hK
  obtain ⟨rfl, hZ, hh⟩ := hP
  have hx := Bd.exec
  have hby := Bd.bytes
  have hml : c.maxLocals = 2 := hml0
  have hown : s.vm.findClass "com/example/nepean/nepean/session/PendingKey" = some m.cls := findClass_of_methodNamed Bd.named
  have hnm := (name_of_methodNamed Bd.named Bd.method).1
  have X0 : Stand p l e ({ frames := 0, cells := 0, slots := 0, locals := 0 } : Room) s m #[(.ref a0), (.ref a1)] below meth c s₁ [] 0 0 := Stand.of_body Bd
  have e0 : s₁.heap = h0 := by rw [← hh, Bd.state]; rfl
  have N0 := Fr.nil n0
  have pre0 : ∀ t, Steps p.tables e below (s₁.setTop (mkF m 0 #[.val (.ref a0), .val (.ref a1)] [])) t → Steps p.tables e below (s₁.setTop (entryFrame m #[(.ref a0), (.ref a1)] 2)) t := fun t k => castTop (ef_rm_eqS m a0 a1) k
  change OwnFin p.tables e below _ (s₁.setTop (entryFrame m #[(.ref a0), (.ref a1)] 2))
  have kp0 : Keep h0 h0 [] := Keep.refl _ _
  refine OwnFin.st (fun _ q => pre0 _ q) ?_
  show OwnFin _ _ _ _ (s₁.setTop (mkF m 0 #[.val (.ref a0), .val (.ref a1)] []))
  refine OwnFin.st (fun _ q => XS.aloadN X0.here hx rfl (hb hby d10_0) rfl rfl q) ?_
  show OwnFin _ _ _ _ (s₁.setTop (mkF m 1 #[.val (.ref a0), .val (.ref a1)] [(.ref a1)]))
  obtain ⟨T1, X1, e1, st1⟩ := instNo X0 hx hZ hown (hw _ (List.mem_of_getElem? (i := 54) rfl)) e0 X_a1 (own_notinst (hw _ (List.mem_of_getElem? (i := 55) rfl)) (hw _ (List.mem_of_getElem? (i := 56) rfl)) (hw _ (List.mem_of_getElem? (i := 35) rfl)) (by decide) (by decide)) (g := (mkF m 1 #[.val (.ref a0), .val (.ref a1)] [(.ref a1)])) rfl rfl (hb hby d10_1)
  refine OwnFin.st st1 ?_
  show OwnFin _ _ _ _ (T1.setTop (mkF m 4 #[.val (.ref a0), .val (.ref a1)] [(.int (0 : Int32))]))
  refine OwnFin.st (fun _ q => XS.ifYes X1.here hx rfl (pc0 := 4) (pc' := 25) rfl (hb hby d10_4) rfl (Jvm.Free.XT.i0_eq_t (rfl : (0 : Int32) = (0 : Int32))) (by decide) (by decide) q) ?_
  show OwnFin _ _ _ _ (T1.setTop (mkF m 25 #[.val (.ref a0), .val (.ref a1)] []))
  refine OwnFin.st (fun _ q => XS.iconst X1.here hx rfl (hb hby d10_25) q) ?_
  show OwnFin _ _ _ _ (T1.setTop (mkF m 26 #[.val (.ref a0), .val (.ref a1)] [(.int (0 : Int32))]))
  obtain ⟨fs, hr, hrun, hended, hW, hsame⟩ := X1.leave (v := some (.int (0 : Int32))) (fun h => by rw [Bd.returns] at h; cases h)
  refine ⟨_, _, retN X1 hx (t := .boolean) Bd.returns (by simp) (hb hby d10_26) hr, hrun, hended, _, _, rfl, ?_, ⟨_, rfl⟩, hW, hsame.mono (by decide) (by decide)⟩
  show Q_rm_eqS Z a0 a1 h0 n0 _ T1.heap _
  rw [e1]
  exact ⟨rfl, N0, rfl⟩
theorem d10_7 : decode prog_24_method_2_code 7 = .ok (.aload_n 1, 1) := by decide +kernel
theorem d10_8 : decode prog_24_method_2_code 8 = .ok (.checkcast 8, 3) := by decide +kernel
theorem d10_11 : decode prog_24_method_2_code 11 = .ok (.getfield 7, 3) := by decide +kernel
theorem d10_14 : decode prog_24_method_2_code 14 = .ok (.aload_n 0, 1) := by decide +kernel
theorem d10_15 : decode prog_24_method_2_code 15 = .ok (.getfield 7, 3) := by decide +kernel
theorem d10_18 : decode prog_24_method_2_code 18 = .ok (.if_acmp .ne 7, 3) := by decide +kernel
theorem d10_21 : decode prog_24_method_2_code 21 = .ok (.iconst 1, 1) := by decide +kernel
theorem d10_22 : decode prog_24_method_2_code 22 = .ok (.goto 4, 3) := by decide +kernel
theorem ef_rm_eqPT (m : MethodId) (a0 : Addr) (a1 : Addr) : entryFrame m #[(.ref a0), (.ref a1)] 2 = mkF m 0 #[.val (.ref a0), .val (.ref a1)] [] := by first | (simp [entryFrame, mkF, argsToLocals, Value.category]; done) | rfl
def Q_rm_eqPT (Z : State) (a0 : Addr) (a1 : Addr) (u1 : Value) (u0 : Value) (h0 : Heap) (n0 : Nat) (v : Option Value) (h : Heap) (L : List Loc) : Prop := v = some (.int (1 : Int32)) ∧ Fr n0 L ∧ h = h0
set_option maxRecDepth 65536 in
set_option maxHeartbeats 40000000 in
theorem rm_eqPT (l : Launch) (Z : State) (av0 : Array Value) (hw : ∀ d ∈ tables_1, d.before av0 Z = true) (ws : List Jvm.Cond) (a0 : Addr) (a1 : Addr) (u1 : Value) (u0 : Value) (h0 : Heap) (n0 : Nat) (Z0 : n0 ≤ h0.size) (X_a1 : Exa Z h0 a1 "com/example/nepean/nepean/session/PendingKey") (F_entity_a1 : Fld Z h0 a1 "com/example/nepean/nepean/session/PendingKey" "entity" "Ljava/lang/Object;" u1) (F_entity_a0 : Fld Z h0 a0 "com/example/nepean/nepean/session/PendingKey" "entity" "Ljava/lang/Object;" u0) (hc0 : u1 = u0) (hr_u1 : u1.isRef = true) (hr_u0 : u0.isRef = true) :
    MetFree l (⟨"com/example/nepean/nepean/session/PendingKey", "equals", "(Ljava/lang/Object;)Z"⟩ : MethodName) (head1 (Jvm.Cond.code (⟨"com/example/nepean/nepean/session/PendingKey", "equals", "(Ljava/lang/Object;)Z"⟩ : MethodName) prog_24_method_2_code 2 (some .boolean) :: ws) ({ frames := 0, cells := 0, slots := 0, locals := 0 } : Room)) (fun a U => a = #[(.ref a0), (.ref a1)] ∧ Z.Warmed39 U.vm ∧ U.heap = h0) (fun _ _ _ _ _ => True) (fun _ U o U' => ∃ v L, o = .returned v ∧ Q_rm_eqPT Z a0 a1 u1 u0 h0 n0 v U'.heap L ∧ FrameEnd U o U' L ({ frames := 0, cells := 0, slots := 0, locals := 0 } : Room).cells ({ frames := 0, cells := 0, slots := 0, locals := 0 } : Room).slots) := by
  refine MetFree.of_bodySF (plainFor_of_name pn_5) hisR ?_
  intro p e s m args below meth c s₁ Bd hml0 hP hK
  obtain ⟨rfl, hZ, hh⟩ := hP
  have hx := Bd.exec
  have hby := Bd.bytes
  have hml : c.maxLocals = 2 := hml0
  have hown : s.vm.findClass "com/example/nepean/nepean/session/PendingKey" = some m.cls := findClass_of_methodNamed Bd.named
  have hnm := (name_of_methodNamed Bd.named Bd.method).1
  have X0 : Stand p l e ({ frames := 0, cells := 0, slots := 0, locals := 0 } : Room) s m #[(.ref a0), (.ref a1)] below meth c s₁ [] 0 0 := Stand.of_body Bd
  have e0 : s₁.heap = h0 := by rw [← hh, Bd.state]; rfl
  have N0 := Fr.nil n0
  have pre0 : ∀ t, Steps p.tables e below (s₁.setTop (mkF m 0 #[.val (.ref a0), .val (.ref a1)] [])) t → Steps p.tables e below (s₁.setTop (entryFrame m #[(.ref a0), (.ref a1)] 2)) t := fun t k => castTop (ef_rm_eqPT m a0 a1) k
  change OwnFin p.tables e below _ (s₁.setTop (entryFrame m #[(.ref a0), (.ref a1)] 2))
  have kp0 : Keep h0 h0 [] := Keep.refl _ _
  refine OwnFin.st (fun _ q => pre0 _ q) ?_
  show OwnFin _ _ _ _ (s₁.setTop (mkF m 0 #[.val (.ref a0), .val (.ref a1)] []))
  refine OwnFin.st (fun _ q => XS.aloadN X0.here hx rfl (hb hby d10_0) rfl rfl q) ?_
  show OwnFin _ _ _ _ (s₁.setTop (mkF m 1 #[.val (.ref a0), .val (.ref a1)] [(.ref a1)]))
  obtain ⟨T1, X1, e1, st1⟩ := instY X0 hx hZ hown (hw _ (List.mem_of_getElem? (i := 54) rfl)) e0 (Ins.self X_a1) (g := (mkF m 1 #[.val (.ref a0), .val (.ref a1)] [(.ref a1)])) rfl rfl (hb hby d10_1)
  refine OwnFin.st st1 ?_
  show OwnFin _ _ _ _ (T1.setTop (mkF m 4 #[.val (.ref a0), .val (.ref a1)] [(.int (1 : Int32))]))
  refine OwnFin.st (fun _ q => XS.ifNo X1.here hx rfl (hb hby d10_4) rfl (Jvm.Free.XT.i0_eq_f (by decide : ¬ ((1 : Int32) = (0 : Int32)))) q) ?_
  show OwnFin _ _ _ _ (T1.setTop (mkF m 7 #[.val (.ref a0), .val (.ref a1)] []))
  refine OwnFin.st (fun _ q => XS.aloadN X1.here hx rfl (hb hby d10_7) rfl rfl q) ?_
  show OwnFin _ _ _ _ (T1.setTop (mkF m 8 #[.val (.ref a0), .val (.ref a1)] [(.ref a1)]))
  obtain ⟨T2, X2, e2, st2⟩ := castY X1 hx hZ hown (hw _ (List.mem_of_getElem? (i := 54) rfl)) e1 (Ins.self X_a1) (g := (mkF m 8 #[.val (.ref a0), .val (.ref a1)] [(.ref a1)])) rfl rfl (hb hby d10_8)
  refine OwnFin.st st2 ?_
  show OwnFin _ _ _ _ (T2.setTop (mkF m 11 #[.val (.ref a0), .val (.ref a1)] [(.ref a1)]))
  obtain ⟨T3, X3, e3, st3⟩ := getF X2 hx hZ hown (host := "") (Or.inl (hw _ (List.mem_of_getElem? (i := 45) rfl))) Via.refl e2 F_entity_a1 (g := (mkF m 11 #[.val (.ref a0), .val (.ref a1)] [(.ref a1)])) rfl rfl (hb hby d10_11)
  refine OwnFin.st st3 ?_
  show OwnFin _ _ _ _ (T3.setTop (mkF m 14 #[.val (.ref a0), .val (.ref a1)] [u1]))
  refine OwnFin.st (fun _ q => XS.aloadN X3.here hx rfl (hb hby d10_14) rfl rfl q) ?_
  show OwnFin _ _ _ _ (T3.setTop (mkF m 15 #[.val (.ref a0), .val (.ref a1)] [(.ref a0), u1]))
  obtain ⟨T4, X4, e4, st4⟩ := getF X3 hx hZ hown (host := "") (Or.inl (hw _ (List.mem_of_getElem? (i := 45) rfl))) Via.refl e3 F_entity_a0 (g := (mkF m 15 #[.val (.ref a0), .val (.ref a1)] [(.ref a0), u1])) rfl rfl (hb hby d10_15)
  refine OwnFin.st st4 ?_
  show OwnFin _ _ _ _ (T4.setTop (mkF m 18 #[.val (.ref a0), .val (.ref a1)] [u0, u1]))
  refine OwnFin.st (fun _ q => Jvm.RoadKit.acmp (g := (mkF m 18 #[.val (.ref a0), .val (.ref a1)] [u0, u1])) X4 hx rfl hr_u1 hr_u0 (pc0 := 18) (pc' := 21) (same := true) rfl (hb hby d10_18) rfl (decide_eq_true hc0) (by decide) (by decide) q) ?_
  show OwnFin _ _ _ _ (T4.setTop (mkF m 21 #[.val (.ref a0), .val (.ref a1)] []))
  refine OwnFin.st (fun _ q => XS.iconst X4.here hx rfl (hb hby d10_21) q) ?_
  show OwnFin _ _ _ _ (T4.setTop (mkF m 22 #[.val (.ref a0), .val (.ref a1)] [(.int (1 : Int32))]))
  refine OwnFin.st (fun _ q => XS.goto X4.here hx rfl (pc0 := 22) (pc' := 26) rfl (hb hby d10_22) (by decide) (by decide) q) ?_
  show OwnFin _ _ _ _ (T4.setTop (mkF m 26 #[.val (.ref a0), .val (.ref a1)] [(.int (1 : Int32))]))
  obtain ⟨fs, hr, hrun, hended, hW, hsame⟩ := X4.leave (v := some (.int (1 : Int32))) (fun h => by rw [Bd.returns] at h; cases h)
  refine ⟨_, _, retN X4 hx (t := .boolean) Bd.returns (by simp) (hb hby d10_26) hr, hrun, hended, _, _, rfl, ?_, ⟨_, rfl⟩, hW, hsame.mono (by decide) (by decide)⟩
  show Q_rm_eqPT Z a0 a1 u1 u0 h0 n0 _ T4.heap _
  rw [e4]
  exact ⟨rfl, N0, rfl⟩
theorem ef_rm_eqPF (m : MethodId) (a0 : Addr) (a1 : Addr) : entryFrame m #[(.ref a0), (.ref a1)] 2 = mkF m 0 #[.val (.ref a0), .val (.ref a1)] [] := by first | (simp [entryFrame, mkF, argsToLocals, Value.category]; done) | rfl
def Q_rm_eqPF (Z : State) (a0 : Addr) (a1 : Addr) (u1 : Value) (u0 : Value) (h0 : Heap) (n0 : Nat) (v : Option Value) (h : Heap) (L : List Loc) : Prop := v = some (.int (0 : Int32)) ∧ Fr n0 L ∧ h = h0
set_option maxRecDepth 65536 in
set_option maxHeartbeats 40000000 in
theorem rm_eqPF (l : Launch) (Z : State) (av0 : Array Value) (hw : ∀ d ∈ tables_1, d.before av0 Z = true) (ws : List Jvm.Cond) (a0 : Addr) (a1 : Addr) (u1 : Value) (u0 : Value) (h0 : Heap) (n0 : Nat) (Z0 : n0 ≤ h0.size) (X_a1 : Exa Z h0 a1 "com/example/nepean/nepean/session/PendingKey") (F_entity_a1 : Fld Z h0 a1 "com/example/nepean/nepean/session/PendingKey" "entity" "Ljava/lang/Object;" u1) (F_entity_a0 : Fld Z h0 a0 "com/example/nepean/nepean/session/PendingKey" "entity" "Ljava/lang/Object;" u0) (hc0 : ¬ (u1 = u0)) (hr_u1 : u1.isRef = true) (hr_u0 : u0.isRef = true) :
    MetFree l (⟨"com/example/nepean/nepean/session/PendingKey", "equals", "(Ljava/lang/Object;)Z"⟩ : MethodName) (head1 (Jvm.Cond.code (⟨"com/example/nepean/nepean/session/PendingKey", "equals", "(Ljava/lang/Object;)Z"⟩ : MethodName) prog_24_method_2_code 2 (some .boolean) :: ws) ({ frames := 0, cells := 0, slots := 0, locals := 0 } : Room)) (fun a U => a = #[(.ref a0), (.ref a1)] ∧ Z.Warmed39 U.vm ∧ U.heap = h0) (fun _ _ _ _ _ => True) (fun _ U o U' => ∃ v L, o = .returned v ∧ Q_rm_eqPF Z a0 a1 u1 u0 h0 n0 v U'.heap L ∧ FrameEnd U o U' L ({ frames := 0, cells := 0, slots := 0, locals := 0 } : Room).cells ({ frames := 0, cells := 0, slots := 0, locals := 0 } : Room).slots) := by
  refine MetFree.of_bodySF (plainFor_of_name pn_5) hisR ?_
  intro p e s m args below meth c s₁ Bd hml0 hP hK
  obtain ⟨rfl, hZ, hh⟩ := hP
  have hx := Bd.exec
  have hby := Bd.bytes
  have hml : c.maxLocals = 2 := hml0
  have hown : s.vm.findClass "com/example/nepean/nepean/session/PendingKey" = some m.cls := findClass_of_methodNamed Bd.named
  have hnm := (name_of_methodNamed Bd.named Bd.method).1
  have X0 : Stand p l e ({ frames := 0, cells := 0, slots := 0, locals := 0 } : Room) s m #[(.ref a0), (.ref a1)] below meth c s₁ [] 0 0 := Stand.of_body Bd
  have e0 : s₁.heap = h0 := by rw [← hh, Bd.state]; rfl
  have N0 := Fr.nil n0
  have pre0 : ∀ t, Steps p.tables e below (s₁.setTop (mkF m 0 #[.val (.ref a0), .val (.ref a1)] [])) t → Steps p.tables e below (s₁.setTop (entryFrame m #[(.ref a0), (.ref a1)] 2)) t := fun t k => castTop (ef_rm_eqPF m a0 a1) k
  change OwnFin p.tables e below _ (s₁.setTop (entryFrame m #[(.ref a0), (.ref a1)] 2))
  have kp0 : Keep h0 h0 [] := Keep.refl _ _
  refine OwnFin.st (fun _ q => pre0 _ q) ?_
  show OwnFin _ _ _ _ (s₁.setTop (mkF m 0 #[.val (.ref a0), .val (.ref a1)] []))
  refine OwnFin.st (fun _ q => XS.aloadN X0.here hx rfl (hb hby d10_0) rfl rfl q) ?_
  show OwnFin _ _ _ _ (s₁.setTop (mkF m 1 #[.val (.ref a0), .val (.ref a1)] [(.ref a1)]))
  obtain ⟨T1, X1, e1, st1⟩ := instY X0 hx hZ hown (hw _ (List.mem_of_getElem? (i := 54) rfl)) e0 (Ins.self X_a1) (g := (mkF m 1 #[.val (.ref a0), .val (.ref a1)] [(.ref a1)])) rfl rfl (hb hby d10_1)
  refine OwnFin.st st1 ?_
  show OwnFin _ _ _ _ (T1.setTop (mkF m 4 #[.val (.ref a0), .val (.ref a1)] [(.int (1 : Int32))]))
  refine OwnFin.st (fun _ q => XS.ifNo X1.here hx rfl (hb hby d10_4) rfl (Jvm.Free.XT.i0_eq_f (by decide : ¬ ((1 : Int32) = (0 : Int32)))) q) ?_
  show OwnFin _ _ _ _ (T1.setTop (mkF m 7 #[.val (.ref a0), .val (.ref a1)] []))
  refine OwnFin.st (fun _ q => XS.aloadN X1.here hx rfl (hb hby d10_7) rfl rfl q) ?_
  show OwnFin _ _ _ _ (T1.setTop (mkF m 8 #[.val (.ref a0), .val (.ref a1)] [(.ref a1)]))
  obtain ⟨T2, X2, e2, st2⟩ := castY X1 hx hZ hown (hw _ (List.mem_of_getElem? (i := 54) rfl)) e1 (Ins.self X_a1) (g := (mkF m 8 #[.val (.ref a0), .val (.ref a1)] [(.ref a1)])) rfl rfl (hb hby d10_8)
  refine OwnFin.st st2 ?_
  show OwnFin _ _ _ _ (T2.setTop (mkF m 11 #[.val (.ref a0), .val (.ref a1)] [(.ref a1)]))
  obtain ⟨T3, X3, e3, st3⟩ := getF X2 hx hZ hown (host := "") (Or.inl (hw _ (List.mem_of_getElem? (i := 45) rfl))) Via.refl e2 F_entity_a1 (g := (mkF m 11 #[.val (.ref a0), .val (.ref a1)] [(.ref a1)])) rfl rfl (hb hby d10_11)
  refine OwnFin.st st3 ?_
  show OwnFin _ _ _ _ (T3.setTop (mkF m 14 #[.val (.ref a0), .val (.ref a1)] [u1]))
  refine OwnFin.st (fun _ q => XS.aloadN X3.here hx rfl (hb hby d10_14) rfl rfl q) ?_
  show OwnFin _ _ _ _ (T3.setTop (mkF m 15 #[.val (.ref a0), .val (.ref a1)] [(.ref a0), u1]))
  obtain ⟨T4, X4, e4, st4⟩ := getF X3 hx hZ hown (host := "") (Or.inl (hw _ (List.mem_of_getElem? (i := 45) rfl))) Via.refl e3 F_entity_a0 (g := (mkF m 15 #[.val (.ref a0), .val (.ref a1)] [(.ref a0), u1])) rfl rfl (hb hby d10_15)
  refine OwnFin.st st4 ?_
  show OwnFin _ _ _ _ (T4.setTop (mkF m 18 #[.val (.ref a0), .val (.ref a1)] [u0, u1]))
  refine OwnFin.st (fun _ q => Jvm.RoadKit.acmp (g := (mkF m 18 #[.val (.ref a0), .val (.ref a1)] [u0, u1])) X4 hx rfl hr_u1 hr_u0 (pc0 := 18) (pc' := 25) (same := false) rfl (hb hby d10_18) rfl (decide_eq_false hc0) (by decide) (by decide) q) ?_
  show OwnFin _ _ _ _ (T4.setTop (mkF m 25 #[.val (.ref a0), .val (.ref a1)] []))
  refine OwnFin.st (fun _ q => XS.iconst X4.here hx rfl (hb hby d10_25) q) ?_
  show OwnFin _ _ _ _ (T4.setTop (mkF m 26 #[.val (.ref a0), .val (.ref a1)] [(.int (0 : Int32))]))
  obtain ⟨fs, hr, hrun, hended, hW, hsame⟩ := X4.leave (v := some (.int (0 : Int32))) (fun h => by rw [Bd.returns] at h; cases h)
  refine ⟨_, _, retN X4 hx (t := .boolean) Bd.returns (by simp) (hb hby d10_26) hr, hrun, hended, _, _, rfl, ?_, ⟨_, rfl⟩, hW, hsame.mono (by decide) (by decide)⟩
  show Q_rm_eqPF Z a0 a1 u1 u0 h0 n0 _ T4.heap _
  rw [e4]
  exact ⟨rfl, N0, rfl⟩
theorem pd_6 : parseMethodDescriptor "([C)V" = some ⟨[(.array .char)], none⟩ := by decide +kernel
theorem pd_7 : parseMethodDescriptor "(II)I" = some ⟨[.int, .int], some .int⟩ := by decide +kernel
theorem pd_8 : parseMethodDescriptor "(ILjava/lang/Object;Ljava/lang/Object;)Ljava/lang/Object;" = some ⟨[.int, (.object "java/lang/Object"), (.object "java/lang/Object")], some (.object "java/lang/Object")⟩ := by decide +kernel
theorem pd_9 : parseMethodDescriptor "(Ljava/lang/Object;Ljava/lang/Object;)V" = some ⟨[(.object "java/lang/Object"), (.object "java/lang/Object")], none⟩ := by decide +kernel
theorem pd_10 : parseMethodDescriptor "(Ljava/lang/Object;)Z" = some ⟨[(.object "java/lang/Object")], some .boolean⟩ := by decide +kernel
theorem pd_11 : parseMethodDescriptor "(I)Ljava/lang/Integer;" = some ⟨[.int], some (.object "java/lang/Integer")⟩ := by decide +kernel
theorem own_m3 (p : Int32) : (own_minI (p &&& (3 : Int32)) (2 : Int32)) = 0 ∨ (own_minI (p &&& (3 : Int32)) (2 : Int32)) = 1 ∨ (own_minI (p &&& (3 : Int32)) (2 : Int32)) = 2 := by
  have h := own_minIf (p &&& (3 : Int32)) (2 : Int32)
  have h2 := c_mask p (3 : Int32) 2 (by decide) (by decide)
  rw [← Int32.toInt_inj, ← Int32.toInt_inj, ← Int32.toInt_inj, h, h2, show (2 : Int32).toInt = 2 from rfl, show (0 : Int32).toInt = 0 from rfl, show (1 : Int32).toInt = 1 from rfl]
  omega
theorem own_pickne {s t : Int32} {a b : Addr} (hab : a ≠ b) (hs : s = 0 ∨ s = 1 ∨ s = 2) (ht : t = 0 ∨ t = 1 ∨ t = 2) (h : ¬ s = t) : ¬ own_pick s a b = own_pick t a b := by
  rcases hs with rfl | rfl | rfl <;> rcases ht with rfl | rfl | rfl <;> simp_all [own_pick, Ne.symm]
  all_goals first | exact hab | exact fun z => hab z.symm
theorem ef_rm0 (m : MethodId) (p0 : Int32) (p1 : Int32) (p2 : Int32) : entryFrame m #[(.int p0), (.int p1), (.int p2)] maxLocals = mkF m 0 #[.val (.int p0), .val (.int p1), .val (.int p2), .unset, .unset, .unset, .unset, .unset, .unset, .unset, .unset, .unset, .unset, .unset, .unset] [] := by first | (simp [entryFrame, mkF, argsToLocals, Value.category, maxLocals]; done) | rfl
def Q_rm0 (Z : State) (p0 : Int32) (p1 : Int32) (p2 : Int32) (w_COMPACT_STRINGS : Int32) (clI : Cell) (w_cache : Addr) (h0 : Heap) (n0 : Nat) (v : Option Value) (h : Heap) (L : List Loc) : Prop := v = some (.int 1) ∧ Fr n0 L
set_option maxHeartbeats 4000000 in
theorem om_rm0_0 (p0 : Int32) : ¬ ((255 : Int32) < ((((p0.toUInt32 >>> ((8 : Int32) &&& 31).toUInt32).toInt32) &&& (255 : Int32)).toUInt32.toUInt16.toUInt32.toInt32)) := by
  have om1 := rng32 (255 : Int32)
  have om1l : (255 : Int32).toInt = 255 := by decide +kernel
  have om2 := rng32 ((((p0.toUInt32 >>> ((8 : Int32) &&& 31).toUInt32).toInt32) &&& (255 : Int32)).toUInt32.toUInt16.toUInt32.toInt32)
  have om3 := c_i2c (((p0.toUInt32 >>> ((8 : Int32) &&& 31).toUInt32).toInt32) &&& (255 : Int32))
  have om4 := rng32 (((p0.toUInt32 >>> ((8 : Int32) &&& 31).toUInt32).toInt32) &&& (255 : Int32))
  have om5 := c_mask ((p0.toUInt32 >>> ((8 : Int32) &&& 31).toUInt32).toInt32) (255 : Int32) 8 (by decide +kernel) (by decide +kernel)
  have om6 := rng32 ((p0.toUInt32 >>> ((8 : Int32) &&& 31).toUInt32).toInt32)
  have om7 := c_iushr p0 (8 : Int32) 8 (by decide +kernel) (by decide +kernel)
  have om8 := rng32 p0
  have om9 := rng32 (8 : Int32)
  have om9l : (8 : Int32).toInt = 8 := by decide +kernel
  rw [Int32.lt_iff_toInt_lt]
  generalize ((((p0.toUInt32 >>> ((8 : Int32) &&& 31).toUInt32).toInt32) &&& (255 : Int32)).toUInt32.toUInt16.toUInt32.toInt32).toInt = gx0 at *
  generalize (((p0.toUInt32 >>> ((8 : Int32) &&& 31).toUInt32).toInt32) &&& (255 : Int32)).toInt = gx1 at *
  generalize ((p0.toUInt32 >>> ((8 : Int32) &&& 31).toUInt32).toInt32).toInt = gx2 at *
  generalize (255 : Int32).toInt = gx3 at *
  generalize (8 : Int32).toInt = gx4 at *
  generalize p0.toInt = gx5 at *
  omega
set_option maxRecDepth 65536 in
set_option maxHeartbeats 40000000 in
theorem rm0 (l : Launch) (Z : State) (av0 : Array Value) (hw : ∀ d ∈ tables_1, d.before av0 Z = true) (ws : List Jvm.Cond) (p0 : Int32) (p1 : Int32) (p2 : Int32) (w_COMPACT_STRINGS : Int32) (clI : Cell) (w_cache : Addr) (h0 : Heap) (n0 : Nat) (Z0 : n0 ≤ h0.size) (Ol0 : Old Z n0 h0) (hcs : ¬ (w_COMPACT_STRINGS = (0 : Int32))) (S_COMPACT_STRINGS : Sta Z Z.heap "java/lang/String" "COMPACT_STRINGS" "Z" (.int w_COMPACT_STRINGS)) (BxI : Bxs Z w_cache clI "java/lang/Integer" "I" (256 : Int32) (fun j => .int (j - 128))) (S_high : Sta Z Z.heap "java/lang/Integer$IntegerCache" "high" "I" (.int (127 : Int32))) (S_cache : Sta Z Z.heap "java/lang/Integer$IntegerCache" "cache" "[Ljava/lang/Integer;" (.ref w_cache)) :
    MetFree l x (head1 (Jvm.Cond.code x code maxLocals ret :: ws) room_1) (fun a U => a = #[(.int p0), (.int p1), (.int p2)] ∧ Z.Warmed39 U.vm ∧ U.heap = h0) (fun _ _ _ _ _ => True) (fun _ U o U' => ∃ v L, o = .returned v ∧ Q_rm0 Z p0 p1 p2 w_COMPACT_STRINGS clI w_cache h0 n0 v U'.heap L ∧ FrameEnd U o U' L room_1.cells room_1.slots) := by
  refine MetFree.of_bodySF (plainFor_of_name pn_4) hisR ?_
  intro p e s m args below meth c s₁ Bd hml0 hP hK
  obtain ⟨rfl, hZ, hh⟩ := hP
  have hx := Bd.exec
  have hby := Bd.bytes
  have hml : c.maxLocals = 15 := hml0
  have hown : s.vm.findClass "com/example/nepean/nepean/session/PendingKeyEqualsPinLaw" = some m.cls := findClass_of_methodNamed Bd.named
  have hnm := (name_of_methodNamed Bd.named Bd.method).1
  have X0 : Stand p l e room_1 s m #[(.int p0), (.int p1), (.int p2)] below meth c s₁ [] 0 0 := Stand.of_body Bd
  have e0 : s₁.heap = h0 := by rw [← hh, Bd.state]; rfl
  have N0 := Fr.nil n0
  have pre0 : ∀ t, Steps p.tables e below (s₁.setTop (mkF m 0 #[.val (.int p0), .val (.int p1), .val (.int p2), .unset, .unset, .unset, .unset, .unset, .unset, .unset, .unset, .unset, .unset, .unset, .unset] [])) t → Steps p.tables e below (s₁.setTop (entryFrame m #[(.int p0), (.int p1), (.int p2)] maxLocals)) t := fun t k => castTop (ef_rm0 m p0 p1 p2) k
  change OwnFin p.tables e below _ (s₁.setTop (entryFrame m #[(.int p0), (.int p1), (.int p2)] maxLocals))
  have kp0 : Keep h0 h0 [] := Keep.refl _ _
  refine OwnFin.st (fun _ q => pre0 _ q) ?_
  show OwnFin _ _ _ _ (s₁.setTop (mkF m 0 #[.val (.int p0), .val (.int p1), .val (.int p2), .unset, .unset, .unset, .unset, .unset, .unset, .unset, .unset, .unset, .unset, .unset, .unset] []))
  refine OwnFin.st (fun _ q => XS.iloadN X0.here hx rfl (hb hby at_0) rfl q) ?_
  show OwnFin _ _ _ _ (s₁.setTop (mkF m 1 #[.val (.int p0), .val (.int p1), .val (.int p2), .unset, .unset, .unset, .unset, .unset, .unset, .unset, .unset, .unset, .unset, .unset, .unset] [(.int p0)]))
  refine OwnFin.st (fun _ q => XS.bipush X0.here hx rfl (hb hby at_1) q) ?_
  show OwnFin _ _ _ _ (s₁.setTop (mkF m 3 #[.val (.int p0), .val (.int p1), .val (.int p2), .unset, .unset, .unset, .unset, .unset, .unset, .unset, .unset, .unset, .unset, .unset, .unset] [(.int (8 : Int32)), (.int p0)]))
  refine OwnFin.st (fun _ q => XS.iushr X0.here hx rfl (hb hby at_3) rfl q) ?_
  show OwnFin _ _ _ _ (s₁.setTop (mkF m 4 #[.val (.int p0), .val (.int p1), .val (.int p2), .unset, .unset, .unset, .unset, .unset, .unset, .unset, .unset, .unset, .unset, .unset, .unset] [(.int ((p0.toUInt32 >>> ((8 : Int32) &&& 31).toUInt32).toInt32))]))
  refine OwnFin.st (fun _ q => XS.sipush X0.here hx rfl (hb hby at_4) q) ?_
  show OwnFin _ _ _ _ (s₁.setTop (mkF m 7 #[.val (.int p0), .val (.int p1), .val (.int p2), .unset, .unset, .unset, .unset, .unset, .unset, .unset, .unset, .unset, .unset, .unset, .unset] [(.int (255 : Int32)), (.int ((p0.toUInt32 >>> ((8 : Int32) &&& 31).toUInt32).toInt32))]))
  refine OwnFin.st (fun _ q => XS.iand X0.here hx rfl (hb hby at_7) rfl q) ?_
  show OwnFin _ _ _ _ (s₁.setTop (mkF m 8 #[.val (.int p0), .val (.int p1), .val (.int p2), .unset, .unset, .unset, .unset, .unset, .unset, .unset, .unset, .unset, .unset, .unset, .unset] [(.int (((p0.toUInt32 >>> ((8 : Int32) &&& 31).toUInt32).toInt32) &&& (255 : Int32)))]))
  refine OwnFin.st (fun _ q => XS.i2c X0.here hx rfl (hb hby at_8) rfl q) ?_
  show OwnFin _ _ _ _ (s₁.setTop (mkF m 9 #[.val (.int p0), .val (.int p1), .val (.int p2), .unset, .unset, .unset, .unset, .unset, .unset, .unset, .unset, .unset, .unset, .unset, .unset] [(.int ((((p0.toUInt32 >>> ((8 : Int32) &&& 31).toUInt32).toInt32) &&& (255 : Int32)).toUInt32.toUInt16.toUInt32.toInt32))]))
  refine OwnFin.st (fun _ q => XS.istoreN X0.here hx rfl (hb hby at_9) rfl (l' := #[.val (.int p0), .val (.int p1), .val (.int p2), .val (.int ((((p0.toUInt32 >>> ((8 : Int32) &&& 31).toUInt32).toInt32) &&& (255 : Int32)).toUInt32.toUInt16.toUInt32.toInt32)), .unset, .unset, .unset, .unset, .unset, .unset, .unset, .unset, .unset, .unset, .unset]) rfl q) ?_
  show OwnFin _ _ _ _ (s₁.setTop (mkF m 10 #[.val (.int p0), .val (.int p1), .val (.int p2), .val (.int ((((p0.toUInt32 >>> ((8 : Int32) &&& 31).toUInt32).toInt32) &&& (255 : Int32)).toUInt32.toUInt16.toUInt32.toInt32)), .unset, .unset, .unset, .unset, .unset, .unset, .unset, .unset, .unset, .unset, .unset] []))
  obtain ⟨T1, h1, X1, e1, E1, A1, D1, -, st1⟩ := newO X0 hx hZ hown (hw _ (List.mem_of_getElem? (i := 0) rfl)) (hw _ (List.mem_of_getElem? (i := 1) rfl)) (hw _ (List.mem_of_getElem? (i := 2) rfl)) e0 (g := (mkF m 10 #[.val (.int p0), .val (.int p1), .val (.int p2), .val (.int ((((p0.toUInt32 >>> ((8 : Int32) &&& 31).toUInt32).toInt32) &&& (255 : Int32)).toUInt32.toUInt16.toUInt32.toInt32)), .unset, .unset, .unset, .unset, .unset, .unset, .unset, .unset, .unset, .unset, .unset] [])) rfl (hb hby at_10) (by decide) (by decide)
  obtain ⟨b1, qe1⟩ : ∃ z, z = h0.size := ⟨_, rfl⟩
  rw [← qe1] at A1 D1 st1
  refine OwnFin.st st1 ?_
  have bi_b1 : h0.size ≤ b1 := Nat.le_of_eq qe1.symm
  have lo_b1 : h0.size ≤ b1 := Nat.le_trans kp0.1 bi_b1
  have g_b1 : n0 ≤ b1 := Nat.le_trans Z0 lo_b1
  have kp2 : Keep h0 h1 [] := kp0.ext E1
  have ol2 : Old Z n0 h1 := Ol0.ext E1
  have F_coder_b1 : Fld Z h1 b1 "java/lang/String" "coder" "B" (.int (0 : Int32)) := D1 (Or.inr (hw _ (List.mem_of_getElem? (i := 27) rfl))) (ty := .byte) (by decide)
  have F_value_b1 : Fld Z h1 b1 "java/lang/String" "value" "[B" .null := D1 (Or.inr (hw _ (List.mem_of_getElem? (i := 29) rfl))) (ty := (.array .byte)) (by decide)
  show OwnFin _ _ _ _ (T1.setTop (mkF m 13 #[.val (.int p0), .val (.int p1), .val (.int p2), .val (.int ((((p0.toUInt32 >>> ((8 : Int32) &&& 31).toUInt32).toInt32) &&& (255 : Int32)).toUInt32.toUInt16.toUInt32.toInt32)), .unset, .unset, .unset, .unset, .unset, .unset, .unset, .unset, .unset, .unset, .unset] [(.ref b1)]))
  refine OwnFin.st (fun _ q => XS.dup X1.here hx rfl (hb hby at_13) rfl rfl q) ?_
  show OwnFin _ _ _ _ (T1.setTop (mkF m 14 #[.val (.int p0), .val (.int p1), .val (.int p2), .val (.int ((((p0.toUInt32 >>> ((8 : Int32) &&& 31).toUInt32).toInt32) &&& (255 : Int32)).toUInt32.toUInt16.toUInt32.toInt32)), .unset, .unset, .unset, .unset, .unset, .unset, .unset, .unset, .unset, .unset, .unset] [(.ref b1), (.ref b1)]))
  refine OwnFin.st (fun _ q => XS.iconst X1.here hx rfl (hb hby at_14) q) ?_
  show OwnFin _ _ _ _ (T1.setTop (mkF m 15 #[.val (.int p0), .val (.int p1), .val (.int p2), .val (.int ((((p0.toUInt32 >>> ((8 : Int32) &&& 31).toUInt32).toInt32) &&& (255 : Int32)).toUInt32.toUInt16.toUInt32.toInt32)), .unset, .unset, .unset, .unset, .unset, .unset, .unset, .unset, .unset, .unset, .unset] [(.int (1 : Int32)), (.ref b1), (.ref b1)]))
  obtain ⟨T3, h3, k3, X3, e3, E3, A3, st3⟩ := newP X1 hx hZ (hw _ (List.mem_of_getElem? (i := 3) rfl)) e1 (g := (mkF m 15 #[.val (.int p0), .val (.int p1), .val (.int p2), .val (.int ((((p0.toUInt32 >>> ((8 : Int32) &&& 31).toUInt32).toInt32) &&& (255 : Int32)).toUInt32.toUInt16.toUInt32.toInt32)), .unset, .unset, .unset, .unset, .unset, .unset, .unset, .unset, .unset, .unset, .unset] [(.int (1 : Int32)), (.ref b1), (.ref b1)])) rfl (hb hby at_15) rfl (by decide) (cap := 1) (by decide) (by decide) (by decide) (by decide)
  obtain ⟨b3, qe3⟩ : ∃ z, z = h1.size := ⟨_, rfl⟩
  rw [← qe3] at A3 st3
  refine OwnFin.st st3 ?_
  have bi_b3 : h1.size ≤ b3 := Nat.le_of_eq qe3.symm
  have lo_b3 : h0.size ≤ b3 := Nat.le_trans kp2.1 bi_b3
  have g_b3 : n0 ≤ b3 := Nat.le_trans Z0 lo_b3
  have kp4 : Keep h0 h3 [] := kp2.ext E3
  have ol4 : Old Z n0 h3 := ol2.ext E3
  have V3 : Arv Z h3 b3 k3 .char (1 : Int32) [(.int (0 : Int32))] (.int (0 : Int32)) := (Arv.new A3 (by decide)).pad (pad_rep [] (.int (0 : Int32)) 1)
  show OwnFin _ _ _ _ (T3.setTop (mkF m 17 #[.val (.int p0), .val (.int p1), .val (.int p2), .val (.int ((((p0.toUInt32 >>> ((8 : Int32) &&& 31).toUInt32).toInt32) &&& (255 : Int32)).toUInt32.toUInt16.toUInt32.toInt32)), .unset, .unset, .unset, .unset, .unset, .unset, .unset, .unset, .unset, .unset, .unset] [(.ref b3), (.ref b1), (.ref b1)]))
  refine OwnFin.st (fun _ q => XS.dup X3.here hx rfl (hb hby at_17) rfl rfl q) ?_
  show OwnFin _ _ _ _ (T3.setTop (mkF m 18 #[.val (.int p0), .val (.int p1), .val (.int p2), .val (.int ((((p0.toUInt32 >>> ((8 : Int32) &&& 31).toUInt32).toInt32) &&& (255 : Int32)).toUInt32.toUInt16.toUInt32.toInt32)), .unset, .unset, .unset, .unset, .unset, .unset, .unset, .unset, .unset, .unset, .unset] [(.ref b3), (.ref b3), (.ref b1), (.ref b1)]))
  refine OwnFin.st (fun _ q => XS.iconst X3.here hx rfl (hb hby at_18) q) ?_
  show OwnFin _ _ _ _ (T3.setTop (mkF m 19 #[.val (.int p0), .val (.int p1), .val (.int p2), .val (.int ((((p0.toUInt32 >>> ((8 : Int32) &&& 31).toUInt32).toInt32) &&& (255 : Int32)).toUInt32.toUInt16.toUInt32.toInt32)), .unset, .unset, .unset, .unset, .unset, .unset, .unset, .unset, .unset, .unset, .unset] [(.int (0 : Int32)), (.ref b3), (.ref b3), (.ref b1), (.ref b1)]))
  refine OwnFin.st (fun _ q => XS.iloadN X3.here hx rfl (hb hby at_19) rfl q) ?_
  show OwnFin _ _ _ _ (T3.setTop (mkF m 20 #[.val (.int p0), .val (.int p1), .val (.int p2), .val (.int ((((p0.toUInt32 >>> ((8 : Int32) &&& 31).toUInt32).toInt32) &&& (255 : Int32)).toUInt32.toUInt16.toUInt32.toInt32)), .unset, .unset, .unset, .unset, .unset, .unset, .unset, .unset, .unset, .unset, .unset] [(.int ((((p0.toUInt32 >>> ((8 : Int32) &&& 31).toUInt32).toInt32) &&& (255 : Int32)).toUInt32.toUInt16.toUInt32.toInt32)), (.int (0 : Int32)), (.ref b3), (.ref b3), (.ref b1), (.ref b1)]))
  have Vo5 : Arv Z h3 b3 k3 .char (1 : Int32) [(.int (0 : Int32))] (.int (0 : Int32)) := V3
  obtain ⟨cl5, Ar5, qa5, Sa5, Na5, Ha5, Ga5⟩ := id Vo5
  obtain ⟨T5, h5, X5, e5, W5, st5⟩ := stC X3 hx hZ e3 Ar5 (j := (0 : Int32)) (inb_of Sa5 ⟨by decide, by decide⟩) (g := (mkF m 20 #[.val (.int p0), .val (.int p1), .val (.int p2), .val (.int ((((p0.toUInt32 >>> ((8 : Int32) &&& 31).toUInt32).toInt32) &&& (255 : Int32)).toUInt32.toUInt16.toUInt32.toInt32)), .unset, .unset, .unset, .unset, .unset, .unset, .unset, .unset, .unset, .unset, .unset] [(.int ((((p0.toUInt32 >>> ((8 : Int32) &&& 31).toUInt32).toInt32) &&& (255 : Int32)).toUInt32.toUInt16.toUInt32.toInt32)), (.int (0 : Int32)), (.ref b3), (.ref b3), (.ref b1), (.ref b1)])) rfl rfl (hb hby at_20)
  refine OwnFin.st st5 ?_
  have V5 : Arv Z h5 b3 k3 .char (1 : Int32) [(.int ((((p0.toUInt32 >>> ((8 : Int32) &&& 31).toUInt32).toInt32) &&& (255 : Int32)).toUInt32.toUInt16.toUInt32.toInt32))] (.int (0 : Int32)) := by
    have z := Arv.set Ar5 qa5 Sa5 Na5 Ha5 Ga5 (fits_nar_char _) W5 0 rfl (Nat.le_of_ble_eq_true rfl)
    rw [own_nari2c] at z
    exact z
  have N5 := Fr.snoc X5 N0 g_b3
  have kp6 : Keep h0 h5 [] := kp4.wr W5 (Or.inr lo_b3)
  have ol6 : Old Z n0 h5 := ol4.wr W5 g_b3
  show OwnFin _ _ _ _ (T5.setTop (mkF m 21 #[.val (.int p0), .val (.int p1), .val (.int p2), .val (.int ((((p0.toUInt32 >>> ((8 : Int32) &&& 31).toUInt32).toInt32) &&& (255 : Int32)).toUInt32.toUInt16.toUInt32.toInt32)), .unset, .unset, .unset, .unset, .unset, .unset, .unset, .unset, .unset, .unset, .unset] [(.ref b3), (.ref b1), (.ref b1)]))
  have hd7 : ¬ ((255 : Int32) < ((((p0.toUInt32 >>> ((8 : Int32) &&& 31).toUInt32).toInt32) &&& (255 : Int32)).toUInt32.toUInt16.toUInt32.toInt32)) := by
    exact (om_rm0_0 p0)
  obtain ⟨_, _, ⟨T8, L8, k8, n8⟩, -, X8, ⟨Lc8, hQ8, l8, y8, z8⟩, st8⟩ := X5.specialBack hx (y := (⟨"java/lang/String", "<init>", "([C)V"⟩ : MethodName)) rfl hown (mvT hZ (hw _ (List.mem_of_getElem? (i := 4) rfl))) (mvT hZ (hw _ (List.mem_of_getElem? (i := 5) rfl))) (mvT hZ (hw _ (List.mem_of_getElem? (i := 6) rfl))) (by decide) (backOf (W := 1) (rm_si_1 l Z av0 hw [] b1 b3 k3 ((((p0.toUInt32 >>> ((8 : Int32) &&& 31).toUInt32).toInt32) &&& (255 : Int32)).toUInt32.toUInt16.toUInt32.toInt32) w_COMPACT_STRINGS (.int (0 : Int32)) .null h5 n0 (Nat.le_trans Z0 kp6.1) ol6 V5 S_COMPACT_STRINGS hcs hd7 ((A1.ext E3).wr W5) ((F_coder_b1.ext E3).other W5 (Or.inl (Nat.ne_of_lt (Nat.lt_of_lt_of_le A1.lt bi_b3)))) g_b1 ((F_value_b1.ext E3).other W5 (Or.inl (Nat.ne_of_lt (Nat.lt_of_lt_of_le A1.lt bi_b3))))) hZ (hw _ (List.mem_of_getElem? (i := 6) rfl)) (hw _ (List.mem_of_getElem? (i := 2) rfl)) (by decide) (by decide)) (g := (mkF m 21 #[.val (.int p0), .val (.int p1), .val (.int p2), .val (.int ((((p0.toUInt32 >>> ((8 : Int32) &&& 31).toUInt32).toInt32) &&& (255 : Int32)).toUInt32.toUInt16.toUInt32.toInt32)), .unset, .unset, .unset, .unset, .unset, .unset, .unset, .unset, .unset, .unset, .unset] [(.ref b3), (.ref b1), (.ref b1)])) rfl (by rw [hml]; rfl) (Steps.refl _) (a := b1) (argsL := [(.ref b3)]) (rest := [(.ref b1)]) (lenOf pd_6 rfl) rfl (by show 2 * 0 + _ ≤ _; exact Nat.le_of_eq rfl) (hb hby at_21) (fun _ _ => ⟨rfl, e5, (by decide : 2 + 1 ≤ _), (by decide : 5 + 1 ≤ _)⟩)
  dsimp only [Pt.U, Pt.locs, Pt.cells, Pt.slots] at X8 l8 y8 z8 st8 hQ8
  subst l8 y8 z8
  obtain ⟨c8_0, kc8_0, rfl, N8q, K8, r8_0, r8_1, r8_2, r8_3⟩ := hQ8
  have N8 := Fr.app N5 N8q
  refine OwnFin.tr st8 ?_
  obtain ⟨h8, e8⟩ : ∃ z, T8.heap = z := ⟨_, rfl⟩
  rw [e8] at K8 r8_1 r8_2 r8_3
  have bi_c8_0 : h5.size ≤ c8_0 := r8_0
  have lo_c8_0 : h0.size ≤ c8_0 := Nat.le_trans kp6.1 bi_c8_0
  have g_c8_0 : n0 ≤ c8_0 := Nat.le_trans Z0 lo_c8_0
  have kp9 : Keep h0 h8 [] := kp6.trans K8 (allS (Or.inr lo_b1) all0)
  have ol9 : Old Z n0 h8 := ol6.keep K8 (allS g_b1 all0)
  show OwnFin _ _ _ _ (T8.setTop (mkF m 24 #[.val (.int p0), .val (.int p1), .val (.int p2), .val (.int ((((p0.toUInt32 >>> ((8 : Int32) &&& 31).toUInt32).toInt32) &&& (255 : Int32)).toUInt32.toUInt16.toUInt32.toInt32)), .unset, .unset, .unset, .unset, .unset, .unset, .unset, .unset, .unset, .unset, .unset] [(.ref b1)]))
  refine OwnFin.st (fun _ q => XS.astore X8.here hx rfl (hb hby at_24) rfl rfl (l' := #[.val (.int p0), .val (.int p1), .val (.int p2), .val (.int ((((p0.toUInt32 >>> ((8 : Int32) &&& 31).toUInt32).toInt32) &&& (255 : Int32)).toUInt32.toUInt16.toUInt32.toInt32)), .val (.ref b1), .unset, .unset, .unset, .unset, .unset, .unset, .unset, .unset, .unset, .unset]) rfl q) ?_
  show OwnFin _ _ _ _ (T8.setTop (mkF m 26 #[.val (.int p0), .val (.int p1), .val (.int p2), .val (.int ((((p0.toUInt32 >>> ((8 : Int32) &&& 31).toUInt32).toInt32) &&& (255 : Int32)).toUInt32.toUInt16.toUInt32.toInt32)), .val (.ref b1), .unset, .unset, .unset, .unset, .unset, .unset, .unset, .unset, .unset, .unset] []))
  obtain ⟨T10, h10, X10, e10, E10, A10, D10, -, st10⟩ := newO X8 hx hZ hown (hw _ (List.mem_of_getElem? (i := 0) rfl)) (hw _ (List.mem_of_getElem? (i := 1) rfl)) (hw _ (List.mem_of_getElem? (i := 2) rfl)) e8 (g := (mkF m 26 #[.val (.int p0), .val (.int p1), .val (.int p2), .val (.int ((((p0.toUInt32 >>> ((8 : Int32) &&& 31).toUInt32).toInt32) &&& (255 : Int32)).toUInt32.toUInt16.toUInt32.toInt32)), .val (.ref b1), .unset, .unset, .unset, .unset, .unset, .unset, .unset, .unset, .unset, .unset] [])) rfl (hb hby at_26) (by decide) (by decide)
  obtain ⟨b10, qe10⟩ : ∃ z, z = h8.size := ⟨_, rfl⟩
  rw [← qe10] at A10 D10 st10
  refine OwnFin.st st10 ?_
  have bi_b10 : h8.size ≤ b10 := Nat.le_of_eq qe10.symm
  have lo_b10 : h0.size ≤ b10 := Nat.le_trans kp9.1 bi_b10
  have g_b10 : n0 ≤ b10 := Nat.le_trans Z0 lo_b10
  have kp11 : Keep h0 h10 [] := kp9.ext E10
  have ol11 : Old Z n0 h10 := ol9.ext E10
  have F_coder_b10 : Fld Z h10 b10 "java/lang/String" "coder" "B" (.int (0 : Int32)) := D10 (Or.inr (hw _ (List.mem_of_getElem? (i := 27) rfl))) (ty := .byte) (by decide)
  have F_value_b10 : Fld Z h10 b10 "java/lang/String" "value" "[B" .null := D10 (Or.inr (hw _ (List.mem_of_getElem? (i := 29) rfl))) (ty := (.array .byte)) (by decide)
  show OwnFin _ _ _ _ (T10.setTop (mkF m 29 #[.val (.int p0), .val (.int p1), .val (.int p2), .val (.int ((((p0.toUInt32 >>> ((8 : Int32) &&& 31).toUInt32).toInt32) &&& (255 : Int32)).toUInt32.toUInt16.toUInt32.toInt32)), .val (.ref b1), .unset, .unset, .unset, .unset, .unset, .unset, .unset, .unset, .unset, .unset] [(.ref b10)]))
  refine OwnFin.st (fun _ q => XS.dup X10.here hx rfl (hb hby at_29) rfl rfl q) ?_
  show OwnFin _ _ _ _ (T10.setTop (mkF m 30 #[.val (.int p0), .val (.int p1), .val (.int p2), .val (.int ((((p0.toUInt32 >>> ((8 : Int32) &&& 31).toUInt32).toInt32) &&& (255 : Int32)).toUInt32.toUInt16.toUInt32.toInt32)), .val (.ref b1), .unset, .unset, .unset, .unset, .unset, .unset, .unset, .unset, .unset, .unset] [(.ref b10), (.ref b10)]))
  refine OwnFin.st (fun _ q => XS.iconst X10.here hx rfl (hb hby at_30) q) ?_
  show OwnFin _ _ _ _ (T10.setTop (mkF m 31 #[.val (.int p0), .val (.int p1), .val (.int p2), .val (.int ((((p0.toUInt32 >>> ((8 : Int32) &&& 31).toUInt32).toInt32) &&& (255 : Int32)).toUInt32.toUInt16.toUInt32.toInt32)), .val (.ref b1), .unset, .unset, .unset, .unset, .unset, .unset, .unset, .unset, .unset, .unset] [(.int (1 : Int32)), (.ref b10), (.ref b10)]))
  obtain ⟨T12, h12, k12, X12, e12, E12, A12, st12⟩ := newP X10 hx hZ (hw _ (List.mem_of_getElem? (i := 3) rfl)) e10 (g := (mkF m 31 #[.val (.int p0), .val (.int p1), .val (.int p2), .val (.int ((((p0.toUInt32 >>> ((8 : Int32) &&& 31).toUInt32).toInt32) &&& (255 : Int32)).toUInt32.toUInt16.toUInt32.toInt32)), .val (.ref b1), .unset, .unset, .unset, .unset, .unset, .unset, .unset, .unset, .unset, .unset] [(.int (1 : Int32)), (.ref b10), (.ref b10)])) rfl (hb hby at_31) rfl (by decide) (cap := 1) (by decide) (by decide) (by decide) (by decide)
  obtain ⟨b12, qe12⟩ : ∃ z, z = h10.size := ⟨_, rfl⟩
  rw [← qe12] at A12 st12
  refine OwnFin.st st12 ?_
  have bi_b12 : h10.size ≤ b12 := Nat.le_of_eq qe12.symm
  have lo_b12 : h0.size ≤ b12 := Nat.le_trans kp11.1 bi_b12
  have g_b12 : n0 ≤ b12 := Nat.le_trans Z0 lo_b12
  have kp13 : Keep h0 h12 [] := kp11.ext E12
  have ol13 : Old Z n0 h12 := ol11.ext E12
  have V12 : Arv Z h12 b12 k12 .char (1 : Int32) [(.int (0 : Int32))] (.int (0 : Int32)) := (Arv.new A12 (by decide)).pad (pad_rep [] (.int (0 : Int32)) 1)
  show OwnFin _ _ _ _ (T12.setTop (mkF m 33 #[.val (.int p0), .val (.int p1), .val (.int p2), .val (.int ((((p0.toUInt32 >>> ((8 : Int32) &&& 31).toUInt32).toInt32) &&& (255 : Int32)).toUInt32.toUInt16.toUInt32.toInt32)), .val (.ref b1), .unset, .unset, .unset, .unset, .unset, .unset, .unset, .unset, .unset, .unset] [(.ref b12), (.ref b10), (.ref b10)]))
  refine OwnFin.st (fun _ q => XS.dup X12.here hx rfl (hb hby at_33) rfl rfl q) ?_
  show OwnFin _ _ _ _ (T12.setTop (mkF m 34 #[.val (.int p0), .val (.int p1), .val (.int p2), .val (.int ((((p0.toUInt32 >>> ((8 : Int32) &&& 31).toUInt32).toInt32) &&& (255 : Int32)).toUInt32.toUInt16.toUInt32.toInt32)), .val (.ref b1), .unset, .unset, .unset, .unset, .unset, .unset, .unset, .unset, .unset, .unset] [(.ref b12), (.ref b12), (.ref b10), (.ref b10)]))
  refine OwnFin.st (fun _ q => XS.iconst X12.here hx rfl (hb hby at_34) q) ?_
  show OwnFin _ _ _ _ (T12.setTop (mkF m 35 #[.val (.int p0), .val (.int p1), .val (.int p2), .val (.int ((((p0.toUInt32 >>> ((8 : Int32) &&& 31).toUInt32).toInt32) &&& (255 : Int32)).toUInt32.toUInt16.toUInt32.toInt32)), .val (.ref b1), .unset, .unset, .unset, .unset, .unset, .unset, .unset, .unset, .unset, .unset] [(.int (0 : Int32)), (.ref b12), (.ref b12), (.ref b10), (.ref b10)]))
  refine OwnFin.st (fun _ q => XS.iloadN X12.here hx rfl (hb hby at_35) rfl q) ?_
  show OwnFin _ _ _ _ (T12.setTop (mkF m 36 #[.val (.int p0), .val (.int p1), .val (.int p2), .val (.int ((((p0.toUInt32 >>> ((8 : Int32) &&& 31).toUInt32).toInt32) &&& (255 : Int32)).toUInt32.toUInt16.toUInt32.toInt32)), .val (.ref b1), .unset, .unset, .unset, .unset, .unset, .unset, .unset, .unset, .unset, .unset] [(.int ((((p0.toUInt32 >>> ((8 : Int32) &&& 31).toUInt32).toInt32) &&& (255 : Int32)).toUInt32.toUInt16.toUInt32.toInt32)), (.int (0 : Int32)), (.ref b12), (.ref b12), (.ref b10), (.ref b10)]))
  have Vo14 : Arv Z h12 b12 k12 .char (1 : Int32) [(.int (0 : Int32))] (.int (0 : Int32)) := V12
  obtain ⟨cl14, Ar14, qa14, Sa14, Na14, Ha14, Ga14⟩ := id Vo14
  obtain ⟨T14, h14, X14, e14, W14, st14⟩ := stC X12 hx hZ e12 Ar14 (j := (0 : Int32)) (inb_of Sa14 ⟨by decide, by decide⟩) (g := (mkF m 36 #[.val (.int p0), .val (.int p1), .val (.int p2), .val (.int ((((p0.toUInt32 >>> ((8 : Int32) &&& 31).toUInt32).toInt32) &&& (255 : Int32)).toUInt32.toUInt16.toUInt32.toInt32)), .val (.ref b1), .unset, .unset, .unset, .unset, .unset, .unset, .unset, .unset, .unset, .unset] [(.int ((((p0.toUInt32 >>> ((8 : Int32) &&& 31).toUInt32).toInt32) &&& (255 : Int32)).toUInt32.toUInt16.toUInt32.toInt32)), (.int (0 : Int32)), (.ref b12), (.ref b12), (.ref b10), (.ref b10)])) rfl rfl (hb hby at_36)
  refine OwnFin.st st14 ?_
  have V14 : Arv Z h14 b12 k12 .char (1 : Int32) [(.int ((((p0.toUInt32 >>> ((8 : Int32) &&& 31).toUInt32).toInt32) &&& (255 : Int32)).toUInt32.toUInt16.toUInt32.toInt32))] (.int (0 : Int32)) := by
    have z := Arv.set Ar14 qa14 Sa14 Na14 Ha14 Ga14 (fits_nar_char _) W14 0 rfl (Nat.le_of_ble_eq_true rfl)
    rw [own_nari2c] at z
    exact z
  have N14 := Fr.snoc X14 N8 g_b12
  have kp15 : Keep h0 h14 [] := kp13.wr W14 (Or.inr lo_b12)
  have ol15 : Old Z n0 h14 := ol13.wr W14 g_b12
  show OwnFin _ _ _ _ (T14.setTop (mkF m 37 #[.val (.int p0), .val (.int p1), .val (.int p2), .val (.int ((((p0.toUInt32 >>> ((8 : Int32) &&& 31).toUInt32).toInt32) &&& (255 : Int32)).toUInt32.toUInt16.toUInt32.toInt32)), .val (.ref b1), .unset, .unset, .unset, .unset, .unset, .unset, .unset, .unset, .unset, .unset] [(.ref b12), (.ref b10), (.ref b10)]))
  obtain ⟨_, _, ⟨T16, L16, k16, n16⟩, -, X16, ⟨Lc16, hQ16, l16, y16, z16⟩, st16⟩ := X14.specialBack hx (y := (⟨"java/lang/String", "<init>", "([C)V"⟩ : MethodName)) rfl hown (mvT hZ (hw _ (List.mem_of_getElem? (i := 4) rfl))) (mvT hZ (hw _ (List.mem_of_getElem? (i := 5) rfl))) (mvT hZ (hw _ (List.mem_of_getElem? (i := 6) rfl))) (by decide) (backOf (W := 1) (rm_si_1 l Z av0 hw [] b10 b12 k12 ((((p0.toUInt32 >>> ((8 : Int32) &&& 31).toUInt32).toInt32) &&& (255 : Int32)).toUInt32.toUInt16.toUInt32.toInt32) w_COMPACT_STRINGS (.int (0 : Int32)) .null h14 n0 (Nat.le_trans Z0 kp15.1) ol15 V14 S_COMPACT_STRINGS hcs hd7 ((A10.ext E12).wr W14) ((F_coder_b10.ext E12).other W14 (Or.inl (Nat.ne_of_lt (Nat.lt_of_lt_of_le A10.lt bi_b12)))) g_b10 ((F_value_b10.ext E12).other W14 (Or.inl (Nat.ne_of_lt (Nat.lt_of_lt_of_le A10.lt bi_b12))))) hZ (hw _ (List.mem_of_getElem? (i := 6) rfl)) (hw _ (List.mem_of_getElem? (i := 2) rfl)) (by decide) (by decide)) (g := (mkF m 37 #[.val (.int p0), .val (.int p1), .val (.int p2), .val (.int ((((p0.toUInt32 >>> ((8 : Int32) &&& 31).toUInt32).toInt32) &&& (255 : Int32)).toUInt32.toUInt16.toUInt32.toInt32)), .val (.ref b1), .unset, .unset, .unset, .unset, .unset, .unset, .unset, .unset, .unset, .unset] [(.ref b12), (.ref b10), (.ref b10)])) rfl (by rw [hml]; rfl) (Steps.refl _) (a := b10) (argsL := [(.ref b12)]) (rest := [(.ref b10)]) (lenOf pd_6 rfl) rfl (by show 2 * 0 + _ ≤ _; exact Nat.le_of_eq rfl) (hb hby at_37) (fun _ _ => ⟨rfl, e14, (by decide : 5 + 1 ≤ _), (by decide : 11 + 1 ≤ _)⟩)
  dsimp only [Pt.U, Pt.locs, Pt.cells, Pt.slots] at X16 l16 y16 z16 st16 hQ16
  subst l16 y16 z16
  obtain ⟨c16_0, kc16_0, rfl, N16q, K16, r16_0, r16_1, r16_2, r16_3⟩ := hQ16
  have N16 := Fr.app N14 N16q
  refine OwnFin.tr st16 ?_
  obtain ⟨h16, e16⟩ : ∃ z, T16.heap = z := ⟨_, rfl⟩
  rw [e16] at K16 r16_1 r16_2 r16_3
  have bi_c16_0 : h14.size ≤ c16_0 := r16_0
  have lo_c16_0 : h0.size ≤ c16_0 := Nat.le_trans kp15.1 bi_c16_0
  have g_c16_0 : n0 ≤ c16_0 := Nat.le_trans Z0 lo_c16_0
  have kp17 : Keep h0 h16 [] := kp15.trans K16 (allS (Or.inr lo_b10) all0)
  have ol17 : Old Z n0 h16 := ol15.keep K16 (allS g_b10 all0)
  show OwnFin _ _ _ _ (T16.setTop (mkF m 40 #[.val (.int p0), .val (.int p1), .val (.int p2), .val (.int ((((p0.toUInt32 >>> ((8 : Int32) &&& 31).toUInt32).toInt32) &&& (255 : Int32)).toUInt32.toUInt16.toUInt32.toInt32)), .val (.ref b1), .unset, .unset, .unset, .unset, .unset, .unset, .unset, .unset, .unset, .unset] [(.ref b10)]))
  refine OwnFin.st (fun _ q => XS.astore X16.here hx rfl (hb hby at_40) rfl rfl (l' := #[.val (.int p0), .val (.int p1), .val (.int p2), .val (.int ((((p0.toUInt32 >>> ((8 : Int32) &&& 31).toUInt32).toInt32) &&& (255 : Int32)).toUInt32.toUInt16.toUInt32.toInt32)), .val (.ref b1), .val (.ref b10), .unset, .unset, .unset, .unset, .unset, .unset, .unset, .unset, .unset]) rfl q) ?_
  show OwnFin _ _ _ _ (T16.setTop (mkF m 42 #[.val (.int p0), .val (.int p1), .val (.int p2), .val (.int ((((p0.toUInt32 >>> ((8 : Int32) &&& 31).toUInt32).toInt32) &&& (255 : Int32)).toUInt32.toUInt16.toUInt32.toInt32)), .val (.ref b1), .val (.ref b10), .unset, .unset, .unset, .unset, .unset, .unset, .unset, .unset, .unset] []))
  refine OwnFin.st (fun _ q => XS.iloadN X16.here hx rfl (hb hby at_42) rfl q) ?_
  show OwnFin _ _ _ _ (T16.setTop (mkF m 43 #[.val (.int p0), .val (.int p1), .val (.int p2), .val (.int ((((p0.toUInt32 >>> ((8 : Int32) &&& 31).toUInt32).toInt32) &&& (255 : Int32)).toUInt32.toUInt16.toUInt32.toInt32)), .val (.ref b1), .val (.ref b10), .unset, .unset, .unset, .unset, .unset, .unset, .unset, .unset, .unset] [(.int p0)]))
  refine OwnFin.st (fun _ q => XS.iconst X16.here hx rfl (hb hby at_43) q) ?_
  show OwnFin _ _ _ _ (T16.setTop (mkF m 44 #[.val (.int p0), .val (.int p1), .val (.int p2), .val (.int ((((p0.toUInt32 >>> ((8 : Int32) &&& 31).toUInt32).toInt32) &&& (255 : Int32)).toUInt32.toUInt16.toUInt32.toInt32)), .val (.ref b1), .val (.ref b10), .unset, .unset, .unset, .unset, .unset, .unset, .unset, .unset, .unset] [(.int (3 : Int32)), (.int p0)]))
  refine OwnFin.st (fun _ q => XS.iand X16.here hx rfl (hb hby at_44) rfl q) ?_
  show OwnFin _ _ _ _ (T16.setTop (mkF m 45 #[.val (.int p0), .val (.int p1), .val (.int p2), .val (.int ((((p0.toUInt32 >>> ((8 : Int32) &&& 31).toUInt32).toInt32) &&& (255 : Int32)).toUInt32.toUInt16.toUInt32.toInt32)), .val (.ref b1), .val (.ref b10), .unset, .unset, .unset, .unset, .unset, .unset, .unset, .unset, .unset] [(.int (p0 &&& (3 : Int32)))]))
  refine OwnFin.st (fun _ q => XS.iconst X16.here hx rfl (hb hby at_45) q) ?_
  show OwnFin _ _ _ _ (T16.setTop (mkF m 46 #[.val (.int p0), .val (.int p1), .val (.int p2), .val (.int ((((p0.toUInt32 >>> ((8 : Int32) &&& 31).toUInt32).toInt32) &&& (255 : Int32)).toUInt32.toUInt16.toUInt32.toInt32)), .val (.ref b1), .val (.ref b10), .unset, .unset, .unset, .unset, .unset, .unset, .unset, .unset, .unset] [(.int (2 : Int32)), (.int (p0 &&& (3 : Int32)))]))
  obtain ⟨_, _, ⟨T18, L18, k18, n18⟩, -, X18, ⟨Lc18, hQ18, l18, y18, z18⟩, st18⟩ := Jvm.LawKit.callS X16 hx (y := (⟨"java/lang/Math", "min", "(II)I"⟩ : MethodName)) hown (mvT hZ (hw _ (List.mem_of_getElem? (i := 30) rfl))) (mvT hZ (hw _ (List.mem_of_getElem? (i := 31) rfl))) (mvT hZ (hw _ (List.mem_of_getElem? (i := 32) rfl))) (mvT hZ (hw _ (List.mem_of_getElem? (i := 33) rfl))) (by decide) (backOf (W := 0) (rm_min l Z av0 hw [] (p0 &&& (3 : Int32)) (2 : Int32) h16 n0 (Nat.le_trans Z0 kp17.1) ) hZ (hw _ (List.mem_of_getElem? (i := 33) rfl)) (hw _ (List.mem_of_getElem? (i := 32) rfl)) (by decide) (by decide)) (g := (mkF m 46 #[.val (.int p0), .val (.int p1), .val (.int p2), .val (.int ((((p0.toUInt32 >>> ((8 : Int32) &&& 31).toUInt32).toInt32) &&& (255 : Int32)).toUInt32.toUInt16.toUInt32.toInt32)), .val (.ref b1), .val (.ref b10), .unset, .unset, .unset, .unset, .unset, .unset, .unset, .unset, .unset] [(.int (2 : Int32)), (.int (p0 &&& (3 : Int32)))])) rfl (by rw [hml]; rfl) (argsL := [(.int (p0 &&& (3 : Int32))), (.int (2 : Int32))]) (rest := []) (lenOf pd_7 rfl) rfl (by show 2 * 0 + _ ≤ _; exact Nat.le_of_eq rfl) (hb hby at_46) (fun _ _ => ⟨rfl, e16, (by decide : 6 + 0 ≤ _), (by decide : 12 + 0 ≤ _)⟩)
  dsimp only [Pt.U, Pt.locs, Pt.cells, Pt.slots] at X18 l18 y18 z18 st18 hQ18
  subst l18 y18 z18
  obtain ⟨rfl, N18q, he18⟩ := hQ18
  have N18 := Fr.app N16 N18q
  refine OwnFin.st st18 ?_
  show OwnFin _ _ _ _ (T18.setTop (mkF m 49 #[.val (.int p0), .val (.int p1), .val (.int p2), .val (.int ((((p0.toUInt32 >>> ((8 : Int32) &&& 31).toUInt32).toInt32) &&& (255 : Int32)).toUInt32.toUInt16.toUInt32.toInt32)), .val (.ref b1), .val (.ref b10), .unset, .unset, .unset, .unset, .unset, .unset, .unset, .unset, .unset] [(.int (own_minI (p0 &&& (3 : Int32)) (2 : Int32)))]))
  refine OwnFin.st (fun _ q => XS.istore X18.here hx rfl (hb hby at_49) rfl (l' := #[.val (.int p0), .val (.int p1), .val (.int p2), .val (.int ((((p0.toUInt32 >>> ((8 : Int32) &&& 31).toUInt32).toInt32) &&& (255 : Int32)).toUInt32.toUInt16.toUInt32.toInt32)), .val (.ref b1), .val (.ref b10), .val (.int (own_minI (p0 &&& (3 : Int32)) (2 : Int32))), .unset, .unset, .unset, .unset, .unset, .unset, .unset, .unset]) rfl q) ?_
  show OwnFin _ _ _ _ (T18.setTop (mkF m 51 #[.val (.int p0), .val (.int p1), .val (.int p2), .val (.int ((((p0.toUInt32 >>> ((8 : Int32) &&& 31).toUInt32).toInt32) &&& (255 : Int32)).toUInt32.toUInt16.toUInt32.toInt32)), .val (.ref b1), .val (.ref b10), .val (.int (own_minI (p0 &&& (3 : Int32)) (2 : Int32))), .unset, .unset, .unset, .unset, .unset, .unset, .unset, .unset] []))
  refine OwnFin.st (fun _ q => XS.iloadN X18.here hx rfl (hb hby at_51) rfl q) ?_
  show OwnFin _ _ _ _ (T18.setTop (mkF m 52 #[.val (.int p0), .val (.int p1), .val (.int p2), .val (.int ((((p0.toUInt32 >>> ((8 : Int32) &&& 31).toUInt32).toInt32) &&& (255 : Int32)).toUInt32.toUInt16.toUInt32.toInt32)), .val (.ref b1), .val (.ref b10), .val (.int (own_minI (p0 &&& (3 : Int32)) (2 : Int32))), .unset, .unset, .unset, .unset, .unset, .unset, .unset, .unset] [(.int p1)]))
  refine OwnFin.st (fun _ q => XS.iconst X18.here hx rfl (hb hby at_52) q) ?_
  show OwnFin _ _ _ _ (T18.setTop (mkF m 53 #[.val (.int p0), .val (.int p1), .val (.int p2), .val (.int ((((p0.toUInt32 >>> ((8 : Int32) &&& 31).toUInt32).toInt32) &&& (255 : Int32)).toUInt32.toUInt16.toUInt32.toInt32)), .val (.ref b1), .val (.ref b10), .val (.int (own_minI (p0 &&& (3 : Int32)) (2 : Int32))), .unset, .unset, .unset, .unset, .unset, .unset, .unset, .unset] [(.int (3 : Int32)), (.int p1)]))
  refine OwnFin.st (fun _ q => XS.iand X18.here hx rfl (hb hby at_53) rfl q) ?_
  show OwnFin _ _ _ _ (T18.setTop (mkF m 54 #[.val (.int p0), .val (.int p1), .val (.int p2), .val (.int ((((p0.toUInt32 >>> ((8 : Int32) &&& 31).toUInt32).toInt32) &&& (255 : Int32)).toUInt32.toUInt16.toUInt32.toInt32)), .val (.ref b1), .val (.ref b10), .val (.int (own_minI (p0 &&& (3 : Int32)) (2 : Int32))), .unset, .unset, .unset, .unset, .unset, .unset, .unset, .unset] [(.int (p1 &&& (3 : Int32)))]))
  refine OwnFin.st (fun _ q => XS.iconst X18.here hx rfl (hb hby at_54) q) ?_
  show OwnFin _ _ _ _ (T18.setTop (mkF m 55 #[.val (.int p0), .val (.int p1), .val (.int p2), .val (.int ((((p0.toUInt32 >>> ((8 : Int32) &&& 31).toUInt32).toInt32) &&& (255 : Int32)).toUInt32.toUInt16.toUInt32.toInt32)), .val (.ref b1), .val (.ref b10), .val (.int (own_minI (p0 &&& (3 : Int32)) (2 : Int32))), .unset, .unset, .unset, .unset, .unset, .unset, .unset, .unset] [(.int (2 : Int32)), (.int (p1 &&& (3 : Int32)))]))
  obtain ⟨_, _, ⟨T19, L19, k19, n19⟩, -, X19, ⟨Lc19, hQ19, l19, y19, z19⟩, st19⟩ := Jvm.LawKit.callS X18 hx (y := (⟨"java/lang/Math", "min", "(II)I"⟩ : MethodName)) hown (mvT hZ (hw _ (List.mem_of_getElem? (i := 30) rfl))) (mvT hZ (hw _ (List.mem_of_getElem? (i := 31) rfl))) (mvT hZ (hw _ (List.mem_of_getElem? (i := 32) rfl))) (mvT hZ (hw _ (List.mem_of_getElem? (i := 33) rfl))) (by decide) (backOf (W := 0) (rm_min l Z av0 hw [] (p1 &&& (3 : Int32)) (2 : Int32) h16 n0 (Nat.le_trans Z0 kp17.1) ) hZ (hw _ (List.mem_of_getElem? (i := 33) rfl)) (hw _ (List.mem_of_getElem? (i := 32) rfl)) (by decide) (by decide)) (g := (mkF m 55 #[.val (.int p0), .val (.int p1), .val (.int p2), .val (.int ((((p0.toUInt32 >>> ((8 : Int32) &&& 31).toUInt32).toInt32) &&& (255 : Int32)).toUInt32.toUInt16.toUInt32.toInt32)), .val (.ref b1), .val (.ref b10), .val (.int (own_minI (p0 &&& (3 : Int32)) (2 : Int32))), .unset, .unset, .unset, .unset, .unset, .unset, .unset, .unset] [(.int (2 : Int32)), (.int (p1 &&& (3 : Int32)))])) rfl (by rw [hml]; rfl) (argsL := [(.int (p1 &&& (3 : Int32))), (.int (2 : Int32))]) (rest := []) (lenOf pd_7 rfl) rfl (by show 2 * 0 + _ ≤ _; exact Nat.le_of_eq rfl) (hb hby at_55) (fun _ _ => ⟨rfl, he18, (by decide : 6 + 0 ≤ _), (by decide : 12 + 0 ≤ _)⟩)
  dsimp only [Pt.U, Pt.locs, Pt.cells, Pt.slots] at X19 l19 y19 z19 st19 hQ19
  subst l19 y19 z19
  obtain ⟨rfl, N19q, he19⟩ := hQ19
  have N19 := Fr.app N18 N19q
  refine OwnFin.st st19 ?_
  show OwnFin _ _ _ _ (T19.setTop (mkF m 58 #[.val (.int p0), .val (.int p1), .val (.int p2), .val (.int ((((p0.toUInt32 >>> ((8 : Int32) &&& 31).toUInt32).toInt32) &&& (255 : Int32)).toUInt32.toUInt16.toUInt32.toInt32)), .val (.ref b1), .val (.ref b10), .val (.int (own_minI (p0 &&& (3 : Int32)) (2 : Int32))), .unset, .unset, .unset, .unset, .unset, .unset, .unset, .unset] [(.int (own_minI (p1 &&& (3 : Int32)) (2 : Int32)))]))
  refine OwnFin.st (fun _ q => XS.istore X19.here hx rfl (hb hby at_58) rfl (l' := #[.val (.int p0), .val (.int p1), .val (.int p2), .val (.int ((((p0.toUInt32 >>> ((8 : Int32) &&& 31).toUInt32).toInt32) &&& (255 : Int32)).toUInt32.toUInt16.toUInt32.toInt32)), .val (.ref b1), .val (.ref b10), .val (.int (own_minI (p0 &&& (3 : Int32)) (2 : Int32))), .val (.int (own_minI (p1 &&& (3 : Int32)) (2 : Int32))), .unset, .unset, .unset, .unset, .unset, .unset, .unset]) rfl q) ?_
  show OwnFin _ _ _ _ (T19.setTop (mkF m 60 #[.val (.int p0), .val (.int p1), .val (.int p2), .val (.int ((((p0.toUInt32 >>> ((8 : Int32) &&& 31).toUInt32).toInt32) &&& (255 : Int32)).toUInt32.toUInt16.toUInt32.toInt32)), .val (.ref b1), .val (.ref b10), .val (.int (own_minI (p0 &&& (3 : Int32)) (2 : Int32))), .val (.int (own_minI (p1 &&& (3 : Int32)) (2 : Int32))), .unset, .unset, .unset, .unset, .unset, .unset, .unset] []))
  refine OwnFin.st (fun _ q => XS.iloadN X19.here hx rfl (hb hby at_60) rfl q) ?_
  show OwnFin _ _ _ _ (T19.setTop (mkF m 61 #[.val (.int p0), .val (.int p1), .val (.int p2), .val (.int ((((p0.toUInt32 >>> ((8 : Int32) &&& 31).toUInt32).toInt32) &&& (255 : Int32)).toUInt32.toUInt16.toUInt32.toInt32)), .val (.ref b1), .val (.ref b10), .val (.int (own_minI (p0 &&& (3 : Int32)) (2 : Int32))), .val (.int (own_minI (p1 &&& (3 : Int32)) (2 : Int32))), .unset, .unset, .unset, .unset, .unset, .unset, .unset] [(.int p1)]))
  refine OwnFin.st (fun _ q => XS.iconst X19.here hx rfl (hb hby at_61) q) ?_
  show OwnFin _ _ _ _ (T19.setTop (mkF m 62 #[.val (.int p0), .val (.int p1), .val (.int p2), .val (.int ((((p0.toUInt32 >>> ((8 : Int32) &&& 31).toUInt32).toInt32) &&& (255 : Int32)).toUInt32.toUInt16.toUInt32.toInt32)), .val (.ref b1), .val (.ref b10), .val (.int (own_minI (p0 &&& (3 : Int32)) (2 : Int32))), .val (.int (own_minI (p1 &&& (3 : Int32)) (2 : Int32))), .unset, .unset, .unset, .unset, .unset, .unset, .unset] [(.int (2 : Int32)), (.int p1)]))
  refine OwnFin.st (fun _ q => XS.iushr X19.here hx rfl (hb hby at_62) rfl q) ?_
  show OwnFin _ _ _ _ (T19.setTop (mkF m 63 #[.val (.int p0), .val (.int p1), .val (.int p2), .val (.int ((((p0.toUInt32 >>> ((8 : Int32) &&& 31).toUInt32).toInt32) &&& (255 : Int32)).toUInt32.toUInt16.toUInt32.toInt32)), .val (.ref b1), .val (.ref b10), .val (.int (own_minI (p0 &&& (3 : Int32)) (2 : Int32))), .val (.int (own_minI (p1 &&& (3 : Int32)) (2 : Int32))), .unset, .unset, .unset, .unset, .unset, .unset, .unset] [(.int ((p1.toUInt32 >>> ((2 : Int32) &&& 31).toUInt32).toInt32))]))
  refine OwnFin.st (fun _ q => XS.iconst X19.here hx rfl (hb hby at_63) q) ?_
  show OwnFin _ _ _ _ (T19.setTop (mkF m 64 #[.val (.int p0), .val (.int p1), .val (.int p2), .val (.int ((((p0.toUInt32 >>> ((8 : Int32) &&& 31).toUInt32).toInt32) &&& (255 : Int32)).toUInt32.toUInt16.toUInt32.toInt32)), .val (.ref b1), .val (.ref b10), .val (.int (own_minI (p0 &&& (3 : Int32)) (2 : Int32))), .val (.int (own_minI (p1 &&& (3 : Int32)) (2 : Int32))), .unset, .unset, .unset, .unset, .unset, .unset, .unset] [(.int (1 : Int32)), (.int ((p1.toUInt32 >>> ((2 : Int32) &&& 31).toUInt32).toInt32))]))
  refine OwnFin.st (fun _ q => XS.iand X19.here hx rfl (hb hby at_64) rfl q) ?_
  show OwnFin _ _ _ _ (T19.setTop (mkF m 65 #[.val (.int p0), .val (.int p1), .val (.int p2), .val (.int ((((p0.toUInt32 >>> ((8 : Int32) &&& 31).toUInt32).toInt32) &&& (255 : Int32)).toUInt32.toUInt16.toUInt32.toInt32)), .val (.ref b1), .val (.ref b10), .val (.int (own_minI (p0 &&& (3 : Int32)) (2 : Int32))), .val (.int (own_minI (p1 &&& (3 : Int32)) (2 : Int32))), .unset, .unset, .unset, .unset, .unset, .unset, .unset] [(.int (((p1.toUInt32 >>> ((2 : Int32) &&& 31).toUInt32).toInt32) &&& (1 : Int32)))]))
  by_cases hc20 : (((p1.toUInt32 >>> ((2 : Int32) &&& 31).toUInt32).toInt32) &&& (1 : Int32)) = (0 : Int32)
  · skip
    refine OwnFin.st (fun _ q => XS.ifYes X19.here hx rfl (pc0 := 65) (pc' := 75) rfl (hb hby at_65) rfl (Jvm.Free.XT.i0_eq_t hc20) (by decide) (by decide) q) ?_
    show OwnFin _ _ _ _ (T19.setTop (mkF m 75 #[.val (.int p0), .val (.int p1), .val (.int p2), .val (.int ((((p0.toUInt32 >>> ((8 : Int32) &&& 31).toUInt32).toInt32) &&& (255 : Int32)).toUInt32.toUInt16.toUInt32.toInt32)), .val (.ref b1), .val (.ref b10), .val (.int (own_minI (p0 &&& (3 : Int32)) (2 : Int32))), .val (.int (own_minI (p1 &&& (3 : Int32)) (2 : Int32))), .unset, .unset, .unset, .unset, .unset, .unset, .unset] []))
    refine OwnFin.st (fun _ q => XS.aconstNull X19.here hx rfl (hb hby at_75) q) ?_
    show OwnFin _ _ _ _ (T19.setTop (mkF m 76 #[.val (.int p0), .val (.int p1), .val (.int p2), .val (.int ((((p0.toUInt32 >>> ((8 : Int32) &&& 31).toUInt32).toInt32) &&& (255 : Int32)).toUInt32.toUInt16.toUInt32.toInt32)), .val (.ref b1), .val (.ref b10), .val (.int (own_minI (p0 &&& (3 : Int32)) (2 : Int32))), .val (.int (own_minI (p1 &&& (3 : Int32)) (2 : Int32))), .unset, .unset, .unset, .unset, .unset, .unset, .unset] [.null]))
    refine OwnFin.st (fun _ q => XS.astore X19.here hx rfl (hb hby at_76) rfl rfl (l' := #[.val (.int p0), .val (.int p1), .val (.int p2), .val (.int ((((p0.toUInt32 >>> ((8 : Int32) &&& 31).toUInt32).toInt32) &&& (255 : Int32)).toUInt32.toUInt16.toUInt32.toInt32)), .val (.ref b1), .val (.ref b10), .val (.int (own_minI (p0 &&& (3 : Int32)) (2 : Int32))), .val (.int (own_minI (p1 &&& (3 : Int32)) (2 : Int32))), .val .null, .unset, .unset, .unset, .unset, .unset, .unset]) rfl q) ?_
    show OwnFin _ _ _ _ (T19.setTop (mkF m 78 #[.val (.int p0), .val (.int p1), .val (.int p2), .val (.int ((((p0.toUInt32 >>> ((8 : Int32) &&& 31).toUInt32).toInt32) &&& (255 : Int32)).toUInt32.toUInt16.toUInt32.toInt32)), .val (.ref b1), .val (.ref b10), .val (.int (own_minI (p0 &&& (3 : Int32)) (2 : Int32))), .val (.int (own_minI (p1 &&& (3 : Int32)) (2 : Int32))), .val .null, .unset, .unset, .unset, .unset, .unset, .unset] []))
    refine OwnFin.st (fun _ q => XS.iloadN X19.here hx rfl (hb hby at_78) rfl q) ?_
    show OwnFin _ _ _ _ (T19.setTop (mkF m 79 #[.val (.int p0), .val (.int p1), .val (.int p2), .val (.int ((((p0.toUInt32 >>> ((8 : Int32) &&& 31).toUInt32).toInt32) &&& (255 : Int32)).toUInt32.toUInt16.toUInt32.toInt32)), .val (.ref b1), .val (.ref b10), .val (.int (own_minI (p0 &&& (3 : Int32)) (2 : Int32))), .val (.int (own_minI (p1 &&& (3 : Int32)) (2 : Int32))), .val .null, .unset, .unset, .unset, .unset, .unset, .unset] [(.int p2)]))
    refine OwnFin.st (fun _ q => XS.iconst X19.here hx rfl (hb hby at_79) q) ?_
    show OwnFin _ _ _ _ (T19.setTop (mkF m 80 #[.val (.int p0), .val (.int p1), .val (.int p2), .val (.int ((((p0.toUInt32 >>> ((8 : Int32) &&& 31).toUInt32).toInt32) &&& (255 : Int32)).toUInt32.toUInt16.toUInt32.toInt32)), .val (.ref b1), .val (.ref b10), .val (.int (own_minI (p0 &&& (3 : Int32)) (2 : Int32))), .val (.int (own_minI (p1 &&& (3 : Int32)) (2 : Int32))), .val .null, .unset, .unset, .unset, .unset, .unset, .unset] [(.int (2 : Int32)), (.int p2)]))
    refine OwnFin.st (fun _ q => XS.iushr X19.here hx rfl (hb hby at_80) rfl q) ?_
    show OwnFin _ _ _ _ (T19.setTop (mkF m 81 #[.val (.int p0), .val (.int p1), .val (.int p2), .val (.int ((((p0.toUInt32 >>> ((8 : Int32) &&& 31).toUInt32).toInt32) &&& (255 : Int32)).toUInt32.toUInt16.toUInt32.toInt32)), .val (.ref b1), .val (.ref b10), .val (.int (own_minI (p0 &&& (3 : Int32)) (2 : Int32))), .val (.int (own_minI (p1 &&& (3 : Int32)) (2 : Int32))), .val .null, .unset, .unset, .unset, .unset, .unset, .unset] [(.int ((p2.toUInt32 >>> ((2 : Int32) &&& 31).toUInt32).toInt32))]))
    refine OwnFin.st (fun _ q => XS.iconst X19.here hx rfl (hb hby at_81) q) ?_
    show OwnFin _ _ _ _ (T19.setTop (mkF m 82 #[.val (.int p0), .val (.int p1), .val (.int p2), .val (.int ((((p0.toUInt32 >>> ((8 : Int32) &&& 31).toUInt32).toInt32) &&& (255 : Int32)).toUInt32.toUInt16.toUInt32.toInt32)), .val (.ref b1), .val (.ref b10), .val (.int (own_minI (p0 &&& (3 : Int32)) (2 : Int32))), .val (.int (own_minI (p1 &&& (3 : Int32)) (2 : Int32))), .val .null, .unset, .unset, .unset, .unset, .unset, .unset] [(.int (1 : Int32)), (.int ((p2.toUInt32 >>> ((2 : Int32) &&& 31).toUInt32).toInt32))]))
    refine OwnFin.st (fun _ q => XS.iand X19.here hx rfl (hb hby at_82) rfl q) ?_
    show OwnFin _ _ _ _ (T19.setTop (mkF m 83 #[.val (.int p0), .val (.int p1), .val (.int p2), .val (.int ((((p0.toUInt32 >>> ((8 : Int32) &&& 31).toUInt32).toInt32) &&& (255 : Int32)).toUInt32.toUInt16.toUInt32.toInt32)), .val (.ref b1), .val (.ref b10), .val (.int (own_minI (p0 &&& (3 : Int32)) (2 : Int32))), .val (.int (own_minI (p1 &&& (3 : Int32)) (2 : Int32))), .val .null, .unset, .unset, .unset, .unset, .unset, .unset] [(.int (((p2.toUInt32 >>> ((2 : Int32) &&& 31).toUInt32).toInt32) &&& (1 : Int32)))]))
    by_cases hc21 : (((p2.toUInt32 >>> ((2 : Int32) &&& 31).toUInt32).toInt32) &&& (1 : Int32)) = (0 : Int32)
    · skip
      refine OwnFin.st (fun _ q => XS.ifYes X19.here hx rfl (pc0 := 83) (pc' := 93) rfl (hb hby at_83) rfl (Jvm.Free.XT.i0_eq_t hc21) (by decide) (by decide) q) ?_
      show OwnFin _ _ _ _ (T19.setTop (mkF m 93 #[.val (.int p0), .val (.int p1), .val (.int p2), .val (.int ((((p0.toUInt32 >>> ((8 : Int32) &&& 31).toUInt32).toInt32) &&& (255 : Int32)).toUInt32.toUInt16.toUInt32.toInt32)), .val (.ref b1), .val (.ref b10), .val (.int (own_minI (p0 &&& (3 : Int32)) (2 : Int32))), .val (.int (own_minI (p1 &&& (3 : Int32)) (2 : Int32))), .val .null, .unset, .unset, .unset, .unset, .unset, .unset] []))
      refine OwnFin.st (fun _ q => XS.aconstNull X19.here hx rfl (hb hby at_93) q) ?_
      show OwnFin _ _ _ _ (T19.setTop (mkF m 94 #[.val (.int p0), .val (.int p1), .val (.int p2), .val (.int ((((p0.toUInt32 >>> ((8 : Int32) &&& 31).toUInt32).toInt32) &&& (255 : Int32)).toUInt32.toUInt16.toUInt32.toInt32)), .val (.ref b1), .val (.ref b10), .val (.int (own_minI (p0 &&& (3 : Int32)) (2 : Int32))), .val (.int (own_minI (p1 &&& (3 : Int32)) (2 : Int32))), .val .null, .unset, .unset, .unset, .unset, .unset, .unset] [.null]))
      refine OwnFin.st (fun _ q => XS.astore X19.here hx rfl (hb hby at_94) rfl rfl (l' := #[.val (.int p0), .val (.int p1), .val (.int p2), .val (.int ((((p0.toUInt32 >>> ((8 : Int32) &&& 31).toUInt32).toInt32) &&& (255 : Int32)).toUInt32.toUInt16.toUInt32.toInt32)), .val (.ref b1), .val (.ref b10), .val (.int (own_minI (p0 &&& (3 : Int32)) (2 : Int32))), .val (.int (own_minI (p1 &&& (3 : Int32)) (2 : Int32))), .val .null, .val .null, .unset, .unset, .unset, .unset, .unset]) rfl q) ?_
      show OwnFin _ _ _ _ (T19.setTop (mkF m 96 #[.val (.int p0), .val (.int p1), .val (.int p2), .val (.int ((((p0.toUInt32 >>> ((8 : Int32) &&& 31).toUInt32).toInt32) &&& (255 : Int32)).toUInt32.toUInt16.toUInt32.toInt32)), .val (.ref b1), .val (.ref b10), .val (.int (own_minI (p0 &&& (3 : Int32)) (2 : Int32))), .val (.int (own_minI (p1 &&& (3 : Int32)) (2 : Int32))), .val .null, .val .null, .unset, .unset, .unset, .unset, .unset] []))
      obtain ⟨T22, h22, X22, e22, E22, A22, D22, -, st22⟩ := newO X19 hx hZ hown (hw _ (List.mem_of_getElem? (i := 34) rfl)) (hw _ (List.mem_of_getElem? (i := 35) rfl)) (hw _ (List.mem_of_getElem? (i := 36) rfl)) he19 (g := (mkF m 96 #[.val (.int p0), .val (.int p1), .val (.int p2), .val (.int ((((p0.toUInt32 >>> ((8 : Int32) &&& 31).toUInt32).toInt32) &&& (255 : Int32)).toUInt32.toUInt16.toUInt32.toInt32)), .val (.ref b1), .val (.ref b10), .val (.int (own_minI (p0 &&& (3 : Int32)) (2 : Int32))), .val (.int (own_minI (p1 &&& (3 : Int32)) (2 : Int32))), .val .null, .val .null, .unset, .unset, .unset, .unset, .unset] [])) rfl (hb hby at_96) (by decide) (by decide)
      obtain ⟨b22, qe22⟩ : ∃ z, z = h16.size := ⟨_, rfl⟩
      rw [← qe22] at A22 D22 st22
      refine OwnFin.st st22 ?_
      have bi_b22 : h16.size ≤ b22 := Nat.le_of_eq qe22.symm
      have lo_b22 : h0.size ≤ b22 := Nat.le_trans kp17.1 bi_b22
      have g_b22 : n0 ≤ b22 := Nat.le_trans Z0 lo_b22
      have kp23 : Keep h0 h22 [] := kp17.ext E22
      have ol23 : Old Z n0 h22 := ol17.ext E22
      have F_entity_b22 : Fld Z h22 b22 "com/example/nepean/nepean/session/PendingKey" "entity" "Ljava/lang/Object;" .null := D22 (Or.inr (hw _ (List.mem_of_getElem? (i := 46) rfl))) (ty := (.object "java/lang/Object")) (by decide)
      have F_id_b22 : Fld Z h22 b22 "com/example/nepean/nepean/session/PendingKey" "id" "Ljava/lang/Object;" .null := D22 (Or.inr (hw _ (List.mem_of_getElem? (i := 48) rfl))) (ty := (.object "java/lang/Object")) (by decide)
      show OwnFin _ _ _ _ (T22.setTop (mkF m 99 #[.val (.int p0), .val (.int p1), .val (.int p2), .val (.int ((((p0.toUInt32 >>> ((8 : Int32) &&& 31).toUInt32).toInt32) &&& (255 : Int32)).toUInt32.toUInt16.toUInt32.toInt32)), .val (.ref b1), .val (.ref b10), .val (.int (own_minI (p0 &&& (3 : Int32)) (2 : Int32))), .val (.int (own_minI (p1 &&& (3 : Int32)) (2 : Int32))), .val .null, .val .null, .unset, .unset, .unset, .unset, .unset] [(.ref b22)]))
      refine OwnFin.st (fun _ q => XS.dup X22.here hx rfl (hb hby at_99) rfl rfl q) ?_
      show OwnFin _ _ _ _ (T22.setTop (mkF m 100 #[.val (.int p0), .val (.int p1), .val (.int p2), .val (.int ((((p0.toUInt32 >>> ((8 : Int32) &&& 31).toUInt32).toInt32) &&& (255 : Int32)).toUInt32.toUInt16.toUInt32.toInt32)), .val (.ref b1), .val (.ref b10), .val (.int (own_minI (p0 &&& (3 : Int32)) (2 : Int32))), .val (.int (own_minI (p1 &&& (3 : Int32)) (2 : Int32))), .val .null, .val .null, .unset, .unset, .unset, .unset, .unset] [(.ref b22), (.ref b22)]))
      refine OwnFin.st (fun _ q => XS.iload X22.here hx rfl (hb hby at_100) rfl q) ?_
      show OwnFin _ _ _ _ (T22.setTop (mkF m 102 #[.val (.int p0), .val (.int p1), .val (.int p2), .val (.int ((((p0.toUInt32 >>> ((8 : Int32) &&& 31).toUInt32).toInt32) &&& (255 : Int32)).toUInt32.toUInt16.toUInt32.toInt32)), .val (.ref b1), .val (.ref b10), .val (.int (own_minI (p0 &&& (3 : Int32)) (2 : Int32))), .val (.int (own_minI (p1 &&& (3 : Int32)) (2 : Int32))), .val .null, .val .null, .unset, .unset, .unset, .unset, .unset] [(.int (own_minI (p0 &&& (3 : Int32)) (2 : Int32))), (.ref b22), (.ref b22)]))
      refine OwnFin.st (fun _ q => XS.aload X22.here hx rfl (hb hby at_102) rfl rfl q) ?_
      show OwnFin _ _ _ _ (T22.setTop (mkF m 104 #[.val (.int p0), .val (.int p1), .val (.int p2), .val (.int ((((p0.toUInt32 >>> ((8 : Int32) &&& 31).toUInt32).toInt32) &&& (255 : Int32)).toUInt32.toUInt16.toUInt32.toInt32)), .val (.ref b1), .val (.ref b10), .val (.int (own_minI (p0 &&& (3 : Int32)) (2 : Int32))), .val (.int (own_minI (p1 &&& (3 : Int32)) (2 : Int32))), .val .null, .val .null, .unset, .unset, .unset, .unset, .unset] [(.ref b1), (.int (own_minI (p0 &&& (3 : Int32)) (2 : Int32))), (.ref b22), (.ref b22)]))
      refine OwnFin.st (fun _ q => XS.aload X22.here hx rfl (hb hby at_104) rfl rfl q) ?_
      show OwnFin _ _ _ _ (T22.setTop (mkF m 106 #[.val (.int p0), .val (.int p1), .val (.int p2), .val (.int ((((p0.toUInt32 >>> ((8 : Int32) &&& 31).toUInt32).toInt32) &&& (255 : Int32)).toUInt32.toUInt16.toUInt32.toInt32)), .val (.ref b1), .val (.ref b10), .val (.int (own_minI (p0 &&& (3 : Int32)) (2 : Int32))), .val (.int (own_minI (p1 &&& (3 : Int32)) (2 : Int32))), .val .null, .val .null, .unset, .unset, .unset, .unset, .unset] [(.ref b10), (.ref b1), (.int (own_minI (p0 &&& (3 : Int32)) (2 : Int32))), (.ref b22), (.ref b22)]))
      obtain ⟨_, _, ⟨T24, L24, k24, n24⟩, -, X24, ⟨Lc24, hQ24, l24, y24, z24⟩, st24⟩ := Jvm.LawKit.callS X22 hx (y := (⟨"com/example/nepean/nepean/session/PendingKeyEqualsPinLaw", "pick", "(ILjava/lang/Object;Ljava/lang/Object;)Ljava/lang/Object;"⟩ : MethodName)) hown (mvT hZ (hw _ (List.mem_of_getElem? (i := 37) rfl))) (mvT hZ (hw _ (List.mem_of_getElem? (i := 38) rfl))) (mvT hZ (hw _ (List.mem_of_getElem? (i := 39) rfl))) (mvT hZ (hw _ (List.mem_of_getElem? (i := 40) rfl))) (by decide) (backOf (W := 2) (rm_pick l Z av0 hw [] (own_minI (p0 &&& (3 : Int32)) (2 : Int32)) b1 b10 h22 n0 (Nat.le_trans Z0 kp23.1) ) hZ (hw _ (List.mem_of_getElem? (i := 40) rfl)) (hw _ (List.mem_of_getElem? (i := 39) rfl)) (by decide) (by decide)) (g := (mkF m 106 #[.val (.int p0), .val (.int p1), .val (.int p2), .val (.int ((((p0.toUInt32 >>> ((8 : Int32) &&& 31).toUInt32).toInt32) &&& (255 : Int32)).toUInt32.toUInt16.toUInt32.toInt32)), .val (.ref b1), .val (.ref b10), .val (.int (own_minI (p0 &&& (3 : Int32)) (2 : Int32))), .val (.int (own_minI (p1 &&& (3 : Int32)) (2 : Int32))), .val .null, .val .null, .unset, .unset, .unset, .unset, .unset] [(.ref b10), (.ref b1), (.int (own_minI (p0 &&& (3 : Int32)) (2 : Int32))), (.ref b22), (.ref b22)])) rfl (by rw [hml]; rfl) (argsL := [(.int (own_minI (p0 &&& (3 : Int32)) (2 : Int32))), (.ref b1), (.ref b10)]) (rest := [(.ref b22), (.ref b22)]) (lenOf pd_8 rfl) rfl (by show 2 * 0 + _ ≤ _; exact Nat.le_of_eq rfl) (hb hby at_106) (fun _ _ => ⟨rfl, e22, (by decide : 7 + 0 ≤ _), (by decide : 14 + 0 ≤ _)⟩)
      dsimp only [Pt.U, Pt.locs, Pt.cells, Pt.slots] at X24 l24 y24 z24 st24 hQ24
      subst l24 y24 z24
      obtain ⟨rfl, N24q, he24⟩ := hQ24
      have N24 := Fr.app N19 N24q
      refine OwnFin.st st24 ?_
      show OwnFin _ _ _ _ (T24.setTop (mkF m 109 #[.val (.int p0), .val (.int p1), .val (.int p2), .val (.int ((((p0.toUInt32 >>> ((8 : Int32) &&& 31).toUInt32).toInt32) &&& (255 : Int32)).toUInt32.toUInt16.toUInt32.toInt32)), .val (.ref b1), .val (.ref b10), .val (.int (own_minI (p0 &&& (3 : Int32)) (2 : Int32))), .val (.int (own_minI (p1 &&& (3 : Int32)) (2 : Int32))), .val .null, .val .null, .unset, .unset, .unset, .unset, .unset] [(own_pick (own_minI (p0 &&& (3 : Int32)) (2 : Int32)) b1 b10), (.ref b22), (.ref b22)]))
      refine OwnFin.st (fun _ q => XS.aload X24.here hx rfl (hb hby at_109) rfl rfl q) ?_
      show OwnFin _ _ _ _ (T24.setTop (mkF m 111 #[.val (.int p0), .val (.int p1), .val (.int p2), .val (.int ((((p0.toUInt32 >>> ((8 : Int32) &&& 31).toUInt32).toInt32) &&& (255 : Int32)).toUInt32.toUInt16.toUInt32.toInt32)), .val (.ref b1), .val (.ref b10), .val (.int (own_minI (p0 &&& (3 : Int32)) (2 : Int32))), .val (.int (own_minI (p1 &&& (3 : Int32)) (2 : Int32))), .val .null, .val .null, .unset, .unset, .unset, .unset, .unset] [.null, (own_pick (own_minI (p0 &&& (3 : Int32)) (2 : Int32)) b1 b10), (.ref b22), (.ref b22)]))
      obtain ⟨_, _, ⟨T25, L25, k25, n25⟩, -, X25, ⟨Lc25, hQ25, l25, y25, z25⟩, st25⟩ := X24.specialBack hx (y := (⟨"com/example/nepean/nepean/session/PendingKey", "<init>", "(Ljava/lang/Object;Ljava/lang/Object;)V"⟩ : MethodName)) rfl hown (mvT hZ (hw _ (List.mem_of_getElem? (i := 41) rfl))) (mvT hZ (hw _ (List.mem_of_getElem? (i := 42) rfl))) (mvT hZ (hw _ (List.mem_of_getElem? (i := 43) rfl))) (by decide) (backOf (W := 1) (rm_pk2 l Z av0 hw [] b22 (own_pick (own_minI (p0 &&& (3 : Int32)) (2 : Int32)) b1 b10) .null .null h22 n0 (Nat.le_trans Z0 kp23.1) (own_pickr _ _ _) A22 F_entity_b22 g_b22 F_id_b22) hZ (hw _ (List.mem_of_getElem? (i := 43) rfl)) (hw _ (List.mem_of_getElem? (i := 36) rfl)) (by decide) (by decide)) (g := (mkF m 111 #[.val (.int p0), .val (.int p1), .val (.int p2), .val (.int ((((p0.toUInt32 >>> ((8 : Int32) &&& 31).toUInt32).toInt32) &&& (255 : Int32)).toUInt32.toUInt16.toUInt32.toInt32)), .val (.ref b1), .val (.ref b10), .val (.int (own_minI (p0 &&& (3 : Int32)) (2 : Int32))), .val (.int (own_minI (p1 &&& (3 : Int32)) (2 : Int32))), .val .null, .val .null, .unset, .unset, .unset, .unset, .unset] [.null, (own_pick (own_minI (p0 &&& (3 : Int32)) (2 : Int32)) b1 b10), (.ref b22), (.ref b22)])) rfl (by rw [hml]; rfl) (Steps.refl _) (a := b22) (argsL := [(own_pick (own_minI (p0 &&& (3 : Int32)) (2 : Int32)) b1 b10), .null]) (rest := [(.ref b22)]) (lenOf pd_9 rfl) rfl (by show 2 * 0 + _ ≤ _; exact Nat.le_of_eq rfl) (hb hby at_111) (fun _ _ => ⟨rfl, he24, (by decide : 7 + 0 ≤ _), (by decide : 14 + 0 ≤ _)⟩)
      dsimp only [Pt.U, Pt.locs, Pt.cells, Pt.slots] at X25 l25 y25 z25 st25 hQ25
      subst l25 y25 z25
      obtain ⟨rfl, N25q, K25, r25_0, r25_1⟩ := hQ25
      have N25 := Fr.app N24 N25q
      refine OwnFin.tr st25 ?_
      obtain ⟨h25, e25⟩ : ∃ z, T25.heap = z := ⟨_, rfl⟩
      rw [e25] at K25 r25_0 r25_1
      have kp26 : Keep h0 h25 [] := kp23.trans K25 (allS (Or.inr lo_b22) all0)
      have ol26 : Old Z n0 h25 := ol23.keep K25 (allS g_b22 all0)
      show OwnFin _ _ _ _ (T25.setTop (mkF m 114 #[.val (.int p0), .val (.int p1), .val (.int p2), .val (.int ((((p0.toUInt32 >>> ((8 : Int32) &&& 31).toUInt32).toInt32) &&& (255 : Int32)).toUInt32.toUInt16.toUInt32.toInt32)), .val (.ref b1), .val (.ref b10), .val (.int (own_minI (p0 &&& (3 : Int32)) (2 : Int32))), .val (.int (own_minI (p1 &&& (3 : Int32)) (2 : Int32))), .val .null, .val .null, .unset, .unset, .unset, .unset, .unset] [(.ref b22)]))
      refine OwnFin.st (fun _ q => XS.astore X25.here hx rfl (hb hby at_114) rfl rfl (l' := #[.val (.int p0), .val (.int p1), .val (.int p2), .val (.int ((((p0.toUInt32 >>> ((8 : Int32) &&& 31).toUInt32).toInt32) &&& (255 : Int32)).toUInt32.toUInt16.toUInt32.toInt32)), .val (.ref b1), .val (.ref b10), .val (.int (own_minI (p0 &&& (3 : Int32)) (2 : Int32))), .val (.int (own_minI (p1 &&& (3 : Int32)) (2 : Int32))), .val .null, .val .null, .val (.ref b22), .unset, .unset, .unset, .unset]) rfl q) ?_
      show OwnFin _ _ _ _ (T25.setTop (mkF m 116 #[.val (.int p0), .val (.int p1), .val (.int p2), .val (.int ((((p0.toUInt32 >>> ((8 : Int32) &&& 31).toUInt32).toInt32) &&& (255 : Int32)).toUInt32.toUInt16.toUInt32.toInt32)), .val (.ref b1), .val (.ref b10), .val (.int (own_minI (p0 &&& (3 : Int32)) (2 : Int32))), .val (.int (own_minI (p1 &&& (3 : Int32)) (2 : Int32))), .val .null, .val .null, .val (.ref b22), .unset, .unset, .unset, .unset] []))
      obtain ⟨T27, h27, X27, e27, E27, A27, D27, -, st27⟩ := newO X25 hx hZ hown (hw _ (List.mem_of_getElem? (i := 34) rfl)) (hw _ (List.mem_of_getElem? (i := 35) rfl)) (hw _ (List.mem_of_getElem? (i := 36) rfl)) e25 (g := (mkF m 116 #[.val (.int p0), .val (.int p1), .val (.int p2), .val (.int ((((p0.toUInt32 >>> ((8 : Int32) &&& 31).toUInt32).toInt32) &&& (255 : Int32)).toUInt32.toUInt16.toUInt32.toInt32)), .val (.ref b1), .val (.ref b10), .val (.int (own_minI (p0 &&& (3 : Int32)) (2 : Int32))), .val (.int (own_minI (p1 &&& (3 : Int32)) (2 : Int32))), .val .null, .val .null, .val (.ref b22), .unset, .unset, .unset, .unset] [])) rfl (hb hby at_116) (by decide) (by decide)
      obtain ⟨b27, qe27⟩ : ∃ z, z = h25.size := ⟨_, rfl⟩
      rw [← qe27] at A27 D27 st27
      refine OwnFin.st st27 ?_
      have bi_b27 : h25.size ≤ b27 := Nat.le_of_eq qe27.symm
      have lo_b27 : h0.size ≤ b27 := Nat.le_trans kp26.1 bi_b27
      have g_b27 : n0 ≤ b27 := Nat.le_trans Z0 lo_b27
      have kp28 : Keep h0 h27 [] := kp26.ext E27
      have ol28 : Old Z n0 h27 := ol26.ext E27
      have F_entity_b27 : Fld Z h27 b27 "com/example/nepean/nepean/session/PendingKey" "entity" "Ljava/lang/Object;" .null := D27 (Or.inr (hw _ (List.mem_of_getElem? (i := 46) rfl))) (ty := (.object "java/lang/Object")) (by decide)
      have F_id_b27 : Fld Z h27 b27 "com/example/nepean/nepean/session/PendingKey" "id" "Ljava/lang/Object;" .null := D27 (Or.inr (hw _ (List.mem_of_getElem? (i := 48) rfl))) (ty := (.object "java/lang/Object")) (by decide)
      show OwnFin _ _ _ _ (T27.setTop (mkF m 119 #[.val (.int p0), .val (.int p1), .val (.int p2), .val (.int ((((p0.toUInt32 >>> ((8 : Int32) &&& 31).toUInt32).toInt32) &&& (255 : Int32)).toUInt32.toUInt16.toUInt32.toInt32)), .val (.ref b1), .val (.ref b10), .val (.int (own_minI (p0 &&& (3 : Int32)) (2 : Int32))), .val (.int (own_minI (p1 &&& (3 : Int32)) (2 : Int32))), .val .null, .val .null, .val (.ref b22), .unset, .unset, .unset, .unset] [(.ref b27)]))
      refine OwnFin.st (fun _ q => XS.dup X27.here hx rfl (hb hby at_119) rfl rfl q) ?_
      show OwnFin _ _ _ _ (T27.setTop (mkF m 120 #[.val (.int p0), .val (.int p1), .val (.int p2), .val (.int ((((p0.toUInt32 >>> ((8 : Int32) &&& 31).toUInt32).toInt32) &&& (255 : Int32)).toUInt32.toUInt16.toUInt32.toInt32)), .val (.ref b1), .val (.ref b10), .val (.int (own_minI (p0 &&& (3 : Int32)) (2 : Int32))), .val (.int (own_minI (p1 &&& (3 : Int32)) (2 : Int32))), .val .null, .val .null, .val (.ref b22), .unset, .unset, .unset, .unset] [(.ref b27), (.ref b27)]))
      refine OwnFin.st (fun _ q => XS.iload X27.here hx rfl (hb hby at_120) rfl q) ?_
      show OwnFin _ _ _ _ (T27.setTop (mkF m 122 #[.val (.int p0), .val (.int p1), .val (.int p2), .val (.int ((((p0.toUInt32 >>> ((8 : Int32) &&& 31).toUInt32).toInt32) &&& (255 : Int32)).toUInt32.toUInt16.toUInt32.toInt32)), .val (.ref b1), .val (.ref b10), .val (.int (own_minI (p0 &&& (3 : Int32)) (2 : Int32))), .val (.int (own_minI (p1 &&& (3 : Int32)) (2 : Int32))), .val .null, .val .null, .val (.ref b22), .unset, .unset, .unset, .unset] [(.int (own_minI (p1 &&& (3 : Int32)) (2 : Int32))), (.ref b27), (.ref b27)]))
      refine OwnFin.st (fun _ q => XS.aload X27.here hx rfl (hb hby at_122) rfl rfl q) ?_
      show OwnFin _ _ _ _ (T27.setTop (mkF m 124 #[.val (.int p0), .val (.int p1), .val (.int p2), .val (.int ((((p0.toUInt32 >>> ((8 : Int32) &&& 31).toUInt32).toInt32) &&& (255 : Int32)).toUInt32.toUInt16.toUInt32.toInt32)), .val (.ref b1), .val (.ref b10), .val (.int (own_minI (p0 &&& (3 : Int32)) (2 : Int32))), .val (.int (own_minI (p1 &&& (3 : Int32)) (2 : Int32))), .val .null, .val .null, .val (.ref b22), .unset, .unset, .unset, .unset] [(.ref b1), (.int (own_minI (p1 &&& (3 : Int32)) (2 : Int32))), (.ref b27), (.ref b27)]))
      refine OwnFin.st (fun _ q => XS.aload X27.here hx rfl (hb hby at_124) rfl rfl q) ?_
      show OwnFin _ _ _ _ (T27.setTop (mkF m 126 #[.val (.int p0), .val (.int p1), .val (.int p2), .val (.int ((((p0.toUInt32 >>> ((8 : Int32) &&& 31).toUInt32).toInt32) &&& (255 : Int32)).toUInt32.toUInt16.toUInt32.toInt32)), .val (.ref b1), .val (.ref b10), .val (.int (own_minI (p0 &&& (3 : Int32)) (2 : Int32))), .val (.int (own_minI (p1 &&& (3 : Int32)) (2 : Int32))), .val .null, .val .null, .val (.ref b22), .unset, .unset, .unset, .unset] [(.ref b10), (.ref b1), (.int (own_minI (p1 &&& (3 : Int32)) (2 : Int32))), (.ref b27), (.ref b27)]))
      obtain ⟨_, _, ⟨T29, L29, k29, n29⟩, -, X29, ⟨Lc29, hQ29, l29, y29, z29⟩, st29⟩ := Jvm.LawKit.callS X27 hx (y := (⟨"com/example/nepean/nepean/session/PendingKeyEqualsPinLaw", "pick", "(ILjava/lang/Object;Ljava/lang/Object;)Ljava/lang/Object;"⟩ : MethodName)) hown (mvT hZ (hw _ (List.mem_of_getElem? (i := 37) rfl))) (mvT hZ (hw _ (List.mem_of_getElem? (i := 38) rfl))) (mvT hZ (hw _ (List.mem_of_getElem? (i := 39) rfl))) (mvT hZ (hw _ (List.mem_of_getElem? (i := 40) rfl))) (by decide) (backOf (W := 2) (rm_pick l Z av0 hw [] (own_minI (p1 &&& (3 : Int32)) (2 : Int32)) b1 b10 h27 n0 (Nat.le_trans Z0 kp28.1) ) hZ (hw _ (List.mem_of_getElem? (i := 40) rfl)) (hw _ (List.mem_of_getElem? (i := 39) rfl)) (by decide) (by decide)) (g := (mkF m 126 #[.val (.int p0), .val (.int p1), .val (.int p2), .val (.int ((((p0.toUInt32 >>> ((8 : Int32) &&& 31).toUInt32).toInt32) &&& (255 : Int32)).toUInt32.toUInt16.toUInt32.toInt32)), .val (.ref b1), .val (.ref b10), .val (.int (own_minI (p0 &&& (3 : Int32)) (2 : Int32))), .val (.int (own_minI (p1 &&& (3 : Int32)) (2 : Int32))), .val .null, .val .null, .val (.ref b22), .unset, .unset, .unset, .unset] [(.ref b10), (.ref b1), (.int (own_minI (p1 &&& (3 : Int32)) (2 : Int32))), (.ref b27), (.ref b27)])) rfl (by rw [hml]; rfl) (argsL := [(.int (own_minI (p1 &&& (3 : Int32)) (2 : Int32))), (.ref b1), (.ref b10)]) (rest := [(.ref b27), (.ref b27)]) (lenOf pd_8 rfl) rfl (by show 2 * 0 + _ ≤ _; exact Nat.le_of_eq rfl) (hb hby at_126) (fun _ _ => ⟨rfl, e27, (by decide : 8 + 0 ≤ _), (by decide : 16 + 0 ≤ _)⟩)
      dsimp only [Pt.U, Pt.locs, Pt.cells, Pt.slots] at X29 l29 y29 z29 st29 hQ29
      subst l29 y29 z29
      obtain ⟨rfl, N29q, he29⟩ := hQ29
      have N29 := Fr.app N25 N29q
      refine OwnFin.st st29 ?_
      show OwnFin _ _ _ _ (T29.setTop (mkF m 129 #[.val (.int p0), .val (.int p1), .val (.int p2), .val (.int ((((p0.toUInt32 >>> ((8 : Int32) &&& 31).toUInt32).toInt32) &&& (255 : Int32)).toUInt32.toUInt16.toUInt32.toInt32)), .val (.ref b1), .val (.ref b10), .val (.int (own_minI (p0 &&& (3 : Int32)) (2 : Int32))), .val (.int (own_minI (p1 &&& (3 : Int32)) (2 : Int32))), .val .null, .val .null, .val (.ref b22), .unset, .unset, .unset, .unset] [(own_pick (own_minI (p1 &&& (3 : Int32)) (2 : Int32)) b1 b10), (.ref b27), (.ref b27)]))
      refine OwnFin.st (fun _ q => XS.aload X29.here hx rfl (hb hby at_129) rfl rfl q) ?_
      show OwnFin _ _ _ _ (T29.setTop (mkF m 131 #[.val (.int p0), .val (.int p1), .val (.int p2), .val (.int ((((p0.toUInt32 >>> ((8 : Int32) &&& 31).toUInt32).toInt32) &&& (255 : Int32)).toUInt32.toUInt16.toUInt32.toInt32)), .val (.ref b1), .val (.ref b10), .val (.int (own_minI (p0 &&& (3 : Int32)) (2 : Int32))), .val (.int (own_minI (p1 &&& (3 : Int32)) (2 : Int32))), .val .null, .val .null, .val (.ref b22), .unset, .unset, .unset, .unset] [.null, (own_pick (own_minI (p1 &&& (3 : Int32)) (2 : Int32)) b1 b10), (.ref b27), (.ref b27)]))
      obtain ⟨_, _, ⟨T30, L30, k30, n30⟩, -, X30, ⟨Lc30, hQ30, l30, y30, z30⟩, st30⟩ := X29.specialBack hx (y := (⟨"com/example/nepean/nepean/session/PendingKey", "<init>", "(Ljava/lang/Object;Ljava/lang/Object;)V"⟩ : MethodName)) rfl hown (mvT hZ (hw _ (List.mem_of_getElem? (i := 41) rfl))) (mvT hZ (hw _ (List.mem_of_getElem? (i := 42) rfl))) (mvT hZ (hw _ (List.mem_of_getElem? (i := 43) rfl))) (by decide) (backOf (W := 1) (rm_pk2 l Z av0 hw [] b27 (own_pick (own_minI (p1 &&& (3 : Int32)) (2 : Int32)) b1 b10) .null .null h27 n0 (Nat.le_trans Z0 kp28.1) (own_pickr _ _ _) A27 F_entity_b27 g_b27 F_id_b27) hZ (hw _ (List.mem_of_getElem? (i := 43) rfl)) (hw _ (List.mem_of_getElem? (i := 36) rfl)) (by decide) (by decide)) (g := (mkF m 131 #[.val (.int p0), .val (.int p1), .val (.int p2), .val (.int ((((p0.toUInt32 >>> ((8 : Int32) &&& 31).toUInt32).toInt32) &&& (255 : Int32)).toUInt32.toUInt16.toUInt32.toInt32)), .val (.ref b1), .val (.ref b10), .val (.int (own_minI (p0 &&& (3 : Int32)) (2 : Int32))), .val (.int (own_minI (p1 &&& (3 : Int32)) (2 : Int32))), .val .null, .val .null, .val (.ref b22), .unset, .unset, .unset, .unset] [.null, (own_pick (own_minI (p1 &&& (3 : Int32)) (2 : Int32)) b1 b10), (.ref b27), (.ref b27)])) rfl (by rw [hml]; rfl) (Steps.refl _) (a := b27) (argsL := [(own_pick (own_minI (p1 &&& (3 : Int32)) (2 : Int32)) b1 b10), .null]) (rest := [(.ref b27)]) (lenOf pd_9 rfl) rfl (by show 2 * 0 + _ ≤ _; exact Nat.le_of_eq rfl) (hb hby at_131) (fun _ _ => ⟨rfl, he29, (by decide : 8 + 0 ≤ _), (by decide : 16 + 0 ≤ _)⟩)
      dsimp only [Pt.U, Pt.locs, Pt.cells, Pt.slots] at X30 l30 y30 z30 st30 hQ30
      subst l30 y30 z30
      obtain ⟨rfl, N30q, K30, r30_0, r30_1⟩ := hQ30
      have N30 := Fr.app N29 N30q
      refine OwnFin.tr st30 ?_
      obtain ⟨h30, e30⟩ : ∃ z, T30.heap = z := ⟨_, rfl⟩
      rw [e30] at K30 r30_0 r30_1
      have kp31 : Keep h0 h30 [] := kp28.trans K30 (allS (Or.inr lo_b27) all0)
      have ol31 : Old Z n0 h30 := ol28.keep K30 (allS g_b27 all0)
      show OwnFin _ _ _ _ (T30.setTop (mkF m 134 #[.val (.int p0), .val (.int p1), .val (.int p2), .val (.int ((((p0.toUInt32 >>> ((8 : Int32) &&& 31).toUInt32).toInt32) &&& (255 : Int32)).toUInt32.toUInt16.toUInt32.toInt32)), .val (.ref b1), .val (.ref b10), .val (.int (own_minI (p0 &&& (3 : Int32)) (2 : Int32))), .val (.int (own_minI (p1 &&& (3 : Int32)) (2 : Int32))), .val .null, .val .null, .val (.ref b22), .unset, .unset, .unset, .unset] [(.ref b27)]))
      refine OwnFin.st (fun _ q => XS.astore X30.here hx rfl (hb hby at_134) rfl rfl (l' := #[.val (.int p0), .val (.int p1), .val (.int p2), .val (.int ((((p0.toUInt32 >>> ((8 : Int32) &&& 31).toUInt32).toInt32) &&& (255 : Int32)).toUInt32.toUInt16.toUInt32.toInt32)), .val (.ref b1), .val (.ref b10), .val (.int (own_minI (p0 &&& (3 : Int32)) (2 : Int32))), .val (.int (own_minI (p1 &&& (3 : Int32)) (2 : Int32))), .val .null, .val .null, .val (.ref b22), .val (.ref b27), .unset, .unset, .unset]) rfl q) ?_
      show OwnFin _ _ _ _ (T30.setTop (mkF m 136 #[.val (.int p0), .val (.int p1), .val (.int p2), .val (.int ((((p0.toUInt32 >>> ((8 : Int32) &&& 31).toUInt32).toInt32) &&& (255 : Int32)).toUInt32.toUInt16.toUInt32.toInt32)), .val (.ref b1), .val (.ref b10), .val (.int (own_minI (p0 &&& (3 : Int32)) (2 : Int32))), .val (.int (own_minI (p1 &&& (3 : Int32)) (2 : Int32))), .val .null, .val .null, .val (.ref b22), .val (.ref b27), .unset, .unset, .unset] []))
      refine OwnFin.st (fun _ q => XS.iloadN X30.here hx rfl (hb hby at_136) rfl q) ?_
      show OwnFin _ _ _ _ (T30.setTop (mkF m 137 #[.val (.int p0), .val (.int p1), .val (.int p2), .val (.int ((((p0.toUInt32 >>> ((8 : Int32) &&& 31).toUInt32).toInt32) &&& (255 : Int32)).toUInt32.toUInt16.toUInt32.toInt32)), .val (.ref b1), .val (.ref b10), .val (.int (own_minI (p0 &&& (3 : Int32)) (2 : Int32))), .val (.int (own_minI (p1 &&& (3 : Int32)) (2 : Int32))), .val .null, .val .null, .val (.ref b22), .val (.ref b27), .unset, .unset, .unset] [(.int p2)]))
      refine OwnFin.st (fun _ q => XS.iconst X30.here hx rfl (hb hby at_137) q) ?_
      show OwnFin _ _ _ _ (T30.setTop (mkF m 138 #[.val (.int p0), .val (.int p1), .val (.int p2), .val (.int ((((p0.toUInt32 >>> ((8 : Int32) &&& 31).toUInt32).toInt32) &&& (255 : Int32)).toUInt32.toUInt16.toUInt32.toInt32)), .val (.ref b1), .val (.ref b10), .val (.int (own_minI (p0 &&& (3 : Int32)) (2 : Int32))), .val (.int (own_minI (p1 &&& (3 : Int32)) (2 : Int32))), .val .null, .val .null, .val (.ref b22), .val (.ref b27), .unset, .unset, .unset] [(.int (3 : Int32)), (.int p2)]))
      refine OwnFin.st (fun _ q => XS.iand X30.here hx rfl (hb hby at_138) rfl q) ?_
      show OwnFin _ _ _ _ (T30.setTop (mkF m 139 #[.val (.int p0), .val (.int p1), .val (.int p2), .val (.int ((((p0.toUInt32 >>> ((8 : Int32) &&& 31).toUInt32).toInt32) &&& (255 : Int32)).toUInt32.toUInt16.toUInt32.toInt32)), .val (.ref b1), .val (.ref b10), .val (.int (own_minI (p0 &&& (3 : Int32)) (2 : Int32))), .val (.int (own_minI (p1 &&& (3 : Int32)) (2 : Int32))), .val .null, .val .null, .val (.ref b22), .val (.ref b27), .unset, .unset, .unset] [(.int (p2 &&& (3 : Int32)))]))
      refine OwnFin.st (fun _ q => XS.istore X30.here hx rfl (hb hby at_139) rfl (l' := #[.val (.int p0), .val (.int p1), .val (.int p2), .val (.int ((((p0.toUInt32 >>> ((8 : Int32) &&& 31).toUInt32).toInt32) &&& (255 : Int32)).toUInt32.toUInt16.toUInt32.toInt32)), .val (.ref b1), .val (.ref b10), .val (.int (own_minI (p0 &&& (3 : Int32)) (2 : Int32))), .val (.int (own_minI (p1 &&& (3 : Int32)) (2 : Int32))), .val .null, .val .null, .val (.ref b22), .val (.ref b27), .val (.int (p2 &&& (3 : Int32))), .unset, .unset]) rfl q) ?_
      show OwnFin _ _ _ _ (T30.setTop (mkF m 141 #[.val (.int p0), .val (.int p1), .val (.int p2), .val (.int ((((p0.toUInt32 >>> ((8 : Int32) &&& 31).toUInt32).toInt32) &&& (255 : Int32)).toUInt32.toUInt16.toUInt32.toInt32)), .val (.ref b1), .val (.ref b10), .val (.int (own_minI (p0 &&& (3 : Int32)) (2 : Int32))), .val (.int (own_minI (p1 &&& (3 : Int32)) (2 : Int32))), .val .null, .val .null, .val (.ref b22), .val (.ref b27), .val (.int (p2 &&& (3 : Int32))), .unset, .unset] []))
      refine OwnFin.st (fun _ q => XS.iload X30.here hx rfl (hb hby at_141) rfl q) ?_
      show OwnFin _ _ _ _ (T30.setTop (mkF m 143 #[.val (.int p0), .val (.int p1), .val (.int p2), .val (.int ((((p0.toUInt32 >>> ((8 : Int32) &&& 31).toUInt32).toInt32) &&& (255 : Int32)).toUInt32.toUInt16.toUInt32.toInt32)), .val (.ref b1), .val (.ref b10), .val (.int (own_minI (p0 &&& (3 : Int32)) (2 : Int32))), .val (.int (own_minI (p1 &&& (3 : Int32)) (2 : Int32))), .val .null, .val .null, .val (.ref b22), .val (.ref b27), .val (.int (p2 &&& (3 : Int32))), .unset, .unset] [(.int (p2 &&& (3 : Int32)))]))
      by_cases hc32 : (p2 &&& (3 : Int32)) = (0 : Int32)
      · skip
        refine OwnFin.st (fun _ q => XS.ifNo X30.here hx rfl (hb hby at_143) rfl (Jvm.Free.XT.i0_ne_f hc32) q) ?_
        show OwnFin _ _ _ _ (T30.setTop (mkF m 146 #[.val (.int p0), .val (.int p1), .val (.int p2), .val (.int ((((p0.toUInt32 >>> ((8 : Int32) &&& 31).toUInt32).toInt32) &&& (255 : Int32)).toUInt32.toUInt16.toUInt32.toInt32)), .val (.ref b1), .val (.ref b10), .val (.int (own_minI (p0 &&& (3 : Int32)) (2 : Int32))), .val (.int (own_minI (p1 &&& (3 : Int32)) (2 : Int32))), .val .null, .val .null, .val (.ref b22), .val (.ref b27), .val (.int (p2 &&& (3 : Int32))), .unset, .unset] []))
        refine OwnFin.st (fun _ q => XS.aload X30.here hx rfl (hb hby at_146) rfl rfl q) ?_
        show OwnFin _ _ _ _ (T30.setTop (mkF m 148 #[.val (.int p0), .val (.int p1), .val (.int p2), .val (.int ((((p0.toUInt32 >>> ((8 : Int32) &&& 31).toUInt32).toInt32) &&& (255 : Int32)).toUInt32.toUInt16.toUInt32.toInt32)), .val (.ref b1), .val (.ref b10), .val (.int (own_minI (p0 &&& (3 : Int32)) (2 : Int32))), .val (.int (own_minI (p1 &&& (3 : Int32)) (2 : Int32))), .val .null, .val .null, .val (.ref b22), .val (.ref b27), .val (.int (p2 &&& (3 : Int32))), .unset, .unset] [(.ref b27)]))
        refine OwnFin.st (fun _ q => XS.astore X30.here hx rfl (hb hby at_148) rfl rfl (l' := #[.val (.int p0), .val (.int p1), .val (.int p2), .val (.int ((((p0.toUInt32 >>> ((8 : Int32) &&& 31).toUInt32).toInt32) &&& (255 : Int32)).toUInt32.toUInt16.toUInt32.toInt32)), .val (.ref b1), .val (.ref b10), .val (.int (own_minI (p0 &&& (3 : Int32)) (2 : Int32))), .val (.int (own_minI (p1 &&& (3 : Int32)) (2 : Int32))), .val .null, .val .null, .val (.ref b22), .val (.ref b27), .val (.int (p2 &&& (3 : Int32))), .val (.ref b27), .unset]) rfl q) ?_
        show OwnFin _ _ _ _ (T30.setTop (mkF m 150 #[.val (.int p0), .val (.int p1), .val (.int p2), .val (.int ((((p0.toUInt32 >>> ((8 : Int32) &&& 31).toUInt32).toInt32) &&& (255 : Int32)).toUInt32.toUInt16.toUInt32.toInt32)), .val (.ref b1), .val (.ref b10), .val (.int (own_minI (p0 &&& (3 : Int32)) (2 : Int32))), .val (.int (own_minI (p1 &&& (3 : Int32)) (2 : Int32))), .val .null, .val .null, .val (.ref b22), .val (.ref b27), .val (.int (p2 &&& (3 : Int32))), .val (.ref b27), .unset] []))
        refine OwnFin.st (fun _ q => XS.iload X30.here hx rfl (hb hby at_150) rfl q) ?_
        show OwnFin _ _ _ _ (T30.setTop (mkF m 152 #[.val (.int p0), .val (.int p1), .val (.int p2), .val (.int ((((p0.toUInt32 >>> ((8 : Int32) &&& 31).toUInt32).toInt32) &&& (255 : Int32)).toUInt32.toUInt16.toUInt32.toInt32)), .val (.ref b1), .val (.ref b10), .val (.int (own_minI (p0 &&& (3 : Int32)) (2 : Int32))), .val (.int (own_minI (p1 &&& (3 : Int32)) (2 : Int32))), .val .null, .val .null, .val (.ref b22), .val (.ref b27), .val (.int (p2 &&& (3 : Int32))), .val (.ref b27), .unset] [(.int (own_minI (p0 &&& (3 : Int32)) (2 : Int32)))]))
        refine OwnFin.st (fun _ q => XS.iload X30.here hx rfl (hb hby at_152) rfl q) ?_
        show OwnFin _ _ _ _ (T30.setTop (mkF m 154 #[.val (.int p0), .val (.int p1), .val (.int p2), .val (.int ((((p0.toUInt32 >>> ((8 : Int32) &&& 31).toUInt32).toInt32) &&& (255 : Int32)).toUInt32.toUInt16.toUInt32.toInt32)), .val (.ref b1), .val (.ref b10), .val (.int (own_minI (p0 &&& (3 : Int32)) (2 : Int32))), .val (.int (own_minI (p1 &&& (3 : Int32)) (2 : Int32))), .val .null, .val .null, .val (.ref b22), .val (.ref b27), .val (.int (p2 &&& (3 : Int32))), .val (.ref b27), .unset] [(.int (own_minI (p1 &&& (3 : Int32)) (2 : Int32))), (.int (own_minI (p0 &&& (3 : Int32)) (2 : Int32)))]))
        by_cases hc33 : (own_minI (p0 &&& (3 : Int32)) (2 : Int32)) = (own_minI (p1 &&& (3 : Int32)) (2 : Int32))
        · skip
          refine OwnFin.st (fun _ q => XS.icmpNo X30.here hx rfl (hb hby at_154) rfl (Jvm.Free.XT.ii_ne_f hc33) q) ?_
          show OwnFin _ _ _ _ (T30.setTop (mkF m 157 #[.val (.int p0), .val (.int p1), .val (.int p2), .val (.int ((((p0.toUInt32 >>> ((8 : Int32) &&& 31).toUInt32).toInt32) &&& (255 : Int32)).toUInt32.toUInt16.toUInt32.toInt32)), .val (.ref b1), .val (.ref b10), .val (.int (own_minI (p0 &&& (3 : Int32)) (2 : Int32))), .val (.int (own_minI (p1 &&& (3 : Int32)) (2 : Int32))), .val .null, .val .null, .val (.ref b22), .val (.ref b27), .val (.int (p2 &&& (3 : Int32))), .val (.ref b27), .unset] []))
          refine OwnFin.st (fun _ q => XS.iconst X30.here hx rfl (hb hby at_157) q) ?_
          show OwnFin _ _ _ _ (T30.setTop (mkF m 158 #[.val (.int p0), .val (.int p1), .val (.int p2), .val (.int ((((p0.toUInt32 >>> ((8 : Int32) &&& 31).toUInt32).toInt32) &&& (255 : Int32)).toUInt32.toUInt16.toUInt32.toInt32)), .val (.ref b1), .val (.ref b10), .val (.int (own_minI (p0 &&& (3 : Int32)) (2 : Int32))), .val (.int (own_minI (p1 &&& (3 : Int32)) (2 : Int32))), .val .null, .val .null, .val (.ref b22), .val (.ref b27), .val (.int (p2 &&& (3 : Int32))), .val (.ref b27), .unset] [(.int (1 : Int32))]))
          refine OwnFin.st (fun _ q => XS.goto X30.here hx rfl (pc0 := 158) (pc' := 162) rfl (hb hby at_158) (by decide) (by decide) q) ?_
          show OwnFin _ _ _ _ (T30.setTop (mkF m 162 #[.val (.int p0), .val (.int p1), .val (.int p2), .val (.int ((((p0.toUInt32 >>> ((8 : Int32) &&& 31).toUInt32).toInt32) &&& (255 : Int32)).toUInt32.toUInt16.toUInt32.toInt32)), .val (.ref b1), .val (.ref b10), .val (.int (own_minI (p0 &&& (3 : Int32)) (2 : Int32))), .val (.int (own_minI (p1 &&& (3 : Int32)) (2 : Int32))), .val .null, .val .null, .val (.ref b22), .val (.ref b27), .val (.int (p2 &&& (3 : Int32))), .val (.ref b27), .unset] [(.int (1 : Int32))]))
          refine OwnFin.st (fun _ q => XS.istore X30.here hx rfl (hb hby at_162) rfl (l' := #[.val (.int p0), .val (.int p1), .val (.int p2), .val (.int ((((p0.toUInt32 >>> ((8 : Int32) &&& 31).toUInt32).toInt32) &&& (255 : Int32)).toUInt32.toUInt16.toUInt32.toInt32)), .val (.ref b1), .val (.ref b10), .val (.int (own_minI (p0 &&& (3 : Int32)) (2 : Int32))), .val (.int (own_minI (p1 &&& (3 : Int32)) (2 : Int32))), .val .null, .val .null, .val (.ref b22), .val (.ref b27), .val (.int (p2 &&& (3 : Int32))), .val (.ref b27), .val (.int (1 : Int32))]) rfl q) ?_
          show OwnFin _ _ _ _ (T30.setTop (mkF m 164 #[.val (.int p0), .val (.int p1), .val (.int p2), .val (.int ((((p0.toUInt32 >>> ((8 : Int32) &&& 31).toUInt32).toInt32) &&& (255 : Int32)).toUInt32.toUInt16.toUInt32.toInt32)), .val (.ref b1), .val (.ref b10), .val (.int (own_minI (p0 &&& (3 : Int32)) (2 : Int32))), .val (.int (own_minI (p1 &&& (3 : Int32)) (2 : Int32))), .val .null, .val .null, .val (.ref b22), .val (.ref b27), .val (.int (p2 &&& (3 : Int32))), .val (.ref b27), .val (.int (1 : Int32))] []))
          refine OwnFin.st (fun _ q => XS.goto X30.here hx rfl (pc0 := 164) (pc' := 212) rfl (hb hby at_164) (by decide) (by decide) q) ?_
          show OwnFin _ _ _ _ (T30.setTop (mkF m 212 #[.val (.int p0), .val (.int p1), .val (.int p2), .val (.int ((((p0.toUInt32 >>> ((8 : Int32) &&& 31).toUInt32).toInt32) &&& (255 : Int32)).toUInt32.toUInt16.toUInt32.toInt32)), .val (.ref b1), .val (.ref b10), .val (.int (own_minI (p0 &&& (3 : Int32)) (2 : Int32))), .val (.int (own_minI (p1 &&& (3 : Int32)) (2 : Int32))), .val .null, .val .null, .val (.ref b22), .val (.ref b27), .val (.int (p2 &&& (3 : Int32))), .val (.ref b27), .val (.int (1 : Int32))] []))
          refine OwnFin.st (fun _ q => XS.aload X30.here hx rfl (hb hby at_212) rfl rfl q) ?_
          show OwnFin _ _ _ _ (T30.setTop (mkF m 214 #[.val (.int p0), .val (.int p1), .val (.int p2), .val (.int ((((p0.toUInt32 >>> ((8 : Int32) &&& 31).toUInt32).toInt32) &&& (255 : Int32)).toUInt32.toUInt16.toUInt32.toInt32)), .val (.ref b1), .val (.ref b10), .val (.int (own_minI (p0 &&& (3 : Int32)) (2 : Int32))), .val (.int (own_minI (p1 &&& (3 : Int32)) (2 : Int32))), .val .null, .val .null, .val (.ref b22), .val (.ref b27), .val (.int (p2 &&& (3 : Int32))), .val (.ref b27), .val (.int (1 : Int32))] [(.ref b22)]))
          refine OwnFin.st (fun _ q => XS.aload X30.here hx rfl (hb hby at_214) rfl rfl q) ?_
          show OwnFin _ _ _ _ (T30.setTop (mkF m 216 #[.val (.int p0), .val (.int p1), .val (.int p2), .val (.int ((((p0.toUInt32 >>> ((8 : Int32) &&& 31).toUInt32).toInt32) &&& (255 : Int32)).toUInt32.toUInt16.toUInt32.toInt32)), .val (.ref b1), .val (.ref b10), .val (.int (own_minI (p0 &&& (3 : Int32)) (2 : Int32))), .val (.int (own_minI (p1 &&& (3 : Int32)) (2 : Int32))), .val .null, .val .null, .val (.ref b22), .val (.ref b27), .val (.int (p2 &&& (3 : Int32))), .val (.ref b27), .val (.int (1 : Int32))] [(.ref b27), (.ref b22)]))
          obtain ⟨cq34, kq34, q34a, q34b, q34c⟩ := isOf hZ e30 (((A22.keep K25).ext E27).keep K30)
          obtain ⟨_, _, ⟨T34, L34, k34, n34⟩, -, X34, ⟨Lc34, hQ34, l34, y34, z34⟩, st34⟩ := X30.virtualBack hx (y := (⟨"com/example/nepean/nepean/session/PendingKey", "equals", "(Ljava/lang/Object;)Z"⟩ : MethodName)) (z := (⟨"com/example/nepean/nepean/session/PendingKey", "equals", "(Ljava/lang/Object;)Z"⟩ : MethodName)) hown (mvT hZ (hw _ (List.mem_of_getElem? (i := 49) rfl))) (mvT hZ (hw _ (List.mem_of_getElem? (i := 50) rfl))) (notFace_of_selects (args := #[]) (mvT hZ (hw _ (List.mem_of_getElem? (i := 52) rfl)))) (mvT hZ (hw _ (List.mem_of_getElem? (i := 52) rfl))) (mvT hZ (hw _ (List.mem_of_getElem? (i := 51) rfl))) (by decide) (backOf (W := 0) (rm_eqPT l Z av0 hw [] b22 b27 (own_pick (own_minI (p1 &&& (3 : Int32)) (2 : Int32)) b1 b10) (own_pick (own_minI (p0 &&& (3 : Int32)) (2 : Int32)) b1 b10) h30 n0 (Nat.le_trans Z0 kp31.1) (A27.keep K30) r30_0 ((r25_0.ext E27).keep K30 (ninS (Nat.ne_of_lt (Nat.lt_of_lt_of_le (A22.keep K25).lt bi_b27)) nin0)) (congrArg (fun z => own_pick z b1 b10) (Eq.symm hc33)) (own_pickr _ _ _) (own_pickr _ _ _)) hZ (hw _ (List.mem_of_getElem? (i := 53) rfl)) (hw _ (List.mem_of_getElem? (i := 36) rfl)) (by decide) (by decide)) q34a q34c (g := (mkF m 216 #[.val (.int p0), .val (.int p1), .val (.int p2), .val (.int ((((p0.toUInt32 >>> ((8 : Int32) &&& 31).toUInt32).toInt32) &&& (255 : Int32)).toUInt32.toUInt16.toUInt32.toInt32)), .val (.ref b1), .val (.ref b10), .val (.int (own_minI (p0 &&& (3 : Int32)) (2 : Int32))), .val (.int (own_minI (p1 &&& (3 : Int32)) (2 : Int32))), .val .null, .val .null, .val (.ref b22), .val (.ref b27), .val (.int (p2 &&& (3 : Int32))), .val (.ref b27), .val (.int (1 : Int32))] [(.ref b27), (.ref b22)])) rfl (by rw [hml]; rfl) (Steps.refl _) (argsL := [(.ref b27)]) (rest := []) (lenOf pd_10 rfl) rfl (by show 2 * 0 + _ ≤ _; exact Nat.le_of_eq rfl) (hb hby at_216) (fun _ _ => ⟨rfl, e30, (by decide : 8 + 0 ≤ _), (by decide : 16 + 0 ≤ _)⟩)
          dsimp only [Pt.U, Pt.locs, Pt.cells, Pt.slots] at X34 l34 y34 z34 st34 hQ34
          subst l34 y34 z34
          obtain ⟨rfl, N34q, he34⟩ := hQ34
          have N34 := Fr.app N30 N34q
          refine OwnFin.tr st34 ?_
          show OwnFin _ _ _ _ (T34.setTop (mkF m 219 #[.val (.int p0), .val (.int p1), .val (.int p2), .val (.int ((((p0.toUInt32 >>> ((8 : Int32) &&& 31).toUInt32).toInt32) &&& (255 : Int32)).toUInt32.toUInt16.toUInt32.toInt32)), .val (.ref b1), .val (.ref b10), .val (.int (own_minI (p0 &&& (3 : Int32)) (2 : Int32))), .val (.int (own_minI (p1 &&& (3 : Int32)) (2 : Int32))), .val .null, .val .null, .val (.ref b22), .val (.ref b27), .val (.int (p2 &&& (3 : Int32))), .val (.ref b27), .val (.int (1 : Int32))] [(.int (1 : Int32))]))
          refine OwnFin.st (fun _ q => XS.iload X34.here hx rfl (hb hby at_219) rfl q) ?_
          show OwnFin _ _ _ _ (T34.setTop (mkF m 221 #[.val (.int p0), .val (.int p1), .val (.int p2), .val (.int ((((p0.toUInt32 >>> ((8 : Int32) &&& 31).toUInt32).toInt32) &&& (255 : Int32)).toUInt32.toUInt16.toUInt32.toInt32)), .val (.ref b1), .val (.ref b10), .val (.int (own_minI (p0 &&& (3 : Int32)) (2 : Int32))), .val (.int (own_minI (p1 &&& (3 : Int32)) (2 : Int32))), .val .null, .val .null, .val (.ref b22), .val (.ref b27), .val (.int (p2 &&& (3 : Int32))), .val (.ref b27), .val (.int (1 : Int32))] [(.int (1 : Int32)), (.int (1 : Int32))]))
          refine OwnFin.st (fun _ q => XS.icmpNo X34.here hx rfl (hb hby at_221) rfl (Jvm.Free.XT.ii_ne_f (rfl : (1 : Int32) = (1 : Int32))) q) ?_
          show OwnFin _ _ _ _ (T34.setTop (mkF m 224 #[.val (.int p0), .val (.int p1), .val (.int p2), .val (.int ((((p0.toUInt32 >>> ((8 : Int32) &&& 31).toUInt32).toInt32) &&& (255 : Int32)).toUInt32.toUInt16.toUInt32.toInt32)), .val (.ref b1), .val (.ref b10), .val (.int (own_minI (p0 &&& (3 : Int32)) (2 : Int32))), .val (.int (own_minI (p1 &&& (3 : Int32)) (2 : Int32))), .val .null, .val .null, .val (.ref b22), .val (.ref b27), .val (.int (p2 &&& (3 : Int32))), .val (.ref b27), .val (.int (1 : Int32))] []))
          refine OwnFin.st (fun _ q => XS.iconst X34.here hx rfl (hb hby at_224) q) ?_
          show OwnFin _ _ _ _ (T34.setTop (mkF m 225 #[.val (.int p0), .val (.int p1), .val (.int p2), .val (.int ((((p0.toUInt32 >>> ((8 : Int32) &&& 31).toUInt32).toInt32) &&& (255 : Int32)).toUInt32.toUInt16.toUInt32.toInt32)), .val (.ref b1), .val (.ref b10), .val (.int (own_minI (p0 &&& (3 : Int32)) (2 : Int32))), .val (.int (own_minI (p1 &&& (3 : Int32)) (2 : Int32))), .val .null, .val .null, .val (.ref b22), .val (.ref b27), .val (.int (p2 &&& (3 : Int32))), .val (.ref b27), .val (.int (1 : Int32))] [(.int (1 : Int32))]))
          refine OwnFin.st (fun _ q => XS.goto X34.here hx rfl (pc0 := 225) (pc' := 229) rfl (hb hby at_225) (by decide) (by decide) q) ?_
          show OwnFin _ _ _ _ (T34.setTop (mkF m 229 #[.val (.int p0), .val (.int p1), .val (.int p2), .val (.int ((((p0.toUInt32 >>> ((8 : Int32) &&& 31).toUInt32).toInt32) &&& (255 : Int32)).toUInt32.toUInt16.toUInt32.toInt32)), .val (.ref b1), .val (.ref b10), .val (.int (own_minI (p0 &&& (3 : Int32)) (2 : Int32))), .val (.int (own_minI (p1 &&& (3 : Int32)) (2 : Int32))), .val .null, .val .null, .val (.ref b22), .val (.ref b27), .val (.int (p2 &&& (3 : Int32))), .val (.ref b27), .val (.int (1 : Int32))] [(.int (1 : Int32))]))
          obtain ⟨fs, hr, hrun, hended, hW, hsame⟩ := X34.leave (v := some (.int (1 : Int32))) (fun h => by rw [Bd.returns] at h; cases h)
          refine ⟨_, _, retN X34 hx (t := .boolean) Bd.returns (by simp) (hb hby at_229) hr, hrun, hended, _, _, rfl, ?_, ⟨_, rfl⟩, hW, hsame.mono (by decide) (by decide)⟩
          show Q_rm0 Z p0 p1 p2 w_COMPACT_STRINGS clI w_cache h0 n0 _ T34.heap _
          rw [he34]
          exact ⟨rfl, N34⟩
        · skip
          refine OwnFin.st (fun _ q => XS.icmpYes X30.here hx rfl (pc0 := 154) (pc' := 161) rfl (hb hby at_154) rfl (Jvm.Free.XT.ii_ne_t hc33) (by decide) (by decide) q) ?_
          show OwnFin _ _ _ _ (T30.setTop (mkF m 161 #[.val (.int p0), .val (.int p1), .val (.int p2), .val (.int ((((p0.toUInt32 >>> ((8 : Int32) &&& 31).toUInt32).toInt32) &&& (255 : Int32)).toUInt32.toUInt16.toUInt32.toInt32)), .val (.ref b1), .val (.ref b10), .val (.int (own_minI (p0 &&& (3 : Int32)) (2 : Int32))), .val (.int (own_minI (p1 &&& (3 : Int32)) (2 : Int32))), .val .null, .val .null, .val (.ref b22), .val (.ref b27), .val (.int (p2 &&& (3 : Int32))), .val (.ref b27), .unset] []))
          refine OwnFin.st (fun _ q => XS.iconst X30.here hx rfl (hb hby at_161) q) ?_
          show OwnFin _ _ _ _ (T30.setTop (mkF m 162 #[.val (.int p0), .val (.int p1), .val (.int p2), .val (.int ((((p0.toUInt32 >>> ((8 : Int32) &&& 31).toUInt32).toInt32) &&& (255 : Int32)).toUInt32.toUInt16.toUInt32.toInt32)), .val (.ref b1), .val (.ref b10), .val (.int (own_minI (p0 &&& (3 : Int32)) (2 : Int32))), .val (.int (own_minI (p1 &&& (3 : Int32)) (2 : Int32))), .val .null, .val .null, .val (.ref b22), .val (.ref b27), .val (.int (p2 &&& (3 : Int32))), .val (.ref b27), .unset] [(.int (0 : Int32))]))
          refine OwnFin.st (fun _ q => XS.istore X30.here hx rfl (hb hby at_162) rfl (l' := #[.val (.int p0), .val (.int p1), .val (.int p2), .val (.int ((((p0.toUInt32 >>> ((8 : Int32) &&& 31).toUInt32).toInt32) &&& (255 : Int32)).toUInt32.toUInt16.toUInt32.toInt32)), .val (.ref b1), .val (.ref b10), .val (.int (own_minI (p0 &&& (3 : Int32)) (2 : Int32))), .val (.int (own_minI (p1 &&& (3 : Int32)) (2 : Int32))), .val .null, .val .null, .val (.ref b22), .val (.ref b27), .val (.int (p2 &&& (3 : Int32))), .val (.ref b27), .val (.int (0 : Int32))]) rfl q) ?_
          show OwnFin _ _ _ _ (T30.setTop (mkF m 164 #[.val (.int p0), .val (.int p1), .val (.int p2), .val (.int ((((p0.toUInt32 >>> ((8 : Int32) &&& 31).toUInt32).toInt32) &&& (255 : Int32)).toUInt32.toUInt16.toUInt32.toInt32)), .val (.ref b1), .val (.ref b10), .val (.int (own_minI (p0 &&& (3 : Int32)) (2 : Int32))), .val (.int (own_minI (p1 &&& (3 : Int32)) (2 : Int32))), .val .null, .val .null, .val (.ref b22), .val (.ref b27), .val (.int (p2 &&& (3 : Int32))), .val (.ref b27), .val (.int (0 : Int32))] []))
          refine OwnFin.st (fun _ q => XS.goto X30.here hx rfl (pc0 := 164) (pc' := 212) rfl (hb hby at_164) (by decide) (by decide) q) ?_
          show OwnFin _ _ _ _ (T30.setTop (mkF m 212 #[.val (.int p0), .val (.int p1), .val (.int p2), .val (.int ((((p0.toUInt32 >>> ((8 : Int32) &&& 31).toUInt32).toInt32) &&& (255 : Int32)).toUInt32.toUInt16.toUInt32.toInt32)), .val (.ref b1), .val (.ref b10), .val (.int (own_minI (p0 &&& (3 : Int32)) (2 : Int32))), .val (.int (own_minI (p1 &&& (3 : Int32)) (2 : Int32))), .val .null, .val .null, .val (.ref b22), .val (.ref b27), .val (.int (p2 &&& (3 : Int32))), .val (.ref b27), .val (.int (0 : Int32))] []))
          refine OwnFin.st (fun _ q => XS.aload X30.here hx rfl (hb hby at_212) rfl rfl q) ?_
          show OwnFin _ _ _ _ (T30.setTop (mkF m 214 #[.val (.int p0), .val (.int p1), .val (.int p2), .val (.int ((((p0.toUInt32 >>> ((8 : Int32) &&& 31).toUInt32).toInt32) &&& (255 : Int32)).toUInt32.toUInt16.toUInt32.toInt32)), .val (.ref b1), .val (.ref b10), .val (.int (own_minI (p0 &&& (3 : Int32)) (2 : Int32))), .val (.int (own_minI (p1 &&& (3 : Int32)) (2 : Int32))), .val .null, .val .null, .val (.ref b22), .val (.ref b27), .val (.int (p2 &&& (3 : Int32))), .val (.ref b27), .val (.int (0 : Int32))] [(.ref b22)]))
          refine OwnFin.st (fun _ q => XS.aload X30.here hx rfl (hb hby at_214) rfl rfl q) ?_
          show OwnFin _ _ _ _ (T30.setTop (mkF m 216 #[.val (.int p0), .val (.int p1), .val (.int p2), .val (.int ((((p0.toUInt32 >>> ((8 : Int32) &&& 31).toUInt32).toInt32) &&& (255 : Int32)).toUInt32.toUInt16.toUInt32.toInt32)), .val (.ref b1), .val (.ref b10), .val (.int (own_minI (p0 &&& (3 : Int32)) (2 : Int32))), .val (.int (own_minI (p1 &&& (3 : Int32)) (2 : Int32))), .val .null, .val .null, .val (.ref b22), .val (.ref b27), .val (.int (p2 &&& (3 : Int32))), .val (.ref b27), .val (.int (0 : Int32))] [(.ref b27), (.ref b22)]))
          obtain ⟨cq35, kq35, q35a, q35b, q35c⟩ := isOf hZ e30 (((A22.keep K25).ext E27).keep K30)
          obtain ⟨_, _, ⟨T35, L35, k35, n35⟩, -, X35, ⟨Lc35, hQ35, l35, y35, z35⟩, st35⟩ := X30.virtualBack hx (y := (⟨"com/example/nepean/nepean/session/PendingKey", "equals", "(Ljava/lang/Object;)Z"⟩ : MethodName)) (z := (⟨"com/example/nepean/nepean/session/PendingKey", "equals", "(Ljava/lang/Object;)Z"⟩ : MethodName)) hown (mvT hZ (hw _ (List.mem_of_getElem? (i := 49) rfl))) (mvT hZ (hw _ (List.mem_of_getElem? (i := 50) rfl))) (notFace_of_selects (args := #[]) (mvT hZ (hw _ (List.mem_of_getElem? (i := 52) rfl)))) (mvT hZ (hw _ (List.mem_of_getElem? (i := 52) rfl))) (mvT hZ (hw _ (List.mem_of_getElem? (i := 51) rfl))) (by decide) (backOf (W := 0) (rm_eqPF l Z av0 hw [] b22 b27 (own_pick (own_minI (p1 &&& (3 : Int32)) (2 : Int32)) b1 b10) (own_pick (own_minI (p0 &&& (3 : Int32)) (2 : Int32)) b1 b10) h30 n0 (Nat.le_trans Z0 kp31.1) (A27.keep K30) r30_0 ((r25_0.ext E27).keep K30 (ninS (Nat.ne_of_lt (Nat.lt_of_lt_of_le (A22.keep K25).lt bi_b27)) nin0)) (own_pickne (Nat.ne_of_lt (Nat.lt_of_lt_of_le (((A1.ext E3).wr W5).keep K8).lt bi_b10)) (own_m3 _) (own_m3 _) (fun z => hc33 z.symm)) (own_pickr _ _ _) (own_pickr _ _ _)) hZ (hw _ (List.mem_of_getElem? (i := 53) rfl)) (hw _ (List.mem_of_getElem? (i := 36) rfl)) (by decide) (by decide)) q35a q35c (g := (mkF m 216 #[.val (.int p0), .val (.int p1), .val (.int p2), .val (.int ((((p0.toUInt32 >>> ((8 : Int32) &&& 31).toUInt32).toInt32) &&& (255 : Int32)).toUInt32.toUInt16.toUInt32.toInt32)), .val (.ref b1), .val (.ref b10), .val (.int (own_minI (p0 &&& (3 : Int32)) (2 : Int32))), .val (.int (own_minI (p1 &&& (3 : Int32)) (2 : Int32))), .val .null, .val .null, .val (.ref b22), .val (.ref b27), .val (.int (p2 &&& (3 : Int32))), .val (.ref b27), .val (.int (0 : Int32))] [(.ref b27), (.ref b22)])) rfl (by rw [hml]; rfl) (Steps.refl _) (argsL := [(.ref b27)]) (rest := []) (lenOf pd_10 rfl) rfl (by show 2 * 0 + _ ≤ _; exact Nat.le_of_eq rfl) (hb hby at_216) (fun _ _ => ⟨rfl, e30, (by decide : 8 + 0 ≤ _), (by decide : 16 + 0 ≤ _)⟩)
          dsimp only [Pt.U, Pt.locs, Pt.cells, Pt.slots] at X35 l35 y35 z35 st35 hQ35
          subst l35 y35 z35
          obtain ⟨rfl, N35q, he35⟩ := hQ35
          have N35 := Fr.app N30 N35q
          refine OwnFin.tr st35 ?_
          show OwnFin _ _ _ _ (T35.setTop (mkF m 219 #[.val (.int p0), .val (.int p1), .val (.int p2), .val (.int ((((p0.toUInt32 >>> ((8 : Int32) &&& 31).toUInt32).toInt32) &&& (255 : Int32)).toUInt32.toUInt16.toUInt32.toInt32)), .val (.ref b1), .val (.ref b10), .val (.int (own_minI (p0 &&& (3 : Int32)) (2 : Int32))), .val (.int (own_minI (p1 &&& (3 : Int32)) (2 : Int32))), .val .null, .val .null, .val (.ref b22), .val (.ref b27), .val (.int (p2 &&& (3 : Int32))), .val (.ref b27), .val (.int (0 : Int32))] [(.int (0 : Int32))]))
          refine OwnFin.st (fun _ q => XS.iload X35.here hx rfl (hb hby at_219) rfl q) ?_
          show OwnFin _ _ _ _ (T35.setTop (mkF m 221 #[.val (.int p0), .val (.int p1), .val (.int p2), .val (.int ((((p0.toUInt32 >>> ((8 : Int32) &&& 31).toUInt32).toInt32) &&& (255 : Int32)).toUInt32.toUInt16.toUInt32.toInt32)), .val (.ref b1), .val (.ref b10), .val (.int (own_minI (p0 &&& (3 : Int32)) (2 : Int32))), .val (.int (own_minI (p1 &&& (3 : Int32)) (2 : Int32))), .val .null, .val .null, .val (.ref b22), .val (.ref b27), .val (.int (p2 &&& (3 : Int32))), .val (.ref b27), .val (.int (0 : Int32))] [(.int (0 : Int32)), (.int (0 : Int32))]))
          refine OwnFin.st (fun _ q => XS.icmpNo X35.here hx rfl (hb hby at_221) rfl (Jvm.Free.XT.ii_ne_f (rfl : (0 : Int32) = (0 : Int32))) q) ?_
          show OwnFin _ _ _ _ (T35.setTop (mkF m 224 #[.val (.int p0), .val (.int p1), .val (.int p2), .val (.int ((((p0.toUInt32 >>> ((8 : Int32) &&& 31).toUInt32).toInt32) &&& (255 : Int32)).toUInt32.toUInt16.toUInt32.toInt32)), .val (.ref b1), .val (.ref b10), .val (.int (own_minI (p0 &&& (3 : Int32)) (2 : Int32))), .val (.int (own_minI (p1 &&& (3 : Int32)) (2 : Int32))), .val .null, .val .null, .val (.ref b22), .val (.ref b27), .val (.int (p2 &&& (3 : Int32))), .val (.ref b27), .val (.int (0 : Int32))] []))
          refine OwnFin.st (fun _ q => XS.iconst X35.here hx rfl (hb hby at_224) q) ?_
          show OwnFin _ _ _ _ (T35.setTop (mkF m 225 #[.val (.int p0), .val (.int p1), .val (.int p2), .val (.int ((((p0.toUInt32 >>> ((8 : Int32) &&& 31).toUInt32).toInt32) &&& (255 : Int32)).toUInt32.toUInt16.toUInt32.toInt32)), .val (.ref b1), .val (.ref b10), .val (.int (own_minI (p0 &&& (3 : Int32)) (2 : Int32))), .val (.int (own_minI (p1 &&& (3 : Int32)) (2 : Int32))), .val .null, .val .null, .val (.ref b22), .val (.ref b27), .val (.int (p2 &&& (3 : Int32))), .val (.ref b27), .val (.int (0 : Int32))] [(.int (1 : Int32))]))
          refine OwnFin.st (fun _ q => XS.goto X35.here hx rfl (pc0 := 225) (pc' := 229) rfl (hb hby at_225) (by decide) (by decide) q) ?_
          show OwnFin _ _ _ _ (T35.setTop (mkF m 229 #[.val (.int p0), .val (.int p1), .val (.int p2), .val (.int ((((p0.toUInt32 >>> ((8 : Int32) &&& 31).toUInt32).toInt32) &&& (255 : Int32)).toUInt32.toUInt16.toUInt32.toInt32)), .val (.ref b1), .val (.ref b10), .val (.int (own_minI (p0 &&& (3 : Int32)) (2 : Int32))), .val (.int (own_minI (p1 &&& (3 : Int32)) (2 : Int32))), .val .null, .val .null, .val (.ref b22), .val (.ref b27), .val (.int (p2 &&& (3 : Int32))), .val (.ref b27), .val (.int (0 : Int32))] [(.int (1 : Int32))]))
          obtain ⟨fs, hr, hrun, hended, hW, hsame⟩ := X35.leave (v := some (.int (1 : Int32))) (fun h => by rw [Bd.returns] at h; cases h)
          refine ⟨_, _, retN X35 hx (t := .boolean) Bd.returns (by simp) (hb hby at_229) hr, hrun, hended, _, _, rfl, ?_, ⟨_, rfl⟩, hW, hsame.mono (by decide) (by decide)⟩
          show Q_rm0 Z p0 p1 p2 w_COMPACT_STRINGS clI w_cache h0 n0 _ T35.heap _
          rw [he35]
          exact ⟨rfl, N35⟩
      · skip
        refine OwnFin.st (fun _ q => XS.ifYes X30.here hx rfl (pc0 := 143) (pc' := 167) rfl (hb hby at_143) rfl (Jvm.Free.XT.i0_ne_t hc32) (by decide) (by decide) q) ?_
        show OwnFin _ _ _ _ (T30.setTop (mkF m 167 #[.val (.int p0), .val (.int p1), .val (.int p2), .val (.int ((((p0.toUInt32 >>> ((8 : Int32) &&& 31).toUInt32).toInt32) &&& (255 : Int32)).toUInt32.toUInt16.toUInt32.toInt32)), .val (.ref b1), .val (.ref b10), .val (.int (own_minI (p0 &&& (3 : Int32)) (2 : Int32))), .val (.int (own_minI (p1 &&& (3 : Int32)) (2 : Int32))), .val .null, .val .null, .val (.ref b22), .val (.ref b27), .val (.int (p2 &&& (3 : Int32))), .unset, .unset] []))
        refine OwnFin.st (fun _ q => XS.iload X30.here hx rfl (hb hby at_167) rfl q) ?_
        show OwnFin _ _ _ _ (T30.setTop (mkF m 169 #[.val (.int p0), .val (.int p1), .val (.int p2), .val (.int ((((p0.toUInt32 >>> ((8 : Int32) &&& 31).toUInt32).toInt32) &&& (255 : Int32)).toUInt32.toUInt16.toUInt32.toInt32)), .val (.ref b1), .val (.ref b10), .val (.int (own_minI (p0 &&& (3 : Int32)) (2 : Int32))), .val (.int (own_minI (p1 &&& (3 : Int32)) (2 : Int32))), .val .null, .val .null, .val (.ref b22), .val (.ref b27), .val (.int (p2 &&& (3 : Int32))), .unset, .unset] [(.int (p2 &&& (3 : Int32)))]))
        refine OwnFin.st (fun _ q => XS.iconst X30.here hx rfl (hb hby at_169) q) ?_
        show OwnFin _ _ _ _ (T30.setTop (mkF m 170 #[.val (.int p0), .val (.int p1), .val (.int p2), .val (.int ((((p0.toUInt32 >>> ((8 : Int32) &&& 31).toUInt32).toInt32) &&& (255 : Int32)).toUInt32.toUInt16.toUInt32.toInt32)), .val (.ref b1), .val (.ref b10), .val (.int (own_minI (p0 &&& (3 : Int32)) (2 : Int32))), .val (.int (own_minI (p1 &&& (3 : Int32)) (2 : Int32))), .val .null, .val .null, .val (.ref b22), .val (.ref b27), .val (.int (p2 &&& (3 : Int32))), .unset, .unset] [(.int (1 : Int32)), (.int (p2 &&& (3 : Int32)))]))
        by_cases hc36 : (p2 &&& (3 : Int32)) = (1 : Int32)
        · skip
          refine OwnFin.st (fun _ q => XS.icmpNo X30.here hx rfl (hb hby at_170) rfl (Jvm.Free.XT.ii_ne_f hc36) q) ?_
          show OwnFin _ _ _ _ (T30.setTop (mkF m 173 #[.val (.int p0), .val (.int p1), .val (.int p2), .val (.int ((((p0.toUInt32 >>> ((8 : Int32) &&& 31).toUInt32).toInt32) &&& (255 : Int32)).toUInt32.toUInt16.toUInt32.toInt32)), .val (.ref b1), .val (.ref b10), .val (.int (own_minI (p0 &&& (3 : Int32)) (2 : Int32))), .val (.int (own_minI (p1 &&& (3 : Int32)) (2 : Int32))), .val .null, .val .null, .val (.ref b22), .val (.ref b27), .val (.int (p2 &&& (3 : Int32))), .unset, .unset] []))
          refine OwnFin.st (fun _ q => XS.aconstNull X30.here hx rfl (hb hby at_173) q) ?_
          show OwnFin _ _ _ _ (T30.setTop (mkF m 174 #[.val (.int p0), .val (.int p1), .val (.int p2), .val (.int ((((p0.toUInt32 >>> ((8 : Int32) &&& 31).toUInt32).toInt32) &&& (255 : Int32)).toUInt32.toUInt16.toUInt32.toInt32)), .val (.ref b1), .val (.ref b10), .val (.int (own_minI (p0 &&& (3 : Int32)) (2 : Int32))), .val (.int (own_minI (p1 &&& (3 : Int32)) (2 : Int32))), .val .null, .val .null, .val (.ref b22), .val (.ref b27), .val (.int (p2 &&& (3 : Int32))), .unset, .unset] [.null]))
          refine OwnFin.st (fun _ q => XS.astore X30.here hx rfl (hb hby at_174) rfl rfl (l' := #[.val (.int p0), .val (.int p1), .val (.int p2), .val (.int ((((p0.toUInt32 >>> ((8 : Int32) &&& 31).toUInt32).toInt32) &&& (255 : Int32)).toUInt32.toUInt16.toUInt32.toInt32)), .val (.ref b1), .val (.ref b10), .val (.int (own_minI (p0 &&& (3 : Int32)) (2 : Int32))), .val (.int (own_minI (p1 &&& (3 : Int32)) (2 : Int32))), .val .null, .val .null, .val (.ref b22), .val (.ref b27), .val (.int (p2 &&& (3 : Int32))), .val .null, .unset]) rfl q) ?_
          show OwnFin _ _ _ _ (T30.setTop (mkF m 176 #[.val (.int p0), .val (.int p1), .val (.int p2), .val (.int ((((p0.toUInt32 >>> ((8 : Int32) &&& 31).toUInt32).toInt32) &&& (255 : Int32)).toUInt32.toUInt16.toUInt32.toInt32)), .val (.ref b1), .val (.ref b10), .val (.int (own_minI (p0 &&& (3 : Int32)) (2 : Int32))), .val (.int (own_minI (p1 &&& (3 : Int32)) (2 : Int32))), .val .null, .val .null, .val (.ref b22), .val (.ref b27), .val (.int (p2 &&& (3 : Int32))), .val .null, .unset] []))
          refine OwnFin.st (fun _ q => XS.iconst X30.here hx rfl (hb hby at_176) q) ?_
          show OwnFin _ _ _ _ (T30.setTop (mkF m 177 #[.val (.int p0), .val (.int p1), .val (.int p2), .val (.int ((((p0.toUInt32 >>> ((8 : Int32) &&& 31).toUInt32).toInt32) &&& (255 : Int32)).toUInt32.toUInt16.toUInt32.toInt32)), .val (.ref b1), .val (.ref b10), .val (.int (own_minI (p0 &&& (3 : Int32)) (2 : Int32))), .val (.int (own_minI (p1 &&& (3 : Int32)) (2 : Int32))), .val .null, .val .null, .val (.ref b22), .val (.ref b27), .val (.int (p2 &&& (3 : Int32))), .val .null, .unset] [(.int (0 : Int32))]))
          refine OwnFin.st (fun _ q => XS.istore X30.here hx rfl (hb hby at_177) rfl (l' := #[.val (.int p0), .val (.int p1), .val (.int p2), .val (.int ((((p0.toUInt32 >>> ((8 : Int32) &&& 31).toUInt32).toInt32) &&& (255 : Int32)).toUInt32.toUInt16.toUInt32.toInt32)), .val (.ref b1), .val (.ref b10), .val (.int (own_minI (p0 &&& (3 : Int32)) (2 : Int32))), .val (.int (own_minI (p1 &&& (3 : Int32)) (2 : Int32))), .val .null, .val .null, .val (.ref b22), .val (.ref b27), .val (.int (p2 &&& (3 : Int32))), .val .null, .val (.int (0 : Int32))]) rfl q) ?_
          show OwnFin _ _ _ _ (T30.setTop (mkF m 179 #[.val (.int p0), .val (.int p1), .val (.int p2), .val (.int ((((p0.toUInt32 >>> ((8 : Int32) &&& 31).toUInt32).toInt32) &&& (255 : Int32)).toUInt32.toUInt16.toUInt32.toInt32)), .val (.ref b1), .val (.ref b10), .val (.int (own_minI (p0 &&& (3 : Int32)) (2 : Int32))), .val (.int (own_minI (p1 &&& (3 : Int32)) (2 : Int32))), .val .null, .val .null, .val (.ref b22), .val (.ref b27), .val (.int (p2 &&& (3 : Int32))), .val .null, .val (.int (0 : Int32))] []))
          refine OwnFin.st (fun _ q => XS.goto X30.here hx rfl (pc0 := 179) (pc' := 212) rfl (hb hby at_179) (by decide) (by decide) q) ?_
          show OwnFin _ _ _ _ (T30.setTop (mkF m 212 #[.val (.int p0), .val (.int p1), .val (.int p2), .val (.int ((((p0.toUInt32 >>> ((8 : Int32) &&& 31).toUInt32).toInt32) &&& (255 : Int32)).toUInt32.toUInt16.toUInt32.toInt32)), .val (.ref b1), .val (.ref b10), .val (.int (own_minI (p0 &&& (3 : Int32)) (2 : Int32))), .val (.int (own_minI (p1 &&& (3 : Int32)) (2 : Int32))), .val .null, .val .null, .val (.ref b22), .val (.ref b27), .val (.int (p2 &&& (3 : Int32))), .val .null, .val (.int (0 : Int32))] []))
          refine OwnFin.st (fun _ q => XS.aload X30.here hx rfl (hb hby at_212) rfl rfl q) ?_
          show OwnFin _ _ _ _ (T30.setTop (mkF m 214 #[.val (.int p0), .val (.int p1), .val (.int p2), .val (.int ((((p0.toUInt32 >>> ((8 : Int32) &&& 31).toUInt32).toInt32) &&& (255 : Int32)).toUInt32.toUInt16.toUInt32.toInt32)), .val (.ref b1), .val (.ref b10), .val (.int (own_minI (p0 &&& (3 : Int32)) (2 : Int32))), .val (.int (own_minI (p1 &&& (3 : Int32)) (2 : Int32))), .val .null, .val .null, .val (.ref b22), .val (.ref b27), .val (.int (p2 &&& (3 : Int32))), .val .null, .val (.int (0 : Int32))] [(.ref b22)]))
          refine OwnFin.st (fun _ q => XS.aload X30.here hx rfl (hb hby at_214) rfl rfl q) ?_
          show OwnFin _ _ _ _ (T30.setTop (mkF m 216 #[.val (.int p0), .val (.int p1), .val (.int p2), .val (.int ((((p0.toUInt32 >>> ((8 : Int32) &&& 31).toUInt32).toInt32) &&& (255 : Int32)).toUInt32.toUInt16.toUInt32.toInt32)), .val (.ref b1), .val (.ref b10), .val (.int (own_minI (p0 &&& (3 : Int32)) (2 : Int32))), .val (.int (own_minI (p1 &&& (3 : Int32)) (2 : Int32))), .val .null, .val .null, .val (.ref b22), .val (.ref b27), .val (.int (p2 &&& (3 : Int32))), .val .null, .val (.int (0 : Int32))] [.null, (.ref b22)]))
          obtain ⟨cq37, kq37, q37a, q37b, q37c⟩ := isOf hZ e30 (((A22.keep K25).ext E27).keep K30)
          obtain ⟨_, _, ⟨T37, L37, k37, n37⟩, -, X37, ⟨Lc37, hQ37, l37, y37, z37⟩, st37⟩ := X30.virtualBack hx (y := (⟨"com/example/nepean/nepean/session/PendingKey", "equals", "(Ljava/lang/Object;)Z"⟩ : MethodName)) (z := (⟨"com/example/nepean/nepean/session/PendingKey", "equals", "(Ljava/lang/Object;)Z"⟩ : MethodName)) hown (mvT hZ (hw _ (List.mem_of_getElem? (i := 49) rfl))) (mvT hZ (hw _ (List.mem_of_getElem? (i := 50) rfl))) (notFace_of_selects (args := #[]) (mvT hZ (hw _ (List.mem_of_getElem? (i := 52) rfl)))) (mvT hZ (hw _ (List.mem_of_getElem? (i := 52) rfl))) (mvT hZ (hw _ (List.mem_of_getElem? (i := 51) rfl))) (by decide) (backOf (W := 0) (rm_eqN l Z av0 hw [] b22 h30 n0 (Nat.le_trans Z0 kp31.1) ) hZ (hw _ (List.mem_of_getElem? (i := 53) rfl)) (hw _ (List.mem_of_getElem? (i := 36) rfl)) (by decide) (by decide)) q37a q37c (g := (mkF m 216 #[.val (.int p0), .val (.int p1), .val (.int p2), .val (.int ((((p0.toUInt32 >>> ((8 : Int32) &&& 31).toUInt32).toInt32) &&& (255 : Int32)).toUInt32.toUInt16.toUInt32.toInt32)), .val (.ref b1), .val (.ref b10), .val (.int (own_minI (p0 &&& (3 : Int32)) (2 : Int32))), .val (.int (own_minI (p1 &&& (3 : Int32)) (2 : Int32))), .val .null, .val .null, .val (.ref b22), .val (.ref b27), .val (.int (p2 &&& (3 : Int32))), .val .null, .val (.int (0 : Int32))] [.null, (.ref b22)])) rfl (by rw [hml]; rfl) (Steps.refl _) (argsL := [.null]) (rest := []) (lenOf pd_10 rfl) rfl (by show 2 * 0 + _ ≤ _; exact Nat.le_of_eq rfl) (hb hby at_216) (fun _ _ => ⟨rfl, e30, (by decide : 8 + 0 ≤ _), (by decide : 16 + 0 ≤ _)⟩)
          dsimp only [Pt.U, Pt.locs, Pt.cells, Pt.slots] at X37 l37 y37 z37 st37 hQ37
          subst l37 y37 z37
          obtain ⟨rfl, N37q, he37⟩ := hQ37
          have N37 := Fr.app N30 N37q
          refine OwnFin.tr st37 ?_
          show OwnFin _ _ _ _ (T37.setTop (mkF m 219 #[.val (.int p0), .val (.int p1), .val (.int p2), .val (.int ((((p0.toUInt32 >>> ((8 : Int32) &&& 31).toUInt32).toInt32) &&& (255 : Int32)).toUInt32.toUInt16.toUInt32.toInt32)), .val (.ref b1), .val (.ref b10), .val (.int (own_minI (p0 &&& (3 : Int32)) (2 : Int32))), .val (.int (own_minI (p1 &&& (3 : Int32)) (2 : Int32))), .val .null, .val .null, .val (.ref b22), .val (.ref b27), .val (.int (p2 &&& (3 : Int32))), .val .null, .val (.int (0 : Int32))] [(.int (0 : Int32))]))
          refine OwnFin.st (fun _ q => XS.iload X37.here hx rfl (hb hby at_219) rfl q) ?_
          show OwnFin _ _ _ _ (T37.setTop (mkF m 221 #[.val (.int p0), .val (.int p1), .val (.int p2), .val (.int ((((p0.toUInt32 >>> ((8 : Int32) &&& 31).toUInt32).toInt32) &&& (255 : Int32)).toUInt32.toUInt16.toUInt32.toInt32)), .val (.ref b1), .val (.ref b10), .val (.int (own_minI (p0 &&& (3 : Int32)) (2 : Int32))), .val (.int (own_minI (p1 &&& (3 : Int32)) (2 : Int32))), .val .null, .val .null, .val (.ref b22), .val (.ref b27), .val (.int (p2 &&& (3 : Int32))), .val .null, .val (.int (0 : Int32))] [(.int (0 : Int32)), (.int (0 : Int32))]))
          refine OwnFin.st (fun _ q => XS.icmpNo X37.here hx rfl (hb hby at_221) rfl (Jvm.Free.XT.ii_ne_f (rfl : (0 : Int32) = (0 : Int32))) q) ?_
          show OwnFin _ _ _ _ (T37.setTop (mkF m 224 #[.val (.int p0), .val (.int p1), .val (.int p2), .val (.int ((((p0.toUInt32 >>> ((8 : Int32) &&& 31).toUInt32).toInt32) &&& (255 : Int32)).toUInt32.toUInt16.toUInt32.toInt32)), .val (.ref b1), .val (.ref b10), .val (.int (own_minI (p0 &&& (3 : Int32)) (2 : Int32))), .val (.int (own_minI (p1 &&& (3 : Int32)) (2 : Int32))), .val .null, .val .null, .val (.ref b22), .val (.ref b27), .val (.int (p2 &&& (3 : Int32))), .val .null, .val (.int (0 : Int32))] []))
          refine OwnFin.st (fun _ q => XS.iconst X37.here hx rfl (hb hby at_224) q) ?_
          show OwnFin _ _ _ _ (T37.setTop (mkF m 225 #[.val (.int p0), .val (.int p1), .val (.int p2), .val (.int ((((p0.toUInt32 >>> ((8 : Int32) &&& 31).toUInt32).toInt32) &&& (255 : Int32)).toUInt32.toUInt16.toUInt32.toInt32)), .val (.ref b1), .val (.ref b10), .val (.int (own_minI (p0 &&& (3 : Int32)) (2 : Int32))), .val (.int (own_minI (p1 &&& (3 : Int32)) (2 : Int32))), .val .null, .val .null, .val (.ref b22), .val (.ref b27), .val (.int (p2 &&& (3 : Int32))), .val .null, .val (.int (0 : Int32))] [(.int (1 : Int32))]))
          refine OwnFin.st (fun _ q => XS.goto X37.here hx rfl (pc0 := 225) (pc' := 229) rfl (hb hby at_225) (by decide) (by decide) q) ?_
          show OwnFin _ _ _ _ (T37.setTop (mkF m 229 #[.val (.int p0), .val (.int p1), .val (.int p2), .val (.int ((((p0.toUInt32 >>> ((8 : Int32) &&& 31).toUInt32).toInt32) &&& (255 : Int32)).toUInt32.toUInt16.toUInt32.toInt32)), .val (.ref b1), .val (.ref b10), .val (.int (own_minI (p0 &&& (3 : Int32)) (2 : Int32))), .val (.int (own_minI (p1 &&& (3 : Int32)) (2 : Int32))), .val .null, .val .null, .val (.ref b22), .val (.ref b27), .val (.int (p2 &&& (3 : Int32))), .val .null, .val (.int (0 : Int32))] [(.int (1 : Int32))]))
          obtain ⟨fs, hr, hrun, hended, hW, hsame⟩ := X37.leave (v := some (.int (1 : Int32))) (fun h => by rw [Bd.returns] at h; cases h)
          refine ⟨_, _, retN X37 hx (t := .boolean) Bd.returns (by simp) (hb hby at_229) hr, hrun, hended, _, _, rfl, ?_, ⟨_, rfl⟩, hW, hsame.mono (by decide) (by decide)⟩
          show Q_rm0 Z p0 p1 p2 w_COMPACT_STRINGS clI w_cache h0 n0 _ T37.heap _
          rw [he37]
          exact ⟨rfl, N37⟩
        · skip
          refine OwnFin.st (fun _ q => XS.icmpYes X30.here hx rfl (pc0 := 170) (pc' := 182) rfl (hb hby at_170) rfl (Jvm.Free.XT.ii_ne_t hc36) (by decide) (by decide) q) ?_
          show OwnFin _ _ _ _ (T30.setTop (mkF m 182 #[.val (.int p0), .val (.int p1), .val (.int p2), .val (.int ((((p0.toUInt32 >>> ((8 : Int32) &&& 31).toUInt32).toInt32) &&& (255 : Int32)).toUInt32.toUInt16.toUInt32.toInt32)), .val (.ref b1), .val (.ref b10), .val (.int (own_minI (p0 &&& (3 : Int32)) (2 : Int32))), .val (.int (own_minI (p1 &&& (3 : Int32)) (2 : Int32))), .val .null, .val .null, .val (.ref b22), .val (.ref b27), .val (.int (p2 &&& (3 : Int32))), .unset, .unset] []))
          refine OwnFin.st (fun _ q => XS.iload X30.here hx rfl (hb hby at_182) rfl q) ?_
          show OwnFin _ _ _ _ (T30.setTop (mkF m 184 #[.val (.int p0), .val (.int p1), .val (.int p2), .val (.int ((((p0.toUInt32 >>> ((8 : Int32) &&& 31).toUInt32).toInt32) &&& (255 : Int32)).toUInt32.toUInt16.toUInt32.toInt32)), .val (.ref b1), .val (.ref b10), .val (.int (own_minI (p0 &&& (3 : Int32)) (2 : Int32))), .val (.int (own_minI (p1 &&& (3 : Int32)) (2 : Int32))), .val .null, .val .null, .val (.ref b22), .val (.ref b27), .val (.int (p2 &&& (3 : Int32))), .unset, .unset] [(.int (p2 &&& (3 : Int32)))]))
          refine OwnFin.st (fun _ q => XS.iconst X30.here hx rfl (hb hby at_184) q) ?_
          show OwnFin _ _ _ _ (T30.setTop (mkF m 185 #[.val (.int p0), .val (.int p1), .val (.int p2), .val (.int ((((p0.toUInt32 >>> ((8 : Int32) &&& 31).toUInt32).toInt32) &&& (255 : Int32)).toUInt32.toUInt16.toUInt32.toInt32)), .val (.ref b1), .val (.ref b10), .val (.int (own_minI (p0 &&& (3 : Int32)) (2 : Int32))), .val (.int (own_minI (p1 &&& (3 : Int32)) (2 : Int32))), .val .null, .val .null, .val (.ref b22), .val (.ref b27), .val (.int (p2 &&& (3 : Int32))), .unset, .unset] [(.int (2 : Int32)), (.int (p2 &&& (3 : Int32)))]))
          by_cases hc38 : (p2 &&& (3 : Int32)) = (2 : Int32)
          · skip
            refine OwnFin.st (fun _ q => XS.icmpNo X30.here hx rfl (hb hby at_185) rfl (Jvm.Free.XT.ii_ne_f hc38) q) ?_
            show OwnFin _ _ _ _ (T30.setTop (mkF m 188 #[.val (.int p0), .val (.int p1), .val (.int p2), .val (.int ((((p0.toUInt32 >>> ((8 : Int32) &&& 31).toUInt32).toInt32) &&& (255 : Int32)).toUInt32.toUInt16.toUInt32.toInt32)), .val (.ref b1), .val (.ref b10), .val (.int (own_minI (p0 &&& (3 : Int32)) (2 : Int32))), .val (.int (own_minI (p1 &&& (3 : Int32)) (2 : Int32))), .val .null, .val .null, .val (.ref b22), .val (.ref b27), .val (.int (p2 &&& (3 : Int32))), .unset, .unset] []))
            refine OwnFin.st (fun _ q => XS.iload X30.here hx rfl (hb hby at_188) rfl q) ?_
            show OwnFin _ _ _ _ (T30.setTop (mkF m 190 #[.val (.int p0), .val (.int p1), .val (.int p2), .val (.int ((((p0.toUInt32 >>> ((8 : Int32) &&& 31).toUInt32).toInt32) &&& (255 : Int32)).toUInt32.toUInt16.toUInt32.toInt32)), .val (.ref b1), .val (.ref b10), .val (.int (own_minI (p0 &&& (3 : Int32)) (2 : Int32))), .val (.int (own_minI (p1 &&& (3 : Int32)) (2 : Int32))), .val .null, .val .null, .val (.ref b22), .val (.ref b27), .val (.int (p2 &&& (3 : Int32))), .unset, .unset] [(.int (own_minI (p0 &&& (3 : Int32)) (2 : Int32)))]))
            refine OwnFin.st (fun _ q => XS.aload X30.here hx rfl (hb hby at_190) rfl rfl q) ?_
            show OwnFin _ _ _ _ (T30.setTop (mkF m 192 #[.val (.int p0), .val (.int p1), .val (.int p2), .val (.int ((((p0.toUInt32 >>> ((8 : Int32) &&& 31).toUInt32).toInt32) &&& (255 : Int32)).toUInt32.toUInt16.toUInt32.toInt32)), .val (.ref b1), .val (.ref b10), .val (.int (own_minI (p0 &&& (3 : Int32)) (2 : Int32))), .val (.int (own_minI (p1 &&& (3 : Int32)) (2 : Int32))), .val .null, .val .null, .val (.ref b22), .val (.ref b27), .val (.int (p2 &&& (3 : Int32))), .unset, .unset] [(.ref b1), (.int (own_minI (p0 &&& (3 : Int32)) (2 : Int32)))]))
            refine OwnFin.st (fun _ q => XS.aload X30.here hx rfl (hb hby at_192) rfl rfl q) ?_
            show OwnFin _ _ _ _ (T30.setTop (mkF m 194 #[.val (.int p0), .val (.int p1), .val (.int p2), .val (.int ((((p0.toUInt32 >>> ((8 : Int32) &&& 31).toUInt32).toInt32) &&& (255 : Int32)).toUInt32.toUInt16.toUInt32.toInt32)), .val (.ref b1), .val (.ref b10), .val (.int (own_minI (p0 &&& (3 : Int32)) (2 : Int32))), .val (.int (own_minI (p1 &&& (3 : Int32)) (2 : Int32))), .val .null, .val .null, .val (.ref b22), .val (.ref b27), .val (.int (p2 &&& (3 : Int32))), .unset, .unset] [(.ref b10), (.ref b1), (.int (own_minI (p0 &&& (3 : Int32)) (2 : Int32)))]))
            by_cases hc39 : (own_minI (p0 &&& (3 : Int32)) (2 : Int32)) = (0 : Int32)
            · skip
              show OwnFin _ _ _ _ (T30.setTop (mkF m 194 #[.val (.int p0), .val (.int p1), .val (.int p2), .val (.int ((((p0.toUInt32 >>> ((8 : Int32) &&& 31).toUInt32).toInt32) &&& (255 : Int32)).toUInt32.toUInt16.toUInt32.toInt32)), .val (.ref b1), .val (.ref b10), .val (.int (own_minI (p0 &&& (3 : Int32)) (2 : Int32))), .val (.int (own_minI (p1 &&& (3 : Int32)) (2 : Int32))), .val .null, .val .null, .val (.ref b22), .val (.ref b27), .val (.int (p2 &&& (3 : Int32))), .unset, .unset] [(.ref b10), (.ref b1), (.int (own_minI (p0 &&& (3 : Int32)) (2 : Int32)))]))
              obtain ⟨_, _, ⟨T40, L40, k40, n40⟩, -, X40, ⟨Lc40, hQ40, l40, y40, z40⟩, st40⟩ := Jvm.LawKit.callS X30 hx (y := (⟨"com/example/nepean/nepean/session/PendingKeyEqualsPinLaw", "pick", "(ILjava/lang/Object;Ljava/lang/Object;)Ljava/lang/Object;"⟩ : MethodName)) hown (mvT hZ (hw _ (List.mem_of_getElem? (i := 37) rfl))) (mvT hZ (hw _ (List.mem_of_getElem? (i := 38) rfl))) (mvT hZ (hw _ (List.mem_of_getElem? (i := 39) rfl))) (mvT hZ (hw _ (List.mem_of_getElem? (i := 40) rfl))) (by decide) (backOf (W := 0) (rm_pick0 l Z av0 hw [] (own_minI (p0 &&& (3 : Int32)) (2 : Int32)) b1 b10 h30 n0 (Nat.le_trans Z0 kp31.1) hc39) hZ (hw _ (List.mem_of_getElem? (i := 40) rfl)) (hw _ (List.mem_of_getElem? (i := 39) rfl)) (by decide) (by decide)) (g := (mkF m 194 #[.val (.int p0), .val (.int p1), .val (.int p2), .val (.int ((((p0.toUInt32 >>> ((8 : Int32) &&& 31).toUInt32).toInt32) &&& (255 : Int32)).toUInt32.toUInt16.toUInt32.toInt32)), .val (.ref b1), .val (.ref b10), .val (.int (own_minI (p0 &&& (3 : Int32)) (2 : Int32))), .val (.int (own_minI (p1 &&& (3 : Int32)) (2 : Int32))), .val .null, .val .null, .val (.ref b22), .val (.ref b27), .val (.int (p2 &&& (3 : Int32))), .unset, .unset] [(.ref b10), (.ref b1), (.int (own_minI (p0 &&& (3 : Int32)) (2 : Int32)))])) rfl (by rw [hml]; rfl) (argsL := [(.int (own_minI (p0 &&& (3 : Int32)) (2 : Int32))), (.ref b1), (.ref b10)]) (rest := []) (lenOf pd_8 rfl) rfl (by show 2 * 0 + _ ≤ _; exact Nat.le_of_eq rfl) (hb hby at_194) (fun _ _ => ⟨rfl, e30, (by decide : 8 + 0 ≤ _), (by decide : 16 + 0 ≤ _)⟩)
              dsimp only [Pt.U, Pt.locs, Pt.cells, Pt.slots] at X40 l40 y40 z40 st40 hQ40
              subst l40 y40 z40
              obtain ⟨rfl, N40q, he40⟩ := hQ40
              have N40 := Fr.app N30 N40q
              refine OwnFin.st st40 ?_
              show OwnFin _ _ _ _ (T40.setTop (mkF m 197 #[.val (.int p0), .val (.int p1), .val (.int p2), .val (.int ((((p0.toUInt32 >>> ((8 : Int32) &&& 31).toUInt32).toInt32) &&& (255 : Int32)).toUInt32.toUInt16.toUInt32.toInt32)), .val (.ref b1), .val (.ref b10), .val (.int (own_minI (p0 &&& (3 : Int32)) (2 : Int32))), .val (.int (own_minI (p1 &&& (3 : Int32)) (2 : Int32))), .val .null, .val .null, .val (.ref b22), .val (.ref b27), .val (.int (p2 &&& (3 : Int32))), .unset, .unset] [(.ref b1)]))
              refine OwnFin.st (fun _ q => XS.astore X40.here hx rfl (hb hby at_197) rfl rfl (l' := #[.val (.int p0), .val (.int p1), .val (.int p2), .val (.int ((((p0.toUInt32 >>> ((8 : Int32) &&& 31).toUInt32).toInt32) &&& (255 : Int32)).toUInt32.toUInt16.toUInt32.toInt32)), .val (.ref b1), .val (.ref b10), .val (.int (own_minI (p0 &&& (3 : Int32)) (2 : Int32))), .val (.int (own_minI (p1 &&& (3 : Int32)) (2 : Int32))), .val .null, .val .null, .val (.ref b22), .val (.ref b27), .val (.int (p2 &&& (3 : Int32))), .val (.ref b1), .unset]) rfl q) ?_
              show OwnFin _ _ _ _ (T40.setTop (mkF m 199 #[.val (.int p0), .val (.int p1), .val (.int p2), .val (.int ((((p0.toUInt32 >>> ((8 : Int32) &&& 31).toUInt32).toInt32) &&& (255 : Int32)).toUInt32.toUInt16.toUInt32.toInt32)), .val (.ref b1), .val (.ref b10), .val (.int (own_minI (p0 &&& (3 : Int32)) (2 : Int32))), .val (.int (own_minI (p1 &&& (3 : Int32)) (2 : Int32))), .val .null, .val .null, .val (.ref b22), .val (.ref b27), .val (.int (p2 &&& (3 : Int32))), .val (.ref b1), .unset] []))
              refine OwnFin.st (fun _ q => XS.iconst X40.here hx rfl (hb hby at_199) q) ?_
              show OwnFin _ _ _ _ (T40.setTop (mkF m 200 #[.val (.int p0), .val (.int p1), .val (.int p2), .val (.int ((((p0.toUInt32 >>> ((8 : Int32) &&& 31).toUInt32).toInt32) &&& (255 : Int32)).toUInt32.toUInt16.toUInt32.toInt32)), .val (.ref b1), .val (.ref b10), .val (.int (own_minI (p0 &&& (3 : Int32)) (2 : Int32))), .val (.int (own_minI (p1 &&& (3 : Int32)) (2 : Int32))), .val .null, .val .null, .val (.ref b22), .val (.ref b27), .val (.int (p2 &&& (3 : Int32))), .val (.ref b1), .unset] [(.int (0 : Int32))]))
              refine OwnFin.st (fun _ q => XS.istore X40.here hx rfl (hb hby at_200) rfl (l' := #[.val (.int p0), .val (.int p1), .val (.int p2), .val (.int ((((p0.toUInt32 >>> ((8 : Int32) &&& 31).toUInt32).toInt32) &&& (255 : Int32)).toUInt32.toUInt16.toUInt32.toInt32)), .val (.ref b1), .val (.ref b10), .val (.int (own_minI (p0 &&& (3 : Int32)) (2 : Int32))), .val (.int (own_minI (p1 &&& (3 : Int32)) (2 : Int32))), .val .null, .val .null, .val (.ref b22), .val (.ref b27), .val (.int (p2 &&& (3 : Int32))), .val (.ref b1), .val (.int (0 : Int32))]) rfl q) ?_
              show OwnFin _ _ _ _ (T40.setTop (mkF m 202 #[.val (.int p0), .val (.int p1), .val (.int p2), .val (.int ((((p0.toUInt32 >>> ((8 : Int32) &&& 31).toUInt32).toInt32) &&& (255 : Int32)).toUInt32.toUInt16.toUInt32.toInt32)), .val (.ref b1), .val (.ref b10), .val (.int (own_minI (p0 &&& (3 : Int32)) (2 : Int32))), .val (.int (own_minI (p1 &&& (3 : Int32)) (2 : Int32))), .val .null, .val .null, .val (.ref b22), .val (.ref b27), .val (.int (p2 &&& (3 : Int32))), .val (.ref b1), .val (.int (0 : Int32))] []))
              refine OwnFin.st (fun _ q => XS.goto X40.here hx rfl (pc0 := 202) (pc' := 212) rfl (hb hby at_202) (by decide) (by decide) q) ?_
              show OwnFin _ _ _ _ (T40.setTop (mkF m 212 #[.val (.int p0), .val (.int p1), .val (.int p2), .val (.int ((((p0.toUInt32 >>> ((8 : Int32) &&& 31).toUInt32).toInt32) &&& (255 : Int32)).toUInt32.toUInt16.toUInt32.toInt32)), .val (.ref b1), .val (.ref b10), .val (.int (own_minI (p0 &&& (3 : Int32)) (2 : Int32))), .val (.int (own_minI (p1 &&& (3 : Int32)) (2 : Int32))), .val .null, .val .null, .val (.ref b22), .val (.ref b27), .val (.int (p2 &&& (3 : Int32))), .val (.ref b1), .val (.int (0 : Int32))] []))
              refine OwnFin.st (fun _ q => XS.aload X40.here hx rfl (hb hby at_212) rfl rfl q) ?_
              show OwnFin _ _ _ _ (T40.setTop (mkF m 214 #[.val (.int p0), .val (.int p1), .val (.int p2), .val (.int ((((p0.toUInt32 >>> ((8 : Int32) &&& 31).toUInt32).toInt32) &&& (255 : Int32)).toUInt32.toUInt16.toUInt32.toInt32)), .val (.ref b1), .val (.ref b10), .val (.int (own_minI (p0 &&& (3 : Int32)) (2 : Int32))), .val (.int (own_minI (p1 &&& (3 : Int32)) (2 : Int32))), .val .null, .val .null, .val (.ref b22), .val (.ref b27), .val (.int (p2 &&& (3 : Int32))), .val (.ref b1), .val (.int (0 : Int32))] [(.ref b22)]))
              refine OwnFin.st (fun _ q => XS.aload X40.here hx rfl (hb hby at_214) rfl rfl q) ?_
              show OwnFin _ _ _ _ (T40.setTop (mkF m 216 #[.val (.int p0), .val (.int p1), .val (.int p2), .val (.int ((((p0.toUInt32 >>> ((8 : Int32) &&& 31).toUInt32).toInt32) &&& (255 : Int32)).toUInt32.toUInt16.toUInt32.toInt32)), .val (.ref b1), .val (.ref b10), .val (.int (own_minI (p0 &&& (3 : Int32)) (2 : Int32))), .val (.int (own_minI (p1 &&& (3 : Int32)) (2 : Int32))), .val .null, .val .null, .val (.ref b22), .val (.ref b27), .val (.int (p2 &&& (3 : Int32))), .val (.ref b1), .val (.int (0 : Int32))] [(.ref b1), (.ref b22)]))
              obtain ⟨cq41, kq41, q41a, q41b, q41c⟩ := isOf hZ he40 (((A22.keep K25).ext E27).keep K30)
              obtain ⟨_, _, ⟨T41, L41, k41, n41⟩, -, X41, ⟨Lc41, hQ41, l41, y41, z41⟩, st41⟩ := X40.virtualBack hx (y := (⟨"com/example/nepean/nepean/session/PendingKey", "equals", "(Ljava/lang/Object;)Z"⟩ : MethodName)) (z := (⟨"com/example/nepean/nepean/session/PendingKey", "equals", "(Ljava/lang/Object;)Z"⟩ : MethodName)) hown (mvT hZ (hw _ (List.mem_of_getElem? (i := 49) rfl))) (mvT hZ (hw _ (List.mem_of_getElem? (i := 50) rfl))) (notFace_of_selects (args := #[]) (mvT hZ (hw _ (List.mem_of_getElem? (i := 52) rfl)))) (mvT hZ (hw _ (List.mem_of_getElem? (i := 52) rfl))) (mvT hZ (hw _ (List.mem_of_getElem? (i := 51) rfl))) (by decide) (backOf (W := 0) (rm_eqS l Z av0 hw [] b22 b1 h30 n0 (Nat.le_trans Z0 kp31.1) (((((((((((A1.ext E3).wr W5).keep K8).ext E10).ext E12).wr W14).keep K16).ext E22).keep K25).ext E27).keep K30)) hZ (hw _ (List.mem_of_getElem? (i := 53) rfl)) (hw _ (List.mem_of_getElem? (i := 36) rfl)) (by decide) (by decide)) q41a q41c (g := (mkF m 216 #[.val (.int p0), .val (.int p1), .val (.int p2), .val (.int ((((p0.toUInt32 >>> ((8 : Int32) &&& 31).toUInt32).toInt32) &&& (255 : Int32)).toUInt32.toUInt16.toUInt32.toInt32)), .val (.ref b1), .val (.ref b10), .val (.int (own_minI (p0 &&& (3 : Int32)) (2 : Int32))), .val (.int (own_minI (p1 &&& (3 : Int32)) (2 : Int32))), .val .null, .val .null, .val (.ref b22), .val (.ref b27), .val (.int (p2 &&& (3 : Int32))), .val (.ref b1), .val (.int (0 : Int32))] [(.ref b1), (.ref b22)])) rfl (by rw [hml]; rfl) (Steps.refl _) (argsL := [(.ref b1)]) (rest := []) (lenOf pd_10 rfl) rfl (by show 2 * 0 + _ ≤ _; exact Nat.le_of_eq rfl) (hb hby at_216) (fun _ _ => ⟨rfl, he40, (by decide : 8 + 0 ≤ _), (by decide : 16 + 0 ≤ _)⟩)
              dsimp only [Pt.U, Pt.locs, Pt.cells, Pt.slots] at X41 l41 y41 z41 st41 hQ41
              subst l41 y41 z41
              obtain ⟨rfl, N41q, he41⟩ := hQ41
              have N41 := Fr.app N40 N41q
              refine OwnFin.tr st41 ?_
              show OwnFin _ _ _ _ (T41.setTop (mkF m 219 #[.val (.int p0), .val (.int p1), .val (.int p2), .val (.int ((((p0.toUInt32 >>> ((8 : Int32) &&& 31).toUInt32).toInt32) &&& (255 : Int32)).toUInt32.toUInt16.toUInt32.toInt32)), .val (.ref b1), .val (.ref b10), .val (.int (own_minI (p0 &&& (3 : Int32)) (2 : Int32))), .val (.int (own_minI (p1 &&& (3 : Int32)) (2 : Int32))), .val .null, .val .null, .val (.ref b22), .val (.ref b27), .val (.int (p2 &&& (3 : Int32))), .val (.ref b1), .val (.int (0 : Int32))] [(.int (0 : Int32))]))
              refine OwnFin.st (fun _ q => XS.iload X41.here hx rfl (hb hby at_219) rfl q) ?_
              show OwnFin _ _ _ _ (T41.setTop (mkF m 221 #[.val (.int p0), .val (.int p1), .val (.int p2), .val (.int ((((p0.toUInt32 >>> ((8 : Int32) &&& 31).toUInt32).toInt32) &&& (255 : Int32)).toUInt32.toUInt16.toUInt32.toInt32)), .val (.ref b1), .val (.ref b10), .val (.int (own_minI (p0 &&& (3 : Int32)) (2 : Int32))), .val (.int (own_minI (p1 &&& (3 : Int32)) (2 : Int32))), .val .null, .val .null, .val (.ref b22), .val (.ref b27), .val (.int (p2 &&& (3 : Int32))), .val (.ref b1), .val (.int (0 : Int32))] [(.int (0 : Int32)), (.int (0 : Int32))]))
              refine OwnFin.st (fun _ q => XS.icmpNo X41.here hx rfl (hb hby at_221) rfl (Jvm.Free.XT.ii_ne_f (rfl : (0 : Int32) = (0 : Int32))) q) ?_
              show OwnFin _ _ _ _ (T41.setTop (mkF m 224 #[.val (.int p0), .val (.int p1), .val (.int p2), .val (.int ((((p0.toUInt32 >>> ((8 : Int32) &&& 31).toUInt32).toInt32) &&& (255 : Int32)).toUInt32.toUInt16.toUInt32.toInt32)), .val (.ref b1), .val (.ref b10), .val (.int (own_minI (p0 &&& (3 : Int32)) (2 : Int32))), .val (.int (own_minI (p1 &&& (3 : Int32)) (2 : Int32))), .val .null, .val .null, .val (.ref b22), .val (.ref b27), .val (.int (p2 &&& (3 : Int32))), .val (.ref b1), .val (.int (0 : Int32))] []))
              refine OwnFin.st (fun _ q => XS.iconst X41.here hx rfl (hb hby at_224) q) ?_
              show OwnFin _ _ _ _ (T41.setTop (mkF m 225 #[.val (.int p0), .val (.int p1), .val (.int p2), .val (.int ((((p0.toUInt32 >>> ((8 : Int32) &&& 31).toUInt32).toInt32) &&& (255 : Int32)).toUInt32.toUInt16.toUInt32.toInt32)), .val (.ref b1), .val (.ref b10), .val (.int (own_minI (p0 &&& (3 : Int32)) (2 : Int32))), .val (.int (own_minI (p1 &&& (3 : Int32)) (2 : Int32))), .val .null, .val .null, .val (.ref b22), .val (.ref b27), .val (.int (p2 &&& (3 : Int32))), .val (.ref b1), .val (.int (0 : Int32))] [(.int (1 : Int32))]))
              refine OwnFin.st (fun _ q => XS.goto X41.here hx rfl (pc0 := 225) (pc' := 229) rfl (hb hby at_225) (by decide) (by decide) q) ?_
              show OwnFin _ _ _ _ (T41.setTop (mkF m 229 #[.val (.int p0), .val (.int p1), .val (.int p2), .val (.int ((((p0.toUInt32 >>> ((8 : Int32) &&& 31).toUInt32).toInt32) &&& (255 : Int32)).toUInt32.toUInt16.toUInt32.toInt32)), .val (.ref b1), .val (.ref b10), .val (.int (own_minI (p0 &&& (3 : Int32)) (2 : Int32))), .val (.int (own_minI (p1 &&& (3 : Int32)) (2 : Int32))), .val .null, .val .null, .val (.ref b22), .val (.ref b27), .val (.int (p2 &&& (3 : Int32))), .val (.ref b1), .val (.int (0 : Int32))] [(.int (1 : Int32))]))
              obtain ⟨fs, hr, hrun, hended, hW, hsame⟩ := X41.leave (v := some (.int (1 : Int32))) (fun h => by rw [Bd.returns] at h; cases h)
              refine ⟨_, _, retN X41 hx (t := .boolean) Bd.returns (by simp) (hb hby at_229) hr, hrun, hended, _, _, rfl, ?_, ⟨_, rfl⟩, hW, hsame.mono (by decide) (by decide)⟩
              show Q_rm0 Z p0 p1 p2 w_COMPACT_STRINGS clI w_cache h0 n0 _ T41.heap _
              rw [he41]
              exact ⟨rfl, N41⟩
            · skip
              show OwnFin _ _ _ _ (T30.setTop (mkF m 194 #[.val (.int p0), .val (.int p1), .val (.int p2), .val (.int ((((p0.toUInt32 >>> ((8 : Int32) &&& 31).toUInt32).toInt32) &&& (255 : Int32)).toUInt32.toUInt16.toUInt32.toInt32)), .val (.ref b1), .val (.ref b10), .val (.int (own_minI (p0 &&& (3 : Int32)) (2 : Int32))), .val (.int (own_minI (p1 &&& (3 : Int32)) (2 : Int32))), .val .null, .val .null, .val (.ref b22), .val (.ref b27), .val (.int (p2 &&& (3 : Int32))), .unset, .unset] [(.ref b10), (.ref b1), (.int (own_minI (p0 &&& (3 : Int32)) (2 : Int32)))]))
              by_cases hc42 : (own_minI (p0 &&& (3 : Int32)) (2 : Int32)) = (1 : Int32)
              · skip
                show OwnFin _ _ _ _ (T30.setTop (mkF m 194 #[.val (.int p0), .val (.int p1), .val (.int p2), .val (.int ((((p0.toUInt32 >>> ((8 : Int32) &&& 31).toUInt32).toInt32) &&& (255 : Int32)).toUInt32.toUInt16.toUInt32.toInt32)), .val (.ref b1), .val (.ref b10), .val (.int (own_minI (p0 &&& (3 : Int32)) (2 : Int32))), .val (.int (own_minI (p1 &&& (3 : Int32)) (2 : Int32))), .val .null, .val .null, .val (.ref b22), .val (.ref b27), .val (.int (p2 &&& (3 : Int32))), .unset, .unset] [(.ref b10), (.ref b1), (.int (own_minI (p0 &&& (3 : Int32)) (2 : Int32)))]))
                obtain ⟨_, _, ⟨T43, L43, k43, n43⟩, -, X43, ⟨Lc43, hQ43, l43, y43, z43⟩, st43⟩ := Jvm.LawKit.callS X30 hx (y := (⟨"com/example/nepean/nepean/session/PendingKeyEqualsPinLaw", "pick", "(ILjava/lang/Object;Ljava/lang/Object;)Ljava/lang/Object;"⟩ : MethodName)) hown (mvT hZ (hw _ (List.mem_of_getElem? (i := 37) rfl))) (mvT hZ (hw _ (List.mem_of_getElem? (i := 38) rfl))) (mvT hZ (hw _ (List.mem_of_getElem? (i := 39) rfl))) (mvT hZ (hw _ (List.mem_of_getElem? (i := 40) rfl))) (by decide) (backOf (W := 0) (rm_pick1 l Z av0 hw [] (own_minI (p0 &&& (3 : Int32)) (2 : Int32)) b1 b10 h30 n0 (Nat.le_trans Z0 kp31.1) hc39 hc42) hZ (hw _ (List.mem_of_getElem? (i := 40) rfl)) (hw _ (List.mem_of_getElem? (i := 39) rfl)) (by decide) (by decide)) (g := (mkF m 194 #[.val (.int p0), .val (.int p1), .val (.int p2), .val (.int ((((p0.toUInt32 >>> ((8 : Int32) &&& 31).toUInt32).toInt32) &&& (255 : Int32)).toUInt32.toUInt16.toUInt32.toInt32)), .val (.ref b1), .val (.ref b10), .val (.int (own_minI (p0 &&& (3 : Int32)) (2 : Int32))), .val (.int (own_minI (p1 &&& (3 : Int32)) (2 : Int32))), .val .null, .val .null, .val (.ref b22), .val (.ref b27), .val (.int (p2 &&& (3 : Int32))), .unset, .unset] [(.ref b10), (.ref b1), (.int (own_minI (p0 &&& (3 : Int32)) (2 : Int32)))])) rfl (by rw [hml]; rfl) (argsL := [(.int (own_minI (p0 &&& (3 : Int32)) (2 : Int32))), (.ref b1), (.ref b10)]) (rest := []) (lenOf pd_8 rfl) rfl (by show 2 * 0 + _ ≤ _; exact Nat.le_of_eq rfl) (hb hby at_194) (fun _ _ => ⟨rfl, e30, (by decide : 8 + 0 ≤ _), (by decide : 16 + 0 ≤ _)⟩)
                dsimp only [Pt.U, Pt.locs, Pt.cells, Pt.slots] at X43 l43 y43 z43 st43 hQ43
                subst l43 y43 z43
                obtain ⟨rfl, N43q, he43⟩ := hQ43
                have N43 := Fr.app N30 N43q
                refine OwnFin.st st43 ?_
                show OwnFin _ _ _ _ (T43.setTop (mkF m 197 #[.val (.int p0), .val (.int p1), .val (.int p2), .val (.int ((((p0.toUInt32 >>> ((8 : Int32) &&& 31).toUInt32).toInt32) &&& (255 : Int32)).toUInt32.toUInt16.toUInt32.toInt32)), .val (.ref b1), .val (.ref b10), .val (.int (own_minI (p0 &&& (3 : Int32)) (2 : Int32))), .val (.int (own_minI (p1 &&& (3 : Int32)) (2 : Int32))), .val .null, .val .null, .val (.ref b22), .val (.ref b27), .val (.int (p2 &&& (3 : Int32))), .unset, .unset] [(.ref b10)]))
                refine OwnFin.st (fun _ q => XS.astore X43.here hx rfl (hb hby at_197) rfl rfl (l' := #[.val (.int p0), .val (.int p1), .val (.int p2), .val (.int ((((p0.toUInt32 >>> ((8 : Int32) &&& 31).toUInt32).toInt32) &&& (255 : Int32)).toUInt32.toUInt16.toUInt32.toInt32)), .val (.ref b1), .val (.ref b10), .val (.int (own_minI (p0 &&& (3 : Int32)) (2 : Int32))), .val (.int (own_minI (p1 &&& (3 : Int32)) (2 : Int32))), .val .null, .val .null, .val (.ref b22), .val (.ref b27), .val (.int (p2 &&& (3 : Int32))), .val (.ref b10), .unset]) rfl q) ?_
                show OwnFin _ _ _ _ (T43.setTop (mkF m 199 #[.val (.int p0), .val (.int p1), .val (.int p2), .val (.int ((((p0.toUInt32 >>> ((8 : Int32) &&& 31).toUInt32).toInt32) &&& (255 : Int32)).toUInt32.toUInt16.toUInt32.toInt32)), .val (.ref b1), .val (.ref b10), .val (.int (own_minI (p0 &&& (3 : Int32)) (2 : Int32))), .val (.int (own_minI (p1 &&& (3 : Int32)) (2 : Int32))), .val .null, .val .null, .val (.ref b22), .val (.ref b27), .val (.int (p2 &&& (3 : Int32))), .val (.ref b10), .unset] []))
                refine OwnFin.st (fun _ q => XS.iconst X43.here hx rfl (hb hby at_199) q) ?_
                show OwnFin _ _ _ _ (T43.setTop (mkF m 200 #[.val (.int p0), .val (.int p1), .val (.int p2), .val (.int ((((p0.toUInt32 >>> ((8 : Int32) &&& 31).toUInt32).toInt32) &&& (255 : Int32)).toUInt32.toUInt16.toUInt32.toInt32)), .val (.ref b1), .val (.ref b10), .val (.int (own_minI (p0 &&& (3 : Int32)) (2 : Int32))), .val (.int (own_minI (p1 &&& (3 : Int32)) (2 : Int32))), .val .null, .val .null, .val (.ref b22), .val (.ref b27), .val (.int (p2 &&& (3 : Int32))), .val (.ref b10), .unset] [(.int (0 : Int32))]))
                refine OwnFin.st (fun _ q => XS.istore X43.here hx rfl (hb hby at_200) rfl (l' := #[.val (.int p0), .val (.int p1), .val (.int p2), .val (.int ((((p0.toUInt32 >>> ((8 : Int32) &&& 31).toUInt32).toInt32) &&& (255 : Int32)).toUInt32.toUInt16.toUInt32.toInt32)), .val (.ref b1), .val (.ref b10), .val (.int (own_minI (p0 &&& (3 : Int32)) (2 : Int32))), .val (.int (own_minI (p1 &&& (3 : Int32)) (2 : Int32))), .val .null, .val .null, .val (.ref b22), .val (.ref b27), .val (.int (p2 &&& (3 : Int32))), .val (.ref b10), .val (.int (0 : Int32))]) rfl q) ?_
                show OwnFin _ _ _ _ (T43.setTop (mkF m 202 #[.val (.int p0), .val (.int p1), .val (.int p2), .val (.int ((((p0.toUInt32 >>> ((8 : Int32) &&& 31).toUInt32).toInt32) &&& (255 : Int32)).toUInt32.toUInt16.toUInt32.toInt32)), .val (.ref b1), .val (.ref b10), .val (.int (own_minI (p0 &&& (3 : Int32)) (2 : Int32))), .val (.int (own_minI (p1 &&& (3 : Int32)) (2 : Int32))), .val .null, .val .null, .val (.ref b22), .val (.ref b27), .val (.int (p2 &&& (3 : Int32))), .val (.ref b10), .val (.int (0 : Int32))] []))
                refine OwnFin.st (fun _ q => XS.goto X43.here hx rfl (pc0 := 202) (pc' := 212) rfl (hb hby at_202) (by decide) (by decide) q) ?_
                show OwnFin _ _ _ _ (T43.setTop (mkF m 212 #[.val (.int p0), .val (.int p1), .val (.int p2), .val (.int ((((p0.toUInt32 >>> ((8 : Int32) &&& 31).toUInt32).toInt32) &&& (255 : Int32)).toUInt32.toUInt16.toUInt32.toInt32)), .val (.ref b1), .val (.ref b10), .val (.int (own_minI (p0 &&& (3 : Int32)) (2 : Int32))), .val (.int (own_minI (p1 &&& (3 : Int32)) (2 : Int32))), .val .null, .val .null, .val (.ref b22), .val (.ref b27), .val (.int (p2 &&& (3 : Int32))), .val (.ref b10), .val (.int (0 : Int32))] []))
                refine OwnFin.st (fun _ q => XS.aload X43.here hx rfl (hb hby at_212) rfl rfl q) ?_
                show OwnFin _ _ _ _ (T43.setTop (mkF m 214 #[.val (.int p0), .val (.int p1), .val (.int p2), .val (.int ((((p0.toUInt32 >>> ((8 : Int32) &&& 31).toUInt32).toInt32) &&& (255 : Int32)).toUInt32.toUInt16.toUInt32.toInt32)), .val (.ref b1), .val (.ref b10), .val (.int (own_minI (p0 &&& (3 : Int32)) (2 : Int32))), .val (.int (own_minI (p1 &&& (3 : Int32)) (2 : Int32))), .val .null, .val .null, .val (.ref b22), .val (.ref b27), .val (.int (p2 &&& (3 : Int32))), .val (.ref b10), .val (.int (0 : Int32))] [(.ref b22)]))
                refine OwnFin.st (fun _ q => XS.aload X43.here hx rfl (hb hby at_214) rfl rfl q) ?_
                show OwnFin _ _ _ _ (T43.setTop (mkF m 216 #[.val (.int p0), .val (.int p1), .val (.int p2), .val (.int ((((p0.toUInt32 >>> ((8 : Int32) &&& 31).toUInt32).toInt32) &&& (255 : Int32)).toUInt32.toUInt16.toUInt32.toInt32)), .val (.ref b1), .val (.ref b10), .val (.int (own_minI (p0 &&& (3 : Int32)) (2 : Int32))), .val (.int (own_minI (p1 &&& (3 : Int32)) (2 : Int32))), .val .null, .val .null, .val (.ref b22), .val (.ref b27), .val (.int (p2 &&& (3 : Int32))), .val (.ref b10), .val (.int (0 : Int32))] [(.ref b10), (.ref b22)]))
                obtain ⟨cq44, kq44, q44a, q44b, q44c⟩ := isOf hZ he43 (((A22.keep K25).ext E27).keep K30)
                obtain ⟨_, _, ⟨T44, L44, k44, n44⟩, -, X44, ⟨Lc44, hQ44, l44, y44, z44⟩, st44⟩ := X43.virtualBack hx (y := (⟨"com/example/nepean/nepean/session/PendingKey", "equals", "(Ljava/lang/Object;)Z"⟩ : MethodName)) (z := (⟨"com/example/nepean/nepean/session/PendingKey", "equals", "(Ljava/lang/Object;)Z"⟩ : MethodName)) hown (mvT hZ (hw _ (List.mem_of_getElem? (i := 49) rfl))) (mvT hZ (hw _ (List.mem_of_getElem? (i := 50) rfl))) (notFace_of_selects (args := #[]) (mvT hZ (hw _ (List.mem_of_getElem? (i := 52) rfl)))) (mvT hZ (hw _ (List.mem_of_getElem? (i := 52) rfl))) (mvT hZ (hw _ (List.mem_of_getElem? (i := 51) rfl))) (by decide) (backOf (W := 0) (rm_eqS l Z av0 hw [] b22 b10 h30 n0 (Nat.le_trans Z0 kp31.1) (((((((A10.ext E12).wr W14).keep K16).ext E22).keep K25).ext E27).keep K30)) hZ (hw _ (List.mem_of_getElem? (i := 53) rfl)) (hw _ (List.mem_of_getElem? (i := 36) rfl)) (by decide) (by decide)) q44a q44c (g := (mkF m 216 #[.val (.int p0), .val (.int p1), .val (.int p2), .val (.int ((((p0.toUInt32 >>> ((8 : Int32) &&& 31).toUInt32).toInt32) &&& (255 : Int32)).toUInt32.toUInt16.toUInt32.toInt32)), .val (.ref b1), .val (.ref b10), .val (.int (own_minI (p0 &&& (3 : Int32)) (2 : Int32))), .val (.int (own_minI (p1 &&& (3 : Int32)) (2 : Int32))), .val .null, .val .null, .val (.ref b22), .val (.ref b27), .val (.int (p2 &&& (3 : Int32))), .val (.ref b10), .val (.int (0 : Int32))] [(.ref b10), (.ref b22)])) rfl (by rw [hml]; rfl) (Steps.refl _) (argsL := [(.ref b10)]) (rest := []) (lenOf pd_10 rfl) rfl (by show 2 * 0 + _ ≤ _; exact Nat.le_of_eq rfl) (hb hby at_216) (fun _ _ => ⟨rfl, he43, (by decide : 8 + 0 ≤ _), (by decide : 16 + 0 ≤ _)⟩)
                dsimp only [Pt.U, Pt.locs, Pt.cells, Pt.slots] at X44 l44 y44 z44 st44 hQ44
                subst l44 y44 z44
                obtain ⟨rfl, N44q, he44⟩ := hQ44
                have N44 := Fr.app N43 N44q
                refine OwnFin.tr st44 ?_
                show OwnFin _ _ _ _ (T44.setTop (mkF m 219 #[.val (.int p0), .val (.int p1), .val (.int p2), .val (.int ((((p0.toUInt32 >>> ((8 : Int32) &&& 31).toUInt32).toInt32) &&& (255 : Int32)).toUInt32.toUInt16.toUInt32.toInt32)), .val (.ref b1), .val (.ref b10), .val (.int (own_minI (p0 &&& (3 : Int32)) (2 : Int32))), .val (.int (own_minI (p1 &&& (3 : Int32)) (2 : Int32))), .val .null, .val .null, .val (.ref b22), .val (.ref b27), .val (.int (p2 &&& (3 : Int32))), .val (.ref b10), .val (.int (0 : Int32))] [(.int (0 : Int32))]))
                refine OwnFin.st (fun _ q => XS.iload X44.here hx rfl (hb hby at_219) rfl q) ?_
                show OwnFin _ _ _ _ (T44.setTop (mkF m 221 #[.val (.int p0), .val (.int p1), .val (.int p2), .val (.int ((((p0.toUInt32 >>> ((8 : Int32) &&& 31).toUInt32).toInt32) &&& (255 : Int32)).toUInt32.toUInt16.toUInt32.toInt32)), .val (.ref b1), .val (.ref b10), .val (.int (own_minI (p0 &&& (3 : Int32)) (2 : Int32))), .val (.int (own_minI (p1 &&& (3 : Int32)) (2 : Int32))), .val .null, .val .null, .val (.ref b22), .val (.ref b27), .val (.int (p2 &&& (3 : Int32))), .val (.ref b10), .val (.int (0 : Int32))] [(.int (0 : Int32)), (.int (0 : Int32))]))
                refine OwnFin.st (fun _ q => XS.icmpNo X44.here hx rfl (hb hby at_221) rfl (Jvm.Free.XT.ii_ne_f (rfl : (0 : Int32) = (0 : Int32))) q) ?_
                show OwnFin _ _ _ _ (T44.setTop (mkF m 224 #[.val (.int p0), .val (.int p1), .val (.int p2), .val (.int ((((p0.toUInt32 >>> ((8 : Int32) &&& 31).toUInt32).toInt32) &&& (255 : Int32)).toUInt32.toUInt16.toUInt32.toInt32)), .val (.ref b1), .val (.ref b10), .val (.int (own_minI (p0 &&& (3 : Int32)) (2 : Int32))), .val (.int (own_minI (p1 &&& (3 : Int32)) (2 : Int32))), .val .null, .val .null, .val (.ref b22), .val (.ref b27), .val (.int (p2 &&& (3 : Int32))), .val (.ref b10), .val (.int (0 : Int32))] []))
                refine OwnFin.st (fun _ q => XS.iconst X44.here hx rfl (hb hby at_224) q) ?_
                show OwnFin _ _ _ _ (T44.setTop (mkF m 225 #[.val (.int p0), .val (.int p1), .val (.int p2), .val (.int ((((p0.toUInt32 >>> ((8 : Int32) &&& 31).toUInt32).toInt32) &&& (255 : Int32)).toUInt32.toUInt16.toUInt32.toInt32)), .val (.ref b1), .val (.ref b10), .val (.int (own_minI (p0 &&& (3 : Int32)) (2 : Int32))), .val (.int (own_minI (p1 &&& (3 : Int32)) (2 : Int32))), .val .null, .val .null, .val (.ref b22), .val (.ref b27), .val (.int (p2 &&& (3 : Int32))), .val (.ref b10), .val (.int (0 : Int32))] [(.int (1 : Int32))]))
                refine OwnFin.st (fun _ q => XS.goto X44.here hx rfl (pc0 := 225) (pc' := 229) rfl (hb hby at_225) (by decide) (by decide) q) ?_
                show OwnFin _ _ _ _ (T44.setTop (mkF m 229 #[.val (.int p0), .val (.int p1), .val (.int p2), .val (.int ((((p0.toUInt32 >>> ((8 : Int32) &&& 31).toUInt32).toInt32) &&& (255 : Int32)).toUInt32.toUInt16.toUInt32.toInt32)), .val (.ref b1), .val (.ref b10), .val (.int (own_minI (p0 &&& (3 : Int32)) (2 : Int32))), .val (.int (own_minI (p1 &&& (3 : Int32)) (2 : Int32))), .val .null, .val .null, .val (.ref b22), .val (.ref b27), .val (.int (p2 &&& (3 : Int32))), .val (.ref b10), .val (.int (0 : Int32))] [(.int (1 : Int32))]))
                obtain ⟨fs, hr, hrun, hended, hW, hsame⟩ := X44.leave (v := some (.int (1 : Int32))) (fun h => by rw [Bd.returns] at h; cases h)
                refine ⟨_, _, retN X44 hx (t := .boolean) Bd.returns (by simp) (hb hby at_229) hr, hrun, hended, _, _, rfl, ?_, ⟨_, rfl⟩, hW, hsame.mono (by decide) (by decide)⟩
                show Q_rm0 Z p0 p1 p2 w_COMPACT_STRINGS clI w_cache h0 n0 _ T44.heap _
                rw [he44]
                exact ⟨rfl, N44⟩
              · skip
                show OwnFin _ _ _ _ (T30.setTop (mkF m 194 #[.val (.int p0), .val (.int p1), .val (.int p2), .val (.int ((((p0.toUInt32 >>> ((8 : Int32) &&& 31).toUInt32).toInt32) &&& (255 : Int32)).toUInt32.toUInt16.toUInt32.toInt32)), .val (.ref b1), .val (.ref b10), .val (.int (own_minI (p0 &&& (3 : Int32)) (2 : Int32))), .val (.int (own_minI (p1 &&& (3 : Int32)) (2 : Int32))), .val .null, .val .null, .val (.ref b22), .val (.ref b27), .val (.int (p2 &&& (3 : Int32))), .unset, .unset] [(.ref b10), (.ref b1), (.int (own_minI (p0 &&& (3 : Int32)) (2 : Int32)))]))
                obtain ⟨_, _, ⟨T45, L45, k45, n45⟩, -, X45, ⟨Lc45, hQ45, l45, y45, z45⟩, st45⟩ := Jvm.LawKit.callS X30 hx (y := (⟨"com/example/nepean/nepean/session/PendingKeyEqualsPinLaw", "pick", "(ILjava/lang/Object;Ljava/lang/Object;)Ljava/lang/Object;"⟩ : MethodName)) hown (mvT hZ (hw _ (List.mem_of_getElem? (i := 37) rfl))) (mvT hZ (hw _ (List.mem_of_getElem? (i := 38) rfl))) (mvT hZ (hw _ (List.mem_of_getElem? (i := 39) rfl))) (mvT hZ (hw _ (List.mem_of_getElem? (i := 40) rfl))) (by decide) (backOf (W := 0) (rm_pick2 l Z av0 hw [] (own_minI (p0 &&& (3 : Int32)) (2 : Int32)) b1 b10 h30 n0 (Nat.le_trans Z0 kp31.1) hc39 hc42) hZ (hw _ (List.mem_of_getElem? (i := 40) rfl)) (hw _ (List.mem_of_getElem? (i := 39) rfl)) (by decide) (by decide)) (g := (mkF m 194 #[.val (.int p0), .val (.int p1), .val (.int p2), .val (.int ((((p0.toUInt32 >>> ((8 : Int32) &&& 31).toUInt32).toInt32) &&& (255 : Int32)).toUInt32.toUInt16.toUInt32.toInt32)), .val (.ref b1), .val (.ref b10), .val (.int (own_minI (p0 &&& (3 : Int32)) (2 : Int32))), .val (.int (own_minI (p1 &&& (3 : Int32)) (2 : Int32))), .val .null, .val .null, .val (.ref b22), .val (.ref b27), .val (.int (p2 &&& (3 : Int32))), .unset, .unset] [(.ref b10), (.ref b1), (.int (own_minI (p0 &&& (3 : Int32)) (2 : Int32)))])) rfl (by rw [hml]; rfl) (argsL := [(.int (own_minI (p0 &&& (3 : Int32)) (2 : Int32))), (.ref b1), (.ref b10)]) (rest := []) (lenOf pd_8 rfl) rfl (by show 2 * 0 + _ ≤ _; exact Nat.le_of_eq rfl) (hb hby at_194) (fun _ _ => ⟨rfl, e30, (by decide : 8 + 0 ≤ _), (by decide : 16 + 0 ≤ _)⟩)
                dsimp only [Pt.U, Pt.locs, Pt.cells, Pt.slots] at X45 l45 y45 z45 st45 hQ45
                subst l45 y45 z45
                obtain ⟨rfl, N45q, he45⟩ := hQ45
                have N45 := Fr.app N30 N45q
                refine OwnFin.st st45 ?_
                show OwnFin _ _ _ _ (T45.setTop (mkF m 197 #[.val (.int p0), .val (.int p1), .val (.int p2), .val (.int ((((p0.toUInt32 >>> ((8 : Int32) &&& 31).toUInt32).toInt32) &&& (255 : Int32)).toUInt32.toUInt16.toUInt32.toInt32)), .val (.ref b1), .val (.ref b10), .val (.int (own_minI (p0 &&& (3 : Int32)) (2 : Int32))), .val (.int (own_minI (p1 &&& (3 : Int32)) (2 : Int32))), .val .null, .val .null, .val (.ref b22), .val (.ref b27), .val (.int (p2 &&& (3 : Int32))), .unset, .unset] [.null]))
                refine OwnFin.st (fun _ q => XS.astore X45.here hx rfl (hb hby at_197) rfl rfl (l' := #[.val (.int p0), .val (.int p1), .val (.int p2), .val (.int ((((p0.toUInt32 >>> ((8 : Int32) &&& 31).toUInt32).toInt32) &&& (255 : Int32)).toUInt32.toUInt16.toUInt32.toInt32)), .val (.ref b1), .val (.ref b10), .val (.int (own_minI (p0 &&& (3 : Int32)) (2 : Int32))), .val (.int (own_minI (p1 &&& (3 : Int32)) (2 : Int32))), .val .null, .val .null, .val (.ref b22), .val (.ref b27), .val (.int (p2 &&& (3 : Int32))), .val .null, .unset]) rfl q) ?_
                show OwnFin _ _ _ _ (T45.setTop (mkF m 199 #[.val (.int p0), .val (.int p1), .val (.int p2), .val (.int ((((p0.toUInt32 >>> ((8 : Int32) &&& 31).toUInt32).toInt32) &&& (255 : Int32)).toUInt32.toUInt16.toUInt32.toInt32)), .val (.ref b1), .val (.ref b10), .val (.int (own_minI (p0 &&& (3 : Int32)) (2 : Int32))), .val (.int (own_minI (p1 &&& (3 : Int32)) (2 : Int32))), .val .null, .val .null, .val (.ref b22), .val (.ref b27), .val (.int (p2 &&& (3 : Int32))), .val .null, .unset] []))
                refine OwnFin.st (fun _ q => XS.iconst X45.here hx rfl (hb hby at_199) q) ?_
                show OwnFin _ _ _ _ (T45.setTop (mkF m 200 #[.val (.int p0), .val (.int p1), .val (.int p2), .val (.int ((((p0.toUInt32 >>> ((8 : Int32) &&& 31).toUInt32).toInt32) &&& (255 : Int32)).toUInt32.toUInt16.toUInt32.toInt32)), .val (.ref b1), .val (.ref b10), .val (.int (own_minI (p0 &&& (3 : Int32)) (2 : Int32))), .val (.int (own_minI (p1 &&& (3 : Int32)) (2 : Int32))), .val .null, .val .null, .val (.ref b22), .val (.ref b27), .val (.int (p2 &&& (3 : Int32))), .val .null, .unset] [(.int (0 : Int32))]))
                refine OwnFin.st (fun _ q => XS.istore X45.here hx rfl (hb hby at_200) rfl (l' := #[.val (.int p0), .val (.int p1), .val (.int p2), .val (.int ((((p0.toUInt32 >>> ((8 : Int32) &&& 31).toUInt32).toInt32) &&& (255 : Int32)).toUInt32.toUInt16.toUInt32.toInt32)), .val (.ref b1), .val (.ref b10), .val (.int (own_minI (p0 &&& (3 : Int32)) (2 : Int32))), .val (.int (own_minI (p1 &&& (3 : Int32)) (2 : Int32))), .val .null, .val .null, .val (.ref b22), .val (.ref b27), .val (.int (p2 &&& (3 : Int32))), .val .null, .val (.int (0 : Int32))]) rfl q) ?_
                show OwnFin _ _ _ _ (T45.setTop (mkF m 202 #[.val (.int p0), .val (.int p1), .val (.int p2), .val (.int ((((p0.toUInt32 >>> ((8 : Int32) &&& 31).toUInt32).toInt32) &&& (255 : Int32)).toUInt32.toUInt16.toUInt32.toInt32)), .val (.ref b1), .val (.ref b10), .val (.int (own_minI (p0 &&& (3 : Int32)) (2 : Int32))), .val (.int (own_minI (p1 &&& (3 : Int32)) (2 : Int32))), .val .null, .val .null, .val (.ref b22), .val (.ref b27), .val (.int (p2 &&& (3 : Int32))), .val .null, .val (.int (0 : Int32))] []))
                refine OwnFin.st (fun _ q => XS.goto X45.here hx rfl (pc0 := 202) (pc' := 212) rfl (hb hby at_202) (by decide) (by decide) q) ?_
                show OwnFin _ _ _ _ (T45.setTop (mkF m 212 #[.val (.int p0), .val (.int p1), .val (.int p2), .val (.int ((((p0.toUInt32 >>> ((8 : Int32) &&& 31).toUInt32).toInt32) &&& (255 : Int32)).toUInt32.toUInt16.toUInt32.toInt32)), .val (.ref b1), .val (.ref b10), .val (.int (own_minI (p0 &&& (3 : Int32)) (2 : Int32))), .val (.int (own_minI (p1 &&& (3 : Int32)) (2 : Int32))), .val .null, .val .null, .val (.ref b22), .val (.ref b27), .val (.int (p2 &&& (3 : Int32))), .val .null, .val (.int (0 : Int32))] []))
                refine OwnFin.st (fun _ q => XS.aload X45.here hx rfl (hb hby at_212) rfl rfl q) ?_
                show OwnFin _ _ _ _ (T45.setTop (mkF m 214 #[.val (.int p0), .val (.int p1), .val (.int p2), .val (.int ((((p0.toUInt32 >>> ((8 : Int32) &&& 31).toUInt32).toInt32) &&& (255 : Int32)).toUInt32.toUInt16.toUInt32.toInt32)), .val (.ref b1), .val (.ref b10), .val (.int (own_minI (p0 &&& (3 : Int32)) (2 : Int32))), .val (.int (own_minI (p1 &&& (3 : Int32)) (2 : Int32))), .val .null, .val .null, .val (.ref b22), .val (.ref b27), .val (.int (p2 &&& (3 : Int32))), .val .null, .val (.int (0 : Int32))] [(.ref b22)]))
                refine OwnFin.st (fun _ q => XS.aload X45.here hx rfl (hb hby at_214) rfl rfl q) ?_
                show OwnFin _ _ _ _ (T45.setTop (mkF m 216 #[.val (.int p0), .val (.int p1), .val (.int p2), .val (.int ((((p0.toUInt32 >>> ((8 : Int32) &&& 31).toUInt32).toInt32) &&& (255 : Int32)).toUInt32.toUInt16.toUInt32.toInt32)), .val (.ref b1), .val (.ref b10), .val (.int (own_minI (p0 &&& (3 : Int32)) (2 : Int32))), .val (.int (own_minI (p1 &&& (3 : Int32)) (2 : Int32))), .val .null, .val .null, .val (.ref b22), .val (.ref b27), .val (.int (p2 &&& (3 : Int32))), .val .null, .val (.int (0 : Int32))] [.null, (.ref b22)]))
                obtain ⟨cq46, kq46, q46a, q46b, q46c⟩ := isOf hZ he45 (((A22.keep K25).ext E27).keep K30)
                obtain ⟨_, _, ⟨T46, L46, k46, n46⟩, -, X46, ⟨Lc46, hQ46, l46, y46, z46⟩, st46⟩ := X45.virtualBack hx (y := (⟨"com/example/nepean/nepean/session/PendingKey", "equals", "(Ljava/lang/Object;)Z"⟩ : MethodName)) (z := (⟨"com/example/nepean/nepean/session/PendingKey", "equals", "(Ljava/lang/Object;)Z"⟩ : MethodName)) hown (mvT hZ (hw _ (List.mem_of_getElem? (i := 49) rfl))) (mvT hZ (hw _ (List.mem_of_getElem? (i := 50) rfl))) (notFace_of_selects (args := #[]) (mvT hZ (hw _ (List.mem_of_getElem? (i := 52) rfl)))) (mvT hZ (hw _ (List.mem_of_getElem? (i := 52) rfl))) (mvT hZ (hw _ (List.mem_of_getElem? (i := 51) rfl))) (by decide) (backOf (W := 0) (rm_eqN l Z av0 hw [] b22 h30 n0 (Nat.le_trans Z0 kp31.1) ) hZ (hw _ (List.mem_of_getElem? (i := 53) rfl)) (hw _ (List.mem_of_getElem? (i := 36) rfl)) (by decide) (by decide)) q46a q46c (g := (mkF m 216 #[.val (.int p0), .val (.int p1), .val (.int p2), .val (.int ((((p0.toUInt32 >>> ((8 : Int32) &&& 31).toUInt32).toInt32) &&& (255 : Int32)).toUInt32.toUInt16.toUInt32.toInt32)), .val (.ref b1), .val (.ref b10), .val (.int (own_minI (p0 &&& (3 : Int32)) (2 : Int32))), .val (.int (own_minI (p1 &&& (3 : Int32)) (2 : Int32))), .val .null, .val .null, .val (.ref b22), .val (.ref b27), .val (.int (p2 &&& (3 : Int32))), .val .null, .val (.int (0 : Int32))] [.null, (.ref b22)])) rfl (by rw [hml]; rfl) (Steps.refl _) (argsL := [.null]) (rest := []) (lenOf pd_10 rfl) rfl (by show 2 * 0 + _ ≤ _; exact Nat.le_of_eq rfl) (hb hby at_216) (fun _ _ => ⟨rfl, he45, (by decide : 8 + 0 ≤ _), (by decide : 16 + 0 ≤ _)⟩)
                dsimp only [Pt.U, Pt.locs, Pt.cells, Pt.slots] at X46 l46 y46 z46 st46 hQ46
                subst l46 y46 z46
                obtain ⟨rfl, N46q, he46⟩ := hQ46
                have N46 := Fr.app N45 N46q
                refine OwnFin.tr st46 ?_
                show OwnFin _ _ _ _ (T46.setTop (mkF m 219 #[.val (.int p0), .val (.int p1), .val (.int p2), .val (.int ((((p0.toUInt32 >>> ((8 : Int32) &&& 31).toUInt32).toInt32) &&& (255 : Int32)).toUInt32.toUInt16.toUInt32.toInt32)), .val (.ref b1), .val (.ref b10), .val (.int (own_minI (p0 &&& (3 : Int32)) (2 : Int32))), .val (.int (own_minI (p1 &&& (3 : Int32)) (2 : Int32))), .val .null, .val .null, .val (.ref b22), .val (.ref b27), .val (.int (p2 &&& (3 : Int32))), .val .null, .val (.int (0 : Int32))] [(.int (0 : Int32))]))
                refine OwnFin.st (fun _ q => XS.iload X46.here hx rfl (hb hby at_219) rfl q) ?_
                show OwnFin _ _ _ _ (T46.setTop (mkF m 221 #[.val (.int p0), .val (.int p1), .val (.int p2), .val (.int ((((p0.toUInt32 >>> ((8 : Int32) &&& 31).toUInt32).toInt32) &&& (255 : Int32)).toUInt32.toUInt16.toUInt32.toInt32)), .val (.ref b1), .val (.ref b10), .val (.int (own_minI (p0 &&& (3 : Int32)) (2 : Int32))), .val (.int (own_minI (p1 &&& (3 : Int32)) (2 : Int32))), .val .null, .val .null, .val (.ref b22), .val (.ref b27), .val (.int (p2 &&& (3 : Int32))), .val .null, .val (.int (0 : Int32))] [(.int (0 : Int32)), (.int (0 : Int32))]))
                refine OwnFin.st (fun _ q => XS.icmpNo X46.here hx rfl (hb hby at_221) rfl (Jvm.Free.XT.ii_ne_f (rfl : (0 : Int32) = (0 : Int32))) q) ?_
                show OwnFin _ _ _ _ (T46.setTop (mkF m 224 #[.val (.int p0), .val (.int p1), .val (.int p2), .val (.int ((((p0.toUInt32 >>> ((8 : Int32) &&& 31).toUInt32).toInt32) &&& (255 : Int32)).toUInt32.toUInt16.toUInt32.toInt32)), .val (.ref b1), .val (.ref b10), .val (.int (own_minI (p0 &&& (3 : Int32)) (2 : Int32))), .val (.int (own_minI (p1 &&& (3 : Int32)) (2 : Int32))), .val .null, .val .null, .val (.ref b22), .val (.ref b27), .val (.int (p2 &&& (3 : Int32))), .val .null, .val (.int (0 : Int32))] []))
                refine OwnFin.st (fun _ q => XS.iconst X46.here hx rfl (hb hby at_224) q) ?_
                show OwnFin _ _ _ _ (T46.setTop (mkF m 225 #[.val (.int p0), .val (.int p1), .val (.int p2), .val (.int ((((p0.toUInt32 >>> ((8 : Int32) &&& 31).toUInt32).toInt32) &&& (255 : Int32)).toUInt32.toUInt16.toUInt32.toInt32)), .val (.ref b1), .val (.ref b10), .val (.int (own_minI (p0 &&& (3 : Int32)) (2 : Int32))), .val (.int (own_minI (p1 &&& (3 : Int32)) (2 : Int32))), .val .null, .val .null, .val (.ref b22), .val (.ref b27), .val (.int (p2 &&& (3 : Int32))), .val .null, .val (.int (0 : Int32))] [(.int (1 : Int32))]))
                refine OwnFin.st (fun _ q => XS.goto X46.here hx rfl (pc0 := 225) (pc' := 229) rfl (hb hby at_225) (by decide) (by decide) q) ?_
                show OwnFin _ _ _ _ (T46.setTop (mkF m 229 #[.val (.int p0), .val (.int p1), .val (.int p2), .val (.int ((((p0.toUInt32 >>> ((8 : Int32) &&& 31).toUInt32).toInt32) &&& (255 : Int32)).toUInt32.toUInt16.toUInt32.toInt32)), .val (.ref b1), .val (.ref b10), .val (.int (own_minI (p0 &&& (3 : Int32)) (2 : Int32))), .val (.int (own_minI (p1 &&& (3 : Int32)) (2 : Int32))), .val .null, .val .null, .val (.ref b22), .val (.ref b27), .val (.int (p2 &&& (3 : Int32))), .val .null, .val (.int (0 : Int32))] [(.int (1 : Int32))]))
                obtain ⟨fs, hr, hrun, hended, hW, hsame⟩ := X46.leave (v := some (.int (1 : Int32))) (fun h => by rw [Bd.returns] at h; cases h)
                refine ⟨_, _, retN X46 hx (t := .boolean) Bd.returns (by simp) (hb hby at_229) hr, hrun, hended, _, _, rfl, ?_, ⟨_, rfl⟩, hW, hsame.mono (by decide) (by decide)⟩
                show Q_rm0 Z p0 p1 p2 w_COMPACT_STRINGS clI w_cache h0 n0 _ T46.heap _
                rw [he46]
                exact ⟨rfl, N46⟩
          · skip
            refine OwnFin.st (fun _ q => XS.icmpYes X30.here hx rfl (pc0 := 185) (pc' := 205) rfl (hb hby at_185) rfl (Jvm.Free.XT.ii_ne_t hc38) (by decide) (by decide) q) ?_
            show OwnFin _ _ _ _ (T30.setTop (mkF m 205 #[.val (.int p0), .val (.int p1), .val (.int p2), .val (.int ((((p0.toUInt32 >>> ((8 : Int32) &&& 31).toUInt32).toInt32) &&& (255 : Int32)).toUInt32.toUInt16.toUInt32.toInt32)), .val (.ref b1), .val (.ref b10), .val (.int (own_minI (p0 &&& (3 : Int32)) (2 : Int32))), .val (.int (own_minI (p1 &&& (3 : Int32)) (2 : Int32))), .val .null, .val .null, .val (.ref b22), .val (.ref b27), .val (.int (p2 &&& (3 : Int32))), .unset, .unset] []))
            refine OwnFin.st (fun _ q => XS.aload X30.here hx rfl (hb hby at_205) rfl rfl q) ?_
            show OwnFin _ _ _ _ (T30.setTop (mkF m 207 #[.val (.int p0), .val (.int p1), .val (.int p2), .val (.int ((((p0.toUInt32 >>> ((8 : Int32) &&& 31).toUInt32).toInt32) &&& (255 : Int32)).toUInt32.toUInt16.toUInt32.toInt32)), .val (.ref b1), .val (.ref b10), .val (.int (own_minI (p0 &&& (3 : Int32)) (2 : Int32))), .val (.int (own_minI (p1 &&& (3 : Int32)) (2 : Int32))), .val .null, .val .null, .val (.ref b22), .val (.ref b27), .val (.int (p2 &&& (3 : Int32))), .unset, .unset] [(.ref b22)]))
            refine OwnFin.st (fun _ q => XS.astore X30.here hx rfl (hb hby at_207) rfl rfl (l' := #[.val (.int p0), .val (.int p1), .val (.int p2), .val (.int ((((p0.toUInt32 >>> ((8 : Int32) &&& 31).toUInt32).toInt32) &&& (255 : Int32)).toUInt32.toUInt16.toUInt32.toInt32)), .val (.ref b1), .val (.ref b10), .val (.int (own_minI (p0 &&& (3 : Int32)) (2 : Int32))), .val (.int (own_minI (p1 &&& (3 : Int32)) (2 : Int32))), .val .null, .val .null, .val (.ref b22), .val (.ref b27), .val (.int (p2 &&& (3 : Int32))), .val (.ref b22), .unset]) rfl q) ?_
            show OwnFin _ _ _ _ (T30.setTop (mkF m 209 #[.val (.int p0), .val (.int p1), .val (.int p2), .val (.int ((((p0.toUInt32 >>> ((8 : Int32) &&& 31).toUInt32).toInt32) &&& (255 : Int32)).toUInt32.toUInt16.toUInt32.toInt32)), .val (.ref b1), .val (.ref b10), .val (.int (own_minI (p0 &&& (3 : Int32)) (2 : Int32))), .val (.int (own_minI (p1 &&& (3 : Int32)) (2 : Int32))), .val .null, .val .null, .val (.ref b22), .val (.ref b27), .val (.int (p2 &&& (3 : Int32))), .val (.ref b22), .unset] []))
            refine OwnFin.st (fun _ q => XS.iconst X30.here hx rfl (hb hby at_209) q) ?_
            show OwnFin _ _ _ _ (T30.setTop (mkF m 210 #[.val (.int p0), .val (.int p1), .val (.int p2), .val (.int ((((p0.toUInt32 >>> ((8 : Int32) &&& 31).toUInt32).toInt32) &&& (255 : Int32)).toUInt32.toUInt16.toUInt32.toInt32)), .val (.ref b1), .val (.ref b10), .val (.int (own_minI (p0 &&& (3 : Int32)) (2 : Int32))), .val (.int (own_minI (p1 &&& (3 : Int32)) (2 : Int32))), .val .null, .val .null, .val (.ref b22), .val (.ref b27), .val (.int (p2 &&& (3 : Int32))), .val (.ref b22), .unset] [(.int (1 : Int32))]))
            refine OwnFin.st (fun _ q => XS.istore X30.here hx rfl (hb hby at_210) rfl (l' := #[.val (.int p0), .val (.int p1), .val (.int p2), .val (.int ((((p0.toUInt32 >>> ((8 : Int32) &&& 31).toUInt32).toInt32) &&& (255 : Int32)).toUInt32.toUInt16.toUInt32.toInt32)), .val (.ref b1), .val (.ref b10), .val (.int (own_minI (p0 &&& (3 : Int32)) (2 : Int32))), .val (.int (own_minI (p1 &&& (3 : Int32)) (2 : Int32))), .val .null, .val .null, .val (.ref b22), .val (.ref b27), .val (.int (p2 &&& (3 : Int32))), .val (.ref b22), .val (.int (1 : Int32))]) rfl q) ?_
            show OwnFin _ _ _ _ (T30.setTop (mkF m 212 #[.val (.int p0), .val (.int p1), .val (.int p2), .val (.int ((((p0.toUInt32 >>> ((8 : Int32) &&& 31).toUInt32).toInt32) &&& (255 : Int32)).toUInt32.toUInt16.toUInt32.toInt32)), .val (.ref b1), .val (.ref b10), .val (.int (own_minI (p0 &&& (3 : Int32)) (2 : Int32))), .val (.int (own_minI (p1 &&& (3 : Int32)) (2 : Int32))), .val .null, .val .null, .val (.ref b22), .val (.ref b27), .val (.int (p2 &&& (3 : Int32))), .val (.ref b22), .val (.int (1 : Int32))] []))
            refine OwnFin.st (fun _ q => XS.aload X30.here hx rfl (hb hby at_212) rfl rfl q) ?_
            show OwnFin _ _ _ _ (T30.setTop (mkF m 214 #[.val (.int p0), .val (.int p1), .val (.int p2), .val (.int ((((p0.toUInt32 >>> ((8 : Int32) &&& 31).toUInt32).toInt32) &&& (255 : Int32)).toUInt32.toUInt16.toUInt32.toInt32)), .val (.ref b1), .val (.ref b10), .val (.int (own_minI (p0 &&& (3 : Int32)) (2 : Int32))), .val (.int (own_minI (p1 &&& (3 : Int32)) (2 : Int32))), .val .null, .val .null, .val (.ref b22), .val (.ref b27), .val (.int (p2 &&& (3 : Int32))), .val (.ref b22), .val (.int (1 : Int32))] [(.ref b22)]))
            refine OwnFin.st (fun _ q => XS.aload X30.here hx rfl (hb hby at_214) rfl rfl q) ?_
            show OwnFin _ _ _ _ (T30.setTop (mkF m 216 #[.val (.int p0), .val (.int p1), .val (.int p2), .val (.int ((((p0.toUInt32 >>> ((8 : Int32) &&& 31).toUInt32).toInt32) &&& (255 : Int32)).toUInt32.toUInt16.toUInt32.toInt32)), .val (.ref b1), .val (.ref b10), .val (.int (own_minI (p0 &&& (3 : Int32)) (2 : Int32))), .val (.int (own_minI (p1 &&& (3 : Int32)) (2 : Int32))), .val .null, .val .null, .val (.ref b22), .val (.ref b27), .val (.int (p2 &&& (3 : Int32))), .val (.ref b22), .val (.int (1 : Int32))] [(.ref b22), (.ref b22)]))
            obtain ⟨cq47, kq47, q47a, q47b, q47c⟩ := isOf hZ e30 (((A22.keep K25).ext E27).keep K30)
            obtain ⟨_, _, ⟨T47, L47, k47, n47⟩, -, X47, ⟨Lc47, hQ47, l47, y47, z47⟩, st47⟩ := X30.virtualBack hx (y := (⟨"com/example/nepean/nepean/session/PendingKey", "equals", "(Ljava/lang/Object;)Z"⟩ : MethodName)) (z := (⟨"com/example/nepean/nepean/session/PendingKey", "equals", "(Ljava/lang/Object;)Z"⟩ : MethodName)) hown (mvT hZ (hw _ (List.mem_of_getElem? (i := 49) rfl))) (mvT hZ (hw _ (List.mem_of_getElem? (i := 50) rfl))) (notFace_of_selects (args := #[]) (mvT hZ (hw _ (List.mem_of_getElem? (i := 52) rfl)))) (mvT hZ (hw _ (List.mem_of_getElem? (i := 52) rfl))) (mvT hZ (hw _ (List.mem_of_getElem? (i := 51) rfl))) (by decide) (backOf (W := 0) (rm_eqPT l Z av0 hw [] b22 b22 (own_pick (own_minI (p0 &&& (3 : Int32)) (2 : Int32)) b1 b10) (own_pick (own_minI (p0 &&& (3 : Int32)) (2 : Int32)) b1 b10) h30 n0 (Nat.le_trans Z0 kp31.1) (((A22.keep K25).ext E27).keep K30) ((r25_0.ext E27).keep K30 (ninS (Nat.ne_of_lt (Nat.lt_of_lt_of_le (A22.keep K25).lt bi_b27)) nin0)) ((r25_0.ext E27).keep K30 (ninS (Nat.ne_of_lt (Nat.lt_of_lt_of_le (A22.keep K25).lt bi_b27)) nin0)) (rfl : (own_pick (own_minI (p0 &&& (3 : Int32)) (2 : Int32)) b1 b10) = (own_pick (own_minI (p0 &&& (3 : Int32)) (2 : Int32)) b1 b10)) (own_pickr _ _ _) (own_pickr _ _ _)) hZ (hw _ (List.mem_of_getElem? (i := 53) rfl)) (hw _ (List.mem_of_getElem? (i := 36) rfl)) (by decide) (by decide)) q47a q47c (g := (mkF m 216 #[.val (.int p0), .val (.int p1), .val (.int p2), .val (.int ((((p0.toUInt32 >>> ((8 : Int32) &&& 31).toUInt32).toInt32) &&& (255 : Int32)).toUInt32.toUInt16.toUInt32.toInt32)), .val (.ref b1), .val (.ref b10), .val (.int (own_minI (p0 &&& (3 : Int32)) (2 : Int32))), .val (.int (own_minI (p1 &&& (3 : Int32)) (2 : Int32))), .val .null, .val .null, .val (.ref b22), .val (.ref b27), .val (.int (p2 &&& (3 : Int32))), .val (.ref b22), .val (.int (1 : Int32))] [(.ref b22), (.ref b22)])) rfl (by rw [hml]; rfl) (Steps.refl _) (argsL := [(.ref b22)]) (rest := []) (lenOf pd_10 rfl) rfl (by show 2 * 0 + _ ≤ _; exact Nat.le_of_eq rfl) (hb hby at_216) (fun _ _ => ⟨rfl, e30, (by decide : 8 + 0 ≤ _), (by decide : 16 + 0 ≤ _)⟩)
            dsimp only [Pt.U, Pt.locs, Pt.cells, Pt.slots] at X47 l47 y47 z47 st47 hQ47
            subst l47 y47 z47
            obtain ⟨rfl, N47q, he47⟩ := hQ47
            have N47 := Fr.app N30 N47q
            refine OwnFin.tr st47 ?_
            show OwnFin _ _ _ _ (T47.setTop (mkF m 219 #[.val (.int p0), .val (.int p1), .val (.int p2), .val (.int ((((p0.toUInt32 >>> ((8 : Int32) &&& 31).toUInt32).toInt32) &&& (255 : Int32)).toUInt32.toUInt16.toUInt32.toInt32)), .val (.ref b1), .val (.ref b10), .val (.int (own_minI (p0 &&& (3 : Int32)) (2 : Int32))), .val (.int (own_minI (p1 &&& (3 : Int32)) (2 : Int32))), .val .null, .val .null, .val (.ref b22), .val (.ref b27), .val (.int (p2 &&& (3 : Int32))), .val (.ref b22), .val (.int (1 : Int32))] [(.int (1 : Int32))]))
            refine OwnFin.st (fun _ q => XS.iload X47.here hx rfl (hb hby at_219) rfl q) ?_
            show OwnFin _ _ _ _ (T47.setTop (mkF m 221 #[.val (.int p0), .val (.int p1), .val (.int p2), .val (.int ((((p0.toUInt32 >>> ((8 : Int32) &&& 31).toUInt32).toInt32) &&& (255 : Int32)).toUInt32.toUInt16.toUInt32.toInt32)), .val (.ref b1), .val (.ref b10), .val (.int (own_minI (p0 &&& (3 : Int32)) (2 : Int32))), .val (.int (own_minI (p1 &&& (3 : Int32)) (2 : Int32))), .val .null, .val .null, .val (.ref b22), .val (.ref b27), .val (.int (p2 &&& (3 : Int32))), .val (.ref b22), .val (.int (1 : Int32))] [(.int (1 : Int32)), (.int (1 : Int32))]))
            refine OwnFin.st (fun _ q => XS.icmpNo X47.here hx rfl (hb hby at_221) rfl (Jvm.Free.XT.ii_ne_f (rfl : (1 : Int32) = (1 : Int32))) q) ?_
            show OwnFin _ _ _ _ (T47.setTop (mkF m 224 #[.val (.int p0), .val (.int p1), .val (.int p2), .val (.int ((((p0.toUInt32 >>> ((8 : Int32) &&& 31).toUInt32).toInt32) &&& (255 : Int32)).toUInt32.toUInt16.toUInt32.toInt32)), .val (.ref b1), .val (.ref b10), .val (.int (own_minI (p0 &&& (3 : Int32)) (2 : Int32))), .val (.int (own_minI (p1 &&& (3 : Int32)) (2 : Int32))), .val .null, .val .null, .val (.ref b22), .val (.ref b27), .val (.int (p2 &&& (3 : Int32))), .val (.ref b22), .val (.int (1 : Int32))] []))
            refine OwnFin.st (fun _ q => XS.iconst X47.here hx rfl (hb hby at_224) q) ?_
            show OwnFin _ _ _ _ (T47.setTop (mkF m 225 #[.val (.int p0), .val (.int p1), .val (.int p2), .val (.int ((((p0.toUInt32 >>> ((8 : Int32) &&& 31).toUInt32).toInt32) &&& (255 : Int32)).toUInt32.toUInt16.toUInt32.toInt32)), .val (.ref b1), .val (.ref b10), .val (.int (own_minI (p0 &&& (3 : Int32)) (2 : Int32))), .val (.int (own_minI (p1 &&& (3 : Int32)) (2 : Int32))), .val .null, .val .null, .val (.ref b22), .val (.ref b27), .val (.int (p2 &&& (3 : Int32))), .val (.ref b22), .val (.int (1 : Int32))] [(.int (1 : Int32))]))
            refine OwnFin.st (fun _ q => XS.goto X47.here hx rfl (pc0 := 225) (pc' := 229) rfl (hb hby at_225) (by decide) (by decide) q) ?_
            show OwnFin _ _ _ _ (T47.setTop (mkF m 229 #[.val (.int p0), .val (.int p1), .val (.int p2), .val (.int ((((p0.toUInt32 >>> ((8 : Int32) &&& 31).toUInt32).toInt32) &&& (255 : Int32)).toUInt32.toUInt16.toUInt32.toInt32)), .val (.ref b1), .val (.ref b10), .val (.int (own_minI (p0 &&& (3 : Int32)) (2 : Int32))), .val (.int (own_minI (p1 &&& (3 : Int32)) (2 : Int32))), .val .null, .val .null, .val (.ref b22), .val (.ref b27), .val (.int (p2 &&& (3 : Int32))), .val (.ref b22), .val (.int (1 : Int32))] [(.int (1 : Int32))]))
            obtain ⟨fs, hr, hrun, hended, hW, hsame⟩ := X47.leave (v := some (.int (1 : Int32))) (fun h => by rw [Bd.returns] at h; cases h)
            refine ⟨_, _, retN X47 hx (t := .boolean) Bd.returns (by simp) (hb hby at_229) hr, hrun, hended, _, _, rfl, ?_, ⟨_, rfl⟩, hW, hsame.mono (by decide) (by decide)⟩
            show Q_rm0 Z p0 p1 p2 w_COMPACT_STRINGS clI w_cache h0 n0 _ T47.heap _
            rw [he47]
            exact ⟨rfl, N47⟩
    · skip
      refine OwnFin.st (fun _ q => XS.ifNo X19.here hx rfl (hb hby at_83) rfl (Jvm.Free.XT.i0_eq_f hc21) q) ?_
      show OwnFin _ _ _ _ (T19.setTop (mkF m 86 #[.val (.int p0), .val (.int p1), .val (.int p2), .val (.int ((((p0.toUInt32 >>> ((8 : Int32) &&& 31).toUInt32).toInt32) &&& (255 : Int32)).toUInt32.toUInt16.toUInt32.toInt32)), .val (.ref b1), .val (.ref b10), .val (.int (own_minI (p0 &&& (3 : Int32)) (2 : Int32))), .val (.int (own_minI (p1 &&& (3 : Int32)) (2 : Int32))), .val .null, .unset, .unset, .unset, .unset, .unset, .unset] []))
      refine OwnFin.st (fun _ q => XS.iloadN X19.here hx rfl (hb hby at_86) rfl q) ?_
      show OwnFin _ _ _ _ (T19.setTop (mkF m 87 #[.val (.int p0), .val (.int p1), .val (.int p2), .val (.int ((((p0.toUInt32 >>> ((8 : Int32) &&& 31).toUInt32).toInt32) &&& (255 : Int32)).toUInt32.toUInt16.toUInt32.toInt32)), .val (.ref b1), .val (.ref b10), .val (.int (own_minI (p0 &&& (3 : Int32)) (2 : Int32))), .val (.int (own_minI (p1 &&& (3 : Int32)) (2 : Int32))), .val .null, .unset, .unset, .unset, .unset, .unset, .unset] [(.int p2)]))
      obtain ⟨_, _, ⟨T48, L48, k48, n48⟩, -, X48, ⟨Lc48, hQ48, l48, y48, z48⟩, st48⟩ := Jvm.LawKit.callS X19 hx (y := (⟨"java/lang/Integer", "valueOf", "(I)Ljava/lang/Integer;"⟩ : MethodName)) hown (mvT hZ (hw _ (List.mem_of_getElem? (i := 57) rfl))) (mvT hZ (hw _ (List.mem_of_getElem? (i := 58) rfl))) (mvT hZ (hw _ (List.mem_of_getElem? (i := 59) rfl))) (mvT hZ (hw _ (List.mem_of_getElem? (i := 60) rfl))) (by decide) (backOf (W := 0) (rm_valueOf l Z av0 hw [] p2 w_cache clI h16 n0 (Nat.le_trans Z0 kp17.1) ol17 BxI S_high S_cache) hZ (hw _ (List.mem_of_getElem? (i := 60) rfl)) (hw _ (List.mem_of_getElem? (i := 59) rfl)) (by decide) (by decide)) (g := (mkF m 87 #[.val (.int p0), .val (.int p1), .val (.int p2), .val (.int ((((p0.toUInt32 >>> ((8 : Int32) &&& 31).toUInt32).toInt32) &&& (255 : Int32)).toUInt32.toUInt16.toUInt32.toInt32)), .val (.ref b1), .val (.ref b10), .val (.int (own_minI (p0 &&& (3 : Int32)) (2 : Int32))), .val (.int (own_minI (p1 &&& (3 : Int32)) (2 : Int32))), .val .null, .unset, .unset, .unset, .unset, .unset, .unset] [(.int p2)])) rfl (by rw [hml]; rfl) (argsL := [(.int p2)]) (rest := []) (lenOf pd_11 rfl) rfl (by show 2 * 0 + _ ≤ _; exact Nat.le_of_eq rfl) (hb hby at_87) (fun _ _ => ⟨rfl, he19, (by decide : 6 + 1 ≤ _), (by decide : 12 + 1 ≤ _)⟩)
      dsimp only [Pt.U, Pt.locs, Pt.cells, Pt.slots] at X48 l48 y48 z48 st48 hQ48
      subst l48 y48 z48
      obtain ⟨c48_0, rfl, N48q, K48⟩ := hQ48
      have N48 := Fr.app N19 N48q
      refine OwnFin.st st48 ?_
      obtain ⟨h48, e48⟩ : ∃ z, T48.heap = z := ⟨_, rfl⟩
      rw [e48] at K48
      have kp49 : Keep h0 h48 [] := kp17.trans K48 all0
      have ol49 : Old Z n0 h48 := ol17.keep K48 all0
      show OwnFin _ _ _ _ (T48.setTop (mkF m 90 #[.val (.int p0), .val (.int p1), .val (.int p2), .val (.int ((((p0.toUInt32 >>> ((8 : Int32) &&& 31).toUInt32).toInt32) &&& (255 : Int32)).toUInt32.toUInt16.toUInt32.toInt32)), .val (.ref b1), .val (.ref b10), .val (.int (own_minI (p0 &&& (3 : Int32)) (2 : Int32))), .val (.int (own_minI (p1 &&& (3 : Int32)) (2 : Int32))), .val .null, .unset, .unset, .unset, .unset, .unset, .unset] [(.ref c48_0)]))
      refine OwnFin.st (fun _ q => XS.goto X48.here hx rfl (pc0 := 90) (pc' := 94) rfl (hb hby at_90) (by decide) (by decide) q) ?_
      show OwnFin _ _ _ _ (T48.setTop (mkF m 94 #[.val (.int p0), .val (.int p1), .val (.int p2), .val (.int ((((p0.toUInt32 >>> ((8 : Int32) &&& 31).toUInt32).toInt32) &&& (255 : Int32)).toUInt32.toUInt16.toUInt32.toInt32)), .val (.ref b1), .val (.ref b10), .val (.int (own_minI (p0 &&& (3 : Int32)) (2 : Int32))), .val (.int (own_minI (p1 &&& (3 : Int32)) (2 : Int32))), .val .null, .unset, .unset, .unset, .unset, .unset, .unset] [(.ref c48_0)]))
      refine OwnFin.st (fun _ q => XS.astore X48.here hx rfl (hb hby at_94) rfl rfl (l' := #[.val (.int p0), .val (.int p1), .val (.int p2), .val (.int ((((p0.toUInt32 >>> ((8 : Int32) &&& 31).toUInt32).toInt32) &&& (255 : Int32)).toUInt32.toUInt16.toUInt32.toInt32)), .val (.ref b1), .val (.ref b10), .val (.int (own_minI (p0 &&& (3 : Int32)) (2 : Int32))), .val (.int (own_minI (p1 &&& (3 : Int32)) (2 : Int32))), .val .null, .val (.ref c48_0), .unset, .unset, .unset, .unset, .unset]) rfl q) ?_
      show OwnFin _ _ _ _ (T48.setTop (mkF m 96 #[.val (.int p0), .val (.int p1), .val (.int p2), .val (.int ((((p0.toUInt32 >>> ((8 : Int32) &&& 31).toUInt32).toInt32) &&& (255 : Int32)).toUInt32.toUInt16.toUInt32.toInt32)), .val (.ref b1), .val (.ref b10), .val (.int (own_minI (p0 &&& (3 : Int32)) (2 : Int32))), .val (.int (own_minI (p1 &&& (3 : Int32)) (2 : Int32))), .val .null, .val (.ref c48_0), .unset, .unset, .unset, .unset, .unset] []))
      obtain ⟨T50, h50, X50, e50, E50, A50, D50, -, st50⟩ := newO X48 hx hZ hown (hw _ (List.mem_of_getElem? (i := 34) rfl)) (hw _ (List.mem_of_getElem? (i := 35) rfl)) (hw _ (List.mem_of_getElem? (i := 36) rfl)) e48 (g := (mkF m 96 #[.val (.int p0), .val (.int p1), .val (.int p2), .val (.int ((((p0.toUInt32 >>> ((8 : Int32) &&& 31).toUInt32).toInt32) &&& (255 : Int32)).toUInt32.toUInt16.toUInt32.toInt32)), .val (.ref b1), .val (.ref b10), .val (.int (own_minI (p0 &&& (3 : Int32)) (2 : Int32))), .val (.int (own_minI (p1 &&& (3 : Int32)) (2 : Int32))), .val .null, .val (.ref c48_0), .unset, .unset, .unset, .unset, .unset] [])) rfl (hb hby at_96) (by decide) (by decide)
      obtain ⟨b50, qe50⟩ : ∃ z, z = h48.size := ⟨_, rfl⟩
      rw [← qe50] at A50 D50 st50
      refine OwnFin.st st50 ?_
      have bi_b50 : h48.size ≤ b50 := Nat.le_of_eq qe50.symm
      have lo_b50 : h0.size ≤ b50 := Nat.le_trans kp49.1 bi_b50
      have g_b50 : n0 ≤ b50 := Nat.le_trans Z0 lo_b50
      have kp51 : Keep h0 h50 [] := kp49.ext E50
      have ol51 : Old Z n0 h50 := ol49.ext E50
      have F_entity_b50 : Fld Z h50 b50 "com/example/nepean/nepean/session/PendingKey" "entity" "Ljava/lang/Object;" .null := D50 (Or.inr (hw _ (List.mem_of_getElem? (i := 46) rfl))) (ty := (.object "java/lang/Object")) (by decide)
      have F_id_b50 : Fld Z h50 b50 "com/example/nepean/nepean/session/PendingKey" "id" "Ljava/lang/Object;" .null := D50 (Or.inr (hw _ (List.mem_of_getElem? (i := 48) rfl))) (ty := (.object "java/lang/Object")) (by decide)
      show OwnFin _ _ _ _ (T50.setTop (mkF m 99 #[.val (.int p0), .val (.int p1), .val (.int p2), .val (.int ((((p0.toUInt32 >>> ((8 : Int32) &&& 31).toUInt32).toInt32) &&& (255 : Int32)).toUInt32.toUInt16.toUInt32.toInt32)), .val (.ref b1), .val (.ref b10), .val (.int (own_minI (p0 &&& (3 : Int32)) (2 : Int32))), .val (.int (own_minI (p1 &&& (3 : Int32)) (2 : Int32))), .val .null, .val (.ref c48_0), .unset, .unset, .unset, .unset, .unset] [(.ref b50)]))
      refine OwnFin.st (fun _ q => XS.dup X50.here hx rfl (hb hby at_99) rfl rfl q) ?_
      show OwnFin _ _ _ _ (T50.setTop (mkF m 100 #[.val (.int p0), .val (.int p1), .val (.int p2), .val (.int ((((p0.toUInt32 >>> ((8 : Int32) &&& 31).toUInt32).toInt32) &&& (255 : Int32)).toUInt32.toUInt16.toUInt32.toInt32)), .val (.ref b1), .val (.ref b10), .val (.int (own_minI (p0 &&& (3 : Int32)) (2 : Int32))), .val (.int (own_minI (p1 &&& (3 : Int32)) (2 : Int32))), .val .null, .val (.ref c48_0), .unset, .unset, .unset, .unset, .unset] [(.ref b50), (.ref b50)]))
      refine OwnFin.st (fun _ q => XS.iload X50.here hx rfl (hb hby at_100) rfl q) ?_
      show OwnFin _ _ _ _ (T50.setTop (mkF m 102 #[.val (.int p0), .val (.int p1), .val (.int p2), .val (.int ((((p0.toUInt32 >>> ((8 : Int32) &&& 31).toUInt32).toInt32) &&& (255 : Int32)).toUInt32.toUInt16.toUInt32.toInt32)), .val (.ref b1), .val (.ref b10), .val (.int (own_minI (p0 &&& (3 : Int32)) (2 : Int32))), .val (.int (own_minI (p1 &&& (3 : Int32)) (2 : Int32))), .val .null, .val (.ref c48_0), .unset, .unset, .unset, .unset, .unset] [(.int (own_minI (p0 &&& (3 : Int32)) (2 : Int32))), (.ref b50), (.ref b50)]))
      refine OwnFin.st (fun _ q => XS.aload X50.here hx rfl (hb hby at_102) rfl rfl q) ?_
      show OwnFin _ _ _ _ (T50.setTop (mkF m 104 #[.val (.int p0), .val (.int p1), .val (.int p2), .val (.int ((((p0.toUInt32 >>> ((8 : Int32) &&& 31).toUInt32).toInt32) &&& (255 : Int32)).toUInt32.toUInt16.toUInt32.toInt32)), .val (.ref b1), .val (.ref b10), .val (.int (own_minI (p0 &&& (3 : Int32)) (2 : Int32))), .val (.int (own_minI (p1 &&& (3 : Int32)) (2 : Int32))), .val .null, .val (.ref c48_0), .unset, .unset, .unset, .unset, .unset] [(.ref b1), (.int (own_minI (p0 &&& (3 : Int32)) (2 : Int32))), (.ref b50), (.ref b50)]))
      refine OwnFin.st (fun _ q => XS.aload X50.here hx rfl (hb hby at_104) rfl rfl q) ?_
      show OwnFin _ _ _ _ (T50.setTop (mkF m 106 #[.val (.int p0), .val (.int p1), .val (.int p2), .val (.int ((((p0.toUInt32 >>> ((8 : Int32) &&& 31).toUInt32).toInt32) &&& (255 : Int32)).toUInt32.toUInt16.toUInt32.toInt32)), .val (.ref b1), .val (.ref b10), .val (.int (own_minI (p0 &&& (3 : Int32)) (2 : Int32))), .val (.int (own_minI (p1 &&& (3 : Int32)) (2 : Int32))), .val .null, .val (.ref c48_0), .unset, .unset, .unset, .unset, .unset] [(.ref b10), (.ref b1), (.int (own_minI (p0 &&& (3 : Int32)) (2 : Int32))), (.ref b50), (.ref b50)]))
      obtain ⟨_, _, ⟨T52, L52, k52, n52⟩, -, X52, ⟨Lc52, hQ52, l52, y52, z52⟩, st52⟩ := Jvm.LawKit.callS X50 hx (y := (⟨"com/example/nepean/nepean/session/PendingKeyEqualsPinLaw", "pick", "(ILjava/lang/Object;Ljava/lang/Object;)Ljava/lang/Object;"⟩ : MethodName)) hown (mvT hZ (hw _ (List.mem_of_getElem? (i := 37) rfl))) (mvT hZ (hw _ (List.mem_of_getElem? (i := 38) rfl))) (mvT hZ (hw _ (List.mem_of_getElem? (i := 39) rfl))) (mvT hZ (hw _ (List.mem_of_getElem? (i := 40) rfl))) (by decide) (backOf (W := 2) (rm_pick l Z av0 hw [] (own_minI (p0 &&& (3 : Int32)) (2 : Int32)) b1 b10 h50 n0 (Nat.le_trans Z0 kp51.1) ) hZ (hw _ (List.mem_of_getElem? (i := 40) rfl)) (hw _ (List.mem_of_getElem? (i := 39) rfl)) (by decide) (by decide)) (g := (mkF m 106 #[.val (.int p0), .val (.int p1), .val (.int p2), .val (.int ((((p0.toUInt32 >>> ((8 : Int32) &&& 31).toUInt32).toInt32) &&& (255 : Int32)).toUInt32.toUInt16.toUInt32.toInt32)), .val (.ref b1), .val (.ref b10), .val (.int (own_minI (p0 &&& (3 : Int32)) (2 : Int32))), .val (.int (own_minI (p1 &&& (3 : Int32)) (2 : Int32))), .val .null, .val (.ref c48_0), .unset, .unset, .unset, .unset, .unset] [(.ref b10), (.ref b1), (.int (own_minI (p0 &&& (3 : Int32)) (2 : Int32))), (.ref b50), (.ref b50)])) rfl (by rw [hml]; rfl) (argsL := [(.int (own_minI (p0 &&& (3 : Int32)) (2 : Int32))), (.ref b1), (.ref b10)]) (rest := [(.ref b50), (.ref b50)]) (lenOf pd_8 rfl) rfl (by show 2 * 0 + _ ≤ _; exact Nat.le_of_eq rfl) (hb hby at_106) (fun _ _ => ⟨rfl, e50, (by decide : 8 + 0 ≤ _), (by decide : 15 + 0 ≤ _)⟩)
      dsimp only [Pt.U, Pt.locs, Pt.cells, Pt.slots] at X52 l52 y52 z52 st52 hQ52
      subst l52 y52 z52
      obtain ⟨rfl, N52q, he52⟩ := hQ52
      have N52 := Fr.app N48 N52q
      refine OwnFin.st st52 ?_
      show OwnFin _ _ _ _ (T52.setTop (mkF m 109 #[.val (.int p0), .val (.int p1), .val (.int p2), .val (.int ((((p0.toUInt32 >>> ((8 : Int32) &&& 31).toUInt32).toInt32) &&& (255 : Int32)).toUInt32.toUInt16.toUInt32.toInt32)), .val (.ref b1), .val (.ref b10), .val (.int (own_minI (p0 &&& (3 : Int32)) (2 : Int32))), .val (.int (own_minI (p1 &&& (3 : Int32)) (2 : Int32))), .val .null, .val (.ref c48_0), .unset, .unset, .unset, .unset, .unset] [(own_pick (own_minI (p0 &&& (3 : Int32)) (2 : Int32)) b1 b10), (.ref b50), (.ref b50)]))
      refine OwnFin.st (fun _ q => XS.aload X52.here hx rfl (hb hby at_109) rfl rfl q) ?_
      show OwnFin _ _ _ _ (T52.setTop (mkF m 111 #[.val (.int p0), .val (.int p1), .val (.int p2), .val (.int ((((p0.toUInt32 >>> ((8 : Int32) &&& 31).toUInt32).toInt32) &&& (255 : Int32)).toUInt32.toUInt16.toUInt32.toInt32)), .val (.ref b1), .val (.ref b10), .val (.int (own_minI (p0 &&& (3 : Int32)) (2 : Int32))), .val (.int (own_minI (p1 &&& (3 : Int32)) (2 : Int32))), .val .null, .val (.ref c48_0), .unset, .unset, .unset, .unset, .unset] [.null, (own_pick (own_minI (p0 &&& (3 : Int32)) (2 : Int32)) b1 b10), (.ref b50), (.ref b50)]))
      obtain ⟨_, _, ⟨T53, L53, k53, n53⟩, -, X53, ⟨Lc53, hQ53, l53, y53, z53⟩, st53⟩ := X52.specialBack hx (y := (⟨"com/example/nepean/nepean/session/PendingKey", "<init>", "(Ljava/lang/Object;Ljava/lang/Object;)V"⟩ : MethodName)) rfl hown (mvT hZ (hw _ (List.mem_of_getElem? (i := 41) rfl))) (mvT hZ (hw _ (List.mem_of_getElem? (i := 42) rfl))) (mvT hZ (hw _ (List.mem_of_getElem? (i := 43) rfl))) (by decide) (backOf (W := 1) (rm_pk2 l Z av0 hw [] b50 (own_pick (own_minI (p0 &&& (3 : Int32)) (2 : Int32)) b1 b10) .null .null h50 n0 (Nat.le_trans Z0 kp51.1) (own_pickr _ _ _) A50 F_entity_b50 g_b50 F_id_b50) hZ (hw _ (List.mem_of_getElem? (i := 43) rfl)) (hw _ (List.mem_of_getElem? (i := 36) rfl)) (by decide) (by decide)) (g := (mkF m 111 #[.val (.int p0), .val (.int p1), .val (.int p2), .val (.int ((((p0.toUInt32 >>> ((8 : Int32) &&& 31).toUInt32).toInt32) &&& (255 : Int32)).toUInt32.toUInt16.toUInt32.toInt32)), .val (.ref b1), .val (.ref b10), .val (.int (own_minI (p0 &&& (3 : Int32)) (2 : Int32))), .val (.int (own_minI (p1 &&& (3 : Int32)) (2 : Int32))), .val .null, .val (.ref c48_0), .unset, .unset, .unset, .unset, .unset] [.null, (own_pick (own_minI (p0 &&& (3 : Int32)) (2 : Int32)) b1 b10), (.ref b50), (.ref b50)])) rfl (by rw [hml]; rfl) (Steps.refl _) (a := b50) (argsL := [(own_pick (own_minI (p0 &&& (3 : Int32)) (2 : Int32)) b1 b10), .null]) (rest := [(.ref b50)]) (lenOf pd_9 rfl) rfl (by show 2 * 0 + _ ≤ _; exact Nat.le_of_eq rfl) (hb hby at_111) (fun _ _ => ⟨rfl, he52, (by decide : 8 + 0 ≤ _), (by decide : 15 + 0 ≤ _)⟩)
      dsimp only [Pt.U, Pt.locs, Pt.cells, Pt.slots] at X53 l53 y53 z53 st53 hQ53
      subst l53 y53 z53
      obtain ⟨rfl, N53q, K53, r53_0, r53_1⟩ := hQ53
      have N53 := Fr.app N52 N53q
      refine OwnFin.tr st53 ?_
      obtain ⟨h53, e53⟩ : ∃ z, T53.heap = z := ⟨_, rfl⟩
      rw [e53] at K53 r53_0 r53_1
      have kp54 : Keep h0 h53 [] := kp51.trans K53 (allS (Or.inr lo_b50) all0)
      have ol54 : Old Z n0 h53 := ol51.keep K53 (allS g_b50 all0)
      show OwnFin _ _ _ _ (T53.setTop (mkF m 114 #[.val (.int p0), .val (.int p1), .val (.int p2), .val (.int ((((p0.toUInt32 >>> ((8 : Int32) &&& 31).toUInt32).toInt32) &&& (255 : Int32)).toUInt32.toUInt16.toUInt32.toInt32)), .val (.ref b1), .val (.ref b10), .val (.int (own_minI (p0 &&& (3 : Int32)) (2 : Int32))), .val (.int (own_minI (p1 &&& (3 : Int32)) (2 : Int32))), .val .null, .val (.ref c48_0), .unset, .unset, .unset, .unset, .unset] [(.ref b50)]))
      refine OwnFin.st (fun _ q => XS.astore X53.here hx rfl (hb hby at_114) rfl rfl (l' := #[.val (.int p0), .val (.int p1), .val (.int p2), .val (.int ((((p0.toUInt32 >>> ((8 : Int32) &&& 31).toUInt32).toInt32) &&& (255 : Int32)).toUInt32.toUInt16.toUInt32.toInt32)), .val (.ref b1), .val (.ref b10), .val (.int (own_minI (p0 &&& (3 : Int32)) (2 : Int32))), .val (.int (own_minI (p1 &&& (3 : Int32)) (2 : Int32))), .val .null, .val (.ref c48_0), .val (.ref b50), .unset, .unset, .unset, .unset]) rfl q) ?_
      show OwnFin _ _ _ _ (T53.setTop (mkF m 116 #[.val (.int p0), .val (.int p1), .val (.int p2), .val (.int ((((p0.toUInt32 >>> ((8 : Int32) &&& 31).toUInt32).toInt32) &&& (255 : Int32)).toUInt32.toUInt16.toUInt32.toInt32)), .val (.ref b1), .val (.ref b10), .val (.int (own_minI (p0 &&& (3 : Int32)) (2 : Int32))), .val (.int (own_minI (p1 &&& (3 : Int32)) (2 : Int32))), .val .null, .val (.ref c48_0), .val (.ref b50), .unset, .unset, .unset, .unset] []))
      obtain ⟨T55, h55, X55, e55, E55, A55, D55, -, st55⟩ := newO X53 hx hZ hown (hw _ (List.mem_of_getElem? (i := 34) rfl)) (hw _ (List.mem_of_getElem? (i := 35) rfl)) (hw _ (List.mem_of_getElem? (i := 36) rfl)) e53 (g := (mkF m 116 #[.val (.int p0), .val (.int p1), .val (.int p2), .val (.int ((((p0.toUInt32 >>> ((8 : Int32) &&& 31).toUInt32).toInt32) &&& (255 : Int32)).toUInt32.toUInt16.toUInt32.toInt32)), .val (.ref b1), .val (.ref b10), .val (.int (own_minI (p0 &&& (3 : Int32)) (2 : Int32))), .val (.int (own_minI (p1 &&& (3 : Int32)) (2 : Int32))), .val .null, .val (.ref c48_0), .val (.ref b50), .unset, .unset, .unset, .unset] [])) rfl (hb hby at_116) (by decide) (by decide)
      obtain ⟨b55, qe55⟩ : ∃ z, z = h53.size := ⟨_, rfl⟩
      rw [← qe55] at A55 D55 st55
      refine OwnFin.st st55 ?_
      have bi_b55 : h53.size ≤ b55 := Nat.le_of_eq qe55.symm
      have lo_b55 : h0.size ≤ b55 := Nat.le_trans kp54.1 bi_b55
      have g_b55 : n0 ≤ b55 := Nat.le_trans Z0 lo_b55
      have kp56 : Keep h0 h55 [] := kp54.ext E55
      have ol56 : Old Z n0 h55 := ol54.ext E55
      have F_entity_b55 : Fld Z h55 b55 "com/example/nepean/nepean/session/PendingKey" "entity" "Ljava/lang/Object;" .null := D55 (Or.inr (hw _ (List.mem_of_getElem? (i := 46) rfl))) (ty := (.object "java/lang/Object")) (by decide)
      have F_id_b55 : Fld Z h55 b55 "com/example/nepean/nepean/session/PendingKey" "id" "Ljava/lang/Object;" .null := D55 (Or.inr (hw _ (List.mem_of_getElem? (i := 48) rfl))) (ty := (.object "java/lang/Object")) (by decide)
      show OwnFin _ _ _ _ (T55.setTop (mkF m 119 #[.val (.int p0), .val (.int p1), .val (.int p2), .val (.int ((((p0.toUInt32 >>> ((8 : Int32) &&& 31).toUInt32).toInt32) &&& (255 : Int32)).toUInt32.toUInt16.toUInt32.toInt32)), .val (.ref b1), .val (.ref b10), .val (.int (own_minI (p0 &&& (3 : Int32)) (2 : Int32))), .val (.int (own_minI (p1 &&& (3 : Int32)) (2 : Int32))), .val .null, .val (.ref c48_0), .val (.ref b50), .unset, .unset, .unset, .unset] [(.ref b55)]))
      refine OwnFin.st (fun _ q => XS.dup X55.here hx rfl (hb hby at_119) rfl rfl q) ?_
      show OwnFin _ _ _ _ (T55.setTop (mkF m 120 #[.val (.int p0), .val (.int p1), .val (.int p2), .val (.int ((((p0.toUInt32 >>> ((8 : Int32) &&& 31).toUInt32).toInt32) &&& (255 : Int32)).toUInt32.toUInt16.toUInt32.toInt32)), .val (.ref b1), .val (.ref b10), .val (.int (own_minI (p0 &&& (3 : Int32)) (2 : Int32))), .val (.int (own_minI (p1 &&& (3 : Int32)) (2 : Int32))), .val .null, .val (.ref c48_0), .val (.ref b50), .unset, .unset, .unset, .unset] [(.ref b55), (.ref b55)]))
      refine OwnFin.st (fun _ q => XS.iload X55.here hx rfl (hb hby at_120) rfl q) ?_
      show OwnFin _ _ _ _ (T55.setTop (mkF m 122 #[.val (.int p0), .val (.int p1), .val (.int p2), .val (.int ((((p0.toUInt32 >>> ((8 : Int32) &&& 31).toUInt32).toInt32) &&& (255 : Int32)).toUInt32.toUInt16.toUInt32.toInt32)), .val (.ref b1), .val (.ref b10), .val (.int (own_minI (p0 &&& (3 : Int32)) (2 : Int32))), .val (.int (own_minI (p1 &&& (3 : Int32)) (2 : Int32))), .val .null, .val (.ref c48_0), .val (.ref b50), .unset, .unset, .unset, .unset] [(.int (own_minI (p1 &&& (3 : Int32)) (2 : Int32))), (.ref b55), (.ref b55)]))
      refine OwnFin.st (fun _ q => XS.aload X55.here hx rfl (hb hby at_122) rfl rfl q) ?_
      show OwnFin _ _ _ _ (T55.setTop (mkF m 124 #[.val (.int p0), .val (.int p1), .val (.int p2), .val (.int ((((p0.toUInt32 >>> ((8 : Int32) &&& 31).toUInt32).toInt32) &&& (255 : Int32)).toUInt32.toUInt16.toUInt32.toInt32)), .val (.ref b1), .val (.ref b10), .val (.int (own_minI (p0 &&& (3 : Int32)) (2 : Int32))), .val (.int (own_minI (p1 &&& (3 : Int32)) (2 : Int32))), .val .null, .val (.ref c48_0), .val (.ref b50), .unset, .unset, .unset, .unset] [(.ref b1), (.int (own_minI (p1 &&& (3 : Int32)) (2 : Int32))), (.ref b55), (.ref b55)]))
      refine OwnFin.st (fun _ q => XS.aload X55.here hx rfl (hb hby at_124) rfl rfl q) ?_
      show OwnFin _ _ _ _ (T55.setTop (mkF m 126 #[.val (.int p0), .val (.int p1), .val (.int p2), .val (.int ((((p0.toUInt32 >>> ((8 : Int32) &&& 31).toUInt32).toInt32) &&& (255 : Int32)).toUInt32.toUInt16.toUInt32.toInt32)), .val (.ref b1), .val (.ref b10), .val (.int (own_minI (p0 &&& (3 : Int32)) (2 : Int32))), .val (.int (own_minI (p1 &&& (3 : Int32)) (2 : Int32))), .val .null, .val (.ref c48_0), .val (.ref b50), .unset, .unset, .unset, .unset] [(.ref b10), (.ref b1), (.int (own_minI (p1 &&& (3 : Int32)) (2 : Int32))), (.ref b55), (.ref b55)]))
      obtain ⟨_, _, ⟨T57, L57, k57, n57⟩, -, X57, ⟨Lc57, hQ57, l57, y57, z57⟩, st57⟩ := Jvm.LawKit.callS X55 hx (y := (⟨"com/example/nepean/nepean/session/PendingKeyEqualsPinLaw", "pick", "(ILjava/lang/Object;Ljava/lang/Object;)Ljava/lang/Object;"⟩ : MethodName)) hown (mvT hZ (hw _ (List.mem_of_getElem? (i := 37) rfl))) (mvT hZ (hw _ (List.mem_of_getElem? (i := 38) rfl))) (mvT hZ (hw _ (List.mem_of_getElem? (i := 39) rfl))) (mvT hZ (hw _ (List.mem_of_getElem? (i := 40) rfl))) (by decide) (backOf (W := 2) (rm_pick l Z av0 hw [] (own_minI (p1 &&& (3 : Int32)) (2 : Int32)) b1 b10 h55 n0 (Nat.le_trans Z0 kp56.1) ) hZ (hw _ (List.mem_of_getElem? (i := 40) rfl)) (hw _ (List.mem_of_getElem? (i := 39) rfl)) (by decide) (by decide)) (g := (mkF m 126 #[.val (.int p0), .val (.int p1), .val (.int p2), .val (.int ((((p0.toUInt32 >>> ((8 : Int32) &&& 31).toUInt32).toInt32) &&& (255 : Int32)).toUInt32.toUInt16.toUInt32.toInt32)), .val (.ref b1), .val (.ref b10), .val (.int (own_minI (p0 &&& (3 : Int32)) (2 : Int32))), .val (.int (own_minI (p1 &&& (3 : Int32)) (2 : Int32))), .val .null, .val (.ref c48_0), .val (.ref b50), .unset, .unset, .unset, .unset] [(.ref b10), (.ref b1), (.int (own_minI (p1 &&& (3 : Int32)) (2 : Int32))), (.ref b55), (.ref b55)])) rfl (by rw [hml]; rfl) (argsL := [(.int (own_minI (p1 &&& (3 : Int32)) (2 : Int32))), (.ref b1), (.ref b10)]) (rest := [(.ref b55), (.ref b55)]) (lenOf pd_8 rfl) rfl (by show 2 * 0 + _ ≤ _; exact Nat.le_of_eq rfl) (hb hby at_126) (fun _ _ => ⟨rfl, e55, (by decide : 9 + 0 ≤ _), (by decide : 17 + 0 ≤ _)⟩)
      dsimp only [Pt.U, Pt.locs, Pt.cells, Pt.slots] at X57 l57 y57 z57 st57 hQ57
      subst l57 y57 z57
      obtain ⟨rfl, N57q, he57⟩ := hQ57
      have N57 := Fr.app N53 N57q
      refine OwnFin.st st57 ?_
      show OwnFin _ _ _ _ (T57.setTop (mkF m 129 #[.val (.int p0), .val (.int p1), .val (.int p2), .val (.int ((((p0.toUInt32 >>> ((8 : Int32) &&& 31).toUInt32).toInt32) &&& (255 : Int32)).toUInt32.toUInt16.toUInt32.toInt32)), .val (.ref b1), .val (.ref b10), .val (.int (own_minI (p0 &&& (3 : Int32)) (2 : Int32))), .val (.int (own_minI (p1 &&& (3 : Int32)) (2 : Int32))), .val .null, .val (.ref c48_0), .val (.ref b50), .unset, .unset, .unset, .unset] [(own_pick (own_minI (p1 &&& (3 : Int32)) (2 : Int32)) b1 b10), (.ref b55), (.ref b55)]))
      refine OwnFin.st (fun _ q => XS.aload X57.here hx rfl (hb hby at_129) rfl rfl q) ?_
      show OwnFin _ _ _ _ (T57.setTop (mkF m 131 #[.val (.int p0), .val (.int p1), .val (.int p2), .val (.int ((((p0.toUInt32 >>> ((8 : Int32) &&& 31).toUInt32).toInt32) &&& (255 : Int32)).toUInt32.toUInt16.toUInt32.toInt32)), .val (.ref b1), .val (.ref b10), .val (.int (own_minI (p0 &&& (3 : Int32)) (2 : Int32))), .val (.int (own_minI (p1 &&& (3 : Int32)) (2 : Int32))), .val .null, .val (.ref c48_0), .val (.ref b50), .unset, .unset, .unset, .unset] [(.ref c48_0), (own_pick (own_minI (p1 &&& (3 : Int32)) (2 : Int32)) b1 b10), (.ref b55), (.ref b55)]))
      obtain ⟨_, _, ⟨T58, L58, k58, n58⟩, -, X58, ⟨Lc58, hQ58, l58, y58, z58⟩, st58⟩ := X57.specialBack hx (y := (⟨"com/example/nepean/nepean/session/PendingKey", "<init>", "(Ljava/lang/Object;Ljava/lang/Object;)V"⟩ : MethodName)) rfl hown (mvT hZ (hw _ (List.mem_of_getElem? (i := 41) rfl))) (mvT hZ (hw _ (List.mem_of_getElem? (i := 42) rfl))) (mvT hZ (hw _ (List.mem_of_getElem? (i := 43) rfl))) (by decide) (backOf (W := 1) (rm_pk l Z av0 hw [] b55 (own_pick (own_minI (p1 &&& (3 : Int32)) (2 : Int32)) b1 b10) c48_0 .null .null h55 n0 (Nat.le_trans Z0 kp56.1) (own_pickr _ _ _) A55 F_entity_b55 g_b55 F_id_b55) hZ (hw _ (List.mem_of_getElem? (i := 43) rfl)) (hw _ (List.mem_of_getElem? (i := 36) rfl)) (by decide) (by decide)) (g := (mkF m 131 #[.val (.int p0), .val (.int p1), .val (.int p2), .val (.int ((((p0.toUInt32 >>> ((8 : Int32) &&& 31).toUInt32).toInt32) &&& (255 : Int32)).toUInt32.toUInt16.toUInt32.toInt32)), .val (.ref b1), .val (.ref b10), .val (.int (own_minI (p0 &&& (3 : Int32)) (2 : Int32))), .val (.int (own_minI (p1 &&& (3 : Int32)) (2 : Int32))), .val .null, .val (.ref c48_0), .val (.ref b50), .unset, .unset, .unset, .unset] [(.ref c48_0), (own_pick (own_minI (p1 &&& (3 : Int32)) (2 : Int32)) b1 b10), (.ref b55), (.ref b55)])) rfl (by rw [hml]; rfl) (Steps.refl _) (a := b55) (argsL := [(own_pick (own_minI (p1 &&& (3 : Int32)) (2 : Int32)) b1 b10), (.ref c48_0)]) (rest := [(.ref b55)]) (lenOf pd_9 rfl) rfl (by show 2 * 0 + _ ≤ _; exact Nat.le_of_eq rfl) (hb hby at_131) (fun _ _ => ⟨rfl, he57, (by decide : 9 + 0 ≤ _), (by decide : 17 + 0 ≤ _)⟩)
      dsimp only [Pt.U, Pt.locs, Pt.cells, Pt.slots] at X58 l58 y58 z58 st58 hQ58
      subst l58 y58 z58
      obtain ⟨rfl, N58q, K58, r58_0, r58_1⟩ := hQ58
      have N58 := Fr.app N57 N58q
      refine OwnFin.tr st58 ?_
      obtain ⟨h58, e58⟩ : ∃ z, T58.heap = z := ⟨_, rfl⟩
      rw [e58] at K58 r58_0 r58_1
      have kp59 : Keep h0 h58 [] := kp56.trans K58 (allS (Or.inr lo_b55) all0)
      have ol59 : Old Z n0 h58 := ol56.keep K58 (allS g_b55 all0)
      show OwnFin _ _ _ _ (T58.setTop (mkF m 134 #[.val (.int p0), .val (.int p1), .val (.int p2), .val (.int ((((p0.toUInt32 >>> ((8 : Int32) &&& 31).toUInt32).toInt32) &&& (255 : Int32)).toUInt32.toUInt16.toUInt32.toInt32)), .val (.ref b1), .val (.ref b10), .val (.int (own_minI (p0 &&& (3 : Int32)) (2 : Int32))), .val (.int (own_minI (p1 &&& (3 : Int32)) (2 : Int32))), .val .null, .val (.ref c48_0), .val (.ref b50), .unset, .unset, .unset, .unset] [(.ref b55)]))
      refine OwnFin.st (fun _ q => XS.astore X58.here hx rfl (hb hby at_134) rfl rfl (l' := #[.val (.int p0), .val (.int p1), .val (.int p2), .val (.int ((((p0.toUInt32 >>> ((8 : Int32) &&& 31).toUInt32).toInt32) &&& (255 : Int32)).toUInt32.toUInt16.toUInt32.toInt32)), .val (.ref b1), .val (.ref b10), .val (.int (own_minI (p0 &&& (3 : Int32)) (2 : Int32))), .val (.int (own_minI (p1 &&& (3 : Int32)) (2 : Int32))), .val .null, .val (.ref c48_0), .val (.ref b50), .val (.ref b55), .unset, .unset, .unset]) rfl q) ?_
      show OwnFin _ _ _ _ (T58.setTop (mkF m 136 #[.val (.int p0), .val (.int p1), .val (.int p2), .val (.int ((((p0.toUInt32 >>> ((8 : Int32) &&& 31).toUInt32).toInt32) &&& (255 : Int32)).toUInt32.toUInt16.toUInt32.toInt32)), .val (.ref b1), .val (.ref b10), .val (.int (own_minI (p0 &&& (3 : Int32)) (2 : Int32))), .val (.int (own_minI (p1 &&& (3 : Int32)) (2 : Int32))), .val .null, .val (.ref c48_0), .val (.ref b50), .val (.ref b55), .unset, .unset, .unset] []))
      refine OwnFin.st (fun _ q => XS.iloadN X58.here hx rfl (hb hby at_136) rfl q) ?_
      show OwnFin _ _ _ _ (T58.setTop (mkF m 137 #[.val (.int p0), .val (.int p1), .val (.int p2), .val (.int ((((p0.toUInt32 >>> ((8 : Int32) &&& 31).toUInt32).toInt32) &&& (255 : Int32)).toUInt32.toUInt16.toUInt32.toInt32)), .val (.ref b1), .val (.ref b10), .val (.int (own_minI (p0 &&& (3 : Int32)) (2 : Int32))), .val (.int (own_minI (p1 &&& (3 : Int32)) (2 : Int32))), .val .null, .val (.ref c48_0), .val (.ref b50), .val (.ref b55), .unset, .unset, .unset] [(.int p2)]))
      refine OwnFin.st (fun _ q => XS.iconst X58.here hx rfl (hb hby at_137) q) ?_
      show OwnFin _ _ _ _ (T58.setTop (mkF m 138 #[.val (.int p0), .val (.int p1), .val (.int p2), .val (.int ((((p0.toUInt32 >>> ((8 : Int32) &&& 31).toUInt32).toInt32) &&& (255 : Int32)).toUInt32.toUInt16.toUInt32.toInt32)), .val (.ref b1), .val (.ref b10), .val (.int (own_minI (p0 &&& (3 : Int32)) (2 : Int32))), .val (.int (own_minI (p1 &&& (3 : Int32)) (2 : Int32))), .val .null, .val (.ref c48_0), .val (.ref b50), .val (.ref b55), .unset, .unset, .unset] [(.int (3 : Int32)), (.int p2)]))
      refine OwnFin.st (fun _ q => XS.iand X58.here hx rfl (hb hby at_138) rfl q) ?_
      show OwnFin _ _ _ _ (T58.setTop (mkF m 139 #[.val (.int p0), .val (.int p1), .val (.int p2), .val (.int ((((p0.toUInt32 >>> ((8 : Int32) &&& 31).toUInt32).toInt32) &&& (255 : Int32)).toUInt32.toUInt16.toUInt32.toInt32)), .val (.ref b1), .val (.ref b10), .val (.int (own_minI (p0 &&& (3 : Int32)) (2 : Int32))), .val (.int (own_minI (p1 &&& (3 : Int32)) (2 : Int32))), .val .null, .val (.ref c48_0), .val (.ref b50), .val (.ref b55), .unset, .unset, .unset] [(.int (p2 &&& (3 : Int32)))]))
      refine OwnFin.st (fun _ q => XS.istore X58.here hx rfl (hb hby at_139) rfl (l' := #[.val (.int p0), .val (.int p1), .val (.int p2), .val (.int ((((p0.toUInt32 >>> ((8 : Int32) &&& 31).toUInt32).toInt32) &&& (255 : Int32)).toUInt32.toUInt16.toUInt32.toInt32)), .val (.ref b1), .val (.ref b10), .val (.int (own_minI (p0 &&& (3 : Int32)) (2 : Int32))), .val (.int (own_minI (p1 &&& (3 : Int32)) (2 : Int32))), .val .null, .val (.ref c48_0), .val (.ref b50), .val (.ref b55), .val (.int (p2 &&& (3 : Int32))), .unset, .unset]) rfl q) ?_
      show OwnFin _ _ _ _ (T58.setTop (mkF m 141 #[.val (.int p0), .val (.int p1), .val (.int p2), .val (.int ((((p0.toUInt32 >>> ((8 : Int32) &&& 31).toUInt32).toInt32) &&& (255 : Int32)).toUInt32.toUInt16.toUInt32.toInt32)), .val (.ref b1), .val (.ref b10), .val (.int (own_minI (p0 &&& (3 : Int32)) (2 : Int32))), .val (.int (own_minI (p1 &&& (3 : Int32)) (2 : Int32))), .val .null, .val (.ref c48_0), .val (.ref b50), .val (.ref b55), .val (.int (p2 &&& (3 : Int32))), .unset, .unset] []))
      refine OwnFin.st (fun _ q => XS.iload X58.here hx rfl (hb hby at_141) rfl q) ?_
      show OwnFin _ _ _ _ (T58.setTop (mkF m 143 #[.val (.int p0), .val (.int p1), .val (.int p2), .val (.int ((((p0.toUInt32 >>> ((8 : Int32) &&& 31).toUInt32).toInt32) &&& (255 : Int32)).toUInt32.toUInt16.toUInt32.toInt32)), .val (.ref b1), .val (.ref b10), .val (.int (own_minI (p0 &&& (3 : Int32)) (2 : Int32))), .val (.int (own_minI (p1 &&& (3 : Int32)) (2 : Int32))), .val .null, .val (.ref c48_0), .val (.ref b50), .val (.ref b55), .val (.int (p2 &&& (3 : Int32))), .unset, .unset] [(.int (p2 &&& (3 : Int32)))]))
      by_cases hc60 : (p2 &&& (3 : Int32)) = (0 : Int32)
      · skip
        refine OwnFin.st (fun _ q => XS.ifNo X58.here hx rfl (hb hby at_143) rfl (Jvm.Free.XT.i0_ne_f hc60) q) ?_
        show OwnFin _ _ _ _ (T58.setTop (mkF m 146 #[.val (.int p0), .val (.int p1), .val (.int p2), .val (.int ((((p0.toUInt32 >>> ((8 : Int32) &&& 31).toUInt32).toInt32) &&& (255 : Int32)).toUInt32.toUInt16.toUInt32.toInt32)), .val (.ref b1), .val (.ref b10), .val (.int (own_minI (p0 &&& (3 : Int32)) (2 : Int32))), .val (.int (own_minI (p1 &&& (3 : Int32)) (2 : Int32))), .val .null, .val (.ref c48_0), .val (.ref b50), .val (.ref b55), .val (.int (p2 &&& (3 : Int32))), .unset, .unset] []))
        refine OwnFin.st (fun _ q => XS.aload X58.here hx rfl (hb hby at_146) rfl rfl q) ?_
        show OwnFin _ _ _ _ (T58.setTop (mkF m 148 #[.val (.int p0), .val (.int p1), .val (.int p2), .val (.int ((((p0.toUInt32 >>> ((8 : Int32) &&& 31).toUInt32).toInt32) &&& (255 : Int32)).toUInt32.toUInt16.toUInt32.toInt32)), .val (.ref b1), .val (.ref b10), .val (.int (own_minI (p0 &&& (3 : Int32)) (2 : Int32))), .val (.int (own_minI (p1 &&& (3 : Int32)) (2 : Int32))), .val .null, .val (.ref c48_0), .val (.ref b50), .val (.ref b55), .val (.int (p2 &&& (3 : Int32))), .unset, .unset] [(.ref b55)]))
        refine OwnFin.st (fun _ q => XS.astore X58.here hx rfl (hb hby at_148) rfl rfl (l' := #[.val (.int p0), .val (.int p1), .val (.int p2), .val (.int ((((p0.toUInt32 >>> ((8 : Int32) &&& 31).toUInt32).toInt32) &&& (255 : Int32)).toUInt32.toUInt16.toUInt32.toInt32)), .val (.ref b1), .val (.ref b10), .val (.int (own_minI (p0 &&& (3 : Int32)) (2 : Int32))), .val (.int (own_minI (p1 &&& (3 : Int32)) (2 : Int32))), .val .null, .val (.ref c48_0), .val (.ref b50), .val (.ref b55), .val (.int (p2 &&& (3 : Int32))), .val (.ref b55), .unset]) rfl q) ?_
        show OwnFin _ _ _ _ (T58.setTop (mkF m 150 #[.val (.int p0), .val (.int p1), .val (.int p2), .val (.int ((((p0.toUInt32 >>> ((8 : Int32) &&& 31).toUInt32).toInt32) &&& (255 : Int32)).toUInt32.toUInt16.toUInt32.toInt32)), .val (.ref b1), .val (.ref b10), .val (.int (own_minI (p0 &&& (3 : Int32)) (2 : Int32))), .val (.int (own_minI (p1 &&& (3 : Int32)) (2 : Int32))), .val .null, .val (.ref c48_0), .val (.ref b50), .val (.ref b55), .val (.int (p2 &&& (3 : Int32))), .val (.ref b55), .unset] []))
        refine OwnFin.st (fun _ q => XS.iload X58.here hx rfl (hb hby at_150) rfl q) ?_
        show OwnFin _ _ _ _ (T58.setTop (mkF m 152 #[.val (.int p0), .val (.int p1), .val (.int p2), .val (.int ((((p0.toUInt32 >>> ((8 : Int32) &&& 31).toUInt32).toInt32) &&& (255 : Int32)).toUInt32.toUInt16.toUInt32.toInt32)), .val (.ref b1), .val (.ref b10), .val (.int (own_minI (p0 &&& (3 : Int32)) (2 : Int32))), .val (.int (own_minI (p1 &&& (3 : Int32)) (2 : Int32))), .val .null, .val (.ref c48_0), .val (.ref b50), .val (.ref b55), .val (.int (p2 &&& (3 : Int32))), .val (.ref b55), .unset] [(.int (own_minI (p0 &&& (3 : Int32)) (2 : Int32)))]))
        refine OwnFin.st (fun _ q => XS.iload X58.here hx rfl (hb hby at_152) rfl q) ?_
        show OwnFin _ _ _ _ (T58.setTop (mkF m 154 #[.val (.int p0), .val (.int p1), .val (.int p2), .val (.int ((((p0.toUInt32 >>> ((8 : Int32) &&& 31).toUInt32).toInt32) &&& (255 : Int32)).toUInt32.toUInt16.toUInt32.toInt32)), .val (.ref b1), .val (.ref b10), .val (.int (own_minI (p0 &&& (3 : Int32)) (2 : Int32))), .val (.int (own_minI (p1 &&& (3 : Int32)) (2 : Int32))), .val .null, .val (.ref c48_0), .val (.ref b50), .val (.ref b55), .val (.int (p2 &&& (3 : Int32))), .val (.ref b55), .unset] [(.int (own_minI (p1 &&& (3 : Int32)) (2 : Int32))), (.int (own_minI (p0 &&& (3 : Int32)) (2 : Int32)))]))
        by_cases hc61 : (own_minI (p0 &&& (3 : Int32)) (2 : Int32)) = (own_minI (p1 &&& (3 : Int32)) (2 : Int32))
        · skip
          refine OwnFin.st (fun _ q => XS.icmpNo X58.here hx rfl (hb hby at_154) rfl (Jvm.Free.XT.ii_ne_f hc61) q) ?_
          show OwnFin _ _ _ _ (T58.setTop (mkF m 157 #[.val (.int p0), .val (.int p1), .val (.int p2), .val (.int ((((p0.toUInt32 >>> ((8 : Int32) &&& 31).toUInt32).toInt32) &&& (255 : Int32)).toUInt32.toUInt16.toUInt32.toInt32)), .val (.ref b1), .val (.ref b10), .val (.int (own_minI (p0 &&& (3 : Int32)) (2 : Int32))), .val (.int (own_minI (p1 &&& (3 : Int32)) (2 : Int32))), .val .null, .val (.ref c48_0), .val (.ref b50), .val (.ref b55), .val (.int (p2 &&& (3 : Int32))), .val (.ref b55), .unset] []))
          refine OwnFin.st (fun _ q => XS.iconst X58.here hx rfl (hb hby at_157) q) ?_
          show OwnFin _ _ _ _ (T58.setTop (mkF m 158 #[.val (.int p0), .val (.int p1), .val (.int p2), .val (.int ((((p0.toUInt32 >>> ((8 : Int32) &&& 31).toUInt32).toInt32) &&& (255 : Int32)).toUInt32.toUInt16.toUInt32.toInt32)), .val (.ref b1), .val (.ref b10), .val (.int (own_minI (p0 &&& (3 : Int32)) (2 : Int32))), .val (.int (own_minI (p1 &&& (3 : Int32)) (2 : Int32))), .val .null, .val (.ref c48_0), .val (.ref b50), .val (.ref b55), .val (.int (p2 &&& (3 : Int32))), .val (.ref b55), .unset] [(.int (1 : Int32))]))
          refine OwnFin.st (fun _ q => XS.goto X58.here hx rfl (pc0 := 158) (pc' := 162) rfl (hb hby at_158) (by decide) (by decide) q) ?_
          show OwnFin _ _ _ _ (T58.setTop (mkF m 162 #[.val (.int p0), .val (.int p1), .val (.int p2), .val (.int ((((p0.toUInt32 >>> ((8 : Int32) &&& 31).toUInt32).toInt32) &&& (255 : Int32)).toUInt32.toUInt16.toUInt32.toInt32)), .val (.ref b1), .val (.ref b10), .val (.int (own_minI (p0 &&& (3 : Int32)) (2 : Int32))), .val (.int (own_minI (p1 &&& (3 : Int32)) (2 : Int32))), .val .null, .val (.ref c48_0), .val (.ref b50), .val (.ref b55), .val (.int (p2 &&& (3 : Int32))), .val (.ref b55), .unset] [(.int (1 : Int32))]))
          refine OwnFin.st (fun _ q => XS.istore X58.here hx rfl (hb hby at_162) rfl (l' := #[.val (.int p0), .val (.int p1), .val (.int p2), .val (.int ((((p0.toUInt32 >>> ((8 : Int32) &&& 31).toUInt32).toInt32) &&& (255 : Int32)).toUInt32.toUInt16.toUInt32.toInt32)), .val (.ref b1), .val (.ref b10), .val (.int (own_minI (p0 &&& (3 : Int32)) (2 : Int32))), .val (.int (own_minI (p1 &&& (3 : Int32)) (2 : Int32))), .val .null, .val (.ref c48_0), .val (.ref b50), .val (.ref b55), .val (.int (p2 &&& (3 : Int32))), .val (.ref b55), .val (.int (1 : Int32))]) rfl q) ?_
          show OwnFin _ _ _ _ (T58.setTop (mkF m 164 #[.val (.int p0), .val (.int p1), .val (.int p2), .val (.int ((((p0.toUInt32 >>> ((8 : Int32) &&& 31).toUInt32).toInt32) &&& (255 : Int32)).toUInt32.toUInt16.toUInt32.toInt32)), .val (.ref b1), .val (.ref b10), .val (.int (own_minI (p0 &&& (3 : Int32)) (2 : Int32))), .val (.int (own_minI (p1 &&& (3 : Int32)) (2 : Int32))), .val .null, .val (.ref c48_0), .val (.ref b50), .val (.ref b55), .val (.int (p2 &&& (3 : Int32))), .val (.ref b55), .val (.int (1 : Int32))] []))
          refine OwnFin.st (fun _ q => XS.goto X58.here hx rfl (pc0 := 164) (pc' := 212) rfl (hb hby at_164) (by decide) (by decide) q) ?_
          show OwnFin _ _ _ _ (T58.setTop (mkF m 212 #[.val (.int p0), .val (.int p1), .val (.int p2), .val (.int ((((p0.toUInt32 >>> ((8 : Int32) &&& 31).toUInt32).toInt32) &&& (255 : Int32)).toUInt32.toUInt16.toUInt32.toInt32)), .val (.ref b1), .val (.ref b10), .val (.int (own_minI (p0 &&& (3 : Int32)) (2 : Int32))), .val (.int (own_minI (p1 &&& (3 : Int32)) (2 : Int32))), .val .null, .val (.ref c48_0), .val (.ref b50), .val (.ref b55), .val (.int (p2 &&& (3 : Int32))), .val (.ref b55), .val (.int (1 : Int32))] []))
          refine OwnFin.st (fun _ q => XS.aload X58.here hx rfl (hb hby at_212) rfl rfl q) ?_
          show OwnFin _ _ _ _ (T58.setTop (mkF m 214 #[.val (.int p0), .val (.int p1), .val (.int p2), .val (.int ((((p0.toUInt32 >>> ((8 : Int32) &&& 31).toUInt32).toInt32) &&& (255 : Int32)).toUInt32.toUInt16.toUInt32.toInt32)), .val (.ref b1), .val (.ref b10), .val (.int (own_minI (p0 &&& (3 : Int32)) (2 : Int32))), .val (.int (own_minI (p1 &&& (3 : Int32)) (2 : Int32))), .val .null, .val (.ref c48_0), .val (.ref b50), .val (.ref b55), .val (.int (p2 &&& (3 : Int32))), .val (.ref b55), .val (.int (1 : Int32))] [(.ref b50)]))
          refine OwnFin.st (fun _ q => XS.aload X58.here hx rfl (hb hby at_214) rfl rfl q) ?_
          show OwnFin _ _ _ _ (T58.setTop (mkF m 216 #[.val (.int p0), .val (.int p1), .val (.int p2), .val (.int ((((p0.toUInt32 >>> ((8 : Int32) &&& 31).toUInt32).toInt32) &&& (255 : Int32)).toUInt32.toUInt16.toUInt32.toInt32)), .val (.ref b1), .val (.ref b10), .val (.int (own_minI (p0 &&& (3 : Int32)) (2 : Int32))), .val (.int (own_minI (p1 &&& (3 : Int32)) (2 : Int32))), .val .null, .val (.ref c48_0), .val (.ref b50), .val (.ref b55), .val (.int (p2 &&& (3 : Int32))), .val (.ref b55), .val (.int (1 : Int32))] [(.ref b55), (.ref b50)]))
          obtain ⟨cq62, kq62, q62a, q62b, q62c⟩ := isOf hZ e58 (((A50.keep K53).ext E55).keep K58)
          obtain ⟨_, _, ⟨T62, L62, k62, n62⟩, -, X62, ⟨Lc62, hQ62, l62, y62, z62⟩, st62⟩ := X58.virtualBack hx (y := (⟨"com/example/nepean/nepean/session/PendingKey", "equals", "(Ljava/lang/Object;)Z"⟩ : MethodName)) (z := (⟨"com/example/nepean/nepean/session/PendingKey", "equals", "(Ljava/lang/Object;)Z"⟩ : MethodName)) hown (mvT hZ (hw _ (List.mem_of_getElem? (i := 49) rfl))) (mvT hZ (hw _ (List.mem_of_getElem? (i := 50) rfl))) (notFace_of_selects (args := #[]) (mvT hZ (hw _ (List.mem_of_getElem? (i := 52) rfl)))) (mvT hZ (hw _ (List.mem_of_getElem? (i := 52) rfl))) (mvT hZ (hw _ (List.mem_of_getElem? (i := 51) rfl))) (by decide) (backOf (W := 0) (rm_eqPT l Z av0 hw [] b50 b55 (own_pick (own_minI (p1 &&& (3 : Int32)) (2 : Int32)) b1 b10) (own_pick (own_minI (p0 &&& (3 : Int32)) (2 : Int32)) b1 b10) h58 n0 (Nat.le_trans Z0 kp59.1) (A55.keep K58) r58_0 ((r53_0.ext E55).keep K58 (ninS (Nat.ne_of_lt (Nat.lt_of_lt_of_le (A50.keep K53).lt bi_b55)) nin0)) (congrArg (fun z => own_pick z b1 b10) (Eq.symm hc61)) (own_pickr _ _ _) (own_pickr _ _ _)) hZ (hw _ (List.mem_of_getElem? (i := 53) rfl)) (hw _ (List.mem_of_getElem? (i := 36) rfl)) (by decide) (by decide)) q62a q62c (g := (mkF m 216 #[.val (.int p0), .val (.int p1), .val (.int p2), .val (.int ((((p0.toUInt32 >>> ((8 : Int32) &&& 31).toUInt32).toInt32) &&& (255 : Int32)).toUInt32.toUInt16.toUInt32.toInt32)), .val (.ref b1), .val (.ref b10), .val (.int (own_minI (p0 &&& (3 : Int32)) (2 : Int32))), .val (.int (own_minI (p1 &&& (3 : Int32)) (2 : Int32))), .val .null, .val (.ref c48_0), .val (.ref b50), .val (.ref b55), .val (.int (p2 &&& (3 : Int32))), .val (.ref b55), .val (.int (1 : Int32))] [(.ref b55), (.ref b50)])) rfl (by rw [hml]; rfl) (Steps.refl _) (argsL := [(.ref b55)]) (rest := []) (lenOf pd_10 rfl) rfl (by show 2 * 0 + _ ≤ _; exact Nat.le_of_eq rfl) (hb hby at_216) (fun _ _ => ⟨rfl, e58, (by decide : 9 + 0 ≤ _), (by decide : 17 + 0 ≤ _)⟩)
          dsimp only [Pt.U, Pt.locs, Pt.cells, Pt.slots] at X62 l62 y62 z62 st62 hQ62
          subst l62 y62 z62
          obtain ⟨rfl, N62q, he62⟩ := hQ62
          have N62 := Fr.app N58 N62q
          refine OwnFin.tr st62 ?_
          show OwnFin _ _ _ _ (T62.setTop (mkF m 219 #[.val (.int p0), .val (.int p1), .val (.int p2), .val (.int ((((p0.toUInt32 >>> ((8 : Int32) &&& 31).toUInt32).toInt32) &&& (255 : Int32)).toUInt32.toUInt16.toUInt32.toInt32)), .val (.ref b1), .val (.ref b10), .val (.int (own_minI (p0 &&& (3 : Int32)) (2 : Int32))), .val (.int (own_minI (p1 &&& (3 : Int32)) (2 : Int32))), .val .null, .val (.ref c48_0), .val (.ref b50), .val (.ref b55), .val (.int (p2 &&& (3 : Int32))), .val (.ref b55), .val (.int (1 : Int32))] [(.int (1 : Int32))]))
          refine OwnFin.st (fun _ q => XS.iload X62.here hx rfl (hb hby at_219) rfl q) ?_
          show OwnFin _ _ _ _ (T62.setTop (mkF m 221 #[.val (.int p0), .val (.int p1), .val (.int p2), .val (.int ((((p0.toUInt32 >>> ((8 : Int32) &&& 31).toUInt32).toInt32) &&& (255 : Int32)).toUInt32.toUInt16.toUInt32.toInt32)), .val (.ref b1), .val (.ref b10), .val (.int (own_minI (p0 &&& (3 : Int32)) (2 : Int32))), .val (.int (own_minI (p1 &&& (3 : Int32)) (2 : Int32))), .val .null, .val (.ref c48_0), .val (.ref b50), .val (.ref b55), .val (.int (p2 &&& (3 : Int32))), .val (.ref b55), .val (.int (1 : Int32))] [(.int (1 : Int32)), (.int (1 : Int32))]))
          refine OwnFin.st (fun _ q => XS.icmpNo X62.here hx rfl (hb hby at_221) rfl (Jvm.Free.XT.ii_ne_f (rfl : (1 : Int32) = (1 : Int32))) q) ?_
          show OwnFin _ _ _ _ (T62.setTop (mkF m 224 #[.val (.int p0), .val (.int p1), .val (.int p2), .val (.int ((((p0.toUInt32 >>> ((8 : Int32) &&& 31).toUInt32).toInt32) &&& (255 : Int32)).toUInt32.toUInt16.toUInt32.toInt32)), .val (.ref b1), .val (.ref b10), .val (.int (own_minI (p0 &&& (3 : Int32)) (2 : Int32))), .val (.int (own_minI (p1 &&& (3 : Int32)) (2 : Int32))), .val .null, .val (.ref c48_0), .val (.ref b50), .val (.ref b55), .val (.int (p2 &&& (3 : Int32))), .val (.ref b55), .val (.int (1 : Int32))] []))
          refine OwnFin.st (fun _ q => XS.iconst X62.here hx rfl (hb hby at_224) q) ?_
          show OwnFin _ _ _ _ (T62.setTop (mkF m 225 #[.val (.int p0), .val (.int p1), .val (.int p2), .val (.int ((((p0.toUInt32 >>> ((8 : Int32) &&& 31).toUInt32).toInt32) &&& (255 : Int32)).toUInt32.toUInt16.toUInt32.toInt32)), .val (.ref b1), .val (.ref b10), .val (.int (own_minI (p0 &&& (3 : Int32)) (2 : Int32))), .val (.int (own_minI (p1 &&& (3 : Int32)) (2 : Int32))), .val .null, .val (.ref c48_0), .val (.ref b50), .val (.ref b55), .val (.int (p2 &&& (3 : Int32))), .val (.ref b55), .val (.int (1 : Int32))] [(.int (1 : Int32))]))
          refine OwnFin.st (fun _ q => XS.goto X62.here hx rfl (pc0 := 225) (pc' := 229) rfl (hb hby at_225) (by decide) (by decide) q) ?_
          show OwnFin _ _ _ _ (T62.setTop (mkF m 229 #[.val (.int p0), .val (.int p1), .val (.int p2), .val (.int ((((p0.toUInt32 >>> ((8 : Int32) &&& 31).toUInt32).toInt32) &&& (255 : Int32)).toUInt32.toUInt16.toUInt32.toInt32)), .val (.ref b1), .val (.ref b10), .val (.int (own_minI (p0 &&& (3 : Int32)) (2 : Int32))), .val (.int (own_minI (p1 &&& (3 : Int32)) (2 : Int32))), .val .null, .val (.ref c48_0), .val (.ref b50), .val (.ref b55), .val (.int (p2 &&& (3 : Int32))), .val (.ref b55), .val (.int (1 : Int32))] [(.int (1 : Int32))]))
          obtain ⟨fs, hr, hrun, hended, hW, hsame⟩ := X62.leave (v := some (.int (1 : Int32))) (fun h => by rw [Bd.returns] at h; cases h)
          refine ⟨_, _, retN X62 hx (t := .boolean) Bd.returns (by simp) (hb hby at_229) hr, hrun, hended, _, _, rfl, ?_, ⟨_, rfl⟩, hW, hsame.mono (by decide) (by decide)⟩
          show Q_rm0 Z p0 p1 p2 w_COMPACT_STRINGS clI w_cache h0 n0 _ T62.heap _
          rw [he62]
          exact ⟨rfl, N62⟩
        · skip
          refine OwnFin.st (fun _ q => XS.icmpYes X58.here hx rfl (pc0 := 154) (pc' := 161) rfl (hb hby at_154) rfl (Jvm.Free.XT.ii_ne_t hc61) (by decide) (by decide) q) ?_
          show OwnFin _ _ _ _ (T58.setTop (mkF m 161 #[.val (.int p0), .val (.int p1), .val (.int p2), .val (.int ((((p0.toUInt32 >>> ((8 : Int32) &&& 31).toUInt32).toInt32) &&& (255 : Int32)).toUInt32.toUInt16.toUInt32.toInt32)), .val (.ref b1), .val (.ref b10), .val (.int (own_minI (p0 &&& (3 : Int32)) (2 : Int32))), .val (.int (own_minI (p1 &&& (3 : Int32)) (2 : Int32))), .val .null, .val (.ref c48_0), .val (.ref b50), .val (.ref b55), .val (.int (p2 &&& (3 : Int32))), .val (.ref b55), .unset] []))
          refine OwnFin.st (fun _ q => XS.iconst X58.here hx rfl (hb hby at_161) q) ?_
          show OwnFin _ _ _ _ (T58.setTop (mkF m 162 #[.val (.int p0), .val (.int p1), .val (.int p2), .val (.int ((((p0.toUInt32 >>> ((8 : Int32) &&& 31).toUInt32).toInt32) &&& (255 : Int32)).toUInt32.toUInt16.toUInt32.toInt32)), .val (.ref b1), .val (.ref b10), .val (.int (own_minI (p0 &&& (3 : Int32)) (2 : Int32))), .val (.int (own_minI (p1 &&& (3 : Int32)) (2 : Int32))), .val .null, .val (.ref c48_0), .val (.ref b50), .val (.ref b55), .val (.int (p2 &&& (3 : Int32))), .val (.ref b55), .unset] [(.int (0 : Int32))]))
          refine OwnFin.st (fun _ q => XS.istore X58.here hx rfl (hb hby at_162) rfl (l' := #[.val (.int p0), .val (.int p1), .val (.int p2), .val (.int ((((p0.toUInt32 >>> ((8 : Int32) &&& 31).toUInt32).toInt32) &&& (255 : Int32)).toUInt32.toUInt16.toUInt32.toInt32)), .val (.ref b1), .val (.ref b10), .val (.int (own_minI (p0 &&& (3 : Int32)) (2 : Int32))), .val (.int (own_minI (p1 &&& (3 : Int32)) (2 : Int32))), .val .null, .val (.ref c48_0), .val (.ref b50), .val (.ref b55), .val (.int (p2 &&& (3 : Int32))), .val (.ref b55), .val (.int (0 : Int32))]) rfl q) ?_
          show OwnFin _ _ _ _ (T58.setTop (mkF m 164 #[.val (.int p0), .val (.int p1), .val (.int p2), .val (.int ((((p0.toUInt32 >>> ((8 : Int32) &&& 31).toUInt32).toInt32) &&& (255 : Int32)).toUInt32.toUInt16.toUInt32.toInt32)), .val (.ref b1), .val (.ref b10), .val (.int (own_minI (p0 &&& (3 : Int32)) (2 : Int32))), .val (.int (own_minI (p1 &&& (3 : Int32)) (2 : Int32))), .val .null, .val (.ref c48_0), .val (.ref b50), .val (.ref b55), .val (.int (p2 &&& (3 : Int32))), .val (.ref b55), .val (.int (0 : Int32))] []))
          refine OwnFin.st (fun _ q => XS.goto X58.here hx rfl (pc0 := 164) (pc' := 212) rfl (hb hby at_164) (by decide) (by decide) q) ?_
          show OwnFin _ _ _ _ (T58.setTop (mkF m 212 #[.val (.int p0), .val (.int p1), .val (.int p2), .val (.int ((((p0.toUInt32 >>> ((8 : Int32) &&& 31).toUInt32).toInt32) &&& (255 : Int32)).toUInt32.toUInt16.toUInt32.toInt32)), .val (.ref b1), .val (.ref b10), .val (.int (own_minI (p0 &&& (3 : Int32)) (2 : Int32))), .val (.int (own_minI (p1 &&& (3 : Int32)) (2 : Int32))), .val .null, .val (.ref c48_0), .val (.ref b50), .val (.ref b55), .val (.int (p2 &&& (3 : Int32))), .val (.ref b55), .val (.int (0 : Int32))] []))
          refine OwnFin.st (fun _ q => XS.aload X58.here hx rfl (hb hby at_212) rfl rfl q) ?_
          show OwnFin _ _ _ _ (T58.setTop (mkF m 214 #[.val (.int p0), .val (.int p1), .val (.int p2), .val (.int ((((p0.toUInt32 >>> ((8 : Int32) &&& 31).toUInt32).toInt32) &&& (255 : Int32)).toUInt32.toUInt16.toUInt32.toInt32)), .val (.ref b1), .val (.ref b10), .val (.int (own_minI (p0 &&& (3 : Int32)) (2 : Int32))), .val (.int (own_minI (p1 &&& (3 : Int32)) (2 : Int32))), .val .null, .val (.ref c48_0), .val (.ref b50), .val (.ref b55), .val (.int (p2 &&& (3 : Int32))), .val (.ref b55), .val (.int (0 : Int32))] [(.ref b50)]))
          refine OwnFin.st (fun _ q => XS.aload X58.here hx rfl (hb hby at_214) rfl rfl q) ?_
          show OwnFin _ _ _ _ (T58.setTop (mkF m 216 #[.val (.int p0), .val (.int p1), .val (.int p2), .val (.int ((((p0.toUInt32 >>> ((8 : Int32) &&& 31).toUInt32).toInt32) &&& (255 : Int32)).toUInt32.toUInt16.toUInt32.toInt32)), .val (.ref b1), .val (.ref b10), .val (.int (own_minI (p0 &&& (3 : Int32)) (2 : Int32))), .val (.int (own_minI (p1 &&& (3 : Int32)) (2 : Int32))), .val .null, .val (.ref c48_0), .val (.ref b50), .val (.ref b55), .val (.int (p2 &&& (3 : Int32))), .val (.ref b55), .val (.int (0 : Int32))] [(.ref b55), (.ref b50)]))
          obtain ⟨cq63, kq63, q63a, q63b, q63c⟩ := isOf hZ e58 (((A50.keep K53).ext E55).keep K58)
          obtain ⟨_, _, ⟨T63, L63, k63, n63⟩, -, X63, ⟨Lc63, hQ63, l63, y63, z63⟩, st63⟩ := X58.virtualBack hx (y := (⟨"com/example/nepean/nepean/session/PendingKey", "equals", "(Ljava/lang/Object;)Z"⟩ : MethodName)) (z := (⟨"com/example/nepean/nepean/session/PendingKey", "equals", "(Ljava/lang/Object;)Z"⟩ : MethodName)) hown (mvT hZ (hw _ (List.mem_of_getElem? (i := 49) rfl))) (mvT hZ (hw _ (List.mem_of_getElem? (i := 50) rfl))) (notFace_of_selects (args := #[]) (mvT hZ (hw _ (List.mem_of_getElem? (i := 52) rfl)))) (mvT hZ (hw _ (List.mem_of_getElem? (i := 52) rfl))) (mvT hZ (hw _ (List.mem_of_getElem? (i := 51) rfl))) (by decide) (backOf (W := 0) (rm_eqPF l Z av0 hw [] b50 b55 (own_pick (own_minI (p1 &&& (3 : Int32)) (2 : Int32)) b1 b10) (own_pick (own_minI (p0 &&& (3 : Int32)) (2 : Int32)) b1 b10) h58 n0 (Nat.le_trans Z0 kp59.1) (A55.keep K58) r58_0 ((r53_0.ext E55).keep K58 (ninS (Nat.ne_of_lt (Nat.lt_of_lt_of_le (A50.keep K53).lt bi_b55)) nin0)) (own_pickne (Nat.ne_of_lt (Nat.lt_of_lt_of_le (((A1.ext E3).wr W5).keep K8).lt bi_b10)) (own_m3 _) (own_m3 _) (fun z => hc61 z.symm)) (own_pickr _ _ _) (own_pickr _ _ _)) hZ (hw _ (List.mem_of_getElem? (i := 53) rfl)) (hw _ (List.mem_of_getElem? (i := 36) rfl)) (by decide) (by decide)) q63a q63c (g := (mkF m 216 #[.val (.int p0), .val (.int p1), .val (.int p2), .val (.int ((((p0.toUInt32 >>> ((8 : Int32) &&& 31).toUInt32).toInt32) &&& (255 : Int32)).toUInt32.toUInt16.toUInt32.toInt32)), .val (.ref b1), .val (.ref b10), .val (.int (own_minI (p0 &&& (3 : Int32)) (2 : Int32))), .val (.int (own_minI (p1 &&& (3 : Int32)) (2 : Int32))), .val .null, .val (.ref c48_0), .val (.ref b50), .val (.ref b55), .val (.int (p2 &&& (3 : Int32))), .val (.ref b55), .val (.int (0 : Int32))] [(.ref b55), (.ref b50)])) rfl (by rw [hml]; rfl) (Steps.refl _) (argsL := [(.ref b55)]) (rest := []) (lenOf pd_10 rfl) rfl (by show 2 * 0 + _ ≤ _; exact Nat.le_of_eq rfl) (hb hby at_216) (fun _ _ => ⟨rfl, e58, (by decide : 9 + 0 ≤ _), (by decide : 17 + 0 ≤ _)⟩)
          dsimp only [Pt.U, Pt.locs, Pt.cells, Pt.slots] at X63 l63 y63 z63 st63 hQ63
          subst l63 y63 z63
          obtain ⟨rfl, N63q, he63⟩ := hQ63
          have N63 := Fr.app N58 N63q
          refine OwnFin.tr st63 ?_
          show OwnFin _ _ _ _ (T63.setTop (mkF m 219 #[.val (.int p0), .val (.int p1), .val (.int p2), .val (.int ((((p0.toUInt32 >>> ((8 : Int32) &&& 31).toUInt32).toInt32) &&& (255 : Int32)).toUInt32.toUInt16.toUInt32.toInt32)), .val (.ref b1), .val (.ref b10), .val (.int (own_minI (p0 &&& (3 : Int32)) (2 : Int32))), .val (.int (own_minI (p1 &&& (3 : Int32)) (2 : Int32))), .val .null, .val (.ref c48_0), .val (.ref b50), .val (.ref b55), .val (.int (p2 &&& (3 : Int32))), .val (.ref b55), .val (.int (0 : Int32))] [(.int (0 : Int32))]))
          refine OwnFin.st (fun _ q => XS.iload X63.here hx rfl (hb hby at_219) rfl q) ?_
          show OwnFin _ _ _ _ (T63.setTop (mkF m 221 #[.val (.int p0), .val (.int p1), .val (.int p2), .val (.int ((((p0.toUInt32 >>> ((8 : Int32) &&& 31).toUInt32).toInt32) &&& (255 : Int32)).toUInt32.toUInt16.toUInt32.toInt32)), .val (.ref b1), .val (.ref b10), .val (.int (own_minI (p0 &&& (3 : Int32)) (2 : Int32))), .val (.int (own_minI (p1 &&& (3 : Int32)) (2 : Int32))), .val .null, .val (.ref c48_0), .val (.ref b50), .val (.ref b55), .val (.int (p2 &&& (3 : Int32))), .val (.ref b55), .val (.int (0 : Int32))] [(.int (0 : Int32)), (.int (0 : Int32))]))
          refine OwnFin.st (fun _ q => XS.icmpNo X63.here hx rfl (hb hby at_221) rfl (Jvm.Free.XT.ii_ne_f (rfl : (0 : Int32) = (0 : Int32))) q) ?_
          show OwnFin _ _ _ _ (T63.setTop (mkF m 224 #[.val (.int p0), .val (.int p1), .val (.int p2), .val (.int ((((p0.toUInt32 >>> ((8 : Int32) &&& 31).toUInt32).toInt32) &&& (255 : Int32)).toUInt32.toUInt16.toUInt32.toInt32)), .val (.ref b1), .val (.ref b10), .val (.int (own_minI (p0 &&& (3 : Int32)) (2 : Int32))), .val (.int (own_minI (p1 &&& (3 : Int32)) (2 : Int32))), .val .null, .val (.ref c48_0), .val (.ref b50), .val (.ref b55), .val (.int (p2 &&& (3 : Int32))), .val (.ref b55), .val (.int (0 : Int32))] []))
          refine OwnFin.st (fun _ q => XS.iconst X63.here hx rfl (hb hby at_224) q) ?_
          show OwnFin _ _ _ _ (T63.setTop (mkF m 225 #[.val (.int p0), .val (.int p1), .val (.int p2), .val (.int ((((p0.toUInt32 >>> ((8 : Int32) &&& 31).toUInt32).toInt32) &&& (255 : Int32)).toUInt32.toUInt16.toUInt32.toInt32)), .val (.ref b1), .val (.ref b10), .val (.int (own_minI (p0 &&& (3 : Int32)) (2 : Int32))), .val (.int (own_minI (p1 &&& (3 : Int32)) (2 : Int32))), .val .null, .val (.ref c48_0), .val (.ref b50), .val (.ref b55), .val (.int (p2 &&& (3 : Int32))), .val (.ref b55), .val (.int (0 : Int32))] [(.int (1 : Int32))]))
          refine OwnFin.st (fun _ q => XS.goto X63.here hx rfl (pc0 := 225) (pc' := 229) rfl (hb hby at_225) (by decide) (by decide) q) ?_
          show OwnFin _ _ _ _ (T63.setTop (mkF m 229 #[.val (.int p0), .val (.int p1), .val (.int p2), .val (.int ((((p0.toUInt32 >>> ((8 : Int32) &&& 31).toUInt32).toInt32) &&& (255 : Int32)).toUInt32.toUInt16.toUInt32.toInt32)), .val (.ref b1), .val (.ref b10), .val (.int (own_minI (p0 &&& (3 : Int32)) (2 : Int32))), .val (.int (own_minI (p1 &&& (3 : Int32)) (2 : Int32))), .val .null, .val (.ref c48_0), .val (.ref b50), .val (.ref b55), .val (.int (p2 &&& (3 : Int32))), .val (.ref b55), .val (.int (0 : Int32))] [(.int (1 : Int32))]))
          obtain ⟨fs, hr, hrun, hended, hW, hsame⟩ := X63.leave (v := some (.int (1 : Int32))) (fun h => by rw [Bd.returns] at h; cases h)
          refine ⟨_, _, retN X63 hx (t := .boolean) Bd.returns (by simp) (hb hby at_229) hr, hrun, hended, _, _, rfl, ?_, ⟨_, rfl⟩, hW, hsame.mono (by decide) (by decide)⟩
          show Q_rm0 Z p0 p1 p2 w_COMPACT_STRINGS clI w_cache h0 n0 _ T63.heap _
          rw [he63]
          exact ⟨rfl, N63⟩
      · skip
        refine OwnFin.st (fun _ q => XS.ifYes X58.here hx rfl (pc0 := 143) (pc' := 167) rfl (hb hby at_143) rfl (Jvm.Free.XT.i0_ne_t hc60) (by decide) (by decide) q) ?_
        show OwnFin _ _ _ _ (T58.setTop (mkF m 167 #[.val (.int p0), .val (.int p1), .val (.int p2), .val (.int ((((p0.toUInt32 >>> ((8 : Int32) &&& 31).toUInt32).toInt32) &&& (255 : Int32)).toUInt32.toUInt16.toUInt32.toInt32)), .val (.ref b1), .val (.ref b10), .val (.int (own_minI (p0 &&& (3 : Int32)) (2 : Int32))), .val (.int (own_minI (p1 &&& (3 : Int32)) (2 : Int32))), .val .null, .val (.ref c48_0), .val (.ref b50), .val (.ref b55), .val (.int (p2 &&& (3 : Int32))), .unset, .unset] []))
        refine OwnFin.st (fun _ q => XS.iload X58.here hx rfl (hb hby at_167) rfl q) ?_
        show OwnFin _ _ _ _ (T58.setTop (mkF m 169 #[.val (.int p0), .val (.int p1), .val (.int p2), .val (.int ((((p0.toUInt32 >>> ((8 : Int32) &&& 31).toUInt32).toInt32) &&& (255 : Int32)).toUInt32.toUInt16.toUInt32.toInt32)), .val (.ref b1), .val (.ref b10), .val (.int (own_minI (p0 &&& (3 : Int32)) (2 : Int32))), .val (.int (own_minI (p1 &&& (3 : Int32)) (2 : Int32))), .val .null, .val (.ref c48_0), .val (.ref b50), .val (.ref b55), .val (.int (p2 &&& (3 : Int32))), .unset, .unset] [(.int (p2 &&& (3 : Int32)))]))
        refine OwnFin.st (fun _ q => XS.iconst X58.here hx rfl (hb hby at_169) q) ?_
        show OwnFin _ _ _ _ (T58.setTop (mkF m 170 #[.val (.int p0), .val (.int p1), .val (.int p2), .val (.int ((((p0.toUInt32 >>> ((8 : Int32) &&& 31).toUInt32).toInt32) &&& (255 : Int32)).toUInt32.toUInt16.toUInt32.toInt32)), .val (.ref b1), .val (.ref b10), .val (.int (own_minI (p0 &&& (3 : Int32)) (2 : Int32))), .val (.int (own_minI (p1 &&& (3 : Int32)) (2 : Int32))), .val .null, .val (.ref c48_0), .val (.ref b50), .val (.ref b55), .val (.int (p2 &&& (3 : Int32))), .unset, .unset] [(.int (1 : Int32)), (.int (p2 &&& (3 : Int32)))]))
        by_cases hc64 : (p2 &&& (3 : Int32)) = (1 : Int32)
        · skip
          refine OwnFin.st (fun _ q => XS.icmpNo X58.here hx rfl (hb hby at_170) rfl (Jvm.Free.XT.ii_ne_f hc64) q) ?_
          show OwnFin _ _ _ _ (T58.setTop (mkF m 173 #[.val (.int p0), .val (.int p1), .val (.int p2), .val (.int ((((p0.toUInt32 >>> ((8 : Int32) &&& 31).toUInt32).toInt32) &&& (255 : Int32)).toUInt32.toUInt16.toUInt32.toInt32)), .val (.ref b1), .val (.ref b10), .val (.int (own_minI (p0 &&& (3 : Int32)) (2 : Int32))), .val (.int (own_minI (p1 &&& (3 : Int32)) (2 : Int32))), .val .null, .val (.ref c48_0), .val (.ref b50), .val (.ref b55), .val (.int (p2 &&& (3 : Int32))), .unset, .unset] []))
          refine OwnFin.st (fun _ q => XS.aconstNull X58.here hx rfl (hb hby at_173) q) ?_
          show OwnFin _ _ _ _ (T58.setTop (mkF m 174 #[.val (.int p0), .val (.int p1), .val (.int p2), .val (.int ((((p0.toUInt32 >>> ((8 : Int32) &&& 31).toUInt32).toInt32) &&& (255 : Int32)).toUInt32.toUInt16.toUInt32.toInt32)), .val (.ref b1), .val (.ref b10), .val (.int (own_minI (p0 &&& (3 : Int32)) (2 : Int32))), .val (.int (own_minI (p1 &&& (3 : Int32)) (2 : Int32))), .val .null, .val (.ref c48_0), .val (.ref b50), .val (.ref b55), .val (.int (p2 &&& (3 : Int32))), .unset, .unset] [.null]))
          refine OwnFin.st (fun _ q => XS.astore X58.here hx rfl (hb hby at_174) rfl rfl (l' := #[.val (.int p0), .val (.int p1), .val (.int p2), .val (.int ((((p0.toUInt32 >>> ((8 : Int32) &&& 31).toUInt32).toInt32) &&& (255 : Int32)).toUInt32.toUInt16.toUInt32.toInt32)), .val (.ref b1), .val (.ref b10), .val (.int (own_minI (p0 &&& (3 : Int32)) (2 : Int32))), .val (.int (own_minI (p1 &&& (3 : Int32)) (2 : Int32))), .val .null, .val (.ref c48_0), .val (.ref b50), .val (.ref b55), .val (.int (p2 &&& (3 : Int32))), .val .null, .unset]) rfl q) ?_
          show OwnFin _ _ _ _ (T58.setTop (mkF m 176 #[.val (.int p0), .val (.int p1), .val (.int p2), .val (.int ((((p0.toUInt32 >>> ((8 : Int32) &&& 31).toUInt32).toInt32) &&& (255 : Int32)).toUInt32.toUInt16.toUInt32.toInt32)), .val (.ref b1), .val (.ref b10), .val (.int (own_minI (p0 &&& (3 : Int32)) (2 : Int32))), .val (.int (own_minI (p1 &&& (3 : Int32)) (2 : Int32))), .val .null, .val (.ref c48_0), .val (.ref b50), .val (.ref b55), .val (.int (p2 &&& (3 : Int32))), .val .null, .unset] []))
          refine OwnFin.st (fun _ q => XS.iconst X58.here hx rfl (hb hby at_176) q) ?_
          show OwnFin _ _ _ _ (T58.setTop (mkF m 177 #[.val (.int p0), .val (.int p1), .val (.int p2), .val (.int ((((p0.toUInt32 >>> ((8 : Int32) &&& 31).toUInt32).toInt32) &&& (255 : Int32)).toUInt32.toUInt16.toUInt32.toInt32)), .val (.ref b1), .val (.ref b10), .val (.int (own_minI (p0 &&& (3 : Int32)) (2 : Int32))), .val (.int (own_minI (p1 &&& (3 : Int32)) (2 : Int32))), .val .null, .val (.ref c48_0), .val (.ref b50), .val (.ref b55), .val (.int (p2 &&& (3 : Int32))), .val .null, .unset] [(.int (0 : Int32))]))
          refine OwnFin.st (fun _ q => XS.istore X58.here hx rfl (hb hby at_177) rfl (l' := #[.val (.int p0), .val (.int p1), .val (.int p2), .val (.int ((((p0.toUInt32 >>> ((8 : Int32) &&& 31).toUInt32).toInt32) &&& (255 : Int32)).toUInt32.toUInt16.toUInt32.toInt32)), .val (.ref b1), .val (.ref b10), .val (.int (own_minI (p0 &&& (3 : Int32)) (2 : Int32))), .val (.int (own_minI (p1 &&& (3 : Int32)) (2 : Int32))), .val .null, .val (.ref c48_0), .val (.ref b50), .val (.ref b55), .val (.int (p2 &&& (3 : Int32))), .val .null, .val (.int (0 : Int32))]) rfl q) ?_
          show OwnFin _ _ _ _ (T58.setTop (mkF m 179 #[.val (.int p0), .val (.int p1), .val (.int p2), .val (.int ((((p0.toUInt32 >>> ((8 : Int32) &&& 31).toUInt32).toInt32) &&& (255 : Int32)).toUInt32.toUInt16.toUInt32.toInt32)), .val (.ref b1), .val (.ref b10), .val (.int (own_minI (p0 &&& (3 : Int32)) (2 : Int32))), .val (.int (own_minI (p1 &&& (3 : Int32)) (2 : Int32))), .val .null, .val (.ref c48_0), .val (.ref b50), .val (.ref b55), .val (.int (p2 &&& (3 : Int32))), .val .null, .val (.int (0 : Int32))] []))
          refine OwnFin.st (fun _ q => XS.goto X58.here hx rfl (pc0 := 179) (pc' := 212) rfl (hb hby at_179) (by decide) (by decide) q) ?_
          show OwnFin _ _ _ _ (T58.setTop (mkF m 212 #[.val (.int p0), .val (.int p1), .val (.int p2), .val (.int ((((p0.toUInt32 >>> ((8 : Int32) &&& 31).toUInt32).toInt32) &&& (255 : Int32)).toUInt32.toUInt16.toUInt32.toInt32)), .val (.ref b1), .val (.ref b10), .val (.int (own_minI (p0 &&& (3 : Int32)) (2 : Int32))), .val (.int (own_minI (p1 &&& (3 : Int32)) (2 : Int32))), .val .null, .val (.ref c48_0), .val (.ref b50), .val (.ref b55), .val (.int (p2 &&& (3 : Int32))), .val .null, .val (.int (0 : Int32))] []))
          refine OwnFin.st (fun _ q => XS.aload X58.here hx rfl (hb hby at_212) rfl rfl q) ?_
          show OwnFin _ _ _ _ (T58.setTop (mkF m 214 #[.val (.int p0), .val (.int p1), .val (.int p2), .val (.int ((((p0.toUInt32 >>> ((8 : Int32) &&& 31).toUInt32).toInt32) &&& (255 : Int32)).toUInt32.toUInt16.toUInt32.toInt32)), .val (.ref b1), .val (.ref b10), .val (.int (own_minI (p0 &&& (3 : Int32)) (2 : Int32))), .val (.int (own_minI (p1 &&& (3 : Int32)) (2 : Int32))), .val .null, .val (.ref c48_0), .val (.ref b50), .val (.ref b55), .val (.int (p2 &&& (3 : Int32))), .val .null, .val (.int (0 : Int32))] [(.ref b50)]))
          refine OwnFin.st (fun _ q => XS.aload X58.here hx rfl (hb hby at_214) rfl rfl q) ?_
          show OwnFin _ _ _ _ (T58.setTop (mkF m 216 #[.val (.int p0), .val (.int p1), .val (.int p2), .val (.int ((((p0.toUInt32 >>> ((8 : Int32) &&& 31).toUInt32).toInt32) &&& (255 : Int32)).toUInt32.toUInt16.toUInt32.toInt32)), .val (.ref b1), .val (.ref b10), .val (.int (own_minI (p0 &&& (3 : Int32)) (2 : Int32))), .val (.int (own_minI (p1 &&& (3 : Int32)) (2 : Int32))), .val .null, .val (.ref c48_0), .val (.ref b50), .val (.ref b55), .val (.int (p2 &&& (3 : Int32))), .val .null, .val (.int (0 : Int32))] [.null, (.ref b50)]))
          obtain ⟨cq65, kq65, q65a, q65b, q65c⟩ := isOf hZ e58 (((A50.keep K53).ext E55).keep K58)
          obtain ⟨_, _, ⟨T65, L65, k65, n65⟩, -, X65, ⟨Lc65, hQ65, l65, y65, z65⟩, st65⟩ := X58.virtualBack hx (y := (⟨"com/example/nepean/nepean/session/PendingKey", "equals", "(Ljava/lang/Object;)Z"⟩ : MethodName)) (z := (⟨"com/example/nepean/nepean/session/PendingKey", "equals", "(Ljava/lang/Object;)Z"⟩ : MethodName)) hown (mvT hZ (hw _ (List.mem_of_getElem? (i := 49) rfl))) (mvT hZ (hw _ (List.mem_of_getElem? (i := 50) rfl))) (notFace_of_selects (args := #[]) (mvT hZ (hw _ (List.mem_of_getElem? (i := 52) rfl)))) (mvT hZ (hw _ (List.mem_of_getElem? (i := 52) rfl))) (mvT hZ (hw _ (List.mem_of_getElem? (i := 51) rfl))) (by decide) (backOf (W := 0) (rm_eqN l Z av0 hw [] b50 h58 n0 (Nat.le_trans Z0 kp59.1) ) hZ (hw _ (List.mem_of_getElem? (i := 53) rfl)) (hw _ (List.mem_of_getElem? (i := 36) rfl)) (by decide) (by decide)) q65a q65c (g := (mkF m 216 #[.val (.int p0), .val (.int p1), .val (.int p2), .val (.int ((((p0.toUInt32 >>> ((8 : Int32) &&& 31).toUInt32).toInt32) &&& (255 : Int32)).toUInt32.toUInt16.toUInt32.toInt32)), .val (.ref b1), .val (.ref b10), .val (.int (own_minI (p0 &&& (3 : Int32)) (2 : Int32))), .val (.int (own_minI (p1 &&& (3 : Int32)) (2 : Int32))), .val .null, .val (.ref c48_0), .val (.ref b50), .val (.ref b55), .val (.int (p2 &&& (3 : Int32))), .val .null, .val (.int (0 : Int32))] [.null, (.ref b50)])) rfl (by rw [hml]; rfl) (Steps.refl _) (argsL := [.null]) (rest := []) (lenOf pd_10 rfl) rfl (by show 2 * 0 + _ ≤ _; exact Nat.le_of_eq rfl) (hb hby at_216) (fun _ _ => ⟨rfl, e58, (by decide : 9 + 0 ≤ _), (by decide : 17 + 0 ≤ _)⟩)
          dsimp only [Pt.U, Pt.locs, Pt.cells, Pt.slots] at X65 l65 y65 z65 st65 hQ65
          subst l65 y65 z65
          obtain ⟨rfl, N65q, he65⟩ := hQ65
          have N65 := Fr.app N58 N65q
          refine OwnFin.tr st65 ?_
          show OwnFin _ _ _ _ (T65.setTop (mkF m 219 #[.val (.int p0), .val (.int p1), .val (.int p2), .val (.int ((((p0.toUInt32 >>> ((8 : Int32) &&& 31).toUInt32).toInt32) &&& (255 : Int32)).toUInt32.toUInt16.toUInt32.toInt32)), .val (.ref b1), .val (.ref b10), .val (.int (own_minI (p0 &&& (3 : Int32)) (2 : Int32))), .val (.int (own_minI (p1 &&& (3 : Int32)) (2 : Int32))), .val .null, .val (.ref c48_0), .val (.ref b50), .val (.ref b55), .val (.int (p2 &&& (3 : Int32))), .val .null, .val (.int (0 : Int32))] [(.int (0 : Int32))]))
          refine OwnFin.st (fun _ q => XS.iload X65.here hx rfl (hb hby at_219) rfl q) ?_
          show OwnFin _ _ _ _ (T65.setTop (mkF m 221 #[.val (.int p0), .val (.int p1), .val (.int p2), .val (.int ((((p0.toUInt32 >>> ((8 : Int32) &&& 31).toUInt32).toInt32) &&& (255 : Int32)).toUInt32.toUInt16.toUInt32.toInt32)), .val (.ref b1), .val (.ref b10), .val (.int (own_minI (p0 &&& (3 : Int32)) (2 : Int32))), .val (.int (own_minI (p1 &&& (3 : Int32)) (2 : Int32))), .val .null, .val (.ref c48_0), .val (.ref b50), .val (.ref b55), .val (.int (p2 &&& (3 : Int32))), .val .null, .val (.int (0 : Int32))] [(.int (0 : Int32)), (.int (0 : Int32))]))
          refine OwnFin.st (fun _ q => XS.icmpNo X65.here hx rfl (hb hby at_221) rfl (Jvm.Free.XT.ii_ne_f (rfl : (0 : Int32) = (0 : Int32))) q) ?_
          show OwnFin _ _ _ _ (T65.setTop (mkF m 224 #[.val (.int p0), .val (.int p1), .val (.int p2), .val (.int ((((p0.toUInt32 >>> ((8 : Int32) &&& 31).toUInt32).toInt32) &&& (255 : Int32)).toUInt32.toUInt16.toUInt32.toInt32)), .val (.ref b1), .val (.ref b10), .val (.int (own_minI (p0 &&& (3 : Int32)) (2 : Int32))), .val (.int (own_minI (p1 &&& (3 : Int32)) (2 : Int32))), .val .null, .val (.ref c48_0), .val (.ref b50), .val (.ref b55), .val (.int (p2 &&& (3 : Int32))), .val .null, .val (.int (0 : Int32))] []))
          refine OwnFin.st (fun _ q => XS.iconst X65.here hx rfl (hb hby at_224) q) ?_
          show OwnFin _ _ _ _ (T65.setTop (mkF m 225 #[.val (.int p0), .val (.int p1), .val (.int p2), .val (.int ((((p0.toUInt32 >>> ((8 : Int32) &&& 31).toUInt32).toInt32) &&& (255 : Int32)).toUInt32.toUInt16.toUInt32.toInt32)), .val (.ref b1), .val (.ref b10), .val (.int (own_minI (p0 &&& (3 : Int32)) (2 : Int32))), .val (.int (own_minI (p1 &&& (3 : Int32)) (2 : Int32))), .val .null, .val (.ref c48_0), .val (.ref b50), .val (.ref b55), .val (.int (p2 &&& (3 : Int32))), .val .null, .val (.int (0 : Int32))] [(.int (1 : Int32))]))
          refine OwnFin.st (fun _ q => XS.goto X65.here hx rfl (pc0 := 225) (pc' := 229) rfl (hb hby at_225) (by decide) (by decide) q) ?_
          show OwnFin _ _ _ _ (T65.setTop (mkF m 229 #[.val (.int p0), .val (.int p1), .val (.int p2), .val (.int ((((p0.toUInt32 >>> ((8 : Int32) &&& 31).toUInt32).toInt32) &&& (255 : Int32)).toUInt32.toUInt16.toUInt32.toInt32)), .val (.ref b1), .val (.ref b10), .val (.int (own_minI (p0 &&& (3 : Int32)) (2 : Int32))), .val (.int (own_minI (p1 &&& (3 : Int32)) (2 : Int32))), .val .null, .val (.ref c48_0), .val (.ref b50), .val (.ref b55), .val (.int (p2 &&& (3 : Int32))), .val .null, .val (.int (0 : Int32))] [(.int (1 : Int32))]))
          obtain ⟨fs, hr, hrun, hended, hW, hsame⟩ := X65.leave (v := some (.int (1 : Int32))) (fun h => by rw [Bd.returns] at h; cases h)
          refine ⟨_, _, retN X65 hx (t := .boolean) Bd.returns (by simp) (hb hby at_229) hr, hrun, hended, _, _, rfl, ?_, ⟨_, rfl⟩, hW, hsame.mono (by decide) (by decide)⟩
          show Q_rm0 Z p0 p1 p2 w_COMPACT_STRINGS clI w_cache h0 n0 _ T65.heap _
          rw [he65]
          exact ⟨rfl, N65⟩
        · skip
          refine OwnFin.st (fun _ q => XS.icmpYes X58.here hx rfl (pc0 := 170) (pc' := 182) rfl (hb hby at_170) rfl (Jvm.Free.XT.ii_ne_t hc64) (by decide) (by decide) q) ?_
          show OwnFin _ _ _ _ (T58.setTop (mkF m 182 #[.val (.int p0), .val (.int p1), .val (.int p2), .val (.int ((((p0.toUInt32 >>> ((8 : Int32) &&& 31).toUInt32).toInt32) &&& (255 : Int32)).toUInt32.toUInt16.toUInt32.toInt32)), .val (.ref b1), .val (.ref b10), .val (.int (own_minI (p0 &&& (3 : Int32)) (2 : Int32))), .val (.int (own_minI (p1 &&& (3 : Int32)) (2 : Int32))), .val .null, .val (.ref c48_0), .val (.ref b50), .val (.ref b55), .val (.int (p2 &&& (3 : Int32))), .unset, .unset] []))
          refine OwnFin.st (fun _ q => XS.iload X58.here hx rfl (hb hby at_182) rfl q) ?_
          show OwnFin _ _ _ _ (T58.setTop (mkF m 184 #[.val (.int p0), .val (.int p1), .val (.int p2), .val (.int ((((p0.toUInt32 >>> ((8 : Int32) &&& 31).toUInt32).toInt32) &&& (255 : Int32)).toUInt32.toUInt16.toUInt32.toInt32)), .val (.ref b1), .val (.ref b10), .val (.int (own_minI (p0 &&& (3 : Int32)) (2 : Int32))), .val (.int (own_minI (p1 &&& (3 : Int32)) (2 : Int32))), .val .null, .val (.ref c48_0), .val (.ref b50), .val (.ref b55), .val (.int (p2 &&& (3 : Int32))), .unset, .unset] [(.int (p2 &&& (3 : Int32)))]))
          refine OwnFin.st (fun _ q => XS.iconst X58.here hx rfl (hb hby at_184) q) ?_
          show OwnFin _ _ _ _ (T58.setTop (mkF m 185 #[.val (.int p0), .val (.int p1), .val (.int p2), .val (.int ((((p0.toUInt32 >>> ((8 : Int32) &&& 31).toUInt32).toInt32) &&& (255 : Int32)).toUInt32.toUInt16.toUInt32.toInt32)), .val (.ref b1), .val (.ref b10), .val (.int (own_minI (p0 &&& (3 : Int32)) (2 : Int32))), .val (.int (own_minI (p1 &&& (3 : Int32)) (2 : Int32))), .val .null, .val (.ref c48_0), .val (.ref b50), .val (.ref b55), .val (.int (p2 &&& (3 : Int32))), .unset, .unset] [(.int (2 : Int32)), (.int (p2 &&& (3 : Int32)))]))
          by_cases hc66 : (p2 &&& (3 : Int32)) = (2 : Int32)
          · skip
            refine OwnFin.st (fun _ q => XS.icmpNo X58.here hx rfl (hb hby at_185) rfl (Jvm.Free.XT.ii_ne_f hc66) q) ?_
            show OwnFin _ _ _ _ (T58.setTop (mkF m 188 #[.val (.int p0), .val (.int p1), .val (.int p2), .val (.int ((((p0.toUInt32 >>> ((8 : Int32) &&& 31).toUInt32).toInt32) &&& (255 : Int32)).toUInt32.toUInt16.toUInt32.toInt32)), .val (.ref b1), .val (.ref b10), .val (.int (own_minI (p0 &&& (3 : Int32)) (2 : Int32))), .val (.int (own_minI (p1 &&& (3 : Int32)) (2 : Int32))), .val .null, .val (.ref c48_0), .val (.ref b50), .val (.ref b55), .val (.int (p2 &&& (3 : Int32))), .unset, .unset] []))
            refine OwnFin.st (fun _ q => XS.iload X58.here hx rfl (hb hby at_188) rfl q) ?_
            show OwnFin _ _ _ _ (T58.setTop (mkF m 190 #[.val (.int p0), .val (.int p1), .val (.int p2), .val (.int ((((p0.toUInt32 >>> ((8 : Int32) &&& 31).toUInt32).toInt32) &&& (255 : Int32)).toUInt32.toUInt16.toUInt32.toInt32)), .val (.ref b1), .val (.ref b10), .val (.int (own_minI (p0 &&& (3 : Int32)) (2 : Int32))), .val (.int (own_minI (p1 &&& (3 : Int32)) (2 : Int32))), .val .null, .val (.ref c48_0), .val (.ref b50), .val (.ref b55), .val (.int (p2 &&& (3 : Int32))), .unset, .unset] [(.int (own_minI (p0 &&& (3 : Int32)) (2 : Int32)))]))
            refine OwnFin.st (fun _ q => XS.aload X58.here hx rfl (hb hby at_190) rfl rfl q) ?_
            show OwnFin _ _ _ _ (T58.setTop (mkF m 192 #[.val (.int p0), .val (.int p1), .val (.int p2), .val (.int ((((p0.toUInt32 >>> ((8 : Int32) &&& 31).toUInt32).toInt32) &&& (255 : Int32)).toUInt32.toUInt16.toUInt32.toInt32)), .val (.ref b1), .val (.ref b10), .val (.int (own_minI (p0 &&& (3 : Int32)) (2 : Int32))), .val (.int (own_minI (p1 &&& (3 : Int32)) (2 : Int32))), .val .null, .val (.ref c48_0), .val (.ref b50), .val (.ref b55), .val (.int (p2 &&& (3 : Int32))), .unset, .unset] [(.ref b1), (.int (own_minI (p0 &&& (3 : Int32)) (2 : Int32)))]))
            refine OwnFin.st (fun _ q => XS.aload X58.here hx rfl (hb hby at_192) rfl rfl q) ?_
            show OwnFin _ _ _ _ (T58.setTop (mkF m 194 #[.val (.int p0), .val (.int p1), .val (.int p2), .val (.int ((((p0.toUInt32 >>> ((8 : Int32) &&& 31).toUInt32).toInt32) &&& (255 : Int32)).toUInt32.toUInt16.toUInt32.toInt32)), .val (.ref b1), .val (.ref b10), .val (.int (own_minI (p0 &&& (3 : Int32)) (2 : Int32))), .val (.int (own_minI (p1 &&& (3 : Int32)) (2 : Int32))), .val .null, .val (.ref c48_0), .val (.ref b50), .val (.ref b55), .val (.int (p2 &&& (3 : Int32))), .unset, .unset] [(.ref b10), (.ref b1), (.int (own_minI (p0 &&& (3 : Int32)) (2 : Int32)))]))
            by_cases hc67 : (own_minI (p0 &&& (3 : Int32)) (2 : Int32)) = (0 : Int32)
            · skip
              show OwnFin _ _ _ _ (T58.setTop (mkF m 194 #[.val (.int p0), .val (.int p1), .val (.int p2), .val (.int ((((p0.toUInt32 >>> ((8 : Int32) &&& 31).toUInt32).toInt32) &&& (255 : Int32)).toUInt32.toUInt16.toUInt32.toInt32)), .val (.ref b1), .val (.ref b10), .val (.int (own_minI (p0 &&& (3 : Int32)) (2 : Int32))), .val (.int (own_minI (p1 &&& (3 : Int32)) (2 : Int32))), .val .null, .val (.ref c48_0), .val (.ref b50), .val (.ref b55), .val (.int (p2 &&& (3 : Int32))), .unset, .unset] [(.ref b10), (.ref b1), (.int (own_minI (p0 &&& (3 : Int32)) (2 : Int32)))]))
              obtain ⟨_, _, ⟨T68, L68, k68, n68⟩, -, X68, ⟨Lc68, hQ68, l68, y68, z68⟩, st68⟩ := Jvm.LawKit.callS X58 hx (y := (⟨"com/example/nepean/nepean/session/PendingKeyEqualsPinLaw", "pick", "(ILjava/lang/Object;Ljava/lang/Object;)Ljava/lang/Object;"⟩ : MethodName)) hown (mvT hZ (hw _ (List.mem_of_getElem? (i := 37) rfl))) (mvT hZ (hw _ (List.mem_of_getElem? (i := 38) rfl))) (mvT hZ (hw _ (List.mem_of_getElem? (i := 39) rfl))) (mvT hZ (hw _ (List.mem_of_getElem? (i := 40) rfl))) (by decide) (backOf (W := 0) (rm_pick0 l Z av0 hw [] (own_minI (p0 &&& (3 : Int32)) (2 : Int32)) b1 b10 h58 n0 (Nat.le_trans Z0 kp59.1) hc67) hZ (hw _ (List.mem_of_getElem? (i := 40) rfl)) (hw _ (List.mem_of_getElem? (i := 39) rfl)) (by decide) (by decide)) (g := (mkF m 194 #[.val (.int p0), .val (.int p1), .val (.int p2), .val (.int ((((p0.toUInt32 >>> ((8 : Int32) &&& 31).toUInt32).toInt32) &&& (255 : Int32)).toUInt32.toUInt16.toUInt32.toInt32)), .val (.ref b1), .val (.ref b10), .val (.int (own_minI (p0 &&& (3 : Int32)) (2 : Int32))), .val (.int (own_minI (p1 &&& (3 : Int32)) (2 : Int32))), .val .null, .val (.ref c48_0), .val (.ref b50), .val (.ref b55), .val (.int (p2 &&& (3 : Int32))), .unset, .unset] [(.ref b10), (.ref b1), (.int (own_minI (p0 &&& (3 : Int32)) (2 : Int32)))])) rfl (by rw [hml]; rfl) (argsL := [(.int (own_minI (p0 &&& (3 : Int32)) (2 : Int32))), (.ref b1), (.ref b10)]) (rest := []) (lenOf pd_8 rfl) rfl (by show 2 * 0 + _ ≤ _; exact Nat.le_of_eq rfl) (hb hby at_194) (fun _ _ => ⟨rfl, e58, (by decide : 9 + 0 ≤ _), (by decide : 17 + 0 ≤ _)⟩)
              dsimp only [Pt.U, Pt.locs, Pt.cells, Pt.slots] at X68 l68 y68 z68 st68 hQ68
              subst l68 y68 z68
              obtain ⟨rfl, N68q, he68⟩ := hQ68
              have N68 := Fr.app N58 N68q
              refine OwnFin.st st68 ?_
              show OwnFin _ _ _ _ (T68.setTop (mkF m 197 #[.val (.int p0), .val (.int p1), .val (.int p2), .val (.int ((((p0.toUInt32 >>> ((8 : Int32) &&& 31).toUInt32).toInt32) &&& (255 : Int32)).toUInt32.toUInt16.toUInt32.toInt32)), .val (.ref b1), .val (.ref b10), .val (.int (own_minI (p0 &&& (3 : Int32)) (2 : Int32))), .val (.int (own_minI (p1 &&& (3 : Int32)) (2 : Int32))), .val .null, .val (.ref c48_0), .val (.ref b50), .val (.ref b55), .val (.int (p2 &&& (3 : Int32))), .unset, .unset] [(.ref b1)]))
              refine OwnFin.st (fun _ q => XS.astore X68.here hx rfl (hb hby at_197) rfl rfl (l' := #[.val (.int p0), .val (.int p1), .val (.int p2), .val (.int ((((p0.toUInt32 >>> ((8 : Int32) &&& 31).toUInt32).toInt32) &&& (255 : Int32)).toUInt32.toUInt16.toUInt32.toInt32)), .val (.ref b1), .val (.ref b10), .val (.int (own_minI (p0 &&& (3 : Int32)) (2 : Int32))), .val (.int (own_minI (p1 &&& (3 : Int32)) (2 : Int32))), .val .null, .val (.ref c48_0), .val (.ref b50), .val (.ref b55), .val (.int (p2 &&& (3 : Int32))), .val (.ref b1), .unset]) rfl q) ?_
              show OwnFin _ _ _ _ (T68.setTop (mkF m 199 #[.val (.int p0), .val (.int p1), .val (.int p2), .val (.int ((((p0.toUInt32 >>> ((8 : Int32) &&& 31).toUInt32).toInt32) &&& (255 : Int32)).toUInt32.toUInt16.toUInt32.toInt32)), .val (.ref b1), .val (.ref b10), .val (.int (own_minI (p0 &&& (3 : Int32)) (2 : Int32))), .val (.int (own_minI (p1 &&& (3 : Int32)) (2 : Int32))), .val .null, .val (.ref c48_0), .val (.ref b50), .val (.ref b55), .val (.int (p2 &&& (3 : Int32))), .val (.ref b1), .unset] []))
              refine OwnFin.st (fun _ q => XS.iconst X68.here hx rfl (hb hby at_199) q) ?_
              show OwnFin _ _ _ _ (T68.setTop (mkF m 200 #[.val (.int p0), .val (.int p1), .val (.int p2), .val (.int ((((p0.toUInt32 >>> ((8 : Int32) &&& 31).toUInt32).toInt32) &&& (255 : Int32)).toUInt32.toUInt16.toUInt32.toInt32)), .val (.ref b1), .val (.ref b10), .val (.int (own_minI (p0 &&& (3 : Int32)) (2 : Int32))), .val (.int (own_minI (p1 &&& (3 : Int32)) (2 : Int32))), .val .null, .val (.ref c48_0), .val (.ref b50), .val (.ref b55), .val (.int (p2 &&& (3 : Int32))), .val (.ref b1), .unset] [(.int (0 : Int32))]))
              refine OwnFin.st (fun _ q => XS.istore X68.here hx rfl (hb hby at_200) rfl (l' := #[.val (.int p0), .val (.int p1), .val (.int p2), .val (.int ((((p0.toUInt32 >>> ((8 : Int32) &&& 31).toUInt32).toInt32) &&& (255 : Int32)).toUInt32.toUInt16.toUInt32.toInt32)), .val (.ref b1), .val (.ref b10), .val (.int (own_minI (p0 &&& (3 : Int32)) (2 : Int32))), .val (.int (own_minI (p1 &&& (3 : Int32)) (2 : Int32))), .val .null, .val (.ref c48_0), .val (.ref b50), .val (.ref b55), .val (.int (p2 &&& (3 : Int32))), .val (.ref b1), .val (.int (0 : Int32))]) rfl q) ?_
              show OwnFin _ _ _ _ (T68.setTop (mkF m 202 #[.val (.int p0), .val (.int p1), .val (.int p2), .val (.int ((((p0.toUInt32 >>> ((8 : Int32) &&& 31).toUInt32).toInt32) &&& (255 : Int32)).toUInt32.toUInt16.toUInt32.toInt32)), .val (.ref b1), .val (.ref b10), .val (.int (own_minI (p0 &&& (3 : Int32)) (2 : Int32))), .val (.int (own_minI (p1 &&& (3 : Int32)) (2 : Int32))), .val .null, .val (.ref c48_0), .val (.ref b50), .val (.ref b55), .val (.int (p2 &&& (3 : Int32))), .val (.ref b1), .val (.int (0 : Int32))] []))
              refine OwnFin.st (fun _ q => XS.goto X68.here hx rfl (pc0 := 202) (pc' := 212) rfl (hb hby at_202) (by decide) (by decide) q) ?_
              show OwnFin _ _ _ _ (T68.setTop (mkF m 212 #[.val (.int p0), .val (.int p1), .val (.int p2), .val (.int ((((p0.toUInt32 >>> ((8 : Int32) &&& 31).toUInt32).toInt32) &&& (255 : Int32)).toUInt32.toUInt16.toUInt32.toInt32)), .val (.ref b1), .val (.ref b10), .val (.int (own_minI (p0 &&& (3 : Int32)) (2 : Int32))), .val (.int (own_minI (p1 &&& (3 : Int32)) (2 : Int32))), .val .null, .val (.ref c48_0), .val (.ref b50), .val (.ref b55), .val (.int (p2 &&& (3 : Int32))), .val (.ref b1), .val (.int (0 : Int32))] []))
              refine OwnFin.st (fun _ q => XS.aload X68.here hx rfl (hb hby at_212) rfl rfl q) ?_
              show OwnFin _ _ _ _ (T68.setTop (mkF m 214 #[.val (.int p0), .val (.int p1), .val (.int p2), .val (.int ((((p0.toUInt32 >>> ((8 : Int32) &&& 31).toUInt32).toInt32) &&& (255 : Int32)).toUInt32.toUInt16.toUInt32.toInt32)), .val (.ref b1), .val (.ref b10), .val (.int (own_minI (p0 &&& (3 : Int32)) (2 : Int32))), .val (.int (own_minI (p1 &&& (3 : Int32)) (2 : Int32))), .val .null, .val (.ref c48_0), .val (.ref b50), .val (.ref b55), .val (.int (p2 &&& (3 : Int32))), .val (.ref b1), .val (.int (0 : Int32))] [(.ref b50)]))
              refine OwnFin.st (fun _ q => XS.aload X68.here hx rfl (hb hby at_214) rfl rfl q) ?_
              show OwnFin _ _ _ _ (T68.setTop (mkF m 216 #[.val (.int p0), .val (.int p1), .val (.int p2), .val (.int ((((p0.toUInt32 >>> ((8 : Int32) &&& 31).toUInt32).toInt32) &&& (255 : Int32)).toUInt32.toUInt16.toUInt32.toInt32)), .val (.ref b1), .val (.ref b10), .val (.int (own_minI (p0 &&& (3 : Int32)) (2 : Int32))), .val (.int (own_minI (p1 &&& (3 : Int32)) (2 : Int32))), .val .null, .val (.ref c48_0), .val (.ref b50), .val (.ref b55), .val (.int (p2 &&& (3 : Int32))), .val (.ref b1), .val (.int (0 : Int32))] [(.ref b1), (.ref b50)]))
              obtain ⟨cq69, kq69, q69a, q69b, q69c⟩ := isOf hZ he68 (((A50.keep K53).ext E55).keep K58)
              obtain ⟨_, _, ⟨T69, L69, k69, n69⟩, -, X69, ⟨Lc69, hQ69, l69, y69, z69⟩, st69⟩ := X68.virtualBack hx (y := (⟨"com/example/nepean/nepean/session/PendingKey", "equals", "(Ljava/lang/Object;)Z"⟩ : MethodName)) (z := (⟨"com/example/nepean/nepean/session/PendingKey", "equals", "(Ljava/lang/Object;)Z"⟩ : MethodName)) hown (mvT hZ (hw _ (List.mem_of_getElem? (i := 49) rfl))) (mvT hZ (hw _ (List.mem_of_getElem? (i := 50) rfl))) (notFace_of_selects (args := #[]) (mvT hZ (hw _ (List.mem_of_getElem? (i := 52) rfl)))) (mvT hZ (hw _ (List.mem_of_getElem? (i := 52) rfl))) (mvT hZ (hw _ (List.mem_of_getElem? (i := 51) rfl))) (by decide) (backOf (W := 0) (rm_eqS l Z av0 hw [] b50 b1 h58 n0 (Nat.le_trans Z0 kp59.1) ((((((((((((A1.ext E3).wr W5).keep K8).ext E10).ext E12).wr W14).keep K16).keep K48).ext E50).keep K53).ext E55).keep K58)) hZ (hw _ (List.mem_of_getElem? (i := 53) rfl)) (hw _ (List.mem_of_getElem? (i := 36) rfl)) (by decide) (by decide)) q69a q69c (g := (mkF m 216 #[.val (.int p0), .val (.int p1), .val (.int p2), .val (.int ((((p0.toUInt32 >>> ((8 : Int32) &&& 31).toUInt32).toInt32) &&& (255 : Int32)).toUInt32.toUInt16.toUInt32.toInt32)), .val (.ref b1), .val (.ref b10), .val (.int (own_minI (p0 &&& (3 : Int32)) (2 : Int32))), .val (.int (own_minI (p1 &&& (3 : Int32)) (2 : Int32))), .val .null, .val (.ref c48_0), .val (.ref b50), .val (.ref b55), .val (.int (p2 &&& (3 : Int32))), .val (.ref b1), .val (.int (0 : Int32))] [(.ref b1), (.ref b50)])) rfl (by rw [hml]; rfl) (Steps.refl _) (argsL := [(.ref b1)]) (rest := []) (lenOf pd_10 rfl) rfl (by show 2 * 0 + _ ≤ _; exact Nat.le_of_eq rfl) (hb hby at_216) (fun _ _ => ⟨rfl, he68, (by decide : 9 + 0 ≤ _), (by decide : 17 + 0 ≤ _)⟩)
              dsimp only [Pt.U, Pt.locs, Pt.cells, Pt.slots] at X69 l69 y69 z69 st69 hQ69
              subst l69 y69 z69
              obtain ⟨rfl, N69q, he69⟩ := hQ69
              have N69 := Fr.app N68 N69q
              refine OwnFin.tr st69 ?_
              show OwnFin _ _ _ _ (T69.setTop (mkF m 219 #[.val (.int p0), .val (.int p1), .val (.int p2), .val (.int ((((p0.toUInt32 >>> ((8 : Int32) &&& 31).toUInt32).toInt32) &&& (255 : Int32)).toUInt32.toUInt16.toUInt32.toInt32)), .val (.ref b1), .val (.ref b10), .val (.int (own_minI (p0 &&& (3 : Int32)) (2 : Int32))), .val (.int (own_minI (p1 &&& (3 : Int32)) (2 : Int32))), .val .null, .val (.ref c48_0), .val (.ref b50), .val (.ref b55), .val (.int (p2 &&& (3 : Int32))), .val (.ref b1), .val (.int (0 : Int32))] [(.int (0 : Int32))]))
              refine OwnFin.st (fun _ q => XS.iload X69.here hx rfl (hb hby at_219) rfl q) ?_
              show OwnFin _ _ _ _ (T69.setTop (mkF m 221 #[.val (.int p0), .val (.int p1), .val (.int p2), .val (.int ((((p0.toUInt32 >>> ((8 : Int32) &&& 31).toUInt32).toInt32) &&& (255 : Int32)).toUInt32.toUInt16.toUInt32.toInt32)), .val (.ref b1), .val (.ref b10), .val (.int (own_minI (p0 &&& (3 : Int32)) (2 : Int32))), .val (.int (own_minI (p1 &&& (3 : Int32)) (2 : Int32))), .val .null, .val (.ref c48_0), .val (.ref b50), .val (.ref b55), .val (.int (p2 &&& (3 : Int32))), .val (.ref b1), .val (.int (0 : Int32))] [(.int (0 : Int32)), (.int (0 : Int32))]))
              refine OwnFin.st (fun _ q => XS.icmpNo X69.here hx rfl (hb hby at_221) rfl (Jvm.Free.XT.ii_ne_f (rfl : (0 : Int32) = (0 : Int32))) q) ?_
              show OwnFin _ _ _ _ (T69.setTop (mkF m 224 #[.val (.int p0), .val (.int p1), .val (.int p2), .val (.int ((((p0.toUInt32 >>> ((8 : Int32) &&& 31).toUInt32).toInt32) &&& (255 : Int32)).toUInt32.toUInt16.toUInt32.toInt32)), .val (.ref b1), .val (.ref b10), .val (.int (own_minI (p0 &&& (3 : Int32)) (2 : Int32))), .val (.int (own_minI (p1 &&& (3 : Int32)) (2 : Int32))), .val .null, .val (.ref c48_0), .val (.ref b50), .val (.ref b55), .val (.int (p2 &&& (3 : Int32))), .val (.ref b1), .val (.int (0 : Int32))] []))
              refine OwnFin.st (fun _ q => XS.iconst X69.here hx rfl (hb hby at_224) q) ?_
              show OwnFin _ _ _ _ (T69.setTop (mkF m 225 #[.val (.int p0), .val (.int p1), .val (.int p2), .val (.int ((((p0.toUInt32 >>> ((8 : Int32) &&& 31).toUInt32).toInt32) &&& (255 : Int32)).toUInt32.toUInt16.toUInt32.toInt32)), .val (.ref b1), .val (.ref b10), .val (.int (own_minI (p0 &&& (3 : Int32)) (2 : Int32))), .val (.int (own_minI (p1 &&& (3 : Int32)) (2 : Int32))), .val .null, .val (.ref c48_0), .val (.ref b50), .val (.ref b55), .val (.int (p2 &&& (3 : Int32))), .val (.ref b1), .val (.int (0 : Int32))] [(.int (1 : Int32))]))
              refine OwnFin.st (fun _ q => XS.goto X69.here hx rfl (pc0 := 225) (pc' := 229) rfl (hb hby at_225) (by decide) (by decide) q) ?_
              show OwnFin _ _ _ _ (T69.setTop (mkF m 229 #[.val (.int p0), .val (.int p1), .val (.int p2), .val (.int ((((p0.toUInt32 >>> ((8 : Int32) &&& 31).toUInt32).toInt32) &&& (255 : Int32)).toUInt32.toUInt16.toUInt32.toInt32)), .val (.ref b1), .val (.ref b10), .val (.int (own_minI (p0 &&& (3 : Int32)) (2 : Int32))), .val (.int (own_minI (p1 &&& (3 : Int32)) (2 : Int32))), .val .null, .val (.ref c48_0), .val (.ref b50), .val (.ref b55), .val (.int (p2 &&& (3 : Int32))), .val (.ref b1), .val (.int (0 : Int32))] [(.int (1 : Int32))]))
              obtain ⟨fs, hr, hrun, hended, hW, hsame⟩ := X69.leave (v := some (.int (1 : Int32))) (fun h => by rw [Bd.returns] at h; cases h)
              refine ⟨_, _, retN X69 hx (t := .boolean) Bd.returns (by simp) (hb hby at_229) hr, hrun, hended, _, _, rfl, ?_, ⟨_, rfl⟩, hW, hsame.mono (by decide) (by decide)⟩
              show Q_rm0 Z p0 p1 p2 w_COMPACT_STRINGS clI w_cache h0 n0 _ T69.heap _
              rw [he69]
              exact ⟨rfl, N69⟩
            · skip
              show OwnFin _ _ _ _ (T58.setTop (mkF m 194 #[.val (.int p0), .val (.int p1), .val (.int p2), .val (.int ((((p0.toUInt32 >>> ((8 : Int32) &&& 31).toUInt32).toInt32) &&& (255 : Int32)).toUInt32.toUInt16.toUInt32.toInt32)), .val (.ref b1), .val (.ref b10), .val (.int (own_minI (p0 &&& (3 : Int32)) (2 : Int32))), .val (.int (own_minI (p1 &&& (3 : Int32)) (2 : Int32))), .val .null, .val (.ref c48_0), .val (.ref b50), .val (.ref b55), .val (.int (p2 &&& (3 : Int32))), .unset, .unset] [(.ref b10), (.ref b1), (.int (own_minI (p0 &&& (3 : Int32)) (2 : Int32)))]))
              by_cases hc70 : (own_minI (p0 &&& (3 : Int32)) (2 : Int32)) = (1 : Int32)
              · skip
                show OwnFin _ _ _ _ (T58.setTop (mkF m 194 #[.val (.int p0), .val (.int p1), .val (.int p2), .val (.int ((((p0.toUInt32 >>> ((8 : Int32) &&& 31).toUInt32).toInt32) &&& (255 : Int32)).toUInt32.toUInt16.toUInt32.toInt32)), .val (.ref b1), .val (.ref b10), .val (.int (own_minI (p0 &&& (3 : Int32)) (2 : Int32))), .val (.int (own_minI (p1 &&& (3 : Int32)) (2 : Int32))), .val .null, .val (.ref c48_0), .val (.ref b50), .val (.ref b55), .val (.int (p2 &&& (3 : Int32))), .unset, .unset] [(.ref b10), (.ref b1), (.int (own_minI (p0 &&& (3 : Int32)) (2 : Int32)))]))
                obtain ⟨_, _, ⟨T71, L71, k71, n71⟩, -, X71, ⟨Lc71, hQ71, l71, y71, z71⟩, st71⟩ := Jvm.LawKit.callS X58 hx (y := (⟨"com/example/nepean/nepean/session/PendingKeyEqualsPinLaw", "pick", "(ILjava/lang/Object;Ljava/lang/Object;)Ljava/lang/Object;"⟩ : MethodName)) hown (mvT hZ (hw _ (List.mem_of_getElem? (i := 37) rfl))) (mvT hZ (hw _ (List.mem_of_getElem? (i := 38) rfl))) (mvT hZ (hw _ (List.mem_of_getElem? (i := 39) rfl))) (mvT hZ (hw _ (List.mem_of_getElem? (i := 40) rfl))) (by decide) (backOf (W := 0) (rm_pick1 l Z av0 hw [] (own_minI (p0 &&& (3 : Int32)) (2 : Int32)) b1 b10 h58 n0 (Nat.le_trans Z0 kp59.1) hc67 hc70) hZ (hw _ (List.mem_of_getElem? (i := 40) rfl)) (hw _ (List.mem_of_getElem? (i := 39) rfl)) (by decide) (by decide)) (g := (mkF m 194 #[.val (.int p0), .val (.int p1), .val (.int p2), .val (.int ((((p0.toUInt32 >>> ((8 : Int32) &&& 31).toUInt32).toInt32) &&& (255 : Int32)).toUInt32.toUInt16.toUInt32.toInt32)), .val (.ref b1), .val (.ref b10), .val (.int (own_minI (p0 &&& (3 : Int32)) (2 : Int32))), .val (.int (own_minI (p1 &&& (3 : Int32)) (2 : Int32))), .val .null, .val (.ref c48_0), .val (.ref b50), .val (.ref b55), .val (.int (p2 &&& (3 : Int32))), .unset, .unset] [(.ref b10), (.ref b1), (.int (own_minI (p0 &&& (3 : Int32)) (2 : Int32)))])) rfl (by rw [hml]; rfl) (argsL := [(.int (own_minI (p0 &&& (3 : Int32)) (2 : Int32))), (.ref b1), (.ref b10)]) (rest := []) (lenOf pd_8 rfl) rfl (by show 2 * 0 + _ ≤ _; exact Nat.le_of_eq rfl) (hb hby at_194) (fun _ _ => ⟨rfl, e58, (by decide : 9 + 0 ≤ _), (by decide : 17 + 0 ≤ _)⟩)
                dsimp only [Pt.U, Pt.locs, Pt.cells, Pt.slots] at X71 l71 y71 z71 st71 hQ71
                subst l71 y71 z71
                obtain ⟨rfl, N71q, he71⟩ := hQ71
                have N71 := Fr.app N58 N71q
                refine OwnFin.st st71 ?_
                show OwnFin _ _ _ _ (T71.setTop (mkF m 197 #[.val (.int p0), .val (.int p1), .val (.int p2), .val (.int ((((p0.toUInt32 >>> ((8 : Int32) &&& 31).toUInt32).toInt32) &&& (255 : Int32)).toUInt32.toUInt16.toUInt32.toInt32)), .val (.ref b1), .val (.ref b10), .val (.int (own_minI (p0 &&& (3 : Int32)) (2 : Int32))), .val (.int (own_minI (p1 &&& (3 : Int32)) (2 : Int32))), .val .null, .val (.ref c48_0), .val (.ref b50), .val (.ref b55), .val (.int (p2 &&& (3 : Int32))), .unset, .unset] [(.ref b10)]))
                refine OwnFin.st (fun _ q => XS.astore X71.here hx rfl (hb hby at_197) rfl rfl (l' := #[.val (.int p0), .val (.int p1), .val (.int p2), .val (.int ((((p0.toUInt32 >>> ((8 : Int32) &&& 31).toUInt32).toInt32) &&& (255 : Int32)).toUInt32.toUInt16.toUInt32.toInt32)), .val (.ref b1), .val (.ref b10), .val (.int (own_minI (p0 &&& (3 : Int32)) (2 : Int32))), .val (.int (own_minI (p1 &&& (3 : Int32)) (2 : Int32))), .val .null, .val (.ref c48_0), .val (.ref b50), .val (.ref b55), .val (.int (p2 &&& (3 : Int32))), .val (.ref b10), .unset]) rfl q) ?_
                show OwnFin _ _ _ _ (T71.setTop (mkF m 199 #[.val (.int p0), .val (.int p1), .val (.int p2), .val (.int ((((p0.toUInt32 >>> ((8 : Int32) &&& 31).toUInt32).toInt32) &&& (255 : Int32)).toUInt32.toUInt16.toUInt32.toInt32)), .val (.ref b1), .val (.ref b10), .val (.int (own_minI (p0 &&& (3 : Int32)) (2 : Int32))), .val (.int (own_minI (p1 &&& (3 : Int32)) (2 : Int32))), .val .null, .val (.ref c48_0), .val (.ref b50), .val (.ref b55), .val (.int (p2 &&& (3 : Int32))), .val (.ref b10), .unset] []))
                refine OwnFin.st (fun _ q => XS.iconst X71.here hx rfl (hb hby at_199) q) ?_
                show OwnFin _ _ _ _ (T71.setTop (mkF m 200 #[.val (.int p0), .val (.int p1), .val (.int p2), .val (.int ((((p0.toUInt32 >>> ((8 : Int32) &&& 31).toUInt32).toInt32) &&& (255 : Int32)).toUInt32.toUInt16.toUInt32.toInt32)), .val (.ref b1), .val (.ref b10), .val (.int (own_minI (p0 &&& (3 : Int32)) (2 : Int32))), .val (.int (own_minI (p1 &&& (3 : Int32)) (2 : Int32))), .val .null, .val (.ref c48_0), .val (.ref b50), .val (.ref b55), .val (.int (p2 &&& (3 : Int32))), .val (.ref b10), .unset] [(.int (0 : Int32))]))
                refine OwnFin.st (fun _ q => XS.istore X71.here hx rfl (hb hby at_200) rfl (l' := #[.val (.int p0), .val (.int p1), .val (.int p2), .val (.int ((((p0.toUInt32 >>> ((8 : Int32) &&& 31).toUInt32).toInt32) &&& (255 : Int32)).toUInt32.toUInt16.toUInt32.toInt32)), .val (.ref b1), .val (.ref b10), .val (.int (own_minI (p0 &&& (3 : Int32)) (2 : Int32))), .val (.int (own_minI (p1 &&& (3 : Int32)) (2 : Int32))), .val .null, .val (.ref c48_0), .val (.ref b50), .val (.ref b55), .val (.int (p2 &&& (3 : Int32))), .val (.ref b10), .val (.int (0 : Int32))]) rfl q) ?_
                show OwnFin _ _ _ _ (T71.setTop (mkF m 202 #[.val (.int p0), .val (.int p1), .val (.int p2), .val (.int ((((p0.toUInt32 >>> ((8 : Int32) &&& 31).toUInt32).toInt32) &&& (255 : Int32)).toUInt32.toUInt16.toUInt32.toInt32)), .val (.ref b1), .val (.ref b10), .val (.int (own_minI (p0 &&& (3 : Int32)) (2 : Int32))), .val (.int (own_minI (p1 &&& (3 : Int32)) (2 : Int32))), .val .null, .val (.ref c48_0), .val (.ref b50), .val (.ref b55), .val (.int (p2 &&& (3 : Int32))), .val (.ref b10), .val (.int (0 : Int32))] []))
                refine OwnFin.st (fun _ q => XS.goto X71.here hx rfl (pc0 := 202) (pc' := 212) rfl (hb hby at_202) (by decide) (by decide) q) ?_
                show OwnFin _ _ _ _ (T71.setTop (mkF m 212 #[.val (.int p0), .val (.int p1), .val (.int p2), .val (.int ((((p0.toUInt32 >>> ((8 : Int32) &&& 31).toUInt32).toInt32) &&& (255 : Int32)).toUInt32.toUInt16.toUInt32.toInt32)), .val (.ref b1), .val (.ref b10), .val (.int (own_minI (p0 &&& (3 : Int32)) (2 : Int32))), .val (.int (own_minI (p1 &&& (3 : Int32)) (2 : Int32))), .val .null, .val (.ref c48_0), .val (.ref b50), .val (.ref b55), .val (.int (p2 &&& (3 : Int32))), .val (.ref b10), .val (.int (0 : Int32))] []))
                refine OwnFin.st (fun _ q => XS.aload X71.here hx rfl (hb hby at_212) rfl rfl q) ?_
                show OwnFin _ _ _ _ (T71.setTop (mkF m 214 #[.val (.int p0), .val (.int p1), .val (.int p2), .val (.int ((((p0.toUInt32 >>> ((8 : Int32) &&& 31).toUInt32).toInt32) &&& (255 : Int32)).toUInt32.toUInt16.toUInt32.toInt32)), .val (.ref b1), .val (.ref b10), .val (.int (own_minI (p0 &&& (3 : Int32)) (2 : Int32))), .val (.int (own_minI (p1 &&& (3 : Int32)) (2 : Int32))), .val .null, .val (.ref c48_0), .val (.ref b50), .val (.ref b55), .val (.int (p2 &&& (3 : Int32))), .val (.ref b10), .val (.int (0 : Int32))] [(.ref b50)]))
                refine OwnFin.st (fun _ q => XS.aload X71.here hx rfl (hb hby at_214) rfl rfl q) ?_
                show OwnFin _ _ _ _ (T71.setTop (mkF m 216 #[.val (.int p0), .val (.int p1), .val (.int p2), .val (.int ((((p0.toUInt32 >>> ((8 : Int32) &&& 31).toUInt32).toInt32) &&& (255 : Int32)).toUInt32.toUInt16.toUInt32.toInt32)), .val (.ref b1), .val (.ref b10), .val (.int (own_minI (p0 &&& (3 : Int32)) (2 : Int32))), .val (.int (own_minI (p1 &&& (3 : Int32)) (2 : Int32))), .val .null, .val (.ref c48_0), .val (.ref b50), .val (.ref b55), .val (.int (p2 &&& (3 : Int32))), .val (.ref b10), .val (.int (0 : Int32))] [(.ref b10), (.ref b50)]))
                obtain ⟨cq72, kq72, q72a, q72b, q72c⟩ := isOf hZ he71 (((A50.keep K53).ext E55).keep K58)
                obtain ⟨_, _, ⟨T72, L72, k72, n72⟩, -, X72, ⟨Lc72, hQ72, l72, y72, z72⟩, st72⟩ := X71.virtualBack hx (y := (⟨"com/example/nepean/nepean/session/PendingKey", "equals", "(Ljava/lang/Object;)Z"⟩ : MethodName)) (z := (⟨"com/example/nepean/nepean/session/PendingKey", "equals", "(Ljava/lang/Object;)Z"⟩ : MethodName)) hown (mvT hZ (hw _ (List.mem_of_getElem? (i := 49) rfl))) (mvT hZ (hw _ (List.mem_of_getElem? (i := 50) rfl))) (notFace_of_selects (args := #[]) (mvT hZ (hw _ (List.mem_of_getElem? (i := 52) rfl)))) (mvT hZ (hw _ (List.mem_of_getElem? (i := 52) rfl))) (mvT hZ (hw _ (List.mem_of_getElem? (i := 51) rfl))) (by decide) (backOf (W := 0) (rm_eqS l Z av0 hw [] b50 b10 h58 n0 (Nat.le_trans Z0 kp59.1) ((((((((A10.ext E12).wr W14).keep K16).keep K48).ext E50).keep K53).ext E55).keep K58)) hZ (hw _ (List.mem_of_getElem? (i := 53) rfl)) (hw _ (List.mem_of_getElem? (i := 36) rfl)) (by decide) (by decide)) q72a q72c (g := (mkF m 216 #[.val (.int p0), .val (.int p1), .val (.int p2), .val (.int ((((p0.toUInt32 >>> ((8 : Int32) &&& 31).toUInt32).toInt32) &&& (255 : Int32)).toUInt32.toUInt16.toUInt32.toInt32)), .val (.ref b1), .val (.ref b10), .val (.int (own_minI (p0 &&& (3 : Int32)) (2 : Int32))), .val (.int (own_minI (p1 &&& (3 : Int32)) (2 : Int32))), .val .null, .val (.ref c48_0), .val (.ref b50), .val (.ref b55), .val (.int (p2 &&& (3 : Int32))), .val (.ref b10), .val (.int (0 : Int32))] [(.ref b10), (.ref b50)])) rfl (by rw [hml]; rfl) (Steps.refl _) (argsL := [(.ref b10)]) (rest := []) (lenOf pd_10 rfl) rfl (by show 2 * 0 + _ ≤ _; exact Nat.le_of_eq rfl) (hb hby at_216) (fun _ _ => ⟨rfl, he71, (by decide : 9 + 0 ≤ _), (by decide : 17 + 0 ≤ _)⟩)
                dsimp only [Pt.U, Pt.locs, Pt.cells, Pt.slots] at X72 l72 y72 z72 st72 hQ72
                subst l72 y72 z72
                obtain ⟨rfl, N72q, he72⟩ := hQ72
                have N72 := Fr.app N71 N72q
                refine OwnFin.tr st72 ?_
                show OwnFin _ _ _ _ (T72.setTop (mkF m 219 #[.val (.int p0), .val (.int p1), .val (.int p2), .val (.int ((((p0.toUInt32 >>> ((8 : Int32) &&& 31).toUInt32).toInt32) &&& (255 : Int32)).toUInt32.toUInt16.toUInt32.toInt32)), .val (.ref b1), .val (.ref b10), .val (.int (own_minI (p0 &&& (3 : Int32)) (2 : Int32))), .val (.int (own_minI (p1 &&& (3 : Int32)) (2 : Int32))), .val .null, .val (.ref c48_0), .val (.ref b50), .val (.ref b55), .val (.int (p2 &&& (3 : Int32))), .val (.ref b10), .val (.int (0 : Int32))] [(.int (0 : Int32))]))
                refine OwnFin.st (fun _ q => XS.iload X72.here hx rfl (hb hby at_219) rfl q) ?_
                show OwnFin _ _ _ _ (T72.setTop (mkF m 221 #[.val (.int p0), .val (.int p1), .val (.int p2), .val (.int ((((p0.toUInt32 >>> ((8 : Int32) &&& 31).toUInt32).toInt32) &&& (255 : Int32)).toUInt32.toUInt16.toUInt32.toInt32)), .val (.ref b1), .val (.ref b10), .val (.int (own_minI (p0 &&& (3 : Int32)) (2 : Int32))), .val (.int (own_minI (p1 &&& (3 : Int32)) (2 : Int32))), .val .null, .val (.ref c48_0), .val (.ref b50), .val (.ref b55), .val (.int (p2 &&& (3 : Int32))), .val (.ref b10), .val (.int (0 : Int32))] [(.int (0 : Int32)), (.int (0 : Int32))]))
                refine OwnFin.st (fun _ q => XS.icmpNo X72.here hx rfl (hb hby at_221) rfl (Jvm.Free.XT.ii_ne_f (rfl : (0 : Int32) = (0 : Int32))) q) ?_
                show OwnFin _ _ _ _ (T72.setTop (mkF m 224 #[.val (.int p0), .val (.int p1), .val (.int p2), .val (.int ((((p0.toUInt32 >>> ((8 : Int32) &&& 31).toUInt32).toInt32) &&& (255 : Int32)).toUInt32.toUInt16.toUInt32.toInt32)), .val (.ref b1), .val (.ref b10), .val (.int (own_minI (p0 &&& (3 : Int32)) (2 : Int32))), .val (.int (own_minI (p1 &&& (3 : Int32)) (2 : Int32))), .val .null, .val (.ref c48_0), .val (.ref b50), .val (.ref b55), .val (.int (p2 &&& (3 : Int32))), .val (.ref b10), .val (.int (0 : Int32))] []))
                refine OwnFin.st (fun _ q => XS.iconst X72.here hx rfl (hb hby at_224) q) ?_
                show OwnFin _ _ _ _ (T72.setTop (mkF m 225 #[.val (.int p0), .val (.int p1), .val (.int p2), .val (.int ((((p0.toUInt32 >>> ((8 : Int32) &&& 31).toUInt32).toInt32) &&& (255 : Int32)).toUInt32.toUInt16.toUInt32.toInt32)), .val (.ref b1), .val (.ref b10), .val (.int (own_minI (p0 &&& (3 : Int32)) (2 : Int32))), .val (.int (own_minI (p1 &&& (3 : Int32)) (2 : Int32))), .val .null, .val (.ref c48_0), .val (.ref b50), .val (.ref b55), .val (.int (p2 &&& (3 : Int32))), .val (.ref b10), .val (.int (0 : Int32))] [(.int (1 : Int32))]))
                refine OwnFin.st (fun _ q => XS.goto X72.here hx rfl (pc0 := 225) (pc' := 229) rfl (hb hby at_225) (by decide) (by decide) q) ?_
                show OwnFin _ _ _ _ (T72.setTop (mkF m 229 #[.val (.int p0), .val (.int p1), .val (.int p2), .val (.int ((((p0.toUInt32 >>> ((8 : Int32) &&& 31).toUInt32).toInt32) &&& (255 : Int32)).toUInt32.toUInt16.toUInt32.toInt32)), .val (.ref b1), .val (.ref b10), .val (.int (own_minI (p0 &&& (3 : Int32)) (2 : Int32))), .val (.int (own_minI (p1 &&& (3 : Int32)) (2 : Int32))), .val .null, .val (.ref c48_0), .val (.ref b50), .val (.ref b55), .val (.int (p2 &&& (3 : Int32))), .val (.ref b10), .val (.int (0 : Int32))] [(.int (1 : Int32))]))
                obtain ⟨fs, hr, hrun, hended, hW, hsame⟩ := X72.leave (v := some (.int (1 : Int32))) (fun h => by rw [Bd.returns] at h; cases h)
                refine ⟨_, _, retN X72 hx (t := .boolean) Bd.returns (by simp) (hb hby at_229) hr, hrun, hended, _, _, rfl, ?_, ⟨_, rfl⟩, hW, hsame.mono (by decide) (by decide)⟩
                show Q_rm0 Z p0 p1 p2 w_COMPACT_STRINGS clI w_cache h0 n0 _ T72.heap _
                rw [he72]
                exact ⟨rfl, N72⟩
              · skip
                show OwnFin _ _ _ _ (T58.setTop (mkF m 194 #[.val (.int p0), .val (.int p1), .val (.int p2), .val (.int ((((p0.toUInt32 >>> ((8 : Int32) &&& 31).toUInt32).toInt32) &&& (255 : Int32)).toUInt32.toUInt16.toUInt32.toInt32)), .val (.ref b1), .val (.ref b10), .val (.int (own_minI (p0 &&& (3 : Int32)) (2 : Int32))), .val (.int (own_minI (p1 &&& (3 : Int32)) (2 : Int32))), .val .null, .val (.ref c48_0), .val (.ref b50), .val (.ref b55), .val (.int (p2 &&& (3 : Int32))), .unset, .unset] [(.ref b10), (.ref b1), (.int (own_minI (p0 &&& (3 : Int32)) (2 : Int32)))]))
                obtain ⟨_, _, ⟨T73, L73, k73, n73⟩, -, X73, ⟨Lc73, hQ73, l73, y73, z73⟩, st73⟩ := Jvm.LawKit.callS X58 hx (y := (⟨"com/example/nepean/nepean/session/PendingKeyEqualsPinLaw", "pick", "(ILjava/lang/Object;Ljava/lang/Object;)Ljava/lang/Object;"⟩ : MethodName)) hown (mvT hZ (hw _ (List.mem_of_getElem? (i := 37) rfl))) (mvT hZ (hw _ (List.mem_of_getElem? (i := 38) rfl))) (mvT hZ (hw _ (List.mem_of_getElem? (i := 39) rfl))) (mvT hZ (hw _ (List.mem_of_getElem? (i := 40) rfl))) (by decide) (backOf (W := 0) (rm_pick2 l Z av0 hw [] (own_minI (p0 &&& (3 : Int32)) (2 : Int32)) b1 b10 h58 n0 (Nat.le_trans Z0 kp59.1) hc67 hc70) hZ (hw _ (List.mem_of_getElem? (i := 40) rfl)) (hw _ (List.mem_of_getElem? (i := 39) rfl)) (by decide) (by decide)) (g := (mkF m 194 #[.val (.int p0), .val (.int p1), .val (.int p2), .val (.int ((((p0.toUInt32 >>> ((8 : Int32) &&& 31).toUInt32).toInt32) &&& (255 : Int32)).toUInt32.toUInt16.toUInt32.toInt32)), .val (.ref b1), .val (.ref b10), .val (.int (own_minI (p0 &&& (3 : Int32)) (2 : Int32))), .val (.int (own_minI (p1 &&& (3 : Int32)) (2 : Int32))), .val .null, .val (.ref c48_0), .val (.ref b50), .val (.ref b55), .val (.int (p2 &&& (3 : Int32))), .unset, .unset] [(.ref b10), (.ref b1), (.int (own_minI (p0 &&& (3 : Int32)) (2 : Int32)))])) rfl (by rw [hml]; rfl) (argsL := [(.int (own_minI (p0 &&& (3 : Int32)) (2 : Int32))), (.ref b1), (.ref b10)]) (rest := []) (lenOf pd_8 rfl) rfl (by show 2 * 0 + _ ≤ _; exact Nat.le_of_eq rfl) (hb hby at_194) (fun _ _ => ⟨rfl, e58, (by decide : 9 + 0 ≤ _), (by decide : 17 + 0 ≤ _)⟩)
                dsimp only [Pt.U, Pt.locs, Pt.cells, Pt.slots] at X73 l73 y73 z73 st73 hQ73
                subst l73 y73 z73
                obtain ⟨rfl, N73q, he73⟩ := hQ73
                have N73 := Fr.app N58 N73q
                refine OwnFin.st st73 ?_
                show OwnFin _ _ _ _ (T73.setTop (mkF m 197 #[.val (.int p0), .val (.int p1), .val (.int p2), .val (.int ((((p0.toUInt32 >>> ((8 : Int32) &&& 31).toUInt32).toInt32) &&& (255 : Int32)).toUInt32.toUInt16.toUInt32.toInt32)), .val (.ref b1), .val (.ref b10), .val (.int (own_minI (p0 &&& (3 : Int32)) (2 : Int32))), .val (.int (own_minI (p1 &&& (3 : Int32)) (2 : Int32))), .val .null, .val (.ref c48_0), .val (.ref b50), .val (.ref b55), .val (.int (p2 &&& (3 : Int32))), .unset, .unset] [.null]))
                refine OwnFin.st (fun _ q => XS.astore X73.here hx rfl (hb hby at_197) rfl rfl (l' := #[.val (.int p0), .val (.int p1), .val (.int p2), .val (.int ((((p0.toUInt32 >>> ((8 : Int32) &&& 31).toUInt32).toInt32) &&& (255 : Int32)).toUInt32.toUInt16.toUInt32.toInt32)), .val (.ref b1), .val (.ref b10), .val (.int (own_minI (p0 &&& (3 : Int32)) (2 : Int32))), .val (.int (own_minI (p1 &&& (3 : Int32)) (2 : Int32))), .val .null, .val (.ref c48_0), .val (.ref b50), .val (.ref b55), .val (.int (p2 &&& (3 : Int32))), .val .null, .unset]) rfl q) ?_
                show OwnFin _ _ _ _ (T73.setTop (mkF m 199 #[.val (.int p0), .val (.int p1), .val (.int p2), .val (.int ((((p0.toUInt32 >>> ((8 : Int32) &&& 31).toUInt32).toInt32) &&& (255 : Int32)).toUInt32.toUInt16.toUInt32.toInt32)), .val (.ref b1), .val (.ref b10), .val (.int (own_minI (p0 &&& (3 : Int32)) (2 : Int32))), .val (.int (own_minI (p1 &&& (3 : Int32)) (2 : Int32))), .val .null, .val (.ref c48_0), .val (.ref b50), .val (.ref b55), .val (.int (p2 &&& (3 : Int32))), .val .null, .unset] []))
                refine OwnFin.st (fun _ q => XS.iconst X73.here hx rfl (hb hby at_199) q) ?_
                show OwnFin _ _ _ _ (T73.setTop (mkF m 200 #[.val (.int p0), .val (.int p1), .val (.int p2), .val (.int ((((p0.toUInt32 >>> ((8 : Int32) &&& 31).toUInt32).toInt32) &&& (255 : Int32)).toUInt32.toUInt16.toUInt32.toInt32)), .val (.ref b1), .val (.ref b10), .val (.int (own_minI (p0 &&& (3 : Int32)) (2 : Int32))), .val (.int (own_minI (p1 &&& (3 : Int32)) (2 : Int32))), .val .null, .val (.ref c48_0), .val (.ref b50), .val (.ref b55), .val (.int (p2 &&& (3 : Int32))), .val .null, .unset] [(.int (0 : Int32))]))
                refine OwnFin.st (fun _ q => XS.istore X73.here hx rfl (hb hby at_200) rfl (l' := #[.val (.int p0), .val (.int p1), .val (.int p2), .val (.int ((((p0.toUInt32 >>> ((8 : Int32) &&& 31).toUInt32).toInt32) &&& (255 : Int32)).toUInt32.toUInt16.toUInt32.toInt32)), .val (.ref b1), .val (.ref b10), .val (.int (own_minI (p0 &&& (3 : Int32)) (2 : Int32))), .val (.int (own_minI (p1 &&& (3 : Int32)) (2 : Int32))), .val .null, .val (.ref c48_0), .val (.ref b50), .val (.ref b55), .val (.int (p2 &&& (3 : Int32))), .val .null, .val (.int (0 : Int32))]) rfl q) ?_
                show OwnFin _ _ _ _ (T73.setTop (mkF m 202 #[.val (.int p0), .val (.int p1), .val (.int p2), .val (.int ((((p0.toUInt32 >>> ((8 : Int32) &&& 31).toUInt32).toInt32) &&& (255 : Int32)).toUInt32.toUInt16.toUInt32.toInt32)), .val (.ref b1), .val (.ref b10), .val (.int (own_minI (p0 &&& (3 : Int32)) (2 : Int32))), .val (.int (own_minI (p1 &&& (3 : Int32)) (2 : Int32))), .val .null, .val (.ref c48_0), .val (.ref b50), .val (.ref b55), .val (.int (p2 &&& (3 : Int32))), .val .null, .val (.int (0 : Int32))] []))
                refine OwnFin.st (fun _ q => XS.goto X73.here hx rfl (pc0 := 202) (pc' := 212) rfl (hb hby at_202) (by decide) (by decide) q) ?_
                show OwnFin _ _ _ _ (T73.setTop (mkF m 212 #[.val (.int p0), .val (.int p1), .val (.int p2), .val (.int ((((p0.toUInt32 >>> ((8 : Int32) &&& 31).toUInt32).toInt32) &&& (255 : Int32)).toUInt32.toUInt16.toUInt32.toInt32)), .val (.ref b1), .val (.ref b10), .val (.int (own_minI (p0 &&& (3 : Int32)) (2 : Int32))), .val (.int (own_minI (p1 &&& (3 : Int32)) (2 : Int32))), .val .null, .val (.ref c48_0), .val (.ref b50), .val (.ref b55), .val (.int (p2 &&& (3 : Int32))), .val .null, .val (.int (0 : Int32))] []))
                refine OwnFin.st (fun _ q => XS.aload X73.here hx rfl (hb hby at_212) rfl rfl q) ?_
                show OwnFin _ _ _ _ (T73.setTop (mkF m 214 #[.val (.int p0), .val (.int p1), .val (.int p2), .val (.int ((((p0.toUInt32 >>> ((8 : Int32) &&& 31).toUInt32).toInt32) &&& (255 : Int32)).toUInt32.toUInt16.toUInt32.toInt32)), .val (.ref b1), .val (.ref b10), .val (.int (own_minI (p0 &&& (3 : Int32)) (2 : Int32))), .val (.int (own_minI (p1 &&& (3 : Int32)) (2 : Int32))), .val .null, .val (.ref c48_0), .val (.ref b50), .val (.ref b55), .val (.int (p2 &&& (3 : Int32))), .val .null, .val (.int (0 : Int32))] [(.ref b50)]))
                refine OwnFin.st (fun _ q => XS.aload X73.here hx rfl (hb hby at_214) rfl rfl q) ?_
                show OwnFin _ _ _ _ (T73.setTop (mkF m 216 #[.val (.int p0), .val (.int p1), .val (.int p2), .val (.int ((((p0.toUInt32 >>> ((8 : Int32) &&& 31).toUInt32).toInt32) &&& (255 : Int32)).toUInt32.toUInt16.toUInt32.toInt32)), .val (.ref b1), .val (.ref b10), .val (.int (own_minI (p0 &&& (3 : Int32)) (2 : Int32))), .val (.int (own_minI (p1 &&& (3 : Int32)) (2 : Int32))), .val .null, .val (.ref c48_0), .val (.ref b50), .val (.ref b55), .val (.int (p2 &&& (3 : Int32))), .val .null, .val (.int (0 : Int32))] [.null, (.ref b50)]))
                obtain ⟨cq74, kq74, q74a, q74b, q74c⟩ := isOf hZ he73 (((A50.keep K53).ext E55).keep K58)
                obtain ⟨_, _, ⟨T74, L74, k74, n74⟩, -, X74, ⟨Lc74, hQ74, l74, y74, z74⟩, st74⟩ := X73.virtualBack hx (y := (⟨"com/example/nepean/nepean/session/PendingKey", "equals", "(Ljava/lang/Object;)Z"⟩ : MethodName)) (z := (⟨"com/example/nepean/nepean/session/PendingKey", "equals", "(Ljava/lang/Object;)Z"⟩ : MethodName)) hown (mvT hZ (hw _ (List.mem_of_getElem? (i := 49) rfl))) (mvT hZ (hw _ (List.mem_of_getElem? (i := 50) rfl))) (notFace_of_selects (args := #[]) (mvT hZ (hw _ (List.mem_of_getElem? (i := 52) rfl)))) (mvT hZ (hw _ (List.mem_of_getElem? (i := 52) rfl))) (mvT hZ (hw _ (List.mem_of_getElem? (i := 51) rfl))) (by decide) (backOf (W := 0) (rm_eqN l Z av0 hw [] b50 h58 n0 (Nat.le_trans Z0 kp59.1) ) hZ (hw _ (List.mem_of_getElem? (i := 53) rfl)) (hw _ (List.mem_of_getElem? (i := 36) rfl)) (by decide) (by decide)) q74a q74c (g := (mkF m 216 #[.val (.int p0), .val (.int p1), .val (.int p2), .val (.int ((((p0.toUInt32 >>> ((8 : Int32) &&& 31).toUInt32).toInt32) &&& (255 : Int32)).toUInt32.toUInt16.toUInt32.toInt32)), .val (.ref b1), .val (.ref b10), .val (.int (own_minI (p0 &&& (3 : Int32)) (2 : Int32))), .val (.int (own_minI (p1 &&& (3 : Int32)) (2 : Int32))), .val .null, .val (.ref c48_0), .val (.ref b50), .val (.ref b55), .val (.int (p2 &&& (3 : Int32))), .val .null, .val (.int (0 : Int32))] [.null, (.ref b50)])) rfl (by rw [hml]; rfl) (Steps.refl _) (argsL := [.null]) (rest := []) (lenOf pd_10 rfl) rfl (by show 2 * 0 + _ ≤ _; exact Nat.le_of_eq rfl) (hb hby at_216) (fun _ _ => ⟨rfl, he73, (by decide : 9 + 0 ≤ _), (by decide : 17 + 0 ≤ _)⟩)
                dsimp only [Pt.U, Pt.locs, Pt.cells, Pt.slots] at X74 l74 y74 z74 st74 hQ74
                subst l74 y74 z74
                obtain ⟨rfl, N74q, he74⟩ := hQ74
                have N74 := Fr.app N73 N74q
                refine OwnFin.tr st74 ?_
                show OwnFin _ _ _ _ (T74.setTop (mkF m 219 #[.val (.int p0), .val (.int p1), .val (.int p2), .val (.int ((((p0.toUInt32 >>> ((8 : Int32) &&& 31).toUInt32).toInt32) &&& (255 : Int32)).toUInt32.toUInt16.toUInt32.toInt32)), .val (.ref b1), .val (.ref b10), .val (.int (own_minI (p0 &&& (3 : Int32)) (2 : Int32))), .val (.int (own_minI (p1 &&& (3 : Int32)) (2 : Int32))), .val .null, .val (.ref c48_0), .val (.ref b50), .val (.ref b55), .val (.int (p2 &&& (3 : Int32))), .val .null, .val (.int (0 : Int32))] [(.int (0 : Int32))]))
                refine OwnFin.st (fun _ q => XS.iload X74.here hx rfl (hb hby at_219) rfl q) ?_
                show OwnFin _ _ _ _ (T74.setTop (mkF m 221 #[.val (.int p0), .val (.int p1), .val (.int p2), .val (.int ((((p0.toUInt32 >>> ((8 : Int32) &&& 31).toUInt32).toInt32) &&& (255 : Int32)).toUInt32.toUInt16.toUInt32.toInt32)), .val (.ref b1), .val (.ref b10), .val (.int (own_minI (p0 &&& (3 : Int32)) (2 : Int32))), .val (.int (own_minI (p1 &&& (3 : Int32)) (2 : Int32))), .val .null, .val (.ref c48_0), .val (.ref b50), .val (.ref b55), .val (.int (p2 &&& (3 : Int32))), .val .null, .val (.int (0 : Int32))] [(.int (0 : Int32)), (.int (0 : Int32))]))
                refine OwnFin.st (fun _ q => XS.icmpNo X74.here hx rfl (hb hby at_221) rfl (Jvm.Free.XT.ii_ne_f (rfl : (0 : Int32) = (0 : Int32))) q) ?_
                show OwnFin _ _ _ _ (T74.setTop (mkF m 224 #[.val (.int p0), .val (.int p1), .val (.int p2), .val (.int ((((p0.toUInt32 >>> ((8 : Int32) &&& 31).toUInt32).toInt32) &&& (255 : Int32)).toUInt32.toUInt16.toUInt32.toInt32)), .val (.ref b1), .val (.ref b10), .val (.int (own_minI (p0 &&& (3 : Int32)) (2 : Int32))), .val (.int (own_minI (p1 &&& (3 : Int32)) (2 : Int32))), .val .null, .val (.ref c48_0), .val (.ref b50), .val (.ref b55), .val (.int (p2 &&& (3 : Int32))), .val .null, .val (.int (0 : Int32))] []))
                refine OwnFin.st (fun _ q => XS.iconst X74.here hx rfl (hb hby at_224) q) ?_
                show OwnFin _ _ _ _ (T74.setTop (mkF m 225 #[.val (.int p0), .val (.int p1), .val (.int p2), .val (.int ((((p0.toUInt32 >>> ((8 : Int32) &&& 31).toUInt32).toInt32) &&& (255 : Int32)).toUInt32.toUInt16.toUInt32.toInt32)), .val (.ref b1), .val (.ref b10), .val (.int (own_minI (p0 &&& (3 : Int32)) (2 : Int32))), .val (.int (own_minI (p1 &&& (3 : Int32)) (2 : Int32))), .val .null, .val (.ref c48_0), .val (.ref b50), .val (.ref b55), .val (.int (p2 &&& (3 : Int32))), .val .null, .val (.int (0 : Int32))] [(.int (1 : Int32))]))
                refine OwnFin.st (fun _ q => XS.goto X74.here hx rfl (pc0 := 225) (pc' := 229) rfl (hb hby at_225) (by decide) (by decide) q) ?_
                show OwnFin _ _ _ _ (T74.setTop (mkF m 229 #[.val (.int p0), .val (.int p1), .val (.int p2), .val (.int ((((p0.toUInt32 >>> ((8 : Int32) &&& 31).toUInt32).toInt32) &&& (255 : Int32)).toUInt32.toUInt16.toUInt32.toInt32)), .val (.ref b1), .val (.ref b10), .val (.int (own_minI (p0 &&& (3 : Int32)) (2 : Int32))), .val (.int (own_minI (p1 &&& (3 : Int32)) (2 : Int32))), .val .null, .val (.ref c48_0), .val (.ref b50), .val (.ref b55), .val (.int (p2 &&& (3 : Int32))), .val .null, .val (.int (0 : Int32))] [(.int (1 : Int32))]))
                obtain ⟨fs, hr, hrun, hended, hW, hsame⟩ := X74.leave (v := some (.int (1 : Int32))) (fun h => by rw [Bd.returns] at h; cases h)
                refine ⟨_, _, retN X74 hx (t := .boolean) Bd.returns (by simp) (hb hby at_229) hr, hrun, hended, _, _, rfl, ?_, ⟨_, rfl⟩, hW, hsame.mono (by decide) (by decide)⟩
                show Q_rm0 Z p0 p1 p2 w_COMPACT_STRINGS clI w_cache h0 n0 _ T74.heap _
                rw [he74]
                exact ⟨rfl, N74⟩
          · skip
            refine OwnFin.st (fun _ q => XS.icmpYes X58.here hx rfl (pc0 := 185) (pc' := 205) rfl (hb hby at_185) rfl (Jvm.Free.XT.ii_ne_t hc66) (by decide) (by decide) q) ?_
            show OwnFin _ _ _ _ (T58.setTop (mkF m 205 #[.val (.int p0), .val (.int p1), .val (.int p2), .val (.int ((((p0.toUInt32 >>> ((8 : Int32) &&& 31).toUInt32).toInt32) &&& (255 : Int32)).toUInt32.toUInt16.toUInt32.toInt32)), .val (.ref b1), .val (.ref b10), .val (.int (own_minI (p0 &&& (3 : Int32)) (2 : Int32))), .val (.int (own_minI (p1 &&& (3 : Int32)) (2 : Int32))), .val .null, .val (.ref c48_0), .val (.ref b50), .val (.ref b55), .val (.int (p2 &&& (3 : Int32))), .unset, .unset] []))
            refine OwnFin.st (fun _ q => XS.aload X58.here hx rfl (hb hby at_205) rfl rfl q) ?_
            show OwnFin _ _ _ _ (T58.setTop (mkF m 207 #[.val (.int p0), .val (.int p1), .val (.int p2), .val (.int ((((p0.toUInt32 >>> ((8 : Int32) &&& 31).toUInt32).toInt32) &&& (255 : Int32)).toUInt32.toUInt16.toUInt32.toInt32)), .val (.ref b1), .val (.ref b10), .val (.int (own_minI (p0 &&& (3 : Int32)) (2 : Int32))), .val (.int (own_minI (p1 &&& (3 : Int32)) (2 : Int32))), .val .null, .val (.ref c48_0), .val (.ref b50), .val (.ref b55), .val (.int (p2 &&& (3 : Int32))), .unset, .unset] [(.ref b50)]))
            refine OwnFin.st (fun _ q => XS.astore X58.here hx rfl (hb hby at_207) rfl rfl (l' := #[.val (.int p0), .val (.int p1), .val (.int p2), .val (.int ((((p0.toUInt32 >>> ((8 : Int32) &&& 31).toUInt32).toInt32) &&& (255 : Int32)).toUInt32.toUInt16.toUInt32.toInt32)), .val (.ref b1), .val (.ref b10), .val (.int (own_minI (p0 &&& (3 : Int32)) (2 : Int32))), .val (.int (own_minI (p1 &&& (3 : Int32)) (2 : Int32))), .val .null, .val (.ref c48_0), .val (.ref b50), .val (.ref b55), .val (.int (p2 &&& (3 : Int32))), .val (.ref b50), .unset]) rfl q) ?_
            show OwnFin _ _ _ _ (T58.setTop (mkF m 209 #[.val (.int p0), .val (.int p1), .val (.int p2), .val (.int ((((p0.toUInt32 >>> ((8 : Int32) &&& 31).toUInt32).toInt32) &&& (255 : Int32)).toUInt32.toUInt16.toUInt32.toInt32)), .val (.ref b1), .val (.ref b10), .val (.int (own_minI (p0 &&& (3 : Int32)) (2 : Int32))), .val (.int (own_minI (p1 &&& (3 : Int32)) (2 : Int32))), .val .null, .val (.ref c48_0), .val (.ref b50), .val (.ref b55), .val (.int (p2 &&& (3 : Int32))), .val (.ref b50), .unset] []))
            refine OwnFin.st (fun _ q => XS.iconst X58.here hx rfl (hb hby at_209) q) ?_
            show OwnFin _ _ _ _ (T58.setTop (mkF m 210 #[.val (.int p0), .val (.int p1), .val (.int p2), .val (.int ((((p0.toUInt32 >>> ((8 : Int32) &&& 31).toUInt32).toInt32) &&& (255 : Int32)).toUInt32.toUInt16.toUInt32.toInt32)), .val (.ref b1), .val (.ref b10), .val (.int (own_minI (p0 &&& (3 : Int32)) (2 : Int32))), .val (.int (own_minI (p1 &&& (3 : Int32)) (2 : Int32))), .val .null, .val (.ref c48_0), .val (.ref b50), .val (.ref b55), .val (.int (p2 &&& (3 : Int32))), .val (.ref b50), .unset] [(.int (1 : Int32))]))
            refine OwnFin.st (fun _ q => XS.istore X58.here hx rfl (hb hby at_210) rfl (l' := #[.val (.int p0), .val (.int p1), .val (.int p2), .val (.int ((((p0.toUInt32 >>> ((8 : Int32) &&& 31).toUInt32).toInt32) &&& (255 : Int32)).toUInt32.toUInt16.toUInt32.toInt32)), .val (.ref b1), .val (.ref b10), .val (.int (own_minI (p0 &&& (3 : Int32)) (2 : Int32))), .val (.int (own_minI (p1 &&& (3 : Int32)) (2 : Int32))), .val .null, .val (.ref c48_0), .val (.ref b50), .val (.ref b55), .val (.int (p2 &&& (3 : Int32))), .val (.ref b50), .val (.int (1 : Int32))]) rfl q) ?_
            show OwnFin _ _ _ _ (T58.setTop (mkF m 212 #[.val (.int p0), .val (.int p1), .val (.int p2), .val (.int ((((p0.toUInt32 >>> ((8 : Int32) &&& 31).toUInt32).toInt32) &&& (255 : Int32)).toUInt32.toUInt16.toUInt32.toInt32)), .val (.ref b1), .val (.ref b10), .val (.int (own_minI (p0 &&& (3 : Int32)) (2 : Int32))), .val (.int (own_minI (p1 &&& (3 : Int32)) (2 : Int32))), .val .null, .val (.ref c48_0), .val (.ref b50), .val (.ref b55), .val (.int (p2 &&& (3 : Int32))), .val (.ref b50), .val (.int (1 : Int32))] []))
            refine OwnFin.st (fun _ q => XS.aload X58.here hx rfl (hb hby at_212) rfl rfl q) ?_
            show OwnFin _ _ _ _ (T58.setTop (mkF m 214 #[.val (.int p0), .val (.int p1), .val (.int p2), .val (.int ((((p0.toUInt32 >>> ((8 : Int32) &&& 31).toUInt32).toInt32) &&& (255 : Int32)).toUInt32.toUInt16.toUInt32.toInt32)), .val (.ref b1), .val (.ref b10), .val (.int (own_minI (p0 &&& (3 : Int32)) (2 : Int32))), .val (.int (own_minI (p1 &&& (3 : Int32)) (2 : Int32))), .val .null, .val (.ref c48_0), .val (.ref b50), .val (.ref b55), .val (.int (p2 &&& (3 : Int32))), .val (.ref b50), .val (.int (1 : Int32))] [(.ref b50)]))
            refine OwnFin.st (fun _ q => XS.aload X58.here hx rfl (hb hby at_214) rfl rfl q) ?_
            show OwnFin _ _ _ _ (T58.setTop (mkF m 216 #[.val (.int p0), .val (.int p1), .val (.int p2), .val (.int ((((p0.toUInt32 >>> ((8 : Int32) &&& 31).toUInt32).toInt32) &&& (255 : Int32)).toUInt32.toUInt16.toUInt32.toInt32)), .val (.ref b1), .val (.ref b10), .val (.int (own_minI (p0 &&& (3 : Int32)) (2 : Int32))), .val (.int (own_minI (p1 &&& (3 : Int32)) (2 : Int32))), .val .null, .val (.ref c48_0), .val (.ref b50), .val (.ref b55), .val (.int (p2 &&& (3 : Int32))), .val (.ref b50), .val (.int (1 : Int32))] [(.ref b50), (.ref b50)]))
            obtain ⟨cq75, kq75, q75a, q75b, q75c⟩ := isOf hZ e58 (((A50.keep K53).ext E55).keep K58)
            obtain ⟨_, _, ⟨T75, L75, k75, n75⟩, -, X75, ⟨Lc75, hQ75, l75, y75, z75⟩, st75⟩ := X58.virtualBack hx (y := (⟨"com/example/nepean/nepean/session/PendingKey", "equals", "(Ljava/lang/Object;)Z"⟩ : MethodName)) (z := (⟨"com/example/nepean/nepean/session/PendingKey", "equals", "(Ljava/lang/Object;)Z"⟩ : MethodName)) hown (mvT hZ (hw _ (List.mem_of_getElem? (i := 49) rfl))) (mvT hZ (hw _ (List.mem_of_getElem? (i := 50) rfl))) (notFace_of_selects (args := #[]) (mvT hZ (hw _ (List.mem_of_getElem? (i := 52) rfl)))) (mvT hZ (hw _ (List.mem_of_getElem? (i := 52) rfl))) (mvT hZ (hw _ (List.mem_of_getElem? (i := 51) rfl))) (by decide) (backOf (W := 0) (rm_eqPT l Z av0 hw [] b50 b50 (own_pick (own_minI (p0 &&& (3 : Int32)) (2 : Int32)) b1 b10) (own_pick (own_minI (p0 &&& (3 : Int32)) (2 : Int32)) b1 b10) h58 n0 (Nat.le_trans Z0 kp59.1) (((A50.keep K53).ext E55).keep K58) ((r53_0.ext E55).keep K58 (ninS (Nat.ne_of_lt (Nat.lt_of_lt_of_le (A50.keep K53).lt bi_b55)) nin0)) ((r53_0.ext E55).keep K58 (ninS (Nat.ne_of_lt (Nat.lt_of_lt_of_le (A50.keep K53).lt bi_b55)) nin0)) (rfl : (own_pick (own_minI (p0 &&& (3 : Int32)) (2 : Int32)) b1 b10) = (own_pick (own_minI (p0 &&& (3 : Int32)) (2 : Int32)) b1 b10)) (own_pickr _ _ _) (own_pickr _ _ _)) hZ (hw _ (List.mem_of_getElem? (i := 53) rfl)) (hw _ (List.mem_of_getElem? (i := 36) rfl)) (by decide) (by decide)) q75a q75c (g := (mkF m 216 #[.val (.int p0), .val (.int p1), .val (.int p2), .val (.int ((((p0.toUInt32 >>> ((8 : Int32) &&& 31).toUInt32).toInt32) &&& (255 : Int32)).toUInt32.toUInt16.toUInt32.toInt32)), .val (.ref b1), .val (.ref b10), .val (.int (own_minI (p0 &&& (3 : Int32)) (2 : Int32))), .val (.int (own_minI (p1 &&& (3 : Int32)) (2 : Int32))), .val .null, .val (.ref c48_0), .val (.ref b50), .val (.ref b55), .val (.int (p2 &&& (3 : Int32))), .val (.ref b50), .val (.int (1 : Int32))] [(.ref b50), (.ref b50)])) rfl (by rw [hml]; rfl) (Steps.refl _) (argsL := [(.ref b50)]) (rest := []) (lenOf pd_10 rfl) rfl (by show 2 * 0 + _ ≤ _; exact Nat.le_of_eq rfl) (hb hby at_216) (fun _ _ => ⟨rfl, e58, (by decide : 9 + 0 ≤ _), (by decide : 17 + 0 ≤ _)⟩)
            dsimp only [Pt.U, Pt.locs, Pt.cells, Pt.slots] at X75 l75 y75 z75 st75 hQ75
            subst l75 y75 z75
            obtain ⟨rfl, N75q, he75⟩ := hQ75
            have N75 := Fr.app N58 N75q
            refine OwnFin.tr st75 ?_
            show OwnFin _ _ _ _ (T75.setTop (mkF m 219 #[.val (.int p0), .val (.int p1), .val (.int p2), .val (.int ((((p0.toUInt32 >>> ((8 : Int32) &&& 31).toUInt32).toInt32) &&& (255 : Int32)).toUInt32.toUInt16.toUInt32.toInt32)), .val (.ref b1), .val (.ref b10), .val (.int (own_minI (p0 &&& (3 : Int32)) (2 : Int32))), .val (.int (own_minI (p1 &&& (3 : Int32)) (2 : Int32))), .val .null, .val (.ref c48_0), .val (.ref b50), .val (.ref b55), .val (.int (p2 &&& (3 : Int32))), .val (.ref b50), .val (.int (1 : Int32))] [(.int (1 : Int32))]))
            refine OwnFin.st (fun _ q => XS.iload X75.here hx rfl (hb hby at_219) rfl q) ?_
            show OwnFin _ _ _ _ (T75.setTop (mkF m 221 #[.val (.int p0), .val (.int p1), .val (.int p2), .val (.int ((((p0.toUInt32 >>> ((8 : Int32) &&& 31).toUInt32).toInt32) &&& (255 : Int32)).toUInt32.toUInt16.toUInt32.toInt32)), .val (.ref b1), .val (.ref b10), .val (.int (own_minI (p0 &&& (3 : Int32)) (2 : Int32))), .val (.int (own_minI (p1 &&& (3 : Int32)) (2 : Int32))), .val .null, .val (.ref c48_0), .val (.ref b50), .val (.ref b55), .val (.int (p2 &&& (3 : Int32))), .val (.ref b50), .val (.int (1 : Int32))] [(.int (1 : Int32)), (.int (1 : Int32))]))
            refine OwnFin.st (fun _ q => XS.icmpNo X75.here hx rfl (hb hby at_221) rfl (Jvm.Free.XT.ii_ne_f (rfl : (1 : Int32) = (1 : Int32))) q) ?_
            show OwnFin _ _ _ _ (T75.setTop (mkF m 224 #[.val (.int p0), .val (.int p1), .val (.int p2), .val (.int ((((p0.toUInt32 >>> ((8 : Int32) &&& 31).toUInt32).toInt32) &&& (255 : Int32)).toUInt32.toUInt16.toUInt32.toInt32)), .val (.ref b1), .val (.ref b10), .val (.int (own_minI (p0 &&& (3 : Int32)) (2 : Int32))), .val (.int (own_minI (p1 &&& (3 : Int32)) (2 : Int32))), .val .null, .val (.ref c48_0), .val (.ref b50), .val (.ref b55), .val (.int (p2 &&& (3 : Int32))), .val (.ref b50), .val (.int (1 : Int32))] []))
            refine OwnFin.st (fun _ q => XS.iconst X75.here hx rfl (hb hby at_224) q) ?_
            show OwnFin _ _ _ _ (T75.setTop (mkF m 225 #[.val (.int p0), .val (.int p1), .val (.int p2), .val (.int ((((p0.toUInt32 >>> ((8 : Int32) &&& 31).toUInt32).toInt32) &&& (255 : Int32)).toUInt32.toUInt16.toUInt32.toInt32)), .val (.ref b1), .val (.ref b10), .val (.int (own_minI (p0 &&& (3 : Int32)) (2 : Int32))), .val (.int (own_minI (p1 &&& (3 : Int32)) (2 : Int32))), .val .null, .val (.ref c48_0), .val (.ref b50), .val (.ref b55), .val (.int (p2 &&& (3 : Int32))), .val (.ref b50), .val (.int (1 : Int32))] [(.int (1 : Int32))]))
            refine OwnFin.st (fun _ q => XS.goto X75.here hx rfl (pc0 := 225) (pc' := 229) rfl (hb hby at_225) (by decide) (by decide) q) ?_
            show OwnFin _ _ _ _ (T75.setTop (mkF m 229 #[.val (.int p0), .val (.int p1), .val (.int p2), .val (.int ((((p0.toUInt32 >>> ((8 : Int32) &&& 31).toUInt32).toInt32) &&& (255 : Int32)).toUInt32.toUInt16.toUInt32.toInt32)), .val (.ref b1), .val (.ref b10), .val (.int (own_minI (p0 &&& (3 : Int32)) (2 : Int32))), .val (.int (own_minI (p1 &&& (3 : Int32)) (2 : Int32))), .val .null, .val (.ref c48_0), .val (.ref b50), .val (.ref b55), .val (.int (p2 &&& (3 : Int32))), .val (.ref b50), .val (.int (1 : Int32))] [(.int (1 : Int32))]))
            obtain ⟨fs, hr, hrun, hended, hW, hsame⟩ := X75.leave (v := some (.int (1 : Int32))) (fun h => by rw [Bd.returns] at h; cases h)
            refine ⟨_, _, retN X75 hx (t := .boolean) Bd.returns (by simp) (hb hby at_229) hr, hrun, hended, _, _, rfl, ?_, ⟨_, rfl⟩, hW, hsame.mono (by decide) (by decide)⟩
            show Q_rm0 Z p0 p1 p2 w_COMPACT_STRINGS clI w_cache h0 n0 _ T75.heap _
            rw [he75]
            exact ⟨rfl, N75⟩
  · skip
    refine OwnFin.st (fun _ q => XS.ifNo X19.here hx rfl (hb hby at_65) rfl (Jvm.Free.XT.i0_eq_f hc20) q) ?_
    show OwnFin _ _ _ _ (T19.setTop (mkF m 68 #[.val (.int p0), .val (.int p1), .val (.int p2), .val (.int ((((p0.toUInt32 >>> ((8 : Int32) &&& 31).toUInt32).toInt32) &&& (255 : Int32)).toUInt32.toUInt16.toUInt32.toInt32)), .val (.ref b1), .val (.ref b10), .val (.int (own_minI (p0 &&& (3 : Int32)) (2 : Int32))), .val (.int (own_minI (p1 &&& (3 : Int32)) (2 : Int32))), .unset, .unset, .unset, .unset, .unset, .unset, .unset] []))
    refine OwnFin.st (fun _ q => XS.iloadN X19.here hx rfl (hb hby at_68) rfl q) ?_
    show OwnFin _ _ _ _ (T19.setTop (mkF m 69 #[.val (.int p0), .val (.int p1), .val (.int p2), .val (.int ((((p0.toUInt32 >>> ((8 : Int32) &&& 31).toUInt32).toInt32) &&& (255 : Int32)).toUInt32.toUInt16.toUInt32.toInt32)), .val (.ref b1), .val (.ref b10), .val (.int (own_minI (p0 &&& (3 : Int32)) (2 : Int32))), .val (.int (own_minI (p1 &&& (3 : Int32)) (2 : Int32))), .unset, .unset, .unset, .unset, .unset, .unset, .unset] [(.int p1)]))
    obtain ⟨_, _, ⟨T76, L76, k76, n76⟩, -, X76, ⟨Lc76, hQ76, l76, y76, z76⟩, st76⟩ := Jvm.LawKit.callS X19 hx (y := (⟨"java/lang/Integer", "valueOf", "(I)Ljava/lang/Integer;"⟩ : MethodName)) hown (mvT hZ (hw _ (List.mem_of_getElem? (i := 57) rfl))) (mvT hZ (hw _ (List.mem_of_getElem? (i := 58) rfl))) (mvT hZ (hw _ (List.mem_of_getElem? (i := 59) rfl))) (mvT hZ (hw _ (List.mem_of_getElem? (i := 60) rfl))) (by decide) (backOf (W := 0) (rm_valueOf l Z av0 hw [] p1 w_cache clI h16 n0 (Nat.le_trans Z0 kp17.1) ol17 BxI S_high S_cache) hZ (hw _ (List.mem_of_getElem? (i := 60) rfl)) (hw _ (List.mem_of_getElem? (i := 59) rfl)) (by decide) (by decide)) (g := (mkF m 69 #[.val (.int p0), .val (.int p1), .val (.int p2), .val (.int ((((p0.toUInt32 >>> ((8 : Int32) &&& 31).toUInt32).toInt32) &&& (255 : Int32)).toUInt32.toUInt16.toUInt32.toInt32)), .val (.ref b1), .val (.ref b10), .val (.int (own_minI (p0 &&& (3 : Int32)) (2 : Int32))), .val (.int (own_minI (p1 &&& (3 : Int32)) (2 : Int32))), .unset, .unset, .unset, .unset, .unset, .unset, .unset] [(.int p1)])) rfl (by rw [hml]; rfl) (argsL := [(.int p1)]) (rest := []) (lenOf pd_11 rfl) rfl (by show 2 * 0 + _ ≤ _; exact Nat.le_of_eq rfl) (hb hby at_69) (fun _ _ => ⟨rfl, he19, (by decide : 6 + 1 ≤ _), (by decide : 12 + 1 ≤ _)⟩)
    dsimp only [Pt.U, Pt.locs, Pt.cells, Pt.slots] at X76 l76 y76 z76 st76 hQ76
    subst l76 y76 z76
    obtain ⟨c76_0, rfl, N76q, K76⟩ := hQ76
    have N76 := Fr.app N19 N76q
    refine OwnFin.st st76 ?_
    obtain ⟨h76, e76⟩ : ∃ z, T76.heap = z := ⟨_, rfl⟩
    rw [e76] at K76
    have kp77 : Keep h0 h76 [] := kp17.trans K76 all0
    have ol77 : Old Z n0 h76 := ol17.keep K76 all0
    show OwnFin _ _ _ _ (T76.setTop (mkF m 72 #[.val (.int p0), .val (.int p1), .val (.int p2), .val (.int ((((p0.toUInt32 >>> ((8 : Int32) &&& 31).toUInt32).toInt32) &&& (255 : Int32)).toUInt32.toUInt16.toUInt32.toInt32)), .val (.ref b1), .val (.ref b10), .val (.int (own_minI (p0 &&& (3 : Int32)) (2 : Int32))), .val (.int (own_minI (p1 &&& (3 : Int32)) (2 : Int32))), .unset, .unset, .unset, .unset, .unset, .unset, .unset] [(.ref c76_0)]))
    refine OwnFin.st (fun _ q => XS.goto X76.here hx rfl (pc0 := 72) (pc' := 76) rfl (hb hby at_72) (by decide) (by decide) q) ?_
    show OwnFin _ _ _ _ (T76.setTop (mkF m 76 #[.val (.int p0), .val (.int p1), .val (.int p2), .val (.int ((((p0.toUInt32 >>> ((8 : Int32) &&& 31).toUInt32).toInt32) &&& (255 : Int32)).toUInt32.toUInt16.toUInt32.toInt32)), .val (.ref b1), .val (.ref b10), .val (.int (own_minI (p0 &&& (3 : Int32)) (2 : Int32))), .val (.int (own_minI (p1 &&& (3 : Int32)) (2 : Int32))), .unset, .unset, .unset, .unset, .unset, .unset, .unset] [(.ref c76_0)]))
    refine OwnFin.st (fun _ q => XS.astore X76.here hx rfl (hb hby at_76) rfl rfl (l' := #[.val (.int p0), .val (.int p1), .val (.int p2), .val (.int ((((p0.toUInt32 >>> ((8 : Int32) &&& 31).toUInt32).toInt32) &&& (255 : Int32)).toUInt32.toUInt16.toUInt32.toInt32)), .val (.ref b1), .val (.ref b10), .val (.int (own_minI (p0 &&& (3 : Int32)) (2 : Int32))), .val (.int (own_minI (p1 &&& (3 : Int32)) (2 : Int32))), .val (.ref c76_0), .unset, .unset, .unset, .unset, .unset, .unset]) rfl q) ?_
    show OwnFin _ _ _ _ (T76.setTop (mkF m 78 #[.val (.int p0), .val (.int p1), .val (.int p2), .val (.int ((((p0.toUInt32 >>> ((8 : Int32) &&& 31).toUInt32).toInt32) &&& (255 : Int32)).toUInt32.toUInt16.toUInt32.toInt32)), .val (.ref b1), .val (.ref b10), .val (.int (own_minI (p0 &&& (3 : Int32)) (2 : Int32))), .val (.int (own_minI (p1 &&& (3 : Int32)) (2 : Int32))), .val (.ref c76_0), .unset, .unset, .unset, .unset, .unset, .unset] []))
    refine OwnFin.st (fun _ q => XS.iloadN X76.here hx rfl (hb hby at_78) rfl q) ?_
    show OwnFin _ _ _ _ (T76.setTop (mkF m 79 #[.val (.int p0), .val (.int p1), .val (.int p2), .val (.int ((((p0.toUInt32 >>> ((8 : Int32) &&& 31).toUInt32).toInt32) &&& (255 : Int32)).toUInt32.toUInt16.toUInt32.toInt32)), .val (.ref b1), .val (.ref b10), .val (.int (own_minI (p0 &&& (3 : Int32)) (2 : Int32))), .val (.int (own_minI (p1 &&& (3 : Int32)) (2 : Int32))), .val (.ref c76_0), .unset, .unset, .unset, .unset, .unset, .unset] [(.int p2)]))
    refine OwnFin.st (fun _ q => XS.iconst X76.here hx rfl (hb hby at_79) q) ?_
    show OwnFin _ _ _ _ (T76.setTop (mkF m 80 #[.val (.int p0), .val (.int p1), .val (.int p2), .val (.int ((((p0.toUInt32 >>> ((8 : Int32) &&& 31).toUInt32).toInt32) &&& (255 : Int32)).toUInt32.toUInt16.toUInt32.toInt32)), .val (.ref b1), .val (.ref b10), .val (.int (own_minI (p0 &&& (3 : Int32)) (2 : Int32))), .val (.int (own_minI (p1 &&& (3 : Int32)) (2 : Int32))), .val (.ref c76_0), .unset, .unset, .unset, .unset, .unset, .unset] [(.int (2 : Int32)), (.int p2)]))
    refine OwnFin.st (fun _ q => XS.iushr X76.here hx rfl (hb hby at_80) rfl q) ?_
    show OwnFin _ _ _ _ (T76.setTop (mkF m 81 #[.val (.int p0), .val (.int p1), .val (.int p2), .val (.int ((((p0.toUInt32 >>> ((8 : Int32) &&& 31).toUInt32).toInt32) &&& (255 : Int32)).toUInt32.toUInt16.toUInt32.toInt32)), .val (.ref b1), .val (.ref b10), .val (.int (own_minI (p0 &&& (3 : Int32)) (2 : Int32))), .val (.int (own_minI (p1 &&& (3 : Int32)) (2 : Int32))), .val (.ref c76_0), .unset, .unset, .unset, .unset, .unset, .unset] [(.int ((p2.toUInt32 >>> ((2 : Int32) &&& 31).toUInt32).toInt32))]))
    refine OwnFin.st (fun _ q => XS.iconst X76.here hx rfl (hb hby at_81) q) ?_
    show OwnFin _ _ _ _ (T76.setTop (mkF m 82 #[.val (.int p0), .val (.int p1), .val (.int p2), .val (.int ((((p0.toUInt32 >>> ((8 : Int32) &&& 31).toUInt32).toInt32) &&& (255 : Int32)).toUInt32.toUInt16.toUInt32.toInt32)), .val (.ref b1), .val (.ref b10), .val (.int (own_minI (p0 &&& (3 : Int32)) (2 : Int32))), .val (.int (own_minI (p1 &&& (3 : Int32)) (2 : Int32))), .val (.ref c76_0), .unset, .unset, .unset, .unset, .unset, .unset] [(.int (1 : Int32)), (.int ((p2.toUInt32 >>> ((2 : Int32) &&& 31).toUInt32).toInt32))]))
    refine OwnFin.st (fun _ q => XS.iand X76.here hx rfl (hb hby at_82) rfl q) ?_
    show OwnFin _ _ _ _ (T76.setTop (mkF m 83 #[.val (.int p0), .val (.int p1), .val (.int p2), .val (.int ((((p0.toUInt32 >>> ((8 : Int32) &&& 31).toUInt32).toInt32) &&& (255 : Int32)).toUInt32.toUInt16.toUInt32.toInt32)), .val (.ref b1), .val (.ref b10), .val (.int (own_minI (p0 &&& (3 : Int32)) (2 : Int32))), .val (.int (own_minI (p1 &&& (3 : Int32)) (2 : Int32))), .val (.ref c76_0), .unset, .unset, .unset, .unset, .unset, .unset] [(.int (((p2.toUInt32 >>> ((2 : Int32) &&& 31).toUInt32).toInt32) &&& (1 : Int32)))]))
    by_cases hc78 : (((p2.toUInt32 >>> ((2 : Int32) &&& 31).toUInt32).toInt32) &&& (1 : Int32)) = (0 : Int32)
    · skip
      refine OwnFin.st (fun _ q => XS.ifYes X76.here hx rfl (pc0 := 83) (pc' := 93) rfl (hb hby at_83) rfl (Jvm.Free.XT.i0_eq_t hc78) (by decide) (by decide) q) ?_
      show OwnFin _ _ _ _ (T76.setTop (mkF m 93 #[.val (.int p0), .val (.int p1), .val (.int p2), .val (.int ((((p0.toUInt32 >>> ((8 : Int32) &&& 31).toUInt32).toInt32) &&& (255 : Int32)).toUInt32.toUInt16.toUInt32.toInt32)), .val (.ref b1), .val (.ref b10), .val (.int (own_minI (p0 &&& (3 : Int32)) (2 : Int32))), .val (.int (own_minI (p1 &&& (3 : Int32)) (2 : Int32))), .val (.ref c76_0), .unset, .unset, .unset, .unset, .unset, .unset] []))
      refine OwnFin.st (fun _ q => XS.aconstNull X76.here hx rfl (hb hby at_93) q) ?_
      show OwnFin _ _ _ _ (T76.setTop (mkF m 94 #[.val (.int p0), .val (.int p1), .val (.int p2), .val (.int ((((p0.toUInt32 >>> ((8 : Int32) &&& 31).toUInt32).toInt32) &&& (255 : Int32)).toUInt32.toUInt16.toUInt32.toInt32)), .val (.ref b1), .val (.ref b10), .val (.int (own_minI (p0 &&& (3 : Int32)) (2 : Int32))), .val (.int (own_minI (p1 &&& (3 : Int32)) (2 : Int32))), .val (.ref c76_0), .unset, .unset, .unset, .unset, .unset, .unset] [.null]))
      refine OwnFin.st (fun _ q => XS.astore X76.here hx rfl (hb hby at_94) rfl rfl (l' := #[.val (.int p0), .val (.int p1), .val (.int p2), .val (.int ((((p0.toUInt32 >>> ((8 : Int32) &&& 31).toUInt32).toInt32) &&& (255 : Int32)).toUInt32.toUInt16.toUInt32.toInt32)), .val (.ref b1), .val (.ref b10), .val (.int (own_minI (p0 &&& (3 : Int32)) (2 : Int32))), .val (.int (own_minI (p1 &&& (3 : Int32)) (2 : Int32))), .val (.ref c76_0), .val .null, .unset, .unset, .unset, .unset, .unset]) rfl q) ?_
      show OwnFin _ _ _ _ (T76.setTop (mkF m 96 #[.val (.int p0), .val (.int p1), .val (.int p2), .val (.int ((((p0.toUInt32 >>> ((8 : Int32) &&& 31).toUInt32).toInt32) &&& (255 : Int32)).toUInt32.toUInt16.toUInt32.toInt32)), .val (.ref b1), .val (.ref b10), .val (.int (own_minI (p0 &&& (3 : Int32)) (2 : Int32))), .val (.int (own_minI (p1 &&& (3 : Int32)) (2 : Int32))), .val (.ref c76_0), .val .null, .unset, .unset, .unset, .unset, .unset] []))
      obtain ⟨T79, h79, X79, e79, E79, A79, D79, -, st79⟩ := newO X76 hx hZ hown (hw _ (List.mem_of_getElem? (i := 34) rfl)) (hw _ (List.mem_of_getElem? (i := 35) rfl)) (hw _ (List.mem_of_getElem? (i := 36) rfl)) e76 (g := (mkF m 96 #[.val (.int p0), .val (.int p1), .val (.int p2), .val (.int ((((p0.toUInt32 >>> ((8 : Int32) &&& 31).toUInt32).toInt32) &&& (255 : Int32)).toUInt32.toUInt16.toUInt32.toInt32)), .val (.ref b1), .val (.ref b10), .val (.int (own_minI (p0 &&& (3 : Int32)) (2 : Int32))), .val (.int (own_minI (p1 &&& (3 : Int32)) (2 : Int32))), .val (.ref c76_0), .val .null, .unset, .unset, .unset, .unset, .unset] [])) rfl (hb hby at_96) (by decide) (by decide)
      obtain ⟨b79, qe79⟩ : ∃ z, z = h76.size := ⟨_, rfl⟩
      rw [← qe79] at A79 D79 st79
      refine OwnFin.st st79 ?_
      have bi_b79 : h76.size ≤ b79 := Nat.le_of_eq qe79.symm
      have lo_b79 : h0.size ≤ b79 := Nat.le_trans kp77.1 bi_b79
      have g_b79 : n0 ≤ b79 := Nat.le_trans Z0 lo_b79
      have kp80 : Keep h0 h79 [] := kp77.ext E79
      have ol80 : Old Z n0 h79 := ol77.ext E79
      have F_entity_b79 : Fld Z h79 b79 "com/example/nepean/nepean/session/PendingKey" "entity" "Ljava/lang/Object;" .null := D79 (Or.inr (hw _ (List.mem_of_getElem? (i := 46) rfl))) (ty := (.object "java/lang/Object")) (by decide)
      have F_id_b79 : Fld Z h79 b79 "com/example/nepean/nepean/session/PendingKey" "id" "Ljava/lang/Object;" .null := D79 (Or.inr (hw _ (List.mem_of_getElem? (i := 48) rfl))) (ty := (.object "java/lang/Object")) (by decide)
      show OwnFin _ _ _ _ (T79.setTop (mkF m 99 #[.val (.int p0), .val (.int p1), .val (.int p2), .val (.int ((((p0.toUInt32 >>> ((8 : Int32) &&& 31).toUInt32).toInt32) &&& (255 : Int32)).toUInt32.toUInt16.toUInt32.toInt32)), .val (.ref b1), .val (.ref b10), .val (.int (own_minI (p0 &&& (3 : Int32)) (2 : Int32))), .val (.int (own_minI (p1 &&& (3 : Int32)) (2 : Int32))), .val (.ref c76_0), .val .null, .unset, .unset, .unset, .unset, .unset] [(.ref b79)]))
      refine OwnFin.st (fun _ q => XS.dup X79.here hx rfl (hb hby at_99) rfl rfl q) ?_
      show OwnFin _ _ _ _ (T79.setTop (mkF m 100 #[.val (.int p0), .val (.int p1), .val (.int p2), .val (.int ((((p0.toUInt32 >>> ((8 : Int32) &&& 31).toUInt32).toInt32) &&& (255 : Int32)).toUInt32.toUInt16.toUInt32.toInt32)), .val (.ref b1), .val (.ref b10), .val (.int (own_minI (p0 &&& (3 : Int32)) (2 : Int32))), .val (.int (own_minI (p1 &&& (3 : Int32)) (2 : Int32))), .val (.ref c76_0), .val .null, .unset, .unset, .unset, .unset, .unset] [(.ref b79), (.ref b79)]))
      refine OwnFin.st (fun _ q => XS.iload X79.here hx rfl (hb hby at_100) rfl q) ?_
      show OwnFin _ _ _ _ (T79.setTop (mkF m 102 #[.val (.int p0), .val (.int p1), .val (.int p2), .val (.int ((((p0.toUInt32 >>> ((8 : Int32) &&& 31).toUInt32).toInt32) &&& (255 : Int32)).toUInt32.toUInt16.toUInt32.toInt32)), .val (.ref b1), .val (.ref b10), .val (.int (own_minI (p0 &&& (3 : Int32)) (2 : Int32))), .val (.int (own_minI (p1 &&& (3 : Int32)) (2 : Int32))), .val (.ref c76_0), .val .null, .unset, .unset, .unset, .unset, .unset] [(.int (own_minI (p0 &&& (3 : Int32)) (2 : Int32))), (.ref b79), (.ref b79)]))
      refine OwnFin.st (fun _ q => XS.aload X79.here hx rfl (hb hby at_102) rfl rfl q) ?_
      show OwnFin _ _ _ _ (T79.setTop (mkF m 104 #[.val (.int p0), .val (.int p1), .val (.int p2), .val (.int ((((p0.toUInt32 >>> ((8 : Int32) &&& 31).toUInt32).toInt32) &&& (255 : Int32)).toUInt32.toUInt16.toUInt32.toInt32)), .val (.ref b1), .val (.ref b10), .val (.int (own_minI (p0 &&& (3 : Int32)) (2 : Int32))), .val (.int (own_minI (p1 &&& (3 : Int32)) (2 : Int32))), .val (.ref c76_0), .val .null, .unset, .unset, .unset, .unset, .unset] [(.ref b1), (.int (own_minI (p0 &&& (3 : Int32)) (2 : Int32))), (.ref b79), (.ref b79)]))
      refine OwnFin.st (fun _ q => XS.aload X79.here hx rfl (hb hby at_104) rfl rfl q) ?_
      show OwnFin _ _ _ _ (T79.setTop (mkF m 106 #[.val (.int p0), .val (.int p1), .val (.int p2), .val (.int ((((p0.toUInt32 >>> ((8 : Int32) &&& 31).toUInt32).toInt32) &&& (255 : Int32)).toUInt32.toUInt16.toUInt32.toInt32)), .val (.ref b1), .val (.ref b10), .val (.int (own_minI (p0 &&& (3 : Int32)) (2 : Int32))), .val (.int (own_minI (p1 &&& (3 : Int32)) (2 : Int32))), .val (.ref c76_0), .val .null, .unset, .unset, .unset, .unset, .unset] [(.ref b10), (.ref b1), (.int (own_minI (p0 &&& (3 : Int32)) (2 : Int32))), (.ref b79), (.ref b79)]))
      obtain ⟨_, _, ⟨T81, L81, k81, n81⟩, -, X81, ⟨Lc81, hQ81, l81, y81, z81⟩, st81⟩ := Jvm.LawKit.callS X79 hx (y := (⟨"com/example/nepean/nepean/session/PendingKeyEqualsPinLaw", "pick", "(ILjava/lang/Object;Ljava/lang/Object;)Ljava/lang/Object;"⟩ : MethodName)) hown (mvT hZ (hw _ (List.mem_of_getElem? (i := 37) rfl))) (mvT hZ (hw _ (List.mem_of_getElem? (i := 38) rfl))) (mvT hZ (hw _ (List.mem_of_getElem? (i := 39) rfl))) (mvT hZ (hw _ (List.mem_of_getElem? (i := 40) rfl))) (by decide) (backOf (W := 2) (rm_pick l Z av0 hw [] (own_minI (p0 &&& (3 : Int32)) (2 : Int32)) b1 b10 h79 n0 (Nat.le_trans Z0 kp80.1) ) hZ (hw _ (List.mem_of_getElem? (i := 40) rfl)) (hw _ (List.mem_of_getElem? (i := 39) rfl)) (by decide) (by decide)) (g := (mkF m 106 #[.val (.int p0), .val (.int p1), .val (.int p2), .val (.int ((((p0.toUInt32 >>> ((8 : Int32) &&& 31).toUInt32).toInt32) &&& (255 : Int32)).toUInt32.toUInt16.toUInt32.toInt32)), .val (.ref b1), .val (.ref b10), .val (.int (own_minI (p0 &&& (3 : Int32)) (2 : Int32))), .val (.int (own_minI (p1 &&& (3 : Int32)) (2 : Int32))), .val (.ref c76_0), .val .null, .unset, .unset, .unset, .unset, .unset] [(.ref b10), (.ref b1), (.int (own_minI (p0 &&& (3 : Int32)) (2 : Int32))), (.ref b79), (.ref b79)])) rfl (by rw [hml]; rfl) (argsL := [(.int (own_minI (p0 &&& (3 : Int32)) (2 : Int32))), (.ref b1), (.ref b10)]) (rest := [(.ref b79), (.ref b79)]) (lenOf pd_8 rfl) rfl (by show 2 * 0 + _ ≤ _; exact Nat.le_of_eq rfl) (hb hby at_106) (fun _ _ => ⟨rfl, e79, (by decide : 8 + 0 ≤ _), (by decide : 15 + 0 ≤ _)⟩)
      dsimp only [Pt.U, Pt.locs, Pt.cells, Pt.slots] at X81 l81 y81 z81 st81 hQ81
      subst l81 y81 z81
      obtain ⟨rfl, N81q, he81⟩ := hQ81
      have N81 := Fr.app N76 N81q
      refine OwnFin.st st81 ?_
      show OwnFin _ _ _ _ (T81.setTop (mkF m 109 #[.val (.int p0), .val (.int p1), .val (.int p2), .val (.int ((((p0.toUInt32 >>> ((8 : Int32) &&& 31).toUInt32).toInt32) &&& (255 : Int32)).toUInt32.toUInt16.toUInt32.toInt32)), .val (.ref b1), .val (.ref b10), .val (.int (own_minI (p0 &&& (3 : Int32)) (2 : Int32))), .val (.int (own_minI (p1 &&& (3 : Int32)) (2 : Int32))), .val (.ref c76_0), .val .null, .unset, .unset, .unset, .unset, .unset] [(own_pick (own_minI (p0 &&& (3 : Int32)) (2 : Int32)) b1 b10), (.ref b79), (.ref b79)]))
      refine OwnFin.st (fun _ q => XS.aload X81.here hx rfl (hb hby at_109) rfl rfl q) ?_
      show OwnFin _ _ _ _ (T81.setTop (mkF m 111 #[.val (.int p0), .val (.int p1), .val (.int p2), .val (.int ((((p0.toUInt32 >>> ((8 : Int32) &&& 31).toUInt32).toInt32) &&& (255 : Int32)).toUInt32.toUInt16.toUInt32.toInt32)), .val (.ref b1), .val (.ref b10), .val (.int (own_minI (p0 &&& (3 : Int32)) (2 : Int32))), .val (.int (own_minI (p1 &&& (3 : Int32)) (2 : Int32))), .val (.ref c76_0), .val .null, .unset, .unset, .unset, .unset, .unset] [(.ref c76_0), (own_pick (own_minI (p0 &&& (3 : Int32)) (2 : Int32)) b1 b10), (.ref b79), (.ref b79)]))
      obtain ⟨_, _, ⟨T82, L82, k82, n82⟩, -, X82, ⟨Lc82, hQ82, l82, y82, z82⟩, st82⟩ := X81.specialBack hx (y := (⟨"com/example/nepean/nepean/session/PendingKey", "<init>", "(Ljava/lang/Object;Ljava/lang/Object;)V"⟩ : MethodName)) rfl hown (mvT hZ (hw _ (List.mem_of_getElem? (i := 41) rfl))) (mvT hZ (hw _ (List.mem_of_getElem? (i := 42) rfl))) (mvT hZ (hw _ (List.mem_of_getElem? (i := 43) rfl))) (by decide) (backOf (W := 1) (rm_pk l Z av0 hw [] b79 (own_pick (own_minI (p0 &&& (3 : Int32)) (2 : Int32)) b1 b10) c76_0 .null .null h79 n0 (Nat.le_trans Z0 kp80.1) (own_pickr _ _ _) A79 F_entity_b79 g_b79 F_id_b79) hZ (hw _ (List.mem_of_getElem? (i := 43) rfl)) (hw _ (List.mem_of_getElem? (i := 36) rfl)) (by decide) (by decide)) (g := (mkF m 111 #[.val (.int p0), .val (.int p1), .val (.int p2), .val (.int ((((p0.toUInt32 >>> ((8 : Int32) &&& 31).toUInt32).toInt32) &&& (255 : Int32)).toUInt32.toUInt16.toUInt32.toInt32)), .val (.ref b1), .val (.ref b10), .val (.int (own_minI (p0 &&& (3 : Int32)) (2 : Int32))), .val (.int (own_minI (p1 &&& (3 : Int32)) (2 : Int32))), .val (.ref c76_0), .val .null, .unset, .unset, .unset, .unset, .unset] [(.ref c76_0), (own_pick (own_minI (p0 &&& (3 : Int32)) (2 : Int32)) b1 b10), (.ref b79), (.ref b79)])) rfl (by rw [hml]; rfl) (Steps.refl _) (a := b79) (argsL := [(own_pick (own_minI (p0 &&& (3 : Int32)) (2 : Int32)) b1 b10), (.ref c76_0)]) (rest := [(.ref b79)]) (lenOf pd_9 rfl) rfl (by show 2 * 0 + _ ≤ _; exact Nat.le_of_eq rfl) (hb hby at_111) (fun _ _ => ⟨rfl, he81, (by decide : 8 + 0 ≤ _), (by decide : 15 + 0 ≤ _)⟩)
      dsimp only [Pt.U, Pt.locs, Pt.cells, Pt.slots] at X82 l82 y82 z82 st82 hQ82
      subst l82 y82 z82
      obtain ⟨rfl, N82q, K82, r82_0, r82_1⟩ := hQ82
      have N82 := Fr.app N81 N82q
      refine OwnFin.tr st82 ?_
      obtain ⟨h82, e82⟩ : ∃ z, T82.heap = z := ⟨_, rfl⟩
      rw [e82] at K82 r82_0 r82_1
      have kp83 : Keep h0 h82 [] := kp80.trans K82 (allS (Or.inr lo_b79) all0)
      have ol83 : Old Z n0 h82 := ol80.keep K82 (allS g_b79 all0)
      show OwnFin _ _ _ _ (T82.setTop (mkF m 114 #[.val (.int p0), .val (.int p1), .val (.int p2), .val (.int ((((p0.toUInt32 >>> ((8 : Int32) &&& 31).toUInt32).toInt32) &&& (255 : Int32)).toUInt32.toUInt16.toUInt32.toInt32)), .val (.ref b1), .val (.ref b10), .val (.int (own_minI (p0 &&& (3 : Int32)) (2 : Int32))), .val (.int (own_minI (p1 &&& (3 : Int32)) (2 : Int32))), .val (.ref c76_0), .val .null, .unset, .unset, .unset, .unset, .unset] [(.ref b79)]))
      refine OwnFin.st (fun _ q => XS.astore X82.here hx rfl (hb hby at_114) rfl rfl (l' := #[.val (.int p0), .val (.int p1), .val (.int p2), .val (.int ((((p0.toUInt32 >>> ((8 : Int32) &&& 31).toUInt32).toInt32) &&& (255 : Int32)).toUInt32.toUInt16.toUInt32.toInt32)), .val (.ref b1), .val (.ref b10), .val (.int (own_minI (p0 &&& (3 : Int32)) (2 : Int32))), .val (.int (own_minI (p1 &&& (3 : Int32)) (2 : Int32))), .val (.ref c76_0), .val .null, .val (.ref b79), .unset, .unset, .unset, .unset]) rfl q) ?_
      show OwnFin _ _ _ _ (T82.setTop (mkF m 116 #[.val (.int p0), .val (.int p1), .val (.int p2), .val (.int ((((p0.toUInt32 >>> ((8 : Int32) &&& 31).toUInt32).toInt32) &&& (255 : Int32)).toUInt32.toUInt16.toUInt32.toInt32)), .val (.ref b1), .val (.ref b10), .val (.int (own_minI (p0 &&& (3 : Int32)) (2 : Int32))), .val (.int (own_minI (p1 &&& (3 : Int32)) (2 : Int32))), .val (.ref c76_0), .val .null, .val (.ref b79), .unset, .unset, .unset, .unset] []))
      obtain ⟨T84, h84, X84, e84, E84, A84, D84, -, st84⟩ := newO X82 hx hZ hown (hw _ (List.mem_of_getElem? (i := 34) rfl)) (hw _ (List.mem_of_getElem? (i := 35) rfl)) (hw _ (List.mem_of_getElem? (i := 36) rfl)) e82 (g := (mkF m 116 #[.val (.int p0), .val (.int p1), .val (.int p2), .val (.int ((((p0.toUInt32 >>> ((8 : Int32) &&& 31).toUInt32).toInt32) &&& (255 : Int32)).toUInt32.toUInt16.toUInt32.toInt32)), .val (.ref b1), .val (.ref b10), .val (.int (own_minI (p0 &&& (3 : Int32)) (2 : Int32))), .val (.int (own_minI (p1 &&& (3 : Int32)) (2 : Int32))), .val (.ref c76_0), .val .null, .val (.ref b79), .unset, .unset, .unset, .unset] [])) rfl (hb hby at_116) (by decide) (by decide)
      obtain ⟨b84, qe84⟩ : ∃ z, z = h82.size := ⟨_, rfl⟩
      rw [← qe84] at A84 D84 st84
      refine OwnFin.st st84 ?_
      have bi_b84 : h82.size ≤ b84 := Nat.le_of_eq qe84.symm
      have lo_b84 : h0.size ≤ b84 := Nat.le_trans kp83.1 bi_b84
      have g_b84 : n0 ≤ b84 := Nat.le_trans Z0 lo_b84
      have kp85 : Keep h0 h84 [] := kp83.ext E84
      have ol85 : Old Z n0 h84 := ol83.ext E84
      have F_entity_b84 : Fld Z h84 b84 "com/example/nepean/nepean/session/PendingKey" "entity" "Ljava/lang/Object;" .null := D84 (Or.inr (hw _ (List.mem_of_getElem? (i := 46) rfl))) (ty := (.object "java/lang/Object")) (by decide)
      have F_id_b84 : Fld Z h84 b84 "com/example/nepean/nepean/session/PendingKey" "id" "Ljava/lang/Object;" .null := D84 (Or.inr (hw _ (List.mem_of_getElem? (i := 48) rfl))) (ty := (.object "java/lang/Object")) (by decide)
      show OwnFin _ _ _ _ (T84.setTop (mkF m 119 #[.val (.int p0), .val (.int p1), .val (.int p2), .val (.int ((((p0.toUInt32 >>> ((8 : Int32) &&& 31).toUInt32).toInt32) &&& (255 : Int32)).toUInt32.toUInt16.toUInt32.toInt32)), .val (.ref b1), .val (.ref b10), .val (.int (own_minI (p0 &&& (3 : Int32)) (2 : Int32))), .val (.int (own_minI (p1 &&& (3 : Int32)) (2 : Int32))), .val (.ref c76_0), .val .null, .val (.ref b79), .unset, .unset, .unset, .unset] [(.ref b84)]))
      refine OwnFin.st (fun _ q => XS.dup X84.here hx rfl (hb hby at_119) rfl rfl q) ?_
      show OwnFin _ _ _ _ (T84.setTop (mkF m 120 #[.val (.int p0), .val (.int p1), .val (.int p2), .val (.int ((((p0.toUInt32 >>> ((8 : Int32) &&& 31).toUInt32).toInt32) &&& (255 : Int32)).toUInt32.toUInt16.toUInt32.toInt32)), .val (.ref b1), .val (.ref b10), .val (.int (own_minI (p0 &&& (3 : Int32)) (2 : Int32))), .val (.int (own_minI (p1 &&& (3 : Int32)) (2 : Int32))), .val (.ref c76_0), .val .null, .val (.ref b79), .unset, .unset, .unset, .unset] [(.ref b84), (.ref b84)]))
      refine OwnFin.st (fun _ q => XS.iload X84.here hx rfl (hb hby at_120) rfl q) ?_
      show OwnFin _ _ _ _ (T84.setTop (mkF m 122 #[.val (.int p0), .val (.int p1), .val (.int p2), .val (.int ((((p0.toUInt32 >>> ((8 : Int32) &&& 31).toUInt32).toInt32) &&& (255 : Int32)).toUInt32.toUInt16.toUInt32.toInt32)), .val (.ref b1), .val (.ref b10), .val (.int (own_minI (p0 &&& (3 : Int32)) (2 : Int32))), .val (.int (own_minI (p1 &&& (3 : Int32)) (2 : Int32))), .val (.ref c76_0), .val .null, .val (.ref b79), .unset, .unset, .unset, .unset] [(.int (own_minI (p1 &&& (3 : Int32)) (2 : Int32))), (.ref b84), (.ref b84)]))
      refine OwnFin.st (fun _ q => XS.aload X84.here hx rfl (hb hby at_122) rfl rfl q) ?_
      show OwnFin _ _ _ _ (T84.setTop (mkF m 124 #[.val (.int p0), .val (.int p1), .val (.int p2), .val (.int ((((p0.toUInt32 >>> ((8 : Int32) &&& 31).toUInt32).toInt32) &&& (255 : Int32)).toUInt32.toUInt16.toUInt32.toInt32)), .val (.ref b1), .val (.ref b10), .val (.int (own_minI (p0 &&& (3 : Int32)) (2 : Int32))), .val (.int (own_minI (p1 &&& (3 : Int32)) (2 : Int32))), .val (.ref c76_0), .val .null, .val (.ref b79), .unset, .unset, .unset, .unset] [(.ref b1), (.int (own_minI (p1 &&& (3 : Int32)) (2 : Int32))), (.ref b84), (.ref b84)]))
      refine OwnFin.st (fun _ q => XS.aload X84.here hx rfl (hb hby at_124) rfl rfl q) ?_
      show OwnFin _ _ _ _ (T84.setTop (mkF m 126 #[.val (.int p0), .val (.int p1), .val (.int p2), .val (.int ((((p0.toUInt32 >>> ((8 : Int32) &&& 31).toUInt32).toInt32) &&& (255 : Int32)).toUInt32.toUInt16.toUInt32.toInt32)), .val (.ref b1), .val (.ref b10), .val (.int (own_minI (p0 &&& (3 : Int32)) (2 : Int32))), .val (.int (own_minI (p1 &&& (3 : Int32)) (2 : Int32))), .val (.ref c76_0), .val .null, .val (.ref b79), .unset, .unset, .unset, .unset] [(.ref b10), (.ref b1), (.int (own_minI (p1 &&& (3 : Int32)) (2 : Int32))), (.ref b84), (.ref b84)]))
      obtain ⟨_, _, ⟨T86, L86, k86, n86⟩, -, X86, ⟨Lc86, hQ86, l86, y86, z86⟩, st86⟩ := Jvm.LawKit.callS X84 hx (y := (⟨"com/example/nepean/nepean/session/PendingKeyEqualsPinLaw", "pick", "(ILjava/lang/Object;Ljava/lang/Object;)Ljava/lang/Object;"⟩ : MethodName)) hown (mvT hZ (hw _ (List.mem_of_getElem? (i := 37) rfl))) (mvT hZ (hw _ (List.mem_of_getElem? (i := 38) rfl))) (mvT hZ (hw _ (List.mem_of_getElem? (i := 39) rfl))) (mvT hZ (hw _ (List.mem_of_getElem? (i := 40) rfl))) (by decide) (backOf (W := 2) (rm_pick l Z av0 hw [] (own_minI (p1 &&& (3 : Int32)) (2 : Int32)) b1 b10 h84 n0 (Nat.le_trans Z0 kp85.1) ) hZ (hw _ (List.mem_of_getElem? (i := 40) rfl)) (hw _ (List.mem_of_getElem? (i := 39) rfl)) (by decide) (by decide)) (g := (mkF m 126 #[.val (.int p0), .val (.int p1), .val (.int p2), .val (.int ((((p0.toUInt32 >>> ((8 : Int32) &&& 31).toUInt32).toInt32) &&& (255 : Int32)).toUInt32.toUInt16.toUInt32.toInt32)), .val (.ref b1), .val (.ref b10), .val (.int (own_minI (p0 &&& (3 : Int32)) (2 : Int32))), .val (.int (own_minI (p1 &&& (3 : Int32)) (2 : Int32))), .val (.ref c76_0), .val .null, .val (.ref b79), .unset, .unset, .unset, .unset] [(.ref b10), (.ref b1), (.int (own_minI (p1 &&& (3 : Int32)) (2 : Int32))), (.ref b84), (.ref b84)])) rfl (by rw [hml]; rfl) (argsL := [(.int (own_minI (p1 &&& (3 : Int32)) (2 : Int32))), (.ref b1), (.ref b10)]) (rest := [(.ref b84), (.ref b84)]) (lenOf pd_8 rfl) rfl (by show 2 * 0 + _ ≤ _; exact Nat.le_of_eq rfl) (hb hby at_126) (fun _ _ => ⟨rfl, e84, (by decide : 9 + 0 ≤ _), (by decide : 17 + 0 ≤ _)⟩)
      dsimp only [Pt.U, Pt.locs, Pt.cells, Pt.slots] at X86 l86 y86 z86 st86 hQ86
      subst l86 y86 z86
      obtain ⟨rfl, N86q, he86⟩ := hQ86
      have N86 := Fr.app N82 N86q
      refine OwnFin.st st86 ?_
      show OwnFin _ _ _ _ (T86.setTop (mkF m 129 #[.val (.int p0), .val (.int p1), .val (.int p2), .val (.int ((((p0.toUInt32 >>> ((8 : Int32) &&& 31).toUInt32).toInt32) &&& (255 : Int32)).toUInt32.toUInt16.toUInt32.toInt32)), .val (.ref b1), .val (.ref b10), .val (.int (own_minI (p0 &&& (3 : Int32)) (2 : Int32))), .val (.int (own_minI (p1 &&& (3 : Int32)) (2 : Int32))), .val (.ref c76_0), .val .null, .val (.ref b79), .unset, .unset, .unset, .unset] [(own_pick (own_minI (p1 &&& (3 : Int32)) (2 : Int32)) b1 b10), (.ref b84), (.ref b84)]))
      refine OwnFin.st (fun _ q => XS.aload X86.here hx rfl (hb hby at_129) rfl rfl q) ?_
      show OwnFin _ _ _ _ (T86.setTop (mkF m 131 #[.val (.int p0), .val (.int p1), .val (.int p2), .val (.int ((((p0.toUInt32 >>> ((8 : Int32) &&& 31).toUInt32).toInt32) &&& (255 : Int32)).toUInt32.toUInt16.toUInt32.toInt32)), .val (.ref b1), .val (.ref b10), .val (.int (own_minI (p0 &&& (3 : Int32)) (2 : Int32))), .val (.int (own_minI (p1 &&& (3 : Int32)) (2 : Int32))), .val (.ref c76_0), .val .null, .val (.ref b79), .unset, .unset, .unset, .unset] [.null, (own_pick (own_minI (p1 &&& (3 : Int32)) (2 : Int32)) b1 b10), (.ref b84), (.ref b84)]))
      obtain ⟨_, _, ⟨T87, L87, k87, n87⟩, -, X87, ⟨Lc87, hQ87, l87, y87, z87⟩, st87⟩ := X86.specialBack hx (y := (⟨"com/example/nepean/nepean/session/PendingKey", "<init>", "(Ljava/lang/Object;Ljava/lang/Object;)V"⟩ : MethodName)) rfl hown (mvT hZ (hw _ (List.mem_of_getElem? (i := 41) rfl))) (mvT hZ (hw _ (List.mem_of_getElem? (i := 42) rfl))) (mvT hZ (hw _ (List.mem_of_getElem? (i := 43) rfl))) (by decide) (backOf (W := 1) (rm_pk2 l Z av0 hw [] b84 (own_pick (own_minI (p1 &&& (3 : Int32)) (2 : Int32)) b1 b10) .null .null h84 n0 (Nat.le_trans Z0 kp85.1) (own_pickr _ _ _) A84 F_entity_b84 g_b84 F_id_b84) hZ (hw _ (List.mem_of_getElem? (i := 43) rfl)) (hw _ (List.mem_of_getElem? (i := 36) rfl)) (by decide) (by decide)) (g := (mkF m 131 #[.val (.int p0), .val (.int p1), .val (.int p2), .val (.int ((((p0.toUInt32 >>> ((8 : Int32) &&& 31).toUInt32).toInt32) &&& (255 : Int32)).toUInt32.toUInt16.toUInt32.toInt32)), .val (.ref b1), .val (.ref b10), .val (.int (own_minI (p0 &&& (3 : Int32)) (2 : Int32))), .val (.int (own_minI (p1 &&& (3 : Int32)) (2 : Int32))), .val (.ref c76_0), .val .null, .val (.ref b79), .unset, .unset, .unset, .unset] [.null, (own_pick (own_minI (p1 &&& (3 : Int32)) (2 : Int32)) b1 b10), (.ref b84), (.ref b84)])) rfl (by rw [hml]; rfl) (Steps.refl _) (a := b84) (argsL := [(own_pick (own_minI (p1 &&& (3 : Int32)) (2 : Int32)) b1 b10), .null]) (rest := [(.ref b84)]) (lenOf pd_9 rfl) rfl (by show 2 * 0 + _ ≤ _; exact Nat.le_of_eq rfl) (hb hby at_131) (fun _ _ => ⟨rfl, he86, (by decide : 9 + 0 ≤ _), (by decide : 17 + 0 ≤ _)⟩)
      dsimp only [Pt.U, Pt.locs, Pt.cells, Pt.slots] at X87 l87 y87 z87 st87 hQ87
      subst l87 y87 z87
      obtain ⟨rfl, N87q, K87, r87_0, r87_1⟩ := hQ87
      have N87 := Fr.app N86 N87q
      refine OwnFin.tr st87 ?_
      obtain ⟨h87, e87⟩ : ∃ z, T87.heap = z := ⟨_, rfl⟩
      rw [e87] at K87 r87_0 r87_1
      have kp88 : Keep h0 h87 [] := kp85.trans K87 (allS (Or.inr lo_b84) all0)
      have ol88 : Old Z n0 h87 := ol85.keep K87 (allS g_b84 all0)
      show OwnFin _ _ _ _ (T87.setTop (mkF m 134 #[.val (.int p0), .val (.int p1), .val (.int p2), .val (.int ((((p0.toUInt32 >>> ((8 : Int32) &&& 31).toUInt32).toInt32) &&& (255 : Int32)).toUInt32.toUInt16.toUInt32.toInt32)), .val (.ref b1), .val (.ref b10), .val (.int (own_minI (p0 &&& (3 : Int32)) (2 : Int32))), .val (.int (own_minI (p1 &&& (3 : Int32)) (2 : Int32))), .val (.ref c76_0), .val .null, .val (.ref b79), .unset, .unset, .unset, .unset] [(.ref b84)]))
      refine OwnFin.st (fun _ q => XS.astore X87.here hx rfl (hb hby at_134) rfl rfl (l' := #[.val (.int p0), .val (.int p1), .val (.int p2), .val (.int ((((p0.toUInt32 >>> ((8 : Int32) &&& 31).toUInt32).toInt32) &&& (255 : Int32)).toUInt32.toUInt16.toUInt32.toInt32)), .val (.ref b1), .val (.ref b10), .val (.int (own_minI (p0 &&& (3 : Int32)) (2 : Int32))), .val (.int (own_minI (p1 &&& (3 : Int32)) (2 : Int32))), .val (.ref c76_0), .val .null, .val (.ref b79), .val (.ref b84), .unset, .unset, .unset]) rfl q) ?_
      show OwnFin _ _ _ _ (T87.setTop (mkF m 136 #[.val (.int p0), .val (.int p1), .val (.int p2), .val (.int ((((p0.toUInt32 >>> ((8 : Int32) &&& 31).toUInt32).toInt32) &&& (255 : Int32)).toUInt32.toUInt16.toUInt32.toInt32)), .val (.ref b1), .val (.ref b10), .val (.int (own_minI (p0 &&& (3 : Int32)) (2 : Int32))), .val (.int (own_minI (p1 &&& (3 : Int32)) (2 : Int32))), .val (.ref c76_0), .val .null, .val (.ref b79), .val (.ref b84), .unset, .unset, .unset] []))
      refine OwnFin.st (fun _ q => XS.iloadN X87.here hx rfl (hb hby at_136) rfl q) ?_
      show OwnFin _ _ _ _ (T87.setTop (mkF m 137 #[.val (.int p0), .val (.int p1), .val (.int p2), .val (.int ((((p0.toUInt32 >>> ((8 : Int32) &&& 31).toUInt32).toInt32) &&& (255 : Int32)).toUInt32.toUInt16.toUInt32.toInt32)), .val (.ref b1), .val (.ref b10), .val (.int (own_minI (p0 &&& (3 : Int32)) (2 : Int32))), .val (.int (own_minI (p1 &&& (3 : Int32)) (2 : Int32))), .val (.ref c76_0), .val .null, .val (.ref b79), .val (.ref b84), .unset, .unset, .unset] [(.int p2)]))
      refine OwnFin.st (fun _ q => XS.iconst X87.here hx rfl (hb hby at_137) q) ?_
      show OwnFin _ _ _ _ (T87.setTop (mkF m 138 #[.val (.int p0), .val (.int p1), .val (.int p2), .val (.int ((((p0.toUInt32 >>> ((8 : Int32) &&& 31).toUInt32).toInt32) &&& (255 : Int32)).toUInt32.toUInt16.toUInt32.toInt32)), .val (.ref b1), .val (.ref b10), .val (.int (own_minI (p0 &&& (3 : Int32)) (2 : Int32))), .val (.int (own_minI (p1 &&& (3 : Int32)) (2 : Int32))), .val (.ref c76_0), .val .null, .val (.ref b79), .val (.ref b84), .unset, .unset, .unset] [(.int (3 : Int32)), (.int p2)]))
      refine OwnFin.st (fun _ q => XS.iand X87.here hx rfl (hb hby at_138) rfl q) ?_
      show OwnFin _ _ _ _ (T87.setTop (mkF m 139 #[.val (.int p0), .val (.int p1), .val (.int p2), .val (.int ((((p0.toUInt32 >>> ((8 : Int32) &&& 31).toUInt32).toInt32) &&& (255 : Int32)).toUInt32.toUInt16.toUInt32.toInt32)), .val (.ref b1), .val (.ref b10), .val (.int (own_minI (p0 &&& (3 : Int32)) (2 : Int32))), .val (.int (own_minI (p1 &&& (3 : Int32)) (2 : Int32))), .val (.ref c76_0), .val .null, .val (.ref b79), .val (.ref b84), .unset, .unset, .unset] [(.int (p2 &&& (3 : Int32)))]))
      refine OwnFin.st (fun _ q => XS.istore X87.here hx rfl (hb hby at_139) rfl (l' := #[.val (.int p0), .val (.int p1), .val (.int p2), .val (.int ((((p0.toUInt32 >>> ((8 : Int32) &&& 31).toUInt32).toInt32) &&& (255 : Int32)).toUInt32.toUInt16.toUInt32.toInt32)), .val (.ref b1), .val (.ref b10), .val (.int (own_minI (p0 &&& (3 : Int32)) (2 : Int32))), .val (.int (own_minI (p1 &&& (3 : Int32)) (2 : Int32))), .val (.ref c76_0), .val .null, .val (.ref b79), .val (.ref b84), .val (.int (p2 &&& (3 : Int32))), .unset, .unset]) rfl q) ?_
      show OwnFin _ _ _ _ (T87.setTop (mkF m 141 #[.val (.int p0), .val (.int p1), .val (.int p2), .val (.int ((((p0.toUInt32 >>> ((8 : Int32) &&& 31).toUInt32).toInt32) &&& (255 : Int32)).toUInt32.toUInt16.toUInt32.toInt32)), .val (.ref b1), .val (.ref b10), .val (.int (own_minI (p0 &&& (3 : Int32)) (2 : Int32))), .val (.int (own_minI (p1 &&& (3 : Int32)) (2 : Int32))), .val (.ref c76_0), .val .null, .val (.ref b79), .val (.ref b84), .val (.int (p2 &&& (3 : Int32))), .unset, .unset] []))
      refine OwnFin.st (fun _ q => XS.iload X87.here hx rfl (hb hby at_141) rfl q) ?_
      show OwnFin _ _ _ _ (T87.setTop (mkF m 143 #[.val (.int p0), .val (.int p1), .val (.int p2), .val (.int ((((p0.toUInt32 >>> ((8 : Int32) &&& 31).toUInt32).toInt32) &&& (255 : Int32)).toUInt32.toUInt16.toUInt32.toInt32)), .val (.ref b1), .val (.ref b10), .val (.int (own_minI (p0 &&& (3 : Int32)) (2 : Int32))), .val (.int (own_minI (p1 &&& (3 : Int32)) (2 : Int32))), .val (.ref c76_0), .val .null, .val (.ref b79), .val (.ref b84), .val (.int (p2 &&& (3 : Int32))), .unset, .unset] [(.int (p2 &&& (3 : Int32)))]))
      by_cases hc89 : (p2 &&& (3 : Int32)) = (0 : Int32)
      · skip
        refine OwnFin.st (fun _ q => XS.ifNo X87.here hx rfl (hb hby at_143) rfl (Jvm.Free.XT.i0_ne_f hc89) q) ?_
        show OwnFin _ _ _ _ (T87.setTop (mkF m 146 #[.val (.int p0), .val (.int p1), .val (.int p2), .val (.int ((((p0.toUInt32 >>> ((8 : Int32) &&& 31).toUInt32).toInt32) &&& (255 : Int32)).toUInt32.toUInt16.toUInt32.toInt32)), .val (.ref b1), .val (.ref b10), .val (.int (own_minI (p0 &&& (3 : Int32)) (2 : Int32))), .val (.int (own_minI (p1 &&& (3 : Int32)) (2 : Int32))), .val (.ref c76_0), .val .null, .val (.ref b79), .val (.ref b84), .val (.int (p2 &&& (3 : Int32))), .unset, .unset] []))
        refine OwnFin.st (fun _ q => XS.aload X87.here hx rfl (hb hby at_146) rfl rfl q) ?_
        show OwnFin _ _ _ _ (T87.setTop (mkF m 148 #[.val (.int p0), .val (.int p1), .val (.int p2), .val (.int ((((p0.toUInt32 >>> ((8 : Int32) &&& 31).toUInt32).toInt32) &&& (255 : Int32)).toUInt32.toUInt16.toUInt32.toInt32)), .val (.ref b1), .val (.ref b10), .val (.int (own_minI (p0 &&& (3 : Int32)) (2 : Int32))), .val (.int (own_minI (p1 &&& (3 : Int32)) (2 : Int32))), .val (.ref c76_0), .val .null, .val (.ref b79), .val (.ref b84), .val (.int (p2 &&& (3 : Int32))), .unset, .unset] [(.ref b84)]))
        refine OwnFin.st (fun _ q => XS.astore X87.here hx rfl (hb hby at_148) rfl rfl (l' := #[.val (.int p0), .val (.int p1), .val (.int p2), .val (.int ((((p0.toUInt32 >>> ((8 : Int32) &&& 31).toUInt32).toInt32) &&& (255 : Int32)).toUInt32.toUInt16.toUInt32.toInt32)), .val (.ref b1), .val (.ref b10), .val (.int (own_minI (p0 &&& (3 : Int32)) (2 : Int32))), .val (.int (own_minI (p1 &&& (3 : Int32)) (2 : Int32))), .val (.ref c76_0), .val .null, .val (.ref b79), .val (.ref b84), .val (.int (p2 &&& (3 : Int32))), .val (.ref b84), .unset]) rfl q) ?_
        show OwnFin _ _ _ _ (T87.setTop (mkF m 150 #[.val (.int p0), .val (.int p1), .val (.int p2), .val (.int ((((p0.toUInt32 >>> ((8 : Int32) &&& 31).toUInt32).toInt32) &&& (255 : Int32)).toUInt32.toUInt16.toUInt32.toInt32)), .val (.ref b1), .val (.ref b10), .val (.int (own_minI (p0 &&& (3 : Int32)) (2 : Int32))), .val (.int (own_minI (p1 &&& (3 : Int32)) (2 : Int32))), .val (.ref c76_0), .val .null, .val (.ref b79), .val (.ref b84), .val (.int (p2 &&& (3 : Int32))), .val (.ref b84), .unset] []))
        refine OwnFin.st (fun _ q => XS.iload X87.here hx rfl (hb hby at_150) rfl q) ?_
        show OwnFin _ _ _ _ (T87.setTop (mkF m 152 #[.val (.int p0), .val (.int p1), .val (.int p2), .val (.int ((((p0.toUInt32 >>> ((8 : Int32) &&& 31).toUInt32).toInt32) &&& (255 : Int32)).toUInt32.toUInt16.toUInt32.toInt32)), .val (.ref b1), .val (.ref b10), .val (.int (own_minI (p0 &&& (3 : Int32)) (2 : Int32))), .val (.int (own_minI (p1 &&& (3 : Int32)) (2 : Int32))), .val (.ref c76_0), .val .null, .val (.ref b79), .val (.ref b84), .val (.int (p2 &&& (3 : Int32))), .val (.ref b84), .unset] [(.int (own_minI (p0 &&& (3 : Int32)) (2 : Int32)))]))
        refine OwnFin.st (fun _ q => XS.iload X87.here hx rfl (hb hby at_152) rfl q) ?_
        show OwnFin _ _ _ _ (T87.setTop (mkF m 154 #[.val (.int p0), .val (.int p1), .val (.int p2), .val (.int ((((p0.toUInt32 >>> ((8 : Int32) &&& 31).toUInt32).toInt32) &&& (255 : Int32)).toUInt32.toUInt16.toUInt32.toInt32)), .val (.ref b1), .val (.ref b10), .val (.int (own_minI (p0 &&& (3 : Int32)) (2 : Int32))), .val (.int (own_minI (p1 &&& (3 : Int32)) (2 : Int32))), .val (.ref c76_0), .val .null, .val (.ref b79), .val (.ref b84), .val (.int (p2 &&& (3 : Int32))), .val (.ref b84), .unset] [(.int (own_minI (p1 &&& (3 : Int32)) (2 : Int32))), (.int (own_minI (p0 &&& (3 : Int32)) (2 : Int32)))]))
        by_cases hc90 : (own_minI (p0 &&& (3 : Int32)) (2 : Int32)) = (own_minI (p1 &&& (3 : Int32)) (2 : Int32))
        · skip
          refine OwnFin.st (fun _ q => XS.icmpNo X87.here hx rfl (hb hby at_154) rfl (Jvm.Free.XT.ii_ne_f hc90) q) ?_
          show OwnFin _ _ _ _ (T87.setTop (mkF m 157 #[.val (.int p0), .val (.int p1), .val (.int p2), .val (.int ((((p0.toUInt32 >>> ((8 : Int32) &&& 31).toUInt32).toInt32) &&& (255 : Int32)).toUInt32.toUInt16.toUInt32.toInt32)), .val (.ref b1), .val (.ref b10), .val (.int (own_minI (p0 &&& (3 : Int32)) (2 : Int32))), .val (.int (own_minI (p1 &&& (3 : Int32)) (2 : Int32))), .val (.ref c76_0), .val .null, .val (.ref b79), .val (.ref b84), .val (.int (p2 &&& (3 : Int32))), .val (.ref b84), .unset] []))
          refine OwnFin.st (fun _ q => XS.iconst X87.here hx rfl (hb hby at_157) q) ?_
          show OwnFin _ _ _ _ (T87.setTop (mkF m 158 #[.val (.int p0), .val (.int p1), .val (.int p2), .val (.int ((((p0.toUInt32 >>> ((8 : Int32) &&& 31).toUInt32).toInt32) &&& (255 : Int32)).toUInt32.toUInt16.toUInt32.toInt32)), .val (.ref b1), .val (.ref b10), .val (.int (own_minI (p0 &&& (3 : Int32)) (2 : Int32))), .val (.int (own_minI (p1 &&& (3 : Int32)) (2 : Int32))), .val (.ref c76_0), .val .null, .val (.ref b79), .val (.ref b84), .val (.int (p2 &&& (3 : Int32))), .val (.ref b84), .unset] [(.int (1 : Int32))]))
          refine OwnFin.st (fun _ q => XS.goto X87.here hx rfl (pc0 := 158) (pc' := 162) rfl (hb hby at_158) (by decide) (by decide) q) ?_
          show OwnFin _ _ _ _ (T87.setTop (mkF m 162 #[.val (.int p0), .val (.int p1), .val (.int p2), .val (.int ((((p0.toUInt32 >>> ((8 : Int32) &&& 31).toUInt32).toInt32) &&& (255 : Int32)).toUInt32.toUInt16.toUInt32.toInt32)), .val (.ref b1), .val (.ref b10), .val (.int (own_minI (p0 &&& (3 : Int32)) (2 : Int32))), .val (.int (own_minI (p1 &&& (3 : Int32)) (2 : Int32))), .val (.ref c76_0), .val .null, .val (.ref b79), .val (.ref b84), .val (.int (p2 &&& (3 : Int32))), .val (.ref b84), .unset] [(.int (1 : Int32))]))
          refine OwnFin.st (fun _ q => XS.istore X87.here hx rfl (hb hby at_162) rfl (l' := #[.val (.int p0), .val (.int p1), .val (.int p2), .val (.int ((((p0.toUInt32 >>> ((8 : Int32) &&& 31).toUInt32).toInt32) &&& (255 : Int32)).toUInt32.toUInt16.toUInt32.toInt32)), .val (.ref b1), .val (.ref b10), .val (.int (own_minI (p0 &&& (3 : Int32)) (2 : Int32))), .val (.int (own_minI (p1 &&& (3 : Int32)) (2 : Int32))), .val (.ref c76_0), .val .null, .val (.ref b79), .val (.ref b84), .val (.int (p2 &&& (3 : Int32))), .val (.ref b84), .val (.int (1 : Int32))]) rfl q) ?_
          show OwnFin _ _ _ _ (T87.setTop (mkF m 164 #[.val (.int p0), .val (.int p1), .val (.int p2), .val (.int ((((p0.toUInt32 >>> ((8 : Int32) &&& 31).toUInt32).toInt32) &&& (255 : Int32)).toUInt32.toUInt16.toUInt32.toInt32)), .val (.ref b1), .val (.ref b10), .val (.int (own_minI (p0 &&& (3 : Int32)) (2 : Int32))), .val (.int (own_minI (p1 &&& (3 : Int32)) (2 : Int32))), .val (.ref c76_0), .val .null, .val (.ref b79), .val (.ref b84), .val (.int (p2 &&& (3 : Int32))), .val (.ref b84), .val (.int (1 : Int32))] []))
          refine OwnFin.st (fun _ q => XS.goto X87.here hx rfl (pc0 := 164) (pc' := 212) rfl (hb hby at_164) (by decide) (by decide) q) ?_
          show OwnFin _ _ _ _ (T87.setTop (mkF m 212 #[.val (.int p0), .val (.int p1), .val (.int p2), .val (.int ((((p0.toUInt32 >>> ((8 : Int32) &&& 31).toUInt32).toInt32) &&& (255 : Int32)).toUInt32.toUInt16.toUInt32.toInt32)), .val (.ref b1), .val (.ref b10), .val (.int (own_minI (p0 &&& (3 : Int32)) (2 : Int32))), .val (.int (own_minI (p1 &&& (3 : Int32)) (2 : Int32))), .val (.ref c76_0), .val .null, .val (.ref b79), .val (.ref b84), .val (.int (p2 &&& (3 : Int32))), .val (.ref b84), .val (.int (1 : Int32))] []))
          refine OwnFin.st (fun _ q => XS.aload X87.here hx rfl (hb hby at_212) rfl rfl q) ?_
          show OwnFin _ _ _ _ (T87.setTop (mkF m 214 #[.val (.int p0), .val (.int p1), .val (.int p2), .val (.int ((((p0.toUInt32 >>> ((8 : Int32) &&& 31).toUInt32).toInt32) &&& (255 : Int32)).toUInt32.toUInt16.toUInt32.toInt32)), .val (.ref b1), .val (.ref b10), .val (.int (own_minI (p0 &&& (3 : Int32)) (2 : Int32))), .val (.int (own_minI (p1 &&& (3 : Int32)) (2 : Int32))), .val (.ref c76_0), .val .null, .val (.ref b79), .val (.ref b84), .val (.int (p2 &&& (3 : Int32))), .val (.ref b84), .val (.int (1 : Int32))] [(.ref b79)]))
          refine OwnFin.st (fun _ q => XS.aload X87.here hx rfl (hb hby at_214) rfl rfl q) ?_
          show OwnFin _ _ _ _ (T87.setTop (mkF m 216 #[.val (.int p0), .val (.int p1), .val (.int p2), .val (.int ((((p0.toUInt32 >>> ((8 : Int32) &&& 31).toUInt32).toInt32) &&& (255 : Int32)).toUInt32.toUInt16.toUInt32.toInt32)), .val (.ref b1), .val (.ref b10), .val (.int (own_minI (p0 &&& (3 : Int32)) (2 : Int32))), .val (.int (own_minI (p1 &&& (3 : Int32)) (2 : Int32))), .val (.ref c76_0), .val .null, .val (.ref b79), .val (.ref b84), .val (.int (p2 &&& (3 : Int32))), .val (.ref b84), .val (.int (1 : Int32))] [(.ref b84), (.ref b79)]))
          obtain ⟨cq91, kq91, q91a, q91b, q91c⟩ := isOf hZ e87 (((A79.keep K82).ext E84).keep K87)
          obtain ⟨_, _, ⟨T91, L91, k91, n91⟩, -, X91, ⟨Lc91, hQ91, l91, y91, z91⟩, st91⟩ := X87.virtualBack hx (y := (⟨"com/example/nepean/nepean/session/PendingKey", "equals", "(Ljava/lang/Object;)Z"⟩ : MethodName)) (z := (⟨"com/example/nepean/nepean/session/PendingKey", "equals", "(Ljava/lang/Object;)Z"⟩ : MethodName)) hown (mvT hZ (hw _ (List.mem_of_getElem? (i := 49) rfl))) (mvT hZ (hw _ (List.mem_of_getElem? (i := 50) rfl))) (notFace_of_selects (args := #[]) (mvT hZ (hw _ (List.mem_of_getElem? (i := 52) rfl)))) (mvT hZ (hw _ (List.mem_of_getElem? (i := 52) rfl))) (mvT hZ (hw _ (List.mem_of_getElem? (i := 51) rfl))) (by decide) (backOf (W := 0) (rm_eqPT l Z av0 hw [] b79 b84 (own_pick (own_minI (p1 &&& (3 : Int32)) (2 : Int32)) b1 b10) (own_pick (own_minI (p0 &&& (3 : Int32)) (2 : Int32)) b1 b10) h87 n0 (Nat.le_trans Z0 kp88.1) (A84.keep K87) r87_0 ((r82_0.ext E84).keep K87 (ninS (Nat.ne_of_lt (Nat.lt_of_lt_of_le (A79.keep K82).lt bi_b84)) nin0)) (congrArg (fun z => own_pick z b1 b10) (Eq.symm hc90)) (own_pickr _ _ _) (own_pickr _ _ _)) hZ (hw _ (List.mem_of_getElem? (i := 53) rfl)) (hw _ (List.mem_of_getElem? (i := 36) rfl)) (by decide) (by decide)) q91a q91c (g := (mkF m 216 #[.val (.int p0), .val (.int p1), .val (.int p2), .val (.int ((((p0.toUInt32 >>> ((8 : Int32) &&& 31).toUInt32).toInt32) &&& (255 : Int32)).toUInt32.toUInt16.toUInt32.toInt32)), .val (.ref b1), .val (.ref b10), .val (.int (own_minI (p0 &&& (3 : Int32)) (2 : Int32))), .val (.int (own_minI (p1 &&& (3 : Int32)) (2 : Int32))), .val (.ref c76_0), .val .null, .val (.ref b79), .val (.ref b84), .val (.int (p2 &&& (3 : Int32))), .val (.ref b84), .val (.int (1 : Int32))] [(.ref b84), (.ref b79)])) rfl (by rw [hml]; rfl) (Steps.refl _) (argsL := [(.ref b84)]) (rest := []) (lenOf pd_10 rfl) rfl (by show 2 * 0 + _ ≤ _; exact Nat.le_of_eq rfl) (hb hby at_216) (fun _ _ => ⟨rfl, e87, (by decide : 9 + 0 ≤ _), (by decide : 17 + 0 ≤ _)⟩)
          dsimp only [Pt.U, Pt.locs, Pt.cells, Pt.slots] at X91 l91 y91 z91 st91 hQ91
          subst l91 y91 z91
          obtain ⟨rfl, N91q, he91⟩ := hQ91
          have N91 := Fr.app N87 N91q
          refine OwnFin.tr st91 ?_
          show OwnFin _ _ _ _ (T91.setTop (mkF m 219 #[.val (.int p0), .val (.int p1), .val (.int p2), .val (.int ((((p0.toUInt32 >>> ((8 : Int32) &&& 31).toUInt32).toInt32) &&& (255 : Int32)).toUInt32.toUInt16.toUInt32.toInt32)), .val (.ref b1), .val (.ref b10), .val (.int (own_minI (p0 &&& (3 : Int32)) (2 : Int32))), .val (.int (own_minI (p1 &&& (3 : Int32)) (2 : Int32))), .val (.ref c76_0), .val .null, .val (.ref b79), .val (.ref b84), .val (.int (p2 &&& (3 : Int32))), .val (.ref b84), .val (.int (1 : Int32))] [(.int (1 : Int32))]))
          refine OwnFin.st (fun _ q => XS.iload X91.here hx rfl (hb hby at_219) rfl q) ?_
          show OwnFin _ _ _ _ (T91.setTop (mkF m 221 #[.val (.int p0), .val (.int p1), .val (.int p2), .val (.int ((((p0.toUInt32 >>> ((8 : Int32) &&& 31).toUInt32).toInt32) &&& (255 : Int32)).toUInt32.toUInt16.toUInt32.toInt32)), .val (.ref b1), .val (.ref b10), .val (.int (own_minI (p0 &&& (3 : Int32)) (2 : Int32))), .val (.int (own_minI (p1 &&& (3 : Int32)) (2 : Int32))), .val (.ref c76_0), .val .null, .val (.ref b79), .val (.ref b84), .val (.int (p2 &&& (3 : Int32))), .val (.ref b84), .val (.int (1 : Int32))] [(.int (1 : Int32)), (.int (1 : Int32))]))
          refine OwnFin.st (fun _ q => XS.icmpNo X91.here hx rfl (hb hby at_221) rfl (Jvm.Free.XT.ii_ne_f (rfl : (1 : Int32) = (1 : Int32))) q) ?_
          show OwnFin _ _ _ _ (T91.setTop (mkF m 224 #[.val (.int p0), .val (.int p1), .val (.int p2), .val (.int ((((p0.toUInt32 >>> ((8 : Int32) &&& 31).toUInt32).toInt32) &&& (255 : Int32)).toUInt32.toUInt16.toUInt32.toInt32)), .val (.ref b1), .val (.ref b10), .val (.int (own_minI (p0 &&& (3 : Int32)) (2 : Int32))), .val (.int (own_minI (p1 &&& (3 : Int32)) (2 : Int32))), .val (.ref c76_0), .val .null, .val (.ref b79), .val (.ref b84), .val (.int (p2 &&& (3 : Int32))), .val (.ref b84), .val (.int (1 : Int32))] []))
          refine OwnFin.st (fun _ q => XS.iconst X91.here hx rfl (hb hby at_224) q) ?_
          show OwnFin _ _ _ _ (T91.setTop (mkF m 225 #[.val (.int p0), .val (.int p1), .val (.int p2), .val (.int ((((p0.toUInt32 >>> ((8 : Int32) &&& 31).toUInt32).toInt32) &&& (255 : Int32)).toUInt32.toUInt16.toUInt32.toInt32)), .val (.ref b1), .val (.ref b10), .val (.int (own_minI (p0 &&& (3 : Int32)) (2 : Int32))), .val (.int (own_minI (p1 &&& (3 : Int32)) (2 : Int32))), .val (.ref c76_0), .val .null, .val (.ref b79), .val (.ref b84), .val (.int (p2 &&& (3 : Int32))), .val (.ref b84), .val (.int (1 : Int32))] [(.int (1 : Int32))]))
          refine OwnFin.st (fun _ q => XS.goto X91.here hx rfl (pc0 := 225) (pc' := 229) rfl (hb hby at_225) (by decide) (by decide) q) ?_
          show OwnFin _ _ _ _ (T91.setTop (mkF m 229 #[.val (.int p0), .val (.int p1), .val (.int p2), .val (.int ((((p0.toUInt32 >>> ((8 : Int32) &&& 31).toUInt32).toInt32) &&& (255 : Int32)).toUInt32.toUInt16.toUInt32.toInt32)), .val (.ref b1), .val (.ref b10), .val (.int (own_minI (p0 &&& (3 : Int32)) (2 : Int32))), .val (.int (own_minI (p1 &&& (3 : Int32)) (2 : Int32))), .val (.ref c76_0), .val .null, .val (.ref b79), .val (.ref b84), .val (.int (p2 &&& (3 : Int32))), .val (.ref b84), .val (.int (1 : Int32))] [(.int (1 : Int32))]))
          obtain ⟨fs, hr, hrun, hended, hW, hsame⟩ := X91.leave (v := some (.int (1 : Int32))) (fun h => by rw [Bd.returns] at h; cases h)
          refine ⟨_, _, retN X91 hx (t := .boolean) Bd.returns (by simp) (hb hby at_229) hr, hrun, hended, _, _, rfl, ?_, ⟨_, rfl⟩, hW, hsame.mono (by decide) (by decide)⟩
          show Q_rm0 Z p0 p1 p2 w_COMPACT_STRINGS clI w_cache h0 n0 _ T91.heap _
          rw [he91]
          exact ⟨rfl, N91⟩
        · skip
          refine OwnFin.st (fun _ q => XS.icmpYes X87.here hx rfl (pc0 := 154) (pc' := 161) rfl (hb hby at_154) rfl (Jvm.Free.XT.ii_ne_t hc90) (by decide) (by decide) q) ?_
          show OwnFin _ _ _ _ (T87.setTop (mkF m 161 #[.val (.int p0), .val (.int p1), .val (.int p2), .val (.int ((((p0.toUInt32 >>> ((8 : Int32) &&& 31).toUInt32).toInt32) &&& (255 : Int32)).toUInt32.toUInt16.toUInt32.toInt32)), .val (.ref b1), .val (.ref b10), .val (.int (own_minI (p0 &&& (3 : Int32)) (2 : Int32))), .val (.int (own_minI (p1 &&& (3 : Int32)) (2 : Int32))), .val (.ref c76_0), .val .null, .val (.ref b79), .val (.ref b84), .val (.int (p2 &&& (3 : Int32))), .val (.ref b84), .unset] []))
          refine OwnFin.st (fun _ q => XS.iconst X87.here hx rfl (hb hby at_161) q) ?_
          show OwnFin _ _ _ _ (T87.setTop (mkF m 162 #[.val (.int p0), .val (.int p1), .val (.int p2), .val (.int ((((p0.toUInt32 >>> ((8 : Int32) &&& 31).toUInt32).toInt32) &&& (255 : Int32)).toUInt32.toUInt16.toUInt32.toInt32)), .val (.ref b1), .val (.ref b10), .val (.int (own_minI (p0 &&& (3 : Int32)) (2 : Int32))), .val (.int (own_minI (p1 &&& (3 : Int32)) (2 : Int32))), .val (.ref c76_0), .val .null, .val (.ref b79), .val (.ref b84), .val (.int (p2 &&& (3 : Int32))), .val (.ref b84), .unset] [(.int (0 : Int32))]))
          refine OwnFin.st (fun _ q => XS.istore X87.here hx rfl (hb hby at_162) rfl (l' := #[.val (.int p0), .val (.int p1), .val (.int p2), .val (.int ((((p0.toUInt32 >>> ((8 : Int32) &&& 31).toUInt32).toInt32) &&& (255 : Int32)).toUInt32.toUInt16.toUInt32.toInt32)), .val (.ref b1), .val (.ref b10), .val (.int (own_minI (p0 &&& (3 : Int32)) (2 : Int32))), .val (.int (own_minI (p1 &&& (3 : Int32)) (2 : Int32))), .val (.ref c76_0), .val .null, .val (.ref b79), .val (.ref b84), .val (.int (p2 &&& (3 : Int32))), .val (.ref b84), .val (.int (0 : Int32))]) rfl q) ?_
          show OwnFin _ _ _ _ (T87.setTop (mkF m 164 #[.val (.int p0), .val (.int p1), .val (.int p2), .val (.int ((((p0.toUInt32 >>> ((8 : Int32) &&& 31).toUInt32).toInt32) &&& (255 : Int32)).toUInt32.toUInt16.toUInt32.toInt32)), .val (.ref b1), .val (.ref b10), .val (.int (own_minI (p0 &&& (3 : Int32)) (2 : Int32))), .val (.int (own_minI (p1 &&& (3 : Int32)) (2 : Int32))), .val (.ref c76_0), .val .null, .val (.ref b79), .val (.ref b84), .val (.int (p2 &&& (3 : Int32))), .val (.ref b84), .val (.int (0 : Int32))] []))
          refine OwnFin.st (fun _ q => XS.goto X87.here hx rfl (pc0 := 164) (pc' := 212) rfl (hb hby at_164) (by decide) (by decide) q) ?_
          show OwnFin _ _ _ _ (T87.setTop (mkF m 212 #[.val (.int p0), .val (.int p1), .val (.int p2), .val (.int ((((p0.toUInt32 >>> ((8 : Int32) &&& 31).toUInt32).toInt32) &&& (255 : Int32)).toUInt32.toUInt16.toUInt32.toInt32)), .val (.ref b1), .val (.ref b10), .val (.int (own_minI (p0 &&& (3 : Int32)) (2 : Int32))), .val (.int (own_minI (p1 &&& (3 : Int32)) (2 : Int32))), .val (.ref c76_0), .val .null, .val (.ref b79), .val (.ref b84), .val (.int (p2 &&& (3 : Int32))), .val (.ref b84), .val (.int (0 : Int32))] []))
          refine OwnFin.st (fun _ q => XS.aload X87.here hx rfl (hb hby at_212) rfl rfl q) ?_
          show OwnFin _ _ _ _ (T87.setTop (mkF m 214 #[.val (.int p0), .val (.int p1), .val (.int p2), .val (.int ((((p0.toUInt32 >>> ((8 : Int32) &&& 31).toUInt32).toInt32) &&& (255 : Int32)).toUInt32.toUInt16.toUInt32.toInt32)), .val (.ref b1), .val (.ref b10), .val (.int (own_minI (p0 &&& (3 : Int32)) (2 : Int32))), .val (.int (own_minI (p1 &&& (3 : Int32)) (2 : Int32))), .val (.ref c76_0), .val .null, .val (.ref b79), .val (.ref b84), .val (.int (p2 &&& (3 : Int32))), .val (.ref b84), .val (.int (0 : Int32))] [(.ref b79)]))
          refine OwnFin.st (fun _ q => XS.aload X87.here hx rfl (hb hby at_214) rfl rfl q) ?_
          show OwnFin _ _ _ _ (T87.setTop (mkF m 216 #[.val (.int p0), .val (.int p1), .val (.int p2), .val (.int ((((p0.toUInt32 >>> ((8 : Int32) &&& 31).toUInt32).toInt32) &&& (255 : Int32)).toUInt32.toUInt16.toUInt32.toInt32)), .val (.ref b1), .val (.ref b10), .val (.int (own_minI (p0 &&& (3 : Int32)) (2 : Int32))), .val (.int (own_minI (p1 &&& (3 : Int32)) (2 : Int32))), .val (.ref c76_0), .val .null, .val (.ref b79), .val (.ref b84), .val (.int (p2 &&& (3 : Int32))), .val (.ref b84), .val (.int (0 : Int32))] [(.ref b84), (.ref b79)]))
          obtain ⟨cq92, kq92, q92a, q92b, q92c⟩ := isOf hZ e87 (((A79.keep K82).ext E84).keep K87)
          obtain ⟨_, _, ⟨T92, L92, k92, n92⟩, -, X92, ⟨Lc92, hQ92, l92, y92, z92⟩, st92⟩ := X87.virtualBack hx (y := (⟨"com/example/nepean/nepean/session/PendingKey", "equals", "(Ljava/lang/Object;)Z"⟩ : MethodName)) (z := (⟨"com/example/nepean/nepean/session/PendingKey", "equals", "(Ljava/lang/Object;)Z"⟩ : MethodName)) hown (mvT hZ (hw _ (List.mem_of_getElem? (i := 49) rfl))) (mvT hZ (hw _ (List.mem_of_getElem? (i := 50) rfl))) (notFace_of_selects (args := #[]) (mvT hZ (hw _ (List.mem_of_getElem? (i := 52) rfl)))) (mvT hZ (hw _ (List.mem_of_getElem? (i := 52) rfl))) (mvT hZ (hw _ (List.mem_of_getElem? (i := 51) rfl))) (by decide) (backOf (W := 0) (rm_eqPF l Z av0 hw [] b79 b84 (own_pick (own_minI (p1 &&& (3 : Int32)) (2 : Int32)) b1 b10) (own_pick (own_minI (p0 &&& (3 : Int32)) (2 : Int32)) b1 b10) h87 n0 (Nat.le_trans Z0 kp88.1) (A84.keep K87) r87_0 ((r82_0.ext E84).keep K87 (ninS (Nat.ne_of_lt (Nat.lt_of_lt_of_le (A79.keep K82).lt bi_b84)) nin0)) (own_pickne (Nat.ne_of_lt (Nat.lt_of_lt_of_le (((A1.ext E3).wr W5).keep K8).lt bi_b10)) (own_m3 _) (own_m3 _) (fun z => hc90 z.symm)) (own_pickr _ _ _) (own_pickr _ _ _)) hZ (hw _ (List.mem_of_getElem? (i := 53) rfl)) (hw _ (List.mem_of_getElem? (i := 36) rfl)) (by decide) (by decide)) q92a q92c (g := (mkF m 216 #[.val (.int p0), .val (.int p1), .val (.int p2), .val (.int ((((p0.toUInt32 >>> ((8 : Int32) &&& 31).toUInt32).toInt32) &&& (255 : Int32)).toUInt32.toUInt16.toUInt32.toInt32)), .val (.ref b1), .val (.ref b10), .val (.int (own_minI (p0 &&& (3 : Int32)) (2 : Int32))), .val (.int (own_minI (p1 &&& (3 : Int32)) (2 : Int32))), .val (.ref c76_0), .val .null, .val (.ref b79), .val (.ref b84), .val (.int (p2 &&& (3 : Int32))), .val (.ref b84), .val (.int (0 : Int32))] [(.ref b84), (.ref b79)])) rfl (by rw [hml]; rfl) (Steps.refl _) (argsL := [(.ref b84)]) (rest := []) (lenOf pd_10 rfl) rfl (by show 2 * 0 + _ ≤ _; exact Nat.le_of_eq rfl) (hb hby at_216) (fun _ _ => ⟨rfl, e87, (by decide : 9 + 0 ≤ _), (by decide : 17 + 0 ≤ _)⟩)
          dsimp only [Pt.U, Pt.locs, Pt.cells, Pt.slots] at X92 l92 y92 z92 st92 hQ92
          subst l92 y92 z92
          obtain ⟨rfl, N92q, he92⟩ := hQ92
          have N92 := Fr.app N87 N92q
          refine OwnFin.tr st92 ?_
          show OwnFin _ _ _ _ (T92.setTop (mkF m 219 #[.val (.int p0), .val (.int p1), .val (.int p2), .val (.int ((((p0.toUInt32 >>> ((8 : Int32) &&& 31).toUInt32).toInt32) &&& (255 : Int32)).toUInt32.toUInt16.toUInt32.toInt32)), .val (.ref b1), .val (.ref b10), .val (.int (own_minI (p0 &&& (3 : Int32)) (2 : Int32))), .val (.int (own_minI (p1 &&& (3 : Int32)) (2 : Int32))), .val (.ref c76_0), .val .null, .val (.ref b79), .val (.ref b84), .val (.int (p2 &&& (3 : Int32))), .val (.ref b84), .val (.int (0 : Int32))] [(.int (0 : Int32))]))
          refine OwnFin.st (fun _ q => XS.iload X92.here hx rfl (hb hby at_219) rfl q) ?_
          show OwnFin _ _ _ _ (T92.setTop (mkF m 221 #[.val (.int p0), .val (.int p1), .val (.int p2), .val (.int ((((p0.toUInt32 >>> ((8 : Int32) &&& 31).toUInt32).toInt32) &&& (255 : Int32)).toUInt32.toUInt16.toUInt32.toInt32)), .val (.ref b1), .val (.ref b10), .val (.int (own_minI (p0 &&& (3 : Int32)) (2 : Int32))), .val (.int (own_minI (p1 &&& (3 : Int32)) (2 : Int32))), .val (.ref c76_0), .val .null, .val (.ref b79), .val (.ref b84), .val (.int (p2 &&& (3 : Int32))), .val (.ref b84), .val (.int (0 : Int32))] [(.int (0 : Int32)), (.int (0 : Int32))]))
          refine OwnFin.st (fun _ q => XS.icmpNo X92.here hx rfl (hb hby at_221) rfl (Jvm.Free.XT.ii_ne_f (rfl : (0 : Int32) = (0 : Int32))) q) ?_
          show OwnFin _ _ _ _ (T92.setTop (mkF m 224 #[.val (.int p0), .val (.int p1), .val (.int p2), .val (.int ((((p0.toUInt32 >>> ((8 : Int32) &&& 31).toUInt32).toInt32) &&& (255 : Int32)).toUInt32.toUInt16.toUInt32.toInt32)), .val (.ref b1), .val (.ref b10), .val (.int (own_minI (p0 &&& (3 : Int32)) (2 : Int32))), .val (.int (own_minI (p1 &&& (3 : Int32)) (2 : Int32))), .val (.ref c76_0), .val .null, .val (.ref b79), .val (.ref b84), .val (.int (p2 &&& (3 : Int32))), .val (.ref b84), .val (.int (0 : Int32))] []))
          refine OwnFin.st (fun _ q => XS.iconst X92.here hx rfl (hb hby at_224) q) ?_
          show OwnFin _ _ _ _ (T92.setTop (mkF m 225 #[.val (.int p0), .val (.int p1), .val (.int p2), .val (.int ((((p0.toUInt32 >>> ((8 : Int32) &&& 31).toUInt32).toInt32) &&& (255 : Int32)).toUInt32.toUInt16.toUInt32.toInt32)), .val (.ref b1), .val (.ref b10), .val (.int (own_minI (p0 &&& (3 : Int32)) (2 : Int32))), .val (.int (own_minI (p1 &&& (3 : Int32)) (2 : Int32))), .val (.ref c76_0), .val .null, .val (.ref b79), .val (.ref b84), .val (.int (p2 &&& (3 : Int32))), .val (.ref b84), .val (.int (0 : Int32))] [(.int (1 : Int32))]))
          refine OwnFin.st (fun _ q => XS.goto X92.here hx rfl (pc0 := 225) (pc' := 229) rfl (hb hby at_225) (by decide) (by decide) q) ?_
          show OwnFin _ _ _ _ (T92.setTop (mkF m 229 #[.val (.int p0), .val (.int p1), .val (.int p2), .val (.int ((((p0.toUInt32 >>> ((8 : Int32) &&& 31).toUInt32).toInt32) &&& (255 : Int32)).toUInt32.toUInt16.toUInt32.toInt32)), .val (.ref b1), .val (.ref b10), .val (.int (own_minI (p0 &&& (3 : Int32)) (2 : Int32))), .val (.int (own_minI (p1 &&& (3 : Int32)) (2 : Int32))), .val (.ref c76_0), .val .null, .val (.ref b79), .val (.ref b84), .val (.int (p2 &&& (3 : Int32))), .val (.ref b84), .val (.int (0 : Int32))] [(.int (1 : Int32))]))
          obtain ⟨fs, hr, hrun, hended, hW, hsame⟩ := X92.leave (v := some (.int (1 : Int32))) (fun h => by rw [Bd.returns] at h; cases h)
          refine ⟨_, _, retN X92 hx (t := .boolean) Bd.returns (by simp) (hb hby at_229) hr, hrun, hended, _, _, rfl, ?_, ⟨_, rfl⟩, hW, hsame.mono (by decide) (by decide)⟩
          show Q_rm0 Z p0 p1 p2 w_COMPACT_STRINGS clI w_cache h0 n0 _ T92.heap _
          rw [he92]
          exact ⟨rfl, N92⟩
      · skip
        refine OwnFin.st (fun _ q => XS.ifYes X87.here hx rfl (pc0 := 143) (pc' := 167) rfl (hb hby at_143) rfl (Jvm.Free.XT.i0_ne_t hc89) (by decide) (by decide) q) ?_
        show OwnFin _ _ _ _ (T87.setTop (mkF m 167 #[.val (.int p0), .val (.int p1), .val (.int p2), .val (.int ((((p0.toUInt32 >>> ((8 : Int32) &&& 31).toUInt32).toInt32) &&& (255 : Int32)).toUInt32.toUInt16.toUInt32.toInt32)), .val (.ref b1), .val (.ref b10), .val (.int (own_minI (p0 &&& (3 : Int32)) (2 : Int32))), .val (.int (own_minI (p1 &&& (3 : Int32)) (2 : Int32))), .val (.ref c76_0), .val .null, .val (.ref b79), .val (.ref b84), .val (.int (p2 &&& (3 : Int32))), .unset, .unset] []))
        refine OwnFin.st (fun _ q => XS.iload X87.here hx rfl (hb hby at_167) rfl q) ?_
        show OwnFin _ _ _ _ (T87.setTop (mkF m 169 #[.val (.int p0), .val (.int p1), .val (.int p2), .val (.int ((((p0.toUInt32 >>> ((8 : Int32) &&& 31).toUInt32).toInt32) &&& (255 : Int32)).toUInt32.toUInt16.toUInt32.toInt32)), .val (.ref b1), .val (.ref b10), .val (.int (own_minI (p0 &&& (3 : Int32)) (2 : Int32))), .val (.int (own_minI (p1 &&& (3 : Int32)) (2 : Int32))), .val (.ref c76_0), .val .null, .val (.ref b79), .val (.ref b84), .val (.int (p2 &&& (3 : Int32))), .unset, .unset] [(.int (p2 &&& (3 : Int32)))]))
        refine OwnFin.st (fun _ q => XS.iconst X87.here hx rfl (hb hby at_169) q) ?_
        show OwnFin _ _ _ _ (T87.setTop (mkF m 170 #[.val (.int p0), .val (.int p1), .val (.int p2), .val (.int ((((p0.toUInt32 >>> ((8 : Int32) &&& 31).toUInt32).toInt32) &&& (255 : Int32)).toUInt32.toUInt16.toUInt32.toInt32)), .val (.ref b1), .val (.ref b10), .val (.int (own_minI (p0 &&& (3 : Int32)) (2 : Int32))), .val (.int (own_minI (p1 &&& (3 : Int32)) (2 : Int32))), .val (.ref c76_0), .val .null, .val (.ref b79), .val (.ref b84), .val (.int (p2 &&& (3 : Int32))), .unset, .unset] [(.int (1 : Int32)), (.int (p2 &&& (3 : Int32)))]))
        by_cases hc93 : (p2 &&& (3 : Int32)) = (1 : Int32)
        · skip
          refine OwnFin.st (fun _ q => XS.icmpNo X87.here hx rfl (hb hby at_170) rfl (Jvm.Free.XT.ii_ne_f hc93) q) ?_
          show OwnFin _ _ _ _ (T87.setTop (mkF m 173 #[.val (.int p0), .val (.int p1), .val (.int p2), .val (.int ((((p0.toUInt32 >>> ((8 : Int32) &&& 31).toUInt32).toInt32) &&& (255 : Int32)).toUInt32.toUInt16.toUInt32.toInt32)), .val (.ref b1), .val (.ref b10), .val (.int (own_minI (p0 &&& (3 : Int32)) (2 : Int32))), .val (.int (own_minI (p1 &&& (3 : Int32)) (2 : Int32))), .val (.ref c76_0), .val .null, .val (.ref b79), .val (.ref b84), .val (.int (p2 &&& (3 : Int32))), .unset, .unset] []))
          refine OwnFin.st (fun _ q => XS.aconstNull X87.here hx rfl (hb hby at_173) q) ?_
          show OwnFin _ _ _ _ (T87.setTop (mkF m 174 #[.val (.int p0), .val (.int p1), .val (.int p2), .val (.int ((((p0.toUInt32 >>> ((8 : Int32) &&& 31).toUInt32).toInt32) &&& (255 : Int32)).toUInt32.toUInt16.toUInt32.toInt32)), .val (.ref b1), .val (.ref b10), .val (.int (own_minI (p0 &&& (3 : Int32)) (2 : Int32))), .val (.int (own_minI (p1 &&& (3 : Int32)) (2 : Int32))), .val (.ref c76_0), .val .null, .val (.ref b79), .val (.ref b84), .val (.int (p2 &&& (3 : Int32))), .unset, .unset] [.null]))
          refine OwnFin.st (fun _ q => XS.astore X87.here hx rfl (hb hby at_174) rfl rfl (l' := #[.val (.int p0), .val (.int p1), .val (.int p2), .val (.int ((((p0.toUInt32 >>> ((8 : Int32) &&& 31).toUInt32).toInt32) &&& (255 : Int32)).toUInt32.toUInt16.toUInt32.toInt32)), .val (.ref b1), .val (.ref b10), .val (.int (own_minI (p0 &&& (3 : Int32)) (2 : Int32))), .val (.int (own_minI (p1 &&& (3 : Int32)) (2 : Int32))), .val (.ref c76_0), .val .null, .val (.ref b79), .val (.ref b84), .val (.int (p2 &&& (3 : Int32))), .val .null, .unset]) rfl q) ?_
          show OwnFin _ _ _ _ (T87.setTop (mkF m 176 #[.val (.int p0), .val (.int p1), .val (.int p2), .val (.int ((((p0.toUInt32 >>> ((8 : Int32) &&& 31).toUInt32).toInt32) &&& (255 : Int32)).toUInt32.toUInt16.toUInt32.toInt32)), .val (.ref b1), .val (.ref b10), .val (.int (own_minI (p0 &&& (3 : Int32)) (2 : Int32))), .val (.int (own_minI (p1 &&& (3 : Int32)) (2 : Int32))), .val (.ref c76_0), .val .null, .val (.ref b79), .val (.ref b84), .val (.int (p2 &&& (3 : Int32))), .val .null, .unset] []))
          refine OwnFin.st (fun _ q => XS.iconst X87.here hx rfl (hb hby at_176) q) ?_
          show OwnFin _ _ _ _ (T87.setTop (mkF m 177 #[.val (.int p0), .val (.int p1), .val (.int p2), .val (.int ((((p0.toUInt32 >>> ((8 : Int32) &&& 31).toUInt32).toInt32) &&& (255 : Int32)).toUInt32.toUInt16.toUInt32.toInt32)), .val (.ref b1), .val (.ref b10), .val (.int (own_minI (p0 &&& (3 : Int32)) (2 : Int32))), .val (.int (own_minI (p1 &&& (3 : Int32)) (2 : Int32))), .val (.ref c76_0), .val .null, .val (.ref b79), .val (.ref b84), .val (.int (p2 &&& (3 : Int32))), .val .null, .unset] [(.int (0 : Int32))]))
          refine OwnFin.st (fun _ q => XS.istore X87.here hx rfl (hb hby at_177) rfl (l' := #[.val (.int p0), .val (.int p1), .val (.int p2), .val (.int ((((p0.toUInt32 >>> ((8 : Int32) &&& 31).toUInt32).toInt32) &&& (255 : Int32)).toUInt32.toUInt16.toUInt32.toInt32)), .val (.ref b1), .val (.ref b10), .val (.int (own_minI (p0 &&& (3 : Int32)) (2 : Int32))), .val (.int (own_minI (p1 &&& (3 : Int32)) (2 : Int32))), .val (.ref c76_0), .val .null, .val (.ref b79), .val (.ref b84), .val (.int (p2 &&& (3 : Int32))), .val .null, .val (.int (0 : Int32))]) rfl q) ?_
          show OwnFin _ _ _ _ (T87.setTop (mkF m 179 #[.val (.int p0), .val (.int p1), .val (.int p2), .val (.int ((((p0.toUInt32 >>> ((8 : Int32) &&& 31).toUInt32).toInt32) &&& (255 : Int32)).toUInt32.toUInt16.toUInt32.toInt32)), .val (.ref b1), .val (.ref b10), .val (.int (own_minI (p0 &&& (3 : Int32)) (2 : Int32))), .val (.int (own_minI (p1 &&& (3 : Int32)) (2 : Int32))), .val (.ref c76_0), .val .null, .val (.ref b79), .val (.ref b84), .val (.int (p2 &&& (3 : Int32))), .val .null, .val (.int (0 : Int32))] []))
          refine OwnFin.st (fun _ q => XS.goto X87.here hx rfl (pc0 := 179) (pc' := 212) rfl (hb hby at_179) (by decide) (by decide) q) ?_
          show OwnFin _ _ _ _ (T87.setTop (mkF m 212 #[.val (.int p0), .val (.int p1), .val (.int p2), .val (.int ((((p0.toUInt32 >>> ((8 : Int32) &&& 31).toUInt32).toInt32) &&& (255 : Int32)).toUInt32.toUInt16.toUInt32.toInt32)), .val (.ref b1), .val (.ref b10), .val (.int (own_minI (p0 &&& (3 : Int32)) (2 : Int32))), .val (.int (own_minI (p1 &&& (3 : Int32)) (2 : Int32))), .val (.ref c76_0), .val .null, .val (.ref b79), .val (.ref b84), .val (.int (p2 &&& (3 : Int32))), .val .null, .val (.int (0 : Int32))] []))
          refine OwnFin.st (fun _ q => XS.aload X87.here hx rfl (hb hby at_212) rfl rfl q) ?_
          show OwnFin _ _ _ _ (T87.setTop (mkF m 214 #[.val (.int p0), .val (.int p1), .val (.int p2), .val (.int ((((p0.toUInt32 >>> ((8 : Int32) &&& 31).toUInt32).toInt32) &&& (255 : Int32)).toUInt32.toUInt16.toUInt32.toInt32)), .val (.ref b1), .val (.ref b10), .val (.int (own_minI (p0 &&& (3 : Int32)) (2 : Int32))), .val (.int (own_minI (p1 &&& (3 : Int32)) (2 : Int32))), .val (.ref c76_0), .val .null, .val (.ref b79), .val (.ref b84), .val (.int (p2 &&& (3 : Int32))), .val .null, .val (.int (0 : Int32))] [(.ref b79)]))
          refine OwnFin.st (fun _ q => XS.aload X87.here hx rfl (hb hby at_214) rfl rfl q) ?_
          show OwnFin _ _ _ _ (T87.setTop (mkF m 216 #[.val (.int p0), .val (.int p1), .val (.int p2), .val (.int ((((p0.toUInt32 >>> ((8 : Int32) &&& 31).toUInt32).toInt32) &&& (255 : Int32)).toUInt32.toUInt16.toUInt32.toInt32)), .val (.ref b1), .val (.ref b10), .val (.int (own_minI (p0 &&& (3 : Int32)) (2 : Int32))), .val (.int (own_minI (p1 &&& (3 : Int32)) (2 : Int32))), .val (.ref c76_0), .val .null, .val (.ref b79), .val (.ref b84), .val (.int (p2 &&& (3 : Int32))), .val .null, .val (.int (0 : Int32))] [.null, (.ref b79)]))
          obtain ⟨cq94, kq94, q94a, q94b, q94c⟩ := isOf hZ e87 (((A79.keep K82).ext E84).keep K87)
          obtain ⟨_, _, ⟨T94, L94, k94, n94⟩, -, X94, ⟨Lc94, hQ94, l94, y94, z94⟩, st94⟩ := X87.virtualBack hx (y := (⟨"com/example/nepean/nepean/session/PendingKey", "equals", "(Ljava/lang/Object;)Z"⟩ : MethodName)) (z := (⟨"com/example/nepean/nepean/session/PendingKey", "equals", "(Ljava/lang/Object;)Z"⟩ : MethodName)) hown (mvT hZ (hw _ (List.mem_of_getElem? (i := 49) rfl))) (mvT hZ (hw _ (List.mem_of_getElem? (i := 50) rfl))) (notFace_of_selects (args := #[]) (mvT hZ (hw _ (List.mem_of_getElem? (i := 52) rfl)))) (mvT hZ (hw _ (List.mem_of_getElem? (i := 52) rfl))) (mvT hZ (hw _ (List.mem_of_getElem? (i := 51) rfl))) (by decide) (backOf (W := 0) (rm_eqN l Z av0 hw [] b79 h87 n0 (Nat.le_trans Z0 kp88.1) ) hZ (hw _ (List.mem_of_getElem? (i := 53) rfl)) (hw _ (List.mem_of_getElem? (i := 36) rfl)) (by decide) (by decide)) q94a q94c (g := (mkF m 216 #[.val (.int p0), .val (.int p1), .val (.int p2), .val (.int ((((p0.toUInt32 >>> ((8 : Int32) &&& 31).toUInt32).toInt32) &&& (255 : Int32)).toUInt32.toUInt16.toUInt32.toInt32)), .val (.ref b1), .val (.ref b10), .val (.int (own_minI (p0 &&& (3 : Int32)) (2 : Int32))), .val (.int (own_minI (p1 &&& (3 : Int32)) (2 : Int32))), .val (.ref c76_0), .val .null, .val (.ref b79), .val (.ref b84), .val (.int (p2 &&& (3 : Int32))), .val .null, .val (.int (0 : Int32))] [.null, (.ref b79)])) rfl (by rw [hml]; rfl) (Steps.refl _) (argsL := [.null]) (rest := []) (lenOf pd_10 rfl) rfl (by show 2 * 0 + _ ≤ _; exact Nat.le_of_eq rfl) (hb hby at_216) (fun _ _ => ⟨rfl, e87, (by decide : 9 + 0 ≤ _), (by decide : 17 + 0 ≤ _)⟩)
          dsimp only [Pt.U, Pt.locs, Pt.cells, Pt.slots] at X94 l94 y94 z94 st94 hQ94
          subst l94 y94 z94
          obtain ⟨rfl, N94q, he94⟩ := hQ94
          have N94 := Fr.app N87 N94q
          refine OwnFin.tr st94 ?_
          show OwnFin _ _ _ _ (T94.setTop (mkF m 219 #[.val (.int p0), .val (.int p1), .val (.int p2), .val (.int ((((p0.toUInt32 >>> ((8 : Int32) &&& 31).toUInt32).toInt32) &&& (255 : Int32)).toUInt32.toUInt16.toUInt32.toInt32)), .val (.ref b1), .val (.ref b10), .val (.int (own_minI (p0 &&& (3 : Int32)) (2 : Int32))), .val (.int (own_minI (p1 &&& (3 : Int32)) (2 : Int32))), .val (.ref c76_0), .val .null, .val (.ref b79), .val (.ref b84), .val (.int (p2 &&& (3 : Int32))), .val .null, .val (.int (0 : Int32))] [(.int (0 : Int32))]))
          refine OwnFin.st (fun _ q => XS.iload X94.here hx rfl (hb hby at_219) rfl q) ?_
          show OwnFin _ _ _ _ (T94.setTop (mkF m 221 #[.val (.int p0), .val (.int p1), .val (.int p2), .val (.int ((((p0.toUInt32 >>> ((8 : Int32) &&& 31).toUInt32).toInt32) &&& (255 : Int32)).toUInt32.toUInt16.toUInt32.toInt32)), .val (.ref b1), .val (.ref b10), .val (.int (own_minI (p0 &&& (3 : Int32)) (2 : Int32))), .val (.int (own_minI (p1 &&& (3 : Int32)) (2 : Int32))), .val (.ref c76_0), .val .null, .val (.ref b79), .val (.ref b84), .val (.int (p2 &&& (3 : Int32))), .val .null, .val (.int (0 : Int32))] [(.int (0 : Int32)), (.int (0 : Int32))]))
          refine OwnFin.st (fun _ q => XS.icmpNo X94.here hx rfl (hb hby at_221) rfl (Jvm.Free.XT.ii_ne_f (rfl : (0 : Int32) = (0 : Int32))) q) ?_
          show OwnFin _ _ _ _ (T94.setTop (mkF m 224 #[.val (.int p0), .val (.int p1), .val (.int p2), .val (.int ((((p0.toUInt32 >>> ((8 : Int32) &&& 31).toUInt32).toInt32) &&& (255 : Int32)).toUInt32.toUInt16.toUInt32.toInt32)), .val (.ref b1), .val (.ref b10), .val (.int (own_minI (p0 &&& (3 : Int32)) (2 : Int32))), .val (.int (own_minI (p1 &&& (3 : Int32)) (2 : Int32))), .val (.ref c76_0), .val .null, .val (.ref b79), .val (.ref b84), .val (.int (p2 &&& (3 : Int32))), .val .null, .val (.int (0 : Int32))] []))
          refine OwnFin.st (fun _ q => XS.iconst X94.here hx rfl (hb hby at_224) q) ?_
          show OwnFin _ _ _ _ (T94.setTop (mkF m 225 #[.val (.int p0), .val (.int p1), .val (.int p2), .val (.int ((((p0.toUInt32 >>> ((8 : Int32) &&& 31).toUInt32).toInt32) &&& (255 : Int32)).toUInt32.toUInt16.toUInt32.toInt32)), .val (.ref b1), .val (.ref b10), .val (.int (own_minI (p0 &&& (3 : Int32)) (2 : Int32))), .val (.int (own_minI (p1 &&& (3 : Int32)) (2 : Int32))), .val (.ref c76_0), .val .null, .val (.ref b79), .val (.ref b84), .val (.int (p2 &&& (3 : Int32))), .val .null, .val (.int (0 : Int32))] [(.int (1 : Int32))]))
          refine OwnFin.st (fun _ q => XS.goto X94.here hx rfl (pc0 := 225) (pc' := 229) rfl (hb hby at_225) (by decide) (by decide) q) ?_
          show OwnFin _ _ _ _ (T94.setTop (mkF m 229 #[.val (.int p0), .val (.int p1), .val (.int p2), .val (.int ((((p0.toUInt32 >>> ((8 : Int32) &&& 31).toUInt32).toInt32) &&& (255 : Int32)).toUInt32.toUInt16.toUInt32.toInt32)), .val (.ref b1), .val (.ref b10), .val (.int (own_minI (p0 &&& (3 : Int32)) (2 : Int32))), .val (.int (own_minI (p1 &&& (3 : Int32)) (2 : Int32))), .val (.ref c76_0), .val .null, .val (.ref b79), .val (.ref b84), .val (.int (p2 &&& (3 : Int32))), .val .null, .val (.int (0 : Int32))] [(.int (1 : Int32))]))
          obtain ⟨fs, hr, hrun, hended, hW, hsame⟩ := X94.leave (v := some (.int (1 : Int32))) (fun h => by rw [Bd.returns] at h; cases h)
          refine ⟨_, _, retN X94 hx (t := .boolean) Bd.returns (by simp) (hb hby at_229) hr, hrun, hended, _, _, rfl, ?_, ⟨_, rfl⟩, hW, hsame.mono (by decide) (by decide)⟩
          show Q_rm0 Z p0 p1 p2 w_COMPACT_STRINGS clI w_cache h0 n0 _ T94.heap _
          rw [he94]
          exact ⟨rfl, N94⟩
        · skip
          refine OwnFin.st (fun _ q => XS.icmpYes X87.here hx rfl (pc0 := 170) (pc' := 182) rfl (hb hby at_170) rfl (Jvm.Free.XT.ii_ne_t hc93) (by decide) (by decide) q) ?_
          show OwnFin _ _ _ _ (T87.setTop (mkF m 182 #[.val (.int p0), .val (.int p1), .val (.int p2), .val (.int ((((p0.toUInt32 >>> ((8 : Int32) &&& 31).toUInt32).toInt32) &&& (255 : Int32)).toUInt32.toUInt16.toUInt32.toInt32)), .val (.ref b1), .val (.ref b10), .val (.int (own_minI (p0 &&& (3 : Int32)) (2 : Int32))), .val (.int (own_minI (p1 &&& (3 : Int32)) (2 : Int32))), .val (.ref c76_0), .val .null, .val (.ref b79), .val (.ref b84), .val (.int (p2 &&& (3 : Int32))), .unset, .unset] []))
          refine OwnFin.st (fun _ q => XS.iload X87.here hx rfl (hb hby at_182) rfl q) ?_
          show OwnFin _ _ _ _ (T87.setTop (mkF m 184 #[.val (.int p0), .val (.int p1), .val (.int p2), .val (.int ((((p0.toUInt32 >>> ((8 : Int32) &&& 31).toUInt32).toInt32) &&& (255 : Int32)).toUInt32.toUInt16.toUInt32.toInt32)), .val (.ref b1), .val (.ref b10), .val (.int (own_minI (p0 &&& (3 : Int32)) (2 : Int32))), .val (.int (own_minI (p1 &&& (3 : Int32)) (2 : Int32))), .val (.ref c76_0), .val .null, .val (.ref b79), .val (.ref b84), .val (.int (p2 &&& (3 : Int32))), .unset, .unset] [(.int (p2 &&& (3 : Int32)))]))
          refine OwnFin.st (fun _ q => XS.iconst X87.here hx rfl (hb hby at_184) q) ?_
          show OwnFin _ _ _ _ (T87.setTop (mkF m 185 #[.val (.int p0), .val (.int p1), .val (.int p2), .val (.int ((((p0.toUInt32 >>> ((8 : Int32) &&& 31).toUInt32).toInt32) &&& (255 : Int32)).toUInt32.toUInt16.toUInt32.toInt32)), .val (.ref b1), .val (.ref b10), .val (.int (own_minI (p0 &&& (3 : Int32)) (2 : Int32))), .val (.int (own_minI (p1 &&& (3 : Int32)) (2 : Int32))), .val (.ref c76_0), .val .null, .val (.ref b79), .val (.ref b84), .val (.int (p2 &&& (3 : Int32))), .unset, .unset] [(.int (2 : Int32)), (.int (p2 &&& (3 : Int32)))]))
          by_cases hc95 : (p2 &&& (3 : Int32)) = (2 : Int32)
          · skip
            refine OwnFin.st (fun _ q => XS.icmpNo X87.here hx rfl (hb hby at_185) rfl (Jvm.Free.XT.ii_ne_f hc95) q) ?_
            show OwnFin _ _ _ _ (T87.setTop (mkF m 188 #[.val (.int p0), .val (.int p1), .val (.int p2), .val (.int ((((p0.toUInt32 >>> ((8 : Int32) &&& 31).toUInt32).toInt32) &&& (255 : Int32)).toUInt32.toUInt16.toUInt32.toInt32)), .val (.ref b1), .val (.ref b10), .val (.int (own_minI (p0 &&& (3 : Int32)) (2 : Int32))), .val (.int (own_minI (p1 &&& (3 : Int32)) (2 : Int32))), .val (.ref c76_0), .val .null, .val (.ref b79), .val (.ref b84), .val (.int (p2 &&& (3 : Int32))), .unset, .unset] []))
            refine OwnFin.st (fun _ q => XS.iload X87.here hx rfl (hb hby at_188) rfl q) ?_
            show OwnFin _ _ _ _ (T87.setTop (mkF m 190 #[.val (.int p0), .val (.int p1), .val (.int p2), .val (.int ((((p0.toUInt32 >>> ((8 : Int32) &&& 31).toUInt32).toInt32) &&& (255 : Int32)).toUInt32.toUInt16.toUInt32.toInt32)), .val (.ref b1), .val (.ref b10), .val (.int (own_minI (p0 &&& (3 : Int32)) (2 : Int32))), .val (.int (own_minI (p1 &&& (3 : Int32)) (2 : Int32))), .val (.ref c76_0), .val .null, .val (.ref b79), .val (.ref b84), .val (.int (p2 &&& (3 : Int32))), .unset, .unset] [(.int (own_minI (p0 &&& (3 : Int32)) (2 : Int32)))]))
            refine OwnFin.st (fun _ q => XS.aload X87.here hx rfl (hb hby at_190) rfl rfl q) ?_
            show OwnFin _ _ _ _ (T87.setTop (mkF m 192 #[.val (.int p0), .val (.int p1), .val (.int p2), .val (.int ((((p0.toUInt32 >>> ((8 : Int32) &&& 31).toUInt32).toInt32) &&& (255 : Int32)).toUInt32.toUInt16.toUInt32.toInt32)), .val (.ref b1), .val (.ref b10), .val (.int (own_minI (p0 &&& (3 : Int32)) (2 : Int32))), .val (.int (own_minI (p1 &&& (3 : Int32)) (2 : Int32))), .val (.ref c76_0), .val .null, .val (.ref b79), .val (.ref b84), .val (.int (p2 &&& (3 : Int32))), .unset, .unset] [(.ref b1), (.int (own_minI (p0 &&& (3 : Int32)) (2 : Int32)))]))
            refine OwnFin.st (fun _ q => XS.aload X87.here hx rfl (hb hby at_192) rfl rfl q) ?_
            show OwnFin _ _ _ _ (T87.setTop (mkF m 194 #[.val (.int p0), .val (.int p1), .val (.int p2), .val (.int ((((p0.toUInt32 >>> ((8 : Int32) &&& 31).toUInt32).toInt32) &&& (255 : Int32)).toUInt32.toUInt16.toUInt32.toInt32)), .val (.ref b1), .val (.ref b10), .val (.int (own_minI (p0 &&& (3 : Int32)) (2 : Int32))), .val (.int (own_minI (p1 &&& (3 : Int32)) (2 : Int32))), .val (.ref c76_0), .val .null, .val (.ref b79), .val (.ref b84), .val (.int (p2 &&& (3 : Int32))), .unset, .unset] [(.ref b10), (.ref b1), (.int (own_minI (p0 &&& (3 : Int32)) (2 : Int32)))]))
            by_cases hc96 : (own_minI (p0 &&& (3 : Int32)) (2 : Int32)) = (0 : Int32)
            · skip
              show OwnFin _ _ _ _ (T87.setTop (mkF m 194 #[.val (.int p0), .val (.int p1), .val (.int p2), .val (.int ((((p0.toUInt32 >>> ((8 : Int32) &&& 31).toUInt32).toInt32) &&& (255 : Int32)).toUInt32.toUInt16.toUInt32.toInt32)), .val (.ref b1), .val (.ref b10), .val (.int (own_minI (p0 &&& (3 : Int32)) (2 : Int32))), .val (.int (own_minI (p1 &&& (3 : Int32)) (2 : Int32))), .val (.ref c76_0), .val .null, .val (.ref b79), .val (.ref b84), .val (.int (p2 &&& (3 : Int32))), .unset, .unset] [(.ref b10), (.ref b1), (.int (own_minI (p0 &&& (3 : Int32)) (2 : Int32)))]))
              obtain ⟨_, _, ⟨T97, L97, k97, n97⟩, -, X97, ⟨Lc97, hQ97, l97, y97, z97⟩, st97⟩ := Jvm.LawKit.callS X87 hx (y := (⟨"com/example/nepean/nepean/session/PendingKeyEqualsPinLaw", "pick", "(ILjava/lang/Object;Ljava/lang/Object;)Ljava/lang/Object;"⟩ : MethodName)) hown (mvT hZ (hw _ (List.mem_of_getElem? (i := 37) rfl))) (mvT hZ (hw _ (List.mem_of_getElem? (i := 38) rfl))) (mvT hZ (hw _ (List.mem_of_getElem? (i := 39) rfl))) (mvT hZ (hw _ (List.mem_of_getElem? (i := 40) rfl))) (by decide) (backOf (W := 0) (rm_pick0 l Z av0 hw [] (own_minI (p0 &&& (3 : Int32)) (2 : Int32)) b1 b10 h87 n0 (Nat.le_trans Z0 kp88.1) hc96) hZ (hw _ (List.mem_of_getElem? (i := 40) rfl)) (hw _ (List.mem_of_getElem? (i := 39) rfl)) (by decide) (by decide)) (g := (mkF m 194 #[.val (.int p0), .val (.int p1), .val (.int p2), .val (.int ((((p0.toUInt32 >>> ((8 : Int32) &&& 31).toUInt32).toInt32) &&& (255 : Int32)).toUInt32.toUInt16.toUInt32.toInt32)), .val (.ref b1), .val (.ref b10), .val (.int (own_minI (p0 &&& (3 : Int32)) (2 : Int32))), .val (.int (own_minI (p1 &&& (3 : Int32)) (2 : Int32))), .val (.ref c76_0), .val .null, .val (.ref b79), .val (.ref b84), .val (.int (p2 &&& (3 : Int32))), .unset, .unset] [(.ref b10), (.ref b1), (.int (own_minI (p0 &&& (3 : Int32)) (2 : Int32)))])) rfl (by rw [hml]; rfl) (argsL := [(.int (own_minI (p0 &&& (3 : Int32)) (2 : Int32))), (.ref b1), (.ref b10)]) (rest := []) (lenOf pd_8 rfl) rfl (by show 2 * 0 + _ ≤ _; exact Nat.le_of_eq rfl) (hb hby at_194) (fun _ _ => ⟨rfl, e87, (by decide : 9 + 0 ≤ _), (by decide : 17 + 0 ≤ _)⟩)
              dsimp only [Pt.U, Pt.locs, Pt.cells, Pt.slots] at X97 l97 y97 z97 st97 hQ97
              subst l97 y97 z97
              obtain ⟨rfl, N97q, he97⟩ := hQ97
              have N97 := Fr.app N87 N97q
              refine OwnFin.st st97 ?_
              show OwnFin _ _ _ _ (T97.setTop (mkF m 197 #[.val (.int p0), .val (.int p1), .val (.int p2), .val (.int ((((p0.toUInt32 >>> ((8 : Int32) &&& 31).toUInt32).toInt32) &&& (255 : Int32)).toUInt32.toUInt16.toUInt32.toInt32)), .val (.ref b1), .val (.ref b10), .val (.int (own_minI (p0 &&& (3 : Int32)) (2 : Int32))), .val (.int (own_minI (p1 &&& (3 : Int32)) (2 : Int32))), .val (.ref c76_0), .val .null, .val (.ref b79), .val (.ref b84), .val (.int (p2 &&& (3 : Int32))), .unset, .unset] [(.ref b1)]))
              refine OwnFin.st (fun _ q => XS.astore X97.here hx rfl (hb hby at_197) rfl rfl (l' := #[.val (.int p0), .val (.int p1), .val (.int p2), .val (.int ((((p0.toUInt32 >>> ((8 : Int32) &&& 31).toUInt32).toInt32) &&& (255 : Int32)).toUInt32.toUInt16.toUInt32.toInt32)), .val (.ref b1), .val (.ref b10), .val (.int (own_minI (p0 &&& (3 : Int32)) (2 : Int32))), .val (.int (own_minI (p1 &&& (3 : Int32)) (2 : Int32))), .val (.ref c76_0), .val .null, .val (.ref b79), .val (.ref b84), .val (.int (p2 &&& (3 : Int32))), .val (.ref b1), .unset]) rfl q) ?_
              show OwnFin _ _ _ _ (T97.setTop (mkF m 199 #[.val (.int p0), .val (.int p1), .val (.int p2), .val (.int ((((p0.toUInt32 >>> ((8 : Int32) &&& 31).toUInt32).toInt32) &&& (255 : Int32)).toUInt32.toUInt16.toUInt32.toInt32)), .val (.ref b1), .val (.ref b10), .val (.int (own_minI (p0 &&& (3 : Int32)) (2 : Int32))), .val (.int (own_minI (p1 &&& (3 : Int32)) (2 : Int32))), .val (.ref c76_0), .val .null, .val (.ref b79), .val (.ref b84), .val (.int (p2 &&& (3 : Int32))), .val (.ref b1), .unset] []))
              refine OwnFin.st (fun _ q => XS.iconst X97.here hx rfl (hb hby at_199) q) ?_
              show OwnFin _ _ _ _ (T97.setTop (mkF m 200 #[.val (.int p0), .val (.int p1), .val (.int p2), .val (.int ((((p0.toUInt32 >>> ((8 : Int32) &&& 31).toUInt32).toInt32) &&& (255 : Int32)).toUInt32.toUInt16.toUInt32.toInt32)), .val (.ref b1), .val (.ref b10), .val (.int (own_minI (p0 &&& (3 : Int32)) (2 : Int32))), .val (.int (own_minI (p1 &&& (3 : Int32)) (2 : Int32))), .val (.ref c76_0), .val .null, .val (.ref b79), .val (.ref b84), .val (.int (p2 &&& (3 : Int32))), .val (.ref b1), .unset] [(.int (0 : Int32))]))
              refine OwnFin.st (fun _ q => XS.istore X97.here hx rfl (hb hby at_200) rfl (l' := #[.val (.int p0), .val (.int p1), .val (.int p2), .val (.int ((((p0.toUInt32 >>> ((8 : Int32) &&& 31).toUInt32).toInt32) &&& (255 : Int32)).toUInt32.toUInt16.toUInt32.toInt32)), .val (.ref b1), .val (.ref b10), .val (.int (own_minI (p0 &&& (3 : Int32)) (2 : Int32))), .val (.int (own_minI (p1 &&& (3 : Int32)) (2 : Int32))), .val (.ref c76_0), .val .null, .val (.ref b79), .val (.ref b84), .val (.int (p2 &&& (3 : Int32))), .val (.ref b1), .val (.int (0 : Int32))]) rfl q) ?_
              show OwnFin _ _ _ _ (T97.setTop (mkF m 202 #[.val (.int p0), .val (.int p1), .val (.int p2), .val (.int ((((p0.toUInt32 >>> ((8 : Int32) &&& 31).toUInt32).toInt32) &&& (255 : Int32)).toUInt32.toUInt16.toUInt32.toInt32)), .val (.ref b1), .val (.ref b10), .val (.int (own_minI (p0 &&& (3 : Int32)) (2 : Int32))), .val (.int (own_minI (p1 &&& (3 : Int32)) (2 : Int32))), .val (.ref c76_0), .val .null, .val (.ref b79), .val (.ref b84), .val (.int (p2 &&& (3 : Int32))), .val (.ref b1), .val (.int (0 : Int32))] []))
              refine OwnFin.st (fun _ q => XS.goto X97.here hx rfl (pc0 := 202) (pc' := 212) rfl (hb hby at_202) (by decide) (by decide) q) ?_
              show OwnFin _ _ _ _ (T97.setTop (mkF m 212 #[.val (.int p0), .val (.int p1), .val (.int p2), .val (.int ((((p0.toUInt32 >>> ((8 : Int32) &&& 31).toUInt32).toInt32) &&& (255 : Int32)).toUInt32.toUInt16.toUInt32.toInt32)), .val (.ref b1), .val (.ref b10), .val (.int (own_minI (p0 &&& (3 : Int32)) (2 : Int32))), .val (.int (own_minI (p1 &&& (3 : Int32)) (2 : Int32))), .val (.ref c76_0), .val .null, .val (.ref b79), .val (.ref b84), .val (.int (p2 &&& (3 : Int32))), .val (.ref b1), .val (.int (0 : Int32))] []))
              refine OwnFin.st (fun _ q => XS.aload X97.here hx rfl (hb hby at_212) rfl rfl q) ?_
              show OwnFin _ _ _ _ (T97.setTop (mkF m 214 #[.val (.int p0), .val (.int p1), .val (.int p2), .val (.int ((((p0.toUInt32 >>> ((8 : Int32) &&& 31).toUInt32).toInt32) &&& (255 : Int32)).toUInt32.toUInt16.toUInt32.toInt32)), .val (.ref b1), .val (.ref b10), .val (.int (own_minI (p0 &&& (3 : Int32)) (2 : Int32))), .val (.int (own_minI (p1 &&& (3 : Int32)) (2 : Int32))), .val (.ref c76_0), .val .null, .val (.ref b79), .val (.ref b84), .val (.int (p2 &&& (3 : Int32))), .val (.ref b1), .val (.int (0 : Int32))] [(.ref b79)]))
              refine OwnFin.st (fun _ q => XS.aload X97.here hx rfl (hb hby at_214) rfl rfl q) ?_
              show OwnFin _ _ _ _ (T97.setTop (mkF m 216 #[.val (.int p0), .val (.int p1), .val (.int p2), .val (.int ((((p0.toUInt32 >>> ((8 : Int32) &&& 31).toUInt32).toInt32) &&& (255 : Int32)).toUInt32.toUInt16.toUInt32.toInt32)), .val (.ref b1), .val (.ref b10), .val (.int (own_minI (p0 &&& (3 : Int32)) (2 : Int32))), .val (.int (own_minI (p1 &&& (3 : Int32)) (2 : Int32))), .val (.ref c76_0), .val .null, .val (.ref b79), .val (.ref b84), .val (.int (p2 &&& (3 : Int32))), .val (.ref b1), .val (.int (0 : Int32))] [(.ref b1), (.ref b79)]))
              obtain ⟨cq98, kq98, q98a, q98b, q98c⟩ := isOf hZ he97 (((A79.keep K82).ext E84).keep K87)
              obtain ⟨_, _, ⟨T98, L98, k98, n98⟩, -, X98, ⟨Lc98, hQ98, l98, y98, z98⟩, st98⟩ := X97.virtualBack hx (y := (⟨"com/example/nepean/nepean/session/PendingKey", "equals", "(Ljava/lang/Object;)Z"⟩ : MethodName)) (z := (⟨"com/example/nepean/nepean/session/PendingKey", "equals", "(Ljava/lang/Object;)Z"⟩ : MethodName)) hown (mvT hZ (hw _ (List.mem_of_getElem? (i := 49) rfl))) (mvT hZ (hw _ (List.mem_of_getElem? (i := 50) rfl))) (notFace_of_selects (args := #[]) (mvT hZ (hw _ (List.mem_of_getElem? (i := 52) rfl)))) (mvT hZ (hw _ (List.mem_of_getElem? (i := 52) rfl))) (mvT hZ (hw _ (List.mem_of_getElem? (i := 51) rfl))) (by decide) (backOf (W := 0) (rm_eqS l Z av0 hw [] b79 b1 h87 n0 (Nat.le_trans Z0 kp88.1) ((((((((((((A1.ext E3).wr W5).keep K8).ext E10).ext E12).wr W14).keep K16).keep K76).ext E79).keep K82).ext E84).keep K87)) hZ (hw _ (List.mem_of_getElem? (i := 53) rfl)) (hw _ (List.mem_of_getElem? (i := 36) rfl)) (by decide) (by decide)) q98a q98c (g := (mkF m 216 #[.val (.int p0), .val (.int p1), .val (.int p2), .val (.int ((((p0.toUInt32 >>> ((8 : Int32) &&& 31).toUInt32).toInt32) &&& (255 : Int32)).toUInt32.toUInt16.toUInt32.toInt32)), .val (.ref b1), .val (.ref b10), .val (.int (own_minI (p0 &&& (3 : Int32)) (2 : Int32))), .val (.int (own_minI (p1 &&& (3 : Int32)) (2 : Int32))), .val (.ref c76_0), .val .null, .val (.ref b79), .val (.ref b84), .val (.int (p2 &&& (3 : Int32))), .val (.ref b1), .val (.int (0 : Int32))] [(.ref b1), (.ref b79)])) rfl (by rw [hml]; rfl) (Steps.refl _) (argsL := [(.ref b1)]) (rest := []) (lenOf pd_10 rfl) rfl (by show 2 * 0 + _ ≤ _; exact Nat.le_of_eq rfl) (hb hby at_216) (fun _ _ => ⟨rfl, he97, (by decide : 9 + 0 ≤ _), (by decide : 17 + 0 ≤ _)⟩)
              dsimp only [Pt.U, Pt.locs, Pt.cells, Pt.slots] at X98 l98 y98 z98 st98 hQ98
              subst l98 y98 z98
              obtain ⟨rfl, N98q, he98⟩ := hQ98
              have N98 := Fr.app N97 N98q
              refine OwnFin.tr st98 ?_
              show OwnFin _ _ _ _ (T98.setTop (mkF m 219 #[.val (.int p0), .val (.int p1), .val (.int p2), .val (.int ((((p0.toUInt32 >>> ((8 : Int32) &&& 31).toUInt32).toInt32) &&& (255 : Int32)).toUInt32.toUInt16.toUInt32.toInt32)), .val (.ref b1), .val (.ref b10), .val (.int (own_minI (p0 &&& (3 : Int32)) (2 : Int32))), .val (.int (own_minI (p1 &&& (3 : Int32)) (2 : Int32))), .val (.ref c76_0), .val .null, .val (.ref b79), .val (.ref b84), .val (.int (p2 &&& (3 : Int32))), .val (.ref b1), .val (.int (0 : Int32))] [(.int (0 : Int32))]))
              refine OwnFin.st (fun _ q => XS.iload X98.here hx rfl (hb hby at_219) rfl q) ?_
              show OwnFin _ _ _ _ (T98.setTop (mkF m 221 #[.val (.int p0), .val (.int p1), .val (.int p2), .val (.int ((((p0.toUInt32 >>> ((8 : Int32) &&& 31).toUInt32).toInt32) &&& (255 : Int32)).toUInt32.toUInt16.toUInt32.toInt32)), .val (.ref b1), .val (.ref b10), .val (.int (own_minI (p0 &&& (3 : Int32)) (2 : Int32))), .val (.int (own_minI (p1 &&& (3 : Int32)) (2 : Int32))), .val (.ref c76_0), .val .null, .val (.ref b79), .val (.ref b84), .val (.int (p2 &&& (3 : Int32))), .val (.ref b1), .val (.int (0 : Int32))] [(.int (0 : Int32)), (.int (0 : Int32))]))
              refine OwnFin.st (fun _ q => XS.icmpNo X98.here hx rfl (hb hby at_221) rfl (Jvm.Free.XT.ii_ne_f (rfl : (0 : Int32) = (0 : Int32))) q) ?_
              show OwnFin _ _ _ _ (T98.setTop (mkF m 224 #[.val (.int p0), .val (.int p1), .val (.int p2), .val (.int ((((p0.toUInt32 >>> ((8 : Int32) &&& 31).toUInt32).toInt32) &&& (255 : Int32)).toUInt32.toUInt16.toUInt32.toInt32)), .val (.ref b1), .val (.ref b10), .val (.int (own_minI (p0 &&& (3 : Int32)) (2 : Int32))), .val (.int (own_minI (p1 &&& (3 : Int32)) (2 : Int32))), .val (.ref c76_0), .val .null, .val (.ref b79), .val (.ref b84), .val (.int (p2 &&& (3 : Int32))), .val (.ref b1), .val (.int (0 : Int32))] []))
              refine OwnFin.st (fun _ q => XS.iconst X98.here hx rfl (hb hby at_224) q) ?_
              show OwnFin _ _ _ _ (T98.setTop (mkF m 225 #[.val (.int p0), .val (.int p1), .val (.int p2), .val (.int ((((p0.toUInt32 >>> ((8 : Int32) &&& 31).toUInt32).toInt32) &&& (255 : Int32)).toUInt32.toUInt16.toUInt32.toInt32)), .val (.ref b1), .val (.ref b10), .val (.int (own_minI (p0 &&& (3 : Int32)) (2 : Int32))), .val (.int (own_minI (p1 &&& (3 : Int32)) (2 : Int32))), .val (.ref c76_0), .val .null, .val (.ref b79), .val (.ref b84), .val (.int (p2 &&& (3 : Int32))), .val (.ref b1), .val (.int (0 : Int32))] [(.int (1 : Int32))]))
              refine OwnFin.st (fun _ q => XS.goto X98.here hx rfl (pc0 := 225) (pc' := 229) rfl (hb hby at_225) (by decide) (by decide) q) ?_
              show OwnFin _ _ _ _ (T98.setTop (mkF m 229 #[.val (.int p0), .val (.int p1), .val (.int p2), .val (.int ((((p0.toUInt32 >>> ((8 : Int32) &&& 31).toUInt32).toInt32) &&& (255 : Int32)).toUInt32.toUInt16.toUInt32.toInt32)), .val (.ref b1), .val (.ref b10), .val (.int (own_minI (p0 &&& (3 : Int32)) (2 : Int32))), .val (.int (own_minI (p1 &&& (3 : Int32)) (2 : Int32))), .val (.ref c76_0), .val .null, .val (.ref b79), .val (.ref b84), .val (.int (p2 &&& (3 : Int32))), .val (.ref b1), .val (.int (0 : Int32))] [(.int (1 : Int32))]))
              obtain ⟨fs, hr, hrun, hended, hW, hsame⟩ := X98.leave (v := some (.int (1 : Int32))) (fun h => by rw [Bd.returns] at h; cases h)
              refine ⟨_, _, retN X98 hx (t := .boolean) Bd.returns (by simp) (hb hby at_229) hr, hrun, hended, _, _, rfl, ?_, ⟨_, rfl⟩, hW, hsame.mono (by decide) (by decide)⟩
              show Q_rm0 Z p0 p1 p2 w_COMPACT_STRINGS clI w_cache h0 n0 _ T98.heap _
              rw [he98]
              exact ⟨rfl, N98⟩
            · skip
              show OwnFin _ _ _ _ (T87.setTop (mkF m 194 #[.val (.int p0), .val (.int p1), .val (.int p2), .val (.int ((((p0.toUInt32 >>> ((8 : Int32) &&& 31).toUInt32).toInt32) &&& (255 : Int32)).toUInt32.toUInt16.toUInt32.toInt32)), .val (.ref b1), .val (.ref b10), .val (.int (own_minI (p0 &&& (3 : Int32)) (2 : Int32))), .val (.int (own_minI (p1 &&& (3 : Int32)) (2 : Int32))), .val (.ref c76_0), .val .null, .val (.ref b79), .val (.ref b84), .val (.int (p2 &&& (3 : Int32))), .unset, .unset] [(.ref b10), (.ref b1), (.int (own_minI (p0 &&& (3 : Int32)) (2 : Int32)))]))
              by_cases hc99 : (own_minI (p0 &&& (3 : Int32)) (2 : Int32)) = (1 : Int32)
              · skip
                show OwnFin _ _ _ _ (T87.setTop (mkF m 194 #[.val (.int p0), .val (.int p1), .val (.int p2), .val (.int ((((p0.toUInt32 >>> ((8 : Int32) &&& 31).toUInt32).toInt32) &&& (255 : Int32)).toUInt32.toUInt16.toUInt32.toInt32)), .val (.ref b1), .val (.ref b10), .val (.int (own_minI (p0 &&& (3 : Int32)) (2 : Int32))), .val (.int (own_minI (p1 &&& (3 : Int32)) (2 : Int32))), .val (.ref c76_0), .val .null, .val (.ref b79), .val (.ref b84), .val (.int (p2 &&& (3 : Int32))), .unset, .unset] [(.ref b10), (.ref b1), (.int (own_minI (p0 &&& (3 : Int32)) (2 : Int32)))]))
                obtain ⟨_, _, ⟨T100, L100, k100, n100⟩, -, X100, ⟨Lc100, hQ100, l100, y100, z100⟩, st100⟩ := Jvm.LawKit.callS X87 hx (y := (⟨"com/example/nepean/nepean/session/PendingKeyEqualsPinLaw", "pick", "(ILjava/lang/Object;Ljava/lang/Object;)Ljava/lang/Object;"⟩ : MethodName)) hown (mvT hZ (hw _ (List.mem_of_getElem? (i := 37) rfl))) (mvT hZ (hw _ (List.mem_of_getElem? (i := 38) rfl))) (mvT hZ (hw _ (List.mem_of_getElem? (i := 39) rfl))) (mvT hZ (hw _ (List.mem_of_getElem? (i := 40) rfl))) (by decide) (backOf (W := 0) (rm_pick1 l Z av0 hw [] (own_minI (p0 &&& (3 : Int32)) (2 : Int32)) b1 b10 h87 n0 (Nat.le_trans Z0 kp88.1) hc96 hc99) hZ (hw _ (List.mem_of_getElem? (i := 40) rfl)) (hw _ (List.mem_of_getElem? (i := 39) rfl)) (by decide) (by decide)) (g := (mkF m 194 #[.val (.int p0), .val (.int p1), .val (.int p2), .val (.int ((((p0.toUInt32 >>> ((8 : Int32) &&& 31).toUInt32).toInt32) &&& (255 : Int32)).toUInt32.toUInt16.toUInt32.toInt32)), .val (.ref b1), .val (.ref b10), .val (.int (own_minI (p0 &&& (3 : Int32)) (2 : Int32))), .val (.int (own_minI (p1 &&& (3 : Int32)) (2 : Int32))), .val (.ref c76_0), .val .null, .val (.ref b79), .val (.ref b84), .val (.int (p2 &&& (3 : Int32))), .unset, .unset] [(.ref b10), (.ref b1), (.int (own_minI (p0 &&& (3 : Int32)) (2 : Int32)))])) rfl (by rw [hml]; rfl) (argsL := [(.int (own_minI (p0 &&& (3 : Int32)) (2 : Int32))), (.ref b1), (.ref b10)]) (rest := []) (lenOf pd_8 rfl) rfl (by show 2 * 0 + _ ≤ _; exact Nat.le_of_eq rfl) (hb hby at_194) (fun _ _ => ⟨rfl, e87, (by decide : 9 + 0 ≤ _), (by decide : 17 + 0 ≤ _)⟩)
                dsimp only [Pt.U, Pt.locs, Pt.cells, Pt.slots] at X100 l100 y100 z100 st100 hQ100
                subst l100 y100 z100
                obtain ⟨rfl, N100q, he100⟩ := hQ100
                have N100 := Fr.app N87 N100q
                refine OwnFin.st st100 ?_
                show OwnFin _ _ _ _ (T100.setTop (mkF m 197 #[.val (.int p0), .val (.int p1), .val (.int p2), .val (.int ((((p0.toUInt32 >>> ((8 : Int32) &&& 31).toUInt32).toInt32) &&& (255 : Int32)).toUInt32.toUInt16.toUInt32.toInt32)), .val (.ref b1), .val (.ref b10), .val (.int (own_minI (p0 &&& (3 : Int32)) (2 : Int32))), .val (.int (own_minI (p1 &&& (3 : Int32)) (2 : Int32))), .val (.ref c76_0), .val .null, .val (.ref b79), .val (.ref b84), .val (.int (p2 &&& (3 : Int32))), .unset, .unset] [(.ref b10)]))
                refine OwnFin.st (fun _ q => XS.astore X100.here hx rfl (hb hby at_197) rfl rfl (l' := #[.val (.int p0), .val (.int p1), .val (.int p2), .val (.int ((((p0.toUInt32 >>> ((8 : Int32) &&& 31).toUInt32).toInt32) &&& (255 : Int32)).toUInt32.toUInt16.toUInt32.toInt32)), .val (.ref b1), .val (.ref b10), .val (.int (own_minI (p0 &&& (3 : Int32)) (2 : Int32))), .val (.int (own_minI (p1 &&& (3 : Int32)) (2 : Int32))), .val (.ref c76_0), .val .null, .val (.ref b79), .val (.ref b84), .val (.int (p2 &&& (3 : Int32))), .val (.ref b10), .unset]) rfl q) ?_
                show OwnFin _ _ _ _ (T100.setTop (mkF m 199 #[.val (.int p0), .val (.int p1), .val (.int p2), .val (.int ((((p0.toUInt32 >>> ((8 : Int32) &&& 31).toUInt32).toInt32) &&& (255 : Int32)).toUInt32.toUInt16.toUInt32.toInt32)), .val (.ref b1), .val (.ref b10), .val (.int (own_minI (p0 &&& (3 : Int32)) (2 : Int32))), .val (.int (own_minI (p1 &&& (3 : Int32)) (2 : Int32))), .val (.ref c76_0), .val .null, .val (.ref b79), .val (.ref b84), .val (.int (p2 &&& (3 : Int32))), .val (.ref b10), .unset] []))
                refine OwnFin.st (fun _ q => XS.iconst X100.here hx rfl (hb hby at_199) q) ?_
                show OwnFin _ _ _ _ (T100.setTop (mkF m 200 #[.val (.int p0), .val (.int p1), .val (.int p2), .val (.int ((((p0.toUInt32 >>> ((8 : Int32) &&& 31).toUInt32).toInt32) &&& (255 : Int32)).toUInt32.toUInt16.toUInt32.toInt32)), .val (.ref b1), .val (.ref b10), .val (.int (own_minI (p0 &&& (3 : Int32)) (2 : Int32))), .val (.int (own_minI (p1 &&& (3 : Int32)) (2 : Int32))), .val (.ref c76_0), .val .null, .val (.ref b79), .val (.ref b84), .val (.int (p2 &&& (3 : Int32))), .val (.ref b10), .unset] [(.int (0 : Int32))]))
                refine OwnFin.st (fun _ q => XS.istore X100.here hx rfl (hb hby at_200) rfl (l' := #[.val (.int p0), .val (.int p1), .val (.int p2), .val (.int ((((p0.toUInt32 >>> ((8 : Int32) &&& 31).toUInt32).toInt32) &&& (255 : Int32)).toUInt32.toUInt16.toUInt32.toInt32)), .val (.ref b1), .val (.ref b10), .val (.int (own_minI (p0 &&& (3 : Int32)) (2 : Int32))), .val (.int (own_minI (p1 &&& (3 : Int32)) (2 : Int32))), .val (.ref c76_0), .val .null, .val (.ref b79), .val (.ref b84), .val (.int (p2 &&& (3 : Int32))), .val (.ref b10), .val (.int (0 : Int32))]) rfl q) ?_
                show OwnFin _ _ _ _ (T100.setTop (mkF m 202 #[.val (.int p0), .val (.int p1), .val (.int p2), .val (.int ((((p0.toUInt32 >>> ((8 : Int32) &&& 31).toUInt32).toInt32) &&& (255 : Int32)).toUInt32.toUInt16.toUInt32.toInt32)), .val (.ref b1), .val (.ref b10), .val (.int (own_minI (p0 &&& (3 : Int32)) (2 : Int32))), .val (.int (own_minI (p1 &&& (3 : Int32)) (2 : Int32))), .val (.ref c76_0), .val .null, .val (.ref b79), .val (.ref b84), .val (.int (p2 &&& (3 : Int32))), .val (.ref b10), .val (.int (0 : Int32))] []))
                refine OwnFin.st (fun _ q => XS.goto X100.here hx rfl (pc0 := 202) (pc' := 212) rfl (hb hby at_202) (by decide) (by decide) q) ?_
                show OwnFin _ _ _ _ (T100.setTop (mkF m 212 #[.val (.int p0), .val (.int p1), .val (.int p2), .val (.int ((((p0.toUInt32 >>> ((8 : Int32) &&& 31).toUInt32).toInt32) &&& (255 : Int32)).toUInt32.toUInt16.toUInt32.toInt32)), .val (.ref b1), .val (.ref b10), .val (.int (own_minI (p0 &&& (3 : Int32)) (2 : Int32))), .val (.int (own_minI (p1 &&& (3 : Int32)) (2 : Int32))), .val (.ref c76_0), .val .null, .val (.ref b79), .val (.ref b84), .val (.int (p2 &&& (3 : Int32))), .val (.ref b10), .val (.int (0 : Int32))] []))
                refine OwnFin.st (fun _ q => XS.aload X100.here hx rfl (hb hby at_212) rfl rfl q) ?_
                show OwnFin _ _ _ _ (T100.setTop (mkF m 214 #[.val (.int p0), .val (.int p1), .val (.int p2), .val (.int ((((p0.toUInt32 >>> ((8 : Int32) &&& 31).toUInt32).toInt32) &&& (255 : Int32)).toUInt32.toUInt16.toUInt32.toInt32)), .val (.ref b1), .val (.ref b10), .val (.int (own_minI (p0 &&& (3 : Int32)) (2 : Int32))), .val (.int (own_minI (p1 &&& (3 : Int32)) (2 : Int32))), .val (.ref c76_0), .val .null, .val (.ref b79), .val (.ref b84), .val (.int (p2 &&& (3 : Int32))), .val (.ref b10), .val (.int (0 : Int32))] [(.ref b79)]))
                refine OwnFin.st (fun _ q => XS.aload X100.here hx rfl (hb hby at_214) rfl rfl q) ?_
                show OwnFin _ _ _ _ (T100.setTop (mkF m 216 #[.val (.int p0), .val (.int p1), .val (.int p2), .val (.int ((((p0.toUInt32 >>> ((8 : Int32) &&& 31).toUInt32).toInt32) &&& (255 : Int32)).toUInt32.toUInt16.toUInt32.toInt32)), .val (.ref b1), .val (.ref b10), .val (.int (own_minI (p0 &&& (3 : Int32)) (2 : Int32))), .val (.int (own_minI (p1 &&& (3 : Int32)) (2 : Int32))), .val (.ref c76_0), .val .null, .val (.ref b79), .val (.ref b84), .val (.int (p2 &&& (3 : Int32))), .val (.ref b10), .val (.int (0 : Int32))] [(.ref b10), (.ref b79)]))
                obtain ⟨cq101, kq101, q101a, q101b, q101c⟩ := isOf hZ he100 (((A79.keep K82).ext E84).keep K87)
                obtain ⟨_, _, ⟨T101, L101, k101, n101⟩, -, X101, ⟨Lc101, hQ101, l101, y101, z101⟩, st101⟩ := X100.virtualBack hx (y := (⟨"com/example/nepean/nepean/session/PendingKey", "equals", "(Ljava/lang/Object;)Z"⟩ : MethodName)) (z := (⟨"com/example/nepean/nepean/session/PendingKey", "equals", "(Ljava/lang/Object;)Z"⟩ : MethodName)) hown (mvT hZ (hw _ (List.mem_of_getElem? (i := 49) rfl))) (mvT hZ (hw _ (List.mem_of_getElem? (i := 50) rfl))) (notFace_of_selects (args := #[]) (mvT hZ (hw _ (List.mem_of_getElem? (i := 52) rfl)))) (mvT hZ (hw _ (List.mem_of_getElem? (i := 52) rfl))) (mvT hZ (hw _ (List.mem_of_getElem? (i := 51) rfl))) (by decide) (backOf (W := 0) (rm_eqS l Z av0 hw [] b79 b10 h87 n0 (Nat.le_trans Z0 kp88.1) ((((((((A10.ext E12).wr W14).keep K16).keep K76).ext E79).keep K82).ext E84).keep K87)) hZ (hw _ (List.mem_of_getElem? (i := 53) rfl)) (hw _ (List.mem_of_getElem? (i := 36) rfl)) (by decide) (by decide)) q101a q101c (g := (mkF m 216 #[.val (.int p0), .val (.int p1), .val (.int p2), .val (.int ((((p0.toUInt32 >>> ((8 : Int32) &&& 31).toUInt32).toInt32) &&& (255 : Int32)).toUInt32.toUInt16.toUInt32.toInt32)), .val (.ref b1), .val (.ref b10), .val (.int (own_minI (p0 &&& (3 : Int32)) (2 : Int32))), .val (.int (own_minI (p1 &&& (3 : Int32)) (2 : Int32))), .val (.ref c76_0), .val .null, .val (.ref b79), .val (.ref b84), .val (.int (p2 &&& (3 : Int32))), .val (.ref b10), .val (.int (0 : Int32))] [(.ref b10), (.ref b79)])) rfl (by rw [hml]; rfl) (Steps.refl _) (argsL := [(.ref b10)]) (rest := []) (lenOf pd_10 rfl) rfl (by show 2 * 0 + _ ≤ _; exact Nat.le_of_eq rfl) (hb hby at_216) (fun _ _ => ⟨rfl, he100, (by decide : 9 + 0 ≤ _), (by decide : 17 + 0 ≤ _)⟩)
                dsimp only [Pt.U, Pt.locs, Pt.cells, Pt.slots] at X101 l101 y101 z101 st101 hQ101
                subst l101 y101 z101
                obtain ⟨rfl, N101q, he101⟩ := hQ101
                have N101 := Fr.app N100 N101q
                refine OwnFin.tr st101 ?_
                show OwnFin _ _ _ _ (T101.setTop (mkF m 219 #[.val (.int p0), .val (.int p1), .val (.int p2), .val (.int ((((p0.toUInt32 >>> ((8 : Int32) &&& 31).toUInt32).toInt32) &&& (255 : Int32)).toUInt32.toUInt16.toUInt32.toInt32)), .val (.ref b1), .val (.ref b10), .val (.int (own_minI (p0 &&& (3 : Int32)) (2 : Int32))), .val (.int (own_minI (p1 &&& (3 : Int32)) (2 : Int32))), .val (.ref c76_0), .val .null, .val (.ref b79), .val (.ref b84), .val (.int (p2 &&& (3 : Int32))), .val (.ref b10), .val (.int (0 : Int32))] [(.int (0 : Int32))]))
                refine OwnFin.st (fun _ q => XS.iload X101.here hx rfl (hb hby at_219) rfl q) ?_
                show OwnFin _ _ _ _ (T101.setTop (mkF m 221 #[.val (.int p0), .val (.int p1), .val (.int p2), .val (.int ((((p0.toUInt32 >>> ((8 : Int32) &&& 31).toUInt32).toInt32) &&& (255 : Int32)).toUInt32.toUInt16.toUInt32.toInt32)), .val (.ref b1), .val (.ref b10), .val (.int (own_minI (p0 &&& (3 : Int32)) (2 : Int32))), .val (.int (own_minI (p1 &&& (3 : Int32)) (2 : Int32))), .val (.ref c76_0), .val .null, .val (.ref b79), .val (.ref b84), .val (.int (p2 &&& (3 : Int32))), .val (.ref b10), .val (.int (0 : Int32))] [(.int (0 : Int32)), (.int (0 : Int32))]))
                refine OwnFin.st (fun _ q => XS.icmpNo X101.here hx rfl (hb hby at_221) rfl (Jvm.Free.XT.ii_ne_f (rfl : (0 : Int32) = (0 : Int32))) q) ?_
                show OwnFin _ _ _ _ (T101.setTop (mkF m 224 #[.val (.int p0), .val (.int p1), .val (.int p2), .val (.int ((((p0.toUInt32 >>> ((8 : Int32) &&& 31).toUInt32).toInt32) &&& (255 : Int32)).toUInt32.toUInt16.toUInt32.toInt32)), .val (.ref b1), .val (.ref b10), .val (.int (own_minI (p0 &&& (3 : Int32)) (2 : Int32))), .val (.int (own_minI (p1 &&& (3 : Int32)) (2 : Int32))), .val (.ref c76_0), .val .null, .val (.ref b79), .val (.ref b84), .val (.int (p2 &&& (3 : Int32))), .val (.ref b10), .val (.int (0 : Int32))] []))
                refine OwnFin.st (fun _ q => XS.iconst X101.here hx rfl (hb hby at_224) q) ?_
                show OwnFin _ _ _ _ (T101.setTop (mkF m 225 #[.val (.int p0), .val (.int p1), .val (.int p2), .val (.int ((((p0.toUInt32 >>> ((8 : Int32) &&& 31).toUInt32).toInt32) &&& (255 : Int32)).toUInt32.toUInt16.toUInt32.toInt32)), .val (.ref b1), .val (.ref b10), .val (.int (own_minI (p0 &&& (3 : Int32)) (2 : Int32))), .val (.int (own_minI (p1 &&& (3 : Int32)) (2 : Int32))), .val (.ref c76_0), .val .null, .val (.ref b79), .val (.ref b84), .val (.int (p2 &&& (3 : Int32))), .val (.ref b10), .val (.int (0 : Int32))] [(.int (1 : Int32))]))
                refine OwnFin.st (fun _ q => XS.goto X101.here hx rfl (pc0 := 225) (pc' := 229) rfl (hb hby at_225) (by decide) (by decide) q) ?_
                show OwnFin _ _ _ _ (T101.setTop (mkF m 229 #[.val (.int p0), .val (.int p1), .val (.int p2), .val (.int ((((p0.toUInt32 >>> ((8 : Int32) &&& 31).toUInt32).toInt32) &&& (255 : Int32)).toUInt32.toUInt16.toUInt32.toInt32)), .val (.ref b1), .val (.ref b10), .val (.int (own_minI (p0 &&& (3 : Int32)) (2 : Int32))), .val (.int (own_minI (p1 &&& (3 : Int32)) (2 : Int32))), .val (.ref c76_0), .val .null, .val (.ref b79), .val (.ref b84), .val (.int (p2 &&& (3 : Int32))), .val (.ref b10), .val (.int (0 : Int32))] [(.int (1 : Int32))]))
                obtain ⟨fs, hr, hrun, hended, hW, hsame⟩ := X101.leave (v := some (.int (1 : Int32))) (fun h => by rw [Bd.returns] at h; cases h)
                refine ⟨_, _, retN X101 hx (t := .boolean) Bd.returns (by simp) (hb hby at_229) hr, hrun, hended, _, _, rfl, ?_, ⟨_, rfl⟩, hW, hsame.mono (by decide) (by decide)⟩
                show Q_rm0 Z p0 p1 p2 w_COMPACT_STRINGS clI w_cache h0 n0 _ T101.heap _
                rw [he101]
                exact ⟨rfl, N101⟩
              · skip
                show OwnFin _ _ _ _ (T87.setTop (mkF m 194 #[.val (.int p0), .val (.int p1), .val (.int p2), .val (.int ((((p0.toUInt32 >>> ((8 : Int32) &&& 31).toUInt32).toInt32) &&& (255 : Int32)).toUInt32.toUInt16.toUInt32.toInt32)), .val (.ref b1), .val (.ref b10), .val (.int (own_minI (p0 &&& (3 : Int32)) (2 : Int32))), .val (.int (own_minI (p1 &&& (3 : Int32)) (2 : Int32))), .val (.ref c76_0), .val .null, .val (.ref b79), .val (.ref b84), .val (.int (p2 &&& (3 : Int32))), .unset, .unset] [(.ref b10), (.ref b1), (.int (own_minI (p0 &&& (3 : Int32)) (2 : Int32)))]))
                obtain ⟨_, _, ⟨T102, L102, k102, n102⟩, -, X102, ⟨Lc102, hQ102, l102, y102, z102⟩, st102⟩ := Jvm.LawKit.callS X87 hx (y := (⟨"com/example/nepean/nepean/session/PendingKeyEqualsPinLaw", "pick", "(ILjava/lang/Object;Ljava/lang/Object;)Ljava/lang/Object;"⟩ : MethodName)) hown (mvT hZ (hw _ (List.mem_of_getElem? (i := 37) rfl))) (mvT hZ (hw _ (List.mem_of_getElem? (i := 38) rfl))) (mvT hZ (hw _ (List.mem_of_getElem? (i := 39) rfl))) (mvT hZ (hw _ (List.mem_of_getElem? (i := 40) rfl))) (by decide) (backOf (W := 0) (rm_pick2 l Z av0 hw [] (own_minI (p0 &&& (3 : Int32)) (2 : Int32)) b1 b10 h87 n0 (Nat.le_trans Z0 kp88.1) hc96 hc99) hZ (hw _ (List.mem_of_getElem? (i := 40) rfl)) (hw _ (List.mem_of_getElem? (i := 39) rfl)) (by decide) (by decide)) (g := (mkF m 194 #[.val (.int p0), .val (.int p1), .val (.int p2), .val (.int ((((p0.toUInt32 >>> ((8 : Int32) &&& 31).toUInt32).toInt32) &&& (255 : Int32)).toUInt32.toUInt16.toUInt32.toInt32)), .val (.ref b1), .val (.ref b10), .val (.int (own_minI (p0 &&& (3 : Int32)) (2 : Int32))), .val (.int (own_minI (p1 &&& (3 : Int32)) (2 : Int32))), .val (.ref c76_0), .val .null, .val (.ref b79), .val (.ref b84), .val (.int (p2 &&& (3 : Int32))), .unset, .unset] [(.ref b10), (.ref b1), (.int (own_minI (p0 &&& (3 : Int32)) (2 : Int32)))])) rfl (by rw [hml]; rfl) (argsL := [(.int (own_minI (p0 &&& (3 : Int32)) (2 : Int32))), (.ref b1), (.ref b10)]) (rest := []) (lenOf pd_8 rfl) rfl (by show 2 * 0 + _ ≤ _; exact Nat.le_of_eq rfl) (hb hby at_194) (fun _ _ => ⟨rfl, e87, (by decide : 9 + 0 ≤ _), (by decide : 17 + 0 ≤ _)⟩)
                dsimp only [Pt.U, Pt.locs, Pt.cells, Pt.slots] at X102 l102 y102 z102 st102 hQ102
                subst l102 y102 z102
                obtain ⟨rfl, N102q, he102⟩ := hQ102
                have N102 := Fr.app N87 N102q
                refine OwnFin.st st102 ?_
                show OwnFin _ _ _ _ (T102.setTop (mkF m 197 #[.val (.int p0), .val (.int p1), .val (.int p2), .val (.int ((((p0.toUInt32 >>> ((8 : Int32) &&& 31).toUInt32).toInt32) &&& (255 : Int32)).toUInt32.toUInt16.toUInt32.toInt32)), .val (.ref b1), .val (.ref b10), .val (.int (own_minI (p0 &&& (3 : Int32)) (2 : Int32))), .val (.int (own_minI (p1 &&& (3 : Int32)) (2 : Int32))), .val (.ref c76_0), .val .null, .val (.ref b79), .val (.ref b84), .val (.int (p2 &&& (3 : Int32))), .unset, .unset] [.null]))
                refine OwnFin.st (fun _ q => XS.astore X102.here hx rfl (hb hby at_197) rfl rfl (l' := #[.val (.int p0), .val (.int p1), .val (.int p2), .val (.int ((((p0.toUInt32 >>> ((8 : Int32) &&& 31).toUInt32).toInt32) &&& (255 : Int32)).toUInt32.toUInt16.toUInt32.toInt32)), .val (.ref b1), .val (.ref b10), .val (.int (own_minI (p0 &&& (3 : Int32)) (2 : Int32))), .val (.int (own_minI (p1 &&& (3 : Int32)) (2 : Int32))), .val (.ref c76_0), .val .null, .val (.ref b79), .val (.ref b84), .val (.int (p2 &&& (3 : Int32))), .val .null, .unset]) rfl q) ?_
                show OwnFin _ _ _ _ (T102.setTop (mkF m 199 #[.val (.int p0), .val (.int p1), .val (.int p2), .val (.int ((((p0.toUInt32 >>> ((8 : Int32) &&& 31).toUInt32).toInt32) &&& (255 : Int32)).toUInt32.toUInt16.toUInt32.toInt32)), .val (.ref b1), .val (.ref b10), .val (.int (own_minI (p0 &&& (3 : Int32)) (2 : Int32))), .val (.int (own_minI (p1 &&& (3 : Int32)) (2 : Int32))), .val (.ref c76_0), .val .null, .val (.ref b79), .val (.ref b84), .val (.int (p2 &&& (3 : Int32))), .val .null, .unset] []))
                refine OwnFin.st (fun _ q => XS.iconst X102.here hx rfl (hb hby at_199) q) ?_
                show OwnFin _ _ _ _ (T102.setTop (mkF m 200 #[.val (.int p0), .val (.int p1), .val (.int p2), .val (.int ((((p0.toUInt32 >>> ((8 : Int32) &&& 31).toUInt32).toInt32) &&& (255 : Int32)).toUInt32.toUInt16.toUInt32.toInt32)), .val (.ref b1), .val (.ref b10), .val (.int (own_minI (p0 &&& (3 : Int32)) (2 : Int32))), .val (.int (own_minI (p1 &&& (3 : Int32)) (2 : Int32))), .val (.ref c76_0), .val .null, .val (.ref b79), .val (.ref b84), .val (.int (p2 &&& (3 : Int32))), .val .null, .unset] [(.int (0 : Int32))]))
                refine OwnFin.st (fun _ q => XS.istore X102.here hx rfl (hb hby at_200) rfl (l' := #[.val (.int p0), .val (.int p1), .val (.int p2), .val (.int ((((p0.toUInt32 >>> ((8 : Int32) &&& 31).toUInt32).toInt32) &&& (255 : Int32)).toUInt32.toUInt16.toUInt32.toInt32)), .val (.ref b1), .val (.ref b10), .val (.int (own_minI (p0 &&& (3 : Int32)) (2 : Int32))), .val (.int (own_minI (p1 &&& (3 : Int32)) (2 : Int32))), .val (.ref c76_0), .val .null, .val (.ref b79), .val (.ref b84), .val (.int (p2 &&& (3 : Int32))), .val .null, .val (.int (0 : Int32))]) rfl q) ?_
                show OwnFin _ _ _ _ (T102.setTop (mkF m 202 #[.val (.int p0), .val (.int p1), .val (.int p2), .val (.int ((((p0.toUInt32 >>> ((8 : Int32) &&& 31).toUInt32).toInt32) &&& (255 : Int32)).toUInt32.toUInt16.toUInt32.toInt32)), .val (.ref b1), .val (.ref b10), .val (.int (own_minI (p0 &&& (3 : Int32)) (2 : Int32))), .val (.int (own_minI (p1 &&& (3 : Int32)) (2 : Int32))), .val (.ref c76_0), .val .null, .val (.ref b79), .val (.ref b84), .val (.int (p2 &&& (3 : Int32))), .val .null, .val (.int (0 : Int32))] []))
                refine OwnFin.st (fun _ q => XS.goto X102.here hx rfl (pc0 := 202) (pc' := 212) rfl (hb hby at_202) (by decide) (by decide) q) ?_
                show OwnFin _ _ _ _ (T102.setTop (mkF m 212 #[.val (.int p0), .val (.int p1), .val (.int p2), .val (.int ((((p0.toUInt32 >>> ((8 : Int32) &&& 31).toUInt32).toInt32) &&& (255 : Int32)).toUInt32.toUInt16.toUInt32.toInt32)), .val (.ref b1), .val (.ref b10), .val (.int (own_minI (p0 &&& (3 : Int32)) (2 : Int32))), .val (.int (own_minI (p1 &&& (3 : Int32)) (2 : Int32))), .val (.ref c76_0), .val .null, .val (.ref b79), .val (.ref b84), .val (.int (p2 &&& (3 : Int32))), .val .null, .val (.int (0 : Int32))] []))
                refine OwnFin.st (fun _ q => XS.aload X102.here hx rfl (hb hby at_212) rfl rfl q) ?_
                show OwnFin _ _ _ _ (T102.setTop (mkF m 214 #[.val (.int p0), .val (.int p1), .val (.int p2), .val (.int ((((p0.toUInt32 >>> ((8 : Int32) &&& 31).toUInt32).toInt32) &&& (255 : Int32)).toUInt32.toUInt16.toUInt32.toInt32)), .val (.ref b1), .val (.ref b10), .val (.int (own_minI (p0 &&& (3 : Int32)) (2 : Int32))), .val (.int (own_minI (p1 &&& (3 : Int32)) (2 : Int32))), .val (.ref c76_0), .val .null, .val (.ref b79), .val (.ref b84), .val (.int (p2 &&& (3 : Int32))), .val .null, .val (.int (0 : Int32))] [(.ref b79)]))
                refine OwnFin.st (fun _ q => XS.aload X102.here hx rfl (hb hby at_214) rfl rfl q) ?_
                show OwnFin _ _ _ _ (T102.setTop (mkF m 216 #[.val (.int p0), .val (.int p1), .val (.int p2), .val (.int ((((p0.toUInt32 >>> ((8 : Int32) &&& 31).toUInt32).toInt32) &&& (255 : Int32)).toUInt32.toUInt16.toUInt32.toInt32)), .val (.ref b1), .val (.ref b10), .val (.int (own_minI (p0 &&& (3 : Int32)) (2 : Int32))), .val (.int (own_minI (p1 &&& (3 : Int32)) (2 : Int32))), .val (.ref c76_0), .val .null, .val (.ref b79), .val (.ref b84), .val (.int (p2 &&& (3 : Int32))), .val .null, .val (.int (0 : Int32))] [.null, (.ref b79)]))
                obtain ⟨cq103, kq103, q103a, q103b, q103c⟩ := isOf hZ he102 (((A79.keep K82).ext E84).keep K87)
                obtain ⟨_, _, ⟨T103, L103, k103, n103⟩, -, X103, ⟨Lc103, hQ103, l103, y103, z103⟩, st103⟩ := X102.virtualBack hx (y := (⟨"com/example/nepean/nepean/session/PendingKey", "equals", "(Ljava/lang/Object;)Z"⟩ : MethodName)) (z := (⟨"com/example/nepean/nepean/session/PendingKey", "equals", "(Ljava/lang/Object;)Z"⟩ : MethodName)) hown (mvT hZ (hw _ (List.mem_of_getElem? (i := 49) rfl))) (mvT hZ (hw _ (List.mem_of_getElem? (i := 50) rfl))) (notFace_of_selects (args := #[]) (mvT hZ (hw _ (List.mem_of_getElem? (i := 52) rfl)))) (mvT hZ (hw _ (List.mem_of_getElem? (i := 52) rfl))) (mvT hZ (hw _ (List.mem_of_getElem? (i := 51) rfl))) (by decide) (backOf (W := 0) (rm_eqN l Z av0 hw [] b79 h87 n0 (Nat.le_trans Z0 kp88.1) ) hZ (hw _ (List.mem_of_getElem? (i := 53) rfl)) (hw _ (List.mem_of_getElem? (i := 36) rfl)) (by decide) (by decide)) q103a q103c (g := (mkF m 216 #[.val (.int p0), .val (.int p1), .val (.int p2), .val (.int ((((p0.toUInt32 >>> ((8 : Int32) &&& 31).toUInt32).toInt32) &&& (255 : Int32)).toUInt32.toUInt16.toUInt32.toInt32)), .val (.ref b1), .val (.ref b10), .val (.int (own_minI (p0 &&& (3 : Int32)) (2 : Int32))), .val (.int (own_minI (p1 &&& (3 : Int32)) (2 : Int32))), .val (.ref c76_0), .val .null, .val (.ref b79), .val (.ref b84), .val (.int (p2 &&& (3 : Int32))), .val .null, .val (.int (0 : Int32))] [.null, (.ref b79)])) rfl (by rw [hml]; rfl) (Steps.refl _) (argsL := [.null]) (rest := []) (lenOf pd_10 rfl) rfl (by show 2 * 0 + _ ≤ _; exact Nat.le_of_eq rfl) (hb hby at_216) (fun _ _ => ⟨rfl, he102, (by decide : 9 + 0 ≤ _), (by decide : 17 + 0 ≤ _)⟩)
                dsimp only [Pt.U, Pt.locs, Pt.cells, Pt.slots] at X103 l103 y103 z103 st103 hQ103
                subst l103 y103 z103
                obtain ⟨rfl, N103q, he103⟩ := hQ103
                have N103 := Fr.app N102 N103q
                refine OwnFin.tr st103 ?_
                show OwnFin _ _ _ _ (T103.setTop (mkF m 219 #[.val (.int p0), .val (.int p1), .val (.int p2), .val (.int ((((p0.toUInt32 >>> ((8 : Int32) &&& 31).toUInt32).toInt32) &&& (255 : Int32)).toUInt32.toUInt16.toUInt32.toInt32)), .val (.ref b1), .val (.ref b10), .val (.int (own_minI (p0 &&& (3 : Int32)) (2 : Int32))), .val (.int (own_minI (p1 &&& (3 : Int32)) (2 : Int32))), .val (.ref c76_0), .val .null, .val (.ref b79), .val (.ref b84), .val (.int (p2 &&& (3 : Int32))), .val .null, .val (.int (0 : Int32))] [(.int (0 : Int32))]))
                refine OwnFin.st (fun _ q => XS.iload X103.here hx rfl (hb hby at_219) rfl q) ?_
                show OwnFin _ _ _ _ (T103.setTop (mkF m 221 #[.val (.int p0), .val (.int p1), .val (.int p2), .val (.int ((((p0.toUInt32 >>> ((8 : Int32) &&& 31).toUInt32).toInt32) &&& (255 : Int32)).toUInt32.toUInt16.toUInt32.toInt32)), .val (.ref b1), .val (.ref b10), .val (.int (own_minI (p0 &&& (3 : Int32)) (2 : Int32))), .val (.int (own_minI (p1 &&& (3 : Int32)) (2 : Int32))), .val (.ref c76_0), .val .null, .val (.ref b79), .val (.ref b84), .val (.int (p2 &&& (3 : Int32))), .val .null, .val (.int (0 : Int32))] [(.int (0 : Int32)), (.int (0 : Int32))]))
                refine OwnFin.st (fun _ q => XS.icmpNo X103.here hx rfl (hb hby at_221) rfl (Jvm.Free.XT.ii_ne_f (rfl : (0 : Int32) = (0 : Int32))) q) ?_
                show OwnFin _ _ _ _ (T103.setTop (mkF m 224 #[.val (.int p0), .val (.int p1), .val (.int p2), .val (.int ((((p0.toUInt32 >>> ((8 : Int32) &&& 31).toUInt32).toInt32) &&& (255 : Int32)).toUInt32.toUInt16.toUInt32.toInt32)), .val (.ref b1), .val (.ref b10), .val (.int (own_minI (p0 &&& (3 : Int32)) (2 : Int32))), .val (.int (own_minI (p1 &&& (3 : Int32)) (2 : Int32))), .val (.ref c76_0), .val .null, .val (.ref b79), .val (.ref b84), .val (.int (p2 &&& (3 : Int32))), .val .null, .val (.int (0 : Int32))] []))
                refine OwnFin.st (fun _ q => XS.iconst X103.here hx rfl (hb hby at_224) q) ?_
                show OwnFin _ _ _ _ (T103.setTop (mkF m 225 #[.val (.int p0), .val (.int p1), .val (.int p2), .val (.int ((((p0.toUInt32 >>> ((8 : Int32) &&& 31).toUInt32).toInt32) &&& (255 : Int32)).toUInt32.toUInt16.toUInt32.toInt32)), .val (.ref b1), .val (.ref b10), .val (.int (own_minI (p0 &&& (3 : Int32)) (2 : Int32))), .val (.int (own_minI (p1 &&& (3 : Int32)) (2 : Int32))), .val (.ref c76_0), .val .null, .val (.ref b79), .val (.ref b84), .val (.int (p2 &&& (3 : Int32))), .val .null, .val (.int (0 : Int32))] [(.int (1 : Int32))]))
                refine OwnFin.st (fun _ q => XS.goto X103.here hx rfl (pc0 := 225) (pc' := 229) rfl (hb hby at_225) (by decide) (by decide) q) ?_
                show OwnFin _ _ _ _ (T103.setTop (mkF m 229 #[.val (.int p0), .val (.int p1), .val (.int p2), .val (.int ((((p0.toUInt32 >>> ((8 : Int32) &&& 31).toUInt32).toInt32) &&& (255 : Int32)).toUInt32.toUInt16.toUInt32.toInt32)), .val (.ref b1), .val (.ref b10), .val (.int (own_minI (p0 &&& (3 : Int32)) (2 : Int32))), .val (.int (own_minI (p1 &&& (3 : Int32)) (2 : Int32))), .val (.ref c76_0), .val .null, .val (.ref b79), .val (.ref b84), .val (.int (p2 &&& (3 : Int32))), .val .null, .val (.int (0 : Int32))] [(.int (1 : Int32))]))
                obtain ⟨fs, hr, hrun, hended, hW, hsame⟩ := X103.leave (v := some (.int (1 : Int32))) (fun h => by rw [Bd.returns] at h; cases h)
                refine ⟨_, _, retN X103 hx (t := .boolean) Bd.returns (by simp) (hb hby at_229) hr, hrun, hended, _, _, rfl, ?_, ⟨_, rfl⟩, hW, hsame.mono (by decide) (by decide)⟩
                show Q_rm0 Z p0 p1 p2 w_COMPACT_STRINGS clI w_cache h0 n0 _ T103.heap _
                rw [he103]
                exact ⟨rfl, N103⟩
          · skip
            refine OwnFin.st (fun _ q => XS.icmpYes X87.here hx rfl (pc0 := 185) (pc' := 205) rfl (hb hby at_185) rfl (Jvm.Free.XT.ii_ne_t hc95) (by decide) (by decide) q) ?_
            show OwnFin _ _ _ _ (T87.setTop (mkF m 205 #[.val (.int p0), .val (.int p1), .val (.int p2), .val (.int ((((p0.toUInt32 >>> ((8 : Int32) &&& 31).toUInt32).toInt32) &&& (255 : Int32)).toUInt32.toUInt16.toUInt32.toInt32)), .val (.ref b1), .val (.ref b10), .val (.int (own_minI (p0 &&& (3 : Int32)) (2 : Int32))), .val (.int (own_minI (p1 &&& (3 : Int32)) (2 : Int32))), .val (.ref c76_0), .val .null, .val (.ref b79), .val (.ref b84), .val (.int (p2 &&& (3 : Int32))), .unset, .unset] []))
            refine OwnFin.st (fun _ q => XS.aload X87.here hx rfl (hb hby at_205) rfl rfl q) ?_
            show OwnFin _ _ _ _ (T87.setTop (mkF m 207 #[.val (.int p0), .val (.int p1), .val (.int p2), .val (.int ((((p0.toUInt32 >>> ((8 : Int32) &&& 31).toUInt32).toInt32) &&& (255 : Int32)).toUInt32.toUInt16.toUInt32.toInt32)), .val (.ref b1), .val (.ref b10), .val (.int (own_minI (p0 &&& (3 : Int32)) (2 : Int32))), .val (.int (own_minI (p1 &&& (3 : Int32)) (2 : Int32))), .val (.ref c76_0), .val .null, .val (.ref b79), .val (.ref b84), .val (.int (p2 &&& (3 : Int32))), .unset, .unset] [(.ref b79)]))
            refine OwnFin.st (fun _ q => XS.astore X87.here hx rfl (hb hby at_207) rfl rfl (l' := #[.val (.int p0), .val (.int p1), .val (.int p2), .val (.int ((((p0.toUInt32 >>> ((8 : Int32) &&& 31).toUInt32).toInt32) &&& (255 : Int32)).toUInt32.toUInt16.toUInt32.toInt32)), .val (.ref b1), .val (.ref b10), .val (.int (own_minI (p0 &&& (3 : Int32)) (2 : Int32))), .val (.int (own_minI (p1 &&& (3 : Int32)) (2 : Int32))), .val (.ref c76_0), .val .null, .val (.ref b79), .val (.ref b84), .val (.int (p2 &&& (3 : Int32))), .val (.ref b79), .unset]) rfl q) ?_
            show OwnFin _ _ _ _ (T87.setTop (mkF m 209 #[.val (.int p0), .val (.int p1), .val (.int p2), .val (.int ((((p0.toUInt32 >>> ((8 : Int32) &&& 31).toUInt32).toInt32) &&& (255 : Int32)).toUInt32.toUInt16.toUInt32.toInt32)), .val (.ref b1), .val (.ref b10), .val (.int (own_minI (p0 &&& (3 : Int32)) (2 : Int32))), .val (.int (own_minI (p1 &&& (3 : Int32)) (2 : Int32))), .val (.ref c76_0), .val .null, .val (.ref b79), .val (.ref b84), .val (.int (p2 &&& (3 : Int32))), .val (.ref b79), .unset] []))
            refine OwnFin.st (fun _ q => XS.iconst X87.here hx rfl (hb hby at_209) q) ?_
            show OwnFin _ _ _ _ (T87.setTop (mkF m 210 #[.val (.int p0), .val (.int p1), .val (.int p2), .val (.int ((((p0.toUInt32 >>> ((8 : Int32) &&& 31).toUInt32).toInt32) &&& (255 : Int32)).toUInt32.toUInt16.toUInt32.toInt32)), .val (.ref b1), .val (.ref b10), .val (.int (own_minI (p0 &&& (3 : Int32)) (2 : Int32))), .val (.int (own_minI (p1 &&& (3 : Int32)) (2 : Int32))), .val (.ref c76_0), .val .null, .val (.ref b79), .val (.ref b84), .val (.int (p2 &&& (3 : Int32))), .val (.ref b79), .unset] [(.int (1 : Int32))]))
            refine OwnFin.st (fun _ q => XS.istore X87.here hx rfl (hb hby at_210) rfl (l' := #[.val (.int p0), .val (.int p1), .val (.int p2), .val (.int ((((p0.toUInt32 >>> ((8 : Int32) &&& 31).toUInt32).toInt32) &&& (255 : Int32)).toUInt32.toUInt16.toUInt32.toInt32)), .val (.ref b1), .val (.ref b10), .val (.int (own_minI (p0 &&& (3 : Int32)) (2 : Int32))), .val (.int (own_minI (p1 &&& (3 : Int32)) (2 : Int32))), .val (.ref c76_0), .val .null, .val (.ref b79), .val (.ref b84), .val (.int (p2 &&& (3 : Int32))), .val (.ref b79), .val (.int (1 : Int32))]) rfl q) ?_
            show OwnFin _ _ _ _ (T87.setTop (mkF m 212 #[.val (.int p0), .val (.int p1), .val (.int p2), .val (.int ((((p0.toUInt32 >>> ((8 : Int32) &&& 31).toUInt32).toInt32) &&& (255 : Int32)).toUInt32.toUInt16.toUInt32.toInt32)), .val (.ref b1), .val (.ref b10), .val (.int (own_minI (p0 &&& (3 : Int32)) (2 : Int32))), .val (.int (own_minI (p1 &&& (3 : Int32)) (2 : Int32))), .val (.ref c76_0), .val .null, .val (.ref b79), .val (.ref b84), .val (.int (p2 &&& (3 : Int32))), .val (.ref b79), .val (.int (1 : Int32))] []))
            refine OwnFin.st (fun _ q => XS.aload X87.here hx rfl (hb hby at_212) rfl rfl q) ?_
            show OwnFin _ _ _ _ (T87.setTop (mkF m 214 #[.val (.int p0), .val (.int p1), .val (.int p2), .val (.int ((((p0.toUInt32 >>> ((8 : Int32) &&& 31).toUInt32).toInt32) &&& (255 : Int32)).toUInt32.toUInt16.toUInt32.toInt32)), .val (.ref b1), .val (.ref b10), .val (.int (own_minI (p0 &&& (3 : Int32)) (2 : Int32))), .val (.int (own_minI (p1 &&& (3 : Int32)) (2 : Int32))), .val (.ref c76_0), .val .null, .val (.ref b79), .val (.ref b84), .val (.int (p2 &&& (3 : Int32))), .val (.ref b79), .val (.int (1 : Int32))] [(.ref b79)]))
            refine OwnFin.st (fun _ q => XS.aload X87.here hx rfl (hb hby at_214) rfl rfl q) ?_
            show OwnFin _ _ _ _ (T87.setTop (mkF m 216 #[.val (.int p0), .val (.int p1), .val (.int p2), .val (.int ((((p0.toUInt32 >>> ((8 : Int32) &&& 31).toUInt32).toInt32) &&& (255 : Int32)).toUInt32.toUInt16.toUInt32.toInt32)), .val (.ref b1), .val (.ref b10), .val (.int (own_minI (p0 &&& (3 : Int32)) (2 : Int32))), .val (.int (own_minI (p1 &&& (3 : Int32)) (2 : Int32))), .val (.ref c76_0), .val .null, .val (.ref b79), .val (.ref b84), .val (.int (p2 &&& (3 : Int32))), .val (.ref b79), .val (.int (1 : Int32))] [(.ref b79), (.ref b79)]))
            obtain ⟨cq104, kq104, q104a, q104b, q104c⟩ := isOf hZ e87 (((A79.keep K82).ext E84).keep K87)
            obtain ⟨_, _, ⟨T104, L104, k104, n104⟩, -, X104, ⟨Lc104, hQ104, l104, y104, z104⟩, st104⟩ := X87.virtualBack hx (y := (⟨"com/example/nepean/nepean/session/PendingKey", "equals", "(Ljava/lang/Object;)Z"⟩ : MethodName)) (z := (⟨"com/example/nepean/nepean/session/PendingKey", "equals", "(Ljava/lang/Object;)Z"⟩ : MethodName)) hown (mvT hZ (hw _ (List.mem_of_getElem? (i := 49) rfl))) (mvT hZ (hw _ (List.mem_of_getElem? (i := 50) rfl))) (notFace_of_selects (args := #[]) (mvT hZ (hw _ (List.mem_of_getElem? (i := 52) rfl)))) (mvT hZ (hw _ (List.mem_of_getElem? (i := 52) rfl))) (mvT hZ (hw _ (List.mem_of_getElem? (i := 51) rfl))) (by decide) (backOf (W := 0) (rm_eqPT l Z av0 hw [] b79 b79 (own_pick (own_minI (p0 &&& (3 : Int32)) (2 : Int32)) b1 b10) (own_pick (own_minI (p0 &&& (3 : Int32)) (2 : Int32)) b1 b10) h87 n0 (Nat.le_trans Z0 kp88.1) (((A79.keep K82).ext E84).keep K87) ((r82_0.ext E84).keep K87 (ninS (Nat.ne_of_lt (Nat.lt_of_lt_of_le (A79.keep K82).lt bi_b84)) nin0)) ((r82_0.ext E84).keep K87 (ninS (Nat.ne_of_lt (Nat.lt_of_lt_of_le (A79.keep K82).lt bi_b84)) nin0)) (rfl : (own_pick (own_minI (p0 &&& (3 : Int32)) (2 : Int32)) b1 b10) = (own_pick (own_minI (p0 &&& (3 : Int32)) (2 : Int32)) b1 b10)) (own_pickr _ _ _) (own_pickr _ _ _)) hZ (hw _ (List.mem_of_getElem? (i := 53) rfl)) (hw _ (List.mem_of_getElem? (i := 36) rfl)) (by decide) (by decide)) q104a q104c (g := (mkF m 216 #[.val (.int p0), .val (.int p1), .val (.int p2), .val (.int ((((p0.toUInt32 >>> ((8 : Int32) &&& 31).toUInt32).toInt32) &&& (255 : Int32)).toUInt32.toUInt16.toUInt32.toInt32)), .val (.ref b1), .val (.ref b10), .val (.int (own_minI (p0 &&& (3 : Int32)) (2 : Int32))), .val (.int (own_minI (p1 &&& (3 : Int32)) (2 : Int32))), .val (.ref c76_0), .val .null, .val (.ref b79), .val (.ref b84), .val (.int (p2 &&& (3 : Int32))), .val (.ref b79), .val (.int (1 : Int32))] [(.ref b79), (.ref b79)])) rfl (by rw [hml]; rfl) (Steps.refl _) (argsL := [(.ref b79)]) (rest := []) (lenOf pd_10 rfl) rfl (by show 2 * 0 + _ ≤ _; exact Nat.le_of_eq rfl) (hb hby at_216) (fun _ _ => ⟨rfl, e87, (by decide : 9 + 0 ≤ _), (by decide : 17 + 0 ≤ _)⟩)
            dsimp only [Pt.U, Pt.locs, Pt.cells, Pt.slots] at X104 l104 y104 z104 st104 hQ104
            subst l104 y104 z104
            obtain ⟨rfl, N104q, he104⟩ := hQ104
            have N104 := Fr.app N87 N104q
            refine OwnFin.tr st104 ?_
            show OwnFin _ _ _ _ (T104.setTop (mkF m 219 #[.val (.int p0), .val (.int p1), .val (.int p2), .val (.int ((((p0.toUInt32 >>> ((8 : Int32) &&& 31).toUInt32).toInt32) &&& (255 : Int32)).toUInt32.toUInt16.toUInt32.toInt32)), .val (.ref b1), .val (.ref b10), .val (.int (own_minI (p0 &&& (3 : Int32)) (2 : Int32))), .val (.int (own_minI (p1 &&& (3 : Int32)) (2 : Int32))), .val (.ref c76_0), .val .null, .val (.ref b79), .val (.ref b84), .val (.int (p2 &&& (3 : Int32))), .val (.ref b79), .val (.int (1 : Int32))] [(.int (1 : Int32))]))
            refine OwnFin.st (fun _ q => XS.iload X104.here hx rfl (hb hby at_219) rfl q) ?_
            show OwnFin _ _ _ _ (T104.setTop (mkF m 221 #[.val (.int p0), .val (.int p1), .val (.int p2), .val (.int ((((p0.toUInt32 >>> ((8 : Int32) &&& 31).toUInt32).toInt32) &&& (255 : Int32)).toUInt32.toUInt16.toUInt32.toInt32)), .val (.ref b1), .val (.ref b10), .val (.int (own_minI (p0 &&& (3 : Int32)) (2 : Int32))), .val (.int (own_minI (p1 &&& (3 : Int32)) (2 : Int32))), .val (.ref c76_0), .val .null, .val (.ref b79), .val (.ref b84), .val (.int (p2 &&& (3 : Int32))), .val (.ref b79), .val (.int (1 : Int32))] [(.int (1 : Int32)), (.int (1 : Int32))]))
            refine OwnFin.st (fun _ q => XS.icmpNo X104.here hx rfl (hb hby at_221) rfl (Jvm.Free.XT.ii_ne_f (rfl : (1 : Int32) = (1 : Int32))) q) ?_
            show OwnFin _ _ _ _ (T104.setTop (mkF m 224 #[.val (.int p0), .val (.int p1), .val (.int p2), .val (.int ((((p0.toUInt32 >>> ((8 : Int32) &&& 31).toUInt32).toInt32) &&& (255 : Int32)).toUInt32.toUInt16.toUInt32.toInt32)), .val (.ref b1), .val (.ref b10), .val (.int (own_minI (p0 &&& (3 : Int32)) (2 : Int32))), .val (.int (own_minI (p1 &&& (3 : Int32)) (2 : Int32))), .val (.ref c76_0), .val .null, .val (.ref b79), .val (.ref b84), .val (.int (p2 &&& (3 : Int32))), .val (.ref b79), .val (.int (1 : Int32))] []))
            refine OwnFin.st (fun _ q => XS.iconst X104.here hx rfl (hb hby at_224) q) ?_
            show OwnFin _ _ _ _ (T104.setTop (mkF m 225 #[.val (.int p0), .val (.int p1), .val (.int p2), .val (.int ((((p0.toUInt32 >>> ((8 : Int32) &&& 31).toUInt32).toInt32) &&& (255 : Int32)).toUInt32.toUInt16.toUInt32.toInt32)), .val (.ref b1), .val (.ref b10), .val (.int (own_minI (p0 &&& (3 : Int32)) (2 : Int32))), .val (.int (own_minI (p1 &&& (3 : Int32)) (2 : Int32))), .val (.ref c76_0), .val .null, .val (.ref b79), .val (.ref b84), .val (.int (p2 &&& (3 : Int32))), .val (.ref b79), .val (.int (1 : Int32))] [(.int (1 : Int32))]))
            refine OwnFin.st (fun _ q => XS.goto X104.here hx rfl (pc0 := 225) (pc' := 229) rfl (hb hby at_225) (by decide) (by decide) q) ?_
            show OwnFin _ _ _ _ (T104.setTop (mkF m 229 #[.val (.int p0), .val (.int p1), .val (.int p2), .val (.int ((((p0.toUInt32 >>> ((8 : Int32) &&& 31).toUInt32).toInt32) &&& (255 : Int32)).toUInt32.toUInt16.toUInt32.toInt32)), .val (.ref b1), .val (.ref b10), .val (.int (own_minI (p0 &&& (3 : Int32)) (2 : Int32))), .val (.int (own_minI (p1 &&& (3 : Int32)) (2 : Int32))), .val (.ref c76_0), .val .null, .val (.ref b79), .val (.ref b84), .val (.int (p2 &&& (3 : Int32))), .val (.ref b79), .val (.int (1 : Int32))] [(.int (1 : Int32))]))
            obtain ⟨fs, hr, hrun, hended, hW, hsame⟩ := X104.leave (v := some (.int (1 : Int32))) (fun h => by rw [Bd.returns] at h; cases h)
            refine ⟨_, _, retN X104 hx (t := .boolean) Bd.returns (by simp) (hb hby at_229) hr, hrun, hended, _, _, rfl, ?_, ⟨_, rfl⟩, hW, hsame.mono (by decide) (by decide)⟩
            show Q_rm0 Z p0 p1 p2 w_COMPACT_STRINGS clI w_cache h0 n0 _ T104.heap _
            rw [he104]
            exact ⟨rfl, N104⟩
    · skip
      refine OwnFin.st (fun _ q => XS.ifNo X76.here hx rfl (hb hby at_83) rfl (Jvm.Free.XT.i0_eq_f hc78) q) ?_
      show OwnFin _ _ _ _ (T76.setTop (mkF m 86 #[.val (.int p0), .val (.int p1), .val (.int p2), .val (.int ((((p0.toUInt32 >>> ((8 : Int32) &&& 31).toUInt32).toInt32) &&& (255 : Int32)).toUInt32.toUInt16.toUInt32.toInt32)), .val (.ref b1), .val (.ref b10), .val (.int (own_minI (p0 &&& (3 : Int32)) (2 : Int32))), .val (.int (own_minI (p1 &&& (3 : Int32)) (2 : Int32))), .val (.ref c76_0), .unset, .unset, .unset, .unset, .unset, .unset] []))
      refine OwnFin.st (fun _ q => XS.iloadN X76.here hx rfl (hb hby at_86) rfl q) ?_
      show OwnFin _ _ _ _ (T76.setTop (mkF m 87 #[.val (.int p0), .val (.int p1), .val (.int p2), .val (.int ((((p0.toUInt32 >>> ((8 : Int32) &&& 31).toUInt32).toInt32) &&& (255 : Int32)).toUInt32.toUInt16.toUInt32.toInt32)), .val (.ref b1), .val (.ref b10), .val (.int (own_minI (p0 &&& (3 : Int32)) (2 : Int32))), .val (.int (own_minI (p1 &&& (3 : Int32)) (2 : Int32))), .val (.ref c76_0), .unset, .unset, .unset, .unset, .unset, .unset] [(.int p2)]))
      obtain ⟨_, _, ⟨T105, L105, k105, n105⟩, -, X105, ⟨Lc105, hQ105, l105, y105, z105⟩, st105⟩ := Jvm.LawKit.callS X76 hx (y := (⟨"java/lang/Integer", "valueOf", "(I)Ljava/lang/Integer;"⟩ : MethodName)) hown (mvT hZ (hw _ (List.mem_of_getElem? (i := 57) rfl))) (mvT hZ (hw _ (List.mem_of_getElem? (i := 58) rfl))) (mvT hZ (hw _ (List.mem_of_getElem? (i := 59) rfl))) (mvT hZ (hw _ (List.mem_of_getElem? (i := 60) rfl))) (by decide) (backOf (W := 0) (rm_valueOf l Z av0 hw [] p2 w_cache clI h76 n0 (Nat.le_trans Z0 kp77.1) ol77 BxI S_high S_cache) hZ (hw _ (List.mem_of_getElem? (i := 60) rfl)) (hw _ (List.mem_of_getElem? (i := 59) rfl)) (by decide) (by decide)) (g := (mkF m 87 #[.val (.int p0), .val (.int p1), .val (.int p2), .val (.int ((((p0.toUInt32 >>> ((8 : Int32) &&& 31).toUInt32).toInt32) &&& (255 : Int32)).toUInt32.toUInt16.toUInt32.toInt32)), .val (.ref b1), .val (.ref b10), .val (.int (own_minI (p0 &&& (3 : Int32)) (2 : Int32))), .val (.int (own_minI (p1 &&& (3 : Int32)) (2 : Int32))), .val (.ref c76_0), .unset, .unset, .unset, .unset, .unset, .unset] [(.int p2)])) rfl (by rw [hml]; rfl) (argsL := [(.int p2)]) (rest := []) (lenOf pd_11 rfl) rfl (by show 2 * 0 + _ ≤ _; exact Nat.le_of_eq rfl) (hb hby at_87) (fun _ _ => ⟨rfl, e76, (by decide : 7 + 1 ≤ _), (by decide : 13 + 1 ≤ _)⟩)
      dsimp only [Pt.U, Pt.locs, Pt.cells, Pt.slots] at X105 l105 y105 z105 st105 hQ105
      subst l105 y105 z105
      obtain ⟨c105_0, rfl, N105q, K105⟩ := hQ105
      have N105 := Fr.app N76 N105q
      refine OwnFin.st st105 ?_
      obtain ⟨h105, e105⟩ : ∃ z, T105.heap = z := ⟨_, rfl⟩
      rw [e105] at K105
      have kp106 : Keep h0 h105 [] := kp77.trans K105 all0
      have ol106 : Old Z n0 h105 := ol77.keep K105 all0
      show OwnFin _ _ _ _ (T105.setTop (mkF m 90 #[.val (.int p0), .val (.int p1), .val (.int p2), .val (.int ((((p0.toUInt32 >>> ((8 : Int32) &&& 31).toUInt32).toInt32) &&& (255 : Int32)).toUInt32.toUInt16.toUInt32.toInt32)), .val (.ref b1), .val (.ref b10), .val (.int (own_minI (p0 &&& (3 : Int32)) (2 : Int32))), .val (.int (own_minI (p1 &&& (3 : Int32)) (2 : Int32))), .val (.ref c76_0), .unset, .unset, .unset, .unset, .unset, .unset] [(.ref c105_0)]))
      refine OwnFin.st (fun _ q => XS.goto X105.here hx rfl (pc0 := 90) (pc' := 94) rfl (hb hby at_90) (by decide) (by decide) q) ?_
      show OwnFin _ _ _ _ (T105.setTop (mkF m 94 #[.val (.int p0), .val (.int p1), .val (.int p2), .val (.int ((((p0.toUInt32 >>> ((8 : Int32) &&& 31).toUInt32).toInt32) &&& (255 : Int32)).toUInt32.toUInt16.toUInt32.toInt32)), .val (.ref b1), .val (.ref b10), .val (.int (own_minI (p0 &&& (3 : Int32)) (2 : Int32))), .val (.int (own_minI (p1 &&& (3 : Int32)) (2 : Int32))), .val (.ref c76_0), .unset, .unset, .unset, .unset, .unset, .unset] [(.ref c105_0)]))
      refine OwnFin.st (fun _ q => XS.astore X105.here hx rfl (hb hby at_94) rfl rfl (l' := #[.val (.int p0), .val (.int p1), .val (.int p2), .val (.int ((((p0.toUInt32 >>> ((8 : Int32) &&& 31).toUInt32).toInt32) &&& (255 : Int32)).toUInt32.toUInt16.toUInt32.toInt32)), .val (.ref b1), .val (.ref b10), .val (.int (own_minI (p0 &&& (3 : Int32)) (2 : Int32))), .val (.int (own_minI (p1 &&& (3 : Int32)) (2 : Int32))), .val (.ref c76_0), .val (.ref c105_0), .unset, .unset, .unset, .unset, .unset]) rfl q) ?_
      show OwnFin _ _ _ _ (T105.setTop (mkF m 96 #[.val (.int p0), .val (.int p1), .val (.int p2), .val (.int ((((p0.toUInt32 >>> ((8 : Int32) &&& 31).toUInt32).toInt32) &&& (255 : Int32)).toUInt32.toUInt16.toUInt32.toInt32)), .val (.ref b1), .val (.ref b10), .val (.int (own_minI (p0 &&& (3 : Int32)) (2 : Int32))), .val (.int (own_minI (p1 &&& (3 : Int32)) (2 : Int32))), .val (.ref c76_0), .val (.ref c105_0), .unset, .unset, .unset, .unset, .unset] []))
      obtain ⟨T107, h107, X107, e107, E107, A107, D107, -, st107⟩ := newO X105 hx hZ hown (hw _ (List.mem_of_getElem? (i := 34) rfl)) (hw _ (List.mem_of_getElem? (i := 35) rfl)) (hw _ (List.mem_of_getElem? (i := 36) rfl)) e105 (g := (mkF m 96 #[.val (.int p0), .val (.int p1), .val (.int p2), .val (.int ((((p0.toUInt32 >>> ((8 : Int32) &&& 31).toUInt32).toInt32) &&& (255 : Int32)).toUInt32.toUInt16.toUInt32.toInt32)), .val (.ref b1), .val (.ref b10), .val (.int (own_minI (p0 &&& (3 : Int32)) (2 : Int32))), .val (.int (own_minI (p1 &&& (3 : Int32)) (2 : Int32))), .val (.ref c76_0), .val (.ref c105_0), .unset, .unset, .unset, .unset, .unset] [])) rfl (hb hby at_96) (by decide) (by decide)
      obtain ⟨b107, qe107⟩ : ∃ z, z = h105.size := ⟨_, rfl⟩
      rw [← qe107] at A107 D107 st107
      refine OwnFin.st st107 ?_
      have bi_b107 : h105.size ≤ b107 := Nat.le_of_eq qe107.symm
      have lo_b107 : h0.size ≤ b107 := Nat.le_trans kp106.1 bi_b107
      have g_b107 : n0 ≤ b107 := Nat.le_trans Z0 lo_b107
      have kp108 : Keep h0 h107 [] := kp106.ext E107
      have ol108 : Old Z n0 h107 := ol106.ext E107
      have F_entity_b107 : Fld Z h107 b107 "com/example/nepean/nepean/session/PendingKey" "entity" "Ljava/lang/Object;" .null := D107 (Or.inr (hw _ (List.mem_of_getElem? (i := 46) rfl))) (ty := (.object "java/lang/Object")) (by decide)
      have F_id_b107 : Fld Z h107 b107 "com/example/nepean/nepean/session/PendingKey" "id" "Ljava/lang/Object;" .null := D107 (Or.inr (hw _ (List.mem_of_getElem? (i := 48) rfl))) (ty := (.object "java/lang/Object")) (by decide)
      show OwnFin _ _ _ _ (T107.setTop (mkF m 99 #[.val (.int p0), .val (.int p1), .val (.int p2), .val (.int ((((p0.toUInt32 >>> ((8 : Int32) &&& 31).toUInt32).toInt32) &&& (255 : Int32)).toUInt32.toUInt16.toUInt32.toInt32)), .val (.ref b1), .val (.ref b10), .val (.int (own_minI (p0 &&& (3 : Int32)) (2 : Int32))), .val (.int (own_minI (p1 &&& (3 : Int32)) (2 : Int32))), .val (.ref c76_0), .val (.ref c105_0), .unset, .unset, .unset, .unset, .unset] [(.ref b107)]))
      refine OwnFin.st (fun _ q => XS.dup X107.here hx rfl (hb hby at_99) rfl rfl q) ?_
      show OwnFin _ _ _ _ (T107.setTop (mkF m 100 #[.val (.int p0), .val (.int p1), .val (.int p2), .val (.int ((((p0.toUInt32 >>> ((8 : Int32) &&& 31).toUInt32).toInt32) &&& (255 : Int32)).toUInt32.toUInt16.toUInt32.toInt32)), .val (.ref b1), .val (.ref b10), .val (.int (own_minI (p0 &&& (3 : Int32)) (2 : Int32))), .val (.int (own_minI (p1 &&& (3 : Int32)) (2 : Int32))), .val (.ref c76_0), .val (.ref c105_0), .unset, .unset, .unset, .unset, .unset] [(.ref b107), (.ref b107)]))
      refine OwnFin.st (fun _ q => XS.iload X107.here hx rfl (hb hby at_100) rfl q) ?_
      show OwnFin _ _ _ _ (T107.setTop (mkF m 102 #[.val (.int p0), .val (.int p1), .val (.int p2), .val (.int ((((p0.toUInt32 >>> ((8 : Int32) &&& 31).toUInt32).toInt32) &&& (255 : Int32)).toUInt32.toUInt16.toUInt32.toInt32)), .val (.ref b1), .val (.ref b10), .val (.int (own_minI (p0 &&& (3 : Int32)) (2 : Int32))), .val (.int (own_minI (p1 &&& (3 : Int32)) (2 : Int32))), .val (.ref c76_0), .val (.ref c105_0), .unset, .unset, .unset, .unset, .unset] [(.int (own_minI (p0 &&& (3 : Int32)) (2 : Int32))), (.ref b107), (.ref b107)]))
      refine OwnFin.st (fun _ q => XS.aload X107.here hx rfl (hb hby at_102) rfl rfl q) ?_
      show OwnFin _ _ _ _ (T107.setTop (mkF m 104 #[.val (.int p0), .val (.int p1), .val (.int p2), .val (.int ((((p0.toUInt32 >>> ((8 : Int32) &&& 31).toUInt32).toInt32) &&& (255 : Int32)).toUInt32.toUInt16.toUInt32.toInt32)), .val (.ref b1), .val (.ref b10), .val (.int (own_minI (p0 &&& (3 : Int32)) (2 : Int32))), .val (.int (own_minI (p1 &&& (3 : Int32)) (2 : Int32))), .val (.ref c76_0), .val (.ref c105_0), .unset, .unset, .unset, .unset, .unset] [(.ref b1), (.int (own_minI (p0 &&& (3 : Int32)) (2 : Int32))), (.ref b107), (.ref b107)]))
      refine OwnFin.st (fun _ q => XS.aload X107.here hx rfl (hb hby at_104) rfl rfl q) ?_
      show OwnFin _ _ _ _ (T107.setTop (mkF m 106 #[.val (.int p0), .val (.int p1), .val (.int p2), .val (.int ((((p0.toUInt32 >>> ((8 : Int32) &&& 31).toUInt32).toInt32) &&& (255 : Int32)).toUInt32.toUInt16.toUInt32.toInt32)), .val (.ref b1), .val (.ref b10), .val (.int (own_minI (p0 &&& (3 : Int32)) (2 : Int32))), .val (.int (own_minI (p1 &&& (3 : Int32)) (2 : Int32))), .val (.ref c76_0), .val (.ref c105_0), .unset, .unset, .unset, .unset, .unset] [(.ref b10), (.ref b1), (.int (own_minI (p0 &&& (3 : Int32)) (2 : Int32))), (.ref b107), (.ref b107)]))
      obtain ⟨_, _, ⟨T109, L109, k109, n109⟩, -, X109, ⟨Lc109, hQ109, l109, y109, z109⟩, st109⟩ := Jvm.LawKit.callS X107 hx (y := (⟨"com/example/nepean/nepean/session/PendingKeyEqualsPinLaw", "pick", "(ILjava/lang/Object;Ljava/lang/Object;)Ljava/lang/Object;"⟩ : MethodName)) hown (mvT hZ (hw _ (List.mem_of_getElem? (i := 37) rfl))) (mvT hZ (hw _ (List.mem_of_getElem? (i := 38) rfl))) (mvT hZ (hw _ (List.mem_of_getElem? (i := 39) rfl))) (mvT hZ (hw _ (List.mem_of_getElem? (i := 40) rfl))) (by decide) (backOf (W := 2) (rm_pick l Z av0 hw [] (own_minI (p0 &&& (3 : Int32)) (2 : Int32)) b1 b10 h107 n0 (Nat.le_trans Z0 kp108.1) ) hZ (hw _ (List.mem_of_getElem? (i := 40) rfl)) (hw _ (List.mem_of_getElem? (i := 39) rfl)) (by decide) (by decide)) (g := (mkF m 106 #[.val (.int p0), .val (.int p1), .val (.int p2), .val (.int ((((p0.toUInt32 >>> ((8 : Int32) &&& 31).toUInt32).toInt32) &&& (255 : Int32)).toUInt32.toUInt16.toUInt32.toInt32)), .val (.ref b1), .val (.ref b10), .val (.int (own_minI (p0 &&& (3 : Int32)) (2 : Int32))), .val (.int (own_minI (p1 &&& (3 : Int32)) (2 : Int32))), .val (.ref c76_0), .val (.ref c105_0), .unset, .unset, .unset, .unset, .unset] [(.ref b10), (.ref b1), (.int (own_minI (p0 &&& (3 : Int32)) (2 : Int32))), (.ref b107), (.ref b107)])) rfl (by rw [hml]; rfl) (argsL := [(.int (own_minI (p0 &&& (3 : Int32)) (2 : Int32))), (.ref b1), (.ref b10)]) (rest := [(.ref b107), (.ref b107)]) (lenOf pd_8 rfl) rfl (by show 2 * 0 + _ ≤ _; exact Nat.le_of_eq rfl) (hb hby at_106) (fun _ _ => ⟨rfl, e107, (by decide : 9 + 0 ≤ _), (by decide : 16 + 0 ≤ _)⟩)
      dsimp only [Pt.U, Pt.locs, Pt.cells, Pt.slots] at X109 l109 y109 z109 st109 hQ109
      subst l109 y109 z109
      obtain ⟨rfl, N109q, he109⟩ := hQ109
      have N109 := Fr.app N105 N109q
      refine OwnFin.st st109 ?_
      show OwnFin _ _ _ _ (T109.setTop (mkF m 109 #[.val (.int p0), .val (.int p1), .val (.int p2), .val (.int ((((p0.toUInt32 >>> ((8 : Int32) &&& 31).toUInt32).toInt32) &&& (255 : Int32)).toUInt32.toUInt16.toUInt32.toInt32)), .val (.ref b1), .val (.ref b10), .val (.int (own_minI (p0 &&& (3 : Int32)) (2 : Int32))), .val (.int (own_minI (p1 &&& (3 : Int32)) (2 : Int32))), .val (.ref c76_0), .val (.ref c105_0), .unset, .unset, .unset, .unset, .unset] [(own_pick (own_minI (p0 &&& (3 : Int32)) (2 : Int32)) b1 b10), (.ref b107), (.ref b107)]))
      refine OwnFin.st (fun _ q => XS.aload X109.here hx rfl (hb hby at_109) rfl rfl q) ?_
      show OwnFin _ _ _ _ (T109.setTop (mkF m 111 #[.val (.int p0), .val (.int p1), .val (.int p2), .val (.int ((((p0.toUInt32 >>> ((8 : Int32) &&& 31).toUInt32).toInt32) &&& (255 : Int32)).toUInt32.toUInt16.toUInt32.toInt32)), .val (.ref b1), .val (.ref b10), .val (.int (own_minI (p0 &&& (3 : Int32)) (2 : Int32))), .val (.int (own_minI (p1 &&& (3 : Int32)) (2 : Int32))), .val (.ref c76_0), .val (.ref c105_0), .unset, .unset, .unset, .unset, .unset] [(.ref c76_0), (own_pick (own_minI (p0 &&& (3 : Int32)) (2 : Int32)) b1 b10), (.ref b107), (.ref b107)]))
      obtain ⟨_, _, ⟨T110, L110, k110, n110⟩, -, X110, ⟨Lc110, hQ110, l110, y110, z110⟩, st110⟩ := X109.specialBack hx (y := (⟨"com/example/nepean/nepean/session/PendingKey", "<init>", "(Ljava/lang/Object;Ljava/lang/Object;)V"⟩ : MethodName)) rfl hown (mvT hZ (hw _ (List.mem_of_getElem? (i := 41) rfl))) (mvT hZ (hw _ (List.mem_of_getElem? (i := 42) rfl))) (mvT hZ (hw _ (List.mem_of_getElem? (i := 43) rfl))) (by decide) (backOf (W := 1) (rm_pk l Z av0 hw [] b107 (own_pick (own_minI (p0 &&& (3 : Int32)) (2 : Int32)) b1 b10) c76_0 .null .null h107 n0 (Nat.le_trans Z0 kp108.1) (own_pickr _ _ _) A107 F_entity_b107 g_b107 F_id_b107) hZ (hw _ (List.mem_of_getElem? (i := 43) rfl)) (hw _ (List.mem_of_getElem? (i := 36) rfl)) (by decide) (by decide)) (g := (mkF m 111 #[.val (.int p0), .val (.int p1), .val (.int p2), .val (.int ((((p0.toUInt32 >>> ((8 : Int32) &&& 31).toUInt32).toInt32) &&& (255 : Int32)).toUInt32.toUInt16.toUInt32.toInt32)), .val (.ref b1), .val (.ref b10), .val (.int (own_minI (p0 &&& (3 : Int32)) (2 : Int32))), .val (.int (own_minI (p1 &&& (3 : Int32)) (2 : Int32))), .val (.ref c76_0), .val (.ref c105_0), .unset, .unset, .unset, .unset, .unset] [(.ref c76_0), (own_pick (own_minI (p0 &&& (3 : Int32)) (2 : Int32)) b1 b10), (.ref b107), (.ref b107)])) rfl (by rw [hml]; rfl) (Steps.refl _) (a := b107) (argsL := [(own_pick (own_minI (p0 &&& (3 : Int32)) (2 : Int32)) b1 b10), (.ref c76_0)]) (rest := [(.ref b107)]) (lenOf pd_9 rfl) rfl (by show 2 * 0 + _ ≤ _; exact Nat.le_of_eq rfl) (hb hby at_111) (fun _ _ => ⟨rfl, he109, (by decide : 9 + 0 ≤ _), (by decide : 16 + 0 ≤ _)⟩)
      dsimp only [Pt.U, Pt.locs, Pt.cells, Pt.slots] at X110 l110 y110 z110 st110 hQ110
      subst l110 y110 z110
      obtain ⟨rfl, N110q, K110, r110_0, r110_1⟩ := hQ110
      have N110 := Fr.app N109 N110q
      refine OwnFin.tr st110 ?_
      obtain ⟨h110, e110⟩ : ∃ z, T110.heap = z := ⟨_, rfl⟩
      rw [e110] at K110 r110_0 r110_1
      have kp111 : Keep h0 h110 [] := kp108.trans K110 (allS (Or.inr lo_b107) all0)
      have ol111 : Old Z n0 h110 := ol108.keep K110 (allS g_b107 all0)
      show OwnFin _ _ _ _ (T110.setTop (mkF m 114 #[.val (.int p0), .val (.int p1), .val (.int p2), .val (.int ((((p0.toUInt32 >>> ((8 : Int32) &&& 31).toUInt32).toInt32) &&& (255 : Int32)).toUInt32.toUInt16.toUInt32.toInt32)), .val (.ref b1), .val (.ref b10), .val (.int (own_minI (p0 &&& (3 : Int32)) (2 : Int32))), .val (.int (own_minI (p1 &&& (3 : Int32)) (2 : Int32))), .val (.ref c76_0), .val (.ref c105_0), .unset, .unset, .unset, .unset, .unset] [(.ref b107)]))
      refine OwnFin.st (fun _ q => XS.astore X110.here hx rfl (hb hby at_114) rfl rfl (l' := #[.val (.int p0), .val (.int p1), .val (.int p2), .val (.int ((((p0.toUInt32 >>> ((8 : Int32) &&& 31).toUInt32).toInt32) &&& (255 : Int32)).toUInt32.toUInt16.toUInt32.toInt32)), .val (.ref b1), .val (.ref b10), .val (.int (own_minI (p0 &&& (3 : Int32)) (2 : Int32))), .val (.int (own_minI (p1 &&& (3 : Int32)) (2 : Int32))), .val (.ref c76_0), .val (.ref c105_0), .val (.ref b107), .unset, .unset, .unset, .unset]) rfl q) ?_
      show OwnFin _ _ _ _ (T110.setTop (mkF m 116 #[.val (.int p0), .val (.int p1), .val (.int p2), .val (.int ((((p0.toUInt32 >>> ((8 : Int32) &&& 31).toUInt32).toInt32) &&& (255 : Int32)).toUInt32.toUInt16.toUInt32.toInt32)), .val (.ref b1), .val (.ref b10), .val (.int (own_minI (p0 &&& (3 : Int32)) (2 : Int32))), .val (.int (own_minI (p1 &&& (3 : Int32)) (2 : Int32))), .val (.ref c76_0), .val (.ref c105_0), .val (.ref b107), .unset, .unset, .unset, .unset] []))
      obtain ⟨T112, h112, X112, e112, E112, A112, D112, -, st112⟩ := newO X110 hx hZ hown (hw _ (List.mem_of_getElem? (i := 34) rfl)) (hw _ (List.mem_of_getElem? (i := 35) rfl)) (hw _ (List.mem_of_getElem? (i := 36) rfl)) e110 (g := (mkF m 116 #[.val (.int p0), .val (.int p1), .val (.int p2), .val (.int ((((p0.toUInt32 >>> ((8 : Int32) &&& 31).toUInt32).toInt32) &&& (255 : Int32)).toUInt32.toUInt16.toUInt32.toInt32)), .val (.ref b1), .val (.ref b10), .val (.int (own_minI (p0 &&& (3 : Int32)) (2 : Int32))), .val (.int (own_minI (p1 &&& (3 : Int32)) (2 : Int32))), .val (.ref c76_0), .val (.ref c105_0), .val (.ref b107), .unset, .unset, .unset, .unset] [])) rfl (hb hby at_116) (by decide) (by decide)
      obtain ⟨b112, qe112⟩ : ∃ z, z = h110.size := ⟨_, rfl⟩
      rw [← qe112] at A112 D112 st112
      refine OwnFin.st st112 ?_
      have bi_b112 : h110.size ≤ b112 := Nat.le_of_eq qe112.symm
      have lo_b112 : h0.size ≤ b112 := Nat.le_trans kp111.1 bi_b112
      have g_b112 : n0 ≤ b112 := Nat.le_trans Z0 lo_b112
      have kp113 : Keep h0 h112 [] := kp111.ext E112
      have ol113 : Old Z n0 h112 := ol111.ext E112
      have F_entity_b112 : Fld Z h112 b112 "com/example/nepean/nepean/session/PendingKey" "entity" "Ljava/lang/Object;" .null := D112 (Or.inr (hw _ (List.mem_of_getElem? (i := 46) rfl))) (ty := (.object "java/lang/Object")) (by decide)
      have F_id_b112 : Fld Z h112 b112 "com/example/nepean/nepean/session/PendingKey" "id" "Ljava/lang/Object;" .null := D112 (Or.inr (hw _ (List.mem_of_getElem? (i := 48) rfl))) (ty := (.object "java/lang/Object")) (by decide)
      show OwnFin _ _ _ _ (T112.setTop (mkF m 119 #[.val (.int p0), .val (.int p1), .val (.int p2), .val (.int ((((p0.toUInt32 >>> ((8 : Int32) &&& 31).toUInt32).toInt32) &&& (255 : Int32)).toUInt32.toUInt16.toUInt32.toInt32)), .val (.ref b1), .val (.ref b10), .val (.int (own_minI (p0 &&& (3 : Int32)) (2 : Int32))), .val (.int (own_minI (p1 &&& (3 : Int32)) (2 : Int32))), .val (.ref c76_0), .val (.ref c105_0), .val (.ref b107), .unset, .unset, .unset, .unset] [(.ref b112)]))
      refine OwnFin.st (fun _ q => XS.dup X112.here hx rfl (hb hby at_119) rfl rfl q) ?_
      show OwnFin _ _ _ _ (T112.setTop (mkF m 120 #[.val (.int p0), .val (.int p1), .val (.int p2), .val (.int ((((p0.toUInt32 >>> ((8 : Int32) &&& 31).toUInt32).toInt32) &&& (255 : Int32)).toUInt32.toUInt16.toUInt32.toInt32)), .val (.ref b1), .val (.ref b10), .val (.int (own_minI (p0 &&& (3 : Int32)) (2 : Int32))), .val (.int (own_minI (p1 &&& (3 : Int32)) (2 : Int32))), .val (.ref c76_0), .val (.ref c105_0), .val (.ref b107), .unset, .unset, .unset, .unset] [(.ref b112), (.ref b112)]))
      refine OwnFin.st (fun _ q => XS.iload X112.here hx rfl (hb hby at_120) rfl q) ?_
      show OwnFin _ _ _ _ (T112.setTop (mkF m 122 #[.val (.int p0), .val (.int p1), .val (.int p2), .val (.int ((((p0.toUInt32 >>> ((8 : Int32) &&& 31).toUInt32).toInt32) &&& (255 : Int32)).toUInt32.toUInt16.toUInt32.toInt32)), .val (.ref b1), .val (.ref b10), .val (.int (own_minI (p0 &&& (3 : Int32)) (2 : Int32))), .val (.int (own_minI (p1 &&& (3 : Int32)) (2 : Int32))), .val (.ref c76_0), .val (.ref c105_0), .val (.ref b107), .unset, .unset, .unset, .unset] [(.int (own_minI (p1 &&& (3 : Int32)) (2 : Int32))), (.ref b112), (.ref b112)]))
      refine OwnFin.st (fun _ q => XS.aload X112.here hx rfl (hb hby at_122) rfl rfl q) ?_
      show OwnFin _ _ _ _ (T112.setTop (mkF m 124 #[.val (.int p0), .val (.int p1), .val (.int p2), .val (.int ((((p0.toUInt32 >>> ((8 : Int32) &&& 31).toUInt32).toInt32) &&& (255 : Int32)).toUInt32.toUInt16.toUInt32.toInt32)), .val (.ref b1), .val (.ref b10), .val (.int (own_minI (p0 &&& (3 : Int32)) (2 : Int32))), .val (.int (own_minI (p1 &&& (3 : Int32)) (2 : Int32))), .val (.ref c76_0), .val (.ref c105_0), .val (.ref b107), .unset, .unset, .unset, .unset] [(.ref b1), (.int (own_minI (p1 &&& (3 : Int32)) (2 : Int32))), (.ref b112), (.ref b112)]))
      refine OwnFin.st (fun _ q => XS.aload X112.here hx rfl (hb hby at_124) rfl rfl q) ?_
      show OwnFin _ _ _ _ (T112.setTop (mkF m 126 #[.val (.int p0), .val (.int p1), .val (.int p2), .val (.int ((((p0.toUInt32 >>> ((8 : Int32) &&& 31).toUInt32).toInt32) &&& (255 : Int32)).toUInt32.toUInt16.toUInt32.toInt32)), .val (.ref b1), .val (.ref b10), .val (.int (own_minI (p0 &&& (3 : Int32)) (2 : Int32))), .val (.int (own_minI (p1 &&& (3 : Int32)) (2 : Int32))), .val (.ref c76_0), .val (.ref c105_0), .val (.ref b107), .unset, .unset, .unset, .unset] [(.ref b10), (.ref b1), (.int (own_minI (p1 &&& (3 : Int32)) (2 : Int32))), (.ref b112), (.ref b112)]))
      obtain ⟨_, _, ⟨T114, L114, k114, n114⟩, -, X114, ⟨Lc114, hQ114, l114, y114, z114⟩, st114⟩ := Jvm.LawKit.callS X112 hx (y := (⟨"com/example/nepean/nepean/session/PendingKeyEqualsPinLaw", "pick", "(ILjava/lang/Object;Ljava/lang/Object;)Ljava/lang/Object;"⟩ : MethodName)) hown (mvT hZ (hw _ (List.mem_of_getElem? (i := 37) rfl))) (mvT hZ (hw _ (List.mem_of_getElem? (i := 38) rfl))) (mvT hZ (hw _ (List.mem_of_getElem? (i := 39) rfl))) (mvT hZ (hw _ (List.mem_of_getElem? (i := 40) rfl))) (by decide) (backOf (W := 2) (rm_pick l Z av0 hw [] (own_minI (p1 &&& (3 : Int32)) (2 : Int32)) b1 b10 h112 n0 (Nat.le_trans Z0 kp113.1) ) hZ (hw _ (List.mem_of_getElem? (i := 40) rfl)) (hw _ (List.mem_of_getElem? (i := 39) rfl)) (by decide) (by decide)) (g := (mkF m 126 #[.val (.int p0), .val (.int p1), .val (.int p2), .val (.int ((((p0.toUInt32 >>> ((8 : Int32) &&& 31).toUInt32).toInt32) &&& (255 : Int32)).toUInt32.toUInt16.toUInt32.toInt32)), .val (.ref b1), .val (.ref b10), .val (.int (own_minI (p0 &&& (3 : Int32)) (2 : Int32))), .val (.int (own_minI (p1 &&& (3 : Int32)) (2 : Int32))), .val (.ref c76_0), .val (.ref c105_0), .val (.ref b107), .unset, .unset, .unset, .unset] [(.ref b10), (.ref b1), (.int (own_minI (p1 &&& (3 : Int32)) (2 : Int32))), (.ref b112), (.ref b112)])) rfl (by rw [hml]; rfl) (argsL := [(.int (own_minI (p1 &&& (3 : Int32)) (2 : Int32))), (.ref b1), (.ref b10)]) (rest := [(.ref b112), (.ref b112)]) (lenOf pd_8 rfl) rfl (by show 2 * 0 + _ ≤ _; exact Nat.le_of_eq rfl) (hb hby at_126) (fun _ _ => ⟨rfl, e112, (by decide : 10 + 0 ≤ _), (by decide : 18 + 0 ≤ _)⟩)
      dsimp only [Pt.U, Pt.locs, Pt.cells, Pt.slots] at X114 l114 y114 z114 st114 hQ114
      subst l114 y114 z114
      obtain ⟨rfl, N114q, he114⟩ := hQ114
      have N114 := Fr.app N110 N114q
      refine OwnFin.st st114 ?_
      show OwnFin _ _ _ _ (T114.setTop (mkF m 129 #[.val (.int p0), .val (.int p1), .val (.int p2), .val (.int ((((p0.toUInt32 >>> ((8 : Int32) &&& 31).toUInt32).toInt32) &&& (255 : Int32)).toUInt32.toUInt16.toUInt32.toInt32)), .val (.ref b1), .val (.ref b10), .val (.int (own_minI (p0 &&& (3 : Int32)) (2 : Int32))), .val (.int (own_minI (p1 &&& (3 : Int32)) (2 : Int32))), .val (.ref c76_0), .val (.ref c105_0), .val (.ref b107), .unset, .unset, .unset, .unset] [(own_pick (own_minI (p1 &&& (3 : Int32)) (2 : Int32)) b1 b10), (.ref b112), (.ref b112)]))
      refine OwnFin.st (fun _ q => XS.aload X114.here hx rfl (hb hby at_129) rfl rfl q) ?_
      show OwnFin _ _ _ _ (T114.setTop (mkF m 131 #[.val (.int p0), .val (.int p1), .val (.int p2), .val (.int ((((p0.toUInt32 >>> ((8 : Int32) &&& 31).toUInt32).toInt32) &&& (255 : Int32)).toUInt32.toUInt16.toUInt32.toInt32)), .val (.ref b1), .val (.ref b10), .val (.int (own_minI (p0 &&& (3 : Int32)) (2 : Int32))), .val (.int (own_minI (p1 &&& (3 : Int32)) (2 : Int32))), .val (.ref c76_0), .val (.ref c105_0), .val (.ref b107), .unset, .unset, .unset, .unset] [(.ref c105_0), (own_pick (own_minI (p1 &&& (3 : Int32)) (2 : Int32)) b1 b10), (.ref b112), (.ref b112)]))
      obtain ⟨_, _, ⟨T115, L115, k115, n115⟩, -, X115, ⟨Lc115, hQ115, l115, y115, z115⟩, st115⟩ := X114.specialBack hx (y := (⟨"com/example/nepean/nepean/session/PendingKey", "<init>", "(Ljava/lang/Object;Ljava/lang/Object;)V"⟩ : MethodName)) rfl hown (mvT hZ (hw _ (List.mem_of_getElem? (i := 41) rfl))) (mvT hZ (hw _ (List.mem_of_getElem? (i := 42) rfl))) (mvT hZ (hw _ (List.mem_of_getElem? (i := 43) rfl))) (by decide) (backOf (W := 1) (rm_pk l Z av0 hw [] b112 (own_pick (own_minI (p1 &&& (3 : Int32)) (2 : Int32)) b1 b10) c105_0 .null .null h112 n0 (Nat.le_trans Z0 kp113.1) (own_pickr _ _ _) A112 F_entity_b112 g_b112 F_id_b112) hZ (hw _ (List.mem_of_getElem? (i := 43) rfl)) (hw _ (List.mem_of_getElem? (i := 36) rfl)) (by decide) (by decide)) (g := (mkF m 131 #[.val (.int p0), .val (.int p1), .val (.int p2), .val (.int ((((p0.toUInt32 >>> ((8 : Int32) &&& 31).toUInt32).toInt32) &&& (255 : Int32)).toUInt32.toUInt16.toUInt32.toInt32)), .val (.ref b1), .val (.ref b10), .val (.int (own_minI (p0 &&& (3 : Int32)) (2 : Int32))), .val (.int (own_minI (p1 &&& (3 : Int32)) (2 : Int32))), .val (.ref c76_0), .val (.ref c105_0), .val (.ref b107), .unset, .unset, .unset, .unset] [(.ref c105_0), (own_pick (own_minI (p1 &&& (3 : Int32)) (2 : Int32)) b1 b10), (.ref b112), (.ref b112)])) rfl (by rw [hml]; rfl) (Steps.refl _) (a := b112) (argsL := [(own_pick (own_minI (p1 &&& (3 : Int32)) (2 : Int32)) b1 b10), (.ref c105_0)]) (rest := [(.ref b112)]) (lenOf pd_9 rfl) rfl (by show 2 * 0 + _ ≤ _; exact Nat.le_of_eq rfl) (hb hby at_131) (fun _ _ => ⟨rfl, he114, (by decide : 10 + 0 ≤ _), (by decide : 18 + 0 ≤ _)⟩)
      dsimp only [Pt.U, Pt.locs, Pt.cells, Pt.slots] at X115 l115 y115 z115 st115 hQ115
      subst l115 y115 z115
      obtain ⟨rfl, N115q, K115, r115_0, r115_1⟩ := hQ115
      have N115 := Fr.app N114 N115q
      refine OwnFin.tr st115 ?_
      obtain ⟨h115, e115⟩ : ∃ z, T115.heap = z := ⟨_, rfl⟩
      rw [e115] at K115 r115_0 r115_1
      have kp116 : Keep h0 h115 [] := kp113.trans K115 (allS (Or.inr lo_b112) all0)
      have ol116 : Old Z n0 h115 := ol113.keep K115 (allS g_b112 all0)
      show OwnFin _ _ _ _ (T115.setTop (mkF m 134 #[.val (.int p0), .val (.int p1), .val (.int p2), .val (.int ((((p0.toUInt32 >>> ((8 : Int32) &&& 31).toUInt32).toInt32) &&& (255 : Int32)).toUInt32.toUInt16.toUInt32.toInt32)), .val (.ref b1), .val (.ref b10), .val (.int (own_minI (p0 &&& (3 : Int32)) (2 : Int32))), .val (.int (own_minI (p1 &&& (3 : Int32)) (2 : Int32))), .val (.ref c76_0), .val (.ref c105_0), .val (.ref b107), .unset, .unset, .unset, .unset] [(.ref b112)]))
      refine OwnFin.st (fun _ q => XS.astore X115.here hx rfl (hb hby at_134) rfl rfl (l' := #[.val (.int p0), .val (.int p1), .val (.int p2), .val (.int ((((p0.toUInt32 >>> ((8 : Int32) &&& 31).toUInt32).toInt32) &&& (255 : Int32)).toUInt32.toUInt16.toUInt32.toInt32)), .val (.ref b1), .val (.ref b10), .val (.int (own_minI (p0 &&& (3 : Int32)) (2 : Int32))), .val (.int (own_minI (p1 &&& (3 : Int32)) (2 : Int32))), .val (.ref c76_0), .val (.ref c105_0), .val (.ref b107), .val (.ref b112), .unset, .unset, .unset]) rfl q) ?_
      show OwnFin _ _ _ _ (T115.setTop (mkF m 136 #[.val (.int p0), .val (.int p1), .val (.int p2), .val (.int ((((p0.toUInt32 >>> ((8 : Int32) &&& 31).toUInt32).toInt32) &&& (255 : Int32)).toUInt32.toUInt16.toUInt32.toInt32)), .val (.ref b1), .val (.ref b10), .val (.int (own_minI (p0 &&& (3 : Int32)) (2 : Int32))), .val (.int (own_minI (p1 &&& (3 : Int32)) (2 : Int32))), .val (.ref c76_0), .val (.ref c105_0), .val (.ref b107), .val (.ref b112), .unset, .unset, .unset] []))
      refine OwnFin.st (fun _ q => XS.iloadN X115.here hx rfl (hb hby at_136) rfl q) ?_
      show OwnFin _ _ _ _ (T115.setTop (mkF m 137 #[.val (.int p0), .val (.int p1), .val (.int p2), .val (.int ((((p0.toUInt32 >>> ((8 : Int32) &&& 31).toUInt32).toInt32) &&& (255 : Int32)).toUInt32.toUInt16.toUInt32.toInt32)), .val (.ref b1), .val (.ref b10), .val (.int (own_minI (p0 &&& (3 : Int32)) (2 : Int32))), .val (.int (own_minI (p1 &&& (3 : Int32)) (2 : Int32))), .val (.ref c76_0), .val (.ref c105_0), .val (.ref b107), .val (.ref b112), .unset, .unset, .unset] [(.int p2)]))
      refine OwnFin.st (fun _ q => XS.iconst X115.here hx rfl (hb hby at_137) q) ?_
      show OwnFin _ _ _ _ (T115.setTop (mkF m 138 #[.val (.int p0), .val (.int p1), .val (.int p2), .val (.int ((((p0.toUInt32 >>> ((8 : Int32) &&& 31).toUInt32).toInt32) &&& (255 : Int32)).toUInt32.toUInt16.toUInt32.toInt32)), .val (.ref b1), .val (.ref b10), .val (.int (own_minI (p0 &&& (3 : Int32)) (2 : Int32))), .val (.int (own_minI (p1 &&& (3 : Int32)) (2 : Int32))), .val (.ref c76_0), .val (.ref c105_0), .val (.ref b107), .val (.ref b112), .unset, .unset, .unset] [(.int (3 : Int32)), (.int p2)]))
      refine OwnFin.st (fun _ q => XS.iand X115.here hx rfl (hb hby at_138) rfl q) ?_
      show OwnFin _ _ _ _ (T115.setTop (mkF m 139 #[.val (.int p0), .val (.int p1), .val (.int p2), .val (.int ((((p0.toUInt32 >>> ((8 : Int32) &&& 31).toUInt32).toInt32) &&& (255 : Int32)).toUInt32.toUInt16.toUInt32.toInt32)), .val (.ref b1), .val (.ref b10), .val (.int (own_minI (p0 &&& (3 : Int32)) (2 : Int32))), .val (.int (own_minI (p1 &&& (3 : Int32)) (2 : Int32))), .val (.ref c76_0), .val (.ref c105_0), .val (.ref b107), .val (.ref b112), .unset, .unset, .unset] [(.int (p2 &&& (3 : Int32)))]))
      refine OwnFin.st (fun _ q => XS.istore X115.here hx rfl (hb hby at_139) rfl (l' := #[.val (.int p0), .val (.int p1), .val (.int p2), .val (.int ((((p0.toUInt32 >>> ((8 : Int32) &&& 31).toUInt32).toInt32) &&& (255 : Int32)).toUInt32.toUInt16.toUInt32.toInt32)), .val (.ref b1), .val (.ref b10), .val (.int (own_minI (p0 &&& (3 : Int32)) (2 : Int32))), .val (.int (own_minI (p1 &&& (3 : Int32)) (2 : Int32))), .val (.ref c76_0), .val (.ref c105_0), .val (.ref b107), .val (.ref b112), .val (.int (p2 &&& (3 : Int32))), .unset, .unset]) rfl q) ?_
      show OwnFin _ _ _ _ (T115.setTop (mkF m 141 #[.val (.int p0), .val (.int p1), .val (.int p2), .val (.int ((((p0.toUInt32 >>> ((8 : Int32) &&& 31).toUInt32).toInt32) &&& (255 : Int32)).toUInt32.toUInt16.toUInt32.toInt32)), .val (.ref b1), .val (.ref b10), .val (.int (own_minI (p0 &&& (3 : Int32)) (2 : Int32))), .val (.int (own_minI (p1 &&& (3 : Int32)) (2 : Int32))), .val (.ref c76_0), .val (.ref c105_0), .val (.ref b107), .val (.ref b112), .val (.int (p2 &&& (3 : Int32))), .unset, .unset] []))
      refine OwnFin.st (fun _ q => XS.iload X115.here hx rfl (hb hby at_141) rfl q) ?_
      show OwnFin _ _ _ _ (T115.setTop (mkF m 143 #[.val (.int p0), .val (.int p1), .val (.int p2), .val (.int ((((p0.toUInt32 >>> ((8 : Int32) &&& 31).toUInt32).toInt32) &&& (255 : Int32)).toUInt32.toUInt16.toUInt32.toInt32)), .val (.ref b1), .val (.ref b10), .val (.int (own_minI (p0 &&& (3 : Int32)) (2 : Int32))), .val (.int (own_minI (p1 &&& (3 : Int32)) (2 : Int32))), .val (.ref c76_0), .val (.ref c105_0), .val (.ref b107), .val (.ref b112), .val (.int (p2 &&& (3 : Int32))), .unset, .unset] [(.int (p2 &&& (3 : Int32)))]))
      by_cases hc117 : (p2 &&& (3 : Int32)) = (0 : Int32)
      · skip
        refine OwnFin.st (fun _ q => XS.ifNo X115.here hx rfl (hb hby at_143) rfl (Jvm.Free.XT.i0_ne_f hc117) q) ?_
        show OwnFin _ _ _ _ (T115.setTop (mkF m 146 #[.val (.int p0), .val (.int p1), .val (.int p2), .val (.int ((((p0.toUInt32 >>> ((8 : Int32) &&& 31).toUInt32).toInt32) &&& (255 : Int32)).toUInt32.toUInt16.toUInt32.toInt32)), .val (.ref b1), .val (.ref b10), .val (.int (own_minI (p0 &&& (3 : Int32)) (2 : Int32))), .val (.int (own_minI (p1 &&& (3 : Int32)) (2 : Int32))), .val (.ref c76_0), .val (.ref c105_0), .val (.ref b107), .val (.ref b112), .val (.int (p2 &&& (3 : Int32))), .unset, .unset] []))
        refine OwnFin.st (fun _ q => XS.aload X115.here hx rfl (hb hby at_146) rfl rfl q) ?_
        show OwnFin _ _ _ _ (T115.setTop (mkF m 148 #[.val (.int p0), .val (.int p1), .val (.int p2), .val (.int ((((p0.toUInt32 >>> ((8 : Int32) &&& 31).toUInt32).toInt32) &&& (255 : Int32)).toUInt32.toUInt16.toUInt32.toInt32)), .val (.ref b1), .val (.ref b10), .val (.int (own_minI (p0 &&& (3 : Int32)) (2 : Int32))), .val (.int (own_minI (p1 &&& (3 : Int32)) (2 : Int32))), .val (.ref c76_0), .val (.ref c105_0), .val (.ref b107), .val (.ref b112), .val (.int (p2 &&& (3 : Int32))), .unset, .unset] [(.ref b112)]))
        refine OwnFin.st (fun _ q => XS.astore X115.here hx rfl (hb hby at_148) rfl rfl (l' := #[.val (.int p0), .val (.int p1), .val (.int p2), .val (.int ((((p0.toUInt32 >>> ((8 : Int32) &&& 31).toUInt32).toInt32) &&& (255 : Int32)).toUInt32.toUInt16.toUInt32.toInt32)), .val (.ref b1), .val (.ref b10), .val (.int (own_minI (p0 &&& (3 : Int32)) (2 : Int32))), .val (.int (own_minI (p1 &&& (3 : Int32)) (2 : Int32))), .val (.ref c76_0), .val (.ref c105_0), .val (.ref b107), .val (.ref b112), .val (.int (p2 &&& (3 : Int32))), .val (.ref b112), .unset]) rfl q) ?_
        show OwnFin _ _ _ _ (T115.setTop (mkF m 150 #[.val (.int p0), .val (.int p1), .val (.int p2), .val (.int ((((p0.toUInt32 >>> ((8 : Int32) &&& 31).toUInt32).toInt32) &&& (255 : Int32)).toUInt32.toUInt16.toUInt32.toInt32)), .val (.ref b1), .val (.ref b10), .val (.int (own_minI (p0 &&& (3 : Int32)) (2 : Int32))), .val (.int (own_minI (p1 &&& (3 : Int32)) (2 : Int32))), .val (.ref c76_0), .val (.ref c105_0), .val (.ref b107), .val (.ref b112), .val (.int (p2 &&& (3 : Int32))), .val (.ref b112), .unset] []))
        refine OwnFin.st (fun _ q => XS.iload X115.here hx rfl (hb hby at_150) rfl q) ?_
        show OwnFin _ _ _ _ (T115.setTop (mkF m 152 #[.val (.int p0), .val (.int p1), .val (.int p2), .val (.int ((((p0.toUInt32 >>> ((8 : Int32) &&& 31).toUInt32).toInt32) &&& (255 : Int32)).toUInt32.toUInt16.toUInt32.toInt32)), .val (.ref b1), .val (.ref b10), .val (.int (own_minI (p0 &&& (3 : Int32)) (2 : Int32))), .val (.int (own_minI (p1 &&& (3 : Int32)) (2 : Int32))), .val (.ref c76_0), .val (.ref c105_0), .val (.ref b107), .val (.ref b112), .val (.int (p2 &&& (3 : Int32))), .val (.ref b112), .unset] [(.int (own_minI (p0 &&& (3 : Int32)) (2 : Int32)))]))
        refine OwnFin.st (fun _ q => XS.iload X115.here hx rfl (hb hby at_152) rfl q) ?_
        show OwnFin _ _ _ _ (T115.setTop (mkF m 154 #[.val (.int p0), .val (.int p1), .val (.int p2), .val (.int ((((p0.toUInt32 >>> ((8 : Int32) &&& 31).toUInt32).toInt32) &&& (255 : Int32)).toUInt32.toUInt16.toUInt32.toInt32)), .val (.ref b1), .val (.ref b10), .val (.int (own_minI (p0 &&& (3 : Int32)) (2 : Int32))), .val (.int (own_minI (p1 &&& (3 : Int32)) (2 : Int32))), .val (.ref c76_0), .val (.ref c105_0), .val (.ref b107), .val (.ref b112), .val (.int (p2 &&& (3 : Int32))), .val (.ref b112), .unset] [(.int (own_minI (p1 &&& (3 : Int32)) (2 : Int32))), (.int (own_minI (p0 &&& (3 : Int32)) (2 : Int32)))]))
        by_cases hc118 : (own_minI (p0 &&& (3 : Int32)) (2 : Int32)) = (own_minI (p1 &&& (3 : Int32)) (2 : Int32))
        · skip
          refine OwnFin.st (fun _ q => XS.icmpNo X115.here hx rfl (hb hby at_154) rfl (Jvm.Free.XT.ii_ne_f hc118) q) ?_
          show OwnFin _ _ _ _ (T115.setTop (mkF m 157 #[.val (.int p0), .val (.int p1), .val (.int p2), .val (.int ((((p0.toUInt32 >>> ((8 : Int32) &&& 31).toUInt32).toInt32) &&& (255 : Int32)).toUInt32.toUInt16.toUInt32.toInt32)), .val (.ref b1), .val (.ref b10), .val (.int (own_minI (p0 &&& (3 : Int32)) (2 : Int32))), .val (.int (own_minI (p1 &&& (3 : Int32)) (2 : Int32))), .val (.ref c76_0), .val (.ref c105_0), .val (.ref b107), .val (.ref b112), .val (.int (p2 &&& (3 : Int32))), .val (.ref b112), .unset] []))
          refine OwnFin.st (fun _ q => XS.iconst X115.here hx rfl (hb hby at_157) q) ?_
          show OwnFin _ _ _ _ (T115.setTop (mkF m 158 #[.val (.int p0), .val (.int p1), .val (.int p2), .val (.int ((((p0.toUInt32 >>> ((8 : Int32) &&& 31).toUInt32).toInt32) &&& (255 : Int32)).toUInt32.toUInt16.toUInt32.toInt32)), .val (.ref b1), .val (.ref b10), .val (.int (own_minI (p0 &&& (3 : Int32)) (2 : Int32))), .val (.int (own_minI (p1 &&& (3 : Int32)) (2 : Int32))), .val (.ref c76_0), .val (.ref c105_0), .val (.ref b107), .val (.ref b112), .val (.int (p2 &&& (3 : Int32))), .val (.ref b112), .unset] [(.int (1 : Int32))]))
          refine OwnFin.st (fun _ q => XS.goto X115.here hx rfl (pc0 := 158) (pc' := 162) rfl (hb hby at_158) (by decide) (by decide) q) ?_
          show OwnFin _ _ _ _ (T115.setTop (mkF m 162 #[.val (.int p0), .val (.int p1), .val (.int p2), .val (.int ((((p0.toUInt32 >>> ((8 : Int32) &&& 31).toUInt32).toInt32) &&& (255 : Int32)).toUInt32.toUInt16.toUInt32.toInt32)), .val (.ref b1), .val (.ref b10), .val (.int (own_minI (p0 &&& (3 : Int32)) (2 : Int32))), .val (.int (own_minI (p1 &&& (3 : Int32)) (2 : Int32))), .val (.ref c76_0), .val (.ref c105_0), .val (.ref b107), .val (.ref b112), .val (.int (p2 &&& (3 : Int32))), .val (.ref b112), .unset] [(.int (1 : Int32))]))
          refine OwnFin.st (fun _ q => XS.istore X115.here hx rfl (hb hby at_162) rfl (l' := #[.val (.int p0), .val (.int p1), .val (.int p2), .val (.int ((((p0.toUInt32 >>> ((8 : Int32) &&& 31).toUInt32).toInt32) &&& (255 : Int32)).toUInt32.toUInt16.toUInt32.toInt32)), .val (.ref b1), .val (.ref b10), .val (.int (own_minI (p0 &&& (3 : Int32)) (2 : Int32))), .val (.int (own_minI (p1 &&& (3 : Int32)) (2 : Int32))), .val (.ref c76_0), .val (.ref c105_0), .val (.ref b107), .val (.ref b112), .val (.int (p2 &&& (3 : Int32))), .val (.ref b112), .val (.int (1 : Int32))]) rfl q) ?_
          show OwnFin _ _ _ _ (T115.setTop (mkF m 164 #[.val (.int p0), .val (.int p1), .val (.int p2), .val (.int ((((p0.toUInt32 >>> ((8 : Int32) &&& 31).toUInt32).toInt32) &&& (255 : Int32)).toUInt32.toUInt16.toUInt32.toInt32)), .val (.ref b1), .val (.ref b10), .val (.int (own_minI (p0 &&& (3 : Int32)) (2 : Int32))), .val (.int (own_minI (p1 &&& (3 : Int32)) (2 : Int32))), .val (.ref c76_0), .val (.ref c105_0), .val (.ref b107), .val (.ref b112), .val (.int (p2 &&& (3 : Int32))), .val (.ref b112), .val (.int (1 : Int32))] []))
          refine OwnFin.st (fun _ q => XS.goto X115.here hx rfl (pc0 := 164) (pc' := 212) rfl (hb hby at_164) (by decide) (by decide) q) ?_
          show OwnFin _ _ _ _ (T115.setTop (mkF m 212 #[.val (.int p0), .val (.int p1), .val (.int p2), .val (.int ((((p0.toUInt32 >>> ((8 : Int32) &&& 31).toUInt32).toInt32) &&& (255 : Int32)).toUInt32.toUInt16.toUInt32.toInt32)), .val (.ref b1), .val (.ref b10), .val (.int (own_minI (p0 &&& (3 : Int32)) (2 : Int32))), .val (.int (own_minI (p1 &&& (3 : Int32)) (2 : Int32))), .val (.ref c76_0), .val (.ref c105_0), .val (.ref b107), .val (.ref b112), .val (.int (p2 &&& (3 : Int32))), .val (.ref b112), .val (.int (1 : Int32))] []))
          refine OwnFin.st (fun _ q => XS.aload X115.here hx rfl (hb hby at_212) rfl rfl q) ?_
          show OwnFin _ _ _ _ (T115.setTop (mkF m 214 #[.val (.int p0), .val (.int p1), .val (.int p2), .val (.int ((((p0.toUInt32 >>> ((8 : Int32) &&& 31).toUInt32).toInt32) &&& (255 : Int32)).toUInt32.toUInt16.toUInt32.toInt32)), .val (.ref b1), .val (.ref b10), .val (.int (own_minI (p0 &&& (3 : Int32)) (2 : Int32))), .val (.int (own_minI (p1 &&& (3 : Int32)) (2 : Int32))), .val (.ref c76_0), .val (.ref c105_0), .val (.ref b107), .val (.ref b112), .val (.int (p2 &&& (3 : Int32))), .val (.ref b112), .val (.int (1 : Int32))] [(.ref b107)]))
          refine OwnFin.st (fun _ q => XS.aload X115.here hx rfl (hb hby at_214) rfl rfl q) ?_
          show OwnFin _ _ _ _ (T115.setTop (mkF m 216 #[.val (.int p0), .val (.int p1), .val (.int p2), .val (.int ((((p0.toUInt32 >>> ((8 : Int32) &&& 31).toUInt32).toInt32) &&& (255 : Int32)).toUInt32.toUInt16.toUInt32.toInt32)), .val (.ref b1), .val (.ref b10), .val (.int (own_minI (p0 &&& (3 : Int32)) (2 : Int32))), .val (.int (own_minI (p1 &&& (3 : Int32)) (2 : Int32))), .val (.ref c76_0), .val (.ref c105_0), .val (.ref b107), .val (.ref b112), .val (.int (p2 &&& (3 : Int32))), .val (.ref b112), .val (.int (1 : Int32))] [(.ref b112), (.ref b107)]))
          obtain ⟨cq119, kq119, q119a, q119b, q119c⟩ := isOf hZ e115 (((A107.keep K110).ext E112).keep K115)
          obtain ⟨_, _, ⟨T119, L119, k119, n119⟩, -, X119, ⟨Lc119, hQ119, l119, y119, z119⟩, st119⟩ := X115.virtualBack hx (y := (⟨"com/example/nepean/nepean/session/PendingKey", "equals", "(Ljava/lang/Object;)Z"⟩ : MethodName)) (z := (⟨"com/example/nepean/nepean/session/PendingKey", "equals", "(Ljava/lang/Object;)Z"⟩ : MethodName)) hown (mvT hZ (hw _ (List.mem_of_getElem? (i := 49) rfl))) (mvT hZ (hw _ (List.mem_of_getElem? (i := 50) rfl))) (notFace_of_selects (args := #[]) (mvT hZ (hw _ (List.mem_of_getElem? (i := 52) rfl)))) (mvT hZ (hw _ (List.mem_of_getElem? (i := 52) rfl))) (mvT hZ (hw _ (List.mem_of_getElem? (i := 51) rfl))) (by decide) (backOf (W := 0) (rm_eqPT l Z av0 hw [] b107 b112 (own_pick (own_minI (p1 &&& (3 : Int32)) (2 : Int32)) b1 b10) (own_pick (own_minI (p0 &&& (3 : Int32)) (2 : Int32)) b1 b10) h115 n0 (Nat.le_trans Z0 kp116.1) (A112.keep K115) r115_0 ((r110_0.ext E112).keep K115 (ninS (Nat.ne_of_lt (Nat.lt_of_lt_of_le (A107.keep K110).lt bi_b112)) nin0)) (congrArg (fun z => own_pick z b1 b10) (Eq.symm hc118)) (own_pickr _ _ _) (own_pickr _ _ _)) hZ (hw _ (List.mem_of_getElem? (i := 53) rfl)) (hw _ (List.mem_of_getElem? (i := 36) rfl)) (by decide) (by decide)) q119a q119c (g := (mkF m 216 #[.val (.int p0), .val (.int p1), .val (.int p2), .val (.int ((((p0.toUInt32 >>> ((8 : Int32) &&& 31).toUInt32).toInt32) &&& (255 : Int32)).toUInt32.toUInt16.toUInt32.toInt32)), .val (.ref b1), .val (.ref b10), .val (.int (own_minI (p0 &&& (3 : Int32)) (2 : Int32))), .val (.int (own_minI (p1 &&& (3 : Int32)) (2 : Int32))), .val (.ref c76_0), .val (.ref c105_0), .val (.ref b107), .val (.ref b112), .val (.int (p2 &&& (3 : Int32))), .val (.ref b112), .val (.int (1 : Int32))] [(.ref b112), (.ref b107)])) rfl (by rw [hml]; rfl) (Steps.refl _) (argsL := [(.ref b112)]) (rest := []) (lenOf pd_10 rfl) rfl (by show 2 * 0 + _ ≤ _; exact Nat.le_of_eq rfl) (hb hby at_216) (fun _ _ => ⟨rfl, e115, (by decide : 10 + 0 ≤ _), (by decide : 18 + 0 ≤ _)⟩)
          dsimp only [Pt.U, Pt.locs, Pt.cells, Pt.slots] at X119 l119 y119 z119 st119 hQ119
          subst l119 y119 z119
          obtain ⟨rfl, N119q, he119⟩ := hQ119
          have N119 := Fr.app N115 N119q
          refine OwnFin.tr st119 ?_
          show OwnFin _ _ _ _ (T119.setTop (mkF m 219 #[.val (.int p0), .val (.int p1), .val (.int p2), .val (.int ((((p0.toUInt32 >>> ((8 : Int32) &&& 31).toUInt32).toInt32) &&& (255 : Int32)).toUInt32.toUInt16.toUInt32.toInt32)), .val (.ref b1), .val (.ref b10), .val (.int (own_minI (p0 &&& (3 : Int32)) (2 : Int32))), .val (.int (own_minI (p1 &&& (3 : Int32)) (2 : Int32))), .val (.ref c76_0), .val (.ref c105_0), .val (.ref b107), .val (.ref b112), .val (.int (p2 &&& (3 : Int32))), .val (.ref b112), .val (.int (1 : Int32))] [(.int (1 : Int32))]))
          refine OwnFin.st (fun _ q => XS.iload X119.here hx rfl (hb hby at_219) rfl q) ?_
          show OwnFin _ _ _ _ (T119.setTop (mkF m 221 #[.val (.int p0), .val (.int p1), .val (.int p2), .val (.int ((((p0.toUInt32 >>> ((8 : Int32) &&& 31).toUInt32).toInt32) &&& (255 : Int32)).toUInt32.toUInt16.toUInt32.toInt32)), .val (.ref b1), .val (.ref b10), .val (.int (own_minI (p0 &&& (3 : Int32)) (2 : Int32))), .val (.int (own_minI (p1 &&& (3 : Int32)) (2 : Int32))), .val (.ref c76_0), .val (.ref c105_0), .val (.ref b107), .val (.ref b112), .val (.int (p2 &&& (3 : Int32))), .val (.ref b112), .val (.int (1 : Int32))] [(.int (1 : Int32)), (.int (1 : Int32))]))
          refine OwnFin.st (fun _ q => XS.icmpNo X119.here hx rfl (hb hby at_221) rfl (Jvm.Free.XT.ii_ne_f (rfl : (1 : Int32) = (1 : Int32))) q) ?_
          show OwnFin _ _ _ _ (T119.setTop (mkF m 224 #[.val (.int p0), .val (.int p1), .val (.int p2), .val (.int ((((p0.toUInt32 >>> ((8 : Int32) &&& 31).toUInt32).toInt32) &&& (255 : Int32)).toUInt32.toUInt16.toUInt32.toInt32)), .val (.ref b1), .val (.ref b10), .val (.int (own_minI (p0 &&& (3 : Int32)) (2 : Int32))), .val (.int (own_minI (p1 &&& (3 : Int32)) (2 : Int32))), .val (.ref c76_0), .val (.ref c105_0), .val (.ref b107), .val (.ref b112), .val (.int (p2 &&& (3 : Int32))), .val (.ref b112), .val (.int (1 : Int32))] []))
          refine OwnFin.st (fun _ q => XS.iconst X119.here hx rfl (hb hby at_224) q) ?_
          show OwnFin _ _ _ _ (T119.setTop (mkF m 225 #[.val (.int p0), .val (.int p1), .val (.int p2), .val (.int ((((p0.toUInt32 >>> ((8 : Int32) &&& 31).toUInt32).toInt32) &&& (255 : Int32)).toUInt32.toUInt16.toUInt32.toInt32)), .val (.ref b1), .val (.ref b10), .val (.int (own_minI (p0 &&& (3 : Int32)) (2 : Int32))), .val (.int (own_minI (p1 &&& (3 : Int32)) (2 : Int32))), .val (.ref c76_0), .val (.ref c105_0), .val (.ref b107), .val (.ref b112), .val (.int (p2 &&& (3 : Int32))), .val (.ref b112), .val (.int (1 : Int32))] [(.int (1 : Int32))]))
          refine OwnFin.st (fun _ q => XS.goto X119.here hx rfl (pc0 := 225) (pc' := 229) rfl (hb hby at_225) (by decide) (by decide) q) ?_
          show OwnFin _ _ _ _ (T119.setTop (mkF m 229 #[.val (.int p0), .val (.int p1), .val (.int p2), .val (.int ((((p0.toUInt32 >>> ((8 : Int32) &&& 31).toUInt32).toInt32) &&& (255 : Int32)).toUInt32.toUInt16.toUInt32.toInt32)), .val (.ref b1), .val (.ref b10), .val (.int (own_minI (p0 &&& (3 : Int32)) (2 : Int32))), .val (.int (own_minI (p1 &&& (3 : Int32)) (2 : Int32))), .val (.ref c76_0), .val (.ref c105_0), .val (.ref b107), .val (.ref b112), .val (.int (p2 &&& (3 : Int32))), .val (.ref b112), .val (.int (1 : Int32))] [(.int (1 : Int32))]))
          obtain ⟨fs, hr, hrun, hended, hW, hsame⟩ := X119.leave (v := some (.int (1 : Int32))) (fun h => by rw [Bd.returns] at h; cases h)
          refine ⟨_, _, retN X119 hx (t := .boolean) Bd.returns (by simp) (hb hby at_229) hr, hrun, hended, _, _, rfl, ?_, ⟨_, rfl⟩, hW, hsame.mono (by decide) (by decide)⟩
          show Q_rm0 Z p0 p1 p2 w_COMPACT_STRINGS clI w_cache h0 n0 _ T119.heap _
          rw [he119]
          exact ⟨rfl, N119⟩
        · skip
          refine OwnFin.st (fun _ q => XS.icmpYes X115.here hx rfl (pc0 := 154) (pc' := 161) rfl (hb hby at_154) rfl (Jvm.Free.XT.ii_ne_t hc118) (by decide) (by decide) q) ?_
          show OwnFin _ _ _ _ (T115.setTop (mkF m 161 #[.val (.int p0), .val (.int p1), .val (.int p2), .val (.int ((((p0.toUInt32 >>> ((8 : Int32) &&& 31).toUInt32).toInt32) &&& (255 : Int32)).toUInt32.toUInt16.toUInt32.toInt32)), .val (.ref b1), .val (.ref b10), .val (.int (own_minI (p0 &&& (3 : Int32)) (2 : Int32))), .val (.int (own_minI (p1 &&& (3 : Int32)) (2 : Int32))), .val (.ref c76_0), .val (.ref c105_0), .val (.ref b107), .val (.ref b112), .val (.int (p2 &&& (3 : Int32))), .val (.ref b112), .unset] []))
          refine OwnFin.st (fun _ q => XS.iconst X115.here hx rfl (hb hby at_161) q) ?_
          show OwnFin _ _ _ _ (T115.setTop (mkF m 162 #[.val (.int p0), .val (.int p1), .val (.int p2), .val (.int ((((p0.toUInt32 >>> ((8 : Int32) &&& 31).toUInt32).toInt32) &&& (255 : Int32)).toUInt32.toUInt16.toUInt32.toInt32)), .val (.ref b1), .val (.ref b10), .val (.int (own_minI (p0 &&& (3 : Int32)) (2 : Int32))), .val (.int (own_minI (p1 &&& (3 : Int32)) (2 : Int32))), .val (.ref c76_0), .val (.ref c105_0), .val (.ref b107), .val (.ref b112), .val (.int (p2 &&& (3 : Int32))), .val (.ref b112), .unset] [(.int (0 : Int32))]))
          refine OwnFin.st (fun _ q => XS.istore X115.here hx rfl (hb hby at_162) rfl (l' := #[.val (.int p0), .val (.int p1), .val (.int p2), .val (.int ((((p0.toUInt32 >>> ((8 : Int32) &&& 31).toUInt32).toInt32) &&& (255 : Int32)).toUInt32.toUInt16.toUInt32.toInt32)), .val (.ref b1), .val (.ref b10), .val (.int (own_minI (p0 &&& (3 : Int32)) (2 : Int32))), .val (.int (own_minI (p1 &&& (3 : Int32)) (2 : Int32))), .val (.ref c76_0), .val (.ref c105_0), .val (.ref b107), .val (.ref b112), .val (.int (p2 &&& (3 : Int32))), .val (.ref b112), .val (.int (0 : Int32))]) rfl q) ?_
          show OwnFin _ _ _ _ (T115.setTop (mkF m 164 #[.val (.int p0), .val (.int p1), .val (.int p2), .val (.int ((((p0.toUInt32 >>> ((8 : Int32) &&& 31).toUInt32).toInt32) &&& (255 : Int32)).toUInt32.toUInt16.toUInt32.toInt32)), .val (.ref b1), .val (.ref b10), .val (.int (own_minI (p0 &&& (3 : Int32)) (2 : Int32))), .val (.int (own_minI (p1 &&& (3 : Int32)) (2 : Int32))), .val (.ref c76_0), .val (.ref c105_0), .val (.ref b107), .val (.ref b112), .val (.int (p2 &&& (3 : Int32))), .val (.ref b112), .val (.int (0 : Int32))] []))
          refine OwnFin.st (fun _ q => XS.goto X115.here hx rfl (pc0 := 164) (pc' := 212) rfl (hb hby at_164) (by decide) (by decide) q) ?_
          show OwnFin _ _ _ _ (T115.setTop (mkF m 212 #[.val (.int p0), .val (.int p1), .val (.int p2), .val (.int ((((p0.toUInt32 >>> ((8 : Int32) &&& 31).toUInt32).toInt32) &&& (255 : Int32)).toUInt32.toUInt16.toUInt32.toInt32)), .val (.ref b1), .val (.ref b10), .val (.int (own_minI (p0 &&& (3 : Int32)) (2 : Int32))), .val (.int (own_minI (p1 &&& (3 : Int32)) (2 : Int32))), .val (.ref c76_0), .val (.ref c105_0), .val (.ref b107), .val (.ref b112), .val (.int (p2 &&& (3 : Int32))), .val (.ref b112), .val (.int (0 : Int32))] []))
          refine OwnFin.st (fun _ q => XS.aload X115.here hx rfl (hb hby at_212) rfl rfl q) ?_
          show OwnFin _ _ _ _ (T115.setTop (mkF m 214 #[.val (.int p0), .val (.int p1), .val (.int p2), .val (.int ((((p0.toUInt32 >>> ((8 : Int32) &&& 31).toUInt32).toInt32) &&& (255 : Int32)).toUInt32.toUInt16.toUInt32.toInt32)), .val (.ref b1), .val (.ref b10), .val (.int (own_minI (p0 &&& (3 : Int32)) (2 : Int32))), .val (.int (own_minI (p1 &&& (3 : Int32)) (2 : Int32))), .val (.ref c76_0), .val (.ref c105_0), .val (.ref b107), .val (.ref b112), .val (.int (p2 &&& (3 : Int32))), .val (.ref b112), .val (.int (0 : Int32))] [(.ref b107)]))
          refine OwnFin.st (fun _ q => XS.aload X115.here hx rfl (hb hby at_214) rfl rfl q) ?_
          show OwnFin _ _ _ _ (T115.setTop (mkF m 216 #[.val (.int p0), .val (.int p1), .val (.int p2), .val (.int ((((p0.toUInt32 >>> ((8 : Int32) &&& 31).toUInt32).toInt32) &&& (255 : Int32)).toUInt32.toUInt16.toUInt32.toInt32)), .val (.ref b1), .val (.ref b10), .val (.int (own_minI (p0 &&& (3 : Int32)) (2 : Int32))), .val (.int (own_minI (p1 &&& (3 : Int32)) (2 : Int32))), .val (.ref c76_0), .val (.ref c105_0), .val (.ref b107), .val (.ref b112), .val (.int (p2 &&& (3 : Int32))), .val (.ref b112), .val (.int (0 : Int32))] [(.ref b112), (.ref b107)]))
          obtain ⟨cq120, kq120, q120a, q120b, q120c⟩ := isOf hZ e115 (((A107.keep K110).ext E112).keep K115)
          obtain ⟨_, _, ⟨T120, L120, k120, n120⟩, -, X120, ⟨Lc120, hQ120, l120, y120, z120⟩, st120⟩ := X115.virtualBack hx (y := (⟨"com/example/nepean/nepean/session/PendingKey", "equals", "(Ljava/lang/Object;)Z"⟩ : MethodName)) (z := (⟨"com/example/nepean/nepean/session/PendingKey", "equals", "(Ljava/lang/Object;)Z"⟩ : MethodName)) hown (mvT hZ (hw _ (List.mem_of_getElem? (i := 49) rfl))) (mvT hZ (hw _ (List.mem_of_getElem? (i := 50) rfl))) (notFace_of_selects (args := #[]) (mvT hZ (hw _ (List.mem_of_getElem? (i := 52) rfl)))) (mvT hZ (hw _ (List.mem_of_getElem? (i := 52) rfl))) (mvT hZ (hw _ (List.mem_of_getElem? (i := 51) rfl))) (by decide) (backOf (W := 0) (rm_eqPF l Z av0 hw [] b107 b112 (own_pick (own_minI (p1 &&& (3 : Int32)) (2 : Int32)) b1 b10) (own_pick (own_minI (p0 &&& (3 : Int32)) (2 : Int32)) b1 b10) h115 n0 (Nat.le_trans Z0 kp116.1) (A112.keep K115) r115_0 ((r110_0.ext E112).keep K115 (ninS (Nat.ne_of_lt (Nat.lt_of_lt_of_le (A107.keep K110).lt bi_b112)) nin0)) (own_pickne (Nat.ne_of_lt (Nat.lt_of_lt_of_le (((A1.ext E3).wr W5).keep K8).lt bi_b10)) (own_m3 _) (own_m3 _) (fun z => hc118 z.symm)) (own_pickr _ _ _) (own_pickr _ _ _)) hZ (hw _ (List.mem_of_getElem? (i := 53) rfl)) (hw _ (List.mem_of_getElem? (i := 36) rfl)) (by decide) (by decide)) q120a q120c (g := (mkF m 216 #[.val (.int p0), .val (.int p1), .val (.int p2), .val (.int ((((p0.toUInt32 >>> ((8 : Int32) &&& 31).toUInt32).toInt32) &&& (255 : Int32)).toUInt32.toUInt16.toUInt32.toInt32)), .val (.ref b1), .val (.ref b10), .val (.int (own_minI (p0 &&& (3 : Int32)) (2 : Int32))), .val (.int (own_minI (p1 &&& (3 : Int32)) (2 : Int32))), .val (.ref c76_0), .val (.ref c105_0), .val (.ref b107), .val (.ref b112), .val (.int (p2 &&& (3 : Int32))), .val (.ref b112), .val (.int (0 : Int32))] [(.ref b112), (.ref b107)])) rfl (by rw [hml]; rfl) (Steps.refl _) (argsL := [(.ref b112)]) (rest := []) (lenOf pd_10 rfl) rfl (by show 2 * 0 + _ ≤ _; exact Nat.le_of_eq rfl) (hb hby at_216) (fun _ _ => ⟨rfl, e115, (by decide : 10 + 0 ≤ _), (by decide : 18 + 0 ≤ _)⟩)
          dsimp only [Pt.U, Pt.locs, Pt.cells, Pt.slots] at X120 l120 y120 z120 st120 hQ120
          subst l120 y120 z120
          obtain ⟨rfl, N120q, he120⟩ := hQ120
          have N120 := Fr.app N115 N120q
          refine OwnFin.tr st120 ?_
          show OwnFin _ _ _ _ (T120.setTop (mkF m 219 #[.val (.int p0), .val (.int p1), .val (.int p2), .val (.int ((((p0.toUInt32 >>> ((8 : Int32) &&& 31).toUInt32).toInt32) &&& (255 : Int32)).toUInt32.toUInt16.toUInt32.toInt32)), .val (.ref b1), .val (.ref b10), .val (.int (own_minI (p0 &&& (3 : Int32)) (2 : Int32))), .val (.int (own_minI (p1 &&& (3 : Int32)) (2 : Int32))), .val (.ref c76_0), .val (.ref c105_0), .val (.ref b107), .val (.ref b112), .val (.int (p2 &&& (3 : Int32))), .val (.ref b112), .val (.int (0 : Int32))] [(.int (0 : Int32))]))
          refine OwnFin.st (fun _ q => XS.iload X120.here hx rfl (hb hby at_219) rfl q) ?_
          show OwnFin _ _ _ _ (T120.setTop (mkF m 221 #[.val (.int p0), .val (.int p1), .val (.int p2), .val (.int ((((p0.toUInt32 >>> ((8 : Int32) &&& 31).toUInt32).toInt32) &&& (255 : Int32)).toUInt32.toUInt16.toUInt32.toInt32)), .val (.ref b1), .val (.ref b10), .val (.int (own_minI (p0 &&& (3 : Int32)) (2 : Int32))), .val (.int (own_minI (p1 &&& (3 : Int32)) (2 : Int32))), .val (.ref c76_0), .val (.ref c105_0), .val (.ref b107), .val (.ref b112), .val (.int (p2 &&& (3 : Int32))), .val (.ref b112), .val (.int (0 : Int32))] [(.int (0 : Int32)), (.int (0 : Int32))]))
          refine OwnFin.st (fun _ q => XS.icmpNo X120.here hx rfl (hb hby at_221) rfl (Jvm.Free.XT.ii_ne_f (rfl : (0 : Int32) = (0 : Int32))) q) ?_
          show OwnFin _ _ _ _ (T120.setTop (mkF m 224 #[.val (.int p0), .val (.int p1), .val (.int p2), .val (.int ((((p0.toUInt32 >>> ((8 : Int32) &&& 31).toUInt32).toInt32) &&& (255 : Int32)).toUInt32.toUInt16.toUInt32.toInt32)), .val (.ref b1), .val (.ref b10), .val (.int (own_minI (p0 &&& (3 : Int32)) (2 : Int32))), .val (.int (own_minI (p1 &&& (3 : Int32)) (2 : Int32))), .val (.ref c76_0), .val (.ref c105_0), .val (.ref b107), .val (.ref b112), .val (.int (p2 &&& (3 : Int32))), .val (.ref b112), .val (.int (0 : Int32))] []))
          refine OwnFin.st (fun _ q => XS.iconst X120.here hx rfl (hb hby at_224) q) ?_
          show OwnFin _ _ _ _ (T120.setTop (mkF m 225 #[.val (.int p0), .val (.int p1), .val (.int p2), .val (.int ((((p0.toUInt32 >>> ((8 : Int32) &&& 31).toUInt32).toInt32) &&& (255 : Int32)).toUInt32.toUInt16.toUInt32.toInt32)), .val (.ref b1), .val (.ref b10), .val (.int (own_minI (p0 &&& (3 : Int32)) (2 : Int32))), .val (.int (own_minI (p1 &&& (3 : Int32)) (2 : Int32))), .val (.ref c76_0), .val (.ref c105_0), .val (.ref b107), .val (.ref b112), .val (.int (p2 &&& (3 : Int32))), .val (.ref b112), .val (.int (0 : Int32))] [(.int (1 : Int32))]))
          refine OwnFin.st (fun _ q => XS.goto X120.here hx rfl (pc0 := 225) (pc' := 229) rfl (hb hby at_225) (by decide) (by decide) q) ?_
          show OwnFin _ _ _ _ (T120.setTop (mkF m 229 #[.val (.int p0), .val (.int p1), .val (.int p2), .val (.int ((((p0.toUInt32 >>> ((8 : Int32) &&& 31).toUInt32).toInt32) &&& (255 : Int32)).toUInt32.toUInt16.toUInt32.toInt32)), .val (.ref b1), .val (.ref b10), .val (.int (own_minI (p0 &&& (3 : Int32)) (2 : Int32))), .val (.int (own_minI (p1 &&& (3 : Int32)) (2 : Int32))), .val (.ref c76_0), .val (.ref c105_0), .val (.ref b107), .val (.ref b112), .val (.int (p2 &&& (3 : Int32))), .val (.ref b112), .val (.int (0 : Int32))] [(.int (1 : Int32))]))
          obtain ⟨fs, hr, hrun, hended, hW, hsame⟩ := X120.leave (v := some (.int (1 : Int32))) (fun h => by rw [Bd.returns] at h; cases h)
          refine ⟨_, _, retN X120 hx (t := .boolean) Bd.returns (by simp) (hb hby at_229) hr, hrun, hended, _, _, rfl, ?_, ⟨_, rfl⟩, hW, hsame.mono (by decide) (by decide)⟩
          show Q_rm0 Z p0 p1 p2 w_COMPACT_STRINGS clI w_cache h0 n0 _ T120.heap _
          rw [he120]
          exact ⟨rfl, N120⟩
      · skip
        refine OwnFin.st (fun _ q => XS.ifYes X115.here hx rfl (pc0 := 143) (pc' := 167) rfl (hb hby at_143) rfl (Jvm.Free.XT.i0_ne_t hc117) (by decide) (by decide) q) ?_
        show OwnFin _ _ _ _ (T115.setTop (mkF m 167 #[.val (.int p0), .val (.int p1), .val (.int p2), .val (.int ((((p0.toUInt32 >>> ((8 : Int32) &&& 31).toUInt32).toInt32) &&& (255 : Int32)).toUInt32.toUInt16.toUInt32.toInt32)), .val (.ref b1), .val (.ref b10), .val (.int (own_minI (p0 &&& (3 : Int32)) (2 : Int32))), .val (.int (own_minI (p1 &&& (3 : Int32)) (2 : Int32))), .val (.ref c76_0), .val (.ref c105_0), .val (.ref b107), .val (.ref b112), .val (.int (p2 &&& (3 : Int32))), .unset, .unset] []))
        refine OwnFin.st (fun _ q => XS.iload X115.here hx rfl (hb hby at_167) rfl q) ?_
        show OwnFin _ _ _ _ (T115.setTop (mkF m 169 #[.val (.int p0), .val (.int p1), .val (.int p2), .val (.int ((((p0.toUInt32 >>> ((8 : Int32) &&& 31).toUInt32).toInt32) &&& (255 : Int32)).toUInt32.toUInt16.toUInt32.toInt32)), .val (.ref b1), .val (.ref b10), .val (.int (own_minI (p0 &&& (3 : Int32)) (2 : Int32))), .val (.int (own_minI (p1 &&& (3 : Int32)) (2 : Int32))), .val (.ref c76_0), .val (.ref c105_0), .val (.ref b107), .val (.ref b112), .val (.int (p2 &&& (3 : Int32))), .unset, .unset] [(.int (p2 &&& (3 : Int32)))]))
        refine OwnFin.st (fun _ q => XS.iconst X115.here hx rfl (hb hby at_169) q) ?_
        show OwnFin _ _ _ _ (T115.setTop (mkF m 170 #[.val (.int p0), .val (.int p1), .val (.int p2), .val (.int ((((p0.toUInt32 >>> ((8 : Int32) &&& 31).toUInt32).toInt32) &&& (255 : Int32)).toUInt32.toUInt16.toUInt32.toInt32)), .val (.ref b1), .val (.ref b10), .val (.int (own_minI (p0 &&& (3 : Int32)) (2 : Int32))), .val (.int (own_minI (p1 &&& (3 : Int32)) (2 : Int32))), .val (.ref c76_0), .val (.ref c105_0), .val (.ref b107), .val (.ref b112), .val (.int (p2 &&& (3 : Int32))), .unset, .unset] [(.int (1 : Int32)), (.int (p2 &&& (3 : Int32)))]))
        by_cases hc121 : (p2 &&& (3 : Int32)) = (1 : Int32)
        · skip
          refine OwnFin.st (fun _ q => XS.icmpNo X115.here hx rfl (hb hby at_170) rfl (Jvm.Free.XT.ii_ne_f hc121) q) ?_
          show OwnFin _ _ _ _ (T115.setTop (mkF m 173 #[.val (.int p0), .val (.int p1), .val (.int p2), .val (.int ((((p0.toUInt32 >>> ((8 : Int32) &&& 31).toUInt32).toInt32) &&& (255 : Int32)).toUInt32.toUInt16.toUInt32.toInt32)), .val (.ref b1), .val (.ref b10), .val (.int (own_minI (p0 &&& (3 : Int32)) (2 : Int32))), .val (.int (own_minI (p1 &&& (3 : Int32)) (2 : Int32))), .val (.ref c76_0), .val (.ref c105_0), .val (.ref b107), .val (.ref b112), .val (.int (p2 &&& (3 : Int32))), .unset, .unset] []))
          refine OwnFin.st (fun _ q => XS.aconstNull X115.here hx rfl (hb hby at_173) q) ?_
          show OwnFin _ _ _ _ (T115.setTop (mkF m 174 #[.val (.int p0), .val (.int p1), .val (.int p2), .val (.int ((((p0.toUInt32 >>> ((8 : Int32) &&& 31).toUInt32).toInt32) &&& (255 : Int32)).toUInt32.toUInt16.toUInt32.toInt32)), .val (.ref b1), .val (.ref b10), .val (.int (own_minI (p0 &&& (3 : Int32)) (2 : Int32))), .val (.int (own_minI (p1 &&& (3 : Int32)) (2 : Int32))), .val (.ref c76_0), .val (.ref c105_0), .val (.ref b107), .val (.ref b112), .val (.int (p2 &&& (3 : Int32))), .unset, .unset] [.null]))
          refine OwnFin.st (fun _ q => XS.astore X115.here hx rfl (hb hby at_174) rfl rfl (l' := #[.val (.int p0), .val (.int p1), .val (.int p2), .val (.int ((((p0.toUInt32 >>> ((8 : Int32) &&& 31).toUInt32).toInt32) &&& (255 : Int32)).toUInt32.toUInt16.toUInt32.toInt32)), .val (.ref b1), .val (.ref b10), .val (.int (own_minI (p0 &&& (3 : Int32)) (2 : Int32))), .val (.int (own_minI (p1 &&& (3 : Int32)) (2 : Int32))), .val (.ref c76_0), .val (.ref c105_0), .val (.ref b107), .val (.ref b112), .val (.int (p2 &&& (3 : Int32))), .val .null, .unset]) rfl q) ?_
          show OwnFin _ _ _ _ (T115.setTop (mkF m 176 #[.val (.int p0), .val (.int p1), .val (.int p2), .val (.int ((((p0.toUInt32 >>> ((8 : Int32) &&& 31).toUInt32).toInt32) &&& (255 : Int32)).toUInt32.toUInt16.toUInt32.toInt32)), .val (.ref b1), .val (.ref b10), .val (.int (own_minI (p0 &&& (3 : Int32)) (2 : Int32))), .val (.int (own_minI (p1 &&& (3 : Int32)) (2 : Int32))), .val (.ref c76_0), .val (.ref c105_0), .val (.ref b107), .val (.ref b112), .val (.int (p2 &&& (3 : Int32))), .val .null, .unset] []))
          refine OwnFin.st (fun _ q => XS.iconst X115.here hx rfl (hb hby at_176) q) ?_
          show OwnFin _ _ _ _ (T115.setTop (mkF m 177 #[.val (.int p0), .val (.int p1), .val (.int p2), .val (.int ((((p0.toUInt32 >>> ((8 : Int32) &&& 31).toUInt32).toInt32) &&& (255 : Int32)).toUInt32.toUInt16.toUInt32.toInt32)), .val (.ref b1), .val (.ref b10), .val (.int (own_minI (p0 &&& (3 : Int32)) (2 : Int32))), .val (.int (own_minI (p1 &&& (3 : Int32)) (2 : Int32))), .val (.ref c76_0), .val (.ref c105_0), .val (.ref b107), .val (.ref b112), .val (.int (p2 &&& (3 : Int32))), .val .null, .unset] [(.int (0 : Int32))]))
          refine OwnFin.st (fun _ q => XS.istore X115.here hx rfl (hb hby at_177) rfl (l' := #[.val (.int p0), .val (.int p1), .val (.int p2), .val (.int ((((p0.toUInt32 >>> ((8 : Int32) &&& 31).toUInt32).toInt32) &&& (255 : Int32)).toUInt32.toUInt16.toUInt32.toInt32)), .val (.ref b1), .val (.ref b10), .val (.int (own_minI (p0 &&& (3 : Int32)) (2 : Int32))), .val (.int (own_minI (p1 &&& (3 : Int32)) (2 : Int32))), .val (.ref c76_0), .val (.ref c105_0), .val (.ref b107), .val (.ref b112), .val (.int (p2 &&& (3 : Int32))), .val .null, .val (.int (0 : Int32))]) rfl q) ?_
          show OwnFin _ _ _ _ (T115.setTop (mkF m 179 #[.val (.int p0), .val (.int p1), .val (.int p2), .val (.int ((((p0.toUInt32 >>> ((8 : Int32) &&& 31).toUInt32).toInt32) &&& (255 : Int32)).toUInt32.toUInt16.toUInt32.toInt32)), .val (.ref b1), .val (.ref b10), .val (.int (own_minI (p0 &&& (3 : Int32)) (2 : Int32))), .val (.int (own_minI (p1 &&& (3 : Int32)) (2 : Int32))), .val (.ref c76_0), .val (.ref c105_0), .val (.ref b107), .val (.ref b112), .val (.int (p2 &&& (3 : Int32))), .val .null, .val (.int (0 : Int32))] []))
          refine OwnFin.st (fun _ q => XS.goto X115.here hx rfl (pc0 := 179) (pc' := 212) rfl (hb hby at_179) (by decide) (by decide) q) ?_
          show OwnFin _ _ _ _ (T115.setTop (mkF m 212 #[.val (.int p0), .val (.int p1), .val (.int p2), .val (.int ((((p0.toUInt32 >>> ((8 : Int32) &&& 31).toUInt32).toInt32) &&& (255 : Int32)).toUInt32.toUInt16.toUInt32.toInt32)), .val (.ref b1), .val (.ref b10), .val (.int (own_minI (p0 &&& (3 : Int32)) (2 : Int32))), .val (.int (own_minI (p1 &&& (3 : Int32)) (2 : Int32))), .val (.ref c76_0), .val (.ref c105_0), .val (.ref b107), .val (.ref b112), .val (.int (p2 &&& (3 : Int32))), .val .null, .val (.int (0 : Int32))] []))
          refine OwnFin.st (fun _ q => XS.aload X115.here hx rfl (hb hby at_212) rfl rfl q) ?_
          show OwnFin _ _ _ _ (T115.setTop (mkF m 214 #[.val (.int p0), .val (.int p1), .val (.int p2), .val (.int ((((p0.toUInt32 >>> ((8 : Int32) &&& 31).toUInt32).toInt32) &&& (255 : Int32)).toUInt32.toUInt16.toUInt32.toInt32)), .val (.ref b1), .val (.ref b10), .val (.int (own_minI (p0 &&& (3 : Int32)) (2 : Int32))), .val (.int (own_minI (p1 &&& (3 : Int32)) (2 : Int32))), .val (.ref c76_0), .val (.ref c105_0), .val (.ref b107), .val (.ref b112), .val (.int (p2 &&& (3 : Int32))), .val .null, .val (.int (0 : Int32))] [(.ref b107)]))
          refine OwnFin.st (fun _ q => XS.aload X115.here hx rfl (hb hby at_214) rfl rfl q) ?_
          show OwnFin _ _ _ _ (T115.setTop (mkF m 216 #[.val (.int p0), .val (.int p1), .val (.int p2), .val (.int ((((p0.toUInt32 >>> ((8 : Int32) &&& 31).toUInt32).toInt32) &&& (255 : Int32)).toUInt32.toUInt16.toUInt32.toInt32)), .val (.ref b1), .val (.ref b10), .val (.int (own_minI (p0 &&& (3 : Int32)) (2 : Int32))), .val (.int (own_minI (p1 &&& (3 : Int32)) (2 : Int32))), .val (.ref c76_0), .val (.ref c105_0), .val (.ref b107), .val (.ref b112), .val (.int (p2 &&& (3 : Int32))), .val .null, .val (.int (0 : Int32))] [.null, (.ref b107)]))
          obtain ⟨cq122, kq122, q122a, q122b, q122c⟩ := isOf hZ e115 (((A107.keep K110).ext E112).keep K115)
          obtain ⟨_, _, ⟨T122, L122, k122, n122⟩, -, X122, ⟨Lc122, hQ122, l122, y122, z122⟩, st122⟩ := X115.virtualBack hx (y := (⟨"com/example/nepean/nepean/session/PendingKey", "equals", "(Ljava/lang/Object;)Z"⟩ : MethodName)) (z := (⟨"com/example/nepean/nepean/session/PendingKey", "equals", "(Ljava/lang/Object;)Z"⟩ : MethodName)) hown (mvT hZ (hw _ (List.mem_of_getElem? (i := 49) rfl))) (mvT hZ (hw _ (List.mem_of_getElem? (i := 50) rfl))) (notFace_of_selects (args := #[]) (mvT hZ (hw _ (List.mem_of_getElem? (i := 52) rfl)))) (mvT hZ (hw _ (List.mem_of_getElem? (i := 52) rfl))) (mvT hZ (hw _ (List.mem_of_getElem? (i := 51) rfl))) (by decide) (backOf (W := 0) (rm_eqN l Z av0 hw [] b107 h115 n0 (Nat.le_trans Z0 kp116.1) ) hZ (hw _ (List.mem_of_getElem? (i := 53) rfl)) (hw _ (List.mem_of_getElem? (i := 36) rfl)) (by decide) (by decide)) q122a q122c (g := (mkF m 216 #[.val (.int p0), .val (.int p1), .val (.int p2), .val (.int ((((p0.toUInt32 >>> ((8 : Int32) &&& 31).toUInt32).toInt32) &&& (255 : Int32)).toUInt32.toUInt16.toUInt32.toInt32)), .val (.ref b1), .val (.ref b10), .val (.int (own_minI (p0 &&& (3 : Int32)) (2 : Int32))), .val (.int (own_minI (p1 &&& (3 : Int32)) (2 : Int32))), .val (.ref c76_0), .val (.ref c105_0), .val (.ref b107), .val (.ref b112), .val (.int (p2 &&& (3 : Int32))), .val .null, .val (.int (0 : Int32))] [.null, (.ref b107)])) rfl (by rw [hml]; rfl) (Steps.refl _) (argsL := [.null]) (rest := []) (lenOf pd_10 rfl) rfl (by show 2 * 0 + _ ≤ _; exact Nat.le_of_eq rfl) (hb hby at_216) (fun _ _ => ⟨rfl, e115, (by decide : 10 + 0 ≤ _), (by decide : 18 + 0 ≤ _)⟩)
          dsimp only [Pt.U, Pt.locs, Pt.cells, Pt.slots] at X122 l122 y122 z122 st122 hQ122
          subst l122 y122 z122
          obtain ⟨rfl, N122q, he122⟩ := hQ122
          have N122 := Fr.app N115 N122q
          refine OwnFin.tr st122 ?_
          show OwnFin _ _ _ _ (T122.setTop (mkF m 219 #[.val (.int p0), .val (.int p1), .val (.int p2), .val (.int ((((p0.toUInt32 >>> ((8 : Int32) &&& 31).toUInt32).toInt32) &&& (255 : Int32)).toUInt32.toUInt16.toUInt32.toInt32)), .val (.ref b1), .val (.ref b10), .val (.int (own_minI (p0 &&& (3 : Int32)) (2 : Int32))), .val (.int (own_minI (p1 &&& (3 : Int32)) (2 : Int32))), .val (.ref c76_0), .val (.ref c105_0), .val (.ref b107), .val (.ref b112), .val (.int (p2 &&& (3 : Int32))), .val .null, .val (.int (0 : Int32))] [(.int (0 : Int32))]))
          refine OwnFin.st (fun _ q => XS.iload X122.here hx rfl (hb hby at_219) rfl q) ?_
          show OwnFin _ _ _ _ (T122.setTop (mkF m 221 #[.val (.int p0), .val (.int p1), .val (.int p2), .val (.int ((((p0.toUInt32 >>> ((8 : Int32) &&& 31).toUInt32).toInt32) &&& (255 : Int32)).toUInt32.toUInt16.toUInt32.toInt32)), .val (.ref b1), .val (.ref b10), .val (.int (own_minI (p0 &&& (3 : Int32)) (2 : Int32))), .val (.int (own_minI (p1 &&& (3 : Int32)) (2 : Int32))), .val (.ref c76_0), .val (.ref c105_0), .val (.ref b107), .val (.ref b112), .val (.int (p2 &&& (3 : Int32))), .val .null, .val (.int (0 : Int32))] [(.int (0 : Int32)), (.int (0 : Int32))]))
          refine OwnFin.st (fun _ q => XS.icmpNo X122.here hx rfl (hb hby at_221) rfl (Jvm.Free.XT.ii_ne_f (rfl : (0 : Int32) = (0 : Int32))) q) ?_
          show OwnFin _ _ _ _ (T122.setTop (mkF m 224 #[.val (.int p0), .val (.int p1), .val (.int p2), .val (.int ((((p0.toUInt32 >>> ((8 : Int32) &&& 31).toUInt32).toInt32) &&& (255 : Int32)).toUInt32.toUInt16.toUInt32.toInt32)), .val (.ref b1), .val (.ref b10), .val (.int (own_minI (p0 &&& (3 : Int32)) (2 : Int32))), .val (.int (own_minI (p1 &&& (3 : Int32)) (2 : Int32))), .val (.ref c76_0), .val (.ref c105_0), .val (.ref b107), .val (.ref b112), .val (.int (p2 &&& (3 : Int32))), .val .null, .val (.int (0 : Int32))] []))
          refine OwnFin.st (fun _ q => XS.iconst X122.here hx rfl (hb hby at_224) q) ?_
          show OwnFin _ _ _ _ (T122.setTop (mkF m 225 #[.val (.int p0), .val (.int p1), .val (.int p2), .val (.int ((((p0.toUInt32 >>> ((8 : Int32) &&& 31).toUInt32).toInt32) &&& (255 : Int32)).toUInt32.toUInt16.toUInt32.toInt32)), .val (.ref b1), .val (.ref b10), .val (.int (own_minI (p0 &&& (3 : Int32)) (2 : Int32))), .val (.int (own_minI (p1 &&& (3 : Int32)) (2 : Int32))), .val (.ref c76_0), .val (.ref c105_0), .val (.ref b107), .val (.ref b112), .val (.int (p2 &&& (3 : Int32))), .val .null, .val (.int (0 : Int32))] [(.int (1 : Int32))]))
          refine OwnFin.st (fun _ q => XS.goto X122.here hx rfl (pc0 := 225) (pc' := 229) rfl (hb hby at_225) (by decide) (by decide) q) ?_
          show OwnFin _ _ _ _ (T122.setTop (mkF m 229 #[.val (.int p0), .val (.int p1), .val (.int p2), .val (.int ((((p0.toUInt32 >>> ((8 : Int32) &&& 31).toUInt32).toInt32) &&& (255 : Int32)).toUInt32.toUInt16.toUInt32.toInt32)), .val (.ref b1), .val (.ref b10), .val (.int (own_minI (p0 &&& (3 : Int32)) (2 : Int32))), .val (.int (own_minI (p1 &&& (3 : Int32)) (2 : Int32))), .val (.ref c76_0), .val (.ref c105_0), .val (.ref b107), .val (.ref b112), .val (.int (p2 &&& (3 : Int32))), .val .null, .val (.int (0 : Int32))] [(.int (1 : Int32))]))
          obtain ⟨fs, hr, hrun, hended, hW, hsame⟩ := X122.leave (v := some (.int (1 : Int32))) (fun h => by rw [Bd.returns] at h; cases h)
          refine ⟨_, _, retN X122 hx (t := .boolean) Bd.returns (by simp) (hb hby at_229) hr, hrun, hended, _, _, rfl, ?_, ⟨_, rfl⟩, hW, hsame.mono (by decide) (by decide)⟩
          show Q_rm0 Z p0 p1 p2 w_COMPACT_STRINGS clI w_cache h0 n0 _ T122.heap _
          rw [he122]
          exact ⟨rfl, N122⟩
        · skip
          refine OwnFin.st (fun _ q => XS.icmpYes X115.here hx rfl (pc0 := 170) (pc' := 182) rfl (hb hby at_170) rfl (Jvm.Free.XT.ii_ne_t hc121) (by decide) (by decide) q) ?_
          show OwnFin _ _ _ _ (T115.setTop (mkF m 182 #[.val (.int p0), .val (.int p1), .val (.int p2), .val (.int ((((p0.toUInt32 >>> ((8 : Int32) &&& 31).toUInt32).toInt32) &&& (255 : Int32)).toUInt32.toUInt16.toUInt32.toInt32)), .val (.ref b1), .val (.ref b10), .val (.int (own_minI (p0 &&& (3 : Int32)) (2 : Int32))), .val (.int (own_minI (p1 &&& (3 : Int32)) (2 : Int32))), .val (.ref c76_0), .val (.ref c105_0), .val (.ref b107), .val (.ref b112), .val (.int (p2 &&& (3 : Int32))), .unset, .unset] []))
          refine OwnFin.st (fun _ q => XS.iload X115.here hx rfl (hb hby at_182) rfl q) ?_
          show OwnFin _ _ _ _ (T115.setTop (mkF m 184 #[.val (.int p0), .val (.int p1), .val (.int p2), .val (.int ((((p0.toUInt32 >>> ((8 : Int32) &&& 31).toUInt32).toInt32) &&& (255 : Int32)).toUInt32.toUInt16.toUInt32.toInt32)), .val (.ref b1), .val (.ref b10), .val (.int (own_minI (p0 &&& (3 : Int32)) (2 : Int32))), .val (.int (own_minI (p1 &&& (3 : Int32)) (2 : Int32))), .val (.ref c76_0), .val (.ref c105_0), .val (.ref b107), .val (.ref b112), .val (.int (p2 &&& (3 : Int32))), .unset, .unset] [(.int (p2 &&& (3 : Int32)))]))
          refine OwnFin.st (fun _ q => XS.iconst X115.here hx rfl (hb hby at_184) q) ?_
          show OwnFin _ _ _ _ (T115.setTop (mkF m 185 #[.val (.int p0), .val (.int p1), .val (.int p2), .val (.int ((((p0.toUInt32 >>> ((8 : Int32) &&& 31).toUInt32).toInt32) &&& (255 : Int32)).toUInt32.toUInt16.toUInt32.toInt32)), .val (.ref b1), .val (.ref b10), .val (.int (own_minI (p0 &&& (3 : Int32)) (2 : Int32))), .val (.int (own_minI (p1 &&& (3 : Int32)) (2 : Int32))), .val (.ref c76_0), .val (.ref c105_0), .val (.ref b107), .val (.ref b112), .val (.int (p2 &&& (3 : Int32))), .unset, .unset] [(.int (2 : Int32)), (.int (p2 &&& (3 : Int32)))]))
          by_cases hc123 : (p2 &&& (3 : Int32)) = (2 : Int32)
          · skip
            refine OwnFin.st (fun _ q => XS.icmpNo X115.here hx rfl (hb hby at_185) rfl (Jvm.Free.XT.ii_ne_f hc123) q) ?_
            show OwnFin _ _ _ _ (T115.setTop (mkF m 188 #[.val (.int p0), .val (.int p1), .val (.int p2), .val (.int ((((p0.toUInt32 >>> ((8 : Int32) &&& 31).toUInt32).toInt32) &&& (255 : Int32)).toUInt32.toUInt16.toUInt32.toInt32)), .val (.ref b1), .val (.ref b10), .val (.int (own_minI (p0 &&& (3 : Int32)) (2 : Int32))), .val (.int (own_minI (p1 &&& (3 : Int32)) (2 : Int32))), .val (.ref c76_0), .val (.ref c105_0), .val (.ref b107), .val (.ref b112), .val (.int (p2 &&& (3 : Int32))), .unset, .unset] []))
            refine OwnFin.st (fun _ q => XS.iload X115.here hx rfl (hb hby at_188) rfl q) ?_
            show OwnFin _ _ _ _ (T115.setTop (mkF m 190 #[.val (.int p0), .val (.int p1), .val (.int p2), .val (.int ((((p0.toUInt32 >>> ((8 : Int32) &&& 31).toUInt32).toInt32) &&& (255 : Int32)).toUInt32.toUInt16.toUInt32.toInt32)), .val (.ref b1), .val (.ref b10), .val (.int (own_minI (p0 &&& (3 : Int32)) (2 : Int32))), .val (.int (own_minI (p1 &&& (3 : Int32)) (2 : Int32))), .val (.ref c76_0), .val (.ref c105_0), .val (.ref b107), .val (.ref b112), .val (.int (p2 &&& (3 : Int32))), .unset, .unset] [(.int (own_minI (p0 &&& (3 : Int32)) (2 : Int32)))]))
            refine OwnFin.st (fun _ q => XS.aload X115.here hx rfl (hb hby at_190) rfl rfl q) ?_
            show OwnFin _ _ _ _ (T115.setTop (mkF m 192 #[.val (.int p0), .val (.int p1), .val (.int p2), .val (.int ((((p0.toUInt32 >>> ((8 : Int32) &&& 31).toUInt32).toInt32) &&& (255 : Int32)).toUInt32.toUInt16.toUInt32.toInt32)), .val (.ref b1), .val (.ref b10), .val (.int (own_minI (p0 &&& (3 : Int32)) (2 : Int32))), .val (.int (own_minI (p1 &&& (3 : Int32)) (2 : Int32))), .val (.ref c76_0), .val (.ref c105_0), .val (.ref b107), .val (.ref b112), .val (.int (p2 &&& (3 : Int32))), .unset, .unset] [(.ref b1), (.int (own_minI (p0 &&& (3 : Int32)) (2 : Int32)))]))
            refine OwnFin.st (fun _ q => XS.aload X115.here hx rfl (hb hby at_192) rfl rfl q) ?_
            show OwnFin _ _ _ _ (T115.setTop (mkF m 194 #[.val (.int p0), .val (.int p1), .val (.int p2), .val (.int ((((p0.toUInt32 >>> ((8 : Int32) &&& 31).toUInt32).toInt32) &&& (255 : Int32)).toUInt32.toUInt16.toUInt32.toInt32)), .val (.ref b1), .val (.ref b10), .val (.int (own_minI (p0 &&& (3 : Int32)) (2 : Int32))), .val (.int (own_minI (p1 &&& (3 : Int32)) (2 : Int32))), .val (.ref c76_0), .val (.ref c105_0), .val (.ref b107), .val (.ref b112), .val (.int (p2 &&& (3 : Int32))), .unset, .unset] [(.ref b10), (.ref b1), (.int (own_minI (p0 &&& (3 : Int32)) (2 : Int32)))]))
            by_cases hc124 : (own_minI (p0 &&& (3 : Int32)) (2 : Int32)) = (0 : Int32)
            · skip
              show OwnFin _ _ _ _ (T115.setTop (mkF m 194 #[.val (.int p0), .val (.int p1), .val (.int p2), .val (.int ((((p0.toUInt32 >>> ((8 : Int32) &&& 31).toUInt32).toInt32) &&& (255 : Int32)).toUInt32.toUInt16.toUInt32.toInt32)), .val (.ref b1), .val (.ref b10), .val (.int (own_minI (p0 &&& (3 : Int32)) (2 : Int32))), .val (.int (own_minI (p1 &&& (3 : Int32)) (2 : Int32))), .val (.ref c76_0), .val (.ref c105_0), .val (.ref b107), .val (.ref b112), .val (.int (p2 &&& (3 : Int32))), .unset, .unset] [(.ref b10), (.ref b1), (.int (own_minI (p0 &&& (3 : Int32)) (2 : Int32)))]))
              obtain ⟨_, _, ⟨T125, L125, k125, n125⟩, -, X125, ⟨Lc125, hQ125, l125, y125, z125⟩, st125⟩ := Jvm.LawKit.callS X115 hx (y := (⟨"com/example/nepean/nepean/session/PendingKeyEqualsPinLaw", "pick", "(ILjava/lang/Object;Ljava/lang/Object;)Ljava/lang/Object;"⟩ : MethodName)) hown (mvT hZ (hw _ (List.mem_of_getElem? (i := 37) rfl))) (mvT hZ (hw _ (List.mem_of_getElem? (i := 38) rfl))) (mvT hZ (hw _ (List.mem_of_getElem? (i := 39) rfl))) (mvT hZ (hw _ (List.mem_of_getElem? (i := 40) rfl))) (by decide) (backOf (W := 0) (rm_pick0 l Z av0 hw [] (own_minI (p0 &&& (3 : Int32)) (2 : Int32)) b1 b10 h115 n0 (Nat.le_trans Z0 kp116.1) hc124) hZ (hw _ (List.mem_of_getElem? (i := 40) rfl)) (hw _ (List.mem_of_getElem? (i := 39) rfl)) (by decide) (by decide)) (g := (mkF m 194 #[.val (.int p0), .val (.int p1), .val (.int p2), .val (.int ((((p0.toUInt32 >>> ((8 : Int32) &&& 31).toUInt32).toInt32) &&& (255 : Int32)).toUInt32.toUInt16.toUInt32.toInt32)), .val (.ref b1), .val (.ref b10), .val (.int (own_minI (p0 &&& (3 : Int32)) (2 : Int32))), .val (.int (own_minI (p1 &&& (3 : Int32)) (2 : Int32))), .val (.ref c76_0), .val (.ref c105_0), .val (.ref b107), .val (.ref b112), .val (.int (p2 &&& (3 : Int32))), .unset, .unset] [(.ref b10), (.ref b1), (.int (own_minI (p0 &&& (3 : Int32)) (2 : Int32)))])) rfl (by rw [hml]; rfl) (argsL := [(.int (own_minI (p0 &&& (3 : Int32)) (2 : Int32))), (.ref b1), (.ref b10)]) (rest := []) (lenOf pd_8 rfl) rfl (by show 2 * 0 + _ ≤ _; exact Nat.le_of_eq rfl) (hb hby at_194) (fun _ _ => ⟨rfl, e115, (by decide : 10 + 0 ≤ _), (by decide : 18 + 0 ≤ _)⟩)
              dsimp only [Pt.U, Pt.locs, Pt.cells, Pt.slots] at X125 l125 y125 z125 st125 hQ125
              subst l125 y125 z125
              obtain ⟨rfl, N125q, he125⟩ := hQ125
              have N125 := Fr.app N115 N125q
              refine OwnFin.st st125 ?_
              show OwnFin _ _ _ _ (T125.setTop (mkF m 197 #[.val (.int p0), .val (.int p1), .val (.int p2), .val (.int ((((p0.toUInt32 >>> ((8 : Int32) &&& 31).toUInt32).toInt32) &&& (255 : Int32)).toUInt32.toUInt16.toUInt32.toInt32)), .val (.ref b1), .val (.ref b10), .val (.int (own_minI (p0 &&& (3 : Int32)) (2 : Int32))), .val (.int (own_minI (p1 &&& (3 : Int32)) (2 : Int32))), .val (.ref c76_0), .val (.ref c105_0), .val (.ref b107), .val (.ref b112), .val (.int (p2 &&& (3 : Int32))), .unset, .unset] [(.ref b1)]))
              refine OwnFin.st (fun _ q => XS.astore X125.here hx rfl (hb hby at_197) rfl rfl (l' := #[.val (.int p0), .val (.int p1), .val (.int p2), .val (.int ((((p0.toUInt32 >>> ((8 : Int32) &&& 31).toUInt32).toInt32) &&& (255 : Int32)).toUInt32.toUInt16.toUInt32.toInt32)), .val (.ref b1), .val (.ref b10), .val (.int (own_minI (p0 &&& (3 : Int32)) (2 : Int32))), .val (.int (own_minI (p1 &&& (3 : Int32)) (2 : Int32))), .val (.ref c76_0), .val (.ref c105_0), .val (.ref b107), .val (.ref b112), .val (.int (p2 &&& (3 : Int32))), .val (.ref b1), .unset]) rfl q) ?_
              show OwnFin _ _ _ _ (T125.setTop (mkF m 199 #[.val (.int p0), .val (.int p1), .val (.int p2), .val (.int ((((p0.toUInt32 >>> ((8 : Int32) &&& 31).toUInt32).toInt32) &&& (255 : Int32)).toUInt32.toUInt16.toUInt32.toInt32)), .val (.ref b1), .val (.ref b10), .val (.int (own_minI (p0 &&& (3 : Int32)) (2 : Int32))), .val (.int (own_minI (p1 &&& (3 : Int32)) (2 : Int32))), .val (.ref c76_0), .val (.ref c105_0), .val (.ref b107), .val (.ref b112), .val (.int (p2 &&& (3 : Int32))), .val (.ref b1), .unset] []))
              refine OwnFin.st (fun _ q => XS.iconst X125.here hx rfl (hb hby at_199) q) ?_
              show OwnFin _ _ _ _ (T125.setTop (mkF m 200 #[.val (.int p0), .val (.int p1), .val (.int p2), .val (.int ((((p0.toUInt32 >>> ((8 : Int32) &&& 31).toUInt32).toInt32) &&& (255 : Int32)).toUInt32.toUInt16.toUInt32.toInt32)), .val (.ref b1), .val (.ref b10), .val (.int (own_minI (p0 &&& (3 : Int32)) (2 : Int32))), .val (.int (own_minI (p1 &&& (3 : Int32)) (2 : Int32))), .val (.ref c76_0), .val (.ref c105_0), .val (.ref b107), .val (.ref b112), .val (.int (p2 &&& (3 : Int32))), .val (.ref b1), .unset] [(.int (0 : Int32))]))
              refine OwnFin.st (fun _ q => XS.istore X125.here hx rfl (hb hby at_200) rfl (l' := #[.val (.int p0), .val (.int p1), .val (.int p2), .val (.int ((((p0.toUInt32 >>> ((8 : Int32) &&& 31).toUInt32).toInt32) &&& (255 : Int32)).toUInt32.toUInt16.toUInt32.toInt32)), .val (.ref b1), .val (.ref b10), .val (.int (own_minI (p0 &&& (3 : Int32)) (2 : Int32))), .val (.int (own_minI (p1 &&& (3 : Int32)) (2 : Int32))), .val (.ref c76_0), .val (.ref c105_0), .val (.ref b107), .val (.ref b112), .val (.int (p2 &&& (3 : Int32))), .val (.ref b1), .val (.int (0 : Int32))]) rfl q) ?_
              show OwnFin _ _ _ _ (T125.setTop (mkF m 202 #[.val (.int p0), .val (.int p1), .val (.int p2), .val (.int ((((p0.toUInt32 >>> ((8 : Int32) &&& 31).toUInt32).toInt32) &&& (255 : Int32)).toUInt32.toUInt16.toUInt32.toInt32)), .val (.ref b1), .val (.ref b10), .val (.int (own_minI (p0 &&& (3 : Int32)) (2 : Int32))), .val (.int (own_minI (p1 &&& (3 : Int32)) (2 : Int32))), .val (.ref c76_0), .val (.ref c105_0), .val (.ref b107), .val (.ref b112), .val (.int (p2 &&& (3 : Int32))), .val (.ref b1), .val (.int (0 : Int32))] []))
              refine OwnFin.st (fun _ q => XS.goto X125.here hx rfl (pc0 := 202) (pc' := 212) rfl (hb hby at_202) (by decide) (by decide) q) ?_
              show OwnFin _ _ _ _ (T125.setTop (mkF m 212 #[.val (.int p0), .val (.int p1), .val (.int p2), .val (.int ((((p0.toUInt32 >>> ((8 : Int32) &&& 31).toUInt32).toInt32) &&& (255 : Int32)).toUInt32.toUInt16.toUInt32.toInt32)), .val (.ref b1), .val (.ref b10), .val (.int (own_minI (p0 &&& (3 : Int32)) (2 : Int32))), .val (.int (own_minI (p1 &&& (3 : Int32)) (2 : Int32))), .val (.ref c76_0), .val (.ref c105_0), .val (.ref b107), .val (.ref b112), .val (.int (p2 &&& (3 : Int32))), .val (.ref b1), .val (.int (0 : Int32))] []))
              refine OwnFin.st (fun _ q => XS.aload X125.here hx rfl (hb hby at_212) rfl rfl q) ?_
              show OwnFin _ _ _ _ (T125.setTop (mkF m 214 #[.val (.int p0), .val (.int p1), .val (.int p2), .val (.int ((((p0.toUInt32 >>> ((8 : Int32) &&& 31).toUInt32).toInt32) &&& (255 : Int32)).toUInt32.toUInt16.toUInt32.toInt32)), .val (.ref b1), .val (.ref b10), .val (.int (own_minI (p0 &&& (3 : Int32)) (2 : Int32))), .val (.int (own_minI (p1 &&& (3 : Int32)) (2 : Int32))), .val (.ref c76_0), .val (.ref c105_0), .val (.ref b107), .val (.ref b112), .val (.int (p2 &&& (3 : Int32))), .val (.ref b1), .val (.int (0 : Int32))] [(.ref b107)]))
              refine OwnFin.st (fun _ q => XS.aload X125.here hx rfl (hb hby at_214) rfl rfl q) ?_
              show OwnFin _ _ _ _ (T125.setTop (mkF m 216 #[.val (.int p0), .val (.int p1), .val (.int p2), .val (.int ((((p0.toUInt32 >>> ((8 : Int32) &&& 31).toUInt32).toInt32) &&& (255 : Int32)).toUInt32.toUInt16.toUInt32.toInt32)), .val (.ref b1), .val (.ref b10), .val (.int (own_minI (p0 &&& (3 : Int32)) (2 : Int32))), .val (.int (own_minI (p1 &&& (3 : Int32)) (2 : Int32))), .val (.ref c76_0), .val (.ref c105_0), .val (.ref b107), .val (.ref b112), .val (.int (p2 &&& (3 : Int32))), .val (.ref b1), .val (.int (0 : Int32))] [(.ref b1), (.ref b107)]))
              obtain ⟨cq126, kq126, q126a, q126b, q126c⟩ := isOf hZ he125 (((A107.keep K110).ext E112).keep K115)
              obtain ⟨_, _, ⟨T126, L126, k126, n126⟩, -, X126, ⟨Lc126, hQ126, l126, y126, z126⟩, st126⟩ := X125.virtualBack hx (y := (⟨"com/example/nepean/nepean/session/PendingKey", "equals", "(Ljava/lang/Object;)Z"⟩ : MethodName)) (z := (⟨"com/example/nepean/nepean/session/PendingKey", "equals", "(Ljava/lang/Object;)Z"⟩ : MethodName)) hown (mvT hZ (hw _ (List.mem_of_getElem? (i := 49) rfl))) (mvT hZ (hw _ (List.mem_of_getElem? (i := 50) rfl))) (notFace_of_selects (args := #[]) (mvT hZ (hw _ (List.mem_of_getElem? (i := 52) rfl)))) (mvT hZ (hw _ (List.mem_of_getElem? (i := 52) rfl))) (mvT hZ (hw _ (List.mem_of_getElem? (i := 51) rfl))) (by decide) (backOf (W := 0) (rm_eqS l Z av0 hw [] b107 b1 h115 n0 (Nat.le_trans Z0 kp116.1) (((((((((((((A1.ext E3).wr W5).keep K8).ext E10).ext E12).wr W14).keep K16).keep K76).keep K105).ext E107).keep K110).ext E112).keep K115)) hZ (hw _ (List.mem_of_getElem? (i := 53) rfl)) (hw _ (List.mem_of_getElem? (i := 36) rfl)) (by decide) (by decide)) q126a q126c (g := (mkF m 216 #[.val (.int p0), .val (.int p1), .val (.int p2), .val (.int ((((p0.toUInt32 >>> ((8 : Int32) &&& 31).toUInt32).toInt32) &&& (255 : Int32)).toUInt32.toUInt16.toUInt32.toInt32)), .val (.ref b1), .val (.ref b10), .val (.int (own_minI (p0 &&& (3 : Int32)) (2 : Int32))), .val (.int (own_minI (p1 &&& (3 : Int32)) (2 : Int32))), .val (.ref c76_0), .val (.ref c105_0), .val (.ref b107), .val (.ref b112), .val (.int (p2 &&& (3 : Int32))), .val (.ref b1), .val (.int (0 : Int32))] [(.ref b1), (.ref b107)])) rfl (by rw [hml]; rfl) (Steps.refl _) (argsL := [(.ref b1)]) (rest := []) (lenOf pd_10 rfl) rfl (by show 2 * 0 + _ ≤ _; exact Nat.le_of_eq rfl) (hb hby at_216) (fun _ _ => ⟨rfl, he125, (by decide : 10 + 0 ≤ _), (by decide : 18 + 0 ≤ _)⟩)
              dsimp only [Pt.U, Pt.locs, Pt.cells, Pt.slots] at X126 l126 y126 z126 st126 hQ126
              subst l126 y126 z126
              obtain ⟨rfl, N126q, he126⟩ := hQ126
              have N126 := Fr.app N125 N126q
              refine OwnFin.tr st126 ?_
              show OwnFin _ _ _ _ (T126.setTop (mkF m 219 #[.val (.int p0), .val (.int p1), .val (.int p2), .val (.int ((((p0.toUInt32 >>> ((8 : Int32) &&& 31).toUInt32).toInt32) &&& (255 : Int32)).toUInt32.toUInt16.toUInt32.toInt32)), .val (.ref b1), .val (.ref b10), .val (.int (own_minI (p0 &&& (3 : Int32)) (2 : Int32))), .val (.int (own_minI (p1 &&& (3 : Int32)) (2 : Int32))), .val (.ref c76_0), .val (.ref c105_0), .val (.ref b107), .val (.ref b112), .val (.int (p2 &&& (3 : Int32))), .val (.ref b1), .val (.int (0 : Int32))] [(.int (0 : Int32))]))
              refine OwnFin.st (fun _ q => XS.iload X126.here hx rfl (hb hby at_219) rfl q) ?_
              show OwnFin _ _ _ _ (T126.setTop (mkF m 221 #[.val (.int p0), .val (.int p1), .val (.int p2), .val (.int ((((p0.toUInt32 >>> ((8 : Int32) &&& 31).toUInt32).toInt32) &&& (255 : Int32)).toUInt32.toUInt16.toUInt32.toInt32)), .val (.ref b1), .val (.ref b10), .val (.int (own_minI (p0 &&& (3 : Int32)) (2 : Int32))), .val (.int (own_minI (p1 &&& (3 : Int32)) (2 : Int32))), .val (.ref c76_0), .val (.ref c105_0), .val (.ref b107), .val (.ref b112), .val (.int (p2 &&& (3 : Int32))), .val (.ref b1), .val (.int (0 : Int32))] [(.int (0 : Int32)), (.int (0 : Int32))]))
              refine OwnFin.st (fun _ q => XS.icmpNo X126.here hx rfl (hb hby at_221) rfl (Jvm.Free.XT.ii_ne_f (rfl : (0 : Int32) = (0 : Int32))) q) ?_
              show OwnFin _ _ _ _ (T126.setTop (mkF m 224 #[.val (.int p0), .val (.int p1), .val (.int p2), .val (.int ((((p0.toUInt32 >>> ((8 : Int32) &&& 31).toUInt32).toInt32) &&& (255 : Int32)).toUInt32.toUInt16.toUInt32.toInt32)), .val (.ref b1), .val (.ref b10), .val (.int (own_minI (p0 &&& (3 : Int32)) (2 : Int32))), .val (.int (own_minI (p1 &&& (3 : Int32)) (2 : Int32))), .val (.ref c76_0), .val (.ref c105_0), .val (.ref b107), .val (.ref b112), .val (.int (p2 &&& (3 : Int32))), .val (.ref b1), .val (.int (0 : Int32))] []))
              refine OwnFin.st (fun _ q => XS.iconst X126.here hx rfl (hb hby at_224) q) ?_
              show OwnFin _ _ _ _ (T126.setTop (mkF m 225 #[.val (.int p0), .val (.int p1), .val (.int p2), .val (.int ((((p0.toUInt32 >>> ((8 : Int32) &&& 31).toUInt32).toInt32) &&& (255 : Int32)).toUInt32.toUInt16.toUInt32.toInt32)), .val (.ref b1), .val (.ref b10), .val (.int (own_minI (p0 &&& (3 : Int32)) (2 : Int32))), .val (.int (own_minI (p1 &&& (3 : Int32)) (2 : Int32))), .val (.ref c76_0), .val (.ref c105_0), .val (.ref b107), .val (.ref b112), .val (.int (p2 &&& (3 : Int32))), .val (.ref b1), .val (.int (0 : Int32))] [(.int (1 : Int32))]))
              refine OwnFin.st (fun _ q => XS.goto X126.here hx rfl (pc0 := 225) (pc' := 229) rfl (hb hby at_225) (by decide) (by decide) q) ?_
              show OwnFin _ _ _ _ (T126.setTop (mkF m 229 #[.val (.int p0), .val (.int p1), .val (.int p2), .val (.int ((((p0.toUInt32 >>> ((8 : Int32) &&& 31).toUInt32).toInt32) &&& (255 : Int32)).toUInt32.toUInt16.toUInt32.toInt32)), .val (.ref b1), .val (.ref b10), .val (.int (own_minI (p0 &&& (3 : Int32)) (2 : Int32))), .val (.int (own_minI (p1 &&& (3 : Int32)) (2 : Int32))), .val (.ref c76_0), .val (.ref c105_0), .val (.ref b107), .val (.ref b112), .val (.int (p2 &&& (3 : Int32))), .val (.ref b1), .val (.int (0 : Int32))] [(.int (1 : Int32))]))
              obtain ⟨fs, hr, hrun, hended, hW, hsame⟩ := X126.leave (v := some (.int (1 : Int32))) (fun h => by rw [Bd.returns] at h; cases h)
              refine ⟨_, _, retN X126 hx (t := .boolean) Bd.returns (by simp) (hb hby at_229) hr, hrun, hended, _, _, rfl, ?_, ⟨_, rfl⟩, hW, hsame.mono (by decide) (by decide)⟩
              show Q_rm0 Z p0 p1 p2 w_COMPACT_STRINGS clI w_cache h0 n0 _ T126.heap _
              rw [he126]
              exact ⟨rfl, N126⟩
            · skip
              show OwnFin _ _ _ _ (T115.setTop (mkF m 194 #[.val (.int p0), .val (.int p1), .val (.int p2), .val (.int ((((p0.toUInt32 >>> ((8 : Int32) &&& 31).toUInt32).toInt32) &&& (255 : Int32)).toUInt32.toUInt16.toUInt32.toInt32)), .val (.ref b1), .val (.ref b10), .val (.int (own_minI (p0 &&& (3 : Int32)) (2 : Int32))), .val (.int (own_minI (p1 &&& (3 : Int32)) (2 : Int32))), .val (.ref c76_0), .val (.ref c105_0), .val (.ref b107), .val (.ref b112), .val (.int (p2 &&& (3 : Int32))), .unset, .unset] [(.ref b10), (.ref b1), (.int (own_minI (p0 &&& (3 : Int32)) (2 : Int32)))]))
              by_cases hc127 : (own_minI (p0 &&& (3 : Int32)) (2 : Int32)) = (1 : Int32)
              · skip
                show OwnFin _ _ _ _ (T115.setTop (mkF m 194 #[.val (.int p0), .val (.int p1), .val (.int p2), .val (.int ((((p0.toUInt32 >>> ((8 : Int32) &&& 31).toUInt32).toInt32) &&& (255 : Int32)).toUInt32.toUInt16.toUInt32.toInt32)), .val (.ref b1), .val (.ref b10), .val (.int (own_minI (p0 &&& (3 : Int32)) (2 : Int32))), .val (.int (own_minI (p1 &&& (3 : Int32)) (2 : Int32))), .val (.ref c76_0), .val (.ref c105_0), .val (.ref b107), .val (.ref b112), .val (.int (p2 &&& (3 : Int32))), .unset, .unset] [(.ref b10), (.ref b1), (.int (own_minI (p0 &&& (3 : Int32)) (2 : Int32)))]))
                obtain ⟨_, _, ⟨T128, L128, k128, n128⟩, -, X128, ⟨Lc128, hQ128, l128, y128, z128⟩, st128⟩ := Jvm.LawKit.callS X115 hx (y := (⟨"com/example/nepean/nepean/session/PendingKeyEqualsPinLaw", "pick", "(ILjava/lang/Object;Ljava/lang/Object;)Ljava/lang/Object;"⟩ : MethodName)) hown (mvT hZ (hw _ (List.mem_of_getElem? (i := 37) rfl))) (mvT hZ (hw _ (List.mem_of_getElem? (i := 38) rfl))) (mvT hZ (hw _ (List.mem_of_getElem? (i := 39) rfl))) (mvT hZ (hw _ (List.mem_of_getElem? (i := 40) rfl))) (by decide) (backOf (W := 0) (rm_pick1 l Z av0 hw [] (own_minI (p0 &&& (3 : Int32)) (2 : Int32)) b1 b10 h115 n0 (Nat.le_trans Z0 kp116.1) hc124 hc127) hZ (hw _ (List.mem_of_getElem? (i := 40) rfl)) (hw _ (List.mem_of_getElem? (i := 39) rfl)) (by decide) (by decide)) (g := (mkF m 194 #[.val (.int p0), .val (.int p1), .val (.int p2), .val (.int ((((p0.toUInt32 >>> ((8 : Int32) &&& 31).toUInt32).toInt32) &&& (255 : Int32)).toUInt32.toUInt16.toUInt32.toInt32)), .val (.ref b1), .val (.ref b10), .val (.int (own_minI (p0 &&& (3 : Int32)) (2 : Int32))), .val (.int (own_minI (p1 &&& (3 : Int32)) (2 : Int32))), .val (.ref c76_0), .val (.ref c105_0), .val (.ref b107), .val (.ref b112), .val (.int (p2 &&& (3 : Int32))), .unset, .unset] [(.ref b10), (.ref b1), (.int (own_minI (p0 &&& (3 : Int32)) (2 : Int32)))])) rfl (by rw [hml]; rfl) (argsL := [(.int (own_minI (p0 &&& (3 : Int32)) (2 : Int32))), (.ref b1), (.ref b10)]) (rest := []) (lenOf pd_8 rfl) rfl (by show 2 * 0 + _ ≤ _; exact Nat.le_of_eq rfl) (hb hby at_194) (fun _ _ => ⟨rfl, e115, (by decide : 10 + 0 ≤ _), (by decide : 18 + 0 ≤ _)⟩)
                dsimp only [Pt.U, Pt.locs, Pt.cells, Pt.slots] at X128 l128 y128 z128 st128 hQ128
                subst l128 y128 z128
                obtain ⟨rfl, N128q, he128⟩ := hQ128
                have N128 := Fr.app N115 N128q
                refine OwnFin.st st128 ?_
                show OwnFin _ _ _ _ (T128.setTop (mkF m 197 #[.val (.int p0), .val (.int p1), .val (.int p2), .val (.int ((((p0.toUInt32 >>> ((8 : Int32) &&& 31).toUInt32).toInt32) &&& (255 : Int32)).toUInt32.toUInt16.toUInt32.toInt32)), .val (.ref b1), .val (.ref b10), .val (.int (own_minI (p0 &&& (3 : Int32)) (2 : Int32))), .val (.int (own_minI (p1 &&& (3 : Int32)) (2 : Int32))), .val (.ref c76_0), .val (.ref c105_0), .val (.ref b107), .val (.ref b112), .val (.int (p2 &&& (3 : Int32))), .unset, .unset] [(.ref b10)]))
                refine OwnFin.st (fun _ q => XS.astore X128.here hx rfl (hb hby at_197) rfl rfl (l' := #[.val (.int p0), .val (.int p1), .val (.int p2), .val (.int ((((p0.toUInt32 >>> ((8 : Int32) &&& 31).toUInt32).toInt32) &&& (255 : Int32)).toUInt32.toUInt16.toUInt32.toInt32)), .val (.ref b1), .val (.ref b10), .val (.int (own_minI (p0 &&& (3 : Int32)) (2 : Int32))), .val (.int (own_minI (p1 &&& (3 : Int32)) (2 : Int32))), .val (.ref c76_0), .val (.ref c105_0), .val (.ref b107), .val (.ref b112), .val (.int (p2 &&& (3 : Int32))), .val (.ref b10), .unset]) rfl q) ?_
                show OwnFin _ _ _ _ (T128.setTop (mkF m 199 #[.val (.int p0), .val (.int p1), .val (.int p2), .val (.int ((((p0.toUInt32 >>> ((8 : Int32) &&& 31).toUInt32).toInt32) &&& (255 : Int32)).toUInt32.toUInt16.toUInt32.toInt32)), .val (.ref b1), .val (.ref b10), .val (.int (own_minI (p0 &&& (3 : Int32)) (2 : Int32))), .val (.int (own_minI (p1 &&& (3 : Int32)) (2 : Int32))), .val (.ref c76_0), .val (.ref c105_0), .val (.ref b107), .val (.ref b112), .val (.int (p2 &&& (3 : Int32))), .val (.ref b10), .unset] []))
                refine OwnFin.st (fun _ q => XS.iconst X128.here hx rfl (hb hby at_199) q) ?_
                show OwnFin _ _ _ _ (T128.setTop (mkF m 200 #[.val (.int p0), .val (.int p1), .val (.int p2), .val (.int ((((p0.toUInt32 >>> ((8 : Int32) &&& 31).toUInt32).toInt32) &&& (255 : Int32)).toUInt32.toUInt16.toUInt32.toInt32)), .val (.ref b1), .val (.ref b10), .val (.int (own_minI (p0 &&& (3 : Int32)) (2 : Int32))), .val (.int (own_minI (p1 &&& (3 : Int32)) (2 : Int32))), .val (.ref c76_0), .val (.ref c105_0), .val (.ref b107), .val (.ref b112), .val (.int (p2 &&& (3 : Int32))), .val (.ref b10), .unset] [(.int (0 : Int32))]))
                refine OwnFin.st (fun _ q => XS.istore X128.here hx rfl (hb hby at_200) rfl (l' := #[.val (.int p0), .val (.int p1), .val (.int p2), .val (.int ((((p0.toUInt32 >>> ((8 : Int32) &&& 31).toUInt32).toInt32) &&& (255 : Int32)).toUInt32.toUInt16.toUInt32.toInt32)), .val (.ref b1), .val (.ref b10), .val (.int (own_minI (p0 &&& (3 : Int32)) (2 : Int32))), .val (.int (own_minI (p1 &&& (3 : Int32)) (2 : Int32))), .val (.ref c76_0), .val (.ref c105_0), .val (.ref b107), .val (.ref b112), .val (.int (p2 &&& (3 : Int32))), .val (.ref b10), .val (.int (0 : Int32))]) rfl q) ?_
                show OwnFin _ _ _ _ (T128.setTop (mkF m 202 #[.val (.int p0), .val (.int p1), .val (.int p2), .val (.int ((((p0.toUInt32 >>> ((8 : Int32) &&& 31).toUInt32).toInt32) &&& (255 : Int32)).toUInt32.toUInt16.toUInt32.toInt32)), .val (.ref b1), .val (.ref b10), .val (.int (own_minI (p0 &&& (3 : Int32)) (2 : Int32))), .val (.int (own_minI (p1 &&& (3 : Int32)) (2 : Int32))), .val (.ref c76_0), .val (.ref c105_0), .val (.ref b107), .val (.ref b112), .val (.int (p2 &&& (3 : Int32))), .val (.ref b10), .val (.int (0 : Int32))] []))
                refine OwnFin.st (fun _ q => XS.goto X128.here hx rfl (pc0 := 202) (pc' := 212) rfl (hb hby at_202) (by decide) (by decide) q) ?_
                show OwnFin _ _ _ _ (T128.setTop (mkF m 212 #[.val (.int p0), .val (.int p1), .val (.int p2), .val (.int ((((p0.toUInt32 >>> ((8 : Int32) &&& 31).toUInt32).toInt32) &&& (255 : Int32)).toUInt32.toUInt16.toUInt32.toInt32)), .val (.ref b1), .val (.ref b10), .val (.int (own_minI (p0 &&& (3 : Int32)) (2 : Int32))), .val (.int (own_minI (p1 &&& (3 : Int32)) (2 : Int32))), .val (.ref c76_0), .val (.ref c105_0), .val (.ref b107), .val (.ref b112), .val (.int (p2 &&& (3 : Int32))), .val (.ref b10), .val (.int (0 : Int32))] []))
                refine OwnFin.st (fun _ q => XS.aload X128.here hx rfl (hb hby at_212) rfl rfl q) ?_
                show OwnFin _ _ _ _ (T128.setTop (mkF m 214 #[.val (.int p0), .val (.int p1), .val (.int p2), .val (.int ((((p0.toUInt32 >>> ((8 : Int32) &&& 31).toUInt32).toInt32) &&& (255 : Int32)).toUInt32.toUInt16.toUInt32.toInt32)), .val (.ref b1), .val (.ref b10), .val (.int (own_minI (p0 &&& (3 : Int32)) (2 : Int32))), .val (.int (own_minI (p1 &&& (3 : Int32)) (2 : Int32))), .val (.ref c76_0), .val (.ref c105_0), .val (.ref b107), .val (.ref b112), .val (.int (p2 &&& (3 : Int32))), .val (.ref b10), .val (.int (0 : Int32))] [(.ref b107)]))
                refine OwnFin.st (fun _ q => XS.aload X128.here hx rfl (hb hby at_214) rfl rfl q) ?_
                show OwnFin _ _ _ _ (T128.setTop (mkF m 216 #[.val (.int p0), .val (.int p1), .val (.int p2), .val (.int ((((p0.toUInt32 >>> ((8 : Int32) &&& 31).toUInt32).toInt32) &&& (255 : Int32)).toUInt32.toUInt16.toUInt32.toInt32)), .val (.ref b1), .val (.ref b10), .val (.int (own_minI (p0 &&& (3 : Int32)) (2 : Int32))), .val (.int (own_minI (p1 &&& (3 : Int32)) (2 : Int32))), .val (.ref c76_0), .val (.ref c105_0), .val (.ref b107), .val (.ref b112), .val (.int (p2 &&& (3 : Int32))), .val (.ref b10), .val (.int (0 : Int32))] [(.ref b10), (.ref b107)]))
                obtain ⟨cq129, kq129, q129a, q129b, q129c⟩ := isOf hZ he128 (((A107.keep K110).ext E112).keep K115)
                obtain ⟨_, _, ⟨T129, L129, k129, n129⟩, -, X129, ⟨Lc129, hQ129, l129, y129, z129⟩, st129⟩ := X128.virtualBack hx (y := (⟨"com/example/nepean/nepean/session/PendingKey", "equals", "(Ljava/lang/Object;)Z"⟩ : MethodName)) (z := (⟨"com/example/nepean/nepean/session/PendingKey", "equals", "(Ljava/lang/Object;)Z"⟩ : MethodName)) hown (mvT hZ (hw _ (List.mem_of_getElem? (i := 49) rfl))) (mvT hZ (hw _ (List.mem_of_getElem? (i := 50) rfl))) (notFace_of_selects (args := #[]) (mvT hZ (hw _ (List.mem_of_getElem? (i := 52) rfl)))) (mvT hZ (hw _ (List.mem_of_getElem? (i := 52) rfl))) (mvT hZ (hw _ (List.mem_of_getElem? (i := 51) rfl))) (by decide) (backOf (W := 0) (rm_eqS l Z av0 hw [] b107 b10 h115 n0 (Nat.le_trans Z0 kp116.1) (((((((((A10.ext E12).wr W14).keep K16).keep K76).keep K105).ext E107).keep K110).ext E112).keep K115)) hZ (hw _ (List.mem_of_getElem? (i := 53) rfl)) (hw _ (List.mem_of_getElem? (i := 36) rfl)) (by decide) (by decide)) q129a q129c (g := (mkF m 216 #[.val (.int p0), .val (.int p1), .val (.int p2), .val (.int ((((p0.toUInt32 >>> ((8 : Int32) &&& 31).toUInt32).toInt32) &&& (255 : Int32)).toUInt32.toUInt16.toUInt32.toInt32)), .val (.ref b1), .val (.ref b10), .val (.int (own_minI (p0 &&& (3 : Int32)) (2 : Int32))), .val (.int (own_minI (p1 &&& (3 : Int32)) (2 : Int32))), .val (.ref c76_0), .val (.ref c105_0), .val (.ref b107), .val (.ref b112), .val (.int (p2 &&& (3 : Int32))), .val (.ref b10), .val (.int (0 : Int32))] [(.ref b10), (.ref b107)])) rfl (by rw [hml]; rfl) (Steps.refl _) (argsL := [(.ref b10)]) (rest := []) (lenOf pd_10 rfl) rfl (by show 2 * 0 + _ ≤ _; exact Nat.le_of_eq rfl) (hb hby at_216) (fun _ _ => ⟨rfl, he128, (by decide : 10 + 0 ≤ _), (by decide : 18 + 0 ≤ _)⟩)
                dsimp only [Pt.U, Pt.locs, Pt.cells, Pt.slots] at X129 l129 y129 z129 st129 hQ129
                subst l129 y129 z129
                obtain ⟨rfl, N129q, he129⟩ := hQ129
                have N129 := Fr.app N128 N129q
                refine OwnFin.tr st129 ?_
                show OwnFin _ _ _ _ (T129.setTop (mkF m 219 #[.val (.int p0), .val (.int p1), .val (.int p2), .val (.int ((((p0.toUInt32 >>> ((8 : Int32) &&& 31).toUInt32).toInt32) &&& (255 : Int32)).toUInt32.toUInt16.toUInt32.toInt32)), .val (.ref b1), .val (.ref b10), .val (.int (own_minI (p0 &&& (3 : Int32)) (2 : Int32))), .val (.int (own_minI (p1 &&& (3 : Int32)) (2 : Int32))), .val (.ref c76_0), .val (.ref c105_0), .val (.ref b107), .val (.ref b112), .val (.int (p2 &&& (3 : Int32))), .val (.ref b10), .val (.int (0 : Int32))] [(.int (0 : Int32))]))
                refine OwnFin.st (fun _ q => XS.iload X129.here hx rfl (hb hby at_219) rfl q) ?_
                show OwnFin _ _ _ _ (T129.setTop (mkF m 221 #[.val (.int p0), .val (.int p1), .val (.int p2), .val (.int ((((p0.toUInt32 >>> ((8 : Int32) &&& 31).toUInt32).toInt32) &&& (255 : Int32)).toUInt32.toUInt16.toUInt32.toInt32)), .val (.ref b1), .val (.ref b10), .val (.int (own_minI (p0 &&& (3 : Int32)) (2 : Int32))), .val (.int (own_minI (p1 &&& (3 : Int32)) (2 : Int32))), .val (.ref c76_0), .val (.ref c105_0), .val (.ref b107), .val (.ref b112), .val (.int (p2 &&& (3 : Int32))), .val (.ref b10), .val (.int (0 : Int32))] [(.int (0 : Int32)), (.int (0 : Int32))]))
                refine OwnFin.st (fun _ q => XS.icmpNo X129.here hx rfl (hb hby at_221) rfl (Jvm.Free.XT.ii_ne_f (rfl : (0 : Int32) = (0 : Int32))) q) ?_
                show OwnFin _ _ _ _ (T129.setTop (mkF m 224 #[.val (.int p0), .val (.int p1), .val (.int p2), .val (.int ((((p0.toUInt32 >>> ((8 : Int32) &&& 31).toUInt32).toInt32) &&& (255 : Int32)).toUInt32.toUInt16.toUInt32.toInt32)), .val (.ref b1), .val (.ref b10), .val (.int (own_minI (p0 &&& (3 : Int32)) (2 : Int32))), .val (.int (own_minI (p1 &&& (3 : Int32)) (2 : Int32))), .val (.ref c76_0), .val (.ref c105_0), .val (.ref b107), .val (.ref b112), .val (.int (p2 &&& (3 : Int32))), .val (.ref b10), .val (.int (0 : Int32))] []))
                refine OwnFin.st (fun _ q => XS.iconst X129.here hx rfl (hb hby at_224) q) ?_
                show OwnFin _ _ _ _ (T129.setTop (mkF m 225 #[.val (.int p0), .val (.int p1), .val (.int p2), .val (.int ((((p0.toUInt32 >>> ((8 : Int32) &&& 31).toUInt32).toInt32) &&& (255 : Int32)).toUInt32.toUInt16.toUInt32.toInt32)), .val (.ref b1), .val (.ref b10), .val (.int (own_minI (p0 &&& (3 : Int32)) (2 : Int32))), .val (.int (own_minI (p1 &&& (3 : Int32)) (2 : Int32))), .val (.ref c76_0), .val (.ref c105_0), .val (.ref b107), .val (.ref b112), .val (.int (p2 &&& (3 : Int32))), .val (.ref b10), .val (.int (0 : Int32))] [(.int (1 : Int32))]))
                refine OwnFin.st (fun _ q => XS.goto X129.here hx rfl (pc0 := 225) (pc' := 229) rfl (hb hby at_225) (by decide) (by decide) q) ?_
                show OwnFin _ _ _ _ (T129.setTop (mkF m 229 #[.val (.int p0), .val (.int p1), .val (.int p2), .val (.int ((((p0.toUInt32 >>> ((8 : Int32) &&& 31).toUInt32).toInt32) &&& (255 : Int32)).toUInt32.toUInt16.toUInt32.toInt32)), .val (.ref b1), .val (.ref b10), .val (.int (own_minI (p0 &&& (3 : Int32)) (2 : Int32))), .val (.int (own_minI (p1 &&& (3 : Int32)) (2 : Int32))), .val (.ref c76_0), .val (.ref c105_0), .val (.ref b107), .val (.ref b112), .val (.int (p2 &&& (3 : Int32))), .val (.ref b10), .val (.int (0 : Int32))] [(.int (1 : Int32))]))
                obtain ⟨fs, hr, hrun, hended, hW, hsame⟩ := X129.leave (v := some (.int (1 : Int32))) (fun h => by rw [Bd.returns] at h; cases h)
                refine ⟨_, _, retN X129 hx (t := .boolean) Bd.returns (by simp) (hb hby at_229) hr, hrun, hended, _, _, rfl, ?_, ⟨_, rfl⟩, hW, hsame.mono (by decide) (by decide)⟩
                show Q_rm0 Z p0 p1 p2 w_COMPACT_STRINGS clI w_cache h0 n0 _ T129.heap _
                rw [he129]
                exact ⟨rfl, N129⟩
              · skip
                show OwnFin _ _ _ _ (T115.setTop (mkF m 194 #[.val (.int p0), .val (.int p1), .val (.int p2), .val (.int ((((p0.toUInt32 >>> ((8 : Int32) &&& 31).toUInt32).toInt32) &&& (255 : Int32)).toUInt32.toUInt16.toUInt32.toInt32)), .val (.ref b1), .val (.ref b10), .val (.int (own_minI (p0 &&& (3 : Int32)) (2 : Int32))), .val (.int (own_minI (p1 &&& (3 : Int32)) (2 : Int32))), .val (.ref c76_0), .val (.ref c105_0), .val (.ref b107), .val (.ref b112), .val (.int (p2 &&& (3 : Int32))), .unset, .unset] [(.ref b10), (.ref b1), (.int (own_minI (p0 &&& (3 : Int32)) (2 : Int32)))]))
                obtain ⟨_, _, ⟨T130, L130, k130, n130⟩, -, X130, ⟨Lc130, hQ130, l130, y130, z130⟩, st130⟩ := Jvm.LawKit.callS X115 hx (y := (⟨"com/example/nepean/nepean/session/PendingKeyEqualsPinLaw", "pick", "(ILjava/lang/Object;Ljava/lang/Object;)Ljava/lang/Object;"⟩ : MethodName)) hown (mvT hZ (hw _ (List.mem_of_getElem? (i := 37) rfl))) (mvT hZ (hw _ (List.mem_of_getElem? (i := 38) rfl))) (mvT hZ (hw _ (List.mem_of_getElem? (i := 39) rfl))) (mvT hZ (hw _ (List.mem_of_getElem? (i := 40) rfl))) (by decide) (backOf (W := 0) (rm_pick2 l Z av0 hw [] (own_minI (p0 &&& (3 : Int32)) (2 : Int32)) b1 b10 h115 n0 (Nat.le_trans Z0 kp116.1) hc124 hc127) hZ (hw _ (List.mem_of_getElem? (i := 40) rfl)) (hw _ (List.mem_of_getElem? (i := 39) rfl)) (by decide) (by decide)) (g := (mkF m 194 #[.val (.int p0), .val (.int p1), .val (.int p2), .val (.int ((((p0.toUInt32 >>> ((8 : Int32) &&& 31).toUInt32).toInt32) &&& (255 : Int32)).toUInt32.toUInt16.toUInt32.toInt32)), .val (.ref b1), .val (.ref b10), .val (.int (own_minI (p0 &&& (3 : Int32)) (2 : Int32))), .val (.int (own_minI (p1 &&& (3 : Int32)) (2 : Int32))), .val (.ref c76_0), .val (.ref c105_0), .val (.ref b107), .val (.ref b112), .val (.int (p2 &&& (3 : Int32))), .unset, .unset] [(.ref b10), (.ref b1), (.int (own_minI (p0 &&& (3 : Int32)) (2 : Int32)))])) rfl (by rw [hml]; rfl) (argsL := [(.int (own_minI (p0 &&& (3 : Int32)) (2 : Int32))), (.ref b1), (.ref b10)]) (rest := []) (lenOf pd_8 rfl) rfl (by show 2 * 0 + _ ≤ _; exact Nat.le_of_eq rfl) (hb hby at_194) (fun _ _ => ⟨rfl, e115, (by decide : 10 + 0 ≤ _), (by decide : 18 + 0 ≤ _)⟩)
                dsimp only [Pt.U, Pt.locs, Pt.cells, Pt.slots] at X130 l130 y130 z130 st130 hQ130
                subst l130 y130 z130
                obtain ⟨rfl, N130q, he130⟩ := hQ130
                have N130 := Fr.app N115 N130q
                refine OwnFin.st st130 ?_
                show OwnFin _ _ _ _ (T130.setTop (mkF m 197 #[.val (.int p0), .val (.int p1), .val (.int p2), .val (.int ((((p0.toUInt32 >>> ((8 : Int32) &&& 31).toUInt32).toInt32) &&& (255 : Int32)).toUInt32.toUInt16.toUInt32.toInt32)), .val (.ref b1), .val (.ref b10), .val (.int (own_minI (p0 &&& (3 : Int32)) (2 : Int32))), .val (.int (own_minI (p1 &&& (3 : Int32)) (2 : Int32))), .val (.ref c76_0), .val (.ref c105_0), .val (.ref b107), .val (.ref b112), .val (.int (p2 &&& (3 : Int32))), .unset, .unset] [.null]))
                refine OwnFin.st (fun _ q => XS.astore X130.here hx rfl (hb hby at_197) rfl rfl (l' := #[.val (.int p0), .val (.int p1), .val (.int p2), .val (.int ((((p0.toUInt32 >>> ((8 : Int32) &&& 31).toUInt32).toInt32) &&& (255 : Int32)).toUInt32.toUInt16.toUInt32.toInt32)), .val (.ref b1), .val (.ref b10), .val (.int (own_minI (p0 &&& (3 : Int32)) (2 : Int32))), .val (.int (own_minI (p1 &&& (3 : Int32)) (2 : Int32))), .val (.ref c76_0), .val (.ref c105_0), .val (.ref b107), .val (.ref b112), .val (.int (p2 &&& (3 : Int32))), .val .null, .unset]) rfl q) ?_
                show OwnFin _ _ _ _ (T130.setTop (mkF m 199 #[.val (.int p0), .val (.int p1), .val (.int p2), .val (.int ((((p0.toUInt32 >>> ((8 : Int32) &&& 31).toUInt32).toInt32) &&& (255 : Int32)).toUInt32.toUInt16.toUInt32.toInt32)), .val (.ref b1), .val (.ref b10), .val (.int (own_minI (p0 &&& (3 : Int32)) (2 : Int32))), .val (.int (own_minI (p1 &&& (3 : Int32)) (2 : Int32))), .val (.ref c76_0), .val (.ref c105_0), .val (.ref b107), .val (.ref b112), .val (.int (p2 &&& (3 : Int32))), .val .null, .unset] []))
                refine OwnFin.st (fun _ q => XS.iconst X130.here hx rfl (hb hby at_199) q) ?_
                show OwnFin _ _ _ _ (T130.setTop (mkF m 200 #[.val (.int p0), .val (.int p1), .val (.int p2), .val (.int ((((p0.toUInt32 >>> ((8 : Int32) &&& 31).toUInt32).toInt32) &&& (255 : Int32)).toUInt32.toUInt16.toUInt32.toInt32)), .val (.ref b1), .val (.ref b10), .val (.int (own_minI (p0 &&& (3 : Int32)) (2 : Int32))), .val (.int (own_minI (p1 &&& (3 : Int32)) (2 : Int32))), .val (.ref c76_0), .val (.ref c105_0), .val (.ref b107), .val (.ref b112), .val (.int (p2 &&& (3 : Int32))), .val .null, .unset] [(.int (0 : Int32))]))
                refine OwnFin.st (fun _ q => XS.istore X130.here hx rfl (hb hby at_200) rfl (l' := #[.val (.int p0), .val (.int p1), .val (.int p2), .val (.int ((((p0.toUInt32 >>> ((8 : Int32) &&& 31).toUInt32).toInt32) &&& (255 : Int32)).toUInt32.toUInt16.toUInt32.toInt32)), .val (.ref b1), .val (.ref b10), .val (.int (own_minI (p0 &&& (3 : Int32)) (2 : Int32))), .val (.int (own_minI (p1 &&& (3 : Int32)) (2 : Int32))), .val (.ref c76_0), .val (.ref c105_0), .val (.ref b107), .val (.ref b112), .val (.int (p2 &&& (3 : Int32))), .val .null, .val (.int (0 : Int32))]) rfl q) ?_
                show OwnFin _ _ _ _ (T130.setTop (mkF m 202 #[.val (.int p0), .val (.int p1), .val (.int p2), .val (.int ((((p0.toUInt32 >>> ((8 : Int32) &&& 31).toUInt32).toInt32) &&& (255 : Int32)).toUInt32.toUInt16.toUInt32.toInt32)), .val (.ref b1), .val (.ref b10), .val (.int (own_minI (p0 &&& (3 : Int32)) (2 : Int32))), .val (.int (own_minI (p1 &&& (3 : Int32)) (2 : Int32))), .val (.ref c76_0), .val (.ref c105_0), .val (.ref b107), .val (.ref b112), .val (.int (p2 &&& (3 : Int32))), .val .null, .val (.int (0 : Int32))] []))
                refine OwnFin.st (fun _ q => XS.goto X130.here hx rfl (pc0 := 202) (pc' := 212) rfl (hb hby at_202) (by decide) (by decide) q) ?_
                show OwnFin _ _ _ _ (T130.setTop (mkF m 212 #[.val (.int p0), .val (.int p1), .val (.int p2), .val (.int ((((p0.toUInt32 >>> ((8 : Int32) &&& 31).toUInt32).toInt32) &&& (255 : Int32)).toUInt32.toUInt16.toUInt32.toInt32)), .val (.ref b1), .val (.ref b10), .val (.int (own_minI (p0 &&& (3 : Int32)) (2 : Int32))), .val (.int (own_minI (p1 &&& (3 : Int32)) (2 : Int32))), .val (.ref c76_0), .val (.ref c105_0), .val (.ref b107), .val (.ref b112), .val (.int (p2 &&& (3 : Int32))), .val .null, .val (.int (0 : Int32))] []))
                refine OwnFin.st (fun _ q => XS.aload X130.here hx rfl (hb hby at_212) rfl rfl q) ?_
                show OwnFin _ _ _ _ (T130.setTop (mkF m 214 #[.val (.int p0), .val (.int p1), .val (.int p2), .val (.int ((((p0.toUInt32 >>> ((8 : Int32) &&& 31).toUInt32).toInt32) &&& (255 : Int32)).toUInt32.toUInt16.toUInt32.toInt32)), .val (.ref b1), .val (.ref b10), .val (.int (own_minI (p0 &&& (3 : Int32)) (2 : Int32))), .val (.int (own_minI (p1 &&& (3 : Int32)) (2 : Int32))), .val (.ref c76_0), .val (.ref c105_0), .val (.ref b107), .val (.ref b112), .val (.int (p2 &&& (3 : Int32))), .val .null, .val (.int (0 : Int32))] [(.ref b107)]))
                refine OwnFin.st (fun _ q => XS.aload X130.here hx rfl (hb hby at_214) rfl rfl q) ?_
                show OwnFin _ _ _ _ (T130.setTop (mkF m 216 #[.val (.int p0), .val (.int p1), .val (.int p2), .val (.int ((((p0.toUInt32 >>> ((8 : Int32) &&& 31).toUInt32).toInt32) &&& (255 : Int32)).toUInt32.toUInt16.toUInt32.toInt32)), .val (.ref b1), .val (.ref b10), .val (.int (own_minI (p0 &&& (3 : Int32)) (2 : Int32))), .val (.int (own_minI (p1 &&& (3 : Int32)) (2 : Int32))), .val (.ref c76_0), .val (.ref c105_0), .val (.ref b107), .val (.ref b112), .val (.int (p2 &&& (3 : Int32))), .val .null, .val (.int (0 : Int32))] [.null, (.ref b107)]))
                obtain ⟨cq131, kq131, q131a, q131b, q131c⟩ := isOf hZ he130 (((A107.keep K110).ext E112).keep K115)
                obtain ⟨_, _, ⟨T131, L131, k131, n131⟩, -, X131, ⟨Lc131, hQ131, l131, y131, z131⟩, st131⟩ := X130.virtualBack hx (y := (⟨"com/example/nepean/nepean/session/PendingKey", "equals", "(Ljava/lang/Object;)Z"⟩ : MethodName)) (z := (⟨"com/example/nepean/nepean/session/PendingKey", "equals", "(Ljava/lang/Object;)Z"⟩ : MethodName)) hown (mvT hZ (hw _ (List.mem_of_getElem? (i := 49) rfl))) (mvT hZ (hw _ (List.mem_of_getElem? (i := 50) rfl))) (notFace_of_selects (args := #[]) (mvT hZ (hw _ (List.mem_of_getElem? (i := 52) rfl)))) (mvT hZ (hw _ (List.mem_of_getElem? (i := 52) rfl))) (mvT hZ (hw _ (List.mem_of_getElem? (i := 51) rfl))) (by decide) (backOf (W := 0) (rm_eqN l Z av0 hw [] b107 h115 n0 (Nat.le_trans Z0 kp116.1) ) hZ (hw _ (List.mem_of_getElem? (i := 53) rfl)) (hw _ (List.mem_of_getElem? (i := 36) rfl)) (by decide) (by decide)) q131a q131c (g := (mkF m 216 #[.val (.int p0), .val (.int p1), .val (.int p2), .val (.int ((((p0.toUInt32 >>> ((8 : Int32) &&& 31).toUInt32).toInt32) &&& (255 : Int32)).toUInt32.toUInt16.toUInt32.toInt32)), .val (.ref b1), .val (.ref b10), .val (.int (own_minI (p0 &&& (3 : Int32)) (2 : Int32))), .val (.int (own_minI (p1 &&& (3 : Int32)) (2 : Int32))), .val (.ref c76_0), .val (.ref c105_0), .val (.ref b107), .val (.ref b112), .val (.int (p2 &&& (3 : Int32))), .val .null, .val (.int (0 : Int32))] [.null, (.ref b107)])) rfl (by rw [hml]; rfl) (Steps.refl _) (argsL := [.null]) (rest := []) (lenOf pd_10 rfl) rfl (by show 2 * 0 + _ ≤ _; exact Nat.le_of_eq rfl) (hb hby at_216) (fun _ _ => ⟨rfl, he130, (by decide : 10 + 0 ≤ _), (by decide : 18 + 0 ≤ _)⟩)
                dsimp only [Pt.U, Pt.locs, Pt.cells, Pt.slots] at X131 l131 y131 z131 st131 hQ131
                subst l131 y131 z131
                obtain ⟨rfl, N131q, he131⟩ := hQ131
                have N131 := Fr.app N130 N131q
                refine OwnFin.tr st131 ?_
                show OwnFin _ _ _ _ (T131.setTop (mkF m 219 #[.val (.int p0), .val (.int p1), .val (.int p2), .val (.int ((((p0.toUInt32 >>> ((8 : Int32) &&& 31).toUInt32).toInt32) &&& (255 : Int32)).toUInt32.toUInt16.toUInt32.toInt32)), .val (.ref b1), .val (.ref b10), .val (.int (own_minI (p0 &&& (3 : Int32)) (2 : Int32))), .val (.int (own_minI (p1 &&& (3 : Int32)) (2 : Int32))), .val (.ref c76_0), .val (.ref c105_0), .val (.ref b107), .val (.ref b112), .val (.int (p2 &&& (3 : Int32))), .val .null, .val (.int (0 : Int32))] [(.int (0 : Int32))]))
                refine OwnFin.st (fun _ q => XS.iload X131.here hx rfl (hb hby at_219) rfl q) ?_
                show OwnFin _ _ _ _ (T131.setTop (mkF m 221 #[.val (.int p0), .val (.int p1), .val (.int p2), .val (.int ((((p0.toUInt32 >>> ((8 : Int32) &&& 31).toUInt32).toInt32) &&& (255 : Int32)).toUInt32.toUInt16.toUInt32.toInt32)), .val (.ref b1), .val (.ref b10), .val (.int (own_minI (p0 &&& (3 : Int32)) (2 : Int32))), .val (.int (own_minI (p1 &&& (3 : Int32)) (2 : Int32))), .val (.ref c76_0), .val (.ref c105_0), .val (.ref b107), .val (.ref b112), .val (.int (p2 &&& (3 : Int32))), .val .null, .val (.int (0 : Int32))] [(.int (0 : Int32)), (.int (0 : Int32))]))
                refine OwnFin.st (fun _ q => XS.icmpNo X131.here hx rfl (hb hby at_221) rfl (Jvm.Free.XT.ii_ne_f (rfl : (0 : Int32) = (0 : Int32))) q) ?_
                show OwnFin _ _ _ _ (T131.setTop (mkF m 224 #[.val (.int p0), .val (.int p1), .val (.int p2), .val (.int ((((p0.toUInt32 >>> ((8 : Int32) &&& 31).toUInt32).toInt32) &&& (255 : Int32)).toUInt32.toUInt16.toUInt32.toInt32)), .val (.ref b1), .val (.ref b10), .val (.int (own_minI (p0 &&& (3 : Int32)) (2 : Int32))), .val (.int (own_minI (p1 &&& (3 : Int32)) (2 : Int32))), .val (.ref c76_0), .val (.ref c105_0), .val (.ref b107), .val (.ref b112), .val (.int (p2 &&& (3 : Int32))), .val .null, .val (.int (0 : Int32))] []))
                refine OwnFin.st (fun _ q => XS.iconst X131.here hx rfl (hb hby at_224) q) ?_
                show OwnFin _ _ _ _ (T131.setTop (mkF m 225 #[.val (.int p0), .val (.int p1), .val (.int p2), .val (.int ((((p0.toUInt32 >>> ((8 : Int32) &&& 31).toUInt32).toInt32) &&& (255 : Int32)).toUInt32.toUInt16.toUInt32.toInt32)), .val (.ref b1), .val (.ref b10), .val (.int (own_minI (p0 &&& (3 : Int32)) (2 : Int32))), .val (.int (own_minI (p1 &&& (3 : Int32)) (2 : Int32))), .val (.ref c76_0), .val (.ref c105_0), .val (.ref b107), .val (.ref b112), .val (.int (p2 &&& (3 : Int32))), .val .null, .val (.int (0 : Int32))] [(.int (1 : Int32))]))
                refine OwnFin.st (fun _ q => XS.goto X131.here hx rfl (pc0 := 225) (pc' := 229) rfl (hb hby at_225) (by decide) (by decide) q) ?_
                show OwnFin _ _ _ _ (T131.setTop (mkF m 229 #[.val (.int p0), .val (.int p1), .val (.int p2), .val (.int ((((p0.toUInt32 >>> ((8 : Int32) &&& 31).toUInt32).toInt32) &&& (255 : Int32)).toUInt32.toUInt16.toUInt32.toInt32)), .val (.ref b1), .val (.ref b10), .val (.int (own_minI (p0 &&& (3 : Int32)) (2 : Int32))), .val (.int (own_minI (p1 &&& (3 : Int32)) (2 : Int32))), .val (.ref c76_0), .val (.ref c105_0), .val (.ref b107), .val (.ref b112), .val (.int (p2 &&& (3 : Int32))), .val .null, .val (.int (0 : Int32))] [(.int (1 : Int32))]))
                obtain ⟨fs, hr, hrun, hended, hW, hsame⟩ := X131.leave (v := some (.int (1 : Int32))) (fun h => by rw [Bd.returns] at h; cases h)
                refine ⟨_, _, retN X131 hx (t := .boolean) Bd.returns (by simp) (hb hby at_229) hr, hrun, hended, _, _, rfl, ?_, ⟨_, rfl⟩, hW, hsame.mono (by decide) (by decide)⟩
                show Q_rm0 Z p0 p1 p2 w_COMPACT_STRINGS clI w_cache h0 n0 _ T131.heap _
                rw [he131]
                exact ⟨rfl, N131⟩
          · skip
            refine OwnFin.st (fun _ q => XS.icmpYes X115.here hx rfl (pc0 := 185) (pc' := 205) rfl (hb hby at_185) rfl (Jvm.Free.XT.ii_ne_t hc123) (by decide) (by decide) q) ?_
            show OwnFin _ _ _ _ (T115.setTop (mkF m 205 #[.val (.int p0), .val (.int p1), .val (.int p2), .val (.int ((((p0.toUInt32 >>> ((8 : Int32) &&& 31).toUInt32).toInt32) &&& (255 : Int32)).toUInt32.toUInt16.toUInt32.toInt32)), .val (.ref b1), .val (.ref b10), .val (.int (own_minI (p0 &&& (3 : Int32)) (2 : Int32))), .val (.int (own_minI (p1 &&& (3 : Int32)) (2 : Int32))), .val (.ref c76_0), .val (.ref c105_0), .val (.ref b107), .val (.ref b112), .val (.int (p2 &&& (3 : Int32))), .unset, .unset] []))
            refine OwnFin.st (fun _ q => XS.aload X115.here hx rfl (hb hby at_205) rfl rfl q) ?_
            show OwnFin _ _ _ _ (T115.setTop (mkF m 207 #[.val (.int p0), .val (.int p1), .val (.int p2), .val (.int ((((p0.toUInt32 >>> ((8 : Int32) &&& 31).toUInt32).toInt32) &&& (255 : Int32)).toUInt32.toUInt16.toUInt32.toInt32)), .val (.ref b1), .val (.ref b10), .val (.int (own_minI (p0 &&& (3 : Int32)) (2 : Int32))), .val (.int (own_minI (p1 &&& (3 : Int32)) (2 : Int32))), .val (.ref c76_0), .val (.ref c105_0), .val (.ref b107), .val (.ref b112), .val (.int (p2 &&& (3 : Int32))), .unset, .unset] [(.ref b107)]))
            refine OwnFin.st (fun _ q => XS.astore X115.here hx rfl (hb hby at_207) rfl rfl (l' := #[.val (.int p0), .val (.int p1), .val (.int p2), .val (.int ((((p0.toUInt32 >>> ((8 : Int32) &&& 31).toUInt32).toInt32) &&& (255 : Int32)).toUInt32.toUInt16.toUInt32.toInt32)), .val (.ref b1), .val (.ref b10), .val (.int (own_minI (p0 &&& (3 : Int32)) (2 : Int32))), .val (.int (own_minI (p1 &&& (3 : Int32)) (2 : Int32))), .val (.ref c76_0), .val (.ref c105_0), .val (.ref b107), .val (.ref b112), .val (.int (p2 &&& (3 : Int32))), .val (.ref b107), .unset]) rfl q) ?_
            show OwnFin _ _ _ _ (T115.setTop (mkF m 209 #[.val (.int p0), .val (.int p1), .val (.int p2), .val (.int ((((p0.toUInt32 >>> ((8 : Int32) &&& 31).toUInt32).toInt32) &&& (255 : Int32)).toUInt32.toUInt16.toUInt32.toInt32)), .val (.ref b1), .val (.ref b10), .val (.int (own_minI (p0 &&& (3 : Int32)) (2 : Int32))), .val (.int (own_minI (p1 &&& (3 : Int32)) (2 : Int32))), .val (.ref c76_0), .val (.ref c105_0), .val (.ref b107), .val (.ref b112), .val (.int (p2 &&& (3 : Int32))), .val (.ref b107), .unset] []))
            refine OwnFin.st (fun _ q => XS.iconst X115.here hx rfl (hb hby at_209) q) ?_
            show OwnFin _ _ _ _ (T115.setTop (mkF m 210 #[.val (.int p0), .val (.int p1), .val (.int p2), .val (.int ((((p0.toUInt32 >>> ((8 : Int32) &&& 31).toUInt32).toInt32) &&& (255 : Int32)).toUInt32.toUInt16.toUInt32.toInt32)), .val (.ref b1), .val (.ref b10), .val (.int (own_minI (p0 &&& (3 : Int32)) (2 : Int32))), .val (.int (own_minI (p1 &&& (3 : Int32)) (2 : Int32))), .val (.ref c76_0), .val (.ref c105_0), .val (.ref b107), .val (.ref b112), .val (.int (p2 &&& (3 : Int32))), .val (.ref b107), .unset] [(.int (1 : Int32))]))
            refine OwnFin.st (fun _ q => XS.istore X115.here hx rfl (hb hby at_210) rfl (l' := #[.val (.int p0), .val (.int p1), .val (.int p2), .val (.int ((((p0.toUInt32 >>> ((8 : Int32) &&& 31).toUInt32).toInt32) &&& (255 : Int32)).toUInt32.toUInt16.toUInt32.toInt32)), .val (.ref b1), .val (.ref b10), .val (.int (own_minI (p0 &&& (3 : Int32)) (2 : Int32))), .val (.int (own_minI (p1 &&& (3 : Int32)) (2 : Int32))), .val (.ref c76_0), .val (.ref c105_0), .val (.ref b107), .val (.ref b112), .val (.int (p2 &&& (3 : Int32))), .val (.ref b107), .val (.int (1 : Int32))]) rfl q) ?_
            show OwnFin _ _ _ _ (T115.setTop (mkF m 212 #[.val (.int p0), .val (.int p1), .val (.int p2), .val (.int ((((p0.toUInt32 >>> ((8 : Int32) &&& 31).toUInt32).toInt32) &&& (255 : Int32)).toUInt32.toUInt16.toUInt32.toInt32)), .val (.ref b1), .val (.ref b10), .val (.int (own_minI (p0 &&& (3 : Int32)) (2 : Int32))), .val (.int (own_minI (p1 &&& (3 : Int32)) (2 : Int32))), .val (.ref c76_0), .val (.ref c105_0), .val (.ref b107), .val (.ref b112), .val (.int (p2 &&& (3 : Int32))), .val (.ref b107), .val (.int (1 : Int32))] []))
            refine OwnFin.st (fun _ q => XS.aload X115.here hx rfl (hb hby at_212) rfl rfl q) ?_
            show OwnFin _ _ _ _ (T115.setTop (mkF m 214 #[.val (.int p0), .val (.int p1), .val (.int p2), .val (.int ((((p0.toUInt32 >>> ((8 : Int32) &&& 31).toUInt32).toInt32) &&& (255 : Int32)).toUInt32.toUInt16.toUInt32.toInt32)), .val (.ref b1), .val (.ref b10), .val (.int (own_minI (p0 &&& (3 : Int32)) (2 : Int32))), .val (.int (own_minI (p1 &&& (3 : Int32)) (2 : Int32))), .val (.ref c76_0), .val (.ref c105_0), .val (.ref b107), .val (.ref b112), .val (.int (p2 &&& (3 : Int32))), .val (.ref b107), .val (.int (1 : Int32))] [(.ref b107)]))
            refine OwnFin.st (fun _ q => XS.aload X115.here hx rfl (hb hby at_214) rfl rfl q) ?_
            show OwnFin _ _ _ _ (T115.setTop (mkF m 216 #[.val (.int p0), .val (.int p1), .val (.int p2), .val (.int ((((p0.toUInt32 >>> ((8 : Int32) &&& 31).toUInt32).toInt32) &&& (255 : Int32)).toUInt32.toUInt16.toUInt32.toInt32)), .val (.ref b1), .val (.ref b10), .val (.int (own_minI (p0 &&& (3 : Int32)) (2 : Int32))), .val (.int (own_minI (p1 &&& (3 : Int32)) (2 : Int32))), .val (.ref c76_0), .val (.ref c105_0), .val (.ref b107), .val (.ref b112), .val (.int (p2 &&& (3 : Int32))), .val (.ref b107), .val (.int (1 : Int32))] [(.ref b107), (.ref b107)]))
            obtain ⟨cq132, kq132, q132a, q132b, q132c⟩ := isOf hZ e115 (((A107.keep K110).ext E112).keep K115)
            obtain ⟨_, _, ⟨T132, L132, k132, n132⟩, -, X132, ⟨Lc132, hQ132, l132, y132, z132⟩, st132⟩ := X115.virtualBack hx (y := (⟨"com/example/nepean/nepean/session/PendingKey", "equals", "(Ljava/lang/Object;)Z"⟩ : MethodName)) (z := (⟨"com/example/nepean/nepean/session/PendingKey", "equals", "(Ljava/lang/Object;)Z"⟩ : MethodName)) hown (mvT hZ (hw _ (List.mem_of_getElem? (i := 49) rfl))) (mvT hZ (hw _ (List.mem_of_getElem? (i := 50) rfl))) (notFace_of_selects (args := #[]) (mvT hZ (hw _ (List.mem_of_getElem? (i := 52) rfl)))) (mvT hZ (hw _ (List.mem_of_getElem? (i := 52) rfl))) (mvT hZ (hw _ (List.mem_of_getElem? (i := 51) rfl))) (by decide) (backOf (W := 0) (rm_eqPT l Z av0 hw [] b107 b107 (own_pick (own_minI (p0 &&& (3 : Int32)) (2 : Int32)) b1 b10) (own_pick (own_minI (p0 &&& (3 : Int32)) (2 : Int32)) b1 b10) h115 n0 (Nat.le_trans Z0 kp116.1) (((A107.keep K110).ext E112).keep K115) ((r110_0.ext E112).keep K115 (ninS (Nat.ne_of_lt (Nat.lt_of_lt_of_le (A107.keep K110).lt bi_b112)) nin0)) ((r110_0.ext E112).keep K115 (ninS (Nat.ne_of_lt (Nat.lt_of_lt_of_le (A107.keep K110).lt bi_b112)) nin0)) (rfl : (own_pick (own_minI (p0 &&& (3 : Int32)) (2 : Int32)) b1 b10) = (own_pick (own_minI (p0 &&& (3 : Int32)) (2 : Int32)) b1 b10)) (own_pickr _ _ _) (own_pickr _ _ _)) hZ (hw _ (List.mem_of_getElem? (i := 53) rfl)) (hw _ (List.mem_of_getElem? (i := 36) rfl)) (by decide) (by decide)) q132a q132c (g := (mkF m 216 #[.val (.int p0), .val (.int p1), .val (.int p2), .val (.int ((((p0.toUInt32 >>> ((8 : Int32) &&& 31).toUInt32).toInt32) &&& (255 : Int32)).toUInt32.toUInt16.toUInt32.toInt32)), .val (.ref b1), .val (.ref b10), .val (.int (own_minI (p0 &&& (3 : Int32)) (2 : Int32))), .val (.int (own_minI (p1 &&& (3 : Int32)) (2 : Int32))), .val (.ref c76_0), .val (.ref c105_0), .val (.ref b107), .val (.ref b112), .val (.int (p2 &&& (3 : Int32))), .val (.ref b107), .val (.int (1 : Int32))] [(.ref b107), (.ref b107)])) rfl (by rw [hml]; rfl) (Steps.refl _) (argsL := [(.ref b107)]) (rest := []) (lenOf pd_10 rfl) rfl (by show 2 * 0 + _ ≤ _; exact Nat.le_of_eq rfl) (hb hby at_216) (fun _ _ => ⟨rfl, e115, (by decide : 10 + 0 ≤ _), (by decide : 18 + 0 ≤ _)⟩)
            dsimp only [Pt.U, Pt.locs, Pt.cells, Pt.slots] at X132 l132 y132 z132 st132 hQ132
            subst l132 y132 z132
            obtain ⟨rfl, N132q, he132⟩ := hQ132
            have N132 := Fr.app N115 N132q
            refine OwnFin.tr st132 ?_
            show OwnFin _ _ _ _ (T132.setTop (mkF m 219 #[.val (.int p0), .val (.int p1), .val (.int p2), .val (.int ((((p0.toUInt32 >>> ((8 : Int32) &&& 31).toUInt32).toInt32) &&& (255 : Int32)).toUInt32.toUInt16.toUInt32.toInt32)), .val (.ref b1), .val (.ref b10), .val (.int (own_minI (p0 &&& (3 : Int32)) (2 : Int32))), .val (.int (own_minI (p1 &&& (3 : Int32)) (2 : Int32))), .val (.ref c76_0), .val (.ref c105_0), .val (.ref b107), .val (.ref b112), .val (.int (p2 &&& (3 : Int32))), .val (.ref b107), .val (.int (1 : Int32))] [(.int (1 : Int32))]))
            refine OwnFin.st (fun _ q => XS.iload X132.here hx rfl (hb hby at_219) rfl q) ?_
            show OwnFin _ _ _ _ (T132.setTop (mkF m 221 #[.val (.int p0), .val (.int p1), .val (.int p2), .val (.int ((((p0.toUInt32 >>> ((8 : Int32) &&& 31).toUInt32).toInt32) &&& (255 : Int32)).toUInt32.toUInt16.toUInt32.toInt32)), .val (.ref b1), .val (.ref b10), .val (.int (own_minI (p0 &&& (3 : Int32)) (2 : Int32))), .val (.int (own_minI (p1 &&& (3 : Int32)) (2 : Int32))), .val (.ref c76_0), .val (.ref c105_0), .val (.ref b107), .val (.ref b112), .val (.int (p2 &&& (3 : Int32))), .val (.ref b107), .val (.int (1 : Int32))] [(.int (1 : Int32)), (.int (1 : Int32))]))
            refine OwnFin.st (fun _ q => XS.icmpNo X132.here hx rfl (hb hby at_221) rfl (Jvm.Free.XT.ii_ne_f (rfl : (1 : Int32) = (1 : Int32))) q) ?_
            show OwnFin _ _ _ _ (T132.setTop (mkF m 224 #[.val (.int p0), .val (.int p1), .val (.int p2), .val (.int ((((p0.toUInt32 >>> ((8 : Int32) &&& 31).toUInt32).toInt32) &&& (255 : Int32)).toUInt32.toUInt16.toUInt32.toInt32)), .val (.ref b1), .val (.ref b10), .val (.int (own_minI (p0 &&& (3 : Int32)) (2 : Int32))), .val (.int (own_minI (p1 &&& (3 : Int32)) (2 : Int32))), .val (.ref c76_0), .val (.ref c105_0), .val (.ref b107), .val (.ref b112), .val (.int (p2 &&& (3 : Int32))), .val (.ref b107), .val (.int (1 : Int32))] []))
            refine OwnFin.st (fun _ q => XS.iconst X132.here hx rfl (hb hby at_224) q) ?_
            show OwnFin _ _ _ _ (T132.setTop (mkF m 225 #[.val (.int p0), .val (.int p1), .val (.int p2), .val (.int ((((p0.toUInt32 >>> ((8 : Int32) &&& 31).toUInt32).toInt32) &&& (255 : Int32)).toUInt32.toUInt16.toUInt32.toInt32)), .val (.ref b1), .val (.ref b10), .val (.int (own_minI (p0 &&& (3 : Int32)) (2 : Int32))), .val (.int (own_minI (p1 &&& (3 : Int32)) (2 : Int32))), .val (.ref c76_0), .val (.ref c105_0), .val (.ref b107), .val (.ref b112), .val (.int (p2 &&& (3 : Int32))), .val (.ref b107), .val (.int (1 : Int32))] [(.int (1 : Int32))]))
            refine OwnFin.st (fun _ q => XS.goto X132.here hx rfl (pc0 := 225) (pc' := 229) rfl (hb hby at_225) (by decide) (by decide) q) ?_
            show OwnFin _ _ _ _ (T132.setTop (mkF m 229 #[.val (.int p0), .val (.int p1), .val (.int p2), .val (.int ((((p0.toUInt32 >>> ((8 : Int32) &&& 31).toUInt32).toInt32) &&& (255 : Int32)).toUInt32.toUInt16.toUInt32.toInt32)), .val (.ref b1), .val (.ref b10), .val (.int (own_minI (p0 &&& (3 : Int32)) (2 : Int32))), .val (.int (own_minI (p1 &&& (3 : Int32)) (2 : Int32))), .val (.ref c76_0), .val (.ref c105_0), .val (.ref b107), .val (.ref b112), .val (.int (p2 &&& (3 : Int32))), .val (.ref b107), .val (.int (1 : Int32))] [(.int (1 : Int32))]))
            obtain ⟨fs, hr, hrun, hended, hW, hsame⟩ := X132.leave (v := some (.int (1 : Int32))) (fun h => by rw [Bd.returns] at h; cases h)
            refine ⟨_, _, retN X132 hx (t := .boolean) Bd.returns (by simp) (hb hby at_229) hr, hrun, hended, _, _, rfl, ?_, ⟨_, rfl⟩, hW, hsame.mono (by decide) (by decide)⟩
            show Q_rm0 Z p0 p1 p2 w_COMPACT_STRINGS clI w_cache h0 n0 _ T132.heap _
            rw [he132]
            exact ⟨rfl, N132⟩
set_option maxRecDepth 65536 in
set_option maxHeartbeats 40000000 in
theorem comes_1 {Post : Tables → Env → Array Value → State → Outcome → State → Prop} (hpost : ∀ tb e args s v u, (limb_1_1.after args s (.returned v) u = true ∧ limb_1_2.after args s (.returned v) u = true ∧ True) → FrameEnd s (.returned v) u (Jvm.fieldLocs frame_1_writes args s ++ Jvm.arrayLocs frame_1_arrays args s ++ Jvm.staticLocs frame_1_statics s) 32 128 → Post tb e args s (.returned v) u) :
    ArmFor flags0 classFile x code maxLocals ret World_1 tables_1 room_1 Calls_1 rest_1 Pre_1 Post := by
  intro l hfl _ _ p e ha hc hk s m args below hf hA hF happ hP
  obtain ⟨hcalls, hrest, hpre⟩ := hP
  obtain ⟨-, -, -, hnamed, -, -, -, hat⟩ := (Spec.applies_iff hf).mp happ
  obtain ⟨hg, hn⟩ := and_e (Cond.before_iff.mp (show (Jvm.Cond.and given_1 narrow_1).before args s = true from hpre))
  obtain ⟨y1, y2⟩ := and_e hg
  obtain ⟨y3, y4⟩ := and_e y2
  obtain ⟨y5, y6⟩ := and_e y4
  obtain ⟨v0, v1, v2, rfl⟩ : ∃ v0 v1 v2 : Value, args = #[v0, v1, v2] := by
    have hs : args.size = 3 := by simpa [Cond.value, given_1] using y1
    obtain ⟨L⟩ := args
    match L, hs with
    | [v0, v1, v2], _ => exact ⟨v0, v1, v2, rfl⟩
  have hw := fun d (hd : d ∈ tables_1) => atoms_spec (ws := Jvm.Cond.code x code maxLocals ret :: tables_1) hat d (List.mem_cons_of_mem _ hd)
  have hfit : Fit s := fun {y c} hc i hi => by
    obtain ⟨ha, rfl⟩ := Array.getElem?_eq_some_iff.mp hc
    have q := List.all_eq_true.mp ((Array.all_eq_true_iff_forall_mem.mp hF) _ (Array.getElem_mem ha)) i (List.mem_range.mpr hi)
    simpa [Array.getElem?_eq_getElem hi] using q
  obtain ⟨hsets, hown0⟩ := atoms_of _ (rest_1_c_eq ▸ (show rest_1_c.before _ s = true from hrest))
  have hr0 := Cond.before_iff.mp hown0
  obtain ⟨i0, ei0⟩ := is_v y3
  obtain rfl : v0 = (.int i0) := Option.some.inj ei0
  obtain ⟨i1, ei1⟩ := is_v y5
  obtain rfl : v1 = (.int i1) := Option.some.inj ei1
  obtain ⟨i2, ei2⟩ := is_v y6
  obtain rfl : v2 = (.int i2) := Option.some.inj ei2
  obtain ⟨icp, ecp⟩ := is_v (Cond.before_iff.mp (hsets _ (List.mem_of_getElem? (i := 1) rfl)))
  have Scp : Sta s s.heap "java/lang/String" "COMPACT_STRINGS" "Z" (.int icp) := Sta.start ecp (Or.inl (hsets _ (List.mem_of_getElem? (i := 0) rfl)))
  have hcp : ¬ (icp = (0 : Int32)) := gotF (Cond.eq_ints ecp (Term.int_eval (0))) (not_v (Cond.before_iff.mp (hsets _ (List.mem_of_getElem? (i := 2) rfl))))
  have ehi := eqv_i (Term.int_eval (127)) (Cond.before_iff.mp (hsets _ (List.mem_of_getElem? (i := 12) rfl)))
  have Shi : Sta s s.heap "java/lang/Integer$IntegerCache" "high" "I" (.int (127 : Int32)) := Sta.start ehi (Or.inl (hsets _ (List.mem_of_getElem? (i := 10) rfl)))
  obtain ⟨ica, eca⟩ := arr_v (Cond.before_iff.mp (hsets _ (List.mem_of_getElem? (i := 13) rfl)))
  have Sca : Sta s s.heap "java/lang/Integer$IntegerCache" "cache" "[Ljava/lang/Integer;" (.ref ica) := Sta.start eca (Or.inr ⟨(hw _ (List.mem_of_getElem? (i := 62) rfl)), (hsets _ (List.mem_of_getElem? (i := 11) rfl))⟩)
  obtain ⟨clca, Aca⟩ := Arr.start eca (Cond.before_iff.mp (hsets _ (List.mem_of_getElem? (i := 13) rfl)))
  have elen := eqv_i (Term.int_eval (256)) (Cond.before_iff.mp (hsets _ (List.mem_of_getElem? (i := 15) rfl)))
  have hlen : clca.slots.size < 2 ^ 31 ∧ clca.slots.size.toInt32 = 256 := own_len eca Aca elen
  have hBx : Bxs s ica clca "java/lang/Integer" "I" (256 : Int32) (fun j => .int (j - 128)) := Bxs.start (fun idx => eca) Aca hlen.1 hlen.2 (by decide) (Cond.before_iff.mp (hsets _ (List.mem_of_getElem? (i := 16) rfl))) (fun X j hj hX => eqv_i (own_sub128 hj) hX)
  obtain ⟨n, o, h1, h2, h3, _, L, rfl, ⟨rfl, N⟩, hq⟩ := rm0 l s _ hw tables_1 i0 i1 i2 icp clca ica s.heap s.heap.size (Nat.le_refl _) (Old.start s) hcp Scp hBx Shi Sca p e ha hc hk s m _ below hf ((Spec.applies_iff_loose hf).mp happ).1 ⟨rfl, State.Warmed39.refl s, rfl⟩ trivial
  refine ⟨n, _, h1, h2, h3, hpost _ _ _ _ _ _ ⟨Cond.after_iff.mpr rfl, Cond.after_iff.mpr (eq_i res_at (Term.int_eval (1)) rfl), trivial⟩ ⟨hq.1, hq.2.1, (hq.2.2.sift fun y hy => Or.inr (N y hy)).mono (by decide) (by decide)⟩⟩
theorem main_1_1 : Claimed_1_1 := comes_1 fun _ _ _ _ _ _ h hF => ⟨h.1, hF⟩
theorem main_1_2 : Claimed_1_2 := comes_1 fun _ _ _ _ _ _ h hF => ⟨h.2.1, hF⟩
end Jvm.Pilot.@@N@@
namespace Jvm.Pilot.@@N@@
open Jvm Jvm.ClassFile Sem Op Lib Jvm.Free Jvm.Stand Jvm.Pilot.@@N@@.Jvm.D
/-! MADE BY PROGRAM (witnessworld.py) out of the Statement's table words and the real class files: 25 classes; the members and pool entries that the words name. The judged class is class 1, her method 2. -/
namespace start1
open Jvm.ClassFile
def u (s : String) : CpInfo := .utf8 (stringToUtf16 s)
/-- a pool by its gaps: so many unusable entries, then the entry; so many at the end -/
def gap : Nat → List CpInfo → List CpInfo
  | 0, r => r
  | n + 1, r => .unusable :: gap n r
def poolList (es : List (Nat × CpInfo)) (last : Nat) : List CpInfo := es.foldr (fun e r => gap e.1 (e.2 :: r)) (gap last [])
def pool (es : List (Nat × CpInfo)) (last : Nat) : Array CpInfo := ⟨poolList es last⟩
def fileOf (pool : Array CpInfo) (this : Nat) (attrs : Array Attribute := #[]) (ms : Array MethodInfo := #[]) (fl : Nat := 33) (sup : Nat := 0) (ifs : Array Nat := #[]) (fds : Array FieldInfo := #[]) : ClassFile where
  minorVersion := 0
  majorVersion := 65
  constantPool := pool
  accessFlags := fl
  thisClass := this
  superClass := sup
  interfaces := ifs
  fields := fds
  methods := ms
  attributes := attrs
def plain (name : String) (sup : Option ClassId) : Class where
  name := name
  kind := .ordinary
  loader := none
  accessFlags := 33
  super := sup
  interfaces := #[]
  cf := none
  fields := #[]
  methods := #[]
  instanceTypes := #[]
  staticTypes := #[]
  resolved := #[]
  callSites := []
  init := .initialized
  statics := none
  mirror := none

def pool0 : Array CpInfo := pool [(5, u "<init>"), (0, u "()V"), (1, .class_ 10), (1, u "java/lang/Object")] 113

def k0c0 : Code := { maxStack := 0, maxLocals := 1, code := object_method_1_code, exceptionTable := #[], attributes := #[] }
def k0m0 : Method := { name := "<init>", desc := "()V", sig := { parameters := [], returnType := none }, accessFlags := 1, code := some k0c0 }
/-- java/lang/Object -/
def k0 : Class := { plain "java/lang/Object" none with
  accessFlags := 33
  interfaces := #[]
  cf := some (fileOf pool0 8 #[] #[{ accessFlags := 1, nameIndex := 5, descriptorIndex := 6, attributes := #[] }] 33 0 #[] #[])
  fields := #[]
  methods := #[k0m0]
  instanceTypes := #[]
  staticTypes := #[]
  resolved := Array.replicate 124 none
  statics := none }

def pool1 : Array CpInfo := pool [(2, .class_ 4), (1, u "java/lang/Object"), (0, u "<init>"), (0, u "()V"), (0, .class_ 8), (0, u "java/lang/String"), (0, .methodref 7 10), (0, .nameAndType 5 11), (0, u "([C)V"), (0, .methodref 13 14), (0, .class_ 15), (0, .nameAndType 16 17), (0, u "java/lang/Math"), (0, u "min"), (0, u "(II)I"), (0, .methodref 19 20), (0, .class_ 21), (0, .nameAndType 22 23), (0, u "java/lang/Integer"), (0, u "valueOf"), (0, u "(I)Ljava/lang/Integer;"), (0, .class_ 25), (0, u "com/example/nepean/nepean/session/PendingKey"), (0, .methodref 27 28), (0, .class_ 29), (0, .nameAndType 30 31), (0, u "com/example/nepean/nepean/session/PendingKeyEqualsPinLaw"), (0, u "pick"), (0, u "(ILjava/lang/Object;Ljava/lang/Object;)Ljava/lang/Object;"), (0, .methodref 24 33), (0, .nameAndType 5 34), (0, u "(Ljava/lang/Object;Ljava/lang/Object;)V"), (0, .methodref 24 36), (0, .nameAndType 37 38), (0, u "equals"), (0, u "(Ljava/lang/Object;)Z"), (3, u "law"), (0, u "(III)Z")] 2

def k1m0 : Method := { name := "<init>", desc := "()V", sig := { parameters := [], returnType := none }, accessFlags := 1, code := none }
def k1c1 : Code := { maxStack := 2, maxLocals := 3, code := method_2_code, exceptionTable := #[], attributes := #[] }
def k1m1 : Method := { name := "pick", desc := "(ILjava/lang/Object;Ljava/lang/Object;)Ljava/lang/Object;", sig := { parameters := [.int, (.object "java/lang/Object"), (.object "java/lang/Object")], returnType := some (.object "java/lang/Object") }, accessFlags := 10, code := some k1c1 }
def k1c2 : Code := { maxStack := 6, maxLocals := 15, code := code, exceptionTable := #[], attributes := #[] }
def k1m2 : Method := { name := "law", desc := "(III)Z", sig := { parameters := [.int, .int, .int], returnType := some .boolean }, accessFlags := 9, code := some k1c2 }
/-- com/example/nepean/nepean/session/PendingKeyEqualsPinLaw -/
def k1 : Class := { plain "com/example/nepean/nepean/session/PendingKeyEqualsPinLaw" (some 0) with
  accessFlags := 49
  interfaces := #[]
  cf := some (fileOf pool1 27 #[] #[{ accessFlags := 1, nameIndex := 5, descriptorIndex := 6, attributes := #[] }, { accessFlags := 10, nameIndex := 30, descriptorIndex := 31, attributes := #[] }, { accessFlags := 9, nameIndex := 42, descriptorIndex := 43, attributes := #[] }] 49 2 #[] #[])
  fields := #[]
  methods := #[k1m0, k1m1, k1m2]
  instanceTypes := #[]
  staticTypes := #[]
  resolved := Array.replicate 46 none
  statics := none }

def pool2 : Array CpInfo := pool [(1, .class_ 2), (0, u "java/io/Serializable"), (0, .class_ 4), (0, u "java/lang/Object")] 2

/-- java/io/Serializable -/
def k2 : Class := { plain "java/io/Serializable" (some 0) with
  accessFlags := 1537
  interfaces := #[]
  cf := some (fileOf pool2 1 #[] #[] 1537 3 #[] #[])
  fields := #[]
  methods := #[]
  instanceTypes := #[]
  staticTypes := #[]
  resolved := Array.replicate 7 none
  statics := none }

def pool3 : Array CpInfo := pool [(1, .class_ 2), (0, u "java/lang/Comparable"), (0, .class_ 4), (0, u "java/lang/Object")] 7

/-- java/lang/Comparable -/
def k3 : Class := { plain "java/lang/Comparable" (some 0) with
  accessFlags := 1537
  interfaces := #[]
  cf := some (fileOf pool3 1 #[] #[] 1537 3 #[] #[])
  fields := #[]
  methods := #[]
  instanceTypes := #[]
  staticTypes := #[]
  resolved := Array.replicate 12 none
  statics := none }

def pool4 : Array CpInfo := pool [(2, .class_ 4), (1, u "java/lang/CharSequence"), (42, .class_ 48), (0, u "java/lang/CharSequence$1CodePointIterator"), (10, .class_ 60), (0, u "java/lang/CharSequence$1CharIterator"), (5, .class_ 67), (0, u "java/lang/Object")] 63

/-- java/lang/CharSequence -/
def k4 : Class := { plain "java/lang/CharSequence" (some 0) with
  accessFlags := 1537
  interfaces := #[]
  cf := some (fileOf pool4 2 #[.nestMembers #[47, 59]] #[] 1537 66 #[] #[])
  fields := #[]
  methods := #[]
  instanceTypes := #[]
  staticTypes := #[]
  resolved := Array.replicate 131 none
  statics := none }

def pool5 : Array CpInfo := pool [(1, .class_ 2), (0, u "java/lang/constant/Constable"), (0, .class_ 4), (0, u "java/lang/Object")] 6

/-- java/lang/constant/Constable -/
def k5 : Class := { plain "java/lang/constant/Constable" (some 0) with
  accessFlags := 1537
  interfaces := #[]
  cf := some (fileOf pool5 1 #[] #[] 1537 3 #[] #[])
  fields := #[]
  methods := #[]
  instanceTypes := #[]
  staticTypes := #[]
  resolved := Array.replicate 11 none
  statics := none }

def pool6 : Array CpInfo := pool [(1, .class_ 2), (0, u "java/lang/constant/ConstantDesc"), (0, .class_ 4), (0, u "java/lang/Object")] 32

/-- java/lang/constant/ConstantDesc -/
def k6 : Class := { plain "java/lang/constant/ConstantDesc" (some 0) with
  accessFlags := 1537
  interfaces := #[]
  cf := some (fileOf pool6 1 #[] #[] 1537 3 #[] #[])
  fields := #[]
  methods := #[]
  instanceTypes := #[]
  staticTypes := #[]
  resolved := Array.replicate 37 none
  statics := none }

def pool7 : Array CpInfo := pool [(1, .methodref 2 3), (0, .class_ 4), (0, .nameAndType 5 6), (0, u "java/lang/Object"), (0, u "<init>"), (0, u "()V"), (2, .fieldref 10 11), (0, .class_ 12), (0, .nameAndType 13 14), (0, u "java/lang/String"), (0, u "value"), (0, u "[B"), (0, .fieldref 10 16), (0, .nameAndType 17 18), (0, u "coder"), (0, u "B"), (2, u "hash"), (0, u "I"), (2, u "hashIsZero"), (0, u "Z"), (0, .methodref 10 28), (0, .nameAndType 5 29), (0, u "([CIILjava/lang/Void;)V"), (8, .fieldref 10 39), (0, .nameAndType 40 26), (0, u "COMPACT_STRINGS"), (1, .class_ 44), (1, u "java/lang/StringUTF16"), (0, u "compress"), (1, .methodref 42 48), (0, .nameAndType 49 50), (0, u "coderFromArrayLen"), (0, u "([BI)B"), (126, .methodref 42 178), (0, .nameAndType 45 179), (0, u "([CII)[B"), (395, .class_ 576), (0, u "java/lang/CharSequence"), (22, u "CASE_INSENSITIVE_ORDER"), (0, u "Ljava/util/Comparator;"), (409, u "([C)V"), (90, u "serialPersistentFields"), (0, u "[Ljava/io/ObjectStreamField;"), (0, .class_ 1104), (0, u "java/lang/String$CaseInsensitiveComparator"), (1, .class_ 1107), (0, u "java/io/Serializable"), (0, .class_ 1109), (0, u "java/lang/Comparable"), (0, .class_ 1111), (0, u "java/lang/constant/Constable"), (0, .class_ 1113), (0, u "java/lang/constant/ConstantDesc"), (2, u "serialVersionUID"), (0, u "J"), (3, u "REPL"), (0, u "C"), (2, u "LATIN1"), (1, u "UTF16")] 323

def k7m0 : Method := { name := "<init>", desc := "()V", sig := { parameters := [], returnType := none }, accessFlags := 1, code := none }
def k7c1 : Code := { maxStack := 5, maxLocals := 2, code := jdk_42_method_3_code, exceptionTable := #[], attributes := #[] }
def k7m1 : Method := { name := "<init>", desc := "([C)V", sig := { parameters := [(.array .char)], returnType := none }, accessFlags := 1, code := some k7c1 }
def k7c2 : Code := { maxStack := 4, maxLocals := 6, code := jdk_42_method_149_code, exceptionTable := #[], attributes := #[] }
def k7m2 : Method := { name := "<init>", desc := "([CIILjava/lang/Void;)V", sig := { parameters := [(.array .char), .int, .int, (.object "java/lang/Void")], returnType := none }, accessFlags := 2, code := some k7c2 }
/-- java/lang/String -/
def k7 : Class := { plain "java/lang/String" (some 0) with
  accessFlags := 49
  interfaces := #[2, 3, 4, 5, 6]
  cf := some (fileOf pool7 10 #[.nestMembers #[1103]] #[{ accessFlags := 1, nameIndex := 5, descriptorIndex := 6, attributes := #[] }, { accessFlags := 1, nameIndex := 5, descriptorIndex := 1010, attributes := #[] }, { accessFlags := 2, nameIndex := 5, descriptorIndex := 29, attributes := #[] }] 49 2 #[1106, 1108, 575, 1110, 1112] #[{ accessFlags := 18, nameIndex := 13, descriptorIndex := 14, attributes := #[] }, { accessFlags := 18, nameIndex := 17, descriptorIndex := 18, attributes := #[] }, { accessFlags := 2, nameIndex := 21, descriptorIndex := 22, attributes := #[] }, { accessFlags := 2, nameIndex := 25, descriptorIndex := 26, attributes := #[] }, { accessFlags := 26, nameIndex := 1116, descriptorIndex := 1117, attributes := #[] }, { accessFlags := 24, nameIndex := 40, descriptorIndex := 26, attributes := #[] }, { accessFlags := 26, nameIndex := 1101, descriptorIndex := 1102, attributes := #[] }, { accessFlags := 26, nameIndex := 1121, descriptorIndex := 1122, attributes := #[] }, { accessFlags := 25, nameIndex := 599, descriptorIndex := 600, attributes := #[] }, { accessFlags := 24, nameIndex := 1125, descriptorIndex := 18, attributes := #[] }, { accessFlags := 24, nameIndex := 1127, descriptorIndex := 18, attributes := #[] }])
  fields := #[{ name := "value", type := (.array .byte), accessFlags := 18, slot := 0, constantValue := 0 }, { name := "coder", type := .byte, accessFlags := 18, slot := 1, constantValue := 0 }, { name := "hash", type := .int, accessFlags := 2, slot := 2, constantValue := 0 }, { name := "hashIsZero", type := .boolean, accessFlags := 2, slot := 3, constantValue := 0 }, { name := "serialVersionUID", type := .long, accessFlags := 26, slot := 0, constantValue := 0 }, { name := "COMPACT_STRINGS", type := .boolean, accessFlags := 24, slot := 1, constantValue := 0 }, { name := "serialPersistentFields", type := (.array (.object "java/io/ObjectStreamField")), accessFlags := 26, slot := 2, constantValue := 0 }, { name := "REPL", type := .char, accessFlags := 26, slot := 3, constantValue := 0 }, { name := "CASE_INSENSITIVE_ORDER", type := (.object "java/util/Comparator"), accessFlags := 25, slot := 4, constantValue := 0 }, { name := "LATIN1", type := .byte, accessFlags := 24, slot := 5, constantValue := 0 }, { name := "UTF16", type := .byte, accessFlags := 24, slot := 6, constantValue := 0 }]
  methods := #[k7m0, k7m1, k7m2]
  instanceTypes := #[(.array .byte), .byte, .int, .boolean]
  staticTypes := #[.long, .boolean, (.array (.object "java/io/ObjectStreamField")), .char, (.object "java/util/Comparator"), .byte, .byte]
  resolved := Array.replicate 1451 none
  statics := some 0 }

def pool8 : Array CpInfo := pool [(6, .class_ 8), (1, u "java/lang/Object"), (0, u "<init>"), (0, u "()V"), (1, .class_ 14), (1, u "java/lang/StringUTF16"), (31, u "$assertionsDisabled"), (0, u "Z"), (13, u "HI_BYTE_SHIFT"), (0, u "I"), (2, u "LO_BYTE_SHIFT"), (49, .methodref 12 116), (0, .nameAndType 117 118), (0, u "compress"), (0, u "([CI[BII)I"), (3, u "([CII)[B"), (138, u "coderFromArrayLen"), (0, u "([BI)B"), (106, .class_ 371), (1, u "java/lang/StringUTF16$LinesSpliterator"), (58, u "MAX_LENGTH"), (196, .class_ 628), (0, u "java/lang/StringUTF16$CodePointsSpliterator"), (0, .class_ 630), (0, u "java/lang/StringUTF16$CharsSpliterator")] 4

def k8m0 : Method := { name := "<init>", desc := "()V", sig := { parameters := [], returnType := none }, accessFlags := 0, code := none }
def k8c1 : Code := { maxStack := 2, maxLocals := 2, code := jdk_52_method_15_code, exceptionTable := #[], attributes := #[] }
def k8m1 : Method := { name := "coderFromArrayLen", desc := "([BI)B", sig := { parameters := [(.array .byte), .int], returnType := some .byte }, accessFlags := 8, code := some k8c1 }
def k8c2 : Code := { maxStack := 5, maxLocals := 6, code := jdk_52_method_16_code, exceptionTable := #[], attributes := #[] }
def k8m2 : Method := { name := "compress", desc := "([CII)[B", sig := { parameters := [(.array .char), .int, .int], returnType := some (.array .byte) }, accessFlags := 9, code := some k8c2 }
def k8c3 : Code := { maxStack := 3, maxLocals := 7, code := jdk_52_method_21_code, exceptionTable := #[], attributes := #[] }
def k8m3 : Method := { name := "compress", desc := "([CI[BII)I", sig := { parameters := [(.array .char), .int, (.array .byte), .int, .int], returnType := some .int }, accessFlags := 9, code := some k8c3 }
/-- java/lang/StringUTF16 -/
def k8 : Class := { plain "java/lang/StringUTF16" (some 0) with
  accessFlags := 48
  interfaces := #[]
  cf := some (fileOf pool8 12 #[.nestMembers #[627, 629, 369]] #[{ accessFlags := 0, nameIndex := 9, descriptorIndex := 10, attributes := #[] }, { accessFlags := 8, nameIndex := 261, descriptorIndex := 262, attributes := #[] }, { accessFlags := 9, nameIndex := 117, descriptorIndex := 122, attributes := #[] }, { accessFlags := 9, nameIndex := 117, descriptorIndex := 118, attributes := #[] }] 48 6 #[] #[{ accessFlags := 26, nameIndex := 61, descriptorIndex := 62, attributes := #[] }, { accessFlags := 26, nameIndex := 65, descriptorIndex := 62, attributes := #[] }, { accessFlags := 24, nameIndex := 430, descriptorIndex := 62, attributes := #[] }, { accessFlags := 4120, nameIndex := 46, descriptorIndex := 47, attributes := #[] }])
  fields := #[{ name := "HI_BYTE_SHIFT", type := .int, accessFlags := 26, slot := 0, constantValue := 0 }, { name := "LO_BYTE_SHIFT", type := .int, accessFlags := 26, slot := 1, constantValue := 0 }, { name := "MAX_LENGTH", type := .int, accessFlags := 24, slot := 2, constantValue := 0 }, { name := "$assertionsDisabled", type := .boolean, accessFlags := 4120, slot := 3, constantValue := 0 }]
  methods := #[k8m0, k8m1, k8m2, k8m3]
  instanceTypes := #[]
  staticTypes := #[.int, .int, .int, .boolean]
  resolved := Array.replicate 635 none
  statics := none }

def pool9 : Array CpInfo := pool [(1, .class_ 2), (0, u "java/lang/Math"), (1, .class_ 6), (1, u "java/lang/Object"), (0, u "<init>"), (0, u "()V"), (89, .class_ 100), (1, u "java/lang/Math$RandomNumberGeneratorHolder"), (71, u "negativeZeroFloatBits"), (0, u "J"), (2, u "negativeZeroDoubleBits"), (24, u "min"), (43, u "$assertionsDisabled"), (0, u "Z"), (88, u "(II)I"), (2, u "twoToTheDoubleScaleDown"), (0, u "D"), (4, u "twoToTheDoubleScaleUp"), (9, u "E"), (3, u "PI"), (2, u "TAU"), (2, u "DEGREES_TO_RADIANS"), (0, u "RADIANS_TO_DEGREES")] 94

def k9m0 : Method := { name := "<init>", desc := "()V", sig := { parameters := [], returnType := none }, accessFlags := 2, code := none }
def k9c1 : Code := { maxStack := 2, maxLocals := 2, code := jdk_29_method_69_code, exceptionTable := #[], attributes := #[] }
def k9m1 : Method := { name := "min", desc := "(II)I", sig := { parameters := [.int, .int], returnType := some .int }, accessFlags := 9, code := some k9c1 }
/-- java/lang/Math -/
def k9 : Class := { plain "java/lang/Math" (some 0) with
  accessFlags := 49
  interfaces := #[]
  cf := some (fileOf pool9 1 #[.nestMembers #[98]] #[{ accessFlags := 2, nameIndex := 7, descriptorIndex := 8, attributes := #[] }, { accessFlags := 9, nameIndex := 201, descriptorIndex := 335, attributes := #[] }] 49 4 #[] #[{ accessFlags := 25, nameIndex := 354, descriptorIndex := 339, attributes := #[] }, { accessFlags := 25, nameIndex := 358, descriptorIndex := 339, attributes := #[] }, { accessFlags := 25, nameIndex := 361, descriptorIndex := 339, attributes := #[] }, { accessFlags := 26, nameIndex := 364, descriptorIndex := 339, attributes := #[] }, { accessFlags := 26, nameIndex := 365, descriptorIndex := 339, attributes := #[] }, { accessFlags := 26, nameIndex := 172, descriptorIndex := 173, attributes := #[] }, { accessFlags := 26, nameIndex := 176, descriptorIndex := 173, attributes := #[] }, { accessFlags := 8, nameIndex := 344, descriptorIndex := 339, attributes := #[] }, { accessFlags := 8, nameIndex := 338, descriptorIndex := 339, attributes := #[] }, { accessFlags := 4120, nameIndex := 245, descriptorIndex := 246, attributes := #[] }])
  fields := #[{ name := "E", type := .double, accessFlags := 25, slot := 0, constantValue := 0 }, { name := "PI", type := .double, accessFlags := 25, slot := 1, constantValue := 0 }, { name := "TAU", type := .double, accessFlags := 25, slot := 2, constantValue := 0 }, { name := "DEGREES_TO_RADIANS", type := .double, accessFlags := 26, slot := 3, constantValue := 0 }, { name := "RADIANS_TO_DEGREES", type := .double, accessFlags := 26, slot := 4, constantValue := 0 }, { name := "negativeZeroFloatBits", type := .long, accessFlags := 26, slot := 5, constantValue := 0 }, { name := "negativeZeroDoubleBits", type := .long, accessFlags := 26, slot := 6, constantValue := 0 }, { name := "twoToTheDoubleScaleUp", type := .double, accessFlags := 8, slot := 7, constantValue := 0 }, { name := "twoToTheDoubleScaleDown", type := .double, accessFlags := 8, slot := 8, constantValue := 0 }, { name := "$assertionsDisabled", type := .boolean, accessFlags := 4120, slot := 9, constantValue := 0 }]
  methods := #[k9m0, k9m1]
  instanceTypes := #[]
  staticTypes := #[.double, .double, .double, .double, .double, .long, .long, .double, .double, .boolean]
  resolved := Array.replicate 460 none
  statics := none }

def pool10 : Array CpInfo := pool [(1, .methodref 2 3), (0, .class_ 4), (0, .nameAndType 5 6), (0, u "java/lang/Object"), (0, u "<init>"), (0, u "()V"), (0, .fieldref 8 9), (0, .class_ 10), (0, .nameAndType 11 12), (0, u "com/example/nepean/nepean/session/PendingKey"), (0, u "entity"), (0, u "Ljava/lang/Object;"), (0, .fieldref 8 14), (0, .nameAndType 15 12), (0, u "id"), (12, u "(Ljava/lang/Object;Ljava/lang/Object;)V"), (2, u "equals"), (0, u "(Ljava/lang/Object;)Z")] 7

def k10c0 : Code := { maxStack := 2, maxLocals := 3, code := prog_24_method_1_code, exceptionTable := #[], attributes := #[] }
def k10m0 : Method := { name := "<init>", desc := "(Ljava/lang/Object;Ljava/lang/Object;)V", sig := { parameters := [(.object "java/lang/Object"), (.object "java/lang/Object")], returnType := none }, accessFlags := 0, code := some k10c0 }
def k10c1 : Code := { maxStack := 2, maxLocals := 2, code := prog_24_method_2_code, exceptionTable := #[], attributes := #[] }
def k10m1 : Method := { name := "equals", desc := "(Ljava/lang/Object;)Z", sig := { parameters := [(.object "java/lang/Object")], returnType := some .boolean }, accessFlags := 1, code := some k10c1 }
/-- com/example/nepean/nepean/session/PendingKey -/
def k10 : Class := { plain "com/example/nepean/nepean/session/PendingKey" (some 0) with
  accessFlags := 48
  interfaces := #[]
  cf := some (fileOf pool10 8 #[] #[{ accessFlags := 0, nameIndex := 5, descriptorIndex := 28, attributes := #[] }, { accessFlags := 1, nameIndex := 31, descriptorIndex := 32, attributes := #[] }] 48 2 #[] #[{ accessFlags := 18, nameIndex := 11, descriptorIndex := 12, attributes := #[] }, { accessFlags := 18, nameIndex := 15, descriptorIndex := 12, attributes := #[] }])
  fields := #[{ name := "entity", type := (.object "java/lang/Object"), accessFlags := 18, slot := 0, constantValue := 0 }, { name := "id", type := (.object "java/lang/Object"), accessFlags := 18, slot := 1, constantValue := 0 }]
  methods := #[k10m0, k10m1]
  instanceTypes := #[(.object "java/lang/Object"), (.object "java/lang/Object")]
  staticTypes := #[]
  resolved := Array.replicate 40 none
  statics := none }

def pool11 : Array CpInfo := pool [(1, .methodref 2 3), (0, .class_ 4), (0, .nameAndType 5 6), (0, u "java/lang/Object"), (0, u "<init>"), (0, u "()V"), (1, .class_ 10), (1, u "java/lang/Number"), (2, .class_ 14), (0, u "java/io/Serializable"), (0, u "serialVersionUID"), (0, u "J")] 20

def k11c0 : Code := { maxStack := 1, maxLocals := 1, code := jdk_18_method_1_code, exceptionTable := #[], attributes := #[] }
def k11m0 : Method := { name := "<init>", desc := "()V", sig := { parameters := [], returnType := none }, accessFlags := 1, code := some k11c0 }
/-- java/lang/Number -/
def k11 : Class := { plain "java/lang/Number" (some 0) with
  accessFlags := 1057
  interfaces := #[2]
  cf := some (fileOf pool11 8 #[] #[{ accessFlags := 1, nameIndex := 5, descriptorIndex := 6, attributes := #[] }] 1057 2 #[13] #[{ accessFlags := 26, nameIndex := 15, descriptorIndex := 16, attributes := #[] }])
  fields := #[{ name := "serialVersionUID", type := .long, accessFlags := 26, slot := 0, constantValue := 0 }]
  methods := #[k11m0]
  instanceTypes := #[]
  staticTypes := #[.long]
  resolved := Array.replicate 37 none
  statics := none }

def pool12 : Array CpInfo := pool [(1, .class_ 2), (0, u "java/lang/Integer"), (16, u "digits"), (0, u "[C"), (46, u "<init>"), (17, u "DigitOnes"), (0, u "[B"), (2, u "DigitTens"), (10, .nameAndType 67 101), (0, u "()V"), (85, u "valueOf"), (0, u "(I)Ljava/lang/Integer;"), (0, .class_ 190), (0, u "java/lang/Integer$IntegerCache"), (0, .fieldref 189 192), (0, .nameAndType 193 194), (0, u "high"), (0, u "I"), (0, .fieldref 189 196), (0, .nameAndType 197 198), (0, u "cache"), (0, u "[Ljava/lang/Integer;"), (0, .methodref 1 200), (0, .nameAndType 67 201), (0, u "(I)V"), (0, .methodref 203 100), (0, .class_ 204), (0, u "java/lang/Number"), (0, .fieldref 1 206), (0, .nameAndType 207 194), (0, u "value"), (94, u "TYPE"), (0, u "Ljava/lang/Class;"), (0, .class_ 305), (0, u "java/lang/Comparable"), (0, .class_ 307), (0, u "java/lang/constant/Constable"), (0, .class_ 309), (0, u "java/lang/constant/ConstantDesc"), (0, u "MIN_VALUE"), (1, u "MAX_VALUE"), (3, u "SIZE"), (1, u "BYTES"), (1, u "serialVersionUID"), (0, u "J")] 131

def k12c0 : Code := { maxStack := 3, maxLocals := 1, code := jdk_33_method_22_code, exceptionTable := #[], attributes := #[] }
def k12m0 : Method := { name := "valueOf", desc := "(I)Ljava/lang/Integer;", sig := { parameters := [.int], returnType := some (.object "java/lang/Integer") }, accessFlags := 9, code := some k12c0 }
def k12c1 : Code := { maxStack := 2, maxLocals := 2, code := jdk_33_method_23_code, exceptionTable := #[], attributes := #[] }
def k12m1 : Method := { name := "<init>", desc := "(I)V", sig := { parameters := [.int], returnType := none }, accessFlags := 1, code := some k12c1 }
/-- java/lang/Integer -/
def k12 : Class := { plain "java/lang/Integer" (some 11) with
  accessFlags := 49
  interfaces := #[3, 5, 6]
  cf := some (fileOf pool12 1 #[.nestMembers #[189]] #[{ accessFlags := 9, nameIndex := 187, descriptorIndex := 188, attributes := #[] }, { accessFlags := 1, nameIndex := 67, descriptorIndex := 201, attributes := #[] }] 49 203 #[304, 306, 308] #[{ accessFlags := 25, nameIndex := 310, descriptorIndex := 194, attributes := #[] }, { accessFlags := 25, nameIndex := 312, descriptorIndex := 194, attributes := #[] }, { accessFlags := 25, nameIndex := 302, descriptorIndex := 303, attributes := #[] }, { accessFlags := 24, nameIndex := 19, descriptorIndex := 20, attributes := #[] }, { accessFlags := 24, nameIndex := 89, descriptorIndex := 86, attributes := #[] }, { accessFlags := 24, nameIndex := 85, descriptorIndex := 86, attributes := #[] }, { accessFlags := 18, nameIndex := 207, descriptorIndex := 194, attributes := #[] }, { accessFlags := 25, nameIndex := 316, descriptorIndex := 194, attributes := #[] }, { accessFlags := 25, nameIndex := 318, descriptorIndex := 194, attributes := #[] }, { accessFlags := 26, nameIndex := 320, descriptorIndex := 321, attributes := #[] }])
  fields := #[{ name := "MIN_VALUE", type := .int, accessFlags := 25, slot := 0, constantValue := 0 }, { name := "MAX_VALUE", type := .int, accessFlags := 25, slot := 1, constantValue := 0 }, { name := "TYPE", type := (.object "java/lang/Class"), accessFlags := 25, slot := 2, constantValue := 0 }, { name := "digits", type := (.array .char), accessFlags := 24, slot := 3, constantValue := 0 }, { name := "DigitTens", type := (.array .byte), accessFlags := 24, slot := 4, constantValue := 0 }, { name := "DigitOnes", type := (.array .byte), accessFlags := 24, slot := 5, constantValue := 0 }, { name := "value", type := .int, accessFlags := 18, slot := 0, constantValue := 0 }, { name := "SIZE", type := .int, accessFlags := 25, slot := 6, constantValue := 0 }, { name := "BYTES", type := .int, accessFlags := 25, slot := 7, constantValue := 0 }, { name := "serialVersionUID", type := .long, accessFlags := 26, slot := 8, constantValue := 0 }]
  methods := #[k12m0, k12m1]
  instanceTypes := #[.int]
  staticTypes := #[.int, .int, (.object "java/lang/Class"), (.array .char), (.array .byte), (.array .byte), .int, .int, .long]
  resolved := Array.replicate 453 none
  statics := none }

def pool13 : Array CpInfo := pool [(2, .class_ 4), (1, u "java/lang/Object"), (0, u "<init>"), (0, u "()V"), (0, .class_ 8), (0, u "java/lang/Integer"), (7, .class_ 18), (1, u "java/lang/Integer$IntegerCache"), (0, u "$assertionsDisabled"), (0, u "Z"), (26, u "high"), (0, u "I"), (8, u "archivedCache"), (0, u "[Ljava/lang/Integer;"), (12, u "cache"), (0, u "low")] 27

def k13m0 : Method := { name := "<init>", desc := "()V", sig := { parameters := [], returnType := none }, accessFlags := 2, code := none }
/-- java/lang/Integer$IntegerCache -/
def k13 : Class := { plain "java/lang/Integer$IntegerCache" (some 0) with
  accessFlags := 48
  interfaces := #[]
  cf := some (fileOf pool13 16 #[.nestHost 7] #[{ accessFlags := 2, nameIndex := 5, descriptorIndex := 6, attributes := #[] }] 48 2 #[] #[{ accessFlags := 24, nameIndex := 72, descriptorIndex := 48, attributes := #[] }, { accessFlags := 24, nameIndex := 47, descriptorIndex := 48, attributes := #[] }, { accessFlags := 24, nameIndex := 71, descriptorIndex := 58, attributes := #[] }, { accessFlags := 8, nameIndex := 57, descriptorIndex := 58, attributes := #[] }, { accessFlags := 4120, nameIndex := 19, descriptorIndex := 20, attributes := #[] }])
  fields := #[{ name := "low", type := .int, accessFlags := 24, slot := 0, constantValue := 0 }, { name := "high", type := .int, accessFlags := 24, slot := 1, constantValue := 0 }, { name := "cache", type := (.array (.object "java/lang/Integer")), accessFlags := 24, slot := 2, constantValue := 0 }, { name := "archivedCache", type := (.array (.object "java/lang/Integer")), accessFlags := 8, slot := 3, constantValue := 0 }, { name := "$assertionsDisabled", type := .boolean, accessFlags := 4120, slot := 4, constantValue := 0 }]
  methods := #[k13m0]
  instanceTypes := #[]
  staticTypes := #[.int, .int, (.array (.object "java/lang/Integer")), (.array (.object "java/lang/Integer")), .boolean]
  resolved := Array.replicate 100 none
  statics := some 1 }

def pool14 : Array CpInfo := pool [(4, .class_ 6), (1, u "java/lang/Object"), (0, u "<init>"), (0, u "()V"), (5, .class_ 16), (1, u "java/lang/StringLatin1"), (104, u "$assertionsDisabled"), (0, u "Z"), (98, .class_ 223), (1, u "java/lang/StringLatin1$LinesSpliterator"), (166, .class_ 391), (0, u "java/lang/StringLatin1$CharsSpliterator")] 3

def k14m0 : Method := { name := "<init>", desc := "()V", sig := { parameters := [], returnType := none }, accessFlags := 0, code := none }
/-- java/lang/StringLatin1 -/
def k14 : Class := { plain "java/lang/StringLatin1" (some 0) with
  accessFlags := 48
  interfaces := #[]
  cf := some (fileOf pool14 14 #[.nestMembers #[390, 221]] #[{ accessFlags := 0, nameIndex := 7, descriptorIndex := 8, attributes := #[] }] 48 4 #[] #[{ accessFlags := 4120, nameIndex := 121, descriptorIndex := 122, attributes := #[] }])
  fields := #[{ name := "$assertionsDisabled", type := .boolean, accessFlags := 4120, slot := 0, constantValue := 0 }]
  methods := #[k14m0]
  instanceTypes := #[]
  staticTypes := #[.boolean]
  resolved := Array.replicate 395 none
  statics := none }

def pool15 : Array CpInfo := pool [(2, .class_ 4), (1, u "java/lang/Object"), (0, u "<init>"), (0, u "()V"), (17, .class_ 26), (1, u "jdk/internal/util/Preconditions"), (28, .class_ 56), (0, u "jdk/internal/util/Preconditions$4"), (57, .class_ 115), (0, u "jdk/internal/util/Preconditions$1"), (7, u "SIOOBE_FORMATTER"), (0, u "Ljava/util/function/BiFunction;"), (0, .class_ 126), (0, u "jdk/internal/util/Preconditions$2"), (3, u "AIOOBE_FORMATTER"), (0, .class_ 132), (0, u "jdk/internal/util/Preconditions$3"), (3, u "IOOBE_FORMATTER")] 57

def k15m0 : Method := { name := "<init>", desc := "()V", sig := { parameters := [], returnType := none }, accessFlags := 1, code := none }
/-- jdk/internal/util/Preconditions -/
def k15 : Class := { plain "jdk/internal/util/Preconditions" (some 0) with
  accessFlags := 33
  interfaces := #[]
  cf := some (fileOf pool15 24 #[.nestMembers #[55, 131, 125, 114]] #[{ accessFlags := 1, nameIndex := 5, descriptorIndex := 6, attributes := #[] }] 33 2 #[] #[{ accessFlags := 25, nameIndex := 123, descriptorIndex := 124, attributes := #[] }, { accessFlags := 25, nameIndex := 130, descriptorIndex := 124, attributes := #[] }, { accessFlags := 25, nameIndex := 136, descriptorIndex := 124, attributes := #[] }])
  fields := #[{ name := "SIOOBE_FORMATTER", type := (.object "java/util/function/BiFunction"), accessFlags := 25, slot := 0, constantValue := 0 }, { name := "AIOOBE_FORMATTER", type := (.object "java/util/function/BiFunction"), accessFlags := 25, slot := 1, constantValue := 0 }, { name := "IOOBE_FORMATTER", type := (.object "java/util/function/BiFunction"), accessFlags := 25, slot := 2, constantValue := 0 }]
  methods := #[k15m0]
  instanceTypes := #[]
  staticTypes := #[(.object "java/util/function/BiFunction"), (.object "java/util/function/BiFunction"), (.object "java/util/function/BiFunction")]
  resolved := Array.replicate 194 none
  statics := some 2 }

def pool16 : Array CpInfo := pool [(9, u "<init>"), (6, .class_ 18), (1, u "java/lang/Object"), (0, u "()V"), (1, .class_ 23), (1, u "jdk/internal/util/ArraysSupport"), (0, u "LOG2_ARRAY_LONG_INDEX_SCALE"), (0, u "I"), (2, u "U"), (0, u "Ljdk/internal/misc/Unsafe;"), (8, u "BIG_ENDIAN"), (0, u "Z"), (8, u "LOG2_BYTE_BIT_SIZE"), (4, u "LOG2_ARRAY_INT_INDEX_SCALE"), (54, u "JLA"), (0, u "Ljdk/internal/access/JavaLangAccess;"), (11, u "LOG2_ARRAY_BOOLEAN_INDEX_SCALE"), (9, u "LOG2_ARRAY_BYTE_INDEX_SCALE"), (5, u "LOG2_ARRAY_CHAR_INDEX_SCALE"), (5, u "LOG2_ARRAY_SHORT_INDEX_SCALE"), (18, u "LOG2_ARRAY_FLOAT_INDEX_SCALE"), (24, u "LOG2_ARRAY_DOUBLE_INDEX_SCALE"), (89, u "T_BOOLEAN"), (2, u "T_CHAR"), (1, u "T_FLOAT"), (1, u "T_DOUBLE"), (1, u "T_BYTE"), (1, u "T_SHORT"), (1, u "T_INT"), (1, u "T_LONG"), (1, u "SOFT_MAX_ARRAY_LENGTH")] 83

def k16m0 : Method := { name := "<init>", desc := "()V", sig := { parameters := [], returnType := none }, accessFlags := 2, code := none }
/-- jdk/internal/util/ArraysSupport -/
def k16 : Class := { plain "jdk/internal/util/ArraysSupport" (some 0) with
  accessFlags := 33
  interfaces := #[]
  cf := some (fileOf pool16 21 #[] #[{ accessFlags := 2, nameIndex := 9, descriptorIndex := 19, attributes := #[] }] 33 16 #[] #[{ accessFlags := 24, nameIndex := 28, descriptorIndex := 29, attributes := #[] }, { accessFlags := 26, nameIndex := 38, descriptorIndex := 39, attributes := #[] }, { accessFlags := 25, nameIndex := 121, descriptorIndex := 25, attributes := #[] }, { accessFlags := 25, nameIndex := 131, descriptorIndex := 25, attributes := #[] }, { accessFlags := 25, nameIndex := 137, descriptorIndex := 25, attributes := #[] }, { accessFlags := 25, nameIndex := 143, descriptorIndex := 25, attributes := #[] }, { accessFlags := 25, nameIndex := 53, descriptorIndex := 25, attributes := #[] }, { accessFlags := 25, nameIndex := 24, descriptorIndex := 25, attributes := #[] }, { accessFlags := 25, nameIndex := 162, descriptorIndex := 25, attributes := #[] }, { accessFlags := 25, nameIndex := 187, descriptorIndex := 25, attributes := #[] }, { accessFlags := 26, nameIndex := 48, descriptorIndex := 25, attributes := #[] }, { accessFlags := 25, nameIndex := 277, descriptorIndex := 25, attributes := #[] }, { accessFlags := 25, nameIndex := 280, descriptorIndex := 25, attributes := #[] }, { accessFlags := 25, nameIndex := 282, descriptorIndex := 25, attributes := #[] }, { accessFlags := 25, nameIndex := 284, descriptorIndex := 25, attributes := #[] }, { accessFlags := 25, nameIndex := 286, descriptorIndex := 25, attributes := #[] }, { accessFlags := 25, nameIndex := 288, descriptorIndex := 25, attributes := #[] }, { accessFlags := 25, nameIndex := 290, descriptorIndex := 25, attributes := #[] }, { accessFlags := 25, nameIndex := 292, descriptorIndex := 25, attributes := #[] }, { accessFlags := 26, nameIndex := 108, descriptorIndex := 109, attributes := #[] }, { accessFlags := 25, nameIndex := 294, descriptorIndex := 25, attributes := #[] }])
  fields := #[{ name := "U", type := (.object "jdk/internal/misc/Unsafe"), accessFlags := 24, slot := 0, constantValue := 0 }, { name := "BIG_ENDIAN", type := .boolean, accessFlags := 26, slot := 1, constantValue := 0 }, { name := "LOG2_ARRAY_BOOLEAN_INDEX_SCALE", type := .int, accessFlags := 25, slot := 2, constantValue := 0 }, { name := "LOG2_ARRAY_BYTE_INDEX_SCALE", type := .int, accessFlags := 25, slot := 3, constantValue := 0 }, { name := "LOG2_ARRAY_CHAR_INDEX_SCALE", type := .int, accessFlags := 25, slot := 4, constantValue := 0 }, { name := "LOG2_ARRAY_SHORT_INDEX_SCALE", type := .int, accessFlags := 25, slot := 5, constantValue := 0 }, { name := "LOG2_ARRAY_INT_INDEX_SCALE", type := .int, accessFlags := 25, slot := 6, constantValue := 0 }, { name := "LOG2_ARRAY_LONG_INDEX_SCALE", type := .int, accessFlags := 25, slot := 7, constantValue := 0 }, { name := "LOG2_ARRAY_FLOAT_INDEX_SCALE", type := .int, accessFlags := 25, slot := 8, constantValue := 0 }, { name := "LOG2_ARRAY_DOUBLE_INDEX_SCALE", type := .int, accessFlags := 25, slot := 9, constantValue := 0 }, { name := "LOG2_BYTE_BIT_SIZE", type := .int, accessFlags := 26, slot := 10, constantValue := 0 }, { name := "T_BOOLEAN", type := .int, accessFlags := 25, slot := 11, constantValue := 0 }, { name := "T_CHAR", type := .int, accessFlags := 25, slot := 12, constantValue := 0 }, { name := "T_FLOAT", type := .int, accessFlags := 25, slot := 13, constantValue := 0 }, { name := "T_DOUBLE", type := .int, accessFlags := 25, slot := 14, constantValue := 0 }, { name := "T_BYTE", type := .int, accessFlags := 25, slot := 15, constantValue := 0 }, { name := "T_SHORT", type := .int, accessFlags := 25, slot := 16, constantValue := 0 }, { name := "T_INT", type := .int, accessFlags := 25, slot := 17, constantValue := 0 }, { name := "T_LONG", type := .int, accessFlags := 25, slot := 18, constantValue := 0 }, { name := "JLA", type := (.object "jdk/internal/access/JavaLangAccess"), accessFlags := 26, slot := 19, constantValue := 0 }, { name := "SOFT_MAX_ARRAY_LENGTH", type := .int, accessFlags := 25, slot := 20, constantValue := 0 }]
  methods := #[k16m0]
  instanceTypes := #[]
  staticTypes := #[(.object "jdk/internal/misc/Unsafe"), .boolean, .int, .int, .int, .int, .int, .int, .int, .int, .int, .int, .int, .int, .int, .int, .int, .int, .int, (.object "jdk/internal/access/JavaLangAccess"), .int]
  resolved := Array.replicate 378 none
  statics := none }

def pool17 : Array CpInfo := pool [(1, u "java/lang/Cloneable"), (0, .class_ 1), (0, u "java/lang/Object"), (0, .class_ 3)] 3

/-- java/lang/Cloneable -/
def k17 : Class := { plain "java/lang/Cloneable" (some 0) with
  accessFlags := 1537
  interfaces := #[]
  cf := some (fileOf pool17 2 #[] #[] 1537 4 #[] #[])
  fields := #[]
  methods := #[]
  instanceTypes := #[]
  staticTypes := #[]
  resolved := Array.replicate 8 none
  statics := none }

/-- the primitive byte -/
def k18 : Class := { plain "byte" none with kind := .primitive 'B', accessFlags := 0x411 }
/-- [B -/
def k19 : Class := { plain "[B" (some 0) with kind := .array 18 .byte, interfaces := #[17, 2], accessFlags := 1041 }

/-- the primitive char -/
def k20 : Class := { plain "char" none with kind := .primitive 'C', accessFlags := 0x411 }
/-- [C -/
def k21 : Class := { plain "[C" (some 0) with kind := .array 20 .char, interfaces := #[17, 2], accessFlags := 1041 }

/-- the primitive int -/
def k22 : Class := { plain "int" none with kind := .primitive 'I', accessFlags := 0x411 }
/-- [I -/
def k23 : Class := { plain "[I" (some 0) with kind := .array 22 .int, interfaces := #[17, 2], accessFlags := 1041 }

/-- [Ljava/lang/Integer; -/
def k24 : Class := { plain "[Ljava/lang/Integer;" (some 0) with kind := .array 12 (.object "java/lang/Integer"), interfaces := #[17, 2], accessFlags := 1041 }

def heap : Heap := #[{ cls := 7, slots := #[.long 0, .int 1, .null, .int 0, .null, .int 0, .int 0], vm := .statics 7 },
  { cls := 13, slots := #[.int 0, .int 127, .ref 3, .null, .int 0], vm := .statics 13 },
  { cls := 15, slots := #[.null, .null, .null], vm := .statics 15 },
  { cls := 24, slots := #[.ref 4, .ref 5, .ref 6, .ref 7, .ref 8, .ref 9, .ref 10, .ref 11, .ref 12, .ref 13, .ref 14, .ref 15, .ref 16, .ref 17, .ref 18, .ref 19, .ref 20, .ref 21, .ref 22, .ref 23, .ref 24, .ref 25, .ref 26, .ref 27, .ref 28, .ref 29, .ref 30, .ref 31, .ref 32, .ref 33, .ref 34, .ref 35, .ref 36, .ref 37, .ref 38, .ref 39, .ref 40, .ref 41, .ref 42, .ref 43, .ref 44, .ref 45, .ref 46, .ref 47, .ref 48, .ref 49, .ref 50, .ref 51, .ref 52, .ref 53, .ref 54, .ref 55, .ref 56, .ref 57, .ref 58, .ref 59, .ref 60, .ref 61, .ref 62, .ref 63, .ref 64, .ref 65, .ref 66, .ref 67, .ref 68, .ref 69, .ref 70, .ref 71, .ref 72, .ref 73, .ref 74, .ref 75, .ref 76, .ref 77, .ref 78, .ref 79, .ref 80, .ref 81, .ref 82, .ref 83, .ref 84, .ref 85, .ref 86, .ref 87, .ref 88, .ref 89, .ref 90, .ref 91, .ref 92, .ref 93, .ref 94, .ref 95, .ref 96, .ref 97, .ref 98, .ref 99, .ref 100, .ref 101, .ref 102, .ref 103, .ref 104, .ref 105, .ref 106, .ref 107, .ref 108, .ref 109, .ref 110, .ref 111, .ref 112, .ref 113, .ref 114, .ref 115, .ref 116, .ref 117, .ref 118, .ref 119, .ref 120, .ref 121, .ref 122, .ref 123, .ref 124, .ref 125, .ref 126, .ref 127, .ref 128, .ref 129, .ref 130, .ref 131, .ref 132, .ref 133, .ref 134, .ref 135, .ref 136, .ref 137, .ref 138, .ref 139, .ref 140, .ref 141, .ref 142, .ref 143, .ref 144, .ref 145, .ref 146, .ref 147, .ref 148, .ref 149, .ref 150, .ref 151, .ref 152, .ref 153, .ref 154, .ref 155, .ref 156, .ref 157, .ref 158, .ref 159, .ref 160, .ref 161, .ref 162, .ref 163, .ref 164, .ref 165, .ref 166, .ref 167, .ref 168, .ref 169, .ref 170, .ref 171, .ref 172, .ref 173, .ref 174, .ref 175, .ref 176, .ref 177, .ref 178, .ref 179, .ref 180, .ref 181, .ref 182, .ref 183, .ref 184, .ref 185, .ref 186, .ref 187, .ref 188, .ref 189, .ref 190, .ref 191, .ref 192, .ref 193, .ref 194, .ref 195, .ref 196, .ref 197, .ref 198, .ref 199, .ref 200, .ref 201, .ref 202, .ref 203, .ref 204, .ref 205, .ref 206, .ref 207, .ref 208, .ref 209, .ref 210, .ref 211, .ref 212, .ref 213, .ref 214, .ref 215, .ref 216, .ref 217, .ref 218, .ref 219, .ref 220, .ref 221, .ref 222, .ref 223, .ref 224, .ref 225, .ref 226, .ref 227, .ref 228, .ref 229, .ref 230, .ref 231, .ref 232, .ref 233, .ref 234, .ref 235, .ref 236, .ref 237, .ref 238, .ref 239, .ref 240, .ref 241, .ref 242, .ref 243, .ref 244, .ref 245, .ref 246, .ref 247, .ref 248, .ref 249, .ref 250, .ref 251, .ref 252, .ref 253, .ref 254, .ref 255, .ref 256, .ref 257, .ref 258, .ref 259], vm := .none },
  { cls := 12, slots := #[.int (-128)], vm := .none },
  { cls := 12, slots := #[.int (-127)], vm := .none },
  { cls := 12, slots := #[.int (-126)], vm := .none },
  { cls := 12, slots := #[.int (-125)], vm := .none },
  { cls := 12, slots := #[.int (-124)], vm := .none },
  { cls := 12, slots := #[.int (-123)], vm := .none },
  { cls := 12, slots := #[.int (-122)], vm := .none },
  { cls := 12, slots := #[.int (-121)], vm := .none },
  { cls := 12, slots := #[.int (-120)], vm := .none },
  { cls := 12, slots := #[.int (-119)], vm := .none },
  { cls := 12, slots := #[.int (-118)], vm := .none },
  { cls := 12, slots := #[.int (-117)], vm := .none },
  { cls := 12, slots := #[.int (-116)], vm := .none },
  { cls := 12, slots := #[.int (-115)], vm := .none },
  { cls := 12, slots := #[.int (-114)], vm := .none },
  { cls := 12, slots := #[.int (-113)], vm := .none },
  { cls := 12, slots := #[.int (-112)], vm := .none },
  { cls := 12, slots := #[.int (-111)], vm := .none },
  { cls := 12, slots := #[.int (-110)], vm := .none },
  { cls := 12, slots := #[.int (-109)], vm := .none },
  { cls := 12, slots := #[.int (-108)], vm := .none },
  { cls := 12, slots := #[.int (-107)], vm := .none },
  { cls := 12, slots := #[.int (-106)], vm := .none },
  { cls := 12, slots := #[.int (-105)], vm := .none },
  { cls := 12, slots := #[.int (-104)], vm := .none },
  { cls := 12, slots := #[.int (-103)], vm := .none },
  { cls := 12, slots := #[.int (-102)], vm := .none },
  { cls := 12, slots := #[.int (-101)], vm := .none },
  { cls := 12, slots := #[.int (-100)], vm := .none },
  { cls := 12, slots := #[.int (-99)], vm := .none },
  { cls := 12, slots := #[.int (-98)], vm := .none },
  { cls := 12, slots := #[.int (-97)], vm := .none },
  { cls := 12, slots := #[.int (-96)], vm := .none },
  { cls := 12, slots := #[.int (-95)], vm := .none },
  { cls := 12, slots := #[.int (-94)], vm := .none },
  { cls := 12, slots := #[.int (-93)], vm := .none },
  { cls := 12, slots := #[.int (-92)], vm := .none },
  { cls := 12, slots := #[.int (-91)], vm := .none },
  { cls := 12, slots := #[.int (-90)], vm := .none },
  { cls := 12, slots := #[.int (-89)], vm := .none },
  { cls := 12, slots := #[.int (-88)], vm := .none },
  { cls := 12, slots := #[.int (-87)], vm := .none },
  { cls := 12, slots := #[.int (-86)], vm := .none },
  { cls := 12, slots := #[.int (-85)], vm := .none },
  { cls := 12, slots := #[.int (-84)], vm := .none },
  { cls := 12, slots := #[.int (-83)], vm := .none },
  { cls := 12, slots := #[.int (-82)], vm := .none },
  { cls := 12, slots := #[.int (-81)], vm := .none },
  { cls := 12, slots := #[.int (-80)], vm := .none },
  { cls := 12, slots := #[.int (-79)], vm := .none },
  { cls := 12, slots := #[.int (-78)], vm := .none },
  { cls := 12, slots := #[.int (-77)], vm := .none },
  { cls := 12, slots := #[.int (-76)], vm := .none },
  { cls := 12, slots := #[.int (-75)], vm := .none },
  { cls := 12, slots := #[.int (-74)], vm := .none },
  { cls := 12, slots := #[.int (-73)], vm := .none },
  { cls := 12, slots := #[.int (-72)], vm := .none },
  { cls := 12, slots := #[.int (-71)], vm := .none },
  { cls := 12, slots := #[.int (-70)], vm := .none },
  { cls := 12, slots := #[.int (-69)], vm := .none },
  { cls := 12, slots := #[.int (-68)], vm := .none },
  { cls := 12, slots := #[.int (-67)], vm := .none },
  { cls := 12, slots := #[.int (-66)], vm := .none },
  { cls := 12, slots := #[.int (-65)], vm := .none },
  { cls := 12, slots := #[.int (-64)], vm := .none },
  { cls := 12, slots := #[.int (-63)], vm := .none },
  { cls := 12, slots := #[.int (-62)], vm := .none },
  { cls := 12, slots := #[.int (-61)], vm := .none },
  { cls := 12, slots := #[.int (-60)], vm := .none },
  { cls := 12, slots := #[.int (-59)], vm := .none },
  { cls := 12, slots := #[.int (-58)], vm := .none },
  { cls := 12, slots := #[.int (-57)], vm := .none },
  { cls := 12, slots := #[.int (-56)], vm := .none },
  { cls := 12, slots := #[.int (-55)], vm := .none },
  { cls := 12, slots := #[.int (-54)], vm := .none },
  { cls := 12, slots := #[.int (-53)], vm := .none },
  { cls := 12, slots := #[.int (-52)], vm := .none },
  { cls := 12, slots := #[.int (-51)], vm := .none },
  { cls := 12, slots := #[.int (-50)], vm := .none },
  { cls := 12, slots := #[.int (-49)], vm := .none },
  { cls := 12, slots := #[.int (-48)], vm := .none },
  { cls := 12, slots := #[.int (-47)], vm := .none },
  { cls := 12, slots := #[.int (-46)], vm := .none },
  { cls := 12, slots := #[.int (-45)], vm := .none },
  { cls := 12, slots := #[.int (-44)], vm := .none },
  { cls := 12, slots := #[.int (-43)], vm := .none },
  { cls := 12, slots := #[.int (-42)], vm := .none },
  { cls := 12, slots := #[.int (-41)], vm := .none },
  { cls := 12, slots := #[.int (-40)], vm := .none },
  { cls := 12, slots := #[.int (-39)], vm := .none },
  { cls := 12, slots := #[.int (-38)], vm := .none },
  { cls := 12, slots := #[.int (-37)], vm := .none },
  { cls := 12, slots := #[.int (-36)], vm := .none },
  { cls := 12, slots := #[.int (-35)], vm := .none },
  { cls := 12, slots := #[.int (-34)], vm := .none },
  { cls := 12, slots := #[.int (-33)], vm := .none },
  { cls := 12, slots := #[.int (-32)], vm := .none },
  { cls := 12, slots := #[.int (-31)], vm := .none },
  { cls := 12, slots := #[.int (-30)], vm := .none },
  { cls := 12, slots := #[.int (-29)], vm := .none },
  { cls := 12, slots := #[.int (-28)], vm := .none },
  { cls := 12, slots := #[.int (-27)], vm := .none },
  { cls := 12, slots := #[.int (-26)], vm := .none },
  { cls := 12, slots := #[.int (-25)], vm := .none },
  { cls := 12, slots := #[.int (-24)], vm := .none },
  { cls := 12, slots := #[.int (-23)], vm := .none },
  { cls := 12, slots := #[.int (-22)], vm := .none },
  { cls := 12, slots := #[.int (-21)], vm := .none },
  { cls := 12, slots := #[.int (-20)], vm := .none },
  { cls := 12, slots := #[.int (-19)], vm := .none },
  { cls := 12, slots := #[.int (-18)], vm := .none },
  { cls := 12, slots := #[.int (-17)], vm := .none },
  { cls := 12, slots := #[.int (-16)], vm := .none },
  { cls := 12, slots := #[.int (-15)], vm := .none },
  { cls := 12, slots := #[.int (-14)], vm := .none },
  { cls := 12, slots := #[.int (-13)], vm := .none },
  { cls := 12, slots := #[.int (-12)], vm := .none },
  { cls := 12, slots := #[.int (-11)], vm := .none },
  { cls := 12, slots := #[.int (-10)], vm := .none },
  { cls := 12, slots := #[.int (-9)], vm := .none },
  { cls := 12, slots := #[.int (-8)], vm := .none },
  { cls := 12, slots := #[.int (-7)], vm := .none },
  { cls := 12, slots := #[.int (-6)], vm := .none },
  { cls := 12, slots := #[.int (-5)], vm := .none },
  { cls := 12, slots := #[.int (-4)], vm := .none },
  { cls := 12, slots := #[.int (-3)], vm := .none },
  { cls := 12, slots := #[.int (-2)], vm := .none },
  { cls := 12, slots := #[.int (-1)], vm := .none },
  { cls := 12, slots := #[.int (0)], vm := .none },
  { cls := 12, slots := #[.int (1)], vm := .none },
  { cls := 12, slots := #[.int (2)], vm := .none },
  { cls := 12, slots := #[.int (3)], vm := .none },
  { cls := 12, slots := #[.int (4)], vm := .none },
  { cls := 12, slots := #[.int (5)], vm := .none },
  { cls := 12, slots := #[.int (6)], vm := .none },
  { cls := 12, slots := #[.int (7)], vm := .none },
  { cls := 12, slots := #[.int (8)], vm := .none },
  { cls := 12, slots := #[.int (9)], vm := .none },
  { cls := 12, slots := #[.int (10)], vm := .none },
  { cls := 12, slots := #[.int (11)], vm := .none },
  { cls := 12, slots := #[.int (12)], vm := .none },
  { cls := 12, slots := #[.int (13)], vm := .none },
  { cls := 12, slots := #[.int (14)], vm := .none },
  { cls := 12, slots := #[.int (15)], vm := .none },
  { cls := 12, slots := #[.int (16)], vm := .none },
  { cls := 12, slots := #[.int (17)], vm := .none },
  { cls := 12, slots := #[.int (18)], vm := .none },
  { cls := 12, slots := #[.int (19)], vm := .none },
  { cls := 12, slots := #[.int (20)], vm := .none },
  { cls := 12, slots := #[.int (21)], vm := .none },
  { cls := 12, slots := #[.int (22)], vm := .none },
  { cls := 12, slots := #[.int (23)], vm := .none },
  { cls := 12, slots := #[.int (24)], vm := .none },
  { cls := 12, slots := #[.int (25)], vm := .none },
  { cls := 12, slots := #[.int (26)], vm := .none },
  { cls := 12, slots := #[.int (27)], vm := .none },
  { cls := 12, slots := #[.int (28)], vm := .none },
  { cls := 12, slots := #[.int (29)], vm := .none },
  { cls := 12, slots := #[.int (30)], vm := .none },
  { cls := 12, slots := #[.int (31)], vm := .none },
  { cls := 12, slots := #[.int (32)], vm := .none },
  { cls := 12, slots := #[.int (33)], vm := .none },
  { cls := 12, slots := #[.int (34)], vm := .none },
  { cls := 12, slots := #[.int (35)], vm := .none },
  { cls := 12, slots := #[.int (36)], vm := .none },
  { cls := 12, slots := #[.int (37)], vm := .none },
  { cls := 12, slots := #[.int (38)], vm := .none },
  { cls := 12, slots := #[.int (39)], vm := .none },
  { cls := 12, slots := #[.int (40)], vm := .none },
  { cls := 12, slots := #[.int (41)], vm := .none },
  { cls := 12, slots := #[.int (42)], vm := .none },
  { cls := 12, slots := #[.int (43)], vm := .none },
  { cls := 12, slots := #[.int (44)], vm := .none },
  { cls := 12, slots := #[.int (45)], vm := .none },
  { cls := 12, slots := #[.int (46)], vm := .none },
  { cls := 12, slots := #[.int (47)], vm := .none },
  { cls := 12, slots := #[.int (48)], vm := .none },
  { cls := 12, slots := #[.int (49)], vm := .none },
  { cls := 12, slots := #[.int (50)], vm := .none },
  { cls := 12, slots := #[.int (51)], vm := .none },
  { cls := 12, slots := #[.int (52)], vm := .none },
  { cls := 12, slots := #[.int (53)], vm := .none },
  { cls := 12, slots := #[.int (54)], vm := .none },
  { cls := 12, slots := #[.int (55)], vm := .none },
  { cls := 12, slots := #[.int (56)], vm := .none },
  { cls := 12, slots := #[.int (57)], vm := .none },
  { cls := 12, slots := #[.int (58)], vm := .none },
  { cls := 12, slots := #[.int (59)], vm := .none },
  { cls := 12, slots := #[.int (60)], vm := .none },
  { cls := 12, slots := #[.int (61)], vm := .none },
  { cls := 12, slots := #[.int (62)], vm := .none },
  { cls := 12, slots := #[.int (63)], vm := .none },
  { cls := 12, slots := #[.int (64)], vm := .none },
  { cls := 12, slots := #[.int (65)], vm := .none },
  { cls := 12, slots := #[.int (66)], vm := .none },
  { cls := 12, slots := #[.int (67)], vm := .none },
  { cls := 12, slots := #[.int (68)], vm := .none },
  { cls := 12, slots := #[.int (69)], vm := .none },
  { cls := 12, slots := #[.int (70)], vm := .none },
  { cls := 12, slots := #[.int (71)], vm := .none },
  { cls := 12, slots := #[.int (72)], vm := .none },
  { cls := 12, slots := #[.int (73)], vm := .none },
  { cls := 12, slots := #[.int (74)], vm := .none },
  { cls := 12, slots := #[.int (75)], vm := .none },
  { cls := 12, slots := #[.int (76)], vm := .none },
  { cls := 12, slots := #[.int (77)], vm := .none },
  { cls := 12, slots := #[.int (78)], vm := .none },
  { cls := 12, slots := #[.int (79)], vm := .none },
  { cls := 12, slots := #[.int (80)], vm := .none },
  { cls := 12, slots := #[.int (81)], vm := .none },
  { cls := 12, slots := #[.int (82)], vm := .none },
  { cls := 12, slots := #[.int (83)], vm := .none },
  { cls := 12, slots := #[.int (84)], vm := .none },
  { cls := 12, slots := #[.int (85)], vm := .none },
  { cls := 12, slots := #[.int (86)], vm := .none },
  { cls := 12, slots := #[.int (87)], vm := .none },
  { cls := 12, slots := #[.int (88)], vm := .none },
  { cls := 12, slots := #[.int (89)], vm := .none },
  { cls := 12, slots := #[.int (90)], vm := .none },
  { cls := 12, slots := #[.int (91)], vm := .none },
  { cls := 12, slots := #[.int (92)], vm := .none },
  { cls := 12, slots := #[.int (93)], vm := .none },
  { cls := 12, slots := #[.int (94)], vm := .none },
  { cls := 12, slots := #[.int (95)], vm := .none },
  { cls := 12, slots := #[.int (96)], vm := .none },
  { cls := 12, slots := #[.int (97)], vm := .none },
  { cls := 12, slots := #[.int (98)], vm := .none },
  { cls := 12, slots := #[.int (99)], vm := .none },
  { cls := 12, slots := #[.int (100)], vm := .none },
  { cls := 12, slots := #[.int (101)], vm := .none },
  { cls := 12, slots := #[.int (102)], vm := .none },
  { cls := 12, slots := #[.int (103)], vm := .none },
  { cls := 12, slots := #[.int (104)], vm := .none },
  { cls := 12, slots := #[.int (105)], vm := .none },
  { cls := 12, slots := #[.int (106)], vm := .none },
  { cls := 12, slots := #[.int (107)], vm := .none },
  { cls := 12, slots := #[.int (108)], vm := .none },
  { cls := 12, slots := #[.int (109)], vm := .none },
  { cls := 12, slots := #[.int (110)], vm := .none },
  { cls := 12, slots := #[.int (111)], vm := .none },
  { cls := 12, slots := #[.int (112)], vm := .none },
  { cls := 12, slots := #[.int (113)], vm := .none },
  { cls := 12, slots := #[.int (114)], vm := .none },
  { cls := 12, slots := #[.int (115)], vm := .none },
  { cls := 12, slots := #[.int (116)], vm := .none },
  { cls := 12, slots := #[.int (117)], vm := .none },
  { cls := 12, slots := #[.int (118)], vm := .none },
  { cls := 12, slots := #[.int (119)], vm := .none },
  { cls := 12, slots := #[.int (120)], vm := .none },
  { cls := 12, slots := #[.int (121)], vm := .none },
  { cls := 12, slots := #[.int (122)], vm := .none },
  { cls := 12, slots := #[.int (123)], vm := .none },
  { cls := 12, slots := #[.int (124)], vm := .none },
  { cls := 12, slots := #[.int (125)], vm := .none },
  { cls := 12, slots := #[.int (126)], vm := .none },
  { cls := 12, slots := #[.int (127)], vm := .none }]
def classes : Array Class := #[k0, k1, k2, k3, k4, k5, k6, k7, k8, k9, k10, k11, k12, k13, k14, k15, k16, k17, k18, k19, k20, k21, k22, k23, k24]
def interned : List (Array UInt16 × Addr) := []
def slotsUsed : Nat := 527
def theMethod : MethodId := ⟨1, 2⟩
def args0 : Array Value := #[.int 5, .int 7, .int 9]
def aboutOver (below : List Frame) : State where
  vm := { classes := classes, interned := interned.toArray }
  heap := heap
  slotsUsed := slotsUsed
  threads := #[{ frames := .invoking theMethod args0 :: below }]
def below0 : List Frame := [.native { method := ⟨0, 0⟩, args := #[] }]
def about1 : State := aboutOver below0
def p0 : Program := .bare "" "" ""
def e0 : Env := launch0.env 0 0 0
theorem w_frames : about1.frames = Frame.invoking theMethod args0 :: below0 := rfl
set_option maxRecDepth 65536 in
theorem w_args : argsFit about1.vm theMethod args0 = true := by decide +kernel
set_option maxRecDepth 65536 in
theorem w_heap : heapFits about1 = true := by decide +kernel
set_option maxRecDepth 65536 in
theorem w_runnable : about1.curStatus? = some .runnable := by decide +kernel
set_option maxRecDepth 65536 in
theorem w_alone : about1.alone = true := by decide +kernel
set_option maxRecDepth 65536 in
theorem w_named : about1.methodNamed? x = some theMethod := by decide +kernel
set_option maxRecDepth 65536 in
theorem w_hears : about1.hears theMethod below0 = true := by decide +kernel
set_option maxRecDepth 65536 in
theorem w_ripe : about1.ripe theMethod args0 below0 = true := by decide +kernel
theorem w_running : about1.status = .running := rfl
set_option maxRecDepth 65536 in
theorem w_room : about1.hasRoom e0.platform room_1 = true :=
  launch0.hasRoom_least _ room_1 (by decide +kernel) (by decide +kernel) (by decide +kernel) (by decide +kernel) (by decide +kernel) (by decide +kernel)
theorem allAtoms_all (ts : List Jvm.Cond) (a : Array Jvm.Value) (st : Jvm.State) : (allAtoms ts).before a st = ts.all (fun c => c.before a st) := by
  induction ts with
  | nil => rfl
  | cons c t ih =>
    show (Jvm.Cond.and c (allAtoms t)).before a st = _
    rw [Jvm.Cond.before_and, ih, List.all_cons]
def words1 : List Jvm.Cond := Jvm.Cond.code x code maxLocals ret :: tables_1
/-- a 'code' word, met by the world's own term for the bytes: nothing is compared byte by byte -/
theorem code_word {y : MethodName} {bytes : ByteArray} {mx : Nat} {rt : Option FieldType} {a : Array Value} {s : State} {m : MethodId} {meth : Method} {c : Code} (h1 : s.methodNamed? y = some m) (h2 : s.vm.method? m = some meth) (h3 : meth.code = some c) (h4 : c.code = bytes)
    (h5 : (c.maxLocals == mx && c.exceptionTable.isEmpty && decide (c.maxStack ≤ mostOperands) && decide (meth.sig.returnType = rt) && !meth.locks && decide (parseMethodDescriptor y.desc = some meth.sig)) = true) : (Jvm.Cond.code y bytes mx rt).before a s = true := by
  simp only [Bool.and_eq_true, beq_iff_eq, Bool.not_eq_true', decide_eq_true_eq] at h5
  obtain ⟨⟨⟨⟨⟨g1, g2⟩, g3⟩, g4⟩, g5⟩, g6⟩ := h5
  simp [Cond.before, Cond.holds, Cond.value, h1, h2, h3, h4, g1, g2, g3, g4, g5, g6]
def isCode : Jvm.Cond → Bool
  | .code _ _ _ _ => true
  | _ => false
theorem all_split {L : List Jvm.Cond} {P : Jvm.Cond → Bool} (h1 : L.all (fun c => isCode c || P c) = true) (h2 : ∀ c ∈ L.filter isCode, P c = true) : L.all P = true := by
  refine List.all_eq_true.mpr fun c hc => ?_
  have h := List.all_eq_true.mp h1 c hc
  rcases Bool.eq_false_or_eq_true (isCode c) with hi | hi
  · exact h2 c (List.mem_filter.mpr ⟨hc, hi⟩)
  · simpa [hi] using h
set_option maxRecDepth 65536 in
theorem w_c0 : (Jvm.Cond.code x code maxLocals ret).before args0 about1 = true := code_word (m := ⟨1, 2⟩) (meth := k1m2) (c := k1c2) (by decide +kernel) rfl rfl rfl (by decide +kernel)
set_option maxRecDepth 65536 in
theorem w_c1 : (Jvm.Cond.code ({ cls := "java/lang/String", name := "<init>", desc := "([C)V" } : Jvm.MethodName) jdk_42_method_3_code (2 : Nat) (Option.none : Option Jvm.ClassFile.FieldType)).before args0 about1 = true := code_word (m := ⟨7, 1⟩) (meth := k7m1) (c := k7c1) (by decide +kernel) rfl rfl rfl (by decide +kernel)
set_option maxRecDepth 65536 in
theorem w_c2 : (Jvm.Cond.code ({ cls := "java/lang/String", name := "<init>", desc := "([CIILjava/lang/Void;)V" } : Jvm.MethodName) jdk_42_method_149_code (6 : Nat) (Option.none : Option Jvm.ClassFile.FieldType)).before args0 about1 = true := code_word (m := ⟨7, 2⟩) (meth := k7m2) (c := k7c2) (by decide +kernel) rfl rfl rfl (by decide +kernel)
set_option maxRecDepth 65536 in
theorem w_c3 : (Jvm.Cond.code ({ cls := "java/lang/Object", name := "<init>", desc := "()V" } : Jvm.MethodName) object_method_1_code (1 : Nat) (Option.none : Option Jvm.ClassFile.FieldType)).before args0 about1 = true := code_word (m := ⟨0, 0⟩) (meth := k0m0) (c := k0c0) (by decide +kernel) rfl rfl rfl (by decide +kernel)
set_option maxRecDepth 65536 in
theorem w_c4 : (Jvm.Cond.code ({ cls := "java/lang/StringUTF16", name := "compress", desc := "([CII)[B" } : Jvm.MethodName) jdk_52_method_16_code (6 : Nat) (Option.some (Jvm.ClassFile.FieldType.array Jvm.ClassFile.FieldType.byte))).before args0 about1 = true := code_word (m := ⟨8, 2⟩) (meth := k8m2) (c := k8c2) (by decide +kernel) rfl rfl rfl (by decide +kernel)
set_option maxRecDepth 65536 in
theorem w_c5 : (Jvm.Cond.code ({ cls := "java/lang/StringUTF16", name := "compress", desc := "([CI[BII)I" } : Jvm.MethodName) jdk_52_method_21_code (7 : Nat) (Option.some Jvm.ClassFile.FieldType.int)).before args0 about1 = true := code_word (m := ⟨8, 3⟩) (meth := k8m3) (c := k8c3) (by decide +kernel) rfl rfl rfl (by decide +kernel)
set_option maxRecDepth 65536 in
theorem w_c6 : (Jvm.Cond.code ({ cls := "java/lang/StringUTF16", name := "coderFromArrayLen", desc := "([BI)B" } : Jvm.MethodName) jdk_52_method_15_code (2 : Nat) (Option.some Jvm.ClassFile.FieldType.byte)).before args0 about1 = true := code_word (m := ⟨8, 1⟩) (meth := k8m1) (c := k8c1) (by decide +kernel) rfl rfl rfl (by decide +kernel)
set_option maxRecDepth 65536 in
theorem w_c7 : (Jvm.Cond.code ({ cls := "java/lang/Math", name := "min", desc := "(II)I" } : Jvm.MethodName) jdk_29_method_69_code (2 : Nat) (Option.some Jvm.ClassFile.FieldType.int)).before args0 about1 = true := code_word (m := ⟨9, 1⟩) (meth := k9m1) (c := k9c1) (by decide +kernel) rfl rfl rfl (by decide +kernel)
set_option maxRecDepth 65536 in
theorem w_c8 : (Jvm.Cond.code ({ cls := "com/example/nepean/nepean/session/PendingKeyEqualsPinLaw", name := "pick", desc := "(ILjava/lang/Object;Ljava/lang/Object;)Ljava/lang/Object;" } : Jvm.MethodName) method_2_code (3 : Nat) (Option.some (Jvm.ClassFile.FieldType.object "java/lang/Object"))).before args0 about1 = true := code_word (m := ⟨1, 1⟩) (meth := k1m1) (c := k1c1) (by decide +kernel) rfl rfl rfl (by decide +kernel)
set_option maxRecDepth 65536 in
theorem w_c9 : (Jvm.Cond.code ({ cls := "com/example/nepean/nepean/session/PendingKey", name := "<init>", desc := "(Ljava/lang/Object;Ljava/lang/Object;)V" } : Jvm.MethodName) prog_24_method_1_code (3 : Nat) (Option.none : Option Jvm.ClassFile.FieldType)).before args0 about1 = true := code_word (m := ⟨10, 0⟩) (meth := k10m0) (c := k10c0) (by decide +kernel) rfl rfl rfl (by decide +kernel)
set_option maxRecDepth 65536 in
theorem w_c10 : (Jvm.Cond.code ({ cls := "com/example/nepean/nepean/session/PendingKey", name := "equals", desc := "(Ljava/lang/Object;)Z" } : Jvm.MethodName) prog_24_method_2_code (2 : Nat) (Option.some Jvm.ClassFile.FieldType.boolean)).before args0 about1 = true := code_word (m := ⟨10, 1⟩) (meth := k10m1) (c := k10c1) (by decide +kernel) rfl rfl rfl (by decide +kernel)
set_option maxRecDepth 65536 in
theorem w_c11 : (Jvm.Cond.code ({ cls := "java/lang/Integer", name := "valueOf", desc := "(I)Ljava/lang/Integer;" } : Jvm.MethodName) jdk_33_method_22_code (1 : Nat) (Option.some (Jvm.ClassFile.FieldType.object "java/lang/Integer"))).before args0 about1 = true := code_word (m := ⟨12, 0⟩) (meth := k12m0) (c := k12c0) (by decide +kernel) rfl rfl rfl (by decide +kernel)
set_option maxRecDepth 65536 in
theorem w_c12 : (Jvm.Cond.code ({ cls := "java/lang/Integer", name := "<init>", desc := "(I)V" } : Jvm.MethodName) jdk_33_method_23_code (2 : Nat) (Option.none : Option Jvm.ClassFile.FieldType)).before args0 about1 = true := code_word (m := ⟨12, 1⟩) (meth := k12m1) (c := k12c1) (by decide +kernel) rfl rfl rfl (by decide +kernel)
set_option maxRecDepth 65536 in
theorem w_c13 : (Jvm.Cond.code ({ cls := "java/lang/Number", name := "<init>", desc := "()V" } : Jvm.MethodName) jdk_18_method_1_code (1 : Nat) (Option.none : Option Jvm.ClassFile.FieldType)).before args0 about1 = true := code_word (m := ⟨11, 0⟩) (meth := k11m0) (c := k11c0) (by decide +kernel) rfl rfl rfl (by decide +kernel)
def codes1 : List Jvm.Cond := [Jvm.Cond.code x code maxLocals ret, Jvm.Cond.code ({ cls := "java/lang/String", name := "<init>", desc := "([C)V" } : Jvm.MethodName) jdk_42_method_3_code (2 : Nat) (Option.none : Option Jvm.ClassFile.FieldType), Jvm.Cond.code ({ cls := "java/lang/String", name := "<init>", desc := "([CIILjava/lang/Void;)V" } : Jvm.MethodName) jdk_42_method_149_code (6 : Nat) (Option.none : Option Jvm.ClassFile.FieldType), Jvm.Cond.code ({ cls := "java/lang/Object", name := "<init>", desc := "()V" } : Jvm.MethodName) object_method_1_code (1 : Nat) (Option.none : Option Jvm.ClassFile.FieldType), Jvm.Cond.code ({ cls := "java/lang/StringUTF16", name := "compress", desc := "([CII)[B" } : Jvm.MethodName) jdk_52_method_16_code (6 : Nat) (Option.some (Jvm.ClassFile.FieldType.array Jvm.ClassFile.FieldType.byte)), Jvm.Cond.code ({ cls := "java/lang/StringUTF16", name := "compress", desc := "([CI[BII)I" } : Jvm.MethodName) jdk_52_method_21_code (7 : Nat) (Option.some Jvm.ClassFile.FieldType.int), Jvm.Cond.code ({ cls := "java/lang/StringUTF16", name := "coderFromArrayLen", desc := "([BI)B" } : Jvm.MethodName) jdk_52_method_15_code (2 : Nat) (Option.some Jvm.ClassFile.FieldType.byte), Jvm.Cond.code ({ cls := "java/lang/Math", name := "min", desc := "(II)I" } : Jvm.MethodName) jdk_29_method_69_code (2 : Nat) (Option.some Jvm.ClassFile.FieldType.int), Jvm.Cond.code ({ cls := "com/example/nepean/nepean/session/PendingKeyEqualsPinLaw", name := "pick", desc := "(ILjava/lang/Object;Ljava/lang/Object;)Ljava/lang/Object;" } : Jvm.MethodName) method_2_code (3 : Nat) (Option.some (Jvm.ClassFile.FieldType.object "java/lang/Object")), Jvm.Cond.code ({ cls := "com/example/nepean/nepean/session/PendingKey", name := "<init>", desc := "(Ljava/lang/Object;Ljava/lang/Object;)V" } : Jvm.MethodName) prog_24_method_1_code (3 : Nat) (Option.none : Option Jvm.ClassFile.FieldType), Jvm.Cond.code ({ cls := "com/example/nepean/nepean/session/PendingKey", name := "equals", desc := "(Ljava/lang/Object;)Z" } : Jvm.MethodName) prog_24_method_2_code (2 : Nat) (Option.some Jvm.ClassFile.FieldType.boolean), Jvm.Cond.code ({ cls := "java/lang/Integer", name := "valueOf", desc := "(I)Ljava/lang/Integer;" } : Jvm.MethodName) jdk_33_method_22_code (1 : Nat) (Option.some (Jvm.ClassFile.FieldType.object "java/lang/Integer")), Jvm.Cond.code ({ cls := "java/lang/Integer", name := "<init>", desc := "(I)V" } : Jvm.MethodName) jdk_33_method_23_code (2 : Nat) (Option.none : Option Jvm.ClassFile.FieldType), Jvm.Cond.code ({ cls := "java/lang/Number", name := "<init>", desc := "()V" } : Jvm.MethodName) jdk_18_method_1_code (1 : Nat) (Option.none : Option Jvm.ClassFile.FieldType)]
set_option maxRecDepth 65536 in
theorem codes_eq : words1.filter isCode = codes1 := rfl
theorem w_codes : ∀ c ∈ words1.filter isCode, c.before args0 about1 = true := by
  rw [codes_eq]
  intro c hc
  simp only [codes1, List.mem_cons, List.not_mem_nil, or_false] at hc
  rcases hc with rfl | rfl | rfl | rfl | rfl | rfl | rfl | rfl | rfl | rfl | rfl | rfl | rfl | rfl
  · exact w_c0
  · exact w_c1
  · exact w_c2
  · exact w_c3
  · exact w_c4
  · exact w_c5
  · exact w_c6
  · exact w_c7
  · exact w_c8
  · exact w_c9
  · exact w_c10
  · exact w_c11
  · exact w_c12
  · exact w_c13
set_option maxRecDepth 65536 in
theorem w_t1 : (words1.take 24).all (fun c => isCode c || c.before args0 about1) = true := by decide +kernel
set_option maxRecDepth 65536 in
theorem w_t2 : ((words1.drop 24).take 24).all (fun c => isCode c || c.before args0 about1) = true := by decide +kernel
set_option maxRecDepth 65536 in
theorem w_t3 : (((words1.drop 24).drop 24).take 24).all (fun c => isCode c || c.before args0 about1) = true := by decide +kernel
set_option maxRecDepth 65536 in
theorem w_t4 : (((words1.drop 24).drop 24).drop 24).all (fun c => isCode c || c.before args0 about1) = true := by decide +kernel
theorem w_tables : (allAtoms (Jvm.Cond.code x code maxLocals ret :: tables_1)).before args0 about1 = true := by
  rw [allAtoms_all]
  show words1.all (fun c => c.before args0 about1) = true
  refine all_split ?_ w_codes
  rw [← List.take_append_drop 24 words1, List.all_append, w_t1, ← List.take_append_drop 24 (words1.drop 24), List.all_append, w_t2, ← List.take_append_drop 24 ((words1.drop 24).drop 24), List.all_append, w_t3, w_t4]
  rfl
set_option maxRecDepth 65536 in
theorem w_rest : rest_1_c.before args0 about1 = true := by decide +kernel
set_option maxRecDepth 65536 in
theorem w_case : (Jvm.Cond.and given_1 narrow_1).before args0 about1 = true := by decide +kernel
theorem w_applies : (headSpec (Jvm.Cond.code x code maxLocals ret :: tables_1) room_1).applies x e0.platform about1 = true :=
  (Spec.applies_iff w_frames).mpr ⟨w_running, w_runnable, w_alone, w_named, w_hears, w_ripe, w_room, w_tables⟩
theorem atStart : AtStart classFile x code maxLocals ret World_1 tables_1 room_1 Calls_1 rest_1 Pre_1 launch0 p0 e0 about1 theMethod args0 below0 :=
  ⟨lists_1, trivial, launch0.admits_env _ _ _, launch0.least_env, fairChoices_fair.cas, fairChoices_fair.clock, w_frames, w_args, w_heap, w_applies, trivial, w_rest, w_case⟩
end start1
theorem witness_1 : WitnessClaimed_1 := ⟨start1.p0, start1.e0, start1.about1, start1.theMethod, start1.args0, start1.below0, start1.atStart⟩
end Jvm.Pilot.@@N@@
