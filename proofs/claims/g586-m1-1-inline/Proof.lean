import JvmDerived
import JvmDerived.Pilot.@@N@@Statement
import JvmDerived.Pilot.@@N@@Code
set_option linter.unusedVariables false
set_option linter.unusedSimpArgs false
namespace Jvm.RoadKit
open Sem ClassFile Op Lib Jvm.Stand Jvm.Free Jvm.LawKit
section New
variable {p : Program} {l : Launch} {e : Env} {R : Room} {s : State} {m : MethodId} {args : Array Value} {below : List Frame} {meth : Method} {c : Code} {T : State} {locs : List Loc} {cells slots : Nat}
theorem retI (X : Stand p l e R s m args below meth c T locs cells slots) (hx : p.tables.exec = Jvm.exec) {pc : Nat} {Ls : Array Slot} {z : Int32} {rest : List Value} (hret : meth.sig.returnType = some .int) (hd : decode c.code pc = .ok (.ireturn, 1)) {fs : List Frame}
    (hl : ∀ (f : JFrame) (acts : List Action), f.method = m → f.locked = none → f.entered = [] → (doReturn e (T.setTop f) acts (some (.int z))).1 = T.setFrames fs) : Steps p.tables e below (T.setTop (mkF m pc Ls (.int z :: rest))) (T.setFrames fs) := by
  have hm' : T.vm.method? m = some meth := X.method'
  have hn : narrow .int (.int z) = .int z := rfl
  show Steps p.tables e below (T.setTop { method := m, pc := pc, locals := Ls, stack := _ :: rest, locked := none }) _
  jvm_step X.here [X.here.top, hx, hd, hm', hret, hn]
  first | (intro acts; rw [hl _ acts rfl rfl rfl]) | rw [hl _ _ rfl rfl rfl]
  exact Steps.refl _
end New
end Jvm.RoadKit
namespace Jvm.Pilot.@@N@@
open Jvm Jvm.ClassFile Sem Op Lib Jvm.Free Jvm.Stand Jvm.LawKit Jvm.RoadKit Bundle Jvm.Pilot.@@N@@.Jvm.D
def OF (tb : Tables) (e : Env) (below : List Frame) (G : Outcome → State → Prop) (t : State) : Prop := ∃ s₂ o, Steps tb e below t s₂ ∧ s₂.status = .running ∧ Ended s₂ below o ∧ G o s₂
theorem oS {tb : Tables} {e : Env} {below : List Frame} {G : Outcome → State → Prop} {t t' : State} (k : ∀ target, Steps tb e below t' target → Steps tb e below t target) (h : OF tb e below G t') : OF tb e below G t := by
  obtain ⟨s2, o, h1, h2⟩ := h
  exact ⟨s2, o, k _ h1, h2⟩
theorem w_ {Z : State} {a0 : Array Value} (hw : ∀ d ∈ tables_1, d.before a0 Z = true) (i : Nat) {d : Jvm.Cond} (h : tables_1[i]? = some d) : d.before a0 Z = true := hw _ (List.mem_of_getElem? h)
theorem oT {tb : Tables} {e : Env} {below : List Frame} {G : Outcome → State → Prop} {t t' : State} (k : Steps tb e below t t') (h : OF tb e below G t') : OF tb e below G t := by
  obtain ⟨s2, o, h1, h2⟩ := h
  exact ⟨s2, o, k.trans h1, h2⟩
theorem own_nari2c {x : Int32} : nar .char (x.toUInt32.toUInt16.toUInt32.toInt32) = x.toUInt32.toUInt16.toUInt32.toInt32 := by simp only [nar, UInt32.toUInt32_toInt32, UInt16.toUInt16_toUInt32]
theorem own_nari2b {x : Int32} : x.toInt8.toInt32.toInt8.toInt32 = x.toInt8.toInt32 := by simp
theorem own_narc {x : Int32} (h1 : ¬ x < (0 : Int32)) (h2 : ¬ (255 : Int32) < x) : nar .char x = x := by
  have e := c_i2c x
  rw [Int32.lt_iff_toInt_lt] at h1 h2
  rw [← Int32.toInt_inj]
  show x.toUInt32.toUInt16.toUInt32.toInt32.toInt = x.toInt
  have r0 : (0 : Int32).toInt = 0 := rfl
  have r1 : (255 : Int32).toInt = 255 := rfl
  omega
theorem own_i2bne {x y : Int32} (h1 : ¬ x < (0 : Int32)) (h2 : ¬ (255 : Int32) < x) (h3 : ¬ y < (0 : Int32)) (h4 : ¬ (255 : Int32) < y) (h : ¬ x = y) : ¬ x.toInt8.toInt32 = y.toInt8.toInt32 := fun q => by
  have e := c_i2b x
  have e' := c_i2b y
  rw [Int32.lt_iff_toInt_lt] at h1 h2 h3 h4
  rw [← Int32.toInt_inj] at h q
  have r0 : (0 : Int32).toInt = 0 := rfl
  have r1 : (255 : Int32).toInt = 255 := rfl
  omega
theorem own_iteref {P : Prop} [Decidable P] {a b : Value} (ha : a.isRef = true) (hb : b.isRef = true) : (if P then a else b).isRef = true := by split <;> assumption
theorem own_fits {C : String} {v : Value} (h : v.isRef = true) : fits (.object C) v = true := by
  rcases ref_cases h with rfl | ⟨a, rfl⟩ <;> rfl
theorem own_safe {Z : State} {EL : List (String × Nat)} {vm : Vm} {h : Heap} {x : Addr} (hal : Z.vm.Alike vm) (E : Exa Z h x "java/lang/String") (F : Fld Z h x "java/lang/String" "value" "[B" .null) : Safe Z EL vm h x := fun B => by
  obtain ⟨cell, k, e1, e2, e3, -, -⟩ := E
  obtain ⟨cell', cf, kf, i, f, f1, f2, f3, f4, f5, f6, f7⟩ := F
  cases e1.symm.trans f1
  obtain ⟨p, -, u, a, -, q, -, G, rfl | rfl⟩ := B
  · cases (show h[q.sa]? = some q.sC from G.ha).symm.trans e1
    obtain ⟨cS, ⟨⟨-, -, -, ⟨c1, k1, i1, g1, -⟩, -, -, -, v1, -⟩, -⟩, -⟩ := G
    obtain ⟨k3, e3', -⟩ := State.fieldFound?_setVm (s := { Z with heap := h }) (vm' := vm) hal f2
    have e4 := (show (Wst Z vm h).fieldFound? _ _ _ = _ from e3').symm.trans g1
    simp only [Option.some.injEq, Prod.mk.injEq] at e4
    rw [← e4.2.2.2, f7] at v1
    cases v1
  · cases (show h[q.sd]? = some q.SA from G.hd).symm.trans e1
    obtain ⟨cS, -, -, g, -⟩ := G
    have g' : vm.findClass "[B" = some q.SA.cls := g
    rw [hal.findClass] at g'
    obtain ⟨k1, q1, q2⟩ := Vm.findClass_spec g'
    obtain ⟨k2, q3, q4⟩ := Vm.findClass_spec e2
    cases q1.symm.trans q3
    have : "[B" = "java/lang/String" := q2.symm.trans q4
    simp at this
theorem own_eqv {args : Array Value} {first s : State} {o : Option Outcome} {idx : List Nat} {t : Term} {n : Int32} {x : Value} (h : (Jvm.Cond.eq t (Term.int n)).value args first o s idx = some true) (e : t.eval args first o idx s = some x) : x = .int n := by
  cases x <;> simp_all [Cond.value, Term.eval]
theorem own_isr {args : Array Value} {first s : State} {o : Option Outcome} {idx : List Nat} {t : Term} (h : (Jvm.Cond.isRef t).value args first o s idx = some true) : ∃ x, t.eval args first o idx s = some x ∧ x.isRef = true := by
  simp only [Cond.value] at h; cases ht : t.eval args first o idx s with
  | none => simp [ht] at h
  | some x => simp [ht] at h; exact ⟨x, rfl, h⟩
abbrev own_MF (l : Launch) (Z : State) (h0 : Heap) (y : MethodName) (ws : List Jvm.Cond) (R : Room) (A : Array Value) (Q : Option Value → Heap → List Loc → Prop) : Prop := MetFree l y (head1 ws R) (fun a U => a = A ∧ Z.Warmed39 U.vm ∧ U.heap = h0) (fun _ _ _ _ _ => True) (fun _ U o U' => ∃ v L, o = .returned v ∧ Q v U'.heap L ∧ FrameEnd U o U' L R.cells R.slots)
theorem own_ent {l : Launch} {Z : State} {h0 : Heap} {y : MethodName} {bytes : ByteArray} {maxL : Nat} {ret : Option FieldType} {ws : List Jvm.Cond} {R : Room} {A : Array Value} {Q : Option Value → Heap → List Loc → Prop} {own : String} (hp : plainFor y = true) (ho : y.cls = own)
    (H : ∀ (p : Program) (e : Env) (s : State) (m : MethodId) (below : List Frame) (meth : Method) (c : Code) (s₁ : State), BodyLoose p l y (head1 (Jvm.Cond.code y bytes maxL ret :: ws) R) bytes maxL ret e s m A below meth c s₁ → p.tables.exec = Jvm.exec → c.code = bytes → c.maxLocals = maxL → Z.Warmed39 s.vm → s.heap = h0 → s.vm.findClass own = some m.cls → meth.name = y.name → Stand p l e R s m A below meth c s₁ [] 0 0 → s₁.heap = h0 →
      OF p.tables e below (fun o U' => ∃ v L, o = .returned v ∧ Q v U'.heap L ∧ FrameEnd s o U' L R.cells R.slots) (s₁.setTop (entryFrame m A maxL))) : own_MF l Z h0 y (Jvm.Cond.code y bytes maxL ret :: ws) R A Q := by
  refine MetFree.of_bodySF hp hisR ?_
  intro p e s m args below meth c s₁ Bd hml0 hP hK
  obtain ⟨rfl, hZ, hh⟩ := hP
  exact H p e s m below meth c s₁ Bd Bd.exec Bd.bytes hml0 hZ hh (by rw [← ho]; exact findClass_of_methodNamed Bd.named) (name_of_methodNamed Bd.named Bd.method).1 (Stand.of_body Bd) (by rw [← hh, Bd.state]; rfl)
def own_ml (z : Int32) (f : Nat → Int32) : List Value := (List.range z.toNatClampNeg).map fun i => Value.int (f i)
def own_at (f : Nat → Int32) (j : Int32) : Int32 := f j.toNatClampNeg
def own_upd (f : Nat → Int32) (j v : Int32) : Nat → Int32 := fun i => if i = j.toNatClampNeg then v else f i
def own_zf : Nat → Int32 := fun _ => 0
def own_lf (l : List Int32) : Nat → Int32 := fun i => l.getD i 0
theorem own_idx {z j : Int32} (h : ¬ j < 0 ∧ j < z) : j.toNatClampNeg < z.toNatClampNeg := by
  obtain ⟨h1, h2⟩ := h; rw [Int32.lt_iff_toInt_lt] at h1 h2; have r : (0 : Int32).toInt = 0 := rfl; simp only [Int32.toNatClampNeg]; omega
theorem own_mlat (f : Nat → Int32) {z j : Int32} (h : ¬ j < 0 ∧ j < z) : (own_ml z f).getD j.toNatClampNeg (.int 0) = .int (own_at f j) := by
  have q := own_idx h; simp only [own_ml, own_at, List.getD_eq_getElem?_getD, List.getElem?_map, List.getElem?_range q]; rfl
theorem own_mllen (z : Int32) (f : Nat → Int32) : (own_ml z f).length = z.toNatClampNeg := by simp [own_ml]
theorem own_mlset (z : Int32) (f : Nat → Int32) (j v : Int32) : (own_ml z f).set j.toNatClampNeg (.int v) = own_ml z (own_upd f j v) := by
  refine List.ext_getElem (by simp [own_ml]) fun i h1 h2 => ?_
  simp only [own_ml, own_upd, List.getElem_set, List.getElem_map, List.getElem_range]
  by_cases q : j.toNatClampNeg = i
  · simp [q]
  · simp [q, Ne.symm q]
theorem own_mlnew (z : Int32) : ∀ i, (own_ml z own_zf).getD i (.int 0) = ([] : List Value).getD i (.int 0) := fun i => by
  simp only [own_ml, own_zf, List.getD_eq_getElem?_getD, List.getElem?_map]; cases (List.range z.toNatClampNeg)[i]? <;> rfl
theorem own_mll {z : Int32} {l : List Int32} (h : z.toNatClampNeg = l.length) : own_ml z (own_lf l) = l.map Value.int := by
  refine List.ext_getElem (by simp [own_ml, h]) fun i h1 h2 => ?_
  have q : i < l.length := by simpa using h2
  simp [own_ml, own_lf, q]
theorem own_toml {Z : State} {h : Heap} {b : Addr} {k : ClassId} {ty : FieldType} {z : Int32} {dv : Value} (l : List Int32) (e : z.toNatClampNeg = l.length) (F : Arv Z h b k ty z (l.map Value.int) dv) : Arv Z h b k ty z (own_ml z (own_lf l)) dv := by rw [own_mll e]; exact F
theorem own_mlcong {Z : State} {h : Heap} {b : Addr} {k : ClassId} {ty : FieldType} {z : Int32} {dv : Value} {f g : Nat → Int32} (e : f = g) (F : Arv Z h b k ty z (own_ml z f) dv) : Arv Z h b k ty z (own_ml z g) dv := e ▸ F
theorem own_wS {Z : State} {a0 : Array Value} (hw : ∀ d ∈ tables_1, d.before a0 Z = true) : ∀ a ∈ Bundle.stringAtoms, a.before a0 Z = true := by
  intro a ha
  simp only [Bundle.stringAtoms, List.mem_cons, List.not_mem_nil, or_false] at ha
  rcases ha with rfl | rfl | rfl | rfl | rfl | rfl | rfl
  · exact (w_ hw 51 rfl)
  · exact (w_ hw 91 rfl)
  · exact (w_ hw 52 rfl)
  · exact (w_ hw 92 rfl)
  · exact (w_ hw 93 rfl)
  · exact (w_ hw 94 rfl)
  · exact (w_ hw 95 rfl)
def own_EL : List (String × Nat) := [("com/example/kwhat/kwhat/ProRata", 64)]
theorem own_EW {Z : State} {a0 : Array Value} (hw : ∀ d ∈ tables_1, d.before a0 Z = true) : EW Z a0 own_EL := (EW.cons (w_ hw 90 rfl) (by decide) EW.nil)
theorem own_ELc : ∀ p ∈ own_EL, p ∈ consts_1 := by decide
abbrev vi (x : Int32) : Slot := .val (.int x)
abbrev vr (x : Addr) : Slot := .val (.ref x)
abbrev yM0 : MethodName := ⟨"java/lang/AbstractStringBuilder", "isLatin1", "()Z"⟩
abbrev yM1 : MethodName := ⟨"com/example/kwhat/kwhat/ProRata", "<init>", "(JI)V"⟩
abbrev yM2 : MethodName := ⟨"java/lang/AbstractStringBuilder", "<init>", "(I)V"⟩
abbrev yM3 : MethodName := ⟨"java/lang/StringBuilder", "<init>", "()V"⟩
abbrev yM4 : MethodName := ⟨"java/lang/Long", "stringSize", "(J)I"⟩
abbrev yM5 : MethodName := ⟨"java/lang/Integer", "stringSize", "(I)I"⟩
abbrev yM6 : MethodName := ⟨"java/lang/Math", "max", "(II)I"⟩
abbrev yM7 : MethodName := ⟨"jdk/internal/util/ArraysSupport", "newLength", "(III)I"⟩
abbrev yM8 : MethodName := ⟨"java/lang/AbstractStringBuilder", "newCapacity", "(I)I"⟩
abbrev yM9 : MethodName := ⟨"java/lang/Math", "min", "(II)I"⟩
abbrev yM10 : MethodName := ⟨"java/util/Arrays", "copyOf", "([BI)[B"⟩
abbrev yM11 : MethodName := ⟨"java/lang/AbstractStringBuilder", "ensureCapacityInternal", "(I)V"⟩
abbrev yM12 : MethodName := ⟨"java/lang/Long", "getChars", "(JI[B)I"⟩
abbrev yM13 : MethodName := ⟨"java/lang/Integer", "getChars", "(II[B)I"⟩
abbrev yM14 : MethodName := ⟨"java/lang/AbstractStringBuilder", "append", "(J)Ljava/lang/AbstractStringBuilder;"⟩
abbrev yM15 : MethodName := ⟨"java/lang/StringBuilder", "append", "(J)Ljava/lang/StringBuilder;"⟩
abbrev yM16 : MethodName := ⟨"java/lang/AbstractStringBuilder", "append", "(I)Ljava/lang/AbstractStringBuilder;"⟩
abbrev yM17 : MethodName := ⟨"java/lang/StringBuilder", "append", "(I)Ljava/lang/StringBuilder;"⟩
abbrev yM18 : MethodName := ⟨"java/lang/String", "coder", "()B"⟩
abbrev yM19 : MethodName := ⟨"java/lang/String", "length", "()I"⟩
abbrev yM20 : MethodName := ⟨"java/lang/AbstractStringBuilder", "inflateIfNeededFor", "(Ljava/lang/String;)V"⟩
abbrev yM21 : MethodName := ⟨"java/lang/String", "getBytes", "([BIB)V"⟩
abbrev yM22 : MethodName := ⟨"java/lang/AbstractStringBuilder", "putStringAt", "(ILjava/lang/String;)V"⟩
abbrev yM23 : MethodName := ⟨"java/lang/AbstractStringBuilder", "append", "(Ljava/lang/String;)Ljava/lang/AbstractStringBuilder;"⟩
abbrev yM24 : MethodName := ⟨"java/lang/StringBuilder", "append", "(Ljava/lang/String;)Ljava/lang/StringBuilder;"⟩
abbrev yM25 : MethodName := ⟨"java/lang/AbstractStringBuilder", "getValue", "()[B"⟩
abbrev yM26 : MethodName := ⟨"java/lang/AbstractStringBuilder", "length", "()I"⟩
abbrev yM27 : MethodName := ⟨"java/lang/StringBuilder", "length", "()I"⟩
abbrev yM28 : MethodName := ⟨"java/util/Arrays", "checkLength", "(II)V"⟩
abbrev yM29 : MethodName := ⟨"java/util/Arrays", "copyOfRangeByte", "([BII)[B"⟩
abbrev yM30 : MethodName := ⟨"java/util/Arrays", "copyOfRange", "([BII)[B"⟩
abbrev yM31 : MethodName := ⟨"java/lang/String", "<init>", "(Ljava/lang/AbstractStringBuilder;Ljava/lang/Void;)V"⟩
abbrev yM32 : MethodName := ⟨"java/lang/String", "<init>", "(Ljava/lang/StringBuilder;)V"⟩
abbrev yM33 : MethodName := ⟨"java/lang/StringBuilder", "toString", "()Ljava/lang/String;"⟩
abbrev yM34 : MethodName := ⟨"com/example/kwhat/kwhat/ProRata", "toString", "()Ljava/lang/String;"⟩
abbrev yM35 : MethodName := ⟨"java/lang/String", "isLatin1", "()Z"⟩
abbrev yM36 : MethodName := ⟨"jdk/internal/util/Preconditions", "checkIndex", "(IILjava/util/function/BiFunction;)I"⟩
abbrev yM37 : MethodName := ⟨"java/lang/String", "checkIndex", "(II)V"⟩
abbrev yM38 : MethodName := ⟨"java/lang/StringLatin1", "charAt", "([BI)C"⟩
abbrev yM39 : MethodName := ⟨"java/lang/String", "charAt", "(I)C"⟩
abbrev yM40 : MethodName := ⟨"com/example/kwhat/kwhat/ProRataToStringPinLaw", "digits", "(J[J)I"⟩
abbrev yM41 : MethodName := ⟨"java/lang/Math", "abs", "(I)I"⟩
abbrev yM42 : MethodName := ⟨"com/example/kwhat/kwhat/ProRataToStringPinLaw", "d", "(Ljava/lang/String;IJI[JI)Z"⟩
abbrev yM43 : MethodName := ⟨"com/example/kwhat/kwhat/ProRataToStringPinLaw", "number", "(Ljava/lang/String;IJI[J)Z"⟩
def own_cpy (g : Nat → Int32) (dp : Int32) (f : Nat → Int32) (sp nn : Int32) : Nat → Int32 := fun i => if dp.toNatClampNeg ≤ i ∧ i < dp.toNatClampNeg + nn.toNatClampNeg then f (sp.toNatClampNeg + (i - dp.toNatClampNeg)) else g i
theorem own_mlq (z : Int32) (f : Nat → Int32) (i : Nat) : (own_ml z f)[i]? = if i < z.toNatClampNeg then some (Value.int (f i)) else none := by
  simp only [own_ml, List.getElem?_map]; split
  · rename_i h; rw [List.getElem?_range h]; rfl
  · rename_i h; rw [List.getElem?_eq_none (by simp; omega)]; rfl
theorem own_mlcpy {z z' dp sp nn : Int32} {f g : Nat → Int32} (h1 : sp.toNatClampNeg + nn.toNatClampNeg ≤ z.toNatClampNeg) (h2 : dp.toNatClampNeg + nn.toNatClampNeg ≤ z'.toNatClampNeg) :
    (own_ml z' g).take dp.toNatClampNeg ++ ((List.range nn.toNatClampNeg).map fun i => (own_ml z f).getD (sp.toNatClampNeg + i) (.int 0)) ++ (own_ml z' g).drop (dp.toNatClampNeg + nn.toNatClampNeg) = own_ml z' (own_cpy g dp f sp nn) := by
  refine List.ext_getElem? fun i => ?_
  have l1 : ((own_ml z' g).take dp.toNatClampNeg).length = dp.toNatClampNeg := by rw [List.length_take, own_mllen]; omega
  have l2 : ((List.range nn.toNatClampNeg).map fun i => (own_ml z f).getD (sp.toNatClampNeg + i) (.int 0)).length = nn.toNatClampNeg := by simp
  by_cases a : i < dp.toNatClampNeg
  · rw [List.append_assoc, List.getElem?_append_left (by rw [l1]; exact a), List.getElem?_take_of_lt a, own_mlq, own_mlq, if_pos (by omega), if_pos (by omega)]; unfold own_cpy; rw [if_neg (by omega)]
  · by_cases b : i < dp.toNatClampNeg + nn.toNatClampNeg
    · rw [List.append_assoc, List.getElem?_append_right (by rw [l1]; omega), l1, List.getElem?_append_left (by rw [l2]; omega), List.getElem?_map, List.getElem?_range (by omega), own_mlq, if_pos (by omega)]
      simp only [Option.map_some, List.getD_eq_getElem?_getD, own_mlq]
      rw [if_pos (by omega)]; unfold own_cpy; rw [if_pos (by omega)]; rfl
    · rw [List.getElem?_append_right (by rw [List.length_append, l1, l2]; omega), List.length_append, l1, l2, List.getElem?_drop, show dp.toNatClampNeg + nn.toNatClampNeg + (i - (dp.toNatClampNeg + nn.toNatClampNeg)) = i by omega, own_mlq, own_mlq]; unfold own_cpy; rw [if_neg (show ¬ (dp.toNatClampNeg ≤ i ∧ i < dp.toNatClampNeg + nn.toNatClampNeg) by omega)]
theorem own_mlz {z : Int32} {f g : Nat → Int32} (h : ∀ i, i < z.toNatClampNeg → f i = g i) : own_ml z f = own_ml z g := List.map_congr_left fun i hi => by rw [h i (List.mem_range.mp hi)]
theorem own_mlcongz {Z : State} {h : Heap} {b : Addr} {k : ClassId} {ty : FieldType} {z : Int32} {dv : Value} {f g : Nat → Int32} (e : ∀ i, i < z.toNatClampNeg → f i = g i) (F : Arv Z h b k ty z (own_ml z f) dv) : Arv Z h b k ty z (own_ml z g) dv := own_mlz e ▸ F
theorem own_grow {f : Nat → Int32} (h : ∀ i, 16 ≤ i → f i = 0) : own_cpy own_zf (0 : Int32) f (0 : Int32) (16 : Int32) = f := by
  funext i; unfold own_cpy own_zf; have r0 : (0 : Int32).toNatClampNeg = 0 := rfl; have r1 : (16 : Int32).toNatClampNeg = 16 := rfl
  rw [r0, r1]; split
  · rw [show 0 + (i - 0) = i by omega]
  · exact (h i (by omega)).symm
theorem own_nfs {args : Array Value} {s : State} {C : String} {y y' : MethodName} (e : y'.cls = y.cls) (h : (Cond.selects C y' y').before args s = true) : NotFace s y := fun r0 h0 => by
  obtain ⟨c2, r2, m2, q1, q2, q3, q4, kP, hkP, hkPi⟩ := Cond.selects_spec h
  have a := findClass_of_methodNamed h0; have b := findClass_of_methodNamed q3
  rw [e, a] at b; have b' : r0.cls = m2.cls := Option.some.inj b
  exact ⟨kP, by rw [b']; exact hkP, hkPi⟩
theorem own_same {a0 : Array Value} {Z : State} {y : MethodName} (hi : (Cond.instanceMethod y).before a0 Z = true) (nf : NotFace Z y) (hy : y.cls ≠ "java/lang/invoke/MethodHandle" ∧ y.cls ≠ "java/lang/invoke/VarHandle") : (Cond.sameMethod y.cls y.cls y.name y.desc).before a0 Z = true := by
  obtain ⟨m, meth, h1, h2, -, -⟩ := Cond.instanceMethod_spec hi
  obtain ⟨k, hk, hki⟩ := nf m h1
  have hc := findClass_of_methodNamed h1
  have hf := State.methodFound?_of_named h1 hy
  have h1' : Z.methodNamed? ⟨y.cls, y.name, y.desc⟩ = some m := h1
  simp only [Cond.before, Cond.holds, Cond.value, hc, hf, h1', hk]; simp [hki]
theorem own_selp {a0 : Array Value} {Z : State} {y : MethodName} (hi : (Cond.instanceMethod y).before a0 Z = true) (nf : NotFace Z y) (hp : Z.PrivateAt y) (hy : y.cls ≠ "java/lang/invoke/MethodHandle" ∧ y.cls ≠ "java/lang/invoke/VarHandle") : (Cond.selects y.cls y y).before a0 Z = true := by
  obtain ⟨m, meth, h1, h2, -, -⟩ := Cond.instanceMethod_spec hi
  obtain ⟨k, hk, hki⟩ := nf m h1
  exact selects_self_of_private (findClass_of_methodNamed h1) hk hki hp hi hy
def own_dcr (a : Nat) : Nat → Nat → Nat
  | 0, k => k
  | n + 1, k => if a < 10 ^ k then k else own_dcr a n (k + 1)
def own_dc (a : Nat) : Nat := own_dcr a 18 1
theorem own_dcrp (a : Nat) : ∀ (n k : Nat), k ≤ own_dcr a n k ∧ own_dcr a n k ≤ k + n ∧ (a < 10 ^ own_dcr a n k ∨ own_dcr a n k = k + n) ∧ (own_dcr a n k = k ∨ 10 ^ (own_dcr a n k - 1) ≤ a)
  | 0, k => ⟨Nat.le_refl _, Nat.le_refl _, Or.inr rfl, Or.inl rfl⟩
  | n + 1, k => by
    simp only [own_dcr]; split
    · rename_i h; exact ⟨Nat.le_refl _, by omega, Or.inl h, Or.inl rfl⟩
    · rename_i h; obtain ⟨h1, h2, h3, h4⟩ := own_dcrp a n (k + 1)
      refine ⟨by omega, by omega, h3.imp id (by omega), Or.inr ?_⟩
      rcases h4 with e | e
      · rw [e, Nat.add_sub_cancel]; omega
      · exact e
theorem own_dcp {a : Nat} (ha : a < 10 ^ 19) : 1 ≤ own_dc a ∧ own_dc a ≤ 19 ∧ a < 10 ^ own_dc a ∧ (own_dc a = 1 ∨ 10 ^ (own_dc a - 1) ≤ a) := by
  obtain ⟨h1, h2, h3, h4⟩ := own_dcrp a 18 1
  refine ⟨h1, h2, ?_, h4⟩
  rcases h3 with e | e
  · exact e
  · show a < 10 ^ own_dcr a 18 1; rw [e]; exact ha
theorem own_dcu {a m : Nat} (ha : a < 10 ^ 19) (h1 : a < 10 ^ (m + 1)) (h2 : m = 0 ∨ 10 ^ m ≤ a) : own_dc a = m + 1 := by
  obtain ⟨p1, p2, p3, p4⟩ := own_dcp ha
  have u1 : own_dc a ≤ m + 1 := by
    by_cases q : m + 1 < own_dc a
    · have : 10 ^ (m + 1) ≤ 10 ^ (own_dc a - 1) := Nat.pow_le_pow_right (by decide) (by omega)
      rcases p4 with e | e
      · omega
      · exact absurd h1 (Nat.not_lt.mpr (Nat.le_trans this e))
    · omega
  have u2 : m + 1 ≤ own_dc a := by
    by_cases q : own_dc a ≤ m
    · have : 10 ^ own_dc a ≤ 10 ^ m := Nat.pow_le_pow_right (by decide) q
      rcases h2 with e | e
      · omega
      · exact absurd p3 (Nat.not_lt.mpr (Nat.le_trans this e))
    · omega
  omega
theorem own_aL (q : Int64) : q.toInt.natAbs < 10 ^ 19 := by have := rng64 q; have e : (10 : Nat) ^ 19 = 10000000000000000000 := by decide
                                                            rw [e]; omega
theorem own_aI (q : Int32) : q.toInt.natAbs < 10 ^ 19 := by have := rng32 q; have e : (10 : Nat) ^ 19 = 10000000000000000000 := by decide
                                                            rw [e]; omega
def own_iss (K : Int) (a : Nat) (i p : Int) : Prop := 1 ≤ i ∧ i ≤ K ∧ (i < K → p = -((10 ^ i.toNat : Nat) : Int)) ∧ own_dcr a (19 - i.toNat) i.toNat = own_dc a
theorem own_issS {K : Int} {a : Nat} {i p p' : Int} (h : own_iss K a i p) (hK : K ≤ 19) (h1 : i < K) (h2 : 10 ^ i.toNat ≤ a) (hp : i + 1 < K → p' = 10 * p) : own_iss K a (i + 1) p' := by
  obtain ⟨a1, a2, a3, a4⟩ := h
  have e : (i + 1).toNat = i.toNat + 1 := by omega
  refine ⟨by omega, by omega, fun q => ?_, ?_⟩
  · rw [hp q, a3 h1, e, Nat.pow_succ]
    have : ((10 ^ i.toNat * 10 : Nat) : Int) = 10 * ((10 ^ i.toNat : Nat) : Int) := by rw [Int.natCast_mul]; exact Int.mul_comm _ _
    rw [this, Int.mul_neg]
  · rw [← a4, e, show 19 - i.toNat = (19 - (i.toNat + 1)) + 1 by omega]; exact (if_neg (Nat.not_lt.mpr h2)).symm
theorem own_issE {K : Int} {a : Nat} {i p : Int} (h : own_iss K a i p) (hK : K ≤ 19) (h1 : i < K) (h2 : a < 10 ^ i.toNat) : (own_dc a : Int) = i := by
  obtain ⟨a1, a2, a3, a4⟩ := h
  rw [← a4, show 19 - i.toNat = (18 - i.toNat) + 1 by omega]
  show ((if a < 10 ^ i.toNat then i.toNat else own_dcr a (18 - i.toNat) (i.toNat + 1) : Nat) : Int) = i
  rw [if_pos h2]; omega
def own_ngL (q : Int64) : Int64 := if q < (0 : Int64) then q else (-q)
def own_ngI (q : Int32) : Int32 := if q < (0 : Int32) then q else (-q)
theorem own_ngLv (q : Int64) : (if q < (0 : Int64) then q else (-q)).toInt = -(q.toInt.natAbs : Int) := by
  have r : (0 : Int64).toInt = 0 := rfl; have n := c_lneg q; have n' := rng64 (-q); have a := rng64 q
  split
  · rename_i h; rw [Int64.lt_iff_toInt_lt] at h; omega
  · rename_i h; rw [Int64.lt_iff_toInt_lt] at h; omega
theorem own_ngIv (q : Int32) : (if q < (0 : Int32) then q else (-q)).toInt = -(q.toInt.natAbs : Int) := by
  have r : (0 : Int32).toInt = 0 := rfl; have n := c_ineg q; have n' := rng32 (-q); have a := rng32 q
  split
  · rename_i h; rw [Int32.lt_iff_toInt_lt] at h; omega
  · rename_i h; rw [Int32.lt_iff_toInt_lt] at h; omega
def own_ssL (q : Int64) : Int32 := Int32.ofNat (own_dc q.toInt.natAbs) + (if q < (0 : Int64) then (1 : Int32) else (0 : Int32))
def own_ssI (q : Int32) : Int32 := Int32.ofNat (own_dc q.toInt.natAbs) + (if q < (0 : Int32) then (1 : Int32) else (0 : Int32))
theorem own_ofn {n : Nat} {i : Int32} (h : (n : Int) = i.toInt) : i = Int32.ofNat n := by
  have r := rng32 i; rw [← Int32.toInt_inj, Int32.toInt_ofNat_of_lt (by omega)]; omega
theorem own_ofv {n : Nat} (h : n < 1000) : (Int32.ofNat n).toInt = n := Int32.toInt_ofNat_of_lt (by omega)
theorem own_pw17 {n : Nat} (h : n ≤ 17) : 10 ^ n ≤ 100000000000000000 := Nat.le_trans (Nat.pow_le_pow_right (by decide) h) (by decide)
theorem own_pw8 {n : Nat} (h : n ≤ 8) : 10 ^ n ≤ 100000000 := Nat.le_trans (Nat.pow_le_pow_right (by decide) h) (by decide)
theorem own_s0L (q : Int64) : own_iss 19 q.toInt.natAbs (1 : Int32).toInt (-10 : Int64).toInt := ⟨by decide, by decide, fun _ => by decide, rfl⟩
theorem own_s1L {q p : Int64} {i : Int32} (h : own_iss 19 q.toInt.natAbs i.toInt p.toInt) (h1 : i < (19 : Int32)) (h2 : ¬ p < (if q < (0 : Int64) then q else (-q))) : own_iss 19 q.toInt.natAbs (i + (1 : Int32)).toInt ((10 : Int64) * p).toInt := by
  have r19 : (19 : Int32).toInt = 19 := rfl; have r1 : (1 : Int32).toInt = 1 := rfl; have r10 : (10 : Int64).toInt = 10 := rfl
  rw [Int32.lt_iff_toInt_lt] at h1; rw [Int64.lt_iff_toInt_lt, own_ngLv] at h2
  have e := c_iadd i (1 : Int32); have e' := rng32 (i + (1 : Int32)); have m := c_lmul (10 : Int64) p; have m' := rng64 ((10 : Int64) * p)
  have a3 := h.2.2.1 (by omega); have h0 := h.1
  have ei : (i + (1 : Int32)).toInt = i.toInt + 1 := by omega
  rw [ei]; refine own_issS h (by omega) (by omega) (by omega) fun q2 => ?_
  have b := own_pw17 (n := i.toInt.toNat) (by omega); have b0 : 0 < 10 ^ i.toInt.toNat := Nat.pow_pos (by decide)
  rw [r10] at m; omega
theorem own_s2L {q p : Int64} {i : Int32} (h : own_iss 19 q.toInt.natAbs i.toInt p.toInt) (h1 : i < (19 : Int32)) (h2 : p < (if q < (0 : Int64) then q else (-q))) : i = Int32.ofNat (own_dc q.toInt.natAbs) := by
  have r19 : (19 : Int32).toInt = 19 := rfl
  rw [Int32.lt_iff_toInt_lt] at h1; rw [Int64.lt_iff_toInt_lt, own_ngLv] at h2
  have a3 := h.2.2.1 (by omega)
  exact own_ofn (own_issE h (by omega) (by omega) (by omega))
theorem own_s3L {q p : Int64} {i : Int32} (h : own_iss 19 q.toInt.natAbs i.toInt p.toInt) (h1 : ¬ i < (19 : Int32)) : (19 : Int32) = Int32.ofNat (own_dc q.toInt.natAbs) := by
  have r19 : (19 : Int32).toInt = 19 := rfl
  rw [Int32.lt_iff_toInt_lt] at h1
  have a2 := h.2.1; have a4 := h.2.2.2
  rw [show i.toInt.toNat = 19 by omega] at a4
  rw [← a4]; rfl
theorem own_s0I (q : Int32) : own_iss 10 q.toInt.natAbs (1 : Int32).toInt (-10 : Int32).toInt := ⟨by decide, by decide, fun _ => by decide, rfl⟩
theorem own_s1I {q p : Int32} {i : Int32} (h : own_iss 10 q.toInt.natAbs i.toInt p.toInt) (h1 : i < (10 : Int32)) (h2 : ¬ p < (if q < (0 : Int32) then q else (-q))) : own_iss 10 q.toInt.natAbs (i + (1 : Int32)).toInt ((10 : Int32) * p).toInt := by
  have r1 : (1 : Int32).toInt = 1 := rfl; have r10 : (10 : Int32).toInt = 10 := rfl
  rw [Int32.lt_iff_toInt_lt] at h1; rw [Int32.lt_iff_toInt_lt, own_ngIv] at h2
  have e := c_iadd i (1 : Int32); have e' := rng32 (i + (1 : Int32)); have m := c_imul (10 : Int32) p; have m' := rng32 ((10 : Int32) * p)
  have a3 := h.2.2.1 (by omega); have h0 := h.1
  have ei : (i + (1 : Int32)).toInt = i.toInt + 1 := by omega
  rw [ei]; refine own_issS h (by omega) (by omega) (by omega) fun q2 => ?_
  have b := own_pw8 (n := i.toInt.toNat) (by omega); have b0 : 0 < 10 ^ i.toInt.toNat := Nat.pow_pos (by decide)
  rw [r10] at m; omega
theorem own_s2I {q p : Int32} {i : Int32} (h : own_iss 10 q.toInt.natAbs i.toInt p.toInt) (h1 : i < (10 : Int32)) (h2 : p < (if q < (0 : Int32) then q else (-q))) : i = Int32.ofNat (own_dc q.toInt.natAbs) := by
  have r10 : (10 : Int32).toInt = 10 := rfl
  rw [Int32.lt_iff_toInt_lt] at h1; rw [Int32.lt_iff_toInt_lt, own_ngIv] at h2
  have a3 := h.2.2.1 (by omega)
  exact own_ofn (own_issE h (by omega) (by omega) (by omega))
theorem own_s3I {q p : Int32} {i : Int32} (h : own_iss 10 q.toInt.natAbs i.toInt p.toInt) (h1 : ¬ i < (10 : Int32)) : (10 : Int32) = Int32.ofNat (own_dc q.toInt.natAbs) := by
  have r10 : (10 : Int32).toInt = 10 := rfl
  rw [Int32.lt_iff_toInt_lt] at h1
  have a2 := h.2.1; have a4 := h.2.2.2; have rq := rng32 q
  rw [show i.toInt.toNat = 10 by omega] at a4
  rw [← a4]; show (10 : Int32) = Int32.ofNat (if q.toInt.natAbs < 10 ^ 10 then 10 else own_dcr q.toInt.natAbs 8 11)
  rw [if_pos (by have e : (10 : Nat) ^ 10 = 10000000000 := by decide
                 rw [e]; omega)]; rfl
theorem own_sdec {i K : Int32} {fu : Nat} (h1 : i < K) (hK : 0 ≤ i.toInt) (hf : (K.toInt - i.toInt).toNat < fu + 1) : (K.toInt - (i + (1 : Int32)).toInt).toNat < fu := by
  have r1 : (1 : Int32).toInt = 1 := rfl; have e := c_iadd i (1 : Int32); have e' := rng32 (i + (1 : Int32)); have k := rng32 K
  rw [Int32.lt_iff_toInt_lt] at h1; omega
theorem own_ssLb (q : Int64) : 1 ≤ (own_ssL q).toInt ∧ (own_ssL q).toInt ≤ 20 := by
  obtain ⟨h1, h2, -, -⟩ := own_dcp (own_aL q); have v := own_ofv (n := own_dc q.toInt.natAbs) (by omega)
  have r1 : (1 : Int32).toInt = 1 := rfl; have r0 : (0 : Int32).toInt = 0 := rfl
  unfold own_ssL; split
  · have e := c_iadd (Int32.ofNat (own_dc q.toInt.natAbs)) (1 : Int32); have e' := rng32 (Int32.ofNat (own_dc q.toInt.natAbs) + (1 : Int32)); omega
  · have e := c_iadd (Int32.ofNat (own_dc q.toInt.natAbs)) (0 : Int32); have e' := rng32 (Int32.ofNat (own_dc q.toInt.natAbs) + (0 : Int32)); omega
theorem own_dcI (q : Int32) : own_dc q.toInt.natAbs ≤ 10 := by
  by_cases h : own_dc q.toInt.natAbs ≤ 10
  · exact h
  · obtain ⟨h1, h2, h3, h4⟩ := own_dcp (own_aI q)
    have : 10 ^ 10 ≤ 10 ^ (own_dc q.toInt.natAbs - 1) := Nat.pow_le_pow_right (by decide) (by omega)
    have e : (10 : Nat) ^ 10 = 10000000000 := by decide
    have rq := rng32 q; rw [e] at this
    rcases h4 with h4 | h4 <;> omega
theorem own_ssIb (q : Int32) : 1 ≤ (own_ssI q).toInt ∧ (own_ssI q).toInt ≤ 11 := by
  obtain ⟨h1, h2, -, -⟩ := own_dcp (own_aI q); have h3 := own_dcI q; have v := own_ofv (n := own_dc q.toInt.natAbs) (by omega)
  have r1 : (1 : Int32).toInt = 1 := rfl; have r0 : (0 : Int32).toInt = 0 := rfl
  unfold own_ssI; split
  · have e := c_iadd (Int32.ofNat (own_dc q.toInt.natAbs)) (1 : Int32); have e' := rng32 (Int32.ofNat (own_dc q.toInt.natAbs) + (1 : Int32)); omega
  · have e := c_iadd (Int32.ofNat (own_dc q.toInt.natAbs)) (0 : Int32); have e' := rng32 (Int32.ofNat (own_dc q.toInt.natAbs) + (0 : Int32)); omega

def own_fd (a n : Nat) (f : Nat → Int32) (c : Nat) : Nat → Int32 := fun i => if c ≤ i ∧ i < n then Int32.ofNat (48 + a / 10 ^ (n - 1 - i) % 10) else f i
def own_fdL (q : Int64) (n : Int32) (f : Nat → Int32) (c : Int32) : Nat → Int32 := own_fd q.toInt.natAbs n.toNatClampNeg f c.toNatClampNeg
def own_fdI (q : Int32) (n : Int32) (f : Nat → Int32) (c : Int32) : Nat → Int32 := own_fd q.toInt.natAbs n.toNatClampNeg f c.toNatClampNeg
theorem own_fd0 (a n : Nat) (f : Nat → Int32) : f = own_fd a n f n := by funext i; unfold own_fd; rw [if_neg (by omega)]
def own_iv (a n : Nat) (x c : Int) : Prop := ∃ m : Nat, c + m = n ∧ 0 ≤ c ∧ x = -((a / 10 ^ m : Nat) : Int) ∧ (m = 0 ∨ 1 ≤ a / 10 ^ m)
def own_pre (a : Nat) (n z : Int32) : Prop := a < 10 ^ 19 ∧ (own_dc a : Int) ≤ n.toInt ∧ n.toInt ≤ z.toInt
theorem own_m1 {c : Int32} (h : 1 ≤ c.toInt) : (c + (-1 : Int32)).toInt = c.toInt - 1 := by
  have r : (-1 : Int32).toInt = -1 := by decide
  have e := c_iadd c (-1 : Int32); have e' := rng32 (c + (-1 : Int32)); have k := rng32 c; omega
theorem own_fd1 {a n m : Nat} {f : Nat → Int32} {c v : Int32} (h0 : 1 ≤ c.toInt) (h : c.toInt + m = n) (hv : v = Int32.ofNat (48 + a / 10 ^ m % 10)) : own_upd (own_fd a n f c.toNatClampNeg) (c + (-1 : Int32)) v = own_fd a n f (c + (-1 : Int32)).toNatClampNeg := by
  have e := own_m1 h0
  have k1 : c.toNatClampNeg = c.toInt.toNat := rfl
  have k2 : (c + (-1 : Int32)).toNatClampNeg = c.toInt.toNat - 1 := by simp only [Int32.toNatClampNeg, e]; omega
  funext i; unfold own_upd own_fd; rw [k2, k1]
  by_cases q : i = c.toInt.toNat - 1
  · rw [if_pos q, if_pos (by omega), hv, show n - 1 - i = m by omega]
  · rw [if_neg q]; by_cases q2 : c.toInt.toNat ≤ i ∧ i < n
    · rw [if_pos q2, if_pos (by omega)]
    · rw [if_neg q2, if_neg (by omega)]
theorem own_i2bd {d : Nat} (h : d < 10) : (Int32.ofNat (48 + d)).toInt8.toInt32 = Int32.ofNat (48 + d) := by
  have q : ∀ d : Fin 10, (Int32.ofNat (48 + d.1)).toInt8.toInt32 = Int32.ofNat (48 + d.1) := by decide
  exact q ⟨d, h⟩
def own_hO (g : Nat → Int32) : Prop := ∀ j : Int32, ¬ j < (0 : Int32) → j < (100 : Int32) → own_at g j = Int32.ofNat (48 + j.toNatClampNeg % 10)
def own_hT (g : Nat → Int32) : Prop := ∀ j : Int32, ¬ j < (0 : Int32) → j < (100 : Int32) → own_at g j = Int32.ofNat (48 + j.toNatClampNeg / 10)
theorem own_rb {r : Int32} {x : Nat} (hr : r.toInt = ((x % 100 : Nat) : Int)) : ¬ r < (0 : Int32) ∧ r < (100 : Int32) := by
  have r0 : (0 : Int32).toInt = 0 := rfl; have r1 : (100 : Int32).toInt = 100 := rfl
  rw [Int32.lt_iff_toInt_lt, Int32.lt_iff_toInt_lt]; omega
theorem own_vO {g : Nat → Int32} {r : Int32} {x : Nat} (hO : own_hO g) (hr : r.toInt = ((x % 100 : Nat) : Int)) : (own_at g r).toInt8.toInt32 = Int32.ofNat (48 + x % 10) := by
  have b := own_rb hr
  have e : r.toNatClampNeg = x % 100 := by simp only [Int32.toNatClampNeg, hr]; omega
  rw [hO r b.1 b.2, e, show x % 100 % 10 = x % 10 by omega]; exact own_i2bd (by omega)
theorem own_vT {g : Nat → Int32} {r : Int32} {x : Nat} (hT : own_hT g) (hr : r.toInt = ((x % 100 : Nat) : Int)) : (own_at g r).toInt8.toInt32 = Int32.ofNat (48 + x / 10 % 10) := by
  have b := own_rb hr
  have e : r.toNatClampNeg = x % 100 := by simp only [Int32.toNatClampNeg, hr]; omega
  rw [hT r b.1 b.2, e, show x % 100 / 10 = x / 10 % 10 by omega]; exact own_i2bd (by omega)
theorem own_fd2 {a n m : Nat} {f gO gT : Nat → Int32} {c r : Int32} (hO : own_hO gO) (hT : own_hT gT) (h0 : 2 ≤ c.toInt) (h : c.toInt + m = n) (hr : r.toInt = ((a / 10 ^ m % 100 : Nat) : Int)) :
    own_upd (own_upd (own_fd a n f c.toNatClampNeg) (c + (-1 : Int32)) (own_at gO r).toInt8.toInt32) ((c + (-1 : Int32)) + (-1 : Int32)) (own_at gT r).toInt8.toInt32 = own_fd a n f ((c + (-1 : Int32)) + (-1 : Int32)).toNatClampNeg := by
  rw [own_fd1 (m := m) (by omega) h (own_vO hO hr)]
  have e := own_m1 (c := c) (by omega)
  exact own_fd1 (m := m + 1) (by omega) (by omega) ((own_vT hT hr).trans (by rw [Nat.pow_succ, Nat.div_div_eq_div_mul]))
theorem own_p2 (m : Nat) : 10 ^ (m + 2) = 10 ^ m * 100 := by rw [Nat.pow_add]
theorem own_big {a m k : Nat} (h : 10 ^ k ≤ a / 10 ^ m) : 10 ^ (m + k) ≤ a := by
  have := (Nat.le_div_iff_mul_le (Nat.pow_pos (by decide))).mp h
  rw [Nat.pow_add, Nat.mul_comm]; exact this
theorem own_dlt {a m : Nat} (ha : a < 10 ^ 19) (h : 10 ^ m ≤ a) : m < own_dc a := by
  by_cases q : own_dc a ≤ m
  · have p := (own_dcp ha).2.2.1
    have : 10 ^ own_dc a ≤ 10 ^ m := Nat.pow_le_pow_right (by decide) q
    exact absurd p (Nat.not_lt.mpr (Nat.le_trans this h))
  · omega
theorem own_lb {a : Nat} {n z c : Int32} {x : Int} (P : own_pre a n z) (hv : own_iv a n.toNatClampNeg x c.toInt) (hx : x ≤ -100) : 3 ≤ c.toInt ∧ c.toInt ≤ z.toInt := by
  obtain ⟨m, h1, h2, h3, h4⟩ := hv; obtain ⟨p1, p2, p3⟩ := P
  have kn : n.toNatClampNeg = n.toInt.toNat := rfl
  have g : 10 ^ 2 ≤ a / 10 ^ m := by have : (10 : Nat) ^ 2 = 100 := by decide
                                     rw [this]; omega
  have d := own_dlt p1 (own_big g)
  omega
theorem own_ib {c z : Int32} (h1 : 1 ≤ c.toInt) (h2 : c.toInt ≤ z.toInt) : ¬ (c + (-1 : Int32)) < (0 : Int32) ∧ (c + (-1 : Int32)) < z := by
  have e := own_m1 h1; have r0 : (0 : Int32).toInt = 0 := rfl
  rw [Int32.lt_iff_toInt_lt, Int32.lt_iff_toInt_lt]; omega
theorem own_ib2 {c z : Int32} (h1 : 2 ≤ c.toInt) (h2 : c.toInt ≤ z.toInt) : ¬ ((c + (-1 : Int32)) + (-1 : Int32)) < (0 : Int32) ∧ ((c + (-1 : Int32)) + (-1 : Int32)) < z := by
  have e := own_m1 (c := c) (by omega); exact own_ib (by omega) (by omega)
theorem own_i1 {a : Nat} {n z c : Int32} {x : Int} (P : own_pre a n z) (hv : own_iv a n.toNatClampNeg x c.toInt) (hx : x ≤ -100) : ¬ (c + (-1 : Int32)) < (0 : Int32) ∧ (c + (-1 : Int32)) < z := by
  have b := own_lb P hv hx; exact own_ib (by omega) b.2
theorem own_i2 {a : Nat} {n z c : Int32} {x : Int} (P : own_pre a n z) (hv : own_iv a n.toNatClampNeg x c.toInt) (hx : x ≤ -100) : ¬ ((c + (-1 : Int32)) + (-1 : Int32)) < (0 : Int32) ∧ ((c + (-1 : Int32)) + (-1 : Int32)) < z := by
  have b := own_lb P hv hx; exact own_ib2 (by omega) b.2
theorem own_ivs {a : Nat} {n z c : Int32} {x x' : Int} (P : own_pre a n z) (hv : own_iv a n.toNatClampNeg x c.toInt) (hx : x ≤ -100) (hx' : x' = -((-x) / 100)) : own_iv a n.toNatClampNeg x' ((c + (-1 : Int32)) + (-1 : Int32)).toInt := by
  have b := own_lb P hv hx
  have e := own_m1 (c := c) (by omega); have e2 := own_m1 (c := c + (-1 : Int32)) (by omega)
  obtain ⟨m, h1, h2, h3, h4⟩ := hv
  have q : a / 10 ^ (m + 2) = a / 10 ^ m / 100 := by rw [own_p2, Nat.div_div_eq_div_mul]
  refine ⟨m + 2, by omega, by omega, ?_, Or.inr ?_⟩
  · rw [q, hx', h3]; generalize a / 10 ^ m = y; omega
  · rw [q]; rw [h3] at hx; generalize a / 10 ^ m = y at *; omega
theorem own_rL {i : Int64} {x : Nat} (h : i.toInt = -(x : Int)) : (((((i / (100 : Int64)) * (100 : Int64)) - i).toInt32).toInt = ((x % 100 : Nat) : Int)) ∧ (i / (100 : Int64)).toInt = -((-i.toInt) / 100) := by
  have r : (100 : Int64).toInt = 100 := rfl
  have d := c_ldiv i (100 : Int64) 100 (by decide +kernel) (by decide +kernel)
  have m := c_lmul (i / (100 : Int64)) (100 : Int64); have m' := rng64 ((i / (100 : Int64)) * (100 : Int64)); rw [r] at m
  have s := c_lsub ((i / (100 : Int64)) * (100 : Int64)) i; have s' := rng64 (((i / (100 : Int64)) * (100 : Int64)) - i)
  have t := c_l2i (((i / (100 : Int64)) * (100 : Int64)) - i); have t' := rng32 ((((i / (100 : Int64)) * (100 : Int64)) - i).toInt32)
  have i' := rng64 i
  generalize ((((i / (100 : Int64)) * (100 : Int64)) - i).toInt32).toInt = g1 at *
  generalize (((i / (100 : Int64)) * (100 : Int64)) - i).toInt = g2 at *
  generalize ((i / (100 : Int64)) * (100 : Int64)).toInt = g3 at *
  generalize (i / (100 : Int64)).toInt = g4 at *
  generalize i.toInt = g5 at *
  have v4 : g4 = -((-g5) / 100) := by omega
  refine ⟨?_, v4⟩
  have v3 : g3 = g4 * 100 := by omega
  have v2 : g2 = g3 - g5 := by omega
  omega
theorem own_rI {i : Int32} {x : Nat} (h : i.toInt = -(x : Int)) : ((((i / (100 : Int32)) * (100 : Int32)) - i).toInt = ((x % 100 : Nat) : Int)) ∧ (i / (100 : Int32)).toInt = -((-i.toInt) / 100) := by
  have r : (100 : Int32).toInt = 100 := rfl
  have d := c_idiv i (100 : Int32) 100 (by decide +kernel) (by decide +kernel)
  have m := c_imul (i / (100 : Int32)) (100 : Int32); have m' := rng32 ((i / (100 : Int32)) * (100 : Int32)); rw [r] at m
  have s := c_isub ((i / (100 : Int32)) * (100 : Int32)) i; have s' := rng32 (((i / (100 : Int32)) * (100 : Int32)) - i)
  have i' := rng32 i
  generalize (((i / (100 : Int32)) * (100 : Int32)) - i).toInt = g2 at *
  generalize ((i / (100 : Int32)) * (100 : Int32)).toInt = g3 at *
  generalize (i / (100 : Int32)).toInt = g4 at *
  generalize i.toInt = g5 at *
  have v4 : g4 = -((-g5) / 100) := by omega
  refine ⟨?_, v4⟩
  have v3 : g3 = g4 * 100 := by omega
  omega
theorem own_x1 {i : Int64} (h : ¬ (-2147483648 : Int64) < i) : i.toInt ≤ -100 := by
  have r : (-2147483648 : Int64).toInt = -2147483648 := by decide
  rw [Int64.lt_iff_toInt_lt] at h; omega
theorem own_x2 {i : Int32} (h : ¬ (-100 : Int32) < i) : i.toInt ≤ -100 := by
  have r : (-100 : Int32).toInt = -100 := by decide
  rw [Int32.lt_iff_toInt_lt] at h; omega
theorem own_rbL {a : Nat} {n c : Int32} {i : Int64} (hv : own_iv a n.toNatClampNeg i.toInt c.toInt) : ¬ ((((i / (100 : Int64)) * (100 : Int64)) - i).toInt32) < (0 : Int32) ∧ ((((i / (100 : Int64)) * (100 : Int64)) - i).toInt32) < (100 : Int32) := by
  obtain ⟨m, -, -, h3, -⟩ := hv; exact own_rb (own_rL h3).1
theorem own_rbI {a : Nat} {n c : Int32} {i : Int32} (hv : own_iv a n.toNatClampNeg i.toInt c.toInt) : ¬ (((i / (100 : Int32)) * (100 : Int32)) - i) < (0 : Int32) ∧ (((i / (100 : Int32)) * (100 : Int32)) - i) < (100 : Int32) := by
  obtain ⟨m, -, -, h3, -⟩ := hv; exact own_rb (own_rI h3).1
theorem own_stepL {a : Nat} {n z c : Int32} {f gO gT : Nat → Int32} {i : Int64} (P : own_pre a n z) (hv : own_iv a n.toNatClampNeg i.toInt c.toInt) (hx : i.toInt ≤ -100) (hO : own_hO gO) (hT : own_hT gT) :
    own_upd (own_upd (own_fd a n.toNatClampNeg f c.toNatClampNeg) (c + (-1 : Int32)) (own_at gO ((((i / (100 : Int64)) * (100 : Int64)) - i).toInt32)).toInt8.toInt32) ((c + (-1 : Int32)) + (-1 : Int32)) (own_at gT ((((i / (100 : Int64)) * (100 : Int64)) - i).toInt32)).toInt8.toInt32 = own_fd a n.toNatClampNeg f ((c + (-1 : Int32)) + (-1 : Int32)).toNatClampNeg := by
  have b := own_lb P hv hx; obtain ⟨m, h1, h2, h3, -⟩ := hv
  exact own_fd2 hO hT (by omega) h1 (own_rL h3).1
theorem own_stepI {a : Nat} {n z c : Int32} {f gO gT : Nat → Int32} {i : Int32} (P : own_pre a n z) (hv : own_iv a n.toNatClampNeg i.toInt c.toInt) (hx : i.toInt ≤ -100) (hO : own_hO gO) (hT : own_hT gT) :
    own_upd (own_upd (own_fd a n.toNatClampNeg f c.toNatClampNeg) (c + (-1 : Int32)) (own_at gO (((i / (100 : Int32)) * (100 : Int32)) - i)).toInt8.toInt32) ((c + (-1 : Int32)) + (-1 : Int32)) (own_at gT (((i / (100 : Int32)) * (100 : Int32)) - i)).toInt8.toInt32 = own_fd a n.toNatClampNeg f ((c + (-1 : Int32)) + (-1 : Int32)).toNatClampNeg := by
  have b := own_lb P hv hx; obtain ⟨m, h1, h2, h3, -⟩ := hv
  exact own_fd2 hO hT (by omega) h1 (own_rI h3).1
theorem own_ivL {a : Nat} {n z c : Int32} {i : Int64} (P : own_pre a n z) (hv : own_iv a n.toNatClampNeg i.toInt c.toInt) (hx : i.toInt ≤ -100) : own_iv a n.toNatClampNeg (i / (100 : Int64)).toInt ((c + (-1 : Int32)) + (-1 : Int32)).toInt := by
  have hv' := hv; obtain ⟨m, h1, h2, h3, -⟩ := hv'; exact own_ivs P hv hx (own_rL h3).2
theorem own_ivI {a : Nat} {n z c : Int32} {i : Int32} (P : own_pre a n z) (hv : own_iv a n.toNatClampNeg i.toInt c.toInt) (hx : i.toInt ≤ -100) : own_iv a n.toNatClampNeg (i / (100 : Int32)).toInt ((c + (-1 : Int32)) + (-1 : Int32)).toInt := by
  have hv' := hv; obtain ⟨m, h1, h2, h3, -⟩ := hv'; exact own_ivs P hv hx (own_rI h3).2
theorem own_cdec {a : Nat} {n z c : Int32} {x : Int} {fu : Nat} (P : own_pre a n z) (hv : own_iv a n.toNatClampNeg x c.toInt) (hx : x ≤ -100) (hf : c.toNatClampNeg < fu + 1) : ((c + (-1 : Int32)) + (-1 : Int32)).toNatClampNeg < fu := by
  have b := own_lb P hv hx; have e := own_m1 (c := c) (by omega); have e2 := own_m1 (c := c + (-1 : Int32)) (by omega)
  simp only [Int32.toNatClampNeg] at *; omega
theorem own_iv2 {a : Nat} {n c : Int32} {i : Int64} (hv : own_iv a n.toNatClampNeg i.toInt c.toInt) (h : (-2147483648 : Int64) < i) : own_iv a n.toNatClampNeg (i.toInt32).toInt c.toInt := by
  have r : (-2147483648 : Int64).toInt = -2147483648 := by decide
  rw [Int64.lt_iff_toInt_lt] at h; have l := c_l2i i; have l' := rng32 i.toInt32
  have e : (i.toInt32).toInt = i.toInt := by
    obtain ⟨m, h1, h2, h3, h4⟩ := hv; generalize a / 10 ^ m = y at *; omega
  rw [e]; exact hv
theorem own_pN {n : Int32} (h : 0 ≤ n.toInt) : n.toInt + ((0 : Nat) : Int) = n.toNatClampNeg := by simp only [Int32.toNatClampNeg]; omega
theorem own_iv0 {a : Nat} {n z : Int32} {x : Int} (P : own_pre a n z) (hx : x = -(a : Int)) : own_iv a n.toNatClampNeg x n.toInt := by
  have h := P.2.1; exact ⟨0, own_pN (by omega), by omega, by rw [hx]; simp, Or.inl rfl⟩
theorem own_xb {a : Nat} {n c : Int32} {x : Int32} (hv : own_iv a n.toNatClampNeg x.toInt c.toInt) (h : (-100 : Int32) < x) : ∃ m : Nat, c.toInt + m = n.toNatClampNeg ∧ 0 ≤ c.toInt ∧ (-x).toInt = ((a / 10 ^ m : Nat) : Int) ∧ a / 10 ^ m < 100 ∧ x.toInt = -((a / 10 ^ m : Nat) : Int) ∧ (m = 0 ∨ 1 ≤ a / 10 ^ m) := by
  have r : (-100 : Int32).toInt = -100 := by decide
  rw [Int32.lt_iff_toInt_lt] at h; have g := c_ineg x; have g' := rng32 (-x)
  obtain ⟨m, h1, h2, h3, h4⟩ := hv
  refine ⟨m, h1, h2, ?_, ?_, h3, h4⟩
  · generalize a / 10 ^ m = y at *; omega
  · generalize a / 10 ^ m = y at *; omega
theorem own_tb {a : Nat} {n z c x : Int32} (P : own_pre a n z) (hv : own_iv a n.toNatClampNeg x.toInt c.toInt) (h : (-100 : Int32) < x) : 1 ≤ c.toInt ∧ c.toInt ≤ z.toInt ∧ (x < (-9 : Int32) → 2 ≤ c.toInt) ∧ (x < (-9 : Int32) → c.toInt - 2 + own_dc a = n.toNatClampNeg) ∧ (¬ x < (-9 : Int32) → c.toInt - 1 + own_dc a = n.toNatClampNeg) := by
  obtain ⟨m, h1, h2, h3, h4, h5, h6⟩ := own_xb hv h; obtain ⟨p1, p2, p3⟩ := P
  have r : (-9 : Int32).toInt = -9 := by decide
  have kn : n.toNatClampNeg = n.toInt.toNat := rfl
  rw [Int32.lt_iff_toInt_lt]
  have pp : 0 < 10 ^ m := Nat.pow_pos (by decide)
  have am : a < (a / 10 ^ m + 1) * 10 ^ m := by have := Nat.lt_mul_div_succ a pp; rw [Nat.mul_comm]; exact this
  have hi : ¬ x.toInt < -9 → own_dc a = m + 1 := fun q => by
    refine own_dcu p1 ?_ ?_
    · rw [Nat.pow_succ, Nat.mul_comm]; exact Nat.lt_of_lt_of_le am (Nat.mul_le_mul_right _ (by omega))
    · rcases h6 with e | e
      · exact Or.inl e
      · refine Or.inr ?_; have := own_big (k := 0) (m := m) (a := a) (by simpa using e); simpa using this
  have hj : x.toInt < -9 → own_dc a = m + 2 := fun q => by
    refine own_dcu p1 ?_ (Or.inr ?_)
    · rw [show m + 1 + 1 = m + 2 from rfl, own_p2, Nat.mul_comm]; exact Nat.lt_of_lt_of_le am (Nat.mul_le_mul_right _ (by omega))
    · exact own_big (k := 1) (by omega)
  by_cases q : x.toInt < -9
  · have := hj q; rw [r]; omega
  · have := hi q; rw [r]; omega
theorem own_nxb {a : Nat} {n c x : Int32} (hv : own_iv a n.toNatClampNeg x.toInt c.toInt) (h : (-100 : Int32) < x) : ¬ (-x) < (0 : Int32) ∧ (-x) < (100 : Int32) := by
  obtain ⟨m, h1, h2, h3, h4, -⟩ := own_xb hv h; have r0 : (0 : Int32).toInt = 0 := rfl; have r1 : (100 : Int32).toInt = 100 := rfl
  rw [Int32.lt_iff_toInt_lt, Int32.lt_iff_toInt_lt]; generalize a / 10 ^ m = y at *; omega
theorem own_t1 {a : Nat} {n z c x : Int32} {f gO : Nat → Int32} (P : own_pre a n z) (hv : own_iv a n.toNatClampNeg x.toInt c.toInt) (h : (-100 : Int32) < x) (hO : own_hO gO) :
    own_upd (own_fd a n.toNatClampNeg f c.toNatClampNeg) (c + (-1 : Int32)) (own_at gO (-x)).toInt8.toInt32 = own_fd a n.toNatClampNeg f (c + (-1 : Int32)).toNatClampNeg := by
  have b := own_tb P hv h; obtain ⟨m, h1, h2, h3, h4, -⟩ := own_xb hv h
  exact own_fd1 b.1 h1 (own_vO hO (by rw [h3, Nat.mod_eq_of_lt h4]))
theorem own_t2 {a : Nat} {n z c x : Int32} {f gT : Nat → Int32} (P : own_pre a n z) (hv : own_iv a n.toNatClampNeg x.toInt c.toInt) (h : (-100 : Int32) < x) (h9 : x < (-9 : Int32)) (hT : own_hT gT) :
    own_upd (own_fd a n.toNatClampNeg f (c + (-1 : Int32)).toNatClampNeg) ((c + (-1 : Int32)) + (-1 : Int32)) (own_at gT (-x)).toInt8.toInt32 = own_fd a n.toNatClampNeg f ((c + (-1 : Int32)) + (-1 : Int32)).toNatClampNeg := by
  have b := own_tb P hv h; have b2 := b.2.2.1 h9; obtain ⟨m, h1, h2, h3, h4, -⟩ := own_xb hv h; have e := own_m1 b.1
  exact own_fd1 (m := m + 1) (by omega) (by omega) ((own_vT hT (by rw [h3, Nat.mod_eq_of_lt h4])).trans (by rw [Nat.pow_succ, Nat.div_div_eq_div_mul]))
def own_out (v : Int) (n : Nat) (f : Nat → Int32) : Nat → Int32 := fun i => if n ≤ i + own_dc v.natAbs ∧ i < n then Int32.ofNat (48 + v.natAbs / 10 ^ (n - 1 - i) % 10) else if v < 0 ∧ i + 1 + own_dc v.natAbs = n then 45 else f i
def own_outL (q : Int64) (n : Int32) (f : Nat → Int32) : Nat → Int32 := own_out q.toInt n.toNatClampNeg f
def own_outI (q : Int32) (n : Int32) (f : Nat → Int32) : Nat → Int32 := own_out q.toInt n.toNatClampNeg f
theorem own_oN {v : Int} {n : Nat} {f : Nat → Int32} {c : Int32} (h0 : 0 ≤ c.toInt) (h : c.toInt + own_dc v.natAbs = n) (hv : ¬ v < 0) : own_fd v.natAbs n f c.toNatClampNeg = own_out v n f := by
  have k1 : c.toNatClampNeg = c.toInt.toNat := rfl
  funext i; unfold own_fd own_out; rw [k1, if_neg (show ¬ (v < 0 ∧ i + 1 + own_dc v.natAbs = n) from fun q => hv q.1)]
  by_cases q : c.toInt.toNat ≤ i ∧ i < n
  · rw [if_pos q, if_pos (by omega)]
  · rw [if_neg q, if_neg (by omega)]
theorem own_oY {v : Int} {n : Nat} {f : Nat → Int32} {c : Int32} (h0 : 1 ≤ c.toInt) (h : c.toInt + own_dc v.natAbs = n) (hv : v < 0) : own_upd (own_fd v.natAbs n f c.toNatClampNeg) (c + (-1 : Int32)) ((45 : Int32).toInt8.toInt32) = own_out v n f := by
  have e := own_m1 h0
  have k1 : c.toNatClampNeg = c.toInt.toNat := rfl
  have k2 : (c + (-1 : Int32)).toNatClampNeg = c.toInt.toNat - 1 := by simp only [Int32.toNatClampNeg, e]; omega
  funext i; unfold own_upd own_fd own_out; rw [k2, k1]
  by_cases q0 : i = c.toInt.toNat - 1
  · rw [if_pos q0, if_neg (by omega), if_pos ⟨hv, by omega⟩]; decide
  · rw [if_neg q0]; by_cases q : c.toInt.toNat ≤ i ∧ i < n
    · rw [if_pos q, if_pos (by omega)]
    · rw [if_neg q, if_neg (by omega), if_neg (by omega)]
theorem own_ssLv (q : Int64) : (own_ssL q).toInt = own_dc q.toInt.natAbs + (if q < (0 : Int64) then 1 else 0) := by
  obtain ⟨h1, h2, -, -⟩ := own_dcp (own_aL q); have v := own_ofv (n := own_dc q.toInt.natAbs) (by omega)
  have r1 : (1 : Int32).toInt = 1 := rfl; have r0 : (0 : Int32).toInt = 0 := rfl
  unfold own_ssL; split
  · have e := c_iadd (Int32.ofNat (own_dc q.toInt.natAbs)) (1 : Int32); have e' := rng32 (Int32.ofNat (own_dc q.toInt.natAbs) + (1 : Int32)); omega
  · have e := c_iadd (Int32.ofNat (own_dc q.toInt.natAbs)) (0 : Int32); have e' := rng32 (Int32.ofNat (own_dc q.toInt.natAbs) + (0 : Int32)); omega
theorem own_ssIv (q : Int32) : (own_ssI q).toInt = own_dc q.toInt.natAbs + (if q < (0 : Int32) then 1 else 0) := by
  obtain ⟨h1, h2, -, -⟩ := own_dcp (own_aI q); have v := own_ofv (n := own_dc q.toInt.natAbs) (by omega)
  have r1 : (1 : Int32).toInt = 1 := rfl; have r0 : (0 : Int32).toInt = 0 := rfl
  unfold own_ssI; split
  · have e := c_iadd (Int32.ofNat (own_dc q.toInt.natAbs)) (1 : Int32); have e' := rng32 (Int32.ofNat (own_dc q.toInt.natAbs) + (1 : Int32)); omega
  · have e := c_iadd (Int32.ofNat (own_dc q.toInt.natAbs)) (0 : Int32); have e' := rng32 (Int32.ofNat (own_dc q.toInt.natAbs) + (0 : Int32)); omega
theorem own_preL {q : Int64} {n z : Int32} (h : (own_ssL q).toInt ≤ n.toInt ∧ n.toInt ≤ z.toInt) : own_pre q.toInt.natAbs n z := by
  have v := own_ssLv q; refine ⟨own_aL q, ?_, h.2⟩; split at v <;> omega
theorem own_preI {q : Int32} {n z : Int32} (h : (own_ssI q).toInt ≤ n.toInt ∧ n.toInt ≤ z.toInt) : own_pre q.toInt.natAbs n z := by
  have v := own_ssIv q; refine ⟨own_aI q, ?_, h.2⟩; split at v <;> omega
/- the end: c is the place of the first digit -/
def own_end (a : Nat) (n z c : Int32) : Prop := 0 ≤ c.toInt ∧ c.toInt ≤ z.toInt ∧ c.toInt + own_dc a = n.toNatClampNeg
theorem own_e1 {a : Nat} {n z c x : Int32} (P : own_pre a n z) (hv : own_iv a n.toNatClampNeg x.toInt c.toInt) (h : (-100 : Int32) < x) (h9 : ¬ x < (-9 : Int32)) : own_end a n z (c + (-1 : Int32)) := by
  have b := own_tb P hv h; have b2 := b.2.2.2.2 h9; have e := own_m1 b.1; exact ⟨by omega, by omega, by omega⟩
theorem own_e2 {a : Nat} {n z c x : Int32} (P : own_pre a n z) (hv : own_iv a n.toNatClampNeg x.toInt c.toInt) (h : (-100 : Int32) < x) (h9 : x < (-9 : Int32)) : own_end a n z ((c + (-1 : Int32)) + (-1 : Int32)) := by
  have b := own_tb P hv h; have b1 := b.2.2.1 h9; have b2 := b.2.2.2.1 h9; have e := own_m1 b.1; have e2 := own_m1 (c := c + (-1 : Int32)) (by omega); exact ⟨by omega, by omega, by omega⟩
theorem own_sgL {q : Int64} {n z c : Int32} (h : (own_ssL q).toInt ≤ n.toInt ∧ n.toInt ≤ z.toInt) (E : own_end q.toInt.natAbs n z c) (hq : q < (0 : Int64)) : 1 ≤ c.toInt := by
  have v := own_ssLv q; rw [if_pos hq] at v; have kn : n.toNatClampNeg = n.toInt.toNat := rfl; have e := E.2.2; omega
theorem own_sgI {q : Int32} {n z c : Int32} (h : (own_ssI q).toInt ≤ n.toInt ∧ n.toInt ≤ z.toInt) (E : own_end q.toInt.natAbs n z c) (hq : q < (0 : Int32)) : 1 ≤ c.toInt := by
  have v := own_ssIv q; rw [if_pos hq] at v; have kn : n.toNatClampNeg = n.toInt.toNat := rfl; have e := E.2.2; omega
theorem own_ltL {q : Int64} : (q < (0 : Int64)) ↔ q.toInt < 0 := by rw [Int64.lt_iff_toInt_lt]; exact Iff.rfl
theorem own_ltI {q : Int32} : (q < (0 : Int32)) ↔ q.toInt < 0 := by rw [Int32.lt_iff_toInt_lt]; exact Iff.rfl
theorem own_outz {v : Int} {n : Nat} {f : Nat → Int32} {k : Nat} (hn : n ≤ k) (hf : ∀ i, k ≤ i → f i = 0) : ∀ i, k ≤ i → own_out v n f i = 0 := fun i hi => by
  unfold own_out; rw [if_neg (by omega), if_neg (by omega)]; exact hf i hi
theorem own_w1 {a : Nat} {n c : Int32} {i : Int64} (hv : own_iv a n.toNatClampNeg i.toInt c.toInt) (h : ¬ (-2147483648 : Int64) < i) : (i / (100 : Int64)).toInt ≤ -100 := by
  obtain ⟨m, -, -, h3, -⟩ := hv; have r : (-2147483648 : Int64).toInt = -2147483648 := by decide
  rw [Int64.lt_iff_toInt_lt] at h; rw [(own_rL h3).2]; omega
theorem own_w2 {a : Nat} {n c : Int32} {i : Int64} (hv : own_iv a n.toNatClampNeg i.toInt c.toInt) (hw : i.toInt ≤ -100) (h : (-2147483648 : Int64) < i) : ¬ (-100 : Int32) < (i.toInt32) := by
  have r : (-2147483648 : Int64).toInt = -2147483648 := by decide
  have r2 : (-100 : Int32).toInt = -100 := by decide
  rw [Int64.lt_iff_toInt_lt] at h; have l := c_l2i i; have l' := rng32 i.toInt32; rw [Int32.lt_iff_toInt_lt]; omega

abbrev C1 := prog_19_method_1_code
def L1 : List (Nat × Instr × Nat) := [(0, .aload_n 0, 1), (1, .invokespecial 1, 3), (4, .aload_n 0, 1), (5, .lload_n 1, 1), (6, .putfield 7, 3), (9, .aload_n 0, 1), (10, .iload_n 3, 1), (11, .putfield 13, 3), (14, .return_, 1)]
theorem d1 : ∀ i : Fin 9, decode C1 (L1.get i).1 = .ok (L1.get i).2 := by decide +kernel
theorem pn_0 : plainName "com/example/kwhat/kwhat/ProRata" = true := by first | (simp [plainName, overriddenIn]; done) | decide +kernel
theorem ef_rm_pri (m : MethodId) (a0 : Addr) (q1 : Int64) (p2 : Int32) : entryFrame m #[(.ref a0), (.long q1), (.int p2)] 4 = mkF m 0 #[.val (.ref a0), .val (.long q1), .second, .val (.int p2)] [] := by first | (simp [entryFrame, mkF, argsToLocals, Value.category]; done) | rfl
def Q_rm_pri (Z : State) (a0 : Addr) (q1 : Int64) (p2 : Int32) (u_days_a0 : Value) (u_monthDays_a0 : Value) (h0 : Heap) (n0 : Nat) (v : Option Value) (h : Heap) (L : List Loc) : Prop := v = none ∧ Fr n0 L ∧ Keep h0 h [a0] ∧ Fld Z h a0 "com/example/kwhat/kwhat/ProRata" "days" "J" (.long q1) ∧ Fld Z h a0 "com/example/kwhat/kwhat/ProRata" "monthDays" "I" (.int p2)
set_option maxRecDepth 65536 in
set_option maxHeartbeats 40000000 in
theorem rm_pri (l : Launch) (Z : State) (av0 : Array Value) (hw : ∀ d ∈ tables_1, d.before av0 Z = true) (ws : List Jvm.Cond) (a0 : Addr) (q1 : Int64) (p2 : Int32) (u_days_a0 : Value) (u_monthDays_a0 : Value) (h0 : Heap) (n0 : Nat) (Z0 : n0 ≤ h0.size) (X_a0 : Exa Z h0 a0 "com/example/kwhat/kwhat/ProRata") (F_days_a0 : Fld Z h0 a0 "com/example/kwhat/kwhat/ProRata" "days" "J" u_days_a0) (g_a0 : n0 ≤ a0) (F_monthDays_a0 : Fld Z h0 a0 "com/example/kwhat/kwhat/ProRata" "monthDays" "I" u_monthDays_a0) :
    own_MF l Z h0 yM1 (Jvm.Cond.code yM1 prog_19_method_1_code 4 none :: ws) ({ frames := 1, cells := 0, slots := 0, locals := 12 } : Room) #[(.ref a0), (.long q1), (.int p2)] (Q_rm_pri Z a0 q1 p2 u_days_a0 u_monthDays_a0 h0 n0) := by
  refine own_ent (own := "com/example/kwhat/kwhat/ProRata") (plainFor_of_name pn_0) rfl ?_
  intro p e s m below meth c s₁ Bd hx hby hml hZ hh hown hnm X0 e0
  have N0 := Fr.nil n0
  have kp0 : Keep h0 h0 [a0] := Keep.refl _ _
  refine oS (fun _ q => castTop (ef_rm_pri m a0 q1 p2) q) ?_
  show OF _ _ _ _ (s₁.setTop (mkF m 0 #[vr a0, .val (.long q1), .second, vi p2] []))
  refine oS (fun _ q => XS.aloadN X0.here hx rfl (hb hby (d1 0)) rfl rfl q) ?_
  obtain ⟨T1, X1, e1, st1⟩ := initO X0 hx hZ hown (w_ hw 25 rfl) (w_ hw 26 rfl) (w_ hw 27 rfl) e0 (g := (mkF m 1 #[vr a0, .val (.long q1), .second, vi p2] [(.ref a0)])) rfl (by rw [hml]; rfl) rfl (hb hby (d1 1)) (by decide) (W := 0) (by show 2 * 0 + _ ≤ _; exact Nat.le_of_eq rfl) (by decide)
  refine oS st1 ?_
  show OF _ _ _ _ (T1.setTop (mkF m 4 _ _))
  refine oS (fun _ q => XS.aloadN X1.here hx rfl (hb hby (d1 2)) rfl rfl (XS.lloadN X1.here hx rfl (hb hby (d1 3)) rfl q)) ?_
  obtain ⟨T2, h2, X2, e2, W2, st2⟩ := putF X1 hx hZ hown (host := "") (Or.inl (w_ hw 28 rfl)) Via.refl e1 F_days_a0 X_a0 (Or.inr ⟨(w_ hw 29 rfl), rfl, hnm⟩) (w_ hw 20 rfl) (ty := .long) (by decide) rfl rfl (g := (mkF m 6 #[vr a0, .val (.long q1), .second, vi p2] [(.long q1), (.ref a0)])) rfl rfl (hb hby (d1 4))
  refine oS st2 ?_
  have Fw2 : Fld Z h2 a0 "com/example/kwhat/kwhat/ProRata" "days" "J" (.long q1) := F_days_a0.same W2
  have N2 := Fr.snoc X2 N0 g_a0
  have kp3 : Keep h0 h2 [a0] := kp0.wr W2 (Or.inl (List.mem_of_getElem? (i := 0) rfl))
  show OF _ _ _ _ (T2.setTop (mkF m 9 _ _))
  refine oS (fun _ q => XS.aloadN X2.here hx rfl (hb hby (d1 5)) rfl rfl (XS.iloadN X2.here hx rfl (hb hby (d1 6)) rfl q)) ?_
  have fr4 : Fld Z h2 a0 "com/example/kwhat/kwhat/ProRata" "monthDays" "I" u_monthDays_a0 := (F_monthDays_a0.other W2 (Or.inr (slot_ne (Or.inr (w_ hw 31 rfl)) (Or.inr (w_ hw 29 rfl)) (by decide) (t := .int) (t' := .long) (by decide) (by decide))))
  obtain ⟨T5, h5, X5, e5, W5, st5⟩ := putF X2 hx hZ hown (host := "") (Or.inl (w_ hw 30 rfl)) Via.refl e2 fr4 (X_a0.wr W2) (Or.inr ⟨(w_ hw 31 rfl), rfl, hnm⟩) (w_ hw 20 rfl) (ty := .int) (by decide) rfl rfl (g := (mkF m 11 #[vr a0, .val (.long q1), .second, vi p2] [(.int p2), (.ref a0)])) rfl rfl (hb hby (d1 7))
  refine oS st5 ?_
  have Fw5 : Fld Z h5 a0 "com/example/kwhat/kwhat/ProRata" "monthDays" "I" (.int p2) := (F_monthDays_a0.other W2 (Or.inr (slot_ne (Or.inr (w_ hw 31 rfl)) (Or.inr (w_ hw 29 rfl)) (by decide) (t := .int) (t' := .long) (by decide) (by decide)))).same W5
  have N5 := Fr.snoc X5 N2 g_a0
  have kp6 : Keep h0 h5 [a0] := kp3.wr W5 (Or.inl (List.mem_of_getElem? (i := 0) rfl))
  show OF _ _ _ _ (T5.setTop (mkF m 14 _ _))
  obtain ⟨fs, hr, hrun, hended, hW, hsame⟩ := X5.leave (v := none) (fun _ => rfl)
  refine ⟨_, _, X5.returnOut hx Bd.returns (hb hby (d1 8)) hr, hrun, hended, _, _, rfl, ?_, ⟨_, rfl⟩, hW, hsame.mono (by decide) (by decide)⟩
  show Q_rm_pri Z a0 q1 p2 u_days_a0 u_monthDays_a0 h0 n0 _ T5.heap _
  rw [e5]
  have fr7 : Fld Z h5 a0 "com/example/kwhat/kwhat/ProRata" "days" "J" (.long q1) := (Fw2.other W5 (Or.inr (slot_ne (Or.inr (w_ hw 29 rfl)) (Or.inr (w_ hw 31 rfl)) (by decide) (t := .long) (t' := .int) (by decide) (by decide))))
  exact ⟨rfl, N5, kp6, fr7, Fw5⟩
abbrev C5 := jdk_68_method_2_code
def L5 : List (Nat × Instr × Nat) := [(0, .aload_n 0, 1), (1, .invokespecial 3, 3), (4, .getstatic 18, 3), (7, .ifCond .eq 18, 3), (10, .aload_n 0, 1), (11, .iload_n 1, 1), (12, .newarray .byte, 2), (14, .putfield 15, 3), (17, .aload_n 0, 1), (18, .iconst 0, 1), (19, .putfield 22, 3), (22, .goto 16, 3), (38, .return_, 1)]
theorem d5 : ∀ i : Fin 13, decode C5 (L5.get i).1 = .ok (L5.get i).2 := by decide +kernel
theorem pn_1 : plainName "java/lang/AbstractStringBuilder" = true := by first | (simp [plainName, overriddenIn]; done) | decide +kernel
theorem ef_rm_asbi (m : MethodId) (a0 : Addr) : entryFrame m #[(.ref a0), (.int 16)] 2 = mkF m 0 #[.val (.ref a0), .val (.int 16)] [] := by first | (simp [entryFrame, mkF, argsToLocals, Value.category]; done) | rfl
def Q_rm_asbi (Z : State) (a0 : Addr) (w_COMPACT_STRINGS : Int32) (u_value_a0 : Value) (u_coder_a0 : Value) (h0 : Heap) (n0 : Nat) (v : Option Value) (h : Heap) (L : List Loc) : Prop := ∃ b3 : Addr, ∃ k3 : ClassId, v = none ∧ Fr n0 L ∧ Keep h0 h [a0] ∧ h0.size ≤ b3 ∧ Fld Z h a0 "java/lang/AbstractStringBuilder" "count" "I" (.int 0) ∧ Arv Z h b3 k3 .byte (16 : Int32) (own_ml (16 : Int32) own_zf) (.int 0) ∧ Exa Z h b3 "[B" ∧ Fld Z h a0 "java/lang/AbstractStringBuilder" "value" "[B" (.ref b3) ∧ Fld Z h a0 "java/lang/AbstractStringBuilder" "coder" "B" (.int 0)
set_option maxRecDepth 65536 in
set_option maxHeartbeats 40000000 in
theorem rm_asbi (l : Launch) (Z : State) (av0 : Array Value) (hw : ∀ d ∈ tables_1, d.before av0 Z = true) (ws : List Jvm.Cond) (a0 : Addr) (w_COMPACT_STRINGS : Int32) (u_value_a0 : Value) (u_coder_a0 : Value) (h0 : Heap) (n0 : Nat) (Z0 : n0 ≤ h0.size) (Ol0 : Old Z n0 h0) (X_a0 : Exa Z h0 a0 "java/lang/StringBuilder") (F_count_a0 : Fld Z h0 a0 "java/lang/AbstractStringBuilder" "count" "I" (.int 0)) (S_COMPACT_STRINGS : Sta Z Z.heap "java/lang/String" "COMPACT_STRINGS" "Z" (.int w_COMPACT_STRINGS)) (hc0 : ¬ (w_COMPACT_STRINGS = 0)) (F_value_a0 : Fld Z h0 a0 "java/lang/AbstractStringBuilder" "value" "[B" u_value_a0) (g_a0 : n0 ≤ a0) (F_coder_a0 : Fld Z h0 a0 "java/lang/AbstractStringBuilder" "coder" "B" u_coder_a0) :
    own_MF l Z h0 yM2 (Jvm.Cond.code yM2 jdk_68_method_2_code 2 none :: ws) ({ frames := 1, cells := 1, slots := 16, locals := 12 } : Room) #[(.ref a0), (.int 16)] (Q_rm_asbi Z a0 w_COMPACT_STRINGS u_value_a0 u_coder_a0 h0 n0) := by
  refine own_ent (own := "java/lang/AbstractStringBuilder") (plainFor_of_name pn_1) rfl ?_
  intro p e s m below meth c s₁ Bd hx hby hml hZ hh hown hnm X0 e0
  have N0 := Fr.nil n0
  have kp0 : Keep h0 h0 [a0] := Keep.refl _ _
  refine oS (fun _ q => castTop (ef_rm_asbi m a0) q) ?_
  show OF _ _ _ _ (s₁.setTop (mkF m 0 #[vr a0, vi 16] []))
  refine oS (fun _ q => XS.aloadN X0.here hx rfl (hb hby (d5 0)) rfl rfl q) ?_
  obtain ⟨T1, X1, e1, st1⟩ := initO X0 hx hZ hown (w_ hw 49 rfl) (w_ hw 26 rfl) (w_ hw 27 rfl) e0 (g := (mkF m 1 #[vr a0, vi 16] [(.ref a0)])) rfl (by rw [hml]; rfl) rfl (hb hby (d5 1)) (by decide) (W := 0) (by show 2 * 0 + _ ≤ _; exact Nat.le_of_eq rfl) (by decide)
  refine oS st1 ?_
  show OF _ _ _ _ (T1.setTop (mkF m 4 _ _))
  obtain ⟨T2, X2, e2, st2⟩ := getS2 X1 hx hZ hown (host := "") (Or.inl (w_ hw 50 rfl)) Via.refl e1 (S_COMPACT_STRINGS.ext Ol0.2) (g := (mkF m 4 #[vr a0, vi 16] [])) rfl (hb hby (d5 2))
  refine oS st2 ?_
  show OF _ _ _ _ (T2.setTop (mkF m 7 _ _))
  refine oS (fun _ q => XS.ifNo X2.here hx rfl (hb hby (d5 3)) rfl (Jvm.Free.XT.i0_eq_f hc0) q) ?_
  show OF _ _ _ _ (T2.setTop (mkF m 10 _ _))
  refine oS (fun _ q => XS.aloadN X2.here hx rfl (hb hby (d5 4)) rfl rfl (XS.iloadN X2.here hx rfl (hb hby (d5 5)) rfl q)) ?_
  obtain ⟨T3, h3, k3, X3, e3, E3, A3, XE3, st3⟩ := newPE X2 hx hZ (w_ hw 52 rfl) e2 (g := (mkF m 12 #[vr a0, vi 16] [(.int 16), (.ref a0)])) rfl (hb hby (d5 6)) rfl (by decide) (cap := 16) (by decide) (by decide) (by decide) (by decide) (ad := "[B") (by decide)
  obtain ⟨b3, qe3⟩ : ∃ z, z = h0.size := ⟨_, rfl⟩
  rw [← qe3] at A3 st3 XE3
  refine oS st3 ?_
  have bi_b3 : h0.size ≤ b3 := Nat.le_of_eq qe3.symm
  have lo_b3 : h0.size ≤ b3 := Nat.le_trans kp0.1 bi_b3
  have g_b3 : n0 ≤ b3 := Nat.le_trans Z0 lo_b3
  have kp4 : Keep h0 h3 [a0] := kp0.ext E3
  have ol4 : Old Z n0 h3 := Ol0.ext E3
  have V3 : Arv Z h3 b3 k3 .byte (16 : Int32) (own_ml (16 : Int32) own_zf) (.int 0) := (Arv.new A3 (by decide)).pad (own_mlnew _)
  show OF _ _ _ _ (T3.setTop (mkF m 14 _ _))
  obtain ⟨T5, h5, X5, e5, W5, st5⟩ := putF X3 hx hZ hown (host := "") (Or.inl (w_ hw 53 rfl)) Via.refl e3 (F_value_a0.ext E3) (X_a0.ext E3) (Or.inl (w_ hw 54 rfl)) (w_ hw 38 rfl) (ty := (.array .byte)) (by decide) rfl rfl (g := (mkF m 14 #[vr a0, vi 16] [(.ref b3), (.ref a0)])) rfl rfl (hb hby (d5 7))
  refine oS st5 ?_
  have Fw5 : Fld Z h5 a0 "java/lang/AbstractStringBuilder" "value" "[B" (.ref b3) := (F_value_a0.ext E3).same W5
  have N5 := Fr.snoc X5 N0 g_a0
  have kp6 : Keep h0 h5 [a0] := kp4.wr W5 (Or.inl (List.mem_of_getElem? (i := 0) rfl))
  have ol6 : Old Z n0 h5 := ol4.wr W5 g_a0
  show OF _ _ _ _ (T5.setTop (mkF m 17 _ _))
  refine oS (fun _ q => XS.aloadN X5.here hx rfl (hb hby (d5 8)) rfl rfl (XS.iconst X5.here hx rfl (hb hby (d5 9)) q)) ?_
  have fr7 : Fld Z h5 a0 "java/lang/AbstractStringBuilder" "coder" "B" u_coder_a0 := ((F_coder_a0.ext E3).other W5 (Or.inr (slot_ne (Or.inl (w_ hw 56 rfl)) (Or.inl (w_ hw 54 rfl)) (by decide) (t := .byte) (t' := (.array .byte)) (by decide) (by decide))))
  obtain ⟨T8, h8, X8, e8, W8, st8⟩ := putFN X5 hx hZ hown (w_ hw 55 rfl) Via.refl e5 fr7 ((X_a0.ext E3).wr W5) (Or.inl (w_ hw 56 rfl)) (w_ hw 38 rfl) (ty := .byte) (v' := (.int 0)) (by decide) rfl rfl (g := (mkF m 19 #[vr a0, vi 16] [(.int 0), (.ref a0)])) rfl rfl (hb hby (d5 10))
  refine oS st8 ?_
  have Fw8 : Fld Z h8 a0 "java/lang/AbstractStringBuilder" "coder" "B" (.int 0) := ((F_coder_a0.ext E3).other W5 (Or.inr (slot_ne (Or.inl (w_ hw 56 rfl)) (Or.inl (w_ hw 54 rfl)) (by decide) (t := .byte) (t' := (.array .byte)) (by decide) (by decide)))).same W8
  have N8 := Fr.snoc X8 N5 g_a0
  have kp9 : Keep h0 h8 [a0] := kp6.wr W8 (Or.inl (List.mem_of_getElem? (i := 0) rfl))
  have ol9 : Old Z n0 h8 := ol6.wr W8 g_a0
  show OF _ _ _ _ (T8.setTop (mkF m 22 _ _))
  refine oS (fun _ q => XS.goto X8.here hx rfl (pc0 := 22) (pc' := 38) rfl (hb hby (d5 11)) (by decide) (by decide) q) ?_
  obtain ⟨fs, hr, hrun, hended, hW, hsame⟩ := X8.leave (v := none) (fun _ => rfl)
  refine ⟨_, _, X8.returnOut hx Bd.returns (hb hby (d5 12)) hr, hrun, hended, _, _, rfl, ?_, ⟨_, rfl⟩, hW, hsame.mono (by decide) (by decide)⟩
  show Q_rm_asbi Z a0 w_COMPACT_STRINGS u_value_a0 u_coder_a0 h0 n0 _ T8.heap _
  rw [e8]
  have fr10 : Fld Z h8 a0 "java/lang/AbstractStringBuilder" "count" "I" (.int 0) := (((F_count_a0.ext E3).other W5 (Or.inr (slot_ne (Or.inl (w_ hw 68 rfl)) (Or.inl (w_ hw 54 rfl)) (by decide) (t := .int) (t' := (.array .byte)) (by decide) (by decide)))).other W8 (Or.inr (slot_ne (Or.inl (w_ hw 68 rfl)) (Or.inl (w_ hw 56 rfl)) (by decide) (t := .int) (t' := .byte) (by decide) (by decide))))
  have fr11 : Arv Z h8 b3 k3 .byte (16 : Int32) (own_ml (16 : Int32) own_zf) (.int 0) := ((V3.other W5 (Ne.symm (Nat.ne_of_lt (Nat.lt_of_lt_of_le X_a0.lt bi_b3)))).other W8 (Ne.symm (Nat.ne_of_lt (Nat.lt_of_lt_of_le X_a0.lt bi_b3))))
  have fr12 : Fld Z h8 a0 "java/lang/AbstractStringBuilder" "value" "[B" (.ref b3) := (Fw5.other W8 (Or.inr (slot_ne (Or.inl (w_ hw 54 rfl)) (Or.inl (w_ hw 56 rfl)) (by decide) (t := (.array .byte)) (t' := .byte) (by decide) (by decide))))
  exact ⟨b3, k3, rfl, N8, kp9, lo_b3, fr10, fr11, ((XE3.wr W5).wr W8), fr12, Fw8⟩
theorem pd_0 : parseMethodDescriptor "(I)V" = some ⟨[.int], none⟩ := by decide +kernel
abbrev C4 := jdk_67_method_1_code
def L4 : List (Nat × Instr × Nat) := [(0, .aload_n 0, 1), (1, .bipush 16, 2), (3, .invokespecial 1, 3), (6, .return_, 1)]
theorem d4 : ∀ i : Fin 4, decode C4 (L4.get i).1 = .ok (L4.get i).2 := by decide +kernel
theorem pn_2 : plainName "java/lang/StringBuilder" = true := by first | (simp [plainName, overriddenIn]; done) | decide +kernel
theorem ef_rm_sbi (m : MethodId) (a0 : Addr) : entryFrame m #[(.ref a0)] 1 = mkF m 0 #[.val (.ref a0)] [] := by first | (simp [entryFrame, mkF, argsToLocals, Value.category]; done) | rfl
def Q_rm_sbi (Z : State) (a0 : Addr) (w_COMPACT_STRINGS : Int32) (u_value_a0 : Value) (u_coder_a0 : Value) (h0 : Heap) (n0 : Nat) (v : Option Value) (h : Heap) (L : List Loc) : Prop := ∃ c1_0 : Addr, ∃ kc1_1 : ClassId, v = none ∧ Fr n0 L ∧ Keep h0 h [a0] ∧ h0.size ≤ c1_0 ∧ Fld Z h a0 "java/lang/AbstractStringBuilder" "count" "I" (.int 0) ∧ Arv Z h c1_0 kc1_1 .byte (16 : Int32) (own_ml (16 : Int32) own_zf) (.int 0) ∧ Exa Z h c1_0 "[B" ∧ Fld Z h a0 "java/lang/AbstractStringBuilder" "value" "[B" (.ref c1_0) ∧ Fld Z h a0 "java/lang/AbstractStringBuilder" "coder" "B" (.int 0)
set_option maxRecDepth 65536 in
set_option maxHeartbeats 40000000 in
theorem rm_sbi (l : Launch) (Z : State) (av0 : Array Value) (hw : ∀ d ∈ tables_1, d.before av0 Z = true) (ws : List Jvm.Cond) (a0 : Addr) (w_COMPACT_STRINGS : Int32) (u_value_a0 : Value) (u_coder_a0 : Value) (h0 : Heap) (n0 : Nat) (Z0 : n0 ≤ h0.size) (Ol0 : Old Z n0 h0) (X_a0 : Exa Z h0 a0 "java/lang/StringBuilder") (F_count_a0 : Fld Z h0 a0 "java/lang/AbstractStringBuilder" "count" "I" (.int 0)) (S_COMPACT_STRINGS : Sta Z Z.heap "java/lang/String" "COMPACT_STRINGS" "Z" (.int w_COMPACT_STRINGS)) (hc0 : ¬ (w_COMPACT_STRINGS = 0)) (F_value_a0 : Fld Z h0 a0 "java/lang/AbstractStringBuilder" "value" "[B" u_value_a0) (g_a0 : n0 ≤ a0) (F_coder_a0 : Fld Z h0 a0 "java/lang/AbstractStringBuilder" "coder" "B" u_coder_a0) :
    own_MF l Z h0 yM3 (Jvm.Cond.code yM3 jdk_67_method_1_code 1 none :: ws) ({ frames := 2, cells := 1, slots := 16, locals := 25 } : Room) #[(.ref a0)] (Q_rm_sbi Z a0 w_COMPACT_STRINGS u_value_a0 u_coder_a0 h0 n0) := by
  refine own_ent (own := "java/lang/StringBuilder") (plainFor_of_name pn_2) rfl ?_
  intro p e s m below meth c s₁ Bd hx hby hml hZ hh hown hnm X0 e0
  have N0 := Fr.nil n0
  have kp0 : Keep h0 h0 [a0] := Keep.refl _ _
  refine oS (fun _ q => castTop (ef_rm_sbi m a0) q) ?_
  show OF _ _ _ _ (s₁.setTop (mkF m 0 #[vr a0] []))
  refine oS (fun _ q => XS.aloadN X0.here hx rfl (hb hby (d4 0)) rfl rfl (XS.bipush X0.here hx rfl (hb hby (d4 1)) q)) ?_
  show OF _ _ _ _ (s₁.setTop (mkF m 3 _ _))
  obtain ⟨_, _, ⟨T1, L1, k1, n1⟩, -, X1, ⟨Lc1, hQ1, l1, y1, z1⟩, st1⟩ := X0.specialBack hx (y := yM2) rfl hown (mvT hZ (w_ hw 43 rfl)) (mvT hZ (w_ hw 44 rfl)) (mvT hZ (w_ hw 48 rfl)) (by decide) (backOf (W := 0) (rm_asbi l Z av0 hw [] a0 w_COMPACT_STRINGS u_value_a0 u_coder_a0 h0 n0 (Nat.le_trans Z0 kp0.1) Ol0 X_a0 F_count_a0 S_COMPACT_STRINGS hc0 F_value_a0 g_a0 F_coder_a0) hZ (w_ hw 48 rfl) (w_ hw 47 rfl) (by decide) (by decide)) (g := (mkF m 3 #[vr a0] [(.int 16), (.ref a0)])) rfl (by rw [hml]; rfl) (Steps.refl _) (a := a0) (argsL := [(.int 16)]) (rest := []) (lenOf pd_0 rfl) rfl (by show 2 * 0 + _ ≤ _; exact Nat.le_of_eq rfl) (hb hby (d4 2)) (fun _ _ => ⟨rfl, e0, (by decide : 0 + 1 ≤ _), (by decide : 0 + 16 ≤ _)⟩)
  dsimp only [Pt.U, Pt.locs, Pt.cells, Pt.slots] at X1 l1 y1 z1 st1 hQ1
  subst l1 y1 z1
  obtain ⟨c1_0, kc1_1, rfl, N1q, K1, r1_0, r1_1, r1_2, r1_3, r1_4, r1_5⟩ := hQ1
  have N1 := Fr.app N0 N1q
  refine oT st1 ?_
  obtain ⟨h1, e1⟩ : ∃ z, T1.heap = z := ⟨_, rfl⟩
  rw [e1] at K1 r1_1 r1_2 r1_3 r1_4 r1_5
  have bi_c1_0 : h0.size ≤ c1_0 := r1_0
  have lo_c1_0 : h0.size ≤ c1_0 := Nat.le_trans kp0.1 bi_c1_0
  have g_c1_0 : n0 ≤ c1_0 := Nat.le_trans Z0 lo_c1_0
  have kp2 : Keep h0 h1 [a0] := kp0.trans K1 (allS (Or.inl (List.mem_of_getElem? (i := 0) rfl)) all0)
  have ol2 : Old Z n0 h1 := Ol0.keep K1 (allS g_a0 all0)
  show OF _ _ _ _ (T1.setTop (mkF m 6 _ _))
  obtain ⟨fs, hr, hrun, hended, hW, hsame⟩ := X1.leave (v := none) (fun _ => rfl)
  refine ⟨_, _, X1.returnOut hx Bd.returns (hb hby (d4 3)) hr, hrun, hended, _, _, rfl, ?_, ⟨_, rfl⟩, hW, hsame.mono (by decide) (by decide)⟩
  show Q_rm_sbi Z a0 w_COMPACT_STRINGS u_value_a0 u_coder_a0 h0 n0 _ T1.heap _
  rw [e1]
  exact ⟨c1_0, kc1_1, rfl, N1, kp2, lo_c1_0, r1_1, r1_2, r1_3, r1_4, r1_5⟩
abbrev C8 := jdk_35_method_15_code
def L8 : List (Nat × Instr × Nat) := [(0, .iconst 1, 1), (1, .istore_n 2, 1), (2, .lload_n 0, 1), (3, .lconst 0, 1), (4, .lcmp, 1), (5, .ifCond .lt 8, 3), (8, .iconst 0, 1), (9, .istore_n 2, 1), (10, .lload_n 0, 1), (11, .lneg, 1), (12, .lstore_n 0, 1), (13, .ldc2_w 140, 3), (16, .lstore_n 3, 1), (17, .iconst 1, 1), (18, .istore 5, 2), (20, .iload 5, 2), (22, .bipush 19, 2), (24, .if_icmp .ge 26, 3), (27, .lload_n 0, 1), (28, .lload_n 3, 1), (29, .lcmp, 1), (30, .ifCond .le 8, 3), (33, .iload 5, 2), (35, .iload_n 2, 1), (36, .iadd, 1), (37, .ireturn, 1), (38, .ldc2_w 53, 3), (41, .lload_n 3, 1), (42, .lmul, 1), (43, .lstore_n 3, 1), (44, .iinc 5 1, 3), (47, .goto (-27), 3), (50, .bipush 19, 2), (52, .iload_n 2, 1), (53, .iadd, 1), (54, .ireturn, 1)]
theorem d8 : ∀ i : Fin 36, decode C8 (L8.get i).1 = .ok (L8.get i).2 := by decide +kernel
theorem pn_3 : plainName "java/lang/Long" = true := by first | (simp [plainName, overriddenIn]; done) | decide +kernel
theorem ef_rm_ssL (m : MethodId) (q0 : Int64) : entryFrame m #[(.long q0)] 6 = mkF m 0 #[.val (.long q0), .second, .unset, .unset, .unset, .unset] [] := by first | (simp [entryFrame, mkF, argsToLocals, Value.category]; done) | rfl
def Q_rm_ssL (Z : State) (q0 : Int64) (h0 : Heap) (n0 : Nat) (v : Option Value) (h : Heap) (L : List Loc) : Prop := v = some (.int (own_ssL q0)) ∧ Fr n0 L ∧ h = h0
set_option maxRecDepth 65536 in
set_option maxHeartbeats 40000000 in
theorem rm_ssL (l : Launch) (Z : State) (av0 : Array Value) (hw : ∀ d ∈ tables_1, d.before av0 Z = true) (ws : List Jvm.Cond) (q0 : Int64) (h0 : Heap) (n0 : Nat) (Z0 : n0 ≤ h0.size) :
    own_MF l Z h0 yM4 (Jvm.Cond.code yM4 jdk_35_method_15_code 6 (some .int) :: ws) ({ frames := 0, cells := 0, slots := 0, locals := 0 } : Room) #[(.long q0)] (Q_rm_ssL Z q0 h0 n0) := by
  refine own_ent (own := "java/lang/Long") (plainFor_of_name pn_3) rfl ?_
  intro p e s m below meth c s₁ Bd hx hby hml hZ hh hown hnm X0 e0
  have N0 := Fr.nil n0
  have kp0 : Keep h0 h0 [] := Keep.refl _ _
  refine oS (fun _ q => castTop (ef_rm_ssL m q0) q) ?_
  show OF _ _ _ _ (s₁.setTop (mkF m 0 #[.val (.long q0), .second, .unset, .unset, .unset, .unset] []))
  refine oS (fun _ q => XS.iconst X0.here hx rfl (hb hby (d8 0)) (XS.istoreN X0.here hx rfl (hb hby (d8 1)) rfl (l' := #[.val (.long q0), .second, vi 1, .unset, .unset, .unset]) rfl (XS.lloadN X0.here hx rfl (hb hby (d8 2)) rfl (XS.lconst X0.here hx rfl (hb hby (d8 3)) (XS.lcmp X0.here hx rfl (hb hby (d8 4)) rfl q))))) ?_
  suffices H1 : ∀ (T : State) (lc : List Loc), Stand p l e ({ frames := 0, cells := 0, slots := 0, locals := 0 } : Room) s m #[(.long q0)] below meth c T lc 0 0 → Fr n0 lc → T.heap = h0 → OF p.tables e below (fun o U' => ∃ v L, o = .returned v ∧ Q_rm_ssL Z q0 h0 n0 v U'.heap L ∧ FrameEnd s o U' L ({ frames := 0, cells := 0, slots := 0, locals := 0 } : Room).cells ({ frames := 0, cells := 0, slots := 0, locals := 0 } : Room).slots) (T.setTop (mkF m 13 #[.val (.long (if q0 < 0 then q0 else (-q0))), .second, vi (if q0 < 0 then (1 : Int32) else (0 : Int32)), .unset, .unset, .unset] [])) by
   by_cases hc1 : q0 < 0
   ·
    refine oS (fun _ q => XS.ifYes X0.here hx rfl (pc0 := 5) (pc' := 13) rfl (hb hby (d8 5)) rfl (Jvm.Free.XT.ll_lt_t hc1) (by decide) (by decide) q) ?_
    show OF _ _ _ _ (s₁.setTop (mkF m 13 #[.val (.long q0), .second, vi 1, .unset, .unset, .unset] []))
    have z := H1 _ _ X0 N0 e0
    rw [show ((if q0 < 0 then q0 else (-q0)) : Int64) = q0 from if_pos hc1] at z
    rw [show ((if q0 < 0 then (1 : Int32) else (0 : Int32)) : Int32) = (1 : Int32) from if_pos hc1] at z
    exact z
   ·
    refine oS (fun _ q => XS.ifNo X0.here hx rfl (hb hby (d8 5)) rfl (Jvm.Free.XT.ll_lt_f hc1) q) ?_
    show OF _ _ _ _ (s₁.setTop (mkF m 8 _ _))
    refine oS (fun _ q => XS.iconst X0.here hx rfl (hb hby (d8 6)) (XS.istoreN X0.here hx rfl (hb hby (d8 7)) rfl (l' := #[.val (.long q0), .second, vi 0, .unset, .unset, .unset]) rfl (XS.lloadN X0.here hx rfl (hb hby (d8 8)) rfl (XS.lneg X0.here hx rfl (hb hby (d8 9)) rfl (XS.lstoreN X0.here hx rfl (hb hby (d8 10)) rfl (l' := #[.val (.long (-q0)), .second, vi 0, .unset, .unset, .unset]) rfl q))))) ?_
    show OF _ _ _ _ (s₁.setTop (mkF m 13 #[.val (.long (-q0)), .second, vi 0, .unset, .unset, .unset] []))
    have z := H1 _ _ X0 N0 e0
    rw [show ((if q0 < 0 then q0 else (-q0)) : Int64) = (-q0) from if_neg hc1] at z
    rw [show ((if q0 < 0 then (1 : Int32) else (0 : Int32)) : Int32) = (0 : Int32) from if_neg hc1] at z
    exact z
  intro T1 lc1 X1 N1 e1
  show OF _ _ _ _ (T1.setTop (mkF m 13 #[.val (.long (if q0 < 0 then q0 else (-q0))), .second, vi (if q0 < 0 then (1 : Int32) else (0 : Int32)), .unset, .unset, .unset] []))
  refine oS (X1.ldc2Long hx hown (mvT hZ (w_ hw 73 rfl)) (g := (mkF m 13 #[.val (.long (if q0 < 0 then q0 else (-q0))), .second, vi (if q0 < 0 then (1 : Int32) else (0 : Int32)), .unset, .unset, .unset] [])) rfl (hb hby (d8 11))) ?_
  show OF _ _ _ _ (T1.setTop (mkF m 16 _ _))
  refine oS (fun _ q => XS.lstoreN X1.here hx rfl (hb hby (d8 12)) rfl (l' := #[.val (.long (if q0 < 0 then q0 else (-q0))), .second, vi (if q0 < 0 then (1 : Int32) else (0 : Int32)), .val (.long (-10)), .second, .unset]) rfl (XS.iconst X1.here hx rfl (hb hby (d8 13)) (XS.istore X1.here hx rfl (hb hby (d8 14)) rfl (l' := #[.val (.long (if q0 < 0 then q0 else (-q0))), .second, vi (if q0 < 0 then (1 : Int32) else (0 : Int32)), .val (.long (-10)), .second, vi 1]) rfl q))) ?_
  have H2 : ∀ (fu : Nat) (i : Int32) (pw : Int64) (T : State) (lc : List Loc) (_ : own_iss 19 q0.toInt.natAbs i.toInt pw.toInt), ((19 : Int32).toInt - i.toInt).toNat < fu → Stand p l e ({ frames := 0, cells := 0, slots := 0, locals := 0 } : Room) s m #[(.long q0)] below meth c T lc 0 0 → Fr n0 lc → T.heap = h0 → OF p.tables e below (fun o U' => ∃ v L, o = .returned v ∧ Q_rm_ssL Z q0 h0 n0 v U'.heap L ∧ FrameEnd s o U' L ({ frames := 0, cells := 0, slots := 0, locals := 0 } : Room).cells ({ frames := 0, cells := 0, slots := 0, locals := 0 } : Room).slots) (T.setTop (mkF m 20 #[.val (.long (if q0 < 0 then q0 else (-q0))), .second, vi (if q0 < 0 then (1 : Int32) else (0 : Int32)), .val (.long pw), .second, vi i] [])) := by
   intro fu
   induction fu with
   | zero => intro i pw T lc hs hfu; exact absurd hfu (Nat.not_lt_zero _)
   | succ fu ih =>
    intro i pw T2 lc2 hs hfu X2 N2 e2
    show OF _ _ _ _ (T2.setTop (mkF m 20 #[.val (.long (if q0 < 0 then q0 else (-q0))), .second, vi (if q0 < 0 then (1 : Int32) else (0 : Int32)), .val (.long pw), .second, vi i] []))
    refine oS (fun _ q => XS.iload X2.here hx rfl (hb hby (d8 15)) rfl (XS.bipush X2.here hx rfl (hb hby (d8 16)) q)) ?_
    by_cases hc3 : i < 19
    ·
     refine oS (fun _ q => XS.icmpNo X2.here hx rfl (hb hby (d8 17)) rfl (Jvm.Free.XT.ii_ge_f hc3) q) ?_
     show OF _ _ _ _ (T2.setTop (mkF m 27 _ _))
     refine oS (fun _ q => XS.lloadN X2.here hx rfl (hb hby (d8 18)) rfl (XS.lloadN X2.here hx rfl (hb hby (d8 19)) rfl (XS.lcmp X2.here hx rfl (hb hby (d8 20)) rfl q))) ?_
     by_cases hc4 : pw < (if q0 < 0 then q0 else (-q0))
     ·
      refine oS (fun _ q => XS.ifNo X2.here hx rfl (hb hby (d8 21)) rfl (Jvm.Free.XT.ll_le_f hc4) q) ?_
      show OF _ _ _ _ (T2.setTop (mkF m 33 _ _))
      refine oS (fun _ q => XS.iload X2.here hx rfl (hb hby (d8 22)) rfl (XS.iloadN X2.here hx rfl (hb hby (d8 23)) rfl (XS.iadd X2.here hx rfl (hb hby (d8 24)) rfl q))) ?_
      obtain ⟨fs, hr, hrun, hended, hW, hsame⟩ := X2.leave (v := some (.int (i + (if q0 < 0 then (1 : Int32) else (0 : Int32))))) (fun h => by rw [Bd.returns] at h; cases h)
      refine ⟨_, _, retI X2 hx Bd.returns (hb hby (d8 25)) hr, hrun, hended, _, _, rfl, ?_, ⟨_, rfl⟩, hW, hsame.mono (by decide) (by decide)⟩
      show Q_rm_ssL Z q0 h0 n0 _ T2.heap _
      rw [e2]
      refine ⟨?_, N2, rfl⟩
      exact congrArg (fun q => some (Value.int (q + (if q0 < 0 then (1 : Int32) else (0 : Int32))))) (own_s2L hs hc3 hc4)
     ·
      refine oS (fun _ q => XS.ifYes X2.here hx rfl (pc0 := 30) (pc' := 38) rfl (hb hby (d8 21)) rfl (Jvm.Free.XT.ll_le_t hc4) (by decide) (by decide) q) ?_
      show OF _ _ _ _ (T2.setTop (mkF m 38 _ _))
      refine oS (X2.ldc2Long hx hown (mvT hZ (w_ hw 233 rfl)) (g := (mkF m 38 #[.val (.long (if q0 < 0 then q0 else (-q0))), .second, vi (if q0 < 0 then (1 : Int32) else (0 : Int32)), .val (.long pw), .second, vi i] [])) rfl (hb hby (d8 26))) ?_
      show OF _ _ _ _ (T2.setTop (mkF m 41 _ _))
      refine oS (fun _ q => XS.lloadN X2.here hx rfl (hb hby (d8 27)) rfl (XS.lmul X2.here hx rfl (hb hby (d8 28)) rfl (XS.lstoreN X2.here hx rfl (hb hby (d8 29)) rfl (l' := #[.val (.long (if q0 < 0 then q0 else (-q0))), .second, vi (if q0 < 0 then (1 : Int32) else (0 : Int32)), .val (.long ((10 : Int64) * pw)), .second, vi i]) rfl (XS.iinc X2.here hx rfl (hb hby (d8 30)) rfl (l' := #[.val (.long (if q0 < 0 then q0 else (-q0))), .second, vi (if q0 < 0 then (1 : Int32) else (0 : Int32)), .val (.long ((10 : Int64) * pw)), .second, vi (i + 1)]) rfl (XS.goto X2.here hx rfl (pc0 := 47) (pc' := 20) rfl (hb hby (d8 31)) (by decide) (by decide) q))))) ?_
      show OF _ _ _ _ (T2.setTop (mkF m 20 #[.val (.long (if q0 < 0 then q0 else (-q0))), .second, vi (if q0 < 0 then (1 : Int32) else (0 : Int32)), .val (.long ((10 : Int64) * pw)), .second, vi (i + 1)] []))
      exact ih ((i + 1)) (((10 : Int64) * pw)) _ _ (own_s1L hs hc3 hc4) (own_sdec hc3 (Int.le_trans (by decide) hs.1) hfu) X2 N2 e2
    ·
     refine oS (fun _ q => XS.icmpYes X2.here hx rfl (pc0 := 24) (pc' := 50) rfl (hb hby (d8 17)) rfl (Jvm.Free.XT.ii_ge_t hc3) (by decide) (by decide) q) ?_
     show OF _ _ _ _ (T2.setTop (mkF m 50 _ _))
     refine oS (fun _ q => XS.bipush X2.here hx rfl (hb hby (d8 32)) (XS.iloadN X2.here hx rfl (hb hby (d8 33)) rfl (XS.iadd X2.here hx rfl (hb hby (d8 34)) rfl q))) ?_
     obtain ⟨fs, hr, hrun, hended, hW, hsame⟩ := X2.leave (v := some (.int ((19 : Int32) + (if q0 < 0 then (1 : Int32) else (0 : Int32))))) (fun h => by rw [Bd.returns] at h; cases h)
     refine ⟨_, _, retI X2 hx Bd.returns (hb hby (d8 35)) hr, hrun, hended, _, _, rfl, ?_, ⟨_, rfl⟩, hW, hsame.mono (by decide) (by decide)⟩
     show Q_rm_ssL Z q0 h0 n0 _ T2.heap _
     rw [e2]
     refine ⟨?_, N2, rfl⟩
     exact congrArg (fun q => some (Value.int (q + (if q0 < 0 then (1 : Int32) else (0 : Int32))))) (own_s3L hs hc3)
  exact H2 _ ((1 : Int32)) ((-10 : Int64)) _ _ (own_s0L q0) (Nat.lt_succ_self _) X1 N1 e1
abbrev C21 := jdk_33_method_13_code
def L21 : List (Nat × Instr × Nat) := [(0, .iconst 1, 1), (1, .istore_n 1, 1), (2, .iload_n 0, 1), (3, .ifCond .lt 8, 3), (6, .iconst 0, 1), (7, .istore_n 1, 1), (8, .iload_n 0, 1), (9, .ineg, 1), (10, .istore_n 0, 1), (11, .bipush (-10), 2), (13, .istore_n 2, 1), (14, .iconst 1, 1), (15, .istore_n 3, 1), (16, .iload_n 3, 1), (17, .bipush 10, 2), (19, .if_icmp .ge 23, 3), (22, .iload_n 0, 1), (23, .iload_n 2, 1), (24, .if_icmp .le 7, 3), (27, .iload_n 3, 1), (28, .iload_n 1, 1), (29, .iadd, 1), (30, .ireturn, 1), (31, .bipush 10, 2), (33, .iload_n 2, 1), (34, .imul, 1), (35, .istore_n 2, 1), (36, .iinc 3 1, 3), (39, .goto (-23), 3), (42, .bipush 10, 2), (44, .iload_n 1, 1), (45, .iadd, 1), (46, .ireturn, 1)]
theorem d21 : ∀ i : Fin 33, decode C21 (L21.get i).1 = .ok (L21.get i).2 := by decide +kernel
theorem pn_4 : plainName "java/lang/Integer" = true := by first | (simp [plainName, overriddenIn]; done) | decide +kernel
theorem ef_rm_ssI (m : MethodId) (p0 : Int32) : entryFrame m #[(.int p0)] 4 = mkF m 0 #[.val (.int p0), .unset, .unset, .unset] [] := by first | (simp [entryFrame, mkF, argsToLocals, Value.category]; done) | rfl
def Q_rm_ssI (Z : State) (p0 : Int32) (h0 : Heap) (n0 : Nat) (v : Option Value) (h : Heap) (L : List Loc) : Prop := v = some (.int (own_ssI p0)) ∧ Fr n0 L ∧ h = h0
set_option maxRecDepth 65536 in
set_option maxHeartbeats 40000000 in
theorem rm_ssI (l : Launch) (Z : State) (av0 : Array Value) (hw : ∀ d ∈ tables_1, d.before av0 Z = true) (ws : List Jvm.Cond) (p0 : Int32) (h0 : Heap) (n0 : Nat) (Z0 : n0 ≤ h0.size) :
    own_MF l Z h0 yM5 (Jvm.Cond.code yM5 jdk_33_method_13_code 4 (some .int) :: ws) ({ frames := 0, cells := 0, slots := 0, locals := 0 } : Room) #[(.int p0)] (Q_rm_ssI Z p0 h0 n0) := by
  refine own_ent (own := "java/lang/Integer") (plainFor_of_name pn_4) rfl ?_
  intro p e s m below meth c s₁ Bd hx hby hml hZ hh hown hnm X0 e0
  have N0 := Fr.nil n0
  have kp0 : Keep h0 h0 [] := Keep.refl _ _
  refine oS (fun _ q => castTop (ef_rm_ssI m p0) q) ?_
  show OF _ _ _ _ (s₁.setTop (mkF m 0 #[vi p0, .unset, .unset, .unset] []))
  refine oS (fun _ q => XS.iconst X0.here hx rfl (hb hby (d21 0)) (XS.istoreN X0.here hx rfl (hb hby (d21 1)) rfl (l' := #[vi p0, vi 1, .unset, .unset]) rfl (XS.iloadN X0.here hx rfl (hb hby (d21 2)) rfl q))) ?_
  suffices H1 : ∀ (T : State) (lc : List Loc), Stand p l e ({ frames := 0, cells := 0, slots := 0, locals := 0 } : Room) s m #[(.int p0)] below meth c T lc 0 0 → Fr n0 lc → T.heap = h0 → OF p.tables e below (fun o U' => ∃ v L, o = .returned v ∧ Q_rm_ssI Z p0 h0 n0 v U'.heap L ∧ FrameEnd s o U' L ({ frames := 0, cells := 0, slots := 0, locals := 0 } : Room).cells ({ frames := 0, cells := 0, slots := 0, locals := 0 } : Room).slots) (T.setTop (mkF m 11 #[vi (if p0 < 0 then p0 else (-p0)), vi (if p0 < 0 then (1 : Int32) else (0 : Int32)), .unset, .unset] [])) by
   by_cases hc1 : p0 < 0
   ·
    refine oS (fun _ q => XS.ifYes X0.here hx rfl (pc0 := 3) (pc' := 11) rfl (hb hby (d21 3)) rfl (Jvm.Free.XT.i0_lt_t hc1) (by decide) (by decide) q) ?_
    show OF _ _ _ _ (s₁.setTop (mkF m 11 #[vi p0, vi 1, .unset, .unset] []))
    have z := H1 _ _ X0 N0 e0
    rw [show ((if p0 < 0 then p0 else (-p0)) : Int32) = p0 from if_pos hc1] at z
    rw [show ((if p0 < 0 then (1 : Int32) else (0 : Int32)) : Int32) = (1 : Int32) from if_pos hc1] at z
    exact z
   ·
    refine oS (fun _ q => XS.ifNo X0.here hx rfl (hb hby (d21 3)) rfl (Jvm.Free.XT.i0_lt_f hc1) q) ?_
    show OF _ _ _ _ (s₁.setTop (mkF m 6 _ _))
    refine oS (fun _ q => XS.iconst X0.here hx rfl (hb hby (d21 4)) (XS.istoreN X0.here hx rfl (hb hby (d21 5)) rfl (l' := #[vi p0, vi 0, .unset, .unset]) rfl (XS.iloadN X0.here hx rfl (hb hby (d21 6)) rfl (XS.ineg X0.here hx rfl (hb hby (d21 7)) rfl (XS.istoreN X0.here hx rfl (hb hby (d21 8)) rfl (l' := #[vi (-p0), vi 0, .unset, .unset]) rfl q))))) ?_
    show OF _ _ _ _ (s₁.setTop (mkF m 11 #[vi (-p0), vi 0, .unset, .unset] []))
    have z := H1 _ _ X0 N0 e0
    rw [show ((if p0 < 0 then p0 else (-p0)) : Int32) = (-p0) from if_neg hc1] at z
    rw [show ((if p0 < 0 then (1 : Int32) else (0 : Int32)) : Int32) = (0 : Int32) from if_neg hc1] at z
    exact z
  intro T1 lc1 X1 N1 e1
  show OF _ _ _ _ (T1.setTop (mkF m 11 #[vi (if p0 < 0 then p0 else (-p0)), vi (if p0 < 0 then (1 : Int32) else (0 : Int32)), .unset, .unset] []))
  refine oS (fun _ q => XS.bipush X1.here hx rfl (hb hby (d21 9)) (XS.istoreN X1.here hx rfl (hb hby (d21 10)) rfl (l' := #[vi (if p0 < 0 then p0 else (-p0)), vi (if p0 < 0 then (1 : Int32) else (0 : Int32)), vi (-10), .unset]) rfl (XS.iconst X1.here hx rfl (hb hby (d21 11)) (XS.istoreN X1.here hx rfl (hb hby (d21 12)) rfl (l' := #[vi (if p0 < 0 then p0 else (-p0)), vi (if p0 < 0 then (1 : Int32) else (0 : Int32)), vi (-10), vi 1]) rfl q)))) ?_
  have H2 : ∀ (fu : Nat) (i : Int32) (pw : Int32) (T : State) (lc : List Loc) (_ : own_iss 10 p0.toInt.natAbs i.toInt pw.toInt), ((10 : Int32).toInt - i.toInt).toNat < fu → Stand p l e ({ frames := 0, cells := 0, slots := 0, locals := 0 } : Room) s m #[(.int p0)] below meth c T lc 0 0 → Fr n0 lc → T.heap = h0 → OF p.tables e below (fun o U' => ∃ v L, o = .returned v ∧ Q_rm_ssI Z p0 h0 n0 v U'.heap L ∧ FrameEnd s o U' L ({ frames := 0, cells := 0, slots := 0, locals := 0 } : Room).cells ({ frames := 0, cells := 0, slots := 0, locals := 0 } : Room).slots) (T.setTop (mkF m 16 #[vi (if p0 < 0 then p0 else (-p0)), vi (if p0 < 0 then (1 : Int32) else (0 : Int32)), vi pw, vi i] [])) := by
   intro fu
   induction fu with
   | zero => intro i pw T lc hs hfu; exact absurd hfu (Nat.not_lt_zero _)
   | succ fu ih =>
    intro i pw T2 lc2 hs hfu X2 N2 e2
    show OF _ _ _ _ (T2.setTop (mkF m 16 #[vi (if p0 < 0 then p0 else (-p0)), vi (if p0 < 0 then (1 : Int32) else (0 : Int32)), vi pw, vi i] []))
    refine oS (fun _ q => XS.iloadN X2.here hx rfl (hb hby (d21 13)) rfl (XS.bipush X2.here hx rfl (hb hby (d21 14)) q)) ?_
    by_cases hc3 : i < 10
    ·
     refine oS (fun _ q => XS.icmpNo X2.here hx rfl (hb hby (d21 15)) rfl (Jvm.Free.XT.ii_ge_f hc3) q) ?_
     show OF _ _ _ _ (T2.setTop (mkF m 22 _ _))
     refine oS (fun _ q => XS.iloadN X2.here hx rfl (hb hby (d21 16)) rfl (XS.iloadN X2.here hx rfl (hb hby (d21 17)) rfl q)) ?_
     by_cases hc4 : pw < (if p0 < 0 then p0 else (-p0))
     ·
      refine oS (fun _ q => XS.icmpNo X2.here hx rfl (hb hby (d21 18)) rfl (Jvm.Free.XT.ii_le_f hc4) q) ?_
      show OF _ _ _ _ (T2.setTop (mkF m 27 _ _))
      refine oS (fun _ q => XS.iloadN X2.here hx rfl (hb hby (d21 19)) rfl (XS.iloadN X2.here hx rfl (hb hby (d21 20)) rfl (XS.iadd X2.here hx rfl (hb hby (d21 21)) rfl q))) ?_
      obtain ⟨fs, hr, hrun, hended, hW, hsame⟩ := X2.leave (v := some (.int (i + (if p0 < 0 then (1 : Int32) else (0 : Int32))))) (fun h => by rw [Bd.returns] at h; cases h)
      refine ⟨_, _, retI X2 hx Bd.returns (hb hby (d21 22)) hr, hrun, hended, _, _, rfl, ?_, ⟨_, rfl⟩, hW, hsame.mono (by decide) (by decide)⟩
      show Q_rm_ssI Z p0 h0 n0 _ T2.heap _
      rw [e2]
      refine ⟨?_, N2, rfl⟩
      exact congrArg (fun q => some (Value.int (q + (if p0 < 0 then (1 : Int32) else (0 : Int32))))) (own_s2I hs hc3 hc4)
     ·
      refine oS (fun _ q => XS.icmpYes X2.here hx rfl (pc0 := 24) (pc' := 31) rfl (hb hby (d21 18)) rfl (Jvm.Free.XT.ii_le_t hc4) (by decide) (by decide) q) ?_
      show OF _ _ _ _ (T2.setTop (mkF m 31 _ _))
      refine oS (fun _ q => XS.bipush X2.here hx rfl (hb hby (d21 23)) (XS.iloadN X2.here hx rfl (hb hby (d21 24)) rfl (XS.imul X2.here hx rfl (hb hby (d21 25)) rfl (XS.istoreN X2.here hx rfl (hb hby (d21 26)) rfl (l' := #[vi (if p0 < 0 then p0 else (-p0)), vi (if p0 < 0 then (1 : Int32) else (0 : Int32)), vi ((10 : Int32) * pw), vi i]) rfl (XS.iinc X2.here hx rfl (hb hby (d21 27)) rfl (l' := #[vi (if p0 < 0 then p0 else (-p0)), vi (if p0 < 0 then (1 : Int32) else (0 : Int32)), vi ((10 : Int32) * pw), vi (i + 1)]) rfl (XS.goto X2.here hx rfl (pc0 := 39) (pc' := 16) rfl (hb hby (d21 28)) (by decide) (by decide) q)))))) ?_
      show OF _ _ _ _ (T2.setTop (mkF m 16 #[vi (if p0 < 0 then p0 else (-p0)), vi (if p0 < 0 then (1 : Int32) else (0 : Int32)), vi ((10 : Int32) * pw), vi (i + 1)] []))
      exact ih ((i + 1)) (((10 : Int32) * pw)) _ _ (own_s1I hs hc3 hc4) (own_sdec hc3 (Int.le_trans (by decide) hs.1) hfu) X2 N2 e2
    ·
     refine oS (fun _ q => XS.icmpYes X2.here hx rfl (pc0 := 19) (pc' := 42) rfl (hb hby (d21 15)) rfl (Jvm.Free.XT.ii_ge_t hc3) (by decide) (by decide) q) ?_
     show OF _ _ _ _ (T2.setTop (mkF m 42 _ _))
     refine oS (fun _ q => XS.bipush X2.here hx rfl (hb hby (d21 29)) (XS.iloadN X2.here hx rfl (hb hby (d21 30)) rfl (XS.iadd X2.here hx rfl (hb hby (d21 31)) rfl q))) ?_
     obtain ⟨fs, hr, hrun, hended, hW, hsame⟩ := X2.leave (v := some (.int ((10 : Int32) + (if p0 < 0 then (1 : Int32) else (0 : Int32))))) (fun h => by rw [Bd.returns] at h; cases h)
     refine ⟨_, _, retI X2 hx Bd.returns (hb hby (d21 32)) hr, hrun, hended, _, _, rfl, ?_, ⟨_, rfl⟩, hW, hsame.mono (by decide) (by decide)⟩
     show Q_rm_ssI Z p0 h0 n0 _ T2.heap _
     rw [e2]
     refine ⟨?_, N2, rfl⟩
     exact congrArg (fun q => some (Value.int (q + (if p0 < 0 then (1 : Int32) else (0 : Int32))))) (own_s3I hs hc3)
  exact H2 _ ((1 : Int32)) ((-10 : Int32)) _ _ (own_s0I p0) (Nat.lt_succ_self _) X1 N1 e1
def own_max (p0 : Int32) (p1 : Int32) : Int32 := if p0 < p1 then p1 else p0
abbrev C44 := jdk_29_method_65_code
def L44 : List (Nat × Instr × Nat) := [(0, .iload_n 0, 1), (1, .iload_n 1, 1), (2, .if_icmp .lt 7, 3), (5, .iload_n 0, 1), (6, .goto 4, 3), (9, .iload_n 1, 1), (10, .ireturn, 1)]
theorem d44 : ∀ i : Fin 7, decode C44 (L44.get i).1 = .ok (L44.get i).2 := by decide +kernel
theorem ef_rm_max (m : MethodId) (p0 : Int32) (p1 : Int32) : entryFrame m #[(.int p0), (.int p1)] 2 = mkF m 0 #[.val (.int p0), .val (.int p1)] [] := by first | (simp [entryFrame, mkF, argsToLocals, Value.category]; done) | rfl
def Q_rm_max (Z : State) (p0 : Int32) (p1 : Int32) (h0 : Heap) (n0 : Nat) (v : Option Value) (h : Heap) (L : List Loc) : Prop := v = some (.int (own_max p0 p1)) ∧ Fr n0 L ∧ h = h0
set_option maxRecDepth 65536 in
set_option maxHeartbeats 40000000 in
theorem rm_max (l : Launch) (Z : State) (av0 : Array Value) (hw : ∀ d ∈ tables_1, d.before av0 Z = true) (ws : List Jvm.Cond) (p0 : Int32) (p1 : Int32) (h0 : Heap) (n0 : Nat) (Z0 : n0 ≤ h0.size) :
    own_MF l Z h0 yM6 (Jvm.Cond.code yM6 jdk_29_method_65_code 2 (some .int) :: ws) ({ frames := 0, cells := 0, slots := 0, locals := 0 } : Room) #[(.int p0), (.int p1)] (Q_rm_max Z p0 p1 h0 n0) := by
  refine own_ent (own := "java/lang/Math") (Jvm.Free.JP.mathPlain rfl (by decide +kernel)) rfl ?_
  intro p e s m below meth c s₁ Bd hx hby hml hZ hh hown hnm X0 e0
  have N0 := Fr.nil n0
  have kp0 : Keep h0 h0 [] := Keep.refl _ _
  refine oS (fun _ q => castTop (ef_rm_max m p0 p1) q) ?_
  show OF _ _ _ _ (s₁.setTop (mkF m 0 #[vi p0, vi p1] []))
  refine oS (fun _ q => XS.iloadN X0.here hx rfl (hb hby (d44 0)) rfl (XS.iloadN X0.here hx rfl (hb hby (d44 1)) rfl q)) ?_
  by_cases hc1 : p0 < p1
  ·
   refine oS (fun _ q => XS.icmpYes X0.here hx rfl (pc0 := 2) (pc' := 9) rfl (hb hby (d44 2)) rfl (Jvm.Free.XT.ii_lt_t hc1) (by decide) (by decide) q) ?_
   show OF _ _ _ _ (s₁.setTop (mkF m 9 _ _))
   refine oS (fun _ q => XS.iloadN X0.here hx rfl (hb hby (d44 5)) rfl q) ?_
   obtain ⟨fs, hr, hrun, hended, hW, hsame⟩ := X0.leave (v := some (.int p1)) (fun h => by rw [Bd.returns] at h; cases h)
   refine ⟨_, _, retI X0 hx Bd.returns (hb hby (d44 6)) hr, hrun, hended, _, _, rfl, ?_, ⟨_, rfl⟩, hW, hsame.mono (by decide) (by decide)⟩
   show Q_rm_max Z p0 p1 h0 n0 _ s₁.heap _
   rw [e0]
   refine ⟨?_, N0, rfl⟩
   unfold own_max
   rw [if_pos hc1]
  ·
   refine oS (fun _ q => XS.icmpNo X0.here hx rfl (hb hby (d44 2)) rfl (Jvm.Free.XT.ii_lt_f hc1) q) ?_
   show OF _ _ _ _ (s₁.setTop (mkF m 5 _ _))
   refine oS (fun _ q => XS.iloadN X0.here hx rfl (hb hby (d44 3)) rfl (XS.goto X0.here hx rfl (pc0 := 6) (pc' := 10) rfl (hb hby (d44 4)) (by decide) (by decide) q)) ?_
   obtain ⟨fs, hr, hrun, hended, hW, hsame⟩ := X0.leave (v := some (.int p0)) (fun h => by rw [Bd.returns] at h; cases h)
   refine ⟨_, _, retI X0 hx Bd.returns (hb hby (d44 6)) hr, hrun, hended, _, _, rfl, ?_, ⟨_, rfl⟩, hW, hsame.mono (by decide) (by decide)⟩
   show Q_rm_max Z p0 p1 h0 n0 _ s₁.heap _
   rw [e0]
   refine ⟨?_, N0, rfl⟩
   unfold own_max
   rw [if_neg hc1]
theorem own_nl3 {p : Int32} (h : p.toInt ≤ 18) : (16 : Int32) + own_max p (18 : Int32) = 34 := by
  have e : own_max p (18 : Int32) = 18 := by
    unfold own_max; split
    · rfl
    · rename_i q; have r : (18 : Int32).toInt = 18 := rfl; rw [Int32.lt_iff_toInt_lt] at q; rw [← Int32.toInt_inj]; omega
  rw [e]; decide
theorem own_nl1 {p : Int32} (h : p.toInt ≤ 18) : (0 : Int32) < ((16 : Int32) + own_max p (18 : Int32)) := by rw [own_nl3 h]; decide
theorem own_nl2 {p : Int32} (h : p.toInt ≤ 18) : ¬ (2147483639 : Int32) < ((16 : Int32) + own_max p (18 : Int32)) := by rw [own_nl3 h]; decide
theorem own_sh0 (p : Int32) : (p <<< ((0 : Int32) &&& 31)) = p := by
  have a := c_ishl p (0 : Int32) 0 (by decide +kernel); have a' := rng32 (p <<< ((0 : Int32) &&& 31)); have b := rng32 p; rw [← Int32.toInt_inj]; omega
theorem own_sr0 (p : Int32) : (p >>> ((0 : Int32) &&& 31)) = p := by
  have a := c_ishr p (0 : Int32) 0 (by decide +kernel); rw [← Int32.toInt_inj]; omega
theorem own_nc {p : Int32} (h : 16 < p.toInt ∧ p.toInt ≤ 34) : ((p <<< ((0 : Int32) &&& 31)) - 16).toInt ≤ 18 := by
  rw [own_sh0]; have a := c_isub p (16 : Int32); have a' := rng32 (p - 16); have r : (16 : Int32).toInt = 16 := rfl; omega
theorem pd_1 : parseMethodDescriptor "(II)I" = some ⟨[.int, .int], some .int⟩ := by decide +kernel
abbrev C43 := jdk_48_method_27_code
def L43 : List (Nat × Instr × Nat) := [(0, .iload_n 0, 1), (1, .iload_n 1, 1), (2, .iload_n 2, 1), (3, .invokestatic 194, 3), (6, .iadd, 1), (7, .istore_n 3, 1), (8, .iconst 0, 1), (9, .iload_n 3, 1), (10, .if_icmp .ge 11, 3), (13, .iload_n 3, 1), (14, .ldc 200, 2), (16, .if_icmp .gt 5, 3), (19, .iload_n 3, 1), (20, .ireturn, 1)]
theorem d43 : ∀ i : Fin 14, decode C43 (L43.get i).1 = .ok (L43.get i).2 := by decide +kernel
theorem pn_5 : plainName "jdk/internal/util/ArraysSupport" = true := by first | (simp [plainName, overriddenIn]; done) | decide +kernel
theorem ef_rm_nl (m : MethodId) (p1 : Int32) : entryFrame m #[(.int 16), (.int p1), (.int 18)] 4 = mkF m 0 #[.val (.int 16), .val (.int p1), .val (.int 18), .unset] [] := by first | (simp [entryFrame, mkF, argsToLocals, Value.category]; done) | rfl
def Q_rm_nl (Z : State) (p1 : Int32) (h0 : Heap) (n0 : Nat) (v : Option Value) (h : Heap) (L : List Loc) : Prop := v = some (.int 34) ∧ Fr n0 L ∧ h = h0
set_option maxRecDepth 65536 in
set_option maxHeartbeats 40000000 in
theorem rm_nl (l : Launch) (Z : State) (av0 : Array Value) (hw : ∀ d ∈ tables_1, d.before av0 Z = true) (ws : List Jvm.Cond) (p1 : Int32) (h0 : Heap) (n0 : Nat) (Z0 : n0 ≤ h0.size) (hg : p1.toInt ≤ 18) :
    own_MF l Z h0 yM7 (Jvm.Cond.code yM7 jdk_48_method_27_code 4 (some .int) :: ws) ({ frames := 1, cells := 0, slots := 0, locals := 14 } : Room) #[(.int 16), (.int p1), (.int 18)] (Q_rm_nl Z p1 h0 n0) := by
  refine own_ent (own := "jdk/internal/util/ArraysSupport") (plainFor_of_name pn_5) rfl ?_
  intro p e s m below meth c s₁ Bd hx hby hml hZ hh hown hnm X0 e0
  have N0 := Fr.nil n0
  have kp0 : Keep h0 h0 [] := Keep.refl _ _
  refine oS (fun _ q => castTop (ef_rm_nl m p1) q) ?_
  show OF _ _ _ _ (s₁.setTop (mkF m 0 #[vi 16, vi p1, vi 18, .unset] []))
  refine oS (fun _ q => XS.iloadN X0.here hx rfl (hb hby (d43 0)) rfl (XS.iloadN X0.here hx rfl (hb hby (d43 1)) rfl (XS.iloadN X0.here hx rfl (hb hby (d43 2)) rfl q))) ?_
  obtain ⟨_, _, ⟨T1, L1, k1, n1⟩, -, X1, ⟨Lc1, hQ1, l1, y1, z1⟩, st1⟩ := Jvm.LawKit.callS X0 hx (y := yM6) hown (mvT hZ (w_ hw 243 rfl)) (mvT hZ (w_ hw 244 rfl)) (mvT hZ (w_ hw 194 rfl)) (mvT hZ (w_ hw 245 rfl)) (by decide) (backOf (W := 1) (rm_max l Z av0 hw [] p1 (18 : Int32) h0 n0 (Nat.le_trans Z0 kp0.1) ) hZ (w_ hw 245 rfl) (w_ hw 194 rfl) (by decide) (by decide)) (g := (mkF m 3 #[vi 16, vi p1, vi 18, .unset] [(.int 18), (.int p1), (.int 16)])) rfl (by rw [hml]; rfl) (argsL := [(.int p1), (.int 18)]) (rest := [(.int 16)]) (lenOf pd_1 rfl) rfl (by show 2 * 0 + _ ≤ _; exact Nat.le_of_eq rfl) (hb hby (d43 3)) (fun _ _ => ⟨rfl, e0, (by decide : 0 + 0 ≤ _), (by decide : 0 + 0 ≤ _)⟩)
  dsimp only [Pt.U, Pt.locs, Pt.cells, Pt.slots] at X1 l1 y1 z1 st1 hQ1
  subst l1 y1 z1
  obtain ⟨rfl, N1q, he1⟩ := hQ1
  have N1 := Fr.app N0 N1q
  refine oS st1 ?_
  show OF _ _ _ _ (T1.setTop (mkF m 6 _ _))
  refine oS (fun _ q => XS.iadd X1.here hx rfl (hb hby (d43 4)) rfl (XS.istoreN X1.here hx rfl (hb hby (d43 5)) rfl (l' := #[vi 16, vi p1, vi 18, vi ((16 : Int32) + (own_max p1 (18 : Int32)))]) rfl (XS.iconst X1.here hx rfl (hb hby (d43 6)) (XS.iloadN X1.here hx rfl (hb hby (d43 7)) rfl (XS.icmpNo X1.here hx rfl (hb hby (d43 8)) rfl (Jvm.Free.XT.ii_ge_f (own_nl1 hg)) q))))) ?_
  show OF _ _ _ _ (T1.setTop (mkF m 13 _ _))
  refine oS (fun _ q => XS.iloadN X1.here hx rfl (hb hby (d43 9)) rfl q) ?_
  refine oS (X1.ldcInt hx hown (mvT hZ (w_ hw 246 rfl)) (g := (mkF m 14 #[vi 16, vi p1, vi 18, vi ((16 : Int32) + (own_max p1 (18 : Int32)))] [(.int ((16 : Int32) + (own_max p1 (18 : Int32))))])) rfl (hb hby (d43 10))) ?_
  show OF _ _ _ _ (T1.setTop (mkF m 16 _ _))
  refine oS (fun _ q => XS.icmpNo X1.here hx rfl (hb hby (d43 11)) rfl (Jvm.Free.XT.ii_gt_f (own_nl2 hg)) q) ?_
  show OF _ _ _ _ (T1.setTop (mkF m 19 _ _))
  refine oS (fun _ q => XS.iloadN X1.here hx rfl (hb hby (d43 12)) rfl q) ?_
  show OF _ _ _ _ (T1.setTop (mkF m 20 #[vi 16, vi p1, vi 18, vi ((16 : Int32) + (own_max p1 (18 : Int32)))] [(.int ((16 : Int32) + (own_max p1 (18 : Int32))))]))
  obtain ⟨fs, hr, hrun, hended, hW, hsame⟩ := X1.leave (v := some (.int ((16 : Int32) + (own_max p1 (18 : Int32))))) (fun h => by rw [Bd.returns] at h; cases h)
  refine ⟨_, _, retI X1 hx Bd.returns (hb hby (d43 13)) hr, hrun, hended, _, _, rfl, ?_, ⟨_, rfl⟩, hW, hsame.mono (by decide) (by decide)⟩
  show Q_rm_nl Z p1 h0 n0 _ T1.heap _
  rw [he1]
  refine ⟨?_, N1, rfl⟩
  exact congrArg (fun q => some (Value.int q)) (own_nl3 hg)
theorem pd_2 : parseMethodDescriptor "(III)I" = some ⟨[.int, .int, .int], some .int⟩ := by decide +kernel
abbrev C42 := jdk_68_method_10_code
def L42 : List (Nat × Instr × Nat) := [(0, .aload_n 0, 1), (1, .getfield 15, 3), (4, .arraylength, 1), (5, .istore_n 2, 1), (6, .iload_n 1, 1), (7, .aload_n 0, 1), (8, .getfield 22, 3), (11, .ishl, 1), (12, .istore_n 3, 1), (13, .iload_n 3, 1), (14, .iload_n 2, 1), (15, .isub, 1), (16, .istore 4, 2), (18, .iload_n 2, 1), (19, .iload 4, 2), (21, .iload_n 2, 1), (22, .iconst 2, 1), (23, .aload_n 0, 1), (24, .getfield 22, 3), (27, .ishl, 1), (28, .iadd, 1), (29, .invokestatic 114, 3), (32, .istore 5, 2), (34, .iload 5, 2), (36, .ldc 39, 2), (38, .if_icmp .ne 13, 3), (51, .iload 5, 2), (53, .aload_n 0, 1), (54, .getfield 22, 3), (57, .ishr, 1), (58, .ireturn, 1)]
theorem d42 : ∀ i : Fin 31, decode C42 (L42.get i).1 = .ok (L42.get i).2 := by decide +kernel
theorem ef_rm_nc (m : MethodId) (a0 : Addr) (p1 : Int32) : entryFrame m #[(.ref a0), (.int p1)] 6 = mkF m 0 #[.val (.ref a0), .val (.int p1), .unset, .unset, .unset, .unset] [] := by first | (simp [entryFrame, mkF, argsToLocals, Value.category]; done) | rfl
def Q_rm_nc (Z : State) (a0 : Addr) (p1 : Int32) (b0 : Addr) (k_b0 : ClassId) (f0 : Nat → Int32) (h0 : Heap) (n0 : Nat) (v : Option Value) (h : Heap) (L : List Loc) : Prop := v = some (.int 34) ∧ Fr n0 L ∧ h = h0
set_option maxRecDepth 65536 in
set_option maxHeartbeats 40000000 in
theorem rm_nc (l : Launch) (Z : State) (av0 : Array Value) (hw : ∀ d ∈ tables_1, d.before av0 Z = true) (ws : List Jvm.Cond) (a0 : Addr) (p1 : Int32) (b0 : Addr) (k_b0 : ClassId) (f0 : Nat → Int32) (h0 : Heap) (n0 : Nat) (Z0 : n0 ≤ h0.size) (X_a0 : Exa Z h0 a0 "java/lang/StringBuilder") (F_value_a0 : Fld Z h0 a0 "java/lang/AbstractStringBuilder" "value" "[B" (.ref b0)) (F_coder_a0 : Fld Z h0 a0 "java/lang/AbstractStringBuilder" "coder" "B" (.int 0)) (V_b0 : Arv Z h0 b0 k_b0 .byte (16 : Int32) (own_ml (16 : Int32) f0) (.int 0)) (X_b0 : Exa Z h0 b0 "[B") (hp : 16 < p1.toInt ∧ p1.toInt ≤ 34) :
    own_MF l Z h0 yM8 (Jvm.Cond.code yM8 jdk_68_method_10_code 6 (some .int) :: ws) ({ frames := 2, cells := 0, slots := 0, locals := 29 } : Room) #[(.ref a0), (.int p1)] (Q_rm_nc Z a0 p1 b0 k_b0 f0 h0 n0) := by
  refine own_ent (own := "java/lang/AbstractStringBuilder") (plainFor_of_name pn_1) rfl ?_
  intro p e s m below meth c s₁ Bd hx hby hml hZ hh hown hnm X0 e0
  have N0 := Fr.nil n0
  have kp0 : Keep h0 h0 [] := Keep.refl _ _
  refine oS (fun _ q => castTop (ef_rm_nc m a0 p1) q) ?_
  show OF _ _ _ _ (s₁.setTop (mkF m 0 #[vr a0, vi p1, .unset, .unset, .unset, .unset] []))
  refine oS (fun _ q => XS.aloadN X0.here hx rfl (hb hby (d42 0)) rfl rfl q) ?_
  obtain ⟨T1, X1, e1, st1⟩ := getF X0 hx hZ hown (host := "") (Or.inl (w_ hw 53 rfl)) Via.refl e0 F_value_a0 (g := (mkF m 1 #[vr a0, vi p1, .unset, .unset, .unset, .unset] [(.ref a0)])) rfl rfl (hb hby (d42 1))
  refine oS st1 ?_
  show OF _ _ _ _ (T1.setTop (mkF m 4 _ _))
  have Vo2 : Arv Z h0 b0 k_b0 .byte (16 : Int32) (own_ml (16 : Int32) f0) (.int 0) := V_b0
  obtain ⟨cl2, Ar2, qa2, Sa2, Na2, Ha2, Ga2⟩ := id Vo2
  refine oS (X1.arraylength hx (by rw [e1]; exact Ar2.1) (State.isArrayOf_alike (hZ).alike Ar2.2.1) (g := (mkF m 4 #[vr a0, vi p1, .unset, .unset, .unset, .unset] [(.ref b0)])) rfl rfl (hb hby (d42 2))) ?_
  rw [len_of Sa2 Na2]
  show OF _ _ _ _ (T1.setTop (mkF m 5 _ _))
  refine oS (fun _ q => XS.istoreN X1.here hx rfl (hb hby (d42 3)) rfl (l' := #[vr a0, vi p1, vi 16, .unset, .unset, .unset]) rfl (XS.iloadN X1.here hx rfl (hb hby (d42 4)) rfl (XS.aloadN X1.here hx rfl (hb hby (d42 5)) rfl rfl q))) ?_
  obtain ⟨T3, X3, e3, st3⟩ := getF X1 hx hZ hown (host := "") (Or.inl (w_ hw 55 rfl)) Via.refl e1 F_coder_a0 (g := (mkF m 8 #[vr a0, vi p1, vi 16, .unset, .unset, .unset] [(.ref a0), (.int p1)])) rfl rfl (hb hby (d42 6))
  refine oS st3 ?_
  show OF _ _ _ _ (T3.setTop (mkF m 11 _ _))
  refine oS (fun _ q => XS.ishl X3.here hx rfl (hb hby (d42 7)) rfl (XS.istoreN X3.here hx rfl (hb hby (d42 8)) rfl (l' := #[vr a0, vi p1, vi 16, vi (p1 <<< ((0 : Int32) &&& 31)), .unset, .unset]) rfl (XS.iloadN X3.here hx rfl (hb hby (d42 9)) rfl (XS.iloadN X3.here hx rfl (hb hby (d42 10)) rfl (XS.isub X3.here hx rfl (hb hby (d42 11)) rfl (XS.istore X3.here hx rfl (hb hby (d42 12)) rfl (l' := #[vr a0, vi p1, vi 16, vi (p1 <<< ((0 : Int32) &&& 31)), vi ((p1 <<< ((0 : Int32) &&& 31)) - 16), .unset]) rfl q)))))) ?_
  show OF _ _ _ _ (T3.setTop (mkF m 18 #[vr a0, vi p1, vi 16, vi (p1 <<< ((0 : Int32) &&& 31)), vi ((p1 <<< ((0 : Int32) &&& 31)) - 16), .unset] []))
  refine oS (fun _ q => XS.iloadN X3.here hx rfl (hb hby (d42 13)) rfl (XS.iload X3.here hx rfl (hb hby (d42 14)) rfl (XS.iloadN X3.here hx rfl (hb hby (d42 15)) rfl (XS.iconst X3.here hx rfl (hb hby (d42 16)) (XS.aloadN X3.here hx rfl (hb hby (d42 17)) rfl rfl q))))) ?_
  obtain ⟨T4, X4, e4, st4⟩ := getF X3 hx hZ hown (host := "") (Or.inl (w_ hw 55 rfl)) Via.refl e3 F_coder_a0 (g := (mkF m 24 #[vr a0, vi p1, vi 16, vi (p1 <<< ((0 : Int32) &&& 31)), vi ((p1 <<< ((0 : Int32) &&& 31)) - 16), .unset] [(.ref a0), (.int 2), (.int 16), (.int ((p1 <<< ((0 : Int32) &&& 31)) - 16)), (.int 16)])) rfl rfl (hb hby (d42 18))
  refine oS st4 ?_
  show OF _ _ _ _ (T4.setTop (mkF m 27 _ _))
  refine oS (fun _ q => XS.ishl X4.here hx rfl (hb hby (d42 19)) rfl (XS.iadd X4.here hx rfl (hb hby (d42 20)) rfl q)) ?_
  obtain ⟨_, _, ⟨T5, L5, k5, n5⟩, -, X5, ⟨Lc5, hQ5, l5, y5, z5⟩, st5⟩ := Jvm.LawKit.callS X4 hx (y := yM7) hown (mvT hZ (w_ hw 239 rfl)) (mvT hZ (w_ hw 240 rfl)) (mvT hZ (w_ hw 241 rfl)) (mvT hZ (w_ hw 242 rfl)) (by decide) (backOf (W := 0) (rm_nl l Z av0 hw [] ((p1 <<< ((0 : Int32) &&& 31)) - 16) h0 n0 (Nat.le_trans Z0 kp0.1) (own_nc hp)) hZ (w_ hw 242 rfl) (w_ hw 241 rfl) (by decide) (by decide)) (g := (mkF m 29 #[vr a0, vi p1, vi 16, vi (p1 <<< ((0 : Int32) &&& 31)), vi ((p1 <<< ((0 : Int32) &&& 31)) - 16), .unset] [(.int ((16 : Int32) + ((2 : Int32) <<< ((0 : Int32) &&& 31)))), (.int ((p1 <<< ((0 : Int32) &&& 31)) - 16)), (.int 16)])) rfl (by rw [hml]; rfl) (argsL := [(.int 16), (.int ((p1 <<< ((0 : Int32) &&& 31)) - 16)), (.int ((16 : Int32) + ((2 : Int32) <<< ((0 : Int32) &&& 31))))]) (rest := []) (lenOf pd_2 rfl) rfl (by show 2 * 0 + _ ≤ _; exact Nat.le_of_eq rfl) (hb hby (d42 21)) (fun _ _ => ⟨rfl, e4, (by decide : 0 + 0 ≤ _), (by decide : 0 + 0 ≤ _)⟩)
  dsimp only [Pt.U, Pt.locs, Pt.cells, Pt.slots] at X5 l5 y5 z5 st5 hQ5
  subst l5 y5 z5
  obtain ⟨rfl, N5q, he5⟩ := hQ5
  have N5 := Fr.app N0 N5q
  refine oS st5 ?_
  show OF _ _ _ _ (T5.setTop (mkF m 32 _ _))
  refine oS (fun _ q => XS.istore X5.here hx rfl (hb hby (d42 22)) rfl (l' := #[vr a0, vi p1, vi 16, vi (p1 <<< ((0 : Int32) &&& 31)), vi ((p1 <<< ((0 : Int32) &&& 31)) - 16), vi 34]) rfl (XS.iload X5.here hx rfl (hb hby (d42 23)) rfl q)) ?_
  refine oS (X5.ldcInt hx hown (mvT hZ (w_ hw 247 rfl)) (g := (mkF m 36 #[vr a0, vi p1, vi 16, vi (p1 <<< ((0 : Int32) &&& 31)), vi ((p1 <<< ((0 : Int32) &&& 31)) - 16), vi 34] [(.int 34)])) rfl (hb hby (d42 24))) ?_
  show OF _ _ _ _ (T5.setTop (mkF m 38 _ _))
  refine oS (fun _ q => XS.icmpYes X5.here hx rfl (pc0 := 38) (pc' := 51) rfl (hb hby (d42 25)) rfl (Jvm.Free.XT.ii_ne_t (by decide : ¬ ((34 : Int32) = (2147483647 : Int32)))) (by decide) (by decide) q) ?_
  show OF _ _ _ _ (T5.setTop (mkF m 51 #[vr a0, vi p1, vi 16, vi (p1 <<< ((0 : Int32) &&& 31)), vi ((p1 <<< ((0 : Int32) &&& 31)) - 16), vi 34] []))
  refine oS (fun _ q => XS.iload X5.here hx rfl (hb hby (d42 26)) rfl (XS.aloadN X5.here hx rfl (hb hby (d42 27)) rfl rfl q)) ?_
  obtain ⟨T6, X6, e6, st6⟩ := getF X5 hx hZ hown (host := "") (Or.inl (w_ hw 55 rfl)) Via.refl he5 F_coder_a0 (g := (mkF m 54 #[vr a0, vi p1, vi 16, vi (p1 <<< ((0 : Int32) &&& 31)), vi ((p1 <<< ((0 : Int32) &&& 31)) - 16), vi 34] [(.ref a0), (.int 34)])) rfl rfl (hb hby (d42 28))
  refine oS st6 ?_
  show OF _ _ _ _ (T6.setTop (mkF m 57 _ _))
  refine oS (fun _ q => XS.ishr X6.here hx rfl (hb hby (d42 29)) rfl q) ?_
  obtain ⟨fs, hr, hrun, hended, hW, hsame⟩ := X6.leave (v := some (.int ((34 : Int32) >>> ((0 : Int32) &&& 31)))) (fun h => by rw [Bd.returns] at h; cases h)
  refine ⟨_, _, retI X6 hx Bd.returns (hb hby (d42 30)) hr, hrun, hended, _, _, rfl, ?_, ⟨_, rfl⟩, hW, hsame.mono (by decide) (by decide)⟩
  show Q_rm_nc Z a0 p1 b0 k_b0 f0 h0 n0 _ T6.heap _
  rw [e6]
  refine ⟨?_, N5, rfl⟩
  exact congrArg (fun q => some (Value.int q)) (by decide)
abbrev C32 := jdk_29_method_69_code
def L32 : List (Nat × Instr × Nat) := [(0, .iload_n 0, 1), (1, .iload_n 1, 1), (2, .if_icmp .gt 7, 3), (5, .iload_n 0, 1), (6, .goto 4, 3), (9, .iload_n 1, 1), (10, .ireturn, 1)]
theorem d32 : ∀ i : Fin 7, decode C32 (L32.get i).1 = .ok (L32.get i).2 := by decide +kernel
theorem ef_rm_minA (m : MethodId) (p0 : Int32) (p1 : Int32) : entryFrame m #[(.int p0), (.int p1)] 2 = mkF m 0 #[.val (.int p0), .val (.int p1)] [] := by first | (simp [entryFrame, mkF, argsToLocals, Value.category]; done) | rfl
def Q_rm_minA (Z : State) (p0 : Int32) (p1 : Int32) (h0 : Heap) (n0 : Nat) (v : Option Value) (h : Heap) (L : List Loc) : Prop := v = some (.int p1) ∧ Fr n0 L ∧ h = h0
set_option maxRecDepth 65536 in
set_option maxHeartbeats 40000000 in
theorem rm_minA (l : Launch) (Z : State) (av0 : Array Value) (hw : ∀ d ∈ tables_1, d.before av0 Z = true) (ws : List Jvm.Cond) (p0 : Int32) (p1 : Int32) (h0 : Heap) (n0 : Nat) (Z0 : n0 ≤ h0.size) (hc0 : p1 < p0) :
    own_MF l Z h0 yM9 (Jvm.Cond.code yM9 jdk_29_method_69_code 2 (some .int) :: ws) ({ frames := 0, cells := 0, slots := 0, locals := 0 } : Room) #[(.int p0), (.int p1)] (Q_rm_minA Z p0 p1 h0 n0) := by
  refine own_ent (own := "java/lang/Math") (Jvm.Free.JP.mathPlain rfl (by decide +kernel)) rfl ?_
  intro p e s m below meth c s₁ Bd hx hby hml hZ hh hown hnm X0 e0
  have N0 := Fr.nil n0
  have kp0 : Keep h0 h0 [] := Keep.refl _ _
  refine oS (fun _ q => castTop (ef_rm_minA m p0 p1) q) ?_
  show OF _ _ _ _ (s₁.setTop (mkF m 0 #[vi p0, vi p1] []))
  refine oS (fun _ q => XS.iloadN X0.here hx rfl (hb hby (d32 0)) rfl (XS.iloadN X0.here hx rfl (hb hby (d32 1)) rfl (XS.icmpYes X0.here hx rfl (pc0 := 2) (pc' := 9) rfl (hb hby (d32 2)) rfl (Jvm.Free.XT.ii_gt_t hc0) (by decide) (by decide) q))) ?_
  show OF _ _ _ _ (s₁.setTop (mkF m 9 _ _))
  refine oS (fun _ q => XS.iloadN X0.here hx rfl (hb hby (d32 5)) rfl q) ?_
  obtain ⟨fs, hr, hrun, hended, hW, hsame⟩ := X0.leave (v := some (.int p1)) (fun h => by rw [Bd.returns] at h; cases h)
  refine ⟨_, _, retI X0 hx Bd.returns (hb hby (d32 6)) hr, hrun, hended, _, _, rfl, ?_, ⟨_, rfl⟩, hW, hsame.mono (by decide) (by decide)⟩
  show Q_rm_minA Z p0 p1 h0 n0 _ s₁.heap _
  rw [e0]
  exact ⟨rfl, N0, rfl⟩
theorem ef_rm_minB (m : MethodId) (p0 : Int32) (p1 : Int32) : entryFrame m #[(.int p0), (.int p1)] 2 = mkF m 0 #[.val (.int p0), .val (.int p1)] [] := by first | (simp [entryFrame, mkF, argsToLocals, Value.category]; done) | rfl
def Q_rm_minB (Z : State) (p0 : Int32) (p1 : Int32) (h0 : Heap) (n0 : Nat) (v : Option Value) (h : Heap) (L : List Loc) : Prop := v = some (.int p0) ∧ Fr n0 L ∧ h = h0
set_option maxRecDepth 65536 in
set_option maxHeartbeats 40000000 in
theorem rm_minB (l : Launch) (Z : State) (av0 : Array Value) (hw : ∀ d ∈ tables_1, d.before av0 Z = true) (ws : List Jvm.Cond) (p0 : Int32) (p1 : Int32) (h0 : Heap) (n0 : Nat) (Z0 : n0 ≤ h0.size) (hc0 : ¬ (p1 < p0)) :
    own_MF l Z h0 yM9 (Jvm.Cond.code yM9 jdk_29_method_69_code 2 (some .int) :: ws) ({ frames := 0, cells := 0, slots := 0, locals := 0 } : Room) #[(.int p0), (.int p1)] (Q_rm_minB Z p0 p1 h0 n0) := by
  refine own_ent (own := "java/lang/Math") (Jvm.Free.JP.mathPlain rfl (by decide +kernel)) rfl ?_
  intro p e s m below meth c s₁ Bd hx hby hml hZ hh hown hnm X0 e0
  have N0 := Fr.nil n0
  have kp0 : Keep h0 h0 [] := Keep.refl _ _
  refine oS (fun _ q => castTop (ef_rm_minB m p0 p1) q) ?_
  show OF _ _ _ _ (s₁.setTop (mkF m 0 #[vi p0, vi p1] []))
  refine oS (fun _ q => XS.iloadN X0.here hx rfl (hb hby (d32 0)) rfl (XS.iloadN X0.here hx rfl (hb hby (d32 1)) rfl (XS.icmpNo X0.here hx rfl (hb hby (d32 2)) rfl (Jvm.Free.XT.ii_gt_f hc0) q))) ?_
  show OF _ _ _ _ (s₁.setTop (mkF m 5 _ _))
  refine oS (fun _ q => XS.iloadN X0.here hx rfl (hb hby (d32 3)) rfl (XS.goto X0.here hx rfl (pc0 := 6) (pc' := 10) rfl (hb hby (d32 4)) (by decide) (by decide) q)) ?_
  obtain ⟨fs, hr, hrun, hended, hW, hsame⟩ := X0.leave (v := some (.int p0)) (fun h => by rw [Bd.returns] at h; cases h)
  refine ⟨_, _, retI X0 hx Bd.returns (hb hby (d32 6)) hr, hrun, hended, _, _, rfl, ?_, ⟨_, rfl⟩, hW, hsame.mono (by decide) (by decide)⟩
  show Q_rm_minB Z p0 p1 h0 n0 _ s₁.heap _
  rw [e0]
  exact ⟨rfl, N0, rfl⟩
abbrev C45 := jdk_65_method_121_code
def L45 : List (Nat × Instr × Nat) := [(0, .iload_n 1, 1), (1, .aload_n 0, 1), (2, .arraylength, 1), (3, .if_icmp .ne 11, 3), (14, .iload_n 1, 1), (15, .newarray .byte, 2), (17, .astore_n 2, 1), (18, .aload_n 0, 1), (19, .iconst 0, 1), (20, .aload_n 2, 1), (21, .iconst 0, 1), (22, .aload_n 0, 1), (23, .arraylength, 1), (24, .iload_n 1, 1), (25, .invokestatic 304, 3), (28, .invokestatic 150, 3), (31, .aload_n 2, 1), (32, .areturn, 1)]
theorem d45 : ∀ i : Fin 18, decode C45 (L45.get i).1 = .ok (L45.get i).2 := by decide +kernel
theorem pn_6 : plainName "java/util/Arrays" = true := by first | (simp [plainName, overriddenIn]; done) | decide +kernel
theorem ef_rm_co (m : MethodId) (a0 : Addr) : entryFrame m #[(.ref a0), (.int 34)] 3 = mkF m 0 #[.val (.ref a0), .val (.int 34), .unset] [] := by first | (simp [entryFrame, mkF, argsToLocals, Value.category]; done) | rfl
def Q_rm_co (Z : State) (a0 : Addr) (k_a0 : ClassId) (f0 : Nat → Int32) (h0 : Heap) (n0 : Nat) (v : Option Value) (h : Heap) (L : List Loc) : Prop := ∃ b2 : Addr, ∃ k2 : ClassId, v = some (.ref b2) ∧ Fr n0 L ∧ Keep h0 h [] ∧ h0.size ≤ b2 ∧ Arv Z h b2 k2 .byte (34 : Int32) (own_ml (34 : Int32) (own_cpy own_zf (0 : Int32) f0 (0 : Int32) (16 : Int32))) (.int 0) ∧ Exa Z h b2 "[B"
set_option maxRecDepth 65536 in
set_option maxHeartbeats 40000000 in
theorem rm_co (l : Launch) (Z : State) (av0 : Array Value) (hw : ∀ d ∈ tables_1, d.before av0 Z = true) (ws : List Jvm.Cond) (a0 : Addr) (k_a0 : ClassId) (f0 : Nat → Int32) (h0 : Heap) (n0 : Nat) (Z0 : n0 ≤ h0.size) (V_a0 : Arv Z h0 a0 k_a0 .byte (16 : Int32) (own_ml (16 : Int32) f0) (.int 0)) :
    own_MF l Z h0 yM10 (Jvm.Cond.code yM10 jdk_65_method_121_code 3 (some (.array .byte)) :: ws) ({ frames := 1, cells := 1, slots := 34, locals := 40 } : Room) #[(.ref a0), (.int 34)] (Q_rm_co Z a0 k_a0 f0 h0 n0) := by
  refine own_ent (own := "java/util/Arrays") (plainFor_of_name pn_6) rfl ?_
  intro p e s m below meth c s₁ Bd hx hby hml hZ hh hown hnm X0 e0
  have N0 := Fr.nil n0
  have kp0 : Keep h0 h0 [] := Keep.refl _ _
  refine oS (fun _ q => castTop (ef_rm_co m a0) q) ?_
  show OF _ _ _ _ (s₁.setTop (mkF m 0 #[vr a0, vi 34, .unset] []))
  refine oS (fun _ q => XS.iloadN X0.here hx rfl (hb hby (d45 0)) rfl (XS.aloadN X0.here hx rfl (hb hby (d45 1)) rfl rfl q)) ?_
  have Vo1 : Arv Z h0 a0 k_a0 .byte (16 : Int32) (own_ml (16 : Int32) f0) (.int 0) := V_a0
  obtain ⟨cl1, Ar1, qa1, Sa1, Na1, Ha1, Ga1⟩ := id Vo1
  refine oS (X0.arraylength hx (by rw [e0]; exact Ar1.1) (State.isArrayOf_alike (hZ).alike Ar1.2.1) (g := (mkF m 2 #[vr a0, vi 34, .unset] [(.ref a0), (.int 34)])) rfl rfl (hb hby (d45 2))) ?_
  rw [len_of Sa1 Na1]
  show OF _ _ _ _ (s₁.setTop (mkF m 3 _ _))
  refine oS (fun _ q => XS.icmpYes X0.here hx rfl (pc0 := 3) (pc' := 14) rfl (hb hby (d45 3)) rfl (Jvm.Free.XT.ii_ne_t (by decide : ¬ ((34 : Int32) = (16 : Int32)))) (by decide) (by decide) q) ?_
  show OF _ _ _ _ (s₁.setTop (mkF m 14 _ _))
  refine oS (fun _ q => XS.iloadN X0.here hx rfl (hb hby (d45 4)) rfl q) ?_
  obtain ⟨T2, h2, k2, X2, e2, E2, A2, XE2, st2⟩ := newPE X0 hx hZ (w_ hw 52 rfl) e0 (g := (mkF m 15 #[vr a0, vi 34, .unset] [(.int 34)])) rfl (hb hby (d45 5)) rfl (by decide) (cap := 34) (by decide) (by decide) (by decide) (by decide) (ad := "[B") (by decide)
  obtain ⟨b2, qe2⟩ : ∃ z, z = h0.size := ⟨_, rfl⟩
  rw [← qe2] at A2 st2 XE2
  refine oS st2 ?_
  have bi_b2 : h0.size ≤ b2 := Nat.le_of_eq qe2.symm
  have lo_b2 : h0.size ≤ b2 := Nat.le_trans kp0.1 bi_b2
  have g_b2 : n0 ≤ b2 := Nat.le_trans Z0 lo_b2
  have kp3 : Keep h0 h2 [] := kp0.ext E2
  have V2 : Arv Z h2 b2 k2 .byte (34 : Int32) (own_ml (34 : Int32) own_zf) (.int 0) := (Arv.new A2 (by decide)).pad (own_mlnew _)
  show OF _ _ _ _ (T2.setTop (mkF m 17 _ _))
  refine oS (fun _ q => XS.astoreN X2.here hx rfl (hb hby (d45 6)) rfl rfl (l' := #[vr a0, vi 34, vr b2]) rfl (XS.aloadN X2.here hx rfl (hb hby (d45 7)) rfl rfl (XS.iconst X2.here hx rfl (hb hby (d45 8)) (XS.aloadN X2.here hx rfl (hb hby (d45 9)) rfl rfl (XS.iconst X2.here hx rfl (hb hby (d45 10)) (XS.aloadN X2.here hx rfl (hb hby (d45 11)) rfl rfl q)))))) ?_
  have Vo4 : Arv Z h2 a0 k_a0 .byte (16 : Int32) (own_ml (16 : Int32) f0) (.int 0) := (V_a0.ext E2)
  obtain ⟨cl4, Ar4, qa4, Sa4, Na4, Ha4, Ga4⟩ := id Vo4
  refine oS (X2.arraylength hx (by rw [e2]; exact Ar4.1) (State.isArrayOf_alike (hZ).alike Ar4.2.1) (g := (mkF m 23 #[vr a0, vi 34, vr b2] [(.ref a0), (.int 0), (.ref b2), (.int 0), (.ref a0)])) rfl rfl (hb hby (d45 12))) ?_
  rw [len_of Sa4 Na4]
  show OF _ _ _ _ (T2.setTop (mkF m 24 #[vr a0, vi 34, vr b2] [(.int 16), (.int 0), (.ref b2), (.int 0), (.ref a0)]))
  refine oS (fun _ q => XS.iloadN X2.here hx rfl (hb hby (d45 13)) rfl q) ?_
  obtain ⟨_, _, ⟨T5, L5, k5, n5⟩, -, X5, ⟨Lc5, hQ5, l5, y5, z5⟩, st5⟩ := Jvm.LawKit.callS X2 hx (y := yM9) hown (mvT hZ (w_ hw 192 rfl)) (mvT hZ (w_ hw 193 rfl)) (mvT hZ (w_ hw 194 rfl)) (mvT hZ (w_ hw 195 rfl)) (by decide) (backOf (W := 4) (rm_minB l Z av0 hw [] (16 : Int32) (34 : Int32) h2 n0 (Nat.le_trans Z0 kp3.1) (by decide : ¬ ((34 : Int32) < (16 : Int32)))) hZ (w_ hw 195 rfl) (w_ hw 194 rfl) (by decide) (by decide)) (g := (mkF m 25 #[vr a0, vi 34, vr b2] [(.int 34), (.int 16), (.int 0), (.ref b2), (.int 0), (.ref a0)])) rfl (by rw [hml]; rfl) (argsL := [(.int 16), (.int 34)]) (rest := [(.int 0), (.ref b2), (.int 0), (.ref a0)]) (lenOf pd_1 rfl) rfl (by show 2 * 0 + _ ≤ _; exact Nat.le_of_eq rfl) (hb hby (d45 14)) (fun _ _ => ⟨rfl, e2, (by decide : 1 + 0 ≤ _), (by decide : 34 + 0 ≤ _)⟩)
  dsimp only [Pt.U, Pt.locs, Pt.cells, Pt.slots] at X5 l5 y5 z5 st5 hQ5
  subst l5 y5 z5
  obtain ⟨rfl, N5q, he5⟩ := hQ5
  have N5 := Fr.app N0 N5q
  refine oS st5 ?_
  show OF _ _ _ _ (T5.setTop (mkF m 28 _ _))
  have As6 : Arv Z h2 a0 k_a0 .byte (16 : Int32) (own_ml (16 : Int32) f0) (.int 0) := (V_a0.ext E2)
  have Bs6 : Arv Z h2 b2 k2 .byte (34 : Int32) (own_ml (34 : Int32) own_zf) (.int 0) := V2
  have hq6 : (0 : Int32).toNatClampNeg + (16 : Int32).toNatClampNeg ≤ (16 : Int32).toNatClampNeg := (by decide)
  have hr6 : (0 : Int32).toNatClampNeg + (16 : Int32).toNatClampNeg ≤ (34 : Int32).toNatClampNeg := (by decide)
  obtain ⟨T6, h6, Lc6, X6, e6, N6, K6, Vr6, st6⟩ := cpA X5 hx hZ hown (w_ hw 196 rfl) (w_ hw 137 rfl) (w_ hw 135 rfl) (w_ hw 136 rfl) he5 As6 Bs6 (Or.inl ⟨rfl, rfl⟩) (by decide) (by decide) (by decide) hq6 hr6 rfl (by rw [own_mllen]; exact hr6) N5 g_b2 (g := (mkF m 28 #[vr a0, vi 34, vr b2] [(.int 16), (.int 0), (.ref b2), (.int 0), (.ref a0)])) rfl (by rw [hml]; rfl) rfl (hb hby (d45 15)) (by decide) (W := 0) (by show 2 * 0 + _ ≤ _; exact Nat.le_of_eq rfl) (by decide +kernel)
  refine oS st6 ?_
  have kp7 : Keep h0 h6 [] := kp3.trans K6 (allS (Or.inr lo_b2) all0)
  have Vc6 : Arv Z h6 b2 k2 .byte (34 : Int32) (own_ml (34 : Int32) (own_cpy own_zf (0 : Int32) f0 (0 : Int32) (16 : Int32))) (.int 0) := by
    rw [own_mlcpy hq6 hr6] at Vr6; exact Vr6
  show OF _ _ _ _ (T6.setTop (mkF m 31 _ _))
  refine oS (fun _ q => XS.aloadN X6.here hx rfl (hb hby (d45 16)) rfl rfl q) ?_
  obtain ⟨fs, hr, hrun, hended, hW, hsame⟩ := X6.leave (v := some (.ref b2)) (fun h => by rw [Bd.returns] at h; cases h)
  refine ⟨_, _, retOut X6 hx Bd.returns rfl (Or.inr (Or.inr (Or.inr (Or.inr ⟨rfl, rfl, rfl⟩)))) (hb hby (d45 17)) hr, hrun, hended, _, _, rfl, ?_, ⟨_, rfl⟩, hW, hsame.mono (by decide) (by decide)⟩
  show Q_rm_co Z a0 k_a0 f0 h0 n0 _ T6.heap _
  rw [e6]
  exact ⟨b2, k2, rfl, N6, kp7, lo_b2, Vc6, (XE2.keep K6)⟩
abbrev C9 := jdk_68_method_9_code
def L9 : List (Nat × Instr × Nat) := [(0, .aload_n 0, 1), (1, .getfield 15, 3), (4, .arraylength, 1), (5, .aload_n 0, 1), (6, .getfield 22, 3), (9, .ishr, 1), (10, .istore_n 2, 1), (11, .iload_n 1, 1), (12, .iload_n 2, 1), (13, .isub, 1), (14, .ifCond .le 24, 3), (17, .aload_n 0, 1), (18, .aload_n 0, 1), (19, .getfield 15, 3), (22, .aload_n 0, 1), (23, .iload_n 1, 1), (24, .invokevirtual 104, 3), (27, .aload_n 0, 1), (28, .getfield 22, 3), (31, .ishl, 1), (32, .invokestatic 108, 3), (35, .putfield 15, 3), (38, .return_, 1)]
theorem d9 : ∀ i : Fin 23, decode C9 (L9.get i).1 = .ok (L9.get i).2 := by decide +kernel
theorem ef_rm_ecN (m : MethodId) (a0 : Addr) (p1 : Int32) : entryFrame m #[(.ref a0), (.int p1)] 3 = mkF m 0 #[.val (.ref a0), .val (.int p1), .unset] [] := by first | (simp [entryFrame, mkF, argsToLocals, Value.category]; done) | rfl
def Q_rm_ecN (Z : State) (a0 : Addr) (p1 : Int32) (b0 : Addr) (k_b0 : ClassId) (z0 : Int32) (f0 : Nat → Int32) (h0 : Heap) (n0 : Nat) (v : Option Value) (h : Heap) (L : List Loc) : Prop := v = none ∧ Fr n0 L ∧ h = h0
set_option maxRecDepth 65536 in
set_option maxHeartbeats 40000000 in
theorem rm_ecN (l : Launch) (Z : State) (av0 : Array Value) (hw : ∀ d ∈ tables_1, d.before av0 Z = true) (ws : List Jvm.Cond) (a0 : Addr) (p1 : Int32) (b0 : Addr) (k_b0 : ClassId) (z0 : Int32) (f0 : Nat → Int32) (h0 : Heap) (n0 : Nat) (Z0 : n0 ≤ h0.size) (X_a0 : Exa Z h0 a0 "java/lang/StringBuilder") (F_value_a0 : Fld Z h0 a0 "java/lang/AbstractStringBuilder" "value" "[B" (.ref b0)) (F_coder_a0 : Fld Z h0 a0 "java/lang/AbstractStringBuilder" "coder" "B" (.int 0)) (V_b0 : Arv Z h0 b0 k_b0 .byte z0 (own_ml z0 f0) (.int 0)) (X_b0 : Exa Z h0 b0 "[B") (hc0 : ¬ ((0 : Int32) < (p1 - (z0 >>> ((0 : Int32) &&& 31))))) :
    own_MF l Z h0 yM11 (Jvm.Cond.code yM11 jdk_68_method_9_code 3 none :: ws) ({ frames := 0, cells := 0, slots := 0, locals := 0 } : Room) #[(.ref a0), (.int p1)] (Q_rm_ecN Z a0 p1 b0 k_b0 z0 f0 h0 n0) := by
  refine own_ent (own := "java/lang/AbstractStringBuilder") (plainFor_of_name pn_1) rfl ?_
  intro p e s m below meth c s₁ Bd hx hby hml hZ hh hown hnm X0 e0
  have N0 := Fr.nil n0
  have kp0 : Keep h0 h0 [] := Keep.refl _ _
  refine oS (fun _ q => castTop (ef_rm_ecN m a0 p1) q) ?_
  show OF _ _ _ _ (s₁.setTop (mkF m 0 #[vr a0, vi p1, .unset] []))
  refine oS (fun _ q => XS.aloadN X0.here hx rfl (hb hby (d9 0)) rfl rfl q) ?_
  obtain ⟨T1, X1, e1, st1⟩ := getF X0 hx hZ hown (host := "") (Or.inl (w_ hw 53 rfl)) Via.refl e0 F_value_a0 (g := (mkF m 1 #[vr a0, vi p1, .unset] [(.ref a0)])) rfl rfl (hb hby (d9 1))
  refine oS st1 ?_
  show OF _ _ _ _ (T1.setTop (mkF m 4 _ _))
  have Vo2 : Arv Z h0 b0 k_b0 .byte z0 (own_ml z0 f0) (.int 0) := V_b0
  obtain ⟨cl2, Ar2, qa2, Sa2, Na2, Ha2, Ga2⟩ := id Vo2
  refine oS (X1.arraylength hx (by rw [e1]; exact Ar2.1) (State.isArrayOf_alike (hZ).alike Ar2.2.1) (g := (mkF m 4 #[vr a0, vi p1, .unset] [(.ref b0)])) rfl rfl (hb hby (d9 2))) ?_
  rw [len_of Sa2 Na2]
  show OF _ _ _ _ (T1.setTop (mkF m 5 _ _))
  refine oS (fun _ q => XS.aloadN X1.here hx rfl (hb hby (d9 3)) rfl rfl q) ?_
  obtain ⟨T3, X3, e3, st3⟩ := getF X1 hx hZ hown (host := "") (Or.inl (w_ hw 55 rfl)) Via.refl e1 F_coder_a0 (g := (mkF m 6 #[vr a0, vi p1, .unset] [(.ref a0), (.int z0)])) rfl rfl (hb hby (d9 4))
  refine oS st3 ?_
  show OF _ _ _ _ (T3.setTop (mkF m 9 _ _))
  refine oS (fun _ q => XS.ishr X3.here hx rfl (hb hby (d9 5)) rfl (XS.istoreN X3.here hx rfl (hb hby (d9 6)) rfl (l' := #[vr a0, vi p1, vi (z0 >>> ((0 : Int32) &&& 31))]) rfl (XS.iloadN X3.here hx rfl (hb hby (d9 7)) rfl (XS.iloadN X3.here hx rfl (hb hby (d9 8)) rfl (XS.isub X3.here hx rfl (hb hby (d9 9)) rfl (XS.ifYes X3.here hx rfl (pc0 := 14) (pc' := 38) rfl (hb hby (d9 10)) rfl (Jvm.Free.XT.i0_le_t hc0) (by decide) (by decide) q)))))) ?_
  show OF _ _ _ _ (T3.setTop (mkF m 38 _ _))
  obtain ⟨fs, hr, hrun, hended, hW, hsame⟩ := X3.leave (v := none) (fun _ => rfl)
  refine ⟨_, _, X3.returnOut hx Bd.returns (hb hby (d9 22)) hr, hrun, hended, _, _, rfl, ?_, ⟨_, rfl⟩, hW, hsame.mono (by decide) (by decide)⟩
  show Q_rm_ecN Z a0 p1 b0 k_b0 z0 f0 h0 n0 _ T3.heap _
  rw [e3]
  exact ⟨rfl, N0, rfl⟩
theorem pd_3 : parseMethodDescriptor "(I)I" = some ⟨[.int], some .int⟩ := by decide +kernel
theorem pd_4 : parseMethodDescriptor "([BI)[B" = some ⟨[(.array .byte), .int], some (.array .byte)⟩ := by decide +kernel
theorem ef_rm_ecY (m : MethodId) (a0 : Addr) (p1 : Int32) : entryFrame m #[(.ref a0), (.int p1)] 3 = mkF m 0 #[.val (.ref a0), .val (.int p1), .unset] [] := by first | (simp [entryFrame, mkF, argsToLocals, Value.category]; done) | rfl
def Q_rm_ecY (Z : State) (a0 : Addr) (p1 : Int32) (b0 : Addr) (c0 : Int32) (k_b0 : ClassId) (f0 : Nat → Int32) (h0 : Heap) (n0 : Nat) (v : Option Value) (h : Heap) (L : List Loc) : Prop := ∃ c7_0 : Addr, ∃ kc7_1 : ClassId, v = none ∧ Fr n0 L ∧ Keep h0 h [a0] ∧ h0.size ≤ c7_0 ∧ Fld Z h a0 "java/lang/AbstractStringBuilder" "value" "[B" (.ref c7_0) ∧ Fld Z h a0 "java/lang/AbstractStringBuilder" "coder" "B" (.int 0) ∧ Fld Z h a0 "java/lang/AbstractStringBuilder" "count" "I" (.int c0) ∧ Arv Z h c7_0 kc7_1 .byte (34 : Int32) (own_ml (34 : Int32) f0) (.int 0) ∧ Exa Z h c7_0 "[B"
set_option maxRecDepth 65536 in
set_option maxHeartbeats 40000000 in
theorem rm_ecY (l : Launch) (Z : State) (av0 : Array Value) (hw : ∀ d ∈ tables_1, d.before av0 Z = true) (ws : List Jvm.Cond) (a0 : Addr) (p1 : Int32) (b0 : Addr) (c0 : Int32) (k_b0 : ClassId) (f0 : Nat → Int32) (h0 : Heap) (n0 : Nat) (Z0 : n0 ≤ h0.size) (X_a0 : Exa Z h0 a0 "java/lang/StringBuilder") (F_value_a0 : Fld Z h0 a0 "java/lang/AbstractStringBuilder" "value" "[B" (.ref b0)) (F_coder_a0 : Fld Z h0 a0 "java/lang/AbstractStringBuilder" "coder" "B" (.int 0)) (F_count_a0 : Fld Z h0 a0 "java/lang/AbstractStringBuilder" "count" "I" (.int c0)) (V_b0 : Arv Z h0 b0 k_b0 .byte (16 : Int32) (own_ml (16 : Int32) f0) (.int 0)) (X_b0 : Exa Z h0 b0 "[B") (hp : 16 < p1.toInt ∧ p1.toInt ≤ 34) (hf : ∀ i, 16 ≤ i → f0 i = 0) (hc0 : (0 : Int32) < (p1 - ((16 : Int32) >>> ((0 : Int32) &&& 31)))) (g_a0 : n0 ≤ a0) :
    own_MF l Z h0 yM11 (Jvm.Cond.code yM11 jdk_68_method_9_code 3 none :: ws) ({ frames := 3, cells := 1, slots := 34, locals := 55 } : Room) #[(.ref a0), (.int p1)] (Q_rm_ecY Z a0 p1 b0 c0 k_b0 f0 h0 n0) := by
  refine own_ent (own := "java/lang/AbstractStringBuilder") (plainFor_of_name pn_1) rfl ?_
  intro p e s m below meth c s₁ Bd hx hby hml hZ hh hown hnm X0 e0
  have N0 := Fr.nil n0
  have kp0 : Keep h0 h0 [a0] := Keep.refl _ _
  refine oS (fun _ q => castTop (ef_rm_ecY m a0 p1) q) ?_
  show OF _ _ _ _ (s₁.setTop (mkF m 0 #[vr a0, vi p1, .unset] []))
  refine oS (fun _ q => XS.aloadN X0.here hx rfl (hb hby (d9 0)) rfl rfl q) ?_
  obtain ⟨T1, X1, e1, st1⟩ := getF X0 hx hZ hown (host := "") (Or.inl (w_ hw 53 rfl)) Via.refl e0 F_value_a0 (g := (mkF m 1 #[vr a0, vi p1, .unset] [(.ref a0)])) rfl rfl (hb hby (d9 1))
  refine oS st1 ?_
  show OF _ _ _ _ (T1.setTop (mkF m 4 _ _))
  have Vo2 : Arv Z h0 b0 k_b0 .byte (16 : Int32) (own_ml (16 : Int32) f0) (.int 0) := V_b0
  obtain ⟨cl2, Ar2, qa2, Sa2, Na2, Ha2, Ga2⟩ := id Vo2
  refine oS (X1.arraylength hx (by rw [e1]; exact Ar2.1) (State.isArrayOf_alike (hZ).alike Ar2.2.1) (g := (mkF m 4 #[vr a0, vi p1, .unset] [(.ref b0)])) rfl rfl (hb hby (d9 2))) ?_
  rw [len_of Sa2 Na2]
  show OF _ _ _ _ (T1.setTop (mkF m 5 _ _))
  refine oS (fun _ q => XS.aloadN X1.here hx rfl (hb hby (d9 3)) rfl rfl q) ?_
  obtain ⟨T3, X3, e3, st3⟩ := getF X1 hx hZ hown (host := "") (Or.inl (w_ hw 55 rfl)) Via.refl e1 F_coder_a0 (g := (mkF m 6 #[vr a0, vi p1, .unset] [(.ref a0), (.int 16)])) rfl rfl (hb hby (d9 4))
  refine oS st3 ?_
  show OF _ _ _ _ (T3.setTop (mkF m 9 _ _))
  refine oS (fun _ q => XS.ishr X3.here hx rfl (hb hby (d9 5)) rfl (XS.istoreN X3.here hx rfl (hb hby (d9 6)) rfl (l' := #[vr a0, vi p1, vi ((16 : Int32) >>> ((0 : Int32) &&& 31))]) rfl (XS.iloadN X3.here hx rfl (hb hby (d9 7)) rfl (XS.iloadN X3.here hx rfl (hb hby (d9 8)) rfl (XS.isub X3.here hx rfl (hb hby (d9 9)) rfl (XS.ifNo X3.here hx rfl (hb hby (d9 10)) rfl (Jvm.Free.XT.i0_le_f hc0) q)))))) ?_
  show OF _ _ _ _ (T3.setTop (mkF m 17 _ _))
  refine oS (fun _ q => XS.aloadN X3.here hx rfl (hb hby (d9 11)) rfl rfl (XS.aloadN X3.here hx rfl (hb hby (d9 12)) rfl rfl q)) ?_
  show OF _ _ _ _ (T3.setTop (mkF m 19 #[vr a0, vi p1, vi ((16 : Int32) >>> ((0 : Int32) &&& 31))] [(.ref a0), (.ref a0)]))
  obtain ⟨T4, X4, e4, st4⟩ := getF X3 hx hZ hown (host := "") (Or.inl (w_ hw 53 rfl)) Via.refl e3 F_value_a0 (g := (mkF m 19 #[vr a0, vi p1, vi ((16 : Int32) >>> ((0 : Int32) &&& 31))] [(.ref a0), (.ref a0)])) rfl rfl (hb hby (d9 13))
  refine oS st4 ?_
  show OF _ _ _ _ (T4.setTop (mkF m 22 _ _))
  refine oS (fun _ q => XS.aloadN X4.here hx rfl (hb hby (d9 14)) rfl rfl (XS.iloadN X4.here hx rfl (hb hby (d9 15)) rfl q)) ?_
  obtain ⟨cq5, q5, q5'⟩ := X_a0.cell
  obtain ⟨_, _, ⟨T5, L5, k5, n5⟩, -, X5, ⟨Lc5, hQ5, l5, y5, z5⟩, st5⟩ := X4.privateBack hx (y := yM8) hown (mvT hZ (w_ hw 234 rfl)) (mvT hZ (w_ hw 235 rfl)) (mvT hZ (own_selp (w_ hw 235 rfl) (own_nfs (y' := yM0) rfl (w_ hw 82 rfl)) (Cond.privateMethod_at (w_ hw 236 rfl)) (by decide))) (Cond.privateMethod_at (mvP hZ (w_ hw 236 rfl) (args := #[]))) (mvT hZ (w_ hw 238 rfl)) (by decide) (backOf (W := 2) (rm_nc l Z av0 hw [] a0 p1 b0 k_b0 f0 h0 n0 (Nat.le_trans Z0 kp0.1) X_a0 F_value_a0 F_coder_a0 V_b0 X_b0 hp) hZ (w_ hw 238 rfl) (w_ hw 47 rfl) (by decide) (by decide)) (g := (mkF m 24 #[vr a0, vi p1, vi ((16 : Int32) >>> ((0 : Int32) &&& 31))] [(.int p1), (.ref a0), (.ref b0), (.ref a0)])) rfl (by rw [hml]; rfl) (Steps.refl _) (a := a0) (by rw [e4]; exact q5) q5' (argsL := [(.int p1)]) (rest := [(.ref b0), (.ref a0)]) (lenOf pd_3 rfl) rfl (by show 2 * 0 + _ ≤ _; exact Nat.le_of_eq rfl) (hb hby (d9 16)) (fun _ _ => ⟨rfl, e4, (by decide : 0 + 0 ≤ _), (by decide : 0 + 0 ≤ _)⟩)
  dsimp only [Pt.U, Pt.locs, Pt.cells, Pt.slots] at X5 l5 y5 z5 st5 hQ5
  subst l5 y5 z5
  obtain ⟨rfl, N5q, he5⟩ := hQ5
  have N5 := Fr.app N0 N5q
  refine oT st5 ?_
  show OF _ _ _ _ (T5.setTop (mkF m 27 _ _))
  refine oS (fun _ q => XS.aloadN X5.here hx rfl (hb hby (d9 17)) rfl rfl q) ?_
  obtain ⟨T6, X6, e6, st6⟩ := getF X5 hx hZ hown (host := "") (Or.inl (w_ hw 55 rfl)) Via.refl he5 F_coder_a0 (g := (mkF m 28 #[vr a0, vi p1, vi ((16 : Int32) >>> ((0 : Int32) &&& 31))] [(.ref a0), (.int 34), (.ref b0), (.ref a0)])) rfl rfl (hb hby (d9 18))
  refine oS st6 ?_
  show OF _ _ _ _ (T6.setTop (mkF m 31 _ _))
  refine oS (fun _ q => XS.ishl X6.here hx rfl (hb hby (d9 19)) rfl q) ?_
  obtain ⟨_, _, ⟨T7, L7, k7, n7⟩, -, X7, ⟨Lc7, hQ7, l7, y7, z7⟩, st7⟩ := Jvm.LawKit.callS X6 hx (y := yM10) hown (mvT hZ (w_ hw 248 rfl)) (mvT hZ (w_ hw 249 rfl)) (mvT hZ (w_ hw 184 rfl)) (mvT hZ (w_ hw 250 rfl)) (by decide) (backOf (W := 1) (rm_co l Z av0 hw [] b0 k_b0 f0 h0 n0 (Nat.le_trans Z0 kp0.1) V_b0) hZ (w_ hw 250 rfl) (w_ hw 184 rfl) (by decide) (by decide)) (g := (mkF m 32 #[vr a0, vi p1, vi ((16 : Int32) >>> ((0 : Int32) &&& 31))] [(.int ((34 : Int32) <<< ((0 : Int32) &&& 31))), (.ref b0), (.ref a0)])) rfl (by rw [hml]; rfl) (argsL := [(.ref b0), (.int ((34 : Int32) <<< ((0 : Int32) &&& 31)))]) (rest := [(.ref a0)]) (lenOf pd_4 rfl) rfl (by show 2 * 0 + _ ≤ _; exact Nat.le_of_eq rfl) (hb hby (d9 20)) (fun _ _ => ⟨rfl, e6, (by decide : 0 + 1 ≤ _), (by decide : 0 + 34 ≤ _)⟩)
  dsimp only [Pt.U, Pt.locs, Pt.cells, Pt.slots] at X7 l7 y7 z7 st7 hQ7
  subst l7 y7 z7
  obtain ⟨c7_0, kc7_1, rfl, N7q, K7, r7_0, r7_1, r7_2⟩ := hQ7
  have N7 := Fr.app N5 N7q
  refine oS st7 ?_
  obtain ⟨h7, e7⟩ : ∃ z, T7.heap = z := ⟨_, rfl⟩
  rw [e7] at K7 r7_1 r7_2
  have bi_c7_0 : h0.size ≤ c7_0 := r7_0
  have lo_c7_0 : h0.size ≤ c7_0 := Nat.le_trans kp0.1 bi_c7_0
  have g_c7_0 : n0 ≤ c7_0 := Nat.le_trans Z0 lo_c7_0
  have kp8 : Keep h0 h7 [a0] := kp0.trans K7 all0
  show OF _ _ _ _ (T7.setTop (mkF m 35 _ _))
  have vE9 : Arv Z h7 c7_0 kc7_1 .byte (34 : Int32) (own_ml (34 : Int32) f0) (.int 0) := own_mlcong (own_grow hf) r7_1
  obtain ⟨T10, h10, X10, e10, W10, st10⟩ := putF X7 hx hZ hown (host := "") (Or.inl (w_ hw 53 rfl)) Via.refl e7 (F_value_a0.keep K7 nin0) (X_a0.keep K7) (Or.inl (w_ hw 54 rfl)) (w_ hw 38 rfl) (ty := (.array .byte)) (by decide) rfl rfl (g := (mkF m 35 #[vr a0, vi p1, vi ((16 : Int32) >>> ((0 : Int32) &&& 31))] [(.ref c7_0), (.ref a0)])) rfl rfl (hb hby (d9 21))
  refine oS st10 ?_
  have Fw10 : Fld Z h10 a0 "java/lang/AbstractStringBuilder" "value" "[B" (.ref c7_0) := (F_value_a0.keep K7 nin0).same W10
  have N10 := Fr.snoc X10 N7 g_a0
  have kp11 : Keep h0 h10 [a0] := kp8.wr W10 (Or.inl (List.mem_of_getElem? (i := 0) rfl))
  show OF _ _ _ _ (T10.setTop (mkF m 38 _ _))
  obtain ⟨fs, hr, hrun, hended, hW, hsame⟩ := X10.leave (v := none) (fun _ => rfl)
  refine ⟨_, _, X10.returnOut hx Bd.returns (hb hby (d9 22)) hr, hrun, hended, _, _, rfl, ?_, ⟨_, rfl⟩, hW, hsame.mono (by decide) (by decide)⟩
  show Q_rm_ecY Z a0 p1 b0 c0 k_b0 f0 h0 n0 _ T10.heap _
  rw [e10]
  have fr12 : Fld Z h10 a0 "java/lang/AbstractStringBuilder" "coder" "B" (.int 0) := ((F_coder_a0.keep K7 nin0).other W10 (Or.inr (slot_ne (Or.inl (w_ hw 56 rfl)) (Or.inl (w_ hw 54 rfl)) (by decide) (t := .byte) (t' := (.array .byte)) (by decide) (by decide))))
  have fr13 : Fld Z h10 a0 "java/lang/AbstractStringBuilder" "count" "I" (.int c0) := ((F_count_a0.keep K7 nin0).other W10 (Or.inr (slot_ne (Or.inl (w_ hw 68 rfl)) (Or.inl (w_ hw 54 rfl)) (by decide) (t := .int) (t' := (.array .byte)) (by decide) (by decide))))
  have fr14 : Arv Z h10 c7_0 kc7_1 .byte (34 : Int32) (own_ml (34 : Int32) f0) (.int 0) := (vE9.other W10 (Ne.symm (Nat.ne_of_lt (Nat.lt_of_lt_of_le X_a0.lt bi_c7_0))))
  exact ⟨c7_0, kc7_1, rfl, N10, kp11, lo_c7_0, Fw10, fr12, fr13, fr14, (r7_2.wr W10)⟩
abbrev C10 := jdk_68_method_68_code
def L10 : List (Nat × Instr × Nat) := [(0, .getstatic 18, 3), (3, .ifCond .eq 14, 3), (6, .aload_n 0, 1), (7, .getfield 22, 3), (10, .ifCond .ne 7, 3), (13, .iconst 1, 1), (14, .goto 4, 3), (18, .ireturn, 1)]
theorem d10 : ∀ i : Fin 8, decode C10 (L10.get i).1 = .ok (L10.get i).2 := by decide +kernel
theorem ef_rm_isl (m : MethodId) (a0 : Addr) : entryFrame m #[(.ref a0)] 1 = mkF m 0 #[.val (.ref a0)] [] := by first | (simp [entryFrame, mkF, argsToLocals, Value.category]; done) | rfl
def Q_rm_isl (Z : State) (a0 : Addr) (w_COMPACT_STRINGS : Int32) (h0 : Heap) (n0 : Nat) (v : Option Value) (h : Heap) (L : List Loc) : Prop := v = some (.int 1) ∧ Fr n0 L ∧ h = h0
set_option maxRecDepth 65536 in
set_option maxHeartbeats 40000000 in
theorem rm_isl (l : Launch) (Z : State) (av0 : Array Value) (hw : ∀ d ∈ tables_1, d.before av0 Z = true) (ws : List Jvm.Cond) (a0 : Addr) (w_COMPACT_STRINGS : Int32) (h0 : Heap) (n0 : Nat) (Z0 : n0 ≤ h0.size) (Ol0 : Old Z n0 h0) (X_a0 : Exa Z h0 a0 "java/lang/StringBuilder") (F_coder_a0 : Fld Z h0 a0 "java/lang/AbstractStringBuilder" "coder" "B" (.int 0)) (S_COMPACT_STRINGS : Sta Z Z.heap "java/lang/String" "COMPACT_STRINGS" "Z" (.int w_COMPACT_STRINGS)) (hc0 : ¬ (w_COMPACT_STRINGS = 0)) :
    own_MF l Z h0 yM0 (Jvm.Cond.code yM0 jdk_68_method_68_code 1 (some .boolean) :: ws) ({ frames := 0, cells := 0, slots := 0, locals := 0 } : Room) #[(.ref a0)] (Q_rm_isl Z a0 w_COMPACT_STRINGS h0 n0) := by
  refine own_ent (own := "java/lang/AbstractStringBuilder") (plainFor_of_name pn_1) rfl ?_
  intro p e s m below meth c s₁ Bd hx hby hml hZ hh hown hnm X0 e0
  have N0 := Fr.nil n0
  have kp0 : Keep h0 h0 [] := Keep.refl _ _
  refine oS (fun _ q => castTop (ef_rm_isl m a0) q) ?_
  show OF _ _ _ _ (s₁.setTop (mkF m 0 #[vr a0] []))
  obtain ⟨T1, X1, e1, st1⟩ := getS2 X0 hx hZ hown (host := "") (Or.inl (w_ hw 50 rfl)) Via.refl e0 (S_COMPACT_STRINGS.ext Ol0.2) (g := (mkF m 0 #[vr a0] [])) rfl (hb hby (d10 0))
  refine oS st1 ?_
  show OF _ _ _ _ (T1.setTop (mkF m 3 _ _))
  refine oS (fun _ q => XS.ifNo X1.here hx rfl (hb hby (d10 1)) rfl (Jvm.Free.XT.i0_eq_f hc0) q) ?_
  show OF _ _ _ _ (T1.setTop (mkF m 6 _ _))
  refine oS (fun _ q => XS.aloadN X1.here hx rfl (hb hby (d10 2)) rfl rfl q) ?_
  obtain ⟨T2, X2, e2, st2⟩ := getF X1 hx hZ hown (host := "") (Or.inl (w_ hw 55 rfl)) Via.refl e1 F_coder_a0 (g := (mkF m 7 #[vr a0] [(.ref a0)])) rfl rfl (hb hby (d10 3))
  refine oS st2 ?_
  show OF _ _ _ _ (T2.setTop (mkF m 10 _ _))
  refine oS (fun _ q => XS.ifNo X2.here hx rfl (hb hby (d10 4)) rfl (Jvm.Free.XT.i0_ne_f (rfl : (0 : Int32) = (0 : Int32))) q) ?_
  show OF _ _ _ _ (T2.setTop (mkF m 13 _ _))
  refine oS (fun _ q => XS.iconst X2.here hx rfl (hb hby (d10 5)) (XS.goto X2.here hx rfl (pc0 := 14) (pc' := 18) rfl (hb hby (d10 6)) (by decide) (by decide) q)) ?_
  obtain ⟨fs, hr, hrun, hended, hW, hsame⟩ := X2.leave (v := some (.int 1)) (fun h => by rw [Bd.returns] at h; cases h)
  refine ⟨_, _, retN X2 hx (t := .boolean) Bd.returns (by simp) (hb hby (d10 7)) hr, hrun, hended, _, _, rfl, ?_, ⟨_, rfl⟩, hW, hsame.mono (by decide) (by decide)⟩
  show Q_rm_isl Z a0 w_COMPACT_STRINGS h0 n0 _ T2.heap _
  rw [e2]
  exact ⟨rfl, N0, rfl⟩
def own_bL (q : Int64) : Int32 := if q < 0 then (1 : Int32) else (0 : Int32)
def own_bI (q : Int32) : Int32 := if q < 0 then (1 : Int32) else (0 : Int32)
abbrev C11 := jdk_35_method_14_code
def L11 : List (Nat × Instr × Nat) := [(0, .iload_n 2, 1), (1, .istore 7, 2), (3, .lload_n 0, 1), (4, .lconst 0, 1), (5, .lcmp, 1), (6, .ifCond .ge 7, 3), (9, .iconst 1, 1), (10, .goto 4, 3), (13, .iconst 0, 1), (14, .istore 8, 2), (16, .iload 8, 2), (18, .ifCond .ne 6, 3), (21, .lload_n 0, 1), (22, .lneg, 1), (23, .lstore_n 0, 1), (24, .lload_n 0, 1), (25, .ldc2_w 129, 3), (28, .lcmp, 1), (29, .ifCond .gt 53, 3), (32, .lload_n 0, 1), (33, .ldc2_w 131, 3), (36, .ldiv, 1), (37, .lstore 4, 2), (39, .lload 4, 2), (41, .ldc2_w 131, 3), (44, .lmul, 1), (45, .lload_n 0, 1), (46, .lsub, 1), (47, .l2i, 1), (48, .istore 6, 2), (50, .lload 4, 2), (52, .lstore_n 0, 1), (53, .aload_n 3, 1), (54, .iinc 7 (-1), 3), (57, .iload 7, 2), (59, .getstatic 133, 3), (62, .iload 6, 2), (64, .baload, 1), (65, .bastore, 1), (66, .aload_n 3, 1), (67, .iinc 7 (-1), 3), (70, .iload 7, 2), (72, .getstatic 137, 3), (75, .iload 6, 2), (77, .baload, 1), (78, .bastore, 1), (79, .goto (-55), 3), (82, .lload_n 0, 1), (83, .l2i, 1), (84, .istore 10, 2), (86, .iload 10, 2), (88, .bipush (-100), 2), (90, .if_icmp .gt 53, 3), (93, .iload 10, 2), (95, .bipush 100, 2), (97, .idiv, 1), (98, .istore 9, 2), (100, .iload 9, 2), (102, .bipush 100, 2), (104, .imul, 1), (105, .iload 10, 2), (107, .isub, 1), (108, .istore 6, 2), (110, .iload 9, 2), (112, .istore 10, 2), (114, .aload_n 3, 1), (115, .iinc 7 (-1), 3), (118, .iload 7, 2), (120, .getstatic 133, 3), (123, .iload 6, 2), (125, .baload, 1), (126, .bastore, 1), (127, .aload_n 3, 1), (128, .iinc 7 (-1), 3), (131, .iload 7, 2), (133, .getstatic 137, 3), (136, .iload 6, 2), (138, .baload, 1), (139, .bastore, 1), (140, .goto (-54), 3), (143, .aload_n 3, 1), (144, .iinc 7 (-1), 3), (147, .iload 7, 2), (149, .getstatic 133, 3), (152, .iload 10, 2), (154, .ineg, 1), (155, .baload, 1), (156, .bastore, 1), (157, .iload 10, 2), (159, .bipush (-9), 2), (161, .if_icmp .ge 17, 3), (164, .aload_n 3, 1), (165, .iinc 7 (-1), 3), (168, .iload 7, 2), (170, .getstatic 137, 3), (173, .iload 10, 2), (175, .ineg, 1), (176, .baload, 1), (177, .bastore, 1), (178, .iload 8, 2), (180, .ifCond .eq 12, 3), (183, .aload_n 3, 1), (184, .iinc 7 (-1), 3), (187, .iload 7, 2), (189, .bipush 45, 2), (191, .bastore, 1), (192, .iload 7, 2), (194, .ireturn, 1)]
set_option maxRecDepth 65536 in
theorem d11 : ∀ i : Fin 108, decode C11 (L11.get i).1 = .ok (L11.get i).2 := by decide +kernel
theorem ef_rm_gcL (m : MethodId) (q0 : Int64) (p1 : Int32) (a2 : Addr) : entryFrame m #[(.long q0), (.int p1), (.ref a2)] 11 = mkF m 0 #[.val (.long q0), .second, .val (.int p1), .val (.ref a2), .unset, .unset, .unset, .unset, .unset, .unset, .unset] [] := by first | (simp [entryFrame, mkF, argsToLocals, Value.category]; done) | rfl
def Q_rm_gcL (Z : State) (q0 : Int64) (p1 : Int32) (a2 : Addr) (k_a2 : ClassId) (z0 : Int32) (f0 : Nat → Int32) (kO : ClassId) (gO : Nat → Int32) (w_DigitOnes : Addr) (kT : ClassId) (gT : Nat → Int32) (w_DigitTens : Addr) (h0 : Heap) (n0 : Nat) (v : Option Value) (h : Heap) (L : List Loc) : Prop := ∃ (rI : Int32), v = some (.int rI) ∧ Fr n0 L ∧ Keep h0 h [a2] ∧ Arv Z h a2 k_a2 .byte z0 (own_ml z0 (own_outL q0 p1 f0)) (.int 0)
set_option maxRecDepth 65536 in
set_option maxHeartbeats 40000000 in
theorem rm_gcL (l : Launch) (Z : State) (av0 : Array Value) (hw : ∀ d ∈ tables_1, d.before av0 Z = true) (ws : List Jvm.Cond) (q0 : Int64) (p1 : Int32) (a2 : Addr) (k_a2 : ClassId) (z0 : Int32) (f0 : Nat → Int32) (kO : ClassId) (gO : Nat → Int32) (w_DigitOnes : Addr) (kT : ClassId) (gT : Nat → Int32) (w_DigitTens : Addr) (h0 : Heap) (n0 : Nat) (Z0 : n0 ≤ h0.size) (Ol0 : Old Z n0 h0) (V_a2 : Arv Z h0 a2 k_a2 .byte z0 (own_ml z0 f0) (.int 0)) (VO : Arv Z Z.heap w_DigitOnes kO .byte (100 : Int32) (own_ml (100 : Int32) gO) (.int 0)) (VT : Arv Z Z.heap w_DigitTens kT .byte (100 : Int32) (own_ml (100 : Int32) gT) (.int 0)) (hO : own_hO gO) (hT : own_hT gT) (hn : (own_ssL q0).toInt ≤ p1.toInt ∧ p1.toInt ≤ z0.toInt) (S_DigitOnes : Sta Z Z.heap "java/lang/Integer" "DigitOnes" "[B" (.ref w_DigitOnes)) (g_a2 : n0 ≤ a2) (S_DigitTens : Sta Z Z.heap "java/lang/Integer" "DigitTens" "[B" (.ref w_DigitTens)) :
    own_MF l Z h0 yM12 (Jvm.Cond.code yM12 jdk_35_method_14_code 11 (some .int) :: ws) ({ frames := 0, cells := 0, slots := 0, locals := 0 } : Room) #[(.long q0), (.int p1), (.ref a2)] (Q_rm_gcL Z q0 p1 a2 k_a2 z0 f0 kO gO w_DigitOnes kT gT w_DigitTens h0 n0) := by
  refine own_ent (own := "java/lang/Long") (plainFor_of_name pn_3) rfl ?_
  intro p e s m below meth c s₁ Bd hx hby hml hZ hh hown hnm X0 e0
  have N0 := Fr.nil n0
  have kp0 : Keep h0 h0 [a2] := Keep.refl _ _
  obtain ⟨GG, hGG⟩ : ∃ G : Outcome → State → Prop, G = (fun o U' => ∃ v L, o = .returned v ∧ Q_rm_gcL Z q0 p1 a2 k_a2 z0 f0 kO gO w_DigitOnes kT gT w_DigitTens h0 n0 v U'.heap L ∧ FrameEnd s o U' L ({ frames := 0, cells := 0, slots := 0, locals := 0 } : Room).cells ({ frames := 0, cells := 0, slots := 0, locals := 0 } : Room).slots) := ⟨_, rfl⟩
  change OF p.tables e below (fun o U' => ∃ v L, o = .returned v ∧ Q_rm_gcL Z q0 p1 a2 k_a2 z0 f0 kO gO w_DigitOnes kT gT w_DigitTens h0 n0 v U'.heap L ∧ FrameEnd s o U' L ({ frames := 0, cells := 0, slots := 0, locals := 0 } : Room).cells ({ frames := 0, cells := 0, slots := 0, locals := 0 } : Room).slots) _
  rw [← hGG]
  refine oS (fun _ q => castTop (ef_rm_gcL m q0 p1 a2) q) ?_
  show OF _ _ _ _ (s₁.setTop (mkF m 0 #[.val (.long q0), .second, vi p1, vr a2, .unset, .unset, .unset, .unset, .unset, .unset, .unset] []))
  refine oS (fun _ q => XS.iloadN X0.here hx rfl (hb hby (d11 0)) rfl (XS.istore X0.here hx rfl (hb hby (d11 1)) rfl (l' := #[.val (.long q0), .second, vi p1, vr a2, .unset, .unset, .unset, vi p1, .unset, .unset, .unset]) rfl (XS.lloadN X0.here hx rfl (hb hby (d11 2)) rfl (XS.lconst X0.here hx rfl (hb hby (d11 3)) (XS.lcmp X0.here hx rfl (hb hby (d11 4)) rfl q))))) ?_
  suffices H1 : ∀ (T : State) (lc : List Loc), Stand p l e ({ frames := 0, cells := 0, slots := 0, locals := 0 } : Room) s m #[(.long q0), (.int p1), (.ref a2)] below meth c T lc 0 0 → Fr n0 lc → T.heap = h0 → OF p.tables e below GG (T.setTop (mkF m 14 #[.val (.long q0), .second, vi p1, vr a2, .unset, .unset, .unset, vi p1, .unset, .unset, .unset] [(.int (if q0 < 0 then (1 : Int32) else (0 : Int32)))])) by
   by_cases hc1 : q0 < 0
   ·
    refine oS (fun _ q => XS.ifNo X0.here hx rfl (hb hby (d11 5)) rfl (Jvm.Free.XT.ll_ge_f hc1) q) ?_
    show OF _ _ _ _ (s₁.setTop (mkF m 9 _ _))
    refine oS (fun _ q => XS.iconst X0.here hx rfl (hb hby (d11 6)) (XS.goto X0.here hx rfl (pc0 := 10) (pc' := 14) rfl (hb hby (d11 7)) (by decide) (by decide) q)) ?_
    show OF _ _ _ _ (s₁.setTop (mkF m 14 #[.val (.long q0), .second, vi p1, vr a2, .unset, .unset, .unset, vi p1, .unset, .unset, .unset] [(.int 1)]))
    have z := H1 _ _ X0 N0 e0
    rw [show ((if q0 < 0 then (1 : Int32) else (0 : Int32)) : Int32) = (1 : Int32) from if_pos hc1] at z
    exact z
   ·
    refine oS (fun _ q => XS.ifYes X0.here hx rfl (pc0 := 6) (pc' := 13) rfl (hb hby (d11 5)) rfl (Jvm.Free.XT.ll_ge_t hc1) (by decide) (by decide) q) ?_
    show OF _ _ _ _ (s₁.setTop (mkF m 13 _ _))
    refine oS (fun _ q => XS.iconst X0.here hx rfl (hb hby (d11 8)) q) ?_
    show OF _ _ _ _ (s₁.setTop (mkF m 14 #[.val (.long q0), .second, vi p1, vr a2, .unset, .unset, .unset, vi p1, .unset, .unset, .unset] [(.int 0)]))
    have z := H1 _ _ X0 N0 e0
    rw [show ((if q0 < 0 then (1 : Int32) else (0 : Int32)) : Int32) = (0 : Int32) from if_neg hc1] at z
    exact z
  intro T1 lc1 X1 N1 e1
  show OF _ _ _ _ (T1.setTop (mkF m 14 #[.val (.long q0), .second, vi p1, vr a2, .unset, .unset, .unset, vi p1, .unset, .unset, .unset] [(.int (if q0 < 0 then (1 : Int32) else (0 : Int32)))]))
  refine oS (fun _ q => XS.istore X1.here hx rfl (hb hby (d11 9)) rfl (l' := #[.val (.long q0), .second, vi p1, vr a2, .unset, .unset, .unset, vi p1, vi (if q0 < 0 then (1 : Int32) else (0 : Int32)), .unset, .unset]) rfl (XS.iload X1.here hx rfl (hb hby (d11 10)) rfl q)) ?_
  suffices H2 : ∀ (T : State) (lc : List Loc), Stand p l e ({ frames := 0, cells := 0, slots := 0, locals := 0 } : Room) s m #[(.long q0), (.int p1), (.ref a2)] below meth c T lc 0 0 → Fr n0 lc → T.heap = h0 → OF p.tables e below GG (T.setTop (mkF m 24 #[.val (.long (if q0 < 0 then q0 else (-q0))), .second, vi p1, vr a2, .unset, .unset, .unset, vi p1, vi (if q0 < 0 then (1 : Int32) else (0 : Int32)), .unset, .unset] [])) by
   by_cases hc2 : q0 < 0
   ·
    have hi3 : ¬ ((if q0 < 0 then (1 : Int32) else (0 : Int32)) = 0) := by rw [if_pos hc2] <;> decide
    refine oS (fun _ q => XS.ifYes X1.here hx rfl (pc0 := 18) (pc' := 24) rfl (hb hby (d11 11)) rfl (Jvm.Free.XT.i0_ne_t hi3) (by decide) (by decide) q) ?_
    show OF _ _ _ _ (T1.setTop (mkF m 24 #[.val (.long q0), .second, vi p1, vr a2, .unset, .unset, .unset, vi p1, vi (if q0 < 0 then (1 : Int32) else (0 : Int32)), .unset, .unset] []))
    have z := H2 _ _ X1 N1 e1
    rw [show ((if q0 < 0 then q0 else (-q0)) : Int64) = q0 from if_pos hc2] at z
    exact z
   ·
    have hi4 : (if q0 < 0 then (1 : Int32) else (0 : Int32)) = 0 := by rw [if_neg hc2] <;> decide
    refine oS (fun _ q => XS.ifNo X1.here hx rfl (hb hby (d11 11)) rfl (Jvm.Free.XT.i0_ne_f hi4) q) ?_
    show OF _ _ _ _ (T1.setTop (mkF m 21 _ _))
    refine oS (fun _ q => XS.lloadN X1.here hx rfl (hb hby (d11 12)) rfl (XS.lneg X1.here hx rfl (hb hby (d11 13)) rfl (XS.lstoreN X1.here hx rfl (hb hby (d11 14)) rfl (l' := #[.val (.long (-q0)), .second, vi p1, vr a2, .unset, .unset, .unset, vi p1, vi (if q0 < 0 then (1 : Int32) else (0 : Int32)), .unset, .unset]) rfl q))) ?_
    show OF _ _ _ _ (T1.setTop (mkF m 24 #[.val (.long (-q0)), .second, vi p1, vr a2, .unset, .unset, .unset, vi p1, vi (if q0 < 0 then (1 : Int32) else (0 : Int32)), .unset, .unset] []))
    have z := H2 _ _ X1 N1 e1
    rw [show ((if q0 < 0 then q0 else (-q0)) : Int64) = (-q0) from if_neg hc2] at z
    exact z
  intro T2 lc2 X2 N2 e2
  show OF _ _ _ _ (T2.setTop (mkF m 24 #[.val (.long (if q0 < 0 then q0 else (-q0))), .second, vi p1, vr a2, .unset, .unset, .unset, vi p1, vi (if q0 < 0 then (1 : Int32) else (0 : Int32)), .unset, .unset] []))
  have vE5 : Arv Z h0 a2 k_a2 .byte z0 (own_ml z0 (own_fdL q0 p1 f0 p1)) (.int 0) := own_mlcong (own_fd0 _ _ _) V_a2
  refine oS (fun _ q => XS.lloadN X2.here hx rfl (hb hby (d11 15)) rfl q) ?_
  show OF _ _ _ _ (T2.setTop (mkF m 25 #[.val (.long (own_ngL q0)), .second, vi p1, vr a2, .unset, .unset, .unset, vi p1, vi (own_bL q0), .unset, .unset] [(.long (own_ngL q0))]))
  refine oS (X2.ldc2Long hx hown (mvT hZ (w_ hw 87 rfl)) (g := (mkF m 25 #[.val (.long (own_ngL q0)), .second, vi p1, vr a2, .unset, .unset, .unset, vi p1, vi (own_bL q0), .unset, .unset] [(.long (own_ngL q0))])) rfl (hb hby (d11 16))) ?_
  show OF _ _ _ _ (T2.setTop (mkF m 28 _ _))
  refine oS (fun _ q => XS.lcmp X2.here hx rfl (hb hby (d11 17)) rfl q) ?_
  by_cases hc6 : (-2147483648 : Int64) < (own_ngL q0)
  ·
   refine oS (fun _ q => XS.ifYes X2.here hx rfl (pc0 := 29) (pc' := 82) rfl (hb hby (d11 18)) rfl (Jvm.Free.XT.ll_gt_t hc6) (by decide) (by decide) q) ?_
   show OF _ _ _ _ (T2.setTop (mkF m 82 _ _))
   refine oS (fun _ q => XS.lloadN X2.here hx rfl (hb hby (d11 47)) rfl (XS.l2i X2.here hx rfl (hb hby (d11 48)) rfl (XS.istore X2.here hx rfl (hb hby (d11 49)) rfl (l' := #[.val (.long (own_ngL q0)), .second, vi p1, vr a2, .unset, .unset, .unset, vi p1, vi (own_bL q0), .unset, vi ((own_ngL q0).toInt32)]) rfl (XS.iload X2.here hx rfl (hb hby (d11 50)) rfl (XS.bipush X2.here hx rfl (hb hby (d11 51)) q))))) ?_
   by_cases hc7 : (-100 : Int32) < ((own_ngL q0).toInt32)
   ·
    refine oS (fun _ q => XS.icmpYes X2.here hx rfl (pc0 := 90) (pc' := 143) rfl (hb hby (d11 52)) rfl (Jvm.Free.XT.ii_gt_t hc7) (by decide) (by decide) q) ?_
    show OF _ _ _ _ (T2.setTop (mkF m 143 _ _))
    refine oS (fun _ q => XS.aloadN X2.here hx rfl (hb hby (d11 80)) rfl rfl (XS.iinc X2.here hx rfl (hb hby (d11 81)) rfl (l' := #[.val (.long (own_ngL q0)), .second, vi p1, vr a2, .unset, .unset, .unset, vi (p1 + (-1)), vi (own_bL q0), .unset, vi ((own_ngL q0).toInt32)]) rfl (XS.iload X2.here hx rfl (hb hby (d11 82)) rfl q))) ?_
    show OF _ _ _ _ (T2.setTop (mkF m 149 #[.val (.long (own_ngL q0)), .second, vi p1, vr a2, .unset, .unset, .unset, vi (p1 + (-1)), vi (own_bL q0), .unset, vi ((own_ngL q0).toInt32)] [(.int (p1 + (-1))), (.ref a2)]))
    obtain ⟨T8, X8, e8, st8⟩ := getS2 X2 hx hZ hown (host := "") (Or.inl (w_ hw 88 rfl)) Via.refl e2 (S_DigitOnes.ext Ol0.2) (g := (mkF m 149 #[.val (.long (own_ngL q0)), .second, vi p1, vr a2, .unset, .unset, .unset, vi (p1 + (-1)), vi (own_bL q0), .unset, vi ((own_ngL q0).toInt32)] [(.int (p1 + (-1))), (.ref a2)])) rfl (hb hby (d11 83))
    refine oS st8 ?_
    show OF _ _ _ _ (T8.setTop (mkF m 152 _ _))
    refine oS (fun _ q => XS.iload X8.here hx rfl (hb hby (d11 84)) rfl (XS.ineg X8.here hx rfl (hb hby (d11 85)) rfl q)) ?_
    show OF _ _ _ _ (T8.setTop (mkF m 155 #[.val (.long (own_ngL q0)), .second, vi p1, vr a2, .unset, .unset, .unset, vi (p1 + (-1)), vi (own_bL q0), .unset, vi ((own_ngL q0).toInt32)] [(.int (-((own_ngL q0).toInt32))), (.ref w_DigitOnes), (.int (p1 + (-1))), (.ref a2)]))
    have Vo9 : Arv Z h0 w_DigitOnes kO .byte (100 : Int32) (own_ml (100 : Int32) gO) (.int 0) := (VO.ext Ol0.2)
    obtain ⟨cl9, Ar9, qa9, Sa9, Na9, Ha9, Ga9⟩ := id Vo9
    have hib9 : ¬ (-((own_ngL q0).toInt32)) < 0 ∧ (-((own_ngL q0).toInt32)) < 100 := (own_nxb (own_iv2 (own_iv0 (own_preL hn) (own_ngLv q0)) hc6) hc7)
    have hin9 := inb_of Sa9 hib9
    refine oS (X8.baloadBytes hx (j := (-((own_ngL q0).toInt32))) (v := (.int (own_at gO (-((own_ngL q0).toInt32))))) (by rw [e8]; exact Ar9.1) (State.isArrayOf_alike (hZ).alike Ar9.2.1) Ar9.2.2 hin9 (Ha9.at hin9 (own_mlat _ hib9)) (g := (mkF m 155 #[.val (.long (own_ngL q0)), .second, vi p1, vr a2, .unset, .unset, .unset, vi (p1 + (-1)), vi (own_bL q0), .unset, vi ((own_ngL q0).toInt32)] [(.int (-((own_ngL q0).toInt32))), (.ref w_DigitOnes), (.int (p1 + (-1))), (.ref a2)])) rfl rfl (hb hby (d11 86))) ?_
    show OF _ _ _ _ (T8.setTop (mkF m 156 #[.val (.long (own_ngL q0)), .second, vi p1, vr a2, .unset, .unset, .unset, vi (p1 + (-1)), vi (own_bL q0), .unset, vi ((own_ngL q0).toInt32)] [(.int (own_at gO (-((own_ngL q0).toInt32)))), (.int (p1 + (-1))), (.ref a2)]))
    have Vo10 : Arv Z h0 a2 k_a2 .byte z0 (own_ml z0 (own_fdL q0 p1 f0 p1)) (.int 0) := vE5
    obtain ⟨cl10, Ar10, qa10, Sa10, Na10, Ha10, Ga10⟩ := id Vo10
    have hib10 : ¬ (p1 + (-1)) < 0 ∧ (p1 + (-1)) < z0 := (own_ib (own_tb (own_preL hn) (own_iv2 (own_iv0 (own_preL hn) (own_ngLv q0)) hc6) hc7).1 (own_tb (own_preL hn) (own_iv2 (own_iv0 (own_preL hn) (own_ngLv q0)) hc6) hc7).2.1)
    obtain ⟨T10, h10, X10, e10, W10, st10⟩ := stB X8 hx hZ e8 Ar10 (j := (p1 + (-1))) (inb_of Sa10 hib10) (g := (mkF m 156 #[.val (.long (own_ngL q0)), .second, vi p1, vr a2, .unset, .unset, .unset, vi (p1 + (-1)), vi (own_bL q0), .unset, vi ((own_ngL q0).toInt32)] [(.int (own_at gO (-((own_ngL q0).toInt32)))), (.int (p1 + (-1))), (.ref a2)])) rfl rfl (hb hby (d11 87))
    refine oS st10 ?_
    have V10 : Arv Z h10 a2 k_a2 .byte z0 (own_ml z0 (own_upd (own_fdL q0 p1 f0 p1) (p1 + (-1)) ((own_at gO (-((own_ngL q0).toInt32))).toInt8.toInt32))) (.int 0) := by
      have z := Arv.set Ar10 qa10 Sa10 Na10 Ha10 Ga10 (fits_nar_byte _) W10 _ rfl (by rw [own_mllen]; exact own_idx hib10)
      rw [own_mlset] at z
      exact z
    have N10 := Fr.snoc X10 N2 g_a2
    have kp11 : Keep h0 h10 [a2] := kp0.wr W10 (Or.inl (List.mem_of_getElem? (i := 0) rfl))
    have ol11 : Old Z n0 h10 := Ol0.wr W10 g_a2
    show OF _ _ _ _ (T10.setTop (mkF m 157 _ _))
    have vE12 : Arv Z h10 a2 k_a2 .byte z0 (own_ml z0 (own_fdL q0 p1 f0 (p1 + (-1)))) (.int 0) := own_mlcong (own_t1 (own_preL hn) (own_iv2 (own_iv0 (own_preL hn) (own_ngLv q0)) hc6) hc7 hO) V10
    refine oS (fun _ q => XS.iload X10.here hx rfl (hb hby (d11 88)) rfl (XS.bipush X10.here hx rfl (hb hby (d11 89)) q)) ?_
    by_cases hc13 : ((own_ngL q0).toInt32) < (-9 : Int32)
    ·
     refine oS (fun _ q => XS.icmpNo X10.here hx rfl (hb hby (d11 90)) rfl (Jvm.Free.XT.ii_ge_f hc13) q) ?_
     show OF _ _ _ _ (T10.setTop (mkF m 164 _ _))
     refine oS (fun _ q => XS.aloadN X10.here hx rfl (hb hby (d11 91)) rfl rfl (XS.iinc X10.here hx rfl (hb hby (d11 92)) rfl (l' := #[.val (.long (own_ngL q0)), .second, vi p1, vr a2, .unset, .unset, .unset, vi ((p1 + (-1)) + (-1)), vi (own_bL q0), .unset, vi ((own_ngL q0).toInt32)]) rfl (XS.iload X10.here hx rfl (hb hby (d11 93)) rfl q))) ?_
     show OF _ _ _ _ (T10.setTop (mkF m 170 #[.val (.long (own_ngL q0)), .second, vi p1, vr a2, .unset, .unset, .unset, vi ((p1 + (-1)) + (-1)), vi (own_bL q0), .unset, vi ((own_ngL q0).toInt32)] [(.int ((p1 + (-1)) + (-1))), (.ref a2)]))
     obtain ⟨T14, X14, e14, st14⟩ := getS2 X10 hx hZ hown (host := "") (Or.inl (w_ hw 252 rfl)) Via.refl e10 (S_DigitTens.ext ol11.2) (g := (mkF m 170 #[.val (.long (own_ngL q0)), .second, vi p1, vr a2, .unset, .unset, .unset, vi ((p1 + (-1)) + (-1)), vi (own_bL q0), .unset, vi ((own_ngL q0).toInt32)] [(.int ((p1 + (-1)) + (-1))), (.ref a2)])) rfl (hb hby (d11 94))
     refine oS st14 ?_
     show OF _ _ _ _ (T14.setTop (mkF m 173 _ _))
     refine oS (fun _ q => XS.iload X14.here hx rfl (hb hby (d11 95)) rfl (XS.ineg X14.here hx rfl (hb hby (d11 96)) rfl q)) ?_
     show OF _ _ _ _ (T14.setTop (mkF m 176 #[.val (.long (own_ngL q0)), .second, vi p1, vr a2, .unset, .unset, .unset, vi ((p1 + (-1)) + (-1)), vi (own_bL q0), .unset, vi ((own_ngL q0).toInt32)] [(.int (-((own_ngL q0).toInt32))), (.ref w_DigitTens), (.int ((p1 + (-1)) + (-1))), (.ref a2)]))
     have Vo15 : Arv Z h10 w_DigitTens kT .byte (100 : Int32) (own_ml (100 : Int32) gT) (.int 0) := (VT.ext ol11.2)
     obtain ⟨cl15, Ar15, qa15, Sa15, Na15, Ha15, Ga15⟩ := id Vo15
     have hib15 : ¬ (-((own_ngL q0).toInt32)) < 0 ∧ (-((own_ngL q0).toInt32)) < 100 := (own_nxb (own_iv2 (own_iv0 (own_preL hn) (own_ngLv q0)) hc6) hc7)
     have hin15 := inb_of Sa15 hib15
     refine oS (X14.baloadBytes hx (j := (-((own_ngL q0).toInt32))) (v := (.int (own_at gT (-((own_ngL q0).toInt32))))) (by rw [e14]; exact Ar15.1) (State.isArrayOf_alike (hZ).alike Ar15.2.1) Ar15.2.2 hin15 (Ha15.at hin15 (own_mlat _ hib15)) (g := (mkF m 176 #[.val (.long (own_ngL q0)), .second, vi p1, vr a2, .unset, .unset, .unset, vi ((p1 + (-1)) + (-1)), vi (own_bL q0), .unset, vi ((own_ngL q0).toInt32)] [(.int (-((own_ngL q0).toInt32))), (.ref w_DigitTens), (.int ((p1 + (-1)) + (-1))), (.ref a2)])) rfl rfl (hb hby (d11 97))) ?_
     show OF _ _ _ _ (T14.setTop (mkF m 177 #[.val (.long (own_ngL q0)), .second, vi p1, vr a2, .unset, .unset, .unset, vi ((p1 + (-1)) + (-1)), vi (own_bL q0), .unset, vi ((own_ngL q0).toInt32)] [(.int (own_at gT (-((own_ngL q0).toInt32)))), (.int ((p1 + (-1)) + (-1))), (.ref a2)]))
     have Vo16 : Arv Z h10 a2 k_a2 .byte z0 (own_ml z0 (own_fdL q0 p1 f0 (p1 + (-1)))) (.int 0) := vE12
     obtain ⟨cl16, Ar16, qa16, Sa16, Na16, Ha16, Ga16⟩ := id Vo16
     have hib16 : ¬ ((p1 + (-1)) + (-1)) < 0 ∧ ((p1 + (-1)) + (-1)) < z0 := (own_ib2 ((own_tb (own_preL hn) (own_iv2 (own_iv0 (own_preL hn) (own_ngLv q0)) hc6) hc7).2.2.1 hc13) (own_tb (own_preL hn) (own_iv2 (own_iv0 (own_preL hn) (own_ngLv q0)) hc6) hc7).2.1)
     obtain ⟨T16, h16, X16, e16, W16, st16⟩ := stB X14 hx hZ e14 Ar16 (j := ((p1 + (-1)) + (-1))) (inb_of Sa16 hib16) (g := (mkF m 177 #[.val (.long (own_ngL q0)), .second, vi p1, vr a2, .unset, .unset, .unset, vi ((p1 + (-1)) + (-1)), vi (own_bL q0), .unset, vi ((own_ngL q0).toInt32)] [(.int (own_at gT (-((own_ngL q0).toInt32)))), (.int ((p1 + (-1)) + (-1))), (.ref a2)])) rfl rfl (hb hby (d11 98))
     refine oS st16 ?_
     have V16 : Arv Z h16 a2 k_a2 .byte z0 (own_ml z0 (own_upd (own_fdL q0 p1 f0 (p1 + (-1))) ((p1 + (-1)) + (-1)) ((own_at gT (-((own_ngL q0).toInt32))).toInt8.toInt32))) (.int 0) := by
       have z := Arv.set Ar16 qa16 Sa16 Na16 Ha16 Ga16 (fits_nar_byte _) W16 _ rfl (by rw [own_mllen]; exact own_idx hib16)
       rw [own_mlset] at z
       exact z
     have N16 := Fr.snoc X16 N10 g_a2
     have kp17 : Keep h0 h16 [a2] := kp11.wr W16 (Or.inl (List.mem_of_getElem? (i := 0) rfl))
     have ol17 : Old Z n0 h16 := ol11.wr W16 g_a2
     show OF _ _ _ _ (T16.setTop (mkF m 178 _ _))
     have vE18 : Arv Z h16 a2 k_a2 .byte z0 (own_ml z0 (own_fdL q0 p1 f0 ((p1 + (-1)) + (-1)))) (.int 0) := own_mlcong (own_t2 (own_preL hn) (own_iv2 (own_iv0 (own_preL hn) (own_ngLv q0)) hc6) hc7 hc13 hT) V16
     refine oS (fun _ q => XS.iload X16.here hx rfl (hb hby (d11 99)) rfl q) ?_
     by_cases hc19 : q0 < 0
     ·
      have hi20 : ¬ ((own_bL q0) = 0) := (by rw [if_pos hc19] <;> decide : ¬ ((if q0 < 0 then (1 : Int32) else (0 : Int32)) = 0))
      refine oS (fun _ q => XS.ifNo X16.here hx rfl (hb hby (d11 100)) rfl (Jvm.Free.XT.i0_eq_f hi20) q) ?_
      show OF _ _ _ _ (T16.setTop (mkF m 183 _ _))
      refine oS (fun _ q => XS.aloadN X16.here hx rfl (hb hby (d11 101)) rfl rfl (XS.iinc X16.here hx rfl (hb hby (d11 102)) rfl (l' := #[.val (.long (own_ngL q0)), .second, vi p1, vr a2, .unset, .unset, .unset, vi (((p1 + (-1)) + (-1)) + (-1)), vi (own_bL q0), .unset, vi ((own_ngL q0).toInt32)]) rfl (XS.iload X16.here hx rfl (hb hby (d11 103)) rfl (XS.bipush X16.here hx rfl (hb hby (d11 104)) q)))) ?_
      show OF _ _ _ _ (T16.setTop (mkF m 191 #[.val (.long (own_ngL q0)), .second, vi p1, vr a2, .unset, .unset, .unset, vi (((p1 + (-1)) + (-1)) + (-1)), vi (own_bL q0), .unset, vi ((own_ngL q0).toInt32)] [(.int 45), (.int (((p1 + (-1)) + (-1)) + (-1))), (.ref a2)]))
      have Vo21 : Arv Z h16 a2 k_a2 .byte z0 (own_ml z0 (own_fdL q0 p1 f0 ((p1 + (-1)) + (-1)))) (.int 0) := vE18
      obtain ⟨cl21, Ar21, qa21, Sa21, Na21, Ha21, Ga21⟩ := id Vo21
      have hib21 : ¬ (((p1 + (-1)) + (-1)) + (-1)) < 0 ∧ (((p1 + (-1)) + (-1)) + (-1)) < z0 := (own_ib (own_sgL hn (own_e2 (own_preL hn) (own_iv2 (own_iv0 (own_preL hn) (own_ngLv q0)) hc6) hc7 hc13) hc19) (own_e2 (own_preL hn) (own_iv2 (own_iv0 (own_preL hn) (own_ngLv q0)) hc6) hc7 hc13).2.1)
      obtain ⟨T21, h21, X21, e21, W21, st21⟩ := stB X16 hx hZ e16 Ar21 (j := (((p1 + (-1)) + (-1)) + (-1))) (inb_of Sa21 hib21) (g := (mkF m 191 #[.val (.long (own_ngL q0)), .second, vi p1, vr a2, .unset, .unset, .unset, vi (((p1 + (-1)) + (-1)) + (-1)), vi (own_bL q0), .unset, vi ((own_ngL q0).toInt32)] [(.int 45), (.int (((p1 + (-1)) + (-1)) + (-1))), (.ref a2)])) rfl rfl (hb hby (d11 105))
      refine oS st21 ?_
      have V21 : Arv Z h21 a2 k_a2 .byte z0 (own_ml z0 (own_upd (own_fdL q0 p1 f0 ((p1 + (-1)) + (-1))) (((p1 + (-1)) + (-1)) + (-1)) ((45 : Int32).toInt8.toInt32))) (.int 0) := by
        have z := Arv.set Ar21 qa21 Sa21 Na21 Ha21 Ga21 (fits_nar_byte _) W21 _ rfl (by rw [own_mllen]; exact own_idx hib21)
        rw [own_mlset] at z
        exact z
      have N21 := Fr.snoc X21 N16 g_a2
      have kp22 : Keep h0 h21 [a2] := kp17.wr W21 (Or.inl (List.mem_of_getElem? (i := 0) rfl))
      have ol22 : Old Z n0 h21 := ol17.wr W21 g_a2
      show OF _ _ _ _ (T21.setTop (mkF m 192 _ _))
      refine oS (fun _ q => XS.iload X21.here hx rfl (hb hby (d11 106)) rfl q) ?_
      show OF _ _ _ _ (T21.setTop (mkF m 194 #[.val (.long (own_ngL q0)), .second, vi p1, vr a2, .unset, .unset, .unset, vi (((p1 + (-1)) + (-1)) + (-1)), vi (own_bL q0), .unset, vi ((own_ngL q0).toInt32)] [(.int (((p1 + (-1)) + (-1)) + (-1)))]))
      rw [hGG]
      obtain ⟨fs, hr, hrun, hended, hW, hsame⟩ := X21.leave (v := some (.int (((p1 + (-1)) + (-1)) + (-1)))) (fun h => by rw [Bd.returns] at h; cases h)
      refine ⟨_, _, retI X21 hx Bd.returns (hb hby (d11 107)) hr, hrun, hended, _, _, rfl, ?_, ⟨_, rfl⟩, hW, hsame.mono (by decide) (by decide)⟩
      show Q_rm_gcL Z q0 p1 a2 k_a2 z0 f0 kO gO w_DigitOnes kT gT w_DigitTens h0 n0 _ T21.heap _
      rw [e21]
      have vE23 : Arv Z h21 a2 k_a2 .byte z0 (own_ml z0 (own_outL q0 p1 f0)) (.int 0) := own_mlcong (own_oY (own_sgL hn (own_e2 (own_preL hn) (own_iv2 (own_iv0 (own_preL hn) (own_ngLv q0)) hc6) hc7 hc13) hc19) (own_e2 (own_preL hn) (own_iv2 (own_iv0 (own_preL hn) (own_ngLv q0)) hc6) hc7 hc13).2.2 (own_ltL.mp hc19)) V21
      exact ⟨(((p1 + (-1)) + (-1)) + (-1)), rfl, N21, kp22, vE23⟩
     ·
      have hi24 : (own_bL q0) = 0 := (by rw [if_neg hc19] <;> decide : (if q0 < 0 then (1 : Int32) else (0 : Int32)) = 0)
      refine oS (fun _ q => XS.ifYes X16.here hx rfl (pc0 := 180) (pc' := 192) rfl (hb hby (d11 100)) rfl (Jvm.Free.XT.i0_eq_t hi24) (by decide) (by decide) q) ?_
      show OF _ _ _ _ (T16.setTop (mkF m 192 _ _))
      refine oS (fun _ q => XS.iload X16.here hx rfl (hb hby (d11 106)) rfl q) ?_
      show OF _ _ _ _ (T16.setTop (mkF m 194 #[.val (.long (own_ngL q0)), .second, vi p1, vr a2, .unset, .unset, .unset, vi ((p1 + (-1)) + (-1)), vi (own_bL q0), .unset, vi ((own_ngL q0).toInt32)] [(.int ((p1 + (-1)) + (-1)))]))
      rw [hGG]
      obtain ⟨fs, hr, hrun, hended, hW, hsame⟩ := X16.leave (v := some (.int ((p1 + (-1)) + (-1)))) (fun h => by rw [Bd.returns] at h; cases h)
      refine ⟨_, _, retI X16 hx Bd.returns (hb hby (d11 107)) hr, hrun, hended, _, _, rfl, ?_, ⟨_, rfl⟩, hW, hsame.mono (by decide) (by decide)⟩
      show Q_rm_gcL Z q0 p1 a2 k_a2 z0 f0 kO gO w_DigitOnes kT gT w_DigitTens h0 n0 _ T16.heap _
      rw [e16]
      have vE25 : Arv Z h16 a2 k_a2 .byte z0 (own_ml z0 (own_outL q0 p1 f0)) (.int 0) := own_mlcong (own_oN (own_e2 (own_preL hn) (own_iv2 (own_iv0 (own_preL hn) (own_ngLv q0)) hc6) hc7 hc13).1 (own_e2 (own_preL hn) (own_iv2 (own_iv0 (own_preL hn) (own_ngLv q0)) hc6) hc7 hc13).2.2 (fun q => hc19 (own_ltL.mpr q))) vE18
      exact ⟨((p1 + (-1)) + (-1)), rfl, N16, kp17, vE25⟩
    ·
     refine oS (fun _ q => XS.icmpYes X10.here hx rfl (pc0 := 161) (pc' := 178) rfl (hb hby (d11 90)) rfl (Jvm.Free.XT.ii_ge_t hc13) (by decide) (by decide) q) ?_
     show OF _ _ _ _ (T10.setTop (mkF m 178 _ _))
     refine oS (fun _ q => XS.iload X10.here hx rfl (hb hby (d11 99)) rfl q) ?_
     by_cases hc26 : q0 < 0
     ·
      have hi27 : ¬ ((own_bL q0) = 0) := (by rw [if_pos hc26] <;> decide : ¬ ((if q0 < 0 then (1 : Int32) else (0 : Int32)) = 0))
      refine oS (fun _ q => XS.ifNo X10.here hx rfl (hb hby (d11 100)) rfl (Jvm.Free.XT.i0_eq_f hi27) q) ?_
      show OF _ _ _ _ (T10.setTop (mkF m 183 _ _))
      refine oS (fun _ q => XS.aloadN X10.here hx rfl (hb hby (d11 101)) rfl rfl (XS.iinc X10.here hx rfl (hb hby (d11 102)) rfl (l' := #[.val (.long (own_ngL q0)), .second, vi p1, vr a2, .unset, .unset, .unset, vi ((p1 + (-1)) + (-1)), vi (own_bL q0), .unset, vi ((own_ngL q0).toInt32)]) rfl (XS.iload X10.here hx rfl (hb hby (d11 103)) rfl (XS.bipush X10.here hx rfl (hb hby (d11 104)) q)))) ?_
      show OF _ _ _ _ (T10.setTop (mkF m 191 #[.val (.long (own_ngL q0)), .second, vi p1, vr a2, .unset, .unset, .unset, vi ((p1 + (-1)) + (-1)), vi (own_bL q0), .unset, vi ((own_ngL q0).toInt32)] [(.int 45), (.int ((p1 + (-1)) + (-1))), (.ref a2)]))
      have Vo28 : Arv Z h10 a2 k_a2 .byte z0 (own_ml z0 (own_fdL q0 p1 f0 (p1 + (-1)))) (.int 0) := vE12
      obtain ⟨cl28, Ar28, qa28, Sa28, Na28, Ha28, Ga28⟩ := id Vo28
      have hib28 : ¬ ((p1 + (-1)) + (-1)) < 0 ∧ ((p1 + (-1)) + (-1)) < z0 := (own_ib (own_sgL hn (own_e1 (own_preL hn) (own_iv2 (own_iv0 (own_preL hn) (own_ngLv q0)) hc6) hc7 hc13) hc26) (own_e1 (own_preL hn) (own_iv2 (own_iv0 (own_preL hn) (own_ngLv q0)) hc6) hc7 hc13).2.1)
      obtain ⟨T28, h28, X28, e28, W28, st28⟩ := stB X10 hx hZ e10 Ar28 (j := ((p1 + (-1)) + (-1))) (inb_of Sa28 hib28) (g := (mkF m 191 #[.val (.long (own_ngL q0)), .second, vi p1, vr a2, .unset, .unset, .unset, vi ((p1 + (-1)) + (-1)), vi (own_bL q0), .unset, vi ((own_ngL q0).toInt32)] [(.int 45), (.int ((p1 + (-1)) + (-1))), (.ref a2)])) rfl rfl (hb hby (d11 105))
      refine oS st28 ?_
      have V28 : Arv Z h28 a2 k_a2 .byte z0 (own_ml z0 (own_upd (own_fdL q0 p1 f0 (p1 + (-1))) ((p1 + (-1)) + (-1)) ((45 : Int32).toInt8.toInt32))) (.int 0) := by
        have z := Arv.set Ar28 qa28 Sa28 Na28 Ha28 Ga28 (fits_nar_byte _) W28 _ rfl (by rw [own_mllen]; exact own_idx hib28)
        rw [own_mlset] at z
        exact z
      have N28 := Fr.snoc X28 N10 g_a2
      have kp29 : Keep h0 h28 [a2] := kp11.wr W28 (Or.inl (List.mem_of_getElem? (i := 0) rfl))
      have ol29 : Old Z n0 h28 := ol11.wr W28 g_a2
      show OF _ _ _ _ (T28.setTop (mkF m 192 _ _))
      refine oS (fun _ q => XS.iload X28.here hx rfl (hb hby (d11 106)) rfl q) ?_
      show OF _ _ _ _ (T28.setTop (mkF m 194 #[.val (.long (own_ngL q0)), .second, vi p1, vr a2, .unset, .unset, .unset, vi ((p1 + (-1)) + (-1)), vi (own_bL q0), .unset, vi ((own_ngL q0).toInt32)] [(.int ((p1 + (-1)) + (-1)))]))
      rw [hGG]
      obtain ⟨fs, hr, hrun, hended, hW, hsame⟩ := X28.leave (v := some (.int ((p1 + (-1)) + (-1)))) (fun h => by rw [Bd.returns] at h; cases h)
      refine ⟨_, _, retI X28 hx Bd.returns (hb hby (d11 107)) hr, hrun, hended, _, _, rfl, ?_, ⟨_, rfl⟩, hW, hsame.mono (by decide) (by decide)⟩
      show Q_rm_gcL Z q0 p1 a2 k_a2 z0 f0 kO gO w_DigitOnes kT gT w_DigitTens h0 n0 _ T28.heap _
      rw [e28]
      have vE30 : Arv Z h28 a2 k_a2 .byte z0 (own_ml z0 (own_outL q0 p1 f0)) (.int 0) := own_mlcong (own_oY (own_sgL hn (own_e1 (own_preL hn) (own_iv2 (own_iv0 (own_preL hn) (own_ngLv q0)) hc6) hc7 hc13) hc26) (own_e1 (own_preL hn) (own_iv2 (own_iv0 (own_preL hn) (own_ngLv q0)) hc6) hc7 hc13).2.2 (own_ltL.mp hc26)) V28
      exact ⟨((p1 + (-1)) + (-1)), rfl, N28, kp29, vE30⟩
     ·
      have hi31 : (own_bL q0) = 0 := (by rw [if_neg hc26] <;> decide : (if q0 < 0 then (1 : Int32) else (0 : Int32)) = 0)
      refine oS (fun _ q => XS.ifYes X10.here hx rfl (pc0 := 180) (pc' := 192) rfl (hb hby (d11 100)) rfl (Jvm.Free.XT.i0_eq_t hi31) (by decide) (by decide) q) ?_
      show OF _ _ _ _ (T10.setTop (mkF m 192 _ _))
      refine oS (fun _ q => XS.iload X10.here hx rfl (hb hby (d11 106)) rfl q) ?_
      show OF _ _ _ _ (T10.setTop (mkF m 194 #[.val (.long (own_ngL q0)), .second, vi p1, vr a2, .unset, .unset, .unset, vi (p1 + (-1)), vi (own_bL q0), .unset, vi ((own_ngL q0).toInt32)] [(.int (p1 + (-1)))]))
      rw [hGG]
      obtain ⟨fs, hr, hrun, hended, hW, hsame⟩ := X10.leave (v := some (.int (p1 + (-1)))) (fun h => by rw [Bd.returns] at h; cases h)
      refine ⟨_, _, retI X10 hx Bd.returns (hb hby (d11 107)) hr, hrun, hended, _, _, rfl, ?_, ⟨_, rfl⟩, hW, hsame.mono (by decide) (by decide)⟩
      show Q_rm_gcL Z q0 p1 a2 k_a2 z0 f0 kO gO w_DigitOnes kT gT w_DigitTens h0 n0 _ T10.heap _
      rw [e10]
      have vE32 : Arv Z h10 a2 k_a2 .byte z0 (own_ml z0 (own_outL q0 p1 f0)) (.int 0) := own_mlcong (own_oN (own_e1 (own_preL hn) (own_iv2 (own_iv0 (own_preL hn) (own_ngLv q0)) hc6) hc7 hc13).1 (own_e1 (own_preL hn) (own_iv2 (own_iv0 (own_preL hn) (own_ngLv q0)) hc6) hc7 hc13).2.2 (fun q => hc26 (own_ltL.mpr q))) vE12
      exact ⟨(p1 + (-1)), rfl, N10, kp11, vE32⟩
   ·
    refine oS (fun _ q => XS.icmpNo X2.here hx rfl (hb hby (d11 52)) rfl (Jvm.Free.XT.ii_gt_f hc7) q) ?_
    show OF _ _ _ _ (T2.setTop (mkF m 93 _ _))
    refine oS (fun _ q => XS.iload X2.here hx rfl (hb hby (d11 53)) rfl (XS.bipush X2.here hx rfl (hb hby (d11 54)) (XS.idiv X2.here hx rfl (hb hby (d11 55)) rfl (by decide) (XS.istore X2.here hx rfl (hb hby (d11 56)) rfl (l' := #[.val (.long (own_ngL q0)), .second, vi p1, vr a2, .unset, .unset, .unset, vi p1, vi (own_bL q0), vi (((own_ngL q0).toInt32) / (100 : Int32)), vi ((own_ngL q0).toInt32)]) rfl q)))) ?_
    show OF _ _ _ _ (T2.setTop (mkF m 100 #[.val (.long (own_ngL q0)), .second, vi p1, vr a2, .unset, .unset, .unset, vi p1, vi (own_bL q0), vi (((own_ngL q0).toInt32) / (100 : Int32)), vi ((own_ngL q0).toInt32)] []))
    refine oS (fun _ q => XS.iload X2.here hx rfl (hb hby (d11 57)) rfl (XS.bipush X2.here hx rfl (hb hby (d11 58)) (XS.imul X2.here hx rfl (hb hby (d11 59)) rfl (XS.iload X2.here hx rfl (hb hby (d11 60)) rfl (XS.isub X2.here hx rfl (hb hby (d11 61)) rfl (XS.istore X2.here hx rfl (hb hby (d11 62)) rfl (l' := #[.val (.long (own_ngL q0)), .second, vi p1, vr a2, .unset, .unset, vi (((((own_ngL q0).toInt32) / (100 : Int32)) * 100) - ((own_ngL q0).toInt32)), vi p1, vi (own_bL q0), vi (((own_ngL q0).toInt32) / (100 : Int32)), vi ((own_ngL q0).toInt32)]) rfl (XS.iload X2.here hx rfl (hb hby (d11 63)) rfl (XS.istore X2.here hx rfl (hb hby (d11 64)) rfl (l' := #[.val (.long (own_ngL q0)), .second, vi p1, vr a2, .unset, .unset, vi (((((own_ngL q0).toInt32) / (100 : Int32)) * 100) - ((own_ngL q0).toInt32)), vi p1, vi (own_bL q0), vi (((own_ngL q0).toInt32) / (100 : Int32)), vi (((own_ngL q0).toInt32) / (100 : Int32))]) rfl q)))))))) ?_
    show OF _ _ _ _ (T2.setTop (mkF m 114 _ _))
    refine oS (fun _ q => XS.aloadN X2.here hx rfl (hb hby (d11 65)) rfl rfl (XS.iinc X2.here hx rfl (hb hby (d11 66)) rfl (l' := #[.val (.long (own_ngL q0)), .second, vi p1, vr a2, .unset, .unset, vi (((((own_ngL q0).toInt32) / (100 : Int32)) * 100) - ((own_ngL q0).toInt32)), vi (p1 + (-1)), vi (own_bL q0), vi (((own_ngL q0).toInt32) / (100 : Int32)), vi (((own_ngL q0).toInt32) / (100 : Int32))]) rfl (XS.iload X2.here hx rfl (hb hby (d11 67)) rfl q))) ?_
    show OF _ _ _ _ (T2.setTop (mkF m 120 #[.val (.long (own_ngL q0)), .second, vi p1, vr a2, .unset, .unset, vi (((((own_ngL q0).toInt32) / (100 : Int32)) * 100) - ((own_ngL q0).toInt32)), vi (p1 + (-1)), vi (own_bL q0), vi (((own_ngL q0).toInt32) / (100 : Int32)), vi (((own_ngL q0).toInt32) / (100 : Int32))] [(.int (p1 + (-1))), (.ref a2)]))
    obtain ⟨T33, X33, e33, st33⟩ := getS2 X2 hx hZ hown (host := "") (Or.inl (w_ hw 88 rfl)) Via.refl e2 (S_DigitOnes.ext Ol0.2) (g := (mkF m 120 #[.val (.long (own_ngL q0)), .second, vi p1, vr a2, .unset, .unset, vi (((((own_ngL q0).toInt32) / (100 : Int32)) * 100) - ((own_ngL q0).toInt32)), vi (p1 + (-1)), vi (own_bL q0), vi (((own_ngL q0).toInt32) / (100 : Int32)), vi (((own_ngL q0).toInt32) / (100 : Int32))] [(.int (p1 + (-1))), (.ref a2)])) rfl (hb hby (d11 68))
    refine oS st33 ?_
    show OF _ _ _ _ (T33.setTop (mkF m 123 _ _))
    refine oS (fun _ q => XS.iload X33.here hx rfl (hb hby (d11 69)) rfl q) ?_
    show OF _ _ _ _ (T33.setTop (mkF m 125 #[.val (.long (own_ngL q0)), .second, vi p1, vr a2, .unset, .unset, vi (((((own_ngL q0).toInt32) / (100 : Int32)) * 100) - ((own_ngL q0).toInt32)), vi (p1 + (-1)), vi (own_bL q0), vi (((own_ngL q0).toInt32) / (100 : Int32)), vi (((own_ngL q0).toInt32) / (100 : Int32))] [(.int (((((own_ngL q0).toInt32) / (100 : Int32)) * 100) - ((own_ngL q0).toInt32))), (.ref w_DigitOnes), (.int (p1 + (-1))), (.ref a2)]))
    have Vo34 : Arv Z h0 w_DigitOnes kO .byte (100 : Int32) (own_ml (100 : Int32) gO) (.int 0) := (VO.ext Ol0.2)
    obtain ⟨cl34, Ar34, qa34, Sa34, Na34, Ha34, Ga34⟩ := id Vo34
    have hib34 : ¬ (((((own_ngL q0).toInt32) / (100 : Int32)) * 100) - ((own_ngL q0).toInt32)) < 0 ∧ (((((own_ngL q0).toInt32) / (100 : Int32)) * 100) - ((own_ngL q0).toInt32)) < 100 := (own_rbI (own_iv2 (own_iv0 (own_preL hn) (own_ngLv q0)) hc6))
    have hin34 := inb_of Sa34 hib34
    refine oS (X33.baloadBytes hx (j := (((((own_ngL q0).toInt32) / (100 : Int32)) * 100) - ((own_ngL q0).toInt32))) (v := (.int (own_at gO (((((own_ngL q0).toInt32) / (100 : Int32)) * 100) - ((own_ngL q0).toInt32))))) (by rw [e33]; exact Ar34.1) (State.isArrayOf_alike (hZ).alike Ar34.2.1) Ar34.2.2 hin34 (Ha34.at hin34 (own_mlat _ hib34)) (g := (mkF m 125 #[.val (.long (own_ngL q0)), .second, vi p1, vr a2, .unset, .unset, vi (((((own_ngL q0).toInt32) / (100 : Int32)) * 100) - ((own_ngL q0).toInt32)), vi (p1 + (-1)), vi (own_bL q0), vi (((own_ngL q0).toInt32) / (100 : Int32)), vi (((own_ngL q0).toInt32) / (100 : Int32))] [(.int (((((own_ngL q0).toInt32) / (100 : Int32)) * 100) - ((own_ngL q0).toInt32))), (.ref w_DigitOnes), (.int (p1 + (-1))), (.ref a2)])) rfl rfl (hb hby (d11 70))) ?_
    show OF _ _ _ _ (T33.setTop (mkF m 126 #[.val (.long (own_ngL q0)), .second, vi p1, vr a2, .unset, .unset, vi (((((own_ngL q0).toInt32) / (100 : Int32)) * 100) - ((own_ngL q0).toInt32)), vi (p1 + (-1)), vi (own_bL q0), vi (((own_ngL q0).toInt32) / (100 : Int32)), vi (((own_ngL q0).toInt32) / (100 : Int32))] [(.int (own_at gO (((((own_ngL q0).toInt32) / (100 : Int32)) * 100) - ((own_ngL q0).toInt32)))), (.int (p1 + (-1))), (.ref a2)]))
    have Vo35 : Arv Z h0 a2 k_a2 .byte z0 (own_ml z0 (own_fdL q0 p1 f0 p1)) (.int 0) := vE5
    obtain ⟨cl35, Ar35, qa35, Sa35, Na35, Ha35, Ga35⟩ := id Vo35
    have hib35 : ¬ (p1 + (-1)) < 0 ∧ (p1 + (-1)) < z0 := (own_i1 (own_preL hn) (own_iv2 (own_iv0 (own_preL hn) (own_ngLv q0)) hc6) (own_x2 hc7))
    obtain ⟨T35, h35, X35, e35, W35, st35⟩ := stB X33 hx hZ e33 Ar35 (j := (p1 + (-1))) (inb_of Sa35 hib35) (g := (mkF m 126 #[.val (.long (own_ngL q0)), .second, vi p1, vr a2, .unset, .unset, vi (((((own_ngL q0).toInt32) / (100 : Int32)) * 100) - ((own_ngL q0).toInt32)), vi (p1 + (-1)), vi (own_bL q0), vi (((own_ngL q0).toInt32) / (100 : Int32)), vi (((own_ngL q0).toInt32) / (100 : Int32))] [(.int (own_at gO (((((own_ngL q0).toInt32) / (100 : Int32)) * 100) - ((own_ngL q0).toInt32)))), (.int (p1 + (-1))), (.ref a2)])) rfl rfl (hb hby (d11 71))
    refine oS st35 ?_
    have V35 : Arv Z h35 a2 k_a2 .byte z0 (own_ml z0 (own_upd (own_fdL q0 p1 f0 p1) (p1 + (-1)) ((own_at gO (((((own_ngL q0).toInt32) / (100 : Int32)) * 100) - ((own_ngL q0).toInt32))).toInt8.toInt32))) (.int 0) := by
      have z := Arv.set Ar35 qa35 Sa35 Na35 Ha35 Ga35 (fits_nar_byte _) W35 _ rfl (by rw [own_mllen]; exact own_idx hib35)
      rw [own_mlset] at z
      exact z
    have N35 := Fr.snoc X35 N2 g_a2
    have kp36 : Keep h0 h35 [a2] := kp0.wr W35 (Or.inl (List.mem_of_getElem? (i := 0) rfl))
    have ol36 : Old Z n0 h35 := Ol0.wr W35 g_a2
    show OF _ _ _ _ (T35.setTop (mkF m 127 _ _))
    refine oS (fun _ q => XS.aloadN X35.here hx rfl (hb hby (d11 72)) rfl rfl (XS.iinc X35.here hx rfl (hb hby (d11 73)) rfl (l' := #[.val (.long (own_ngL q0)), .second, vi p1, vr a2, .unset, .unset, vi (((((own_ngL q0).toInt32) / (100 : Int32)) * 100) - ((own_ngL q0).toInt32)), vi ((p1 + (-1)) + (-1)), vi (own_bL q0), vi (((own_ngL q0).toInt32) / (100 : Int32)), vi (((own_ngL q0).toInt32) / (100 : Int32))]) rfl (XS.iload X35.here hx rfl (hb hby (d11 74)) rfl q))) ?_
    show OF _ _ _ _ (T35.setTop (mkF m 133 #[.val (.long (own_ngL q0)), .second, vi p1, vr a2, .unset, .unset, vi (((((own_ngL q0).toInt32) / (100 : Int32)) * 100) - ((own_ngL q0).toInt32)), vi ((p1 + (-1)) + (-1)), vi (own_bL q0), vi (((own_ngL q0).toInt32) / (100 : Int32)), vi (((own_ngL q0).toInt32) / (100 : Int32))] [(.int ((p1 + (-1)) + (-1))), (.ref a2)]))
    obtain ⟨T37, X37, e37, st37⟩ := getS2 X35 hx hZ hown (host := "") (Or.inl (w_ hw 252 rfl)) Via.refl e35 (S_DigitTens.ext ol36.2) (g := (mkF m 133 #[.val (.long (own_ngL q0)), .second, vi p1, vr a2, .unset, .unset, vi (((((own_ngL q0).toInt32) / (100 : Int32)) * 100) - ((own_ngL q0).toInt32)), vi ((p1 + (-1)) + (-1)), vi (own_bL q0), vi (((own_ngL q0).toInt32) / (100 : Int32)), vi (((own_ngL q0).toInt32) / (100 : Int32))] [(.int ((p1 + (-1)) + (-1))), (.ref a2)])) rfl (hb hby (d11 75))
    refine oS st37 ?_
    show OF _ _ _ _ (T37.setTop (mkF m 136 _ _))
    refine oS (fun _ q => XS.iload X37.here hx rfl (hb hby (d11 76)) rfl q) ?_
    show OF _ _ _ _ (T37.setTop (mkF m 138 #[.val (.long (own_ngL q0)), .second, vi p1, vr a2, .unset, .unset, vi (((((own_ngL q0).toInt32) / (100 : Int32)) * 100) - ((own_ngL q0).toInt32)), vi ((p1 + (-1)) + (-1)), vi (own_bL q0), vi (((own_ngL q0).toInt32) / (100 : Int32)), vi (((own_ngL q0).toInt32) / (100 : Int32))] [(.int (((((own_ngL q0).toInt32) / (100 : Int32)) * 100) - ((own_ngL q0).toInt32))), (.ref w_DigitTens), (.int ((p1 + (-1)) + (-1))), (.ref a2)]))
    have Vo38 : Arv Z h35 w_DigitTens kT .byte (100 : Int32) (own_ml (100 : Int32) gT) (.int 0) := (VT.ext ol36.2)
    obtain ⟨cl38, Ar38, qa38, Sa38, Na38, Ha38, Ga38⟩ := id Vo38
    have hib38 : ¬ (((((own_ngL q0).toInt32) / (100 : Int32)) * 100) - ((own_ngL q0).toInt32)) < 0 ∧ (((((own_ngL q0).toInt32) / (100 : Int32)) * 100) - ((own_ngL q0).toInt32)) < 100 := (own_rbI (own_iv2 (own_iv0 (own_preL hn) (own_ngLv q0)) hc6))
    have hin38 := inb_of Sa38 hib38
    refine oS (X37.baloadBytes hx (j := (((((own_ngL q0).toInt32) / (100 : Int32)) * 100) - ((own_ngL q0).toInt32))) (v := (.int (own_at gT (((((own_ngL q0).toInt32) / (100 : Int32)) * 100) - ((own_ngL q0).toInt32))))) (by rw [e37]; exact Ar38.1) (State.isArrayOf_alike (hZ).alike Ar38.2.1) Ar38.2.2 hin38 (Ha38.at hin38 (own_mlat _ hib38)) (g := (mkF m 138 #[.val (.long (own_ngL q0)), .second, vi p1, vr a2, .unset, .unset, vi (((((own_ngL q0).toInt32) / (100 : Int32)) * 100) - ((own_ngL q0).toInt32)), vi ((p1 + (-1)) + (-1)), vi (own_bL q0), vi (((own_ngL q0).toInt32) / (100 : Int32)), vi (((own_ngL q0).toInt32) / (100 : Int32))] [(.int (((((own_ngL q0).toInt32) / (100 : Int32)) * 100) - ((own_ngL q0).toInt32))), (.ref w_DigitTens), (.int ((p1 + (-1)) + (-1))), (.ref a2)])) rfl rfl (hb hby (d11 77))) ?_
    show OF _ _ _ _ (T37.setTop (mkF m 139 #[.val (.long (own_ngL q0)), .second, vi p1, vr a2, .unset, .unset, vi (((((own_ngL q0).toInt32) / (100 : Int32)) * 100) - ((own_ngL q0).toInt32)), vi ((p1 + (-1)) + (-1)), vi (own_bL q0), vi (((own_ngL q0).toInt32) / (100 : Int32)), vi (((own_ngL q0).toInt32) / (100 : Int32))] [(.int (own_at gT (((((own_ngL q0).toInt32) / (100 : Int32)) * 100) - ((own_ngL q0).toInt32)))), (.int ((p1 + (-1)) + (-1))), (.ref a2)]))
    have Vo39 : Arv Z h35 a2 k_a2 .byte z0 (own_ml z0 (own_upd (own_fdL q0 p1 f0 p1) (p1 + (-1)) ((own_at gO (((((own_ngL q0).toInt32) / (100 : Int32)) * 100) - ((own_ngL q0).toInt32))).toInt8.toInt32))) (.int 0) := V35
    obtain ⟨cl39, Ar39, qa39, Sa39, Na39, Ha39, Ga39⟩ := id Vo39
    have hib39 : ¬ ((p1 + (-1)) + (-1)) < 0 ∧ ((p1 + (-1)) + (-1)) < z0 := (own_i2 (own_preL hn) (own_iv2 (own_iv0 (own_preL hn) (own_ngLv q0)) hc6) (own_x2 hc7))
    obtain ⟨T39, h39, X39, e39, W39, st39⟩ := stB X37 hx hZ e37 Ar39 (j := ((p1 + (-1)) + (-1))) (inb_of Sa39 hib39) (g := (mkF m 139 #[.val (.long (own_ngL q0)), .second, vi p1, vr a2, .unset, .unset, vi (((((own_ngL q0).toInt32) / (100 : Int32)) * 100) - ((own_ngL q0).toInt32)), vi ((p1 + (-1)) + (-1)), vi (own_bL q0), vi (((own_ngL q0).toInt32) / (100 : Int32)), vi (((own_ngL q0).toInt32) / (100 : Int32))] [(.int (own_at gT (((((own_ngL q0).toInt32) / (100 : Int32)) * 100) - ((own_ngL q0).toInt32)))), (.int ((p1 + (-1)) + (-1))), (.ref a2)])) rfl rfl (hb hby (d11 78))
    refine oS st39 ?_
    have V39 : Arv Z h39 a2 k_a2 .byte z0 (own_ml z0 (own_upd (own_upd (own_fdL q0 p1 f0 p1) (p1 + (-1)) ((own_at gO (((((own_ngL q0).toInt32) / (100 : Int32)) * 100) - ((own_ngL q0).toInt32))).toInt8.toInt32)) ((p1 + (-1)) + (-1)) ((own_at gT (((((own_ngL q0).toInt32) / (100 : Int32)) * 100) - ((own_ngL q0).toInt32))).toInt8.toInt32))) (.int 0) := by
      have z := Arv.set Ar39 qa39 Sa39 Na39 Ha39 Ga39 (fits_nar_byte _) W39 _ rfl (by rw [own_mllen]; exact own_idx hib39)
      rw [own_mlset] at z
      exact z
    have N39 := Fr.snoc X39 N35 g_a2
    have kp40 : Keep h0 h39 [a2] := kp36.wr W39 (Or.inl (List.mem_of_getElem? (i := 0) rfl))
    have ol40 : Old Z n0 h39 := ol36.wr W39 g_a2
    show OF _ _ _ _ (T39.setTop (mkF m 140 _ _))
    refine oS (fun _ q => XS.goto X39.here hx rfl (pc0 := 140) (pc' := 86) rfl (hb hby (d11 79)) (by decide) (by decide) q) ?_
    have H41 : ∀ (fu : Nat) (x : Int32) (cc : Int32) (rr : Int32) (T : State) (lc : List Loc) (h : Heap) (_ : own_iv q0.toInt.natAbs p1.toNatClampNeg x.toInt cc.toInt), cc.toNatClampNeg < fu → Stand p l e ({ frames := 0, cells := 0, slots := 0, locals := 0 } : Room) s m #[(.long q0), (.int p1), (.ref a2)] below meth c T lc 0 0 → Fr n0 lc → T.heap = h → Keep h39 h [a2] → Arv Z h a2 k_a2 .byte z0 (own_ml z0 (own_fdL q0 p1 f0 cc)) (.int 0) → OF p.tables e below GG (T.setTop (mkF m 86 #[.val (.long (own_ngL q0)), .second, vi p1, vr a2, .unset, .unset, vi rr, vi cc, vi (own_bL q0), vi x, vi x] [])) := by
     intro fu
     induction fu with
     | zero => intro x cc rr T lc h hv2 hfu; exact absurd hfu (Nat.not_lt_zero _)
     | succ fu ih =>
      intro x cc rr T41 lc41 h41 hv2 hfu X41 N41 e41 K41 Va41_0
      have kp42 : Keep h0 h41 [a2] := kp40.trans K41 (allS (Or.inl (List.mem_of_getElem? (i := 0) rfl)) all0)
      have ol42 : Old Z n0 h41 := ol40.keep K41 (allS g_a2 all0)
      show OF _ _ _ _ (T41.setTop (mkF m 86 #[.val (.long (own_ngL q0)), .second, vi p1, vr a2, .unset, .unset, vi rr, vi cc, vi (own_bL q0), vi x, vi x] []))
      refine oS (fun _ q => XS.iload X41.here hx rfl (hb hby (d11 50)) rfl (XS.bipush X41.here hx rfl (hb hby (d11 51)) q)) ?_
      by_cases hc43 : (-100 : Int32) < x
      ·
       refine oS (fun _ q => XS.icmpYes X41.here hx rfl (pc0 := 90) (pc' := 143) rfl (hb hby (d11 52)) rfl (Jvm.Free.XT.ii_gt_t hc43) (by decide) (by decide) q) ?_
       show OF _ _ _ _ (T41.setTop (mkF m 143 _ _))
       refine oS (fun _ q => XS.aloadN X41.here hx rfl (hb hby (d11 80)) rfl rfl (XS.iinc X41.here hx rfl (hb hby (d11 81)) rfl (l' := #[.val (.long (own_ngL q0)), .second, vi p1, vr a2, .unset, .unset, vi rr, vi (cc + (-1)), vi (own_bL q0), vi x, vi x]) rfl (XS.iload X41.here hx rfl (hb hby (d11 82)) rfl q))) ?_
       show OF _ _ _ _ (T41.setTop (mkF m 149 #[.val (.long (own_ngL q0)), .second, vi p1, vr a2, .unset, .unset, vi rr, vi (cc + (-1)), vi (own_bL q0), vi x, vi x] [(.int (cc + (-1))), (.ref a2)]))
       obtain ⟨T44, X44, e44, st44⟩ := getS2 X41 hx hZ hown (host := "") (Or.inl (w_ hw 88 rfl)) Via.refl e41 (S_DigitOnes.ext ol42.2) (g := (mkF m 149 #[.val (.long (own_ngL q0)), .second, vi p1, vr a2, .unset, .unset, vi rr, vi (cc + (-1)), vi (own_bL q0), vi x, vi x] [(.int (cc + (-1))), (.ref a2)])) rfl (hb hby (d11 83))
       refine oS st44 ?_
       show OF _ _ _ _ (T44.setTop (mkF m 152 _ _))
       refine oS (fun _ q => XS.iload X44.here hx rfl (hb hby (d11 84)) rfl (XS.ineg X44.here hx rfl (hb hby (d11 85)) rfl q)) ?_
       show OF _ _ _ _ (T44.setTop (mkF m 155 #[.val (.long (own_ngL q0)), .second, vi p1, vr a2, .unset, .unset, vi rr, vi (cc + (-1)), vi (own_bL q0), vi x, vi x] [(.int (-x)), (.ref w_DigitOnes), (.int (cc + (-1))), (.ref a2)]))
       have Vo45 : Arv Z h41 w_DigitOnes kO .byte (100 : Int32) (own_ml (100 : Int32) gO) (.int 0) := (VO.ext ol42.2)
       obtain ⟨cl45, Ar45, qa45, Sa45, Na45, Ha45, Ga45⟩ := id Vo45
       have hib45 : ¬ (-x) < 0 ∧ (-x) < 100 := (own_nxb hv2 hc43)
       have hin45 := inb_of Sa45 hib45
       refine oS (X44.baloadBytes hx (j := (-x)) (v := (.int (own_at gO (-x)))) (by rw [e44]; exact Ar45.1) (State.isArrayOf_alike (hZ).alike Ar45.2.1) Ar45.2.2 hin45 (Ha45.at hin45 (own_mlat _ hib45)) (g := (mkF m 155 #[.val (.long (own_ngL q0)), .second, vi p1, vr a2, .unset, .unset, vi rr, vi (cc + (-1)), vi (own_bL q0), vi x, vi x] [(.int (-x)), (.ref w_DigitOnes), (.int (cc + (-1))), (.ref a2)])) rfl rfl (hb hby (d11 86))) ?_
       show OF _ _ _ _ (T44.setTop (mkF m 156 #[.val (.long (own_ngL q0)), .second, vi p1, vr a2, .unset, .unset, vi rr, vi (cc + (-1)), vi (own_bL q0), vi x, vi x] [(.int (own_at gO (-x))), (.int (cc + (-1))), (.ref a2)]))
       have Vo46 : Arv Z h41 a2 k_a2 .byte z0 (own_ml z0 (own_fdL q0 p1 f0 cc)) (.int 0) := Va41_0
       obtain ⟨cl46, Ar46, qa46, Sa46, Na46, Ha46, Ga46⟩ := id Vo46
       have hib46 : ¬ (cc + (-1)) < 0 ∧ (cc + (-1)) < z0 := (own_ib (own_tb (own_preL hn) hv2 hc43).1 (own_tb (own_preL hn) hv2 hc43).2.1)
       obtain ⟨T46, h46, X46, e46, W46, st46⟩ := stB X44 hx hZ e44 Ar46 (j := (cc + (-1))) (inb_of Sa46 hib46) (g := (mkF m 156 #[.val (.long (own_ngL q0)), .second, vi p1, vr a2, .unset, .unset, vi rr, vi (cc + (-1)), vi (own_bL q0), vi x, vi x] [(.int (own_at gO (-x))), (.int (cc + (-1))), (.ref a2)])) rfl rfl (hb hby (d11 87))
       refine oS st46 ?_
       have V46 : Arv Z h46 a2 k_a2 .byte z0 (own_ml z0 (own_upd (own_fdL q0 p1 f0 cc) (cc + (-1)) ((own_at gO (-x)).toInt8.toInt32))) (.int 0) := by
         have z := Arv.set Ar46 qa46 Sa46 Na46 Ha46 Ga46 (fits_nar_byte _) W46 _ rfl (by rw [own_mllen]; exact own_idx hib46)
         rw [own_mlset] at z
         exact z
       have N46 := Fr.snoc X46 N41 g_a2
       have kp47 : Keep h0 h46 [a2] := kp42.wr W46 (Or.inl (List.mem_of_getElem? (i := 0) rfl))
       have ol47 : Old Z n0 h46 := ol42.wr W46 g_a2
       show OF _ _ _ _ (T46.setTop (mkF m 157 _ _))
       have vE48 : Arv Z h46 a2 k_a2 .byte z0 (own_ml z0 (own_fdL q0 p1 f0 (cc + (-1)))) (.int 0) := own_mlcong (own_t1 (own_preL hn) hv2 hc43 hO) V46
       refine oS (fun _ q => XS.iload X46.here hx rfl (hb hby (d11 88)) rfl (XS.bipush X46.here hx rfl (hb hby (d11 89)) q)) ?_
       by_cases hc49 : x < (-9)
       ·
        refine oS (fun _ q => XS.icmpNo X46.here hx rfl (hb hby (d11 90)) rfl (Jvm.Free.XT.ii_ge_f hc49) q) ?_
        show OF _ _ _ _ (T46.setTop (mkF m 164 _ _))
        refine oS (fun _ q => XS.aloadN X46.here hx rfl (hb hby (d11 91)) rfl rfl (XS.iinc X46.here hx rfl (hb hby (d11 92)) rfl (l' := #[.val (.long (own_ngL q0)), .second, vi p1, vr a2, .unset, .unset, vi rr, vi ((cc + (-1)) + (-1)), vi (own_bL q0), vi x, vi x]) rfl (XS.iload X46.here hx rfl (hb hby (d11 93)) rfl q))) ?_
        show OF _ _ _ _ (T46.setTop (mkF m 170 #[.val (.long (own_ngL q0)), .second, vi p1, vr a2, .unset, .unset, vi rr, vi ((cc + (-1)) + (-1)), vi (own_bL q0), vi x, vi x] [(.int ((cc + (-1)) + (-1))), (.ref a2)]))
        obtain ⟨T50, X50, e50, st50⟩ := getS2 X46 hx hZ hown (host := "") (Or.inl (w_ hw 252 rfl)) Via.refl e46 (S_DigitTens.ext ol47.2) (g := (mkF m 170 #[.val (.long (own_ngL q0)), .second, vi p1, vr a2, .unset, .unset, vi rr, vi ((cc + (-1)) + (-1)), vi (own_bL q0), vi x, vi x] [(.int ((cc + (-1)) + (-1))), (.ref a2)])) rfl (hb hby (d11 94))
        refine oS st50 ?_
        show OF _ _ _ _ (T50.setTop (mkF m 173 _ _))
        refine oS (fun _ q => XS.iload X50.here hx rfl (hb hby (d11 95)) rfl (XS.ineg X50.here hx rfl (hb hby (d11 96)) rfl q)) ?_
        show OF _ _ _ _ (T50.setTop (mkF m 176 #[.val (.long (own_ngL q0)), .second, vi p1, vr a2, .unset, .unset, vi rr, vi ((cc + (-1)) + (-1)), vi (own_bL q0), vi x, vi x] [(.int (-x)), (.ref w_DigitTens), (.int ((cc + (-1)) + (-1))), (.ref a2)]))
        have Vo51 : Arv Z h46 w_DigitTens kT .byte (100 : Int32) (own_ml (100 : Int32) gT) (.int 0) := (VT.ext ol47.2)
        obtain ⟨cl51, Ar51, qa51, Sa51, Na51, Ha51, Ga51⟩ := id Vo51
        have hib51 : ¬ (-x) < 0 ∧ (-x) < 100 := (own_nxb hv2 hc43)
        have hin51 := inb_of Sa51 hib51
        refine oS (X50.baloadBytes hx (j := (-x)) (v := (.int (own_at gT (-x)))) (by rw [e50]; exact Ar51.1) (State.isArrayOf_alike (hZ).alike Ar51.2.1) Ar51.2.2 hin51 (Ha51.at hin51 (own_mlat _ hib51)) (g := (mkF m 176 #[.val (.long (own_ngL q0)), .second, vi p1, vr a2, .unset, .unset, vi rr, vi ((cc + (-1)) + (-1)), vi (own_bL q0), vi x, vi x] [(.int (-x)), (.ref w_DigitTens), (.int ((cc + (-1)) + (-1))), (.ref a2)])) rfl rfl (hb hby (d11 97))) ?_
        show OF _ _ _ _ (T50.setTop (mkF m 177 #[.val (.long (own_ngL q0)), .second, vi p1, vr a2, .unset, .unset, vi rr, vi ((cc + (-1)) + (-1)), vi (own_bL q0), vi x, vi x] [(.int (own_at gT (-x))), (.int ((cc + (-1)) + (-1))), (.ref a2)]))
        have Vo52 : Arv Z h46 a2 k_a2 .byte z0 (own_ml z0 (own_fdL q0 p1 f0 (cc + (-1)))) (.int 0) := vE48
        obtain ⟨cl52, Ar52, qa52, Sa52, Na52, Ha52, Ga52⟩ := id Vo52
        have hib52 : ¬ ((cc + (-1)) + (-1)) < 0 ∧ ((cc + (-1)) + (-1)) < z0 := (own_ib2 ((own_tb (own_preL hn) hv2 hc43).2.2.1 hc49) (own_tb (own_preL hn) hv2 hc43).2.1)
        obtain ⟨T52, h52, X52, e52, W52, st52⟩ := stB X50 hx hZ e50 Ar52 (j := ((cc + (-1)) + (-1))) (inb_of Sa52 hib52) (g := (mkF m 177 #[.val (.long (own_ngL q0)), .second, vi p1, vr a2, .unset, .unset, vi rr, vi ((cc + (-1)) + (-1)), vi (own_bL q0), vi x, vi x] [(.int (own_at gT (-x))), (.int ((cc + (-1)) + (-1))), (.ref a2)])) rfl rfl (hb hby (d11 98))
        refine oS st52 ?_
        have V52 : Arv Z h52 a2 k_a2 .byte z0 (own_ml z0 (own_upd (own_fdL q0 p1 f0 (cc + (-1))) ((cc + (-1)) + (-1)) ((own_at gT (-x)).toInt8.toInt32))) (.int 0) := by
          have z := Arv.set Ar52 qa52 Sa52 Na52 Ha52 Ga52 (fits_nar_byte _) W52 _ rfl (by rw [own_mllen]; exact own_idx hib52)
          rw [own_mlset] at z
          exact z
        have N52 := Fr.snoc X52 N46 g_a2
        have kp53 : Keep h0 h52 [a2] := kp47.wr W52 (Or.inl (List.mem_of_getElem? (i := 0) rfl))
        have ol53 : Old Z n0 h52 := ol47.wr W52 g_a2
        show OF _ _ _ _ (T52.setTop (mkF m 178 _ _))
        have vE54 : Arv Z h52 a2 k_a2 .byte z0 (own_ml z0 (own_fdL q0 p1 f0 ((cc + (-1)) + (-1)))) (.int 0) := own_mlcong (own_t2 (own_preL hn) hv2 hc43 hc49 hT) V52
        refine oS (fun _ q => XS.iload X52.here hx rfl (hb hby (d11 99)) rfl q) ?_
        by_cases hc55 : q0 < 0
        ·
         have hi56 : ¬ ((own_bL q0) = 0) := (by rw [if_pos hc55] <;> decide : ¬ ((if q0 < 0 then (1 : Int32) else (0 : Int32)) = 0))
         refine oS (fun _ q => XS.ifNo X52.here hx rfl (hb hby (d11 100)) rfl (Jvm.Free.XT.i0_eq_f hi56) q) ?_
         show OF _ _ _ _ (T52.setTop (mkF m 183 _ _))
         refine oS (fun _ q => XS.aloadN X52.here hx rfl (hb hby (d11 101)) rfl rfl (XS.iinc X52.here hx rfl (hb hby (d11 102)) rfl (l' := #[.val (.long (own_ngL q0)), .second, vi p1, vr a2, .unset, .unset, vi rr, vi (((cc + (-1)) + (-1)) + (-1)), vi (own_bL q0), vi x, vi x]) rfl (XS.iload X52.here hx rfl (hb hby (d11 103)) rfl (XS.bipush X52.here hx rfl (hb hby (d11 104)) q)))) ?_
         show OF _ _ _ _ (T52.setTop (mkF m 191 #[.val (.long (own_ngL q0)), .second, vi p1, vr a2, .unset, .unset, vi rr, vi (((cc + (-1)) + (-1)) + (-1)), vi (own_bL q0), vi x, vi x] [(.int 45), (.int (((cc + (-1)) + (-1)) + (-1))), (.ref a2)]))
         have Vo57 : Arv Z h52 a2 k_a2 .byte z0 (own_ml z0 (own_fdL q0 p1 f0 ((cc + (-1)) + (-1)))) (.int 0) := vE54
         obtain ⟨cl57, Ar57, qa57, Sa57, Na57, Ha57, Ga57⟩ := id Vo57
         have hib57 : ¬ (((cc + (-1)) + (-1)) + (-1)) < 0 ∧ (((cc + (-1)) + (-1)) + (-1)) < z0 := (own_ib (own_sgL hn (own_e2 (own_preL hn) hv2 hc43 hc49) hc55) (own_e2 (own_preL hn) hv2 hc43 hc49).2.1)
         obtain ⟨T57, h57, X57, e57, W57, st57⟩ := stB X52 hx hZ e52 Ar57 (j := (((cc + (-1)) + (-1)) + (-1))) (inb_of Sa57 hib57) (g := (mkF m 191 #[.val (.long (own_ngL q0)), .second, vi p1, vr a2, .unset, .unset, vi rr, vi (((cc + (-1)) + (-1)) + (-1)), vi (own_bL q0), vi x, vi x] [(.int 45), (.int (((cc + (-1)) + (-1)) + (-1))), (.ref a2)])) rfl rfl (hb hby (d11 105))
         refine oS st57 ?_
         have V57 : Arv Z h57 a2 k_a2 .byte z0 (own_ml z0 (own_upd (own_fdL q0 p1 f0 ((cc + (-1)) + (-1))) (((cc + (-1)) + (-1)) + (-1)) ((45 : Int32).toInt8.toInt32))) (.int 0) := by
           have z := Arv.set Ar57 qa57 Sa57 Na57 Ha57 Ga57 (fits_nar_byte _) W57 _ rfl (by rw [own_mllen]; exact own_idx hib57)
           rw [own_mlset] at z
           exact z
         have N57 := Fr.snoc X57 N52 g_a2
         have kp58 : Keep h0 h57 [a2] := kp53.wr W57 (Or.inl (List.mem_of_getElem? (i := 0) rfl))
         have ol58 : Old Z n0 h57 := ol53.wr W57 g_a2
         show OF _ _ _ _ (T57.setTop (mkF m 192 _ _))
         refine oS (fun _ q => XS.iload X57.here hx rfl (hb hby (d11 106)) rfl q) ?_
         show OF _ _ _ _ (T57.setTop (mkF m 194 #[.val (.long (own_ngL q0)), .second, vi p1, vr a2, .unset, .unset, vi rr, vi (((cc + (-1)) + (-1)) + (-1)), vi (own_bL q0), vi x, vi x] [(.int (((cc + (-1)) + (-1)) + (-1)))]))
         rw [hGG]
         obtain ⟨fs, hr, hrun, hended, hW, hsame⟩ := X57.leave (v := some (.int (((cc + (-1)) + (-1)) + (-1)))) (fun h => by rw [Bd.returns] at h; cases h)
         refine ⟨_, _, retI X57 hx Bd.returns (hb hby (d11 107)) hr, hrun, hended, _, _, rfl, ?_, ⟨_, rfl⟩, hW, hsame.mono (by decide) (by decide)⟩
         show Q_rm_gcL Z q0 p1 a2 k_a2 z0 f0 kO gO w_DigitOnes kT gT w_DigitTens h0 n0 _ T57.heap _
         rw [e57]
         have vE59 : Arv Z h57 a2 k_a2 .byte z0 (own_ml z0 (own_outL q0 p1 f0)) (.int 0) := own_mlcong (own_oY (own_sgL hn (own_e2 (own_preL hn) hv2 hc43 hc49) hc55) (own_e2 (own_preL hn) hv2 hc43 hc49).2.2 (own_ltL.mp hc55)) V57
         exact ⟨(((cc + (-1)) + (-1)) + (-1)), rfl, N57, kp58, vE59⟩
        ·
         have hi60 : (own_bL q0) = 0 := (by rw [if_neg hc55] <;> decide : (if q0 < 0 then (1 : Int32) else (0 : Int32)) = 0)
         refine oS (fun _ q => XS.ifYes X52.here hx rfl (pc0 := 180) (pc' := 192) rfl (hb hby (d11 100)) rfl (Jvm.Free.XT.i0_eq_t hi60) (by decide) (by decide) q) ?_
         show OF _ _ _ _ (T52.setTop (mkF m 192 _ _))
         refine oS (fun _ q => XS.iload X52.here hx rfl (hb hby (d11 106)) rfl q) ?_
         show OF _ _ _ _ (T52.setTop (mkF m 194 #[.val (.long (own_ngL q0)), .second, vi p1, vr a2, .unset, .unset, vi rr, vi ((cc + (-1)) + (-1)), vi (own_bL q0), vi x, vi x] [(.int ((cc + (-1)) + (-1)))]))
         rw [hGG]
         obtain ⟨fs, hr, hrun, hended, hW, hsame⟩ := X52.leave (v := some (.int ((cc + (-1)) + (-1)))) (fun h => by rw [Bd.returns] at h; cases h)
         refine ⟨_, _, retI X52 hx Bd.returns (hb hby (d11 107)) hr, hrun, hended, _, _, rfl, ?_, ⟨_, rfl⟩, hW, hsame.mono (by decide) (by decide)⟩
         show Q_rm_gcL Z q0 p1 a2 k_a2 z0 f0 kO gO w_DigitOnes kT gT w_DigitTens h0 n0 _ T52.heap _
         rw [e52]
         have vE61 : Arv Z h52 a2 k_a2 .byte z0 (own_ml z0 (own_outL q0 p1 f0)) (.int 0) := own_mlcong (own_oN (own_e2 (own_preL hn) hv2 hc43 hc49).1 (own_e2 (own_preL hn) hv2 hc43 hc49).2.2 (fun q => hc55 (own_ltL.mpr q))) vE54
         exact ⟨((cc + (-1)) + (-1)), rfl, N52, kp53, vE61⟩
       ·
        refine oS (fun _ q => XS.icmpYes X46.here hx rfl (pc0 := 161) (pc' := 178) rfl (hb hby (d11 90)) rfl (Jvm.Free.XT.ii_ge_t hc49) (by decide) (by decide) q) ?_
        show OF _ _ _ _ (T46.setTop (mkF m 178 _ _))
        refine oS (fun _ q => XS.iload X46.here hx rfl (hb hby (d11 99)) rfl q) ?_
        by_cases hc62 : q0 < 0
        ·
         have hi63 : ¬ ((own_bL q0) = 0) := (by rw [if_pos hc62] <;> decide : ¬ ((if q0 < 0 then (1 : Int32) else (0 : Int32)) = 0))
         refine oS (fun _ q => XS.ifNo X46.here hx rfl (hb hby (d11 100)) rfl (Jvm.Free.XT.i0_eq_f hi63) q) ?_
         show OF _ _ _ _ (T46.setTop (mkF m 183 _ _))
         refine oS (fun _ q => XS.aloadN X46.here hx rfl (hb hby (d11 101)) rfl rfl (XS.iinc X46.here hx rfl (hb hby (d11 102)) rfl (l' := #[.val (.long (own_ngL q0)), .second, vi p1, vr a2, .unset, .unset, vi rr, vi ((cc + (-1)) + (-1)), vi (own_bL q0), vi x, vi x]) rfl (XS.iload X46.here hx rfl (hb hby (d11 103)) rfl (XS.bipush X46.here hx rfl (hb hby (d11 104)) q)))) ?_
         show OF _ _ _ _ (T46.setTop (mkF m 191 #[.val (.long (own_ngL q0)), .second, vi p1, vr a2, .unset, .unset, vi rr, vi ((cc + (-1)) + (-1)), vi (own_bL q0), vi x, vi x] [(.int 45), (.int ((cc + (-1)) + (-1))), (.ref a2)]))
         have Vo64 : Arv Z h46 a2 k_a2 .byte z0 (own_ml z0 (own_fdL q0 p1 f0 (cc + (-1)))) (.int 0) := vE48
         obtain ⟨cl64, Ar64, qa64, Sa64, Na64, Ha64, Ga64⟩ := id Vo64
         have hib64 : ¬ ((cc + (-1)) + (-1)) < 0 ∧ ((cc + (-1)) + (-1)) < z0 := (own_ib (own_sgL hn (own_e1 (own_preL hn) hv2 hc43 hc49) hc62) (own_e1 (own_preL hn) hv2 hc43 hc49).2.1)
         obtain ⟨T64, h64, X64, e64, W64, st64⟩ := stB X46 hx hZ e46 Ar64 (j := ((cc + (-1)) + (-1))) (inb_of Sa64 hib64) (g := (mkF m 191 #[.val (.long (own_ngL q0)), .second, vi p1, vr a2, .unset, .unset, vi rr, vi ((cc + (-1)) + (-1)), vi (own_bL q0), vi x, vi x] [(.int 45), (.int ((cc + (-1)) + (-1))), (.ref a2)])) rfl rfl (hb hby (d11 105))
         refine oS st64 ?_
         have V64 : Arv Z h64 a2 k_a2 .byte z0 (own_ml z0 (own_upd (own_fdL q0 p1 f0 (cc + (-1))) ((cc + (-1)) + (-1)) ((45 : Int32).toInt8.toInt32))) (.int 0) := by
           have z := Arv.set Ar64 qa64 Sa64 Na64 Ha64 Ga64 (fits_nar_byte _) W64 _ rfl (by rw [own_mllen]; exact own_idx hib64)
           rw [own_mlset] at z
           exact z
         have N64 := Fr.snoc X64 N46 g_a2
         have kp65 : Keep h0 h64 [a2] := kp47.wr W64 (Or.inl (List.mem_of_getElem? (i := 0) rfl))
         have ol65 : Old Z n0 h64 := ol47.wr W64 g_a2
         show OF _ _ _ _ (T64.setTop (mkF m 192 _ _))
         refine oS (fun _ q => XS.iload X64.here hx rfl (hb hby (d11 106)) rfl q) ?_
         show OF _ _ _ _ (T64.setTop (mkF m 194 #[.val (.long (own_ngL q0)), .second, vi p1, vr a2, .unset, .unset, vi rr, vi ((cc + (-1)) + (-1)), vi (own_bL q0), vi x, vi x] [(.int ((cc + (-1)) + (-1)))]))
         rw [hGG]
         obtain ⟨fs, hr, hrun, hended, hW, hsame⟩ := X64.leave (v := some (.int ((cc + (-1)) + (-1)))) (fun h => by rw [Bd.returns] at h; cases h)
         refine ⟨_, _, retI X64 hx Bd.returns (hb hby (d11 107)) hr, hrun, hended, _, _, rfl, ?_, ⟨_, rfl⟩, hW, hsame.mono (by decide) (by decide)⟩
         show Q_rm_gcL Z q0 p1 a2 k_a2 z0 f0 kO gO w_DigitOnes kT gT w_DigitTens h0 n0 _ T64.heap _
         rw [e64]
         have vE66 : Arv Z h64 a2 k_a2 .byte z0 (own_ml z0 (own_outL q0 p1 f0)) (.int 0) := own_mlcong (own_oY (own_sgL hn (own_e1 (own_preL hn) hv2 hc43 hc49) hc62) (own_e1 (own_preL hn) hv2 hc43 hc49).2.2 (own_ltL.mp hc62)) V64
         exact ⟨((cc + (-1)) + (-1)), rfl, N64, kp65, vE66⟩
        ·
         have hi67 : (own_bL q0) = 0 := (by rw [if_neg hc62] <;> decide : (if q0 < 0 then (1 : Int32) else (0 : Int32)) = 0)
         refine oS (fun _ q => XS.ifYes X46.here hx rfl (pc0 := 180) (pc' := 192) rfl (hb hby (d11 100)) rfl (Jvm.Free.XT.i0_eq_t hi67) (by decide) (by decide) q) ?_
         show OF _ _ _ _ (T46.setTop (mkF m 192 _ _))
         refine oS (fun _ q => XS.iload X46.here hx rfl (hb hby (d11 106)) rfl q) ?_
         show OF _ _ _ _ (T46.setTop (mkF m 194 #[.val (.long (own_ngL q0)), .second, vi p1, vr a2, .unset, .unset, vi rr, vi (cc + (-1)), vi (own_bL q0), vi x, vi x] [(.int (cc + (-1)))]))
         rw [hGG]
         obtain ⟨fs, hr, hrun, hended, hW, hsame⟩ := X46.leave (v := some (.int (cc + (-1)))) (fun h => by rw [Bd.returns] at h; cases h)
         refine ⟨_, _, retI X46 hx Bd.returns (hb hby (d11 107)) hr, hrun, hended, _, _, rfl, ?_, ⟨_, rfl⟩, hW, hsame.mono (by decide) (by decide)⟩
         show Q_rm_gcL Z q0 p1 a2 k_a2 z0 f0 kO gO w_DigitOnes kT gT w_DigitTens h0 n0 _ T46.heap _
         rw [e46]
         have vE68 : Arv Z h46 a2 k_a2 .byte z0 (own_ml z0 (own_outL q0 p1 f0)) (.int 0) := own_mlcong (own_oN (own_e1 (own_preL hn) hv2 hc43 hc49).1 (own_e1 (own_preL hn) hv2 hc43 hc49).2.2 (fun q => hc62 (own_ltL.mpr q))) vE48
         exact ⟨(cc + (-1)), rfl, N46, kp47, vE68⟩
      ·
       refine oS (fun _ q => XS.icmpNo X41.here hx rfl (hb hby (d11 52)) rfl (Jvm.Free.XT.ii_gt_f hc43) q) ?_
       show OF _ _ _ _ (T41.setTop (mkF m 93 _ _))
       refine oS (fun _ q => XS.iload X41.here hx rfl (hb hby (d11 53)) rfl (XS.bipush X41.here hx rfl (hb hby (d11 54)) (XS.idiv X41.here hx rfl (hb hby (d11 55)) rfl (by decide) (XS.istore X41.here hx rfl (hb hby (d11 56)) rfl (l' := #[.val (.long (own_ngL q0)), .second, vi p1, vr a2, .unset, .unset, vi rr, vi cc, vi (own_bL q0), vi (x / 100), vi x]) rfl (XS.iload X41.here hx rfl (hb hby (d11 57)) rfl (XS.bipush X41.here hx rfl (hb hby (d11 58)) (XS.imul X41.here hx rfl (hb hby (d11 59)) rfl (XS.iload X41.here hx rfl (hb hby (d11 60)) rfl q)))))))) ?_
       show OF _ _ _ _ (T41.setTop (mkF m 107 _ _))
       refine oS (fun _ q => XS.isub X41.here hx rfl (hb hby (d11 61)) rfl (XS.istore X41.here hx rfl (hb hby (d11 62)) rfl (l' := #[.val (.long (own_ngL q0)), .second, vi p1, vr a2, .unset, .unset, vi (((x / 100) * 100) - x), vi cc, vi (own_bL q0), vi (x / 100), vi x]) rfl q)) ?_
       show OF _ _ _ _ (T41.setTop (mkF m 110 #[.val (.long (own_ngL q0)), .second, vi p1, vr a2, .unset, .unset, vi (((x / 100) * 100) - x), vi cc, vi (own_bL q0), vi (x / 100), vi x] []))
       refine oS (fun _ q => XS.iload X41.here hx rfl (hb hby (d11 63)) rfl (XS.istore X41.here hx rfl (hb hby (d11 64)) rfl (l' := #[.val (.long (own_ngL q0)), .second, vi p1, vr a2, .unset, .unset, vi (((x / 100) * 100) - x), vi cc, vi (own_bL q0), vi (x / 100), vi (x / 100)]) rfl (XS.aloadN X41.here hx rfl (hb hby (d11 65)) rfl rfl (XS.iinc X41.here hx rfl (hb hby (d11 66)) rfl (l' := #[.val (.long (own_ngL q0)), .second, vi p1, vr a2, .unset, .unset, vi (((x / 100) * 100) - x), vi (cc + (-1)), vi (own_bL q0), vi (x / 100), vi (x / 100)]) rfl (XS.iload X41.here hx rfl (hb hby (d11 67)) rfl q))))) ?_
       show OF _ _ _ _ (T41.setTop (mkF m 120 #[.val (.long (own_ngL q0)), .second, vi p1, vr a2, .unset, .unset, vi (((x / 100) * 100) - x), vi (cc + (-1)), vi (own_bL q0), vi (x / 100), vi (x / 100)] [(.int (cc + (-1))), (.ref a2)]))
       obtain ⟨T69, X69, e69, st69⟩ := getS2 X41 hx hZ hown (host := "") (Or.inl (w_ hw 88 rfl)) Via.refl e41 (S_DigitOnes.ext ol42.2) (g := (mkF m 120 #[.val (.long (own_ngL q0)), .second, vi p1, vr a2, .unset, .unset, vi (((x / 100) * 100) - x), vi (cc + (-1)), vi (own_bL q0), vi (x / 100), vi (x / 100)] [(.int (cc + (-1))), (.ref a2)])) rfl (hb hby (d11 68))
       refine oS st69 ?_
       show OF _ _ _ _ (T69.setTop (mkF m 123 _ _))
       refine oS (fun _ q => XS.iload X69.here hx rfl (hb hby (d11 69)) rfl q) ?_
       show OF _ _ _ _ (T69.setTop (mkF m 125 #[.val (.long (own_ngL q0)), .second, vi p1, vr a2, .unset, .unset, vi (((x / 100) * 100) - x), vi (cc + (-1)), vi (own_bL q0), vi (x / 100), vi (x / 100)] [(.int (((x / 100) * 100) - x)), (.ref w_DigitOnes), (.int (cc + (-1))), (.ref a2)]))
       have Vo70 : Arv Z h41 w_DigitOnes kO .byte (100 : Int32) (own_ml (100 : Int32) gO) (.int 0) := (VO.ext ol42.2)
       obtain ⟨cl70, Ar70, qa70, Sa70, Na70, Ha70, Ga70⟩ := id Vo70
       have hib70 : ¬ (((x / 100) * 100) - x) < 0 ∧ (((x / 100) * 100) - x) < 100 := (own_rbI hv2)
       have hin70 := inb_of Sa70 hib70
       refine oS (X69.baloadBytes hx (j := (((x / 100) * 100) - x)) (v := (.int (own_at gO (((x / 100) * 100) - x)))) (by rw [e69]; exact Ar70.1) (State.isArrayOf_alike (hZ).alike Ar70.2.1) Ar70.2.2 hin70 (Ha70.at hin70 (own_mlat _ hib70)) (g := (mkF m 125 #[.val (.long (own_ngL q0)), .second, vi p1, vr a2, .unset, .unset, vi (((x / 100) * 100) - x), vi (cc + (-1)), vi (own_bL q0), vi (x / 100), vi (x / 100)] [(.int (((x / 100) * 100) - x)), (.ref w_DigitOnes), (.int (cc + (-1))), (.ref a2)])) rfl rfl (hb hby (d11 70))) ?_
       show OF _ _ _ _ (T69.setTop (mkF m 126 #[.val (.long (own_ngL q0)), .second, vi p1, vr a2, .unset, .unset, vi (((x / 100) * 100) - x), vi (cc + (-1)), vi (own_bL q0), vi (x / 100), vi (x / 100)] [(.int (own_at gO (((x / 100) * 100) - x))), (.int (cc + (-1))), (.ref a2)]))
       have Vo71 : Arv Z h41 a2 k_a2 .byte z0 (own_ml z0 (own_fdL q0 p1 f0 cc)) (.int 0) := Va41_0
       obtain ⟨cl71, Ar71, qa71, Sa71, Na71, Ha71, Ga71⟩ := id Vo71
       have hib71 : ¬ (cc + (-1)) < 0 ∧ (cc + (-1)) < z0 := (own_i1 (own_preL hn) hv2 (own_x2 hc43))
       obtain ⟨T71, h71, X71, e71, W71, st71⟩ := stB X69 hx hZ e69 Ar71 (j := (cc + (-1))) (inb_of Sa71 hib71) (g := (mkF m 126 #[.val (.long (own_ngL q0)), .second, vi p1, vr a2, .unset, .unset, vi (((x / 100) * 100) - x), vi (cc + (-1)), vi (own_bL q0), vi (x / 100), vi (x / 100)] [(.int (own_at gO (((x / 100) * 100) - x))), (.int (cc + (-1))), (.ref a2)])) rfl rfl (hb hby (d11 71))
       refine oS st71 ?_
       have V71 : Arv Z h71 a2 k_a2 .byte z0 (own_ml z0 (own_upd (own_fdL q0 p1 f0 cc) (cc + (-1)) ((own_at gO (((x / 100) * 100) - x)).toInt8.toInt32))) (.int 0) := by
         have z := Arv.set Ar71 qa71 Sa71 Na71 Ha71 Ga71 (fits_nar_byte _) W71 _ rfl (by rw [own_mllen]; exact own_idx hib71)
         rw [own_mlset] at z
         exact z
       have N71 := Fr.snoc X71 N41 g_a2
       have kp72 : Keep h0 h71 [a2] := kp42.wr W71 (Or.inl (List.mem_of_getElem? (i := 0) rfl))
       have ol72 : Old Z n0 h71 := ol42.wr W71 g_a2
       show OF _ _ _ _ (T71.setTop (mkF m 127 _ _))
       refine oS (fun _ q => XS.aloadN X71.here hx rfl (hb hby (d11 72)) rfl rfl (XS.iinc X71.here hx rfl (hb hby (d11 73)) rfl (l' := #[.val (.long (own_ngL q0)), .second, vi p1, vr a2, .unset, .unset, vi (((x / 100) * 100) - x), vi ((cc + (-1)) + (-1)), vi (own_bL q0), vi (x / 100), vi (x / 100)]) rfl (XS.iload X71.here hx rfl (hb hby (d11 74)) rfl q))) ?_
       show OF _ _ _ _ (T71.setTop (mkF m 133 #[.val (.long (own_ngL q0)), .second, vi p1, vr a2, .unset, .unset, vi (((x / 100) * 100) - x), vi ((cc + (-1)) + (-1)), vi (own_bL q0), vi (x / 100), vi (x / 100)] [(.int ((cc + (-1)) + (-1))), (.ref a2)]))
       obtain ⟨T73, X73, e73, st73⟩ := getS2 X71 hx hZ hown (host := "") (Or.inl (w_ hw 252 rfl)) Via.refl e71 (S_DigitTens.ext ol72.2) (g := (mkF m 133 #[.val (.long (own_ngL q0)), .second, vi p1, vr a2, .unset, .unset, vi (((x / 100) * 100) - x), vi ((cc + (-1)) + (-1)), vi (own_bL q0), vi (x / 100), vi (x / 100)] [(.int ((cc + (-1)) + (-1))), (.ref a2)])) rfl (hb hby (d11 75))
       refine oS st73 ?_
       show OF _ _ _ _ (T73.setTop (mkF m 136 _ _))
       refine oS (fun _ q => XS.iload X73.here hx rfl (hb hby (d11 76)) rfl q) ?_
       show OF _ _ _ _ (T73.setTop (mkF m 138 #[.val (.long (own_ngL q0)), .second, vi p1, vr a2, .unset, .unset, vi (((x / 100) * 100) - x), vi ((cc + (-1)) + (-1)), vi (own_bL q0), vi (x / 100), vi (x / 100)] [(.int (((x / 100) * 100) - x)), (.ref w_DigitTens), (.int ((cc + (-1)) + (-1))), (.ref a2)]))
       have Vo74 : Arv Z h71 w_DigitTens kT .byte (100 : Int32) (own_ml (100 : Int32) gT) (.int 0) := (VT.ext ol72.2)
       obtain ⟨cl74, Ar74, qa74, Sa74, Na74, Ha74, Ga74⟩ := id Vo74
       have hib74 : ¬ (((x / 100) * 100) - x) < 0 ∧ (((x / 100) * 100) - x) < 100 := (own_rbI hv2)
       have hin74 := inb_of Sa74 hib74
       refine oS (X73.baloadBytes hx (j := (((x / 100) * 100) - x)) (v := (.int (own_at gT (((x / 100) * 100) - x)))) (by rw [e73]; exact Ar74.1) (State.isArrayOf_alike (hZ).alike Ar74.2.1) Ar74.2.2 hin74 (Ha74.at hin74 (own_mlat _ hib74)) (g := (mkF m 138 #[.val (.long (own_ngL q0)), .second, vi p1, vr a2, .unset, .unset, vi (((x / 100) * 100) - x), vi ((cc + (-1)) + (-1)), vi (own_bL q0), vi (x / 100), vi (x / 100)] [(.int (((x / 100) * 100) - x)), (.ref w_DigitTens), (.int ((cc + (-1)) + (-1))), (.ref a2)])) rfl rfl (hb hby (d11 77))) ?_
       show OF _ _ _ _ (T73.setTop (mkF m 139 #[.val (.long (own_ngL q0)), .second, vi p1, vr a2, .unset, .unset, vi (((x / 100) * 100) - x), vi ((cc + (-1)) + (-1)), vi (own_bL q0), vi (x / 100), vi (x / 100)] [(.int (own_at gT (((x / 100) * 100) - x))), (.int ((cc + (-1)) + (-1))), (.ref a2)]))
       have Vo75 : Arv Z h71 a2 k_a2 .byte z0 (own_ml z0 (own_upd (own_fdL q0 p1 f0 cc) (cc + (-1)) ((own_at gO (((x / 100) * 100) - x)).toInt8.toInt32))) (.int 0) := V71
       obtain ⟨cl75, Ar75, qa75, Sa75, Na75, Ha75, Ga75⟩ := id Vo75
       have hib75 : ¬ ((cc + (-1)) + (-1)) < 0 ∧ ((cc + (-1)) + (-1)) < z0 := (own_i2 (own_preL hn) hv2 (own_x2 hc43))
       obtain ⟨T75, h75, X75, e75, W75, st75⟩ := stB X73 hx hZ e73 Ar75 (j := ((cc + (-1)) + (-1))) (inb_of Sa75 hib75) (g := (mkF m 139 #[.val (.long (own_ngL q0)), .second, vi p1, vr a2, .unset, .unset, vi (((x / 100) * 100) - x), vi ((cc + (-1)) + (-1)), vi (own_bL q0), vi (x / 100), vi (x / 100)] [(.int (own_at gT (((x / 100) * 100) - x))), (.int ((cc + (-1)) + (-1))), (.ref a2)])) rfl rfl (hb hby (d11 78))
       refine oS st75 ?_
       have V75 : Arv Z h75 a2 k_a2 .byte z0 (own_ml z0 (own_upd (own_upd (own_fdL q0 p1 f0 cc) (cc + (-1)) ((own_at gO (((x / 100) * 100) - x)).toInt8.toInt32)) ((cc + (-1)) + (-1)) ((own_at gT (((x / 100) * 100) - x)).toInt8.toInt32))) (.int 0) := by
         have z := Arv.set Ar75 qa75 Sa75 Na75 Ha75 Ga75 (fits_nar_byte _) W75 _ rfl (by rw [own_mllen]; exact own_idx hib75)
         rw [own_mlset] at z
         exact z
       have N75 := Fr.snoc X75 N71 g_a2
       have kp76 : Keep h0 h75 [a2] := kp72.wr W75 (Or.inl (List.mem_of_getElem? (i := 0) rfl))
       have ol76 : Old Z n0 h75 := ol72.wr W75 g_a2
       show OF _ _ _ _ (T75.setTop (mkF m 140 _ _))
       refine oS (fun _ q => XS.goto X75.here hx rfl (pc0 := 140) (pc' := 86) rfl (hb hby (d11 79)) (by decide) (by decide) q) ?_
       show OF _ _ _ _ (T75.setTop (mkF m 86 #[.val (.long (own_ngL q0)), .second, vi p1, vr a2, .unset, .unset, vi (((x / 100) * 100) - x), vi ((cc + (-1)) + (-1)), vi (own_bL q0), vi (x / 100), vi (x / 100)] []))
       exact ih ((x / 100)) (((cc + (-1)) + (-1))) ((((x / 100) * 100) - x)) _ _ _ (own_ivI (own_preL hn) hv2 (own_x2 hc43)) (own_cdec (own_preL hn) hv2 (own_x2 hc43) hfu) X75 N75 e75 ((K41.wr W71 (Or.inl (List.mem_of_getElem? (i := 0) rfl))).wr W75 (Or.inl (List.mem_of_getElem? (i := 0) rfl))) (own_mlcong (own_stepI (own_preL hn) hv2 (own_x2 hc43) hO hT) V75)
    exact H41 _ ((((own_ngL q0).toInt32) / (100 : Int32))) (((p1 + (-1)) + (-1))) ((((((own_ngL q0).toInt32) / (100 : Int32)) * 100) - ((own_ngL q0).toInt32))) _ _ _ (own_ivI (own_preL hn) (own_iv2 (own_iv0 (own_preL hn) (own_ngLv q0)) hc6) (own_x2 hc7)) (Nat.lt_succ_self _) X39 N39 e39 (Keep.refl _ _) (own_mlcong (own_stepI (own_preL hn) (own_iv2 (own_iv0 (own_preL hn) (own_ngLv q0)) hc6) (own_x2 hc7) hO hT) V39)
  ·
   refine oS (fun _ q => XS.ifNo X2.here hx rfl (hb hby (d11 18)) rfl (Jvm.Free.XT.ll_gt_f hc6) q) ?_
   show OF _ _ _ _ (T2.setTop (mkF m 32 _ _))
   refine oS (fun _ q => XS.lloadN X2.here hx rfl (hb hby (d11 19)) rfl q) ?_
   refine oS (X2.ldc2Long hx hown (mvT hZ (w_ hw 251 rfl)) (g := (mkF m 33 #[.val (.long (own_ngL q0)), .second, vi p1, vr a2, .unset, .unset, .unset, vi p1, vi (own_bL q0), .unset, .unset] [(.long (own_ngL q0))])) rfl (hb hby (d11 20))) ?_
   show OF _ _ _ _ (T2.setTop (mkF m 36 _ _))
   refine oS (fun _ q => XS.ldiv X2.here hx rfl (hb hby (d11 21)) rfl (by decide) (XS.lstore X2.here hx rfl (hb hby (d11 22)) rfl (l' := #[.val (.long (own_ngL q0)), .second, vi p1, vr a2, .val (.long ((own_ngL q0) / 100)), .second, .unset, vi p1, vi (own_bL q0), .unset, .unset]) rfl (XS.lload X2.here hx rfl (hb hby (d11 23)) rfl q))) ?_
   refine oS (X2.ldc2Long hx hown (mvT hZ (w_ hw 251 rfl)) (g := (mkF m 41 #[.val (.long (own_ngL q0)), .second, vi p1, vr a2, .val (.long ((own_ngL q0) / 100)), .second, .unset, vi p1, vi (own_bL q0), .unset, .unset] [(.long ((own_ngL q0) / 100))])) rfl (hb hby (d11 24))) ?_
   show OF _ _ _ _ (T2.setTop (mkF m 44 _ _))
   refine oS (fun _ q => XS.lmul X2.here hx rfl (hb hby (d11 25)) rfl (XS.lloadN X2.here hx rfl (hb hby (d11 26)) rfl (XS.lsub X2.here hx rfl (hb hby (d11 27)) rfl (XS.l2i X2.here hx rfl (hb hby (d11 28)) rfl q)))) ?_
   show OF _ _ _ _ (T2.setTop (mkF m 48 #[.val (.long (own_ngL q0)), .second, vi p1, vr a2, .val (.long ((own_ngL q0) / 100)), .second, .unset, vi p1, vi (own_bL q0), .unset, .unset] [(.int (((((own_ngL q0) / 100) * 100) - (own_ngL q0)).toInt32))]))
   refine oS (fun _ q => XS.istore X2.here hx rfl (hb hby (d11 29)) rfl (l' := #[.val (.long (own_ngL q0)), .second, vi p1, vr a2, .val (.long ((own_ngL q0) / 100)), .second, vi (((((own_ngL q0) / 100) * 100) - (own_ngL q0)).toInt32), vi p1, vi (own_bL q0), .unset, .unset]) rfl (XS.lload X2.here hx rfl (hb hby (d11 30)) rfl (XS.lstoreN X2.here hx rfl (hb hby (d11 31)) rfl (l' := #[.val (.long ((own_ngL q0) / 100)), .second, vi p1, vr a2, .val (.long ((own_ngL q0) / 100)), .second, vi (((((own_ngL q0) / 100) * 100) - (own_ngL q0)).toInt32), vi p1, vi (own_bL q0), .unset, .unset]) rfl (XS.aloadN X2.here hx rfl (hb hby (d11 32)) rfl rfl (XS.iinc X2.here hx rfl (hb hby (d11 33)) rfl (l' := #[.val (.long ((own_ngL q0) / 100)), .second, vi p1, vr a2, .val (.long ((own_ngL q0) / 100)), .second, vi (((((own_ngL q0) / 100) * 100) - (own_ngL q0)).toInt32), vi (p1 + (-1)), vi (own_bL q0), .unset, .unset]) rfl (XS.iload X2.here hx rfl (hb hby (d11 34)) rfl q)))))) ?_
   show OF _ _ _ _ (T2.setTop (mkF m 59 #[.val (.long ((own_ngL q0) / 100)), .second, vi p1, vr a2, .val (.long ((own_ngL q0) / 100)), .second, vi (((((own_ngL q0) / 100) * 100) - (own_ngL q0)).toInt32), vi (p1 + (-1)), vi (own_bL q0), .unset, .unset] [(.int (p1 + (-1))), (.ref a2)]))
   obtain ⟨T77, X77, e77, st77⟩ := getS2 X2 hx hZ hown (host := "") (Or.inl (w_ hw 88 rfl)) Via.refl e2 (S_DigitOnes.ext Ol0.2) (g := (mkF m 59 #[.val (.long ((own_ngL q0) / 100)), .second, vi p1, vr a2, .val (.long ((own_ngL q0) / 100)), .second, vi (((((own_ngL q0) / 100) * 100) - (own_ngL q0)).toInt32), vi (p1 + (-1)), vi (own_bL q0), .unset, .unset] [(.int (p1 + (-1))), (.ref a2)])) rfl (hb hby (d11 35))
   refine oS st77 ?_
   show OF _ _ _ _ (T77.setTop (mkF m 62 _ _))
   refine oS (fun _ q => XS.iload X77.here hx rfl (hb hby (d11 36)) rfl q) ?_
   show OF _ _ _ _ (T77.setTop (mkF m 64 #[.val (.long ((own_ngL q0) / 100)), .second, vi p1, vr a2, .val (.long ((own_ngL q0) / 100)), .second, vi (((((own_ngL q0) / 100) * 100) - (own_ngL q0)).toInt32), vi (p1 + (-1)), vi (own_bL q0), .unset, .unset] [(.int (((((own_ngL q0) / 100) * 100) - (own_ngL q0)).toInt32)), (.ref w_DigitOnes), (.int (p1 + (-1))), (.ref a2)]))
   have Vo78 : Arv Z h0 w_DigitOnes kO .byte (100 : Int32) (own_ml (100 : Int32) gO) (.int 0) := (VO.ext Ol0.2)
   obtain ⟨cl78, Ar78, qa78, Sa78, Na78, Ha78, Ga78⟩ := id Vo78
   have hib78 : ¬ (((((own_ngL q0) / 100) * 100) - (own_ngL q0)).toInt32) < 0 ∧ (((((own_ngL q0) / 100) * 100) - (own_ngL q0)).toInt32) < (100 : Int32) := (own_rbL (own_iv0 (own_preL hn) (own_ngLv q0)))
   have hin78 := inb_of Sa78 hib78
   refine oS (X77.baloadBytes hx (j := (((((own_ngL q0) / 100) * 100) - (own_ngL q0)).toInt32)) (v := (.int (own_at gO (((((own_ngL q0) / 100) * 100) - (own_ngL q0)).toInt32)))) (by rw [e77]; exact Ar78.1) (State.isArrayOf_alike (hZ).alike Ar78.2.1) Ar78.2.2 hin78 (Ha78.at hin78 (own_mlat _ hib78)) (g := (mkF m 64 #[.val (.long ((own_ngL q0) / 100)), .second, vi p1, vr a2, .val (.long ((own_ngL q0) / 100)), .second, vi (((((own_ngL q0) / 100) * 100) - (own_ngL q0)).toInt32), vi (p1 + (-1)), vi (own_bL q0), .unset, .unset] [(.int (((((own_ngL q0) / 100) * 100) - (own_ngL q0)).toInt32)), (.ref w_DigitOnes), (.int (p1 + (-1))), (.ref a2)])) rfl rfl (hb hby (d11 37))) ?_
   show OF _ _ _ _ (T77.setTop (mkF m 65 #[.val (.long ((own_ngL q0) / 100)), .second, vi p1, vr a2, .val (.long ((own_ngL q0) / 100)), .second, vi (((((own_ngL q0) / 100) * 100) - (own_ngL q0)).toInt32), vi (p1 + (-1)), vi (own_bL q0), .unset, .unset] [(.int (own_at gO (((((own_ngL q0) / 100) * 100) - (own_ngL q0)).toInt32))), (.int (p1 + (-1))), (.ref a2)]))
   have Vo79 : Arv Z h0 a2 k_a2 .byte z0 (own_ml z0 (own_fdL q0 p1 f0 p1)) (.int 0) := vE5
   obtain ⟨cl79, Ar79, qa79, Sa79, Na79, Ha79, Ga79⟩ := id Vo79
   have hib79 : ¬ (p1 + (-1)) < 0 ∧ (p1 + (-1)) < z0 := (own_i1 (own_preL hn) (own_iv0 (own_preL hn) (own_ngLv q0)) (own_x1 hc6))
   obtain ⟨T79, h79, X79, e79, W79, st79⟩ := stB X77 hx hZ e77 Ar79 (j := (p1 + (-1))) (inb_of Sa79 hib79) (g := (mkF m 65 #[.val (.long ((own_ngL q0) / 100)), .second, vi p1, vr a2, .val (.long ((own_ngL q0) / 100)), .second, vi (((((own_ngL q0) / 100) * 100) - (own_ngL q0)).toInt32), vi (p1 + (-1)), vi (own_bL q0), .unset, .unset] [(.int (own_at gO (((((own_ngL q0) / 100) * 100) - (own_ngL q0)).toInt32))), (.int (p1 + (-1))), (.ref a2)])) rfl rfl (hb hby (d11 38))
   refine oS st79 ?_
   have V79 : Arv Z h79 a2 k_a2 .byte z0 (own_ml z0 (own_upd (own_fdL q0 p1 f0 p1) (p1 + (-1)) ((own_at gO (((((own_ngL q0) / 100) * 100) - (own_ngL q0)).toInt32)).toInt8.toInt32))) (.int 0) := by
     have z := Arv.set Ar79 qa79 Sa79 Na79 Ha79 Ga79 (fits_nar_byte _) W79 _ rfl (by rw [own_mllen]; exact own_idx hib79)
     rw [own_mlset] at z
     exact z
   have N79 := Fr.snoc X79 N2 g_a2
   have kp80 : Keep h0 h79 [a2] := kp0.wr W79 (Or.inl (List.mem_of_getElem? (i := 0) rfl))
   have ol80 : Old Z n0 h79 := Ol0.wr W79 g_a2
   show OF _ _ _ _ (T79.setTop (mkF m 66 _ _))
   refine oS (fun _ q => XS.aloadN X79.here hx rfl (hb hby (d11 39)) rfl rfl (XS.iinc X79.here hx rfl (hb hby (d11 40)) rfl (l' := #[.val (.long ((own_ngL q0) / 100)), .second, vi p1, vr a2, .val (.long ((own_ngL q0) / 100)), .second, vi (((((own_ngL q0) / 100) * 100) - (own_ngL q0)).toInt32), vi ((p1 + (-1)) + (-1)), vi (own_bL q0), .unset, .unset]) rfl (XS.iload X79.here hx rfl (hb hby (d11 41)) rfl q))) ?_
   show OF _ _ _ _ (T79.setTop (mkF m 72 #[.val (.long ((own_ngL q0) / 100)), .second, vi p1, vr a2, .val (.long ((own_ngL q0) / 100)), .second, vi (((((own_ngL q0) / 100) * 100) - (own_ngL q0)).toInt32), vi ((p1 + (-1)) + (-1)), vi (own_bL q0), .unset, .unset] [(.int ((p1 + (-1)) + (-1))), (.ref a2)]))
   obtain ⟨T81, X81, e81, st81⟩ := getS2 X79 hx hZ hown (host := "") (Or.inl (w_ hw 252 rfl)) Via.refl e79 (S_DigitTens.ext ol80.2) (g := (mkF m 72 #[.val (.long ((own_ngL q0) / 100)), .second, vi p1, vr a2, .val (.long ((own_ngL q0) / 100)), .second, vi (((((own_ngL q0) / 100) * 100) - (own_ngL q0)).toInt32), vi ((p1 + (-1)) + (-1)), vi (own_bL q0), .unset, .unset] [(.int ((p1 + (-1)) + (-1))), (.ref a2)])) rfl (hb hby (d11 42))
   refine oS st81 ?_
   show OF _ _ _ _ (T81.setTop (mkF m 75 _ _))
   refine oS (fun _ q => XS.iload X81.here hx rfl (hb hby (d11 43)) rfl q) ?_
   show OF _ _ _ _ (T81.setTop (mkF m 77 #[.val (.long ((own_ngL q0) / 100)), .second, vi p1, vr a2, .val (.long ((own_ngL q0) / 100)), .second, vi (((((own_ngL q0) / 100) * 100) - (own_ngL q0)).toInt32), vi ((p1 + (-1)) + (-1)), vi (own_bL q0), .unset, .unset] [(.int (((((own_ngL q0) / 100) * 100) - (own_ngL q0)).toInt32)), (.ref w_DigitTens), (.int ((p1 + (-1)) + (-1))), (.ref a2)]))
   have Vo82 : Arv Z h79 w_DigitTens kT .byte (100 : Int32) (own_ml (100 : Int32) gT) (.int 0) := (VT.ext ol80.2)
   obtain ⟨cl82, Ar82, qa82, Sa82, Na82, Ha82, Ga82⟩ := id Vo82
   have hib82 : ¬ (((((own_ngL q0) / 100) * 100) - (own_ngL q0)).toInt32) < 0 ∧ (((((own_ngL q0) / 100) * 100) - (own_ngL q0)).toInt32) < (100 : Int32) := (own_rbL (own_iv0 (own_preL hn) (own_ngLv q0)))
   have hin82 := inb_of Sa82 hib82
   refine oS (X81.baloadBytes hx (j := (((((own_ngL q0) / 100) * 100) - (own_ngL q0)).toInt32)) (v := (.int (own_at gT (((((own_ngL q0) / 100) * 100) - (own_ngL q0)).toInt32)))) (by rw [e81]; exact Ar82.1) (State.isArrayOf_alike (hZ).alike Ar82.2.1) Ar82.2.2 hin82 (Ha82.at hin82 (own_mlat _ hib82)) (g := (mkF m 77 #[.val (.long ((own_ngL q0) / 100)), .second, vi p1, vr a2, .val (.long ((own_ngL q0) / 100)), .second, vi (((((own_ngL q0) / 100) * 100) - (own_ngL q0)).toInt32), vi ((p1 + (-1)) + (-1)), vi (own_bL q0), .unset, .unset] [(.int (((((own_ngL q0) / 100) * 100) - (own_ngL q0)).toInt32)), (.ref w_DigitTens), (.int ((p1 + (-1)) + (-1))), (.ref a2)])) rfl rfl (hb hby (d11 44))) ?_
   show OF _ _ _ _ (T81.setTop (mkF m 78 #[.val (.long ((own_ngL q0) / 100)), .second, vi p1, vr a2, .val (.long ((own_ngL q0) / 100)), .second, vi (((((own_ngL q0) / 100) * 100) - (own_ngL q0)).toInt32), vi ((p1 + (-1)) + (-1)), vi (own_bL q0), .unset, .unset] [(.int (own_at gT (((((own_ngL q0) / 100) * 100) - (own_ngL q0)).toInt32))), (.int ((p1 + (-1)) + (-1))), (.ref a2)]))
   have Vo83 : Arv Z h79 a2 k_a2 .byte z0 (own_ml z0 (own_upd (own_fdL q0 p1 f0 p1) (p1 + (-1)) ((own_at gO (((((own_ngL q0) / 100) * 100) - (own_ngL q0)).toInt32)).toInt8.toInt32))) (.int 0) := V79
   obtain ⟨cl83, Ar83, qa83, Sa83, Na83, Ha83, Ga83⟩ := id Vo83
   have hib83 : ¬ ((p1 + (-1)) + (-1)) < 0 ∧ ((p1 + (-1)) + (-1)) < z0 := (own_i2 (own_preL hn) (own_iv0 (own_preL hn) (own_ngLv q0)) (own_x1 hc6))
   obtain ⟨T83, h83, X83, e83, W83, st83⟩ := stB X81 hx hZ e81 Ar83 (j := ((p1 + (-1)) + (-1))) (inb_of Sa83 hib83) (g := (mkF m 78 #[.val (.long ((own_ngL q0) / 100)), .second, vi p1, vr a2, .val (.long ((own_ngL q0) / 100)), .second, vi (((((own_ngL q0) / 100) * 100) - (own_ngL q0)).toInt32), vi ((p1 + (-1)) + (-1)), vi (own_bL q0), .unset, .unset] [(.int (own_at gT (((((own_ngL q0) / 100) * 100) - (own_ngL q0)).toInt32))), (.int ((p1 + (-1)) + (-1))), (.ref a2)])) rfl rfl (hb hby (d11 45))
   refine oS st83 ?_
   have V83 : Arv Z h83 a2 k_a2 .byte z0 (own_ml z0 (own_upd (own_upd (own_fdL q0 p1 f0 p1) (p1 + (-1)) ((own_at gO (((((own_ngL q0) / 100) * 100) - (own_ngL q0)).toInt32)).toInt8.toInt32)) ((p1 + (-1)) + (-1)) ((own_at gT (((((own_ngL q0) / 100) * 100) - (own_ngL q0)).toInt32)).toInt8.toInt32))) (.int 0) := by
     have z := Arv.set Ar83 qa83 Sa83 Na83 Ha83 Ga83 (fits_nar_byte _) W83 _ rfl (by rw [own_mllen]; exact own_idx hib83)
     rw [own_mlset] at z
     exact z
   have N83 := Fr.snoc X83 N79 g_a2
   have kp84 : Keep h0 h83 [a2] := kp80.wr W83 (Or.inl (List.mem_of_getElem? (i := 0) rfl))
   have ol84 : Old Z n0 h83 := ol80.wr W83 g_a2
   show OF _ _ _ _ (T83.setTop (mkF m 79 _ _))
   refine oS (fun _ q => XS.goto X83.here hx rfl (pc0 := 79) (pc' := 24) rfl (hb hby (d11 46)) (by decide) (by decide) q) ?_
   have H85 : ∀ (fu : Nat) (i : Int64) (cc : Int32) (rr : Int32) (T : State) (lc : List Loc) (h : Heap) (_ : own_iv q0.toInt.natAbs p1.toNatClampNeg i.toInt cc.toInt) (_ : i.toInt ≤ -100), cc.toNatClampNeg < fu → Stand p l e ({ frames := 0, cells := 0, slots := 0, locals := 0 } : Room) s m #[(.long q0), (.int p1), (.ref a2)] below meth c T lc 0 0 → Fr n0 lc → T.heap = h → Keep h83 h [a2] → Arv Z h a2 k_a2 .byte z0 (own_ml z0 (own_fdL q0 p1 f0 cc)) (.int 0) → OF p.tables e below GG (T.setTop (mkF m 24 #[.val (.long i), .second, vi p1, vr a2, .val (.long i), .second, vi rr, vi cc, vi (own_bL q0), .unset, .unset] [])) := by
    intro fu
    induction fu with
    | zero => intro i cc rr T lc h hv1 hw1 hfu; exact absurd hfu (Nat.not_lt_zero _)
    | succ fu ih =>
     intro i cc rr T85 lc85 h85 hv1 hw1 hfu X85 N85 e85 K85 Va85_0
     have kp86 : Keep h0 h85 [a2] := kp84.trans K85 (allS (Or.inl (List.mem_of_getElem? (i := 0) rfl)) all0)
     have ol86 : Old Z n0 h85 := ol84.keep K85 (allS g_a2 all0)
     show OF _ _ _ _ (T85.setTop (mkF m 24 #[.val (.long i), .second, vi p1, vr a2, .val (.long i), .second, vi rr, vi cc, vi (own_bL q0), .unset, .unset] []))
     refine oS (fun _ q => XS.lloadN X85.here hx rfl (hb hby (d11 15)) rfl q) ?_
     refine oS (X85.ldc2Long hx hown (mvT hZ (w_ hw 87 rfl)) (g := (mkF m 25 #[.val (.long i), .second, vi p1, vr a2, .val (.long i), .second, vi rr, vi cc, vi (own_bL q0), .unset, .unset] [(.long i)])) rfl (hb hby (d11 16))) ?_
     show OF _ _ _ _ (T85.setTop (mkF m 28 _ _))
     refine oS (fun _ q => XS.lcmp X85.here hx rfl (hb hby (d11 17)) rfl q) ?_
     by_cases hc87 : (-2147483648 : Int64) < i
     ·
      refine oS (fun _ q => XS.ifYes X85.here hx rfl (pc0 := 29) (pc' := 82) rfl (hb hby (d11 18)) rfl (Jvm.Free.XT.ll_gt_t hc87) (by decide) (by decide) q) ?_
      show OF _ _ _ _ (T85.setTop (mkF m 82 _ _))
      refine oS (fun _ q => XS.lloadN X85.here hx rfl (hb hby (d11 47)) rfl (XS.l2i X85.here hx rfl (hb hby (d11 48)) rfl (XS.istore X85.here hx rfl (hb hby (d11 49)) rfl (l' := #[.val (.long i), .second, vi p1, vr a2, .val (.long i), .second, vi rr, vi cc, vi (own_bL q0), .unset, vi (i.toInt32)]) rfl (XS.iload X85.here hx rfl (hb hby (d11 50)) rfl (XS.bipush X85.here hx rfl (hb hby (d11 51)) (XS.icmpNo X85.here hx rfl (hb hby (d11 52)) rfl (Jvm.Free.XT.ii_gt_f (own_w2 hv1 hw1 hc87)) q)))))) ?_
      show OF _ _ _ _ (T85.setTop (mkF m 93 _ _))
      refine oS (fun _ q => XS.iload X85.here hx rfl (hb hby (d11 53)) rfl (XS.bipush X85.here hx rfl (hb hby (d11 54)) (XS.idiv X85.here hx rfl (hb hby (d11 55)) rfl (by decide) q))) ?_
      show OF _ _ _ _ (T85.setTop (mkF m 98 #[.val (.long i), .second, vi p1, vr a2, .val (.long i), .second, vi rr, vi cc, vi (own_bL q0), .unset, vi (i.toInt32)] [(.int ((i.toInt32) / (100 : Int32)))]))
      refine oS (fun _ q => XS.istore X85.here hx rfl (hb hby (d11 56)) rfl (l' := #[.val (.long i), .second, vi p1, vr a2, .val (.long i), .second, vi rr, vi cc, vi (own_bL q0), vi ((i.toInt32) / (100 : Int32)), vi (i.toInt32)]) rfl (XS.iload X85.here hx rfl (hb hby (d11 57)) rfl (XS.bipush X85.here hx rfl (hb hby (d11 58)) (XS.imul X85.here hx rfl (hb hby (d11 59)) rfl (XS.iload X85.here hx rfl (hb hby (d11 60)) rfl (XS.isub X85.here hx rfl (hb hby (d11 61)) rfl (XS.istore X85.here hx rfl (hb hby (d11 62)) rfl (l' := #[.val (.long i), .second, vi p1, vr a2, .val (.long i), .second, vi ((((i.toInt32) / (100 : Int32)) * 100) - (i.toInt32)), vi cc, vi (own_bL q0), vi ((i.toInt32) / (100 : Int32)), vi (i.toInt32)]) rfl (XS.iload X85.here hx rfl (hb hby (d11 63)) rfl q)))))))) ?_
      show OF _ _ _ _ (T85.setTop (mkF m 112 _ _))
      refine oS (fun _ q => XS.istore X85.here hx rfl (hb hby (d11 64)) rfl (l' := #[.val (.long i), .second, vi p1, vr a2, .val (.long i), .second, vi ((((i.toInt32) / (100 : Int32)) * 100) - (i.toInt32)), vi cc, vi (own_bL q0), vi ((i.toInt32) / (100 : Int32)), vi ((i.toInt32) / (100 : Int32))]) rfl (XS.aloadN X85.here hx rfl (hb hby (d11 65)) rfl rfl (XS.iinc X85.here hx rfl (hb hby (d11 66)) rfl (l' := #[.val (.long i), .second, vi p1, vr a2, .val (.long i), .second, vi ((((i.toInt32) / (100 : Int32)) * 100) - (i.toInt32)), vi (cc + (-1)), vi (own_bL q0), vi ((i.toInt32) / (100 : Int32)), vi ((i.toInt32) / (100 : Int32))]) rfl (XS.iload X85.here hx rfl (hb hby (d11 67)) rfl q)))) ?_
      show OF _ _ _ _ (T85.setTop (mkF m 120 #[.val (.long i), .second, vi p1, vr a2, .val (.long i), .second, vi ((((i.toInt32) / (100 : Int32)) * 100) - (i.toInt32)), vi (cc + (-1)), vi (own_bL q0), vi ((i.toInt32) / (100 : Int32)), vi ((i.toInt32) / (100 : Int32))] [(.int (cc + (-1))), (.ref a2)]))
      obtain ⟨T88, X88, e88, st88⟩ := getS2 X85 hx hZ hown (host := "") (Or.inl (w_ hw 88 rfl)) Via.refl e85 (S_DigitOnes.ext ol86.2) (g := (mkF m 120 #[.val (.long i), .second, vi p1, vr a2, .val (.long i), .second, vi ((((i.toInt32) / (100 : Int32)) * 100) - (i.toInt32)), vi (cc + (-1)), vi (own_bL q0), vi ((i.toInt32) / (100 : Int32)), vi ((i.toInt32) / (100 : Int32))] [(.int (cc + (-1))), (.ref a2)])) rfl (hb hby (d11 68))
      refine oS st88 ?_
      show OF _ _ _ _ (T88.setTop (mkF m 123 _ _))
      refine oS (fun _ q => XS.iload X88.here hx rfl (hb hby (d11 69)) rfl q) ?_
      show OF _ _ _ _ (T88.setTop (mkF m 125 #[.val (.long i), .second, vi p1, vr a2, .val (.long i), .second, vi ((((i.toInt32) / (100 : Int32)) * 100) - (i.toInt32)), vi (cc + (-1)), vi (own_bL q0), vi ((i.toInt32) / (100 : Int32)), vi ((i.toInt32) / (100 : Int32))] [(.int ((((i.toInt32) / (100 : Int32)) * 100) - (i.toInt32))), (.ref w_DigitOnes), (.int (cc + (-1))), (.ref a2)]))
      have Vo89 : Arv Z h85 w_DigitOnes kO .byte (100 : Int32) (own_ml (100 : Int32) gO) (.int 0) := (VO.ext ol86.2)
      obtain ⟨cl89, Ar89, qa89, Sa89, Na89, Ha89, Ga89⟩ := id Vo89
      have hib89 : ¬ ((((i.toInt32) / (100 : Int32)) * 100) - (i.toInt32)) < 0 ∧ ((((i.toInt32) / (100 : Int32)) * 100) - (i.toInt32)) < 100 := (own_rbI (own_iv2 hv1 hc87))
      have hin89 := inb_of Sa89 hib89
      refine oS (X88.baloadBytes hx (j := ((((i.toInt32) / (100 : Int32)) * 100) - (i.toInt32))) (v := (.int (own_at gO ((((i.toInt32) / (100 : Int32)) * 100) - (i.toInt32))))) (by rw [e88]; exact Ar89.1) (State.isArrayOf_alike (hZ).alike Ar89.2.1) Ar89.2.2 hin89 (Ha89.at hin89 (own_mlat _ hib89)) (g := (mkF m 125 #[.val (.long i), .second, vi p1, vr a2, .val (.long i), .second, vi ((((i.toInt32) / (100 : Int32)) * 100) - (i.toInt32)), vi (cc + (-1)), vi (own_bL q0), vi ((i.toInt32) / (100 : Int32)), vi ((i.toInt32) / (100 : Int32))] [(.int ((((i.toInt32) / (100 : Int32)) * 100) - (i.toInt32))), (.ref w_DigitOnes), (.int (cc + (-1))), (.ref a2)])) rfl rfl (hb hby (d11 70))) ?_
      show OF _ _ _ _ (T88.setTop (mkF m 126 #[.val (.long i), .second, vi p1, vr a2, .val (.long i), .second, vi ((((i.toInt32) / (100 : Int32)) * 100) - (i.toInt32)), vi (cc + (-1)), vi (own_bL q0), vi ((i.toInt32) / (100 : Int32)), vi ((i.toInt32) / (100 : Int32))] [(.int (own_at gO ((((i.toInt32) / (100 : Int32)) * 100) - (i.toInt32)))), (.int (cc + (-1))), (.ref a2)]))
      have Vo90 : Arv Z h85 a2 k_a2 .byte z0 (own_ml z0 (own_fdL q0 p1 f0 cc)) (.int 0) := Va85_0
      obtain ⟨cl90, Ar90, qa90, Sa90, Na90, Ha90, Ga90⟩ := id Vo90
      have hib90 : ¬ (cc + (-1)) < 0 ∧ (cc + (-1)) < z0 := (own_i1 (own_preL hn) (own_iv2 hv1 hc87) (own_x2 (own_w2 hv1 hw1 hc87)))
      obtain ⟨T90, h90, X90, e90, W90, st90⟩ := stB X88 hx hZ e88 Ar90 (j := (cc + (-1))) (inb_of Sa90 hib90) (g := (mkF m 126 #[.val (.long i), .second, vi p1, vr a2, .val (.long i), .second, vi ((((i.toInt32) / (100 : Int32)) * 100) - (i.toInt32)), vi (cc + (-1)), vi (own_bL q0), vi ((i.toInt32) / (100 : Int32)), vi ((i.toInt32) / (100 : Int32))] [(.int (own_at gO ((((i.toInt32) / (100 : Int32)) * 100) - (i.toInt32)))), (.int (cc + (-1))), (.ref a2)])) rfl rfl (hb hby (d11 71))
      refine oS st90 ?_
      have V90 : Arv Z h90 a2 k_a2 .byte z0 (own_ml z0 (own_upd (own_fdL q0 p1 f0 cc) (cc + (-1)) ((own_at gO ((((i.toInt32) / (100 : Int32)) * 100) - (i.toInt32))).toInt8.toInt32))) (.int 0) := by
        have z := Arv.set Ar90 qa90 Sa90 Na90 Ha90 Ga90 (fits_nar_byte _) W90 _ rfl (by rw [own_mllen]; exact own_idx hib90)
        rw [own_mlset] at z
        exact z
      have N90 := Fr.snoc X90 N85 g_a2
      have kp91 : Keep h0 h90 [a2] := kp86.wr W90 (Or.inl (List.mem_of_getElem? (i := 0) rfl))
      have ol91 : Old Z n0 h90 := ol86.wr W90 g_a2
      show OF _ _ _ _ (T90.setTop (mkF m 127 _ _))
      refine oS (fun _ q => XS.aloadN X90.here hx rfl (hb hby (d11 72)) rfl rfl (XS.iinc X90.here hx rfl (hb hby (d11 73)) rfl (l' := #[.val (.long i), .second, vi p1, vr a2, .val (.long i), .second, vi ((((i.toInt32) / (100 : Int32)) * 100) - (i.toInt32)), vi ((cc + (-1)) + (-1)), vi (own_bL q0), vi ((i.toInt32) / (100 : Int32)), vi ((i.toInt32) / (100 : Int32))]) rfl (XS.iload X90.here hx rfl (hb hby (d11 74)) rfl q))) ?_
      show OF _ _ _ _ (T90.setTop (mkF m 133 #[.val (.long i), .second, vi p1, vr a2, .val (.long i), .second, vi ((((i.toInt32) / (100 : Int32)) * 100) - (i.toInt32)), vi ((cc + (-1)) + (-1)), vi (own_bL q0), vi ((i.toInt32) / (100 : Int32)), vi ((i.toInt32) / (100 : Int32))] [(.int ((cc + (-1)) + (-1))), (.ref a2)]))
      obtain ⟨T92, X92, e92, st92⟩ := getS2 X90 hx hZ hown (host := "") (Or.inl (w_ hw 252 rfl)) Via.refl e90 (S_DigitTens.ext ol91.2) (g := (mkF m 133 #[.val (.long i), .second, vi p1, vr a2, .val (.long i), .second, vi ((((i.toInt32) / (100 : Int32)) * 100) - (i.toInt32)), vi ((cc + (-1)) + (-1)), vi (own_bL q0), vi ((i.toInt32) / (100 : Int32)), vi ((i.toInt32) / (100 : Int32))] [(.int ((cc + (-1)) + (-1))), (.ref a2)])) rfl (hb hby (d11 75))
      refine oS st92 ?_
      show OF _ _ _ _ (T92.setTop (mkF m 136 _ _))
      refine oS (fun _ q => XS.iload X92.here hx rfl (hb hby (d11 76)) rfl q) ?_
      show OF _ _ _ _ (T92.setTop (mkF m 138 #[.val (.long i), .second, vi p1, vr a2, .val (.long i), .second, vi ((((i.toInt32) / (100 : Int32)) * 100) - (i.toInt32)), vi ((cc + (-1)) + (-1)), vi (own_bL q0), vi ((i.toInt32) / (100 : Int32)), vi ((i.toInt32) / (100 : Int32))] [(.int ((((i.toInt32) / (100 : Int32)) * 100) - (i.toInt32))), (.ref w_DigitTens), (.int ((cc + (-1)) + (-1))), (.ref a2)]))
      have Vo93 : Arv Z h90 w_DigitTens kT .byte (100 : Int32) (own_ml (100 : Int32) gT) (.int 0) := (VT.ext ol91.2)
      obtain ⟨cl93, Ar93, qa93, Sa93, Na93, Ha93, Ga93⟩ := id Vo93
      have hib93 : ¬ ((((i.toInt32) / (100 : Int32)) * 100) - (i.toInt32)) < 0 ∧ ((((i.toInt32) / (100 : Int32)) * 100) - (i.toInt32)) < 100 := (own_rbI (own_iv2 hv1 hc87))
      have hin93 := inb_of Sa93 hib93
      refine oS (X92.baloadBytes hx (j := ((((i.toInt32) / (100 : Int32)) * 100) - (i.toInt32))) (v := (.int (own_at gT ((((i.toInt32) / (100 : Int32)) * 100) - (i.toInt32))))) (by rw [e92]; exact Ar93.1) (State.isArrayOf_alike (hZ).alike Ar93.2.1) Ar93.2.2 hin93 (Ha93.at hin93 (own_mlat _ hib93)) (g := (mkF m 138 #[.val (.long i), .second, vi p1, vr a2, .val (.long i), .second, vi ((((i.toInt32) / (100 : Int32)) * 100) - (i.toInt32)), vi ((cc + (-1)) + (-1)), vi (own_bL q0), vi ((i.toInt32) / (100 : Int32)), vi ((i.toInt32) / (100 : Int32))] [(.int ((((i.toInt32) / (100 : Int32)) * 100) - (i.toInt32))), (.ref w_DigitTens), (.int ((cc + (-1)) + (-1))), (.ref a2)])) rfl rfl (hb hby (d11 77))) ?_
      show OF _ _ _ _ (T92.setTop (mkF m 139 #[.val (.long i), .second, vi p1, vr a2, .val (.long i), .second, vi ((((i.toInt32) / (100 : Int32)) * 100) - (i.toInt32)), vi ((cc + (-1)) + (-1)), vi (own_bL q0), vi ((i.toInt32) / (100 : Int32)), vi ((i.toInt32) / (100 : Int32))] [(.int (own_at gT ((((i.toInt32) / (100 : Int32)) * 100) - (i.toInt32)))), (.int ((cc + (-1)) + (-1))), (.ref a2)]))
      have Vo94 : Arv Z h90 a2 k_a2 .byte z0 (own_ml z0 (own_upd (own_fdL q0 p1 f0 cc) (cc + (-1)) ((own_at gO ((((i.toInt32) / (100 : Int32)) * 100) - (i.toInt32))).toInt8.toInt32))) (.int 0) := V90
      obtain ⟨cl94, Ar94, qa94, Sa94, Na94, Ha94, Ga94⟩ := id Vo94
      have hib94 : ¬ ((cc + (-1)) + (-1)) < 0 ∧ ((cc + (-1)) + (-1)) < z0 := (own_i2 (own_preL hn) (own_iv2 hv1 hc87) (own_x2 (own_w2 hv1 hw1 hc87)))
      obtain ⟨T94, h94, X94, e94, W94, st94⟩ := stB X92 hx hZ e92 Ar94 (j := ((cc + (-1)) + (-1))) (inb_of Sa94 hib94) (g := (mkF m 139 #[.val (.long i), .second, vi p1, vr a2, .val (.long i), .second, vi ((((i.toInt32) / (100 : Int32)) * 100) - (i.toInt32)), vi ((cc + (-1)) + (-1)), vi (own_bL q0), vi ((i.toInt32) / (100 : Int32)), vi ((i.toInt32) / (100 : Int32))] [(.int (own_at gT ((((i.toInt32) / (100 : Int32)) * 100) - (i.toInt32)))), (.int ((cc + (-1)) + (-1))), (.ref a2)])) rfl rfl (hb hby (d11 78))
      refine oS st94 ?_
      have V94 : Arv Z h94 a2 k_a2 .byte z0 (own_ml z0 (own_upd (own_upd (own_fdL q0 p1 f0 cc) (cc + (-1)) ((own_at gO ((((i.toInt32) / (100 : Int32)) * 100) - (i.toInt32))).toInt8.toInt32)) ((cc + (-1)) + (-1)) ((own_at gT ((((i.toInt32) / (100 : Int32)) * 100) - (i.toInt32))).toInt8.toInt32))) (.int 0) := by
        have z := Arv.set Ar94 qa94 Sa94 Na94 Ha94 Ga94 (fits_nar_byte _) W94 _ rfl (by rw [own_mllen]; exact own_idx hib94)
        rw [own_mlset] at z
        exact z
      have N94 := Fr.snoc X94 N90 g_a2
      have kp95 : Keep h0 h94 [a2] := kp91.wr W94 (Or.inl (List.mem_of_getElem? (i := 0) rfl))
      have ol95 : Old Z n0 h94 := ol91.wr W94 g_a2
      show OF _ _ _ _ (T94.setTop (mkF m 140 _ _))
      refine oS (fun _ q => XS.goto X94.here hx rfl (pc0 := 140) (pc' := 86) rfl (hb hby (d11 79)) (by decide) (by decide) q) ?_
      have H96 : ∀ (fu : Nat) (x : Int32) (cc : Int32) (rr : Int32) (T : State) (lc : List Loc) (h : Heap) (_ : own_iv q0.toInt.natAbs p1.toNatClampNeg x.toInt cc.toInt), cc.toNatClampNeg < fu → Stand p l e ({ frames := 0, cells := 0, slots := 0, locals := 0 } : Room) s m #[(.long q0), (.int p1), (.ref a2)] below meth c T lc 0 0 → Fr n0 lc → T.heap = h → Keep h94 h [a2] → Arv Z h a2 k_a2 .byte z0 (own_ml z0 (own_fdL q0 p1 f0 cc)) (.int 0) → OF p.tables e below GG (T.setTop (mkF m 86 #[.val (.long i), .second, vi p1, vr a2, .val (.long i), .second, vi rr, vi cc, vi (own_bL q0), vi x, vi x] [])) := by
       intro fu
       induction fu with
       | zero => intro x cc rr T lc h hv2 hfu; exact absurd hfu (Nat.not_lt_zero _)
       | succ fu ih =>
        intro x cc rr T96 lc96 h96 hv2 hfu X96 N96 e96 K96 Va96_0
        have kp97 : Keep h0 h96 [a2] := kp95.trans K96 (allS (Or.inl (List.mem_of_getElem? (i := 0) rfl)) all0)
        have ol97 : Old Z n0 h96 := ol95.keep K96 (allS g_a2 all0)
        show OF _ _ _ _ (T96.setTop (mkF m 86 #[.val (.long i), .second, vi p1, vr a2, .val (.long i), .second, vi rr, vi cc, vi (own_bL q0), vi x, vi x] []))
        refine oS (fun _ q => XS.iload X96.here hx rfl (hb hby (d11 50)) rfl (XS.bipush X96.here hx rfl (hb hby (d11 51)) q)) ?_
        by_cases hc98 : (-100 : Int32) < x
        ·
         refine oS (fun _ q => XS.icmpYes X96.here hx rfl (pc0 := 90) (pc' := 143) rfl (hb hby (d11 52)) rfl (Jvm.Free.XT.ii_gt_t hc98) (by decide) (by decide) q) ?_
         show OF _ _ _ _ (T96.setTop (mkF m 143 _ _))
         refine oS (fun _ q => XS.aloadN X96.here hx rfl (hb hby (d11 80)) rfl rfl (XS.iinc X96.here hx rfl (hb hby (d11 81)) rfl (l' := #[.val (.long i), .second, vi p1, vr a2, .val (.long i), .second, vi rr, vi (cc + (-1)), vi (own_bL q0), vi x, vi x]) rfl (XS.iload X96.here hx rfl (hb hby (d11 82)) rfl q))) ?_
         show OF _ _ _ _ (T96.setTop (mkF m 149 #[.val (.long i), .second, vi p1, vr a2, .val (.long i), .second, vi rr, vi (cc + (-1)), vi (own_bL q0), vi x, vi x] [(.int (cc + (-1))), (.ref a2)]))
         obtain ⟨T99, X99, e99, st99⟩ := getS2 X96 hx hZ hown (host := "") (Or.inl (w_ hw 88 rfl)) Via.refl e96 (S_DigitOnes.ext ol97.2) (g := (mkF m 149 #[.val (.long i), .second, vi p1, vr a2, .val (.long i), .second, vi rr, vi (cc + (-1)), vi (own_bL q0), vi x, vi x] [(.int (cc + (-1))), (.ref a2)])) rfl (hb hby (d11 83))
         refine oS st99 ?_
         show OF _ _ _ _ (T99.setTop (mkF m 152 _ _))
         refine oS (fun _ q => XS.iload X99.here hx rfl (hb hby (d11 84)) rfl (XS.ineg X99.here hx rfl (hb hby (d11 85)) rfl q)) ?_
         show OF _ _ _ _ (T99.setTop (mkF m 155 #[.val (.long i), .second, vi p1, vr a2, .val (.long i), .second, vi rr, vi (cc + (-1)), vi (own_bL q0), vi x, vi x] [(.int (-x)), (.ref w_DigitOnes), (.int (cc + (-1))), (.ref a2)]))
         have Vo100 : Arv Z h96 w_DigitOnes kO .byte (100 : Int32) (own_ml (100 : Int32) gO) (.int 0) := (VO.ext ol97.2)
         obtain ⟨cl100, Ar100, qa100, Sa100, Na100, Ha100, Ga100⟩ := id Vo100
         have hib100 : ¬ (-x) < 0 ∧ (-x) < 100 := (own_nxb hv2 hc98)
         have hin100 := inb_of Sa100 hib100
         refine oS (X99.baloadBytes hx (j := (-x)) (v := (.int (own_at gO (-x)))) (by rw [e99]; exact Ar100.1) (State.isArrayOf_alike (hZ).alike Ar100.2.1) Ar100.2.2 hin100 (Ha100.at hin100 (own_mlat _ hib100)) (g := (mkF m 155 #[.val (.long i), .second, vi p1, vr a2, .val (.long i), .second, vi rr, vi (cc + (-1)), vi (own_bL q0), vi x, vi x] [(.int (-x)), (.ref w_DigitOnes), (.int (cc + (-1))), (.ref a2)])) rfl rfl (hb hby (d11 86))) ?_
         show OF _ _ _ _ (T99.setTop (mkF m 156 #[.val (.long i), .second, vi p1, vr a2, .val (.long i), .second, vi rr, vi (cc + (-1)), vi (own_bL q0), vi x, vi x] [(.int (own_at gO (-x))), (.int (cc + (-1))), (.ref a2)]))
         have Vo101 : Arv Z h96 a2 k_a2 .byte z0 (own_ml z0 (own_fdL q0 p1 f0 cc)) (.int 0) := Va96_0
         obtain ⟨cl101, Ar101, qa101, Sa101, Na101, Ha101, Ga101⟩ := id Vo101
         have hib101 : ¬ (cc + (-1)) < 0 ∧ (cc + (-1)) < z0 := (own_ib (own_tb (own_preL hn) hv2 hc98).1 (own_tb (own_preL hn) hv2 hc98).2.1)
         obtain ⟨T101, h101, X101, e101, W101, st101⟩ := stB X99 hx hZ e99 Ar101 (j := (cc + (-1))) (inb_of Sa101 hib101) (g := (mkF m 156 #[.val (.long i), .second, vi p1, vr a2, .val (.long i), .second, vi rr, vi (cc + (-1)), vi (own_bL q0), vi x, vi x] [(.int (own_at gO (-x))), (.int (cc + (-1))), (.ref a2)])) rfl rfl (hb hby (d11 87))
         refine oS st101 ?_
         have V101 : Arv Z h101 a2 k_a2 .byte z0 (own_ml z0 (own_upd (own_fdL q0 p1 f0 cc) (cc + (-1)) ((own_at gO (-x)).toInt8.toInt32))) (.int 0) := by
           have z := Arv.set Ar101 qa101 Sa101 Na101 Ha101 Ga101 (fits_nar_byte _) W101 _ rfl (by rw [own_mllen]; exact own_idx hib101)
           rw [own_mlset] at z
           exact z
         have N101 := Fr.snoc X101 N96 g_a2
         have kp102 : Keep h0 h101 [a2] := kp97.wr W101 (Or.inl (List.mem_of_getElem? (i := 0) rfl))
         have ol102 : Old Z n0 h101 := ol97.wr W101 g_a2
         show OF _ _ _ _ (T101.setTop (mkF m 157 _ _))
         have vE103 : Arv Z h101 a2 k_a2 .byte z0 (own_ml z0 (own_fdL q0 p1 f0 (cc + (-1)))) (.int 0) := own_mlcong (own_t1 (own_preL hn) hv2 hc98 hO) V101
         refine oS (fun _ q => XS.iload X101.here hx rfl (hb hby (d11 88)) rfl (XS.bipush X101.here hx rfl (hb hby (d11 89)) q)) ?_
         by_cases hc104 : x < (-9)
         ·
          refine oS (fun _ q => XS.icmpNo X101.here hx rfl (hb hby (d11 90)) rfl (Jvm.Free.XT.ii_ge_f hc104) q) ?_
          show OF _ _ _ _ (T101.setTop (mkF m 164 _ _))
          refine oS (fun _ q => XS.aloadN X101.here hx rfl (hb hby (d11 91)) rfl rfl (XS.iinc X101.here hx rfl (hb hby (d11 92)) rfl (l' := #[.val (.long i), .second, vi p1, vr a2, .val (.long i), .second, vi rr, vi ((cc + (-1)) + (-1)), vi (own_bL q0), vi x, vi x]) rfl (XS.iload X101.here hx rfl (hb hby (d11 93)) rfl q))) ?_
          show OF _ _ _ _ (T101.setTop (mkF m 170 #[.val (.long i), .second, vi p1, vr a2, .val (.long i), .second, vi rr, vi ((cc + (-1)) + (-1)), vi (own_bL q0), vi x, vi x] [(.int ((cc + (-1)) + (-1))), (.ref a2)]))
          obtain ⟨T105, X105, e105, st105⟩ := getS2 X101 hx hZ hown (host := "") (Or.inl (w_ hw 252 rfl)) Via.refl e101 (S_DigitTens.ext ol102.2) (g := (mkF m 170 #[.val (.long i), .second, vi p1, vr a2, .val (.long i), .second, vi rr, vi ((cc + (-1)) + (-1)), vi (own_bL q0), vi x, vi x] [(.int ((cc + (-1)) + (-1))), (.ref a2)])) rfl (hb hby (d11 94))
          refine oS st105 ?_
          show OF _ _ _ _ (T105.setTop (mkF m 173 _ _))
          refine oS (fun _ q => XS.iload X105.here hx rfl (hb hby (d11 95)) rfl (XS.ineg X105.here hx rfl (hb hby (d11 96)) rfl q)) ?_
          show OF _ _ _ _ (T105.setTop (mkF m 176 #[.val (.long i), .second, vi p1, vr a2, .val (.long i), .second, vi rr, vi ((cc + (-1)) + (-1)), vi (own_bL q0), vi x, vi x] [(.int (-x)), (.ref w_DigitTens), (.int ((cc + (-1)) + (-1))), (.ref a2)]))
          have Vo106 : Arv Z h101 w_DigitTens kT .byte (100 : Int32) (own_ml (100 : Int32) gT) (.int 0) := (VT.ext ol102.2)
          obtain ⟨cl106, Ar106, qa106, Sa106, Na106, Ha106, Ga106⟩ := id Vo106
          have hib106 : ¬ (-x) < 0 ∧ (-x) < 100 := (own_nxb hv2 hc98)
          have hin106 := inb_of Sa106 hib106
          refine oS (X105.baloadBytes hx (j := (-x)) (v := (.int (own_at gT (-x)))) (by rw [e105]; exact Ar106.1) (State.isArrayOf_alike (hZ).alike Ar106.2.1) Ar106.2.2 hin106 (Ha106.at hin106 (own_mlat _ hib106)) (g := (mkF m 176 #[.val (.long i), .second, vi p1, vr a2, .val (.long i), .second, vi rr, vi ((cc + (-1)) + (-1)), vi (own_bL q0), vi x, vi x] [(.int (-x)), (.ref w_DigitTens), (.int ((cc + (-1)) + (-1))), (.ref a2)])) rfl rfl (hb hby (d11 97))) ?_
          show OF _ _ _ _ (T105.setTop (mkF m 177 #[.val (.long i), .second, vi p1, vr a2, .val (.long i), .second, vi rr, vi ((cc + (-1)) + (-1)), vi (own_bL q0), vi x, vi x] [(.int (own_at gT (-x))), (.int ((cc + (-1)) + (-1))), (.ref a2)]))
          have Vo107 : Arv Z h101 a2 k_a2 .byte z0 (own_ml z0 (own_fdL q0 p1 f0 (cc + (-1)))) (.int 0) := vE103
          obtain ⟨cl107, Ar107, qa107, Sa107, Na107, Ha107, Ga107⟩ := id Vo107
          have hib107 : ¬ ((cc + (-1)) + (-1)) < 0 ∧ ((cc + (-1)) + (-1)) < z0 := (own_ib2 ((own_tb (own_preL hn) hv2 hc98).2.2.1 hc104) (own_tb (own_preL hn) hv2 hc98).2.1)
          obtain ⟨T107, h107, X107, e107, W107, st107⟩ := stB X105 hx hZ e105 Ar107 (j := ((cc + (-1)) + (-1))) (inb_of Sa107 hib107) (g := (mkF m 177 #[.val (.long i), .second, vi p1, vr a2, .val (.long i), .second, vi rr, vi ((cc + (-1)) + (-1)), vi (own_bL q0), vi x, vi x] [(.int (own_at gT (-x))), (.int ((cc + (-1)) + (-1))), (.ref a2)])) rfl rfl (hb hby (d11 98))
          refine oS st107 ?_
          have V107 : Arv Z h107 a2 k_a2 .byte z0 (own_ml z0 (own_upd (own_fdL q0 p1 f0 (cc + (-1))) ((cc + (-1)) + (-1)) ((own_at gT (-x)).toInt8.toInt32))) (.int 0) := by
            have z := Arv.set Ar107 qa107 Sa107 Na107 Ha107 Ga107 (fits_nar_byte _) W107 _ rfl (by rw [own_mllen]; exact own_idx hib107)
            rw [own_mlset] at z
            exact z
          have N107 := Fr.snoc X107 N101 g_a2
          have kp108 : Keep h0 h107 [a2] := kp102.wr W107 (Or.inl (List.mem_of_getElem? (i := 0) rfl))
          have ol108 : Old Z n0 h107 := ol102.wr W107 g_a2
          show OF _ _ _ _ (T107.setTop (mkF m 178 _ _))
          have vE109 : Arv Z h107 a2 k_a2 .byte z0 (own_ml z0 (own_fdL q0 p1 f0 ((cc + (-1)) + (-1)))) (.int 0) := own_mlcong (own_t2 (own_preL hn) hv2 hc98 hc104 hT) V107
          refine oS (fun _ q => XS.iload X107.here hx rfl (hb hby (d11 99)) rfl q) ?_
          by_cases hc110 : q0 < 0
          ·
           have hi111 : ¬ ((own_bL q0) = 0) := (by rw [if_pos hc110] <;> decide : ¬ ((if q0 < 0 then (1 : Int32) else (0 : Int32)) = 0))
           refine oS (fun _ q => XS.ifNo X107.here hx rfl (hb hby (d11 100)) rfl (Jvm.Free.XT.i0_eq_f hi111) q) ?_
           show OF _ _ _ _ (T107.setTop (mkF m 183 _ _))
           refine oS (fun _ q => XS.aloadN X107.here hx rfl (hb hby (d11 101)) rfl rfl (XS.iinc X107.here hx rfl (hb hby (d11 102)) rfl (l' := #[.val (.long i), .second, vi p1, vr a2, .val (.long i), .second, vi rr, vi (((cc + (-1)) + (-1)) + (-1)), vi (own_bL q0), vi x, vi x]) rfl (XS.iload X107.here hx rfl (hb hby (d11 103)) rfl (XS.bipush X107.here hx rfl (hb hby (d11 104)) q)))) ?_
           show OF _ _ _ _ (T107.setTop (mkF m 191 #[.val (.long i), .second, vi p1, vr a2, .val (.long i), .second, vi rr, vi (((cc + (-1)) + (-1)) + (-1)), vi (own_bL q0), vi x, vi x] [(.int 45), (.int (((cc + (-1)) + (-1)) + (-1))), (.ref a2)]))
           have Vo112 : Arv Z h107 a2 k_a2 .byte z0 (own_ml z0 (own_fdL q0 p1 f0 ((cc + (-1)) + (-1)))) (.int 0) := vE109
           obtain ⟨cl112, Ar112, qa112, Sa112, Na112, Ha112, Ga112⟩ := id Vo112
           have hib112 : ¬ (((cc + (-1)) + (-1)) + (-1)) < 0 ∧ (((cc + (-1)) + (-1)) + (-1)) < z0 := (own_ib (own_sgL hn (own_e2 (own_preL hn) hv2 hc98 hc104) hc110) (own_e2 (own_preL hn) hv2 hc98 hc104).2.1)
           obtain ⟨T112, h112, X112, e112, W112, st112⟩ := stB X107 hx hZ e107 Ar112 (j := (((cc + (-1)) + (-1)) + (-1))) (inb_of Sa112 hib112) (g := (mkF m 191 #[.val (.long i), .second, vi p1, vr a2, .val (.long i), .second, vi rr, vi (((cc + (-1)) + (-1)) + (-1)), vi (own_bL q0), vi x, vi x] [(.int 45), (.int (((cc + (-1)) + (-1)) + (-1))), (.ref a2)])) rfl rfl (hb hby (d11 105))
           refine oS st112 ?_
           have V112 : Arv Z h112 a2 k_a2 .byte z0 (own_ml z0 (own_upd (own_fdL q0 p1 f0 ((cc + (-1)) + (-1))) (((cc + (-1)) + (-1)) + (-1)) ((45 : Int32).toInt8.toInt32))) (.int 0) := by
             have z := Arv.set Ar112 qa112 Sa112 Na112 Ha112 Ga112 (fits_nar_byte _) W112 _ rfl (by rw [own_mllen]; exact own_idx hib112)
             rw [own_mlset] at z
             exact z
           have N112 := Fr.snoc X112 N107 g_a2
           have kp113 : Keep h0 h112 [a2] := kp108.wr W112 (Or.inl (List.mem_of_getElem? (i := 0) rfl))
           have ol113 : Old Z n0 h112 := ol108.wr W112 g_a2
           show OF _ _ _ _ (T112.setTop (mkF m 192 _ _))
           refine oS (fun _ q => XS.iload X112.here hx rfl (hb hby (d11 106)) rfl q) ?_
           show OF _ _ _ _ (T112.setTop (mkF m 194 #[.val (.long i), .second, vi p1, vr a2, .val (.long i), .second, vi rr, vi (((cc + (-1)) + (-1)) + (-1)), vi (own_bL q0), vi x, vi x] [(.int (((cc + (-1)) + (-1)) + (-1)))]))
           rw [hGG]
           obtain ⟨fs, hr, hrun, hended, hW, hsame⟩ := X112.leave (v := some (.int (((cc + (-1)) + (-1)) + (-1)))) (fun h => by rw [Bd.returns] at h; cases h)
           refine ⟨_, _, retI X112 hx Bd.returns (hb hby (d11 107)) hr, hrun, hended, _, _, rfl, ?_, ⟨_, rfl⟩, hW, hsame.mono (by decide) (by decide)⟩
           show Q_rm_gcL Z q0 p1 a2 k_a2 z0 f0 kO gO w_DigitOnes kT gT w_DigitTens h0 n0 _ T112.heap _
           rw [e112]
           have vE114 : Arv Z h112 a2 k_a2 .byte z0 (own_ml z0 (own_outL q0 p1 f0)) (.int 0) := own_mlcong (own_oY (own_sgL hn (own_e2 (own_preL hn) hv2 hc98 hc104) hc110) (own_e2 (own_preL hn) hv2 hc98 hc104).2.2 (own_ltL.mp hc110)) V112
           exact ⟨(((cc + (-1)) + (-1)) + (-1)), rfl, N112, kp113, vE114⟩
          ·
           have hi115 : (own_bL q0) = 0 := (by rw [if_neg hc110] <;> decide : (if q0 < 0 then (1 : Int32) else (0 : Int32)) = 0)
           refine oS (fun _ q => XS.ifYes X107.here hx rfl (pc0 := 180) (pc' := 192) rfl (hb hby (d11 100)) rfl (Jvm.Free.XT.i0_eq_t hi115) (by decide) (by decide) q) ?_
           show OF _ _ _ _ (T107.setTop (mkF m 192 _ _))
           refine oS (fun _ q => XS.iload X107.here hx rfl (hb hby (d11 106)) rfl q) ?_
           show OF _ _ _ _ (T107.setTop (mkF m 194 #[.val (.long i), .second, vi p1, vr a2, .val (.long i), .second, vi rr, vi ((cc + (-1)) + (-1)), vi (own_bL q0), vi x, vi x] [(.int ((cc + (-1)) + (-1)))]))
           rw [hGG]
           obtain ⟨fs, hr, hrun, hended, hW, hsame⟩ := X107.leave (v := some (.int ((cc + (-1)) + (-1)))) (fun h => by rw [Bd.returns] at h; cases h)
           refine ⟨_, _, retI X107 hx Bd.returns (hb hby (d11 107)) hr, hrun, hended, _, _, rfl, ?_, ⟨_, rfl⟩, hW, hsame.mono (by decide) (by decide)⟩
           show Q_rm_gcL Z q0 p1 a2 k_a2 z0 f0 kO gO w_DigitOnes kT gT w_DigitTens h0 n0 _ T107.heap _
           rw [e107]
           have vE116 : Arv Z h107 a2 k_a2 .byte z0 (own_ml z0 (own_outL q0 p1 f0)) (.int 0) := own_mlcong (own_oN (own_e2 (own_preL hn) hv2 hc98 hc104).1 (own_e2 (own_preL hn) hv2 hc98 hc104).2.2 (fun q => hc110 (own_ltL.mpr q))) vE109
           exact ⟨((cc + (-1)) + (-1)), rfl, N107, kp108, vE116⟩
         ·
          refine oS (fun _ q => XS.icmpYes X101.here hx rfl (pc0 := 161) (pc' := 178) rfl (hb hby (d11 90)) rfl (Jvm.Free.XT.ii_ge_t hc104) (by decide) (by decide) q) ?_
          show OF _ _ _ _ (T101.setTop (mkF m 178 _ _))
          refine oS (fun _ q => XS.iload X101.here hx rfl (hb hby (d11 99)) rfl q) ?_
          by_cases hc117 : q0 < 0
          ·
           have hi118 : ¬ ((own_bL q0) = 0) := (by rw [if_pos hc117] <;> decide : ¬ ((if q0 < 0 then (1 : Int32) else (0 : Int32)) = 0))
           refine oS (fun _ q => XS.ifNo X101.here hx rfl (hb hby (d11 100)) rfl (Jvm.Free.XT.i0_eq_f hi118) q) ?_
           show OF _ _ _ _ (T101.setTop (mkF m 183 _ _))
           refine oS (fun _ q => XS.aloadN X101.here hx rfl (hb hby (d11 101)) rfl rfl (XS.iinc X101.here hx rfl (hb hby (d11 102)) rfl (l' := #[.val (.long i), .second, vi p1, vr a2, .val (.long i), .second, vi rr, vi ((cc + (-1)) + (-1)), vi (own_bL q0), vi x, vi x]) rfl (XS.iload X101.here hx rfl (hb hby (d11 103)) rfl (XS.bipush X101.here hx rfl (hb hby (d11 104)) q)))) ?_
           show OF _ _ _ _ (T101.setTop (mkF m 191 #[.val (.long i), .second, vi p1, vr a2, .val (.long i), .second, vi rr, vi ((cc + (-1)) + (-1)), vi (own_bL q0), vi x, vi x] [(.int 45), (.int ((cc + (-1)) + (-1))), (.ref a2)]))
           have Vo119 : Arv Z h101 a2 k_a2 .byte z0 (own_ml z0 (own_fdL q0 p1 f0 (cc + (-1)))) (.int 0) := vE103
           obtain ⟨cl119, Ar119, qa119, Sa119, Na119, Ha119, Ga119⟩ := id Vo119
           have hib119 : ¬ ((cc + (-1)) + (-1)) < 0 ∧ ((cc + (-1)) + (-1)) < z0 := (own_ib (own_sgL hn (own_e1 (own_preL hn) hv2 hc98 hc104) hc117) (own_e1 (own_preL hn) hv2 hc98 hc104).2.1)
           obtain ⟨T119, h119, X119, e119, W119, st119⟩ := stB X101 hx hZ e101 Ar119 (j := ((cc + (-1)) + (-1))) (inb_of Sa119 hib119) (g := (mkF m 191 #[.val (.long i), .second, vi p1, vr a2, .val (.long i), .second, vi rr, vi ((cc + (-1)) + (-1)), vi (own_bL q0), vi x, vi x] [(.int 45), (.int ((cc + (-1)) + (-1))), (.ref a2)])) rfl rfl (hb hby (d11 105))
           refine oS st119 ?_
           have V119 : Arv Z h119 a2 k_a2 .byte z0 (own_ml z0 (own_upd (own_fdL q0 p1 f0 (cc + (-1))) ((cc + (-1)) + (-1)) ((45 : Int32).toInt8.toInt32))) (.int 0) := by
             have z := Arv.set Ar119 qa119 Sa119 Na119 Ha119 Ga119 (fits_nar_byte _) W119 _ rfl (by rw [own_mllen]; exact own_idx hib119)
             rw [own_mlset] at z
             exact z
           have N119 := Fr.snoc X119 N101 g_a2
           have kp120 : Keep h0 h119 [a2] := kp102.wr W119 (Or.inl (List.mem_of_getElem? (i := 0) rfl))
           have ol120 : Old Z n0 h119 := ol102.wr W119 g_a2
           show OF _ _ _ _ (T119.setTop (mkF m 192 _ _))
           refine oS (fun _ q => XS.iload X119.here hx rfl (hb hby (d11 106)) rfl q) ?_
           show OF _ _ _ _ (T119.setTop (mkF m 194 #[.val (.long i), .second, vi p1, vr a2, .val (.long i), .second, vi rr, vi ((cc + (-1)) + (-1)), vi (own_bL q0), vi x, vi x] [(.int ((cc + (-1)) + (-1)))]))
           rw [hGG]
           obtain ⟨fs, hr, hrun, hended, hW, hsame⟩ := X119.leave (v := some (.int ((cc + (-1)) + (-1)))) (fun h => by rw [Bd.returns] at h; cases h)
           refine ⟨_, _, retI X119 hx Bd.returns (hb hby (d11 107)) hr, hrun, hended, _, _, rfl, ?_, ⟨_, rfl⟩, hW, hsame.mono (by decide) (by decide)⟩
           show Q_rm_gcL Z q0 p1 a2 k_a2 z0 f0 kO gO w_DigitOnes kT gT w_DigitTens h0 n0 _ T119.heap _
           rw [e119]
           have vE121 : Arv Z h119 a2 k_a2 .byte z0 (own_ml z0 (own_outL q0 p1 f0)) (.int 0) := own_mlcong (own_oY (own_sgL hn (own_e1 (own_preL hn) hv2 hc98 hc104) hc117) (own_e1 (own_preL hn) hv2 hc98 hc104).2.2 (own_ltL.mp hc117)) V119
           exact ⟨((cc + (-1)) + (-1)), rfl, N119, kp120, vE121⟩
          ·
           have hi122 : (own_bL q0) = 0 := (by rw [if_neg hc117] <;> decide : (if q0 < 0 then (1 : Int32) else (0 : Int32)) = 0)
           refine oS (fun _ q => XS.ifYes X101.here hx rfl (pc0 := 180) (pc' := 192) rfl (hb hby (d11 100)) rfl (Jvm.Free.XT.i0_eq_t hi122) (by decide) (by decide) q) ?_
           show OF _ _ _ _ (T101.setTop (mkF m 192 _ _))
           refine oS (fun _ q => XS.iload X101.here hx rfl (hb hby (d11 106)) rfl q) ?_
           show OF _ _ _ _ (T101.setTop (mkF m 194 #[.val (.long i), .second, vi p1, vr a2, .val (.long i), .second, vi rr, vi (cc + (-1)), vi (own_bL q0), vi x, vi x] [(.int (cc + (-1)))]))
           rw [hGG]
           obtain ⟨fs, hr, hrun, hended, hW, hsame⟩ := X101.leave (v := some (.int (cc + (-1)))) (fun h => by rw [Bd.returns] at h; cases h)
           refine ⟨_, _, retI X101 hx Bd.returns (hb hby (d11 107)) hr, hrun, hended, _, _, rfl, ?_, ⟨_, rfl⟩, hW, hsame.mono (by decide) (by decide)⟩
           show Q_rm_gcL Z q0 p1 a2 k_a2 z0 f0 kO gO w_DigitOnes kT gT w_DigitTens h0 n0 _ T101.heap _
           rw [e101]
           have vE123 : Arv Z h101 a2 k_a2 .byte z0 (own_ml z0 (own_outL q0 p1 f0)) (.int 0) := own_mlcong (own_oN (own_e1 (own_preL hn) hv2 hc98 hc104).1 (own_e1 (own_preL hn) hv2 hc98 hc104).2.2 (fun q => hc117 (own_ltL.mpr q))) vE103
           exact ⟨(cc + (-1)), rfl, N101, kp102, vE123⟩
        ·
         refine oS (fun _ q => XS.icmpNo X96.here hx rfl (hb hby (d11 52)) rfl (Jvm.Free.XT.ii_gt_f hc98) q) ?_
         show OF _ _ _ _ (T96.setTop (mkF m 93 _ _))
         refine oS (fun _ q => XS.iload X96.here hx rfl (hb hby (d11 53)) rfl (XS.bipush X96.here hx rfl (hb hby (d11 54)) (XS.idiv X96.here hx rfl (hb hby (d11 55)) rfl (by decide) (XS.istore X96.here hx rfl (hb hby (d11 56)) rfl (l' := #[.val (.long i), .second, vi p1, vr a2, .val (.long i), .second, vi rr, vi cc, vi (own_bL q0), vi (x / 100), vi x]) rfl (XS.iload X96.here hx rfl (hb hby (d11 57)) rfl (XS.bipush X96.here hx rfl (hb hby (d11 58)) (XS.imul X96.here hx rfl (hb hby (d11 59)) rfl (XS.iload X96.here hx rfl (hb hby (d11 60)) rfl q)))))))) ?_
         show OF _ _ _ _ (T96.setTop (mkF m 107 _ _))
         refine oS (fun _ q => XS.isub X96.here hx rfl (hb hby (d11 61)) rfl (XS.istore X96.here hx rfl (hb hby (d11 62)) rfl (l' := #[.val (.long i), .second, vi p1, vr a2, .val (.long i), .second, vi (((x / 100) * 100) - x), vi cc, vi (own_bL q0), vi (x / 100), vi x]) rfl q)) ?_
         show OF _ _ _ _ (T96.setTop (mkF m 110 #[.val (.long i), .second, vi p1, vr a2, .val (.long i), .second, vi (((x / 100) * 100) - x), vi cc, vi (own_bL q0), vi (x / 100), vi x] []))
         refine oS (fun _ q => XS.iload X96.here hx rfl (hb hby (d11 63)) rfl (XS.istore X96.here hx rfl (hb hby (d11 64)) rfl (l' := #[.val (.long i), .second, vi p1, vr a2, .val (.long i), .second, vi (((x / 100) * 100) - x), vi cc, vi (own_bL q0), vi (x / 100), vi (x / 100)]) rfl (XS.aloadN X96.here hx rfl (hb hby (d11 65)) rfl rfl (XS.iinc X96.here hx rfl (hb hby (d11 66)) rfl (l' := #[.val (.long i), .second, vi p1, vr a2, .val (.long i), .second, vi (((x / 100) * 100) - x), vi (cc + (-1)), vi (own_bL q0), vi (x / 100), vi (x / 100)]) rfl (XS.iload X96.here hx rfl (hb hby (d11 67)) rfl q))))) ?_
         show OF _ _ _ _ (T96.setTop (mkF m 120 #[.val (.long i), .second, vi p1, vr a2, .val (.long i), .second, vi (((x / 100) * 100) - x), vi (cc + (-1)), vi (own_bL q0), vi (x / 100), vi (x / 100)] [(.int (cc + (-1))), (.ref a2)]))
         obtain ⟨T124, X124, e124, st124⟩ := getS2 X96 hx hZ hown (host := "") (Or.inl (w_ hw 88 rfl)) Via.refl e96 (S_DigitOnes.ext ol97.2) (g := (mkF m 120 #[.val (.long i), .second, vi p1, vr a2, .val (.long i), .second, vi (((x / 100) * 100) - x), vi (cc + (-1)), vi (own_bL q0), vi (x / 100), vi (x / 100)] [(.int (cc + (-1))), (.ref a2)])) rfl (hb hby (d11 68))
         refine oS st124 ?_
         show OF _ _ _ _ (T124.setTop (mkF m 123 _ _))
         refine oS (fun _ q => XS.iload X124.here hx rfl (hb hby (d11 69)) rfl q) ?_
         show OF _ _ _ _ (T124.setTop (mkF m 125 #[.val (.long i), .second, vi p1, vr a2, .val (.long i), .second, vi (((x / 100) * 100) - x), vi (cc + (-1)), vi (own_bL q0), vi (x / 100), vi (x / 100)] [(.int (((x / 100) * 100) - x)), (.ref w_DigitOnes), (.int (cc + (-1))), (.ref a2)]))
         have Vo125 : Arv Z h96 w_DigitOnes kO .byte (100 : Int32) (own_ml (100 : Int32) gO) (.int 0) := (VO.ext ol97.2)
         obtain ⟨cl125, Ar125, qa125, Sa125, Na125, Ha125, Ga125⟩ := id Vo125
         have hib125 : ¬ (((x / 100) * 100) - x) < 0 ∧ (((x / 100) * 100) - x) < 100 := (own_rbI hv2)
         have hin125 := inb_of Sa125 hib125
         refine oS (X124.baloadBytes hx (j := (((x / 100) * 100) - x)) (v := (.int (own_at gO (((x / 100) * 100) - x)))) (by rw [e124]; exact Ar125.1) (State.isArrayOf_alike (hZ).alike Ar125.2.1) Ar125.2.2 hin125 (Ha125.at hin125 (own_mlat _ hib125)) (g := (mkF m 125 #[.val (.long i), .second, vi p1, vr a2, .val (.long i), .second, vi (((x / 100) * 100) - x), vi (cc + (-1)), vi (own_bL q0), vi (x / 100), vi (x / 100)] [(.int (((x / 100) * 100) - x)), (.ref w_DigitOnes), (.int (cc + (-1))), (.ref a2)])) rfl rfl (hb hby (d11 70))) ?_
         show OF _ _ _ _ (T124.setTop (mkF m 126 #[.val (.long i), .second, vi p1, vr a2, .val (.long i), .second, vi (((x / 100) * 100) - x), vi (cc + (-1)), vi (own_bL q0), vi (x / 100), vi (x / 100)] [(.int (own_at gO (((x / 100) * 100) - x))), (.int (cc + (-1))), (.ref a2)]))
         have Vo126 : Arv Z h96 a2 k_a2 .byte z0 (own_ml z0 (own_fdL q0 p1 f0 cc)) (.int 0) := Va96_0
         obtain ⟨cl126, Ar126, qa126, Sa126, Na126, Ha126, Ga126⟩ := id Vo126
         have hib126 : ¬ (cc + (-1)) < 0 ∧ (cc + (-1)) < z0 := (own_i1 (own_preL hn) hv2 (own_x2 hc98))
         obtain ⟨T126, h126, X126, e126, W126, st126⟩ := stB X124 hx hZ e124 Ar126 (j := (cc + (-1))) (inb_of Sa126 hib126) (g := (mkF m 126 #[.val (.long i), .second, vi p1, vr a2, .val (.long i), .second, vi (((x / 100) * 100) - x), vi (cc + (-1)), vi (own_bL q0), vi (x / 100), vi (x / 100)] [(.int (own_at gO (((x / 100) * 100) - x))), (.int (cc + (-1))), (.ref a2)])) rfl rfl (hb hby (d11 71))
         refine oS st126 ?_
         have V126 : Arv Z h126 a2 k_a2 .byte z0 (own_ml z0 (own_upd (own_fdL q0 p1 f0 cc) (cc + (-1)) ((own_at gO (((x / 100) * 100) - x)).toInt8.toInt32))) (.int 0) := by
           have z := Arv.set Ar126 qa126 Sa126 Na126 Ha126 Ga126 (fits_nar_byte _) W126 _ rfl (by rw [own_mllen]; exact own_idx hib126)
           rw [own_mlset] at z
           exact z
         have N126 := Fr.snoc X126 N96 g_a2
         have kp127 : Keep h0 h126 [a2] := kp97.wr W126 (Or.inl (List.mem_of_getElem? (i := 0) rfl))
         have ol127 : Old Z n0 h126 := ol97.wr W126 g_a2
         show OF _ _ _ _ (T126.setTop (mkF m 127 _ _))
         refine oS (fun _ q => XS.aloadN X126.here hx rfl (hb hby (d11 72)) rfl rfl (XS.iinc X126.here hx rfl (hb hby (d11 73)) rfl (l' := #[.val (.long i), .second, vi p1, vr a2, .val (.long i), .second, vi (((x / 100) * 100) - x), vi ((cc + (-1)) + (-1)), vi (own_bL q0), vi (x / 100), vi (x / 100)]) rfl (XS.iload X126.here hx rfl (hb hby (d11 74)) rfl q))) ?_
         show OF _ _ _ _ (T126.setTop (mkF m 133 #[.val (.long i), .second, vi p1, vr a2, .val (.long i), .second, vi (((x / 100) * 100) - x), vi ((cc + (-1)) + (-1)), vi (own_bL q0), vi (x / 100), vi (x / 100)] [(.int ((cc + (-1)) + (-1))), (.ref a2)]))
         obtain ⟨T128, X128, e128, st128⟩ := getS2 X126 hx hZ hown (host := "") (Or.inl (w_ hw 252 rfl)) Via.refl e126 (S_DigitTens.ext ol127.2) (g := (mkF m 133 #[.val (.long i), .second, vi p1, vr a2, .val (.long i), .second, vi (((x / 100) * 100) - x), vi ((cc + (-1)) + (-1)), vi (own_bL q0), vi (x / 100), vi (x / 100)] [(.int ((cc + (-1)) + (-1))), (.ref a2)])) rfl (hb hby (d11 75))
         refine oS st128 ?_
         show OF _ _ _ _ (T128.setTop (mkF m 136 _ _))
         refine oS (fun _ q => XS.iload X128.here hx rfl (hb hby (d11 76)) rfl q) ?_
         show OF _ _ _ _ (T128.setTop (mkF m 138 #[.val (.long i), .second, vi p1, vr a2, .val (.long i), .second, vi (((x / 100) * 100) - x), vi ((cc + (-1)) + (-1)), vi (own_bL q0), vi (x / 100), vi (x / 100)] [(.int (((x / 100) * 100) - x)), (.ref w_DigitTens), (.int ((cc + (-1)) + (-1))), (.ref a2)]))
         have Vo129 : Arv Z h126 w_DigitTens kT .byte (100 : Int32) (own_ml (100 : Int32) gT) (.int 0) := (VT.ext ol127.2)
         obtain ⟨cl129, Ar129, qa129, Sa129, Na129, Ha129, Ga129⟩ := id Vo129
         have hib129 : ¬ (((x / 100) * 100) - x) < 0 ∧ (((x / 100) * 100) - x) < 100 := (own_rbI hv2)
         have hin129 := inb_of Sa129 hib129
         refine oS (X128.baloadBytes hx (j := (((x / 100) * 100) - x)) (v := (.int (own_at gT (((x / 100) * 100) - x)))) (by rw [e128]; exact Ar129.1) (State.isArrayOf_alike (hZ).alike Ar129.2.1) Ar129.2.2 hin129 (Ha129.at hin129 (own_mlat _ hib129)) (g := (mkF m 138 #[.val (.long i), .second, vi p1, vr a2, .val (.long i), .second, vi (((x / 100) * 100) - x), vi ((cc + (-1)) + (-1)), vi (own_bL q0), vi (x / 100), vi (x / 100)] [(.int (((x / 100) * 100) - x)), (.ref w_DigitTens), (.int ((cc + (-1)) + (-1))), (.ref a2)])) rfl rfl (hb hby (d11 77))) ?_
         show OF _ _ _ _ (T128.setTop (mkF m 139 #[.val (.long i), .second, vi p1, vr a2, .val (.long i), .second, vi (((x / 100) * 100) - x), vi ((cc + (-1)) + (-1)), vi (own_bL q0), vi (x / 100), vi (x / 100)] [(.int (own_at gT (((x / 100) * 100) - x))), (.int ((cc + (-1)) + (-1))), (.ref a2)]))
         have Vo130 : Arv Z h126 a2 k_a2 .byte z0 (own_ml z0 (own_upd (own_fdL q0 p1 f0 cc) (cc + (-1)) ((own_at gO (((x / 100) * 100) - x)).toInt8.toInt32))) (.int 0) := V126
         obtain ⟨cl130, Ar130, qa130, Sa130, Na130, Ha130, Ga130⟩ := id Vo130
         have hib130 : ¬ ((cc + (-1)) + (-1)) < 0 ∧ ((cc + (-1)) + (-1)) < z0 := (own_i2 (own_preL hn) hv2 (own_x2 hc98))
         obtain ⟨T130, h130, X130, e130, W130, st130⟩ := stB X128 hx hZ e128 Ar130 (j := ((cc + (-1)) + (-1))) (inb_of Sa130 hib130) (g := (mkF m 139 #[.val (.long i), .second, vi p1, vr a2, .val (.long i), .second, vi (((x / 100) * 100) - x), vi ((cc + (-1)) + (-1)), vi (own_bL q0), vi (x / 100), vi (x / 100)] [(.int (own_at gT (((x / 100) * 100) - x))), (.int ((cc + (-1)) + (-1))), (.ref a2)])) rfl rfl (hb hby (d11 78))
         refine oS st130 ?_
         have V130 : Arv Z h130 a2 k_a2 .byte z0 (own_ml z0 (own_upd (own_upd (own_fdL q0 p1 f0 cc) (cc + (-1)) ((own_at gO (((x / 100) * 100) - x)).toInt8.toInt32)) ((cc + (-1)) + (-1)) ((own_at gT (((x / 100) * 100) - x)).toInt8.toInt32))) (.int 0) := by
           have z := Arv.set Ar130 qa130 Sa130 Na130 Ha130 Ga130 (fits_nar_byte _) W130 _ rfl (by rw [own_mllen]; exact own_idx hib130)
           rw [own_mlset] at z
           exact z
         have N130 := Fr.snoc X130 N126 g_a2
         have kp131 : Keep h0 h130 [a2] := kp127.wr W130 (Or.inl (List.mem_of_getElem? (i := 0) rfl))
         have ol131 : Old Z n0 h130 := ol127.wr W130 g_a2
         show OF _ _ _ _ (T130.setTop (mkF m 140 _ _))
         refine oS (fun _ q => XS.goto X130.here hx rfl (pc0 := 140) (pc' := 86) rfl (hb hby (d11 79)) (by decide) (by decide) q) ?_
         show OF _ _ _ _ (T130.setTop (mkF m 86 #[.val (.long i), .second, vi p1, vr a2, .val (.long i), .second, vi (((x / 100) * 100) - x), vi ((cc + (-1)) + (-1)), vi (own_bL q0), vi (x / 100), vi (x / 100)] []))
         exact ih ((x / 100)) (((cc + (-1)) + (-1))) ((((x / 100) * 100) - x)) _ _ _ (own_ivI (own_preL hn) hv2 (own_x2 hc98)) (own_cdec (own_preL hn) hv2 (own_x2 hc98) hfu) X130 N130 e130 ((K96.wr W126 (Or.inl (List.mem_of_getElem? (i := 0) rfl))).wr W130 (Or.inl (List.mem_of_getElem? (i := 0) rfl))) (own_mlcong (own_stepI (own_preL hn) hv2 (own_x2 hc98) hO hT) V130)
      exact H96 _ (((i.toInt32) / (100 : Int32))) (((cc + (-1)) + (-1))) (((((i.toInt32) / (100 : Int32)) * 100) - (i.toInt32))) _ _ _ (own_ivI (own_preL hn) (own_iv2 hv1 hc87) (own_x2 (own_w2 hv1 hw1 hc87))) (Nat.lt_succ_self _) X94 N94 e94 (Keep.refl _ _) (own_mlcong (own_stepI (own_preL hn) (own_iv2 hv1 hc87) (own_x2 (own_w2 hv1 hw1 hc87)) hO hT) V94)
     ·
      refine oS (fun _ q => XS.ifNo X85.here hx rfl (hb hby (d11 18)) rfl (Jvm.Free.XT.ll_gt_f hc87) q) ?_
      show OF _ _ _ _ (T85.setTop (mkF m 32 _ _))
      refine oS (fun _ q => XS.lloadN X85.here hx rfl (hb hby (d11 19)) rfl q) ?_
      refine oS (X85.ldc2Long hx hown (mvT hZ (w_ hw 251 rfl)) (g := (mkF m 33 #[.val (.long i), .second, vi p1, vr a2, .val (.long i), .second, vi rr, vi cc, vi (own_bL q0), .unset, .unset] [(.long i)])) rfl (hb hby (d11 20))) ?_
      show OF _ _ _ _ (T85.setTop (mkF m 36 _ _))
      refine oS (fun _ q => XS.ldiv X85.here hx rfl (hb hby (d11 21)) rfl (by decide) (XS.lstore X85.here hx rfl (hb hby (d11 22)) rfl (l' := #[.val (.long i), .second, vi p1, vr a2, .val (.long (i / 100)), .second, vi rr, vi cc, vi (own_bL q0), .unset, .unset]) rfl (XS.lload X85.here hx rfl (hb hby (d11 23)) rfl q))) ?_
      refine oS (X85.ldc2Long hx hown (mvT hZ (w_ hw 251 rfl)) (g := (mkF m 41 #[.val (.long i), .second, vi p1, vr a2, .val (.long (i / 100)), .second, vi rr, vi cc, vi (own_bL q0), .unset, .unset] [(.long (i / 100))])) rfl (hb hby (d11 24))) ?_
      show OF _ _ _ _ (T85.setTop (mkF m 44 _ _))
      refine oS (fun _ q => XS.lmul X85.here hx rfl (hb hby (d11 25)) rfl (XS.lloadN X85.here hx rfl (hb hby (d11 26)) rfl (XS.lsub X85.here hx rfl (hb hby (d11 27)) rfl q))) ?_
      show OF _ _ _ _ (T85.setTop (mkF m 47 #[.val (.long i), .second, vi p1, vr a2, .val (.long (i / 100)), .second, vi rr, vi cc, vi (own_bL q0), .unset, .unset] [(.long (((i / 100) * 100) - i))]))
      refine oS (fun _ q => XS.l2i X85.here hx rfl (hb hby (d11 28)) rfl (XS.istore X85.here hx rfl (hb hby (d11 29)) rfl (l' := #[.val (.long i), .second, vi p1, vr a2, .val (.long (i / 100)), .second, vi ((((i / 100) * 100) - i).toInt32), vi cc, vi (own_bL q0), .unset, .unset]) rfl (XS.lload X85.here hx rfl (hb hby (d11 30)) rfl (XS.lstoreN X85.here hx rfl (hb hby (d11 31)) rfl (l' := #[.val (.long (i / 100)), .second, vi p1, vr a2, .val (.long (i / 100)), .second, vi ((((i / 100) * 100) - i).toInt32), vi cc, vi (own_bL q0), .unset, .unset]) rfl (XS.aloadN X85.here hx rfl (hb hby (d11 32)) rfl rfl (XS.iinc X85.here hx rfl (hb hby (d11 33)) rfl (l' := #[.val (.long (i / 100)), .second, vi p1, vr a2, .val (.long (i / 100)), .second, vi ((((i / 100) * 100) - i).toInt32), vi (cc + (-1)), vi (own_bL q0), .unset, .unset]) rfl (XS.iload X85.here hx rfl (hb hby (d11 34)) rfl q))))))) ?_
      show OF _ _ _ _ (T85.setTop (mkF m 59 #[.val (.long (i / 100)), .second, vi p1, vr a2, .val (.long (i / 100)), .second, vi ((((i / 100) * 100) - i).toInt32), vi (cc + (-1)), vi (own_bL q0), .unset, .unset] [(.int (cc + (-1))), (.ref a2)]))
      obtain ⟨T132, X132, e132, st132⟩ := getS2 X85 hx hZ hown (host := "") (Or.inl (w_ hw 88 rfl)) Via.refl e85 (S_DigitOnes.ext ol86.2) (g := (mkF m 59 #[.val (.long (i / 100)), .second, vi p1, vr a2, .val (.long (i / 100)), .second, vi ((((i / 100) * 100) - i).toInt32), vi (cc + (-1)), vi (own_bL q0), .unset, .unset] [(.int (cc + (-1))), (.ref a2)])) rfl (hb hby (d11 35))
      refine oS st132 ?_
      show OF _ _ _ _ (T132.setTop (mkF m 62 _ _))
      refine oS (fun _ q => XS.iload X132.here hx rfl (hb hby (d11 36)) rfl q) ?_
      show OF _ _ _ _ (T132.setTop (mkF m 64 #[.val (.long (i / 100)), .second, vi p1, vr a2, .val (.long (i / 100)), .second, vi ((((i / 100) * 100) - i).toInt32), vi (cc + (-1)), vi (own_bL q0), .unset, .unset] [(.int ((((i / 100) * 100) - i).toInt32)), (.ref w_DigitOnes), (.int (cc + (-1))), (.ref a2)]))
      have Vo133 : Arv Z h85 w_DigitOnes kO .byte (100 : Int32) (own_ml (100 : Int32) gO) (.int 0) := (VO.ext ol86.2)
      obtain ⟨cl133, Ar133, qa133, Sa133, Na133, Ha133, Ga133⟩ := id Vo133
      have hib133 : ¬ ((((i / 100) * 100) - i).toInt32) < 0 ∧ ((((i / 100) * 100) - i).toInt32) < (100 : Int32) := (own_rbL hv1)
      have hin133 := inb_of Sa133 hib133
      refine oS (X132.baloadBytes hx (j := ((((i / 100) * 100) - i).toInt32)) (v := (.int (own_at gO ((((i / 100) * 100) - i).toInt32)))) (by rw [e132]; exact Ar133.1) (State.isArrayOf_alike (hZ).alike Ar133.2.1) Ar133.2.2 hin133 (Ha133.at hin133 (own_mlat _ hib133)) (g := (mkF m 64 #[.val (.long (i / 100)), .second, vi p1, vr a2, .val (.long (i / 100)), .second, vi ((((i / 100) * 100) - i).toInt32), vi (cc + (-1)), vi (own_bL q0), .unset, .unset] [(.int ((((i / 100) * 100) - i).toInt32)), (.ref w_DigitOnes), (.int (cc + (-1))), (.ref a2)])) rfl rfl (hb hby (d11 37))) ?_
      show OF _ _ _ _ (T132.setTop (mkF m 65 #[.val (.long (i / 100)), .second, vi p1, vr a2, .val (.long (i / 100)), .second, vi ((((i / 100) * 100) - i).toInt32), vi (cc + (-1)), vi (own_bL q0), .unset, .unset] [(.int (own_at gO ((((i / 100) * 100) - i).toInt32))), (.int (cc + (-1))), (.ref a2)]))
      have Vo134 : Arv Z h85 a2 k_a2 .byte z0 (own_ml z0 (own_fdL q0 p1 f0 cc)) (.int 0) := Va85_0
      obtain ⟨cl134, Ar134, qa134, Sa134, Na134, Ha134, Ga134⟩ := id Vo134
      have hib134 : ¬ (cc + (-1)) < 0 ∧ (cc + (-1)) < z0 := (own_i1 (own_preL hn) hv1 (own_x1 hc87))
      obtain ⟨T134, h134, X134, e134, W134, st134⟩ := stB X132 hx hZ e132 Ar134 (j := (cc + (-1))) (inb_of Sa134 hib134) (g := (mkF m 65 #[.val (.long (i / 100)), .second, vi p1, vr a2, .val (.long (i / 100)), .second, vi ((((i / 100) * 100) - i).toInt32), vi (cc + (-1)), vi (own_bL q0), .unset, .unset] [(.int (own_at gO ((((i / 100) * 100) - i).toInt32))), (.int (cc + (-1))), (.ref a2)])) rfl rfl (hb hby (d11 38))
      refine oS st134 ?_
      have V134 : Arv Z h134 a2 k_a2 .byte z0 (own_ml z0 (own_upd (own_fdL q0 p1 f0 cc) (cc + (-1)) ((own_at gO ((((i / 100) * 100) - i).toInt32)).toInt8.toInt32))) (.int 0) := by
        have z := Arv.set Ar134 qa134 Sa134 Na134 Ha134 Ga134 (fits_nar_byte _) W134 _ rfl (by rw [own_mllen]; exact own_idx hib134)
        rw [own_mlset] at z
        exact z
      have N134 := Fr.snoc X134 N85 g_a2
      have kp135 : Keep h0 h134 [a2] := kp86.wr W134 (Or.inl (List.mem_of_getElem? (i := 0) rfl))
      have ol135 : Old Z n0 h134 := ol86.wr W134 g_a2
      show OF _ _ _ _ (T134.setTop (mkF m 66 _ _))
      refine oS (fun _ q => XS.aloadN X134.here hx rfl (hb hby (d11 39)) rfl rfl (XS.iinc X134.here hx rfl (hb hby (d11 40)) rfl (l' := #[.val (.long (i / 100)), .second, vi p1, vr a2, .val (.long (i / 100)), .second, vi ((((i / 100) * 100) - i).toInt32), vi ((cc + (-1)) + (-1)), vi (own_bL q0), .unset, .unset]) rfl (XS.iload X134.here hx rfl (hb hby (d11 41)) rfl q))) ?_
      show OF _ _ _ _ (T134.setTop (mkF m 72 #[.val (.long (i / 100)), .second, vi p1, vr a2, .val (.long (i / 100)), .second, vi ((((i / 100) * 100) - i).toInt32), vi ((cc + (-1)) + (-1)), vi (own_bL q0), .unset, .unset] [(.int ((cc + (-1)) + (-1))), (.ref a2)]))
      obtain ⟨T136, X136, e136, st136⟩ := getS2 X134 hx hZ hown (host := "") (Or.inl (w_ hw 252 rfl)) Via.refl e134 (S_DigitTens.ext ol135.2) (g := (mkF m 72 #[.val (.long (i / 100)), .second, vi p1, vr a2, .val (.long (i / 100)), .second, vi ((((i / 100) * 100) - i).toInt32), vi ((cc + (-1)) + (-1)), vi (own_bL q0), .unset, .unset] [(.int ((cc + (-1)) + (-1))), (.ref a2)])) rfl (hb hby (d11 42))
      refine oS st136 ?_
      show OF _ _ _ _ (T136.setTop (mkF m 75 _ _))
      refine oS (fun _ q => XS.iload X136.here hx rfl (hb hby (d11 43)) rfl q) ?_
      show OF _ _ _ _ (T136.setTop (mkF m 77 #[.val (.long (i / 100)), .second, vi p1, vr a2, .val (.long (i / 100)), .second, vi ((((i / 100) * 100) - i).toInt32), vi ((cc + (-1)) + (-1)), vi (own_bL q0), .unset, .unset] [(.int ((((i / 100) * 100) - i).toInt32)), (.ref w_DigitTens), (.int ((cc + (-1)) + (-1))), (.ref a2)]))
      have Vo137 : Arv Z h134 w_DigitTens kT .byte (100 : Int32) (own_ml (100 : Int32) gT) (.int 0) := (VT.ext ol135.2)
      obtain ⟨cl137, Ar137, qa137, Sa137, Na137, Ha137, Ga137⟩ := id Vo137
      have hib137 : ¬ ((((i / 100) * 100) - i).toInt32) < 0 ∧ ((((i / 100) * 100) - i).toInt32) < (100 : Int32) := (own_rbL hv1)
      have hin137 := inb_of Sa137 hib137
      refine oS (X136.baloadBytes hx (j := ((((i / 100) * 100) - i).toInt32)) (v := (.int (own_at gT ((((i / 100) * 100) - i).toInt32)))) (by rw [e136]; exact Ar137.1) (State.isArrayOf_alike (hZ).alike Ar137.2.1) Ar137.2.2 hin137 (Ha137.at hin137 (own_mlat _ hib137)) (g := (mkF m 77 #[.val (.long (i / 100)), .second, vi p1, vr a2, .val (.long (i / 100)), .second, vi ((((i / 100) * 100) - i).toInt32), vi ((cc + (-1)) + (-1)), vi (own_bL q0), .unset, .unset] [(.int ((((i / 100) * 100) - i).toInt32)), (.ref w_DigitTens), (.int ((cc + (-1)) + (-1))), (.ref a2)])) rfl rfl (hb hby (d11 44))) ?_
      show OF _ _ _ _ (T136.setTop (mkF m 78 #[.val (.long (i / 100)), .second, vi p1, vr a2, .val (.long (i / 100)), .second, vi ((((i / 100) * 100) - i).toInt32), vi ((cc + (-1)) + (-1)), vi (own_bL q0), .unset, .unset] [(.int (own_at gT ((((i / 100) * 100) - i).toInt32))), (.int ((cc + (-1)) + (-1))), (.ref a2)]))
      have Vo138 : Arv Z h134 a2 k_a2 .byte z0 (own_ml z0 (own_upd (own_fdL q0 p1 f0 cc) (cc + (-1)) ((own_at gO ((((i / 100) * 100) - i).toInt32)).toInt8.toInt32))) (.int 0) := V134
      obtain ⟨cl138, Ar138, qa138, Sa138, Na138, Ha138, Ga138⟩ := id Vo138
      have hib138 : ¬ ((cc + (-1)) + (-1)) < 0 ∧ ((cc + (-1)) + (-1)) < z0 := (own_i2 (own_preL hn) hv1 (own_x1 hc87))
      obtain ⟨T138, h138, X138, e138, W138, st138⟩ := stB X136 hx hZ e136 Ar138 (j := ((cc + (-1)) + (-1))) (inb_of Sa138 hib138) (g := (mkF m 78 #[.val (.long (i / 100)), .second, vi p1, vr a2, .val (.long (i / 100)), .second, vi ((((i / 100) * 100) - i).toInt32), vi ((cc + (-1)) + (-1)), vi (own_bL q0), .unset, .unset] [(.int (own_at gT ((((i / 100) * 100) - i).toInt32))), (.int ((cc + (-1)) + (-1))), (.ref a2)])) rfl rfl (hb hby (d11 45))
      refine oS st138 ?_
      have V138 : Arv Z h138 a2 k_a2 .byte z0 (own_ml z0 (own_upd (own_upd (own_fdL q0 p1 f0 cc) (cc + (-1)) ((own_at gO ((((i / 100) * 100) - i).toInt32)).toInt8.toInt32)) ((cc + (-1)) + (-1)) ((own_at gT ((((i / 100) * 100) - i).toInt32)).toInt8.toInt32))) (.int 0) := by
        have z := Arv.set Ar138 qa138 Sa138 Na138 Ha138 Ga138 (fits_nar_byte _) W138 _ rfl (by rw [own_mllen]; exact own_idx hib138)
        rw [own_mlset] at z
        exact z
      have N138 := Fr.snoc X138 N134 g_a2
      have kp139 : Keep h0 h138 [a2] := kp135.wr W138 (Or.inl (List.mem_of_getElem? (i := 0) rfl))
      have ol139 : Old Z n0 h138 := ol135.wr W138 g_a2
      show OF _ _ _ _ (T138.setTop (mkF m 79 _ _))
      refine oS (fun _ q => XS.goto X138.here hx rfl (pc0 := 79) (pc' := 24) rfl (hb hby (d11 46)) (by decide) (by decide) q) ?_
      show OF _ _ _ _ (T138.setTop (mkF m 24 #[.val (.long (i / 100)), .second, vi p1, vr a2, .val (.long (i / 100)), .second, vi ((((i / 100) * 100) - i).toInt32), vi ((cc + (-1)) + (-1)), vi (own_bL q0), .unset, .unset] []))
      exact ih ((i / 100)) (((cc + (-1)) + (-1))) (((((i / 100) * 100) - i).toInt32)) _ _ _ (own_ivL (own_preL hn) hv1 (own_x1 hc87)) (own_w1 hv1 hc87) (own_cdec (own_preL hn) hv1 (own_x1 hc87) hfu) X138 N138 e138 ((K85.wr W134 (Or.inl (List.mem_of_getElem? (i := 0) rfl))).wr W138 (Or.inl (List.mem_of_getElem? (i := 0) rfl))) (own_mlcong (own_stepL (own_preL hn) hv1 (own_x1 hc87) hO hT) V138)
   exact H85 _ (((own_ngL q0) / 100)) (((p1 + (-1)) + (-1))) ((((((own_ngL q0) / 100) * 100) - (own_ngL q0)).toInt32)) _ _ _ (own_ivL (own_preL hn) (own_iv0 (own_preL hn) (own_ngLv q0)) (own_x1 hc6)) (own_w1 (own_iv0 (own_preL hn) (own_ngLv q0)) hc6) (Nat.lt_succ_self _) X83 N83 e83 (Keep.refl _ _) (own_mlcong (own_stepL (own_preL hn) (own_iv0 (own_preL hn) (own_ngLv q0)) (own_x1 hc6) hO hT) V83)
abbrev C22 := jdk_33_method_12_code
def L22 : List (Nat × Instr × Nat) := [(0, .iload_n 1, 1), (1, .istore 5, 2), (3, .iload_n 0, 1), (4, .ifCond .ge 7, 3), (7, .iconst 1, 1), (8, .goto 4, 3), (11, .iconst 0, 1), (12, .istore 6, 2), (14, .iload 6, 2), (16, .ifCond .ne 6, 3), (19, .iload_n 0, 1), (20, .ineg, 1), (21, .istore_n 0, 1), (22, .iload_n 0, 1), (23, .bipush (-100), 2), (25, .if_icmp .gt 47, 3), (28, .iload_n 0, 1), (29, .bipush 100, 2), (31, .idiv, 1), (32, .istore_n 3, 1), (33, .iload_n 3, 1), (34, .bipush 100, 2), (36, .imul, 1), (37, .iload_n 0, 1), (38, .isub, 1), (39, .istore 4, 2), (41, .iload_n 3, 1), (42, .istore_n 0, 1), (43, .aload_n 2, 1), (44, .iinc 5 (-1), 3), (47, .iload 5, 2), (49, .getstatic 83, 3), (52, .iload 4, 2), (54, .baload, 1), (55, .bastore, 1), (56, .aload_n 2, 1), (57, .iinc 5 (-1), 3), (60, .iload 5, 2), (62, .getstatic 87, 3), (65, .iload 4, 2), (67, .baload, 1), (68, .bastore, 1), (69, .goto (-47), 3), (72, .aload_n 2, 1), (73, .iinc 5 (-1), 3), (76, .iload 5, 2), (78, .getstatic 83, 3), (81, .iload_n 0, 1), (82, .ineg, 1), (83, .baload, 1), (84, .bastore, 1), (85, .iload_n 0, 1), (86, .bipush (-9), 2), (88, .if_icmp .ge 16, 3), (91, .aload_n 2, 1), (92, .iinc 5 (-1), 3), (95, .iload 5, 2), (97, .getstatic 87, 3), (100, .iload_n 0, 1), (101, .ineg, 1), (102, .baload, 1), (103, .bastore, 1), (104, .iload 6, 2), (106, .ifCond .eq 12, 3), (109, .aload_n 2, 1), (110, .iinc 5 (-1), 3), (113, .iload 5, 2), (115, .bipush 45, 2), (117, .bastore, 1), (118, .iload 5, 2), (120, .ireturn, 1)]
set_option maxRecDepth 65536 in
theorem d22 : ∀ i : Fin 71, decode C22 (L22.get i).1 = .ok (L22.get i).2 := by decide +kernel
theorem ef_rm_gcI (m : MethodId) (p0 : Int32) (p1 : Int32) (a2 : Addr) : entryFrame m #[(.int p0), (.int p1), (.ref a2)] 7 = mkF m 0 #[.val (.int p0), .val (.int p1), .val (.ref a2), .unset, .unset, .unset, .unset] [] := by first | (simp [entryFrame, mkF, argsToLocals, Value.category]; done) | rfl
def Q_rm_gcI (Z : State) (p0 : Int32) (p1 : Int32) (a2 : Addr) (k_a2 : ClassId) (z0 : Int32) (f0 : Nat → Int32) (kO : ClassId) (gO : Nat → Int32) (w_DigitOnes : Addr) (kT : ClassId) (gT : Nat → Int32) (w_DigitTens : Addr) (h0 : Heap) (n0 : Nat) (v : Option Value) (h : Heap) (L : List Loc) : Prop := ∃ (rI : Int32), v = some (.int rI) ∧ Fr n0 L ∧ Keep h0 h [a2] ∧ Arv Z h a2 k_a2 .byte z0 (own_ml z0 (own_outI p0 p1 f0)) (.int 0)
set_option maxRecDepth 65536 in
set_option maxHeartbeats 40000000 in
theorem rm_gcI (l : Launch) (Z : State) (av0 : Array Value) (hw : ∀ d ∈ tables_1, d.before av0 Z = true) (ws : List Jvm.Cond) (p0 : Int32) (p1 : Int32) (a2 : Addr) (k_a2 : ClassId) (z0 : Int32) (f0 : Nat → Int32) (kO : ClassId) (gO : Nat → Int32) (w_DigitOnes : Addr) (kT : ClassId) (gT : Nat → Int32) (w_DigitTens : Addr) (h0 : Heap) (n0 : Nat) (Z0 : n0 ≤ h0.size) (Ol0 : Old Z n0 h0) (V_a2 : Arv Z h0 a2 k_a2 .byte z0 (own_ml z0 f0) (.int 0)) (VO : Arv Z Z.heap w_DigitOnes kO .byte (100 : Int32) (own_ml (100 : Int32) gO) (.int 0)) (VT : Arv Z Z.heap w_DigitTens kT .byte (100 : Int32) (own_ml (100 : Int32) gT) (.int 0)) (hO : own_hO gO) (hT : own_hT gT) (hn : (own_ssI p0).toInt ≤ p1.toInt ∧ p1.toInt ≤ z0.toInt) (S_DigitOnes : Sta Z Z.heap "java/lang/Integer" "DigitOnes" "[B" (.ref w_DigitOnes)) (g_a2 : n0 ≤ a2) (S_DigitTens : Sta Z Z.heap "java/lang/Integer" "DigitTens" "[B" (.ref w_DigitTens)) :
    own_MF l Z h0 yM13 (Jvm.Cond.code yM13 jdk_33_method_12_code 7 (some .int) :: ws) ({ frames := 0, cells := 0, slots := 0, locals := 0 } : Room) #[(.int p0), (.int p1), (.ref a2)] (Q_rm_gcI Z p0 p1 a2 k_a2 z0 f0 kO gO w_DigitOnes kT gT w_DigitTens h0 n0) := by
  refine own_ent (own := "java/lang/Integer") (plainFor_of_name pn_4) rfl ?_
  intro p e s m below meth c s₁ Bd hx hby hml hZ hh hown hnm X0 e0
  have N0 := Fr.nil n0
  have kp0 : Keep h0 h0 [a2] := Keep.refl _ _
  obtain ⟨GG, hGG⟩ : ∃ G : Outcome → State → Prop, G = (fun o U' => ∃ v L, o = .returned v ∧ Q_rm_gcI Z p0 p1 a2 k_a2 z0 f0 kO gO w_DigitOnes kT gT w_DigitTens h0 n0 v U'.heap L ∧ FrameEnd s o U' L ({ frames := 0, cells := 0, slots := 0, locals := 0 } : Room).cells ({ frames := 0, cells := 0, slots := 0, locals := 0 } : Room).slots) := ⟨_, rfl⟩
  change OF p.tables e below (fun o U' => ∃ v L, o = .returned v ∧ Q_rm_gcI Z p0 p1 a2 k_a2 z0 f0 kO gO w_DigitOnes kT gT w_DigitTens h0 n0 v U'.heap L ∧ FrameEnd s o U' L ({ frames := 0, cells := 0, slots := 0, locals := 0 } : Room).cells ({ frames := 0, cells := 0, slots := 0, locals := 0 } : Room).slots) _
  rw [← hGG]
  refine oS (fun _ q => castTop (ef_rm_gcI m p0 p1 a2) q) ?_
  show OF _ _ _ _ (s₁.setTop (mkF m 0 #[vi p0, vi p1, vr a2, .unset, .unset, .unset, .unset] []))
  refine oS (fun _ q => XS.iloadN X0.here hx rfl (hb hby (d22 0)) rfl (XS.istore X0.here hx rfl (hb hby (d22 1)) rfl (l' := #[vi p0, vi p1, vr a2, .unset, .unset, vi p1, .unset]) rfl (XS.iloadN X0.here hx rfl (hb hby (d22 2)) rfl q))) ?_
  suffices H1 : ∀ (T : State) (lc : List Loc), Stand p l e ({ frames := 0, cells := 0, slots := 0, locals := 0 } : Room) s m #[(.int p0), (.int p1), (.ref a2)] below meth c T lc 0 0 → Fr n0 lc → T.heap = h0 → OF p.tables e below GG (T.setTop (mkF m 12 #[vi p0, vi p1, vr a2, .unset, .unset, vi p1, .unset] [(.int (if p0 < 0 then (1 : Int32) else (0 : Int32)))])) by
   by_cases hc1 : p0 < 0
   ·
    refine oS (fun _ q => XS.ifNo X0.here hx rfl (hb hby (d22 3)) rfl (Jvm.Free.XT.i0_ge_f hc1) q) ?_
    show OF _ _ _ _ (s₁.setTop (mkF m 7 _ _))
    refine oS (fun _ q => XS.iconst X0.here hx rfl (hb hby (d22 4)) (XS.goto X0.here hx rfl (pc0 := 8) (pc' := 12) rfl (hb hby (d22 5)) (by decide) (by decide) q)) ?_
    show OF _ _ _ _ (s₁.setTop (mkF m 12 #[vi p0, vi p1, vr a2, .unset, .unset, vi p1, .unset] [(.int 1)]))
    have z := H1 _ _ X0 N0 e0
    rw [show ((if p0 < 0 then (1 : Int32) else (0 : Int32)) : Int32) = (1 : Int32) from if_pos hc1] at z
    exact z
   ·
    refine oS (fun _ q => XS.ifYes X0.here hx rfl (pc0 := 4) (pc' := 11) rfl (hb hby (d22 3)) rfl (Jvm.Free.XT.i0_ge_t hc1) (by decide) (by decide) q) ?_
    show OF _ _ _ _ (s₁.setTop (mkF m 11 _ _))
    refine oS (fun _ q => XS.iconst X0.here hx rfl (hb hby (d22 6)) q) ?_
    show OF _ _ _ _ (s₁.setTop (mkF m 12 #[vi p0, vi p1, vr a2, .unset, .unset, vi p1, .unset] [(.int 0)]))
    have z := H1 _ _ X0 N0 e0
    rw [show ((if p0 < 0 then (1 : Int32) else (0 : Int32)) : Int32) = (0 : Int32) from if_neg hc1] at z
    exact z
  intro T1 lc1 X1 N1 e1
  show OF _ _ _ _ (T1.setTop (mkF m 12 #[vi p0, vi p1, vr a2, .unset, .unset, vi p1, .unset] [(.int (if p0 < 0 then (1 : Int32) else (0 : Int32)))]))
  refine oS (fun _ q => XS.istore X1.here hx rfl (hb hby (d22 7)) rfl (l' := #[vi p0, vi p1, vr a2, .unset, .unset, vi p1, vi (if p0 < 0 then (1 : Int32) else (0 : Int32))]) rfl (XS.iload X1.here hx rfl (hb hby (d22 8)) rfl q)) ?_
  suffices H2 : ∀ (T : State) (lc : List Loc), Stand p l e ({ frames := 0, cells := 0, slots := 0, locals := 0 } : Room) s m #[(.int p0), (.int p1), (.ref a2)] below meth c T lc 0 0 → Fr n0 lc → T.heap = h0 → OF p.tables e below GG (T.setTop (mkF m 22 #[vi (if p0 < 0 then p0 else (-p0)), vi p1, vr a2, .unset, .unset, vi p1, vi (if p0 < 0 then (1 : Int32) else (0 : Int32))] [])) by
   by_cases hc2 : p0 < 0
   ·
    have hi3 : ¬ ((if p0 < 0 then (1 : Int32) else (0 : Int32)) = 0) := by rw [if_pos hc2] <;> decide
    refine oS (fun _ q => XS.ifYes X1.here hx rfl (pc0 := 16) (pc' := 22) rfl (hb hby (d22 9)) rfl (Jvm.Free.XT.i0_ne_t hi3) (by decide) (by decide) q) ?_
    show OF _ _ _ _ (T1.setTop (mkF m 22 #[vi p0, vi p1, vr a2, .unset, .unset, vi p1, vi (if p0 < 0 then (1 : Int32) else (0 : Int32))] []))
    have z := H2 _ _ X1 N1 e1
    rw [show ((if p0 < 0 then p0 else (-p0)) : Int32) = p0 from if_pos hc2] at z
    exact z
   ·
    have hi4 : (if p0 < 0 then (1 : Int32) else (0 : Int32)) = 0 := by rw [if_neg hc2] <;> decide
    refine oS (fun _ q => XS.ifNo X1.here hx rfl (hb hby (d22 9)) rfl (Jvm.Free.XT.i0_ne_f hi4) q) ?_
    show OF _ _ _ _ (T1.setTop (mkF m 19 _ _))
    refine oS (fun _ q => XS.iloadN X1.here hx rfl (hb hby (d22 10)) rfl (XS.ineg X1.here hx rfl (hb hby (d22 11)) rfl (XS.istoreN X1.here hx rfl (hb hby (d22 12)) rfl (l' := #[vi (-p0), vi p1, vr a2, .unset, .unset, vi p1, vi (if p0 < 0 then (1 : Int32) else (0 : Int32))]) rfl q))) ?_
    show OF _ _ _ _ (T1.setTop (mkF m 22 #[vi (-p0), vi p1, vr a2, .unset, .unset, vi p1, vi (if p0 < 0 then (1 : Int32) else (0 : Int32))] []))
    have z := H2 _ _ X1 N1 e1
    rw [show ((if p0 < 0 then p0 else (-p0)) : Int32) = (-p0) from if_neg hc2] at z
    exact z
  intro T2 lc2 X2 N2 e2
  show OF _ _ _ _ (T2.setTop (mkF m 22 #[vi (if p0 < 0 then p0 else (-p0)), vi p1, vr a2, .unset, .unset, vi p1, vi (if p0 < 0 then (1 : Int32) else (0 : Int32))] []))
  have vE5 : Arv Z h0 a2 k_a2 .byte z0 (own_ml z0 (own_fdI p0 p1 f0 p1)) (.int 0) := own_mlcong (own_fd0 _ _ _) V_a2
  refine oS (fun _ q => XS.iloadN X2.here hx rfl (hb hby (d22 13)) rfl q) ?_
  show OF _ _ _ _ (T2.setTop (mkF m 23 #[vi (own_ngI p0), vi p1, vr a2, .unset, .unset, vi p1, vi (own_bI p0)] [(.int (own_ngI p0))]))
  refine oS (fun _ q => XS.bipush X2.here hx rfl (hb hby (d22 14)) q) ?_
  by_cases hc6 : (-100 : Int32) < (own_ngI p0)
  ·
   refine oS (fun _ q => XS.icmpYes X2.here hx rfl (pc0 := 25) (pc' := 72) rfl (hb hby (d22 15)) rfl (Jvm.Free.XT.ii_gt_t hc6) (by decide) (by decide) q) ?_
   show OF _ _ _ _ (T2.setTop (mkF m 72 _ _))
   refine oS (fun _ q => XS.aloadN X2.here hx rfl (hb hby (d22 43)) rfl rfl (XS.iinc X2.here hx rfl (hb hby (d22 44)) rfl (l' := #[vi (own_ngI p0), vi p1, vr a2, .unset, .unset, vi (p1 + (-1)), vi (own_bI p0)]) rfl (XS.iload X2.here hx rfl (hb hby (d22 45)) rfl q))) ?_
   show OF _ _ _ _ (T2.setTop (mkF m 78 #[vi (own_ngI p0), vi p1, vr a2, .unset, .unset, vi (p1 + (-1)), vi (own_bI p0)] [(.int (p1 + (-1))), (.ref a2)]))
   obtain ⟨T7, X7, e7, st7⟩ := getS2 X2 hx hZ hown (host := "") (Or.inl (w_ hw 153 rfl)) Via.refl e2 (S_DigitOnes.ext Ol0.2) (g := (mkF m 78 #[vi (own_ngI p0), vi p1, vr a2, .unset, .unset, vi (p1 + (-1)), vi (own_bI p0)] [(.int (p1 + (-1))), (.ref a2)])) rfl (hb hby (d22 46))
   refine oS st7 ?_
   show OF _ _ _ _ (T7.setTop (mkF m 81 _ _))
   refine oS (fun _ q => XS.iloadN X7.here hx rfl (hb hby (d22 47)) rfl (XS.ineg X7.here hx rfl (hb hby (d22 48)) rfl q)) ?_
   show OF _ _ _ _ (T7.setTop (mkF m 83 #[vi (own_ngI p0), vi p1, vr a2, .unset, .unset, vi (p1 + (-1)), vi (own_bI p0)] [(.int (-(own_ngI p0))), (.ref w_DigitOnes), (.int (p1 + (-1))), (.ref a2)]))
   have Vo8 : Arv Z h0 w_DigitOnes kO .byte (100 : Int32) (own_ml (100 : Int32) gO) (.int 0) := (VO.ext Ol0.2)
   obtain ⟨cl8, Ar8, qa8, Sa8, Na8, Ha8, Ga8⟩ := id Vo8
   have hib8 : ¬ (-(own_ngI p0)) < 0 ∧ (-(own_ngI p0)) < 100 := (own_nxb (own_iv0 (own_preI hn) (own_ngIv p0)) hc6)
   have hin8 := inb_of Sa8 hib8
   refine oS (X7.baloadBytes hx (j := (-(own_ngI p0))) (v := (.int (own_at gO (-(own_ngI p0))))) (by rw [e7]; exact Ar8.1) (State.isArrayOf_alike (hZ).alike Ar8.2.1) Ar8.2.2 hin8 (Ha8.at hin8 (own_mlat _ hib8)) (g := (mkF m 83 #[vi (own_ngI p0), vi p1, vr a2, .unset, .unset, vi (p1 + (-1)), vi (own_bI p0)] [(.int (-(own_ngI p0))), (.ref w_DigitOnes), (.int (p1 + (-1))), (.ref a2)])) rfl rfl (hb hby (d22 49))) ?_
   show OF _ _ _ _ (T7.setTop (mkF m 84 #[vi (own_ngI p0), vi p1, vr a2, .unset, .unset, vi (p1 + (-1)), vi (own_bI p0)] [(.int (own_at gO (-(own_ngI p0)))), (.int (p1 + (-1))), (.ref a2)]))
   have Vo9 : Arv Z h0 a2 k_a2 .byte z0 (own_ml z0 (own_fdI p0 p1 f0 p1)) (.int 0) := vE5
   obtain ⟨cl9, Ar9, qa9, Sa9, Na9, Ha9, Ga9⟩ := id Vo9
   have hib9 : ¬ (p1 + (-1)) < 0 ∧ (p1 + (-1)) < z0 := (own_ib (own_tb (own_preI hn) (own_iv0 (own_preI hn) (own_ngIv p0)) hc6).1 (own_tb (own_preI hn) (own_iv0 (own_preI hn) (own_ngIv p0)) hc6).2.1)
   obtain ⟨T9, h9, X9, e9, W9, st9⟩ := stB X7 hx hZ e7 Ar9 (j := (p1 + (-1))) (inb_of Sa9 hib9) (g := (mkF m 84 #[vi (own_ngI p0), vi p1, vr a2, .unset, .unset, vi (p1 + (-1)), vi (own_bI p0)] [(.int (own_at gO (-(own_ngI p0)))), (.int (p1 + (-1))), (.ref a2)])) rfl rfl (hb hby (d22 50))
   refine oS st9 ?_
   have V9 : Arv Z h9 a2 k_a2 .byte z0 (own_ml z0 (own_upd (own_fdI p0 p1 f0 p1) (p1 + (-1)) ((own_at gO (-(own_ngI p0))).toInt8.toInt32))) (.int 0) := by
     have z := Arv.set Ar9 qa9 Sa9 Na9 Ha9 Ga9 (fits_nar_byte _) W9 _ rfl (by rw [own_mllen]; exact own_idx hib9)
     rw [own_mlset] at z
     exact z
   have N9 := Fr.snoc X9 N2 g_a2
   have kp10 : Keep h0 h9 [a2] := kp0.wr W9 (Or.inl (List.mem_of_getElem? (i := 0) rfl))
   have ol10 : Old Z n0 h9 := Ol0.wr W9 g_a2
   show OF _ _ _ _ (T9.setTop (mkF m 85 _ _))
   have vE11 : Arv Z h9 a2 k_a2 .byte z0 (own_ml z0 (own_fdI p0 p1 f0 (p1 + (-1)))) (.int 0) := own_mlcong (own_t1 (own_preI hn) (own_iv0 (own_preI hn) (own_ngIv p0)) hc6 hO) V9
   refine oS (fun _ q => XS.iloadN X9.here hx rfl (hb hby (d22 51)) rfl (XS.bipush X9.here hx rfl (hb hby (d22 52)) q)) ?_
   by_cases hc12 : (own_ngI p0) < (-9)
   ·
    refine oS (fun _ q => XS.icmpNo X9.here hx rfl (hb hby (d22 53)) rfl (Jvm.Free.XT.ii_ge_f hc12) q) ?_
    show OF _ _ _ _ (T9.setTop (mkF m 91 _ _))
    refine oS (fun _ q => XS.aloadN X9.here hx rfl (hb hby (d22 54)) rfl rfl (XS.iinc X9.here hx rfl (hb hby (d22 55)) rfl (l' := #[vi (own_ngI p0), vi p1, vr a2, .unset, .unset, vi ((p1 + (-1)) + (-1)), vi (own_bI p0)]) rfl (XS.iload X9.here hx rfl (hb hby (d22 56)) rfl q))) ?_
    show OF _ _ _ _ (T9.setTop (mkF m 97 #[vi (own_ngI p0), vi p1, vr a2, .unset, .unset, vi ((p1 + (-1)) + (-1)), vi (own_bI p0)] [(.int ((p1 + (-1)) + (-1))), (.ref a2)]))
    obtain ⟨T13, X13, e13, st13⟩ := getS2 X9 hx hZ hown (host := "") (Or.inl (w_ hw 253 rfl)) Via.refl e9 (S_DigitTens.ext ol10.2) (g := (mkF m 97 #[vi (own_ngI p0), vi p1, vr a2, .unset, .unset, vi ((p1 + (-1)) + (-1)), vi (own_bI p0)] [(.int ((p1 + (-1)) + (-1))), (.ref a2)])) rfl (hb hby (d22 57))
    refine oS st13 ?_
    show OF _ _ _ _ (T13.setTop (mkF m 100 _ _))
    refine oS (fun _ q => XS.iloadN X13.here hx rfl (hb hby (d22 58)) rfl (XS.ineg X13.here hx rfl (hb hby (d22 59)) rfl q)) ?_
    show OF _ _ _ _ (T13.setTop (mkF m 102 #[vi (own_ngI p0), vi p1, vr a2, .unset, .unset, vi ((p1 + (-1)) + (-1)), vi (own_bI p0)] [(.int (-(own_ngI p0))), (.ref w_DigitTens), (.int ((p1 + (-1)) + (-1))), (.ref a2)]))
    have Vo14 : Arv Z h9 w_DigitTens kT .byte (100 : Int32) (own_ml (100 : Int32) gT) (.int 0) := (VT.ext ol10.2)
    obtain ⟨cl14, Ar14, qa14, Sa14, Na14, Ha14, Ga14⟩ := id Vo14
    have hib14 : ¬ (-(own_ngI p0)) < 0 ∧ (-(own_ngI p0)) < 100 := (own_nxb (own_iv0 (own_preI hn) (own_ngIv p0)) hc6)
    have hin14 := inb_of Sa14 hib14
    refine oS (X13.baloadBytes hx (j := (-(own_ngI p0))) (v := (.int (own_at gT (-(own_ngI p0))))) (by rw [e13]; exact Ar14.1) (State.isArrayOf_alike (hZ).alike Ar14.2.1) Ar14.2.2 hin14 (Ha14.at hin14 (own_mlat _ hib14)) (g := (mkF m 102 #[vi (own_ngI p0), vi p1, vr a2, .unset, .unset, vi ((p1 + (-1)) + (-1)), vi (own_bI p0)] [(.int (-(own_ngI p0))), (.ref w_DigitTens), (.int ((p1 + (-1)) + (-1))), (.ref a2)])) rfl rfl (hb hby (d22 60))) ?_
    show OF _ _ _ _ (T13.setTop (mkF m 103 #[vi (own_ngI p0), vi p1, vr a2, .unset, .unset, vi ((p1 + (-1)) + (-1)), vi (own_bI p0)] [(.int (own_at gT (-(own_ngI p0)))), (.int ((p1 + (-1)) + (-1))), (.ref a2)]))
    have Vo15 : Arv Z h9 a2 k_a2 .byte z0 (own_ml z0 (own_fdI p0 p1 f0 (p1 + (-1)))) (.int 0) := vE11
    obtain ⟨cl15, Ar15, qa15, Sa15, Na15, Ha15, Ga15⟩ := id Vo15
    have hib15 : ¬ ((p1 + (-1)) + (-1)) < 0 ∧ ((p1 + (-1)) + (-1)) < z0 := (own_ib2 ((own_tb (own_preI hn) (own_iv0 (own_preI hn) (own_ngIv p0)) hc6).2.2.1 hc12) (own_tb (own_preI hn) (own_iv0 (own_preI hn) (own_ngIv p0)) hc6).2.1)
    obtain ⟨T15, h15, X15, e15, W15, st15⟩ := stB X13 hx hZ e13 Ar15 (j := ((p1 + (-1)) + (-1))) (inb_of Sa15 hib15) (g := (mkF m 103 #[vi (own_ngI p0), vi p1, vr a2, .unset, .unset, vi ((p1 + (-1)) + (-1)), vi (own_bI p0)] [(.int (own_at gT (-(own_ngI p0)))), (.int ((p1 + (-1)) + (-1))), (.ref a2)])) rfl rfl (hb hby (d22 61))
    refine oS st15 ?_
    have V15 : Arv Z h15 a2 k_a2 .byte z0 (own_ml z0 (own_upd (own_fdI p0 p1 f0 (p1 + (-1))) ((p1 + (-1)) + (-1)) ((own_at gT (-(own_ngI p0))).toInt8.toInt32))) (.int 0) := by
      have z := Arv.set Ar15 qa15 Sa15 Na15 Ha15 Ga15 (fits_nar_byte _) W15 _ rfl (by rw [own_mllen]; exact own_idx hib15)
      rw [own_mlset] at z
      exact z
    have N15 := Fr.snoc X15 N9 g_a2
    have kp16 : Keep h0 h15 [a2] := kp10.wr W15 (Or.inl (List.mem_of_getElem? (i := 0) rfl))
    have ol16 : Old Z n0 h15 := ol10.wr W15 g_a2
    show OF _ _ _ _ (T15.setTop (mkF m 104 _ _))
    have vE17 : Arv Z h15 a2 k_a2 .byte z0 (own_ml z0 (own_fdI p0 p1 f0 ((p1 + (-1)) + (-1)))) (.int 0) := own_mlcong (own_t2 (own_preI hn) (own_iv0 (own_preI hn) (own_ngIv p0)) hc6 hc12 hT) V15
    refine oS (fun _ q => XS.iload X15.here hx rfl (hb hby (d22 62)) rfl q) ?_
    by_cases hc18 : p0 < 0
    ·
     have hi19 : ¬ ((own_bI p0) = 0) := (by rw [if_pos hc18] <;> decide : ¬ ((if p0 < 0 then (1 : Int32) else (0 : Int32)) = 0))
     refine oS (fun _ q => XS.ifNo X15.here hx rfl (hb hby (d22 63)) rfl (Jvm.Free.XT.i0_eq_f hi19) q) ?_
     show OF _ _ _ _ (T15.setTop (mkF m 109 _ _))
     refine oS (fun _ q => XS.aloadN X15.here hx rfl (hb hby (d22 64)) rfl rfl (XS.iinc X15.here hx rfl (hb hby (d22 65)) rfl (l' := #[vi (own_ngI p0), vi p1, vr a2, .unset, .unset, vi (((p1 + (-1)) + (-1)) + (-1)), vi (own_bI p0)]) rfl (XS.iload X15.here hx rfl (hb hby (d22 66)) rfl (XS.bipush X15.here hx rfl (hb hby (d22 67)) q)))) ?_
     show OF _ _ _ _ (T15.setTop (mkF m 117 #[vi (own_ngI p0), vi p1, vr a2, .unset, .unset, vi (((p1 + (-1)) + (-1)) + (-1)), vi (own_bI p0)] [(.int 45), (.int (((p1 + (-1)) + (-1)) + (-1))), (.ref a2)]))
     have Vo20 : Arv Z h15 a2 k_a2 .byte z0 (own_ml z0 (own_fdI p0 p1 f0 ((p1 + (-1)) + (-1)))) (.int 0) := vE17
     obtain ⟨cl20, Ar20, qa20, Sa20, Na20, Ha20, Ga20⟩ := id Vo20
     have hib20 : ¬ (((p1 + (-1)) + (-1)) + (-1)) < 0 ∧ (((p1 + (-1)) + (-1)) + (-1)) < z0 := (own_ib (own_sgI hn (own_e2 (own_preI hn) (own_iv0 (own_preI hn) (own_ngIv p0)) hc6 hc12) hc18) (own_e2 (own_preI hn) (own_iv0 (own_preI hn) (own_ngIv p0)) hc6 hc12).2.1)
     obtain ⟨T20, h20, X20, e20, W20, st20⟩ := stB X15 hx hZ e15 Ar20 (j := (((p1 + (-1)) + (-1)) + (-1))) (inb_of Sa20 hib20) (g := (mkF m 117 #[vi (own_ngI p0), vi p1, vr a2, .unset, .unset, vi (((p1 + (-1)) + (-1)) + (-1)), vi (own_bI p0)] [(.int 45), (.int (((p1 + (-1)) + (-1)) + (-1))), (.ref a2)])) rfl rfl (hb hby (d22 68))
     refine oS st20 ?_
     have V20 : Arv Z h20 a2 k_a2 .byte z0 (own_ml z0 (own_upd (own_fdI p0 p1 f0 ((p1 + (-1)) + (-1))) (((p1 + (-1)) + (-1)) + (-1)) ((45 : Int32).toInt8.toInt32))) (.int 0) := by
       have z := Arv.set Ar20 qa20 Sa20 Na20 Ha20 Ga20 (fits_nar_byte _) W20 _ rfl (by rw [own_mllen]; exact own_idx hib20)
       rw [own_mlset] at z
       exact z
     have N20 := Fr.snoc X20 N15 g_a2
     have kp21 : Keep h0 h20 [a2] := kp16.wr W20 (Or.inl (List.mem_of_getElem? (i := 0) rfl))
     have ol21 : Old Z n0 h20 := ol16.wr W20 g_a2
     show OF _ _ _ _ (T20.setTop (mkF m 118 _ _))
     refine oS (fun _ q => XS.iload X20.here hx rfl (hb hby (d22 69)) rfl q) ?_
     show OF _ _ _ _ (T20.setTop (mkF m 120 #[vi (own_ngI p0), vi p1, vr a2, .unset, .unset, vi (((p1 + (-1)) + (-1)) + (-1)), vi (own_bI p0)] [(.int (((p1 + (-1)) + (-1)) + (-1)))]))
     rw [hGG]
     obtain ⟨fs, hr, hrun, hended, hW, hsame⟩ := X20.leave (v := some (.int (((p1 + (-1)) + (-1)) + (-1)))) (fun h => by rw [Bd.returns] at h; cases h)
     refine ⟨_, _, retI X20 hx Bd.returns (hb hby (d22 70)) hr, hrun, hended, _, _, rfl, ?_, ⟨_, rfl⟩, hW, hsame.mono (by decide) (by decide)⟩
     show Q_rm_gcI Z p0 p1 a2 k_a2 z0 f0 kO gO w_DigitOnes kT gT w_DigitTens h0 n0 _ T20.heap _
     rw [e20]
     have vE22 : Arv Z h20 a2 k_a2 .byte z0 (own_ml z0 (own_outI p0 p1 f0)) (.int 0) := own_mlcong (own_oY (own_sgI hn (own_e2 (own_preI hn) (own_iv0 (own_preI hn) (own_ngIv p0)) hc6 hc12) hc18) (own_e2 (own_preI hn) (own_iv0 (own_preI hn) (own_ngIv p0)) hc6 hc12).2.2 (own_ltI.mp hc18)) V20
     exact ⟨(((p1 + (-1)) + (-1)) + (-1)), rfl, N20, kp21, vE22⟩
    ·
     have hi23 : (own_bI p0) = 0 := (by rw [if_neg hc18] <;> decide : (if p0 < 0 then (1 : Int32) else (0 : Int32)) = 0)
     refine oS (fun _ q => XS.ifYes X15.here hx rfl (pc0 := 106) (pc' := 118) rfl (hb hby (d22 63)) rfl (Jvm.Free.XT.i0_eq_t hi23) (by decide) (by decide) q) ?_
     show OF _ _ _ _ (T15.setTop (mkF m 118 _ _))
     refine oS (fun _ q => XS.iload X15.here hx rfl (hb hby (d22 69)) rfl q) ?_
     show OF _ _ _ _ (T15.setTop (mkF m 120 #[vi (own_ngI p0), vi p1, vr a2, .unset, .unset, vi ((p1 + (-1)) + (-1)), vi (own_bI p0)] [(.int ((p1 + (-1)) + (-1)))]))
     rw [hGG]
     obtain ⟨fs, hr, hrun, hended, hW, hsame⟩ := X15.leave (v := some (.int ((p1 + (-1)) + (-1)))) (fun h => by rw [Bd.returns] at h; cases h)
     refine ⟨_, _, retI X15 hx Bd.returns (hb hby (d22 70)) hr, hrun, hended, _, _, rfl, ?_, ⟨_, rfl⟩, hW, hsame.mono (by decide) (by decide)⟩
     show Q_rm_gcI Z p0 p1 a2 k_a2 z0 f0 kO gO w_DigitOnes kT gT w_DigitTens h0 n0 _ T15.heap _
     rw [e15]
     have vE24 : Arv Z h15 a2 k_a2 .byte z0 (own_ml z0 (own_outI p0 p1 f0)) (.int 0) := own_mlcong (own_oN (own_e2 (own_preI hn) (own_iv0 (own_preI hn) (own_ngIv p0)) hc6 hc12).1 (own_e2 (own_preI hn) (own_iv0 (own_preI hn) (own_ngIv p0)) hc6 hc12).2.2 (fun q => hc18 (own_ltI.mpr q))) vE17
     exact ⟨((p1 + (-1)) + (-1)), rfl, N15, kp16, vE24⟩
   ·
    refine oS (fun _ q => XS.icmpYes X9.here hx rfl (pc0 := 88) (pc' := 104) rfl (hb hby (d22 53)) rfl (Jvm.Free.XT.ii_ge_t hc12) (by decide) (by decide) q) ?_
    show OF _ _ _ _ (T9.setTop (mkF m 104 _ _))
    refine oS (fun _ q => XS.iload X9.here hx rfl (hb hby (d22 62)) rfl q) ?_
    by_cases hc25 : p0 < 0
    ·
     have hi26 : ¬ ((own_bI p0) = 0) := (by rw [if_pos hc25] <;> decide : ¬ ((if p0 < 0 then (1 : Int32) else (0 : Int32)) = 0))
     refine oS (fun _ q => XS.ifNo X9.here hx rfl (hb hby (d22 63)) rfl (Jvm.Free.XT.i0_eq_f hi26) q) ?_
     show OF _ _ _ _ (T9.setTop (mkF m 109 _ _))
     refine oS (fun _ q => XS.aloadN X9.here hx rfl (hb hby (d22 64)) rfl rfl (XS.iinc X9.here hx rfl (hb hby (d22 65)) rfl (l' := #[vi (own_ngI p0), vi p1, vr a2, .unset, .unset, vi ((p1 + (-1)) + (-1)), vi (own_bI p0)]) rfl (XS.iload X9.here hx rfl (hb hby (d22 66)) rfl (XS.bipush X9.here hx rfl (hb hby (d22 67)) q)))) ?_
     show OF _ _ _ _ (T9.setTop (mkF m 117 #[vi (own_ngI p0), vi p1, vr a2, .unset, .unset, vi ((p1 + (-1)) + (-1)), vi (own_bI p0)] [(.int 45), (.int ((p1 + (-1)) + (-1))), (.ref a2)]))
     have Vo27 : Arv Z h9 a2 k_a2 .byte z0 (own_ml z0 (own_fdI p0 p1 f0 (p1 + (-1)))) (.int 0) := vE11
     obtain ⟨cl27, Ar27, qa27, Sa27, Na27, Ha27, Ga27⟩ := id Vo27
     have hib27 : ¬ ((p1 + (-1)) + (-1)) < 0 ∧ ((p1 + (-1)) + (-1)) < z0 := (own_ib (own_sgI hn (own_e1 (own_preI hn) (own_iv0 (own_preI hn) (own_ngIv p0)) hc6 hc12) hc25) (own_e1 (own_preI hn) (own_iv0 (own_preI hn) (own_ngIv p0)) hc6 hc12).2.1)
     obtain ⟨T27, h27, X27, e27, W27, st27⟩ := stB X9 hx hZ e9 Ar27 (j := ((p1 + (-1)) + (-1))) (inb_of Sa27 hib27) (g := (mkF m 117 #[vi (own_ngI p0), vi p1, vr a2, .unset, .unset, vi ((p1 + (-1)) + (-1)), vi (own_bI p0)] [(.int 45), (.int ((p1 + (-1)) + (-1))), (.ref a2)])) rfl rfl (hb hby (d22 68))
     refine oS st27 ?_
     have V27 : Arv Z h27 a2 k_a2 .byte z0 (own_ml z0 (own_upd (own_fdI p0 p1 f0 (p1 + (-1))) ((p1 + (-1)) + (-1)) ((45 : Int32).toInt8.toInt32))) (.int 0) := by
       have z := Arv.set Ar27 qa27 Sa27 Na27 Ha27 Ga27 (fits_nar_byte _) W27 _ rfl (by rw [own_mllen]; exact own_idx hib27)
       rw [own_mlset] at z
       exact z
     have N27 := Fr.snoc X27 N9 g_a2
     have kp28 : Keep h0 h27 [a2] := kp10.wr W27 (Or.inl (List.mem_of_getElem? (i := 0) rfl))
     have ol28 : Old Z n0 h27 := ol10.wr W27 g_a2
     show OF _ _ _ _ (T27.setTop (mkF m 118 _ _))
     refine oS (fun _ q => XS.iload X27.here hx rfl (hb hby (d22 69)) rfl q) ?_
     show OF _ _ _ _ (T27.setTop (mkF m 120 #[vi (own_ngI p0), vi p1, vr a2, .unset, .unset, vi ((p1 + (-1)) + (-1)), vi (own_bI p0)] [(.int ((p1 + (-1)) + (-1)))]))
     rw [hGG]
     obtain ⟨fs, hr, hrun, hended, hW, hsame⟩ := X27.leave (v := some (.int ((p1 + (-1)) + (-1)))) (fun h => by rw [Bd.returns] at h; cases h)
     refine ⟨_, _, retI X27 hx Bd.returns (hb hby (d22 70)) hr, hrun, hended, _, _, rfl, ?_, ⟨_, rfl⟩, hW, hsame.mono (by decide) (by decide)⟩
     show Q_rm_gcI Z p0 p1 a2 k_a2 z0 f0 kO gO w_DigitOnes kT gT w_DigitTens h0 n0 _ T27.heap _
     rw [e27]
     have vE29 : Arv Z h27 a2 k_a2 .byte z0 (own_ml z0 (own_outI p0 p1 f0)) (.int 0) := own_mlcong (own_oY (own_sgI hn (own_e1 (own_preI hn) (own_iv0 (own_preI hn) (own_ngIv p0)) hc6 hc12) hc25) (own_e1 (own_preI hn) (own_iv0 (own_preI hn) (own_ngIv p0)) hc6 hc12).2.2 (own_ltI.mp hc25)) V27
     exact ⟨((p1 + (-1)) + (-1)), rfl, N27, kp28, vE29⟩
    ·
     have hi30 : (own_bI p0) = 0 := (by rw [if_neg hc25] <;> decide : (if p0 < 0 then (1 : Int32) else (0 : Int32)) = 0)
     refine oS (fun _ q => XS.ifYes X9.here hx rfl (pc0 := 106) (pc' := 118) rfl (hb hby (d22 63)) rfl (Jvm.Free.XT.i0_eq_t hi30) (by decide) (by decide) q) ?_
     show OF _ _ _ _ (T9.setTop (mkF m 118 _ _))
     refine oS (fun _ q => XS.iload X9.here hx rfl (hb hby (d22 69)) rfl q) ?_
     show OF _ _ _ _ (T9.setTop (mkF m 120 #[vi (own_ngI p0), vi p1, vr a2, .unset, .unset, vi (p1 + (-1)), vi (own_bI p0)] [(.int (p1 + (-1)))]))
     rw [hGG]
     obtain ⟨fs, hr, hrun, hended, hW, hsame⟩ := X9.leave (v := some (.int (p1 + (-1)))) (fun h => by rw [Bd.returns] at h; cases h)
     refine ⟨_, _, retI X9 hx Bd.returns (hb hby (d22 70)) hr, hrun, hended, _, _, rfl, ?_, ⟨_, rfl⟩, hW, hsame.mono (by decide) (by decide)⟩
     show Q_rm_gcI Z p0 p1 a2 k_a2 z0 f0 kO gO w_DigitOnes kT gT w_DigitTens h0 n0 _ T9.heap _
     rw [e9]
     have vE31 : Arv Z h9 a2 k_a2 .byte z0 (own_ml z0 (own_outI p0 p1 f0)) (.int 0) := own_mlcong (own_oN (own_e1 (own_preI hn) (own_iv0 (own_preI hn) (own_ngIv p0)) hc6 hc12).1 (own_e1 (own_preI hn) (own_iv0 (own_preI hn) (own_ngIv p0)) hc6 hc12).2.2 (fun q => hc25 (own_ltI.mpr q))) vE11
     exact ⟨(p1 + (-1)), rfl, N9, kp10, vE31⟩
  ·
   refine oS (fun _ q => XS.icmpNo X2.here hx rfl (hb hby (d22 15)) rfl (Jvm.Free.XT.ii_gt_f hc6) q) ?_
   show OF _ _ _ _ (T2.setTop (mkF m 28 _ _))
   refine oS (fun _ q => XS.iloadN X2.here hx rfl (hb hby (d22 16)) rfl (XS.bipush X2.here hx rfl (hb hby (d22 17)) (XS.idiv X2.here hx rfl (hb hby (d22 18)) rfl (by decide) (XS.istoreN X2.here hx rfl (hb hby (d22 19)) rfl (l' := #[vi (own_ngI p0), vi p1, vr a2, vi ((own_ngI p0) / 100), .unset, vi p1, vi (own_bI p0)]) rfl (XS.iloadN X2.here hx rfl (hb hby (d22 20)) rfl (XS.bipush X2.here hx rfl (hb hby (d22 21)) (XS.imul X2.here hx rfl (hb hby (d22 22)) rfl (XS.iloadN X2.here hx rfl (hb hby (d22 23)) rfl q)))))))) ?_
   show OF _ _ _ _ (T2.setTop (mkF m 38 _ _))
   refine oS (fun _ q => XS.isub X2.here hx rfl (hb hby (d22 24)) rfl (XS.istore X2.here hx rfl (hb hby (d22 25)) rfl (l' := #[vi (own_ngI p0), vi p1, vr a2, vi ((own_ngI p0) / 100), vi ((((own_ngI p0) / 100) * 100) - (own_ngI p0)), vi p1, vi (own_bI p0)]) rfl (XS.iloadN X2.here hx rfl (hb hby (d22 26)) rfl q))) ?_
   show OF _ _ _ _ (T2.setTop (mkF m 42 #[vi (own_ngI p0), vi p1, vr a2, vi ((own_ngI p0) / 100), vi ((((own_ngI p0) / 100) * 100) - (own_ngI p0)), vi p1, vi (own_bI p0)] [(.int ((own_ngI p0) / 100))]))
   refine oS (fun _ q => XS.istoreN X2.here hx rfl (hb hby (d22 27)) rfl (l' := #[vi ((own_ngI p0) / 100), vi p1, vr a2, vi ((own_ngI p0) / 100), vi ((((own_ngI p0) / 100) * 100) - (own_ngI p0)), vi p1, vi (own_bI p0)]) rfl (XS.aloadN X2.here hx rfl (hb hby (d22 28)) rfl rfl (XS.iinc X2.here hx rfl (hb hby (d22 29)) rfl (l' := #[vi ((own_ngI p0) / 100), vi p1, vr a2, vi ((own_ngI p0) / 100), vi ((((own_ngI p0) / 100) * 100) - (own_ngI p0)), vi (p1 + (-1)), vi (own_bI p0)]) rfl (XS.iload X2.here hx rfl (hb hby (d22 30)) rfl q)))) ?_
   show OF _ _ _ _ (T2.setTop (mkF m 49 #[vi ((own_ngI p0) / 100), vi p1, vr a2, vi ((own_ngI p0) / 100), vi ((((own_ngI p0) / 100) * 100) - (own_ngI p0)), vi (p1 + (-1)), vi (own_bI p0)] [(.int (p1 + (-1))), (.ref a2)]))
   obtain ⟨T32, X32, e32, st32⟩ := getS2 X2 hx hZ hown (host := "") (Or.inl (w_ hw 153 rfl)) Via.refl e2 (S_DigitOnes.ext Ol0.2) (g := (mkF m 49 #[vi ((own_ngI p0) / 100), vi p1, vr a2, vi ((own_ngI p0) / 100), vi ((((own_ngI p0) / 100) * 100) - (own_ngI p0)), vi (p1 + (-1)), vi (own_bI p0)] [(.int (p1 + (-1))), (.ref a2)])) rfl (hb hby (d22 31))
   refine oS st32 ?_
   show OF _ _ _ _ (T32.setTop (mkF m 52 _ _))
   refine oS (fun _ q => XS.iload X32.here hx rfl (hb hby (d22 32)) rfl q) ?_
   show OF _ _ _ _ (T32.setTop (mkF m 54 #[vi ((own_ngI p0) / 100), vi p1, vr a2, vi ((own_ngI p0) / 100), vi ((((own_ngI p0) / 100) * 100) - (own_ngI p0)), vi (p1 + (-1)), vi (own_bI p0)] [(.int ((((own_ngI p0) / 100) * 100) - (own_ngI p0))), (.ref w_DigitOnes), (.int (p1 + (-1))), (.ref a2)]))
   have Vo33 : Arv Z h0 w_DigitOnes kO .byte (100 : Int32) (own_ml (100 : Int32) gO) (.int 0) := (VO.ext Ol0.2)
   obtain ⟨cl33, Ar33, qa33, Sa33, Na33, Ha33, Ga33⟩ := id Vo33
   have hib33 : ¬ ((((own_ngI p0) / 100) * 100) - (own_ngI p0)) < 0 ∧ ((((own_ngI p0) / 100) * 100) - (own_ngI p0)) < 100 := (own_rbI (own_iv0 (own_preI hn) (own_ngIv p0)))
   have hin33 := inb_of Sa33 hib33
   refine oS (X32.baloadBytes hx (j := ((((own_ngI p0) / 100) * 100) - (own_ngI p0))) (v := (.int (own_at gO ((((own_ngI p0) / 100) * 100) - (own_ngI p0))))) (by rw [e32]; exact Ar33.1) (State.isArrayOf_alike (hZ).alike Ar33.2.1) Ar33.2.2 hin33 (Ha33.at hin33 (own_mlat _ hib33)) (g := (mkF m 54 #[vi ((own_ngI p0) / 100), vi p1, vr a2, vi ((own_ngI p0) / 100), vi ((((own_ngI p0) / 100) * 100) - (own_ngI p0)), vi (p1 + (-1)), vi (own_bI p0)] [(.int ((((own_ngI p0) / 100) * 100) - (own_ngI p0))), (.ref w_DigitOnes), (.int (p1 + (-1))), (.ref a2)])) rfl rfl (hb hby (d22 33))) ?_
   show OF _ _ _ _ (T32.setTop (mkF m 55 #[vi ((own_ngI p0) / 100), vi p1, vr a2, vi ((own_ngI p0) / 100), vi ((((own_ngI p0) / 100) * 100) - (own_ngI p0)), vi (p1 + (-1)), vi (own_bI p0)] [(.int (own_at gO ((((own_ngI p0) / 100) * 100) - (own_ngI p0)))), (.int (p1 + (-1))), (.ref a2)]))
   have Vo34 : Arv Z h0 a2 k_a2 .byte z0 (own_ml z0 (own_fdI p0 p1 f0 p1)) (.int 0) := vE5
   obtain ⟨cl34, Ar34, qa34, Sa34, Na34, Ha34, Ga34⟩ := id Vo34
   have hib34 : ¬ (p1 + (-1)) < 0 ∧ (p1 + (-1)) < z0 := (own_i1 (own_preI hn) (own_iv0 (own_preI hn) (own_ngIv p0)) (own_x2 hc6))
   obtain ⟨T34, h34, X34, e34, W34, st34⟩ := stB X32 hx hZ e32 Ar34 (j := (p1 + (-1))) (inb_of Sa34 hib34) (g := (mkF m 55 #[vi ((own_ngI p0) / 100), vi p1, vr a2, vi ((own_ngI p0) / 100), vi ((((own_ngI p0) / 100) * 100) - (own_ngI p0)), vi (p1 + (-1)), vi (own_bI p0)] [(.int (own_at gO ((((own_ngI p0) / 100) * 100) - (own_ngI p0)))), (.int (p1 + (-1))), (.ref a2)])) rfl rfl (hb hby (d22 34))
   refine oS st34 ?_
   have V34 : Arv Z h34 a2 k_a2 .byte z0 (own_ml z0 (own_upd (own_fdI p0 p1 f0 p1) (p1 + (-1)) ((own_at gO ((((own_ngI p0) / 100) * 100) - (own_ngI p0))).toInt8.toInt32))) (.int 0) := by
     have z := Arv.set Ar34 qa34 Sa34 Na34 Ha34 Ga34 (fits_nar_byte _) W34 _ rfl (by rw [own_mllen]; exact own_idx hib34)
     rw [own_mlset] at z
     exact z
   have N34 := Fr.snoc X34 N2 g_a2
   have kp35 : Keep h0 h34 [a2] := kp0.wr W34 (Or.inl (List.mem_of_getElem? (i := 0) rfl))
   have ol35 : Old Z n0 h34 := Ol0.wr W34 g_a2
   show OF _ _ _ _ (T34.setTop (mkF m 56 _ _))
   refine oS (fun _ q => XS.aloadN X34.here hx rfl (hb hby (d22 35)) rfl rfl (XS.iinc X34.here hx rfl (hb hby (d22 36)) rfl (l' := #[vi ((own_ngI p0) / 100), vi p1, vr a2, vi ((own_ngI p0) / 100), vi ((((own_ngI p0) / 100) * 100) - (own_ngI p0)), vi ((p1 + (-1)) + (-1)), vi (own_bI p0)]) rfl (XS.iload X34.here hx rfl (hb hby (d22 37)) rfl q))) ?_
   show OF _ _ _ _ (T34.setTop (mkF m 62 #[vi ((own_ngI p0) / 100), vi p1, vr a2, vi ((own_ngI p0) / 100), vi ((((own_ngI p0) / 100) * 100) - (own_ngI p0)), vi ((p1 + (-1)) + (-1)), vi (own_bI p0)] [(.int ((p1 + (-1)) + (-1))), (.ref a2)]))
   obtain ⟨T36, X36, e36, st36⟩ := getS2 X34 hx hZ hown (host := "") (Or.inl (w_ hw 253 rfl)) Via.refl e34 (S_DigitTens.ext ol35.2) (g := (mkF m 62 #[vi ((own_ngI p0) / 100), vi p1, vr a2, vi ((own_ngI p0) / 100), vi ((((own_ngI p0) / 100) * 100) - (own_ngI p0)), vi ((p1 + (-1)) + (-1)), vi (own_bI p0)] [(.int ((p1 + (-1)) + (-1))), (.ref a2)])) rfl (hb hby (d22 38))
   refine oS st36 ?_
   show OF _ _ _ _ (T36.setTop (mkF m 65 _ _))
   refine oS (fun _ q => XS.iload X36.here hx rfl (hb hby (d22 39)) rfl q) ?_
   show OF _ _ _ _ (T36.setTop (mkF m 67 #[vi ((own_ngI p0) / 100), vi p1, vr a2, vi ((own_ngI p0) / 100), vi ((((own_ngI p0) / 100) * 100) - (own_ngI p0)), vi ((p1 + (-1)) + (-1)), vi (own_bI p0)] [(.int ((((own_ngI p0) / 100) * 100) - (own_ngI p0))), (.ref w_DigitTens), (.int ((p1 + (-1)) + (-1))), (.ref a2)]))
   have Vo37 : Arv Z h34 w_DigitTens kT .byte (100 : Int32) (own_ml (100 : Int32) gT) (.int 0) := (VT.ext ol35.2)
   obtain ⟨cl37, Ar37, qa37, Sa37, Na37, Ha37, Ga37⟩ := id Vo37
   have hib37 : ¬ ((((own_ngI p0) / 100) * 100) - (own_ngI p0)) < 0 ∧ ((((own_ngI p0) / 100) * 100) - (own_ngI p0)) < 100 := (own_rbI (own_iv0 (own_preI hn) (own_ngIv p0)))
   have hin37 := inb_of Sa37 hib37
   refine oS (X36.baloadBytes hx (j := ((((own_ngI p0) / 100) * 100) - (own_ngI p0))) (v := (.int (own_at gT ((((own_ngI p0) / 100) * 100) - (own_ngI p0))))) (by rw [e36]; exact Ar37.1) (State.isArrayOf_alike (hZ).alike Ar37.2.1) Ar37.2.2 hin37 (Ha37.at hin37 (own_mlat _ hib37)) (g := (mkF m 67 #[vi ((own_ngI p0) / 100), vi p1, vr a2, vi ((own_ngI p0) / 100), vi ((((own_ngI p0) / 100) * 100) - (own_ngI p0)), vi ((p1 + (-1)) + (-1)), vi (own_bI p0)] [(.int ((((own_ngI p0) / 100) * 100) - (own_ngI p0))), (.ref w_DigitTens), (.int ((p1 + (-1)) + (-1))), (.ref a2)])) rfl rfl (hb hby (d22 40))) ?_
   show OF _ _ _ _ (T36.setTop (mkF m 68 #[vi ((own_ngI p0) / 100), vi p1, vr a2, vi ((own_ngI p0) / 100), vi ((((own_ngI p0) / 100) * 100) - (own_ngI p0)), vi ((p1 + (-1)) + (-1)), vi (own_bI p0)] [(.int (own_at gT ((((own_ngI p0) / 100) * 100) - (own_ngI p0)))), (.int ((p1 + (-1)) + (-1))), (.ref a2)]))
   have Vo38 : Arv Z h34 a2 k_a2 .byte z0 (own_ml z0 (own_upd (own_fdI p0 p1 f0 p1) (p1 + (-1)) ((own_at gO ((((own_ngI p0) / 100) * 100) - (own_ngI p0))).toInt8.toInt32))) (.int 0) := V34
   obtain ⟨cl38, Ar38, qa38, Sa38, Na38, Ha38, Ga38⟩ := id Vo38
   have hib38 : ¬ ((p1 + (-1)) + (-1)) < 0 ∧ ((p1 + (-1)) + (-1)) < z0 := (own_i2 (own_preI hn) (own_iv0 (own_preI hn) (own_ngIv p0)) (own_x2 hc6))
   obtain ⟨T38, h38, X38, e38, W38, st38⟩ := stB X36 hx hZ e36 Ar38 (j := ((p1 + (-1)) + (-1))) (inb_of Sa38 hib38) (g := (mkF m 68 #[vi ((own_ngI p0) / 100), vi p1, vr a2, vi ((own_ngI p0) / 100), vi ((((own_ngI p0) / 100) * 100) - (own_ngI p0)), vi ((p1 + (-1)) + (-1)), vi (own_bI p0)] [(.int (own_at gT ((((own_ngI p0) / 100) * 100) - (own_ngI p0)))), (.int ((p1 + (-1)) + (-1))), (.ref a2)])) rfl rfl (hb hby (d22 41))
   refine oS st38 ?_
   have V38 : Arv Z h38 a2 k_a2 .byte z0 (own_ml z0 (own_upd (own_upd (own_fdI p0 p1 f0 p1) (p1 + (-1)) ((own_at gO ((((own_ngI p0) / 100) * 100) - (own_ngI p0))).toInt8.toInt32)) ((p1 + (-1)) + (-1)) ((own_at gT ((((own_ngI p0) / 100) * 100) - (own_ngI p0))).toInt8.toInt32))) (.int 0) := by
     have z := Arv.set Ar38 qa38 Sa38 Na38 Ha38 Ga38 (fits_nar_byte _) W38 _ rfl (by rw [own_mllen]; exact own_idx hib38)
     rw [own_mlset] at z
     exact z
   have N38 := Fr.snoc X38 N34 g_a2
   have kp39 : Keep h0 h38 [a2] := kp35.wr W38 (Or.inl (List.mem_of_getElem? (i := 0) rfl))
   have ol39 : Old Z n0 h38 := ol35.wr W38 g_a2
   show OF _ _ _ _ (T38.setTop (mkF m 69 _ _))
   refine oS (fun _ q => XS.goto X38.here hx rfl (pc0 := 69) (pc' := 22) rfl (hb hby (d22 42)) (by decide) (by decide) q) ?_
   have H40 : ∀ (fu : Nat) (x : Int32) (cc : Int32) (rr : Int32) (T : State) (lc : List Loc) (h : Heap) (_ : own_iv p0.toInt.natAbs p1.toNatClampNeg x.toInt cc.toInt), cc.toNatClampNeg < fu → Stand p l e ({ frames := 0, cells := 0, slots := 0, locals := 0 } : Room) s m #[(.int p0), (.int p1), (.ref a2)] below meth c T lc 0 0 → Fr n0 lc → T.heap = h → Keep h38 h [a2] → Arv Z h a2 k_a2 .byte z0 (own_ml z0 (own_fdI p0 p1 f0 cc)) (.int 0) → OF p.tables e below GG (T.setTop (mkF m 22 #[vi x, vi p1, vr a2, vi x, vi rr, vi cc, vi (own_bI p0)] [])) := by
    intro fu
    induction fu with
    | zero => intro x cc rr T lc h hv2 hfu; exact absurd hfu (Nat.not_lt_zero _)
    | succ fu ih =>
     intro x cc rr T40 lc40 h40 hv2 hfu X40 N40 e40 K40 Va40_0
     have kp41 : Keep h0 h40 [a2] := kp39.trans K40 (allS (Or.inl (List.mem_of_getElem? (i := 0) rfl)) all0)
     have ol41 : Old Z n0 h40 := ol39.keep K40 (allS g_a2 all0)
     show OF _ _ _ _ (T40.setTop (mkF m 22 #[vi x, vi p1, vr a2, vi x, vi rr, vi cc, vi (own_bI p0)] []))
     refine oS (fun _ q => XS.iloadN X40.here hx rfl (hb hby (d22 13)) rfl (XS.bipush X40.here hx rfl (hb hby (d22 14)) q)) ?_
     by_cases hc42 : (-100 : Int32) < x
     ·
      refine oS (fun _ q => XS.icmpYes X40.here hx rfl (pc0 := 25) (pc' := 72) rfl (hb hby (d22 15)) rfl (Jvm.Free.XT.ii_gt_t hc42) (by decide) (by decide) q) ?_
      show OF _ _ _ _ (T40.setTop (mkF m 72 _ _))
      refine oS (fun _ q => XS.aloadN X40.here hx rfl (hb hby (d22 43)) rfl rfl (XS.iinc X40.here hx rfl (hb hby (d22 44)) rfl (l' := #[vi x, vi p1, vr a2, vi x, vi rr, vi (cc + (-1)), vi (own_bI p0)]) rfl (XS.iload X40.here hx rfl (hb hby (d22 45)) rfl q))) ?_
      show OF _ _ _ _ (T40.setTop (mkF m 78 #[vi x, vi p1, vr a2, vi x, vi rr, vi (cc + (-1)), vi (own_bI p0)] [(.int (cc + (-1))), (.ref a2)]))
      obtain ⟨T43, X43, e43, st43⟩ := getS2 X40 hx hZ hown (host := "") (Or.inl (w_ hw 153 rfl)) Via.refl e40 (S_DigitOnes.ext ol41.2) (g := (mkF m 78 #[vi x, vi p1, vr a2, vi x, vi rr, vi (cc + (-1)), vi (own_bI p0)] [(.int (cc + (-1))), (.ref a2)])) rfl (hb hby (d22 46))
      refine oS st43 ?_
      show OF _ _ _ _ (T43.setTop (mkF m 81 _ _))
      refine oS (fun _ q => XS.iloadN X43.here hx rfl (hb hby (d22 47)) rfl (XS.ineg X43.here hx rfl (hb hby (d22 48)) rfl q)) ?_
      show OF _ _ _ _ (T43.setTop (mkF m 83 #[vi x, vi p1, vr a2, vi x, vi rr, vi (cc + (-1)), vi (own_bI p0)] [(.int (-x)), (.ref w_DigitOnes), (.int (cc + (-1))), (.ref a2)]))
      have Vo44 : Arv Z h40 w_DigitOnes kO .byte (100 : Int32) (own_ml (100 : Int32) gO) (.int 0) := (VO.ext ol41.2)
      obtain ⟨cl44, Ar44, qa44, Sa44, Na44, Ha44, Ga44⟩ := id Vo44
      have hib44 : ¬ (-x) < 0 ∧ (-x) < 100 := (own_nxb hv2 hc42)
      have hin44 := inb_of Sa44 hib44
      refine oS (X43.baloadBytes hx (j := (-x)) (v := (.int (own_at gO (-x)))) (by rw [e43]; exact Ar44.1) (State.isArrayOf_alike (hZ).alike Ar44.2.1) Ar44.2.2 hin44 (Ha44.at hin44 (own_mlat _ hib44)) (g := (mkF m 83 #[vi x, vi p1, vr a2, vi x, vi rr, vi (cc + (-1)), vi (own_bI p0)] [(.int (-x)), (.ref w_DigitOnes), (.int (cc + (-1))), (.ref a2)])) rfl rfl (hb hby (d22 49))) ?_
      show OF _ _ _ _ (T43.setTop (mkF m 84 #[vi x, vi p1, vr a2, vi x, vi rr, vi (cc + (-1)), vi (own_bI p0)] [(.int (own_at gO (-x))), (.int (cc + (-1))), (.ref a2)]))
      have Vo45 : Arv Z h40 a2 k_a2 .byte z0 (own_ml z0 (own_fdI p0 p1 f0 cc)) (.int 0) := Va40_0
      obtain ⟨cl45, Ar45, qa45, Sa45, Na45, Ha45, Ga45⟩ := id Vo45
      have hib45 : ¬ (cc + (-1)) < 0 ∧ (cc + (-1)) < z0 := (own_ib (own_tb (own_preI hn) hv2 hc42).1 (own_tb (own_preI hn) hv2 hc42).2.1)
      obtain ⟨T45, h45, X45, e45, W45, st45⟩ := stB X43 hx hZ e43 Ar45 (j := (cc + (-1))) (inb_of Sa45 hib45) (g := (mkF m 84 #[vi x, vi p1, vr a2, vi x, vi rr, vi (cc + (-1)), vi (own_bI p0)] [(.int (own_at gO (-x))), (.int (cc + (-1))), (.ref a2)])) rfl rfl (hb hby (d22 50))
      refine oS st45 ?_
      have V45 : Arv Z h45 a2 k_a2 .byte z0 (own_ml z0 (own_upd (own_fdI p0 p1 f0 cc) (cc + (-1)) ((own_at gO (-x)).toInt8.toInt32))) (.int 0) := by
        have z := Arv.set Ar45 qa45 Sa45 Na45 Ha45 Ga45 (fits_nar_byte _) W45 _ rfl (by rw [own_mllen]; exact own_idx hib45)
        rw [own_mlset] at z
        exact z
      have N45 := Fr.snoc X45 N40 g_a2
      have kp46 : Keep h0 h45 [a2] := kp41.wr W45 (Or.inl (List.mem_of_getElem? (i := 0) rfl))
      have ol46 : Old Z n0 h45 := ol41.wr W45 g_a2
      show OF _ _ _ _ (T45.setTop (mkF m 85 _ _))
      have vE47 : Arv Z h45 a2 k_a2 .byte z0 (own_ml z0 (own_fdI p0 p1 f0 (cc + (-1)))) (.int 0) := own_mlcong (own_t1 (own_preI hn) hv2 hc42 hO) V45
      refine oS (fun _ q => XS.iloadN X45.here hx rfl (hb hby (d22 51)) rfl (XS.bipush X45.here hx rfl (hb hby (d22 52)) q)) ?_
      by_cases hc48 : x < (-9)
      ·
       refine oS (fun _ q => XS.icmpNo X45.here hx rfl (hb hby (d22 53)) rfl (Jvm.Free.XT.ii_ge_f hc48) q) ?_
       show OF _ _ _ _ (T45.setTop (mkF m 91 _ _))
       refine oS (fun _ q => XS.aloadN X45.here hx rfl (hb hby (d22 54)) rfl rfl (XS.iinc X45.here hx rfl (hb hby (d22 55)) rfl (l' := #[vi x, vi p1, vr a2, vi x, vi rr, vi ((cc + (-1)) + (-1)), vi (own_bI p0)]) rfl (XS.iload X45.here hx rfl (hb hby (d22 56)) rfl q))) ?_
       show OF _ _ _ _ (T45.setTop (mkF m 97 #[vi x, vi p1, vr a2, vi x, vi rr, vi ((cc + (-1)) + (-1)), vi (own_bI p0)] [(.int ((cc + (-1)) + (-1))), (.ref a2)]))
       obtain ⟨T49, X49, e49, st49⟩ := getS2 X45 hx hZ hown (host := "") (Or.inl (w_ hw 253 rfl)) Via.refl e45 (S_DigitTens.ext ol46.2) (g := (mkF m 97 #[vi x, vi p1, vr a2, vi x, vi rr, vi ((cc + (-1)) + (-1)), vi (own_bI p0)] [(.int ((cc + (-1)) + (-1))), (.ref a2)])) rfl (hb hby (d22 57))
       refine oS st49 ?_
       show OF _ _ _ _ (T49.setTop (mkF m 100 _ _))
       refine oS (fun _ q => XS.iloadN X49.here hx rfl (hb hby (d22 58)) rfl (XS.ineg X49.here hx rfl (hb hby (d22 59)) rfl q)) ?_
       show OF _ _ _ _ (T49.setTop (mkF m 102 #[vi x, vi p1, vr a2, vi x, vi rr, vi ((cc + (-1)) + (-1)), vi (own_bI p0)] [(.int (-x)), (.ref w_DigitTens), (.int ((cc + (-1)) + (-1))), (.ref a2)]))
       have Vo50 : Arv Z h45 w_DigitTens kT .byte (100 : Int32) (own_ml (100 : Int32) gT) (.int 0) := (VT.ext ol46.2)
       obtain ⟨cl50, Ar50, qa50, Sa50, Na50, Ha50, Ga50⟩ := id Vo50
       have hib50 : ¬ (-x) < 0 ∧ (-x) < 100 := (own_nxb hv2 hc42)
       have hin50 := inb_of Sa50 hib50
       refine oS (X49.baloadBytes hx (j := (-x)) (v := (.int (own_at gT (-x)))) (by rw [e49]; exact Ar50.1) (State.isArrayOf_alike (hZ).alike Ar50.2.1) Ar50.2.2 hin50 (Ha50.at hin50 (own_mlat _ hib50)) (g := (mkF m 102 #[vi x, vi p1, vr a2, vi x, vi rr, vi ((cc + (-1)) + (-1)), vi (own_bI p0)] [(.int (-x)), (.ref w_DigitTens), (.int ((cc + (-1)) + (-1))), (.ref a2)])) rfl rfl (hb hby (d22 60))) ?_
       show OF _ _ _ _ (T49.setTop (mkF m 103 #[vi x, vi p1, vr a2, vi x, vi rr, vi ((cc + (-1)) + (-1)), vi (own_bI p0)] [(.int (own_at gT (-x))), (.int ((cc + (-1)) + (-1))), (.ref a2)]))
       have Vo51 : Arv Z h45 a2 k_a2 .byte z0 (own_ml z0 (own_fdI p0 p1 f0 (cc + (-1)))) (.int 0) := vE47
       obtain ⟨cl51, Ar51, qa51, Sa51, Na51, Ha51, Ga51⟩ := id Vo51
       have hib51 : ¬ ((cc + (-1)) + (-1)) < 0 ∧ ((cc + (-1)) + (-1)) < z0 := (own_ib2 ((own_tb (own_preI hn) hv2 hc42).2.2.1 hc48) (own_tb (own_preI hn) hv2 hc42).2.1)
       obtain ⟨T51, h51, X51, e51, W51, st51⟩ := stB X49 hx hZ e49 Ar51 (j := ((cc + (-1)) + (-1))) (inb_of Sa51 hib51) (g := (mkF m 103 #[vi x, vi p1, vr a2, vi x, vi rr, vi ((cc + (-1)) + (-1)), vi (own_bI p0)] [(.int (own_at gT (-x))), (.int ((cc + (-1)) + (-1))), (.ref a2)])) rfl rfl (hb hby (d22 61))
       refine oS st51 ?_
       have V51 : Arv Z h51 a2 k_a2 .byte z0 (own_ml z0 (own_upd (own_fdI p0 p1 f0 (cc + (-1))) ((cc + (-1)) + (-1)) ((own_at gT (-x)).toInt8.toInt32))) (.int 0) := by
         have z := Arv.set Ar51 qa51 Sa51 Na51 Ha51 Ga51 (fits_nar_byte _) W51 _ rfl (by rw [own_mllen]; exact own_idx hib51)
         rw [own_mlset] at z
         exact z
       have N51 := Fr.snoc X51 N45 g_a2
       have kp52 : Keep h0 h51 [a2] := kp46.wr W51 (Or.inl (List.mem_of_getElem? (i := 0) rfl))
       have ol52 : Old Z n0 h51 := ol46.wr W51 g_a2
       show OF _ _ _ _ (T51.setTop (mkF m 104 _ _))
       have vE53 : Arv Z h51 a2 k_a2 .byte z0 (own_ml z0 (own_fdI p0 p1 f0 ((cc + (-1)) + (-1)))) (.int 0) := own_mlcong (own_t2 (own_preI hn) hv2 hc42 hc48 hT) V51
       refine oS (fun _ q => XS.iload X51.here hx rfl (hb hby (d22 62)) rfl q) ?_
       by_cases hc54 : p0 < 0
       ·
        have hi55 : ¬ ((own_bI p0) = 0) := (by rw [if_pos hc54] <;> decide : ¬ ((if p0 < 0 then (1 : Int32) else (0 : Int32)) = 0))
        refine oS (fun _ q => XS.ifNo X51.here hx rfl (hb hby (d22 63)) rfl (Jvm.Free.XT.i0_eq_f hi55) q) ?_
        show OF _ _ _ _ (T51.setTop (mkF m 109 _ _))
        refine oS (fun _ q => XS.aloadN X51.here hx rfl (hb hby (d22 64)) rfl rfl (XS.iinc X51.here hx rfl (hb hby (d22 65)) rfl (l' := #[vi x, vi p1, vr a2, vi x, vi rr, vi (((cc + (-1)) + (-1)) + (-1)), vi (own_bI p0)]) rfl (XS.iload X51.here hx rfl (hb hby (d22 66)) rfl (XS.bipush X51.here hx rfl (hb hby (d22 67)) q)))) ?_
        show OF _ _ _ _ (T51.setTop (mkF m 117 #[vi x, vi p1, vr a2, vi x, vi rr, vi (((cc + (-1)) + (-1)) + (-1)), vi (own_bI p0)] [(.int 45), (.int (((cc + (-1)) + (-1)) + (-1))), (.ref a2)]))
        have Vo56 : Arv Z h51 a2 k_a2 .byte z0 (own_ml z0 (own_fdI p0 p1 f0 ((cc + (-1)) + (-1)))) (.int 0) := vE53
        obtain ⟨cl56, Ar56, qa56, Sa56, Na56, Ha56, Ga56⟩ := id Vo56
        have hib56 : ¬ (((cc + (-1)) + (-1)) + (-1)) < 0 ∧ (((cc + (-1)) + (-1)) + (-1)) < z0 := (own_ib (own_sgI hn (own_e2 (own_preI hn) hv2 hc42 hc48) hc54) (own_e2 (own_preI hn) hv2 hc42 hc48).2.1)
        obtain ⟨T56, h56, X56, e56, W56, st56⟩ := stB X51 hx hZ e51 Ar56 (j := (((cc + (-1)) + (-1)) + (-1))) (inb_of Sa56 hib56) (g := (mkF m 117 #[vi x, vi p1, vr a2, vi x, vi rr, vi (((cc + (-1)) + (-1)) + (-1)), vi (own_bI p0)] [(.int 45), (.int (((cc + (-1)) + (-1)) + (-1))), (.ref a2)])) rfl rfl (hb hby (d22 68))
        refine oS st56 ?_
        have V56 : Arv Z h56 a2 k_a2 .byte z0 (own_ml z0 (own_upd (own_fdI p0 p1 f0 ((cc + (-1)) + (-1))) (((cc + (-1)) + (-1)) + (-1)) ((45 : Int32).toInt8.toInt32))) (.int 0) := by
          have z := Arv.set Ar56 qa56 Sa56 Na56 Ha56 Ga56 (fits_nar_byte _) W56 _ rfl (by rw [own_mllen]; exact own_idx hib56)
          rw [own_mlset] at z
          exact z
        have N56 := Fr.snoc X56 N51 g_a2
        have kp57 : Keep h0 h56 [a2] := kp52.wr W56 (Or.inl (List.mem_of_getElem? (i := 0) rfl))
        have ol57 : Old Z n0 h56 := ol52.wr W56 g_a2
        show OF _ _ _ _ (T56.setTop (mkF m 118 _ _))
        refine oS (fun _ q => XS.iload X56.here hx rfl (hb hby (d22 69)) rfl q) ?_
        show OF _ _ _ _ (T56.setTop (mkF m 120 #[vi x, vi p1, vr a2, vi x, vi rr, vi (((cc + (-1)) + (-1)) + (-1)), vi (own_bI p0)] [(.int (((cc + (-1)) + (-1)) + (-1)))]))
        rw [hGG]
        obtain ⟨fs, hr, hrun, hended, hW, hsame⟩ := X56.leave (v := some (.int (((cc + (-1)) + (-1)) + (-1)))) (fun h => by rw [Bd.returns] at h; cases h)
        refine ⟨_, _, retI X56 hx Bd.returns (hb hby (d22 70)) hr, hrun, hended, _, _, rfl, ?_, ⟨_, rfl⟩, hW, hsame.mono (by decide) (by decide)⟩
        show Q_rm_gcI Z p0 p1 a2 k_a2 z0 f0 kO gO w_DigitOnes kT gT w_DigitTens h0 n0 _ T56.heap _
        rw [e56]
        have vE58 : Arv Z h56 a2 k_a2 .byte z0 (own_ml z0 (own_outI p0 p1 f0)) (.int 0) := own_mlcong (own_oY (own_sgI hn (own_e2 (own_preI hn) hv2 hc42 hc48) hc54) (own_e2 (own_preI hn) hv2 hc42 hc48).2.2 (own_ltI.mp hc54)) V56
        exact ⟨(((cc + (-1)) + (-1)) + (-1)), rfl, N56, kp57, vE58⟩
       ·
        have hi59 : (own_bI p0) = 0 := (by rw [if_neg hc54] <;> decide : (if p0 < 0 then (1 : Int32) else (0 : Int32)) = 0)
        refine oS (fun _ q => XS.ifYes X51.here hx rfl (pc0 := 106) (pc' := 118) rfl (hb hby (d22 63)) rfl (Jvm.Free.XT.i0_eq_t hi59) (by decide) (by decide) q) ?_
        show OF _ _ _ _ (T51.setTop (mkF m 118 _ _))
        refine oS (fun _ q => XS.iload X51.here hx rfl (hb hby (d22 69)) rfl q) ?_
        show OF _ _ _ _ (T51.setTop (mkF m 120 #[vi x, vi p1, vr a2, vi x, vi rr, vi ((cc + (-1)) + (-1)), vi (own_bI p0)] [(.int ((cc + (-1)) + (-1)))]))
        rw [hGG]
        obtain ⟨fs, hr, hrun, hended, hW, hsame⟩ := X51.leave (v := some (.int ((cc + (-1)) + (-1)))) (fun h => by rw [Bd.returns] at h; cases h)
        refine ⟨_, _, retI X51 hx Bd.returns (hb hby (d22 70)) hr, hrun, hended, _, _, rfl, ?_, ⟨_, rfl⟩, hW, hsame.mono (by decide) (by decide)⟩
        show Q_rm_gcI Z p0 p1 a2 k_a2 z0 f0 kO gO w_DigitOnes kT gT w_DigitTens h0 n0 _ T51.heap _
        rw [e51]
        have vE60 : Arv Z h51 a2 k_a2 .byte z0 (own_ml z0 (own_outI p0 p1 f0)) (.int 0) := own_mlcong (own_oN (own_e2 (own_preI hn) hv2 hc42 hc48).1 (own_e2 (own_preI hn) hv2 hc42 hc48).2.2 (fun q => hc54 (own_ltI.mpr q))) vE53
        exact ⟨((cc + (-1)) + (-1)), rfl, N51, kp52, vE60⟩
      ·
       refine oS (fun _ q => XS.icmpYes X45.here hx rfl (pc0 := 88) (pc' := 104) rfl (hb hby (d22 53)) rfl (Jvm.Free.XT.ii_ge_t hc48) (by decide) (by decide) q) ?_
       show OF _ _ _ _ (T45.setTop (mkF m 104 _ _))
       refine oS (fun _ q => XS.iload X45.here hx rfl (hb hby (d22 62)) rfl q) ?_
       by_cases hc61 : p0 < 0
       ·
        have hi62 : ¬ ((own_bI p0) = 0) := (by rw [if_pos hc61] <;> decide : ¬ ((if p0 < 0 then (1 : Int32) else (0 : Int32)) = 0))
        refine oS (fun _ q => XS.ifNo X45.here hx rfl (hb hby (d22 63)) rfl (Jvm.Free.XT.i0_eq_f hi62) q) ?_
        show OF _ _ _ _ (T45.setTop (mkF m 109 _ _))
        refine oS (fun _ q => XS.aloadN X45.here hx rfl (hb hby (d22 64)) rfl rfl (XS.iinc X45.here hx rfl (hb hby (d22 65)) rfl (l' := #[vi x, vi p1, vr a2, vi x, vi rr, vi ((cc + (-1)) + (-1)), vi (own_bI p0)]) rfl (XS.iload X45.here hx rfl (hb hby (d22 66)) rfl (XS.bipush X45.here hx rfl (hb hby (d22 67)) q)))) ?_
        show OF _ _ _ _ (T45.setTop (mkF m 117 #[vi x, vi p1, vr a2, vi x, vi rr, vi ((cc + (-1)) + (-1)), vi (own_bI p0)] [(.int 45), (.int ((cc + (-1)) + (-1))), (.ref a2)]))
        have Vo63 : Arv Z h45 a2 k_a2 .byte z0 (own_ml z0 (own_fdI p0 p1 f0 (cc + (-1)))) (.int 0) := vE47
        obtain ⟨cl63, Ar63, qa63, Sa63, Na63, Ha63, Ga63⟩ := id Vo63
        have hib63 : ¬ ((cc + (-1)) + (-1)) < 0 ∧ ((cc + (-1)) + (-1)) < z0 := (own_ib (own_sgI hn (own_e1 (own_preI hn) hv2 hc42 hc48) hc61) (own_e1 (own_preI hn) hv2 hc42 hc48).2.1)
        obtain ⟨T63, h63, X63, e63, W63, st63⟩ := stB X45 hx hZ e45 Ar63 (j := ((cc + (-1)) + (-1))) (inb_of Sa63 hib63) (g := (mkF m 117 #[vi x, vi p1, vr a2, vi x, vi rr, vi ((cc + (-1)) + (-1)), vi (own_bI p0)] [(.int 45), (.int ((cc + (-1)) + (-1))), (.ref a2)])) rfl rfl (hb hby (d22 68))
        refine oS st63 ?_
        have V63 : Arv Z h63 a2 k_a2 .byte z0 (own_ml z0 (own_upd (own_fdI p0 p1 f0 (cc + (-1))) ((cc + (-1)) + (-1)) ((45 : Int32).toInt8.toInt32))) (.int 0) := by
          have z := Arv.set Ar63 qa63 Sa63 Na63 Ha63 Ga63 (fits_nar_byte _) W63 _ rfl (by rw [own_mllen]; exact own_idx hib63)
          rw [own_mlset] at z
          exact z
        have N63 := Fr.snoc X63 N45 g_a2
        have kp64 : Keep h0 h63 [a2] := kp46.wr W63 (Or.inl (List.mem_of_getElem? (i := 0) rfl))
        have ol64 : Old Z n0 h63 := ol46.wr W63 g_a2
        show OF _ _ _ _ (T63.setTop (mkF m 118 _ _))
        refine oS (fun _ q => XS.iload X63.here hx rfl (hb hby (d22 69)) rfl q) ?_
        show OF _ _ _ _ (T63.setTop (mkF m 120 #[vi x, vi p1, vr a2, vi x, vi rr, vi ((cc + (-1)) + (-1)), vi (own_bI p0)] [(.int ((cc + (-1)) + (-1)))]))
        rw [hGG]
        obtain ⟨fs, hr, hrun, hended, hW, hsame⟩ := X63.leave (v := some (.int ((cc + (-1)) + (-1)))) (fun h => by rw [Bd.returns] at h; cases h)
        refine ⟨_, _, retI X63 hx Bd.returns (hb hby (d22 70)) hr, hrun, hended, _, _, rfl, ?_, ⟨_, rfl⟩, hW, hsame.mono (by decide) (by decide)⟩
        show Q_rm_gcI Z p0 p1 a2 k_a2 z0 f0 kO gO w_DigitOnes kT gT w_DigitTens h0 n0 _ T63.heap _
        rw [e63]
        have vE65 : Arv Z h63 a2 k_a2 .byte z0 (own_ml z0 (own_outI p0 p1 f0)) (.int 0) := own_mlcong (own_oY (own_sgI hn (own_e1 (own_preI hn) hv2 hc42 hc48) hc61) (own_e1 (own_preI hn) hv2 hc42 hc48).2.2 (own_ltI.mp hc61)) V63
        exact ⟨((cc + (-1)) + (-1)), rfl, N63, kp64, vE65⟩
       ·
        have hi66 : (own_bI p0) = 0 := (by rw [if_neg hc61] <;> decide : (if p0 < 0 then (1 : Int32) else (0 : Int32)) = 0)
        refine oS (fun _ q => XS.ifYes X45.here hx rfl (pc0 := 106) (pc' := 118) rfl (hb hby (d22 63)) rfl (Jvm.Free.XT.i0_eq_t hi66) (by decide) (by decide) q) ?_
        show OF _ _ _ _ (T45.setTop (mkF m 118 _ _))
        refine oS (fun _ q => XS.iload X45.here hx rfl (hb hby (d22 69)) rfl q) ?_
        show OF _ _ _ _ (T45.setTop (mkF m 120 #[vi x, vi p1, vr a2, vi x, vi rr, vi (cc + (-1)), vi (own_bI p0)] [(.int (cc + (-1)))]))
        rw [hGG]
        obtain ⟨fs, hr, hrun, hended, hW, hsame⟩ := X45.leave (v := some (.int (cc + (-1)))) (fun h => by rw [Bd.returns] at h; cases h)
        refine ⟨_, _, retI X45 hx Bd.returns (hb hby (d22 70)) hr, hrun, hended, _, _, rfl, ?_, ⟨_, rfl⟩, hW, hsame.mono (by decide) (by decide)⟩
        show Q_rm_gcI Z p0 p1 a2 k_a2 z0 f0 kO gO w_DigitOnes kT gT w_DigitTens h0 n0 _ T45.heap _
        rw [e45]
        have vE67 : Arv Z h45 a2 k_a2 .byte z0 (own_ml z0 (own_outI p0 p1 f0)) (.int 0) := own_mlcong (own_oN (own_e1 (own_preI hn) hv2 hc42 hc48).1 (own_e1 (own_preI hn) hv2 hc42 hc48).2.2 (fun q => hc61 (own_ltI.mpr q))) vE47
        exact ⟨(cc + (-1)), rfl, N45, kp46, vE67⟩
     ·
      refine oS (fun _ q => XS.icmpNo X40.here hx rfl (hb hby (d22 15)) rfl (Jvm.Free.XT.ii_gt_f hc42) q) ?_
      show OF _ _ _ _ (T40.setTop (mkF m 28 _ _))
      refine oS (fun _ q => XS.iloadN X40.here hx rfl (hb hby (d22 16)) rfl (XS.bipush X40.here hx rfl (hb hby (d22 17)) (XS.idiv X40.here hx rfl (hb hby (d22 18)) rfl (by decide) (XS.istoreN X40.here hx rfl (hb hby (d22 19)) rfl (l' := #[vi x, vi p1, vr a2, vi (x / 100), vi rr, vi cc, vi (own_bI p0)]) rfl (XS.iloadN X40.here hx rfl (hb hby (d22 20)) rfl (XS.bipush X40.here hx rfl (hb hby (d22 21)) (XS.imul X40.here hx rfl (hb hby (d22 22)) rfl (XS.iloadN X40.here hx rfl (hb hby (d22 23)) rfl q)))))))) ?_
      show OF _ _ _ _ (T40.setTop (mkF m 38 _ _))
      refine oS (fun _ q => XS.isub X40.here hx rfl (hb hby (d22 24)) rfl (XS.istore X40.here hx rfl (hb hby (d22 25)) rfl (l' := #[vi x, vi p1, vr a2, vi (x / 100), vi (((x / 100) * 100) - x), vi cc, vi (own_bI p0)]) rfl q)) ?_
      show OF _ _ _ _ (T40.setTop (mkF m 41 #[vi x, vi p1, vr a2, vi (x / 100), vi (((x / 100) * 100) - x), vi cc, vi (own_bI p0)] []))
      refine oS (fun _ q => XS.iloadN X40.here hx rfl (hb hby (d22 26)) rfl (XS.istoreN X40.here hx rfl (hb hby (d22 27)) rfl (l' := #[vi (x / 100), vi p1, vr a2, vi (x / 100), vi (((x / 100) * 100) - x), vi cc, vi (own_bI p0)]) rfl (XS.aloadN X40.here hx rfl (hb hby (d22 28)) rfl rfl (XS.iinc X40.here hx rfl (hb hby (d22 29)) rfl (l' := #[vi (x / 100), vi p1, vr a2, vi (x / 100), vi (((x / 100) * 100) - x), vi (cc + (-1)), vi (own_bI p0)]) rfl (XS.iload X40.here hx rfl (hb hby (d22 30)) rfl q))))) ?_
      show OF _ _ _ _ (T40.setTop (mkF m 49 #[vi (x / 100), vi p1, vr a2, vi (x / 100), vi (((x / 100) * 100) - x), vi (cc + (-1)), vi (own_bI p0)] [(.int (cc + (-1))), (.ref a2)]))
      obtain ⟨T68, X68, e68, st68⟩ := getS2 X40 hx hZ hown (host := "") (Or.inl (w_ hw 153 rfl)) Via.refl e40 (S_DigitOnes.ext ol41.2) (g := (mkF m 49 #[vi (x / 100), vi p1, vr a2, vi (x / 100), vi (((x / 100) * 100) - x), vi (cc + (-1)), vi (own_bI p0)] [(.int (cc + (-1))), (.ref a2)])) rfl (hb hby (d22 31))
      refine oS st68 ?_
      show OF _ _ _ _ (T68.setTop (mkF m 52 _ _))
      refine oS (fun _ q => XS.iload X68.here hx rfl (hb hby (d22 32)) rfl q) ?_
      show OF _ _ _ _ (T68.setTop (mkF m 54 #[vi (x / 100), vi p1, vr a2, vi (x / 100), vi (((x / 100) * 100) - x), vi (cc + (-1)), vi (own_bI p0)] [(.int (((x / 100) * 100) - x)), (.ref w_DigitOnes), (.int (cc + (-1))), (.ref a2)]))
      have Vo69 : Arv Z h40 w_DigitOnes kO .byte (100 : Int32) (own_ml (100 : Int32) gO) (.int 0) := (VO.ext ol41.2)
      obtain ⟨cl69, Ar69, qa69, Sa69, Na69, Ha69, Ga69⟩ := id Vo69
      have hib69 : ¬ (((x / 100) * 100) - x) < 0 ∧ (((x / 100) * 100) - x) < 100 := (own_rbI hv2)
      have hin69 := inb_of Sa69 hib69
      refine oS (X68.baloadBytes hx (j := (((x / 100) * 100) - x)) (v := (.int (own_at gO (((x / 100) * 100) - x)))) (by rw [e68]; exact Ar69.1) (State.isArrayOf_alike (hZ).alike Ar69.2.1) Ar69.2.2 hin69 (Ha69.at hin69 (own_mlat _ hib69)) (g := (mkF m 54 #[vi (x / 100), vi p1, vr a2, vi (x / 100), vi (((x / 100) * 100) - x), vi (cc + (-1)), vi (own_bI p0)] [(.int (((x / 100) * 100) - x)), (.ref w_DigitOnes), (.int (cc + (-1))), (.ref a2)])) rfl rfl (hb hby (d22 33))) ?_
      show OF _ _ _ _ (T68.setTop (mkF m 55 #[vi (x / 100), vi p1, vr a2, vi (x / 100), vi (((x / 100) * 100) - x), vi (cc + (-1)), vi (own_bI p0)] [(.int (own_at gO (((x / 100) * 100) - x))), (.int (cc + (-1))), (.ref a2)]))
      have Vo70 : Arv Z h40 a2 k_a2 .byte z0 (own_ml z0 (own_fdI p0 p1 f0 cc)) (.int 0) := Va40_0
      obtain ⟨cl70, Ar70, qa70, Sa70, Na70, Ha70, Ga70⟩ := id Vo70
      have hib70 : ¬ (cc + (-1)) < 0 ∧ (cc + (-1)) < z0 := (own_i1 (own_preI hn) hv2 (own_x2 hc42))
      obtain ⟨T70, h70, X70, e70, W70, st70⟩ := stB X68 hx hZ e68 Ar70 (j := (cc + (-1))) (inb_of Sa70 hib70) (g := (mkF m 55 #[vi (x / 100), vi p1, vr a2, vi (x / 100), vi (((x / 100) * 100) - x), vi (cc + (-1)), vi (own_bI p0)] [(.int (own_at gO (((x / 100) * 100) - x))), (.int (cc + (-1))), (.ref a2)])) rfl rfl (hb hby (d22 34))
      refine oS st70 ?_
      have V70 : Arv Z h70 a2 k_a2 .byte z0 (own_ml z0 (own_upd (own_fdI p0 p1 f0 cc) (cc + (-1)) ((own_at gO (((x / 100) * 100) - x)).toInt8.toInt32))) (.int 0) := by
        have z := Arv.set Ar70 qa70 Sa70 Na70 Ha70 Ga70 (fits_nar_byte _) W70 _ rfl (by rw [own_mllen]; exact own_idx hib70)
        rw [own_mlset] at z
        exact z
      have N70 := Fr.snoc X70 N40 g_a2
      have kp71 : Keep h0 h70 [a2] := kp41.wr W70 (Or.inl (List.mem_of_getElem? (i := 0) rfl))
      have ol71 : Old Z n0 h70 := ol41.wr W70 g_a2
      show OF _ _ _ _ (T70.setTop (mkF m 56 _ _))
      refine oS (fun _ q => XS.aloadN X70.here hx rfl (hb hby (d22 35)) rfl rfl (XS.iinc X70.here hx rfl (hb hby (d22 36)) rfl (l' := #[vi (x / 100), vi p1, vr a2, vi (x / 100), vi (((x / 100) * 100) - x), vi ((cc + (-1)) + (-1)), vi (own_bI p0)]) rfl (XS.iload X70.here hx rfl (hb hby (d22 37)) rfl q))) ?_
      show OF _ _ _ _ (T70.setTop (mkF m 62 #[vi (x / 100), vi p1, vr a2, vi (x / 100), vi (((x / 100) * 100) - x), vi ((cc + (-1)) + (-1)), vi (own_bI p0)] [(.int ((cc + (-1)) + (-1))), (.ref a2)]))
      obtain ⟨T72, X72, e72, st72⟩ := getS2 X70 hx hZ hown (host := "") (Or.inl (w_ hw 253 rfl)) Via.refl e70 (S_DigitTens.ext ol71.2) (g := (mkF m 62 #[vi (x / 100), vi p1, vr a2, vi (x / 100), vi (((x / 100) * 100) - x), vi ((cc + (-1)) + (-1)), vi (own_bI p0)] [(.int ((cc + (-1)) + (-1))), (.ref a2)])) rfl (hb hby (d22 38))
      refine oS st72 ?_
      show OF _ _ _ _ (T72.setTop (mkF m 65 _ _))
      refine oS (fun _ q => XS.iload X72.here hx rfl (hb hby (d22 39)) rfl q) ?_
      show OF _ _ _ _ (T72.setTop (mkF m 67 #[vi (x / 100), vi p1, vr a2, vi (x / 100), vi (((x / 100) * 100) - x), vi ((cc + (-1)) + (-1)), vi (own_bI p0)] [(.int (((x / 100) * 100) - x)), (.ref w_DigitTens), (.int ((cc + (-1)) + (-1))), (.ref a2)]))
      have Vo73 : Arv Z h70 w_DigitTens kT .byte (100 : Int32) (own_ml (100 : Int32) gT) (.int 0) := (VT.ext ol71.2)
      obtain ⟨cl73, Ar73, qa73, Sa73, Na73, Ha73, Ga73⟩ := id Vo73
      have hib73 : ¬ (((x / 100) * 100) - x) < 0 ∧ (((x / 100) * 100) - x) < 100 := (own_rbI hv2)
      have hin73 := inb_of Sa73 hib73
      refine oS (X72.baloadBytes hx (j := (((x / 100) * 100) - x)) (v := (.int (own_at gT (((x / 100) * 100) - x)))) (by rw [e72]; exact Ar73.1) (State.isArrayOf_alike (hZ).alike Ar73.2.1) Ar73.2.2 hin73 (Ha73.at hin73 (own_mlat _ hib73)) (g := (mkF m 67 #[vi (x / 100), vi p1, vr a2, vi (x / 100), vi (((x / 100) * 100) - x), vi ((cc + (-1)) + (-1)), vi (own_bI p0)] [(.int (((x / 100) * 100) - x)), (.ref w_DigitTens), (.int ((cc + (-1)) + (-1))), (.ref a2)])) rfl rfl (hb hby (d22 40))) ?_
      show OF _ _ _ _ (T72.setTop (mkF m 68 #[vi (x / 100), vi p1, vr a2, vi (x / 100), vi (((x / 100) * 100) - x), vi ((cc + (-1)) + (-1)), vi (own_bI p0)] [(.int (own_at gT (((x / 100) * 100) - x))), (.int ((cc + (-1)) + (-1))), (.ref a2)]))
      have Vo74 : Arv Z h70 a2 k_a2 .byte z0 (own_ml z0 (own_upd (own_fdI p0 p1 f0 cc) (cc + (-1)) ((own_at gO (((x / 100) * 100) - x)).toInt8.toInt32))) (.int 0) := V70
      obtain ⟨cl74, Ar74, qa74, Sa74, Na74, Ha74, Ga74⟩ := id Vo74
      have hib74 : ¬ ((cc + (-1)) + (-1)) < 0 ∧ ((cc + (-1)) + (-1)) < z0 := (own_i2 (own_preI hn) hv2 (own_x2 hc42))
      obtain ⟨T74, h74, X74, e74, W74, st74⟩ := stB X72 hx hZ e72 Ar74 (j := ((cc + (-1)) + (-1))) (inb_of Sa74 hib74) (g := (mkF m 68 #[vi (x / 100), vi p1, vr a2, vi (x / 100), vi (((x / 100) * 100) - x), vi ((cc + (-1)) + (-1)), vi (own_bI p0)] [(.int (own_at gT (((x / 100) * 100) - x))), (.int ((cc + (-1)) + (-1))), (.ref a2)])) rfl rfl (hb hby (d22 41))
      refine oS st74 ?_
      have V74 : Arv Z h74 a2 k_a2 .byte z0 (own_ml z0 (own_upd (own_upd (own_fdI p0 p1 f0 cc) (cc + (-1)) ((own_at gO (((x / 100) * 100) - x)).toInt8.toInt32)) ((cc + (-1)) + (-1)) ((own_at gT (((x / 100) * 100) - x)).toInt8.toInt32))) (.int 0) := by
        have z := Arv.set Ar74 qa74 Sa74 Na74 Ha74 Ga74 (fits_nar_byte _) W74 _ rfl (by rw [own_mllen]; exact own_idx hib74)
        rw [own_mlset] at z
        exact z
      have N74 := Fr.snoc X74 N70 g_a2
      have kp75 : Keep h0 h74 [a2] := kp71.wr W74 (Or.inl (List.mem_of_getElem? (i := 0) rfl))
      have ol75 : Old Z n0 h74 := ol71.wr W74 g_a2
      show OF _ _ _ _ (T74.setTop (mkF m 69 _ _))
      refine oS (fun _ q => XS.goto X74.here hx rfl (pc0 := 69) (pc' := 22) rfl (hb hby (d22 42)) (by decide) (by decide) q) ?_
      show OF _ _ _ _ (T74.setTop (mkF m 22 #[vi (x / 100), vi p1, vr a2, vi (x / 100), vi (((x / 100) * 100) - x), vi ((cc + (-1)) + (-1)), vi (own_bI p0)] []))
      exact ih ((x / 100)) (((cc + (-1)) + (-1))) ((((x / 100) * 100) - x)) _ _ _ (own_ivI (own_preI hn) hv2 (own_x2 hc42)) (own_cdec (own_preI hn) hv2 (own_x2 hc42) hfu) X74 N74 e74 ((K40.wr W70 (Or.inl (List.mem_of_getElem? (i := 0) rfl))).wr W74 (Or.inl (List.mem_of_getElem? (i := 0) rfl))) (own_mlcong (own_stepI (own_preI hn) hv2 (own_x2 hc42) hO hT) V74)
   exact H40 _ (((own_ngI p0) / 100)) (((p1 + (-1)) + (-1))) (((((own_ngI p0) / 100) * 100) - (own_ngI p0))) _ _ _ (own_ivI (own_preI hn) (own_iv0 (own_preI hn) (own_ngIv p0)) (own_x2 hc6)) (Nat.lt_succ_self _) X38 N38 e38 (Keep.refl _ _) (own_mlcong (own_stepI (own_preI hn) (own_iv0 (own_preI hn) (own_ngIv p0)) (own_x2 hc6) hO hT) V38)
theorem pd_5 : parseMethodDescriptor "(J)I" = some ⟨[.long], some .int⟩ := by decide +kernel
theorem pd_6 : parseMethodDescriptor "()Z" = some ⟨[], some .boolean⟩ := by decide +kernel
theorem pd_7 : parseMethodDescriptor "(JI[B)I" = some ⟨[.long, .int, (.array .byte)], some .int⟩ := by decide +kernel
abbrev C7 := jdk_68_method_33_code
def L7 : List (Nat × Instr × Nat) := [(0, .aload_n 0, 1), (1, .getfield 79, 3), (4, .istore_n 3, 1), (5, .iload_n 3, 1), (6, .lload_n 1, 1), (7, .invokestatic 254, 3), (10, .iadd, 1), (11, .istore 4, 2), (13, .aload_n 0, 1), (14, .iload 4, 2), (16, .invokevirtual 100, 3), (19, .aload_n 0, 1), (20, .invokevirtual 83, 3), (23, .ifCond .eq 17, 3), (26, .lload_n 1, 1), (27, .iload 4, 2), (29, .aload_n 0, 1), (30, .getfield 15, 3), (33, .invokestatic 259, 3), (36, .pop, 1), (37, .goto 15, 3), (52, .aload_n 0, 1), (53, .iload 4, 2), (55, .putfield 79, 3), (58, .aload_n 0, 1), (59, .areturn, 1)]
theorem d7 : ∀ i : Fin 26, decode C7 (L7.get i).1 = .ok (L7.get i).2 := by decide +kernel
theorem ef_rm_aLN (m : MethodId) (a0 : Addr) (q1 : Int64) : entryFrame m #[(.ref a0), (.long q1)] 5 = mkF m 0 #[.val (.ref a0), .val (.long q1), .second, .unset, .unset] [] := by first | (simp [entryFrame, mkF, argsToLocals, Value.category]; done) | rfl
def Q_rm_aLN (Z : State) (a0 : Addr) (q1 : Int64) (b0 : Addr) (c0 : Int32) (k_b0 : ClassId) (z0 : Int32) (f0 : Nat → Int32) (kO : ClassId) (gO : Nat → Int32) (w_DigitOnes : Addr) (kT : ClassId) (gT : Nat → Int32) (w_DigitTens : Addr) (w_COMPACT_STRINGS : Int32) (h0 : Heap) (n0 : Nat) (v : Option Value) (h : Heap) (L : List Loc) : Prop := v = some (.ref a0) ∧ Fr n0 L ∧ Keep h0 h [b0, a0] ∧ Fld Z h a0 "java/lang/AbstractStringBuilder" "value" "[B" (.ref b0) ∧ Fld Z h a0 "java/lang/AbstractStringBuilder" "coder" "B" (.int 0) ∧ Fld Z h a0 "java/lang/AbstractStringBuilder" "count" "I" (.int (c0 + (own_ssL q1))) ∧ Arv Z h b0 k_b0 .byte z0 (own_ml z0 (own_outL q1 (c0 + (own_ssL q1)) f0)) (.int 0)
set_option maxRecDepth 65536 in
set_option maxHeartbeats 40000000 in
theorem rm_aLN (l : Launch) (Z : State) (av0 : Array Value) (hw : ∀ d ∈ tables_1, d.before av0 Z = true) (ws : List Jvm.Cond) (a0 : Addr) (q1 : Int64) (b0 : Addr) (c0 : Int32) (k_b0 : ClassId) (z0 : Int32) (f0 : Nat → Int32) (kO : ClassId) (gO : Nat → Int32) (w_DigitOnes : Addr) (kT : ClassId) (gT : Nat → Int32) (w_DigitTens : Addr) (w_COMPACT_STRINGS : Int32) (h0 : Heap) (n0 : Nat) (Z0 : n0 ≤ h0.size) (Ol0 : Old Z n0 h0) (X_a0 : Exa Z h0 a0 "java/lang/StringBuilder") (F_value_a0 : Fld Z h0 a0 "java/lang/AbstractStringBuilder" "value" "[B" (.ref b0)) (F_coder_a0 : Fld Z h0 a0 "java/lang/AbstractStringBuilder" "coder" "B" (.int 0)) (F_count_a0 : Fld Z h0 a0 "java/lang/AbstractStringBuilder" "count" "I" (.int c0)) (V_b0 : Arv Z h0 b0 k_b0 .byte z0 (own_ml z0 f0) (.int 0)) (X_b0 : Exa Z h0 b0 "[B") (VO : Arv Z Z.heap w_DigitOnes kO .byte (100 : Int32) (own_ml (100 : Int32) gO) (.int 0)) (VT : Arv Z Z.heap w_DigitTens kT .byte (100 : Int32) (own_ml (100 : Int32) gT) (.int 0)) (hO : own_hO gO) (hT : own_hT gT) (hn1 : (own_ssL q1).toInt ≤ (c0 + (own_ssL q1)).toInt ∧ (c0 + (own_ssL q1)).toInt ≤ z0.toInt) (hc0 : ¬ ((0 : Int32) < ((c0 + (own_ssL q1)) - (z0 >>> ((0 : Int32) &&& 31))))) (S_COMPACT_STRINGS : Sta Z Z.heap "java/lang/String" "COMPACT_STRINGS" "Z" (.int w_COMPACT_STRINGS)) (hc1 : ¬ (w_COMPACT_STRINGS = 0)) (S_DigitOnes : Sta Z Z.heap "java/lang/Integer" "DigitOnes" "[B" (.ref w_DigitOnes)) (g_b0 : n0 ≤ b0) (S_DigitTens : Sta Z Z.heap "java/lang/Integer" "DigitTens" "[B" (.ref w_DigitTens)) (ne_a0_b0 : a0 ≠ b0) (g_a0 : n0 ≤ a0) (ne_b0_a0 : b0 ≠ a0) :
    own_MF l Z h0 yM14 (Jvm.Cond.code yM14 jdk_68_method_33_code 5 (some (.object "java/lang/AbstractStringBuilder")) :: ws) ({ frames := 1, cells := 0, slots := 0, locals := 22 } : Room) #[(.ref a0), (.long q1)] (Q_rm_aLN Z a0 q1 b0 c0 k_b0 z0 f0 kO gO w_DigitOnes kT gT w_DigitTens w_COMPACT_STRINGS h0 n0) := by
  refine own_ent (own := "java/lang/AbstractStringBuilder") (plainFor_of_name pn_1) rfl ?_
  intro p e s m below meth c s₁ Bd hx hby hml hZ hh hown hnm X0 e0
  have N0 := Fr.nil n0
  have kp0 : Keep h0 h0 [b0, a0] := Keep.refl _ _
  refine oS (fun _ q => castTop (ef_rm_aLN m a0 q1) q) ?_
  show OF _ _ _ _ (s₁.setTop (mkF m 0 #[vr a0, .val (.long q1), .second, .unset, .unset] []))
  refine oS (fun _ q => XS.aloadN X0.here hx rfl (hb hby (d7 0)) rfl rfl q) ?_
  obtain ⟨T1, X1, e1, st1⟩ := getF X0 hx hZ hown (host := "") (Or.inl (w_ hw 67 rfl)) Via.refl e0 F_count_a0 (g := (mkF m 1 #[vr a0, .val (.long q1), .second, .unset, .unset] [(.ref a0)])) rfl rfl (hb hby (d7 1))
  refine oS st1 ?_
  show OF _ _ _ _ (T1.setTop (mkF m 4 _ _))
  refine oS (fun _ q => XS.istoreN X1.here hx rfl (hb hby (d7 2)) rfl (l' := #[vr a0, .val (.long q1), .second, vi c0, .unset]) rfl (XS.iloadN X1.here hx rfl (hb hby (d7 3)) rfl (XS.lloadN X1.here hx rfl (hb hby (d7 4)) rfl q))) ?_
  obtain ⟨_, _, ⟨T2, L2, k2, n2⟩, -, X2, ⟨Lc2, hQ2, l2, y2, z2⟩, st2⟩ := Jvm.LawKit.callS X1 hx (y := yM4) hown (mvT hZ (w_ hw 69 rfl)) (mvT hZ (w_ hw 70 rfl)) (mvT hZ (w_ hw 71 rfl)) (mvT hZ (w_ hw 72 rfl)) (by decide) (backOf (W := 1) (rm_ssL l Z av0 hw [] q1 h0 n0 (Nat.le_trans Z0 kp0.1) ) hZ (w_ hw 72 rfl) (w_ hw 71 rfl) (by decide) (by decide)) (g := (mkF m 7 #[vr a0, .val (.long q1), .second, vi c0, .unset] [(.long q1), (.int c0)])) rfl (by rw [hml]; rfl) (argsL := [(.long q1)]) (rest := [(.int c0)]) (lenOf pd_5 rfl) rfl (by show 2 * 0 + _ ≤ _; exact Nat.le_of_eq rfl) (hb hby (d7 5)) (fun _ _ => ⟨rfl, e1, (by decide : 0 + 0 ≤ _), (by decide : 0 + 0 ≤ _)⟩)
  dsimp only [Pt.U, Pt.locs, Pt.cells, Pt.slots] at X2 l2 y2 z2 st2 hQ2
  subst l2 y2 z2
  obtain ⟨rfl, N2q, he2⟩ := hQ2
  have N2 := Fr.app N0 N2q
  refine oS st2 ?_
  show OF _ _ _ _ (T2.setTop (mkF m 10 _ _))
  refine oS (fun _ q => XS.iadd X2.here hx rfl (hb hby (d7 6)) rfl (XS.istore X2.here hx rfl (hb hby (d7 7)) rfl (l' := #[vr a0, .val (.long q1), .second, vi c0, vi (c0 + (own_ssL q1))]) rfl (XS.aloadN X2.here hx rfl (hb hby (d7 8)) rfl rfl (XS.iload X2.here hx rfl (hb hby (d7 9)) rfl q)))) ?_
  show OF _ _ _ _ (T2.setTop (mkF m 16 _ _))
  obtain ⟨cq3, q3, q3'⟩ := X_a0.cell
  obtain ⟨_, _, ⟨T3, L3, k3, n3⟩, -, X3, ⟨Lc3, hQ3, l3, y3, z3⟩, st3⟩ := X2.privateBack hx (y := yM11) hown (mvT hZ (w_ hw 74 rfl)) (mvT hZ (w_ hw 75 rfl)) (mvT hZ (own_selp (w_ hw 75 rfl) (own_nfs (y' := yM0) rfl (w_ hw 82 rfl)) (Cond.privateMethod_at (w_ hw 76 rfl)) (by decide))) (Cond.privateMethod_at (mvP hZ (w_ hw 76 rfl) (args := #[]))) (mvT hZ (w_ hw 78 rfl)) (by decide) (backOf (W := 0) (rm_ecN l Z av0 hw [] a0 (c0 + (own_ssL q1)) b0 k_b0 z0 f0 h0 n0 (Nat.le_trans Z0 kp0.1) X_a0 F_value_a0 F_coder_a0 V_b0 X_b0 hc0) hZ (w_ hw 78 rfl) (w_ hw 47 rfl) (by decide) (by decide)) (g := (mkF m 16 #[vr a0, .val (.long q1), .second, vi c0, vi (c0 + (own_ssL q1))] [(.int (c0 + (own_ssL q1))), (.ref a0)])) rfl (by rw [hml]; rfl) (Steps.refl _) (a := a0) (by rw [he2]; exact q3) q3' (argsL := [(.int (c0 + (own_ssL q1)))]) (rest := []) (lenOf pd_0 rfl) rfl (by show 2 * 0 + _ ≤ _; exact Nat.le_of_eq rfl) (hb hby (d7 10)) (fun _ _ => ⟨rfl, he2, (by decide : 0 + 0 ≤ _), (by decide : 0 + 0 ≤ _)⟩)
  dsimp only [Pt.U, Pt.locs, Pt.cells, Pt.slots] at X3 l3 y3 z3 st3 hQ3
  subst l3 y3 z3
  obtain ⟨rfl, N3q, he3⟩ := hQ3
  have N3 := Fr.app N2 N3q
  refine oT st3 ?_
  show OF _ _ _ _ (T3.setTop (mkF m 19 _ _))
  refine oS (fun _ q => XS.aloadN X3.here hx rfl (hb hby (d7 11)) rfl rfl q) ?_
  show OF _ _ _ _ (T3.setTop (mkF m 20 #[vr a0, .val (.long q1), .second, vi c0, vi (c0 + (own_ssL q1))] [(.ref a0)]))
  show OF _ _ _ _ (T3.setTop (mkF m 20 _ _))
  obtain ⟨cq4, kq4, q4a, q4b, q4c⟩ := isOf hZ he3 X_a0
  obtain ⟨_, _, ⟨T4, L4, k4, n4⟩, -, X4, ⟨Lc4, hQ4, l4, y4, z4⟩, st4⟩ := X3.virtualBack hx (y := yM0) (z := yM0) hown (mvT hZ (w_ hw 79 rfl)) (mvT hZ (w_ hw 80 rfl)) (notFace_of_selects (args := #[]) (mvT hZ (w_ hw 82 rfl))) (mvT hZ (w_ hw 82 rfl)) (mvT hZ (w_ hw 81 rfl)) (by decide) (backOf (W := 0) (rm_isl l Z av0 hw [] a0 w_COMPACT_STRINGS h0 n0 (Nat.le_trans Z0 kp0.1) Ol0 X_a0 F_coder_a0 S_COMPACT_STRINGS hc1) hZ (w_ hw 83 rfl) (w_ hw 47 rfl) (by decide) (by decide)) q4a q4c (g := (mkF m 20 #[vr a0, .val (.long q1), .second, vi c0, vi (c0 + (own_ssL q1))] [(.ref a0)])) rfl (by rw [hml]; rfl) (Steps.refl _) (argsL := []) (rest := []) (lenOf pd_6 rfl) rfl (by show 2 * 0 + _ ≤ _; exact Nat.le_of_eq rfl) (hb hby (d7 12)) (fun _ _ => ⟨rfl, he3, (by decide : 0 + 0 ≤ _), (by decide : 0 + 0 ≤ _)⟩)
  dsimp only [Pt.U, Pt.locs, Pt.cells, Pt.slots] at X4 l4 y4 z4 st4 hQ4
  subst l4 y4 z4
  obtain ⟨rfl, N4q, he4⟩ := hQ4
  have N4 := Fr.app N3 N4q
  refine oT st4 ?_
  show OF _ _ _ _ (T4.setTop (mkF m 23 _ _))
  refine oS (fun _ q => XS.ifNo X4.here hx rfl (hb hby (d7 13)) rfl (Jvm.Free.XT.i0_eq_f (by decide : ¬ ((1 : Int32) = (0 : Int32)))) q) ?_
  show OF _ _ _ _ (T4.setTop (mkF m 26 _ _))
  refine oS (fun _ q => XS.lloadN X4.here hx rfl (hb hby (d7 14)) rfl (XS.iload X4.here hx rfl (hb hby (d7 15)) rfl (XS.aloadN X4.here hx rfl (hb hby (d7 16)) rfl rfl q))) ?_
  obtain ⟨T5, X5, e5, st5⟩ := getF X4 hx hZ hown (host := "") (Or.inl (w_ hw 53 rfl)) Via.refl he4 F_value_a0 (g := (mkF m 30 #[vr a0, .val (.long q1), .second, vi c0, vi (c0 + (own_ssL q1))] [(.ref a0), (.int (c0 + (own_ssL q1))), (.long q1)])) rfl rfl (hb hby (d7 17))
  refine oS st5 ?_
  show OF _ _ _ _ (T5.setTop (mkF m 33 _ _))
  obtain ⟨_, _, ⟨T6, L6, k6, n6⟩, -, X6, ⟨Lc6, hQ6, l6, y6, z6⟩, st6⟩ := Jvm.LawKit.callS X5 hx (y := yM12) hown (mvT hZ (w_ hw 84 rfl)) (mvT hZ (w_ hw 85 rfl)) (mvT hZ (w_ hw 71 rfl)) (mvT hZ (w_ hw 86 rfl)) (by decide) (backOf (W := 0) (rm_gcL l Z av0 hw [] q1 (c0 + (own_ssL q1)) b0 k_b0 z0 f0 kO gO w_DigitOnes kT gT w_DigitTens h0 n0 (Nat.le_trans Z0 kp0.1) Ol0 V_b0 VO VT hO hT hn1 S_DigitOnes g_b0 S_DigitTens) hZ (w_ hw 86 rfl) (w_ hw 71 rfl) (by decide) (by decide)) (g := (mkF m 33 #[vr a0, .val (.long q1), .second, vi c0, vi (c0 + (own_ssL q1))] [(.ref b0), (.int (c0 + (own_ssL q1))), (.long q1)])) rfl (by rw [hml]; rfl) (argsL := [(.long q1), (.int (c0 + (own_ssL q1))), (.ref b0)]) (rest := []) (lenOf pd_7 rfl) rfl (by show 2 * 0 + _ ≤ _; exact Nat.le_of_eq rfl) (hb hby (d7 18)) (fun _ _ => ⟨rfl, e5, (by decide : 0 + 0 ≤ _), (by decide : 0 + 0 ≤ _)⟩)
  dsimp only [Pt.U, Pt.locs, Pt.cells, Pt.slots] at X6 l6 y6 z6 st6 hQ6
  subst l6 y6 z6
  obtain ⟨zc6_0, rfl, N6q, K6, r6_0⟩ := hQ6
  have N6 := Fr.app N4 N6q
  refine oS st6 ?_
  obtain ⟨h6, e6⟩ : ∃ z, T6.heap = z := ⟨_, rfl⟩
  rw [e6] at K6 r6_0
  have kp7 : Keep h0 h6 [b0, a0] := kp0.trans K6 (allS (Or.inl (List.mem_of_getElem? (i := 0) rfl)) all0)
  have ol7 : Old Z n0 h6 := Ol0.keep K6 (allS g_b0 all0)
  show OF _ _ _ _ (T6.setTop (mkF m 36 _ _))
  refine oS (fun _ q => XS.pop X6.here hx rfl (hb hby (d7 19)) rfl rfl (XS.goto X6.here hx rfl (pc0 := 37) (pc' := 52) rfl (hb hby (d7 20)) (by decide) (by decide) (XS.aloadN X6.here hx rfl (hb hby (d7 21)) rfl rfl (XS.iload X6.here hx rfl (hb hby (d7 22)) rfl q)))) ?_
  obtain ⟨T8, h8, X8, e8, W8, st8⟩ := putF X6 hx hZ hown (host := "") (Or.inl (w_ hw 67 rfl)) Via.refl e6 (F_count_a0.keep K6 (ninS ne_a0_b0 nin0)) (X_a0.keep K6) (Or.inl (w_ hw 68 rfl)) (w_ hw 38 rfl) (ty := .int) (by decide) rfl rfl (g := (mkF m 55 #[vr a0, .val (.long q1), .second, vi c0, vi (c0 + (own_ssL q1))] [(.int (c0 + (own_ssL q1))), (.ref a0)])) rfl rfl (hb hby (d7 23))
  refine oS st8 ?_
  have Fw8 : Fld Z h8 a0 "java/lang/AbstractStringBuilder" "count" "I" (.int (c0 + (own_ssL q1))) := (F_count_a0.keep K6 (ninS ne_a0_b0 nin0)).same W8
  have N8 := Fr.snoc X8 N6 g_a0
  have kp9 : Keep h0 h8 [b0, a0] := kp7.wr W8 (Or.inl (List.mem_of_getElem? (i := 1) rfl))
  have ol9 : Old Z n0 h8 := ol7.wr W8 g_a0
  show OF _ _ _ _ (T8.setTop (mkF m 58 #[vr a0, .val (.long q1), .second, vi c0, vi (c0 + (own_ssL q1))] []))
  refine oS (fun _ q => XS.aloadN X8.here hx rfl (hb hby (d7 24)) rfl rfl q) ?_
  obtain ⟨fs, hr, hrun, hended, hW, hsame⟩ := X8.leave (v := some (.ref a0)) (fun h => by rw [Bd.returns] at h; cases h)
  refine ⟨_, _, retOut X8 hx Bd.returns rfl (Or.inr (Or.inr (Or.inr (Or.inr ⟨rfl, rfl, rfl⟩)))) (hb hby (d7 25)) hr, hrun, hended, _, _, rfl, ?_, ⟨_, rfl⟩, hW, hsame.mono (by decide) (by decide)⟩
  show Q_rm_aLN Z a0 q1 b0 c0 k_b0 z0 f0 kO gO w_DigitOnes kT gT w_DigitTens w_COMPACT_STRINGS h0 n0 _ T8.heap _
  rw [e8]
  have fr10 : Fld Z h8 a0 "java/lang/AbstractStringBuilder" "value" "[B" (.ref b0) := ((F_value_a0.keep K6 (ninS ne_a0_b0 nin0)).other W8 (Or.inr (slot_ne (Or.inl (w_ hw 54 rfl)) (Or.inl (w_ hw 68 rfl)) (by decide) (t := (.array .byte)) (t' := .int) (by decide) (by decide))))
  have fr11 : Fld Z h8 a0 "java/lang/AbstractStringBuilder" "coder" "B" (.int 0) := ((F_coder_a0.keep K6 (ninS ne_a0_b0 nin0)).other W8 (Or.inr (slot_ne (Or.inl (w_ hw 56 rfl)) (Or.inl (w_ hw 68 rfl)) (by decide) (t := .byte) (t' := .int) (by decide) (by decide))))
  exact ⟨rfl, N8, kp9, fr10, fr11, Fw8, (r6_0.other W8 ne_b0_a0)⟩
theorem pd_8 : parseMethodDescriptor "(J)Ljava/lang/AbstractStringBuilder;" = some ⟨[.long], some (.object "java/lang/AbstractStringBuilder")⟩ := by decide +kernel
abbrev C6 := jdk_67_method_16_code
def L6 : List (Nat × Instr × Nat) := [(0, .aload_n 0, 1), (1, .lload_n 1, 1), (2, .invokespecial 56, 3), (5, .pop, 1), (6, .aload_n 0, 1), (7, .areturn, 1)]
theorem d6 : ∀ i : Fin 6, decode C6 (L6.get i).1 = .ok (L6.get i).2 := by decide +kernel
theorem ef_rm_sLN (m : MethodId) (a0 : Addr) (q1 : Int64) : entryFrame m #[(.ref a0), (.long q1)] 3 = mkF m 0 #[.val (.ref a0), .val (.long q1), .second] [] := by first | (simp [entryFrame, mkF, argsToLocals, Value.category]; done) | rfl
def Q_rm_sLN (Z : State) (a0 : Addr) (q1 : Int64) (b0 : Addr) (c0 : Int32) (k_b0 : ClassId) (z0 : Int32) (f0 : Nat → Int32) (kO : ClassId) (gO : Nat → Int32) (w_DigitOnes : Addr) (kT : ClassId) (gT : Nat → Int32) (w_DigitTens : Addr) (w_COMPACT_STRINGS : Int32) (h0 : Heap) (n0 : Nat) (v : Option Value) (h : Heap) (L : List Loc) : Prop := v = some (.ref a0) ∧ Fr n0 L ∧ Keep h0 h [a0, b0] ∧ Fld Z h a0 "java/lang/AbstractStringBuilder" "value" "[B" (.ref b0) ∧ Fld Z h a0 "java/lang/AbstractStringBuilder" "coder" "B" (.int 0) ∧ Fld Z h a0 "java/lang/AbstractStringBuilder" "count" "I" (.int (c0 + (own_ssL q1))) ∧ Arv Z h b0 k_b0 .byte z0 (own_ml z0 (own_outL q1 (c0 + (own_ssL q1)) f0)) (.int 0)
set_option maxRecDepth 65536 in
set_option maxHeartbeats 40000000 in
theorem rm_sLN (l : Launch) (Z : State) (av0 : Array Value) (hw : ∀ d ∈ tables_1, d.before av0 Z = true) (ws : List Jvm.Cond) (a0 : Addr) (q1 : Int64) (b0 : Addr) (c0 : Int32) (k_b0 : ClassId) (z0 : Int32) (f0 : Nat → Int32) (kO : ClassId) (gO : Nat → Int32) (w_DigitOnes : Addr) (kT : ClassId) (gT : Nat → Int32) (w_DigitTens : Addr) (w_COMPACT_STRINGS : Int32) (h0 : Heap) (n0 : Nat) (Z0 : n0 ≤ h0.size) (Ol0 : Old Z n0 h0) (X_a0 : Exa Z h0 a0 "java/lang/StringBuilder") (F_value_a0 : Fld Z h0 a0 "java/lang/AbstractStringBuilder" "value" "[B" (.ref b0)) (F_coder_a0 : Fld Z h0 a0 "java/lang/AbstractStringBuilder" "coder" "B" (.int 0)) (F_count_a0 : Fld Z h0 a0 "java/lang/AbstractStringBuilder" "count" "I" (.int c0)) (V_b0 : Arv Z h0 b0 k_b0 .byte z0 (own_ml z0 f0) (.int 0)) (X_b0 : Exa Z h0 b0 "[B") (VO : Arv Z Z.heap w_DigitOnes kO .byte (100 : Int32) (own_ml (100 : Int32) gO) (.int 0)) (VT : Arv Z Z.heap w_DigitTens kT .byte (100 : Int32) (own_ml (100 : Int32) gT) (.int 0)) (hO : own_hO gO) (hT : own_hT gT) (hn1 : (own_ssL q1).toInt ≤ (c0 + (own_ssL q1)).toInt ∧ (c0 + (own_ssL q1)).toInt ≤ z0.toInt) (hc0 : ¬ ((0 : Int32) < ((c0 + (own_ssL q1)) - (z0 >>> ((0 : Int32) &&& 31))))) (S_COMPACT_STRINGS : Sta Z Z.heap "java/lang/String" "COMPACT_STRINGS" "Z" (.int w_COMPACT_STRINGS)) (hc1 : ¬ (w_COMPACT_STRINGS = 0)) (S_DigitOnes : Sta Z Z.heap "java/lang/Integer" "DigitOnes" "[B" (.ref w_DigitOnes)) (g_b0 : n0 ≤ b0) (S_DigitTens : Sta Z Z.heap "java/lang/Integer" "DigitTens" "[B" (.ref w_DigitTens)) (ne_a0_b0 : a0 ≠ b0) (g_a0 : n0 ≤ a0) (ne_b0_a0 : b0 ≠ a0) :
    own_MF l Z h0 yM15 (Jvm.Cond.code yM15 jdk_67_method_16_code 3 (some (.object "java/lang/StringBuilder")) :: ws) ({ frames := 2, cells := 0, slots := 0, locals := 38 } : Room) #[(.ref a0), (.long q1)] (Q_rm_sLN Z a0 q1 b0 c0 k_b0 z0 f0 kO gO w_DigitOnes kT gT w_DigitTens w_COMPACT_STRINGS h0 n0) := by
  refine own_ent (own := "java/lang/StringBuilder") (plainFor_of_name pn_2) rfl ?_
  intro p e s m below meth c s₁ Bd hx hby hml hZ hh hown hnm X0 e0
  have N0 := Fr.nil n0
  have kp0 : Keep h0 h0 [a0, b0] := Keep.refl _ _
  refine oS (fun _ q => castTop (ef_rm_sLN m a0 q1) q) ?_
  show OF _ _ _ _ (s₁.setTop (mkF m 0 #[vr a0, .val (.long q1), .second] []))
  refine oS (fun _ q => XS.aloadN X0.here hx rfl (hb hby (d6 0)) rfl rfl (XS.lloadN X0.here hx rfl (hb hby (d6 1)) rfl q)) ?_
  show OF _ _ _ _ (s₁.setTop (mkF m 2 _ _))
  show OF _ _ _ _ (s₁.setTop (mkF m 2 _ _))
  obtain ⟨_, _, ⟨T1, L1, k1, n1⟩, -, X1, ⟨Lc1, hQ1, l1, y1, z1⟩, st1⟩ := superBack X0 hx hZ (y := yM14) hown (w_ hw 62 rfl) (own_same (w_ hw 63 rfl) (own_nfs (y' := yM0) rfl (w_ hw 82 rfl)) (by decide)) (w_ hw 63 rfl) (w_ hw 64 rfl) (by decide) (backOf (W := 0) (rm_aLN l Z av0 hw [] a0 q1 b0 c0 k_b0 z0 f0 kO gO w_DigitOnes kT gT w_DigitTens w_COMPACT_STRINGS h0 n0 (Nat.le_trans Z0 kp0.1) Ol0 X_a0 F_value_a0 F_coder_a0 F_count_a0 V_b0 X_b0 VO VT hO hT hn1 hc0 S_COMPACT_STRINGS hc1 S_DigitOnes g_b0 S_DigitTens ne_a0_b0 g_a0 ne_b0_a0) hZ (w_ hw 66 rfl) (w_ hw 47 rfl) (by decide) (by decide)) e0 (Ins.self X_a0) (g := (mkF m 2 #[vr a0, .val (.long q1), .second] [(.long q1), (.ref a0)])) rfl (by rw [hml]; rfl) (w_ hw 66 rfl) (argsL := [(.long q1)]) (rest := []) (lenOf pd_8 rfl) rfl (by show 2 * 0 + _ ≤ _; exact Nat.le_of_eq rfl) (hb hby (d6 2)) (fun _ _ => ⟨rfl, e0, (by decide : 0 + 0 ≤ _), (by decide : 0 + 0 ≤ _)⟩)
  dsimp only [Pt.U, Pt.locs, Pt.cells, Pt.slots] at X1 l1 y1 z1 st1 hQ1
  subst l1 y1 z1
  obtain ⟨rfl, N1q, K1, r1_0, r1_1, r1_2, r1_3⟩ := hQ1
  have N1 := Fr.app N0 N1q
  refine oT st1 ?_
  obtain ⟨h1, e1⟩ : ∃ z, T1.heap = z := ⟨_, rfl⟩
  rw [e1] at K1 r1_0 r1_1 r1_2 r1_3
  have kp2 : Keep h0 h1 [a0, b0] := kp0.trans K1 (allS (Or.inl (List.mem_of_getElem? (i := 1) rfl)) (allS (Or.inl (List.mem_of_getElem? (i := 0) rfl)) all0))
  have ol2 : Old Z n0 h1 := Ol0.keep K1 (allS g_b0 (allS g_a0 all0))
  show OF _ _ _ _ (T1.setTop (mkF m 5 _ _))
  refine oS (fun _ q => XS.pop X1.here hx rfl (hb hby (d6 3)) rfl rfl (XS.aloadN X1.here hx rfl (hb hby (d6 4)) rfl rfl q)) ?_
  obtain ⟨fs, hr, hrun, hended, hW, hsame⟩ := X1.leave (v := some (.ref a0)) (fun h => by rw [Bd.returns] at h; cases h)
  refine ⟨_, _, retOut X1 hx Bd.returns rfl (Or.inr (Or.inr (Or.inr (Or.inr ⟨rfl, rfl, rfl⟩)))) (hb hby (d6 5)) hr, hrun, hended, _, _, rfl, ?_, ⟨_, rfl⟩, hW, hsame.mono (by decide) (by decide)⟩
  show Q_rm_sLN Z a0 q1 b0 c0 k_b0 z0 f0 kO gO w_DigitOnes kT gT w_DigitTens w_COMPACT_STRINGS h0 n0 _ T1.heap _
  rw [e1]
  exact ⟨rfl, N1, kp2, r1_0, r1_1, r1_2, r1_3⟩
theorem ef_rm_aLY (m : MethodId) (a0 : Addr) (q1 : Int64) : entryFrame m #[(.ref a0), (.long q1)] 5 = mkF m 0 #[.val (.ref a0), .val (.long q1), .second, .unset, .unset] [] := by first | (simp [entryFrame, mkF, argsToLocals, Value.category]; done) | rfl
def Q_rm_aLY (Z : State) (a0 : Addr) (q1 : Int64) (b0 : Addr) (c0 : Int32) (k_b0 : ClassId) (f0 : Nat → Int32) (kO : ClassId) (gO : Nat → Int32) (w_DigitOnes : Addr) (kT : ClassId) (gT : Nat → Int32) (w_DigitTens : Addr) (w_COMPACT_STRINGS : Int32) (h0 : Heap) (n0 : Nat) (v : Option Value) (h : Heap) (L : List Loc) : Prop := ∃ c3_0 : Addr, ∃ kc3_1 : ClassId, v = some (.ref a0) ∧ Fr n0 L ∧ Keep h0 h [a0] ∧ h0.size ≤ c3_0 ∧ Fld Z h a0 "java/lang/AbstractStringBuilder" "value" "[B" (.ref c3_0) ∧ Fld Z h a0 "java/lang/AbstractStringBuilder" "coder" "B" (.int 0) ∧ Fld Z h a0 "java/lang/AbstractStringBuilder" "count" "I" (.int (c0 + (own_ssL q1))) ∧ Exa Z h c3_0 "[B" ∧ Arv Z h c3_0 kc3_1 .byte (34 : Int32) (own_ml (34 : Int32) (own_outL q1 (c0 + (own_ssL q1)) f0)) (.int 0)
set_option maxRecDepth 65536 in
set_option maxHeartbeats 40000000 in
theorem rm_aLY (l : Launch) (Z : State) (av0 : Array Value) (hw : ∀ d ∈ tables_1, d.before av0 Z = true) (ws : List Jvm.Cond) (a0 : Addr) (q1 : Int64) (b0 : Addr) (c0 : Int32) (k_b0 : ClassId) (f0 : Nat → Int32) (kO : ClassId) (gO : Nat → Int32) (w_DigitOnes : Addr) (kT : ClassId) (gT : Nat → Int32) (w_DigitTens : Addr) (w_COMPACT_STRINGS : Int32) (h0 : Heap) (n0 : Nat) (Z0 : n0 ≤ h0.size) (Ol0 : Old Z n0 h0) (X_a0 : Exa Z h0 a0 "java/lang/StringBuilder") (F_value_a0 : Fld Z h0 a0 "java/lang/AbstractStringBuilder" "value" "[B" (.ref b0)) (F_coder_a0 : Fld Z h0 a0 "java/lang/AbstractStringBuilder" "coder" "B" (.int 0)) (F_count_a0 : Fld Z h0 a0 "java/lang/AbstractStringBuilder" "count" "I" (.int c0)) (V_b0 : Arv Z h0 b0 k_b0 .byte (16 : Int32) (own_ml (16 : Int32) f0) (.int 0)) (X_b0 : Exa Z h0 b0 "[B") (VO : Arv Z Z.heap w_DigitOnes kO .byte (100 : Int32) (own_ml (100 : Int32) gO) (.int 0)) (VT : Arv Z Z.heap w_DigitTens kT .byte (100 : Int32) (own_ml (100 : Int32) gT) (.int 0)) (hO : own_hO gO) (hT : own_hT gT) (hn1 : (own_ssL q1).toInt ≤ (c0 + (own_ssL q1)).toInt ∧ (c0 + (own_ssL q1)).toInt ≤ (34 : Int32).toInt) (hpp : 16 < (c0 + (own_ssL q1)).toInt ∧ (c0 + (own_ssL q1)).toInt ≤ 34) (hf : ∀ i, 16 ≤ i → f0 i = 0) (hc0 : (0 : Int32) < ((c0 + (own_ssL q1)) - ((16 : Int32) >>> ((0 : Int32) &&& 31)))) (g_a0 : n0 ≤ a0) (S_COMPACT_STRINGS : Sta Z Z.heap "java/lang/String" "COMPACT_STRINGS" "Z" (.int w_COMPACT_STRINGS)) (hc1 : ¬ (w_COMPACT_STRINGS = 0)) (S_DigitOnes : Sta Z Z.heap "java/lang/Integer" "DigitOnes" "[B" (.ref w_DigitOnes)) (S_DigitTens : Sta Z Z.heap "java/lang/Integer" "DigitTens" "[B" (.ref w_DigitTens)) :
    own_MF l Z h0 yM14 (Jvm.Cond.code yM14 jdk_68_method_33_code 5 (some (.object "java/lang/AbstractStringBuilder")) :: ws) ({ frames := 4, cells := 1, slots := 34, locals := 69 } : Room) #[(.ref a0), (.long q1)] (Q_rm_aLY Z a0 q1 b0 c0 k_b0 f0 kO gO w_DigitOnes kT gT w_DigitTens w_COMPACT_STRINGS h0 n0) := by
  refine own_ent (own := "java/lang/AbstractStringBuilder") (plainFor_of_name pn_1) rfl ?_
  intro p e s m below meth c s₁ Bd hx hby hml hZ hh hown hnm X0 e0
  have N0 := Fr.nil n0
  have kp0 : Keep h0 h0 [a0] := Keep.refl _ _
  refine oS (fun _ q => castTop (ef_rm_aLY m a0 q1) q) ?_
  show OF _ _ _ _ (s₁.setTop (mkF m 0 #[vr a0, .val (.long q1), .second, .unset, .unset] []))
  refine oS (fun _ q => XS.aloadN X0.here hx rfl (hb hby (d7 0)) rfl rfl q) ?_
  obtain ⟨T1, X1, e1, st1⟩ := getF X0 hx hZ hown (host := "") (Or.inl (w_ hw 67 rfl)) Via.refl e0 F_count_a0 (g := (mkF m 1 #[vr a0, .val (.long q1), .second, .unset, .unset] [(.ref a0)])) rfl rfl (hb hby (d7 1))
  refine oS st1 ?_
  show OF _ _ _ _ (T1.setTop (mkF m 4 _ _))
  refine oS (fun _ q => XS.istoreN X1.here hx rfl (hb hby (d7 2)) rfl (l' := #[vr a0, .val (.long q1), .second, vi c0, .unset]) rfl (XS.iloadN X1.here hx rfl (hb hby (d7 3)) rfl (XS.lloadN X1.here hx rfl (hb hby (d7 4)) rfl q))) ?_
  obtain ⟨_, _, ⟨T2, L2, k2, n2⟩, -, X2, ⟨Lc2, hQ2, l2, y2, z2⟩, st2⟩ := Jvm.LawKit.callS X1 hx (y := yM4) hown (mvT hZ (w_ hw 69 rfl)) (mvT hZ (w_ hw 70 rfl)) (mvT hZ (w_ hw 71 rfl)) (mvT hZ (w_ hw 72 rfl)) (by decide) (backOf (W := 1) (rm_ssL l Z av0 hw [] q1 h0 n0 (Nat.le_trans Z0 kp0.1) ) hZ (w_ hw 72 rfl) (w_ hw 71 rfl) (by decide) (by decide)) (g := (mkF m 7 #[vr a0, .val (.long q1), .second, vi c0, .unset] [(.long q1), (.int c0)])) rfl (by rw [hml]; rfl) (argsL := [(.long q1)]) (rest := [(.int c0)]) (lenOf pd_5 rfl) rfl (by show 2 * 0 + _ ≤ _; exact Nat.le_of_eq rfl) (hb hby (d7 5)) (fun _ _ => ⟨rfl, e1, (by decide : 0 + 0 ≤ _), (by decide : 0 + 0 ≤ _)⟩)
  dsimp only [Pt.U, Pt.locs, Pt.cells, Pt.slots] at X2 l2 y2 z2 st2 hQ2
  subst l2 y2 z2
  obtain ⟨rfl, N2q, he2⟩ := hQ2
  have N2 := Fr.app N0 N2q
  refine oS st2 ?_
  show OF _ _ _ _ (T2.setTop (mkF m 10 _ _))
  refine oS (fun _ q => XS.iadd X2.here hx rfl (hb hby (d7 6)) rfl (XS.istore X2.here hx rfl (hb hby (d7 7)) rfl (l' := #[vr a0, .val (.long q1), .second, vi c0, vi (c0 + (own_ssL q1))]) rfl (XS.aloadN X2.here hx rfl (hb hby (d7 8)) rfl rfl (XS.iload X2.here hx rfl (hb hby (d7 9)) rfl q)))) ?_
  show OF _ _ _ _ (T2.setTop (mkF m 16 _ _))
  obtain ⟨cq3, q3, q3'⟩ := X_a0.cell
  obtain ⟨_, _, ⟨T3, L3, k3, n3⟩, -, X3, ⟨Lc3, hQ3, l3, y3, z3⟩, st3⟩ := X2.privateBack hx (y := yM11) hown (mvT hZ (w_ hw 74 rfl)) (mvT hZ (w_ hw 75 rfl)) (mvT hZ (own_selp (w_ hw 75 rfl) (own_nfs (y' := yM0) rfl (w_ hw 82 rfl)) (Cond.privateMethod_at (w_ hw 76 rfl)) (by decide))) (Cond.privateMethod_at (mvP hZ (w_ hw 76 rfl) (args := #[]))) (mvT hZ (w_ hw 78 rfl)) (by decide) (backOf (W := 0) (rm_ecY l Z av0 hw [] a0 (c0 + (own_ssL q1)) b0 c0 k_b0 f0 h0 n0 (Nat.le_trans Z0 kp0.1) X_a0 F_value_a0 F_coder_a0 F_count_a0 V_b0 X_b0 hpp hf hc0 g_a0) hZ (w_ hw 78 rfl) (w_ hw 47 rfl) (by decide) (by decide)) (g := (mkF m 16 #[vr a0, .val (.long q1), .second, vi c0, vi (c0 + (own_ssL q1))] [(.int (c0 + (own_ssL q1))), (.ref a0)])) rfl (by rw [hml]; rfl) (Steps.refl _) (a := a0) (by rw [he2]; exact q3) q3' (argsL := [(.int (c0 + (own_ssL q1)))]) (rest := []) (lenOf pd_0 rfl) rfl (by show 2 * 0 + _ ≤ _; exact Nat.le_of_eq rfl) (hb hby (d7 10)) (fun _ _ => ⟨rfl, he2, (by decide : 0 + 1 ≤ _), (by decide : 0 + 34 ≤ _)⟩)
  dsimp only [Pt.U, Pt.locs, Pt.cells, Pt.slots] at X3 l3 y3 z3 st3 hQ3
  subst l3 y3 z3
  obtain ⟨c3_0, kc3_1, rfl, N3q, K3, r3_0, r3_1, r3_2, r3_3, r3_4, r3_5⟩ := hQ3
  have N3 := Fr.app N2 N3q
  refine oT st3 ?_
  obtain ⟨h3, e3⟩ : ∃ z, T3.heap = z := ⟨_, rfl⟩
  rw [e3] at K3 r3_1 r3_2 r3_3 r3_4 r3_5
  have bi_c3_0 : h0.size ≤ c3_0 := r3_0
  have lo_c3_0 : h0.size ≤ c3_0 := Nat.le_trans kp0.1 bi_c3_0
  have g_c3_0 : n0 ≤ c3_0 := Nat.le_trans Z0 lo_c3_0
  have kp4 : Keep h0 h3 [a0] := kp0.trans K3 (allS (Or.inl (List.mem_of_getElem? (i := 0) rfl)) all0)
  have ol4 : Old Z n0 h3 := Ol0.keep K3 (allS g_a0 all0)
  show OF _ _ _ _ (T3.setTop (mkF m 19 _ _))
  refine oS (fun _ q => XS.aloadN X3.here hx rfl (hb hby (d7 11)) rfl rfl q) ?_
  show OF _ _ _ _ (T3.setTop (mkF m 20 #[vr a0, .val (.long q1), .second, vi c0, vi (c0 + (own_ssL q1))] [(.ref a0)]))
  show OF _ _ _ _ (T3.setTop (mkF m 20 _ _))
  obtain ⟨cq5, kq5, q5a, q5b, q5c⟩ := isOf hZ e3 (X_a0.keep K3)
  obtain ⟨_, _, ⟨T5, L5, k5, n5⟩, -, X5, ⟨Lc5, hQ5, l5, y5, z5⟩, st5⟩ := X3.virtualBack hx (y := yM0) (z := yM0) hown (mvT hZ (w_ hw 79 rfl)) (mvT hZ (w_ hw 80 rfl)) (notFace_of_selects (args := #[]) (mvT hZ (w_ hw 82 rfl))) (mvT hZ (w_ hw 82 rfl)) (mvT hZ (w_ hw 81 rfl)) (by decide) (backOf (W := 0) (rm_isl l Z av0 hw [] a0 w_COMPACT_STRINGS h3 n0 (Nat.le_trans Z0 kp4.1) ol4 (X_a0.keep K3) r3_2 S_COMPACT_STRINGS hc1) hZ (w_ hw 83 rfl) (w_ hw 47 rfl) (by decide) (by decide)) q5a q5c (g := (mkF m 20 #[vr a0, .val (.long q1), .second, vi c0, vi (c0 + (own_ssL q1))] [(.ref a0)])) rfl (by rw [hml]; rfl) (Steps.refl _) (argsL := []) (rest := []) (lenOf pd_6 rfl) rfl (by show 2 * 0 + _ ≤ _; exact Nat.le_of_eq rfl) (hb hby (d7 12)) (fun _ _ => ⟨rfl, e3, (by decide : 1 + 0 ≤ _), (by decide : 34 + 0 ≤ _)⟩)
  dsimp only [Pt.U, Pt.locs, Pt.cells, Pt.slots] at X5 l5 y5 z5 st5 hQ5
  subst l5 y5 z5
  obtain ⟨rfl, N5q, he5⟩ := hQ5
  have N5 := Fr.app N3 N5q
  refine oT st5 ?_
  show OF _ _ _ _ (T5.setTop (mkF m 23 _ _))
  refine oS (fun _ q => XS.ifNo X5.here hx rfl (hb hby (d7 13)) rfl (Jvm.Free.XT.i0_eq_f (by decide : ¬ ((1 : Int32) = (0 : Int32)))) q) ?_
  show OF _ _ _ _ (T5.setTop (mkF m 26 _ _))
  refine oS (fun _ q => XS.lloadN X5.here hx rfl (hb hby (d7 14)) rfl (XS.iload X5.here hx rfl (hb hby (d7 15)) rfl (XS.aloadN X5.here hx rfl (hb hby (d7 16)) rfl rfl q))) ?_
  obtain ⟨T6, X6, e6, st6⟩ := getF X5 hx hZ hown (host := "") (Or.inl (w_ hw 53 rfl)) Via.refl he5 r3_1 (g := (mkF m 30 #[vr a0, .val (.long q1), .second, vi c0, vi (c0 + (own_ssL q1))] [(.ref a0), (.int (c0 + (own_ssL q1))), (.long q1)])) rfl rfl (hb hby (d7 17))
  refine oS st6 ?_
  show OF _ _ _ _ (T6.setTop (mkF m 33 _ _))
  obtain ⟨_, _, ⟨T7, L7, k7, n7⟩, -, X7, ⟨Lc7, hQ7, l7, y7, z7⟩, st7⟩ := Jvm.LawKit.callS X6 hx (y := yM12) hown (mvT hZ (w_ hw 84 rfl)) (mvT hZ (w_ hw 85 rfl)) (mvT hZ (w_ hw 71 rfl)) (mvT hZ (w_ hw 86 rfl)) (by decide) (backOf (W := 0) (rm_gcL l Z av0 hw [] q1 (c0 + (own_ssL q1)) c3_0 kc3_1 (34 : Int32) f0 kO gO w_DigitOnes kT gT w_DigitTens h3 n0 (Nat.le_trans Z0 kp4.1) ol4 r3_4 VO VT hO hT hn1 S_DigitOnes g_c3_0 S_DigitTens) hZ (w_ hw 86 rfl) (w_ hw 71 rfl) (by decide) (by decide)) (g := (mkF m 33 #[vr a0, .val (.long q1), .second, vi c0, vi (c0 + (own_ssL q1))] [(.ref c3_0), (.int (c0 + (own_ssL q1))), (.long q1)])) rfl (by rw [hml]; rfl) (argsL := [(.long q1), (.int (c0 + (own_ssL q1))), (.ref c3_0)]) (rest := []) (lenOf pd_7 rfl) rfl (by show 2 * 0 + _ ≤ _; exact Nat.le_of_eq rfl) (hb hby (d7 18)) (fun _ _ => ⟨rfl, e6, (by decide : 1 + 0 ≤ _), (by decide : 34 + 0 ≤ _)⟩)
  dsimp only [Pt.U, Pt.locs, Pt.cells, Pt.slots] at X7 l7 y7 z7 st7 hQ7
  subst l7 y7 z7
  obtain ⟨zc7_0, rfl, N7q, K7, r7_0⟩ := hQ7
  have N7 := Fr.app N5 N7q
  refine oS st7 ?_
  obtain ⟨h7, e7⟩ : ∃ z, T7.heap = z := ⟨_, rfl⟩
  rw [e7] at K7 r7_0
  have kp8 : Keep h0 h7 [a0] := kp4.trans K7 (allS (Or.inr lo_c3_0) all0)
  have ol8 : Old Z n0 h7 := ol4.keep K7 (allS g_c3_0 all0)
  show OF _ _ _ _ (T7.setTop (mkF m 36 _ _))
  refine oS (fun _ q => XS.pop X7.here hx rfl (hb hby (d7 19)) rfl rfl (XS.goto X7.here hx rfl (pc0 := 37) (pc' := 52) rfl (hb hby (d7 20)) (by decide) (by decide) (XS.aloadN X7.here hx rfl (hb hby (d7 21)) rfl rfl (XS.iload X7.here hx rfl (hb hby (d7 22)) rfl q)))) ?_
  have fr9 : Fld Z h7 a0 "java/lang/AbstractStringBuilder" "count" "I" (.int c0) := (r3_3.keep K7 (ninS (Nat.ne_of_lt (Nat.lt_of_lt_of_le X_a0.lt bi_c3_0)) nin0))
  obtain ⟨T10, h10, X10, e10, W10, st10⟩ := putF X7 hx hZ hown (host := "") (Or.inl (w_ hw 67 rfl)) Via.refl e7 fr9 ((X_a0.keep K3).keep K7) (Or.inl (w_ hw 68 rfl)) (w_ hw 38 rfl) (ty := .int) (by decide) rfl rfl (g := (mkF m 55 #[vr a0, .val (.long q1), .second, vi c0, vi (c0 + (own_ssL q1))] [(.int (c0 + (own_ssL q1))), (.ref a0)])) rfl rfl (hb hby (d7 23))
  refine oS st10 ?_
  have Fw10 : Fld Z h10 a0 "java/lang/AbstractStringBuilder" "count" "I" (.int (c0 + (own_ssL q1))) := (r3_3.keep K7 (ninS (Nat.ne_of_lt (Nat.lt_of_lt_of_le X_a0.lt bi_c3_0)) nin0)).same W10
  have N10 := Fr.snoc X10 N7 g_a0
  have kp11 : Keep h0 h10 [a0] := kp8.wr W10 (Or.inl (List.mem_of_getElem? (i := 0) rfl))
  have ol11 : Old Z n0 h10 := ol8.wr W10 g_a0
  show OF _ _ _ _ (T10.setTop (mkF m 58 #[vr a0, .val (.long q1), .second, vi c0, vi (c0 + (own_ssL q1))] []))
  refine oS (fun _ q => XS.aloadN X10.here hx rfl (hb hby (d7 24)) rfl rfl q) ?_
  obtain ⟨fs, hr, hrun, hended, hW, hsame⟩ := X10.leave (v := some (.ref a0)) (fun h => by rw [Bd.returns] at h; cases h)
  refine ⟨_, _, retOut X10 hx Bd.returns rfl (Or.inr (Or.inr (Or.inr (Or.inr ⟨rfl, rfl, rfl⟩)))) (hb hby (d7 25)) hr, hrun, hended, _, _, rfl, ?_, ⟨_, rfl⟩, hW, hsame.mono (by decide) (by decide)⟩
  show Q_rm_aLY Z a0 q1 b0 c0 k_b0 f0 kO gO w_DigitOnes kT gT w_DigitTens w_COMPACT_STRINGS h0 n0 _ T10.heap _
  rw [e10]
  have fr12 : Fld Z h10 a0 "java/lang/AbstractStringBuilder" "value" "[B" (.ref c3_0) := ((r3_1.keep K7 (ninS (Nat.ne_of_lt (Nat.lt_of_lt_of_le X_a0.lt bi_c3_0)) nin0)).other W10 (Or.inr (slot_ne (Or.inl (w_ hw 54 rfl)) (Or.inl (w_ hw 68 rfl)) (by decide) (t := (.array .byte)) (t' := .int) (by decide) (by decide))))
  have fr13 : Fld Z h10 a0 "java/lang/AbstractStringBuilder" "coder" "B" (.int 0) := ((r3_2.keep K7 (ninS (Nat.ne_of_lt (Nat.lt_of_lt_of_le X_a0.lt bi_c3_0)) nin0)).other W10 (Or.inr (slot_ne (Or.inl (w_ hw 56 rfl)) (Or.inl (w_ hw 68 rfl)) (by decide) (t := .byte) (t' := .int) (by decide) (by decide))))
  have fr14 : Arv Z h10 c3_0 kc3_1 .byte (34 : Int32) (own_ml (34 : Int32) (own_outL q1 (c0 + (own_ssL q1)) f0)) (.int 0) := (r7_0.other W10 (Ne.symm (Nat.ne_of_lt (Nat.lt_of_lt_of_le X_a0.lt bi_c3_0))))
  exact ⟨c3_0, kc3_1, rfl, N10, kp11, lo_c3_0, fr12, fr13, Fw10, ((r3_5.keep K7).wr W10), fr14⟩
theorem ef_rm_sLY (m : MethodId) (a0 : Addr) (q1 : Int64) : entryFrame m #[(.ref a0), (.long q1)] 3 = mkF m 0 #[.val (.ref a0), .val (.long q1), .second] [] := by first | (simp [entryFrame, mkF, argsToLocals, Value.category]; done) | rfl
def Q_rm_sLY (Z : State) (a0 : Addr) (q1 : Int64) (b0 : Addr) (c0 : Int32) (k_b0 : ClassId) (f0 : Nat → Int32) (kO : ClassId) (gO : Nat → Int32) (w_DigitOnes : Addr) (kT : ClassId) (gT : Nat → Int32) (w_DigitTens : Addr) (w_COMPACT_STRINGS : Int32) (h0 : Heap) (n0 : Nat) (v : Option Value) (h : Heap) (L : List Loc) : Prop := ∃ c1_0 : Addr, ∃ kc1_1 : ClassId, v = some (.ref a0) ∧ Fr n0 L ∧ Keep h0 h [a0] ∧ h0.size ≤ c1_0 ∧ Fld Z h a0 "java/lang/AbstractStringBuilder" "value" "[B" (.ref c1_0) ∧ Fld Z h a0 "java/lang/AbstractStringBuilder" "coder" "B" (.int 0) ∧ Fld Z h a0 "java/lang/AbstractStringBuilder" "count" "I" (.int (c0 + (own_ssL q1))) ∧ Exa Z h c1_0 "[B" ∧ Arv Z h c1_0 kc1_1 .byte (34 : Int32) (own_ml (34 : Int32) (own_outL q1 (c0 + (own_ssL q1)) f0)) (.int 0)
set_option maxRecDepth 65536 in
set_option maxHeartbeats 40000000 in
theorem rm_sLY (l : Launch) (Z : State) (av0 : Array Value) (hw : ∀ d ∈ tables_1, d.before av0 Z = true) (ws : List Jvm.Cond) (a0 : Addr) (q1 : Int64) (b0 : Addr) (c0 : Int32) (k_b0 : ClassId) (f0 : Nat → Int32) (kO : ClassId) (gO : Nat → Int32) (w_DigitOnes : Addr) (kT : ClassId) (gT : Nat → Int32) (w_DigitTens : Addr) (w_COMPACT_STRINGS : Int32) (h0 : Heap) (n0 : Nat) (Z0 : n0 ≤ h0.size) (Ol0 : Old Z n0 h0) (X_a0 : Exa Z h0 a0 "java/lang/StringBuilder") (F_value_a0 : Fld Z h0 a0 "java/lang/AbstractStringBuilder" "value" "[B" (.ref b0)) (F_coder_a0 : Fld Z h0 a0 "java/lang/AbstractStringBuilder" "coder" "B" (.int 0)) (F_count_a0 : Fld Z h0 a0 "java/lang/AbstractStringBuilder" "count" "I" (.int c0)) (V_b0 : Arv Z h0 b0 k_b0 .byte (16 : Int32) (own_ml (16 : Int32) f0) (.int 0)) (X_b0 : Exa Z h0 b0 "[B") (VO : Arv Z Z.heap w_DigitOnes kO .byte (100 : Int32) (own_ml (100 : Int32) gO) (.int 0)) (VT : Arv Z Z.heap w_DigitTens kT .byte (100 : Int32) (own_ml (100 : Int32) gT) (.int 0)) (hO : own_hO gO) (hT : own_hT gT) (hn1 : (own_ssL q1).toInt ≤ (c0 + (own_ssL q1)).toInt ∧ (c0 + (own_ssL q1)).toInt ≤ (34 : Int32).toInt) (hpp : 16 < (c0 + (own_ssL q1)).toInt ∧ (c0 + (own_ssL q1)).toInt ≤ 34) (hf : ∀ i, 16 ≤ i → f0 i = 0) (hc0 : (0 : Int32) < ((c0 + (own_ssL q1)) - ((16 : Int32) >>> ((0 : Int32) &&& 31)))) (g_a0 : n0 ≤ a0) (S_COMPACT_STRINGS : Sta Z Z.heap "java/lang/String" "COMPACT_STRINGS" "Z" (.int w_COMPACT_STRINGS)) (hc1 : ¬ (w_COMPACT_STRINGS = 0)) (S_DigitOnes : Sta Z Z.heap "java/lang/Integer" "DigitOnes" "[B" (.ref w_DigitOnes)) (S_DigitTens : Sta Z Z.heap "java/lang/Integer" "DigitTens" "[B" (.ref w_DigitTens)) :
    own_MF l Z h0 yM15 (Jvm.Cond.code yM15 jdk_67_method_16_code 3 (some (.object "java/lang/StringBuilder")) :: ws) ({ frames := 5, cells := 1, slots := 34, locals := 85 } : Room) #[(.ref a0), (.long q1)] (Q_rm_sLY Z a0 q1 b0 c0 k_b0 f0 kO gO w_DigitOnes kT gT w_DigitTens w_COMPACT_STRINGS h0 n0) := by
  refine own_ent (own := "java/lang/StringBuilder") (plainFor_of_name pn_2) rfl ?_
  intro p e s m below meth c s₁ Bd hx hby hml hZ hh hown hnm X0 e0
  have N0 := Fr.nil n0
  have kp0 : Keep h0 h0 [a0] := Keep.refl _ _
  refine oS (fun _ q => castTop (ef_rm_sLY m a0 q1) q) ?_
  show OF _ _ _ _ (s₁.setTop (mkF m 0 #[vr a0, .val (.long q1), .second] []))
  refine oS (fun _ q => XS.aloadN X0.here hx rfl (hb hby (d6 0)) rfl rfl (XS.lloadN X0.here hx rfl (hb hby (d6 1)) rfl q)) ?_
  show OF _ _ _ _ (s₁.setTop (mkF m 2 _ _))
  show OF _ _ _ _ (s₁.setTop (mkF m 2 _ _))
  obtain ⟨_, _, ⟨T1, L1, k1, n1⟩, -, X1, ⟨Lc1, hQ1, l1, y1, z1⟩, st1⟩ := superBack X0 hx hZ (y := yM14) hown (w_ hw 62 rfl) (own_same (w_ hw 63 rfl) (own_nfs (y' := yM0) rfl (w_ hw 82 rfl)) (by decide)) (w_ hw 63 rfl) (w_ hw 64 rfl) (by decide) (backOf (W := 0) (rm_aLY l Z av0 hw [] a0 q1 b0 c0 k_b0 f0 kO gO w_DigitOnes kT gT w_DigitTens w_COMPACT_STRINGS h0 n0 (Nat.le_trans Z0 kp0.1) Ol0 X_a0 F_value_a0 F_coder_a0 F_count_a0 V_b0 X_b0 VO VT hO hT hn1 hpp hf hc0 g_a0 S_COMPACT_STRINGS hc1 S_DigitOnes S_DigitTens) hZ (w_ hw 66 rfl) (w_ hw 47 rfl) (by decide) (by decide)) e0 (Ins.self X_a0) (g := (mkF m 2 #[vr a0, .val (.long q1), .second] [(.long q1), (.ref a0)])) rfl (by rw [hml]; rfl) (w_ hw 66 rfl) (argsL := [(.long q1)]) (rest := []) (lenOf pd_8 rfl) rfl (by show 2 * 0 + _ ≤ _; exact Nat.le_of_eq rfl) (hb hby (d6 2)) (fun _ _ => ⟨rfl, e0, (by decide : 0 + 1 ≤ _), (by decide : 0 + 34 ≤ _)⟩)
  dsimp only [Pt.U, Pt.locs, Pt.cells, Pt.slots] at X1 l1 y1 z1 st1 hQ1
  subst l1 y1 z1
  obtain ⟨c1_0, kc1_1, rfl, N1q, K1, r1_0, r1_1, r1_2, r1_3, r1_4, r1_5⟩ := hQ1
  have N1 := Fr.app N0 N1q
  refine oT st1 ?_
  obtain ⟨h1, e1⟩ : ∃ z, T1.heap = z := ⟨_, rfl⟩
  rw [e1] at K1 r1_1 r1_2 r1_3 r1_4 r1_5
  have bi_c1_0 : h0.size ≤ c1_0 := r1_0
  have lo_c1_0 : h0.size ≤ c1_0 := Nat.le_trans kp0.1 bi_c1_0
  have g_c1_0 : n0 ≤ c1_0 := Nat.le_trans Z0 lo_c1_0
  have kp2 : Keep h0 h1 [a0] := kp0.trans K1 (allS (Or.inl (List.mem_of_getElem? (i := 0) rfl)) all0)
  have ol2 : Old Z n0 h1 := Ol0.keep K1 (allS g_a0 all0)
  show OF _ _ _ _ (T1.setTop (mkF m 5 _ _))
  refine oS (fun _ q => XS.pop X1.here hx rfl (hb hby (d6 3)) rfl rfl (XS.aloadN X1.here hx rfl (hb hby (d6 4)) rfl rfl q)) ?_
  obtain ⟨fs, hr, hrun, hended, hW, hsame⟩ := X1.leave (v := some (.ref a0)) (fun h => by rw [Bd.returns] at h; cases h)
  refine ⟨_, _, retOut X1 hx Bd.returns rfl (Or.inr (Or.inr (Or.inr (Or.inr ⟨rfl, rfl, rfl⟩)))) (hb hby (d6 5)) hr, hrun, hended, _, _, rfl, ?_, ⟨_, rfl⟩, hW, hsame.mono (by decide) (by decide)⟩
  show Q_rm_sLY Z a0 q1 b0 c0 k_b0 f0 kO gO w_DigitOnes kT gT w_DigitTens w_COMPACT_STRINGS h0 n0 _ T1.heap _
  rw [e1]
  exact ⟨c1_0, kc1_1, rfl, N1, kp2, lo_c1_0, r1_1, r1_2, r1_3, r1_4, r1_5⟩
theorem pd_9 : parseMethodDescriptor "(II[B)I" = some ⟨[.int, .int, (.array .byte)], some .int⟩ := by decide +kernel
abbrev C20 := jdk_68_method_32_code
def L20 : List (Nat × Instr × Nat) := [(0, .aload_n 0, 1), (1, .getfield 79, 3), (4, .istore_n 2, 1), (5, .iload_n 2, 1), (6, .iload_n 1, 1), (7, .invokestatic 245, 3), (10, .iadd, 1), (11, .istore_n 3, 1), (12, .aload_n 0, 1), (13, .iload_n 3, 1), (14, .invokevirtual 100, 3), (17, .aload_n 0, 1), (18, .invokevirtual 83, 3), (21, .ifCond .eq 16, 3), (24, .iload_n 1, 1), (25, .iload_n 3, 1), (26, .aload_n 0, 1), (27, .getfield 15, 3), (30, .invokestatic 248, 3), (33, .pop, 1), (34, .goto 14, 3), (48, .aload_n 0, 1), (49, .iload_n 3, 1), (50, .putfield 79, 3), (53, .aload_n 0, 1), (54, .areturn, 1)]
theorem d20 : ∀ i : Fin 26, decode C20 (L20.get i).1 = .ok (L20.get i).2 := by decide +kernel
theorem ef_rm_aIN (m : MethodId) (a0 : Addr) (p1 : Int32) : entryFrame m #[(.ref a0), (.int p1)] 4 = mkF m 0 #[.val (.ref a0), .val (.int p1), .unset, .unset] [] := by first | (simp [entryFrame, mkF, argsToLocals, Value.category]; done) | rfl
def Q_rm_aIN (Z : State) (a0 : Addr) (p1 : Int32) (b0 : Addr) (c0 : Int32) (k_b0 : ClassId) (z0 : Int32) (f0 : Nat → Int32) (kO : ClassId) (gO : Nat → Int32) (w_DigitOnes : Addr) (kT : ClassId) (gT : Nat → Int32) (w_DigitTens : Addr) (w_COMPACT_STRINGS : Int32) (h0 : Heap) (n0 : Nat) (v : Option Value) (h : Heap) (L : List Loc) : Prop := v = some (.ref a0) ∧ Fr n0 L ∧ Keep h0 h [b0, a0] ∧ Fld Z h a0 "java/lang/AbstractStringBuilder" "value" "[B" (.ref b0) ∧ Fld Z h a0 "java/lang/AbstractStringBuilder" "coder" "B" (.int 0) ∧ Fld Z h a0 "java/lang/AbstractStringBuilder" "count" "I" (.int (c0 + (own_ssI p1))) ∧ Arv Z h b0 k_b0 .byte z0 (own_ml z0 (own_outI p1 (c0 + (own_ssI p1)) f0)) (.int 0)
set_option maxRecDepth 65536 in
set_option maxHeartbeats 40000000 in
theorem rm_aIN (l : Launch) (Z : State) (av0 : Array Value) (hw : ∀ d ∈ tables_1, d.before av0 Z = true) (ws : List Jvm.Cond) (a0 : Addr) (p1 : Int32) (b0 : Addr) (c0 : Int32) (k_b0 : ClassId) (z0 : Int32) (f0 : Nat → Int32) (kO : ClassId) (gO : Nat → Int32) (w_DigitOnes : Addr) (kT : ClassId) (gT : Nat → Int32) (w_DigitTens : Addr) (w_COMPACT_STRINGS : Int32) (h0 : Heap) (n0 : Nat) (Z0 : n0 ≤ h0.size) (Ol0 : Old Z n0 h0) (X_a0 : Exa Z h0 a0 "java/lang/StringBuilder") (F_value_a0 : Fld Z h0 a0 "java/lang/AbstractStringBuilder" "value" "[B" (.ref b0)) (F_coder_a0 : Fld Z h0 a0 "java/lang/AbstractStringBuilder" "coder" "B" (.int 0)) (F_count_a0 : Fld Z h0 a0 "java/lang/AbstractStringBuilder" "count" "I" (.int c0)) (V_b0 : Arv Z h0 b0 k_b0 .byte z0 (own_ml z0 f0) (.int 0)) (X_b0 : Exa Z h0 b0 "[B") (VO : Arv Z Z.heap w_DigitOnes kO .byte (100 : Int32) (own_ml (100 : Int32) gO) (.int 0)) (VT : Arv Z Z.heap w_DigitTens kT .byte (100 : Int32) (own_ml (100 : Int32) gT) (.int 0)) (hO : own_hO gO) (hT : own_hT gT) (hn1 : (own_ssI p1).toInt ≤ (c0 + (own_ssI p1)).toInt ∧ (c0 + (own_ssI p1)).toInt ≤ z0.toInt) (hc0 : ¬ ((0 : Int32) < ((c0 + (own_ssI p1)) - (z0 >>> ((0 : Int32) &&& 31))))) (S_COMPACT_STRINGS : Sta Z Z.heap "java/lang/String" "COMPACT_STRINGS" "Z" (.int w_COMPACT_STRINGS)) (hc1 : ¬ (w_COMPACT_STRINGS = 0)) (S_DigitOnes : Sta Z Z.heap "java/lang/Integer" "DigitOnes" "[B" (.ref w_DigitOnes)) (g_b0 : n0 ≤ b0) (S_DigitTens : Sta Z Z.heap "java/lang/Integer" "DigitTens" "[B" (.ref w_DigitTens)) (ne_a0_b0 : a0 ≠ b0) (g_a0 : n0 ≤ a0) (ne_b0_a0 : b0 ≠ a0) :
    own_MF l Z h0 yM16 (Jvm.Cond.code yM16 jdk_68_method_32_code 4 (some (.object "java/lang/AbstractStringBuilder")) :: ws) ({ frames := 1, cells := 0, slots := 0, locals := 18 } : Room) #[(.ref a0), (.int p1)] (Q_rm_aIN Z a0 p1 b0 c0 k_b0 z0 f0 kO gO w_DigitOnes kT gT w_DigitTens w_COMPACT_STRINGS h0 n0) := by
  refine own_ent (own := "java/lang/AbstractStringBuilder") (plainFor_of_name pn_1) rfl ?_
  intro p e s m below meth c s₁ Bd hx hby hml hZ hh hown hnm X0 e0
  have N0 := Fr.nil n0
  have kp0 : Keep h0 h0 [b0, a0] := Keep.refl _ _
  refine oS (fun _ q => castTop (ef_rm_aIN m a0 p1) q) ?_
  show OF _ _ _ _ (s₁.setTop (mkF m 0 #[vr a0, vi p1, .unset, .unset] []))
  refine oS (fun _ q => XS.aloadN X0.here hx rfl (hb hby (d20 0)) rfl rfl q) ?_
  obtain ⟨T1, X1, e1, st1⟩ := getF X0 hx hZ hown (host := "") (Or.inl (w_ hw 67 rfl)) Via.refl e0 F_count_a0 (g := (mkF m 1 #[vr a0, vi p1, .unset, .unset] [(.ref a0)])) rfl rfl (hb hby (d20 1))
  refine oS st1 ?_
  show OF _ _ _ _ (T1.setTop (mkF m 4 _ _))
  refine oS (fun _ q => XS.istoreN X1.here hx rfl (hb hby (d20 2)) rfl (l' := #[vr a0, vi p1, vi c0, .unset]) rfl (XS.iloadN X1.here hx rfl (hb hby (d20 3)) rfl (XS.iloadN X1.here hx rfl (hb hby (d20 4)) rfl q))) ?_
  obtain ⟨_, _, ⟨T2, L2, k2, n2⟩, -, X2, ⟨Lc2, hQ2, l2, y2, z2⟩, st2⟩ := Jvm.LawKit.callS X1 hx (y := yM5) hown (mvT hZ (w_ hw 147 rfl)) (mvT hZ (w_ hw 148 rfl)) (mvT hZ (w_ hw 89 rfl)) (mvT hZ (w_ hw 149 rfl)) (by decide) (backOf (W := 1) (rm_ssI l Z av0 hw [] p1 h0 n0 (Nat.le_trans Z0 kp0.1) ) hZ (w_ hw 149 rfl) (w_ hw 89 rfl) (by decide) (by decide)) (g := (mkF m 7 #[vr a0, vi p1, vi c0, .unset] [(.int p1), (.int c0)])) rfl (by rw [hml]; rfl) (argsL := [(.int p1)]) (rest := [(.int c0)]) (lenOf pd_3 rfl) rfl (by show 2 * 0 + _ ≤ _; exact Nat.le_of_eq rfl) (hb hby (d20 5)) (fun _ _ => ⟨rfl, e1, (by decide : 0 + 0 ≤ _), (by decide : 0 + 0 ≤ _)⟩)
  dsimp only [Pt.U, Pt.locs, Pt.cells, Pt.slots] at X2 l2 y2 z2 st2 hQ2
  subst l2 y2 z2
  obtain ⟨rfl, N2q, he2⟩ := hQ2
  have N2 := Fr.app N0 N2q
  refine oS st2 ?_
  show OF _ _ _ _ (T2.setTop (mkF m 10 _ _))
  refine oS (fun _ q => XS.iadd X2.here hx rfl (hb hby (d20 6)) rfl (XS.istoreN X2.here hx rfl (hb hby (d20 7)) rfl (l' := #[vr a0, vi p1, vi c0, vi (c0 + (own_ssI p1))]) rfl (XS.aloadN X2.here hx rfl (hb hby (d20 8)) rfl rfl (XS.iloadN X2.here hx rfl (hb hby (d20 9)) rfl q)))) ?_
  show OF _ _ _ _ (T2.setTop (mkF m 14 _ _))
  obtain ⟨cq3, q3, q3'⟩ := X_a0.cell
  obtain ⟨_, _, ⟨T3, L3, k3, n3⟩, -, X3, ⟨Lc3, hQ3, l3, y3, z3⟩, st3⟩ := X2.privateBack hx (y := yM11) hown (mvT hZ (w_ hw 74 rfl)) (mvT hZ (w_ hw 75 rfl)) (mvT hZ (own_selp (w_ hw 75 rfl) (own_nfs (y' := yM0) rfl (w_ hw 82 rfl)) (Cond.privateMethod_at (w_ hw 76 rfl)) (by decide))) (Cond.privateMethod_at (mvP hZ (w_ hw 76 rfl) (args := #[]))) (mvT hZ (w_ hw 78 rfl)) (by decide) (backOf (W := 0) (rm_ecN l Z av0 hw [] a0 (c0 + (own_ssI p1)) b0 k_b0 z0 f0 h0 n0 (Nat.le_trans Z0 kp0.1) X_a0 F_value_a0 F_coder_a0 V_b0 X_b0 hc0) hZ (w_ hw 78 rfl) (w_ hw 47 rfl) (by decide) (by decide)) (g := (mkF m 14 #[vr a0, vi p1, vi c0, vi (c0 + (own_ssI p1))] [(.int (c0 + (own_ssI p1))), (.ref a0)])) rfl (by rw [hml]; rfl) (Steps.refl _) (a := a0) (by rw [he2]; exact q3) q3' (argsL := [(.int (c0 + (own_ssI p1)))]) (rest := []) (lenOf pd_0 rfl) rfl (by show 2 * 0 + _ ≤ _; exact Nat.le_of_eq rfl) (hb hby (d20 10)) (fun _ _ => ⟨rfl, he2, (by decide : 0 + 0 ≤ _), (by decide : 0 + 0 ≤ _)⟩)
  dsimp only [Pt.U, Pt.locs, Pt.cells, Pt.slots] at X3 l3 y3 z3 st3 hQ3
  subst l3 y3 z3
  obtain ⟨rfl, N3q, he3⟩ := hQ3
  have N3 := Fr.app N2 N3q
  refine oT st3 ?_
  show OF _ _ _ _ (T3.setTop (mkF m 17 _ _))
  refine oS (fun _ q => XS.aloadN X3.here hx rfl (hb hby (d20 11)) rfl rfl q) ?_
  show OF _ _ _ _ (T3.setTop (mkF m 18 #[vr a0, vi p1, vi c0, vi (c0 + (own_ssI p1))] [(.ref a0)]))
  show OF _ _ _ _ (T3.setTop (mkF m 18 _ _))
  obtain ⟨cq4, kq4, q4a, q4b, q4c⟩ := isOf hZ he3 X_a0
  obtain ⟨_, _, ⟨T4, L4, k4, n4⟩, -, X4, ⟨Lc4, hQ4, l4, y4, z4⟩, st4⟩ := X3.virtualBack hx (y := yM0) (z := yM0) hown (mvT hZ (w_ hw 79 rfl)) (mvT hZ (w_ hw 80 rfl)) (notFace_of_selects (args := #[]) (mvT hZ (w_ hw 82 rfl))) (mvT hZ (w_ hw 82 rfl)) (mvT hZ (w_ hw 81 rfl)) (by decide) (backOf (W := 0) (rm_isl l Z av0 hw [] a0 w_COMPACT_STRINGS h0 n0 (Nat.le_trans Z0 kp0.1) Ol0 X_a0 F_coder_a0 S_COMPACT_STRINGS hc1) hZ (w_ hw 83 rfl) (w_ hw 47 rfl) (by decide) (by decide)) q4a q4c (g := (mkF m 18 #[vr a0, vi p1, vi c0, vi (c0 + (own_ssI p1))] [(.ref a0)])) rfl (by rw [hml]; rfl) (Steps.refl _) (argsL := []) (rest := []) (lenOf pd_6 rfl) rfl (by show 2 * 0 + _ ≤ _; exact Nat.le_of_eq rfl) (hb hby (d20 12)) (fun _ _ => ⟨rfl, he3, (by decide : 0 + 0 ≤ _), (by decide : 0 + 0 ≤ _)⟩)
  dsimp only [Pt.U, Pt.locs, Pt.cells, Pt.slots] at X4 l4 y4 z4 st4 hQ4
  subst l4 y4 z4
  obtain ⟨rfl, N4q, he4⟩ := hQ4
  have N4 := Fr.app N3 N4q
  refine oT st4 ?_
  show OF _ _ _ _ (T4.setTop (mkF m 21 _ _))
  refine oS (fun _ q => XS.ifNo X4.here hx rfl (hb hby (d20 13)) rfl (Jvm.Free.XT.i0_eq_f (by decide : ¬ ((1 : Int32) = (0 : Int32)))) q) ?_
  show OF _ _ _ _ (T4.setTop (mkF m 24 _ _))
  refine oS (fun _ q => XS.iloadN X4.here hx rfl (hb hby (d20 14)) rfl (XS.iloadN X4.here hx rfl (hb hby (d20 15)) rfl (XS.aloadN X4.here hx rfl (hb hby (d20 16)) rfl rfl q))) ?_
  obtain ⟨T5, X5, e5, st5⟩ := getF X4 hx hZ hown (host := "") (Or.inl (w_ hw 53 rfl)) Via.refl he4 F_value_a0 (g := (mkF m 27 #[vr a0, vi p1, vi c0, vi (c0 + (own_ssI p1))] [(.ref a0), (.int (c0 + (own_ssI p1))), (.int p1)])) rfl rfl (hb hby (d20 17))
  refine oS st5 ?_
  show OF _ _ _ _ (T5.setTop (mkF m 30 _ _))
  obtain ⟨_, _, ⟨T6, L6, k6, n6⟩, -, X6, ⟨Lc6, hQ6, l6, y6, z6⟩, st6⟩ := Jvm.LawKit.callS X5 hx (y := yM13) hown (mvT hZ (w_ hw 150 rfl)) (mvT hZ (w_ hw 151 rfl)) (mvT hZ (w_ hw 89 rfl)) (mvT hZ (w_ hw 152 rfl)) (by decide) (backOf (W := 0) (rm_gcI l Z av0 hw [] p1 (c0 + (own_ssI p1)) b0 k_b0 z0 f0 kO gO w_DigitOnes kT gT w_DigitTens h0 n0 (Nat.le_trans Z0 kp0.1) Ol0 V_b0 VO VT hO hT hn1 S_DigitOnes g_b0 S_DigitTens) hZ (w_ hw 152 rfl) (w_ hw 89 rfl) (by decide) (by decide)) (g := (mkF m 30 #[vr a0, vi p1, vi c0, vi (c0 + (own_ssI p1))] [(.ref b0), (.int (c0 + (own_ssI p1))), (.int p1)])) rfl (by rw [hml]; rfl) (argsL := [(.int p1), (.int (c0 + (own_ssI p1))), (.ref b0)]) (rest := []) (lenOf pd_9 rfl) rfl (by show 2 * 0 + _ ≤ _; exact Nat.le_of_eq rfl) (hb hby (d20 18)) (fun _ _ => ⟨rfl, e5, (by decide : 0 + 0 ≤ _), (by decide : 0 + 0 ≤ _)⟩)
  dsimp only [Pt.U, Pt.locs, Pt.cells, Pt.slots] at X6 l6 y6 z6 st6 hQ6
  subst l6 y6 z6
  obtain ⟨zc6_0, rfl, N6q, K6, r6_0⟩ := hQ6
  have N6 := Fr.app N4 N6q
  refine oS st6 ?_
  obtain ⟨h6, e6⟩ : ∃ z, T6.heap = z := ⟨_, rfl⟩
  rw [e6] at K6 r6_0
  have kp7 : Keep h0 h6 [b0, a0] := kp0.trans K6 (allS (Or.inl (List.mem_of_getElem? (i := 0) rfl)) all0)
  have ol7 : Old Z n0 h6 := Ol0.keep K6 (allS g_b0 all0)
  show OF _ _ _ _ (T6.setTop (mkF m 33 _ _))
  refine oS (fun _ q => XS.pop X6.here hx rfl (hb hby (d20 19)) rfl rfl (XS.goto X6.here hx rfl (pc0 := 34) (pc' := 48) rfl (hb hby (d20 20)) (by decide) (by decide) (XS.aloadN X6.here hx rfl (hb hby (d20 21)) rfl rfl (XS.iloadN X6.here hx rfl (hb hby (d20 22)) rfl q)))) ?_
  obtain ⟨T8, h8, X8, e8, W8, st8⟩ := putF X6 hx hZ hown (host := "") (Or.inl (w_ hw 67 rfl)) Via.refl e6 (F_count_a0.keep K6 (ninS ne_a0_b0 nin0)) (X_a0.keep K6) (Or.inl (w_ hw 68 rfl)) (w_ hw 38 rfl) (ty := .int) (by decide) rfl rfl (g := (mkF m 50 #[vr a0, vi p1, vi c0, vi (c0 + (own_ssI p1))] [(.int (c0 + (own_ssI p1))), (.ref a0)])) rfl rfl (hb hby (d20 23))
  refine oS st8 ?_
  have Fw8 : Fld Z h8 a0 "java/lang/AbstractStringBuilder" "count" "I" (.int (c0 + (own_ssI p1))) := (F_count_a0.keep K6 (ninS ne_a0_b0 nin0)).same W8
  have N8 := Fr.snoc X8 N6 g_a0
  have kp9 : Keep h0 h8 [b0, a0] := kp7.wr W8 (Or.inl (List.mem_of_getElem? (i := 1) rfl))
  have ol9 : Old Z n0 h8 := ol7.wr W8 g_a0
  show OF _ _ _ _ (T8.setTop (mkF m 53 #[vr a0, vi p1, vi c0, vi (c0 + (own_ssI p1))] []))
  refine oS (fun _ q => XS.aloadN X8.here hx rfl (hb hby (d20 24)) rfl rfl q) ?_
  obtain ⟨fs, hr, hrun, hended, hW, hsame⟩ := X8.leave (v := some (.ref a0)) (fun h => by rw [Bd.returns] at h; cases h)
  refine ⟨_, _, retOut X8 hx Bd.returns rfl (Or.inr (Or.inr (Or.inr (Or.inr ⟨rfl, rfl, rfl⟩)))) (hb hby (d20 25)) hr, hrun, hended, _, _, rfl, ?_, ⟨_, rfl⟩, hW, hsame.mono (by decide) (by decide)⟩
  show Q_rm_aIN Z a0 p1 b0 c0 k_b0 z0 f0 kO gO w_DigitOnes kT gT w_DigitTens w_COMPACT_STRINGS h0 n0 _ T8.heap _
  rw [e8]
  have fr10 : Fld Z h8 a0 "java/lang/AbstractStringBuilder" "value" "[B" (.ref b0) := ((F_value_a0.keep K6 (ninS ne_a0_b0 nin0)).other W8 (Or.inr (slot_ne (Or.inl (w_ hw 54 rfl)) (Or.inl (w_ hw 68 rfl)) (by decide) (t := (.array .byte)) (t' := .int) (by decide) (by decide))))
  have fr11 : Fld Z h8 a0 "java/lang/AbstractStringBuilder" "coder" "B" (.int 0) := ((F_coder_a0.keep K6 (ninS ne_a0_b0 nin0)).other W8 (Or.inr (slot_ne (Or.inl (w_ hw 56 rfl)) (Or.inl (w_ hw 68 rfl)) (by decide) (t := .byte) (t' := .int) (by decide) (by decide))))
  exact ⟨rfl, N8, kp9, fr10, fr11, Fw8, (r6_0.other W8 ne_b0_a0)⟩
theorem pd_10 : parseMethodDescriptor "(I)Ljava/lang/AbstractStringBuilder;" = some ⟨[.int], some (.object "java/lang/AbstractStringBuilder")⟩ := by decide +kernel
abbrev C19 := jdk_67_method_15_code
def L19 : List (Nat × Instr × Nat) := [(0, .aload_n 0, 1), (1, .iload_n 1, 1), (2, .invokespecial 53, 3), (5, .pop, 1), (6, .aload_n 0, 1), (7, .areturn, 1)]
theorem d19 : ∀ i : Fin 6, decode C19 (L19.get i).1 = .ok (L19.get i).2 := by decide +kernel
theorem ef_rm_sIN (m : MethodId) (a0 : Addr) (p1 : Int32) : entryFrame m #[(.ref a0), (.int p1)] 2 = mkF m 0 #[.val (.ref a0), .val (.int p1)] [] := by first | (simp [entryFrame, mkF, argsToLocals, Value.category]; done) | rfl
def Q_rm_sIN (Z : State) (a0 : Addr) (p1 : Int32) (b0 : Addr) (c0 : Int32) (k_b0 : ClassId) (z0 : Int32) (f0 : Nat → Int32) (kO : ClassId) (gO : Nat → Int32) (w_DigitOnes : Addr) (kT : ClassId) (gT : Nat → Int32) (w_DigitTens : Addr) (w_COMPACT_STRINGS : Int32) (h0 : Heap) (n0 : Nat) (v : Option Value) (h : Heap) (L : List Loc) : Prop := v = some (.ref a0) ∧ Fr n0 L ∧ Keep h0 h [a0, b0] ∧ Fld Z h a0 "java/lang/AbstractStringBuilder" "value" "[B" (.ref b0) ∧ Fld Z h a0 "java/lang/AbstractStringBuilder" "coder" "B" (.int 0) ∧ Fld Z h a0 "java/lang/AbstractStringBuilder" "count" "I" (.int (c0 + (own_ssI p1))) ∧ Arv Z h b0 k_b0 .byte z0 (own_ml z0 (own_outI p1 (c0 + (own_ssI p1)) f0)) (.int 0)
set_option maxRecDepth 65536 in
set_option maxHeartbeats 40000000 in
theorem rm_sIN (l : Launch) (Z : State) (av0 : Array Value) (hw : ∀ d ∈ tables_1, d.before av0 Z = true) (ws : List Jvm.Cond) (a0 : Addr) (p1 : Int32) (b0 : Addr) (c0 : Int32) (k_b0 : ClassId) (z0 : Int32) (f0 : Nat → Int32) (kO : ClassId) (gO : Nat → Int32) (w_DigitOnes : Addr) (kT : ClassId) (gT : Nat → Int32) (w_DigitTens : Addr) (w_COMPACT_STRINGS : Int32) (h0 : Heap) (n0 : Nat) (Z0 : n0 ≤ h0.size) (Ol0 : Old Z n0 h0) (X_a0 : Exa Z h0 a0 "java/lang/StringBuilder") (F_value_a0 : Fld Z h0 a0 "java/lang/AbstractStringBuilder" "value" "[B" (.ref b0)) (F_coder_a0 : Fld Z h0 a0 "java/lang/AbstractStringBuilder" "coder" "B" (.int 0)) (F_count_a0 : Fld Z h0 a0 "java/lang/AbstractStringBuilder" "count" "I" (.int c0)) (V_b0 : Arv Z h0 b0 k_b0 .byte z0 (own_ml z0 f0) (.int 0)) (X_b0 : Exa Z h0 b0 "[B") (VO : Arv Z Z.heap w_DigitOnes kO .byte (100 : Int32) (own_ml (100 : Int32) gO) (.int 0)) (VT : Arv Z Z.heap w_DigitTens kT .byte (100 : Int32) (own_ml (100 : Int32) gT) (.int 0)) (hO : own_hO gO) (hT : own_hT gT) (hn1 : (own_ssI p1).toInt ≤ (c0 + (own_ssI p1)).toInt ∧ (c0 + (own_ssI p1)).toInt ≤ z0.toInt) (hc0 : ¬ ((0 : Int32) < ((c0 + (own_ssI p1)) - (z0 >>> ((0 : Int32) &&& 31))))) (S_COMPACT_STRINGS : Sta Z Z.heap "java/lang/String" "COMPACT_STRINGS" "Z" (.int w_COMPACT_STRINGS)) (hc1 : ¬ (w_COMPACT_STRINGS = 0)) (S_DigitOnes : Sta Z Z.heap "java/lang/Integer" "DigitOnes" "[B" (.ref w_DigitOnes)) (g_b0 : n0 ≤ b0) (S_DigitTens : Sta Z Z.heap "java/lang/Integer" "DigitTens" "[B" (.ref w_DigitTens)) (ne_a0_b0 : a0 ≠ b0) (g_a0 : n0 ≤ a0) (ne_b0_a0 : b0 ≠ a0) :
    own_MF l Z h0 yM17 (Jvm.Cond.code yM17 jdk_67_method_15_code 2 (some (.object "java/lang/StringBuilder")) :: ws) ({ frames := 2, cells := 0, slots := 0, locals := 33 } : Room) #[(.ref a0), (.int p1)] (Q_rm_sIN Z a0 p1 b0 c0 k_b0 z0 f0 kO gO w_DigitOnes kT gT w_DigitTens w_COMPACT_STRINGS h0 n0) := by
  refine own_ent (own := "java/lang/StringBuilder") (plainFor_of_name pn_2) rfl ?_
  intro p e s m below meth c s₁ Bd hx hby hml hZ hh hown hnm X0 e0
  have N0 := Fr.nil n0
  have kp0 : Keep h0 h0 [a0, b0] := Keep.refl _ _
  refine oS (fun _ q => castTop (ef_rm_sIN m a0 p1) q) ?_
  show OF _ _ _ _ (s₁.setTop (mkF m 0 #[vr a0, vi p1] []))
  refine oS (fun _ q => XS.aloadN X0.here hx rfl (hb hby (d19 0)) rfl rfl (XS.iloadN X0.here hx rfl (hb hby (d19 1)) rfl q)) ?_
  show OF _ _ _ _ (s₁.setTop (mkF m 2 _ _))
  show OF _ _ _ _ (s₁.setTop (mkF m 2 _ _))
  obtain ⟨_, _, ⟨T1, L1, k1, n1⟩, -, X1, ⟨Lc1, hQ1, l1, y1, z1⟩, st1⟩ := superBack X0 hx hZ (y := yM16) hown (w_ hw 143 rfl) (own_same (w_ hw 144 rfl) (own_nfs (y' := yM0) rfl (w_ hw 82 rfl)) (by decide)) (w_ hw 144 rfl) (w_ hw 64 rfl) (by decide) (backOf (W := 0) (rm_aIN l Z av0 hw [] a0 p1 b0 c0 k_b0 z0 f0 kO gO w_DigitOnes kT gT w_DigitTens w_COMPACT_STRINGS h0 n0 (Nat.le_trans Z0 kp0.1) Ol0 X_a0 F_value_a0 F_coder_a0 F_count_a0 V_b0 X_b0 VO VT hO hT hn1 hc0 S_COMPACT_STRINGS hc1 S_DigitOnes g_b0 S_DigitTens ne_a0_b0 g_a0 ne_b0_a0) hZ (w_ hw 146 rfl) (w_ hw 47 rfl) (by decide) (by decide)) e0 (Ins.self X_a0) (g := (mkF m 2 #[vr a0, vi p1] [(.int p1), (.ref a0)])) rfl (by rw [hml]; rfl) (w_ hw 146 rfl) (argsL := [(.int p1)]) (rest := []) (lenOf pd_10 rfl) rfl (by show 2 * 0 + _ ≤ _; exact Nat.le_of_eq rfl) (hb hby (d19 2)) (fun _ _ => ⟨rfl, e0, (by decide : 0 + 0 ≤ _), (by decide : 0 + 0 ≤ _)⟩)
  dsimp only [Pt.U, Pt.locs, Pt.cells, Pt.slots] at X1 l1 y1 z1 st1 hQ1
  subst l1 y1 z1
  obtain ⟨rfl, N1q, K1, r1_0, r1_1, r1_2, r1_3⟩ := hQ1
  have N1 := Fr.app N0 N1q
  refine oT st1 ?_
  obtain ⟨h1, e1⟩ : ∃ z, T1.heap = z := ⟨_, rfl⟩
  rw [e1] at K1 r1_0 r1_1 r1_2 r1_3
  have kp2 : Keep h0 h1 [a0, b0] := kp0.trans K1 (allS (Or.inl (List.mem_of_getElem? (i := 1) rfl)) (allS (Or.inl (List.mem_of_getElem? (i := 0) rfl)) all0))
  have ol2 : Old Z n0 h1 := Ol0.keep K1 (allS g_b0 (allS g_a0 all0))
  show OF _ _ _ _ (T1.setTop (mkF m 5 _ _))
  refine oS (fun _ q => XS.pop X1.here hx rfl (hb hby (d19 3)) rfl rfl (XS.aloadN X1.here hx rfl (hb hby (d19 4)) rfl rfl q)) ?_
  obtain ⟨fs, hr, hrun, hended, hW, hsame⟩ := X1.leave (v := some (.ref a0)) (fun h => by rw [Bd.returns] at h; cases h)
  refine ⟨_, _, retOut X1 hx Bd.returns rfl (Or.inr (Or.inr (Or.inr (Or.inr ⟨rfl, rfl, rfl⟩)))) (hb hby (d19 5)) hr, hrun, hended, _, _, rfl, ?_, ⟨_, rfl⟩, hW, hsame.mono (by decide) (by decide)⟩
  show Q_rm_sIN Z a0 p1 b0 c0 k_b0 z0 f0 kO gO w_DigitOnes kT gT w_DigitTens w_COMPACT_STRINGS h0 n0 _ T1.heap _
  rw [e1]
  exact ⟨rfl, N1, kp2, r1_0, r1_1, r1_2, r1_3⟩
theorem ef_rm_aIY (m : MethodId) (a0 : Addr) (p1 : Int32) : entryFrame m #[(.ref a0), (.int p1)] 4 = mkF m 0 #[.val (.ref a0), .val (.int p1), .unset, .unset] [] := by first | (simp [entryFrame, mkF, argsToLocals, Value.category]; done) | rfl
def Q_rm_aIY (Z : State) (a0 : Addr) (p1 : Int32) (b0 : Addr) (c0 : Int32) (k_b0 : ClassId) (f0 : Nat → Int32) (kO : ClassId) (gO : Nat → Int32) (w_DigitOnes : Addr) (kT : ClassId) (gT : Nat → Int32) (w_DigitTens : Addr) (w_COMPACT_STRINGS : Int32) (h0 : Heap) (n0 : Nat) (v : Option Value) (h : Heap) (L : List Loc) : Prop := ∃ c3_0 : Addr, ∃ kc3_1 : ClassId, v = some (.ref a0) ∧ Fr n0 L ∧ Keep h0 h [a0] ∧ h0.size ≤ c3_0 ∧ Fld Z h a0 "java/lang/AbstractStringBuilder" "value" "[B" (.ref c3_0) ∧ Fld Z h a0 "java/lang/AbstractStringBuilder" "coder" "B" (.int 0) ∧ Fld Z h a0 "java/lang/AbstractStringBuilder" "count" "I" (.int (c0 + (own_ssI p1))) ∧ Exa Z h c3_0 "[B" ∧ Arv Z h c3_0 kc3_1 .byte (34 : Int32) (own_ml (34 : Int32) (own_outI p1 (c0 + (own_ssI p1)) f0)) (.int 0)
set_option maxRecDepth 65536 in
set_option maxHeartbeats 40000000 in
theorem rm_aIY (l : Launch) (Z : State) (av0 : Array Value) (hw : ∀ d ∈ tables_1, d.before av0 Z = true) (ws : List Jvm.Cond) (a0 : Addr) (p1 : Int32) (b0 : Addr) (c0 : Int32) (k_b0 : ClassId) (f0 : Nat → Int32) (kO : ClassId) (gO : Nat → Int32) (w_DigitOnes : Addr) (kT : ClassId) (gT : Nat → Int32) (w_DigitTens : Addr) (w_COMPACT_STRINGS : Int32) (h0 : Heap) (n0 : Nat) (Z0 : n0 ≤ h0.size) (Ol0 : Old Z n0 h0) (X_a0 : Exa Z h0 a0 "java/lang/StringBuilder") (F_value_a0 : Fld Z h0 a0 "java/lang/AbstractStringBuilder" "value" "[B" (.ref b0)) (F_coder_a0 : Fld Z h0 a0 "java/lang/AbstractStringBuilder" "coder" "B" (.int 0)) (F_count_a0 : Fld Z h0 a0 "java/lang/AbstractStringBuilder" "count" "I" (.int c0)) (V_b0 : Arv Z h0 b0 k_b0 .byte (16 : Int32) (own_ml (16 : Int32) f0) (.int 0)) (X_b0 : Exa Z h0 b0 "[B") (VO : Arv Z Z.heap w_DigitOnes kO .byte (100 : Int32) (own_ml (100 : Int32) gO) (.int 0)) (VT : Arv Z Z.heap w_DigitTens kT .byte (100 : Int32) (own_ml (100 : Int32) gT) (.int 0)) (hO : own_hO gO) (hT : own_hT gT) (hn1 : (own_ssI p1).toInt ≤ (c0 + (own_ssI p1)).toInt ∧ (c0 + (own_ssI p1)).toInt ≤ (34 : Int32).toInt) (hpp : 16 < (c0 + (own_ssI p1)).toInt ∧ (c0 + (own_ssI p1)).toInt ≤ 34) (hf : ∀ i, 16 ≤ i → f0 i = 0) (hc0 : (0 : Int32) < ((c0 + (own_ssI p1)) - ((16 : Int32) >>> ((0 : Int32) &&& 31)))) (g_a0 : n0 ≤ a0) (S_COMPACT_STRINGS : Sta Z Z.heap "java/lang/String" "COMPACT_STRINGS" "Z" (.int w_COMPACT_STRINGS)) (hc1 : ¬ (w_COMPACT_STRINGS = 0)) (S_DigitOnes : Sta Z Z.heap "java/lang/Integer" "DigitOnes" "[B" (.ref w_DigitOnes)) (S_DigitTens : Sta Z Z.heap "java/lang/Integer" "DigitTens" "[B" (.ref w_DigitTens)) :
    own_MF l Z h0 yM16 (Jvm.Cond.code yM16 jdk_68_method_32_code 4 (some (.object "java/lang/AbstractStringBuilder")) :: ws) ({ frames := 4, cells := 1, slots := 34, locals := 69 } : Room) #[(.ref a0), (.int p1)] (Q_rm_aIY Z a0 p1 b0 c0 k_b0 f0 kO gO w_DigitOnes kT gT w_DigitTens w_COMPACT_STRINGS h0 n0) := by
  refine own_ent (own := "java/lang/AbstractStringBuilder") (plainFor_of_name pn_1) rfl ?_
  intro p e s m below meth c s₁ Bd hx hby hml hZ hh hown hnm X0 e0
  have N0 := Fr.nil n0
  have kp0 : Keep h0 h0 [a0] := Keep.refl _ _
  refine oS (fun _ q => castTop (ef_rm_aIY m a0 p1) q) ?_
  show OF _ _ _ _ (s₁.setTop (mkF m 0 #[vr a0, vi p1, .unset, .unset] []))
  refine oS (fun _ q => XS.aloadN X0.here hx rfl (hb hby (d20 0)) rfl rfl q) ?_
  obtain ⟨T1, X1, e1, st1⟩ := getF X0 hx hZ hown (host := "") (Or.inl (w_ hw 67 rfl)) Via.refl e0 F_count_a0 (g := (mkF m 1 #[vr a0, vi p1, .unset, .unset] [(.ref a0)])) rfl rfl (hb hby (d20 1))
  refine oS st1 ?_
  show OF _ _ _ _ (T1.setTop (mkF m 4 _ _))
  refine oS (fun _ q => XS.istoreN X1.here hx rfl (hb hby (d20 2)) rfl (l' := #[vr a0, vi p1, vi c0, .unset]) rfl (XS.iloadN X1.here hx rfl (hb hby (d20 3)) rfl (XS.iloadN X1.here hx rfl (hb hby (d20 4)) rfl q))) ?_
  obtain ⟨_, _, ⟨T2, L2, k2, n2⟩, -, X2, ⟨Lc2, hQ2, l2, y2, z2⟩, st2⟩ := Jvm.LawKit.callS X1 hx (y := yM5) hown (mvT hZ (w_ hw 147 rfl)) (mvT hZ (w_ hw 148 rfl)) (mvT hZ (w_ hw 89 rfl)) (mvT hZ (w_ hw 149 rfl)) (by decide) (backOf (W := 1) (rm_ssI l Z av0 hw [] p1 h0 n0 (Nat.le_trans Z0 kp0.1) ) hZ (w_ hw 149 rfl) (w_ hw 89 rfl) (by decide) (by decide)) (g := (mkF m 7 #[vr a0, vi p1, vi c0, .unset] [(.int p1), (.int c0)])) rfl (by rw [hml]; rfl) (argsL := [(.int p1)]) (rest := [(.int c0)]) (lenOf pd_3 rfl) rfl (by show 2 * 0 + _ ≤ _; exact Nat.le_of_eq rfl) (hb hby (d20 5)) (fun _ _ => ⟨rfl, e1, (by decide : 0 + 0 ≤ _), (by decide : 0 + 0 ≤ _)⟩)
  dsimp only [Pt.U, Pt.locs, Pt.cells, Pt.slots] at X2 l2 y2 z2 st2 hQ2
  subst l2 y2 z2
  obtain ⟨rfl, N2q, he2⟩ := hQ2
  have N2 := Fr.app N0 N2q
  refine oS st2 ?_
  show OF _ _ _ _ (T2.setTop (mkF m 10 _ _))
  refine oS (fun _ q => XS.iadd X2.here hx rfl (hb hby (d20 6)) rfl (XS.istoreN X2.here hx rfl (hb hby (d20 7)) rfl (l' := #[vr a0, vi p1, vi c0, vi (c0 + (own_ssI p1))]) rfl (XS.aloadN X2.here hx rfl (hb hby (d20 8)) rfl rfl (XS.iloadN X2.here hx rfl (hb hby (d20 9)) rfl q)))) ?_
  show OF _ _ _ _ (T2.setTop (mkF m 14 _ _))
  obtain ⟨cq3, q3, q3'⟩ := X_a0.cell
  obtain ⟨_, _, ⟨T3, L3, k3, n3⟩, -, X3, ⟨Lc3, hQ3, l3, y3, z3⟩, st3⟩ := X2.privateBack hx (y := yM11) hown (mvT hZ (w_ hw 74 rfl)) (mvT hZ (w_ hw 75 rfl)) (mvT hZ (own_selp (w_ hw 75 rfl) (own_nfs (y' := yM0) rfl (w_ hw 82 rfl)) (Cond.privateMethod_at (w_ hw 76 rfl)) (by decide))) (Cond.privateMethod_at (mvP hZ (w_ hw 76 rfl) (args := #[]))) (mvT hZ (w_ hw 78 rfl)) (by decide) (backOf (W := 0) (rm_ecY l Z av0 hw [] a0 (c0 + (own_ssI p1)) b0 c0 k_b0 f0 h0 n0 (Nat.le_trans Z0 kp0.1) X_a0 F_value_a0 F_coder_a0 F_count_a0 V_b0 X_b0 hpp hf hc0 g_a0) hZ (w_ hw 78 rfl) (w_ hw 47 rfl) (by decide) (by decide)) (g := (mkF m 14 #[vr a0, vi p1, vi c0, vi (c0 + (own_ssI p1))] [(.int (c0 + (own_ssI p1))), (.ref a0)])) rfl (by rw [hml]; rfl) (Steps.refl _) (a := a0) (by rw [he2]; exact q3) q3' (argsL := [(.int (c0 + (own_ssI p1)))]) (rest := []) (lenOf pd_0 rfl) rfl (by show 2 * 0 + _ ≤ _; exact Nat.le_of_eq rfl) (hb hby (d20 10)) (fun _ _ => ⟨rfl, he2, (by decide : 0 + 1 ≤ _), (by decide : 0 + 34 ≤ _)⟩)
  dsimp only [Pt.U, Pt.locs, Pt.cells, Pt.slots] at X3 l3 y3 z3 st3 hQ3
  subst l3 y3 z3
  obtain ⟨c3_0, kc3_1, rfl, N3q, K3, r3_0, r3_1, r3_2, r3_3, r3_4, r3_5⟩ := hQ3
  have N3 := Fr.app N2 N3q
  refine oT st3 ?_
  obtain ⟨h3, e3⟩ : ∃ z, T3.heap = z := ⟨_, rfl⟩
  rw [e3] at K3 r3_1 r3_2 r3_3 r3_4 r3_5
  have bi_c3_0 : h0.size ≤ c3_0 := r3_0
  have lo_c3_0 : h0.size ≤ c3_0 := Nat.le_trans kp0.1 bi_c3_0
  have g_c3_0 : n0 ≤ c3_0 := Nat.le_trans Z0 lo_c3_0
  have kp4 : Keep h0 h3 [a0] := kp0.trans K3 (allS (Or.inl (List.mem_of_getElem? (i := 0) rfl)) all0)
  have ol4 : Old Z n0 h3 := Ol0.keep K3 (allS g_a0 all0)
  show OF _ _ _ _ (T3.setTop (mkF m 17 _ _))
  refine oS (fun _ q => XS.aloadN X3.here hx rfl (hb hby (d20 11)) rfl rfl q) ?_
  show OF _ _ _ _ (T3.setTop (mkF m 18 #[vr a0, vi p1, vi c0, vi (c0 + (own_ssI p1))] [(.ref a0)]))
  show OF _ _ _ _ (T3.setTop (mkF m 18 _ _))
  obtain ⟨cq5, kq5, q5a, q5b, q5c⟩ := isOf hZ e3 (X_a0.keep K3)
  obtain ⟨_, _, ⟨T5, L5, k5, n5⟩, -, X5, ⟨Lc5, hQ5, l5, y5, z5⟩, st5⟩ := X3.virtualBack hx (y := yM0) (z := yM0) hown (mvT hZ (w_ hw 79 rfl)) (mvT hZ (w_ hw 80 rfl)) (notFace_of_selects (args := #[]) (mvT hZ (w_ hw 82 rfl))) (mvT hZ (w_ hw 82 rfl)) (mvT hZ (w_ hw 81 rfl)) (by decide) (backOf (W := 0) (rm_isl l Z av0 hw [] a0 w_COMPACT_STRINGS h3 n0 (Nat.le_trans Z0 kp4.1) ol4 (X_a0.keep K3) r3_2 S_COMPACT_STRINGS hc1) hZ (w_ hw 83 rfl) (w_ hw 47 rfl) (by decide) (by decide)) q5a q5c (g := (mkF m 18 #[vr a0, vi p1, vi c0, vi (c0 + (own_ssI p1))] [(.ref a0)])) rfl (by rw [hml]; rfl) (Steps.refl _) (argsL := []) (rest := []) (lenOf pd_6 rfl) rfl (by show 2 * 0 + _ ≤ _; exact Nat.le_of_eq rfl) (hb hby (d20 12)) (fun _ _ => ⟨rfl, e3, (by decide : 1 + 0 ≤ _), (by decide : 34 + 0 ≤ _)⟩)
  dsimp only [Pt.U, Pt.locs, Pt.cells, Pt.slots] at X5 l5 y5 z5 st5 hQ5
  subst l5 y5 z5
  obtain ⟨rfl, N5q, he5⟩ := hQ5
  have N5 := Fr.app N3 N5q
  refine oT st5 ?_
  show OF _ _ _ _ (T5.setTop (mkF m 21 _ _))
  refine oS (fun _ q => XS.ifNo X5.here hx rfl (hb hby (d20 13)) rfl (Jvm.Free.XT.i0_eq_f (by decide : ¬ ((1 : Int32) = (0 : Int32)))) q) ?_
  show OF _ _ _ _ (T5.setTop (mkF m 24 _ _))
  refine oS (fun _ q => XS.iloadN X5.here hx rfl (hb hby (d20 14)) rfl (XS.iloadN X5.here hx rfl (hb hby (d20 15)) rfl (XS.aloadN X5.here hx rfl (hb hby (d20 16)) rfl rfl q))) ?_
  obtain ⟨T6, X6, e6, st6⟩ := getF X5 hx hZ hown (host := "") (Or.inl (w_ hw 53 rfl)) Via.refl he5 r3_1 (g := (mkF m 27 #[vr a0, vi p1, vi c0, vi (c0 + (own_ssI p1))] [(.ref a0), (.int (c0 + (own_ssI p1))), (.int p1)])) rfl rfl (hb hby (d20 17))
  refine oS st6 ?_
  show OF _ _ _ _ (T6.setTop (mkF m 30 _ _))
  obtain ⟨_, _, ⟨T7, L7, k7, n7⟩, -, X7, ⟨Lc7, hQ7, l7, y7, z7⟩, st7⟩ := Jvm.LawKit.callS X6 hx (y := yM13) hown (mvT hZ (w_ hw 150 rfl)) (mvT hZ (w_ hw 151 rfl)) (mvT hZ (w_ hw 89 rfl)) (mvT hZ (w_ hw 152 rfl)) (by decide) (backOf (W := 0) (rm_gcI l Z av0 hw [] p1 (c0 + (own_ssI p1)) c3_0 kc3_1 (34 : Int32) f0 kO gO w_DigitOnes kT gT w_DigitTens h3 n0 (Nat.le_trans Z0 kp4.1) ol4 r3_4 VO VT hO hT hn1 S_DigitOnes g_c3_0 S_DigitTens) hZ (w_ hw 152 rfl) (w_ hw 89 rfl) (by decide) (by decide)) (g := (mkF m 30 #[vr a0, vi p1, vi c0, vi (c0 + (own_ssI p1))] [(.ref c3_0), (.int (c0 + (own_ssI p1))), (.int p1)])) rfl (by rw [hml]; rfl) (argsL := [(.int p1), (.int (c0 + (own_ssI p1))), (.ref c3_0)]) (rest := []) (lenOf pd_9 rfl) rfl (by show 2 * 0 + _ ≤ _; exact Nat.le_of_eq rfl) (hb hby (d20 18)) (fun _ _ => ⟨rfl, e6, (by decide : 1 + 0 ≤ _), (by decide : 34 + 0 ≤ _)⟩)
  dsimp only [Pt.U, Pt.locs, Pt.cells, Pt.slots] at X7 l7 y7 z7 st7 hQ7
  subst l7 y7 z7
  obtain ⟨zc7_0, rfl, N7q, K7, r7_0⟩ := hQ7
  have N7 := Fr.app N5 N7q
  refine oS st7 ?_
  obtain ⟨h7, e7⟩ : ∃ z, T7.heap = z := ⟨_, rfl⟩
  rw [e7] at K7 r7_0
  have kp8 : Keep h0 h7 [a0] := kp4.trans K7 (allS (Or.inr lo_c3_0) all0)
  have ol8 : Old Z n0 h7 := ol4.keep K7 (allS g_c3_0 all0)
  show OF _ _ _ _ (T7.setTop (mkF m 33 _ _))
  refine oS (fun _ q => XS.pop X7.here hx rfl (hb hby (d20 19)) rfl rfl (XS.goto X7.here hx rfl (pc0 := 34) (pc' := 48) rfl (hb hby (d20 20)) (by decide) (by decide) (XS.aloadN X7.here hx rfl (hb hby (d20 21)) rfl rfl (XS.iloadN X7.here hx rfl (hb hby (d20 22)) rfl q)))) ?_
  have fr9 : Fld Z h7 a0 "java/lang/AbstractStringBuilder" "count" "I" (.int c0) := (r3_3.keep K7 (ninS (Nat.ne_of_lt (Nat.lt_of_lt_of_le X_a0.lt bi_c3_0)) nin0))
  obtain ⟨T10, h10, X10, e10, W10, st10⟩ := putF X7 hx hZ hown (host := "") (Or.inl (w_ hw 67 rfl)) Via.refl e7 fr9 ((X_a0.keep K3).keep K7) (Or.inl (w_ hw 68 rfl)) (w_ hw 38 rfl) (ty := .int) (by decide) rfl rfl (g := (mkF m 50 #[vr a0, vi p1, vi c0, vi (c0 + (own_ssI p1))] [(.int (c0 + (own_ssI p1))), (.ref a0)])) rfl rfl (hb hby (d20 23))
  refine oS st10 ?_
  have Fw10 : Fld Z h10 a0 "java/lang/AbstractStringBuilder" "count" "I" (.int (c0 + (own_ssI p1))) := (r3_3.keep K7 (ninS (Nat.ne_of_lt (Nat.lt_of_lt_of_le X_a0.lt bi_c3_0)) nin0)).same W10
  have N10 := Fr.snoc X10 N7 g_a0
  have kp11 : Keep h0 h10 [a0] := kp8.wr W10 (Or.inl (List.mem_of_getElem? (i := 0) rfl))
  have ol11 : Old Z n0 h10 := ol8.wr W10 g_a0
  show OF _ _ _ _ (T10.setTop (mkF m 53 #[vr a0, vi p1, vi c0, vi (c0 + (own_ssI p1))] []))
  refine oS (fun _ q => XS.aloadN X10.here hx rfl (hb hby (d20 24)) rfl rfl q) ?_
  obtain ⟨fs, hr, hrun, hended, hW, hsame⟩ := X10.leave (v := some (.ref a0)) (fun h => by rw [Bd.returns] at h; cases h)
  refine ⟨_, _, retOut X10 hx Bd.returns rfl (Or.inr (Or.inr (Or.inr (Or.inr ⟨rfl, rfl, rfl⟩)))) (hb hby (d20 25)) hr, hrun, hended, _, _, rfl, ?_, ⟨_, rfl⟩, hW, hsame.mono (by decide) (by decide)⟩
  show Q_rm_aIY Z a0 p1 b0 c0 k_b0 f0 kO gO w_DigitOnes kT gT w_DigitTens w_COMPACT_STRINGS h0 n0 _ T10.heap _
  rw [e10]
  have fr12 : Fld Z h10 a0 "java/lang/AbstractStringBuilder" "value" "[B" (.ref c3_0) := ((r3_1.keep K7 (ninS (Nat.ne_of_lt (Nat.lt_of_lt_of_le X_a0.lt bi_c3_0)) nin0)).other W10 (Or.inr (slot_ne (Or.inl (w_ hw 54 rfl)) (Or.inl (w_ hw 68 rfl)) (by decide) (t := (.array .byte)) (t' := .int) (by decide) (by decide))))
  have fr13 : Fld Z h10 a0 "java/lang/AbstractStringBuilder" "coder" "B" (.int 0) := ((r3_2.keep K7 (ninS (Nat.ne_of_lt (Nat.lt_of_lt_of_le X_a0.lt bi_c3_0)) nin0)).other W10 (Or.inr (slot_ne (Or.inl (w_ hw 56 rfl)) (Or.inl (w_ hw 68 rfl)) (by decide) (t := .byte) (t' := .int) (by decide) (by decide))))
  have fr14 : Arv Z h10 c3_0 kc3_1 .byte (34 : Int32) (own_ml (34 : Int32) (own_outI p1 (c0 + (own_ssI p1)) f0)) (.int 0) := (r7_0.other W10 (Ne.symm (Nat.ne_of_lt (Nat.lt_of_lt_of_le X_a0.lt bi_c3_0))))
  exact ⟨c3_0, kc3_1, rfl, N10, kp11, lo_c3_0, fr12, fr13, Fw10, ((r3_5.keep K7).wr W10), fr14⟩
theorem ef_rm_sIY (m : MethodId) (a0 : Addr) (p1 : Int32) : entryFrame m #[(.ref a0), (.int p1)] 2 = mkF m 0 #[.val (.ref a0), .val (.int p1)] [] := by first | (simp [entryFrame, mkF, argsToLocals, Value.category]; done) | rfl
def Q_rm_sIY (Z : State) (a0 : Addr) (p1 : Int32) (b0 : Addr) (c0 : Int32) (k_b0 : ClassId) (f0 : Nat → Int32) (kO : ClassId) (gO : Nat → Int32) (w_DigitOnes : Addr) (kT : ClassId) (gT : Nat → Int32) (w_DigitTens : Addr) (w_COMPACT_STRINGS : Int32) (h0 : Heap) (n0 : Nat) (v : Option Value) (h : Heap) (L : List Loc) : Prop := ∃ c1_0 : Addr, ∃ kc1_1 : ClassId, v = some (.ref a0) ∧ Fr n0 L ∧ Keep h0 h [a0] ∧ h0.size ≤ c1_0 ∧ Fld Z h a0 "java/lang/AbstractStringBuilder" "value" "[B" (.ref c1_0) ∧ Fld Z h a0 "java/lang/AbstractStringBuilder" "coder" "B" (.int 0) ∧ Fld Z h a0 "java/lang/AbstractStringBuilder" "count" "I" (.int (c0 + (own_ssI p1))) ∧ Exa Z h c1_0 "[B" ∧ Arv Z h c1_0 kc1_1 .byte (34 : Int32) (own_ml (34 : Int32) (own_outI p1 (c0 + (own_ssI p1)) f0)) (.int 0)
set_option maxRecDepth 65536 in
set_option maxHeartbeats 40000000 in
theorem rm_sIY (l : Launch) (Z : State) (av0 : Array Value) (hw : ∀ d ∈ tables_1, d.before av0 Z = true) (ws : List Jvm.Cond) (a0 : Addr) (p1 : Int32) (b0 : Addr) (c0 : Int32) (k_b0 : ClassId) (f0 : Nat → Int32) (kO : ClassId) (gO : Nat → Int32) (w_DigitOnes : Addr) (kT : ClassId) (gT : Nat → Int32) (w_DigitTens : Addr) (w_COMPACT_STRINGS : Int32) (h0 : Heap) (n0 : Nat) (Z0 : n0 ≤ h0.size) (Ol0 : Old Z n0 h0) (X_a0 : Exa Z h0 a0 "java/lang/StringBuilder") (F_value_a0 : Fld Z h0 a0 "java/lang/AbstractStringBuilder" "value" "[B" (.ref b0)) (F_coder_a0 : Fld Z h0 a0 "java/lang/AbstractStringBuilder" "coder" "B" (.int 0)) (F_count_a0 : Fld Z h0 a0 "java/lang/AbstractStringBuilder" "count" "I" (.int c0)) (V_b0 : Arv Z h0 b0 k_b0 .byte (16 : Int32) (own_ml (16 : Int32) f0) (.int 0)) (X_b0 : Exa Z h0 b0 "[B") (VO : Arv Z Z.heap w_DigitOnes kO .byte (100 : Int32) (own_ml (100 : Int32) gO) (.int 0)) (VT : Arv Z Z.heap w_DigitTens kT .byte (100 : Int32) (own_ml (100 : Int32) gT) (.int 0)) (hO : own_hO gO) (hT : own_hT gT) (hn1 : (own_ssI p1).toInt ≤ (c0 + (own_ssI p1)).toInt ∧ (c0 + (own_ssI p1)).toInt ≤ (34 : Int32).toInt) (hpp : 16 < (c0 + (own_ssI p1)).toInt ∧ (c0 + (own_ssI p1)).toInt ≤ 34) (hf : ∀ i, 16 ≤ i → f0 i = 0) (hc0 : (0 : Int32) < ((c0 + (own_ssI p1)) - ((16 : Int32) >>> ((0 : Int32) &&& 31)))) (g_a0 : n0 ≤ a0) (S_COMPACT_STRINGS : Sta Z Z.heap "java/lang/String" "COMPACT_STRINGS" "Z" (.int w_COMPACT_STRINGS)) (hc1 : ¬ (w_COMPACT_STRINGS = 0)) (S_DigitOnes : Sta Z Z.heap "java/lang/Integer" "DigitOnes" "[B" (.ref w_DigitOnes)) (S_DigitTens : Sta Z Z.heap "java/lang/Integer" "DigitTens" "[B" (.ref w_DigitTens)) :
    own_MF l Z h0 yM17 (Jvm.Cond.code yM17 jdk_67_method_15_code 2 (some (.object "java/lang/StringBuilder")) :: ws) ({ frames := 5, cells := 1, slots := 34, locals := 84 } : Room) #[(.ref a0), (.int p1)] (Q_rm_sIY Z a0 p1 b0 c0 k_b0 f0 kO gO w_DigitOnes kT gT w_DigitTens w_COMPACT_STRINGS h0 n0) := by
  refine own_ent (own := "java/lang/StringBuilder") (plainFor_of_name pn_2) rfl ?_
  intro p e s m below meth c s₁ Bd hx hby hml hZ hh hown hnm X0 e0
  have N0 := Fr.nil n0
  have kp0 : Keep h0 h0 [a0] := Keep.refl _ _
  refine oS (fun _ q => castTop (ef_rm_sIY m a0 p1) q) ?_
  show OF _ _ _ _ (s₁.setTop (mkF m 0 #[vr a0, vi p1] []))
  refine oS (fun _ q => XS.aloadN X0.here hx rfl (hb hby (d19 0)) rfl rfl (XS.iloadN X0.here hx rfl (hb hby (d19 1)) rfl q)) ?_
  show OF _ _ _ _ (s₁.setTop (mkF m 2 _ _))
  show OF _ _ _ _ (s₁.setTop (mkF m 2 _ _))
  obtain ⟨_, _, ⟨T1, L1, k1, n1⟩, -, X1, ⟨Lc1, hQ1, l1, y1, z1⟩, st1⟩ := superBack X0 hx hZ (y := yM16) hown (w_ hw 143 rfl) (own_same (w_ hw 144 rfl) (own_nfs (y' := yM0) rfl (w_ hw 82 rfl)) (by decide)) (w_ hw 144 rfl) (w_ hw 64 rfl) (by decide) (backOf (W := 0) (rm_aIY l Z av0 hw [] a0 p1 b0 c0 k_b0 f0 kO gO w_DigitOnes kT gT w_DigitTens w_COMPACT_STRINGS h0 n0 (Nat.le_trans Z0 kp0.1) Ol0 X_a0 F_value_a0 F_coder_a0 F_count_a0 V_b0 X_b0 VO VT hO hT hn1 hpp hf hc0 g_a0 S_COMPACT_STRINGS hc1 S_DigitOnes S_DigitTens) hZ (w_ hw 146 rfl) (w_ hw 47 rfl) (by decide) (by decide)) e0 (Ins.self X_a0) (g := (mkF m 2 #[vr a0, vi p1] [(.int p1), (.ref a0)])) rfl (by rw [hml]; rfl) (w_ hw 146 rfl) (argsL := [(.int p1)]) (rest := []) (lenOf pd_10 rfl) rfl (by show 2 * 0 + _ ≤ _; exact Nat.le_of_eq rfl) (hb hby (d19 2)) (fun _ _ => ⟨rfl, e0, (by decide : 0 + 1 ≤ _), (by decide : 0 + 34 ≤ _)⟩)
  dsimp only [Pt.U, Pt.locs, Pt.cells, Pt.slots] at X1 l1 y1 z1 st1 hQ1
  subst l1 y1 z1
  obtain ⟨c1_0, kc1_1, rfl, N1q, K1, r1_0, r1_1, r1_2, r1_3, r1_4, r1_5⟩ := hQ1
  have N1 := Fr.app N0 N1q
  refine oT st1 ?_
  obtain ⟨h1, e1⟩ : ∃ z, T1.heap = z := ⟨_, rfl⟩
  rw [e1] at K1 r1_1 r1_2 r1_3 r1_4 r1_5
  have bi_c1_0 : h0.size ≤ c1_0 := r1_0
  have lo_c1_0 : h0.size ≤ c1_0 := Nat.le_trans kp0.1 bi_c1_0
  have g_c1_0 : n0 ≤ c1_0 := Nat.le_trans Z0 lo_c1_0
  have kp2 : Keep h0 h1 [a0] := kp0.trans K1 (allS (Or.inl (List.mem_of_getElem? (i := 0) rfl)) all0)
  have ol2 : Old Z n0 h1 := Ol0.keep K1 (allS g_a0 all0)
  show OF _ _ _ _ (T1.setTop (mkF m 5 _ _))
  refine oS (fun _ q => XS.pop X1.here hx rfl (hb hby (d19 3)) rfl rfl (XS.aloadN X1.here hx rfl (hb hby (d19 4)) rfl rfl q)) ?_
  obtain ⟨fs, hr, hrun, hended, hW, hsame⟩ := X1.leave (v := some (.ref a0)) (fun h => by rw [Bd.returns] at h; cases h)
  refine ⟨_, _, retOut X1 hx Bd.returns rfl (Or.inr (Or.inr (Or.inr (Or.inr ⟨rfl, rfl, rfl⟩)))) (hb hby (d19 5)) hr, hrun, hended, _, _, rfl, ?_, ⟨_, rfl⟩, hW, hsame.mono (by decide) (by decide)⟩
  show Q_rm_sIY Z a0 p1 b0 c0 k_b0 f0 kO gO w_DigitOnes kT gT w_DigitTens w_COMPACT_STRINGS h0 n0 _ T1.heap _
  rw [e1]
  exact ⟨c1_0, kc1_1, rfl, N1, kp2, lo_c1_0, r1_1, r1_2, r1_3, r1_4, r1_5⟩
abbrev C15 := jdk_42_method_152_code
def L15 : List (Nat × Instr × Nat) := [(0, .getstatic 38, 3), (3, .ifCond .eq 10, 3), (6, .aload_n 0, 1), (7, .getfield 15, 3), (10, .goto 4, 3), (14, .ireturn, 1)]
theorem d15 : ∀ i : Fin 6, decode C15 (L15.get i).1 = .ok (L15.get i).2 := by decide +kernel
theorem pn_7 : plainName "java/lang/String" = true := by first | (simp [plainName, overriddenIn]; done) | decide +kernel
theorem ef_rm_cod (m : MethodId) (a0 : Addr) : entryFrame m #[(.ref a0)] 1 = mkF m 0 #[.val (.ref a0)] [] := by first | (simp [entryFrame, mkF, argsToLocals, Value.category]; done) | rfl
def Q_rm_cod (Z : State) (a0 : Addr) (w_COMPACT_STRINGS : Int32) (h0 : Heap) (n0 : Nat) (v : Option Value) (h : Heap) (L : List Loc) : Prop := v = some (.int 0) ∧ Fr n0 L ∧ h = h0
set_option maxRecDepth 65536 in
set_option maxHeartbeats 40000000 in
theorem rm_cod (l : Launch) (Z : State) (av0 : Array Value) (hw : ∀ d ∈ tables_1, d.before av0 Z = true) (ws : List Jvm.Cond) (a0 : Addr) (w_COMPACT_STRINGS : Int32) (h0 : Heap) (n0 : Nat) (Z0 : n0 ≤ h0.size) (Ol0 : Old Z n0 h0) (F_coder_a0 : Fld Z h0 a0 "java/lang/String" "coder" "B" (.int 0)) (S_COMPACT_STRINGS : Sta Z Z.heap "java/lang/String" "COMPACT_STRINGS" "Z" (.int w_COMPACT_STRINGS)) (hc0 : ¬ (w_COMPACT_STRINGS = 0)) :
    own_MF l Z h0 yM18 (Jvm.Cond.code yM18 jdk_42_method_152_code 1 (some .byte) :: ws) ({ frames := 0, cells := 0, slots := 0, locals := 0 } : Room) #[(.ref a0)] (Q_rm_cod Z a0 w_COMPACT_STRINGS h0 n0) := by
  refine own_ent (own := "java/lang/String") (plainFor_of_name pn_7) rfl ?_
  intro p e s m below meth c s₁ Bd hx hby hml hZ hh hown hnm X0 e0
  have N0 := Fr.nil n0
  have kp0 : Keep h0 h0 [] := Keep.refl _ _
  refine oS (fun _ q => castTop (ef_rm_cod m a0) q) ?_
  show OF _ _ _ _ (s₁.setTop (mkF m 0 #[vr a0] []))
  obtain ⟨T1, X1, e1, st1⟩ := getS2 X0 hx hZ hown (host := "") (Or.inl (w_ hw 116 rfl)) Via.refl e0 (S_COMPACT_STRINGS.ext Ol0.2) (g := (mkF m 0 #[vr a0] [])) rfl (hb hby (d15 0))
  refine oS st1 ?_
  show OF _ _ _ _ (T1.setTop (mkF m 3 _ _))
  refine oS (fun _ q => XS.ifNo X1.here hx rfl (hb hby (d15 1)) rfl (Jvm.Free.XT.i0_eq_f hc0) q) ?_
  show OF _ _ _ _ (T1.setTop (mkF m 6 _ _))
  refine oS (fun _ q => XS.aloadN X1.here hx rfl (hb hby (d15 2)) rfl rfl q) ?_
  obtain ⟨T2, X2, e2, st2⟩ := getF X1 hx hZ hown (host := "") (Or.inl (w_ hw 117 rfl)) Via.refl e1 F_coder_a0 (g := (mkF m 7 #[vr a0] [(.ref a0)])) rfl rfl (hb hby (d15 3))
  refine oS st2 ?_
  show OF _ _ _ _ (T2.setTop (mkF m 10 _ _))
  refine oS (fun _ q => XS.goto X2.here hx rfl (pc0 := 10) (pc' := 14) rfl (hb hby (d15 4)) (by decide) (by decide) q) ?_
  obtain ⟨fs, hr, hrun, hended, hW, hsame⟩ := X2.leave (v := some (.int 0)) (fun h => by rw [Bd.returns] at h; cases h)
  refine ⟨_, _, retN X2 hx (t := .byte) Bd.returns (by simp) (hb hby (d15 5)) hr, hrun, hended, _, _, rfl, ?_, ⟨_, rfl⟩, hW, hsame.mono (by decide) (by decide)⟩
  show Q_rm_cod Z a0 w_COMPACT_STRINGS h0 n0 _ T2.heap _
  rw [e2]
  exact ⟨rfl, N0, rfl⟩
theorem pd_11 : parseMethodDescriptor "()B" = some ⟨[], some .byte⟩ := by decide +kernel
abbrev C14 := jdk_42_method_54_code
def L14 : List (Nat × Instr × Nat) := [(0, .aload_n 0, 1), (1, .getfield 9, 3), (4, .arraylength, 1), (5, .aload_n 0, 1), (6, .invokevirtual 335, 3), (9, .ishr, 1), (10, .ireturn, 1)]
theorem d14 : ∀ i : Fin 7, decode C14 (L14.get i).1 = .ok (L14.get i).2 := by decide +kernel
theorem ef_rm_len (m : MethodId) (a0 : Addr) : entryFrame m #[(.ref a0)] 1 = mkF m 0 #[.val (.ref a0)] [] := by first | (simp [entryFrame, mkF, argsToLocals, Value.category]; done) | rfl
def Q_rm_len (Z : State) (a0 : Addr) (b0 : Addr) (k_b0 : ClassId) (z0 : Int32) (s0 : Nat → Int32) (w_COMPACT_STRINGS : Int32) (h0 : Heap) (n0 : Nat) (v : Option Value) (h : Heap) (L : List Loc) : Prop := v = some (.int (z0 >>> ((0 : Int32) &&& 31))) ∧ Fr n0 L ∧ h = h0
set_option maxRecDepth 65536 in
set_option maxHeartbeats 40000000 in
theorem rm_len (l : Launch) (Z : State) (av0 : Array Value) (hw : ∀ d ∈ tables_1, d.before av0 Z = true) (ws : List Jvm.Cond) (a0 : Addr) (b0 : Addr) (k_b0 : ClassId) (z0 : Int32) (s0 : Nat → Int32) (w_COMPACT_STRINGS : Int32) (h0 : Heap) (n0 : Nat) (Z0 : n0 ≤ h0.size) (Ol0 : Old Z n0 h0) (X_a0 : Exa Z h0 a0 "java/lang/String") (F_coder_a0 : Fld Z h0 a0 "java/lang/String" "coder" "B" (.int 0)) (F_value_a0 : Fld Z h0 a0 "java/lang/String" "value" "[B" (.ref b0)) (V_b0 : Arv Z h0 b0 k_b0 .byte z0 (own_ml z0 s0) (.int 0)) (S_COMPACT_STRINGS : Sta Z Z.heap "java/lang/String" "COMPACT_STRINGS" "Z" (.int w_COMPACT_STRINGS)) (hc0 : ¬ (w_COMPACT_STRINGS = 0)) :
    own_MF l Z h0 yM19 (Jvm.Cond.code yM19 jdk_42_method_54_code 1 (some .int) :: ws) ({ frames := 1, cells := 0, slots := 0, locals := 13 } : Room) #[(.ref a0)] (Q_rm_len Z a0 b0 k_b0 z0 s0 w_COMPACT_STRINGS h0 n0) := by
  refine own_ent (own := "java/lang/String") (plainFor_of_name pn_7) rfl ?_
  intro p e s m below meth c s₁ Bd hx hby hml hZ hh hown hnm X0 e0
  have N0 := Fr.nil n0
  have kp0 : Keep h0 h0 [] := Keep.refl _ _
  refine oS (fun _ q => castTop (ef_rm_len m a0) q) ?_
  show OF _ _ _ _ (s₁.setTop (mkF m 0 #[vr a0] []))
  refine oS (fun _ q => XS.aloadN X0.here hx rfl (hb hby (d14 0)) rfl rfl q) ?_
  obtain ⟨T1, X1, e1, st1⟩ := getF X0 hx hZ hown (host := "") (Or.inl (w_ hw 110 rfl)) Via.refl e0 F_value_a0 (g := (mkF m 1 #[vr a0] [(.ref a0)])) rfl rfl (hb hby (d14 1))
  refine oS st1 ?_
  show OF _ _ _ _ (T1.setTop (mkF m 4 _ _))
  have Vo2 : Arv Z h0 b0 k_b0 .byte z0 (own_ml z0 s0) (.int 0) := V_b0
  obtain ⟨cl2, Ar2, qa2, Sa2, Na2, Ha2, Ga2⟩ := id Vo2
  refine oS (X1.arraylength hx (by rw [e1]; exact Ar2.1) (State.isArrayOf_alike (hZ).alike Ar2.2.1) (g := (mkF m 4 #[vr a0] [(.ref b0)])) rfl rfl (hb hby (d14 2))) ?_
  rw [len_of Sa2 Na2]
  show OF _ _ _ _ (T1.setTop (mkF m 5 _ _))
  refine oS (fun _ q => XS.aloadN X1.here hx rfl (hb hby (d14 3)) rfl rfl q) ?_
  show OF _ _ _ _ (T1.setTop (mkF m 6 _ _))
  obtain ⟨cq3, kq3, q3a, q3b, q3c⟩ := isOf hZ e1 X_a0
  obtain ⟨_, _, ⟨T3, L3, k3, n3⟩, -, X3, ⟨Lc3, hQ3, l3, y3, z3⟩, st3⟩ := X1.virtualBack hx (y := yM18) (z := yM18) hown (mvT hZ (w_ hw 111 rfl)) (mvT hZ (w_ hw 112 rfl)) (notFace_of_selects (args := #[]) (mvT hZ (w_ hw 114 rfl))) (mvT hZ (w_ hw 114 rfl)) (mvT hZ (w_ hw 113 rfl)) (by decide) (backOf (W := 1) (rm_cod l Z av0 hw [] a0 w_COMPACT_STRINGS h0 n0 (Nat.le_trans Z0 kp0.1) Ol0 F_coder_a0 S_COMPACT_STRINGS hc0) hZ (w_ hw 115 rfl) (w_ hw 51 rfl) (by decide) (by decide)) q3a q3c (g := (mkF m 6 #[vr a0] [(.ref a0), (.int z0)])) rfl (by rw [hml]; rfl) (Steps.refl _) (argsL := []) (rest := [(.int z0)]) (lenOf pd_11 rfl) rfl (by show 2 * 0 + _ ≤ _; exact Nat.le_of_eq rfl) (hb hby (d14 4)) (fun _ _ => ⟨rfl, e1, (by decide : 0 + 0 ≤ _), (by decide : 0 + 0 ≤ _)⟩)
  dsimp only [Pt.U, Pt.locs, Pt.cells, Pt.slots] at X3 l3 y3 z3 st3 hQ3
  subst l3 y3 z3
  obtain ⟨rfl, N3q, he3⟩ := hQ3
  have N3 := Fr.app N0 N3q
  refine oT st3 ?_
  show OF _ _ _ _ (T3.setTop (mkF m 9 _ _))
  refine oS (fun _ q => XS.ishr X3.here hx rfl (hb hby (d14 5)) rfl q) ?_
  obtain ⟨fs, hr, hrun, hended, hW, hsame⟩ := X3.leave (v := some (.int (z0 >>> ((0 : Int32) &&& 31)))) (fun h => by rw [Bd.returns] at h; cases h)
  refine ⟨_, _, retI X3 hx Bd.returns (hb hby (d14 6)) hr, hrun, hended, _, _, rfl, ?_, ⟨_, rfl⟩, hW, hsame.mono (by decide) (by decide)⟩
  show Q_rm_len Z a0 b0 k_b0 z0 s0 w_COMPACT_STRINGS h0 n0 _ T3.heap _
  rw [he3]
  exact ⟨rfl, N3, rfl⟩
abbrev C17 := jdk_68_method_71_code
def L17 : List (Nat × Instr × Nat) := [(0, .getstatic 18, 3), (3, .ifCond .eq 18, 3), (6, .aload_n 0, 1), (7, .getfield 22, 3), (10, .aload_n 1, 1), (11, .invokevirtual 40, 3), (14, .if_icmp .eq 7, 3), (21, .return_, 1)]
theorem d17 : ∀ i : Fin 8, decode C17 (L17.get i).1 = .ok (L17.get i).2 := by decide +kernel
theorem ef_rm_inf (m : MethodId) (a0 : Addr) (a1 : Addr) : entryFrame m #[(.ref a0), (.ref a1)] 2 = mkF m 0 #[.val (.ref a0), .val (.ref a1)] [] := by first | (simp [entryFrame, mkF, argsToLocals, Value.category]; done) | rfl
def Q_rm_inf (Z : State) (a0 : Addr) (a1 : Addr) (w_COMPACT_STRINGS : Int32) (h0 : Heap) (n0 : Nat) (v : Option Value) (h : Heap) (L : List Loc) : Prop := v = none ∧ Fr n0 L ∧ h = h0
set_option maxRecDepth 65536 in
set_option maxHeartbeats 40000000 in
theorem rm_inf (l : Launch) (Z : State) (av0 : Array Value) (hw : ∀ d ∈ tables_1, d.before av0 Z = true) (ws : List Jvm.Cond) (a0 : Addr) (a1 : Addr) (w_COMPACT_STRINGS : Int32) (h0 : Heap) (n0 : Nat) (Z0 : n0 ≤ h0.size) (Ol0 : Old Z n0 h0) (X_a0 : Exa Z h0 a0 "java/lang/StringBuilder") (F_coder_a0 : Fld Z h0 a0 "java/lang/AbstractStringBuilder" "coder" "B" (.int 0)) (X_a1 : Exa Z h0 a1 "java/lang/String") (F_coder_a1 : Fld Z h0 a1 "java/lang/String" "coder" "B" (.int 0)) (S_COMPACT_STRINGS : Sta Z Z.heap "java/lang/String" "COMPACT_STRINGS" "Z" (.int w_COMPACT_STRINGS)) (hc0 : ¬ (w_COMPACT_STRINGS = 0)) :
    own_MF l Z h0 yM20 (Jvm.Cond.code yM20 jdk_68_method_71_code 2 none :: ws) ({ frames := 1, cells := 0, slots := 0, locals := 13 } : Room) #[(.ref a0), (.ref a1)] (Q_rm_inf Z a0 a1 w_COMPACT_STRINGS h0 n0) := by
  refine own_ent (own := "java/lang/AbstractStringBuilder") (plainFor_of_name pn_1) rfl ?_
  intro p e s m below meth c s₁ Bd hx hby hml hZ hh hown hnm X0 e0
  have N0 := Fr.nil n0
  have kp0 : Keep h0 h0 [] := Keep.refl _ _
  refine oS (fun _ q => castTop (ef_rm_inf m a0 a1) q) ?_
  show OF _ _ _ _ (s₁.setTop (mkF m 0 #[vr a0, vr a1] []))
  obtain ⟨T1, X1, e1, st1⟩ := getS2 X0 hx hZ hown (host := "") (Or.inl (w_ hw 50 rfl)) Via.refl e0 (S_COMPACT_STRINGS.ext Ol0.2) (g := (mkF m 0 #[vr a0, vr a1] [])) rfl (hb hby (d17 0))
  refine oS st1 ?_
  show OF _ _ _ _ (T1.setTop (mkF m 3 _ _))
  refine oS (fun _ q => XS.ifNo X1.here hx rfl (hb hby (d17 1)) rfl (Jvm.Free.XT.i0_eq_f hc0) q) ?_
  show OF _ _ _ _ (T1.setTop (mkF m 6 _ _))
  refine oS (fun _ q => XS.aloadN X1.here hx rfl (hb hby (d17 2)) rfl rfl q) ?_
  obtain ⟨T2, X2, e2, st2⟩ := getF X1 hx hZ hown (host := "") (Or.inl (w_ hw 55 rfl)) Via.refl e1 F_coder_a0 (g := (mkF m 7 #[vr a0, vr a1] [(.ref a0)])) rfl rfl (hb hby (d17 3))
  refine oS st2 ?_
  show OF _ _ _ _ (T2.setTop (mkF m 10 _ _))
  refine oS (fun _ q => XS.aloadN X2.here hx rfl (hb hby (d17 4)) rfl rfl q) ?_
  obtain ⟨cq3, kq3, q3a, q3b, q3c⟩ := isOf hZ e2 X_a1
  obtain ⟨_, _, ⟨T3, L3, k3, n3⟩, -, X3, ⟨Lc3, hQ3, l3, y3, z3⟩, st3⟩ := X2.virtualBack hx (y := yM18) (z := yM18) hown (mvT hZ (w_ hw 128 rfl)) (mvT hZ (w_ hw 112 rfl)) (notFace_of_selects (args := #[]) (mvT hZ (w_ hw 114 rfl))) (mvT hZ (w_ hw 114 rfl)) (mvT hZ (w_ hw 113 rfl)) (by decide) (backOf (W := 1) (rm_cod l Z av0 hw [] a1 w_COMPACT_STRINGS h0 n0 (Nat.le_trans Z0 kp0.1) Ol0 F_coder_a1 S_COMPACT_STRINGS hc0) hZ (w_ hw 115 rfl) (w_ hw 51 rfl) (by decide) (by decide)) q3a q3c (g := (mkF m 11 #[vr a0, vr a1] [(.ref a1), (.int 0)])) rfl (by rw [hml]; rfl) (Steps.refl _) (argsL := []) (rest := [(.int 0)]) (lenOf pd_11 rfl) rfl (by show 2 * 0 + _ ≤ _; exact Nat.le_of_eq rfl) (hb hby (d17 5)) (fun _ _ => ⟨rfl, e2, (by decide : 0 + 0 ≤ _), (by decide : 0 + 0 ≤ _)⟩)
  dsimp only [Pt.U, Pt.locs, Pt.cells, Pt.slots] at X3 l3 y3 z3 st3 hQ3
  subst l3 y3 z3
  obtain ⟨rfl, N3q, he3⟩ := hQ3
  have N3 := Fr.app N0 N3q
  refine oT st3 ?_
  show OF _ _ _ _ (T3.setTop (mkF m 14 _ _))
  refine oS (fun _ q => XS.icmpYes X3.here hx rfl (pc0 := 14) (pc' := 21) rfl (hb hby (d17 6)) rfl (Jvm.Free.XT.ii_eq_t (rfl : (0 : Int32) = (0 : Int32))) (by decide) (by decide) q) ?_
  show OF _ _ _ _ (T3.setTop (mkF m 21 _ _))
  obtain ⟨fs, hr, hrun, hended, hW, hsame⟩ := X3.leave (v := none) (fun _ => rfl)
  refine ⟨_, _, X3.returnOut hx Bd.returns (hb hby (d17 7)) hr, hrun, hended, _, _, rfl, ?_, ⟨_, rfl⟩, hW, hsame.mono (by decide) (by decide)⟩
  show Q_rm_inf Z a0 a1 w_COMPACT_STRINGS h0 n0 _ T3.heap _
  rw [he3]
  exact ⟨rfl, N3, rfl⟩
theorem own_gb {p z : Int32} (h : 0 ≤ p.toInt ∧ p.toInt + 1 ≤ z.toInt) : ¬ (p <<< ((0 : Int32) &&& 31)) < 0 ∧ (p <<< ((0 : Int32) &&& 31)).toNatClampNeg + (1 : Int32).toNatClampNeg ≤ z.toNatClampNeg := by
  rw [own_sh0]; have r0 : (0 : Int32).toInt = 0 := rfl; have r1 : (1 : Int32).toNatClampNeg = 1 := rfl
  refine ⟨by rw [Int32.lt_iff_toInt_lt]; omega, ?_⟩
  rw [r1]; simp only [Int32.toNatClampNeg]; omega
abbrev C18 := jdk_42_method_147_code
def L18 : List (Nat × Instr × Nat) := [(0, .aload_n 0, 1), (1, .invokevirtual 335, 3), (4, .iload_n 3, 1), (5, .if_icmp .ne 23, 3), (8, .aload_n 0, 1), (9, .getfield 9, 3), (12, .iconst 0, 1), (13, .aload_n 1, 1), (14, .iload_n 2, 1), (15, .iload_n 3, 1), (16, .ishl, 1), (17, .aload_n 0, 1), (18, .getfield 9, 3), (21, .arraylength, 1), (22, .invokestatic 212, 3), (25, .goto 18, 3), (43, .return_, 1)]
theorem d18 : ∀ i : Fin 17, decode C18 (L18.get i).1 = .ok (L18.get i).2 := by decide +kernel
theorem ef_rm_gby (m : MethodId) (a0 : Addr) (a1 : Addr) (p2 : Int32) : entryFrame m #[(.ref a0), (.ref a1), (.int p2), (.int 0)] 4 = mkF m 0 #[.val (.ref a0), .val (.ref a1), .val (.int p2), .val (.int 0)] [] := by first | (simp [entryFrame, mkF, argsToLocals, Value.category]; done) | rfl
def Q_rm_gby (Z : State) (a0 : Addr) (a1 : Addr) (p2 : Int32) (b0 : Addr) (k_b0 : ClassId) (s0 : Nat → Int32) (k_a1 : ClassId) (z1 : Int32) (f1 : Nat → Int32) (w_COMPACT_STRINGS : Int32) (h0 : Heap) (n0 : Nat) (v : Option Value) (h : Heap) (L : List Loc) : Prop := v = none ∧ Fr n0 L ∧ Keep h0 h [a1] ∧ Arv Z h a1 k_a1 .byte z1 (own_ml z1 (own_cpy f1 (p2 <<< ((0 : Int32) &&& 31)) s0 (0 : Int32) (1 : Int32))) (.int 0)
set_option maxRecDepth 65536 in
set_option maxHeartbeats 40000000 in
theorem rm_gby (l : Launch) (Z : State) (av0 : Array Value) (hw : ∀ d ∈ tables_1, d.before av0 Z = true) (ws : List Jvm.Cond) (a0 : Addr) (a1 : Addr) (p2 : Int32) (b0 : Addr) (k_b0 : ClassId) (s0 : Nat → Int32) (k_a1 : ClassId) (z1 : Int32) (f1 : Nat → Int32) (w_COMPACT_STRINGS : Int32) (h0 : Heap) (n0 : Nat) (Z0 : n0 ≤ h0.size) (Ol0 : Old Z n0 h0) (X_a0 : Exa Z h0 a0 "java/lang/String") (F_coder_a0 : Fld Z h0 a0 "java/lang/String" "coder" "B" (.int 0)) (F_value_a0 : Fld Z h0 a0 "java/lang/String" "value" "[B" (.ref b0)) (V_b0 : Arv Z h0 b0 k_b0 .byte (1 : Int32) (own_ml (1 : Int32) s0) (.int 0)) (V_a1 : Arv Z h0 a1 k_a1 .byte z1 (own_ml z1 f1) (.int 0)) (hcp : 0 ≤ p2.toInt ∧ p2.toInt + 1 ≤ z1.toInt) (S_COMPACT_STRINGS : Sta Z Z.heap "java/lang/String" "COMPACT_STRINGS" "Z" (.int w_COMPACT_STRINGS)) (hc0 : ¬ (w_COMPACT_STRINGS = 0)) (g_a1 : n0 ≤ a1) :
    own_MF l Z h0 yM21 (Jvm.Cond.code yM21 jdk_42_method_147_code 4 none :: ws) ({ frames := 1, cells := 0, slots := 0, locals := 40 } : Room) #[(.ref a0), (.ref a1), (.int p2), (.int 0)] (Q_rm_gby Z a0 a1 p2 b0 k_b0 s0 k_a1 z1 f1 w_COMPACT_STRINGS h0 n0) := by
  refine own_ent (own := "java/lang/String") (plainFor_of_name pn_7) rfl ?_
  intro p e s m below meth c s₁ Bd hx hby hml hZ hh hown hnm X0 e0
  have N0 := Fr.nil n0
  have kp0 : Keep h0 h0 [a1] := Keep.refl _ _
  refine oS (fun _ q => castTop (ef_rm_gby m a0 a1 p2) q) ?_
  show OF _ _ _ _ (s₁.setTop (mkF m 0 #[vr a0, vr a1, vi p2, vi 0] []))
  refine oS (fun _ q => XS.aloadN X0.here hx rfl (hb hby (d18 0)) rfl rfl q) ?_
  show OF _ _ _ _ (s₁.setTop (mkF m 1 _ _))
  obtain ⟨cq1, kq1, q1a, q1b, q1c⟩ := isOf hZ e0 X_a0
  obtain ⟨_, _, ⟨T1, L1, k1, n1⟩, -, X1, ⟨Lc1, hQ1, l1, y1, z1⟩, st1⟩ := X0.virtualBack hx (y := yM18) (z := yM18) hown (mvT hZ (w_ hw 111 rfl)) (mvT hZ (w_ hw 112 rfl)) (notFace_of_selects (args := #[]) (mvT hZ (w_ hw 114 rfl))) (mvT hZ (w_ hw 114 rfl)) (mvT hZ (w_ hw 113 rfl)) (by decide) (backOf (W := 0) (rm_cod l Z av0 hw [] a0 w_COMPACT_STRINGS h0 n0 (Nat.le_trans Z0 kp0.1) Ol0 F_coder_a0 S_COMPACT_STRINGS hc0) hZ (w_ hw 115 rfl) (w_ hw 51 rfl) (by decide) (by decide)) q1a q1c (g := (mkF m 1 #[vr a0, vr a1, vi p2, vi 0] [(.ref a0)])) rfl (by rw [hml]; rfl) (Steps.refl _) (argsL := []) (rest := []) (lenOf pd_11 rfl) rfl (by show 2 * 0 + _ ≤ _; exact Nat.le_of_eq rfl) (hb hby (d18 1)) (fun _ _ => ⟨rfl, e0, (by decide : 0 + 0 ≤ _), (by decide : 0 + 0 ≤ _)⟩)
  dsimp only [Pt.U, Pt.locs, Pt.cells, Pt.slots] at X1 l1 y1 z1 st1 hQ1
  subst l1 y1 z1
  obtain ⟨rfl, N1q, he1⟩ := hQ1
  have N1 := Fr.app N0 N1q
  refine oT st1 ?_
  show OF _ _ _ _ (T1.setTop (mkF m 4 _ _))
  refine oS (fun _ q => XS.iloadN X1.here hx rfl (hb hby (d18 2)) rfl (XS.icmpNo X1.here hx rfl (hb hby (d18 3)) rfl (Jvm.Free.XT.ii_ne_f (rfl : (0 : Int32) = (0 : Int32))) q)) ?_
  show OF _ _ _ _ (T1.setTop (mkF m 8 _ _))
  refine oS (fun _ q => XS.aloadN X1.here hx rfl (hb hby (d18 4)) rfl rfl q) ?_
  obtain ⟨T2, X2, e2, st2⟩ := getF X1 hx hZ hown (host := "") (Or.inl (w_ hw 110 rfl)) Via.refl he1 F_value_a0 (g := (mkF m 9 #[vr a0, vr a1, vi p2, vi 0] [(.ref a0)])) rfl rfl (hb hby (d18 5))
  refine oS st2 ?_
  show OF _ _ _ _ (T2.setTop (mkF m 12 _ _))
  refine oS (fun _ q => XS.iconst X2.here hx rfl (hb hby (d18 6)) (XS.aloadN X2.here hx rfl (hb hby (d18 7)) rfl rfl (XS.iloadN X2.here hx rfl (hb hby (d18 8)) rfl (XS.iloadN X2.here hx rfl (hb hby (d18 9)) rfl (XS.ishl X2.here hx rfl (hb hby (d18 10)) rfl (XS.aloadN X2.here hx rfl (hb hby (d18 11)) rfl rfl q)))))) ?_
  show OF _ _ _ _ (T2.setTop (mkF m 18 #[vr a0, vr a1, vi p2, vi 0] [(.ref a0), (.int (p2 <<< ((0 : Int32) &&& 31))), (.ref a1), (.int 0), (.ref b0)]))
  obtain ⟨T3, X3, e3, st3⟩ := getF X2 hx hZ hown (host := "") (Or.inl (w_ hw 110 rfl)) Via.refl e2 F_value_a0 (g := (mkF m 18 #[vr a0, vr a1, vi p2, vi 0] [(.ref a0), (.int (p2 <<< ((0 : Int32) &&& 31))), (.ref a1), (.int 0), (.ref b0)])) rfl rfl (hb hby (d18 12))
  refine oS st3 ?_
  show OF _ _ _ _ (T3.setTop (mkF m 21 _ _))
  have Vo4 : Arv Z h0 b0 k_b0 .byte (1 : Int32) (own_ml (1 : Int32) s0) (.int 0) := V_b0
  obtain ⟨cl4, Ar4, qa4, Sa4, Na4, Ha4, Ga4⟩ := id Vo4
  refine oS (X3.arraylength hx (by rw [e3]; exact Ar4.1) (State.isArrayOf_alike (hZ).alike Ar4.2.1) (g := (mkF m 21 #[vr a0, vr a1, vi p2, vi 0] [(.ref b0), (.int (p2 <<< ((0 : Int32) &&& 31))), (.ref a1), (.int 0), (.ref b0)])) rfl rfl (hb hby (d18 13))) ?_
  rw [len_of Sa4 Na4]
  show OF _ _ _ _ (T3.setTop (mkF m 22 _ _))
  have As5 : Arv Z h0 b0 k_b0 .byte (1 : Int32) (own_ml (1 : Int32) s0) (.int 0) := V_b0
  have Bs5 : Arv Z h0 a1 k_a1 .byte z1 (own_ml z1 f1) (.int 0) := V_a1
  have hq5 : (0 : Int32).toNatClampNeg + (1 : Int32).toNatClampNeg ≤ (1 : Int32).toNatClampNeg := (by decide)
  have hr5 : (p2 <<< ((0 : Int32) &&& 31)).toNatClampNeg + (1 : Int32).toNatClampNeg ≤ z1.toNatClampNeg := (own_gb hcp).2
  obtain ⟨T5, h5, Lc5, X5, e5, N5, K5, Vr5, st5⟩ := cpA X3 hx hZ hown (w_ hw 134 rfl) (w_ hw 137 rfl) (w_ hw 135 rfl) (w_ hw 136 rfl) e3 As5 Bs5 (Or.inl ⟨rfl, rfl⟩) (by decide) (own_gb hcp).1 (by decide) hq5 hr5 rfl (by rw [own_mllen]; exact hr5) N1 g_a1 (g := (mkF m 22 #[vr a0, vr a1, vi p2, vi 0] [(.int 1), (.int (p2 <<< ((0 : Int32) &&& 31))), (.ref a1), (.int 0), (.ref b0)])) rfl (by rw [hml]; rfl) rfl (hb hby (d18 14)) (by decide) (W := 0) (by show 2 * 0 + _ ≤ _; exact Nat.le_of_eq rfl) (by decide +kernel)
  refine oS st5 ?_
  have kp6 : Keep h0 h5 [a1] := kp0.trans K5 (allS (Or.inl (List.mem_of_getElem? (i := 0) rfl)) all0)
  have ol6 : Old Z n0 h5 := Ol0.keep K5 (allS g_a1 all0)
  have Vc5 : Arv Z h5 a1 k_a1 .byte z1 (own_ml z1 (own_cpy f1 (p2 <<< ((0 : Int32) &&& 31)) s0 (0 : Int32) (1 : Int32))) (.int 0) := by
    rw [own_mlcpy hq5 hr5] at Vr5; exact Vr5
  show OF _ _ _ _ (T5.setTop (mkF m 25 _ _))
  refine oS (fun _ q => XS.goto X5.here hx rfl (pc0 := 25) (pc' := 43) rfl (hb hby (d18 15)) (by decide) (by decide) q) ?_
  obtain ⟨fs, hr, hrun, hended, hW, hsame⟩ := X5.leave (v := none) (fun _ => rfl)
  refine ⟨_, _, X5.returnOut hx Bd.returns (hb hby (d18 16)) hr, hrun, hended, _, _, rfl, ?_, ⟨_, rfl⟩, hW, hsame.mono (by decide) (by decide)⟩
  show Q_rm_gby Z a0 a1 p2 b0 k_b0 s0 k_a1 z1 f1 w_COMPACT_STRINGS h0 n0 _ T5.heap _
  rw [e5]
  exact ⟨rfl, N5, kp6, Vc5⟩
theorem pd_12 : parseMethodDescriptor "(Ljava/lang/String;)V" = some ⟨[(.object "java/lang/String")], none⟩ := by decide +kernel
theorem pd_13 : parseMethodDescriptor "([BIB)V" = some ⟨[(.array .byte), .int, .byte], none⟩ := by decide +kernel
abbrev C16 := jdk_68_method_73_code
def L16 : List (Nat × Instr × Nat) := [(0, .aload_n 0, 1), (1, .aload_n 2, 1), (2, .invokevirtual 397, 3), (5, .aload_n 2, 1), (6, .aload_n 0, 1), (7, .getfield 15, 3), (10, .iload_n 1, 1), (11, .aload_n 0, 1), (12, .getfield 22, 3), (15, .invokevirtual 399, 3), (18, .return_, 1)]
theorem d16 : ∀ i : Fin 11, decode C16 (L16.get i).1 = .ok (L16.get i).2 := by decide +kernel
theorem ef_rm_psa (m : MethodId) (a0 : Addr) (p1 : Int32) (a2 : Addr) : entryFrame m #[(.ref a0), (.int p1), (.ref a2)] 3 = mkF m 0 #[.val (.ref a0), .val (.int p1), .val (.ref a2)] [] := by first | (simp [entryFrame, mkF, argsToLocals, Value.category]; done) | rfl
def Q_rm_psa (Z : State) (a0 : Addr) (p1 : Int32) (a2 : Addr) (b0 : Addr) (k_b0 : ClassId) (z0 : Int32) (f0 : Nat → Int32) (b2 : Addr) (k_b2 : ClassId) (s0 : Nat → Int32) (w_COMPACT_STRINGS : Int32) (h0 : Heap) (n0 : Nat) (v : Option Value) (h : Heap) (L : List Loc) : Prop := v = none ∧ Fr n0 L ∧ Keep h0 h [b0] ∧ Arv Z h b0 k_b0 .byte z0 (own_ml z0 (own_cpy f0 (p1 <<< ((0 : Int32) &&& 31)) s0 (0 : Int32) (1 : Int32))) (.int 0)
set_option maxRecDepth 65536 in
set_option maxHeartbeats 40000000 in
theorem rm_psa (l : Launch) (Z : State) (av0 : Array Value) (hw : ∀ d ∈ tables_1, d.before av0 Z = true) (ws : List Jvm.Cond) (a0 : Addr) (p1 : Int32) (a2 : Addr) (b0 : Addr) (k_b0 : ClassId) (z0 : Int32) (f0 : Nat → Int32) (b2 : Addr) (k_b2 : ClassId) (s0 : Nat → Int32) (w_COMPACT_STRINGS : Int32) (h0 : Heap) (n0 : Nat) (Z0 : n0 ≤ h0.size) (Ol0 : Old Z n0 h0) (X_a0 : Exa Z h0 a0 "java/lang/StringBuilder") (F_value_a0 : Fld Z h0 a0 "java/lang/AbstractStringBuilder" "value" "[B" (.ref b0)) (F_coder_a0 : Fld Z h0 a0 "java/lang/AbstractStringBuilder" "coder" "B" (.int 0)) (V_b0 : Arv Z h0 b0 k_b0 .byte z0 (own_ml z0 f0) (.int 0)) (X_b0 : Exa Z h0 b0 "[B") (X_a2 : Exa Z h0 a2 "java/lang/String") (F_coder_a2 : Fld Z h0 a2 "java/lang/String" "coder" "B" (.int 0)) (F_value_a2 : Fld Z h0 a2 "java/lang/String" "value" "[B" (.ref b2)) (V_b2 : Arv Z h0 b2 k_b2 .byte (1 : Int32) (own_ml (1 : Int32) s0) (.int 0)) (hcp : 0 ≤ p1.toInt ∧ p1.toInt + 1 ≤ z0.toInt) (S_COMPACT_STRINGS : Sta Z Z.heap "java/lang/String" "COMPACT_STRINGS" "Z" (.int w_COMPACT_STRINGS)) (hc0 : ¬ (w_COMPACT_STRINGS = 0)) (g_b0 : n0 ≤ b0) :
    own_MF l Z h0 yM22 (Jvm.Cond.code yM22 jdk_68_method_73_code 3 none :: ws) ({ frames := 2, cells := 0, slots := 0, locals := 55 } : Room) #[(.ref a0), (.int p1), (.ref a2)] (Q_rm_psa Z a0 p1 a2 b0 k_b0 z0 f0 b2 k_b2 s0 w_COMPACT_STRINGS h0 n0) := by
  refine own_ent (own := "java/lang/AbstractStringBuilder") (plainFor_of_name pn_1) rfl ?_
  intro p e s m below meth c s₁ Bd hx hby hml hZ hh hown hnm X0 e0
  have N0 := Fr.nil n0
  have kp0 : Keep h0 h0 [b0] := Keep.refl _ _
  refine oS (fun _ q => castTop (ef_rm_psa m a0 p1 a2) q) ?_
  show OF _ _ _ _ (s₁.setTop (mkF m 0 #[vr a0, vi p1, vr a2] []))
  refine oS (fun _ q => XS.aloadN X0.here hx rfl (hb hby (d16 0)) rfl rfl (XS.aloadN X0.here hx rfl (hb hby (d16 1)) rfl rfl q)) ?_
  show OF _ _ _ _ (s₁.setTop (mkF m 2 _ _))
  obtain ⟨cq1, q1, q1'⟩ := X_a0.cell
  obtain ⟨_, _, ⟨T1, L1, k1, n1⟩, -, X1, ⟨Lc1, hQ1, l1, y1, z1⟩, st1⟩ := X0.privateBack hx (y := yM20) hown (mvT hZ (w_ hw 123 rfl)) (mvT hZ (w_ hw 124 rfl)) (mvT hZ (own_selp (w_ hw 124 rfl) (own_nfs (y' := yM0) rfl (w_ hw 82 rfl)) (Cond.privateMethod_at (w_ hw 125 rfl)) (by decide))) (Cond.privateMethod_at (mvP hZ (w_ hw 125 rfl) (args := #[]))) (mvT hZ (w_ hw 127 rfl)) (by decide) (backOf (W := 0) (rm_inf l Z av0 hw [] a0 a2 w_COMPACT_STRINGS h0 n0 (Nat.le_trans Z0 kp0.1) Ol0 X_a0 F_coder_a0 X_a2 F_coder_a2 S_COMPACT_STRINGS hc0) hZ (w_ hw 127 rfl) (w_ hw 47 rfl) (by decide) (by decide)) (g := (mkF m 2 #[vr a0, vi p1, vr a2] [(.ref a2), (.ref a0)])) rfl (by rw [hml]; rfl) (Steps.refl _) (a := a0) (by rw [e0]; exact q1) q1' (argsL := [(.ref a2)]) (rest := []) (lenOf pd_12 rfl) rfl (by show 2 * 0 + _ ≤ _; exact Nat.le_of_eq rfl) (hb hby (d16 2)) (fun _ _ => ⟨rfl, e0, (by decide : 0 + 0 ≤ _), (by decide : 0 + 0 ≤ _)⟩)
  dsimp only [Pt.U, Pt.locs, Pt.cells, Pt.slots] at X1 l1 y1 z1 st1 hQ1
  subst l1 y1 z1
  obtain ⟨rfl, N1q, he1⟩ := hQ1
  have N1 := Fr.app N0 N1q
  refine oT st1 ?_
  show OF _ _ _ _ (T1.setTop (mkF m 5 _ _))
  refine oS (fun _ q => XS.aloadN X1.here hx rfl (hb hby (d16 3)) rfl rfl (XS.aloadN X1.here hx rfl (hb hby (d16 4)) rfl rfl q)) ?_
  obtain ⟨T2, X2, e2, st2⟩ := getF X1 hx hZ hown (host := "") (Or.inl (w_ hw 53 rfl)) Via.refl he1 F_value_a0 (g := (mkF m 7 #[vr a0, vi p1, vr a2] [(.ref a0), (.ref a2)])) rfl rfl (hb hby (d16 5))
  refine oS st2 ?_
  show OF _ _ _ _ (T2.setTop (mkF m 10 _ _))
  refine oS (fun _ q => XS.iloadN X2.here hx rfl (hb hby (d16 6)) rfl (XS.aloadN X2.here hx rfl (hb hby (d16 7)) rfl rfl q)) ?_
  obtain ⟨T3, X3, e3, st3⟩ := getF X2 hx hZ hown (host := "") (Or.inl (w_ hw 55 rfl)) Via.refl e2 F_coder_a0 (g := (mkF m 12 #[vr a0, vi p1, vr a2] [(.ref a0), (.int p1), (.ref b0), (.ref a2)])) rfl rfl (hb hby (d16 8))
  refine oS st3 ?_
  show OF _ _ _ _ (T3.setTop (mkF m 15 _ _))
  obtain ⟨cq4, kq4, q4a, q4b, q4c⟩ := isOf hZ e3 X_a2
  obtain ⟨_, _, ⟨T4, L4, k4, n4⟩, -, X4, ⟨Lc4, hQ4, l4, y4, z4⟩, st4⟩ := X3.virtualBack hx (y := yM21) (z := yM21) hown (mvT hZ (w_ hw 129 rfl)) (mvT hZ (w_ hw 130 rfl)) (notFace_of_selects (args := #[]) (mvT hZ (w_ hw 132 rfl))) (mvT hZ (w_ hw 132 rfl)) (mvT hZ (w_ hw 131 rfl)) (by decide) (backOf (W := 0) (rm_gby l Z av0 hw [] a2 b0 p1 b2 k_b2 s0 k_b0 z0 f0 w_COMPACT_STRINGS h0 n0 (Nat.le_trans Z0 kp0.1) Ol0 X_a2 F_coder_a2 F_value_a2 V_b2 V_b0 hcp S_COMPACT_STRINGS hc0 g_b0) hZ (w_ hw 133 rfl) (w_ hw 51 rfl) (by decide) (by decide)) q4a q4c (g := (mkF m 15 #[vr a0, vi p1, vr a2] [(.int 0), (.int p1), (.ref b0), (.ref a2)])) rfl (by rw [hml]; rfl) (Steps.refl _) (argsL := [(.ref b0), (.int p1), (.int 0)]) (rest := []) (lenOf pd_13 rfl) rfl (by show 2 * 0 + _ ≤ _; exact Nat.le_of_eq rfl) (hb hby (d16 9)) (fun _ _ => ⟨rfl, e3, (by decide : 0 + 0 ≤ _), (by decide : 0 + 0 ≤ _)⟩)
  dsimp only [Pt.U, Pt.locs, Pt.cells, Pt.slots] at X4 l4 y4 z4 st4 hQ4
  subst l4 y4 z4
  obtain ⟨rfl, N4q, K4, r4_0⟩ := hQ4
  have N4 := Fr.app N1 N4q
  refine oT st4 ?_
  obtain ⟨h4, e4⟩ : ∃ z, T4.heap = z := ⟨_, rfl⟩
  rw [e4] at K4 r4_0
  have kp5 : Keep h0 h4 [b0] := kp0.trans K4 (allS (Or.inl (List.mem_of_getElem? (i := 0) rfl)) all0)
  have ol5 : Old Z n0 h4 := Ol0.keep K4 (allS g_b0 all0)
  show OF _ _ _ _ (T4.setTop (mkF m 18 _ _))
  obtain ⟨fs, hr, hrun, hended, hW, hsame⟩ := X4.leave (v := none) (fun _ => rfl)
  refine ⟨_, _, X4.returnOut hx Bd.returns (hb hby (d16 10)) hr, hrun, hended, _, _, rfl, ?_, ⟨_, rfl⟩, hW, hsame.mono (by decide) (by decide)⟩
  show Q_rm_psa Z a0 p1 a2 b0 k_b0 z0 f0 b2 k_b2 s0 w_COMPACT_STRINGS h0 n0 _ T4.heap _
  rw [e4]
  exact ⟨rfl, N4, kp5, r4_0⟩
theorem pd_14 : parseMethodDescriptor "()I" = some ⟨[], some .int⟩ := by decide +kernel
theorem pd_15 : parseMethodDescriptor "(ILjava/lang/String;)V" = some ⟨[.int, (.object "java/lang/String")], none⟩ := by decide +kernel
abbrev C13 := jdk_68_method_22_code
def L13 : List (Nat × Instr × Nat) := [(0, .aload_n 1, 1), (1, .ifnonnull 8, 3), (9, .aload_n 1, 1), (10, .invokevirtual 32, 3), (13, .istore_n 2, 1), (14, .aload_n 0, 1), (15, .aload_n 0, 1), (16, .getfield 79, 3), (19, .iload_n 2, 1), (20, .iadd, 1), (21, .invokevirtual 100, 3), (24, .aload_n 0, 1), (25, .aload_n 0, 1), (26, .getfield 79, 3), (29, .aload_n 1, 1), (30, .invokevirtual 208, 3), (33, .aload_n 0, 1), (34, .dup, 1), (35, .getfield 79, 3), (38, .iload_n 2, 1), (39, .iadd, 1), (40, .putfield 79, 3), (43, .aload_n 0, 1), (44, .areturn, 1)]
theorem d13 : ∀ i : Fin 24, decode C13 (L13.get i).1 = .ok (L13.get i).2 := by decide +kernel
theorem ef_rm_aSN (m : MethodId) (a0 : Addr) (a1 : Addr) : entryFrame m #[(.ref a0), (.ref a1)] 3 = mkF m 0 #[.val (.ref a0), .val (.ref a1), .unset] [] := by first | (simp [entryFrame, mkF, argsToLocals, Value.category]; done) | rfl
def Q_rm_aSN (Z : State) (a0 : Addr) (a1 : Addr) (b0 : Addr) (c0 : Int32) (k_b0 : ClassId) (z0 : Int32) (f0 : Nat → Int32) (b1 : Addr) (k_b1 : ClassId) (s0 : Nat → Int32) (w_COMPACT_STRINGS : Int32) (h0 : Heap) (n0 : Nat) (v : Option Value) (h : Heap) (L : List Loc) : Prop := v = some (.ref a0) ∧ Fr n0 L ∧ Keep h0 h [b0, a0] ∧ Fld Z h a0 "java/lang/AbstractStringBuilder" "value" "[B" (.ref b0) ∧ Fld Z h a0 "java/lang/AbstractStringBuilder" "coder" "B" (.int 0) ∧ Fld Z h a0 "java/lang/AbstractStringBuilder" "count" "I" (.int (c0 + ((1 : Int32) >>> ((0 : Int32) &&& 31)))) ∧ Arv Z h b0 k_b0 .byte z0 (own_ml z0 (own_cpy f0 (c0 <<< ((0 : Int32) &&& 31)) s0 (0 : Int32) (1 : Int32))) (.int 0)
set_option maxRecDepth 65536 in
set_option maxHeartbeats 40000000 in
theorem rm_aSN (l : Launch) (Z : State) (av0 : Array Value) (hw : ∀ d ∈ tables_1, d.before av0 Z = true) (ws : List Jvm.Cond) (a0 : Addr) (a1 : Addr) (b0 : Addr) (c0 : Int32) (k_b0 : ClassId) (z0 : Int32) (f0 : Nat → Int32) (b1 : Addr) (k_b1 : ClassId) (s0 : Nat → Int32) (w_COMPACT_STRINGS : Int32) (h0 : Heap) (n0 : Nat) (Z0 : n0 ≤ h0.size) (Ol0 : Old Z n0 h0) (X_a0 : Exa Z h0 a0 "java/lang/StringBuilder") (F_value_a0 : Fld Z h0 a0 "java/lang/AbstractStringBuilder" "value" "[B" (.ref b0)) (F_coder_a0 : Fld Z h0 a0 "java/lang/AbstractStringBuilder" "coder" "B" (.int 0)) (F_count_a0 : Fld Z h0 a0 "java/lang/AbstractStringBuilder" "count" "I" (.int c0)) (V_b0 : Arv Z h0 b0 k_b0 .byte z0 (own_ml z0 f0) (.int 0)) (X_b0 : Exa Z h0 b0 "[B") (X_a1 : Exa Z h0 a1 "java/lang/String") (F_coder_a1 : Fld Z h0 a1 "java/lang/String" "coder" "B" (.int 0)) (F_value_a1 : Fld Z h0 a1 "java/lang/String" "value" "[B" (.ref b1)) (V_b1 : Arv Z h0 b1 k_b1 .byte (1 : Int32) (own_ml (1 : Int32) s0) (.int 0)) (hcp : 0 ≤ c0.toInt ∧ c0.toInt + 1 ≤ z0.toInt) (S_COMPACT_STRINGS : Sta Z Z.heap "java/lang/String" "COMPACT_STRINGS" "Z" (.int w_COMPACT_STRINGS)) (hc0 : ¬ (w_COMPACT_STRINGS = 0)) (hc1 : ¬ ((0 : Int32) < ((c0 + ((1 : Int32) >>> ((0 : Int32) &&& 31))) - (z0 >>> ((0 : Int32) &&& 31))))) (g_b0 : n0 ≤ b0) (ne_a0_b0 : a0 ≠ b0) (g_a0 : n0 ≤ a0) (ne_b0_a0 : b0 ≠ a0) :
    own_MF l Z h0 yM23 (Jvm.Cond.code yM23 jdk_68_method_22_code 3 (some (.object "java/lang/AbstractStringBuilder")) :: ws) ({ frames := 3, cells := 0, slots := 0, locals := 69 } : Room) #[(.ref a0), (.ref a1)] (Q_rm_aSN Z a0 a1 b0 c0 k_b0 z0 f0 b1 k_b1 s0 w_COMPACT_STRINGS h0 n0) := by
  refine own_ent (own := "java/lang/AbstractStringBuilder") (plainFor_of_name pn_1) rfl ?_
  intro p e s m below meth c s₁ Bd hx hby hml hZ hh hown hnm X0 e0
  have N0 := Fr.nil n0
  have kp0 : Keep h0 h0 [b0, a0] := Keep.refl _ _
  refine oS (fun _ q => castTop (ef_rm_aSN m a0 a1) q) ?_
  show OF _ _ _ _ (s₁.setTop (mkF m 0 #[vr a0, vr a1, .unset] []))
  refine oS (fun _ q => XS.aloadN X0.here hx rfl (hb hby (d13 0)) rfl rfl (XS.ifnonnullYes X0.here hx rfl (pc0 := 1) (pc' := 9) rfl (hb hby (d13 1)) rfl (by decide) (by decide) (XS.aloadN X0.here hx rfl (hb hby (d13 2)) rfl rfl q))) ?_
  show OF _ _ _ _ (s₁.setTop (mkF m 10 _ _))
  obtain ⟨cq1, kq1, q1a, q1b, q1c⟩ := isOf hZ e0 X_a1
  obtain ⟨_, _, ⟨T1, L1, k1, n1⟩, -, X1, ⟨Lc1, hQ1, l1, y1, z1⟩, st1⟩ := X0.virtualBack hx (y := yM19) (z := yM19) hown (mvT hZ (w_ hw 105 rfl)) (mvT hZ (w_ hw 106 rfl)) (notFace_of_selects (args := #[]) (mvT hZ (w_ hw 108 rfl))) (mvT hZ (w_ hw 108 rfl)) (mvT hZ (w_ hw 107 rfl)) (by decide) (backOf (W := 0) (rm_len l Z av0 hw [] a1 b1 k_b1 (1 : Int32) s0 w_COMPACT_STRINGS h0 n0 (Nat.le_trans Z0 kp0.1) Ol0 X_a1 F_coder_a1 F_value_a1 V_b1 S_COMPACT_STRINGS hc0) hZ (w_ hw 109 rfl) (w_ hw 51 rfl) (by decide) (by decide)) q1a q1c (g := (mkF m 10 #[vr a0, vr a1, .unset] [(.ref a1)])) rfl (by rw [hml]; rfl) (Steps.refl _) (argsL := []) (rest := []) (lenOf pd_14 rfl) rfl (by show 2 * 0 + _ ≤ _; exact Nat.le_of_eq rfl) (hb hby (d13 3)) (fun _ _ => ⟨rfl, e0, (by decide : 0 + 0 ≤ _), (by decide : 0 + 0 ≤ _)⟩)
  dsimp only [Pt.U, Pt.locs, Pt.cells, Pt.slots] at X1 l1 y1 z1 st1 hQ1
  subst l1 y1 z1
  obtain ⟨rfl, N1q, he1⟩ := hQ1
  have N1 := Fr.app N0 N1q
  refine oT st1 ?_
  show OF _ _ _ _ (T1.setTop (mkF m 13 _ _))
  refine oS (fun _ q => XS.istoreN X1.here hx rfl (hb hby (d13 4)) rfl (l' := #[vr a0, vr a1, vi ((1 : Int32) >>> ((0 : Int32) &&& 31))]) rfl (XS.aloadN X1.here hx rfl (hb hby (d13 5)) rfl rfl (XS.aloadN X1.here hx rfl (hb hby (d13 6)) rfl rfl q))) ?_
  obtain ⟨T2, X2, e2, st2⟩ := getF X1 hx hZ hown (host := "") (Or.inl (w_ hw 67 rfl)) Via.refl he1 F_count_a0 (g := (mkF m 16 #[vr a0, vr a1, vi ((1 : Int32) >>> ((0 : Int32) &&& 31))] [(.ref a0), (.ref a0)])) rfl rfl (hb hby (d13 7))
  refine oS st2 ?_
  show OF _ _ _ _ (T2.setTop (mkF m 19 _ _))
  refine oS (fun _ q => XS.iloadN X2.here hx rfl (hb hby (d13 8)) rfl (XS.iadd X2.here hx rfl (hb hby (d13 9)) rfl q)) ?_
  show OF _ _ _ _ (T2.setTop (mkF m 21 _ _))
  obtain ⟨cq3, q3, q3'⟩ := X_a0.cell
  obtain ⟨_, _, ⟨T3, L3, k3, n3⟩, -, X3, ⟨Lc3, hQ3, l3, y3, z3⟩, st3⟩ := X2.privateBack hx (y := yM11) hown (mvT hZ (w_ hw 74 rfl)) (mvT hZ (w_ hw 75 rfl)) (mvT hZ (own_selp (w_ hw 75 rfl) (own_nfs (y' := yM0) rfl (w_ hw 82 rfl)) (Cond.privateMethod_at (w_ hw 76 rfl)) (by decide))) (Cond.privateMethod_at (mvP hZ (w_ hw 76 rfl) (args := #[]))) (mvT hZ (w_ hw 78 rfl)) (by decide) (backOf (W := 0) (rm_ecN l Z av0 hw [] a0 (c0 + ((1 : Int32) >>> ((0 : Int32) &&& 31))) b0 k_b0 z0 f0 h0 n0 (Nat.le_trans Z0 kp0.1) X_a0 F_value_a0 F_coder_a0 V_b0 X_b0 hc1) hZ (w_ hw 78 rfl) (w_ hw 47 rfl) (by decide) (by decide)) (g := (mkF m 21 #[vr a0, vr a1, vi ((1 : Int32) >>> ((0 : Int32) &&& 31))] [(.int (c0 + ((1 : Int32) >>> ((0 : Int32) &&& 31)))), (.ref a0)])) rfl (by rw [hml]; rfl) (Steps.refl _) (a := a0) (by rw [e2]; exact q3) q3' (argsL := [(.int (c0 + ((1 : Int32) >>> ((0 : Int32) &&& 31))))]) (rest := []) (lenOf pd_0 rfl) rfl (by show 2 * 0 + _ ≤ _; exact Nat.le_of_eq rfl) (hb hby (d13 10)) (fun _ _ => ⟨rfl, e2, (by decide : 0 + 0 ≤ _), (by decide : 0 + 0 ≤ _)⟩)
  dsimp only [Pt.U, Pt.locs, Pt.cells, Pt.slots] at X3 l3 y3 z3 st3 hQ3
  subst l3 y3 z3
  obtain ⟨rfl, N3q, he3⟩ := hQ3
  have N3 := Fr.app N1 N3q
  refine oT st3 ?_
  show OF _ _ _ _ (T3.setTop (mkF m 24 #[vr a0, vr a1, vi ((1 : Int32) >>> ((0 : Int32) &&& 31))] []))
  refine oS (fun _ q => XS.aloadN X3.here hx rfl (hb hby (d13 11)) rfl rfl (XS.aloadN X3.here hx rfl (hb hby (d13 12)) rfl rfl q)) ?_
  obtain ⟨T4, X4, e4, st4⟩ := getF X3 hx hZ hown (host := "") (Or.inl (w_ hw 67 rfl)) Via.refl he3 F_count_a0 (g := (mkF m 26 #[vr a0, vr a1, vi ((1 : Int32) >>> ((0 : Int32) &&& 31))] [(.ref a0), (.ref a0)])) rfl rfl (hb hby (d13 13))
  refine oS st4 ?_
  show OF _ _ _ _ (T4.setTop (mkF m 29 _ _))
  refine oS (fun _ q => XS.aloadN X4.here hx rfl (hb hby (d13 14)) rfl rfl q) ?_
  obtain ⟨cq5, q5, q5'⟩ := X_a0.cell
  obtain ⟨_, _, ⟨T5, L5, k5, n5⟩, -, X5, ⟨Lc5, hQ5, l5, y5, z5⟩, st5⟩ := X4.privateBack hx (y := yM22) hown (mvT hZ (w_ hw 118 rfl)) (mvT hZ (w_ hw 119 rfl)) (mvT hZ (own_selp (w_ hw 119 rfl) (own_nfs (y' := yM0) rfl (w_ hw 82 rfl)) (Cond.privateMethod_at (w_ hw 120 rfl)) (by decide))) (Cond.privateMethod_at (mvP hZ (w_ hw 120 rfl) (args := #[]))) (mvT hZ (w_ hw 122 rfl)) (by decide) (backOf (W := 0) (rm_psa l Z av0 hw [] a0 c0 a1 b0 k_b0 z0 f0 b1 k_b1 s0 w_COMPACT_STRINGS h0 n0 (Nat.le_trans Z0 kp0.1) Ol0 X_a0 F_value_a0 F_coder_a0 V_b0 X_b0 X_a1 F_coder_a1 F_value_a1 V_b1 hcp S_COMPACT_STRINGS hc0 g_b0) hZ (w_ hw 122 rfl) (w_ hw 47 rfl) (by decide) (by decide)) (g := (mkF m 30 #[vr a0, vr a1, vi ((1 : Int32) >>> ((0 : Int32) &&& 31))] [(.ref a1), (.int c0), (.ref a0)])) rfl (by rw [hml]; rfl) (Steps.refl _) (a := a0) (by rw [e4]; exact q5) q5' (argsL := [(.int c0), (.ref a1)]) (rest := []) (lenOf pd_15 rfl) rfl (by show 2 * 0 + _ ≤ _; exact Nat.le_of_eq rfl) (hb hby (d13 15)) (fun _ _ => ⟨rfl, e4, (by decide : 0 + 0 ≤ _), (by decide : 0 + 0 ≤ _)⟩)
  dsimp only [Pt.U, Pt.locs, Pt.cells, Pt.slots] at X5 l5 y5 z5 st5 hQ5
  subst l5 y5 z5
  obtain ⟨rfl, N5q, K5, r5_0⟩ := hQ5
  have N5 := Fr.app N3 N5q
  refine oT st5 ?_
  obtain ⟨h5, e5⟩ : ∃ z, T5.heap = z := ⟨_, rfl⟩
  rw [e5] at K5 r5_0
  have kp6 : Keep h0 h5 [b0, a0] := kp0.trans K5 (allS (Or.inl (List.mem_of_getElem? (i := 0) rfl)) all0)
  have ol6 : Old Z n0 h5 := Ol0.keep K5 (allS g_b0 all0)
  show OF _ _ _ _ (T5.setTop (mkF m 33 _ _))
  refine oS (fun _ q => XS.aloadN X5.here hx rfl (hb hby (d13 16)) rfl rfl (XS.dup X5.here hx rfl (hb hby (d13 17)) rfl rfl q)) ?_
  obtain ⟨T7, X7, e7, st7⟩ := getF X5 hx hZ hown (host := "") (Or.inl (w_ hw 67 rfl)) Via.refl e5 (F_count_a0.keep K5 (ninS ne_a0_b0 nin0)) (g := (mkF m 35 #[vr a0, vr a1, vi ((1 : Int32) >>> ((0 : Int32) &&& 31))] [(.ref a0), (.ref a0)])) rfl rfl (hb hby (d13 18))
  refine oS st7 ?_
  show OF _ _ _ _ (T7.setTop (mkF m 38 _ _))
  refine oS (fun _ q => XS.iloadN X7.here hx rfl (hb hby (d13 19)) rfl (XS.iadd X7.here hx rfl (hb hby (d13 20)) rfl q)) ?_
  obtain ⟨T8, h8, X8, e8, W8, st8⟩ := putF X7 hx hZ hown (host := "") (Or.inl (w_ hw 67 rfl)) Via.refl e7 (F_count_a0.keep K5 (ninS ne_a0_b0 nin0)) (X_a0.keep K5) (Or.inl (w_ hw 68 rfl)) (w_ hw 38 rfl) (ty := .int) (by decide) rfl rfl (g := (mkF m 40 #[vr a0, vr a1, vi ((1 : Int32) >>> ((0 : Int32) &&& 31))] [(.int (c0 + ((1 : Int32) >>> ((0 : Int32) &&& 31)))), (.ref a0)])) rfl rfl (hb hby (d13 21))
  refine oS st8 ?_
  have Fw8 : Fld Z h8 a0 "java/lang/AbstractStringBuilder" "count" "I" (.int (c0 + ((1 : Int32) >>> ((0 : Int32) &&& 31)))) := (F_count_a0.keep K5 (ninS ne_a0_b0 nin0)).same W8
  have N8 := Fr.snoc X8 N5 g_a0
  have kp9 : Keep h0 h8 [b0, a0] := kp6.wr W8 (Or.inl (List.mem_of_getElem? (i := 1) rfl))
  have ol9 : Old Z n0 h8 := ol6.wr W8 g_a0
  show OF _ _ _ _ (T8.setTop (mkF m 43 _ _))
  refine oS (fun _ q => XS.aloadN X8.here hx rfl (hb hby (d13 22)) rfl rfl q) ?_
  obtain ⟨fs, hr, hrun, hended, hW, hsame⟩ := X8.leave (v := some (.ref a0)) (fun h => by rw [Bd.returns] at h; cases h)
  refine ⟨_, _, retOut X8 hx Bd.returns rfl (Or.inr (Or.inr (Or.inr (Or.inr ⟨rfl, rfl, rfl⟩)))) (hb hby (d13 23)) hr, hrun, hended, _, _, rfl, ?_, ⟨_, rfl⟩, hW, hsame.mono (by decide) (by decide)⟩
  show Q_rm_aSN Z a0 a1 b0 c0 k_b0 z0 f0 b1 k_b1 s0 w_COMPACT_STRINGS h0 n0 _ T8.heap _
  rw [e8]
  have fr10 : Fld Z h8 a0 "java/lang/AbstractStringBuilder" "value" "[B" (.ref b0) := ((F_value_a0.keep K5 (ninS ne_a0_b0 nin0)).other W8 (Or.inr (slot_ne (Or.inl (w_ hw 54 rfl)) (Or.inl (w_ hw 68 rfl)) (by decide) (t := (.array .byte)) (t' := .int) (by decide) (by decide))))
  have fr11 : Fld Z h8 a0 "java/lang/AbstractStringBuilder" "coder" "B" (.int 0) := ((F_coder_a0.keep K5 (ninS ne_a0_b0 nin0)).other W8 (Or.inr (slot_ne (Or.inl (w_ hw 56 rfl)) (Or.inl (w_ hw 68 rfl)) (by decide) (t := .byte) (t' := .int) (by decide) (by decide))))
  exact ⟨rfl, N8, kp9, fr10, fr11, Fw8, (r5_0.other W8 ne_b0_a0)⟩
theorem pd_16 : parseMethodDescriptor "(Ljava/lang/String;)Ljava/lang/AbstractStringBuilder;" = some ⟨[(.object "java/lang/String")], some (.object "java/lang/AbstractStringBuilder")⟩ := by decide +kernel
abbrev C12 := jdk_67_method_7_code
def L12 : List (Nat × Instr × Nat) := [(0, .aload_n 0, 1), (1, .aload_n 1, 1), (2, .invokespecial 29, 3), (5, .pop, 1), (6, .aload_n 0, 1), (7, .areturn, 1)]
theorem d12 : ∀ i : Fin 6, decode C12 (L12.get i).1 = .ok (L12.get i).2 := by decide +kernel
theorem ef_rm_sSN (m : MethodId) (a0 : Addr) (a1 : Addr) : entryFrame m #[(.ref a0), (.ref a1)] 2 = mkF m 0 #[.val (.ref a0), .val (.ref a1)] [] := by first | (simp [entryFrame, mkF, argsToLocals, Value.category]; done) | rfl
def Q_rm_sSN (Z : State) (a0 : Addr) (a1 : Addr) (b0 : Addr) (c0 : Int32) (k_b0 : ClassId) (z0 : Int32) (f0 : Nat → Int32) (b1 : Addr) (k_b1 : ClassId) (s0 : Nat → Int32) (w_COMPACT_STRINGS : Int32) (h0 : Heap) (n0 : Nat) (v : Option Value) (h : Heap) (L : List Loc) : Prop := v = some (.ref a0) ∧ Fr n0 L ∧ Keep h0 h [a0, b0] ∧ Fld Z h a0 "java/lang/AbstractStringBuilder" "value" "[B" (.ref b0) ∧ Fld Z h a0 "java/lang/AbstractStringBuilder" "coder" "B" (.int 0) ∧ Fld Z h a0 "java/lang/AbstractStringBuilder" "count" "I" (.int (c0 + ((1 : Int32) >>> ((0 : Int32) &&& 31)))) ∧ Arv Z h b0 k_b0 .byte z0 (own_ml z0 (own_cpy f0 (c0 <<< ((0 : Int32) &&& 31)) s0 (0 : Int32) (1 : Int32))) (.int 0)
set_option maxRecDepth 65536 in
set_option maxHeartbeats 40000000 in
theorem rm_sSN (l : Launch) (Z : State) (av0 : Array Value) (hw : ∀ d ∈ tables_1, d.before av0 Z = true) (ws : List Jvm.Cond) (a0 : Addr) (a1 : Addr) (b0 : Addr) (c0 : Int32) (k_b0 : ClassId) (z0 : Int32) (f0 : Nat → Int32) (b1 : Addr) (k_b1 : ClassId) (s0 : Nat → Int32) (w_COMPACT_STRINGS : Int32) (h0 : Heap) (n0 : Nat) (Z0 : n0 ≤ h0.size) (Ol0 : Old Z n0 h0) (X_a0 : Exa Z h0 a0 "java/lang/StringBuilder") (F_value_a0 : Fld Z h0 a0 "java/lang/AbstractStringBuilder" "value" "[B" (.ref b0)) (F_coder_a0 : Fld Z h0 a0 "java/lang/AbstractStringBuilder" "coder" "B" (.int 0)) (F_count_a0 : Fld Z h0 a0 "java/lang/AbstractStringBuilder" "count" "I" (.int c0)) (V_b0 : Arv Z h0 b0 k_b0 .byte z0 (own_ml z0 f0) (.int 0)) (X_b0 : Exa Z h0 b0 "[B") (X_a1 : Exa Z h0 a1 "java/lang/String") (F_coder_a1 : Fld Z h0 a1 "java/lang/String" "coder" "B" (.int 0)) (F_value_a1 : Fld Z h0 a1 "java/lang/String" "value" "[B" (.ref b1)) (V_b1 : Arv Z h0 b1 k_b1 .byte (1 : Int32) (own_ml (1 : Int32) s0) (.int 0)) (hcp : 0 ≤ c0.toInt ∧ c0.toInt + 1 ≤ z0.toInt) (S_COMPACT_STRINGS : Sta Z Z.heap "java/lang/String" "COMPACT_STRINGS" "Z" (.int w_COMPACT_STRINGS)) (hc0 : ¬ (w_COMPACT_STRINGS = 0)) (hc1 : ¬ ((0 : Int32) < ((c0 + ((1 : Int32) >>> ((0 : Int32) &&& 31))) - (z0 >>> ((0 : Int32) &&& 31))))) (g_b0 : n0 ≤ b0) (ne_a0_b0 : a0 ≠ b0) (g_a0 : n0 ≤ a0) (ne_b0_a0 : b0 ≠ a0) :
    own_MF l Z h0 yM24 (Jvm.Cond.code yM24 jdk_67_method_7_code 2 (some (.object "java/lang/StringBuilder")) :: ws) ({ frames := 4, cells := 0, slots := 0, locals := 83 } : Room) #[(.ref a0), (.ref a1)] (Q_rm_sSN Z a0 a1 b0 c0 k_b0 z0 f0 b1 k_b1 s0 w_COMPACT_STRINGS h0 n0) := by
  refine own_ent (own := "java/lang/StringBuilder") (plainFor_of_name pn_2) rfl ?_
  intro p e s m below meth c s₁ Bd hx hby hml hZ hh hown hnm X0 e0
  have N0 := Fr.nil n0
  have kp0 : Keep h0 h0 [a0, b0] := Keep.refl _ _
  refine oS (fun _ q => castTop (ef_rm_sSN m a0 a1) q) ?_
  show OF _ _ _ _ (s₁.setTop (mkF m 0 #[vr a0, vr a1] []))
  refine oS (fun _ q => XS.aloadN X0.here hx rfl (hb hby (d12 0)) rfl rfl (XS.aloadN X0.here hx rfl (hb hby (d12 1)) rfl rfl q)) ?_
  show OF _ _ _ _ (s₁.setTop (mkF m 2 _ _))
  show OF _ _ _ _ (s₁.setTop (mkF m 2 _ _))
  obtain ⟨_, _, ⟨T1, L1, k1, n1⟩, -, X1, ⟨Lc1, hQ1, l1, y1, z1⟩, st1⟩ := superBack X0 hx hZ (y := yM23) hown (w_ hw 101 rfl) (own_same (w_ hw 102 rfl) (own_nfs (y' := yM0) rfl (w_ hw 82 rfl)) (by decide)) (w_ hw 102 rfl) (w_ hw 64 rfl) (by decide) (backOf (W := 0) (rm_aSN l Z av0 hw [] a0 a1 b0 c0 k_b0 z0 f0 b1 k_b1 s0 w_COMPACT_STRINGS h0 n0 (Nat.le_trans Z0 kp0.1) Ol0 X_a0 F_value_a0 F_coder_a0 F_count_a0 V_b0 X_b0 X_a1 F_coder_a1 F_value_a1 V_b1 hcp S_COMPACT_STRINGS hc0 hc1 g_b0 ne_a0_b0 g_a0 ne_b0_a0) hZ (w_ hw 104 rfl) (w_ hw 47 rfl) (by decide) (by decide)) e0 (Ins.self X_a0) (g := (mkF m 2 #[vr a0, vr a1] [(.ref a1), (.ref a0)])) rfl (by rw [hml]; rfl) (w_ hw 104 rfl) (argsL := [(.ref a1)]) (rest := []) (lenOf pd_16 rfl) rfl (by show 2 * 0 + _ ≤ _; exact Nat.le_of_eq rfl) (hb hby (d12 2)) (fun _ _ => ⟨rfl, e0, (by decide : 0 + 0 ≤ _), (by decide : 0 + 0 ≤ _)⟩)
  dsimp only [Pt.U, Pt.locs, Pt.cells, Pt.slots] at X1 l1 y1 z1 st1 hQ1
  subst l1 y1 z1
  obtain ⟨rfl, N1q, K1, r1_0, r1_1, r1_2, r1_3⟩ := hQ1
  have N1 := Fr.app N0 N1q
  refine oT st1 ?_
  obtain ⟨h1, e1⟩ : ∃ z, T1.heap = z := ⟨_, rfl⟩
  rw [e1] at K1 r1_0 r1_1 r1_2 r1_3
  have kp2 : Keep h0 h1 [a0, b0] := kp0.trans K1 (allS (Or.inl (List.mem_of_getElem? (i := 1) rfl)) (allS (Or.inl (List.mem_of_getElem? (i := 0) rfl)) all0))
  have ol2 : Old Z n0 h1 := Ol0.keep K1 (allS g_b0 (allS g_a0 all0))
  show OF _ _ _ _ (T1.setTop (mkF m 5 _ _))
  refine oS (fun _ q => XS.pop X1.here hx rfl (hb hby (d12 3)) rfl rfl (XS.aloadN X1.here hx rfl (hb hby (d12 4)) rfl rfl q)) ?_
  obtain ⟨fs, hr, hrun, hended, hW, hsame⟩ := X1.leave (v := some (.ref a0)) (fun h => by rw [Bd.returns] at h; cases h)
  refine ⟨_, _, retOut X1 hx Bd.returns rfl (Or.inr (Or.inr (Or.inr (Or.inr ⟨rfl, rfl, rfl⟩)))) (hb hby (d12 5)) hr, hrun, hended, _, _, rfl, ?_, ⟨_, rfl⟩, hW, hsame.mono (by decide) (by decide)⟩
  show Q_rm_sSN Z a0 a1 b0 c0 k_b0 z0 f0 b1 k_b1 s0 w_COMPACT_STRINGS h0 n0 _ T1.heap _
  rw [e1]
  exact ⟨rfl, N1, kp2, r1_0, r1_1, r1_2, r1_3⟩
theorem ef_rm_aSY (m : MethodId) (a0 : Addr) (a1 : Addr) : entryFrame m #[(.ref a0), (.ref a1)] 3 = mkF m 0 #[.val (.ref a0), .val (.ref a1), .unset] [] := by first | (simp [entryFrame, mkF, argsToLocals, Value.category]; done) | rfl
def Q_rm_aSY (Z : State) (a0 : Addr) (a1 : Addr) (b0 : Addr) (c0 : Int32) (k_b0 : ClassId) (f0 : Nat → Int32) (b1 : Addr) (k_b1 : ClassId) (s0 : Nat → Int32) (w_COMPACT_STRINGS : Int32) (h0 : Heap) (n0 : Nat) (v : Option Value) (h : Heap) (L : List Loc) : Prop := ∃ c3_0 : Addr, ∃ kc3_1 : ClassId, v = some (.ref a0) ∧ Fr n0 L ∧ Keep h0 h [a0] ∧ h0.size ≤ c3_0 ∧ Fld Z h a0 "java/lang/AbstractStringBuilder" "value" "[B" (.ref c3_0) ∧ Fld Z h a0 "java/lang/AbstractStringBuilder" "coder" "B" (.int 0) ∧ Fld Z h a0 "java/lang/AbstractStringBuilder" "count" "I" (.int (c0 + ((1 : Int32) >>> ((0 : Int32) &&& 31)))) ∧ Exa Z h c3_0 "[B" ∧ Arv Z h c3_0 kc3_1 .byte (34 : Int32) (own_ml (34 : Int32) (own_cpy f0 (c0 <<< ((0 : Int32) &&& 31)) s0 (0 : Int32) (1 : Int32))) (.int 0)
set_option maxRecDepth 65536 in
set_option maxHeartbeats 40000000 in
theorem rm_aSY (l : Launch) (Z : State) (av0 : Array Value) (hw : ∀ d ∈ tables_1, d.before av0 Z = true) (ws : List Jvm.Cond) (a0 : Addr) (a1 : Addr) (b0 : Addr) (c0 : Int32) (k_b0 : ClassId) (f0 : Nat → Int32) (b1 : Addr) (k_b1 : ClassId) (s0 : Nat → Int32) (w_COMPACT_STRINGS : Int32) (h0 : Heap) (n0 : Nat) (Z0 : n0 ≤ h0.size) (Ol0 : Old Z n0 h0) (X_a0 : Exa Z h0 a0 "java/lang/StringBuilder") (F_value_a0 : Fld Z h0 a0 "java/lang/AbstractStringBuilder" "value" "[B" (.ref b0)) (F_coder_a0 : Fld Z h0 a0 "java/lang/AbstractStringBuilder" "coder" "B" (.int 0)) (F_count_a0 : Fld Z h0 a0 "java/lang/AbstractStringBuilder" "count" "I" (.int c0)) (V_b0 : Arv Z h0 b0 k_b0 .byte (16 : Int32) (own_ml (16 : Int32) f0) (.int 0)) (X_b0 : Exa Z h0 b0 "[B") (X_a1 : Exa Z h0 a1 "java/lang/String") (F_coder_a1 : Fld Z h0 a1 "java/lang/String" "coder" "B" (.int 0)) (F_value_a1 : Fld Z h0 a1 "java/lang/String" "value" "[B" (.ref b1)) (V_b1 : Arv Z h0 b1 k_b1 .byte (1 : Int32) (own_ml (1 : Int32) s0) (.int 0)) (hcp : 0 ≤ c0.toInt ∧ c0.toInt + 1 ≤ (34 : Int32).toInt) (hpp : 16 < (c0 + ((1 : Int32) >>> ((0 : Int32) &&& 31))).toInt ∧ (c0 + ((1 : Int32) >>> ((0 : Int32) &&& 31))).toInt ≤ 34) (hf : ∀ i, 16 ≤ i → f0 i = 0) (S_COMPACT_STRINGS : Sta Z Z.heap "java/lang/String" "COMPACT_STRINGS" "Z" (.int w_COMPACT_STRINGS)) (hc0 : ¬ (w_COMPACT_STRINGS = 0)) (hc1 : (0 : Int32) < ((c0 + ((1 : Int32) >>> ((0 : Int32) &&& 31))) - ((16 : Int32) >>> ((0 : Int32) &&& 31)))) (g_a0 : n0 ≤ a0) (ne_a1_a0 : a1 ≠ a0) (ne_b1_a0 : b1 ≠ a0) :
    own_MF l Z h0 yM23 (Jvm.Cond.code yM23 jdk_68_method_22_code 3 (some (.object "java/lang/AbstractStringBuilder")) :: ws) ({ frames := 4, cells := 1, slots := 34, locals := 69 } : Room) #[(.ref a0), (.ref a1)] (Q_rm_aSY Z a0 a1 b0 c0 k_b0 f0 b1 k_b1 s0 w_COMPACT_STRINGS h0 n0) := by
  refine own_ent (own := "java/lang/AbstractStringBuilder") (plainFor_of_name pn_1) rfl ?_
  intro p e s m below meth c s₁ Bd hx hby hml hZ hh hown hnm X0 e0
  have N0 := Fr.nil n0
  have kp0 : Keep h0 h0 [a0] := Keep.refl _ _
  refine oS (fun _ q => castTop (ef_rm_aSY m a0 a1) q) ?_
  show OF _ _ _ _ (s₁.setTop (mkF m 0 #[vr a0, vr a1, .unset] []))
  refine oS (fun _ q => XS.aloadN X0.here hx rfl (hb hby (d13 0)) rfl rfl (XS.ifnonnullYes X0.here hx rfl (pc0 := 1) (pc' := 9) rfl (hb hby (d13 1)) rfl (by decide) (by decide) (XS.aloadN X0.here hx rfl (hb hby (d13 2)) rfl rfl q))) ?_
  show OF _ _ _ _ (s₁.setTop (mkF m 10 _ _))
  obtain ⟨cq1, kq1, q1a, q1b, q1c⟩ := isOf hZ e0 X_a1
  obtain ⟨_, _, ⟨T1, L1, k1, n1⟩, -, X1, ⟨Lc1, hQ1, l1, y1, z1⟩, st1⟩ := X0.virtualBack hx (y := yM19) (z := yM19) hown (mvT hZ (w_ hw 105 rfl)) (mvT hZ (w_ hw 106 rfl)) (notFace_of_selects (args := #[]) (mvT hZ (w_ hw 108 rfl))) (mvT hZ (w_ hw 108 rfl)) (mvT hZ (w_ hw 107 rfl)) (by decide) (backOf (W := 0) (rm_len l Z av0 hw [] a1 b1 k_b1 (1 : Int32) s0 w_COMPACT_STRINGS h0 n0 (Nat.le_trans Z0 kp0.1) Ol0 X_a1 F_coder_a1 F_value_a1 V_b1 S_COMPACT_STRINGS hc0) hZ (w_ hw 109 rfl) (w_ hw 51 rfl) (by decide) (by decide)) q1a q1c (g := (mkF m 10 #[vr a0, vr a1, .unset] [(.ref a1)])) rfl (by rw [hml]; rfl) (Steps.refl _) (argsL := []) (rest := []) (lenOf pd_14 rfl) rfl (by show 2 * 0 + _ ≤ _; exact Nat.le_of_eq rfl) (hb hby (d13 3)) (fun _ _ => ⟨rfl, e0, (by decide : 0 + 0 ≤ _), (by decide : 0 + 0 ≤ _)⟩)
  dsimp only [Pt.U, Pt.locs, Pt.cells, Pt.slots] at X1 l1 y1 z1 st1 hQ1
  subst l1 y1 z1
  obtain ⟨rfl, N1q, he1⟩ := hQ1
  have N1 := Fr.app N0 N1q
  refine oT st1 ?_
  show OF _ _ _ _ (T1.setTop (mkF m 13 _ _))
  refine oS (fun _ q => XS.istoreN X1.here hx rfl (hb hby (d13 4)) rfl (l' := #[vr a0, vr a1, vi ((1 : Int32) >>> ((0 : Int32) &&& 31))]) rfl (XS.aloadN X1.here hx rfl (hb hby (d13 5)) rfl rfl (XS.aloadN X1.here hx rfl (hb hby (d13 6)) rfl rfl q))) ?_
  obtain ⟨T2, X2, e2, st2⟩ := getF X1 hx hZ hown (host := "") (Or.inl (w_ hw 67 rfl)) Via.refl he1 F_count_a0 (g := (mkF m 16 #[vr a0, vr a1, vi ((1 : Int32) >>> ((0 : Int32) &&& 31))] [(.ref a0), (.ref a0)])) rfl rfl (hb hby (d13 7))
  refine oS st2 ?_
  show OF _ _ _ _ (T2.setTop (mkF m 19 _ _))
  refine oS (fun _ q => XS.iloadN X2.here hx rfl (hb hby (d13 8)) rfl (XS.iadd X2.here hx rfl (hb hby (d13 9)) rfl q)) ?_
  show OF _ _ _ _ (T2.setTop (mkF m 21 _ _))
  obtain ⟨cq3, q3, q3'⟩ := X_a0.cell
  obtain ⟨_, _, ⟨T3, L3, k3, n3⟩, -, X3, ⟨Lc3, hQ3, l3, y3, z3⟩, st3⟩ := X2.privateBack hx (y := yM11) hown (mvT hZ (w_ hw 74 rfl)) (mvT hZ (w_ hw 75 rfl)) (mvT hZ (own_selp (w_ hw 75 rfl) (own_nfs (y' := yM0) rfl (w_ hw 82 rfl)) (Cond.privateMethod_at (w_ hw 76 rfl)) (by decide))) (Cond.privateMethod_at (mvP hZ (w_ hw 76 rfl) (args := #[]))) (mvT hZ (w_ hw 78 rfl)) (by decide) (backOf (W := 0) (rm_ecY l Z av0 hw [] a0 (c0 + ((1 : Int32) >>> ((0 : Int32) &&& 31))) b0 c0 k_b0 f0 h0 n0 (Nat.le_trans Z0 kp0.1) X_a0 F_value_a0 F_coder_a0 F_count_a0 V_b0 X_b0 hpp hf hc1 g_a0) hZ (w_ hw 78 rfl) (w_ hw 47 rfl) (by decide) (by decide)) (g := (mkF m 21 #[vr a0, vr a1, vi ((1 : Int32) >>> ((0 : Int32) &&& 31))] [(.int (c0 + ((1 : Int32) >>> ((0 : Int32) &&& 31)))), (.ref a0)])) rfl (by rw [hml]; rfl) (Steps.refl _) (a := a0) (by rw [e2]; exact q3) q3' (argsL := [(.int (c0 + ((1 : Int32) >>> ((0 : Int32) &&& 31))))]) (rest := []) (lenOf pd_0 rfl) rfl (by show 2 * 0 + _ ≤ _; exact Nat.le_of_eq rfl) (hb hby (d13 10)) (fun _ _ => ⟨rfl, e2, (by decide : 0 + 1 ≤ _), (by decide : 0 + 34 ≤ _)⟩)
  dsimp only [Pt.U, Pt.locs, Pt.cells, Pt.slots] at X3 l3 y3 z3 st3 hQ3
  subst l3 y3 z3
  obtain ⟨c3_0, kc3_1, rfl, N3q, K3, r3_0, r3_1, r3_2, r3_3, r3_4, r3_5⟩ := hQ3
  have N3 := Fr.app N1 N3q
  refine oT st3 ?_
  obtain ⟨h3, e3⟩ : ∃ z, T3.heap = z := ⟨_, rfl⟩
  rw [e3] at K3 r3_1 r3_2 r3_3 r3_4 r3_5
  have bi_c3_0 : h0.size ≤ c3_0 := r3_0
  have lo_c3_0 : h0.size ≤ c3_0 := Nat.le_trans kp0.1 bi_c3_0
  have g_c3_0 : n0 ≤ c3_0 := Nat.le_trans Z0 lo_c3_0
  have kp4 : Keep h0 h3 [a0] := kp0.trans K3 (allS (Or.inl (List.mem_of_getElem? (i := 0) rfl)) all0)
  have ol4 : Old Z n0 h3 := Ol0.keep K3 (allS g_a0 all0)
  show OF _ _ _ _ (T3.setTop (mkF m 24 #[vr a0, vr a1, vi ((1 : Int32) >>> ((0 : Int32) &&& 31))] []))
  refine oS (fun _ q => XS.aloadN X3.here hx rfl (hb hby (d13 11)) rfl rfl (XS.aloadN X3.here hx rfl (hb hby (d13 12)) rfl rfl q)) ?_
  obtain ⟨T5, X5, e5, st5⟩ := getF X3 hx hZ hown (host := "") (Or.inl (w_ hw 67 rfl)) Via.refl e3 r3_3 (g := (mkF m 26 #[vr a0, vr a1, vi ((1 : Int32) >>> ((0 : Int32) &&& 31))] [(.ref a0), (.ref a0)])) rfl rfl (hb hby (d13 13))
  refine oS st5 ?_
  show OF _ _ _ _ (T5.setTop (mkF m 29 _ _))
  refine oS (fun _ q => XS.aloadN X5.here hx rfl (hb hby (d13 14)) rfl rfl q) ?_
  obtain ⟨cq6, q6, q6'⟩ := (X_a0.keep K3).cell
  obtain ⟨_, _, ⟨T6, L6, k6, n6⟩, -, X6, ⟨Lc6, hQ6, l6, y6, z6⟩, st6⟩ := X5.privateBack hx (y := yM22) hown (mvT hZ (w_ hw 118 rfl)) (mvT hZ (w_ hw 119 rfl)) (mvT hZ (own_selp (w_ hw 119 rfl) (own_nfs (y' := yM0) rfl (w_ hw 82 rfl)) (Cond.privateMethod_at (w_ hw 120 rfl)) (by decide))) (Cond.privateMethod_at (mvP hZ (w_ hw 120 rfl) (args := #[]))) (mvT hZ (w_ hw 122 rfl)) (by decide) (backOf (W := 0) (rm_psa l Z av0 hw [] a0 c0 a1 c3_0 kc3_1 (34 : Int32) f0 b1 k_b1 s0 w_COMPACT_STRINGS h3 n0 (Nat.le_trans Z0 kp4.1) ol4 (X_a0.keep K3) r3_1 r3_2 r3_4 r3_5 (X_a1.keep K3) (F_coder_a1.keep K3 (ninS ne_a1_a0 nin0)) (F_value_a1.keep K3 (ninS ne_a1_a0 nin0)) (V_b1.keep K3 (ninS ne_b1_a0 nin0)) hcp S_COMPACT_STRINGS hc0 g_c3_0) hZ (w_ hw 122 rfl) (w_ hw 47 rfl) (by decide) (by decide)) (g := (mkF m 30 #[vr a0, vr a1, vi ((1 : Int32) >>> ((0 : Int32) &&& 31))] [(.ref a1), (.int c0), (.ref a0)])) rfl (by rw [hml]; rfl) (Steps.refl _) (a := a0) (by rw [e5]; exact q6) q6' (argsL := [(.int c0), (.ref a1)]) (rest := []) (lenOf pd_15 rfl) rfl (by show 2 * 0 + _ ≤ _; exact Nat.le_of_eq rfl) (hb hby (d13 15)) (fun _ _ => ⟨rfl, e5, (by decide : 1 + 0 ≤ _), (by decide : 34 + 0 ≤ _)⟩)
  dsimp only [Pt.U, Pt.locs, Pt.cells, Pt.slots] at X6 l6 y6 z6 st6 hQ6
  subst l6 y6 z6
  obtain ⟨rfl, N6q, K6, r6_0⟩ := hQ6
  have N6 := Fr.app N3 N6q
  refine oT st6 ?_
  obtain ⟨h6, e6⟩ : ∃ z, T6.heap = z := ⟨_, rfl⟩
  rw [e6] at K6 r6_0
  have kp7 : Keep h0 h6 [a0] := kp4.trans K6 (allS (Or.inr lo_c3_0) all0)
  have ol7 : Old Z n0 h6 := ol4.keep K6 (allS g_c3_0 all0)
  show OF _ _ _ _ (T6.setTop (mkF m 33 _ _))
  refine oS (fun _ q => XS.aloadN X6.here hx rfl (hb hby (d13 16)) rfl rfl (XS.dup X6.here hx rfl (hb hby (d13 17)) rfl rfl q)) ?_
  have fr8 : Fld Z h6 a0 "java/lang/AbstractStringBuilder" "count" "I" (.int c0) := (r3_3.keep K6 (ninS (Nat.ne_of_lt (Nat.lt_of_lt_of_le X_a0.lt bi_c3_0)) nin0))
  obtain ⟨T9, X9, e9, st9⟩ := getF X6 hx hZ hown (host := "") (Or.inl (w_ hw 67 rfl)) Via.refl e6 fr8 (g := (mkF m 35 #[vr a0, vr a1, vi ((1 : Int32) >>> ((0 : Int32) &&& 31))] [(.ref a0), (.ref a0)])) rfl rfl (hb hby (d13 18))
  refine oS st9 ?_
  show OF _ _ _ _ (T9.setTop (mkF m 38 _ _))
  refine oS (fun _ q => XS.iloadN X9.here hx rfl (hb hby (d13 19)) rfl (XS.iadd X9.here hx rfl (hb hby (d13 20)) rfl q)) ?_
  obtain ⟨T10, h10, X10, e10, W10, st10⟩ := putF X9 hx hZ hown (host := "") (Or.inl (w_ hw 67 rfl)) Via.refl e9 fr8 ((X_a0.keep K3).keep K6) (Or.inl (w_ hw 68 rfl)) (w_ hw 38 rfl) (ty := .int) (by decide) rfl rfl (g := (mkF m 40 #[vr a0, vr a1, vi ((1 : Int32) >>> ((0 : Int32) &&& 31))] [(.int (c0 + ((1 : Int32) >>> ((0 : Int32) &&& 31)))), (.ref a0)])) rfl rfl (hb hby (d13 21))
  refine oS st10 ?_
  have Fw10 : Fld Z h10 a0 "java/lang/AbstractStringBuilder" "count" "I" (.int (c0 + ((1 : Int32) >>> ((0 : Int32) &&& 31)))) := fr8.same W10
  have N10 := Fr.snoc X10 N6 g_a0
  have kp11 : Keep h0 h10 [a0] := kp7.wr W10 (Or.inl (List.mem_of_getElem? (i := 0) rfl))
  have ol11 : Old Z n0 h10 := ol7.wr W10 g_a0
  show OF _ _ _ _ (T10.setTop (mkF m 43 _ _))
  refine oS (fun _ q => XS.aloadN X10.here hx rfl (hb hby (d13 22)) rfl rfl q) ?_
  obtain ⟨fs, hr, hrun, hended, hW, hsame⟩ := X10.leave (v := some (.ref a0)) (fun h => by rw [Bd.returns] at h; cases h)
  refine ⟨_, _, retOut X10 hx Bd.returns rfl (Or.inr (Or.inr (Or.inr (Or.inr ⟨rfl, rfl, rfl⟩)))) (hb hby (d13 23)) hr, hrun, hended, _, _, rfl, ?_, ⟨_, rfl⟩, hW, hsame.mono (by decide) (by decide)⟩
  show Q_rm_aSY Z a0 a1 b0 c0 k_b0 f0 b1 k_b1 s0 w_COMPACT_STRINGS h0 n0 _ T10.heap _
  rw [e10]
  have fr12 : Fld Z h10 a0 "java/lang/AbstractStringBuilder" "value" "[B" (.ref c3_0) := ((r3_1.keep K6 (ninS (Nat.ne_of_lt (Nat.lt_of_lt_of_le X_a0.lt bi_c3_0)) nin0)).other W10 (Or.inr (slot_ne (Or.inl (w_ hw 54 rfl)) (Or.inl (w_ hw 68 rfl)) (by decide) (t := (.array .byte)) (t' := .int) (by decide) (by decide))))
  have fr13 : Fld Z h10 a0 "java/lang/AbstractStringBuilder" "coder" "B" (.int 0) := ((r3_2.keep K6 (ninS (Nat.ne_of_lt (Nat.lt_of_lt_of_le X_a0.lt bi_c3_0)) nin0)).other W10 (Or.inr (slot_ne (Or.inl (w_ hw 56 rfl)) (Or.inl (w_ hw 68 rfl)) (by decide) (t := .byte) (t' := .int) (by decide) (by decide))))
  have fr14 : Arv Z h10 c3_0 kc3_1 .byte (34 : Int32) (own_ml (34 : Int32) (own_cpy f0 (c0 <<< ((0 : Int32) &&& 31)) s0 (0 : Int32) (1 : Int32))) (.int 0) := (r6_0.other W10 (Ne.symm (Nat.ne_of_lt (Nat.lt_of_lt_of_le X_a0.lt bi_c3_0))))
  exact ⟨c3_0, kc3_1, rfl, N10, kp11, lo_c3_0, fr12, fr13, Fw10, ((r3_5.keep K6).wr W10), fr14⟩
theorem ef_rm_sSY (m : MethodId) (a0 : Addr) (a1 : Addr) : entryFrame m #[(.ref a0), (.ref a1)] 2 = mkF m 0 #[.val (.ref a0), .val (.ref a1)] [] := by first | (simp [entryFrame, mkF, argsToLocals, Value.category]; done) | rfl
def Q_rm_sSY (Z : State) (a0 : Addr) (a1 : Addr) (b0 : Addr) (c0 : Int32) (k_b0 : ClassId) (f0 : Nat → Int32) (b1 : Addr) (k_b1 : ClassId) (s0 : Nat → Int32) (w_COMPACT_STRINGS : Int32) (h0 : Heap) (n0 : Nat) (v : Option Value) (h : Heap) (L : List Loc) : Prop := ∃ c1_0 : Addr, ∃ kc1_1 : ClassId, v = some (.ref a0) ∧ Fr n0 L ∧ Keep h0 h [a0] ∧ h0.size ≤ c1_0 ∧ Fld Z h a0 "java/lang/AbstractStringBuilder" "value" "[B" (.ref c1_0) ∧ Fld Z h a0 "java/lang/AbstractStringBuilder" "coder" "B" (.int 0) ∧ Fld Z h a0 "java/lang/AbstractStringBuilder" "count" "I" (.int (c0 + ((1 : Int32) >>> ((0 : Int32) &&& 31)))) ∧ Exa Z h c1_0 "[B" ∧ Arv Z h c1_0 kc1_1 .byte (34 : Int32) (own_ml (34 : Int32) (own_cpy f0 (c0 <<< ((0 : Int32) &&& 31)) s0 (0 : Int32) (1 : Int32))) (.int 0)
set_option maxRecDepth 65536 in
set_option maxHeartbeats 40000000 in
theorem rm_sSY (l : Launch) (Z : State) (av0 : Array Value) (hw : ∀ d ∈ tables_1, d.before av0 Z = true) (ws : List Jvm.Cond) (a0 : Addr) (a1 : Addr) (b0 : Addr) (c0 : Int32) (k_b0 : ClassId) (f0 : Nat → Int32) (b1 : Addr) (k_b1 : ClassId) (s0 : Nat → Int32) (w_COMPACT_STRINGS : Int32) (h0 : Heap) (n0 : Nat) (Z0 : n0 ≤ h0.size) (Ol0 : Old Z n0 h0) (X_a0 : Exa Z h0 a0 "java/lang/StringBuilder") (F_value_a0 : Fld Z h0 a0 "java/lang/AbstractStringBuilder" "value" "[B" (.ref b0)) (F_coder_a0 : Fld Z h0 a0 "java/lang/AbstractStringBuilder" "coder" "B" (.int 0)) (F_count_a0 : Fld Z h0 a0 "java/lang/AbstractStringBuilder" "count" "I" (.int c0)) (V_b0 : Arv Z h0 b0 k_b0 .byte (16 : Int32) (own_ml (16 : Int32) f0) (.int 0)) (X_b0 : Exa Z h0 b0 "[B") (X_a1 : Exa Z h0 a1 "java/lang/String") (F_coder_a1 : Fld Z h0 a1 "java/lang/String" "coder" "B" (.int 0)) (F_value_a1 : Fld Z h0 a1 "java/lang/String" "value" "[B" (.ref b1)) (V_b1 : Arv Z h0 b1 k_b1 .byte (1 : Int32) (own_ml (1 : Int32) s0) (.int 0)) (hcp : 0 ≤ c0.toInt ∧ c0.toInt + 1 ≤ (34 : Int32).toInt) (hpp : 16 < (c0 + ((1 : Int32) >>> ((0 : Int32) &&& 31))).toInt ∧ (c0 + ((1 : Int32) >>> ((0 : Int32) &&& 31))).toInt ≤ 34) (hf : ∀ i, 16 ≤ i → f0 i = 0) (S_COMPACT_STRINGS : Sta Z Z.heap "java/lang/String" "COMPACT_STRINGS" "Z" (.int w_COMPACT_STRINGS)) (hc0 : ¬ (w_COMPACT_STRINGS = 0)) (hc1 : (0 : Int32) < ((c0 + ((1 : Int32) >>> ((0 : Int32) &&& 31))) - ((16 : Int32) >>> ((0 : Int32) &&& 31)))) (g_a0 : n0 ≤ a0) (ne_a1_a0 : a1 ≠ a0) (ne_b1_a0 : b1 ≠ a0) :
    own_MF l Z h0 yM24 (Jvm.Cond.code yM24 jdk_67_method_7_code 2 (some (.object "java/lang/StringBuilder")) :: ws) ({ frames := 5, cells := 1, slots := 34, locals := 83 } : Room) #[(.ref a0), (.ref a1)] (Q_rm_sSY Z a0 a1 b0 c0 k_b0 f0 b1 k_b1 s0 w_COMPACT_STRINGS h0 n0) := by
  refine own_ent (own := "java/lang/StringBuilder") (plainFor_of_name pn_2) rfl ?_
  intro p e s m below meth c s₁ Bd hx hby hml hZ hh hown hnm X0 e0
  have N0 := Fr.nil n0
  have kp0 : Keep h0 h0 [a0] := Keep.refl _ _
  refine oS (fun _ q => castTop (ef_rm_sSY m a0 a1) q) ?_
  show OF _ _ _ _ (s₁.setTop (mkF m 0 #[vr a0, vr a1] []))
  refine oS (fun _ q => XS.aloadN X0.here hx rfl (hb hby (d12 0)) rfl rfl (XS.aloadN X0.here hx rfl (hb hby (d12 1)) rfl rfl q)) ?_
  show OF _ _ _ _ (s₁.setTop (mkF m 2 _ _))
  show OF _ _ _ _ (s₁.setTop (mkF m 2 _ _))
  obtain ⟨_, _, ⟨T1, L1, k1, n1⟩, -, X1, ⟨Lc1, hQ1, l1, y1, z1⟩, st1⟩ := superBack X0 hx hZ (y := yM23) hown (w_ hw 101 rfl) (own_same (w_ hw 102 rfl) (own_nfs (y' := yM0) rfl (w_ hw 82 rfl)) (by decide)) (w_ hw 102 rfl) (w_ hw 64 rfl) (by decide) (backOf (W := 0) (rm_aSY l Z av0 hw [] a0 a1 b0 c0 k_b0 f0 b1 k_b1 s0 w_COMPACT_STRINGS h0 n0 (Nat.le_trans Z0 kp0.1) Ol0 X_a0 F_value_a0 F_coder_a0 F_count_a0 V_b0 X_b0 X_a1 F_coder_a1 F_value_a1 V_b1 hcp hpp hf S_COMPACT_STRINGS hc0 hc1 g_a0 ne_a1_a0 ne_b1_a0) hZ (w_ hw 104 rfl) (w_ hw 47 rfl) (by decide) (by decide)) e0 (Ins.self X_a0) (g := (mkF m 2 #[vr a0, vr a1] [(.ref a1), (.ref a0)])) rfl (by rw [hml]; rfl) (w_ hw 104 rfl) (argsL := [(.ref a1)]) (rest := []) (lenOf pd_16 rfl) rfl (by show 2 * 0 + _ ≤ _; exact Nat.le_of_eq rfl) (hb hby (d12 2)) (fun _ _ => ⟨rfl, e0, (by decide : 0 + 1 ≤ _), (by decide : 0 + 34 ≤ _)⟩)
  dsimp only [Pt.U, Pt.locs, Pt.cells, Pt.slots] at X1 l1 y1 z1 st1 hQ1
  subst l1 y1 z1
  obtain ⟨c1_0, kc1_1, rfl, N1q, K1, r1_0, r1_1, r1_2, r1_3, r1_4, r1_5⟩ := hQ1
  have N1 := Fr.app N0 N1q
  refine oT st1 ?_
  obtain ⟨h1, e1⟩ : ∃ z, T1.heap = z := ⟨_, rfl⟩
  rw [e1] at K1 r1_1 r1_2 r1_3 r1_4 r1_5
  have bi_c1_0 : h0.size ≤ c1_0 := r1_0
  have lo_c1_0 : h0.size ≤ c1_0 := Nat.le_trans kp0.1 bi_c1_0
  have g_c1_0 : n0 ≤ c1_0 := Nat.le_trans Z0 lo_c1_0
  have kp2 : Keep h0 h1 [a0] := kp0.trans K1 (allS (Or.inl (List.mem_of_getElem? (i := 0) rfl)) all0)
  have ol2 : Old Z n0 h1 := Ol0.keep K1 (allS g_a0 all0)
  show OF _ _ _ _ (T1.setTop (mkF m 5 _ _))
  refine oS (fun _ q => XS.pop X1.here hx rfl (hb hby (d12 3)) rfl rfl (XS.aloadN X1.here hx rfl (hb hby (d12 4)) rfl rfl q)) ?_
  obtain ⟨fs, hr, hrun, hended, hW, hsame⟩ := X1.leave (v := some (.ref a0)) (fun h => by rw [Bd.returns] at h; cases h)
  refine ⟨_, _, retOut X1 hx Bd.returns rfl (Or.inr (Or.inr (Or.inr (Or.inr ⟨rfl, rfl, rfl⟩)))) (hb hby (d12 5)) hr, hrun, hended, _, _, rfl, ?_, ⟨_, rfl⟩, hW, hsame.mono (by decide) (by decide)⟩
  show Q_rm_sSY Z a0 a1 b0 c0 k_b0 f0 b1 k_b1 s0 w_COMPACT_STRINGS h0 n0 _ T1.heap _
  rw [e1]
  exact ⟨c1_0, kc1_1, rfl, N1, kp2, lo_c1_0, r1_1, r1_2, r1_3, r1_4, r1_5⟩
abbrev C26 := jdk_68_method_64_code
def L26 : List (Nat × Instr × Nat) := [(0, .aload_n 0, 1), (1, .getfield 15, 3), (4, .areturn, 1)]
theorem d26 : ∀ i : Fin 3, decode C26 (L26.get i).1 = .ok (L26.get i).2 := by decide +kernel
theorem ef_rm_gv (m : MethodId) (a0 : Addr) : entryFrame m #[(.ref a0)] 1 = mkF m 0 #[.val (.ref a0)] [] := by first | (simp [entryFrame, mkF, argsToLocals, Value.category]; done) | rfl
def Q_rm_gv (Z : State) (a0 : Addr) (b0 : Addr) (h0 : Heap) (n0 : Nat) (v : Option Value) (h : Heap) (L : List Loc) : Prop := v = some (.ref b0) ∧ Fr n0 L ∧ h = h0
set_option maxRecDepth 65536 in
set_option maxHeartbeats 40000000 in
theorem rm_gv (l : Launch) (Z : State) (av0 : Array Value) (hw : ∀ d ∈ tables_1, d.before av0 Z = true) (ws : List Jvm.Cond) (a0 : Addr) (b0 : Addr) (h0 : Heap) (n0 : Nat) (Z0 : n0 ≤ h0.size) (X_a0 : Exa Z h0 a0 "java/lang/StringBuilder") (F_value_a0 : Fld Z h0 a0 "java/lang/AbstractStringBuilder" "value" "[B" (.ref b0)) :
    own_MF l Z h0 yM25 (Jvm.Cond.code yM25 jdk_68_method_64_code 1 (some (.array .byte)) :: ws) ({ frames := 0, cells := 0, slots := 0, locals := 0 } : Room) #[(.ref a0)] (Q_rm_gv Z a0 b0 h0 n0) := by
  refine own_ent (own := "java/lang/AbstractStringBuilder") (plainFor_of_name pn_1) rfl ?_
  intro p e s m below meth c s₁ Bd hx hby hml hZ hh hown hnm X0 e0
  have N0 := Fr.nil n0
  have kp0 : Keep h0 h0 [] := Keep.refl _ _
  refine oS (fun _ q => castTop (ef_rm_gv m a0) q) ?_
  show OF _ _ _ _ (s₁.setTop (mkF m 0 #[vr a0] []))
  refine oS (fun _ q => XS.aloadN X0.here hx rfl (hb hby (d26 0)) rfl rfl q) ?_
  obtain ⟨T1, X1, e1, st1⟩ := getF X0 hx hZ hown (host := "") (Or.inl (w_ hw 53 rfl)) Via.refl e0 F_value_a0 (g := (mkF m 1 #[vr a0] [(.ref a0)])) rfl rfl (hb hby (d26 1))
  refine oS st1 ?_
  show OF _ _ _ _ (T1.setTop (mkF m 4 _ _))
  obtain ⟨fs, hr, hrun, hended, hW, hsame⟩ := X1.leave (v := some (.ref b0)) (fun h => by rw [Bd.returns] at h; cases h)
  refine ⟨_, _, retOut X1 hx Bd.returns rfl (Or.inr (Or.inr (Or.inr (Or.inr ⟨rfl, rfl, rfl⟩)))) (hb hby (d26 2)) hr, hrun, hended, _, _, rfl, ?_, ⟨_, rfl⟩, hW, hsame.mono (by decide) (by decide)⟩
  show Q_rm_gv Z a0 b0 h0 n0 _ T1.heap _
  rw [e1]
  exact ⟨rfl, N0, rfl⟩
abbrev C28 := jdk_68_method_6_code
def L28 : List (Nat × Instr × Nat) := [(0, .aload_n 0, 1), (1, .getfield 79, 3), (4, .ireturn, 1)]
theorem d28 : ∀ i : Fin 3, decode C28 (L28.get i).1 = .ok (L28.get i).2 := by decide +kernel
theorem ef_rm_al (m : MethodId) (a0 : Addr) : entryFrame m #[(.ref a0)] 1 = mkF m 0 #[.val (.ref a0)] [] := by first | (simp [entryFrame, mkF, argsToLocals, Value.category]; done) | rfl
def Q_rm_al (Z : State) (a0 : Addr) (c0 : Int32) (h0 : Heap) (n0 : Nat) (v : Option Value) (h : Heap) (L : List Loc) : Prop := v = some (.int c0) ∧ Fr n0 L ∧ h = h0
set_option maxRecDepth 65536 in
set_option maxHeartbeats 40000000 in
theorem rm_al (l : Launch) (Z : State) (av0 : Array Value) (hw : ∀ d ∈ tables_1, d.before av0 Z = true) (ws : List Jvm.Cond) (a0 : Addr) (c0 : Int32) (h0 : Heap) (n0 : Nat) (Z0 : n0 ≤ h0.size) (X_a0 : Exa Z h0 a0 "java/lang/StringBuilder") (F_count_a0 : Fld Z h0 a0 "java/lang/AbstractStringBuilder" "count" "I" (.int c0)) :
    own_MF l Z h0 yM26 (Jvm.Cond.code yM26 jdk_68_method_6_code 1 (some .int) :: ws) ({ frames := 0, cells := 0, slots := 0, locals := 0 } : Room) #[(.ref a0)] (Q_rm_al Z a0 c0 h0 n0) := by
  refine own_ent (own := "java/lang/AbstractStringBuilder") (plainFor_of_name pn_1) rfl ?_
  intro p e s m below meth c s₁ Bd hx hby hml hZ hh hown hnm X0 e0
  have N0 := Fr.nil n0
  have kp0 : Keep h0 h0 [] := Keep.refl _ _
  refine oS (fun _ q => castTop (ef_rm_al m a0) q) ?_
  show OF _ _ _ _ (s₁.setTop (mkF m 0 #[vr a0] []))
  refine oS (fun _ q => XS.aloadN X0.here hx rfl (hb hby (d28 0)) rfl rfl q) ?_
  obtain ⟨T1, X1, e1, st1⟩ := getF X0 hx hZ hown (host := "") (Or.inl (w_ hw 67 rfl)) Via.refl e0 F_count_a0 (g := (mkF m 1 #[vr a0] [(.ref a0)])) rfl rfl (hb hby (d28 1))
  refine oS st1 ?_
  show OF _ _ _ _ (T1.setTop (mkF m 4 _ _))
  obtain ⟨fs, hr, hrun, hended, hW, hsame⟩ := X1.leave (v := some (.int c0)) (fun h => by rw [Bd.returns] at h; cases h)
  refine ⟨_, _, retI X1 hx Bd.returns (hb hby (d28 2)) hr, hrun, hended, _, _, rfl, ?_, ⟨_, rfl⟩, hW, hsame.mono (by decide) (by decide)⟩
  show Q_rm_al Z a0 c0 h0 n0 _ T1.heap _
  rw [e1]
  exact ⟨rfl, N0, rfl⟩
abbrev C27 := jdk_67_method_93_code
def L27 : List (Nat × Instr × Nat) := [(0, .aload_n 0, 1), (1, .invokespecial 343, 3), (4, .ireturn, 1)]
theorem d27 : ∀ i : Fin 3, decode C27 (L27.get i).1 = .ok (L27.get i).2 := by decide +kernel
theorem ef_rm_sl (m : MethodId) (a0 : Addr) : entryFrame m #[(.ref a0)] 1 = mkF m 0 #[.val (.ref a0)] [] := by first | (simp [entryFrame, mkF, argsToLocals, Value.category]; done) | rfl
def Q_rm_sl (Z : State) (a0 : Addr) (c0 : Int32) (h0 : Heap) (n0 : Nat) (v : Option Value) (h : Heap) (L : List Loc) : Prop := v = some (.int c0) ∧ Fr n0 L ∧ h = h0
set_option maxRecDepth 65536 in
set_option maxHeartbeats 40000000 in
theorem rm_sl (l : Launch) (Z : State) (av0 : Array Value) (hw : ∀ d ∈ tables_1, d.before av0 Z = true) (ws : List Jvm.Cond) (a0 : Addr) (c0 : Int32) (h0 : Heap) (n0 : Nat) (Z0 : n0 ≤ h0.size) (X_a0 : Exa Z h0 a0 "java/lang/StringBuilder") (F_count_a0 : Fld Z h0 a0 "java/lang/AbstractStringBuilder" "count" "I" (.int c0)) :
    own_MF l Z h0 yM27 (Jvm.Cond.code yM27 jdk_67_method_93_code 1 (some .int) :: ws) ({ frames := 1, cells := 0, slots := 0, locals := 12 } : Room) #[(.ref a0)] (Q_rm_sl Z a0 c0 h0 n0) := by
  refine own_ent (own := "java/lang/StringBuilder") (plainFor_of_name pn_2) rfl ?_
  intro p e s m below meth c s₁ Bd hx hby hml hZ hh hown hnm X0 e0
  have N0 := Fr.nil n0
  have kp0 : Keep h0 h0 [] := Keep.refl _ _
  refine oS (fun _ q => castTop (ef_rm_sl m a0) q) ?_
  show OF _ _ _ _ (s₁.setTop (mkF m 0 #[vr a0] []))
  refine oS (fun _ q => XS.aloadN X0.here hx rfl (hb hby (d27 0)) rfl rfl q) ?_
  obtain ⟨_, _, ⟨T1, L1, k1, n1⟩, -, X1, ⟨Lc1, hQ1, l1, y1, z1⟩, st1⟩ := superBack X0 hx hZ (y := yM26) hown (w_ hw 179 rfl) (own_same (w_ hw 175 rfl) (own_nfs (y' := yM0) rfl (w_ hw 82 rfl)) (by decide)) (w_ hw 175 rfl) (w_ hw 64 rfl) (by decide) (backOf (W := 0) (rm_al l Z av0 hw [] a0 c0 h0 n0 (Nat.le_trans Z0 kp0.1) X_a0 F_count_a0) hZ (w_ hw 180 rfl) (w_ hw 47 rfl) (by decide) (by decide)) e0 (Ins.self X_a0) (g := (mkF m 1 #[vr a0] [(.ref a0)])) rfl (by rw [hml]; rfl) (w_ hw 180 rfl) (argsL := []) (rest := []) (lenOf pd_14 rfl) rfl (by show 2 * 0 + _ ≤ _; exact Nat.le_of_eq rfl) (hb hby (d27 1)) (fun _ _ => ⟨rfl, e0, (by decide : 0 + 0 ≤ _), (by decide : 0 + 0 ≤ _)⟩)
  dsimp only [Pt.U, Pt.locs, Pt.cells, Pt.slots] at X1 l1 y1 z1 st1 hQ1
  subst l1 y1 z1
  obtain ⟨rfl, N1q, he1⟩ := hQ1
  have N1 := Fr.app N0 N1q
  refine oT st1 ?_
  show OF _ _ _ _ (T1.setTop (mkF m 4 _ _))
  obtain ⟨fs, hr, hrun, hended, hW, hsame⟩ := X1.leave (v := some (.int c0)) (fun h => by rw [Bd.returns] at h; cases h)
  refine ⟨_, _, retI X1 hx Bd.returns (hb hby (d27 2)) hr, hrun, hended, _, _, rfl, ?_, ⟨_, rfl⟩, hW, hsame.mono (by decide) (by decide)⟩
  show Q_rm_sl Z a0 c0 h0 n0 _ T1.heap _
  rw [he1]
  exact ⟨rfl, N1, rfl⟩
abbrev C31 := jdk_65_method_131_code
def L31 : List (Nat × Instr × Nat) := [(0, .iload_n 1, 1), (1, .iload_n 0, 1), (2, .if_icmp .ge 35, 3), (37, .return_, 1)]
theorem d31 : ∀ i : Fin 4, decode C31 (L31.get i).1 = .ok (L31.get i).2 := by decide +kernel
theorem ef_rm_cl (m : MethodId) (p1 : Int32) : entryFrame m #[(.int 0), (.int p1)] 2 = mkF m 0 #[.val (.int 0), .val (.int p1)] [] := by first | (simp [entryFrame, mkF, argsToLocals, Value.category]; done) | rfl
def Q_rm_cl (Z : State) (p1 : Int32) (h0 : Heap) (n0 : Nat) (v : Option Value) (h : Heap) (L : List Loc) : Prop := v = none ∧ Fr n0 L ∧ h = h0
set_option maxRecDepth 65536 in
set_option maxHeartbeats 40000000 in
theorem rm_cl (l : Launch) (Z : State) (av0 : Array Value) (hw : ∀ d ∈ tables_1, d.before av0 Z = true) (ws : List Jvm.Cond) (p1 : Int32) (h0 : Heap) (n0 : Nat) (Z0 : n0 ≤ h0.size) (hc0 : ¬ (p1 < 0)) :
    own_MF l Z h0 yM28 (Jvm.Cond.code yM28 jdk_65_method_131_code 2 none :: ws) ({ frames := 0, cells := 0, slots := 0, locals := 0 } : Room) #[(.int 0), (.int p1)] (Q_rm_cl Z p1 h0 n0) := by
  refine own_ent (own := "java/util/Arrays") (plainFor_of_name pn_6) rfl ?_
  intro p e s m below meth c s₁ Bd hx hby hml hZ hh hown hnm X0 e0
  have N0 := Fr.nil n0
  have kp0 : Keep h0 h0 [] := Keep.refl _ _
  refine oS (fun _ q => castTop (ef_rm_cl m p1) q) ?_
  show OF _ _ _ _ (s₁.setTop (mkF m 0 #[vi 0, vi p1] []))
  refine oS (fun _ q => XS.iloadN X0.here hx rfl (hb hby (d31 0)) rfl (XS.iloadN X0.here hx rfl (hb hby (d31 1)) rfl (XS.icmpYes X0.here hx rfl (pc0 := 2) (pc' := 37) rfl (hb hby (d31 2)) rfl (Jvm.Free.XT.ii_ge_t hc0) (by decide) (by decide) q))) ?_
  show OF _ _ _ _ (s₁.setTop (mkF m 37 _ _))
  obtain ⟨fs, hr, hrun, hended, hW, hsame⟩ := X0.leave (v := none) (fun _ => rfl)
  refine ⟨_, _, X0.returnOut hx Bd.returns (hb hby (d31 3)) hr, hrun, hended, _, _, rfl, ?_, ⟨_, rfl⟩, hW, hsame.mono (by decide) (by decide)⟩
  show Q_rm_cl Z p1 h0 n0 _ s₁.heap _
  rw [e0]
  exact ⟨rfl, N0, rfl⟩
theorem own_s0 (p : Int32) : p - 0 = p := by
  have a := c_isub p (0 : Int32); have a' := rng32 (p - 0); have b := rng32 p; have r : (0 : Int32).toInt = 0 := rfl; rw [← Int32.toInt_inj]; omega
theorem own_cr1 {p z : Int32} (h : 0 ≤ p.toInt ∧ p.toInt < z.toInt ∧ p.toInt ≤ 34) : ¬ p < 0 := by have r : (0 : Int32).toInt = 0 := rfl; rw [Int32.lt_iff_toInt_lt]; omega
theorem own_cr2 {p z : Int32} (h : 0 ≤ p.toInt ∧ p.toInt < z.toInt ∧ p.toInt ≤ 34) : ¬ (p - 0) < 0 ∧ (p - 0).toNatClampNeg ≤ 34 := by
  rw [own_s0]; have r : (0 : Int32).toInt = 0 := rfl; refine ⟨by rw [Int32.lt_iff_toInt_lt]; omega, ?_⟩; simp only [Int32.toNatClampNeg]; omega
theorem own_cr3 {p z : Int32} (h : 0 ≤ p.toInt ∧ p.toInt < z.toInt ∧ p.toInt ≤ 34) : (p - 0) < (z - 0) := by rw [own_s0, own_s0, Int32.lt_iff_toInt_lt]; omega
theorem own_cr4 {p z : Int32} (h : 0 ≤ p.toInt ∧ p.toInt < z.toInt ∧ p.toInt ≤ 34) : (0 : Int32).toNatClampNeg + (p - 0).toNatClampNeg ≤ z.toNatClampNeg := by
  rw [own_s0]; have r : (0 : Int32).toNatClampNeg = 0 := rfl; rw [r]; simp only [Int32.toNatClampNeg]; omega
theorem own_cr5 (p : Int32) : (0 : Int32).toNatClampNeg + (p - 0).toNatClampNeg ≤ (p - 0).toNatClampNeg := by have r : (0 : Int32).toNatClampNeg = 0 := rfl; rw [r]; omega
theorem pd_17 : parseMethodDescriptor "(II)V" = some ⟨[.int, .int], none⟩ := by decide +kernel
abbrev C30 := jdk_65_method_133_code
def L30 : List (Nat × Instr × Nat) := [(0, .iload_n 1, 1), (1, .iload_n 2, 1), (2, .invokestatic 343, 3), (5, .iload_n 2, 1), (6, .iload_n 1, 1), (7, .isub, 1), (8, .istore_n 3, 1), (9, .iload_n 3, 1), (10, .newarray .byte, 2), (12, .astore 4, 2), (14, .aload_n 0, 1), (15, .iload_n 1, 1), (16, .aload 4, 2), (18, .iconst 0, 1), (19, .aload_n 0, 1), (20, .arraylength, 1), (21, .iload_n 1, 1), (22, .isub, 1), (23, .iload_n 3, 1), (24, .invokestatic 304, 3), (27, .invokestatic 150, 3), (30, .aload 4, 2), (32, .areturn, 1)]
theorem d30 : ∀ i : Fin 23, decode C30 (L30.get i).1 = .ok (L30.get i).2 := by decide +kernel
theorem ef_rm_crb (m : MethodId) (a0 : Addr) (p2 : Int32) : entryFrame m #[(.ref a0), (.int 0), (.int p2)] 5 = mkF m 0 #[.val (.ref a0), .val (.int 0), .val (.int p2), .unset, .unset] [] := by first | (simp [entryFrame, mkF, argsToLocals, Value.category]; done) | rfl
def Q_rm_crb (Z : State) (a0 : Addr) (p2 : Int32) (k_a0 : ClassId) (z0 : Int32) (f0 : Nat → Int32) (h0 : Heap) (n0 : Nat) (v : Option Value) (h : Heap) (L : List Loc) : Prop := ∃ b2 : Addr, ∃ k2 : ClassId, v = some (.ref b2) ∧ Fr n0 L ∧ Keep h0 h [] ∧ h0.size ≤ b2 ∧ Arv Z h b2 k2 .byte (p2 - 0) (own_ml (p2 - 0) (own_cpy own_zf (0 : Int32) f0 (0 : Int32) (p2 - 0))) (.int 0) ∧ Exa Z h b2 "[B"
set_option maxRecDepth 65536 in
set_option maxHeartbeats 40000000 in
theorem rm_crb (l : Launch) (Z : State) (av0 : Array Value) (hw : ∀ d ∈ tables_1, d.before av0 Z = true) (ws : List Jvm.Cond) (a0 : Addr) (p2 : Int32) (k_a0 : ClassId) (z0 : Int32) (f0 : Nat → Int32) (h0 : Heap) (n0 : Nat) (Z0 : n0 ≤ h0.size) (V_a0 : Arv Z h0 a0 k_a0 .byte z0 (own_ml z0 f0) (.int 0)) (hr : 0 ≤ p2.toInt ∧ p2.toInt < z0.toInt ∧ p2.toInt ≤ 34) :
    own_MF l Z h0 yM29 (Jvm.Cond.code yM29 jdk_65_method_133_code 5 (some (.array .byte)) :: ws) ({ frames := 1, cells := 1, slots := 34, locals := 40 } : Room) #[(.ref a0), (.int 0), (.int p2)] (Q_rm_crb Z a0 p2 k_a0 z0 f0 h0 n0) := by
  refine own_ent (own := "java/util/Arrays") (plainFor_of_name pn_6) rfl ?_
  intro p e s m below meth c s₁ Bd hx hby hml hZ hh hown hnm X0 e0
  have N0 := Fr.nil n0
  have kp0 : Keep h0 h0 [] := Keep.refl _ _
  refine oS (fun _ q => castTop (ef_rm_crb m a0 p2) q) ?_
  show OF _ _ _ _ (s₁.setTop (mkF m 0 #[vr a0, vi 0, vi p2, .unset, .unset] []))
  refine oS (fun _ q => XS.iloadN X0.here hx rfl (hb hby (d30 0)) rfl (XS.iloadN X0.here hx rfl (hb hby (d30 1)) rfl q)) ?_
  obtain ⟨_, _, ⟨T1, L1, k1, n1⟩, -, X1, ⟨Lc1, hQ1, l1, y1, z1⟩, st1⟩ := Jvm.LawKit.callS X0 hx (y := yM28) hown (mvT hZ (w_ hw 189 rfl)) (mvT hZ (w_ hw 190 rfl)) (mvT hZ (w_ hw 184 rfl)) (mvT hZ (w_ hw 191 rfl)) (by decide) (backOf (W := 0) (rm_cl l Z av0 hw [] p2 h0 n0 (Nat.le_trans Z0 kp0.1) (own_cr1 hr)) hZ (w_ hw 191 rfl) (w_ hw 184 rfl) (by decide) (by decide)) (g := (mkF m 2 #[vr a0, vi 0, vi p2, .unset, .unset] [(.int p2), (.int 0)])) rfl (by rw [hml]; rfl) (argsL := [(.int 0), (.int p2)]) (rest := []) (lenOf pd_17 rfl) rfl (by show 2 * 0 + _ ≤ _; exact Nat.le_of_eq rfl) (hb hby (d30 2)) (fun _ _ => ⟨rfl, e0, (by decide : 0 + 0 ≤ _), (by decide : 0 + 0 ≤ _)⟩)
  dsimp only [Pt.U, Pt.locs, Pt.cells, Pt.slots] at X1 l1 y1 z1 st1 hQ1
  subst l1 y1 z1
  obtain ⟨rfl, N1q, he1⟩ := hQ1
  have N1 := Fr.app N0 N1q
  refine oS st1 ?_
  show OF _ _ _ _ (T1.setTop (mkF m 5 _ _))
  refine oS (fun _ q => XS.iloadN X1.here hx rfl (hb hby (d30 3)) rfl (XS.iloadN X1.here hx rfl (hb hby (d30 4)) rfl (XS.isub X1.here hx rfl (hb hby (d30 5)) rfl (XS.istoreN X1.here hx rfl (hb hby (d30 6)) rfl (l' := #[vr a0, vi 0, vi p2, vi (p2 - 0), .unset]) rfl (XS.iloadN X1.here hx rfl (hb hby (d30 7)) rfl q))))) ?_
  obtain ⟨T2, h2, k2, X2, e2, E2, A2, XE2, st2⟩ := newPE X1 hx hZ (w_ hw 52 rfl) he1 (g := (mkF m 10 #[vr a0, vi 0, vi p2, vi (p2 - 0), .unset] [(.int (p2 - 0))])) rfl (hb hby (d30 8)) rfl (own_cr2 hr).1 (cap := 34) (own_cr2 hr).2 (by decide) (by decide) (by decide) (ad := "[B") (by decide)
  obtain ⟨b2, qe2⟩ : ∃ z, z = h0.size := ⟨_, rfl⟩
  rw [← qe2] at A2 st2 XE2
  refine oS st2 ?_
  have bi_b2 : h0.size ≤ b2 := Nat.le_of_eq qe2.symm
  have lo_b2 : h0.size ≤ b2 := Nat.le_trans kp0.1 bi_b2
  have g_b2 : n0 ≤ b2 := Nat.le_trans Z0 lo_b2
  have kp3 : Keep h0 h2 [] := kp0.ext E2
  have V2 : Arv Z h2 b2 k2 .byte (p2 - 0) (own_ml (p2 - 0) own_zf) (.int 0) := (Arv.new A2 (own_cr2 hr).1).pad (own_mlnew _)
  show OF _ _ _ _ (T2.setTop (mkF m 12 _ _))
  refine oS (fun _ q => XS.astore X2.here hx rfl (hb hby (d30 9)) rfl rfl (l' := #[vr a0, vi 0, vi p2, vi (p2 - 0), vr b2]) rfl (XS.aloadN X2.here hx rfl (hb hby (d30 10)) rfl rfl (XS.iloadN X2.here hx rfl (hb hby (d30 11)) rfl (XS.aload X2.here hx rfl (hb hby (d30 12)) rfl rfl q)))) ?_
  show OF _ _ _ _ (T2.setTop (mkF m 18 #[vr a0, vi 0, vi p2, vi (p2 - 0), vr b2] [(.ref b2), (.int 0), (.ref a0)]))
  refine oS (fun _ q => XS.iconst X2.here hx rfl (hb hby (d30 13)) (XS.aloadN X2.here hx rfl (hb hby (d30 14)) rfl rfl q)) ?_
  have Vo4 : Arv Z h2 a0 k_a0 .byte z0 (own_ml z0 f0) (.int 0) := (V_a0.ext E2)
  obtain ⟨cl4, Ar4, qa4, Sa4, Na4, Ha4, Ga4⟩ := id Vo4
  refine oS (X2.arraylength hx (by rw [e2]; exact Ar4.1) (State.isArrayOf_alike (hZ).alike Ar4.2.1) (g := (mkF m 20 #[vr a0, vi 0, vi p2, vi (p2 - 0), vr b2] [(.ref a0), (.int 0), (.ref b2), (.int 0), (.ref a0)])) rfl rfl (hb hby (d30 15))) ?_
  rw [len_of Sa4 Na4]
  show OF _ _ _ _ (T2.setTop (mkF m 21 _ _))
  refine oS (fun _ q => XS.iloadN X2.here hx rfl (hb hby (d30 16)) rfl (XS.isub X2.here hx rfl (hb hby (d30 17)) rfl (XS.iloadN X2.here hx rfl (hb hby (d30 18)) rfl q))) ?_
  obtain ⟨_, _, ⟨T5, L5, k5, n5⟩, -, X5, ⟨Lc5, hQ5, l5, y5, z5⟩, st5⟩ := Jvm.LawKit.callS X2 hx (y := yM9) hown (mvT hZ (w_ hw 192 rfl)) (mvT hZ (w_ hw 193 rfl)) (mvT hZ (w_ hw 194 rfl)) (mvT hZ (w_ hw 195 rfl)) (by decide) (backOf (W := 4) (rm_minA l Z av0 hw [] (z0 - 0) (p2 - 0) h2 n0 (Nat.le_trans Z0 kp3.1) (own_cr3 hr)) hZ (w_ hw 195 rfl) (w_ hw 194 rfl) (by decide) (by decide)) (g := (mkF m 24 #[vr a0, vi 0, vi p2, vi (p2 - 0), vr b2] [(.int (p2 - 0)), (.int (z0 - 0)), (.int 0), (.ref b2), (.int 0), (.ref a0)])) rfl (by rw [hml]; rfl) (argsL := [(.int (z0 - 0)), (.int (p2 - 0))]) (rest := [(.int 0), (.ref b2), (.int 0), (.ref a0)]) (lenOf pd_1 rfl) rfl (by show 2 * 0 + _ ≤ _; exact Nat.le_of_eq rfl) (hb hby (d30 19)) (fun _ _ => ⟨rfl, e2, (by decide : 1 + 0 ≤ _), (by decide : 34 + 0 ≤ _)⟩)
  dsimp only [Pt.U, Pt.locs, Pt.cells, Pt.slots] at X5 l5 y5 z5 st5 hQ5
  subst l5 y5 z5
  obtain ⟨rfl, N5q, he5⟩ := hQ5
  have N5 := Fr.app N1 N5q
  refine oS st5 ?_
  show OF _ _ _ _ (T5.setTop (mkF m 27 _ _))
  have As6 : Arv Z h2 a0 k_a0 .byte z0 (own_ml z0 f0) (.int 0) := (V_a0.ext E2)
  have Bs6 : Arv Z h2 b2 k2 .byte (p2 - 0) (own_ml (p2 - 0) own_zf) (.int 0) := V2
  have hq6 : (0 : Int32).toNatClampNeg + (p2 - 0).toNatClampNeg ≤ z0.toNatClampNeg := (own_cr4 hr)
  have hr6 : (0 : Int32).toNatClampNeg + (p2 - 0).toNatClampNeg ≤ (p2 - 0).toNatClampNeg := (own_cr5 _)
  obtain ⟨T6, h6, Lc6, X6, e6, N6, K6, Vr6, st6⟩ := cpA X5 hx hZ hown (w_ hw 196 rfl) (w_ hw 137 rfl) (w_ hw 135 rfl) (w_ hw 136 rfl) he5 As6 Bs6 (Or.inl ⟨rfl, rfl⟩) (by decide) (by decide) (own_cr2 hr).1 hq6 hr6 rfl (by rw [own_mllen]; exact hr6) N5 g_b2 (g := (mkF m 27 #[vr a0, vi 0, vi p2, vi (p2 - 0), vr b2] [(.int (p2 - 0)), (.int 0), (.ref b2), (.int 0), (.ref a0)])) rfl (by rw [hml]; rfl) rfl (hb hby (d30 20)) (by decide) (W := 0) (by show 2 * 0 + _ ≤ _; exact Nat.le_of_eq rfl) (by decide +kernel)
  refine oS st6 ?_
  have kp7 : Keep h0 h6 [] := kp3.trans K6 (allS (Or.inr lo_b2) all0)
  have Vc6 : Arv Z h6 b2 k2 .byte (p2 - 0) (own_ml (p2 - 0) (own_cpy own_zf (0 : Int32) f0 (0 : Int32) (p2 - 0))) (.int 0) := by
    rw [own_mlcpy hq6 hr6] at Vr6; exact Vr6
  show OF _ _ _ _ (T6.setTop (mkF m 30 _ _))
  refine oS (fun _ q => XS.aload X6.here hx rfl (hb hby (d30 21)) rfl rfl q) ?_
  obtain ⟨fs, hr, hrun, hended, hW, hsame⟩ := X6.leave (v := some (.ref b2)) (fun h => by rw [Bd.returns] at h; cases h)
  refine ⟨_, _, retOut X6 hx Bd.returns rfl (Or.inr (Or.inr (Or.inr (Or.inr ⟨rfl, rfl, rfl⟩)))) (hb hby (d30 22)) hr, hrun, hended, _, _, rfl, ?_, ⟨_, rfl⟩, hW, hsame.mono (by decide) (by decide)⟩
  show Q_rm_crb Z a0 p2 k_a0 z0 f0 h0 n0 _ T6.heap _
  rw [e6]
  exact ⟨b2, k2, rfl, N6, kp7, lo_b2, Vc6, (XE2.keep K6)⟩
abbrev C29 := jdk_65_method_132_code
def L29 : List (Nat × Instr × Nat) := [(0, .iload_n 1, 1), (1, .ifCond .ne 9, 3), (4, .iload_n 2, 1), (5, .aload_n 0, 1), (6, .arraylength, 1), (7, .if_icmp .eq 10, 3), (10, .aload_n 0, 1), (11, .iload_n 1, 1), (12, .iload_n 2, 1), (13, .invokestatic 339, 3), (16, .areturn, 1), (17, .aload_n 0, 1), (18, .invokevirtual 310, 3), (21, .checkcast 311, 3), (24, .areturn, 1)]
theorem d29 : ∀ i : Fin 15, decode C29 (L29.get i).1 = .ok (L29.get i).2 := by decide +kernel
theorem ef_rm_crC (m : MethodId) (a0 : Addr) (p2 : Int32) : entryFrame m #[(.ref a0), (.int 0), (.int p2)] 3 = mkF m 0 #[.val (.ref a0), .val (.int 0), .val (.int p2)] [] := by first | (simp [entryFrame, mkF, argsToLocals, Value.category]; done) | rfl
def Q_rm_crC (Z : State) (a0 : Addr) (p2 : Int32) (k_a0 : ClassId) (f0 : Nat → Int32) (h0 : Heap) (n0 : Nat) (v : Option Value) (h : Heap) (L : List Loc) : Prop := ∃ b2 : Addr, v = some (.ref b2) ∧ Fr n0 L ∧ Keep h0 h [] ∧ h0.size ≤ b2 ∧ Arv Z h b2 k_a0 .byte (16 : Int32) (own_ml (16 : Int32) f0) (.int 0) ∧ Exa Z h b2 "[B"
set_option maxRecDepth 65536 in
set_option maxHeartbeats 40000000 in
theorem rm_crC (l : Launch) (Z : State) (av0 : Array Value) (hw : ∀ d ∈ tables_1, d.before av0 Z = true) (ws : List Jvm.Cond) (a0 : Addr) (p2 : Int32) (k_a0 : ClassId) (f0 : Nat → Int32) (h0 : Heap) (n0 : Nat) (Z0 : n0 ≤ h0.size) (V_a0 : Arv Z h0 a0 k_a0 .byte (16 : Int32) (own_ml (16 : Int32) f0) (.int 0)) (X_a0 : Exa Z h0 a0 "[B") (hc0 : p2 = 16) :
    own_MF l Z h0 yM30 (Jvm.Cond.code yM30 jdk_65_method_132_code 3 (some (.array .byte)) :: ws) ({ frames := 1, cells := 1, slots := 16, locals := 14 } : Room) #[(.ref a0), (.int 0), (.int p2)] (Q_rm_crC Z a0 p2 k_a0 f0 h0 n0) := by
  refine own_ent (own := "java/util/Arrays") (plainFor_of_name pn_6) rfl ?_
  intro p e s m below meth c s₁ Bd hx hby hml hZ hh hown hnm X0 e0
  have N0 := Fr.nil n0
  have kp0 : Keep h0 h0 [] := Keep.refl _ _
  refine oS (fun _ q => castTop (ef_rm_crC m a0 p2) q) ?_
  show OF _ _ _ _ (s₁.setTop (mkF m 0 #[vr a0, vi 0, vi p2] []))
  refine oS (fun _ q => XS.iloadN X0.here hx rfl (hb hby (d29 0)) rfl (XS.ifNo X0.here hx rfl (hb hby (d29 1)) rfl (Jvm.Free.XT.i0_ne_f (rfl : (0 : Int32) = (0 : Int32))) q)) ?_
  show OF _ _ _ _ (s₁.setTop (mkF m 4 _ _))
  refine oS (fun _ q => XS.iloadN X0.here hx rfl (hb hby (d29 2)) rfl (XS.aloadN X0.here hx rfl (hb hby (d29 3)) rfl rfl q)) ?_
  have Vo1 : Arv Z h0 a0 k_a0 .byte (16 : Int32) (own_ml (16 : Int32) f0) (.int 0) := V_a0
  obtain ⟨cl1, Ar1, qa1, Sa1, Na1, Ha1, Ga1⟩ := id Vo1
  refine oS (X0.arraylength hx (by rw [e0]; exact Ar1.1) (State.isArrayOf_alike (hZ).alike Ar1.2.1) (g := (mkF m 6 #[vr a0, vi 0, vi p2] [(.ref a0), (.int p2)])) rfl rfl (hb hby (d29 4))) ?_
  rw [len_of Sa1 Na1]
  show OF _ _ _ _ (s₁.setTop (mkF m 7 _ _))
  refine oS (fun _ q => XS.icmpYes X0.here hx rfl (pc0 := 7) (pc' := 17) rfl (hb hby (d29 5)) rfl (Jvm.Free.XT.ii_eq_t hc0) (by decide) (by decide) q) ?_
  show OF _ _ _ _ (s₁.setTop (mkF m 17 _ _))
  refine oS (fun _ q => XS.aloadN X0.here hx rfl (hb hby (d29 11)) rfl rfl q) ?_
  obtain ⟨T2, h2, X2, e2, E2, A2, XE2, st2⟩ := cloneH X0 hx hZ hown (w_ hw 254 rfl) (w_ hw 255 rfl) (w_ hw 259 rfl) (w_ hw 257 rfl) (w_ hw 258 rfl) (w_ hw 260 rfl) e0 (Arv.arh V_a0) X_a0 (g := (mkF m 18 #[vr a0, vi 0, vi p2] [(.ref a0)])) rfl (by rw [hml]; rfl) rfl (hb hby (d29 12)) (by decide) (W := 0) (cap := 16) (by show 2 * 0 + _ ≤ _; exact Nat.le_of_eq rfl) (by decide) (by decide) (by decide) (by decide)
  obtain ⟨b2, qe2⟩ : ∃ z, z = h0.size := ⟨_, rfl⟩
  rw [← qe2] at A2 XE2 st2
  refine oS st2 ?_
  have bi_b2 : h0.size ≤ b2 := Nat.le_of_eq qe2.symm
  have lo_b2 : h0.size ≤ b2 := Nat.le_trans kp0.1 bi_b2
  have g_b2 : n0 ≤ b2 := Nat.le_trans Z0 lo_b2
  have kp3 : Keep h0 h2 [] := kp0.ext E2
  have V2 : Arv Z h2 b2 k_a0 .byte (16 : Int32) (own_ml (16 : Int32) f0) (.int 0) := A2
  show OF _ _ _ _ (T2.setTop (mkF m 21 _ _))
  obtain ⟨T4, X4, e4, st4⟩ := castY X2 hx hZ hown (w_ hw 261 rfl) e2 (Ins.self XE2) (g := (mkF m 21 #[vr a0, vi 0, vi p2] [(.ref b2)])) rfl rfl (hb hby (d29 13))
  refine oS st4 ?_
  show OF _ _ _ _ (T4.setTop (mkF m 24 _ _))
  obtain ⟨fs, hr, hrun, hended, hW, hsame⟩ := X4.leave (v := some (.ref b2)) (fun h => by rw [Bd.returns] at h; cases h)
  refine ⟨_, _, retOut X4 hx Bd.returns rfl (Or.inr (Or.inr (Or.inr (Or.inr ⟨rfl, rfl, rfl⟩)))) (hb hby (d29 14)) hr, hrun, hended, _, _, rfl, ?_, ⟨_, rfl⟩, hW, hsame.mono (by decide) (by decide)⟩
  show Q_rm_crC Z a0 p2 k_a0 f0 h0 n0 _ T4.heap _
  rw [e4]
  exact ⟨b2, rfl, N0, kp3, lo_b2, V2, XE2⟩
theorem pd_18 : parseMethodDescriptor "([BII)[B" = some ⟨[(.array .byte), .int, .int], some (.array .byte)⟩ := by decide +kernel
theorem ef_rm_crR (m : MethodId) (a0 : Addr) (p2 : Int32) : entryFrame m #[(.ref a0), (.int 0), (.int p2)] 3 = mkF m 0 #[.val (.ref a0), .val (.int 0), .val (.int p2)] [] := by first | (simp [entryFrame, mkF, argsToLocals, Value.category]; done) | rfl
def Q_rm_crR (Z : State) (a0 : Addr) (p2 : Int32) (k_a0 : ClassId) (z0 : Int32) (f0 : Nat → Int32) (h0 : Heap) (n0 : Nat) (v : Option Value) (h : Heap) (L : List Loc) : Prop := ∃ c2_0 : Addr, ∃ kc2_1 : ClassId, v = some (.ref c2_0) ∧ Fr n0 L ∧ Keep h0 h [] ∧ h0.size ≤ c2_0 ∧ Arv Z h c2_0 kc2_1 .byte (p2 - 0) (own_ml (p2 - 0) (own_cpy own_zf (0 : Int32) f0 (0 : Int32) (p2 - 0))) (.int 0) ∧ Exa Z h c2_0 "[B"
set_option maxRecDepth 65536 in
set_option maxHeartbeats 40000000 in
theorem rm_crR (l : Launch) (Z : State) (av0 : Array Value) (hw : ∀ d ∈ tables_1, d.before av0 Z = true) (ws : List Jvm.Cond) (a0 : Addr) (p2 : Int32) (k_a0 : ClassId) (z0 : Int32) (f0 : Nat → Int32) (h0 : Heap) (n0 : Nat) (Z0 : n0 ≤ h0.size) (V_a0 : Arv Z h0 a0 k_a0 .byte z0 (own_ml z0 f0) (.int 0)) (X_a0 : Exa Z h0 a0 "[B") (hr : 0 ≤ p2.toInt ∧ p2.toInt < z0.toInt ∧ p2.toInt ≤ 34) (hc0 : ¬ (p2 = z0)) :
    own_MF l Z h0 yM30 (Jvm.Cond.code yM30 jdk_65_method_132_code 3 (some (.array .byte)) :: ws) ({ frames := 2, cells := 1, slots := 34, locals := 56 } : Room) #[(.ref a0), (.int 0), (.int p2)] (Q_rm_crR Z a0 p2 k_a0 z0 f0 h0 n0) := by
  refine own_ent (own := "java/util/Arrays") (plainFor_of_name pn_6) rfl ?_
  intro p e s m below meth c s₁ Bd hx hby hml hZ hh hown hnm X0 e0
  have N0 := Fr.nil n0
  have kp0 : Keep h0 h0 [] := Keep.refl _ _
  refine oS (fun _ q => castTop (ef_rm_crR m a0 p2) q) ?_
  show OF _ _ _ _ (s₁.setTop (mkF m 0 #[vr a0, vi 0, vi p2] []))
  refine oS (fun _ q => XS.iloadN X0.here hx rfl (hb hby (d29 0)) rfl (XS.ifNo X0.here hx rfl (hb hby (d29 1)) rfl (Jvm.Free.XT.i0_ne_f (rfl : (0 : Int32) = (0 : Int32))) q)) ?_
  show OF _ _ _ _ (s₁.setTop (mkF m 4 _ _))
  refine oS (fun _ q => XS.iloadN X0.here hx rfl (hb hby (d29 2)) rfl (XS.aloadN X0.here hx rfl (hb hby (d29 3)) rfl rfl q)) ?_
  have Vo1 : Arv Z h0 a0 k_a0 .byte z0 (own_ml z0 f0) (.int 0) := V_a0
  obtain ⟨cl1, Ar1, qa1, Sa1, Na1, Ha1, Ga1⟩ := id Vo1
  refine oS (X0.arraylength hx (by rw [e0]; exact Ar1.1) (State.isArrayOf_alike (hZ).alike Ar1.2.1) (g := (mkF m 6 #[vr a0, vi 0, vi p2] [(.ref a0), (.int p2)])) rfl rfl (hb hby (d29 4))) ?_
  rw [len_of Sa1 Na1]
  show OF _ _ _ _ (s₁.setTop (mkF m 7 _ _))
  refine oS (fun _ q => XS.icmpNo X0.here hx rfl (hb hby (d29 5)) rfl (Jvm.Free.XT.ii_eq_f hc0) q) ?_
  show OF _ _ _ _ (s₁.setTop (mkF m 10 _ _))
  refine oS (fun _ q => XS.aloadN X0.here hx rfl (hb hby (d29 6)) rfl rfl (XS.iloadN X0.here hx rfl (hb hby (d29 7)) rfl (XS.iloadN X0.here hx rfl (hb hby (d29 8)) rfl q))) ?_
  obtain ⟨_, _, ⟨T2, L2, k2, n2⟩, -, X2, ⟨Lc2, hQ2, l2, y2, z2⟩, st2⟩ := Jvm.LawKit.callS X0 hx (y := yM29) hown (mvT hZ (w_ hw 186 rfl)) (mvT hZ (w_ hw 187 rfl)) (mvT hZ (w_ hw 184 rfl)) (mvT hZ (w_ hw 188 rfl)) (by decide) (backOf (W := 0) (rm_crb l Z av0 hw [] a0 p2 k_a0 z0 f0 h0 n0 (Nat.le_trans Z0 kp0.1) V_a0 hr) hZ (w_ hw 188 rfl) (w_ hw 184 rfl) (by decide) (by decide)) (g := (mkF m 13 #[vr a0, vi 0, vi p2] [(.int p2), (.int 0), (.ref a0)])) rfl (by rw [hml]; rfl) (argsL := [(.ref a0), (.int 0), (.int p2)]) (rest := []) (lenOf pd_18 rfl) rfl (by show 2 * 0 + _ ≤ _; exact Nat.le_of_eq rfl) (hb hby (d29 9)) (fun _ _ => ⟨rfl, e0, (by decide : 0 + 1 ≤ _), (by decide : 0 + 34 ≤ _)⟩)
  dsimp only [Pt.U, Pt.locs, Pt.cells, Pt.slots] at X2 l2 y2 z2 st2 hQ2
  subst l2 y2 z2
  obtain ⟨c2_0, kc2_1, rfl, N2q, K2, r2_0, r2_1, r2_2⟩ := hQ2
  have N2 := Fr.app N0 N2q
  refine oS st2 ?_
  obtain ⟨h2, e2⟩ : ∃ z, T2.heap = z := ⟨_, rfl⟩
  rw [e2] at K2 r2_1 r2_2
  have bi_c2_0 : h0.size ≤ c2_0 := r2_0
  have lo_c2_0 : h0.size ≤ c2_0 := Nat.le_trans kp0.1 bi_c2_0
  have g_c2_0 : n0 ≤ c2_0 := Nat.le_trans Z0 lo_c2_0
  have kp3 : Keep h0 h2 [] := kp0.trans K2 all0
  show OF _ _ _ _ (T2.setTop (mkF m 16 _ _))
  obtain ⟨fs, hr, hrun, hended, hW, hsame⟩ := X2.leave (v := some (.ref c2_0)) (fun h => by rw [Bd.returns] at h; cases h)
  refine ⟨_, _, retOut X2 hx Bd.returns rfl (Or.inr (Or.inr (Or.inr (Or.inr ⟨rfl, rfl, rfl⟩)))) (hb hby (d29 10)) hr, hrun, hended, _, _, rfl, ?_, ⟨_, rfl⟩, hW, hsame.mono (by decide) (by decide)⟩
  show Q_rm_crR Z a0 p2 k_a0 z0 f0 h0 n0 _ T2.heap _
  rw [e2]
  exact ⟨c2_0, kc2_1, rfl, N2, kp3, lo_c2_0, r2_1, r2_2⟩
theorem pd_19 : parseMethodDescriptor "()[B" = some ⟨[], some (.array .byte)⟩ := by decide +kernel
abbrev C25 := jdk_42_method_150_code
def L25 : List (Nat × Instr × Nat) := [(0, .aload_n 0, 1), (1, .invokespecial 1, 3), (4, .aload_n 1, 1), (5, .invokevirtual 552, 3), (8, .astore_n 3, 1), (9, .aload_n 1, 1), (10, .invokevirtual 549, 3), (13, .istore 4, 2), (15, .aload_n 1, 1), (16, .invokevirtual 1047, 3), (19, .ifCond .eq 22, 3), (22, .aload_n 0, 1), (23, .iconst 0, 1), (24, .putfield 15, 3), (27, .aload_n 0, 1), (28, .aload_n 3, 1), (29, .iconst 0, 1), (30, .iload 4, 2), (32, .invokestatic 54, 3), (35, .putfield 9, 3), (38, .goto 59, 3), (97, .return_, 1)]
theorem d25 : ∀ i : Fin 22, decode C25 (L25.get i).1 = .ok (L25.get i).2 := by decide +kernel
theorem ef_rm_saC (m : MethodId) (a0 : Addr) (a1 : Addr) : entryFrame m #[(.ref a0), (.ref a1), .null] 5 = mkF m 0 #[.val (.ref a0), .val (.ref a1), .val .null, .unset, .unset] [] := by first | (simp [entryFrame, mkF, argsToLocals, Value.category]; done) | rfl
def Q_rm_saC (Z : State) (a0 : Addr) (a1 : Addr) (b1 : Addr) (c0 : Int32) (k_b1 : ClassId) (f0 : Nat → Int32) (w_COMPACT_STRINGS : Int32) (u_coder_a0 : Value) (u_value_a0 : Value) (h0 : Heap) (n0 : Nat) (v : Option Value) (h : Heap) (L : List Loc) : Prop := ∃ c7_0 : Addr, v = none ∧ Fr n0 L ∧ Keep h0 h [a0] ∧ h0.size ≤ c7_0 ∧ Fld Z h a0 "java/lang/String" "coder" "B" (.int 0) ∧ Arv Z h c7_0 k_b1 .byte (16 : Int32) (own_ml (16 : Int32) f0) (.int 0) ∧ Exa Z h c7_0 "[B" ∧ Fld Z h a0 "java/lang/String" "value" "[B" (.ref c7_0)
set_option maxRecDepth 65536 in
set_option maxHeartbeats 40000000 in
theorem rm_saC (l : Launch) (Z : State) (av0 : Array Value) (hw : ∀ d ∈ tables_1, d.before av0 Z = true) (ws : List Jvm.Cond) (a0 : Addr) (a1 : Addr) (b1 : Addr) (c0 : Int32) (k_b1 : ClassId) (f0 : Nat → Int32) (w_COMPACT_STRINGS : Int32) (u_coder_a0 : Value) (u_value_a0 : Value) (h0 : Heap) (n0 : Nat) (Z0 : n0 ≤ h0.size) (Ol0 : Old Z n0 h0) (X_a1 : Exa Z h0 a1 "java/lang/StringBuilder") (F_value_a1 : Fld Z h0 a1 "java/lang/AbstractStringBuilder" "value" "[B" (.ref b1)) (F_coder_a1 : Fld Z h0 a1 "java/lang/AbstractStringBuilder" "coder" "B" (.int 0)) (F_count_a1 : Fld Z h0 a1 "java/lang/AbstractStringBuilder" "count" "I" (.int c0)) (V_b1 : Arv Z h0 b1 k_b1 .byte (16 : Int32) (own_ml (16 : Int32) f0) (.int 0)) (X_b1 : Exa Z h0 b1 "[B") (S_COMPACT_STRINGS : Sta Z Z.heap "java/lang/String" "COMPACT_STRINGS" "Z" (.int w_COMPACT_STRINGS)) (hc0 : ¬ (w_COMPACT_STRINGS = 0)) (X_a0 : Exa Z h0 a0 "java/lang/String") (F_coder_a0 : Fld Z h0 a0 "java/lang/String" "coder" "B" u_coder_a0) (g_a0 : n0 ≤ a0) (ne_b1_a0 : b1 ≠ a0) (hc1 : c0 = 16) (F_value_a0 : Fld Z h0 a0 "java/lang/String" "value" "[B" u_value_a0) :
    own_MF l Z h0 yM31 (Jvm.Cond.code yM31 jdk_42_method_150_code 5 none :: ws) ({ frames := 2, cells := 1, slots := 16, locals := 29 } : Room) #[(.ref a0), (.ref a1), .null] (Q_rm_saC Z a0 a1 b1 c0 k_b1 f0 w_COMPACT_STRINGS u_coder_a0 u_value_a0 h0 n0) := by
  refine own_ent (own := "java/lang/String") (plainFor_of_name pn_7) rfl ?_
  intro p e s m below meth c s₁ Bd hx hby hml hZ hh hown hnm X0 e0
  have N0 := Fr.nil n0
  have kp0 : Keep h0 h0 [a0] := Keep.refl _ _
  refine oS (fun _ q => castTop (ef_rm_saC m a0 a1) q) ?_
  show OF _ _ _ _ (s₁.setTop (mkF m 0 #[vr a0, vr a1, .val .null, .unset, .unset] []))
  refine oS (fun _ q => XS.aloadN X0.here hx rfl (hb hby (d25 0)) rfl rfl q) ?_
  obtain ⟨T1, X1, e1, st1⟩ := initO X0 hx hZ hown (w_ hw 167 rfl) (w_ hw 26 rfl) (w_ hw 27 rfl) e0 (g := (mkF m 1 #[vr a0, vr a1, .val .null, .unset, .unset] [(.ref a0)])) rfl (by rw [hml]; rfl) rfl (hb hby (d25 1)) (by decide) (W := 0) (by show 2 * 0 + _ ≤ _; exact Nat.le_of_eq rfl) (by decide)
  refine oS st1 ?_
  show OF _ _ _ _ (T1.setTop (mkF m 4 _ _))
  refine oS (fun _ q => XS.aloadN X1.here hx rfl (hb hby (d25 2)) rfl rfl q) ?_
  obtain ⟨cq2, kq2, q2a, q2b, q2c⟩ := isOf hZ e1 X_a1
  obtain ⟨_, _, ⟨T2, L2, k2, n2⟩, -, X2, ⟨Lc2, hQ2, l2, y2, z2⟩, st2⟩ := X1.virtualBack hx (y := yM25) (z := yM25) hown (mvT hZ (w_ hw 168 rfl)) (mvT hZ (w_ hw 169 rfl)) (notFace_of_selects (args := #[]) (mvT hZ (w_ hw 171 rfl))) (mvT hZ (w_ hw 171 rfl)) (mvT hZ (w_ hw 170 rfl)) (by decide) (backOf (W := 0) (rm_gv l Z av0 hw [] a1 b1 h0 n0 (Nat.le_trans Z0 kp0.1) X_a1 F_value_a1) hZ (w_ hw 172 rfl) (w_ hw 47 rfl) (by decide) (by decide)) q2a q2c (g := (mkF m 5 #[vr a0, vr a1, .val .null, .unset, .unset] [(.ref a1)])) rfl (by rw [hml]; rfl) (Steps.refl _) (argsL := []) (rest := []) (lenOf pd_19 rfl) rfl (by show 2 * 0 + _ ≤ _; exact Nat.le_of_eq rfl) (hb hby (d25 3)) (fun _ _ => ⟨rfl, e1, (by decide : 0 + 0 ≤ _), (by decide : 0 + 0 ≤ _)⟩)
  dsimp only [Pt.U, Pt.locs, Pt.cells, Pt.slots] at X2 l2 y2 z2 st2 hQ2
  subst l2 y2 z2
  obtain ⟨rfl, N2q, he2⟩ := hQ2
  have N2 := Fr.app N0 N2q
  refine oT st2 ?_
  show OF _ _ _ _ (T2.setTop (mkF m 8 _ _))
  refine oS (fun _ q => XS.astoreN X2.here hx rfl (hb hby (d25 4)) rfl rfl (l' := #[vr a0, vr a1, .val .null, vr b1, .unset]) rfl (XS.aloadN X2.here hx rfl (hb hby (d25 5)) rfl rfl q)) ?_
  obtain ⟨cq3, kq3, q3a, q3b, q3c⟩ := isOf hZ he2 X_a1
  obtain ⟨_, _, ⟨T3, L3, k3, n3⟩, -, X3, ⟨Lc3, hQ3, l3, y3, z3⟩, st3⟩ := X2.virtualBack hx (y := yM26) (z := yM27) hown (mvT hZ (w_ hw 173 rfl)) (mvT hZ (w_ hw 174 rfl)) (own_nfs (y' := yM11) rfl (args := #[]) (mvT hZ (w_ hw 77 rfl))) (mvT hZ (w_ hw 176 rfl)) (mvT hZ (w_ hw 177 rfl)) (by decide) (backOf (W := 0) (rm_sl l Z av0 hw [] a1 c0 h0 n0 (Nat.le_trans Z0 kp0.1) X_a1 F_count_a1) hZ (w_ hw 178 rfl) (w_ hw 39 rfl) (by decide) (by decide)) q3a q3c (g := (mkF m 10 #[vr a0, vr a1, .val .null, vr b1, .unset] [(.ref a1)])) rfl (by rw [hml]; rfl) (Steps.refl _) (argsL := []) (rest := []) (lenOf pd_14 rfl) rfl (by show 2 * 0 + _ ≤ _; exact Nat.le_of_eq rfl) (hb hby (d25 6)) (fun _ _ => ⟨rfl, he2, (by decide : 0 + 0 ≤ _), (by decide : 0 + 0 ≤ _)⟩)
  dsimp only [Pt.U, Pt.locs, Pt.cells, Pt.slots] at X3 l3 y3 z3 st3 hQ3
  subst l3 y3 z3
  obtain ⟨rfl, N3q, he3⟩ := hQ3
  have N3 := Fr.app N2 N3q
  refine oT st3 ?_
  show OF _ _ _ _ (T3.setTop (mkF m 13 _ _))
  refine oS (fun _ q => XS.istore X3.here hx rfl (hb hby (d25 7)) rfl (l' := #[vr a0, vr a1, .val .null, vr b1, vi c0]) rfl (XS.aloadN X3.here hx rfl (hb hby (d25 8)) rfl rfl q)) ?_
  show OF _ _ _ _ (T3.setTop (mkF m 16 _ _))
  obtain ⟨cq4, kq4, q4a, q4b, q4c⟩ := isOf hZ he3 X_a1
  obtain ⟨_, _, ⟨T4, L4, k4, n4⟩, -, X4, ⟨Lc4, hQ4, l4, y4, z4⟩, st4⟩ := X3.virtualBack hx (y := yM0) (z := yM0) hown (mvT hZ (w_ hw 181 rfl)) (mvT hZ (w_ hw 80 rfl)) (notFace_of_selects (args := #[]) (mvT hZ (w_ hw 82 rfl))) (mvT hZ (w_ hw 82 rfl)) (mvT hZ (w_ hw 81 rfl)) (by decide) (backOf (W := 0) (rm_isl l Z av0 hw [] a1 w_COMPACT_STRINGS h0 n0 (Nat.le_trans Z0 kp0.1) Ol0 X_a1 F_coder_a1 S_COMPACT_STRINGS hc0) hZ (w_ hw 83 rfl) (w_ hw 47 rfl) (by decide) (by decide)) q4a q4c (g := (mkF m 16 #[vr a0, vr a1, .val .null, vr b1, vi c0] [(.ref a1)])) rfl (by rw [hml]; rfl) (Steps.refl _) (argsL := []) (rest := []) (lenOf pd_6 rfl) rfl (by show 2 * 0 + _ ≤ _; exact Nat.le_of_eq rfl) (hb hby (d25 9)) (fun _ _ => ⟨rfl, he3, (by decide : 0 + 0 ≤ _), (by decide : 0 + 0 ≤ _)⟩)
  dsimp only [Pt.U, Pt.locs, Pt.cells, Pt.slots] at X4 l4 y4 z4 st4 hQ4
  subst l4 y4 z4
  obtain ⟨rfl, N4q, he4⟩ := hQ4
  have N4 := Fr.app N3 N4q
  refine oT st4 ?_
  show OF _ _ _ _ (T4.setTop (mkF m 19 _ _))
  refine oS (fun _ q => XS.ifNo X4.here hx rfl (hb hby (d25 10)) rfl (Jvm.Free.XT.i0_eq_f (by decide : ¬ ((1 : Int32) = (0 : Int32)))) q) ?_
  show OF _ _ _ _ (T4.setTop (mkF m 22 _ _))
  refine oS (fun _ q => XS.aloadN X4.here hx rfl (hb hby (d25 11)) rfl rfl q) ?_
  show OF _ _ _ _ (T4.setTop (mkF m 23 #[vr a0, vr a1, .val .null, vr b1, vi c0] [(.ref a0)]))
  refine oS (fun _ q => XS.iconst X4.here hx rfl (hb hby (d25 12)) q) ?_
  obtain ⟨T5, h5, X5, e5, W5, st5⟩ := putFN X4 hx hZ hown (w_ hw 117 rfl) Via.refl he4 F_coder_a0 X_a0 (Or.inr ⟨(w_ hw 93 rfl), rfl, hnm⟩) (w_ hw 91 rfl) (ty := .byte) (v' := (.int 0)) (by decide) rfl rfl (g := (mkF m 24 #[vr a0, vr a1, .val .null, vr b1, vi c0] [(.int 0), (.ref a0)])) rfl rfl (hb hby (d25 13))
  refine oS st5 ?_
  have Fw5 : Fld Z h5 a0 "java/lang/String" "coder" "B" (.int 0) := F_coder_a0.same W5
  have N5 := Fr.snoc X5 N4 g_a0
  have kp6 : Keep h0 h5 [a0] := kp0.wr W5 (Or.inl (List.mem_of_getElem? (i := 0) rfl))
  have ol6 : Old Z n0 h5 := Ol0.wr W5 g_a0
  show OF _ _ _ _ (T5.setTop (mkF m 27 _ _))
  refine oS (fun _ q => XS.aloadN X5.here hx rfl (hb hby (d25 14)) rfl rfl (XS.aloadN X5.here hx rfl (hb hby (d25 15)) rfl rfl (XS.iconst X5.here hx rfl (hb hby (d25 16)) (XS.iload X5.here hx rfl (hb hby (d25 17)) rfl q)))) ?_
  show OF _ _ _ _ (T5.setTop (mkF m 32 _ _))
  obtain ⟨_, _, ⟨T7, L7, k7, n7⟩, -, X7, ⟨Lc7, hQ7, l7, y7, z7⟩, st7⟩ := Jvm.LawKit.callS X5 hx (y := yM30) hown (mvT hZ (w_ hw 182 rfl)) (mvT hZ (w_ hw 183 rfl)) (mvT hZ (w_ hw 184 rfl)) (mvT hZ (w_ hw 185 rfl)) (by decide) (backOf (W := 1) (rm_crC l Z av0 hw [] b1 c0 k_b1 f0 h5 n0 (Nat.le_trans Z0 kp6.1) (V_b1.other W5 ne_b1_a0) (X_b1.wr W5) hc1) hZ (w_ hw 185 rfl) (w_ hw 184 rfl) (by decide) (by decide)) (g := (mkF m 32 #[vr a0, vr a1, .val .null, vr b1, vi c0] [(.int c0), (.int 0), (.ref b1), (.ref a0)])) rfl (by rw [hml]; rfl) (argsL := [(.ref b1), (.int 0), (.int c0)]) (rest := [(.ref a0)]) (lenOf pd_18 rfl) rfl (by show 2 * 0 + _ ≤ _; exact Nat.le_of_eq rfl) (hb hby (d25 18)) (fun _ _ => ⟨rfl, e5, (by decide : 0 + 1 ≤ _), (by decide : 0 + 16 ≤ _)⟩)
  dsimp only [Pt.U, Pt.locs, Pt.cells, Pt.slots] at X7 l7 y7 z7 st7 hQ7
  subst l7 y7 z7
  obtain ⟨c7_0, rfl, N7q, K7, r7_0, r7_1, r7_2⟩ := hQ7
  have N7 := Fr.app N5 N7q
  refine oS st7 ?_
  obtain ⟨h7, e7⟩ : ∃ z, T7.heap = z := ⟨_, rfl⟩
  rw [e7] at K7 r7_1 r7_2
  have bi_c7_0 : h5.size ≤ c7_0 := r7_0
  have lo_c7_0 : h0.size ≤ c7_0 := Nat.le_trans kp6.1 bi_c7_0
  have g_c7_0 : n0 ≤ c7_0 := Nat.le_trans Z0 lo_c7_0
  have kp8 : Keep h0 h7 [a0] := kp6.trans K7 all0
  have ol8 : Old Z n0 h7 := ol6.keep K7 all0
  show OF _ _ _ _ (T7.setTop (mkF m 35 _ _))
  have fr9 : Fld Z h7 a0 "java/lang/String" "value" "[B" u_value_a0 := ((F_value_a0.other W5 (Or.inr (slot_ne (Or.inr (w_ hw 92 rfl)) (Or.inr (w_ hw 93 rfl)) (by decide) (t := (.array .byte)) (t' := .byte) (by decide) (by decide)))).keep K7 nin0)
  obtain ⟨T10, h10, X10, e10, W10, st10⟩ := putF X7 hx hZ hown (host := "") (Or.inl (w_ hw 110 rfl)) Via.refl e7 fr9 ((X_a0.wr W5).keep K7) (Or.inr ⟨(w_ hw 92 rfl), rfl, hnm⟩) (w_ hw 91 rfl) (ty := (.array .byte)) (by decide) rfl rfl (g := (mkF m 35 #[vr a0, vr a1, .val .null, vr b1, vi c0] [(.ref c7_0), (.ref a0)])) rfl rfl (hb hby (d25 19))
  refine oS st10 ?_
  have Fw10 : Fld Z h10 a0 "java/lang/String" "value" "[B" (.ref c7_0) := ((F_value_a0.other W5 (Or.inr (slot_ne (Or.inr (w_ hw 92 rfl)) (Or.inr (w_ hw 93 rfl)) (by decide) (t := (.array .byte)) (t' := .byte) (by decide) (by decide)))).keep K7 nin0).same W10
  have N10 := Fr.snoc X10 N7 g_a0
  have kp11 : Keep h0 h10 [a0] := kp8.wr W10 (Or.inl (List.mem_of_getElem? (i := 0) rfl))
  have ol11 : Old Z n0 h10 := ol8.wr W10 g_a0
  show OF _ _ _ _ (T10.setTop (mkF m 38 _ _))
  refine oS (fun _ q => XS.goto X10.here hx rfl (pc0 := 38) (pc' := 97) rfl (hb hby (d25 20)) (by decide) (by decide) q) ?_
  obtain ⟨fs, hr, hrun, hended, hW, hsame⟩ := X10.leave (v := none) (fun _ => rfl)
  refine ⟨_, _, X10.returnOut hx Bd.returns (hb hby (d25 21)) hr, hrun, hended, _, _, rfl, ?_, ⟨_, rfl⟩, hW, hsame.mono (by decide) (by decide)⟩
  show Q_rm_saC Z a0 a1 b1 c0 k_b1 f0 w_COMPACT_STRINGS u_coder_a0 u_value_a0 h0 n0 _ T10.heap _
  rw [e10]
  have fr12 : Fld Z h10 a0 "java/lang/String" "coder" "B" (.int 0) := ((Fw5.keep K7 nin0).other W10 (Or.inr (slot_ne (Or.inr (w_ hw 93 rfl)) (Or.inr (w_ hw 92 rfl)) (by decide) (t := .byte) (t' := (.array .byte)) (by decide) (by decide))))
  have fr13 : Arv Z h10 c7_0 k_b1 .byte (16 : Int32) (own_ml (16 : Int32) f0) (.int 0) := (r7_1.other W10 (Ne.symm (Nat.ne_of_lt (Nat.lt_of_lt_of_le (X_a0.wr W5).lt bi_c7_0))))
  exact ⟨c7_0, rfl, N10, kp11, lo_c7_0, fr12, fr13, (r7_2.wr W10), Fw10⟩
theorem pd_20 : parseMethodDescriptor "(Ljava/lang/AbstractStringBuilder;Ljava/lang/Void;)V" = some ⟨[(.object "java/lang/AbstractStringBuilder"), (.object "java/lang/Void")], none⟩ := by decide +kernel
abbrev C24 := jdk_42_method_53_code
def L24 : List (Nat × Instr × Nat) := [(0, .aload_n 0, 1), (1, .aload_n 1, 1), (2, .aconst_null, 1), (3, .invokespecial 489, 3), (6, .return_, 1)]
theorem d24 : ∀ i : Fin 5, decode C24 (L24.get i).1 = .ok (L24.get i).2 := by decide +kernel
theorem ef_rm_sbC (m : MethodId) (a0 : Addr) (a1 : Addr) : entryFrame m #[(.ref a0), (.ref a1)] 2 = mkF m 0 #[.val (.ref a0), .val (.ref a1)] [] := by first | (simp [entryFrame, mkF, argsToLocals, Value.category]; done) | rfl
def Q_rm_sbC (Z : State) (a0 : Addr) (a1 : Addr) (b1 : Addr) (c0 : Int32) (k_b1 : ClassId) (f0 : Nat → Int32) (w_COMPACT_STRINGS : Int32) (u_coder_a0 : Value) (u_value_a0 : Value) (h0 : Heap) (n0 : Nat) (v : Option Value) (h : Heap) (L : List Loc) : Prop := ∃ c1_0 : Addr, v = none ∧ Fr n0 L ∧ Keep h0 h [a0] ∧ h0.size ≤ c1_0 ∧ Fld Z h a0 "java/lang/String" "coder" "B" (.int 0) ∧ Arv Z h c1_0 k_b1 .byte (16 : Int32) (own_ml (16 : Int32) f0) (.int 0) ∧ Exa Z h c1_0 "[B" ∧ Fld Z h a0 "java/lang/String" "value" "[B" (.ref c1_0)
set_option maxRecDepth 65536 in
set_option maxHeartbeats 40000000 in
theorem rm_sbC (l : Launch) (Z : State) (av0 : Array Value) (hw : ∀ d ∈ tables_1, d.before av0 Z = true) (ws : List Jvm.Cond) (a0 : Addr) (a1 : Addr) (b1 : Addr) (c0 : Int32) (k_b1 : ClassId) (f0 : Nat → Int32) (w_COMPACT_STRINGS : Int32) (u_coder_a0 : Value) (u_value_a0 : Value) (h0 : Heap) (n0 : Nat) (Z0 : n0 ≤ h0.size) (Ol0 : Old Z n0 h0) (X_a1 : Exa Z h0 a1 "java/lang/StringBuilder") (F_value_a1 : Fld Z h0 a1 "java/lang/AbstractStringBuilder" "value" "[B" (.ref b1)) (F_coder_a1 : Fld Z h0 a1 "java/lang/AbstractStringBuilder" "coder" "B" (.int 0)) (F_count_a1 : Fld Z h0 a1 "java/lang/AbstractStringBuilder" "count" "I" (.int c0)) (V_b1 : Arv Z h0 b1 k_b1 .byte (16 : Int32) (own_ml (16 : Int32) f0) (.int 0)) (X_b1 : Exa Z h0 b1 "[B") (S_COMPACT_STRINGS : Sta Z Z.heap "java/lang/String" "COMPACT_STRINGS" "Z" (.int w_COMPACT_STRINGS)) (hc0 : ¬ (w_COMPACT_STRINGS = 0)) (X_a0 : Exa Z h0 a0 "java/lang/String") (F_coder_a0 : Fld Z h0 a0 "java/lang/String" "coder" "B" u_coder_a0) (g_a0 : n0 ≤ a0) (ne_b1_a0 : b1 ≠ a0) (hc1 : c0 = 16) (F_value_a0 : Fld Z h0 a0 "java/lang/String" "value" "[B" u_value_a0) :
    own_MF l Z h0 yM32 (Jvm.Cond.code yM32 jdk_42_method_53_code 2 none :: ws) ({ frames := 3, cells := 1, slots := 16, locals := 45 } : Room) #[(.ref a0), (.ref a1)] (Q_rm_sbC Z a0 a1 b1 c0 k_b1 f0 w_COMPACT_STRINGS u_coder_a0 u_value_a0 h0 n0) := by
  refine own_ent (own := "java/lang/String") (plainFor_of_name pn_7) rfl ?_
  intro p e s m below meth c s₁ Bd hx hby hml hZ hh hown hnm X0 e0
  have N0 := Fr.nil n0
  have kp0 : Keep h0 h0 [a0] := Keep.refl _ _
  refine oS (fun _ q => castTop (ef_rm_sbC m a0 a1) q) ?_
  show OF _ _ _ _ (s₁.setTop (mkF m 0 #[vr a0, vr a1] []))
  refine oS (fun _ q => XS.aloadN X0.here hx rfl (hb hby (d24 0)) rfl rfl (XS.aloadN X0.here hx rfl (hb hby (d24 1)) rfl rfl (XS.aconstNull X0.here hx rfl (hb hby (d24 2)) q))) ?_
  show OF _ _ _ _ (s₁.setTop (mkF m 3 _ _))
  show OF _ _ _ _ (s₁.setTop (mkF m 3 _ _))
  obtain ⟨_, _, ⟨T1, L1, k1, n1⟩, -, X1, ⟨Lc1, hQ1, l1, y1, z1⟩, st1⟩ := X0.specialBack hx (y := yM31) rfl hown (mvT hZ (w_ hw 164 rfl)) (mvT hZ (w_ hw 165 rfl)) (mvT hZ (w_ hw 166 rfl)) (by decide) (backOf (W := 0) (rm_saC l Z av0 hw [] a0 a1 b1 c0 k_b1 f0 w_COMPACT_STRINGS u_coder_a0 u_value_a0 h0 n0 (Nat.le_trans Z0 kp0.1) Ol0 X_a1 F_value_a1 F_coder_a1 F_count_a1 V_b1 X_b1 S_COMPACT_STRINGS hc0 X_a0 F_coder_a0 g_a0 ne_b1_a0 hc1 F_value_a0) hZ (w_ hw 166 rfl) (w_ hw 51 rfl) (by decide) (by decide)) (g := (mkF m 3 #[vr a0, vr a1] [.null, (.ref a1), (.ref a0)])) rfl (by rw [hml]; rfl) (Steps.refl _) (a := a0) (argsL := [(.ref a1), .null]) (rest := []) (lenOf pd_20 rfl) rfl (by show 2 * 0 + _ ≤ _; exact Nat.le_of_eq rfl) (hb hby (d24 3)) (fun _ _ => ⟨rfl, e0, (by decide : 0 + 1 ≤ _), (by decide : 0 + 16 ≤ _)⟩)
  dsimp only [Pt.U, Pt.locs, Pt.cells, Pt.slots] at X1 l1 y1 z1 st1 hQ1
  subst l1 y1 z1
  obtain ⟨c1_0, rfl, N1q, K1, r1_0, r1_1, r1_2, r1_3, r1_4⟩ := hQ1
  have N1 := Fr.app N0 N1q
  refine oT st1 ?_
  obtain ⟨h1, e1⟩ : ∃ z, T1.heap = z := ⟨_, rfl⟩
  rw [e1] at K1 r1_1 r1_2 r1_3 r1_4
  have bi_c1_0 : h0.size ≤ c1_0 := r1_0
  have lo_c1_0 : h0.size ≤ c1_0 := Nat.le_trans kp0.1 bi_c1_0
  have g_c1_0 : n0 ≤ c1_0 := Nat.le_trans Z0 lo_c1_0
  have kp2 : Keep h0 h1 [a0] := kp0.trans K1 (allS (Or.inl (List.mem_of_getElem? (i := 0) rfl)) all0)
  have ol2 : Old Z n0 h1 := Ol0.keep K1 (allS g_a0 all0)
  show OF _ _ _ _ (T1.setTop (mkF m 6 _ _))
  obtain ⟨fs, hr, hrun, hended, hW, hsame⟩ := X1.leave (v := none) (fun _ => rfl)
  refine ⟨_, _, X1.returnOut hx Bd.returns (hb hby (d24 4)) hr, hrun, hended, _, _, rfl, ?_, ⟨_, rfl⟩, hW, hsame.mono (by decide) (by decide)⟩
  show Q_rm_sbC Z a0 a1 b1 c0 k_b1 f0 w_COMPACT_STRINGS u_coder_a0 u_value_a0 h0 n0 _ T1.heap _
  rw [e1]
  exact ⟨c1_0, rfl, N1, kp2, lo_c1_0, r1_1, r1_2, r1_3, r1_4⟩
theorem pd_21 : parseMethodDescriptor "(Ljava/lang/StringBuilder;)V" = some ⟨[(.object "java/lang/StringBuilder")], none⟩ := by decide +kernel
abbrev C23 := jdk_67_method_42_code
def L23 : List (Nat × Instr × Nat) := [(0, .new 18, 3), (3, .dup, 1), (4, .aload_n 0, 1), (5, .invokespecial 137, 3), (8, .areturn, 1)]
theorem d23 : ∀ i : Fin 5, decode C23 (L23.get i).1 = .ok (L23.get i).2 := by decide +kernel
theorem ef_rm_tsC (m : MethodId) (a0 : Addr) : entryFrame m #[(.ref a0)] 1 = mkF m 0 #[.val (.ref a0)] [] := by first | (simp [entryFrame, mkF, argsToLocals, Value.category]; done) | rfl
def Q_rm_tsC (Z : State) (a0 : Addr) (b0 : Addr) (c0 : Int32) (k_b0 : ClassId) (f0 : Nat → Int32) (w_COMPACT_STRINGS : Int32) (h0 : Heap) (n0 : Nat) (v : Option Value) (h : Heap) (L : List Loc) : Prop := ∃ b1 c3_0 : Addr, v = some (.ref b1) ∧ Fr n0 L ∧ Keep h0 h [] ∧ h0.size ≤ b1 ∧ h0.size ≤ c3_0 ∧ b1 ≠ c3_0 ∧ Exa Z h b1 "java/lang/String" ∧ Fld Z h b1 "java/lang/String" "coder" "B" (.int 0) ∧ Arv Z h c3_0 k_b0 .byte (16 : Int32) (own_ml (16 : Int32) f0) (.int 0) ∧ Exa Z h c3_0 "[B" ∧ Fld Z h b1 "java/lang/String" "value" "[B" (.ref c3_0)
set_option maxRecDepth 65536 in
set_option maxHeartbeats 40000000 in
theorem rm_tsC (l : Launch) (Z : State) (av0 : Array Value) (hw : ∀ d ∈ tables_1, d.before av0 Z = true) (ws : List Jvm.Cond) (a0 : Addr) (b0 : Addr) (c0 : Int32) (k_b0 : ClassId) (f0 : Nat → Int32) (w_COMPACT_STRINGS : Int32) (h0 : Heap) (n0 : Nat) (Z0 : n0 ≤ h0.size) (Ol0 : Old Z n0 h0) (X_a0 : Exa Z h0 a0 "java/lang/StringBuilder") (F_value_a0 : Fld Z h0 a0 "java/lang/AbstractStringBuilder" "value" "[B" (.ref b0)) (F_coder_a0 : Fld Z h0 a0 "java/lang/AbstractStringBuilder" "coder" "B" (.int 0)) (F_count_a0 : Fld Z h0 a0 "java/lang/AbstractStringBuilder" "count" "I" (.int c0)) (V_b0 : Arv Z h0 b0 k_b0 .byte (16 : Int32) (own_ml (16 : Int32) f0) (.int 0)) (X_b0 : Exa Z h0 b0 "[B") (S_COMPACT_STRINGS : Sta Z Z.heap "java/lang/String" "COMPACT_STRINGS" "Z" (.int w_COMPACT_STRINGS)) (hc0 : ¬ (w_COMPACT_STRINGS = 0)) (hc1 : c0 = 16) :
    own_MF l Z h0 yM33 (Jvm.Cond.code yM33 jdk_67_method_42_code 1 (some (.object "java/lang/String")) :: ws) ({ frames := 4, cells := 2, slots := 20, locals := 59 } : Room) #[(.ref a0)] (Q_rm_tsC Z a0 b0 c0 k_b0 f0 w_COMPACT_STRINGS h0 n0) := by
  refine own_ent (own := "java/lang/StringBuilder") (plainFor_of_name pn_2) rfl ?_
  intro p e s m below meth c s₁ Bd hx hby hml hZ hh hown hnm X0 e0
  have N0 := Fr.nil n0
  have kp0 : Keep h0 h0 [] := Keep.refl _ _
  refine oS (fun _ q => castTop (ef_rm_tsC m a0) q) ?_
  show OF _ _ _ _ (s₁.setTop (mkF m 0 #[vr a0] []))
  obtain ⟨T1, h1, X1, e1, E1, A1, D1, -, st1⟩ := newO X0 hx hZ hown (w_ hw 159 rfl) (w_ hw 91 rfl) (w_ hw 51 rfl) e0 (g := (mkF m 0 #[vr a0] [])) rfl (hb hby (d23 0)) (by decide) (by decide)
  obtain ⟨b1, qe1⟩ : ∃ z, z = h0.size := ⟨_, rfl⟩
  rw [← qe1] at A1 D1 st1
  refine oS st1 ?_
  have bi_b1 : h0.size ≤ b1 := Nat.le_of_eq qe1.symm
  have lo_b1 : h0.size ≤ b1 := Nat.le_trans kp0.1 bi_b1
  have g_b1 : n0 ≤ b1 := Nat.le_trans Z0 lo_b1
  have kp2 : Keep h0 h1 [] := kp0.ext E1
  have ol2 : Old Z n0 h1 := Ol0.ext E1
  have F_value_b1 : Fld Z h1 b1 "java/lang/String" "value" "[B" .null := D1 (Or.inr (w_ hw 92 rfl)) (ty := (.array .byte)) (by decide)
  have F_coder_b1 : Fld Z h1 b1 "java/lang/String" "coder" "B" (.int 0) := D1 (Or.inr (w_ hw 93 rfl)) (ty := .byte) (by decide)
  show OF _ _ _ _ (T1.setTop (mkF m 3 _ _))
  refine oS (fun _ q => XS.dup X1.here hx rfl (hb hby (d23 1)) rfl rfl (XS.aloadN X1.here hx rfl (hb hby (d23 2)) rfl rfl q)) ?_
  show OF _ _ _ _ (T1.setTop (mkF m 5 _ _))
  show OF _ _ _ _ (T1.setTop (mkF m 5 _ _))
  obtain ⟨_, _, ⟨T3, L3, k3, n3⟩, -, X3, ⟨Lc3, hQ3, l3, y3, z3⟩, st3⟩ := X1.specialBack hx (y := yM32) rfl hown (mvT hZ (w_ hw 160 rfl)) (mvT hZ (w_ hw 161 rfl)) (mvT hZ (w_ hw 163 rfl)) (by decide) (backOf (W := 1) (rm_sbC l Z av0 hw [] b1 a0 b0 c0 k_b0 f0 w_COMPACT_STRINGS (.int 0) .null h1 n0 (Nat.le_trans Z0 kp2.1) ol2 (X_a0.ext E1) (F_value_a0.ext E1) (F_coder_a0.ext E1) (F_count_a0.ext E1) (V_b0.ext E1) (X_b0.ext E1) S_COMPACT_STRINGS hc0 A1 F_coder_b1 g_b1 (Nat.ne_of_lt (Nat.lt_of_lt_of_le X_b0.lt bi_b1)) hc1 F_value_b1) hZ (w_ hw 163 rfl) (w_ hw 51 rfl) (by decide) (by decide)) (g := (mkF m 5 #[vr a0] [(.ref a0), (.ref b1), (.ref b1)])) rfl (by rw [hml]; rfl) (Steps.refl _) (a := b1) (argsL := [(.ref a0)]) (rest := [(.ref b1)]) (lenOf pd_21 rfl) rfl (by show 2 * 0 + _ ≤ _; exact Nat.le_of_eq rfl) (hb hby (d23 3)) (fun _ _ => ⟨rfl, e1, (by decide : 1 + 1 ≤ _), (by decide : 4 + 16 ≤ _)⟩)
  dsimp only [Pt.U, Pt.locs, Pt.cells, Pt.slots] at X3 l3 y3 z3 st3 hQ3
  subst l3 y3 z3
  obtain ⟨c3_0, rfl, N3q, K3, r3_0, r3_1, r3_2, r3_3, r3_4⟩ := hQ3
  have N3 := Fr.app N0 N3q
  refine oT st3 ?_
  obtain ⟨h3, e3⟩ : ∃ z, T3.heap = z := ⟨_, rfl⟩
  rw [e3] at K3 r3_1 r3_2 r3_3 r3_4
  have bi_c3_0 : h1.size ≤ c3_0 := r3_0
  have lo_c3_0 : h0.size ≤ c3_0 := Nat.le_trans kp2.1 bi_c3_0
  have g_c3_0 : n0 ≤ c3_0 := Nat.le_trans Z0 lo_c3_0
  have kp4 : Keep h0 h3 [] := kp2.trans K3 (allS (Or.inr lo_b1) all0)
  have ol4 : Old Z n0 h3 := ol2.keep K3 (allS g_b1 all0)
  show OF _ _ _ _ (T3.setTop (mkF m 8 _ _))
  obtain ⟨fs, hr, hrun, hended, hW, hsame⟩ := X3.leave (v := some (.ref b1)) (fun h => by rw [Bd.returns] at h; cases h)
  refine ⟨_, _, retOut X3 hx Bd.returns rfl (Or.inr (Or.inr (Or.inr (Or.inr ⟨rfl, rfl, rfl⟩)))) (hb hby (d23 4)) hr, hrun, hended, _, _, rfl, ?_, ⟨_, rfl⟩, hW, hsame.mono (by decide) (by decide)⟩
  show Q_rm_tsC Z a0 b0 c0 k_b0 f0 w_COMPACT_STRINGS h0 n0 _ T3.heap _
  rw [e3]
  exact ⟨b1, c3_0, rfl, N3, kp4, lo_b1, lo_c3_0, (Nat.ne_of_lt (Nat.lt_of_lt_of_le A1.lt bi_c3_0)), (A1.keep K3), r3_1, r3_2, r3_3, r3_4⟩
theorem ef_rm_saR (m : MethodId) (a0 : Addr) (a1 : Addr) : entryFrame m #[(.ref a0), (.ref a1), .null] 5 = mkF m 0 #[.val (.ref a0), .val (.ref a1), .val .null, .unset, .unset] [] := by first | (simp [entryFrame, mkF, argsToLocals, Value.category]; done) | rfl
def Q_rm_saR (Z : State) (a0 : Addr) (a1 : Addr) (b1 : Addr) (c0 : Int32) (k_b1 : ClassId) (z0 : Int32) (f0 : Nat → Int32) (w_COMPACT_STRINGS : Int32) (u_coder_a0 : Value) (u_value_a0 : Value) (h0 : Heap) (n0 : Nat) (v : Option Value) (h : Heap) (L : List Loc) : Prop := ∃ c7_0 : Addr, ∃ kc7_1 : ClassId, v = none ∧ Fr n0 L ∧ Keep h0 h [a0] ∧ h0.size ≤ c7_0 ∧ Fld Z h a0 "java/lang/String" "coder" "B" (.int 0) ∧ Arv Z h c7_0 kc7_1 .byte (c0 - 0) (own_ml (c0 - 0) (own_cpy own_zf (0 : Int32) f0 (0 : Int32) (c0 - 0))) (.int 0) ∧ Exa Z h c7_0 "[B" ∧ Fld Z h a0 "java/lang/String" "value" "[B" (.ref c7_0)
set_option maxRecDepth 65536 in
set_option maxHeartbeats 40000000 in
theorem rm_saR (l : Launch) (Z : State) (av0 : Array Value) (hw : ∀ d ∈ tables_1, d.before av0 Z = true) (ws : List Jvm.Cond) (a0 : Addr) (a1 : Addr) (b1 : Addr) (c0 : Int32) (k_b1 : ClassId) (z0 : Int32) (f0 : Nat → Int32) (w_COMPACT_STRINGS : Int32) (u_coder_a0 : Value) (u_value_a0 : Value) (h0 : Heap) (n0 : Nat) (Z0 : n0 ≤ h0.size) (Ol0 : Old Z n0 h0) (X_a1 : Exa Z h0 a1 "java/lang/StringBuilder") (F_value_a1 : Fld Z h0 a1 "java/lang/AbstractStringBuilder" "value" "[B" (.ref b1)) (F_coder_a1 : Fld Z h0 a1 "java/lang/AbstractStringBuilder" "coder" "B" (.int 0)) (F_count_a1 : Fld Z h0 a1 "java/lang/AbstractStringBuilder" "count" "I" (.int c0)) (V_b1 : Arv Z h0 b1 k_b1 .byte z0 (own_ml z0 f0) (.int 0)) (X_b1 : Exa Z h0 b1 "[B") (hr : 0 ≤ c0.toInt ∧ c0.toInt < z0.toInt ∧ c0.toInt ≤ 34) (S_COMPACT_STRINGS : Sta Z Z.heap "java/lang/String" "COMPACT_STRINGS" "Z" (.int w_COMPACT_STRINGS)) (hc0 : ¬ (w_COMPACT_STRINGS = 0)) (X_a0 : Exa Z h0 a0 "java/lang/String") (F_coder_a0 : Fld Z h0 a0 "java/lang/String" "coder" "B" u_coder_a0) (g_a0 : n0 ≤ a0) (ne_b1_a0 : b1 ≠ a0) (hc1 : ¬ (c0 = z0)) (F_value_a0 : Fld Z h0 a0 "java/lang/String" "value" "[B" u_value_a0) :
    own_MF l Z h0 yM31 (Jvm.Cond.code yM31 jdk_42_method_150_code 5 none :: ws) ({ frames := 3, cells := 1, slots := 34, locals := 71 } : Room) #[(.ref a0), (.ref a1), .null] (Q_rm_saR Z a0 a1 b1 c0 k_b1 z0 f0 w_COMPACT_STRINGS u_coder_a0 u_value_a0 h0 n0) := by
  refine own_ent (own := "java/lang/String") (plainFor_of_name pn_7) rfl ?_
  intro p e s m below meth c s₁ Bd hx hby hml hZ hh hown hnm X0 e0
  have N0 := Fr.nil n0
  have kp0 : Keep h0 h0 [a0] := Keep.refl _ _
  refine oS (fun _ q => castTop (ef_rm_saR m a0 a1) q) ?_
  show OF _ _ _ _ (s₁.setTop (mkF m 0 #[vr a0, vr a1, .val .null, .unset, .unset] []))
  refine oS (fun _ q => XS.aloadN X0.here hx rfl (hb hby (d25 0)) rfl rfl q) ?_
  obtain ⟨T1, X1, e1, st1⟩ := initO X0 hx hZ hown (w_ hw 167 rfl) (w_ hw 26 rfl) (w_ hw 27 rfl) e0 (g := (mkF m 1 #[vr a0, vr a1, .val .null, .unset, .unset] [(.ref a0)])) rfl (by rw [hml]; rfl) rfl (hb hby (d25 1)) (by decide) (W := 0) (by show 2 * 0 + _ ≤ _; exact Nat.le_of_eq rfl) (by decide)
  refine oS st1 ?_
  show OF _ _ _ _ (T1.setTop (mkF m 4 _ _))
  refine oS (fun _ q => XS.aloadN X1.here hx rfl (hb hby (d25 2)) rfl rfl q) ?_
  obtain ⟨cq2, kq2, q2a, q2b, q2c⟩ := isOf hZ e1 X_a1
  obtain ⟨_, _, ⟨T2, L2, k2, n2⟩, -, X2, ⟨Lc2, hQ2, l2, y2, z2⟩, st2⟩ := X1.virtualBack hx (y := yM25) (z := yM25) hown (mvT hZ (w_ hw 168 rfl)) (mvT hZ (w_ hw 169 rfl)) (notFace_of_selects (args := #[]) (mvT hZ (w_ hw 171 rfl))) (mvT hZ (w_ hw 171 rfl)) (mvT hZ (w_ hw 170 rfl)) (by decide) (backOf (W := 0) (rm_gv l Z av0 hw [] a1 b1 h0 n0 (Nat.le_trans Z0 kp0.1) X_a1 F_value_a1) hZ (w_ hw 172 rfl) (w_ hw 47 rfl) (by decide) (by decide)) q2a q2c (g := (mkF m 5 #[vr a0, vr a1, .val .null, .unset, .unset] [(.ref a1)])) rfl (by rw [hml]; rfl) (Steps.refl _) (argsL := []) (rest := []) (lenOf pd_19 rfl) rfl (by show 2 * 0 + _ ≤ _; exact Nat.le_of_eq rfl) (hb hby (d25 3)) (fun _ _ => ⟨rfl, e1, (by decide : 0 + 0 ≤ _), (by decide : 0 + 0 ≤ _)⟩)
  dsimp only [Pt.U, Pt.locs, Pt.cells, Pt.slots] at X2 l2 y2 z2 st2 hQ2
  subst l2 y2 z2
  obtain ⟨rfl, N2q, he2⟩ := hQ2
  have N2 := Fr.app N0 N2q
  refine oT st2 ?_
  show OF _ _ _ _ (T2.setTop (mkF m 8 _ _))
  refine oS (fun _ q => XS.astoreN X2.here hx rfl (hb hby (d25 4)) rfl rfl (l' := #[vr a0, vr a1, .val .null, vr b1, .unset]) rfl (XS.aloadN X2.here hx rfl (hb hby (d25 5)) rfl rfl q)) ?_
  obtain ⟨cq3, kq3, q3a, q3b, q3c⟩ := isOf hZ he2 X_a1
  obtain ⟨_, _, ⟨T3, L3, k3, n3⟩, -, X3, ⟨Lc3, hQ3, l3, y3, z3⟩, st3⟩ := X2.virtualBack hx (y := yM26) (z := yM27) hown (mvT hZ (w_ hw 173 rfl)) (mvT hZ (w_ hw 174 rfl)) (own_nfs (y' := yM11) rfl (args := #[]) (mvT hZ (w_ hw 77 rfl))) (mvT hZ (w_ hw 176 rfl)) (mvT hZ (w_ hw 177 rfl)) (by decide) (backOf (W := 0) (rm_sl l Z av0 hw [] a1 c0 h0 n0 (Nat.le_trans Z0 kp0.1) X_a1 F_count_a1) hZ (w_ hw 178 rfl) (w_ hw 39 rfl) (by decide) (by decide)) q3a q3c (g := (mkF m 10 #[vr a0, vr a1, .val .null, vr b1, .unset] [(.ref a1)])) rfl (by rw [hml]; rfl) (Steps.refl _) (argsL := []) (rest := []) (lenOf pd_14 rfl) rfl (by show 2 * 0 + _ ≤ _; exact Nat.le_of_eq rfl) (hb hby (d25 6)) (fun _ _ => ⟨rfl, he2, (by decide : 0 + 0 ≤ _), (by decide : 0 + 0 ≤ _)⟩)
  dsimp only [Pt.U, Pt.locs, Pt.cells, Pt.slots] at X3 l3 y3 z3 st3 hQ3
  subst l3 y3 z3
  obtain ⟨rfl, N3q, he3⟩ := hQ3
  have N3 := Fr.app N2 N3q
  refine oT st3 ?_
  show OF _ _ _ _ (T3.setTop (mkF m 13 _ _))
  refine oS (fun _ q => XS.istore X3.here hx rfl (hb hby (d25 7)) rfl (l' := #[vr a0, vr a1, .val .null, vr b1, vi c0]) rfl (XS.aloadN X3.here hx rfl (hb hby (d25 8)) rfl rfl q)) ?_
  show OF _ _ _ _ (T3.setTop (mkF m 16 _ _))
  obtain ⟨cq4, kq4, q4a, q4b, q4c⟩ := isOf hZ he3 X_a1
  obtain ⟨_, _, ⟨T4, L4, k4, n4⟩, -, X4, ⟨Lc4, hQ4, l4, y4, z4⟩, st4⟩ := X3.virtualBack hx (y := yM0) (z := yM0) hown (mvT hZ (w_ hw 181 rfl)) (mvT hZ (w_ hw 80 rfl)) (notFace_of_selects (args := #[]) (mvT hZ (w_ hw 82 rfl))) (mvT hZ (w_ hw 82 rfl)) (mvT hZ (w_ hw 81 rfl)) (by decide) (backOf (W := 0) (rm_isl l Z av0 hw [] a1 w_COMPACT_STRINGS h0 n0 (Nat.le_trans Z0 kp0.1) Ol0 X_a1 F_coder_a1 S_COMPACT_STRINGS hc0) hZ (w_ hw 83 rfl) (w_ hw 47 rfl) (by decide) (by decide)) q4a q4c (g := (mkF m 16 #[vr a0, vr a1, .val .null, vr b1, vi c0] [(.ref a1)])) rfl (by rw [hml]; rfl) (Steps.refl _) (argsL := []) (rest := []) (lenOf pd_6 rfl) rfl (by show 2 * 0 + _ ≤ _; exact Nat.le_of_eq rfl) (hb hby (d25 9)) (fun _ _ => ⟨rfl, he3, (by decide : 0 + 0 ≤ _), (by decide : 0 + 0 ≤ _)⟩)
  dsimp only [Pt.U, Pt.locs, Pt.cells, Pt.slots] at X4 l4 y4 z4 st4 hQ4
  subst l4 y4 z4
  obtain ⟨rfl, N4q, he4⟩ := hQ4
  have N4 := Fr.app N3 N4q
  refine oT st4 ?_
  show OF _ _ _ _ (T4.setTop (mkF m 19 _ _))
  refine oS (fun _ q => XS.ifNo X4.here hx rfl (hb hby (d25 10)) rfl (Jvm.Free.XT.i0_eq_f (by decide : ¬ ((1 : Int32) = (0 : Int32)))) q) ?_
  show OF _ _ _ _ (T4.setTop (mkF m 22 _ _))
  refine oS (fun _ q => XS.aloadN X4.here hx rfl (hb hby (d25 11)) rfl rfl q) ?_
  show OF _ _ _ _ (T4.setTop (mkF m 23 #[vr a0, vr a1, .val .null, vr b1, vi c0] [(.ref a0)]))
  refine oS (fun _ q => XS.iconst X4.here hx rfl (hb hby (d25 12)) q) ?_
  obtain ⟨T5, h5, X5, e5, W5, st5⟩ := putFN X4 hx hZ hown (w_ hw 117 rfl) Via.refl he4 F_coder_a0 X_a0 (Or.inr ⟨(w_ hw 93 rfl), rfl, hnm⟩) (w_ hw 91 rfl) (ty := .byte) (v' := (.int 0)) (by decide) rfl rfl (g := (mkF m 24 #[vr a0, vr a1, .val .null, vr b1, vi c0] [(.int 0), (.ref a0)])) rfl rfl (hb hby (d25 13))
  refine oS st5 ?_
  have Fw5 : Fld Z h5 a0 "java/lang/String" "coder" "B" (.int 0) := F_coder_a0.same W5
  have N5 := Fr.snoc X5 N4 g_a0
  have kp6 : Keep h0 h5 [a0] := kp0.wr W5 (Or.inl (List.mem_of_getElem? (i := 0) rfl))
  have ol6 : Old Z n0 h5 := Ol0.wr W5 g_a0
  show OF _ _ _ _ (T5.setTop (mkF m 27 _ _))
  refine oS (fun _ q => XS.aloadN X5.here hx rfl (hb hby (d25 14)) rfl rfl (XS.aloadN X5.here hx rfl (hb hby (d25 15)) rfl rfl (XS.iconst X5.here hx rfl (hb hby (d25 16)) (XS.iload X5.here hx rfl (hb hby (d25 17)) rfl q)))) ?_
  show OF _ _ _ _ (T5.setTop (mkF m 32 _ _))
  obtain ⟨_, _, ⟨T7, L7, k7, n7⟩, -, X7, ⟨Lc7, hQ7, l7, y7, z7⟩, st7⟩ := Jvm.LawKit.callS X5 hx (y := yM30) hown (mvT hZ (w_ hw 182 rfl)) (mvT hZ (w_ hw 183 rfl)) (mvT hZ (w_ hw 184 rfl)) (mvT hZ (w_ hw 185 rfl)) (by decide) (backOf (W := 1) (rm_crR l Z av0 hw [] b1 c0 k_b1 z0 f0 h5 n0 (Nat.le_trans Z0 kp6.1) (V_b1.other W5 ne_b1_a0) (X_b1.wr W5) hr hc1) hZ (w_ hw 185 rfl) (w_ hw 184 rfl) (by decide) (by decide)) (g := (mkF m 32 #[vr a0, vr a1, .val .null, vr b1, vi c0] [(.int c0), (.int 0), (.ref b1), (.ref a0)])) rfl (by rw [hml]; rfl) (argsL := [(.ref b1), (.int 0), (.int c0)]) (rest := [(.ref a0)]) (lenOf pd_18 rfl) rfl (by show 2 * 0 + _ ≤ _; exact Nat.le_of_eq rfl) (hb hby (d25 18)) (fun _ _ => ⟨rfl, e5, (by decide : 0 + 1 ≤ _), (by decide : 0 + 34 ≤ _)⟩)
  dsimp only [Pt.U, Pt.locs, Pt.cells, Pt.slots] at X7 l7 y7 z7 st7 hQ7
  subst l7 y7 z7
  obtain ⟨c7_0, kc7_1, rfl, N7q, K7, r7_0, r7_1, r7_2⟩ := hQ7
  have N7 := Fr.app N5 N7q
  refine oS st7 ?_
  obtain ⟨h7, e7⟩ : ∃ z, T7.heap = z := ⟨_, rfl⟩
  rw [e7] at K7 r7_1 r7_2
  have bi_c7_0 : h5.size ≤ c7_0 := r7_0
  have lo_c7_0 : h0.size ≤ c7_0 := Nat.le_trans kp6.1 bi_c7_0
  have g_c7_0 : n0 ≤ c7_0 := Nat.le_trans Z0 lo_c7_0
  have kp8 : Keep h0 h7 [a0] := kp6.trans K7 all0
  have ol8 : Old Z n0 h7 := ol6.keep K7 all0
  show OF _ _ _ _ (T7.setTop (mkF m 35 _ _))
  have fr9 : Fld Z h7 a0 "java/lang/String" "value" "[B" u_value_a0 := ((F_value_a0.other W5 (Or.inr (slot_ne (Or.inr (w_ hw 92 rfl)) (Or.inr (w_ hw 93 rfl)) (by decide) (t := (.array .byte)) (t' := .byte) (by decide) (by decide)))).keep K7 nin0)
  obtain ⟨T10, h10, X10, e10, W10, st10⟩ := putF X7 hx hZ hown (host := "") (Or.inl (w_ hw 110 rfl)) Via.refl e7 fr9 ((X_a0.wr W5).keep K7) (Or.inr ⟨(w_ hw 92 rfl), rfl, hnm⟩) (w_ hw 91 rfl) (ty := (.array .byte)) (by decide) rfl rfl (g := (mkF m 35 #[vr a0, vr a1, .val .null, vr b1, vi c0] [(.ref c7_0), (.ref a0)])) rfl rfl (hb hby (d25 19))
  refine oS st10 ?_
  have Fw10 : Fld Z h10 a0 "java/lang/String" "value" "[B" (.ref c7_0) := ((F_value_a0.other W5 (Or.inr (slot_ne (Or.inr (w_ hw 92 rfl)) (Or.inr (w_ hw 93 rfl)) (by decide) (t := (.array .byte)) (t' := .byte) (by decide) (by decide)))).keep K7 nin0).same W10
  have N10 := Fr.snoc X10 N7 g_a0
  have kp11 : Keep h0 h10 [a0] := kp8.wr W10 (Or.inl (List.mem_of_getElem? (i := 0) rfl))
  have ol11 : Old Z n0 h10 := ol8.wr W10 g_a0
  show OF _ _ _ _ (T10.setTop (mkF m 38 _ _))
  refine oS (fun _ q => XS.goto X10.here hx rfl (pc0 := 38) (pc' := 97) rfl (hb hby (d25 20)) (by decide) (by decide) q) ?_
  obtain ⟨fs, hr, hrun, hended, hW, hsame⟩ := X10.leave (v := none) (fun _ => rfl)
  refine ⟨_, _, X10.returnOut hx Bd.returns (hb hby (d25 21)) hr, hrun, hended, _, _, rfl, ?_, ⟨_, rfl⟩, hW, hsame.mono (by decide) (by decide)⟩
  show Q_rm_saR Z a0 a1 b1 c0 k_b1 z0 f0 w_COMPACT_STRINGS u_coder_a0 u_value_a0 h0 n0 _ T10.heap _
  rw [e10]
  have fr12 : Fld Z h10 a0 "java/lang/String" "coder" "B" (.int 0) := ((Fw5.keep K7 nin0).other W10 (Or.inr (slot_ne (Or.inr (w_ hw 93 rfl)) (Or.inr (w_ hw 92 rfl)) (by decide) (t := .byte) (t' := (.array .byte)) (by decide) (by decide))))
  have fr13 : Arv Z h10 c7_0 kc7_1 .byte (c0 - 0) (own_ml (c0 - 0) (own_cpy own_zf (0 : Int32) f0 (0 : Int32) (c0 - 0))) (.int 0) := (r7_1.other W10 (Ne.symm (Nat.ne_of_lt (Nat.lt_of_lt_of_le (X_a0.wr W5).lt bi_c7_0))))
  exact ⟨c7_0, kc7_1, rfl, N10, kp11, lo_c7_0, fr12, fr13, (r7_2.wr W10), Fw10⟩
theorem ef_rm_sbR (m : MethodId) (a0 : Addr) (a1 : Addr) : entryFrame m #[(.ref a0), (.ref a1)] 2 = mkF m 0 #[.val (.ref a0), .val (.ref a1)] [] := by first | (simp [entryFrame, mkF, argsToLocals, Value.category]; done) | rfl
def Q_rm_sbR (Z : State) (a0 : Addr) (a1 : Addr) (b1 : Addr) (c0 : Int32) (k_b1 : ClassId) (z0 : Int32) (f0 : Nat → Int32) (w_COMPACT_STRINGS : Int32) (u_coder_a0 : Value) (u_value_a0 : Value) (h0 : Heap) (n0 : Nat) (v : Option Value) (h : Heap) (L : List Loc) : Prop := ∃ c1_0 : Addr, ∃ kc1_1 : ClassId, v = none ∧ Fr n0 L ∧ Keep h0 h [a0] ∧ h0.size ≤ c1_0 ∧ Fld Z h a0 "java/lang/String" "coder" "B" (.int 0) ∧ Arv Z h c1_0 kc1_1 .byte (c0 - 0) (own_ml (c0 - 0) (own_cpy own_zf (0 : Int32) f0 (0 : Int32) (c0 - 0))) (.int 0) ∧ Exa Z h c1_0 "[B" ∧ Fld Z h a0 "java/lang/String" "value" "[B" (.ref c1_0)
set_option maxRecDepth 65536 in
set_option maxHeartbeats 40000000 in
theorem rm_sbR (l : Launch) (Z : State) (av0 : Array Value) (hw : ∀ d ∈ tables_1, d.before av0 Z = true) (ws : List Jvm.Cond) (a0 : Addr) (a1 : Addr) (b1 : Addr) (c0 : Int32) (k_b1 : ClassId) (z0 : Int32) (f0 : Nat → Int32) (w_COMPACT_STRINGS : Int32) (u_coder_a0 : Value) (u_value_a0 : Value) (h0 : Heap) (n0 : Nat) (Z0 : n0 ≤ h0.size) (Ol0 : Old Z n0 h0) (X_a1 : Exa Z h0 a1 "java/lang/StringBuilder") (F_value_a1 : Fld Z h0 a1 "java/lang/AbstractStringBuilder" "value" "[B" (.ref b1)) (F_coder_a1 : Fld Z h0 a1 "java/lang/AbstractStringBuilder" "coder" "B" (.int 0)) (F_count_a1 : Fld Z h0 a1 "java/lang/AbstractStringBuilder" "count" "I" (.int c0)) (V_b1 : Arv Z h0 b1 k_b1 .byte z0 (own_ml z0 f0) (.int 0)) (X_b1 : Exa Z h0 b1 "[B") (hr : 0 ≤ c0.toInt ∧ c0.toInt < z0.toInt ∧ c0.toInt ≤ 34) (S_COMPACT_STRINGS : Sta Z Z.heap "java/lang/String" "COMPACT_STRINGS" "Z" (.int w_COMPACT_STRINGS)) (hc0 : ¬ (w_COMPACT_STRINGS = 0)) (X_a0 : Exa Z h0 a0 "java/lang/String") (F_coder_a0 : Fld Z h0 a0 "java/lang/String" "coder" "B" u_coder_a0) (g_a0 : n0 ≤ a0) (ne_b1_a0 : b1 ≠ a0) (hc1 : ¬ (c0 = z0)) (F_value_a0 : Fld Z h0 a0 "java/lang/String" "value" "[B" u_value_a0) :
    own_MF l Z h0 yM32 (Jvm.Cond.code yM32 jdk_42_method_53_code 2 none :: ws) ({ frames := 4, cells := 1, slots := 34, locals := 87 } : Room) #[(.ref a0), (.ref a1)] (Q_rm_sbR Z a0 a1 b1 c0 k_b1 z0 f0 w_COMPACT_STRINGS u_coder_a0 u_value_a0 h0 n0) := by
  refine own_ent (own := "java/lang/String") (plainFor_of_name pn_7) rfl ?_
  intro p e s m below meth c s₁ Bd hx hby hml hZ hh hown hnm X0 e0
  have N0 := Fr.nil n0
  have kp0 : Keep h0 h0 [a0] := Keep.refl _ _
  refine oS (fun _ q => castTop (ef_rm_sbR m a0 a1) q) ?_
  show OF _ _ _ _ (s₁.setTop (mkF m 0 #[vr a0, vr a1] []))
  refine oS (fun _ q => XS.aloadN X0.here hx rfl (hb hby (d24 0)) rfl rfl (XS.aloadN X0.here hx rfl (hb hby (d24 1)) rfl rfl (XS.aconstNull X0.here hx rfl (hb hby (d24 2)) q))) ?_
  show OF _ _ _ _ (s₁.setTop (mkF m 3 _ _))
  show OF _ _ _ _ (s₁.setTop (mkF m 3 _ _))
  obtain ⟨_, _, ⟨T1, L1, k1, n1⟩, -, X1, ⟨Lc1, hQ1, l1, y1, z1⟩, st1⟩ := X0.specialBack hx (y := yM31) rfl hown (mvT hZ (w_ hw 164 rfl)) (mvT hZ (w_ hw 165 rfl)) (mvT hZ (w_ hw 166 rfl)) (by decide) (backOf (W := 0) (rm_saR l Z av0 hw [] a0 a1 b1 c0 k_b1 z0 f0 w_COMPACT_STRINGS u_coder_a0 u_value_a0 h0 n0 (Nat.le_trans Z0 kp0.1) Ol0 X_a1 F_value_a1 F_coder_a1 F_count_a1 V_b1 X_b1 hr S_COMPACT_STRINGS hc0 X_a0 F_coder_a0 g_a0 ne_b1_a0 hc1 F_value_a0) hZ (w_ hw 166 rfl) (w_ hw 51 rfl) (by decide) (by decide)) (g := (mkF m 3 #[vr a0, vr a1] [.null, (.ref a1), (.ref a0)])) rfl (by rw [hml]; rfl) (Steps.refl _) (a := a0) (argsL := [(.ref a1), .null]) (rest := []) (lenOf pd_20 rfl) rfl (by show 2 * 0 + _ ≤ _; exact Nat.le_of_eq rfl) (hb hby (d24 3)) (fun _ _ => ⟨rfl, e0, (by decide : 0 + 1 ≤ _), (by decide : 0 + 34 ≤ _)⟩)
  dsimp only [Pt.U, Pt.locs, Pt.cells, Pt.slots] at X1 l1 y1 z1 st1 hQ1
  subst l1 y1 z1
  obtain ⟨c1_0, kc1_1, rfl, N1q, K1, r1_0, r1_1, r1_2, r1_3, r1_4⟩ := hQ1
  have N1 := Fr.app N0 N1q
  refine oT st1 ?_
  obtain ⟨h1, e1⟩ : ∃ z, T1.heap = z := ⟨_, rfl⟩
  rw [e1] at K1 r1_1 r1_2 r1_3 r1_4
  have bi_c1_0 : h0.size ≤ c1_0 := r1_0
  have lo_c1_0 : h0.size ≤ c1_0 := Nat.le_trans kp0.1 bi_c1_0
  have g_c1_0 : n0 ≤ c1_0 := Nat.le_trans Z0 lo_c1_0
  have kp2 : Keep h0 h1 [a0] := kp0.trans K1 (allS (Or.inl (List.mem_of_getElem? (i := 0) rfl)) all0)
  have ol2 : Old Z n0 h1 := Ol0.keep K1 (allS g_a0 all0)
  show OF _ _ _ _ (T1.setTop (mkF m 6 _ _))
  obtain ⟨fs, hr, hrun, hended, hW, hsame⟩ := X1.leave (v := none) (fun _ => rfl)
  refine ⟨_, _, X1.returnOut hx Bd.returns (hb hby (d24 4)) hr, hrun, hended, _, _, rfl, ?_, ⟨_, rfl⟩, hW, hsame.mono (by decide) (by decide)⟩
  show Q_rm_sbR Z a0 a1 b1 c0 k_b1 z0 f0 w_COMPACT_STRINGS u_coder_a0 u_value_a0 h0 n0 _ T1.heap _
  rw [e1]
  exact ⟨c1_0, kc1_1, rfl, N1, kp2, lo_c1_0, r1_1, r1_2, r1_3, r1_4⟩
theorem ef_rm_tsR (m : MethodId) (a0 : Addr) : entryFrame m #[(.ref a0)] 1 = mkF m 0 #[.val (.ref a0)] [] := by first | (simp [entryFrame, mkF, argsToLocals, Value.category]; done) | rfl
def Q_rm_tsR (Z : State) (a0 : Addr) (b0 : Addr) (c0 : Int32) (k_b0 : ClassId) (z0 : Int32) (f0 : Nat → Int32) (w_COMPACT_STRINGS : Int32) (h0 : Heap) (n0 : Nat) (v : Option Value) (h : Heap) (L : List Loc) : Prop := ∃ b1 c3_0 : Addr, ∃ kc3_1 : ClassId, v = some (.ref b1) ∧ Fr n0 L ∧ Keep h0 h [] ∧ h0.size ≤ b1 ∧ h0.size ≤ c3_0 ∧ b1 ≠ c3_0 ∧ Exa Z h b1 "java/lang/String" ∧ Fld Z h b1 "java/lang/String" "coder" "B" (.int 0) ∧ Arv Z h c3_0 kc3_1 .byte (c0 - 0) (own_ml (c0 - 0) (own_cpy own_zf (0 : Int32) f0 (0 : Int32) (c0 - 0))) (.int 0) ∧ Exa Z h c3_0 "[B" ∧ Fld Z h b1 "java/lang/String" "value" "[B" (.ref c3_0)
set_option maxRecDepth 65536 in
set_option maxHeartbeats 40000000 in
theorem rm_tsR (l : Launch) (Z : State) (av0 : Array Value) (hw : ∀ d ∈ tables_1, d.before av0 Z = true) (ws : List Jvm.Cond) (a0 : Addr) (b0 : Addr) (c0 : Int32) (k_b0 : ClassId) (z0 : Int32) (f0 : Nat → Int32) (w_COMPACT_STRINGS : Int32) (h0 : Heap) (n0 : Nat) (Z0 : n0 ≤ h0.size) (Ol0 : Old Z n0 h0) (X_a0 : Exa Z h0 a0 "java/lang/StringBuilder") (F_value_a0 : Fld Z h0 a0 "java/lang/AbstractStringBuilder" "value" "[B" (.ref b0)) (F_coder_a0 : Fld Z h0 a0 "java/lang/AbstractStringBuilder" "coder" "B" (.int 0)) (F_count_a0 : Fld Z h0 a0 "java/lang/AbstractStringBuilder" "count" "I" (.int c0)) (V_b0 : Arv Z h0 b0 k_b0 .byte z0 (own_ml z0 f0) (.int 0)) (X_b0 : Exa Z h0 b0 "[B") (hr : 0 ≤ c0.toInt ∧ c0.toInt < z0.toInt ∧ c0.toInt ≤ 34) (S_COMPACT_STRINGS : Sta Z Z.heap "java/lang/String" "COMPACT_STRINGS" "Z" (.int w_COMPACT_STRINGS)) (hc0 : ¬ (w_COMPACT_STRINGS = 0)) (hc1 : ¬ (c0 = z0)) :
    own_MF l Z h0 yM33 (Jvm.Cond.code yM33 jdk_67_method_42_code 1 (some (.object "java/lang/String")) :: ws) ({ frames := 5, cells := 2, slots := 38, locals := 101 } : Room) #[(.ref a0)] (Q_rm_tsR Z a0 b0 c0 k_b0 z0 f0 w_COMPACT_STRINGS h0 n0) := by
  refine own_ent (own := "java/lang/StringBuilder") (plainFor_of_name pn_2) rfl ?_
  intro p e s m below meth c s₁ Bd hx hby hml hZ hh hown hnm X0 e0
  have N0 := Fr.nil n0
  have kp0 : Keep h0 h0 [] := Keep.refl _ _
  refine oS (fun _ q => castTop (ef_rm_tsR m a0) q) ?_
  show OF _ _ _ _ (s₁.setTop (mkF m 0 #[vr a0] []))
  obtain ⟨T1, h1, X1, e1, E1, A1, D1, -, st1⟩ := newO X0 hx hZ hown (w_ hw 159 rfl) (w_ hw 91 rfl) (w_ hw 51 rfl) e0 (g := (mkF m 0 #[vr a0] [])) rfl (hb hby (d23 0)) (by decide) (by decide)
  obtain ⟨b1, qe1⟩ : ∃ z, z = h0.size := ⟨_, rfl⟩
  rw [← qe1] at A1 D1 st1
  refine oS st1 ?_
  have bi_b1 : h0.size ≤ b1 := Nat.le_of_eq qe1.symm
  have lo_b1 : h0.size ≤ b1 := Nat.le_trans kp0.1 bi_b1
  have g_b1 : n0 ≤ b1 := Nat.le_trans Z0 lo_b1
  have kp2 : Keep h0 h1 [] := kp0.ext E1
  have ol2 : Old Z n0 h1 := Ol0.ext E1
  have F_value_b1 : Fld Z h1 b1 "java/lang/String" "value" "[B" .null := D1 (Or.inr (w_ hw 92 rfl)) (ty := (.array .byte)) (by decide)
  have F_coder_b1 : Fld Z h1 b1 "java/lang/String" "coder" "B" (.int 0) := D1 (Or.inr (w_ hw 93 rfl)) (ty := .byte) (by decide)
  show OF _ _ _ _ (T1.setTop (mkF m 3 _ _))
  refine oS (fun _ q => XS.dup X1.here hx rfl (hb hby (d23 1)) rfl rfl (XS.aloadN X1.here hx rfl (hb hby (d23 2)) rfl rfl q)) ?_
  show OF _ _ _ _ (T1.setTop (mkF m 5 _ _))
  show OF _ _ _ _ (T1.setTop (mkF m 5 _ _))
  obtain ⟨_, _, ⟨T3, L3, k3, n3⟩, -, X3, ⟨Lc3, hQ3, l3, y3, z3⟩, st3⟩ := X1.specialBack hx (y := yM32) rfl hown (mvT hZ (w_ hw 160 rfl)) (mvT hZ (w_ hw 161 rfl)) (mvT hZ (w_ hw 163 rfl)) (by decide) (backOf (W := 1) (rm_sbR l Z av0 hw [] b1 a0 b0 c0 k_b0 z0 f0 w_COMPACT_STRINGS (.int 0) .null h1 n0 (Nat.le_trans Z0 kp2.1) ol2 (X_a0.ext E1) (F_value_a0.ext E1) (F_coder_a0.ext E1) (F_count_a0.ext E1) (V_b0.ext E1) (X_b0.ext E1) hr S_COMPACT_STRINGS hc0 A1 F_coder_b1 g_b1 (Nat.ne_of_lt (Nat.lt_of_lt_of_le X_b0.lt bi_b1)) hc1 F_value_b1) hZ (w_ hw 163 rfl) (w_ hw 51 rfl) (by decide) (by decide)) (g := (mkF m 5 #[vr a0] [(.ref a0), (.ref b1), (.ref b1)])) rfl (by rw [hml]; rfl) (Steps.refl _) (a := b1) (argsL := [(.ref a0)]) (rest := [(.ref b1)]) (lenOf pd_21 rfl) rfl (by show 2 * 0 + _ ≤ _; exact Nat.le_of_eq rfl) (hb hby (d23 3)) (fun _ _ => ⟨rfl, e1, (by decide : 1 + 1 ≤ _), (by decide : 4 + 34 ≤ _)⟩)
  dsimp only [Pt.U, Pt.locs, Pt.cells, Pt.slots] at X3 l3 y3 z3 st3 hQ3
  subst l3 y3 z3
  obtain ⟨c3_0, kc3_1, rfl, N3q, K3, r3_0, r3_1, r3_2, r3_3, r3_4⟩ := hQ3
  have N3 := Fr.app N0 N3q
  refine oT st3 ?_
  obtain ⟨h3, e3⟩ : ∃ z, T3.heap = z := ⟨_, rfl⟩
  rw [e3] at K3 r3_1 r3_2 r3_3 r3_4
  have bi_c3_0 : h1.size ≤ c3_0 := r3_0
  have lo_c3_0 : h0.size ≤ c3_0 := Nat.le_trans kp2.1 bi_c3_0
  have g_c3_0 : n0 ≤ c3_0 := Nat.le_trans Z0 lo_c3_0
  have kp4 : Keep h0 h3 [] := kp2.trans K3 (allS (Or.inr lo_b1) all0)
  have ol4 : Old Z n0 h3 := ol2.keep K3 (allS g_b1 all0)
  show OF _ _ _ _ (T3.setTop (mkF m 8 _ _))
  obtain ⟨fs, hr, hrun, hended, hW, hsame⟩ := X3.leave (v := some (.ref b1)) (fun h => by rw [Bd.returns] at h; cases h)
  refine ⟨_, _, retOut X3 hx Bd.returns rfl (Or.inr (Or.inr (Or.inr (Or.inr ⟨rfl, rfl, rfl⟩)))) (hb hby (d23 4)) hr, hrun, hended, _, _, rfl, ?_, ⟨_, rfl⟩, hW, hsame.mono (by decide) (by decide)⟩
  show Q_rm_tsR Z a0 b0 c0 k_b0 z0 f0 w_COMPACT_STRINGS h0 n0 _ T3.heap _
  rw [e3]
  exact ⟨b1, c3_0, kc3_1, rfl, N3, kp4, lo_b1, lo_c3_0, (Nat.ne_of_lt (Nat.lt_of_lt_of_le A1.lt bi_c3_0)), (A1.keep K3), r3_1, r3_2, r3_3, r3_4⟩
def own_len (q9 : Int64) (m9 : Int32) : Int32 := ((((0 : Int32) + (own_ssL q9)) + ((1 : Int32) >>> ((0 : Int32) &&& 31))) + (own_ssI m9))
def own_FB (q9 : Int64) : Nat → Int32 := (own_cpy (own_outL q9 ((0 : Int32) + (own_ssL q9)) own_zf) (((0 : Int32) + (own_ssL q9)) <<< ((0 : Int32) &&& 31)) (own_lf [(47 : Int32)]) (0 : Int32) (1 : Int32))
def own_T (q9 : Int64) (m9 : Int32) : Nat → Int32 := own_outI m9 ((((0 : Int32) + (own_ssL q9)) + ((1 : Int32) >>> ((0 : Int32) &&& 31))) + (own_ssI m9)) (own_FB q9)
theorem own_zf0 (k : Nat) : ∀ i, k ≤ i → own_zf i = 0 := fun i _ => rfl
theorem own_c1 {x : Int32} (h0 : 0 ≤ x.toInt) : x.toNatClampNeg = x.toInt.toNat := rfl
theorem own_hfA {q : Int64} {n : Int32} (h : n.toInt ≤ 16) : ∀ i, 16 ≤ i → own_outL q n own_zf i = 0 := by
  have e : n.toNatClampNeg = n.toInt.toNat := rfl
  exact own_outz (by omega) (own_zf0 16)
theorem own_hfB {q : Int64} {n : Int32} (h0 : 0 ≤ n.toInt) (h : n.toInt + 1 ≤ 16) : ∀ i, 16 ≤ i → own_cpy (own_outL q n own_zf) (n <<< ((0 : Int32) &&& 31)) (own_lf [(47 : Int32)]) (0 : Int32) (1 : Int32) i = 0 := fun i hi => by
  unfold own_cpy; rw [own_sh0]; have e : n.toNatClampNeg = n.toInt.toNat := rfl; have r : (1 : Int32).toNatClampNeg = 1 := rfl
  rw [if_neg (by omega)]; exact own_hfA (by omega) i hi
theorem own_idc {f : Nat → Int32} {n : Int32} : ∀ i, i < (n - 0).toNatClampNeg → own_cpy own_zf (0 : Int32) f (0 : Int32) (n - 0) i = f i := fun i hi => by
  unfold own_cpy; have r : (0 : Int32).toNatClampNeg = 0 := rfl; rw [r, if_pos (by omega), show 0 + (i - 0) = i by omega]
theorem own_eAB (q9 : Int64) (m9 : Int32) : 1 ≤ (own_ssL q9).toInt ∧ (own_ssL q9).toInt ≤ 20 ∧ 1 ≤ (own_ssI m9).toInt ∧ (own_ssI m9).toInt ≤ 11 ∧ (((0 : Int32) + (own_ssL q9))).toInt = (own_ssL q9).toInt ∧ ((((0 : Int32) + (own_ssL q9)) + ((1 : Int32) >>> ((0 : Int32) &&& 31)))).toInt = (own_ssL q9).toInt + 1 ∧ (((((0 : Int32) + (own_ssL q9)) + ((1 : Int32) >>> ((0 : Int32) &&& 31))) + (own_ssI m9))).toInt = (own_ssL q9).toInt + 1 + (own_ssI m9).toInt := by
  have a := own_ssLb q9; have b := own_ssIb m9; have r0 : (0 : Int32).toInt = 0 := rfl; have r1 : (1 : Int32).toInt = 1 := rfl
  rw [own_sr0]
  have e := c_iadd (0 : Int32) (own_ssL q9); have e' := rng32 ((0 : Int32) + (own_ssL q9))
  have f := c_iadd ((0 : Int32) + (own_ssL q9)) (1 : Int32); have f' := rng32 (((0 : Int32) + (own_ssL q9)) + 1)
  have g := c_iadd (((0 : Int32) + (own_ssL q9)) + 1) (own_ssI m9); have g' := rng32 ((((0 : Int32) + (own_ssL q9)) + 1) + (own_ssI m9))
  refine ⟨a.1, a.2, b.1, b.2, by omega, by omega, by omega⟩
theorem own_gt {x z : Int32} (hx : 0 ≤ x.toInt ∧ x.toInt ≤ 100) (hz : 0 ≤ z.toInt ∧ z.toInt ≤ 100) : ((0 : Int32) < (x - (z >>> ((0 : Int32) &&& 31)))) ↔ z.toInt < x.toInt := by
  rw [own_sr0]; have a := c_isub x z; have a' := rng32 (x - z); have r0 : (0 : Int32).toInt = 0 := rfl; rw [Int32.lt_iff_toInt_lt]; omega
theorem own_n16 : (16 : Int32).toInt = 16 ∧ (34 : Int32).toInt = 34 ∧ (0 : Int32).toInt = 0 := ⟨rfl, rfl, rfl⟩
theorem pd_22 : parseMethodDescriptor "()V" = some ⟨[], none⟩ := by decide +kernel
theorem pd_23 : parseMethodDescriptor "(J)Ljava/lang/StringBuilder;" = some ⟨[.long], some (.object "java/lang/StringBuilder")⟩ := by decide +kernel
theorem pd_24 : parseMethodDescriptor "(Ljava/lang/String;)Ljava/lang/StringBuilder;" = some ⟨[(.object "java/lang/String")], some (.object "java/lang/StringBuilder")⟩ := by decide +kernel
theorem pd_25 : parseMethodDescriptor "(I)Ljava/lang/StringBuilder;" = some ⟨[.int], some (.object "java/lang/StringBuilder")⟩ := by decide +kernel
theorem pd_26 : parseMethodDescriptor "()Ljava/lang/String;" = some ⟨[], some (.object "java/lang/String")⟩ := by decide +kernel
abbrev C3 := prog_19_method_6_code
def L3 : List (Nat × Instr × Nat) := [(0, .new 57, 3), (3, .dup, 1), (4, .invokespecial 59, 3), (7, .aload_n 0, 1), (8, .getfield 7, 3), (11, .invokevirtual 60, 3), (14, .ldc 64, 2), (16, .invokevirtual 66, 3), (19, .aload_n 0, 1), (20, .getfield 13, 3), (23, .invokevirtual 69, 3), (26, .invokevirtual 72, 3), (29, .areturn, 1)]
theorem d3 : ∀ i : Fin 13, decode C3 (L3.get i).1 = .ok (L3.get i).2 := by decide +kernel
theorem ef_rm_pts (m : MethodId) (a0 : Addr) : entryFrame m #[(.ref a0)] 1 = mkF m 0 #[.val (.ref a0)] [] := by first | (simp [entryFrame, mkF, argsToLocals, Value.category]; done) | rfl
def Q_rm_pts (Z : State) (a0 : Addr) (q9 : Int64) (m9 : Int32) (kO : ClassId) (gO : Nat → Int32) (w_DigitOnes : Addr) (kT : ClassId) (gT : Nat → Int32) (w_DigitTens : Addr) (w_COMPACT_STRINGS : Int32) (h0 : Heap) (n0 : Nat) (v : Option Value) (h : Heap) (L : List Loc) : Prop := ∃ (xT : Addr) (bT : Addr) (kT : ClassId), v = some (.ref xT) ∧ Fr n0 L ∧ Keep h0 h [] ∧ h0.size ≤ xT ∧ Exa Z h xT "java/lang/String" ∧ Fld Z h xT "java/lang/String" "coder" "B" (.int 0) ∧ Fld Z h xT "java/lang/String" "value" "[B" (.ref bT) ∧ Arv Z h bT kT .byte (own_len q9 m9) (own_ml (own_len q9 m9) (own_T q9 m9)) (.int 0)
theorem om_rm_pts_2 (q9 : Int64) (m9 : Int32) (o0 : (0 : Int32) < (((0 : Int32) + (own_ssL q9)) - ((16 : Int32) >>> ((0 : Int32) &&& 31)))) : (own_ssL q9).toInt ≤ ((0 : Int32) + (own_ssL q9)).toInt ∧ ((0 : Int32) + (own_ssL q9)).toInt ≤ (34 : Int32).toInt := by
  have b := own_eAB q9 m9; have r := own_n16
  rw [own_gt (by omega) (by decide)] at o0
  omega
theorem om_rm_pts_3 (q9 : Int64) (m9 : Int32) (o0 : (0 : Int32) < (((0 : Int32) + (own_ssL q9)) - ((16 : Int32) >>> ((0 : Int32) &&& 31)))) : 16 < ((0 : Int32) + (own_ssL q9)).toInt ∧ ((0 : Int32) + (own_ssL q9)).toInt ≤ 34 := by
  have b := own_eAB q9 m9; have r := own_n16
  rw [own_gt (by omega) (by decide)] at o0
  omega
theorem om_rm_pts_4 (q9 : Int64) (m9 : Int32) (o0 : (0 : Int32) < (((0 : Int32) + (own_ssL q9)) - ((16 : Int32) >>> ((0 : Int32) &&& 31)))) : 0 ≤ ((0 : Int32) + (own_ssL q9)).toInt ∧ ((0 : Int32) + (own_ssL q9)).toInt + 1 ≤ (34 : Int32).toInt := by
  have b := own_eAB q9 m9; have r := own_n16
  rw [own_gt (by omega) (by decide)] at o0
  omega
theorem om_rm_pts_5 (q9 : Int64) (m9 : Int32) (o0 : (0 : Int32) < (((0 : Int32) + (own_ssL q9)) - ((16 : Int32) >>> ((0 : Int32) &&& 31)))) : ¬ ((0 : Int32) < ((((0 : Int32) + (own_ssL q9)) + ((1 : Int32) >>> ((0 : Int32) &&& 31))) - ((34 : Int32) >>> ((0 : Int32) &&& 31)))) := by
  have b := own_eAB q9 m9; have r := own_n16
  rw [own_gt (by omega) (by decide)] at o0
  rw [own_gt (by omega) (by decide)]
  omega
theorem om_rm_pts_6 (q9 : Int64) (m9 : Int32) (o0 : (0 : Int32) < (((0 : Int32) + (own_ssL q9)) - ((16 : Int32) >>> ((0 : Int32) &&& 31)))) : (own_ssI m9).toInt ≤ ((((0 : Int32) + (own_ssL q9)) + ((1 : Int32) >>> ((0 : Int32) &&& 31))) + (own_ssI m9)).toInt ∧ ((((0 : Int32) + (own_ssL q9)) + ((1 : Int32) >>> ((0 : Int32) &&& 31))) + (own_ssI m9)).toInt ≤ (34 : Int32).toInt := by
  have b := own_eAB q9 m9; have r := own_n16
  rw [own_gt (by omega) (by decide)] at o0
  omega
theorem om_rm_pts_7 (q9 : Int64) (m9 : Int32) (o0 : (0 : Int32) < (((0 : Int32) + (own_ssL q9)) - ((16 : Int32) >>> ((0 : Int32) &&& 31)))) : ¬ ((0 : Int32) < (((((0 : Int32) + (own_ssL q9)) + ((1 : Int32) >>> ((0 : Int32) &&& 31))) + (own_ssI m9)) - ((34 : Int32) >>> ((0 : Int32) &&& 31)))) := by
  have b := own_eAB q9 m9; have r := own_n16
  rw [own_gt (by omega) (by decide)] at o0
  rw [own_gt (by omega) (by decide)]
  omega
theorem om_rm_pts_8 (q9 : Int64) (m9 : Int32) (o0 : (0 : Int32) < (((0 : Int32) + (own_ssL q9)) - ((16 : Int32) >>> ((0 : Int32) &&& 31)))) : 0 ≤ ((((0 : Int32) + (own_ssL q9)) + ((1 : Int32) >>> ((0 : Int32) &&& 31))) + (own_ssI m9)).toInt ∧ ((((0 : Int32) + (own_ssL q9)) + ((1 : Int32) >>> ((0 : Int32) &&& 31))) + (own_ssI m9)).toInt < (34 : Int32).toInt ∧ ((((0 : Int32) + (own_ssL q9)) + ((1 : Int32) >>> ((0 : Int32) &&& 31))) + (own_ssI m9)).toInt ≤ 34 := by
  have b := own_eAB q9 m9; have r := own_n16
  rw [own_gt (by omega) (by decide)] at o0
  omega
theorem om_rm_pts_9 (q9 : Int64) (m9 : Int32) (o0 : (0 : Int32) < (((0 : Int32) + (own_ssL q9)) - ((16 : Int32) >>> ((0 : Int32) &&& 31)))) : ¬ (((((0 : Int32) + (own_ssL q9)) + ((1 : Int32) >>> ((0 : Int32) &&& 31))) + (own_ssI m9)) = 34) := by
  have b := own_eAB q9 m9; have r := own_n16
  rw [own_gt (by omega) (by decide)] at o0
  rw [← Int32.toInt_inj]
  omega
theorem om_rm_pts_10 (q9 : Int64) (m9 : Int32) (o0 : ¬ ((0 : Int32) < (((0 : Int32) + (own_ssL q9)) - ((16 : Int32) >>> ((0 : Int32) &&& 31))))) : (own_ssL q9).toInt ≤ ((0 : Int32) + (own_ssL q9)).toInt ∧ ((0 : Int32) + (own_ssL q9)).toInt ≤ (16 : Int32).toInt := by
  have b := own_eAB q9 m9; have r := own_n16
  rw [own_gt (by omega) (by decide)] at o0
  omega
theorem om_rm_pts_13 (q9 : Int64) (m9 : Int32) (o0 : ¬ ((0 : Int32) < (((0 : Int32) + (own_ssL q9)) - ((16 : Int32) >>> ((0 : Int32) &&& 31))))) (o1 : (0 : Int32) < ((((0 : Int32) + (own_ssL q9)) + ((1 : Int32) >>> ((0 : Int32) &&& 31))) - ((16 : Int32) >>> ((0 : Int32) &&& 31)))) : 0 ≤ ((0 : Int32) + (own_ssL q9)).toInt ∧ ((0 : Int32) + (own_ssL q9)).toInt + 1 ≤ (34 : Int32).toInt := by
  have b := own_eAB q9 m9; have r := own_n16
  rw [own_gt (by omega) (by decide)] at o0
  rw [own_gt (by omega) (by decide)] at o1
  omega
theorem om_rm_pts_14 (q9 : Int64) (m9 : Int32) (o0 : ¬ ((0 : Int32) < (((0 : Int32) + (own_ssL q9)) - ((16 : Int32) >>> ((0 : Int32) &&& 31))))) (o1 : (0 : Int32) < ((((0 : Int32) + (own_ssL q9)) + ((1 : Int32) >>> ((0 : Int32) &&& 31))) - ((16 : Int32) >>> ((0 : Int32) &&& 31)))) : 16 < (((0 : Int32) + (own_ssL q9)) + ((1 : Int32) >>> ((0 : Int32) &&& 31))).toInt ∧ (((0 : Int32) + (own_ssL q9)) + ((1 : Int32) >>> ((0 : Int32) &&& 31))).toInt ≤ 34 := by
  have b := own_eAB q9 m9; have r := own_n16
  rw [own_gt (by omega) (by decide)] at o0
  rw [own_gt (by omega) (by decide)] at o1
  omega
theorem om_rm_pts_15 (q9 : Int64) (m9 : Int32) (o0 : ¬ ((0 : Int32) < (((0 : Int32) + (own_ssL q9)) - ((16 : Int32) >>> ((0 : Int32) &&& 31))))) (o1 : (0 : Int32) < ((((0 : Int32) + (own_ssL q9)) + ((1 : Int32) >>> ((0 : Int32) &&& 31))) - ((16 : Int32) >>> ((0 : Int32) &&& 31)))) : ((0 : Int32) + (own_ssL q9)).toInt ≤ 16 := by
  have b := own_eAB q9 m9; have r := own_n16
  rw [own_gt (by omega) (by decide)] at o0
  rw [own_gt (by omega) (by decide)] at o1
  omega
theorem om_rm_pts_16 (q9 : Int64) (m9 : Int32) (o0 : ¬ ((0 : Int32) < (((0 : Int32) + (own_ssL q9)) - ((16 : Int32) >>> ((0 : Int32) &&& 31))))) (o1 : (0 : Int32) < ((((0 : Int32) + (own_ssL q9)) + ((1 : Int32) >>> ((0 : Int32) &&& 31))) - ((16 : Int32) >>> ((0 : Int32) &&& 31)))) : (own_ssI m9).toInt ≤ ((((0 : Int32) + (own_ssL q9)) + ((1 : Int32) >>> ((0 : Int32) &&& 31))) + (own_ssI m9)).toInt ∧ ((((0 : Int32) + (own_ssL q9)) + ((1 : Int32) >>> ((0 : Int32) &&& 31))) + (own_ssI m9)).toInt ≤ (34 : Int32).toInt := by
  have b := own_eAB q9 m9; have r := own_n16
  rw [own_gt (by omega) (by decide)] at o0
  rw [own_gt (by omega) (by decide)] at o1
  omega
theorem om_rm_pts_17 (q9 : Int64) (m9 : Int32) (o0 : ¬ ((0 : Int32) < (((0 : Int32) + (own_ssL q9)) - ((16 : Int32) >>> ((0 : Int32) &&& 31))))) (o1 : (0 : Int32) < ((((0 : Int32) + (own_ssL q9)) + ((1 : Int32) >>> ((0 : Int32) &&& 31))) - ((16 : Int32) >>> ((0 : Int32) &&& 31)))) : ¬ ((0 : Int32) < (((((0 : Int32) + (own_ssL q9)) + ((1 : Int32) >>> ((0 : Int32) &&& 31))) + (own_ssI m9)) - ((34 : Int32) >>> ((0 : Int32) &&& 31)))) := by
  have b := own_eAB q9 m9; have r := own_n16
  rw [own_gt (by omega) (by decide)] at o0
  rw [own_gt (by omega) (by decide)] at o1
  rw [own_gt (by omega) (by decide)]
  omega
theorem om_rm_pts_18 (q9 : Int64) (m9 : Int32) (o0 : ¬ ((0 : Int32) < (((0 : Int32) + (own_ssL q9)) - ((16 : Int32) >>> ((0 : Int32) &&& 31))))) (o1 : (0 : Int32) < ((((0 : Int32) + (own_ssL q9)) + ((1 : Int32) >>> ((0 : Int32) &&& 31))) - ((16 : Int32) >>> ((0 : Int32) &&& 31)))) : 0 ≤ ((((0 : Int32) + (own_ssL q9)) + ((1 : Int32) >>> ((0 : Int32) &&& 31))) + (own_ssI m9)).toInt ∧ ((((0 : Int32) + (own_ssL q9)) + ((1 : Int32) >>> ((0 : Int32) &&& 31))) + (own_ssI m9)).toInt < (34 : Int32).toInt ∧ ((((0 : Int32) + (own_ssL q9)) + ((1 : Int32) >>> ((0 : Int32) &&& 31))) + (own_ssI m9)).toInt ≤ 34 := by
  have b := own_eAB q9 m9; have r := own_n16
  rw [own_gt (by omega) (by decide)] at o0
  rw [own_gt (by omega) (by decide)] at o1
  omega
theorem om_rm_pts_19 (q9 : Int64) (m9 : Int32) (o0 : ¬ ((0 : Int32) < (((0 : Int32) + (own_ssL q9)) - ((16 : Int32) >>> ((0 : Int32) &&& 31))))) (o1 : (0 : Int32) < ((((0 : Int32) + (own_ssL q9)) + ((1 : Int32) >>> ((0 : Int32) &&& 31))) - ((16 : Int32) >>> ((0 : Int32) &&& 31)))) : ¬ (((((0 : Int32) + (own_ssL q9)) + ((1 : Int32) >>> ((0 : Int32) &&& 31))) + (own_ssI m9)) = 34) := by
  have b := own_eAB q9 m9; have r := own_n16
  rw [own_gt (by omega) (by decide)] at o0
  rw [own_gt (by omega) (by decide)] at o1
  rw [← Int32.toInt_inj]
  omega
theorem om_rm_pts_20 (q9 : Int64) (m9 : Int32) (o0 : ¬ ((0 : Int32) < (((0 : Int32) + (own_ssL q9)) - ((16 : Int32) >>> ((0 : Int32) &&& 31))))) (o1 : ¬ ((0 : Int32) < ((((0 : Int32) + (own_ssL q9)) + ((1 : Int32) >>> ((0 : Int32) &&& 31))) - ((16 : Int32) >>> ((0 : Int32) &&& 31))))) : 0 ≤ ((0 : Int32) + (own_ssL q9)).toInt ∧ ((0 : Int32) + (own_ssL q9)).toInt + 1 ≤ (16 : Int32).toInt := by
  have b := own_eAB q9 m9; have r := own_n16
  rw [own_gt (by omega) (by decide)] at o0
  rw [own_gt (by omega) (by decide)] at o1
  omega
theorem om_rm_pts_23 (q9 : Int64) (m9 : Int32) (o0 : ¬ ((0 : Int32) < (((0 : Int32) + (own_ssL q9)) - ((16 : Int32) >>> ((0 : Int32) &&& 31))))) (o1 : ¬ ((0 : Int32) < ((((0 : Int32) + (own_ssL q9)) + ((1 : Int32) >>> ((0 : Int32) &&& 31))) - ((16 : Int32) >>> ((0 : Int32) &&& 31))))) (o2 : (0 : Int32) < (((((0 : Int32) + (own_ssL q9)) + ((1 : Int32) >>> ((0 : Int32) &&& 31))) + (own_ssI m9)) - ((16 : Int32) >>> ((0 : Int32) &&& 31)))) : (own_ssI m9).toInt ≤ ((((0 : Int32) + (own_ssL q9)) + ((1 : Int32) >>> ((0 : Int32) &&& 31))) + (own_ssI m9)).toInt ∧ ((((0 : Int32) + (own_ssL q9)) + ((1 : Int32) >>> ((0 : Int32) &&& 31))) + (own_ssI m9)).toInt ≤ (34 : Int32).toInt := by
  have b := own_eAB q9 m9; have r := own_n16
  rw [own_gt (by omega) (by decide)] at o0
  rw [own_gt (by omega) (by decide)] at o1
  rw [own_gt (by omega) (by decide)] at o2
  omega
theorem om_rm_pts_24 (q9 : Int64) (m9 : Int32) (o0 : ¬ ((0 : Int32) < (((0 : Int32) + (own_ssL q9)) - ((16 : Int32) >>> ((0 : Int32) &&& 31))))) (o1 : ¬ ((0 : Int32) < ((((0 : Int32) + (own_ssL q9)) + ((1 : Int32) >>> ((0 : Int32) &&& 31))) - ((16 : Int32) >>> ((0 : Int32) &&& 31))))) (o2 : (0 : Int32) < (((((0 : Int32) + (own_ssL q9)) + ((1 : Int32) >>> ((0 : Int32) &&& 31))) + (own_ssI m9)) - ((16 : Int32) >>> ((0 : Int32) &&& 31)))) : 16 < ((((0 : Int32) + (own_ssL q9)) + ((1 : Int32) >>> ((0 : Int32) &&& 31))) + (own_ssI m9)).toInt ∧ ((((0 : Int32) + (own_ssL q9)) + ((1 : Int32) >>> ((0 : Int32) &&& 31))) + (own_ssI m9)).toInt ≤ 34 := by
  have b := own_eAB q9 m9; have r := own_n16
  rw [own_gt (by omega) (by decide)] at o0
  rw [own_gt (by omega) (by decide)] at o1
  rw [own_gt (by omega) (by decide)] at o2
  omega
theorem om_rm_pts_25 (q9 : Int64) (m9 : Int32) (o0 : ¬ ((0 : Int32) < (((0 : Int32) + (own_ssL q9)) - ((16 : Int32) >>> ((0 : Int32) &&& 31))))) (o1 : ¬ ((0 : Int32) < ((((0 : Int32) + (own_ssL q9)) + ((1 : Int32) >>> ((0 : Int32) &&& 31))) - ((16 : Int32) >>> ((0 : Int32) &&& 31))))) (o2 : (0 : Int32) < (((((0 : Int32) + (own_ssL q9)) + ((1 : Int32) >>> ((0 : Int32) &&& 31))) + (own_ssI m9)) - ((16 : Int32) >>> ((0 : Int32) &&& 31)))) : 0 ≤ ((0 : Int32) + (own_ssL q9)).toInt := by
  have b := own_eAB q9 m9; have r := own_n16
  rw [own_gt (by omega) (by decide)] at o0
  rw [own_gt (by omega) (by decide)] at o1
  rw [own_gt (by omega) (by decide)] at o2
  omega
theorem om_rm_pts_26 (q9 : Int64) (m9 : Int32) (o0 : ¬ ((0 : Int32) < (((0 : Int32) + (own_ssL q9)) - ((16 : Int32) >>> ((0 : Int32) &&& 31))))) (o1 : ¬ ((0 : Int32) < ((((0 : Int32) + (own_ssL q9)) + ((1 : Int32) >>> ((0 : Int32) &&& 31))) - ((16 : Int32) >>> ((0 : Int32) &&& 31))))) (o2 : (0 : Int32) < (((((0 : Int32) + (own_ssL q9)) + ((1 : Int32) >>> ((0 : Int32) &&& 31))) + (own_ssI m9)) - ((16 : Int32) >>> ((0 : Int32) &&& 31)))) : ((0 : Int32) + (own_ssL q9)).toInt + 1 ≤ 16 := by
  have b := own_eAB q9 m9; have r := own_n16
  rw [own_gt (by omega) (by decide)] at o0
  rw [own_gt (by omega) (by decide)] at o1
  rw [own_gt (by omega) (by decide)] at o2
  omega
theorem om_rm_pts_27 (q9 : Int64) (m9 : Int32) (o0 : ¬ ((0 : Int32) < (((0 : Int32) + (own_ssL q9)) - ((16 : Int32) >>> ((0 : Int32) &&& 31))))) (o1 : ¬ ((0 : Int32) < ((((0 : Int32) + (own_ssL q9)) + ((1 : Int32) >>> ((0 : Int32) &&& 31))) - ((16 : Int32) >>> ((0 : Int32) &&& 31))))) (o2 : (0 : Int32) < (((((0 : Int32) + (own_ssL q9)) + ((1 : Int32) >>> ((0 : Int32) &&& 31))) + (own_ssI m9)) - ((16 : Int32) >>> ((0 : Int32) &&& 31)))) : 0 ≤ ((((0 : Int32) + (own_ssL q9)) + ((1 : Int32) >>> ((0 : Int32) &&& 31))) + (own_ssI m9)).toInt ∧ ((((0 : Int32) + (own_ssL q9)) + ((1 : Int32) >>> ((0 : Int32) &&& 31))) + (own_ssI m9)).toInt < (34 : Int32).toInt ∧ ((((0 : Int32) + (own_ssL q9)) + ((1 : Int32) >>> ((0 : Int32) &&& 31))) + (own_ssI m9)).toInt ≤ 34 := by
  have b := own_eAB q9 m9; have r := own_n16
  rw [own_gt (by omega) (by decide)] at o0
  rw [own_gt (by omega) (by decide)] at o1
  rw [own_gt (by omega) (by decide)] at o2
  omega
theorem om_rm_pts_28 (q9 : Int64) (m9 : Int32) (o0 : ¬ ((0 : Int32) < (((0 : Int32) + (own_ssL q9)) - ((16 : Int32) >>> ((0 : Int32) &&& 31))))) (o1 : ¬ ((0 : Int32) < ((((0 : Int32) + (own_ssL q9)) + ((1 : Int32) >>> ((0 : Int32) &&& 31))) - ((16 : Int32) >>> ((0 : Int32) &&& 31))))) (o2 : (0 : Int32) < (((((0 : Int32) + (own_ssL q9)) + ((1 : Int32) >>> ((0 : Int32) &&& 31))) + (own_ssI m9)) - ((16 : Int32) >>> ((0 : Int32) &&& 31)))) : ¬ (((((0 : Int32) + (own_ssL q9)) + ((1 : Int32) >>> ((0 : Int32) &&& 31))) + (own_ssI m9)) = 34) := by
  have b := own_eAB q9 m9; have r := own_n16
  rw [own_gt (by omega) (by decide)] at o0
  rw [own_gt (by omega) (by decide)] at o1
  rw [own_gt (by omega) (by decide)] at o2
  rw [← Int32.toInt_inj]
  omega
theorem om_rm_pts_29 (q9 : Int64) (m9 : Int32) (o0 : ¬ ((0 : Int32) < (((0 : Int32) + (own_ssL q9)) - ((16 : Int32) >>> ((0 : Int32) &&& 31))))) (o1 : ¬ ((0 : Int32) < ((((0 : Int32) + (own_ssL q9)) + ((1 : Int32) >>> ((0 : Int32) &&& 31))) - ((16 : Int32) >>> ((0 : Int32) &&& 31))))) (o2 : ¬ ((0 : Int32) < (((((0 : Int32) + (own_ssL q9)) + ((1 : Int32) >>> ((0 : Int32) &&& 31))) + (own_ssI m9)) - ((16 : Int32) >>> ((0 : Int32) &&& 31))))) : (own_ssI m9).toInt ≤ ((((0 : Int32) + (own_ssL q9)) + ((1 : Int32) >>> ((0 : Int32) &&& 31))) + (own_ssI m9)).toInt ∧ ((((0 : Int32) + (own_ssL q9)) + ((1 : Int32) >>> ((0 : Int32) &&& 31))) + (own_ssI m9)).toInt ≤ (16 : Int32).toInt := by
  have b := own_eAB q9 m9; have r := own_n16
  rw [own_gt (by omega) (by decide)] at o0
  rw [own_gt (by omega) (by decide)] at o1
  rw [own_gt (by omega) (by decide)] at o2
  omega
theorem om_rm_pts_30 (q9 : Int64) (m9 : Int32) (o0 : ¬ ((0 : Int32) < (((0 : Int32) + (own_ssL q9)) - ((16 : Int32) >>> ((0 : Int32) &&& 31))))) (o1 : ¬ ((0 : Int32) < ((((0 : Int32) + (own_ssL q9)) + ((1 : Int32) >>> ((0 : Int32) &&& 31))) - ((16 : Int32) >>> ((0 : Int32) &&& 31))))) (o2 : ¬ ((0 : Int32) < (((((0 : Int32) + (own_ssL q9)) + ((1 : Int32) >>> ((0 : Int32) &&& 31))) + (own_ssI m9)) - ((16 : Int32) >>> ((0 : Int32) &&& 31))))) (o3 : ¬ (((((0 : Int32) + (own_ssL q9)) + ((1 : Int32) >>> ((0 : Int32) &&& 31))) + (own_ssI m9)) = 16)) : 0 ≤ ((((0 : Int32) + (own_ssL q9)) + ((1 : Int32) >>> ((0 : Int32) &&& 31))) + (own_ssI m9)).toInt ∧ ((((0 : Int32) + (own_ssL q9)) + ((1 : Int32) >>> ((0 : Int32) &&& 31))) + (own_ssI m9)).toInt < (16 : Int32).toInt ∧ ((((0 : Int32) + (own_ssL q9)) + ((1 : Int32) >>> ((0 : Int32) &&& 31))) + (own_ssI m9)).toInt ≤ 34 := by
  have b := own_eAB q9 m9; have r := own_n16
  rw [own_gt (by omega) (by decide)] at o0
  rw [own_gt (by omega) (by decide)] at o1
  rw [own_gt (by omega) (by decide)] at o2
  rw [← Int32.toInt_inj] at o3
  omega
set_option maxRecDepth 65536 in
set_option maxHeartbeats 40000000 in
theorem rm_pts (l : Launch) (Z : State) (av0 : Array Value) (hw : ∀ d ∈ tables_1, d.before av0 Z = true) (ws : List Jvm.Cond) (a0 : Addr) (q9 : Int64) (m9 : Int32) (kO : ClassId) (gO : Nat → Int32) (w_DigitOnes : Addr) (kT : ClassId) (gT : Nat → Int32) (w_DigitTens : Addr) (w_COMPACT_STRINGS : Int32) (h0 : Heap) (n0 : Nat) (Z0 : n0 ≤ h0.size) (Ol0 : Old Z n0 h0) (X_a0 : Exa Z h0 a0 "com/example/kwhat/kwhat/ProRata") (F_days_a0 : Fld Z h0 a0 "com/example/kwhat/kwhat/ProRata" "days" "J" (.long q9)) (F_monthDays_a0 : Fld Z h0 a0 "com/example/kwhat/kwhat/ProRata" "monthDays" "I" (.int m9)) (VO : Arv Z Z.heap w_DigitOnes kO .byte (100 : Int32) (own_ml (100 : Int32) gO) (.int 0)) (VT : Arv Z Z.heap w_DigitTens kT .byte (100 : Int32) (own_ml (100 : Int32) gT) (.int 0)) (hO : own_hO gO) (hT : own_hT gT) (hcs : ¬ (w_COMPACT_STRINGS = 0)) (S_COMPACT_STRINGS : Sta Z Z.heap "java/lang/String" "COMPACT_STRINGS" "Z" (.int w_COMPACT_STRINGS)) (S_DigitOnes : Sta Z Z.heap "java/lang/Integer" "DigitOnes" "[B" (.ref w_DigitOnes)) (S_DigitTens : Sta Z Z.heap "java/lang/Integer" "DigitTens" "[B" (.ref w_DigitTens)) :
    MetFree l yM34 (head1 (Jvm.Cond.code yM34 prog_19_method_6_code 1 (some (.object "java/lang/String")) :: ws) ({ frames := 6, cells := 7, slots := 100, locals := 113 } : Room)) (fun a U => a = #[(.ref a0)] ∧ Z.Warmed39 U.vm ∧ U.heap = h0 ∧ CHv Z own_EL U.vm h0) (fun _ _ _ _ _ => True) (fun _ U o U' => ∃ v L, o = .returned v ∧ Q_rm_pts Z a0 q9 m9 kO gO w_DigitOnes kT gT w_DigitTens w_COMPACT_STRINGS h0 n0 v U'.heap L ∧ CHr Z own_EL U.vm U.heap U'.vm U'.heap ∧ ReturnedEndW U o U' L ({ frames := 6, cells := 7, slots := 100, locals := 113 } : Room).cells ({ frames := 6, cells := 7, slots := 100, locals := 113 } : Room).slots) := by
  refine MetFree.of_bodySF (plainFor_of_name pn_0) hisR ?_
  intro p e s m args below meth c s₁ Bd hml0 hP hK
  obtain ⟨rfl, hZ, hh, hCH⟩ := hP
  have hx := Bd.exec
  have hby := Bd.bytes
  have hml : c.maxLocals = 1 := hml0
  have hown : (s.setVm s.vm).vm.findClass "com/example/kwhat/kwhat/ProRata" = some m.cls := findClass_of_methodNamed Bd.named
  have hnm := (name_of_methodNamed Bd.named Bd.method).1
  have X0 : Stand p l e ({ frames := 6, cells := 7, slots := 100, locals := 113 } : Room) (s.setVm s.vm) m #[(.ref a0)] below meth c s₁ [] 0 0 := Stand.of_body Bd
  have e0 : s₁.heap = h0 := by rw [← hh, Bd.state]; rfl
  have N0 := Fr.nil n0
  have hZ : Z.Warmed39 (s.setVm s.vm).vm := hZ
  have hS0 : s.Since s.vm s.heap.size := (State.WarmedH.refl s).since _
  have hk0 : s.heap.size ≤ h0.size := Nat.le_of_eq (by rw [hh])
  have ch0 : CHr Z own_EL s.vm h0 s.vm h0 := CHr.refl hCH
  change OF p.tables e below _ (s₁.setTop (entryFrame m #[(.ref a0)] 1))
  have kp0 : Keep h0 h0 [] := Keep.refl _ _
  refine oS (fun _ q => castTop (ef_rm_pts m a0) q) ?_
  show OF _ _ _ _ (s₁.setTop (mkF m 0 #[vr a0] []))
  obtain ⟨T1, h1, X1, e1, E1, A1, D1, -, st1⟩ := newO X0 hx hZ hown (w_ hw 37 rfl) (w_ hw 38 rfl) (w_ hw 39 rfl) e0 (g := (mkF m 0 #[vr a0] [])) rfl (hb hby (d3 0)) (by decide) (by decide)
  obtain ⟨b1, qe1⟩ : ∃ z, z = h0.size := ⟨_, rfl⟩
  rw [← qe1] at A1 D1 st1
  refine oS st1 ?_
  have bi_b1 : h0.size ≤ b1 := Nat.le_of_eq qe1.symm
  have lo_b1 : h0.size ≤ b1 := Nat.le_trans kp0.1 bi_b1
  have g_b1 : n0 ≤ b1 := Nat.le_trans Z0 lo_b1
  have ch2 := ch0.trans (CHr.ext E1 ch0.1)
  have kp2 : Keep h0 h1 [] := kp0.ext E1
  have ol2 : Old Z n0 h1 := Ol0.ext E1
  have F_value_b1 : Fld Z h1 b1 "java/lang/AbstractStringBuilder" "value" "[B" .null := D1 (Or.inl (w_ hw 54 rfl)) (ty := (.array .byte)) (by decide)
  have F_coder_b1 : Fld Z h1 b1 "java/lang/AbstractStringBuilder" "coder" "B" (.int 0) := D1 (Or.inl (w_ hw 56 rfl)) (ty := .byte) (by decide)
  have F_count_b1 : Fld Z h1 b1 "java/lang/AbstractStringBuilder" "count" "I" (.int 0) := D1 (Or.inl (w_ hw 68 rfl)) (ty := .int) (by decide)
  show OF _ _ _ _ (T1.setTop (mkF m 3 _ _))
  refine oS (fun _ q => XS.dup X1.here hx rfl (hb hby (d3 1)) rfl rfl q) ?_
  obtain ⟨_, _, ⟨T3, L3, k3, n3⟩, -, X3, ⟨Lc3, hQ3, l3, y3, z3⟩, st3⟩ := X1.specialBack hx (y := yM3) rfl hown (mvT hZ (w_ hw 40 rfl)) (mvT hZ (w_ hw 41 rfl)) (mvT hZ (w_ hw 42 rfl)) (by decide) (backOf (W := 1) (rm_sbi l Z av0 hw [] b1 w_COMPACT_STRINGS .null (.int 0) h1 n0 (Nat.le_trans Z0 kp2.1) ol2 A1 F_count_b1 S_COMPACT_STRINGS hcs F_value_b1 g_b1 F_coder_b1) hZ (w_ hw 42 rfl) (w_ hw 39 rfl) (by decide) (by decide)) (g := (mkF m 4 #[vr a0] [(.ref b1), (.ref b1)])) rfl (by rw [hml]; rfl) (Steps.refl _) (a := b1) (argsL := []) (rest := [(.ref b1)]) (lenOf pd_22 rfl) rfl (by show 2 * 0 + _ ≤ _; exact Nat.le_of_eq rfl) (hb hby (d3 2)) (fun _ _ => ⟨rfl, e1, (by decide : 1 + 1 ≤ _), (by decide : 4 + 16 ≤ _)⟩)
  dsimp only [Pt.U, Pt.locs, Pt.cells, Pt.slots] at X3 l3 y3 z3 st3 hQ3
  subst l3 y3 z3
  obtain ⟨c3_0, kc3_1, rfl, N3q, K3, r3_0, r3_1, r3_2, r3_3, r3_4, r3_5⟩ := hQ3
  have N3 := Fr.app N0 N3q
  refine oT st3 ?_
  obtain ⟨h3, e3⟩ : ∃ z, T3.heap = z := ⟨_, rfl⟩
  rw [e3] at K3 r3_1 r3_2 r3_3 r3_4 r3_5
  have bi_c3_0 : h1.size ≤ c3_0 := r3_0
  have lo_c3_0 : h0.size ≤ c3_0 := Nat.le_trans kp2.1 bi_c3_0
  have g_c3_0 : n0 ≤ c3_0 := Nat.le_trans Z0 lo_c3_0
  have sfnc3_0 := Safe.keep K3 (sfS (Safe.exa (hZ).alike A1 (by decide) (by decide)) sf0) ch2.1 (Safe.new bi_c3_0)
  have ch4 := ch2.trans (CHr.keep K3 (sfS (Safe.exa (hZ).alike A1 (by decide) (by decide)) sf0) ch2.1)
  have kp4 : Keep h0 h3 [] := kp2.trans K3 (allS (Or.inr lo_b1) all0)
  have ol4 : Old Z n0 h3 := ol2.keep K3 (allS g_b1 all0)
  show OF _ _ _ _ (T3.setTop (mkF m 7 _ _))
  refine oS (fun _ q => XS.aloadN X3.here hx rfl (hb hby (d3 3)) rfl rfl q) ?_
  have fr5 : Fld Z h3 a0 "com/example/kwhat/kwhat/ProRata" "days" "J" (.long q9) := ((F_days_a0.ext E1).keep K3 (ninS (Nat.ne_of_lt (Nat.lt_of_lt_of_le X_a0.lt bi_b1)) nin0))
  obtain ⟨T6, X6, e6, st6⟩ := getF X3 hx hZ hown (host := "") (Or.inl (w_ hw 28 rfl)) Via.refl e3 fr5 (g := (mkF m 8 #[vr a0] [(.ref a0), (.ref b1)])) rfl rfl (hb hby (d3 4))
  refine oS st6 ?_
  show OF _ _ _ _ (T6.setTop (mkF m 11 _ _))
  by_cases hc7 : (0 : Int32) < (((0 : Int32) + (own_ssL q9)) - ((16 : Int32) >>> ((0 : Int32) &&& 31)))
  ·
   show OF _ _ _ _ (T6.setTop (mkF m 11 _ _))
   obtain ⟨cq8, kq8, q8a, q8b, q8c⟩ := isOf hZ e6 (A1.keep K3)
   obtain ⟨_, _, ⟨T8, L8, k8, n8⟩, -, X8, ⟨Lc8, hQ8, l8, y8, z8⟩, st8⟩ := X6.virtualBack hx (y := yM15) (z := yM15) hown (mvT hZ (w_ hw 57 rfl)) (mvT hZ (w_ hw 58 rfl)) (notFace_of_selects (args := #[]) (mvT hZ (w_ hw 60 rfl))) (mvT hZ (w_ hw 60 rfl)) (mvT hZ (w_ hw 59 rfl)) (by decide) (backOf (W := 0) (rm_sLY l Z av0 hw [] b1 q9 c3_0 (0 : Int32) kc3_1 own_zf kO gO w_DigitOnes kT gT w_DigitTens w_COMPACT_STRINGS h3 n0 (Nat.le_trans Z0 kp4.1) ol4 (A1.keep K3) r3_4 r3_5 r3_1 r3_2 r3_3 VO VT hO hT (om_rm_pts_2 q9 m9 hc7) (om_rm_pts_3 q9 m9 hc7) (own_zf0 16) hc7 g_b1 S_COMPACT_STRINGS hcs S_DigitOnes S_DigitTens) hZ (w_ hw 61 rfl) (w_ hw 39 rfl) (by decide) (by decide)) q8a q8c (g := (mkF m 11 #[vr a0] [(.long q9), (.ref b1)])) rfl (by rw [hml]; rfl) (Steps.refl _) (argsL := [(.long q9)]) (rest := []) (lenOf pd_23 rfl) rfl (by show 2 * 0 + _ ≤ _; exact Nat.le_of_eq rfl) (hb hby (d3 5)) (fun _ _ => ⟨rfl, e6, (by decide : 2 + 1 ≤ _), (by decide : 20 + 34 ≤ _)⟩)
   dsimp only [Pt.U, Pt.locs, Pt.cells, Pt.slots] at X8 l8 y8 z8 st8 hQ8
   subst l8 y8 z8
   obtain ⟨c8_0, kc8_1, rfl, N8q, K8, r8_0, r8_1, r8_2, r8_3, r8_4, r8_5⟩ := hQ8
   have N8 := Fr.app N3 N8q
   refine oT st8 ?_
   obtain ⟨h8, e8⟩ : ∃ z, T8.heap = z := ⟨_, rfl⟩
   rw [e8] at K8 r8_1 r8_2 r8_3 r8_4 r8_5
   have bi_c8_0 : h3.size ≤ c8_0 := r8_0
   have lo_c8_0 : h0.size ≤ c8_0 := Nat.le_trans kp4.1 bi_c8_0
   have g_c8_0 : n0 ≤ c8_0 := Nat.le_trans Z0 lo_c8_0
   have sfnc8_0 := Safe.keep K8 (sfS (Safe.exa (hZ).alike (A1.keep K3) (by decide) (by decide)) sf0) ch4.1 (Safe.new bi_c8_0)
   have sf9_c3_0 := (CHr.keep K8 (sfS (Safe.exa (hZ).alike (A1.keep K3) (by decide) (by decide)) sf0) ch4.1).safe r3_3.lt sfnc3_0
   have ch9 := ch4.trans (CHr.keep K8 (sfS (Safe.exa (hZ).alike (A1.keep K3) (by decide) (by decide)) sf0) ch4.1)
   have kp9 : Keep h0 h8 [] := kp4.trans K8 (allS (Or.inr lo_b1) all0)
   have ol9 : Old Z n0 h8 := ol4.keep K8 (allS g_b1 all0)
   show OF _ _ _ _ (T8.setTop (mkF m 14 _ _))
   obtain ⟨al10, T10, h10, k10, bl10, kl10, X10, e10, E10, hS10, hk10, hZ10, hown10, XA10, FC10, FV10, VB10, la10, lb10, hC10, hL10, hne10, st10⟩ := ldcCH (s := s) (vm0 := s.vm) X8 hx hZ hown (w_ hw 90 rfl) (own_wS hw) e8 hS0 (Nat.le_trans hk0 (Nat.le_trans (Nat.le_trans E1.1 K3.1) K8.1)) (own_EW hw) (by decide) ch9.1 (ht := ⟨by decide, rfl⟩) (vs := [(.int 47)]) (z := (1 : Int32)) (by decide) rfl (g := (mkF m 14 #[vr a0] [(.ref b1)])) rfl (hb hby (d3 6)) (n := 4) (by decide) (by decide) (by decide) (by decide)
   refine oS st10 ?_
   have sf11_c3_0 := (hC10).safe (r3_3.keep K8).lt sf9_c3_0
   have sf11_c8_0 := (hC10).safe r8_4.lt sfnc8_0
   have ch11 := ch9.trans (hC10)
   have kp11 : Keep h0 h10 [] := kp9.ext E10
   have ol11 : Old Z n0 h10 := ol9.ext E10
   have nl10_b1 := hne10 b1 (Safe.exa (hZ10).alike (((A1.keep K3).keep K8).ext E10) (by decide) (by decide))
   have nl10_c3_0 := hne10 c3_0 sf11_c3_0
   have nl10_c8_0 := hne10 c8_0 sf11_c8_0
   show OF _ _ _ _ (T10.setTop (mkF m 16 _ _))
   obtain ⟨cq12, kq12, q12a, q12b, q12c⟩ := isOf hZ10 e10 (((A1.keep K3).keep K8).ext E10)
   obtain ⟨_, _, ⟨T12, L12, k12, n12⟩, -, X12, ⟨Lc12, hQ12, l12, y12, z12⟩, st12⟩ := X10.virtualBack hx (y := yM24) (z := yM24) hown10 (mvT hZ10 (w_ hw 96 rfl)) (mvT hZ10 (w_ hw 97 rfl)) (notFace_of_selects (args := #[]) (mvT hZ10 (w_ hw 99 rfl))) (mvT hZ10 (w_ hw 99 rfl)) (mvT hZ10 (w_ hw 98 rfl)) (by decide) (backOf (W := 0) (rm_sSN l Z av0 hw [] b1 al10 c8_0 ((0 : Int32) + (own_ssL q9)) kc8_1 (34 : Int32) (own_outL q9 ((0 : Int32) + (own_ssL q9)) own_zf) bl10 kl10 (own_lf [(47 : Int32)]) w_COMPACT_STRINGS h10 n0 (Nat.le_trans Z0 kp11.1) ol11 (((A1.keep K3).keep K8).ext E10) (r8_1.ext E10) (r8_2.ext E10) (r8_3.ext E10) (r8_5.ext E10) (r8_4.ext E10) XA10 FC10 FV10 (own_toml [(47 : Int32)] (by decide) VB10) (om_rm_pts_4 q9 m9 hc7) S_COMPACT_STRINGS hcs (om_rm_pts_5 q9 m9 hc7) g_c8_0 (Nat.ne_of_lt (Nat.lt_of_lt_of_le (A1.keep K3).lt bi_c8_0)) g_b1 (Ne.symm (Nat.ne_of_lt (Nat.lt_of_lt_of_le (A1.keep K3).lt bi_c8_0)))) hZ10 (w_ hw 100 rfl) (w_ hw 39 rfl) (by decide) (by decide)) q12a q12c (g := (mkF m 16 #[vr a0] [(.ref al10), (.ref b1)])) rfl (by rw [hml]; rfl) (Steps.refl _) (argsL := [(.ref al10)]) (rest := []) (lenOf pd_24 rfl) rfl (by show 2 * 0 + _ ≤ _; exact Nat.le_of_eq rfl) (hb hby (d3 7)) (fun _ _ => ⟨rfl, e10, (by decide : 5 + 0 ≤ _), (by decide : 62 + 0 ≤ _)⟩)
   dsimp only [Pt.U, Pt.locs, Pt.cells, Pt.slots] at X12 l12 y12 z12 st12 hQ12
   subst l12 y12 z12
   obtain ⟨rfl, N12q, K12, r12_0, r12_1, r12_2, r12_3⟩ := hQ12
   have N12 := Fr.app N8 N12q
   refine oT st12 ?_
   obtain ⟨h12, e12⟩ : ∃ z, T12.heap = z := ⟨_, rfl⟩
   rw [e12] at K12 r12_0 r12_1 r12_2 r12_3
   have sf13_c3_0 := (CHr.keep K12 (sfS (Safe.exa (hZ10).alike (((A1.keep K3).keep K8).ext E10) (by decide) (by decide)) (sfS sf11_c8_0 sf0)) ch11.1).safe ((r3_3.keep K8).ext E10).lt sf11_c3_0
   have sf13_c8_0 := (CHr.keep K12 (sfS (Safe.exa (hZ10).alike (((A1.keep K3).keep K8).ext E10) (by decide) (by decide)) (sfS sf11_c8_0 sf0)) ch11.1).safe (r8_4.ext E10).lt sf11_c8_0
   have ch13 := ch11.trans (CHr.keep K12 (sfS (Safe.exa (hZ10).alike (((A1.keep K3).keep K8).ext E10) (by decide) (by decide)) (sfS sf11_c8_0 sf0)) ch11.1)
   have kp13 : Keep h0 h12 [] := kp11.trans K12 (allS (Or.inr lo_b1) (allS (Or.inr lo_c8_0) all0))
   have ol13 : Old Z n0 h12 := ol11.keep K12 (allS g_b1 (allS g_c8_0 all0))
   show OF _ _ _ _ (T12.setTop (mkF m 19 _ _))
   refine oS (fun _ q => XS.aloadN X12.here hx rfl (hb hby (d3 8)) rfl rfl q) ?_
   have fr14 : Fld Z h12 a0 "com/example/kwhat/kwhat/ProRata" "monthDays" "I" (.int m9) := (((((F_monthDays_a0.ext E1).keep K3 (ninS (Nat.ne_of_lt (Nat.lt_of_lt_of_le X_a0.lt bi_b1)) nin0)).keep K8 (ninS (Nat.ne_of_lt (Nat.lt_of_lt_of_le X_a0.lt bi_b1)) nin0)).ext E10).keep K12 (ninS (Nat.ne_of_lt (Nat.lt_of_lt_of_le X_a0.lt bi_b1)) (ninS (Nat.ne_of_lt (Nat.lt_of_lt_of_le ((X_a0.ext E1).keep K3).lt bi_c8_0)) nin0)))
   obtain ⟨T15, X15, e15, st15⟩ := getF X12 hx hZ10 hown10 (host := "") (Or.inl (w_ hw 30 rfl)) Via.refl e12 fr14 (g := (mkF m 20 #[vr a0] [(.ref a0), (.ref b1)])) rfl rfl (hb hby (d3 9))
   refine oS st15 ?_
   show OF _ _ _ _ (T15.setTop (mkF m 23 _ _))
   obtain ⟨cq16, kq16, q16a, q16b, q16c⟩ := isOf hZ10 e15 ((((A1.keep K3).keep K8).ext E10).keep K12)
   obtain ⟨_, _, ⟨T16, L16, k16, n16⟩, -, X16, ⟨Lc16, hQ16, l16, y16, z16⟩, st16⟩ := X15.virtualBack hx (y := yM17) (z := yM17) hown10 (mvT hZ10 (w_ hw 138 rfl)) (mvT hZ10 (w_ hw 139 rfl)) (notFace_of_selects (args := #[]) (mvT hZ10 (w_ hw 141 rfl))) (mvT hZ10 (w_ hw 141 rfl)) (mvT hZ10 (w_ hw 140 rfl)) (by decide) (backOf (W := 0) (rm_sIN l Z av0 hw [] b1 m9 c8_0 (((0 : Int32) + (own_ssL q9)) + ((1 : Int32) >>> ((0 : Int32) &&& 31))) kc8_1 (34 : Int32) (own_cpy (own_outL q9 ((0 : Int32) + (own_ssL q9)) own_zf) (((0 : Int32) + (own_ssL q9)) <<< ((0 : Int32) &&& 31)) (own_lf [(47 : Int32)]) (0 : Int32) (1 : Int32)) kO gO w_DigitOnes kT gT w_DigitTens w_COMPACT_STRINGS h12 n0 (Nat.le_trans Z0 kp13.1) ol13 ((((A1.keep K3).keep K8).ext E10).keep K12) r12_0 r12_1 r12_2 r12_3 ((r8_4.ext E10).keep K12) VO VT hO hT (om_rm_pts_6 q9 m9 hc7) (om_rm_pts_7 q9 m9 hc7) S_COMPACT_STRINGS hcs S_DigitOnes g_c8_0 S_DigitTens (Nat.ne_of_lt (Nat.lt_of_lt_of_le (A1.keep K3).lt bi_c8_0)) g_b1 (Ne.symm (Nat.ne_of_lt (Nat.lt_of_lt_of_le (A1.keep K3).lt bi_c8_0)))) hZ10 (w_ hw 142 rfl) (w_ hw 39 rfl) (by decide) (by decide)) q16a q16c (g := (mkF m 23 #[vr a0] [(.int m9), (.ref b1)])) rfl (by rw [hml]; rfl) (Steps.refl _) (argsL := [(.int m9)]) (rest := []) (lenOf pd_25 rfl) rfl (by show 2 * 0 + _ ≤ _; exact Nat.le_of_eq rfl) (hb hby (d3 10)) (fun _ _ => ⟨rfl, e15, (by decide : 5 + 0 ≤ _), (by decide : 62 + 0 ≤ _)⟩)
   dsimp only [Pt.U, Pt.locs, Pt.cells, Pt.slots] at X16 l16 y16 z16 st16 hQ16
   subst l16 y16 z16
   obtain ⟨rfl, N16q, K16, r16_0, r16_1, r16_2, r16_3⟩ := hQ16
   have N16 := Fr.app N12 N16q
   refine oT st16 ?_
   obtain ⟨h16, e16⟩ : ∃ z, T16.heap = z := ⟨_, rfl⟩
   rw [e16] at K16 r16_0 r16_1 r16_2 r16_3
   have sf17_c3_0 := (CHr.keep K16 (sfS (Safe.exa (hZ10).alike ((((A1.keep K3).keep K8).ext E10).keep K12) (by decide) (by decide)) (sfS sf13_c8_0 sf0)) ch13.1).safe (((r3_3.keep K8).ext E10).keep K12).lt sf13_c3_0
   have sf17_c8_0 := (CHr.keep K16 (sfS (Safe.exa (hZ10).alike ((((A1.keep K3).keep K8).ext E10).keep K12) (by decide) (by decide)) (sfS sf13_c8_0 sf0)) ch13.1).safe ((r8_4.ext E10).keep K12).lt sf13_c8_0
   have ch17 := ch13.trans (CHr.keep K16 (sfS (Safe.exa (hZ10).alike ((((A1.keep K3).keep K8).ext E10).keep K12) (by decide) (by decide)) (sfS sf13_c8_0 sf0)) ch13.1)
   have kp17 : Keep h0 h16 [] := kp13.trans K16 (allS (Or.inr lo_b1) (allS (Or.inr lo_c8_0) all0))
   have ol17 : Old Z n0 h16 := ol13.keep K16 (allS g_b1 (allS g_c8_0 all0))
   show OF _ _ _ _ (T16.setTop (mkF m 26 _ _))
   obtain ⟨cq18, kq18, q18a, q18b, q18c⟩ := isOf hZ10 e16 (((((A1.keep K3).keep K8).ext E10).keep K12).keep K16)
   obtain ⟨_, _, ⟨T18, L18, k18, n18⟩, -, X18, ⟨Lc18, hQ18, l18, y18, z18⟩, st18⟩ := X16.virtualBack hx (y := yM33) (z := yM33) hown10 (mvT hZ10 (w_ hw 154 rfl)) (mvT hZ10 (w_ hw 155 rfl)) (notFace_of_selects (args := #[]) (mvT hZ10 (w_ hw 157 rfl))) (mvT hZ10 (w_ hw 157 rfl)) (mvT hZ10 (w_ hw 156 rfl)) (by decide) (backOf (W := 0) (rm_tsR l Z av0 hw [] b1 c8_0 ((((0 : Int32) + (own_ssL q9)) + ((1 : Int32) >>> ((0 : Int32) &&& 31))) + (own_ssI m9)) kc8_1 (34 : Int32) (own_outI m9 ((((0 : Int32) + (own_ssL q9)) + ((1 : Int32) >>> ((0 : Int32) &&& 31))) + (own_ssI m9)) (own_cpy (own_outL q9 ((0 : Int32) + (own_ssL q9)) own_zf) (((0 : Int32) + (own_ssL q9)) <<< ((0 : Int32) &&& 31)) (own_lf [(47 : Int32)]) (0 : Int32) (1 : Int32))) w_COMPACT_STRINGS h16 n0 (Nat.le_trans Z0 kp17.1) ol17 (((((A1.keep K3).keep K8).ext E10).keep K12).keep K16) r16_0 r16_1 r16_2 r16_3 (((r8_4.ext E10).keep K12).keep K16) (om_rm_pts_8 q9 m9 hc7) S_COMPACT_STRINGS hcs (om_rm_pts_9 q9 m9 hc7)) hZ10 (w_ hw 158 rfl) (w_ hw 39 rfl) (by decide) (by decide)) q18a q18c (g := (mkF m 26 #[vr a0] [(.ref b1)])) rfl (by rw [hml]; rfl) (Steps.refl _) (argsL := []) (rest := []) (lenOf pd_26 rfl) rfl (by show 2 * 0 + _ ≤ _; exact Nat.le_of_eq rfl) (hb hby (d3 11)) (fun _ _ => ⟨rfl, e16, (by decide : 5 + 2 ≤ _), (by decide : 62 + 38 ≤ _)⟩)
   dsimp only [Pt.U, Pt.locs, Pt.cells, Pt.slots] at X18 l18 y18 z18 st18 hQ18
   subst l18 y18 z18
   obtain ⟨c18_0, c18_1, kc18_2, rfl, N18q, K18, r18_0, r18_1, r18_2, r18_3, r18_4, r18_5, r18_6, r18_7⟩ := hQ18
   have N18 := Fr.app N16 N18q
   refine oT st18 ?_
   obtain ⟨h18, e18⟩ : ∃ z, T18.heap = z := ⟨_, rfl⟩
   rw [e18] at K18 r18_3 r18_4 r18_5 r18_6 r18_7
   have bi_c18_0 : h16.size ≤ c18_0 := r18_0
   have lo_c18_0 : h0.size ≤ c18_0 := Nat.le_trans kp17.1 bi_c18_0
   have g_c18_0 : n0 ≤ c18_0 := Nat.le_trans Z0 lo_c18_0
   have bi_c18_1 : h16.size ≤ c18_1 := r18_1
   have lo_c18_1 : h0.size ≤ c18_1 := Nat.le_trans kp17.1 bi_c18_1
   have g_c18_1 : n0 ≤ c18_1 := Nat.le_trans Z0 lo_c18_1
   have sfnc18_1 := Safe.keep K18 sf0 ch17.1 (Safe.new bi_c18_1)
   have sf19_c3_0 := (CHr.keep K18 sf0 ch17.1).safe ((((r3_3.keep K8).ext E10).keep K12).keep K16).lt sf17_c3_0
   have sf19_c8_0 := (CHr.keep K18 sf0 ch17.1).safe (((r8_4.ext E10).keep K12).keep K16).lt sf17_c8_0
   have ch19 := ch17.trans (CHr.keep K18 sf0 ch17.1)
   have kp19 : Keep h0 h18 [] := kp17.trans K18 all0
   have ol19 : Old Z n0 h18 := ol17.keep K18 all0
   show OF _ _ _ _ (T18.setTop (mkF m 29 #[vr a0] [(.ref c18_0)]))
   obtain ⟨fs, hr, hrun, hended, hEW⟩ := X18.leaveW (s := s) hS10 (by rw [e18]; exact (Nat.le_trans hk10 (Nat.le_trans (Nat.le_trans K12.1 K16.1) K18.1))) (v := some (.ref c18_0)) (fun h => by rw [Bd.returns] at h; cases h)
   have chE : CHr Z own_EL s.vm s.heap T18.vm T18.heap := by
     rw [hh, e18]
     exact ch19.trans (CHv.at X18 hZ10 (own_EW hw) ch19.1)
   refine ⟨_, _, retOut X18 hx Bd.returns rfl (Or.inr (Or.inr (Or.inr (Or.inr ⟨rfl, rfl, rfl⟩)))) (hb hby (d3 12)) hr, hrun, hended, _, _, rfl, ?_, chE, hEW.1, hEW.2.1, hEW.2.2.1, hEW.2.2.2.mono (by decide) (by decide)⟩
   show Q_rm_pts Z a0 q9 m9 kO gO w_DigitOnes kT gT w_DigitTens w_COMPACT_STRINGS h0 n0 _ T18.heap _
   rw [e18]
   have vE20 : Arv Z h18 c18_1 kc18_2 .byte (own_len q9 m9) (own_ml (own_len q9 m9) (own_T q9 m9)) (.int 0) := by rw [show own_len q9 m9 = (((((0 : Int32) + (own_ssL q9)) + ((1 : Int32) >>> ((0 : Int32) &&& 31))) + (own_ssI m9)) - 0) from (own_s0 _).symm]; exact own_mlcongz own_idc r18_5
   exact ⟨c18_0, c18_1, kc18_2, rfl, N18, kp19, lo_c18_0, r18_3, r18_4, r18_7, vE20⟩
  ·
   show OF _ _ _ _ (T6.setTop (mkF m 11 _ _))
   obtain ⟨cq21, kq21, q21a, q21b, q21c⟩ := isOf hZ e6 (A1.keep K3)
   obtain ⟨_, _, ⟨T21, L21, k21, n21⟩, -, X21, ⟨Lc21, hQ21, l21, y21, z21⟩, st21⟩ := X6.virtualBack hx (y := yM15) (z := yM15) hown (mvT hZ (w_ hw 57 rfl)) (mvT hZ (w_ hw 58 rfl)) (notFace_of_selects (args := #[]) (mvT hZ (w_ hw 60 rfl))) (mvT hZ (w_ hw 60 rfl)) (mvT hZ (w_ hw 59 rfl)) (by decide) (backOf (W := 0) (rm_sLN l Z av0 hw [] b1 q9 c3_0 (0 : Int32) kc3_1 (16 : Int32) own_zf kO gO w_DigitOnes kT gT w_DigitTens w_COMPACT_STRINGS h3 n0 (Nat.le_trans Z0 kp4.1) ol4 (A1.keep K3) r3_4 r3_5 r3_1 r3_2 r3_3 VO VT hO hT (om_rm_pts_10 q9 m9 hc7) hc7 S_COMPACT_STRINGS hcs S_DigitOnes g_c3_0 S_DigitTens (Nat.ne_of_lt (Nat.lt_of_lt_of_le A1.lt bi_c3_0)) g_b1 (Ne.symm (Nat.ne_of_lt (Nat.lt_of_lt_of_le A1.lt bi_c3_0)))) hZ (w_ hw 61 rfl) (w_ hw 39 rfl) (by decide) (by decide)) q21a q21c (g := (mkF m 11 #[vr a0] [(.long q9), (.ref b1)])) rfl (by rw [hml]; rfl) (Steps.refl _) (argsL := [(.long q9)]) (rest := []) (lenOf pd_23 rfl) rfl (by show 2 * 0 + _ ≤ _; exact Nat.le_of_eq rfl) (hb hby (d3 5)) (fun _ _ => ⟨rfl, e6, (by decide : 2 + 0 ≤ _), (by decide : 20 + 0 ≤ _)⟩)
   dsimp only [Pt.U, Pt.locs, Pt.cells, Pt.slots] at X21 l21 y21 z21 st21 hQ21
   subst l21 y21 z21
   obtain ⟨rfl, N21q, K21, r21_0, r21_1, r21_2, r21_3⟩ := hQ21
   have N21 := Fr.app N3 N21q
   refine oT st21 ?_
   obtain ⟨h21, e21⟩ : ∃ z, T21.heap = z := ⟨_, rfl⟩
   rw [e21] at K21 r21_0 r21_1 r21_2 r21_3
   have sf22_c3_0 := (CHr.keep K21 (sfS (Safe.exa (hZ).alike (A1.keep K3) (by decide) (by decide)) (sfS sfnc3_0 sf0)) ch4.1).safe r3_3.lt sfnc3_0
   have ch22 := ch4.trans (CHr.keep K21 (sfS (Safe.exa (hZ).alike (A1.keep K3) (by decide) (by decide)) (sfS sfnc3_0 sf0)) ch4.1)
   have kp22 : Keep h0 h21 [] := kp4.trans K21 (allS (Or.inr lo_b1) (allS (Or.inr lo_c3_0) all0))
   have ol22 : Old Z n0 h21 := ol4.keep K21 (allS g_b1 (allS g_c3_0 all0))
   show OF _ _ _ _ (T21.setTop (mkF m 14 _ _))
   obtain ⟨al23, T23, h23, k23, bl23, kl23, X23, e23, E23, hS23, hk23, hZ23, hown23, XA23, FC23, FV23, VB23, la23, lb23, hC23, hL23, hne23, st23⟩ := ldcCH (s := s) (vm0 := s.vm) X21 hx hZ hown (w_ hw 90 rfl) (own_wS hw) e21 hS0 (Nat.le_trans hk0 (Nat.le_trans (Nat.le_trans E1.1 K3.1) K21.1)) (own_EW hw) (by decide) ch22.1 (ht := ⟨by decide, rfl⟩) (vs := [(.int 47)]) (z := (1 : Int32)) (by decide) rfl (g := (mkF m 14 #[vr a0] [(.ref b1)])) rfl (hb hby (d3 6)) (n := 4) (by decide) (by decide) (by decide) (by decide)
   refine oS st23 ?_
   have sf24_c3_0 := (hC23).safe (r3_3.keep K21).lt sf22_c3_0
   have ch24 := ch22.trans (hC23)
   have kp24 : Keep h0 h23 [] := kp22.ext E23
   have ol24 : Old Z n0 h23 := ol22.ext E23
   have nl23_b1 := hne23 b1 (Safe.exa (hZ23).alike (((A1.keep K3).keep K21).ext E23) (by decide) (by decide))
   have nl23_c3_0 := hne23 c3_0 sf24_c3_0
   show OF _ _ _ _ (T23.setTop (mkF m 16 _ _))
   by_cases hc25 : (0 : Int32) < ((((0 : Int32) + (own_ssL q9)) + ((1 : Int32) >>> ((0 : Int32) &&& 31))) - ((16 : Int32) >>> ((0 : Int32) &&& 31)))
   ·
    show OF _ _ _ _ (T23.setTop (mkF m 16 _ _))
    obtain ⟨cq26, kq26, q26a, q26b, q26c⟩ := isOf hZ23 e23 (((A1.keep K3).keep K21).ext E23)
    obtain ⟨_, _, ⟨T26, L26, k26, n26⟩, -, X26, ⟨Lc26, hQ26, l26, y26, z26⟩, st26⟩ := X23.virtualBack hx (y := yM24) (z := yM24) hown23 (mvT hZ23 (w_ hw 96 rfl)) (mvT hZ23 (w_ hw 97 rfl)) (notFace_of_selects (args := #[]) (mvT hZ23 (w_ hw 99 rfl))) (mvT hZ23 (w_ hw 99 rfl)) (mvT hZ23 (w_ hw 98 rfl)) (by decide) (backOf (W := 0) (rm_sSY l Z av0 hw [] b1 al23 c3_0 ((0 : Int32) + (own_ssL q9)) kc3_1 (own_outL q9 ((0 : Int32) + (own_ssL q9)) own_zf) bl23 kl23 (own_lf [(47 : Int32)]) w_COMPACT_STRINGS h23 n0 (Nat.le_trans Z0 kp24.1) ol24 (((A1.keep K3).keep K21).ext E23) (r21_0.ext E23) (r21_1.ext E23) (r21_2.ext E23) (r21_3.ext E23) ((r3_3.keep K21).ext E23) XA23 FC23 FV23 (own_toml [(47 : Int32)] (by decide) VB23) (om_rm_pts_13 q9 m9 hc7 hc25) (om_rm_pts_14 q9 m9 hc7 hc25) (own_hfA (om_rm_pts_15 q9 m9 hc7 hc25)) S_COMPACT_STRINGS hcs hc25 g_b1 (Ne.symm nl23_b1.1) (Ne.symm nl23_b1.2)) hZ23 (w_ hw 100 rfl) (w_ hw 39 rfl) (by decide) (by decide)) q26a q26c (g := (mkF m 16 #[vr a0] [(.ref al23), (.ref b1)])) rfl (by rw [hml]; rfl) (Steps.refl _) (argsL := [(.ref al23)]) (rest := []) (lenOf pd_24 rfl) rfl (by show 2 * 0 + _ ≤ _; exact Nat.le_of_eq rfl) (hb hby (d3 7)) (fun _ _ => ⟨rfl, e23, (by decide : 4 + 1 ≤ _), (by decide : 28 + 34 ≤ _)⟩)
    dsimp only [Pt.U, Pt.locs, Pt.cells, Pt.slots] at X26 l26 y26 z26 st26 hQ26
    subst l26 y26 z26
    obtain ⟨c26_0, kc26_1, rfl, N26q, K26, r26_0, r26_1, r26_2, r26_3, r26_4, r26_5⟩ := hQ26
    have N26 := Fr.app N21 N26q
    refine oT st26 ?_
    obtain ⟨h26, e26⟩ : ∃ z, T26.heap = z := ⟨_, rfl⟩
    rw [e26] at K26 r26_1 r26_2 r26_3 r26_4 r26_5
    have bi_c26_0 : h23.size ≤ c26_0 := r26_0
    have lo_c26_0 : h0.size ≤ c26_0 := Nat.le_trans kp24.1 bi_c26_0
    have g_c26_0 : n0 ≤ c26_0 := Nat.le_trans Z0 lo_c26_0
    have sfnc26_0 := Safe.keep K26 (sfS (Safe.exa (hZ23).alike (((A1.keep K3).keep K21).ext E23) (by decide) (by decide)) sf0) ch24.1 (Safe.new bi_c26_0)
    have sf27_c3_0 := (CHr.keep K26 (sfS (Safe.exa (hZ23).alike (((A1.keep K3).keep K21).ext E23) (by decide) (by decide)) sf0) ch24.1).safe ((r3_3.keep K21).ext E23).lt sf24_c3_0
    have ch27 := ch24.trans (CHr.keep K26 (sfS (Safe.exa (hZ23).alike (((A1.keep K3).keep K21).ext E23) (by decide) (by decide)) sf0) ch24.1)
    have kp27 : Keep h0 h26 [] := kp24.trans K26 (allS (Or.inr lo_b1) all0)
    have ol27 : Old Z n0 h26 := ol24.keep K26 (allS g_b1 all0)
    show OF _ _ _ _ (T26.setTop (mkF m 19 _ _))
    refine oS (fun _ q => XS.aloadN X26.here hx rfl (hb hby (d3 8)) rfl rfl q) ?_
    have fr28 : Fld Z h26 a0 "com/example/kwhat/kwhat/ProRata" "monthDays" "I" (.int m9) := (((((F_monthDays_a0.ext E1).keep K3 (ninS (Nat.ne_of_lt (Nat.lt_of_lt_of_le X_a0.lt bi_b1)) nin0)).keep K21 (ninS (Nat.ne_of_lt (Nat.lt_of_lt_of_le X_a0.lt bi_b1)) (ninS (Nat.ne_of_lt (Nat.lt_of_lt_of_le (X_a0.ext E1).lt bi_c3_0)) nin0))).ext E23).keep K26 (ninS (Nat.ne_of_lt (Nat.lt_of_lt_of_le X_a0.lt bi_b1)) nin0))
    obtain ⟨T29, X29, e29, st29⟩ := getF X26 hx hZ23 hown23 (host := "") (Or.inl (w_ hw 30 rfl)) Via.refl e26 fr28 (g := (mkF m 20 #[vr a0] [(.ref a0), (.ref b1)])) rfl rfl (hb hby (d3 9))
    refine oS st29 ?_
    show OF _ _ _ _ (T29.setTop (mkF m 23 _ _))
    obtain ⟨cq30, kq30, q30a, q30b, q30c⟩ := isOf hZ23 e29 ((((A1.keep K3).keep K21).ext E23).keep K26)
    obtain ⟨_, _, ⟨T30, L30, k30, n30⟩, -, X30, ⟨Lc30, hQ30, l30, y30, z30⟩, st30⟩ := X29.virtualBack hx (y := yM17) (z := yM17) hown23 (mvT hZ23 (w_ hw 138 rfl)) (mvT hZ23 (w_ hw 139 rfl)) (notFace_of_selects (args := #[]) (mvT hZ23 (w_ hw 141 rfl))) (mvT hZ23 (w_ hw 141 rfl)) (mvT hZ23 (w_ hw 140 rfl)) (by decide) (backOf (W := 0) (rm_sIN l Z av0 hw [] b1 m9 c26_0 (((0 : Int32) + (own_ssL q9)) + ((1 : Int32) >>> ((0 : Int32) &&& 31))) kc26_1 (34 : Int32) (own_cpy (own_outL q9 ((0 : Int32) + (own_ssL q9)) own_zf) (((0 : Int32) + (own_ssL q9)) <<< ((0 : Int32) &&& 31)) (own_lf [(47 : Int32)]) (0 : Int32) (1 : Int32)) kO gO w_DigitOnes kT gT w_DigitTens w_COMPACT_STRINGS h26 n0 (Nat.le_trans Z0 kp27.1) ol27 ((((A1.keep K3).keep K21).ext E23).keep K26) r26_1 r26_2 r26_3 r26_5 r26_4 VO VT hO hT (om_rm_pts_16 q9 m9 hc7 hc25) (om_rm_pts_17 q9 m9 hc7 hc25) S_COMPACT_STRINGS hcs S_DigitOnes g_c26_0 S_DigitTens (Nat.ne_of_lt (Nat.lt_of_lt_of_le (((A1.keep K3).keep K21).ext E23).lt bi_c26_0)) g_b1 (Ne.symm (Nat.ne_of_lt (Nat.lt_of_lt_of_le (((A1.keep K3).keep K21).ext E23).lt bi_c26_0)))) hZ23 (w_ hw 142 rfl) (w_ hw 39 rfl) (by decide) (by decide)) q30a q30c (g := (mkF m 23 #[vr a0] [(.int m9), (.ref b1)])) rfl (by rw [hml]; rfl) (Steps.refl _) (argsL := [(.int m9)]) (rest := []) (lenOf pd_25 rfl) rfl (by show 2 * 0 + _ ≤ _; exact Nat.le_of_eq rfl) (hb hby (d3 10)) (fun _ _ => ⟨rfl, e29, (by decide : 5 + 0 ≤ _), (by decide : 62 + 0 ≤ _)⟩)
    dsimp only [Pt.U, Pt.locs, Pt.cells, Pt.slots] at X30 l30 y30 z30 st30 hQ30
    subst l30 y30 z30
    obtain ⟨rfl, N30q, K30, r30_0, r30_1, r30_2, r30_3⟩ := hQ30
    have N30 := Fr.app N26 N30q
    refine oT st30 ?_
    obtain ⟨h30, e30⟩ : ∃ z, T30.heap = z := ⟨_, rfl⟩
    rw [e30] at K30 r30_0 r30_1 r30_2 r30_3
    have sf31_c3_0 := (CHr.keep K30 (sfS (Safe.exa (hZ23).alike ((((A1.keep K3).keep K21).ext E23).keep K26) (by decide) (by decide)) (sfS sfnc26_0 sf0)) ch27.1).safe (((r3_3.keep K21).ext E23).keep K26).lt sf27_c3_0
    have sf31_c26_0 := (CHr.keep K30 (sfS (Safe.exa (hZ23).alike ((((A1.keep K3).keep K21).ext E23).keep K26) (by decide) (by decide)) (sfS sfnc26_0 sf0)) ch27.1).safe r26_4.lt sfnc26_0
    have ch31 := ch27.trans (CHr.keep K30 (sfS (Safe.exa (hZ23).alike ((((A1.keep K3).keep K21).ext E23).keep K26) (by decide) (by decide)) (sfS sfnc26_0 sf0)) ch27.1)
    have kp31 : Keep h0 h30 [] := kp27.trans K30 (allS (Or.inr lo_b1) (allS (Or.inr lo_c26_0) all0))
    have ol31 : Old Z n0 h30 := ol27.keep K30 (allS g_b1 (allS g_c26_0 all0))
    show OF _ _ _ _ (T30.setTop (mkF m 26 #[vr a0] [(.ref b1)]))
    obtain ⟨cq32, kq32, q32a, q32b, q32c⟩ := isOf hZ23 e30 (((((A1.keep K3).keep K21).ext E23).keep K26).keep K30)
    obtain ⟨_, _, ⟨T32, L32, k32, n32⟩, -, X32, ⟨Lc32, hQ32, l32, y32, z32⟩, st32⟩ := X30.virtualBack hx (y := yM33) (z := yM33) hown23 (mvT hZ23 (w_ hw 154 rfl)) (mvT hZ23 (w_ hw 155 rfl)) (notFace_of_selects (args := #[]) (mvT hZ23 (w_ hw 157 rfl))) (mvT hZ23 (w_ hw 157 rfl)) (mvT hZ23 (w_ hw 156 rfl)) (by decide) (backOf (W := 0) (rm_tsR l Z av0 hw [] b1 c26_0 ((((0 : Int32) + (own_ssL q9)) + ((1 : Int32) >>> ((0 : Int32) &&& 31))) + (own_ssI m9)) kc26_1 (34 : Int32) (own_outI m9 ((((0 : Int32) + (own_ssL q9)) + ((1 : Int32) >>> ((0 : Int32) &&& 31))) + (own_ssI m9)) (own_cpy (own_outL q9 ((0 : Int32) + (own_ssL q9)) own_zf) (((0 : Int32) + (own_ssL q9)) <<< ((0 : Int32) &&& 31)) (own_lf [(47 : Int32)]) (0 : Int32) (1 : Int32))) w_COMPACT_STRINGS h30 n0 (Nat.le_trans Z0 kp31.1) ol31 (((((A1.keep K3).keep K21).ext E23).keep K26).keep K30) r30_0 r30_1 r30_2 r30_3 (r26_4.keep K30) (om_rm_pts_18 q9 m9 hc7 hc25) S_COMPACT_STRINGS hcs (om_rm_pts_19 q9 m9 hc7 hc25)) hZ23 (w_ hw 158 rfl) (w_ hw 39 rfl) (by decide) (by decide)) q32a q32c (g := (mkF m 26 #[vr a0] [(.ref b1)])) rfl (by rw [hml]; rfl) (Steps.refl _) (argsL := []) (rest := []) (lenOf pd_26 rfl) rfl (by show 2 * 0 + _ ≤ _; exact Nat.le_of_eq rfl) (hb hby (d3 11)) (fun _ _ => ⟨rfl, e30, (by decide : 5 + 2 ≤ _), (by decide : 62 + 38 ≤ _)⟩)
    dsimp only [Pt.U, Pt.locs, Pt.cells, Pt.slots] at X32 l32 y32 z32 st32 hQ32
    subst l32 y32 z32
    obtain ⟨c32_0, c32_1, kc32_2, rfl, N32q, K32, r32_0, r32_1, r32_2, r32_3, r32_4, r32_5, r32_6, r32_7⟩ := hQ32
    have N32 := Fr.app N30 N32q
    refine oT st32 ?_
    obtain ⟨h32, e32⟩ : ∃ z, T32.heap = z := ⟨_, rfl⟩
    rw [e32] at K32 r32_3 r32_4 r32_5 r32_6 r32_7
    have bi_c32_0 : h30.size ≤ c32_0 := r32_0
    have lo_c32_0 : h0.size ≤ c32_0 := Nat.le_trans kp31.1 bi_c32_0
    have g_c32_0 : n0 ≤ c32_0 := Nat.le_trans Z0 lo_c32_0
    have bi_c32_1 : h30.size ≤ c32_1 := r32_1
    have lo_c32_1 : h0.size ≤ c32_1 := Nat.le_trans kp31.1 bi_c32_1
    have g_c32_1 : n0 ≤ c32_1 := Nat.le_trans Z0 lo_c32_1
    have sfnc32_1 := Safe.keep K32 sf0 ch31.1 (Safe.new bi_c32_1)
    have sf33_c3_0 := (CHr.keep K32 sf0 ch31.1).safe ((((r3_3.keep K21).ext E23).keep K26).keep K30).lt sf31_c3_0
    have sf33_c26_0 := (CHr.keep K32 sf0 ch31.1).safe (r26_4.keep K30).lt sf31_c26_0
    have ch33 := ch31.trans (CHr.keep K32 sf0 ch31.1)
    have kp33 : Keep h0 h32 [] := kp31.trans K32 all0
    have ol33 : Old Z n0 h32 := ol31.keep K32 all0
    show OF _ _ _ _ (T32.setTop (mkF m 29 _ _))
    obtain ⟨fs, hr, hrun, hended, hEW⟩ := X32.leaveW (s := s) hS23 (by rw [e32]; exact (Nat.le_trans hk23 (Nat.le_trans (Nat.le_trans K26.1 K30.1) K32.1))) (v := some (.ref c32_0)) (fun h => by rw [Bd.returns] at h; cases h)
    have chE : CHr Z own_EL s.vm s.heap T32.vm T32.heap := by
      rw [hh, e32]
      exact ch33.trans (CHv.at X32 hZ23 (own_EW hw) ch33.1)
    refine ⟨_, _, retOut X32 hx Bd.returns rfl (Or.inr (Or.inr (Or.inr (Or.inr ⟨rfl, rfl, rfl⟩)))) (hb hby (d3 12)) hr, hrun, hended, _, _, rfl, ?_, chE, hEW.1, hEW.2.1, hEW.2.2.1, hEW.2.2.2.mono (by decide) (by decide)⟩
    show Q_rm_pts Z a0 q9 m9 kO gO w_DigitOnes kT gT w_DigitTens w_COMPACT_STRINGS h0 n0 _ T32.heap _
    rw [e32]
    have vE34 : Arv Z h32 c32_1 kc32_2 .byte (own_len q9 m9) (own_ml (own_len q9 m9) (own_T q9 m9)) (.int 0) := by rw [show own_len q9 m9 = (((((0 : Int32) + (own_ssL q9)) + ((1 : Int32) >>> ((0 : Int32) &&& 31))) + (own_ssI m9)) - 0) from (own_s0 _).symm]; exact own_mlcongz own_idc r32_5
    exact ⟨c32_0, c32_1, kc32_2, rfl, N32, kp33, lo_c32_0, r32_3, r32_4, r32_7, vE34⟩
   ·
    show OF _ _ _ _ (T23.setTop (mkF m 16 _ _))
    obtain ⟨cq35, kq35, q35a, q35b, q35c⟩ := isOf hZ23 e23 (((A1.keep K3).keep K21).ext E23)
    obtain ⟨_, _, ⟨T35, L35, k35, n35⟩, -, X35, ⟨Lc35, hQ35, l35, y35, z35⟩, st35⟩ := X23.virtualBack hx (y := yM24) (z := yM24) hown23 (mvT hZ23 (w_ hw 96 rfl)) (mvT hZ23 (w_ hw 97 rfl)) (notFace_of_selects (args := #[]) (mvT hZ23 (w_ hw 99 rfl))) (mvT hZ23 (w_ hw 99 rfl)) (mvT hZ23 (w_ hw 98 rfl)) (by decide) (backOf (W := 0) (rm_sSN l Z av0 hw [] b1 al23 c3_0 ((0 : Int32) + (own_ssL q9)) kc3_1 (16 : Int32) (own_outL q9 ((0 : Int32) + (own_ssL q9)) own_zf) bl23 kl23 (own_lf [(47 : Int32)]) w_COMPACT_STRINGS h23 n0 (Nat.le_trans Z0 kp24.1) ol24 (((A1.keep K3).keep K21).ext E23) (r21_0.ext E23) (r21_1.ext E23) (r21_2.ext E23) (r21_3.ext E23) ((r3_3.keep K21).ext E23) XA23 FC23 FV23 (own_toml [(47 : Int32)] (by decide) VB23) (om_rm_pts_20 q9 m9 hc7 hc25) S_COMPACT_STRINGS hcs hc25 g_c3_0 (Nat.ne_of_lt (Nat.lt_of_lt_of_le A1.lt bi_c3_0)) g_b1 (Ne.symm (Nat.ne_of_lt (Nat.lt_of_lt_of_le A1.lt bi_c3_0)))) hZ23 (w_ hw 100 rfl) (w_ hw 39 rfl) (by decide) (by decide)) q35a q35c (g := (mkF m 16 #[vr a0] [(.ref al23), (.ref b1)])) rfl (by rw [hml]; rfl) (Steps.refl _) (argsL := [(.ref al23)]) (rest := []) (lenOf pd_24 rfl) rfl (by show 2 * 0 + _ ≤ _; exact Nat.le_of_eq rfl) (hb hby (d3 7)) (fun _ _ => ⟨rfl, e23, (by decide : 4 + 0 ≤ _), (by decide : 28 + 0 ≤ _)⟩)
    dsimp only [Pt.U, Pt.locs, Pt.cells, Pt.slots] at X35 l35 y35 z35 st35 hQ35
    subst l35 y35 z35
    obtain ⟨rfl, N35q, K35, r35_0, r35_1, r35_2, r35_3⟩ := hQ35
    have N35 := Fr.app N21 N35q
    refine oT st35 ?_
    obtain ⟨h35, e35⟩ : ∃ z, T35.heap = z := ⟨_, rfl⟩
    rw [e35] at K35 r35_0 r35_1 r35_2 r35_3
    have sf36_c3_0 := (CHr.keep K35 (sfS (Safe.exa (hZ23).alike (((A1.keep K3).keep K21).ext E23) (by decide) (by decide)) (sfS sf24_c3_0 sf0)) ch24.1).safe ((r3_3.keep K21).ext E23).lt sf24_c3_0
    have ch36 := ch24.trans (CHr.keep K35 (sfS (Safe.exa (hZ23).alike (((A1.keep K3).keep K21).ext E23) (by decide) (by decide)) (sfS sf24_c3_0 sf0)) ch24.1)
    have kp36 : Keep h0 h35 [] := kp24.trans K35 (allS (Or.inr lo_b1) (allS (Or.inr lo_c3_0) all0))
    have ol36 : Old Z n0 h35 := ol24.keep K35 (allS g_b1 (allS g_c3_0 all0))
    show OF _ _ _ _ (T35.setTop (mkF m 19 _ _))
    refine oS (fun _ q => XS.aloadN X35.here hx rfl (hb hby (d3 8)) rfl rfl q) ?_
    have fr37 : Fld Z h35 a0 "com/example/kwhat/kwhat/ProRata" "monthDays" "I" (.int m9) := (((((F_monthDays_a0.ext E1).keep K3 (ninS (Nat.ne_of_lt (Nat.lt_of_lt_of_le X_a0.lt bi_b1)) nin0)).keep K21 (ninS (Nat.ne_of_lt (Nat.lt_of_lt_of_le X_a0.lt bi_b1)) (ninS (Nat.ne_of_lt (Nat.lt_of_lt_of_le (X_a0.ext E1).lt bi_c3_0)) nin0))).ext E23).keep K35 (ninS (Nat.ne_of_lt (Nat.lt_of_lt_of_le X_a0.lt bi_b1)) (ninS (Nat.ne_of_lt (Nat.lt_of_lt_of_le (X_a0.ext E1).lt bi_c3_0)) nin0)))
    obtain ⟨T38, X38, e38, st38⟩ := getF X35 hx hZ23 hown23 (host := "") (Or.inl (w_ hw 30 rfl)) Via.refl e35 fr37 (g := (mkF m 20 #[vr a0] [(.ref a0), (.ref b1)])) rfl rfl (hb hby (d3 9))
    refine oS st38 ?_
    show OF _ _ _ _ (T38.setTop (mkF m 23 _ _))
    by_cases hc39 : (0 : Int32) < (((((0 : Int32) + (own_ssL q9)) + ((1 : Int32) >>> ((0 : Int32) &&& 31))) + (own_ssI m9)) - ((16 : Int32) >>> ((0 : Int32) &&& 31)))
    ·
     show OF _ _ _ _ (T38.setTop (mkF m 23 #[vr a0] [(.int m9), (.ref b1)]))
     obtain ⟨cq40, kq40, q40a, q40b, q40c⟩ := isOf hZ23 e38 ((((A1.keep K3).keep K21).ext E23).keep K35)
     obtain ⟨_, _, ⟨T40, L40, k40, n40⟩, -, X40, ⟨Lc40, hQ40, l40, y40, z40⟩, st40⟩ := X38.virtualBack hx (y := yM17) (z := yM17) hown23 (mvT hZ23 (w_ hw 138 rfl)) (mvT hZ23 (w_ hw 139 rfl)) (notFace_of_selects (args := #[]) (mvT hZ23 (w_ hw 141 rfl))) (mvT hZ23 (w_ hw 141 rfl)) (mvT hZ23 (w_ hw 140 rfl)) (by decide) (backOf (W := 0) (rm_sIY l Z av0 hw [] b1 m9 c3_0 (((0 : Int32) + (own_ssL q9)) + ((1 : Int32) >>> ((0 : Int32) &&& 31))) kc3_1 (own_cpy (own_outL q9 ((0 : Int32) + (own_ssL q9)) own_zf) (((0 : Int32) + (own_ssL q9)) <<< ((0 : Int32) &&& 31)) (own_lf [(47 : Int32)]) (0 : Int32) (1 : Int32)) kO gO w_DigitOnes kT gT w_DigitTens w_COMPACT_STRINGS h35 n0 (Nat.le_trans Z0 kp36.1) ol36 ((((A1.keep K3).keep K21).ext E23).keep K35) r35_0 r35_1 r35_2 r35_3 (((r3_3.keep K21).ext E23).keep K35) VO VT hO hT (om_rm_pts_23 q9 m9 hc7 hc25 hc39) (om_rm_pts_24 q9 m9 hc7 hc25 hc39) (own_hfB (om_rm_pts_25 q9 m9 hc7 hc25 hc39) (om_rm_pts_26 q9 m9 hc7 hc25 hc39)) hc39 g_b1 S_COMPACT_STRINGS hcs S_DigitOnes S_DigitTens) hZ23 (w_ hw 142 rfl) (w_ hw 39 rfl) (by decide) (by decide)) q40a q40c (g := (mkF m 23 #[vr a0] [(.int m9), (.ref b1)])) rfl (by rw [hml]; rfl) (Steps.refl _) (argsL := [(.int m9)]) (rest := []) (lenOf pd_25 rfl) rfl (by show 2 * 0 + _ ≤ _; exact Nat.le_of_eq rfl) (hb hby (d3 10)) (fun _ _ => ⟨rfl, e38, (by decide : 4 + 1 ≤ _), (by decide : 28 + 34 ≤ _)⟩)
     dsimp only [Pt.U, Pt.locs, Pt.cells, Pt.slots] at X40 l40 y40 z40 st40 hQ40
     subst l40 y40 z40
     obtain ⟨c40_0, kc40_1, rfl, N40q, K40, r40_0, r40_1, r40_2, r40_3, r40_4, r40_5⟩ := hQ40
     have N40 := Fr.app N35 N40q
     refine oT st40 ?_
     obtain ⟨h40, e40⟩ : ∃ z, T40.heap = z := ⟨_, rfl⟩
     rw [e40] at K40 r40_1 r40_2 r40_3 r40_4 r40_5
     have bi_c40_0 : h35.size ≤ c40_0 := r40_0
     have lo_c40_0 : h0.size ≤ c40_0 := Nat.le_trans kp36.1 bi_c40_0
     have g_c40_0 : n0 ≤ c40_0 := Nat.le_trans Z0 lo_c40_0
     have sfnc40_0 := Safe.keep K40 (sfS (Safe.exa (hZ23).alike ((((A1.keep K3).keep K21).ext E23).keep K35) (by decide) (by decide)) sf0) ch36.1 (Safe.new bi_c40_0)
     have sf41_c3_0 := (CHr.keep K40 (sfS (Safe.exa (hZ23).alike ((((A1.keep K3).keep K21).ext E23).keep K35) (by decide) (by decide)) sf0) ch36.1).safe (((r3_3.keep K21).ext E23).keep K35).lt sf36_c3_0
     have ch41 := ch36.trans (CHr.keep K40 (sfS (Safe.exa (hZ23).alike ((((A1.keep K3).keep K21).ext E23).keep K35) (by decide) (by decide)) sf0) ch36.1)
     have kp41 : Keep h0 h40 [] := kp36.trans K40 (allS (Or.inr lo_b1) all0)
     have ol41 : Old Z n0 h40 := ol36.keep K40 (allS g_b1 all0)
     show OF _ _ _ _ (T40.setTop (mkF m 26 _ _))
     obtain ⟨cq42, kq42, q42a, q42b, q42c⟩ := isOf hZ23 e40 (((((A1.keep K3).keep K21).ext E23).keep K35).keep K40)
     obtain ⟨_, _, ⟨T42, L42, k42, n42⟩, -, X42, ⟨Lc42, hQ42, l42, y42, z42⟩, st42⟩ := X40.virtualBack hx (y := yM33) (z := yM33) hown23 (mvT hZ23 (w_ hw 154 rfl)) (mvT hZ23 (w_ hw 155 rfl)) (notFace_of_selects (args := #[]) (mvT hZ23 (w_ hw 157 rfl))) (mvT hZ23 (w_ hw 157 rfl)) (mvT hZ23 (w_ hw 156 rfl)) (by decide) (backOf (W := 0) (rm_tsR l Z av0 hw [] b1 c40_0 ((((0 : Int32) + (own_ssL q9)) + ((1 : Int32) >>> ((0 : Int32) &&& 31))) + (own_ssI m9)) kc40_1 (34 : Int32) (own_outI m9 ((((0 : Int32) + (own_ssL q9)) + ((1 : Int32) >>> ((0 : Int32) &&& 31))) + (own_ssI m9)) (own_cpy (own_outL q9 ((0 : Int32) + (own_ssL q9)) own_zf) (((0 : Int32) + (own_ssL q9)) <<< ((0 : Int32) &&& 31)) (own_lf [(47 : Int32)]) (0 : Int32) (1 : Int32))) w_COMPACT_STRINGS h40 n0 (Nat.le_trans Z0 kp41.1) ol41 (((((A1.keep K3).keep K21).ext E23).keep K35).keep K40) r40_1 r40_2 r40_3 r40_5 r40_4 (om_rm_pts_27 q9 m9 hc7 hc25 hc39) S_COMPACT_STRINGS hcs (om_rm_pts_28 q9 m9 hc7 hc25 hc39)) hZ23 (w_ hw 158 rfl) (w_ hw 39 rfl) (by decide) (by decide)) q42a q42c (g := (mkF m 26 #[vr a0] [(.ref b1)])) rfl (by rw [hml]; rfl) (Steps.refl _) (argsL := []) (rest := []) (lenOf pd_26 rfl) rfl (by show 2 * 0 + _ ≤ _; exact Nat.le_of_eq rfl) (hb hby (d3 11)) (fun _ _ => ⟨rfl, e40, (by decide : 5 + 2 ≤ _), (by decide : 62 + 38 ≤ _)⟩)
     dsimp only [Pt.U, Pt.locs, Pt.cells, Pt.slots] at X42 l42 y42 z42 st42 hQ42
     subst l42 y42 z42
     obtain ⟨c42_0, c42_1, kc42_2, rfl, N42q, K42, r42_0, r42_1, r42_2, r42_3, r42_4, r42_5, r42_6, r42_7⟩ := hQ42
     have N42 := Fr.app N40 N42q
     refine oT st42 ?_
     obtain ⟨h42, e42⟩ : ∃ z, T42.heap = z := ⟨_, rfl⟩
     rw [e42] at K42 r42_3 r42_4 r42_5 r42_6 r42_7
     have bi_c42_0 : h40.size ≤ c42_0 := r42_0
     have lo_c42_0 : h0.size ≤ c42_0 := Nat.le_trans kp41.1 bi_c42_0
     have g_c42_0 : n0 ≤ c42_0 := Nat.le_trans Z0 lo_c42_0
     have bi_c42_1 : h40.size ≤ c42_1 := r42_1
     have lo_c42_1 : h0.size ≤ c42_1 := Nat.le_trans kp41.1 bi_c42_1
     have g_c42_1 : n0 ≤ c42_1 := Nat.le_trans Z0 lo_c42_1
     have sfnc42_1 := Safe.keep K42 sf0 ch41.1 (Safe.new bi_c42_1)
     have sf43_c3_0 := (CHr.keep K42 sf0 ch41.1).safe ((((r3_3.keep K21).ext E23).keep K35).keep K40).lt sf41_c3_0
     have sf43_c40_0 := (CHr.keep K42 sf0 ch41.1).safe r40_4.lt sfnc40_0
     have ch43 := ch41.trans (CHr.keep K42 sf0 ch41.1)
     have kp43 : Keep h0 h42 [] := kp41.trans K42 all0
     have ol43 : Old Z n0 h42 := ol41.keep K42 all0
     show OF _ _ _ _ (T42.setTop (mkF m 29 _ _))
     obtain ⟨fs, hr, hrun, hended, hEW⟩ := X42.leaveW (s := s) hS23 (by rw [e42]; exact (Nat.le_trans hk23 (Nat.le_trans (Nat.le_trans K35.1 K40.1) K42.1))) (v := some (.ref c42_0)) (fun h => by rw [Bd.returns] at h; cases h)
     have chE : CHr Z own_EL s.vm s.heap T42.vm T42.heap := by
       rw [hh, e42]
       exact ch43.trans (CHv.at X42 hZ23 (own_EW hw) ch43.1)
     refine ⟨_, _, retOut X42 hx Bd.returns rfl (Or.inr (Or.inr (Or.inr (Or.inr ⟨rfl, rfl, rfl⟩)))) (hb hby (d3 12)) hr, hrun, hended, _, _, rfl, ?_, chE, hEW.1, hEW.2.1, hEW.2.2.1, hEW.2.2.2.mono (by decide) (by decide)⟩
     show Q_rm_pts Z a0 q9 m9 kO gO w_DigitOnes kT gT w_DigitTens w_COMPACT_STRINGS h0 n0 _ T42.heap _
     rw [e42]
     have vE44 : Arv Z h42 c42_1 kc42_2 .byte (own_len q9 m9) (own_ml (own_len q9 m9) (own_T q9 m9)) (.int 0) := by rw [show own_len q9 m9 = (((((0 : Int32) + (own_ssL q9)) + ((1 : Int32) >>> ((0 : Int32) &&& 31))) + (own_ssI m9)) - 0) from (own_s0 _).symm]; exact own_mlcongz own_idc r42_5
     exact ⟨c42_0, c42_1, kc42_2, rfl, N42, kp43, lo_c42_0, r42_3, r42_4, r42_7, vE44⟩
    ·
     show OF _ _ _ _ (T38.setTop (mkF m 23 #[vr a0] [(.int m9), (.ref b1)]))
     obtain ⟨cq45, kq45, q45a, q45b, q45c⟩ := isOf hZ23 e38 ((((A1.keep K3).keep K21).ext E23).keep K35)
     obtain ⟨_, _, ⟨T45, L45, k45, n45⟩, -, X45, ⟨Lc45, hQ45, l45, y45, z45⟩, st45⟩ := X38.virtualBack hx (y := yM17) (z := yM17) hown23 (mvT hZ23 (w_ hw 138 rfl)) (mvT hZ23 (w_ hw 139 rfl)) (notFace_of_selects (args := #[]) (mvT hZ23 (w_ hw 141 rfl))) (mvT hZ23 (w_ hw 141 rfl)) (mvT hZ23 (w_ hw 140 rfl)) (by decide) (backOf (W := 0) (rm_sIN l Z av0 hw [] b1 m9 c3_0 (((0 : Int32) + (own_ssL q9)) + ((1 : Int32) >>> ((0 : Int32) &&& 31))) kc3_1 (16 : Int32) (own_cpy (own_outL q9 ((0 : Int32) + (own_ssL q9)) own_zf) (((0 : Int32) + (own_ssL q9)) <<< ((0 : Int32) &&& 31)) (own_lf [(47 : Int32)]) (0 : Int32) (1 : Int32)) kO gO w_DigitOnes kT gT w_DigitTens w_COMPACT_STRINGS h35 n0 (Nat.le_trans Z0 kp36.1) ol36 ((((A1.keep K3).keep K21).ext E23).keep K35) r35_0 r35_1 r35_2 r35_3 (((r3_3.keep K21).ext E23).keep K35) VO VT hO hT (om_rm_pts_29 q9 m9 hc7 hc25 hc39) hc39 S_COMPACT_STRINGS hcs S_DigitOnes g_c3_0 S_DigitTens (Nat.ne_of_lt (Nat.lt_of_lt_of_le A1.lt bi_c3_0)) g_b1 (Ne.symm (Nat.ne_of_lt (Nat.lt_of_lt_of_le A1.lt bi_c3_0)))) hZ23 (w_ hw 142 rfl) (w_ hw 39 rfl) (by decide) (by decide)) q45a q45c (g := (mkF m 23 #[vr a0] [(.int m9), (.ref b1)])) rfl (by rw [hml]; rfl) (Steps.refl _) (argsL := [(.int m9)]) (rest := []) (lenOf pd_25 rfl) rfl (by show 2 * 0 + _ ≤ _; exact Nat.le_of_eq rfl) (hb hby (d3 10)) (fun _ _ => ⟨rfl, e38, (by decide : 4 + 0 ≤ _), (by decide : 28 + 0 ≤ _)⟩)
     dsimp only [Pt.U, Pt.locs, Pt.cells, Pt.slots] at X45 l45 y45 z45 st45 hQ45
     subst l45 y45 z45
     obtain ⟨rfl, N45q, K45, r45_0, r45_1, r45_2, r45_3⟩ := hQ45
     have N45 := Fr.app N35 N45q
     refine oT st45 ?_
     obtain ⟨h45, e45⟩ : ∃ z, T45.heap = z := ⟨_, rfl⟩
     rw [e45] at K45 r45_0 r45_1 r45_2 r45_3
     have sf46_c3_0 := (CHr.keep K45 (sfS (Safe.exa (hZ23).alike ((((A1.keep K3).keep K21).ext E23).keep K35) (by decide) (by decide)) (sfS sf36_c3_0 sf0)) ch36.1).safe (((r3_3.keep K21).ext E23).keep K35).lt sf36_c3_0
     have ch46 := ch36.trans (CHr.keep K45 (sfS (Safe.exa (hZ23).alike ((((A1.keep K3).keep K21).ext E23).keep K35) (by decide) (by decide)) (sfS sf36_c3_0 sf0)) ch36.1)
     have kp46 : Keep h0 h45 [] := kp36.trans K45 (allS (Or.inr lo_b1) (allS (Or.inr lo_c3_0) all0))
     have ol46 : Old Z n0 h45 := ol36.keep K45 (allS g_b1 (allS g_c3_0 all0))
     show OF _ _ _ _ (T45.setTop (mkF m 26 _ _))
     by_cases hc47 : ((((0 : Int32) + (own_ssL q9)) + ((1 : Int32) >>> ((0 : Int32) &&& 31))) + (own_ssI m9)) = 16
     ·
      show OF _ _ _ _ (T45.setTop (mkF m 26 _ _))
      obtain ⟨cq48, kq48, q48a, q48b, q48c⟩ := isOf hZ23 e45 (((((A1.keep K3).keep K21).ext E23).keep K35).keep K45)
      obtain ⟨_, _, ⟨T48, L48, k48, n48⟩, -, X48, ⟨Lc48, hQ48, l48, y48, z48⟩, st48⟩ := X45.virtualBack hx (y := yM33) (z := yM33) hown23 (mvT hZ23 (w_ hw 154 rfl)) (mvT hZ23 (w_ hw 155 rfl)) (notFace_of_selects (args := #[]) (mvT hZ23 (w_ hw 157 rfl))) (mvT hZ23 (w_ hw 157 rfl)) (mvT hZ23 (w_ hw 156 rfl)) (by decide) (backOf (W := 0) (rm_tsC l Z av0 hw [] b1 c3_0 ((((0 : Int32) + (own_ssL q9)) + ((1 : Int32) >>> ((0 : Int32) &&& 31))) + (own_ssI m9)) kc3_1 (own_outI m9 ((((0 : Int32) + (own_ssL q9)) + ((1 : Int32) >>> ((0 : Int32) &&& 31))) + (own_ssI m9)) (own_cpy (own_outL q9 ((0 : Int32) + (own_ssL q9)) own_zf) (((0 : Int32) + (own_ssL q9)) <<< ((0 : Int32) &&& 31)) (own_lf [(47 : Int32)]) (0 : Int32) (1 : Int32))) w_COMPACT_STRINGS h45 n0 (Nat.le_trans Z0 kp46.1) ol46 (((((A1.keep K3).keep K21).ext E23).keep K35).keep K45) r45_0 r45_1 r45_2 r45_3 ((((r3_3.keep K21).ext E23).keep K35).keep K45) S_COMPACT_STRINGS hcs hc47) hZ23 (w_ hw 158 rfl) (w_ hw 39 rfl) (by decide) (by decide)) q48a q48c (g := (mkF m 26 #[vr a0] [(.ref b1)])) rfl (by rw [hml]; rfl) (Steps.refl _) (argsL := []) (rest := []) (lenOf pd_26 rfl) rfl (by show 2 * 0 + _ ≤ _; exact Nat.le_of_eq rfl) (hb hby (d3 11)) (fun _ _ => ⟨rfl, e45, (by decide : 4 + 2 ≤ _), (by decide : 28 + 20 ≤ _)⟩)
      dsimp only [Pt.U, Pt.locs, Pt.cells, Pt.slots] at X48 l48 y48 z48 st48 hQ48
      subst l48 y48 z48
      obtain ⟨c48_0, c48_1, rfl, N48q, K48, r48_0, r48_1, r48_2, r48_3, r48_4, r48_5, r48_6, r48_7⟩ := hQ48
      have N48 := Fr.app N45 N48q
      refine oT st48 ?_
      obtain ⟨h48, e48⟩ : ∃ z, T48.heap = z := ⟨_, rfl⟩
      rw [e48] at K48 r48_3 r48_4 r48_5 r48_6 r48_7
      have bi_c48_0 : h45.size ≤ c48_0 := r48_0
      have lo_c48_0 : h0.size ≤ c48_0 := Nat.le_trans kp46.1 bi_c48_0
      have g_c48_0 : n0 ≤ c48_0 := Nat.le_trans Z0 lo_c48_0
      have bi_c48_1 : h45.size ≤ c48_1 := r48_1
      have lo_c48_1 : h0.size ≤ c48_1 := Nat.le_trans kp46.1 bi_c48_1
      have g_c48_1 : n0 ≤ c48_1 := Nat.le_trans Z0 lo_c48_1
      have sfnc48_1 := Safe.keep K48 sf0 ch46.1 (Safe.new bi_c48_1)
      have sf49_c3_0 := (CHr.keep K48 sf0 ch46.1).safe ((((r3_3.keep K21).ext E23).keep K35).keep K45).lt sf46_c3_0
      have ch49 := ch46.trans (CHr.keep K48 sf0 ch46.1)
      have kp49 : Keep h0 h48 [] := kp46.trans K48 all0
      have ol49 : Old Z n0 h48 := ol46.keep K48 all0
      show OF _ _ _ _ (T48.setTop (mkF m 29 _ _))
      obtain ⟨fs, hr, hrun, hended, hEW⟩ := X48.leaveW (s := s) hS23 (by rw [e48]; exact (Nat.le_trans hk23 (Nat.le_trans (Nat.le_trans K35.1 K45.1) K48.1))) (v := some (.ref c48_0)) (fun h => by rw [Bd.returns] at h; cases h)
      have chE : CHr Z own_EL s.vm s.heap T48.vm T48.heap := by
        rw [hh, e48]
        exact ch49.trans (CHv.at X48 hZ23 (own_EW hw) ch49.1)
      refine ⟨_, _, retOut X48 hx Bd.returns rfl (Or.inr (Or.inr (Or.inr (Or.inr ⟨rfl, rfl, rfl⟩)))) (hb hby (d3 12)) hr, hrun, hended, _, _, rfl, ?_, chE, hEW.1, hEW.2.1, hEW.2.2.1, hEW.2.2.2.mono (by decide) (by decide)⟩
      show Q_rm_pts Z a0 q9 m9 kO gO w_DigitOnes kT gT w_DigitTens w_COMPACT_STRINGS h0 n0 _ T48.heap _
      rw [e48]
      have vE50 : Arv Z h48 c48_1 kc3_1 .byte (own_len q9 m9) (own_ml (own_len q9 m9) (own_T q9 m9)) (.int 0) := by rw [show own_len q9 m9 = 16 from hc47]; exact r48_5
      exact ⟨c48_0, c48_1, kc3_1, rfl, N48, kp49, lo_c48_0, r48_3, r48_4, r48_7, vE50⟩
     ·
      show OF _ _ _ _ (T45.setTop (mkF m 26 _ _))
      obtain ⟨cq51, kq51, q51a, q51b, q51c⟩ := isOf hZ23 e45 (((((A1.keep K3).keep K21).ext E23).keep K35).keep K45)
      obtain ⟨_, _, ⟨T51, L51, k51, n51⟩, -, X51, ⟨Lc51, hQ51, l51, y51, z51⟩, st51⟩ := X45.virtualBack hx (y := yM33) (z := yM33) hown23 (mvT hZ23 (w_ hw 154 rfl)) (mvT hZ23 (w_ hw 155 rfl)) (notFace_of_selects (args := #[]) (mvT hZ23 (w_ hw 157 rfl))) (mvT hZ23 (w_ hw 157 rfl)) (mvT hZ23 (w_ hw 156 rfl)) (by decide) (backOf (W := 0) (rm_tsR l Z av0 hw [] b1 c3_0 ((((0 : Int32) + (own_ssL q9)) + ((1 : Int32) >>> ((0 : Int32) &&& 31))) + (own_ssI m9)) kc3_1 (16 : Int32) (own_outI m9 ((((0 : Int32) + (own_ssL q9)) + ((1 : Int32) >>> ((0 : Int32) &&& 31))) + (own_ssI m9)) (own_cpy (own_outL q9 ((0 : Int32) + (own_ssL q9)) own_zf) (((0 : Int32) + (own_ssL q9)) <<< ((0 : Int32) &&& 31)) (own_lf [(47 : Int32)]) (0 : Int32) (1 : Int32))) w_COMPACT_STRINGS h45 n0 (Nat.le_trans Z0 kp46.1) ol46 (((((A1.keep K3).keep K21).ext E23).keep K35).keep K45) r45_0 r45_1 r45_2 r45_3 ((((r3_3.keep K21).ext E23).keep K35).keep K45) (om_rm_pts_30 q9 m9 hc7 hc25 hc39 hc47) S_COMPACT_STRINGS hcs hc47) hZ23 (w_ hw 158 rfl) (w_ hw 39 rfl) (by decide) (by decide)) q51a q51c (g := (mkF m 26 #[vr a0] [(.ref b1)])) rfl (by rw [hml]; rfl) (Steps.refl _) (argsL := []) (rest := []) (lenOf pd_26 rfl) rfl (by show 2 * 0 + _ ≤ _; exact Nat.le_of_eq rfl) (hb hby (d3 11)) (fun _ _ => ⟨rfl, e45, (by decide : 4 + 2 ≤ _), (by decide : 28 + 38 ≤ _)⟩)
      dsimp only [Pt.U, Pt.locs, Pt.cells, Pt.slots] at X51 l51 y51 z51 st51 hQ51
      subst l51 y51 z51
      obtain ⟨c51_0, c51_1, kc51_2, rfl, N51q, K51, r51_0, r51_1, r51_2, r51_3, r51_4, r51_5, r51_6, r51_7⟩ := hQ51
      have N51 := Fr.app N45 N51q
      refine oT st51 ?_
      obtain ⟨h51, e51⟩ : ∃ z, T51.heap = z := ⟨_, rfl⟩
      rw [e51] at K51 r51_3 r51_4 r51_5 r51_6 r51_7
      have bi_c51_0 : h45.size ≤ c51_0 := r51_0
      have lo_c51_0 : h0.size ≤ c51_0 := Nat.le_trans kp46.1 bi_c51_0
      have g_c51_0 : n0 ≤ c51_0 := Nat.le_trans Z0 lo_c51_0
      have bi_c51_1 : h45.size ≤ c51_1 := r51_1
      have lo_c51_1 : h0.size ≤ c51_1 := Nat.le_trans kp46.1 bi_c51_1
      have g_c51_1 : n0 ≤ c51_1 := Nat.le_trans Z0 lo_c51_1
      have sfnc51_1 := Safe.keep K51 sf0 ch46.1 (Safe.new bi_c51_1)
      have sf52_c3_0 := (CHr.keep K51 sf0 ch46.1).safe ((((r3_3.keep K21).ext E23).keep K35).keep K45).lt sf46_c3_0
      have ch52 := ch46.trans (CHr.keep K51 sf0 ch46.1)
      have kp52 : Keep h0 h51 [] := kp46.trans K51 all0
      have ol52 : Old Z n0 h51 := ol46.keep K51 all0
      show OF _ _ _ _ (T51.setTop (mkF m 29 _ _))
      obtain ⟨fs, hr, hrun, hended, hEW⟩ := X51.leaveW (s := s) hS23 (by rw [e51]; exact (Nat.le_trans hk23 (Nat.le_trans (Nat.le_trans K35.1 K45.1) K51.1))) (v := some (.ref c51_0)) (fun h => by rw [Bd.returns] at h; cases h)
      have chE : CHr Z own_EL s.vm s.heap T51.vm T51.heap := by
        rw [hh, e51]
        exact ch52.trans (CHv.at X51 hZ23 (own_EW hw) ch52.1)
      refine ⟨_, _, retOut X51 hx Bd.returns rfl (Or.inr (Or.inr (Or.inr (Or.inr ⟨rfl, rfl, rfl⟩)))) (hb hby (d3 12)) hr, hrun, hended, _, _, rfl, ?_, chE, hEW.1, hEW.2.1, hEW.2.2.1, hEW.2.2.2.mono (by decide) (by decide)⟩
      show Q_rm_pts Z a0 q9 m9 kO gO w_DigitOnes kT gT w_DigitTens w_COMPACT_STRINGS h0 n0 _ T51.heap _
      rw [e51]
      have vE53 : Arv Z h51 c51_1 kc51_2 .byte (own_len q9 m9) (own_ml (own_len q9 m9) (own_T q9 m9)) (.int 0) := by rw [show own_len q9 m9 = (((((0 : Int32) + (own_ssL q9)) + ((1 : Int32) >>> ((0 : Int32) &&& 31))) + (own_ssI m9)) - 0) from (own_s0 _).symm]; exact own_mlcongz own_idc r51_5
      exact ⟨c51_0, c51_1, kc51_2, rfl, N51, kp52, lo_c51_0, r51_3, r51_4, r51_7, vE53⟩
abbrev C35 := jdk_42_method_154_code
def L35 : List (Nat × Instr × Nat) := [(0, .getstatic 38, 3), (3, .ifCond .eq 14, 3), (6, .aload_n 0, 1), (7, .getfield 15, 3), (10, .ifCond .ne 7, 3), (13, .iconst 1, 1), (14, .goto 4, 3), (18, .ireturn, 1)]
theorem d35 : ∀ i : Fin 8, decode C35 (L35.get i).1 = .ok (L35.get i).2 := by decide +kernel
theorem ef_rm_il (m : MethodId) (a0 : Addr) : entryFrame m #[(.ref a0)] 1 = mkF m 0 #[.val (.ref a0)] [] := by first | (simp [entryFrame, mkF, argsToLocals, Value.category]; done) | rfl
def Q_rm_il (Z : State) (a0 : Addr) (w_COMPACT_STRINGS : Int32) (h0 : Heap) (n0 : Nat) (v : Option Value) (h : Heap) (L : List Loc) : Prop := v = some (.int 1) ∧ Fr n0 L ∧ h = h0
set_option maxRecDepth 65536 in
set_option maxHeartbeats 40000000 in
theorem rm_il (l : Launch) (Z : State) (av0 : Array Value) (hw : ∀ d ∈ tables_1, d.before av0 Z = true) (ws : List Jvm.Cond) (a0 : Addr) (w_COMPACT_STRINGS : Int32) (h0 : Heap) (n0 : Nat) (Z0 : n0 ≤ h0.size) (Ol0 : Old Z n0 h0) (F_coder_a0 : Fld Z h0 a0 "java/lang/String" "coder" "B" (.int 0)) (S_COMPACT_STRINGS : Sta Z Z.heap "java/lang/String" "COMPACT_STRINGS" "Z" (.int w_COMPACT_STRINGS)) (hc0 : ¬ (w_COMPACT_STRINGS = 0)) :
    own_MF l Z h0 yM35 (Jvm.Cond.code yM35 jdk_42_method_154_code 1 (some .boolean) :: ws) ({ frames := 0, cells := 0, slots := 0, locals := 0 } : Room) #[(.ref a0)] (Q_rm_il Z a0 w_COMPACT_STRINGS h0 n0) := by
  refine own_ent (own := "java/lang/String") (plainFor_of_name pn_7) rfl ?_
  intro p e s m below meth c s₁ Bd hx hby hml hZ hh hown hnm X0 e0
  have N0 := Fr.nil n0
  have kp0 : Keep h0 h0 [] := Keep.refl _ _
  refine oS (fun _ q => castTop (ef_rm_il m a0) q) ?_
  show OF _ _ _ _ (s₁.setTop (mkF m 0 #[vr a0] []))
  obtain ⟨T1, X1, e1, st1⟩ := getS2 X0 hx hZ hown (host := "") (Or.inl (w_ hw 116 rfl)) Via.refl e0 (S_COMPACT_STRINGS.ext Ol0.2) (g := (mkF m 0 #[vr a0] [])) rfl (hb hby (d35 0))
  refine oS st1 ?_
  show OF _ _ _ _ (T1.setTop (mkF m 3 _ _))
  refine oS (fun _ q => XS.ifNo X1.here hx rfl (hb hby (d35 1)) rfl (Jvm.Free.XT.i0_eq_f hc0) q) ?_
  show OF _ _ _ _ (T1.setTop (mkF m 6 _ _))
  refine oS (fun _ q => XS.aloadN X1.here hx rfl (hb hby (d35 2)) rfl rfl q) ?_
  obtain ⟨T2, X2, e2, st2⟩ := getF X1 hx hZ hown (host := "") (Or.inl (w_ hw 117 rfl)) Via.refl e1 F_coder_a0 (g := (mkF m 7 #[vr a0] [(.ref a0)])) rfl rfl (hb hby (d35 3))
  refine oS st2 ?_
  show OF _ _ _ _ (T2.setTop (mkF m 10 _ _))
  refine oS (fun _ q => XS.ifNo X2.here hx rfl (hb hby (d35 4)) rfl (Jvm.Free.XT.i0_ne_f (rfl : (0 : Int32) = (0 : Int32))) q) ?_
  show OF _ _ _ _ (T2.setTop (mkF m 13 _ _))
  refine oS (fun _ q => XS.iconst X2.here hx rfl (hb hby (d35 5)) (XS.goto X2.here hx rfl (pc0 := 14) (pc' := 18) rfl (hb hby (d35 6)) (by decide) (by decide) q)) ?_
  obtain ⟨fs, hr, hrun, hended, hW, hsame⟩ := X2.leave (v := some (.int 1)) (fun h => by rw [Bd.returns] at h; cases h)
  refine ⟨_, _, retN X2 hx (t := .boolean) Bd.returns (by simp) (hb hby (d35 7)) hr, hrun, hended, _, _, rfl, ?_, ⟨_, rfl⟩, hW, hsame.mono (by decide) (by decide)⟩
  show Q_rm_il Z a0 w_COMPACT_STRINGS h0 n0 _ T2.heap _
  rw [e2]
  exact ⟨rfl, N0, rfl⟩
abbrev C38 := jdk_41_method_11_code
def L38 : List (Nat × Instr × Nat) := [(0, .iload_n 0, 1), (1, .ifCond .lt 8, 3), (4, .iload_n 0, 1), (5, .iload_n 1, 1), (6, .if_icmp .lt 10, 3), (16, .iload_n 0, 1), (17, .ireturn, 1)]
theorem d38 : ∀ i : Fin 7, decode C38 (L38.get i).1 = .ok (L38.get i).2 := by decide +kernel
theorem pn_8 : plainName "jdk/internal/util/Preconditions" = true := by first | (simp [plainName, overriddenIn]; done) | decide +kernel
theorem ef_rm_pci (m : MethodId) (p0 : Int32) (p1 : Int32) (u2 : Value) (h_u2 : u2.isRef = true) : entryFrame m #[(.int p0), (.int p1), u2] 3 = mkF m 0 #[.val (.int p0), .val (.int p1), .val u2] [] := by rcases ref_cases h_u2 with rfl | ⟨_, rfl⟩ <;> first | (simp [entryFrame, mkF, argsToLocals, Value.category]; done) | rfl
def Q_rm_pci (Z : State) (p0 : Int32) (p1 : Int32) (u2 : Value) (h0 : Heap) (n0 : Nat) (v : Option Value) (h : Heap) (L : List Loc) : Prop := v = some (.int p0) ∧ Fr n0 L ∧ h = h0
set_option maxRecDepth 65536 in
set_option maxHeartbeats 40000000 in
theorem rm_pci (l : Launch) (Z : State) (av0 : Array Value) (hw : ∀ d ∈ tables_1, d.before av0 Z = true) (ws : List Jvm.Cond) (p0 : Int32) (p1 : Int32) (u2 : Value) (h0 : Heap) (n0 : Nat) (Z0 : n0 ≤ h0.size) (hc0 : ¬ (p0 < 0)) (hc1 : p0 < p1) (hr_u2 : u2.isRef = true) :
    own_MF l Z h0 yM36 (Jvm.Cond.code yM36 jdk_41_method_11_code 3 (some .int) :: ws) ({ frames := 0, cells := 0, slots := 0, locals := 0 } : Room) #[(.int p0), (.int p1), u2] (Q_rm_pci Z p0 p1 u2 h0 n0) := by
  refine own_ent (own := "jdk/internal/util/Preconditions") (plainFor_of_name pn_8) rfl ?_
  intro p e s m below meth c s₁ Bd hx hby hml hZ hh hown hnm X0 e0
  have N0 := Fr.nil n0
  have kp0 : Keep h0 h0 [] := Keep.refl _ _
  refine oS (fun _ q => castTop (ef_rm_pci m p0 p1 u2 hr_u2) q) ?_
  show OF _ _ _ _ (s₁.setTop (mkF m 0 #[vi p0, vi p1, .val u2] []))
  refine oS (fun _ q => XS.iloadN X0.here hx rfl (hb hby (d38 0)) rfl (XS.ifNo X0.here hx rfl (hb hby (d38 1)) rfl (Jvm.Free.XT.i0_lt_f hc0) q)) ?_
  show OF _ _ _ _ (s₁.setTop (mkF m 4 _ _))
  refine oS (fun _ q => XS.iloadN X0.here hx rfl (hb hby (d38 2)) rfl (XS.iloadN X0.here hx rfl (hb hby (d38 3)) rfl (XS.icmpYes X0.here hx rfl (pc0 := 6) (pc' := 16) rfl (hb hby (d38 4)) rfl (Jvm.Free.XT.ii_lt_t hc1) (by decide) (by decide) q))) ?_
  show OF _ _ _ _ (s₁.setTop (mkF m 16 _ _))
  refine oS (fun _ q => XS.iloadN X0.here hx rfl (hb hby (d38 5)) rfl q) ?_
  obtain ⟨fs, hr, hrun, hended, hW, hsame⟩ := X0.leave (v := some (.int p0)) (fun h => by rw [Bd.returns] at h; cases h)
  refine ⟨_, _, retI X0 hx Bd.returns (hb hby (d38 6)) hr, hrun, hended, _, _, rfl, ?_, ⟨_, rfl⟩, hW, hsame.mono (by decide) (by decide)⟩
  show Q_rm_pci Z p0 p1 u2 h0 n0 _ s₁.heap _
  rw [e0]
  exact ⟨rfl, N0, rfl⟩
theorem pd_27 : parseMethodDescriptor "(IILjava/util/function/BiFunction;)I" = some ⟨[.int, .int, (.object "java/util/function/BiFunction")], some .int⟩ := by decide +kernel
abbrev C37 := jdk_42_method_155_code
def L37 : List (Nat × Instr × Nat) := [(0, .iload_n 0, 1), (1, .iload_n 1, 1), (2, .getstatic 1053, 3), (5, .invokestatic 1059, 3), (8, .pop, 1), (9, .return_, 1)]
theorem d37 : ∀ i : Fin 6, decode C37 (L37.get i).1 = .ok (L37.get i).2 := by decide +kernel
theorem ef_rm_sci (m : MethodId) (p0 : Int32) (p1 : Int32) : entryFrame m #[(.int p0), (.int p1)] 2 = mkF m 0 #[.val (.int p0), .val (.int p1)] [] := by first | (simp [entryFrame, mkF, argsToLocals, Value.category]; done) | rfl
def Q_rm_sci (Z : State) (p0 : Int32) (p1 : Int32) (w_SIOOBE_FORMATTER : Value) (h0 : Heap) (n0 : Nat) (v : Option Value) (h : Heap) (L : List Loc) : Prop := v = none ∧ Fr n0 L ∧ h = h0
set_option maxRecDepth 65536 in
set_option maxHeartbeats 40000000 in
theorem rm_sci (l : Launch) (Z : State) (av0 : Array Value) (hw : ∀ d ∈ tables_1, d.before av0 Z = true) (ws : List Jvm.Cond) (p0 : Int32) (p1 : Int32) (w_SIOOBE_FORMATTER : Value) (h0 : Heap) (n0 : Nat) (Z0 : n0 ≤ h0.size) (Ol0 : Old Z n0 h0) (S_SIOOBE_FORMATTER : Sta Z Z.heap "jdk/internal/util/Preconditions" "SIOOBE_FORMATTER" "Ljava/util/function/BiFunction;" w_SIOOBE_FORMATTER) (hc0 : ¬ (p0 < 0)) (hc1 : p0 < p1) (hr_w_SIOOBE_FORMATTER : w_SIOOBE_FORMATTER.isRef = true) :
    own_MF l Z h0 yM37 (Jvm.Cond.code yM37 jdk_42_method_155_code 2 none :: ws) ({ frames := 1, cells := 0, slots := 0, locals := 14 } : Room) #[(.int p0), (.int p1)] (Q_rm_sci Z p0 p1 w_SIOOBE_FORMATTER h0 n0) := by
  refine own_ent (own := "java/lang/String") (plainFor_of_name pn_7) rfl ?_
  intro p e s m below meth c s₁ Bd hx hby hml hZ hh hown hnm X0 e0
  have N0 := Fr.nil n0
  have kp0 : Keep h0 h0 [] := Keep.refl _ _
  refine oS (fun _ q => castTop (ef_rm_sci m p0 p1) q) ?_
  show OF _ _ _ _ (s₁.setTop (mkF m 0 #[vi p0, vi p1] []))
  refine oS (fun _ q => XS.iloadN X0.here hx rfl (hb hby (d37 0)) rfl (XS.iloadN X0.here hx rfl (hb hby (d37 1)) rfl q)) ?_
  obtain ⟨T1, X1, e1, st1⟩ := getS2 X0 hx hZ hown (host := "") (Or.inl (w_ hw 219 rfl)) Via.refl e0 (S_SIOOBE_FORMATTER.ext Ol0.2) (g := (mkF m 2 #[vi p0, vi p1] [(.int p1), (.int p0)])) rfl (hb hby (d37 2))
  refine oS st1 ?_
  show OF _ _ _ _ (T1.setTop (mkF m 5 _ _))
  show OF _ _ _ _ (T1.setTop (mkF m 5 _ _))
  show OF _ _ _ _ (T1.setTop (mkF m 5 _ _))
  obtain ⟨_, _, ⟨T2, L2, k2, n2⟩, -, X2, ⟨Lc2, hQ2, l2, y2, z2⟩, st2⟩ := Jvm.LawKit.callS X1 hx (y := yM36) hown (mvT hZ (w_ hw 221 rfl)) (mvT hZ (w_ hw 222 rfl)) (mvT hZ (w_ hw 220 rfl)) (mvT hZ (w_ hw 223 rfl)) (by decide) (backOf (W := 0) (rm_pci l Z av0 hw [] p0 p1 w_SIOOBE_FORMATTER h0 n0 (Nat.le_trans Z0 kp0.1) hc0 hc1 hr_w_SIOOBE_FORMATTER) hZ (w_ hw 223 rfl) (w_ hw 220 rfl) (by decide) (by decide)) (g := (mkF m 5 #[vi p0, vi p1] [w_SIOOBE_FORMATTER, (.int p1), (.int p0)])) rfl (by rw [hml]; rfl) (argsL := [(.int p0), (.int p1), w_SIOOBE_FORMATTER]) (rest := []) (lenOf pd_27 rfl) rfl (by show 2 * 0 + _ ≤ _; exact Nat.le_of_eq rfl) (hb hby (d37 3)) (fun _ _ => ⟨rfl, e1, (by decide : 0 + 0 ≤ _), (by decide : 0 + 0 ≤ _)⟩)
  dsimp only [Pt.U, Pt.locs, Pt.cells, Pt.slots] at X2 l2 y2 z2 st2 hQ2
  subst l2 y2 z2
  obtain ⟨rfl, N2q, he2⟩ := hQ2
  have N2 := Fr.app N0 N2q
  refine oS st2 ?_
  show OF _ _ _ _ (T2.setTop (mkF m 8 _ _))
  refine oS (fun _ q => XS.pop X2.here hx rfl (hb hby (d37 4)) rfl rfl q) ?_
  obtain ⟨fs, hr, hrun, hended, hW, hsame⟩ := X2.leave (v := none) (fun _ => rfl)
  refine ⟨_, _, X2.returnOut hx Bd.returns (hb hby (d37 5)) hr, hrun, hended, _, _, rfl, ?_, ⟨_, rfl⟩, hW, hsame.mono (by decide) (by decide)⟩
  show Q_rm_sci Z p0 p1 w_SIOOBE_FORMATTER h0 n0 _ T2.heap _
  rw [he2]
  exact ⟨rfl, N2, rfl⟩
def own_ch (s0 : Nat → Int32) (p1 : Int32) : Int32 := ((own_at s0 p1) &&& (255 : Int32)).toUInt32.toUInt16.toUInt32.toInt32
abbrev C36 := jdk_43_method_2_code
def L36 : List (Nat × Instr × Nat) := [(0, .iload_n 1, 1), (1, .aload_n 0, 1), (2, .arraylength, 1), (3, .invokestatic 9, 3), (6, .aload_n 0, 1), (7, .iload_n 1, 1), (8, .baload, 1), (9, .sipush 255, 3), (12, .iand, 1), (13, .i2c, 1), (14, .ireturn, 1)]
theorem d36 : ∀ i : Fin 11, decode C36 (L36.get i).1 = .ok (L36.get i).2 := by decide +kernel
theorem pn_9 : plainName "java/lang/StringLatin1" = true := by first | (simp [plainName, overriddenIn]; done) | decide +kernel
theorem ef_rm_lca (m : MethodId) (a0 : Addr) (p1 : Int32) : entryFrame m #[(.ref a0), (.int p1)] 2 = mkF m 0 #[.val (.ref a0), .val (.int p1)] [] := by first | (simp [entryFrame, mkF, argsToLocals, Value.category]; done) | rfl
def Q_rm_lca (Z : State) (a0 : Addr) (p1 : Int32) (k_a0 : ClassId) (z0 : Int32) (s0 : Nat → Int32) (w_SIOOBE_FORMATTER : Value) (h0 : Heap) (n0 : Nat) (v : Option Value) (h : Heap) (L : List Loc) : Prop := v = some (.int (own_ch s0 p1)) ∧ Fr n0 L ∧ h = h0
set_option maxRecDepth 65536 in
set_option maxHeartbeats 40000000 in
theorem rm_lca (l : Launch) (Z : State) (av0 : Array Value) (hw : ∀ d ∈ tables_1, d.before av0 Z = true) (ws : List Jvm.Cond) (a0 : Addr) (p1 : Int32) (k_a0 : ClassId) (z0 : Int32) (s0 : Nat → Int32) (w_SIOOBE_FORMATTER : Value) (h0 : Heap) (n0 : Nat) (Z0 : n0 ≤ h0.size) (Ol0 : Old Z n0 h0) (V_a0 : Arv Z h0 a0 k_a0 .byte z0 (own_ml z0 s0) (.int 0)) (hix : ¬ (p1 < 0) ∧ p1 < z0) (S_SIOOBE_FORMATTER : Sta Z Z.heap "jdk/internal/util/Preconditions" "SIOOBE_FORMATTER" "Ljava/util/function/BiFunction;" w_SIOOBE_FORMATTER) (hr_w_SIOOBE_FORMATTER : w_SIOOBE_FORMATTER.isRef = true) :
    own_MF l Z h0 yM38 (Jvm.Cond.code yM38 jdk_43_method_2_code 2 (some .char) :: ws) ({ frames := 2, cells := 0, slots := 0, locals := 27 } : Room) #[(.ref a0), (.int p1)] (Q_rm_lca Z a0 p1 k_a0 z0 s0 w_SIOOBE_FORMATTER h0 n0) := by
  refine own_ent (own := "java/lang/StringLatin1") (plainFor_of_name pn_9) rfl ?_
  intro p e s m below meth c s₁ Bd hx hby hml hZ hh hown hnm X0 e0
  have N0 := Fr.nil n0
  have kp0 : Keep h0 h0 [] := Keep.refl _ _
  refine oS (fun _ q => castTop (ef_rm_lca m a0 p1) q) ?_
  show OF _ _ _ _ (s₁.setTop (mkF m 0 #[vr a0, vi p1] []))
  refine oS (fun _ q => XS.iloadN X0.here hx rfl (hb hby (d36 0)) rfl (XS.aloadN X0.here hx rfl (hb hby (d36 1)) rfl rfl q)) ?_
  have Vo1 : Arv Z h0 a0 k_a0 .byte z0 (own_ml z0 s0) (.int 0) := V_a0
  obtain ⟨cl1, Ar1, qa1, Sa1, Na1, Ha1, Ga1⟩ := id Vo1
  refine oS (X0.arraylength hx (by rw [e0]; exact Ar1.1) (State.isArrayOf_alike (hZ).alike Ar1.2.1) (g := (mkF m 2 #[vr a0, vi p1] [(.ref a0), (.int p1)])) rfl rfl (hb hby (d36 2))) ?_
  rw [len_of Sa1 Na1]
  show OF _ _ _ _ (s₁.setTop (mkF m 3 _ _))
  obtain ⟨_, _, ⟨T2, L2, k2, n2⟩, -, X2, ⟨Lc2, hQ2, l2, y2, z2⟩, st2⟩ := Jvm.LawKit.callS X0 hx (y := yM37) hown (mvT hZ (w_ hw 216 rfl)) (mvT hZ (w_ hw 217 rfl)) (mvT hZ (w_ hw 51 rfl)) (mvT hZ (w_ hw 218 rfl)) (by decide) (backOf (W := 0) (rm_sci l Z av0 hw [] p1 z0 w_SIOOBE_FORMATTER h0 n0 (Nat.le_trans Z0 kp0.1) Ol0 S_SIOOBE_FORMATTER hix.1 hix.2 hr_w_SIOOBE_FORMATTER) hZ (w_ hw 218 rfl) (w_ hw 51 rfl) (by decide) (by decide)) (g := (mkF m 3 #[vr a0, vi p1] [(.int z0), (.int p1)])) rfl (by rw [hml]; rfl) (argsL := [(.int p1), (.int z0)]) (rest := []) (lenOf pd_17 rfl) rfl (by show 2 * 0 + _ ≤ _; exact Nat.le_of_eq rfl) (hb hby (d36 3)) (fun _ _ => ⟨rfl, e0, (by decide : 0 + 0 ≤ _), (by decide : 0 + 0 ≤ _)⟩)
  dsimp only [Pt.U, Pt.locs, Pt.cells, Pt.slots] at X2 l2 y2 z2 st2 hQ2
  subst l2 y2 z2
  obtain ⟨rfl, N2q, he2⟩ := hQ2
  have N2 := Fr.app N0 N2q
  refine oS st2 ?_
  show OF _ _ _ _ (T2.setTop (mkF m 6 _ _))
  refine oS (fun _ q => XS.aloadN X2.here hx rfl (hb hby (d36 4)) rfl rfl (XS.iloadN X2.here hx rfl (hb hby (d36 5)) rfl q)) ?_
  have Vo3 : Arv Z h0 a0 k_a0 .byte z0 (own_ml z0 s0) (.int 0) := V_a0
  obtain ⟨cl3, Ar3, qa3, Sa3, Na3, Ha3, Ga3⟩ := id Vo3
  have hib3 : ¬ p1 < 0 ∧ p1 < z0 := hix
  have hin3 := inb_of Sa3 hib3
  refine oS (X2.baloadBytes hx (j := p1) (v := (.int (own_at s0 p1))) (by rw [he2]; exact Ar3.1) (State.isArrayOf_alike (hZ).alike Ar3.2.1) Ar3.2.2 hin3 (Ha3.at hin3 (own_mlat _ hib3)) (g := (mkF m 8 #[vr a0, vi p1] [(.int p1), (.ref a0)])) rfl rfl (hb hby (d36 6))) ?_
  show OF _ _ _ _ (T2.setTop (mkF m 9 _ _))
  refine oS (fun _ q => XS.sipush X2.here hx rfl (hb hby (d36 7)) (XS.iand X2.here hx rfl (hb hby (d36 8)) rfl (XS.i2c X2.here hx rfl (hb hby (d36 9)) rfl q))) ?_
  obtain ⟨fs, hr, hrun, hended, hW, hsame⟩ := X2.leave (v := some (.int (nar .char (((own_at s0 p1) &&& (255 : Int32)).toUInt32.toUInt16.toUInt32.toInt32)))) (fun h => by rw [Bd.returns] at h; cases h)
  refine ⟨_, _, retN X2 hx (t := .char) Bd.returns (by simp) (hb hby (d36 10)) hr, hrun, hended, _, _, rfl, ?_, ⟨_, rfl⟩, hW, hsame.mono (by decide) (by decide)⟩
  show Q_rm_lca Z a0 p1 k_a0 z0 s0 w_SIOOBE_FORMATTER h0 n0 _ T2.heap _
  rw [he2]
  refine ⟨?_, N2, rfl⟩
  exact congrArg (fun q => some (Value.int q)) own_nari2c
theorem pd_28 : parseMethodDescriptor "([BI)C" = some ⟨[(.array .byte), .int], some .char⟩ := by decide +kernel
abbrev C34 := jdk_42_method_56_code
def L34 : List (Nat × Instr × Nat) := [(0, .aload_n 0, 1), (1, .invokevirtual 492, 3), (4, .ifCond .eq 12, 3), (7, .aload_n 0, 1), (8, .getfield 9, 3), (11, .iload_n 1, 1), (12, .invokestatic 495, 3), (15, .ireturn, 1)]
theorem d34 : ∀ i : Fin 8, decode C34 (L34.get i).1 = .ok (L34.get i).2 := by decide +kernel
theorem ef_rm_ca (m : MethodId) (a0 : Addr) (p1 : Int32) : entryFrame m #[(.ref a0), (.int p1)] 2 = mkF m 0 #[.val (.ref a0), .val (.int p1)] [] := by first | (simp [entryFrame, mkF, argsToLocals, Value.category]; done) | rfl
def Q_rm_ca (Z : State) (a0 : Addr) (p1 : Int32) (b0 : Addr) (k_b0 : ClassId) (z0 : Int32) (s0 : Nat → Int32) (w_COMPACT_STRINGS : Int32) (w_SIOOBE_FORMATTER : Value) (h0 : Heap) (n0 : Nat) (v : Option Value) (h : Heap) (L : List Loc) : Prop := v = some (.int (own_ch s0 p1)) ∧ Fr n0 L ∧ h = h0
set_option maxRecDepth 65536 in
set_option maxHeartbeats 40000000 in
theorem rm_ca (l : Launch) (Z : State) (av0 : Array Value) (hw : ∀ d ∈ tables_1, d.before av0 Z = true) (ws : List Jvm.Cond) (a0 : Addr) (p1 : Int32) (b0 : Addr) (k_b0 : ClassId) (z0 : Int32) (s0 : Nat → Int32) (w_COMPACT_STRINGS : Int32) (w_SIOOBE_FORMATTER : Value) (h0 : Heap) (n0 : Nat) (Z0 : n0 ≤ h0.size) (Ol0 : Old Z n0 h0) (X_a0 : Exa Z h0 a0 "java/lang/String") (F_coder_a0 : Fld Z h0 a0 "java/lang/String" "coder" "B" (.int 0)) (F_value_a0 : Fld Z h0 a0 "java/lang/String" "value" "[B" (.ref b0)) (V_b0 : Arv Z h0 b0 k_b0 .byte z0 (own_ml z0 s0) (.int 0)) (hix : ¬ (p1 < 0) ∧ p1 < z0) (hcs : ¬ (w_COMPACT_STRINGS = 0)) (S_COMPACT_STRINGS : Sta Z Z.heap "java/lang/String" "COMPACT_STRINGS" "Z" (.int w_COMPACT_STRINGS)) (S_SIOOBE_FORMATTER : Sta Z Z.heap "jdk/internal/util/Preconditions" "SIOOBE_FORMATTER" "Ljava/util/function/BiFunction;" w_SIOOBE_FORMATTER) (hr_w_SIOOBE_FORMATTER : w_SIOOBE_FORMATTER.isRef = true) :
    own_MF l Z h0 yM39 (Jvm.Cond.code yM39 jdk_42_method_56_code 2 (some .char) :: ws) ({ frames := 3, cells := 0, slots := 0, locals := 40 } : Room) #[(.ref a0), (.int p1)] (Q_rm_ca Z a0 p1 b0 k_b0 z0 s0 w_COMPACT_STRINGS w_SIOOBE_FORMATTER h0 n0) := by
  refine own_ent (own := "java/lang/String") (plainFor_of_name pn_7) rfl ?_
  intro p e s m below meth c s₁ Bd hx hby hml hZ hh hown hnm X0 e0
  have N0 := Fr.nil n0
  have kp0 : Keep h0 h0 [] := Keep.refl _ _
  refine oS (fun _ q => castTop (ef_rm_ca m a0 p1) q) ?_
  show OF _ _ _ _ (s₁.setTop (mkF m 0 #[vr a0, vi p1] []))
  refine oS (fun _ q => XS.aloadN X0.here hx rfl (hb hby (d34 0)) rfl rfl q) ?_
  obtain ⟨cq1, kq1, q1a, q1b, q1c⟩ := isOf hZ e0 X_a0
  obtain ⟨_, _, ⟨T1, L1, k1, n1⟩, -, X1, ⟨Lc1, hQ1, l1, y1, z1⟩, st1⟩ := X0.virtualBack hx (y := yM35) (z := yM35) hown (mvT hZ (w_ hw 207 rfl)) (mvT hZ (w_ hw 208 rfl)) (notFace_of_selects (args := #[]) (mvT hZ (w_ hw 210 rfl))) (mvT hZ (w_ hw 210 rfl)) (mvT hZ (w_ hw 209 rfl)) (by decide) (backOf (W := 0) (rm_il l Z av0 hw [] a0 w_COMPACT_STRINGS h0 n0 (Nat.le_trans Z0 kp0.1) Ol0 F_coder_a0 S_COMPACT_STRINGS hcs) hZ (w_ hw 211 rfl) (w_ hw 51 rfl) (by decide) (by decide)) q1a q1c (g := (mkF m 1 #[vr a0, vi p1] [(.ref a0)])) rfl (by rw [hml]; rfl) (Steps.refl _) (argsL := []) (rest := []) (lenOf pd_6 rfl) rfl (by show 2 * 0 + _ ≤ _; exact Nat.le_of_eq rfl) (hb hby (d34 1)) (fun _ _ => ⟨rfl, e0, (by decide : 0 + 0 ≤ _), (by decide : 0 + 0 ≤ _)⟩)
  dsimp only [Pt.U, Pt.locs, Pt.cells, Pt.slots] at X1 l1 y1 z1 st1 hQ1
  subst l1 y1 z1
  obtain ⟨rfl, N1q, he1⟩ := hQ1
  have N1 := Fr.app N0 N1q
  refine oT st1 ?_
  show OF _ _ _ _ (T1.setTop (mkF m 4 _ _))
  refine oS (fun _ q => XS.ifNo X1.here hx rfl (hb hby (d34 2)) rfl (Jvm.Free.XT.i0_eq_f (by decide : ¬ ((1 : Int32) = (0 : Int32)))) q) ?_
  show OF _ _ _ _ (T1.setTop (mkF m 7 _ _))
  refine oS (fun _ q => XS.aloadN X1.here hx rfl (hb hby (d34 3)) rfl rfl q) ?_
  obtain ⟨T2, X2, e2, st2⟩ := getF X1 hx hZ hown (host := "") (Or.inl (w_ hw 110 rfl)) Via.refl he1 F_value_a0 (g := (mkF m 8 #[vr a0, vi p1] [(.ref a0)])) rfl rfl (hb hby (d34 4))
  refine oS st2 ?_
  show OF _ _ _ _ (T2.setTop (mkF m 11 _ _))
  refine oS (fun _ q => XS.iloadN X2.here hx rfl (hb hby (d34 5)) rfl q) ?_
  obtain ⟨_, _, ⟨T3, L3, k3, n3⟩, -, X3, ⟨Lc3, hQ3, l3, y3, z3⟩, st3⟩ := Jvm.LawKit.callS X2 hx (y := yM38) hown (mvT hZ (w_ hw 212 rfl)) (mvT hZ (w_ hw 213 rfl)) (mvT hZ (w_ hw 214 rfl)) (mvT hZ (w_ hw 215 rfl)) (by decide) (backOf (W := 0) (rm_lca l Z av0 hw [] b0 p1 k_b0 z0 s0 w_SIOOBE_FORMATTER h0 n0 (Nat.le_trans Z0 kp0.1) Ol0 V_b0 hix S_SIOOBE_FORMATTER hr_w_SIOOBE_FORMATTER) hZ (w_ hw 215 rfl) (w_ hw 214 rfl) (by decide) (by decide)) (g := (mkF m 12 #[vr a0, vi p1] [(.int p1), (.ref b0)])) rfl (by rw [hml]; rfl) (argsL := [(.ref b0), (.int p1)]) (rest := []) (lenOf pd_28 rfl) rfl (by show 2 * 0 + _ ≤ _; exact Nat.le_of_eq rfl) (hb hby (d34 6)) (fun _ _ => ⟨rfl, e2, (by decide : 0 + 0 ≤ _), (by decide : 0 + 0 ≤ _)⟩)
  dsimp only [Pt.U, Pt.locs, Pt.cells, Pt.slots] at X3 l3 y3 z3 st3 hQ3
  subst l3 y3 z3
  obtain ⟨rfl, N3q, he3⟩ := hQ3
  have N3 := Fr.app N1 N3q
  refine oS st3 ?_
  show OF _ _ _ _ (T3.setTop (mkF m 15 _ _))
  obtain ⟨fs, hr, hrun, hended, hW, hsame⟩ := X3.leave (v := some (.int (nar .char (own_ch s0 p1)))) (fun h => by rw [Bd.returns] at h; cases h)
  refine ⟨_, _, retN X3 hx (t := .char) Bd.returns (by simp) (hb hby (d34 7)) hr, hrun, hended, _, _, rfl, ?_, ⟨_, rfl⟩, hW, hsame.mono (by decide) (by decide)⟩
  show Q_rm_ca Z a0 p1 b0 k_b0 z0 s0 w_COMPACT_STRINGS w_SIOOBE_FORMATTER h0 n0 _ T3.heap _
  rw [he3]
  refine ⟨?_, N3, rfl⟩
  exact congrArg (fun q => some (Value.int q)) own_nari2c
def own_pv : List Value := [(.long 1), (.long 10), (.long 100), (.long 1000), (.long 10000), (.long 100000), (.long 1000000), (.long 10000000), (.long 100000000), (.long 1000000000), (.long 10000000000), (.long 100000000000), (.long 1000000000000), (.long 10000000000000), (.long 100000000000000), (.long 1000000000000000), (.long 10000000000000000), (.long 100000000000000000), (.long 1000000000000000000)]
def own_g0 (q : Int64) : Int32 := 1
def own_g1 (q : Int64) : Int32 := own_g0 q + (if (q / 10) = 0 then (0 : Int32) else (1 : Int32))
def own_g2 (q : Int64) : Int32 := own_g1 q + (if (q / 100) = 0 then (0 : Int32) else (1 : Int32))
def own_g3 (q : Int64) : Int32 := own_g2 q + (if (q / 1000) = 0 then (0 : Int32) else (1 : Int32))
def own_g4 (q : Int64) : Int32 := own_g3 q + (if (q / 10000) = 0 then (0 : Int32) else (1 : Int32))
def own_g5 (q : Int64) : Int32 := own_g4 q + (if (q / 100000) = 0 then (0 : Int32) else (1 : Int32))
def own_g6 (q : Int64) : Int32 := own_g5 q + (if (q / 1000000) = 0 then (0 : Int32) else (1 : Int32))
def own_g7 (q : Int64) : Int32 := own_g6 q + (if (q / 10000000) = 0 then (0 : Int32) else (1 : Int32))
def own_g8 (q : Int64) : Int32 := own_g7 q + (if (q / 100000000) = 0 then (0 : Int32) else (1 : Int32))
def own_g9 (q : Int64) : Int32 := own_g8 q + (if (q / 1000000000) = 0 then (0 : Int32) else (1 : Int32))
def own_g10 (q : Int64) : Int32 := own_g9 q + (if (q / 10000000000) = 0 then (0 : Int32) else (1 : Int32))
def own_g11 (q : Int64) : Int32 := own_g10 q + (if (q / 100000000000) = 0 then (0 : Int32) else (1 : Int32))
def own_g12 (q : Int64) : Int32 := own_g11 q + (if (q / 1000000000000) = 0 then (0 : Int32) else (1 : Int32))
def own_g13 (q : Int64) : Int32 := own_g12 q + (if (q / 10000000000000) = 0 then (0 : Int32) else (1 : Int32))
def own_g14 (q : Int64) : Int32 := own_g13 q + (if (q / 100000000000000) = 0 then (0 : Int32) else (1 : Int32))
def own_g15 (q : Int64) : Int32 := own_g14 q + (if (q / 1000000000000000) = 0 then (0 : Int32) else (1 : Int32))
def own_g16 (q : Int64) : Int32 := own_g15 q + (if (q / 10000000000000000) = 0 then (0 : Int32) else (1 : Int32))
def own_g17 (q : Int64) : Int32 := own_g16 q + (if (q / 100000000000000000) = 0 then (0 : Int32) else (1 : Int32))
def own_g18 (q : Int64) : Int32 := own_g17 q + (if (q / 1000000000000000000) = 0 then (0 : Int32) else (1 : Int32))
def own_dgs (q : Int64) : Int32 := own_g18 q
abbrev C33 := method_3_code
def L33 : List (Nat × Instr × Nat) := [(0, .iconst 1, 1), (1, .istore_n 3, 1), (2, .iload_n 3, 1), (3, .lload_n 0, 1), (4, .aload_n 2, 1), (5, .iconst 1, 1), (6, .laload, 1), (7, .ldiv, 1), (8, .lconst 0, 1), (9, .lcmp, 1), (10, .ifCond .eq 7, 3), (13, .iconst 1, 1), (14, .goto 4, 3), (17, .iconst 0, 1), (18, .iadd, 1), (19, .istore_n 3, 1), (20, .iload_n 3, 1), (21, .lload_n 0, 1), (22, .aload_n 2, 1), (23, .iconst 2, 1), (24, .laload, 1), (25, .ldiv, 1), (26, .lconst 0, 1), (27, .lcmp, 1), (28, .ifCond .eq 7, 3), (31, .iconst 1, 1), (32, .goto 4, 3), (35, .iconst 0, 1), (36, .iadd, 1), (37, .istore_n 3, 1), (38, .iload_n 3, 1), (39, .lload_n 0, 1), (40, .aload_n 2, 1), (41, .iconst 3, 1), (42, .laload, 1), (43, .ldiv, 1), (44, .lconst 0, 1), (45, .lcmp, 1), (46, .ifCond .eq 7, 3), (49, .iconst 1, 1), (50, .goto 4, 3), (53, .iconst 0, 1), (54, .iadd, 1), (55, .istore_n 3, 1), (56, .iload_n 3, 1), (57, .lload_n 0, 1), (58, .aload_n 2, 1), (59, .iconst 4, 1), (60, .laload, 1), (61, .ldiv, 1), (62, .lconst 0, 1), (63, .lcmp, 1), (64, .ifCond .eq 7, 3), (67, .iconst 1, 1), (68, .goto 4, 3), (71, .iconst 0, 1), (72, .iadd, 1), (73, .istore_n 3, 1), (74, .iload_n 3, 1), (75, .lload_n 0, 1), (76, .aload_n 2, 1), (77, .iconst 5, 1), (78, .laload, 1), (79, .ldiv, 1), (80, .lconst 0, 1), (81, .lcmp, 1), (82, .ifCond .eq 7, 3), (85, .iconst 1, 1), (86, .goto 4, 3), (89, .iconst 0, 1), (90, .iadd, 1), (91, .istore_n 3, 1), (92, .iload_n 3, 1), (93, .lload_n 0, 1), (94, .aload_n 2, 1), (95, .bipush 6, 2), (97, .laload, 1), (98, .ldiv, 1), (99, .lconst 0, 1), (100, .lcmp, 1), (101, .ifCond .eq 7, 3), (104, .iconst 1, 1), (105, .goto 4, 3), (108, .iconst 0, 1), (109, .iadd, 1), (110, .istore_n 3, 1), (111, .iload_n 3, 1), (112, .lload_n 0, 1), (113, .aload_n 2, 1), (114, .bipush 7, 2), (116, .laload, 1), (117, .ldiv, 1), (118, .lconst 0, 1), (119, .lcmp, 1), (120, .ifCond .eq 7, 3), (123, .iconst 1, 1), (124, .goto 4, 3), (127, .iconst 0, 1), (128, .iadd, 1), (129, .istore_n 3, 1), (130, .iload_n 3, 1), (131, .lload_n 0, 1), (132, .aload_n 2, 1), (133, .bipush 8, 2), (135, .laload, 1), (136, .ldiv, 1), (137, .lconst 0, 1), (138, .lcmp, 1), (139, .ifCond .eq 7, 3), (142, .iconst 1, 1), (143, .goto 4, 3), (146, .iconst 0, 1), (147, .iadd, 1), (148, .istore_n 3, 1), (149, .iload_n 3, 1), (150, .lload_n 0, 1), (151, .aload_n 2, 1), (152, .bipush 9, 2), (154, .laload, 1), (155, .ldiv, 1), (156, .lconst 0, 1), (157, .lcmp, 1), (158, .ifCond .eq 7, 3), (161, .iconst 1, 1), (162, .goto 4, 3), (165, .iconst 0, 1), (166, .iadd, 1), (167, .istore_n 3, 1), (168, .iload_n 3, 1), (169, .lload_n 0, 1), (170, .aload_n 2, 1), (171, .bipush 10, 2), (173, .laload, 1), (174, .ldiv, 1), (175, .lconst 0, 1), (176, .lcmp, 1), (177, .ifCond .eq 7, 3), (180, .iconst 1, 1), (181, .goto 4, 3), (184, .iconst 0, 1), (185, .iadd, 1), (186, .istore_n 3, 1), (187, .iload_n 3, 1), (188, .lload_n 0, 1), (189, .aload_n 2, 1), (190, .bipush 11, 2), (192, .laload, 1), (193, .ldiv, 1), (194, .lconst 0, 1), (195, .lcmp, 1), (196, .ifCond .eq 7, 3), (199, .iconst 1, 1), (200, .goto 4, 3), (203, .iconst 0, 1), (204, .iadd, 1), (205, .istore_n 3, 1), (206, .iload_n 3, 1), (207, .lload_n 0, 1), (208, .aload_n 2, 1), (209, .bipush 12, 2), (211, .laload, 1), (212, .ldiv, 1), (213, .lconst 0, 1), (214, .lcmp, 1), (215, .ifCond .eq 7, 3), (218, .iconst 1, 1), (219, .goto 4, 3), (222, .iconst 0, 1), (223, .iadd, 1), (224, .istore_n 3, 1), (225, .iload_n 3, 1), (226, .lload_n 0, 1), (227, .aload_n 2, 1), (228, .bipush 13, 2), (230, .laload, 1), (231, .ldiv, 1), (232, .lconst 0, 1), (233, .lcmp, 1), (234, .ifCond .eq 7, 3), (237, .iconst 1, 1), (238, .goto 4, 3), (241, .iconst 0, 1), (242, .iadd, 1), (243, .istore_n 3, 1), (244, .iload_n 3, 1), (245, .lload_n 0, 1), (246, .aload_n 2, 1), (247, .bipush 14, 2), (249, .laload, 1), (250, .ldiv, 1), (251, .lconst 0, 1), (252, .lcmp, 1), (253, .ifCond .eq 7, 3), (256, .iconst 1, 1), (257, .goto 4, 3), (260, .iconst 0, 1), (261, .iadd, 1), (262, .istore_n 3, 1), (263, .iload_n 3, 1), (264, .lload_n 0, 1), (265, .aload_n 2, 1), (266, .bipush 15, 2), (268, .laload, 1), (269, .ldiv, 1), (270, .lconst 0, 1), (271, .lcmp, 1), (272, .ifCond .eq 7, 3), (275, .iconst 1, 1), (276, .goto 4, 3), (279, .iconst 0, 1), (280, .iadd, 1), (281, .istore_n 3, 1), (282, .iload_n 3, 1), (283, .lload_n 0, 1), (284, .aload_n 2, 1), (285, .bipush 16, 2), (287, .laload, 1), (288, .ldiv, 1), (289, .lconst 0, 1), (290, .lcmp, 1), (291, .ifCond .eq 7, 3), (294, .iconst 1, 1), (295, .goto 4, 3), (298, .iconst 0, 1), (299, .iadd, 1), (300, .istore_n 3, 1), (301, .iload_n 3, 1), (302, .lload_n 0, 1), (303, .aload_n 2, 1), (304, .bipush 17, 2), (306, .laload, 1), (307, .ldiv, 1), (308, .lconst 0, 1), (309, .lcmp, 1), (310, .ifCond .eq 7, 3), (313, .iconst 1, 1), (314, .goto 4, 3), (317, .iconst 0, 1), (318, .iadd, 1), (319, .istore_n 3, 1), (320, .iload_n 3, 1), (321, .lload_n 0, 1), (322, .aload_n 2, 1), (323, .bipush 18, 2), (325, .laload, 1), (326, .ldiv, 1), (327, .lconst 0, 1), (328, .lcmp, 1), (329, .ifCond .eq 7, 3), (332, .iconst 1, 1), (333, .goto 4, 3), (336, .iconst 0, 1), (337, .iadd, 1), (338, .istore_n 3, 1), (339, .iload_n 3, 1), (340, .ireturn, 1)]
set_option maxRecDepth 65536 in
theorem d33 : ∀ i : Fin 256, decode C33 (L33.get i).1 = .ok (L33.get i).2 := by decide +kernel
theorem pn_10 : plainName "com/example/kwhat/kwhat/ProRataToStringPinLaw" = true := by first | (simp [plainName, overriddenIn]; done) | decide +kernel
theorem ef_rm_dgs (m : MethodId) (q0 : Int64) (a1 : Addr) : entryFrame m #[(.long q0), (.ref a1)] 4 = mkF m 0 #[.val (.long q0), .second, .val (.ref a1), .unset] [] := by first | (simp [entryFrame, mkF, argsToLocals, Value.category]; done) | rfl
def Q_rm_dgs (Z : State) (q0 : Int64) (a1 : Addr) (k_a1 : ClassId) (h0 : Heap) (n0 : Nat) (v : Option Value) (h : Heap) (L : List Loc) : Prop := v = some (.int (own_dgs q0)) ∧ Fr n0 L ∧ h = h0
set_option maxRecDepth 65536 in
set_option maxHeartbeats 40000000 in
theorem rm_dgs (l : Launch) (Z : State) (av0 : Array Value) (hw : ∀ d ∈ tables_1, d.before av0 Z = true) (ws : List Jvm.Cond) (q0 : Int64) (a1 : Addr) (k_a1 : ClassId) (h0 : Heap) (n0 : Nat) (Z0 : n0 ≤ h0.size) (V_a1 : Arv Z h0 a1 k_a1 .long (19 : Int32) own_pv (.long 0)) :
    own_MF l Z h0 yM40 (Jvm.Cond.code yM40 method_3_code 4 (some .int) :: ws) ({ frames := 0, cells := 0, slots := 0, locals := 0 } : Room) #[(.long q0), (.ref a1)] (Q_rm_dgs Z q0 a1 k_a1 h0 n0) := by
  refine own_ent (own := "com/example/kwhat/kwhat/ProRataToStringPinLaw") (plainFor_of_name pn_10) rfl ?_
  intro p e s m below meth c s₁ Bd hx hby hml hZ hh hown hnm X0 e0
  have N0 := Fr.nil n0
  have kp0 : Keep h0 h0 [] := Keep.refl _ _
  obtain ⟨GG, hGG⟩ : ∃ G : Outcome → State → Prop, G = (fun o U' => ∃ v L, o = .returned v ∧ Q_rm_dgs Z q0 a1 k_a1 h0 n0 v U'.heap L ∧ FrameEnd s o U' L ({ frames := 0, cells := 0, slots := 0, locals := 0 } : Room).cells ({ frames := 0, cells := 0, slots := 0, locals := 0 } : Room).slots) := ⟨_, rfl⟩
  change OF p.tables e below (fun o U' => ∃ v L, o = .returned v ∧ Q_rm_dgs Z q0 a1 k_a1 h0 n0 v U'.heap L ∧ FrameEnd s o U' L ({ frames := 0, cells := 0, slots := 0, locals := 0 } : Room).cells ({ frames := 0, cells := 0, slots := 0, locals := 0 } : Room).slots) _
  rw [← hGG]
  refine oS (fun _ q => castTop (ef_rm_dgs m q0 a1) q) ?_
  show OF _ _ _ _ (s₁.setTop (mkF m 0 #[.val (.long q0), .second, vr a1, .unset] []))
  refine oS (fun _ q => XS.iconst X0.here hx rfl (hb hby (d33 0)) (XS.istoreN X0.here hx rfl (hb hby (d33 1)) rfl (l' := #[.val (.long q0), .second, vr a1, vi 1]) rfl (XS.iloadN X0.here hx rfl (hb hby (d33 2)) rfl q))) ?_
  show OF _ _ _ _ (s₁.setTop (mkF m 3 #[.val (.long q0), .second, vr a1, vi (own_g0 q0)] [(.int (own_g0 q0))]))
  refine oS (fun _ q => XS.lloadN X0.here hx rfl (hb hby (d33 3)) rfl (XS.aloadN X0.here hx rfl (hb hby (d33 4)) rfl rfl (XS.iconst X0.here hx rfl (hb hby (d33 5)) q))) ?_
  have Vo1 : Arv Z h0 a1 k_a1 .long (19 : Int32) own_pv (.long 0) := V_a1
  obtain ⟨cl1, Ar1, qa1, Sa1, Na1, Ha1, Ga1⟩ := id Vo1
  have hin1 : ¬ ((1 : Int32) < 0 ∨ cl1.slots.size ≤ ((1 : Int32)).toNatClampNeg) := inb_of Sa1 ⟨by decide, by decide⟩
  refine oS (X0.laload hx (j := (1 : Int32)) (v := (.long 10)) (by rw [e0]; exact Ar1.1) (State.isArrayOf_alike (hZ).alike Ar1.2.1) Ar1.2.2 hin1 (Ha1.at hin1 rfl) (g := (mkF m 6 #[.val (.long q0), .second, vr a1, vi (own_g0 q0)] [(.int 1), (.ref a1), (.long q0), (.int (own_g0 q0))])) rfl rfl (hb hby (d33 6))) ?_
  show OF _ _ _ _ (s₁.setTop (mkF m 7 _ _))
  refine oS (fun _ q => XS.ldiv X0.here hx rfl (hb hby (d33 7)) rfl (by decide) (XS.lconst X0.here hx rfl (hb hby (d33 8)) (XS.lcmp X0.here hx rfl (hb hby (d33 9)) rfl q))) ?_
  suffices H2 : ∀ (T : State) (lc : List Loc), Stand p l e ({ frames := 0, cells := 0, slots := 0, locals := 0 } : Room) s m #[(.long q0), (.ref a1)] below meth c T lc 0 0 → Fr n0 lc → T.heap = h0 → OF p.tables e below GG (T.setTop (mkF m 18 #[.val (.long q0), .second, vr a1, vi (own_g0 q0)] [(.int (if (q0 / 10) = 0 then (0 : Int32) else (1 : Int32))), (.int (own_g0 q0))])) by
   by_cases hc2 : (q0 / 10) = 0
   ·
    refine oS (fun _ q => XS.ifYes X0.here hx rfl (pc0 := 10) (pc' := 17) rfl (hb hby (d33 10)) rfl (Jvm.Free.XT.ll_eq_t hc2) (by decide) (by decide) q) ?_
    show OF _ _ _ _ (s₁.setTop (mkF m 17 _ _))
    refine oS (fun _ q => XS.iconst X0.here hx rfl (hb hby (d33 13)) q) ?_
    show OF _ _ _ _ (s₁.setTop (mkF m 18 #[.val (.long q0), .second, vr a1, vi (own_g0 q0)] [(.int 0), (.int (own_g0 q0))]))
    have z := H2 _ _ X0 N0 e0
    rw [show ((if (q0 / 10) = 0 then (0 : Int32) else (1 : Int32)) : Int32) = (0 : Int32) from if_pos hc2] at z
    exact z
   ·
    refine oS (fun _ q => XS.ifNo X0.here hx rfl (hb hby (d33 10)) rfl (Jvm.Free.XT.ll_eq_f hc2) q) ?_
    show OF _ _ _ _ (s₁.setTop (mkF m 13 _ _))
    refine oS (fun _ q => XS.iconst X0.here hx rfl (hb hby (d33 11)) (XS.goto X0.here hx rfl (pc0 := 14) (pc' := 18) rfl (hb hby (d33 12)) (by decide) (by decide) q)) ?_
    show OF _ _ _ _ (s₁.setTop (mkF m 18 #[.val (.long q0), .second, vr a1, vi (own_g0 q0)] [(.int 1), (.int (own_g0 q0))]))
    have z := H2 _ _ X0 N0 e0
    rw [show ((if (q0 / 10) = 0 then (0 : Int32) else (1 : Int32)) : Int32) = (1 : Int32) from if_neg hc2] at z
    exact z
  intro T2 lc2 X2 N2 e2
  show OF _ _ _ _ (T2.setTop (mkF m 18 #[.val (.long q0), .second, vr a1, vi (own_g0 q0)] [(.int (if (q0 / 10) = 0 then (0 : Int32) else (1 : Int32))), (.int (own_g0 q0))]))
  refine oS (fun _ q => XS.iadd X2.here hx rfl (hb hby (d33 14)) rfl (XS.istoreN X2.here hx rfl (hb hby (d33 15)) rfl (l' := #[.val (.long q0), .second, vr a1, vi ((own_g0 q0) + (if (q0 / 10) = 0 then (0 : Int32) else (1 : Int32)))]) rfl (XS.iloadN X2.here hx rfl (hb hby (d33 16)) rfl q))) ?_
  show OF _ _ _ _ (T2.setTop (mkF m 21 #[.val (.long q0), .second, vr a1, vi (own_g1 q0)] [(.int (own_g1 q0))]))
  refine oS (fun _ q => XS.lloadN X2.here hx rfl (hb hby (d33 17)) rfl (XS.aloadN X2.here hx rfl (hb hby (d33 18)) rfl rfl (XS.iconst X2.here hx rfl (hb hby (d33 19)) q))) ?_
  have Vo3 : Arv Z h0 a1 k_a1 .long (19 : Int32) own_pv (.long 0) := V_a1
  obtain ⟨cl3, Ar3, qa3, Sa3, Na3, Ha3, Ga3⟩ := id Vo3
  have hin3 : ¬ ((2 : Int32) < 0 ∨ cl3.slots.size ≤ ((2 : Int32)).toNatClampNeg) := inb_of Sa3 ⟨by decide, by decide⟩
  refine oS (X2.laload hx (j := (2 : Int32)) (v := (.long 100)) (by rw [e2]; exact Ar3.1) (State.isArrayOf_alike (hZ).alike Ar3.2.1) Ar3.2.2 hin3 (Ha3.at hin3 rfl) (g := (mkF m 24 #[.val (.long q0), .second, vr a1, vi (own_g1 q0)] [(.int 2), (.ref a1), (.long q0), (.int (own_g1 q0))])) rfl rfl (hb hby (d33 20))) ?_
  show OF _ _ _ _ (T2.setTop (mkF m 25 _ _))
  refine oS (fun _ q => XS.ldiv X2.here hx rfl (hb hby (d33 21)) rfl (by decide) (XS.lconst X2.here hx rfl (hb hby (d33 22)) (XS.lcmp X2.here hx rfl (hb hby (d33 23)) rfl q))) ?_
  suffices H4 : ∀ (T : State) (lc : List Loc), Stand p l e ({ frames := 0, cells := 0, slots := 0, locals := 0 } : Room) s m #[(.long q0), (.ref a1)] below meth c T lc 0 0 → Fr n0 lc → T.heap = h0 → OF p.tables e below GG (T.setTop (mkF m 36 #[.val (.long q0), .second, vr a1, vi (own_g1 q0)] [(.int (if (q0 / 100) = 0 then (0 : Int32) else (1 : Int32))), (.int (own_g1 q0))])) by
   by_cases hc4 : (q0 / 100) = 0
   ·
    refine oS (fun _ q => XS.ifYes X2.here hx rfl (pc0 := 28) (pc' := 35) rfl (hb hby (d33 24)) rfl (Jvm.Free.XT.ll_eq_t hc4) (by decide) (by decide) q) ?_
    show OF _ _ _ _ (T2.setTop (mkF m 35 _ _))
    refine oS (fun _ q => XS.iconst X2.here hx rfl (hb hby (d33 27)) q) ?_
    show OF _ _ _ _ (T2.setTop (mkF m 36 #[.val (.long q0), .second, vr a1, vi (own_g1 q0)] [(.int 0), (.int (own_g1 q0))]))
    have z := H4 _ _ X2 N2 e2
    rw [show ((if (q0 / 100) = 0 then (0 : Int32) else (1 : Int32)) : Int32) = (0 : Int32) from if_pos hc4] at z
    exact z
   ·
    refine oS (fun _ q => XS.ifNo X2.here hx rfl (hb hby (d33 24)) rfl (Jvm.Free.XT.ll_eq_f hc4) q) ?_
    show OF _ _ _ _ (T2.setTop (mkF m 31 _ _))
    refine oS (fun _ q => XS.iconst X2.here hx rfl (hb hby (d33 25)) (XS.goto X2.here hx rfl (pc0 := 32) (pc' := 36) rfl (hb hby (d33 26)) (by decide) (by decide) q)) ?_
    show OF _ _ _ _ (T2.setTop (mkF m 36 #[.val (.long q0), .second, vr a1, vi (own_g1 q0)] [(.int 1), (.int (own_g1 q0))]))
    have z := H4 _ _ X2 N2 e2
    rw [show ((if (q0 / 100) = 0 then (0 : Int32) else (1 : Int32)) : Int32) = (1 : Int32) from if_neg hc4] at z
    exact z
  intro T4 lc4 X4 N4 e4
  show OF _ _ _ _ (T4.setTop (mkF m 36 #[.val (.long q0), .second, vr a1, vi (own_g1 q0)] [(.int (if (q0 / 100) = 0 then (0 : Int32) else (1 : Int32))), (.int (own_g1 q0))]))
  refine oS (fun _ q => XS.iadd X4.here hx rfl (hb hby (d33 28)) rfl (XS.istoreN X4.here hx rfl (hb hby (d33 29)) rfl (l' := #[.val (.long q0), .second, vr a1, vi ((own_g1 q0) + (if (q0 / 100) = 0 then (0 : Int32) else (1 : Int32)))]) rfl (XS.iloadN X4.here hx rfl (hb hby (d33 30)) rfl q))) ?_
  show OF _ _ _ _ (T4.setTop (mkF m 39 #[.val (.long q0), .second, vr a1, vi (own_g2 q0)] [(.int (own_g2 q0))]))
  refine oS (fun _ q => XS.lloadN X4.here hx rfl (hb hby (d33 31)) rfl (XS.aloadN X4.here hx rfl (hb hby (d33 32)) rfl rfl (XS.iconst X4.here hx rfl (hb hby (d33 33)) q))) ?_
  have Vo5 : Arv Z h0 a1 k_a1 .long (19 : Int32) own_pv (.long 0) := V_a1
  obtain ⟨cl5, Ar5, qa5, Sa5, Na5, Ha5, Ga5⟩ := id Vo5
  have hin5 : ¬ ((3 : Int32) < 0 ∨ cl5.slots.size ≤ ((3 : Int32)).toNatClampNeg) := inb_of Sa5 ⟨by decide, by decide⟩
  refine oS (X4.laload hx (j := (3 : Int32)) (v := (.long 1000)) (by rw [e4]; exact Ar5.1) (State.isArrayOf_alike (hZ).alike Ar5.2.1) Ar5.2.2 hin5 (Ha5.at hin5 rfl) (g := (mkF m 42 #[.val (.long q0), .second, vr a1, vi (own_g2 q0)] [(.int 3), (.ref a1), (.long q0), (.int (own_g2 q0))])) rfl rfl (hb hby (d33 34))) ?_
  show OF _ _ _ _ (T4.setTop (mkF m 43 _ _))
  refine oS (fun _ q => XS.ldiv X4.here hx rfl (hb hby (d33 35)) rfl (by decide) (XS.lconst X4.here hx rfl (hb hby (d33 36)) (XS.lcmp X4.here hx rfl (hb hby (d33 37)) rfl q))) ?_
  suffices H6 : ∀ (T : State) (lc : List Loc), Stand p l e ({ frames := 0, cells := 0, slots := 0, locals := 0 } : Room) s m #[(.long q0), (.ref a1)] below meth c T lc 0 0 → Fr n0 lc → T.heap = h0 → OF p.tables e below GG (T.setTop (mkF m 54 #[.val (.long q0), .second, vr a1, vi (own_g2 q0)] [(.int (if (q0 / 1000) = 0 then (0 : Int32) else (1 : Int32))), (.int (own_g2 q0))])) by
   by_cases hc6 : (q0 / 1000) = 0
   ·
    refine oS (fun _ q => XS.ifYes X4.here hx rfl (pc0 := 46) (pc' := 53) rfl (hb hby (d33 38)) rfl (Jvm.Free.XT.ll_eq_t hc6) (by decide) (by decide) q) ?_
    show OF _ _ _ _ (T4.setTop (mkF m 53 _ _))
    refine oS (fun _ q => XS.iconst X4.here hx rfl (hb hby (d33 41)) q) ?_
    show OF _ _ _ _ (T4.setTop (mkF m 54 #[.val (.long q0), .second, vr a1, vi (own_g2 q0)] [(.int 0), (.int (own_g2 q0))]))
    have z := H6 _ _ X4 N4 e4
    rw [show ((if (q0 / 1000) = 0 then (0 : Int32) else (1 : Int32)) : Int32) = (0 : Int32) from if_pos hc6] at z
    exact z
   ·
    refine oS (fun _ q => XS.ifNo X4.here hx rfl (hb hby (d33 38)) rfl (Jvm.Free.XT.ll_eq_f hc6) q) ?_
    show OF _ _ _ _ (T4.setTop (mkF m 49 _ _))
    refine oS (fun _ q => XS.iconst X4.here hx rfl (hb hby (d33 39)) (XS.goto X4.here hx rfl (pc0 := 50) (pc' := 54) rfl (hb hby (d33 40)) (by decide) (by decide) q)) ?_
    show OF _ _ _ _ (T4.setTop (mkF m 54 #[.val (.long q0), .second, vr a1, vi (own_g2 q0)] [(.int 1), (.int (own_g2 q0))]))
    have z := H6 _ _ X4 N4 e4
    rw [show ((if (q0 / 1000) = 0 then (0 : Int32) else (1 : Int32)) : Int32) = (1 : Int32) from if_neg hc6] at z
    exact z
  intro T6 lc6 X6 N6 e6
  show OF _ _ _ _ (T6.setTop (mkF m 54 #[.val (.long q0), .second, vr a1, vi (own_g2 q0)] [(.int (if (q0 / 1000) = 0 then (0 : Int32) else (1 : Int32))), (.int (own_g2 q0))]))
  refine oS (fun _ q => XS.iadd X6.here hx rfl (hb hby (d33 42)) rfl (XS.istoreN X6.here hx rfl (hb hby (d33 43)) rfl (l' := #[.val (.long q0), .second, vr a1, vi ((own_g2 q0) + (if (q0 / 1000) = 0 then (0 : Int32) else (1 : Int32)))]) rfl (XS.iloadN X6.here hx rfl (hb hby (d33 44)) rfl q))) ?_
  show OF _ _ _ _ (T6.setTop (mkF m 57 #[.val (.long q0), .second, vr a1, vi (own_g3 q0)] [(.int (own_g3 q0))]))
  refine oS (fun _ q => XS.lloadN X6.here hx rfl (hb hby (d33 45)) rfl (XS.aloadN X6.here hx rfl (hb hby (d33 46)) rfl rfl (XS.iconst X6.here hx rfl (hb hby (d33 47)) q))) ?_
  have Vo7 : Arv Z h0 a1 k_a1 .long (19 : Int32) own_pv (.long 0) := V_a1
  obtain ⟨cl7, Ar7, qa7, Sa7, Na7, Ha7, Ga7⟩ := id Vo7
  have hin7 : ¬ ((4 : Int32) < 0 ∨ cl7.slots.size ≤ ((4 : Int32)).toNatClampNeg) := inb_of Sa7 ⟨by decide, by decide⟩
  refine oS (X6.laload hx (j := (4 : Int32)) (v := (.long 10000)) (by rw [e6]; exact Ar7.1) (State.isArrayOf_alike (hZ).alike Ar7.2.1) Ar7.2.2 hin7 (Ha7.at hin7 rfl) (g := (mkF m 60 #[.val (.long q0), .second, vr a1, vi (own_g3 q0)] [(.int 4), (.ref a1), (.long q0), (.int (own_g3 q0))])) rfl rfl (hb hby (d33 48))) ?_
  show OF _ _ _ _ (T6.setTop (mkF m 61 _ _))
  refine oS (fun _ q => XS.ldiv X6.here hx rfl (hb hby (d33 49)) rfl (by decide) (XS.lconst X6.here hx rfl (hb hby (d33 50)) (XS.lcmp X6.here hx rfl (hb hby (d33 51)) rfl q))) ?_
  suffices H8 : ∀ (T : State) (lc : List Loc), Stand p l e ({ frames := 0, cells := 0, slots := 0, locals := 0 } : Room) s m #[(.long q0), (.ref a1)] below meth c T lc 0 0 → Fr n0 lc → T.heap = h0 → OF p.tables e below GG (T.setTop (mkF m 72 #[.val (.long q0), .second, vr a1, vi (own_g3 q0)] [(.int (if (q0 / 10000) = 0 then (0 : Int32) else (1 : Int32))), (.int (own_g3 q0))])) by
   by_cases hc8 : (q0 / 10000) = 0
   ·
    refine oS (fun _ q => XS.ifYes X6.here hx rfl (pc0 := 64) (pc' := 71) rfl (hb hby (d33 52)) rfl (Jvm.Free.XT.ll_eq_t hc8) (by decide) (by decide) q) ?_
    show OF _ _ _ _ (T6.setTop (mkF m 71 _ _))
    refine oS (fun _ q => XS.iconst X6.here hx rfl (hb hby (d33 55)) q) ?_
    show OF _ _ _ _ (T6.setTop (mkF m 72 #[.val (.long q0), .second, vr a1, vi (own_g3 q0)] [(.int 0), (.int (own_g3 q0))]))
    have z := H8 _ _ X6 N6 e6
    rw [show ((if (q0 / 10000) = 0 then (0 : Int32) else (1 : Int32)) : Int32) = (0 : Int32) from if_pos hc8] at z
    exact z
   ·
    refine oS (fun _ q => XS.ifNo X6.here hx rfl (hb hby (d33 52)) rfl (Jvm.Free.XT.ll_eq_f hc8) q) ?_
    show OF _ _ _ _ (T6.setTop (mkF m 67 _ _))
    refine oS (fun _ q => XS.iconst X6.here hx rfl (hb hby (d33 53)) (XS.goto X6.here hx rfl (pc0 := 68) (pc' := 72) rfl (hb hby (d33 54)) (by decide) (by decide) q)) ?_
    show OF _ _ _ _ (T6.setTop (mkF m 72 #[.val (.long q0), .second, vr a1, vi (own_g3 q0)] [(.int 1), (.int (own_g3 q0))]))
    have z := H8 _ _ X6 N6 e6
    rw [show ((if (q0 / 10000) = 0 then (0 : Int32) else (1 : Int32)) : Int32) = (1 : Int32) from if_neg hc8] at z
    exact z
  intro T8 lc8 X8 N8 e8
  show OF _ _ _ _ (T8.setTop (mkF m 72 #[.val (.long q0), .second, vr a1, vi (own_g3 q0)] [(.int (if (q0 / 10000) = 0 then (0 : Int32) else (1 : Int32))), (.int (own_g3 q0))]))
  refine oS (fun _ q => XS.iadd X8.here hx rfl (hb hby (d33 56)) rfl (XS.istoreN X8.here hx rfl (hb hby (d33 57)) rfl (l' := #[.val (.long q0), .second, vr a1, vi ((own_g3 q0) + (if (q0 / 10000) = 0 then (0 : Int32) else (1 : Int32)))]) rfl (XS.iloadN X8.here hx rfl (hb hby (d33 58)) rfl q))) ?_
  show OF _ _ _ _ (T8.setTop (mkF m 75 #[.val (.long q0), .second, vr a1, vi (own_g4 q0)] [(.int (own_g4 q0))]))
  refine oS (fun _ q => XS.lloadN X8.here hx rfl (hb hby (d33 59)) rfl (XS.aloadN X8.here hx rfl (hb hby (d33 60)) rfl rfl (XS.iconst X8.here hx rfl (hb hby (d33 61)) q))) ?_
  have Vo9 : Arv Z h0 a1 k_a1 .long (19 : Int32) own_pv (.long 0) := V_a1
  obtain ⟨cl9, Ar9, qa9, Sa9, Na9, Ha9, Ga9⟩ := id Vo9
  have hin9 : ¬ ((5 : Int32) < 0 ∨ cl9.slots.size ≤ ((5 : Int32)).toNatClampNeg) := inb_of Sa9 ⟨by decide, by decide⟩
  refine oS (X8.laload hx (j := (5 : Int32)) (v := (.long 100000)) (by rw [e8]; exact Ar9.1) (State.isArrayOf_alike (hZ).alike Ar9.2.1) Ar9.2.2 hin9 (Ha9.at hin9 rfl) (g := (mkF m 78 #[.val (.long q0), .second, vr a1, vi (own_g4 q0)] [(.int 5), (.ref a1), (.long q0), (.int (own_g4 q0))])) rfl rfl (hb hby (d33 62))) ?_
  show OF _ _ _ _ (T8.setTop (mkF m 79 _ _))
  refine oS (fun _ q => XS.ldiv X8.here hx rfl (hb hby (d33 63)) rfl (by decide) (XS.lconst X8.here hx rfl (hb hby (d33 64)) (XS.lcmp X8.here hx rfl (hb hby (d33 65)) rfl q))) ?_
  suffices H10 : ∀ (T : State) (lc : List Loc), Stand p l e ({ frames := 0, cells := 0, slots := 0, locals := 0 } : Room) s m #[(.long q0), (.ref a1)] below meth c T lc 0 0 → Fr n0 lc → T.heap = h0 → OF p.tables e below GG (T.setTop (mkF m 90 #[.val (.long q0), .second, vr a1, vi (own_g4 q0)] [(.int (if (q0 / 100000) = 0 then (0 : Int32) else (1 : Int32))), (.int (own_g4 q0))])) by
   by_cases hc10 : (q0 / 100000) = 0
   ·
    refine oS (fun _ q => XS.ifYes X8.here hx rfl (pc0 := 82) (pc' := 89) rfl (hb hby (d33 66)) rfl (Jvm.Free.XT.ll_eq_t hc10) (by decide) (by decide) q) ?_
    show OF _ _ _ _ (T8.setTop (mkF m 89 _ _))
    refine oS (fun _ q => XS.iconst X8.here hx rfl (hb hby (d33 69)) q) ?_
    show OF _ _ _ _ (T8.setTop (mkF m 90 #[.val (.long q0), .second, vr a1, vi (own_g4 q0)] [(.int 0), (.int (own_g4 q0))]))
    have z := H10 _ _ X8 N8 e8
    rw [show ((if (q0 / 100000) = 0 then (0 : Int32) else (1 : Int32)) : Int32) = (0 : Int32) from if_pos hc10] at z
    exact z
   ·
    refine oS (fun _ q => XS.ifNo X8.here hx rfl (hb hby (d33 66)) rfl (Jvm.Free.XT.ll_eq_f hc10) q) ?_
    show OF _ _ _ _ (T8.setTop (mkF m 85 _ _))
    refine oS (fun _ q => XS.iconst X8.here hx rfl (hb hby (d33 67)) (XS.goto X8.here hx rfl (pc0 := 86) (pc' := 90) rfl (hb hby (d33 68)) (by decide) (by decide) q)) ?_
    show OF _ _ _ _ (T8.setTop (mkF m 90 #[.val (.long q0), .second, vr a1, vi (own_g4 q0)] [(.int 1), (.int (own_g4 q0))]))
    have z := H10 _ _ X8 N8 e8
    rw [show ((if (q0 / 100000) = 0 then (0 : Int32) else (1 : Int32)) : Int32) = (1 : Int32) from if_neg hc10] at z
    exact z
  intro T10 lc10 X10 N10 e10
  show OF _ _ _ _ (T10.setTop (mkF m 90 #[.val (.long q0), .second, vr a1, vi (own_g4 q0)] [(.int (if (q0 / 100000) = 0 then (0 : Int32) else (1 : Int32))), (.int (own_g4 q0))]))
  refine oS (fun _ q => XS.iadd X10.here hx rfl (hb hby (d33 70)) rfl (XS.istoreN X10.here hx rfl (hb hby (d33 71)) rfl (l' := #[.val (.long q0), .second, vr a1, vi ((own_g4 q0) + (if (q0 / 100000) = 0 then (0 : Int32) else (1 : Int32)))]) rfl (XS.iloadN X10.here hx rfl (hb hby (d33 72)) rfl q))) ?_
  show OF _ _ _ _ (T10.setTop (mkF m 93 #[.val (.long q0), .second, vr a1, vi (own_g5 q0)] [(.int (own_g5 q0))]))
  refine oS (fun _ q => XS.lloadN X10.here hx rfl (hb hby (d33 73)) rfl (XS.aloadN X10.here hx rfl (hb hby (d33 74)) rfl rfl (XS.bipush X10.here hx rfl (hb hby (d33 75)) q))) ?_
  have Vo11 : Arv Z h0 a1 k_a1 .long (19 : Int32) own_pv (.long 0) := V_a1
  obtain ⟨cl11, Ar11, qa11, Sa11, Na11, Ha11, Ga11⟩ := id Vo11
  have hin11 : ¬ ((6 : Int32) < 0 ∨ cl11.slots.size ≤ ((6 : Int32)).toNatClampNeg) := inb_of Sa11 ⟨by decide, by decide⟩
  refine oS (X10.laload hx (j := (6 : Int32)) (v := (.long 1000000)) (by rw [e10]; exact Ar11.1) (State.isArrayOf_alike (hZ).alike Ar11.2.1) Ar11.2.2 hin11 (Ha11.at hin11 rfl) (g := (mkF m 97 #[.val (.long q0), .second, vr a1, vi (own_g5 q0)] [(.int 6), (.ref a1), (.long q0), (.int (own_g5 q0))])) rfl rfl (hb hby (d33 76))) ?_
  show OF _ _ _ _ (T10.setTop (mkF m 98 _ _))
  refine oS (fun _ q => XS.ldiv X10.here hx rfl (hb hby (d33 77)) rfl (by decide) (XS.lconst X10.here hx rfl (hb hby (d33 78)) (XS.lcmp X10.here hx rfl (hb hby (d33 79)) rfl q))) ?_
  suffices H12 : ∀ (T : State) (lc : List Loc), Stand p l e ({ frames := 0, cells := 0, slots := 0, locals := 0 } : Room) s m #[(.long q0), (.ref a1)] below meth c T lc 0 0 → Fr n0 lc → T.heap = h0 → OF p.tables e below GG (T.setTop (mkF m 109 #[.val (.long q0), .second, vr a1, vi (own_g5 q0)] [(.int (if (q0 / 1000000) = 0 then (0 : Int32) else (1 : Int32))), (.int (own_g5 q0))])) by
   by_cases hc12 : (q0 / 1000000) = 0
   ·
    refine oS (fun _ q => XS.ifYes X10.here hx rfl (pc0 := 101) (pc' := 108) rfl (hb hby (d33 80)) rfl (Jvm.Free.XT.ll_eq_t hc12) (by decide) (by decide) q) ?_
    show OF _ _ _ _ (T10.setTop (mkF m 108 _ _))
    refine oS (fun _ q => XS.iconst X10.here hx rfl (hb hby (d33 83)) q) ?_
    show OF _ _ _ _ (T10.setTop (mkF m 109 #[.val (.long q0), .second, vr a1, vi (own_g5 q0)] [(.int 0), (.int (own_g5 q0))]))
    have z := H12 _ _ X10 N10 e10
    rw [show ((if (q0 / 1000000) = 0 then (0 : Int32) else (1 : Int32)) : Int32) = (0 : Int32) from if_pos hc12] at z
    exact z
   ·
    refine oS (fun _ q => XS.ifNo X10.here hx rfl (hb hby (d33 80)) rfl (Jvm.Free.XT.ll_eq_f hc12) q) ?_
    show OF _ _ _ _ (T10.setTop (mkF m 104 _ _))
    refine oS (fun _ q => XS.iconst X10.here hx rfl (hb hby (d33 81)) (XS.goto X10.here hx rfl (pc0 := 105) (pc' := 109) rfl (hb hby (d33 82)) (by decide) (by decide) q)) ?_
    show OF _ _ _ _ (T10.setTop (mkF m 109 #[.val (.long q0), .second, vr a1, vi (own_g5 q0)] [(.int 1), (.int (own_g5 q0))]))
    have z := H12 _ _ X10 N10 e10
    rw [show ((if (q0 / 1000000) = 0 then (0 : Int32) else (1 : Int32)) : Int32) = (1 : Int32) from if_neg hc12] at z
    exact z
  intro T12 lc12 X12 N12 e12
  show OF _ _ _ _ (T12.setTop (mkF m 109 #[.val (.long q0), .second, vr a1, vi (own_g5 q0)] [(.int (if (q0 / 1000000) = 0 then (0 : Int32) else (1 : Int32))), (.int (own_g5 q0))]))
  refine oS (fun _ q => XS.iadd X12.here hx rfl (hb hby (d33 84)) rfl (XS.istoreN X12.here hx rfl (hb hby (d33 85)) rfl (l' := #[.val (.long q0), .second, vr a1, vi ((own_g5 q0) + (if (q0 / 1000000) = 0 then (0 : Int32) else (1 : Int32)))]) rfl (XS.iloadN X12.here hx rfl (hb hby (d33 86)) rfl q))) ?_
  show OF _ _ _ _ (T12.setTop (mkF m 112 #[.val (.long q0), .second, vr a1, vi (own_g6 q0)] [(.int (own_g6 q0))]))
  refine oS (fun _ q => XS.lloadN X12.here hx rfl (hb hby (d33 87)) rfl (XS.aloadN X12.here hx rfl (hb hby (d33 88)) rfl rfl (XS.bipush X12.here hx rfl (hb hby (d33 89)) q))) ?_
  have Vo13 : Arv Z h0 a1 k_a1 .long (19 : Int32) own_pv (.long 0) := V_a1
  obtain ⟨cl13, Ar13, qa13, Sa13, Na13, Ha13, Ga13⟩ := id Vo13
  have hin13 : ¬ ((7 : Int32) < 0 ∨ cl13.slots.size ≤ ((7 : Int32)).toNatClampNeg) := inb_of Sa13 ⟨by decide, by decide⟩
  refine oS (X12.laload hx (j := (7 : Int32)) (v := (.long 10000000)) (by rw [e12]; exact Ar13.1) (State.isArrayOf_alike (hZ).alike Ar13.2.1) Ar13.2.2 hin13 (Ha13.at hin13 rfl) (g := (mkF m 116 #[.val (.long q0), .second, vr a1, vi (own_g6 q0)] [(.int 7), (.ref a1), (.long q0), (.int (own_g6 q0))])) rfl rfl (hb hby (d33 90))) ?_
  show OF _ _ _ _ (T12.setTop (mkF m 117 _ _))
  refine oS (fun _ q => XS.ldiv X12.here hx rfl (hb hby (d33 91)) rfl (by decide) (XS.lconst X12.here hx rfl (hb hby (d33 92)) (XS.lcmp X12.here hx rfl (hb hby (d33 93)) rfl q))) ?_
  suffices H14 : ∀ (T : State) (lc : List Loc), Stand p l e ({ frames := 0, cells := 0, slots := 0, locals := 0 } : Room) s m #[(.long q0), (.ref a1)] below meth c T lc 0 0 → Fr n0 lc → T.heap = h0 → OF p.tables e below GG (T.setTop (mkF m 128 #[.val (.long q0), .second, vr a1, vi (own_g6 q0)] [(.int (if (q0 / 10000000) = 0 then (0 : Int32) else (1 : Int32))), (.int (own_g6 q0))])) by
   by_cases hc14 : (q0 / 10000000) = 0
   ·
    refine oS (fun _ q => XS.ifYes X12.here hx rfl (pc0 := 120) (pc' := 127) rfl (hb hby (d33 94)) rfl (Jvm.Free.XT.ll_eq_t hc14) (by decide) (by decide) q) ?_
    show OF _ _ _ _ (T12.setTop (mkF m 127 _ _))
    refine oS (fun _ q => XS.iconst X12.here hx rfl (hb hby (d33 97)) q) ?_
    show OF _ _ _ _ (T12.setTop (mkF m 128 #[.val (.long q0), .second, vr a1, vi (own_g6 q0)] [(.int 0), (.int (own_g6 q0))]))
    have z := H14 _ _ X12 N12 e12
    rw [show ((if (q0 / 10000000) = 0 then (0 : Int32) else (1 : Int32)) : Int32) = (0 : Int32) from if_pos hc14] at z
    exact z
   ·
    refine oS (fun _ q => XS.ifNo X12.here hx rfl (hb hby (d33 94)) rfl (Jvm.Free.XT.ll_eq_f hc14) q) ?_
    show OF _ _ _ _ (T12.setTop (mkF m 123 _ _))
    refine oS (fun _ q => XS.iconst X12.here hx rfl (hb hby (d33 95)) (XS.goto X12.here hx rfl (pc0 := 124) (pc' := 128) rfl (hb hby (d33 96)) (by decide) (by decide) q)) ?_
    show OF _ _ _ _ (T12.setTop (mkF m 128 #[.val (.long q0), .second, vr a1, vi (own_g6 q0)] [(.int 1), (.int (own_g6 q0))]))
    have z := H14 _ _ X12 N12 e12
    rw [show ((if (q0 / 10000000) = 0 then (0 : Int32) else (1 : Int32)) : Int32) = (1 : Int32) from if_neg hc14] at z
    exact z
  intro T14 lc14 X14 N14 e14
  show OF _ _ _ _ (T14.setTop (mkF m 128 #[.val (.long q0), .second, vr a1, vi (own_g6 q0)] [(.int (if (q0 / 10000000) = 0 then (0 : Int32) else (1 : Int32))), (.int (own_g6 q0))]))
  refine oS (fun _ q => XS.iadd X14.here hx rfl (hb hby (d33 98)) rfl (XS.istoreN X14.here hx rfl (hb hby (d33 99)) rfl (l' := #[.val (.long q0), .second, vr a1, vi ((own_g6 q0) + (if (q0 / 10000000) = 0 then (0 : Int32) else (1 : Int32)))]) rfl (XS.iloadN X14.here hx rfl (hb hby (d33 100)) rfl q))) ?_
  show OF _ _ _ _ (T14.setTop (mkF m 131 #[.val (.long q0), .second, vr a1, vi (own_g7 q0)] [(.int (own_g7 q0))]))
  refine oS (fun _ q => XS.lloadN X14.here hx rfl (hb hby (d33 101)) rfl (XS.aloadN X14.here hx rfl (hb hby (d33 102)) rfl rfl (XS.bipush X14.here hx rfl (hb hby (d33 103)) q))) ?_
  have Vo15 : Arv Z h0 a1 k_a1 .long (19 : Int32) own_pv (.long 0) := V_a1
  obtain ⟨cl15, Ar15, qa15, Sa15, Na15, Ha15, Ga15⟩ := id Vo15
  have hin15 : ¬ ((8 : Int32) < 0 ∨ cl15.slots.size ≤ ((8 : Int32)).toNatClampNeg) := inb_of Sa15 ⟨by decide, by decide⟩
  refine oS (X14.laload hx (j := (8 : Int32)) (v := (.long 100000000)) (by rw [e14]; exact Ar15.1) (State.isArrayOf_alike (hZ).alike Ar15.2.1) Ar15.2.2 hin15 (Ha15.at hin15 rfl) (g := (mkF m 135 #[.val (.long q0), .second, vr a1, vi (own_g7 q0)] [(.int 8), (.ref a1), (.long q0), (.int (own_g7 q0))])) rfl rfl (hb hby (d33 104))) ?_
  show OF _ _ _ _ (T14.setTop (mkF m 136 _ _))
  refine oS (fun _ q => XS.ldiv X14.here hx rfl (hb hby (d33 105)) rfl (by decide) (XS.lconst X14.here hx rfl (hb hby (d33 106)) (XS.lcmp X14.here hx rfl (hb hby (d33 107)) rfl q))) ?_
  suffices H16 : ∀ (T : State) (lc : List Loc), Stand p l e ({ frames := 0, cells := 0, slots := 0, locals := 0 } : Room) s m #[(.long q0), (.ref a1)] below meth c T lc 0 0 → Fr n0 lc → T.heap = h0 → OF p.tables e below GG (T.setTop (mkF m 147 #[.val (.long q0), .second, vr a1, vi (own_g7 q0)] [(.int (if (q0 / 100000000) = 0 then (0 : Int32) else (1 : Int32))), (.int (own_g7 q0))])) by
   by_cases hc16 : (q0 / 100000000) = 0
   ·
    refine oS (fun _ q => XS.ifYes X14.here hx rfl (pc0 := 139) (pc' := 146) rfl (hb hby (d33 108)) rfl (Jvm.Free.XT.ll_eq_t hc16) (by decide) (by decide) q) ?_
    show OF _ _ _ _ (T14.setTop (mkF m 146 _ _))
    refine oS (fun _ q => XS.iconst X14.here hx rfl (hb hby (d33 111)) q) ?_
    show OF _ _ _ _ (T14.setTop (mkF m 147 #[.val (.long q0), .second, vr a1, vi (own_g7 q0)] [(.int 0), (.int (own_g7 q0))]))
    have z := H16 _ _ X14 N14 e14
    rw [show ((if (q0 / 100000000) = 0 then (0 : Int32) else (1 : Int32)) : Int32) = (0 : Int32) from if_pos hc16] at z
    exact z
   ·
    refine oS (fun _ q => XS.ifNo X14.here hx rfl (hb hby (d33 108)) rfl (Jvm.Free.XT.ll_eq_f hc16) q) ?_
    show OF _ _ _ _ (T14.setTop (mkF m 142 _ _))
    refine oS (fun _ q => XS.iconst X14.here hx rfl (hb hby (d33 109)) (XS.goto X14.here hx rfl (pc0 := 143) (pc' := 147) rfl (hb hby (d33 110)) (by decide) (by decide) q)) ?_
    show OF _ _ _ _ (T14.setTop (mkF m 147 #[.val (.long q0), .second, vr a1, vi (own_g7 q0)] [(.int 1), (.int (own_g7 q0))]))
    have z := H16 _ _ X14 N14 e14
    rw [show ((if (q0 / 100000000) = 0 then (0 : Int32) else (1 : Int32)) : Int32) = (1 : Int32) from if_neg hc16] at z
    exact z
  intro T16 lc16 X16 N16 e16
  show OF _ _ _ _ (T16.setTop (mkF m 147 #[.val (.long q0), .second, vr a1, vi (own_g7 q0)] [(.int (if (q0 / 100000000) = 0 then (0 : Int32) else (1 : Int32))), (.int (own_g7 q0))]))
  refine oS (fun _ q => XS.iadd X16.here hx rfl (hb hby (d33 112)) rfl (XS.istoreN X16.here hx rfl (hb hby (d33 113)) rfl (l' := #[.val (.long q0), .second, vr a1, vi ((own_g7 q0) + (if (q0 / 100000000) = 0 then (0 : Int32) else (1 : Int32)))]) rfl (XS.iloadN X16.here hx rfl (hb hby (d33 114)) rfl q))) ?_
  show OF _ _ _ _ (T16.setTop (mkF m 150 #[.val (.long q0), .second, vr a1, vi (own_g8 q0)] [(.int (own_g8 q0))]))
  refine oS (fun _ q => XS.lloadN X16.here hx rfl (hb hby (d33 115)) rfl (XS.aloadN X16.here hx rfl (hb hby (d33 116)) rfl rfl (XS.bipush X16.here hx rfl (hb hby (d33 117)) q))) ?_
  have Vo17 : Arv Z h0 a1 k_a1 .long (19 : Int32) own_pv (.long 0) := V_a1
  obtain ⟨cl17, Ar17, qa17, Sa17, Na17, Ha17, Ga17⟩ := id Vo17
  have hin17 : ¬ ((9 : Int32) < 0 ∨ cl17.slots.size ≤ ((9 : Int32)).toNatClampNeg) := inb_of Sa17 ⟨by decide, by decide⟩
  refine oS (X16.laload hx (j := (9 : Int32)) (v := (.long 1000000000)) (by rw [e16]; exact Ar17.1) (State.isArrayOf_alike (hZ).alike Ar17.2.1) Ar17.2.2 hin17 (Ha17.at hin17 rfl) (g := (mkF m 154 #[.val (.long q0), .second, vr a1, vi (own_g8 q0)] [(.int 9), (.ref a1), (.long q0), (.int (own_g8 q0))])) rfl rfl (hb hby (d33 118))) ?_
  show OF _ _ _ _ (T16.setTop (mkF m 155 _ _))
  refine oS (fun _ q => XS.ldiv X16.here hx rfl (hb hby (d33 119)) rfl (by decide) (XS.lconst X16.here hx rfl (hb hby (d33 120)) (XS.lcmp X16.here hx rfl (hb hby (d33 121)) rfl q))) ?_
  suffices H18 : ∀ (T : State) (lc : List Loc), Stand p l e ({ frames := 0, cells := 0, slots := 0, locals := 0 } : Room) s m #[(.long q0), (.ref a1)] below meth c T lc 0 0 → Fr n0 lc → T.heap = h0 → OF p.tables e below GG (T.setTop (mkF m 166 #[.val (.long q0), .second, vr a1, vi (own_g8 q0)] [(.int (if (q0 / 1000000000) = 0 then (0 : Int32) else (1 : Int32))), (.int (own_g8 q0))])) by
   by_cases hc18 : (q0 / 1000000000) = 0
   ·
    refine oS (fun _ q => XS.ifYes X16.here hx rfl (pc0 := 158) (pc' := 165) rfl (hb hby (d33 122)) rfl (Jvm.Free.XT.ll_eq_t hc18) (by decide) (by decide) q) ?_
    show OF _ _ _ _ (T16.setTop (mkF m 165 _ _))
    refine oS (fun _ q => XS.iconst X16.here hx rfl (hb hby (d33 125)) q) ?_
    show OF _ _ _ _ (T16.setTop (mkF m 166 #[.val (.long q0), .second, vr a1, vi (own_g8 q0)] [(.int 0), (.int (own_g8 q0))]))
    have z := H18 _ _ X16 N16 e16
    rw [show ((if (q0 / 1000000000) = 0 then (0 : Int32) else (1 : Int32)) : Int32) = (0 : Int32) from if_pos hc18] at z
    exact z
   ·
    refine oS (fun _ q => XS.ifNo X16.here hx rfl (hb hby (d33 122)) rfl (Jvm.Free.XT.ll_eq_f hc18) q) ?_
    show OF _ _ _ _ (T16.setTop (mkF m 161 _ _))
    refine oS (fun _ q => XS.iconst X16.here hx rfl (hb hby (d33 123)) (XS.goto X16.here hx rfl (pc0 := 162) (pc' := 166) rfl (hb hby (d33 124)) (by decide) (by decide) q)) ?_
    show OF _ _ _ _ (T16.setTop (mkF m 166 #[.val (.long q0), .second, vr a1, vi (own_g8 q0)] [(.int 1), (.int (own_g8 q0))]))
    have z := H18 _ _ X16 N16 e16
    rw [show ((if (q0 / 1000000000) = 0 then (0 : Int32) else (1 : Int32)) : Int32) = (1 : Int32) from if_neg hc18] at z
    exact z
  intro T18 lc18 X18 N18 e18
  show OF _ _ _ _ (T18.setTop (mkF m 166 #[.val (.long q0), .second, vr a1, vi (own_g8 q0)] [(.int (if (q0 / 1000000000) = 0 then (0 : Int32) else (1 : Int32))), (.int (own_g8 q0))]))
  refine oS (fun _ q => XS.iadd X18.here hx rfl (hb hby (d33 126)) rfl (XS.istoreN X18.here hx rfl (hb hby (d33 127)) rfl (l' := #[.val (.long q0), .second, vr a1, vi ((own_g8 q0) + (if (q0 / 1000000000) = 0 then (0 : Int32) else (1 : Int32)))]) rfl (XS.iloadN X18.here hx rfl (hb hby (d33 128)) rfl q))) ?_
  show OF _ _ _ _ (T18.setTop (mkF m 169 #[.val (.long q0), .second, vr a1, vi (own_g9 q0)] [(.int (own_g9 q0))]))
  refine oS (fun _ q => XS.lloadN X18.here hx rfl (hb hby (d33 129)) rfl (XS.aloadN X18.here hx rfl (hb hby (d33 130)) rfl rfl (XS.bipush X18.here hx rfl (hb hby (d33 131)) q))) ?_
  have Vo19 : Arv Z h0 a1 k_a1 .long (19 : Int32) own_pv (.long 0) := V_a1
  obtain ⟨cl19, Ar19, qa19, Sa19, Na19, Ha19, Ga19⟩ := id Vo19
  have hin19 : ¬ ((10 : Int32) < 0 ∨ cl19.slots.size ≤ ((10 : Int32)).toNatClampNeg) := inb_of Sa19 ⟨by decide, by decide⟩
  refine oS (X18.laload hx (j := (10 : Int32)) (v := (.long 10000000000)) (by rw [e18]; exact Ar19.1) (State.isArrayOf_alike (hZ).alike Ar19.2.1) Ar19.2.2 hin19 (Ha19.at hin19 rfl) (g := (mkF m 173 #[.val (.long q0), .second, vr a1, vi (own_g9 q0)] [(.int 10), (.ref a1), (.long q0), (.int (own_g9 q0))])) rfl rfl (hb hby (d33 132))) ?_
  show OF _ _ _ _ (T18.setTop (mkF m 174 _ _))
  refine oS (fun _ q => XS.ldiv X18.here hx rfl (hb hby (d33 133)) rfl (by decide) (XS.lconst X18.here hx rfl (hb hby (d33 134)) (XS.lcmp X18.here hx rfl (hb hby (d33 135)) rfl q))) ?_
  suffices H20 : ∀ (T : State) (lc : List Loc), Stand p l e ({ frames := 0, cells := 0, slots := 0, locals := 0 } : Room) s m #[(.long q0), (.ref a1)] below meth c T lc 0 0 → Fr n0 lc → T.heap = h0 → OF p.tables e below GG (T.setTop (mkF m 185 #[.val (.long q0), .second, vr a1, vi (own_g9 q0)] [(.int (if (q0 / 10000000000) = 0 then (0 : Int32) else (1 : Int32))), (.int (own_g9 q0))])) by
   by_cases hc20 : (q0 / 10000000000) = 0
   ·
    refine oS (fun _ q => XS.ifYes X18.here hx rfl (pc0 := 177) (pc' := 184) rfl (hb hby (d33 136)) rfl (Jvm.Free.XT.ll_eq_t hc20) (by decide) (by decide) q) ?_
    show OF _ _ _ _ (T18.setTop (mkF m 184 _ _))
    refine oS (fun _ q => XS.iconst X18.here hx rfl (hb hby (d33 139)) q) ?_
    show OF _ _ _ _ (T18.setTop (mkF m 185 #[.val (.long q0), .second, vr a1, vi (own_g9 q0)] [(.int 0), (.int (own_g9 q0))]))
    have z := H20 _ _ X18 N18 e18
    rw [show ((if (q0 / 10000000000) = 0 then (0 : Int32) else (1 : Int32)) : Int32) = (0 : Int32) from if_pos hc20] at z
    exact z
   ·
    refine oS (fun _ q => XS.ifNo X18.here hx rfl (hb hby (d33 136)) rfl (Jvm.Free.XT.ll_eq_f hc20) q) ?_
    show OF _ _ _ _ (T18.setTop (mkF m 180 _ _))
    refine oS (fun _ q => XS.iconst X18.here hx rfl (hb hby (d33 137)) (XS.goto X18.here hx rfl (pc0 := 181) (pc' := 185) rfl (hb hby (d33 138)) (by decide) (by decide) q)) ?_
    show OF _ _ _ _ (T18.setTop (mkF m 185 #[.val (.long q0), .second, vr a1, vi (own_g9 q0)] [(.int 1), (.int (own_g9 q0))]))
    have z := H20 _ _ X18 N18 e18
    rw [show ((if (q0 / 10000000000) = 0 then (0 : Int32) else (1 : Int32)) : Int32) = (1 : Int32) from if_neg hc20] at z
    exact z
  intro T20 lc20 X20 N20 e20
  show OF _ _ _ _ (T20.setTop (mkF m 185 #[.val (.long q0), .second, vr a1, vi (own_g9 q0)] [(.int (if (q0 / 10000000000) = 0 then (0 : Int32) else (1 : Int32))), (.int (own_g9 q0))]))
  refine oS (fun _ q => XS.iadd X20.here hx rfl (hb hby (d33 140)) rfl (XS.istoreN X20.here hx rfl (hb hby (d33 141)) rfl (l' := #[.val (.long q0), .second, vr a1, vi ((own_g9 q0) + (if (q0 / 10000000000) = 0 then (0 : Int32) else (1 : Int32)))]) rfl (XS.iloadN X20.here hx rfl (hb hby (d33 142)) rfl q))) ?_
  show OF _ _ _ _ (T20.setTop (mkF m 188 #[.val (.long q0), .second, vr a1, vi (own_g10 q0)] [(.int (own_g10 q0))]))
  refine oS (fun _ q => XS.lloadN X20.here hx rfl (hb hby (d33 143)) rfl (XS.aloadN X20.here hx rfl (hb hby (d33 144)) rfl rfl (XS.bipush X20.here hx rfl (hb hby (d33 145)) q))) ?_
  have Vo21 : Arv Z h0 a1 k_a1 .long (19 : Int32) own_pv (.long 0) := V_a1
  obtain ⟨cl21, Ar21, qa21, Sa21, Na21, Ha21, Ga21⟩ := id Vo21
  have hin21 : ¬ ((11 : Int32) < 0 ∨ cl21.slots.size ≤ ((11 : Int32)).toNatClampNeg) := inb_of Sa21 ⟨by decide, by decide⟩
  refine oS (X20.laload hx (j := (11 : Int32)) (v := (.long 100000000000)) (by rw [e20]; exact Ar21.1) (State.isArrayOf_alike (hZ).alike Ar21.2.1) Ar21.2.2 hin21 (Ha21.at hin21 rfl) (g := (mkF m 192 #[.val (.long q0), .second, vr a1, vi (own_g10 q0)] [(.int 11), (.ref a1), (.long q0), (.int (own_g10 q0))])) rfl rfl (hb hby (d33 146))) ?_
  show OF _ _ _ _ (T20.setTop (mkF m 193 _ _))
  refine oS (fun _ q => XS.ldiv X20.here hx rfl (hb hby (d33 147)) rfl (by decide) (XS.lconst X20.here hx rfl (hb hby (d33 148)) (XS.lcmp X20.here hx rfl (hb hby (d33 149)) rfl q))) ?_
  suffices H22 : ∀ (T : State) (lc : List Loc), Stand p l e ({ frames := 0, cells := 0, slots := 0, locals := 0 } : Room) s m #[(.long q0), (.ref a1)] below meth c T lc 0 0 → Fr n0 lc → T.heap = h0 → OF p.tables e below GG (T.setTop (mkF m 204 #[.val (.long q0), .second, vr a1, vi (own_g10 q0)] [(.int (if (q0 / 100000000000) = 0 then (0 : Int32) else (1 : Int32))), (.int (own_g10 q0))])) by
   by_cases hc22 : (q0 / 100000000000) = 0
   ·
    refine oS (fun _ q => XS.ifYes X20.here hx rfl (pc0 := 196) (pc' := 203) rfl (hb hby (d33 150)) rfl (Jvm.Free.XT.ll_eq_t hc22) (by decide) (by decide) q) ?_
    show OF _ _ _ _ (T20.setTop (mkF m 203 _ _))
    refine oS (fun _ q => XS.iconst X20.here hx rfl (hb hby (d33 153)) q) ?_
    show OF _ _ _ _ (T20.setTop (mkF m 204 #[.val (.long q0), .second, vr a1, vi (own_g10 q0)] [(.int 0), (.int (own_g10 q0))]))
    have z := H22 _ _ X20 N20 e20
    rw [show ((if (q0 / 100000000000) = 0 then (0 : Int32) else (1 : Int32)) : Int32) = (0 : Int32) from if_pos hc22] at z
    exact z
   ·
    refine oS (fun _ q => XS.ifNo X20.here hx rfl (hb hby (d33 150)) rfl (Jvm.Free.XT.ll_eq_f hc22) q) ?_
    show OF _ _ _ _ (T20.setTop (mkF m 199 _ _))
    refine oS (fun _ q => XS.iconst X20.here hx rfl (hb hby (d33 151)) (XS.goto X20.here hx rfl (pc0 := 200) (pc' := 204) rfl (hb hby (d33 152)) (by decide) (by decide) q)) ?_
    show OF _ _ _ _ (T20.setTop (mkF m 204 #[.val (.long q0), .second, vr a1, vi (own_g10 q0)] [(.int 1), (.int (own_g10 q0))]))
    have z := H22 _ _ X20 N20 e20
    rw [show ((if (q0 / 100000000000) = 0 then (0 : Int32) else (1 : Int32)) : Int32) = (1 : Int32) from if_neg hc22] at z
    exact z
  intro T22 lc22 X22 N22 e22
  show OF _ _ _ _ (T22.setTop (mkF m 204 #[.val (.long q0), .second, vr a1, vi (own_g10 q0)] [(.int (if (q0 / 100000000000) = 0 then (0 : Int32) else (1 : Int32))), (.int (own_g10 q0))]))
  refine oS (fun _ q => XS.iadd X22.here hx rfl (hb hby (d33 154)) rfl (XS.istoreN X22.here hx rfl (hb hby (d33 155)) rfl (l' := #[.val (.long q0), .second, vr a1, vi ((own_g10 q0) + (if (q0 / 100000000000) = 0 then (0 : Int32) else (1 : Int32)))]) rfl (XS.iloadN X22.here hx rfl (hb hby (d33 156)) rfl q))) ?_
  show OF _ _ _ _ (T22.setTop (mkF m 207 #[.val (.long q0), .second, vr a1, vi (own_g11 q0)] [(.int (own_g11 q0))]))
  refine oS (fun _ q => XS.lloadN X22.here hx rfl (hb hby (d33 157)) rfl (XS.aloadN X22.here hx rfl (hb hby (d33 158)) rfl rfl (XS.bipush X22.here hx rfl (hb hby (d33 159)) q))) ?_
  have Vo23 : Arv Z h0 a1 k_a1 .long (19 : Int32) own_pv (.long 0) := V_a1
  obtain ⟨cl23, Ar23, qa23, Sa23, Na23, Ha23, Ga23⟩ := id Vo23
  have hin23 : ¬ ((12 : Int32) < 0 ∨ cl23.slots.size ≤ ((12 : Int32)).toNatClampNeg) := inb_of Sa23 ⟨by decide, by decide⟩
  refine oS (X22.laload hx (j := (12 : Int32)) (v := (.long 1000000000000)) (by rw [e22]; exact Ar23.1) (State.isArrayOf_alike (hZ).alike Ar23.2.1) Ar23.2.2 hin23 (Ha23.at hin23 rfl) (g := (mkF m 211 #[.val (.long q0), .second, vr a1, vi (own_g11 q0)] [(.int 12), (.ref a1), (.long q0), (.int (own_g11 q0))])) rfl rfl (hb hby (d33 160))) ?_
  show OF _ _ _ _ (T22.setTop (mkF m 212 _ _))
  refine oS (fun _ q => XS.ldiv X22.here hx rfl (hb hby (d33 161)) rfl (by decide) (XS.lconst X22.here hx rfl (hb hby (d33 162)) (XS.lcmp X22.here hx rfl (hb hby (d33 163)) rfl q))) ?_
  suffices H24 : ∀ (T : State) (lc : List Loc), Stand p l e ({ frames := 0, cells := 0, slots := 0, locals := 0 } : Room) s m #[(.long q0), (.ref a1)] below meth c T lc 0 0 → Fr n0 lc → T.heap = h0 → OF p.tables e below GG (T.setTop (mkF m 223 #[.val (.long q0), .second, vr a1, vi (own_g11 q0)] [(.int (if (q0 / 1000000000000) = 0 then (0 : Int32) else (1 : Int32))), (.int (own_g11 q0))])) by
   by_cases hc24 : (q0 / 1000000000000) = 0
   ·
    refine oS (fun _ q => XS.ifYes X22.here hx rfl (pc0 := 215) (pc' := 222) rfl (hb hby (d33 164)) rfl (Jvm.Free.XT.ll_eq_t hc24) (by decide) (by decide) q) ?_
    show OF _ _ _ _ (T22.setTop (mkF m 222 _ _))
    refine oS (fun _ q => XS.iconst X22.here hx rfl (hb hby (d33 167)) q) ?_
    show OF _ _ _ _ (T22.setTop (mkF m 223 #[.val (.long q0), .second, vr a1, vi (own_g11 q0)] [(.int 0), (.int (own_g11 q0))]))
    have z := H24 _ _ X22 N22 e22
    rw [show ((if (q0 / 1000000000000) = 0 then (0 : Int32) else (1 : Int32)) : Int32) = (0 : Int32) from if_pos hc24] at z
    exact z
   ·
    refine oS (fun _ q => XS.ifNo X22.here hx rfl (hb hby (d33 164)) rfl (Jvm.Free.XT.ll_eq_f hc24) q) ?_
    show OF _ _ _ _ (T22.setTop (mkF m 218 _ _))
    refine oS (fun _ q => XS.iconst X22.here hx rfl (hb hby (d33 165)) (XS.goto X22.here hx rfl (pc0 := 219) (pc' := 223) rfl (hb hby (d33 166)) (by decide) (by decide) q)) ?_
    show OF _ _ _ _ (T22.setTop (mkF m 223 #[.val (.long q0), .second, vr a1, vi (own_g11 q0)] [(.int 1), (.int (own_g11 q0))]))
    have z := H24 _ _ X22 N22 e22
    rw [show ((if (q0 / 1000000000000) = 0 then (0 : Int32) else (1 : Int32)) : Int32) = (1 : Int32) from if_neg hc24] at z
    exact z
  intro T24 lc24 X24 N24 e24
  show OF _ _ _ _ (T24.setTop (mkF m 223 #[.val (.long q0), .second, vr a1, vi (own_g11 q0)] [(.int (if (q0 / 1000000000000) = 0 then (0 : Int32) else (1 : Int32))), (.int (own_g11 q0))]))
  refine oS (fun _ q => XS.iadd X24.here hx rfl (hb hby (d33 168)) rfl (XS.istoreN X24.here hx rfl (hb hby (d33 169)) rfl (l' := #[.val (.long q0), .second, vr a1, vi ((own_g11 q0) + (if (q0 / 1000000000000) = 0 then (0 : Int32) else (1 : Int32)))]) rfl (XS.iloadN X24.here hx rfl (hb hby (d33 170)) rfl q))) ?_
  show OF _ _ _ _ (T24.setTop (mkF m 226 #[.val (.long q0), .second, vr a1, vi (own_g12 q0)] [(.int (own_g12 q0))]))
  refine oS (fun _ q => XS.lloadN X24.here hx rfl (hb hby (d33 171)) rfl (XS.aloadN X24.here hx rfl (hb hby (d33 172)) rfl rfl (XS.bipush X24.here hx rfl (hb hby (d33 173)) q))) ?_
  have Vo25 : Arv Z h0 a1 k_a1 .long (19 : Int32) own_pv (.long 0) := V_a1
  obtain ⟨cl25, Ar25, qa25, Sa25, Na25, Ha25, Ga25⟩ := id Vo25
  have hin25 : ¬ ((13 : Int32) < 0 ∨ cl25.slots.size ≤ ((13 : Int32)).toNatClampNeg) := inb_of Sa25 ⟨by decide, by decide⟩
  refine oS (X24.laload hx (j := (13 : Int32)) (v := (.long 10000000000000)) (by rw [e24]; exact Ar25.1) (State.isArrayOf_alike (hZ).alike Ar25.2.1) Ar25.2.2 hin25 (Ha25.at hin25 rfl) (g := (mkF m 230 #[.val (.long q0), .second, vr a1, vi (own_g12 q0)] [(.int 13), (.ref a1), (.long q0), (.int (own_g12 q0))])) rfl rfl (hb hby (d33 174))) ?_
  show OF _ _ _ _ (T24.setTop (mkF m 231 _ _))
  refine oS (fun _ q => XS.ldiv X24.here hx rfl (hb hby (d33 175)) rfl (by decide) (XS.lconst X24.here hx rfl (hb hby (d33 176)) (XS.lcmp X24.here hx rfl (hb hby (d33 177)) rfl q))) ?_
  suffices H26 : ∀ (T : State) (lc : List Loc), Stand p l e ({ frames := 0, cells := 0, slots := 0, locals := 0 } : Room) s m #[(.long q0), (.ref a1)] below meth c T lc 0 0 → Fr n0 lc → T.heap = h0 → OF p.tables e below GG (T.setTop (mkF m 242 #[.val (.long q0), .second, vr a1, vi (own_g12 q0)] [(.int (if (q0 / 10000000000000) = 0 then (0 : Int32) else (1 : Int32))), (.int (own_g12 q0))])) by
   by_cases hc26 : (q0 / 10000000000000) = 0
   ·
    refine oS (fun _ q => XS.ifYes X24.here hx rfl (pc0 := 234) (pc' := 241) rfl (hb hby (d33 178)) rfl (Jvm.Free.XT.ll_eq_t hc26) (by decide) (by decide) q) ?_
    show OF _ _ _ _ (T24.setTop (mkF m 241 _ _))
    refine oS (fun _ q => XS.iconst X24.here hx rfl (hb hby (d33 181)) q) ?_
    show OF _ _ _ _ (T24.setTop (mkF m 242 #[.val (.long q0), .second, vr a1, vi (own_g12 q0)] [(.int 0), (.int (own_g12 q0))]))
    have z := H26 _ _ X24 N24 e24
    rw [show ((if (q0 / 10000000000000) = 0 then (0 : Int32) else (1 : Int32)) : Int32) = (0 : Int32) from if_pos hc26] at z
    exact z
   ·
    refine oS (fun _ q => XS.ifNo X24.here hx rfl (hb hby (d33 178)) rfl (Jvm.Free.XT.ll_eq_f hc26) q) ?_
    show OF _ _ _ _ (T24.setTop (mkF m 237 _ _))
    refine oS (fun _ q => XS.iconst X24.here hx rfl (hb hby (d33 179)) (XS.goto X24.here hx rfl (pc0 := 238) (pc' := 242) rfl (hb hby (d33 180)) (by decide) (by decide) q)) ?_
    show OF _ _ _ _ (T24.setTop (mkF m 242 #[.val (.long q0), .second, vr a1, vi (own_g12 q0)] [(.int 1), (.int (own_g12 q0))]))
    have z := H26 _ _ X24 N24 e24
    rw [show ((if (q0 / 10000000000000) = 0 then (0 : Int32) else (1 : Int32)) : Int32) = (1 : Int32) from if_neg hc26] at z
    exact z
  intro T26 lc26 X26 N26 e26
  show OF _ _ _ _ (T26.setTop (mkF m 242 #[.val (.long q0), .second, vr a1, vi (own_g12 q0)] [(.int (if (q0 / 10000000000000) = 0 then (0 : Int32) else (1 : Int32))), (.int (own_g12 q0))]))
  refine oS (fun _ q => XS.iadd X26.here hx rfl (hb hby (d33 182)) rfl (XS.istoreN X26.here hx rfl (hb hby (d33 183)) rfl (l' := #[.val (.long q0), .second, vr a1, vi ((own_g12 q0) + (if (q0 / 10000000000000) = 0 then (0 : Int32) else (1 : Int32)))]) rfl (XS.iloadN X26.here hx rfl (hb hby (d33 184)) rfl q))) ?_
  show OF _ _ _ _ (T26.setTop (mkF m 245 #[.val (.long q0), .second, vr a1, vi (own_g13 q0)] [(.int (own_g13 q0))]))
  refine oS (fun _ q => XS.lloadN X26.here hx rfl (hb hby (d33 185)) rfl (XS.aloadN X26.here hx rfl (hb hby (d33 186)) rfl rfl (XS.bipush X26.here hx rfl (hb hby (d33 187)) q))) ?_
  have Vo27 : Arv Z h0 a1 k_a1 .long (19 : Int32) own_pv (.long 0) := V_a1
  obtain ⟨cl27, Ar27, qa27, Sa27, Na27, Ha27, Ga27⟩ := id Vo27
  have hin27 : ¬ ((14 : Int32) < 0 ∨ cl27.slots.size ≤ ((14 : Int32)).toNatClampNeg) := inb_of Sa27 ⟨by decide, by decide⟩
  refine oS (X26.laload hx (j := (14 : Int32)) (v := (.long 100000000000000)) (by rw [e26]; exact Ar27.1) (State.isArrayOf_alike (hZ).alike Ar27.2.1) Ar27.2.2 hin27 (Ha27.at hin27 rfl) (g := (mkF m 249 #[.val (.long q0), .second, vr a1, vi (own_g13 q0)] [(.int 14), (.ref a1), (.long q0), (.int (own_g13 q0))])) rfl rfl (hb hby (d33 188))) ?_
  show OF _ _ _ _ (T26.setTop (mkF m 250 _ _))
  refine oS (fun _ q => XS.ldiv X26.here hx rfl (hb hby (d33 189)) rfl (by decide) (XS.lconst X26.here hx rfl (hb hby (d33 190)) (XS.lcmp X26.here hx rfl (hb hby (d33 191)) rfl q))) ?_
  suffices H28 : ∀ (T : State) (lc : List Loc), Stand p l e ({ frames := 0, cells := 0, slots := 0, locals := 0 } : Room) s m #[(.long q0), (.ref a1)] below meth c T lc 0 0 → Fr n0 lc → T.heap = h0 → OF p.tables e below GG (T.setTop (mkF m 261 #[.val (.long q0), .second, vr a1, vi (own_g13 q0)] [(.int (if (q0 / 100000000000000) = 0 then (0 : Int32) else (1 : Int32))), (.int (own_g13 q0))])) by
   by_cases hc28 : (q0 / 100000000000000) = 0
   ·
    refine oS (fun _ q => XS.ifYes X26.here hx rfl (pc0 := 253) (pc' := 260) rfl (hb hby (d33 192)) rfl (Jvm.Free.XT.ll_eq_t hc28) (by decide) (by decide) q) ?_
    show OF _ _ _ _ (T26.setTop (mkF m 260 _ _))
    refine oS (fun _ q => XS.iconst X26.here hx rfl (hb hby (d33 195)) q) ?_
    show OF _ _ _ _ (T26.setTop (mkF m 261 #[.val (.long q0), .second, vr a1, vi (own_g13 q0)] [(.int 0), (.int (own_g13 q0))]))
    have z := H28 _ _ X26 N26 e26
    rw [show ((if (q0 / 100000000000000) = 0 then (0 : Int32) else (1 : Int32)) : Int32) = (0 : Int32) from if_pos hc28] at z
    exact z
   ·
    refine oS (fun _ q => XS.ifNo X26.here hx rfl (hb hby (d33 192)) rfl (Jvm.Free.XT.ll_eq_f hc28) q) ?_
    show OF _ _ _ _ (T26.setTop (mkF m 256 _ _))
    refine oS (fun _ q => XS.iconst X26.here hx rfl (hb hby (d33 193)) (XS.goto X26.here hx rfl (pc0 := 257) (pc' := 261) rfl (hb hby (d33 194)) (by decide) (by decide) q)) ?_
    show OF _ _ _ _ (T26.setTop (mkF m 261 #[.val (.long q0), .second, vr a1, vi (own_g13 q0)] [(.int 1), (.int (own_g13 q0))]))
    have z := H28 _ _ X26 N26 e26
    rw [show ((if (q0 / 100000000000000) = 0 then (0 : Int32) else (1 : Int32)) : Int32) = (1 : Int32) from if_neg hc28] at z
    exact z
  intro T28 lc28 X28 N28 e28
  show OF _ _ _ _ (T28.setTop (mkF m 261 #[.val (.long q0), .second, vr a1, vi (own_g13 q0)] [(.int (if (q0 / 100000000000000) = 0 then (0 : Int32) else (1 : Int32))), (.int (own_g13 q0))]))
  refine oS (fun _ q => XS.iadd X28.here hx rfl (hb hby (d33 196)) rfl (XS.istoreN X28.here hx rfl (hb hby (d33 197)) rfl (l' := #[.val (.long q0), .second, vr a1, vi ((own_g13 q0) + (if (q0 / 100000000000000) = 0 then (0 : Int32) else (1 : Int32)))]) rfl (XS.iloadN X28.here hx rfl (hb hby (d33 198)) rfl q))) ?_
  show OF _ _ _ _ (T28.setTop (mkF m 264 #[.val (.long q0), .second, vr a1, vi (own_g14 q0)] [(.int (own_g14 q0))]))
  refine oS (fun _ q => XS.lloadN X28.here hx rfl (hb hby (d33 199)) rfl (XS.aloadN X28.here hx rfl (hb hby (d33 200)) rfl rfl (XS.bipush X28.here hx rfl (hb hby (d33 201)) q))) ?_
  have Vo29 : Arv Z h0 a1 k_a1 .long (19 : Int32) own_pv (.long 0) := V_a1
  obtain ⟨cl29, Ar29, qa29, Sa29, Na29, Ha29, Ga29⟩ := id Vo29
  have hin29 : ¬ ((15 : Int32) < 0 ∨ cl29.slots.size ≤ ((15 : Int32)).toNatClampNeg) := inb_of Sa29 ⟨by decide, by decide⟩
  refine oS (X28.laload hx (j := (15 : Int32)) (v := (.long 1000000000000000)) (by rw [e28]; exact Ar29.1) (State.isArrayOf_alike (hZ).alike Ar29.2.1) Ar29.2.2 hin29 (Ha29.at hin29 rfl) (g := (mkF m 268 #[.val (.long q0), .second, vr a1, vi (own_g14 q0)] [(.int 15), (.ref a1), (.long q0), (.int (own_g14 q0))])) rfl rfl (hb hby (d33 202))) ?_
  show OF _ _ _ _ (T28.setTop (mkF m 269 _ _))
  refine oS (fun _ q => XS.ldiv X28.here hx rfl (hb hby (d33 203)) rfl (by decide) (XS.lconst X28.here hx rfl (hb hby (d33 204)) (XS.lcmp X28.here hx rfl (hb hby (d33 205)) rfl q))) ?_
  suffices H30 : ∀ (T : State) (lc : List Loc), Stand p l e ({ frames := 0, cells := 0, slots := 0, locals := 0 } : Room) s m #[(.long q0), (.ref a1)] below meth c T lc 0 0 → Fr n0 lc → T.heap = h0 → OF p.tables e below GG (T.setTop (mkF m 280 #[.val (.long q0), .second, vr a1, vi (own_g14 q0)] [(.int (if (q0 / 1000000000000000) = 0 then (0 : Int32) else (1 : Int32))), (.int (own_g14 q0))])) by
   by_cases hc30 : (q0 / 1000000000000000) = 0
   ·
    refine oS (fun _ q => XS.ifYes X28.here hx rfl (pc0 := 272) (pc' := 279) rfl (hb hby (d33 206)) rfl (Jvm.Free.XT.ll_eq_t hc30) (by decide) (by decide) q) ?_
    show OF _ _ _ _ (T28.setTop (mkF m 279 _ _))
    refine oS (fun _ q => XS.iconst X28.here hx rfl (hb hby (d33 209)) q) ?_
    show OF _ _ _ _ (T28.setTop (mkF m 280 #[.val (.long q0), .second, vr a1, vi (own_g14 q0)] [(.int 0), (.int (own_g14 q0))]))
    have z := H30 _ _ X28 N28 e28
    rw [show ((if (q0 / 1000000000000000) = 0 then (0 : Int32) else (1 : Int32)) : Int32) = (0 : Int32) from if_pos hc30] at z
    exact z
   ·
    refine oS (fun _ q => XS.ifNo X28.here hx rfl (hb hby (d33 206)) rfl (Jvm.Free.XT.ll_eq_f hc30) q) ?_
    show OF _ _ _ _ (T28.setTop (mkF m 275 _ _))
    refine oS (fun _ q => XS.iconst X28.here hx rfl (hb hby (d33 207)) (XS.goto X28.here hx rfl (pc0 := 276) (pc' := 280) rfl (hb hby (d33 208)) (by decide) (by decide) q)) ?_
    show OF _ _ _ _ (T28.setTop (mkF m 280 #[.val (.long q0), .second, vr a1, vi (own_g14 q0)] [(.int 1), (.int (own_g14 q0))]))
    have z := H30 _ _ X28 N28 e28
    rw [show ((if (q0 / 1000000000000000) = 0 then (0 : Int32) else (1 : Int32)) : Int32) = (1 : Int32) from if_neg hc30] at z
    exact z
  intro T30 lc30 X30 N30 e30
  show OF _ _ _ _ (T30.setTop (mkF m 280 #[.val (.long q0), .second, vr a1, vi (own_g14 q0)] [(.int (if (q0 / 1000000000000000) = 0 then (0 : Int32) else (1 : Int32))), (.int (own_g14 q0))]))
  refine oS (fun _ q => XS.iadd X30.here hx rfl (hb hby (d33 210)) rfl (XS.istoreN X30.here hx rfl (hb hby (d33 211)) rfl (l' := #[.val (.long q0), .second, vr a1, vi ((own_g14 q0) + (if (q0 / 1000000000000000) = 0 then (0 : Int32) else (1 : Int32)))]) rfl (XS.iloadN X30.here hx rfl (hb hby (d33 212)) rfl q))) ?_
  show OF _ _ _ _ (T30.setTop (mkF m 283 #[.val (.long q0), .second, vr a1, vi (own_g15 q0)] [(.int (own_g15 q0))]))
  refine oS (fun _ q => XS.lloadN X30.here hx rfl (hb hby (d33 213)) rfl (XS.aloadN X30.here hx rfl (hb hby (d33 214)) rfl rfl (XS.bipush X30.here hx rfl (hb hby (d33 215)) q))) ?_
  have Vo31 : Arv Z h0 a1 k_a1 .long (19 : Int32) own_pv (.long 0) := V_a1
  obtain ⟨cl31, Ar31, qa31, Sa31, Na31, Ha31, Ga31⟩ := id Vo31
  have hin31 : ¬ ((16 : Int32) < 0 ∨ cl31.slots.size ≤ ((16 : Int32)).toNatClampNeg) := inb_of Sa31 ⟨by decide, by decide⟩
  refine oS (X30.laload hx (j := (16 : Int32)) (v := (.long 10000000000000000)) (by rw [e30]; exact Ar31.1) (State.isArrayOf_alike (hZ).alike Ar31.2.1) Ar31.2.2 hin31 (Ha31.at hin31 rfl) (g := (mkF m 287 #[.val (.long q0), .second, vr a1, vi (own_g15 q0)] [(.int 16), (.ref a1), (.long q0), (.int (own_g15 q0))])) rfl rfl (hb hby (d33 216))) ?_
  show OF _ _ _ _ (T30.setTop (mkF m 288 _ _))
  refine oS (fun _ q => XS.ldiv X30.here hx rfl (hb hby (d33 217)) rfl (by decide) (XS.lconst X30.here hx rfl (hb hby (d33 218)) (XS.lcmp X30.here hx rfl (hb hby (d33 219)) rfl q))) ?_
  suffices H32 : ∀ (T : State) (lc : List Loc), Stand p l e ({ frames := 0, cells := 0, slots := 0, locals := 0 } : Room) s m #[(.long q0), (.ref a1)] below meth c T lc 0 0 → Fr n0 lc → T.heap = h0 → OF p.tables e below GG (T.setTop (mkF m 299 #[.val (.long q0), .second, vr a1, vi (own_g15 q0)] [(.int (if (q0 / 10000000000000000) = 0 then (0 : Int32) else (1 : Int32))), (.int (own_g15 q0))])) by
   by_cases hc32 : (q0 / 10000000000000000) = 0
   ·
    refine oS (fun _ q => XS.ifYes X30.here hx rfl (pc0 := 291) (pc' := 298) rfl (hb hby (d33 220)) rfl (Jvm.Free.XT.ll_eq_t hc32) (by decide) (by decide) q) ?_
    show OF _ _ _ _ (T30.setTop (mkF m 298 _ _))
    refine oS (fun _ q => XS.iconst X30.here hx rfl (hb hby (d33 223)) q) ?_
    show OF _ _ _ _ (T30.setTop (mkF m 299 #[.val (.long q0), .second, vr a1, vi (own_g15 q0)] [(.int 0), (.int (own_g15 q0))]))
    have z := H32 _ _ X30 N30 e30
    rw [show ((if (q0 / 10000000000000000) = 0 then (0 : Int32) else (1 : Int32)) : Int32) = (0 : Int32) from if_pos hc32] at z
    exact z
   ·
    refine oS (fun _ q => XS.ifNo X30.here hx rfl (hb hby (d33 220)) rfl (Jvm.Free.XT.ll_eq_f hc32) q) ?_
    show OF _ _ _ _ (T30.setTop (mkF m 294 _ _))
    refine oS (fun _ q => XS.iconst X30.here hx rfl (hb hby (d33 221)) (XS.goto X30.here hx rfl (pc0 := 295) (pc' := 299) rfl (hb hby (d33 222)) (by decide) (by decide) q)) ?_
    show OF _ _ _ _ (T30.setTop (mkF m 299 #[.val (.long q0), .second, vr a1, vi (own_g15 q0)] [(.int 1), (.int (own_g15 q0))]))
    have z := H32 _ _ X30 N30 e30
    rw [show ((if (q0 / 10000000000000000) = 0 then (0 : Int32) else (1 : Int32)) : Int32) = (1 : Int32) from if_neg hc32] at z
    exact z
  intro T32 lc32 X32 N32 e32
  show OF _ _ _ _ (T32.setTop (mkF m 299 #[.val (.long q0), .second, vr a1, vi (own_g15 q0)] [(.int (if (q0 / 10000000000000000) = 0 then (0 : Int32) else (1 : Int32))), (.int (own_g15 q0))]))
  refine oS (fun _ q => XS.iadd X32.here hx rfl (hb hby (d33 224)) rfl (XS.istoreN X32.here hx rfl (hb hby (d33 225)) rfl (l' := #[.val (.long q0), .second, vr a1, vi ((own_g15 q0) + (if (q0 / 10000000000000000) = 0 then (0 : Int32) else (1 : Int32)))]) rfl (XS.iloadN X32.here hx rfl (hb hby (d33 226)) rfl q))) ?_
  show OF _ _ _ _ (T32.setTop (mkF m 302 #[.val (.long q0), .second, vr a1, vi (own_g16 q0)] [(.int (own_g16 q0))]))
  refine oS (fun _ q => XS.lloadN X32.here hx rfl (hb hby (d33 227)) rfl (XS.aloadN X32.here hx rfl (hb hby (d33 228)) rfl rfl (XS.bipush X32.here hx rfl (hb hby (d33 229)) q))) ?_
  have Vo33 : Arv Z h0 a1 k_a1 .long (19 : Int32) own_pv (.long 0) := V_a1
  obtain ⟨cl33, Ar33, qa33, Sa33, Na33, Ha33, Ga33⟩ := id Vo33
  have hin33 : ¬ ((17 : Int32) < 0 ∨ cl33.slots.size ≤ ((17 : Int32)).toNatClampNeg) := inb_of Sa33 ⟨by decide, by decide⟩
  refine oS (X32.laload hx (j := (17 : Int32)) (v := (.long 100000000000000000)) (by rw [e32]; exact Ar33.1) (State.isArrayOf_alike (hZ).alike Ar33.2.1) Ar33.2.2 hin33 (Ha33.at hin33 rfl) (g := (mkF m 306 #[.val (.long q0), .second, vr a1, vi (own_g16 q0)] [(.int 17), (.ref a1), (.long q0), (.int (own_g16 q0))])) rfl rfl (hb hby (d33 230))) ?_
  show OF _ _ _ _ (T32.setTop (mkF m 307 _ _))
  refine oS (fun _ q => XS.ldiv X32.here hx rfl (hb hby (d33 231)) rfl (by decide) (XS.lconst X32.here hx rfl (hb hby (d33 232)) (XS.lcmp X32.here hx rfl (hb hby (d33 233)) rfl q))) ?_
  suffices H34 : ∀ (T : State) (lc : List Loc), Stand p l e ({ frames := 0, cells := 0, slots := 0, locals := 0 } : Room) s m #[(.long q0), (.ref a1)] below meth c T lc 0 0 → Fr n0 lc → T.heap = h0 → OF p.tables e below GG (T.setTop (mkF m 318 #[.val (.long q0), .second, vr a1, vi (own_g16 q0)] [(.int (if (q0 / 100000000000000000) = 0 then (0 : Int32) else (1 : Int32))), (.int (own_g16 q0))])) by
   by_cases hc34 : (q0 / 100000000000000000) = 0
   ·
    refine oS (fun _ q => XS.ifYes X32.here hx rfl (pc0 := 310) (pc' := 317) rfl (hb hby (d33 234)) rfl (Jvm.Free.XT.ll_eq_t hc34) (by decide) (by decide) q) ?_
    show OF _ _ _ _ (T32.setTop (mkF m 317 _ _))
    refine oS (fun _ q => XS.iconst X32.here hx rfl (hb hby (d33 237)) q) ?_
    show OF _ _ _ _ (T32.setTop (mkF m 318 #[.val (.long q0), .second, vr a1, vi (own_g16 q0)] [(.int 0), (.int (own_g16 q0))]))
    have z := H34 _ _ X32 N32 e32
    rw [show ((if (q0 / 100000000000000000) = 0 then (0 : Int32) else (1 : Int32)) : Int32) = (0 : Int32) from if_pos hc34] at z
    exact z
   ·
    refine oS (fun _ q => XS.ifNo X32.here hx rfl (hb hby (d33 234)) rfl (Jvm.Free.XT.ll_eq_f hc34) q) ?_
    show OF _ _ _ _ (T32.setTop (mkF m 313 _ _))
    refine oS (fun _ q => XS.iconst X32.here hx rfl (hb hby (d33 235)) (XS.goto X32.here hx rfl (pc0 := 314) (pc' := 318) rfl (hb hby (d33 236)) (by decide) (by decide) q)) ?_
    show OF _ _ _ _ (T32.setTop (mkF m 318 #[.val (.long q0), .second, vr a1, vi (own_g16 q0)] [(.int 1), (.int (own_g16 q0))]))
    have z := H34 _ _ X32 N32 e32
    rw [show ((if (q0 / 100000000000000000) = 0 then (0 : Int32) else (1 : Int32)) : Int32) = (1 : Int32) from if_neg hc34] at z
    exact z
  intro T34 lc34 X34 N34 e34
  show OF _ _ _ _ (T34.setTop (mkF m 318 #[.val (.long q0), .second, vr a1, vi (own_g16 q0)] [(.int (if (q0 / 100000000000000000) = 0 then (0 : Int32) else (1 : Int32))), (.int (own_g16 q0))]))
  refine oS (fun _ q => XS.iadd X34.here hx rfl (hb hby (d33 238)) rfl (XS.istoreN X34.here hx rfl (hb hby (d33 239)) rfl (l' := #[.val (.long q0), .second, vr a1, vi ((own_g16 q0) + (if (q0 / 100000000000000000) = 0 then (0 : Int32) else (1 : Int32)))]) rfl (XS.iloadN X34.here hx rfl (hb hby (d33 240)) rfl q))) ?_
  show OF _ _ _ _ (T34.setTop (mkF m 321 #[.val (.long q0), .second, vr a1, vi (own_g17 q0)] [(.int (own_g17 q0))]))
  refine oS (fun _ q => XS.lloadN X34.here hx rfl (hb hby (d33 241)) rfl (XS.aloadN X34.here hx rfl (hb hby (d33 242)) rfl rfl (XS.bipush X34.here hx rfl (hb hby (d33 243)) q))) ?_
  have Vo35 : Arv Z h0 a1 k_a1 .long (19 : Int32) own_pv (.long 0) := V_a1
  obtain ⟨cl35, Ar35, qa35, Sa35, Na35, Ha35, Ga35⟩ := id Vo35
  have hin35 : ¬ ((18 : Int32) < 0 ∨ cl35.slots.size ≤ ((18 : Int32)).toNatClampNeg) := inb_of Sa35 ⟨by decide, by decide⟩
  refine oS (X34.laload hx (j := (18 : Int32)) (v := (.long 1000000000000000000)) (by rw [e34]; exact Ar35.1) (State.isArrayOf_alike (hZ).alike Ar35.2.1) Ar35.2.2 hin35 (Ha35.at hin35 rfl) (g := (mkF m 325 #[.val (.long q0), .second, vr a1, vi (own_g17 q0)] [(.int 18), (.ref a1), (.long q0), (.int (own_g17 q0))])) rfl rfl (hb hby (d33 244))) ?_
  show OF _ _ _ _ (T34.setTop (mkF m 326 _ _))
  refine oS (fun _ q => XS.ldiv X34.here hx rfl (hb hby (d33 245)) rfl (by decide) (XS.lconst X34.here hx rfl (hb hby (d33 246)) (XS.lcmp X34.here hx rfl (hb hby (d33 247)) rfl q))) ?_
  suffices H36 : ∀ (T : State) (lc : List Loc), Stand p l e ({ frames := 0, cells := 0, slots := 0, locals := 0 } : Room) s m #[(.long q0), (.ref a1)] below meth c T lc 0 0 → Fr n0 lc → T.heap = h0 → OF p.tables e below GG (T.setTop (mkF m 337 #[.val (.long q0), .second, vr a1, vi (own_g17 q0)] [(.int (if (q0 / 1000000000000000000) = 0 then (0 : Int32) else (1 : Int32))), (.int (own_g17 q0))])) by
   by_cases hc36 : (q0 / 1000000000000000000) = 0
   ·
    refine oS (fun _ q => XS.ifYes X34.here hx rfl (pc0 := 329) (pc' := 336) rfl (hb hby (d33 248)) rfl (Jvm.Free.XT.ll_eq_t hc36) (by decide) (by decide) q) ?_
    show OF _ _ _ _ (T34.setTop (mkF m 336 _ _))
    refine oS (fun _ q => XS.iconst X34.here hx rfl (hb hby (d33 251)) q) ?_
    show OF _ _ _ _ (T34.setTop (mkF m 337 #[.val (.long q0), .second, vr a1, vi (own_g17 q0)] [(.int 0), (.int (own_g17 q0))]))
    have z := H36 _ _ X34 N34 e34
    rw [show ((if (q0 / 1000000000000000000) = 0 then (0 : Int32) else (1 : Int32)) : Int32) = (0 : Int32) from if_pos hc36] at z
    exact z
   ·
    refine oS (fun _ q => XS.ifNo X34.here hx rfl (hb hby (d33 248)) rfl (Jvm.Free.XT.ll_eq_f hc36) q) ?_
    show OF _ _ _ _ (T34.setTop (mkF m 332 _ _))
    refine oS (fun _ q => XS.iconst X34.here hx rfl (hb hby (d33 249)) (XS.goto X34.here hx rfl (pc0 := 333) (pc' := 337) rfl (hb hby (d33 250)) (by decide) (by decide) q)) ?_
    show OF _ _ _ _ (T34.setTop (mkF m 337 #[.val (.long q0), .second, vr a1, vi (own_g17 q0)] [(.int 1), (.int (own_g17 q0))]))
    have z := H36 _ _ X34 N34 e34
    rw [show ((if (q0 / 1000000000000000000) = 0 then (0 : Int32) else (1 : Int32)) : Int32) = (1 : Int32) from if_neg hc36] at z
    exact z
  intro T36 lc36 X36 N36 e36
  show OF _ _ _ _ (T36.setTop (mkF m 337 #[.val (.long q0), .second, vr a1, vi (own_g17 q0)] [(.int (if (q0 / 1000000000000000000) = 0 then (0 : Int32) else (1 : Int32))), (.int (own_g17 q0))]))
  refine oS (fun _ q => XS.iadd X36.here hx rfl (hb hby (d33 252)) rfl (XS.istoreN X36.here hx rfl (hb hby (d33 253)) rfl (l' := #[.val (.long q0), .second, vr a1, vi ((own_g17 q0) + (if (q0 / 1000000000000000000) = 0 then (0 : Int32) else (1 : Int32)))]) rfl (XS.iloadN X36.here hx rfl (hb hby (d33 254)) rfl q))) ?_
  show OF _ _ _ _ (T36.setTop (mkF m 340 #[.val (.long q0), .second, vr a1, vi (own_g18 q0)] [(.int (own_g18 q0))]))
  rw [hGG]
  obtain ⟨fs, hr, hrun, hended, hW, hsame⟩ := X36.leave (v := some (.int (own_g18 q0))) (fun h => by rw [Bd.returns] at h; cases h)
  refine ⟨_, _, retI X36 hx Bd.returns (hb hby (d33 255)) hr, hrun, hended, _, _, rfl, ?_, ⟨_, rfl⟩, hW, hsame.mono (by decide) (by decide)⟩
  show Q_rm_dgs Z q0 a1 k_a1 h0 n0 _ T36.heap _
  rw [e36]
  refine ⟨?_, N36, rfl⟩
  rfl
def own_abs (p0 : Int32) : Int32 := if p0 < 0 then (-p0) else p0
abbrev C41 := jdk_29_method_59_code
def L41 : List (Nat × Instr × Nat) := [(0, .iload_n 0, 1), (1, .ifCond .ge 8, 3), (4, .iload_n 0, 1), (5, .ineg, 1), (6, .goto 4, 3), (9, .iload_n 0, 1), (10, .ireturn, 1)]
theorem d41 : ∀ i : Fin 7, decode C41 (L41.get i).1 = .ok (L41.get i).2 := by decide +kernel
theorem ef_rm_abs (m : MethodId) (p0 : Int32) : entryFrame m #[(.int p0)] 1 = mkF m 0 #[.val (.int p0)] [] := by first | (simp [entryFrame, mkF, argsToLocals, Value.category]; done) | rfl
def Q_rm_abs (Z : State) (p0 : Int32) (h0 : Heap) (n0 : Nat) (v : Option Value) (h : Heap) (L : List Loc) : Prop := v = some (.int (own_abs p0)) ∧ Fr n0 L ∧ h = h0
set_option maxRecDepth 65536 in
set_option maxHeartbeats 40000000 in
theorem rm_abs (l : Launch) (Z : State) (av0 : Array Value) (hw : ∀ d ∈ tables_1, d.before av0 Z = true) (ws : List Jvm.Cond) (p0 : Int32) (h0 : Heap) (n0 : Nat) (Z0 : n0 ≤ h0.size) :
    own_MF l Z h0 yM41 (Jvm.Cond.code yM41 jdk_29_method_59_code 1 (some .int) :: ws) ({ frames := 0, cells := 0, slots := 0, locals := 0 } : Room) #[(.int p0)] (Q_rm_abs Z p0 h0 n0) := by
  refine own_ent (own := "java/lang/Math") (Jvm.Free.JP.mathPlain rfl (by decide +kernel)) rfl ?_
  intro p e s m below meth c s₁ Bd hx hby hml hZ hh hown hnm X0 e0
  have N0 := Fr.nil n0
  have kp0 : Keep h0 h0 [] := Keep.refl _ _
  refine oS (fun _ q => castTop (ef_rm_abs m p0) q) ?_
  show OF _ _ _ _ (s₁.setTop (mkF m 0 #[vi p0] []))
  refine oS (fun _ q => XS.iloadN X0.here hx rfl (hb hby (d41 0)) rfl q) ?_
  by_cases hc1 : p0 < 0
  ·
   refine oS (fun _ q => XS.ifNo X0.here hx rfl (hb hby (d41 1)) rfl (Jvm.Free.XT.i0_ge_f hc1) q) ?_
   show OF _ _ _ _ (s₁.setTop (mkF m 4 _ _))
   refine oS (fun _ q => XS.iloadN X0.here hx rfl (hb hby (d41 2)) rfl (XS.ineg X0.here hx rfl (hb hby (d41 3)) rfl (XS.goto X0.here hx rfl (pc0 := 6) (pc' := 10) rfl (hb hby (d41 4)) (by decide) (by decide) q))) ?_
   obtain ⟨fs, hr, hrun, hended, hW, hsame⟩ := X0.leave (v := some (.int (-p0))) (fun h => by rw [Bd.returns] at h; cases h)
   refine ⟨_, _, retI X0 hx Bd.returns (hb hby (d41 6)) hr, hrun, hended, _, _, rfl, ?_, ⟨_, rfl⟩, hW, hsame.mono (by decide) (by decide)⟩
   show Q_rm_abs Z p0 h0 n0 _ s₁.heap _
   rw [e0]
   refine ⟨?_, N0, rfl⟩
   unfold own_abs
   rw [if_pos hc1]
  ·
   refine oS (fun _ q => XS.ifYes X0.here hx rfl (pc0 := 1) (pc' := 9) rfl (hb hby (d41 1)) rfl (Jvm.Free.XT.i0_ge_t hc1) (by decide) (by decide) q) ?_
   show OF _ _ _ _ (s₁.setTop (mkF m 9 _ _))
   refine oS (fun _ q => XS.iloadN X0.here hx rfl (hb hby (d41 5)) rfl q) ?_
   obtain ⟨fs, hr, hrun, hended, hW, hsame⟩ := X0.leave (v := some (.int p0)) (fun h => by rw [Bd.returns] at h; cases h)
   refine ⟨_, _, retI X0 hx Bd.returns (hb hby (d41 6)) hr, hrun, hended, _, _, rfl, ?_, ⟨_, rfl⟩, hW, hsame.mono (by decide) (by decide)⟩
   show Q_rm_abs Z p0 h0 n0 _ s₁.heap _
   rw [e0]
   refine ⟨?_, N0, rfl⟩
   unfold own_abs
   rw [if_neg hc1]
def own_pl : List Int64 := [(1 : Int64), (10 : Int64), (100 : Int64), (1000 : Int64), (10000 : Int64), (100000 : Int64), (1000000 : Int64), (10000000 : Int64), (100000000 : Int64), (1000000000 : Int64), (10000000000 : Int64), (100000000000 : Int64), (1000000000000 : Int64), (10000000000000 : Int64), (100000000000000 : Int64), (1000000000000000 : Int64), (10000000000000000 : Int64), (100000000000000000 : Int64), (1000000000000000000 : Int64)]
def own_pw (k : Int32) : Int64 := own_pl.getD k.toNatClampNeg 0
theorem own_pwat (k : Int32) : own_pv.getD k.toNatClampNeg (.long 0) = .long (own_pw k) := by
  show (own_pl.map Value.long).getD k.toNatClampNeg (.long 0) = .long (own_pw k)
  unfold own_pw; rw [List.getD_eq_getElem?_getD, List.getD_eq_getElem?_getD, List.getElem?_map]; cases own_pl[k.toNatClampNeg]? <;> rfl
theorem own_pwk {k : Int32} (h : ¬ k < 0 ∧ k < 19) : k.toNatClampNeg < 19 := own_idx h
theorem own_pwv {k : Int32} (h : ¬ k < 0 ∧ k < 19) : (own_pw k).toInt = ((10 ^ k.toNatClampNeg : Nat) : Int) := by
  have q : ∀ n : Fin 19, (own_pl.getD n.1 0).toInt = ((10 ^ n.1 : Nat) : Int) := by decide +kernel
  exact q ⟨k.toNatClampNeg, own_pwk h⟩
theorem own_pwnz {k : Int32} (h : ¬ k < 0 ∧ k < 19) : ¬ own_pw k = 0 := fun e => by
  have v := own_pwv h; rw [e] at v; have : 0 < 10 ^ k.toNatClampNeg := Nat.pow_pos (by decide)
  have r : (0 : Int64).toInt = 0 := rfl
  omega
theorem pd_29 : parseMethodDescriptor "(I)C" = some ⟨[.int], some .char⟩ := by decide +kernel
abbrev C40 := method_5_code
def L40 : List (Nat × Instr × Nat) := [(0, .iload 6, 2), (2, .iload 4, 2), (4, .if_icmp .lt 5, 3), (7, .iconst 1, 1), (8, .ireturn, 1), (9, .lload_n 2, 1), (10, .aload 5, 2), (12, .iload 6, 2), (14, .laload, 1), (15, .ldiv, 1), (16, .ldc2_w 7, 3), (19, .lrem, 1), (20, .l2i, 1), (21, .invokestatic 76, 3), (24, .istore 7, 2), (26, .aload_n 0, 1), (27, .iload_n 1, 1), (28, .iload 6, 2), (30, .isub, 1), (31, .invokevirtual 64, 3), (34, .bipush 48, 2), (36, .iload 7, 2), (38, .iadd, 1), (39, .i2c, 1), (40, .if_icmp .ne 7, 3), (43, .iconst 1, 1), (44, .goto 4, 3), (48, .ireturn, 1)]
theorem d40 : ∀ i : Fin 28, decode C40 (L40.get i).1 = .ok (L40.get i).2 := by decide +kernel
theorem ef_rm_d (m : MethodId) (a0 : Addr) (p1 : Int32) (q2 : Int64) (p3 : Int32) (a4 : Addr) (p5 : Int32) : entryFrame m #[(.ref a0), (.int p1), (.long q2), (.int p3), (.ref a4), (.int p5)] 8 = mkF m 0 #[.val (.ref a0), .val (.int p1), .val (.long q2), .second, .val (.int p3), .val (.ref a4), .val (.int p5), .unset] [] := by first | (simp [entryFrame, mkF, argsToLocals, Value.category]; done) | rfl
def Q_rm_d (Z : State) (a0 : Addr) (p1 : Int32) (q2 : Int64) (p3 : Int32) (a4 : Addr) (p5 : Int32) (b0 : Addr) (k_b0 : ClassId) (z0 : Int32) (s0 : Nat → Int32) (k_a4 : ClassId) (w_COMPACT_STRINGS : Int32) (w_SIOOBE_FORMATTER : Value) (h0 : Heap) (n0 : Nat) (v : Option Value) (h : Heap) (L : List Loc) : Prop := v = some (.int 1) ∧ Fr n0 L ∧ h = h0
set_option maxRecDepth 65536 in
set_option maxHeartbeats 40000000 in
theorem rm_d (l : Launch) (Z : State) (av0 : Array Value) (hw : ∀ d ∈ tables_1, d.before av0 Z = true) (ws : List Jvm.Cond) (a0 : Addr) (p1 : Int32) (q2 : Int64) (p3 : Int32) (a4 : Addr) (p5 : Int32) (b0 : Addr) (k_b0 : ClassId) (z0 : Int32) (s0 : Nat → Int32) (k_a4 : ClassId) (w_COMPACT_STRINGS : Int32) (w_SIOOBE_FORMATTER : Value) (h0 : Heap) (n0 : Nat) (Z0 : n0 ≤ h0.size) (Ol0 : Old Z n0 h0) (X_a0 : Exa Z h0 a0 "java/lang/String") (F_coder_a0 : Fld Z h0 a0 "java/lang/String" "coder" "B" (.int 0)) (F_value_a0 : Fld Z h0 a0 "java/lang/String" "value" "[B" (.ref b0)) (V_b0 : Arv Z h0 b0 k_b0 .byte z0 (own_ml z0 s0) (.int 0)) (V_a4 : Arv Z h0 a4 k_a4 .long (19 : Int32) own_pv (.long 0)) (hk : ¬ p5 < 0 ∧ p5 < 19) (hd : p5 < p3 → (¬ ((p1 - p5) < 0) ∧ (p1 - p5) < z0) ∧ (own_ch s0 (p1 - p5)) = (((48 : Int32) + (own_abs (((q2 / (own_pw p5)) - ((q2 / (own_pw p5)) / 10) * 10).toInt32))).toUInt32.toUInt16.toUInt32.toInt32)) (hcs : ¬ (w_COMPACT_STRINGS = 0)) (S_COMPACT_STRINGS : Sta Z Z.heap "java/lang/String" "COMPACT_STRINGS" "Z" (.int w_COMPACT_STRINGS)) (S_SIOOBE_FORMATTER : Sta Z Z.heap "jdk/internal/util/Preconditions" "SIOOBE_FORMATTER" "Ljava/util/function/BiFunction;" w_SIOOBE_FORMATTER) (hr_w_SIOOBE_FORMATTER : w_SIOOBE_FORMATTER.isRef = true) :
    own_MF l Z h0 yM42 (Jvm.Cond.code yM42 method_5_code 8 (some .boolean) :: ws) ({ frames := 4, cells := 0, slots := 0, locals := 53 } : Room) #[(.ref a0), (.int p1), (.long q2), (.int p3), (.ref a4), (.int p5)] (Q_rm_d Z a0 p1 q2 p3 a4 p5 b0 k_b0 z0 s0 k_a4 w_COMPACT_STRINGS w_SIOOBE_FORMATTER h0 n0) := by
  refine own_ent (own := "com/example/kwhat/kwhat/ProRataToStringPinLaw") (plainFor_of_name pn_10) rfl ?_
  intro p e s m below meth c s₁ Bd hx hby hml hZ hh hown hnm X0 e0
  have N0 := Fr.nil n0
  have kp0 : Keep h0 h0 [] := Keep.refl _ _
  refine oS (fun _ q => castTop (ef_rm_d m a0 p1 q2 p3 a4 p5) q) ?_
  show OF _ _ _ _ (s₁.setTop (mkF m 0 #[vr a0, vi p1, .val (.long q2), .second, vi p3, vr a4, vi p5, .unset] []))
  refine oS (fun _ q => XS.iload X0.here hx rfl (hb hby (d40 0)) rfl (XS.iload X0.here hx rfl (hb hby (d40 1)) rfl q)) ?_
  by_cases hc1 : p5 < p3
  ·
   refine oS (fun _ q => XS.icmpYes X0.here hx rfl (pc0 := 4) (pc' := 9) rfl (hb hby (d40 2)) rfl (Jvm.Free.XT.ii_lt_t hc1) (by decide) (by decide) q) ?_
   show OF _ _ _ _ (s₁.setTop (mkF m 9 _ _))
   refine oS (fun _ q => XS.lloadN X0.here hx rfl (hb hby (d40 5)) rfl (XS.aload X0.here hx rfl (hb hby (d40 6)) rfl rfl (XS.iload X0.here hx rfl (hb hby (d40 7)) rfl q))) ?_
   have Vo2 : Arv Z h0 a4 k_a4 .long (19 : Int32) own_pv (.long 0) := V_a4
   obtain ⟨cl2, Ar2, qa2, Sa2, Na2, Ha2, Ga2⟩ := id Vo2
   have hin2 := inb_of Sa2 hk
   refine oS (X0.laload hx (j := p5) (v := (.long (own_pw p5))) (by rw [e0]; exact Ar2.1) (State.isArrayOf_alike (hZ).alike Ar2.2.1) Ar2.2.2 hin2 (Ha2.at hin2 (own_pwat _)) (g := (mkF m 14 #[vr a0, vi p1, .val (.long q2), .second, vi p3, vr a4, vi p5, .unset] [(.int p5), (.ref a4), (.long q2)])) rfl rfl (hb hby (d40 8))) ?_
   show OF _ _ _ _ (s₁.setTop (mkF m 15 _ _))
   refine oS (fun _ q => XS.ldiv X0.here hx rfl (hb hby (d40 9)) rfl (own_pwnz hk) q) ?_
   refine oS (X0.ldc2Long hx hown (mvT hZ (w_ hw 1 rfl)) (g := (mkF m 16 #[vr a0, vi p1, .val (.long q2), .second, vi p3, vr a4, vi p5, .unset] [(.long (q2 / (own_pw p5)))])) rfl (hb hby (d40 10))) ?_
   show OF _ _ _ _ (s₁.setTop (mkF m 19 _ _))
   refine oS (fun _ q => XS.lrem X0.here hx rfl (hb hby (d40 11)) rfl (by decide) (XS.l2i X0.here hx rfl (hb hby (d40 12)) rfl q)) ?_
   obtain ⟨_, _, ⟨T3, L3, k3, n3⟩, -, X3, ⟨Lc3, hQ3, l3, y3, z3⟩, st3⟩ := Jvm.LawKit.callS X0 hx (y := yM41) hown (mvT hZ (w_ hw 230 rfl)) (mvT hZ (w_ hw 231 rfl)) (mvT hZ (w_ hw 194 rfl)) (mvT hZ (w_ hw 232 rfl)) (by decide) (backOf (W := 0) (rm_abs l Z av0 hw [] (((q2 / (own_pw p5)) - ((q2 / (own_pw p5)) / 10) * 10).toInt32) h0 n0 (Nat.le_trans Z0 kp0.1) ) hZ (w_ hw 232 rfl) (w_ hw 194 rfl) (by decide) (by decide)) (g := (mkF m 21 #[vr a0, vi p1, .val (.long q2), .second, vi p3, vr a4, vi p5, .unset] [(.int (((q2 / (own_pw p5)) - ((q2 / (own_pw p5)) / 10) * 10).toInt32))])) rfl (by rw [hml]; rfl) (argsL := [(.int (((q2 / (own_pw p5)) - ((q2 / (own_pw p5)) / 10) * 10).toInt32))]) (rest := []) (lenOf pd_3 rfl) rfl (by show 2 * 0 + _ ≤ _; exact Nat.le_of_eq rfl) (hb hby (d40 13)) (fun _ _ => ⟨rfl, e0, (by decide : 0 + 0 ≤ _), (by decide : 0 + 0 ≤ _)⟩)
   dsimp only [Pt.U, Pt.locs, Pt.cells, Pt.slots] at X3 l3 y3 z3 st3 hQ3
   subst l3 y3 z3
   obtain ⟨rfl, N3q, he3⟩ := hQ3
   have N3 := Fr.app N0 N3q
   refine oS st3 ?_
   show OF _ _ _ _ (T3.setTop (mkF m 24 _ _))
   refine oS (fun _ q => XS.istore X3.here hx rfl (hb hby (d40 14)) rfl (l' := #[vr a0, vi p1, .val (.long q2), .second, vi p3, vr a4, vi p5, vi (own_abs (((q2 / (own_pw p5)) - ((q2 / (own_pw p5)) / 10) * 10).toInt32))]) rfl q) ?_
   show OF _ _ _ _ (T3.setTop (mkF m 26 #[vr a0, vi p1, .val (.long q2), .second, vi p3, vr a4, vi p5, vi (own_abs (((q2 / (own_pw p5)) - ((q2 / (own_pw p5)) / 10) * 10).toInt32))] []))
   refine oS (fun _ q => XS.aloadN X3.here hx rfl (hb hby (d40 15)) rfl rfl (XS.iloadN X3.here hx rfl (hb hby (d40 16)) rfl (XS.iload X3.here hx rfl (hb hby (d40 17)) rfl (XS.isub X3.here hx rfl (hb hby (d40 18)) rfl q)))) ?_
   obtain ⟨cq4, kq4, q4a, q4b, q4c⟩ := isOf hZ he3 X_a0
   obtain ⟨_, _, ⟨T4, L4, k4, n4⟩, -, X4, ⟨Lc4, hQ4, l4, y4, z4⟩, st4⟩ := X3.virtualBack hx (y := yM39) (z := yM39) hown (mvT hZ (w_ hw 202 rfl)) (mvT hZ (w_ hw 203 rfl)) (notFace_of_selects (args := #[]) (mvT hZ (w_ hw 205 rfl))) (mvT hZ (w_ hw 205 rfl)) (mvT hZ (w_ hw 204 rfl)) (by decide) (backOf (W := 0) (rm_ca l Z av0 hw [] a0 (p1 - p5) b0 k_b0 z0 s0 w_COMPACT_STRINGS w_SIOOBE_FORMATTER h0 n0 (Nat.le_trans Z0 kp0.1) Ol0 X_a0 F_coder_a0 F_value_a0 V_b0 (hd hc1).1 hcs S_COMPACT_STRINGS S_SIOOBE_FORMATTER hr_w_SIOOBE_FORMATTER) hZ (w_ hw 206 rfl) (w_ hw 51 rfl) (by decide) (by decide)) q4a q4c (g := (mkF m 31 #[vr a0, vi p1, .val (.long q2), .second, vi p3, vr a4, vi p5, vi (own_abs (((q2 / (own_pw p5)) - ((q2 / (own_pw p5)) / 10) * 10).toInt32))] [(.int (p1 - p5)), (.ref a0)])) rfl (by rw [hml]; rfl) (Steps.refl _) (argsL := [(.int (p1 - p5))]) (rest := []) (lenOf pd_29 rfl) rfl (by show 2 * 0 + _ ≤ _; exact Nat.le_of_eq rfl) (hb hby (d40 19)) (fun _ _ => ⟨rfl, he3, (by decide : 0 + 0 ≤ _), (by decide : 0 + 0 ≤ _)⟩)
   dsimp only [Pt.U, Pt.locs, Pt.cells, Pt.slots] at X4 l4 y4 z4 st4 hQ4
   subst l4 y4 z4
   obtain ⟨rfl, N4q, he4⟩ := hQ4
   have N4 := Fr.app N3 N4q
   refine oT st4 ?_
   show OF _ _ _ _ (T4.setTop (mkF m 34 _ _))
   refine oS (fun _ q => XS.bipush X4.here hx rfl (hb hby (d40 20)) (XS.iload X4.here hx rfl (hb hby (d40 21)) rfl (XS.iadd X4.here hx rfl (hb hby (d40 22)) rfl (XS.i2c X4.here hx rfl (hb hby (d40 23)) rfl (XS.icmpNo X4.here hx rfl (hb hby (d40 24)) rfl (Jvm.Free.XT.ii_ne_f (hd hc1).2) q))))) ?_
   show OF _ _ _ _ (T4.setTop (mkF m 43 _ _))
   refine oS (fun _ q => XS.iconst X4.here hx rfl (hb hby (d40 25)) (XS.goto X4.here hx rfl (pc0 := 44) (pc' := 48) rfl (hb hby (d40 26)) (by decide) (by decide) q)) ?_
   obtain ⟨fs, hr, hrun, hended, hW, hsame⟩ := X4.leave (v := some (.int 1)) (fun h => by rw [Bd.returns] at h; cases h)
   refine ⟨_, _, retN X4 hx (t := .boolean) Bd.returns (by simp) (hb hby (d40 27)) hr, hrun, hended, _, _, rfl, ?_, ⟨_, rfl⟩, hW, hsame.mono (by decide) (by decide)⟩
   show Q_rm_d Z a0 p1 q2 p3 a4 p5 b0 k_b0 z0 s0 k_a4 w_COMPACT_STRINGS w_SIOOBE_FORMATTER h0 n0 _ T4.heap _
   rw [he4]
   refine ⟨?_, N4, rfl⟩
   rfl
  ·
   refine oS (fun _ q => XS.icmpNo X0.here hx rfl (hb hby (d40 2)) rfl (Jvm.Free.XT.ii_lt_f hc1) q) ?_
   show OF _ _ _ _ (s₁.setTop (mkF m 7 _ _))
   refine oS (fun _ q => XS.iconst X0.here hx rfl (hb hby (d40 3)) q) ?_
   obtain ⟨fs, hr, hrun, hended, hW, hsame⟩ := X0.leave (v := some (.int 1)) (fun h => by rw [Bd.returns] at h; cases h)
   refine ⟨_, _, retN X0 hx (t := .boolean) Bd.returns (by simp) (hb hby (d40 4)) hr, hrun, hended, _, _, rfl, ?_, ⟨_, rfl⟩, hW, hsame.mono (by decide) (by decide)⟩
   show Q_rm_d Z a0 p1 q2 p3 a4 p5 b0 k_b0 z0 s0 k_a4 w_COMPACT_STRINGS w_SIOOBE_FORMATTER h0 n0 _ s₁.heap _
   rw [e0]
   refine ⟨?_, N0, rfl⟩
   rfl
theorem pd_30 : parseMethodDescriptor "(Ljava/lang/String;IJI[JI)Z" = some ⟨[(.object "java/lang/String"), .int, .long, .int, (.array .long), .int], some .boolean⟩ := by decide +kernel
abbrev C39 := method_4_code
def L39 : List (Nat × Instr × Nat) := [(0, .aload_n 0, 1), (1, .iload_n 1, 1), (2, .lload_n 2, 1), (3, .iload 4, 2), (5, .aload 5, 2), (7, .iconst 0, 1), (8, .invokestatic 72, 3), (11, .ifCond .eq 272, 3), (14, .aload_n 0, 1), (15, .iload_n 1, 1), (16, .lload_n 2, 1), (17, .iload 4, 2), (19, .aload 5, 2), (21, .iconst 1, 1), (22, .invokestatic 72, 3), (25, .ifCond .eq 258, 3), (28, .aload_n 0, 1), (29, .iload_n 1, 1), (30, .lload_n 2, 1), (31, .iload 4, 2), (33, .aload 5, 2), (35, .iconst 2, 1), (36, .invokestatic 72, 3), (39, .ifCond .eq 244, 3), (42, .aload_n 0, 1), (43, .iload_n 1, 1), (44, .lload_n 2, 1), (45, .iload 4, 2), (47, .aload 5, 2), (49, .iconst 3, 1), (50, .invokestatic 72, 3), (53, .ifCond .eq 230, 3), (56, .aload_n 0, 1), (57, .iload_n 1, 1), (58, .lload_n 2, 1), (59, .iload 4, 2), (61, .aload 5, 2), (63, .iconst 4, 1), (64, .invokestatic 72, 3), (67, .ifCond .eq 216, 3), (70, .aload_n 0, 1), (71, .iload_n 1, 1), (72, .lload_n 2, 1), (73, .iload 4, 2), (75, .aload 5, 2), (77, .iconst 5, 1), (78, .invokestatic 72, 3), (81, .ifCond .eq 202, 3), (84, .aload_n 0, 1), (85, .iload_n 1, 1), (86, .lload_n 2, 1), (87, .iload 4, 2), (89, .aload 5, 2), (91, .bipush 6, 2), (93, .invokestatic 72, 3), (96, .ifCond .eq 187, 3), (99, .aload_n 0, 1), (100, .iload_n 1, 1), (101, .lload_n 2, 1), (102, .iload 4, 2), (104, .aload 5, 2), (106, .bipush 7, 2), (108, .invokestatic 72, 3), (111, .ifCond .eq 172, 3), (114, .aload_n 0, 1), (115, .iload_n 1, 1), (116, .lload_n 2, 1), (117, .iload 4, 2), (119, .aload 5, 2), (121, .bipush 8, 2), (123, .invokestatic 72, 3), (126, .ifCond .eq 157, 3), (129, .aload_n 0, 1), (130, .iload_n 1, 1), (131, .lload_n 2, 1), (132, .iload 4, 2), (134, .aload 5, 2), (136, .bipush 9, 2), (138, .invokestatic 72, 3), (141, .ifCond .eq 142, 3), (144, .aload_n 0, 1), (145, .iload_n 1, 1), (146, .lload_n 2, 1), (147, .iload 4, 2), (149, .aload 5, 2), (151, .bipush 10, 2), (153, .invokestatic 72, 3), (156, .ifCond .eq 127, 3), (159, .aload_n 0, 1), (160, .iload_n 1, 1), (161, .lload_n 2, 1), (162, .iload 4, 2), (164, .aload 5, 2), (166, .bipush 11, 2), (168, .invokestatic 72, 3), (171, .ifCond .eq 112, 3), (174, .aload_n 0, 1), (175, .iload_n 1, 1), (176, .lload_n 2, 1), (177, .iload 4, 2), (179, .aload 5, 2), (181, .bipush 12, 2), (183, .invokestatic 72, 3), (186, .ifCond .eq 97, 3), (189, .aload_n 0, 1), (190, .iload_n 1, 1), (191, .lload_n 2, 1), (192, .iload 4, 2), (194, .aload 5, 2), (196, .bipush 13, 2), (198, .invokestatic 72, 3), (201, .ifCond .eq 82, 3), (204, .aload_n 0, 1), (205, .iload_n 1, 1), (206, .lload_n 2, 1), (207, .iload 4, 2), (209, .aload 5, 2), (211, .bipush 14, 2), (213, .invokestatic 72, 3), (216, .ifCond .eq 67, 3), (219, .aload_n 0, 1), (220, .iload_n 1, 1), (221, .lload_n 2, 1), (222, .iload 4, 2), (224, .aload 5, 2), (226, .bipush 15, 2), (228, .invokestatic 72, 3), (231, .ifCond .eq 52, 3), (234, .aload_n 0, 1), (235, .iload_n 1, 1), (236, .lload_n 2, 1), (237, .iload 4, 2), (239, .aload 5, 2), (241, .bipush 16, 2), (243, .invokestatic 72, 3), (246, .ifCond .eq 37, 3), (249, .aload_n 0, 1), (250, .iload_n 1, 1), (251, .lload_n 2, 1), (252, .iload 4, 2), (254, .aload 5, 2), (256, .bipush 17, 2), (258, .invokestatic 72, 3), (261, .ifCond .eq 22, 3), (264, .aload_n 0, 1), (265, .iload_n 1, 1), (266, .lload_n 2, 1), (267, .iload 4, 2), (269, .aload 5, 2), (271, .bipush 18, 2), (273, .invokestatic 72, 3), (276, .ifCond .eq 7, 3), (279, .iconst 1, 1), (280, .goto 4, 3), (284, .ireturn, 1)]
set_option maxRecDepth 65536 in
theorem d39 : ∀ i : Fin 155, decode C39 (L39.get i).1 = .ok (L39.get i).2 := by decide +kernel
theorem ef_rm_num (m : MethodId) (a0 : Addr) (p1 : Int32) (q2 : Int64) (p3 : Int32) (a4 : Addr) : entryFrame m #[(.ref a0), (.int p1), (.long q2), (.int p3), (.ref a4)] 6 = mkF m 0 #[.val (.ref a0), .val (.int p1), .val (.long q2), .second, .val (.int p3), .val (.ref a4)] [] := by first | (simp [entryFrame, mkF, argsToLocals, Value.category]; done) | rfl
def Q_rm_num (Z : State) (a0 : Addr) (p1 : Int32) (q2 : Int64) (p3 : Int32) (a4 : Addr) (b0 : Addr) (k_b0 : ClassId) (z0 : Int32) (s0 : Nat → Int32) (k_a4 : ClassId) (w_COMPACT_STRINGS : Int32) (w_SIOOBE_FORMATTER : Value) (h0 : Heap) (n0 : Nat) (v : Option Value) (h : Heap) (L : List Loc) : Prop := v = some (.int 1) ∧ Fr n0 L ∧ h = h0
set_option maxRecDepth 65536 in
set_option maxHeartbeats 40000000 in
theorem rm_num (l : Launch) (Z : State) (av0 : Array Value) (hw : ∀ d ∈ tables_1, d.before av0 Z = true) (ws : List Jvm.Cond) (a0 : Addr) (p1 : Int32) (q2 : Int64) (p3 : Int32) (a4 : Addr) (b0 : Addr) (k_b0 : ClassId) (z0 : Int32) (s0 : Nat → Int32) (k_a4 : ClassId) (w_COMPACT_STRINGS : Int32) (w_SIOOBE_FORMATTER : Value) (h0 : Heap) (n0 : Nat) (Z0 : n0 ≤ h0.size) (Ol0 : Old Z n0 h0) (X_a0 : Exa Z h0 a0 "java/lang/String") (F_coder_a0 : Fld Z h0 a0 "java/lang/String" "coder" "B" (.int 0)) (F_value_a0 : Fld Z h0 a0 "java/lang/String" "value" "[B" (.ref b0)) (V_b0 : Arv Z h0 b0 k_b0 .byte z0 (own_ml z0 s0) (.int 0)) (V_a4 : Arv Z h0 a4 k_a4 .long (19 : Int32) own_pv (.long 0)) (hN : ∀ k : Int32, ¬ k < 0 ∧ k < 19 → k < p3 → (¬ ((p1 - k) < 0) ∧ (p1 - k) < z0) ∧ (own_ch s0 (p1 - k)) = (((48 : Int32) + (own_abs (((q2 / (own_pw k)) - ((q2 / (own_pw k)) / 10) * 10).toInt32))).toUInt32.toUInt16.toUInt32.toInt32)) (hcs : ¬ (w_COMPACT_STRINGS = 0)) (S_COMPACT_STRINGS : Sta Z Z.heap "java/lang/String" "COMPACT_STRINGS" "Z" (.int w_COMPACT_STRINGS)) (S_SIOOBE_FORMATTER : Sta Z Z.heap "jdk/internal/util/Preconditions" "SIOOBE_FORMATTER" "Ljava/util/function/BiFunction;" w_SIOOBE_FORMATTER) (hr_w_SIOOBE_FORMATTER : w_SIOOBE_FORMATTER.isRef = true) :
    own_MF l Z h0 yM43 (Jvm.Cond.code yM43 method_4_code 6 (some .boolean) :: ws) ({ frames := 5, cells := 0, slots := 0, locals := 72 } : Room) #[(.ref a0), (.int p1), (.long q2), (.int p3), (.ref a4)] (Q_rm_num Z a0 p1 q2 p3 a4 b0 k_b0 z0 s0 k_a4 w_COMPACT_STRINGS w_SIOOBE_FORMATTER h0 n0) := by
  refine own_ent (own := "com/example/kwhat/kwhat/ProRataToStringPinLaw") (plainFor_of_name pn_10) rfl ?_
  intro p e s m below meth c s₁ Bd hx hby hml hZ hh hown hnm X0 e0
  have N0 := Fr.nil n0
  have kp0 : Keep h0 h0 [] := Keep.refl _ _
  refine oS (fun _ q => castTop (ef_rm_num m a0 p1 q2 p3 a4) q) ?_
  show OF _ _ _ _ (s₁.setTop (mkF m 0 #[vr a0, vi p1, .val (.long q2), .second, vi p3, vr a4] []))
  refine oS (fun _ q => XS.aloadN X0.here hx rfl (hb hby (d39 0)) rfl rfl (XS.iloadN X0.here hx rfl (hb hby (d39 1)) rfl (XS.lloadN X0.here hx rfl (hb hby (d39 2)) rfl (XS.iload X0.here hx rfl (hb hby (d39 3)) rfl (XS.aload X0.here hx rfl (hb hby (d39 4)) rfl rfl (XS.iconst X0.here hx rfl (hb hby (d39 5)) q)))))) ?_
  obtain ⟨_, _, ⟨T1, L1, k1, n1⟩, -, X1, ⟨Lc1, hQ1, l1, y1, z1⟩, st1⟩ := Jvm.LawKit.callS X0 hx (y := yM42) hown (mvT hZ (w_ hw 227 rfl)) (mvT hZ (w_ hw 228 rfl)) (mvT hZ (w_ hw 199 rfl)) (mvT hZ (w_ hw 229 rfl)) (by decide) (backOf (W := 0) (rm_d l Z av0 hw [] a0 p1 q2 p3 a4 (0 : Int32) b0 k_b0 z0 s0 k_a4 w_COMPACT_STRINGS w_SIOOBE_FORMATTER h0 n0 (Nat.le_trans Z0 kp0.1) Ol0 X_a0 F_coder_a0 F_value_a0 V_b0 V_a4 (by decide) (hN (0 : Int32) (by decide)) hcs S_COMPACT_STRINGS S_SIOOBE_FORMATTER hr_w_SIOOBE_FORMATTER) hZ (w_ hw 229 rfl) (w_ hw 199 rfl) (by decide) (by decide)) (g := (mkF m 8 #[vr a0, vi p1, .val (.long q2), .second, vi p3, vr a4] [(.int 0), (.ref a4), (.int p3), (.long q2), (.int p1), (.ref a0)])) rfl (by rw [hml]; rfl) (argsL := [(.ref a0), (.int p1), (.long q2), (.int p3), (.ref a4), (.int 0)]) (rest := []) (lenOf pd_30 rfl) rfl (by show 2 * 0 + _ ≤ _; exact Nat.le_of_eq rfl) (hb hby (d39 6)) (fun _ _ => ⟨rfl, e0, (by decide : 0 + 0 ≤ _), (by decide : 0 + 0 ≤ _)⟩)
  dsimp only [Pt.U, Pt.locs, Pt.cells, Pt.slots] at X1 l1 y1 z1 st1 hQ1
  subst l1 y1 z1
  obtain ⟨rfl, N1q, he1⟩ := hQ1
  have N1 := Fr.app N0 N1q
  refine oS st1 ?_
  show OF _ _ _ _ (T1.setTop (mkF m 11 _ _))
  refine oS (fun _ q => XS.ifNo X1.here hx rfl (hb hby (d39 7)) rfl (Jvm.Free.XT.i0_eq_f (by decide : ¬ ((1 : Int32) = (0 : Int32)))) q) ?_
  show OF _ _ _ _ (T1.setTop (mkF m 14 _ _))
  refine oS (fun _ q => XS.aloadN X1.here hx rfl (hb hby (d39 8)) rfl rfl (XS.iloadN X1.here hx rfl (hb hby (d39 9)) rfl (XS.lloadN X1.here hx rfl (hb hby (d39 10)) rfl (XS.iload X1.here hx rfl (hb hby (d39 11)) rfl (XS.aload X1.here hx rfl (hb hby (d39 12)) rfl rfl q))))) ?_
  show OF _ _ _ _ (T1.setTop (mkF m 21 #[vr a0, vi p1, .val (.long q2), .second, vi p3, vr a4] [(.ref a4), (.int p3), (.long q2), (.int p1), (.ref a0)]))
  refine oS (fun _ q => XS.iconst X1.here hx rfl (hb hby (d39 13)) q) ?_
  obtain ⟨_, _, ⟨T2, L2, k2, n2⟩, -, X2, ⟨Lc2, hQ2, l2, y2, z2⟩, st2⟩ := Jvm.LawKit.callS X1 hx (y := yM42) hown (mvT hZ (w_ hw 227 rfl)) (mvT hZ (w_ hw 228 rfl)) (mvT hZ (w_ hw 199 rfl)) (mvT hZ (w_ hw 229 rfl)) (by decide) (backOf (W := 0) (rm_d l Z av0 hw [] a0 p1 q2 p3 a4 (1 : Int32) b0 k_b0 z0 s0 k_a4 w_COMPACT_STRINGS w_SIOOBE_FORMATTER h0 n0 (Nat.le_trans Z0 kp0.1) Ol0 X_a0 F_coder_a0 F_value_a0 V_b0 V_a4 (by decide) (hN (1 : Int32) (by decide)) hcs S_COMPACT_STRINGS S_SIOOBE_FORMATTER hr_w_SIOOBE_FORMATTER) hZ (w_ hw 229 rfl) (w_ hw 199 rfl) (by decide) (by decide)) (g := (mkF m 22 #[vr a0, vi p1, .val (.long q2), .second, vi p3, vr a4] [(.int 1), (.ref a4), (.int p3), (.long q2), (.int p1), (.ref a0)])) rfl (by rw [hml]; rfl) (argsL := [(.ref a0), (.int p1), (.long q2), (.int p3), (.ref a4), (.int 1)]) (rest := []) (lenOf pd_30 rfl) rfl (by show 2 * 0 + _ ≤ _; exact Nat.le_of_eq rfl) (hb hby (d39 14)) (fun _ _ => ⟨rfl, he1, (by decide : 0 + 0 ≤ _), (by decide : 0 + 0 ≤ _)⟩)
  dsimp only [Pt.U, Pt.locs, Pt.cells, Pt.slots] at X2 l2 y2 z2 st2 hQ2
  subst l2 y2 z2
  obtain ⟨rfl, N2q, he2⟩ := hQ2
  have N2 := Fr.app N1 N2q
  refine oS st2 ?_
  show OF _ _ _ _ (T2.setTop (mkF m 25 _ _))
  refine oS (fun _ q => XS.ifNo X2.here hx rfl (hb hby (d39 15)) rfl (Jvm.Free.XT.i0_eq_f (by decide : ¬ ((1 : Int32) = (0 : Int32)))) q) ?_
  show OF _ _ _ _ (T2.setTop (mkF m 28 _ _))
  refine oS (fun _ q => XS.aloadN X2.here hx rfl (hb hby (d39 16)) rfl rfl (XS.iloadN X2.here hx rfl (hb hby (d39 17)) rfl (XS.lloadN X2.here hx rfl (hb hby (d39 18)) rfl (XS.iload X2.here hx rfl (hb hby (d39 19)) rfl (XS.aload X2.here hx rfl (hb hby (d39 20)) rfl rfl (XS.iconst X2.here hx rfl (hb hby (d39 21)) q)))))) ?_
  obtain ⟨_, _, ⟨T3, L3, k3, n3⟩, -, X3, ⟨Lc3, hQ3, l3, y3, z3⟩, st3⟩ := Jvm.LawKit.callS X2 hx (y := yM42) hown (mvT hZ (w_ hw 227 rfl)) (mvT hZ (w_ hw 228 rfl)) (mvT hZ (w_ hw 199 rfl)) (mvT hZ (w_ hw 229 rfl)) (by decide) (backOf (W := 0) (rm_d l Z av0 hw [] a0 p1 q2 p3 a4 (2 : Int32) b0 k_b0 z0 s0 k_a4 w_COMPACT_STRINGS w_SIOOBE_FORMATTER h0 n0 (Nat.le_trans Z0 kp0.1) Ol0 X_a0 F_coder_a0 F_value_a0 V_b0 V_a4 (by decide) (hN (2 : Int32) (by decide)) hcs S_COMPACT_STRINGS S_SIOOBE_FORMATTER hr_w_SIOOBE_FORMATTER) hZ (w_ hw 229 rfl) (w_ hw 199 rfl) (by decide) (by decide)) (g := (mkF m 36 #[vr a0, vi p1, .val (.long q2), .second, vi p3, vr a4] [(.int 2), (.ref a4), (.int p3), (.long q2), (.int p1), (.ref a0)])) rfl (by rw [hml]; rfl) (argsL := [(.ref a0), (.int p1), (.long q2), (.int p3), (.ref a4), (.int 2)]) (rest := []) (lenOf pd_30 rfl) rfl (by show 2 * 0 + _ ≤ _; exact Nat.le_of_eq rfl) (hb hby (d39 22)) (fun _ _ => ⟨rfl, he2, (by decide : 0 + 0 ≤ _), (by decide : 0 + 0 ≤ _)⟩)
  dsimp only [Pt.U, Pt.locs, Pt.cells, Pt.slots] at X3 l3 y3 z3 st3 hQ3
  subst l3 y3 z3
  obtain ⟨rfl, N3q, he3⟩ := hQ3
  have N3 := Fr.app N2 N3q
  refine oS st3 ?_
  show OF _ _ _ _ (T3.setTop (mkF m 39 _ _))
  refine oS (fun _ q => XS.ifNo X3.here hx rfl (hb hby (d39 23)) rfl (Jvm.Free.XT.i0_eq_f (by decide : ¬ ((1 : Int32) = (0 : Int32)))) q) ?_
  show OF _ _ _ _ (T3.setTop (mkF m 42 _ _))
  refine oS (fun _ q => XS.aloadN X3.here hx rfl (hb hby (d39 24)) rfl rfl (XS.iloadN X3.here hx rfl (hb hby (d39 25)) rfl q)) ?_
  show OF _ _ _ _ (T3.setTop (mkF m 44 #[vr a0, vi p1, .val (.long q2), .second, vi p3, vr a4] [(.int p1), (.ref a0)]))
  refine oS (fun _ q => XS.lloadN X3.here hx rfl (hb hby (d39 26)) rfl (XS.iload X3.here hx rfl (hb hby (d39 27)) rfl (XS.aload X3.here hx rfl (hb hby (d39 28)) rfl rfl (XS.iconst X3.here hx rfl (hb hby (d39 29)) q)))) ?_
  obtain ⟨_, _, ⟨T4, L4, k4, n4⟩, -, X4, ⟨Lc4, hQ4, l4, y4, z4⟩, st4⟩ := Jvm.LawKit.callS X3 hx (y := yM42) hown (mvT hZ (w_ hw 227 rfl)) (mvT hZ (w_ hw 228 rfl)) (mvT hZ (w_ hw 199 rfl)) (mvT hZ (w_ hw 229 rfl)) (by decide) (backOf (W := 0) (rm_d l Z av0 hw [] a0 p1 q2 p3 a4 (3 : Int32) b0 k_b0 z0 s0 k_a4 w_COMPACT_STRINGS w_SIOOBE_FORMATTER h0 n0 (Nat.le_trans Z0 kp0.1) Ol0 X_a0 F_coder_a0 F_value_a0 V_b0 V_a4 (by decide) (hN (3 : Int32) (by decide)) hcs S_COMPACT_STRINGS S_SIOOBE_FORMATTER hr_w_SIOOBE_FORMATTER) hZ (w_ hw 229 rfl) (w_ hw 199 rfl) (by decide) (by decide)) (g := (mkF m 50 #[vr a0, vi p1, .val (.long q2), .second, vi p3, vr a4] [(.int 3), (.ref a4), (.int p3), (.long q2), (.int p1), (.ref a0)])) rfl (by rw [hml]; rfl) (argsL := [(.ref a0), (.int p1), (.long q2), (.int p3), (.ref a4), (.int 3)]) (rest := []) (lenOf pd_30 rfl) rfl (by show 2 * 0 + _ ≤ _; exact Nat.le_of_eq rfl) (hb hby (d39 30)) (fun _ _ => ⟨rfl, he3, (by decide : 0 + 0 ≤ _), (by decide : 0 + 0 ≤ _)⟩)
  dsimp only [Pt.U, Pt.locs, Pt.cells, Pt.slots] at X4 l4 y4 z4 st4 hQ4
  subst l4 y4 z4
  obtain ⟨rfl, N4q, he4⟩ := hQ4
  have N4 := Fr.app N3 N4q
  refine oS st4 ?_
  show OF _ _ _ _ (T4.setTop (mkF m 53 _ _))
  refine oS (fun _ q => XS.ifNo X4.here hx rfl (hb hby (d39 31)) rfl (Jvm.Free.XT.i0_eq_f (by decide : ¬ ((1 : Int32) = (0 : Int32)))) q) ?_
  show OF _ _ _ _ (T4.setTop (mkF m 56 _ _))
  refine oS (fun _ q => XS.aloadN X4.here hx rfl (hb hby (d39 32)) rfl rfl (XS.iloadN X4.here hx rfl (hb hby (d39 33)) rfl (XS.lloadN X4.here hx rfl (hb hby (d39 34)) rfl (XS.iload X4.here hx rfl (hb hby (d39 35)) rfl (XS.aload X4.here hx rfl (hb hby (d39 36)) rfl rfl (XS.iconst X4.here hx rfl (hb hby (d39 37)) q)))))) ?_
  obtain ⟨_, _, ⟨T5, L5, k5, n5⟩, -, X5, ⟨Lc5, hQ5, l5, y5, z5⟩, st5⟩ := Jvm.LawKit.callS X4 hx (y := yM42) hown (mvT hZ (w_ hw 227 rfl)) (mvT hZ (w_ hw 228 rfl)) (mvT hZ (w_ hw 199 rfl)) (mvT hZ (w_ hw 229 rfl)) (by decide) (backOf (W := 0) (rm_d l Z av0 hw [] a0 p1 q2 p3 a4 (4 : Int32) b0 k_b0 z0 s0 k_a4 w_COMPACT_STRINGS w_SIOOBE_FORMATTER h0 n0 (Nat.le_trans Z0 kp0.1) Ol0 X_a0 F_coder_a0 F_value_a0 V_b0 V_a4 (by decide) (hN (4 : Int32) (by decide)) hcs S_COMPACT_STRINGS S_SIOOBE_FORMATTER hr_w_SIOOBE_FORMATTER) hZ (w_ hw 229 rfl) (w_ hw 199 rfl) (by decide) (by decide)) (g := (mkF m 64 #[vr a0, vi p1, .val (.long q2), .second, vi p3, vr a4] [(.int 4), (.ref a4), (.int p3), (.long q2), (.int p1), (.ref a0)])) rfl (by rw [hml]; rfl) (argsL := [(.ref a0), (.int p1), (.long q2), (.int p3), (.ref a4), (.int 4)]) (rest := []) (lenOf pd_30 rfl) rfl (by show 2 * 0 + _ ≤ _; exact Nat.le_of_eq rfl) (hb hby (d39 38)) (fun _ _ => ⟨rfl, he4, (by decide : 0 + 0 ≤ _), (by decide : 0 + 0 ≤ _)⟩)
  dsimp only [Pt.U, Pt.locs, Pt.cells, Pt.slots] at X5 l5 y5 z5 st5 hQ5
  subst l5 y5 z5
  obtain ⟨rfl, N5q, he5⟩ := hQ5
  have N5 := Fr.app N4 N5q
  refine oS st5 ?_
  show OF _ _ _ _ (T5.setTop (mkF m 67 #[vr a0, vi p1, .val (.long q2), .second, vi p3, vr a4] [(.int 1)]))
  refine oS (fun _ q => XS.ifNo X5.here hx rfl (hb hby (d39 39)) rfl (Jvm.Free.XT.i0_eq_f (by decide : ¬ ((1 : Int32) = (0 : Int32)))) q) ?_
  show OF _ _ _ _ (T5.setTop (mkF m 70 _ _))
  refine oS (fun _ q => XS.aloadN X5.here hx rfl (hb hby (d39 40)) rfl rfl (XS.iloadN X5.here hx rfl (hb hby (d39 41)) rfl (XS.lloadN X5.here hx rfl (hb hby (d39 42)) rfl (XS.iload X5.here hx rfl (hb hby (d39 43)) rfl (XS.aload X5.here hx rfl (hb hby (d39 44)) rfl rfl (XS.iconst X5.here hx rfl (hb hby (d39 45)) q)))))) ?_
  obtain ⟨_, _, ⟨T6, L6, k6, n6⟩, -, X6, ⟨Lc6, hQ6, l6, y6, z6⟩, st6⟩ := Jvm.LawKit.callS X5 hx (y := yM42) hown (mvT hZ (w_ hw 227 rfl)) (mvT hZ (w_ hw 228 rfl)) (mvT hZ (w_ hw 199 rfl)) (mvT hZ (w_ hw 229 rfl)) (by decide) (backOf (W := 0) (rm_d l Z av0 hw [] a0 p1 q2 p3 a4 (5 : Int32) b0 k_b0 z0 s0 k_a4 w_COMPACT_STRINGS w_SIOOBE_FORMATTER h0 n0 (Nat.le_trans Z0 kp0.1) Ol0 X_a0 F_coder_a0 F_value_a0 V_b0 V_a4 (by decide) (hN (5 : Int32) (by decide)) hcs S_COMPACT_STRINGS S_SIOOBE_FORMATTER hr_w_SIOOBE_FORMATTER) hZ (w_ hw 229 rfl) (w_ hw 199 rfl) (by decide) (by decide)) (g := (mkF m 78 #[vr a0, vi p1, .val (.long q2), .second, vi p3, vr a4] [(.int 5), (.ref a4), (.int p3), (.long q2), (.int p1), (.ref a0)])) rfl (by rw [hml]; rfl) (argsL := [(.ref a0), (.int p1), (.long q2), (.int p3), (.ref a4), (.int 5)]) (rest := []) (lenOf pd_30 rfl) rfl (by show 2 * 0 + _ ≤ _; exact Nat.le_of_eq rfl) (hb hby (d39 46)) (fun _ _ => ⟨rfl, he5, (by decide : 0 + 0 ≤ _), (by decide : 0 + 0 ≤ _)⟩)
  dsimp only [Pt.U, Pt.locs, Pt.cells, Pt.slots] at X6 l6 y6 z6 st6 hQ6
  subst l6 y6 z6
  obtain ⟨rfl, N6q, he6⟩ := hQ6
  have N6 := Fr.app N5 N6q
  refine oS st6 ?_
  show OF _ _ _ _ (T6.setTop (mkF m 81 _ _))
  refine oS (fun _ q => XS.ifNo X6.here hx rfl (hb hby (d39 47)) rfl (Jvm.Free.XT.i0_eq_f (by decide : ¬ ((1 : Int32) = (0 : Int32)))) q) ?_
  show OF _ _ _ _ (T6.setTop (mkF m 84 _ _))
  refine oS (fun _ q => XS.aloadN X6.here hx rfl (hb hby (d39 48)) rfl rfl (XS.iloadN X6.here hx rfl (hb hby (d39 49)) rfl (XS.lloadN X6.here hx rfl (hb hby (d39 50)) rfl (XS.iload X6.here hx rfl (hb hby (d39 51)) rfl q)))) ?_
  show OF _ _ _ _ (T6.setTop (mkF m 89 #[vr a0, vi p1, .val (.long q2), .second, vi p3, vr a4] [(.int p3), (.long q2), (.int p1), (.ref a0)]))
  refine oS (fun _ q => XS.aload X6.here hx rfl (hb hby (d39 52)) rfl rfl (XS.bipush X6.here hx rfl (hb hby (d39 53)) q)) ?_
  obtain ⟨_, _, ⟨T7, L7, k7, n7⟩, -, X7, ⟨Lc7, hQ7, l7, y7, z7⟩, st7⟩ := Jvm.LawKit.callS X6 hx (y := yM42) hown (mvT hZ (w_ hw 227 rfl)) (mvT hZ (w_ hw 228 rfl)) (mvT hZ (w_ hw 199 rfl)) (mvT hZ (w_ hw 229 rfl)) (by decide) (backOf (W := 0) (rm_d l Z av0 hw [] a0 p1 q2 p3 a4 (6 : Int32) b0 k_b0 z0 s0 k_a4 w_COMPACT_STRINGS w_SIOOBE_FORMATTER h0 n0 (Nat.le_trans Z0 kp0.1) Ol0 X_a0 F_coder_a0 F_value_a0 V_b0 V_a4 (by decide) (hN (6 : Int32) (by decide)) hcs S_COMPACT_STRINGS S_SIOOBE_FORMATTER hr_w_SIOOBE_FORMATTER) hZ (w_ hw 229 rfl) (w_ hw 199 rfl) (by decide) (by decide)) (g := (mkF m 93 #[vr a0, vi p1, .val (.long q2), .second, vi p3, vr a4] [(.int 6), (.ref a4), (.int p3), (.long q2), (.int p1), (.ref a0)])) rfl (by rw [hml]; rfl) (argsL := [(.ref a0), (.int p1), (.long q2), (.int p3), (.ref a4), (.int 6)]) (rest := []) (lenOf pd_30 rfl) rfl (by show 2 * 0 + _ ≤ _; exact Nat.le_of_eq rfl) (hb hby (d39 54)) (fun _ _ => ⟨rfl, he6, (by decide : 0 + 0 ≤ _), (by decide : 0 + 0 ≤ _)⟩)
  dsimp only [Pt.U, Pt.locs, Pt.cells, Pt.slots] at X7 l7 y7 z7 st7 hQ7
  subst l7 y7 z7
  obtain ⟨rfl, N7q, he7⟩ := hQ7
  have N7 := Fr.app N6 N7q
  refine oS st7 ?_
  show OF _ _ _ _ (T7.setTop (mkF m 96 _ _))
  refine oS (fun _ q => XS.ifNo X7.here hx rfl (hb hby (d39 55)) rfl (Jvm.Free.XT.i0_eq_f (by decide : ¬ ((1 : Int32) = (0 : Int32)))) q) ?_
  show OF _ _ _ _ (T7.setTop (mkF m 99 _ _))
  refine oS (fun _ q => XS.aloadN X7.here hx rfl (hb hby (d39 56)) rfl rfl (XS.iloadN X7.here hx rfl (hb hby (d39 57)) rfl (XS.lloadN X7.here hx rfl (hb hby (d39 58)) rfl (XS.iload X7.here hx rfl (hb hby (d39 59)) rfl (XS.aload X7.here hx rfl (hb hby (d39 60)) rfl rfl (XS.bipush X7.here hx rfl (hb hby (d39 61)) q)))))) ?_
  obtain ⟨_, _, ⟨T8, L8, k8, n8⟩, -, X8, ⟨Lc8, hQ8, l8, y8, z8⟩, st8⟩ := Jvm.LawKit.callS X7 hx (y := yM42) hown (mvT hZ (w_ hw 227 rfl)) (mvT hZ (w_ hw 228 rfl)) (mvT hZ (w_ hw 199 rfl)) (mvT hZ (w_ hw 229 rfl)) (by decide) (backOf (W := 0) (rm_d l Z av0 hw [] a0 p1 q2 p3 a4 (7 : Int32) b0 k_b0 z0 s0 k_a4 w_COMPACT_STRINGS w_SIOOBE_FORMATTER h0 n0 (Nat.le_trans Z0 kp0.1) Ol0 X_a0 F_coder_a0 F_value_a0 V_b0 V_a4 (by decide) (hN (7 : Int32) (by decide)) hcs S_COMPACT_STRINGS S_SIOOBE_FORMATTER hr_w_SIOOBE_FORMATTER) hZ (w_ hw 229 rfl) (w_ hw 199 rfl) (by decide) (by decide)) (g := (mkF m 108 #[vr a0, vi p1, .val (.long q2), .second, vi p3, vr a4] [(.int 7), (.ref a4), (.int p3), (.long q2), (.int p1), (.ref a0)])) rfl (by rw [hml]; rfl) (argsL := [(.ref a0), (.int p1), (.long q2), (.int p3), (.ref a4), (.int 7)]) (rest := []) (lenOf pd_30 rfl) rfl (by show 2 * 0 + _ ≤ _; exact Nat.le_of_eq rfl) (hb hby (d39 62)) (fun _ _ => ⟨rfl, he7, (by decide : 0 + 0 ≤ _), (by decide : 0 + 0 ≤ _)⟩)
  dsimp only [Pt.U, Pt.locs, Pt.cells, Pt.slots] at X8 l8 y8 z8 st8 hQ8
  subst l8 y8 z8
  obtain ⟨rfl, N8q, he8⟩ := hQ8
  have N8 := Fr.app N7 N8q
  refine oS st8 ?_
  show OF _ _ _ _ (T8.setTop (mkF m 111 _ _))
  refine oS (fun _ q => XS.ifNo X8.here hx rfl (hb hby (d39 63)) rfl (Jvm.Free.XT.i0_eq_f (by decide : ¬ ((1 : Int32) = (0 : Int32)))) q) ?_
  show OF _ _ _ _ (T8.setTop (mkF m 114 _ _))
  refine oS (fun _ q => XS.aloadN X8.here hx rfl (hb hby (d39 64)) rfl rfl q) ?_
  show OF _ _ _ _ (T8.setTop (mkF m 115 #[vr a0, vi p1, .val (.long q2), .second, vi p3, vr a4] [(.ref a0)]))
  refine oS (fun _ q => XS.iloadN X8.here hx rfl (hb hby (d39 65)) rfl (XS.lloadN X8.here hx rfl (hb hby (d39 66)) rfl (XS.iload X8.here hx rfl (hb hby (d39 67)) rfl (XS.aload X8.here hx rfl (hb hby (d39 68)) rfl rfl (XS.bipush X8.here hx rfl (hb hby (d39 69)) q))))) ?_
  obtain ⟨_, _, ⟨T9, L9, k9, n9⟩, -, X9, ⟨Lc9, hQ9, l9, y9, z9⟩, st9⟩ := Jvm.LawKit.callS X8 hx (y := yM42) hown (mvT hZ (w_ hw 227 rfl)) (mvT hZ (w_ hw 228 rfl)) (mvT hZ (w_ hw 199 rfl)) (mvT hZ (w_ hw 229 rfl)) (by decide) (backOf (W := 0) (rm_d l Z av0 hw [] a0 p1 q2 p3 a4 (8 : Int32) b0 k_b0 z0 s0 k_a4 w_COMPACT_STRINGS w_SIOOBE_FORMATTER h0 n0 (Nat.le_trans Z0 kp0.1) Ol0 X_a0 F_coder_a0 F_value_a0 V_b0 V_a4 (by decide) (hN (8 : Int32) (by decide)) hcs S_COMPACT_STRINGS S_SIOOBE_FORMATTER hr_w_SIOOBE_FORMATTER) hZ (w_ hw 229 rfl) (w_ hw 199 rfl) (by decide) (by decide)) (g := (mkF m 123 #[vr a0, vi p1, .val (.long q2), .second, vi p3, vr a4] [(.int 8), (.ref a4), (.int p3), (.long q2), (.int p1), (.ref a0)])) rfl (by rw [hml]; rfl) (argsL := [(.ref a0), (.int p1), (.long q2), (.int p3), (.ref a4), (.int 8)]) (rest := []) (lenOf pd_30 rfl) rfl (by show 2 * 0 + _ ≤ _; exact Nat.le_of_eq rfl) (hb hby (d39 70)) (fun _ _ => ⟨rfl, he8, (by decide : 0 + 0 ≤ _), (by decide : 0 + 0 ≤ _)⟩)
  dsimp only [Pt.U, Pt.locs, Pt.cells, Pt.slots] at X9 l9 y9 z9 st9 hQ9
  subst l9 y9 z9
  obtain ⟨rfl, N9q, he9⟩ := hQ9
  have N9 := Fr.app N8 N9q
  refine oS st9 ?_
  show OF _ _ _ _ (T9.setTop (mkF m 126 _ _))
  refine oS (fun _ q => XS.ifNo X9.here hx rfl (hb hby (d39 71)) rfl (Jvm.Free.XT.i0_eq_f (by decide : ¬ ((1 : Int32) = (0 : Int32)))) q) ?_
  show OF _ _ _ _ (T9.setTop (mkF m 129 _ _))
  refine oS (fun _ q => XS.aloadN X9.here hx rfl (hb hby (d39 72)) rfl rfl (XS.iloadN X9.here hx rfl (hb hby (d39 73)) rfl (XS.lloadN X9.here hx rfl (hb hby (d39 74)) rfl (XS.iload X9.here hx rfl (hb hby (d39 75)) rfl (XS.aload X9.here hx rfl (hb hby (d39 76)) rfl rfl (XS.bipush X9.here hx rfl (hb hby (d39 77)) q)))))) ?_
  show OF _ _ _ _ (T9.setTop (mkF m 138 #[vr a0, vi p1, .val (.long q2), .second, vi p3, vr a4] [(.int 9), (.ref a4), (.int p3), (.long q2), (.int p1), (.ref a0)]))
  obtain ⟨_, _, ⟨T10, L10, k10, n10⟩, -, X10, ⟨Lc10, hQ10, l10, y10, z10⟩, st10⟩ := Jvm.LawKit.callS X9 hx (y := yM42) hown (mvT hZ (w_ hw 227 rfl)) (mvT hZ (w_ hw 228 rfl)) (mvT hZ (w_ hw 199 rfl)) (mvT hZ (w_ hw 229 rfl)) (by decide) (backOf (W := 0) (rm_d l Z av0 hw [] a0 p1 q2 p3 a4 (9 : Int32) b0 k_b0 z0 s0 k_a4 w_COMPACT_STRINGS w_SIOOBE_FORMATTER h0 n0 (Nat.le_trans Z0 kp0.1) Ol0 X_a0 F_coder_a0 F_value_a0 V_b0 V_a4 (by decide) (hN (9 : Int32) (by decide)) hcs S_COMPACT_STRINGS S_SIOOBE_FORMATTER hr_w_SIOOBE_FORMATTER) hZ (w_ hw 229 rfl) (w_ hw 199 rfl) (by decide) (by decide)) (g := (mkF m 138 #[vr a0, vi p1, .val (.long q2), .second, vi p3, vr a4] [(.int 9), (.ref a4), (.int p3), (.long q2), (.int p1), (.ref a0)])) rfl (by rw [hml]; rfl) (argsL := [(.ref a0), (.int p1), (.long q2), (.int p3), (.ref a4), (.int 9)]) (rest := []) (lenOf pd_30 rfl) rfl (by show 2 * 0 + _ ≤ _; exact Nat.le_of_eq rfl) (hb hby (d39 78)) (fun _ _ => ⟨rfl, he9, (by decide : 0 + 0 ≤ _), (by decide : 0 + 0 ≤ _)⟩)
  dsimp only [Pt.U, Pt.locs, Pt.cells, Pt.slots] at X10 l10 y10 z10 st10 hQ10
  subst l10 y10 z10
  obtain ⟨rfl, N10q, he10⟩ := hQ10
  have N10 := Fr.app N9 N10q
  refine oS st10 ?_
  show OF _ _ _ _ (T10.setTop (mkF m 141 _ _))
  refine oS (fun _ q => XS.ifNo X10.here hx rfl (hb hby (d39 79)) rfl (Jvm.Free.XT.i0_eq_f (by decide : ¬ ((1 : Int32) = (0 : Int32)))) q) ?_
  show OF _ _ _ _ (T10.setTop (mkF m 144 _ _))
  refine oS (fun _ q => XS.aloadN X10.here hx rfl (hb hby (d39 80)) rfl rfl (XS.iloadN X10.here hx rfl (hb hby (d39 81)) rfl (XS.lloadN X10.here hx rfl (hb hby (d39 82)) rfl (XS.iload X10.here hx rfl (hb hby (d39 83)) rfl (XS.aload X10.here hx rfl (hb hby (d39 84)) rfl rfl (XS.bipush X10.here hx rfl (hb hby (d39 85)) q)))))) ?_
  obtain ⟨_, _, ⟨T11, L11, k11, n11⟩, -, X11, ⟨Lc11, hQ11, l11, y11, z11⟩, st11⟩ := Jvm.LawKit.callS X10 hx (y := yM42) hown (mvT hZ (w_ hw 227 rfl)) (mvT hZ (w_ hw 228 rfl)) (mvT hZ (w_ hw 199 rfl)) (mvT hZ (w_ hw 229 rfl)) (by decide) (backOf (W := 0) (rm_d l Z av0 hw [] a0 p1 q2 p3 a4 (10 : Int32) b0 k_b0 z0 s0 k_a4 w_COMPACT_STRINGS w_SIOOBE_FORMATTER h0 n0 (Nat.le_trans Z0 kp0.1) Ol0 X_a0 F_coder_a0 F_value_a0 V_b0 V_a4 (by decide) (hN (10 : Int32) (by decide)) hcs S_COMPACT_STRINGS S_SIOOBE_FORMATTER hr_w_SIOOBE_FORMATTER) hZ (w_ hw 229 rfl) (w_ hw 199 rfl) (by decide) (by decide)) (g := (mkF m 153 #[vr a0, vi p1, .val (.long q2), .second, vi p3, vr a4] [(.int 10), (.ref a4), (.int p3), (.long q2), (.int p1), (.ref a0)])) rfl (by rw [hml]; rfl) (argsL := [(.ref a0), (.int p1), (.long q2), (.int p3), (.ref a4), (.int 10)]) (rest := []) (lenOf pd_30 rfl) rfl (by show 2 * 0 + _ ≤ _; exact Nat.le_of_eq rfl) (hb hby (d39 86)) (fun _ _ => ⟨rfl, he10, (by decide : 0 + 0 ≤ _), (by decide : 0 + 0 ≤ _)⟩)
  dsimp only [Pt.U, Pt.locs, Pt.cells, Pt.slots] at X11 l11 y11 z11 st11 hQ11
  subst l11 y11 z11
  obtain ⟨rfl, N11q, he11⟩ := hQ11
  have N11 := Fr.app N10 N11q
  refine oS st11 ?_
  show OF _ _ _ _ (T11.setTop (mkF m 156 _ _))
  refine oS (fun _ q => XS.ifNo X11.here hx rfl (hb hby (d39 87)) rfl (Jvm.Free.XT.i0_eq_f (by decide : ¬ ((1 : Int32) = (0 : Int32)))) q) ?_
  show OF _ _ _ _ (T11.setTop (mkF m 159 _ _))
  refine oS (fun _ q => XS.aloadN X11.here hx rfl (hb hby (d39 88)) rfl rfl (XS.iloadN X11.here hx rfl (hb hby (d39 89)) rfl (XS.lloadN X11.here hx rfl (hb hby (d39 90)) rfl q))) ?_
  show OF _ _ _ _ (T11.setTop (mkF m 162 #[vr a0, vi p1, .val (.long q2), .second, vi p3, vr a4] [(.long q2), (.int p1), (.ref a0)]))
  refine oS (fun _ q => XS.iload X11.here hx rfl (hb hby (d39 91)) rfl (XS.aload X11.here hx rfl (hb hby (d39 92)) rfl rfl (XS.bipush X11.here hx rfl (hb hby (d39 93)) q))) ?_
  obtain ⟨_, _, ⟨T12, L12, k12, n12⟩, -, X12, ⟨Lc12, hQ12, l12, y12, z12⟩, st12⟩ := Jvm.LawKit.callS X11 hx (y := yM42) hown (mvT hZ (w_ hw 227 rfl)) (mvT hZ (w_ hw 228 rfl)) (mvT hZ (w_ hw 199 rfl)) (mvT hZ (w_ hw 229 rfl)) (by decide) (backOf (W := 0) (rm_d l Z av0 hw [] a0 p1 q2 p3 a4 (11 : Int32) b0 k_b0 z0 s0 k_a4 w_COMPACT_STRINGS w_SIOOBE_FORMATTER h0 n0 (Nat.le_trans Z0 kp0.1) Ol0 X_a0 F_coder_a0 F_value_a0 V_b0 V_a4 (by decide) (hN (11 : Int32) (by decide)) hcs S_COMPACT_STRINGS S_SIOOBE_FORMATTER hr_w_SIOOBE_FORMATTER) hZ (w_ hw 229 rfl) (w_ hw 199 rfl) (by decide) (by decide)) (g := (mkF m 168 #[vr a0, vi p1, .val (.long q2), .second, vi p3, vr a4] [(.int 11), (.ref a4), (.int p3), (.long q2), (.int p1), (.ref a0)])) rfl (by rw [hml]; rfl) (argsL := [(.ref a0), (.int p1), (.long q2), (.int p3), (.ref a4), (.int 11)]) (rest := []) (lenOf pd_30 rfl) rfl (by show 2 * 0 + _ ≤ _; exact Nat.le_of_eq rfl) (hb hby (d39 94)) (fun _ _ => ⟨rfl, he11, (by decide : 0 + 0 ≤ _), (by decide : 0 + 0 ≤ _)⟩)
  dsimp only [Pt.U, Pt.locs, Pt.cells, Pt.slots] at X12 l12 y12 z12 st12 hQ12
  subst l12 y12 z12
  obtain ⟨rfl, N12q, he12⟩ := hQ12
  have N12 := Fr.app N11 N12q
  refine oS st12 ?_
  show OF _ _ _ _ (T12.setTop (mkF m 171 _ _))
  refine oS (fun _ q => XS.ifNo X12.here hx rfl (hb hby (d39 95)) rfl (Jvm.Free.XT.i0_eq_f (by decide : ¬ ((1 : Int32) = (0 : Int32)))) q) ?_
  show OF _ _ _ _ (T12.setTop (mkF m 174 _ _))
  refine oS (fun _ q => XS.aloadN X12.here hx rfl (hb hby (d39 96)) rfl rfl (XS.iloadN X12.here hx rfl (hb hby (d39 97)) rfl (XS.lloadN X12.here hx rfl (hb hby (d39 98)) rfl (XS.iload X12.here hx rfl (hb hby (d39 99)) rfl (XS.aload X12.here hx rfl (hb hby (d39 100)) rfl rfl (XS.bipush X12.here hx rfl (hb hby (d39 101)) q)))))) ?_
  obtain ⟨_, _, ⟨T13, L13, k13, n13⟩, -, X13, ⟨Lc13, hQ13, l13, y13, z13⟩, st13⟩ := Jvm.LawKit.callS X12 hx (y := yM42) hown (mvT hZ (w_ hw 227 rfl)) (mvT hZ (w_ hw 228 rfl)) (mvT hZ (w_ hw 199 rfl)) (mvT hZ (w_ hw 229 rfl)) (by decide) (backOf (W := 0) (rm_d l Z av0 hw [] a0 p1 q2 p3 a4 (12 : Int32) b0 k_b0 z0 s0 k_a4 w_COMPACT_STRINGS w_SIOOBE_FORMATTER h0 n0 (Nat.le_trans Z0 kp0.1) Ol0 X_a0 F_coder_a0 F_value_a0 V_b0 V_a4 (by decide) (hN (12 : Int32) (by decide)) hcs S_COMPACT_STRINGS S_SIOOBE_FORMATTER hr_w_SIOOBE_FORMATTER) hZ (w_ hw 229 rfl) (w_ hw 199 rfl) (by decide) (by decide)) (g := (mkF m 183 #[vr a0, vi p1, .val (.long q2), .second, vi p3, vr a4] [(.int 12), (.ref a4), (.int p3), (.long q2), (.int p1), (.ref a0)])) rfl (by rw [hml]; rfl) (argsL := [(.ref a0), (.int p1), (.long q2), (.int p3), (.ref a4), (.int 12)]) (rest := []) (lenOf pd_30 rfl) rfl (by show 2 * 0 + _ ≤ _; exact Nat.le_of_eq rfl) (hb hby (d39 102)) (fun _ _ => ⟨rfl, he12, (by decide : 0 + 0 ≤ _), (by decide : 0 + 0 ≤ _)⟩)
  dsimp only [Pt.U, Pt.locs, Pt.cells, Pt.slots] at X13 l13 y13 z13 st13 hQ13
  subst l13 y13 z13
  obtain ⟨rfl, N13q, he13⟩ := hQ13
  have N13 := Fr.app N12 N13q
  refine oS st13 ?_
  show OF _ _ _ _ (T13.setTop (mkF m 186 _ _))
  refine oS (fun _ q => XS.ifNo X13.here hx rfl (hb hby (d39 103)) rfl (Jvm.Free.XT.i0_eq_f (by decide : ¬ ((1 : Int32) = (0 : Int32)))) q) ?_
  show OF _ _ _ _ (T13.setTop (mkF m 189 #[vr a0, vi p1, .val (.long q2), .second, vi p3, vr a4] []))
  refine oS (fun _ q => XS.aloadN X13.here hx rfl (hb hby (d39 104)) rfl rfl (XS.iloadN X13.here hx rfl (hb hby (d39 105)) rfl (XS.lloadN X13.here hx rfl (hb hby (d39 106)) rfl (XS.iload X13.here hx rfl (hb hby (d39 107)) rfl (XS.aload X13.here hx rfl (hb hby (d39 108)) rfl rfl (XS.bipush X13.here hx rfl (hb hby (d39 109)) q)))))) ?_
  obtain ⟨_, _, ⟨T14, L14, k14, n14⟩, -, X14, ⟨Lc14, hQ14, l14, y14, z14⟩, st14⟩ := Jvm.LawKit.callS X13 hx (y := yM42) hown (mvT hZ (w_ hw 227 rfl)) (mvT hZ (w_ hw 228 rfl)) (mvT hZ (w_ hw 199 rfl)) (mvT hZ (w_ hw 229 rfl)) (by decide) (backOf (W := 0) (rm_d l Z av0 hw [] a0 p1 q2 p3 a4 (13 : Int32) b0 k_b0 z0 s0 k_a4 w_COMPACT_STRINGS w_SIOOBE_FORMATTER h0 n0 (Nat.le_trans Z0 kp0.1) Ol0 X_a0 F_coder_a0 F_value_a0 V_b0 V_a4 (by decide) (hN (13 : Int32) (by decide)) hcs S_COMPACT_STRINGS S_SIOOBE_FORMATTER hr_w_SIOOBE_FORMATTER) hZ (w_ hw 229 rfl) (w_ hw 199 rfl) (by decide) (by decide)) (g := (mkF m 198 #[vr a0, vi p1, .val (.long q2), .second, vi p3, vr a4] [(.int 13), (.ref a4), (.int p3), (.long q2), (.int p1), (.ref a0)])) rfl (by rw [hml]; rfl) (argsL := [(.ref a0), (.int p1), (.long q2), (.int p3), (.ref a4), (.int 13)]) (rest := []) (lenOf pd_30 rfl) rfl (by show 2 * 0 + _ ≤ _; exact Nat.le_of_eq rfl) (hb hby (d39 110)) (fun _ _ => ⟨rfl, he13, (by decide : 0 + 0 ≤ _), (by decide : 0 + 0 ≤ _)⟩)
  dsimp only [Pt.U, Pt.locs, Pt.cells, Pt.slots] at X14 l14 y14 z14 st14 hQ14
  subst l14 y14 z14
  obtain ⟨rfl, N14q, he14⟩ := hQ14
  have N14 := Fr.app N13 N14q
  refine oS st14 ?_
  show OF _ _ _ _ (T14.setTop (mkF m 201 _ _))
  refine oS (fun _ q => XS.ifNo X14.here hx rfl (hb hby (d39 111)) rfl (Jvm.Free.XT.i0_eq_f (by decide : ¬ ((1 : Int32) = (0 : Int32)))) q) ?_
  show OF _ _ _ _ (T14.setTop (mkF m 204 _ _))
  refine oS (fun _ q => XS.aloadN X14.here hx rfl (hb hby (d39 112)) rfl rfl (XS.iloadN X14.here hx rfl (hb hby (d39 113)) rfl (XS.lloadN X14.here hx rfl (hb hby (d39 114)) rfl (XS.iload X14.here hx rfl (hb hby (d39 115)) rfl (XS.aload X14.here hx rfl (hb hby (d39 116)) rfl rfl q))))) ?_
  show OF _ _ _ _ (T14.setTop (mkF m 211 #[vr a0, vi p1, .val (.long q2), .second, vi p3, vr a4] [(.ref a4), (.int p3), (.long q2), (.int p1), (.ref a0)]))
  refine oS (fun _ q => XS.bipush X14.here hx rfl (hb hby (d39 117)) q) ?_
  obtain ⟨_, _, ⟨T15, L15, k15, n15⟩, -, X15, ⟨Lc15, hQ15, l15, y15, z15⟩, st15⟩ := Jvm.LawKit.callS X14 hx (y := yM42) hown (mvT hZ (w_ hw 227 rfl)) (mvT hZ (w_ hw 228 rfl)) (mvT hZ (w_ hw 199 rfl)) (mvT hZ (w_ hw 229 rfl)) (by decide) (backOf (W := 0) (rm_d l Z av0 hw [] a0 p1 q2 p3 a4 (14 : Int32) b0 k_b0 z0 s0 k_a4 w_COMPACT_STRINGS w_SIOOBE_FORMATTER h0 n0 (Nat.le_trans Z0 kp0.1) Ol0 X_a0 F_coder_a0 F_value_a0 V_b0 V_a4 (by decide) (hN (14 : Int32) (by decide)) hcs S_COMPACT_STRINGS S_SIOOBE_FORMATTER hr_w_SIOOBE_FORMATTER) hZ (w_ hw 229 rfl) (w_ hw 199 rfl) (by decide) (by decide)) (g := (mkF m 213 #[vr a0, vi p1, .val (.long q2), .second, vi p3, vr a4] [(.int 14), (.ref a4), (.int p3), (.long q2), (.int p1), (.ref a0)])) rfl (by rw [hml]; rfl) (argsL := [(.ref a0), (.int p1), (.long q2), (.int p3), (.ref a4), (.int 14)]) (rest := []) (lenOf pd_30 rfl) rfl (by show 2 * 0 + _ ≤ _; exact Nat.le_of_eq rfl) (hb hby (d39 118)) (fun _ _ => ⟨rfl, he14, (by decide : 0 + 0 ≤ _), (by decide : 0 + 0 ≤ _)⟩)
  dsimp only [Pt.U, Pt.locs, Pt.cells, Pt.slots] at X15 l15 y15 z15 st15 hQ15
  subst l15 y15 z15
  obtain ⟨rfl, N15q, he15⟩ := hQ15
  have N15 := Fr.app N14 N15q
  refine oS st15 ?_
  show OF _ _ _ _ (T15.setTop (mkF m 216 _ _))
  refine oS (fun _ q => XS.ifNo X15.here hx rfl (hb hby (d39 119)) rfl (Jvm.Free.XT.i0_eq_f (by decide : ¬ ((1 : Int32) = (0 : Int32)))) q) ?_
  show OF _ _ _ _ (T15.setTop (mkF m 219 _ _))
  refine oS (fun _ q => XS.aloadN X15.here hx rfl (hb hby (d39 120)) rfl rfl (XS.iloadN X15.here hx rfl (hb hby (d39 121)) rfl (XS.lloadN X15.here hx rfl (hb hby (d39 122)) rfl (XS.iload X15.here hx rfl (hb hby (d39 123)) rfl (XS.aload X15.here hx rfl (hb hby (d39 124)) rfl rfl (XS.bipush X15.here hx rfl (hb hby (d39 125)) q)))))) ?_
  obtain ⟨_, _, ⟨T16, L16, k16, n16⟩, -, X16, ⟨Lc16, hQ16, l16, y16, z16⟩, st16⟩ := Jvm.LawKit.callS X15 hx (y := yM42) hown (mvT hZ (w_ hw 227 rfl)) (mvT hZ (w_ hw 228 rfl)) (mvT hZ (w_ hw 199 rfl)) (mvT hZ (w_ hw 229 rfl)) (by decide) (backOf (W := 0) (rm_d l Z av0 hw [] a0 p1 q2 p3 a4 (15 : Int32) b0 k_b0 z0 s0 k_a4 w_COMPACT_STRINGS w_SIOOBE_FORMATTER h0 n0 (Nat.le_trans Z0 kp0.1) Ol0 X_a0 F_coder_a0 F_value_a0 V_b0 V_a4 (by decide) (hN (15 : Int32) (by decide)) hcs S_COMPACT_STRINGS S_SIOOBE_FORMATTER hr_w_SIOOBE_FORMATTER) hZ (w_ hw 229 rfl) (w_ hw 199 rfl) (by decide) (by decide)) (g := (mkF m 228 #[vr a0, vi p1, .val (.long q2), .second, vi p3, vr a4] [(.int 15), (.ref a4), (.int p3), (.long q2), (.int p1), (.ref a0)])) rfl (by rw [hml]; rfl) (argsL := [(.ref a0), (.int p1), (.long q2), (.int p3), (.ref a4), (.int 15)]) (rest := []) (lenOf pd_30 rfl) rfl (by show 2 * 0 + _ ≤ _; exact Nat.le_of_eq rfl) (hb hby (d39 126)) (fun _ _ => ⟨rfl, he15, (by decide : 0 + 0 ≤ _), (by decide : 0 + 0 ≤ _)⟩)
  dsimp only [Pt.U, Pt.locs, Pt.cells, Pt.slots] at X16 l16 y16 z16 st16 hQ16
  subst l16 y16 z16
  obtain ⟨rfl, N16q, he16⟩ := hQ16
  have N16 := Fr.app N15 N16q
  refine oS st16 ?_
  show OF _ _ _ _ (T16.setTop (mkF m 231 _ _))
  refine oS (fun _ q => XS.ifNo X16.here hx rfl (hb hby (d39 127)) rfl (Jvm.Free.XT.i0_eq_f (by decide : ¬ ((1 : Int32) = (0 : Int32)))) q) ?_
  show OF _ _ _ _ (T16.setTop (mkF m 234 _ _))
  refine oS (fun _ q => XS.aloadN X16.here hx rfl (hb hby (d39 128)) rfl rfl (XS.iloadN X16.here hx rfl (hb hby (d39 129)) rfl q)) ?_
  show OF _ _ _ _ (T16.setTop (mkF m 236 #[vr a0, vi p1, .val (.long q2), .second, vi p3, vr a4] [(.int p1), (.ref a0)]))
  refine oS (fun _ q => XS.lloadN X16.here hx rfl (hb hby (d39 130)) rfl (XS.iload X16.here hx rfl (hb hby (d39 131)) rfl (XS.aload X16.here hx rfl (hb hby (d39 132)) rfl rfl (XS.bipush X16.here hx rfl (hb hby (d39 133)) q)))) ?_
  obtain ⟨_, _, ⟨T17, L17, k17, n17⟩, -, X17, ⟨Lc17, hQ17, l17, y17, z17⟩, st17⟩ := Jvm.LawKit.callS X16 hx (y := yM42) hown (mvT hZ (w_ hw 227 rfl)) (mvT hZ (w_ hw 228 rfl)) (mvT hZ (w_ hw 199 rfl)) (mvT hZ (w_ hw 229 rfl)) (by decide) (backOf (W := 0) (rm_d l Z av0 hw [] a0 p1 q2 p3 a4 (16 : Int32) b0 k_b0 z0 s0 k_a4 w_COMPACT_STRINGS w_SIOOBE_FORMATTER h0 n0 (Nat.le_trans Z0 kp0.1) Ol0 X_a0 F_coder_a0 F_value_a0 V_b0 V_a4 (by decide) (hN (16 : Int32) (by decide)) hcs S_COMPACT_STRINGS S_SIOOBE_FORMATTER hr_w_SIOOBE_FORMATTER) hZ (w_ hw 229 rfl) (w_ hw 199 rfl) (by decide) (by decide)) (g := (mkF m 243 #[vr a0, vi p1, .val (.long q2), .second, vi p3, vr a4] [(.int 16), (.ref a4), (.int p3), (.long q2), (.int p1), (.ref a0)])) rfl (by rw [hml]; rfl) (argsL := [(.ref a0), (.int p1), (.long q2), (.int p3), (.ref a4), (.int 16)]) (rest := []) (lenOf pd_30 rfl) rfl (by show 2 * 0 + _ ≤ _; exact Nat.le_of_eq rfl) (hb hby (d39 134)) (fun _ _ => ⟨rfl, he16, (by decide : 0 + 0 ≤ _), (by decide : 0 + 0 ≤ _)⟩)
  dsimp only [Pt.U, Pt.locs, Pt.cells, Pt.slots] at X17 l17 y17 z17 st17 hQ17
  subst l17 y17 z17
  obtain ⟨rfl, N17q, he17⟩ := hQ17
  have N17 := Fr.app N16 N17q
  refine oS st17 ?_
  show OF _ _ _ _ (T17.setTop (mkF m 246 _ _))
  refine oS (fun _ q => XS.ifNo X17.here hx rfl (hb hby (d39 135)) rfl (Jvm.Free.XT.i0_eq_f (by decide : ¬ ((1 : Int32) = (0 : Int32)))) q) ?_
  show OF _ _ _ _ (T17.setTop (mkF m 249 _ _))
  refine oS (fun _ q => XS.aloadN X17.here hx rfl (hb hby (d39 136)) rfl rfl (XS.iloadN X17.here hx rfl (hb hby (d39 137)) rfl (XS.lloadN X17.here hx rfl (hb hby (d39 138)) rfl (XS.iload X17.here hx rfl (hb hby (d39 139)) rfl (XS.aload X17.here hx rfl (hb hby (d39 140)) rfl rfl (XS.bipush X17.here hx rfl (hb hby (d39 141)) q)))))) ?_
  obtain ⟨_, _, ⟨T18, L18, k18, n18⟩, -, X18, ⟨Lc18, hQ18, l18, y18, z18⟩, st18⟩ := Jvm.LawKit.callS X17 hx (y := yM42) hown (mvT hZ (w_ hw 227 rfl)) (mvT hZ (w_ hw 228 rfl)) (mvT hZ (w_ hw 199 rfl)) (mvT hZ (w_ hw 229 rfl)) (by decide) (backOf (W := 0) (rm_d l Z av0 hw [] a0 p1 q2 p3 a4 (17 : Int32) b0 k_b0 z0 s0 k_a4 w_COMPACT_STRINGS w_SIOOBE_FORMATTER h0 n0 (Nat.le_trans Z0 kp0.1) Ol0 X_a0 F_coder_a0 F_value_a0 V_b0 V_a4 (by decide) (hN (17 : Int32) (by decide)) hcs S_COMPACT_STRINGS S_SIOOBE_FORMATTER hr_w_SIOOBE_FORMATTER) hZ (w_ hw 229 rfl) (w_ hw 199 rfl) (by decide) (by decide)) (g := (mkF m 258 #[vr a0, vi p1, .val (.long q2), .second, vi p3, vr a4] [(.int 17), (.ref a4), (.int p3), (.long q2), (.int p1), (.ref a0)])) rfl (by rw [hml]; rfl) (argsL := [(.ref a0), (.int p1), (.long q2), (.int p3), (.ref a4), (.int 17)]) (rest := []) (lenOf pd_30 rfl) rfl (by show 2 * 0 + _ ≤ _; exact Nat.le_of_eq rfl) (hb hby (d39 142)) (fun _ _ => ⟨rfl, he17, (by decide : 0 + 0 ≤ _), (by decide : 0 + 0 ≤ _)⟩)
  dsimp only [Pt.U, Pt.locs, Pt.cells, Pt.slots] at X18 l18 y18 z18 st18 hQ18
  subst l18 y18 z18
  obtain ⟨rfl, N18q, he18⟩ := hQ18
  have N18 := Fr.app N17 N18q
  refine oS st18 ?_
  show OF _ _ _ _ (T18.setTop (mkF m 261 #[vr a0, vi p1, .val (.long q2), .second, vi p3, vr a4] [(.int 1)]))
  refine oS (fun _ q => XS.ifNo X18.here hx rfl (hb hby (d39 143)) rfl (Jvm.Free.XT.i0_eq_f (by decide : ¬ ((1 : Int32) = (0 : Int32)))) q) ?_
  show OF _ _ _ _ (T18.setTop (mkF m 264 _ _))
  refine oS (fun _ q => XS.aloadN X18.here hx rfl (hb hby (d39 144)) rfl rfl (XS.iloadN X18.here hx rfl (hb hby (d39 145)) rfl (XS.lloadN X18.here hx rfl (hb hby (d39 146)) rfl (XS.iload X18.here hx rfl (hb hby (d39 147)) rfl (XS.aload X18.here hx rfl (hb hby (d39 148)) rfl rfl (XS.bipush X18.here hx rfl (hb hby (d39 149)) q)))))) ?_
  obtain ⟨_, _, ⟨T19, L19, k19, n19⟩, -, X19, ⟨Lc19, hQ19, l19, y19, z19⟩, st19⟩ := Jvm.LawKit.callS X18 hx (y := yM42) hown (mvT hZ (w_ hw 227 rfl)) (mvT hZ (w_ hw 228 rfl)) (mvT hZ (w_ hw 199 rfl)) (mvT hZ (w_ hw 229 rfl)) (by decide) (backOf (W := 0) (rm_d l Z av0 hw [] a0 p1 q2 p3 a4 (18 : Int32) b0 k_b0 z0 s0 k_a4 w_COMPACT_STRINGS w_SIOOBE_FORMATTER h0 n0 (Nat.le_trans Z0 kp0.1) Ol0 X_a0 F_coder_a0 F_value_a0 V_b0 V_a4 (by decide) (hN (18 : Int32) (by decide)) hcs S_COMPACT_STRINGS S_SIOOBE_FORMATTER hr_w_SIOOBE_FORMATTER) hZ (w_ hw 229 rfl) (w_ hw 199 rfl) (by decide) (by decide)) (g := (mkF m 273 #[vr a0, vi p1, .val (.long q2), .second, vi p3, vr a4] [(.int 18), (.ref a4), (.int p3), (.long q2), (.int p1), (.ref a0)])) rfl (by rw [hml]; rfl) (argsL := [(.ref a0), (.int p1), (.long q2), (.int p3), (.ref a4), (.int 18)]) (rest := []) (lenOf pd_30 rfl) rfl (by show 2 * 0 + _ ≤ _; exact Nat.le_of_eq rfl) (hb hby (d39 150)) (fun _ _ => ⟨rfl, he18, (by decide : 0 + 0 ≤ _), (by decide : 0 + 0 ≤ _)⟩)
  dsimp only [Pt.U, Pt.locs, Pt.cells, Pt.slots] at X19 l19 y19 z19 st19 hQ19
  subst l19 y19 z19
  obtain ⟨rfl, N19q, he19⟩ := hQ19
  have N19 := Fr.app N18 N19q
  refine oS st19 ?_
  show OF _ _ _ _ (T19.setTop (mkF m 276 _ _))
  refine oS (fun _ q => XS.ifNo X19.here hx rfl (hb hby (d39 151)) rfl (Jvm.Free.XT.i0_eq_f (by decide : ¬ ((1 : Int32) = (0 : Int32)))) q) ?_
  show OF _ _ _ _ (T19.setTop (mkF m 279 _ _))
  refine oS (fun _ q => XS.iconst X19.here hx rfl (hb hby (d39 152)) (XS.goto X19.here hx rfl (pc0 := 280) (pc' := 284) rfl (hb hby (d39 153)) (by decide) (by decide) q)) ?_
  obtain ⟨fs, hr, hrun, hended, hW, hsame⟩ := X19.leave (v := some (.int 1)) (fun h => by rw [Bd.returns] at h; cases h)
  refine ⟨_, _, retN X19 hx (t := .boolean) Bd.returns (by simp) (hb hby (d39 154)) hr, hrun, hended, _, _, rfl, ?_, ⟨_, rfl⟩, hW, hsame.mono (by decide) (by decide)⟩
  show Q_rm_num Z a0 p1 q2 p3 a4 b0 k_b0 z0 s0 k_a4 w_COMPACT_STRINGS w_SIOOBE_FORMATTER h0 n0 _ T19.heap _
  rw [he19]
  refine ⟨?_, N19, rfl⟩
  rfl
theorem own_nat {i : Int32} (h : ¬ i < 0) : (i.toNatClampNeg : Int) = i.toInt := by rw [Int32.lt_iff_toInt_lt] at h; have r : (0 : Int32).toInt = 0 := rfl; simp only [Int32.toNatClampNeg]; omega
theorem own_dle {a j : Nat} (ha : a < 10 ^ 19) (hj : 1 ≤ j) : a < 10 ^ j ↔ own_dc a ≤ j := by
  obtain ⟨h1, h2, h3, h4⟩ := own_dcp ha
  constructor
  · intro h; by_cases q : j < own_dc a
    · have : 10 ^ j ≤ 10 ^ (own_dc a - 1) := Nat.pow_le_pow_right (by decide) (by omega)
      rcases h4 with e | e
      · omega
      · exact absurd h (Nat.not_lt.mpr (Nat.le_trans this e))
    · omega
  · intro h; exact Nat.lt_of_lt_of_le h3 (Nat.pow_le_pow_right (by decide) h)
theorem own_ldv {v P : Int64} {D : Nat} (hD : 0 < D) (hP : P.toInt = (D : Int)) : (v / P).toInt.natAbs = v.toInt.natAbs / D ∧ (0 ≤ v.toInt → 0 ≤ (v / P).toInt) ∧ (v.toInt < 0 → (v / P).toInt ≤ 0) := by
  have hn : P ≠ -1 := fun e => by rw [e] at hP; have r : (-1 : Int64).toInt = -1 := by decide
                                  omega
  have d := c_ldiv v P (D : Int) hP hn
  by_cases q : 0 ≤ v.toInt
  · have e := d.1 q
    obtain ⟨x, hx⟩ := Int.eq_ofNat_of_zero_le q
    rw [hx] at e
    have e2 : ((x : Int) / (D : Int)) = ((x / D : Nat) : Int) := (Int.natCast_ediv x D).symm
    have vx : v.toInt.natAbs = x := by omega
    rw [e2] at e; rw [e, vx]; generalize x / D = y; refine ⟨by omega, fun _ => by omega, fun h => by omega⟩
  · have q' : v.toInt < 0 := by omega
    have e := d.2 q'
    obtain ⟨x, hx⟩ := Int.eq_ofNat_of_zero_le (a := -v.toInt) (by omega)
    rw [hx] at e
    have e2 : ((x : Int) / (D : Int)) = ((x / D : Nat) : Int) := (Int.natCast_ediv x D).symm
    rw [e2] at e
    have vx : v.toInt.natAbs = x := by omega
    rw [e, vx]; generalize x / D = y; refine ⟨by omega, fun h => absurd h q, fun _ => by omega⟩
theorem own_dstep {q P : Int64} {j : Nat} {x : Int32} (hP : P.toInt = ((10 ^ j : Nat) : Int)) (hj : 1 ≤ j ∧ j ≤ 18) (hx : x = Int32.ofNat (min (own_dc q.toInt.natAbs) j)) : x + (if (q / P) = 0 then (0 : Int32) else (1 : Int32)) = Int32.ofNat (min (own_dc q.toInt.natAbs) (j + 1)) := by
  have pp : 0 < 10 ^ j := Nat.pow_pos (by decide)
  have l := own_ldv (v := q) pp hP
  have dl := own_dle (own_aL q) hj.1
  have r0 : (0 : Int64).toInt = 0 := rfl
  have z : (q / P) = 0 ↔ own_dc q.toInt.natAbs ≤ j := by
    rw [← dl, ← Int64.toInt_inj, r0, ← Nat.div_eq_zero_iff_lt pp, ← l.1]; omega
  have b := own_dcp (own_aL q)
  have v1 := own_ofv (n := min (own_dc q.toInt.natAbs) j) (by omega); have v2 := own_ofv (n := min (own_dc q.toInt.natAbs) (j + 1)) (by omega)
  rw [hx, ← Int32.toInt_inj, v2]
  split
  · rename_i h; have h' := z.mp h
    have e := c_iadd (Int32.ofNat (min (own_dc q.toInt.natAbs) j)) (0 : Int32); have e' := rng32 (Int32.ofNat (min (own_dc q.toInt.natAbs) j) + 0); have r : (0 : Int32).toInt = 0 := rfl
    omega
  · rename_i h; have h' : ¬ own_dc q.toInt.natAbs ≤ j := fun w => h (z.mpr w)
    have e := c_iadd (Int32.ofNat (min (own_dc q.toInt.natAbs) j)) (1 : Int32); have e' := rng32 (Int32.ofNat (min (own_dc q.toInt.natAbs) j) + 1); have r : (1 : Int32).toInt = 1 := rfl
    omega
theorem own_dgs0 (q : Int64) : (1 : Int32) = Int32.ofNat (min (own_dc q.toInt.natAbs) 1) := by
  have b := own_dcp (own_aL q); rw [show min (own_dc q.toInt.natAbs) 1 = 1 by omega]; rfl
theorem own_dgsv (q : Int64) : own_dgs q = Int32.ofNat (own_dc q.toInt.natAbs) := by
  have b := own_dcp (own_aL q)
  rw [show own_dc q.toInt.natAbs = min (own_dc q.toInt.natAbs) (18 + 1) by omega]
  exact own_dstep (j := 18) (by decide) (by decide) (own_dstep (j := 17) (by decide) (by decide) (own_dstep (j := 16) (by decide) (by decide) (own_dstep (j := 15) (by decide) (by decide) (own_dstep (j := 14) (by decide) (by decide) (own_dstep (j := 13) (by decide) (by decide) (own_dstep (j := 12) (by decide) (by decide) (own_dstep (j := 11) (by decide) (by decide) (own_dstep (j := 10) (by decide) (by decide) (own_dstep (j := 9) (by decide) (by decide) (own_dstep (j := 8) (by decide) (by decide) (own_dstep (j := 7) (by decide) (by decide) (own_dstep (j := 6) (by decide) (by decide) (own_dstep (j := 5) (by decide) (by decide) (own_dstep (j := 4) (by decide) (by decide) (own_dstep (j := 3) (by decide) (by decide) (own_dstep (j := 2) (by decide) (by decide) (own_dstep (j := 1) (by decide) (by decide) (own_dgs0 q))))))))))))))))))
theorem own_expv {v : Int64} {k : Int32} (hk : ¬ k < 0 ∧ k < 19) : (((48 : Int32) + (own_abs (((v / (own_pw k)) - ((v / (own_pw k)) / 10) * 10).toInt32))).toUInt32.toUInt16.toUInt32.toInt32) = Int32.ofNat (48 + v.toInt.natAbs / 10 ^ k.toNatClampNeg % 10) := by
  have l := own_ldv (v := v) (P := own_pw k) (Nat.pow_pos (by decide)) (own_pwv hk)
  generalize v / own_pw k = y at *
  have r := c_lrem y (10 : Int64) 10 (by decide +kernel)
  have t := c_l2i (y - (y / 10) * 10); have t' := rng32 ((y - (y / 10) * 10).toInt32)
  generalize (y - (y / 10) * 10) = w at *
  rw [← l.1]
  have w32 : w.toInt32.toInt.natAbs = y.toInt.natAbs % 10 := by omega
  have ab : (own_abs w.toInt32).toInt = ((y.toInt.natAbs % 10 : Nat) : Int) := by
    unfold own_abs; have g := c_ineg w.toInt32; have g' := rng32 (-w.toInt32); have r0 : (0 : Int32).toInt = 0 := rfl
    split
    · rename_i h; rw [Int32.lt_iff_toInt_lt] at h; omega
    · rename_i h; rw [Int32.lt_iff_toInt_lt] at h; omega
  generalize own_abs w.toInt32 = u at *
  have s := c_iadd (48 : Int32) u; have s' := rng32 ((48 : Int32) + u); have r48 : (48 : Int32).toInt = 48 := rfl
  have i := c_i2c ((48 : Int32) + u)
  have ov := own_ofv (n := 48 + y.toInt.natAbs % 10) (by omega)
  rw [← Int32.toInt_inj, ov]; omega
theorem own_chv {f : Nat → Int32} {i : Int32} {v : Nat} (h : own_at f i = Int32.ofNat v) (hv : v < 128) : own_ch f i = Int32.ofNat v := by
  have q : ∀ v : Fin 128, ((Int32.ofNat v.1) &&& (255 : Int32)).toUInt32.toUInt16.toUInt32.toInt32 = Int32.ofNat v.1 := by decide +kernel
  unfold own_ch; rw [h]; exact q ⟨v, hv⟩
def own_n1 (q : Int64) : Nat := own_dc q.toInt.natAbs + (if q < 0 then 1 else 0)
def own_n2 (m : Int32) : Nat := own_dc m.toInt.natAbs + (if m < 0 then 1 else 0)
theorem own_n1v (q : Int64) : (own_ssL q).toInt = (own_n1 q : Int) := by rw [own_ssLv]; unfold own_n1; split <;> omega
theorem own_n2v (m : Int32) : (own_ssI m).toInt = (own_n2 m : Int) := by rw [own_ssIv]; unfold own_n2; split <;> omega
theorem own_n1b (q : Int64) : 1 ≤ own_n1 q ∧ own_n1 q ≤ 20 := by have a := own_n1v q; have b := own_ssLb q; omega
theorem own_n2b (m : Int32) : 1 ≤ own_n2 m ∧ own_n2 m ≤ 11 := by have a := own_n2v m; have b := own_ssIb m; omega
theorem own_eAv (q9 : Int64) : (((0 : Int32) + (own_ssL q9))).toInt = (own_n1 q9 : Int) := by
  have a := own_n1v q9; have b := own_ssLb q9; have r : (0 : Int32).toInt = 0 := rfl
  have e := c_iadd (0 : Int32) (own_ssL q9); have e' := rng32 ((0 : Int32) + (own_ssL q9)); omega
theorem own_eAn (q9 : Int64) : (((0 : Int32) + (own_ssL q9))).toNatClampNeg = own_n1 q9 := by have := own_eAv q9; simp only [Int32.toNatClampNeg]; omega
theorem own_lenv (q9 : Int64) (m9 : Int32) : (own_len q9 m9).toInt = ((own_n1 q9 + 1 + own_n2 m9 : Nat) : Int) := by
  have a := own_eAv q9; have b := own_n1b q9; have d := own_n2v m9; have d' := own_n2b m9
  unfold own_len; rw [own_sr0]
  generalize ((0 : Int32) + (own_ssL q9)) = x at *
  have r : (1 : Int32).toInt = 1 := rfl
  have e := c_iadd x (1 : Int32); have e' := rng32 (x + 1); have f := c_iadd (x + 1) (own_ssI m9); have f' := rng32 ((x + 1) + own_ssI m9)
  omega
theorem own_lenn (q9 : Int64) (m9 : Int32) : (own_len q9 m9).toNatClampNeg = own_n1 q9 + 1 + own_n2 m9 := by have := own_lenv q9 m9; simp only [Int32.toNatClampNeg]; omega
theorem own_FBv (q : Int64) (i : Nat) : own_FB q i = if i = own_n1 q then 47 else own_out q.toInt (own_n1 q) own_zf i := by
  unfold own_FB own_cpy own_outL; rw [own_sh0, own_eAn]
  have r0 : (0 : Int32).toNatClampNeg = 0 := rfl; have r1 : (1 : Int32).toNatClampNeg = 1 := rfl
  rw [r0, r1]
  by_cases q2 : i = own_n1 q
  · rw [if_pos (by omega), if_pos q2, show 0 + (i - own_n1 q) = 0 by omega]; rfl
  · rw [if_neg (by omega), if_neg q2]
theorem own_Tv (q : Int64) (m : Int32) (i : Nat) : own_T q m i = if own_n1 q + 1 + own_n2 m ≤ i + own_dc m.toInt.natAbs ∧ i < own_n1 q + 1 + own_n2 m then Int32.ofNat (48 + m.toInt.natAbs / 10 ^ (own_n1 q + 1 + own_n2 m - 1 - i) % 10) else if m.toInt < 0 ∧ i + 1 + own_dc m.toInt.natAbs = own_n1 q + 1 + own_n2 m then 45 else own_FB q i := by
  have e := own_lenn q m; unfold own_len at e
  unfold own_T own_outI own_out; rw [e]
theorem own_n2d (m : Int32) : own_dc m.toInt.natAbs ≤ own_n2 m ∧ (m.toInt < 0 → own_n2 m = own_dc m.toInt.natAbs + 1) ∧ (¬ m.toInt < 0 → own_n2 m = own_dc m.toInt.natAbs) := by
  unfold own_n2; split
  · rename_i h; rw [own_ltI] at h; omega
  · rename_i h; rw [own_ltI] at h; omega
theorem own_n1d (q : Int64) : own_dc q.toInt.natAbs ≤ own_n1 q ∧ (q.toInt < 0 → own_n1 q = own_dc q.toInt.natAbs + 1) ∧ (¬ q.toInt < 0 → own_n1 q = own_dc q.toInt.natAbs) := by
  unfold own_n1; split
  · rename_i h; rw [own_ltL] at h; omega
  · rename_i h; rw [own_ltL] at h; omega
theorem own_Tlo (q : Int64) (m : Int32) {i : Nat} (h : i ≤ own_n1 q) : own_T q m i = own_FB q i := by
  have d := own_n2d m; rw [own_Tv, if_neg (by omega), if_neg (by omega)]
theorem own_TA (q : Int64) (m : Int32) {k : Nat} (h : k < own_dc q.toInt.natAbs) : own_T q m (own_n1 q - 1 - k) = Int32.ofNat (48 + q.toInt.natAbs / 10 ^ k % 10) := by
  have d := own_n1d q
  rw [own_Tlo q m (by omega), own_FBv, if_neg (by omega)]; unfold own_out
  rw [if_pos (by omega), show own_n1 q - 1 - (own_n1 q - 1 - k) = k by omega]
theorem own_TB (q : Int64) (m : Int32) : own_T q m (own_n1 q) = Int32.ofNat 47 := by rw [own_Tlo q m (Nat.le_refl _), own_FBv, if_pos rfl]; rfl
theorem own_TC (q : Int64) (m : Int32) (h : q < 0) : own_T q m 0 = Int32.ofNat 45 := by
  have d := own_n1d q; rw [own_ltL] at h; have b := own_dcp (own_aL q)
  rw [own_Tlo q m (by omega), own_FBv, if_neg (by omega)]; unfold own_out
  rw [if_neg (by omega), if_pos ⟨h, by omega⟩]; rfl
theorem own_TD (q : Int64) (m : Int32) (h : m.toInt < 0) : own_T q m (own_n1 q + 1) = Int32.ofNat 45 := by
  have d := own_n2d m
  rw [own_Tv, if_neg (by omega), if_pos ⟨h, by omega⟩]; rfl
theorem own_TE (q : Int64) (m : Int32) {k : Nat} (h : k < own_dc m.toInt.natAbs) : own_T q m (own_n1 q + 1 + own_n2 m - 1 - k) = Int32.ofNat (48 + m.toInt.natAbs / 10 ^ k % 10) := by
  have d := own_n2d m
  rw [own_Tv, if_pos (by omega), show own_n1 q + 1 + own_n2 m - 1 - (own_n1 q + 1 + own_n2 m - 1 - k) = k by omega]
/- the law's own numbers -/
theorem own_slv (q0 : Int64) : (((if q0 < 0 then (1 : Int32) else (0 : Int32)) + (own_dgs q0))).toInt = (own_n1 q0 : Int) := by
  rw [own_dgsv]; have b := own_dcp (own_aL q0); have v := own_ofv (n := own_dc q0.toInt.natAbs) (by omega)
  have r1 : (1 : Int32).toInt = 1 := rfl; have r0 : (0 : Int32).toInt = 0 := rfl
  unfold own_n1; split
  · have e := c_iadd (1 : Int32) (Int32.ofNat (own_dc q0.toInt.natAbs)); have e' := rng32 ((1 : Int32) + Int32.ofNat (own_dc q0.toInt.natAbs)); omega
  · have e := c_iadd (0 : Int32) (Int32.ofNat (own_dc q0.toInt.natAbs)); have e' := rng32 ((0 : Int32) + Int32.ofNat (own_dc q0.toInt.natAbs)); omega
theorem own_mlv (p1 : Int32) : p1.toInt64.toInt = p1.toInt := c_i2l p1
theorem own_s2v (p1 : Int32) : ((if (p1.toInt64) < (0 : Int64) then (1 : Int32) else (0 : Int32))).toInt + (own_dgs p1.toInt64).toInt = (own_n2 p1 : Int) ∧ 0 ≤ ((if (p1.toInt64) < (0 : Int64) then (1 : Int32) else (0 : Int32))).toInt ∧ ((if (p1.toInt64) < (0 : Int64) then (1 : Int32) else (0 : Int32))).toInt ≤ 1 ∧ 1 ≤ (own_dgs p1.toInt64).toInt := by
  rw [own_dgsv]; have l := c_i2l p1; have b := own_dcp (own_aL p1.toInt64); have v := own_ofv (n := own_dc p1.toInt64.toInt.natAbs) (by omega)
  have hN : p1.toInt64.toInt.natAbs = p1.toInt.natAbs := by rw [l]
  rw [v]; rw [hN] at b ⊢
  have d := own_n2d p1
  have r1 : (1 : Int32).toInt = 1 := rfl; have r0 : (0 : Int32).toInt = 0 := rfl
  split
  · rename_i h; rw [own_ltL, l] at h; omega
  · rename_i h; rw [own_ltL, l] at h; omega
theorem own_LNv (q0 : Int64) (p1 : Int32) : ((((((if q0 < 0 then (1 : Int32) else (0 : Int32)) + (own_dgs q0)) + 1) + (if (p1.toInt64) < (0 : Int64) then (1 : Int32) else (0 : Int32))) + (own_dgs (p1.toInt64)))).toInt = ((own_n1 q0 + 1 + own_n2 p1 : Nat) : Int) := by
  have a := own_slv q0; have b := own_n1b q0; have d := own_s2v p1; have d' := own_n2b p1; have r1 : (1 : Int32).toInt = 1 := rfl
  generalize ((if q0 < 0 then (1 : Int32) else (0 : Int32)) + (own_dgs q0)) = x at *
  generalize (if (p1.toInt64) < (0 : Int64) then (1 : Int32) else (0 : Int32)) = y at *
  generalize own_dgs (p1.toInt64) = z at *
  have e1 := c_iadd x (1 : Int32); have e1' := rng32 (x + 1); have e2 := c_iadd (x + 1) y; have e2' := rng32 ((x + 1) + y); have e3 := c_iadd ((x + 1) + y) z; have e3' := rng32 (((x + 1) + y) + z)
  omega
theorem own_lawlen (q0 : Int64) (p1 : Int32) : (own_len q0 p1 >>> ((0 : Int32) &&& 31)) = (((((if q0 < 0 then (1 : Int32) else (0 : Int32)) + (own_dgs q0)) + 1) + (if (p1.toInt64) < (0 : Int64) then (1 : Int32) else (0 : Int32))) + (own_dgs (p1.toInt64))) := by
  rw [own_sr0, ← Int32.toInt_inj, own_lenv, own_LNv]
theorem own_inix {q : Int64} {m x : Int32} {i : Nat} (h : x.toInt = (i : Int)) (hi : i < own_n1 q + 1 + own_n2 m) : ¬ (x < 0) ∧ x < own_len q m := by
  have l := own_lenv q m; have r : (0 : Int32).toInt = 0 := rfl; rw [Int32.lt_iff_toInt_lt, Int32.lt_iff_toInt_lt]; omega
theorem own_atT {q : Int64} {m x : Int32} {i : Nat} (h : x.toInt = (i : Int)) : own_at (own_T q m) x = own_T q m i := by
  unfold own_at; have e : x.toNatClampNeg = i := by simp only [Int32.toNatClampNeg]; omega
  rw [e]
theorem own_ix0 (q0 : Int64) (p1 : Int32) : ¬ ((0 : Int32) < (0 : Int32)) ∧ (0 : Int32) < own_len q0 p1 := own_inix (i := 0) rfl (by omega)
theorem own_ixs (q0 : Int64) (p1 : Int32) : ¬ (((if q0 < 0 then (1 : Int32) else (0 : Int32)) + (own_dgs q0)) < 0) ∧ ((if q0 < 0 then (1 : Int32) else (0 : Int32)) + (own_dgs q0)) < own_len q0 p1 := own_inix (own_slv q0) (by omega)
theorem own_sl1 (q0 : Int64) : (((if q0 < 0 then (1 : Int32) else (0 : Int32)) + (own_dgs q0)) + 1).toInt = ((own_n1 q0 + 1 : Nat) : Int) := by
  have a := own_slv q0; have b := own_n1b q0; have r1 : (1 : Int32).toInt = 1 := rfl
  have e := c_iadd ((if q0 < 0 then (1 : Int32) else (0 : Int32)) + (own_dgs q0)) (1 : Int32); have e' := rng32 (((if q0 < 0 then (1 : Int32) else (0 : Int32)) + (own_dgs q0)) + 1); omega
theorem own_ix1 (q0 : Int64) (p1 : Int32) : ¬ ((((if q0 < 0 then (1 : Int32) else (0 : Int32)) + (own_dgs q0)) + 1) < 0) ∧ (((if q0 < 0 then (1 : Int32) else (0 : Int32)) + (own_dgs q0)) + 1) < own_len q0 p1 := by
  have b := own_n2b p1; exact own_inix (own_sl1 q0) (by omega)
theorem own_law0 (q0 : Int64) (p1 : Int32) (h : q0 < 0) : own_ch (own_T q0 p1) (0 : Int32) = (45 : Int32) := own_chv (v := 45) ((own_atT (i := 0) rfl).trans (own_TC q0 p1 h)) (by decide)
theorem own_laws (q0 : Int64) (p1 : Int32) : own_ch (own_T q0 p1) ((if q0 < 0 then (1 : Int32) else (0 : Int32)) + (own_dgs q0)) = 47 := own_chv (v := 47) ((own_atT (own_slv q0)).trans (own_TB q0 p1)) (by decide)
theorem own_lawm (q0 : Int64) (p1 : Int32) (h : p1.toInt64 < 0) : own_ch (own_T q0 p1) (((if q0 < 0 then (1 : Int32) else (0 : Int32)) + (own_dgs q0)) + 1) = 45 :=
  own_chv (v := 45) ((own_atT (own_sl1 q0)).trans (own_TD q0 p1 (by rw [own_ltL, c_i2l] at h; exact h))) (by decide)
theorem own_num {q : Int64} {m : Int32} {v : Int64} {E N : Int32} {n : Nat} (hE : E.toInt = (n : Int) - 1) (hn : n ≤ own_n1 q + 1 + own_n2 m) (hN : N.toInt = (own_dc v.toInt.natAbs : Int)) (hd : own_dc v.toInt.natAbs ≤ n) (hT : ∀ {k : Nat}, k < own_dc v.toInt.natAbs → own_T q m (n - 1 - k) = Int32.ofNat (48 + v.toInt.natAbs / 10 ^ k % 10)) :
    ∀ k : Int32, ¬ k < 0 ∧ k < 19 → k < N → (¬ ((E - k) < 0) ∧ (E - k) < own_len q m) ∧ own_ch (own_T q m) (E - k) = (((48 : Int32) + (own_abs (((v / (own_pw k)) - ((v / (own_pw k)) / 10) * 10).toInt32))).toUInt32.toUInt16.toUInt32.toInt32) := fun k hk hkN => by
  have kk := own_nat hk.1; have k19 := own_pwk hk; have b := own_n1b q; have b2 := own_n2b m
  rw [Int32.lt_iff_toInt_lt] at hkN
  have s := c_isub E k; have s' := rng32 (E - k)
  have ev : (E - k).toInt = ((n - 1 - k.toNatClampNeg : Nat) : Int) := by omega
  refine ⟨own_inix ev (by omega), ?_⟩
  rw [own_expv hk]
  exact own_chv ((own_atT ev).trans (hT (by omega))) (by omega)
theorem own_hN1 (q0 : Int64) (p1 : Int32) : ∀ k : Int32, ¬ k < 0 ∧ k < 19 → k < own_dgs q0 → (¬ (((((if q0 < 0 then (1 : Int32) else (0 : Int32)) + (own_dgs q0)) - 1) - k) < 0) ∧ ((((if q0 < 0 then (1 : Int32) else (0 : Int32)) + (own_dgs q0)) - 1) - k) < own_len q0 p1) ∧ own_ch (own_T q0 p1) ((((if q0 < 0 then (1 : Int32) else (0 : Int32)) + (own_dgs q0)) - 1) - k) = (((48 : Int32) + (own_abs (((q0 / (own_pw k)) - ((q0 / (own_pw k)) / 10) * 10).toInt32))).toUInt32.toUInt16.toUInt32.toInt32) := by
  have a := own_slv q0; have b := own_n1b q0; have r1 : (1 : Int32).toInt = 1 := rfl; have d := own_n1d q0; have b2 := own_dcp (own_aL q0)
  have e := c_isub ((if q0 < 0 then (1 : Int32) else (0 : Int32)) + (own_dgs q0)) (1 : Int32); have e' := rng32 (((if q0 < 0 then (1 : Int32) else (0 : Int32)) + (own_dgs q0)) - 1)
  exact own_num (v := q0) (n := own_n1 q0) (by omega) (by omega) (by rw [own_dgsv]; exact own_ofv (by omega)) d.1 (own_TA q0 p1)
theorem own_hN2 (q0 : Int64) (p1 : Int32) : ∀ k : Int32, ¬ k < 0 ∧ k < 19 → k < own_dgs p1.toInt64 → (¬ ((((((((if q0 < 0 then (1 : Int32) else (0 : Int32)) + (own_dgs q0)) + 1) + (if (p1.toInt64) < (0 : Int64) then (1 : Int32) else (0 : Int32))) + (own_dgs (p1.toInt64))) - 1) - k) < 0) ∧ (((((((if q0 < 0 then (1 : Int32) else (0 : Int32)) + (own_dgs q0)) + 1) + (if (p1.toInt64) < (0 : Int64) then (1 : Int32) else (0 : Int32))) + (own_dgs (p1.toInt64))) - 1) - k) < own_len q0 p1) ∧ own_ch (own_T q0 p1) (((((((if q0 < 0 then (1 : Int32) else (0 : Int32)) + (own_dgs q0)) + 1) + (if (p1.toInt64) < (0 : Int64) then (1 : Int32) else (0 : Int32))) + (own_dgs (p1.toInt64))) - 1) - k) = (((48 : Int32) + (own_abs ((((p1.toInt64) / (own_pw k)) - (((p1.toInt64) / (own_pw k)) / 10) * 10).toInt32))).toUInt32.toUInt16.toUInt32.toInt32) := by
  have a := own_LNv q0 p1; have b := own_n1b q0; have b' := own_n2b p1; have r1 : (1 : Int32).toInt = 1 := rfl; have d := own_n2d p1; have b2 := own_dcp (own_aL p1.toInt64)
  have e := c_isub (((((if q0 < 0 then (1 : Int32) else (0 : Int32)) + (own_dgs q0)) + 1) + (if (p1.toInt64) < (0 : Int64) then (1 : Int32) else (0 : Int32))) + (own_dgs (p1.toInt64))) (1 : Int32); have e' := rng32 ((((((if q0 < 0 then (1 : Int32) else (0 : Int32)) + (own_dgs q0)) + 1) + (if (p1.toInt64) < (0 : Int64) then (1 : Int32) else (0 : Int32))) + (own_dgs (p1.toInt64))) - 1); have l := c_i2l p1
  refine own_num (v := p1.toInt64) (n := own_n1 q0 + 1 + own_n2 p1) (by omega) (Nat.le_refl _) (by rw [own_dgsv]; exact own_ofv (by omega)) (by rw [l]; omega) ?_
  rw [l]; exact own_TE q0 p1

def own_pv1 : List Value := [(.long 1), (.long 0), (.long 0), (.long 0), (.long 0), (.long 0), (.long 0), (.long 0), (.long 0), (.long 0), (.long 0), (.long 0), (.long 0), (.long 0), (.long 0), (.long 0), (.long 0), (.long 0), (.long 0)]
def own_pv2 : List Value := [(.long 1), (.long 10), (.long 0), (.long 0), (.long 0), (.long 0), (.long 0), (.long 0), (.long 0), (.long 0), (.long 0), (.long 0), (.long 0), (.long 0), (.long 0), (.long 0), (.long 0), (.long 0), (.long 0)]
def own_pv3 : List Value := [(.long 1), (.long 10), (.long 100), (.long 0), (.long 0), (.long 0), (.long 0), (.long 0), (.long 0), (.long 0), (.long 0), (.long 0), (.long 0), (.long 0), (.long 0), (.long 0), (.long 0), (.long 0), (.long 0)]
def own_pv4 : List Value := [(.long 1), (.long 10), (.long 100), (.long 1000), (.long 0), (.long 0), (.long 0), (.long 0), (.long 0), (.long 0), (.long 0), (.long 0), (.long 0), (.long 0), (.long 0), (.long 0), (.long 0), (.long 0), (.long 0)]
def own_pv5 : List Value := [(.long 1), (.long 10), (.long 100), (.long 1000), (.long 10000), (.long 0), (.long 0), (.long 0), (.long 0), (.long 0), (.long 0), (.long 0), (.long 0), (.long 0), (.long 0), (.long 0), (.long 0), (.long 0), (.long 0)]
def own_pv6 : List Value := [(.long 1), (.long 10), (.long 100), (.long 1000), (.long 10000), (.long 100000), (.long 0), (.long 0), (.long 0), (.long 0), (.long 0), (.long 0), (.long 0), (.long 0), (.long 0), (.long 0), (.long 0), (.long 0), (.long 0)]
def own_pv7 : List Value := [(.long 1), (.long 10), (.long 100), (.long 1000), (.long 10000), (.long 100000), (.long 1000000), (.long 0), (.long 0), (.long 0), (.long 0), (.long 0), (.long 0), (.long 0), (.long 0), (.long 0), (.long 0), (.long 0), (.long 0)]
def own_pv8 : List Value := [(.long 1), (.long 10), (.long 100), (.long 1000), (.long 10000), (.long 100000), (.long 1000000), (.long 10000000), (.long 0), (.long 0), (.long 0), (.long 0), (.long 0), (.long 0), (.long 0), (.long 0), (.long 0), (.long 0), (.long 0)]
def own_pv9 : List Value := [(.long 1), (.long 10), (.long 100), (.long 1000), (.long 10000), (.long 100000), (.long 1000000), (.long 10000000), (.long 100000000), (.long 0), (.long 0), (.long 0), (.long 0), (.long 0), (.long 0), (.long 0), (.long 0), (.long 0), (.long 0)]
def own_pv10 : List Value := [(.long 1), (.long 10), (.long 100), (.long 1000), (.long 10000), (.long 100000), (.long 1000000), (.long 10000000), (.long 100000000), (.long 1000000000), (.long 0), (.long 0), (.long 0), (.long 0), (.long 0), (.long 0), (.long 0), (.long 0), (.long 0)]
def own_pv11 : List Value := [(.long 1), (.long 10), (.long 100), (.long 1000), (.long 10000), (.long 100000), (.long 1000000), (.long 10000000), (.long 100000000), (.long 1000000000), (.long 10000000000), (.long 0), (.long 0), (.long 0), (.long 0), (.long 0), (.long 0), (.long 0), (.long 0)]
def own_pv12 : List Value := [(.long 1), (.long 10), (.long 100), (.long 1000), (.long 10000), (.long 100000), (.long 1000000), (.long 10000000), (.long 100000000), (.long 1000000000), (.long 10000000000), (.long 100000000000), (.long 0), (.long 0), (.long 0), (.long 0), (.long 0), (.long 0), (.long 0)]
def own_pv13 : List Value := [(.long 1), (.long 10), (.long 100), (.long 1000), (.long 10000), (.long 100000), (.long 1000000), (.long 10000000), (.long 100000000), (.long 1000000000), (.long 10000000000), (.long 100000000000), (.long 1000000000000), (.long 0), (.long 0), (.long 0), (.long 0), (.long 0), (.long 0)]
def own_pv14 : List Value := [(.long 1), (.long 10), (.long 100), (.long 1000), (.long 10000), (.long 100000), (.long 1000000), (.long 10000000), (.long 100000000), (.long 1000000000), (.long 10000000000), (.long 100000000000), (.long 1000000000000), (.long 10000000000000), (.long 0), (.long 0), (.long 0), (.long 0), (.long 0)]
def own_pv15 : List Value := [(.long 1), (.long 10), (.long 100), (.long 1000), (.long 10000), (.long 100000), (.long 1000000), (.long 10000000), (.long 100000000), (.long 1000000000), (.long 10000000000), (.long 100000000000), (.long 1000000000000), (.long 10000000000000), (.long 100000000000000), (.long 0), (.long 0), (.long 0), (.long 0)]
def own_pv16 : List Value := [(.long 1), (.long 10), (.long 100), (.long 1000), (.long 10000), (.long 100000), (.long 1000000), (.long 10000000), (.long 100000000), (.long 1000000000), (.long 10000000000), (.long 100000000000), (.long 1000000000000), (.long 10000000000000), (.long 100000000000000), (.long 1000000000000000), (.long 0), (.long 0), (.long 0)]
def own_pv17 : List Value := [(.long 1), (.long 10), (.long 100), (.long 1000), (.long 10000), (.long 100000), (.long 1000000), (.long 10000000), (.long 100000000), (.long 1000000000), (.long 10000000000), (.long 100000000000), (.long 1000000000000), (.long 10000000000000), (.long 100000000000000), (.long 1000000000000000), (.long 10000000000000000), (.long 0), (.long 0)]
def own_pv18 : List Value := [(.long 1), (.long 10), (.long 100), (.long 1000), (.long 10000), (.long 100000), (.long 1000000), (.long 10000000), (.long 100000000), (.long 1000000000), (.long 10000000000), (.long 100000000000), (.long 1000000000000), (.long 10000000000000), (.long 100000000000000), (.long 1000000000000000), (.long 10000000000000000), (.long 100000000000000000), (.long 0)]
theorem pd_31 : parseMethodDescriptor "(JI)V" = some ⟨[.long, .int], none⟩ := by decide +kernel
theorem pd_32 : parseMethodDescriptor "(J[J)I" = some ⟨[.long, (.array .long)], some .int⟩ := by decide +kernel
theorem pd_33 : parseMethodDescriptor "(Ljava/lang/String;IJI[J)Z" = some ⟨[(.object "java/lang/String"), .int, .long, .int, (.array .long)], some .boolean⟩ := by decide +kernel
theorem ef_rm0 (m : MethodId) (q0 : Int64) (p1 : Int32) : entryFrame m #[(.long q0), (.int p1)] maxLocals = mkF m 0 #[.val (.long q0), .second, .val (.int p1), .unset, .unset, .unset, .unset, .unset, .unset, .unset, .unset, .unset, .unset] [] := by first | (simp [entryFrame, mkF, argsToLocals, Value.category, maxLocals]; done) | rfl
def Q_rm0 (Z : State) (q0 : Int64) (p1 : Int32) (kO : ClassId) (gO : Nat → Int32) (w_DigitOnes : Addr) (kT : ClassId) (gT : Nat → Int32) (w_DigitTens : Addr) (w_COMPACT_STRINGS : Int32) (w_SIOOBE_FORMATTER : Value) (h0 : Heap) (n0 : Nat) (v : Option Value) (h : Heap) (L : List Loc) : Prop := v = some (.int 1) ∧ Fr n0 L
set_option maxRecDepth 65536 in
set_option maxHeartbeats 40000000 in
theorem rm0 (l : Launch) (Z : State) (av0 : Array Value) (hw : ∀ d ∈ tables_1, d.before av0 Z = true) (ws : List Jvm.Cond) (q0 : Int64) (p1 : Int32) (kO : ClassId) (gO : Nat → Int32) (w_DigitOnes : Addr) (kT : ClassId) (gT : Nat → Int32) (w_DigitTens : Addr) (w_COMPACT_STRINGS : Int32) (w_SIOOBE_FORMATTER : Value) (h0 : Heap) (n0 : Nat) (Z0 : n0 ≤ h0.size) (Ol0 : Old Z n0 h0) (VO : Arv Z Z.heap w_DigitOnes kO .byte (100 : Int32) (own_ml (100 : Int32) gO) (.int 0)) (VT : Arv Z Z.heap w_DigitTens kT .byte (100 : Int32) (own_ml (100 : Int32) gT) (.int 0)) (hO : own_hO gO) (hT : own_hT gT) (hcs : ¬ (w_COMPACT_STRINGS = 0)) (S_COMPACT_STRINGS : Sta Z Z.heap "java/lang/String" "COMPACT_STRINGS" "Z" (.int w_COMPACT_STRINGS)) (S_DigitOnes : Sta Z Z.heap "java/lang/Integer" "DigitOnes" "[B" (.ref w_DigitOnes)) (S_DigitTens : Sta Z Z.heap "java/lang/Integer" "DigitTens" "[B" (.ref w_DigitTens)) (S_SIOOBE_FORMATTER : Sta Z Z.heap "jdk/internal/util/Preconditions" "SIOOBE_FORMATTER" "Ljava/util/function/BiFunction;" w_SIOOBE_FORMATTER) (hr_w_SIOOBE_FORMATTER : w_SIOOBE_FORMATTER.isRef = true) :
    MetFree l x (head1 (Jvm.Cond.code x code maxLocals ret :: ws) room_1) (fun a U => a = #[(.long q0), (.int p1)] ∧ Z.Warmed39 U.vm ∧ U.heap = h0 ∧ CHv Z own_EL U.vm h0) (fun _ _ _ _ _ => True) (fun _ U o U' => ∃ v L, o = .returned v ∧ Q_rm0 Z q0 p1 kO gO w_DigitOnes kT gT w_DigitTens w_COMPACT_STRINGS w_SIOOBE_FORMATTER h0 n0 v U'.heap L ∧ CHr Z own_EL U.vm U.heap U'.vm U'.heap ∧ ReturnedEndW U o U' L room_1.cells room_1.slots) := by
  refine MetFree.of_bodySF (plainFor_of_name pn_10) hisR ?_
  intro p e s m args below meth c s₁ Bd hml0 hP hK
  obtain ⟨rfl, hZ, hh, hCH⟩ := hP
  have hx := Bd.exec
  have hby := Bd.bytes
  have hml : c.maxLocals = 13 := hml0
  have hown : (s.setVm s.vm).vm.findClass "com/example/kwhat/kwhat/ProRataToStringPinLaw" = some m.cls := findClass_of_methodNamed Bd.named
  have hnm := (name_of_methodNamed Bd.named Bd.method).1
  have X0 : Stand p l e room_1 (s.setVm s.vm) m #[(.long q0), (.int p1)] below meth c s₁ [] 0 0 := Stand.of_body Bd
  have e0 : s₁.heap = h0 := by rw [← hh, Bd.state]; rfl
  have N0 := Fr.nil n0
  have hZ : Z.Warmed39 (s.setVm s.vm).vm := hZ
  have hS0 : s.Since s.vm s.heap.size := (State.WarmedH.refl s).since _
  have hk0 : s.heap.size ≤ h0.size := Nat.le_of_eq (by rw [hh])
  have ch0 : CHr Z own_EL s.vm h0 s.vm h0 := CHr.refl hCH
  change OF p.tables e below _ (s₁.setTop (entryFrame m #[(.long q0), (.int p1)] maxLocals))
  have kp0 : Keep h0 h0 [] := Keep.refl _ _
  obtain ⟨GG, hGG⟩ : ∃ G : Outcome → State → Prop, G = (fun o U' => ∃ v L, o = .returned v ∧ Q_rm0 Z q0 p1 kO gO w_DigitOnes kT gT w_DigitTens w_COMPACT_STRINGS w_SIOOBE_FORMATTER h0 n0 v U'.heap L ∧ CHr Z own_EL s.vm s.heap U'.vm U'.heap ∧ ReturnedEndW s o U' L room_1.cells room_1.slots) := ⟨_, rfl⟩
  change OF p.tables e below (fun o U' => ∃ v L, o = .returned v ∧ Q_rm0 Z q0 p1 kO gO w_DigitOnes kT gT w_DigitTens w_COMPACT_STRINGS w_SIOOBE_FORMATTER h0 n0 v U'.heap L ∧ CHr Z own_EL s.vm s.heap U'.vm U'.heap ∧ ReturnedEndW s o U' L room_1.cells room_1.slots) _
  rw [← hGG]
  refine oS (fun _ q => castTop (ef_rm0 m q0 p1) q) ?_
  show OF _ _ _ _ (s₁.setTop (mkF m 0 #[.val (.long q0), .second, vi p1, .unset, .unset, .unset, .unset, .unset, .unset, .unset, .unset, .unset, .unset] []))
  refine oS (fun _ q => XS.bipush X0.here hx rfl (hb hby at_0) q) ?_
  show OF _ _ _ _ (s₁.setTop (mkF m 2 #[.val (.long q0), .second, vi p1, .unset, .unset, .unset, .unset, .unset, .unset, .unset, .unset, .unset, .unset] [(.int 19)]))
  obtain ⟨T1, h1, k1, X1, e1, E1, A1, st1⟩ := newP X0 hx hZ (w_ hw 0 rfl) e0 (g := (mkF m 2 #[.val (.long q0), .second, vi p1, .unset, .unset, .unset, .unset, .unset, .unset, .unset, .unset, .unset, .unset] [(.int 19)])) rfl (hb hby at_2) rfl (by decide) (cap := 19) (by decide) (by decide) (by decide) (by decide)
  obtain ⟨b1, qe1⟩ : ∃ z, z = h0.size := ⟨_, rfl⟩
  rw [← qe1] at A1 st1
  refine oS st1 ?_
  have bi_b1 : h0.size ≤ b1 := Nat.le_of_eq qe1.symm
  have lo_b1 : h0.size ≤ b1 := Nat.le_trans kp0.1 bi_b1
  have g_b1 : n0 ≤ b1 := Nat.le_trans Z0 lo_b1
  have ch2 := ch0.trans (CHr.ext E1 ch0.1)
  have kp2 : Keep h0 h1 [] := kp0.ext E1
  have ol2 : Old Z n0 h1 := Ol0.ext E1
  have V1 : Arv Z h1 b1 k1 .long (19 : Int32) [(.long 0), (.long 0), (.long 0), (.long 0), (.long 0), (.long 0), (.long 0), (.long 0), (.long 0), (.long 0), (.long 0), (.long 0), (.long 0), (.long 0), (.long 0), (.long 0), (.long 0), (.long 0), (.long 0)] (.long 0) := (Arv.new A1 (by decide)).pad (pad_rep [] (.long 0) 19)
  show OF _ _ _ _ (T1.setTop (mkF m 4 _ _))
  refine oS (fun _ q => XS.dup X1.here hx rfl (hb hby at_4) rfl rfl (XS.iconst X1.here hx rfl (hb hby at_5) (XS.lconst X1.here hx rfl (hb hby at_6) q))) ?_
  show OF _ _ _ _ (T1.setTop (mkF m 7 #[.val (.long q0), .second, vi p1, .unset, .unset, .unset, .unset, .unset, .unset, .unset, .unset, .unset, .unset] [(.long 1), (.int 0), (.ref b1), (.ref b1)]))
  have Vo3 : Arv Z h1 b1 k1 .long (19 : Int32) [(.long 0), (.long 0), (.long 0), (.long 0), (.long 0), (.long 0), (.long 0), (.long 0), (.long 0), (.long 0), (.long 0), (.long 0), (.long 0), (.long 0), (.long 0), (.long 0), (.long 0), (.long 0), (.long 0)] (.long 0) := V1
  obtain ⟨cl3, Ar3, qa3, Sa3, Na3, Ha3, Ga3⟩ := id Vo3
  obtain ⟨T3, h3, X3, e3, W3, st3⟩ := stJ X1 hx hZ e1 Ar3 (j := (0 : Int32)) (inb_of Sa3 ⟨by decide, by decide⟩) (g := (mkF m 7 #[.val (.long q0), .second, vi p1, .unset, .unset, .unset, .unset, .unset, .unset, .unset, .unset, .unset, .unset] [(.long 1), (.int 0), (.ref b1), (.ref b1)])) rfl rfl (hb hby at_7)
  refine oS st3 ?_
  have V3 : Arv Z h3 b1 k1 .long (19 : Int32) own_pv1 (.long 0) := Arv.set Ar3 qa3 Sa3 Na3 Ha3 Ga3 rfl W3 0 rfl (Nat.le_of_ble_eq_true rfl)
  have N3 := Fr.snoc X3 N0 g_b1
  have ch4 := ch2.trans (CHr.wr W3 (Safe.arv (hZ).alike V1 (by decide)) ch2.1)
  have kp4 : Keep h0 h3 [] := kp2.wr W3 (Or.inr lo_b1)
  have ol4 : Old Z n0 h3 := ol2.wr W3 g_b1
  show OF _ _ _ _ (T3.setTop (mkF m 8 _ _))
  refine oS (fun _ q => XS.dup X3.here hx rfl (hb hby at_8) rfl rfl (XS.iconst X3.here hx rfl (hb hby at_9) q)) ?_
  refine oS (X3.ldc2Long hx hown (mvT hZ (w_ hw 1 rfl)) (g := (mkF m 10 #[.val (.long q0), .second, vi p1, .unset, .unset, .unset, .unset, .unset, .unset, .unset, .unset, .unset, .unset] [(.int 1), (.ref b1), (.ref b1)])) rfl (hb hby at_10)) ?_
  show OF _ _ _ _ (T3.setTop (mkF m 13 #[.val (.long q0), .second, vi p1, .unset, .unset, .unset, .unset, .unset, .unset, .unset, .unset, .unset, .unset] [(.long 10), (.int 1), (.ref b1), (.ref b1)]))
  have Vo5 : Arv Z h3 b1 k1 .long (19 : Int32) own_pv1 (.long 0) := V3
  obtain ⟨cl5, Ar5, qa5, Sa5, Na5, Ha5, Ga5⟩ := id Vo5
  obtain ⟨T5, h5, X5, e5, W5, st5⟩ := stJ X3 hx hZ e3 Ar5 (j := (1 : Int32)) (inb_of Sa5 ⟨by decide, by decide⟩) (g := (mkF m 13 #[.val (.long q0), .second, vi p1, .unset, .unset, .unset, .unset, .unset, .unset, .unset, .unset, .unset, .unset] [(.long 10), (.int 1), (.ref b1), (.ref b1)])) rfl rfl (hb hby at_13)
  refine oS st5 ?_
  have V5 : Arv Z h5 b1 k1 .long (19 : Int32) own_pv2 (.long 0) := Arv.set Ar5 qa5 Sa5 Na5 Ha5 Ga5 rfl W5 1 rfl (Nat.le_of_ble_eq_true rfl)
  have N5 := Fr.snoc X5 N3 g_b1
  have ch6 := ch4.trans (CHr.wr W5 (Safe.arv (hZ).alike V3 (by decide)) ch4.1)
  have kp6 : Keep h0 h5 [] := kp4.wr W5 (Or.inr lo_b1)
  have ol6 : Old Z n0 h5 := ol4.wr W5 g_b1
  show OF _ _ _ _ (T5.setTop (mkF m 14 _ _))
  refine oS (fun _ q => XS.dup X5.here hx rfl (hb hby at_14) rfl rfl (XS.iconst X5.here hx rfl (hb hby at_15) q)) ?_
  refine oS (X5.ldc2Long hx hown (mvT hZ (w_ hw 2 rfl)) (g := (mkF m 16 #[.val (.long q0), .second, vi p1, .unset, .unset, .unset, .unset, .unset, .unset, .unset, .unset, .unset, .unset] [(.int 2), (.ref b1), (.ref b1)])) rfl (hb hby at_16)) ?_
  show OF _ _ _ _ (T5.setTop (mkF m 19 #[.val (.long q0), .second, vi p1, .unset, .unset, .unset, .unset, .unset, .unset, .unset, .unset, .unset, .unset] [(.long 100), (.int 2), (.ref b1), (.ref b1)]))
  have Vo7 : Arv Z h5 b1 k1 .long (19 : Int32) own_pv2 (.long 0) := V5
  obtain ⟨cl7, Ar7, qa7, Sa7, Na7, Ha7, Ga7⟩ := id Vo7
  obtain ⟨T7, h7, X7, e7, W7, st7⟩ := stJ X5 hx hZ e5 Ar7 (j := (2 : Int32)) (inb_of Sa7 ⟨by decide, by decide⟩) (g := (mkF m 19 #[.val (.long q0), .second, vi p1, .unset, .unset, .unset, .unset, .unset, .unset, .unset, .unset, .unset, .unset] [(.long 100), (.int 2), (.ref b1), (.ref b1)])) rfl rfl (hb hby at_19)
  refine oS st7 ?_
  have V7 : Arv Z h7 b1 k1 .long (19 : Int32) own_pv3 (.long 0) := Arv.set Ar7 qa7 Sa7 Na7 Ha7 Ga7 rfl W7 2 rfl (Nat.le_of_ble_eq_true rfl)
  have N7 := Fr.snoc X7 N5 g_b1
  have ch8 := ch6.trans (CHr.wr W7 (Safe.arv (hZ).alike V5 (by decide)) ch6.1)
  have kp8 : Keep h0 h7 [] := kp6.wr W7 (Or.inr lo_b1)
  have ol8 : Old Z n0 h7 := ol6.wr W7 g_b1
  show OF _ _ _ _ (T7.setTop (mkF m 20 _ _))
  refine oS (fun _ q => XS.dup X7.here hx rfl (hb hby at_20) rfl rfl (XS.iconst X7.here hx rfl (hb hby at_21) q)) ?_
  refine oS (X7.ldc2Long hx hown (mvT hZ (w_ hw 3 rfl)) (g := (mkF m 22 #[.val (.long q0), .second, vi p1, .unset, .unset, .unset, .unset, .unset, .unset, .unset, .unset, .unset, .unset] [(.int 3), (.ref b1), (.ref b1)])) rfl (hb hby at_22)) ?_
  show OF _ _ _ _ (T7.setTop (mkF m 25 #[.val (.long q0), .second, vi p1, .unset, .unset, .unset, .unset, .unset, .unset, .unset, .unset, .unset, .unset] [(.long 1000), (.int 3), (.ref b1), (.ref b1)]))
  have Vo9 : Arv Z h7 b1 k1 .long (19 : Int32) own_pv3 (.long 0) := V7
  obtain ⟨cl9, Ar9, qa9, Sa9, Na9, Ha9, Ga9⟩ := id Vo9
  obtain ⟨T9, h9, X9, e9, W9, st9⟩ := stJ X7 hx hZ e7 Ar9 (j := (3 : Int32)) (inb_of Sa9 ⟨by decide, by decide⟩) (g := (mkF m 25 #[.val (.long q0), .second, vi p1, .unset, .unset, .unset, .unset, .unset, .unset, .unset, .unset, .unset, .unset] [(.long 1000), (.int 3), (.ref b1), (.ref b1)])) rfl rfl (hb hby at_25)
  refine oS st9 ?_
  have V9 : Arv Z h9 b1 k1 .long (19 : Int32) own_pv4 (.long 0) := Arv.set Ar9 qa9 Sa9 Na9 Ha9 Ga9 rfl W9 3 rfl (Nat.le_of_ble_eq_true rfl)
  have N9 := Fr.snoc X9 N7 g_b1
  have ch10 := ch8.trans (CHr.wr W9 (Safe.arv (hZ).alike V7 (by decide)) ch8.1)
  have kp10 : Keep h0 h9 [] := kp8.wr W9 (Or.inr lo_b1)
  have ol10 : Old Z n0 h9 := ol8.wr W9 g_b1
  show OF _ _ _ _ (T9.setTop (mkF m 26 _ _))
  refine oS (fun _ q => XS.dup X9.here hx rfl (hb hby at_26) rfl rfl (XS.iconst X9.here hx rfl (hb hby at_27) q)) ?_
  refine oS (X9.ldc2Long hx hown (mvT hZ (w_ hw 4 rfl)) (g := (mkF m 28 #[.val (.long q0), .second, vi p1, .unset, .unset, .unset, .unset, .unset, .unset, .unset, .unset, .unset, .unset] [(.int 4), (.ref b1), (.ref b1)])) rfl (hb hby at_28)) ?_
  show OF _ _ _ _ (T9.setTop (mkF m 31 #[.val (.long q0), .second, vi p1, .unset, .unset, .unset, .unset, .unset, .unset, .unset, .unset, .unset, .unset] [(.long 10000), (.int 4), (.ref b1), (.ref b1)]))
  have Vo11 : Arv Z h9 b1 k1 .long (19 : Int32) own_pv4 (.long 0) := V9
  obtain ⟨cl11, Ar11, qa11, Sa11, Na11, Ha11, Ga11⟩ := id Vo11
  obtain ⟨T11, h11, X11, e11, W11, st11⟩ := stJ X9 hx hZ e9 Ar11 (j := (4 : Int32)) (inb_of Sa11 ⟨by decide, by decide⟩) (g := (mkF m 31 #[.val (.long q0), .second, vi p1, .unset, .unset, .unset, .unset, .unset, .unset, .unset, .unset, .unset, .unset] [(.long 10000), (.int 4), (.ref b1), (.ref b1)])) rfl rfl (hb hby at_31)
  refine oS st11 ?_
  have V11 : Arv Z h11 b1 k1 .long (19 : Int32) own_pv5 (.long 0) := Arv.set Ar11 qa11 Sa11 Na11 Ha11 Ga11 rfl W11 4 rfl (Nat.le_of_ble_eq_true rfl)
  have N11 := Fr.snoc X11 N9 g_b1
  have ch12 := ch10.trans (CHr.wr W11 (Safe.arv (hZ).alike V9 (by decide)) ch10.1)
  have kp12 : Keep h0 h11 [] := kp10.wr W11 (Or.inr lo_b1)
  have ol12 : Old Z n0 h11 := ol10.wr W11 g_b1
  show OF _ _ _ _ (T11.setTop (mkF m 32 _ _))
  refine oS (fun _ q => XS.dup X11.here hx rfl (hb hby at_32) rfl rfl (XS.iconst X11.here hx rfl (hb hby at_33) q)) ?_
  refine oS (X11.ldc2Long hx hown (mvT hZ (w_ hw 5 rfl)) (g := (mkF m 34 #[.val (.long q0), .second, vi p1, .unset, .unset, .unset, .unset, .unset, .unset, .unset, .unset, .unset, .unset] [(.int 5), (.ref b1), (.ref b1)])) rfl (hb hby at_34)) ?_
  show OF _ _ _ _ (T11.setTop (mkF m 37 #[.val (.long q0), .second, vi p1, .unset, .unset, .unset, .unset, .unset, .unset, .unset, .unset, .unset, .unset] [(.long 100000), (.int 5), (.ref b1), (.ref b1)]))
  have Vo13 : Arv Z h11 b1 k1 .long (19 : Int32) own_pv5 (.long 0) := V11
  obtain ⟨cl13, Ar13, qa13, Sa13, Na13, Ha13, Ga13⟩ := id Vo13
  obtain ⟨T13, h13, X13, e13, W13, st13⟩ := stJ X11 hx hZ e11 Ar13 (j := (5 : Int32)) (inb_of Sa13 ⟨by decide, by decide⟩) (g := (mkF m 37 #[.val (.long q0), .second, vi p1, .unset, .unset, .unset, .unset, .unset, .unset, .unset, .unset, .unset, .unset] [(.long 100000), (.int 5), (.ref b1), (.ref b1)])) rfl rfl (hb hby at_37)
  refine oS st13 ?_
  have V13 : Arv Z h13 b1 k1 .long (19 : Int32) own_pv6 (.long 0) := Arv.set Ar13 qa13 Sa13 Na13 Ha13 Ga13 rfl W13 5 rfl (Nat.le_of_ble_eq_true rfl)
  have N13 := Fr.snoc X13 N11 g_b1
  have ch14 := ch12.trans (CHr.wr W13 (Safe.arv (hZ).alike V11 (by decide)) ch12.1)
  have kp14 : Keep h0 h13 [] := kp12.wr W13 (Or.inr lo_b1)
  have ol14 : Old Z n0 h13 := ol12.wr W13 g_b1
  show OF _ _ _ _ (T13.setTop (mkF m 38 _ _))
  refine oS (fun _ q => XS.dup X13.here hx rfl (hb hby at_38) rfl rfl (XS.bipush X13.here hx rfl (hb hby at_39) q)) ?_
  refine oS (X13.ldc2Long hx hown (mvT hZ (w_ hw 6 rfl)) (g := (mkF m 41 #[.val (.long q0), .second, vi p1, .unset, .unset, .unset, .unset, .unset, .unset, .unset, .unset, .unset, .unset] [(.int 6), (.ref b1), (.ref b1)])) rfl (hb hby at_41)) ?_
  show OF _ _ _ _ (T13.setTop (mkF m 44 #[.val (.long q0), .second, vi p1, .unset, .unset, .unset, .unset, .unset, .unset, .unset, .unset, .unset, .unset] [(.long 1000000), (.int 6), (.ref b1), (.ref b1)]))
  have Vo15 : Arv Z h13 b1 k1 .long (19 : Int32) own_pv6 (.long 0) := V13
  obtain ⟨cl15, Ar15, qa15, Sa15, Na15, Ha15, Ga15⟩ := id Vo15
  obtain ⟨T15, h15, X15, e15, W15, st15⟩ := stJ X13 hx hZ e13 Ar15 (j := (6 : Int32)) (inb_of Sa15 ⟨by decide, by decide⟩) (g := (mkF m 44 #[.val (.long q0), .second, vi p1, .unset, .unset, .unset, .unset, .unset, .unset, .unset, .unset, .unset, .unset] [(.long 1000000), (.int 6), (.ref b1), (.ref b1)])) rfl rfl (hb hby at_44)
  refine oS st15 ?_
  have V15 : Arv Z h15 b1 k1 .long (19 : Int32) own_pv7 (.long 0) := Arv.set Ar15 qa15 Sa15 Na15 Ha15 Ga15 rfl W15 6 rfl (Nat.le_of_ble_eq_true rfl)
  have N15 := Fr.snoc X15 N13 g_b1
  have ch16 := ch14.trans (CHr.wr W15 (Safe.arv (hZ).alike V13 (by decide)) ch14.1)
  have kp16 : Keep h0 h15 [] := kp14.wr W15 (Or.inr lo_b1)
  have ol16 : Old Z n0 h15 := ol14.wr W15 g_b1
  show OF _ _ _ _ (T15.setTop (mkF m 45 _ _))
  refine oS (fun _ q => XS.dup X15.here hx rfl (hb hby at_45) rfl rfl (XS.bipush X15.here hx rfl (hb hby at_46) q)) ?_
  refine oS (X15.ldc2Long hx hown (mvT hZ (w_ hw 7 rfl)) (g := (mkF m 48 #[.val (.long q0), .second, vi p1, .unset, .unset, .unset, .unset, .unset, .unset, .unset, .unset, .unset, .unset] [(.int 7), (.ref b1), (.ref b1)])) rfl (hb hby at_48)) ?_
  show OF _ _ _ _ (T15.setTop (mkF m 51 #[.val (.long q0), .second, vi p1, .unset, .unset, .unset, .unset, .unset, .unset, .unset, .unset, .unset, .unset] [(.long 10000000), (.int 7), (.ref b1), (.ref b1)]))
  have Vo17 : Arv Z h15 b1 k1 .long (19 : Int32) own_pv7 (.long 0) := V15
  obtain ⟨cl17, Ar17, qa17, Sa17, Na17, Ha17, Ga17⟩ := id Vo17
  obtain ⟨T17, h17, X17, e17, W17, st17⟩ := stJ X15 hx hZ e15 Ar17 (j := (7 : Int32)) (inb_of Sa17 ⟨by decide, by decide⟩) (g := (mkF m 51 #[.val (.long q0), .second, vi p1, .unset, .unset, .unset, .unset, .unset, .unset, .unset, .unset, .unset, .unset] [(.long 10000000), (.int 7), (.ref b1), (.ref b1)])) rfl rfl (hb hby at_51)
  refine oS st17 ?_
  have V17 : Arv Z h17 b1 k1 .long (19 : Int32) own_pv8 (.long 0) := Arv.set Ar17 qa17 Sa17 Na17 Ha17 Ga17 rfl W17 7 rfl (Nat.le_of_ble_eq_true rfl)
  have N17 := Fr.snoc X17 N15 g_b1
  have ch18 := ch16.trans (CHr.wr W17 (Safe.arv (hZ).alike V15 (by decide)) ch16.1)
  have kp18 : Keep h0 h17 [] := kp16.wr W17 (Or.inr lo_b1)
  have ol18 : Old Z n0 h17 := ol16.wr W17 g_b1
  show OF _ _ _ _ (T17.setTop (mkF m 52 _ _))
  refine oS (fun _ q => XS.dup X17.here hx rfl (hb hby at_52) rfl rfl (XS.bipush X17.here hx rfl (hb hby at_53) q)) ?_
  refine oS (X17.ldc2Long hx hown (mvT hZ (w_ hw 8 rfl)) (g := (mkF m 55 #[.val (.long q0), .second, vi p1, .unset, .unset, .unset, .unset, .unset, .unset, .unset, .unset, .unset, .unset] [(.int 8), (.ref b1), (.ref b1)])) rfl (hb hby at_55)) ?_
  show OF _ _ _ _ (T17.setTop (mkF m 58 #[.val (.long q0), .second, vi p1, .unset, .unset, .unset, .unset, .unset, .unset, .unset, .unset, .unset, .unset] [(.long 100000000), (.int 8), (.ref b1), (.ref b1)]))
  have Vo19 : Arv Z h17 b1 k1 .long (19 : Int32) own_pv8 (.long 0) := V17
  obtain ⟨cl19, Ar19, qa19, Sa19, Na19, Ha19, Ga19⟩ := id Vo19
  obtain ⟨T19, h19, X19, e19, W19, st19⟩ := stJ X17 hx hZ e17 Ar19 (j := (8 : Int32)) (inb_of Sa19 ⟨by decide, by decide⟩) (g := (mkF m 58 #[.val (.long q0), .second, vi p1, .unset, .unset, .unset, .unset, .unset, .unset, .unset, .unset, .unset, .unset] [(.long 100000000), (.int 8), (.ref b1), (.ref b1)])) rfl rfl (hb hby at_58)
  refine oS st19 ?_
  have V19 : Arv Z h19 b1 k1 .long (19 : Int32) own_pv9 (.long 0) := Arv.set Ar19 qa19 Sa19 Na19 Ha19 Ga19 rfl W19 8 rfl (Nat.le_of_ble_eq_true rfl)
  have N19 := Fr.snoc X19 N17 g_b1
  have ch20 := ch18.trans (CHr.wr W19 (Safe.arv (hZ).alike V17 (by decide)) ch18.1)
  have kp20 : Keep h0 h19 [] := kp18.wr W19 (Or.inr lo_b1)
  have ol20 : Old Z n0 h19 := ol18.wr W19 g_b1
  show OF _ _ _ _ (T19.setTop (mkF m 59 _ _))
  refine oS (fun _ q => XS.dup X19.here hx rfl (hb hby at_59) rfl rfl (XS.bipush X19.here hx rfl (hb hby at_60) q)) ?_
  refine oS (X19.ldc2Long hx hown (mvT hZ (w_ hw 9 rfl)) (g := (mkF m 62 #[.val (.long q0), .second, vi p1, .unset, .unset, .unset, .unset, .unset, .unset, .unset, .unset, .unset, .unset] [(.int 9), (.ref b1), (.ref b1)])) rfl (hb hby at_62)) ?_
  show OF _ _ _ _ (T19.setTop (mkF m 65 #[.val (.long q0), .second, vi p1, .unset, .unset, .unset, .unset, .unset, .unset, .unset, .unset, .unset, .unset] [(.long 1000000000), (.int 9), (.ref b1), (.ref b1)]))
  have Vo21 : Arv Z h19 b1 k1 .long (19 : Int32) own_pv9 (.long 0) := V19
  obtain ⟨cl21, Ar21, qa21, Sa21, Na21, Ha21, Ga21⟩ := id Vo21
  obtain ⟨T21, h21, X21, e21, W21, st21⟩ := stJ X19 hx hZ e19 Ar21 (j := (9 : Int32)) (inb_of Sa21 ⟨by decide, by decide⟩) (g := (mkF m 65 #[.val (.long q0), .second, vi p1, .unset, .unset, .unset, .unset, .unset, .unset, .unset, .unset, .unset, .unset] [(.long 1000000000), (.int 9), (.ref b1), (.ref b1)])) rfl rfl (hb hby at_65)
  refine oS st21 ?_
  have V21 : Arv Z h21 b1 k1 .long (19 : Int32) own_pv10 (.long 0) := Arv.set Ar21 qa21 Sa21 Na21 Ha21 Ga21 rfl W21 9 rfl (Nat.le_of_ble_eq_true rfl)
  have N21 := Fr.snoc X21 N19 g_b1
  have ch22 := ch20.trans (CHr.wr W21 (Safe.arv (hZ).alike V19 (by decide)) ch20.1)
  have kp22 : Keep h0 h21 [] := kp20.wr W21 (Or.inr lo_b1)
  have ol22 : Old Z n0 h21 := ol20.wr W21 g_b1
  show OF _ _ _ _ (T21.setTop (mkF m 66 _ _))
  refine oS (fun _ q => XS.dup X21.here hx rfl (hb hby at_66) rfl rfl (XS.bipush X21.here hx rfl (hb hby at_67) q)) ?_
  refine oS (X21.ldc2Long hx hown (mvT hZ (w_ hw 10 rfl)) (g := (mkF m 69 #[.val (.long q0), .second, vi p1, .unset, .unset, .unset, .unset, .unset, .unset, .unset, .unset, .unset, .unset] [(.int 10), (.ref b1), (.ref b1)])) rfl (hb hby at_69)) ?_
  show OF _ _ _ _ (T21.setTop (mkF m 72 #[.val (.long q0), .second, vi p1, .unset, .unset, .unset, .unset, .unset, .unset, .unset, .unset, .unset, .unset] [(.long 10000000000), (.int 10), (.ref b1), (.ref b1)]))
  have Vo23 : Arv Z h21 b1 k1 .long (19 : Int32) own_pv10 (.long 0) := V21
  obtain ⟨cl23, Ar23, qa23, Sa23, Na23, Ha23, Ga23⟩ := id Vo23
  obtain ⟨T23, h23, X23, e23, W23, st23⟩ := stJ X21 hx hZ e21 Ar23 (j := (10 : Int32)) (inb_of Sa23 ⟨by decide, by decide⟩) (g := (mkF m 72 #[.val (.long q0), .second, vi p1, .unset, .unset, .unset, .unset, .unset, .unset, .unset, .unset, .unset, .unset] [(.long 10000000000), (.int 10), (.ref b1), (.ref b1)])) rfl rfl (hb hby at_72)
  refine oS st23 ?_
  have V23 : Arv Z h23 b1 k1 .long (19 : Int32) own_pv11 (.long 0) := Arv.set Ar23 qa23 Sa23 Na23 Ha23 Ga23 rfl W23 10 rfl (Nat.le_of_ble_eq_true rfl)
  have N23 := Fr.snoc X23 N21 g_b1
  have ch24 := ch22.trans (CHr.wr W23 (Safe.arv (hZ).alike V21 (by decide)) ch22.1)
  have kp24 : Keep h0 h23 [] := kp22.wr W23 (Or.inr lo_b1)
  have ol24 : Old Z n0 h23 := ol22.wr W23 g_b1
  show OF _ _ _ _ (T23.setTop (mkF m 73 _ _))
  refine oS (fun _ q => XS.dup X23.here hx rfl (hb hby at_73) rfl rfl (XS.bipush X23.here hx rfl (hb hby at_74) q)) ?_
  refine oS (X23.ldc2Long hx hown (mvT hZ (w_ hw 11 rfl)) (g := (mkF m 76 #[.val (.long q0), .second, vi p1, .unset, .unset, .unset, .unset, .unset, .unset, .unset, .unset, .unset, .unset] [(.int 11), (.ref b1), (.ref b1)])) rfl (hb hby at_76)) ?_
  show OF _ _ _ _ (T23.setTop (mkF m 79 #[.val (.long q0), .second, vi p1, .unset, .unset, .unset, .unset, .unset, .unset, .unset, .unset, .unset, .unset] [(.long 100000000000), (.int 11), (.ref b1), (.ref b1)]))
  have Vo25 : Arv Z h23 b1 k1 .long (19 : Int32) own_pv11 (.long 0) := V23
  obtain ⟨cl25, Ar25, qa25, Sa25, Na25, Ha25, Ga25⟩ := id Vo25
  obtain ⟨T25, h25, X25, e25, W25, st25⟩ := stJ X23 hx hZ e23 Ar25 (j := (11 : Int32)) (inb_of Sa25 ⟨by decide, by decide⟩) (g := (mkF m 79 #[.val (.long q0), .second, vi p1, .unset, .unset, .unset, .unset, .unset, .unset, .unset, .unset, .unset, .unset] [(.long 100000000000), (.int 11), (.ref b1), (.ref b1)])) rfl rfl (hb hby at_79)
  refine oS st25 ?_
  have V25 : Arv Z h25 b1 k1 .long (19 : Int32) own_pv12 (.long 0) := Arv.set Ar25 qa25 Sa25 Na25 Ha25 Ga25 rfl W25 11 rfl (Nat.le_of_ble_eq_true rfl)
  have N25 := Fr.snoc X25 N23 g_b1
  have ch26 := ch24.trans (CHr.wr W25 (Safe.arv (hZ).alike V23 (by decide)) ch24.1)
  have kp26 : Keep h0 h25 [] := kp24.wr W25 (Or.inr lo_b1)
  have ol26 : Old Z n0 h25 := ol24.wr W25 g_b1
  show OF _ _ _ _ (T25.setTop (mkF m 80 _ _))
  refine oS (fun _ q => XS.dup X25.here hx rfl (hb hby at_80) rfl rfl (XS.bipush X25.here hx rfl (hb hby at_81) q)) ?_
  refine oS (X25.ldc2Long hx hown (mvT hZ (w_ hw 12 rfl)) (g := (mkF m 83 #[.val (.long q0), .second, vi p1, .unset, .unset, .unset, .unset, .unset, .unset, .unset, .unset, .unset, .unset] [(.int 12), (.ref b1), (.ref b1)])) rfl (hb hby at_83)) ?_
  show OF _ _ _ _ (T25.setTop (mkF m 86 #[.val (.long q0), .second, vi p1, .unset, .unset, .unset, .unset, .unset, .unset, .unset, .unset, .unset, .unset] [(.long 1000000000000), (.int 12), (.ref b1), (.ref b1)]))
  have Vo27 : Arv Z h25 b1 k1 .long (19 : Int32) own_pv12 (.long 0) := V25
  obtain ⟨cl27, Ar27, qa27, Sa27, Na27, Ha27, Ga27⟩ := id Vo27
  obtain ⟨T27, h27, X27, e27, W27, st27⟩ := stJ X25 hx hZ e25 Ar27 (j := (12 : Int32)) (inb_of Sa27 ⟨by decide, by decide⟩) (g := (mkF m 86 #[.val (.long q0), .second, vi p1, .unset, .unset, .unset, .unset, .unset, .unset, .unset, .unset, .unset, .unset] [(.long 1000000000000), (.int 12), (.ref b1), (.ref b1)])) rfl rfl (hb hby at_86)
  refine oS st27 ?_
  have V27 : Arv Z h27 b1 k1 .long (19 : Int32) own_pv13 (.long 0) := Arv.set Ar27 qa27 Sa27 Na27 Ha27 Ga27 rfl W27 12 rfl (Nat.le_of_ble_eq_true rfl)
  have N27 := Fr.snoc X27 N25 g_b1
  have ch28 := ch26.trans (CHr.wr W27 (Safe.arv (hZ).alike V25 (by decide)) ch26.1)
  have kp28 : Keep h0 h27 [] := kp26.wr W27 (Or.inr lo_b1)
  have ol28 : Old Z n0 h27 := ol26.wr W27 g_b1
  show OF _ _ _ _ (T27.setTop (mkF m 87 _ _))
  refine oS (fun _ q => XS.dup X27.here hx rfl (hb hby at_87) rfl rfl (XS.bipush X27.here hx rfl (hb hby at_88) q)) ?_
  refine oS (X27.ldc2Long hx hown (mvT hZ (w_ hw 13 rfl)) (g := (mkF m 90 #[.val (.long q0), .second, vi p1, .unset, .unset, .unset, .unset, .unset, .unset, .unset, .unset, .unset, .unset] [(.int 13), (.ref b1), (.ref b1)])) rfl (hb hby at_90)) ?_
  show OF _ _ _ _ (T27.setTop (mkF m 93 #[.val (.long q0), .second, vi p1, .unset, .unset, .unset, .unset, .unset, .unset, .unset, .unset, .unset, .unset] [(.long 10000000000000), (.int 13), (.ref b1), (.ref b1)]))
  have Vo29 : Arv Z h27 b1 k1 .long (19 : Int32) own_pv13 (.long 0) := V27
  obtain ⟨cl29, Ar29, qa29, Sa29, Na29, Ha29, Ga29⟩ := id Vo29
  obtain ⟨T29, h29, X29, e29, W29, st29⟩ := stJ X27 hx hZ e27 Ar29 (j := (13 : Int32)) (inb_of Sa29 ⟨by decide, by decide⟩) (g := (mkF m 93 #[.val (.long q0), .second, vi p1, .unset, .unset, .unset, .unset, .unset, .unset, .unset, .unset, .unset, .unset] [(.long 10000000000000), (.int 13), (.ref b1), (.ref b1)])) rfl rfl (hb hby at_93)
  refine oS st29 ?_
  have V29 : Arv Z h29 b1 k1 .long (19 : Int32) own_pv14 (.long 0) := Arv.set Ar29 qa29 Sa29 Na29 Ha29 Ga29 rfl W29 13 rfl (Nat.le_of_ble_eq_true rfl)
  have N29 := Fr.snoc X29 N27 g_b1
  have ch30 := ch28.trans (CHr.wr W29 (Safe.arv (hZ).alike V27 (by decide)) ch28.1)
  have kp30 : Keep h0 h29 [] := kp28.wr W29 (Or.inr lo_b1)
  have ol30 : Old Z n0 h29 := ol28.wr W29 g_b1
  show OF _ _ _ _ (T29.setTop (mkF m 94 _ _))
  refine oS (fun _ q => XS.dup X29.here hx rfl (hb hby at_94) rfl rfl (XS.bipush X29.here hx rfl (hb hby at_95) q)) ?_
  refine oS (X29.ldc2Long hx hown (mvT hZ (w_ hw 14 rfl)) (g := (mkF m 97 #[.val (.long q0), .second, vi p1, .unset, .unset, .unset, .unset, .unset, .unset, .unset, .unset, .unset, .unset] [(.int 14), (.ref b1), (.ref b1)])) rfl (hb hby at_97)) ?_
  show OF _ _ _ _ (T29.setTop (mkF m 100 #[.val (.long q0), .second, vi p1, .unset, .unset, .unset, .unset, .unset, .unset, .unset, .unset, .unset, .unset] [(.long 100000000000000), (.int 14), (.ref b1), (.ref b1)]))
  have Vo31 : Arv Z h29 b1 k1 .long (19 : Int32) own_pv14 (.long 0) := V29
  obtain ⟨cl31, Ar31, qa31, Sa31, Na31, Ha31, Ga31⟩ := id Vo31
  obtain ⟨T31, h31, X31, e31, W31, st31⟩ := stJ X29 hx hZ e29 Ar31 (j := (14 : Int32)) (inb_of Sa31 ⟨by decide, by decide⟩) (g := (mkF m 100 #[.val (.long q0), .second, vi p1, .unset, .unset, .unset, .unset, .unset, .unset, .unset, .unset, .unset, .unset] [(.long 100000000000000), (.int 14), (.ref b1), (.ref b1)])) rfl rfl (hb hby at_100)
  refine oS st31 ?_
  have V31 : Arv Z h31 b1 k1 .long (19 : Int32) own_pv15 (.long 0) := Arv.set Ar31 qa31 Sa31 Na31 Ha31 Ga31 rfl W31 14 rfl (Nat.le_of_ble_eq_true rfl)
  have N31 := Fr.snoc X31 N29 g_b1
  have ch32 := ch30.trans (CHr.wr W31 (Safe.arv (hZ).alike V29 (by decide)) ch30.1)
  have kp32 : Keep h0 h31 [] := kp30.wr W31 (Or.inr lo_b1)
  have ol32 : Old Z n0 h31 := ol30.wr W31 g_b1
  show OF _ _ _ _ (T31.setTop (mkF m 101 _ _))
  refine oS (fun _ q => XS.dup X31.here hx rfl (hb hby at_101) rfl rfl (XS.bipush X31.here hx rfl (hb hby at_102) q)) ?_
  refine oS (X31.ldc2Long hx hown (mvT hZ (w_ hw 15 rfl)) (g := (mkF m 104 #[.val (.long q0), .second, vi p1, .unset, .unset, .unset, .unset, .unset, .unset, .unset, .unset, .unset, .unset] [(.int 15), (.ref b1), (.ref b1)])) rfl (hb hby at_104)) ?_
  show OF _ _ _ _ (T31.setTop (mkF m 107 #[.val (.long q0), .second, vi p1, .unset, .unset, .unset, .unset, .unset, .unset, .unset, .unset, .unset, .unset] [(.long 1000000000000000), (.int 15), (.ref b1), (.ref b1)]))
  have Vo33 : Arv Z h31 b1 k1 .long (19 : Int32) own_pv15 (.long 0) := V31
  obtain ⟨cl33, Ar33, qa33, Sa33, Na33, Ha33, Ga33⟩ := id Vo33
  obtain ⟨T33, h33, X33, e33, W33, st33⟩ := stJ X31 hx hZ e31 Ar33 (j := (15 : Int32)) (inb_of Sa33 ⟨by decide, by decide⟩) (g := (mkF m 107 #[.val (.long q0), .second, vi p1, .unset, .unset, .unset, .unset, .unset, .unset, .unset, .unset, .unset, .unset] [(.long 1000000000000000), (.int 15), (.ref b1), (.ref b1)])) rfl rfl (hb hby at_107)
  refine oS st33 ?_
  have V33 : Arv Z h33 b1 k1 .long (19 : Int32) own_pv16 (.long 0) := Arv.set Ar33 qa33 Sa33 Na33 Ha33 Ga33 rfl W33 15 rfl (Nat.le_of_ble_eq_true rfl)
  have N33 := Fr.snoc X33 N31 g_b1
  have ch34 := ch32.trans (CHr.wr W33 (Safe.arv (hZ).alike V31 (by decide)) ch32.1)
  have kp34 : Keep h0 h33 [] := kp32.wr W33 (Or.inr lo_b1)
  have ol34 : Old Z n0 h33 := ol32.wr W33 g_b1
  show OF _ _ _ _ (T33.setTop (mkF m 108 _ _))
  refine oS (fun _ q => XS.dup X33.here hx rfl (hb hby at_108) rfl rfl (XS.bipush X33.here hx rfl (hb hby at_109) q)) ?_
  refine oS (X33.ldc2Long hx hown (mvT hZ (w_ hw 16 rfl)) (g := (mkF m 111 #[.val (.long q0), .second, vi p1, .unset, .unset, .unset, .unset, .unset, .unset, .unset, .unset, .unset, .unset] [(.int 16), (.ref b1), (.ref b1)])) rfl (hb hby at_111)) ?_
  show OF _ _ _ _ (T33.setTop (mkF m 114 #[.val (.long q0), .second, vi p1, .unset, .unset, .unset, .unset, .unset, .unset, .unset, .unset, .unset, .unset] [(.long 10000000000000000), (.int 16), (.ref b1), (.ref b1)]))
  have Vo35 : Arv Z h33 b1 k1 .long (19 : Int32) own_pv16 (.long 0) := V33
  obtain ⟨cl35, Ar35, qa35, Sa35, Na35, Ha35, Ga35⟩ := id Vo35
  obtain ⟨T35, h35, X35, e35, W35, st35⟩ := stJ X33 hx hZ e33 Ar35 (j := (16 : Int32)) (inb_of Sa35 ⟨by decide, by decide⟩) (g := (mkF m 114 #[.val (.long q0), .second, vi p1, .unset, .unset, .unset, .unset, .unset, .unset, .unset, .unset, .unset, .unset] [(.long 10000000000000000), (.int 16), (.ref b1), (.ref b1)])) rfl rfl (hb hby at_114)
  refine oS st35 ?_
  have V35 : Arv Z h35 b1 k1 .long (19 : Int32) own_pv17 (.long 0) := Arv.set Ar35 qa35 Sa35 Na35 Ha35 Ga35 rfl W35 16 rfl (Nat.le_of_ble_eq_true rfl)
  have N35 := Fr.snoc X35 N33 g_b1
  have ch36 := ch34.trans (CHr.wr W35 (Safe.arv (hZ).alike V33 (by decide)) ch34.1)
  have kp36 : Keep h0 h35 [] := kp34.wr W35 (Or.inr lo_b1)
  have ol36 : Old Z n0 h35 := ol34.wr W35 g_b1
  show OF _ _ _ _ (T35.setTop (mkF m 115 _ _))
  refine oS (fun _ q => XS.dup X35.here hx rfl (hb hby at_115) rfl rfl (XS.bipush X35.here hx rfl (hb hby at_116) q)) ?_
  refine oS (X35.ldc2Long hx hown (mvT hZ (w_ hw 17 rfl)) (g := (mkF m 118 #[.val (.long q0), .second, vi p1, .unset, .unset, .unset, .unset, .unset, .unset, .unset, .unset, .unset, .unset] [(.int 17), (.ref b1), (.ref b1)])) rfl (hb hby at_118)) ?_
  show OF _ _ _ _ (T35.setTop (mkF m 121 #[.val (.long q0), .second, vi p1, .unset, .unset, .unset, .unset, .unset, .unset, .unset, .unset, .unset, .unset] [(.long 100000000000000000), (.int 17), (.ref b1), (.ref b1)]))
  have Vo37 : Arv Z h35 b1 k1 .long (19 : Int32) own_pv17 (.long 0) := V35
  obtain ⟨cl37, Ar37, qa37, Sa37, Na37, Ha37, Ga37⟩ := id Vo37
  obtain ⟨T37, h37, X37, e37, W37, st37⟩ := stJ X35 hx hZ e35 Ar37 (j := (17 : Int32)) (inb_of Sa37 ⟨by decide, by decide⟩) (g := (mkF m 121 #[.val (.long q0), .second, vi p1, .unset, .unset, .unset, .unset, .unset, .unset, .unset, .unset, .unset, .unset] [(.long 100000000000000000), (.int 17), (.ref b1), (.ref b1)])) rfl rfl (hb hby at_121)
  refine oS st37 ?_
  have V37 : Arv Z h37 b1 k1 .long (19 : Int32) own_pv18 (.long 0) := Arv.set Ar37 qa37 Sa37 Na37 Ha37 Ga37 rfl W37 17 rfl (Nat.le_of_ble_eq_true rfl)
  have N37 := Fr.snoc X37 N35 g_b1
  have ch38 := ch36.trans (CHr.wr W37 (Safe.arv (hZ).alike V35 (by decide)) ch36.1)
  have kp38 : Keep h0 h37 [] := kp36.wr W37 (Or.inr lo_b1)
  have ol38 : Old Z n0 h37 := ol36.wr W37 g_b1
  show OF _ _ _ _ (T37.setTop (mkF m 122 _ _))
  refine oS (fun _ q => XS.dup X37.here hx rfl (hb hby at_122) rfl rfl (XS.bipush X37.here hx rfl (hb hby at_123) q)) ?_
  refine oS (X37.ldc2Long hx hown (mvT hZ (w_ hw 18 rfl)) (g := (mkF m 125 #[.val (.long q0), .second, vi p1, .unset, .unset, .unset, .unset, .unset, .unset, .unset, .unset, .unset, .unset] [(.int 18), (.ref b1), (.ref b1)])) rfl (hb hby at_125)) ?_
  show OF _ _ _ _ (T37.setTop (mkF m 128 #[.val (.long q0), .second, vi p1, .unset, .unset, .unset, .unset, .unset, .unset, .unset, .unset, .unset, .unset] [(.long 1000000000000000000), (.int 18), (.ref b1), (.ref b1)]))
  have Vo39 : Arv Z h37 b1 k1 .long (19 : Int32) own_pv18 (.long 0) := V37
  obtain ⟨cl39, Ar39, qa39, Sa39, Na39, Ha39, Ga39⟩ := id Vo39
  obtain ⟨T39, h39, X39, e39, W39, st39⟩ := stJ X37 hx hZ e37 Ar39 (j := (18 : Int32)) (inb_of Sa39 ⟨by decide, by decide⟩) (g := (mkF m 128 #[.val (.long q0), .second, vi p1, .unset, .unset, .unset, .unset, .unset, .unset, .unset, .unset, .unset, .unset] [(.long 1000000000000000000), (.int 18), (.ref b1), (.ref b1)])) rfl rfl (hb hby at_128)
  refine oS st39 ?_
  have V39 : Arv Z h39 b1 k1 .long (19 : Int32) own_pv (.long 0) := Arv.set Ar39 qa39 Sa39 Na39 Ha39 Ga39 rfl W39 18 rfl (Nat.le_of_ble_eq_true rfl)
  have N39 := Fr.snoc X39 N37 g_b1
  have ch40 := ch38.trans (CHr.wr W39 (Safe.arv (hZ).alike V37 (by decide)) ch38.1)
  have kp40 : Keep h0 h39 [] := kp38.wr W39 (Or.inr lo_b1)
  have ol40 : Old Z n0 h39 := ol38.wr W39 g_b1
  show OF _ _ _ _ (T39.setTop (mkF m 129 _ _))
  refine oS (fun _ q => XS.astoreN X39.here hx rfl (hb hby at_129) rfl rfl (l' := #[.val (.long q0), .second, vi p1, vr b1, .unset, .unset, .unset, .unset, .unset, .unset, .unset, .unset, .unset]) rfl q) ?_
  show OF _ _ _ _ (T39.setTop (mkF m 130 #[.val (.long q0), .second, vi p1, vr b1, .unset, .unset, .unset, .unset, .unset, .unset, .unset, .unset, .unset] []))
  obtain ⟨T41, h41, X41, e41, E41, A41, D41, -, st41⟩ := newO X39 hx hZ hown (w_ hw 19 rfl) (w_ hw 20 rfl) (w_ hw 21 rfl) e39 (g := (mkF m 130 #[.val (.long q0), .second, vi p1, vr b1, .unset, .unset, .unset, .unset, .unset, .unset, .unset, .unset, .unset] [])) rfl (hb hby at_130) (by decide) (by decide)
  obtain ⟨b41, qe41⟩ : ∃ z, z = h39.size := ⟨_, rfl⟩
  rw [← qe41] at A41 D41 st41
  refine oS st41 ?_
  have bi_b41 : h39.size ≤ b41 := Nat.le_of_eq qe41.symm
  have lo_b41 : h0.size ≤ b41 := Nat.le_trans kp40.1 bi_b41
  have g_b41 : n0 ≤ b41 := Nat.le_trans Z0 lo_b41
  have ch42 := ch40.trans (CHr.ext E41 ch40.1)
  have kp42 : Keep h0 h41 [] := kp40.ext E41
  have ol42 : Old Z n0 h41 := ol40.ext E41
  have F_days_b41 : Fld Z h41 b41 "com/example/kwhat/kwhat/ProRata" "days" "J" (.long 0) := D41 (Or.inr (w_ hw 29 rfl)) (ty := .long) (by decide)
  have F_monthDays_b41 : Fld Z h41 b41 "com/example/kwhat/kwhat/ProRata" "monthDays" "I" (.int 0) := D41 (Or.inr (w_ hw 31 rfl)) (ty := .int) (by decide)
  show OF _ _ _ _ (T41.setTop (mkF m 133 _ _))
  refine oS (fun _ q => XS.dup X41.here hx rfl (hb hby at_133) rfl rfl (XS.lloadN X41.here hx rfl (hb hby at_134) rfl (XS.iloadN X41.here hx rfl (hb hby at_135) rfl q))) ?_
  show OF _ _ _ _ (T41.setTop (mkF m 136 #[.val (.long q0), .second, vi p1, vr b1, .unset, .unset, .unset, .unset, .unset, .unset, .unset, .unset, .unset] [(.int p1), (.long q0), (.ref b41), (.ref b41)]))
  obtain ⟨_, _, ⟨T43, L43, k43, n43⟩, -, X43, ⟨Lc43, hQ43, l43, y43, z43⟩, st43⟩ := X41.specialBack hx (y := yM1) rfl hown (mvT hZ (w_ hw 22 rfl)) (mvT hZ (w_ hw 23 rfl)) (mvT hZ (w_ hw 24 rfl)) (by decide) (backOf (W := 1) (rm_pri l Z av0 hw [] b41 q0 p1 (.long 0) (.int 0) h41 n0 (Nat.le_trans Z0 kp42.1) A41 F_days_b41 g_b41 F_monthDays_b41) hZ (w_ hw 24 rfl) (w_ hw 21 rfl) (by decide) (by decide)) (g := (mkF m 136 #[.val (.long q0), .second, vi p1, vr b1, .unset, .unset, .unset, .unset, .unset, .unset, .unset, .unset, .unset] [(.int p1), (.long q0), (.ref b41), (.ref b41)])) rfl (by rw [hml]; rfl) (Steps.refl _) (a := b41) (argsL := [(.long q0), (.int p1)]) (rest := [(.ref b41)]) (lenOf pd_31 rfl) rfl (by show 2 * 0 + _ ≤ _; exact Nat.le_of_eq rfl) (hb hby at_136) (fun _ _ => ⟨rfl, e41, (by decide : 2 + 0 ≤ _), (by decide : 21 + 0 ≤ _)⟩)
  dsimp only [Pt.U, Pt.locs, Pt.cells, Pt.slots] at X43 l43 y43 z43 st43 hQ43
  subst l43 y43 z43
  obtain ⟨rfl, N43q, K43, r43_0, r43_1⟩ := hQ43
  have N43 := Fr.app N39 N43q
  refine oT st43 ?_
  obtain ⟨h43, e43⟩ : ∃ z, T43.heap = z := ⟨_, rfl⟩
  rw [e43] at K43 r43_0 r43_1
  have ch44 := ch42.trans (CHr.keep K43 (sfS (Safe.exa (hZ).alike A41 (by decide) (by decide)) sf0) ch42.1)
  have kp44 : Keep h0 h43 [] := kp42.trans K43 (allS (Or.inr lo_b41) all0)
  have ol44 : Old Z n0 h43 := ol42.keep K43 (allS g_b41 all0)
  show OF _ _ _ _ (T43.setTop (mkF m 139 #[.val (.long q0), .second, vi p1, vr b1, .unset, .unset, .unset, .unset, .unset, .unset, .unset, .unset, .unset] [(.ref b41)]))
  obtain ⟨cq45, kq45, q45a, q45b, q45c⟩ := isOf hZ e43 (A41.keep K43)
  obtain ⟨_, _, ⟨T45, L45, k45, n45⟩, -, X45, hS45, hg45, ⟨Lc45, hQ45, l45, y45, z45, hC45⟩, st45⟩ := X43.virtualBackS hx (y := yM34) (z := yM34) hown (mvT hZ (w_ hw 32 rfl)) (mvT hZ (w_ hw 33 rfl)) (notFace_of_selects (args := #[]) (mvT hZ (w_ hw 35 rfl))) (mvT hZ (w_ hw 35 rfl)) (mvT hZ (w_ hw 34 rfl)) (by decide) (backOfSH (W := 0) (rm_pts l Z av0 hw [] b41 q0 p1 kO gO w_DigitOnes kT gT w_DigitTens w_COMPACT_STRINGS h43 n0 (Nat.le_trans Z0 kp44.1) ol44 (A41.keep K43) r43_0 r43_1 VO VT hO hT hcs S_COMPACT_STRINGS S_DigitOnes S_DigitTens) hZ (w_ hw 36 rfl) (w_ hw 21 rfl) (by decide) (by decide) (own_EW hw) ch44.1) q45a q45c (g := (mkF m 139 #[.val (.long q0), .second, vi p1, vr b1, .unset, .unset, .unset, .unset, .unset, .unset, .unset, .unset, .unset] [(.ref b41)])) rfl (by rw [hml]; rfl) (Steps.refl _) (argsL := []) (rest := []) (lenOf pd_26 rfl) rfl (by show 2 * 0 + _ ≤ _; exact Nat.le_of_eq rfl) (hb hby at_139) (fun _ _ => ⟨rfl, e43, (by decide : 2 + 7 ≤ _), (by decide : 21 + 100 ≤ _)⟩)
  dsimp only [Pt.U, Pt.locs, Pt.cells, Pt.slots] at X45 l45 y45 z45 st45 hQ45 hS45 hg45 hC45
  subst l45 y45 z45
  obtain ⟨c45_0, c45_1, kc45_2, rfl, N45q, K45, r45_0, r45_1, r45_2, r45_3, r45_4⟩ := hQ45
  have N45 := Fr.app N43 N45q
  refine oT st45 ?_
  rw [e43] at hg45
  obtain ⟨h45, e45⟩ : ∃ z, T45.heap = z := ⟨_, rfl⟩
  rw [e45] at K45 r45_1 r45_2 r45_3 r45_4 hg45 hS45 hC45
  have bi_c45_0 : h43.size ≤ c45_0 := r45_0
  have lo_c45_0 : h0.size ≤ c45_0 := Nat.le_trans kp44.1 bi_c45_0
  have g_c45_0 : n0 ≤ c45_0 := Nat.le_trans Z0 lo_c45_0
  have ch46 := ch44.trans (hC45)
  have kp46 : Keep h0 h45 [] := kp44.trans K45 all0
  have ol46 : Old Z n0 h45 := ol44.keep K45 all0
  obtain ⟨Xr45, hSr45, hZr45, hor45⟩ := rebS hS0 (Nat.le_trans hk0 (Nat.le_trans (Nat.le_trans (Nat.le_trans (Nat.le_trans (Nat.le_trans (Nat.le_trans (Nat.le_trans (Nat.le_trans (Nat.le_trans (Nat.le_trans (Nat.le_trans (Nat.le_trans (Nat.le_trans (Nat.le_trans (Nat.le_trans (Nat.le_trans (Nat.le_trans (Nat.le_trans (Nat.le_trans (Nat.le_trans (Nat.le_trans E1.1 (Nat.le_of_eq W3.size.symm)) (Nat.le_of_eq W5.size.symm)) (Nat.le_of_eq W7.size.symm)) (Nat.le_of_eq W9.size.symm)) (Nat.le_of_eq W11.size.symm)) (Nat.le_of_eq W13.size.symm)) (Nat.le_of_eq W15.size.symm)) (Nat.le_of_eq W17.size.symm)) (Nat.le_of_eq W19.size.symm)) (Nat.le_of_eq W21.size.symm)) (Nat.le_of_eq W23.size.symm)) (Nat.le_of_eq W25.size.symm)) (Nat.le_of_eq W27.size.symm)) (Nat.le_of_eq W29.size.symm)) (Nat.le_of_eq W31.size.symm)) (Nat.le_of_eq W33.size.symm)) (Nat.le_of_eq W35.size.symm)) (Nat.le_of_eq W37.size.symm)) (Nat.le_of_eq W39.size.symm)) E41.1) K43.1)) X45 hS45 hg45 hZ hown
  show OF _ _ _ _ (T45.setTop (mkF m 142 _ _))
  refine oS (fun _ q => XS.astore Xr45.here hx rfl (hb hby at_142) rfl rfl (l' := #[.val (.long q0), .second, vi p1, vr b1, vr c45_0, .unset, .unset, .unset, .unset, .unset, .unset, .unset, .unset]) rfl (XS.iloadN Xr45.here hx rfl (hb hby at_144) rfl (XS.i2l Xr45.here hx rfl (hb hby at_145) rfl (XS.lstore Xr45.here hx rfl (hb hby at_146) rfl (l' := #[.val (.long q0), .second, vi p1, vr b1, vr c45_0, .val (.long (p1.toInt64)), .second, .unset, .unset, .unset, .unset, .unset, .unset]) rfl (XS.lloadN Xr45.here hx rfl (hb hby at_148) rfl (XS.lconst Xr45.here hx rfl (hb hby at_149) (XS.lcmp Xr45.here hx rfl (hb hby at_150) rfl q))))))) ?_
  suffices H47 : ∀ (T : State) (lc : List Loc), Stand p l e room_1 (s.setVm T45.vm) m #[(.long q0), (.int p1)] below meth c T lc 9 121 → Fr n0 lc → T.heap = h45 → OF p.tables e below GG (T.setTop (mkF m 159 #[.val (.long q0), .second, vi p1, vr b1, vr c45_0, .val (.long (p1.toInt64)), .second, .unset, .unset, .unset, .unset, .unset, .unset] [(.int (if q0 < 0 then (1 : Int32) else (0 : Int32)))])) by
   by_cases hc47 : q0 < 0
   ·
    refine oS (fun _ q => XS.ifNo Xr45.here hx rfl (hb hby at_151) rfl (Jvm.Free.XT.ll_ge_f hc47) q) ?_
    show OF _ _ _ _ (T45.setTop (mkF m 154 _ _))
    refine oS (fun _ q => XS.iconst Xr45.here hx rfl (hb hby at_154) (XS.goto Xr45.here hx rfl (pc0 := 155) (pc' := 159) rfl (hb hby at_155) (by decide) (by decide) q)) ?_
    show OF _ _ _ _ (T45.setTop (mkF m 159 #[.val (.long q0), .second, vi p1, vr b1, vr c45_0, .val (.long (p1.toInt64)), .second, .unset, .unset, .unset, .unset, .unset, .unset] [(.int 1)]))
    have z := H47 _ _ Xr45 N45 e45
    rw [show ((if q0 < 0 then (1 : Int32) else (0 : Int32)) : Int32) = (1 : Int32) from if_pos hc47] at z
    exact z
   ·
    refine oS (fun _ q => XS.ifYes Xr45.here hx rfl (pc0 := 151) (pc' := 158) rfl (hb hby at_151) rfl (Jvm.Free.XT.ll_ge_t hc47) (by decide) (by decide) q) ?_
    show OF _ _ _ _ (T45.setTop (mkF m 158 _ _))
    refine oS (fun _ q => XS.iconst Xr45.here hx rfl (hb hby at_158) q) ?_
    show OF _ _ _ _ (T45.setTop (mkF m 159 #[.val (.long q0), .second, vi p1, vr b1, vr c45_0, .val (.long (p1.toInt64)), .second, .unset, .unset, .unset, .unset, .unset, .unset] [(.int 0)]))
    have z := H47 _ _ Xr45 N45 e45
    rw [show ((if q0 < 0 then (1 : Int32) else (0 : Int32)) : Int32) = (0 : Int32) from if_neg hc47] at z
    exact z
  intro T47 lc47 X47 N47 e47
  show OF _ _ _ _ (T47.setTop (mkF m 159 #[.val (.long q0), .second, vi p1, vr b1, vr c45_0, .val (.long (p1.toInt64)), .second, .unset, .unset, .unset, .unset, .unset, .unset] [(.int (if q0 < 0 then (1 : Int32) else (0 : Int32)))]))
  refine oS (fun _ q => XS.istore X47.here hx rfl (hb hby at_159) rfl (l' := #[.val (.long q0), .second, vi p1, vr b1, vr c45_0, .val (.long (p1.toInt64)), .second, vi (if q0 < 0 then (1 : Int32) else (0 : Int32)), .unset, .unset, .unset, .unset, .unset]) rfl (XS.lloadN X47.here hx rfl (hb hby at_161) rfl (XS.aloadN X47.here hx rfl (hb hby at_162) rfl rfl q))) ?_
  show OF _ _ _ _ (T47.setTop (mkF m 163 #[.val (.long q0), .second, vi p1, vr b1, vr c45_0, .val (.long (p1.toInt64)), .second, vi (if q0 < 0 then (1 : Int32) else (0 : Int32)), .unset, .unset, .unset, .unset, .unset] [(.ref b1), (.long q0)]))
  have fr48 : Arv Z h45 b1 k1 .long (19 : Int32) own_pv (.long 0) := (((V39.ext E41).keep K43 (ninS (Nat.ne_of_lt (Nat.lt_of_lt_of_le V39.lt bi_b41)) nin0)).keep K45 nin0)
  obtain ⟨_, _, ⟨T49, L49, k49, n49⟩, -, X49, ⟨Lc49, hQ49, l49, y49, z49⟩, st49⟩ := Jvm.LawKit.callS X47 hx (y := yM40) hor45 (mvT hZr45 (w_ hw 197 rfl)) (mvT hZr45 (w_ hw 198 rfl)) (mvT hZr45 (w_ hw 199 rfl)) (mvT hZr45 (w_ hw 200 rfl)) (by decide) (backOf (W := 0) (rm_dgs l Z av0 hw [] q0 b1 k1 h45 n0 (Nat.le_trans Z0 kp46.1) fr48) hZr45 (w_ hw 200 rfl) (w_ hw 199 rfl) (by decide) (by decide)) (g := (mkF m 163 #[.val (.long q0), .second, vi p1, vr b1, vr c45_0, .val (.long (p1.toInt64)), .second, vi (if q0 < 0 then (1 : Int32) else (0 : Int32)), .unset, .unset, .unset, .unset, .unset] [(.ref b1), (.long q0)])) rfl (by rw [hml]; rfl) (argsL := [(.long q0), (.ref b1)]) (rest := []) (lenOf pd_32 rfl) rfl (by show 2 * 0 + _ ≤ _; exact Nat.le_of_eq rfl) (hb hby at_163) (fun _ _ => ⟨rfl, e47, (by decide : 9 + 0 ≤ _), (by decide : 121 + 0 ≤ _)⟩)
  dsimp only [Pt.U, Pt.locs, Pt.cells, Pt.slots] at X49 l49 y49 z49 st49 hQ49
  subst l49 y49 z49
  obtain ⟨rfl, N49q, he49⟩ := hQ49
  have N49 := Fr.app N47 N49q
  refine oS st49 ?_
  show OF _ _ _ _ (T49.setTop (mkF m 166 _ _))
  refine oS (fun _ q => XS.istore X49.here hx rfl (hb hby at_166) rfl (l' := #[.val (.long q0), .second, vi p1, vr b1, vr c45_0, .val (.long (p1.toInt64)), .second, vi (if q0 < 0 then (1 : Int32) else (0 : Int32)), vi (own_dgs q0), .unset, .unset, .unset, .unset]) rfl (XS.lload X49.here hx rfl (hb hby at_168) rfl (XS.lconst X49.here hx rfl (hb hby at_170) (XS.lcmp X49.here hx rfl (hb hby at_171) rfl q)))) ?_
  suffices H50 : ∀ (T : State) (lc : List Loc), Stand p l e room_1 (s.setVm T45.vm) m #[(.long q0), (.int p1)] below meth c T lc 9 121 → Fr n0 lc → T.heap = h45 → OF p.tables e below GG (T.setTop (mkF m 180 #[.val (.long q0), .second, vi p1, vr b1, vr c45_0, .val (.long (p1.toInt64)), .second, vi (if q0 < 0 then (1 : Int32) else (0 : Int32)), vi (own_dgs q0), .unset, .unset, .unset, .unset] [(.int (if (p1.toInt64) < (0 : Int64) then (1 : Int32) else (0 : Int32)))])) by
   by_cases hc50 : (p1.toInt64) < (0 : Int64)
   ·
    refine oS (fun _ q => XS.ifNo X49.here hx rfl (hb hby at_172) rfl (Jvm.Free.XT.ll_ge_f hc50) q) ?_
    show OF _ _ _ _ (T49.setTop (mkF m 175 _ _))
    refine oS (fun _ q => XS.iconst X49.here hx rfl (hb hby at_175) (XS.goto X49.here hx rfl (pc0 := 176) (pc' := 180) rfl (hb hby at_176) (by decide) (by decide) q)) ?_
    show OF _ _ _ _ (T49.setTop (mkF m 180 #[.val (.long q0), .second, vi p1, vr b1, vr c45_0, .val (.long (p1.toInt64)), .second, vi (if q0 < 0 then (1 : Int32) else (0 : Int32)), vi (own_dgs q0), .unset, .unset, .unset, .unset] [(.int 1)]))
    have z := H50 _ _ X49 N49 he49
    rw [show ((if (p1.toInt64) < (0 : Int64) then (1 : Int32) else (0 : Int32)) : Int32) = (1 : Int32) from if_pos hc50] at z
    exact z
   ·
    refine oS (fun _ q => XS.ifYes X49.here hx rfl (pc0 := 172) (pc' := 179) rfl (hb hby at_172) rfl (Jvm.Free.XT.ll_ge_t hc50) (by decide) (by decide) q) ?_
    show OF _ _ _ _ (T49.setTop (mkF m 179 _ _))
    refine oS (fun _ q => XS.iconst X49.here hx rfl (hb hby at_179) q) ?_
    show OF _ _ _ _ (T49.setTop (mkF m 180 #[.val (.long q0), .second, vi p1, vr b1, vr c45_0, .val (.long (p1.toInt64)), .second, vi (if q0 < 0 then (1 : Int32) else (0 : Int32)), vi (own_dgs q0), .unset, .unset, .unset, .unset] [(.int 0)]))
    have z := H50 _ _ X49 N49 he49
    rw [show ((if (p1.toInt64) < (0 : Int64) then (1 : Int32) else (0 : Int32)) : Int32) = (0 : Int32) from if_neg hc50] at z
    exact z
  intro T50 lc50 X50 N50 e50
  show OF _ _ _ _ (T50.setTop (mkF m 180 #[.val (.long q0), .second, vi p1, vr b1, vr c45_0, .val (.long (p1.toInt64)), .second, vi (if q0 < 0 then (1 : Int32) else (0 : Int32)), vi (own_dgs q0), .unset, .unset, .unset, .unset] [(.int (if (p1.toInt64) < (0 : Int64) then (1 : Int32) else (0 : Int32)))]))
  refine oS (fun _ q => XS.istore X50.here hx rfl (hb hby at_180) rfl (l' := #[.val (.long q0), .second, vi p1, vr b1, vr c45_0, .val (.long (p1.toInt64)), .second, vi (if q0 < 0 then (1 : Int32) else (0 : Int32)), vi (own_dgs q0), vi (if (p1.toInt64) < (0 : Int64) then (1 : Int32) else (0 : Int32)), .unset, .unset, .unset]) rfl (XS.lload X50.here hx rfl (hb hby at_182) rfl (XS.aloadN X50.here hx rfl (hb hby at_184) rfl rfl q))) ?_
  show OF _ _ _ _ (T50.setTop (mkF m 185 #[.val (.long q0), .second, vi p1, vr b1, vr c45_0, .val (.long (p1.toInt64)), .second, vi (if q0 < 0 then (1 : Int32) else (0 : Int32)), vi (own_dgs q0), vi (if (p1.toInt64) < (0 : Int64) then (1 : Int32) else (0 : Int32)), .unset, .unset, .unset] [(.ref b1), (.long (p1.toInt64))]))
  obtain ⟨_, _, ⟨T51, L51, k51, n51⟩, -, X51, ⟨Lc51, hQ51, l51, y51, z51⟩, st51⟩ := Jvm.LawKit.callS X50 hx (y := yM40) hor45 (mvT hZr45 (w_ hw 197 rfl)) (mvT hZr45 (w_ hw 198 rfl)) (mvT hZr45 (w_ hw 199 rfl)) (mvT hZr45 (w_ hw 200 rfl)) (by decide) (backOf (W := 0) (rm_dgs l Z av0 hw [] (p1.toInt64) b1 k1 h45 n0 (Nat.le_trans Z0 kp46.1) fr48) hZr45 (w_ hw 200 rfl) (w_ hw 199 rfl) (by decide) (by decide)) (g := (mkF m 185 #[.val (.long q0), .second, vi p1, vr b1, vr c45_0, .val (.long (p1.toInt64)), .second, vi (if q0 < 0 then (1 : Int32) else (0 : Int32)), vi (own_dgs q0), vi (if (p1.toInt64) < (0 : Int64) then (1 : Int32) else (0 : Int32)), .unset, .unset, .unset] [(.ref b1), (.long (p1.toInt64))])) rfl (by rw [hml]; rfl) (argsL := [(.long (p1.toInt64)), (.ref b1)]) (rest := []) (lenOf pd_32 rfl) rfl (by show 2 * 0 + _ ≤ _; exact Nat.le_of_eq rfl) (hb hby at_185) (fun _ _ => ⟨rfl, e50, (by decide : 9 + 0 ≤ _), (by decide : 121 + 0 ≤ _)⟩)
  dsimp only [Pt.U, Pt.locs, Pt.cells, Pt.slots] at X51 l51 y51 z51 st51 hQ51
  subst l51 y51 z51
  obtain ⟨rfl, N51q, he51⟩ := hQ51
  have N51 := Fr.app N50 N51q
  refine oS st51 ?_
  show OF _ _ _ _ (T51.setTop (mkF m 188 _ _))
  refine oS (fun _ q => XS.istore X51.here hx rfl (hb hby at_188) rfl (l' := #[.val (.long q0), .second, vi p1, vr b1, vr c45_0, .val (.long (p1.toInt64)), .second, vi (if q0 < 0 then (1 : Int32) else (0 : Int32)), vi (own_dgs q0), vi (if (p1.toInt64) < (0 : Int64) then (1 : Int32) else (0 : Int32)), vi (own_dgs (p1.toInt64)), .unset, .unset]) rfl (XS.iload X51.here hx rfl (hb hby at_190) rfl (XS.iload X51.here hx rfl (hb hby at_192) rfl (XS.iadd X51.here hx rfl (hb hby at_194) rfl (XS.istore X51.here hx rfl (hb hby at_195) rfl (l' := #[.val (.long q0), .second, vi p1, vr b1, vr c45_0, .val (.long (p1.toInt64)), .second, vi (if q0 < 0 then (1 : Int32) else (0 : Int32)), vi (own_dgs q0), vi (if (p1.toInt64) < (0 : Int64) then (1 : Int32) else (0 : Int32)), vi (own_dgs (p1.toInt64)), vi ((if q0 < 0 then (1 : Int32) else (0 : Int32)) + (own_dgs q0)), .unset]) rfl (XS.iload X51.here hx rfl (hb hby at_197) rfl (XS.iconst X51.here hx rfl (hb hby at_199) (XS.iadd X51.here hx rfl (hb hby at_200) rfl q)))))))) ?_
  show OF _ _ _ _ (T51.setTop (mkF m 201 _ _))
  refine oS (fun _ q => XS.iload X51.here hx rfl (hb hby at_201) rfl (XS.iadd X51.here hx rfl (hb hby at_203) rfl (XS.iload X51.here hx rfl (hb hby at_204) rfl (XS.iadd X51.here hx rfl (hb hby at_206) rfl q)))) ?_
  show OF _ _ _ _ (T51.setTop (mkF m 207 #[.val (.long q0), .second, vi p1, vr b1, vr c45_0, .val (.long (p1.toInt64)), .second, vi (if q0 < 0 then (1 : Int32) else (0 : Int32)), vi (own_dgs q0), vi (if (p1.toInt64) < (0 : Int64) then (1 : Int32) else (0 : Int32)), vi (own_dgs (p1.toInt64)), vi ((if q0 < 0 then (1 : Int32) else (0 : Int32)) + (own_dgs q0)), .unset] [(.int (((((if q0 < 0 then (1 : Int32) else (0 : Int32)) + (own_dgs q0)) + 1) + (if (p1.toInt64) < (0 : Int64) then (1 : Int32) else (0 : Int32))) + (own_dgs (p1.toInt64))))]))
  refine oS (fun _ q => XS.istore X51.here hx rfl (hb hby at_207) rfl (l' := #[.val (.long q0), .second, vi p1, vr b1, vr c45_0, .val (.long (p1.toInt64)), .second, vi (if q0 < 0 then (1 : Int32) else (0 : Int32)), vi (own_dgs q0), vi (if (p1.toInt64) < (0 : Int64) then (1 : Int32) else (0 : Int32)), vi (own_dgs (p1.toInt64)), vi ((if q0 < 0 then (1 : Int32) else (0 : Int32)) + (own_dgs q0)), vi (((((if q0 < 0 then (1 : Int32) else (0 : Int32)) + (own_dgs q0)) + 1) + (if (p1.toInt64) < (0 : Int64) then (1 : Int32) else (0 : Int32))) + (own_dgs (p1.toInt64)))]) rfl (XS.aload X51.here hx rfl (hb hby at_209) rfl rfl q)) ?_
  show OF _ _ _ _ (T51.setTop (mkF m 211 #[.val (.long q0), .second, vi p1, vr b1, vr c45_0, .val (.long (p1.toInt64)), .second, vi (if q0 < 0 then (1 : Int32) else (0 : Int32)), vi (own_dgs q0), vi (if (p1.toInt64) < (0 : Int64) then (1 : Int32) else (0 : Int32)), vi (own_dgs (p1.toInt64)), vi ((if q0 < 0 then (1 : Int32) else (0 : Int32)) + (own_dgs q0)), vi (((((if q0 < 0 then (1 : Int32) else (0 : Int32)) + (own_dgs q0)) + 1) + (if (p1.toInt64) < (0 : Int64) then (1 : Int32) else (0 : Int32))) + (own_dgs (p1.toInt64)))] [(.ref c45_0)]))
  obtain ⟨cq52, kq52, q52a, q52b, q52c⟩ := isOf hZr45 he51 r45_1
  obtain ⟨_, _, ⟨T52, L52, k52, n52⟩, -, X52, ⟨Lc52, hQ52, l52, y52, z52⟩, st52⟩ := X51.virtualBack hx (y := yM19) (z := yM19) hor45 (mvT hZr45 (w_ hw 201 rfl)) (mvT hZr45 (w_ hw 106 rfl)) (notFace_of_selects (args := #[]) (mvT hZr45 (w_ hw 108 rfl))) (mvT hZr45 (w_ hw 108 rfl)) (mvT hZr45 (w_ hw 107 rfl)) (by decide) (backOf (W := 0) (rm_len l Z av0 hw [] c45_0 c45_1 kc45_2 (own_len q0 p1) (own_T q0 p1) w_COMPACT_STRINGS h45 n0 (Nat.le_trans Z0 kp46.1) ol46 r45_1 r45_2 r45_3 r45_4 S_COMPACT_STRINGS hcs) hZr45 (w_ hw 109 rfl) (w_ hw 51 rfl) (by decide) (by decide)) q52a q52c (g := (mkF m 211 #[.val (.long q0), .second, vi p1, vr b1, vr c45_0, .val (.long (p1.toInt64)), .second, vi (if q0 < 0 then (1 : Int32) else (0 : Int32)), vi (own_dgs q0), vi (if (p1.toInt64) < (0 : Int64) then (1 : Int32) else (0 : Int32)), vi (own_dgs (p1.toInt64)), vi ((if q0 < 0 then (1 : Int32) else (0 : Int32)) + (own_dgs q0)), vi (((((if q0 < 0 then (1 : Int32) else (0 : Int32)) + (own_dgs q0)) + 1) + (if (p1.toInt64) < (0 : Int64) then (1 : Int32) else (0 : Int32))) + (own_dgs (p1.toInt64)))] [(.ref c45_0)])) rfl (by rw [hml]; rfl) (Steps.refl _) (argsL := []) (rest := []) (lenOf pd_14 rfl) rfl (by show 2 * 0 + _ ≤ _; exact Nat.le_of_eq rfl) (hb hby at_211) (fun _ _ => ⟨rfl, he51, (by decide : 9 + 0 ≤ _), (by decide : 121 + 0 ≤ _)⟩)
  dsimp only [Pt.U, Pt.locs, Pt.cells, Pt.slots] at X52 l52 y52 z52 st52 hQ52
  subst l52 y52 z52
  obtain ⟨rfl, N52q, he52⟩ := hQ52
  have N52 := Fr.app N51 N52q
  refine oT st52 ?_
  show OF _ _ _ _ (T52.setTop (mkF m 214 _ _))
  refine oS (fun _ q => XS.iload X52.here hx rfl (hb hby at_214) rfl (XS.icmpYes X52.here hx rfl (pc0 := 216) (pc' := 221) rfl (hb hby at_216) rfl (Jvm.Free.XT.ii_eq_t (own_lawlen q0 p1)) (by decide) (by decide) q)) ?_
  show OF _ _ _ _ (T52.setTop (mkF m 221 _ _))
  refine oS (fun _ q => XS.iload X52.here hx rfl (hb hby at_221) rfl (XS.iconst X52.here hx rfl (hb hby at_223) q)) ?_
  suffices H53 : ∀ (T : State) (lc : List Loc), Stand p l e room_1 (s.setVm T45.vm) m #[(.long q0), (.int p1)] below meth c T lc 9 121 → Fr n0 lc → T.heap = h45 → OF p.tables e below GG (T.setTop (mkF m 240 #[.val (.long q0), .second, vi p1, vr b1, vr c45_0, .val (.long (p1.toInt64)), .second, vi (if q0 < 0 then (1 : Int32) else (0 : Int32)), vi (own_dgs q0), vi (if (p1.toInt64) < (0 : Int64) then (1 : Int32) else (0 : Int32)), vi (own_dgs (p1.toInt64)), vi ((if q0 < 0 then (1 : Int32) else (0 : Int32)) + (own_dgs q0)), vi (((((if q0 < 0 then (1 : Int32) else (0 : Int32)) + (own_dgs q0)) + 1) + (if (p1.toInt64) < (0 : Int64) then (1 : Int32) else (0 : Int32))) + (own_dgs (p1.toInt64)))] [])) by
   by_cases hc53 : q0 < 0
   ·
    have hi54 : (if q0 < 0 then (1 : Int32) else (0 : Int32)) = 1 := by rw [if_pos hc53] <;> decide
    refine oS (fun _ q => XS.icmpNo X52.here hx rfl (hb hby at_224) rfl (Jvm.Free.XT.ii_ne_f hi54) q) ?_
    show OF _ _ _ _ (T52.setTop (mkF m 227 _ _))
    refine oS (fun _ q => XS.aload X52.here hx rfl (hb hby at_227) rfl rfl (XS.iconst X52.here hx rfl (hb hby at_229) q)) ?_
    show OF _ _ _ _ (T52.setTop (mkF m 230 #[.val (.long q0), .second, vi p1, vr b1, vr c45_0, .val (.long (p1.toInt64)), .second, vi (if q0 < 0 then (1 : Int32) else (0 : Int32)), vi (own_dgs q0), vi (if (p1.toInt64) < (0 : Int64) then (1 : Int32) else (0 : Int32)), vi (own_dgs (p1.toInt64)), vi ((if q0 < 0 then (1 : Int32) else (0 : Int32)) + (own_dgs q0)), vi (((((if q0 < 0 then (1 : Int32) else (0 : Int32)) + (own_dgs q0)) + 1) + (if (p1.toInt64) < (0 : Int64) then (1 : Int32) else (0 : Int32))) + (own_dgs (p1.toInt64)))] [(.int 0), (.ref c45_0)]))
    obtain ⟨cq55, kq55, q55a, q55b, q55c⟩ := isOf hZr45 he52 r45_1
    obtain ⟨_, _, ⟨T55, L55, k55, n55⟩, -, X55, ⟨Lc55, hQ55, l55, y55, z55⟩, st55⟩ := X52.virtualBack hx (y := yM39) (z := yM39) hor45 (mvT hZr45 (w_ hw 202 rfl)) (mvT hZr45 (w_ hw 203 rfl)) (notFace_of_selects (args := #[]) (mvT hZr45 (w_ hw 205 rfl))) (mvT hZr45 (w_ hw 205 rfl)) (mvT hZr45 (w_ hw 204 rfl)) (by decide) (backOf (W := 0) (rm_ca l Z av0 hw [] c45_0 (0 : Int32) c45_1 kc45_2 (own_len q0 p1) (own_T q0 p1) w_COMPACT_STRINGS w_SIOOBE_FORMATTER h45 n0 (Nat.le_trans Z0 kp46.1) ol46 r45_1 r45_2 r45_3 r45_4 (own_ix0 q0 p1) hcs S_COMPACT_STRINGS S_SIOOBE_FORMATTER hr_w_SIOOBE_FORMATTER) hZr45 (w_ hw 206 rfl) (w_ hw 51 rfl) (by decide) (by decide)) q55a q55c (g := (mkF m 230 #[.val (.long q0), .second, vi p1, vr b1, vr c45_0, .val (.long (p1.toInt64)), .second, vi (if q0 < 0 then (1 : Int32) else (0 : Int32)), vi (own_dgs q0), vi (if (p1.toInt64) < (0 : Int64) then (1 : Int32) else (0 : Int32)), vi (own_dgs (p1.toInt64)), vi ((if q0 < 0 then (1 : Int32) else (0 : Int32)) + (own_dgs q0)), vi (((((if q0 < 0 then (1 : Int32) else (0 : Int32)) + (own_dgs q0)) + 1) + (if (p1.toInt64) < (0 : Int64) then (1 : Int32) else (0 : Int32))) + (own_dgs (p1.toInt64)))] [(.int 0), (.ref c45_0)])) rfl (by rw [hml]; rfl) (Steps.refl _) (argsL := [(.int 0)]) (rest := []) (lenOf pd_29 rfl) rfl (by show 2 * 0 + _ ≤ _; exact Nat.le_of_eq rfl) (hb hby at_230) (fun _ _ => ⟨rfl, he52, (by decide : 9 + 0 ≤ _), (by decide : 121 + 0 ≤ _)⟩)
    dsimp only [Pt.U, Pt.locs, Pt.cells, Pt.slots] at X55 l55 y55 z55 st55 hQ55
    subst l55 y55 z55
    obtain ⟨rfl, N55q, he55⟩ := hQ55
    have N55 := Fr.app N52 N55q
    refine oT st55 ?_
    show OF _ _ _ _ (T55.setTop (mkF m 233 _ _))
    refine oS (fun _ q => XS.bipush X55.here hx rfl (hb hby at_233) (XS.icmpYes X55.here hx rfl (pc0 := 235) (pc' := 240) rfl (hb hby at_235) rfl (Jvm.Free.XT.ii_eq_t (own_law0 q0 p1 hc53)) (by decide) (by decide) q)) ?_
    show OF _ _ _ _ (T55.setTop (mkF m 240 #[.val (.long q0), .second, vi p1, vr b1, vr c45_0, .val (.long (p1.toInt64)), .second, vi (if q0 < 0 then (1 : Int32) else (0 : Int32)), vi (own_dgs q0), vi (if (p1.toInt64) < (0 : Int64) then (1 : Int32) else (0 : Int32)), vi (own_dgs (p1.toInt64)), vi ((if q0 < 0 then (1 : Int32) else (0 : Int32)) + (own_dgs q0)), vi (((((if q0 < 0 then (1 : Int32) else (0 : Int32)) + (own_dgs q0)) + 1) + (if (p1.toInt64) < (0 : Int64) then (1 : Int32) else (0 : Int32))) + (own_dgs (p1.toInt64)))] []))
    have z := H53 _ _ X55 N55 he55
    exact z
   ·
    have hi56 : ¬ ((if q0 < 0 then (1 : Int32) else (0 : Int32)) = 1) := by rw [if_neg hc53] <;> decide
    refine oS (fun _ q => XS.icmpYes X52.here hx rfl (pc0 := 224) (pc' := 240) rfl (hb hby at_224) rfl (Jvm.Free.XT.ii_ne_t hi56) (by decide) (by decide) q) ?_
    show OF _ _ _ _ (T52.setTop (mkF m 240 #[.val (.long q0), .second, vi p1, vr b1, vr c45_0, .val (.long (p1.toInt64)), .second, vi (if q0 < 0 then (1 : Int32) else (0 : Int32)), vi (own_dgs q0), vi (if (p1.toInt64) < (0 : Int64) then (1 : Int32) else (0 : Int32)), vi (own_dgs (p1.toInt64)), vi ((if q0 < 0 then (1 : Int32) else (0 : Int32)) + (own_dgs q0)), vi (((((if q0 < 0 then (1 : Int32) else (0 : Int32)) + (own_dgs q0)) + 1) + (if (p1.toInt64) < (0 : Int64) then (1 : Int32) else (0 : Int32))) + (own_dgs (p1.toInt64)))] []))
    have z := H53 _ _ X52 N52 he52
    exact z
  intro T53 lc53 X53 N53 e53
  show OF _ _ _ _ (T53.setTop (mkF m 240 #[.val (.long q0), .second, vi p1, vr b1, vr c45_0, .val (.long (p1.toInt64)), .second, vi (if q0 < 0 then (1 : Int32) else (0 : Int32)), vi (own_dgs q0), vi (if (p1.toInt64) < (0 : Int64) then (1 : Int32) else (0 : Int32)), vi (own_dgs (p1.toInt64)), vi ((if q0 < 0 then (1 : Int32) else (0 : Int32)) + (own_dgs q0)), vi (((((if q0 < 0 then (1 : Int32) else (0 : Int32)) + (own_dgs q0)) + 1) + (if (p1.toInt64) < (0 : Int64) then (1 : Int32) else (0 : Int32))) + (own_dgs (p1.toInt64)))] []))
  refine oS (fun _ q => XS.aload X53.here hx rfl (hb hby at_240) rfl rfl (XS.iload X53.here hx rfl (hb hby at_242) rfl q)) ?_
  show OF _ _ _ _ (T53.setTop (mkF m 244 #[.val (.long q0), .second, vi p1, vr b1, vr c45_0, .val (.long (p1.toInt64)), .second, vi (if q0 < 0 then (1 : Int32) else (0 : Int32)), vi (own_dgs q0), vi (if (p1.toInt64) < (0 : Int64) then (1 : Int32) else (0 : Int32)), vi (own_dgs (p1.toInt64)), vi ((if q0 < 0 then (1 : Int32) else (0 : Int32)) + (own_dgs q0)), vi (((((if q0 < 0 then (1 : Int32) else (0 : Int32)) + (own_dgs q0)) + 1) + (if (p1.toInt64) < (0 : Int64) then (1 : Int32) else (0 : Int32))) + (own_dgs (p1.toInt64)))] [(.int ((if q0 < 0 then (1 : Int32) else (0 : Int32)) + (own_dgs q0))), (.ref c45_0)]))
  obtain ⟨cq57, kq57, q57a, q57b, q57c⟩ := isOf hZr45 e53 r45_1
  obtain ⟨_, _, ⟨T57, L57, k57, n57⟩, -, X57, ⟨Lc57, hQ57, l57, y57, z57⟩, st57⟩ := X53.virtualBack hx (y := yM39) (z := yM39) hor45 (mvT hZr45 (w_ hw 202 rfl)) (mvT hZr45 (w_ hw 203 rfl)) (notFace_of_selects (args := #[]) (mvT hZr45 (w_ hw 205 rfl))) (mvT hZr45 (w_ hw 205 rfl)) (mvT hZr45 (w_ hw 204 rfl)) (by decide) (backOf (W := 0) (rm_ca l Z av0 hw [] c45_0 ((if q0 < 0 then (1 : Int32) else (0 : Int32)) + (own_dgs q0)) c45_1 kc45_2 (own_len q0 p1) (own_T q0 p1) w_COMPACT_STRINGS w_SIOOBE_FORMATTER h45 n0 (Nat.le_trans Z0 kp46.1) ol46 r45_1 r45_2 r45_3 r45_4 (own_ixs q0 p1) hcs S_COMPACT_STRINGS S_SIOOBE_FORMATTER hr_w_SIOOBE_FORMATTER) hZr45 (w_ hw 206 rfl) (w_ hw 51 rfl) (by decide) (by decide)) q57a q57c (g := (mkF m 244 #[.val (.long q0), .second, vi p1, vr b1, vr c45_0, .val (.long (p1.toInt64)), .second, vi (if q0 < 0 then (1 : Int32) else (0 : Int32)), vi (own_dgs q0), vi (if (p1.toInt64) < (0 : Int64) then (1 : Int32) else (0 : Int32)), vi (own_dgs (p1.toInt64)), vi ((if q0 < 0 then (1 : Int32) else (0 : Int32)) + (own_dgs q0)), vi (((((if q0 < 0 then (1 : Int32) else (0 : Int32)) + (own_dgs q0)) + 1) + (if (p1.toInt64) < (0 : Int64) then (1 : Int32) else (0 : Int32))) + (own_dgs (p1.toInt64)))] [(.int ((if q0 < 0 then (1 : Int32) else (0 : Int32)) + (own_dgs q0))), (.ref c45_0)])) rfl (by rw [hml]; rfl) (Steps.refl _) (argsL := [(.int ((if q0 < 0 then (1 : Int32) else (0 : Int32)) + (own_dgs q0)))]) (rest := []) (lenOf pd_29 rfl) rfl (by show 2 * 0 + _ ≤ _; exact Nat.le_of_eq rfl) (hb hby at_244) (fun _ _ => ⟨rfl, e53, (by decide : 9 + 0 ≤ _), (by decide : 121 + 0 ≤ _)⟩)
  dsimp only [Pt.U, Pt.locs, Pt.cells, Pt.slots] at X57 l57 y57 z57 st57 hQ57
  subst l57 y57 z57
  obtain ⟨rfl, N57q, he57⟩ := hQ57
  have N57 := Fr.app N53 N57q
  refine oT st57 ?_
  show OF _ _ _ _ (T57.setTop (mkF m 247 _ _))
  refine oS (fun _ q => XS.bipush X57.here hx rfl (hb hby at_247) (XS.icmpYes X57.here hx rfl (pc0 := 249) (pc' := 254) rfl (hb hby at_249) rfl (Jvm.Free.XT.ii_eq_t (own_laws q0 p1)) (by decide) (by decide) q)) ?_
  show OF _ _ _ _ (T57.setTop (mkF m 254 _ _))
  refine oS (fun _ q => XS.iload X57.here hx rfl (hb hby at_254) rfl (XS.iconst X57.here hx rfl (hb hby at_256) q)) ?_
  suffices H58 : ∀ (T : State) (lc : List Loc), Stand p l e room_1 (s.setVm T45.vm) m #[(.long q0), (.int p1)] below meth c T lc 9 121 → Fr n0 lc → T.heap = h45 → OF p.tables e below GG (T.setTop (mkF m 276 #[.val (.long q0), .second, vi p1, vr b1, vr c45_0, .val (.long (p1.toInt64)), .second, vi (if q0 < 0 then (1 : Int32) else (0 : Int32)), vi (own_dgs q0), vi (if (p1.toInt64) < (0 : Int64) then (1 : Int32) else (0 : Int32)), vi (own_dgs (p1.toInt64)), vi ((if q0 < 0 then (1 : Int32) else (0 : Int32)) + (own_dgs q0)), vi (((((if q0 < 0 then (1 : Int32) else (0 : Int32)) + (own_dgs q0)) + 1) + (if (p1.toInt64) < (0 : Int64) then (1 : Int32) else (0 : Int32))) + (own_dgs (p1.toInt64)))] [])) by
   by_cases hc58 : (p1.toInt64) < (0 : Int64)
   ·
    have hi59 : (if (p1.toInt64) < (0 : Int64) then (1 : Int32) else (0 : Int32)) = 1 := by rw [if_pos hc58] <;> decide
    refine oS (fun _ q => XS.icmpNo X57.here hx rfl (hb hby at_257) rfl (Jvm.Free.XT.ii_ne_f hi59) q) ?_
    show OF _ _ _ _ (T57.setTop (mkF m 260 _ _))
    refine oS (fun _ q => XS.aload X57.here hx rfl (hb hby at_260) rfl rfl (XS.iload X57.here hx rfl (hb hby at_262) rfl (XS.iconst X57.here hx rfl (hb hby at_264) (XS.iadd X57.here hx rfl (hb hby at_265) rfl q)))) ?_
    show OF _ _ _ _ (T57.setTop (mkF m 266 #[.val (.long q0), .second, vi p1, vr b1, vr c45_0, .val (.long (p1.toInt64)), .second, vi (if q0 < 0 then (1 : Int32) else (0 : Int32)), vi (own_dgs q0), vi (if (p1.toInt64) < (0 : Int64) then (1 : Int32) else (0 : Int32)), vi (own_dgs (p1.toInt64)), vi ((if q0 < 0 then (1 : Int32) else (0 : Int32)) + (own_dgs q0)), vi (((((if q0 < 0 then (1 : Int32) else (0 : Int32)) + (own_dgs q0)) + 1) + (if (p1.toInt64) < (0 : Int64) then (1 : Int32) else (0 : Int32))) + (own_dgs (p1.toInt64)))] [(.int (((if q0 < 0 then (1 : Int32) else (0 : Int32)) + (own_dgs q0)) + 1)), (.ref c45_0)]))
    obtain ⟨cq60, kq60, q60a, q60b, q60c⟩ := isOf hZr45 he57 r45_1
    obtain ⟨_, _, ⟨T60, L60, k60, n60⟩, -, X60, ⟨Lc60, hQ60, l60, y60, z60⟩, st60⟩ := X57.virtualBack hx (y := yM39) (z := yM39) hor45 (mvT hZr45 (w_ hw 202 rfl)) (mvT hZr45 (w_ hw 203 rfl)) (notFace_of_selects (args := #[]) (mvT hZr45 (w_ hw 205 rfl))) (mvT hZr45 (w_ hw 205 rfl)) (mvT hZr45 (w_ hw 204 rfl)) (by decide) (backOf (W := 0) (rm_ca l Z av0 hw [] c45_0 (((if q0 < 0 then (1 : Int32) else (0 : Int32)) + (own_dgs q0)) + 1) c45_1 kc45_2 (own_len q0 p1) (own_T q0 p1) w_COMPACT_STRINGS w_SIOOBE_FORMATTER h45 n0 (Nat.le_trans Z0 kp46.1) ol46 r45_1 r45_2 r45_3 r45_4 (own_ix1 q0 p1) hcs S_COMPACT_STRINGS S_SIOOBE_FORMATTER hr_w_SIOOBE_FORMATTER) hZr45 (w_ hw 206 rfl) (w_ hw 51 rfl) (by decide) (by decide)) q60a q60c (g := (mkF m 266 #[.val (.long q0), .second, vi p1, vr b1, vr c45_0, .val (.long (p1.toInt64)), .second, vi (if q0 < 0 then (1 : Int32) else (0 : Int32)), vi (own_dgs q0), vi (if (p1.toInt64) < (0 : Int64) then (1 : Int32) else (0 : Int32)), vi (own_dgs (p1.toInt64)), vi ((if q0 < 0 then (1 : Int32) else (0 : Int32)) + (own_dgs q0)), vi (((((if q0 < 0 then (1 : Int32) else (0 : Int32)) + (own_dgs q0)) + 1) + (if (p1.toInt64) < (0 : Int64) then (1 : Int32) else (0 : Int32))) + (own_dgs (p1.toInt64)))] [(.int (((if q0 < 0 then (1 : Int32) else (0 : Int32)) + (own_dgs q0)) + 1)), (.ref c45_0)])) rfl (by rw [hml]; rfl) (Steps.refl _) (argsL := [(.int (((if q0 < 0 then (1 : Int32) else (0 : Int32)) + (own_dgs q0)) + 1))]) (rest := []) (lenOf pd_29 rfl) rfl (by show 2 * 0 + _ ≤ _; exact Nat.le_of_eq rfl) (hb hby at_266) (fun _ _ => ⟨rfl, he57, (by decide : 9 + 0 ≤ _), (by decide : 121 + 0 ≤ _)⟩)
    dsimp only [Pt.U, Pt.locs, Pt.cells, Pt.slots] at X60 l60 y60 z60 st60 hQ60
    subst l60 y60 z60
    obtain ⟨rfl, N60q, he60⟩ := hQ60
    have N60 := Fr.app N57 N60q
    refine oT st60 ?_
    show OF _ _ _ _ (T60.setTop (mkF m 269 _ _))
    refine oS (fun _ q => XS.bipush X60.here hx rfl (hb hby at_269) (XS.icmpYes X60.here hx rfl (pc0 := 271) (pc' := 276) rfl (hb hby at_271) rfl (Jvm.Free.XT.ii_eq_t (own_lawm q0 p1 hc58)) (by decide) (by decide) q)) ?_
    show OF _ _ _ _ (T60.setTop (mkF m 276 #[.val (.long q0), .second, vi p1, vr b1, vr c45_0, .val (.long (p1.toInt64)), .second, vi (if q0 < 0 then (1 : Int32) else (0 : Int32)), vi (own_dgs q0), vi (if (p1.toInt64) < (0 : Int64) then (1 : Int32) else (0 : Int32)), vi (own_dgs (p1.toInt64)), vi ((if q0 < 0 then (1 : Int32) else (0 : Int32)) + (own_dgs q0)), vi (((((if q0 < 0 then (1 : Int32) else (0 : Int32)) + (own_dgs q0)) + 1) + (if (p1.toInt64) < (0 : Int64) then (1 : Int32) else (0 : Int32))) + (own_dgs (p1.toInt64)))] []))
    have z := H58 _ _ X60 N60 he60
    exact z
   ·
    have hi61 : ¬ ((if (p1.toInt64) < (0 : Int64) then (1 : Int32) else (0 : Int32)) = 1) := by rw [if_neg hc58] <;> decide
    refine oS (fun _ q => XS.icmpYes X57.here hx rfl (pc0 := 257) (pc' := 276) rfl (hb hby at_257) rfl (Jvm.Free.XT.ii_ne_t hi61) (by decide) (by decide) q) ?_
    show OF _ _ _ _ (T57.setTop (mkF m 276 #[.val (.long q0), .second, vi p1, vr b1, vr c45_0, .val (.long (p1.toInt64)), .second, vi (if q0 < 0 then (1 : Int32) else (0 : Int32)), vi (own_dgs q0), vi (if (p1.toInt64) < (0 : Int64) then (1 : Int32) else (0 : Int32)), vi (own_dgs (p1.toInt64)), vi ((if q0 < 0 then (1 : Int32) else (0 : Int32)) + (own_dgs q0)), vi (((((if q0 < 0 then (1 : Int32) else (0 : Int32)) + (own_dgs q0)) + 1) + (if (p1.toInt64) < (0 : Int64) then (1 : Int32) else (0 : Int32))) + (own_dgs (p1.toInt64)))] []))
    have z := H58 _ _ X57 N57 he57
    exact z
  intro T58 lc58 X58 N58 e58
  show OF _ _ _ _ (T58.setTop (mkF m 276 #[.val (.long q0), .second, vi p1, vr b1, vr c45_0, .val (.long (p1.toInt64)), .second, vi (if q0 < 0 then (1 : Int32) else (0 : Int32)), vi (own_dgs q0), vi (if (p1.toInt64) < (0 : Int64) then (1 : Int32) else (0 : Int32)), vi (own_dgs (p1.toInt64)), vi ((if q0 < 0 then (1 : Int32) else (0 : Int32)) + (own_dgs q0)), vi (((((if q0 < 0 then (1 : Int32) else (0 : Int32)) + (own_dgs q0)) + 1) + (if (p1.toInt64) < (0 : Int64) then (1 : Int32) else (0 : Int32))) + (own_dgs (p1.toInt64)))] []))
  refine oS (fun _ q => XS.aload X58.here hx rfl (hb hby at_276) rfl rfl (XS.iload X58.here hx rfl (hb hby at_278) rfl (XS.iconst X58.here hx rfl (hb hby at_280) (XS.isub X58.here hx rfl (hb hby at_281) rfl (XS.lloadN X58.here hx rfl (hb hby at_282) rfl (XS.iload X58.here hx rfl (hb hby at_283) rfl (XS.aloadN X58.here hx rfl (hb hby at_285) rfl rfl q))))))) ?_
  show OF _ _ _ _ (T58.setTop (mkF m 286 #[.val (.long q0), .second, vi p1, vr b1, vr c45_0, .val (.long (p1.toInt64)), .second, vi (if q0 < 0 then (1 : Int32) else (0 : Int32)), vi (own_dgs q0), vi (if (p1.toInt64) < (0 : Int64) then (1 : Int32) else (0 : Int32)), vi (own_dgs (p1.toInt64)), vi ((if q0 < 0 then (1 : Int32) else (0 : Int32)) + (own_dgs q0)), vi (((((if q0 < 0 then (1 : Int32) else (0 : Int32)) + (own_dgs q0)) + 1) + (if (p1.toInt64) < (0 : Int64) then (1 : Int32) else (0 : Int32))) + (own_dgs (p1.toInt64)))] [(.ref b1), (.int (own_dgs q0)), (.long q0), (.int (((if q0 < 0 then (1 : Int32) else (0 : Int32)) + (own_dgs q0)) - 1)), (.ref c45_0)]))
  obtain ⟨_, _, ⟨T62, L62, k62, n62⟩, -, X62, ⟨Lc62, hQ62, l62, y62, z62⟩, st62⟩ := Jvm.LawKit.callS X58 hx (y := yM43) hor45 (mvT hZr45 (w_ hw 224 rfl)) (mvT hZr45 (w_ hw 225 rfl)) (mvT hZr45 (w_ hw 199 rfl)) (mvT hZr45 (w_ hw 226 rfl)) (by decide) (backOf (W := 0) (rm_num l Z av0 hw [] c45_0 (((if q0 < 0 then (1 : Int32) else (0 : Int32)) + (own_dgs q0)) - 1) q0 (own_dgs q0) b1 c45_1 kc45_2 (own_len q0 p1) (own_T q0 p1) k1 w_COMPACT_STRINGS w_SIOOBE_FORMATTER h45 n0 (Nat.le_trans Z0 kp46.1) ol46 r45_1 r45_2 r45_3 r45_4 fr48 (own_hN1 q0 p1) hcs S_COMPACT_STRINGS S_SIOOBE_FORMATTER hr_w_SIOOBE_FORMATTER) hZr45 (w_ hw 226 rfl) (w_ hw 199 rfl) (by decide) (by decide)) (g := (mkF m 286 #[.val (.long q0), .second, vi p1, vr b1, vr c45_0, .val (.long (p1.toInt64)), .second, vi (if q0 < 0 then (1 : Int32) else (0 : Int32)), vi (own_dgs q0), vi (if (p1.toInt64) < (0 : Int64) then (1 : Int32) else (0 : Int32)), vi (own_dgs (p1.toInt64)), vi ((if q0 < 0 then (1 : Int32) else (0 : Int32)) + (own_dgs q0)), vi (((((if q0 < 0 then (1 : Int32) else (0 : Int32)) + (own_dgs q0)) + 1) + (if (p1.toInt64) < (0 : Int64) then (1 : Int32) else (0 : Int32))) + (own_dgs (p1.toInt64)))] [(.ref b1), (.int (own_dgs q0)), (.long q0), (.int (((if q0 < 0 then (1 : Int32) else (0 : Int32)) + (own_dgs q0)) - 1)), (.ref c45_0)])) rfl (by rw [hml]; rfl) (argsL := [(.ref c45_0), (.int (((if q0 < 0 then (1 : Int32) else (0 : Int32)) + (own_dgs q0)) - 1)), (.long q0), (.int (own_dgs q0)), (.ref b1)]) (rest := []) (lenOf pd_33 rfl) rfl (by show 2 * 0 + _ ≤ _; exact Nat.le_of_eq rfl) (hb hby at_286) (fun _ _ => ⟨rfl, e58, (by decide : 9 + 0 ≤ _), (by decide : 121 + 0 ≤ _)⟩)
  dsimp only [Pt.U, Pt.locs, Pt.cells, Pt.slots] at X62 l62 y62 z62 st62 hQ62
  subst l62 y62 z62
  obtain ⟨rfl, N62q, he62⟩ := hQ62
  have N62 := Fr.app N58 N62q
  refine oS st62 ?_
  show OF _ _ _ _ (T62.setTop (mkF m 289 _ _))
  refine oS (fun _ q => XS.ifNo X62.here hx rfl (hb hby at_289) rfl (Jvm.Free.XT.i0_eq_f (by decide : ¬ ((1 : Int32) = (0 : Int32)))) q) ?_
  show OF _ _ _ _ (T62.setTop (mkF m 292 _ _))
  refine oS (fun _ q => XS.aload X62.here hx rfl (hb hby at_292) rfl rfl (XS.iload X62.here hx rfl (hb hby at_294) rfl (XS.iconst X62.here hx rfl (hb hby at_296) (XS.isub X62.here hx rfl (hb hby at_297) rfl (XS.lload X62.here hx rfl (hb hby at_298) rfl (XS.iload X62.here hx rfl (hb hby at_300) rfl (XS.aloadN X62.here hx rfl (hb hby at_302) rfl rfl q))))))) ?_
  show OF _ _ _ _ (T62.setTop (mkF m 303 #[.val (.long q0), .second, vi p1, vr b1, vr c45_0, .val (.long (p1.toInt64)), .second, vi (if q0 < 0 then (1 : Int32) else (0 : Int32)), vi (own_dgs q0), vi (if (p1.toInt64) < (0 : Int64) then (1 : Int32) else (0 : Int32)), vi (own_dgs (p1.toInt64)), vi ((if q0 < 0 then (1 : Int32) else (0 : Int32)) + (own_dgs q0)), vi (((((if q0 < 0 then (1 : Int32) else (0 : Int32)) + (own_dgs q0)) + 1) + (if (p1.toInt64) < (0 : Int64) then (1 : Int32) else (0 : Int32))) + (own_dgs (p1.toInt64)))] [(.ref b1), (.int (own_dgs (p1.toInt64))), (.long (p1.toInt64)), (.int ((((((if q0 < 0 then (1 : Int32) else (0 : Int32)) + (own_dgs q0)) + 1) + (if (p1.toInt64) < (0 : Int64) then (1 : Int32) else (0 : Int32))) + (own_dgs (p1.toInt64))) - 1)), (.ref c45_0)]))
  obtain ⟨_, _, ⟨T63, L63, k63, n63⟩, -, X63, ⟨Lc63, hQ63, l63, y63, z63⟩, st63⟩ := Jvm.LawKit.callS X62 hx (y := yM43) hor45 (mvT hZr45 (w_ hw 224 rfl)) (mvT hZr45 (w_ hw 225 rfl)) (mvT hZr45 (w_ hw 199 rfl)) (mvT hZr45 (w_ hw 226 rfl)) (by decide) (backOf (W := 0) (rm_num l Z av0 hw [] c45_0 ((((((if q0 < 0 then (1 : Int32) else (0 : Int32)) + (own_dgs q0)) + 1) + (if (p1.toInt64) < (0 : Int64) then (1 : Int32) else (0 : Int32))) + (own_dgs (p1.toInt64))) - 1) (p1.toInt64) (own_dgs (p1.toInt64)) b1 c45_1 kc45_2 (own_len q0 p1) (own_T q0 p1) k1 w_COMPACT_STRINGS w_SIOOBE_FORMATTER h45 n0 (Nat.le_trans Z0 kp46.1) ol46 r45_1 r45_2 r45_3 r45_4 fr48 (own_hN2 q0 p1) hcs S_COMPACT_STRINGS S_SIOOBE_FORMATTER hr_w_SIOOBE_FORMATTER) hZr45 (w_ hw 226 rfl) (w_ hw 199 rfl) (by decide) (by decide)) (g := (mkF m 303 #[.val (.long q0), .second, vi p1, vr b1, vr c45_0, .val (.long (p1.toInt64)), .second, vi (if q0 < 0 then (1 : Int32) else (0 : Int32)), vi (own_dgs q0), vi (if (p1.toInt64) < (0 : Int64) then (1 : Int32) else (0 : Int32)), vi (own_dgs (p1.toInt64)), vi ((if q0 < 0 then (1 : Int32) else (0 : Int32)) + (own_dgs q0)), vi (((((if q0 < 0 then (1 : Int32) else (0 : Int32)) + (own_dgs q0)) + 1) + (if (p1.toInt64) < (0 : Int64) then (1 : Int32) else (0 : Int32))) + (own_dgs (p1.toInt64)))] [(.ref b1), (.int (own_dgs (p1.toInt64))), (.long (p1.toInt64)), (.int ((((((if q0 < 0 then (1 : Int32) else (0 : Int32)) + (own_dgs q0)) + 1) + (if (p1.toInt64) < (0 : Int64) then (1 : Int32) else (0 : Int32))) + (own_dgs (p1.toInt64))) - 1)), (.ref c45_0)])) rfl (by rw [hml]; rfl) (argsL := [(.ref c45_0), (.int ((((((if q0 < 0 then (1 : Int32) else (0 : Int32)) + (own_dgs q0)) + 1) + (if (p1.toInt64) < (0 : Int64) then (1 : Int32) else (0 : Int32))) + (own_dgs (p1.toInt64))) - 1)), (.long (p1.toInt64)), (.int (own_dgs (p1.toInt64))), (.ref b1)]) (rest := []) (lenOf pd_33 rfl) rfl (by show 2 * 0 + _ ≤ _; exact Nat.le_of_eq rfl) (hb hby at_303) (fun _ _ => ⟨rfl, he62, (by decide : 9 + 0 ≤ _), (by decide : 121 + 0 ≤ _)⟩)
  dsimp only [Pt.U, Pt.locs, Pt.cells, Pt.slots] at X63 l63 y63 z63 st63 hQ63
  subst l63 y63 z63
  obtain ⟨rfl, N63q, he63⟩ := hQ63
  have N63 := Fr.app N62 N63q
  refine oS st63 ?_
  show OF _ _ _ _ (T63.setTop (mkF m 306 _ _))
  refine oS (fun _ q => XS.ifNo X63.here hx rfl (hb hby at_306) rfl (Jvm.Free.XT.i0_eq_f (by decide : ¬ ((1 : Int32) = (0 : Int32)))) q) ?_
  show OF _ _ _ _ (T63.setTop (mkF m 309 _ _))
  refine oS (fun _ q => XS.iconst X63.here hx rfl (hb hby at_309) (XS.goto X63.here hx rfl (pc0 := 310) (pc' := 314) rfl (hb hby at_310) (by decide) (by decide) q)) ?_
  show OF _ _ _ _ (T63.setTop (mkF m 314 #[.val (.long q0), .second, vi p1, vr b1, vr c45_0, .val (.long (p1.toInt64)), .second, vi (if q0 < 0 then (1 : Int32) else (0 : Int32)), vi (own_dgs q0), vi (if (p1.toInt64) < (0 : Int64) then (1 : Int32) else (0 : Int32)), vi (own_dgs (p1.toInt64)), vi ((if q0 < 0 then (1 : Int32) else (0 : Int32)) + (own_dgs q0)), vi (((((if q0 < 0 then (1 : Int32) else (0 : Int32)) + (own_dgs q0)) + 1) + (if (p1.toInt64) < (0 : Int64) then (1 : Int32) else (0 : Int32))) + (own_dgs (p1.toInt64)))] [(.int 1)]))
  rw [hGG]
  obtain ⟨fs, hr, hrun, hended, hEW⟩ := X63.leaveW (s := s) hSr45 (by rw [he63]; exact (Nat.le_trans (Nat.le_refl _) (Nat.le_refl _))) (v := some (.int 1)) (fun h => by rw [Bd.returns] at h; cases h)
  have chE : CHr Z own_EL s.vm s.heap T63.vm T63.heap := by
    rw [hh, he63]
    exact ch46.trans (CHv.at X63 hZr45 (own_EW hw) ch46.1)
  refine ⟨_, _, retN X63 hx (t := .boolean) Bd.returns (by simp) (hb hby at_314) hr, hrun, hended, _, _, rfl, ?_, chE, hEW.1, hEW.2.1, hEW.2.2.1, hEW.2.2.2.mono (by decide) (by decide)⟩
  show Q_rm0 Z q0 p1 kO gO w_DigitOnes kT gT w_DigitTens w_COMPACT_STRINGS w_SIOOBE_FORMATTER h0 n0 _ T63.heap _
  rw [he63]
  exact ⟨rfl, N63⟩
theorem own_tbl {s : State} {args : Array Value} {t : Term} {a : Addr} {z : Int32} (wa : (Cond.arrayClass .byte).before args s = true) (et : t.eval args s none [] s = some (.ref a)) (E : Exa s s.heap a "[B") (hl : (Term.length t).eval args s none [] s = some (.int z)) : ∃ cl, Arr s s.heap a cl .byte ∧ s.arrayAt? a = some cl ∧ cl.slots.size < 2 ^ 31 ∧ cl.slots.size.toInt32 = z := by
  cases hA : s.arrayAt? a with
  | none => simp [Term.eval, et, hA] at hl
  | some cl =>
    have sp := Jvm.Joins.arrayAt_spec hA
    obtain ⟨cell, k, e1, e2, e3, e4, e5⟩ := E
    cases e1.symm.trans sp.1
    obtain ⟨c4, k4, comp, f1, f2, f3⟩ := Cond.arrayClass_spec wa
    have f1' : s.vm.findClass "[B" = some c4 := f1
    cases e2.symm.trans f1'
    by_cases q : cl.slots.size < 2 ^ 31
    · refine ⟨cl, ⟨sp.1, ⟨fun k hk => (by have := sp.2.2; rw [hk] at this; cases this), k4, f2, comp, f3⟩, sp.2.1⟩, rfl, q, ?_⟩
      simp [Term.eval, et, hA] at hl; exact hl.2
    · simp [Term.eval, et, hA] at hl; omega
theorem own_ofnn {k : Nat} (h : k < 100) : ¬ Int32.ofNat k < 0 ∧ (Int32.ofNat k).toNatClampNeg = k := by
  have v : (Int32.ofNat k).toInt = k := Int32.toInt_ofNat_of_lt (by omega)
  have r : (0 : Int32).toInt = 0 := rfl
  refine ⟨by rw [Int32.lt_iff_toInt_lt]; omega, ?_⟩
  simp only [Int32.toNatClampNeg, v]; omega
theorem own_tab {s : State} {args : Array Value} {t F : Term} {a : Addr} {cl : Cell} (U : Int32 → Int32) (hf : Fit s) (et : ∀ idx, t.eval args s none idx s = some (.ref a)) (A : Arr s s.heap a cl .byte) (hA : s.arrayAt? a = some cl) (q : cl.slots.size < 2 ^ 31) (e : cl.slots.size.toInt32 = 100)
    (h : (Jvm.Cond.all t (.eq (.elem t (.index 0)) F)).value args s none s [] = some true) (hF : ∀ j : Int32, ¬ j < 0 → F.eval args s none [j.toNatClampNeg] s = some (.int (U j))) : Arv s s.heap a cl.cls .byte (100 : Int32) (own_ml (100 : Int32) (fun i => U (Int32.ofNat i))) (.int (0 : Int32)) := by
  have sz : cl.slots.size = 100 := by have := congrArg Int32.toInt e; rw [len_toInt q] at this; have r : (100 : Int32).toInt = 100 := rfl; omega
  have r : (100 : Int32).toNatClampNeg = 100 := rfl
  have at_ : ∀ k, k < 100 → cl.slots[k]? = some (.int (U (Int32.ofNat k))) := fun k hk => by
    obtain ⟨nn, kk⟩ := own_ofnn hk
    have u := Cond.all_elim (et []) hA h k (by omega)
    have u' : (Jvm.Cond.eq (.elem t (.index 0)) F).value args s none s [(Int32.ofNat k).toNatClampNeg] = some true := by rw [kk]; exact u
    have w := eqv_i (hF _ nn) u'
    rw [elem_f (et _) (idx_at nn) hA nn, kk] at w; exact w
  have gd : ∀ k, k < 100 → (own_ml (100 : Int32) (fun i => U (Int32.ofNat i))).getD k (.int (0 : Int32)) = .int (U (Int32.ofNat k)) := fun k hk => by
    rw [List.getD_eq_getElem?_getD, own_mlq, if_pos (by omega)]; rfl
  refine ⟨cl, A, rfl, by rw [sz]; rfl, by decide, fun k hk => ?_, fun k hk => ?_⟩
  · rw [gd k (by omega)]; exact at_ k (by omega)
  · obtain ⟨nn, kk⟩ := own_ofnn (k := k) (by omega)
    rw [gd k (by omega)]; exact elem_fits (j := Int32.ofNat k) hf A (by rw [kk]; intro w; rcases w with w | w; exact nn w; omega) (by rw [kk]; exact at_ k (by omega))
theorem own_addf {args : Array Value} {first s : State} {o : Option Outcome} {idx : List Nat} {a b : Term} {x y : Int32} (ha : a.eval args first o idx s = some (.int x)) (hb : b.eval args first o idx s = some (.int y)) : (Term.add a b).eval args first o idx s = some (.int (x + y)) := by simp [Term.eval, ha, hb]
theorem own_FO {s : State} {args : Array Value} {j : Int32} (hj : ¬ j < 0) : (Term.add (.int 48) (.rem (.index 0) (.int 10))).eval args s none [j.toNatClampNeg] s = some (.int (48 + j % 10)) := by
  have r := rem_f (idx_at (args := args) (s := s) (first := s) (o := none) hj) (Term.int_eval (10)) (by decide)
  exact own_addf (Term.int_eval (48)) r
theorem own_FT {s : State} {args : Array Value} {j : Int32} (hj : ¬ j < 0) : (Term.add (.int 48) (.div (.index 0) (.int 10))).eval args s none [j.toNatClampNeg] s = some (.int (48 + j / 10)) := by
  have r := div_f (idx_at (args := args) (s := s) (first := s) (o := none) hj) (Term.int_eval (10)) (by decide)
  exact own_addf (Term.int_eval (48)) r
theorem own_back {j : Int32} (h : ¬ j < 0) : Int32.ofNat j.toNatClampNeg = j := by
  have q := own_nat h; rw [← Int32.toInt_inj, Int32.toInt_ofNat_of_lt (by have := rng32 j; omega)]; omega
theorem own_hOs : own_hO (fun i => 48 + (Int32.ofNat i) % 10) := fun j h0 h1 => by
  unfold own_at; show 48 + (Int32.ofNat j.toNatClampNeg) % 10 = _
  rw [own_back h0]; have n := own_nat h0
  have m := c_irem j (10 : Int32) 10 (by decide +kernel); have a := c_iadd (48 : Int32) (j % 10); have a' := rng32 ((48 : Int32) + j % 10); have r : (48 : Int32).toInt = 48 := rfl; have r1 : (100 : Int32).toInt = 100 := rfl
  rw [Int32.lt_iff_toInt_lt] at h1
  have v := own_ofv (n := 48 + j.toNatClampNeg % 10) (by omega)
  rw [← Int32.toInt_inj, v]; omega
theorem own_hTs : own_hT (fun i => 48 + (Int32.ofNat i) / 10) := fun j h0 h1 => by
  unfold own_at; show 48 + (Int32.ofNat j.toNatClampNeg) / 10 = _
  rw [own_back h0]; have n := own_nat h0
  have m := c_idiv j (10 : Int32) 10 (by decide +kernel) (by decide +kernel); have a := c_iadd (48 : Int32) (j / 10); have a' := rng32 ((48 : Int32) + j / 10); have r : (48 : Int32).toInt = 48 := rfl; have r1 : (100 : Int32).toInt = 100 := rfl
  rw [Int32.lt_iff_toInt_lt] at h1
  have v := own_ofv (n := 48 + j.toNatClampNeg / 10) (by omega)
  rw [← Int32.toInt_inj, v]; omega
set_option maxRecDepth 65536 in
set_option maxHeartbeats 40000000 in
theorem comes_1 {Post : Tables → Env → Array Value → State → Outcome → State → Prop} (hpost : ∀ tb e args s v u, (limb_1_1.after args s (.returned v) u = true ∧ limb_1_2.after args s (.returned v) u = true ∧ True) → ReturnedEndW s (.returned v) u (Jvm.fieldLocs frame_1_writes args s ++ Jvm.arrayLocs frame_1_arrays args s ++ Jvm.staticLocs frame_1_statics s) 24 1344 → Post tb e args s (.returned v) u) :
    ArmFor flags0 classFile x code maxLocals ret World_1 tables_1 room_1 Calls_1 rest_1 Pre_1 Post := by
  intro l hfl _ _ p e ha hc hk s m args below hf hA hF happ hP
  obtain ⟨hcalls, hrest, hpre⟩ := hP
  obtain ⟨-, -, -, hnamed, -, -, -, hat⟩ := (Spec.applies_iff hf).mp happ
  obtain ⟨hg, hn⟩ := and_e (Cond.before_iff.mp (show (Jvm.Cond.and given_1 narrow_1).before args s = true from hpre))
  obtain ⟨y1, y2⟩ := and_e hg
  obtain ⟨y3, y4⟩ := and_e y2
  obtain ⟨v0, v1, rfl⟩ : ∃ v0 v1 : Value, args = #[v0, v1] := by
    have hs : args.size = 2 := by simpa [Cond.value, given_1] using y1
    obtain ⟨L⟩ := args
    match L, hs with
    | [v0, v1], _ => exact ⟨v0, v1, rfl⟩
  have hw := fun d (hd : d ∈ tables_1) => atoms_spec (ws := Jvm.Cond.code x code maxLocals ret :: tables_1) hat d (List.mem_cons_of_mem _ hd)
  have hfit : Fit s := fun {y c} hc i hi => by
    obtain ⟨ha, rfl⟩ := Array.getElem?_eq_some_iff.mp hc
    have q := List.all_eq_true.mp ((Array.all_eq_true_iff_forall_mem.mp hF) _ (Array.getElem_mem ha)) i (List.mem_range.mpr hi)
    simpa [Array.getElem?_eq_getElem hi] using q
  obtain ⟨hsets, hown0⟩ := atoms_of _ (rest_1_c_eq ▸ (show rest_1_c.before _ s = true from hrest))
  have hr0 := Cond.before_iff.mp hown0
  obtain ⟨i0, ei0⟩ := isL_v y3
  obtain rfl : v0 = (.long i0) := Option.some.inj ei0
  obtain ⟨i1, ei1⟩ := is_v y4
  obtain rfl : v1 = (.int i1) := Option.some.inj ei1
  obtain ⟨icp, ecp⟩ := is_v (Cond.before_iff.mp (hsets _ (List.mem_of_getElem? (i := 1) rfl)))
  have Scp : Sta s s.heap "java/lang/String" "COMPACT_STRINGS" "Z" (.int icp) := Sta.start ecp (Or.inl (hsets _ (List.mem_of_getElem? (i := 0) rfl)))
  have hcp : ¬ (icp = (0 : Int32)) := gotF (Cond.eq_ints ecp (Term.int_eval (0))) (not_v (Cond.before_iff.mp (hsets _ (List.mem_of_getElem? (i := 2) rfl))))
  obtain ⟨vsf, esf, hsf⟩ := own_isr (Cond.before_iff.mp (hsets _ (List.mem_of_getElem? (i := 8) rfl)))
  have Ssf : Sta s s.heap "jdk/internal/util/Preconditions" "SIOOBE_FORMATTER" "Ljava/util/function/BiFunction;" vsf := Sta.start esf (Or.inl (hsets _ (List.mem_of_getElem? (i := 7) rfl)))
  obtain ⟨aO, evO⟩ := exa_v (Cond.before_iff.mp (hsets _ (List.mem_of_getElem? (i := 12) rfl)))
  have SsO : Sta s s.heap "java/lang/Integer" "DigitOnes" "[B" (.ref aO) := Sta.start evO (Or.inl (hsets _ (List.mem_of_getElem? (i := 11) rfl)))
  have XsO : Exa s s.heap aO "[B" := Exa.start evO (Cond.before_iff.mp (hsets _ (List.mem_of_getElem? (i := 12) rfl)))
  obtain ⟨clO, AsO, AtO, qO, zO⟩ := own_tbl (w_ hw 52 rfl) evO XsO (eqv_i (Term.int_eval (100)) (Cond.before_iff.mp (hsets _ (List.mem_of_getElem? (i := 13) rfl))))
  have VsO := own_tab (fun j => 48 + j % 10) hfit (fun idx => evO) AsO AtO qO zO (Cond.before_iff.mp (hsets _ (List.mem_of_getElem? (i := 14) rfl))) (fun j hj => own_FO hj)
  obtain ⟨aT, evT⟩ := exa_v (Cond.before_iff.mp (hsets _ (List.mem_of_getElem? (i := 17) rfl)))
  have SsT : Sta s s.heap "java/lang/Integer" "DigitTens" "[B" (.ref aT) := Sta.start evT (Or.inl (hsets _ (List.mem_of_getElem? (i := 16) rfl)))
  have XsT : Exa s s.heap aT "[B" := Exa.start evT (Cond.before_iff.mp (hsets _ (List.mem_of_getElem? (i := 17) rfl)))
  obtain ⟨clT, AsT, AtT, qT, zT⟩ := own_tbl (w_ hw 52 rfl) evT XsT (eqv_i (Term.int_eval (100)) (Cond.before_iff.mp (hsets _ (List.mem_of_getElem? (i := 18) rfl))))
  have VsT := own_tab (fun j => 48 + j / 10) hfit (fun idx => evT) AsT AtT qT zT (Cond.before_iff.mp (hsets _ (List.mem_of_getElem? (i := 19) rfl))) (fun j hj => own_FT hj)
  have hCHs : CHv s own_EL s.vm s.heap := CHv.start (own_EW hw) (fun p hp => hcalls.1 p (own_ELc p hp)) (show Jvm.Lit.compactW.before _ s = true from (hsets _ (List.mem_of_getElem? (i := 2) rfl))) (w_ hw 52 rfl) (w_ hw 91 rfl)
  obtain ⟨n, o, h1, h2, h3, _, L, rfl, ⟨rfl, N⟩, -, hq⟩ := rm0 l s _ hw tables_1 i0 i1 _ _ aO _ _ aT icp vsf s.heap s.heap.size (Nat.le_refl _) (Old.start s) VsO VsT own_hOs own_hTs hcp Scp SsO SsT Ssf hsf p e ha hc hk s m _ below hf ((Spec.applies_iff_loose hf).mp happ).1 ⟨rfl, State.Warmed39.refl s, rfl, hCHs⟩ trivial
  refine ⟨n, _, h1, h2, h3, hpost _ _ _ _ _ _ ⟨Cond.after_iff.mpr rfl, Cond.after_iff.mpr (eq_i res_at (Term.int_eval (1)) rfl), trivial⟩ ⟨hq.1, hq.2.1, hq.2.2.1, (hq.2.2.2.sift fun y hy => Or.inr (N y hy)).mono (by decide) (by decide)⟩⟩
theorem main_1_1 : Claimed_1_1 := comes_1 fun _ _ _ _ _ _ h hF => ⟨h.1, hF⟩
theorem main_1_2 : Claimed_1_2 := comes_1 fun _ _ _ _ _ _ h hF => ⟨h.2.1, hF⟩
end Jvm.Pilot.@@N@@
namespace Jvm.Pilot.@@N@@
open Jvm Jvm.ClassFile Sem Op Lib Jvm.Free Jvm.Stand Jvm.Pilot.@@N@@.Jvm.D
/-! MADE BY PROGRAM (witnessworld.py) out of the Statement's table words and the real class files: 28 classes; the members and pool entries that the words name. The judged class is class 1, her method 1. -/
namespace start1
open Jvm.ClassFile
def u (s : String) : CpInfo := .utf8 (stringToUtf16 s)
/-- a pool by its gaps: so many unusable entries, then the entry; so many at the end -/
def gap : Nat → List CpInfo → List CpInfo
  | 0, r => r
  | n + 1, r => .unusable :: gap n r
def poolList (es : List (Nat × CpInfo)) (last : Nat) : List CpInfo := es.foldr (fun e r => gap e.1 (e.2 :: r)) (gap last [])
def pool (es : List (Nat × CpInfo)) (last : Nat) : Array CpInfo := ⟨poolList es last⟩
def fileOf (pool : Array CpInfo) (this : Nat) (attrs : Array Attribute := #[]) (ms : Array MethodInfo := #[]) (fl : Nat := 33) (sup : Nat := 0) (ifs : Array Nat := #[]) (fds : Array FieldInfo := #[]) : ClassFile where
  minorVersion := 0
  majorVersion := 65
  constantPool := pool
  accessFlags := fl
  thisClass := this
  superClass := sup
  interfaces := ifs
  fields := fds
  methods := ms
  attributes := attrs
def plain (name : String) (sup : Option ClassId) : Class where
  name := name
  kind := .ordinary
  loader := none
  accessFlags := 33
  super := sup
  interfaces := #[]
  cf := none
  fields := #[]
  methods := #[]
  instanceTypes := #[]
  staticTypes := #[]
  resolved := #[]
  callSites := []
  init := .initialized
  statics := none
  mirror := none

def pool0 : Array CpInfo := pool [(5, u "<init>"), (0, u "()V"), (1, .class_ 10), (1, u "java/lang/Object"), (85, u "clone"), (0, u "()Ljava/lang/Object;")] 26

def k0c0 : Code := { maxStack := 0, maxLocals := 1, code := object_method_1_code, exceptionTable := #[], attributes := #[] }
def k0m0 : Method := { name := "<init>", desc := "()V", sig := { parameters := [], returnType := none }, accessFlags := 1, code := some k0c0 }
def k0m1 : Method := { name := "clone", desc := "()Ljava/lang/Object;", sig := { parameters := [], returnType := some (.object "java/lang/Object") }, accessFlags := 260, code := none }
/-- java/lang/Object -/
def k0 : Class := { plain "java/lang/Object" none with
  accessFlags := 33
  interfaces := #[]
  cf := some (fileOf pool0 8 #[] #[{ accessFlags := 1, nameIndex := 5, descriptorIndex := 6, attributes := #[] }, { accessFlags := 260, nameIndex := 96, descriptorIndex := 97, attributes := #[] }] 33 0 #[] #[])
  fields := #[]
  methods := #[k0m0, k0m1]
  instanceTypes := #[]
  staticTypes := #[]
  resolved := Array.replicate 124 none
  statics := none }

def pool1 : Array CpInfo := pool [(2, .class_ 4), (1, u "java/lang/Object"), (0, u "<init>"), (0, u "()V"), (0, .long 10), (1, .long 100), (1, .long 1000), (1, .long 10000), (1, .long 100000), (1, .long 1000000), (1, .long 10000000), (1, .long 100000000), (1, .long 1000000000), (1, .long 10000000000), (1, .long 100000000000), (1, .long 1000000000000), (1, .long 10000000000000), (1, .long 100000000000000), (1, .long 1000000000000000), (1, .long 10000000000000000), (1, .long 100000000000000000), (1, .long 1000000000000000000), (1, .class_ 44), (0, u "com/example/kwhat/kwhat/ProRata"), (0, .methodref 43 46), (0, .nameAndType 5 47), (0, u "(JI)V"), (0, .methodref 43 49), (0, .nameAndType 50 51), (0, u "toString"), (0, u "()Ljava/lang/String;"), (0, .methodref 53 54), (0, .class_ 55), (0, .nameAndType 56 57), (0, u "com/example/kwhat/kwhat/ProRataToStringPinLaw"), (0, u "digits"), (0, u "(J[J)I"), (0, .methodref 59 60), (0, .class_ 61), (0, .nameAndType 62 63), (0, u "java/lang/String"), (0, u "length"), (0, u "()I"), (0, .methodref 59 65), (0, .nameAndType 66 67), (0, u "charAt"), (0, u "(I)C"), (0, .methodref 53 69), (0, .nameAndType 70 71), (0, u "number"), (0, u "(Ljava/lang/String;IJI[J)Z"), (0, .methodref 53 73), (0, .nameAndType 74 75), (0, u "d"), (0, u "(Ljava/lang/String;IJI[JI)Z"), (0, .methodref 77 78), (0, .class_ 79), (0, .nameAndType 80 81), (0, u "java/lang/Math"), (0, u "abs"), (0, u "(I)I"), (2, u "law"), (0, u "(JI)Z")] 5

def k1m0 : Method := { name := "<init>", desc := "()V", sig := { parameters := [], returnType := none }, accessFlags := 1, code := none }
def k1c1 : Code := { maxStack := 6, maxLocals := 13, code := code, exceptionTable := #[], attributes := #[] }
def k1m1 : Method := { name := "law", desc := "(JI)Z", sig := { parameters := [.long, .int], returnType := some .boolean }, accessFlags := 9, code := some k1c1 }
def k1c2 : Code := { maxStack := 5, maxLocals := 4, code := method_3_code, exceptionTable := #[], attributes := #[] }
def k1m2 : Method := { name := "digits", desc := "(J[J)I", sig := { parameters := [.long, (.array .long)], returnType := some .int }, accessFlags := 10, code := some k1c2 }
def k1c3 : Code := { maxStack := 7, maxLocals := 6, code := method_4_code, exceptionTable := #[], attributes := #[] }
def k1m3 : Method := { name := "number", desc := "(Ljava/lang/String;IJI[J)Z", sig := { parameters := [(.object "java/lang/String"), .int, .long, .int, (.array .long)], returnType := some .boolean }, accessFlags := 10, code := some k1c3 }
def k1c4 : Code := { maxStack := 4, maxLocals := 8, code := method_5_code, exceptionTable := #[], attributes := #[] }
def k1m4 : Method := { name := "d", desc := "(Ljava/lang/String;IJI[JI)Z", sig := { parameters := [(.object "java/lang/String"), .int, .long, .int, (.array .long), .int], returnType := some .boolean }, accessFlags := 10, code := some k1c4 }
/-- com/example/kwhat/kwhat/ProRataToStringPinLaw -/
def k1 : Class := { plain "com/example/kwhat/kwhat/ProRataToStringPinLaw" (some 0) with
  accessFlags := 49
  interfaces := #[]
  cf := some (fileOf pool1 53 #[] #[{ accessFlags := 1, nameIndex := 5, descriptorIndex := 6, attributes := #[] }, { accessFlags := 9, nameIndex := 84, descriptorIndex := 85, attributes := #[] }, { accessFlags := 10, nameIndex := 56, descriptorIndex := 57, attributes := #[] }, { accessFlags := 10, nameIndex := 70, descriptorIndex := 71, attributes := #[] }, { accessFlags := 10, nameIndex := 74, descriptorIndex := 75, attributes := #[] }] 49 2 #[] #[])
  fields := #[]
  methods := #[k1m0, k1m1, k1m2, k1m3, k1m4]
  instanceTypes := #[]
  staticTypes := #[]
  resolved := Array.replicate 91 none
  statics := none }

def pool2 : Array CpInfo := pool [(1, .methodref 2 3), (0, .class_ 4), (0, .nameAndType 5 6), (0, u "java/lang/Object"), (0, u "<init>"), (0, u "()V"), (0, .fieldref 8 9), (0, .class_ 10), (0, .nameAndType 11 12), (0, u "com/example/kwhat/kwhat/ProRata"), (0, u "days"), (0, u "J"), (0, .fieldref 8 14), (0, .nameAndType 15 16), (0, u "monthDays"), (0, u "I"), (2, u "ROUNDING"), (0, u "Ljava/math/RoundingMode;"), (22, u "MOST_KWH"), (0, u "Ljava/math/BigDecimal;"), (12, .class_ 58), (0, u "java/lang/StringBuilder"), (0, .methodref 57 3), (0, .methodref 57 61), (0, .nameAndType 62 63), (0, u "append"), (0, u "(J)Ljava/lang/StringBuilder;"), (0, .string 65), (0, u "/"), (0, .methodref 57 67), (0, .nameAndType 62 68), (0, u "(Ljava/lang/String;)Ljava/lang/StringBuilder;"), (0, .methodref 57 70), (0, .nameAndType 62 71), (0, u "(I)Ljava/lang/StringBuilder;"), (0, .methodref 57 73), (0, .nameAndType 74 75), (0, u "toString"), (0, u "()Ljava/lang/String;"), (5, u "(JI)V")] 11

def k2c0 : Code := { maxStack := 3, maxLocals := 4, code := prog_19_method_1_code, exceptionTable := #[], attributes := #[] }
def k2m0 : Method := { name := "<init>", desc := "(JI)V", sig := { parameters := [.long, .int], returnType := none }, accessFlags := 0, code := some k2c0 }
def k2c1 : Code := { maxStack := 3, maxLocals := 1, code := prog_19_method_6_code, exceptionTable := #[], attributes := #[] }
def k2m1 : Method := { name := "toString", desc := "()Ljava/lang/String;", sig := { parameters := [], returnType := some (.object "java/lang/String") }, accessFlags := 1, code := some k2c1 }
/-- com/example/kwhat/kwhat/ProRata -/
def k2 : Class := { plain "com/example/kwhat/kwhat/ProRata" (some 0) with
  accessFlags := 49
  interfaces := #[]
  cf := some (fileOf pool2 8 #[] #[{ accessFlags := 0, nameIndex := 5, descriptorIndex := 81, attributes := #[] }, { accessFlags := 1, nameIndex := 74, descriptorIndex := 75, attributes := #[] }] 49 2 #[] #[{ accessFlags := 26, nameIndex := 19, descriptorIndex := 20, attributes := #[] }, { accessFlags := 26, nameIndex := 43, descriptorIndex := 44, attributes := #[] }, { accessFlags := 18, nameIndex := 11, descriptorIndex := 12, attributes := #[] }, { accessFlags := 18, nameIndex := 15, descriptorIndex := 16, attributes := #[] }])
  fields := #[{ name := "ROUNDING", type := (.object "java/math/RoundingMode"), accessFlags := 26, slot := 0, constantValue := 0 }, { name := "MOST_KWH", type := (.object "java/math/BigDecimal"), accessFlags := 26, slot := 1, constantValue := 0 }, { name := "days", type := .long, accessFlags := 18, slot := 0, constantValue := 0 }, { name := "monthDays", type := .int, accessFlags := 18, slot := 1, constantValue := 0 }]
  methods := #[k2m0, k2m1]
  instanceTypes := #[.long, .int]
  staticTypes := #[(.object "java/math/RoundingMode"), (.object "java/math/BigDecimal")]
  resolved := Array.replicate 93 none
  statics := none }

def pool3 : Array CpInfo := pool [(1, .class_ 2), (0, u "java/lang/Appendable"), (0, .class_ 4), (0, u "java/lang/Object")] 9

/-- java/lang/Appendable -/
def k3 : Class := { plain "java/lang/Appendable" (some 0) with
  accessFlags := 1537
  interfaces := #[]
  cf := some (fileOf pool3 1 #[] #[] 1537 3 #[] #[])
  fields := #[]
  methods := #[]
  instanceTypes := #[]
  staticTypes := #[]
  resolved := Array.replicate 14 none
  statics := none }

def pool4 : Array CpInfo := pool [(2, .class_ 4), (1, u "java/lang/CharSequence"), (42, .class_ 48), (0, u "java/lang/CharSequence$1CodePointIterator"), (10, .class_ 60), (0, u "java/lang/CharSequence$1CharIterator"), (5, .class_ 67), (0, u "java/lang/Object")] 63

/-- java/lang/CharSequence -/
def k4 : Class := { plain "java/lang/CharSequence" (some 0) with
  accessFlags := 1537
  interfaces := #[]
  cf := some (fileOf pool4 2 #[.nestMembers #[47, 59]] #[] 1537 66 #[] #[])
  fields := #[]
  methods := #[]
  instanceTypes := #[]
  staticTypes := #[]
  resolved := Array.replicate 131 none
  statics := none }

def pool5 : Array CpInfo := pool [(1, .class_ 2), (0, u "java/lang/String"), (0, .methodref 4 5), (0, .class_ 6), (0, .nameAndType 7 8), (0, u "java/lang/Object"), (0, u "<init>"), (0, u "()V"), (1, .class_ 12), (1, u "java/lang/AbstractStringBuilder"), (0, u "EMPTYVALUE"), (0, u "[B"), (0, .fieldref 10 16), (0, .nameAndType 17 14), (0, u "value"), (0, .fieldref 1 19), (0, .nameAndType 20 21), (0, u "COMPACT_STRINGS"), (0, u "Z"), (0, .fieldref 10 23), (0, .nameAndType 24 25), (0, u "coder"), (0, u "B"), (6, .methodref 1 33), (0, .nameAndType 34 35), (0, u "length"), (0, u "()I"), (0, .class_ 37), (0, u "java/lang/Integer"), (1, .integer 2147483647), (0, .methodref 1 41), (0, .nameAndType 24 42), (0, u "()B"), (2, u "append"), (0, u "(Ljava/lang/String;)Ljava/lang/AbstractStringBuilder;"), (1, .class_ 49), (0, u "java/lang/CharSequence"), (19, u "(Ljava/lang/String;)V"), (5, u "maybeLatin1"), (3, .fieldref 10 80), (0, .nameAndType 81 82), (0, u "count"), (0, u "I"), (0, .methodref 10 84), (0, .nameAndType 85 86), (0, u "isLatin1"), (0, u "()Z"), (13, .methodref 10 101), (0, .nameAndType 102 103), (0, u "ensureCapacityInternal"), (0, u "(I)V"), (0, .methodref 10 105), (0, .nameAndType 106 107), (0, u "newCapacity"), (0, u "(I)I"), (0, .methodref 109 110), (0, .class_ 111), (0, .nameAndType 112 113), (0, u "java/util/Arrays"), (0, u "copyOf"), (0, u "([BI)[B"), (0, .methodref 115 116), (0, .class_ 117), (0, .nameAndType 118 119), (0, u "jdk/internal/util/ArraysSupport"), (0, u "newLength"), (0, u "(III)I"), (68, u "getChars"), (19, .methodref 10 209), (0, .nameAndType 210 211), (0, u "putStringAt"), (0, u "(ILjava/lang/String;)V"), (5, u "inflateIfNeededFor"), (2, .nameAndType 221 222), (0, u "getBytes"), (0, u "([BIB)V"), (22, .methodref 36 246), (0, .nameAndType 247 107), (0, u "stringSize"), (0, .methodref 36 249), (0, .nameAndType 188 250), (0, u "(II[B)I"), (3, .methodref 255 256), (0, .class_ 257), (0, .nameAndType 247 258), (0, u "java/lang/Long"), (0, u "(J)I"), (0, .methodref 255 260), (0, .nameAndType 188 261), (0, u "(JI[B)I"), (135, .methodref 10 398), (0, .nameAndType 217 69), (0, .methodref 1 220), (3, u "()[B"), (40, .class_ 445), (0, u "java/lang/Appendable"), (65, u "(I)Ljava/lang/AbstractStringBuilder;"), (1, u "(J)Ljava/lang/AbstractStringBuilder;"), (38, u "getValue")] 56

def k5m0 : Method := { name := "<init>", desc := "()V", sig := { parameters := [], returnType := none }, accessFlags := 0, code := none }
def k5c1 : Code := { maxStack := 2, maxLocals := 2, code := jdk_68_method_2_code, exceptionTable := #[], attributes := #[] }
def k5m1 : Method := { name := "<init>", desc := "(I)V", sig := { parameters := [.int], returnType := none }, accessFlags := 0, code := some k5c1 }
def k5c2 : Code := { maxStack := 1, maxLocals := 1, code := jdk_68_method_6_code, exceptionTable := #[], attributes := #[] }
def k5m2 : Method := { name := "length", desc := "()I", sig := { parameters := [], returnType := some .int }, accessFlags := 1, code := some k5c2 }
def k5c3 : Code := { maxStack := 4, maxLocals := 3, code := jdk_68_method_9_code, exceptionTable := #[], attributes := #[] }
def k5m3 : Method := { name := "ensureCapacityInternal", desc := "(I)V", sig := { parameters := [.int], returnType := none }, accessFlags := 2, code := some k5c3 }
def k5c4 : Code := { maxStack := 5, maxLocals := 6, code := jdk_68_method_10_code, exceptionTable := #[], attributes := #[] }
def k5m4 : Method := { name := "newCapacity", desc := "(I)I", sig := { parameters := [.int], returnType := some .int }, accessFlags := 2, code := some k5c4 }
def k5c5 : Code := { maxStack := 3, maxLocals := 3, code := jdk_68_method_22_code, exceptionTable := #[], attributes := #[] }
def k5m5 : Method := { name := "append", desc := "(Ljava/lang/String;)Ljava/lang/AbstractStringBuilder;", sig := { parameters := [(.object "java/lang/String")], returnType := some (.object "java/lang/AbstractStringBuilder") }, accessFlags := 1, code := some k5c5 }
def k5c6 : Code := { maxStack := 4, maxLocals := 4, code := jdk_68_method_32_code, exceptionTable := #[], attributes := #[] }
def k5m6 : Method := { name := "append", desc := "(I)Ljava/lang/AbstractStringBuilder;", sig := { parameters := [.int], returnType := some (.object "java/lang/AbstractStringBuilder") }, accessFlags := 1, code := some k5c6 }
def k5c7 : Code := { maxStack := 5, maxLocals := 5, code := jdk_68_method_33_code, exceptionTable := #[], attributes := #[] }
def k5m7 : Method := { name := "append", desc := "(J)Ljava/lang/AbstractStringBuilder;", sig := { parameters := [.long], returnType := some (.object "java/lang/AbstractStringBuilder") }, accessFlags := 1, code := some k5c7 }
def k5c8 : Code := { maxStack := 1, maxLocals := 1, code := jdk_68_method_64_code, exceptionTable := #[], attributes := #[] }
def k5m8 : Method := { name := "getValue", desc := "()[B", sig := { parameters := [], returnType := some (.array .byte) }, accessFlags := 16, code := some k5c8 }
def k5c9 : Code := { maxStack := 1, maxLocals := 1, code := jdk_68_method_68_code, exceptionTable := #[], attributes := #[] }
def k5m9 : Method := { name := "isLatin1", desc := "()Z", sig := { parameters := [], returnType := some .boolean }, accessFlags := 16, code := some k5c9 }
def k5c10 : Code := { maxStack := 2, maxLocals := 2, code := jdk_68_method_71_code, exceptionTable := #[], attributes := #[] }
def k5m10 : Method := { name := "inflateIfNeededFor", desc := "(Ljava/lang/String;)V", sig := { parameters := [(.object "java/lang/String")], returnType := none }, accessFlags := 2, code := some k5c10 }
def k5c11 : Code := { maxStack := 4, maxLocals := 3, code := jdk_68_method_73_code, exceptionTable := #[], attributes := #[] }
def k5m11 : Method := { name := "putStringAt", desc := "(ILjava/lang/String;)V", sig := { parameters := [.int, (.object "java/lang/String")], returnType := none }, accessFlags := 2, code := some k5c11 }
/-- java/lang/AbstractStringBuilder -/
def k5 : Class := { plain "java/lang/AbstractStringBuilder" (some 0) with
  accessFlags := 1056
  interfaces := #[3, 4]
  cf := some (fileOf pool5 10 #[] #[{ accessFlags := 0, nameIndex := 7, descriptorIndex := 8, attributes := #[] }, { accessFlags := 0, nameIndex := 7, descriptorIndex := 103, attributes := #[] }, { accessFlags := 1, nameIndex := 34, descriptorIndex := 35, attributes := #[] }, { accessFlags := 2, nameIndex := 102, descriptorIndex := 103, attributes := #[] }, { accessFlags := 2, nameIndex := 106, descriptorIndex := 107, attributes := #[] }, { accessFlags := 1, nameIndex := 45, descriptorIndex := 46, attributes := #[] }, { accessFlags := 1, nameIndex := 45, descriptorIndex := 511, attributes := #[] }, { accessFlags := 1, nameIndex := 45, descriptorIndex := 513, attributes := #[] }, { accessFlags := 16, nameIndex := 552, descriptorIndex := 403, attributes := #[] }, { accessFlags := 16, nameIndex := 85, descriptorIndex := 86, attributes := #[] }, { accessFlags := 2, nameIndex := 217, descriptorIndex := 69, attributes := #[] }, { accessFlags := 2, nameIndex := 210, descriptorIndex := 211, attributes := #[] }] 1056 4 #[444, 48] #[{ accessFlags := 0, nameIndex := 17, descriptorIndex := 14, attributes := #[] }, { accessFlags := 0, nameIndex := 24, descriptorIndex := 25, attributes := #[] }, { accessFlags := 0, nameIndex := 75, descriptorIndex := 21, attributes := #[] }, { accessFlags := 0, nameIndex := 81, descriptorIndex := 82, attributes := #[] }, { accessFlags := 26, nameIndex := 13, descriptorIndex := 14, attributes := #[] }])
  fields := #[{ name := "value", type := (.array .byte), accessFlags := 0, slot := 0, constantValue := 0 }, { name := "coder", type := .byte, accessFlags := 0, slot := 1, constantValue := 0 }, { name := "maybeLatin1", type := .boolean, accessFlags := 0, slot := 2, constantValue := 0 }, { name := "count", type := .int, accessFlags := 0, slot := 3, constantValue := 0 }, { name := "EMPTYVALUE", type := (.array .byte), accessFlags := 26, slot := 0, constantValue := 0 }]
  methods := #[k5m0, k5m1, k5m2, k5m3, k5m4, k5m5, k5m6, k5m7, k5m8, k5m9, k5m10, k5m11]
  instanceTypes := #[(.array .byte), .byte, .boolean, .int]
  staticTypes := #[(.array .byte)]
  resolved := Array.replicate 609 none
  statics := none }

def pool6 : Array CpInfo := pool [(1, .class_ 2), (0, u "java/io/Serializable"), (0, .class_ 4), (0, u "java/lang/Object")] 2

/-- java/io/Serializable -/
def k6 : Class := { plain "java/io/Serializable" (some 0) with
  accessFlags := 1537
  interfaces := #[]
  cf := some (fileOf pool6 1 #[] #[] 1537 3 #[] #[])
  fields := #[]
  methods := #[]
  instanceTypes := #[]
  staticTypes := #[]
  resolved := Array.replicate 7 none
  statics := none }

def pool7 : Array CpInfo := pool [(1, .class_ 2), (0, u "java/lang/Comparable"), (0, .class_ 4), (0, u "java/lang/Object")] 7

/-- java/lang/Comparable -/
def k7 : Class := { plain "java/lang/Comparable" (some 0) with
  accessFlags := 1537
  interfaces := #[]
  cf := some (fileOf pool7 1 #[] #[] 1537 3 #[] #[])
  fields := #[]
  methods := #[]
  instanceTypes := #[]
  staticTypes := #[]
  resolved := Array.replicate 12 none
  statics := none }

def pool8 : Array CpInfo := pool [(1, .methodref 2 3), (0, .class_ 4), (0, .nameAndType 5 6), (0, u "java/lang/AbstractStringBuilder"), (0, u "<init>"), (0, u "(I)V"), (11, .class_ 20), (1, u "java/lang/String"), (3, .class_ 26), (1, u "java/lang/StringBuilder"), (0, u "append"), (0, u "(Ljava/lang/String;)Ljava/lang/StringBuilder;"), (0, .methodref 2 30), (0, .nameAndType 27 31), (0, u "(Ljava/lang/String;)Ljava/lang/AbstractStringBuilder;"), (21, .methodref 2 54), (0, .nameAndType 27 55), (0, u "(I)Ljava/lang/AbstractStringBuilder;"), (0, .methodref 2 57), (0, .nameAndType 27 58), (0, u "(J)Ljava/lang/AbstractStringBuilder;"), (78, .methodref 18 138), (0, .nameAndType 5 139), (0, u "(Ljava/lang/StringBuilder;)V"), (5, u "()V"), (10, u "()I"), (111, u "(I)Ljava/lang/StringBuilder;"), (12, u "(J)Ljava/lang/StringBuilder;"), (61, .methodref 2 344), (0, .nameAndType 345 156), (0, u "length"), (3, .class_ 350), (0, u "java/lang/Appendable"), (0, .class_ 352), (0, u "java/io/Serializable"), (0, .class_ 354), (0, u "java/lang/Comparable"), (0, .class_ 356), (0, u "java/lang/CharSequence"), (0, u "serialVersionUID"), (0, u "J"), (40, u "toString"), (0, u "()Ljava/lang/String;")] 21

def k8c0 : Code := { maxStack := 2, maxLocals := 1, code := jdk_67_method_1_code, exceptionTable := #[], attributes := #[] }
def k8m0 : Method := { name := "<init>", desc := "()V", sig := { parameters := [], returnType := none }, accessFlags := 1, code := some k8c0 }
def k8c1 : Code := { maxStack := 2, maxLocals := 2, code := jdk_67_method_7_code, exceptionTable := #[], attributes := #[] }
def k8m1 : Method := { name := "append", desc := "(Ljava/lang/String;)Ljava/lang/StringBuilder;", sig := { parameters := [(.object "java/lang/String")], returnType := some (.object "java/lang/StringBuilder") }, accessFlags := 1, code := some k8c1 }
def k8c2 : Code := { maxStack := 2, maxLocals := 2, code := jdk_67_method_15_code, exceptionTable := #[], attributes := #[] }
def k8m2 : Method := { name := "append", desc := "(I)Ljava/lang/StringBuilder;", sig := { parameters := [.int], returnType := some (.object "java/lang/StringBuilder") }, accessFlags := 1, code := some k8c2 }
def k8c3 : Code := { maxStack := 3, maxLocals := 3, code := jdk_67_method_16_code, exceptionTable := #[], attributes := #[] }
def k8m3 : Method := { name := "append", desc := "(J)Ljava/lang/StringBuilder;", sig := { parameters := [.long], returnType := some (.object "java/lang/StringBuilder") }, accessFlags := 1, code := some k8c3 }
def k8c4 : Code := { maxStack := 3, maxLocals := 1, code := jdk_67_method_42_code, exceptionTable := #[], attributes := #[] }
def k8m4 : Method := { name := "toString", desc := "()Ljava/lang/String;", sig := { parameters := [], returnType := some (.object "java/lang/String") }, accessFlags := 1, code := some k8c4 }
def k8c5 : Code := { maxStack := 1, maxLocals := 1, code := jdk_67_method_93_code, exceptionTable := #[], attributes := #[] }
def k8m5 : Method := { name := "length", desc := "()I", sig := { parameters := [], returnType := some .int }, accessFlags := 4161, code := some k8c5 }
/-- java/lang/StringBuilder -/
def k8 : Class := { plain "java/lang/StringBuilder" (some 5) with
  accessFlags := 49
  interfaces := #[3, 6, 7, 4]
  cf := some (fileOf pool8 24 #[] #[{ accessFlags := 1, nameIndex := 5, descriptorIndex := 145, attributes := #[] }, { accessFlags := 1, nameIndex := 27, descriptorIndex := 28, attributes := #[] }, { accessFlags := 1, nameIndex := 27, descriptorIndex := 268, attributes := #[] }, { accessFlags := 1, nameIndex := 27, descriptorIndex := 281, attributes := #[] }, { accessFlags := 1, nameIndex := 399, descriptorIndex := 400, attributes := #[] }, { accessFlags := 4161, nameIndex := 345, descriptorIndex := 156, attributes := #[] }] 49 2 #[349, 351, 353, 355] #[{ accessFlags := 24, nameIndex := 357, descriptorIndex := 358, attributes := #[] }])
  fields := #[{ name := "serialVersionUID", type := .long, accessFlags := 24, slot := 0, constantValue := 0 }]
  methods := #[k8m0, k8m1, k8m2, k8m3, k8m4, k8m5]
  instanceTypes := #[(.array .byte), .byte, .boolean, .int]
  staticTypes := #[.long]
  resolved := Array.replicate 422 none
  statics := none }

def pool9 : Array CpInfo := pool [(1, .class_ 2), (0, u "java/lang/constant/Constable"), (0, .class_ 4), (0, u "java/lang/Object")] 6

/-- java/lang/constant/Constable -/
def k9 : Class := { plain "java/lang/constant/Constable" (some 0) with
  accessFlags := 1537
  interfaces := #[]
  cf := some (fileOf pool9 1 #[] #[] 1537 3 #[] #[])
  fields := #[]
  methods := #[]
  instanceTypes := #[]
  staticTypes := #[]
  resolved := Array.replicate 11 none
  statics := none }

def pool10 : Array CpInfo := pool [(1, .class_ 2), (0, u "java/lang/constant/ConstantDesc"), (0, .class_ 4), (0, u "java/lang/Object")] 32

/-- java/lang/constant/ConstantDesc -/
def k10 : Class := { plain "java/lang/constant/ConstantDesc" (some 0) with
  accessFlags := 1537
  interfaces := #[]
  cf := some (fileOf pool10 1 #[] #[] 1537 3 #[] #[])
  fields := #[]
  methods := #[]
  instanceTypes := #[]
  staticTypes := #[]
  resolved := Array.replicate 37 none
  statics := none }

def pool11 : Array CpInfo := pool [(1, .methodref 2 3), (0, .class_ 4), (0, .nameAndType 5 6), (0, u "java/lang/Object"), (0, u "<init>"), (0, u "()V"), (2, .fieldref 10 11), (0, .class_ 12), (0, .nameAndType 13 14), (0, u "java/lang/String"), (0, u "value"), (0, u "[B"), (0, .fieldref 10 16), (0, .nameAndType 17 18), (0, u "coder"), (0, u "B"), (2, u "hash"), (0, u "I"), (2, u "hashIsZero"), (0, u "Z"), (11, .fieldref 10 39), (0, .nameAndType 40 26), (0, u "COMPACT_STRINGS"), (13, .methodref 55 56), (0, .class_ 57), (0, .nameAndType 58 59), (0, u "java/util/Arrays"), (0, u "copyOfRange"), (0, u "([BII)[B"), (47, .class_ 109), (1, u "java/lang/StringLatin1"), (32, u "()Z"), (50, .class_ 195), (1, u "java/lang/System"), (16, .methodref 193 213), (0, .nameAndType 214 215), (0, u "arraycopy"), (0, u "(Ljava/lang/Object;ILjava/lang/Object;II)V"), (118, u "()I"), (0, .methodref 10 336), (0, .nameAndType 17 337), (0, u "()B"), (2, u "()[B"), (22, u "([BI)C"), (27, u "(II)V"), (35, u "(I)C"), (61, .methodref 10 490), (0, .nameAndType 5 491), (0, u "(Ljava/lang/AbstractStringBuilder;Ljava/lang/Void;)V"), (0, .methodref 10 493), (0, .nameAndType 494 142), (0, u "isLatin1"), (0, .methodref 107 496), (0, .nameAndType 497 363), (0, u "charAt"), (3, u "checkIndex"), (4, .nameAndType 507 334), (0, u "length"), (24, u "getBytes"), (16, .methodref 550 506), (0, .class_ 551), (0, u "java/lang/AbstractStringBuilder"), (0, .methodref 550 553), (0, .nameAndType 554 340), (0, u "getValue"), (20, .class_ 576), (0, u "java/lang/CharSequence"), (22, u "CASE_INSENSITIVE_ORDER"), (0, u "Ljava/util/Comparator;"), (220, u "([BIB)V"), (225, .methodref 550 493), (5, .fieldref 1054 1055), (0, .class_ 1056), (0, .nameAndType 1057 1058), (0, u "jdk/internal/util/Preconditions"), (0, u "SIOOBE_FORMATTER"), (0, u "Ljava/util/function/BiFunction;"), (0, .methodref 1054 1060), (0, .nameAndType 501 1061), (0, u "(IILjava/util/function/BiFunction;)I"), (39, u "serialPersistentFields"), (0, u "[Ljava/io/ObjectStreamField;"), (0, .class_ 1104), (0, u "java/lang/String$CaseInsensitiveComparator"), (1, .class_ 1107), (0, u "java/io/Serializable"), (0, .class_ 1109), (0, u "java/lang/Comparable"), (0, .class_ 1111), (0, u "java/lang/constant/Constable"), (0, .class_ 1113), (0, u "java/lang/constant/ConstantDesc"), (2, u "serialVersionUID"), (0, u "J"), (3, u "REPL"), (0, u "C"), (2, u "LATIN1"), (1, u "UTF16"), (105, u "(Ljava/lang/StringBuilder;)V")] 217

def k11m0 : Method := { name := "<init>", desc := "()V", sig := { parameters := [], returnType := none }, accessFlags := 1, code := none }
def k11c1 : Code := { maxStack := 3, maxLocals := 2, code := jdk_42_method_53_code, exceptionTable := #[], attributes := #[] }
def k11m1 : Method := { name := "<init>", desc := "(Ljava/lang/StringBuilder;)V", sig := { parameters := [(.object "java/lang/StringBuilder")], returnType := none }, accessFlags := 1, code := some k11c1 }
def k11c2 : Code := { maxStack := 2, maxLocals := 1, code := jdk_42_method_54_code, exceptionTable := #[], attributes := #[] }
def k11m2 : Method := { name := "length", desc := "()I", sig := { parameters := [], returnType := some .int }, accessFlags := 1, code := some k11c2 }
def k11c3 : Code := { maxStack := 2, maxLocals := 2, code := jdk_42_method_56_code, exceptionTable := #[], attributes := #[] }
def k11m3 : Method := { name := "charAt", desc := "(I)C", sig := { parameters := [.int], returnType := some .char }, accessFlags := 1, code := some k11c3 }
def k11c4 : Code := { maxStack := 5, maxLocals := 4, code := jdk_42_method_147_code, exceptionTable := #[], attributes := #[] }
def k11m4 : Method := { name := "getBytes", desc := "([BIB)V", sig := { parameters := [(.array .byte), .int, .byte], returnType := none }, accessFlags := 0, code := some k11c4 }
def k11c5 : Code := { maxStack := 5, maxLocals := 5, code := jdk_42_method_150_code, exceptionTable := #[], attributes := #[] }
def k11m5 : Method := { name := "<init>", desc := "(Ljava/lang/AbstractStringBuilder;Ljava/lang/Void;)V", sig := { parameters := [(.object "java/lang/AbstractStringBuilder"), (.object "java/lang/Void")], returnType := none }, accessFlags := 0, code := some k11c5 }
def k11c6 : Code := { maxStack := 1, maxLocals := 1, code := jdk_42_method_152_code, exceptionTable := #[], attributes := #[] }
def k11m6 : Method := { name := "coder", desc := "()B", sig := { parameters := [], returnType := some .byte }, accessFlags := 0, code := some k11c6 }
def k11c7 : Code := { maxStack := 1, maxLocals := 1, code := jdk_42_method_154_code, exceptionTable := #[], attributes := #[] }
def k11m7 : Method := { name := "isLatin1", desc := "()Z", sig := { parameters := [], returnType := some .boolean }, accessFlags := 0, code := some k11c7 }
def k11c8 : Code := { maxStack := 3, maxLocals := 2, code := jdk_42_method_155_code, exceptionTable := #[], attributes := #[] }
def k11m8 : Method := { name := "checkIndex", desc := "(II)V", sig := { parameters := [.int, .int], returnType := none }, accessFlags := 8, code := some k11c8 }
/-- java/lang/String -/
def k11 : Class := { plain "java/lang/String" (some 0) with
  accessFlags := 49
  interfaces := #[6, 7, 4, 9, 10]
  cf := some (fileOf pool11 10 #[.nestMembers #[1103]] #[{ accessFlags := 1, nameIndex := 5, descriptorIndex := 6, attributes := #[] }, { accessFlags := 1, nameIndex := 5, descriptorIndex := 1233, attributes := #[] }, { accessFlags := 1, nameIndex := 507, descriptorIndex := 334, attributes := #[] }, { accessFlags := 1, nameIndex := 497, descriptorIndex := 427, attributes := #[] }, { accessFlags := 0, nameIndex := 532, descriptorIndex := 821, attributes := #[] }, { accessFlags := 0, nameIndex := 5, descriptorIndex := 491, attributes := #[] }, { accessFlags := 0, nameIndex := 17, descriptorIndex := 337, attributes := #[] }, { accessFlags := 0, nameIndex := 494, descriptorIndex := 142, attributes := #[] }, { accessFlags := 8, nameIndex := 501, descriptorIndex := 391, attributes := #[] }] 49 2 #[1106, 1108, 575, 1110, 1112] #[{ accessFlags := 18, nameIndex := 13, descriptorIndex := 14, attributes := #[] }, { accessFlags := 18, nameIndex := 17, descriptorIndex := 18, attributes := #[] }, { accessFlags := 2, nameIndex := 21, descriptorIndex := 22, attributes := #[] }, { accessFlags := 2, nameIndex := 25, descriptorIndex := 26, attributes := #[] }, { accessFlags := 26, nameIndex := 1116, descriptorIndex := 1117, attributes := #[] }, { accessFlags := 24, nameIndex := 40, descriptorIndex := 26, attributes := #[] }, { accessFlags := 26, nameIndex := 1101, descriptorIndex := 1102, attributes := #[] }, { accessFlags := 26, nameIndex := 1121, descriptorIndex := 1122, attributes := #[] }, { accessFlags := 25, nameIndex := 599, descriptorIndex := 600, attributes := #[] }, { accessFlags := 24, nameIndex := 1125, descriptorIndex := 18, attributes := #[] }, { accessFlags := 24, nameIndex := 1127, descriptorIndex := 18, attributes := #[] }])
  fields := #[{ name := "value", type := (.array .byte), accessFlags := 18, slot := 0, constantValue := 0 }, { name := "coder", type := .byte, accessFlags := 18, slot := 1, constantValue := 0 }, { name := "hash", type := .int, accessFlags := 2, slot := 2, constantValue := 0 }, { name := "hashIsZero", type := .boolean, accessFlags := 2, slot := 3, constantValue := 0 }, { name := "serialVersionUID", type := .long, accessFlags := 26, slot := 0, constantValue := 0 }, { name := "COMPACT_STRINGS", type := .boolean, accessFlags := 24, slot := 1, constantValue := 0 }, { name := "serialPersistentFields", type := (.array (.object "java/io/ObjectStreamField")), accessFlags := 26, slot := 2, constantValue := 0 }, { name := "REPL", type := .char, accessFlags := 26, slot := 3, constantValue := 0 }, { name := "CASE_INSENSITIVE_ORDER", type := (.object "java/util/Comparator"), accessFlags := 25, slot := 4, constantValue := 0 }, { name := "LATIN1", type := .byte, accessFlags := 24, slot := 5, constantValue := 0 }, { name := "UTF16", type := .byte, accessFlags := 24, slot := 6, constantValue := 0 }]
  methods := #[k11m0, k11m1, k11m2, k11m3, k11m4, k11m5, k11m6, k11m7, k11m8]
  instanceTypes := #[(.array .byte), .byte, .int, .boolean]
  staticTypes := #[.long, .boolean, (.array (.object "java/io/ObjectStreamField")), .char, (.object "java/util/Comparator"), .byte, .byte]
  resolved := Array.replicate 1451 none
  statics := some 0 }

def pool12 : Array CpInfo := pool [(2, .class_ 4), (1, u "java/lang/Object"), (0, u "<init>"), (0, u "()V"), (1, .class_ 10), (1, u "java/lang/Number"), (2, .class_ 14), (0, u "java/io/Serializable"), (0, u "serialVersionUID"), (0, u "J")] 20

def k12m0 : Method := { name := "<init>", desc := "()V", sig := { parameters := [], returnType := none }, accessFlags := 1, code := none }
/-- java/lang/Number -/
def k12 : Class := { plain "java/lang/Number" (some 0) with
  accessFlags := 1057
  interfaces := #[6]
  cf := some (fileOf pool12 8 #[] #[{ accessFlags := 1, nameIndex := 5, descriptorIndex := 6, attributes := #[] }] 1057 2 #[13] #[{ accessFlags := 26, nameIndex := 15, descriptorIndex := 16, attributes := #[] }])
  fields := #[{ name := "serialVersionUID", type := .long, accessFlags := 26, slot := 0, constantValue := 0 }]
  methods := #[k12m0]
  instanceTypes := #[]
  staticTypes := #[.long]
  resolved := Array.replicate 37 none
  statics := none }

def pool13 : Array CpInfo := pool [(1, .class_ 2), (0, u "java/lang/Long"), (15, .class_ 20), (1, u "java/lang/Integer"), (32, .long 10), (47, u "(J)I"), (18, u "stringSize"), (2, u "getChars"), (0, u "(JI[B)I"), (4, .long 18446744071562067968), (1, .long 100), (1, .fieldref 18 134), (0, .nameAndType 135 136), (0, u "DigitOnes"), (0, u "[B"), (0, .fieldref 18 138), (0, .nameAndType 139 136), (0, u "DigitTens"), (0, .long 18446744073709551606), (94, .class_ 237), (1, u "java/lang/Long$LongCache"), (33, .class_ 272), (0, u "java/lang/Number"), (2, u "value"), (0, u "J"), (84, u "TYPE"), (0, u "Ljava/lang/Class;"), (0, .class_ 364), (0, u "java/lang/Comparable"), (0, .class_ 366), (0, u "java/lang/constant/Constable"), (0, .class_ 368), (0, u "java/lang/constant/ConstantDesc"), (0, u "MIN_VALUE"), (1, u "MAX_VALUE"), (4, u "SIZE"), (0, u "I"), (1, u "BYTES"), (1, u "serialVersionUID")] 142

def k13c0 : Code := { maxStack := 4, maxLocals := 11, code := jdk_35_method_14_code, exceptionTable := #[], attributes := #[] }
def k13m0 : Method := { name := "getChars", desc := "(JI[B)I", sig := { parameters := [.long, .int, (.array .byte)], returnType := some .int }, accessFlags := 8, code := some k13c0 }
def k13c1 : Code := { maxStack := 4, maxLocals := 6, code := jdk_35_method_15_code, exceptionTable := #[], attributes := #[] }
def k13m1 : Method := { name := "stringSize", desc := "(J)I", sig := { parameters := [.long], returnType := some .int }, accessFlags := 8, code := some k13c1 }
/-- java/lang/Long -/
def k13 : Class := { plain "java/lang/Long" (some 12) with
  accessFlags := 49
  interfaces := #[7, 9, 10]
  cf := some (fileOf pool13 1 #[.nestMembers #[235]] #[{ accessFlags := 8, nameIndex := 123, descriptorIndex := 124, attributes := #[] }, { accessFlags := 8, nameIndex := 120, descriptorIndex := 101, attributes := #[] }] 49 271 #[363, 365, 367] #[{ accessFlags := 25, nameIndex := 369, descriptorIndex := 276, attributes := #[] }, { accessFlags := 25, nameIndex := 371, descriptorIndex := 276, attributes := #[] }, { accessFlags := 25, nameIndex := 361, descriptorIndex := 362, attributes := #[] }, { accessFlags := 18, nameIndex := 275, descriptorIndex := 276, attributes := #[] }, { accessFlags := 25, nameIndex := 376, descriptorIndex := 377, attributes := #[] }, { accessFlags := 25, nameIndex := 379, descriptorIndex := 377, attributes := #[] }, { accessFlags := 26, nameIndex := 381, descriptorIndex := 276, attributes := #[] }])
  fields := #[{ name := "MIN_VALUE", type := .long, accessFlags := 25, slot := 0, constantValue := 0 }, { name := "MAX_VALUE", type := .long, accessFlags := 25, slot := 1, constantValue := 0 }, { name := "TYPE", type := (.object "java/lang/Class"), accessFlags := 25, slot := 2, constantValue := 0 }, { name := "value", type := .long, accessFlags := 18, slot := 0, constantValue := 0 }, { name := "SIZE", type := .int, accessFlags := 25, slot := 3, constantValue := 0 }, { name := "BYTES", type := .int, accessFlags := 25, slot := 4, constantValue := 0 }, { name := "serialVersionUID", type := .long, accessFlags := 26, slot := 5, constantValue := 0 }]
  methods := #[k13m0, k13m1]
  instanceTypes := #[.long]
  staticTypes := #[.long, .long, (.object "java/lang/Class"), .int, .int, .long]
  resolved := Array.replicate 524 none
  statics := none }

def pool14 : Array CpInfo := pool [(1, .class_ 2), (0, u "java/lang/Integer"), (16, u "digits"), (0, u "[C"), (33, u "(I)I"), (19, u "stringSize"), (2, u "getChars"), (0, u "(II[B)I"), (4, .fieldref 1 84), (0, .nameAndType 85 86), (0, u "DigitOnes"), (0, u "[B"), (0, .fieldref 1 88), (0, .nameAndType 89 86), (0, u "DigitTens"), (99, .class_ 190), (0, u "java/lang/Integer$IntegerCache"), (3, u "I"), (8, .class_ 204), (0, u "java/lang/Number"), (2, u "value"), (94, u "TYPE"), (0, u "Ljava/lang/Class;"), (0, .class_ 305), (0, u "java/lang/Comparable"), (0, .class_ 307), (0, u "java/lang/constant/Constable"), (0, .class_ 309), (0, u "java/lang/constant/ConstantDesc"), (0, u "MIN_VALUE"), (1, u "MAX_VALUE"), (3, u "SIZE"), (1, u "BYTES"), (1, u "serialVersionUID"), (0, u "J")] 131

def k14c0 : Code := { maxStack := 4, maxLocals := 7, code := jdk_33_method_12_code, exceptionTable := #[], attributes := #[] }
def k14m0 : Method := { name := "getChars", desc := "(II[B)I", sig := { parameters := [.int, .int, (.array .byte)], returnType := some .int }, accessFlags := 8, code := some k14c0 }
def k14c1 : Code := { maxStack := 2, maxLocals := 4, code := jdk_33_method_13_code, exceptionTable := #[], attributes := #[] }
def k14m1 : Method := { name := "stringSize", desc := "(I)I", sig := { parameters := [.int], returnType := some .int }, accessFlags := 8, code := some k14c1 }
/-- java/lang/Integer -/
def k14 : Class := { plain "java/lang/Integer" (some 12) with
  accessFlags := 49
  interfaces := #[7, 9, 10]
  cf := some (fileOf pool14 1 #[.nestMembers #[189]] #[{ accessFlags := 8, nameIndex := 77, descriptorIndex := 78, attributes := #[] }, { accessFlags := 8, nameIndex := 74, descriptorIndex := 54, attributes := #[] }] 49 203 #[304, 306, 308] #[{ accessFlags := 25, nameIndex := 310, descriptorIndex := 194, attributes := #[] }, { accessFlags := 25, nameIndex := 312, descriptorIndex := 194, attributes := #[] }, { accessFlags := 25, nameIndex := 302, descriptorIndex := 303, attributes := #[] }, { accessFlags := 24, nameIndex := 19, descriptorIndex := 20, attributes := #[] }, { accessFlags := 24, nameIndex := 89, descriptorIndex := 86, attributes := #[] }, { accessFlags := 24, nameIndex := 85, descriptorIndex := 86, attributes := #[] }, { accessFlags := 18, nameIndex := 207, descriptorIndex := 194, attributes := #[] }, { accessFlags := 25, nameIndex := 316, descriptorIndex := 194, attributes := #[] }, { accessFlags := 25, nameIndex := 318, descriptorIndex := 194, attributes := #[] }, { accessFlags := 26, nameIndex := 320, descriptorIndex := 321, attributes := #[] }])
  fields := #[{ name := "MIN_VALUE", type := .int, accessFlags := 25, slot := 0, constantValue := 0 }, { name := "MAX_VALUE", type := .int, accessFlags := 25, slot := 1, constantValue := 0 }, { name := "TYPE", type := (.object "java/lang/Class"), accessFlags := 25, slot := 2, constantValue := 0 }, { name := "digits", type := (.array .char), accessFlags := 24, slot := 3, constantValue := 0 }, { name := "DigitTens", type := (.array .byte), accessFlags := 24, slot := 4, constantValue := 0 }, { name := "DigitOnes", type := (.array .byte), accessFlags := 24, slot := 5, constantValue := 0 }, { name := "value", type := .int, accessFlags := 18, slot := 0, constantValue := 0 }, { name := "SIZE", type := .int, accessFlags := 25, slot := 6, constantValue := 0 }, { name := "BYTES", type := .int, accessFlags := 25, slot := 7, constantValue := 0 }, { name := "serialVersionUID", type := .long, accessFlags := 26, slot := 8, constantValue := 0 }]
  methods := #[k14m0, k14m1]
  instanceTypes := #[.int]
  staticTypes := #[.int, .int, (.object "java/lang/Class"), (.array .char), (.array .byte), (.array .byte), .int, .int, .long]
  resolved := Array.replicate 453 none
  statics := some 1 }

def pool15 : Array CpInfo := pool [(2, .class_ 4), (1, u "java/lang/Object"), (0, u "<init>"), (0, u "()V"), (1, .class_ 10), (1, u "java/lang/System"), (0, u "allowSecurityManager"), (0, u "I"), (16, u "cons"), (0, u "Ljava/io/Console;"), (77, .class_ 110), (1, u "java/lang/System$CallersHolder"), (43, u "initialErrStream"), (0, u "Ljava/io/PrintStream;"), (19, u "security"), (0, u "Ljava/lang/SecurityManager;"), (31, .class_ 209), (0, u "java/lang/System$1"), (7, u "props"), (0, u "Ljava/util/Properties;"), (2, u "lineSeparator"), (0, u "Ljava/lang/String;"), (96, .class_ 321), (1, u "java/lang/System$LoggerFinder"), (5, .class_ 328), (0, u "java/lang/System$Logger"), (67, u "err"), (2, u "out"), (91, u "notSupportedJnuEncoding"), (15, u "in"), (17, u "initialIn"), (0, u "Ljava/io/InputStream;"), (35, u "bootLayer"), (0, u "Ljava/lang/ModuleLayer;"), (99, .class_ 664), (0, u "java/lang/System$2"), (9, u "NEVER"), (2, u "MAYBE"), (49, u "arraycopy"), (0, u "(Ljava/lang/Object;ILjava/lang/Object;II)V"), (72, .class_ 802), (0, u "java/lang/System$Logger$Level")] 31

def k15m0 : Method := { name := "<init>", desc := "()V", sig := { parameters := [], returnType := none }, accessFlags := 2, code := none }
def k15m1 : Method := { name := "arraycopy", desc := "(Ljava/lang/Object;ILjava/lang/Object;II)V", sig := { parameters := [(.object "java/lang/Object"), .int, (.object "java/lang/Object"), .int, .int], returnType := none }, accessFlags := 265, code := none }
/-- java/lang/System -/
def k15 : Class := { plain "java/lang/System" (some 0) with
  accessFlags := 49
  interfaces := #[]
  cf := some (fileOf pool15 8 #[.nestMembers #[319, 327, 801, 108, 663, 208]] #[{ accessFlags := 2, nameIndex := 5, descriptorIndex := 6, attributes := #[] }, { accessFlags := 265, nameIndex := 727, descriptorIndex := 728, attributes := #[] }] 49 2 #[] #[{ accessFlags := 25, nameIndex := 507, descriptorIndex := 526, attributes := #[] }, { accessFlags := 25, nameIndex := 399, descriptorIndex := 155, attributes := #[] }, { accessFlags := 25, nameIndex := 396, descriptorIndex := 155, attributes := #[] }, { accessFlags := 10, nameIndex := 525, descriptorIndex := 526, attributes := #[] }, { accessFlags := 26, nameIndex := 674, descriptorIndex := 12, attributes := #[] }, { accessFlags := 26, nameIndex := 677, descriptorIndex := 12, attributes := #[] }, { accessFlags := 10, nameIndex := 11, descriptorIndex := 12, attributes := #[] }, { accessFlags := 74, nameIndex := 175, descriptorIndex := 176, attributes := #[] }, { accessFlags := 10, nameIndex := 491, descriptorIndex := 222, attributes := #[] }, { accessFlags := 74, nameIndex := 29, descriptorIndex := 30, attributes := #[] }, { accessFlags := 74, nameIndex := 154, descriptorIndex := 155, attributes := #[] }, { accessFlags := 10, nameIndex := 217, descriptorIndex := 218, attributes := #[] }, { accessFlags := 10, nameIndex := 221, descriptorIndex := 222, attributes := #[] }, { accessFlags := 8, nameIndex := 562, descriptorIndex := 563, attributes := #[] }])
  fields := #[{ name := "in", type := (.object "java/io/InputStream"), accessFlags := 25, slot := 0, constantValue := 0 }, { name := "out", type := (.object "java/io/PrintStream"), accessFlags := 25, slot := 1, constantValue := 0 }, { name := "err", type := (.object "java/io/PrintStream"), accessFlags := 25, slot := 2, constantValue := 0 }, { name := "initialIn", type := (.object "java/io/InputStream"), accessFlags := 10, slot := 3, constantValue := 0 }, { name := "NEVER", type := .int, accessFlags := 26, slot := 4, constantValue := 0 }, { name := "MAYBE", type := .int, accessFlags := 26, slot := 5, constantValue := 0 }, { name := "allowSecurityManager", type := .int, accessFlags := 10, slot := 6, constantValue := 0 }, { name := "security", type := (.object "java/lang/SecurityManager"), accessFlags := 74, slot := 7, constantValue := 0 }, { name := "notSupportedJnuEncoding", type := (.object "java/lang/String"), accessFlags := 10, slot := 8, constantValue := 0 }, { name := "cons", type := (.object "java/io/Console"), accessFlags := 74, slot := 9, constantValue := 0 }, { name := "initialErrStream", type := (.object "java/io/PrintStream"), accessFlags := 74, slot := 10, constantValue := 0 }, { name := "props", type := (.object "java/util/Properties"), accessFlags := 10, slot := 11, constantValue := 0 }, { name := "lineSeparator", type := (.object "java/lang/String"), accessFlags := 10, slot := 12, constantValue := 0 }, { name := "bootLayer", type := (.object "java/lang/ModuleLayer"), accessFlags := 8, slot := 13, constantValue := 0 }]
  methods := #[k15m0, k15m1]
  instanceTypes := #[]
  staticTypes := #[(.object "java/io/InputStream"), (.object "java/io/PrintStream"), (.object "java/io/PrintStream"), (.object "java/io/InputStream"), .int, .int, .int, (.object "java/lang/SecurityManager"), (.object "java/lang/String"), (.object "java/io/Console"), (.object "java/io/PrintStream"), (.object "java/util/Properties"), (.object "java/lang/String"), (.object "java/lang/ModuleLayer")]
  resolved := Array.replicate 834 none
  statics := none }

def pool16 : Array CpInfo := pool [(2, .class_ 4), (1, u "java/lang/Object"), (0, u "<init>"), (0, u "()V"), (7, .class_ 16), (1, u "java/util/Arrays"), (57, .class_ 76), (1, u "java/util/Arrays$NaturalOrder"), (32, u "()Ljava/lang/Object;"), (3, .class_ 115), (1, u "java/util/Arrays$LegacyMergeSort"), (1, u "Z"), (10, .nameAndType 129 109), (0, u "clone"), (9, u "copyOfRange"), (10, .methodref 151 152), (0, .class_ 153), (0, .nameAndType 154 155), (0, u "java/lang/System"), (0, u "arraycopy"), (0, u "(Ljava/lang/Object;ILjava/lang/Object;II)V"), (146, u "copyOf"), (1, .methodref 305 306), (0, .class_ 307), (0, .nameAndType 308 309), (0, u "java/lang/Math"), (0, u "min"), (0, u "(II)I"), (0, .methodref 311 128), (0, .class_ 312), (0, u "[B"), (26, .methodref 14 340), (0, .nameAndType 341 342), (0, u "copyOfRangeByte"), (0, u "([BII)[B"), (0, .methodref 14 344), (0, .nameAndType 345 346), (0, u "checkLength"), (0, u "(II)V"), (28, .class_ 376), (0, u "java/util/Arrays$ArrayList"), (68, u "$assertionsDisabled"), (269, u "MIN_ARRAY_SORT_GRAN"), (0, u "I"), (2, u "INSERTIONSORT_THRESHOLD"), (149, u "([BI)[B"), (105, .class_ 976), (0, u "java/util/Arrays$ArrayItr")] 52

def k16m0 : Method := { name := "<init>", desc := "()V", sig := { parameters := [], returnType := none }, accessFlags := 2, code := none }
def k16c1 : Code := { maxStack := 6, maxLocals := 3, code := jdk_65_method_121_code, exceptionTable := #[], attributes := #[] }
def k16m1 : Method := { name := "copyOf", desc := "([BI)[B", sig := { parameters := [(.array .byte), .int], returnType := some (.array .byte) }, accessFlags := 9, code := some k16c1 }
def k16c2 : Code := { maxStack := 4, maxLocals := 2, code := jdk_65_method_131_code, exceptionTable := #[], attributes := #[] }
def k16m2 : Method := { name := "checkLength", desc := "(II)V", sig := { parameters := [.int, .int], returnType := none }, accessFlags := 10, code := some k16c2 }
def k16c3 : Code := { maxStack := 3, maxLocals := 3, code := jdk_65_method_132_code, exceptionTable := #[], attributes := #[] }
def k16m3 : Method := { name := "copyOfRange", desc := "([BII)[B", sig := { parameters := [(.array .byte), .int, .int], returnType := some (.array .byte) }, accessFlags := 9, code := some k16c3 }
def k16c4 : Code := { maxStack := 6, maxLocals := 5, code := jdk_65_method_133_code, exceptionTable := #[], attributes := #[] }
def k16m4 : Method := { name := "copyOfRangeByte", desc := "([BII)[B", sig := { parameters := [(.array .byte), .int, .int], returnType := some (.array .byte) }, accessFlags := 10, code := some k16c4 }
/-- java/util/Arrays -/
def k16 : Class := { plain "java/util/Arrays" (some 0) with
  accessFlags := 49
  interfaces := #[]
  cf := some (fileOf pool16 14 #[.nestMembers #[975, 375, 113, 74]] #[{ accessFlags := 2, nameIndex := 5, descriptorIndex := 6, attributes := #[] }, { accessFlags := 9, nameIndex := 302, descriptorIndex := 869, attributes := #[] }, { accessFlags := 10, nameIndex := 345, descriptorIndex := 346, attributes := #[] }, { accessFlags := 9, nameIndex := 139, descriptorIndex := 342, attributes := #[] }, { accessFlags := 10, nameIndex := 341, descriptorIndex := 342, attributes := #[] }] 49 2 #[] #[{ accessFlags := 26, nameIndex := 715, descriptorIndex := 716, attributes := #[] }, { accessFlags := 26, nameIndex := 719, descriptorIndex := 716, attributes := #[] }, { accessFlags := 4120, nameIndex := 445, descriptorIndex := 117, attributes := #[] }])
  fields := #[{ name := "MIN_ARRAY_SORT_GRAN", type := .int, accessFlags := 26, slot := 0, constantValue := 0 }, { name := "INSERTIONSORT_THRESHOLD", type := .int, accessFlags := 26, slot := 1, constantValue := 0 }, { name := "$assertionsDisabled", type := .boolean, accessFlags := 4120, slot := 2, constantValue := 0 }]
  methods := #[k16m0, k16m1, k16m2, k16m3, k16m4]
  instanceTypes := #[]
  staticTypes := #[.int, .int, .boolean]
  resolved := Array.replicate 1029 none
  statics := none }

def pool17 : Array CpInfo := pool [(1, .class_ 2), (0, u "java/lang/Math"), (1, .class_ 6), (1, u "java/lang/Object"), (0, u "<init>"), (0, u "()V"), (89, .class_ 100), (1, u "java/lang/Math$RandomNumberGeneratorHolder"), (23, u "abs"), (34, u "(I)I"), (12, u "negativeZeroFloatBits"), (0, u "J"), (2, u "negativeZeroDoubleBits"), (21, u "max"), (2, u "min"), (43, u "$assertionsDisabled"), (0, u "Z"), (88, u "(II)I"), (2, u "twoToTheDoubleScaleDown"), (0, u "D"), (4, u "twoToTheDoubleScaleUp"), (9, u "E"), (3, u "PI"), (2, u "TAU"), (2, u "DEGREES_TO_RADIANS"), (0, u "RADIANS_TO_DEGREES")] 94

def k17m0 : Method := { name := "<init>", desc := "()V", sig := { parameters := [], returnType := none }, accessFlags := 2, code := none }
def k17c1 : Code := { maxStack := 1, maxLocals := 1, code := jdk_29_method_59_code, exceptionTable := #[], attributes := #[] }
def k17m1 : Method := { name := "abs", desc := "(I)I", sig := { parameters := [.int], returnType := some .int }, accessFlags := 9, code := some k17c1 }
def k17c2 : Code := { maxStack := 2, maxLocals := 2, code := jdk_29_method_65_code, exceptionTable := #[], attributes := #[] }
def k17m2 : Method := { name := "max", desc := "(II)I", sig := { parameters := [.int, .int], returnType := some .int }, accessFlags := 9, code := some k17c2 }
def k17c3 : Code := { maxStack := 2, maxLocals := 2, code := jdk_29_method_69_code, exceptionTable := #[], attributes := #[] }
def k17m3 : Method := { name := "min", desc := "(II)I", sig := { parameters := [.int, .int], returnType := some .int }, accessFlags := 9, code := some k17c3 }
/-- java/lang/Math -/
def k17 : Class := { plain "java/lang/Math" (some 0) with
  accessFlags := 49
  interfaces := #[]
  cf := some (fileOf pool17 1 #[.nestMembers #[98]] #[{ accessFlags := 2, nameIndex := 7, descriptorIndex := 8, attributes := #[] }, { accessFlags := 9, nameIndex := 124, descriptorIndex := 159, attributes := #[] }, { accessFlags := 9, nameIndex := 198, descriptorIndex := 335, attributes := #[] }, { accessFlags := 9, nameIndex := 201, descriptorIndex := 335, attributes := #[] }] 49 4 #[] #[{ accessFlags := 25, nameIndex := 354, descriptorIndex := 339, attributes := #[] }, { accessFlags := 25, nameIndex := 358, descriptorIndex := 339, attributes := #[] }, { accessFlags := 25, nameIndex := 361, descriptorIndex := 339, attributes := #[] }, { accessFlags := 26, nameIndex := 364, descriptorIndex := 339, attributes := #[] }, { accessFlags := 26, nameIndex := 365, descriptorIndex := 339, attributes := #[] }, { accessFlags := 26, nameIndex := 172, descriptorIndex := 173, attributes := #[] }, { accessFlags := 26, nameIndex := 176, descriptorIndex := 173, attributes := #[] }, { accessFlags := 8, nameIndex := 344, descriptorIndex := 339, attributes := #[] }, { accessFlags := 8, nameIndex := 338, descriptorIndex := 339, attributes := #[] }, { accessFlags := 4120, nameIndex := 245, descriptorIndex := 246, attributes := #[] }])
  fields := #[{ name := "E", type := .double, accessFlags := 25, slot := 0, constantValue := 0 }, { name := "PI", type := .double, accessFlags := 25, slot := 1, constantValue := 0 }, { name := "TAU", type := .double, accessFlags := 25, slot := 2, constantValue := 0 }, { name := "DEGREES_TO_RADIANS", type := .double, accessFlags := 26, slot := 3, constantValue := 0 }, { name := "RADIANS_TO_DEGREES", type := .double, accessFlags := 26, slot := 4, constantValue := 0 }, { name := "negativeZeroFloatBits", type := .long, accessFlags := 26, slot := 5, constantValue := 0 }, { name := "negativeZeroDoubleBits", type := .long, accessFlags := 26, slot := 6, constantValue := 0 }, { name := "twoToTheDoubleScaleUp", type := .double, accessFlags := 8, slot := 7, constantValue := 0 }, { name := "twoToTheDoubleScaleDown", type := .double, accessFlags := 8, slot := 8, constantValue := 0 }, { name := "$assertionsDisabled", type := .boolean, accessFlags := 4120, slot := 9, constantValue := 0 }]
  methods := #[k17m0, k17m1, k17m2, k17m3]
  instanceTypes := #[]
  staticTypes := #[.double, .double, .double, .double, .double, .long, .long, .double, .double, .boolean]
  resolved := Array.replicate 460 none
  statics := none }

def pool18 : Array CpInfo := pool [(1, .class_ 2), (0, u "java/lang/String"), (1, .class_ 6), (1, u "java/lang/Object"), (0, u "<init>"), (0, u "()V"), (0, .methodref 1 10), (0, .nameAndType 11 12), (0, u "checkIndex"), (0, u "(II)V"), (1, .class_ 16), (1, u "java/lang/StringLatin1"), (36, u "([BI)C"), (67, u "$assertionsDisabled"), (0, u "Z"), (98, .class_ 223), (1, u "java/lang/StringLatin1$LinesSpliterator"), (28, u "charAt"), (137, .class_ 391), (0, u "java/lang/StringLatin1$CharsSpliterator")] 3

def k18m0 : Method := { name := "<init>", desc := "()V", sig := { parameters := [], returnType := none }, accessFlags := 0, code := none }
def k18c1 : Code := { maxStack := 2, maxLocals := 2, code := jdk_43_method_2_code, exceptionTable := #[], attributes := #[] }
def k18m1 : Method := { name := "charAt", desc := "([BI)C", sig := { parameters := [(.array .byte), .int], returnType := some .char }, accessFlags := 9, code := some k18c1 }
/-- java/lang/StringLatin1 -/
def k18 : Class := { plain "java/lang/StringLatin1" (some 0) with
  accessFlags := 48
  interfaces := #[]
  cf := some (fileOf pool18 14 #[.nestMembers #[390, 221]] #[{ accessFlags := 0, nameIndex := 7, descriptorIndex := 8, attributes := #[] }, { accessFlags := 9, nameIndex := 252, descriptorIndex := 53, attributes := #[] }] 48 4 #[] #[{ accessFlags := 4120, nameIndex := 121, descriptorIndex := 122, attributes := #[] }])
  fields := #[{ name := "$assertionsDisabled", type := .boolean, accessFlags := 4120, slot := 0, constantValue := 0 }]
  methods := #[k18m0, k18m1]
  instanceTypes := #[]
  staticTypes := #[.boolean]
  resolved := Array.replicate 395 none
  statics := none }

def pool19 : Array CpInfo := pool [(2, .class_ 4), (1, u "java/lang/Object"), (0, u "<init>"), (0, u "()V"), (17, .class_ 26), (1, u "jdk/internal/util/Preconditions"), (6, u "checkIndex"), (21, .class_ 56), (0, u "jdk/internal/util/Preconditions$4"), (57, .class_ 115), (0, u "jdk/internal/util/Preconditions$1"), (7, u "SIOOBE_FORMATTER"), (0, u "Ljava/util/function/BiFunction;"), (0, .class_ 126), (0, u "jdk/internal/util/Preconditions$2"), (3, u "AIOOBE_FORMATTER"), (0, .class_ 132), (0, u "jdk/internal/util/Preconditions$3"), (3, u "IOOBE_FORMATTER"), (41, u "(IILjava/util/function/BiFunction;)I")] 15

def k19m0 : Method := { name := "<init>", desc := "()V", sig := { parameters := [], returnType := none }, accessFlags := 1, code := none }
def k19c1 : Code := { maxStack := 3, maxLocals := 3, code := jdk_41_method_11_code, exceptionTable := #[], attributes := #[] }
def k19m1 : Method := { name := "checkIndex", desc := "(IILjava/util/function/BiFunction;)I", sig := { parameters := [.int, .int, (.object "java/util/function/BiFunction")], returnType := some .int }, accessFlags := 9, code := some k19c1 }
/-- jdk/internal/util/Preconditions -/
def k19 : Class := { plain "jdk/internal/util/Preconditions" (some 0) with
  accessFlags := 33
  interfaces := #[]
  cf := some (fileOf pool19 24 #[.nestMembers #[55, 131, 125, 114]] #[{ accessFlags := 1, nameIndex := 5, descriptorIndex := 6, attributes := #[] }, { accessFlags := 9, nameIndex := 33, descriptorIndex := 178, attributes := #[] }] 33 2 #[] #[{ accessFlags := 25, nameIndex := 123, descriptorIndex := 124, attributes := #[] }, { accessFlags := 25, nameIndex := 130, descriptorIndex := 124, attributes := #[] }, { accessFlags := 25, nameIndex := 136, descriptorIndex := 124, attributes := #[] }])
  fields := #[{ name := "SIOOBE_FORMATTER", type := (.object "java/util/function/BiFunction"), accessFlags := 25, slot := 0, constantValue := 0 }, { name := "AIOOBE_FORMATTER", type := (.object "java/util/function/BiFunction"), accessFlags := 25, slot := 1, constantValue := 0 }, { name := "IOOBE_FORMATTER", type := (.object "java/util/function/BiFunction"), accessFlags := 25, slot := 2, constantValue := 0 }]
  methods := #[k19m0, k19m1]
  instanceTypes := #[]
  staticTypes := #[(.object "java/util/function/BiFunction"), (.object "java/util/function/BiFunction"), (.object "java/util/function/BiFunction")]
  resolved := Array.replicate 194 none
  statics := some 2 }

def pool20 : Array CpInfo := pool [(9, u "<init>"), (6, .class_ 18), (1, u "java/lang/Object"), (0, u "()V"), (1, .class_ 23), (1, u "jdk/internal/util/ArraysSupport"), (0, u "LOG2_ARRAY_LONG_INDEX_SCALE"), (0, u "I"), (2, u "U"), (0, u "Ljdk/internal/misc/Unsafe;"), (8, u "BIG_ENDIAN"), (0, u "Z"), (8, u "LOG2_BYTE_BIT_SIZE"), (4, u "LOG2_ARRAY_INT_INDEX_SCALE"), (54, u "JLA"), (0, u "Ljdk/internal/access/JavaLangAccess;"), (11, u "LOG2_ARRAY_BOOLEAN_INDEX_SCALE"), (9, u "LOG2_ARRAY_BYTE_INDEX_SCALE"), (5, u "LOG2_ARRAY_CHAR_INDEX_SCALE"), (5, u "LOG2_ARRAY_SHORT_INDEX_SCALE"), (18, u "LOG2_ARRAY_FLOAT_INDEX_SCALE"), (24, u "LOG2_ARRAY_DOUBLE_INDEX_SCALE"), (6, .methodref 195 196), (0, .class_ 197), (0, .nameAndType 198 199), (0, u "java/lang/Math"), (0, u "max"), (0, u "(II)I"), (0, .integer 2147483639), (76, u "T_BOOLEAN"), (2, u "T_CHAR"), (1, u "T_FLOAT"), (1, u "T_DOUBLE"), (1, u "T_BYTE"), (1, u "T_SHORT"), (1, u "T_INT"), (1, u "T_LONG"), (1, u "SOFT_MAX_ARRAY_LENGTH"), (56, u "newLength"), (0, u "(III)I")] 25

def k20m0 : Method := { name := "<init>", desc := "()V", sig := { parameters := [], returnType := none }, accessFlags := 2, code := none }
def k20c1 : Code := { maxStack := 3, maxLocals := 4, code := jdk_48_method_27_code, exceptionTable := #[], attributes := #[] }
def k20m1 : Method := { name := "newLength", desc := "(III)I", sig := { parameters := [.int, .int, .int], returnType := some .int }, accessFlags := 9, code := some k20c1 }
/-- jdk/internal/util/ArraysSupport -/
def k20 : Class := { plain "jdk/internal/util/ArraysSupport" (some 0) with
  accessFlags := 33
  interfaces := #[]
  cf := some (fileOf pool20 21 #[] #[{ accessFlags := 2, nameIndex := 9, descriptorIndex := 19, attributes := #[] }, { accessFlags := 9, nameIndex := 351, descriptorIndex := 352, attributes := #[] }] 33 16 #[] #[{ accessFlags := 24, nameIndex := 28, descriptorIndex := 29, attributes := #[] }, { accessFlags := 26, nameIndex := 38, descriptorIndex := 39, attributes := #[] }, { accessFlags := 25, nameIndex := 121, descriptorIndex := 25, attributes := #[] }, { accessFlags := 25, nameIndex := 131, descriptorIndex := 25, attributes := #[] }, { accessFlags := 25, nameIndex := 137, descriptorIndex := 25, attributes := #[] }, { accessFlags := 25, nameIndex := 143, descriptorIndex := 25, attributes := #[] }, { accessFlags := 25, nameIndex := 53, descriptorIndex := 25, attributes := #[] }, { accessFlags := 25, nameIndex := 24, descriptorIndex := 25, attributes := #[] }, { accessFlags := 25, nameIndex := 162, descriptorIndex := 25, attributes := #[] }, { accessFlags := 25, nameIndex := 187, descriptorIndex := 25, attributes := #[] }, { accessFlags := 26, nameIndex := 48, descriptorIndex := 25, attributes := #[] }, { accessFlags := 25, nameIndex := 277, descriptorIndex := 25, attributes := #[] }, { accessFlags := 25, nameIndex := 280, descriptorIndex := 25, attributes := #[] }, { accessFlags := 25, nameIndex := 282, descriptorIndex := 25, attributes := #[] }, { accessFlags := 25, nameIndex := 284, descriptorIndex := 25, attributes := #[] }, { accessFlags := 25, nameIndex := 286, descriptorIndex := 25, attributes := #[] }, { accessFlags := 25, nameIndex := 288, descriptorIndex := 25, attributes := #[] }, { accessFlags := 25, nameIndex := 290, descriptorIndex := 25, attributes := #[] }, { accessFlags := 25, nameIndex := 292, descriptorIndex := 25, attributes := #[] }, { accessFlags := 26, nameIndex := 108, descriptorIndex := 109, attributes := #[] }, { accessFlags := 25, nameIndex := 294, descriptorIndex := 25, attributes := #[] }])
  fields := #[{ name := "U", type := (.object "jdk/internal/misc/Unsafe"), accessFlags := 24, slot := 0, constantValue := 0 }, { name := "BIG_ENDIAN", type := .boolean, accessFlags := 26, slot := 1, constantValue := 0 }, { name := "LOG2_ARRAY_BOOLEAN_INDEX_SCALE", type := .int, accessFlags := 25, slot := 2, constantValue := 0 }, { name := "LOG2_ARRAY_BYTE_INDEX_SCALE", type := .int, accessFlags := 25, slot := 3, constantValue := 0 }, { name := "LOG2_ARRAY_CHAR_INDEX_SCALE", type := .int, accessFlags := 25, slot := 4, constantValue := 0 }, { name := "LOG2_ARRAY_SHORT_INDEX_SCALE", type := .int, accessFlags := 25, slot := 5, constantValue := 0 }, { name := "LOG2_ARRAY_INT_INDEX_SCALE", type := .int, accessFlags := 25, slot := 6, constantValue := 0 }, { name := "LOG2_ARRAY_LONG_INDEX_SCALE", type := .int, accessFlags := 25, slot := 7, constantValue := 0 }, { name := "LOG2_ARRAY_FLOAT_INDEX_SCALE", type := .int, accessFlags := 25, slot := 8, constantValue := 0 }, { name := "LOG2_ARRAY_DOUBLE_INDEX_SCALE", type := .int, accessFlags := 25, slot := 9, constantValue := 0 }, { name := "LOG2_BYTE_BIT_SIZE", type := .int, accessFlags := 26, slot := 10, constantValue := 0 }, { name := "T_BOOLEAN", type := .int, accessFlags := 25, slot := 11, constantValue := 0 }, { name := "T_CHAR", type := .int, accessFlags := 25, slot := 12, constantValue := 0 }, { name := "T_FLOAT", type := .int, accessFlags := 25, slot := 13, constantValue := 0 }, { name := "T_DOUBLE", type := .int, accessFlags := 25, slot := 14, constantValue := 0 }, { name := "T_BYTE", type := .int, accessFlags := 25, slot := 15, constantValue := 0 }, { name := "T_SHORT", type := .int, accessFlags := 25, slot := 16, constantValue := 0 }, { name := "T_INT", type := .int, accessFlags := 25, slot := 17, constantValue := 0 }, { name := "T_LONG", type := .int, accessFlags := 25, slot := 18, constantValue := 0 }, { name := "JLA", type := (.object "jdk/internal/access/JavaLangAccess"), accessFlags := 26, slot := 19, constantValue := 0 }, { name := "SOFT_MAX_ARRAY_LENGTH", type := .int, accessFlags := 25, slot := 20, constantValue := 0 }]
  methods := #[k20m0, k20m1]
  instanceTypes := #[]
  staticTypes := #[(.object "jdk/internal/misc/Unsafe"), .boolean, .int, .int, .int, .int, .int, .int, .int, .int, .int, .int, .int, .int, .int, .int, .int, .int, .int, (.object "jdk/internal/access/JavaLangAccess"), .int]
  resolved := Array.replicate 378 none
  statics := none }

def pool21 : Array CpInfo := pool [(1, .class_ 2), (0, u "java/lang/Cloneable"), (0, .class_ 4), (0, u "java/lang/Object")] 2

/-- java/lang/Cloneable -/
def k21 : Class := { plain "java/lang/Cloneable" (some 0) with
  accessFlags := 1537
  interfaces := #[]
  cf := some (fileOf pool21 1 #[] #[] 1537 3 #[] #[])
  fields := #[]
  methods := #[]
  instanceTypes := #[]
  staticTypes := #[]
  resolved := Array.replicate 7 none
  statics := none }

/-- the primitive byte -/
def k22 : Class := { plain "byte" none with kind := .primitive 'B', accessFlags := 0x411 }
/-- [B -/
def k23 : Class := { plain "[B" (some 0) with kind := .array 22 .byte, interfaces := #[21, 6], accessFlags := 1041 }

/-- the primitive int -/
def k24 : Class := { plain "int" none with kind := .primitive 'I', accessFlags := 0x411 }
/-- [I -/
def k25 : Class := { plain "[I" (some 0) with kind := .array 24 .int, interfaces := #[21, 6], accessFlags := 1041 }

/-- the primitive long -/
def k26 : Class := { plain "long" none with kind := .primitive 'J', accessFlags := 0x411 }
/-- [J -/
def k27 : Class := { plain "[J" (some 0) with kind := .array 26 .long, interfaces := #[21, 6], accessFlags := 1041 }

def heap : Heap := #[{ cls := 11, slots := #[.long 0, .int 1, .null, .int 0, .null, .int 0, .int 0], vm := .statics 11 },
  { cls := 14, slots := #[.int 0, .int 0, .null, .null, .ref 4, .ref 3, .int 0, .int 0, .long 0], vm := .statics 14 },
  { cls := 19, slots := #[.null, .null, .null], vm := .statics 19 },
  { cls := 23, slots := #[.int 48, .int 49, .int 50, .int 51, .int 52, .int 53, .int 54, .int 55, .int 56, .int 57, .int 48, .int 49, .int 50, .int 51, .int 52, .int 53, .int 54, .int 55, .int 56, .int 57, .int 48, .int 49, .int 50, .int 51, .int 52, .int 53, .int 54, .int 55, .int 56, .int 57, .int 48, .int 49, .int 50, .int 51, .int 52, .int 53, .int 54, .int 55, .int 56, .int 57, .int 48, .int 49, .int 50, .int 51, .int 52, .int 53, .int 54, .int 55, .int 56, .int 57, .int 48, .int 49, .int 50, .int 51, .int 52, .int 53, .int 54, .int 55, .int 56, .int 57, .int 48, .int 49, .int 50, .int 51, .int 52, .int 53, .int 54, .int 55, .int 56, .int 57, .int 48, .int 49, .int 50, .int 51, .int 52, .int 53, .int 54, .int 55, .int 56, .int 57, .int 48, .int 49, .int 50, .int 51, .int 52, .int 53, .int 54, .int 55, .int 56, .int 57, .int 48, .int 49, .int 50, .int 51, .int 52, .int 53, .int 54, .int 55, .int 56, .int 57], vm := .none },
  { cls := 23, slots := #[.int 48, .int 48, .int 48, .int 48, .int 48, .int 48, .int 48, .int 48, .int 48, .int 48, .int 49, .int 49, .int 49, .int 49, .int 49, .int 49, .int 49, .int 49, .int 49, .int 49, .int 50, .int 50, .int 50, .int 50, .int 50, .int 50, .int 50, .int 50, .int 50, .int 50, .int 51, .int 51, .int 51, .int 51, .int 51, .int 51, .int 51, .int 51, .int 51, .int 51, .int 52, .int 52, .int 52, .int 52, .int 52, .int 52, .int 52, .int 52, .int 52, .int 52, .int 53, .int 53, .int 53, .int 53, .int 53, .int 53, .int 53, .int 53, .int 53, .int 53, .int 54, .int 54, .int 54, .int 54, .int 54, .int 54, .int 54, .int 54, .int 54, .int 54, .int 55, .int 55, .int 55, .int 55, .int 55, .int 55, .int 55, .int 55, .int 55, .int 55, .int 56, .int 56, .int 56, .int 56, .int 56, .int 56, .int 56, .int 56, .int 56, .int 56, .int 57, .int 57, .int 57, .int 57, .int 57, .int 57, .int 57, .int 57, .int 57, .int 57], vm := .none }]
def classes : Array Class := #[k0, k1, k2, k3, k4, k5, k6, k7, k8, k9, k10, k11, k12, k13, k14, k15, k16, k17, k18, k19, k20, k21, k22, k23, k24, k25, k26, k27]
def interned : List (Array UInt16 × Addr) := []
def slotsUsed : Nat := 219
def theMethod : MethodId := ⟨1, 1⟩
def args0 : Array Value := #[.long 12, .int 31]
def aboutOver (below : List Frame) : State where
  vm := { classes := classes, interned := interned.toArray }
  heap := heap
  slotsUsed := slotsUsed
  threads := #[{ frames := .invoking theMethod args0 :: below }]
def below0 : List Frame := [.native { method := ⟨0, 0⟩, args := #[] }]
def about1 : State := aboutOver below0
def p0 : Program := .bare "" "" ""
def e0 : Env := launch0.env 0 0 0
theorem w_frames : about1.frames = Frame.invoking theMethod args0 :: below0 := rfl
set_option maxRecDepth 65536 in
theorem w_args : argsFit about1.vm theMethod args0 = true := by decide +kernel
set_option maxRecDepth 65536 in
theorem w_heap : heapFits about1 = true := by decide +kernel
set_option maxRecDepth 65536 in
theorem w_runnable : about1.curStatus? = some .runnable := by decide +kernel
set_option maxRecDepth 65536 in
theorem w_alone : about1.alone = true := by decide +kernel
set_option maxRecDepth 65536 in
theorem w_named : about1.methodNamed? x = some theMethod := by decide +kernel
set_option maxRecDepth 65536 in
theorem w_hears : about1.hears theMethod below0 = true := by decide +kernel
set_option maxRecDepth 65536 in
theorem w_ripe : about1.ripe theMethod args0 below0 = true := by decide +kernel
theorem w_running : about1.status = .running := rfl
set_option maxRecDepth 65536 in
theorem w_room : about1.hasRoom e0.platform room_1 = true :=
  launch0.hasRoom_least _ room_1 (by decide +kernel) (by decide +kernel) (by decide +kernel) (by decide +kernel) (by decide +kernel) (by decide +kernel)
theorem allAtoms_all (ts : List Jvm.Cond) (a : Array Jvm.Value) (st : Jvm.State) : (allAtoms ts).before a st = ts.all (fun c => c.before a st) := by
  induction ts with
  | nil => rfl
  | cons c t ih =>
    show (Jvm.Cond.and c (allAtoms t)).before a st = _
    rw [Jvm.Cond.before_and, ih, List.all_cons]
def words1 : List Jvm.Cond := Jvm.Cond.code x code maxLocals ret :: tables_1
/-- a 'code' word, met by the world's own term for the bytes: nothing is compared byte by byte -/
theorem code_word {y : MethodName} {bytes : ByteArray} {mx : Nat} {rt : Option FieldType} {a : Array Value} {s : State} {m : MethodId} {meth : Method} {c : Code} (h1 : s.methodNamed? y = some m) (h2 : s.vm.method? m = some meth) (h3 : meth.code = some c) (h4 : c.code = bytes)
    (h5 : (c.maxLocals == mx && c.exceptionTable.isEmpty && decide (c.maxStack ≤ mostOperands) && decide (meth.sig.returnType = rt) && !meth.locks && decide (parseMethodDescriptor y.desc = some meth.sig)) = true) : (Jvm.Cond.code y bytes mx rt).before a s = true := by
  simp only [Bool.and_eq_true, beq_iff_eq, Bool.not_eq_true', decide_eq_true_eq] at h5
  obtain ⟨⟨⟨⟨⟨g1, g2⟩, g3⟩, g4⟩, g5⟩, g6⟩ := h5
  simp [Cond.before, Cond.holds, Cond.value, h1, h2, h3, h4, g1, g2, g3, g4, g5, g6]
def isCode : Jvm.Cond → Bool
  | .code _ _ _ _ => true
  | _ => false
theorem all_split {L : List Jvm.Cond} {P : Jvm.Cond → Bool} (h1 : L.all (fun c => isCode c || P c) = true) (h2 : ∀ c ∈ L.filter isCode, P c = true) : L.all P = true := by
  refine List.all_eq_true.mpr fun c hc => ?_
  have h := List.all_eq_true.mp h1 c hc
  rcases Bool.eq_false_or_eq_true (isCode c) with hi | hi
  · exact h2 c (List.mem_filter.mpr ⟨hc, hi⟩)
  · simpa [hi] using h
set_option maxRecDepth 65536 in
theorem w_c0 : (Jvm.Cond.code x code maxLocals ret).before args0 about1 = true := code_word (m := ⟨1, 1⟩) (meth := k1m1) (c := k1c1) (by decide +kernel) rfl rfl rfl (by decide +kernel)
set_option maxRecDepth 65536 in
theorem w_c1 : (Jvm.Cond.code ({ cls := "com/example/kwhat/kwhat/ProRata", name := "<init>", desc := "(JI)V" } : Jvm.MethodName) prog_19_method_1_code (4 : Nat) (Option.none : Option Jvm.ClassFile.FieldType)).before args0 about1 = true := code_word (m := ⟨2, 0⟩) (meth := k2m0) (c := k2c0) (by decide +kernel) rfl rfl rfl (by decide +kernel)
set_option maxRecDepth 65536 in
theorem w_c2 : (Jvm.Cond.code ({ cls := "java/lang/Object", name := "<init>", desc := "()V" } : Jvm.MethodName) object_method_1_code (1 : Nat) (Option.none : Option Jvm.ClassFile.FieldType)).before args0 about1 = true := code_word (m := ⟨0, 0⟩) (meth := k0m0) (c := k0c0) (by decide +kernel) rfl rfl rfl (by decide +kernel)
set_option maxRecDepth 65536 in
theorem w_c3 : (Jvm.Cond.code ({ cls := "com/example/kwhat/kwhat/ProRata", name := "toString", desc := "()Ljava/lang/String;" } : Jvm.MethodName) prog_19_method_6_code (1 : Nat) (Option.some (Jvm.ClassFile.FieldType.object "java/lang/String"))).before args0 about1 = true := code_word (m := ⟨2, 1⟩) (meth := k2m1) (c := k2c1) (by decide +kernel) rfl rfl rfl (by decide +kernel)
set_option maxRecDepth 65536 in
theorem w_c4 : (Jvm.Cond.code ({ cls := "java/lang/StringBuilder", name := "<init>", desc := "()V" } : Jvm.MethodName) jdk_67_method_1_code (1 : Nat) (Option.none : Option Jvm.ClassFile.FieldType)).before args0 about1 = true := code_word (m := ⟨8, 0⟩) (meth := k8m0) (c := k8c0) (by decide +kernel) rfl rfl rfl (by decide +kernel)
set_option maxRecDepth 65536 in
theorem w_c5 : (Jvm.Cond.code ({ cls := "java/lang/AbstractStringBuilder", name := "<init>", desc := "(I)V" } : Jvm.MethodName) jdk_68_method_2_code (2 : Nat) (Option.none : Option Jvm.ClassFile.FieldType)).before args0 about1 = true := code_word (m := ⟨5, 1⟩) (meth := k5m1) (c := k5c1) (by decide +kernel) rfl rfl rfl (by decide +kernel)
set_option maxRecDepth 65536 in
theorem w_c6 : (Jvm.Cond.code ({ cls := "java/lang/StringBuilder", name := "append", desc := "(J)Ljava/lang/StringBuilder;" } : Jvm.MethodName) jdk_67_method_16_code (3 : Nat) (Option.some (Jvm.ClassFile.FieldType.object "java/lang/StringBuilder"))).before args0 about1 = true := code_word (m := ⟨8, 3⟩) (meth := k8m3) (c := k8c3) (by decide +kernel) rfl rfl rfl (by decide +kernel)
set_option maxRecDepth 65536 in
theorem w_c7 : (Jvm.Cond.code ({ cls := "java/lang/AbstractStringBuilder", name := "append", desc := "(J)Ljava/lang/AbstractStringBuilder;" } : Jvm.MethodName) jdk_68_method_33_code (5 : Nat) (Option.some (Jvm.ClassFile.FieldType.object "java/lang/AbstractStringBuilder"))).before args0 about1 = true := code_word (m := ⟨5, 7⟩) (meth := k5m7) (c := k5c7) (by decide +kernel) rfl rfl rfl (by decide +kernel)
set_option maxRecDepth 65536 in
theorem w_c8 : (Jvm.Cond.code ({ cls := "java/lang/Long", name := "stringSize", desc := "(J)I" } : Jvm.MethodName) jdk_35_method_15_code (6 : Nat) (Option.some Jvm.ClassFile.FieldType.int)).before args0 about1 = true := code_word (m := ⟨13, 1⟩) (meth := k13m1) (c := k13c1) (by decide +kernel) rfl rfl rfl (by decide +kernel)
set_option maxRecDepth 65536 in
theorem w_c9 : (Jvm.Cond.code ({ cls := "java/lang/AbstractStringBuilder", name := "ensureCapacityInternal", desc := "(I)V" } : Jvm.MethodName) jdk_68_method_9_code (3 : Nat) (Option.none : Option Jvm.ClassFile.FieldType)).before args0 about1 = true := code_word (m := ⟨5, 3⟩) (meth := k5m3) (c := k5c3) (by decide +kernel) rfl rfl rfl (by decide +kernel)
set_option maxRecDepth 65536 in
theorem w_c10 : (Jvm.Cond.code ({ cls := "java/lang/AbstractStringBuilder", name := "isLatin1", desc := "()Z" } : Jvm.MethodName) jdk_68_method_68_code (1 : Nat) (Option.some Jvm.ClassFile.FieldType.boolean)).before args0 about1 = true := code_word (m := ⟨5, 9⟩) (meth := k5m9) (c := k5c9) (by decide +kernel) rfl rfl rfl (by decide +kernel)
set_option maxRecDepth 65536 in
theorem w_c11 : (Jvm.Cond.code ({ cls := "java/lang/Long", name := "getChars", desc := "(JI[B)I" } : Jvm.MethodName) jdk_35_method_14_code (11 : Nat) (Option.some Jvm.ClassFile.FieldType.int)).before args0 about1 = true := code_word (m := ⟨13, 0⟩) (meth := k13m0) (c := k13c0) (by decide +kernel) rfl rfl rfl (by decide +kernel)
set_option maxRecDepth 65536 in
theorem w_c12 : (Jvm.Cond.code ({ cls := "java/lang/StringBuilder", name := "append", desc := "(Ljava/lang/String;)Ljava/lang/StringBuilder;" } : Jvm.MethodName) jdk_67_method_7_code (2 : Nat) (Option.some (Jvm.ClassFile.FieldType.object "java/lang/StringBuilder"))).before args0 about1 = true := code_word (m := ⟨8, 1⟩) (meth := k8m1) (c := k8c1) (by decide +kernel) rfl rfl rfl (by decide +kernel)
set_option maxRecDepth 65536 in
theorem w_c13 : (Jvm.Cond.code ({ cls := "java/lang/AbstractStringBuilder", name := "append", desc := "(Ljava/lang/String;)Ljava/lang/AbstractStringBuilder;" } : Jvm.MethodName) jdk_68_method_22_code (3 : Nat) (Option.some (Jvm.ClassFile.FieldType.object "java/lang/AbstractStringBuilder"))).before args0 about1 = true := code_word (m := ⟨5, 5⟩) (meth := k5m5) (c := k5c5) (by decide +kernel) rfl rfl rfl (by decide +kernel)
set_option maxRecDepth 65536 in
theorem w_c14 : (Jvm.Cond.code ({ cls := "java/lang/String", name := "length", desc := "()I" } : Jvm.MethodName) jdk_42_method_54_code (1 : Nat) (Option.some Jvm.ClassFile.FieldType.int)).before args0 about1 = true := code_word (m := ⟨11, 2⟩) (meth := k11m2) (c := k11c2) (by decide +kernel) rfl rfl rfl (by decide +kernel)
set_option maxRecDepth 65536 in
theorem w_c15 : (Jvm.Cond.code ({ cls := "java/lang/String", name := "coder", desc := "()B" } : Jvm.MethodName) jdk_42_method_152_code (1 : Nat) (Option.some Jvm.ClassFile.FieldType.byte)).before args0 about1 = true := code_word (m := ⟨11, 6⟩) (meth := k11m6) (c := k11c6) (by decide +kernel) rfl rfl rfl (by decide +kernel)
set_option maxRecDepth 65536 in
theorem w_c16 : (Jvm.Cond.code ({ cls := "java/lang/AbstractStringBuilder", name := "putStringAt", desc := "(ILjava/lang/String;)V" } : Jvm.MethodName) jdk_68_method_73_code (3 : Nat) (Option.none : Option Jvm.ClassFile.FieldType)).before args0 about1 = true := code_word (m := ⟨5, 11⟩) (meth := k5m11) (c := k5c11) (by decide +kernel) rfl rfl rfl (by decide +kernel)
set_option maxRecDepth 65536 in
theorem w_c17 : (Jvm.Cond.code ({ cls := "java/lang/AbstractStringBuilder", name := "inflateIfNeededFor", desc := "(Ljava/lang/String;)V" } : Jvm.MethodName) jdk_68_method_71_code (2 : Nat) (Option.none : Option Jvm.ClassFile.FieldType)).before args0 about1 = true := code_word (m := ⟨5, 10⟩) (meth := k5m10) (c := k5c10) (by decide +kernel) rfl rfl rfl (by decide +kernel)
set_option maxRecDepth 65536 in
theorem w_c18 : (Jvm.Cond.code ({ cls := "java/lang/String", name := "getBytes", desc := "([BIB)V" } : Jvm.MethodName) jdk_42_method_147_code (4 : Nat) (Option.none : Option Jvm.ClassFile.FieldType)).before args0 about1 = true := code_word (m := ⟨11, 4⟩) (meth := k11m4) (c := k11c4) (by decide +kernel) rfl rfl rfl (by decide +kernel)
set_option maxRecDepth 65536 in
theorem w_c19 : (Jvm.Cond.code ({ cls := "java/lang/StringBuilder", name := "append", desc := "(I)Ljava/lang/StringBuilder;" } : Jvm.MethodName) jdk_67_method_15_code (2 : Nat) (Option.some (Jvm.ClassFile.FieldType.object "java/lang/StringBuilder"))).before args0 about1 = true := code_word (m := ⟨8, 2⟩) (meth := k8m2) (c := k8c2) (by decide +kernel) rfl rfl rfl (by decide +kernel)
set_option maxRecDepth 65536 in
theorem w_c20 : (Jvm.Cond.code ({ cls := "java/lang/AbstractStringBuilder", name := "append", desc := "(I)Ljava/lang/AbstractStringBuilder;" } : Jvm.MethodName) jdk_68_method_32_code (4 : Nat) (Option.some (Jvm.ClassFile.FieldType.object "java/lang/AbstractStringBuilder"))).before args0 about1 = true := code_word (m := ⟨5, 6⟩) (meth := k5m6) (c := k5c6) (by decide +kernel) rfl rfl rfl (by decide +kernel)
set_option maxRecDepth 65536 in
theorem w_c21 : (Jvm.Cond.code ({ cls := "java/lang/Integer", name := "stringSize", desc := "(I)I" } : Jvm.MethodName) jdk_33_method_13_code (4 : Nat) (Option.some Jvm.ClassFile.FieldType.int)).before args0 about1 = true := code_word (m := ⟨14, 1⟩) (meth := k14m1) (c := k14c1) (by decide +kernel) rfl rfl rfl (by decide +kernel)
set_option maxRecDepth 65536 in
theorem w_c22 : (Jvm.Cond.code ({ cls := "java/lang/Integer", name := "getChars", desc := "(II[B)I" } : Jvm.MethodName) jdk_33_method_12_code (7 : Nat) (Option.some Jvm.ClassFile.FieldType.int)).before args0 about1 = true := code_word (m := ⟨14, 0⟩) (meth := k14m0) (c := k14c0) (by decide +kernel) rfl rfl rfl (by decide +kernel)
set_option maxRecDepth 65536 in
theorem w_c23 : (Jvm.Cond.code ({ cls := "java/lang/StringBuilder", name := "toString", desc := "()Ljava/lang/String;" } : Jvm.MethodName) jdk_67_method_42_code (1 : Nat) (Option.some (Jvm.ClassFile.FieldType.object "java/lang/String"))).before args0 about1 = true := code_word (m := ⟨8, 4⟩) (meth := k8m4) (c := k8c4) (by decide +kernel) rfl rfl rfl (by decide +kernel)
set_option maxRecDepth 65536 in
theorem w_c24 : (Jvm.Cond.code ({ cls := "java/lang/String", name := "<init>", desc := "(Ljava/lang/StringBuilder;)V" } : Jvm.MethodName) jdk_42_method_53_code (2 : Nat) (Option.none : Option Jvm.ClassFile.FieldType)).before args0 about1 = true := code_word (m := ⟨11, 1⟩) (meth := k11m1) (c := k11c1) (by decide +kernel) rfl rfl rfl (by decide +kernel)
set_option maxRecDepth 65536 in
theorem w_c25 : (Jvm.Cond.code ({ cls := "java/lang/String", name := "<init>", desc := "(Ljava/lang/AbstractStringBuilder;Ljava/lang/Void;)V" } : Jvm.MethodName) jdk_42_method_150_code (5 : Nat) (Option.none : Option Jvm.ClassFile.FieldType)).before args0 about1 = true := code_word (m := ⟨11, 5⟩) (meth := k11m5) (c := k11c5) (by decide +kernel) rfl rfl rfl (by decide +kernel)
set_option maxRecDepth 65536 in
theorem w_c26 : (Jvm.Cond.code ({ cls := "java/lang/AbstractStringBuilder", name := "getValue", desc := "()[B" } : Jvm.MethodName) jdk_68_method_64_code (1 : Nat) (Option.some (Jvm.ClassFile.FieldType.array Jvm.ClassFile.FieldType.byte))).before args0 about1 = true := code_word (m := ⟨5, 8⟩) (meth := k5m8) (c := k5c8) (by decide +kernel) rfl rfl rfl (by decide +kernel)
set_option maxRecDepth 65536 in
theorem w_c27 : (Jvm.Cond.code ({ cls := "java/lang/StringBuilder", name := "length", desc := "()I" } : Jvm.MethodName) jdk_67_method_93_code (1 : Nat) (Option.some Jvm.ClassFile.FieldType.int)).before args0 about1 = true := code_word (m := ⟨8, 5⟩) (meth := k8m5) (c := k8c5) (by decide +kernel) rfl rfl rfl (by decide +kernel)
set_option maxRecDepth 65536 in
theorem w_c28 : (Jvm.Cond.code ({ cls := "java/lang/AbstractStringBuilder", name := "length", desc := "()I" } : Jvm.MethodName) jdk_68_method_6_code (1 : Nat) (Option.some Jvm.ClassFile.FieldType.int)).before args0 about1 = true := code_word (m := ⟨5, 2⟩) (meth := k5m2) (c := k5c2) (by decide +kernel) rfl rfl rfl (by decide +kernel)
set_option maxRecDepth 65536 in
theorem w_c29 : (Jvm.Cond.code ({ cls := "java/util/Arrays", name := "copyOfRange", desc := "([BII)[B" } : Jvm.MethodName) jdk_65_method_132_code (3 : Nat) (Option.some (Jvm.ClassFile.FieldType.array Jvm.ClassFile.FieldType.byte))).before args0 about1 = true := code_word (m := ⟨16, 3⟩) (meth := k16m3) (c := k16c3) (by decide +kernel) rfl rfl rfl (by decide +kernel)
set_option maxRecDepth 65536 in
theorem w_c30 : (Jvm.Cond.code ({ cls := "java/util/Arrays", name := "copyOfRangeByte", desc := "([BII)[B" } : Jvm.MethodName) jdk_65_method_133_code (5 : Nat) (Option.some (Jvm.ClassFile.FieldType.array Jvm.ClassFile.FieldType.byte))).before args0 about1 = true := code_word (m := ⟨16, 4⟩) (meth := k16m4) (c := k16c4) (by decide +kernel) rfl rfl rfl (by decide +kernel)
set_option maxRecDepth 65536 in
theorem w_c31 : (Jvm.Cond.code ({ cls := "java/util/Arrays", name := "checkLength", desc := "(II)V" } : Jvm.MethodName) jdk_65_method_131_code (2 : Nat) (Option.none : Option Jvm.ClassFile.FieldType)).before args0 about1 = true := code_word (m := ⟨16, 2⟩) (meth := k16m2) (c := k16c2) (by decide +kernel) rfl rfl rfl (by decide +kernel)
set_option maxRecDepth 65536 in
theorem w_c32 : (Jvm.Cond.code ({ cls := "java/lang/Math", name := "min", desc := "(II)I" } : Jvm.MethodName) jdk_29_method_69_code (2 : Nat) (Option.some Jvm.ClassFile.FieldType.int)).before args0 about1 = true := code_word (m := ⟨17, 3⟩) (meth := k17m3) (c := k17c3) (by decide +kernel) rfl rfl rfl (by decide +kernel)
set_option maxRecDepth 65536 in
theorem w_c33 : (Jvm.Cond.code ({ cls := "com/example/kwhat/kwhat/ProRataToStringPinLaw", name := "digits", desc := "(J[J)I" } : Jvm.MethodName) method_3_code (4 : Nat) (Option.some Jvm.ClassFile.FieldType.int)).before args0 about1 = true := code_word (m := ⟨1, 2⟩) (meth := k1m2) (c := k1c2) (by decide +kernel) rfl rfl rfl (by decide +kernel)
set_option maxRecDepth 65536 in
theorem w_c34 : (Jvm.Cond.code ({ cls := "java/lang/String", name := "charAt", desc := "(I)C" } : Jvm.MethodName) jdk_42_method_56_code (2 : Nat) (Option.some Jvm.ClassFile.FieldType.char)).before args0 about1 = true := code_word (m := ⟨11, 3⟩) (meth := k11m3) (c := k11c3) (by decide +kernel) rfl rfl rfl (by decide +kernel)
set_option maxRecDepth 65536 in
theorem w_c35 : (Jvm.Cond.code ({ cls := "java/lang/String", name := "isLatin1", desc := "()Z" } : Jvm.MethodName) jdk_42_method_154_code (1 : Nat) (Option.some Jvm.ClassFile.FieldType.boolean)).before args0 about1 = true := code_word (m := ⟨11, 7⟩) (meth := k11m7) (c := k11c7) (by decide +kernel) rfl rfl rfl (by decide +kernel)
set_option maxRecDepth 65536 in
theorem w_c36 : (Jvm.Cond.code ({ cls := "java/lang/StringLatin1", name := "charAt", desc := "([BI)C" } : Jvm.MethodName) jdk_43_method_2_code (2 : Nat) (Option.some Jvm.ClassFile.FieldType.char)).before args0 about1 = true := code_word (m := ⟨18, 1⟩) (meth := k18m1) (c := k18c1) (by decide +kernel) rfl rfl rfl (by decide +kernel)
set_option maxRecDepth 65536 in
theorem w_c37 : (Jvm.Cond.code ({ cls := "java/lang/String", name := "checkIndex", desc := "(II)V" } : Jvm.MethodName) jdk_42_method_155_code (2 : Nat) (Option.none : Option Jvm.ClassFile.FieldType)).before args0 about1 = true := code_word (m := ⟨11, 8⟩) (meth := k11m8) (c := k11c8) (by decide +kernel) rfl rfl rfl (by decide +kernel)
set_option maxRecDepth 65536 in
theorem w_c38 : (Jvm.Cond.code ({ cls := "jdk/internal/util/Preconditions", name := "checkIndex", desc := "(IILjava/util/function/BiFunction;)I" } : Jvm.MethodName) jdk_41_method_11_code (3 : Nat) (Option.some Jvm.ClassFile.FieldType.int)).before args0 about1 = true := code_word (m := ⟨19, 1⟩) (meth := k19m1) (c := k19c1) (by decide +kernel) rfl rfl rfl (by decide +kernel)
set_option maxRecDepth 65536 in
theorem w_c39 : (Jvm.Cond.code ({ cls := "com/example/kwhat/kwhat/ProRataToStringPinLaw", name := "number", desc := "(Ljava/lang/String;IJI[J)Z" } : Jvm.MethodName) method_4_code (6 : Nat) (Option.some Jvm.ClassFile.FieldType.boolean)).before args0 about1 = true := code_word (m := ⟨1, 3⟩) (meth := k1m3) (c := k1c3) (by decide +kernel) rfl rfl rfl (by decide +kernel)
set_option maxRecDepth 65536 in
theorem w_c40 : (Jvm.Cond.code ({ cls := "com/example/kwhat/kwhat/ProRataToStringPinLaw", name := "d", desc := "(Ljava/lang/String;IJI[JI)Z" } : Jvm.MethodName) method_5_code (8 : Nat) (Option.some Jvm.ClassFile.FieldType.boolean)).before args0 about1 = true := code_word (m := ⟨1, 4⟩) (meth := k1m4) (c := k1c4) (by decide +kernel) rfl rfl rfl (by decide +kernel)
set_option maxRecDepth 65536 in
theorem w_c41 : (Jvm.Cond.code ({ cls := "java/lang/Math", name := "abs", desc := "(I)I" } : Jvm.MethodName) jdk_29_method_59_code (1 : Nat) (Option.some Jvm.ClassFile.FieldType.int)).before args0 about1 = true := code_word (m := ⟨17, 1⟩) (meth := k17m1) (c := k17c1) (by decide +kernel) rfl rfl rfl (by decide +kernel)
set_option maxRecDepth 65536 in
theorem w_c42 : (Jvm.Cond.code ({ cls := "java/lang/AbstractStringBuilder", name := "newCapacity", desc := "(I)I" } : Jvm.MethodName) jdk_68_method_10_code (6 : Nat) (Option.some Jvm.ClassFile.FieldType.int)).before args0 about1 = true := code_word (m := ⟨5, 4⟩) (meth := k5m4) (c := k5c4) (by decide +kernel) rfl rfl rfl (by decide +kernel)
set_option maxRecDepth 65536 in
theorem w_c43 : (Jvm.Cond.code ({ cls := "jdk/internal/util/ArraysSupport", name := "newLength", desc := "(III)I" } : Jvm.MethodName) jdk_48_method_27_code (4 : Nat) (Option.some Jvm.ClassFile.FieldType.int)).before args0 about1 = true := code_word (m := ⟨20, 1⟩) (meth := k20m1) (c := k20c1) (by decide +kernel) rfl rfl rfl (by decide +kernel)
set_option maxRecDepth 65536 in
theorem w_c44 : (Jvm.Cond.code ({ cls := "java/lang/Math", name := "max", desc := "(II)I" } : Jvm.MethodName) jdk_29_method_65_code (2 : Nat) (Option.some Jvm.ClassFile.FieldType.int)).before args0 about1 = true := code_word (m := ⟨17, 2⟩) (meth := k17m2) (c := k17c2) (by decide +kernel) rfl rfl rfl (by decide +kernel)
set_option maxRecDepth 65536 in
theorem w_c45 : (Jvm.Cond.code ({ cls := "java/util/Arrays", name := "copyOf", desc := "([BI)[B" } : Jvm.MethodName) jdk_65_method_121_code (3 : Nat) (Option.some (Jvm.ClassFile.FieldType.array Jvm.ClassFile.FieldType.byte))).before args0 about1 = true := code_word (m := ⟨16, 1⟩) (meth := k16m1) (c := k16c1) (by decide +kernel) rfl rfl rfl (by decide +kernel)
def codes1 : List Jvm.Cond := [Jvm.Cond.code x code maxLocals ret, Jvm.Cond.code ({ cls := "com/example/kwhat/kwhat/ProRata", name := "<init>", desc := "(JI)V" } : Jvm.MethodName) prog_19_method_1_code (4 : Nat) (Option.none : Option Jvm.ClassFile.FieldType), Jvm.Cond.code ({ cls := "java/lang/Object", name := "<init>", desc := "()V" } : Jvm.MethodName) object_method_1_code (1 : Nat) (Option.none : Option Jvm.ClassFile.FieldType), Jvm.Cond.code ({ cls := "com/example/kwhat/kwhat/ProRata", name := "toString", desc := "()Ljava/lang/String;" } : Jvm.MethodName) prog_19_method_6_code (1 : Nat) (Option.some (Jvm.ClassFile.FieldType.object "java/lang/String")), Jvm.Cond.code ({ cls := "java/lang/StringBuilder", name := "<init>", desc := "()V" } : Jvm.MethodName) jdk_67_method_1_code (1 : Nat) (Option.none : Option Jvm.ClassFile.FieldType), Jvm.Cond.code ({ cls := "java/lang/AbstractStringBuilder", name := "<init>", desc := "(I)V" } : Jvm.MethodName) jdk_68_method_2_code (2 : Nat) (Option.none : Option Jvm.ClassFile.FieldType), Jvm.Cond.code ({ cls := "java/lang/StringBuilder", name := "append", desc := "(J)Ljava/lang/StringBuilder;" } : Jvm.MethodName) jdk_67_method_16_code (3 : Nat) (Option.some (Jvm.ClassFile.FieldType.object "java/lang/StringBuilder")), Jvm.Cond.code ({ cls := "java/lang/AbstractStringBuilder", name := "append", desc := "(J)Ljava/lang/AbstractStringBuilder;" } : Jvm.MethodName) jdk_68_method_33_code (5 : Nat) (Option.some (Jvm.ClassFile.FieldType.object "java/lang/AbstractStringBuilder")), Jvm.Cond.code ({ cls := "java/lang/Long", name := "stringSize", desc := "(J)I" } : Jvm.MethodName) jdk_35_method_15_code (6 : Nat) (Option.some Jvm.ClassFile.FieldType.int), Jvm.Cond.code ({ cls := "java/lang/AbstractStringBuilder", name := "ensureCapacityInternal", desc := "(I)V" } : Jvm.MethodName) jdk_68_method_9_code (3 : Nat) (Option.none : Option Jvm.ClassFile.FieldType), Jvm.Cond.code ({ cls := "java/lang/AbstractStringBuilder", name := "isLatin1", desc := "()Z" } : Jvm.MethodName) jdk_68_method_68_code (1 : Nat) (Option.some Jvm.ClassFile.FieldType.boolean), Jvm.Cond.code ({ cls := "java/lang/Long", name := "getChars", desc := "(JI[B)I" } : Jvm.MethodName) jdk_35_method_14_code (11 : Nat) (Option.some Jvm.ClassFile.FieldType.int), Jvm.Cond.code ({ cls := "java/lang/StringBuilder", name := "append", desc := "(Ljava/lang/String;)Ljava/lang/StringBuilder;" } : Jvm.MethodName) jdk_67_method_7_code (2 : Nat) (Option.some (Jvm.ClassFile.FieldType.object "java/lang/StringBuilder")), Jvm.Cond.code ({ cls := "java/lang/AbstractStringBuilder", name := "append", desc := "(Ljava/lang/String;)Ljava/lang/AbstractStringBuilder;" } : Jvm.MethodName) jdk_68_method_22_code (3 : Nat) (Option.some (Jvm.ClassFile.FieldType.object "java/lang/AbstractStringBuilder")), Jvm.Cond.code ({ cls := "java/lang/String", name := "length", desc := "()I" } : Jvm.MethodName) jdk_42_method_54_code (1 : Nat) (Option.some Jvm.ClassFile.FieldType.int), Jvm.Cond.code ({ cls := "java/lang/String", name := "coder", desc := "()B" } : Jvm.MethodName) jdk_42_method_152_code (1 : Nat) (Option.some Jvm.ClassFile.FieldType.byte), Jvm.Cond.code ({ cls := "java/lang/AbstractStringBuilder", name := "putStringAt", desc := "(ILjava/lang/String;)V" } : Jvm.MethodName) jdk_68_method_73_code (3 : Nat) (Option.none : Option Jvm.ClassFile.FieldType), Jvm.Cond.code ({ cls := "java/lang/AbstractStringBuilder", name := "inflateIfNeededFor", desc := "(Ljava/lang/String;)V" } : Jvm.MethodName) jdk_68_method_71_code (2 : Nat) (Option.none : Option Jvm.ClassFile.FieldType), Jvm.Cond.code ({ cls := "java/lang/String", name := "getBytes", desc := "([BIB)V" } : Jvm.MethodName) jdk_42_method_147_code (4 : Nat) (Option.none : Option Jvm.ClassFile.FieldType), Jvm.Cond.code ({ cls := "java/lang/StringBuilder", name := "append", desc := "(I)Ljava/lang/StringBuilder;" } : Jvm.MethodName) jdk_67_method_15_code (2 : Nat) (Option.some (Jvm.ClassFile.FieldType.object "java/lang/StringBuilder")), Jvm.Cond.code ({ cls := "java/lang/AbstractStringBuilder", name := "append", desc := "(I)Ljava/lang/AbstractStringBuilder;" } : Jvm.MethodName) jdk_68_method_32_code (4 : Nat) (Option.some (Jvm.ClassFile.FieldType.object "java/lang/AbstractStringBuilder")), Jvm.Cond.code ({ cls := "java/lang/Integer", name := "stringSize", desc := "(I)I" } : Jvm.MethodName) jdk_33_method_13_code (4 : Nat) (Option.some Jvm.ClassFile.FieldType.int), Jvm.Cond.code ({ cls := "java/lang/Integer", name := "getChars", desc := "(II[B)I" } : Jvm.MethodName) jdk_33_method_12_code (7 : Nat) (Option.some Jvm.ClassFile.FieldType.int), Jvm.Cond.code ({ cls := "java/lang/StringBuilder", name := "toString", desc := "()Ljava/lang/String;" } : Jvm.MethodName) jdk_67_method_42_code (1 : Nat) (Option.some (Jvm.ClassFile.FieldType.object "java/lang/String")), Jvm.Cond.code ({ cls := "java/lang/String", name := "<init>", desc := "(Ljava/lang/StringBuilder;)V" } : Jvm.MethodName) jdk_42_method_53_code (2 : Nat) (Option.none : Option Jvm.ClassFile.FieldType), Jvm.Cond.code ({ cls := "java/lang/String", name := "<init>", desc := "(Ljava/lang/AbstractStringBuilder;Ljava/lang/Void;)V" } : Jvm.MethodName) jdk_42_method_150_code (5 : Nat) (Option.none : Option Jvm.ClassFile.FieldType), Jvm.Cond.code ({ cls := "java/lang/AbstractStringBuilder", name := "getValue", desc := "()[B" } : Jvm.MethodName) jdk_68_method_64_code (1 : Nat) (Option.some (Jvm.ClassFile.FieldType.array Jvm.ClassFile.FieldType.byte)), Jvm.Cond.code ({ cls := "java/lang/StringBuilder", name := "length", desc := "()I" } : Jvm.MethodName) jdk_67_method_93_code (1 : Nat) (Option.some Jvm.ClassFile.FieldType.int), Jvm.Cond.code ({ cls := "java/lang/AbstractStringBuilder", name := "length", desc := "()I" } : Jvm.MethodName) jdk_68_method_6_code (1 : Nat) (Option.some Jvm.ClassFile.FieldType.int), Jvm.Cond.code ({ cls := "java/util/Arrays", name := "copyOfRange", desc := "([BII)[B" } : Jvm.MethodName) jdk_65_method_132_code (3 : Nat) (Option.some (Jvm.ClassFile.FieldType.array Jvm.ClassFile.FieldType.byte)), Jvm.Cond.code ({ cls := "java/util/Arrays", name := "copyOfRangeByte", desc := "([BII)[B" } : Jvm.MethodName) jdk_65_method_133_code (5 : Nat) (Option.some (Jvm.ClassFile.FieldType.array Jvm.ClassFile.FieldType.byte)), Jvm.Cond.code ({ cls := "java/util/Arrays", name := "checkLength", desc := "(II)V" } : Jvm.MethodName) jdk_65_method_131_code (2 : Nat) (Option.none : Option Jvm.ClassFile.FieldType), Jvm.Cond.code ({ cls := "java/lang/Math", name := "min", desc := "(II)I" } : Jvm.MethodName) jdk_29_method_69_code (2 : Nat) (Option.some Jvm.ClassFile.FieldType.int), Jvm.Cond.code ({ cls := "com/example/kwhat/kwhat/ProRataToStringPinLaw", name := "digits", desc := "(J[J)I" } : Jvm.MethodName) method_3_code (4 : Nat) (Option.some Jvm.ClassFile.FieldType.int), Jvm.Cond.code ({ cls := "java/lang/String", name := "charAt", desc := "(I)C" } : Jvm.MethodName) jdk_42_method_56_code (2 : Nat) (Option.some Jvm.ClassFile.FieldType.char), Jvm.Cond.code ({ cls := "java/lang/String", name := "isLatin1", desc := "()Z" } : Jvm.MethodName) jdk_42_method_154_code (1 : Nat) (Option.some Jvm.ClassFile.FieldType.boolean), Jvm.Cond.code ({ cls := "java/lang/StringLatin1", name := "charAt", desc := "([BI)C" } : Jvm.MethodName) jdk_43_method_2_code (2 : Nat) (Option.some Jvm.ClassFile.FieldType.char), Jvm.Cond.code ({ cls := "java/lang/String", name := "checkIndex", desc := "(II)V" } : Jvm.MethodName) jdk_42_method_155_code (2 : Nat) (Option.none : Option Jvm.ClassFile.FieldType), Jvm.Cond.code ({ cls := "jdk/internal/util/Preconditions", name := "checkIndex", desc := "(IILjava/util/function/BiFunction;)I" } : Jvm.MethodName) jdk_41_method_11_code (3 : Nat) (Option.some Jvm.ClassFile.FieldType.int), Jvm.Cond.code ({ cls := "com/example/kwhat/kwhat/ProRataToStringPinLaw", name := "number", desc := "(Ljava/lang/String;IJI[J)Z" } : Jvm.MethodName) method_4_code (6 : Nat) (Option.some Jvm.ClassFile.FieldType.boolean), Jvm.Cond.code ({ cls := "com/example/kwhat/kwhat/ProRataToStringPinLaw", name := "d", desc := "(Ljava/lang/String;IJI[JI)Z" } : Jvm.MethodName) method_5_code (8 : Nat) (Option.some Jvm.ClassFile.FieldType.boolean), Jvm.Cond.code ({ cls := "java/lang/Math", name := "abs", desc := "(I)I" } : Jvm.MethodName) jdk_29_method_59_code (1 : Nat) (Option.some Jvm.ClassFile.FieldType.int), Jvm.Cond.code ({ cls := "java/lang/AbstractStringBuilder", name := "newCapacity", desc := "(I)I" } : Jvm.MethodName) jdk_68_method_10_code (6 : Nat) (Option.some Jvm.ClassFile.FieldType.int), Jvm.Cond.code ({ cls := "jdk/internal/util/ArraysSupport", name := "newLength", desc := "(III)I" } : Jvm.MethodName) jdk_48_method_27_code (4 : Nat) (Option.some Jvm.ClassFile.FieldType.int), Jvm.Cond.code ({ cls := "java/lang/Math", name := "max", desc := "(II)I" } : Jvm.MethodName) jdk_29_method_65_code (2 : Nat) (Option.some Jvm.ClassFile.FieldType.int), Jvm.Cond.code ({ cls := "java/util/Arrays", name := "copyOf", desc := "([BI)[B" } : Jvm.MethodName) jdk_65_method_121_code (3 : Nat) (Option.some (Jvm.ClassFile.FieldType.array Jvm.ClassFile.FieldType.byte))]
set_option maxRecDepth 65536 in
theorem codes_eq : words1.filter isCode = codes1 := rfl
theorem w_codes : ∀ c ∈ words1.filter isCode, c.before args0 about1 = true := by
  rw [codes_eq]
  intro c hc
  simp only [codes1, List.mem_cons, List.not_mem_nil, or_false] at hc
  rcases hc with rfl | rfl | rfl | rfl | rfl | rfl | rfl | rfl | rfl | rfl | rfl | rfl | rfl | rfl | rfl | rfl | rfl | rfl | rfl | rfl | rfl | rfl | rfl | rfl | rfl | rfl | rfl | rfl | rfl | rfl | rfl | rfl | rfl | rfl | rfl | rfl | rfl | rfl | rfl | rfl | rfl | rfl | rfl | rfl | rfl | rfl
  · exact w_c0
  · exact w_c1
  · exact w_c2
  · exact w_c3
  · exact w_c4
  · exact w_c5
  · exact w_c6
  · exact w_c7
  · exact w_c8
  · exact w_c9
  · exact w_c10
  · exact w_c11
  · exact w_c12
  · exact w_c13
  · exact w_c14
  · exact w_c15
  · exact w_c16
  · exact w_c17
  · exact w_c18
  · exact w_c19
  · exact w_c20
  · exact w_c21
  · exact w_c22
  · exact w_c23
  · exact w_c24
  · exact w_c25
  · exact w_c26
  · exact w_c27
  · exact w_c28
  · exact w_c29
  · exact w_c30
  · exact w_c31
  · exact w_c32
  · exact w_c33
  · exact w_c34
  · exact w_c35
  · exact w_c36
  · exact w_c37
  · exact w_c38
  · exact w_c39
  · exact w_c40
  · exact w_c41
  · exact w_c42
  · exact w_c43
  · exact w_c44
  · exact w_c45
set_option maxRecDepth 65536 in
theorem w_t1 : (words1.take 24).all (fun c => isCode c || c.before args0 about1) = true := by decide +kernel
set_option maxRecDepth 65536 in
theorem w_t2 : ((words1.drop 24).take 24).all (fun c => isCode c || c.before args0 about1) = true := by decide +kernel
set_option maxRecDepth 65536 in
theorem w_t3 : (((words1.drop 24).drop 24).take 24).all (fun c => isCode c || c.before args0 about1) = true := by decide +kernel
set_option maxRecDepth 65536 in
theorem w_t4 : ((((words1.drop 24).drop 24).drop 24).take 24).all (fun c => isCode c || c.before args0 about1) = true := by decide +kernel
set_option maxRecDepth 65536 in
theorem w_t5 : (((((words1.drop 24).drop 24).drop 24).drop 24).take 24).all (fun c => isCode c || c.before args0 about1) = true := by decide +kernel
set_option maxRecDepth 65536 in
theorem w_t6 : ((((((words1.drop 24).drop 24).drop 24).drop 24).drop 24).take 24).all (fun c => isCode c || c.before args0 about1) = true := by decide +kernel
set_option maxRecDepth 65536 in
theorem w_t7 : (((((((words1.drop 24).drop 24).drop 24).drop 24).drop 24).drop 24).take 24).all (fun c => isCode c || c.before args0 about1) = true := by decide +kernel
set_option maxRecDepth 65536 in
theorem w_t8 : ((((((((words1.drop 24).drop 24).drop 24).drop 24).drop 24).drop 24).drop 24).take 24).all (fun c => isCode c || c.before args0 about1) = true := by decide +kernel
set_option maxRecDepth 65536 in
theorem w_t9 : (((((((((words1.drop 24).drop 24).drop 24).drop 24).drop 24).drop 24).drop 24).drop 24).take 24).all (fun c => isCode c || c.before args0 about1) = true := by decide +kernel
set_option maxRecDepth 65536 in
theorem w_t10 : ((((((((((words1.drop 24).drop 24).drop 24).drop 24).drop 24).drop 24).drop 24).drop 24).drop 24).take 24).all (fun c => isCode c || c.before args0 about1) = true := by decide +kernel
set_option maxRecDepth 65536 in
theorem w_t11 : ((((((((((words1.drop 24).drop 24).drop 24).drop 24).drop 24).drop 24).drop 24).drop 24).drop 24).drop 24).all (fun c => isCode c || c.before args0 about1) = true := by decide +kernel
theorem w_tables : (allAtoms (Jvm.Cond.code x code maxLocals ret :: tables_1)).before args0 about1 = true := by
  rw [allAtoms_all]
  show words1.all (fun c => c.before args0 about1) = true
  refine all_split ?_ w_codes
  rw [← List.take_append_drop 24 words1, List.all_append, w_t1, ← List.take_append_drop 24 (words1.drop 24), List.all_append, w_t2, ← List.take_append_drop 24 ((words1.drop 24).drop 24), List.all_append, w_t3, ← List.take_append_drop 24 (((words1.drop 24).drop 24).drop 24), List.all_append, w_t4, ← List.take_append_drop 24 ((((words1.drop 24).drop 24).drop 24).drop 24), List.all_append, w_t5, ← List.take_append_drop 24 (((((words1.drop 24).drop 24).drop 24).drop 24).drop 24), List.all_append, w_t6, ← List.take_append_drop 24 ((((((words1.drop 24).drop 24).drop 24).drop 24).drop 24).drop 24), List.all_append, w_t7, ← List.take_append_drop 24 (((((((words1.drop 24).drop 24).drop 24).drop 24).drop 24).drop 24).drop 24), List.all_append, w_t8, ← List.take_append_drop 24 ((((((((words1.drop 24).drop 24).drop 24).drop 24).drop 24).drop 24).drop 24).drop 24), List.all_append, w_t9, ← List.take_append_drop 24 (((((((((words1.drop 24).drop 24).drop 24).drop 24).drop 24).drop 24).drop 24).drop 24).drop 24), List.all_append, w_t10, w_t11]
  rfl
set_option maxRecDepth 65536 in
theorem w_rest : rest_1_c.before args0 about1 = true := by decide +kernel
set_option maxRecDepth 65536 in
theorem w_case : (Jvm.Cond.and given_1 narrow_1).before args0 about1 = true := by decide +kernel
set_option maxRecDepth 65536 in
theorem w_consts : constsHeld consts_1 about1 := Jvm.Lit.constsHeldB_iff.mp (by decide +kernel)
theorem w_applies : (headSpec (Jvm.Cond.code x code maxLocals ret :: tables_1) room_1).applies x e0.platform about1 = true :=
  (Spec.applies_iff w_frames).mpr ⟨w_running, w_runnable, w_alone, w_named, w_hears, w_ripe, w_room, w_tables⟩
theorem atStart : AtStart classFile x code maxLocals ret World_1 tables_1 room_1 Calls_1 rest_1 Pre_1 launch0 p0 e0 about1 theMethod args0 below0 :=
  ⟨lists_1, trivial, launch0.admits_env _ _ _, launch0.least_env, fairChoices_fair.cas, fairChoices_fair.clock, w_frames, w_args, w_heap, w_applies, ⟨w_consts, trivial⟩, w_rest, w_case⟩
end start1
theorem witness_1 : WitnessClaimed_1 := ⟨start1.p0, start1.e0, start1.about1, start1.theMethod, start1.args0, start1.below0, start1.atStart⟩
end Jvm.Pilot.@@N@@
