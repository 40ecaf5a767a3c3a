import JvmDerived
import JvmDerived.Pilot.@@N@@Statement
import JvmDerived.Pilot.@@N@@Code
set_option linter.unusedVariables false
set_option linter.unusedSimpArgs false
namespace Jvm.RoadKit
open Sem ClassFile Op Lib Jvm.Stand Jvm.Free Jvm.LawKit
section New
variable {p : Program} {l : Launch} {e : Env} {R : Room} {s : State} {m : MethodId} {args : Array Value} {below : List Frame} {meth : Method} {c : Code} {T : State} {locs : List Loc} {cells slots : Nat}
theorem retI (X : Stand p l e R s m args below meth c T locs cells slots) (hx : p.tables.exec = Jvm.exec) {pc : Nat} {Ls : Array Slot} {z : Int32} {rest : List Value} (hret : meth.sig.returnType = some .int) (hd : decode c.code pc = .ok (.ireturn, 1)) {fs : List Frame}
    (hl : ∀ (f : JFrame) (acts : List Action), f.method = m → f.locked = none → f.entered = [] → (doReturn e (T.setTop f) acts (some (.int z))).1 = T.setFrames fs) : Steps p.tables e below (T.setTop (mkF m pc Ls (.int z :: rest))) (T.setFrames fs) := by
  have hm' : T.vm.method? m = some meth := X.method'
  have hn : narrow .int (.int z) = .int z := rfl
  show Steps p.tables e below (T.setTop { method := m, pc := pc, locals := Ls, stack := _ :: rest, locked := none }) _
  jvm_step X.here [X.here.top, hx, hd, hm', hret, hn]
  first | (intro acts; rw [hl _ acts rfl rfl rfl]) | rw [hl _ _ rfl rfl rfl]
  exact Steps.refl _
end New
end Jvm.RoadKit
namespace Jvm.Pilot.@@N@@
open Jvm Jvm.ClassFile Sem Op Lib Jvm.Free Jvm.Stand Jvm.LawKit Jvm.RoadKit Bundle Jvm.Pilot.@@N@@.Jvm.D
def OwnFin (tb : Tables) (e : Env) (below : List Frame) (G : Outcome → State → Prop) (t : State) : Prop := ∃ s₂ o, Steps tb e below t s₂ ∧ s₂.status = .running ∧ Ended s₂ below o ∧ G o s₂
theorem OwnFin.st {tb : Tables} {e : Env} {below : List Frame} {G : Outcome → State → Prop} {t t' : State} (k : ∀ target, Steps tb e below t' target → Steps tb e below t target) (h : OwnFin tb e below G t') : OwnFin tb e below G t := by
  obtain ⟨s2, o, h1, h2⟩ := h
  exact ⟨s2, o, k _ h1, h2⟩
theorem w_ {Z : State} {a0 : Array Value} (hw : ∀ d ∈ tables_1, d.before a0 Z = true) (i : Nat) {d : Jvm.Cond} (h : tables_1[i]? = some d) : d.before a0 Z = true := hw _ (List.mem_of_getElem? h)
theorem OwnFin.tr {tb : Tables} {e : Env} {below : List Frame} {G : Outcome → State → Prop} {t t' : State} (k : Steps tb e below t t') (h : OwnFin tb e below G t') : OwnFin tb e below G t := by
  obtain ⟨s2, o, h1, h2⟩ := h
  exact ⟨s2, o, k.trans h1, h2⟩
theorem own_nari2c {x : Int32} : nar .char (x.toUInt32.toUInt16.toUInt32.toInt32) = x.toUInt32.toUInt16.toUInt32.toInt32 := by simp only [nar, UInt32.toUInt32_toInt32, UInt16.toUInt16_toUInt32]
theorem own_nari2b {x : Int32} : x.toInt8.toInt32.toInt8.toInt32 = x.toInt8.toInt32 := by simp
theorem own_narc {x : Int32} (h1 : ¬ x < (0 : Int32)) (h2 : ¬ (255 : Int32) < x) : nar .char x = x := by
  have e := c_i2c x
  rw [Int32.lt_iff_toInt_lt] at h1 h2
  rw [← Int32.toInt_inj]
  show x.toUInt32.toUInt16.toUInt32.toInt32.toInt = x.toInt
  have r0 : (0 : Int32).toInt = 0 := rfl
  have r1 : (255 : Int32).toInt = 255 := rfl
  omega
theorem own_i2bne {x y : Int32} (h1 : ¬ x < (0 : Int32)) (h2 : ¬ (255 : Int32) < x) (h3 : ¬ y < (0 : Int32)) (h4 : ¬ (255 : Int32) < y) (h : ¬ x = y) : ¬ x.toInt8.toInt32 = y.toInt8.toInt32 := fun q => by
  have e := c_i2b x
  have e' := c_i2b y
  rw [Int32.lt_iff_toInt_lt] at h1 h2 h3 h4
  rw [← Int32.toInt_inj] at h q
  have r0 : (0 : Int32).toInt = 0 := rfl
  have r1 : (255 : Int32).toInt = 255 := rfl
  omega
theorem own_iteref {P : Prop} [Decidable P] {a b : Value} (ha : a.isRef = true) (hb : b.isRef = true) : (if P then a else b).isRef = true := by split <;> assumption
theorem own_fits {C : String} {v : Value} (h : v.isRef = true) : fits (.object C) v = true := by
  rcases ref_cases h with rfl | ⟨a, rfl⟩ <;> rfl
theorem own_safe {Z : State} {EL : List (String × Nat)} {vm : Vm} {h : Heap} {x : Addr} (hal : Z.vm.Alike vm) (E : Exa Z h x "java/lang/String") (F : Fld Z h x "java/lang/String" "value" "[B" .null) : Safe Z EL vm h x := fun B => by
  obtain ⟨cell, k, e1, e2, e3, -, -⟩ := E
  obtain ⟨cell', cf, kf, i, f, f1, f2, f3, f4, f5, f6, f7⟩ := F
  cases e1.symm.trans f1
  obtain ⟨p, -, u, a, -, q, -, G, rfl | rfl⟩ := B
  · cases (show h[q.sa]? = some q.sC from G.ha).symm.trans e1
    obtain ⟨cS, ⟨⟨-, -, -, ⟨c1, k1, i1, g1, -⟩, -, -, -, v1, -⟩, -⟩, -⟩ := G
    obtain ⟨k3, e3', -⟩ := State.fieldFound?_setVm (s := { Z with heap := h }) (vm' := vm) hal f2
    have e4 := (show (Wst Z vm h).fieldFound? _ _ _ = _ from e3').symm.trans g1
    simp only [Option.some.injEq, Prod.mk.injEq] at e4
    rw [← e4.2.2.2, f7] at v1
    cases v1
  · cases (show h[q.sd]? = some q.SA from G.hd).symm.trans e1
    obtain ⟨cS, -, -, g, -⟩ := G
    have g' : vm.findClass "[B" = some q.SA.cls := g
    rw [hal.findClass] at g'
    obtain ⟨k1, q1, q2⟩ := Vm.findClass_spec g'
    obtain ⟨k2, q3, q4⟩ := Vm.findClass_spec e2
    cases q1.symm.trans q3
    have : "[B" = "java/lang/String" := q2.symm.trans q4
    simp at this
theorem own_eqv {args : Array Value} {first s : State} {o : Option Outcome} {idx : List Nat} {t : Term} {n : Int32} {x : Value} (h : (Jvm.Cond.eq t (Term.int n)).value args first o s idx = some true) (e : t.eval args first o idx s = some x) : x = .int n := by
  cases x <;> simp_all [Cond.value, Term.eval]
theorem own_isr {args : Array Value} {first s : State} {o : Option Outcome} {idx : List Nat} {t : Term} (h : (Jvm.Cond.isRef t).value args first o s idx = some true) : ∃ x, t.eval args first o idx s = some x ∧ x.isRef = true := by
  simp only [Cond.value] at h; cases ht : t.eval args first o idx s with
  | none => simp [ht] at h
  | some x => simp [ht] at h; exact ⟨x, rfl, h⟩
def own_ml (z : Int32) (f : Nat → Int32) : List Value := (List.range z.toNatClampNeg).map fun i => Value.int (f i)
def own_at (f : Nat → Int32) (j : Int32) : Int32 := f j.toNatClampNeg
def own_upd (f : Nat → Int32) (j v : Int32) : Nat → Int32 := fun i => if i = j.toNatClampNeg then v else f i
def own_zf : Nat → Int32 := fun _ => 0
def own_lf (l : List Int32) : Nat → Int32 := fun i => l.getD i 0
theorem own_idx {z j : Int32} (h : ¬ j < 0 ∧ j < z) : j.toNatClampNeg < z.toNatClampNeg := by
  obtain ⟨h1, h2⟩ := h; rw [Int32.lt_iff_toInt_lt] at h1 h2; have r : (0 : Int32).toInt = 0 := rfl; simp only [Int32.toNatClampNeg]; omega
theorem own_mlat (f : Nat → Int32) {z j : Int32} (h : ¬ j < 0 ∧ j < z) : (own_ml z f).getD j.toNatClampNeg (.int 0) = .int (own_at f j) := by
  have q := own_idx h; simp only [own_ml, own_at, List.getD_eq_getElem?_getD, List.getElem?_map, List.getElem?_range q]; rfl
theorem own_mllen (z : Int32) (f : Nat → Int32) : (own_ml z f).length = z.toNatClampNeg := by simp [own_ml]
theorem own_mlset (z : Int32) (f : Nat → Int32) (j v : Int32) : (own_ml z f).set j.toNatClampNeg (.int v) = own_ml z (own_upd f j v) := by
  refine List.ext_getElem (by simp [own_ml]) fun i h1 h2 => ?_
  simp only [own_ml, own_upd, List.getElem_set, List.getElem_map, List.getElem_range]
  by_cases q : j.toNatClampNeg = i
  · simp [q]
  · simp [q, Ne.symm q]
theorem own_mlnew (z : Int32) : ∀ i, (own_ml z own_zf).getD i (.int 0) = ([] : List Value).getD i (.int 0) := fun i => by
  simp only [own_ml, own_zf, List.getD_eq_getElem?_getD, List.getElem?_map]; cases (List.range z.toNatClampNeg)[i]? <;> rfl
theorem own_mll {z : Int32} {l : List Int32} (h : z.toNatClampNeg = l.length) : own_ml z (own_lf l) = l.map Value.int := by
  refine List.ext_getElem (by simp [own_ml, h]) fun i h1 h2 => ?_
  have q : i < l.length := by simpa using h2
  simp [own_ml, own_lf, q]
theorem own_toml {Z : State} {h : Heap} {b : Addr} {k : ClassId} {ty : FieldType} {z : Int32} {dv : Value} (l : List Int32) (e : z.toNatClampNeg = l.length) (F : Arv Z h b k ty z (l.map Value.int) dv) : Arv Z h b k ty z (own_ml z (own_lf l)) dv := by rw [own_mll e]; exact F
theorem own_mlcong {Z : State} {h : Heap} {b : Addr} {k : ClassId} {ty : FieldType} {z : Int32} {dv : Value} {f g : Nat → Int32} (e : f = g) (F : Arv Z h b k ty z (own_ml z f) dv) : Arv Z h b k ty z (own_ml z g) dv := e ▸ F
theorem own_wS {Z : State} {a0 : Array Value} (hw : ∀ d ∈ tables_1, d.before a0 Z = true) : ∀ a ∈ Bundle.stringAtoms, a.before a0 Z = true := by
  intro a ha
  simp only [Bundle.stringAtoms, List.mem_cons, List.not_mem_nil, or_false] at ha
  rcases ha with rfl | rfl | rfl | rfl | rfl | rfl | rfl
  · exact (w_ hw 22 rfl)
  · exact (w_ hw 21 rfl)
  · exact (w_ hw 34 rfl)
  · exact (w_ hw 35 rfl)
  · exact (w_ hw 36 rfl)
  · exact (w_ hw 37 rfl)
  · exact (w_ hw 38 rfl)
def own_EL : List (String × Nat) := [("java/lang/String", 7)]
theorem own_EW {Z : State} {a0 : Array Value} (hw : ∀ d ∈ tables_1, d.before a0 Z = true) : EW Z a0 own_EL := (EW.cons (w_ hw 33 rfl) (by decide) EW.nil)
theorem own_ELc : ∀ p ∈ own_EL, p ∈ consts_1 := by decide
abbrev yM0 : MethodName := ⟨"java/lang/StringUTF16", "getChar", "([BI)C"⟩
abbrev yM1 : MethodName := ⟨"java/lang/Character", "isHighSurrogate", "(C)Z"⟩
abbrev yM2 : MethodName := ⟨"java/lang/Character", "isLowSurrogate", "(C)Z"⟩
abbrev yM3 : MethodName := ⟨"java/lang/Character", "toCodePoint", "(CC)I"⟩
abbrev yM4 : MethodName := ⟨"java/lang/StringUTF16", "codePointAt", "([BIIZ)I"⟩
abbrev yM5 : MethodName := ⟨"java/lang/StringUTF16", "codePointAt", "([BII)I"⟩
abbrev yM6 : MethodName := ⟨"java/lang/String", "isLatin1", "()Z"⟩
abbrev yM7 : MethodName := ⟨"java/lang/String", "coder", "()B"⟩
abbrev yM8 : MethodName := ⟨"java/lang/String", "length", "()I"⟩
abbrev yM9 : MethodName := ⟨"jdk/internal/util/Preconditions", "checkIndex", "(IILjava/util/function/BiFunction;)I"⟩
abbrev yM10 : MethodName := ⟨"java/lang/String", "checkIndex", "(II)V"⟩
abbrev yM11 : MethodName := ⟨"java/lang/String", "codePointAt", "(I)I"⟩
abbrev yM12 : MethodName := ⟨"java/lang/Integer", "compare", "(II)I"⟩
abbrev yM13 : MethodName := ⟨"java/lang/Character", "charCount", "(I)I"⟩
abbrev yM14 : MethodName := ⟨"com/example/libaccrue/libaccrue/records/TextOrder", "compare", "(Ljava/lang/String;Ljava/lang/String;)I"⟩
abbrev yM15 : MethodName := ⟨"java/lang/StringUTF16", "compress", "([CI[BII)I"⟩
abbrev yM16 : MethodName := ⟨"java/lang/StringUTF16", "putChar", "([BII)V"⟩
abbrev yM17 : MethodName := ⟨"java/lang/StringUTF16", "newBytesLength", "(I)I"⟩
abbrev yM18 : MethodName := ⟨"java/lang/StringUTF16", "newBytesFor", "(I)[B"⟩
abbrev yM19 : MethodName := ⟨"java/lang/StringUTF16", "toBytes", "([CII)[B"⟩
abbrev yM20 : MethodName := ⟨"java/lang/StringUTF16", "coderFromArrayLen", "([BI)B"⟩
abbrev yM21 : MethodName := ⟨"java/lang/StringUTF16", "compress", "([CII)[B"⟩
abbrev yM22 : MethodName := ⟨"java/lang/String", "<init>", "([CIILjava/lang/Void;)V"⟩
abbrev yM23 : MethodName := ⟨"java/lang/String", "<init>", "([C)V"⟩
abbrev yM24 : MethodName := ⟨"com/example/libaccrue/libaccrue/records/TextOrderComparePinLaw", "width", "(III)I"⟩
abbrev yM25 : MethodName := ⟨"com/example/libaccrue/libaccrue/records/TextOrderComparePinLaw", "put", "([CIIII)I"⟩
abbrev yM26 : MethodName := ⟨"com/example/libaccrue/libaccrue/records/TextOrderComparePinLaw", "build", "(IIII)Ljava/lang/String;"⟩
abbrev yM27 : MethodName := ⟨"com/example/libaccrue/libaccrue/records/TextOrderComparePinLaw", "cp", "(J)I"⟩
abbrev yM28 : MethodName := ⟨"com/example/libaccrue/libaccrue/records/TextOrderComparePinLaw", "fix", "(III)I"⟩
abbrev yM29 : MethodName := ⟨"com/example/libaccrue/libaccrue/records/TextOrderComparePinLaw", "sign", "(I)I"⟩
abbrev yM30 : MethodName := ⟨"com/example/libaccrue/libaccrue/records/TextOrderComparePinLaw", "ref", "(IIIIIIII)I"⟩
theorem own_gb1 {i n z : Int32} (h : 0 ≤ i.toInt ∧ i.toInt < n.toInt ∧ 2 * n.toInt ≤ z.toInt) : 0 ≤ i.toInt ∧ 2 * i.toInt + 1 < z.toInt := by omega
theorem own_gb2 {i n z : Int32} (h : 0 ≤ i.toInt ∧ i.toInt < n.toInt ∧ 2 * n.toInt ≤ z.toInt) (q : (i + (1 : Int32)) < n) : 0 ≤ (i + (1 : Int32)).toInt ∧ 2 * (i + (1 : Int32)).toInt + 1 < z.toInt := by
  have a := c_iadd i (1 : Int32); have a' := rng32 (i + (1 : Int32)); have b := rng32 i; have d := rng32 n; have e := rng32 z; have r : (1 : Int32).toInt = 1 := rfl
  rw [Int32.lt_iff_toInt_lt] at q; omega
theorem own_ix0 {i z : Int32} (h : 0 ≤ i.toInt ∧ 2 * i.toInt + 1 < z.toInt) : ¬ (i <<< ((1 : Int32) &&& 31)) < 0 ∧ (i <<< ((1 : Int32) &&& 31)) < z := by
  have a := c_ishl i (1 : Int32) 1 (by decide +kernel); have a' := rng32 (i <<< ((1 : Int32) &&& 31)); have b := rng32 i; have e := rng32 z; have r : (0 : Int32).toInt = 0 := rfl
  rw [Int32.lt_iff_toInt_lt, Int32.lt_iff_toInt_lt]; omega
theorem own_ix1 {i z : Int32} (h : 0 ≤ i.toInt ∧ 2 * i.toInt + 1 < z.toInt) : ¬ ((i <<< ((1 : Int32) &&& 31)) + (1 : Int32)) < 0 ∧ ((i <<< ((1 : Int32) &&& 31)) + (1 : Int32)) < z := by
  have a := c_ishl i (1 : Int32) 1 (by decide +kernel); have a' := rng32 (i <<< ((1 : Int32) &&& 31)); have a2 := c_iadd (i <<< ((1 : Int32) &&& 31)) (1 : Int32); have a2' := rng32 ((i <<< ((1 : Int32) &&& 31)) + (1 : Int32)); have b := rng32 i; have e := rng32 z; have r : (0 : Int32).toInt = 0 := rfl; have r1 : (1 : Int32).toInt = 1 := rfl
  rw [Int32.lt_iff_toInt_lt, Int32.lt_iff_toInt_lt]; omega
def own_gc (s0 : Nat → Int32) (p1 : Int32) : Int32 := (((((own_at s0 (p1 <<< ((1 : Int32) &&& 31))) &&& (255 : Int32)) <<< ((0 : Int32) &&& 31)) ||| (((own_at s0 ((p1 <<< ((1 : Int32) &&& 31)) + (1 : Int32))) &&& (255 : Int32)) <<< ((8 : Int32) &&& 31))).toUInt32.toUInt16.toUInt32.toInt32)
theorem d27_0 : decode jdk_52_method_5_code 0 = .ok (.getstatic 44, 3) := by decide +kernel
theorem d27_3 : decode jdk_52_method_5_code 3 = .ok (.ifCond .ne 25, 3) := by decide +kernel
theorem d27_28 : decode jdk_52_method_5_code 28 = .ok (.iload_n 1, 1) := by decide +kernel
theorem d27_29 : decode jdk_52_method_5_code 29 = .ok (.iconst 1, 1) := by decide +kernel
theorem d27_30 : decode jdk_52_method_5_code 30 = .ok (.ishl, 1) := by decide +kernel
theorem d27_31 : decode jdk_52_method_5_code 31 = .ok (.istore_n 1, 1) := by decide +kernel
theorem d27_32 : decode jdk_52_method_5_code 32 = .ok (.aload_n 0, 1) := by decide +kernel
theorem d27_33 : decode jdk_52_method_5_code 33 = .ok (.iload_n 1, 1) := by decide +kernel
theorem d27_34 : decode jdk_52_method_5_code 34 = .ok (.iinc 1 1, 3) := by decide +kernel
theorem d27_37 : decode jdk_52_method_5_code 37 = .ok (.baload, 1) := by decide +kernel
theorem d27_38 : decode jdk_52_method_5_code 38 = .ok (.sipush 255, 3) := by decide +kernel
theorem d27_41 : decode jdk_52_method_5_code 41 = .ok (.iand, 1) := by decide +kernel
theorem d27_42 : decode jdk_52_method_5_code 42 = .ok (.getstatic 59, 3) := by decide +kernel
theorem d27_45 : decode jdk_52_method_5_code 45 = .ok (.ishl, 1) := by decide +kernel
theorem d27_46 : decode jdk_52_method_5_code 46 = .ok (.aload_n 0, 1) := by decide +kernel
theorem d27_47 : decode jdk_52_method_5_code 47 = .ok (.iload_n 1, 1) := by decide +kernel
theorem d27_48 : decode jdk_52_method_5_code 48 = .ok (.baload, 1) := by decide +kernel
theorem d27_49 : decode jdk_52_method_5_code 49 = .ok (.sipush 255, 3) := by decide +kernel
theorem d27_52 : decode jdk_52_method_5_code 52 = .ok (.iand, 1) := by decide +kernel
theorem d27_53 : decode jdk_52_method_5_code 53 = .ok (.getstatic 63, 3) := by decide +kernel
theorem d27_56 : decode jdk_52_method_5_code 56 = .ok (.ishl, 1) := by decide +kernel
theorem d27_57 : decode jdk_52_method_5_code 57 = .ok (.ior, 1) := by decide +kernel
theorem d27_58 : decode jdk_52_method_5_code 58 = .ok (.i2c, 1) := by decide +kernel
theorem d27_59 : decode jdk_52_method_5_code 59 = .ok (.ireturn, 1) := by decide +kernel
theorem pn_0 : plainName "java/lang/StringUTF16" = true := by first | (simp [plainName, overriddenIn]; done) | decide +kernel
theorem ef_rm_gc (m : MethodId) (a0 : Addr) (p1 : Int32) : entryFrame m #[(.ref a0), (.int p1)] 2 = mkF m 0 #[.val (.ref a0), .val (.int p1)] [] := by first | (simp [entryFrame, mkF, argsToLocals, Value.category]; done) | rfl
def Q_rm_gc (Z : State) (a0 : Addr) (p1 : Int32) (k_a0 : ClassId) (z0 : Int32) (s0 : Nat → Int32) (h0 : Heap) (n0 : Nat) (v : Option Value) (h : Heap) (L : List Loc) : Prop := v = some (.int (own_gc s0 p1)) ∧ Fr n0 L ∧ h = h0
set_option maxRecDepth 65536 in
set_option maxHeartbeats 40000000 in
theorem rm_gc (l : Launch) (Z : State) (av0 : Array Value) (hw : ∀ d ∈ tables_1, d.before av0 Z = true) (ws : List Jvm.Cond) (a0 : Addr) (p1 : Int32) (k_a0 : ClassId) (z0 : Int32) (s0 : Nat → Int32) (h0 : Heap) (n0 : Nat) (Z0 : n0 ≤ h0.size) (Ol0 : Old Z n0 h0) (V_a0 : Arv Z h0 a0 k_a0 .byte z0 (own_ml z0 s0) (.int 0)) (hgb : 0 ≤ p1.toInt ∧ 2 * p1.toInt + 1 < z0.toInt) (S__assertionsDisabled : Sta Z Z.heap "java/lang/StringUTF16" "$assertionsDisabled" "Z" (.int 1)) (S_HI_BYTE_SHIFT : Sta Z Z.heap "java/lang/StringUTF16" "HI_BYTE_SHIFT" "I" (.int 0)) (S_LO_BYTE_SHIFT : Sta Z Z.heap "java/lang/StringUTF16" "LO_BYTE_SHIFT" "I" (.int 8)) :
    MetFree l yM0 (head1 (Jvm.Cond.code yM0 jdk_52_method_5_code 2 (some .char) :: ws) ({ frames := 0, cells := 0, slots := 0, locals := 0 } : Room)) (fun a U => a = #[(.ref a0), (.int p1)] ∧ Z.Warmed39 U.vm ∧ U.heap = h0) (fun _ _ _ _ _ => True) (fun _ U o U' => ∃ v L, o = .returned v ∧ Q_rm_gc Z a0 p1 k_a0 z0 s0 h0 n0 v U'.heap L ∧ FrameEnd U o U' L ({ frames := 0, cells := 0, slots := 0, locals := 0 } : Room).cells ({ frames := 0, cells := 0, slots := 0, locals := 0 } : Room).slots) := by
  refine MetFree.of_bodySF (plainFor_of_name pn_0) hisR ?_
  intro p e s m args below meth c s₁ Bd hml0 hP hK
  obtain ⟨rfl, hZ, hh⟩ := hP
  have hx := Bd.exec
  have hby := Bd.bytes
  have hml : c.maxLocals = 2 := hml0
  have hown : s.vm.findClass "java/lang/StringUTF16" = some m.cls := findClass_of_methodNamed Bd.named
  have hnm := (name_of_methodNamed Bd.named Bd.method).1
  have X0 : Stand p l e ({ frames := 0, cells := 0, slots := 0, locals := 0 } : Room) s m #[(.ref a0), (.int p1)] below meth c s₁ [] 0 0 := Stand.of_body Bd
  have e0 : s₁.heap = h0 := by rw [← hh, Bd.state]; rfl
  have N0 := Fr.nil n0
  have pre0 : ∀ t, Steps p.tables e below (s₁.setTop (mkF m 0 #[.val (.ref a0), .val (.int p1)] [])) t → Steps p.tables e below (s₁.setTop (entryFrame m #[(.ref a0), (.int p1)] 2)) t := fun t k => castTop (ef_rm_gc m a0 p1) k
  change OwnFin p.tables e below _ (s₁.setTop (entryFrame m #[(.ref a0), (.int p1)] 2))
  have kp0 : Keep h0 h0 [] := Keep.refl _ _
  refine OwnFin.st (fun _ q => pre0 _ q) ?_
  show OwnFin _ _ _ _ (s₁.setTop (mkF m 0 #[.val (.ref a0), .val (.int p1)] []))
  obtain ⟨T1, X1, e1, st1⟩ := getS2 X0 hx hZ hown (host := "") (Or.inl (w_ hw 116 rfl)) Via.refl e0 (S__assertionsDisabled.ext Ol0.2) (g := (mkF m 0 #[.val (.ref a0), .val (.int p1)] [])) rfl (hb hby d27_0)
  refine OwnFin.st st1 ?_
  show OwnFin _ _ _ _ (T1.setTop (mkF m 3 _ [(.int 1)]))
  refine OwnFin.st (fun _ q => XS.ifYes X1.here hx rfl (pc0 := 3) (pc' := 28) rfl (hb hby d27_3) rfl (Jvm.Free.XT.i0_ne_t (by decide : ¬ ((1 : Int32) = (0 : Int32)))) (by decide) (by decide) q) ?_
  show OwnFin _ _ _ _ (T1.setTop (mkF m 28 _ []))
  refine OwnFin.st (fun _ q => XS.iloadN X1.here hx rfl (hb hby d27_28) rfl q) ?_
  show OwnFin _ _ _ _ (T1.setTop (mkF m 29 _ [(.int p1)]))
  refine OwnFin.st (fun _ q => XS.iconst X1.here hx rfl (hb hby d27_29) q) ?_
  show OwnFin _ _ _ _ (T1.setTop (mkF m 30 _ [(.int 1), (.int p1)]))
  refine OwnFin.st (fun _ q => XS.ishl X1.here hx rfl (hb hby d27_30) rfl q) ?_
  show OwnFin _ _ _ _ (T1.setTop (mkF m 31 _ [(.int (p1 <<< ((1 : Int32) &&& 31)))]))
  refine OwnFin.st (fun _ q => XS.istoreN X1.here hx rfl (hb hby d27_31) rfl (l' := #[.val (.ref a0), .val (.int (p1 <<< ((1 : Int32) &&& 31)))]) rfl q) ?_
  show OwnFin _ _ _ _ (T1.setTop (mkF m 32 _ []))
  refine OwnFin.st (fun _ q => XS.aloadN X1.here hx rfl (hb hby d27_32) rfl rfl q) ?_
  show OwnFin _ _ _ _ (T1.setTop (mkF m 33 _ [(.ref a0)]))
  refine OwnFin.st (fun _ q => XS.iloadN X1.here hx rfl (hb hby d27_33) rfl q) ?_
  show OwnFin _ _ _ _ (T1.setTop (mkF m 34 _ [(.int (p1 <<< ((1 : Int32) &&& 31))), (.ref a0)]))
  refine OwnFin.st (fun _ q => XS.iinc X1.here hx rfl (hb hby d27_34) rfl (l' := #[.val (.ref a0), .val (.int ((p1 <<< ((1 : Int32) &&& 31)) + (1 : Int32)))]) rfl q) ?_
  show OwnFin _ _ _ _ (T1.setTop (mkF m 37 _ [(.int (p1 <<< ((1 : Int32) &&& 31))), (.ref a0)]))
  have Vo2 : Arv Z h0 a0 k_a0 .byte z0 (own_ml z0 s0) (.int 0) := V_a0
  obtain ⟨cl2, Ar2, qa2, Sa2, Na2, Ha2, Ga2⟩ := id Vo2
  have hib2 : ¬ (p1 <<< ((1 : Int32) &&& 31)) < 0 ∧ (p1 <<< ((1 : Int32) &&& 31)) < z0 := (own_ix0 hgb)
  have hin2 := inb_of Sa2 hib2
  refine OwnFin.st (X1.baloadBytes hx (j := (p1 <<< ((1 : Int32) &&& 31))) (v := (.int (own_at s0 (p1 <<< ((1 : Int32) &&& 31))))) (by rw [e1]; exact Ar2.1) (State.isArrayOf_alike (hZ).alike Ar2.2.1) Ar2.2.2 hin2 (Ha2.at hin2 (own_mlat _ hib2)) (g := (mkF m 37 #[.val (.ref a0), .val (.int ((p1 <<< ((1 : Int32) &&& 31)) + (1 : Int32)))] [(.int (p1 <<< ((1 : Int32) &&& 31))), (.ref a0)])) rfl rfl (hb hby d27_37)) ?_
  show OwnFin _ _ _ _ (T1.setTop (mkF m 38 _ [(.int (own_at s0 (p1 <<< ((1 : Int32) &&& 31))))]))
  refine OwnFin.st (fun _ q => XS.sipush X1.here hx rfl (hb hby d27_38) q) ?_
  show OwnFin _ _ _ _ (T1.setTop (mkF m 41 _ [(.int 255), (.int (own_at s0 (p1 <<< ((1 : Int32) &&& 31))))]))
  refine OwnFin.st (fun _ q => XS.iand X1.here hx rfl (hb hby d27_41) rfl q) ?_
  show OwnFin _ _ _ _ (T1.setTop (mkF m 42 _ [(.int ((own_at s0 (p1 <<< ((1 : Int32) &&& 31))) &&& (255 : Int32)))]))
  obtain ⟨T3, X3, e3, st3⟩ := getS2 X1 hx hZ hown (host := "") (Or.inl (w_ hw 117 rfl)) Via.refl e1 (S_HI_BYTE_SHIFT.ext Ol0.2) (g := (mkF m 42 #[.val (.ref a0), .val (.int ((p1 <<< ((1 : Int32) &&& 31)) + (1 : Int32)))] [(.int ((own_at s0 (p1 <<< ((1 : Int32) &&& 31))) &&& (255 : Int32)))])) rfl (hb hby d27_42)
  refine OwnFin.st st3 ?_
  show OwnFin _ _ _ _ (T3.setTop (mkF m 45 #[.val (.ref a0), .val (.int ((p1 <<< ((1 : Int32) &&& 31)) + (1 : Int32)))] [(.int 0), (.int ((own_at s0 (p1 <<< ((1 : Int32) &&& 31))) &&& (255 : Int32)))]))
  refine OwnFin.st (fun _ q => XS.ishl X3.here hx rfl (hb hby d27_45) rfl q) ?_
  show OwnFin _ _ _ _ (T3.setTop (mkF m 46 _ [(.int (((own_at s0 (p1 <<< ((1 : Int32) &&& 31))) &&& (255 : Int32)) <<< ((0 : Int32) &&& 31)))]))
  refine OwnFin.st (fun _ q => XS.aloadN X3.here hx rfl (hb hby d27_46) rfl rfl q) ?_
  show OwnFin _ _ _ _ (T3.setTop (mkF m 47 _ [(.ref a0), (.int (((own_at s0 (p1 <<< ((1 : Int32) &&& 31))) &&& (255 : Int32)) <<< ((0 : Int32) &&& 31)))]))
  refine OwnFin.st (fun _ q => XS.iloadN X3.here hx rfl (hb hby d27_47) rfl q) ?_
  show OwnFin _ _ _ _ (T3.setTop (mkF m 48 _ [(.int ((p1 <<< ((1 : Int32) &&& 31)) + (1 : Int32))), (.ref a0), (.int (((own_at s0 (p1 <<< ((1 : Int32) &&& 31))) &&& (255 : Int32)) <<< ((0 : Int32) &&& 31)))]))
  have Vo4 : Arv Z h0 a0 k_a0 .byte z0 (own_ml z0 s0) (.int 0) := V_a0
  obtain ⟨cl4, Ar4, qa4, Sa4, Na4, Ha4, Ga4⟩ := id Vo4
  have hib4 : ¬ ((p1 <<< ((1 : Int32) &&& 31)) + (1 : Int32)) < 0 ∧ ((p1 <<< ((1 : Int32) &&& 31)) + (1 : Int32)) < z0 := (own_ix1 hgb)
  have hin4 := inb_of Sa4 hib4
  refine OwnFin.st (X3.baloadBytes hx (j := ((p1 <<< ((1 : Int32) &&& 31)) + (1 : Int32))) (v := (.int (own_at s0 ((p1 <<< ((1 : Int32) &&& 31)) + (1 : Int32))))) (by rw [e3]; exact Ar4.1) (State.isArrayOf_alike (hZ).alike Ar4.2.1) Ar4.2.2 hin4 (Ha4.at hin4 (own_mlat _ hib4)) (g := (mkF m 48 #[.val (.ref a0), .val (.int ((p1 <<< ((1 : Int32) &&& 31)) + (1 : Int32)))] [(.int ((p1 <<< ((1 : Int32) &&& 31)) + (1 : Int32))), (.ref a0), (.int (((own_at s0 (p1 <<< ((1 : Int32) &&& 31))) &&& (255 : Int32)) <<< ((0 : Int32) &&& 31)))])) rfl rfl (hb hby d27_48)) ?_
  show OwnFin _ _ _ _ (T3.setTop (mkF m 49 _ [(.int (own_at s0 ((p1 <<< ((1 : Int32) &&& 31)) + (1 : Int32)))), (.int (((own_at s0 (p1 <<< ((1 : Int32) &&& 31))) &&& (255 : Int32)) <<< ((0 : Int32) &&& 31)))]))
  refine OwnFin.st (fun _ q => XS.sipush X3.here hx rfl (hb hby d27_49) q) ?_
  show OwnFin _ _ _ _ (T3.setTop (mkF m 52 _ [(.int 255), (.int (own_at s0 ((p1 <<< ((1 : Int32) &&& 31)) + (1 : Int32)))), (.int (((own_at s0 (p1 <<< ((1 : Int32) &&& 31))) &&& (255 : Int32)) <<< ((0 : Int32) &&& 31)))]))
  refine OwnFin.st (fun _ q => XS.iand X3.here hx rfl (hb hby d27_52) rfl q) ?_
  show OwnFin _ _ _ _ (T3.setTop (mkF m 53 _ [(.int ((own_at s0 ((p1 <<< ((1 : Int32) &&& 31)) + (1 : Int32))) &&& (255 : Int32))), (.int (((own_at s0 (p1 <<< ((1 : Int32) &&& 31))) &&& (255 : Int32)) <<< ((0 : Int32) &&& 31)))]))
  obtain ⟨T5, X5, e5, st5⟩ := getS2 X3 hx hZ hown (host := "") (Or.inl (w_ hw 118 rfl)) Via.refl e3 (S_LO_BYTE_SHIFT.ext Ol0.2) (g := (mkF m 53 #[.val (.ref a0), .val (.int ((p1 <<< ((1 : Int32) &&& 31)) + (1 : Int32)))] [(.int ((own_at s0 ((p1 <<< ((1 : Int32) &&& 31)) + (1 : Int32))) &&& (255 : Int32))), (.int (((own_at s0 (p1 <<< ((1 : Int32) &&& 31))) &&& (255 : Int32)) <<< ((0 : Int32) &&& 31)))])) rfl (hb hby d27_53)
  refine OwnFin.st st5 ?_
  show OwnFin _ _ _ _ (T5.setTop (mkF m 56 _ [(.int 8), (.int ((own_at s0 ((p1 <<< ((1 : Int32) &&& 31)) + (1 : Int32))) &&& (255 : Int32))), (.int (((own_at s0 (p1 <<< ((1 : Int32) &&& 31))) &&& (255 : Int32)) <<< ((0 : Int32) &&& 31)))]))
  refine OwnFin.st (fun _ q => XS.ishl X5.here hx rfl (hb hby d27_56) rfl q) ?_
  show OwnFin _ _ _ _ (T5.setTop (mkF m 57 _ [(.int (((own_at s0 ((p1 <<< ((1 : Int32) &&& 31)) + (1 : Int32))) &&& (255 : Int32)) <<< ((8 : Int32) &&& 31))), (.int (((own_at s0 (p1 <<< ((1 : Int32) &&& 31))) &&& (255 : Int32)) <<< ((0 : Int32) &&& 31)))]))
  refine OwnFin.st (fun _ q => XS.ior X5.here hx rfl (hb hby d27_57) rfl q) ?_
  show OwnFin _ _ _ _ (T5.setTop (mkF m 58 _ [(.int ((((own_at s0 (p1 <<< ((1 : Int32) &&& 31))) &&& (255 : Int32)) <<< ((0 : Int32) &&& 31)) ||| (((own_at s0 ((p1 <<< ((1 : Int32) &&& 31)) + (1 : Int32))) &&& (255 : Int32)) <<< ((8 : Int32) &&& 31))))]))
  refine OwnFin.st (fun _ q => XS.i2c X5.here hx rfl (hb hby d27_58) rfl q) ?_
  show OwnFin _ _ _ _ (T5.setTop (mkF m 59 _ [(.int (((((own_at s0 (p1 <<< ((1 : Int32) &&& 31))) &&& (255 : Int32)) <<< ((0 : Int32) &&& 31)) ||| (((own_at s0 ((p1 <<< ((1 : Int32) &&& 31)) + (1 : Int32))) &&& (255 : Int32)) <<< ((8 : Int32) &&& 31))).toUInt32.toUInt16.toUInt32.toInt32))]))
  obtain ⟨fs, hr, hrun, hended, hW, hsame⟩ := X5.leave (v := some (.int (nar .char (((((own_at s0 (p1 <<< ((1 : Int32) &&& 31))) &&& (255 : Int32)) <<< ((0 : Int32) &&& 31)) ||| (((own_at s0 ((p1 <<< ((1 : Int32) &&& 31)) + (1 : Int32))) &&& (255 : Int32)) <<< ((8 : Int32) &&& 31))).toUInt32.toUInt16.toUInt32.toInt32)))) (fun h => by rw [Bd.returns] at h; cases h)
  refine ⟨_, _, retN X5 hx (t := .char) Bd.returns (by simp) (hb hby d27_59) hr, hrun, hended, _, _, rfl, ?_, ⟨_, rfl⟩, hW, hsame.mono (by decide) (by decide)⟩
  show Q_rm_gc Z a0 p1 k_a0 z0 s0 h0 n0 _ T5.heap _
  rw [e5]
  refine ⟨?_, N0, rfl⟩
  exact congrArg (fun q => some (Value.int q)) own_nari2c
def own_hs (p0 : Int32) : Int32 := if p0 < 55296 then 0 else if p0 < 56320 then 1 else 0
theorem d30_0 : decode jdk_89_method_14_code 0 = .ok (.iload_n 0, 1) := by decide +kernel
theorem d30_1 : decode jdk_89_method_14_code 1 = .ok (.ldc 75, 2) := by decide +kernel
theorem d30_3 : decode jdk_89_method_14_code 3 = .ok (.if_icmp .lt 13, 3) := by decide +kernel
theorem d30_6 : decode jdk_89_method_14_code 6 = .ok (.iload_n 0, 1) := by decide +kernel
theorem d30_7 : decode jdk_89_method_14_code 7 = .ok (.ldc 76, 2) := by decide +kernel
theorem d30_9 : decode jdk_89_method_14_code 9 = .ok (.if_icmp .ge 7, 3) := by decide +kernel
theorem d30_12 : decode jdk_89_method_14_code 12 = .ok (.iconst 1, 1) := by decide +kernel
theorem d30_13 : decode jdk_89_method_14_code 13 = .ok (.goto 4, 3) := by decide +kernel
theorem d30_16 : decode jdk_89_method_14_code 16 = .ok (.iconst 0, 1) := by decide +kernel
theorem d30_17 : decode jdk_89_method_14_code 17 = .ok (.ireturn, 1) := by decide +kernel
theorem pn_1 : plainName "java/lang/Character" = true := by first | (simp [plainName, overriddenIn]; done) | decide +kernel
theorem ef_rm_hs (m : MethodId) (p0 : Int32) : entryFrame m #[(.int p0)] 1 = mkF m 0 #[.val (.int p0)] [] := by first | (simp [entryFrame, mkF, argsToLocals, Value.category]; done) | rfl
def Q_rm_hs (Z : State) (p0 : Int32) (h0 : Heap) (n0 : Nat) (v : Option Value) (h : Heap) (L : List Loc) : Prop := v = some (.int (own_hs p0)) ∧ Fr n0 L ∧ h = h0
set_option maxRecDepth 65536 in
set_option maxHeartbeats 40000000 in
theorem rm_hs (l : Launch) (Z : State) (av0 : Array Value) (hw : ∀ d ∈ tables_1, d.before av0 Z = true) (ws : List Jvm.Cond) (p0 : Int32) (h0 : Heap) (n0 : Nat) (Z0 : n0 ≤ h0.size) :
    MetFree l yM1 (head1 (Jvm.Cond.code yM1 jdk_89_method_14_code 1 (some .boolean) :: ws) ({ frames := 0, cells := 0, slots := 0, locals := 0 } : Room)) (fun a U => a = #[(.int p0)] ∧ Z.Warmed39 U.vm ∧ U.heap = h0) (fun _ _ _ _ _ => True) (fun _ U o U' => ∃ v L, o = .returned v ∧ Q_rm_hs Z p0 h0 n0 v U'.heap L ∧ FrameEnd U o U' L ({ frames := 0, cells := 0, slots := 0, locals := 0 } : Room).cells ({ frames := 0, cells := 0, slots := 0, locals := 0 } : Room).slots) := by
  refine MetFree.of_bodySF (plainFor_of_name pn_1) hisR ?_
  intro p e s m args below meth c s₁ Bd hml0 hP hK
  obtain ⟨rfl, hZ, hh⟩ := hP
  have hx := Bd.exec
  have hby := Bd.bytes
  have hml : c.maxLocals = 1 := hml0
  have hown : s.vm.findClass "java/lang/Character" = some m.cls := findClass_of_methodNamed Bd.named
  have hnm := (name_of_methodNamed Bd.named Bd.method).1
  have X0 : Stand p l e ({ frames := 0, cells := 0, slots := 0, locals := 0 } : Room) s m #[(.int p0)] below meth c s₁ [] 0 0 := Stand.of_body Bd
  have e0 : s₁.heap = h0 := by rw [← hh, Bd.state]; rfl
  have N0 := Fr.nil n0
  have pre0 : ∀ t, Steps p.tables e below (s₁.setTop (mkF m 0 #[.val (.int p0)] [])) t → Steps p.tables e below (s₁.setTop (entryFrame m #[(.int p0)] 1)) t := fun t k => castTop (ef_rm_hs m p0) k
  change OwnFin p.tables e below _ (s₁.setTop (entryFrame m #[(.int p0)] 1))
  have kp0 : Keep h0 h0 [] := Keep.refl _ _
  refine OwnFin.st (fun _ q => pre0 _ q) ?_
  show OwnFin _ _ _ _ (s₁.setTop (mkF m 0 #[.val (.int p0)] []))
  refine OwnFin.st (fun _ q => XS.iloadN X0.here hx rfl (hb hby d30_0) rfl q) ?_
  show OwnFin _ _ _ _ (s₁.setTop (mkF m 1 _ [(.int p0)]))
  refine OwnFin.st (X0.ldcInt hx hown (mvT hZ (w_ hw 131 rfl)) (g := (mkF m 1 #[.val (.int p0)] [(.int p0)])) rfl (hb hby d30_1)) ?_
  show OwnFin _ _ _ _ (s₁.setTop (mkF m 3 _ [(.int 55296), (.int p0)]))
  by_cases hc1 : p0 < (55296 : Int32)
  ·
   refine OwnFin.st (fun _ q => XS.icmpYes X0.here hx rfl (pc0 := 3) (pc' := 16) rfl (hb hby d30_3) rfl (Jvm.Free.XT.ii_lt_t hc1) (by decide) (by decide) q) ?_
   show OwnFin _ _ _ _ (s₁.setTop (mkF m 16 _ []))
   refine OwnFin.st (fun _ q => XS.iconst X0.here hx rfl (hb hby d30_16) q) ?_
   show OwnFin _ _ _ _ (s₁.setTop (mkF m 17 _ [(.int 0)]))
   obtain ⟨fs, hr, hrun, hended, hW, hsame⟩ := X0.leave (v := some (.int 0)) (fun h => by rw [Bd.returns] at h; cases h)
   refine ⟨_, _, retN X0 hx (t := .boolean) Bd.returns (by simp) (hb hby d30_17) hr, hrun, hended, _, _, rfl, ?_, ⟨_, rfl⟩, hW, hsame.mono (by decide) (by decide)⟩
   show Q_rm_hs Z p0 h0 n0 _ s₁.heap _
   rw [e0]
   refine ⟨?_, N0, rfl⟩
   simp [own_hs, hc1]
  ·
   refine OwnFin.st (fun _ q => XS.icmpNo X0.here hx rfl (hb hby d30_3) rfl (Jvm.Free.XT.ii_lt_f hc1) q) ?_
   show OwnFin _ _ _ _ (s₁.setTop (mkF m 6 _ []))
   refine OwnFin.st (fun _ q => XS.iloadN X0.here hx rfl (hb hby d30_6) rfl q) ?_
   show OwnFin _ _ _ _ (s₁.setTop (mkF m 7 _ [(.int p0)]))
   refine OwnFin.st (X0.ldcInt hx hown (mvT hZ (w_ hw 132 rfl)) (g := (mkF m 7 #[.val (.int p0)] [(.int p0)])) rfl (hb hby d30_7)) ?_
   show OwnFin _ _ _ _ (s₁.setTop (mkF m 9 _ [(.int 56320), (.int p0)]))
   by_cases hc2 : p0 < (56320 : Int32)
   ·
    refine OwnFin.st (fun _ q => XS.icmpNo X0.here hx rfl (hb hby d30_9) rfl (Jvm.Free.XT.ii_ge_f hc2) q) ?_
    show OwnFin _ _ _ _ (s₁.setTop (mkF m 12 _ []))
    refine OwnFin.st (fun _ q => XS.iconst X0.here hx rfl (hb hby d30_12) q) ?_
    show OwnFin _ _ _ _ (s₁.setTop (mkF m 13 _ [(.int 1)]))
    refine OwnFin.st (fun _ q => XS.goto X0.here hx rfl (pc0 := 13) (pc' := 17) rfl (hb hby d30_13) (by decide) (by decide) q) ?_
    show OwnFin _ _ _ _ (s₁.setTop (mkF m 17 _ [(.int 1)]))
    obtain ⟨fs, hr, hrun, hended, hW, hsame⟩ := X0.leave (v := some (.int 1)) (fun h => by rw [Bd.returns] at h; cases h)
    refine ⟨_, _, retN X0 hx (t := .boolean) Bd.returns (by simp) (hb hby d30_17) hr, hrun, hended, _, _, rfl, ?_, ⟨_, rfl⟩, hW, hsame.mono (by decide) (by decide)⟩
    show Q_rm_hs Z p0 h0 n0 _ s₁.heap _
    rw [e0]
    refine ⟨?_, N0, rfl⟩
    simp [own_hs, hc1, hc2]
   ·
    refine OwnFin.st (fun _ q => XS.icmpYes X0.here hx rfl (pc0 := 9) (pc' := 16) rfl (hb hby d30_9) rfl (Jvm.Free.XT.ii_ge_t hc2) (by decide) (by decide) q) ?_
    show OwnFin _ _ _ _ (s₁.setTop (mkF m 16 _ []))
    refine OwnFin.st (fun _ q => XS.iconst X0.here hx rfl (hb hby d30_16) q) ?_
    show OwnFin _ _ _ _ (s₁.setTop (mkF m 17 _ [(.int 0)]))
    obtain ⟨fs, hr, hrun, hended, hW, hsame⟩ := X0.leave (v := some (.int 0)) (fun h => by rw [Bd.returns] at h; cases h)
    refine ⟨_, _, retN X0 hx (t := .boolean) Bd.returns (by simp) (hb hby d30_17) hr, hrun, hended, _, _, rfl, ?_, ⟨_, rfl⟩, hW, hsame.mono (by decide) (by decide)⟩
    show Q_rm_hs Z p0 h0 n0 _ s₁.heap _
    rw [e0]
    refine ⟨?_, N0, rfl⟩
    simp [own_hs, hc1, hc2]
def own_ls (p0 : Int32) : Int32 := if p0 < 56320 then 0 else if p0 < 57344 then 1 else 0
theorem d31_0 : decode jdk_89_method_15_code 0 = .ok (.iload_n 0, 1) := by decide +kernel
theorem d31_1 : decode jdk_89_method_15_code 1 = .ok (.ldc 76, 2) := by decide +kernel
theorem d31_3 : decode jdk_89_method_15_code 3 = .ok (.if_icmp .lt 13, 3) := by decide +kernel
theorem d31_6 : decode jdk_89_method_15_code 6 = .ok (.iload_n 0, 1) := by decide +kernel
theorem d31_7 : decode jdk_89_method_15_code 7 = .ok (.ldc 77, 2) := by decide +kernel
theorem d31_9 : decode jdk_89_method_15_code 9 = .ok (.if_icmp .ge 7, 3) := by decide +kernel
theorem d31_12 : decode jdk_89_method_15_code 12 = .ok (.iconst 1, 1) := by decide +kernel
theorem d31_13 : decode jdk_89_method_15_code 13 = .ok (.goto 4, 3) := by decide +kernel
theorem d31_16 : decode jdk_89_method_15_code 16 = .ok (.iconst 0, 1) := by decide +kernel
theorem d31_17 : decode jdk_89_method_15_code 17 = .ok (.ireturn, 1) := by decide +kernel
theorem ef_rm_ls (m : MethodId) (p0 : Int32) : entryFrame m #[(.int p0)] 1 = mkF m 0 #[.val (.int p0)] [] := by first | (simp [entryFrame, mkF, argsToLocals, Value.category]; done) | rfl
def Q_rm_ls (Z : State) (p0 : Int32) (h0 : Heap) (n0 : Nat) (v : Option Value) (h : Heap) (L : List Loc) : Prop := v = some (.int (own_ls p0)) ∧ Fr n0 L ∧ h = h0
set_option maxRecDepth 65536 in
set_option maxHeartbeats 40000000 in
theorem rm_ls (l : Launch) (Z : State) (av0 : Array Value) (hw : ∀ d ∈ tables_1, d.before av0 Z = true) (ws : List Jvm.Cond) (p0 : Int32) (h0 : Heap) (n0 : Nat) (Z0 : n0 ≤ h0.size) :
    MetFree l yM2 (head1 (Jvm.Cond.code yM2 jdk_89_method_15_code 1 (some .boolean) :: ws) ({ frames := 0, cells := 0, slots := 0, locals := 0 } : Room)) (fun a U => a = #[(.int p0)] ∧ Z.Warmed39 U.vm ∧ U.heap = h0) (fun _ _ _ _ _ => True) (fun _ U o U' => ∃ v L, o = .returned v ∧ Q_rm_ls Z p0 h0 n0 v U'.heap L ∧ FrameEnd U o U' L ({ frames := 0, cells := 0, slots := 0, locals := 0 } : Room).cells ({ frames := 0, cells := 0, slots := 0, locals := 0 } : Room).slots) := by
  refine MetFree.of_bodySF (plainFor_of_name pn_1) hisR ?_
  intro p e s m args below meth c s₁ Bd hml0 hP hK
  obtain ⟨rfl, hZ, hh⟩ := hP
  have hx := Bd.exec
  have hby := Bd.bytes
  have hml : c.maxLocals = 1 := hml0
  have hown : s.vm.findClass "java/lang/Character" = some m.cls := findClass_of_methodNamed Bd.named
  have hnm := (name_of_methodNamed Bd.named Bd.method).1
  have X0 : Stand p l e ({ frames := 0, cells := 0, slots := 0, locals := 0 } : Room) s m #[(.int p0)] below meth c s₁ [] 0 0 := Stand.of_body Bd
  have e0 : s₁.heap = h0 := by rw [← hh, Bd.state]; rfl
  have N0 := Fr.nil n0
  have pre0 : ∀ t, Steps p.tables e below (s₁.setTop (mkF m 0 #[.val (.int p0)] [])) t → Steps p.tables e below (s₁.setTop (entryFrame m #[(.int p0)] 1)) t := fun t k => castTop (ef_rm_ls m p0) k
  change OwnFin p.tables e below _ (s₁.setTop (entryFrame m #[(.int p0)] 1))
  have kp0 : Keep h0 h0 [] := Keep.refl _ _
  refine OwnFin.st (fun _ q => pre0 _ q) ?_
  show OwnFin _ _ _ _ (s₁.setTop (mkF m 0 #[.val (.int p0)] []))
  refine OwnFin.st (fun _ q => XS.iloadN X0.here hx rfl (hb hby d31_0) rfl q) ?_
  show OwnFin _ _ _ _ (s₁.setTop (mkF m 1 _ [(.int p0)]))
  refine OwnFin.st (X0.ldcInt hx hown (mvT hZ (w_ hw 132 rfl)) (g := (mkF m 1 #[.val (.int p0)] [(.int p0)])) rfl (hb hby d31_1)) ?_
  show OwnFin _ _ _ _ (s₁.setTop (mkF m 3 _ [(.int 56320), (.int p0)]))
  by_cases hc1 : p0 < (56320 : Int32)
  ·
   refine OwnFin.st (fun _ q => XS.icmpYes X0.here hx rfl (pc0 := 3) (pc' := 16) rfl (hb hby d31_3) rfl (Jvm.Free.XT.ii_lt_t hc1) (by decide) (by decide) q) ?_
   show OwnFin _ _ _ _ (s₁.setTop (mkF m 16 _ []))
   refine OwnFin.st (fun _ q => XS.iconst X0.here hx rfl (hb hby d31_16) q) ?_
   show OwnFin _ _ _ _ (s₁.setTop (mkF m 17 _ [(.int 0)]))
   obtain ⟨fs, hr, hrun, hended, hW, hsame⟩ := X0.leave (v := some (.int 0)) (fun h => by rw [Bd.returns] at h; cases h)
   refine ⟨_, _, retN X0 hx (t := .boolean) Bd.returns (by simp) (hb hby d31_17) hr, hrun, hended, _, _, rfl, ?_, ⟨_, rfl⟩, hW, hsame.mono (by decide) (by decide)⟩
   show Q_rm_ls Z p0 h0 n0 _ s₁.heap _
   rw [e0]
   refine ⟨?_, N0, rfl⟩
   simp [own_ls, hc1]
  ·
   refine OwnFin.st (fun _ q => XS.icmpNo X0.here hx rfl (hb hby d31_3) rfl (Jvm.Free.XT.ii_lt_f hc1) q) ?_
   show OwnFin _ _ _ _ (s₁.setTop (mkF m 6 _ []))
   refine OwnFin.st (fun _ q => XS.iloadN X0.here hx rfl (hb hby d31_6) rfl q) ?_
   show OwnFin _ _ _ _ (s₁.setTop (mkF m 7 _ [(.int p0)]))
   refine OwnFin.st (X0.ldcInt hx hown (mvT hZ (w_ hw 136 rfl)) (g := (mkF m 7 #[.val (.int p0)] [(.int p0)])) rfl (hb hby d31_7)) ?_
   show OwnFin _ _ _ _ (s₁.setTop (mkF m 9 _ [(.int 57344), (.int p0)]))
   by_cases hc2 : p0 < (57344 : Int32)
   ·
    refine OwnFin.st (fun _ q => XS.icmpNo X0.here hx rfl (hb hby d31_9) rfl (Jvm.Free.XT.ii_ge_f hc2) q) ?_
    show OwnFin _ _ _ _ (s₁.setTop (mkF m 12 _ []))
    refine OwnFin.st (fun _ q => XS.iconst X0.here hx rfl (hb hby d31_12) q) ?_
    show OwnFin _ _ _ _ (s₁.setTop (mkF m 13 _ [(.int 1)]))
    refine OwnFin.st (fun _ q => XS.goto X0.here hx rfl (pc0 := 13) (pc' := 17) rfl (hb hby d31_13) (by decide) (by decide) q) ?_
    show OwnFin _ _ _ _ (s₁.setTop (mkF m 17 _ [(.int 1)]))
    obtain ⟨fs, hr, hrun, hended, hW, hsame⟩ := X0.leave (v := some (.int 1)) (fun h => by rw [Bd.returns] at h; cases h)
    refine ⟨_, _, retN X0 hx (t := .boolean) Bd.returns (by simp) (hb hby d31_17) hr, hrun, hended, _, _, rfl, ?_, ⟨_, rfl⟩, hW, hsame.mono (by decide) (by decide)⟩
    show Q_rm_ls Z p0 h0 n0 _ s₁.heap _
    rw [e0]
    refine ⟨?_, N0, rfl⟩
    simp [own_ls, hc1, hc2]
   ·
    refine OwnFin.st (fun _ q => XS.icmpYes X0.here hx rfl (pc0 := 9) (pc' := 16) rfl (hb hby d31_9) rfl (Jvm.Free.XT.ii_ge_t hc2) (by decide) (by decide) q) ?_
    show OwnFin _ _ _ _ (s₁.setTop (mkF m 16 _ []))
    refine OwnFin.st (fun _ q => XS.iconst X0.here hx rfl (hb hby d31_16) q) ?_
    show OwnFin _ _ _ _ (s₁.setTop (mkF m 17 _ [(.int 0)]))
    obtain ⟨fs, hr, hrun, hended, hW, hsame⟩ := X0.leave (v := some (.int 0)) (fun h => by rw [Bd.returns] at h; cases h)
    refine ⟨_, _, retN X0 hx (t := .boolean) Bd.returns (by simp) (hb hby d31_17) hr, hrun, hended, _, _, rfl, ?_, ⟨_, rfl⟩, hW, hsame.mono (by decide) (by decide)⟩
    show Q_rm_ls Z p0 h0 n0 _ s₁.heap _
    rw [e0]
    refine ⟨?_, N0, rfl⟩
    simp [own_ls, hc1, hc2]
def own_tcp (p0 : Int32) (p1 : Int32) : Int32 := (((p0 <<< ((10 : Int32) &&& 31)) + p1) + (-56613888 : Int32))
theorem d32_0 : decode jdk_89_method_19_code 0 = .ok (.iload_n 0, 1) := by decide +kernel
theorem d32_1 : decode jdk_89_method_19_code 1 = .ok (.bipush 10, 2) := by decide +kernel
theorem d32_3 : decode jdk_89_method_19_code 3 = .ok (.ishl, 1) := by decide +kernel
theorem d32_4 : decode jdk_89_method_19_code 4 = .ok (.iload_n 1, 1) := by decide +kernel
theorem d32_5 : decode jdk_89_method_19_code 5 = .ok (.iadd, 1) := by decide +kernel
theorem d32_6 : decode jdk_89_method_19_code 6 = .ok (.ldc 85, 2) := by decide +kernel
theorem d32_8 : decode jdk_89_method_19_code 8 = .ok (.iadd, 1) := by decide +kernel
theorem d32_9 : decode jdk_89_method_19_code 9 = .ok (.ireturn, 1) := by decide +kernel
theorem ef_rm_tcp (m : MethodId) (p0 : Int32) (p1 : Int32) : entryFrame m #[(.int p0), (.int p1)] 2 = mkF m 0 #[.val (.int p0), .val (.int p1)] [] := by first | (simp [entryFrame, mkF, argsToLocals, Value.category]; done) | rfl
def Q_rm_tcp (Z : State) (p0 : Int32) (p1 : Int32) (h0 : Heap) (n0 : Nat) (v : Option Value) (h : Heap) (L : List Loc) : Prop := v = some (.int (own_tcp p0 p1)) ∧ Fr n0 L ∧ h = h0
set_option maxRecDepth 65536 in
set_option maxHeartbeats 40000000 in
theorem rm_tcp (l : Launch) (Z : State) (av0 : Array Value) (hw : ∀ d ∈ tables_1, d.before av0 Z = true) (ws : List Jvm.Cond) (p0 : Int32) (p1 : Int32) (h0 : Heap) (n0 : Nat) (Z0 : n0 ≤ h0.size) :
    MetFree l yM3 (head1 (Jvm.Cond.code yM3 jdk_89_method_19_code 2 (some .int) :: ws) ({ frames := 0, cells := 0, slots := 0, locals := 0 } : Room)) (fun a U => a = #[(.int p0), (.int p1)] ∧ Z.Warmed39 U.vm ∧ U.heap = h0) (fun _ _ _ _ _ => True) (fun _ U o U' => ∃ v L, o = .returned v ∧ Q_rm_tcp Z p0 p1 h0 n0 v U'.heap L ∧ FrameEnd U o U' L ({ frames := 0, cells := 0, slots := 0, locals := 0 } : Room).cells ({ frames := 0, cells := 0, slots := 0, locals := 0 } : Room).slots) := by
  refine MetFree.of_bodySF (plainFor_of_name pn_1) hisR ?_
  intro p e s m args below meth c s₁ Bd hml0 hP hK
  obtain ⟨rfl, hZ, hh⟩ := hP
  have hx := Bd.exec
  have hby := Bd.bytes
  have hml : c.maxLocals = 2 := hml0
  have hown : s.vm.findClass "java/lang/Character" = some m.cls := findClass_of_methodNamed Bd.named
  have hnm := (name_of_methodNamed Bd.named Bd.method).1
  have X0 : Stand p l e ({ frames := 0, cells := 0, slots := 0, locals := 0 } : Room) s m #[(.int p0), (.int p1)] below meth c s₁ [] 0 0 := Stand.of_body Bd
  have e0 : s₁.heap = h0 := by rw [← hh, Bd.state]; rfl
  have N0 := Fr.nil n0
  have pre0 : ∀ t, Steps p.tables e below (s₁.setTop (mkF m 0 #[.val (.int p0), .val (.int p1)] [])) t → Steps p.tables e below (s₁.setTop (entryFrame m #[(.int p0), (.int p1)] 2)) t := fun t k => castTop (ef_rm_tcp m p0 p1) k
  change OwnFin p.tables e below _ (s₁.setTop (entryFrame m #[(.int p0), (.int p1)] 2))
  have kp0 : Keep h0 h0 [] := Keep.refl _ _
  refine OwnFin.st (fun _ q => pre0 _ q) ?_
  show OwnFin _ _ _ _ (s₁.setTop (mkF m 0 #[.val (.int p0), .val (.int p1)] []))
  refine OwnFin.st (fun _ q => XS.iloadN X0.here hx rfl (hb hby d32_0) rfl q) ?_
  show OwnFin _ _ _ _ (s₁.setTop (mkF m 1 _ [(.int p0)]))
  refine OwnFin.st (fun _ q => XS.bipush X0.here hx rfl (hb hby d32_1) q) ?_
  show OwnFin _ _ _ _ (s₁.setTop (mkF m 3 _ [(.int 10), (.int p0)]))
  refine OwnFin.st (fun _ q => XS.ishl X0.here hx rfl (hb hby d32_3) rfl q) ?_
  show OwnFin _ _ _ _ (s₁.setTop (mkF m 4 _ [(.int (p0 <<< ((10 : Int32) &&& 31)))]))
  refine OwnFin.st (fun _ q => XS.iloadN X0.here hx rfl (hb hby d32_4) rfl q) ?_
  show OwnFin _ _ _ _ (s₁.setTop (mkF m 5 _ [(.int p1), (.int (p0 <<< ((10 : Int32) &&& 31)))]))
  refine OwnFin.st (fun _ q => XS.iadd X0.here hx rfl (hb hby d32_5) rfl q) ?_
  show OwnFin _ _ _ _ (s₁.setTop (mkF m 6 _ [(.int ((p0 <<< ((10 : Int32) &&& 31)) + p1))]))
  refine OwnFin.st (X0.ldcInt hx hown (mvT hZ (w_ hw 140 rfl)) (g := (mkF m 6 #[.val (.int p0), .val (.int p1)] [(.int ((p0 <<< ((10 : Int32) &&& 31)) + p1))])) rfl (hb hby d32_6)) ?_
  show OwnFin _ _ _ _ (s₁.setTop (mkF m 8 _ [(.int (-56613888)), (.int ((p0 <<< ((10 : Int32) &&& 31)) + p1))]))
  refine OwnFin.st (fun _ q => XS.iadd X0.here hx rfl (hb hby d32_8) rfl q) ?_
  show OwnFin _ _ _ _ (s₁.setTop (mkF m 9 _ [(.int (((p0 <<< ((10 : Int32) &&& 31)) + p1) + (-56613888 : Int32)))]))
  obtain ⟨fs, hr, hrun, hended, hW, hsame⟩ := X0.leave (v := some (.int (((p0 <<< ((10 : Int32) &&& 31)) + p1) + (-56613888 : Int32)))) (fun h => by rw [Bd.returns] at h; cases h)
  refine ⟨_, _, retI X0 hx Bd.returns (hb hby d32_9) hr, hrun, hended, _, _, rfl, ?_, ⟨_, rfl⟩, hW, hsame.mono (by decide) (by decide)⟩
  show Q_rm_tcp Z p0 p1 h0 n0 _ s₁.heap _
  rw [e0]
  refine ⟨?_, N0, rfl⟩
  rfl
theorem pd_0 : parseMethodDescriptor "([BI)C" = some ⟨[(.array .byte), .int], some .char⟩ := by decide +kernel
theorem pd_1 : parseMethodDescriptor "(C)Z" = some ⟨[.char], some .boolean⟩ := by decide +kernel
theorem pd_2 : parseMethodDescriptor "(CC)I" = some ⟨[.char, .char], some .int⟩ := by decide +kernel
def own_cp16 (s0 : Nat → Int32) (p1 : Int32) (p2 : Int32) : Int32 := if own_hs (own_gc s0 p1) = 0 then own_gc s0 p1 else if (p1 + (1 : Int32)) < p2 then if own_ls (own_gc s0 (p1 + (1 : Int32))) = 0 then own_gc s0 p1 else own_tcp (own_gc s0 p1) (own_gc s0 (p1 + (1 : Int32))) else own_gc s0 p1
theorem d29_0 : decode jdk_52_method_7_code 0 = .ok (.getstatic 44, 3) := by decide +kernel
theorem d29_3 : decode jdk_52_method_7_code 3 = .ok (.ifCond .ne 16, 3) := by decide +kernel
theorem d29_19 : decode jdk_52_method_7_code 19 = .ok (.iload_n 3, 1) := by decide +kernel
theorem d29_20 : decode jdk_52_method_7_code 20 = .ok (.ifCond .eq 8, 3) := by decide +kernel
theorem d29_28 : decode jdk_52_method_7_code 28 = .ok (.aload_n 0, 1) := by decide +kernel
theorem d29_29 : decode jdk_52_method_7_code 29 = .ok (.iload_n 1, 1) := by decide +kernel
theorem d29_30 : decode jdk_52_method_7_code 30 = .ok (.invokestatic 71, 3) := by decide +kernel
theorem d29_33 : decode jdk_52_method_7_code 33 = .ok (.istore 4, 2) := by decide +kernel
theorem d29_35 : decode jdk_52_method_7_code 35 = .ok (.iload 4, 2) := by decide +kernel
theorem d29_37 : decode jdk_52_method_7_code 37 = .ok (.invokestatic 75, 3) := by decide +kernel
theorem d29_40 : decode jdk_52_method_7_code 40 = .ok (.ifCond .eq 43, 3) := by decide +kernel
theorem d29_43 : decode jdk_52_method_7_code 43 = .ok (.iinc 1 1, 3) := by decide +kernel
theorem d29_46 : decode jdk_52_method_7_code 46 = .ok (.iload_n 1, 1) := by decide +kernel
theorem d29_47 : decode jdk_52_method_7_code 47 = .ok (.iload_n 2, 1) := by decide +kernel
theorem d29_48 : decode jdk_52_method_7_code 48 = .ok (.if_icmp .ge 35, 3) := by decide +kernel
theorem d29_51 : decode jdk_52_method_7_code 51 = .ok (.iload_n 3, 1) := by decide +kernel
theorem d29_52 : decode jdk_52_method_7_code 52 = .ok (.ifCond .eq 8, 3) := by decide +kernel
theorem d29_60 : decode jdk_52_method_7_code 60 = .ok (.aload_n 0, 1) := by decide +kernel
theorem d29_61 : decode jdk_52_method_7_code 61 = .ok (.iload_n 1, 1) := by decide +kernel
theorem d29_62 : decode jdk_52_method_7_code 62 = .ok (.invokestatic 71, 3) := by decide +kernel
theorem d29_65 : decode jdk_52_method_7_code 65 = .ok (.istore 5, 2) := by decide +kernel
theorem d29_67 : decode jdk_52_method_7_code 67 = .ok (.iload 5, 2) := by decide +kernel
theorem d29_69 : decode jdk_52_method_7_code 69 = .ok (.invokestatic 81, 3) := by decide +kernel
theorem d29_72 : decode jdk_52_method_7_code 72 = .ok (.ifCond .eq 11, 3) := by decide +kernel
theorem d29_75 : decode jdk_52_method_7_code 75 = .ok (.iload 4, 2) := by decide +kernel
theorem d29_77 : decode jdk_52_method_7_code 77 = .ok (.iload 5, 2) := by decide +kernel
theorem d29_79 : decode jdk_52_method_7_code 79 = .ok (.invokestatic 84, 3) := by decide +kernel
theorem d29_82 : decode jdk_52_method_7_code 82 = .ok (.ireturn, 1) := by decide +kernel
theorem d29_83 : decode jdk_52_method_7_code 83 = .ok (.iload 4, 2) := by decide +kernel
theorem d29_85 : decode jdk_52_method_7_code 85 = .ok (.ireturn, 1) := by decide +kernel
theorem ef_rm_cp4 (m : MethodId) (a0 : Addr) (p1 : Int32) (p2 : Int32) : entryFrame m #[(.ref a0), (.int p1), (.int p2), (.int 0)] 6 = mkF m 0 #[.val (.ref a0), .val (.int p1), .val (.int p2), .val (.int 0), .unset, .unset] [] := by first | (simp [entryFrame, mkF, argsToLocals, Value.category]; done) | rfl
def Q_rm_cp4 (Z : State) (a0 : Addr) (p1 : Int32) (p2 : Int32) (k_a0 : ClassId) (z0 : Int32) (s0 : Nat → Int32) (h0 : Heap) (n0 : Nat) (v : Option Value) (h : Heap) (L : List Loc) : Prop := v = some (.int (own_cp16 s0 p1 p2)) ∧ Fr n0 L ∧ h = h0
set_option maxRecDepth 65536 in
set_option maxHeartbeats 40000000 in
theorem rm_cp4 (l : Launch) (Z : State) (av0 : Array Value) (hw : ∀ d ∈ tables_1, d.before av0 Z = true) (ws : List Jvm.Cond) (a0 : Addr) (p1 : Int32) (p2 : Int32) (k_a0 : ClassId) (z0 : Int32) (s0 : Nat → Int32) (h0 : Heap) (n0 : Nat) (Z0 : n0 ≤ h0.size) (Ol0 : Old Z n0 h0) (V_a0 : Arv Z h0 a0 k_a0 .byte z0 (own_ml z0 s0) (.int 0)) (hgb2 : 0 ≤ p1.toInt ∧ p1.toInt < p2.toInt ∧ 2 * p2.toInt ≤ z0.toInt) (S__assertionsDisabled : Sta Z Z.heap "java/lang/StringUTF16" "$assertionsDisabled" "Z" (.int 1)) (S_HI_BYTE_SHIFT : Sta Z Z.heap "java/lang/StringUTF16" "HI_BYTE_SHIFT" "I" (.int 0)) (S_LO_BYTE_SHIFT : Sta Z Z.heap "java/lang/StringUTF16" "LO_BYTE_SHIFT" "I" (.int 8)) :
    MetFree l yM4 (head1 (Jvm.Cond.code yM4 jdk_52_method_7_code 6 (some .int) :: ws) ({ frames := 1, cells := 0, slots := 0, locals := 13 } : Room)) (fun a U => a = #[(.ref a0), (.int p1), (.int p2), (.int 0)] ∧ Z.Warmed39 U.vm ∧ U.heap = h0) (fun _ _ _ _ _ => True) (fun _ U o U' => ∃ v L, o = .returned v ∧ Q_rm_cp4 Z a0 p1 p2 k_a0 z0 s0 h0 n0 v U'.heap L ∧ FrameEnd U o U' L ({ frames := 1, cells := 0, slots := 0, locals := 13 } : Room).cells ({ frames := 1, cells := 0, slots := 0, locals := 13 } : Room).slots) := by
  refine MetFree.of_bodySF (plainFor_of_name pn_0) hisR ?_
  intro p e s m args below meth c s₁ Bd hml0 hP hK
  obtain ⟨rfl, hZ, hh⟩ := hP
  have hx := Bd.exec
  have hby := Bd.bytes
  have hml : c.maxLocals = 6 := hml0
  have hown : s.vm.findClass "java/lang/StringUTF16" = some m.cls := findClass_of_methodNamed Bd.named
  have hnm := (name_of_methodNamed Bd.named Bd.method).1
  have X0 : Stand p l e ({ frames := 1, cells := 0, slots := 0, locals := 13 } : Room) s m #[(.ref a0), (.int p1), (.int p2), (.int 0)] below meth c s₁ [] 0 0 := Stand.of_body Bd
  have e0 : s₁.heap = h0 := by rw [← hh, Bd.state]; rfl
  have N0 := Fr.nil n0
  have pre0 : ∀ t, Steps p.tables e below (s₁.setTop (mkF m 0 #[.val (.ref a0), .val (.int p1), .val (.int p2), .val (.int 0), .unset, .unset] [])) t → Steps p.tables e below (s₁.setTop (entryFrame m #[(.ref a0), (.int p1), (.int p2), (.int 0)] 6)) t := fun t k => castTop (ef_rm_cp4 m a0 p1 p2) k
  change OwnFin p.tables e below _ (s₁.setTop (entryFrame m #[(.ref a0), (.int p1), (.int p2), (.int 0)] 6))
  have kp0 : Keep h0 h0 [] := Keep.refl _ _
  refine OwnFin.st (fun _ q => pre0 _ q) ?_
  show OwnFin _ _ _ _ (s₁.setTop (mkF m 0 #[.val (.ref a0), .val (.int p1), .val (.int p2), .val (.int 0), .unset, .unset] []))
  obtain ⟨T1, X1, e1, st1⟩ := getS2 X0 hx hZ hown (host := "") (Or.inl (w_ hw 116 rfl)) Via.refl e0 (S__assertionsDisabled.ext Ol0.2) (g := (mkF m 0 #[.val (.ref a0), .val (.int p1), .val (.int p2), .val (.int 0), .unset, .unset] [])) rfl (hb hby d29_0)
  refine OwnFin.st st1 ?_
  show OwnFin _ _ _ _ (T1.setTop (mkF m 3 _ [(.int 1)]))
  refine OwnFin.st (fun _ q => XS.ifYes X1.here hx rfl (pc0 := 3) (pc' := 19) rfl (hb hby d29_3) rfl (Jvm.Free.XT.i0_ne_t (by decide : ¬ ((1 : Int32) = (0 : Int32)))) (by decide) (by decide) q) ?_
  show OwnFin _ _ _ _ (T1.setTop (mkF m 19 _ []))
  refine OwnFin.st (fun _ q => XS.iloadN X1.here hx rfl (hb hby d29_19) rfl q) ?_
  show OwnFin _ _ _ _ (T1.setTop (mkF m 20 _ [(.int 0)]))
  refine OwnFin.st (fun _ q => XS.ifYes X1.here hx rfl (pc0 := 20) (pc' := 28) rfl (hb hby d29_20) rfl (Jvm.Free.XT.i0_eq_t (rfl : (0 : Int32) = (0 : Int32))) (by decide) (by decide) q) ?_
  show OwnFin _ _ _ _ (T1.setTop (mkF m 28 _ []))
  refine OwnFin.st (fun _ q => XS.aloadN X1.here hx rfl (hb hby d29_28) rfl rfl q) ?_
  show OwnFin _ _ _ _ (T1.setTop (mkF m 29 _ [(.ref a0)]))
  refine OwnFin.st (fun _ q => XS.iloadN X1.here hx rfl (hb hby d29_29) rfl q) ?_
  show OwnFin _ _ _ _ (T1.setTop (mkF m 30 _ [(.int p1), (.ref a0)]))
  obtain ⟨_, _, ⟨T2, L2, k2, n2⟩, -, X2, ⟨Lc2, hQ2, l2, y2, z2⟩, st2⟩ := Jvm.LawKit.callS X1 hx (y := yM0) hown (mvT hZ (w_ hw 119 rfl)) (mvT hZ (w_ hw 120 rfl)) (mvT hZ (w_ hw 70 rfl)) (mvT hZ (w_ hw 121 rfl)) (by decide) (backOf (W := 0) (rm_gc l Z av0 hw [] a0 p1 k_a0 z0 s0 h0 n0 (Nat.le_trans Z0 kp0.1) Ol0 V_a0 (own_gb1 hgb2) S__assertionsDisabled S_HI_BYTE_SHIFT S_LO_BYTE_SHIFT) hZ (w_ hw 121 rfl) (w_ hw 70 rfl) (by decide) (by decide)) (g := (mkF m 30 #[.val (.ref a0), .val (.int p1), .val (.int p2), .val (.int 0), .unset, .unset] [(.int p1), (.ref a0)])) rfl (by rw [hml]; rfl) (argsL := [(.ref a0), (.int p1)]) (rest := []) (lenOf pd_0 rfl) rfl (by show 2 * 0 + _ ≤ _; exact Nat.le_of_eq rfl) (hb hby d29_30) (fun _ _ => ⟨rfl, e1, (by decide : 0 + 0 ≤ _), (by decide : 0 + 0 ≤ _)⟩)
  dsimp only [Pt.U, Pt.locs, Pt.cells, Pt.slots] at X2 l2 y2 z2 st2 hQ2
  subst l2 y2 z2
  obtain ⟨rfl, N2q, he2⟩ := hQ2
  have N2 := Fr.app N0 N2q
  refine OwnFin.st st2 ?_
  show OwnFin _ _ _ _ (T2.setTop (mkF m 33 _ [(.int (own_gc s0 p1))]))
  refine OwnFin.st (fun _ q => XS.istore X2.here hx rfl (hb hby d29_33) rfl (l' := #[.val (.ref a0), .val (.int p1), .val (.int p2), .val (.int 0), .val (.int (own_gc s0 p1)), .unset]) rfl q) ?_
  show OwnFin _ _ _ _ (T2.setTop (mkF m 35 _ []))
  refine OwnFin.st (fun _ q => XS.iload X2.here hx rfl (hb hby d29_35) rfl q) ?_
  show OwnFin _ _ _ _ (T2.setTop (mkF m 37 _ [(.int (own_gc s0 p1))]))
  obtain ⟨_, _, ⟨T3, L3, k3, n3⟩, -, X3, ⟨Lc3, hQ3, l3, y3, z3⟩, st3⟩ := Jvm.LawKit.callS X2 hx (y := yM1) hown (mvT hZ (w_ hw 128 rfl)) (mvT hZ (w_ hw 129 rfl)) (mvT hZ (w_ hw 98 rfl)) (mvT hZ (w_ hw 130 rfl)) (by decide) (backOf (W := 0) (rm_hs l Z av0 hw [] (own_gc s0 p1) h0 n0 (Nat.le_trans Z0 kp0.1) ) hZ (w_ hw 130 rfl) (w_ hw 98 rfl) (by decide) (by decide)) (g := (mkF m 37 #[.val (.ref a0), .val (.int p1), .val (.int p2), .val (.int 0), .val (.int (own_gc s0 p1)), .unset] [(.int (own_gc s0 p1))])) rfl (by rw [hml]; rfl) (argsL := [(.int (own_gc s0 p1))]) (rest := []) (lenOf pd_1 rfl) rfl (by show 2 * 0 + _ ≤ _; exact Nat.le_of_eq rfl) (hb hby d29_37) (fun _ _ => ⟨rfl, he2, (by decide : 0 + 0 ≤ _), (by decide : 0 + 0 ≤ _)⟩)
  dsimp only [Pt.U, Pt.locs, Pt.cells, Pt.slots] at X3 l3 y3 z3 st3 hQ3
  subst l3 y3 z3
  obtain ⟨rfl, N3q, he3⟩ := hQ3
  have N3 := Fr.app N2 N3q
  refine OwnFin.st st3 ?_
  show OwnFin _ _ _ _ (T3.setTop (mkF m 40 _ [(.int (own_hs (own_gc s0 p1)))]))
  by_cases hc4 : (own_hs (own_gc s0 p1)) = (0 : Int32)
  ·
   refine OwnFin.st (fun _ q => XS.ifYes X3.here hx rfl (pc0 := 40) (pc' := 83) rfl (hb hby d29_40) rfl (Jvm.Free.XT.i0_eq_t hc4) (by decide) (by decide) q) ?_
   show OwnFin _ _ _ _ (T3.setTop (mkF m 83 _ []))
   refine OwnFin.st (fun _ q => XS.iload X3.here hx rfl (hb hby d29_83) rfl q) ?_
   show OwnFin _ _ _ _ (T3.setTop (mkF m 85 _ [(.int (own_gc s0 p1))]))
   obtain ⟨fs, hr, hrun, hended, hW, hsame⟩ := X3.leave (v := some (.int (own_gc s0 p1))) (fun h => by rw [Bd.returns] at h; cases h)
   refine ⟨_, _, retI X3 hx Bd.returns (hb hby d29_85) hr, hrun, hended, _, _, rfl, ?_, ⟨_, rfl⟩, hW, hsame.mono (by decide) (by decide)⟩
   show Q_rm_cp4 Z a0 p1 p2 k_a0 z0 s0 h0 n0 _ T3.heap _
   rw [he3]
   refine ⟨?_, N3, rfl⟩
   simp [own_cp16, hc4]
  ·
   refine OwnFin.st (fun _ q => XS.ifNo X3.here hx rfl (hb hby d29_40) rfl (Jvm.Free.XT.i0_eq_f hc4) q) ?_
   show OwnFin _ _ _ _ (T3.setTop (mkF m 43 _ []))
   refine OwnFin.st (fun _ q => XS.iinc X3.here hx rfl (hb hby d29_43) rfl (l' := #[.val (.ref a0), .val (.int (p1 + (1 : Int32))), .val (.int p2), .val (.int 0), .val (.int (own_gc s0 p1)), .unset]) rfl q) ?_
   show OwnFin _ _ _ _ (T3.setTop (mkF m 46 _ []))
   refine OwnFin.st (fun _ q => XS.iloadN X3.here hx rfl (hb hby d29_46) rfl q) ?_
   show OwnFin _ _ _ _ (T3.setTop (mkF m 47 #[.val (.ref a0), .val (.int (p1 + (1 : Int32))), .val (.int p2), .val (.int 0), .val (.int (own_gc s0 p1)), .unset] [(.int (p1 + (1 : Int32)))]))
   refine OwnFin.st (fun _ q => XS.iloadN X3.here hx rfl (hb hby d29_47) rfl q) ?_
   show OwnFin _ _ _ _ (T3.setTop (mkF m 48 _ [(.int p2), (.int (p1 + (1 : Int32)))]))
   by_cases hc5 : (p1 + (1 : Int32)) < p2
   ·
    refine OwnFin.st (fun _ q => XS.icmpNo X3.here hx rfl (hb hby d29_48) rfl (Jvm.Free.XT.ii_ge_f hc5) q) ?_
    show OwnFin _ _ _ _ (T3.setTop (mkF m 51 _ []))
    refine OwnFin.st (fun _ q => XS.iloadN X3.here hx rfl (hb hby d29_51) rfl q) ?_
    show OwnFin _ _ _ _ (T3.setTop (mkF m 52 _ [(.int 0)]))
    refine OwnFin.st (fun _ q => XS.ifYes X3.here hx rfl (pc0 := 52) (pc' := 60) rfl (hb hby d29_52) rfl (Jvm.Free.XT.i0_eq_t (rfl : (0 : Int32) = (0 : Int32))) (by decide) (by decide) q) ?_
    show OwnFin _ _ _ _ (T3.setTop (mkF m 60 _ []))
    refine OwnFin.st (fun _ q => XS.aloadN X3.here hx rfl (hb hby d29_60) rfl rfl q) ?_
    show OwnFin _ _ _ _ (T3.setTop (mkF m 61 _ [(.ref a0)]))
    refine OwnFin.st (fun _ q => XS.iloadN X3.here hx rfl (hb hby d29_61) rfl q) ?_
    show OwnFin _ _ _ _ (T3.setTop (mkF m 62 _ [(.int (p1 + (1 : Int32))), (.ref a0)]))
    obtain ⟨_, _, ⟨T6, L6, k6, n6⟩, -, X6, ⟨Lc6, hQ6, l6, y6, z6⟩, st6⟩ := Jvm.LawKit.callS X3 hx (y := yM0) hown (mvT hZ (w_ hw 119 rfl)) (mvT hZ (w_ hw 120 rfl)) (mvT hZ (w_ hw 70 rfl)) (mvT hZ (w_ hw 121 rfl)) (by decide) (backOf (W := 0) (rm_gc l Z av0 hw [] a0 (p1 + (1 : Int32)) k_a0 z0 s0 h0 n0 (Nat.le_trans Z0 kp0.1) Ol0 V_a0 (own_gb2 hgb2 hc5) S__assertionsDisabled S_HI_BYTE_SHIFT S_LO_BYTE_SHIFT) hZ (w_ hw 121 rfl) (w_ hw 70 rfl) (by decide) (by decide)) (g := (mkF m 62 #[.val (.ref a0), .val (.int (p1 + (1 : Int32))), .val (.int p2), .val (.int 0), .val (.int (own_gc s0 p1)), .unset] [(.int (p1 + (1 : Int32))), (.ref a0)])) rfl (by rw [hml]; rfl) (argsL := [(.ref a0), (.int (p1 + (1 : Int32)))]) (rest := []) (lenOf pd_0 rfl) rfl (by show 2 * 0 + _ ≤ _; exact Nat.le_of_eq rfl) (hb hby d29_62) (fun _ _ => ⟨rfl, he3, (by decide : 0 + 0 ≤ _), (by decide : 0 + 0 ≤ _)⟩)
    dsimp only [Pt.U, Pt.locs, Pt.cells, Pt.slots] at X6 l6 y6 z6 st6 hQ6
    subst l6 y6 z6
    obtain ⟨rfl, N6q, he6⟩ := hQ6
    have N6 := Fr.app N3 N6q
    refine OwnFin.st st6 ?_
    show OwnFin _ _ _ _ (T6.setTop (mkF m 65 _ [(.int (own_gc s0 (p1 + (1 : Int32))))]))
    refine OwnFin.st (fun _ q => XS.istore X6.here hx rfl (hb hby d29_65) rfl (l' := #[.val (.ref a0), .val (.int (p1 + (1 : Int32))), .val (.int p2), .val (.int 0), .val (.int (own_gc s0 p1)), .val (.int (own_gc s0 (p1 + (1 : Int32))))]) rfl q) ?_
    show OwnFin _ _ _ _ (T6.setTop (mkF m 67 _ []))
    refine OwnFin.st (fun _ q => XS.iload X6.here hx rfl (hb hby d29_67) rfl q) ?_
    show OwnFin _ _ _ _ (T6.setTop (mkF m 69 _ [(.int (own_gc s0 (p1 + (1 : Int32))))]))
    obtain ⟨_, _, ⟨T7, L7, k7, n7⟩, -, X7, ⟨Lc7, hQ7, l7, y7, z7⟩, st7⟩ := Jvm.LawKit.callS X6 hx (y := yM2) hown (mvT hZ (w_ hw 133 rfl)) (mvT hZ (w_ hw 134 rfl)) (mvT hZ (w_ hw 98 rfl)) (mvT hZ (w_ hw 135 rfl)) (by decide) (backOf (W := 0) (rm_ls l Z av0 hw [] (own_gc s0 (p1 + (1 : Int32))) h0 n0 (Nat.le_trans Z0 kp0.1) ) hZ (w_ hw 135 rfl) (w_ hw 98 rfl) (by decide) (by decide)) (g := (mkF m 69 #[.val (.ref a0), .val (.int (p1 + (1 : Int32))), .val (.int p2), .val (.int 0), .val (.int (own_gc s0 p1)), .val (.int (own_gc s0 (p1 + (1 : Int32))))] [(.int (own_gc s0 (p1 + (1 : Int32))))])) rfl (by rw [hml]; rfl) (argsL := [(.int (own_gc s0 (p1 + (1 : Int32))))]) (rest := []) (lenOf pd_1 rfl) rfl (by show 2 * 0 + _ ≤ _; exact Nat.le_of_eq rfl) (hb hby d29_69) (fun _ _ => ⟨rfl, he6, (by decide : 0 + 0 ≤ _), (by decide : 0 + 0 ≤ _)⟩)
    dsimp only [Pt.U, Pt.locs, Pt.cells, Pt.slots] at X7 l7 y7 z7 st7 hQ7
    subst l7 y7 z7
    obtain ⟨rfl, N7q, he7⟩ := hQ7
    have N7 := Fr.app N6 N7q
    refine OwnFin.st st7 ?_
    show OwnFin _ _ _ _ (T7.setTop (mkF m 72 _ [(.int (own_ls (own_gc s0 (p1 + (1 : Int32)))))]))
    by_cases hc8 : (own_ls (own_gc s0 (p1 + (1 : Int32)))) = (0 : Int32)
    ·
     refine OwnFin.st (fun _ q => XS.ifYes X7.here hx rfl (pc0 := 72) (pc' := 83) rfl (hb hby d29_72) rfl (Jvm.Free.XT.i0_eq_t hc8) (by decide) (by decide) q) ?_
     show OwnFin _ _ _ _ (T7.setTop (mkF m 83 _ []))
     refine OwnFin.st (fun _ q => XS.iload X7.here hx rfl (hb hby d29_83) rfl q) ?_
     show OwnFin _ _ _ _ (T7.setTop (mkF m 85 _ [(.int (own_gc s0 p1))]))
     obtain ⟨fs, hr, hrun, hended, hW, hsame⟩ := X7.leave (v := some (.int (own_gc s0 p1))) (fun h => by rw [Bd.returns] at h; cases h)
     refine ⟨_, _, retI X7 hx Bd.returns (hb hby d29_85) hr, hrun, hended, _, _, rfl, ?_, ⟨_, rfl⟩, hW, hsame.mono (by decide) (by decide)⟩
     show Q_rm_cp4 Z a0 p1 p2 k_a0 z0 s0 h0 n0 _ T7.heap _
     rw [he7]
     refine ⟨?_, N7, rfl⟩
     simp [own_cp16, hc4, hc5, hc8]
    ·
     refine OwnFin.st (fun _ q => XS.ifNo X7.here hx rfl (hb hby d29_72) rfl (Jvm.Free.XT.i0_eq_f hc8) q) ?_
     show OwnFin _ _ _ _ (T7.setTop (mkF m 75 _ []))
     refine OwnFin.st (fun _ q => XS.iload X7.here hx rfl (hb hby d29_75) rfl q) ?_
     show OwnFin _ _ _ _ (T7.setTop (mkF m 77 _ [(.int (own_gc s0 p1))]))
     refine OwnFin.st (fun _ q => XS.iload X7.here hx rfl (hb hby d29_77) rfl q) ?_
     show OwnFin _ _ _ _ (T7.setTop (mkF m 79 #[.val (.ref a0), .val (.int (p1 + (1 : Int32))), .val (.int p2), .val (.int 0), .val (.int (own_gc s0 p1)), .val (.int (own_gc s0 (p1 + (1 : Int32))))] [(.int (own_gc s0 (p1 + (1 : Int32)))), (.int (own_gc s0 p1))]))
     obtain ⟨_, _, ⟨T9, L9, k9, n9⟩, -, X9, ⟨Lc9, hQ9, l9, y9, z9⟩, st9⟩ := Jvm.LawKit.callS X7 hx (y := yM3) hown (mvT hZ (w_ hw 137 rfl)) (mvT hZ (w_ hw 138 rfl)) (mvT hZ (w_ hw 98 rfl)) (mvT hZ (w_ hw 139 rfl)) (by decide) (backOf (W := 0) (rm_tcp l Z av0 hw [] (own_gc s0 p1) (own_gc s0 (p1 + (1 : Int32))) h0 n0 (Nat.le_trans Z0 kp0.1) ) hZ (w_ hw 139 rfl) (w_ hw 98 rfl) (by decide) (by decide)) (g := (mkF m 79 #[.val (.ref a0), .val (.int (p1 + (1 : Int32))), .val (.int p2), .val (.int 0), .val (.int (own_gc s0 p1)), .val (.int (own_gc s0 (p1 + (1 : Int32))))] [(.int (own_gc s0 (p1 + (1 : Int32)))), (.int (own_gc s0 p1))])) rfl (by rw [hml]; rfl) (argsL := [(.int (own_gc s0 p1)), (.int (own_gc s0 (p1 + (1 : Int32))))]) (rest := []) (lenOf pd_2 rfl) rfl (by show 2 * 0 + _ ≤ _; exact Nat.le_of_eq rfl) (hb hby d29_79) (fun _ _ => ⟨rfl, he7, (by decide : 0 + 0 ≤ _), (by decide : 0 + 0 ≤ _)⟩)
     dsimp only [Pt.U, Pt.locs, Pt.cells, Pt.slots] at X9 l9 y9 z9 st9 hQ9
     subst l9 y9 z9
     obtain ⟨rfl, N9q, he9⟩ := hQ9
     have N9 := Fr.app N7 N9q
     refine OwnFin.st st9 ?_
     show OwnFin _ _ _ _ (T9.setTop (mkF m 82 _ [(.int (own_tcp (own_gc s0 p1) (own_gc s0 (p1 + (1 : Int32)))))]))
     obtain ⟨fs, hr, hrun, hended, hW, hsame⟩ := X9.leave (v := some (.int (own_tcp (own_gc s0 p1) (own_gc s0 (p1 + (1 : Int32)))))) (fun h => by rw [Bd.returns] at h; cases h)
     refine ⟨_, _, retI X9 hx Bd.returns (hb hby d29_82) hr, hrun, hended, _, _, rfl, ?_, ⟨_, rfl⟩, hW, hsame.mono (by decide) (by decide)⟩
     show Q_rm_cp4 Z a0 p1 p2 k_a0 z0 s0 h0 n0 _ T9.heap _
     rw [he9]
     refine ⟨?_, N9, rfl⟩
     simp [own_cp16, hc4, hc5, hc8]
   ·
    refine OwnFin.st (fun _ q => XS.icmpYes X3.here hx rfl (pc0 := 48) (pc' := 83) rfl (hb hby d29_48) rfl (Jvm.Free.XT.ii_ge_t hc5) (by decide) (by decide) q) ?_
    show OwnFin _ _ _ _ (T3.setTop (mkF m 83 _ []))
    refine OwnFin.st (fun _ q => XS.iload X3.here hx rfl (hb hby d29_83) rfl q) ?_
    show OwnFin _ _ _ _ (T3.setTop (mkF m 85 _ [(.int (own_gc s0 p1))]))
    obtain ⟨fs, hr, hrun, hended, hW, hsame⟩ := X3.leave (v := some (.int (own_gc s0 p1))) (fun h => by rw [Bd.returns] at h; cases h)
    refine ⟨_, _, retI X3 hx Bd.returns (hb hby d29_85) hr, hrun, hended, _, _, rfl, ?_, ⟨_, rfl⟩, hW, hsame.mono (by decide) (by decide)⟩
    show Q_rm_cp4 Z a0 p1 p2 k_a0 z0 s0 h0 n0 _ T3.heap _
    rw [he3]
    refine ⟨?_, N3, rfl⟩
    simp [own_cp16, hc4, hc5]
theorem pd_3 : parseMethodDescriptor "([BIIZ)I" = some ⟨[(.array .byte), .int, .int, .boolean], some .int⟩ := by decide +kernel
theorem d28_0 : decode jdk_52_method_8_code 0 = .ok (.aload_n 0, 1) := by decide +kernel
theorem d28_1 : decode jdk_52_method_8_code 1 = .ok (.iload_n 1, 1) := by decide +kernel
theorem d28_2 : decode jdk_52_method_8_code 2 = .ok (.iload_n 2, 1) := by decide +kernel
theorem d28_3 : decode jdk_52_method_8_code 3 = .ok (.iconst 0, 1) := by decide +kernel
theorem d28_4 : decode jdk_52_method_8_code 4 = .ok (.invokestatic 88, 3) := by decide +kernel
theorem d28_7 : decode jdk_52_method_8_code 7 = .ok (.ireturn, 1) := by decide +kernel
theorem ef_rm_cp3 (m : MethodId) (a0 : Addr) (p1 : Int32) (p2 : Int32) : entryFrame m #[(.ref a0), (.int p1), (.int p2)] 3 = mkF m 0 #[.val (.ref a0), .val (.int p1), .val (.int p2)] [] := by first | (simp [entryFrame, mkF, argsToLocals, Value.category]; done) | rfl
def Q_rm_cp3 (Z : State) (a0 : Addr) (p1 : Int32) (p2 : Int32) (k_a0 : ClassId) (z0 : Int32) (s0 : Nat → Int32) (h0 : Heap) (n0 : Nat) (v : Option Value) (h : Heap) (L : List Loc) : Prop := v = some (.int (own_cp16 s0 p1 p2)) ∧ Fr n0 L ∧ h = h0
set_option maxRecDepth 65536 in
set_option maxHeartbeats 40000000 in
theorem rm_cp3 (l : Launch) (Z : State) (av0 : Array Value) (hw : ∀ d ∈ tables_1, d.before av0 Z = true) (ws : List Jvm.Cond) (a0 : Addr) (p1 : Int32) (p2 : Int32) (k_a0 : ClassId) (z0 : Int32) (s0 : Nat → Int32) (h0 : Heap) (n0 : Nat) (Z0 : n0 ≤ h0.size) (Ol0 : Old Z n0 h0) (V_a0 : Arv Z h0 a0 k_a0 .byte z0 (own_ml z0 s0) (.int 0)) (hgb2 : 0 ≤ p1.toInt ∧ p1.toInt < p2.toInt ∧ 2 * p2.toInt ≤ z0.toInt) (S__assertionsDisabled : Sta Z Z.heap "java/lang/StringUTF16" "$assertionsDisabled" "Z" (.int 1)) (S_HI_BYTE_SHIFT : Sta Z Z.heap "java/lang/StringUTF16" "HI_BYTE_SHIFT" "I" (.int 0)) (S_LO_BYTE_SHIFT : Sta Z Z.heap "java/lang/StringUTF16" "LO_BYTE_SHIFT" "I" (.int 8)) :
    MetFree l yM5 (head1 (Jvm.Cond.code yM5 jdk_52_method_8_code 3 (some .int) :: ws) ({ frames := 2, cells := 0, slots := 0, locals := 30 } : Room)) (fun a U => a = #[(.ref a0), (.int p1), (.int p2)] ∧ Z.Warmed39 U.vm ∧ U.heap = h0) (fun _ _ _ _ _ => True) (fun _ U o U' => ∃ v L, o = .returned v ∧ Q_rm_cp3 Z a0 p1 p2 k_a0 z0 s0 h0 n0 v U'.heap L ∧ FrameEnd U o U' L ({ frames := 2, cells := 0, slots := 0, locals := 30 } : Room).cells ({ frames := 2, cells := 0, slots := 0, locals := 30 } : Room).slots) := by
  refine MetFree.of_bodySF (plainFor_of_name pn_0) hisR ?_
  intro p e s m args below meth c s₁ Bd hml0 hP hK
  obtain ⟨rfl, hZ, hh⟩ := hP
  have hx := Bd.exec
  have hby := Bd.bytes
  have hml : c.maxLocals = 3 := hml0
  have hown : s.vm.findClass "java/lang/StringUTF16" = some m.cls := findClass_of_methodNamed Bd.named
  have hnm := (name_of_methodNamed Bd.named Bd.method).1
  have X0 : Stand p l e ({ frames := 2, cells := 0, slots := 0, locals := 30 } : Room) s m #[(.ref a0), (.int p1), (.int p2)] below meth c s₁ [] 0 0 := Stand.of_body Bd
  have e0 : s₁.heap = h0 := by rw [← hh, Bd.state]; rfl
  have N0 := Fr.nil n0
  have pre0 : ∀ t, Steps p.tables e below (s₁.setTop (mkF m 0 #[.val (.ref a0), .val (.int p1), .val (.int p2)] [])) t → Steps p.tables e below (s₁.setTop (entryFrame m #[(.ref a0), (.int p1), (.int p2)] 3)) t := fun t k => castTop (ef_rm_cp3 m a0 p1 p2) k
  change OwnFin p.tables e below _ (s₁.setTop (entryFrame m #[(.ref a0), (.int p1), (.int p2)] 3))
  have kp0 : Keep h0 h0 [] := Keep.refl _ _
  refine OwnFin.st (fun _ q => pre0 _ q) ?_
  show OwnFin _ _ _ _ (s₁.setTop (mkF m 0 #[.val (.ref a0), .val (.int p1), .val (.int p2)] []))
  refine OwnFin.st (fun _ q => XS.aloadN X0.here hx rfl (hb hby d28_0) rfl rfl q) ?_
  show OwnFin _ _ _ _ (s₁.setTop (mkF m 1 _ [(.ref a0)]))
  refine OwnFin.st (fun _ q => XS.iloadN X0.here hx rfl (hb hby d28_1) rfl q) ?_
  show OwnFin _ _ _ _ (s₁.setTop (mkF m 2 _ [(.int p1), (.ref a0)]))
  refine OwnFin.st (fun _ q => XS.iloadN X0.here hx rfl (hb hby d28_2) rfl q) ?_
  show OwnFin _ _ _ _ (s₁.setTop (mkF m 3 _ [(.int p2), (.int p1), (.ref a0)]))
  refine OwnFin.st (fun _ q => XS.iconst X0.here hx rfl (hb hby d28_3) q) ?_
  show OwnFin _ _ _ _ (s₁.setTop (mkF m 4 _ [(.int 0), (.int p2), (.int p1), (.ref a0)]))
  obtain ⟨_, _, ⟨T1, L1, k1, n1⟩, -, X1, ⟨Lc1, hQ1, l1, y1, z1⟩, st1⟩ := Jvm.LawKit.callS X0 hx (y := yM4) hown (mvT hZ (w_ hw 125 rfl)) (mvT hZ (w_ hw 126 rfl)) (mvT hZ (w_ hw 70 rfl)) (mvT hZ (w_ hw 127 rfl)) (by decide) (backOf (W := 0) (rm_cp4 l Z av0 hw [] a0 p1 p2 k_a0 z0 s0 h0 n0 (Nat.le_trans Z0 kp0.1) Ol0 V_a0 hgb2 S__assertionsDisabled S_HI_BYTE_SHIFT S_LO_BYTE_SHIFT) hZ (w_ hw 127 rfl) (w_ hw 70 rfl) (by decide) (by decide)) (g := (mkF m 4 #[.val (.ref a0), .val (.int p1), .val (.int p2)] [(.int 0), (.int p2), (.int p1), (.ref a0)])) rfl (by rw [hml]; rfl) (argsL := [(.ref a0), (.int p1), (.int p2), (.int 0)]) (rest := []) (lenOf pd_3 rfl) rfl (by show 2 * 0 + _ ≤ _; exact Nat.le_of_eq rfl) (hb hby d28_4) (fun _ _ => ⟨rfl, e0, (by decide : 0 + 0 ≤ _), (by decide : 0 + 0 ≤ _)⟩)
  dsimp only [Pt.U, Pt.locs, Pt.cells, Pt.slots] at X1 l1 y1 z1 st1 hQ1
  subst l1 y1 z1
  obtain ⟨rfl, N1q, he1⟩ := hQ1
  have N1 := Fr.app N0 N1q
  refine OwnFin.st st1 ?_
  show OwnFin _ _ _ _ (T1.setTop (mkF m 7 _ [(.int (own_cp16 s0 p1 p2))]))
  obtain ⟨fs, hr, hrun, hended, hW, hsame⟩ := X1.leave (v := some (.int (own_cp16 s0 p1 p2))) (fun h => by rw [Bd.returns] at h; cases h)
  refine ⟨_, _, retI X1 hx Bd.returns (hb hby d28_7) hr, hrun, hended, _, _, rfl, ?_, ⟨_, rfl⟩, hW, hsame.mono (by decide) (by decide)⟩
  show Q_rm_cp3 Z a0 p1 p2 k_a0 z0 s0 h0 n0 _ T1.heap _
  rw [he1]
  refine ⟨?_, N1, rfl⟩
  rfl
theorem d19_0 : decode jdk_42_method_154_code 0 = .ok (.getstatic 38, 3) := by decide +kernel
theorem d19_3 : decode jdk_42_method_154_code 3 = .ok (.ifCond .eq 14, 3) := by decide +kernel
theorem d19_6 : decode jdk_42_method_154_code 6 = .ok (.aload_n 0, 1) := by decide +kernel
theorem d19_7 : decode jdk_42_method_154_code 7 = .ok (.getfield 15, 3) := by decide +kernel
theorem d19_10 : decode jdk_42_method_154_code 10 = .ok (.ifCond .ne 7, 3) := by decide +kernel
theorem d19_13 : decode jdk_42_method_154_code 13 = .ok (.iconst 1, 1) := by decide +kernel
theorem d19_14 : decode jdk_42_method_154_code 14 = .ok (.goto 4, 3) := by decide +kernel
theorem d19_18 : decode jdk_42_method_154_code 18 = .ok (.ireturn, 1) := by decide +kernel
theorem pn_2 : plainName "java/lang/String" = true := by first | (simp [plainName, overriddenIn]; done) | decide +kernel
theorem ef_rm_ilY (m : MethodId) (a0 : Addr) : entryFrame m #[(.ref a0)] 1 = mkF m 0 #[.val (.ref a0)] [] := by first | (simp [entryFrame, mkF, argsToLocals, Value.category]; done) | rfl
def Q_rm_ilY (Z : State) (a0 : Addr) (cd0 : Int32) (w_COMPACT_STRINGS : Int32) (h0 : Heap) (n0 : Nat) (v : Option Value) (h : Heap) (L : List Loc) : Prop := v = some (.int 1) ∧ Fr n0 L ∧ h = h0
set_option maxRecDepth 65536 in
set_option maxHeartbeats 40000000 in
theorem rm_ilY (l : Launch) (Z : State) (av0 : Array Value) (hw : ∀ d ∈ tables_1, d.before av0 Z = true) (ws : List Jvm.Cond) (a0 : Addr) (cd0 : Int32) (w_COMPACT_STRINGS : Int32) (h0 : Heap) (n0 : Nat) (Z0 : n0 ≤ h0.size) (Ol0 : Old Z n0 h0) (F_coder_a0 : Fld Z h0 a0 "java/lang/String" "coder" "B" (.int cd0)) (S_COMPACT_STRINGS : Sta Z Z.heap "java/lang/String" "COMPACT_STRINGS" "Z" (.int w_COMPACT_STRINGS)) (hc0 : ¬ (w_COMPACT_STRINGS = (0 : Int32))) (hc1 : cd0 = (0 : Int32)) :
    MetFree l yM6 (head1 (Jvm.Cond.code yM6 jdk_42_method_154_code 1 (some .boolean) :: ws) ({ frames := 0, cells := 0, slots := 0, locals := 0 } : Room)) (fun a U => a = #[(.ref a0)] ∧ Z.Warmed39 U.vm ∧ U.heap = h0) (fun _ _ _ _ _ => True) (fun _ U o U' => ∃ v L, o = .returned v ∧ Q_rm_ilY Z a0 cd0 w_COMPACT_STRINGS h0 n0 v U'.heap L ∧ FrameEnd U o U' L ({ frames := 0, cells := 0, slots := 0, locals := 0 } : Room).cells ({ frames := 0, cells := 0, slots := 0, locals := 0 } : Room).slots) := by
  refine MetFree.of_bodySF (plainFor_of_name pn_2) hisR ?_
  intro p e s m args below meth c s₁ Bd hml0 hP hK
  obtain ⟨rfl, hZ, hh⟩ := hP
  have hx := Bd.exec
  have hby := Bd.bytes
  have hml : c.maxLocals = 1 := hml0
  have hown : s.vm.findClass "java/lang/String" = some m.cls := findClass_of_methodNamed Bd.named
  have hnm := (name_of_methodNamed Bd.named Bd.method).1
  have X0 : Stand p l e ({ frames := 0, cells := 0, slots := 0, locals := 0 } : Room) s m #[(.ref a0)] below meth c s₁ [] 0 0 := Stand.of_body Bd
  have e0 : s₁.heap = h0 := by rw [← hh, Bd.state]; rfl
  have N0 := Fr.nil n0
  have pre0 : ∀ t, Steps p.tables e below (s₁.setTop (mkF m 0 #[.val (.ref a0)] [])) t → Steps p.tables e below (s₁.setTop (entryFrame m #[(.ref a0)] 1)) t := fun t k => castTop (ef_rm_ilY m a0) k
  change OwnFin p.tables e below _ (s₁.setTop (entryFrame m #[(.ref a0)] 1))
  have kp0 : Keep h0 h0 [] := Keep.refl _ _
  refine OwnFin.st (fun _ q => pre0 _ q) ?_
  show OwnFin _ _ _ _ (s₁.setTop (mkF m 0 #[.val (.ref a0)] []))
  obtain ⟨T1, X1, e1, st1⟩ := getS2 X0 hx hZ hown (host := "") (Or.inl (w_ hw 55 rfl)) Via.refl e0 (S_COMPACT_STRINGS.ext Ol0.2) (g := (mkF m 0 #[.val (.ref a0)] [])) rfl (hb hby d19_0)
  refine OwnFin.st st1 ?_
  show OwnFin _ _ _ _ (T1.setTop (mkF m 3 _ [(.int w_COMPACT_STRINGS)]))
  refine OwnFin.st (fun _ q => XS.ifNo X1.here hx rfl (hb hby d19_3) rfl (Jvm.Free.XT.i0_eq_f hc0) q) ?_
  show OwnFin _ _ _ _ (T1.setTop (mkF m 6 _ []))
  refine OwnFin.st (fun _ q => XS.aloadN X1.here hx rfl (hb hby d19_6) rfl rfl q) ?_
  show OwnFin _ _ _ _ (T1.setTop (mkF m 7 _ [(.ref a0)]))
  obtain ⟨T2, X2, e2, st2⟩ := getF X1 hx hZ hown (host := "") (Or.inl (w_ hw 40 rfl)) Via.refl e1 F_coder_a0 (g := (mkF m 7 #[.val (.ref a0)] [(.ref a0)])) rfl rfl (hb hby d19_7)
  refine OwnFin.st st2 ?_
  show OwnFin _ _ _ _ (T2.setTop (mkF m 10 _ [(.int cd0)]))
  refine OwnFin.st (fun _ q => XS.ifNo X2.here hx rfl (hb hby d19_10) rfl (Jvm.Free.XT.i0_ne_f hc1) q) ?_
  show OwnFin _ _ _ _ (T2.setTop (mkF m 13 _ []))
  refine OwnFin.st (fun _ q => XS.iconst X2.here hx rfl (hb hby d19_13) q) ?_
  show OwnFin _ _ _ _ (T2.setTop (mkF m 14 _ [(.int 1)]))
  refine OwnFin.st (fun _ q => XS.goto X2.here hx rfl (pc0 := 14) (pc' := 18) rfl (hb hby d19_14) (by decide) (by decide) q) ?_
  show OwnFin _ _ _ _ (T2.setTop (mkF m 18 _ [(.int 1)]))
  obtain ⟨fs, hr, hrun, hended, hW, hsame⟩ := X2.leave (v := some (.int 1)) (fun h => by rw [Bd.returns] at h; cases h)
  refine ⟨_, _, retN X2 hx (t := .boolean) Bd.returns (by simp) (hb hby d19_18) hr, hrun, hended, _, _, rfl, ?_, ⟨_, rfl⟩, hW, hsame.mono (by decide) (by decide)⟩
  show Q_rm_ilY Z a0 cd0 w_COMPACT_STRINGS h0 n0 _ T2.heap _
  rw [e2]
  exact ⟨rfl, N0, rfl⟩
theorem d19_17 : decode jdk_42_method_154_code 17 = .ok (.iconst 0, 1) := by decide +kernel
theorem ef_rm_ilN (m : MethodId) (a0 : Addr) : entryFrame m #[(.ref a0)] 1 = mkF m 0 #[.val (.ref a0)] [] := by first | (simp [entryFrame, mkF, argsToLocals, Value.category]; done) | rfl
def Q_rm_ilN (Z : State) (a0 : Addr) (cd0 : Int32) (w_COMPACT_STRINGS : Int32) (h0 : Heap) (n0 : Nat) (v : Option Value) (h : Heap) (L : List Loc) : Prop := v = some (.int 0) ∧ Fr n0 L ∧ h = h0
set_option maxRecDepth 65536 in
set_option maxHeartbeats 40000000 in
theorem rm_ilN (l : Launch) (Z : State) (av0 : Array Value) (hw : ∀ d ∈ tables_1, d.before av0 Z = true) (ws : List Jvm.Cond) (a0 : Addr) (cd0 : Int32) (w_COMPACT_STRINGS : Int32) (h0 : Heap) (n0 : Nat) (Z0 : n0 ≤ h0.size) (Ol0 : Old Z n0 h0) (F_coder_a0 : Fld Z h0 a0 "java/lang/String" "coder" "B" (.int cd0)) (S_COMPACT_STRINGS : Sta Z Z.heap "java/lang/String" "COMPACT_STRINGS" "Z" (.int w_COMPACT_STRINGS)) (hc0 : ¬ (w_COMPACT_STRINGS = (0 : Int32))) (hc1 : ¬ (cd0 = (0 : Int32))) :
    MetFree l yM6 (head1 (Jvm.Cond.code yM6 jdk_42_method_154_code 1 (some .boolean) :: ws) ({ frames := 0, cells := 0, slots := 0, locals := 0 } : Room)) (fun a U => a = #[(.ref a0)] ∧ Z.Warmed39 U.vm ∧ U.heap = h0) (fun _ _ _ _ _ => True) (fun _ U o U' => ∃ v L, o = .returned v ∧ Q_rm_ilN Z a0 cd0 w_COMPACT_STRINGS h0 n0 v U'.heap L ∧ FrameEnd U o U' L ({ frames := 0, cells := 0, slots := 0, locals := 0 } : Room).cells ({ frames := 0, cells := 0, slots := 0, locals := 0 } : Room).slots) := by
  refine MetFree.of_bodySF (plainFor_of_name pn_2) hisR ?_
  intro p e s m args below meth c s₁ Bd hml0 hP hK
  obtain ⟨rfl, hZ, hh⟩ := hP
  have hx := Bd.exec
  have hby := Bd.bytes
  have hml : c.maxLocals = 1 := hml0
  have hown : s.vm.findClass "java/lang/String" = some m.cls := findClass_of_methodNamed Bd.named
  have hnm := (name_of_methodNamed Bd.named Bd.method).1
  have X0 : Stand p l e ({ frames := 0, cells := 0, slots := 0, locals := 0 } : Room) s m #[(.ref a0)] below meth c s₁ [] 0 0 := Stand.of_body Bd
  have e0 : s₁.heap = h0 := by rw [← hh, Bd.state]; rfl
  have N0 := Fr.nil n0
  have pre0 : ∀ t, Steps p.tables e below (s₁.setTop (mkF m 0 #[.val (.ref a0)] [])) t → Steps p.tables e below (s₁.setTop (entryFrame m #[(.ref a0)] 1)) t := fun t k => castTop (ef_rm_ilN m a0) k
  change OwnFin p.tables e below _ (s₁.setTop (entryFrame m #[(.ref a0)] 1))
  have kp0 : Keep h0 h0 [] := Keep.refl _ _
  refine OwnFin.st (fun _ q => pre0 _ q) ?_
  show OwnFin _ _ _ _ (s₁.setTop (mkF m 0 #[.val (.ref a0)] []))
  obtain ⟨T1, X1, e1, st1⟩ := getS2 X0 hx hZ hown (host := "") (Or.inl (w_ hw 55 rfl)) Via.refl e0 (S_COMPACT_STRINGS.ext Ol0.2) (g := (mkF m 0 #[.val (.ref a0)] [])) rfl (hb hby d19_0)
  refine OwnFin.st st1 ?_
  show OwnFin _ _ _ _ (T1.setTop (mkF m 3 _ [(.int w_COMPACT_STRINGS)]))
  refine OwnFin.st (fun _ q => XS.ifNo X1.here hx rfl (hb hby d19_3) rfl (Jvm.Free.XT.i0_eq_f hc0) q) ?_
  show OwnFin _ _ _ _ (T1.setTop (mkF m 6 _ []))
  refine OwnFin.st (fun _ q => XS.aloadN X1.here hx rfl (hb hby d19_6) rfl rfl q) ?_
  show OwnFin _ _ _ _ (T1.setTop (mkF m 7 _ [(.ref a0)]))
  obtain ⟨T2, X2, e2, st2⟩ := getF X1 hx hZ hown (host := "") (Or.inl (w_ hw 40 rfl)) Via.refl e1 F_coder_a0 (g := (mkF m 7 #[.val (.ref a0)] [(.ref a0)])) rfl rfl (hb hby d19_7)
  refine OwnFin.st st2 ?_
  show OwnFin _ _ _ _ (T2.setTop (mkF m 10 _ [(.int cd0)]))
  refine OwnFin.st (fun _ q => XS.ifYes X2.here hx rfl (pc0 := 10) (pc' := 17) rfl (hb hby d19_10) rfl (Jvm.Free.XT.i0_ne_t hc1) (by decide) (by decide) q) ?_
  show OwnFin _ _ _ _ (T2.setTop (mkF m 17 _ []))
  refine OwnFin.st (fun _ q => XS.iconst X2.here hx rfl (hb hby d19_17) q) ?_
  show OwnFin _ _ _ _ (T2.setTop (mkF m 18 _ [(.int 0)]))
  obtain ⟨fs, hr, hrun, hended, hW, hsame⟩ := X2.leave (v := some (.int 0)) (fun h => by rw [Bd.returns] at h; cases h)
  refine ⟨_, _, retN X2 hx (t := .boolean) Bd.returns (by simp) (hb hby d19_18) hr, hrun, hended, _, _, rfl, ?_, ⟨_, rfl⟩, hW, hsame.mono (by decide) (by decide)⟩
  show Q_rm_ilN Z a0 cd0 w_COMPACT_STRINGS h0 n0 _ T2.heap _
  rw [e2]
  exact ⟨rfl, N0, rfl⟩
theorem own_narcd {x : Int32} (h : x = (0 : Int32) ∨ x = (1 : Int32)) : nar .byte x = x := by rcases h with rfl | rfl <;> decide
theorem d11_0 : decode jdk_42_method_152_code 0 = .ok (.getstatic 38, 3) := by decide +kernel
theorem d11_3 : decode jdk_42_method_152_code 3 = .ok (.ifCond .eq 10, 3) := by decide +kernel
theorem d11_6 : decode jdk_42_method_152_code 6 = .ok (.aload_n 0, 1) := by decide +kernel
theorem d11_7 : decode jdk_42_method_152_code 7 = .ok (.getfield 15, 3) := by decide +kernel
theorem d11_10 : decode jdk_42_method_152_code 10 = .ok (.goto 4, 3) := by decide +kernel
theorem d11_14 : decode jdk_42_method_152_code 14 = .ok (.ireturn, 1) := by decide +kernel
theorem ef_rm_cod (m : MethodId) (a0 : Addr) : entryFrame m #[(.ref a0)] 1 = mkF m 0 #[.val (.ref a0)] [] := by first | (simp [entryFrame, mkF, argsToLocals, Value.category]; done) | rfl
def Q_rm_cod (Z : State) (a0 : Addr) (cd0 : Int32) (w_COMPACT_STRINGS : Int32) (h0 : Heap) (n0 : Nat) (v : Option Value) (h : Heap) (L : List Loc) : Prop := v = some (.int cd0) ∧ Fr n0 L ∧ h = h0
set_option maxRecDepth 65536 in
set_option maxHeartbeats 40000000 in
theorem rm_cod (l : Launch) (Z : State) (av0 : Array Value) (hw : ∀ d ∈ tables_1, d.before av0 Z = true) (ws : List Jvm.Cond) (a0 : Addr) (cd0 : Int32) (w_COMPACT_STRINGS : Int32) (h0 : Heap) (n0 : Nat) (Z0 : n0 ≤ h0.size) (Ol0 : Old Z n0 h0) (F_coder_a0 : Fld Z h0 a0 "java/lang/String" "coder" "B" (.int cd0)) (hcd : cd0 = (0 : Int32) ∨ cd0 = (1 : Int32)) (S_COMPACT_STRINGS : Sta Z Z.heap "java/lang/String" "COMPACT_STRINGS" "Z" (.int w_COMPACT_STRINGS)) (hc0 : ¬ (w_COMPACT_STRINGS = (0 : Int32))) :
    MetFree l yM7 (head1 (Jvm.Cond.code yM7 jdk_42_method_152_code 1 (some .byte) :: ws) ({ frames := 0, cells := 0, slots := 0, locals := 0 } : Room)) (fun a U => a = #[(.ref a0)] ∧ Z.Warmed39 U.vm ∧ U.heap = h0) (fun _ _ _ _ _ => True) (fun _ U o U' => ∃ v L, o = .returned v ∧ Q_rm_cod Z a0 cd0 w_COMPACT_STRINGS h0 n0 v U'.heap L ∧ FrameEnd U o U' L ({ frames := 0, cells := 0, slots := 0, locals := 0 } : Room).cells ({ frames := 0, cells := 0, slots := 0, locals := 0 } : Room).slots) := by
  refine MetFree.of_bodySF (plainFor_of_name pn_2) hisR ?_
  intro p e s m args below meth c s₁ Bd hml0 hP hK
  obtain ⟨rfl, hZ, hh⟩ := hP
  have hx := Bd.exec
  have hby := Bd.bytes
  have hml : c.maxLocals = 1 := hml0
  have hown : s.vm.findClass "java/lang/String" = some m.cls := findClass_of_methodNamed Bd.named
  have hnm := (name_of_methodNamed Bd.named Bd.method).1
  have X0 : Stand p l e ({ frames := 0, cells := 0, slots := 0, locals := 0 } : Room) s m #[(.ref a0)] below meth c s₁ [] 0 0 := Stand.of_body Bd
  have e0 : s₁.heap = h0 := by rw [← hh, Bd.state]; rfl
  have N0 := Fr.nil n0
  have pre0 : ∀ t, Steps p.tables e below (s₁.setTop (mkF m 0 #[.val (.ref a0)] [])) t → Steps p.tables e below (s₁.setTop (entryFrame m #[(.ref a0)] 1)) t := fun t k => castTop (ef_rm_cod m a0) k
  change OwnFin p.tables e below _ (s₁.setTop (entryFrame m #[(.ref a0)] 1))
  have kp0 : Keep h0 h0 [] := Keep.refl _ _
  refine OwnFin.st (fun _ q => pre0 _ q) ?_
  show OwnFin _ _ _ _ (s₁.setTop (mkF m 0 #[.val (.ref a0)] []))
  obtain ⟨T1, X1, e1, st1⟩ := getS2 X0 hx hZ hown (host := "") (Or.inl (w_ hw 55 rfl)) Via.refl e0 (S_COMPACT_STRINGS.ext Ol0.2) (g := (mkF m 0 #[.val (.ref a0)] [])) rfl (hb hby d11_0)
  refine OwnFin.st st1 ?_
  show OwnFin _ _ _ _ (T1.setTop (mkF m 3 _ [(.int w_COMPACT_STRINGS)]))
  refine OwnFin.st (fun _ q => XS.ifNo X1.here hx rfl (hb hby d11_3) rfl (Jvm.Free.XT.i0_eq_f hc0) q) ?_
  show OwnFin _ _ _ _ (T1.setTop (mkF m 6 _ []))
  refine OwnFin.st (fun _ q => XS.aloadN X1.here hx rfl (hb hby d11_6) rfl rfl q) ?_
  show OwnFin _ _ _ _ (T1.setTop (mkF m 7 _ [(.ref a0)]))
  obtain ⟨T2, X2, e2, st2⟩ := getF X1 hx hZ hown (host := "") (Or.inl (w_ hw 40 rfl)) Via.refl e1 F_coder_a0 (g := (mkF m 7 #[.val (.ref a0)] [(.ref a0)])) rfl rfl (hb hby d11_7)
  refine OwnFin.st st2 ?_
  show OwnFin _ _ _ _ (T2.setTop (mkF m 10 _ [(.int cd0)]))
  refine OwnFin.st (fun _ q => XS.goto X2.here hx rfl (pc0 := 10) (pc' := 14) rfl (hb hby d11_10) (by decide) (by decide) q) ?_
  show OwnFin _ _ _ _ (T2.setTop (mkF m 14 _ [(.int cd0)]))
  obtain ⟨fs, hr, hrun, hended, hW, hsame⟩ := X2.leave (v := some (.int (nar .byte cd0))) (fun h => by rw [Bd.returns] at h; cases h)
  refine ⟨_, _, retN X2 hx (t := .byte) Bd.returns (by simp) (hb hby d11_14) hr, hrun, hended, _, _, rfl, ?_, ⟨_, rfl⟩, hW, hsame.mono (by decide) (by decide)⟩
  show Q_rm_cod Z a0 cd0 w_COMPACT_STRINGS h0 n0 _ T2.heap _
  rw [e2]
  exact ⟨congrArg (fun q => some (Value.int q)) (own_narcd hcd), N0, rfl⟩
theorem pd_4 : parseMethodDescriptor "()B" = some ⟨[], some .byte⟩ := by decide +kernel
theorem d10_0 : decode jdk_42_method_54_code 0 = .ok (.aload_n 0, 1) := by decide +kernel
theorem d10_1 : decode jdk_42_method_54_code 1 = .ok (.getfield 9, 3) := by decide +kernel
theorem d10_4 : decode jdk_42_method_54_code 4 = .ok (.arraylength, 1) := by decide +kernel
theorem d10_5 : decode jdk_42_method_54_code 5 = .ok (.aload_n 0, 1) := by decide +kernel
theorem d10_6 : decode jdk_42_method_54_code 6 = .ok (.invokevirtual 335, 3) := by decide +kernel
theorem d10_9 : decode jdk_42_method_54_code 9 = .ok (.ishr, 1) := by decide +kernel
theorem d10_10 : decode jdk_42_method_54_code 10 = .ok (.ireturn, 1) := by decide +kernel
theorem ef_rm_len (m : MethodId) (a0 : Addr) : entryFrame m #[(.ref a0)] 1 = mkF m 0 #[.val (.ref a0)] [] := by first | (simp [entryFrame, mkF, argsToLocals, Value.category]; done) | rfl
def Q_rm_len (Z : State) (a0 : Addr) (cd0 : Int32) (b0 : Addr) (k_b0 : ClassId) (z0 : Int32) (s0 : Nat → Int32) (w_COMPACT_STRINGS : Int32) (h0 : Heap) (n0 : Nat) (v : Option Value) (h : Heap) (L : List Loc) : Prop := v = some (.int (z0 >>> (cd0 &&& 31))) ∧ Fr n0 L ∧ h = h0
set_option maxRecDepth 65536 in
set_option maxHeartbeats 40000000 in
theorem rm_len (l : Launch) (Z : State) (av0 : Array Value) (hw : ∀ d ∈ tables_1, d.before av0 Z = true) (ws : List Jvm.Cond) (a0 : Addr) (cd0 : Int32) (b0 : Addr) (k_b0 : ClassId) (z0 : Int32) (s0 : Nat → Int32) (w_COMPACT_STRINGS : Int32) (h0 : Heap) (n0 : Nat) (Z0 : n0 ≤ h0.size) (Ol0 : Old Z n0 h0) (X_a0 : Exa Z h0 a0 "java/lang/String") (F_coder_a0 : Fld Z h0 a0 "java/lang/String" "coder" "B" (.int cd0)) (F_value_a0 : Fld Z h0 a0 "java/lang/String" "value" "[B" (.ref b0)) (V_b0 : Arv Z h0 b0 k_b0 .byte z0 (own_ml z0 s0) (.int 0)) (hcd : cd0 = (0 : Int32) ∨ cd0 = (1 : Int32)) (S_COMPACT_STRINGS : Sta Z Z.heap "java/lang/String" "COMPACT_STRINGS" "Z" (.int w_COMPACT_STRINGS)) (hc0 : ¬ (w_COMPACT_STRINGS = (0 : Int32))) :
    MetFree l yM8 (head1 (Jvm.Cond.code yM8 jdk_42_method_54_code 1 (some .int) :: ws) ({ frames := 1, cells := 0, slots := 0, locals := 13 } : Room)) (fun a U => a = #[(.ref a0)] ∧ Z.Warmed39 U.vm ∧ U.heap = h0) (fun _ _ _ _ _ => True) (fun _ U o U' => ∃ v L, o = .returned v ∧ Q_rm_len Z a0 cd0 b0 k_b0 z0 s0 w_COMPACT_STRINGS h0 n0 v U'.heap L ∧ FrameEnd U o U' L ({ frames := 1, cells := 0, slots := 0, locals := 13 } : Room).cells ({ frames := 1, cells := 0, slots := 0, locals := 13 } : Room).slots) := by
  refine MetFree.of_bodySF (plainFor_of_name pn_2) hisR ?_
  intro p e s m args below meth c s₁ Bd hml0 hP hK
  obtain ⟨rfl, hZ, hh⟩ := hP
  have hx := Bd.exec
  have hby := Bd.bytes
  have hml : c.maxLocals = 1 := hml0
  have hown : s.vm.findClass "java/lang/String" = some m.cls := findClass_of_methodNamed Bd.named
  have hnm := (name_of_methodNamed Bd.named Bd.method).1
  have X0 : Stand p l e ({ frames := 1, cells := 0, slots := 0, locals := 13 } : Room) s m #[(.ref a0)] below meth c s₁ [] 0 0 := Stand.of_body Bd
  have e0 : s₁.heap = h0 := by rw [← hh, Bd.state]; rfl
  have N0 := Fr.nil n0
  have pre0 : ∀ t, Steps p.tables e below (s₁.setTop (mkF m 0 #[.val (.ref a0)] [])) t → Steps p.tables e below (s₁.setTop (entryFrame m #[(.ref a0)] 1)) t := fun t k => castTop (ef_rm_len m a0) k
  change OwnFin p.tables e below _ (s₁.setTop (entryFrame m #[(.ref a0)] 1))
  have kp0 : Keep h0 h0 [] := Keep.refl _ _
  refine OwnFin.st (fun _ q => pre0 _ q) ?_
  show OwnFin _ _ _ _ (s₁.setTop (mkF m 0 #[.val (.ref a0)] []))
  refine OwnFin.st (fun _ q => XS.aloadN X0.here hx rfl (hb hby d10_0) rfl rfl q) ?_
  show OwnFin _ _ _ _ (s₁.setTop (mkF m 1 _ [(.ref a0)]))
  obtain ⟨T1, X1, e1, st1⟩ := getF X0 hx hZ hown (host := "") (Or.inl (w_ hw 39 rfl)) Via.refl e0 F_value_a0 (g := (mkF m 1 #[.val (.ref a0)] [(.ref a0)])) rfl rfl (hb hby d10_1)
  refine OwnFin.st st1 ?_
  show OwnFin _ _ _ _ (T1.setTop (mkF m 4 _ [(.ref b0)]))
  have Vo2 : Arv Z h0 b0 k_b0 .byte z0 (own_ml z0 s0) (.int 0) := V_b0
  obtain ⟨cl2, Ar2, qa2, Sa2, Na2, Ha2, Ga2⟩ := id Vo2
  refine OwnFin.st (X1.arraylength hx (by rw [e1]; exact Ar2.1) (State.isArrayOf_alike (hZ).alike Ar2.2.1) (g := (mkF m 4 #[.val (.ref a0)] [(.ref b0)])) rfl rfl (hb hby d10_4)) ?_
  rw [len_of Sa2 Na2]
  show OwnFin _ _ _ _ (T1.setTop (mkF m 5 _ [(.int z0)]))
  refine OwnFin.st (fun _ q => XS.aloadN X1.here hx rfl (hb hby d10_5) rfl rfl q) ?_
  show OwnFin _ _ _ _ (T1.setTop (mkF m 6 _ [(.ref a0), (.int z0)]))
  show OwnFin _ _ _ _ (T1.setTop (mkF m 6 _ [(.ref a0), (.int z0)]))
  obtain ⟨cq3, kq3, q3a, q3b, q3c⟩ := isOf hZ e1 X_a0
  obtain ⟨_, _, ⟨T3, L3, k3, n3⟩, -, X3, ⟨Lc3, hQ3, l3, y3, z3⟩, st3⟩ := X1.virtualBack hx (y := yM7) (z := yM7) hown (mvT hZ (w_ hw 50 rfl)) (mvT hZ (w_ hw 51 rfl)) (notFace_of_selects (args := #[]) (mvT hZ (w_ hw 53 rfl))) (mvT hZ (w_ hw 53 rfl)) (mvT hZ (w_ hw 52 rfl)) (by decide) (backOf (W := 1) (rm_cod l Z av0 hw [] a0 cd0 w_COMPACT_STRINGS h0 n0 (Nat.le_trans Z0 kp0.1) Ol0 F_coder_a0 hcd S_COMPACT_STRINGS hc0) hZ (w_ hw 54 rfl) (w_ hw 22 rfl) (by decide) (by decide)) q3a q3c (g := (mkF m 6 #[.val (.ref a0)] [(.ref a0), (.int z0)])) rfl (by rw [hml]; rfl) (Steps.refl _) (argsL := []) (rest := [(.int z0)]) (lenOf pd_4 rfl) rfl (by show 2 * 0 + _ ≤ _; exact Nat.le_of_eq rfl) (hb hby d10_6) (fun _ _ => ⟨rfl, e1, (by decide : 0 + 0 ≤ _), (by decide : 0 + 0 ≤ _)⟩)
  dsimp only [Pt.U, Pt.locs, Pt.cells, Pt.slots] at X3 l3 y3 z3 st3 hQ3
  subst l3 y3 z3
  obtain ⟨rfl, N3q, he3⟩ := hQ3
  have N3 := Fr.app N0 N3q
  refine OwnFin.tr st3 ?_
  show OwnFin _ _ _ _ (T3.setTop (mkF m 9 _ [(.int cd0), (.int z0)]))
  refine OwnFin.st (fun _ q => XS.ishr X3.here hx rfl (hb hby d10_9) rfl q) ?_
  show OwnFin _ _ _ _ (T3.setTop (mkF m 10 _ [(.int (z0 >>> (cd0 &&& 31)))]))
  obtain ⟨fs, hr, hrun, hended, hW, hsame⟩ := X3.leave (v := some (.int (z0 >>> (cd0 &&& 31)))) (fun h => by rw [Bd.returns] at h; cases h)
  refine ⟨_, _, retI X3 hx Bd.returns (hb hby d10_10) hr, hrun, hended, _, _, rfl, ?_, ⟨_, rfl⟩, hW, hsame.mono (by decide) (by decide)⟩
  show Q_rm_len Z a0 cd0 b0 k_b0 z0 s0 w_COMPACT_STRINGS h0 n0 _ T3.heap _
  rw [he3]
  exact ⟨rfl, N3, rfl⟩
theorem d21_0 : decode jdk_41_method_11_code 0 = .ok (.iload_n 0, 1) := by decide +kernel
theorem d21_1 : decode jdk_41_method_11_code 1 = .ok (.ifCond .lt 8, 3) := by decide +kernel
theorem d21_4 : decode jdk_41_method_11_code 4 = .ok (.iload_n 0, 1) := by decide +kernel
theorem d21_5 : decode jdk_41_method_11_code 5 = .ok (.iload_n 1, 1) := by decide +kernel
theorem d21_6 : decode jdk_41_method_11_code 6 = .ok (.if_icmp .lt 10, 3) := by decide +kernel
theorem d21_16 : decode jdk_41_method_11_code 16 = .ok (.iload_n 0, 1) := by decide +kernel
theorem d21_17 : decode jdk_41_method_11_code 17 = .ok (.ireturn, 1) := by decide +kernel
theorem pn_3 : plainName "jdk/internal/util/Preconditions" = true := by first | (simp [plainName, overriddenIn]; done) | decide +kernel
theorem ef_rm_pci (m : MethodId) (p0 : Int32) (p1 : Int32) (u2 : Value) (h_u2 : u2.isRef = true) : entryFrame m #[(.int p0), (.int p1), u2] 3 = mkF m 0 #[.val (.int p0), .val (.int p1), .val u2] [] := by rcases ref_cases h_u2 with rfl | ⟨_, rfl⟩ <;> first | (simp [entryFrame, mkF, argsToLocals, Value.category]; done) | rfl
def Q_rm_pci (Z : State) (p0 : Int32) (p1 : Int32) (u2 : Value) (h0 : Heap) (n0 : Nat) (v : Option Value) (h : Heap) (L : List Loc) : Prop := v = some (.int p0) ∧ Fr n0 L ∧ h = h0
set_option maxRecDepth 65536 in
set_option maxHeartbeats 40000000 in
theorem rm_pci (l : Launch) (Z : State) (av0 : Array Value) (hw : ∀ d ∈ tables_1, d.before av0 Z = true) (ws : List Jvm.Cond) (p0 : Int32) (p1 : Int32) (u2 : Value) (h0 : Heap) (n0 : Nat) (Z0 : n0 ≤ h0.size) (hc0 : ¬ (p0 < (0 : Int32))) (hc1 : p0 < p1) (hr_u2 : u2.isRef = true) :
    MetFree l yM9 (head1 (Jvm.Cond.code yM9 jdk_41_method_11_code 3 (some .int) :: ws) ({ frames := 0, cells := 0, slots := 0, locals := 0 } : Room)) (fun a U => a = #[(.int p0), (.int p1), u2] ∧ Z.Warmed39 U.vm ∧ U.heap = h0) (fun _ _ _ _ _ => True) (fun _ U o U' => ∃ v L, o = .returned v ∧ Q_rm_pci Z p0 p1 u2 h0 n0 v U'.heap L ∧ FrameEnd U o U' L ({ frames := 0, cells := 0, slots := 0, locals := 0 } : Room).cells ({ frames := 0, cells := 0, slots := 0, locals := 0 } : Room).slots) := by
  refine MetFree.of_bodySF (plainFor_of_name pn_3) hisR ?_
  intro p e s m args below meth c s₁ Bd hml0 hP hK
  obtain ⟨rfl, hZ, hh⟩ := hP
  have hx := Bd.exec
  have hby := Bd.bytes
  have hml : c.maxLocals = 3 := hml0
  have hown : s.vm.findClass "jdk/internal/util/Preconditions" = some m.cls := findClass_of_methodNamed Bd.named
  have hnm := (name_of_methodNamed Bd.named Bd.method).1
  have X0 : Stand p l e ({ frames := 0, cells := 0, slots := 0, locals := 0 } : Room) s m #[(.int p0), (.int p1), u2] below meth c s₁ [] 0 0 := Stand.of_body Bd
  have e0 : s₁.heap = h0 := by rw [← hh, Bd.state]; rfl
  have N0 := Fr.nil n0
  have pre0 : ∀ t, Steps p.tables e below (s₁.setTop (mkF m 0 #[.val (.int p0), .val (.int p1), .val u2] [])) t → Steps p.tables e below (s₁.setTop (entryFrame m #[(.int p0), (.int p1), u2] 3)) t := fun t k => castTop (ef_rm_pci m p0 p1 u2 hr_u2) k
  change OwnFin p.tables e below _ (s₁.setTop (entryFrame m #[(.int p0), (.int p1), u2] 3))
  have kp0 : Keep h0 h0 [] := Keep.refl _ _
  refine OwnFin.st (fun _ q => pre0 _ q) ?_
  show OwnFin _ _ _ _ (s₁.setTop (mkF m 0 #[.val (.int p0), .val (.int p1), .val u2] []))
  refine OwnFin.st (fun _ q => XS.iloadN X0.here hx rfl (hb hby d21_0) rfl q) ?_
  show OwnFin _ _ _ _ (s₁.setTop (mkF m 1 _ [(.int p0)]))
  refine OwnFin.st (fun _ q => XS.ifNo X0.here hx rfl (hb hby d21_1) rfl (Jvm.Free.XT.i0_lt_f hc0) q) ?_
  show OwnFin _ _ _ _ (s₁.setTop (mkF m 4 _ []))
  refine OwnFin.st (fun _ q => XS.iloadN X0.here hx rfl (hb hby d21_4) rfl q) ?_
  show OwnFin _ _ _ _ (s₁.setTop (mkF m 5 _ [(.int p0)]))
  refine OwnFin.st (fun _ q => XS.iloadN X0.here hx rfl (hb hby d21_5) rfl q) ?_
  show OwnFin _ _ _ _ (s₁.setTop (mkF m 6 _ [(.int p1), (.int p0)]))
  refine OwnFin.st (fun _ q => XS.icmpYes X0.here hx rfl (pc0 := 6) (pc' := 16) rfl (hb hby d21_6) rfl (Jvm.Free.XT.ii_lt_t hc1) (by decide) (by decide) q) ?_
  show OwnFin _ _ _ _ (s₁.setTop (mkF m 16 _ []))
  refine OwnFin.st (fun _ q => XS.iloadN X0.here hx rfl (hb hby d21_16) rfl q) ?_
  show OwnFin _ _ _ _ (s₁.setTop (mkF m 17 _ [(.int p0)]))
  obtain ⟨fs, hr, hrun, hended, hW, hsame⟩ := X0.leave (v := some (.int p0)) (fun h => by rw [Bd.returns] at h; cases h)
  refine ⟨_, _, retI X0 hx Bd.returns (hb hby d21_17) hr, hrun, hended, _, _, rfl, ?_, ⟨_, rfl⟩, hW, hsame.mono (by decide) (by decide)⟩
  show Q_rm_pci Z p0 p1 u2 h0 n0 _ s₁.heap _
  rw [e0]
  exact ⟨rfl, N0, rfl⟩
theorem pd_5 : parseMethodDescriptor "(IILjava/util/function/BiFunction;)I" = some ⟨[.int, .int, (.object "java/util/function/BiFunction")], some .int⟩ := by decide +kernel
theorem d20_0 : decode jdk_42_method_155_code 0 = .ok (.iload_n 0, 1) := by decide +kernel
theorem d20_1 : decode jdk_42_method_155_code 1 = .ok (.iload_n 1, 1) := by decide +kernel
theorem d20_2 : decode jdk_42_method_155_code 2 = .ok (.getstatic 1053, 3) := by decide +kernel
theorem d20_5 : decode jdk_42_method_155_code 5 = .ok (.invokestatic 1059, 3) := by decide +kernel
theorem d20_8 : decode jdk_42_method_155_code 8 = .ok (.pop, 1) := by decide +kernel
theorem d20_9 : decode jdk_42_method_155_code 9 = .ok (.return_, 1) := by decide +kernel
theorem ef_rm_sci (m : MethodId) (p0 : Int32) (p1 : Int32) : entryFrame m #[(.int p0), (.int p1)] 2 = mkF m 0 #[.val (.int p0), .val (.int p1)] [] := by first | (simp [entryFrame, mkF, argsToLocals, Value.category]; done) | rfl
def Q_rm_sci (Z : State) (p0 : Int32) (p1 : Int32) (w_SIOOBE_FORMATTER : Value) (h0 : Heap) (n0 : Nat) (v : Option Value) (h : Heap) (L : List Loc) : Prop := v = none ∧ Fr n0 L ∧ h = h0
set_option maxRecDepth 65536 in
set_option maxHeartbeats 40000000 in
theorem rm_sci (l : Launch) (Z : State) (av0 : Array Value) (hw : ∀ d ∈ tables_1, d.before av0 Z = true) (ws : List Jvm.Cond) (p0 : Int32) (p1 : Int32) (w_SIOOBE_FORMATTER : Value) (h0 : Heap) (n0 : Nat) (Z0 : n0 ≤ h0.size) (Ol0 : Old Z n0 h0) (S_SIOOBE_FORMATTER : Sta Z Z.heap "jdk/internal/util/Preconditions" "SIOOBE_FORMATTER" "Ljava/util/function/BiFunction;" w_SIOOBE_FORMATTER) (hc0 : ¬ (p0 < (0 : Int32))) (hc1 : p0 < p1) (hr_w_SIOOBE_FORMATTER : w_SIOOBE_FORMATTER.isRef = true) :
    MetFree l yM10 (head1 (Jvm.Cond.code yM10 jdk_42_method_155_code 2 none :: ws) ({ frames := 1, cells := 0, slots := 0, locals := 14 } : Room)) (fun a U => a = #[(.int p0), (.int p1)] ∧ Z.Warmed39 U.vm ∧ U.heap = h0) (fun _ _ _ _ _ => True) (fun _ U o U' => ∃ v L, o = .returned v ∧ Q_rm_sci Z p0 p1 w_SIOOBE_FORMATTER h0 n0 v U'.heap L ∧ FrameEnd U o U' L ({ frames := 1, cells := 0, slots := 0, locals := 14 } : Room).cells ({ frames := 1, cells := 0, slots := 0, locals := 14 } : Room).slots) := by
  refine MetFree.of_bodySF (plainFor_of_name pn_2) hisR ?_
  intro p e s m args below meth c s₁ Bd hml0 hP hK
  obtain ⟨rfl, hZ, hh⟩ := hP
  have hx := Bd.exec
  have hby := Bd.bytes
  have hml : c.maxLocals = 2 := hml0
  have hown : s.vm.findClass "java/lang/String" = some m.cls := findClass_of_methodNamed Bd.named
  have hnm := (name_of_methodNamed Bd.named Bd.method).1
  have X0 : Stand p l e ({ frames := 1, cells := 0, slots := 0, locals := 14 } : Room) s m #[(.int p0), (.int p1)] below meth c s₁ [] 0 0 := Stand.of_body Bd
  have e0 : s₁.heap = h0 := by rw [← hh, Bd.state]; rfl
  have N0 := Fr.nil n0
  have pre0 : ∀ t, Steps p.tables e below (s₁.setTop (mkF m 0 #[.val (.int p0), .val (.int p1)] [])) t → Steps p.tables e below (s₁.setTop (entryFrame m #[(.int p0), (.int p1)] 2)) t := fun t k => castTop (ef_rm_sci m p0 p1) k
  change OwnFin p.tables e below _ (s₁.setTop (entryFrame m #[(.int p0), (.int p1)] 2))
  have kp0 : Keep h0 h0 [] := Keep.refl _ _
  refine OwnFin.st (fun _ q => pre0 _ q) ?_
  show OwnFin _ _ _ _ (s₁.setTop (mkF m 0 #[.val (.int p0), .val (.int p1)] []))
  refine OwnFin.st (fun _ q => XS.iloadN X0.here hx rfl (hb hby d20_0) rfl q) ?_
  show OwnFin _ _ _ _ (s₁.setTop (mkF m 1 _ [(.int p0)]))
  refine OwnFin.st (fun _ q => XS.iloadN X0.here hx rfl (hb hby d20_1) rfl q) ?_
  show OwnFin _ _ _ _ (s₁.setTop (mkF m 2 _ [(.int p1), (.int p0)]))
  obtain ⟨T1, X1, e1, st1⟩ := getS2 X0 hx hZ hown (host := "") (Or.inl (w_ hw 91 rfl)) Via.refl e0 (S_SIOOBE_FORMATTER.ext Ol0.2) (g := (mkF m 2 #[.val (.int p0), .val (.int p1)] [(.int p1), (.int p0)])) rfl (hb hby d20_2)
  refine OwnFin.st st1 ?_
  show OwnFin _ _ _ _ (T1.setTop (mkF m 5 _ [w_SIOOBE_FORMATTER, (.int p1), (.int p0)]))
  show OwnFin _ _ _ _ (T1.setTop (mkF m 5 _ [w_SIOOBE_FORMATTER, (.int p1), (.int p0)]))
  show OwnFin _ _ _ _ (T1.setTop (mkF m 5 _ [w_SIOOBE_FORMATTER, (.int p1), (.int p0)]))
  obtain ⟨_, _, ⟨T2, L2, k2, n2⟩, -, X2, ⟨Lc2, hQ2, l2, y2, z2⟩, st2⟩ := Jvm.LawKit.callS X1 hx (y := yM9) hown (mvT hZ (w_ hw 93 rfl)) (mvT hZ (w_ hw 94 rfl)) (mvT hZ (w_ hw 92 rfl)) (mvT hZ (w_ hw 95 rfl)) (by decide) (backOf (W := 0) (rm_pci l Z av0 hw [] p0 p1 w_SIOOBE_FORMATTER h0 n0 (Nat.le_trans Z0 kp0.1) hc0 hc1 hr_w_SIOOBE_FORMATTER) hZ (w_ hw 95 rfl) (w_ hw 92 rfl) (by decide) (by decide)) (g := (mkF m 5 #[.val (.int p0), .val (.int p1)] [w_SIOOBE_FORMATTER, (.int p1), (.int p0)])) rfl (by rw [hml]; rfl) (argsL := [(.int p0), (.int p1), w_SIOOBE_FORMATTER]) (rest := []) (lenOf pd_5 rfl) rfl (by show 2 * 0 + _ ≤ _; exact Nat.le_of_eq rfl) (hb hby d20_5) (fun _ _ => ⟨rfl, e1, (by decide : 0 + 0 ≤ _), (by decide : 0 + 0 ≤ _)⟩)
  dsimp only [Pt.U, Pt.locs, Pt.cells, Pt.slots] at X2 l2 y2 z2 st2 hQ2
  subst l2 y2 z2
  obtain ⟨rfl, N2q, he2⟩ := hQ2
  have N2 := Fr.app N0 N2q
  refine OwnFin.st st2 ?_
  show OwnFin _ _ _ _ (T2.setTop (mkF m 8 _ [(.int p0)]))
  refine OwnFin.st (fun _ q => XS.pop X2.here hx rfl (hb hby d20_8) rfl rfl q) ?_
  show OwnFin _ _ _ _ (T2.setTop (mkF m 9 _ []))
  obtain ⟨fs, hr, hrun, hended, hW, hsame⟩ := X2.leave (v := none) (fun _ => rfl)
  refine ⟨_, _, X2.returnOut hx Bd.returns (hb hby d20_9) hr, hrun, hended, _, _, rfl, ?_, ⟨_, rfl⟩, hW, hsame.mono (by decide) (by decide)⟩
  show Q_rm_sci Z p0 p1 w_SIOOBE_FORMATTER h0 n0 _ T2.heap _
  rw [he2]
  exact ⟨rfl, N2, rfl⟩
theorem own_cb0 {i z cd : Int32} (h : i < (z >>> (cd &&& 31))) (q : cd = (0 : Int32)) : i < z := by
  subst q; have a := c_ishr z (0 : Int32) 0 (by decide +kernel); rw [Int32.lt_iff_toInt_lt] at h ⊢; omega
theorem own_cb1 {i z cd : Int32} (d : cd = (0 : Int32) ∨ cd = (1 : Int32)) (h : i < (z >>> (cd &&& 31))) (q : ¬ (cd = (0 : Int32))) : i < (z >>> ((1 : Int32) &&& 31)) := by
  rcases d with e | e
  · exact (q e).elim
  · subst e; exact h
theorem own_cb2 {i z : Int32} (n : ¬ i < (0 : Int32)) (h : i < (z >>> ((1 : Int32) &&& 31))) : 0 ≤ i.toInt ∧ i.toInt < (z >>> ((1 : Int32) &&& 31)).toInt ∧ 2 * (z >>> ((1 : Int32) &&& 31)).toInt ≤ z.toInt := by
  have a := c_ishr z (1 : Int32) 1 (by decide +kernel); have r : (0 : Int32).toInt = 0 := rfl
  rw [Int32.lt_iff_toInt_lt] at h n; omega
theorem pd_6 : parseMethodDescriptor "()Z" = some ⟨[], some .boolean⟩ := by decide +kernel
theorem pd_7 : parseMethodDescriptor "(II)V" = some ⟨[.int, .int], none⟩ := by decide +kernel
theorem pd_8 : parseMethodDescriptor "([BII)I" = some ⟨[(.array .byte), .int, .int], some .int⟩ := by decide +kernel
def own_cpa (cd0 : Int32) (z0 : Int32) (s0 : Nat → Int32) (p1 : Int32) : Int32 := if cd0 = 0 then own_at s0 p1 &&& (255 : Int32) else own_cp16 s0 p1 (z0 >>> ((1 : Int32) &&& 31))
theorem d18_0 : decode jdk_42_method_57_code 0 = .ok (.aload_n 0, 1) := by decide +kernel
theorem d18_1 : decode jdk_42_method_57_code 1 = .ok (.invokevirtual 492, 3) := by decide +kernel
theorem d18_4 : decode jdk_42_method_57_code 4 = .ok (.ifCond .eq 23, 3) := by decide +kernel
theorem d18_7 : decode jdk_42_method_57_code 7 = .ok (.iload_n 1, 1) := by decide +kernel
theorem d18_8 : decode jdk_42_method_57_code 8 = .ok (.aload_n 0, 1) := by decide +kernel
theorem d18_9 : decode jdk_42_method_57_code 9 = .ok (.getfield 9, 3) := by decide +kernel
theorem d18_12 : decode jdk_42_method_57_code 12 = .ok (.arraylength, 1) := by decide +kernel
theorem d18_13 : decode jdk_42_method_57_code 13 = .ok (.invokestatic 499, 3) := by decide +kernel
theorem d18_16 : decode jdk_42_method_57_code 16 = .ok (.aload_n 0, 1) := by decide +kernel
theorem d18_17 : decode jdk_42_method_57_code 17 = .ok (.getfield 9, 3) := by decide +kernel
theorem d18_20 : decode jdk_42_method_57_code 20 = .ok (.iload_n 1, 1) := by decide +kernel
theorem d18_21 : decode jdk_42_method_57_code 21 = .ok (.baload, 1) := by decide +kernel
theorem d18_22 : decode jdk_42_method_57_code 22 = .ok (.sipush 255, 3) := by decide +kernel
theorem d18_25 : decode jdk_42_method_57_code 25 = .ok (.iand, 1) := by decide +kernel
theorem d18_26 : decode jdk_42_method_57_code 26 = .ok (.ireturn, 1) := by decide +kernel
theorem d18_27 : decode jdk_42_method_57_code 27 = .ok (.aload_n 0, 1) := by decide +kernel
theorem d18_28 : decode jdk_42_method_57_code 28 = .ok (.getfield 9, 3) := by decide +kernel
theorem d18_31 : decode jdk_42_method_57_code 31 = .ok (.arraylength, 1) := by decide +kernel
theorem d18_32 : decode jdk_42_method_57_code 32 = .ok (.iconst 1, 1) := by decide +kernel
theorem d18_33 : decode jdk_42_method_57_code 33 = .ok (.ishr, 1) := by decide +kernel
theorem d18_34 : decode jdk_42_method_57_code 34 = .ok (.istore_n 2, 1) := by decide +kernel
theorem d18_35 : decode jdk_42_method_57_code 35 = .ok (.iload_n 1, 1) := by decide +kernel
theorem d18_36 : decode jdk_42_method_57_code 36 = .ok (.iload_n 2, 1) := by decide +kernel
theorem d18_37 : decode jdk_42_method_57_code 37 = .ok (.invokestatic 499, 3) := by decide +kernel
theorem d18_40 : decode jdk_42_method_57_code 40 = .ok (.aload_n 0, 1) := by decide +kernel
theorem d18_41 : decode jdk_42_method_57_code 41 = .ok (.getfield 9, 3) := by decide +kernel
theorem d18_44 : decode jdk_42_method_57_code 44 = .ok (.iload_n 1, 1) := by decide +kernel
theorem d18_45 : decode jdk_42_method_57_code 45 = .ok (.iload_n 2, 1) := by decide +kernel
theorem d18_46 : decode jdk_42_method_57_code 46 = .ok (.invokestatic 502, 3) := by decide +kernel
theorem d18_49 : decode jdk_42_method_57_code 49 = .ok (.ireturn, 1) := by decide +kernel
theorem ef_rm_cpa (m : MethodId) (a0 : Addr) (p1 : Int32) : entryFrame m #[(.ref a0), (.int p1)] 3 = mkF m 0 #[.val (.ref a0), .val (.int p1), .unset] [] := by first | (simp [entryFrame, mkF, argsToLocals, Value.category]; done) | rfl
def Q_rm_cpa (Z : State) (a0 : Addr) (p1 : Int32) (cd0 : Int32) (b0 : Addr) (k_b0 : ClassId) (z0 : Int32) (s0 : Nat → Int32) (w_COMPACT_STRINGS : Int32) (w_SIOOBE_FORMATTER : Value) (h0 : Heap) (n0 : Nat) (v : Option Value) (h : Heap) (L : List Loc) : Prop := v = some (.int (own_cpa cd0 z0 s0 p1)) ∧ Fr n0 L ∧ h = h0
set_option maxRecDepth 65536 in
set_option maxHeartbeats 40000000 in
theorem rm_cpa (l : Launch) (Z : State) (av0 : Array Value) (hw : ∀ d ∈ tables_1, d.before av0 Z = true) (ws : List Jvm.Cond) (a0 : Addr) (p1 : Int32) (cd0 : Int32) (b0 : Addr) (k_b0 : ClassId) (z0 : Int32) (s0 : Nat → Int32) (w_COMPACT_STRINGS : Int32) (w_SIOOBE_FORMATTER : Value) (h0 : Heap) (n0 : Nat) (Z0 : n0 ≤ h0.size) (Ol0 : Old Z n0 h0) (X_a0 : Exa Z h0 a0 "java/lang/String") (F_coder_a0 : Fld Z h0 a0 "java/lang/String" "coder" "B" (.int cd0)) (F_value_a0 : Fld Z h0 a0 "java/lang/String" "value" "[B" (.ref b0)) (V_b0 : Arv Z h0 b0 k_b0 .byte z0 (own_ml z0 s0) (.int 0)) (hcb0 : ¬ (p1 < (0 : Int32))) (hcb1 : p1 < (z0 >>> (cd0 &&& 31))) (hcd : cd0 = (0 : Int32) ∨ cd0 = (1 : Int32)) (hcs : ¬ (w_COMPACT_STRINGS = (0 : Int32))) (S_COMPACT_STRINGS : Sta Z Z.heap "java/lang/String" "COMPACT_STRINGS" "Z" (.int w_COMPACT_STRINGS)) (S_SIOOBE_FORMATTER : Sta Z Z.heap "jdk/internal/util/Preconditions" "SIOOBE_FORMATTER" "Ljava/util/function/BiFunction;" w_SIOOBE_FORMATTER) (hr_w_SIOOBE_FORMATTER : w_SIOOBE_FORMATTER.isRef = true) (S__assertionsDisabled : Sta Z Z.heap "java/lang/StringUTF16" "$assertionsDisabled" "Z" (.int 1)) (S_HI_BYTE_SHIFT : Sta Z Z.heap "java/lang/StringUTF16" "HI_BYTE_SHIFT" "I" (.int 0)) (S_LO_BYTE_SHIFT : Sta Z Z.heap "java/lang/StringUTF16" "LO_BYTE_SHIFT" "I" (.int 8)) :
    MetFree l yM11 (head1 (Jvm.Cond.code yM11 jdk_42_method_57_code 3 (some .int) :: ws) ({ frames := 3, cells := 0, slots := 0, locals := 44 } : Room)) (fun a U => a = #[(.ref a0), (.int p1)] ∧ Z.Warmed39 U.vm ∧ U.heap = h0) (fun _ _ _ _ _ => True) (fun _ U o U' => ∃ v L, o = .returned v ∧ Q_rm_cpa Z a0 p1 cd0 b0 k_b0 z0 s0 w_COMPACT_STRINGS w_SIOOBE_FORMATTER h0 n0 v U'.heap L ∧ FrameEnd U o U' L ({ frames := 3, cells := 0, slots := 0, locals := 44 } : Room).cells ({ frames := 3, cells := 0, slots := 0, locals := 44 } : Room).slots) := by
  refine MetFree.of_bodySF (plainFor_of_name pn_2) hisR ?_
  intro p e s m args below meth c s₁ Bd hml0 hP hK
  obtain ⟨rfl, hZ, hh⟩ := hP
  have hx := Bd.exec
  have hby := Bd.bytes
  have hml : c.maxLocals = 3 := hml0
  have hown : s.vm.findClass "java/lang/String" = some m.cls := findClass_of_methodNamed Bd.named
  have hnm := (name_of_methodNamed Bd.named Bd.method).1
  have X0 : Stand p l e ({ frames := 3, cells := 0, slots := 0, locals := 44 } : Room) s m #[(.ref a0), (.int p1)] below meth c s₁ [] 0 0 := Stand.of_body Bd
  have e0 : s₁.heap = h0 := by rw [← hh, Bd.state]; rfl
  have N0 := Fr.nil n0
  have pre0 : ∀ t, Steps p.tables e below (s₁.setTop (mkF m 0 #[.val (.ref a0), .val (.int p1), .unset] [])) t → Steps p.tables e below (s₁.setTop (entryFrame m #[(.ref a0), (.int p1)] 3)) t := fun t k => castTop (ef_rm_cpa m a0 p1) k
  change OwnFin p.tables e below _ (s₁.setTop (entryFrame m #[(.ref a0), (.int p1)] 3))
  have kp0 : Keep h0 h0 [] := Keep.refl _ _
  refine OwnFin.st (fun _ q => pre0 _ q) ?_
  show OwnFin _ _ _ _ (s₁.setTop (mkF m 0 #[.val (.ref a0), .val (.int p1), .unset] []))
  refine OwnFin.st (fun _ q => XS.aloadN X0.here hx rfl (hb hby d18_0) rfl rfl q) ?_
  show OwnFin _ _ _ _ (s₁.setTop (mkF m 1 _ [(.ref a0)]))
  by_cases hc1 : cd0 = (0 : Int32)
  ·
   show OwnFin _ _ _ _ (s₁.setTop (mkF m 1 _ [(.ref a0)]))
   obtain ⟨cq2, kq2, q2a, q2b, q2c⟩ := isOf hZ e0 X_a0
   obtain ⟨_, _, ⟨T2, L2, k2, n2⟩, -, X2, ⟨Lc2, hQ2, l2, y2, z2⟩, st2⟩ := X0.virtualBack hx (y := yM6) (z := yM6) hown (mvT hZ (w_ hw 83 rfl)) (mvT hZ (w_ hw 84 rfl)) (notFace_of_selects (args := #[]) (mvT hZ (w_ hw 86 rfl))) (mvT hZ (w_ hw 86 rfl)) (mvT hZ (w_ hw 85 rfl)) (by decide) (backOf (W := 0) (rm_ilY l Z av0 hw [] a0 cd0 w_COMPACT_STRINGS h0 n0 (Nat.le_trans Z0 kp0.1) Ol0 F_coder_a0 S_COMPACT_STRINGS hcs hc1) hZ (w_ hw 87 rfl) (w_ hw 22 rfl) (by decide) (by decide)) q2a q2c (g := (mkF m 1 #[.val (.ref a0), .val (.int p1), .unset] [(.ref a0)])) rfl (by rw [hml]; rfl) (Steps.refl _) (argsL := []) (rest := []) (lenOf pd_6 rfl) rfl (by show 2 * 0 + _ ≤ _; exact Nat.le_of_eq rfl) (hb hby d18_1) (fun _ _ => ⟨rfl, e0, (by decide : 0 + 0 ≤ _), (by decide : 0 + 0 ≤ _)⟩)
   dsimp only [Pt.U, Pt.locs, Pt.cells, Pt.slots] at X2 l2 y2 z2 st2 hQ2
   subst l2 y2 z2
   obtain ⟨rfl, N2q, he2⟩ := hQ2
   have N2 := Fr.app N0 N2q
   refine OwnFin.tr st2 ?_
   show OwnFin _ _ _ _ (T2.setTop (mkF m 4 _ [(.int 1)]))
   refine OwnFin.st (fun _ q => XS.ifNo X2.here hx rfl (hb hby d18_4) rfl (Jvm.Free.XT.i0_eq_f (by decide : ¬ ((1 : Int32) = (0 : Int32)))) q) ?_
   show OwnFin _ _ _ _ (T2.setTop (mkF m 7 _ []))
   refine OwnFin.st (fun _ q => XS.iloadN X2.here hx rfl (hb hby d18_7) rfl q) ?_
   show OwnFin _ _ _ _ (T2.setTop (mkF m 8 _ [(.int p1)]))
   refine OwnFin.st (fun _ q => XS.aloadN X2.here hx rfl (hb hby d18_8) rfl rfl q) ?_
   show OwnFin _ _ _ _ (T2.setTop (mkF m 9 _ [(.ref a0), (.int p1)]))
   obtain ⟨T3, X3, e3, st3⟩ := getF X2 hx hZ hown (host := "") (Or.inl (w_ hw 39 rfl)) Via.refl he2 F_value_a0 (g := (mkF m 9 #[.val (.ref a0), .val (.int p1), .unset] [(.ref a0), (.int p1)])) rfl rfl (hb hby d18_9)
   refine OwnFin.st st3 ?_
   show OwnFin _ _ _ _ (T3.setTop (mkF m 12 _ [(.ref b0), (.int p1)]))
   have Vo4 : Arv Z h0 b0 k_b0 .byte z0 (own_ml z0 s0) (.int 0) := V_b0
   obtain ⟨cl4, Ar4, qa4, Sa4, Na4, Ha4, Ga4⟩ := id Vo4
   refine OwnFin.st (X3.arraylength hx (by rw [e3]; exact Ar4.1) (State.isArrayOf_alike (hZ).alike Ar4.2.1) (g := (mkF m 12 #[.val (.ref a0), .val (.int p1), .unset] [(.ref b0), (.int p1)])) rfl rfl (hb hby d18_12)) ?_
   rw [len_of Sa4 Na4]
   show OwnFin _ _ _ _ (T3.setTop (mkF m 13 _ [(.int z0), (.int p1)]))
   obtain ⟨_, _, ⟨T5, L5, k5, n5⟩, -, X5, ⟨Lc5, hQ5, l5, y5, z5⟩, st5⟩ := Jvm.LawKit.callS X3 hx (y := yM10) hown (mvT hZ (w_ hw 88 rfl)) (mvT hZ (w_ hw 89 rfl)) (mvT hZ (w_ hw 22 rfl)) (mvT hZ (w_ hw 90 rfl)) (by decide) (backOf (W := 0) (rm_sci l Z av0 hw [] p1 z0 w_SIOOBE_FORMATTER h0 n0 (Nat.le_trans Z0 kp0.1) Ol0 S_SIOOBE_FORMATTER hcb0 (own_cb0 hcb1 hc1) hr_w_SIOOBE_FORMATTER) hZ (w_ hw 90 rfl) (w_ hw 22 rfl) (by decide) (by decide)) (g := (mkF m 13 #[.val (.ref a0), .val (.int p1), .unset] [(.int z0), (.int p1)])) rfl (by rw [hml]; rfl) (argsL := [(.int p1), (.int z0)]) (rest := []) (lenOf pd_7 rfl) rfl (by show 2 * 0 + _ ≤ _; exact Nat.le_of_eq rfl) (hb hby d18_13) (fun _ _ => ⟨rfl, e3, (by decide : 0 + 0 ≤ _), (by decide : 0 + 0 ≤ _)⟩)
   dsimp only [Pt.U, Pt.locs, Pt.cells, Pt.slots] at X5 l5 y5 z5 st5 hQ5
   subst l5 y5 z5
   obtain ⟨rfl, N5q, he5⟩ := hQ5
   have N5 := Fr.app N2 N5q
   refine OwnFin.st st5 ?_
   show OwnFin _ _ _ _ (T5.setTop (mkF m 16 _ []))
   refine OwnFin.st (fun _ q => XS.aloadN X5.here hx rfl (hb hby d18_16) rfl rfl q) ?_
   show OwnFin _ _ _ _ (T5.setTop (mkF m 17 _ [(.ref a0)]))
   obtain ⟨T6, X6, e6, st6⟩ := getF X5 hx hZ hown (host := "") (Or.inl (w_ hw 39 rfl)) Via.refl he5 F_value_a0 (g := (mkF m 17 #[.val (.ref a0), .val (.int p1), .unset] [(.ref a0)])) rfl rfl (hb hby d18_17)
   refine OwnFin.st st6 ?_
   show OwnFin _ _ _ _ (T6.setTop (mkF m 20 _ [(.ref b0)]))
   refine OwnFin.st (fun _ q => XS.iloadN X6.here hx rfl (hb hby d18_20) rfl q) ?_
   show OwnFin _ _ _ _ (T6.setTop (mkF m 21 _ [(.int p1), (.ref b0)]))
   have Vo7 : Arv Z h0 b0 k_b0 .byte z0 (own_ml z0 s0) (.int 0) := V_b0
   obtain ⟨cl7, Ar7, qa7, Sa7, Na7, Ha7, Ga7⟩ := id Vo7
   have hib7 : ¬ p1 < 0 ∧ p1 < z0 := ⟨hcb0, own_cb0 hcb1 hc1⟩
   have hin7 := inb_of Sa7 hib7
   refine OwnFin.st (X6.baloadBytes hx (j := p1) (v := (.int (own_at s0 p1))) (by rw [e6]; exact Ar7.1) (State.isArrayOf_alike (hZ).alike Ar7.2.1) Ar7.2.2 hin7 (Ha7.at hin7 (own_mlat _ hib7)) (g := (mkF m 21 #[.val (.ref a0), .val (.int p1), .unset] [(.int p1), (.ref b0)])) rfl rfl (hb hby d18_21)) ?_
   show OwnFin _ _ _ _ (T6.setTop (mkF m 22 #[.val (.ref a0), .val (.int p1), .unset] [(.int (own_at s0 p1))]))
   refine OwnFin.st (fun _ q => XS.sipush X6.here hx rfl (hb hby d18_22) q) ?_
   show OwnFin _ _ _ _ (T6.setTop (mkF m 25 _ [(.int 255), (.int (own_at s0 p1))]))
   refine OwnFin.st (fun _ q => XS.iand X6.here hx rfl (hb hby d18_25) rfl q) ?_
   show OwnFin _ _ _ _ (T6.setTop (mkF m 26 _ [(.int ((own_at s0 p1) &&& (255 : Int32)))]))
   obtain ⟨fs, hr, hrun, hended, hW, hsame⟩ := X6.leave (v := some (.int ((own_at s0 p1) &&& (255 : Int32)))) (fun h => by rw [Bd.returns] at h; cases h)
   refine ⟨_, _, retI X6 hx Bd.returns (hb hby d18_26) hr, hrun, hended, _, _, rfl, ?_, ⟨_, rfl⟩, hW, hsame.mono (by decide) (by decide)⟩
   show Q_rm_cpa Z a0 p1 cd0 b0 k_b0 z0 s0 w_COMPACT_STRINGS w_SIOOBE_FORMATTER h0 n0 _ T6.heap _
   rw [e6]
   refine ⟨?_, N5, rfl⟩
   simp [own_cpa, hc1]
  ·
   show OwnFin _ _ _ _ (s₁.setTop (mkF m 1 _ [(.ref a0)]))
   obtain ⟨cq8, kq8, q8a, q8b, q8c⟩ := isOf hZ e0 X_a0
   obtain ⟨_, _, ⟨T8, L8, k8, n8⟩, -, X8, ⟨Lc8, hQ8, l8, y8, z8⟩, st8⟩ := X0.virtualBack hx (y := yM6) (z := yM6) hown (mvT hZ (w_ hw 83 rfl)) (mvT hZ (w_ hw 84 rfl)) (notFace_of_selects (args := #[]) (mvT hZ (w_ hw 86 rfl))) (mvT hZ (w_ hw 86 rfl)) (mvT hZ (w_ hw 85 rfl)) (by decide) (backOf (W := 0) (rm_ilN l Z av0 hw [] a0 cd0 w_COMPACT_STRINGS h0 n0 (Nat.le_trans Z0 kp0.1) Ol0 F_coder_a0 S_COMPACT_STRINGS hcs hc1) hZ (w_ hw 87 rfl) (w_ hw 22 rfl) (by decide) (by decide)) q8a q8c (g := (mkF m 1 #[.val (.ref a0), .val (.int p1), .unset] [(.ref a0)])) rfl (by rw [hml]; rfl) (Steps.refl _) (argsL := []) (rest := []) (lenOf pd_6 rfl) rfl (by show 2 * 0 + _ ≤ _; exact Nat.le_of_eq rfl) (hb hby d18_1) (fun _ _ => ⟨rfl, e0, (by decide : 0 + 0 ≤ _), (by decide : 0 + 0 ≤ _)⟩)
   dsimp only [Pt.U, Pt.locs, Pt.cells, Pt.slots] at X8 l8 y8 z8 st8 hQ8
   subst l8 y8 z8
   obtain ⟨rfl, N8q, he8⟩ := hQ8
   have N8 := Fr.app N0 N8q
   refine OwnFin.tr st8 ?_
   show OwnFin _ _ _ _ (T8.setTop (mkF m 4 _ [(.int 0)]))
   refine OwnFin.st (fun _ q => XS.ifYes X8.here hx rfl (pc0 := 4) (pc' := 27) rfl (hb hby d18_4) rfl (Jvm.Free.XT.i0_eq_t (rfl : (0 : Int32) = (0 : Int32))) (by decide) (by decide) q) ?_
   show OwnFin _ _ _ _ (T8.setTop (mkF m 27 _ []))
   refine OwnFin.st (fun _ q => XS.aloadN X8.here hx rfl (hb hby d18_27) rfl rfl q) ?_
   show OwnFin _ _ _ _ (T8.setTop (mkF m 28 _ [(.ref a0)]))
   obtain ⟨T9, X9, e9, st9⟩ := getF X8 hx hZ hown (host := "") (Or.inl (w_ hw 39 rfl)) Via.refl he8 F_value_a0 (g := (mkF m 28 #[.val (.ref a0), .val (.int p1), .unset] [(.ref a0)])) rfl rfl (hb hby d18_28)
   refine OwnFin.st st9 ?_
   show OwnFin _ _ _ _ (T9.setTop (mkF m 31 _ [(.ref b0)]))
   have Vo10 : Arv Z h0 b0 k_b0 .byte z0 (own_ml z0 s0) (.int 0) := V_b0
   obtain ⟨cl10, Ar10, qa10, Sa10, Na10, Ha10, Ga10⟩ := id Vo10
   refine OwnFin.st (X9.arraylength hx (by rw [e9]; exact Ar10.1) (State.isArrayOf_alike (hZ).alike Ar10.2.1) (g := (mkF m 31 #[.val (.ref a0), .val (.int p1), .unset] [(.ref b0)])) rfl rfl (hb hby d18_31)) ?_
   rw [len_of Sa10 Na10]
   show OwnFin _ _ _ _ (T9.setTop (mkF m 32 _ [(.int z0)]))
   refine OwnFin.st (fun _ q => XS.iconst X9.here hx rfl (hb hby d18_32) q) ?_
   show OwnFin _ _ _ _ (T9.setTop (mkF m 33 _ [(.int 1), (.int z0)]))
   refine OwnFin.st (fun _ q => XS.ishr X9.here hx rfl (hb hby d18_33) rfl q) ?_
   show OwnFin _ _ _ _ (T9.setTop (mkF m 34 _ [(.int (z0 >>> ((1 : Int32) &&& 31)))]))
   refine OwnFin.st (fun _ q => XS.istoreN X9.here hx rfl (hb hby d18_34) rfl (l' := #[.val (.ref a0), .val (.int p1), .val (.int (z0 >>> ((1 : Int32) &&& 31)))]) rfl q) ?_
   show OwnFin _ _ _ _ (T9.setTop (mkF m 35 _ []))
   refine OwnFin.st (fun _ q => XS.iloadN X9.here hx rfl (hb hby d18_35) rfl q) ?_
   show OwnFin _ _ _ _ (T9.setTop (mkF m 36 _ [(.int p1)]))
   refine OwnFin.st (fun _ q => XS.iloadN X9.here hx rfl (hb hby d18_36) rfl q) ?_
   show OwnFin _ _ _ _ (T9.setTop (mkF m 37 _ [(.int (z0 >>> ((1 : Int32) &&& 31))), (.int p1)]))
   obtain ⟨_, _, ⟨T11, L11, k11, n11⟩, -, X11, ⟨Lc11, hQ11, l11, y11, z11⟩, st11⟩ := Jvm.LawKit.callS X9 hx (y := yM10) hown (mvT hZ (w_ hw 88 rfl)) (mvT hZ (w_ hw 89 rfl)) (mvT hZ (w_ hw 22 rfl)) (mvT hZ (w_ hw 90 rfl)) (by decide) (backOf (W := 0) (rm_sci l Z av0 hw [] p1 (z0 >>> ((1 : Int32) &&& 31)) w_SIOOBE_FORMATTER h0 n0 (Nat.le_trans Z0 kp0.1) Ol0 S_SIOOBE_FORMATTER hcb0 (own_cb1 hcd hcb1 hc1) hr_w_SIOOBE_FORMATTER) hZ (w_ hw 90 rfl) (w_ hw 22 rfl) (by decide) (by decide)) (g := (mkF m 37 #[.val (.ref a0), .val (.int p1), .val (.int (z0 >>> ((1 : Int32) &&& 31)))] [(.int (z0 >>> ((1 : Int32) &&& 31))), (.int p1)])) rfl (by rw [hml]; rfl) (argsL := [(.int p1), (.int (z0 >>> ((1 : Int32) &&& 31)))]) (rest := []) (lenOf pd_7 rfl) rfl (by show 2 * 0 + _ ≤ _; exact Nat.le_of_eq rfl) (hb hby d18_37) (fun _ _ => ⟨rfl, e9, (by decide : 0 + 0 ≤ _), (by decide : 0 + 0 ≤ _)⟩)
   dsimp only [Pt.U, Pt.locs, Pt.cells, Pt.slots] at X11 l11 y11 z11 st11 hQ11
   subst l11 y11 z11
   obtain ⟨rfl, N11q, he11⟩ := hQ11
   have N11 := Fr.app N8 N11q
   refine OwnFin.st st11 ?_
   show OwnFin _ _ _ _ (T11.setTop (mkF m 40 #[.val (.ref a0), .val (.int p1), .val (.int (z0 >>> ((1 : Int32) &&& 31)))] []))
   refine OwnFin.st (fun _ q => XS.aloadN X11.here hx rfl (hb hby d18_40) rfl rfl q) ?_
   show OwnFin _ _ _ _ (T11.setTop (mkF m 41 _ [(.ref a0)]))
   obtain ⟨T12, X12, e12, st12⟩ := getF X11 hx hZ hown (host := "") (Or.inl (w_ hw 39 rfl)) Via.refl he11 F_value_a0 (g := (mkF m 41 #[.val (.ref a0), .val (.int p1), .val (.int (z0 >>> ((1 : Int32) &&& 31)))] [(.ref a0)])) rfl rfl (hb hby d18_41)
   refine OwnFin.st st12 ?_
   show OwnFin _ _ _ _ (T12.setTop (mkF m 44 _ [(.ref b0)]))
   refine OwnFin.st (fun _ q => XS.iloadN X12.here hx rfl (hb hby d18_44) rfl q) ?_
   show OwnFin _ _ _ _ (T12.setTop (mkF m 45 _ [(.int p1), (.ref b0)]))
   refine OwnFin.st (fun _ q => XS.iloadN X12.here hx rfl (hb hby d18_45) rfl q) ?_
   show OwnFin _ _ _ _ (T12.setTop (mkF m 46 _ [(.int (z0 >>> ((1 : Int32) &&& 31))), (.int p1), (.ref b0)]))
   obtain ⟨_, _, ⟨T13, L13, k13, n13⟩, -, X13, ⟨Lc13, hQ13, l13, y13, z13⟩, st13⟩ := Jvm.LawKit.callS X12 hx (y := yM5) hown (mvT hZ (w_ hw 122 rfl)) (mvT hZ (w_ hw 123 rfl)) (mvT hZ (w_ hw 70 rfl)) (mvT hZ (w_ hw 124 rfl)) (by decide) (backOf (W := 0) (rm_cp3 l Z av0 hw [] b0 p1 (z0 >>> ((1 : Int32) &&& 31)) k_b0 z0 s0 h0 n0 (Nat.le_trans Z0 kp0.1) Ol0 V_b0 (own_cb2 hcb0 (own_cb1 hcd hcb1 hc1)) S__assertionsDisabled S_HI_BYTE_SHIFT S_LO_BYTE_SHIFT) hZ (w_ hw 124 rfl) (w_ hw 70 rfl) (by decide) (by decide)) (g := (mkF m 46 #[.val (.ref a0), .val (.int p1), .val (.int (z0 >>> ((1 : Int32) &&& 31)))] [(.int (z0 >>> ((1 : Int32) &&& 31))), (.int p1), (.ref b0)])) rfl (by rw [hml]; rfl) (argsL := [(.ref b0), (.int p1), (.int (z0 >>> ((1 : Int32) &&& 31)))]) (rest := []) (lenOf pd_8 rfl) rfl (by show 2 * 0 + _ ≤ _; exact Nat.le_of_eq rfl) (hb hby d18_46) (fun _ _ => ⟨rfl, e12, (by decide : 0 + 0 ≤ _), (by decide : 0 + 0 ≤ _)⟩)
   dsimp only [Pt.U, Pt.locs, Pt.cells, Pt.slots] at X13 l13 y13 z13 st13 hQ13
   subst l13 y13 z13
   obtain ⟨rfl, N13q, he13⟩ := hQ13
   have N13 := Fr.app N11 N13q
   refine OwnFin.st st13 ?_
   show OwnFin _ _ _ _ (T13.setTop (mkF m 49 _ [(.int (own_cp16 s0 p1 (z0 >>> ((1 : Int32) &&& 31))))]))
   obtain ⟨fs, hr, hrun, hended, hW, hsame⟩ := X13.leave (v := some (.int (own_cp16 s0 p1 (z0 >>> ((1 : Int32) &&& 31))))) (fun h => by rw [Bd.returns] at h; cases h)
   refine ⟨_, _, retI X13 hx Bd.returns (hb hby d18_49) hr, hrun, hended, _, _, rfl, ?_, ⟨_, rfl⟩, hW, hsame.mono (by decide) (by decide)⟩
   show Q_rm_cpa Z a0 p1 cd0 b0 k_b0 z0 s0 w_COMPACT_STRINGS w_SIOOBE_FORMATTER h0 n0 _ T13.heap _
   rw [he13]
   refine ⟨?_, N13, rfl⟩
   simp [own_cpa, hc1]
def own_ic (p0 : Int32) (p1 : Int32) : Int32 := if p0 < p1 then -1 else if p0 = p1 then 0 else 1
theorem d12_0 : decode jdk_33_method_40_code 0 = .ok (.iload_n 0, 1) := by decide +kernel
theorem d12_1 : decode jdk_33_method_40_code 1 = .ok (.iload_n 1, 1) := by decide +kernel
theorem d12_2 : decode jdk_33_method_40_code 2 = .ok (.if_icmp .ge 7, 3) := by decide +kernel
theorem d12_5 : decode jdk_33_method_40_code 5 = .ok (.iconst (-1), 1) := by decide +kernel
theorem d12_6 : decode jdk_33_method_40_code 6 = .ok (.goto 13, 3) := by decide +kernel
theorem d12_9 : decode jdk_33_method_40_code 9 = .ok (.iload_n 0, 1) := by decide +kernel
theorem d12_10 : decode jdk_33_method_40_code 10 = .ok (.iload_n 1, 1) := by decide +kernel
theorem d12_11 : decode jdk_33_method_40_code 11 = .ok (.if_icmp .ne 7, 3) := by decide +kernel
theorem d12_14 : decode jdk_33_method_40_code 14 = .ok (.iconst 0, 1) := by decide +kernel
theorem d12_15 : decode jdk_33_method_40_code 15 = .ok (.goto 4, 3) := by decide +kernel
theorem d12_18 : decode jdk_33_method_40_code 18 = .ok (.iconst 1, 1) := by decide +kernel
theorem d12_19 : decode jdk_33_method_40_code 19 = .ok (.ireturn, 1) := by decide +kernel
theorem pn_4 : plainName "java/lang/Integer" = true := by first | (simp [plainName, overriddenIn]; done) | decide +kernel
theorem ef_rm_ic (m : MethodId) (p0 : Int32) (p1 : Int32) : entryFrame m #[(.int p0), (.int p1)] 2 = mkF m 0 #[.val (.int p0), .val (.int p1)] [] := by first | (simp [entryFrame, mkF, argsToLocals, Value.category]; done) | rfl
def Q_rm_ic (Z : State) (p0 : Int32) (p1 : Int32) (h0 : Heap) (n0 : Nat) (v : Option Value) (h : Heap) (L : List Loc) : Prop := v = some (.int (own_ic p0 p1)) ∧ Fr n0 L ∧ h = h0
set_option maxRecDepth 65536 in
set_option maxHeartbeats 40000000 in
theorem rm_ic (l : Launch) (Z : State) (av0 : Array Value) (hw : ∀ d ∈ tables_1, d.before av0 Z = true) (ws : List Jvm.Cond) (p0 : Int32) (p1 : Int32) (h0 : Heap) (n0 : Nat) (Z0 : n0 ≤ h0.size) :
    MetFree l yM12 (head1 (Jvm.Cond.code yM12 jdk_33_method_40_code 2 (some .int) :: ws) ({ frames := 0, cells := 0, slots := 0, locals := 0 } : Room)) (fun a U => a = #[(.int p0), (.int p1)] ∧ Z.Warmed39 U.vm ∧ U.heap = h0) (fun _ _ _ _ _ => True) (fun _ U o U' => ∃ v L, o = .returned v ∧ Q_rm_ic Z p0 p1 h0 n0 v U'.heap L ∧ FrameEnd U o U' L ({ frames := 0, cells := 0, slots := 0, locals := 0 } : Room).cells ({ frames := 0, cells := 0, slots := 0, locals := 0 } : Room).slots) := by
  refine MetFree.of_bodySF (plainFor_of_name pn_4) hisR ?_
  intro p e s m args below meth c s₁ Bd hml0 hP hK
  obtain ⟨rfl, hZ, hh⟩ := hP
  have hx := Bd.exec
  have hby := Bd.bytes
  have hml : c.maxLocals = 2 := hml0
  have hown : s.vm.findClass "java/lang/Integer" = some m.cls := findClass_of_methodNamed Bd.named
  have hnm := (name_of_methodNamed Bd.named Bd.method).1
  have X0 : Stand p l e ({ frames := 0, cells := 0, slots := 0, locals := 0 } : Room) s m #[(.int p0), (.int p1)] below meth c s₁ [] 0 0 := Stand.of_body Bd
  have e0 : s₁.heap = h0 := by rw [← hh, Bd.state]; rfl
  have N0 := Fr.nil n0
  have pre0 : ∀ t, Steps p.tables e below (s₁.setTop (mkF m 0 #[.val (.int p0), .val (.int p1)] [])) t → Steps p.tables e below (s₁.setTop (entryFrame m #[(.int p0), (.int p1)] 2)) t := fun t k => castTop (ef_rm_ic m p0 p1) k
  change OwnFin p.tables e below _ (s₁.setTop (entryFrame m #[(.int p0), (.int p1)] 2))
  have kp0 : Keep h0 h0 [] := Keep.refl _ _
  refine OwnFin.st (fun _ q => pre0 _ q) ?_
  show OwnFin _ _ _ _ (s₁.setTop (mkF m 0 #[.val (.int p0), .val (.int p1)] []))
  refine OwnFin.st (fun _ q => XS.iloadN X0.here hx rfl (hb hby d12_0) rfl q) ?_
  show OwnFin _ _ _ _ (s₁.setTop (mkF m 1 _ [(.int p0)]))
  refine OwnFin.st (fun _ q => XS.iloadN X0.here hx rfl (hb hby d12_1) rfl q) ?_
  show OwnFin _ _ _ _ (s₁.setTop (mkF m 2 _ [(.int p1), (.int p0)]))
  by_cases hc1 : p0 < p1
  ·
   refine OwnFin.st (fun _ q => XS.icmpNo X0.here hx rfl (hb hby d12_2) rfl (Jvm.Free.XT.ii_ge_f hc1) q) ?_
   show OwnFin _ _ _ _ (s₁.setTop (mkF m 5 _ []))
   refine OwnFin.st (fun _ q => XS.iconst X0.here hx rfl (hb hby d12_5) q) ?_
   show OwnFin _ _ _ _ (s₁.setTop (mkF m 6 _ [(.int (-1))]))
   refine OwnFin.st (fun _ q => XS.goto X0.here hx rfl (pc0 := 6) (pc' := 19) rfl (hb hby d12_6) (by decide) (by decide) q) ?_
   show OwnFin _ _ _ _ (s₁.setTop (mkF m 19 _ [(.int (-1))]))
   obtain ⟨fs, hr, hrun, hended, hW, hsame⟩ := X0.leave (v := some (.int (-1))) (fun h => by rw [Bd.returns] at h; cases h)
   refine ⟨_, _, retI X0 hx Bd.returns (hb hby d12_19) hr, hrun, hended, _, _, rfl, ?_, ⟨_, rfl⟩, hW, hsame.mono (by decide) (by decide)⟩
   show Q_rm_ic Z p0 p1 h0 n0 _ s₁.heap _
   rw [e0]
   refine ⟨?_, N0, rfl⟩
   simp [own_ic, hc1]
  ·
   refine OwnFin.st (fun _ q => XS.icmpYes X0.here hx rfl (pc0 := 2) (pc' := 9) rfl (hb hby d12_2) rfl (Jvm.Free.XT.ii_ge_t hc1) (by decide) (by decide) q) ?_
   show OwnFin _ _ _ _ (s₁.setTop (mkF m 9 _ []))
   refine OwnFin.st (fun _ q => XS.iloadN X0.here hx rfl (hb hby d12_9) rfl q) ?_
   show OwnFin _ _ _ _ (s₁.setTop (mkF m 10 _ [(.int p0)]))
   refine OwnFin.st (fun _ q => XS.iloadN X0.here hx rfl (hb hby d12_10) rfl q) ?_
   show OwnFin _ _ _ _ (s₁.setTop (mkF m 11 _ [(.int p1), (.int p0)]))
   by_cases hc2 : p0 = p1
   ·
    refine OwnFin.st (fun _ q => XS.icmpNo X0.here hx rfl (hb hby d12_11) rfl (Jvm.Free.XT.ii_ne_f hc2) q) ?_
    show OwnFin _ _ _ _ (s₁.setTop (mkF m 14 _ []))
    refine OwnFin.st (fun _ q => XS.iconst X0.here hx rfl (hb hby d12_14) q) ?_
    show OwnFin _ _ _ _ (s₁.setTop (mkF m 15 _ [(.int 0)]))
    refine OwnFin.st (fun _ q => XS.goto X0.here hx rfl (pc0 := 15) (pc' := 19) rfl (hb hby d12_15) (by decide) (by decide) q) ?_
    show OwnFin _ _ _ _ (s₁.setTop (mkF m 19 _ [(.int 0)]))
    obtain ⟨fs, hr, hrun, hended, hW, hsame⟩ := X0.leave (v := some (.int 0)) (fun h => by rw [Bd.returns] at h; cases h)
    refine ⟨_, _, retI X0 hx Bd.returns (hb hby d12_19) hr, hrun, hended, _, _, rfl, ?_, ⟨_, rfl⟩, hW, hsame.mono (by decide) (by decide)⟩
    show Q_rm_ic Z p0 p1 h0 n0 _ s₁.heap _
    rw [e0]
    refine ⟨?_, N0, rfl⟩
    simp [own_ic, hc1, hc2]
   ·
    refine OwnFin.st (fun _ q => XS.icmpYes X0.here hx rfl (pc0 := 11) (pc' := 18) rfl (hb hby d12_11) rfl (Jvm.Free.XT.ii_ne_t hc2) (by decide) (by decide) q) ?_
    show OwnFin _ _ _ _ (s₁.setTop (mkF m 18 _ []))
    refine OwnFin.st (fun _ q => XS.iconst X0.here hx rfl (hb hby d12_18) q) ?_
    show OwnFin _ _ _ _ (s₁.setTop (mkF m 19 _ [(.int 1)]))
    obtain ⟨fs, hr, hrun, hended, hW, hsame⟩ := X0.leave (v := some (.int 1)) (fun h => by rw [Bd.returns] at h; cases h)
    refine ⟨_, _, retI X0 hx Bd.returns (hb hby d12_19) hr, hrun, hended, _, _, rfl, ?_, ⟨_, rfl⟩, hW, hsame.mono (by decide) (by decide)⟩
    show Q_rm_ic Z p0 p1 h0 n0 _ s₁.heap _
    rw [e0]
    refine ⟨?_, N0, rfl⟩
    simp [own_ic, hc1, hc2]
def own_cc (p0 : Int32) : Int32 := if p0 < 65536 then 1 else 2
theorem d22_0 : decode jdk_89_method_18_code 0 = .ok (.iload_n 0, 1) := by decide +kernel
theorem d22_1 : decode jdk_89_method_18_code 1 = .ok (.ldc 73, 2) := by decide +kernel
theorem d22_3 : decode jdk_89_method_18_code 3 = .ok (.if_icmp .lt 7, 3) := by decide +kernel
theorem d22_6 : decode jdk_89_method_18_code 6 = .ok (.iconst 2, 1) := by decide +kernel
theorem d22_7 : decode jdk_89_method_18_code 7 = .ok (.goto 4, 3) := by decide +kernel
theorem d22_10 : decode jdk_89_method_18_code 10 = .ok (.iconst 1, 1) := by decide +kernel
theorem d22_11 : decode jdk_89_method_18_code 11 = .ok (.ireturn, 1) := by decide +kernel
theorem ef_rm_cc (m : MethodId) (p0 : Int32) : entryFrame m #[(.int p0)] 1 = mkF m 0 #[.val (.int p0)] [] := by first | (simp [entryFrame, mkF, argsToLocals, Value.category]; done) | rfl
def Q_rm_cc (Z : State) (p0 : Int32) (h0 : Heap) (n0 : Nat) (v : Option Value) (h : Heap) (L : List Loc) : Prop := v = some (.int (own_cc p0)) ∧ Fr n0 L ∧ h = h0
set_option maxRecDepth 65536 in
set_option maxHeartbeats 40000000 in
theorem rm_cc (l : Launch) (Z : State) (av0 : Array Value) (hw : ∀ d ∈ tables_1, d.before av0 Z = true) (ws : List Jvm.Cond) (p0 : Int32) (h0 : Heap) (n0 : Nat) (Z0 : n0 ≤ h0.size) :
    MetFree l yM13 (head1 (Jvm.Cond.code yM13 jdk_89_method_18_code 1 (some .int) :: ws) ({ frames := 0, cells := 0, slots := 0, locals := 0 } : Room)) (fun a U => a = #[(.int p0)] ∧ Z.Warmed39 U.vm ∧ U.heap = h0) (fun _ _ _ _ _ => True) (fun _ U o U' => ∃ v L, o = .returned v ∧ Q_rm_cc Z p0 h0 n0 v U'.heap L ∧ FrameEnd U o U' L ({ frames := 0, cells := 0, slots := 0, locals := 0 } : Room).cells ({ frames := 0, cells := 0, slots := 0, locals := 0 } : Room).slots) := by
  refine MetFree.of_bodySF (plainFor_of_name pn_1) hisR ?_
  intro p e s m args below meth c s₁ Bd hml0 hP hK
  obtain ⟨rfl, hZ, hh⟩ := hP
  have hx := Bd.exec
  have hby := Bd.bytes
  have hml : c.maxLocals = 1 := hml0
  have hown : s.vm.findClass "java/lang/Character" = some m.cls := findClass_of_methodNamed Bd.named
  have hnm := (name_of_methodNamed Bd.named Bd.method).1
  have X0 : Stand p l e ({ frames := 0, cells := 0, slots := 0, locals := 0 } : Room) s m #[(.int p0)] below meth c s₁ [] 0 0 := Stand.of_body Bd
  have e0 : s₁.heap = h0 := by rw [← hh, Bd.state]; rfl
  have N0 := Fr.nil n0
  have pre0 : ∀ t, Steps p.tables e below (s₁.setTop (mkF m 0 #[.val (.int p0)] [])) t → Steps p.tables e below (s₁.setTop (entryFrame m #[(.int p0)] 1)) t := fun t k => castTop (ef_rm_cc m p0) k
  change OwnFin p.tables e below _ (s₁.setTop (entryFrame m #[(.int p0)] 1))
  have kp0 : Keep h0 h0 [] := Keep.refl _ _
  refine OwnFin.st (fun _ q => pre0 _ q) ?_
  show OwnFin _ _ _ _ (s₁.setTop (mkF m 0 #[.val (.int p0)] []))
  refine OwnFin.st (fun _ q => XS.iloadN X0.here hx rfl (hb hby d22_0) rfl q) ?_
  show OwnFin _ _ _ _ (s₁.setTop (mkF m 1 _ [(.int p0)]))
  refine OwnFin.st (X0.ldcInt hx hown (mvT hZ (w_ hw 100 rfl)) (g := (mkF m 1 #[.val (.int p0)] [(.int p0)])) rfl (hb hby d22_1)) ?_
  show OwnFin _ _ _ _ (s₁.setTop (mkF m 3 _ [(.int 65536), (.int p0)]))
  by_cases hc1 : p0 < (65536 : Int32)
  ·
   refine OwnFin.st (fun _ q => XS.icmpYes X0.here hx rfl (pc0 := 3) (pc' := 10) rfl (hb hby d22_3) rfl (Jvm.Free.XT.ii_lt_t hc1) (by decide) (by decide) q) ?_
   show OwnFin _ _ _ _ (s₁.setTop (mkF m 10 _ []))
   refine OwnFin.st (fun _ q => XS.iconst X0.here hx rfl (hb hby d22_10) q) ?_
   show OwnFin _ _ _ _ (s₁.setTop (mkF m 11 _ [(.int 1)]))
   obtain ⟨fs, hr, hrun, hended, hW, hsame⟩ := X0.leave (v := some (.int 1)) (fun h => by rw [Bd.returns] at h; cases h)
   refine ⟨_, _, retI X0 hx Bd.returns (hb hby d22_11) hr, hrun, hended, _, _, rfl, ?_, ⟨_, rfl⟩, hW, hsame.mono (by decide) (by decide)⟩
   show Q_rm_cc Z p0 h0 n0 _ s₁.heap _
   rw [e0]
   refine ⟨?_, N0, rfl⟩
   simp [own_cc, hc1]
  ·
   refine OwnFin.st (fun _ q => XS.icmpNo X0.here hx rfl (hb hby d22_3) rfl (Jvm.Free.XT.ii_lt_f hc1) q) ?_
   show OwnFin _ _ _ _ (s₁.setTop (mkF m 6 _ []))
   refine OwnFin.st (fun _ q => XS.iconst X0.here hx rfl (hb hby d22_6) q) ?_
   show OwnFin _ _ _ _ (s₁.setTop (mkF m 7 _ [(.int 2)]))
   refine OwnFin.st (fun _ q => XS.goto X0.here hx rfl (pc0 := 7) (pc' := 11) rfl (hb hby d22_7) (by decide) (by decide) q) ?_
   show OwnFin _ _ _ _ (s₁.setTop (mkF m 11 _ [(.int 2)]))
   obtain ⟨fs, hr, hrun, hended, hW, hsame⟩ := X0.leave (v := some (.int 2)) (fun h => by rw [Bd.returns] at h; cases h)
   refine ⟨_, _, retI X0 hx Bd.returns (hb hby d22_11) hr, hrun, hended, _, _, rfl, ?_, ⟨_, rfl⟩, hW, hsame.mono (by decide) (by decide)⟩
   show Q_rm_cc Z p0 h0 n0 _ s₁.heap _
   rw [e0]
   refine ⟨?_, N0, rfl⟩
   simp [own_cc, hc1]
theorem own_ccb (x : Int32) : 1 ≤ (own_cc x).toInt ∧ (own_cc x).toInt ≤ 2 := by unfold own_cc; split <;> decide
def own_cmp (cd0 z0 : Int32) (s0 : Nat → Int32) (cd1 z1 : Int32) (s1 : Nat → Int32) : Nat → Int32 → Int32
  | 0, _ => 0
  | f + 1, i => if i < (z0 >>> (cd0 &&& 31)) then if i < (z1 >>> (cd1 &&& 31)) then if own_cpa cd0 z0 s0 i = own_cpa cd1 z1 s1 i then own_cmp cd0 z0 s0 cd1 z1 s1 f (i + own_cc (own_cpa cd0 z0 s0 i)) else own_ic (own_cpa cd0 z0 s0 i) (own_cpa cd1 z1 s1 i) else own_ic (z0 >>> (cd0 &&& 31)) (z1 >>> (cd1 &&& 31)) else own_ic (z0 >>> (cd0 &&& 31)) (z1 >>> (cd1 &&& 31))
def own_cmpS (cd0 z0 : Int32) (s0 : Nat → Int32) (cd1 z1 : Int32) (s1 : Nat → Int32) : Int32 := own_cmp cd0 z0 s0 cd1 z1 s1 4 0
theorem pd_9 : parseMethodDescriptor "()I" = some ⟨[], some .int⟩ := by decide +kernel
theorem pd_10 : parseMethodDescriptor "(I)I" = some ⟨[.int], some .int⟩ := by decide +kernel
theorem pd_11 : parseMethodDescriptor "(II)I" = some ⟨[.int, .int], some .int⟩ := by decide +kernel
theorem d9_0 : decode prog_51_method_2_code 0 = .ok (.iconst 0, 1) := by decide +kernel
theorem d9_1 : decode prog_51_method_2_code 1 = .ok (.istore_n 2, 1) := by decide +kernel
theorem d9_2 : decode prog_51_method_2_code 2 = .ok (.iload_n 2, 1) := by decide +kernel
theorem d9_3 : decode prog_51_method_2_code 3 = .ok (.aload_n 0, 1) := by decide +kernel
theorem d9_4 : decode prog_51_method_2_code 4 = .ok (.invokevirtual 7, 3) := by decide +kernel
theorem d9_7 : decode prog_51_method_2_code 7 = .ok (.if_icmp .ge 47, 3) := by decide +kernel
theorem d9_10 : decode prog_51_method_2_code 10 = .ok (.iload_n 2, 1) := by decide +kernel
theorem d9_11 : decode prog_51_method_2_code 11 = .ok (.aload_n 1, 1) := by decide +kernel
theorem d9_12 : decode prog_51_method_2_code 12 = .ok (.invokevirtual 7, 3) := by decide +kernel
theorem d9_15 : decode prog_51_method_2_code 15 = .ok (.if_icmp .ge 39, 3) := by decide +kernel
theorem d9_18 : decode prog_51_method_2_code 18 = .ok (.aload_n 0, 1) := by decide +kernel
theorem d9_19 : decode prog_51_method_2_code 19 = .ok (.iload_n 2, 1) := by decide +kernel
theorem d9_20 : decode prog_51_method_2_code 20 = .ok (.invokevirtual 13, 3) := by decide +kernel
theorem d9_23 : decode prog_51_method_2_code 23 = .ok (.istore_n 3, 1) := by decide +kernel
theorem d9_24 : decode prog_51_method_2_code 24 = .ok (.aload_n 1, 1) := by decide +kernel
theorem d9_25 : decode prog_51_method_2_code 25 = .ok (.iload_n 2, 1) := by decide +kernel
theorem d9_26 : decode prog_51_method_2_code 26 = .ok (.invokevirtual 13, 3) := by decide +kernel
theorem d9_29 : decode prog_51_method_2_code 29 = .ok (.istore 4, 2) := by decide +kernel
theorem d9_31 : decode prog_51_method_2_code 31 = .ok (.iload_n 3, 1) := by decide +kernel
theorem d9_32 : decode prog_51_method_2_code 32 = .ok (.iload 4, 2) := by decide +kernel
theorem d9_34 : decode prog_51_method_2_code 34 = .ok (.if_icmp .eq 10, 3) := by decide +kernel
theorem d9_37 : decode prog_51_method_2_code 37 = .ok (.iload_n 3, 1) := by decide +kernel
theorem d9_38 : decode prog_51_method_2_code 38 = .ok (.iload 4, 2) := by decide +kernel
theorem d9_40 : decode prog_51_method_2_code 40 = .ok (.invokestatic 17, 3) := by decide +kernel
theorem d9_43 : decode prog_51_method_2_code 43 = .ok (.ireturn, 1) := by decide +kernel
theorem d9_44 : decode prog_51_method_2_code 44 = .ok (.iload_n 2, 1) := by decide +kernel
theorem d9_45 : decode prog_51_method_2_code 45 = .ok (.iload_n 3, 1) := by decide +kernel
theorem d9_46 : decode prog_51_method_2_code 46 = .ok (.invokestatic 23, 3) := by decide +kernel
theorem d9_49 : decode prog_51_method_2_code 49 = .ok (.iadd, 1) := by decide +kernel
theorem d9_50 : decode prog_51_method_2_code 50 = .ok (.istore_n 2, 1) := by decide +kernel
theorem d9_51 : decode prog_51_method_2_code 51 = .ok (.goto (-49), 3) := by decide +kernel
theorem d9_54 : decode prog_51_method_2_code 54 = .ok (.aload_n 0, 1) := by decide +kernel
theorem d9_55 : decode prog_51_method_2_code 55 = .ok (.invokevirtual 7, 3) := by decide +kernel
theorem d9_58 : decode prog_51_method_2_code 58 = .ok (.aload_n 1, 1) := by decide +kernel
theorem d9_59 : decode prog_51_method_2_code 59 = .ok (.invokevirtual 7, 3) := by decide +kernel
theorem d9_62 : decode prog_51_method_2_code 62 = .ok (.invokestatic 17, 3) := by decide +kernel
theorem d9_65 : decode prog_51_method_2_code 65 = .ok (.ireturn, 1) := by decide +kernel
theorem pn_5 : plainName "com/example/libaccrue/libaccrue/records/TextOrder" = true := by first | (simp [plainName, overriddenIn]; done) | decide +kernel
theorem ef_rm_cmp (m : MethodId) (a0 : Addr) (a1 : Addr) : entryFrame m #[(.ref a0), (.ref a1)] 5 = mkF m 0 #[.val (.ref a0), .val (.ref a1), .unset, .unset, .unset] [] := by first | (simp [entryFrame, mkF, argsToLocals, Value.category]; done) | rfl
def Q_rm_cmp (Z : State) (a0 : Addr) (a1 : Addr) (cd0 : Int32) (b0 : Addr) (k_b0 : ClassId) (z0 : Int32) (s0 : Nat → Int32) (cd1 : Int32) (b1 : Addr) (k_b1 : ClassId) (z1 : Int32) (s1 : Nat → Int32) (w_COMPACT_STRINGS : Int32) (w_SIOOBE_FORMATTER : Value) (h0 : Heap) (n0 : Nat) (v : Option Value) (h : Heap) (L : List Loc) : Prop := v = some (.int (own_cmpS cd0 z0 s0 cd1 z1 s1)) ∧ Fr n0 L ∧ h = h0
set_option maxHeartbeats 4000000 in
theorem om_rm_cmp_0 (z0 : Int32) (cd0 : Int32) (s0 : (Nat → Int32)) (oh0 : (0 : Int32) < (z0 >>> (cd0 &&& 31))) : ¬ (((0 : Int32) + (own_cc (own_cpa cd0 z0 s0 (0 : Int32)))) < (0 : Int32)) := by
  have om1 := rng32 (0 : Int32)
  have om1l : (0 : Int32).toInt = 0 := by decide +kernel
  have om2 := rng32 (z0 >>> (cd0 &&& 31))
  have om3 := rng32 z0
  have om4 := rng32 cd0
  have om5 := rng32 ((0 : Int32) + (own_cc (own_cpa cd0 z0 s0 (0 : Int32))))
  have om6 := c_iadd (0 : Int32) (own_cc (own_cpa cd0 z0 s0 (0 : Int32)))
  have om7 := rng32 (own_cc (own_cpa cd0 z0 s0 (0 : Int32)))
  have om8 := own_ccb (own_cpa cd0 z0 s0 (0 : Int32))
  have om9 := rng32 (own_cpa cd0 z0 s0 (0 : Int32))
  have ow0 := oh0
  rw [Int32.lt_iff_toInt_lt] at ow0
  rw [Int32.lt_iff_toInt_lt]
  generalize ((0 : Int32) + (own_cc (own_cpa cd0 z0 s0 (0 : Int32)))).toInt = gx0 at *
  generalize (own_cc (own_cpa cd0 z0 s0 (0 : Int32))).toInt = gx1 at *
  generalize (own_cpa cd0 z0 s0 (0 : Int32)).toInt = gx2 at *
  generalize (z0 >>> (cd0 &&& 31)).toInt = gx3 at *
  generalize (0 : Int32).toInt = gx4 at *
  generalize cd0.toInt = gx5 at *
  generalize z0.toInt = gx6 at *
  omega
set_option maxHeartbeats 4000000 in
theorem om_rm_cmp_1 (z0 : Int32) (cd0 : Int32) (s0 : (Nat → Int32)) (oh0 : (0 : Int32) < (z0 >>> (cd0 &&& 31))) : ¬ ((((0 : Int32) + (own_cc (own_cpa cd0 z0 s0 (0 : Int32)))) + (own_cc (own_cpa cd0 z0 s0 ((0 : Int32) + (own_cc (own_cpa cd0 z0 s0 (0 : Int32))))))) < (0 : Int32)) := by
  have om1 := rng32 (0 : Int32)
  have om1l : (0 : Int32).toInt = 0 := by decide +kernel
  have om2 := rng32 (z0 >>> (cd0 &&& 31))
  have om3 := rng32 z0
  have om4 := rng32 cd0
  have om5 := rng32 (((0 : Int32) + (own_cc (own_cpa cd0 z0 s0 (0 : Int32)))) + (own_cc (own_cpa cd0 z0 s0 ((0 : Int32) + (own_cc (own_cpa cd0 z0 s0 (0 : Int32)))))))
  have om6 := c_iadd ((0 : Int32) + (own_cc (own_cpa cd0 z0 s0 (0 : Int32)))) (own_cc (own_cpa cd0 z0 s0 ((0 : Int32) + (own_cc (own_cpa cd0 z0 s0 (0 : Int32))))))
  have om7 := rng32 ((0 : Int32) + (own_cc (own_cpa cd0 z0 s0 (0 : Int32))))
  have om8 := c_iadd (0 : Int32) (own_cc (own_cpa cd0 z0 s0 (0 : Int32)))
  have om9 := rng32 (own_cc (own_cpa cd0 z0 s0 (0 : Int32)))
  have om10 := own_ccb (own_cpa cd0 z0 s0 (0 : Int32))
  have om11 := rng32 (own_cpa cd0 z0 s0 (0 : Int32))
  have om12 := rng32 (own_cc (own_cpa cd0 z0 s0 ((0 : Int32) + (own_cc (own_cpa cd0 z0 s0 (0 : Int32))))))
  have om13 := own_ccb (own_cpa cd0 z0 s0 ((0 : Int32) + (own_cc (own_cpa cd0 z0 s0 (0 : Int32)))))
  have om14 := rng32 (own_cpa cd0 z0 s0 ((0 : Int32) + (own_cc (own_cpa cd0 z0 s0 (0 : Int32)))))
  have ow0 := oh0
  rw [Int32.lt_iff_toInt_lt] at ow0
  rw [Int32.lt_iff_toInt_lt]
  generalize (((0 : Int32) + (own_cc (own_cpa cd0 z0 s0 (0 : Int32)))) + (own_cc (own_cpa cd0 z0 s0 ((0 : Int32) + (own_cc (own_cpa cd0 z0 s0 (0 : Int32))))))).toInt = gx0 at *
  generalize (own_cc (own_cpa cd0 z0 s0 ((0 : Int32) + (own_cc (own_cpa cd0 z0 s0 (0 : Int32)))))).toInt = gx1 at *
  generalize (own_cpa cd0 z0 s0 ((0 : Int32) + (own_cc (own_cpa cd0 z0 s0 (0 : Int32))))).toInt = gx2 at *
  generalize ((0 : Int32) + (own_cc (own_cpa cd0 z0 s0 (0 : Int32)))).toInt = gx3 at *
  generalize (own_cc (own_cpa cd0 z0 s0 (0 : Int32))).toInt = gx4 at *
  generalize (own_cpa cd0 z0 s0 (0 : Int32)).toInt = gx5 at *
  generalize (z0 >>> (cd0 &&& 31)).toInt = gx6 at *
  generalize (0 : Int32).toInt = gx7 at *
  generalize cd0.toInt = gx8 at *
  generalize z0.toInt = gx9 at *
  omega
set_option maxRecDepth 65536 in
set_option maxHeartbeats 40000000 in
theorem rm_cmp (l : Launch) (Z : State) (av0 : Array Value) (hw : ∀ d ∈ tables_1, d.before av0 Z = true) (ws : List Jvm.Cond) (a0 : Addr) (a1 : Addr) (cd0 : Int32) (b0 : Addr) (k_b0 : ClassId) (z0 : Int32) (s0 : Nat → Int32) (cd1 : Int32) (b1 : Addr) (k_b1 : ClassId) (z1 : Int32) (s1 : Nat → Int32) (w_COMPACT_STRINGS : Int32) (w_SIOOBE_FORMATTER : Value) (h0 : Heap) (n0 : Nat) (Z0 : n0 ≤ h0.size) (Ol0 : Old Z n0 h0) (X_a0 : Exa Z h0 a0 "java/lang/String") (F_coder_a0 : Fld Z h0 a0 "java/lang/String" "coder" "B" (.int cd0)) (F_value_a0 : Fld Z h0 a0 "java/lang/String" "value" "[B" (.ref b0)) (V_b0 : Arv Z h0 b0 k_b0 .byte z0 (own_ml z0 s0) (.int 0)) (X_a1 : Exa Z h0 a1 "java/lang/String") (F_coder_a1 : Fld Z h0 a1 "java/lang/String" "coder" "B" (.int cd1)) (F_value_a1 : Fld Z h0 a1 "java/lang/String" "value" "[B" (.ref b1)) (V_b1 : Arv Z h0 b1 k_b1 .byte z1 (own_ml z1 s1) (.int 0)) (hcd0 : cd0 = (0 : Int32) ∨ cd0 = (1 : Int32)) (hcd1 : cd1 = (0 : Int32) ∨ cd1 = (1 : Int32)) (hcs : ¬ (w_COMPACT_STRINGS = (0 : Int32))) (hend : ¬ (((((0 : Int32) + (own_cc (own_cpa cd0 z0 s0 (0 : Int32)))) + (own_cc (own_cpa cd0 z0 s0 ((0 : Int32) + (own_cc (own_cpa cd0 z0 s0 (0 : Int32))))))) + (own_cc (own_cpa cd0 z0 s0 (((0 : Int32) + (own_cc (own_cpa cd0 z0 s0 (0 : Int32)))) + (own_cc (own_cpa cd0 z0 s0 ((0 : Int32) + (own_cc (own_cpa cd0 z0 s0 (0 : Int32)))))))))) < (z0 >>> (cd0 &&& 31)))) (S_COMPACT_STRINGS : Sta Z Z.heap "java/lang/String" "COMPACT_STRINGS" "Z" (.int w_COMPACT_STRINGS)) (S_SIOOBE_FORMATTER : Sta Z Z.heap "jdk/internal/util/Preconditions" "SIOOBE_FORMATTER" "Ljava/util/function/BiFunction;" w_SIOOBE_FORMATTER) (hr_w_SIOOBE_FORMATTER : w_SIOOBE_FORMATTER.isRef = true) (S__assertionsDisabled : Sta Z Z.heap "java/lang/StringUTF16" "$assertionsDisabled" "Z" (.int 1)) (S_HI_BYTE_SHIFT : Sta Z Z.heap "java/lang/StringUTF16" "HI_BYTE_SHIFT" "I" (.int 0)) (S_LO_BYTE_SHIFT : Sta Z Z.heap "java/lang/StringUTF16" "LO_BYTE_SHIFT" "I" (.int 8)) :
    MetFree l yM14 (head1 (Jvm.Cond.code yM14 prog_51_method_2_code 5 (some .int) :: ws) ({ frames := 4, cells := 0, slots := 0, locals := 58 } : Room)) (fun a U => a = #[(.ref a0), (.ref a1)] ∧ Z.Warmed39 U.vm ∧ U.heap = h0) (fun _ _ _ _ _ => True) (fun _ U o U' => ∃ v L, o = .returned v ∧ Q_rm_cmp Z a0 a1 cd0 b0 k_b0 z0 s0 cd1 b1 k_b1 z1 s1 w_COMPACT_STRINGS w_SIOOBE_FORMATTER h0 n0 v U'.heap L ∧ FrameEnd U o U' L ({ frames := 4, cells := 0, slots := 0, locals := 58 } : Room).cells ({ frames := 4, cells := 0, slots := 0, locals := 58 } : Room).slots) := by
  refine MetFree.of_bodySF (plainFor_of_name pn_5) hisR ?_
  intro p e s m args below meth c s₁ Bd hml0 hP hK
  obtain ⟨rfl, hZ, hh⟩ := hP
  have hx := Bd.exec
  have hby := Bd.bytes
  have hml : c.maxLocals = 5 := hml0
  have hown : s.vm.findClass "com/example/libaccrue/libaccrue/records/TextOrder" = some m.cls := findClass_of_methodNamed Bd.named
  have hnm := (name_of_methodNamed Bd.named Bd.method).1
  have X0 : Stand p l e ({ frames := 4, cells := 0, slots := 0, locals := 58 } : Room) s m #[(.ref a0), (.ref a1)] below meth c s₁ [] 0 0 := Stand.of_body Bd
  have e0 : s₁.heap = h0 := by rw [← hh, Bd.state]; rfl
  have N0 := Fr.nil n0
  have pre0 : ∀ t, Steps p.tables e below (s₁.setTop (mkF m 0 #[.val (.ref a0), .val (.ref a1), .unset, .unset, .unset] [])) t → Steps p.tables e below (s₁.setTop (entryFrame m #[(.ref a0), (.ref a1)] 5)) t := fun t k => castTop (ef_rm_cmp m a0 a1) k
  change OwnFin p.tables e below _ (s₁.setTop (entryFrame m #[(.ref a0), (.ref a1)] 5))
  have kp0 : Keep h0 h0 [] := Keep.refl _ _
  refine OwnFin.st (fun _ q => pre0 _ q) ?_
  show OwnFin _ _ _ _ (s₁.setTop (mkF m 0 #[.val (.ref a0), .val (.ref a1), .unset, .unset, .unset] []))
  refine OwnFin.st (fun _ q => XS.iconst X0.here hx rfl (hb hby d9_0) q) ?_
  show OwnFin _ _ _ _ (s₁.setTop (mkF m 1 _ [(.int 0)]))
  refine OwnFin.st (fun _ q => XS.istoreN X0.here hx rfl (hb hby d9_1) rfl (l' := #[.val (.ref a0), .val (.ref a1), .val (.int 0), .unset, .unset]) rfl q) ?_
  show OwnFin _ _ _ _ (s₁.setTop (mkF m 2 _ []))
  refine OwnFin.st (fun _ q => XS.iloadN X0.here hx rfl (hb hby d9_2) rfl q) ?_
  show OwnFin _ _ _ _ (s₁.setTop (mkF m 3 _ [(.int 0)]))
  refine OwnFin.st (fun _ q => XS.aloadN X0.here hx rfl (hb hby d9_3) rfl rfl q) ?_
  show OwnFin _ _ _ _ (s₁.setTop (mkF m 4 _ [(.ref a0), (.int 0)]))
  obtain ⟨cq1, kq1, q1a, q1b, q1c⟩ := isOf hZ e0 X_a0
  obtain ⟨_, _, ⟨T1, L1, k1, n1⟩, -, X1, ⟨Lc1, hQ1, l1, y1, z1⟩, st1⟩ := X0.virtualBack hx (y := yM8) (z := yM8) hown (mvT hZ (w_ hw 45 rfl)) (mvT hZ (w_ hw 46 rfl)) (notFace_of_selects (args := #[]) (mvT hZ (w_ hw 48 rfl))) (mvT hZ (w_ hw 48 rfl)) (mvT hZ (w_ hw 47 rfl)) (by decide) (backOf (W := 1) (rm_len l Z av0 hw [] a0 cd0 b0 k_b0 z0 s0 w_COMPACT_STRINGS h0 n0 (Nat.le_trans Z0 kp0.1) Ol0 X_a0 F_coder_a0 F_value_a0 V_b0 hcd0 S_COMPACT_STRINGS hcs) hZ (w_ hw 49 rfl) (w_ hw 22 rfl) (by decide) (by decide)) q1a q1c (g := (mkF m 4 #[.val (.ref a0), .val (.ref a1), .val (.int 0), .unset, .unset] [(.ref a0), (.int 0)])) rfl (by rw [hml]; rfl) (Steps.refl _) (argsL := []) (rest := [(.int 0)]) (lenOf pd_9 rfl) rfl (by show 2 * 0 + _ ≤ _; exact Nat.le_of_eq rfl) (hb hby d9_4) (fun _ _ => ⟨rfl, e0, (by decide : 0 + 0 ≤ _), (by decide : 0 + 0 ≤ _)⟩)
  dsimp only [Pt.U, Pt.locs, Pt.cells, Pt.slots] at X1 l1 y1 z1 st1 hQ1
  subst l1 y1 z1
  obtain ⟨rfl, N1q, he1⟩ := hQ1
  have N1 := Fr.app N0 N1q
  refine OwnFin.tr st1 ?_
  show OwnFin _ _ _ _ (T1.setTop (mkF m 7 _ [(.int (z0 >>> (cd0 &&& 31))), (.int 0)]))
  by_cases hc2 : (0 : Int32) < (z0 >>> (cd0 &&& 31))
  ·
   refine OwnFin.st (fun _ q => XS.icmpNo X1.here hx rfl (hb hby d9_7) rfl (Jvm.Free.XT.ii_ge_f hc2) q) ?_
   show OwnFin _ _ _ _ (T1.setTop (mkF m 10 _ []))
   refine OwnFin.st (fun _ q => XS.iloadN X1.here hx rfl (hb hby d9_10) rfl q) ?_
   show OwnFin _ _ _ _ (T1.setTop (mkF m 11 _ [(.int 0)]))
   refine OwnFin.st (fun _ q => XS.aloadN X1.here hx rfl (hb hby d9_11) rfl rfl q) ?_
   show OwnFin _ _ _ _ (T1.setTop (mkF m 12 _ [(.ref a1), (.int 0)]))
   obtain ⟨cq3, kq3, q3a, q3b, q3c⟩ := isOf hZ he1 X_a1
   obtain ⟨_, _, ⟨T3, L3, k3, n3⟩, -, X3, ⟨Lc3, hQ3, l3, y3, z3⟩, st3⟩ := X1.virtualBack hx (y := yM8) (z := yM8) hown (mvT hZ (w_ hw 45 rfl)) (mvT hZ (w_ hw 46 rfl)) (notFace_of_selects (args := #[]) (mvT hZ (w_ hw 48 rfl))) (mvT hZ (w_ hw 48 rfl)) (mvT hZ (w_ hw 47 rfl)) (by decide) (backOf (W := 1) (rm_len l Z av0 hw [] a1 cd1 b1 k_b1 z1 s1 w_COMPACT_STRINGS h0 n0 (Nat.le_trans Z0 kp0.1) Ol0 X_a1 F_coder_a1 F_value_a1 V_b1 hcd1 S_COMPACT_STRINGS hcs) hZ (w_ hw 49 rfl) (w_ hw 22 rfl) (by decide) (by decide)) q3a q3c (g := (mkF m 12 #[.val (.ref a0), .val (.ref a1), .val (.int 0), .unset, .unset] [(.ref a1), (.int 0)])) rfl (by rw [hml]; rfl) (Steps.refl _) (argsL := []) (rest := [(.int 0)]) (lenOf pd_9 rfl) rfl (by show 2 * 0 + _ ≤ _; exact Nat.le_of_eq rfl) (hb hby d9_12) (fun _ _ => ⟨rfl, he1, (by decide : 0 + 0 ≤ _), (by decide : 0 + 0 ≤ _)⟩)
   dsimp only [Pt.U, Pt.locs, Pt.cells, Pt.slots] at X3 l3 y3 z3 st3 hQ3
   subst l3 y3 z3
   obtain ⟨rfl, N3q, he3⟩ := hQ3
   have N3 := Fr.app N1 N3q
   refine OwnFin.tr st3 ?_
   show OwnFin _ _ _ _ (T3.setTop (mkF m 15 _ [(.int (z1 >>> (cd1 &&& 31))), (.int 0)]))
   by_cases hc4 : (0 : Int32) < (z1 >>> (cd1 &&& 31))
   ·
    refine OwnFin.st (fun _ q => XS.icmpNo X3.here hx rfl (hb hby d9_15) rfl (Jvm.Free.XT.ii_ge_f hc4) q) ?_
    show OwnFin _ _ _ _ (T3.setTop (mkF m 18 _ []))
    refine OwnFin.st (fun _ q => XS.aloadN X3.here hx rfl (hb hby d9_18) rfl rfl q) ?_
    show OwnFin _ _ _ _ (T3.setTop (mkF m 19 _ [(.ref a0)]))
    refine OwnFin.st (fun _ q => XS.iloadN X3.here hx rfl (hb hby d9_19) rfl q) ?_
    show OwnFin _ _ _ _ (T3.setTop (mkF m 20 _ [(.int 0), (.ref a0)]))
    obtain ⟨cq5, kq5, q5a, q5b, q5c⟩ := isOf hZ he3 X_a0
    obtain ⟨_, _, ⟨T5, L5, k5, n5⟩, -, X5, ⟨Lc5, hQ5, l5, y5, z5⟩, st5⟩ := X3.virtualBack hx (y := yM11) (z := yM11) hown (mvT hZ (w_ hw 78 rfl)) (mvT hZ (w_ hw 79 rfl)) (notFace_of_selects (args := #[]) (mvT hZ (w_ hw 81 rfl))) (mvT hZ (w_ hw 81 rfl)) (mvT hZ (w_ hw 80 rfl)) (by decide) (backOf (W := 0) (rm_cpa l Z av0 hw [] a0 (0 : Int32) cd0 b0 k_b0 z0 s0 w_COMPACT_STRINGS w_SIOOBE_FORMATTER h0 n0 (Nat.le_trans Z0 kp0.1) Ol0 X_a0 F_coder_a0 F_value_a0 V_b0 (Int32.lt_irrefl : ¬ ((0 : Int32) < (0 : Int32))) hc2 hcd0 hcs S_COMPACT_STRINGS S_SIOOBE_FORMATTER hr_w_SIOOBE_FORMATTER S__assertionsDisabled S_HI_BYTE_SHIFT S_LO_BYTE_SHIFT) hZ (w_ hw 82 rfl) (w_ hw 22 rfl) (by decide) (by decide)) q5a q5c (g := (mkF m 20 #[.val (.ref a0), .val (.ref a1), .val (.int 0), .unset, .unset] [(.int 0), (.ref a0)])) rfl (by rw [hml]; rfl) (Steps.refl _) (argsL := [(.int 0)]) (rest := []) (lenOf pd_10 rfl) rfl (by show 2 * 0 + _ ≤ _; exact Nat.le_of_eq rfl) (hb hby d9_20) (fun _ _ => ⟨rfl, he3, (by decide : 0 + 0 ≤ _), (by decide : 0 + 0 ≤ _)⟩)
    dsimp only [Pt.U, Pt.locs, Pt.cells, Pt.slots] at X5 l5 y5 z5 st5 hQ5
    subst l5 y5 z5
    obtain ⟨rfl, N5q, he5⟩ := hQ5
    have N5 := Fr.app N3 N5q
    refine OwnFin.tr st5 ?_
    show OwnFin _ _ _ _ (T5.setTop (mkF m 23 #[.val (.ref a0), .val (.ref a1), .val (.int 0), .unset, .unset] [(.int (own_cpa cd0 z0 s0 (0 : Int32)))]))
    refine OwnFin.st (fun _ q => XS.istoreN X5.here hx rfl (hb hby d9_23) rfl (l' := #[.val (.ref a0), .val (.ref a1), .val (.int 0), .val (.int (own_cpa cd0 z0 s0 (0 : Int32))), .unset]) rfl q) ?_
    show OwnFin _ _ _ _ (T5.setTop (mkF m 24 _ []))
    refine OwnFin.st (fun _ q => XS.aloadN X5.here hx rfl (hb hby d9_24) rfl rfl q) ?_
    show OwnFin _ _ _ _ (T5.setTop (mkF m 25 _ [(.ref a1)]))
    refine OwnFin.st (fun _ q => XS.iloadN X5.here hx rfl (hb hby d9_25) rfl q) ?_
    show OwnFin _ _ _ _ (T5.setTop (mkF m 26 _ [(.int 0), (.ref a1)]))
    obtain ⟨cq6, kq6, q6a, q6b, q6c⟩ := isOf hZ he5 X_a1
    obtain ⟨_, _, ⟨T6, L6, k6, n6⟩, -, X6, ⟨Lc6, hQ6, l6, y6, z6⟩, st6⟩ := X5.virtualBack hx (y := yM11) (z := yM11) hown (mvT hZ (w_ hw 78 rfl)) (mvT hZ (w_ hw 79 rfl)) (notFace_of_selects (args := #[]) (mvT hZ (w_ hw 81 rfl))) (mvT hZ (w_ hw 81 rfl)) (mvT hZ (w_ hw 80 rfl)) (by decide) (backOf (W := 0) (rm_cpa l Z av0 hw [] a1 (0 : Int32) cd1 b1 k_b1 z1 s1 w_COMPACT_STRINGS w_SIOOBE_FORMATTER h0 n0 (Nat.le_trans Z0 kp0.1) Ol0 X_a1 F_coder_a1 F_value_a1 V_b1 (Int32.lt_irrefl : ¬ ((0 : Int32) < (0 : Int32))) hc4 hcd1 hcs S_COMPACT_STRINGS S_SIOOBE_FORMATTER hr_w_SIOOBE_FORMATTER S__assertionsDisabled S_HI_BYTE_SHIFT S_LO_BYTE_SHIFT) hZ (w_ hw 82 rfl) (w_ hw 22 rfl) (by decide) (by decide)) q6a q6c (g := (mkF m 26 #[.val (.ref a0), .val (.ref a1), .val (.int 0), .val (.int (own_cpa cd0 z0 s0 (0 : Int32))), .unset] [(.int 0), (.ref a1)])) rfl (by rw [hml]; rfl) (Steps.refl _) (argsL := [(.int 0)]) (rest := []) (lenOf pd_10 rfl) rfl (by show 2 * 0 + _ ≤ _; exact Nat.le_of_eq rfl) (hb hby d9_26) (fun _ _ => ⟨rfl, he5, (by decide : 0 + 0 ≤ _), (by decide : 0 + 0 ≤ _)⟩)
    dsimp only [Pt.U, Pt.locs, Pt.cells, Pt.slots] at X6 l6 y6 z6 st6 hQ6
    subst l6 y6 z6
    obtain ⟨rfl, N6q, he6⟩ := hQ6
    have N6 := Fr.app N5 N6q
    refine OwnFin.tr st6 ?_
    show OwnFin _ _ _ _ (T6.setTop (mkF m 29 _ [(.int (own_cpa cd1 z1 s1 (0 : Int32)))]))
    refine OwnFin.st (fun _ q => XS.istore X6.here hx rfl (hb hby d9_29) rfl (l' := #[.val (.ref a0), .val (.ref a1), .val (.int 0), .val (.int (own_cpa cd0 z0 s0 (0 : Int32))), .val (.int (own_cpa cd1 z1 s1 (0 : Int32)))]) rfl q) ?_
    show OwnFin _ _ _ _ (T6.setTop (mkF m 31 _ []))
    refine OwnFin.st (fun _ q => XS.iloadN X6.here hx rfl (hb hby d9_31) rfl q) ?_
    show OwnFin _ _ _ _ (T6.setTop (mkF m 32 _ [(.int (own_cpa cd0 z0 s0 (0 : Int32)))]))
    refine OwnFin.st (fun _ q => XS.iload X6.here hx rfl (hb hby d9_32) rfl q) ?_
    show OwnFin _ _ _ _ (T6.setTop (mkF m 34 _ [(.int (own_cpa cd1 z1 s1 (0 : Int32))), (.int (own_cpa cd0 z0 s0 (0 : Int32)))]))
    by_cases hc7 : (own_cpa cd0 z0 s0 (0 : Int32)) = (own_cpa cd1 z1 s1 (0 : Int32))
    ·
     refine OwnFin.st (fun _ q => XS.icmpYes X6.here hx rfl (pc0 := 34) (pc' := 44) rfl (hb hby d9_34) rfl (Jvm.Free.XT.ii_eq_t hc7) (by decide) (by decide) q) ?_
     show OwnFin _ _ _ _ (T6.setTop (mkF m 44 _ []))
     refine OwnFin.st (fun _ q => XS.iloadN X6.here hx rfl (hb hby d9_44) rfl q) ?_
     show OwnFin _ _ _ _ (T6.setTop (mkF m 45 _ [(.int 0)]))
     refine OwnFin.st (fun _ q => XS.iloadN X6.here hx rfl (hb hby d9_45) rfl q) ?_
     show OwnFin _ _ _ _ (T6.setTop (mkF m 46 _ [(.int (own_cpa cd0 z0 s0 (0 : Int32))), (.int 0)]))
     obtain ⟨_, _, ⟨T8, L8, k8, n8⟩, -, X8, ⟨Lc8, hQ8, l8, y8, z8⟩, st8⟩ := Jvm.LawKit.callS X6 hx (y := yM13) hown (mvT hZ (w_ hw 96 rfl)) (mvT hZ (w_ hw 97 rfl)) (mvT hZ (w_ hw 98 rfl)) (mvT hZ (w_ hw 99 rfl)) (by decide) (backOf (W := 1) (rm_cc l Z av0 hw [] (own_cpa cd0 z0 s0 (0 : Int32)) h0 n0 (Nat.le_trans Z0 kp0.1) ) hZ (w_ hw 99 rfl) (w_ hw 98 rfl) (by decide) (by decide)) (g := (mkF m 46 #[.val (.ref a0), .val (.ref a1), .val (.int 0), .val (.int (own_cpa cd0 z0 s0 (0 : Int32))), .val (.int (own_cpa cd1 z1 s1 (0 : Int32)))] [(.int (own_cpa cd0 z0 s0 (0 : Int32))), (.int 0)])) rfl (by rw [hml]; rfl) (argsL := [(.int (own_cpa cd0 z0 s0 (0 : Int32)))]) (rest := [(.int 0)]) (lenOf pd_10 rfl) rfl (by show 2 * 0 + _ ≤ _; exact Nat.le_of_eq rfl) (hb hby d9_46) (fun _ _ => ⟨rfl, he6, (by decide : 0 + 0 ≤ _), (by decide : 0 + 0 ≤ _)⟩)
     dsimp only [Pt.U, Pt.locs, Pt.cells, Pt.slots] at X8 l8 y8 z8 st8 hQ8
     subst l8 y8 z8
     obtain ⟨rfl, N8q, he8⟩ := hQ8
     have N8 := Fr.app N6 N8q
     refine OwnFin.st st8 ?_
     show OwnFin _ _ _ _ (T8.setTop (mkF m 49 _ [(.int (own_cc (own_cpa cd0 z0 s0 (0 : Int32)))), (.int 0)]))
     refine OwnFin.st (fun _ q => XS.iadd X8.here hx rfl (hb hby d9_49) rfl q) ?_
     show OwnFin _ _ _ _ (T8.setTop (mkF m 50 _ [(.int ((0 : Int32) + (own_cc (own_cpa cd0 z0 s0 (0 : Int32)))))]))
     refine OwnFin.st (fun _ q => XS.istoreN X8.here hx rfl (hb hby d9_50) rfl (l' := #[.val (.ref a0), .val (.ref a1), .val (.int ((0 : Int32) + (own_cc (own_cpa cd0 z0 s0 (0 : Int32))))), .val (.int (own_cpa cd0 z0 s0 (0 : Int32))), .val (.int (own_cpa cd1 z1 s1 (0 : Int32)))]) rfl q) ?_
     show OwnFin _ _ _ _ (T8.setTop (mkF m 51 #[.val (.ref a0), .val (.ref a1), .val (.int ((0 : Int32) + (own_cc (own_cpa cd0 z0 s0 (0 : Int32))))), .val (.int (own_cpa cd0 z0 s0 (0 : Int32))), .val (.int (own_cpa cd1 z1 s1 (0 : Int32)))] []))
     refine OwnFin.st (fun _ q => XS.goto X8.here hx rfl (pc0 := 51) (pc' := 2) rfl (hb hby d9_51) (by decide) (by decide) q) ?_
     show OwnFin _ _ _ _ (T8.setTop (mkF m 2 _ []))
     refine OwnFin.st (fun _ q => XS.iloadN X8.here hx rfl (hb hby d9_2) rfl q) ?_
     show OwnFin _ _ _ _ (T8.setTop (mkF m 3 _ [(.int ((0 : Int32) + (own_cc (own_cpa cd0 z0 s0 (0 : Int32)))))]))
     refine OwnFin.st (fun _ q => XS.aloadN X8.here hx rfl (hb hby d9_3) rfl rfl q) ?_
     show OwnFin _ _ _ _ (T8.setTop (mkF m 4 _ [(.ref a0), (.int ((0 : Int32) + (own_cc (own_cpa cd0 z0 s0 (0 : Int32)))))]))
     obtain ⟨cq9, kq9, q9a, q9b, q9c⟩ := isOf hZ he8 X_a0
     obtain ⟨_, _, ⟨T9, L9, k9, n9⟩, -, X9, ⟨Lc9, hQ9, l9, y9, z9⟩, st9⟩ := X8.virtualBack hx (y := yM8) (z := yM8) hown (mvT hZ (w_ hw 45 rfl)) (mvT hZ (w_ hw 46 rfl)) (notFace_of_selects (args := #[]) (mvT hZ (w_ hw 48 rfl))) (mvT hZ (w_ hw 48 rfl)) (mvT hZ (w_ hw 47 rfl)) (by decide) (backOf (W := 1) (rm_len l Z av0 hw [] a0 cd0 b0 k_b0 z0 s0 w_COMPACT_STRINGS h0 n0 (Nat.le_trans Z0 kp0.1) Ol0 X_a0 F_coder_a0 F_value_a0 V_b0 hcd0 S_COMPACT_STRINGS hcs) hZ (w_ hw 49 rfl) (w_ hw 22 rfl) (by decide) (by decide)) q9a q9c (g := (mkF m 4 #[.val (.ref a0), .val (.ref a1), .val (.int ((0 : Int32) + (own_cc (own_cpa cd0 z0 s0 (0 : Int32))))), .val (.int (own_cpa cd0 z0 s0 (0 : Int32))), .val (.int (own_cpa cd1 z1 s1 (0 : Int32)))] [(.ref a0), (.int ((0 : Int32) + (own_cc (own_cpa cd0 z0 s0 (0 : Int32)))))])) rfl (by rw [hml]; rfl) (Steps.refl _) (argsL := []) (rest := [(.int ((0 : Int32) + (own_cc (own_cpa cd0 z0 s0 (0 : Int32)))))]) (lenOf pd_9 rfl) rfl (by show 2 * 0 + _ ≤ _; exact Nat.le_of_eq rfl) (hb hby d9_4) (fun _ _ => ⟨rfl, he8, (by decide : 0 + 0 ≤ _), (by decide : 0 + 0 ≤ _)⟩)
     dsimp only [Pt.U, Pt.locs, Pt.cells, Pt.slots] at X9 l9 y9 z9 st9 hQ9
     subst l9 y9 z9
     obtain ⟨rfl, N9q, he9⟩ := hQ9
     have N9 := Fr.app N8 N9q
     refine OwnFin.tr st9 ?_
     show OwnFin _ _ _ _ (T9.setTop (mkF m 7 _ [(.int (z0 >>> (cd0 &&& 31))), (.int ((0 : Int32) + (own_cc (own_cpa cd0 z0 s0 (0 : Int32)))))]))
     by_cases hc10 : ((0 : Int32) + (own_cc (own_cpa cd0 z0 s0 (0 : Int32)))) < (z0 >>> (cd0 &&& 31))
     ·
      refine OwnFin.st (fun _ q => XS.icmpNo X9.here hx rfl (hb hby d9_7) rfl (Jvm.Free.XT.ii_ge_f hc10) q) ?_
      show OwnFin _ _ _ _ (T9.setTop (mkF m 10 _ []))
      refine OwnFin.st (fun _ q => XS.iloadN X9.here hx rfl (hb hby d9_10) rfl q) ?_
      show OwnFin _ _ _ _ (T9.setTop (mkF m 11 _ [(.int ((0 : Int32) + (own_cc (own_cpa cd0 z0 s0 (0 : Int32)))))]))
      refine OwnFin.st (fun _ q => XS.aloadN X9.here hx rfl (hb hby d9_11) rfl rfl q) ?_
      show OwnFin _ _ _ _ (T9.setTop (mkF m 12 _ [(.ref a1), (.int ((0 : Int32) + (own_cc (own_cpa cd0 z0 s0 (0 : Int32)))))]))
      obtain ⟨cq11, kq11, q11a, q11b, q11c⟩ := isOf hZ he9 X_a1
      obtain ⟨_, _, ⟨T11, L11, k11, n11⟩, -, X11, ⟨Lc11, hQ11, l11, y11, z11⟩, st11⟩ := X9.virtualBack hx (y := yM8) (z := yM8) hown (mvT hZ (w_ hw 45 rfl)) (mvT hZ (w_ hw 46 rfl)) (notFace_of_selects (args := #[]) (mvT hZ (w_ hw 48 rfl))) (mvT hZ (w_ hw 48 rfl)) (mvT hZ (w_ hw 47 rfl)) (by decide) (backOf (W := 1) (rm_len l Z av0 hw [] a1 cd1 b1 k_b1 z1 s1 w_COMPACT_STRINGS h0 n0 (Nat.le_trans Z0 kp0.1) Ol0 X_a1 F_coder_a1 F_value_a1 V_b1 hcd1 S_COMPACT_STRINGS hcs) hZ (w_ hw 49 rfl) (w_ hw 22 rfl) (by decide) (by decide)) q11a q11c (g := (mkF m 12 #[.val (.ref a0), .val (.ref a1), .val (.int ((0 : Int32) + (own_cc (own_cpa cd0 z0 s0 (0 : Int32))))), .val (.int (own_cpa cd0 z0 s0 (0 : Int32))), .val (.int (own_cpa cd1 z1 s1 (0 : Int32)))] [(.ref a1), (.int ((0 : Int32) + (own_cc (own_cpa cd0 z0 s0 (0 : Int32)))))])) rfl (by rw [hml]; rfl) (Steps.refl _) (argsL := []) (rest := [(.int ((0 : Int32) + (own_cc (own_cpa cd0 z0 s0 (0 : Int32)))))]) (lenOf pd_9 rfl) rfl (by show 2 * 0 + _ ≤ _; exact Nat.le_of_eq rfl) (hb hby d9_12) (fun _ _ => ⟨rfl, he9, (by decide : 0 + 0 ≤ _), (by decide : 0 + 0 ≤ _)⟩)
      dsimp only [Pt.U, Pt.locs, Pt.cells, Pt.slots] at X11 l11 y11 z11 st11 hQ11
      subst l11 y11 z11
      obtain ⟨rfl, N11q, he11⟩ := hQ11
      have N11 := Fr.app N9 N11q
      refine OwnFin.tr st11 ?_
      show OwnFin _ _ _ _ (T11.setTop (mkF m 15 _ [(.int (z1 >>> (cd1 &&& 31))), (.int ((0 : Int32) + (own_cc (own_cpa cd0 z0 s0 (0 : Int32)))))]))
      by_cases hc12 : ((0 : Int32) + (own_cc (own_cpa cd0 z0 s0 (0 : Int32)))) < (z1 >>> (cd1 &&& 31))
      ·
       refine OwnFin.st (fun _ q => XS.icmpNo X11.here hx rfl (hb hby d9_15) rfl (Jvm.Free.XT.ii_ge_f hc12) q) ?_
       show OwnFin _ _ _ _ (T11.setTop (mkF m 18 _ []))
       refine OwnFin.st (fun _ q => XS.aloadN X11.here hx rfl (hb hby d9_18) rfl rfl q) ?_
       show OwnFin _ _ _ _ (T11.setTop (mkF m 19 _ [(.ref a0)]))
       refine OwnFin.st (fun _ q => XS.iloadN X11.here hx rfl (hb hby d9_19) rfl q) ?_
       show OwnFin _ _ _ _ (T11.setTop (mkF m 20 _ [(.int ((0 : Int32) + (own_cc (own_cpa cd0 z0 s0 (0 : Int32))))), (.ref a0)]))
       obtain ⟨cq13, kq13, q13a, q13b, q13c⟩ := isOf hZ he11 X_a0
       obtain ⟨_, _, ⟨T13, L13, k13, n13⟩, -, X13, ⟨Lc13, hQ13, l13, y13, z13⟩, st13⟩ := X11.virtualBack hx (y := yM11) (z := yM11) hown (mvT hZ (w_ hw 78 rfl)) (mvT hZ (w_ hw 79 rfl)) (notFace_of_selects (args := #[]) (mvT hZ (w_ hw 81 rfl))) (mvT hZ (w_ hw 81 rfl)) (mvT hZ (w_ hw 80 rfl)) (by decide) (backOf (W := 0) (rm_cpa l Z av0 hw [] a0 ((0 : Int32) + (own_cc (own_cpa cd0 z0 s0 (0 : Int32)))) cd0 b0 k_b0 z0 s0 w_COMPACT_STRINGS w_SIOOBE_FORMATTER h0 n0 (Nat.le_trans Z0 kp0.1) Ol0 X_a0 F_coder_a0 F_value_a0 V_b0 (om_rm_cmp_0 z0 cd0 s0 hc2) hc10 hcd0 hcs S_COMPACT_STRINGS S_SIOOBE_FORMATTER hr_w_SIOOBE_FORMATTER S__assertionsDisabled S_HI_BYTE_SHIFT S_LO_BYTE_SHIFT) hZ (w_ hw 82 rfl) (w_ hw 22 rfl) (by decide) (by decide)) q13a q13c (g := (mkF m 20 #[.val (.ref a0), .val (.ref a1), .val (.int ((0 : Int32) + (own_cc (own_cpa cd0 z0 s0 (0 : Int32))))), .val (.int (own_cpa cd0 z0 s0 (0 : Int32))), .val (.int (own_cpa cd1 z1 s1 (0 : Int32)))] [(.int ((0 : Int32) + (own_cc (own_cpa cd0 z0 s0 (0 : Int32))))), (.ref a0)])) rfl (by rw [hml]; rfl) (Steps.refl _) (argsL := [(.int ((0 : Int32) + (own_cc (own_cpa cd0 z0 s0 (0 : Int32)))))]) (rest := []) (lenOf pd_10 rfl) rfl (by show 2 * 0 + _ ≤ _; exact Nat.le_of_eq rfl) (hb hby d9_20) (fun _ _ => ⟨rfl, he11, (by decide : 0 + 0 ≤ _), (by decide : 0 + 0 ≤ _)⟩)
       dsimp only [Pt.U, Pt.locs, Pt.cells, Pt.slots] at X13 l13 y13 z13 st13 hQ13
       subst l13 y13 z13
       obtain ⟨rfl, N13q, he13⟩ := hQ13
       have N13 := Fr.app N11 N13q
       refine OwnFin.tr st13 ?_
       show OwnFin _ _ _ _ (T13.setTop (mkF m 23 _ [(.int (own_cpa cd0 z0 s0 ((0 : Int32) + (own_cc (own_cpa cd0 z0 s0 (0 : Int32))))))]))
       refine OwnFin.st (fun _ q => XS.istoreN X13.here hx rfl (hb hby d9_23) rfl (l' := #[.val (.ref a0), .val (.ref a1), .val (.int ((0 : Int32) + (own_cc (own_cpa cd0 z0 s0 (0 : Int32))))), .val (.int (own_cpa cd0 z0 s0 ((0 : Int32) + (own_cc (own_cpa cd0 z0 s0 (0 : Int32)))))), .val (.int (own_cpa cd1 z1 s1 (0 : Int32)))]) rfl q) ?_
       show OwnFin _ _ _ _ (T13.setTop (mkF m 24 #[.val (.ref a0), .val (.ref a1), .val (.int ((0 : Int32) + (own_cc (own_cpa cd0 z0 s0 (0 : Int32))))), .val (.int (own_cpa cd0 z0 s0 ((0 : Int32) + (own_cc (own_cpa cd0 z0 s0 (0 : Int32)))))), .val (.int (own_cpa cd1 z1 s1 (0 : Int32)))] []))
       refine OwnFin.st (fun _ q => XS.aloadN X13.here hx rfl (hb hby d9_24) rfl rfl q) ?_
       show OwnFin _ _ _ _ (T13.setTop (mkF m 25 _ [(.ref a1)]))
       refine OwnFin.st (fun _ q => XS.iloadN X13.here hx rfl (hb hby d9_25) rfl q) ?_
       show OwnFin _ _ _ _ (T13.setTop (mkF m 26 _ [(.int ((0 : Int32) + (own_cc (own_cpa cd0 z0 s0 (0 : Int32))))), (.ref a1)]))
       obtain ⟨cq14, kq14, q14a, q14b, q14c⟩ := isOf hZ he13 X_a1
       obtain ⟨_, _, ⟨T14, L14, k14, n14⟩, -, X14, ⟨Lc14, hQ14, l14, y14, z14⟩, st14⟩ := X13.virtualBack hx (y := yM11) (z := yM11) hown (mvT hZ (w_ hw 78 rfl)) (mvT hZ (w_ hw 79 rfl)) (notFace_of_selects (args := #[]) (mvT hZ (w_ hw 81 rfl))) (mvT hZ (w_ hw 81 rfl)) (mvT hZ (w_ hw 80 rfl)) (by decide) (backOf (W := 0) (rm_cpa l Z av0 hw [] a1 ((0 : Int32) + (own_cc (own_cpa cd0 z0 s0 (0 : Int32)))) cd1 b1 k_b1 z1 s1 w_COMPACT_STRINGS w_SIOOBE_FORMATTER h0 n0 (Nat.le_trans Z0 kp0.1) Ol0 X_a1 F_coder_a1 F_value_a1 V_b1 (om_rm_cmp_0 z0 cd0 s0 hc2) hc12 hcd1 hcs S_COMPACT_STRINGS S_SIOOBE_FORMATTER hr_w_SIOOBE_FORMATTER S__assertionsDisabled S_HI_BYTE_SHIFT S_LO_BYTE_SHIFT) hZ (w_ hw 82 rfl) (w_ hw 22 rfl) (by decide) (by decide)) q14a q14c (g := (mkF m 26 #[.val (.ref a0), .val (.ref a1), .val (.int ((0 : Int32) + (own_cc (own_cpa cd0 z0 s0 (0 : Int32))))), .val (.int (own_cpa cd0 z0 s0 ((0 : Int32) + (own_cc (own_cpa cd0 z0 s0 (0 : Int32)))))), .val (.int (own_cpa cd1 z1 s1 (0 : Int32)))] [(.int ((0 : Int32) + (own_cc (own_cpa cd0 z0 s0 (0 : Int32))))), (.ref a1)])) rfl (by rw [hml]; rfl) (Steps.refl _) (argsL := [(.int ((0 : Int32) + (own_cc (own_cpa cd0 z0 s0 (0 : Int32)))))]) (rest := []) (lenOf pd_10 rfl) rfl (by show 2 * 0 + _ ≤ _; exact Nat.le_of_eq rfl) (hb hby d9_26) (fun _ _ => ⟨rfl, he13, (by decide : 0 + 0 ≤ _), (by decide : 0 + 0 ≤ _)⟩)
       dsimp only [Pt.U, Pt.locs, Pt.cells, Pt.slots] at X14 l14 y14 z14 st14 hQ14
       subst l14 y14 z14
       obtain ⟨rfl, N14q, he14⟩ := hQ14
       have N14 := Fr.app N13 N14q
       refine OwnFin.tr st14 ?_
       show OwnFin _ _ _ _ (T14.setTop (mkF m 29 _ [(.int (own_cpa cd1 z1 s1 ((0 : Int32) + (own_cc (own_cpa cd0 z0 s0 (0 : Int32))))))]))
       refine OwnFin.st (fun _ q => XS.istore X14.here hx rfl (hb hby d9_29) rfl (l' := #[.val (.ref a0), .val (.ref a1), .val (.int ((0 : Int32) + (own_cc (own_cpa cd0 z0 s0 (0 : Int32))))), .val (.int (own_cpa cd0 z0 s0 ((0 : Int32) + (own_cc (own_cpa cd0 z0 s0 (0 : Int32)))))), .val (.int (own_cpa cd1 z1 s1 ((0 : Int32) + (own_cc (own_cpa cd0 z0 s0 (0 : Int32))))))]) rfl q) ?_
       show OwnFin _ _ _ _ (T14.setTop (mkF m 31 _ []))
       refine OwnFin.st (fun _ q => XS.iloadN X14.here hx rfl (hb hby d9_31) rfl q) ?_
       show OwnFin _ _ _ _ (T14.setTop (mkF m 32 _ [(.int (own_cpa cd0 z0 s0 ((0 : Int32) + (own_cc (own_cpa cd0 z0 s0 (0 : Int32))))))]))
       refine OwnFin.st (fun _ q => XS.iload X14.here hx rfl (hb hby d9_32) rfl q) ?_
       show OwnFin _ _ _ _ (T14.setTop (mkF m 34 _ [(.int (own_cpa cd1 z1 s1 ((0 : Int32) + (own_cc (own_cpa cd0 z0 s0 (0 : Int32)))))), (.int (own_cpa cd0 z0 s0 ((0 : Int32) + (own_cc (own_cpa cd0 z0 s0 (0 : Int32))))))]))
       by_cases hc15 : (own_cpa cd0 z0 s0 ((0 : Int32) + (own_cc (own_cpa cd0 z0 s0 (0 : Int32))))) = (own_cpa cd1 z1 s1 ((0 : Int32) + (own_cc (own_cpa cd0 z0 s0 (0 : Int32)))))
       ·
        refine OwnFin.st (fun _ q => XS.icmpYes X14.here hx rfl (pc0 := 34) (pc' := 44) rfl (hb hby d9_34) rfl (Jvm.Free.XT.ii_eq_t hc15) (by decide) (by decide) q) ?_
        show OwnFin _ _ _ _ (T14.setTop (mkF m 44 _ []))
        refine OwnFin.st (fun _ q => XS.iloadN X14.here hx rfl (hb hby d9_44) rfl q) ?_
        show OwnFin _ _ _ _ (T14.setTop (mkF m 45 _ [(.int ((0 : Int32) + (own_cc (own_cpa cd0 z0 s0 (0 : Int32)))))]))
        refine OwnFin.st (fun _ q => XS.iloadN X14.here hx rfl (hb hby d9_45) rfl q) ?_
        show OwnFin _ _ _ _ (T14.setTop (mkF m 46 _ [(.int (own_cpa cd0 z0 s0 ((0 : Int32) + (own_cc (own_cpa cd0 z0 s0 (0 : Int32)))))), (.int ((0 : Int32) + (own_cc (own_cpa cd0 z0 s0 (0 : Int32)))))]))
        obtain ⟨_, _, ⟨T16, L16, k16, n16⟩, -, X16, ⟨Lc16, hQ16, l16, y16, z16⟩, st16⟩ := Jvm.LawKit.callS X14 hx (y := yM13) hown (mvT hZ (w_ hw 96 rfl)) (mvT hZ (w_ hw 97 rfl)) (mvT hZ (w_ hw 98 rfl)) (mvT hZ (w_ hw 99 rfl)) (by decide) (backOf (W := 1) (rm_cc l Z av0 hw [] (own_cpa cd0 z0 s0 ((0 : Int32) + (own_cc (own_cpa cd0 z0 s0 (0 : Int32))))) h0 n0 (Nat.le_trans Z0 kp0.1) ) hZ (w_ hw 99 rfl) (w_ hw 98 rfl) (by decide) (by decide)) (g := (mkF m 46 #[.val (.ref a0), .val (.ref a1), .val (.int ((0 : Int32) + (own_cc (own_cpa cd0 z0 s0 (0 : Int32))))), .val (.int (own_cpa cd0 z0 s0 ((0 : Int32) + (own_cc (own_cpa cd0 z0 s0 (0 : Int32)))))), .val (.int (own_cpa cd1 z1 s1 ((0 : Int32) + (own_cc (own_cpa cd0 z0 s0 (0 : Int32))))))] [(.int (own_cpa cd0 z0 s0 ((0 : Int32) + (own_cc (own_cpa cd0 z0 s0 (0 : Int32)))))), (.int ((0 : Int32) + (own_cc (own_cpa cd0 z0 s0 (0 : Int32)))))])) rfl (by rw [hml]; rfl) (argsL := [(.int (own_cpa cd0 z0 s0 ((0 : Int32) + (own_cc (own_cpa cd0 z0 s0 (0 : Int32))))))]) (rest := [(.int ((0 : Int32) + (own_cc (own_cpa cd0 z0 s0 (0 : Int32)))))]) (lenOf pd_10 rfl) rfl (by show 2 * 0 + _ ≤ _; exact Nat.le_of_eq rfl) (hb hby d9_46) (fun _ _ => ⟨rfl, he14, (by decide : 0 + 0 ≤ _), (by decide : 0 + 0 ≤ _)⟩)
        dsimp only [Pt.U, Pt.locs, Pt.cells, Pt.slots] at X16 l16 y16 z16 st16 hQ16
        subst l16 y16 z16
        obtain ⟨rfl, N16q, he16⟩ := hQ16
        have N16 := Fr.app N14 N16q
        refine OwnFin.st st16 ?_
        show OwnFin _ _ _ _ (T16.setTop (mkF m 49 _ [(.int (own_cc (own_cpa cd0 z0 s0 ((0 : Int32) + (own_cc (own_cpa cd0 z0 s0 (0 : Int32))))))), (.int ((0 : Int32) + (own_cc (own_cpa cd0 z0 s0 (0 : Int32)))))]))
        refine OwnFin.st (fun _ q => XS.iadd X16.here hx rfl (hb hby d9_49) rfl q) ?_
        show OwnFin _ _ _ _ (T16.setTop (mkF m 50 _ [(.int (((0 : Int32) + (own_cc (own_cpa cd0 z0 s0 (0 : Int32)))) + (own_cc (own_cpa cd0 z0 s0 ((0 : Int32) + (own_cc (own_cpa cd0 z0 s0 (0 : Int32))))))))]))
        refine OwnFin.st (fun _ q => XS.istoreN X16.here hx rfl (hb hby d9_50) rfl (l' := #[.val (.ref a0), .val (.ref a1), .val (.int (((0 : Int32) + (own_cc (own_cpa cd0 z0 s0 (0 : Int32)))) + (own_cc (own_cpa cd0 z0 s0 ((0 : Int32) + (own_cc (own_cpa cd0 z0 s0 (0 : Int32)))))))), .val (.int (own_cpa cd0 z0 s0 ((0 : Int32) + (own_cc (own_cpa cd0 z0 s0 (0 : Int32)))))), .val (.int (own_cpa cd1 z1 s1 ((0 : Int32) + (own_cc (own_cpa cd0 z0 s0 (0 : Int32))))))]) rfl q) ?_
        show OwnFin _ _ _ _ (T16.setTop (mkF m 51 _ []))
        refine OwnFin.st (fun _ q => XS.goto X16.here hx rfl (pc0 := 51) (pc' := 2) rfl (hb hby d9_51) (by decide) (by decide) q) ?_
        show OwnFin _ _ _ _ (T16.setTop (mkF m 2 #[.val (.ref a0), .val (.ref a1), .val (.int (((0 : Int32) + (own_cc (own_cpa cd0 z0 s0 (0 : Int32)))) + (own_cc (own_cpa cd0 z0 s0 ((0 : Int32) + (own_cc (own_cpa cd0 z0 s0 (0 : Int32)))))))), .val (.int (own_cpa cd0 z0 s0 ((0 : Int32) + (own_cc (own_cpa cd0 z0 s0 (0 : Int32)))))), .val (.int (own_cpa cd1 z1 s1 ((0 : Int32) + (own_cc (own_cpa cd0 z0 s0 (0 : Int32))))))] []))
        refine OwnFin.st (fun _ q => XS.iloadN X16.here hx rfl (hb hby d9_2) rfl q) ?_
        show OwnFin _ _ _ _ (T16.setTop (mkF m 3 _ [(.int (((0 : Int32) + (own_cc (own_cpa cd0 z0 s0 (0 : Int32)))) + (own_cc (own_cpa cd0 z0 s0 ((0 : Int32) + (own_cc (own_cpa cd0 z0 s0 (0 : Int32))))))))]))
        refine OwnFin.st (fun _ q => XS.aloadN X16.here hx rfl (hb hby d9_3) rfl rfl q) ?_
        show OwnFin _ _ _ _ (T16.setTop (mkF m 4 _ [(.ref a0), (.int (((0 : Int32) + (own_cc (own_cpa cd0 z0 s0 (0 : Int32)))) + (own_cc (own_cpa cd0 z0 s0 ((0 : Int32) + (own_cc (own_cpa cd0 z0 s0 (0 : Int32))))))))]))
        obtain ⟨cq17, kq17, q17a, q17b, q17c⟩ := isOf hZ he16 X_a0
        obtain ⟨_, _, ⟨T17, L17, k17, n17⟩, -, X17, ⟨Lc17, hQ17, l17, y17, z17⟩, st17⟩ := X16.virtualBack hx (y := yM8) (z := yM8) hown (mvT hZ (w_ hw 45 rfl)) (mvT hZ (w_ hw 46 rfl)) (notFace_of_selects (args := #[]) (mvT hZ (w_ hw 48 rfl))) (mvT hZ (w_ hw 48 rfl)) (mvT hZ (w_ hw 47 rfl)) (by decide) (backOf (W := 1) (rm_len l Z av0 hw [] a0 cd0 b0 k_b0 z0 s0 w_COMPACT_STRINGS h0 n0 (Nat.le_trans Z0 kp0.1) Ol0 X_a0 F_coder_a0 F_value_a0 V_b0 hcd0 S_COMPACT_STRINGS hcs) hZ (w_ hw 49 rfl) (w_ hw 22 rfl) (by decide) (by decide)) q17a q17c (g := (mkF m 4 #[.val (.ref a0), .val (.ref a1), .val (.int (((0 : Int32) + (own_cc (own_cpa cd0 z0 s0 (0 : Int32)))) + (own_cc (own_cpa cd0 z0 s0 ((0 : Int32) + (own_cc (own_cpa cd0 z0 s0 (0 : Int32)))))))), .val (.int (own_cpa cd0 z0 s0 ((0 : Int32) + (own_cc (own_cpa cd0 z0 s0 (0 : Int32)))))), .val (.int (own_cpa cd1 z1 s1 ((0 : Int32) + (own_cc (own_cpa cd0 z0 s0 (0 : Int32))))))] [(.ref a0), (.int (((0 : Int32) + (own_cc (own_cpa cd0 z0 s0 (0 : Int32)))) + (own_cc (own_cpa cd0 z0 s0 ((0 : Int32) + (own_cc (own_cpa cd0 z0 s0 (0 : Int32))))))))])) rfl (by rw [hml]; rfl) (Steps.refl _) (argsL := []) (rest := [(.int (((0 : Int32) + (own_cc (own_cpa cd0 z0 s0 (0 : Int32)))) + (own_cc (own_cpa cd0 z0 s0 ((0 : Int32) + (own_cc (own_cpa cd0 z0 s0 (0 : Int32))))))))]) (lenOf pd_9 rfl) rfl (by show 2 * 0 + _ ≤ _; exact Nat.le_of_eq rfl) (hb hby d9_4) (fun _ _ => ⟨rfl, he16, (by decide : 0 + 0 ≤ _), (by decide : 0 + 0 ≤ _)⟩)
        dsimp only [Pt.U, Pt.locs, Pt.cells, Pt.slots] at X17 l17 y17 z17 st17 hQ17
        subst l17 y17 z17
        obtain ⟨rfl, N17q, he17⟩ := hQ17
        have N17 := Fr.app N16 N17q
        refine OwnFin.tr st17 ?_
        show OwnFin _ _ _ _ (T17.setTop (mkF m 7 _ [(.int (z0 >>> (cd0 &&& 31))), (.int (((0 : Int32) + (own_cc (own_cpa cd0 z0 s0 (0 : Int32)))) + (own_cc (own_cpa cd0 z0 s0 ((0 : Int32) + (own_cc (own_cpa cd0 z0 s0 (0 : Int32))))))))]))
        by_cases hc18 : (((0 : Int32) + (own_cc (own_cpa cd0 z0 s0 (0 : Int32)))) + (own_cc (own_cpa cd0 z0 s0 ((0 : Int32) + (own_cc (own_cpa cd0 z0 s0 (0 : Int32))))))) < (z0 >>> (cd0 &&& 31))
        ·
         refine OwnFin.st (fun _ q => XS.icmpNo X17.here hx rfl (hb hby d9_7) rfl (Jvm.Free.XT.ii_ge_f hc18) q) ?_
         show OwnFin _ _ _ _ (T17.setTop (mkF m 10 _ []))
         refine OwnFin.st (fun _ q => XS.iloadN X17.here hx rfl (hb hby d9_10) rfl q) ?_
         show OwnFin _ _ _ _ (T17.setTop (mkF m 11 _ [(.int (((0 : Int32) + (own_cc (own_cpa cd0 z0 s0 (0 : Int32)))) + (own_cc (own_cpa cd0 z0 s0 ((0 : Int32) + (own_cc (own_cpa cd0 z0 s0 (0 : Int32))))))))]))
         refine OwnFin.st (fun _ q => XS.aloadN X17.here hx rfl (hb hby d9_11) rfl rfl q) ?_
         show OwnFin _ _ _ _ (T17.setTop (mkF m 12 _ [(.ref a1), (.int (((0 : Int32) + (own_cc (own_cpa cd0 z0 s0 (0 : Int32)))) + (own_cc (own_cpa cd0 z0 s0 ((0 : Int32) + (own_cc (own_cpa cd0 z0 s0 (0 : Int32))))))))]))
         obtain ⟨cq19, kq19, q19a, q19b, q19c⟩ := isOf hZ he17 X_a1
         obtain ⟨_, _, ⟨T19, L19, k19, n19⟩, -, X19, ⟨Lc19, hQ19, l19, y19, z19⟩, st19⟩ := X17.virtualBack hx (y := yM8) (z := yM8) hown (mvT hZ (w_ hw 45 rfl)) (mvT hZ (w_ hw 46 rfl)) (notFace_of_selects (args := #[]) (mvT hZ (w_ hw 48 rfl))) (mvT hZ (w_ hw 48 rfl)) (mvT hZ (w_ hw 47 rfl)) (by decide) (backOf (W := 1) (rm_len l Z av0 hw [] a1 cd1 b1 k_b1 z1 s1 w_COMPACT_STRINGS h0 n0 (Nat.le_trans Z0 kp0.1) Ol0 X_a1 F_coder_a1 F_value_a1 V_b1 hcd1 S_COMPACT_STRINGS hcs) hZ (w_ hw 49 rfl) (w_ hw 22 rfl) (by decide) (by decide)) q19a q19c (g := (mkF m 12 #[.val (.ref a0), .val (.ref a1), .val (.int (((0 : Int32) + (own_cc (own_cpa cd0 z0 s0 (0 : Int32)))) + (own_cc (own_cpa cd0 z0 s0 ((0 : Int32) + (own_cc (own_cpa cd0 z0 s0 (0 : Int32)))))))), .val (.int (own_cpa cd0 z0 s0 ((0 : Int32) + (own_cc (own_cpa cd0 z0 s0 (0 : Int32)))))), .val (.int (own_cpa cd1 z1 s1 ((0 : Int32) + (own_cc (own_cpa cd0 z0 s0 (0 : Int32))))))] [(.ref a1), (.int (((0 : Int32) + (own_cc (own_cpa cd0 z0 s0 (0 : Int32)))) + (own_cc (own_cpa cd0 z0 s0 ((0 : Int32) + (own_cc (own_cpa cd0 z0 s0 (0 : Int32))))))))])) rfl (by rw [hml]; rfl) (Steps.refl _) (argsL := []) (rest := [(.int (((0 : Int32) + (own_cc (own_cpa cd0 z0 s0 (0 : Int32)))) + (own_cc (own_cpa cd0 z0 s0 ((0 : Int32) + (own_cc (own_cpa cd0 z0 s0 (0 : Int32))))))))]) (lenOf pd_9 rfl) rfl (by show 2 * 0 + _ ≤ _; exact Nat.le_of_eq rfl) (hb hby d9_12) (fun _ _ => ⟨rfl, he17, (by decide : 0 + 0 ≤ _), (by decide : 0 + 0 ≤ _)⟩)
         dsimp only [Pt.U, Pt.locs, Pt.cells, Pt.slots] at X19 l19 y19 z19 st19 hQ19
         subst l19 y19 z19
         obtain ⟨rfl, N19q, he19⟩ := hQ19
         have N19 := Fr.app N17 N19q
         refine OwnFin.tr st19 ?_
         show OwnFin _ _ _ _ (T19.setTop (mkF m 15 _ [(.int (z1 >>> (cd1 &&& 31))), (.int (((0 : Int32) + (own_cc (own_cpa cd0 z0 s0 (0 : Int32)))) + (own_cc (own_cpa cd0 z0 s0 ((0 : Int32) + (own_cc (own_cpa cd0 z0 s0 (0 : Int32))))))))]))
         by_cases hc20 : (((0 : Int32) + (own_cc (own_cpa cd0 z0 s0 (0 : Int32)))) + (own_cc (own_cpa cd0 z0 s0 ((0 : Int32) + (own_cc (own_cpa cd0 z0 s0 (0 : Int32))))))) < (z1 >>> (cd1 &&& 31))
         ·
          refine OwnFin.st (fun _ q => XS.icmpNo X19.here hx rfl (hb hby d9_15) rfl (Jvm.Free.XT.ii_ge_f hc20) q) ?_
          show OwnFin _ _ _ _ (T19.setTop (mkF m 18 _ []))
          refine OwnFin.st (fun _ q => XS.aloadN X19.here hx rfl (hb hby d9_18) rfl rfl q) ?_
          show OwnFin _ _ _ _ (T19.setTop (mkF m 19 _ [(.ref a0)]))
          refine OwnFin.st (fun _ q => XS.iloadN X19.here hx rfl (hb hby d9_19) rfl q) ?_
          show OwnFin _ _ _ _ (T19.setTop (mkF m 20 _ [(.int (((0 : Int32) + (own_cc (own_cpa cd0 z0 s0 (0 : Int32)))) + (own_cc (own_cpa cd0 z0 s0 ((0 : Int32) + (own_cc (own_cpa cd0 z0 s0 (0 : Int32)))))))), (.ref a0)]))
          obtain ⟨cq21, kq21, q21a, q21b, q21c⟩ := isOf hZ he19 X_a0
          obtain ⟨_, _, ⟨T21, L21, k21, n21⟩, -, X21, ⟨Lc21, hQ21, l21, y21, z21⟩, st21⟩ := X19.virtualBack hx (y := yM11) (z := yM11) hown (mvT hZ (w_ hw 78 rfl)) (mvT hZ (w_ hw 79 rfl)) (notFace_of_selects (args := #[]) (mvT hZ (w_ hw 81 rfl))) (mvT hZ (w_ hw 81 rfl)) (mvT hZ (w_ hw 80 rfl)) (by decide) (backOf (W := 0) (rm_cpa l Z av0 hw [] a0 (((0 : Int32) + (own_cc (own_cpa cd0 z0 s0 (0 : Int32)))) + (own_cc (own_cpa cd0 z0 s0 ((0 : Int32) + (own_cc (own_cpa cd0 z0 s0 (0 : Int32))))))) cd0 b0 k_b0 z0 s0 w_COMPACT_STRINGS w_SIOOBE_FORMATTER h0 n0 (Nat.le_trans Z0 kp0.1) Ol0 X_a0 F_coder_a0 F_value_a0 V_b0 (om_rm_cmp_1 z0 cd0 s0 hc2) hc18 hcd0 hcs S_COMPACT_STRINGS S_SIOOBE_FORMATTER hr_w_SIOOBE_FORMATTER S__assertionsDisabled S_HI_BYTE_SHIFT S_LO_BYTE_SHIFT) hZ (w_ hw 82 rfl) (w_ hw 22 rfl) (by decide) (by decide)) q21a q21c (g := (mkF m 20 #[.val (.ref a0), .val (.ref a1), .val (.int (((0 : Int32) + (own_cc (own_cpa cd0 z0 s0 (0 : Int32)))) + (own_cc (own_cpa cd0 z0 s0 ((0 : Int32) + (own_cc (own_cpa cd0 z0 s0 (0 : Int32)))))))), .val (.int (own_cpa cd0 z0 s0 ((0 : Int32) + (own_cc (own_cpa cd0 z0 s0 (0 : Int32)))))), .val (.int (own_cpa cd1 z1 s1 ((0 : Int32) + (own_cc (own_cpa cd0 z0 s0 (0 : Int32))))))] [(.int (((0 : Int32) + (own_cc (own_cpa cd0 z0 s0 (0 : Int32)))) + (own_cc (own_cpa cd0 z0 s0 ((0 : Int32) + (own_cc (own_cpa cd0 z0 s0 (0 : Int32)))))))), (.ref a0)])) rfl (by rw [hml]; rfl) (Steps.refl _) (argsL := [(.int (((0 : Int32) + (own_cc (own_cpa cd0 z0 s0 (0 : Int32)))) + (own_cc (own_cpa cd0 z0 s0 ((0 : Int32) + (own_cc (own_cpa cd0 z0 s0 (0 : Int32))))))))]) (rest := []) (lenOf pd_10 rfl) rfl (by show 2 * 0 + _ ≤ _; exact Nat.le_of_eq rfl) (hb hby d9_20) (fun _ _ => ⟨rfl, he19, (by decide : 0 + 0 ≤ _), (by decide : 0 + 0 ≤ _)⟩)
          dsimp only [Pt.U, Pt.locs, Pt.cells, Pt.slots] at X21 l21 y21 z21 st21 hQ21
          subst l21 y21 z21
          obtain ⟨rfl, N21q, he21⟩ := hQ21
          have N21 := Fr.app N19 N21q
          refine OwnFin.tr st21 ?_
          show OwnFin _ _ _ _ (T21.setTop (mkF m 23 _ [(.int (own_cpa cd0 z0 s0 (((0 : Int32) + (own_cc (own_cpa cd0 z0 s0 (0 : Int32)))) + (own_cc (own_cpa cd0 z0 s0 ((0 : Int32) + (own_cc (own_cpa cd0 z0 s0 (0 : Int32)))))))))]))
          refine OwnFin.st (fun _ q => XS.istoreN X21.here hx rfl (hb hby d9_23) rfl (l' := #[.val (.ref a0), .val (.ref a1), .val (.int (((0 : Int32) + (own_cc (own_cpa cd0 z0 s0 (0 : Int32)))) + (own_cc (own_cpa cd0 z0 s0 ((0 : Int32) + (own_cc (own_cpa cd0 z0 s0 (0 : Int32)))))))), .val (.int (own_cpa cd0 z0 s0 (((0 : Int32) + (own_cc (own_cpa cd0 z0 s0 (0 : Int32)))) + (own_cc (own_cpa cd0 z0 s0 ((0 : Int32) + (own_cc (own_cpa cd0 z0 s0 (0 : Int32))))))))), .val (.int (own_cpa cd1 z1 s1 ((0 : Int32) + (own_cc (own_cpa cd0 z0 s0 (0 : Int32))))))]) rfl q) ?_
          show OwnFin _ _ _ _ (T21.setTop (mkF m 24 _ []))
          refine OwnFin.st (fun _ q => XS.aloadN X21.here hx rfl (hb hby d9_24) rfl rfl q) ?_
          show OwnFin _ _ _ _ (T21.setTop (mkF m 25 #[.val (.ref a0), .val (.ref a1), .val (.int (((0 : Int32) + (own_cc (own_cpa cd0 z0 s0 (0 : Int32)))) + (own_cc (own_cpa cd0 z0 s0 ((0 : Int32) + (own_cc (own_cpa cd0 z0 s0 (0 : Int32)))))))), .val (.int (own_cpa cd0 z0 s0 (((0 : Int32) + (own_cc (own_cpa cd0 z0 s0 (0 : Int32)))) + (own_cc (own_cpa cd0 z0 s0 ((0 : Int32) + (own_cc (own_cpa cd0 z0 s0 (0 : Int32))))))))), .val (.int (own_cpa cd1 z1 s1 ((0 : Int32) + (own_cc (own_cpa cd0 z0 s0 (0 : Int32))))))] [(.ref a1)]))
          refine OwnFin.st (fun _ q => XS.iloadN X21.here hx rfl (hb hby d9_25) rfl q) ?_
          show OwnFin _ _ _ _ (T21.setTop (mkF m 26 _ [(.int (((0 : Int32) + (own_cc (own_cpa cd0 z0 s0 (0 : Int32)))) + (own_cc (own_cpa cd0 z0 s0 ((0 : Int32) + (own_cc (own_cpa cd0 z0 s0 (0 : Int32)))))))), (.ref a1)]))
          obtain ⟨cq22, kq22, q22a, q22b, q22c⟩ := isOf hZ he21 X_a1
          obtain ⟨_, _, ⟨T22, L22, k22, n22⟩, -, X22, ⟨Lc22, hQ22, l22, y22, z22⟩, st22⟩ := X21.virtualBack hx (y := yM11) (z := yM11) hown (mvT hZ (w_ hw 78 rfl)) (mvT hZ (w_ hw 79 rfl)) (notFace_of_selects (args := #[]) (mvT hZ (w_ hw 81 rfl))) (mvT hZ (w_ hw 81 rfl)) (mvT hZ (w_ hw 80 rfl)) (by decide) (backOf (W := 0) (rm_cpa l Z av0 hw [] a1 (((0 : Int32) + (own_cc (own_cpa cd0 z0 s0 (0 : Int32)))) + (own_cc (own_cpa cd0 z0 s0 ((0 : Int32) + (own_cc (own_cpa cd0 z0 s0 (0 : Int32))))))) cd1 b1 k_b1 z1 s1 w_COMPACT_STRINGS w_SIOOBE_FORMATTER h0 n0 (Nat.le_trans Z0 kp0.1) Ol0 X_a1 F_coder_a1 F_value_a1 V_b1 (om_rm_cmp_1 z0 cd0 s0 hc2) hc20 hcd1 hcs S_COMPACT_STRINGS S_SIOOBE_FORMATTER hr_w_SIOOBE_FORMATTER S__assertionsDisabled S_HI_BYTE_SHIFT S_LO_BYTE_SHIFT) hZ (w_ hw 82 rfl) (w_ hw 22 rfl) (by decide) (by decide)) q22a q22c (g := (mkF m 26 #[.val (.ref a0), .val (.ref a1), .val (.int (((0 : Int32) + (own_cc (own_cpa cd0 z0 s0 (0 : Int32)))) + (own_cc (own_cpa cd0 z0 s0 ((0 : Int32) + (own_cc (own_cpa cd0 z0 s0 (0 : Int32)))))))), .val (.int (own_cpa cd0 z0 s0 (((0 : Int32) + (own_cc (own_cpa cd0 z0 s0 (0 : Int32)))) + (own_cc (own_cpa cd0 z0 s0 ((0 : Int32) + (own_cc (own_cpa cd0 z0 s0 (0 : Int32))))))))), .val (.int (own_cpa cd1 z1 s1 ((0 : Int32) + (own_cc (own_cpa cd0 z0 s0 (0 : Int32))))))] [(.int (((0 : Int32) + (own_cc (own_cpa cd0 z0 s0 (0 : Int32)))) + (own_cc (own_cpa cd0 z0 s0 ((0 : Int32) + (own_cc (own_cpa cd0 z0 s0 (0 : Int32)))))))), (.ref a1)])) rfl (by rw [hml]; rfl) (Steps.refl _) (argsL := [(.int (((0 : Int32) + (own_cc (own_cpa cd0 z0 s0 (0 : Int32)))) + (own_cc (own_cpa cd0 z0 s0 ((0 : Int32) + (own_cc (own_cpa cd0 z0 s0 (0 : Int32))))))))]) (rest := []) (lenOf pd_10 rfl) rfl (by show 2 * 0 + _ ≤ _; exact Nat.le_of_eq rfl) (hb hby d9_26) (fun _ _ => ⟨rfl, he21, (by decide : 0 + 0 ≤ _), (by decide : 0 + 0 ≤ _)⟩)
          dsimp only [Pt.U, Pt.locs, Pt.cells, Pt.slots] at X22 l22 y22 z22 st22 hQ22
          subst l22 y22 z22
          obtain ⟨rfl, N22q, he22⟩ := hQ22
          have N22 := Fr.app N21 N22q
          refine OwnFin.tr st22 ?_
          show OwnFin _ _ _ _ (T22.setTop (mkF m 29 _ [(.int (own_cpa cd1 z1 s1 (((0 : Int32) + (own_cc (own_cpa cd0 z0 s0 (0 : Int32)))) + (own_cc (own_cpa cd0 z0 s0 ((0 : Int32) + (own_cc (own_cpa cd0 z0 s0 (0 : Int32)))))))))]))
          refine OwnFin.st (fun _ q => XS.istore X22.here hx rfl (hb hby d9_29) rfl (l' := #[.val (.ref a0), .val (.ref a1), .val (.int (((0 : Int32) + (own_cc (own_cpa cd0 z0 s0 (0 : Int32)))) + (own_cc (own_cpa cd0 z0 s0 ((0 : Int32) + (own_cc (own_cpa cd0 z0 s0 (0 : Int32)))))))), .val (.int (own_cpa cd0 z0 s0 (((0 : Int32) + (own_cc (own_cpa cd0 z0 s0 (0 : Int32)))) + (own_cc (own_cpa cd0 z0 s0 ((0 : Int32) + (own_cc (own_cpa cd0 z0 s0 (0 : Int32))))))))), .val (.int (own_cpa cd1 z1 s1 (((0 : Int32) + (own_cc (own_cpa cd0 z0 s0 (0 : Int32)))) + (own_cc (own_cpa cd0 z0 s0 ((0 : Int32) + (own_cc (own_cpa cd0 z0 s0 (0 : Int32)))))))))]) rfl q) ?_
          show OwnFin _ _ _ _ (T22.setTop (mkF m 31 _ []))
          refine OwnFin.st (fun _ q => XS.iloadN X22.here hx rfl (hb hby d9_31) rfl q) ?_
          show OwnFin _ _ _ _ (T22.setTop (mkF m 32 _ [(.int (own_cpa cd0 z0 s0 (((0 : Int32) + (own_cc (own_cpa cd0 z0 s0 (0 : Int32)))) + (own_cc (own_cpa cd0 z0 s0 ((0 : Int32) + (own_cc (own_cpa cd0 z0 s0 (0 : Int32)))))))))]))
          refine OwnFin.st (fun _ q => XS.iload X22.here hx rfl (hb hby d9_32) rfl q) ?_
          show OwnFin _ _ _ _ (T22.setTop (mkF m 34 _ [(.int (own_cpa cd1 z1 s1 (((0 : Int32) + (own_cc (own_cpa cd0 z0 s0 (0 : Int32)))) + (own_cc (own_cpa cd0 z0 s0 ((0 : Int32) + (own_cc (own_cpa cd0 z0 s0 (0 : Int32))))))))), (.int (own_cpa cd0 z0 s0 (((0 : Int32) + (own_cc (own_cpa cd0 z0 s0 (0 : Int32)))) + (own_cc (own_cpa cd0 z0 s0 ((0 : Int32) + (own_cc (own_cpa cd0 z0 s0 (0 : Int32)))))))))]))
          by_cases hc23 : (own_cpa cd0 z0 s0 (((0 : Int32) + (own_cc (own_cpa cd0 z0 s0 (0 : Int32)))) + (own_cc (own_cpa cd0 z0 s0 ((0 : Int32) + (own_cc (own_cpa cd0 z0 s0 (0 : Int32)))))))) = (own_cpa cd1 z1 s1 (((0 : Int32) + (own_cc (own_cpa cd0 z0 s0 (0 : Int32)))) + (own_cc (own_cpa cd0 z0 s0 ((0 : Int32) + (own_cc (own_cpa cd0 z0 s0 (0 : Int32))))))))
          ·
           refine OwnFin.st (fun _ q => XS.icmpYes X22.here hx rfl (pc0 := 34) (pc' := 44) rfl (hb hby d9_34) rfl (Jvm.Free.XT.ii_eq_t hc23) (by decide) (by decide) q) ?_
           show OwnFin _ _ _ _ (T22.setTop (mkF m 44 _ []))
           refine OwnFin.st (fun _ q => XS.iloadN X22.here hx rfl (hb hby d9_44) rfl q) ?_
           show OwnFin _ _ _ _ (T22.setTop (mkF m 45 _ [(.int (((0 : Int32) + (own_cc (own_cpa cd0 z0 s0 (0 : Int32)))) + (own_cc (own_cpa cd0 z0 s0 ((0 : Int32) + (own_cc (own_cpa cd0 z0 s0 (0 : Int32))))))))]))
           refine OwnFin.st (fun _ q => XS.iloadN X22.here hx rfl (hb hby d9_45) rfl q) ?_
           show OwnFin _ _ _ _ (T22.setTop (mkF m 46 _ [(.int (own_cpa cd0 z0 s0 (((0 : Int32) + (own_cc (own_cpa cd0 z0 s0 (0 : Int32)))) + (own_cc (own_cpa cd0 z0 s0 ((0 : Int32) + (own_cc (own_cpa cd0 z0 s0 (0 : Int32))))))))), (.int (((0 : Int32) + (own_cc (own_cpa cd0 z0 s0 (0 : Int32)))) + (own_cc (own_cpa cd0 z0 s0 ((0 : Int32) + (own_cc (own_cpa cd0 z0 s0 (0 : Int32))))))))]))
           obtain ⟨_, _, ⟨T24, L24, k24, n24⟩, -, X24, ⟨Lc24, hQ24, l24, y24, z24⟩, st24⟩ := Jvm.LawKit.callS X22 hx (y := yM13) hown (mvT hZ (w_ hw 96 rfl)) (mvT hZ (w_ hw 97 rfl)) (mvT hZ (w_ hw 98 rfl)) (mvT hZ (w_ hw 99 rfl)) (by decide) (backOf (W := 1) (rm_cc l Z av0 hw [] (own_cpa cd0 z0 s0 (((0 : Int32) + (own_cc (own_cpa cd0 z0 s0 (0 : Int32)))) + (own_cc (own_cpa cd0 z0 s0 ((0 : Int32) + (own_cc (own_cpa cd0 z0 s0 (0 : Int32)))))))) h0 n0 (Nat.le_trans Z0 kp0.1) ) hZ (w_ hw 99 rfl) (w_ hw 98 rfl) (by decide) (by decide)) (g := (mkF m 46 #[.val (.ref a0), .val (.ref a1), .val (.int (((0 : Int32) + (own_cc (own_cpa cd0 z0 s0 (0 : Int32)))) + (own_cc (own_cpa cd0 z0 s0 ((0 : Int32) + (own_cc (own_cpa cd0 z0 s0 (0 : Int32)))))))), .val (.int (own_cpa cd0 z0 s0 (((0 : Int32) + (own_cc (own_cpa cd0 z0 s0 (0 : Int32)))) + (own_cc (own_cpa cd0 z0 s0 ((0 : Int32) + (own_cc (own_cpa cd0 z0 s0 (0 : Int32))))))))), .val (.int (own_cpa cd1 z1 s1 (((0 : Int32) + (own_cc (own_cpa cd0 z0 s0 (0 : Int32)))) + (own_cc (own_cpa cd0 z0 s0 ((0 : Int32) + (own_cc (own_cpa cd0 z0 s0 (0 : Int32)))))))))] [(.int (own_cpa cd0 z0 s0 (((0 : Int32) + (own_cc (own_cpa cd0 z0 s0 (0 : Int32)))) + (own_cc (own_cpa cd0 z0 s0 ((0 : Int32) + (own_cc (own_cpa cd0 z0 s0 (0 : Int32))))))))), (.int (((0 : Int32) + (own_cc (own_cpa cd0 z0 s0 (0 : Int32)))) + (own_cc (own_cpa cd0 z0 s0 ((0 : Int32) + (own_cc (own_cpa cd0 z0 s0 (0 : Int32))))))))])) rfl (by rw [hml]; rfl) (argsL := [(.int (own_cpa cd0 z0 s0 (((0 : Int32) + (own_cc (own_cpa cd0 z0 s0 (0 : Int32)))) + (own_cc (own_cpa cd0 z0 s0 ((0 : Int32) + (own_cc (own_cpa cd0 z0 s0 (0 : Int32)))))))))]) (rest := [(.int (((0 : Int32) + (own_cc (own_cpa cd0 z0 s0 (0 : Int32)))) + (own_cc (own_cpa cd0 z0 s0 ((0 : Int32) + (own_cc (own_cpa cd0 z0 s0 (0 : Int32))))))))]) (lenOf pd_10 rfl) rfl (by show 2 * 0 + _ ≤ _; exact Nat.le_of_eq rfl) (hb hby d9_46) (fun _ _ => ⟨rfl, he22, (by decide : 0 + 0 ≤ _), (by decide : 0 + 0 ≤ _)⟩)
           dsimp only [Pt.U, Pt.locs, Pt.cells, Pt.slots] at X24 l24 y24 z24 st24 hQ24
           subst l24 y24 z24
           obtain ⟨rfl, N24q, he24⟩ := hQ24
           have N24 := Fr.app N22 N24q
           refine OwnFin.st st24 ?_
           show OwnFin _ _ _ _ (T24.setTop (mkF m 49 _ [(.int (own_cc (own_cpa cd0 z0 s0 (((0 : Int32) + (own_cc (own_cpa cd0 z0 s0 (0 : Int32)))) + (own_cc (own_cpa cd0 z0 s0 ((0 : Int32) + (own_cc (own_cpa cd0 z0 s0 (0 : Int32)))))))))), (.int (((0 : Int32) + (own_cc (own_cpa cd0 z0 s0 (0 : Int32)))) + (own_cc (own_cpa cd0 z0 s0 ((0 : Int32) + (own_cc (own_cpa cd0 z0 s0 (0 : Int32))))))))]))
           refine OwnFin.st (fun _ q => XS.iadd X24.here hx rfl (hb hby d9_49) rfl q) ?_
           show OwnFin _ _ _ _ (T24.setTop (mkF m 50 _ [(.int ((((0 : Int32) + (own_cc (own_cpa cd0 z0 s0 (0 : Int32)))) + (own_cc (own_cpa cd0 z0 s0 ((0 : Int32) + (own_cc (own_cpa cd0 z0 s0 (0 : Int32))))))) + (own_cc (own_cpa cd0 z0 s0 (((0 : Int32) + (own_cc (own_cpa cd0 z0 s0 (0 : Int32)))) + (own_cc (own_cpa cd0 z0 s0 ((0 : Int32) + (own_cc (own_cpa cd0 z0 s0 (0 : Int32)))))))))))]))
           refine OwnFin.st (fun _ q => XS.istoreN X24.here hx rfl (hb hby d9_50) rfl (l' := #[.val (.ref a0), .val (.ref a1), .val (.int ((((0 : Int32) + (own_cc (own_cpa cd0 z0 s0 (0 : Int32)))) + (own_cc (own_cpa cd0 z0 s0 ((0 : Int32) + (own_cc (own_cpa cd0 z0 s0 (0 : Int32))))))) + (own_cc (own_cpa cd0 z0 s0 (((0 : Int32) + (own_cc (own_cpa cd0 z0 s0 (0 : Int32)))) + (own_cc (own_cpa cd0 z0 s0 ((0 : Int32) + (own_cc (own_cpa cd0 z0 s0 (0 : Int32))))))))))), .val (.int (own_cpa cd0 z0 s0 (((0 : Int32) + (own_cc (own_cpa cd0 z0 s0 (0 : Int32)))) + (own_cc (own_cpa cd0 z0 s0 ((0 : Int32) + (own_cc (own_cpa cd0 z0 s0 (0 : Int32))))))))), .val (.int (own_cpa cd1 z1 s1 (((0 : Int32) + (own_cc (own_cpa cd0 z0 s0 (0 : Int32)))) + (own_cc (own_cpa cd0 z0 s0 ((0 : Int32) + (own_cc (own_cpa cd0 z0 s0 (0 : Int32)))))))))]) rfl q) ?_
           show OwnFin _ _ _ _ (T24.setTop (mkF m 51 _ []))
           refine OwnFin.st (fun _ q => XS.goto X24.here hx rfl (pc0 := 51) (pc' := 2) rfl (hb hby d9_51) (by decide) (by decide) q) ?_
           show OwnFin _ _ _ _ (T24.setTop (mkF m 2 _ []))
           refine OwnFin.st (fun _ q => XS.iloadN X24.here hx rfl (hb hby d9_2) rfl q) ?_
           show OwnFin _ _ _ _ (T24.setTop (mkF m 3 #[.val (.ref a0), .val (.ref a1), .val (.int ((((0 : Int32) + (own_cc (own_cpa cd0 z0 s0 (0 : Int32)))) + (own_cc (own_cpa cd0 z0 s0 ((0 : Int32) + (own_cc (own_cpa cd0 z0 s0 (0 : Int32))))))) + (own_cc (own_cpa cd0 z0 s0 (((0 : Int32) + (own_cc (own_cpa cd0 z0 s0 (0 : Int32)))) + (own_cc (own_cpa cd0 z0 s0 ((0 : Int32) + (own_cc (own_cpa cd0 z0 s0 (0 : Int32))))))))))), .val (.int (own_cpa cd0 z0 s0 (((0 : Int32) + (own_cc (own_cpa cd0 z0 s0 (0 : Int32)))) + (own_cc (own_cpa cd0 z0 s0 ((0 : Int32) + (own_cc (own_cpa cd0 z0 s0 (0 : Int32))))))))), .val (.int (own_cpa cd1 z1 s1 (((0 : Int32) + (own_cc (own_cpa cd0 z0 s0 (0 : Int32)))) + (own_cc (own_cpa cd0 z0 s0 ((0 : Int32) + (own_cc (own_cpa cd0 z0 s0 (0 : Int32)))))))))] [(.int ((((0 : Int32) + (own_cc (own_cpa cd0 z0 s0 (0 : Int32)))) + (own_cc (own_cpa cd0 z0 s0 ((0 : Int32) + (own_cc (own_cpa cd0 z0 s0 (0 : Int32))))))) + (own_cc (own_cpa cd0 z0 s0 (((0 : Int32) + (own_cc (own_cpa cd0 z0 s0 (0 : Int32)))) + (own_cc (own_cpa cd0 z0 s0 ((0 : Int32) + (own_cc (own_cpa cd0 z0 s0 (0 : Int32)))))))))))]))
           refine OwnFin.st (fun _ q => XS.aloadN X24.here hx rfl (hb hby d9_3) rfl rfl q) ?_
           show OwnFin _ _ _ _ (T24.setTop (mkF m 4 _ [(.ref a0), (.int ((((0 : Int32) + (own_cc (own_cpa cd0 z0 s0 (0 : Int32)))) + (own_cc (own_cpa cd0 z0 s0 ((0 : Int32) + (own_cc (own_cpa cd0 z0 s0 (0 : Int32))))))) + (own_cc (own_cpa cd0 z0 s0 (((0 : Int32) + (own_cc (own_cpa cd0 z0 s0 (0 : Int32)))) + (own_cc (own_cpa cd0 z0 s0 ((0 : Int32) + (own_cc (own_cpa cd0 z0 s0 (0 : Int32)))))))))))]))
           obtain ⟨cq25, kq25, q25a, q25b, q25c⟩ := isOf hZ he24 X_a0
           obtain ⟨_, _, ⟨T25, L25, k25, n25⟩, -, X25, ⟨Lc25, hQ25, l25, y25, z25⟩, st25⟩ := X24.virtualBack hx (y := yM8) (z := yM8) hown (mvT hZ (w_ hw 45 rfl)) (mvT hZ (w_ hw 46 rfl)) (notFace_of_selects (args := #[]) (mvT hZ (w_ hw 48 rfl))) (mvT hZ (w_ hw 48 rfl)) (mvT hZ (w_ hw 47 rfl)) (by decide) (backOf (W := 1) (rm_len l Z av0 hw [] a0 cd0 b0 k_b0 z0 s0 w_COMPACT_STRINGS h0 n0 (Nat.le_trans Z0 kp0.1) Ol0 X_a0 F_coder_a0 F_value_a0 V_b0 hcd0 S_COMPACT_STRINGS hcs) hZ (w_ hw 49 rfl) (w_ hw 22 rfl) (by decide) (by decide)) q25a q25c (g := (mkF m 4 #[.val (.ref a0), .val (.ref a1), .val (.int ((((0 : Int32) + (own_cc (own_cpa cd0 z0 s0 (0 : Int32)))) + (own_cc (own_cpa cd0 z0 s0 ((0 : Int32) + (own_cc (own_cpa cd0 z0 s0 (0 : Int32))))))) + (own_cc (own_cpa cd0 z0 s0 (((0 : Int32) + (own_cc (own_cpa cd0 z0 s0 (0 : Int32)))) + (own_cc (own_cpa cd0 z0 s0 ((0 : Int32) + (own_cc (own_cpa cd0 z0 s0 (0 : Int32))))))))))), .val (.int (own_cpa cd0 z0 s0 (((0 : Int32) + (own_cc (own_cpa cd0 z0 s0 (0 : Int32)))) + (own_cc (own_cpa cd0 z0 s0 ((0 : Int32) + (own_cc (own_cpa cd0 z0 s0 (0 : Int32))))))))), .val (.int (own_cpa cd1 z1 s1 (((0 : Int32) + (own_cc (own_cpa cd0 z0 s0 (0 : Int32)))) + (own_cc (own_cpa cd0 z0 s0 ((0 : Int32) + (own_cc (own_cpa cd0 z0 s0 (0 : Int32)))))))))] [(.ref a0), (.int ((((0 : Int32) + (own_cc (own_cpa cd0 z0 s0 (0 : Int32)))) + (own_cc (own_cpa cd0 z0 s0 ((0 : Int32) + (own_cc (own_cpa cd0 z0 s0 (0 : Int32))))))) + (own_cc (own_cpa cd0 z0 s0 (((0 : Int32) + (own_cc (own_cpa cd0 z0 s0 (0 : Int32)))) + (own_cc (own_cpa cd0 z0 s0 ((0 : Int32) + (own_cc (own_cpa cd0 z0 s0 (0 : Int32)))))))))))])) rfl (by rw [hml]; rfl) (Steps.refl _) (argsL := []) (rest := [(.int ((((0 : Int32) + (own_cc (own_cpa cd0 z0 s0 (0 : Int32)))) + (own_cc (own_cpa cd0 z0 s0 ((0 : Int32) + (own_cc (own_cpa cd0 z0 s0 (0 : Int32))))))) + (own_cc (own_cpa cd0 z0 s0 (((0 : Int32) + (own_cc (own_cpa cd0 z0 s0 (0 : Int32)))) + (own_cc (own_cpa cd0 z0 s0 ((0 : Int32) + (own_cc (own_cpa cd0 z0 s0 (0 : Int32)))))))))))]) (lenOf pd_9 rfl) rfl (by show 2 * 0 + _ ≤ _; exact Nat.le_of_eq rfl) (hb hby d9_4) (fun _ _ => ⟨rfl, he24, (by decide : 0 + 0 ≤ _), (by decide : 0 + 0 ≤ _)⟩)
           dsimp only [Pt.U, Pt.locs, Pt.cells, Pt.slots] at X25 l25 y25 z25 st25 hQ25
           subst l25 y25 z25
           obtain ⟨rfl, N25q, he25⟩ := hQ25
           have N25 := Fr.app N24 N25q
           refine OwnFin.tr st25 ?_
           show OwnFin _ _ _ _ (T25.setTop (mkF m 7 _ [(.int (z0 >>> (cd0 &&& 31))), (.int ((((0 : Int32) + (own_cc (own_cpa cd0 z0 s0 (0 : Int32)))) + (own_cc (own_cpa cd0 z0 s0 ((0 : Int32) + (own_cc (own_cpa cd0 z0 s0 (0 : Int32))))))) + (own_cc (own_cpa cd0 z0 s0 (((0 : Int32) + (own_cc (own_cpa cd0 z0 s0 (0 : Int32)))) + (own_cc (own_cpa cd0 z0 s0 ((0 : Int32) + (own_cc (own_cpa cd0 z0 s0 (0 : Int32)))))))))))]))
           refine OwnFin.st (fun _ q => XS.icmpYes X25.here hx rfl (pc0 := 7) (pc' := 54) rfl (hb hby d9_7) rfl (Jvm.Free.XT.ii_ge_t hend) (by decide) (by decide) q) ?_
           show OwnFin _ _ _ _ (T25.setTop (mkF m 54 _ []))
           refine OwnFin.st (fun _ q => XS.aloadN X25.here hx rfl (hb hby d9_54) rfl rfl q) ?_
           show OwnFin _ _ _ _ (T25.setTop (mkF m 55 _ [(.ref a0)]))
           obtain ⟨cq26, kq26, q26a, q26b, q26c⟩ := isOf hZ he25 X_a0
           obtain ⟨_, _, ⟨T26, L26, k26, n26⟩, -, X26, ⟨Lc26, hQ26, l26, y26, z26⟩, st26⟩ := X25.virtualBack hx (y := yM8) (z := yM8) hown (mvT hZ (w_ hw 45 rfl)) (mvT hZ (w_ hw 46 rfl)) (notFace_of_selects (args := #[]) (mvT hZ (w_ hw 48 rfl))) (mvT hZ (w_ hw 48 rfl)) (mvT hZ (w_ hw 47 rfl)) (by decide) (backOf (W := 0) (rm_len l Z av0 hw [] a0 cd0 b0 k_b0 z0 s0 w_COMPACT_STRINGS h0 n0 (Nat.le_trans Z0 kp0.1) Ol0 X_a0 F_coder_a0 F_value_a0 V_b0 hcd0 S_COMPACT_STRINGS hcs) hZ (w_ hw 49 rfl) (w_ hw 22 rfl) (by decide) (by decide)) q26a q26c (g := (mkF m 55 #[.val (.ref a0), .val (.ref a1), .val (.int ((((0 : Int32) + (own_cc (own_cpa cd0 z0 s0 (0 : Int32)))) + (own_cc (own_cpa cd0 z0 s0 ((0 : Int32) + (own_cc (own_cpa cd0 z0 s0 (0 : Int32))))))) + (own_cc (own_cpa cd0 z0 s0 (((0 : Int32) + (own_cc (own_cpa cd0 z0 s0 (0 : Int32)))) + (own_cc (own_cpa cd0 z0 s0 ((0 : Int32) + (own_cc (own_cpa cd0 z0 s0 (0 : Int32))))))))))), .val (.int (own_cpa cd0 z0 s0 (((0 : Int32) + (own_cc (own_cpa cd0 z0 s0 (0 : Int32)))) + (own_cc (own_cpa cd0 z0 s0 ((0 : Int32) + (own_cc (own_cpa cd0 z0 s0 (0 : Int32))))))))), .val (.int (own_cpa cd1 z1 s1 (((0 : Int32) + (own_cc (own_cpa cd0 z0 s0 (0 : Int32)))) + (own_cc (own_cpa cd0 z0 s0 ((0 : Int32) + (own_cc (own_cpa cd0 z0 s0 (0 : Int32)))))))))] [(.ref a0)])) rfl (by rw [hml]; rfl) (Steps.refl _) (argsL := []) (rest := []) (lenOf pd_9 rfl) rfl (by show 2 * 0 + _ ≤ _; exact Nat.le_of_eq rfl) (hb hby d9_55) (fun _ _ => ⟨rfl, he25, (by decide : 0 + 0 ≤ _), (by decide : 0 + 0 ≤ _)⟩)
           dsimp only [Pt.U, Pt.locs, Pt.cells, Pt.slots] at X26 l26 y26 z26 st26 hQ26
           subst l26 y26 z26
           obtain ⟨rfl, N26q, he26⟩ := hQ26
           have N26 := Fr.app N25 N26q
           refine OwnFin.tr st26 ?_
           show OwnFin _ _ _ _ (T26.setTop (mkF m 58 _ [(.int (z0 >>> (cd0 &&& 31)))]))
           refine OwnFin.st (fun _ q => XS.aloadN X26.here hx rfl (hb hby d9_58) rfl rfl q) ?_
           show OwnFin _ _ _ _ (T26.setTop (mkF m 59 _ [(.ref a1), (.int (z0 >>> (cd0 &&& 31)))]))
           obtain ⟨cq27, kq27, q27a, q27b, q27c⟩ := isOf hZ he26 X_a1
           obtain ⟨_, _, ⟨T27, L27, k27, n27⟩, -, X27, ⟨Lc27, hQ27, l27, y27, z27⟩, st27⟩ := X26.virtualBack hx (y := yM8) (z := yM8) hown (mvT hZ (w_ hw 45 rfl)) (mvT hZ (w_ hw 46 rfl)) (notFace_of_selects (args := #[]) (mvT hZ (w_ hw 48 rfl))) (mvT hZ (w_ hw 48 rfl)) (mvT hZ (w_ hw 47 rfl)) (by decide) (backOf (W := 1) (rm_len l Z av0 hw [] a1 cd1 b1 k_b1 z1 s1 w_COMPACT_STRINGS h0 n0 (Nat.le_trans Z0 kp0.1) Ol0 X_a1 F_coder_a1 F_value_a1 V_b1 hcd1 S_COMPACT_STRINGS hcs) hZ (w_ hw 49 rfl) (w_ hw 22 rfl) (by decide) (by decide)) q27a q27c (g := (mkF m 59 #[.val (.ref a0), .val (.ref a1), .val (.int ((((0 : Int32) + (own_cc (own_cpa cd0 z0 s0 (0 : Int32)))) + (own_cc (own_cpa cd0 z0 s0 ((0 : Int32) + (own_cc (own_cpa cd0 z0 s0 (0 : Int32))))))) + (own_cc (own_cpa cd0 z0 s0 (((0 : Int32) + (own_cc (own_cpa cd0 z0 s0 (0 : Int32)))) + (own_cc (own_cpa cd0 z0 s0 ((0 : Int32) + (own_cc (own_cpa cd0 z0 s0 (0 : Int32))))))))))), .val (.int (own_cpa cd0 z0 s0 (((0 : Int32) + (own_cc (own_cpa cd0 z0 s0 (0 : Int32)))) + (own_cc (own_cpa cd0 z0 s0 ((0 : Int32) + (own_cc (own_cpa cd0 z0 s0 (0 : Int32))))))))), .val (.int (own_cpa cd1 z1 s1 (((0 : Int32) + (own_cc (own_cpa cd0 z0 s0 (0 : Int32)))) + (own_cc (own_cpa cd0 z0 s0 ((0 : Int32) + (own_cc (own_cpa cd0 z0 s0 (0 : Int32)))))))))] [(.ref a1), (.int (z0 >>> (cd0 &&& 31)))])) rfl (by rw [hml]; rfl) (Steps.refl _) (argsL := []) (rest := [(.int (z0 >>> (cd0 &&& 31)))]) (lenOf pd_9 rfl) rfl (by show 2 * 0 + _ ≤ _; exact Nat.le_of_eq rfl) (hb hby d9_59) (fun _ _ => ⟨rfl, he26, (by decide : 0 + 0 ≤ _), (by decide : 0 + 0 ≤ _)⟩)
           dsimp only [Pt.U, Pt.locs, Pt.cells, Pt.slots] at X27 l27 y27 z27 st27 hQ27
           subst l27 y27 z27
           obtain ⟨rfl, N27q, he27⟩ := hQ27
           have N27 := Fr.app N26 N27q
           refine OwnFin.tr st27 ?_
           show OwnFin _ _ _ _ (T27.setTop (mkF m 62 _ [(.int (z1 >>> (cd1 &&& 31))), (.int (z0 >>> (cd0 &&& 31)))]))
           obtain ⟨_, _, ⟨T28, L28, k28, n28⟩, -, X28, ⟨Lc28, hQ28, l28, y28, z28⟩, st28⟩ := Jvm.LawKit.callS X27 hx (y := yM12) hown (mvT hZ (w_ hw 56 rfl)) (mvT hZ (w_ hw 57 rfl)) (mvT hZ (w_ hw 58 rfl)) (mvT hZ (w_ hw 59 rfl)) (by decide) (backOf (W := 0) (rm_ic l Z av0 hw [] (z0 >>> (cd0 &&& 31)) (z1 >>> (cd1 &&& 31)) h0 n0 (Nat.le_trans Z0 kp0.1) ) hZ (w_ hw 59 rfl) (w_ hw 58 rfl) (by decide) (by decide)) (g := (mkF m 62 #[.val (.ref a0), .val (.ref a1), .val (.int ((((0 : Int32) + (own_cc (own_cpa cd0 z0 s0 (0 : Int32)))) + (own_cc (own_cpa cd0 z0 s0 ((0 : Int32) + (own_cc (own_cpa cd0 z0 s0 (0 : Int32))))))) + (own_cc (own_cpa cd0 z0 s0 (((0 : Int32) + (own_cc (own_cpa cd0 z0 s0 (0 : Int32)))) + (own_cc (own_cpa cd0 z0 s0 ((0 : Int32) + (own_cc (own_cpa cd0 z0 s0 (0 : Int32))))))))))), .val (.int (own_cpa cd0 z0 s0 (((0 : Int32) + (own_cc (own_cpa cd0 z0 s0 (0 : Int32)))) + (own_cc (own_cpa cd0 z0 s0 ((0 : Int32) + (own_cc (own_cpa cd0 z0 s0 (0 : Int32))))))))), .val (.int (own_cpa cd1 z1 s1 (((0 : Int32) + (own_cc (own_cpa cd0 z0 s0 (0 : Int32)))) + (own_cc (own_cpa cd0 z0 s0 ((0 : Int32) + (own_cc (own_cpa cd0 z0 s0 (0 : Int32)))))))))] [(.int (z1 >>> (cd1 &&& 31))), (.int (z0 >>> (cd0 &&& 31)))])) rfl (by rw [hml]; rfl) (argsL := [(.int (z0 >>> (cd0 &&& 31))), (.int (z1 >>> (cd1 &&& 31)))]) (rest := []) (lenOf pd_11 rfl) rfl (by show 2 * 0 + _ ≤ _; exact Nat.le_of_eq rfl) (hb hby d9_62) (fun _ _ => ⟨rfl, he27, (by decide : 0 + 0 ≤ _), (by decide : 0 + 0 ≤ _)⟩)
           dsimp only [Pt.U, Pt.locs, Pt.cells, Pt.slots] at X28 l28 y28 z28 st28 hQ28
           subst l28 y28 z28
           obtain ⟨rfl, N28q, he28⟩ := hQ28
           have N28 := Fr.app N27 N28q
           refine OwnFin.st st28 ?_
           show OwnFin _ _ _ _ (T28.setTop (mkF m 65 _ [(.int (own_ic (z0 >>> (cd0 &&& 31)) (z1 >>> (cd1 &&& 31))))]))
           obtain ⟨fs, hr, hrun, hended, hW, hsame⟩ := X28.leave (v := some (.int (own_ic (z0 >>> (cd0 &&& 31)) (z1 >>> (cd1 &&& 31))))) (fun h => by rw [Bd.returns] at h; cases h)
           refine ⟨_, _, retI X28 hx Bd.returns (hb hby d9_65) hr, hrun, hended, _, _, rfl, ?_, ⟨_, rfl⟩, hW, hsame.mono (by decide) (by decide)⟩
           show Q_rm_cmp Z a0 a1 cd0 b0 k_b0 z0 s0 cd1 b1 k_b1 z1 s1 w_COMPACT_STRINGS w_SIOOBE_FORMATTER h0 n0 _ T28.heap _
           rw [he28]
           refine ⟨?_, N28, rfl⟩
           simp only [own_cmpS, own_cmp]
           rw [if_pos hc2, if_pos hc4, if_pos hc7, if_pos hc10, if_pos hc12, if_pos hc15, if_pos hc18, if_pos hc20, if_pos hc23, if_neg hend]
          ·
           refine OwnFin.st (fun _ q => XS.icmpNo X22.here hx rfl (hb hby d9_34) rfl (Jvm.Free.XT.ii_eq_f hc23) q) ?_
           show OwnFin _ _ _ _ (T22.setTop (mkF m 37 _ []))
           refine OwnFin.st (fun _ q => XS.iloadN X22.here hx rfl (hb hby d9_37) rfl q) ?_
           show OwnFin _ _ _ _ (T22.setTop (mkF m 38 _ [(.int (own_cpa cd0 z0 s0 (((0 : Int32) + (own_cc (own_cpa cd0 z0 s0 (0 : Int32)))) + (own_cc (own_cpa cd0 z0 s0 ((0 : Int32) + (own_cc (own_cpa cd0 z0 s0 (0 : Int32)))))))))]))
           refine OwnFin.st (fun _ q => XS.iload X22.here hx rfl (hb hby d9_38) rfl q) ?_
           show OwnFin _ _ _ _ (T22.setTop (mkF m 40 _ [(.int (own_cpa cd1 z1 s1 (((0 : Int32) + (own_cc (own_cpa cd0 z0 s0 (0 : Int32)))) + (own_cc (own_cpa cd0 z0 s0 ((0 : Int32) + (own_cc (own_cpa cd0 z0 s0 (0 : Int32))))))))), (.int (own_cpa cd0 z0 s0 (((0 : Int32) + (own_cc (own_cpa cd0 z0 s0 (0 : Int32)))) + (own_cc (own_cpa cd0 z0 s0 ((0 : Int32) + (own_cc (own_cpa cd0 z0 s0 (0 : Int32)))))))))]))
           obtain ⟨_, _, ⟨T29, L29, k29, n29⟩, -, X29, ⟨Lc29, hQ29, l29, y29, z29⟩, st29⟩ := Jvm.LawKit.callS X22 hx (y := yM12) hown (mvT hZ (w_ hw 56 rfl)) (mvT hZ (w_ hw 57 rfl)) (mvT hZ (w_ hw 58 rfl)) (mvT hZ (w_ hw 59 rfl)) (by decide) (backOf (W := 0) (rm_ic l Z av0 hw [] (own_cpa cd0 z0 s0 (((0 : Int32) + (own_cc (own_cpa cd0 z0 s0 (0 : Int32)))) + (own_cc (own_cpa cd0 z0 s0 ((0 : Int32) + (own_cc (own_cpa cd0 z0 s0 (0 : Int32)))))))) (own_cpa cd1 z1 s1 (((0 : Int32) + (own_cc (own_cpa cd0 z0 s0 (0 : Int32)))) + (own_cc (own_cpa cd0 z0 s0 ((0 : Int32) + (own_cc (own_cpa cd0 z0 s0 (0 : Int32)))))))) h0 n0 (Nat.le_trans Z0 kp0.1) ) hZ (w_ hw 59 rfl) (w_ hw 58 rfl) (by decide) (by decide)) (g := (mkF m 40 #[.val (.ref a0), .val (.ref a1), .val (.int (((0 : Int32) + (own_cc (own_cpa cd0 z0 s0 (0 : Int32)))) + (own_cc (own_cpa cd0 z0 s0 ((0 : Int32) + (own_cc (own_cpa cd0 z0 s0 (0 : Int32)))))))), .val (.int (own_cpa cd0 z0 s0 (((0 : Int32) + (own_cc (own_cpa cd0 z0 s0 (0 : Int32)))) + (own_cc (own_cpa cd0 z0 s0 ((0 : Int32) + (own_cc (own_cpa cd0 z0 s0 (0 : Int32))))))))), .val (.int (own_cpa cd1 z1 s1 (((0 : Int32) + (own_cc (own_cpa cd0 z0 s0 (0 : Int32)))) + (own_cc (own_cpa cd0 z0 s0 ((0 : Int32) + (own_cc (own_cpa cd0 z0 s0 (0 : Int32)))))))))] [(.int (own_cpa cd1 z1 s1 (((0 : Int32) + (own_cc (own_cpa cd0 z0 s0 (0 : Int32)))) + (own_cc (own_cpa cd0 z0 s0 ((0 : Int32) + (own_cc (own_cpa cd0 z0 s0 (0 : Int32))))))))), (.int (own_cpa cd0 z0 s0 (((0 : Int32) + (own_cc (own_cpa cd0 z0 s0 (0 : Int32)))) + (own_cc (own_cpa cd0 z0 s0 ((0 : Int32) + (own_cc (own_cpa cd0 z0 s0 (0 : Int32)))))))))])) rfl (by rw [hml]; rfl) (argsL := [(.int (own_cpa cd0 z0 s0 (((0 : Int32) + (own_cc (own_cpa cd0 z0 s0 (0 : Int32)))) + (own_cc (own_cpa cd0 z0 s0 ((0 : Int32) + (own_cc (own_cpa cd0 z0 s0 (0 : Int32))))))))), (.int (own_cpa cd1 z1 s1 (((0 : Int32) + (own_cc (own_cpa cd0 z0 s0 (0 : Int32)))) + (own_cc (own_cpa cd0 z0 s0 ((0 : Int32) + (own_cc (own_cpa cd0 z0 s0 (0 : Int32)))))))))]) (rest := []) (lenOf pd_11 rfl) rfl (by show 2 * 0 + _ ≤ _; exact Nat.le_of_eq rfl) (hb hby d9_40) (fun _ _ => ⟨rfl, he22, (by decide : 0 + 0 ≤ _), (by decide : 0 + 0 ≤ _)⟩)
           dsimp only [Pt.U, Pt.locs, Pt.cells, Pt.slots] at X29 l29 y29 z29 st29 hQ29
           subst l29 y29 z29
           obtain ⟨rfl, N29q, he29⟩ := hQ29
           have N29 := Fr.app N22 N29q
           refine OwnFin.st st29 ?_
           show OwnFin _ _ _ _ (T29.setTop (mkF m 43 _ [(.int (own_ic (own_cpa cd0 z0 s0 (((0 : Int32) + (own_cc (own_cpa cd0 z0 s0 (0 : Int32)))) + (own_cc (own_cpa cd0 z0 s0 ((0 : Int32) + (own_cc (own_cpa cd0 z0 s0 (0 : Int32)))))))) (own_cpa cd1 z1 s1 (((0 : Int32) + (own_cc (own_cpa cd0 z0 s0 (0 : Int32)))) + (own_cc (own_cpa cd0 z0 s0 ((0 : Int32) + (own_cc (own_cpa cd0 z0 s0 (0 : Int32))))))))))]))
           obtain ⟨fs, hr, hrun, hended, hW, hsame⟩ := X29.leave (v := some (.int (own_ic (own_cpa cd0 z0 s0 (((0 : Int32) + (own_cc (own_cpa cd0 z0 s0 (0 : Int32)))) + (own_cc (own_cpa cd0 z0 s0 ((0 : Int32) + (own_cc (own_cpa cd0 z0 s0 (0 : Int32)))))))) (own_cpa cd1 z1 s1 (((0 : Int32) + (own_cc (own_cpa cd0 z0 s0 (0 : Int32)))) + (own_cc (own_cpa cd0 z0 s0 ((0 : Int32) + (own_cc (own_cpa cd0 z0 s0 (0 : Int32))))))))))) (fun h => by rw [Bd.returns] at h; cases h)
           refine ⟨_, _, retI X29 hx Bd.returns (hb hby d9_43) hr, hrun, hended, _, _, rfl, ?_, ⟨_, rfl⟩, hW, hsame.mono (by decide) (by decide)⟩
           show Q_rm_cmp Z a0 a1 cd0 b0 k_b0 z0 s0 cd1 b1 k_b1 z1 s1 w_COMPACT_STRINGS w_SIOOBE_FORMATTER h0 n0 _ T29.heap _
           rw [he29]
           refine ⟨?_, N29, rfl⟩
           simp only [own_cmpS, own_cmp]
           rw [if_pos hc2, if_pos hc4, if_pos hc7, if_pos hc10, if_pos hc12, if_pos hc15, if_pos hc18, if_pos hc20, if_neg hc23]
         ·
          refine OwnFin.st (fun _ q => XS.icmpYes X19.here hx rfl (pc0 := 15) (pc' := 54) rfl (hb hby d9_15) rfl (Jvm.Free.XT.ii_ge_t hc20) (by decide) (by decide) q) ?_
          show OwnFin _ _ _ _ (T19.setTop (mkF m 54 _ []))
          refine OwnFin.st (fun _ q => XS.aloadN X19.here hx rfl (hb hby d9_54) rfl rfl q) ?_
          show OwnFin _ _ _ _ (T19.setTop (mkF m 55 _ [(.ref a0)]))
          obtain ⟨cq30, kq30, q30a, q30b, q30c⟩ := isOf hZ he19 X_a0
          obtain ⟨_, _, ⟨T30, L30, k30, n30⟩, -, X30, ⟨Lc30, hQ30, l30, y30, z30⟩, st30⟩ := X19.virtualBack hx (y := yM8) (z := yM8) hown (mvT hZ (w_ hw 45 rfl)) (mvT hZ (w_ hw 46 rfl)) (notFace_of_selects (args := #[]) (mvT hZ (w_ hw 48 rfl))) (mvT hZ (w_ hw 48 rfl)) (mvT hZ (w_ hw 47 rfl)) (by decide) (backOf (W := 0) (rm_len l Z av0 hw [] a0 cd0 b0 k_b0 z0 s0 w_COMPACT_STRINGS h0 n0 (Nat.le_trans Z0 kp0.1) Ol0 X_a0 F_coder_a0 F_value_a0 V_b0 hcd0 S_COMPACT_STRINGS hcs) hZ (w_ hw 49 rfl) (w_ hw 22 rfl) (by decide) (by decide)) q30a q30c (g := (mkF m 55 #[.val (.ref a0), .val (.ref a1), .val (.int (((0 : Int32) + (own_cc (own_cpa cd0 z0 s0 (0 : Int32)))) + (own_cc (own_cpa cd0 z0 s0 ((0 : Int32) + (own_cc (own_cpa cd0 z0 s0 (0 : Int32)))))))), .val (.int (own_cpa cd0 z0 s0 ((0 : Int32) + (own_cc (own_cpa cd0 z0 s0 (0 : Int32)))))), .val (.int (own_cpa cd1 z1 s1 ((0 : Int32) + (own_cc (own_cpa cd0 z0 s0 (0 : Int32))))))] [(.ref a0)])) rfl (by rw [hml]; rfl) (Steps.refl _) (argsL := []) (rest := []) (lenOf pd_9 rfl) rfl (by show 2 * 0 + _ ≤ _; exact Nat.le_of_eq rfl) (hb hby d9_55) (fun _ _ => ⟨rfl, he19, (by decide : 0 + 0 ≤ _), (by decide : 0 + 0 ≤ _)⟩)
          dsimp only [Pt.U, Pt.locs, Pt.cells, Pt.slots] at X30 l30 y30 z30 st30 hQ30
          subst l30 y30 z30
          obtain ⟨rfl, N30q, he30⟩ := hQ30
          have N30 := Fr.app N19 N30q
          refine OwnFin.tr st30 ?_
          show OwnFin _ _ _ _ (T30.setTop (mkF m 58 _ [(.int (z0 >>> (cd0 &&& 31)))]))
          refine OwnFin.st (fun _ q => XS.aloadN X30.here hx rfl (hb hby d9_58) rfl rfl q) ?_
          show OwnFin _ _ _ _ (T30.setTop (mkF m 59 _ [(.ref a1), (.int (z0 >>> (cd0 &&& 31)))]))
          obtain ⟨cq31, kq31, q31a, q31b, q31c⟩ := isOf hZ he30 X_a1
          obtain ⟨_, _, ⟨T31, L31, k31, n31⟩, -, X31, ⟨Lc31, hQ31, l31, y31, z31⟩, st31⟩ := X30.virtualBack hx (y := yM8) (z := yM8) hown (mvT hZ (w_ hw 45 rfl)) (mvT hZ (w_ hw 46 rfl)) (notFace_of_selects (args := #[]) (mvT hZ (w_ hw 48 rfl))) (mvT hZ (w_ hw 48 rfl)) (mvT hZ (w_ hw 47 rfl)) (by decide) (backOf (W := 1) (rm_len l Z av0 hw [] a1 cd1 b1 k_b1 z1 s1 w_COMPACT_STRINGS h0 n0 (Nat.le_trans Z0 kp0.1) Ol0 X_a1 F_coder_a1 F_value_a1 V_b1 hcd1 S_COMPACT_STRINGS hcs) hZ (w_ hw 49 rfl) (w_ hw 22 rfl) (by decide) (by decide)) q31a q31c (g := (mkF m 59 #[.val (.ref a0), .val (.ref a1), .val (.int (((0 : Int32) + (own_cc (own_cpa cd0 z0 s0 (0 : Int32)))) + (own_cc (own_cpa cd0 z0 s0 ((0 : Int32) + (own_cc (own_cpa cd0 z0 s0 (0 : Int32)))))))), .val (.int (own_cpa cd0 z0 s0 ((0 : Int32) + (own_cc (own_cpa cd0 z0 s0 (0 : Int32)))))), .val (.int (own_cpa cd1 z1 s1 ((0 : Int32) + (own_cc (own_cpa cd0 z0 s0 (0 : Int32))))))] [(.ref a1), (.int (z0 >>> (cd0 &&& 31)))])) rfl (by rw [hml]; rfl) (Steps.refl _) (argsL := []) (rest := [(.int (z0 >>> (cd0 &&& 31)))]) (lenOf pd_9 rfl) rfl (by show 2 * 0 + _ ≤ _; exact Nat.le_of_eq rfl) (hb hby d9_59) (fun _ _ => ⟨rfl, he30, (by decide : 0 + 0 ≤ _), (by decide : 0 + 0 ≤ _)⟩)
          dsimp only [Pt.U, Pt.locs, Pt.cells, Pt.slots] at X31 l31 y31 z31 st31 hQ31
          subst l31 y31 z31
          obtain ⟨rfl, N31q, he31⟩ := hQ31
          have N31 := Fr.app N30 N31q
          refine OwnFin.tr st31 ?_
          show OwnFin _ _ _ _ (T31.setTop (mkF m 62 _ [(.int (z1 >>> (cd1 &&& 31))), (.int (z0 >>> (cd0 &&& 31)))]))
          obtain ⟨_, _, ⟨T32, L32, k32, n32⟩, -, X32, ⟨Lc32, hQ32, l32, y32, z32⟩, st32⟩ := Jvm.LawKit.callS X31 hx (y := yM12) hown (mvT hZ (w_ hw 56 rfl)) (mvT hZ (w_ hw 57 rfl)) (mvT hZ (w_ hw 58 rfl)) (mvT hZ (w_ hw 59 rfl)) (by decide) (backOf (W := 0) (rm_ic l Z av0 hw [] (z0 >>> (cd0 &&& 31)) (z1 >>> (cd1 &&& 31)) h0 n0 (Nat.le_trans Z0 kp0.1) ) hZ (w_ hw 59 rfl) (w_ hw 58 rfl) (by decide) (by decide)) (g := (mkF m 62 #[.val (.ref a0), .val (.ref a1), .val (.int (((0 : Int32) + (own_cc (own_cpa cd0 z0 s0 (0 : Int32)))) + (own_cc (own_cpa cd0 z0 s0 ((0 : Int32) + (own_cc (own_cpa cd0 z0 s0 (0 : Int32)))))))), .val (.int (own_cpa cd0 z0 s0 ((0 : Int32) + (own_cc (own_cpa cd0 z0 s0 (0 : Int32)))))), .val (.int (own_cpa cd1 z1 s1 ((0 : Int32) + (own_cc (own_cpa cd0 z0 s0 (0 : Int32))))))] [(.int (z1 >>> (cd1 &&& 31))), (.int (z0 >>> (cd0 &&& 31)))])) rfl (by rw [hml]; rfl) (argsL := [(.int (z0 >>> (cd0 &&& 31))), (.int (z1 >>> (cd1 &&& 31)))]) (rest := []) (lenOf pd_11 rfl) rfl (by show 2 * 0 + _ ≤ _; exact Nat.le_of_eq rfl) (hb hby d9_62) (fun _ _ => ⟨rfl, he31, (by decide : 0 + 0 ≤ _), (by decide : 0 + 0 ≤ _)⟩)
          dsimp only [Pt.U, Pt.locs, Pt.cells, Pt.slots] at X32 l32 y32 z32 st32 hQ32
          subst l32 y32 z32
          obtain ⟨rfl, N32q, he32⟩ := hQ32
          have N32 := Fr.app N31 N32q
          refine OwnFin.st st32 ?_
          show OwnFin _ _ _ _ (T32.setTop (mkF m 65 #[.val (.ref a0), .val (.ref a1), .val (.int (((0 : Int32) + (own_cc (own_cpa cd0 z0 s0 (0 : Int32)))) + (own_cc (own_cpa cd0 z0 s0 ((0 : Int32) + (own_cc (own_cpa cd0 z0 s0 (0 : Int32)))))))), .val (.int (own_cpa cd0 z0 s0 ((0 : Int32) + (own_cc (own_cpa cd0 z0 s0 (0 : Int32)))))), .val (.int (own_cpa cd1 z1 s1 ((0 : Int32) + (own_cc (own_cpa cd0 z0 s0 (0 : Int32))))))] [(.int (own_ic (z0 >>> (cd0 &&& 31)) (z1 >>> (cd1 &&& 31))))]))
          obtain ⟨fs, hr, hrun, hended, hW, hsame⟩ := X32.leave (v := some (.int (own_ic (z0 >>> (cd0 &&& 31)) (z1 >>> (cd1 &&& 31))))) (fun h => by rw [Bd.returns] at h; cases h)
          refine ⟨_, _, retI X32 hx Bd.returns (hb hby d9_65) hr, hrun, hended, _, _, rfl, ?_, ⟨_, rfl⟩, hW, hsame.mono (by decide) (by decide)⟩
          show Q_rm_cmp Z a0 a1 cd0 b0 k_b0 z0 s0 cd1 b1 k_b1 z1 s1 w_COMPACT_STRINGS w_SIOOBE_FORMATTER h0 n0 _ T32.heap _
          rw [he32]
          refine ⟨?_, N32, rfl⟩
          simp only [own_cmpS, own_cmp]
          rw [if_pos hc2, if_pos hc4, if_pos hc7, if_pos hc10, if_pos hc12, if_pos hc15, if_pos hc18, if_neg hc20]
        ·
         refine OwnFin.st (fun _ q => XS.icmpYes X17.here hx rfl (pc0 := 7) (pc' := 54) rfl (hb hby d9_7) rfl (Jvm.Free.XT.ii_ge_t hc18) (by decide) (by decide) q) ?_
         show OwnFin _ _ _ _ (T17.setTop (mkF m 54 _ []))
         refine OwnFin.st (fun _ q => XS.aloadN X17.here hx rfl (hb hby d9_54) rfl rfl q) ?_
         show OwnFin _ _ _ _ (T17.setTop (mkF m 55 _ [(.ref a0)]))
         obtain ⟨cq33, kq33, q33a, q33b, q33c⟩ := isOf hZ he17 X_a0
         obtain ⟨_, _, ⟨T33, L33, k33, n33⟩, -, X33, ⟨Lc33, hQ33, l33, y33, z33⟩, st33⟩ := X17.virtualBack hx (y := yM8) (z := yM8) hown (mvT hZ (w_ hw 45 rfl)) (mvT hZ (w_ hw 46 rfl)) (notFace_of_selects (args := #[]) (mvT hZ (w_ hw 48 rfl))) (mvT hZ (w_ hw 48 rfl)) (mvT hZ (w_ hw 47 rfl)) (by decide) (backOf (W := 0) (rm_len l Z av0 hw [] a0 cd0 b0 k_b0 z0 s0 w_COMPACT_STRINGS h0 n0 (Nat.le_trans Z0 kp0.1) Ol0 X_a0 F_coder_a0 F_value_a0 V_b0 hcd0 S_COMPACT_STRINGS hcs) hZ (w_ hw 49 rfl) (w_ hw 22 rfl) (by decide) (by decide)) q33a q33c (g := (mkF m 55 #[.val (.ref a0), .val (.ref a1), .val (.int (((0 : Int32) + (own_cc (own_cpa cd0 z0 s0 (0 : Int32)))) + (own_cc (own_cpa cd0 z0 s0 ((0 : Int32) + (own_cc (own_cpa cd0 z0 s0 (0 : Int32)))))))), .val (.int (own_cpa cd0 z0 s0 ((0 : Int32) + (own_cc (own_cpa cd0 z0 s0 (0 : Int32)))))), .val (.int (own_cpa cd1 z1 s1 ((0 : Int32) + (own_cc (own_cpa cd0 z0 s0 (0 : Int32))))))] [(.ref a0)])) rfl (by rw [hml]; rfl) (Steps.refl _) (argsL := []) (rest := []) (lenOf pd_9 rfl) rfl (by show 2 * 0 + _ ≤ _; exact Nat.le_of_eq rfl) (hb hby d9_55) (fun _ _ => ⟨rfl, he17, (by decide : 0 + 0 ≤ _), (by decide : 0 + 0 ≤ _)⟩)
         dsimp only [Pt.U, Pt.locs, Pt.cells, Pt.slots] at X33 l33 y33 z33 st33 hQ33
         subst l33 y33 z33
         obtain ⟨rfl, N33q, he33⟩ := hQ33
         have N33 := Fr.app N17 N33q
         refine OwnFin.tr st33 ?_
         show OwnFin _ _ _ _ (T33.setTop (mkF m 58 _ [(.int (z0 >>> (cd0 &&& 31)))]))
         refine OwnFin.st (fun _ q => XS.aloadN X33.here hx rfl (hb hby d9_58) rfl rfl q) ?_
         show OwnFin _ _ _ _ (T33.setTop (mkF m 59 _ [(.ref a1), (.int (z0 >>> (cd0 &&& 31)))]))
         obtain ⟨cq34, kq34, q34a, q34b, q34c⟩ := isOf hZ he33 X_a1
         obtain ⟨_, _, ⟨T34, L34, k34, n34⟩, -, X34, ⟨Lc34, hQ34, l34, y34, z34⟩, st34⟩ := X33.virtualBack hx (y := yM8) (z := yM8) hown (mvT hZ (w_ hw 45 rfl)) (mvT hZ (w_ hw 46 rfl)) (notFace_of_selects (args := #[]) (mvT hZ (w_ hw 48 rfl))) (mvT hZ (w_ hw 48 rfl)) (mvT hZ (w_ hw 47 rfl)) (by decide) (backOf (W := 1) (rm_len l Z av0 hw [] a1 cd1 b1 k_b1 z1 s1 w_COMPACT_STRINGS h0 n0 (Nat.le_trans Z0 kp0.1) Ol0 X_a1 F_coder_a1 F_value_a1 V_b1 hcd1 S_COMPACT_STRINGS hcs) hZ (w_ hw 49 rfl) (w_ hw 22 rfl) (by decide) (by decide)) q34a q34c (g := (mkF m 59 #[.val (.ref a0), .val (.ref a1), .val (.int (((0 : Int32) + (own_cc (own_cpa cd0 z0 s0 (0 : Int32)))) + (own_cc (own_cpa cd0 z0 s0 ((0 : Int32) + (own_cc (own_cpa cd0 z0 s0 (0 : Int32)))))))), .val (.int (own_cpa cd0 z0 s0 ((0 : Int32) + (own_cc (own_cpa cd0 z0 s0 (0 : Int32)))))), .val (.int (own_cpa cd1 z1 s1 ((0 : Int32) + (own_cc (own_cpa cd0 z0 s0 (0 : Int32))))))] [(.ref a1), (.int (z0 >>> (cd0 &&& 31)))])) rfl (by rw [hml]; rfl) (Steps.refl _) (argsL := []) (rest := [(.int (z0 >>> (cd0 &&& 31)))]) (lenOf pd_9 rfl) rfl (by show 2 * 0 + _ ≤ _; exact Nat.le_of_eq rfl) (hb hby d9_59) (fun _ _ => ⟨rfl, he33, (by decide : 0 + 0 ≤ _), (by decide : 0 + 0 ≤ _)⟩)
         dsimp only [Pt.U, Pt.locs, Pt.cells, Pt.slots] at X34 l34 y34 z34 st34 hQ34
         subst l34 y34 z34
         obtain ⟨rfl, N34q, he34⟩ := hQ34
         have N34 := Fr.app N33 N34q
         refine OwnFin.tr st34 ?_
         show OwnFin _ _ _ _ (T34.setTop (mkF m 62 _ [(.int (z1 >>> (cd1 &&& 31))), (.int (z0 >>> (cd0 &&& 31)))]))
         obtain ⟨_, _, ⟨T35, L35, k35, n35⟩, -, X35, ⟨Lc35, hQ35, l35, y35, z35⟩, st35⟩ := Jvm.LawKit.callS X34 hx (y := yM12) hown (mvT hZ (w_ hw 56 rfl)) (mvT hZ (w_ hw 57 rfl)) (mvT hZ (w_ hw 58 rfl)) (mvT hZ (w_ hw 59 rfl)) (by decide) (backOf (W := 0) (rm_ic l Z av0 hw [] (z0 >>> (cd0 &&& 31)) (z1 >>> (cd1 &&& 31)) h0 n0 (Nat.le_trans Z0 kp0.1) ) hZ (w_ hw 59 rfl) (w_ hw 58 rfl) (by decide) (by decide)) (g := (mkF m 62 #[.val (.ref a0), .val (.ref a1), .val (.int (((0 : Int32) + (own_cc (own_cpa cd0 z0 s0 (0 : Int32)))) + (own_cc (own_cpa cd0 z0 s0 ((0 : Int32) + (own_cc (own_cpa cd0 z0 s0 (0 : Int32)))))))), .val (.int (own_cpa cd0 z0 s0 ((0 : Int32) + (own_cc (own_cpa cd0 z0 s0 (0 : Int32)))))), .val (.int (own_cpa cd1 z1 s1 ((0 : Int32) + (own_cc (own_cpa cd0 z0 s0 (0 : Int32))))))] [(.int (z1 >>> (cd1 &&& 31))), (.int (z0 >>> (cd0 &&& 31)))])) rfl (by rw [hml]; rfl) (argsL := [(.int (z0 >>> (cd0 &&& 31))), (.int (z1 >>> (cd1 &&& 31)))]) (rest := []) (lenOf pd_11 rfl) rfl (by show 2 * 0 + _ ≤ _; exact Nat.le_of_eq rfl) (hb hby d9_62) (fun _ _ => ⟨rfl, he34, (by decide : 0 + 0 ≤ _), (by decide : 0 + 0 ≤ _)⟩)
         dsimp only [Pt.U, Pt.locs, Pt.cells, Pt.slots] at X35 l35 y35 z35 st35 hQ35
         subst l35 y35 z35
         obtain ⟨rfl, N35q, he35⟩ := hQ35
         have N35 := Fr.app N34 N35q
         refine OwnFin.st st35 ?_
         show OwnFin _ _ _ _ (T35.setTop (mkF m 65 _ [(.int (own_ic (z0 >>> (cd0 &&& 31)) (z1 >>> (cd1 &&& 31))))]))
         obtain ⟨fs, hr, hrun, hended, hW, hsame⟩ := X35.leave (v := some (.int (own_ic (z0 >>> (cd0 &&& 31)) (z1 >>> (cd1 &&& 31))))) (fun h => by rw [Bd.returns] at h; cases h)
         refine ⟨_, _, retI X35 hx Bd.returns (hb hby d9_65) hr, hrun, hended, _, _, rfl, ?_, ⟨_, rfl⟩, hW, hsame.mono (by decide) (by decide)⟩
         show Q_rm_cmp Z a0 a1 cd0 b0 k_b0 z0 s0 cd1 b1 k_b1 z1 s1 w_COMPACT_STRINGS w_SIOOBE_FORMATTER h0 n0 _ T35.heap _
         rw [he35]
         refine ⟨?_, N35, rfl⟩
         simp only [own_cmpS, own_cmp]
         rw [if_pos hc2, if_pos hc4, if_pos hc7, if_pos hc10, if_pos hc12, if_pos hc15, if_neg hc18]
       ·
        refine OwnFin.st (fun _ q => XS.icmpNo X14.here hx rfl (hb hby d9_34) rfl (Jvm.Free.XT.ii_eq_f hc15) q) ?_
        show OwnFin _ _ _ _ (T14.setTop (mkF m 37 _ []))
        refine OwnFin.st (fun _ q => XS.iloadN X14.here hx rfl (hb hby d9_37) rfl q) ?_
        show OwnFin _ _ _ _ (T14.setTop (mkF m 38 _ [(.int (own_cpa cd0 z0 s0 ((0 : Int32) + (own_cc (own_cpa cd0 z0 s0 (0 : Int32))))))]))
        refine OwnFin.st (fun _ q => XS.iload X14.here hx rfl (hb hby d9_38) rfl q) ?_
        show OwnFin _ _ _ _ (T14.setTop (mkF m 40 _ [(.int (own_cpa cd1 z1 s1 ((0 : Int32) + (own_cc (own_cpa cd0 z0 s0 (0 : Int32)))))), (.int (own_cpa cd0 z0 s0 ((0 : Int32) + (own_cc (own_cpa cd0 z0 s0 (0 : Int32))))))]))
        obtain ⟨_, _, ⟨T36, L36, k36, n36⟩, -, X36, ⟨Lc36, hQ36, l36, y36, z36⟩, st36⟩ := Jvm.LawKit.callS X14 hx (y := yM12) hown (mvT hZ (w_ hw 56 rfl)) (mvT hZ (w_ hw 57 rfl)) (mvT hZ (w_ hw 58 rfl)) (mvT hZ (w_ hw 59 rfl)) (by decide) (backOf (W := 0) (rm_ic l Z av0 hw [] (own_cpa cd0 z0 s0 ((0 : Int32) + (own_cc (own_cpa cd0 z0 s0 (0 : Int32))))) (own_cpa cd1 z1 s1 ((0 : Int32) + (own_cc (own_cpa cd0 z0 s0 (0 : Int32))))) h0 n0 (Nat.le_trans Z0 kp0.1) ) hZ (w_ hw 59 rfl) (w_ hw 58 rfl) (by decide) (by decide)) (g := (mkF m 40 #[.val (.ref a0), .val (.ref a1), .val (.int ((0 : Int32) + (own_cc (own_cpa cd0 z0 s0 (0 : Int32))))), .val (.int (own_cpa cd0 z0 s0 ((0 : Int32) + (own_cc (own_cpa cd0 z0 s0 (0 : Int32)))))), .val (.int (own_cpa cd1 z1 s1 ((0 : Int32) + (own_cc (own_cpa cd0 z0 s0 (0 : Int32))))))] [(.int (own_cpa cd1 z1 s1 ((0 : Int32) + (own_cc (own_cpa cd0 z0 s0 (0 : Int32)))))), (.int (own_cpa cd0 z0 s0 ((0 : Int32) + (own_cc (own_cpa cd0 z0 s0 (0 : Int32))))))])) rfl (by rw [hml]; rfl) (argsL := [(.int (own_cpa cd0 z0 s0 ((0 : Int32) + (own_cc (own_cpa cd0 z0 s0 (0 : Int32)))))), (.int (own_cpa cd1 z1 s1 ((0 : Int32) + (own_cc (own_cpa cd0 z0 s0 (0 : Int32))))))]) (rest := []) (lenOf pd_11 rfl) rfl (by show 2 * 0 + _ ≤ _; exact Nat.le_of_eq rfl) (hb hby d9_40) (fun _ _ => ⟨rfl, he14, (by decide : 0 + 0 ≤ _), (by decide : 0 + 0 ≤ _)⟩)
        dsimp only [Pt.U, Pt.locs, Pt.cells, Pt.slots] at X36 l36 y36 z36 st36 hQ36
        subst l36 y36 z36
        obtain ⟨rfl, N36q, he36⟩ := hQ36
        have N36 := Fr.app N14 N36q
        refine OwnFin.st st36 ?_
        show OwnFin _ _ _ _ (T36.setTop (mkF m 43 _ [(.int (own_ic (own_cpa cd0 z0 s0 ((0 : Int32) + (own_cc (own_cpa cd0 z0 s0 (0 : Int32))))) (own_cpa cd1 z1 s1 ((0 : Int32) + (own_cc (own_cpa cd0 z0 s0 (0 : Int32)))))))]))
        obtain ⟨fs, hr, hrun, hended, hW, hsame⟩ := X36.leave (v := some (.int (own_ic (own_cpa cd0 z0 s0 ((0 : Int32) + (own_cc (own_cpa cd0 z0 s0 (0 : Int32))))) (own_cpa cd1 z1 s1 ((0 : Int32) + (own_cc (own_cpa cd0 z0 s0 (0 : Int32)))))))) (fun h => by rw [Bd.returns] at h; cases h)
        refine ⟨_, _, retI X36 hx Bd.returns (hb hby d9_43) hr, hrun, hended, _, _, rfl, ?_, ⟨_, rfl⟩, hW, hsame.mono (by decide) (by decide)⟩
        show Q_rm_cmp Z a0 a1 cd0 b0 k_b0 z0 s0 cd1 b1 k_b1 z1 s1 w_COMPACT_STRINGS w_SIOOBE_FORMATTER h0 n0 _ T36.heap _
        rw [he36]
        refine ⟨?_, N36, rfl⟩
        simp only [own_cmpS, own_cmp]
        rw [if_pos hc2, if_pos hc4, if_pos hc7, if_pos hc10, if_pos hc12, if_neg hc15]
      ·
       refine OwnFin.st (fun _ q => XS.icmpYes X11.here hx rfl (pc0 := 15) (pc' := 54) rfl (hb hby d9_15) rfl (Jvm.Free.XT.ii_ge_t hc12) (by decide) (by decide) q) ?_
       show OwnFin _ _ _ _ (T11.setTop (mkF m 54 _ []))
       refine OwnFin.st (fun _ q => XS.aloadN X11.here hx rfl (hb hby d9_54) rfl rfl q) ?_
       show OwnFin _ _ _ _ (T11.setTop (mkF m 55 _ [(.ref a0)]))
       obtain ⟨cq37, kq37, q37a, q37b, q37c⟩ := isOf hZ he11 X_a0
       obtain ⟨_, _, ⟨T37, L37, k37, n37⟩, -, X37, ⟨Lc37, hQ37, l37, y37, z37⟩, st37⟩ := X11.virtualBack hx (y := yM8) (z := yM8) hown (mvT hZ (w_ hw 45 rfl)) (mvT hZ (w_ hw 46 rfl)) (notFace_of_selects (args := #[]) (mvT hZ (w_ hw 48 rfl))) (mvT hZ (w_ hw 48 rfl)) (mvT hZ (w_ hw 47 rfl)) (by decide) (backOf (W := 0) (rm_len l Z av0 hw [] a0 cd0 b0 k_b0 z0 s0 w_COMPACT_STRINGS h0 n0 (Nat.le_trans Z0 kp0.1) Ol0 X_a0 F_coder_a0 F_value_a0 V_b0 hcd0 S_COMPACT_STRINGS hcs) hZ (w_ hw 49 rfl) (w_ hw 22 rfl) (by decide) (by decide)) q37a q37c (g := (mkF m 55 #[.val (.ref a0), .val (.ref a1), .val (.int ((0 : Int32) + (own_cc (own_cpa cd0 z0 s0 (0 : Int32))))), .val (.int (own_cpa cd0 z0 s0 (0 : Int32))), .val (.int (own_cpa cd1 z1 s1 (0 : Int32)))] [(.ref a0)])) rfl (by rw [hml]; rfl) (Steps.refl _) (argsL := []) (rest := []) (lenOf pd_9 rfl) rfl (by show 2 * 0 + _ ≤ _; exact Nat.le_of_eq rfl) (hb hby d9_55) (fun _ _ => ⟨rfl, he11, (by decide : 0 + 0 ≤ _), (by decide : 0 + 0 ≤ _)⟩)
       dsimp only [Pt.U, Pt.locs, Pt.cells, Pt.slots] at X37 l37 y37 z37 st37 hQ37
       subst l37 y37 z37
       obtain ⟨rfl, N37q, he37⟩ := hQ37
       have N37 := Fr.app N11 N37q
       refine OwnFin.tr st37 ?_
       show OwnFin _ _ _ _ (T37.setTop (mkF m 58 _ [(.int (z0 >>> (cd0 &&& 31)))]))
       refine OwnFin.st (fun _ q => XS.aloadN X37.here hx rfl (hb hby d9_58) rfl rfl q) ?_
       show OwnFin _ _ _ _ (T37.setTop (mkF m 59 _ [(.ref a1), (.int (z0 >>> (cd0 &&& 31)))]))
       obtain ⟨cq38, kq38, q38a, q38b, q38c⟩ := isOf hZ he37 X_a1
       obtain ⟨_, _, ⟨T38, L38, k38, n38⟩, -, X38, ⟨Lc38, hQ38, l38, y38, z38⟩, st38⟩ := X37.virtualBack hx (y := yM8) (z := yM8) hown (mvT hZ (w_ hw 45 rfl)) (mvT hZ (w_ hw 46 rfl)) (notFace_of_selects (args := #[]) (mvT hZ (w_ hw 48 rfl))) (mvT hZ (w_ hw 48 rfl)) (mvT hZ (w_ hw 47 rfl)) (by decide) (backOf (W := 1) (rm_len l Z av0 hw [] a1 cd1 b1 k_b1 z1 s1 w_COMPACT_STRINGS h0 n0 (Nat.le_trans Z0 kp0.1) Ol0 X_a1 F_coder_a1 F_value_a1 V_b1 hcd1 S_COMPACT_STRINGS hcs) hZ (w_ hw 49 rfl) (w_ hw 22 rfl) (by decide) (by decide)) q38a q38c (g := (mkF m 59 #[.val (.ref a0), .val (.ref a1), .val (.int ((0 : Int32) + (own_cc (own_cpa cd0 z0 s0 (0 : Int32))))), .val (.int (own_cpa cd0 z0 s0 (0 : Int32))), .val (.int (own_cpa cd1 z1 s1 (0 : Int32)))] [(.ref a1), (.int (z0 >>> (cd0 &&& 31)))])) rfl (by rw [hml]; rfl) (Steps.refl _) (argsL := []) (rest := [(.int (z0 >>> (cd0 &&& 31)))]) (lenOf pd_9 rfl) rfl (by show 2 * 0 + _ ≤ _; exact Nat.le_of_eq rfl) (hb hby d9_59) (fun _ _ => ⟨rfl, he37, (by decide : 0 + 0 ≤ _), (by decide : 0 + 0 ≤ _)⟩)
       dsimp only [Pt.U, Pt.locs, Pt.cells, Pt.slots] at X38 l38 y38 z38 st38 hQ38
       subst l38 y38 z38
       obtain ⟨rfl, N38q, he38⟩ := hQ38
       have N38 := Fr.app N37 N38q
       refine OwnFin.tr st38 ?_
       show OwnFin _ _ _ _ (T38.setTop (mkF m 62 #[.val (.ref a0), .val (.ref a1), .val (.int ((0 : Int32) + (own_cc (own_cpa cd0 z0 s0 (0 : Int32))))), .val (.int (own_cpa cd0 z0 s0 (0 : Int32))), .val (.int (own_cpa cd1 z1 s1 (0 : Int32)))] [(.int (z1 >>> (cd1 &&& 31))), (.int (z0 >>> (cd0 &&& 31)))]))
       obtain ⟨_, _, ⟨T39, L39, k39, n39⟩, -, X39, ⟨Lc39, hQ39, l39, y39, z39⟩, st39⟩ := Jvm.LawKit.callS X38 hx (y := yM12) hown (mvT hZ (w_ hw 56 rfl)) (mvT hZ (w_ hw 57 rfl)) (mvT hZ (w_ hw 58 rfl)) (mvT hZ (w_ hw 59 rfl)) (by decide) (backOf (W := 0) (rm_ic l Z av0 hw [] (z0 >>> (cd0 &&& 31)) (z1 >>> (cd1 &&& 31)) h0 n0 (Nat.le_trans Z0 kp0.1) ) hZ (w_ hw 59 rfl) (w_ hw 58 rfl) (by decide) (by decide)) (g := (mkF m 62 #[.val (.ref a0), .val (.ref a1), .val (.int ((0 : Int32) + (own_cc (own_cpa cd0 z0 s0 (0 : Int32))))), .val (.int (own_cpa cd0 z0 s0 (0 : Int32))), .val (.int (own_cpa cd1 z1 s1 (0 : Int32)))] [(.int (z1 >>> (cd1 &&& 31))), (.int (z0 >>> (cd0 &&& 31)))])) rfl (by rw [hml]; rfl) (argsL := [(.int (z0 >>> (cd0 &&& 31))), (.int (z1 >>> (cd1 &&& 31)))]) (rest := []) (lenOf pd_11 rfl) rfl (by show 2 * 0 + _ ≤ _; exact Nat.le_of_eq rfl) (hb hby d9_62) (fun _ _ => ⟨rfl, he38, (by decide : 0 + 0 ≤ _), (by decide : 0 + 0 ≤ _)⟩)
       dsimp only [Pt.U, Pt.locs, Pt.cells, Pt.slots] at X39 l39 y39 z39 st39 hQ39
       subst l39 y39 z39
       obtain ⟨rfl, N39q, he39⟩ := hQ39
       have N39 := Fr.app N38 N39q
       refine OwnFin.st st39 ?_
       show OwnFin _ _ _ _ (T39.setTop (mkF m 65 _ [(.int (own_ic (z0 >>> (cd0 &&& 31)) (z1 >>> (cd1 &&& 31))))]))
       obtain ⟨fs, hr, hrun, hended, hW, hsame⟩ := X39.leave (v := some (.int (own_ic (z0 >>> (cd0 &&& 31)) (z1 >>> (cd1 &&& 31))))) (fun h => by rw [Bd.returns] at h; cases h)
       refine ⟨_, _, retI X39 hx Bd.returns (hb hby d9_65) hr, hrun, hended, _, _, rfl, ?_, ⟨_, rfl⟩, hW, hsame.mono (by decide) (by decide)⟩
       show Q_rm_cmp Z a0 a1 cd0 b0 k_b0 z0 s0 cd1 b1 k_b1 z1 s1 w_COMPACT_STRINGS w_SIOOBE_FORMATTER h0 n0 _ T39.heap _
       rw [he39]
       refine ⟨?_, N39, rfl⟩
       simp only [own_cmpS, own_cmp]
       rw [if_pos hc2, if_pos hc4, if_pos hc7, if_pos hc10, if_neg hc12]
     ·
      refine OwnFin.st (fun _ q => XS.icmpYes X9.here hx rfl (pc0 := 7) (pc' := 54) rfl (hb hby d9_7) rfl (Jvm.Free.XT.ii_ge_t hc10) (by decide) (by decide) q) ?_
      show OwnFin _ _ _ _ (T9.setTop (mkF m 54 _ []))
      refine OwnFin.st (fun _ q => XS.aloadN X9.here hx rfl (hb hby d9_54) rfl rfl q) ?_
      show OwnFin _ _ _ _ (T9.setTop (mkF m 55 _ [(.ref a0)]))
      obtain ⟨cq40, kq40, q40a, q40b, q40c⟩ := isOf hZ he9 X_a0
      obtain ⟨_, _, ⟨T40, L40, k40, n40⟩, -, X40, ⟨Lc40, hQ40, l40, y40, z40⟩, st40⟩ := X9.virtualBack hx (y := yM8) (z := yM8) hown (mvT hZ (w_ hw 45 rfl)) (mvT hZ (w_ hw 46 rfl)) (notFace_of_selects (args := #[]) (mvT hZ (w_ hw 48 rfl))) (mvT hZ (w_ hw 48 rfl)) (mvT hZ (w_ hw 47 rfl)) (by decide) (backOf (W := 0) (rm_len l Z av0 hw [] a0 cd0 b0 k_b0 z0 s0 w_COMPACT_STRINGS h0 n0 (Nat.le_trans Z0 kp0.1) Ol0 X_a0 F_coder_a0 F_value_a0 V_b0 hcd0 S_COMPACT_STRINGS hcs) hZ (w_ hw 49 rfl) (w_ hw 22 rfl) (by decide) (by decide)) q40a q40c (g := (mkF m 55 #[.val (.ref a0), .val (.ref a1), .val (.int ((0 : Int32) + (own_cc (own_cpa cd0 z0 s0 (0 : Int32))))), .val (.int (own_cpa cd0 z0 s0 (0 : Int32))), .val (.int (own_cpa cd1 z1 s1 (0 : Int32)))] [(.ref a0)])) rfl (by rw [hml]; rfl) (Steps.refl _) (argsL := []) (rest := []) (lenOf pd_9 rfl) rfl (by show 2 * 0 + _ ≤ _; exact Nat.le_of_eq rfl) (hb hby d9_55) (fun _ _ => ⟨rfl, he9, (by decide : 0 + 0 ≤ _), (by decide : 0 + 0 ≤ _)⟩)
      dsimp only [Pt.U, Pt.locs, Pt.cells, Pt.slots] at X40 l40 y40 z40 st40 hQ40
      subst l40 y40 z40
      obtain ⟨rfl, N40q, he40⟩ := hQ40
      have N40 := Fr.app N9 N40q
      refine OwnFin.tr st40 ?_
      show OwnFin _ _ _ _ (T40.setTop (mkF m 58 _ [(.int (z0 >>> (cd0 &&& 31)))]))
      refine OwnFin.st (fun _ q => XS.aloadN X40.here hx rfl (hb hby d9_58) rfl rfl q) ?_
      show OwnFin _ _ _ _ (T40.setTop (mkF m 59 _ [(.ref a1), (.int (z0 >>> (cd0 &&& 31)))]))
      obtain ⟨cq41, kq41, q41a, q41b, q41c⟩ := isOf hZ he40 X_a1
      obtain ⟨_, _, ⟨T41, L41, k41, n41⟩, -, X41, ⟨Lc41, hQ41, l41, y41, z41⟩, st41⟩ := X40.virtualBack hx (y := yM8) (z := yM8) hown (mvT hZ (w_ hw 45 rfl)) (mvT hZ (w_ hw 46 rfl)) (notFace_of_selects (args := #[]) (mvT hZ (w_ hw 48 rfl))) (mvT hZ (w_ hw 48 rfl)) (mvT hZ (w_ hw 47 rfl)) (by decide) (backOf (W := 1) (rm_len l Z av0 hw [] a1 cd1 b1 k_b1 z1 s1 w_COMPACT_STRINGS h0 n0 (Nat.le_trans Z0 kp0.1) Ol0 X_a1 F_coder_a1 F_value_a1 V_b1 hcd1 S_COMPACT_STRINGS hcs) hZ (w_ hw 49 rfl) (w_ hw 22 rfl) (by decide) (by decide)) q41a q41c (g := (mkF m 59 #[.val (.ref a0), .val (.ref a1), .val (.int ((0 : Int32) + (own_cc (own_cpa cd0 z0 s0 (0 : Int32))))), .val (.int (own_cpa cd0 z0 s0 (0 : Int32))), .val (.int (own_cpa cd1 z1 s1 (0 : Int32)))] [(.ref a1), (.int (z0 >>> (cd0 &&& 31)))])) rfl (by rw [hml]; rfl) (Steps.refl _) (argsL := []) (rest := [(.int (z0 >>> (cd0 &&& 31)))]) (lenOf pd_9 rfl) rfl (by show 2 * 0 + _ ≤ _; exact Nat.le_of_eq rfl) (hb hby d9_59) (fun _ _ => ⟨rfl, he40, (by decide : 0 + 0 ≤ _), (by decide : 0 + 0 ≤ _)⟩)
      dsimp only [Pt.U, Pt.locs, Pt.cells, Pt.slots] at X41 l41 y41 z41 st41 hQ41
      subst l41 y41 z41
      obtain ⟨rfl, N41q, he41⟩ := hQ41
      have N41 := Fr.app N40 N41q
      refine OwnFin.tr st41 ?_
      show OwnFin _ _ _ _ (T41.setTop (mkF m 62 _ [(.int (z1 >>> (cd1 &&& 31))), (.int (z0 >>> (cd0 &&& 31)))]))
      obtain ⟨_, _, ⟨T42, L42, k42, n42⟩, -, X42, ⟨Lc42, hQ42, l42, y42, z42⟩, st42⟩ := Jvm.LawKit.callS X41 hx (y := yM12) hown (mvT hZ (w_ hw 56 rfl)) (mvT hZ (w_ hw 57 rfl)) (mvT hZ (w_ hw 58 rfl)) (mvT hZ (w_ hw 59 rfl)) (by decide) (backOf (W := 0) (rm_ic l Z av0 hw [] (z0 >>> (cd0 &&& 31)) (z1 >>> (cd1 &&& 31)) h0 n0 (Nat.le_trans Z0 kp0.1) ) hZ (w_ hw 59 rfl) (w_ hw 58 rfl) (by decide) (by decide)) (g := (mkF m 62 #[.val (.ref a0), .val (.ref a1), .val (.int ((0 : Int32) + (own_cc (own_cpa cd0 z0 s0 (0 : Int32))))), .val (.int (own_cpa cd0 z0 s0 (0 : Int32))), .val (.int (own_cpa cd1 z1 s1 (0 : Int32)))] [(.int (z1 >>> (cd1 &&& 31))), (.int (z0 >>> (cd0 &&& 31)))])) rfl (by rw [hml]; rfl) (argsL := [(.int (z0 >>> (cd0 &&& 31))), (.int (z1 >>> (cd1 &&& 31)))]) (rest := []) (lenOf pd_11 rfl) rfl (by show 2 * 0 + _ ≤ _; exact Nat.le_of_eq rfl) (hb hby d9_62) (fun _ _ => ⟨rfl, he41, (by decide : 0 + 0 ≤ _), (by decide : 0 + 0 ≤ _)⟩)
      dsimp only [Pt.U, Pt.locs, Pt.cells, Pt.slots] at X42 l42 y42 z42 st42 hQ42
      subst l42 y42 z42
      obtain ⟨rfl, N42q, he42⟩ := hQ42
      have N42 := Fr.app N41 N42q
      refine OwnFin.st st42 ?_
      show OwnFin _ _ _ _ (T42.setTop (mkF m 65 _ [(.int (own_ic (z0 >>> (cd0 &&& 31)) (z1 >>> (cd1 &&& 31))))]))
      obtain ⟨fs, hr, hrun, hended, hW, hsame⟩ := X42.leave (v := some (.int (own_ic (z0 >>> (cd0 &&& 31)) (z1 >>> (cd1 &&& 31))))) (fun h => by rw [Bd.returns] at h; cases h)
      refine ⟨_, _, retI X42 hx Bd.returns (hb hby d9_65) hr, hrun, hended, _, _, rfl, ?_, ⟨_, rfl⟩, hW, hsame.mono (by decide) (by decide)⟩
      show Q_rm_cmp Z a0 a1 cd0 b0 k_b0 z0 s0 cd1 b1 k_b1 z1 s1 w_COMPACT_STRINGS w_SIOOBE_FORMATTER h0 n0 _ T42.heap _
      rw [he42]
      refine ⟨?_, N42, rfl⟩
      simp only [own_cmpS, own_cmp]
      rw [if_pos hc2, if_pos hc4, if_pos hc7, if_neg hc10]
    ·
     refine OwnFin.st (fun _ q => XS.icmpNo X6.here hx rfl (hb hby d9_34) rfl (Jvm.Free.XT.ii_eq_f hc7) q) ?_
     show OwnFin _ _ _ _ (T6.setTop (mkF m 37 _ []))
     refine OwnFin.st (fun _ q => XS.iloadN X6.here hx rfl (hb hby d9_37) rfl q) ?_
     show OwnFin _ _ _ _ (T6.setTop (mkF m 38 _ [(.int (own_cpa cd0 z0 s0 (0 : Int32)))]))
     refine OwnFin.st (fun _ q => XS.iload X6.here hx rfl (hb hby d9_38) rfl q) ?_
     show OwnFin _ _ _ _ (T6.setTop (mkF m 40 _ [(.int (own_cpa cd1 z1 s1 (0 : Int32))), (.int (own_cpa cd0 z0 s0 (0 : Int32)))]))
     obtain ⟨_, _, ⟨T43, L43, k43, n43⟩, -, X43, ⟨Lc43, hQ43, l43, y43, z43⟩, st43⟩ := Jvm.LawKit.callS X6 hx (y := yM12) hown (mvT hZ (w_ hw 56 rfl)) (mvT hZ (w_ hw 57 rfl)) (mvT hZ (w_ hw 58 rfl)) (mvT hZ (w_ hw 59 rfl)) (by decide) (backOf (W := 0) (rm_ic l Z av0 hw [] (own_cpa cd0 z0 s0 (0 : Int32)) (own_cpa cd1 z1 s1 (0 : Int32)) h0 n0 (Nat.le_trans Z0 kp0.1) ) hZ (w_ hw 59 rfl) (w_ hw 58 rfl) (by decide) (by decide)) (g := (mkF m 40 #[.val (.ref a0), .val (.ref a1), .val (.int 0), .val (.int (own_cpa cd0 z0 s0 (0 : Int32))), .val (.int (own_cpa cd1 z1 s1 (0 : Int32)))] [(.int (own_cpa cd1 z1 s1 (0 : Int32))), (.int (own_cpa cd0 z0 s0 (0 : Int32)))])) rfl (by rw [hml]; rfl) (argsL := [(.int (own_cpa cd0 z0 s0 (0 : Int32))), (.int (own_cpa cd1 z1 s1 (0 : Int32)))]) (rest := []) (lenOf pd_11 rfl) rfl (by show 2 * 0 + _ ≤ _; exact Nat.le_of_eq rfl) (hb hby d9_40) (fun _ _ => ⟨rfl, he6, (by decide : 0 + 0 ≤ _), (by decide : 0 + 0 ≤ _)⟩)
     dsimp only [Pt.U, Pt.locs, Pt.cells, Pt.slots] at X43 l43 y43 z43 st43 hQ43
     subst l43 y43 z43
     obtain ⟨rfl, N43q, he43⟩ := hQ43
     have N43 := Fr.app N6 N43q
     refine OwnFin.st st43 ?_
     show OwnFin _ _ _ _ (T43.setTop (mkF m 43 _ [(.int (own_ic (own_cpa cd0 z0 s0 (0 : Int32)) (own_cpa cd1 z1 s1 (0 : Int32))))]))
     obtain ⟨fs, hr, hrun, hended, hW, hsame⟩ := X43.leave (v := some (.int (own_ic (own_cpa cd0 z0 s0 (0 : Int32)) (own_cpa cd1 z1 s1 (0 : Int32))))) (fun h => by rw [Bd.returns] at h; cases h)
     refine ⟨_, _, retI X43 hx Bd.returns (hb hby d9_43) hr, hrun, hended, _, _, rfl, ?_, ⟨_, rfl⟩, hW, hsame.mono (by decide) (by decide)⟩
     show Q_rm_cmp Z a0 a1 cd0 b0 k_b0 z0 s0 cd1 b1 k_b1 z1 s1 w_COMPACT_STRINGS w_SIOOBE_FORMATTER h0 n0 _ T43.heap _
     rw [he43]
     refine ⟨?_, N43, rfl⟩
     simp only [own_cmpS, own_cmp]
     rw [if_pos hc2, if_pos hc4, if_neg hc7]
   ·
    refine OwnFin.st (fun _ q => XS.icmpYes X3.here hx rfl (pc0 := 15) (pc' := 54) rfl (hb hby d9_15) rfl (Jvm.Free.XT.ii_ge_t hc4) (by decide) (by decide) q) ?_
    show OwnFin _ _ _ _ (T3.setTop (mkF m 54 _ []))
    refine OwnFin.st (fun _ q => XS.aloadN X3.here hx rfl (hb hby d9_54) rfl rfl q) ?_
    show OwnFin _ _ _ _ (T3.setTop (mkF m 55 _ [(.ref a0)]))
    obtain ⟨cq44, kq44, q44a, q44b, q44c⟩ := isOf hZ he3 X_a0
    obtain ⟨_, _, ⟨T44, L44, k44, n44⟩, -, X44, ⟨Lc44, hQ44, l44, y44, z44⟩, st44⟩ := X3.virtualBack hx (y := yM8) (z := yM8) hown (mvT hZ (w_ hw 45 rfl)) (mvT hZ (w_ hw 46 rfl)) (notFace_of_selects (args := #[]) (mvT hZ (w_ hw 48 rfl))) (mvT hZ (w_ hw 48 rfl)) (mvT hZ (w_ hw 47 rfl)) (by decide) (backOf (W := 0) (rm_len l Z av0 hw [] a0 cd0 b0 k_b0 z0 s0 w_COMPACT_STRINGS h0 n0 (Nat.le_trans Z0 kp0.1) Ol0 X_a0 F_coder_a0 F_value_a0 V_b0 hcd0 S_COMPACT_STRINGS hcs) hZ (w_ hw 49 rfl) (w_ hw 22 rfl) (by decide) (by decide)) q44a q44c (g := (mkF m 55 #[.val (.ref a0), .val (.ref a1), .val (.int 0), .unset, .unset] [(.ref a0)])) rfl (by rw [hml]; rfl) (Steps.refl _) (argsL := []) (rest := []) (lenOf pd_9 rfl) rfl (by show 2 * 0 + _ ≤ _; exact Nat.le_of_eq rfl) (hb hby d9_55) (fun _ _ => ⟨rfl, he3, (by decide : 0 + 0 ≤ _), (by decide : 0 + 0 ≤ _)⟩)
    dsimp only [Pt.U, Pt.locs, Pt.cells, Pt.slots] at X44 l44 y44 z44 st44 hQ44
    subst l44 y44 z44
    obtain ⟨rfl, N44q, he44⟩ := hQ44
    have N44 := Fr.app N3 N44q
    refine OwnFin.tr st44 ?_
    show OwnFin _ _ _ _ (T44.setTop (mkF m 58 _ [(.int (z0 >>> (cd0 &&& 31)))]))
    refine OwnFin.st (fun _ q => XS.aloadN X44.here hx rfl (hb hby d9_58) rfl rfl q) ?_
    show OwnFin _ _ _ _ (T44.setTop (mkF m 59 #[.val (.ref a0), .val (.ref a1), .val (.int 0), .unset, .unset] [(.ref a1), (.int (z0 >>> (cd0 &&& 31)))]))
    obtain ⟨cq45, kq45, q45a, q45b, q45c⟩ := isOf hZ he44 X_a1
    obtain ⟨_, _, ⟨T45, L45, k45, n45⟩, -, X45, ⟨Lc45, hQ45, l45, y45, z45⟩, st45⟩ := X44.virtualBack hx (y := yM8) (z := yM8) hown (mvT hZ (w_ hw 45 rfl)) (mvT hZ (w_ hw 46 rfl)) (notFace_of_selects (args := #[]) (mvT hZ (w_ hw 48 rfl))) (mvT hZ (w_ hw 48 rfl)) (mvT hZ (w_ hw 47 rfl)) (by decide) (backOf (W := 1) (rm_len l Z av0 hw [] a1 cd1 b1 k_b1 z1 s1 w_COMPACT_STRINGS h0 n0 (Nat.le_trans Z0 kp0.1) Ol0 X_a1 F_coder_a1 F_value_a1 V_b1 hcd1 S_COMPACT_STRINGS hcs) hZ (w_ hw 49 rfl) (w_ hw 22 rfl) (by decide) (by decide)) q45a q45c (g := (mkF m 59 #[.val (.ref a0), .val (.ref a1), .val (.int 0), .unset, .unset] [(.ref a1), (.int (z0 >>> (cd0 &&& 31)))])) rfl (by rw [hml]; rfl) (Steps.refl _) (argsL := []) (rest := [(.int (z0 >>> (cd0 &&& 31)))]) (lenOf pd_9 rfl) rfl (by show 2 * 0 + _ ≤ _; exact Nat.le_of_eq rfl) (hb hby d9_59) (fun _ _ => ⟨rfl, he44, (by decide : 0 + 0 ≤ _), (by decide : 0 + 0 ≤ _)⟩)
    dsimp only [Pt.U, Pt.locs, Pt.cells, Pt.slots] at X45 l45 y45 z45 st45 hQ45
    subst l45 y45 z45
    obtain ⟨rfl, N45q, he45⟩ := hQ45
    have N45 := Fr.app N44 N45q
    refine OwnFin.tr st45 ?_
    show OwnFin _ _ _ _ (T45.setTop (mkF m 62 _ [(.int (z1 >>> (cd1 &&& 31))), (.int (z0 >>> (cd0 &&& 31)))]))
    obtain ⟨_, _, ⟨T46, L46, k46, n46⟩, -, X46, ⟨Lc46, hQ46, l46, y46, z46⟩, st46⟩ := Jvm.LawKit.callS X45 hx (y := yM12) hown (mvT hZ (w_ hw 56 rfl)) (mvT hZ (w_ hw 57 rfl)) (mvT hZ (w_ hw 58 rfl)) (mvT hZ (w_ hw 59 rfl)) (by decide) (backOf (W := 0) (rm_ic l Z av0 hw [] (z0 >>> (cd0 &&& 31)) (z1 >>> (cd1 &&& 31)) h0 n0 (Nat.le_trans Z0 kp0.1) ) hZ (w_ hw 59 rfl) (w_ hw 58 rfl) (by decide) (by decide)) (g := (mkF m 62 #[.val (.ref a0), .val (.ref a1), .val (.int 0), .unset, .unset] [(.int (z1 >>> (cd1 &&& 31))), (.int (z0 >>> (cd0 &&& 31)))])) rfl (by rw [hml]; rfl) (argsL := [(.int (z0 >>> (cd0 &&& 31))), (.int (z1 >>> (cd1 &&& 31)))]) (rest := []) (lenOf pd_11 rfl) rfl (by show 2 * 0 + _ ≤ _; exact Nat.le_of_eq rfl) (hb hby d9_62) (fun _ _ => ⟨rfl, he45, (by decide : 0 + 0 ≤ _), (by decide : 0 + 0 ≤ _)⟩)
    dsimp only [Pt.U, Pt.locs, Pt.cells, Pt.slots] at X46 l46 y46 z46 st46 hQ46
    subst l46 y46 z46
    obtain ⟨rfl, N46q, he46⟩ := hQ46
    have N46 := Fr.app N45 N46q
    refine OwnFin.st st46 ?_
    show OwnFin _ _ _ _ (T46.setTop (mkF m 65 _ [(.int (own_ic (z0 >>> (cd0 &&& 31)) (z1 >>> (cd1 &&& 31))))]))
    obtain ⟨fs, hr, hrun, hended, hW, hsame⟩ := X46.leave (v := some (.int (own_ic (z0 >>> (cd0 &&& 31)) (z1 >>> (cd1 &&& 31))))) (fun h => by rw [Bd.returns] at h; cases h)
    refine ⟨_, _, retI X46 hx Bd.returns (hb hby d9_65) hr, hrun, hended, _, _, rfl, ?_, ⟨_, rfl⟩, hW, hsame.mono (by decide) (by decide)⟩
    show Q_rm_cmp Z a0 a1 cd0 b0 k_b0 z0 s0 cd1 b1 k_b1 z1 s1 w_COMPACT_STRINGS w_SIOOBE_FORMATTER h0 n0 _ T46.heap _
    rw [he46]
    refine ⟨?_, N46, rfl⟩
    simp only [own_cmpS, own_cmp]
    rw [if_pos hc2, if_neg hc4]
  ·
   refine OwnFin.st (fun _ q => XS.icmpYes X1.here hx rfl (pc0 := 7) (pc' := 54) rfl (hb hby d9_7) rfl (Jvm.Free.XT.ii_ge_t hc2) (by decide) (by decide) q) ?_
   show OwnFin _ _ _ _ (T1.setTop (mkF m 54 _ []))
   refine OwnFin.st (fun _ q => XS.aloadN X1.here hx rfl (hb hby d9_54) rfl rfl q) ?_
   show OwnFin _ _ _ _ (T1.setTop (mkF m 55 _ [(.ref a0)]))
   obtain ⟨cq47, kq47, q47a, q47b, q47c⟩ := isOf hZ he1 X_a0
   obtain ⟨_, _, ⟨T47, L47, k47, n47⟩, -, X47, ⟨Lc47, hQ47, l47, y47, z47⟩, st47⟩ := X1.virtualBack hx (y := yM8) (z := yM8) hown (mvT hZ (w_ hw 45 rfl)) (mvT hZ (w_ hw 46 rfl)) (notFace_of_selects (args := #[]) (mvT hZ (w_ hw 48 rfl))) (mvT hZ (w_ hw 48 rfl)) (mvT hZ (w_ hw 47 rfl)) (by decide) (backOf (W := 0) (rm_len l Z av0 hw [] a0 cd0 b0 k_b0 z0 s0 w_COMPACT_STRINGS h0 n0 (Nat.le_trans Z0 kp0.1) Ol0 X_a0 F_coder_a0 F_value_a0 V_b0 hcd0 S_COMPACT_STRINGS hcs) hZ (w_ hw 49 rfl) (w_ hw 22 rfl) (by decide) (by decide)) q47a q47c (g := (mkF m 55 #[.val (.ref a0), .val (.ref a1), .val (.int 0), .unset, .unset] [(.ref a0)])) rfl (by rw [hml]; rfl) (Steps.refl _) (argsL := []) (rest := []) (lenOf pd_9 rfl) rfl (by show 2 * 0 + _ ≤ _; exact Nat.le_of_eq rfl) (hb hby d9_55) (fun _ _ => ⟨rfl, he1, (by decide : 0 + 0 ≤ _), (by decide : 0 + 0 ≤ _)⟩)
   dsimp only [Pt.U, Pt.locs, Pt.cells, Pt.slots] at X47 l47 y47 z47 st47 hQ47
   subst l47 y47 z47
   obtain ⟨rfl, N47q, he47⟩ := hQ47
   have N47 := Fr.app N1 N47q
   refine OwnFin.tr st47 ?_
   show OwnFin _ _ _ _ (T47.setTop (mkF m 58 _ [(.int (z0 >>> (cd0 &&& 31)))]))
   refine OwnFin.st (fun _ q => XS.aloadN X47.here hx rfl (hb hby d9_58) rfl rfl q) ?_
   show OwnFin _ _ _ _ (T47.setTop (mkF m 59 _ [(.ref a1), (.int (z0 >>> (cd0 &&& 31)))]))
   obtain ⟨cq48, kq48, q48a, q48b, q48c⟩ := isOf hZ he47 X_a1
   obtain ⟨_, _, ⟨T48, L48, k48, n48⟩, -, X48, ⟨Lc48, hQ48, l48, y48, z48⟩, st48⟩ := X47.virtualBack hx (y := yM8) (z := yM8) hown (mvT hZ (w_ hw 45 rfl)) (mvT hZ (w_ hw 46 rfl)) (notFace_of_selects (args := #[]) (mvT hZ (w_ hw 48 rfl))) (mvT hZ (w_ hw 48 rfl)) (mvT hZ (w_ hw 47 rfl)) (by decide) (backOf (W := 1) (rm_len l Z av0 hw [] a1 cd1 b1 k_b1 z1 s1 w_COMPACT_STRINGS h0 n0 (Nat.le_trans Z0 kp0.1) Ol0 X_a1 F_coder_a1 F_value_a1 V_b1 hcd1 S_COMPACT_STRINGS hcs) hZ (w_ hw 49 rfl) (w_ hw 22 rfl) (by decide) (by decide)) q48a q48c (g := (mkF m 59 #[.val (.ref a0), .val (.ref a1), .val (.int 0), .unset, .unset] [(.ref a1), (.int (z0 >>> (cd0 &&& 31)))])) rfl (by rw [hml]; rfl) (Steps.refl _) (argsL := []) (rest := [(.int (z0 >>> (cd0 &&& 31)))]) (lenOf pd_9 rfl) rfl (by show 2 * 0 + _ ≤ _; exact Nat.le_of_eq rfl) (hb hby d9_59) (fun _ _ => ⟨rfl, he47, (by decide : 0 + 0 ≤ _), (by decide : 0 + 0 ≤ _)⟩)
   dsimp only [Pt.U, Pt.locs, Pt.cells, Pt.slots] at X48 l48 y48 z48 st48 hQ48
   subst l48 y48 z48
   obtain ⟨rfl, N48q, he48⟩ := hQ48
   have N48 := Fr.app N47 N48q
   refine OwnFin.tr st48 ?_
   show OwnFin _ _ _ _ (T48.setTop (mkF m 62 _ [(.int (z1 >>> (cd1 &&& 31))), (.int (z0 >>> (cd0 &&& 31)))]))
   obtain ⟨_, _, ⟨T49, L49, k49, n49⟩, -, X49, ⟨Lc49, hQ49, l49, y49, z49⟩, st49⟩ := Jvm.LawKit.callS X48 hx (y := yM12) hown (mvT hZ (w_ hw 56 rfl)) (mvT hZ (w_ hw 57 rfl)) (mvT hZ (w_ hw 58 rfl)) (mvT hZ (w_ hw 59 rfl)) (by decide) (backOf (W := 0) (rm_ic l Z av0 hw [] (z0 >>> (cd0 &&& 31)) (z1 >>> (cd1 &&& 31)) h0 n0 (Nat.le_trans Z0 kp0.1) ) hZ (w_ hw 59 rfl) (w_ hw 58 rfl) (by decide) (by decide)) (g := (mkF m 62 #[.val (.ref a0), .val (.ref a1), .val (.int 0), .unset, .unset] [(.int (z1 >>> (cd1 &&& 31))), (.int (z0 >>> (cd0 &&& 31)))])) rfl (by rw [hml]; rfl) (argsL := [(.int (z0 >>> (cd0 &&& 31))), (.int (z1 >>> (cd1 &&& 31)))]) (rest := []) (lenOf pd_11 rfl) rfl (by show 2 * 0 + _ ≤ _; exact Nat.le_of_eq rfl) (hb hby d9_62) (fun _ _ => ⟨rfl, he48, (by decide : 0 + 0 ≤ _), (by decide : 0 + 0 ≤ _)⟩)
   dsimp only [Pt.U, Pt.locs, Pt.cells, Pt.slots] at X49 l49 y49 z49 st49 hQ49
   subst l49 y49 z49
   obtain ⟨rfl, N49q, he49⟩ := hQ49
   have N49 := Fr.app N48 N49q
   refine OwnFin.st st49 ?_
   show OwnFin _ _ _ _ (T49.setTop (mkF m 65 _ [(.int (own_ic (z0 >>> (cd0 &&& 31)) (z1 >>> (cd1 &&& 31))))]))
   obtain ⟨fs, hr, hrun, hended, hW, hsame⟩ := X49.leave (v := some (.int (own_ic (z0 >>> (cd0 &&& 31)) (z1 >>> (cd1 &&& 31))))) (fun h => by rw [Bd.returns] at h; cases h)
   refine ⟨_, _, retI X49 hx Bd.returns (hb hby d9_65) hr, hrun, hended, _, _, rfl, ?_, ⟨_, rfl⟩, hW, hsame.mono (by decide) (by decide)⟩
   show Q_rm_cmp Z a0 a1 cd0 b0 k_b0 z0 s0 cd1 b1 k_b1 z1 s1 w_COMPACT_STRINGS w_SIOOBE_FORMATTER h0 n0 _ T49.heap _
   rw [he49]
   refine ⟨?_, N49, rfl⟩
   simp only [own_cmpS, own_cmp]
   rw [if_neg hc2]
def own_c5n (f : Nat → Int32) : Nat → Nat → Nat
  | 0, i => i
  | n + 1, i => if (255 : Int32) < f i then i else own_c5n f n (i + 1)
def own_c5 (f : Nat → Int32) (z : Int32) : Int32 := Int32.ofNat (own_c5n f z.toNatClampNeg 0)
def own_fl (f : Nat → Int32) (i : Int32) : Nat → Int32 := fun j => if j < i.toNatClampNeg then (f j).toInt8.toInt32 else 0
theorem own_nat {i : Int32} (h : ¬ i < 0) : (i.toNatClampNeg : Int) = i.toInt := by rw [Int32.lt_iff_toInt_lt] at h; have r : (0 : Int32).toInt = 0 := rfl; simp only [Int32.toNatClampNeg]; omega
theorem own_ofnat {i : Int32} (h : ¬ i < 0) : Int32.ofNat i.toNatClampNeg = i := by
  have q := own_nat h; rw [← Int32.toInt_inj, Int32.toInt_ofNat_of_lt (by have := rng32 i; omega)]; omega
theorem own_succ {i z : Int32} (h0 : ¬ i < 0) (h1 : i < z) : (i + (1 : Int32)).toNatClampNeg = i.toNatClampNeg + 1 ∧ ¬ (i + (1 : Int32)) < 0 ∧ ¬ z < (i + (1 : Int32)) := by
  have a := c_iadd i (1 : Int32); have a' := rng32 (i + (1 : Int32)); have b := rng32 i; have d := rng32 z; have r : (0 : Int32).toInt = 0 := rfl; have r1 : (1 : Int32).toInt = 1 := rfl
  have n := own_nat h0; rw [Int32.lt_iff_toInt_lt] at h0 h1
  have e : (i + (1 : Int32)).toInt = i.toInt + 1 := by omega
  refine ⟨by simp only [Int32.toNatClampNeg, e]; simp only [Int32.toNatClampNeg] at n; omega, ?_, ?_⟩
  · rw [Int32.lt_iff_toInt_lt]; omega
  · rw [Int32.lt_iff_toInt_lt]; omega
theorem own_c5step {f : Nat → Int32} {i z : Int32} (h0 : ¬ i < 0) (h1 : i < z) (hc : ¬ (255 : Int32) < own_at f i) (hq : own_c5n f (z.toNatClampNeg - i.toNatClampNeg) i.toNatClampNeg = own_c5n f z.toNatClampNeg 0) : own_c5n f (z.toNatClampNeg - (i + (1 : Int32)).toNatClampNeg) (i + (1 : Int32)).toNatClampNeg = own_c5n f z.toNatClampNeg 0 := by
  have lt := own_idx ⟨h0, h1⟩
  rw [← hq, (own_succ h0 h1).1, show z.toNatClampNeg - i.toNatClampNeg = (z.toNatClampNeg - (i.toNatClampNeg + 1)) + 1 by omega]
  exact (if_neg hc).symm
theorem own_c5exit {f : Nat → Int32} {i z : Int32} (h0 : ¬ i < 0) (h1 : i < z) (hc : (255 : Int32) < own_at f i) (hq : own_c5n f (z.toNatClampNeg - i.toNatClampNeg) i.toNatClampNeg = own_c5n f z.toNatClampNeg 0) : i = own_c5 f z := by
  have lt := own_idx ⟨h0, h1⟩
  rw [show z.toNatClampNeg - i.toNatClampNeg = (z.toNatClampNeg - (i.toNatClampNeg + 1)) + 1 by omega] at hq
  have e : i.toNatClampNeg = own_c5n f z.toNatClampNeg 0 := (if_pos hc).symm.trans hq
  unfold own_c5; rw [← e]; exact (own_ofnat h0).symm
theorem own_eqz {i z : Int32} (h1 : ¬ i < z) (h2 : ¬ z < i) : i = z := by rw [Int32.lt_iff_toInt_lt] at h1 h2; rw [← Int32.toInt_inj]; omega
theorem own_c5end {f : Nat → Int32} {i z : Int32} (h0 : ¬ i < 0) (h1 : ¬ i < z) (h2 : ¬ z < i) (hq : own_c5n f (z.toNatClampNeg - i.toNatClampNeg) i.toNatClampNeg = own_c5n f z.toNatClampNeg 0) : z = own_c5 f z := by
  obtain rfl := own_eqz h1 h2
  rw [Nat.sub_self] at hq
  unfold own_c5; rw [← hq]; exact (own_ofnat h0).symm
theorem own_fl0 (f : Nat → Int32) : own_zf = own_fl f (0 : Int32) := by funext j; simp [own_zf, own_fl]
theorem own_flstep {f : Nat → Int32} {i z : Int32} (h0 : ¬ i < 0) (h1 : i < z) : own_upd (own_fl f i) i (own_at f i).toInt8.toInt32 = own_fl f (i + (1 : Int32)) := by
  funext j; simp only [own_upd, own_fl, own_at, (own_succ h0 h1).1]
  by_cases q : j = i.toNatClampNeg
  · subst q; simp
  · rw [if_neg q]; by_cases q2 : j < i.toNatClampNeg
    · rw [if_pos q2, if_pos (by omega)]
    · rw [if_neg q2, if_neg (by omega)]
theorem own_dec {i z : Int32} {fu : Nat} (h0 : ¬ i < 0) (h1 : i < z) (hf : z.toNatClampNeg - i.toNatClampNeg < fu + 1) : z.toNatClampNeg - (i + (1 : Int32)).toNatClampNeg < fu := by
  have lt := own_idx ⟨h0, h1⟩; rw [(own_succ h0 h1).1]; omega
def own_lo (c : Int32) : Int32 := (c >>> ((0 : Int32) &&& 31)).toInt8.toInt32
def own_hi (c : Int32) : Int32 := (c >>> ((8 : Int32) &&& 31)).toInt8.toInt32
theorem own_recon {c : Int32} (hc : nar .char c = c) : (((own_lo c &&& (255 : Int32)) <<< ((0 : Int32) &&& 31)) ||| ((own_hi c &&& (255 : Int32)) <<< ((8 : Int32) &&& 31))).toUInt32.toUInt16.toUInt32.toInt32 = c := by
  have hr : 0 ≤ c.toInt ∧ c.toInt < 65536 := by
    have q := c_i2c c
    have e : c.toUInt32.toUInt16.toUInt32.toInt32 = c := by simpa [nar] using hc
    rw [e] at q; exact q.2
  have h0 := c_ishr c (0 : Int32) 0 (by decide +kernel)
  have h8 := c_ishr c (8 : Int32) 8 (by decide +kernel)
  have b0 := c_i2b (c >>> ((0 : Int32) &&& 31))
  have b8 := c_i2b (c >>> ((8 : Int32) &&& 31))
  have m0 := c_mask (own_lo c) (255 : Int32) 8 (by decide) (by decide +kernel)
  have m8 := c_mask (own_hi c) (255 : Int32) 8 (by decide) (by decide +kernel)
  have s0 := c_ishl (own_lo c &&& (255 : Int32)) (0 : Int32) 0 (by decide +kernel)
  have s8 := c_ishl (own_hi c &&& (255 : Int32)) (8 : Int32) 8 (by decide +kernel)
  have r0 := rng32 ((own_lo c &&& (255 : Int32)) <<< ((0 : Int32) &&& 31))
  have r8 := rng32 ((own_hi c &&& (255 : Int32)) <<< ((8 : Int32) &&& 31))
  change ((own_lo c).toInt - (c >>> ((0 : Int32) &&& 31)).toInt) % 256 = 0 ∧ -128 ≤ (own_lo c).toInt ∧ (own_lo c).toInt < 128 at b0
  change ((own_hi c).toInt - (c >>> ((8 : Int32) &&& 31)).toInt) % 256 = 0 ∧ -128 ≤ (own_hi c).toInt ∧ (own_hi c).toInt < 128 at b8
  have o := c_or' ((own_lo c &&& (255 : Int32)) <<< ((0 : Int32) &&& 31)) ((own_hi c &&& (255 : Int32)) <<< ((8 : Int32) &&& 31)) 8 (by decide) 256 (by decide)
  have i := c_i2c (((own_lo c &&& (255 : Int32)) <<< ((0 : Int32) &&& 31)) ||| ((own_hi c &&& (255 : Int32)) <<< ((8 : Int32) &&& 31)))
  have ro := rng32 (((own_lo c &&& (255 : Int32)) <<< ((0 : Int32) &&& 31)) ||| ((own_hi c &&& (255 : Int32)) <<< ((8 : Int32) &&& 31)))
  rw [← Int32.toInt_inj]
  generalize (((own_lo c &&& (255 : Int32)) <<< ((0 : Int32) &&& 31)) ||| ((own_hi c &&& (255 : Int32)) <<< ((8 : Int32) &&& 31))).toUInt32.toUInt16.toUInt32.toInt32.toInt = g1 at *
  generalize (((own_lo c &&& (255 : Int32)) <<< ((0 : Int32) &&& 31)) ||| ((own_hi c &&& (255 : Int32)) <<< ((8 : Int32) &&& 31))).toInt = g2 at *
  generalize ((own_lo c &&& (255 : Int32)) <<< ((0 : Int32) &&& 31)).toInt = g3 at *
  generalize ((own_hi c &&& (255 : Int32)) <<< ((8 : Int32) &&& 31)).toInt = g4 at *
  generalize (own_lo c &&& (255 : Int32)).toInt = g5 at *
  generalize (own_hi c &&& (255 : Int32)).toInt = g6 at *
  generalize (own_lo c).toInt = g7 at *
  generalize (own_hi c).toInt = g8 at *
  generalize (c >>> ((0 : Int32) &&& 31)).toInt = g9 at *
  generalize (c >>> ((8 : Int32) &&& 31)).toInt = g10 at *
  have e256 : ((2 ^ 8 : Nat) : Int) = 256 := by decide
  have e1 : ((2 ^ 0 : Nat) : Int) = 1 := by decide
  rw [e256] at *; rw [e1] at *
  have g3v : g3 = g5 := by omega
  have g4v : g4 = g6 * 256 := by omega
  have o' := o (by omega) (by omega) (by omega)
  omega
theorem d16_0 : decode jdk_52_method_21_code 0 = .ok (.iconst 0, 1) := by decide +kernel
theorem d16_1 : decode jdk_52_method_21_code 1 = .ok (.istore 5, 2) := by decide +kernel
theorem d16_3 : decode jdk_52_method_21_code 3 = .ok (.iload 5, 2) := by decide +kernel
theorem d16_5 : decode jdk_52_method_21_code 5 = .ok (.iload 4, 2) := by decide +kernel
theorem d16_7 : decode jdk_52_method_21_code 7 = .ok (.if_icmp .ge 37, 3) := by decide +kernel
theorem d16_10 : decode jdk_52_method_21_code 10 = .ok (.aload_n 0, 1) := by decide +kernel
theorem d16_11 : decode jdk_52_method_21_code 11 = .ok (.iload_n 1, 1) := by decide +kernel
theorem d16_12 : decode jdk_52_method_21_code 12 = .ok (.caload, 1) := by decide +kernel
theorem d16_13 : decode jdk_52_method_21_code 13 = .ok (.istore 6, 2) := by decide +kernel
theorem d16_15 : decode jdk_52_method_21_code 15 = .ok (.iload 6, 2) := by decide +kernel
theorem d16_17 : decode jdk_52_method_21_code 17 = .ok (.sipush 255, 3) := by decide +kernel
theorem d16_20 : decode jdk_52_method_21_code 20 = .ok (.if_icmp .le 6, 3) := by decide +kernel
theorem d16_23 : decode jdk_52_method_21_code 23 = .ok (.iload 5, 2) := by decide +kernel
theorem d16_25 : decode jdk_52_method_21_code 25 = .ok (.ireturn, 1) := by decide +kernel
theorem d16_26 : decode jdk_52_method_21_code 26 = .ok (.aload_n 2, 1) := by decide +kernel
theorem d16_27 : decode jdk_52_method_21_code 27 = .ok (.iload_n 3, 1) := by decide +kernel
theorem d16_28 : decode jdk_52_method_21_code 28 = .ok (.iload 6, 2) := by decide +kernel
theorem d16_30 : decode jdk_52_method_21_code 30 = .ok (.i2b, 1) := by decide +kernel
theorem d16_31 : decode jdk_52_method_21_code 31 = .ok (.bastore, 1) := by decide +kernel
theorem d16_32 : decode jdk_52_method_21_code 32 = .ok (.iinc 1 1, 3) := by decide +kernel
theorem d16_35 : decode jdk_52_method_21_code 35 = .ok (.iinc 3 1, 3) := by decide +kernel
theorem d16_38 : decode jdk_52_method_21_code 38 = .ok (.iinc 5 1, 3) := by decide +kernel
theorem d16_41 : decode jdk_52_method_21_code 41 = .ok (.goto (-38), 3) := by decide +kernel
theorem d16_44 : decode jdk_52_method_21_code 44 = .ok (.iload 4, 2) := by decide +kernel
theorem d16_46 : decode jdk_52_method_21_code 46 = .ok (.ireturn, 1) := by decide +kernel
theorem ef_rm_c5 (m : MethodId) (a0 : Addr) (a2 : Addr) (z0 : Int32) : entryFrame m #[(.ref a0), (.int 0), (.ref a2), (.int 0), (.int z0)] 7 = mkF m 0 #[.val (.ref a0), .val (.int 0), .val (.ref a2), .val (.int 0), .val (.int z0), .unset, .unset] [] := by first | (simp [entryFrame, mkF, argsToLocals, Value.category]; done) | rfl
def Q_rm_c5 (Z : State) (a0 : Addr) (a2 : Addr) (z0 : Int32) (k_a0 : ClassId) (f0 : Nat → Int32) (k_a2 : ClassId) (h0 : Heap) (n0 : Nat) (v : Option Value) (h : Heap) (L : List Loc) : Prop := v = some (.int (own_c5 f0 z0)) ∧ Fr n0 L ∧ Keep h0 h [a2] ∧ Arv Z h a2 k_a2 .byte z0 (own_ml z0 (own_fl f0 (own_c5 f0 z0))) (.int 0)
set_option maxRecDepth 65536 in
set_option maxHeartbeats 40000000 in
theorem rm_c5 (l : Launch) (Z : State) (av0 : Array Value) (hw : ∀ d ∈ tables_1, d.before av0 Z = true) (ws : List Jvm.Cond) (a0 : Addr) (a2 : Addr) (z0 : Int32) (k_a0 : ClassId) (f0 : Nat → Int32) (k_a2 : ClassId) (h0 : Heap) (n0 : Nat) (Z0 : n0 ≤ h0.size) (V_a0 : Arv Z h0 a0 k_a0 .char z0 (own_ml z0 f0) (.int 0)) (V_a2 : Arv Z h0 a2 k_a2 .byte z0 (own_ml z0 own_zf) (.int 0)) (hz0 : ¬ (z0 < (0 : Int32))) (g_a2 : n0 ≤ a2) (ne_a0_a2 : a0 ≠ a2) :
    MetFree l yM15 (head1 (Jvm.Cond.code yM15 jdk_52_method_21_code 7 (some .int) :: ws) ({ frames := 0, cells := 0, slots := 0, locals := 0 } : Room)) (fun a U => a = #[(.ref a0), (.int 0), (.ref a2), (.int 0), (.int z0)] ∧ Z.Warmed39 U.vm ∧ U.heap = h0) (fun _ _ _ _ _ => True) (fun _ U o U' => ∃ v L, o = .returned v ∧ Q_rm_c5 Z a0 a2 z0 k_a0 f0 k_a2 h0 n0 v U'.heap L ∧ FrameEnd U o U' L ({ frames := 0, cells := 0, slots := 0, locals := 0 } : Room).cells ({ frames := 0, cells := 0, slots := 0, locals := 0 } : Room).slots) := by
  refine MetFree.of_bodySF (plainFor_of_name pn_0) hisR ?_
  intro p e s m args below meth c s₁ Bd hml0 hP hK
  obtain ⟨rfl, hZ, hh⟩ := hP
  have hx := Bd.exec
  have hby := Bd.bytes
  have hml : c.maxLocals = 7 := hml0
  have hown : s.vm.findClass "java/lang/StringUTF16" = some m.cls := findClass_of_methodNamed Bd.named
  have hnm := (name_of_methodNamed Bd.named Bd.method).1
  have X0 : Stand p l e ({ frames := 0, cells := 0, slots := 0, locals := 0 } : Room) s m #[(.ref a0), (.int 0), (.ref a2), (.int 0), (.int z0)] below meth c s₁ [] 0 0 := Stand.of_body Bd
  have e0 : s₁.heap = h0 := by rw [← hh, Bd.state]; rfl
  have N0 := Fr.nil n0
  have pre0 : ∀ t, Steps p.tables e below (s₁.setTop (mkF m 0 #[.val (.ref a0), .val (.int 0), .val (.ref a2), .val (.int 0), .val (.int z0), .unset, .unset] [])) t → Steps p.tables e below (s₁.setTop (entryFrame m #[(.ref a0), (.int 0), (.ref a2), (.int 0), (.int z0)] 7)) t := fun t k => castTop (ef_rm_c5 m a0 a2 z0) k
  change OwnFin p.tables e below _ (s₁.setTop (entryFrame m #[(.ref a0), (.int 0), (.ref a2), (.int 0), (.int z0)] 7))
  have kp0 : Keep h0 h0 [a2] := Keep.refl _ _
  refine OwnFin.st (fun _ q => pre0 _ q) ?_
  show OwnFin _ _ _ _ (s₁.setTop (mkF m 0 #[.val (.ref a0), .val (.int 0), .val (.ref a2), .val (.int 0), .val (.int z0), .unset, .unset] []))
  refine OwnFin.st (fun _ q => XS.iconst X0.here hx rfl (hb hby d16_0) q) ?_
  show OwnFin _ _ _ _ (s₁.setTop (mkF m 1 _ [(.int 0)]))
  refine OwnFin.st (fun _ q => XS.istore X0.here hx rfl (hb hby d16_1) rfl (l' := #[.val (.ref a0), .val (.int 0), .val (.ref a2), .val (.int 0), .val (.int z0), .val (.int 0), .unset]) rfl q) ?_
  show OwnFin _ _ _ _ (s₁.setTop (mkF m 3 _ []))
  refine OwnFin.st (fun _ q => XS.iload X0.here hx rfl (hb hby d16_3) rfl q) ?_
  show OwnFin _ _ _ _ (s₁.setTop (mkF m 5 _ [(.int 0)]))
  refine OwnFin.st (fun _ q => XS.iload X0.here hx rfl (hb hby d16_5) rfl q) ?_
  show OwnFin _ _ _ _ (s₁.setTop (mkF m 7 _ [(.int z0), (.int 0)]))
  by_cases hc1 : (0 : Int32) < z0
  ·
   refine OwnFin.st (fun _ q => XS.icmpNo X0.here hx rfl (hb hby d16_7) rfl (Jvm.Free.XT.ii_ge_f hc1) q) ?_
   show OwnFin _ _ _ _ (s₁.setTop (mkF m 10 _ []))
   refine OwnFin.st (fun _ q => XS.aloadN X0.here hx rfl (hb hby d16_10) rfl rfl q) ?_
   show OwnFin _ _ _ _ (s₁.setTop (mkF m 11 _ [(.ref a0)]))
   refine OwnFin.st (fun _ q => XS.iloadN X0.here hx rfl (hb hby d16_11) rfl q) ?_
   show OwnFin _ _ _ _ (s₁.setTop (mkF m 12 _ [(.int 0), (.ref a0)]))
   have Vo2 : Arv Z h0 a0 k_a0 .char z0 (own_ml z0 f0) (.int 0) := V_a0
   obtain ⟨cl2, Ar2, qa2, Sa2, Na2, Ha2, Ga2⟩ := id Vo2
   have hib2 : ¬ (0 : Int32) < 0 ∧ (0 : Int32) < z0 := ⟨by decide, hc1⟩
   have hin2 := inb_of Sa2 hib2
   refine OwnFin.st (X0.caload hx (j := (0 : Int32)) (v := (.int (own_at f0 (0 : Int32)))) (by rw [e0]; exact Ar2.1) (State.isArrayOf_alike (hZ).alike Ar2.2.1) Ar2.2.2 hin2 (Ha2.at hin2 (own_mlat _ hib2)) (g := (mkF m 12 #[.val (.ref a0), .val (.int 0), .val (.ref a2), .val (.int 0), .val (.int z0), .val (.int 0), .unset] [(.int 0), (.ref a0)])) rfl rfl (hb hby d16_12)) ?_
   show OwnFin _ _ _ _ (s₁.setTop (mkF m 13 _ [(.int (own_at f0 (0 : Int32)))]))
   refine OwnFin.st (fun _ q => XS.istore X0.here hx rfl (hb hby d16_13) rfl (l' := #[.val (.ref a0), .val (.int 0), .val (.ref a2), .val (.int 0), .val (.int z0), .val (.int 0), .val (.int (own_at f0 (0 : Int32)))]) rfl q) ?_
   show OwnFin _ _ _ _ (s₁.setTop (mkF m 15 _ []))
   refine OwnFin.st (fun _ q => XS.iload X0.here hx rfl (hb hby d16_15) rfl q) ?_
   show OwnFin _ _ _ _ (s₁.setTop (mkF m 17 _ [(.int (own_at f0 (0 : Int32)))]))
   refine OwnFin.st (fun _ q => XS.sipush X0.here hx rfl (hb hby d16_17) q) ?_
   show OwnFin _ _ _ _ (s₁.setTop (mkF m 20 _ [(.int 255), (.int (own_at f0 (0 : Int32)))]))
   by_cases hc3 : (255 : Int32) < (own_at f0 (0 : Int32))
   ·
    refine OwnFin.st (fun _ q => XS.icmpNo X0.here hx rfl (hb hby d16_20) rfl (Jvm.Free.XT.ii_le_f hc3) q) ?_
    show OwnFin _ _ _ _ (s₁.setTop (mkF m 23 _ []))
    refine OwnFin.st (fun _ q => XS.iload X0.here hx rfl (hb hby d16_23) rfl q) ?_
    show OwnFin _ _ _ _ (s₁.setTop (mkF m 25 #[.val (.ref a0), .val (.int 0), .val (.ref a2), .val (.int 0), .val (.int z0), .val (.int 0), .val (.int (own_at f0 (0 : Int32)))] [(.int 0)]))
    obtain ⟨fs, hr, hrun, hended, hW, hsame⟩ := X0.leave (v := some (.int 0)) (fun h => by rw [Bd.returns] at h; cases h)
    refine ⟨_, _, retI X0 hx Bd.returns (hb hby d16_25) hr, hrun, hended, _, _, rfl, ?_, ⟨_, rfl⟩, hW, hsame.mono (by decide) (by decide)⟩
    show Q_rm_c5 Z a0 a2 z0 k_a0 f0 k_a2 h0 n0 _ s₁.heap _
    rw [e0]
    have vE4 : Arv Z h0 a2 k_a2 .byte z0 (own_ml z0 (own_fl f0 (own_c5 f0 z0))) (.int 0) := own_mlcong ((own_fl0 f0).trans (congrArg (own_fl f0) (own_c5exit (by decide) hc1 hc3 rfl))) V_a2
    exact ⟨(congrArg (fun q => some (Value.int q)) (own_c5exit (by decide) hc1 hc3 rfl)), N0, kp0, vE4⟩
   ·
    refine OwnFin.st (fun _ q => XS.icmpYes X0.here hx rfl (pc0 := 20) (pc' := 26) rfl (hb hby d16_20) rfl (Jvm.Free.XT.ii_le_t hc3) (by decide) (by decide) q) ?_
    show OwnFin _ _ _ _ (s₁.setTop (mkF m 26 _ []))
    refine OwnFin.st (fun _ q => XS.aloadN X0.here hx rfl (hb hby d16_26) rfl rfl q) ?_
    show OwnFin _ _ _ _ (s₁.setTop (mkF m 27 #[.val (.ref a0), .val (.int 0), .val (.ref a2), .val (.int 0), .val (.int z0), .val (.int 0), .val (.int (own_at f0 (0 : Int32)))] [(.ref a2)]))
    refine OwnFin.st (fun _ q => XS.iloadN X0.here hx rfl (hb hby d16_27) rfl q) ?_
    show OwnFin _ _ _ _ (s₁.setTop (mkF m 28 _ [(.int 0), (.ref a2)]))
    refine OwnFin.st (fun _ q => XS.iload X0.here hx rfl (hb hby d16_28) rfl q) ?_
    show OwnFin _ _ _ _ (s₁.setTop (mkF m 30 _ [(.int (own_at f0 (0 : Int32))), (.int 0), (.ref a2)]))
    refine OwnFin.st (fun _ q => XS.i2b X0.here hx rfl (hb hby d16_30) rfl q) ?_
    show OwnFin _ _ _ _ (s₁.setTop (mkF m 31 _ [(.int ((own_at f0 (0 : Int32)).toInt8.toInt32)), (.int 0), (.ref a2)]))
    have Vo5 : Arv Z h0 a2 k_a2 .byte z0 (own_ml z0 own_zf) (.int 0) := V_a2
    obtain ⟨cl5, Ar5, qa5, Sa5, Na5, Ha5, Ga5⟩ := id Vo5
    have hib5 : ¬ (0 : Int32) < 0 ∧ (0 : Int32) < z0 := ⟨by decide, hc1⟩
    obtain ⟨T5, h5, X5, e5, W5, st5⟩ := stB X0 hx hZ e0 Ar5 (j := (0 : Int32)) (inb_of Sa5 hib5) (g := (mkF m 31 #[.val (.ref a0), .val (.int 0), .val (.ref a2), .val (.int 0), .val (.int z0), .val (.int 0), .val (.int (own_at f0 (0 : Int32)))] [(.int ((own_at f0 (0 : Int32)).toInt8.toInt32)), (.int 0), (.ref a2)])) rfl rfl (hb hby d16_31)
    refine OwnFin.st st5 ?_
    have V5 : Arv Z h5 a2 k_a2 .byte z0 (own_ml z0 (own_upd own_zf (0 : Int32) ((own_at f0 (0 : Int32)).toInt8.toInt32))) (.int 0) := by
      have z := Arv.set Ar5 qa5 Sa5 Na5 Ha5 Ga5 (fits_nar_byte _) W5 _ rfl (by rw [own_mllen]; exact own_idx hib5)
      rw [own_nari2b, own_mlset] at z
      exact z
    have N5 := Fr.snoc X5 N0 g_a2
    have kp6 : Keep h0 h5 [a2] := kp0.wr W5 (Or.inl (List.mem_of_getElem? (i := 0) rfl))
    show OwnFin _ _ _ _ (T5.setTop (mkF m 32 _ []))
    refine OwnFin.st (fun _ q => XS.iinc X5.here hx rfl (hb hby d16_32) rfl (l' := #[.val (.ref a0), .val (.int ((0 : Int32) + (1 : Int32))), .val (.ref a2), .val (.int 0), .val (.int z0), .val (.int 0), .val (.int (own_at f0 (0 : Int32)))]) rfl q) ?_
    show OwnFin _ _ _ _ (T5.setTop (mkF m 35 _ []))
    refine OwnFin.st (fun _ q => XS.iinc X5.here hx rfl (hb hby d16_35) rfl (l' := #[.val (.ref a0), .val (.int ((0 : Int32) + (1 : Int32))), .val (.ref a2), .val (.int ((0 : Int32) + (1 : Int32))), .val (.int z0), .val (.int 0), .val (.int (own_at f0 (0 : Int32)))]) rfl q) ?_
    show OwnFin _ _ _ _ (T5.setTop (mkF m 38 _ []))
    refine OwnFin.st (fun _ q => XS.iinc X5.here hx rfl (hb hby d16_38) rfl (l' := #[.val (.ref a0), .val (.int ((0 : Int32) + (1 : Int32))), .val (.ref a2), .val (.int ((0 : Int32) + (1 : Int32))), .val (.int z0), .val (.int ((0 : Int32) + (1 : Int32))), .val (.int (own_at f0 (0 : Int32)))]) rfl q) ?_
    show OwnFin _ _ _ _ (T5.setTop (mkF m 41 _ []))
    refine OwnFin.st (fun _ q => XS.goto X5.here hx rfl (pc0 := 41) (pc' := 3) rfl (hb hby d16_41) (by decide) (by decide) q) ?_
    have H7 : ∀ (fu : Nat) (i : Int32) (g6 : Int32) (T : State) (lc : List Loc) (h : Heap) (_ : ¬ (i < (0 : Int32))) (_ : ¬ (z0 < i)) (_ : own_c5n f0 (z0.toNatClampNeg - i.toNatClampNeg) i.toNatClampNeg = own_c5n f0 z0.toNatClampNeg 0), z0.toNatClampNeg - i.toNatClampNeg < fu → Stand p l e ({ frames := 0, cells := 0, slots := 0, locals := 0 } : Room) s m #[(.ref a0), (.int 0), (.ref a2), (.int 0), (.int z0)] below meth c T lc 0 0 → Fr n0 lc → T.heap = h → Keep h5 h [a2] → Arv Z h a2 k_a2 .byte z0 (own_ml z0 (own_fl f0 i)) (.int 0) → OwnFin p.tables e below (fun o U' => ∃ v L, o = .returned v ∧ Q_rm_c5 Z a0 a2 z0 k_a0 f0 k_a2 h0 n0 v U'.heap L ∧ FrameEnd s o U' L ({ frames := 0, cells := 0, slots := 0, locals := 0 } : Room).cells ({ frames := 0, cells := 0, slots := 0, locals := 0 } : Room).slots) (T.setTop (mkF m 3 #[.val (.ref a0), .val (.int i), .val (.ref a2), .val (.int i), .val (.int z0), .val (.int i), .val (.int g6)] [])) := by
     intro fu
     induction fu with
     | zero => intro i g6 T lc h hi0 hi1 hq hfu; exact absurd hfu (Nat.not_lt_zero _)
     | succ fu ih =>
      intro i g6 T7 lc7 h7 hi0 hi1 hq hfu X7 N7 e7 K7 Va7_0
      have kp8 : Keep h0 h7 [a2] := kp6.trans K7 (allS (Or.inl (List.mem_of_getElem? (i := 0) rfl)) all0)
      show OwnFin _ _ _ _ (T7.setTop (mkF m 3 #[.val (.ref a0), .val (.int i), .val (.ref a2), .val (.int i), .val (.int z0), .val (.int i), .val (.int g6)] []))
      refine OwnFin.st (fun _ q => XS.iload X7.here hx rfl (hb hby d16_3) rfl q) ?_
      show OwnFin _ _ _ _ (T7.setTop (mkF m 5 _ [(.int i)]))
      refine OwnFin.st (fun _ q => XS.iload X7.here hx rfl (hb hby d16_5) rfl q) ?_
      show OwnFin _ _ _ _ (T7.setTop (mkF m 7 _ [(.int z0), (.int i)]))
      by_cases hc9 : i < z0
      ·
       refine OwnFin.st (fun _ q => XS.icmpNo X7.here hx rfl (hb hby d16_7) rfl (Jvm.Free.XT.ii_ge_f hc9) q) ?_
       show OwnFin _ _ _ _ (T7.setTop (mkF m 10 _ []))
       refine OwnFin.st (fun _ q => XS.aloadN X7.here hx rfl (hb hby d16_10) rfl rfl q) ?_
       show OwnFin _ _ _ _ (T7.setTop (mkF m 11 _ [(.ref a0)]))
       refine OwnFin.st (fun _ q => XS.iloadN X7.here hx rfl (hb hby d16_11) rfl q) ?_
       show OwnFin _ _ _ _ (T7.setTop (mkF m 12 _ [(.int i), (.ref a0)]))
       have Vo10 : Arv Z h7 a0 k_a0 .char z0 (own_ml z0 f0) (.int 0) := ((V_a0.other W5 ne_a0_a2).keep K7 (ninS ne_a0_a2 nin0))
       obtain ⟨cl10, Ar10, qa10, Sa10, Na10, Ha10, Ga10⟩ := id Vo10
       have hib10 : ¬ i < 0 ∧ i < z0 := ⟨hi0, hc9⟩
       have hin10 := inb_of Sa10 hib10
       refine OwnFin.st (X7.caload hx (j := i) (v := (.int (own_at f0 i))) (by rw [e7]; exact Ar10.1) (State.isArrayOf_alike (hZ).alike Ar10.2.1) Ar10.2.2 hin10 (Ha10.at hin10 (own_mlat _ hib10)) (g := (mkF m 12 #[.val (.ref a0), .val (.int i), .val (.ref a2), .val (.int i), .val (.int z0), .val (.int i), .val (.int g6)] [(.int i), (.ref a0)])) rfl rfl (hb hby d16_12)) ?_
       show OwnFin _ _ _ _ (T7.setTop (mkF m 13 _ [(.int (own_at f0 i))]))
       refine OwnFin.st (fun _ q => XS.istore X7.here hx rfl (hb hby d16_13) rfl (l' := #[.val (.ref a0), .val (.int i), .val (.ref a2), .val (.int i), .val (.int z0), .val (.int i), .val (.int (own_at f0 i))]) rfl q) ?_
       show OwnFin _ _ _ _ (T7.setTop (mkF m 15 _ []))
       refine OwnFin.st (fun _ q => XS.iload X7.here hx rfl (hb hby d16_15) rfl q) ?_
       show OwnFin _ _ _ _ (T7.setTop (mkF m 17 _ [(.int (own_at f0 i))]))
       refine OwnFin.st (fun _ q => XS.sipush X7.here hx rfl (hb hby d16_17) q) ?_
       show OwnFin _ _ _ _ (T7.setTop (mkF m 20 _ [(.int 255), (.int (own_at f0 i))]))
       by_cases hc11 : (255 : Int32) < (own_at f0 i)
       ·
        refine OwnFin.st (fun _ q => XS.icmpNo X7.here hx rfl (hb hby d16_20) rfl (Jvm.Free.XT.ii_le_f hc11) q) ?_
        show OwnFin _ _ _ _ (T7.setTop (mkF m 23 _ []))
        refine OwnFin.st (fun _ q => XS.iload X7.here hx rfl (hb hby d16_23) rfl q) ?_
        show OwnFin _ _ _ _ (T7.setTop (mkF m 25 _ [(.int i)]))
        obtain ⟨fs, hr, hrun, hended, hW, hsame⟩ := X7.leave (v := some (.int i)) (fun h => by rw [Bd.returns] at h; cases h)
        refine ⟨_, _, retI X7 hx Bd.returns (hb hby d16_25) hr, hrun, hended, _, _, rfl, ?_, ⟨_, rfl⟩, hW, hsame.mono (by decide) (by decide)⟩
        show Q_rm_c5 Z a0 a2 z0 k_a0 f0 k_a2 h0 n0 _ T7.heap _
        rw [e7]
        have vE12 : Arv Z h7 a2 k_a2 .byte z0 (own_ml z0 (own_fl f0 (own_c5 f0 z0))) (.int 0) := own_mlcong (congrArg (own_fl f0) (own_c5exit hi0 hc9 hc11 hq)) Va7_0
        exact ⟨(congrArg (fun q => some (Value.int q)) (own_c5exit hi0 hc9 hc11 hq)), N7, kp8, vE12⟩
       ·
        refine OwnFin.st (fun _ q => XS.icmpYes X7.here hx rfl (pc0 := 20) (pc' := 26) rfl (hb hby d16_20) rfl (Jvm.Free.XT.ii_le_t hc11) (by decide) (by decide) q) ?_
        show OwnFin _ _ _ _ (T7.setTop (mkF m 26 _ []))
        refine OwnFin.st (fun _ q => XS.aloadN X7.here hx rfl (hb hby d16_26) rfl rfl q) ?_
        show OwnFin _ _ _ _ (T7.setTop (mkF m 27 _ [(.ref a2)]))
        refine OwnFin.st (fun _ q => XS.iloadN X7.here hx rfl (hb hby d16_27) rfl q) ?_
        show OwnFin _ _ _ _ (T7.setTop (mkF m 28 _ [(.int i), (.ref a2)]))
        refine OwnFin.st (fun _ q => XS.iload X7.here hx rfl (hb hby d16_28) rfl q) ?_
        show OwnFin _ _ _ _ (T7.setTop (mkF m 30 #[.val (.ref a0), .val (.int i), .val (.ref a2), .val (.int i), .val (.int z0), .val (.int i), .val (.int (own_at f0 i))] [(.int (own_at f0 i)), (.int i), (.ref a2)]))
        refine OwnFin.st (fun _ q => XS.i2b X7.here hx rfl (hb hby d16_30) rfl q) ?_
        show OwnFin _ _ _ _ (T7.setTop (mkF m 31 _ [(.int ((own_at f0 i).toInt8.toInt32)), (.int i), (.ref a2)]))
        have Vo13 : Arv Z h7 a2 k_a2 .byte z0 (own_ml z0 (own_fl f0 i)) (.int 0) := Va7_0
        obtain ⟨cl13, Ar13, qa13, Sa13, Na13, Ha13, Ga13⟩ := id Vo13
        have hib13 : ¬ i < 0 ∧ i < z0 := ⟨hi0, hc9⟩
        obtain ⟨T13, h13, X13, e13, W13, st13⟩ := stB X7 hx hZ e7 Ar13 (j := i) (inb_of Sa13 hib13) (g := (mkF m 31 #[.val (.ref a0), .val (.int i), .val (.ref a2), .val (.int i), .val (.int z0), .val (.int i), .val (.int (own_at f0 i))] [(.int ((own_at f0 i).toInt8.toInt32)), (.int i), (.ref a2)])) rfl rfl (hb hby d16_31)
        refine OwnFin.st st13 ?_
        have V13 : Arv Z h13 a2 k_a2 .byte z0 (own_ml z0 (own_upd (own_fl f0 i) i ((own_at f0 i).toInt8.toInt32))) (.int 0) := by
          have z := Arv.set Ar13 qa13 Sa13 Na13 Ha13 Ga13 (fits_nar_byte _) W13 _ rfl (by rw [own_mllen]; exact own_idx hib13)
          rw [own_nari2b, own_mlset] at z
          exact z
        have N13 := Fr.snoc X13 N7 g_a2
        have kp14 : Keep h0 h13 [a2] := kp8.wr W13 (Or.inl (List.mem_of_getElem? (i := 0) rfl))
        show OwnFin _ _ _ _ (T13.setTop (mkF m 32 _ []))
        refine OwnFin.st (fun _ q => XS.iinc X13.here hx rfl (hb hby d16_32) rfl (l' := #[.val (.ref a0), .val (.int (i + (1 : Int32))), .val (.ref a2), .val (.int i), .val (.int z0), .val (.int i), .val (.int (own_at f0 i))]) rfl q) ?_
        show OwnFin _ _ _ _ (T13.setTop (mkF m 35 _ []))
        refine OwnFin.st (fun _ q => XS.iinc X13.here hx rfl (hb hby d16_35) rfl (l' := #[.val (.ref a0), .val (.int (i + (1 : Int32))), .val (.ref a2), .val (.int (i + (1 : Int32))), .val (.int z0), .val (.int i), .val (.int (own_at f0 i))]) rfl q) ?_
        show OwnFin _ _ _ _ (T13.setTop (mkF m 38 _ []))
        refine OwnFin.st (fun _ q => XS.iinc X13.here hx rfl (hb hby d16_38) rfl (l' := #[.val (.ref a0), .val (.int (i + (1 : Int32))), .val (.ref a2), .val (.int (i + (1 : Int32))), .val (.int z0), .val (.int (i + (1 : Int32))), .val (.int (own_at f0 i))]) rfl q) ?_
        show OwnFin _ _ _ _ (T13.setTop (mkF m 41 _ []))
        refine OwnFin.st (fun _ q => XS.goto X13.here hx rfl (pc0 := 41) (pc' := 3) rfl (hb hby d16_41) (by decide) (by decide) q) ?_
        show OwnFin _ _ _ _ (T13.setTop (mkF m 3 #[.val (.ref a0), .val (.int (i + (1 : Int32))), .val (.ref a2), .val (.int (i + (1 : Int32))), .val (.int z0), .val (.int (i + (1 : Int32))), .val (.int (own_at f0 i))] []))
        exact ih ((i + (1 : Int32))) ((own_at f0 i)) _ _ _ (own_succ hi0 hc9).2.1 (own_succ hi0 hc9).2.2 (own_c5step hi0 hc9 hc11 hq) (own_dec hi0 hc9 hfu) X13 N13 e13 (K7.wr W13 (Or.inl (List.mem_of_getElem? (i := 0) rfl))) (own_mlcong (own_flstep hi0 hc9) V13)
      ·
       refine OwnFin.st (fun _ q => XS.icmpYes X7.here hx rfl (pc0 := 7) (pc' := 44) rfl (hb hby d16_7) rfl (Jvm.Free.XT.ii_ge_t hc9) (by decide) (by decide) q) ?_
       show OwnFin _ _ _ _ (T7.setTop (mkF m 44 _ []))
       refine OwnFin.st (fun _ q => XS.iload X7.here hx rfl (hb hby d16_44) rfl q) ?_
       show OwnFin _ _ _ _ (T7.setTop (mkF m 46 _ [(.int z0)]))
       obtain ⟨fs, hr, hrun, hended, hW, hsame⟩ := X7.leave (v := some (.int z0)) (fun h => by rw [Bd.returns] at h; cases h)
       refine ⟨_, _, retI X7 hx Bd.returns (hb hby d16_46) hr, hrun, hended, _, _, rfl, ?_, ⟨_, rfl⟩, hW, hsame.mono (by decide) (by decide)⟩
       show Q_rm_c5 Z a0 a2 z0 k_a0 f0 k_a2 h0 n0 _ T7.heap _
       rw [e7]
       have vE15 : Arv Z h7 a2 k_a2 .byte z0 (own_ml z0 (own_fl f0 (own_c5 f0 z0))) (.int 0) := own_mlcong (congrArg (own_fl f0) ((own_eqz hc9 hi1).trans (own_c5end hi0 hc9 hi1 hq))) Va7_0
       exact ⟨(congrArg (fun q => some (Value.int q)) (own_c5end hi0 hc9 hi1 hq)), N7, kp8, vE15⟩
    exact H7 _ (((0 : Int32) + (1 : Int32))) ((own_at f0 (0 : Int32))) _ _ _ (own_succ (by decide) hc1).2.1 (own_succ (by decide) hc1).2.2 (own_c5step (by decide) hc1 hc3 rfl) (Nat.lt_succ_self _) X5 N5 e5 (Keep.refl _ _) (own_mlcong ((congrArg (fun g => own_upd g (0 : Int32) (own_at f0 (0 : Int32)).toInt8.toInt32) (own_fl0 f0)).trans (own_flstep (by decide) hc1)) V5)
  ·
   refine OwnFin.st (fun _ q => XS.icmpYes X0.here hx rfl (pc0 := 7) (pc' := 44) rfl (hb hby d16_7) rfl (Jvm.Free.XT.ii_ge_t hc1) (by decide) (by decide) q) ?_
   show OwnFin _ _ _ _ (s₁.setTop (mkF m 44 _ []))
   refine OwnFin.st (fun _ q => XS.iload X0.here hx rfl (hb hby d16_44) rfl q) ?_
   show OwnFin _ _ _ _ (s₁.setTop (mkF m 46 _ [(.int z0)]))
   obtain ⟨fs, hr, hrun, hended, hW, hsame⟩ := X0.leave (v := some (.int z0)) (fun h => by rw [Bd.returns] at h; cases h)
   refine ⟨_, _, retI X0 hx Bd.returns (hb hby d16_46) hr, hrun, hended, _, _, rfl, ?_, ⟨_, rfl⟩, hW, hsame.mono (by decide) (by decide)⟩
   show Q_rm_c5 Z a0 a2 z0 k_a0 f0 k_a2 h0 n0 _ s₁.heap _
   rw [e0]
   have vE16 : Arv Z h0 a2 k_a2 .byte z0 (own_ml z0 (own_fl f0 (own_c5 f0 z0))) (.int 0) := own_mlcong ((own_fl0 f0).trans (congrArg (own_fl f0) ((own_eqz hc1 hz0).trans (own_c5end (i := 0) (by decide) hc1 hz0 rfl)))) V_a2
   exact ⟨(congrArg (fun q => some (Value.int q)) (own_c5end (i := 0) (by decide) hc1 hz0 rfl)), N0, kp0, vE16⟩
theorem d26_0 : decode jdk_52_method_4_code 0 = .ok (.getstatic 44, 3) := by decide +kernel
theorem d26_3 : decode jdk_52_method_4_code 3 = .ok (.ifCond .ne 25, 3) := by decide +kernel
theorem d26_28 : decode jdk_52_method_4_code 28 = .ok (.iload_n 1, 1) := by decide +kernel
theorem d26_29 : decode jdk_52_method_4_code 29 = .ok (.iconst 1, 1) := by decide +kernel
theorem d26_30 : decode jdk_52_method_4_code 30 = .ok (.ishl, 1) := by decide +kernel
theorem d26_31 : decode jdk_52_method_4_code 31 = .ok (.istore_n 1, 1) := by decide +kernel
theorem d26_32 : decode jdk_52_method_4_code 32 = .ok (.aload_n 0, 1) := by decide +kernel
theorem d26_33 : decode jdk_52_method_4_code 33 = .ok (.iload_n 1, 1) := by decide +kernel
theorem d26_34 : decode jdk_52_method_4_code 34 = .ok (.iinc 1 1, 3) := by decide +kernel
theorem d26_37 : decode jdk_52_method_4_code 37 = .ok (.iload_n 2, 1) := by decide +kernel
theorem d26_38 : decode jdk_52_method_4_code 38 = .ok (.getstatic 59, 3) := by decide +kernel
theorem d26_41 : decode jdk_52_method_4_code 41 = .ok (.ishr, 1) := by decide +kernel
theorem d26_42 : decode jdk_52_method_4_code 42 = .ok (.i2b, 1) := by decide +kernel
theorem d26_43 : decode jdk_52_method_4_code 43 = .ok (.bastore, 1) := by decide +kernel
theorem d26_44 : decode jdk_52_method_4_code 44 = .ok (.aload_n 0, 1) := by decide +kernel
theorem d26_45 : decode jdk_52_method_4_code 45 = .ok (.iload_n 1, 1) := by decide +kernel
theorem d26_46 : decode jdk_52_method_4_code 46 = .ok (.iload_n 2, 1) := by decide +kernel
theorem d26_47 : decode jdk_52_method_4_code 47 = .ok (.getstatic 63, 3) := by decide +kernel
theorem d26_50 : decode jdk_52_method_4_code 50 = .ok (.ishr, 1) := by decide +kernel
theorem d26_51 : decode jdk_52_method_4_code 51 = .ok (.i2b, 1) := by decide +kernel
theorem d26_52 : decode jdk_52_method_4_code 52 = .ok (.bastore, 1) := by decide +kernel
theorem d26_53 : decode jdk_52_method_4_code 53 = .ok (.return_, 1) := by decide +kernel
theorem ef_rm_pc (m : MethodId) (a0 : Addr) (p1 : Int32) (p2 : Int32) : entryFrame m #[(.ref a0), (.int p1), (.int p2)] 3 = mkF m 0 #[.val (.ref a0), .val (.int p1), .val (.int p2)] [] := by first | (simp [entryFrame, mkF, argsToLocals, Value.category]; done) | rfl
def Q_rm_pc (Z : State) (a0 : Addr) (p1 : Int32) (p2 : Int32) (k_a0 : ClassId) (z0 : Int32) (s0 : Nat → Int32) (h0 : Heap) (n0 : Nat) (v : Option Value) (h : Heap) (L : List Loc) : Prop := v = none ∧ Fr n0 L ∧ Keep h0 h [a0] ∧ Arv Z h a0 k_a0 .byte z0 (own_ml z0 (own_upd (own_upd s0 (p1 <<< ((1 : Int32) &&& 31)) ((p2 >>> ((0 : Int32) &&& 31)).toInt8.toInt32)) ((p1 <<< ((1 : Int32) &&& 31)) + (1 : Int32)) ((p2 >>> ((8 : Int32) &&& 31)).toInt8.toInt32))) (.int 0)
set_option maxRecDepth 65536 in
set_option maxHeartbeats 40000000 in
theorem rm_pc (l : Launch) (Z : State) (av0 : Array Value) (hw : ∀ d ∈ tables_1, d.before av0 Z = true) (ws : List Jvm.Cond) (a0 : Addr) (p1 : Int32) (p2 : Int32) (k_a0 : ClassId) (z0 : Int32) (s0 : Nat → Int32) (h0 : Heap) (n0 : Nat) (Z0 : n0 ≤ h0.size) (Ol0 : Old Z n0 h0) (V_a0 : Arv Z h0 a0 k_a0 .byte z0 (own_ml z0 s0) (.int 0)) (hgb : 0 ≤ p1.toInt ∧ 2 * p1.toInt + 1 < z0.toInt) (S__assertionsDisabled : Sta Z Z.heap "java/lang/StringUTF16" "$assertionsDisabled" "Z" (.int 1)) (S_HI_BYTE_SHIFT : Sta Z Z.heap "java/lang/StringUTF16" "HI_BYTE_SHIFT" "I" (.int 0)) (g_a0 : n0 ≤ a0) (S_LO_BYTE_SHIFT : Sta Z Z.heap "java/lang/StringUTF16" "LO_BYTE_SHIFT" "I" (.int 8)) :
    MetFree l yM16 (head1 (Jvm.Cond.code yM16 jdk_52_method_4_code 3 none :: ws) ({ frames := 0, cells := 0, slots := 0, locals := 0 } : Room)) (fun a U => a = #[(.ref a0), (.int p1), (.int p2)] ∧ Z.Warmed39 U.vm ∧ U.heap = h0) (fun _ _ _ _ _ => True) (fun _ U o U' => ∃ v L, o = .returned v ∧ Q_rm_pc Z a0 p1 p2 k_a0 z0 s0 h0 n0 v U'.heap L ∧ FrameEnd U o U' L ({ frames := 0, cells := 0, slots := 0, locals := 0 } : Room).cells ({ frames := 0, cells := 0, slots := 0, locals := 0 } : Room).slots) := by
  refine MetFree.of_bodySF (plainFor_of_name pn_0) hisR ?_
  intro p e s m args below meth c s₁ Bd hml0 hP hK
  obtain ⟨rfl, hZ, hh⟩ := hP
  have hx := Bd.exec
  have hby := Bd.bytes
  have hml : c.maxLocals = 3 := hml0
  have hown : s.vm.findClass "java/lang/StringUTF16" = some m.cls := findClass_of_methodNamed Bd.named
  have hnm := (name_of_methodNamed Bd.named Bd.method).1
  have X0 : Stand p l e ({ frames := 0, cells := 0, slots := 0, locals := 0 } : Room) s m #[(.ref a0), (.int p1), (.int p2)] below meth c s₁ [] 0 0 := Stand.of_body Bd
  have e0 : s₁.heap = h0 := by rw [← hh, Bd.state]; rfl
  have N0 := Fr.nil n0
  have pre0 : ∀ t, Steps p.tables e below (s₁.setTop (mkF m 0 #[.val (.ref a0), .val (.int p1), .val (.int p2)] [])) t → Steps p.tables e below (s₁.setTop (entryFrame m #[(.ref a0), (.int p1), (.int p2)] 3)) t := fun t k => castTop (ef_rm_pc m a0 p1 p2) k
  change OwnFin p.tables e below _ (s₁.setTop (entryFrame m #[(.ref a0), (.int p1), (.int p2)] 3))
  have kp0 : Keep h0 h0 [a0] := Keep.refl _ _
  refine OwnFin.st (fun _ q => pre0 _ q) ?_
  show OwnFin _ _ _ _ (s₁.setTop (mkF m 0 #[.val (.ref a0), .val (.int p1), .val (.int p2)] []))
  obtain ⟨T1, X1, e1, st1⟩ := getS2 X0 hx hZ hown (host := "") (Or.inl (w_ hw 116 rfl)) Via.refl e0 (S__assertionsDisabled.ext Ol0.2) (g := (mkF m 0 #[.val (.ref a0), .val (.int p1), .val (.int p2)] [])) rfl (hb hby d26_0)
  refine OwnFin.st st1 ?_
  show OwnFin _ _ _ _ (T1.setTop (mkF m 3 _ [(.int 1)]))
  refine OwnFin.st (fun _ q => XS.ifYes X1.here hx rfl (pc0 := 3) (pc' := 28) rfl (hb hby d26_3) rfl (Jvm.Free.XT.i0_ne_t (by decide : ¬ ((1 : Int32) = (0 : Int32)))) (by decide) (by decide) q) ?_
  show OwnFin _ _ _ _ (T1.setTop (mkF m 28 _ []))
  refine OwnFin.st (fun _ q => XS.iloadN X1.here hx rfl (hb hby d26_28) rfl q) ?_
  show OwnFin _ _ _ _ (T1.setTop (mkF m 29 _ [(.int p1)]))
  refine OwnFin.st (fun _ q => XS.iconst X1.here hx rfl (hb hby d26_29) q) ?_
  show OwnFin _ _ _ _ (T1.setTop (mkF m 30 _ [(.int 1), (.int p1)]))
  refine OwnFin.st (fun _ q => XS.ishl X1.here hx rfl (hb hby d26_30) rfl q) ?_
  show OwnFin _ _ _ _ (T1.setTop (mkF m 31 _ [(.int (p1 <<< ((1 : Int32) &&& 31)))]))
  refine OwnFin.st (fun _ q => XS.istoreN X1.here hx rfl (hb hby d26_31) rfl (l' := #[.val (.ref a0), .val (.int (p1 <<< ((1 : Int32) &&& 31))), .val (.int p2)]) rfl q) ?_
  show OwnFin _ _ _ _ (T1.setTop (mkF m 32 _ []))
  refine OwnFin.st (fun _ q => XS.aloadN X1.here hx rfl (hb hby d26_32) rfl rfl q) ?_
  show OwnFin _ _ _ _ (T1.setTop (mkF m 33 _ [(.ref a0)]))
  refine OwnFin.st (fun _ q => XS.iloadN X1.here hx rfl (hb hby d26_33) rfl q) ?_
  show OwnFin _ _ _ _ (T1.setTop (mkF m 34 _ [(.int (p1 <<< ((1 : Int32) &&& 31))), (.ref a0)]))
  refine OwnFin.st (fun _ q => XS.iinc X1.here hx rfl (hb hby d26_34) rfl (l' := #[.val (.ref a0), .val (.int ((p1 <<< ((1 : Int32) &&& 31)) + (1 : Int32))), .val (.int p2)]) rfl q) ?_
  show OwnFin _ _ _ _ (T1.setTop (mkF m 37 _ [(.int (p1 <<< ((1 : Int32) &&& 31))), (.ref a0)]))
  refine OwnFin.st (fun _ q => XS.iloadN X1.here hx rfl (hb hby d26_37) rfl q) ?_
  show OwnFin _ _ _ _ (T1.setTop (mkF m 38 _ [(.int p2), (.int (p1 <<< ((1 : Int32) &&& 31))), (.ref a0)]))
  obtain ⟨T2, X2, e2, st2⟩ := getS2 X1 hx hZ hown (host := "") (Or.inl (w_ hw 117 rfl)) Via.refl e1 (S_HI_BYTE_SHIFT.ext Ol0.2) (g := (mkF m 38 #[.val (.ref a0), .val (.int ((p1 <<< ((1 : Int32) &&& 31)) + (1 : Int32))), .val (.int p2)] [(.int p2), (.int (p1 <<< ((1 : Int32) &&& 31))), (.ref a0)])) rfl (hb hby d26_38)
  refine OwnFin.st st2 ?_
  show OwnFin _ _ _ _ (T2.setTop (mkF m 41 _ [(.int 0), (.int p2), (.int (p1 <<< ((1 : Int32) &&& 31))), (.ref a0)]))
  refine OwnFin.st (fun _ q => XS.ishr X2.here hx rfl (hb hby d26_41) rfl q) ?_
  show OwnFin _ _ _ _ (T2.setTop (mkF m 42 _ [(.int (p2 >>> ((0 : Int32) &&& 31))), (.int (p1 <<< ((1 : Int32) &&& 31))), (.ref a0)]))
  refine OwnFin.st (fun _ q => XS.i2b X2.here hx rfl (hb hby d26_42) rfl q) ?_
  show OwnFin _ _ _ _ (T2.setTop (mkF m 43 #[.val (.ref a0), .val (.int ((p1 <<< ((1 : Int32) &&& 31)) + (1 : Int32))), .val (.int p2)] [(.int ((p2 >>> ((0 : Int32) &&& 31)).toInt8.toInt32)), (.int (p1 <<< ((1 : Int32) &&& 31))), (.ref a0)]))
  have Vo3 : Arv Z h0 a0 k_a0 .byte z0 (own_ml z0 s0) (.int 0) := V_a0
  obtain ⟨cl3, Ar3, qa3, Sa3, Na3, Ha3, Ga3⟩ := id Vo3
  have hib3 : ¬ (p1 <<< ((1 : Int32) &&& 31)) < 0 ∧ (p1 <<< ((1 : Int32) &&& 31)) < z0 := (own_ix0 hgb)
  obtain ⟨T3, h3, X3, e3, W3, st3⟩ := stB X2 hx hZ e2 Ar3 (j := (p1 <<< ((1 : Int32) &&& 31))) (inb_of Sa3 hib3) (g := (mkF m 43 #[.val (.ref a0), .val (.int ((p1 <<< ((1 : Int32) &&& 31)) + (1 : Int32))), .val (.int p2)] [(.int ((p2 >>> ((0 : Int32) &&& 31)).toInt8.toInt32)), (.int (p1 <<< ((1 : Int32) &&& 31))), (.ref a0)])) rfl rfl (hb hby d26_43)
  refine OwnFin.st st3 ?_
  have V3 : Arv Z h3 a0 k_a0 .byte z0 (own_ml z0 (own_upd s0 (p1 <<< ((1 : Int32) &&& 31)) ((p2 >>> ((0 : Int32) &&& 31)).toInt8.toInt32))) (.int 0) := by
    have z := Arv.set Ar3 qa3 Sa3 Na3 Ha3 Ga3 (fits_nar_byte _) W3 _ rfl (by rw [own_mllen]; exact own_idx hib3)
    rw [own_nari2b, own_mlset] at z
    exact z
  have N3 := Fr.snoc X3 N0 g_a0
  have kp4 : Keep h0 h3 [a0] := kp0.wr W3 (Or.inl (List.mem_of_getElem? (i := 0) rfl))
  have ol4 : Old Z n0 h3 := Ol0.wr W3 g_a0
  show OwnFin _ _ _ _ (T3.setTop (mkF m 44 _ []))
  refine OwnFin.st (fun _ q => XS.aloadN X3.here hx rfl (hb hby d26_44) rfl rfl q) ?_
  show OwnFin _ _ _ _ (T3.setTop (mkF m 45 _ [(.ref a0)]))
  refine OwnFin.st (fun _ q => XS.iloadN X3.here hx rfl (hb hby d26_45) rfl q) ?_
  show OwnFin _ _ _ _ (T3.setTop (mkF m 46 _ [(.int ((p1 <<< ((1 : Int32) &&& 31)) + (1 : Int32))), (.ref a0)]))
  refine OwnFin.st (fun _ q => XS.iloadN X3.here hx rfl (hb hby d26_46) rfl q) ?_
  show OwnFin _ _ _ _ (T3.setTop (mkF m 47 _ [(.int p2), (.int ((p1 <<< ((1 : Int32) &&& 31)) + (1 : Int32))), (.ref a0)]))
  obtain ⟨T5, X5, e5, st5⟩ := getS2 X3 hx hZ hown (host := "") (Or.inl (w_ hw 118 rfl)) Via.refl e3 (S_LO_BYTE_SHIFT.ext ol4.2) (g := (mkF m 47 #[.val (.ref a0), .val (.int ((p1 <<< ((1 : Int32) &&& 31)) + (1 : Int32))), .val (.int p2)] [(.int p2), (.int ((p1 <<< ((1 : Int32) &&& 31)) + (1 : Int32))), (.ref a0)])) rfl (hb hby d26_47)
  refine OwnFin.st st5 ?_
  show OwnFin _ _ _ _ (T5.setTop (mkF m 50 _ [(.int 8), (.int p2), (.int ((p1 <<< ((1 : Int32) &&& 31)) + (1 : Int32))), (.ref a0)]))
  refine OwnFin.st (fun _ q => XS.ishr X5.here hx rfl (hb hby d26_50) rfl q) ?_
  show OwnFin _ _ _ _ (T5.setTop (mkF m 51 _ [(.int (p2 >>> ((8 : Int32) &&& 31))), (.int ((p1 <<< ((1 : Int32) &&& 31)) + (1 : Int32))), (.ref a0)]))
  refine OwnFin.st (fun _ q => XS.i2b X5.here hx rfl (hb hby d26_51) rfl q) ?_
  show OwnFin _ _ _ _ (T5.setTop (mkF m 52 _ [(.int ((p2 >>> ((8 : Int32) &&& 31)).toInt8.toInt32)), (.int ((p1 <<< ((1 : Int32) &&& 31)) + (1 : Int32))), (.ref a0)]))
  have Vo6 : Arv Z h3 a0 k_a0 .byte z0 (own_ml z0 (own_upd s0 (p1 <<< ((1 : Int32) &&& 31)) ((p2 >>> ((0 : Int32) &&& 31)).toInt8.toInt32))) (.int 0) := V3
  obtain ⟨cl6, Ar6, qa6, Sa6, Na6, Ha6, Ga6⟩ := id Vo6
  have hib6 : ¬ ((p1 <<< ((1 : Int32) &&& 31)) + (1 : Int32)) < 0 ∧ ((p1 <<< ((1 : Int32) &&& 31)) + (1 : Int32)) < z0 := (own_ix1 hgb)
  obtain ⟨T6, h6, X6, e6, W6, st6⟩ := stB X5 hx hZ e5 Ar6 (j := ((p1 <<< ((1 : Int32) &&& 31)) + (1 : Int32))) (inb_of Sa6 hib6) (g := (mkF m 52 #[.val (.ref a0), .val (.int ((p1 <<< ((1 : Int32) &&& 31)) + (1 : Int32))), .val (.int p2)] [(.int ((p2 >>> ((8 : Int32) &&& 31)).toInt8.toInt32)), (.int ((p1 <<< ((1 : Int32) &&& 31)) + (1 : Int32))), (.ref a0)])) rfl rfl (hb hby d26_52)
  refine OwnFin.st st6 ?_
  have V6 : Arv Z h6 a0 k_a0 .byte z0 (own_ml z0 (own_upd (own_upd s0 (p1 <<< ((1 : Int32) &&& 31)) ((p2 >>> ((0 : Int32) &&& 31)).toInt8.toInt32)) ((p1 <<< ((1 : Int32) &&& 31)) + (1 : Int32)) ((p2 >>> ((8 : Int32) &&& 31)).toInt8.toInt32))) (.int 0) := by
    have z := Arv.set Ar6 qa6 Sa6 Na6 Ha6 Ga6 (fits_nar_byte _) W6 _ rfl (by rw [own_mllen]; exact own_idx hib6)
    rw [own_nari2b, own_mlset] at z
    exact z
  have N6 := Fr.snoc X6 N3 g_a0
  have kp7 : Keep h0 h6 [a0] := kp4.wr W6 (Or.inl (List.mem_of_getElem? (i := 0) rfl))
  have ol7 : Old Z n0 h6 := ol4.wr W6 g_a0
  show OwnFin _ _ _ _ (T6.setTop (mkF m 53 _ []))
  obtain ⟨fs, hr, hrun, hended, hW, hsame⟩ := X6.leave (v := none) (fun _ => rfl)
  refine ⟨_, _, X6.returnOut hx Bd.returns (hb hby d26_53) hr, hrun, hended, _, _, rfl, ?_, ⟨_, rfl⟩, hW, hsame.mono (by decide) (by decide)⟩
  show Q_rm_pc Z a0 p1 p2 k_a0 z0 s0 h0 n0 _ T6.heap _
  rw [e6]
  exact ⟨rfl, N6, kp7, V6⟩
theorem d25_0 : decode jdk_52_method_3_code 0 = .ok (.iload_n 0, 1) := by decide +kernel
theorem d25_1 : decode jdk_52_method_3_code 1 = .ok (.ifCond .ge 11, 3) := by decide +kernel
theorem d25_12 : decode jdk_52_method_3_code 12 = .ok (.iload_n 0, 1) := by decide +kernel
theorem d25_13 : decode jdk_52_method_3_code 13 = .ok (.ldc 20, 2) := by decide +kernel
theorem d25_15 : decode jdk_52_method_3_code 15 = .ok (.if_icmp .lt 40, 3) := by decide +kernel
theorem d25_55 : decode jdk_52_method_3_code 55 = .ok (.iload_n 0, 1) := by decide +kernel
theorem d25_56 : decode jdk_52_method_3_code 56 = .ok (.iconst 1, 1) := by decide +kernel
theorem d25_57 : decode jdk_52_method_3_code 57 = .ok (.ishl, 1) := by decide +kernel
theorem d25_58 : decode jdk_52_method_3_code 58 = .ok (.ireturn, 1) := by decide +kernel
theorem ef_rm_nl (m : MethodId) (p0 : Int32) : entryFrame m #[(.int p0)] 1 = mkF m 0 #[.val (.int p0)] [] := by first | (simp [entryFrame, mkF, argsToLocals, Value.category]; done) | rfl
def Q_rm_nl (Z : State) (p0 : Int32) (h0 : Heap) (n0 : Nat) (v : Option Value) (h : Heap) (L : List Loc) : Prop := v = some (.int (p0 <<< ((1 : Int32) &&& 31))) ∧ Fr n0 L ∧ h = h0
set_option maxRecDepth 65536 in
set_option maxHeartbeats 40000000 in
theorem rm_nl (l : Launch) (Z : State) (av0 : Array Value) (hw : ∀ d ∈ tables_1, d.before av0 Z = true) (ws : List Jvm.Cond) (p0 : Int32) (h0 : Heap) (n0 : Nat) (Z0 : n0 ≤ h0.size) (hc0 : ¬ (p0 < (0 : Int32))) (hc1 : p0 < (1073741823 : Int32)) :
    MetFree l yM17 (head1 (Jvm.Cond.code yM17 jdk_52_method_3_code 1 (some .int) :: ws) ({ frames := 0, cells := 0, slots := 0, locals := 0 } : Room)) (fun a U => a = #[(.int p0)] ∧ Z.Warmed39 U.vm ∧ U.heap = h0) (fun _ _ _ _ _ => True) (fun _ U o U' => ∃ v L, o = .returned v ∧ Q_rm_nl Z p0 h0 n0 v U'.heap L ∧ FrameEnd U o U' L ({ frames := 0, cells := 0, slots := 0, locals := 0 } : Room).cells ({ frames := 0, cells := 0, slots := 0, locals := 0 } : Room).slots) := by
  refine MetFree.of_bodySF (plainFor_of_name pn_0) hisR ?_
  intro p e s m args below meth c s₁ Bd hml0 hP hK
  obtain ⟨rfl, hZ, hh⟩ := hP
  have hx := Bd.exec
  have hby := Bd.bytes
  have hml : c.maxLocals = 1 := hml0
  have hown : s.vm.findClass "java/lang/StringUTF16" = some m.cls := findClass_of_methodNamed Bd.named
  have hnm := (name_of_methodNamed Bd.named Bd.method).1
  have X0 : Stand p l e ({ frames := 0, cells := 0, slots := 0, locals := 0 } : Room) s m #[(.int p0)] below meth c s₁ [] 0 0 := Stand.of_body Bd
  have e0 : s₁.heap = h0 := by rw [← hh, Bd.state]; rfl
  have N0 := Fr.nil n0
  have pre0 : ∀ t, Steps p.tables e below (s₁.setTop (mkF m 0 #[.val (.int p0)] [])) t → Steps p.tables e below (s₁.setTop (entryFrame m #[(.int p0)] 1)) t := fun t k => castTop (ef_rm_nl m p0) k
  change OwnFin p.tables e below _ (s₁.setTop (entryFrame m #[(.int p0)] 1))
  have kp0 : Keep h0 h0 [] := Keep.refl _ _
  refine OwnFin.st (fun _ q => pre0 _ q) ?_
  show OwnFin _ _ _ _ (s₁.setTop (mkF m 0 #[.val (.int p0)] []))
  refine OwnFin.st (fun _ q => XS.iloadN X0.here hx rfl (hb hby d25_0) rfl q) ?_
  show OwnFin _ _ _ _ (s₁.setTop (mkF m 1 _ [(.int p0)]))
  refine OwnFin.st (fun _ q => XS.ifYes X0.here hx rfl (pc0 := 1) (pc' := 12) rfl (hb hby d25_1) rfl (Jvm.Free.XT.i0_ge_t hc0) (by decide) (by decide) q) ?_
  show OwnFin _ _ _ _ (s₁.setTop (mkF m 12 _ []))
  refine OwnFin.st (fun _ q => XS.iloadN X0.here hx rfl (hb hby d25_12) rfl q) ?_
  show OwnFin _ _ _ _ (s₁.setTop (mkF m 13 _ [(.int p0)]))
  refine OwnFin.st (X0.ldcInt hx hown (mvT hZ (w_ hw 112 rfl)) (g := (mkF m 13 #[.val (.int p0)] [(.int p0)])) rfl (hb hby d25_13)) ?_
  show OwnFin _ _ _ _ (s₁.setTop (mkF m 15 _ [(.int 1073741823), (.int p0)]))
  refine OwnFin.st (fun _ q => XS.icmpYes X0.here hx rfl (pc0 := 15) (pc' := 55) rfl (hb hby d25_15) rfl (Jvm.Free.XT.ii_lt_t hc1) (by decide) (by decide) q) ?_
  show OwnFin _ _ _ _ (s₁.setTop (mkF m 55 _ []))
  refine OwnFin.st (fun _ q => XS.iloadN X0.here hx rfl (hb hby d25_55) rfl q) ?_
  show OwnFin _ _ _ _ (s₁.setTop (mkF m 56 _ [(.int p0)]))
  refine OwnFin.st (fun _ q => XS.iconst X0.here hx rfl (hb hby d25_56) q) ?_
  show OwnFin _ _ _ _ (s₁.setTop (mkF m 57 _ [(.int 1), (.int p0)]))
  refine OwnFin.st (fun _ q => XS.ishl X0.here hx rfl (hb hby d25_57) rfl q) ?_
  show OwnFin _ _ _ _ (s₁.setTop (mkF m 58 _ [(.int (p0 <<< ((1 : Int32) &&& 31)))]))
  obtain ⟨fs, hr, hrun, hended, hW, hsame⟩ := X0.leave (v := some (.int (p0 <<< ((1 : Int32) &&& 31)))) (fun h => by rw [Bd.returns] at h; cases h)
  refine ⟨_, _, retI X0 hx Bd.returns (hb hby d25_58) hr, hrun, hended, _, _, rfl, ?_, ⟨_, rfl⟩, hW, hsame.mono (by decide) (by decide)⟩
  show Q_rm_nl Z p0 h0 n0 _ s₁.heap _
  rw [e0]
  exact ⟨rfl, N0, rfl⟩
theorem own_cap {z : Int32} (h0 : ¬ z < (0 : Int32)) (h1 : ¬ (6 : Int32) < z) : ¬ (z <<< ((1 : Int32) &&& 31)) < 0 ∧ (z <<< ((1 : Int32) &&& 31)).toNatClampNeg ≤ 12 ∧ (z <<< ((1 : Int32) &&& 31)).toInt = 2 * z.toInt ∧ z < (1073741823 : Int32) ∧ z.toNatClampNeg ≤ 6 := by
  have a := c_ishl z (1 : Int32) 1 (by decide +kernel); have a' := rng32 (z <<< ((1 : Int32) &&& 31)); have r : (0 : Int32).toInt = 0 := rfl; have r6 : (6 : Int32).toInt = 6 := rfl; have r7 : (1073741823 : Int32).toInt = 1073741823 := rfl
  rw [Int32.lt_iff_toInt_lt] at h0 h1 
  have e : (z <<< ((1 : Int32) &&& 31)).toInt = 2 * z.toInt := by omega
  refine ⟨by rw [Int32.lt_iff_toInt_lt]; omega, ?_, e, by rw [Int32.lt_iff_toInt_lt]; omega, ?_⟩
  · simp only [Int32.toNatClampNeg, e]; omega
  · simp only [Int32.toNatClampNeg]; omega
def own_uf (f : Nat → Int32) (i : Int32) : Nat → Int32 := fun j => if j < 2 * i.toNatClampNeg then if j % 2 = 0 then own_lo (f (j / 2)) else own_hi (f (j / 2)) else 0
theorem own_uf0 (f : Nat → Int32) : own_zf = own_uf f (0 : Int32) := by funext j; simp [own_zf, own_uf]
theorem own_ufb {i z : Int32} (h0 : ¬ i < (0 : Int32)) (h1 : i < z) (k0 : ¬ z < (0 : Int32)) (k1 : ¬ (6 : Int32) < z) : 0 ≤ i.toInt ∧ 2 * i.toInt + 1 < (z <<< ((1 : Int32) &&& 31)).toInt := by
  rw [(own_cap k0 k1).2.2.1]; have r : (0 : Int32).toInt = 0 := rfl
  rw [Int32.lt_iff_toInt_lt] at h0 h1; omega
theorem own_ufstep {f : Nat → Int32} {i z : Int32} (h0 : ¬ i < (0 : Int32)) (h1 : i < z) (k0 : ¬ z < (0 : Int32)) (k1 : ¬ (6 : Int32) < z) : own_upd (own_upd (own_uf f i) (i <<< ((1 : Int32) &&& 31)) (own_lo (own_at f i))) ((i <<< ((1 : Int32) &&& 31)) + (1 : Int32)) (own_hi (own_at f i)) = own_uf f (i + (1 : Int32)) := by
  have hb := own_ufb h0 h1 k0 k1
  have a := c_ishl i (1 : Int32) 1 (by decide +kernel); have a' := rng32 (i <<< ((1 : Int32) &&& 31)); have b := rng32 i; have e := rng32 (z <<< ((1 : Int32) &&& 31))
  have e1 : (i <<< ((1 : Int32) &&& 31)).toInt = 2 * i.toInt := by omega
  have x0 := own_ix0 hb
  have n1 : (i <<< ((1 : Int32) &&& 31)).toNatClampNeg = 2 * i.toNatClampNeg := by have q := own_nat h0; simp only [Int32.toNatClampNeg, e1]; simp only [Int32.toNatClampNeg] at q; omega
  have x1 := own_ix1 hb
  have n2 : ((i <<< ((1 : Int32) &&& 31)) + (1 : Int32)).toNatClampNeg = 2 * i.toNatClampNeg + 1 := by rw [(own_succ x0.1 x0.2).1, n1]
  funext j; simp only [own_upd, own_uf, own_at, n1, n2, (own_succ h0 h1).1]
  by_cases q : j = 2 * i.toNatClampNeg + 1
  · subst q; rw [if_pos rfl, if_pos (by omega), if_neg (by omega), show (2 * i.toNatClampNeg + 1) / 2 = i.toNatClampNeg by omega]
  · rw [if_neg q]; by_cases q2 : j = 2 * i.toNatClampNeg
    · subst q2; rw [if_pos rfl, if_pos (by omega), if_pos (by omega), show (2 * i.toNatClampNeg) / 2 = i.toNatClampNeg by omega]
    · rw [if_neg q2]; by_cases q3 : j < 2 * i.toNatClampNeg
      · rw [if_pos q3, if_pos (show j < 2 * (i.toNatClampNeg + 1) by omega)]
      · rw [if_neg q3, if_neg (show ¬ j < 2 * (i.toNatClampNeg + 1) by omega)]
theorem d24_0 : decode jdk_52_method_2_code 0 = .ok (.iload_n 0, 1) := by decide +kernel
theorem d24_1 : decode jdk_52_method_2_code 1 = .ok (.invokestatic 11, 3) := by decide +kernel
theorem d24_4 : decode jdk_52_method_2_code 4 = .ok (.newarray .byte, 2) := by decide +kernel
theorem d24_6 : decode jdk_52_method_2_code 6 = .ok (.areturn, 1) := by decide +kernel
theorem ef_rm_nb (m : MethodId) (z0 : Int32) : entryFrame m #[(.int z0)] 1 = mkF m 0 #[.val (.int z0)] [] := by first | (simp [entryFrame, mkF, argsToLocals, Value.category]; done) | rfl
def Q_rm_nb (Z : State) (z0 : Int32) (h0 : Heap) (n0 : Nat) (v : Option Value) (h : Heap) (L : List Loc) : Prop := ∃ b2 : Addr, ∃ k2 : ClassId, v = some (.ref b2) ∧ Fr n0 L ∧ Keep h0 h [] ∧ h0.size ≤ b2 ∧ Arv Z h b2 k2 .byte (z0 <<< ((1 : Int32) &&& 31)) (own_ml (z0 <<< ((1 : Int32) &&& 31)) own_zf) (.int 0)
set_option maxRecDepth 65536 in
set_option maxHeartbeats 40000000 in
theorem rm_nb (l : Launch) (Z : State) (av0 : Array Value) (hw : ∀ d ∈ tables_1, d.before av0 Z = true) (ws : List Jvm.Cond) (z0 : Int32) (h0 : Heap) (n0 : Nat) (Z0 : n0 ≤ h0.size) (hz0 : ¬ (z0 < (0 : Int32))) (hz6 : ¬ ((6 : Int32) < z0)) :
    MetFree l yM18 (head1 (Jvm.Cond.code yM18 jdk_52_method_2_code 1 (some (.array .byte)) :: ws) ({ frames := 1, cells := 1, slots := 12, locals := 12 } : Room)) (fun a U => a = #[(.int z0)] ∧ Z.Warmed39 U.vm ∧ U.heap = h0) (fun _ _ _ _ _ => True) (fun _ U o U' => ∃ v L, o = .returned v ∧ Q_rm_nb Z z0 h0 n0 v U'.heap L ∧ FrameEnd U o U' L ({ frames := 1, cells := 1, slots := 12, locals := 12 } : Room).cells ({ frames := 1, cells := 1, slots := 12, locals := 12 } : Room).slots) := by
  refine MetFree.of_bodySF (plainFor_of_name pn_0) hisR ?_
  intro p e s m args below meth c s₁ Bd hml0 hP hK
  obtain ⟨rfl, hZ, hh⟩ := hP
  have hx := Bd.exec
  have hby := Bd.bytes
  have hml : c.maxLocals = 1 := hml0
  have hown : s.vm.findClass "java/lang/StringUTF16" = some m.cls := findClass_of_methodNamed Bd.named
  have hnm := (name_of_methodNamed Bd.named Bd.method).1
  have X0 : Stand p l e ({ frames := 1, cells := 1, slots := 12, locals := 12 } : Room) s m #[(.int z0)] below meth c s₁ [] 0 0 := Stand.of_body Bd
  have e0 : s₁.heap = h0 := by rw [← hh, Bd.state]; rfl
  have N0 := Fr.nil n0
  have pre0 : ∀ t, Steps p.tables e below (s₁.setTop (mkF m 0 #[.val (.int z0)] [])) t → Steps p.tables e below (s₁.setTop (entryFrame m #[(.int z0)] 1)) t := fun t k => castTop (ef_rm_nb m z0) k
  change OwnFin p.tables e below _ (s₁.setTop (entryFrame m #[(.int z0)] 1))
  have kp0 : Keep h0 h0 [] := Keep.refl _ _
  refine OwnFin.st (fun _ q => pre0 _ q) ?_
  show OwnFin _ _ _ _ (s₁.setTop (mkF m 0 #[.val (.int z0)] []))
  refine OwnFin.st (fun _ q => XS.iloadN X0.here hx rfl (hb hby d24_0) rfl q) ?_
  show OwnFin _ _ _ _ (s₁.setTop (mkF m 1 _ [(.int z0)]))
  obtain ⟨_, _, ⟨T1, L1, k1, n1⟩, -, X1, ⟨Lc1, hQ1, l1, y1, z1⟩, st1⟩ := Jvm.LawKit.callS X0 hx (y := yM17) hown (mvT hZ (w_ hw 109 rfl)) (mvT hZ (w_ hw 110 rfl)) (mvT hZ (w_ hw 70 rfl)) (mvT hZ (w_ hw 111 rfl)) (by decide) (backOf (W := 0) (rm_nl l Z av0 hw [] z0 h0 n0 (Nat.le_trans Z0 kp0.1) hz0 (own_cap hz0 hz6).2.2.2.1) hZ (w_ hw 111 rfl) (w_ hw 70 rfl) (by decide) (by decide)) (g := (mkF m 1 #[.val (.int z0)] [(.int z0)])) rfl (by rw [hml]; rfl) (argsL := [(.int z0)]) (rest := []) (lenOf pd_10 rfl) rfl (by show 2 * 0 + _ ≤ _; exact Nat.le_of_eq rfl) (hb hby d24_1) (fun _ _ => ⟨rfl, e0, (by decide : 0 + 0 ≤ _), (by decide : 0 + 0 ≤ _)⟩)
  dsimp only [Pt.U, Pt.locs, Pt.cells, Pt.slots] at X1 l1 y1 z1 st1 hQ1
  subst l1 y1 z1
  obtain ⟨rfl, N1q, he1⟩ := hQ1
  have N1 := Fr.app N0 N1q
  refine OwnFin.st st1 ?_
  show OwnFin _ _ _ _ (T1.setTop (mkF m 4 _ [(.int (z0 <<< ((1 : Int32) &&& 31)))]))
  obtain ⟨T2, h2, k2, X2, e2, E2, A2, st2⟩ := newP X1 hx hZ (w_ hw 34 rfl) he1 (g := (mkF m 4 #[.val (.int z0)] [(.int (z0 <<< ((1 : Int32) &&& 31)))])) rfl (hb hby d24_4) rfl (own_cap hz0 hz6).1 (cap := 12) (own_cap hz0 hz6).2.1 (by decide) (by decide) (by decide)
  obtain ⟨b2, qe2⟩ : ∃ z, z = h0.size := ⟨_, rfl⟩
  rw [← qe2] at A2 st2
  refine OwnFin.st st2 ?_
  have bi_b2 : h0.size ≤ b2 := Nat.le_of_eq qe2.symm
  have lo_b2 : h0.size ≤ b2 := Nat.le_trans kp0.1 bi_b2
  have g_b2 : n0 ≤ b2 := Nat.le_trans Z0 lo_b2
  have kp3 : Keep h0 h2 [] := kp0.ext E2
  have V2 : Arv Z h2 b2 k2 .byte (z0 <<< ((1 : Int32) &&& 31)) (own_ml (z0 <<< ((1 : Int32) &&& 31)) own_zf) (.int 0) := (Arv.new A2 (own_cap hz0 hz6).1).pad (own_mlnew _)
  show OwnFin _ _ _ _ (T2.setTop (mkF m 6 _ [(.ref b2)]))
  obtain ⟨fs, hr, hrun, hended, hW, hsame⟩ := X2.leave (v := some (.ref b2)) (fun h => by rw [Bd.returns] at h; cases h)
  refine ⟨_, _, retOut X2 hx Bd.returns rfl (Or.inr (Or.inr (Or.inr (Or.inr ⟨rfl, rfl, rfl⟩)))) (hb hby d24_6) hr, hrun, hended, _, _, rfl, ?_, ⟨_, rfl⟩, hW, hsame.mono (by decide) (by decide)⟩
  show Q_rm_nb Z z0 h0 n0 _ T2.heap _
  rw [e2]
  exact ⟨b2, k2, rfl, N1, kp3, lo_b2, V2⟩
theorem pd_12 : parseMethodDescriptor "(I)[B" = some ⟨[.int], some (.array .byte)⟩ := by decide +kernel
theorem pd_13 : parseMethodDescriptor "([BII)V" = some ⟨[(.array .byte), .int, .int], none⟩ := by decide +kernel
theorem d23_0 : decode jdk_52_method_14_code 0 = .ok (.iload_n 2, 1) := by decide +kernel
theorem d23_1 : decode jdk_52_method_14_code 1 = .ok (.invokestatic 107, 3) := by decide +kernel
theorem d23_4 : decode jdk_52_method_14_code 4 = .ok (.astore_n 3, 1) := by decide +kernel
theorem d23_5 : decode jdk_52_method_14_code 5 = .ok (.iconst 0, 1) := by decide +kernel
theorem d23_6 : decode jdk_52_method_14_code 6 = .ok (.istore 4, 2) := by decide +kernel
theorem d23_8 : decode jdk_52_method_14_code 8 = .ok (.iload 4, 2) := by decide +kernel
theorem d23_10 : decode jdk_52_method_14_code 10 = .ok (.iload_n 2, 1) := by decide +kernel
theorem d23_11 : decode jdk_52_method_14_code 11 = .ok (.if_icmp .ge 21, 3) := by decide +kernel
theorem d23_14 : decode jdk_52_method_14_code 14 = .ok (.aload_n 3, 1) := by decide +kernel
theorem d23_15 : decode jdk_52_method_14_code 15 = .ok (.iload 4, 2) := by decide +kernel
theorem d23_17 : decode jdk_52_method_14_code 17 = .ok (.aload_n 0, 1) := by decide +kernel
theorem d23_18 : decode jdk_52_method_14_code 18 = .ok (.iload_n 1, 1) := by decide +kernel
theorem d23_19 : decode jdk_52_method_14_code 19 = .ok (.caload, 1) := by decide +kernel
theorem d23_20 : decode jdk_52_method_14_code 20 = .ok (.invokestatic 111, 3) := by decide +kernel
theorem d23_23 : decode jdk_52_method_14_code 23 = .ok (.iinc 1 1, 3) := by decide +kernel
theorem d23_26 : decode jdk_52_method_14_code 26 = .ok (.iinc 4 1, 3) := by decide +kernel
theorem d23_29 : decode jdk_52_method_14_code 29 = .ok (.goto (-21), 3) := by decide +kernel
theorem d23_32 : decode jdk_52_method_14_code 32 = .ok (.aload_n 3, 1) := by decide +kernel
theorem d23_33 : decode jdk_52_method_14_code 33 = .ok (.areturn, 1) := by decide +kernel
theorem ef_rm_tb (m : MethodId) (a0 : Addr) (z0 : Int32) : entryFrame m #[(.ref a0), (.int 0), (.int z0)] 5 = mkF m 0 #[.val (.ref a0), .val (.int 0), .val (.int z0), .unset, .unset] [] := by first | (simp [entryFrame, mkF, argsToLocals, Value.category]; done) | rfl
def Q_rm_tb (Z : State) (a0 : Addr) (z0 : Int32) (k_a0 : ClassId) (f0 : Nat → Int32) (h0 : Heap) (n0 : Nat) (v : Option Value) (h : Heap) (L : List Loc) : Prop := ∃ c1_0 : Addr, ∃ kc1_1 : ClassId, v = some (.ref c1_0) ∧ Fr n0 L ∧ Keep h0 h [] ∧ h0.size ≤ c1_0 ∧ Arv Z h c1_0 kc1_1 .byte (z0 <<< ((1 : Int32) &&& 31)) (own_ml (z0 <<< ((1 : Int32) &&& 31)) (own_uf f0 z0)) (.int 0)
set_option maxRecDepth 65536 in
set_option maxHeartbeats 40000000 in
theorem rm_tb (l : Launch) (Z : State) (av0 : Array Value) (hw : ∀ d ∈ tables_1, d.before av0 Z = true) (ws : List Jvm.Cond) (a0 : Addr) (z0 : Int32) (k_a0 : ClassId) (f0 : Nat → Int32) (h0 : Heap) (n0 : Nat) (Z0 : n0 ≤ h0.size) (Ol0 : Old Z n0 h0) (V_a0 : Arv Z h0 a0 k_a0 .char z0 (own_ml z0 f0) (.int 0)) (hz0 : ¬ (z0 < (0 : Int32))) (hz6 : ¬ ((6 : Int32) < z0)) (S__assertionsDisabled : Sta Z Z.heap "java/lang/StringUTF16" "$assertionsDisabled" "Z" (.int 1)) (S_HI_BYTE_SHIFT : Sta Z Z.heap "java/lang/StringUTF16" "HI_BYTE_SHIFT" "I" (.int 0)) (S_LO_BYTE_SHIFT : Sta Z Z.heap "java/lang/StringUTF16" "LO_BYTE_SHIFT" "I" (.int 8)) :
    MetFree l yM19 (head1 (Jvm.Cond.code yM19 jdk_52_method_14_code 5 (some (.array .byte)) :: ws) ({ frames := 2, cells := 1, slots := 12, locals := 24 } : Room)) (fun a U => a = #[(.ref a0), (.int 0), (.int z0)] ∧ Z.Warmed39 U.vm ∧ U.heap = h0) (fun _ _ _ _ _ => True) (fun _ U o U' => ∃ v L, o = .returned v ∧ Q_rm_tb Z a0 z0 k_a0 f0 h0 n0 v U'.heap L ∧ FrameEnd U o U' L ({ frames := 2, cells := 1, slots := 12, locals := 24 } : Room).cells ({ frames := 2, cells := 1, slots := 12, locals := 24 } : Room).slots) := by
  refine MetFree.of_bodySF (plainFor_of_name pn_0) hisR ?_
  intro p e s m args below meth c s₁ Bd hml0 hP hK
  obtain ⟨rfl, hZ, hh⟩ := hP
  have hx := Bd.exec
  have hby := Bd.bytes
  have hml : c.maxLocals = 5 := hml0
  have hown : s.vm.findClass "java/lang/StringUTF16" = some m.cls := findClass_of_methodNamed Bd.named
  have hnm := (name_of_methodNamed Bd.named Bd.method).1
  have X0 : Stand p l e ({ frames := 2, cells := 1, slots := 12, locals := 24 } : Room) s m #[(.ref a0), (.int 0), (.int z0)] below meth c s₁ [] 0 0 := Stand.of_body Bd
  have e0 : s₁.heap = h0 := by rw [← hh, Bd.state]; rfl
  have N0 := Fr.nil n0
  have pre0 : ∀ t, Steps p.tables e below (s₁.setTop (mkF m 0 #[.val (.ref a0), .val (.int 0), .val (.int z0), .unset, .unset] [])) t → Steps p.tables e below (s₁.setTop (entryFrame m #[(.ref a0), (.int 0), (.int z0)] 5)) t := fun t k => castTop (ef_rm_tb m a0 z0) k
  change OwnFin p.tables e below _ (s₁.setTop (entryFrame m #[(.ref a0), (.int 0), (.int z0)] 5))
  have kp0 : Keep h0 h0 [] := Keep.refl _ _
  refine OwnFin.st (fun _ q => pre0 _ q) ?_
  show OwnFin _ _ _ _ (s₁.setTop (mkF m 0 #[.val (.ref a0), .val (.int 0), .val (.int z0), .unset, .unset] []))
  refine OwnFin.st (fun _ q => XS.iloadN X0.here hx rfl (hb hby d23_0) rfl q) ?_
  show OwnFin _ _ _ _ (s₁.setTop (mkF m 1 _ [(.int z0)]))
  obtain ⟨_, _, ⟨T1, L1, k1, n1⟩, -, X1, ⟨Lc1, hQ1, l1, y1, z1⟩, st1⟩ := Jvm.LawKit.callS X0 hx (y := yM18) hown (mvT hZ (w_ hw 106 rfl)) (mvT hZ (w_ hw 107 rfl)) (mvT hZ (w_ hw 70 rfl)) (mvT hZ (w_ hw 108 rfl)) (by decide) (backOf (W := 0) (rm_nb l Z av0 hw [] z0 h0 n0 (Nat.le_trans Z0 kp0.1) hz0 hz6) hZ (w_ hw 108 rfl) (w_ hw 70 rfl) (by decide) (by decide)) (g := (mkF m 1 #[.val (.ref a0), .val (.int 0), .val (.int z0), .unset, .unset] [(.int z0)])) rfl (by rw [hml]; rfl) (argsL := [(.int z0)]) (rest := []) (lenOf pd_12 rfl) rfl (by show 2 * 0 + _ ≤ _; exact Nat.le_of_eq rfl) (hb hby d23_1) (fun _ _ => ⟨rfl, e0, (by decide : 0 + 1 ≤ _), (by decide : 0 + 12 ≤ _)⟩)
  dsimp only [Pt.U, Pt.locs, Pt.cells, Pt.slots] at X1 l1 y1 z1 st1 hQ1
  subst l1 y1 z1
  obtain ⟨c1_0, kc1_1, rfl, N1q, K1, r1_0, r1_1⟩ := hQ1
  have N1 := Fr.app N0 N1q
  refine OwnFin.st st1 ?_
  obtain ⟨h1, e1⟩ : ∃ z, T1.heap = z := ⟨_, rfl⟩
  rw [e1] at K1 r1_1
  have bi_c1_0 : h0.size ≤ c1_0 := r1_0
  have lo_c1_0 : h0.size ≤ c1_0 := Nat.le_trans kp0.1 bi_c1_0
  have g_c1_0 : n0 ≤ c1_0 := Nat.le_trans Z0 lo_c1_0
  have kp2 : Keep h0 h1 [] := kp0.trans K1 all0
  have ol2 : Old Z n0 h1 := Ol0.keep K1 all0
  show OwnFin _ _ _ _ (T1.setTop (mkF m 4 _ [(.ref c1_0)]))
  refine OwnFin.st (fun _ q => XS.astoreN X1.here hx rfl (hb hby d23_4) rfl rfl (l' := #[.val (.ref a0), .val (.int 0), .val (.int z0), .val (.ref c1_0), .unset]) rfl q) ?_
  show OwnFin _ _ _ _ (T1.setTop (mkF m 5 _ []))
  refine OwnFin.st (fun _ q => XS.iconst X1.here hx rfl (hb hby d23_5) q) ?_
  show OwnFin _ _ _ _ (T1.setTop (mkF m 6 _ [(.int 0)]))
  refine OwnFin.st (fun _ q => XS.istore X1.here hx rfl (hb hby d23_6) rfl (l' := #[.val (.ref a0), .val (.int 0), .val (.int z0), .val (.ref c1_0), .val (.int 0)]) rfl q) ?_
  have H3 : ∀ (fu : Nat) (i : Int32) (T : State) (lc : List Loc) (h : Heap) (_ : ¬ (i < (0 : Int32))) (_ : ¬ (z0 < i)), z0.toNatClampNeg - i.toNatClampNeg < fu → Stand p l e ({ frames := 2, cells := 1, slots := 12, locals := 24 } : Room) s m #[(.ref a0), (.int 0), (.int z0)] below meth c T lc 1 12 → Fr n0 lc → T.heap = h → Keep h1 h [c1_0] → Arv Z h c1_0 kc1_1 .byte (z0 <<< ((1 : Int32) &&& 31)) (own_ml (z0 <<< ((1 : Int32) &&& 31)) (own_uf f0 i)) (.int 0) → OwnFin p.tables e below (fun o U' => ∃ v L, o = .returned v ∧ Q_rm_tb Z a0 z0 k_a0 f0 h0 n0 v U'.heap L ∧ FrameEnd s o U' L ({ frames := 2, cells := 1, slots := 12, locals := 24 } : Room).cells ({ frames := 2, cells := 1, slots := 12, locals := 24 } : Room).slots) (T.setTop (mkF m 8 #[.val (.ref a0), .val (.int i), .val (.int z0), .val (.ref c1_0), .val (.int i)] [])) := by
   intro fu
   induction fu with
   | zero => intro i T lc h hi0 hi1 hfu; exact absurd hfu (Nat.not_lt_zero _)
   | succ fu ih =>
    intro i T3 lc3 h3 hi0 hi1 hfu X3 N3 e3 K3 Va3_0
    have kp4 : Keep h0 h3 [] := kp2.trans K3 (allS (Or.inr lo_c1_0) all0)
    have ol4 : Old Z n0 h3 := ol2.keep K3 (allS g_c1_0 all0)
    show OwnFin _ _ _ _ (T3.setTop (mkF m 8 #[.val (.ref a0), .val (.int i), .val (.int z0), .val (.ref c1_0), .val (.int i)] []))
    refine OwnFin.st (fun _ q => XS.iload X3.here hx rfl (hb hby d23_8) rfl q) ?_
    show OwnFin _ _ _ _ (T3.setTop (mkF m 10 _ [(.int i)]))
    refine OwnFin.st (fun _ q => XS.iloadN X3.here hx rfl (hb hby d23_10) rfl q) ?_
    show OwnFin _ _ _ _ (T3.setTop (mkF m 11 _ [(.int z0), (.int i)]))
    by_cases hc5 : i < z0
    ·
     refine OwnFin.st (fun _ q => XS.icmpNo X3.here hx rfl (hb hby d23_11) rfl (Jvm.Free.XT.ii_ge_f hc5) q) ?_
     show OwnFin _ _ _ _ (T3.setTop (mkF m 14 _ []))
     refine OwnFin.st (fun _ q => XS.aloadN X3.here hx rfl (hb hby d23_14) rfl rfl q) ?_
     show OwnFin _ _ _ _ (T3.setTop (mkF m 15 _ [(.ref c1_0)]))
     refine OwnFin.st (fun _ q => XS.iload X3.here hx rfl (hb hby d23_15) rfl q) ?_
     show OwnFin _ _ _ _ (T3.setTop (mkF m 17 _ [(.int i), (.ref c1_0)]))
     refine OwnFin.st (fun _ q => XS.aloadN X3.here hx rfl (hb hby d23_17) rfl rfl q) ?_
     show OwnFin _ _ _ _ (T3.setTop (mkF m 18 _ [(.ref a0), (.int i), (.ref c1_0)]))
     refine OwnFin.st (fun _ q => XS.iloadN X3.here hx rfl (hb hby d23_18) rfl q) ?_
     show OwnFin _ _ _ _ (T3.setTop (mkF m 19 _ [(.int i), (.ref a0), (.int i), (.ref c1_0)]))
     have fr7 : Arv Z h3 a0 k_a0 .char z0 (own_ml z0 f0) (.int 0) := ((V_a0.keep K1 nin0).keep K3 (ninS (Nat.ne_of_lt (Nat.lt_of_lt_of_le V_a0.lt bi_c1_0)) nin0))
     have Vo6 : Arv Z h3 a0 k_a0 .char z0 (own_ml z0 f0) (.int 0) := fr7
     obtain ⟨cl6, Ar6, qa6, Sa6, Na6, Ha6, Ga6⟩ := id Vo6
     have hib6 : ¬ i < 0 ∧ i < z0 := ⟨hi0, hc5⟩
     have hin6 := inb_of Sa6 hib6
     refine OwnFin.st (X3.caload hx (j := i) (v := (.int (own_at f0 i))) (by rw [e3]; exact Ar6.1) (State.isArrayOf_alike (hZ).alike Ar6.2.1) Ar6.2.2 hin6 (Ha6.at hin6 (own_mlat _ hib6)) (g := (mkF m 19 #[.val (.ref a0), .val (.int i), .val (.int z0), .val (.ref c1_0), .val (.int i)] [(.int i), (.ref a0), (.int i), (.ref c1_0)])) rfl rfl (hb hby d23_19)) ?_
     show OwnFin _ _ _ _ (T3.setTop (mkF m 20 _ [(.int (own_at f0 i)), (.int i), (.ref c1_0)]))
     obtain ⟨_, _, ⟨T8, L8, k8, n8⟩, -, X8, ⟨Lc8, hQ8, l8, y8, z8⟩, st8⟩ := Jvm.LawKit.callS X3 hx (y := yM16) hown (mvT hZ (w_ hw 113 rfl)) (mvT hZ (w_ hw 114 rfl)) (mvT hZ (w_ hw 70 rfl)) (mvT hZ (w_ hw 115 rfl)) (by decide) (backOf (W := 0) (rm_pc l Z av0 hw [] c1_0 i (own_at f0 i) kc1_1 (z0 <<< ((1 : Int32) &&& 31)) (own_uf f0 i) h3 n0 (Nat.le_trans Z0 kp4.1) ol4 Va3_0 (own_ufb hi0 hc5 hz0 hz6) S__assertionsDisabled S_HI_BYTE_SHIFT g_c1_0 S_LO_BYTE_SHIFT) hZ (w_ hw 115 rfl) (w_ hw 70 rfl) (by decide) (by decide)) (g := (mkF m 20 #[.val (.ref a0), .val (.int i), .val (.int z0), .val (.ref c1_0), .val (.int i)] [(.int (own_at f0 i)), (.int i), (.ref c1_0)])) rfl (by rw [hml]; rfl) (argsL := [(.ref c1_0), (.int i), (.int (own_at f0 i))]) (rest := []) (lenOf pd_13 rfl) rfl (by show 2 * 0 + _ ≤ _; exact Nat.le_of_eq rfl) (hb hby d23_20) (fun _ _ => ⟨rfl, e3, (by decide : 1 + 0 ≤ _), (by decide : 12 + 0 ≤ _)⟩)
     dsimp only [Pt.U, Pt.locs, Pt.cells, Pt.slots] at X8 l8 y8 z8 st8 hQ8
     subst l8 y8 z8
     obtain ⟨rfl, N8q, K8, r8_0⟩ := hQ8
     have N8 := Fr.app N3 N8q
     refine OwnFin.st st8 ?_
     obtain ⟨h8, e8⟩ : ∃ z, T8.heap = z := ⟨_, rfl⟩
     rw [e8] at K8 r8_0
     have kp9 : Keep h0 h8 [] := kp4.trans K8 (allS (Or.inr lo_c1_0) all0)
     have ol9 : Old Z n0 h8 := ol4.keep K8 (allS g_c1_0 all0)
     show OwnFin _ _ _ _ (T8.setTop (mkF m 23 _ []))
     refine OwnFin.st (fun _ q => XS.iinc X8.here hx rfl (hb hby d23_23) rfl (l' := #[.val (.ref a0), .val (.int (i + (1 : Int32))), .val (.int z0), .val (.ref c1_0), .val (.int i)]) rfl q) ?_
     show OwnFin _ _ _ _ (T8.setTop (mkF m 26 _ []))
     refine OwnFin.st (fun _ q => XS.iinc X8.here hx rfl (hb hby d23_26) rfl (l' := #[.val (.ref a0), .val (.int (i + (1 : Int32))), .val (.int z0), .val (.ref c1_0), .val (.int (i + (1 : Int32)))]) rfl q) ?_
     show OwnFin _ _ _ _ (T8.setTop (mkF m 29 _ []))
     refine OwnFin.st (fun _ q => XS.goto X8.here hx rfl (pc0 := 29) (pc' := 8) rfl (hb hby d23_29) (by decide) (by decide) q) ?_
     show OwnFin _ _ _ _ (T8.setTop (mkF m 8 #[.val (.ref a0), .val (.int (i + (1 : Int32))), .val (.int z0), .val (.ref c1_0), .val (.int (i + (1 : Int32)))] []))
     exact ih ((i + (1 : Int32))) _ _ _ (own_succ hi0 hc5).2.1 (own_succ hi0 hc5).2.2 (own_dec hi0 hc5 hfu) X8 N8 e8 (K3.trans K8 (allS (Or.inl (List.mem_of_getElem? (i := 0) rfl)) all0)) (own_mlcong (own_ufstep hi0 hc5 hz0 hz6) r8_0)
    ·
     refine OwnFin.st (fun _ q => XS.icmpYes X3.here hx rfl (pc0 := 11) (pc' := 32) rfl (hb hby d23_11) rfl (Jvm.Free.XT.ii_ge_t hc5) (by decide) (by decide) q) ?_
     show OwnFin _ _ _ _ (T3.setTop (mkF m 32 _ []))
     have vE10 : Arv Z h3 c1_0 kc1_1 .byte (z0 <<< ((1 : Int32) &&& 31)) (own_ml (z0 <<< ((1 : Int32) &&& 31)) (own_uf f0 z0)) (.int 0) := own_mlcong (congrArg (own_uf f0) (own_eqz hc5 hi1)) Va3_0
     refine OwnFin.st (fun _ q => XS.aloadN X3.here hx rfl (hb hby d23_32) rfl rfl q) ?_
     show OwnFin _ _ _ _ (T3.setTop (mkF m 33 _ [(.ref c1_0)]))
     obtain ⟨fs, hr, hrun, hended, hW, hsame⟩ := X3.leave (v := some (.ref c1_0)) (fun h => by rw [Bd.returns] at h; cases h)
     refine ⟨_, _, retOut X3 hx Bd.returns rfl (Or.inr (Or.inr (Or.inr (Or.inr ⟨rfl, rfl, rfl⟩)))) (hb hby d23_33) hr, hrun, hended, _, _, rfl, ?_, ⟨_, rfl⟩, hW, hsame.mono (by decide) (by decide)⟩
     show Q_rm_tb Z a0 z0 k_a0 f0 h0 n0 _ T3.heap _
     rw [e3]
     exact ⟨c1_0, kc1_1, rfl, N3, kp4, lo_c1_0, vE10⟩
  exact H3 _ ((0 : Int32)) _ _ _ (by decide) hz0 (Nat.lt_succ_self _) X1 N1 e1 (Keep.refl _ _) (own_mlcong (own_uf0 f0) r1_1)
theorem own_c5nb (f : Nat → Int32) : ∀ (n i : Nat), i ≤ own_c5n f n i ∧ own_c5n f n i ≤ i + n ∧ (own_c5n f n i < i + n → (255 : Int32) < f (own_c5n f n i))
  | 0, i => ⟨Nat.le_refl _, Nat.le_refl _, fun h => absurd h (Nat.lt_irrefl _)⟩
  | n + 1, i => by
    simp only [own_c5n]; split
    · rename_i q; exact ⟨Nat.le_refl _, by omega, fun _ => q⟩
    · have h := own_c5nb f n (i + 1); exact ⟨by omega, by omega, fun q => h.2.2 (by omega)⟩
theorem own_c5lt {f : Nat → Int32} {z : Int32} (h : ¬ (own_c5 f z = z)) (k0 : ¬ z < (0 : Int32)) : ¬ own_c5 f z < (0 : Int32) ∧ own_c5 f z < z ∧ (255 : Int32) < own_at f (own_c5 f z) := by
  have b := own_c5nb f z.toNatClampNeg 0; have nz := own_nat k0; have rz := rng32 z
  have e : (own_c5 f z).toInt = own_c5n f z.toNatClampNeg 0 := Int32.toInt_ofNat_of_lt (by omega)
  have r : (0 : Int32).toInt = 0 := rfl
  have ne : (own_c5 f z).toInt ≠ z.toInt := fun q => h (Int32.toInt_inj.mp q)
  refine ⟨by rw [Int32.lt_iff_toInt_lt]; omega, by rw [Int32.lt_iff_toInt_lt]; omega, ?_⟩
  have q := b.2.2 (by omega)
  have e2 : (own_c5 f z).toNatClampNeg = own_c5n f z.toNatClampNeg 0 := by simp only [Int32.toNatClampNeg, e]; omega
  simp only [own_at, e2]; exact q
theorem own_n2 {i z : Int32} (h0 : ¬ i < (0 : Int32)) (h1 : i < z) (k0 : ¬ z < (0 : Int32)) (k1 : ¬ (6 : Int32) < z) : (i <<< ((1 : Int32) &&& 31)).toNatClampNeg = 2 * i.toNatClampNeg ∧ ((i <<< ((1 : Int32) &&& 31)) + (1 : Int32)).toNatClampNeg = 2 * i.toNatClampNeg + 1 := by
  have hb := own_ufb h0 h1 k0 k1
  have a := c_ishl i (1 : Int32) 1 (by decide +kernel); have a' := rng32 (i <<< ((1 : Int32) &&& 31)); have b := rng32 i; have e := rng32 (z <<< ((1 : Int32) &&& 31))
  have e1 : (i <<< ((1 : Int32) &&& 31)).toInt = 2 * i.toInt := by omega
  have x0 := own_ix0 hb
  have n1 : (i <<< ((1 : Int32) &&& 31)).toNatClampNeg = 2 * i.toNatClampNeg := by have q := own_nat h0; simp only [Int32.toNatClampNeg, e1]; simp only [Int32.toNatClampNeg] at q; omega
  exact ⟨n1, by rw [(own_succ x0.1 x0.2).1, n1]⟩
theorem own_gcu {f : Nat → Int32} {i z : Int32} (hch : ∀ j, nar .char (f j) = f j) (h0 : ¬ i < (0 : Int32)) (h1 : i < z) (k0 : ¬ z < (0 : Int32)) (k1 : ¬ (6 : Int32) < z) : own_gc (own_uf f z) i = own_at f i := by
  have n := own_n2 h0 h1 k0 k1; have lt := own_idx ⟨h0, h1⟩
  have u0 : own_at (own_uf f z) (i <<< ((1 : Int32) &&& 31)) = own_lo (own_at f i) := by
    simp only [own_at, own_uf, n.1]; rw [if_pos (by omega), if_pos (by omega), show 2 * i.toNatClampNeg / 2 = i.toNatClampNeg by omega]
  have u1 : own_at (own_uf f z) ((i <<< ((1 : Int32) &&& 31)) + (1 : Int32)) = own_hi (own_at f i) := by
    simp only [own_at, own_uf, n.2]; rw [if_pos (by omega), if_neg (by omega), show (2 * i.toNatClampNeg + 1) / 2 = i.toNatClampNeg by omega]
  simp only [own_gc, u0, u1]; exact own_recon (hch _)
theorem own_cl0 (z : Int32) : nar .byte ((((z - z).toUInt32 >>> ((31 : Int32) &&& 31).toUInt32).toInt32).toInt8.toInt32) = 0 := by rw [show z - z = 0 from Int32.sub_self z]; decide
theorem own_16 {z : Int32} (k0 : ¬ z < (0 : Int32)) (k1 : ¬ (6 : Int32) < z) (kz : ¬ (z = (0 : Int32))) : z = 1 ∨ z = 2 ∨ z = 3 ∨ z = 4 ∨ z = 5 ∨ z = 6 := by
  rw [Int32.lt_iff_toInt_lt] at k0 k1; rw [← Int32.toInt_inj] at kz
  simp only [← Int32.toInt_inj]
  have r0 : (0 : Int32).toInt = 0 := rfl; have r1 : (1 : Int32).toInt = 1 := rfl; have r2 : (2 : Int32).toInt = 2 := rfl; have r3 : (3 : Int32).toInt = 3 := rfl; have r4 : (4 : Int32).toInt = 4 := rfl; have r5 : (5 : Int32).toInt = 5 := rfl; have r6 : (6 : Int32).toInt = 6 := rfl
  omega
theorem own_cl1 {z : Int32} (k0 : ¬ z < (0 : Int32)) (k1 : ¬ (6 : Int32) < z) (kz : ¬ (z = (0 : Int32))) : nar .byte ((((z - (z <<< ((1 : Int32) &&& 31))).toUInt32 >>> ((31 : Int32) &&& 31).toUInt32).toInt32).toInt8.toInt32) = 1 := by
  rcases own_16 k0 k1 kz with rfl | rfl | rfl | rfl | rfl | rfl <;> decide
theorem d17_0 : decode jdk_52_method_15_code 0 = .ok (.iload_n 1, 1) := by decide +kernel
theorem d17_1 : decode jdk_52_method_15_code 1 = .ok (.aload_n 0, 1) := by decide +kernel
theorem d17_2 : decode jdk_52_method_15_code 2 = .ok (.arraylength, 1) := by decide +kernel
theorem d17_3 : decode jdk_52_method_15_code 3 = .ok (.isub, 1) := by decide +kernel
theorem d17_4 : decode jdk_52_method_15_code 4 = .ok (.bipush 31, 2) := by decide +kernel
theorem d17_6 : decode jdk_52_method_15_code 6 = .ok (.iushr, 1) := by decide +kernel
theorem d17_7 : decode jdk_52_method_15_code 7 = .ok (.i2b, 1) := by decide +kernel
theorem d17_8 : decode jdk_52_method_15_code 8 = .ok (.ireturn, 1) := by decide +kernel
theorem ef_rm_cl0 (m : MethodId) (a0 : Addr) (z0 : Int32) : entryFrame m #[(.ref a0), (.int z0)] 2 = mkF m 0 #[.val (.ref a0), .val (.int z0)] [] := by first | (simp [entryFrame, mkF, argsToLocals, Value.category]; done) | rfl
def Q_rm_cl0 (Z : State) (a0 : Addr) (z0 : Int32) (k_a0 : ClassId) (s0 : Nat → Int32) (h0 : Heap) (n0 : Nat) (v : Option Value) (h : Heap) (L : List Loc) : Prop := v = some (.int 0) ∧ Fr n0 L ∧ h = h0
set_option maxRecDepth 65536 in
set_option maxHeartbeats 40000000 in
theorem rm_cl0 (l : Launch) (Z : State) (av0 : Array Value) (hw : ∀ d ∈ tables_1, d.before av0 Z = true) (ws : List Jvm.Cond) (a0 : Addr) (z0 : Int32) (k_a0 : ClassId) (s0 : Nat → Int32) (h0 : Heap) (n0 : Nat) (Z0 : n0 ≤ h0.size) (V_a0 : Arv Z h0 a0 k_a0 .byte z0 (own_ml z0 s0) (.int 0)) :
    MetFree l yM20 (head1 (Jvm.Cond.code yM20 jdk_52_method_15_code 2 (some .byte) :: ws) ({ frames := 0, cells := 0, slots := 0, locals := 0 } : Room)) (fun a U => a = #[(.ref a0), (.int z0)] ∧ Z.Warmed39 U.vm ∧ U.heap = h0) (fun _ _ _ _ _ => True) (fun _ U o U' => ∃ v L, o = .returned v ∧ Q_rm_cl0 Z a0 z0 k_a0 s0 h0 n0 v U'.heap L ∧ FrameEnd U o U' L ({ frames := 0, cells := 0, slots := 0, locals := 0 } : Room).cells ({ frames := 0, cells := 0, slots := 0, locals := 0 } : Room).slots) := by
  refine MetFree.of_bodySF (plainFor_of_name pn_0) hisR ?_
  intro p e s m args below meth c s₁ Bd hml0 hP hK
  obtain ⟨rfl, hZ, hh⟩ := hP
  have hx := Bd.exec
  have hby := Bd.bytes
  have hml : c.maxLocals = 2 := hml0
  have hown : s.vm.findClass "java/lang/StringUTF16" = some m.cls := findClass_of_methodNamed Bd.named
  have hnm := (name_of_methodNamed Bd.named Bd.method).1
  have X0 : Stand p l e ({ frames := 0, cells := 0, slots := 0, locals := 0 } : Room) s m #[(.ref a0), (.int z0)] below meth c s₁ [] 0 0 := Stand.of_body Bd
  have e0 : s₁.heap = h0 := by rw [← hh, Bd.state]; rfl
  have N0 := Fr.nil n0
  have pre0 : ∀ t, Steps p.tables e below (s₁.setTop (mkF m 0 #[.val (.ref a0), .val (.int z0)] [])) t → Steps p.tables e below (s₁.setTop (entryFrame m #[(.ref a0), (.int z0)] 2)) t := fun t k => castTop (ef_rm_cl0 m a0 z0) k
  change OwnFin p.tables e below _ (s₁.setTop (entryFrame m #[(.ref a0), (.int z0)] 2))
  have kp0 : Keep h0 h0 [] := Keep.refl _ _
  refine OwnFin.st (fun _ q => pre0 _ q) ?_
  show OwnFin _ _ _ _ (s₁.setTop (mkF m 0 #[.val (.ref a0), .val (.int z0)] []))
  refine OwnFin.st (fun _ q => XS.iloadN X0.here hx rfl (hb hby d17_0) rfl q) ?_
  show OwnFin _ _ _ _ (s₁.setTop (mkF m 1 _ [(.int z0)]))
  refine OwnFin.st (fun _ q => XS.aloadN X0.here hx rfl (hb hby d17_1) rfl rfl q) ?_
  show OwnFin _ _ _ _ (s₁.setTop (mkF m 2 _ [(.ref a0), (.int z0)]))
  have Vo1 : Arv Z h0 a0 k_a0 .byte z0 (own_ml z0 s0) (.int 0) := V_a0
  obtain ⟨cl1, Ar1, qa1, Sa1, Na1, Ha1, Ga1⟩ := id Vo1
  refine OwnFin.st (X0.arraylength hx (by rw [e0]; exact Ar1.1) (State.isArrayOf_alike (hZ).alike Ar1.2.1) (g := (mkF m 2 #[.val (.ref a0), .val (.int z0)] [(.ref a0), (.int z0)])) rfl rfl (hb hby d17_2)) ?_
  rw [len_of Sa1 Na1]
  show OwnFin _ _ _ _ (s₁.setTop (mkF m 3 _ [(.int z0), (.int z0)]))
  refine OwnFin.st (fun _ q => XS.isub X0.here hx rfl (hb hby d17_3) rfl q) ?_
  show OwnFin _ _ _ _ (s₁.setTop (mkF m 4 _ [(.int (z0 - z0))]))
  refine OwnFin.st (fun _ q => XS.bipush X0.here hx rfl (hb hby d17_4) q) ?_
  show OwnFin _ _ _ _ (s₁.setTop (mkF m 6 _ [(.int 31), (.int (z0 - z0))]))
  refine OwnFin.st (fun _ q => XS.iushr X0.here hx rfl (hb hby d17_6) rfl q) ?_
  show OwnFin _ _ _ _ (s₁.setTop (mkF m 7 _ [(.int (((z0 - z0).toUInt32 >>> ((31 : Int32) &&& 31).toUInt32).toInt32))]))
  refine OwnFin.st (fun _ q => XS.i2b X0.here hx rfl (hb hby d17_7) rfl q) ?_
  show OwnFin _ _ _ _ (s₁.setTop (mkF m 8 _ [(.int ((((z0 - z0).toUInt32 >>> ((31 : Int32) &&& 31).toUInt32).toInt32).toInt8.toInt32))]))
  obtain ⟨fs, hr, hrun, hended, hW, hsame⟩ := X0.leave (v := some (.int (nar .byte ((((z0 - z0).toUInt32 >>> ((31 : Int32) &&& 31).toUInt32).toInt32).toInt8.toInt32)))) (fun h => by rw [Bd.returns] at h; cases h)
  refine ⟨_, _, retN X0 hx (t := .byte) Bd.returns (by simp) (hb hby d17_8) hr, hrun, hended, _, _, rfl, ?_, ⟨_, rfl⟩, hW, hsame.mono (by decide) (by decide)⟩
  show Q_rm_cl0 Z a0 z0 k_a0 s0 h0 n0 _ s₁.heap _
  rw [e0]
  refine ⟨?_, N0, rfl⟩
  exact congrArg (fun q => some (Value.int q)) (own_cl0 z0)
theorem ef_rm_cl1 (m : MethodId) (a0 : Addr) (z0 : Int32) : entryFrame m #[(.ref a0), (.int z0)] 2 = mkF m 0 #[.val (.ref a0), .val (.int z0)] [] := by first | (simp [entryFrame, mkF, argsToLocals, Value.category]; done) | rfl
def Q_rm_cl1 (Z : State) (a0 : Addr) (z0 : Int32) (k_a0 : ClassId) (s0 : Nat → Int32) (h0 : Heap) (n0 : Nat) (v : Option Value) (h : Heap) (L : List Loc) : Prop := v = some (.int 1) ∧ Fr n0 L ∧ h = h0
set_option maxRecDepth 65536 in
set_option maxHeartbeats 40000000 in
theorem rm_cl1 (l : Launch) (Z : State) (av0 : Array Value) (hw : ∀ d ∈ tables_1, d.before av0 Z = true) (ws : List Jvm.Cond) (a0 : Addr) (z0 : Int32) (k_a0 : ClassId) (s0 : Nat → Int32) (h0 : Heap) (n0 : Nat) (Z0 : n0 ≤ h0.size) (V_a0 : Arv Z h0 a0 k_a0 .byte (z0 <<< ((1 : Int32) &&& 31)) (own_ml (z0 <<< ((1 : Int32) &&& 31)) s0) (.int 0)) (hz0 : ¬ (z0 < (0 : Int32))) (hz6 : ¬ ((6 : Int32) < z0)) (hkz : ¬ (z0 = (0 : Int32))) :
    MetFree l yM20 (head1 (Jvm.Cond.code yM20 jdk_52_method_15_code 2 (some .byte) :: ws) ({ frames := 0, cells := 0, slots := 0, locals := 0 } : Room)) (fun a U => a = #[(.ref a0), (.int z0)] ∧ Z.Warmed39 U.vm ∧ U.heap = h0) (fun _ _ _ _ _ => True) (fun _ U o U' => ∃ v L, o = .returned v ∧ Q_rm_cl1 Z a0 z0 k_a0 s0 h0 n0 v U'.heap L ∧ FrameEnd U o U' L ({ frames := 0, cells := 0, slots := 0, locals := 0 } : Room).cells ({ frames := 0, cells := 0, slots := 0, locals := 0 } : Room).slots) := by
  refine MetFree.of_bodySF (plainFor_of_name pn_0) hisR ?_
  intro p e s m args below meth c s₁ Bd hml0 hP hK
  obtain ⟨rfl, hZ, hh⟩ := hP
  have hx := Bd.exec
  have hby := Bd.bytes
  have hml : c.maxLocals = 2 := hml0
  have hown : s.vm.findClass "java/lang/StringUTF16" = some m.cls := findClass_of_methodNamed Bd.named
  have hnm := (name_of_methodNamed Bd.named Bd.method).1
  have X0 : Stand p l e ({ frames := 0, cells := 0, slots := 0, locals := 0 } : Room) s m #[(.ref a0), (.int z0)] below meth c s₁ [] 0 0 := Stand.of_body Bd
  have e0 : s₁.heap = h0 := by rw [← hh, Bd.state]; rfl
  have N0 := Fr.nil n0
  have pre0 : ∀ t, Steps p.tables e below (s₁.setTop (mkF m 0 #[.val (.ref a0), .val (.int z0)] [])) t → Steps p.tables e below (s₁.setTop (entryFrame m #[(.ref a0), (.int z0)] 2)) t := fun t k => castTop (ef_rm_cl1 m a0 z0) k
  change OwnFin p.tables e below _ (s₁.setTop (entryFrame m #[(.ref a0), (.int z0)] 2))
  have kp0 : Keep h0 h0 [] := Keep.refl _ _
  refine OwnFin.st (fun _ q => pre0 _ q) ?_
  show OwnFin _ _ _ _ (s₁.setTop (mkF m 0 #[.val (.ref a0), .val (.int z0)] []))
  refine OwnFin.st (fun _ q => XS.iloadN X0.here hx rfl (hb hby d17_0) rfl q) ?_
  show OwnFin _ _ _ _ (s₁.setTop (mkF m 1 _ [(.int z0)]))
  refine OwnFin.st (fun _ q => XS.aloadN X0.here hx rfl (hb hby d17_1) rfl rfl q) ?_
  show OwnFin _ _ _ _ (s₁.setTop (mkF m 2 _ [(.ref a0), (.int z0)]))
  have Vo1 : Arv Z h0 a0 k_a0 .byte (z0 <<< ((1 : Int32) &&& 31)) (own_ml (z0 <<< ((1 : Int32) &&& 31)) s0) (.int 0) := V_a0
  obtain ⟨cl1, Ar1, qa1, Sa1, Na1, Ha1, Ga1⟩ := id Vo1
  refine OwnFin.st (X0.arraylength hx (by rw [e0]; exact Ar1.1) (State.isArrayOf_alike (hZ).alike Ar1.2.1) (g := (mkF m 2 #[.val (.ref a0), .val (.int z0)] [(.ref a0), (.int z0)])) rfl rfl (hb hby d17_2)) ?_
  rw [len_of Sa1 Na1]
  show OwnFin _ _ _ _ (s₁.setTop (mkF m 3 _ [(.int (z0 <<< ((1 : Int32) &&& 31))), (.int z0)]))
  refine OwnFin.st (fun _ q => XS.isub X0.here hx rfl (hb hby d17_3) rfl q) ?_
  show OwnFin _ _ _ _ (s₁.setTop (mkF m 4 _ [(.int (z0 - (z0 <<< ((1 : Int32) &&& 31))))]))
  refine OwnFin.st (fun _ q => XS.bipush X0.here hx rfl (hb hby d17_4) q) ?_
  show OwnFin _ _ _ _ (s₁.setTop (mkF m 6 _ [(.int 31), (.int (z0 - (z0 <<< ((1 : Int32) &&& 31))))]))
  refine OwnFin.st (fun _ q => XS.iushr X0.here hx rfl (hb hby d17_6) rfl q) ?_
  show OwnFin _ _ _ _ (s₁.setTop (mkF m 7 _ [(.int (((z0 - (z0 <<< ((1 : Int32) &&& 31))).toUInt32 >>> ((31 : Int32) &&& 31).toUInt32).toInt32))]))
  refine OwnFin.st (fun _ q => XS.i2b X0.here hx rfl (hb hby d17_7) rfl q) ?_
  show OwnFin _ _ _ _ (s₁.setTop (mkF m 8 _ [(.int ((((z0 - (z0 <<< ((1 : Int32) &&& 31))).toUInt32 >>> ((31 : Int32) &&& 31).toUInt32).toInt32).toInt8.toInt32))]))
  obtain ⟨fs, hr, hrun, hended, hW, hsame⟩ := X0.leave (v := some (.int (nar .byte ((((z0 - (z0 <<< ((1 : Int32) &&& 31))).toUInt32 >>> ((31 : Int32) &&& 31).toUInt32).toInt32).toInt8.toInt32)))) (fun h => by rw [Bd.returns] at h; cases h)
  refine ⟨_, _, retN X0 hx (t := .byte) Bd.returns (by simp) (hb hby d17_8) hr, hrun, hended, _, _, rfl, ?_, ⟨_, rfl⟩, hW, hsame.mono (by decide) (by decide)⟩
  show Q_rm_cl1 Z a0 z0 k_a0 s0 h0 n0 _ s₁.heap _
  rw [e0]
  refine ⟨?_, N0, rfl⟩
  exact congrArg (fun q => some (Value.int q)) (own_cl1 hz0 hz6 hkz)
theorem pd_14 : parseMethodDescriptor "([CI[BII)I" = some ⟨[(.array .char), .int, (.array .byte), .int, .int], some .int⟩ := by decide +kernel
theorem d15_0 : decode jdk_52_method_16_code 0 = .ok (.iload_n 2, 1) := by decide +kernel
theorem d15_1 : decode jdk_52_method_16_code 1 = .ok (.newarray .byte, 2) := by decide +kernel
theorem d15_3 : decode jdk_52_method_16_code 3 = .ok (.astore_n 3, 1) := by decide +kernel
theorem d15_4 : decode jdk_52_method_16_code 4 = .ok (.aload_n 0, 1) := by decide +kernel
theorem d15_5 : decode jdk_52_method_16_code 5 = .ok (.iload_n 1, 1) := by decide +kernel
theorem d15_6 : decode jdk_52_method_16_code 6 = .ok (.aload_n 3, 1) := by decide +kernel
theorem d15_7 : decode jdk_52_method_16_code 7 = .ok (.iconst 0, 1) := by decide +kernel
theorem d15_8 : decode jdk_52_method_16_code 8 = .ok (.iload_n 2, 1) := by decide +kernel
theorem d15_9 : decode jdk_52_method_16_code 9 = .ok (.invokestatic 115, 3) := by decide +kernel
theorem d15_12 : decode jdk_52_method_16_code 12 = .ok (.istore 4, 2) := by decide +kernel
theorem d15_14 : decode jdk_52_method_16_code 14 = .ok (.iload 4, 2) := by decide +kernel
theorem d15_16 : decode jdk_52_method_16_code 16 = .ok (.iload_n 2, 1) := by decide +kernel
theorem d15_17 : decode jdk_52_method_16_code 17 = .ok (.if_icmp .eq 40, 3) := by decide +kernel
theorem d15_57 : decode jdk_52_method_16_code 57 = .ok (.aload_n 3, 1) := by decide +kernel
theorem d15_58 : decode jdk_52_method_16_code 58 = .ok (.areturn, 1) := by decide +kernel
theorem ef_rm_c3Y (m : MethodId) (a0 : Addr) (z0 : Int32) : entryFrame m #[(.ref a0), (.int 0), (.int z0)] 6 = mkF m 0 #[.val (.ref a0), .val (.int 0), .val (.int z0), .unset, .unset, .unset] [] := by first | (simp [entryFrame, mkF, argsToLocals, Value.category]; done) | rfl
def Q_rm_c3Y (Z : State) (a0 : Addr) (z0 : Int32) (k_a0 : ClassId) (f0 : Nat → Int32) (h0 : Heap) (n0 : Nat) (v : Option Value) (h : Heap) (L : List Loc) : Prop := ∃ b1 : Addr, ∃ k1 : ClassId, v = some (.ref b1) ∧ Fr n0 L ∧ Keep h0 h [] ∧ h0.size ≤ b1 ∧ Arv Z h b1 k1 .byte z0 (own_ml z0 (own_fl f0 z0)) (.int 0)
set_option maxRecDepth 65536 in
set_option maxHeartbeats 40000000 in
theorem rm_c3Y (l : Launch) (Z : State) (av0 : Array Value) (hw : ∀ d ∈ tables_1, d.before av0 Z = true) (ws : List Jvm.Cond) (a0 : Addr) (z0 : Int32) (k_a0 : ClassId) (f0 : Nat → Int32) (h0 : Heap) (n0 : Nat) (Z0 : n0 ≤ h0.size) (V_a0 : Arv Z h0 a0 k_a0 .char z0 (own_ml z0 f0) (.int 0)) (hz0 : ¬ (z0 < (0 : Int32))) (hz6 : ¬ ((6 : Int32) < z0)) (hc0 : (own_c5 f0 z0) = z0) :
    MetFree l yM21 (head1 (Jvm.Cond.code yM21 jdk_52_method_16_code 6 (some (.array .byte)) :: ws) ({ frames := 1, cells := 1, slots := 6, locals := 18 } : Room)) (fun a U => a = #[(.ref a0), (.int 0), (.int z0)] ∧ Z.Warmed39 U.vm ∧ U.heap = h0) (fun _ _ _ _ _ => True) (fun _ U o U' => ∃ v L, o = .returned v ∧ Q_rm_c3Y Z a0 z0 k_a0 f0 h0 n0 v U'.heap L ∧ FrameEnd U o U' L ({ frames := 1, cells := 1, slots := 6, locals := 18 } : Room).cells ({ frames := 1, cells := 1, slots := 6, locals := 18 } : Room).slots) := by
  refine MetFree.of_bodySF (plainFor_of_name pn_0) hisR ?_
  intro p e s m args below meth c s₁ Bd hml0 hP hK
  obtain ⟨rfl, hZ, hh⟩ := hP
  have hx := Bd.exec
  have hby := Bd.bytes
  have hml : c.maxLocals = 6 := hml0
  have hown : s.vm.findClass "java/lang/StringUTF16" = some m.cls := findClass_of_methodNamed Bd.named
  have hnm := (name_of_methodNamed Bd.named Bd.method).1
  have X0 : Stand p l e ({ frames := 1, cells := 1, slots := 6, locals := 18 } : Room) s m #[(.ref a0), (.int 0), (.int z0)] below meth c s₁ [] 0 0 := Stand.of_body Bd
  have e0 : s₁.heap = h0 := by rw [← hh, Bd.state]; rfl
  have N0 := Fr.nil n0
  have pre0 : ∀ t, Steps p.tables e below (s₁.setTop (mkF m 0 #[.val (.ref a0), .val (.int 0), .val (.int z0), .unset, .unset, .unset] [])) t → Steps p.tables e below (s₁.setTop (entryFrame m #[(.ref a0), (.int 0), (.int z0)] 6)) t := fun t k => castTop (ef_rm_c3Y m a0 z0) k
  change OwnFin p.tables e below _ (s₁.setTop (entryFrame m #[(.ref a0), (.int 0), (.int z0)] 6))
  have kp0 : Keep h0 h0 [] := Keep.refl _ _
  refine OwnFin.st (fun _ q => pre0 _ q) ?_
  show OwnFin _ _ _ _ (s₁.setTop (mkF m 0 #[.val (.ref a0), .val (.int 0), .val (.int z0), .unset, .unset, .unset] []))
  refine OwnFin.st (fun _ q => XS.iloadN X0.here hx rfl (hb hby d15_0) rfl q) ?_
  show OwnFin _ _ _ _ (s₁.setTop (mkF m 1 _ [(.int z0)]))
  obtain ⟨T1, h1, k1, X1, e1, E1, A1, st1⟩ := newP X0 hx hZ (w_ hw 34 rfl) e0 (g := (mkF m 1 #[.val (.ref a0), .val (.int 0), .val (.int z0), .unset, .unset, .unset] [(.int z0)])) rfl (hb hby d15_1) rfl hz0 (cap := 6) (own_cap hz0 hz6).2.2.2.2 (by decide) (by decide) (by decide)
  obtain ⟨b1, qe1⟩ : ∃ z, z = h0.size := ⟨_, rfl⟩
  rw [← qe1] at A1 st1
  refine OwnFin.st st1 ?_
  have bi_b1 : h0.size ≤ b1 := Nat.le_of_eq qe1.symm
  have lo_b1 : h0.size ≤ b1 := Nat.le_trans kp0.1 bi_b1
  have g_b1 : n0 ≤ b1 := Nat.le_trans Z0 lo_b1
  have kp2 : Keep h0 h1 [] := kp0.ext E1
  have V1 : Arv Z h1 b1 k1 .byte z0 (own_ml z0 own_zf) (.int 0) := (Arv.new A1 hz0).pad (own_mlnew _)
  show OwnFin _ _ _ _ (T1.setTop (mkF m 3 _ [(.ref b1)]))
  refine OwnFin.st (fun _ q => XS.astoreN X1.here hx rfl (hb hby d15_3) rfl rfl (l' := #[.val (.ref a0), .val (.int 0), .val (.int z0), .val (.ref b1), .unset, .unset]) rfl q) ?_
  show OwnFin _ _ _ _ (T1.setTop (mkF m 4 _ []))
  refine OwnFin.st (fun _ q => XS.aloadN X1.here hx rfl (hb hby d15_4) rfl rfl q) ?_
  show OwnFin _ _ _ _ (T1.setTop (mkF m 5 _ [(.ref a0)]))
  refine OwnFin.st (fun _ q => XS.iloadN X1.here hx rfl (hb hby d15_5) rfl q) ?_
  show OwnFin _ _ _ _ (T1.setTop (mkF m 6 _ [(.int 0), (.ref a0)]))
  refine OwnFin.st (fun _ q => XS.aloadN X1.here hx rfl (hb hby d15_6) rfl rfl q) ?_
  show OwnFin _ _ _ _ (T1.setTop (mkF m 7 _ [(.ref b1), (.int 0), (.ref a0)]))
  refine OwnFin.st (fun _ q => XS.iconst X1.here hx rfl (hb hby d15_7) q) ?_
  show OwnFin _ _ _ _ (T1.setTop (mkF m 8 _ [(.int 0), (.ref b1), (.int 0), (.ref a0)]))
  refine OwnFin.st (fun _ q => XS.iloadN X1.here hx rfl (hb hby d15_8) rfl q) ?_
  show OwnFin _ _ _ _ (T1.setTop (mkF m 9 _ [(.int z0), (.int 0), (.ref b1), (.int 0), (.ref a0)]))
  obtain ⟨_, _, ⟨T3, L3, k3, n3⟩, -, X3, ⟨Lc3, hQ3, l3, y3, z3⟩, st3⟩ := Jvm.LawKit.callS X1 hx (y := yM15) hown (mvT hZ (w_ hw 72 rfl)) (mvT hZ (w_ hw 73 rfl)) (mvT hZ (w_ hw 70 rfl)) (mvT hZ (w_ hw 74 rfl)) (by decide) (backOf (W := 0) (rm_c5 l Z av0 hw [] a0 b1 z0 k_a0 f0 k1 h1 n0 (Nat.le_trans Z0 kp2.1) (V_a0.ext E1) V1 hz0 g_b1 (Nat.ne_of_lt (Nat.lt_of_lt_of_le V_a0.lt bi_b1))) hZ (w_ hw 74 rfl) (w_ hw 70 rfl) (by decide) (by decide)) (g := (mkF m 9 #[.val (.ref a0), .val (.int 0), .val (.int z0), .val (.ref b1), .unset, .unset] [(.int z0), (.int 0), (.ref b1), (.int 0), (.ref a0)])) rfl (by rw [hml]; rfl) (argsL := [(.ref a0), (.int 0), (.ref b1), (.int 0), (.int z0)]) (rest := []) (lenOf pd_14 rfl) rfl (by show 2 * 0 + _ ≤ _; exact Nat.le_of_eq rfl) (hb hby d15_9) (fun _ _ => ⟨rfl, e1, (by decide : 1 + 0 ≤ _), (by decide : 6 + 0 ≤ _)⟩)
  dsimp only [Pt.U, Pt.locs, Pt.cells, Pt.slots] at X3 l3 y3 z3 st3 hQ3
  subst l3 y3 z3
  obtain ⟨rfl, N3q, K3, r3_0⟩ := hQ3
  have N3 := Fr.app N0 N3q
  refine OwnFin.st st3 ?_
  obtain ⟨h3, e3⟩ : ∃ z, T3.heap = z := ⟨_, rfl⟩
  rw [e3] at K3 r3_0
  have kp4 : Keep h0 h3 [] := kp2.trans K3 (allS (Or.inr lo_b1) all0)
  show OwnFin _ _ _ _ (T3.setTop (mkF m 12 _ [(.int (own_c5 f0 z0))]))
  refine OwnFin.st (fun _ q => XS.istore X3.here hx rfl (hb hby d15_12) rfl (l' := #[.val (.ref a0), .val (.int 0), .val (.int z0), .val (.ref b1), .val (.int (own_c5 f0 z0)), .unset]) rfl q) ?_
  show OwnFin _ _ _ _ (T3.setTop (mkF m 14 _ []))
  refine OwnFin.st (fun _ q => XS.iload X3.here hx rfl (hb hby d15_14) rfl q) ?_
  show OwnFin _ _ _ _ (T3.setTop (mkF m 16 _ [(.int (own_c5 f0 z0))]))
  refine OwnFin.st (fun _ q => XS.iloadN X3.here hx rfl (hb hby d15_16) rfl q) ?_
  show OwnFin _ _ _ _ (T3.setTop (mkF m 17 _ [(.int z0), (.int (own_c5 f0 z0))]))
  refine OwnFin.st (fun _ q => XS.icmpYes X3.here hx rfl (pc0 := 17) (pc' := 57) rfl (hb hby d15_17) rfl (Jvm.Free.XT.ii_eq_t hc0) (by decide) (by decide) q) ?_
  show OwnFin _ _ _ _ (T3.setTop (mkF m 57 #[.val (.ref a0), .val (.int 0), .val (.int z0), .val (.ref b1), .val (.int (own_c5 f0 z0)), .unset] []))
  have vE5 : Arv Z h3 b1 k1 .byte z0 (own_ml z0 (own_fl f0 z0)) (.int 0) := own_mlcong (congrArg (own_fl f0) hc0) r3_0
  refine OwnFin.st (fun _ q => XS.aloadN X3.here hx rfl (hb hby d15_57) rfl rfl q) ?_
  show OwnFin _ _ _ _ (T3.setTop (mkF m 58 _ [(.ref b1)]))
  obtain ⟨fs, hr, hrun, hended, hW, hsame⟩ := X3.leave (v := some (.ref b1)) (fun h => by rw [Bd.returns] at h; cases h)
  refine ⟨_, _, retOut X3 hx Bd.returns rfl (Or.inr (Or.inr (Or.inr (Or.inr ⟨rfl, rfl, rfl⟩)))) (hb hby d15_58) hr, hrun, hended, _, _, rfl, ?_, ⟨_, rfl⟩, hW, hsame.mono (by decide) (by decide)⟩
  show Q_rm_c3Y Z a0 z0 k_a0 f0 h0 n0 _ T3.heap _
  rw [e3]
  exact ⟨b1, k1, rfl, N3, kp4, lo_b1, vE5⟩
theorem pd_15 : parseMethodDescriptor "([CII)[B" = some ⟨[(.array .char), .int, .int], some (.array .byte)⟩ := by decide +kernel
theorem d15_20 : decode jdk_52_method_16_code 20 = .ok (.aload_n 0, 1) := by decide +kernel
theorem d15_21 : decode jdk_52_method_16_code 21 = .ok (.iload_n 1, 1) := by decide +kernel
theorem d15_22 : decode jdk_52_method_16_code 22 = .ok (.iload_n 2, 1) := by decide +kernel
theorem d15_23 : decode jdk_52_method_16_code 23 = .ok (.invokestatic 119, 3) := by decide +kernel
theorem d15_26 : decode jdk_52_method_16_code 26 = .ok (.astore 5, 2) := by decide +kernel
theorem d15_28 : decode jdk_52_method_16_code 28 = .ok (.aload 5, 2) := by decide +kernel
theorem d15_30 : decode jdk_52_method_16_code 30 = .ok (.iload 4, 2) := by decide +kernel
theorem d15_32 : decode jdk_52_method_16_code 32 = .ok (.invokestatic 71, 3) := by decide +kernel
theorem d15_35 : decode jdk_52_method_16_code 35 = .ok (.sipush 255, 3) := by decide +kernel
theorem d15_38 : decode jdk_52_method_16_code 38 = .ok (.if_icmp .gt 16, 3) := by decide +kernel
theorem d15_54 : decode jdk_52_method_16_code 54 = .ok (.aload 5, 2) := by decide +kernel
theorem d15_56 : decode jdk_52_method_16_code 56 = .ok (.areturn, 1) := by decide +kernel
theorem ef_rm_c3N (m : MethodId) (a0 : Addr) (z0 : Int32) : entryFrame m #[(.ref a0), (.int 0), (.int z0)] 6 = mkF m 0 #[.val (.ref a0), .val (.int 0), .val (.int z0), .unset, .unset, .unset] [] := by first | (simp [entryFrame, mkF, argsToLocals, Value.category]; done) | rfl
def Q_rm_c3N (Z : State) (a0 : Addr) (z0 : Int32) (k_a0 : ClassId) (f0 : Nat → Int32) (h0 : Heap) (n0 : Nat) (v : Option Value) (h : Heap) (L : List Loc) : Prop := ∃ c6_0 : Addr, ∃ kc6_1 : ClassId, v = some (.ref c6_0) ∧ Fr n0 L ∧ Keep h0 h [] ∧ h0.size ≤ c6_0 ∧ Arv Z h c6_0 kc6_1 .byte (z0 <<< ((1 : Int32) &&& 31)) (own_ml (z0 <<< ((1 : Int32) &&& 31)) (own_uf f0 z0)) (.int 0)
set_option maxRecDepth 65536 in
set_option maxHeartbeats 40000000 in
theorem rm_c3N (l : Launch) (Z : State) (av0 : Array Value) (hw : ∀ d ∈ tables_1, d.before av0 Z = true) (ws : List Jvm.Cond) (a0 : Addr) (z0 : Int32) (k_a0 : ClassId) (f0 : Nat → Int32) (h0 : Heap) (n0 : Nat) (Z0 : n0 ≤ h0.size) (Ol0 : Old Z n0 h0) (V_a0 : Arv Z h0 a0 k_a0 .char z0 (own_ml z0 f0) (.int 0)) (hz0 : ¬ (z0 < (0 : Int32))) (hz6 : ¬ ((6 : Int32) < z0)) (hch : ∀ j, nar .char (f0 j) = f0 j) (hc0 : ¬ ((own_c5 f0 z0) = z0)) (S__assertionsDisabled : Sta Z Z.heap "java/lang/StringUTF16" "$assertionsDisabled" "Z" (.int 1)) (S_HI_BYTE_SHIFT : Sta Z Z.heap "java/lang/StringUTF16" "HI_BYTE_SHIFT" "I" (.int 0)) (S_LO_BYTE_SHIFT : Sta Z Z.heap "java/lang/StringUTF16" "LO_BYTE_SHIFT" "I" (.int 8)) :
    MetFree l yM21 (head1 (Jvm.Cond.code yM21 jdk_52_method_16_code 6 (some (.array .byte)) :: ws) ({ frames := 3, cells := 2, slots := 18, locals := 40 } : Room)) (fun a U => a = #[(.ref a0), (.int 0), (.int z0)] ∧ Z.Warmed39 U.vm ∧ U.heap = h0) (fun _ _ _ _ _ => True) (fun _ U o U' => ∃ v L, o = .returned v ∧ Q_rm_c3N Z a0 z0 k_a0 f0 h0 n0 v U'.heap L ∧ FrameEnd U o U' L ({ frames := 3, cells := 2, slots := 18, locals := 40 } : Room).cells ({ frames := 3, cells := 2, slots := 18, locals := 40 } : Room).slots) := by
  refine MetFree.of_bodySF (plainFor_of_name pn_0) hisR ?_
  intro p e s m args below meth c s₁ Bd hml0 hP hK
  obtain ⟨rfl, hZ, hh⟩ := hP
  have hx := Bd.exec
  have hby := Bd.bytes
  have hml : c.maxLocals = 6 := hml0
  have hown : s.vm.findClass "java/lang/StringUTF16" = some m.cls := findClass_of_methodNamed Bd.named
  have hnm := (name_of_methodNamed Bd.named Bd.method).1
  have X0 : Stand p l e ({ frames := 3, cells := 2, slots := 18, locals := 40 } : Room) s m #[(.ref a0), (.int 0), (.int z0)] below meth c s₁ [] 0 0 := Stand.of_body Bd
  have e0 : s₁.heap = h0 := by rw [← hh, Bd.state]; rfl
  have N0 := Fr.nil n0
  have pre0 : ∀ t, Steps p.tables e below (s₁.setTop (mkF m 0 #[.val (.ref a0), .val (.int 0), .val (.int z0), .unset, .unset, .unset] [])) t → Steps p.tables e below (s₁.setTop (entryFrame m #[(.ref a0), (.int 0), (.int z0)] 6)) t := fun t k => castTop (ef_rm_c3N m a0 z0) k
  change OwnFin p.tables e below _ (s₁.setTop (entryFrame m #[(.ref a0), (.int 0), (.int z0)] 6))
  have kp0 : Keep h0 h0 [] := Keep.refl _ _
  refine OwnFin.st (fun _ q => pre0 _ q) ?_
  show OwnFin _ _ _ _ (s₁.setTop (mkF m 0 #[.val (.ref a0), .val (.int 0), .val (.int z0), .unset, .unset, .unset] []))
  refine OwnFin.st (fun _ q => XS.iloadN X0.here hx rfl (hb hby d15_0) rfl q) ?_
  show OwnFin _ _ _ _ (s₁.setTop (mkF m 1 _ [(.int z0)]))
  obtain ⟨T1, h1, k1, X1, e1, E1, A1, st1⟩ := newP X0 hx hZ (w_ hw 34 rfl) e0 (g := (mkF m 1 #[.val (.ref a0), .val (.int 0), .val (.int z0), .unset, .unset, .unset] [(.int z0)])) rfl (hb hby d15_1) rfl hz0 (cap := 6) (own_cap hz0 hz6).2.2.2.2 (by decide) (by decide) (by decide)
  obtain ⟨b1, qe1⟩ : ∃ z, z = h0.size := ⟨_, rfl⟩
  rw [← qe1] at A1 st1
  refine OwnFin.st st1 ?_
  have bi_b1 : h0.size ≤ b1 := Nat.le_of_eq qe1.symm
  have lo_b1 : h0.size ≤ b1 := Nat.le_trans kp0.1 bi_b1
  have g_b1 : n0 ≤ b1 := Nat.le_trans Z0 lo_b1
  have kp2 : Keep h0 h1 [] := kp0.ext E1
  have ol2 : Old Z n0 h1 := Ol0.ext E1
  have V1 : Arv Z h1 b1 k1 .byte z0 (own_ml z0 own_zf) (.int 0) := (Arv.new A1 hz0).pad (own_mlnew _)
  show OwnFin _ _ _ _ (T1.setTop (mkF m 3 _ [(.ref b1)]))
  refine OwnFin.st (fun _ q => XS.astoreN X1.here hx rfl (hb hby d15_3) rfl rfl (l' := #[.val (.ref a0), .val (.int 0), .val (.int z0), .val (.ref b1), .unset, .unset]) rfl q) ?_
  show OwnFin _ _ _ _ (T1.setTop (mkF m 4 _ []))
  refine OwnFin.st (fun _ q => XS.aloadN X1.here hx rfl (hb hby d15_4) rfl rfl q) ?_
  show OwnFin _ _ _ _ (T1.setTop (mkF m 5 _ [(.ref a0)]))
  refine OwnFin.st (fun _ q => XS.iloadN X1.here hx rfl (hb hby d15_5) rfl q) ?_
  show OwnFin _ _ _ _ (T1.setTop (mkF m 6 _ [(.int 0), (.ref a0)]))
  refine OwnFin.st (fun _ q => XS.aloadN X1.here hx rfl (hb hby d15_6) rfl rfl q) ?_
  show OwnFin _ _ _ _ (T1.setTop (mkF m 7 _ [(.ref b1), (.int 0), (.ref a0)]))
  refine OwnFin.st (fun _ q => XS.iconst X1.here hx rfl (hb hby d15_7) q) ?_
  show OwnFin _ _ _ _ (T1.setTop (mkF m 8 _ [(.int 0), (.ref b1), (.int 0), (.ref a0)]))
  refine OwnFin.st (fun _ q => XS.iloadN X1.here hx rfl (hb hby d15_8) rfl q) ?_
  show OwnFin _ _ _ _ (T1.setTop (mkF m 9 _ [(.int z0), (.int 0), (.ref b1), (.int 0), (.ref a0)]))
  obtain ⟨_, _, ⟨T3, L3, k3, n3⟩, -, X3, ⟨Lc3, hQ3, l3, y3, z3⟩, st3⟩ := Jvm.LawKit.callS X1 hx (y := yM15) hown (mvT hZ (w_ hw 72 rfl)) (mvT hZ (w_ hw 73 rfl)) (mvT hZ (w_ hw 70 rfl)) (mvT hZ (w_ hw 74 rfl)) (by decide) (backOf (W := 0) (rm_c5 l Z av0 hw [] a0 b1 z0 k_a0 f0 k1 h1 n0 (Nat.le_trans Z0 kp2.1) (V_a0.ext E1) V1 hz0 g_b1 (Nat.ne_of_lt (Nat.lt_of_lt_of_le V_a0.lt bi_b1))) hZ (w_ hw 74 rfl) (w_ hw 70 rfl) (by decide) (by decide)) (g := (mkF m 9 #[.val (.ref a0), .val (.int 0), .val (.int z0), .val (.ref b1), .unset, .unset] [(.int z0), (.int 0), (.ref b1), (.int 0), (.ref a0)])) rfl (by rw [hml]; rfl) (argsL := [(.ref a0), (.int 0), (.ref b1), (.int 0), (.int z0)]) (rest := []) (lenOf pd_14 rfl) rfl (by show 2 * 0 + _ ≤ _; exact Nat.le_of_eq rfl) (hb hby d15_9) (fun _ _ => ⟨rfl, e1, (by decide : 1 + 0 ≤ _), (by decide : 6 + 0 ≤ _)⟩)
  dsimp only [Pt.U, Pt.locs, Pt.cells, Pt.slots] at X3 l3 y3 z3 st3 hQ3
  subst l3 y3 z3
  obtain ⟨rfl, N3q, K3, r3_0⟩ := hQ3
  have N3 := Fr.app N0 N3q
  refine OwnFin.st st3 ?_
  obtain ⟨h3, e3⟩ : ∃ z, T3.heap = z := ⟨_, rfl⟩
  rw [e3] at K3 r3_0
  have kp4 : Keep h0 h3 [] := kp2.trans K3 (allS (Or.inr lo_b1) all0)
  have ol4 : Old Z n0 h3 := ol2.keep K3 (allS g_b1 all0)
  show OwnFin _ _ _ _ (T3.setTop (mkF m 12 _ [(.int (own_c5 f0 z0))]))
  refine OwnFin.st (fun _ q => XS.istore X3.here hx rfl (hb hby d15_12) rfl (l' := #[.val (.ref a0), .val (.int 0), .val (.int z0), .val (.ref b1), .val (.int (own_c5 f0 z0)), .unset]) rfl q) ?_
  show OwnFin _ _ _ _ (T3.setTop (mkF m 14 _ []))
  refine OwnFin.st (fun _ q => XS.iload X3.here hx rfl (hb hby d15_14) rfl q) ?_
  show OwnFin _ _ _ _ (T3.setTop (mkF m 16 _ [(.int (own_c5 f0 z0))]))
  refine OwnFin.st (fun _ q => XS.iloadN X3.here hx rfl (hb hby d15_16) rfl q) ?_
  show OwnFin _ _ _ _ (T3.setTop (mkF m 17 _ [(.int z0), (.int (own_c5 f0 z0))]))
  refine OwnFin.st (fun _ q => XS.icmpNo X3.here hx rfl (hb hby d15_17) rfl (Jvm.Free.XT.ii_eq_f hc0) q) ?_
  show OwnFin _ _ _ _ (T3.setTop (mkF m 20 #[.val (.ref a0), .val (.int 0), .val (.int z0), .val (.ref b1), .val (.int (own_c5 f0 z0)), .unset] []))
  refine OwnFin.st (fun _ q => XS.aloadN X3.here hx rfl (hb hby d15_20) rfl rfl q) ?_
  show OwnFin _ _ _ _ (T3.setTop (mkF m 21 _ [(.ref a0)]))
  refine OwnFin.st (fun _ q => XS.iloadN X3.here hx rfl (hb hby d15_21) rfl q) ?_
  show OwnFin _ _ _ _ (T3.setTop (mkF m 22 _ [(.int 0), (.ref a0)]))
  refine OwnFin.st (fun _ q => XS.iloadN X3.here hx rfl (hb hby d15_22) rfl q) ?_
  show OwnFin _ _ _ _ (T3.setTop (mkF m 23 _ [(.int z0), (.int 0), (.ref a0)]))
  have fr5 : Arv Z h3 a0 k_a0 .char z0 (own_ml z0 f0) (.int 0) := ((V_a0.ext E1).keep K3 (ninS (Nat.ne_of_lt (Nat.lt_of_lt_of_le V_a0.lt bi_b1)) nin0))
  obtain ⟨_, _, ⟨T6, L6, k6, n6⟩, -, X6, ⟨Lc6, hQ6, l6, y6, z6⟩, st6⟩ := Jvm.LawKit.callS X3 hx (y := yM19) hown (mvT hZ (w_ hw 103 rfl)) (mvT hZ (w_ hw 104 rfl)) (mvT hZ (w_ hw 70 rfl)) (mvT hZ (w_ hw 105 rfl)) (by decide) (backOf (W := 0) (rm_tb l Z av0 hw [] a0 z0 k_a0 f0 h3 n0 (Nat.le_trans Z0 kp4.1) ol4 fr5 hz0 hz6 S__assertionsDisabled S_HI_BYTE_SHIFT S_LO_BYTE_SHIFT) hZ (w_ hw 105 rfl) (w_ hw 70 rfl) (by decide) (by decide)) (g := (mkF m 23 #[.val (.ref a0), .val (.int 0), .val (.int z0), .val (.ref b1), .val (.int (own_c5 f0 z0)), .unset] [(.int z0), (.int 0), (.ref a0)])) rfl (by rw [hml]; rfl) (argsL := [(.ref a0), (.int 0), (.int z0)]) (rest := []) (lenOf pd_15 rfl) rfl (by show 2 * 0 + _ ≤ _; exact Nat.le_of_eq rfl) (hb hby d15_23) (fun _ _ => ⟨rfl, e3, (by decide : 1 + 1 ≤ _), (by decide : 6 + 12 ≤ _)⟩)
  dsimp only [Pt.U, Pt.locs, Pt.cells, Pt.slots] at X6 l6 y6 z6 st6 hQ6
  subst l6 y6 z6
  obtain ⟨c6_0, kc6_1, rfl, N6q, K6, r6_0, r6_1⟩ := hQ6
  have N6 := Fr.app N3 N6q
  refine OwnFin.st st6 ?_
  obtain ⟨h6, e6⟩ : ∃ z, T6.heap = z := ⟨_, rfl⟩
  rw [e6] at K6 r6_1
  have bi_c6_0 : h3.size ≤ c6_0 := r6_0
  have lo_c6_0 : h0.size ≤ c6_0 := Nat.le_trans kp4.1 bi_c6_0
  have g_c6_0 : n0 ≤ c6_0 := Nat.le_trans Z0 lo_c6_0
  have kp7 : Keep h0 h6 [] := kp4.trans K6 all0
  have ol7 : Old Z n0 h6 := ol4.keep K6 all0
  show OwnFin _ _ _ _ (T6.setTop (mkF m 26 _ [(.ref c6_0)]))
  refine OwnFin.st (fun _ q => XS.astore X6.here hx rfl (hb hby d15_26) rfl rfl (l' := #[.val (.ref a0), .val (.int 0), .val (.int z0), .val (.ref b1), .val (.int (own_c5 f0 z0)), .val (.ref c6_0)]) rfl q) ?_
  show OwnFin _ _ _ _ (T6.setTop (mkF m 28 _ []))
  refine OwnFin.st (fun _ q => XS.aload X6.here hx rfl (hb hby d15_28) rfl rfl q) ?_
  show OwnFin _ _ _ _ (T6.setTop (mkF m 30 _ [(.ref c6_0)]))
  refine OwnFin.st (fun _ q => XS.iload X6.here hx rfl (hb hby d15_30) rfl q) ?_
  show OwnFin _ _ _ _ (T6.setTop (mkF m 32 _ [(.int (own_c5 f0 z0)), (.ref c6_0)]))
  obtain ⟨_, _, ⟨T8, L8, k8, n8⟩, -, X8, ⟨Lc8, hQ8, l8, y8, z8⟩, st8⟩ := Jvm.LawKit.callS X6 hx (y := yM0) hown (mvT hZ (w_ hw 119 rfl)) (mvT hZ (w_ hw 120 rfl)) (mvT hZ (w_ hw 70 rfl)) (mvT hZ (w_ hw 121 rfl)) (by decide) (backOf (W := 0) (rm_gc l Z av0 hw [] c6_0 (own_c5 f0 z0) kc6_1 (z0 <<< ((1 : Int32) &&& 31)) (own_uf f0 z0) h6 n0 (Nat.le_trans Z0 kp7.1) ol7 r6_1 (own_ufb (own_c5lt hc0 hz0).1 (own_c5lt hc0 hz0).2.1 hz0 hz6) S__assertionsDisabled S_HI_BYTE_SHIFT S_LO_BYTE_SHIFT) hZ (w_ hw 121 rfl) (w_ hw 70 rfl) (by decide) (by decide)) (g := (mkF m 32 #[.val (.ref a0), .val (.int 0), .val (.int z0), .val (.ref b1), .val (.int (own_c5 f0 z0)), .val (.ref c6_0)] [(.int (own_c5 f0 z0)), (.ref c6_0)])) rfl (by rw [hml]; rfl) (argsL := [(.ref c6_0), (.int (own_c5 f0 z0))]) (rest := []) (lenOf pd_0 rfl) rfl (by show 2 * 0 + _ ≤ _; exact Nat.le_of_eq rfl) (hb hby d15_32) (fun _ _ => ⟨rfl, e6, (by decide : 2 + 0 ≤ _), (by decide : 18 + 0 ≤ _)⟩)
  dsimp only [Pt.U, Pt.locs, Pt.cells, Pt.slots] at X8 l8 y8 z8 st8 hQ8
  subst l8 y8 z8
  obtain ⟨rfl, N8q, he8⟩ := hQ8
  have N8 := Fr.app N6 N8q
  refine OwnFin.st st8 ?_
  show OwnFin _ _ _ _ (T8.setTop (mkF m 35 _ [(.int (own_gc (own_uf f0 z0) (own_c5 f0 z0)))]))
  refine OwnFin.st (fun _ q => XS.sipush X8.here hx rfl (hb hby d15_35) q) ?_
  show OwnFin _ _ _ _ (T8.setTop (mkF m 38 _ [(.int 255), (.int (own_gc (own_uf f0 z0) (own_c5 f0 z0)))]))
  refine OwnFin.st (fun _ q => XS.icmpYes X8.here hx rfl (pc0 := 38) (pc' := 54) rfl (hb hby d15_38) rfl (Jvm.Free.XT.ii_gt_t (Eq.mpr (congrArg (fun q => (255 : Int32) < q) (own_gcu hch (own_c5lt hc0 hz0).1 (own_c5lt hc0 hz0).2.1 hz0 hz6)) (own_c5lt hc0 hz0).2.2)) (by decide) (by decide) q) ?_
  show OwnFin _ _ _ _ (T8.setTop (mkF m 54 _ []))
  refine OwnFin.st (fun _ q => XS.aload X8.here hx rfl (hb hby d15_54) rfl rfl q) ?_
  show OwnFin _ _ _ _ (T8.setTop (mkF m 56 _ [(.ref c6_0)]))
  obtain ⟨fs, hr, hrun, hended, hW, hsame⟩ := X8.leave (v := some (.ref c6_0)) (fun h => by rw [Bd.returns] at h; cases h)
  refine ⟨_, _, retOut X8 hx Bd.returns rfl (Or.inr (Or.inr (Or.inr (Or.inr ⟨rfl, rfl, rfl⟩)))) (hb hby d15_56) hr, hrun, hended, _, _, rfl, ?_, ⟨_, rfl⟩, hW, hsame.mono (by decide) (by decide)⟩
  show Q_rm_c3N Z a0 z0 k_a0 f0 h0 n0 _ T8.heap _
  rw [he8]
  exact ⟨c6_0, kc6_1, rfl, N8, kp7, lo_c6_0, r6_1⟩
theorem pd_16 : parseMethodDescriptor "([BI)B" = some ⟨[(.array .byte), .int], some .byte⟩ := by decide +kernel
theorem d7_0 : decode jdk_42_method_149_code 0 = .ok (.aload_n 0, 1) := by decide +kernel
theorem d7_1 : decode jdk_42_method_149_code 1 = .ok (.invokespecial 1, 3) := by decide +kernel
theorem d7_4 : decode jdk_42_method_149_code 4 = .ok (.iload_n 3, 1) := by decide +kernel
theorem d7_5 : decode jdk_42_method_149_code 5 = .ok (.ifCond .ne 22, 3) := by decide +kernel
theorem d7_27 : decode jdk_42_method_149_code 27 = .ok (.getstatic 38, 3) := by decide +kernel
theorem d7_30 : decode jdk_42_method_149_code 30 = .ok (.ifCond .eq 28, 3) := by decide +kernel
theorem d7_33 : decode jdk_42_method_149_code 33 = .ok (.aload_n 1, 1) := by decide +kernel
theorem d7_34 : decode jdk_42_method_149_code 34 = .ok (.iload_n 2, 1) := by decide +kernel
theorem d7_35 : decode jdk_42_method_149_code 35 = .ok (.iload_n 3, 1) := by decide +kernel
theorem d7_36 : decode jdk_42_method_149_code 36 = .ok (.invokestatic 177, 3) := by decide +kernel
theorem d7_39 : decode jdk_42_method_149_code 39 = .ok (.astore 5, 2) := by decide +kernel
theorem d7_41 : decode jdk_42_method_149_code 41 = .ok (.aload_n 0, 1) := by decide +kernel
theorem d7_42 : decode jdk_42_method_149_code 42 = .ok (.aload 5, 2) := by decide +kernel
theorem d7_44 : decode jdk_42_method_149_code 44 = .ok (.iload_n 3, 1) := by decide +kernel
theorem d7_45 : decode jdk_42_method_149_code 45 = .ok (.invokestatic 47, 3) := by decide +kernel
theorem d7_48 : decode jdk_42_method_149_code 48 = .ok (.putfield 15, 3) := by decide +kernel
theorem d7_51 : decode jdk_42_method_149_code 51 = .ok (.aload_n 0, 1) := by decide +kernel
theorem d7_52 : decode jdk_42_method_149_code 52 = .ok (.aload 5, 2) := by decide +kernel
theorem d7_54 : decode jdk_42_method_149_code 54 = .ok (.putfield 9, 3) := by decide +kernel
theorem d7_57 : decode jdk_42_method_149_code 57 = .ok (.return_, 1) := by decide +kernel
theorem ef_rm_svY (m : MethodId) (a0 : Addr) (a1 : Addr) (z0 : Int32) : entryFrame m #[(.ref a0), (.ref a1), (.int 0), (.int z0), .null] 6 = mkF m 0 #[.val (.ref a0), .val (.ref a1), .val (.int 0), .val (.int z0), .val .null, .unset] [] := by first | (simp [entryFrame, mkF, argsToLocals, Value.category]; done) | rfl
def Q_rm_svY (Z : State) (a0 : Addr) (a1 : Addr) (z0 : Int32) (k_a1 : ClassId) (f0 : Nat → Int32) (w_COMPACT_STRINGS : Int32) (u_coder_a0 : Value) (u_value_a0 : Value) (h0 : Heap) (n0 : Nat) (v : Option Value) (h : Heap) (L : List Loc) : Prop := ∃ c3_0 : Addr, ∃ kc3_1 : ClassId, v = none ∧ Fr n0 L ∧ Keep h0 h [a0] ∧ h0.size ≤ c3_0 ∧ Arv Z h c3_0 kc3_1 .byte z0 (own_ml z0 (own_fl f0 z0)) (.int 0) ∧ Fld Z h a0 "java/lang/String" "coder" "B" (.int 0) ∧ Fld Z h a0 "java/lang/String" "value" "[B" (.ref c3_0)
set_option maxRecDepth 65536 in
set_option maxHeartbeats 40000000 in
theorem rm_svY (l : Launch) (Z : State) (av0 : Array Value) (hw : ∀ d ∈ tables_1, d.before av0 Z = true) (ws : List Jvm.Cond) (a0 : Addr) (a1 : Addr) (z0 : Int32) (k_a1 : ClassId) (f0 : Nat → Int32) (w_COMPACT_STRINGS : Int32) (u_coder_a0 : Value) (u_value_a0 : Value) (h0 : Heap) (n0 : Nat) (Z0 : n0 ≤ h0.size) (Ol0 : Old Z n0 h0) (V_a1 : Arv Z h0 a1 k_a1 .char z0 (own_ml z0 f0) (.int 0)) (hz0 : ¬ (z0 < (0 : Int32))) (hz6 : ¬ ((6 : Int32) < z0)) (hc0 : ¬ (z0 = (0 : Int32))) (S_COMPACT_STRINGS : Sta Z Z.heap "java/lang/String" "COMPACT_STRINGS" "Z" (.int w_COMPACT_STRINGS)) (hc1 : ¬ (w_COMPACT_STRINGS = (0 : Int32))) (hc2 : (own_c5 f0 z0) = z0) (X_a0 : Exa Z h0 a0 "java/lang/String") (F_coder_a0 : Fld Z h0 a0 "java/lang/String" "coder" "B" u_coder_a0) (g_a0 : n0 ≤ a0) (F_value_a0 : Fld Z h0 a0 "java/lang/String" "value" "[B" u_value_a0) :
    MetFree l yM22 (head1 (Jvm.Cond.code yM22 jdk_42_method_149_code 6 none :: ws) ({ frames := 2, cells := 1, slots := 6, locals := 35 } : Room)) (fun a U => a = #[(.ref a0), (.ref a1), (.int 0), (.int z0), .null] ∧ Z.Warmed39 U.vm ∧ U.heap = h0) (fun _ _ _ _ _ => True) (fun _ U o U' => ∃ v L, o = .returned v ∧ Q_rm_svY Z a0 a1 z0 k_a1 f0 w_COMPACT_STRINGS u_coder_a0 u_value_a0 h0 n0 v U'.heap L ∧ FrameEnd U o U' L ({ frames := 2, cells := 1, slots := 6, locals := 35 } : Room).cells ({ frames := 2, cells := 1, slots := 6, locals := 35 } : Room).slots) := by
  refine MetFree.of_bodySF (plainFor_of_name pn_2) hisR ?_
  intro p e s m args below meth c s₁ Bd hml0 hP hK
  obtain ⟨rfl, hZ, hh⟩ := hP
  have hx := Bd.exec
  have hby := Bd.bytes
  have hml : c.maxLocals = 6 := hml0
  have hown : s.vm.findClass "java/lang/String" = some m.cls := findClass_of_methodNamed Bd.named
  have hnm := (name_of_methodNamed Bd.named Bd.method).1
  have X0 : Stand p l e ({ frames := 2, cells := 1, slots := 6, locals := 35 } : Room) s m #[(.ref a0), (.ref a1), (.int 0), (.int z0), .null] below meth c s₁ [] 0 0 := Stand.of_body Bd
  have e0 : s₁.heap = h0 := by rw [← hh, Bd.state]; rfl
  have N0 := Fr.nil n0
  have pre0 : ∀ t, Steps p.tables e below (s₁.setTop (mkF m 0 #[.val (.ref a0), .val (.ref a1), .val (.int 0), .val (.int z0), .val .null, .unset] [])) t → Steps p.tables e below (s₁.setTop (entryFrame m #[(.ref a0), (.ref a1), (.int 0), (.int z0), .null] 6)) t := fun t k => castTop (ef_rm_svY m a0 a1 z0) k
  change OwnFin p.tables e below _ (s₁.setTop (entryFrame m #[(.ref a0), (.ref a1), (.int 0), (.int z0), .null] 6))
  have kp0 : Keep h0 h0 [a0] := Keep.refl _ _
  refine OwnFin.st (fun _ q => pre0 _ q) ?_
  show OwnFin _ _ _ _ (s₁.setTop (mkF m 0 #[.val (.ref a0), .val (.ref a1), .val (.int 0), .val (.int z0), .val .null, .unset] []))
  refine OwnFin.st (fun _ q => XS.aloadN X0.here hx rfl (hb hby d7_0) rfl rfl q) ?_
  show OwnFin _ _ _ _ (s₁.setTop (mkF m 1 _ [(.ref a0)]))
  obtain ⟨T1, X1, e1, st1⟩ := initO X0 hx hZ hown (w_ hw 30 rfl) (w_ hw 31 rfl) (w_ hw 32 rfl) e0 (g := (mkF m 1 #[.val (.ref a0), .val (.ref a1), .val (.int 0), .val (.int z0), .val .null, .unset] [(.ref a0)])) rfl (by rw [hml]; rfl) rfl (hb hby d7_1) (by decide) (W := 0) (by show 2 * 0 + _ ≤ _; exact Nat.le_of_eq rfl) (by decide)
  refine OwnFin.st st1 ?_
  show OwnFin _ _ _ _ (T1.setTop (mkF m 4 _ []))
  refine OwnFin.st (fun _ q => XS.iloadN X1.here hx rfl (hb hby d7_4) rfl q) ?_
  show OwnFin _ _ _ _ (T1.setTop (mkF m 5 _ [(.int z0)]))
  refine OwnFin.st (fun _ q => XS.ifYes X1.here hx rfl (pc0 := 5) (pc' := 27) rfl (hb hby d7_5) rfl (Jvm.Free.XT.i0_ne_t hc0) (by decide) (by decide) q) ?_
  show OwnFin _ _ _ _ (T1.setTop (mkF m 27 _ []))
  obtain ⟨T2, X2, e2, st2⟩ := getS2 X1 hx hZ hown (host := "") (Or.inl (w_ hw 55 rfl)) Via.refl e1 (S_COMPACT_STRINGS.ext Ol0.2) (g := (mkF m 27 #[.val (.ref a0), .val (.ref a1), .val (.int 0), .val (.int z0), .val .null, .unset] [])) rfl (hb hby d7_27)
  refine OwnFin.st st2 ?_
  show OwnFin _ _ _ _ (T2.setTop (mkF m 30 _ [(.int w_COMPACT_STRINGS)]))
  refine OwnFin.st (fun _ q => XS.ifNo X2.here hx rfl (hb hby d7_30) rfl (Jvm.Free.XT.i0_eq_f hc1) q) ?_
  show OwnFin _ _ _ _ (T2.setTop (mkF m 33 _ []))
  refine OwnFin.st (fun _ q => XS.aloadN X2.here hx rfl (hb hby d7_33) rfl rfl q) ?_
  show OwnFin _ _ _ _ (T2.setTop (mkF m 34 _ [(.ref a1)]))
  refine OwnFin.st (fun _ q => XS.iloadN X2.here hx rfl (hb hby d7_34) rfl q) ?_
  show OwnFin _ _ _ _ (T2.setTop (mkF m 35 _ [(.int 0), (.ref a1)]))
  refine OwnFin.st (fun _ q => XS.iloadN X2.here hx rfl (hb hby d7_35) rfl q) ?_
  show OwnFin _ _ _ _ (T2.setTop (mkF m 36 _ [(.int z0), (.int 0), (.ref a1)]))
  show OwnFin _ _ _ _ (T2.setTop (mkF m 36 _ [(.int z0), (.int 0), (.ref a1)]))
  obtain ⟨_, _, ⟨T3, L3, k3, n3⟩, -, X3, ⟨Lc3, hQ3, l3, y3, z3⟩, st3⟩ := Jvm.LawKit.callS X2 hx (y := yM21) hown (mvT hZ (w_ hw 68 rfl)) (mvT hZ (w_ hw 69 rfl)) (mvT hZ (w_ hw 70 rfl)) (mvT hZ (w_ hw 71 rfl)) (by decide) (backOf (W := 0) (rm_c3Y l Z av0 hw [] a1 z0 k_a1 f0 h0 n0 (Nat.le_trans Z0 kp0.1) V_a1 hz0 hz6 hc2) hZ (w_ hw 71 rfl) (w_ hw 70 rfl) (by decide) (by decide)) (g := (mkF m 36 #[.val (.ref a0), .val (.ref a1), .val (.int 0), .val (.int z0), .val .null, .unset] [(.int z0), (.int 0), (.ref a1)])) rfl (by rw [hml]; rfl) (argsL := [(.ref a1), (.int 0), (.int z0)]) (rest := []) (lenOf pd_15 rfl) rfl (by show 2 * 0 + _ ≤ _; exact Nat.le_of_eq rfl) (hb hby d7_36) (fun _ _ => ⟨rfl, e2, (by decide : 0 + 1 ≤ _), (by decide : 0 + 6 ≤ _)⟩)
  dsimp only [Pt.U, Pt.locs, Pt.cells, Pt.slots] at X3 l3 y3 z3 st3 hQ3
  subst l3 y3 z3
  obtain ⟨c3_0, kc3_1, rfl, N3q, K3, r3_0, r3_1⟩ := hQ3
  have N3 := Fr.app N0 N3q
  refine OwnFin.st st3 ?_
  obtain ⟨h3, e3⟩ : ∃ z, T3.heap = z := ⟨_, rfl⟩
  rw [e3] at K3 r3_1
  have bi_c3_0 : h0.size ≤ c3_0 := r3_0
  have lo_c3_0 : h0.size ≤ c3_0 := Nat.le_trans kp0.1 bi_c3_0
  have g_c3_0 : n0 ≤ c3_0 := Nat.le_trans Z0 lo_c3_0
  have kp4 : Keep h0 h3 [a0] := kp0.trans K3 all0
  have ol4 : Old Z n0 h3 := Ol0.keep K3 all0
  show OwnFin _ _ _ _ (T3.setTop (mkF m 39 _ [(.ref c3_0)]))
  refine OwnFin.st (fun _ q => XS.astore X3.here hx rfl (hb hby d7_39) rfl rfl (l' := #[.val (.ref a0), .val (.ref a1), .val (.int 0), .val (.int z0), .val .null, .val (.ref c3_0)]) rfl q) ?_
  show OwnFin _ _ _ _ (T3.setTop (mkF m 41 _ []))
  refine OwnFin.st (fun _ q => XS.aloadN X3.here hx rfl (hb hby d7_41) rfl rfl q) ?_
  show OwnFin _ _ _ _ (T3.setTop (mkF m 42 #[.val (.ref a0), .val (.ref a1), .val (.int 0), .val (.int z0), .val .null, .val (.ref c3_0)] [(.ref a0)]))
  refine OwnFin.st (fun _ q => XS.aload X3.here hx rfl (hb hby d7_42) rfl rfl q) ?_
  show OwnFin _ _ _ _ (T3.setTop (mkF m 44 _ [(.ref c3_0), (.ref a0)]))
  refine OwnFin.st (fun _ q => XS.iloadN X3.here hx rfl (hb hby d7_44) rfl q) ?_
  show OwnFin _ _ _ _ (T3.setTop (mkF m 45 _ [(.int z0), (.ref c3_0), (.ref a0)]))
  obtain ⟨_, _, ⟨T5, L5, k5, n5⟩, -, X5, ⟨Lc5, hQ5, l5, y5, z5⟩, st5⟩ := Jvm.LawKit.callS X3 hx (y := yM20) hown (mvT hZ (w_ hw 75 rfl)) (mvT hZ (w_ hw 76 rfl)) (mvT hZ (w_ hw 70 rfl)) (mvT hZ (w_ hw 77 rfl)) (by decide) (backOf (W := 1) (rm_cl0 l Z av0 hw [] c3_0 z0 kc3_1 (own_fl f0 z0) h3 n0 (Nat.le_trans Z0 kp4.1) r3_1) hZ (w_ hw 77 rfl) (w_ hw 70 rfl) (by decide) (by decide)) (g := (mkF m 45 #[.val (.ref a0), .val (.ref a1), .val (.int 0), .val (.int z0), .val .null, .val (.ref c3_0)] [(.int z0), (.ref c3_0), (.ref a0)])) rfl (by rw [hml]; rfl) (argsL := [(.ref c3_0), (.int z0)]) (rest := [(.ref a0)]) (lenOf pd_16 rfl) rfl (by show 2 * 0 + _ ≤ _; exact Nat.le_of_eq rfl) (hb hby d7_45) (fun _ _ => ⟨rfl, e3, (by decide : 1 + 0 ≤ _), (by decide : 6 + 0 ≤ _)⟩)
  dsimp only [Pt.U, Pt.locs, Pt.cells, Pt.slots] at X5 l5 y5 z5 st5 hQ5
  subst l5 y5 z5
  obtain ⟨rfl, N5q, he5⟩ := hQ5
  have N5 := Fr.app N3 N5q
  refine OwnFin.st st5 ?_
  show OwnFin _ _ _ _ (T5.setTop (mkF m 48 _ [(.int 0), (.ref a0)]))
  obtain ⟨T6, h6, X6, e6, W6, st6⟩ := putFN X5 hx hZ hown (w_ hw 40 rfl) Via.refl he5 (F_coder_a0.keep K3 nin0) (X_a0.keep K3) (Or.inr ⟨(w_ hw 36 rfl), rfl, hnm⟩) (w_ hw 21 rfl) (ty := .byte) (v' := (.int 0)) (by decide) rfl rfl (g := (mkF m 48 #[.val (.ref a0), .val (.ref a1), .val (.int 0), .val (.int z0), .val .null, .val (.ref c3_0)] [(.int 0), (.ref a0)])) rfl rfl (hb hby d7_48)
  refine OwnFin.st st6 ?_
  have Fw6 : Fld Z h6 a0 "java/lang/String" "coder" "B" (.int 0) := (F_coder_a0.keep K3 nin0).same W6
  have N6 := Fr.snoc X6 N5 g_a0
  have kp7 : Keep h0 h6 [a0] := kp4.wr W6 (Or.inl (List.mem_of_getElem? (i := 0) rfl))
  have ol7 : Old Z n0 h6 := ol4.wr W6 g_a0
  show OwnFin _ _ _ _ (T6.setTop (mkF m 51 _ []))
  refine OwnFin.st (fun _ q => XS.aloadN X6.here hx rfl (hb hby d7_51) rfl rfl q) ?_
  show OwnFin _ _ _ _ (T6.setTop (mkF m 52 _ [(.ref a0)]))
  refine OwnFin.st (fun _ q => XS.aload X6.here hx rfl (hb hby d7_52) rfl rfl q) ?_
  show OwnFin _ _ _ _ (T6.setTop (mkF m 54 _ [(.ref c3_0), (.ref a0)]))
  have fr8 : Fld Z h6 a0 "java/lang/String" "value" "[B" u_value_a0 := ((F_value_a0.keep K3 nin0).other W6 (Or.inr (slot_ne (Or.inr (w_ hw 35 rfl)) (Or.inr (w_ hw 36 rfl)) (by decide) (t := (.array .byte)) (t' := .byte) (by decide) (by decide))))
  obtain ⟨T9, h9, X9, e9, W9, st9⟩ := putF X6 hx hZ hown (host := "") (Or.inl (w_ hw 39 rfl)) Via.refl e6 fr8 ((X_a0.keep K3).wr W6) (Or.inr ⟨(w_ hw 35 rfl), rfl, hnm⟩) (w_ hw 21 rfl) (ty := (.array .byte)) (by decide) rfl rfl (g := (mkF m 54 #[.val (.ref a0), .val (.ref a1), .val (.int 0), .val (.int z0), .val .null, .val (.ref c3_0)] [(.ref c3_0), (.ref a0)])) rfl rfl (hb hby d7_54)
  refine OwnFin.st st9 ?_
  have Fw9 : Fld Z h9 a0 "java/lang/String" "value" "[B" (.ref c3_0) := ((F_value_a0.keep K3 nin0).other W6 (Or.inr (slot_ne (Or.inr (w_ hw 35 rfl)) (Or.inr (w_ hw 36 rfl)) (by decide) (t := (.array .byte)) (t' := .byte) (by decide) (by decide)))).same W9
  have N9 := Fr.snoc X9 N6 g_a0
  have kp10 : Keep h0 h9 [a0] := kp7.wr W9 (Or.inl (List.mem_of_getElem? (i := 0) rfl))
  have ol10 : Old Z n0 h9 := ol7.wr W9 g_a0
  show OwnFin _ _ _ _ (T9.setTop (mkF m 57 _ []))
  obtain ⟨fs, hr, hrun, hended, hW, hsame⟩ := X9.leave (v := none) (fun _ => rfl)
  refine ⟨_, _, X9.returnOut hx Bd.returns (hb hby d7_57) hr, hrun, hended, _, _, rfl, ?_, ⟨_, rfl⟩, hW, hsame.mono (by decide) (by decide)⟩
  show Q_rm_svY Z a0 a1 z0 k_a1 f0 w_COMPACT_STRINGS u_coder_a0 u_value_a0 h0 n0 _ T9.heap _
  rw [e9]
  have fr11 : Arv Z h9 c3_0 kc3_1 .byte z0 (own_ml z0 (own_fl f0 z0)) (.int 0) := ((r3_1.other W6 (Ne.symm (Nat.ne_of_lt (Nat.lt_of_lt_of_le X_a0.lt bi_c3_0)))).other W9 (Ne.symm (Nat.ne_of_lt (Nat.lt_of_lt_of_le X_a0.lt bi_c3_0))))
  have fr12 : Fld Z h9 a0 "java/lang/String" "coder" "B" (.int 0) := (Fw6.other W9 (Or.inr (slot_ne (Or.inr (w_ hw 36 rfl)) (Or.inr (w_ hw 35 rfl)) (by decide) (t := .byte) (t' := (.array .byte)) (by decide) (by decide))))
  exact ⟨c3_0, kc3_1, rfl, N9, kp10, lo_c3_0, fr11, fr12, Fw9⟩
theorem pd_17 : parseMethodDescriptor "([CIILjava/lang/Void;)V" = some ⟨[(.array .char), .int, .int, (.object "java/lang/Void")], none⟩ := by decide +kernel
theorem d6_0 : decode jdk_42_method_3_code 0 = .ok (.aload_n 0, 1) := by decide +kernel
theorem d6_1 : decode jdk_42_method_3_code 1 = .ok (.aload_n 1, 1) := by decide +kernel
theorem d6_2 : decode jdk_42_method_3_code 2 = .ok (.iconst 0, 1) := by decide +kernel
theorem d6_3 : decode jdk_42_method_3_code 3 = .ok (.aload_n 1, 1) := by decide +kernel
theorem d6_4 : decode jdk_42_method_3_code 4 = .ok (.arraylength, 1) := by decide +kernel
theorem d6_5 : decode jdk_42_method_3_code 5 = .ok (.aconst_null, 1) := by decide +kernel
theorem d6_6 : decode jdk_42_method_3_code 6 = .ok (.invokespecial 27, 3) := by decide +kernel
theorem d6_9 : decode jdk_42_method_3_code 9 = .ok (.return_, 1) := by decide +kernel
theorem ef_rm_siY (m : MethodId) (a0 : Addr) (a1 : Addr) : entryFrame m #[(.ref a0), (.ref a1)] 2 = mkF m 0 #[.val (.ref a0), .val (.ref a1)] [] := by first | (simp [entryFrame, mkF, argsToLocals, Value.category]; done) | rfl
def Q_rm_siY (Z : State) (a0 : Addr) (a1 : Addr) (k_a1 : ClassId) (z0 : Int32) (f0 : Nat → Int32) (w_COMPACT_STRINGS : Int32) (u_coder_a0 : Value) (u_value_a0 : Value) (h0 : Heap) (n0 : Nat) (v : Option Value) (h : Heap) (L : List Loc) : Prop := ∃ c2_0 : Addr, ∃ kc2_1 : ClassId, v = none ∧ Fr n0 L ∧ Keep h0 h [a0] ∧ h0.size ≤ c2_0 ∧ Arv Z h c2_0 kc2_1 .byte z0 (own_ml z0 (own_fl f0 z0)) (.int 0) ∧ Fld Z h a0 "java/lang/String" "coder" "B" (.int 0) ∧ Fld Z h a0 "java/lang/String" "value" "[B" (.ref c2_0)
set_option maxRecDepth 65536 in
set_option maxHeartbeats 40000000 in
theorem rm_siY (l : Launch) (Z : State) (av0 : Array Value) (hw : ∀ d ∈ tables_1, d.before av0 Z = true) (ws : List Jvm.Cond) (a0 : Addr) (a1 : Addr) (k_a1 : ClassId) (z0 : Int32) (f0 : Nat → Int32) (w_COMPACT_STRINGS : Int32) (u_coder_a0 : Value) (u_value_a0 : Value) (h0 : Heap) (n0 : Nat) (Z0 : n0 ≤ h0.size) (Ol0 : Old Z n0 h0) (V_a1 : Arv Z h0 a1 k_a1 .char z0 (own_ml z0 f0) (.int 0)) (hz0 : ¬ (z0 < (0 : Int32))) (hz6 : ¬ ((6 : Int32) < z0)) (hc0 : ¬ (z0 = (0 : Int32))) (S_COMPACT_STRINGS : Sta Z Z.heap "java/lang/String" "COMPACT_STRINGS" "Z" (.int w_COMPACT_STRINGS)) (hc1 : ¬ (w_COMPACT_STRINGS = (0 : Int32))) (hc2 : (own_c5 f0 z0) = z0) (X_a0 : Exa Z h0 a0 "java/lang/String") (F_coder_a0 : Fld Z h0 a0 "java/lang/String" "coder" "B" u_coder_a0) (g_a0 : n0 ≤ a0) (F_value_a0 : Fld Z h0 a0 "java/lang/String" "value" "[B" u_value_a0) :
    MetFree l yM23 (head1 (Jvm.Cond.code yM23 jdk_42_method_3_code 2 none :: ws) ({ frames := 3, cells := 1, slots := 6, locals := 52 } : Room)) (fun a U => a = #[(.ref a0), (.ref a1)] ∧ Z.Warmed39 U.vm ∧ U.heap = h0) (fun _ _ _ _ _ => True) (fun _ U o U' => ∃ v L, o = .returned v ∧ Q_rm_siY Z a0 a1 k_a1 z0 f0 w_COMPACT_STRINGS u_coder_a0 u_value_a0 h0 n0 v U'.heap L ∧ FrameEnd U o U' L ({ frames := 3, cells := 1, slots := 6, locals := 52 } : Room).cells ({ frames := 3, cells := 1, slots := 6, locals := 52 } : Room).slots) := by
  refine MetFree.of_bodySF (plainFor_of_name pn_2) hisR ?_
  intro p e s m args below meth c s₁ Bd hml0 hP hK
  obtain ⟨rfl, hZ, hh⟩ := hP
  have hx := Bd.exec
  have hby := Bd.bytes
  have hml : c.maxLocals = 2 := hml0
  have hown : s.vm.findClass "java/lang/String" = some m.cls := findClass_of_methodNamed Bd.named
  have hnm := (name_of_methodNamed Bd.named Bd.method).1
  have X0 : Stand p l e ({ frames := 3, cells := 1, slots := 6, locals := 52 } : Room) s m #[(.ref a0), (.ref a1)] below meth c s₁ [] 0 0 := Stand.of_body Bd
  have e0 : s₁.heap = h0 := by rw [← hh, Bd.state]; rfl
  have N0 := Fr.nil n0
  have pre0 : ∀ t, Steps p.tables e below (s₁.setTop (mkF m 0 #[.val (.ref a0), .val (.ref a1)] [])) t → Steps p.tables e below (s₁.setTop (entryFrame m #[(.ref a0), (.ref a1)] 2)) t := fun t k => castTop (ef_rm_siY m a0 a1) k
  change OwnFin p.tables e below _ (s₁.setTop (entryFrame m #[(.ref a0), (.ref a1)] 2))
  have kp0 : Keep h0 h0 [a0] := Keep.refl _ _
  refine OwnFin.st (fun _ q => pre0 _ q) ?_
  show OwnFin _ _ _ _ (s₁.setTop (mkF m 0 #[.val (.ref a0), .val (.ref a1)] []))
  refine OwnFin.st (fun _ q => XS.aloadN X0.here hx rfl (hb hby d6_0) rfl rfl q) ?_
  show OwnFin _ _ _ _ (s₁.setTop (mkF m 1 _ [(.ref a0)]))
  refine OwnFin.st (fun _ q => XS.aloadN X0.here hx rfl (hb hby d6_1) rfl rfl q) ?_
  show OwnFin _ _ _ _ (s₁.setTop (mkF m 2 _ [(.ref a1), (.ref a0)]))
  refine OwnFin.st (fun _ q => XS.iconst X0.here hx rfl (hb hby d6_2) q) ?_
  show OwnFin _ _ _ _ (s₁.setTop (mkF m 3 _ [(.int 0), (.ref a1), (.ref a0)]))
  refine OwnFin.st (fun _ q => XS.aloadN X0.here hx rfl (hb hby d6_3) rfl rfl q) ?_
  show OwnFin _ _ _ _ (s₁.setTop (mkF m 4 _ [(.ref a1), (.int 0), (.ref a1), (.ref a0)]))
  have Vo1 : Arv Z h0 a1 k_a1 .char z0 (own_ml z0 f0) (.int 0) := V_a1
  obtain ⟨cl1, Ar1, qa1, Sa1, Na1, Ha1, Ga1⟩ := id Vo1
  refine OwnFin.st (X0.arraylength hx (by rw [e0]; exact Ar1.1) (State.isArrayOf_alike (hZ).alike Ar1.2.1) (g := (mkF m 4 #[.val (.ref a0), .val (.ref a1)] [(.ref a1), (.int 0), (.ref a1), (.ref a0)])) rfl rfl (hb hby d6_4)) ?_
  rw [len_of Sa1 Na1]
  show OwnFin _ _ _ _ (s₁.setTop (mkF m 5 _ [(.int z0), (.int 0), (.ref a1), (.ref a0)]))
  refine OwnFin.st (fun _ q => XS.aconstNull X0.here hx rfl (hb hby d6_5) q) ?_
  show OwnFin _ _ _ _ (s₁.setTop (mkF m 6 _ [.null, (.int z0), (.int 0), (.ref a1), (.ref a0)]))
  show OwnFin _ _ _ _ (s₁.setTop (mkF m 6 _ [.null, (.int z0), (.int 0), (.ref a1), (.ref a0)]))
  show OwnFin _ _ _ _ (s₁.setTop (mkF m 6 _ [.null, (.int z0), (.int 0), (.ref a1), (.ref a0)]))
  show OwnFin _ _ _ _ (s₁.setTop (mkF m 6 _ [.null, (.int z0), (.int 0), (.ref a1), (.ref a0)]))
  obtain ⟨_, _, ⟨T2, L2, k2, n2⟩, -, X2, ⟨Lc2, hQ2, l2, y2, z2⟩, st2⟩ := X0.specialBack hx (y := yM22) rfl hown (mvT hZ (w_ hw 26 rfl)) (mvT hZ (w_ hw 27 rfl)) (mvT hZ (w_ hw 29 rfl)) (by decide) (backOf (W := 0) (rm_svY l Z av0 hw [] a0 a1 z0 k_a1 f0 w_COMPACT_STRINGS u_coder_a0 u_value_a0 h0 n0 (Nat.le_trans Z0 kp0.1) Ol0 V_a1 hz0 hz6 hc0 S_COMPACT_STRINGS hc1 hc2 X_a0 F_coder_a0 g_a0 F_value_a0) hZ (w_ hw 29 rfl) (w_ hw 22 rfl) (by decide) (by decide)) (g := (mkF m 6 #[.val (.ref a0), .val (.ref a1)] [.null, (.int z0), (.int 0), (.ref a1), (.ref a0)])) rfl (by rw [hml]; rfl) (Steps.refl _) (a := a0) (argsL := [(.ref a1), (.int 0), (.int z0), .null]) (rest := []) (lenOf pd_17 rfl) rfl (by show 2 * 0 + _ ≤ _; exact Nat.le_of_eq rfl) (hb hby d6_6) (fun _ _ => ⟨rfl, e0, (by decide : 0 + 1 ≤ _), (by decide : 0 + 6 ≤ _)⟩)
  dsimp only [Pt.U, Pt.locs, Pt.cells, Pt.slots] at X2 l2 y2 z2 st2 hQ2
  subst l2 y2 z2
  obtain ⟨c2_0, kc2_1, rfl, N2q, K2, r2_0, r2_1, r2_2, r2_3⟩ := hQ2
  have N2 := Fr.app N0 N2q
  refine OwnFin.tr st2 ?_
  obtain ⟨h2, e2⟩ : ∃ z, T2.heap = z := ⟨_, rfl⟩
  rw [e2] at K2 r2_1 r2_2 r2_3
  have bi_c2_0 : h0.size ≤ c2_0 := r2_0
  have lo_c2_0 : h0.size ≤ c2_0 := Nat.le_trans kp0.1 bi_c2_0
  have g_c2_0 : n0 ≤ c2_0 := Nat.le_trans Z0 lo_c2_0
  have kp3 : Keep h0 h2 [a0] := kp0.trans K2 (allS (Or.inl (List.mem_of_getElem? (i := 0) rfl)) all0)
  have ol3 : Old Z n0 h2 := Ol0.keep K2 (allS g_a0 all0)
  show OwnFin _ _ _ _ (T2.setTop (mkF m 9 _ []))
  obtain ⟨fs, hr, hrun, hended, hW, hsame⟩ := X2.leave (v := none) (fun _ => rfl)
  refine ⟨_, _, X2.returnOut hx Bd.returns (hb hby d6_9) hr, hrun, hended, _, _, rfl, ?_, ⟨_, rfl⟩, hW, hsame.mono (by decide) (by decide)⟩
  show Q_rm_siY Z a0 a1 k_a1 z0 f0 w_COMPACT_STRINGS u_coder_a0 u_value_a0 h0 n0 _ T2.heap _
  rw [e2]
  exact ⟨c2_0, kc2_1, rfl, N2, kp3, lo_c2_0, r2_1, r2_2, r2_3⟩
theorem ef_rm_svN (m : MethodId) (a0 : Addr) (a1 : Addr) (z0 : Int32) : entryFrame m #[(.ref a0), (.ref a1), (.int 0), (.int z0), .null] 6 = mkF m 0 #[.val (.ref a0), .val (.ref a1), .val (.int 0), .val (.int z0), .val .null, .unset] [] := by first | (simp [entryFrame, mkF, argsToLocals, Value.category]; done) | rfl
def Q_rm_svN (Z : State) (a0 : Addr) (a1 : Addr) (z0 : Int32) (k_a1 : ClassId) (f0 : Nat → Int32) (w_COMPACT_STRINGS : Int32) (u_coder_a0 : Value) (u_value_a0 : Value) (h0 : Heap) (n0 : Nat) (v : Option Value) (h : Heap) (L : List Loc) : Prop := ∃ c3_0 : Addr, ∃ kc3_1 : ClassId, v = none ∧ Fr n0 L ∧ Keep h0 h [a0] ∧ h0.size ≤ c3_0 ∧ Arv Z h c3_0 kc3_1 .byte (z0 <<< ((1 : Int32) &&& 31)) (own_ml (z0 <<< ((1 : Int32) &&& 31)) (own_uf f0 z0)) (.int 0) ∧ Fld Z h a0 "java/lang/String" "coder" "B" (.int 1) ∧ Fld Z h a0 "java/lang/String" "value" "[B" (.ref c3_0)
set_option maxRecDepth 65536 in
set_option maxHeartbeats 40000000 in
theorem rm_svN (l : Launch) (Z : State) (av0 : Array Value) (hw : ∀ d ∈ tables_1, d.before av0 Z = true) (ws : List Jvm.Cond) (a0 : Addr) (a1 : Addr) (z0 : Int32) (k_a1 : ClassId) (f0 : Nat → Int32) (w_COMPACT_STRINGS : Int32) (u_coder_a0 : Value) (u_value_a0 : Value) (h0 : Heap) (n0 : Nat) (Z0 : n0 ≤ h0.size) (Ol0 : Old Z n0 h0) (V_a1 : Arv Z h0 a1 k_a1 .char z0 (own_ml z0 f0) (.int 0)) (hz0 : ¬ (z0 < (0 : Int32))) (hz6 : ¬ ((6 : Int32) < z0)) (hch : ∀ j, nar .char (f0 j) = f0 j) (hkz : ¬ (z0 = (0 : Int32))) (S_COMPACT_STRINGS : Sta Z Z.heap "java/lang/String" "COMPACT_STRINGS" "Z" (.int w_COMPACT_STRINGS)) (hc0 : ¬ (w_COMPACT_STRINGS = (0 : Int32))) (hc1 : ¬ ((own_c5 f0 z0) = z0)) (S__assertionsDisabled : Sta Z Z.heap "java/lang/StringUTF16" "$assertionsDisabled" "Z" (.int 1)) (S_HI_BYTE_SHIFT : Sta Z Z.heap "java/lang/StringUTF16" "HI_BYTE_SHIFT" "I" (.int 0)) (S_LO_BYTE_SHIFT : Sta Z Z.heap "java/lang/StringUTF16" "LO_BYTE_SHIFT" "I" (.int 8)) (X_a0 : Exa Z h0 a0 "java/lang/String") (F_coder_a0 : Fld Z h0 a0 "java/lang/String" "coder" "B" u_coder_a0) (g_a0 : n0 ≤ a0) (F_value_a0 : Fld Z h0 a0 "java/lang/String" "value" "[B" u_value_a0) :
    MetFree l yM22 (head1 (Jvm.Cond.code yM22 jdk_42_method_149_code 6 none :: ws) ({ frames := 4, cells := 2, slots := 18, locals := 57 } : Room)) (fun a U => a = #[(.ref a0), (.ref a1), (.int 0), (.int z0), .null] ∧ Z.Warmed39 U.vm ∧ U.heap = h0) (fun _ _ _ _ _ => True) (fun _ U o U' => ∃ v L, o = .returned v ∧ Q_rm_svN Z a0 a1 z0 k_a1 f0 w_COMPACT_STRINGS u_coder_a0 u_value_a0 h0 n0 v U'.heap L ∧ FrameEnd U o U' L ({ frames := 4, cells := 2, slots := 18, locals := 57 } : Room).cells ({ frames := 4, cells := 2, slots := 18, locals := 57 } : Room).slots) := by
  refine MetFree.of_bodySF (plainFor_of_name pn_2) hisR ?_
  intro p e s m args below meth c s₁ Bd hml0 hP hK
  obtain ⟨rfl, hZ, hh⟩ := hP
  have hx := Bd.exec
  have hby := Bd.bytes
  have hml : c.maxLocals = 6 := hml0
  have hown : s.vm.findClass "java/lang/String" = some m.cls := findClass_of_methodNamed Bd.named
  have hnm := (name_of_methodNamed Bd.named Bd.method).1
  have X0 : Stand p l e ({ frames := 4, cells := 2, slots := 18, locals := 57 } : Room) s m #[(.ref a0), (.ref a1), (.int 0), (.int z0), .null] below meth c s₁ [] 0 0 := Stand.of_body Bd
  have e0 : s₁.heap = h0 := by rw [← hh, Bd.state]; rfl
  have N0 := Fr.nil n0
  have pre0 : ∀ t, Steps p.tables e below (s₁.setTop (mkF m 0 #[.val (.ref a0), .val (.ref a1), .val (.int 0), .val (.int z0), .val .null, .unset] [])) t → Steps p.tables e below (s₁.setTop (entryFrame m #[(.ref a0), (.ref a1), (.int 0), (.int z0), .null] 6)) t := fun t k => castTop (ef_rm_svN m a0 a1 z0) k
  change OwnFin p.tables e below _ (s₁.setTop (entryFrame m #[(.ref a0), (.ref a1), (.int 0), (.int z0), .null] 6))
  have kp0 : Keep h0 h0 [a0] := Keep.refl _ _
  refine OwnFin.st (fun _ q => pre0 _ q) ?_
  show OwnFin _ _ _ _ (s₁.setTop (mkF m 0 #[.val (.ref a0), .val (.ref a1), .val (.int 0), .val (.int z0), .val .null, .unset] []))
  refine OwnFin.st (fun _ q => XS.aloadN X0.here hx rfl (hb hby d7_0) rfl rfl q) ?_
  show OwnFin _ _ _ _ (s₁.setTop (mkF m 1 _ [(.ref a0)]))
  obtain ⟨T1, X1, e1, st1⟩ := initO X0 hx hZ hown (w_ hw 30 rfl) (w_ hw 31 rfl) (w_ hw 32 rfl) e0 (g := (mkF m 1 #[.val (.ref a0), .val (.ref a1), .val (.int 0), .val (.int z0), .val .null, .unset] [(.ref a0)])) rfl (by rw [hml]; rfl) rfl (hb hby d7_1) (by decide) (W := 0) (by show 2 * 0 + _ ≤ _; exact Nat.le_of_eq rfl) (by decide)
  refine OwnFin.st st1 ?_
  show OwnFin _ _ _ _ (T1.setTop (mkF m 4 _ []))
  refine OwnFin.st (fun _ q => XS.iloadN X1.here hx rfl (hb hby d7_4) rfl q) ?_
  show OwnFin _ _ _ _ (T1.setTop (mkF m 5 _ [(.int z0)]))
  refine OwnFin.st (fun _ q => XS.ifYes X1.here hx rfl (pc0 := 5) (pc' := 27) rfl (hb hby d7_5) rfl (Jvm.Free.XT.i0_ne_t hkz) (by decide) (by decide) q) ?_
  show OwnFin _ _ _ _ (T1.setTop (mkF m 27 _ []))
  obtain ⟨T2, X2, e2, st2⟩ := getS2 X1 hx hZ hown (host := "") (Or.inl (w_ hw 55 rfl)) Via.refl e1 (S_COMPACT_STRINGS.ext Ol0.2) (g := (mkF m 27 #[.val (.ref a0), .val (.ref a1), .val (.int 0), .val (.int z0), .val .null, .unset] [])) rfl (hb hby d7_27)
  refine OwnFin.st st2 ?_
  show OwnFin _ _ _ _ (T2.setTop (mkF m 30 _ [(.int w_COMPACT_STRINGS)]))
  refine OwnFin.st (fun _ q => XS.ifNo X2.here hx rfl (hb hby d7_30) rfl (Jvm.Free.XT.i0_eq_f hc0) q) ?_
  show OwnFin _ _ _ _ (T2.setTop (mkF m 33 _ []))
  refine OwnFin.st (fun _ q => XS.aloadN X2.here hx rfl (hb hby d7_33) rfl rfl q) ?_
  show OwnFin _ _ _ _ (T2.setTop (mkF m 34 _ [(.ref a1)]))
  refine OwnFin.st (fun _ q => XS.iloadN X2.here hx rfl (hb hby d7_34) rfl q) ?_
  show OwnFin _ _ _ _ (T2.setTop (mkF m 35 _ [(.int 0), (.ref a1)]))
  refine OwnFin.st (fun _ q => XS.iloadN X2.here hx rfl (hb hby d7_35) rfl q) ?_
  show OwnFin _ _ _ _ (T2.setTop (mkF m 36 _ [(.int z0), (.int 0), (.ref a1)]))
  show OwnFin _ _ _ _ (T2.setTop (mkF m 36 _ [(.int z0), (.int 0), (.ref a1)]))
  obtain ⟨_, _, ⟨T3, L3, k3, n3⟩, -, X3, ⟨Lc3, hQ3, l3, y3, z3⟩, st3⟩ := Jvm.LawKit.callS X2 hx (y := yM21) hown (mvT hZ (w_ hw 68 rfl)) (mvT hZ (w_ hw 69 rfl)) (mvT hZ (w_ hw 70 rfl)) (mvT hZ (w_ hw 71 rfl)) (by decide) (backOf (W := 0) (rm_c3N l Z av0 hw [] a1 z0 k_a1 f0 h0 n0 (Nat.le_trans Z0 kp0.1) Ol0 V_a1 hz0 hz6 hch hc1 S__assertionsDisabled S_HI_BYTE_SHIFT S_LO_BYTE_SHIFT) hZ (w_ hw 71 rfl) (w_ hw 70 rfl) (by decide) (by decide)) (g := (mkF m 36 #[.val (.ref a0), .val (.ref a1), .val (.int 0), .val (.int z0), .val .null, .unset] [(.int z0), (.int 0), (.ref a1)])) rfl (by rw [hml]; rfl) (argsL := [(.ref a1), (.int 0), (.int z0)]) (rest := []) (lenOf pd_15 rfl) rfl (by show 2 * 0 + _ ≤ _; exact Nat.le_of_eq rfl) (hb hby d7_36) (fun _ _ => ⟨rfl, e2, (by decide : 0 + 2 ≤ _), (by decide : 0 + 18 ≤ _)⟩)
  dsimp only [Pt.U, Pt.locs, Pt.cells, Pt.slots] at X3 l3 y3 z3 st3 hQ3
  subst l3 y3 z3
  obtain ⟨c3_0, kc3_1, rfl, N3q, K3, r3_0, r3_1⟩ := hQ3
  have N3 := Fr.app N0 N3q
  refine OwnFin.st st3 ?_
  obtain ⟨h3, e3⟩ : ∃ z, T3.heap = z := ⟨_, rfl⟩
  rw [e3] at K3 r3_1
  have bi_c3_0 : h0.size ≤ c3_0 := r3_0
  have lo_c3_0 : h0.size ≤ c3_0 := Nat.le_trans kp0.1 bi_c3_0
  have g_c3_0 : n0 ≤ c3_0 := Nat.le_trans Z0 lo_c3_0
  have kp4 : Keep h0 h3 [a0] := kp0.trans K3 all0
  have ol4 : Old Z n0 h3 := Ol0.keep K3 all0
  show OwnFin _ _ _ _ (T3.setTop (mkF m 39 _ [(.ref c3_0)]))
  refine OwnFin.st (fun _ q => XS.astore X3.here hx rfl (hb hby d7_39) rfl rfl (l' := #[.val (.ref a0), .val (.ref a1), .val (.int 0), .val (.int z0), .val .null, .val (.ref c3_0)]) rfl q) ?_
  show OwnFin _ _ _ _ (T3.setTop (mkF m 41 _ []))
  refine OwnFin.st (fun _ q => XS.aloadN X3.here hx rfl (hb hby d7_41) rfl rfl q) ?_
  show OwnFin _ _ _ _ (T3.setTop (mkF m 42 #[.val (.ref a0), .val (.ref a1), .val (.int 0), .val (.int z0), .val .null, .val (.ref c3_0)] [(.ref a0)]))
  refine OwnFin.st (fun _ q => XS.aload X3.here hx rfl (hb hby d7_42) rfl rfl q) ?_
  show OwnFin _ _ _ _ (T3.setTop (mkF m 44 _ [(.ref c3_0), (.ref a0)]))
  refine OwnFin.st (fun _ q => XS.iloadN X3.here hx rfl (hb hby d7_44) rfl q) ?_
  show OwnFin _ _ _ _ (T3.setTop (mkF m 45 _ [(.int z0), (.ref c3_0), (.ref a0)]))
  obtain ⟨_, _, ⟨T5, L5, k5, n5⟩, -, X5, ⟨Lc5, hQ5, l5, y5, z5⟩, st5⟩ := Jvm.LawKit.callS X3 hx (y := yM20) hown (mvT hZ (w_ hw 75 rfl)) (mvT hZ (w_ hw 76 rfl)) (mvT hZ (w_ hw 70 rfl)) (mvT hZ (w_ hw 77 rfl)) (by decide) (backOf (W := 1) (rm_cl1 l Z av0 hw [] c3_0 z0 kc3_1 (own_uf f0 z0) h3 n0 (Nat.le_trans Z0 kp4.1) r3_1 hz0 hz6 hkz) hZ (w_ hw 77 rfl) (w_ hw 70 rfl) (by decide) (by decide)) (g := (mkF m 45 #[.val (.ref a0), .val (.ref a1), .val (.int 0), .val (.int z0), .val .null, .val (.ref c3_0)] [(.int z0), (.ref c3_0), (.ref a0)])) rfl (by rw [hml]; rfl) (argsL := [(.ref c3_0), (.int z0)]) (rest := [(.ref a0)]) (lenOf pd_16 rfl) rfl (by show 2 * 0 + _ ≤ _; exact Nat.le_of_eq rfl) (hb hby d7_45) (fun _ _ => ⟨rfl, e3, (by decide : 2 + 0 ≤ _), (by decide : 18 + 0 ≤ _)⟩)
  dsimp only [Pt.U, Pt.locs, Pt.cells, Pt.slots] at X5 l5 y5 z5 st5 hQ5
  subst l5 y5 z5
  obtain ⟨rfl, N5q, he5⟩ := hQ5
  have N5 := Fr.app N3 N5q
  refine OwnFin.st st5 ?_
  show OwnFin _ _ _ _ (T5.setTop (mkF m 48 _ [(.int 1), (.ref a0)]))
  obtain ⟨T6, h6, X6, e6, W6, st6⟩ := putFN X5 hx hZ hown (w_ hw 40 rfl) Via.refl he5 (F_coder_a0.keep K3 nin0) (X_a0.keep K3) (Or.inr ⟨(w_ hw 36 rfl), rfl, hnm⟩) (w_ hw 21 rfl) (ty := .byte) (v' := (.int 1)) (by decide) rfl rfl (g := (mkF m 48 #[.val (.ref a0), .val (.ref a1), .val (.int 0), .val (.int z0), .val .null, .val (.ref c3_0)] [(.int 1), (.ref a0)])) rfl rfl (hb hby d7_48)
  refine OwnFin.st st6 ?_
  have Fw6 : Fld Z h6 a0 "java/lang/String" "coder" "B" (.int 1) := (F_coder_a0.keep K3 nin0).same W6
  have N6 := Fr.snoc X6 N5 g_a0
  have kp7 : Keep h0 h6 [a0] := kp4.wr W6 (Or.inl (List.mem_of_getElem? (i := 0) rfl))
  have ol7 : Old Z n0 h6 := ol4.wr W6 g_a0
  show OwnFin _ _ _ _ (T6.setTop (mkF m 51 _ []))
  refine OwnFin.st (fun _ q => XS.aloadN X6.here hx rfl (hb hby d7_51) rfl rfl q) ?_
  show OwnFin _ _ _ _ (T6.setTop (mkF m 52 _ [(.ref a0)]))
  refine OwnFin.st (fun _ q => XS.aload X6.here hx rfl (hb hby d7_52) rfl rfl q) ?_
  show OwnFin _ _ _ _ (T6.setTop (mkF m 54 _ [(.ref c3_0), (.ref a0)]))
  have fr8 : Fld Z h6 a0 "java/lang/String" "value" "[B" u_value_a0 := ((F_value_a0.keep K3 nin0).other W6 (Or.inr (slot_ne (Or.inr (w_ hw 35 rfl)) (Or.inr (w_ hw 36 rfl)) (by decide) (t := (.array .byte)) (t' := .byte) (by decide) (by decide))))
  obtain ⟨T9, h9, X9, e9, W9, st9⟩ := putF X6 hx hZ hown (host := "") (Or.inl (w_ hw 39 rfl)) Via.refl e6 fr8 ((X_a0.keep K3).wr W6) (Or.inr ⟨(w_ hw 35 rfl), rfl, hnm⟩) (w_ hw 21 rfl) (ty := (.array .byte)) (by decide) rfl rfl (g := (mkF m 54 #[.val (.ref a0), .val (.ref a1), .val (.int 0), .val (.int z0), .val .null, .val (.ref c3_0)] [(.ref c3_0), (.ref a0)])) rfl rfl (hb hby d7_54)
  refine OwnFin.st st9 ?_
  have Fw9 : Fld Z h9 a0 "java/lang/String" "value" "[B" (.ref c3_0) := ((F_value_a0.keep K3 nin0).other W6 (Or.inr (slot_ne (Or.inr (w_ hw 35 rfl)) (Or.inr (w_ hw 36 rfl)) (by decide) (t := (.array .byte)) (t' := .byte) (by decide) (by decide)))).same W9
  have N9 := Fr.snoc X9 N6 g_a0
  have kp10 : Keep h0 h9 [a0] := kp7.wr W9 (Or.inl (List.mem_of_getElem? (i := 0) rfl))
  have ol10 : Old Z n0 h9 := ol7.wr W9 g_a0
  show OwnFin _ _ _ _ (T9.setTop (mkF m 57 _ []))
  obtain ⟨fs, hr, hrun, hended, hW, hsame⟩ := X9.leave (v := none) (fun _ => rfl)
  refine ⟨_, _, X9.returnOut hx Bd.returns (hb hby d7_57) hr, hrun, hended, _, _, rfl, ?_, ⟨_, rfl⟩, hW, hsame.mono (by decide) (by decide)⟩
  show Q_rm_svN Z a0 a1 z0 k_a1 f0 w_COMPACT_STRINGS u_coder_a0 u_value_a0 h0 n0 _ T9.heap _
  rw [e9]
  have fr11 : Arv Z h9 c3_0 kc3_1 .byte (z0 <<< ((1 : Int32) &&& 31)) (own_ml (z0 <<< ((1 : Int32) &&& 31)) (own_uf f0 z0)) (.int 0) := ((r3_1.other W6 (Ne.symm (Nat.ne_of_lt (Nat.lt_of_lt_of_le X_a0.lt bi_c3_0)))).other W9 (Ne.symm (Nat.ne_of_lt (Nat.lt_of_lt_of_le X_a0.lt bi_c3_0))))
  have fr12 : Fld Z h9 a0 "java/lang/String" "coder" "B" (.int 1) := (Fw6.other W9 (Or.inr (slot_ne (Or.inr (w_ hw 36 rfl)) (Or.inr (w_ hw 35 rfl)) (by decide) (t := .byte) (t' := (.array .byte)) (by decide) (by decide))))
  exact ⟨c3_0, kc3_1, rfl, N9, kp10, lo_c3_0, fr11, fr12, Fw9⟩
theorem ef_rm_siN (m : MethodId) (a0 : Addr) (a1 : Addr) : entryFrame m #[(.ref a0), (.ref a1)] 2 = mkF m 0 #[.val (.ref a0), .val (.ref a1)] [] := by first | (simp [entryFrame, mkF, argsToLocals, Value.category]; done) | rfl
def Q_rm_siN (Z : State) (a0 : Addr) (a1 : Addr) (k_a1 : ClassId) (z0 : Int32) (f0 : Nat → Int32) (w_COMPACT_STRINGS : Int32) (u_coder_a0 : Value) (u_value_a0 : Value) (h0 : Heap) (n0 : Nat) (v : Option Value) (h : Heap) (L : List Loc) : Prop := ∃ c2_0 : Addr, ∃ kc2_1 : ClassId, v = none ∧ Fr n0 L ∧ Keep h0 h [a0] ∧ h0.size ≤ c2_0 ∧ Arv Z h c2_0 kc2_1 .byte (z0 <<< ((1 : Int32) &&& 31)) (own_ml (z0 <<< ((1 : Int32) &&& 31)) (own_uf f0 z0)) (.int 0) ∧ Fld Z h a0 "java/lang/String" "coder" "B" (.int 1) ∧ Fld Z h a0 "java/lang/String" "value" "[B" (.ref c2_0)
set_option maxRecDepth 65536 in
set_option maxHeartbeats 40000000 in
theorem rm_siN (l : Launch) (Z : State) (av0 : Array Value) (hw : ∀ d ∈ tables_1, d.before av0 Z = true) (ws : List Jvm.Cond) (a0 : Addr) (a1 : Addr) (k_a1 : ClassId) (z0 : Int32) (f0 : Nat → Int32) (w_COMPACT_STRINGS : Int32) (u_coder_a0 : Value) (u_value_a0 : Value) (h0 : Heap) (n0 : Nat) (Z0 : n0 ≤ h0.size) (Ol0 : Old Z n0 h0) (V_a1 : Arv Z h0 a1 k_a1 .char z0 (own_ml z0 f0) (.int 0)) (hz0 : ¬ (z0 < (0 : Int32))) (hz6 : ¬ ((6 : Int32) < z0)) (hch : ∀ j, nar .char (f0 j) = f0 j) (hkz : ¬ (z0 = (0 : Int32))) (S_COMPACT_STRINGS : Sta Z Z.heap "java/lang/String" "COMPACT_STRINGS" "Z" (.int w_COMPACT_STRINGS)) (hc0 : ¬ (w_COMPACT_STRINGS = (0 : Int32))) (hc1 : ¬ ((own_c5 f0 z0) = z0)) (S__assertionsDisabled : Sta Z Z.heap "java/lang/StringUTF16" "$assertionsDisabled" "Z" (.int 1)) (S_HI_BYTE_SHIFT : Sta Z Z.heap "java/lang/StringUTF16" "HI_BYTE_SHIFT" "I" (.int 0)) (S_LO_BYTE_SHIFT : Sta Z Z.heap "java/lang/StringUTF16" "LO_BYTE_SHIFT" "I" (.int 8)) (X_a0 : Exa Z h0 a0 "java/lang/String") (F_coder_a0 : Fld Z h0 a0 "java/lang/String" "coder" "B" u_coder_a0) (g_a0 : n0 ≤ a0) (F_value_a0 : Fld Z h0 a0 "java/lang/String" "value" "[B" u_value_a0) :
    MetFree l yM23 (head1 (Jvm.Cond.code yM23 jdk_42_method_3_code 2 none :: ws) ({ frames := 5, cells := 2, slots := 18, locals := 74 } : Room)) (fun a U => a = #[(.ref a0), (.ref a1)] ∧ Z.Warmed39 U.vm ∧ U.heap = h0) (fun _ _ _ _ _ => True) (fun _ U o U' => ∃ v L, o = .returned v ∧ Q_rm_siN Z a0 a1 k_a1 z0 f0 w_COMPACT_STRINGS u_coder_a0 u_value_a0 h0 n0 v U'.heap L ∧ FrameEnd U o U' L ({ frames := 5, cells := 2, slots := 18, locals := 74 } : Room).cells ({ frames := 5, cells := 2, slots := 18, locals := 74 } : Room).slots) := by
  refine MetFree.of_bodySF (plainFor_of_name pn_2) hisR ?_
  intro p e s m args below meth c s₁ Bd hml0 hP hK
  obtain ⟨rfl, hZ, hh⟩ := hP
  have hx := Bd.exec
  have hby := Bd.bytes
  have hml : c.maxLocals = 2 := hml0
  have hown : s.vm.findClass "java/lang/String" = some m.cls := findClass_of_methodNamed Bd.named
  have hnm := (name_of_methodNamed Bd.named Bd.method).1
  have X0 : Stand p l e ({ frames := 5, cells := 2, slots := 18, locals := 74 } : Room) s m #[(.ref a0), (.ref a1)] below meth c s₁ [] 0 0 := Stand.of_body Bd
  have e0 : s₁.heap = h0 := by rw [← hh, Bd.state]; rfl
  have N0 := Fr.nil n0
  have pre0 : ∀ t, Steps p.tables e below (s₁.setTop (mkF m 0 #[.val (.ref a0), .val (.ref a1)] [])) t → Steps p.tables e below (s₁.setTop (entryFrame m #[(.ref a0), (.ref a1)] 2)) t := fun t k => castTop (ef_rm_siN m a0 a1) k
  change OwnFin p.tables e below _ (s₁.setTop (entryFrame m #[(.ref a0), (.ref a1)] 2))
  have kp0 : Keep h0 h0 [a0] := Keep.refl _ _
  refine OwnFin.st (fun _ q => pre0 _ q) ?_
  show OwnFin _ _ _ _ (s₁.setTop (mkF m 0 #[.val (.ref a0), .val (.ref a1)] []))
  refine OwnFin.st (fun _ q => XS.aloadN X0.here hx rfl (hb hby d6_0) rfl rfl q) ?_
  show OwnFin _ _ _ _ (s₁.setTop (mkF m 1 _ [(.ref a0)]))
  refine OwnFin.st (fun _ q => XS.aloadN X0.here hx rfl (hb hby d6_1) rfl rfl q) ?_
  show OwnFin _ _ _ _ (s₁.setTop (mkF m 2 _ [(.ref a1), (.ref a0)]))
  refine OwnFin.st (fun _ q => XS.iconst X0.here hx rfl (hb hby d6_2) q) ?_
  show OwnFin _ _ _ _ (s₁.setTop (mkF m 3 _ [(.int 0), (.ref a1), (.ref a0)]))
  refine OwnFin.st (fun _ q => XS.aloadN X0.here hx rfl (hb hby d6_3) rfl rfl q) ?_
  show OwnFin _ _ _ _ (s₁.setTop (mkF m 4 _ [(.ref a1), (.int 0), (.ref a1), (.ref a0)]))
  have Vo1 : Arv Z h0 a1 k_a1 .char z0 (own_ml z0 f0) (.int 0) := V_a1
  obtain ⟨cl1, Ar1, qa1, Sa1, Na1, Ha1, Ga1⟩ := id Vo1
  refine OwnFin.st (X0.arraylength hx (by rw [e0]; exact Ar1.1) (State.isArrayOf_alike (hZ).alike Ar1.2.1) (g := (mkF m 4 #[.val (.ref a0), .val (.ref a1)] [(.ref a1), (.int 0), (.ref a1), (.ref a0)])) rfl rfl (hb hby d6_4)) ?_
  rw [len_of Sa1 Na1]
  show OwnFin _ _ _ _ (s₁.setTop (mkF m 5 _ [(.int z0), (.int 0), (.ref a1), (.ref a0)]))
  refine OwnFin.st (fun _ q => XS.aconstNull X0.here hx rfl (hb hby d6_5) q) ?_
  show OwnFin _ _ _ _ (s₁.setTop (mkF m 6 _ [.null, (.int z0), (.int 0), (.ref a1), (.ref a0)]))
  show OwnFin _ _ _ _ (s₁.setTop (mkF m 6 _ [.null, (.int z0), (.int 0), (.ref a1), (.ref a0)]))
  show OwnFin _ _ _ _ (s₁.setTop (mkF m 6 _ [.null, (.int z0), (.int 0), (.ref a1), (.ref a0)]))
  obtain ⟨_, _, ⟨T2, L2, k2, n2⟩, -, X2, ⟨Lc2, hQ2, l2, y2, z2⟩, st2⟩ := X0.specialBack hx (y := yM22) rfl hown (mvT hZ (w_ hw 26 rfl)) (mvT hZ (w_ hw 27 rfl)) (mvT hZ (w_ hw 29 rfl)) (by decide) (backOf (W := 0) (rm_svN l Z av0 hw [] a0 a1 z0 k_a1 f0 w_COMPACT_STRINGS u_coder_a0 u_value_a0 h0 n0 (Nat.le_trans Z0 kp0.1) Ol0 V_a1 hz0 hz6 hch hkz S_COMPACT_STRINGS hc0 hc1 S__assertionsDisabled S_HI_BYTE_SHIFT S_LO_BYTE_SHIFT X_a0 F_coder_a0 g_a0 F_value_a0) hZ (w_ hw 29 rfl) (w_ hw 22 rfl) (by decide) (by decide)) (g := (mkF m 6 #[.val (.ref a0), .val (.ref a1)] [.null, (.int z0), (.int 0), (.ref a1), (.ref a0)])) rfl (by rw [hml]; rfl) (Steps.refl _) (a := a0) (argsL := [(.ref a1), (.int 0), (.int z0), .null]) (rest := []) (lenOf pd_17 rfl) rfl (by show 2 * 0 + _ ≤ _; exact Nat.le_of_eq rfl) (hb hby d6_6) (fun _ _ => ⟨rfl, e0, (by decide : 0 + 2 ≤ _), (by decide : 0 + 18 ≤ _)⟩)
  dsimp only [Pt.U, Pt.locs, Pt.cells, Pt.slots] at X2 l2 y2 z2 st2 hQ2
  subst l2 y2 z2
  obtain ⟨c2_0, kc2_1, rfl, N2q, K2, r2_0, r2_1, r2_2, r2_3⟩ := hQ2
  have N2 := Fr.app N0 N2q
  refine OwnFin.tr st2 ?_
  obtain ⟨h2, e2⟩ : ∃ z, T2.heap = z := ⟨_, rfl⟩
  rw [e2] at K2 r2_1 r2_2 r2_3
  have bi_c2_0 : h0.size ≤ c2_0 := r2_0
  have lo_c2_0 : h0.size ≤ c2_0 := Nat.le_trans kp0.1 bi_c2_0
  have g_c2_0 : n0 ≤ c2_0 := Nat.le_trans Z0 lo_c2_0
  have kp3 : Keep h0 h2 [a0] := kp0.trans K2 (allS (Or.inl (List.mem_of_getElem? (i := 0) rfl)) all0)
  have ol3 : Old Z n0 h2 := Ol0.keep K2 (allS g_a0 all0)
  show OwnFin _ _ _ _ (T2.setTop (mkF m 9 _ []))
  obtain ⟨fs, hr, hrun, hended, hW, hsame⟩ := X2.leave (v := none) (fun _ => rfl)
  refine ⟨_, _, X2.returnOut hx Bd.returns (hb hby d6_9) hr, hrun, hended, _, _, rfl, ?_, ⟨_, rfl⟩, hW, hsame.mono (by decide) (by decide)⟩
  show Q_rm_siN Z a0 a1 k_a1 z0 f0 w_COMPACT_STRINGS u_coder_a0 u_value_a0 h0 n0 _ T2.heap _
  rw [e2]
  exact ⟨c2_0, kc2_1, rfl, N2, kp3, lo_c2_0, r2_1, r2_2, r2_3⟩
theorem d7_8 : decode jdk_42_method_149_code 8 = .ok (.aload_n 0, 1) := by decide +kernel
theorem d7_9 : decode jdk_42_method_149_code 9 = .ok (.ldc 7, 2) := by decide +kernel
theorem d7_11 : decode jdk_42_method_149_code 11 = .ok (.getfield 9, 3) := by decide +kernel
theorem d7_14 : decode jdk_42_method_149_code 14 = .ok (.putfield 9, 3) := by decide +kernel
theorem d7_17 : decode jdk_42_method_149_code 17 = .ok (.aload_n 0, 1) := by decide +kernel
theorem d7_18 : decode jdk_42_method_149_code 18 = .ok (.ldc 7, 2) := by decide +kernel
theorem d7_20 : decode jdk_42_method_149_code 20 = .ok (.getfield 15, 3) := by decide +kernel
theorem d7_23 : decode jdk_42_method_149_code 23 = .ok (.putfield 15, 3) := by decide +kernel
theorem d7_26 : decode jdk_42_method_149_code 26 = .ok (.return_, 1) := by decide +kernel
theorem ef_rm_sv0 (m : MethodId) (a0 : Addr) (a1 : Addr) (z0 : Int32) : entryFrame m #[(.ref a0), (.ref a1), (.int 0), (.int z0), .null] 6 = mkF m 0 #[.val (.ref a0), .val (.ref a1), .val (.int 0), .val (.int z0), .val .null, .unset] [] := by first | (simp [entryFrame, mkF, argsToLocals, Value.category]; done) | rfl
def Q_rm_sv0 (Z : State) (a0 : Addr) (a1 : Addr) (z0 : Int32) (k_a1 : ClassId) (f0 : Nat → Int32) (h0 : Heap) (n0 : Nat) (v : Option Value) (h : Heap) (L : List Loc) : Prop := ∃ (bE : Addr) (kE : ClassId), v = none ∧ Fr n0 L ∧ Keep h0 h [a0] ∧ Fld Z h a0 "java/lang/String" "coder" "B" (.int 0) ∧ Fld Z h a0 "java/lang/String" "value" "[B" (.ref bE) ∧ Arv Z h bE kE .byte (0 : Int32) [] (.int 0)
set_option maxRecDepth 65536 in
set_option maxHeartbeats 40000000 in
theorem rm_sv0 (l : Launch) (Z : State) (av0 : Array Value) (hw : ∀ d ∈ tables_1, d.before av0 Z = true) (ws : List Jvm.Cond) (a0 : Addr) (a1 : Addr) (z0 : Int32) (k_a1 : ClassId) (f0 : Nat → Int32) (h0 : Heap) (n0 : Nat) (Z0 : n0 ≤ h0.size) (X_a0 : Exa Z h0 a0 "java/lang/String") (F_value_a0 : Fld Z h0 a0 "java/lang/String" "value" "[B" .null) (F_coder_a0 : Fld Z h0 a0 "java/lang/String" "coder" "B" (.int 0)) (V_a1 : Arv Z h0 a1 k_a1 .char z0 (own_ml z0 f0) (.int 0)) (hc0 : z0 = (0 : Int32)) (g_a0 : n0 ≤ a0) :
    MetFree l yM22 (head1 (Jvm.Cond.code yM22 jdk_42_method_149_code 6 none :: ws) ({ frames := 1, cells := 4, slots := 8, locals := 12 } : Room)) (fun a U => a = #[(.ref a0), (.ref a1), (.int 0), (.int z0), .null] ∧ Z.Warmed39 U.vm ∧ U.heap = h0 ∧ CHv Z own_EL U.vm h0) (fun _ _ _ _ _ => True) (fun _ U o U' => ∃ v L, o = .returned v ∧ Q_rm_sv0 Z a0 a1 z0 k_a1 f0 h0 n0 v U'.heap L ∧ CHr Z own_EL U.vm U.heap U'.vm U'.heap ∧ ReturnedEndW U o U' L ({ frames := 1, cells := 4, slots := 8, locals := 12 } : Room).cells ({ frames := 1, cells := 4, slots := 8, locals := 12 } : Room).slots) := by
  refine MetFree.of_bodySF (plainFor_of_name pn_2) hisR ?_
  intro p e s m args below meth c s₁ Bd hml0 hP hK
  obtain ⟨rfl, hZ, hh, hCH⟩ := hP
  have hx := Bd.exec
  have hby := Bd.bytes
  have hml : c.maxLocals = 6 := hml0
  have hown : (s.setVm s.vm).vm.findClass "java/lang/String" = some m.cls := findClass_of_methodNamed Bd.named
  have hnm := (name_of_methodNamed Bd.named Bd.method).1
  have X0 : Stand p l e ({ frames := 1, cells := 4, slots := 8, locals := 12 } : Room) (s.setVm s.vm) m #[(.ref a0), (.ref a1), (.int 0), (.int z0), .null] below meth c s₁ [] 0 0 := Stand.of_body Bd
  have e0 : s₁.heap = h0 := by rw [← hh, Bd.state]; rfl
  have N0 := Fr.nil n0
  have hZ : Z.Warmed39 (s.setVm s.vm).vm := hZ
  have hS0 : s.Since s.vm s.heap.size := (State.WarmedH.refl s).since _
  have hk0 : s.heap.size ≤ h0.size := Nat.le_of_eq (by rw [hh])
  have ch0 : CHr Z own_EL s.vm h0 s.vm h0 := CHr.refl hCH
  have pre0 : ∀ t, Steps p.tables e below (s₁.setTop (mkF m 0 #[.val (.ref a0), .val (.ref a1), .val (.int 0), .val (.int z0), .val .null, .unset] [])) t → Steps p.tables e below (s₁.setTop (entryFrame m #[(.ref a0), (.ref a1), (.int 0), (.int z0), .null] 6)) t := fun t k => castTop (ef_rm_sv0 m a0 a1 z0) k
  change OwnFin p.tables e below _ (s₁.setTop (entryFrame m #[(.ref a0), (.ref a1), (.int 0), (.int z0), .null] 6))
  have kp0 : Keep h0 h0 [a0] := Keep.refl _ _
  refine OwnFin.st (fun _ q => pre0 _ q) ?_
  show OwnFin _ _ _ _ (s₁.setTop (mkF m 0 #[.val (.ref a0), .val (.ref a1), .val (.int 0), .val (.int z0), .val .null, .unset] []))
  refine OwnFin.st (fun _ q => XS.aloadN X0.here hx rfl (hb hby d7_0) rfl rfl q) ?_
  show OwnFin _ _ _ _ (s₁.setTop (mkF m 1 _ [(.ref a0)]))
  obtain ⟨T1, X1, e1, st1⟩ := initO X0 hx hZ hown (w_ hw 30 rfl) (w_ hw 31 rfl) (w_ hw 32 rfl) e0 (g := (mkF m 1 #[.val (.ref a0), .val (.ref a1), .val (.int 0), .val (.int z0), .val .null, .unset] [(.ref a0)])) rfl (by rw [hml]; rfl) rfl (hb hby d7_1) (by decide) (W := 0) (by show 2 * 0 + _ ≤ _; exact Nat.le_of_eq rfl) (by decide)
  refine OwnFin.st st1 ?_
  show OwnFin _ _ _ _ (T1.setTop (mkF m 4 _ []))
  refine OwnFin.st (fun _ q => XS.iloadN X1.here hx rfl (hb hby d7_4) rfl q) ?_
  show OwnFin _ _ _ _ (T1.setTop (mkF m 5 _ [(.int z0)]))
  refine OwnFin.st (fun _ q => XS.ifNo X1.here hx rfl (hb hby d7_5) rfl (Jvm.Free.XT.i0_ne_f hc0) q) ?_
  show OwnFin _ _ _ _ (T1.setTop (mkF m 8 _ []))
  refine OwnFin.st (fun _ q => XS.aloadN X1.here hx rfl (hb hby d7_8) rfl rfl q) ?_
  show OwnFin _ _ _ _ (T1.setTop (mkF m 9 _ [(.ref a0)]))
  obtain ⟨al2, T2, h2, k2, bl2, kl2, X2, e2, E2, hS2, hk2, hZ2, hown2, XA2, FC2, FV2, VB2, la2, lb2, hC2, hL2, hne2, st2⟩ := ldcCH (s := s) (vm0 := s.vm) X1 hx hZ hown (w_ hw 33 rfl) (own_wS hw) e1 hS0 (Nat.le_trans hk0 (Nat.le_refl _)) (own_EW hw) (by decide) ch0.1 (ht := ⟨by decide, rfl⟩) (vs := []) (z := (0 : Int32)) (by decide) rfl (g := (mkF m 9 #[.val (.ref a0), .val (.ref a1), .val (.int 0), .val (.int z0), .val .null, .unset] [(.ref a0)])) rfl (hb hby d7_9) (n := 0) (by decide) (by decide) (by decide) (by decide)
  refine OwnFin.st st2 ?_
  have ch3 := ch0.trans (hC2)
  have kp3 : Keep h0 h2 [a0] := kp0.ext E2
  have nl2_a0 := hne2 a0 (own_safe (hZ2).alike (X_a0.ext E2) (F_value_a0.ext E2))
  show OwnFin _ _ _ _ (T2.setTop (mkF m 11 _ [(.ref al2), (.ref a0)]))
  obtain ⟨T4, X4, e4, st4⟩ := getF X2 hx hZ2 hown2 (host := "") (Or.inl (w_ hw 39 rfl)) Via.refl e2 FV2 (g := (mkF m 11 #[.val (.ref a0), .val (.ref a1), .val (.int 0), .val (.int z0), .val .null, .unset] [(.ref al2), (.ref a0)])) rfl rfl (hb hby d7_11)
  refine OwnFin.st st4 ?_
  show OwnFin _ _ _ _ (T4.setTop (mkF m 14 _ [(.ref bl2), (.ref a0)]))
  obtain ⟨T5, h5, X5, e5, W5, st5⟩ := putF X4 hx hZ2 hown2 (host := "") (Or.inl (w_ hw 39 rfl)) Via.refl e4 (F_value_a0.ext E2) (X_a0.ext E2) (Or.inr ⟨(w_ hw 35 rfl), rfl, hnm⟩) (w_ hw 21 rfl) (ty := (.array .byte)) (by decide) rfl rfl (g := (mkF m 14 #[.val (.ref a0), .val (.ref a1), .val (.int 0), .val (.int z0), .val .null, .unset] [(.ref bl2), (.ref a0)])) rfl rfl (hb hby d7_14)
  refine OwnFin.st st5 ?_
  have Fw5 : Fld Z h5 a0 "java/lang/String" "value" "[B" (.ref bl2) := (F_value_a0.ext E2).same W5
  have N5 := Fr.snoc X5 N0 g_a0
  have sf6_a0 := Safe.wr W5 (own_safe (hZ2).alike (X_a0.ext E2) (F_value_a0.ext E2)) ch3.1 (own_safe (hZ2).alike (X_a0.ext E2) (F_value_a0.ext E2))
  have ch6 := ch3.trans (CHr.wr W5 (own_safe (hZ2).alike (X_a0.ext E2) (F_value_a0.ext E2)) ch3.1)
  have kp6 : Keep h0 h5 [a0] := kp3.wr W5 (Or.inl (List.mem_of_getElem? (i := 0) rfl))
  show OwnFin _ _ _ _ (T5.setTop (mkF m 17 _ []))
  refine OwnFin.st (fun _ q => XS.aloadN X5.here hx rfl (hb hby d7_17) rfl rfl q) ?_
  show OwnFin _ _ _ _ (T5.setTop (mkF m 18 _ [(.ref a0)]))
  obtain ⟨al7, T7, h7, k7, bl7, kl7, X7, e7, E7, hS7, hk7, hZ7, hown7, XA7, FC7, FV7, VB7, la7, lb7, hC7, hL7, hne7, st7⟩ := ldcCH (s := s) (vm0 := T2.vm) X5 hx hZ2 hown2 (w_ hw 33 rfl) (own_wS hw) e5 hS2 (Nat.le_trans hk2 (Nat.le_of_eq W5.size.symm)) (own_EW hw) (by decide) ch6.1 (ht := ⟨by decide, rfl⟩) (vs := []) (z := (0 : Int32)) (by decide) rfl (g := (mkF m 18 #[.val (.ref a0), .val (.ref a1), .val (.int 0), .val (.int z0), .val .null, .unset] [(.ref a0)])) rfl (hb hby d7_18) (n := 0) (by decide) (by decide) (by decide) (by decide)
  refine OwnFin.st st7 ?_
  have sf8_a0 := (hC7).safe ((X_a0.ext E2).wr W5).lt sf6_a0
  have ch8 := ch6.trans (hC7)
  have kp8 : Keep h0 h7 [a0] := kp6.ext E7
  have nl7_a0 := hne7 a0 sf8_a0
  show OwnFin _ _ _ _ (T7.setTop (mkF m 20 _ [(.ref al7), (.ref a0)]))
  obtain ⟨T9, X9, e9, st9⟩ := getF X7 hx hZ7 hown7 (host := "") (Or.inl (w_ hw 40 rfl)) Via.refl e7 FC7 (g := (mkF m 20 #[.val (.ref a0), .val (.ref a1), .val (.int 0), .val (.int z0), .val .null, .unset] [(.ref al7), (.ref a0)])) rfl rfl (hb hby d7_20)
  refine OwnFin.st st9 ?_
  show OwnFin _ _ _ _ (T9.setTop (mkF m 23 _ [(.int 0), (.ref a0)]))
  have fr10 : Fld Z h7 a0 "java/lang/String" "coder" "B" (.int 0) := (((F_coder_a0.ext E2).other W5 (Or.inr (slot_ne (Or.inr (w_ hw 36 rfl)) (Or.inr (w_ hw 35 rfl)) (by decide) (t := .byte) (t' := (.array .byte)) (by decide) (by decide)))).ext E7)
  obtain ⟨T11, h11, X11, e11, W11, st11⟩ := putFN X9 hx hZ7 hown7 (w_ hw 40 rfl) Via.refl e9 fr10 (((X_a0.ext E2).wr W5).ext E7) (Or.inr ⟨(w_ hw 36 rfl), rfl, hnm⟩) (w_ hw 21 rfl) (ty := .byte) (v' := (.int 0)) (by decide) rfl rfl (g := (mkF m 23 #[.val (.ref a0), .val (.ref a1), .val (.int 0), .val (.int z0), .val .null, .unset] [(.int 0), (.ref a0)])) rfl rfl (hb hby d7_23)
  refine OwnFin.st st11 ?_
  have Fw11 : Fld Z h11 a0 "java/lang/String" "coder" "B" (.int 0) := (((F_coder_a0.ext E2).other W5 (Or.inr (slot_ne (Or.inr (w_ hw 36 rfl)) (Or.inr (w_ hw 35 rfl)) (by decide) (t := .byte) (t' := (.array .byte)) (by decide) (by decide)))).ext E7).same W11
  have N11 := Fr.snoc X11 N5 g_a0
  have sf12_a0 := Safe.wr W11 sf8_a0 ch8.1 sf8_a0
  have ch12 := ch8.trans (CHr.wr W11 sf8_a0 ch8.1)
  have kp12 : Keep h0 h11 [a0] := kp8.wr W11 (Or.inl (List.mem_of_getElem? (i := 0) rfl))
  show OwnFin _ _ _ _ (T11.setTop (mkF m 26 _ []))
  obtain ⟨fs, hr, hrun, hended, hEW⟩ := X11.leaveW (s := s) hS7 (by rw [e11]; exact (Nat.le_trans hk7 (Nat.le_of_eq W11.size.symm))) (v := none) (fun _ => rfl)
  have chE : CHr Z own_EL s.vm s.heap T11.vm T11.heap := by
    rw [hh, e11]
    exact ch12.trans (CHv.at X11 hZ7 (own_EW hw) ch12.1)
  refine ⟨_, _, X11.returnOut hx Bd.returns (hb hby d7_26) hr, hrun, hended, _, _, rfl, ?_, chE, hEW.1, hEW.2.1, hEW.2.2.1, hEW.2.2.2.mono (by decide) (by decide)⟩
  show Q_rm_sv0 Z a0 a1 z0 k_a1 f0 h0 n0 _ T11.heap _
  rw [e11]
  have fr13 : Fld Z h11 a0 "java/lang/String" "value" "[B" (.ref bl2) := ((Fw5.ext E7).other W11 (Or.inr (slot_ne (Or.inr (w_ hw 35 rfl)) (Or.inr (w_ hw 36 rfl)) (by decide) (t := (.array .byte)) (t' := .byte) (by decide) (by decide))))
  have fr14 : Arv Z h11 bl2 kl2 .byte (0 : Int32) [] (.int 0) := (((VB2.other W5 (Ne.symm nl2_a0.2)).ext E7).other W11 (Ne.symm nl2_a0.2))
  exact ⟨bl2, kl2, rfl, N11, kp12, Fw11, fr13, fr14⟩
theorem ef_rm_si0 (m : MethodId) (a0 : Addr) (a1 : Addr) : entryFrame m #[(.ref a0), (.ref a1)] 2 = mkF m 0 #[.val (.ref a0), .val (.ref a1)] [] := by first | (simp [entryFrame, mkF, argsToLocals, Value.category]; done) | rfl
def Q_rm_si0 (Z : State) (a0 : Addr) (a1 : Addr) (k_a1 : ClassId) (z0 : Int32) (f0 : Nat → Int32) (h0 : Heap) (n0 : Nat) (v : Option Value) (h : Heap) (L : List Loc) : Prop := ∃ (bE : Addr) (kE : ClassId), v = none ∧ Fr n0 L ∧ Keep h0 h [a0] ∧ Fld Z h a0 "java/lang/String" "coder" "B" (.int 0) ∧ Fld Z h a0 "java/lang/String" "value" "[B" (.ref bE) ∧ Arv Z h bE kE .byte (0 : Int32) [] (.int 0)
set_option maxRecDepth 65536 in
set_option maxHeartbeats 40000000 in
theorem rm_si0 (l : Launch) (Z : State) (av0 : Array Value) (hw : ∀ d ∈ tables_1, d.before av0 Z = true) (ws : List Jvm.Cond) (a0 : Addr) (a1 : Addr) (k_a1 : ClassId) (z0 : Int32) (f0 : Nat → Int32) (h0 : Heap) (n0 : Nat) (Z0 : n0 ≤ h0.size) (X_a0 : Exa Z h0 a0 "java/lang/String") (F_value_a0 : Fld Z h0 a0 "java/lang/String" "value" "[B" .null) (F_coder_a0 : Fld Z h0 a0 "java/lang/String" "coder" "B" (.int 0)) (V_a1 : Arv Z h0 a1 k_a1 .char z0 (own_ml z0 f0) (.int 0)) (hc0 : z0 = (0 : Int32)) (g_a0 : n0 ≤ a0) :
    MetFree l yM23 (head1 (Jvm.Cond.code yM23 jdk_42_method_3_code 2 none :: ws) ({ frames := 2, cells := 4, slots := 8, locals := 29 } : Room)) (fun a U => a = #[(.ref a0), (.ref a1)] ∧ Z.Warmed39 U.vm ∧ U.heap = h0 ∧ CHv Z own_EL U.vm h0) (fun _ _ _ _ _ => True) (fun _ U o U' => ∃ v L, o = .returned v ∧ Q_rm_si0 Z a0 a1 k_a1 z0 f0 h0 n0 v U'.heap L ∧ CHr Z own_EL U.vm U.heap U'.vm U'.heap ∧ ReturnedEndW U o U' L ({ frames := 2, cells := 4, slots := 8, locals := 29 } : Room).cells ({ frames := 2, cells := 4, slots := 8, locals := 29 } : Room).slots) := by
  refine MetFree.of_bodySF (plainFor_of_name pn_2) hisR ?_
  intro p e s m args below meth c s₁ Bd hml0 hP hK
  obtain ⟨rfl, hZ, hh, hCH⟩ := hP
  have hx := Bd.exec
  have hby := Bd.bytes
  have hml : c.maxLocals = 2 := hml0
  have hown : (s.setVm s.vm).vm.findClass "java/lang/String" = some m.cls := findClass_of_methodNamed Bd.named
  have hnm := (name_of_methodNamed Bd.named Bd.method).1
  have X0 : Stand p l e ({ frames := 2, cells := 4, slots := 8, locals := 29 } : Room) (s.setVm s.vm) m #[(.ref a0), (.ref a1)] below meth c s₁ [] 0 0 := Stand.of_body Bd
  have e0 : s₁.heap = h0 := by rw [← hh, Bd.state]; rfl
  have N0 := Fr.nil n0
  have hZ : Z.Warmed39 (s.setVm s.vm).vm := hZ
  have hS0 : s.Since s.vm s.heap.size := (State.WarmedH.refl s).since _
  have hk0 : s.heap.size ≤ h0.size := Nat.le_of_eq (by rw [hh])
  have ch0 : CHr Z own_EL s.vm h0 s.vm h0 := CHr.refl hCH
  have pre0 : ∀ t, Steps p.tables e below (s₁.setTop (mkF m 0 #[.val (.ref a0), .val (.ref a1)] [])) t → Steps p.tables e below (s₁.setTop (entryFrame m #[(.ref a0), (.ref a1)] 2)) t := fun t k => castTop (ef_rm_si0 m a0 a1) k
  change OwnFin p.tables e below _ (s₁.setTop (entryFrame m #[(.ref a0), (.ref a1)] 2))
  have kp0 : Keep h0 h0 [a0] := Keep.refl _ _
  refine OwnFin.st (fun _ q => pre0 _ q) ?_
  show OwnFin _ _ _ _ (s₁.setTop (mkF m 0 #[.val (.ref a0), .val (.ref a1)] []))
  refine OwnFin.st (fun _ q => XS.aloadN X0.here hx rfl (hb hby d6_0) rfl rfl q) ?_
  show OwnFin _ _ _ _ (s₁.setTop (mkF m 1 _ [(.ref a0)]))
  refine OwnFin.st (fun _ q => XS.aloadN X0.here hx rfl (hb hby d6_1) rfl rfl q) ?_
  show OwnFin _ _ _ _ (s₁.setTop (mkF m 2 _ [(.ref a1), (.ref a0)]))
  refine OwnFin.st (fun _ q => XS.iconst X0.here hx rfl (hb hby d6_2) q) ?_
  show OwnFin _ _ _ _ (s₁.setTop (mkF m 3 _ [(.int 0), (.ref a1), (.ref a0)]))
  refine OwnFin.st (fun _ q => XS.aloadN X0.here hx rfl (hb hby d6_3) rfl rfl q) ?_
  show OwnFin _ _ _ _ (s₁.setTop (mkF m 4 _ [(.ref a1), (.int 0), (.ref a1), (.ref a0)]))
  have Vo1 : Arv Z h0 a1 k_a1 .char z0 (own_ml z0 f0) (.int 0) := V_a1
  obtain ⟨cl1, Ar1, qa1, Sa1, Na1, Ha1, Ga1⟩ := id Vo1
  refine OwnFin.st (X0.arraylength hx (by rw [e0]; exact Ar1.1) (State.isArrayOf_alike (hZ).alike Ar1.2.1) (g := (mkF m 4 #[.val (.ref a0), .val (.ref a1)] [(.ref a1), (.int 0), (.ref a1), (.ref a0)])) rfl rfl (hb hby d6_4)) ?_
  rw [len_of Sa1 Na1]
  show OwnFin _ _ _ _ (s₁.setTop (mkF m 5 _ [(.int z0), (.int 0), (.ref a1), (.ref a0)]))
  refine OwnFin.st (fun _ q => XS.aconstNull X0.here hx rfl (hb hby d6_5) q) ?_
  show OwnFin _ _ _ _ (s₁.setTop (mkF m 6 _ [.null, (.int z0), (.int 0), (.ref a1), (.ref a0)]))
  show OwnFin _ _ _ _ (s₁.setTop (mkF m 6 _ [.null, (.int z0), (.int 0), (.ref a1), (.ref a0)]))
  obtain ⟨_, _, ⟨T2, L2, k2, n2⟩, -, X2, hS2, hg2, ⟨Lc2, hQ2, l2, y2, z2, hC2⟩, st2⟩ := X0.specialBackS hx (y := yM22) rfl hown (mvT hZ (w_ hw 26 rfl)) (mvT hZ (w_ hw 27 rfl)) (mvT hZ (w_ hw 29 rfl)) (by decide) (backOfSH (W := 0) (rm_sv0 l Z av0 hw [] a0 a1 z0 k_a1 f0 h0 n0 (Nat.le_trans Z0 kp0.1) X_a0 F_value_a0 F_coder_a0 V_a1 hc0 g_a0) hZ (w_ hw 29 rfl) (w_ hw 22 rfl) (by decide) (by decide) (own_EW hw) ch0.1) (g := (mkF m 6 #[.val (.ref a0), .val (.ref a1)] [.null, (.int z0), (.int 0), (.ref a1), (.ref a0)])) rfl (by rw [hml]; rfl) (Steps.refl _) (a := a0) (argsL := [(.ref a1), (.int 0), (.int z0), .null]) (rest := []) (lenOf pd_17 rfl) rfl (by show 2 * 0 + _ ≤ _; exact Nat.le_of_eq rfl) (hb hby d6_6) (fun _ _ => ⟨rfl, e0, (by decide : 0 + 4 ≤ _), (by decide : 0 + 8 ≤ _)⟩)
  dsimp only [Pt.U, Pt.locs, Pt.cells, Pt.slots] at X2 l2 y2 z2 st2 hQ2 hS2 hg2 hC2
  subst l2 y2 z2
  obtain ⟨c2_0, kc2_1, rfl, N2q, K2, r2_0, r2_1, r2_2⟩ := hQ2
  have N2 := Fr.app N0 N2q
  refine OwnFin.tr st2 ?_
  rw [e0] at hg2
  obtain ⟨h2, e2⟩ : ∃ z, T2.heap = z := ⟨_, rfl⟩
  rw [e2] at K2 r2_0 r2_1 r2_2 hg2 hS2 hC2
  have ch3 := ch0.trans (hC2)
  have kp3 : Keep h0 h2 [a0] := kp0.trans K2 (allS (Or.inl (List.mem_of_getElem? (i := 0) rfl)) all0)
  obtain ⟨Xr2, hSr2, hZr2, hor2⟩ := rebS hS0 (Nat.le_trans hk0 (Nat.le_refl _)) X2 hS2 hg2 hZ hown
  show OwnFin _ _ _ _ (T2.setTop (mkF m 9 _ []))
  obtain ⟨fs, hr, hrun, hended, hEW⟩ := Xr2.leaveW (s := s) hSr2 (by rw [e2]; exact (Nat.le_trans (Nat.le_refl _) (Nat.le_refl _))) (v := none) (fun _ => rfl)
  have chE : CHr Z own_EL s.vm s.heap T2.vm T2.heap := by
    rw [hh, e2]
    exact ch3.trans (CHv.at Xr2 hZr2 (own_EW hw) ch3.1)
  refine ⟨_, _, Xr2.returnOut hx Bd.returns (hb hby d6_9) hr, hrun, hended, _, _, rfl, ?_, chE, hEW.1, hEW.2.1, hEW.2.2.1, hEW.2.2.2.mono (by decide) (by decide)⟩
  show Q_rm_si0 Z a0 a1 k_a1 z0 f0 h0 n0 _ T2.heap _
  rw [e2]
  exact ⟨c2_0, kc2_1, rfl, N2, kp3, r2_0, r2_1, r2_2⟩
def own_w (p0 : Int32) (p1 : Int32) (p2 : Int32) : Int32 := if p1 < p2 then if p0 < 65536 then 1 else 2 else 0
theorem d4_0 : decode method_5_code 0 = .ok (.iload_n 1, 1) := by decide +kernel
theorem d4_1 : decode method_5_code 1 = .ok (.iload_n 2, 1) := by decide +kernel
theorem d4_2 : decode method_5_code 2 = .ok (.if_icmp .lt 5, 3) := by decide +kernel
theorem d4_5 : decode method_5_code 5 = .ok (.iconst 0, 1) := by decide +kernel
theorem d4_6 : decode method_5_code 6 = .ok (.ireturn, 1) := by decide +kernel
theorem d4_7 : decode method_5_code 7 = .ok (.iload_n 0, 1) := by decide +kernel
theorem d4_8 : decode method_5_code 8 = .ok (.ldc 43, 2) := by decide +kernel
theorem d4_10 : decode method_5_code 10 = .ok (.if_icmp .lt 7, 3) := by decide +kernel
theorem d4_13 : decode method_5_code 13 = .ok (.iconst 2, 1) := by decide +kernel
theorem d4_14 : decode method_5_code 14 = .ok (.goto 4, 3) := by decide +kernel
theorem d4_17 : decode method_5_code 17 = .ok (.iconst 1, 1) := by decide +kernel
theorem d4_18 : decode method_5_code 18 = .ok (.ireturn, 1) := by decide +kernel
theorem pn_6 : plainName "com/example/libaccrue/libaccrue/records/TextOrderComparePinLaw" = true := by first | (simp [plainName, overriddenIn]; done) | decide +kernel
theorem ef_rm_w (m : MethodId) (p0 : Int32) (p1 : Int32) (p2 : Int32) : entryFrame m #[(.int p0), (.int p1), (.int p2)] 3 = mkF m 0 #[.val (.int p0), .val (.int p1), .val (.int p2)] [] := by first | (simp [entryFrame, mkF, argsToLocals, Value.category]; done) | rfl
def Q_rm_w (Z : State) (p0 : Int32) (p1 : Int32) (p2 : Int32) (h0 : Heap) (n0 : Nat) (v : Option Value) (h : Heap) (L : List Loc) : Prop := v = some (.int (own_w p0 p1 p2)) ∧ Fr n0 L ∧ h = h0
set_option maxRecDepth 65536 in
set_option maxHeartbeats 40000000 in
theorem rm_w (l : Launch) (Z : State) (av0 : Array Value) (hw : ∀ d ∈ tables_1, d.before av0 Z = true) (ws : List Jvm.Cond) (p0 : Int32) (p1 : Int32) (p2 : Int32) (h0 : Heap) (n0 : Nat) (Z0 : n0 ≤ h0.size) :
    MetFree l yM24 (head1 (Jvm.Cond.code yM24 method_5_code 3 (some .int) :: ws) ({ frames := 0, cells := 0, slots := 0, locals := 0 } : Room)) (fun a U => a = #[(.int p0), (.int p1), (.int p2)] ∧ Z.Warmed39 U.vm ∧ U.heap = h0) (fun _ _ _ _ _ => True) (fun _ U o U' => ∃ v L, o = .returned v ∧ Q_rm_w Z p0 p1 p2 h0 n0 v U'.heap L ∧ FrameEnd U o U' L ({ frames := 0, cells := 0, slots := 0, locals := 0 } : Room).cells ({ frames := 0, cells := 0, slots := 0, locals := 0 } : Room).slots) := by
  refine MetFree.of_bodySF (plainFor_of_name pn_6) hisR ?_
  intro p e s m args below meth c s₁ Bd hml0 hP hK
  obtain ⟨rfl, hZ, hh⟩ := hP
  have hx := Bd.exec
  have hby := Bd.bytes
  have hml : c.maxLocals = 3 := hml0
  have hown : s.vm.findClass "com/example/libaccrue/libaccrue/records/TextOrderComparePinLaw" = some m.cls := findClass_of_methodNamed Bd.named
  have hnm := (name_of_methodNamed Bd.named Bd.method).1
  have X0 : Stand p l e ({ frames := 0, cells := 0, slots := 0, locals := 0 } : Room) s m #[(.int p0), (.int p1), (.int p2)] below meth c s₁ [] 0 0 := Stand.of_body Bd
  have e0 : s₁.heap = h0 := by rw [← hh, Bd.state]; rfl
  have N0 := Fr.nil n0
  have pre0 : ∀ t, Steps p.tables e below (s₁.setTop (mkF m 0 #[.val (.int p0), .val (.int p1), .val (.int p2)] [])) t → Steps p.tables e below (s₁.setTop (entryFrame m #[(.int p0), (.int p1), (.int p2)] 3)) t := fun t k => castTop (ef_rm_w m p0 p1 p2) k
  change OwnFin p.tables e below _ (s₁.setTop (entryFrame m #[(.int p0), (.int p1), (.int p2)] 3))
  have kp0 : Keep h0 h0 [] := Keep.refl _ _
  refine OwnFin.st (fun _ q => pre0 _ q) ?_
  show OwnFin _ _ _ _ (s₁.setTop (mkF m 0 #[.val (.int p0), .val (.int p1), .val (.int p2)] []))
  refine OwnFin.st (fun _ q => XS.iloadN X0.here hx rfl (hb hby d4_0) rfl q) ?_
  show OwnFin _ _ _ _ (s₁.setTop (mkF m 1 _ [(.int p1)]))
  refine OwnFin.st (fun _ q => XS.iloadN X0.here hx rfl (hb hby d4_1) rfl q) ?_
  show OwnFin _ _ _ _ (s₁.setTop (mkF m 2 _ [(.int p2), (.int p1)]))
  by_cases hc1 : p1 < p2
  ·
   refine OwnFin.st (fun _ q => XS.icmpYes X0.here hx rfl (pc0 := 2) (pc' := 7) rfl (hb hby d4_2) rfl (Jvm.Free.XT.ii_lt_t hc1) (by decide) (by decide) q) ?_
   show OwnFin _ _ _ _ (s₁.setTop (mkF m 7 _ []))
   refine OwnFin.st (fun _ q => XS.iloadN X0.here hx rfl (hb hby d4_7) rfl q) ?_
   show OwnFin _ _ _ _ (s₁.setTop (mkF m 8 _ [(.int p0)]))
   refine OwnFin.st (X0.ldcInt hx hown (mvT hZ (w_ hw 67 rfl)) (g := (mkF m 8 #[.val (.int p0), .val (.int p1), .val (.int p2)] [(.int p0)])) rfl (hb hby d4_8)) ?_
   show OwnFin _ _ _ _ (s₁.setTop (mkF m 10 _ [(.int 65536), (.int p0)]))
   by_cases hc2 : p0 < (65536 : Int32)
   ·
    refine OwnFin.st (fun _ q => XS.icmpYes X0.here hx rfl (pc0 := 10) (pc' := 17) rfl (hb hby d4_10) rfl (Jvm.Free.XT.ii_lt_t hc2) (by decide) (by decide) q) ?_
    show OwnFin _ _ _ _ (s₁.setTop (mkF m 17 _ []))
    refine OwnFin.st (fun _ q => XS.iconst X0.here hx rfl (hb hby d4_17) q) ?_
    show OwnFin _ _ _ _ (s₁.setTop (mkF m 18 _ [(.int 1)]))
    obtain ⟨fs, hr, hrun, hended, hW, hsame⟩ := X0.leave (v := some (.int 1)) (fun h => by rw [Bd.returns] at h; cases h)
    refine ⟨_, _, retI X0 hx Bd.returns (hb hby d4_18) hr, hrun, hended, _, _, rfl, ?_, ⟨_, rfl⟩, hW, hsame.mono (by decide) (by decide)⟩
    show Q_rm_w Z p0 p1 p2 h0 n0 _ s₁.heap _
    rw [e0]
    refine ⟨?_, N0, rfl⟩
    simp [own_w, hc1, hc2]
   ·
    refine OwnFin.st (fun _ q => XS.icmpNo X0.here hx rfl (hb hby d4_10) rfl (Jvm.Free.XT.ii_lt_f hc2) q) ?_
    show OwnFin _ _ _ _ (s₁.setTop (mkF m 13 _ []))
    refine OwnFin.st (fun _ q => XS.iconst X0.here hx rfl (hb hby d4_13) q) ?_
    show OwnFin _ _ _ _ (s₁.setTop (mkF m 14 _ [(.int 2)]))
    refine OwnFin.st (fun _ q => XS.goto X0.here hx rfl (pc0 := 14) (pc' := 18) rfl (hb hby d4_14) (by decide) (by decide) q) ?_
    show OwnFin _ _ _ _ (s₁.setTop (mkF m 18 _ [(.int 2)]))
    obtain ⟨fs, hr, hrun, hended, hW, hsame⟩ := X0.leave (v := some (.int 2)) (fun h => by rw [Bd.returns] at h; cases h)
    refine ⟨_, _, retI X0 hx Bd.returns (hb hby d4_18) hr, hrun, hended, _, _, rfl, ?_, ⟨_, rfl⟩, hW, hsame.mono (by decide) (by decide)⟩
    show Q_rm_w Z p0 p1 p2 h0 n0 _ s₁.heap _
    rw [e0]
    refine ⟨?_, N0, rfl⟩
    simp [own_w, hc1, hc2]
  ·
   refine OwnFin.st (fun _ q => XS.icmpNo X0.here hx rfl (hb hby d4_2) rfl (Jvm.Free.XT.ii_lt_f hc1) q) ?_
   show OwnFin _ _ _ _ (s₁.setTop (mkF m 5 _ []))
   refine OwnFin.st (fun _ q => XS.iconst X0.here hx rfl (hb hby d4_5) q) ?_
   show OwnFin _ _ _ _ (s₁.setTop (mkF m 6 _ [(.int 0)]))
   obtain ⟨fs, hr, hrun, hended, hW, hsame⟩ := X0.leave (v := some (.int 0)) (fun h => by rw [Bd.returns] at h; cases h)
   refine ⟨_, _, retI X0 hx Bd.returns (hb hby d4_6) hr, hrun, hended, _, _, rfl, ?_, ⟨_, rfl⟩, hW, hsame.mono (by decide) (by decide)⟩
   show Q_rm_w Z p0 p1 p2 h0 n0 _ s₁.heap _
   rw [e0]
   refine ⟨?_, N0, rfl⟩
   simp [own_w, hc1]
def own_pi (p1 p2 p3 p4 : Int32) : Int32 := p1 + own_w p2 p3 p4
def own_pf (f : Nat → Int32) (p1 p2 p3 p4 : Int32) : Nat → Int32 := if p3 < p4 then if p2 < (65536 : Int32) then own_upd f p1 p2.toUInt32.toUInt16.toUInt32.toInt32 else own_upd (own_upd f p1 ((55296 : Int32) + (((p2 - (65536 : Int32)).toUInt32 >>> ((10 : Int32) &&& 31).toUInt32).toInt32)).toUInt32.toUInt16.toUInt32.toInt32) (p1 + (1 : Int32)) ((56320 : Int32) + ((p2 - (65536 : Int32)) &&& (1023 : Int32))).toUInt32.toUInt16.toUInt32.toInt32 else f
theorem own_wb (x i n : Int32) : 0 ≤ (own_w x i n).toInt ∧ (own_w x i n).toInt ≤ 2 := by unfold own_w; split; split <;> decide; decide
theorem own_w1 {x i n : Int32} (h : i < n) : own_w x i n = if x < (65536 : Int32) then 1 else 2 := if_pos h
theorem own_pb0 {p1 p2 p3 p4 z : Int32} (h : p3 < p4 → 0 ≤ p1.toInt ∧ p1.toInt + (own_w p2 p3 p4).toInt ≤ z.toInt) (q : p3 < p4) : ¬ p1 < 0 ∧ p1 < z := by
  have a := h q; have r : (0 : Int32).toInt = 0 := rfl
  have b : 1 ≤ (own_w p2 p3 p4).toInt := by rw [own_w1 q]; split <;> decide
  rw [Int32.lt_iff_toInt_lt, Int32.lt_iff_toInt_lt]; omega
theorem own_pb1 {p1 p2 p3 p4 z : Int32} (h : p3 < p4 → 0 ≤ p1.toInt ∧ p1.toInt + (own_w p2 p3 p4).toInt ≤ z.toInt) (q : p3 < p4) (q2 : ¬ p2 < (65536 : Int32)) : ¬ (p1 + (1 : Int32)) < 0 ∧ (p1 + (1 : Int32)) < z := by
  have a := h q; have r : (0 : Int32).toInt = 0 := rfl; have r1 : (1 : Int32).toInt = 1 := rfl; have r2 : (2 : Int32).toInt = 2 := rfl
  have b : (own_w p2 p3 p4).toInt = 2 := by rw [own_w1 q, if_neg q2]; rfl
  have d := c_iadd p1 (1 : Int32); have d' := rng32 (p1 + (1 : Int32)); have e := rng32 z; have e' := rng32 p1
  rw [Int32.lt_iff_toInt_lt, Int32.lt_iff_toInt_lt]; omega
theorem d5_0 : decode method_6_code 0 = .ok (.iload_n 3, 1) := by decide +kernel
theorem d5_1 : decode method_6_code 1 = .ok (.iload 4, 2) := by decide +kernel
theorem d5_3 : decode method_6_code 3 = .ok (.if_icmp .lt 5, 3) := by decide +kernel
theorem d5_6 : decode method_6_code 6 = .ok (.iload_n 1, 1) := by decide +kernel
theorem d5_7 : decode method_6_code 7 = .ok (.ireturn, 1) := by decide +kernel
theorem d5_8 : decode method_6_code 8 = .ok (.iload_n 2, 1) := by decide +kernel
theorem d5_9 : decode method_6_code 9 = .ok (.ldc 43, 2) := by decide +kernel
theorem d5_11 : decode method_6_code 11 = .ok (.if_icmp .lt 40, 3) := by decide +kernel
theorem d5_14 : decode method_6_code 14 = .ok (.iload_n 2, 1) := by decide +kernel
theorem d5_15 : decode method_6_code 15 = .ok (.ldc 43, 2) := by decide +kernel
theorem d5_17 : decode method_6_code 17 = .ok (.isub, 1) := by decide +kernel
theorem d5_18 : decode method_6_code 18 = .ok (.istore 5, 2) := by decide +kernel
theorem d5_20 : decode method_6_code 20 = .ok (.aload_n 0, 1) := by decide +kernel
theorem d5_21 : decode method_6_code 21 = .ok (.iload_n 1, 1) := by decide +kernel
theorem d5_22 : decode method_6_code 22 = .ok (.ldc 41, 2) := by decide +kernel
theorem d5_24 : decode method_6_code 24 = .ok (.iload 5, 2) := by decide +kernel
theorem d5_26 : decode method_6_code 26 = .ok (.bipush 10, 2) := by decide +kernel
theorem d5_28 : decode method_6_code 28 = .ok (.iushr, 1) := by decide +kernel
theorem d5_29 : decode method_6_code 29 = .ok (.iadd, 1) := by decide +kernel
theorem d5_30 : decode method_6_code 30 = .ok (.i2c, 1) := by decide +kernel
theorem d5_31 : decode method_6_code 31 = .ok (.castore, 1) := by decide +kernel
theorem d5_32 : decode method_6_code 32 = .ok (.aload_n 0, 1) := by decide +kernel
theorem d5_33 : decode method_6_code 33 = .ok (.iload_n 1, 1) := by decide +kernel
theorem d5_34 : decode method_6_code 34 = .ok (.iconst 1, 1) := by decide +kernel
theorem d5_35 : decode method_6_code 35 = .ok (.iadd, 1) := by decide +kernel
theorem d5_36 : decode method_6_code 36 = .ok (.ldc 44, 2) := by decide +kernel
theorem d5_38 : decode method_6_code 38 = .ok (.iload 5, 2) := by decide +kernel
theorem d5_40 : decode method_6_code 40 = .ok (.sipush 1023, 3) := by decide +kernel
theorem d5_43 : decode method_6_code 43 = .ok (.iand, 1) := by decide +kernel
theorem d5_44 : decode method_6_code 44 = .ok (.iadd, 1) := by decide +kernel
theorem d5_45 : decode method_6_code 45 = .ok (.i2c, 1) := by decide +kernel
theorem d5_46 : decode method_6_code 46 = .ok (.castore, 1) := by decide +kernel
theorem d5_47 : decode method_6_code 47 = .ok (.iload_n 1, 1) := by decide +kernel
theorem d5_48 : decode method_6_code 48 = .ok (.iconst 2, 1) := by decide +kernel
theorem d5_49 : decode method_6_code 49 = .ok (.iadd, 1) := by decide +kernel
theorem d5_50 : decode method_6_code 50 = .ok (.ireturn, 1) := by decide +kernel
theorem d5_51 : decode method_6_code 51 = .ok (.aload_n 0, 1) := by decide +kernel
theorem d5_52 : decode method_6_code 52 = .ok (.iload_n 1, 1) := by decide +kernel
theorem d5_53 : decode method_6_code 53 = .ok (.iload_n 2, 1) := by decide +kernel
theorem d5_54 : decode method_6_code 54 = .ok (.i2c, 1) := by decide +kernel
theorem d5_55 : decode method_6_code 55 = .ok (.castore, 1) := by decide +kernel
theorem d5_56 : decode method_6_code 56 = .ok (.iload_n 1, 1) := by decide +kernel
theorem d5_57 : decode method_6_code 57 = .ok (.iconst 1, 1) := by decide +kernel
theorem d5_58 : decode method_6_code 58 = .ok (.iadd, 1) := by decide +kernel
theorem d5_59 : decode method_6_code 59 = .ok (.ireturn, 1) := by decide +kernel
theorem ef_rm_put (m : MethodId) (a0 : Addr) (p1 : Int32) (p2 : Int32) (p3 : Int32) (p4 : Int32) : entryFrame m #[(.ref a0), (.int p1), (.int p2), (.int p3), (.int p4)] 6 = mkF m 0 #[.val (.ref a0), .val (.int p1), .val (.int p2), .val (.int p3), .val (.int p4), .unset] [] := by first | (simp [entryFrame, mkF, argsToLocals, Value.category]; done) | rfl
def Q_rm_put (Z : State) (a0 : Addr) (p1 : Int32) (p2 : Int32) (p3 : Int32) (p4 : Int32) (k_a0 : ClassId) (z0 : Int32) (f0 : Nat → Int32) (h0 : Heap) (n0 : Nat) (v : Option Value) (h : Heap) (L : List Loc) : Prop := v = some (.int (own_pi p1 p2 p3 p4)) ∧ Fr n0 L ∧ Keep h0 h [a0] ∧ Arv Z h a0 k_a0 .char z0 (own_ml z0 (own_pf f0 p1 p2 p3 p4)) (.int 0)
set_option maxRecDepth 65536 in
set_option maxHeartbeats 40000000 in
theorem rm_put (l : Launch) (Z : State) (av0 : Array Value) (hw : ∀ d ∈ tables_1, d.before av0 Z = true) (ws : List Jvm.Cond) (a0 : Addr) (p1 : Int32) (p2 : Int32) (p3 : Int32) (p4 : Int32) (k_a0 : ClassId) (z0 : Int32) (f0 : Nat → Int32) (h0 : Heap) (n0 : Nat) (Z0 : n0 ≤ h0.size) (V_a0 : Arv Z h0 a0 k_a0 .char z0 (own_ml z0 f0) (.int 0)) (hpb : p3 < p4 → 0 ≤ p1.toInt ∧ p1.toInt + (own_w p2 p3 p4).toInt ≤ z0.toInt) (g_a0 : n0 ≤ a0) :
    MetFree l yM25 (head1 (Jvm.Cond.code yM25 method_6_code 6 (some .int) :: ws) ({ frames := 0, cells := 0, slots := 0, locals := 0 } : Room)) (fun a U => a = #[(.ref a0), (.int p1), (.int p2), (.int p3), (.int p4)] ∧ Z.Warmed39 U.vm ∧ U.heap = h0) (fun _ _ _ _ _ => True) (fun _ U o U' => ∃ v L, o = .returned v ∧ Q_rm_put Z a0 p1 p2 p3 p4 k_a0 z0 f0 h0 n0 v U'.heap L ∧ FrameEnd U o U' L ({ frames := 0, cells := 0, slots := 0, locals := 0 } : Room).cells ({ frames := 0, cells := 0, slots := 0, locals := 0 } : Room).slots) := by
  refine MetFree.of_bodySF (plainFor_of_name pn_6) hisR ?_
  intro p e s m args below meth c s₁ Bd hml0 hP hK
  obtain ⟨rfl, hZ, hh⟩ := hP
  have hx := Bd.exec
  have hby := Bd.bytes
  have hml : c.maxLocals = 6 := hml0
  have hown : s.vm.findClass "com/example/libaccrue/libaccrue/records/TextOrderComparePinLaw" = some m.cls := findClass_of_methodNamed Bd.named
  have hnm := (name_of_methodNamed Bd.named Bd.method).1
  have X0 : Stand p l e ({ frames := 0, cells := 0, slots := 0, locals := 0 } : Room) s m #[(.ref a0), (.int p1), (.int p2), (.int p3), (.int p4)] below meth c s₁ [] 0 0 := Stand.of_body Bd
  have e0 : s₁.heap = h0 := by rw [← hh, Bd.state]; rfl
  have N0 := Fr.nil n0
  have pre0 : ∀ t, Steps p.tables e below (s₁.setTop (mkF m 0 #[.val (.ref a0), .val (.int p1), .val (.int p2), .val (.int p3), .val (.int p4), .unset] [])) t → Steps p.tables e below (s₁.setTop (entryFrame m #[(.ref a0), (.int p1), (.int p2), (.int p3), (.int p4)] 6)) t := fun t k => castTop (ef_rm_put m a0 p1 p2 p3 p4) k
  change OwnFin p.tables e below _ (s₁.setTop (entryFrame m #[(.ref a0), (.int p1), (.int p2), (.int p3), (.int p4)] 6))
  have kp0 : Keep h0 h0 [a0] := Keep.refl _ _
  refine OwnFin.st (fun _ q => pre0 _ q) ?_
  show OwnFin _ _ _ _ (s₁.setTop (mkF m 0 #[.val (.ref a0), .val (.int p1), .val (.int p2), .val (.int p3), .val (.int p4), .unset] []))
  refine OwnFin.st (fun _ q => XS.iloadN X0.here hx rfl (hb hby d5_0) rfl q) ?_
  show OwnFin _ _ _ _ (s₁.setTop (mkF m 1 _ [(.int p3)]))
  refine OwnFin.st (fun _ q => XS.iload X0.here hx rfl (hb hby d5_1) rfl q) ?_
  show OwnFin _ _ _ _ (s₁.setTop (mkF m 3 _ [(.int p4), (.int p3)]))
  by_cases hc1 : p3 < p4
  ·
   refine OwnFin.st (fun _ q => XS.icmpYes X0.here hx rfl (pc0 := 3) (pc' := 8) rfl (hb hby d5_3) rfl (Jvm.Free.XT.ii_lt_t hc1) (by decide) (by decide) q) ?_
   show OwnFin _ _ _ _ (s₁.setTop (mkF m 8 _ []))
   refine OwnFin.st (fun _ q => XS.iloadN X0.here hx rfl (hb hby d5_8) rfl q) ?_
   show OwnFin _ _ _ _ (s₁.setTop (mkF m 9 _ [(.int p2)]))
   refine OwnFin.st (X0.ldcInt hx hown (mvT hZ (w_ hw 67 rfl)) (g := (mkF m 9 #[.val (.ref a0), .val (.int p1), .val (.int p2), .val (.int p3), .val (.int p4), .unset] [(.int p2)])) rfl (hb hby d5_9)) ?_
   show OwnFin _ _ _ _ (s₁.setTop (mkF m 11 _ [(.int 65536), (.int p2)]))
   by_cases hc2 : p2 < (65536 : Int32)
   ·
    refine OwnFin.st (fun _ q => XS.icmpYes X0.here hx rfl (pc0 := 11) (pc' := 51) rfl (hb hby d5_11) rfl (Jvm.Free.XT.ii_lt_t hc2) (by decide) (by decide) q) ?_
    show OwnFin _ _ _ _ (s₁.setTop (mkF m 51 _ []))
    refine OwnFin.st (fun _ q => XS.aloadN X0.here hx rfl (hb hby d5_51) rfl rfl q) ?_
    show OwnFin _ _ _ _ (s₁.setTop (mkF m 52 _ [(.ref a0)]))
    refine OwnFin.st (fun _ q => XS.iloadN X0.here hx rfl (hb hby d5_52) rfl q) ?_
    show OwnFin _ _ _ _ (s₁.setTop (mkF m 53 _ [(.int p1), (.ref a0)]))
    refine OwnFin.st (fun _ q => XS.iloadN X0.here hx rfl (hb hby d5_53) rfl q) ?_
    show OwnFin _ _ _ _ (s₁.setTop (mkF m 54 _ [(.int p2), (.int p1), (.ref a0)]))
    refine OwnFin.st (fun _ q => XS.i2c X0.here hx rfl (hb hby d5_54) rfl q) ?_
    show OwnFin _ _ _ _ (s₁.setTop (mkF m 55 _ [(.int (p2.toUInt32.toUInt16.toUInt32.toInt32)), (.int p1), (.ref a0)]))
    have Vo3 : Arv Z h0 a0 k_a0 .char z0 (own_ml z0 f0) (.int 0) := V_a0
    obtain ⟨cl3, Ar3, qa3, Sa3, Na3, Ha3, Ga3⟩ := id Vo3
    have hib3 : ¬ p1 < 0 ∧ p1 < z0 := (own_pb0 hpb hc1)
    obtain ⟨T3, h3, X3, e3, W3, st3⟩ := stC X0 hx hZ e0 Ar3 (j := p1) (inb_of Sa3 hib3) (g := (mkF m 55 #[.val (.ref a0), .val (.int p1), .val (.int p2), .val (.int p3), .val (.int p4), .unset] [(.int (p2.toUInt32.toUInt16.toUInt32.toInt32)), (.int p1), (.ref a0)])) rfl rfl (hb hby d5_55)
    refine OwnFin.st st3 ?_
    have V3 : Arv Z h3 a0 k_a0 .char z0 (own_ml z0 (own_upd f0 p1 (p2.toUInt32.toUInt16.toUInt32.toInt32))) (.int 0) := by
      have z := Arv.set Ar3 qa3 Sa3 Na3 Ha3 Ga3 (fits_nar_char _) W3 _ rfl (by rw [own_mllen]; exact own_idx hib3)
      rw [own_nari2c, own_mlset] at z
      exact z
    have N3 := Fr.snoc X3 N0 g_a0
    have kp4 : Keep h0 h3 [a0] := kp0.wr W3 (Or.inl (List.mem_of_getElem? (i := 0) rfl))
    show OwnFin _ _ _ _ (T3.setTop (mkF m 56 _ []))
    refine OwnFin.st (fun _ q => XS.iloadN X3.here hx rfl (hb hby d5_56) rfl q) ?_
    show OwnFin _ _ _ _ (T3.setTop (mkF m 57 _ [(.int p1)]))
    refine OwnFin.st (fun _ q => XS.iconst X3.here hx rfl (hb hby d5_57) q) ?_
    show OwnFin _ _ _ _ (T3.setTop (mkF m 58 #[.val (.ref a0), .val (.int p1), .val (.int p2), .val (.int p3), .val (.int p4), .unset] [(.int 1), (.int p1)]))
    refine OwnFin.st (fun _ q => XS.iadd X3.here hx rfl (hb hby d5_58) rfl q) ?_
    show OwnFin _ _ _ _ (T3.setTop (mkF m 59 _ [(.int (p1 + (1 : Int32)))]))
    obtain ⟨fs, hr, hrun, hended, hW, hsame⟩ := X3.leave (v := some (.int (p1 + (1 : Int32)))) (fun h => by rw [Bd.returns] at h; cases h)
    refine ⟨_, _, retI X3 hx Bd.returns (hb hby d5_59) hr, hrun, hended, _, _, rfl, ?_, ⟨_, rfl⟩, hW, hsame.mono (by decide) (by decide)⟩
    show Q_rm_put Z a0 p1 p2 p3 p4 k_a0 z0 f0 h0 n0 _ T3.heap _
    rw [e3]
    have vE5 : Arv Z h3 a0 k_a0 .char z0 (own_ml z0 (own_pf f0 p1 p2 p3 p4)) (.int 0) := own_mlcong (by unfold own_pf; rw [if_pos hc1, if_pos hc2]) V3
    exact ⟨(by unfold own_pi own_w; rw [if_pos hc1, if_pos hc2]), N3, kp4, vE5⟩
   ·
    refine OwnFin.st (fun _ q => XS.icmpNo X0.here hx rfl (hb hby d5_11) rfl (Jvm.Free.XT.ii_lt_f hc2) q) ?_
    show OwnFin _ _ _ _ (s₁.setTop (mkF m 14 _ []))
    refine OwnFin.st (fun _ q => XS.iloadN X0.here hx rfl (hb hby d5_14) rfl q) ?_
    show OwnFin _ _ _ _ (s₁.setTop (mkF m 15 _ [(.int p2)]))
    refine OwnFin.st (X0.ldcInt hx hown (mvT hZ (w_ hw 67 rfl)) (g := (mkF m 15 #[.val (.ref a0), .val (.int p1), .val (.int p2), .val (.int p3), .val (.int p4), .unset] [(.int p2)])) rfl (hb hby d5_15)) ?_
    show OwnFin _ _ _ _ (s₁.setTop (mkF m 17 _ [(.int 65536), (.int p2)]))
    refine OwnFin.st (fun _ q => XS.isub X0.here hx rfl (hb hby d5_17) rfl q) ?_
    show OwnFin _ _ _ _ (s₁.setTop (mkF m 18 _ [(.int (p2 - (65536 : Int32)))]))
    refine OwnFin.st (fun _ q => XS.istore X0.here hx rfl (hb hby d5_18) rfl (l' := #[.val (.ref a0), .val (.int p1), .val (.int p2), .val (.int p3), .val (.int p4), .val (.int (p2 - (65536 : Int32)))]) rfl q) ?_
    show OwnFin _ _ _ _ (s₁.setTop (mkF m 20 _ []))
    refine OwnFin.st (fun _ q => XS.aloadN X0.here hx rfl (hb hby d5_20) rfl rfl q) ?_
    show OwnFin _ _ _ _ (s₁.setTop (mkF m 21 _ [(.ref a0)]))
    refine OwnFin.st (fun _ q => XS.iloadN X0.here hx rfl (hb hby d5_21) rfl q) ?_
    show OwnFin _ _ _ _ (s₁.setTop (mkF m 22 _ [(.int p1), (.ref a0)]))
    refine OwnFin.st (X0.ldcInt hx hown (mvT hZ (w_ hw 66 rfl)) (g := (mkF m 22 #[.val (.ref a0), .val (.int p1), .val (.int p2), .val (.int p3), .val (.int p4), .val (.int (p2 - (65536 : Int32)))] [(.int p1), (.ref a0)])) rfl (hb hby d5_22)) ?_
    show OwnFin _ _ _ _ (s₁.setTop (mkF m 24 #[.val (.ref a0), .val (.int p1), .val (.int p2), .val (.int p3), .val (.int p4), .val (.int (p2 - (65536 : Int32)))] [(.int 55296), (.int p1), (.ref a0)]))
    refine OwnFin.st (fun _ q => XS.iload X0.here hx rfl (hb hby d5_24) rfl q) ?_
    show OwnFin _ _ _ _ (s₁.setTop (mkF m 26 _ [(.int (p2 - (65536 : Int32))), (.int 55296), (.int p1), (.ref a0)]))
    refine OwnFin.st (fun _ q => XS.bipush X0.here hx rfl (hb hby d5_26) q) ?_
    show OwnFin _ _ _ _ (s₁.setTop (mkF m 28 _ [(.int 10), (.int (p2 - (65536 : Int32))), (.int 55296), (.int p1), (.ref a0)]))
    refine OwnFin.st (fun _ q => XS.iushr X0.here hx rfl (hb hby d5_28) rfl q) ?_
    show OwnFin _ _ _ _ (s₁.setTop (mkF m 29 _ [(.int (((p2 - (65536 : Int32)).toUInt32 >>> ((10 : Int32) &&& 31).toUInt32).toInt32)), (.int 55296), (.int p1), (.ref a0)]))
    refine OwnFin.st (fun _ q => XS.iadd X0.here hx rfl (hb hby d5_29) rfl q) ?_
    show OwnFin _ _ _ _ (s₁.setTop (mkF m 30 _ [(.int ((55296 : Int32) + (((p2 - (65536 : Int32)).toUInt32 >>> ((10 : Int32) &&& 31).toUInt32).toInt32))), (.int p1), (.ref a0)]))
    refine OwnFin.st (fun _ q => XS.i2c X0.here hx rfl (hb hby d5_30) rfl q) ?_
    show OwnFin _ _ _ _ (s₁.setTop (mkF m 31 _ [(.int (((55296 : Int32) + (((p2 - (65536 : Int32)).toUInt32 >>> ((10 : Int32) &&& 31).toUInt32).toInt32)).toUInt32.toUInt16.toUInt32.toInt32)), (.int p1), (.ref a0)]))
    have Vo6 : Arv Z h0 a0 k_a0 .char z0 (own_ml z0 f0) (.int 0) := V_a0
    obtain ⟨cl6, Ar6, qa6, Sa6, Na6, Ha6, Ga6⟩ := id Vo6
    have hib6 : ¬ p1 < 0 ∧ p1 < z0 := (own_pb0 hpb hc1)
    obtain ⟨T6, h6, X6, e6, W6, st6⟩ := stC X0 hx hZ e0 Ar6 (j := p1) (inb_of Sa6 hib6) (g := (mkF m 31 #[.val (.ref a0), .val (.int p1), .val (.int p2), .val (.int p3), .val (.int p4), .val (.int (p2 - (65536 : Int32)))] [(.int (((55296 : Int32) + (((p2 - (65536 : Int32)).toUInt32 >>> ((10 : Int32) &&& 31).toUInt32).toInt32)).toUInt32.toUInt16.toUInt32.toInt32)), (.int p1), (.ref a0)])) rfl rfl (hb hby d5_31)
    refine OwnFin.st st6 ?_
    have V6 : Arv Z h6 a0 k_a0 .char z0 (own_ml z0 (own_upd f0 p1 (((55296 : Int32) + (((p2 - (65536 : Int32)).toUInt32 >>> ((10 : Int32) &&& 31).toUInt32).toInt32)).toUInt32.toUInt16.toUInt32.toInt32))) (.int 0) := by
      have z := Arv.set Ar6 qa6 Sa6 Na6 Ha6 Ga6 (fits_nar_char _) W6 _ rfl (by rw [own_mllen]; exact own_idx hib6)
      rw [own_nari2c, own_mlset] at z
      exact z
    have N6 := Fr.snoc X6 N0 g_a0
    have kp7 : Keep h0 h6 [a0] := kp0.wr W6 (Or.inl (List.mem_of_getElem? (i := 0) rfl))
    show OwnFin _ _ _ _ (T6.setTop (mkF m 32 _ []))
    refine OwnFin.st (fun _ q => XS.aloadN X6.here hx rfl (hb hby d5_32) rfl rfl q) ?_
    show OwnFin _ _ _ _ (T6.setTop (mkF m 33 _ [(.ref a0)]))
    refine OwnFin.st (fun _ q => XS.iloadN X6.here hx rfl (hb hby d5_33) rfl q) ?_
    show OwnFin _ _ _ _ (T6.setTop (mkF m 34 _ [(.int p1), (.ref a0)]))
    refine OwnFin.st (fun _ q => XS.iconst X6.here hx rfl (hb hby d5_34) q) ?_
    show OwnFin _ _ _ _ (T6.setTop (mkF m 35 _ [(.int 1), (.int p1), (.ref a0)]))
    refine OwnFin.st (fun _ q => XS.iadd X6.here hx rfl (hb hby d5_35) rfl q) ?_
    show OwnFin _ _ _ _ (T6.setTop (mkF m 36 _ [(.int (p1 + (1 : Int32))), (.ref a0)]))
    refine OwnFin.st (X6.ldcInt hx hown (mvT hZ (w_ hw 102 rfl)) (g := (mkF m 36 #[.val (.ref a0), .val (.int p1), .val (.int p2), .val (.int p3), .val (.int p4), .val (.int (p2 - (65536 : Int32)))] [(.int (p1 + (1 : Int32))), (.ref a0)])) rfl (hb hby d5_36)) ?_
    show OwnFin _ _ _ _ (T6.setTop (mkF m 38 _ [(.int 56320), (.int (p1 + (1 : Int32))), (.ref a0)]))
    refine OwnFin.st (fun _ q => XS.iload X6.here hx rfl (hb hby d5_38) rfl q) ?_
    show OwnFin _ _ _ _ (T6.setTop (mkF m 40 _ [(.int (p2 - (65536 : Int32))), (.int 56320), (.int (p1 + (1 : Int32))), (.ref a0)]))
    refine OwnFin.st (fun _ q => XS.sipush X6.here hx rfl (hb hby d5_40) q) ?_
    show OwnFin _ _ _ _ (T6.setTop (mkF m 43 #[.val (.ref a0), .val (.int p1), .val (.int p2), .val (.int p3), .val (.int p4), .val (.int (p2 - (65536 : Int32)))] [(.int 1023), (.int (p2 - (65536 : Int32))), (.int 56320), (.int (p1 + (1 : Int32))), (.ref a0)]))
    refine OwnFin.st (fun _ q => XS.iand X6.here hx rfl (hb hby d5_43) rfl q) ?_
    show OwnFin _ _ _ _ (T6.setTop (mkF m 44 _ [(.int ((p2 - (65536 : Int32)) &&& (1023 : Int32))), (.int 56320), (.int (p1 + (1 : Int32))), (.ref a0)]))
    refine OwnFin.st (fun _ q => XS.iadd X6.here hx rfl (hb hby d5_44) rfl q) ?_
    show OwnFin _ _ _ _ (T6.setTop (mkF m 45 _ [(.int ((56320 : Int32) + ((p2 - (65536 : Int32)) &&& (1023 : Int32)))), (.int (p1 + (1 : Int32))), (.ref a0)]))
    refine OwnFin.st (fun _ q => XS.i2c X6.here hx rfl (hb hby d5_45) rfl q) ?_
    show OwnFin _ _ _ _ (T6.setTop (mkF m 46 _ [(.int (((56320 : Int32) + ((p2 - (65536 : Int32)) &&& (1023 : Int32))).toUInt32.toUInt16.toUInt32.toInt32)), (.int (p1 + (1 : Int32))), (.ref a0)]))
    have Vo8 : Arv Z h6 a0 k_a0 .char z0 (own_ml z0 (own_upd f0 p1 (((55296 : Int32) + (((p2 - (65536 : Int32)).toUInt32 >>> ((10 : Int32) &&& 31).toUInt32).toInt32)).toUInt32.toUInt16.toUInt32.toInt32))) (.int 0) := V6
    obtain ⟨cl8, Ar8, qa8, Sa8, Na8, Ha8, Ga8⟩ := id Vo8
    have hib8 : ¬ (p1 + (1 : Int32)) < 0 ∧ (p1 + (1 : Int32)) < z0 := (own_pb1 hpb hc1 hc2)
    obtain ⟨T8, h8, X8, e8, W8, st8⟩ := stC X6 hx hZ e6 Ar8 (j := (p1 + (1 : Int32))) (inb_of Sa8 hib8) (g := (mkF m 46 #[.val (.ref a0), .val (.int p1), .val (.int p2), .val (.int p3), .val (.int p4), .val (.int (p2 - (65536 : Int32)))] [(.int (((56320 : Int32) + ((p2 - (65536 : Int32)) &&& (1023 : Int32))).toUInt32.toUInt16.toUInt32.toInt32)), (.int (p1 + (1 : Int32))), (.ref a0)])) rfl rfl (hb hby d5_46)
    refine OwnFin.st st8 ?_
    have V8 : Arv Z h8 a0 k_a0 .char z0 (own_ml z0 (own_upd (own_upd f0 p1 (((55296 : Int32) + (((p2 - (65536 : Int32)).toUInt32 >>> ((10 : Int32) &&& 31).toUInt32).toInt32)).toUInt32.toUInt16.toUInt32.toInt32)) (p1 + (1 : Int32)) (((56320 : Int32) + ((p2 - (65536 : Int32)) &&& (1023 : Int32))).toUInt32.toUInt16.toUInt32.toInt32))) (.int 0) := by
      have z := Arv.set Ar8 qa8 Sa8 Na8 Ha8 Ga8 (fits_nar_char _) W8 _ rfl (by rw [own_mllen]; exact own_idx hib8)
      rw [own_nari2c, own_mlset] at z
      exact z
    have N8 := Fr.snoc X8 N6 g_a0
    have kp9 : Keep h0 h8 [a0] := kp7.wr W8 (Or.inl (List.mem_of_getElem? (i := 0) rfl))
    show OwnFin _ _ _ _ (T8.setTop (mkF m 47 _ []))
    refine OwnFin.st (fun _ q => XS.iloadN X8.here hx rfl (hb hby d5_47) rfl q) ?_
    show OwnFin _ _ _ _ (T8.setTop (mkF m 48 _ [(.int p1)]))
    refine OwnFin.st (fun _ q => XS.iconst X8.here hx rfl (hb hby d5_48) q) ?_
    show OwnFin _ _ _ _ (T8.setTop (mkF m 49 _ [(.int 2), (.int p1)]))
    refine OwnFin.st (fun _ q => XS.iadd X8.here hx rfl (hb hby d5_49) rfl q) ?_
    show OwnFin _ _ _ _ (T8.setTop (mkF m 50 _ [(.int (p1 + (2 : Int32)))]))
    obtain ⟨fs, hr, hrun, hended, hW, hsame⟩ := X8.leave (v := some (.int (p1 + (2 : Int32)))) (fun h => by rw [Bd.returns] at h; cases h)
    refine ⟨_, _, retI X8 hx Bd.returns (hb hby d5_50) hr, hrun, hended, _, _, rfl, ?_, ⟨_, rfl⟩, hW, hsame.mono (by decide) (by decide)⟩
    show Q_rm_put Z a0 p1 p2 p3 p4 k_a0 z0 f0 h0 n0 _ T8.heap _
    rw [e8]
    have vE10 : Arv Z h8 a0 k_a0 .char z0 (own_ml z0 (own_pf f0 p1 p2 p3 p4)) (.int 0) := own_mlcong (by unfold own_pf; rw [if_pos hc1, if_neg hc2]) V8
    exact ⟨(by unfold own_pi own_w; rw [if_pos hc1, if_neg hc2]), N8, kp9, vE10⟩
  ·
   refine OwnFin.st (fun _ q => XS.icmpNo X0.here hx rfl (hb hby d5_3) rfl (Jvm.Free.XT.ii_lt_f hc1) q) ?_
   show OwnFin _ _ _ _ (s₁.setTop (mkF m 6 _ []))
   refine OwnFin.st (fun _ q => XS.iloadN X0.here hx rfl (hb hby d5_6) rfl q) ?_
   show OwnFin _ _ _ _ (s₁.setTop (mkF m 7 _ [(.int p1)]))
   obtain ⟨fs, hr, hrun, hended, hW, hsame⟩ := X0.leave (v := some (.int p1)) (fun h => by rw [Bd.returns] at h; cases h)
   refine ⟨_, _, retI X0 hx Bd.returns (hb hby d5_7) hr, hrun, hended, _, _, rfl, ?_, ⟨_, rfl⟩, hW, hsame.mono (by decide) (by decide)⟩
   show Q_rm_put Z a0 p1 p2 p3 p4 k_a0 z0 f0 h0 n0 _ s₁.heap _
   rw [e0]
   have vE11 : Arv Z h0 a0 k_a0 .char z0 (own_ml z0 (own_pf f0 p1 p2 p3 p4)) (.int 0) := own_mlcong (by unfold own_pf; rw [if_neg hc1]) V_a0
   exact ⟨(by unfold own_pi own_w; rw [if_neg hc1]; simp), N0, kp0, vE11⟩
def own_bk (n a b c : Int32) : Int32 := (own_w a (0 : Int32) n + own_w b (1 : Int32) n) + own_w c (2 : Int32) n
def own_i1 (n a : Int32) : Int32 := own_pi (0 : Int32) a (0 : Int32) n
def own_i2 (n a b : Int32) : Int32 := own_pi (own_i1 n a) b (1 : Int32) n
def own_bf (n a b c : Int32) : Nat → Int32 := own_pf (own_pf (own_pf own_zf (0 : Int32) a (0 : Int32) n) (own_i1 n a) b (1 : Int32) n) (own_i2 n a b) c (2 : Int32) n
def own_bcd (n a b c : Int32) : Int32 := if own_bk n a b c = (0 : Int32) then 0 else if own_c5 (own_bf n a b c) (own_bk n a b c) = own_bk n a b c then 0 else 1
def own_bz (n a b c : Int32) : Int32 := if own_bk n a b c = (0 : Int32) then 0 else if own_c5 (own_bf n a b c) (own_bk n a b c) = own_bk n a b c then own_bk n a b c else (own_bk n a b c <<< ((1 : Int32) &&& 31))
def own_bb (n a b c : Int32) : Nat → Int32 := if own_bk n a b c = (0 : Int32) then own_zf else if own_c5 (own_bf n a b c) (own_bk n a b c) = own_bk n a b c then own_fl (own_bf n a b c) (own_bk n a b c) else own_uf (own_bf n a b c) (own_bk n a b c)
theorem own_add {x y : Int32} (h : -1000 ≤ x.toInt ∧ x.toInt ≤ 1000 ∧ -1000 ≤ y.toInt ∧ y.toInt ≤ 1000) : (x + y).toInt = x.toInt + y.toInt := by
  have a := c_iadd x y; have b := rng32 (x + y); omega
theorem own_bkv (n a b c : Int32) : (own_bk n a b c).toInt = (own_w a (0 : Int32) n).toInt + (own_w b (1 : Int32) n).toInt + (own_w c (2 : Int32) n).toInt := by
  have x := own_wb a (0 : Int32) n; have y := own_wb b (1 : Int32) n; have z := own_wb c (2 : Int32) n
  have e := own_add (x := own_w a (0 : Int32) n) (y := own_w b (1 : Int32) n) (by omega)
  unfold own_bk; rw [own_add (by omega), e]
theorem own_i1v (n a : Int32) : (own_i1 n a).toInt = (own_w a (0 : Int32) n).toInt := by
  have x := own_wb a (0 : Int32) n; have r : (0 : Int32).toInt = 0 := rfl
  unfold own_i1 own_pi; rw [own_add (by omega)]; omega
theorem own_i2v (n a b : Int32) : (own_i2 n a b).toInt = (own_w a (0 : Int32) n).toInt + (own_w b (1 : Int32) n).toInt := by
  have x := own_wb a (0 : Int32) n; have y := own_wb b (1 : Int32) n; have e := own_i1v n a
  unfold own_i2 own_pi; rw [own_add (by omega)]; omega
theorem own_kb (n a b c : Int32) : ¬ own_bk n a b c < (0 : Int32) ∧ ¬ (6 : Int32) < own_bk n a b c := by
  have x := own_wb a (0 : Int32) n; have y := own_wb b (1 : Int32) n; have z := own_wb c (2 : Int32) n; have e := own_bkv n a b c; have r : (0 : Int32).toInt = 0 := rfl; have r6 : (6 : Int32).toInt = 6 := rfl
  rw [Int32.lt_iff_toInt_lt, Int32.lt_iff_toInt_lt]; omega
theorem own_hp0 (n a b c : Int32) : (0 : Int32) < n → 0 ≤ (0 : Int32).toInt ∧ (0 : Int32).toInt + (own_w a (0 : Int32) n).toInt ≤ (own_bk n a b c).toInt := fun _ => by
  have x := own_wb a (0 : Int32) n; have y := own_wb b (1 : Int32) n; have z := own_wb c (2 : Int32) n; have e := own_bkv n a b c; have r : (0 : Int32).toInt = 0 := rfl; omega
theorem own_hp1 (n a b c : Int32) : (1 : Int32) < n → 0 ≤ (own_i1 n a).toInt ∧ (own_i1 n a).toInt + (own_w b (1 : Int32) n).toInt ≤ (own_bk n a b c).toInt := fun _ => by
  have x := own_wb a (0 : Int32) n; have y := own_wb b (1 : Int32) n; have z := own_wb c (2 : Int32) n; have e := own_bkv n a b c; have i := own_i1v n a; omega
theorem own_hp2 (n a b c : Int32) : (2 : Int32) < n → 0 ≤ (own_i2 n a b).toInt ∧ (own_i2 n a b).toInt + (own_w c (2 : Int32) n).toInt ≤ (own_bk n a b c).toInt := fun _ => by
  have x := own_wb a (0 : Int32) n; have y := own_wb b (1 : Int32) n; have z := own_wb c (2 : Int32) n; have e := own_bkv n a b c; have i := own_i2v n a b; omega
theorem own_updch {f : Nat → Int32} (h : ∀ j, nar .char (f j) = f j) (i x : Int32) : ∀ j, nar .char (own_upd f i x.toUInt32.toUInt16.toUInt32.toInt32 j) = own_upd f i x.toUInt32.toUInt16.toUInt32.toInt32 j := fun j => by
  unfold own_upd; split; exact own_nari2c; exact h j
theorem own_pfch {f : Nat → Int32} (h : ∀ j, nar .char (f j) = f j) (p1 p2 p3 p4 : Int32) : ∀ j, nar .char (own_pf f p1 p2 p3 p4 j) = own_pf f p1 p2 p3 p4 j := by
  unfold own_pf; split; split
  · exact own_updch h _ _
  · exact own_updch (own_updch h _ _) _ _
  · exact h
theorem own_bfch (n a b c : Int32) : ∀ j, nar .char (own_bf n a b c j) = own_bf n a b c j := own_pfch (own_pfch (own_pfch (fun j => by show nar .char (0 : Int32) = 0; decide) _ _ _ _) _ _ _ _) _ _ _ _
theorem own_ml0 (f : Nat → Int32) : own_ml (0 : Int32) f = [] := by simp [own_ml]
theorem pd_18 : parseMethodDescriptor "(III)I" = some ⟨[.int, .int, .int], some .int⟩ := by decide +kernel
theorem pd_19 : parseMethodDescriptor "([CIIII)I" = some ⟨[(.array .char), .int, .int, .int, .int], some .int⟩ := by decide +kernel
theorem pd_20 : parseMethodDescriptor "([C)V" = some ⟨[(.array .char)], none⟩ := by decide +kernel
theorem d3_0 : decode method_7_code 0 = .ok (.iload_n 1, 1) := by decide +kernel
theorem d3_1 : decode method_7_code 1 = .ok (.iconst 0, 1) := by decide +kernel
theorem d3_2 : decode method_7_code 2 = .ok (.iload_n 0, 1) := by decide +kernel
theorem d3_3 : decode method_7_code 3 = .ok (.invokestatic 45, 3) := by decide +kernel
theorem d3_6 : decode method_7_code 6 = .ok (.iload_n 2, 1) := by decide +kernel
theorem d3_7 : decode method_7_code 7 = .ok (.iconst 1, 1) := by decide +kernel
theorem d3_8 : decode method_7_code 8 = .ok (.iload_n 0, 1) := by decide +kernel
theorem d3_9 : decode method_7_code 9 = .ok (.invokestatic 45, 3) := by decide +kernel
theorem d3_12 : decode method_7_code 12 = .ok (.iadd, 1) := by decide +kernel
theorem d3_13 : decode method_7_code 13 = .ok (.iload_n 3, 1) := by decide +kernel
theorem d3_14 : decode method_7_code 14 = .ok (.iconst 2, 1) := by decide +kernel
theorem d3_15 : decode method_7_code 15 = .ok (.iload_n 0, 1) := by decide +kernel
theorem d3_16 : decode method_7_code 16 = .ok (.invokestatic 45, 3) := by decide +kernel
theorem d3_19 : decode method_7_code 19 = .ok (.iadd, 1) := by decide +kernel
theorem d3_20 : decode method_7_code 20 = .ok (.istore 4, 2) := by decide +kernel
theorem d3_22 : decode method_7_code 22 = .ok (.iload 4, 2) := by decide +kernel
theorem d3_24 : decode method_7_code 24 = .ok (.newarray .char, 2) := by decide +kernel
theorem d3_26 : decode method_7_code 26 = .ok (.astore 5, 2) := by decide +kernel
theorem d3_28 : decode method_7_code 28 = .ok (.iconst 0, 1) := by decide +kernel
theorem d3_29 : decode method_7_code 29 = .ok (.istore 6, 2) := by decide +kernel
theorem d3_31 : decode method_7_code 31 = .ok (.aload 5, 2) := by decide +kernel
theorem d3_33 : decode method_7_code 33 = .ok (.iload 6, 2) := by decide +kernel
theorem d3_35 : decode method_7_code 35 = .ok (.iload_n 1, 1) := by decide +kernel
theorem d3_36 : decode method_7_code 36 = .ok (.iconst 0, 1) := by decide +kernel
theorem d3_37 : decode method_7_code 37 = .ok (.iload_n 0, 1) := by decide +kernel
theorem d3_38 : decode method_7_code 38 = .ok (.invokestatic 48, 3) := by decide +kernel
theorem d3_41 : decode method_7_code 41 = .ok (.istore 6, 2) := by decide +kernel
theorem d3_43 : decode method_7_code 43 = .ok (.aload 5, 2) := by decide +kernel
theorem d3_45 : decode method_7_code 45 = .ok (.iload 6, 2) := by decide +kernel
theorem d3_47 : decode method_7_code 47 = .ok (.iload_n 2, 1) := by decide +kernel
theorem d3_48 : decode method_7_code 48 = .ok (.iconst 1, 1) := by decide +kernel
theorem d3_49 : decode method_7_code 49 = .ok (.iload_n 0, 1) := by decide +kernel
theorem d3_50 : decode method_7_code 50 = .ok (.invokestatic 48, 3) := by decide +kernel
theorem d3_53 : decode method_7_code 53 = .ok (.istore 6, 2) := by decide +kernel
theorem d3_55 : decode method_7_code 55 = .ok (.aload 5, 2) := by decide +kernel
theorem d3_57 : decode method_7_code 57 = .ok (.iload 6, 2) := by decide +kernel
theorem d3_59 : decode method_7_code 59 = .ok (.iload_n 3, 1) := by decide +kernel
theorem d3_60 : decode method_7_code 60 = .ok (.iconst 2, 1) := by decide +kernel
theorem d3_61 : decode method_7_code 61 = .ok (.iload_n 0, 1) := by decide +kernel
theorem d3_62 : decode method_7_code 62 = .ok (.invokestatic 48, 3) := by decide +kernel
theorem d3_65 : decode method_7_code 65 = .ok (.istore 6, 2) := by decide +kernel
theorem d3_67 : decode method_7_code 67 = .ok (.new 52, 3) := by decide +kernel
theorem d3_70 : decode method_7_code 70 = .ok (.dup, 1) := by decide +kernel
theorem d3_71 : decode method_7_code 71 = .ok (.aload 5, 2) := by decide +kernel
theorem d3_73 : decode method_7_code 73 = .ok (.invokespecial 54, 3) := by decide +kernel
theorem d3_76 : decode method_7_code 76 = .ok (.areturn, 1) := by decide +kernel
theorem ef_rm_build (m : MethodId) (p0 : Int32) (p1 : Int32) (p2 : Int32) (p3 : Int32) : entryFrame m #[(.int p0), (.int p1), (.int p2), (.int p3)] 7 = mkF m 0 #[.val (.int p0), .val (.int p1), .val (.int p2), .val (.int p3), .unset, .unset, .unset] [] := by first | (simp [entryFrame, mkF, argsToLocals, Value.category]; done) | rfl
def Q_rm_build (Z : State) (p0 : Int32) (p1 : Int32) (p2 : Int32) (p3 : Int32) (w_COMPACT_STRINGS : Int32) (h0 : Heap) (n0 : Nat) (v : Option Value) (h : Heap) (L : List Loc) : Prop := ∃ (xT : Addr) (bT : Addr) (kT : ClassId), v = some (.ref xT) ∧ Fr n0 L ∧ Keep h0 h [] ∧ h0.size ≤ xT ∧ Exa Z h xT "java/lang/String" ∧ Fld Z h xT "java/lang/String" "coder" "B" (.int (own_bcd p0 p1 p2 p3)) ∧ Fld Z h xT "java/lang/String" "value" "[B" (.ref bT) ∧ Arv Z h bT kT .byte (own_bz p0 p1 p2 p3) (own_ml (own_bz p0 p1 p2 p3) (own_bb p0 p1 p2 p3)) (.int 0)
set_option maxRecDepth 65536 in
set_option maxHeartbeats 40000000 in
theorem rm_build (l : Launch) (Z : State) (av0 : Array Value) (hw : ∀ d ∈ tables_1, d.before av0 Z = true) (ws : List Jvm.Cond) (p0 : Int32) (p1 : Int32) (p2 : Int32) (p3 : Int32) (w_COMPACT_STRINGS : Int32) (h0 : Heap) (n0 : Nat) (Z0 : n0 ≤ h0.size) (Ol0 : Old Z n0 h0) (hcs : ¬ (w_COMPACT_STRINGS = (0 : Int32))) (S_COMPACT_STRINGS : Sta Z Z.heap "java/lang/String" "COMPACT_STRINGS" "Z" (.int w_COMPACT_STRINGS)) (S__assertionsDisabled : Sta Z Z.heap "java/lang/StringUTF16" "$assertionsDisabled" "Z" (.int 1)) (S_HI_BYTE_SHIFT : Sta Z Z.heap "java/lang/StringUTF16" "HI_BYTE_SHIFT" "I" (.int 0)) (S_LO_BYTE_SHIFT : Sta Z Z.heap "java/lang/StringUTF16" "LO_BYTE_SHIFT" "I" (.int 8)) :
    MetFree l yM26 (head1 (Jvm.Cond.code yM26 method_7_code 7 (some (.object "java/lang/String")) :: ws) ({ frames := 6, cells := 6, slots := 28, locals := 88 } : Room)) (fun a U => a = #[(.int p0), (.int p1), (.int p2), (.int p3)] ∧ Z.Warmed39 U.vm ∧ U.heap = h0 ∧ CHv Z own_EL U.vm h0) (fun _ _ _ _ _ => True) (fun _ U o U' => ∃ v L, o = .returned v ∧ Q_rm_build Z p0 p1 p2 p3 w_COMPACT_STRINGS h0 n0 v U'.heap L ∧ CHr Z own_EL U.vm U.heap U'.vm U'.heap ∧ ReturnedEndW U o U' L ({ frames := 6, cells := 6, slots := 28, locals := 88 } : Room).cells ({ frames := 6, cells := 6, slots := 28, locals := 88 } : Room).slots) := by
  refine MetFree.of_bodySF (plainFor_of_name pn_6) hisR ?_
  intro p e s m args below meth c s₁ Bd hml0 hP hK
  obtain ⟨rfl, hZ, hh, hCH⟩ := hP
  have hx := Bd.exec
  have hby := Bd.bytes
  have hml : c.maxLocals = 7 := hml0
  have hown : (s.setVm s.vm).vm.findClass "com/example/libaccrue/libaccrue/records/TextOrderComparePinLaw" = some m.cls := findClass_of_methodNamed Bd.named
  have hnm := (name_of_methodNamed Bd.named Bd.method).1
  have X0 : Stand p l e ({ frames := 6, cells := 6, slots := 28, locals := 88 } : Room) (s.setVm s.vm) m #[(.int p0), (.int p1), (.int p2), (.int p3)] below meth c s₁ [] 0 0 := Stand.of_body Bd
  have e0 : s₁.heap = h0 := by rw [← hh, Bd.state]; rfl
  have N0 := Fr.nil n0
  have hZ : Z.Warmed39 (s.setVm s.vm).vm := hZ
  have hS0 : s.Since s.vm s.heap.size := (State.WarmedH.refl s).since _
  have hk0 : s.heap.size ≤ h0.size := Nat.le_of_eq (by rw [hh])
  have ch0 : CHr Z own_EL s.vm h0 s.vm h0 := CHr.refl hCH
  have pre0 : ∀ t, Steps p.tables e below (s₁.setTop (mkF m 0 #[.val (.int p0), .val (.int p1), .val (.int p2), .val (.int p3), .unset, .unset, .unset] [])) t → Steps p.tables e below (s₁.setTop (entryFrame m #[(.int p0), (.int p1), (.int p2), (.int p3)] 7)) t := fun t k => castTop (ef_rm_build m p0 p1 p2 p3) k
  change OwnFin p.tables e below _ (s₁.setTop (entryFrame m #[(.int p0), (.int p1), (.int p2), (.int p3)] 7))
  have kp0 : Keep h0 h0 [] := Keep.refl _ _
  refine OwnFin.st (fun _ q => pre0 _ q) ?_
  show OwnFin _ _ _ _ (s₁.setTop (mkF m 0 #[.val (.int p0), .val (.int p1), .val (.int p2), .val (.int p3), .unset, .unset, .unset] []))
  refine OwnFin.st (fun _ q => XS.iloadN X0.here hx rfl (hb hby d3_0) rfl q) ?_
  show OwnFin _ _ _ _ (s₁.setTop (mkF m 1 _ [(.int p1)]))
  refine OwnFin.st (fun _ q => XS.iconst X0.here hx rfl (hb hby d3_1) q) ?_
  show OwnFin _ _ _ _ (s₁.setTop (mkF m 2 _ [(.int 0), (.int p1)]))
  refine OwnFin.st (fun _ q => XS.iloadN X0.here hx rfl (hb hby d3_2) rfl q) ?_
  show OwnFin _ _ _ _ (s₁.setTop (mkF m 3 _ [(.int p0), (.int 0), (.int p1)]))
  obtain ⟨_, _, ⟨T1, L1, k1, n1⟩, -, X1, ⟨Lc1, hQ1, l1, y1, z1⟩, st1⟩ := Jvm.LawKit.callS X0 hx (y := yM24) hown (mvT hZ (w_ hw 13 rfl)) (mvT hZ (w_ hw 14 rfl)) (mvT hZ (w_ hw 2 rfl)) (mvT hZ (w_ hw 15 rfl)) (by decide) (backOf (W := 0) (rm_w l Z av0 hw [] p1 (0 : Int32) p0 h0 n0 (Nat.le_trans Z0 kp0.1) ) hZ (w_ hw 15 rfl) (w_ hw 2 rfl) (by decide) (by decide)) (g := (mkF m 3 #[.val (.int p0), .val (.int p1), .val (.int p2), .val (.int p3), .unset, .unset, .unset] [(.int p0), (.int 0), (.int p1)])) rfl (by rw [hml]; rfl) (argsL := [(.int p1), (.int 0), (.int p0)]) (rest := []) (lenOf pd_18 rfl) rfl (by show 2 * 0 + _ ≤ _; exact Nat.le_of_eq rfl) (hb hby d3_3) (fun _ _ => ⟨rfl, e0, (by decide : 0 + 0 ≤ _), (by decide : 0 + 0 ≤ _)⟩)
  dsimp only [Pt.U, Pt.locs, Pt.cells, Pt.slots] at X1 l1 y1 z1 st1 hQ1
  subst l1 y1 z1
  obtain ⟨rfl, N1q, he1⟩ := hQ1
  have N1 := Fr.app N0 N1q
  refine OwnFin.st st1 ?_
  show OwnFin _ _ _ _ (T1.setTop (mkF m 6 _ [(.int (own_w p1 (0 : Int32) p0))]))
  refine OwnFin.st (fun _ q => XS.iloadN X1.here hx rfl (hb hby d3_6) rfl q) ?_
  show OwnFin _ _ _ _ (T1.setTop (mkF m 7 _ [(.int p2), (.int (own_w p1 (0 : Int32) p0))]))
  refine OwnFin.st (fun _ q => XS.iconst X1.here hx rfl (hb hby d3_7) q) ?_
  show OwnFin _ _ _ _ (T1.setTop (mkF m 8 _ [(.int 1), (.int p2), (.int (own_w p1 (0 : Int32) p0))]))
  refine OwnFin.st (fun _ q => XS.iloadN X1.here hx rfl (hb hby d3_8) rfl q) ?_
  show OwnFin _ _ _ _ (T1.setTop (mkF m 9 _ [(.int p0), (.int 1), (.int p2), (.int (own_w p1 (0 : Int32) p0))]))
  obtain ⟨_, _, ⟨T2, L2, k2, n2⟩, -, X2, ⟨Lc2, hQ2, l2, y2, z2⟩, st2⟩ := Jvm.LawKit.callS X1 hx (y := yM24) hown (mvT hZ (w_ hw 13 rfl)) (mvT hZ (w_ hw 14 rfl)) (mvT hZ (w_ hw 2 rfl)) (mvT hZ (w_ hw 15 rfl)) (by decide) (backOf (W := 1) (rm_w l Z av0 hw [] p2 (1 : Int32) p0 h0 n0 (Nat.le_trans Z0 kp0.1) ) hZ (w_ hw 15 rfl) (w_ hw 2 rfl) (by decide) (by decide)) (g := (mkF m 9 #[.val (.int p0), .val (.int p1), .val (.int p2), .val (.int p3), .unset, .unset, .unset] [(.int p0), (.int 1), (.int p2), (.int (own_w p1 (0 : Int32) p0))])) rfl (by rw [hml]; rfl) (argsL := [(.int p2), (.int 1), (.int p0)]) (rest := [(.int (own_w p1 (0 : Int32) p0))]) (lenOf pd_18 rfl) rfl (by show 2 * 0 + _ ≤ _; exact Nat.le_of_eq rfl) (hb hby d3_9) (fun _ _ => ⟨rfl, he1, (by decide : 0 + 0 ≤ _), (by decide : 0 + 0 ≤ _)⟩)
  dsimp only [Pt.U, Pt.locs, Pt.cells, Pt.slots] at X2 l2 y2 z2 st2 hQ2
  subst l2 y2 z2
  obtain ⟨rfl, N2q, he2⟩ := hQ2
  have N2 := Fr.app N1 N2q
  refine OwnFin.st st2 ?_
  show OwnFin _ _ _ _ (T2.setTop (mkF m 12 _ [(.int (own_w p2 (1 : Int32) p0)), (.int (own_w p1 (0 : Int32) p0))]))
  refine OwnFin.st (fun _ q => XS.iadd X2.here hx rfl (hb hby d3_12) rfl q) ?_
  show OwnFin _ _ _ _ (T2.setTop (mkF m 13 _ [(.int ((own_w p1 (0 : Int32) p0) + (own_w p2 (1 : Int32) p0)))]))
  refine OwnFin.st (fun _ q => XS.iloadN X2.here hx rfl (hb hby d3_13) rfl q) ?_
  show OwnFin _ _ _ _ (T2.setTop (mkF m 14 _ [(.int p3), (.int ((own_w p1 (0 : Int32) p0) + (own_w p2 (1 : Int32) p0)))]))
  refine OwnFin.st (fun _ q => XS.iconst X2.here hx rfl (hb hby d3_14) q) ?_
  show OwnFin _ _ _ _ (T2.setTop (mkF m 15 _ [(.int 2), (.int p3), (.int ((own_w p1 (0 : Int32) p0) + (own_w p2 (1 : Int32) p0)))]))
  refine OwnFin.st (fun _ q => XS.iloadN X2.here hx rfl (hb hby d3_15) rfl q) ?_
  show OwnFin _ _ _ _ (T2.setTop (mkF m 16 _ [(.int p0), (.int 2), (.int p3), (.int ((own_w p1 (0 : Int32) p0) + (own_w p2 (1 : Int32) p0)))]))
  obtain ⟨_, _, ⟨T3, L3, k3, n3⟩, -, X3, ⟨Lc3, hQ3, l3, y3, z3⟩, st3⟩ := Jvm.LawKit.callS X2 hx (y := yM24) hown (mvT hZ (w_ hw 13 rfl)) (mvT hZ (w_ hw 14 rfl)) (mvT hZ (w_ hw 2 rfl)) (mvT hZ (w_ hw 15 rfl)) (by decide) (backOf (W := 1) (rm_w l Z av0 hw [] p3 (2 : Int32) p0 h0 n0 (Nat.le_trans Z0 kp0.1) ) hZ (w_ hw 15 rfl) (w_ hw 2 rfl) (by decide) (by decide)) (g := (mkF m 16 #[.val (.int p0), .val (.int p1), .val (.int p2), .val (.int p3), .unset, .unset, .unset] [(.int p0), (.int 2), (.int p3), (.int ((own_w p1 (0 : Int32) p0) + (own_w p2 (1 : Int32) p0)))])) rfl (by rw [hml]; rfl) (argsL := [(.int p3), (.int 2), (.int p0)]) (rest := [(.int ((own_w p1 (0 : Int32) p0) + (own_w p2 (1 : Int32) p0)))]) (lenOf pd_18 rfl) rfl (by show 2 * 0 + _ ≤ _; exact Nat.le_of_eq rfl) (hb hby d3_16) (fun _ _ => ⟨rfl, he2, (by decide : 0 + 0 ≤ _), (by decide : 0 + 0 ≤ _)⟩)
  dsimp only [Pt.U, Pt.locs, Pt.cells, Pt.slots] at X3 l3 y3 z3 st3 hQ3
  subst l3 y3 z3
  obtain ⟨rfl, N3q, he3⟩ := hQ3
  have N3 := Fr.app N2 N3q
  refine OwnFin.st st3 ?_
  show OwnFin _ _ _ _ (T3.setTop (mkF m 19 #[.val (.int p0), .val (.int p1), .val (.int p2), .val (.int p3), .unset, .unset, .unset] [(.int (own_w p3 (2 : Int32) p0)), (.int ((own_w p1 (0 : Int32) p0) + (own_w p2 (1 : Int32) p0)))]))
  refine OwnFin.st (fun _ q => XS.iadd X3.here hx rfl (hb hby d3_19) rfl q) ?_
  show OwnFin _ _ _ _ (T3.setTop (mkF m 20 _ [(.int (((own_w p1 (0 : Int32) p0) + (own_w p2 (1 : Int32) p0)) + (own_w p3 (2 : Int32) p0)))]))
  refine OwnFin.st (fun _ q => XS.istore X3.here hx rfl (hb hby d3_20) rfl (l' := #[.val (.int p0), .val (.int p1), .val (.int p2), .val (.int p3), .val (.int (((own_w p1 (0 : Int32) p0) + (own_w p2 (1 : Int32) p0)) + (own_w p3 (2 : Int32) p0))), .unset, .unset]) rfl q) ?_
  show OwnFin _ _ _ _ (T3.setTop (mkF m 22 _ []))
  refine OwnFin.st (fun _ q => XS.iload X3.here hx rfl (hb hby d3_22) rfl q) ?_
  show OwnFin _ _ _ _ (T3.setTop (mkF m 24 _ [(.int (((own_w p1 (0 : Int32) p0) + (own_w p2 (1 : Int32) p0)) + (own_w p3 (2 : Int32) p0)))]))
  obtain ⟨T4, h4, k4, X4, e4, E4, A4, st4⟩ := newP X3 hx hZ (w_ hw 16 rfl) he3 (g := (mkF m 24 #[.val (.int p0), .val (.int p1), .val (.int p2), .val (.int p3), .val (.int (((own_w p1 (0 : Int32) p0) + (own_w p2 (1 : Int32) p0)) + (own_w p3 (2 : Int32) p0))), .unset, .unset] [(.int (((own_w p1 (0 : Int32) p0) + (own_w p2 (1 : Int32) p0)) + (own_w p3 (2 : Int32) p0)))])) rfl (hb hby d3_24) rfl (own_kb p0 p1 p2 p3).1 (cap := 6) (own_cap (own_kb p0 p1 p2 p3).1 (own_kb p0 p1 p2 p3).2).2.2.2.2 (by decide) (by decide) (by decide)
  obtain ⟨b4, qe4⟩ : ∃ z, z = h0.size := ⟨_, rfl⟩
  rw [← qe4] at A4 st4
  refine OwnFin.st st4 ?_
  have bi_b4 : h0.size ≤ b4 := Nat.le_of_eq qe4.symm
  have lo_b4 : h0.size ≤ b4 := Nat.le_trans kp0.1 bi_b4
  have g_b4 : n0 ≤ b4 := Nat.le_trans Z0 lo_b4
  have ch5 := ch0.trans (CHr.ext E4 ch0.1)
  have kp5 : Keep h0 h4 [] := kp0.ext E4
  have ol5 : Old Z n0 h4 := Ol0.ext E4
  have V4 : Arv Z h4 b4 k4 .char (((own_w p1 (0 : Int32) p0) + (own_w p2 (1 : Int32) p0)) + (own_w p3 (2 : Int32) p0)) (own_ml (((own_w p1 (0 : Int32) p0) + (own_w p2 (1 : Int32) p0)) + (own_w p3 (2 : Int32) p0)) own_zf) (.int 0) := (Arv.new A4 (own_kb p0 p1 p2 p3).1).pad (own_mlnew _)
  show OwnFin _ _ _ _ (T4.setTop (mkF m 26 _ [(.ref b4)]))
  refine OwnFin.st (fun _ q => XS.astore X4.here hx rfl (hb hby d3_26) rfl rfl (l' := #[.val (.int p0), .val (.int p1), .val (.int p2), .val (.int p3), .val (.int (((own_w p1 (0 : Int32) p0) + (own_w p2 (1 : Int32) p0)) + (own_w p3 (2 : Int32) p0))), .val (.ref b4), .unset]) rfl q) ?_
  show OwnFin _ _ _ _ (T4.setTop (mkF m 28 _ []))
  refine OwnFin.st (fun _ q => XS.iconst X4.here hx rfl (hb hby d3_28) q) ?_
  show OwnFin _ _ _ _ (T4.setTop (mkF m 29 _ [(.int 0)]))
  refine OwnFin.st (fun _ q => XS.istore X4.here hx rfl (hb hby d3_29) rfl (l' := #[.val (.int p0), .val (.int p1), .val (.int p2), .val (.int p3), .val (.int (((own_w p1 (0 : Int32) p0) + (own_w p2 (1 : Int32) p0)) + (own_w p3 (2 : Int32) p0))), .val (.ref b4), .val (.int 0)]) rfl q) ?_
  show OwnFin _ _ _ _ (T4.setTop (mkF m 31 _ []))
  refine OwnFin.st (fun _ q => XS.aload X4.here hx rfl (hb hby d3_31) rfl rfl q) ?_
  show OwnFin _ _ _ _ (T4.setTop (mkF m 33 _ [(.ref b4)]))
  refine OwnFin.st (fun _ q => XS.iload X4.here hx rfl (hb hby d3_33) rfl q) ?_
  show OwnFin _ _ _ _ (T4.setTop (mkF m 35 _ [(.int 0), (.ref b4)]))
  refine OwnFin.st (fun _ q => XS.iloadN X4.here hx rfl (hb hby d3_35) rfl q) ?_
  show OwnFin _ _ _ _ (T4.setTop (mkF m 36 _ [(.int p1), (.int 0), (.ref b4)]))
  refine OwnFin.st (fun _ q => XS.iconst X4.here hx rfl (hb hby d3_36) q) ?_
  show OwnFin _ _ _ _ (T4.setTop (mkF m 37 _ [(.int 0), (.int p1), (.int 0), (.ref b4)]))
  refine OwnFin.st (fun _ q => XS.iloadN X4.here hx rfl (hb hby d3_37) rfl q) ?_
  show OwnFin _ _ _ _ (T4.setTop (mkF m 38 _ [(.int p0), (.int 0), (.int p1), (.int 0), (.ref b4)]))
  obtain ⟨_, _, ⟨T6, L6, k6, n6⟩, -, X6, ⟨Lc6, hQ6, l6, y6, z6⟩, st6⟩ := Jvm.LawKit.callS X4 hx (y := yM25) hown (mvT hZ (w_ hw 17 rfl)) (mvT hZ (w_ hw 18 rfl)) (mvT hZ (w_ hw 2 rfl)) (mvT hZ (w_ hw 19 rfl)) (by decide) (backOf (W := 0) (rm_put l Z av0 hw [] b4 (0 : Int32) p1 (0 : Int32) p0 k4 (((own_w p1 (0 : Int32) p0) + (own_w p2 (1 : Int32) p0)) + (own_w p3 (2 : Int32) p0)) own_zf h4 n0 (Nat.le_trans Z0 kp5.1) V4 (own_hp0 p0 p1 p2 p3) g_b4) hZ (w_ hw 19 rfl) (w_ hw 2 rfl) (by decide) (by decide)) (g := (mkF m 38 #[.val (.int p0), .val (.int p1), .val (.int p2), .val (.int p3), .val (.int (((own_w p1 (0 : Int32) p0) + (own_w p2 (1 : Int32) p0)) + (own_w p3 (2 : Int32) p0))), .val (.ref b4), .val (.int 0)] [(.int p0), (.int 0), (.int p1), (.int 0), (.ref b4)])) rfl (by rw [hml]; rfl) (argsL := [(.ref b4), (.int 0), (.int p1), (.int 0), (.int p0)]) (rest := []) (lenOf pd_19 rfl) rfl (by show 2 * 0 + _ ≤ _; exact Nat.le_of_eq rfl) (hb hby d3_38) (fun _ _ => ⟨rfl, e4, (by decide : 1 + 0 ≤ _), (by decide : 6 + 0 ≤ _)⟩)
  dsimp only [Pt.U, Pt.locs, Pt.cells, Pt.slots] at X6 l6 y6 z6 st6 hQ6
  subst l6 y6 z6
  obtain ⟨rfl, N6q, K6, r6_0⟩ := hQ6
  have N6 := Fr.app N3 N6q
  refine OwnFin.st st6 ?_
  obtain ⟨h6, e6⟩ : ∃ z, T6.heap = z := ⟨_, rfl⟩
  rw [e6] at K6 r6_0
  have ch7 := ch5.trans (CHr.keep K6 (sfS (Safe.arv (hZ).alike V4 (by decide)) sf0) ch5.1)
  have kp7 : Keep h0 h6 [] := kp5.trans K6 (allS (Or.inr lo_b4) all0)
  have ol7 : Old Z n0 h6 := ol5.keep K6 (allS g_b4 all0)
  show OwnFin _ _ _ _ (T6.setTop (mkF m 41 #[.val (.int p0), .val (.int p1), .val (.int p2), .val (.int p3), .val (.int (((own_w p1 (0 : Int32) p0) + (own_w p2 (1 : Int32) p0)) + (own_w p3 (2 : Int32) p0))), .val (.ref b4), .val (.int 0)] [(.int (own_pi (0 : Int32) p1 (0 : Int32) p0))]))
  refine OwnFin.st (fun _ q => XS.istore X6.here hx rfl (hb hby d3_41) rfl (l' := #[.val (.int p0), .val (.int p1), .val (.int p2), .val (.int p3), .val (.int (((own_w p1 (0 : Int32) p0) + (own_w p2 (1 : Int32) p0)) + (own_w p3 (2 : Int32) p0))), .val (.ref b4), .val (.int (own_pi (0 : Int32) p1 (0 : Int32) p0))]) rfl q) ?_
  show OwnFin _ _ _ _ (T6.setTop (mkF m 43 _ []))
  refine OwnFin.st (fun _ q => XS.aload X6.here hx rfl (hb hby d3_43) rfl rfl q) ?_
  show OwnFin _ _ _ _ (T6.setTop (mkF m 45 _ [(.ref b4)]))
  refine OwnFin.st (fun _ q => XS.iload X6.here hx rfl (hb hby d3_45) rfl q) ?_
  show OwnFin _ _ _ _ (T6.setTop (mkF m 47 _ [(.int (own_pi (0 : Int32) p1 (0 : Int32) p0)), (.ref b4)]))
  refine OwnFin.st (fun _ q => XS.iloadN X6.here hx rfl (hb hby d3_47) rfl q) ?_
  show OwnFin _ _ _ _ (T6.setTop (mkF m 48 _ [(.int p2), (.int (own_pi (0 : Int32) p1 (0 : Int32) p0)), (.ref b4)]))
  refine OwnFin.st (fun _ q => XS.iconst X6.here hx rfl (hb hby d3_48) q) ?_
  show OwnFin _ _ _ _ (T6.setTop (mkF m 49 _ [(.int 1), (.int p2), (.int (own_pi (0 : Int32) p1 (0 : Int32) p0)), (.ref b4)]))
  refine OwnFin.st (fun _ q => XS.iloadN X6.here hx rfl (hb hby d3_49) rfl q) ?_
  show OwnFin _ _ _ _ (T6.setTop (mkF m 50 _ [(.int p0), (.int 1), (.int p2), (.int (own_pi (0 : Int32) p1 (0 : Int32) p0)), (.ref b4)]))
  obtain ⟨_, _, ⟨T8, L8, k8, n8⟩, -, X8, ⟨Lc8, hQ8, l8, y8, z8⟩, st8⟩ := Jvm.LawKit.callS X6 hx (y := yM25) hown (mvT hZ (w_ hw 17 rfl)) (mvT hZ (w_ hw 18 rfl)) (mvT hZ (w_ hw 2 rfl)) (mvT hZ (w_ hw 19 rfl)) (by decide) (backOf (W := 0) (rm_put l Z av0 hw [] b4 (own_pi (0 : Int32) p1 (0 : Int32) p0) p2 (1 : Int32) p0 k4 (((own_w p1 (0 : Int32) p0) + (own_w p2 (1 : Int32) p0)) + (own_w p3 (2 : Int32) p0)) (own_pf own_zf (0 : Int32) p1 (0 : Int32) p0) h6 n0 (Nat.le_trans Z0 kp7.1) r6_0 (own_hp1 p0 p1 p2 p3) g_b4) hZ (w_ hw 19 rfl) (w_ hw 2 rfl) (by decide) (by decide)) (g := (mkF m 50 #[.val (.int p0), .val (.int p1), .val (.int p2), .val (.int p3), .val (.int (((own_w p1 (0 : Int32) p0) + (own_w p2 (1 : Int32) p0)) + (own_w p3 (2 : Int32) p0))), .val (.ref b4), .val (.int (own_pi (0 : Int32) p1 (0 : Int32) p0))] [(.int p0), (.int 1), (.int p2), (.int (own_pi (0 : Int32) p1 (0 : Int32) p0)), (.ref b4)])) rfl (by rw [hml]; rfl) (argsL := [(.ref b4), (.int (own_pi (0 : Int32) p1 (0 : Int32) p0)), (.int p2), (.int 1), (.int p0)]) (rest := []) (lenOf pd_19 rfl) rfl (by show 2 * 0 + _ ≤ _; exact Nat.le_of_eq rfl) (hb hby d3_50) (fun _ _ => ⟨rfl, e6, (by decide : 1 + 0 ≤ _), (by decide : 6 + 0 ≤ _)⟩)
  dsimp only [Pt.U, Pt.locs, Pt.cells, Pt.slots] at X8 l8 y8 z8 st8 hQ8
  subst l8 y8 z8
  obtain ⟨rfl, N8q, K8, r8_0⟩ := hQ8
  have N8 := Fr.app N6 N8q
  refine OwnFin.st st8 ?_
  obtain ⟨h8, e8⟩ : ∃ z, T8.heap = z := ⟨_, rfl⟩
  rw [e8] at K8 r8_0
  have ch9 := ch7.trans (CHr.keep K8 (sfS (Safe.arv (hZ).alike r6_0 (by decide)) sf0) ch7.1)
  have kp9 : Keep h0 h8 [] := kp7.trans K8 (allS (Or.inr lo_b4) all0)
  have ol9 : Old Z n0 h8 := ol7.keep K8 (allS g_b4 all0)
  show OwnFin _ _ _ _ (T8.setTop (mkF m 53 _ [(.int (own_pi (own_pi (0 : Int32) p1 (0 : Int32) p0) p2 (1 : Int32) p0))]))
  refine OwnFin.st (fun _ q => XS.istore X8.here hx rfl (hb hby d3_53) rfl (l' := #[.val (.int p0), .val (.int p1), .val (.int p2), .val (.int p3), .val (.int (((own_w p1 (0 : Int32) p0) + (own_w p2 (1 : Int32) p0)) + (own_w p3 (2 : Int32) p0))), .val (.ref b4), .val (.int (own_pi (own_pi (0 : Int32) p1 (0 : Int32) p0) p2 (1 : Int32) p0))]) rfl q) ?_
  show OwnFin _ _ _ _ (T8.setTop (mkF m 55 _ []))
  refine OwnFin.st (fun _ q => XS.aload X8.here hx rfl (hb hby d3_55) rfl rfl q) ?_
  show OwnFin _ _ _ _ (T8.setTop (mkF m 57 _ [(.ref b4)]))
  refine OwnFin.st (fun _ q => XS.iload X8.here hx rfl (hb hby d3_57) rfl q) ?_
  show OwnFin _ _ _ _ (T8.setTop (mkF m 59 _ [(.int (own_pi (own_pi (0 : Int32) p1 (0 : Int32) p0) p2 (1 : Int32) p0)), (.ref b4)]))
  refine OwnFin.st (fun _ q => XS.iloadN X8.here hx rfl (hb hby d3_59) rfl q) ?_
  show OwnFin _ _ _ _ (T8.setTop (mkF m 60 _ [(.int p3), (.int (own_pi (own_pi (0 : Int32) p1 (0 : Int32) p0) p2 (1 : Int32) p0)), (.ref b4)]))
  refine OwnFin.st (fun _ q => XS.iconst X8.here hx rfl (hb hby d3_60) q) ?_
  show OwnFin _ _ _ _ (T8.setTop (mkF m 61 _ [(.int 2), (.int p3), (.int (own_pi (own_pi (0 : Int32) p1 (0 : Int32) p0) p2 (1 : Int32) p0)), (.ref b4)]))
  refine OwnFin.st (fun _ q => XS.iloadN X8.here hx rfl (hb hby d3_61) rfl q) ?_
  show OwnFin _ _ _ _ (T8.setTop (mkF m 62 #[.val (.int p0), .val (.int p1), .val (.int p2), .val (.int p3), .val (.int (((own_w p1 (0 : Int32) p0) + (own_w p2 (1 : Int32) p0)) + (own_w p3 (2 : Int32) p0))), .val (.ref b4), .val (.int (own_pi (own_pi (0 : Int32) p1 (0 : Int32) p0) p2 (1 : Int32) p0))] [(.int p0), (.int 2), (.int p3), (.int (own_pi (own_pi (0 : Int32) p1 (0 : Int32) p0) p2 (1 : Int32) p0)), (.ref b4)]))
  obtain ⟨_, _, ⟨T10, L10, k10, n10⟩, -, X10, ⟨Lc10, hQ10, l10, y10, z10⟩, st10⟩ := Jvm.LawKit.callS X8 hx (y := yM25) hown (mvT hZ (w_ hw 17 rfl)) (mvT hZ (w_ hw 18 rfl)) (mvT hZ (w_ hw 2 rfl)) (mvT hZ (w_ hw 19 rfl)) (by decide) (backOf (W := 0) (rm_put l Z av0 hw [] b4 (own_pi (own_pi (0 : Int32) p1 (0 : Int32) p0) p2 (1 : Int32) p0) p3 (2 : Int32) p0 k4 (((own_w p1 (0 : Int32) p0) + (own_w p2 (1 : Int32) p0)) + (own_w p3 (2 : Int32) p0)) (own_pf (own_pf own_zf (0 : Int32) p1 (0 : Int32) p0) (own_pi (0 : Int32) p1 (0 : Int32) p0) p2 (1 : Int32) p0) h8 n0 (Nat.le_trans Z0 kp9.1) r8_0 (own_hp2 p0 p1 p2 p3) g_b4) hZ (w_ hw 19 rfl) (w_ hw 2 rfl) (by decide) (by decide)) (g := (mkF m 62 #[.val (.int p0), .val (.int p1), .val (.int p2), .val (.int p3), .val (.int (((own_w p1 (0 : Int32) p0) + (own_w p2 (1 : Int32) p0)) + (own_w p3 (2 : Int32) p0))), .val (.ref b4), .val (.int (own_pi (own_pi (0 : Int32) p1 (0 : Int32) p0) p2 (1 : Int32) p0))] [(.int p0), (.int 2), (.int p3), (.int (own_pi (own_pi (0 : Int32) p1 (0 : Int32) p0) p2 (1 : Int32) p0)), (.ref b4)])) rfl (by rw [hml]; rfl) (argsL := [(.ref b4), (.int (own_pi (own_pi (0 : Int32) p1 (0 : Int32) p0) p2 (1 : Int32) p0)), (.int p3), (.int 2), (.int p0)]) (rest := []) (lenOf pd_19 rfl) rfl (by show 2 * 0 + _ ≤ _; exact Nat.le_of_eq rfl) (hb hby d3_62) (fun _ _ => ⟨rfl, e8, (by decide : 1 + 0 ≤ _), (by decide : 6 + 0 ≤ _)⟩)
  dsimp only [Pt.U, Pt.locs, Pt.cells, Pt.slots] at X10 l10 y10 z10 st10 hQ10
  subst l10 y10 z10
  obtain ⟨rfl, N10q, K10, r10_0⟩ := hQ10
  have N10 := Fr.app N8 N10q
  refine OwnFin.st st10 ?_
  obtain ⟨h10, e10⟩ : ∃ z, T10.heap = z := ⟨_, rfl⟩
  rw [e10] at K10 r10_0
  have ch11 := ch9.trans (CHr.keep K10 (sfS (Safe.arv (hZ).alike r8_0 (by decide)) sf0) ch9.1)
  have kp11 : Keep h0 h10 [] := kp9.trans K10 (allS (Or.inr lo_b4) all0)
  have ol11 : Old Z n0 h10 := ol9.keep K10 (allS g_b4 all0)
  show OwnFin _ _ _ _ (T10.setTop (mkF m 65 _ [(.int (own_pi (own_pi (own_pi (0 : Int32) p1 (0 : Int32) p0) p2 (1 : Int32) p0) p3 (2 : Int32) p0))]))
  refine OwnFin.st (fun _ q => XS.istore X10.here hx rfl (hb hby d3_65) rfl (l' := #[.val (.int p0), .val (.int p1), .val (.int p2), .val (.int p3), .val (.int (((own_w p1 (0 : Int32) p0) + (own_w p2 (1 : Int32) p0)) + (own_w p3 (2 : Int32) p0))), .val (.ref b4), .val (.int (own_pi (own_pi (own_pi (0 : Int32) p1 (0 : Int32) p0) p2 (1 : Int32) p0) p3 (2 : Int32) p0))]) rfl q) ?_
  show OwnFin _ _ _ _ (T10.setTop (mkF m 67 _ []))
  obtain ⟨T12, h12, X12, e12, E12, A12, D12, -, st12⟩ := newO X10 hx hZ hown (w_ hw 20 rfl) (w_ hw 21 rfl) (w_ hw 22 rfl) e10 (g := (mkF m 67 #[.val (.int p0), .val (.int p1), .val (.int p2), .val (.int p3), .val (.int (((own_w p1 (0 : Int32) p0) + (own_w p2 (1 : Int32) p0)) + (own_w p3 (2 : Int32) p0))), .val (.ref b4), .val (.int (own_pi (own_pi (own_pi (0 : Int32) p1 (0 : Int32) p0) p2 (1 : Int32) p0) p3 (2 : Int32) p0))] [])) rfl (hb hby d3_67) (by decide) (by decide)
  obtain ⟨b12, qe12⟩ : ∃ z, z = h10.size := ⟨_, rfl⟩
  rw [← qe12] at A12 D12 st12
  refine OwnFin.st st12 ?_
  have bi_b12 : h10.size ≤ b12 := Nat.le_of_eq qe12.symm
  have lo_b12 : h0.size ≤ b12 := Nat.le_trans kp11.1 bi_b12
  have g_b12 : n0 ≤ b12 := Nat.le_trans Z0 lo_b12
  have ch13 := ch11.trans (CHr.ext E12 ch11.1)
  have kp13 : Keep h0 h12 [] := kp11.ext E12
  have ol13 : Old Z n0 h12 := ol11.ext E12
  have F_value_b12 : Fld Z h12 b12 "java/lang/String" "value" "[B" .null := D12 (Or.inr (w_ hw 35 rfl)) (ty := (.array .byte)) (by decide)
  have F_coder_b12 : Fld Z h12 b12 "java/lang/String" "coder" "B" (.int 0) := D12 (Or.inr (w_ hw 36 rfl)) (ty := .byte) (by decide)
  show OwnFin _ _ _ _ (T12.setTop (mkF m 70 _ [(.ref b12)]))
  refine OwnFin.st (fun _ q => XS.dup X12.here hx rfl (hb hby d3_70) rfl rfl q) ?_
  show OwnFin _ _ _ _ (T12.setTop (mkF m 71 _ [(.ref b12), (.ref b12)]))
  refine OwnFin.st (fun _ q => XS.aload X12.here hx rfl (hb hby d3_71) rfl rfl q) ?_
  show OwnFin _ _ _ _ (T12.setTop (mkF m 73 _ [(.ref b4), (.ref b12), (.ref b12)]))
  by_cases hc14 : (((own_w p1 (0 : Int32) p0) + (own_w p2 (1 : Int32) p0)) + (own_w p3 (2 : Int32) p0)) = (0 : Int32)
  ·
   show OwnFin _ _ _ _ (T12.setTop (mkF m 73 _ [(.ref b4), (.ref b12), (.ref b12)]))
   obtain ⟨_, _, ⟨T15, L15, k15, n15⟩, -, X15, hS15, hg15, ⟨Lc15, hQ15, l15, y15, z15, hC15⟩, st15⟩ := X12.specialBackS hx (y := yM23) rfl hown (mvT hZ (w_ hw 23 rfl)) (mvT hZ (w_ hw 24 rfl)) (mvT hZ (w_ hw 25 rfl)) (by decide) (backOfSH (W := 1) (rm_si0 l Z av0 hw [] b12 b4 k4 (((own_w p1 (0 : Int32) p0) + (own_w p2 (1 : Int32) p0)) + (own_w p3 (2 : Int32) p0)) (own_pf (own_pf (own_pf own_zf (0 : Int32) p1 (0 : Int32) p0) (own_pi (0 : Int32) p1 (0 : Int32) p0) p2 (1 : Int32) p0) (own_pi (own_pi (0 : Int32) p1 (0 : Int32) p0) p2 (1 : Int32) p0) p3 (2 : Int32) p0) h12 n0 (Nat.le_trans Z0 kp13.1) A12 F_value_b12 F_coder_b12 (r10_0.ext E12) hc14 g_b12) hZ (w_ hw 25 rfl) (w_ hw 22 rfl) (by decide) (by decide) (own_EW hw) ch13.1) (g := (mkF m 73 #[.val (.int p0), .val (.int p1), .val (.int p2), .val (.int p3), .val (.int (((own_w p1 (0 : Int32) p0) + (own_w p2 (1 : Int32) p0)) + (own_w p3 (2 : Int32) p0))), .val (.ref b4), .val (.int (own_pi (own_pi (own_pi (0 : Int32) p1 (0 : Int32) p0) p2 (1 : Int32) p0) p3 (2 : Int32) p0))] [(.ref b4), (.ref b12), (.ref b12)])) rfl (by rw [hml]; rfl) (Steps.refl _) (a := b12) (argsL := [(.ref b4)]) (rest := [(.ref b12)]) (lenOf pd_20 rfl) rfl (by show 2 * 0 + _ ≤ _; exact Nat.le_of_eq rfl) (hb hby d3_73) (fun _ _ => ⟨rfl, e12, (by decide : 2 + 4 ≤ _), (by decide : 10 + 8 ≤ _)⟩)
   dsimp only [Pt.U, Pt.locs, Pt.cells, Pt.slots] at X15 l15 y15 z15 st15 hQ15 hS15 hg15 hC15
   subst l15 y15 z15
   obtain ⟨c15_0, kc15_1, rfl, N15q, K15, r15_0, r15_1, r15_2⟩ := hQ15
   have N15 := Fr.app N10 N15q
   refine OwnFin.tr st15 ?_
   rw [e12] at hg15
   obtain ⟨h15, e15⟩ : ∃ z, T15.heap = z := ⟨_, rfl⟩
   rw [e15] at K15 r15_0 r15_1 r15_2 hg15 hS15 hC15
   have ch16 := ch13.trans (hC15)
   have kp16 : Keep h0 h15 [] := kp13.trans K15 (allS (Or.inr lo_b12) all0)
   have ol16 : Old Z n0 h15 := ol13.keep K15 (allS g_b12 all0)
   obtain ⟨Xr15, hSr15, hZr15, hor15⟩ := rebS hS0 (Nat.le_trans hk0 (Nat.le_trans (Nat.le_trans (Nat.le_trans (Nat.le_trans E4.1 K6.1) K8.1) K10.1) E12.1)) X15 hS15 hg15 hZ hown
   show OwnFin _ _ _ _ (T15.setTop (mkF m 76 _ [(.ref b12)]))
   obtain ⟨fs, hr, hrun, hended, hEW⟩ := Xr15.leaveW (s := s) hSr15 (by rw [e15]; exact (Nat.le_trans (Nat.le_refl _) (Nat.le_refl _))) (v := some (.ref b12)) (fun h => by rw [Bd.returns] at h; cases h)
   have chE : CHr Z own_EL s.vm s.heap T15.vm T15.heap := by
     rw [hh, e15]
     exact ch16.trans (CHv.at Xr15 hZr15 (own_EW hw) ch16.1)
   refine ⟨_, _, retOut Xr15 hx Bd.returns rfl (Or.inr (Or.inr (Or.inr (Or.inr ⟨rfl, rfl, rfl⟩)))) (hb hby d3_76) hr, hrun, hended, _, _, rfl, ?_, chE, hEW.1, hEW.2.1, hEW.2.2.1, hEW.2.2.2.mono (by decide) (by decide)⟩
   show Q_rm_build Z p0 p1 p2 p3 w_COMPACT_STRINGS h0 n0 _ T15.heap _
   rw [e15]
   have cE17 : Fld Z h15 b12 "java/lang/String" "coder" "B" (.int (own_bcd p0 p1 p2 p3)) := by
     rw [show own_bcd p0 p1 p2 p3 = (0 : Int32) from if_pos hc14]; exact r15_0
   have vE17 : Arv Z h15 c15_0 kc15_1 .byte (own_bz p0 p1 p2 p3) (own_ml (own_bz p0 p1 p2 p3) (own_bb p0 p1 p2 p3)) (.int 0) := by
     rw [show own_bz p0 p1 p2 p3 = (0 : Int32) from if_pos hc14, own_ml0]; exact r15_2
   exact ⟨b12, c15_0, kc15_1, rfl, N15, kp16, lo_b12, (A12.keep K15), cE17, r15_1, vE17⟩
  ·
   show OwnFin _ _ _ _ (T12.setTop (mkF m 73 _ [(.ref b4), (.ref b12), (.ref b12)]))
   by_cases hc18 : (own_c5 (own_pf (own_pf (own_pf own_zf (0 : Int32) p1 (0 : Int32) p0) (own_pi (0 : Int32) p1 (0 : Int32) p0) p2 (1 : Int32) p0) (own_pi (own_pi (0 : Int32) p1 (0 : Int32) p0) p2 (1 : Int32) p0) p3 (2 : Int32) p0) (((own_w p1 (0 : Int32) p0) + (own_w p2 (1 : Int32) p0)) + (own_w p3 (2 : Int32) p0))) = (((own_w p1 (0 : Int32) p0) + (own_w p2 (1 : Int32) p0)) + (own_w p3 (2 : Int32) p0))
   ·
    show OwnFin _ _ _ _ (T12.setTop (mkF m 73 _ [(.ref b4), (.ref b12), (.ref b12)]))
    obtain ⟨_, _, ⟨T19, L19, k19, n19⟩, -, X19, ⟨Lc19, hQ19, l19, y19, z19⟩, st19⟩ := X12.specialBack hx (y := yM23) rfl hown (mvT hZ (w_ hw 23 rfl)) (mvT hZ (w_ hw 24 rfl)) (mvT hZ (w_ hw 25 rfl)) (by decide) (backOf (W := 1) (rm_siY l Z av0 hw [] b12 b4 k4 (((own_w p1 (0 : Int32) p0) + (own_w p2 (1 : Int32) p0)) + (own_w p3 (2 : Int32) p0)) (own_pf (own_pf (own_pf own_zf (0 : Int32) p1 (0 : Int32) p0) (own_pi (0 : Int32) p1 (0 : Int32) p0) p2 (1 : Int32) p0) (own_pi (own_pi (0 : Int32) p1 (0 : Int32) p0) p2 (1 : Int32) p0) p3 (2 : Int32) p0) w_COMPACT_STRINGS (.int 0) .null h12 n0 (Nat.le_trans Z0 kp13.1) ol13 (r10_0.ext E12) (own_kb p0 p1 p2 p3).1 (own_kb p0 p1 p2 p3).2 hc14 S_COMPACT_STRINGS hcs hc18 A12 F_coder_b12 g_b12 F_value_b12) hZ (w_ hw 25 rfl) (w_ hw 22 rfl) (by decide) (by decide)) (g := (mkF m 73 #[.val (.int p0), .val (.int p1), .val (.int p2), .val (.int p3), .val (.int (((own_w p1 (0 : Int32) p0) + (own_w p2 (1 : Int32) p0)) + (own_w p3 (2 : Int32) p0))), .val (.ref b4), .val (.int (own_pi (own_pi (own_pi (0 : Int32) p1 (0 : Int32) p0) p2 (1 : Int32) p0) p3 (2 : Int32) p0))] [(.ref b4), (.ref b12), (.ref b12)])) rfl (by rw [hml]; rfl) (Steps.refl _) (a := b12) (argsL := [(.ref b4)]) (rest := [(.ref b12)]) (lenOf pd_20 rfl) rfl (by show 2 * 0 + _ ≤ _; exact Nat.le_of_eq rfl) (hb hby d3_73) (fun _ _ => ⟨rfl, e12, (by decide : 2 + 1 ≤ _), (by decide : 10 + 6 ≤ _)⟩)
    dsimp only [Pt.U, Pt.locs, Pt.cells, Pt.slots] at X19 l19 y19 z19 st19 hQ19
    subst l19 y19 z19
    obtain ⟨c19_0, kc19_1, rfl, N19q, K19, r19_0, r19_1, r19_2, r19_3⟩ := hQ19
    have N19 := Fr.app N10 N19q
    refine OwnFin.tr st19 ?_
    obtain ⟨h19, e19⟩ : ∃ z, T19.heap = z := ⟨_, rfl⟩
    rw [e19] at K19 r19_1 r19_2 r19_3
    have bi_c19_0 : h12.size ≤ c19_0 := r19_0
    have lo_c19_0 : h0.size ≤ c19_0 := Nat.le_trans kp13.1 bi_c19_0
    have g_c19_0 : n0 ≤ c19_0 := Nat.le_trans Z0 lo_c19_0
    have sfnc19_0 := Safe.keep K19 (sfS (own_safe (hZ).alike A12 F_value_b12) sf0) ch13.1 (Safe.new bi_c19_0)
    have ch20 := ch13.trans (CHr.keep K19 (sfS (own_safe (hZ).alike A12 F_value_b12) sf0) ch13.1)
    have kp20 : Keep h0 h19 [] := kp13.trans K19 (allS (Or.inr lo_b12) all0)
    have ol20 : Old Z n0 h19 := ol13.keep K19 (allS g_b12 all0)
    show OwnFin _ _ _ _ (T19.setTop (mkF m 76 _ [(.ref b12)]))
    obtain ⟨fs, hr, hrun, hended, hEW⟩ := X19.leaveW (s := s) hS0 (by rw [e19]; exact (Nat.le_trans hk0 (Nat.le_trans (Nat.le_trans (Nat.le_trans (Nat.le_trans (Nat.le_trans E4.1 K6.1) K8.1) K10.1) E12.1) K19.1))) (v := some (.ref b12)) (fun h => by rw [Bd.returns] at h; cases h)
    have chE : CHr Z own_EL s.vm s.heap T19.vm T19.heap := by
      rw [hh, e19]
      exact ch20.trans (CHv.at X19 hZ (own_EW hw) ch20.1)
    refine ⟨_, _, retOut X19 hx Bd.returns rfl (Or.inr (Or.inr (Or.inr (Or.inr ⟨rfl, rfl, rfl⟩)))) (hb hby d3_76) hr, hrun, hended, _, _, rfl, ?_, chE, hEW.1, hEW.2.1, hEW.2.2.1, hEW.2.2.2.mono (by decide) (by decide)⟩
    show Q_rm_build Z p0 p1 p2 p3 w_COMPACT_STRINGS h0 n0 _ T19.heap _
    rw [e19]
    have cE21 : Fld Z h19 b12 "java/lang/String" "coder" "B" (.int (own_bcd p0 p1 p2 p3)) := by
      rw [show own_bcd p0 p1 p2 p3 = (0 : Int32) from (if_neg hc14).trans (if_pos hc18)]; exact r19_2
    have vE21 : Arv Z h19 c19_0 kc19_1 .byte (own_bz p0 p1 p2 p3) (own_ml (own_bz p0 p1 p2 p3) (own_bb p0 p1 p2 p3)) (.int 0) := by
      rw [show own_bz p0 p1 p2 p3 = (((own_w p1 (0 : Int32) p0) + (own_w p2 (1 : Int32) p0)) + (own_w p3 (2 : Int32) p0)) from (if_neg hc14).trans (if_pos hc18), show own_bb p0 p1 p2 p3 = (own_fl (own_pf (own_pf (own_pf own_zf (0 : Int32) p1 (0 : Int32) p0) (own_pi (0 : Int32) p1 (0 : Int32) p0) p2 (1 : Int32) p0) (own_pi (own_pi (0 : Int32) p1 (0 : Int32) p0) p2 (1 : Int32) p0) p3 (2 : Int32) p0) (((own_w p1 (0 : Int32) p0) + (own_w p2 (1 : Int32) p0)) + (own_w p3 (2 : Int32) p0))) from (if_neg hc14).trans (if_pos hc18)]; exact r19_1
    exact ⟨b12, c19_0, kc19_1, rfl, N19, kp20, lo_b12, (A12.keep K19), cE21, r19_3, vE21⟩
   ·
    show OwnFin _ _ _ _ (T12.setTop (mkF m 73 _ [(.ref b4), (.ref b12), (.ref b12)]))
    obtain ⟨_, _, ⟨T22, L22, k22, n22⟩, -, X22, ⟨Lc22, hQ22, l22, y22, z22⟩, st22⟩ := X12.specialBack hx (y := yM23) rfl hown (mvT hZ (w_ hw 23 rfl)) (mvT hZ (w_ hw 24 rfl)) (mvT hZ (w_ hw 25 rfl)) (by decide) (backOf (W := 1) (rm_siN l Z av0 hw [] b12 b4 k4 (((own_w p1 (0 : Int32) p0) + (own_w p2 (1 : Int32) p0)) + (own_w p3 (2 : Int32) p0)) (own_pf (own_pf (own_pf own_zf (0 : Int32) p1 (0 : Int32) p0) (own_pi (0 : Int32) p1 (0 : Int32) p0) p2 (1 : Int32) p0) (own_pi (own_pi (0 : Int32) p1 (0 : Int32) p0) p2 (1 : Int32) p0) p3 (2 : Int32) p0) w_COMPACT_STRINGS (.int 0) .null h12 n0 (Nat.le_trans Z0 kp13.1) ol13 (r10_0.ext E12) (own_kb p0 p1 p2 p3).1 (own_kb p0 p1 p2 p3).2 (own_bfch p0 p1 p2 p3) hc14 S_COMPACT_STRINGS hcs hc18 S__assertionsDisabled S_HI_BYTE_SHIFT S_LO_BYTE_SHIFT A12 F_coder_b12 g_b12 F_value_b12) hZ (w_ hw 25 rfl) (w_ hw 22 rfl) (by decide) (by decide)) (g := (mkF m 73 #[.val (.int p0), .val (.int p1), .val (.int p2), .val (.int p3), .val (.int (((own_w p1 (0 : Int32) p0) + (own_w p2 (1 : Int32) p0)) + (own_w p3 (2 : Int32) p0))), .val (.ref b4), .val (.int (own_pi (own_pi (own_pi (0 : Int32) p1 (0 : Int32) p0) p2 (1 : Int32) p0) p3 (2 : Int32) p0))] [(.ref b4), (.ref b12), (.ref b12)])) rfl (by rw [hml]; rfl) (Steps.refl _) (a := b12) (argsL := [(.ref b4)]) (rest := [(.ref b12)]) (lenOf pd_20 rfl) rfl (by show 2 * 0 + _ ≤ _; exact Nat.le_of_eq rfl) (hb hby d3_73) (fun _ _ => ⟨rfl, e12, (by decide : 2 + 2 ≤ _), (by decide : 10 + 18 ≤ _)⟩)
    dsimp only [Pt.U, Pt.locs, Pt.cells, Pt.slots] at X22 l22 y22 z22 st22 hQ22
    subst l22 y22 z22
    obtain ⟨c22_0, kc22_1, rfl, N22q, K22, r22_0, r22_1, r22_2, r22_3⟩ := hQ22
    have N22 := Fr.app N10 N22q
    refine OwnFin.tr st22 ?_
    obtain ⟨h22, e22⟩ : ∃ z, T22.heap = z := ⟨_, rfl⟩
    rw [e22] at K22 r22_1 r22_2 r22_3
    have bi_c22_0 : h12.size ≤ c22_0 := r22_0
    have lo_c22_0 : h0.size ≤ c22_0 := Nat.le_trans kp13.1 bi_c22_0
    have g_c22_0 : n0 ≤ c22_0 := Nat.le_trans Z0 lo_c22_0
    have sfnc22_0 := Safe.keep K22 (sfS (own_safe (hZ).alike A12 F_value_b12) sf0) ch13.1 (Safe.new bi_c22_0)
    have ch23 := ch13.trans (CHr.keep K22 (sfS (own_safe (hZ).alike A12 F_value_b12) sf0) ch13.1)
    have kp23 : Keep h0 h22 [] := kp13.trans K22 (allS (Or.inr lo_b12) all0)
    have ol23 : Old Z n0 h22 := ol13.keep K22 (allS g_b12 all0)
    show OwnFin _ _ _ _ (T22.setTop (mkF m 76 _ [(.ref b12)]))
    obtain ⟨fs, hr, hrun, hended, hEW⟩ := X22.leaveW (s := s) hS0 (by rw [e22]; exact (Nat.le_trans hk0 (Nat.le_trans (Nat.le_trans (Nat.le_trans (Nat.le_trans (Nat.le_trans E4.1 K6.1) K8.1) K10.1) E12.1) K22.1))) (v := some (.ref b12)) (fun h => by rw [Bd.returns] at h; cases h)
    have chE : CHr Z own_EL s.vm s.heap T22.vm T22.heap := by
      rw [hh, e22]
      exact ch23.trans (CHv.at X22 hZ (own_EW hw) ch23.1)
    refine ⟨_, _, retOut X22 hx Bd.returns rfl (Or.inr (Or.inr (Or.inr (Or.inr ⟨rfl, rfl, rfl⟩)))) (hb hby d3_76) hr, hrun, hended, _, _, rfl, ?_, chE, hEW.1, hEW.2.1, hEW.2.2.1, hEW.2.2.2.mono (by decide) (by decide)⟩
    show Q_rm_build Z p0 p1 p2 p3 w_COMPACT_STRINGS h0 n0 _ T22.heap _
    rw [e22]
    have cE24 : Fld Z h22 b12 "java/lang/String" "coder" "B" (.int (own_bcd p0 p1 p2 p3)) := by
      rw [show own_bcd p0 p1 p2 p3 = (1 : Int32) from (if_neg hc14).trans (if_neg hc18)]; exact r22_2
    have vE24 : Arv Z h22 c22_0 kc22_1 .byte (own_bz p0 p1 p2 p3) (own_ml (own_bz p0 p1 p2 p3) (own_bb p0 p1 p2 p3)) (.int 0) := by
      rw [show own_bz p0 p1 p2 p3 = ((((own_w p1 (0 : Int32) p0) + (own_w p2 (1 : Int32) p0)) + (own_w p3 (2 : Int32) p0)) <<< ((1 : Int32) &&& 31)) from (if_neg hc14).trans (if_neg hc18), show own_bb p0 p1 p2 p3 = (own_uf (own_pf (own_pf (own_pf own_zf (0 : Int32) p1 (0 : Int32) p0) (own_pi (0 : Int32) p1 (0 : Int32) p0) p2 (1 : Int32) p0) (own_pi (own_pi (0 : Int32) p1 (0 : Int32) p0) p2 (1 : Int32) p0) p3 (2 : Int32) p0) (((own_w p1 (0 : Int32) p0) + (own_w p2 (1 : Int32) p0)) + (own_w p3 (2 : Int32) p0))) from (if_neg hc14).trans (if_neg hc18)]; exact r22_1
    exact ⟨b12, c22_0, kc22_1, rfl, N22, kp23, lo_b12, (A12.keep K22), cE24, r22_3, vE24⟩
def own_cpv (q0 : Int64) : Int32 := (((q0 &&& (2097151 : Int64)) - ((q0 &&& (2097151 : Int64)) / (1114112 : Int64)) * (1114112 : Int64)).toInt32)
theorem d1_0 : decode method_3_code 0 = .ok (.lload_n 0, 1) := by decide +kernel
theorem d1_1 : decode method_3_code 1 = .ok (.ldc2_w 37, 3) := by decide +kernel
theorem d1_4 : decode method_3_code 4 = .ok (.land, 1) := by decide +kernel
theorem d1_5 : decode method_3_code 5 = .ok (.ldc2_w 39, 3) := by decide +kernel
theorem d1_8 : decode method_3_code 8 = .ok (.lrem, 1) := by decide +kernel
theorem d1_9 : decode method_3_code 9 = .ok (.l2i, 1) := by decide +kernel
theorem d1_10 : decode method_3_code 10 = .ok (.ireturn, 1) := by decide +kernel
theorem ef_rm_cpv (m : MethodId) (q0 : Int64) : entryFrame m #[(.long q0)] 2 = mkF m 0 #[.val (.long q0), .second] [] := by first | (simp [entryFrame, mkF, argsToLocals, Value.category]; done) | rfl
def Q_rm_cpv (Z : State) (q0 : Int64) (h0 : Heap) (n0 : Nat) (v : Option Value) (h : Heap) (L : List Loc) : Prop := v = some (.int (own_cpv q0)) ∧ Fr n0 L ∧ h = h0
set_option maxRecDepth 65536 in
set_option maxHeartbeats 40000000 in
theorem rm_cpv (l : Launch) (Z : State) (av0 : Array Value) (hw : ∀ d ∈ tables_1, d.before av0 Z = true) (ws : List Jvm.Cond) (q0 : Int64) (h0 : Heap) (n0 : Nat) (Z0 : n0 ≤ h0.size) :
    MetFree l yM27 (head1 (Jvm.Cond.code yM27 method_3_code 2 (some .int) :: ws) ({ frames := 0, cells := 0, slots := 0, locals := 0 } : Room)) (fun a U => a = #[(.long q0)] ∧ Z.Warmed39 U.vm ∧ U.heap = h0) (fun _ _ _ _ _ => True) (fun _ U o U' => ∃ v L, o = .returned v ∧ Q_rm_cpv Z q0 h0 n0 v U'.heap L ∧ FrameEnd U o U' L ({ frames := 0, cells := 0, slots := 0, locals := 0 } : Room).cells ({ frames := 0, cells := 0, slots := 0, locals := 0 } : Room).slots) := by
  refine MetFree.of_bodySF (plainFor_of_name pn_6) hisR ?_
  intro p e s m args below meth c s₁ Bd hml0 hP hK
  obtain ⟨rfl, hZ, hh⟩ := hP
  have hx := Bd.exec
  have hby := Bd.bytes
  have hml : c.maxLocals = 2 := hml0
  have hown : s.vm.findClass "com/example/libaccrue/libaccrue/records/TextOrderComparePinLaw" = some m.cls := findClass_of_methodNamed Bd.named
  have hnm := (name_of_methodNamed Bd.named Bd.method).1
  have X0 : Stand p l e ({ frames := 0, cells := 0, slots := 0, locals := 0 } : Room) s m #[(.long q0)] below meth c s₁ [] 0 0 := Stand.of_body Bd
  have e0 : s₁.heap = h0 := by rw [← hh, Bd.state]; rfl
  have N0 := Fr.nil n0
  have pre0 : ∀ t, Steps p.tables e below (s₁.setTop (mkF m 0 #[.val (.long q0), .second] [])) t → Steps p.tables e below (s₁.setTop (entryFrame m #[(.long q0)] 2)) t := fun t k => castTop (ef_rm_cpv m q0) k
  change OwnFin p.tables e below _ (s₁.setTop (entryFrame m #[(.long q0)] 2))
  have kp0 : Keep h0 h0 [] := Keep.refl _ _
  refine OwnFin.st (fun _ q => pre0 _ q) ?_
  show OwnFin _ _ _ _ (s₁.setTop (mkF m 0 #[.val (.long q0), .second] []))
  refine OwnFin.st (fun _ q => XS.lloadN X0.here hx rfl (hb hby d1_0) rfl q) ?_
  show OwnFin _ _ _ _ (s₁.setTop (mkF m 1 _ [(.long q0)]))
  refine OwnFin.st (X0.ldc2Long hx hown (mvT hZ (w_ hw 4 rfl)) (g := (mkF m 1 #[.val (.long q0), .second] [(.long q0)])) rfl (hb hby d1_1)) ?_
  show OwnFin _ _ _ _ (s₁.setTop (mkF m 4 _ [(.long (2097151 : Int64)), (.long q0)]))
  refine OwnFin.st (fun _ q => XS.land X0.here hx rfl (hb hby d1_4) rfl q) ?_
  show OwnFin _ _ _ _ (s₁.setTop (mkF m 5 _ [(.long (q0 &&& (2097151 : Int64)))]))
  refine OwnFin.st (X0.ldc2Long hx hown (mvT hZ (w_ hw 5 rfl)) (g := (mkF m 5 #[.val (.long q0), .second] [(.long (q0 &&& (2097151 : Int64)))])) rfl (hb hby d1_5)) ?_
  show OwnFin _ _ _ _ (s₁.setTop (mkF m 8 _ [(.long (1114112 : Int64)), (.long (q0 &&& (2097151 : Int64)))]))
  refine OwnFin.st (fun _ q => XS.lrem X0.here hx rfl (hb hby d1_8) rfl (by decide) q) ?_
  show OwnFin _ _ _ _ (s₁.setTop (mkF m 9 _ [(.long ((q0 &&& (2097151 : Int64)) - ((q0 &&& (2097151 : Int64)) / (1114112 : Int64)) * (1114112 : Int64)))]))
  refine OwnFin.st (fun _ q => XS.l2i X0.here hx rfl (hb hby d1_9) rfl q) ?_
  show OwnFin _ _ _ _ (s₁.setTop (mkF m 10 _ [(.int (((q0 &&& (2097151 : Int64)) - ((q0 &&& (2097151 : Int64)) / (1114112 : Int64)) * (1114112 : Int64)).toInt32))]))
  obtain ⟨fs, hr, hrun, hended, hW, hsame⟩ := X0.leave (v := some (.int (((q0 &&& (2097151 : Int64)) - ((q0 &&& (2097151 : Int64)) / (1114112 : Int64)) * (1114112 : Int64)).toInt32))) (fun h => by rw [Bd.returns] at h; cases h)
  refine ⟨_, _, retI X0 hx Bd.returns (hb hby d1_10) hr, hrun, hended, _, _, rfl, ?_, ⟨_, rfl⟩, hW, hsame.mono (by decide) (by decide)⟩
  show Q_rm_cpv Z q0 h0 n0 _ s₁.heap _
  rw [e0]
  refine ⟨?_, N0, rfl⟩
  rfl
def own_fix (p0 : Int32) (p1 : Int32) (p2 : Int32) : Int32 := if p1 < p2 - (1 : Int32) then if p0 < (55296 : Int32) then p0 else if (56319 : Int32) < p0 then p0 else p0 + (1024 : Int32) else p0
theorem d2_0 : decode method_4_code 0 = .ok (.iload_n 1, 1) := by decide +kernel
theorem d2_1 : decode method_4_code 1 = .ok (.iload_n 2, 1) := by decide +kernel
theorem d2_2 : decode method_4_code 2 = .ok (.iconst 1, 1) := by decide +kernel
theorem d2_3 : decode method_4_code 3 = .ok (.isub, 1) := by decide +kernel
theorem d2_4 : decode method_4_code 4 = .ok (.if_icmp .ge 21, 3) := by decide +kernel
theorem d2_7 : decode method_4_code 7 = .ok (.iload_n 0, 1) := by decide +kernel
theorem d2_8 : decode method_4_code 8 = .ok (.ldc 41, 2) := by decide +kernel
theorem d2_10 : decode method_4_code 10 = .ok (.if_icmp .lt 15, 3) := by decide +kernel
theorem d2_13 : decode method_4_code 13 = .ok (.iload_n 0, 1) := by decide +kernel
theorem d2_14 : decode method_4_code 14 = .ok (.ldc 42, 2) := by decide +kernel
theorem d2_16 : decode method_4_code 16 = .ok (.if_icmp .gt 9, 3) := by decide +kernel
theorem d2_19 : decode method_4_code 19 = .ok (.iload_n 0, 1) := by decide +kernel
theorem d2_20 : decode method_4_code 20 = .ok (.sipush 1024, 3) := by decide +kernel
theorem d2_23 : decode method_4_code 23 = .ok (.iadd, 1) := by decide +kernel
theorem d2_24 : decode method_4_code 24 = .ok (.ireturn, 1) := by decide +kernel
theorem d2_25 : decode method_4_code 25 = .ok (.iload_n 0, 1) := by decide +kernel
theorem d2_26 : decode method_4_code 26 = .ok (.ireturn, 1) := by decide +kernel
theorem ef_rm_fix (m : MethodId) (p0 : Int32) (p1 : Int32) (p2 : Int32) : entryFrame m #[(.int p0), (.int p1), (.int p2)] 3 = mkF m 0 #[.val (.int p0), .val (.int p1), .val (.int p2)] [] := by first | (simp [entryFrame, mkF, argsToLocals, Value.category]; done) | rfl
def Q_rm_fix (Z : State) (p0 : Int32) (p1 : Int32) (p2 : Int32) (h0 : Heap) (n0 : Nat) (v : Option Value) (h : Heap) (L : List Loc) : Prop := v = some (.int (own_fix p0 p1 p2)) ∧ Fr n0 L ∧ h = h0
set_option maxRecDepth 65536 in
set_option maxHeartbeats 40000000 in
theorem rm_fix (l : Launch) (Z : State) (av0 : Array Value) (hw : ∀ d ∈ tables_1, d.before av0 Z = true) (ws : List Jvm.Cond) (p0 : Int32) (p1 : Int32) (p2 : Int32) (h0 : Heap) (n0 : Nat) (Z0 : n0 ≤ h0.size) :
    MetFree l yM28 (head1 (Jvm.Cond.code yM28 method_4_code 3 (some .int) :: ws) ({ frames := 0, cells := 0, slots := 0, locals := 0 } : Room)) (fun a U => a = #[(.int p0), (.int p1), (.int p2)] ∧ Z.Warmed39 U.vm ∧ U.heap = h0) (fun _ _ _ _ _ => True) (fun _ U o U' => ∃ v L, o = .returned v ∧ Q_rm_fix Z p0 p1 p2 h0 n0 v U'.heap L ∧ FrameEnd U o U' L ({ frames := 0, cells := 0, slots := 0, locals := 0 } : Room).cells ({ frames := 0, cells := 0, slots := 0, locals := 0 } : Room).slots) := by
  refine MetFree.of_bodySF (plainFor_of_name pn_6) hisR ?_
  intro p e s m args below meth c s₁ Bd hml0 hP hK
  obtain ⟨rfl, hZ, hh⟩ := hP
  have hx := Bd.exec
  have hby := Bd.bytes
  have hml : c.maxLocals = 3 := hml0
  have hown : s.vm.findClass "com/example/libaccrue/libaccrue/records/TextOrderComparePinLaw" = some m.cls := findClass_of_methodNamed Bd.named
  have hnm := (name_of_methodNamed Bd.named Bd.method).1
  have X0 : Stand p l e ({ frames := 0, cells := 0, slots := 0, locals := 0 } : Room) s m #[(.int p0), (.int p1), (.int p2)] below meth c s₁ [] 0 0 := Stand.of_body Bd
  have e0 : s₁.heap = h0 := by rw [← hh, Bd.state]; rfl
  have N0 := Fr.nil n0
  have pre0 : ∀ t, Steps p.tables e below (s₁.setTop (mkF m 0 #[.val (.int p0), .val (.int p1), .val (.int p2)] [])) t → Steps p.tables e below (s₁.setTop (entryFrame m #[(.int p0), (.int p1), (.int p2)] 3)) t := fun t k => castTop (ef_rm_fix m p0 p1 p2) k
  change OwnFin p.tables e below _ (s₁.setTop (entryFrame m #[(.int p0), (.int p1), (.int p2)] 3))
  have kp0 : Keep h0 h0 [] := Keep.refl _ _
  refine OwnFin.st (fun _ q => pre0 _ q) ?_
  show OwnFin _ _ _ _ (s₁.setTop (mkF m 0 #[.val (.int p0), .val (.int p1), .val (.int p2)] []))
  refine OwnFin.st (fun _ q => XS.iloadN X0.here hx rfl (hb hby d2_0) rfl q) ?_
  show OwnFin _ _ _ _ (s₁.setTop (mkF m 1 _ [(.int p1)]))
  refine OwnFin.st (fun _ q => XS.iloadN X0.here hx rfl (hb hby d2_1) rfl q) ?_
  show OwnFin _ _ _ _ (s₁.setTop (mkF m 2 _ [(.int p2), (.int p1)]))
  refine OwnFin.st (fun _ q => XS.iconst X0.here hx rfl (hb hby d2_2) q) ?_
  show OwnFin _ _ _ _ (s₁.setTop (mkF m 3 _ [(.int 1), (.int p2), (.int p1)]))
  refine OwnFin.st (fun _ q => XS.isub X0.here hx rfl (hb hby d2_3) rfl q) ?_
  show OwnFin _ _ _ _ (s₁.setTop (mkF m 4 _ [(.int (p2 - (1 : Int32))), (.int p1)]))
  by_cases hc1 : p1 < (p2 - (1 : Int32))
  ·
   refine OwnFin.st (fun _ q => XS.icmpNo X0.here hx rfl (hb hby d2_4) rfl (Jvm.Free.XT.ii_ge_f hc1) q) ?_
   show OwnFin _ _ _ _ (s₁.setTop (mkF m 7 _ []))
   refine OwnFin.st (fun _ q => XS.iloadN X0.here hx rfl (hb hby d2_7) rfl q) ?_
   show OwnFin _ _ _ _ (s₁.setTop (mkF m 8 _ [(.int p0)]))
   refine OwnFin.st (X0.ldcInt hx hown (mvT hZ (w_ hw 66 rfl)) (g := (mkF m 8 #[.val (.int p0), .val (.int p1), .val (.int p2)] [(.int p0)])) rfl (hb hby d2_8)) ?_
   show OwnFin _ _ _ _ (s₁.setTop (mkF m 10 _ [(.int 55296), (.int p0)]))
   by_cases hc2 : p0 < (55296 : Int32)
   ·
    refine OwnFin.st (fun _ q => XS.icmpYes X0.here hx rfl (pc0 := 10) (pc' := 25) rfl (hb hby d2_10) rfl (Jvm.Free.XT.ii_lt_t hc2) (by decide) (by decide) q) ?_
    show OwnFin _ _ _ _ (s₁.setTop (mkF m 25 _ []))
    refine OwnFin.st (fun _ q => XS.iloadN X0.here hx rfl (hb hby d2_25) rfl q) ?_
    show OwnFin _ _ _ _ (s₁.setTop (mkF m 26 _ [(.int p0)]))
    obtain ⟨fs, hr, hrun, hended, hW, hsame⟩ := X0.leave (v := some (.int p0)) (fun h => by rw [Bd.returns] at h; cases h)
    refine ⟨_, _, retI X0 hx Bd.returns (hb hby d2_26) hr, hrun, hended, _, _, rfl, ?_, ⟨_, rfl⟩, hW, hsame.mono (by decide) (by decide)⟩
    show Q_rm_fix Z p0 p1 p2 h0 n0 _ s₁.heap _
    rw [e0]
    refine ⟨?_, N0, rfl⟩
    unfold own_fix
    rw [if_pos hc1, if_pos hc2]
   ·
    refine OwnFin.st (fun _ q => XS.icmpNo X0.here hx rfl (hb hby d2_10) rfl (Jvm.Free.XT.ii_lt_f hc2) q) ?_
    show OwnFin _ _ _ _ (s₁.setTop (mkF m 13 _ []))
    refine OwnFin.st (fun _ q => XS.iloadN X0.here hx rfl (hb hby d2_13) rfl q) ?_
    show OwnFin _ _ _ _ (s₁.setTop (mkF m 14 _ [(.int p0)]))
    refine OwnFin.st (X0.ldcInt hx hown (mvT hZ (w_ hw 101 rfl)) (g := (mkF m 14 #[.val (.int p0), .val (.int p1), .val (.int p2)] [(.int p0)])) rfl (hb hby d2_14)) ?_
    show OwnFin _ _ _ _ (s₁.setTop (mkF m 16 _ [(.int 56319), (.int p0)]))
    by_cases hc3 : (56319 : Int32) < p0
    ·
     refine OwnFin.st (fun _ q => XS.icmpYes X0.here hx rfl (pc0 := 16) (pc' := 25) rfl (hb hby d2_16) rfl (Jvm.Free.XT.ii_gt_t hc3) (by decide) (by decide) q) ?_
     show OwnFin _ _ _ _ (s₁.setTop (mkF m 25 _ []))
     refine OwnFin.st (fun _ q => XS.iloadN X0.here hx rfl (hb hby d2_25) rfl q) ?_
     show OwnFin _ _ _ _ (s₁.setTop (mkF m 26 _ [(.int p0)]))
     obtain ⟨fs, hr, hrun, hended, hW, hsame⟩ := X0.leave (v := some (.int p0)) (fun h => by rw [Bd.returns] at h; cases h)
     refine ⟨_, _, retI X0 hx Bd.returns (hb hby d2_26) hr, hrun, hended, _, _, rfl, ?_, ⟨_, rfl⟩, hW, hsame.mono (by decide) (by decide)⟩
     show Q_rm_fix Z p0 p1 p2 h0 n0 _ s₁.heap _
     rw [e0]
     refine ⟨?_, N0, rfl⟩
     unfold own_fix
     rw [if_pos hc1, if_neg hc2, if_pos hc3]
    ·
     refine OwnFin.st (fun _ q => XS.icmpNo X0.here hx rfl (hb hby d2_16) rfl (Jvm.Free.XT.ii_gt_f hc3) q) ?_
     show OwnFin _ _ _ _ (s₁.setTop (mkF m 19 _ []))
     refine OwnFin.st (fun _ q => XS.iloadN X0.here hx rfl (hb hby d2_19) rfl q) ?_
     show OwnFin _ _ _ _ (s₁.setTop (mkF m 20 _ [(.int p0)]))
     refine OwnFin.st (fun _ q => XS.sipush X0.here hx rfl (hb hby d2_20) q) ?_
     show OwnFin _ _ _ _ (s₁.setTop (mkF m 23 #[.val (.int p0), .val (.int p1), .val (.int p2)] [(.int 1024), (.int p0)]))
     refine OwnFin.st (fun _ q => XS.iadd X0.here hx rfl (hb hby d2_23) rfl q) ?_
     show OwnFin _ _ _ _ (s₁.setTop (mkF m 24 _ [(.int (p0 + (1024 : Int32)))]))
     obtain ⟨fs, hr, hrun, hended, hW, hsame⟩ := X0.leave (v := some (.int (p0 + (1024 : Int32)))) (fun h => by rw [Bd.returns] at h; cases h)
     refine ⟨_, _, retI X0 hx Bd.returns (hb hby d2_24) hr, hrun, hended, _, _, rfl, ?_, ⟨_, rfl⟩, hW, hsame.mono (by decide) (by decide)⟩
     show Q_rm_fix Z p0 p1 p2 h0 n0 _ s₁.heap _
     rw [e0]
     refine ⟨?_, N0, rfl⟩
     unfold own_fix
     rw [if_pos hc1, if_neg hc2, if_neg hc3]
  ·
   refine OwnFin.st (fun _ q => XS.icmpYes X0.here hx rfl (pc0 := 4) (pc' := 25) rfl (hb hby d2_4) rfl (Jvm.Free.XT.ii_ge_t hc1) (by decide) (by decide) q) ?_
   show OwnFin _ _ _ _ (s₁.setTop (mkF m 25 _ []))
   refine OwnFin.st (fun _ q => XS.iloadN X0.here hx rfl (hb hby d2_25) rfl q) ?_
   show OwnFin _ _ _ _ (s₁.setTop (mkF m 26 _ [(.int p0)]))
   obtain ⟨fs, hr, hrun, hended, hW, hsame⟩ := X0.leave (v := some (.int p0)) (fun h => by rw [Bd.returns] at h; cases h)
   refine ⟨_, _, retI X0 hx Bd.returns (hb hby d2_26) hr, hrun, hended, _, _, rfl, ?_, ⟨_, rfl⟩, hW, hsame.mono (by decide) (by decide)⟩
   show Q_rm_fix Z p0 p1 p2 h0 n0 _ s₁.heap _
   rw [e0]
   refine ⟨?_, N0, rfl⟩
   unfold own_fix
   rw [if_neg hc1]
def own_sg (p0 : Int32) : Int32 := if p0 < (0 : Int32) then (-1 : Int32) else if (0 : Int32) < p0 then (1 : Int32) else (0 : Int32)
theorem d14_0 : decode method_8_code 0 = .ok (.iload_n 0, 1) := by decide +kernel
theorem d14_1 : decode method_8_code 1 = .ok (.ifCond .ge 5, 3) := by decide +kernel
theorem d14_4 : decode method_8_code 4 = .ok (.iconst (-1), 1) := by decide +kernel
theorem d14_5 : decode method_8_code 5 = .ok (.ireturn, 1) := by decide +kernel
theorem d14_6 : decode method_8_code 6 = .ok (.iload_n 0, 1) := by decide +kernel
theorem d14_7 : decode method_8_code 7 = .ok (.ifCond .le 5, 3) := by decide +kernel
theorem d14_10 : decode method_8_code 10 = .ok (.iconst 1, 1) := by decide +kernel
theorem d14_11 : decode method_8_code 11 = .ok (.ireturn, 1) := by decide +kernel
theorem d14_12 : decode method_8_code 12 = .ok (.iconst 0, 1) := by decide +kernel
theorem d14_13 : decode method_8_code 13 = .ok (.ireturn, 1) := by decide +kernel
theorem ef_rm_sg (m : MethodId) (p0 : Int32) : entryFrame m #[(.int p0)] 1 = mkF m 0 #[.val (.int p0)] [] := by first | (simp [entryFrame, mkF, argsToLocals, Value.category]; done) | rfl
def Q_rm_sg (Z : State) (p0 : Int32) (h0 : Heap) (n0 : Nat) (v : Option Value) (h : Heap) (L : List Loc) : Prop := v = some (.int (own_sg p0)) ∧ Fr n0 L ∧ h = h0
set_option maxRecDepth 65536 in
set_option maxHeartbeats 40000000 in
theorem rm_sg (l : Launch) (Z : State) (av0 : Array Value) (hw : ∀ d ∈ tables_1, d.before av0 Z = true) (ws : List Jvm.Cond) (p0 : Int32) (h0 : Heap) (n0 : Nat) (Z0 : n0 ≤ h0.size) :
    MetFree l yM29 (head1 (Jvm.Cond.code yM29 method_8_code 1 (some .int) :: ws) ({ frames := 0, cells := 0, slots := 0, locals := 0 } : Room)) (fun a U => a = #[(.int p0)] ∧ Z.Warmed39 U.vm ∧ U.heap = h0) (fun _ _ _ _ _ => True) (fun _ U o U' => ∃ v L, o = .returned v ∧ Q_rm_sg Z p0 h0 n0 v U'.heap L ∧ FrameEnd U o U' L ({ frames := 0, cells := 0, slots := 0, locals := 0 } : Room).cells ({ frames := 0, cells := 0, slots := 0, locals := 0 } : Room).slots) := by
  refine MetFree.of_bodySF (plainFor_of_name pn_6) hisR ?_
  intro p e s m args below meth c s₁ Bd hml0 hP hK
  obtain ⟨rfl, hZ, hh⟩ := hP
  have hx := Bd.exec
  have hby := Bd.bytes
  have hml : c.maxLocals = 1 := hml0
  have hown : s.vm.findClass "com/example/libaccrue/libaccrue/records/TextOrderComparePinLaw" = some m.cls := findClass_of_methodNamed Bd.named
  have hnm := (name_of_methodNamed Bd.named Bd.method).1
  have X0 : Stand p l e ({ frames := 0, cells := 0, slots := 0, locals := 0 } : Room) s m #[(.int p0)] below meth c s₁ [] 0 0 := Stand.of_body Bd
  have e0 : s₁.heap = h0 := by rw [← hh, Bd.state]; rfl
  have N0 := Fr.nil n0
  have pre0 : ∀ t, Steps p.tables e below (s₁.setTop (mkF m 0 #[.val (.int p0)] [])) t → Steps p.tables e below (s₁.setTop (entryFrame m #[(.int p0)] 1)) t := fun t k => castTop (ef_rm_sg m p0) k
  change OwnFin p.tables e below _ (s₁.setTop (entryFrame m #[(.int p0)] 1))
  have kp0 : Keep h0 h0 [] := Keep.refl _ _
  refine OwnFin.st (fun _ q => pre0 _ q) ?_
  show OwnFin _ _ _ _ (s₁.setTop (mkF m 0 #[.val (.int p0)] []))
  refine OwnFin.st (fun _ q => XS.iloadN X0.here hx rfl (hb hby d14_0) rfl q) ?_
  show OwnFin _ _ _ _ (s₁.setTop (mkF m 1 _ [(.int p0)]))
  by_cases hc1 : p0 < (0 : Int32)
  ·
   refine OwnFin.st (fun _ q => XS.ifNo X0.here hx rfl (hb hby d14_1) rfl (Jvm.Free.XT.i0_ge_f hc1) q) ?_
   show OwnFin _ _ _ _ (s₁.setTop (mkF m 4 _ []))
   refine OwnFin.st (fun _ q => XS.iconst X0.here hx rfl (hb hby d14_4) q) ?_
   show OwnFin _ _ _ _ (s₁.setTop (mkF m 5 _ [(.int (-1))]))
   obtain ⟨fs, hr, hrun, hended, hW, hsame⟩ := X0.leave (v := some (.int (-1))) (fun h => by rw [Bd.returns] at h; cases h)
   refine ⟨_, _, retI X0 hx Bd.returns (hb hby d14_5) hr, hrun, hended, _, _, rfl, ?_, ⟨_, rfl⟩, hW, hsame.mono (by decide) (by decide)⟩
   show Q_rm_sg Z p0 h0 n0 _ s₁.heap _
   rw [e0]
   refine ⟨?_, N0, rfl⟩
   unfold own_sg
   rw [if_pos hc1]
  ·
   refine OwnFin.st (fun _ q => XS.ifYes X0.here hx rfl (pc0 := 1) (pc' := 6) rfl (hb hby d14_1) rfl (Jvm.Free.XT.i0_ge_t hc1) (by decide) (by decide) q) ?_
   show OwnFin _ _ _ _ (s₁.setTop (mkF m 6 _ []))
   refine OwnFin.st (fun _ q => XS.iloadN X0.here hx rfl (hb hby d14_6) rfl q) ?_
   show OwnFin _ _ _ _ (s₁.setTop (mkF m 7 _ [(.int p0)]))
   by_cases hc2 : (0 : Int32) < p0
   ·
    refine OwnFin.st (fun _ q => XS.ifNo X0.here hx rfl (hb hby d14_7) rfl (Jvm.Free.XT.i0_le_f hc2) q) ?_
    show OwnFin _ _ _ _ (s₁.setTop (mkF m 10 _ []))
    refine OwnFin.st (fun _ q => XS.iconst X0.here hx rfl (hb hby d14_10) q) ?_
    show OwnFin _ _ _ _ (s₁.setTop (mkF m 11 _ [(.int 1)]))
    obtain ⟨fs, hr, hrun, hended, hW, hsame⟩ := X0.leave (v := some (.int 1)) (fun h => by rw [Bd.returns] at h; cases h)
    refine ⟨_, _, retI X0 hx Bd.returns (hb hby d14_11) hr, hrun, hended, _, _, rfl, ?_, ⟨_, rfl⟩, hW, hsame.mono (by decide) (by decide)⟩
    show Q_rm_sg Z p0 h0 n0 _ s₁.heap _
    rw [e0]
    refine ⟨?_, N0, rfl⟩
    unfold own_sg
    rw [if_neg hc1, if_pos hc2]
   ·
    refine OwnFin.st (fun _ q => XS.ifYes X0.here hx rfl (pc0 := 7) (pc' := 12) rfl (hb hby d14_7) rfl (Jvm.Free.XT.i0_le_t hc2) (by decide) (by decide) q) ?_
    show OwnFin _ _ _ _ (s₁.setTop (mkF m 12 _ []))
    refine OwnFin.st (fun _ q => XS.iconst X0.here hx rfl (hb hby d14_12) q) ?_
    show OwnFin _ _ _ _ (s₁.setTop (mkF m 13 _ [(.int 0)]))
    obtain ⟨fs, hr, hrun, hended, hW, hsame⟩ := X0.leave (v := some (.int 0)) (fun h => by rw [Bd.returns] at h; cases h)
    refine ⟨_, _, retI X0 hx Bd.returns (hb hby d14_13) hr, hrun, hended, _, _, rfl, ?_, ⟨_, rfl⟩, hW, hsame.mono (by decide) (by decide)⟩
    show Q_rm_sg Z p0 h0 n0 _ s₁.heap _
    rw [e0]
    refine ⟨?_, N0, rfl⟩
    unfold own_sg
    rw [if_neg hc1, if_neg hc2]
def own_ref (p0 : Int32) (p1 : Int32) (p2 : Int32) (p3 : Int32) (p4 : Int32) (p5 : Int32) (p6 : Int32) (p7 : Int32) : Int32 := if p0 = (0 : Int32) then own_sg (p0 - p4) else if p4 = (0 : Int32) then own_sg (p0 - p4) else if p1 = p5 then if p0 = (1 : Int32) then own_sg (p0 - p4) else if p4 = (1 : Int32) then own_sg (p0 - p4) else if p2 = p6 then if p0 = (2 : Int32) then own_sg (p0 - p4) else if p4 = (2 : Int32) then own_sg (p0 - p4) else if p3 = p7 then own_sg (p0 - p4) else if p3 < p7 then (-1 : Int32) else (1 : Int32) else if p2 < p6 then (-1 : Int32) else (1 : Int32) else if p1 < p5 then (-1 : Int32) else (1 : Int32)
theorem d13_0 : decode method_9_code 0 = .ok (.iload_n 0, 1) := by decide +kernel
theorem d13_1 : decode method_9_code 1 = .ok (.ifCond .eq 8, 3) := by decide +kernel
theorem d13_4 : decode method_9_code 4 = .ok (.iload 4, 2) := by decide +kernel
theorem d13_6 : decode method_9_code 6 = .ok (.ifCond .ne 11, 3) := by decide +kernel
theorem d13_9 : decode method_9_code 9 = .ok (.iload_n 0, 1) := by decide +kernel
theorem d13_10 : decode method_9_code 10 = .ok (.iload 4, 2) := by decide +kernel
theorem d13_12 : decode method_9_code 12 = .ok (.isub, 1) := by decide +kernel
theorem d13_13 : decode method_9_code 13 = .ok (.invokestatic 33, 3) := by decide +kernel
theorem d13_16 : decode method_9_code 16 = .ok (.ireturn, 1) := by decide +kernel
theorem d13_17 : decode method_9_code 17 = .ok (.iload_n 1, 1) := by decide +kernel
theorem d13_18 : decode method_9_code 18 = .ok (.iload 5, 2) := by decide +kernel
theorem d13_20 : decode method_9_code 20 = .ok (.if_icmp .eq 15, 3) := by decide +kernel
theorem d13_23 : decode method_9_code 23 = .ok (.iload_n 1, 1) := by decide +kernel
theorem d13_24 : decode method_9_code 24 = .ok (.iload 5, 2) := by decide +kernel
theorem d13_26 : decode method_9_code 26 = .ok (.if_icmp .ge 7, 3) := by decide +kernel
theorem d13_29 : decode method_9_code 29 = .ok (.iconst (-1), 1) := by decide +kernel
theorem d13_30 : decode method_9_code 30 = .ok (.goto 4, 3) := by decide +kernel
theorem d13_33 : decode method_9_code 33 = .ok (.iconst 1, 1) := by decide +kernel
theorem d13_34 : decode method_9_code 34 = .ok (.ireturn, 1) := by decide +kernel
theorem d13_35 : decode method_9_code 35 = .ok (.iload_n 0, 1) := by decide +kernel
theorem d13_36 : decode method_9_code 36 = .ok (.iconst 1, 1) := by decide +kernel
theorem d13_37 : decode method_9_code 37 = .ok (.if_icmp .eq 9, 3) := by decide +kernel
theorem d13_40 : decode method_9_code 40 = .ok (.iload 4, 2) := by decide +kernel
theorem d13_42 : decode method_9_code 42 = .ok (.iconst 1, 1) := by decide +kernel
theorem d13_43 : decode method_9_code 43 = .ok (.if_icmp .ne 11, 3) := by decide +kernel
theorem d13_46 : decode method_9_code 46 = .ok (.iload_n 0, 1) := by decide +kernel
theorem d13_47 : decode method_9_code 47 = .ok (.iload 4, 2) := by decide +kernel
theorem d13_49 : decode method_9_code 49 = .ok (.isub, 1) := by decide +kernel
theorem d13_50 : decode method_9_code 50 = .ok (.invokestatic 33, 3) := by decide +kernel
theorem d13_53 : decode method_9_code 53 = .ok (.ireturn, 1) := by decide +kernel
theorem d13_54 : decode method_9_code 54 = .ok (.iload_n 2, 1) := by decide +kernel
theorem d13_55 : decode method_9_code 55 = .ok (.iload 6, 2) := by decide +kernel
theorem d13_57 : decode method_9_code 57 = .ok (.if_icmp .eq 15, 3) := by decide +kernel
theorem d13_60 : decode method_9_code 60 = .ok (.iload_n 2, 1) := by decide +kernel
theorem d13_61 : decode method_9_code 61 = .ok (.iload 6, 2) := by decide +kernel
theorem d13_63 : decode method_9_code 63 = .ok (.if_icmp .ge 7, 3) := by decide +kernel
theorem d13_66 : decode method_9_code 66 = .ok (.iconst (-1), 1) := by decide +kernel
theorem d13_67 : decode method_9_code 67 = .ok (.goto 4, 3) := by decide +kernel
theorem d13_70 : decode method_9_code 70 = .ok (.iconst 1, 1) := by decide +kernel
theorem d13_71 : decode method_9_code 71 = .ok (.ireturn, 1) := by decide +kernel
theorem d13_72 : decode method_9_code 72 = .ok (.iload_n 0, 1) := by decide +kernel
theorem d13_73 : decode method_9_code 73 = .ok (.iconst 2, 1) := by decide +kernel
theorem d13_74 : decode method_9_code 74 = .ok (.if_icmp .eq 9, 3) := by decide +kernel
theorem d13_77 : decode method_9_code 77 = .ok (.iload 4, 2) := by decide +kernel
theorem d13_79 : decode method_9_code 79 = .ok (.iconst 2, 1) := by decide +kernel
theorem d13_80 : decode method_9_code 80 = .ok (.if_icmp .ne 11, 3) := by decide +kernel
theorem d13_83 : decode method_9_code 83 = .ok (.iload_n 0, 1) := by decide +kernel
theorem d13_84 : decode method_9_code 84 = .ok (.iload 4, 2) := by decide +kernel
theorem d13_86 : decode method_9_code 86 = .ok (.isub, 1) := by decide +kernel
theorem d13_87 : decode method_9_code 87 = .ok (.invokestatic 33, 3) := by decide +kernel
theorem d13_90 : decode method_9_code 90 = .ok (.ireturn, 1) := by decide +kernel
theorem d13_91 : decode method_9_code 91 = .ok (.iload_n 3, 1) := by decide +kernel
theorem d13_92 : decode method_9_code 92 = .ok (.iload 7, 2) := by decide +kernel
theorem d13_94 : decode method_9_code 94 = .ok (.if_icmp .eq 15, 3) := by decide +kernel
theorem d13_97 : decode method_9_code 97 = .ok (.iload_n 3, 1) := by decide +kernel
theorem d13_98 : decode method_9_code 98 = .ok (.iload 7, 2) := by decide +kernel
theorem d13_100 : decode method_9_code 100 = .ok (.if_icmp .ge 7, 3) := by decide +kernel
theorem d13_103 : decode method_9_code 103 = .ok (.iconst (-1), 1) := by decide +kernel
theorem d13_104 : decode method_9_code 104 = .ok (.goto 4, 3) := by decide +kernel
theorem d13_107 : decode method_9_code 107 = .ok (.iconst 1, 1) := by decide +kernel
theorem d13_108 : decode method_9_code 108 = .ok (.ireturn, 1) := by decide +kernel
theorem d13_109 : decode method_9_code 109 = .ok (.iload_n 0, 1) := by decide +kernel
theorem d13_110 : decode method_9_code 110 = .ok (.iload 4, 2) := by decide +kernel
theorem d13_112 : decode method_9_code 112 = .ok (.isub, 1) := by decide +kernel
theorem d13_113 : decode method_9_code 113 = .ok (.invokestatic 33, 3) := by decide +kernel
theorem d13_116 : decode method_9_code 116 = .ok (.ireturn, 1) := by decide +kernel
theorem ef_rm_ref (m : MethodId) (p0 : Int32) (p1 : Int32) (p2 : Int32) (p3 : Int32) (p4 : Int32) (p5 : Int32) (p6 : Int32) (p7 : Int32) : entryFrame m #[(.int p0), (.int p1), (.int p2), (.int p3), (.int p4), (.int p5), (.int p6), (.int p7)] 8 = mkF m 0 #[.val (.int p0), .val (.int p1), .val (.int p2), .val (.int p3), .val (.int p4), .val (.int p5), .val (.int p6), .val (.int p7)] [] := by first | (simp [entryFrame, mkF, argsToLocals, Value.category]; done) | rfl
def Q_rm_ref (Z : State) (p0 : Int32) (p1 : Int32) (p2 : Int32) (p3 : Int32) (p4 : Int32) (p5 : Int32) (p6 : Int32) (p7 : Int32) (h0 : Heap) (n0 : Nat) (v : Option Value) (h : Heap) (L : List Loc) : Prop := v = some (.int (own_ref p0 p1 p2 p3 p4 p5 p6 p7)) ∧ Fr n0 L ∧ h = h0
set_option maxRecDepth 65536 in
set_option maxHeartbeats 40000000 in
theorem rm_ref (l : Launch) (Z : State) (av0 : Array Value) (hw : ∀ d ∈ tables_1, d.before av0 Z = true) (ws : List Jvm.Cond) (p0 : Int32) (p1 : Int32) (p2 : Int32) (p3 : Int32) (p4 : Int32) (p5 : Int32) (p6 : Int32) (p7 : Int32) (h0 : Heap) (n0 : Nat) (Z0 : n0 ≤ h0.size) :
    MetFree l yM30 (head1 (Jvm.Cond.code yM30 method_9_code 8 (some .int) :: ws) ({ frames := 1, cells := 0, slots := 0, locals := 12 } : Room)) (fun a U => a = #[(.int p0), (.int p1), (.int p2), (.int p3), (.int p4), (.int p5), (.int p6), (.int p7)] ∧ Z.Warmed39 U.vm ∧ U.heap = h0) (fun _ _ _ _ _ => True) (fun _ U o U' => ∃ v L, o = .returned v ∧ Q_rm_ref Z p0 p1 p2 p3 p4 p5 p6 p7 h0 n0 v U'.heap L ∧ FrameEnd U o U' L ({ frames := 1, cells := 0, slots := 0, locals := 12 } : Room).cells ({ frames := 1, cells := 0, slots := 0, locals := 12 } : Room).slots) := by
  refine MetFree.of_bodySF (plainFor_of_name pn_6) hisR ?_
  intro p e s m args below meth c s₁ Bd hml0 hP hK
  obtain ⟨rfl, hZ, hh⟩ := hP
  have hx := Bd.exec
  have hby := Bd.bytes
  have hml : c.maxLocals = 8 := hml0
  have hown : s.vm.findClass "com/example/libaccrue/libaccrue/records/TextOrderComparePinLaw" = some m.cls := findClass_of_methodNamed Bd.named
  have hnm := (name_of_methodNamed Bd.named Bd.method).1
  have X0 : Stand p l e ({ frames := 1, cells := 0, slots := 0, locals := 12 } : Room) s m #[(.int p0), (.int p1), (.int p2), (.int p3), (.int p4), (.int p5), (.int p6), (.int p7)] below meth c s₁ [] 0 0 := Stand.of_body Bd
  have e0 : s₁.heap = h0 := by rw [← hh, Bd.state]; rfl
  have N0 := Fr.nil n0
  have pre0 : ∀ t, Steps p.tables e below (s₁.setTop (mkF m 0 #[.val (.int p0), .val (.int p1), .val (.int p2), .val (.int p3), .val (.int p4), .val (.int p5), .val (.int p6), .val (.int p7)] [])) t → Steps p.tables e below (s₁.setTop (entryFrame m #[(.int p0), (.int p1), (.int p2), (.int p3), (.int p4), (.int p5), (.int p6), (.int p7)] 8)) t := fun t k => castTop (ef_rm_ref m p0 p1 p2 p3 p4 p5 p6 p7) k
  change OwnFin p.tables e below _ (s₁.setTop (entryFrame m #[(.int p0), (.int p1), (.int p2), (.int p3), (.int p4), (.int p5), (.int p6), (.int p7)] 8))
  have kp0 : Keep h0 h0 [] := Keep.refl _ _
  refine OwnFin.st (fun _ q => pre0 _ q) ?_
  show OwnFin _ _ _ _ (s₁.setTop (mkF m 0 #[.val (.int p0), .val (.int p1), .val (.int p2), .val (.int p3), .val (.int p4), .val (.int p5), .val (.int p6), .val (.int p7)] []))
  refine OwnFin.st (fun _ q => XS.iloadN X0.here hx rfl (hb hby d13_0) rfl q) ?_
  show OwnFin _ _ _ _ (s₁.setTop (mkF m 1 _ [(.int p0)]))
  by_cases hc1 : p0 = (0 : Int32)
  ·
   refine OwnFin.st (fun _ q => XS.ifYes X0.here hx rfl (pc0 := 1) (pc' := 9) rfl (hb hby d13_1) rfl (Jvm.Free.XT.i0_eq_t hc1) (by decide) (by decide) q) ?_
   show OwnFin _ _ _ _ (s₁.setTop (mkF m 9 _ []))
   refine OwnFin.st (fun _ q => XS.iloadN X0.here hx rfl (hb hby d13_9) rfl q) ?_
   show OwnFin _ _ _ _ (s₁.setTop (mkF m 10 _ [(.int p0)]))
   refine OwnFin.st (fun _ q => XS.iload X0.here hx rfl (hb hby d13_10) rfl q) ?_
   show OwnFin _ _ _ _ (s₁.setTop (mkF m 12 _ [(.int p4), (.int p0)]))
   refine OwnFin.st (fun _ q => XS.isub X0.here hx rfl (hb hby d13_12) rfl q) ?_
   show OwnFin _ _ _ _ (s₁.setTop (mkF m 13 _ [(.int (p0 - p4))]))
   obtain ⟨_, _, ⟨T2, L2, k2, n2⟩, -, X2, ⟨Lc2, hQ2, l2, y2, z2⟩, st2⟩ := Jvm.LawKit.callS X0 hx (y := yM29) hown (mvT hZ (w_ hw 63 rfl)) (mvT hZ (w_ hw 64 rfl)) (mvT hZ (w_ hw 2 rfl)) (mvT hZ (w_ hw 65 rfl)) (by decide) (backOf (W := 0) (rm_sg l Z av0 hw [] (p0 - p4) h0 n0 (Nat.le_trans Z0 kp0.1) ) hZ (w_ hw 65 rfl) (w_ hw 2 rfl) (by decide) (by decide)) (g := (mkF m 13 #[.val (.int p0), .val (.int p1), .val (.int p2), .val (.int p3), .val (.int p4), .val (.int p5), .val (.int p6), .val (.int p7)] [(.int (p0 - p4))])) rfl (by rw [hml]; rfl) (argsL := [(.int (p0 - p4))]) (rest := []) (lenOf pd_10 rfl) rfl (by show 2 * 0 + _ ≤ _; exact Nat.le_of_eq rfl) (hb hby d13_13) (fun _ _ => ⟨rfl, e0, (by decide : 0 + 0 ≤ _), (by decide : 0 + 0 ≤ _)⟩)
   dsimp only [Pt.U, Pt.locs, Pt.cells, Pt.slots] at X2 l2 y2 z2 st2 hQ2
   subst l2 y2 z2
   obtain ⟨rfl, N2q, he2⟩ := hQ2
   have N2 := Fr.app N0 N2q
   refine OwnFin.st st2 ?_
   show OwnFin _ _ _ _ (T2.setTop (mkF m 16 _ [(.int (own_sg (p0 - p4)))]))
   obtain ⟨fs, hr, hrun, hended, hW, hsame⟩ := X2.leave (v := some (.int (own_sg (p0 - p4)))) (fun h => by rw [Bd.returns] at h; cases h)
   refine ⟨_, _, retI X2 hx Bd.returns (hb hby d13_16) hr, hrun, hended, _, _, rfl, ?_, ⟨_, rfl⟩, hW, hsame.mono (by decide) (by decide)⟩
   show Q_rm_ref Z p0 p1 p2 p3 p4 p5 p6 p7 h0 n0 _ T2.heap _
   rw [he2]
   refine ⟨?_, N2, rfl⟩
   unfold own_ref
   rw [if_pos hc1]
  ·
   refine OwnFin.st (fun _ q => XS.ifNo X0.here hx rfl (hb hby d13_1) rfl (Jvm.Free.XT.i0_eq_f hc1) q) ?_
   show OwnFin _ _ _ _ (s₁.setTop (mkF m 4 _ []))
   refine OwnFin.st (fun _ q => XS.iload X0.here hx rfl (hb hby d13_4) rfl q) ?_
   show OwnFin _ _ _ _ (s₁.setTop (mkF m 6 _ [(.int p4)]))
   by_cases hc3 : p4 = (0 : Int32)
   ·
    refine OwnFin.st (fun _ q => XS.ifNo X0.here hx rfl (hb hby d13_6) rfl (Jvm.Free.XT.i0_ne_f hc3) q) ?_
    show OwnFin _ _ _ _ (s₁.setTop (mkF m 9 _ []))
    refine OwnFin.st (fun _ q => XS.iloadN X0.here hx rfl (hb hby d13_9) rfl q) ?_
    show OwnFin _ _ _ _ (s₁.setTop (mkF m 10 _ [(.int p0)]))
    refine OwnFin.st (fun _ q => XS.iload X0.here hx rfl (hb hby d13_10) rfl q) ?_
    show OwnFin _ _ _ _ (s₁.setTop (mkF m 12 _ [(.int p4), (.int p0)]))
    refine OwnFin.st (fun _ q => XS.isub X0.here hx rfl (hb hby d13_12) rfl q) ?_
    show OwnFin _ _ _ _ (s₁.setTop (mkF m 13 _ [(.int (p0 - p4))]))
    obtain ⟨_, _, ⟨T4, L4, k4, n4⟩, -, X4, ⟨Lc4, hQ4, l4, y4, z4⟩, st4⟩ := Jvm.LawKit.callS X0 hx (y := yM29) hown (mvT hZ (w_ hw 63 rfl)) (mvT hZ (w_ hw 64 rfl)) (mvT hZ (w_ hw 2 rfl)) (mvT hZ (w_ hw 65 rfl)) (by decide) (backOf (W := 0) (rm_sg l Z av0 hw [] (p0 - p4) h0 n0 (Nat.le_trans Z0 kp0.1) ) hZ (w_ hw 65 rfl) (w_ hw 2 rfl) (by decide) (by decide)) (g := (mkF m 13 #[.val (.int p0), .val (.int p1), .val (.int p2), .val (.int p3), .val (.int p4), .val (.int p5), .val (.int p6), .val (.int p7)] [(.int (p0 - p4))])) rfl (by rw [hml]; rfl) (argsL := [(.int (p0 - p4))]) (rest := []) (lenOf pd_10 rfl) rfl (by show 2 * 0 + _ ≤ _; exact Nat.le_of_eq rfl) (hb hby d13_13) (fun _ _ => ⟨rfl, e0, (by decide : 0 + 0 ≤ _), (by decide : 0 + 0 ≤ _)⟩)
    dsimp only [Pt.U, Pt.locs, Pt.cells, Pt.slots] at X4 l4 y4 z4 st4 hQ4
    subst l4 y4 z4
    obtain ⟨rfl, N4q, he4⟩ := hQ4
    have N4 := Fr.app N0 N4q
    refine OwnFin.st st4 ?_
    show OwnFin _ _ _ _ (T4.setTop (mkF m 16 _ [(.int (own_sg (p0 - p4)))]))
    obtain ⟨fs, hr, hrun, hended, hW, hsame⟩ := X4.leave (v := some (.int (own_sg (p0 - p4)))) (fun h => by rw [Bd.returns] at h; cases h)
    refine ⟨_, _, retI X4 hx Bd.returns (hb hby d13_16) hr, hrun, hended, _, _, rfl, ?_, ⟨_, rfl⟩, hW, hsame.mono (by decide) (by decide)⟩
    show Q_rm_ref Z p0 p1 p2 p3 p4 p5 p6 p7 h0 n0 _ T4.heap _
    rw [he4]
    refine ⟨?_, N4, rfl⟩
    unfold own_ref
    rw [if_neg hc1, if_pos hc3]
   ·
    refine OwnFin.st (fun _ q => XS.ifYes X0.here hx rfl (pc0 := 6) (pc' := 17) rfl (hb hby d13_6) rfl (Jvm.Free.XT.i0_ne_t hc3) (by decide) (by decide) q) ?_
    show OwnFin _ _ _ _ (s₁.setTop (mkF m 17 _ []))
    refine OwnFin.st (fun _ q => XS.iloadN X0.here hx rfl (hb hby d13_17) rfl q) ?_
    show OwnFin _ _ _ _ (s₁.setTop (mkF m 18 _ [(.int p1)]))
    refine OwnFin.st (fun _ q => XS.iload X0.here hx rfl (hb hby d13_18) rfl q) ?_
    show OwnFin _ _ _ _ (s₁.setTop (mkF m 20 _ [(.int p5), (.int p1)]))
    by_cases hc5 : p1 = p5
    ·
     refine OwnFin.st (fun _ q => XS.icmpYes X0.here hx rfl (pc0 := 20) (pc' := 35) rfl (hb hby d13_20) rfl (Jvm.Free.XT.ii_eq_t hc5) (by decide) (by decide) q) ?_
     show OwnFin _ _ _ _ (s₁.setTop (mkF m 35 _ []))
     refine OwnFin.st (fun _ q => XS.iloadN X0.here hx rfl (hb hby d13_35) rfl q) ?_
     show OwnFin _ _ _ _ (s₁.setTop (mkF m 36 _ [(.int p0)]))
     refine OwnFin.st (fun _ q => XS.iconst X0.here hx rfl (hb hby d13_36) q) ?_
     show OwnFin _ _ _ _ (s₁.setTop (mkF m 37 _ [(.int 1), (.int p0)]))
     by_cases hc6 : p0 = (1 : Int32)
     ·
      refine OwnFin.st (fun _ q => XS.icmpYes X0.here hx rfl (pc0 := 37) (pc' := 46) rfl (hb hby d13_37) rfl (Jvm.Free.XT.ii_eq_t hc6) (by decide) (by decide) q) ?_
      show OwnFin _ _ _ _ (s₁.setTop (mkF m 46 _ []))
      refine OwnFin.st (fun _ q => XS.iloadN X0.here hx rfl (hb hby d13_46) rfl q) ?_
      show OwnFin _ _ _ _ (s₁.setTop (mkF m 47 _ [(.int p0)]))
      refine OwnFin.st (fun _ q => XS.iload X0.here hx rfl (hb hby d13_47) rfl q) ?_
      show OwnFin _ _ _ _ (s₁.setTop (mkF m 49 _ [(.int p4), (.int p0)]))
      refine OwnFin.st (fun _ q => XS.isub X0.here hx rfl (hb hby d13_49) rfl q) ?_
      show OwnFin _ _ _ _ (s₁.setTop (mkF m 50 #[.val (.int p0), .val (.int p1), .val (.int p2), .val (.int p3), .val (.int p4), .val (.int p5), .val (.int p6), .val (.int p7)] [(.int (p0 - p4))]))
      obtain ⟨_, _, ⟨T7, L7, k7, n7⟩, -, X7, ⟨Lc7, hQ7, l7, y7, z7⟩, st7⟩ := Jvm.LawKit.callS X0 hx (y := yM29) hown (mvT hZ (w_ hw 63 rfl)) (mvT hZ (w_ hw 64 rfl)) (mvT hZ (w_ hw 2 rfl)) (mvT hZ (w_ hw 65 rfl)) (by decide) (backOf (W := 0) (rm_sg l Z av0 hw [] (p0 - p4) h0 n0 (Nat.le_trans Z0 kp0.1) ) hZ (w_ hw 65 rfl) (w_ hw 2 rfl) (by decide) (by decide)) (g := (mkF m 50 #[.val (.int p0), .val (.int p1), .val (.int p2), .val (.int p3), .val (.int p4), .val (.int p5), .val (.int p6), .val (.int p7)] [(.int (p0 - p4))])) rfl (by rw [hml]; rfl) (argsL := [(.int (p0 - p4))]) (rest := []) (lenOf pd_10 rfl) rfl (by show 2 * 0 + _ ≤ _; exact Nat.le_of_eq rfl) (hb hby d13_50) (fun _ _ => ⟨rfl, e0, (by decide : 0 + 0 ≤ _), (by decide : 0 + 0 ≤ _)⟩)
      dsimp only [Pt.U, Pt.locs, Pt.cells, Pt.slots] at X7 l7 y7 z7 st7 hQ7
      subst l7 y7 z7
      obtain ⟨rfl, N7q, he7⟩ := hQ7
      have N7 := Fr.app N0 N7q
      refine OwnFin.st st7 ?_
      show OwnFin _ _ _ _ (T7.setTop (mkF m 53 _ [(.int (own_sg (p0 - p4)))]))
      obtain ⟨fs, hr, hrun, hended, hW, hsame⟩ := X7.leave (v := some (.int (own_sg (p0 - p4)))) (fun h => by rw [Bd.returns] at h; cases h)
      refine ⟨_, _, retI X7 hx Bd.returns (hb hby d13_53) hr, hrun, hended, _, _, rfl, ?_, ⟨_, rfl⟩, hW, hsame.mono (by decide) (by decide)⟩
      show Q_rm_ref Z p0 p1 p2 p3 p4 p5 p6 p7 h0 n0 _ T7.heap _
      rw [he7]
      refine ⟨?_, N7, rfl⟩
      unfold own_ref
      rw [if_neg hc1, if_neg hc3, if_pos hc5, if_pos hc6]
     ·
      refine OwnFin.st (fun _ q => XS.icmpNo X0.here hx rfl (hb hby d13_37) rfl (Jvm.Free.XT.ii_eq_f hc6) q) ?_
      show OwnFin _ _ _ _ (s₁.setTop (mkF m 40 _ []))
      refine OwnFin.st (fun _ q => XS.iload X0.here hx rfl (hb hby d13_40) rfl q) ?_
      show OwnFin _ _ _ _ (s₁.setTop (mkF m 42 _ [(.int p4)]))
      refine OwnFin.st (fun _ q => XS.iconst X0.here hx rfl (hb hby d13_42) q) ?_
      show OwnFin _ _ _ _ (s₁.setTop (mkF m 43 _ [(.int 1), (.int p4)]))
      by_cases hc8 : p4 = (1 : Int32)
      ·
       refine OwnFin.st (fun _ q => XS.icmpNo X0.here hx rfl (hb hby d13_43) rfl (Jvm.Free.XT.ii_ne_f hc8) q) ?_
       show OwnFin _ _ _ _ (s₁.setTop (mkF m 46 #[.val (.int p0), .val (.int p1), .val (.int p2), .val (.int p3), .val (.int p4), .val (.int p5), .val (.int p6), .val (.int p7)] []))
       refine OwnFin.st (fun _ q => XS.iloadN X0.here hx rfl (hb hby d13_46) rfl q) ?_
       show OwnFin _ _ _ _ (s₁.setTop (mkF m 47 _ [(.int p0)]))
       refine OwnFin.st (fun _ q => XS.iload X0.here hx rfl (hb hby d13_47) rfl q) ?_
       show OwnFin _ _ _ _ (s₁.setTop (mkF m 49 _ [(.int p4), (.int p0)]))
       refine OwnFin.st (fun _ q => XS.isub X0.here hx rfl (hb hby d13_49) rfl q) ?_
       show OwnFin _ _ _ _ (s₁.setTop (mkF m 50 _ [(.int (p0 - p4))]))
       obtain ⟨_, _, ⟨T9, L9, k9, n9⟩, -, X9, ⟨Lc9, hQ9, l9, y9, z9⟩, st9⟩ := Jvm.LawKit.callS X0 hx (y := yM29) hown (mvT hZ (w_ hw 63 rfl)) (mvT hZ (w_ hw 64 rfl)) (mvT hZ (w_ hw 2 rfl)) (mvT hZ (w_ hw 65 rfl)) (by decide) (backOf (W := 0) (rm_sg l Z av0 hw [] (p0 - p4) h0 n0 (Nat.le_trans Z0 kp0.1) ) hZ (w_ hw 65 rfl) (w_ hw 2 rfl) (by decide) (by decide)) (g := (mkF m 50 #[.val (.int p0), .val (.int p1), .val (.int p2), .val (.int p3), .val (.int p4), .val (.int p5), .val (.int p6), .val (.int p7)] [(.int (p0 - p4))])) rfl (by rw [hml]; rfl) (argsL := [(.int (p0 - p4))]) (rest := []) (lenOf pd_10 rfl) rfl (by show 2 * 0 + _ ≤ _; exact Nat.le_of_eq rfl) (hb hby d13_50) (fun _ _ => ⟨rfl, e0, (by decide : 0 + 0 ≤ _), (by decide : 0 + 0 ≤ _)⟩)
       dsimp only [Pt.U, Pt.locs, Pt.cells, Pt.slots] at X9 l9 y9 z9 st9 hQ9
       subst l9 y9 z9
       obtain ⟨rfl, N9q, he9⟩ := hQ9
       have N9 := Fr.app N0 N9q
       refine OwnFin.st st9 ?_
       show OwnFin _ _ _ _ (T9.setTop (mkF m 53 _ [(.int (own_sg (p0 - p4)))]))
       obtain ⟨fs, hr, hrun, hended, hW, hsame⟩ := X9.leave (v := some (.int (own_sg (p0 - p4)))) (fun h => by rw [Bd.returns] at h; cases h)
       refine ⟨_, _, retI X9 hx Bd.returns (hb hby d13_53) hr, hrun, hended, _, _, rfl, ?_, ⟨_, rfl⟩, hW, hsame.mono (by decide) (by decide)⟩
       show Q_rm_ref Z p0 p1 p2 p3 p4 p5 p6 p7 h0 n0 _ T9.heap _
       rw [he9]
       refine ⟨?_, N9, rfl⟩
       unfold own_ref
       rw [if_neg hc1, if_neg hc3, if_pos hc5, if_neg hc6, if_pos hc8]
      ·
       refine OwnFin.st (fun _ q => XS.icmpYes X0.here hx rfl (pc0 := 43) (pc' := 54) rfl (hb hby d13_43) rfl (Jvm.Free.XT.ii_ne_t hc8) (by decide) (by decide) q) ?_
       show OwnFin _ _ _ _ (s₁.setTop (mkF m 54 #[.val (.int p0), .val (.int p1), .val (.int p2), .val (.int p3), .val (.int p4), .val (.int p5), .val (.int p6), .val (.int p7)] []))
       refine OwnFin.st (fun _ q => XS.iloadN X0.here hx rfl (hb hby d13_54) rfl q) ?_
       show OwnFin _ _ _ _ (s₁.setTop (mkF m 55 _ [(.int p2)]))
       refine OwnFin.st (fun _ q => XS.iload X0.here hx rfl (hb hby d13_55) rfl q) ?_
       show OwnFin _ _ _ _ (s₁.setTop (mkF m 57 _ [(.int p6), (.int p2)]))
       by_cases hc10 : p2 = p6
       ·
        refine OwnFin.st (fun _ q => XS.icmpYes X0.here hx rfl (pc0 := 57) (pc' := 72) rfl (hb hby d13_57) rfl (Jvm.Free.XT.ii_eq_t hc10) (by decide) (by decide) q) ?_
        show OwnFin _ _ _ _ (s₁.setTop (mkF m 72 _ []))
        refine OwnFin.st (fun _ q => XS.iloadN X0.here hx rfl (hb hby d13_72) rfl q) ?_
        show OwnFin _ _ _ _ (s₁.setTop (mkF m 73 _ [(.int p0)]))
        refine OwnFin.st (fun _ q => XS.iconst X0.here hx rfl (hb hby d13_73) q) ?_
        show OwnFin _ _ _ _ (s₁.setTop (mkF m 74 _ [(.int 2), (.int p0)]))
        by_cases hc11 : p0 = (2 : Int32)
        ·
         refine OwnFin.st (fun _ q => XS.icmpYes X0.here hx rfl (pc0 := 74) (pc' := 83) rfl (hb hby d13_74) rfl (Jvm.Free.XT.ii_eq_t hc11) (by decide) (by decide) q) ?_
         show OwnFin _ _ _ _ (s₁.setTop (mkF m 83 _ []))
         refine OwnFin.st (fun _ q => XS.iloadN X0.here hx rfl (hb hby d13_83) rfl q) ?_
         show OwnFin _ _ _ _ (s₁.setTop (mkF m 84 _ [(.int p0)]))
         refine OwnFin.st (fun _ q => XS.iload X0.here hx rfl (hb hby d13_84) rfl q) ?_
         show OwnFin _ _ _ _ (s₁.setTop (mkF m 86 _ [(.int p4), (.int p0)]))
         refine OwnFin.st (fun _ q => XS.isub X0.here hx rfl (hb hby d13_86) rfl q) ?_
         show OwnFin _ _ _ _ (s₁.setTop (mkF m 87 _ [(.int (p0 - p4))]))
         obtain ⟨_, _, ⟨T12, L12, k12, n12⟩, -, X12, ⟨Lc12, hQ12, l12, y12, z12⟩, st12⟩ := Jvm.LawKit.callS X0 hx (y := yM29) hown (mvT hZ (w_ hw 63 rfl)) (mvT hZ (w_ hw 64 rfl)) (mvT hZ (w_ hw 2 rfl)) (mvT hZ (w_ hw 65 rfl)) (by decide) (backOf (W := 0) (rm_sg l Z av0 hw [] (p0 - p4) h0 n0 (Nat.le_trans Z0 kp0.1) ) hZ (w_ hw 65 rfl) (w_ hw 2 rfl) (by decide) (by decide)) (g := (mkF m 87 #[.val (.int p0), .val (.int p1), .val (.int p2), .val (.int p3), .val (.int p4), .val (.int p5), .val (.int p6), .val (.int p7)] [(.int (p0 - p4))])) rfl (by rw [hml]; rfl) (argsL := [(.int (p0 - p4))]) (rest := []) (lenOf pd_10 rfl) rfl (by show 2 * 0 + _ ≤ _; exact Nat.le_of_eq rfl) (hb hby d13_87) (fun _ _ => ⟨rfl, e0, (by decide : 0 + 0 ≤ _), (by decide : 0 + 0 ≤ _)⟩)
         dsimp only [Pt.U, Pt.locs, Pt.cells, Pt.slots] at X12 l12 y12 z12 st12 hQ12
         subst l12 y12 z12
         obtain ⟨rfl, N12q, he12⟩ := hQ12
         have N12 := Fr.app N0 N12q
         refine OwnFin.st st12 ?_
         show OwnFin _ _ _ _ (T12.setTop (mkF m 90 _ [(.int (own_sg (p0 - p4)))]))
         obtain ⟨fs, hr, hrun, hended, hW, hsame⟩ := X12.leave (v := some (.int (own_sg (p0 - p4)))) (fun h => by rw [Bd.returns] at h; cases h)
         refine ⟨_, _, retI X12 hx Bd.returns (hb hby d13_90) hr, hrun, hended, _, _, rfl, ?_, ⟨_, rfl⟩, hW, hsame.mono (by decide) (by decide)⟩
         show Q_rm_ref Z p0 p1 p2 p3 p4 p5 p6 p7 h0 n0 _ T12.heap _
         rw [he12]
         refine ⟨?_, N12, rfl⟩
         unfold own_ref
         rw [if_neg hc1, if_neg hc3, if_pos hc5, if_neg hc6, if_neg hc8, if_pos hc10, if_pos hc11]
        ·
         refine OwnFin.st (fun _ q => XS.icmpNo X0.here hx rfl (hb hby d13_74) rfl (Jvm.Free.XT.ii_eq_f hc11) q) ?_
         show OwnFin _ _ _ _ (s₁.setTop (mkF m 77 _ []))
         refine OwnFin.st (fun _ q => XS.iload X0.here hx rfl (hb hby d13_77) rfl q) ?_
         show OwnFin _ _ _ _ (s₁.setTop (mkF m 79 _ [(.int p4)]))
         refine OwnFin.st (fun _ q => XS.iconst X0.here hx rfl (hb hby d13_79) q) ?_
         show OwnFin _ _ _ _ (s₁.setTop (mkF m 80 _ [(.int 2), (.int p4)]))
         by_cases hc13 : p4 = (2 : Int32)
         ·
          refine OwnFin.st (fun _ q => XS.icmpNo X0.here hx rfl (hb hby d13_80) rfl (Jvm.Free.XT.ii_ne_f hc13) q) ?_
          show OwnFin _ _ _ _ (s₁.setTop (mkF m 83 _ []))
          refine OwnFin.st (fun _ q => XS.iloadN X0.here hx rfl (hb hby d13_83) rfl q) ?_
          show OwnFin _ _ _ _ (s₁.setTop (mkF m 84 _ [(.int p0)]))
          refine OwnFin.st (fun _ q => XS.iload X0.here hx rfl (hb hby d13_84) rfl q) ?_
          show OwnFin _ _ _ _ (s₁.setTop (mkF m 86 _ [(.int p4), (.int p0)]))
          refine OwnFin.st (fun _ q => XS.isub X0.here hx rfl (hb hby d13_86) rfl q) ?_
          show OwnFin _ _ _ _ (s₁.setTop (mkF m 87 _ [(.int (p0 - p4))]))
          obtain ⟨_, _, ⟨T14, L14, k14, n14⟩, -, X14, ⟨Lc14, hQ14, l14, y14, z14⟩, st14⟩ := Jvm.LawKit.callS X0 hx (y := yM29) hown (mvT hZ (w_ hw 63 rfl)) (mvT hZ (w_ hw 64 rfl)) (mvT hZ (w_ hw 2 rfl)) (mvT hZ (w_ hw 65 rfl)) (by decide) (backOf (W := 0) (rm_sg l Z av0 hw [] (p0 - p4) h0 n0 (Nat.le_trans Z0 kp0.1) ) hZ (w_ hw 65 rfl) (w_ hw 2 rfl) (by decide) (by decide)) (g := (mkF m 87 #[.val (.int p0), .val (.int p1), .val (.int p2), .val (.int p3), .val (.int p4), .val (.int p5), .val (.int p6), .val (.int p7)] [(.int (p0 - p4))])) rfl (by rw [hml]; rfl) (argsL := [(.int (p0 - p4))]) (rest := []) (lenOf pd_10 rfl) rfl (by show 2 * 0 + _ ≤ _; exact Nat.le_of_eq rfl) (hb hby d13_87) (fun _ _ => ⟨rfl, e0, (by decide : 0 + 0 ≤ _), (by decide : 0 + 0 ≤ _)⟩)
          dsimp only [Pt.U, Pt.locs, Pt.cells, Pt.slots] at X14 l14 y14 z14 st14 hQ14
          subst l14 y14 z14
          obtain ⟨rfl, N14q, he14⟩ := hQ14
          have N14 := Fr.app N0 N14q
          refine OwnFin.st st14 ?_
          show OwnFin _ _ _ _ (T14.setTop (mkF m 90 #[.val (.int p0), .val (.int p1), .val (.int p2), .val (.int p3), .val (.int p4), .val (.int p5), .val (.int p6), .val (.int p7)] [(.int (own_sg (p0 - p4)))]))
          obtain ⟨fs, hr, hrun, hended, hW, hsame⟩ := X14.leave (v := some (.int (own_sg (p0 - p4)))) (fun h => by rw [Bd.returns] at h; cases h)
          refine ⟨_, _, retI X14 hx Bd.returns (hb hby d13_90) hr, hrun, hended, _, _, rfl, ?_, ⟨_, rfl⟩, hW, hsame.mono (by decide) (by decide)⟩
          show Q_rm_ref Z p0 p1 p2 p3 p4 p5 p6 p7 h0 n0 _ T14.heap _
          rw [he14]
          refine ⟨?_, N14, rfl⟩
          unfold own_ref
          rw [if_neg hc1, if_neg hc3, if_pos hc5, if_neg hc6, if_neg hc8, if_pos hc10, if_neg hc11, if_pos hc13]
         ·
          refine OwnFin.st (fun _ q => XS.icmpYes X0.here hx rfl (pc0 := 80) (pc' := 91) rfl (hb hby d13_80) rfl (Jvm.Free.XT.ii_ne_t hc13) (by decide) (by decide) q) ?_
          show OwnFin _ _ _ _ (s₁.setTop (mkF m 91 _ []))
          refine OwnFin.st (fun _ q => XS.iloadN X0.here hx rfl (hb hby d13_91) rfl q) ?_
          show OwnFin _ _ _ _ (s₁.setTop (mkF m 92 _ [(.int p3)]))
          refine OwnFin.st (fun _ q => XS.iload X0.here hx rfl (hb hby d13_92) rfl q) ?_
          show OwnFin _ _ _ _ (s₁.setTop (mkF m 94 _ [(.int p7), (.int p3)]))
          by_cases hc15 : p3 = p7
          ·
           refine OwnFin.st (fun _ q => XS.icmpYes X0.here hx rfl (pc0 := 94) (pc' := 109) rfl (hb hby d13_94) rfl (Jvm.Free.XT.ii_eq_t hc15) (by decide) (by decide) q) ?_
           show OwnFin _ _ _ _ (s₁.setTop (mkF m 109 _ []))
           refine OwnFin.st (fun _ q => XS.iloadN X0.here hx rfl (hb hby d13_109) rfl q) ?_
           show OwnFin _ _ _ _ (s₁.setTop (mkF m 110 #[.val (.int p0), .val (.int p1), .val (.int p2), .val (.int p3), .val (.int p4), .val (.int p5), .val (.int p6), .val (.int p7)] [(.int p0)]))
           refine OwnFin.st (fun _ q => XS.iload X0.here hx rfl (hb hby d13_110) rfl q) ?_
           show OwnFin _ _ _ _ (s₁.setTop (mkF m 112 _ [(.int p4), (.int p0)]))
           refine OwnFin.st (fun _ q => XS.isub X0.here hx rfl (hb hby d13_112) rfl q) ?_
           show OwnFin _ _ _ _ (s₁.setTop (mkF m 113 _ [(.int (p0 - p4))]))
           obtain ⟨_, _, ⟨T16, L16, k16, n16⟩, -, X16, ⟨Lc16, hQ16, l16, y16, z16⟩, st16⟩ := Jvm.LawKit.callS X0 hx (y := yM29) hown (mvT hZ (w_ hw 63 rfl)) (mvT hZ (w_ hw 64 rfl)) (mvT hZ (w_ hw 2 rfl)) (mvT hZ (w_ hw 65 rfl)) (by decide) (backOf (W := 0) (rm_sg l Z av0 hw [] (p0 - p4) h0 n0 (Nat.le_trans Z0 kp0.1) ) hZ (w_ hw 65 rfl) (w_ hw 2 rfl) (by decide) (by decide)) (g := (mkF m 113 #[.val (.int p0), .val (.int p1), .val (.int p2), .val (.int p3), .val (.int p4), .val (.int p5), .val (.int p6), .val (.int p7)] [(.int (p0 - p4))])) rfl (by rw [hml]; rfl) (argsL := [(.int (p0 - p4))]) (rest := []) (lenOf pd_10 rfl) rfl (by show 2 * 0 + _ ≤ _; exact Nat.le_of_eq rfl) (hb hby d13_113) (fun _ _ => ⟨rfl, e0, (by decide : 0 + 0 ≤ _), (by decide : 0 + 0 ≤ _)⟩)
           dsimp only [Pt.U, Pt.locs, Pt.cells, Pt.slots] at X16 l16 y16 z16 st16 hQ16
           subst l16 y16 z16
           obtain ⟨rfl, N16q, he16⟩ := hQ16
           have N16 := Fr.app N0 N16q
           refine OwnFin.st st16 ?_
           show OwnFin _ _ _ _ (T16.setTop (mkF m 116 _ [(.int (own_sg (p0 - p4)))]))
           obtain ⟨fs, hr, hrun, hended, hW, hsame⟩ := X16.leave (v := some (.int (own_sg (p0 - p4)))) (fun h => by rw [Bd.returns] at h; cases h)
           refine ⟨_, _, retI X16 hx Bd.returns (hb hby d13_116) hr, hrun, hended, _, _, rfl, ?_, ⟨_, rfl⟩, hW, hsame.mono (by decide) (by decide)⟩
           show Q_rm_ref Z p0 p1 p2 p3 p4 p5 p6 p7 h0 n0 _ T16.heap _
           rw [he16]
           refine ⟨?_, N16, rfl⟩
           unfold own_ref
           rw [if_neg hc1, if_neg hc3, if_pos hc5, if_neg hc6, if_neg hc8, if_pos hc10, if_neg hc11, if_neg hc13, if_pos hc15]
          ·
           refine OwnFin.st (fun _ q => XS.icmpNo X0.here hx rfl (hb hby d13_94) rfl (Jvm.Free.XT.ii_eq_f hc15) q) ?_
           show OwnFin _ _ _ _ (s₁.setTop (mkF m 97 _ []))
           refine OwnFin.st (fun _ q => XS.iloadN X0.here hx rfl (hb hby d13_97) rfl q) ?_
           show OwnFin _ _ _ _ (s₁.setTop (mkF m 98 #[.val (.int p0), .val (.int p1), .val (.int p2), .val (.int p3), .val (.int p4), .val (.int p5), .val (.int p6), .val (.int p7)] [(.int p3)]))
           refine OwnFin.st (fun _ q => XS.iload X0.here hx rfl (hb hby d13_98) rfl q) ?_
           show OwnFin _ _ _ _ (s₁.setTop (mkF m 100 _ [(.int p7), (.int p3)]))
           by_cases hc17 : p3 < p7
           ·
            refine OwnFin.st (fun _ q => XS.icmpNo X0.here hx rfl (hb hby d13_100) rfl (Jvm.Free.XT.ii_ge_f hc17) q) ?_
            show OwnFin _ _ _ _ (s₁.setTop (mkF m 103 _ []))
            refine OwnFin.st (fun _ q => XS.iconst X0.here hx rfl (hb hby d13_103) q) ?_
            show OwnFin _ _ _ _ (s₁.setTop (mkF m 104 _ [(.int (-1))]))
            refine OwnFin.st (fun _ q => XS.goto X0.here hx rfl (pc0 := 104) (pc' := 108) rfl (hb hby d13_104) (by decide) (by decide) q) ?_
            show OwnFin _ _ _ _ (s₁.setTop (mkF m 108 _ [(.int (-1))]))
            obtain ⟨fs, hr, hrun, hended, hW, hsame⟩ := X0.leave (v := some (.int (-1))) (fun h => by rw [Bd.returns] at h; cases h)
            refine ⟨_, _, retI X0 hx Bd.returns (hb hby d13_108) hr, hrun, hended, _, _, rfl, ?_, ⟨_, rfl⟩, hW, hsame.mono (by decide) (by decide)⟩
            show Q_rm_ref Z p0 p1 p2 p3 p4 p5 p6 p7 h0 n0 _ s₁.heap _
            rw [e0]
            refine ⟨?_, N0, rfl⟩
            unfold own_ref
            rw [if_neg hc1, if_neg hc3, if_pos hc5, if_neg hc6, if_neg hc8, if_pos hc10, if_neg hc11, if_neg hc13, if_neg hc15, if_pos hc17]
           ·
            refine OwnFin.st (fun _ q => XS.icmpYes X0.here hx rfl (pc0 := 100) (pc' := 107) rfl (hb hby d13_100) rfl (Jvm.Free.XT.ii_ge_t hc17) (by decide) (by decide) q) ?_
            show OwnFin _ _ _ _ (s₁.setTop (mkF m 107 _ []))
            refine OwnFin.st (fun _ q => XS.iconst X0.here hx rfl (hb hby d13_107) q) ?_
            show OwnFin _ _ _ _ (s₁.setTop (mkF m 108 _ [(.int 1)]))
            obtain ⟨fs, hr, hrun, hended, hW, hsame⟩ := X0.leave (v := some (.int 1)) (fun h => by rw [Bd.returns] at h; cases h)
            refine ⟨_, _, retI X0 hx Bd.returns (hb hby d13_108) hr, hrun, hended, _, _, rfl, ?_, ⟨_, rfl⟩, hW, hsame.mono (by decide) (by decide)⟩
            show Q_rm_ref Z p0 p1 p2 p3 p4 p5 p6 p7 h0 n0 _ s₁.heap _
            rw [e0]
            refine ⟨?_, N0, rfl⟩
            unfold own_ref
            rw [if_neg hc1, if_neg hc3, if_pos hc5, if_neg hc6, if_neg hc8, if_pos hc10, if_neg hc11, if_neg hc13, if_neg hc15, if_neg hc17]
       ·
        refine OwnFin.st (fun _ q => XS.icmpNo X0.here hx rfl (hb hby d13_57) rfl (Jvm.Free.XT.ii_eq_f hc10) q) ?_
        show OwnFin _ _ _ _ (s₁.setTop (mkF m 60 _ []))
        refine OwnFin.st (fun _ q => XS.iloadN X0.here hx rfl (hb hby d13_60) rfl q) ?_
        show OwnFin _ _ _ _ (s₁.setTop (mkF m 61 _ [(.int p2)]))
        refine OwnFin.st (fun _ q => XS.iload X0.here hx rfl (hb hby d13_61) rfl q) ?_
        show OwnFin _ _ _ _ (s₁.setTop (mkF m 63 _ [(.int p6), (.int p2)]))
        by_cases hc18 : p2 < p6
        ·
         refine OwnFin.st (fun _ q => XS.icmpNo X0.here hx rfl (hb hby d13_63) rfl (Jvm.Free.XT.ii_ge_f hc18) q) ?_
         show OwnFin _ _ _ _ (s₁.setTop (mkF m 66 _ []))
         refine OwnFin.st (fun _ q => XS.iconst X0.here hx rfl (hb hby d13_66) q) ?_
         show OwnFin _ _ _ _ (s₁.setTop (mkF m 67 _ [(.int (-1))]))
         refine OwnFin.st (fun _ q => XS.goto X0.here hx rfl (pc0 := 67) (pc' := 71) rfl (hb hby d13_67) (by decide) (by decide) q) ?_
         show OwnFin _ _ _ _ (s₁.setTop (mkF m 71 _ [(.int (-1))]))
         obtain ⟨fs, hr, hrun, hended, hW, hsame⟩ := X0.leave (v := some (.int (-1))) (fun h => by rw [Bd.returns] at h; cases h)
         refine ⟨_, _, retI X0 hx Bd.returns (hb hby d13_71) hr, hrun, hended, _, _, rfl, ?_, ⟨_, rfl⟩, hW, hsame.mono (by decide) (by decide)⟩
         show Q_rm_ref Z p0 p1 p2 p3 p4 p5 p6 p7 h0 n0 _ s₁.heap _
         rw [e0]
         refine ⟨?_, N0, rfl⟩
         unfold own_ref
         rw [if_neg hc1, if_neg hc3, if_pos hc5, if_neg hc6, if_neg hc8, if_neg hc10, if_pos hc18]
        ·
         refine OwnFin.st (fun _ q => XS.icmpYes X0.here hx rfl (pc0 := 63) (pc' := 70) rfl (hb hby d13_63) rfl (Jvm.Free.XT.ii_ge_t hc18) (by decide) (by decide) q) ?_
         show OwnFin _ _ _ _ (s₁.setTop (mkF m 70 _ []))
         refine OwnFin.st (fun _ q => XS.iconst X0.here hx rfl (hb hby d13_70) q) ?_
         show OwnFin _ _ _ _ (s₁.setTop (mkF m 71 _ [(.int 1)]))
         obtain ⟨fs, hr, hrun, hended, hW, hsame⟩ := X0.leave (v := some (.int 1)) (fun h => by rw [Bd.returns] at h; cases h)
         refine ⟨_, _, retI X0 hx Bd.returns (hb hby d13_71) hr, hrun, hended, _, _, rfl, ?_, ⟨_, rfl⟩, hW, hsame.mono (by decide) (by decide)⟩
         show Q_rm_ref Z p0 p1 p2 p3 p4 p5 p6 p7 h0 n0 _ s₁.heap _
         rw [e0]
         refine ⟨?_, N0, rfl⟩
         unfold own_ref
         rw [if_neg hc1, if_neg hc3, if_pos hc5, if_neg hc6, if_neg hc8, if_neg hc10, if_neg hc18]
    ·
     refine OwnFin.st (fun _ q => XS.icmpNo X0.here hx rfl (hb hby d13_20) rfl (Jvm.Free.XT.ii_eq_f hc5) q) ?_
     show OwnFin _ _ _ _ (s₁.setTop (mkF m 23 _ []))
     refine OwnFin.st (fun _ q => XS.iloadN X0.here hx rfl (hb hby d13_23) rfl q) ?_
     show OwnFin _ _ _ _ (s₁.setTop (mkF m 24 _ [(.int p1)]))
     refine OwnFin.st (fun _ q => XS.iload X0.here hx rfl (hb hby d13_24) rfl q) ?_
     show OwnFin _ _ _ _ (s₁.setTop (mkF m 26 _ [(.int p5), (.int p1)]))
     by_cases hc19 : p1 < p5
     ·
      refine OwnFin.st (fun _ q => XS.icmpNo X0.here hx rfl (hb hby d13_26) rfl (Jvm.Free.XT.ii_ge_f hc19) q) ?_
      show OwnFin _ _ _ _ (s₁.setTop (mkF m 29 _ []))
      refine OwnFin.st (fun _ q => XS.iconst X0.here hx rfl (hb hby d13_29) q) ?_
      show OwnFin _ _ _ _ (s₁.setTop (mkF m 30 _ [(.int (-1))]))
      refine OwnFin.st (fun _ q => XS.goto X0.here hx rfl (pc0 := 30) (pc' := 34) rfl (hb hby d13_30) (by decide) (by decide) q) ?_
      show OwnFin _ _ _ _ (s₁.setTop (mkF m 34 _ [(.int (-1))]))
      obtain ⟨fs, hr, hrun, hended, hW, hsame⟩ := X0.leave (v := some (.int (-1))) (fun h => by rw [Bd.returns] at h; cases h)
      refine ⟨_, _, retI X0 hx Bd.returns (hb hby d13_34) hr, hrun, hended, _, _, rfl, ?_, ⟨_, rfl⟩, hW, hsame.mono (by decide) (by decide)⟩
      show Q_rm_ref Z p0 p1 p2 p3 p4 p5 p6 p7 h0 n0 _ s₁.heap _
      rw [e0]
      refine ⟨?_, N0, rfl⟩
      unfold own_ref
      rw [if_neg hc1, if_neg hc3, if_neg hc5, if_pos hc19]
     ·
      refine OwnFin.st (fun _ q => XS.icmpYes X0.here hx rfl (pc0 := 26) (pc' := 33) rfl (hb hby d13_26) rfl (Jvm.Free.XT.ii_ge_t hc19) (by decide) (by decide) q) ?_
      show OwnFin _ _ _ _ (s₁.setTop (mkF m 33 _ []))
      refine OwnFin.st (fun _ q => XS.iconst X0.here hx rfl (hb hby d13_33) q) ?_
      show OwnFin _ _ _ _ (s₁.setTop (mkF m 34 _ [(.int 1)]))
      obtain ⟨fs, hr, hrun, hended, hW, hsame⟩ := X0.leave (v := some (.int 1)) (fun h => by rw [Bd.returns] at h; cases h)
      refine ⟨_, _, retI X0 hx Bd.returns (hb hby d13_34) hr, hrun, hended, _, _, rfl, ?_, ⟨_, rfl⟩, hW, hsame.mono (by decide) (by decide)⟩
      show Q_rm_ref Z p0 p1 p2 p3 p4 p5 p6 p7 h0 n0 _ s₁.heap _
      rw [e0]
      refine ⟨?_, N0, rfl⟩
      unfold own_ref
      rw [if_neg hc1, if_neg hc3, if_neg hc5, if_neg hc19]
def own_R (x : Int32) : Prop := 0 ≤ x.toInt ∧ x.toInt ≤ 1114111
def own_N (n : Int32) : Prop := 0 ≤ n.toInt ∧ n.toInt ≤ 3
theorem own_m3 (x : Int32) : own_N (x &&& (3 : Int32)) := by
  have a := c_mask x (3 : Int32) 2 (by decide) (by decide +kernel); unfold own_N; omega
theorem own_cpr (q : Int64) : own_R (own_cpv q) := by
  have a := c_maskL q (2097151 : Int64) 21 (by decide) (by decide +kernel)
  have b := c_lrem (q &&& (2097151 : Int64)) (1114112 : Int64) 1114112 (by decide +kernel)
  have d := c_l2i ((q &&& (2097151 : Int64)) - ((q &&& (2097151 : Int64)) / (1114112 : Int64)) * (1114112 : Int64))
  have e := rng32 (own_cpv q)
  unfold own_R; unfold own_cpv at *
  generalize (((q &&& (2097151 : Int64)) - ((q &&& (2097151 : Int64)) / (1114112 : Int64)) * (1114112 : Int64)).toInt32).toInt = g1 at *
  generalize ((q &&& (2097151 : Int64)) - ((q &&& (2097151 : Int64)) / (1114112 : Int64)) * (1114112 : Int64)).toInt = g2 at *
  generalize (q &&& (2097151 : Int64)).toInt = g3 at *
  omega
theorem own_iter {P : Prop} [Decidable P] {a b : Int32} (ha : own_R a) (hb : own_R b) : own_R (if P then a else b) := by split <;> assumption
theorem own_bcd01 (n a b c : Int32) : own_bcd n a b c = (0 : Int32) ∨ own_bcd n a b c = (1 : Int32) := by unfold own_bcd; split; exact Or.inl rfl; split; exact Or.inl rfl; exact Or.inr rfl
def own_hg (x : Int32) : Prop := 55296 ≤ x.toInt ∧ x.toInt ≤ 56319
theorem own_fixR {x i n : Int32} (h : own_R x) : own_R (own_fix x i n) := by
  unfold own_fix; split; split; exact h; split; exact h
  · rename_i q1 q2 q3; have a := c_iadd x (1024 : Int32); have b := rng32 (x + (1024 : Int32)); have r : (1024 : Int32).toInt = 1024 := rfl; have r2 : (56319 : Int32).toInt = 56319 := rfl
    rw [Int32.lt_iff_toInt_lt] at q2 q3; unfold own_R at *; omega
  · exact h
theorem own_fixH {x i n : Int32} (h : own_R x) (q : i < n - (1 : Int32)) : ¬ own_hg (own_fix x i n) := by
  unfold own_fix; rw [if_pos q]; have r1 : (55296 : Int32).toInt = 55296 := rfl; have r2 : (56319 : Int32).toInt = 56319 := rfl
  split
  · rename_i q1; rw [Int32.lt_iff_toInt_lt] at q1; unfold own_hg; omega
  · split
    · rename_i q1 q2; rw [Int32.lt_iff_toInt_lt] at q2; unfold own_hg; omega
    · rename_i q1 q2; have a := c_iadd x (1024 : Int32); have b := rng32 (x + (1024 : Int32)); have r : (1024 : Int32).toInt = 1024 := rfl
      rw [Int32.lt_iff_toInt_lt] at q1 q2; unfold own_R own_hg at *; omega
theorem own_surr {A : Int32} (h : own_R A) (q : ¬ A < (65536 : Int32)) : own_hs ((55296 : Int32) + (((A - (65536 : Int32)).toUInt32 >>> ((10 : Int32) &&& 31).toUInt32).toInt32)).toUInt32.toUInt16.toUInt32.toInt32 = 1 ∧ own_ls ((56320 : Int32) + ((A - (65536 : Int32)) &&& (1023 : Int32))).toUInt32.toUInt16.toUInt32.toInt32 = 1 ∧
    own_tcp ((55296 : Int32) + (((A - (65536 : Int32)).toUInt32 >>> ((10 : Int32) &&& 31).toUInt32).toInt32)).toUInt32.toUInt16.toUInt32.toInt32 ((56320 : Int32) + ((A - (65536 : Int32)) &&& (1023 : Int32))).toUInt32.toUInt16.toUInt32.toInt32 = A := by
  have r0 : (65536 : Int32).toInt = 65536 := rfl; have r1 : (55296 : Int32).toInt = 55296 := rfl; have r2 : (56320 : Int32).toInt = 56320 := rfl; have r3 : (57344 : Int32).toInt = 57344 := rfl; have r4 : (-56613888 : Int32).toInt = -56613888 := by decide +kernel
  have b := c_isub A (65536 : Int32); have b' := rng32 (A - (65536 : Int32))
  have s := c_iushr (A - (65536 : Int32)) (10 : Int32) 10 (by decide +kernel) (by decide +kernel)
  have m := c_mask (A - (65536 : Int32)) (1023 : Int32) 10 (by decide) (by decide +kernel)
  rw [Int32.lt_iff_toInt_lt] at q; unfold own_R at h
  generalize hS : (((A - (65536 : Int32)).toUInt32 >>> ((10 : Int32) &&& 31).toUInt32).toInt32) = S at *
  generalize hM : ((A - (65536 : Int32)) &&& (1023 : Int32)) = M at *
  have d1 := c_iadd (55296 : Int32) S; have d1' := rng32 ((55296 : Int32) + S); have e1 := c_i2c ((55296 : Int32) + S)
  have d2 := c_iadd (56320 : Int32) M; have d2' := rng32 ((56320 : Int32) + M); have e2 := c_i2c ((56320 : Int32) + M)
  generalize ((55296 : Int32) + S).toUInt32.toUInt16.toUInt32.toInt32 = H at *
  generalize ((56320 : Int32) + M).toUInt32.toUInt16.toUInt32.toInt32 = L at *
  have e256 : ((2 ^ 10 : Nat) : Int) = 1024 := by decide
  rw [e256] at s m
  have vb : (A - (65536 : Int32)).toInt = A.toInt - 65536 := by omega
  have vS : S.toInt = (A.toInt - 65536) / 1024 := by omega
  have vM : M.toInt = (A.toInt - 65536) % 1024 := by omega
  have vH : H.toInt = 55296 + (A.toInt - 65536) / 1024 := by omega
  have vL : L.toInt = 56320 + (A.toInt - 65536) % 1024 := by omega
  refine ⟨?_, ?_, ?_⟩
  · unfold own_hs; rw [if_neg (by rw [Int32.lt_iff_toInt_lt]; omega), if_pos (by rw [Int32.lt_iff_toInt_lt]; omega)]
  · unfold own_ls; rw [if_neg (by rw [Int32.lt_iff_toInt_lt]; omega), if_pos (by rw [Int32.lt_iff_toInt_lt]; omega)]
  · have t1 := c_ishl H (10 : Int32) 10 (by decide +kernel); have t1' := rng32 (H <<< ((10 : Int32) &&& 31)); rw [e256] at t1
    have t2 := c_iadd (H <<< ((10 : Int32) &&& 31)) L; have t2' := rng32 ((H <<< ((10 : Int32) &&& 31)) + L)
    have t3 := c_iadd ((H <<< ((10 : Int32) &&& 31)) + L) (-56613888 : Int32); have t3' := rng32 (((H <<< ((10 : Int32) &&& 31)) + L) + (-56613888 : Int32))
    unfold own_tcp; rw [← Int32.toInt_inj]
    generalize (((H <<< ((10 : Int32) &&& 31)) + L) + (-56613888 : Int32)).toInt = g1 at *
    generalize ((H <<< ((10 : Int32) &&& 31)) + L).toInt = g2 at *
    generalize (H <<< ((10 : Int32) &&& 31)).toInt = g3 at *
    generalize (-56613888 : Int32).toInt = g4 at *
    generalize H.toInt = g5 at *
    generalize L.toInt = g6 at *
    generalize A.toInt = g7 at *
    clear hS hM
    omega
def own_cpf (f : Nat → Int32) (k i : Int32) : Int32 := if own_hs (own_at f i) = 0 then own_at f i else if (i + (1 : Int32)) < k then if own_ls (own_at f (i + (1 : Int32))) = 0 then own_at f i else own_tcp (own_at f i) (own_at f (i + (1 : Int32))) else own_at f i
theorem own_chr {c : Int32} (hc : nar .char c = c) : 0 ≤ c.toInt ∧ c.toInt < 65536 := by
  have q := c_i2c c
  have e : c.toUInt32.toUInt16.toUInt32.toInt32 = c := by simpa [nar] using hc
  rw [e] at q; exact q.2
theorem own_b255 {c : Int32} (h0 : 0 ≤ c.toInt) (h1 : c.toInt ≤ 255) : c.toInt8.toInt32 &&& (255 : Int32) = c := by
  have b := c_i2b c; have m := c_mask c.toInt8.toInt32 (255 : Int32) 8 (by decide) (by decide +kernel)
  have e256 : ((2 ^ 8 : Nat) : Int) = 256 := by decide
  rw [e256] at m; rw [← Int32.toInt_inj]; omega
theorem own_lshr {k : Int32} (h0 : ¬ k < (0 : Int32)) (h6 : ¬ (6 : Int32) < k) : (k <<< ((1 : Int32) &&& 31)) >>> ((1 : Int32) &&& 31) = k := by
  by_cases q : k = 0
  · subst q; decide
  · rcases own_16 h0 h6 q with rfl | rfl | rfl | rfl | rfl | rfl <;> decide
theorem own_lshr0 (k : Int32) : k >>> ((0 : Int32) &&& 31) = k := by
  have a := c_ishr k (0 : Int32) 0 (by decide +kernel); rw [← Int32.toInt_inj]; omega
theorem own_L (n a b c : Int32) : (own_bz n a b c >>> (own_bcd n a b c &&& 31)) = own_bk n a b c := by
  have hk := own_kb n a b c
  unfold own_bz own_bcd; split
  · rename_i q; rw [q]; decide
  · split
    · exact own_lshr0 _
    · exact own_lshr hk.1 hk.2
theorem own_c5all {f : Nat → Int32} : ∀ (n i : Nat), own_c5n f n i = i + n → ∀ j, i ≤ j → j < i + n → ¬ (255 : Int32) < f j
  | 0, i, _, j, a, b => by omega
  | n + 1, i, h, j, a, b => by
    simp only [own_c5n] at h; split at h
    · omega
    · rename_i q; by_cases e : j = i
      · subst e; exact q
      · exact own_c5all n (i + 1) (by omega) j (by omega) (by omega)
theorem own_gcpf (n a b c i : Int32) (h0 : ¬ i < (0 : Int32)) (h1 : i < own_bk n a b c) : own_cpa (own_bcd n a b c) (own_bz n a b c) (own_bb n a b c) i = own_cpf (own_bf n a b c) (own_bk n a b c) i := by
  have hk := own_kb n a b c
  have kz : ¬ (own_bk n a b c = (0 : Int32)) := fun q => by rw [q] at h1; exact h0 h1
  have hch := own_bfch n a b c
  have lt := own_idx ⟨h0, h1⟩
  unfold own_bz own_bcd own_bb
  simp only [if_neg kz]
  generalize own_bf n a b c = f at *
  generalize own_bk n a b c = k at *
  by_cases q : own_c5 f k = k
  · simp only [if_pos q]
    have nk := own_nat hk.1; have rk := rng32 k
    have b := own_c5nb f k.toNatClampNeg 0
    have e : (own_c5 f k).toInt = own_c5n f k.toNatClampNeg 0 := Int32.toInt_ofNat_of_lt (by omega)
    rw [q] at e
    have al := own_c5all (f := f) k.toNatClampNeg 0 (by omega) i.toNatClampNeg (by omega) (by omega)
    have ch := own_chr (hch i.toNatClampNeg)
    have r : (255 : Int32).toInt = 255 := rfl; have r2 : (55296 : Int32).toInt = 55296 := rfl
    rw [Int32.lt_iff_toInt_lt] at al
    have hh : own_hs (own_at f i) = 0 := by unfold own_hs own_at; rw [if_pos (by rw [Int32.lt_iff_toInt_lt]; omega)]
    unfold own_cpa own_cpf; rw [if_pos rfl, if_pos hh]; unfold own_at own_fl; rw [if_pos lt]; exact own_b255 ch.1 (by omega)
  · simp only [if_neg q]
    unfold own_cpa own_cpf own_cp16; rw [if_neg (by decide), own_lshr hk.1 hk.2, own_gcu hch h0 h1 hk.1 hk.2]
    by_cases q2 : (i + (1 : Int32)) < k
    · rw [own_gcu hch (own_succ h0 h1).2.1 q2 hk.1 hk.2]
    · simp only [if_neg q2]
def own_H (A : Int32) : Int32 := ((55296 : Int32) + (((A - (65536 : Int32)).toUInt32 >>> ((10 : Int32) &&& 31).toUInt32).toInt32)).toUInt32.toUInt16.toUInt32.toInt32
def own_Lo (A : Int32) : Int32 := ((56320 : Int32) + ((A - (65536 : Int32)) &&& (1023 : Int32))).toUInt32.toUInt16.toUInt32.toInt32
def own_pt (f : Nat → Int32) (i A : Int32) : Prop := (A < (65536 : Int32) → own_at f i = A.toUInt32.toUInt16.toUInt32.toInt32) ∧ (¬ A < (65536 : Int32) → own_at f i = own_H A ∧ own_at f (i + (1 : Int32)) = own_Lo A)
theorem own_atu (f : Nat → Int32) (i x : Int32) : own_at (own_upd f i x) i = x := by simp [own_at, own_upd]
theorem own_natv {i : Int32} (h : 0 ≤ i.toInt) : (i.toNatClampNeg : Int) = i.toInt := by simp only [Int32.toNatClampNeg]; omega
theorem own_atn {f : Nat → Int32} {i j x : Int32} (hi : 0 ≤ i.toInt) (hj : 0 ≤ j.toInt) (h : i.toInt ≠ j.toInt) : own_at (own_upd f j x) i = own_at f i := by
  have a := own_natv hi; have b := own_natv hj
  simp only [own_at, own_upd]; rw [if_neg (by omega)]
theorem own_p1 {i : Int32} (h0 : 0 ≤ i.toInt) (h1 : i.toInt ≤ 100) : (i + (1 : Int32)).toInt = i.toInt + 1 := by
  have r : (1 : Int32).toInt = 1 := rfl; rw [own_add (by omega)]; omega
theorem own_ptnew {f : Nat → Int32} {i A p n : Int32} (q : p < n) (h0 : 0 ≤ i.toInt) (h1 : i.toInt ≤ 100) : own_pt (own_pf f i A p n) i A := by
  have e := own_p1 h0 h1
  unfold own_pf; rw [if_pos q]; refine ⟨fun w => ?_, fun w => ?_⟩
  · rw [if_pos w]; exact own_atu _ _ _
  · rw [if_neg w]; exact ⟨(own_atn h0 (by omega) (by omega)).trans (own_atu _ _ _), own_atu _ _ _⟩
theorem own_ptkeep {f : Nat → Int32} {i j A B p n : Int32} (h : own_pt f i A) (h0 : 0 ≤ i.toInt) (h1 : i.toInt + (own_cc A).toInt ≤ j.toInt) (h2 : j.toInt ≤ 100) : own_pt (own_pf f j B p n) i A := by
  have cb := own_ccb A
  have e := own_p1 h0 (by omega); have e2 := own_p1 (i := j) (by omega) h2
  have r2 : (2 : Int32).toInt = 2 := rfl
  have c2 : ¬ A < (65536 : Int32) → (own_cc A).toInt = 2 := fun q => by unfold own_cc; rw [if_neg q]; rfl
  unfold own_pf; split
  · split
    · exact ⟨fun w => (own_atn h0 (by omega) (by omega)).trans (h.1 w), fun w => have d := c2 w; ⟨(own_atn h0 (by omega) (by omega)).trans (h.2 w).1, (own_atn (by omega) (by omega) (by omega)).trans (h.2 w).2⟩⟩
    · exact ⟨fun w => (own_atn h0 (by omega) (by omega)).trans ((own_atn h0 (by omega) (by omega)).trans (h.1 w)), fun w => have d := c2 w; ⟨(own_atn h0 (by omega) (by omega)).trans ((own_atn h0 (by omega) (by omega)).trans (h.2 w).1), (own_atn (by omega) (by omega) (by omega)).trans ((own_atn (by omega) (by omega) (by omega)).trans (h.2 w).2)⟩⟩
  · exact h
theorem own_ptcpf {f : Nat → Int32} {i A k : Int32} (h : own_pt f i A) (hR : own_R A) (h0 : 0 ≤ i.toInt) (h1 : i.toInt + (own_cc A).toInt ≤ k.toInt) (h2 : k.toInt ≤ 6) (hl : ¬ own_hg A ∨ i.toInt + (own_cc A).toInt = k.toInt) : own_cpf f k i = A := by
  have cb := own_ccb A
  have e := own_p1 h0 (by omega)
  by_cases w : A < (65536 : Int32)
  · have c1 : (own_cc A).toInt = 1 := by unfold own_cc; rw [if_pos w]; rfl
    have a := h.1 w
    have i2 := c_i2c A; have r : (65536 : Int32).toInt = 65536 := rfl
    have w' := w; rw [Int32.lt_iff_toInt_lt] at w'; unfold own_R at hR
    have ae : A.toUInt32.toUInt16.toUInt32.toInt32 = A := by rw [← Int32.toInt_inj]; omega
    rw [ae] at a
    unfold own_cpf; rw [a]
    rcases hl with q | q
    · have r1 : (55296 : Int32).toInt = 55296 := rfl; have r2 : (56320 : Int32).toInt = 56320 := rfl
      have hh : own_hs A = 0 := by
        unfold own_hs own_hg at *; split
        · rfl
        · rename_i q1; rw [if_neg]; rw [Int32.lt_iff_toInt_lt] at q1 ⊢; omega
      rw [if_pos hh]
    · have nl : ¬ (i + (1 : Int32)) < k := by rw [Int32.lt_iff_toInt_lt]; omega
      rw [if_neg nl]; split <;> rfl
  · have c1 : (own_cc A).toInt = 2 := by unfold own_cc; rw [if_neg w]; rfl
    have a := h.2 w; have s := own_surr hR w
    have lt : (i + (1 : Int32)) < k := by rw [Int32.lt_iff_toInt_lt]; omega
    unfold own_cpf; rw [a.1, a.2]; unfold own_H own_Lo; rw [if_neg (by rw [s.1]; decide), if_pos lt, if_neg (by rw [s.2.1]; decide)]; exact s.2.2
abbrev own_S (n A B C L : Int32) (g : Int32 → Int32) : Prop := (n.toInt = 0 → L.toInt = 0) ∧ (n.toInt = 1 → L.toInt = (own_cc A).toInt) ∧ (n.toInt = 2 → L.toInt = (own_cc A).toInt + (own_cc B).toInt) ∧ (n.toInt = 3 → L.toInt = (own_cc A).toInt + (own_cc B).toInt + (own_cc C).toInt) ∧ (0 < n.toInt → g 0 = A) ∧ (1 < n.toInt → g (0 + own_cc A) = B) ∧ (2 < n.toInt → g ((0 + own_cc A) + own_cc B) = C)
theorem own_wlt {x i n : Int32} (h : i < n) : own_w x i n = own_cc x := if_pos h
theorem own_wge {x i n : Int32} (h : ¬ i < n) : own_w x i n = 0 := if_neg h
theorem own_SS {n a b c : Int32} (hn : own_N n) (ha : own_R a) (hb : own_R b) (hc : own_R c) (fa : (0 : Int32) < n - (1 : Int32) → ¬ own_hg a) (fb : (1 : Int32) < n - (1 : Int32) → ¬ own_hg b) :
    own_S n a b c (own_bz n a b c >>> (own_bcd n a b c &&& 31)) (own_cpa (own_bcd n a b c) (own_bz n a b c) (own_bb n a b c)) := by
  have r0 : (0 : Int32).toInt = 0 := rfl; have r1 : (1 : Int32).toInt = 1 := rfl; have r2 : (2 : Int32).toInt = 2 := rfl
  have bk := own_bkv n a b c; have i1 := own_i1v n a; have i2 := own_i2v n a b
  have ca := own_ccb a; have cb := own_ccb b; have cc := own_ccb c
  have nm := c_isub n (1 : Int32); have nm' := rng32 (n - (1 : Int32)); unfold own_N at hn
  rw [own_L]
  have w0 : 0 < n.toInt → own_w a (0 : Int32) n = own_cc a := fun q => own_wlt (by rw [Int32.lt_iff_toInt_lt]; omega)
  have w1 : 1 < n.toInt → own_w b (1 : Int32) n = own_cc b := fun q => own_wlt (by rw [Int32.lt_iff_toInt_lt]; omega)
  have w2 : 2 < n.toInt → own_w c (2 : Int32) n = own_cc c := fun q => own_wlt (by rw [Int32.lt_iff_toInt_lt]; omega)
  have v0 : ¬ 0 < n.toInt → own_w a (0 : Int32) n = 0 := fun q => own_wge (by rw [Int32.lt_iff_toInt_lt]; omega)
  have v1 : ¬ 1 < n.toInt → own_w b (1 : Int32) n = 0 := fun q => own_wge (by rw [Int32.lt_iff_toInt_lt]; omega)
  have v2 : ¬ 2 < n.toInt → own_w c (2 : Int32) n = 0 := fun q => own_wge (by rw [Int32.lt_iff_toInt_lt]; omega)
  have kb := own_kb n a b c; rw [Int32.lt_iff_toInt_lt, Int32.lt_iff_toInt_lt] at kb; have r6 : (6 : Int32).toInt = 6 := rfl
  have wb0 := own_wb a (0 : Int32) n; have wb1 := own_wb b (1 : Int32) n; have wb2 := own_wb c (2 : Int32) n
  have G : ∀ {x i : Int32}, own_pt (own_bf n a b c) i x → own_R x → 0 ≤ i.toInt → i.toInt + (own_cc x).toInt ≤ (own_bk n a b c).toInt → (¬ own_hg x ∨ i.toInt + (own_cc x).toInt = (own_bk n a b c).toInt) → own_cpa (own_bcd n a b c) (own_bz n a b c) (own_bb n a b c) i = x := fun {x i} p hr h0 h1 hl => by
    have cx := own_ccb x
    rw [own_gcpf n a b c i (by rw [Int32.lt_iff_toInt_lt]; omega) (by rw [Int32.lt_iff_toInt_lt]; omega)]
    exact own_ptcpf p hr h0 h1 (by omega) hl
  refine ⟨fun q => ?_, fun q => ?_, fun q => ?_, fun q => ?_, fun q => ?_, fun q => ?_, fun q => ?_⟩
  · rw [bk, v0 (by omega), v1 (by omega), v2 (by omega)]; omega
  · rw [bk, w0 (by omega), v1 (by omega), v2 (by omega)]; omega
  · rw [bk, w0 (by omega), w1 (by omega), v2 (by omega)]; omega
  · rw [bk, w0 (by omega), w1 (by omega), w2 (by omega)]
  · have W0 := w0 q; rw [W0] at bk i1 i2
    refine G ?_ ha (by omega) (by omega) ?_
    · exact own_ptkeep (own_ptkeep (own_ptnew (by rw [Int32.lt_iff_toInt_lt]; omega) (by omega) (by omega)) (by omega) (by omega) (by omega)) (by omega) (by omega) (by omega)
    · by_cases q2 : 1 < n.toInt
      · exact Or.inl (fa (by rw [Int32.lt_iff_toInt_lt]; omega))
      · rw [v1 q2, v2 (by omega)] at bk; exact Or.inr (by omega)
  · have W0 := w0 (by omega); have W1 := w1 q; rw [W0] at bk i1 i2; rw [W1] at bk i2
    have ie : own_i1 n a = 0 + own_cc a := by unfold own_i1 own_pi; rw [W0]
    rw [← ie]
    refine G ?_ hb (by omega) (by omega) ?_
    · exact own_ptkeep (own_ptnew (by rw [Int32.lt_iff_toInt_lt]; omega) (by omega) (by omega)) (by omega) (by omega) (by omega)
    · by_cases q2 : 2 < n.toInt
      · exact Or.inl (fb (by rw [Int32.lt_iff_toInt_lt]; omega))
      · rw [v2 q2] at bk; exact Or.inr (by omega)
  · have W0 := w0 (by omega); have W1 := w1 (by omega); have W2 := w2 q; rw [W0] at bk i1 i2; rw [W1] at bk i2; rw [W2] at bk
    have ie : own_i2 n a b = (0 + own_cc a) + own_cc b := by unfold own_i2 own_pi own_i1 own_pi; rw [W0, W1]
    rw [← ie]
    refine G ?_ hc (by omega) (by omega) (Or.inr (by omega))
    exact own_ptnew (by rw [Int32.lt_iff_toInt_lt]; omega) (by omega) (by omega)
theorem own_SF {n a b c : Int32} (hn : own_N n) (ha : own_R a) (hb : own_R b) (hc : own_R c) : own_S n (own_fix a 0 n) (own_fix b 1 n) (own_fix c 2 n) (own_bz n (own_fix a 0 n) (own_fix b 1 n) (own_fix c 2 n) >>> (own_bcd n (own_fix a 0 n) (own_fix b 1 n) (own_fix c 2 n) &&& 31)) (own_cpa (own_bcd n (own_fix a 0 n) (own_fix b 1 n) (own_fix c 2 n)) (own_bz n (own_fix a 0 n) (own_fix b 1 n) (own_fix c 2 n)) (own_bb n (own_fix a 0 n) (own_fix b 1 n) (own_fix c 2 n))) :=
  own_SS hn (own_fixR ha) (own_fixR hb) (own_fixR hc) (own_fixH ha) (own_fixH hb)
theorem own_hendG {n A B C L : Int32} {g : Int32 → Int32} (hn : own_N n) (s : own_S n A B C L g) : ¬ ((((0 : Int32) + own_cc (g 0)) + own_cc (g ((0 : Int32) + own_cc (g 0)))) + own_cc (g (((0 : Int32) + own_cc (g 0)) + own_cc (g ((0 : Int32) + own_cc (g 0)))))) < L := by
  have r0 : (0 : Int32).toInt = 0 := rfl
  have ca := own_ccb A; have cb := own_ccb B; have cc := own_ccb C; unfold own_N at hn
  have V : ∀ x y z : Int32, (((0 : Int32) + own_cc x + own_cc y) + own_cc z).toInt = (own_cc x).toInt + (own_cc y).toInt + (own_cc z).toInt := fun x y z => by
    have a := own_ccb x; have b := own_ccb y; have c := own_ccb z
    have e1 := own_add (x := 0) (y := own_cc x) (by omega)
    have e2 := own_add (x := 0 + own_cc x) (y := own_cc y) (by omega)
    rw [own_add (by omega)]; omega
  rw [Int32.lt_iff_toInt_lt, V]
  have b0 := own_ccb (g 0); have b1 := own_ccb (g ((0 : Int32) + own_cc (g 0))); have b2 := own_ccb (g (((0 : Int32) + own_cc (g 0)) + own_cc (g ((0 : Int32) + own_cc (g 0)))))
  have e0 := s.1; have e1 := s.2.1; have e2 := s.2.2.1; have e3 := s.2.2.2.1
  by_cases q0 : 0 < n.toInt
  · rw [s.2.2.2.2.1 q0] at *
    by_cases q1 : 1 < n.toInt
    · rw [s.2.2.2.2.2.1 q1] at *
      by_cases q2 : 2 < n.toInt
      · rw [s.2.2.2.2.2.2 q2] at *; omega
      · omega
    · omega
  · omega
def own_cmpG (L0 : Int32) (g0 : Int32 → Int32) (L1 : Int32) (g1 : Int32 → Int32) : Nat → Int32 → Int32
  | 0, _ => 0
  | f + 1, i => if i < L0 then if i < L1 then if g0 i = g1 i then own_cmpG L0 g0 L1 g1 f (i + own_cc (g0 i)) else own_ic (g0 i) (g1 i) else own_ic L0 L1 else own_ic L0 L1
theorem own_cmpE (cd0 z0 : Int32) (s0 : Nat → Int32) (cd1 z1 : Int32) (s1 : Nat → Int32) : ∀ (f : Nat) (i : Int32), own_cmp cd0 z0 s0 cd1 z1 s1 f i = own_cmpG (z0 >>> (cd0 &&& 31)) (own_cpa cd0 z0 s0) (z1 >>> (cd1 &&& 31)) (own_cpa cd1 z1 s1) f i
  | 0, _ => rfl
  | f + 1, i => by simp only [own_cmp, own_cmpG, own_cmpE cd0 z0 s0 cd1 z1 s1 f]
theorem own_icsg {n m L M : Int32} (hn : own_N n) (hm : own_N m) (h : (n.toInt < m.toInt ∧ L.toInt < M.toInt) ∨ (n.toInt = m.toInt ∧ L.toInt = M.toInt) ∨ (m.toInt < n.toInt ∧ M.toInt < L.toInt)) : own_sg (own_ic L M) = own_sg (n - m) := by
  have a := c_isub n m; have b := rng32 (n - m); unfold own_N at *; have r0 : (0 : Int32).toInt = 0 := rfl
  rcases h with h | h | h
  · rw [show own_ic L M = -1 from if_pos (by rw [Int32.lt_iff_toInt_lt]; omega)]
    unfold own_sg; rw [if_pos (by decide), if_pos (by rw [Int32.lt_iff_toInt_lt]; omega)]
  · rw [show own_ic L M = 0 from (if_neg (by rw [Int32.lt_iff_toInt_lt]; omega)).trans (if_pos (by rw [← Int32.toInt_inj]; omega))]
    unfold own_sg; rw [if_neg (by decide), if_neg (by decide), if_neg (by rw [Int32.lt_iff_toInt_lt]; omega), if_neg (by rw [Int32.lt_iff_toInt_lt]; omega)]
  · rw [show own_ic L M = 1 from (if_neg (by rw [Int32.lt_iff_toInt_lt]; omega)).trans (if_neg (by rw [← Int32.toInt_inj]; omega))]
    unfold own_sg; rw [if_neg (by decide), if_pos (by decide), if_neg (by rw [Int32.lt_iff_toInt_lt]; omega), if_pos (by rw [Int32.lt_iff_toInt_lt]; omega)]
theorem own_icne {x y : Int32} (h : ¬ x = y) : own_sg (own_ic x y) = if x < y then (-1 : Int32) else (1 : Int32) := by
  unfold own_ic; split
  · decide
  · first | decide | (rw [if_neg h]; decide)
theorem own_P0 {n A B C L : Int32} {g : Int32 → Int32} (hn : own_N n) (s : own_S n A B C L g) : (n.toInt = 0 ∧ L.toInt = 0) ∨ (1 ≤ n.toInt ∧ 0 < L.toInt) := by
  have a := own_ccb A; have b := own_ccb B; have c := own_ccb C; obtain ⟨e0, e1, e2, e3, -⟩ := s; unfold own_N at hn
  rcases (show n.toInt = 0 ∨ n.toInt = 1 ∨ n.toInt = 2 ∨ n.toInt = 3 by omega) with h | h | h | h
  · exact Or.inl ⟨h, e0 h⟩
  · have := e1 h; omega
  · have := e2 h; omega
  · have := e3 h; omega
theorem own_P1 {n A B C L : Int32} {g : Int32 → Int32} (hn : own_N n) (s : own_S n A B C L g) (h1 : 1 ≤ n.toInt) : (n.toInt = 1 ∧ L.toInt = (own_cc A).toInt) ∨ (2 ≤ n.toInt ∧ (own_cc A).toInt < L.toInt) := by
  have a := own_ccb A; have b := own_ccb B; have c := own_ccb C; obtain ⟨e0, e1, e2, e3, -⟩ := s; unfold own_N at hn
  rcases (show n.toInt = 1 ∨ n.toInt = 2 ∨ n.toInt = 3 by omega) with h | h | h
  · exact Or.inl ⟨h, e1 h⟩
  · have := e2 h; omega
  · have := e3 h; omega
theorem own_P2 {n A B C L : Int32} {g : Int32 → Int32} (hn : own_N n) (s : own_S n A B C L g) (h1 : 2 ≤ n.toInt) : (n.toInt = 2 ∧ L.toInt = (own_cc A).toInt + (own_cc B).toInt) ∨ (n.toInt = 3 ∧ L.toInt = (own_cc A).toInt + (own_cc B).toInt + (own_cc C).toInt) := by
  obtain ⟨e0, e1, e2, e3, -⟩ := s; unfold own_N at hn
  rcases (show n.toInt = 2 ∨ n.toInt = 3 by omega) with h | h
  · exact Or.inl ⟨h, e2 h⟩
  · exact Or.inr ⟨h, e3 h⟩
theorem own_v1 (x : Int32) : ((0 : Int32) + own_cc x).toInt = (own_cc x).toInt := by have a := own_ccb x; have r0 : (0 : Int32).toInt = 0 := rfl; rw [own_add (by omega)]; omega
theorem own_v2 (x y : Int32) : (((0 : Int32) + own_cc x) + own_cc y).toInt = (own_cc x).toInt + (own_cc y).toInt := by have a := own_ccb x; have b := own_ccb y; have v := own_v1 x; rw [own_add (by omega)]; omega
theorem own_v3 (x y z : Int32) : ((((0 : Int32) + own_cc x) + own_cc y) + own_cc z).toInt = (own_cc x).toInt + (own_cc y).toInt + (own_cc z).toInt := by have a := own_ccb x; have b := own_ccb y; have c := own_ccb z; have v := own_v2 x y; rw [own_add (by omega)]; omega
theorem own_lg3 {n m A B C Z L M : Int32} {g k : Int32 → Int32} (hn : own_N n) (hm : own_N m) (s : own_S n A B C L g) (t : own_S m A B Z M k) (n2 : 2 ≤ n.toInt) (m2 : 2 ≤ m.toInt) :
    own_sg (own_cmpG L g M k 2 (((0 : Int32) + own_cc A) + own_cc B)) = if n = (2 : Int32) then own_sg (n - m) else if m = (2 : Int32) then own_sg (n - m) else if C = Z then own_sg (n - m) else if C < Z then (-1 : Int32) else (1 : Int32) := by
  have P := own_P2 hn s n2; have Q := own_P2 hm t m2; have w := own_v2 A B; have r2 : (2 : Int32).toInt = 2 := rfl; have cc := own_ccb C; have cz := own_ccb Z
  unfold own_cmpG
  by_cases hn2 : n = 2
  · subst hn2; rw [if_pos rfl, if_neg (by rw [Int32.lt_iff_toInt_lt]; omega)]; exact own_icsg hn hm (by omega)
  rw [if_neg hn2]; rw [← Int32.toInt_inj] at hn2; rw [if_pos (show ((0 : Int32) + own_cc A) + own_cc B < L by rw [Int32.lt_iff_toInt_lt]; omega)]
  by_cases hm2 : m = 2
  · subst hm2; rw [if_pos rfl, if_neg (by rw [Int32.lt_iff_toInt_lt]; omega)]; exact own_icsg hn hm (by omega)
  rw [if_neg hm2]; rw [← Int32.toInt_inj] at hm2; rw [if_pos (show ((0 : Int32) + own_cc A) + own_cc B < M by rw [Int32.lt_iff_toInt_lt]; omega), s.2.2.2.2.2.2 (by omega), t.2.2.2.2.2.2 (by omega)]
  by_cases cz' : ¬ C = Z
  · rw [if_neg cz', if_neg cz']; exact own_icne cz'
  have cz' := Decidable.of_not_not cz'; subst cz'; rw [if_pos rfl, if_pos rfl]; unfold own_cmpG; have w3 := own_v3 A B C
  rw [if_neg (by rw [Int32.lt_iff_toInt_lt]; omega)]; exact own_icsg hn hm (by omega)
theorem own_lg2 {n m A B C Y Z L M : Int32} {g k : Int32 → Int32} (hn : own_N n) (hm : own_N m) (s : own_S n A B C L g) (t : own_S m A Y Z M k) (n1 : 1 ≤ n.toInt) (m1 : 1 ≤ m.toInt) :
    own_sg (own_cmpG L g M k 3 ((0 : Int32) + own_cc A)) = if n = (1 : Int32) then own_sg (n - m) else if m = (1 : Int32) then own_sg (n - m) else if B = Y then if n = (2 : Int32) then own_sg (n - m) else if m = (2 : Int32) then own_sg (n - m) else if C = Z then own_sg (n - m) else if C < Z then (-1 : Int32) else (1 : Int32) else if B < Y then (-1 : Int32) else (1 : Int32) := by
  have P := own_P1 hn s n1; have Q := own_P1 hm t m1; have w := own_v1 A; have r1 : (1 : Int32).toInt = 1 := rfl
  unfold own_cmpG
  by_cases hn2 : n = 1
  · subst hn2; rw [if_pos rfl, if_neg (by rw [Int32.lt_iff_toInt_lt]; omega)]; exact own_icsg hn hm (by omega)
  rw [if_neg hn2]; rw [← Int32.toInt_inj] at hn2; rw [if_pos (show (0 : Int32) + own_cc A < L by rw [Int32.lt_iff_toInt_lt]; omega)]
  by_cases hm2 : m = 1
  · subst hm2; rw [if_pos rfl, if_neg (by rw [Int32.lt_iff_toInt_lt]; omega)]; exact own_icsg hn hm (by omega)
  rw [if_neg hm2]; rw [← Int32.toInt_inj] at hm2; rw [if_pos (show (0 : Int32) + own_cc A < M by rw [Int32.lt_iff_toInt_lt]; omega), s.2.2.2.2.2.1 (by omega), t.2.2.2.2.2.1 (by omega)]
  by_cases bx : ¬ B = Y
  · rw [if_neg bx, if_neg bx]; exact own_icne bx
  have bx := Decidable.of_not_not bx; subst bx; rw [if_pos rfl, if_pos rfl]; exact own_lg3 hn hm s t (by omega) (by omega)
theorem own_lawG {n m A B C X Y Z L M : Int32} {g k : Int32 → Int32} (hn : own_N n) (hm : own_N m) (s : own_S n A B C L g) (t : own_S m X Y Z M k) : own_sg (own_cmpG L g M k 4 0) = own_ref n A B C m X Y Z := by
  have P := own_P0 hn s; have Q := own_P0 hm t; have r0 : (0 : Int32).toInt = 0 := rfl
  unfold own_ref own_cmpG
  by_cases n0 : n = 0
  · subst n0; rw [if_pos rfl, if_neg (by rw [Int32.lt_iff_toInt_lt]; omega)]; exact own_icsg hn hm (by omega)
  rw [if_neg n0]; rw [← Int32.toInt_inj] at n0; rw [if_pos (show (0 : Int32) < L by rw [Int32.lt_iff_toInt_lt]; omega)]
  by_cases m0 : m = 0
  · subst m0; rw [if_pos rfl, if_neg (by rw [Int32.lt_iff_toInt_lt]; omega)]; exact own_icsg hn hm (by omega)
  rw [if_neg m0]; rw [← Int32.toInt_inj] at m0; rw [if_pos (show (0 : Int32) < M by rw [Int32.lt_iff_toInt_lt]; omega), s.2.2.2.2.1 (by omega), t.2.2.2.2.1 (by omega)]
  by_cases ax : ¬ A = X
  · rw [if_neg ax, if_neg ax]; exact own_icne ax
  have ax := Decidable.of_not_not ax; subst ax; rw [if_pos rfl, if_pos rfl]; exact own_lg2 hn hm s t (by omega) (by omega)
theorem own_hend {n a b c : Int32} (hn : own_N n) (ha : own_R a) (hb : own_R b) (hc : own_R c) : ¬ (((((0 : Int32) + (own_cc (own_cpa (own_bcd n (own_fix a (0 : Int32) n) (own_fix b (1 : Int32) n) (own_fix c (2 : Int32) n)) (own_bz n (own_fix a (0 : Int32) n) (own_fix b (1 : Int32) n) (own_fix c (2 : Int32) n)) (own_bb n (own_fix a (0 : Int32) n) (own_fix b (1 : Int32) n) (own_fix c (2 : Int32) n)) (0 : Int32)))) + (own_cc (own_cpa (own_bcd n (own_fix a (0 : Int32) n) (own_fix b (1 : Int32) n) (own_fix c (2 : Int32) n)) (own_bz n (own_fix a (0 : Int32) n) (own_fix b (1 : Int32) n) (own_fix c (2 : Int32) n)) (own_bb n (own_fix a (0 : Int32) n) (own_fix b (1 : Int32) n) (own_fix c (2 : Int32) n)) ((0 : Int32) + (own_cc (own_cpa (own_bcd n (own_fix a (0 : Int32) n) (own_fix b (1 : Int32) n) (own_fix c (2 : Int32) n)) (own_bz n (own_fix a (0 : Int32) n) (own_fix b (1 : Int32) n) (own_fix c (2 : Int32) n)) (own_bb n (own_fix a (0 : Int32) n) (own_fix b (1 : Int32) n) (own_fix c (2 : Int32) n)) (0 : Int32))))))) + (own_cc (own_cpa (own_bcd n (own_fix a (0 : Int32) n) (own_fix b (1 : Int32) n) (own_fix c (2 : Int32) n)) (own_bz n (own_fix a (0 : Int32) n) (own_fix b (1 : Int32) n) (own_fix c (2 : Int32) n)) (own_bb n (own_fix a (0 : Int32) n) (own_fix b (1 : Int32) n) (own_fix c (2 : Int32) n)) (((0 : Int32) + (own_cc (own_cpa (own_bcd n (own_fix a (0 : Int32) n) (own_fix b (1 : Int32) n) (own_fix c (2 : Int32) n)) (own_bz n (own_fix a (0 : Int32) n) (own_fix b (1 : Int32) n) (own_fix c (2 : Int32) n)) (own_bb n (own_fix a (0 : Int32) n) (own_fix b (1 : Int32) n) (own_fix c (2 : Int32) n)) (0 : Int32)))) + (own_cc (own_cpa (own_bcd n (own_fix a (0 : Int32) n) (own_fix b (1 : Int32) n) (own_fix c (2 : Int32) n)) (own_bz n (own_fix a (0 : Int32) n) (own_fix b (1 : Int32) n) (own_fix c (2 : Int32) n)) (own_bb n (own_fix a (0 : Int32) n) (own_fix b (1 : Int32) n) (own_fix c (2 : Int32) n)) ((0 : Int32) + (own_cc (own_cpa (own_bcd n (own_fix a (0 : Int32) n) (own_fix b (1 : Int32) n) (own_fix c (2 : Int32) n)) (own_bz n (own_fix a (0 : Int32) n) (own_fix b (1 : Int32) n) (own_fix c (2 : Int32) n)) (own_bb n (own_fix a (0 : Int32) n) (own_fix b (1 : Int32) n) (own_fix c (2 : Int32) n)) (0 : Int32)))))))))) < ((own_bz n (own_fix a (0 : Int32) n) (own_fix b (1 : Int32) n) (own_fix c (2 : Int32) n)) >>> ((own_bcd n (own_fix a (0 : Int32) n) (own_fix b (1 : Int32) n) (own_fix c (2 : Int32) n)) &&& 31))) := own_hendG hn (own_SF hn ha hb hc)
theorem own_law {n m a b c x y z : Int32} (hn : own_N n) (hm : own_N m) (ha : own_R a) (hb : own_R b) (hc : own_R c) (hx : own_R x) (hy : own_R y) (hz : own_R z) : own_sg (own_cmpS (own_bcd n (own_fix a (0 : Int32) n) (own_fix b (1 : Int32) n) (own_fix c (2 : Int32) n)) (own_bz n (own_fix a (0 : Int32) n) (own_fix b (1 : Int32) n) (own_fix c (2 : Int32) n)) (own_bb n (own_fix a (0 : Int32) n) (own_fix b (1 : Int32) n) (own_fix c (2 : Int32) n)) (own_bcd m (own_fix x (0 : Int32) m) (own_fix y (1 : Int32) m) (own_fix z (2 : Int32) m)) (own_bz m (own_fix x (0 : Int32) m) (own_fix y (1 : Int32) m) (own_fix z (2 : Int32) m)) (own_bb m (own_fix x (0 : Int32) m) (own_fix y (1 : Int32) m) (own_fix z (2 : Int32) m))) = (own_ref n (own_fix a (0 : Int32) n) (own_fix b (1 : Int32) n) (own_fix c (2 : Int32) n) m (own_fix x (0 : Int32) m) (own_fix y (1 : Int32) m) (own_fix z (2 : Int32) m)) :=
  (congrArg own_sg (own_cmpE _ _ _ _ _ _ 4 0)).trans (own_lawG hn hm (own_SF hn ha hb hc) (own_SF hm hx hy hz))

theorem pd_21 : parseMethodDescriptor "(J)I" = some ⟨[.long], some .int⟩ := by decide +kernel
theorem pd_22 : parseMethodDescriptor "(IIII)Ljava/lang/String;" = some ⟨[.int, .int, .int, .int], some (.object "java/lang/String")⟩ := by decide +kernel
theorem pd_23 : parseMethodDescriptor "(Ljava/lang/String;Ljava/lang/String;)I" = some ⟨[(.object "java/lang/String"), (.object "java/lang/String")], some .int⟩ := by decide +kernel
theorem pd_24 : parseMethodDescriptor "(IIIIIIII)I" = some ⟨[.int, .int, .int, .int, .int, .int, .int, .int], some .int⟩ := by decide +kernel
theorem ef_rm0 (m : MethodId) (p0 : Int32) (q1 : Int64) (q2 : Int64) (p3 : Int32) (p4 : Int32) : entryFrame m #[(.int p0), (.long q1), (.long q2), (.int p3), (.int p4)] maxLocals = mkF m 0 #[.val (.int p0), .val (.long q1), .second, .val (.long q2), .second, .val (.int p3), .val (.int p4), .unset, .unset, .unset, .unset, .unset, .unset, .unset, .unset, .unset, .unset, .unset, .unset, .unset] [] := by first | (simp [entryFrame, mkF, argsToLocals, Value.category, maxLocals]; done) | rfl
def Q_rm0 (Z : State) (p0 : Int32) (q1 : Int64) (q2 : Int64) (p3 : Int32) (p4 : Int32) (w_COMPACT_STRINGS : Int32) (w_SIOOBE_FORMATTER : Value) (h0 : Heap) (n0 : Nat) (v : Option Value) (h : Heap) (L : List Loc) : Prop := v = some (.int 1) ∧ Fr n0 L
set_option maxRecDepth 65536 in
set_option maxHeartbeats 40000000 in
theorem rm0 (l : Launch) (Z : State) (av0 : Array Value) (hw : ∀ d ∈ tables_1, d.before av0 Z = true) (ws : List Jvm.Cond) (p0 : Int32) (q1 : Int64) (q2 : Int64) (p3 : Int32) (p4 : Int32) (w_COMPACT_STRINGS : Int32) (w_SIOOBE_FORMATTER : Value) (h0 : Heap) (n0 : Nat) (Z0 : n0 ≤ h0.size) (Ol0 : Old Z n0 h0) (hcs : ¬ (w_COMPACT_STRINGS = (0 : Int32))) (S_COMPACT_STRINGS : Sta Z Z.heap "java/lang/String" "COMPACT_STRINGS" "Z" (.int w_COMPACT_STRINGS)) (S__assertionsDisabled : Sta Z Z.heap "java/lang/StringUTF16" "$assertionsDisabled" "Z" (.int 1)) (S_HI_BYTE_SHIFT : Sta Z Z.heap "java/lang/StringUTF16" "HI_BYTE_SHIFT" "I" (.int 0)) (S_LO_BYTE_SHIFT : Sta Z Z.heap "java/lang/StringUTF16" "LO_BYTE_SHIFT" "I" (.int 8)) (S_SIOOBE_FORMATTER : Sta Z Z.heap "jdk/internal/util/Preconditions" "SIOOBE_FORMATTER" "Ljava/util/function/BiFunction;" w_SIOOBE_FORMATTER) (hr_w_SIOOBE_FORMATTER : w_SIOOBE_FORMATTER.isRef = true) :
    MetFree l x (head1 (Jvm.Cond.code x code maxLocals ret :: ws) room_1) (fun a U => a = #[(.int p0), (.long q1), (.long q2), (.int p3), (.int p4)] ∧ Z.Warmed39 U.vm ∧ U.heap = h0 ∧ CHv Z own_EL U.vm h0) (fun _ _ _ _ _ => True) (fun _ U o U' => ∃ v L, o = .returned v ∧ Q_rm0 Z p0 q1 q2 p3 p4 w_COMPACT_STRINGS w_SIOOBE_FORMATTER h0 n0 v U'.heap L ∧ CHr Z own_EL U.vm U.heap U'.vm U'.heap ∧ ReturnedEndW U o U' L room_1.cells room_1.slots) := by
  refine MetFree.of_bodySF (plainFor_of_name pn_6) hisR ?_
  intro p e s m args below meth c s₁ Bd hml0 hP hK
  obtain ⟨rfl, hZ, hh, hCH⟩ := hP
  have hx := Bd.exec
  have hby := Bd.bytes
  have hml : c.maxLocals = 20 := hml0
  have hown : (s.setVm s.vm).vm.findClass "com/example/libaccrue/libaccrue/records/TextOrderComparePinLaw" = some m.cls := findClass_of_methodNamed Bd.named
  have hnm := (name_of_methodNamed Bd.named Bd.method).1
  have X0 : Stand p l e room_1 (s.setVm s.vm) m #[(.int p0), (.long q1), (.long q2), (.int p3), (.int p4)] below meth c s₁ [] 0 0 := Stand.of_body Bd
  have e0 : s₁.heap = h0 := by rw [← hh, Bd.state]; rfl
  have N0 := Fr.nil n0
  have hZ : Z.Warmed39 (s.setVm s.vm).vm := hZ
  have hS0 : s.Since s.vm s.heap.size := (State.WarmedH.refl s).since _
  have hk0 : s.heap.size ≤ h0.size := Nat.le_of_eq (by rw [hh])
  have ch0 : CHr Z own_EL s.vm h0 s.vm h0 := CHr.refl hCH
  have pre0 : ∀ t, Steps p.tables e below (s₁.setTop (mkF m 0 #[.val (.int p0), .val (.long q1), .second, .val (.long q2), .second, .val (.int p3), .val (.int p4), .unset, .unset, .unset, .unset, .unset, .unset, .unset, .unset, .unset, .unset, .unset, .unset, .unset] [])) t → Steps p.tables e below (s₁.setTop (entryFrame m #[(.int p0), (.long q1), (.long q2), (.int p3), (.int p4)] maxLocals)) t := fun t k => castTop (ef_rm0 m p0 q1 q2 p3 p4) k
  change OwnFin p.tables e below _ (s₁.setTop (entryFrame m #[(.int p0), (.long q1), (.long q2), (.int p3), (.int p4)] maxLocals))
  have kp0 : Keep h0 h0 [] := Keep.refl _ _
  refine OwnFin.st (fun _ q => pre0 _ q) ?_
  show OwnFin _ _ _ _ (s₁.setTop (mkF m 0 #[.val (.int p0), .val (.long q1), .second, .val (.long q2), .second, .val (.int p3), .val (.int p4), .unset, .unset, .unset, .unset, .unset, .unset, .unset, .unset, .unset, .unset, .unset, .unset, .unset] []))
  refine OwnFin.st (fun _ q => XS.iloadN X0.here hx rfl (hb hby at_0) rfl q) ?_
  show OwnFin _ _ _ _ (s₁.setTop (mkF m 1 _ [(.int p0)]))
  refine OwnFin.st (fun _ q => XS.iconst X0.here hx rfl (hb hby at_1) q) ?_
  show OwnFin _ _ _ _ (s₁.setTop (mkF m 2 _ [(.int 3), (.int p0)]))
  refine OwnFin.st (fun _ q => XS.iand X0.here hx rfl (hb hby at_2) rfl q) ?_
  show OwnFin _ _ _ _ (s₁.setTop (mkF m 3 _ [(.int (p0 &&& (3 : Int32)))]))
  refine OwnFin.st (fun _ q => XS.istore X0.here hx rfl (hb hby at_3) rfl (l' := #[.val (.int p0), .val (.long q1), .second, .val (.long q2), .second, .val (.int p3), .val (.int p4), .val (.int (p0 &&& (3 : Int32))), .unset, .unset, .unset, .unset, .unset, .unset, .unset, .unset, .unset, .unset, .unset, .unset]) rfl q) ?_
  show OwnFin _ _ _ _ (s₁.setTop (mkF m 5 _ []))
  refine OwnFin.st (fun _ q => XS.iloadN X0.here hx rfl (hb hby at_5) rfl q) ?_
  show OwnFin _ _ _ _ (s₁.setTop (mkF m 6 _ [(.int p0)]))
  refine OwnFin.st (fun _ q => XS.iconst X0.here hx rfl (hb hby at_6) q) ?_
  show OwnFin _ _ _ _ (s₁.setTop (mkF m 7 _ [(.int 2), (.int p0)]))
  refine OwnFin.st (fun _ q => XS.iushr X0.here hx rfl (hb hby at_7) rfl q) ?_
  show OwnFin _ _ _ _ (s₁.setTop (mkF m 8 _ [(.int ((p0.toUInt32 >>> ((2 : Int32) &&& 31).toUInt32).toInt32))]))
  refine OwnFin.st (fun _ q => XS.iconst X0.here hx rfl (hb hby at_8) q) ?_
  show OwnFin _ _ _ _ (s₁.setTop (mkF m 9 _ [(.int 3), (.int ((p0.toUInt32 >>> ((2 : Int32) &&& 31).toUInt32).toInt32))]))
  refine OwnFin.st (fun _ q => XS.iand X0.here hx rfl (hb hby at_9) rfl q) ?_
  show OwnFin _ _ _ _ (s₁.setTop (mkF m 10 _ [(.int (((p0.toUInt32 >>> ((2 : Int32) &&& 31).toUInt32).toInt32) &&& (3 : Int32)))]))
  refine OwnFin.st (fun _ q => XS.istore X0.here hx rfl (hb hby at_10) rfl (l' := #[.val (.int p0), .val (.long q1), .second, .val (.long q2), .second, .val (.int p3), .val (.int p4), .val (.int (p0 &&& (3 : Int32))), .val (.int (((p0.toUInt32 >>> ((2 : Int32) &&& 31).toUInt32).toInt32) &&& (3 : Int32))), .unset, .unset, .unset, .unset, .unset, .unset, .unset, .unset, .unset, .unset, .unset]) rfl q) ?_
  show OwnFin _ _ _ _ (s₁.setTop (mkF m 12 _ []))
  refine OwnFin.st (fun _ q => XS.lloadN X0.here hx rfl (hb hby at_12) rfl q) ?_
  show OwnFin _ _ _ _ (s₁.setTop (mkF m 13 _ [(.long q1)]))
  obtain ⟨_, _, ⟨T1, L1, k1, n1⟩, -, X1, ⟨Lc1, hQ1, l1, y1, z1⟩, st1⟩ := Jvm.LawKit.callS X0 hx (y := yM27) hown (mvT hZ (w_ hw 0 rfl)) (mvT hZ (w_ hw 1 rfl)) (mvT hZ (w_ hw 2 rfl)) (mvT hZ (w_ hw 3 rfl)) (by decide) (backOf (W := 0) (rm_cpv l Z av0 hw [] q1 h0 n0 (Nat.le_trans Z0 kp0.1) ) hZ (w_ hw 3 rfl) (w_ hw 2 rfl) (by decide) (by decide)) (g := (mkF m 13 #[.val (.int p0), .val (.long q1), .second, .val (.long q2), .second, .val (.int p3), .val (.int p4), .val (.int (p0 &&& (3 : Int32))), .val (.int (((p0.toUInt32 >>> ((2 : Int32) &&& 31).toUInt32).toInt32) &&& (3 : Int32))), .unset, .unset, .unset, .unset, .unset, .unset, .unset, .unset, .unset, .unset, .unset] [(.long q1)])) rfl (by rw [hml]; rfl) (argsL := [(.long q1)]) (rest := []) (lenOf pd_21 rfl) rfl (by show 2 * 0 + _ ≤ _; exact Nat.le_of_eq rfl) (hb hby at_13) (fun _ _ => ⟨rfl, e0, (by decide : 0 + 0 ≤ _), (by decide : 0 + 0 ≤ _)⟩)
  dsimp only [Pt.U, Pt.locs, Pt.cells, Pt.slots] at X1 l1 y1 z1 st1 hQ1
  subst l1 y1 z1
  obtain ⟨rfl, N1q, he1⟩ := hQ1
  have N1 := Fr.app N0 N1q
  refine OwnFin.st st1 ?_
  show OwnFin _ _ _ _ (T1.setTop (mkF m 16 _ [(.int (own_cpv q1))]))
  refine OwnFin.st (fun _ q => XS.istore X1.here hx rfl (hb hby at_16) rfl (l' := #[.val (.int p0), .val (.long q1), .second, .val (.long q2), .second, .val (.int p3), .val (.int p4), .val (.int (p0 &&& (3 : Int32))), .val (.int (((p0.toUInt32 >>> ((2 : Int32) &&& 31).toUInt32).toInt32) &&& (3 : Int32))), .val (.int (own_cpv q1)), .unset, .unset, .unset, .unset, .unset, .unset, .unset, .unset, .unset, .unset]) rfl q) ?_
  show OwnFin _ _ _ _ (T1.setTop (mkF m 18 #[.val (.int p0), .val (.long q1), .second, .val (.long q2), .second, .val (.int p3), .val (.int p4), .val (.int (p0 &&& (3 : Int32))), .val (.int (((p0.toUInt32 >>> ((2 : Int32) &&& 31).toUInt32).toInt32) &&& (3 : Int32))), .val (.int (own_cpv q1)), .unset, .unset, .unset, .unset, .unset, .unset, .unset, .unset, .unset, .unset] []))
  refine OwnFin.st (fun _ q => XS.lloadN X1.here hx rfl (hb hby at_18) rfl q) ?_
  show OwnFin _ _ _ _ (T1.setTop (mkF m 19 _ [(.long q1)]))
  refine OwnFin.st (fun _ q => XS.bipush X1.here hx rfl (hb hby at_19) q) ?_
  show OwnFin _ _ _ _ (T1.setTop (mkF m 21 _ [(.int 21), (.long q1)]))
  refine OwnFin.st (fun _ q => XS.lushr X1.here hx rfl (hb hby at_21) rfl q) ?_
  show OwnFin _ _ _ _ (T1.setTop (mkF m 22 _ [(.long ((q1.toUInt64 >>> ((21 : Int32) &&& 0x3f).toInt64.toUInt64).toInt64))]))
  obtain ⟨_, _, ⟨T2, L2, k2, n2⟩, -, X2, ⟨Lc2, hQ2, l2, y2, z2⟩, st2⟩ := Jvm.LawKit.callS X1 hx (y := yM27) hown (mvT hZ (w_ hw 0 rfl)) (mvT hZ (w_ hw 1 rfl)) (mvT hZ (w_ hw 2 rfl)) (mvT hZ (w_ hw 3 rfl)) (by decide) (backOf (W := 0) (rm_cpv l Z av0 hw [] ((q1.toUInt64 >>> ((21 : Int32) &&& 0x3f).toInt64.toUInt64).toInt64) h0 n0 (Nat.le_trans Z0 kp0.1) ) hZ (w_ hw 3 rfl) (w_ hw 2 rfl) (by decide) (by decide)) (g := (mkF m 22 #[.val (.int p0), .val (.long q1), .second, .val (.long q2), .second, .val (.int p3), .val (.int p4), .val (.int (p0 &&& (3 : Int32))), .val (.int (((p0.toUInt32 >>> ((2 : Int32) &&& 31).toUInt32).toInt32) &&& (3 : Int32))), .val (.int (own_cpv q1)), .unset, .unset, .unset, .unset, .unset, .unset, .unset, .unset, .unset, .unset] [(.long ((q1.toUInt64 >>> ((21 : Int32) &&& 0x3f).toInt64.toUInt64).toInt64))])) rfl (by rw [hml]; rfl) (argsL := [(.long ((q1.toUInt64 >>> ((21 : Int32) &&& 0x3f).toInt64.toUInt64).toInt64))]) (rest := []) (lenOf pd_21 rfl) rfl (by show 2 * 0 + _ ≤ _; exact Nat.le_of_eq rfl) (hb hby at_22) (fun _ _ => ⟨rfl, he1, (by decide : 0 + 0 ≤ _), (by decide : 0 + 0 ≤ _)⟩)
  dsimp only [Pt.U, Pt.locs, Pt.cells, Pt.slots] at X2 l2 y2 z2 st2 hQ2
  subst l2 y2 z2
  obtain ⟨rfl, N2q, he2⟩ := hQ2
  have N2 := Fr.app N1 N2q
  refine OwnFin.st st2 ?_
  show OwnFin _ _ _ _ (T2.setTop (mkF m 25 _ [(.int (own_cpv ((q1.toUInt64 >>> ((21 : Int32) &&& 0x3f).toInt64.toUInt64).toInt64)))]))
  refine OwnFin.st (fun _ q => XS.istore X2.here hx rfl (hb hby at_25) rfl (l' := #[.val (.int p0), .val (.long q1), .second, .val (.long q2), .second, .val (.int p3), .val (.int p4), .val (.int (p0 &&& (3 : Int32))), .val (.int (((p0.toUInt32 >>> ((2 : Int32) &&& 31).toUInt32).toInt32) &&& (3 : Int32))), .val (.int (own_cpv q1)), .val (.int (own_cpv ((q1.toUInt64 >>> ((21 : Int32) &&& 0x3f).toInt64.toUInt64).toInt64))), .unset, .unset, .unset, .unset, .unset, .unset, .unset, .unset, .unset]) rfl q) ?_
  show OwnFin _ _ _ _ (T2.setTop (mkF m 27 _ []))
  refine OwnFin.st (fun _ q => XS.iload X2.here hx rfl (hb hby at_27) rfl q) ?_
  show OwnFin _ _ _ _ (T2.setTop (mkF m 29 _ [(.int p3)]))
  refine OwnFin.st (fun _ q => XS.i2l X2.here hx rfl (hb hby at_29) rfl q) ?_
  show OwnFin _ _ _ _ (T2.setTop (mkF m 30 _ [(.long (p3.toInt64))]))
  obtain ⟨_, _, ⟨T3, L3, k3, n3⟩, -, X3, ⟨Lc3, hQ3, l3, y3, z3⟩, st3⟩ := Jvm.LawKit.callS X2 hx (y := yM27) hown (mvT hZ (w_ hw 0 rfl)) (mvT hZ (w_ hw 1 rfl)) (mvT hZ (w_ hw 2 rfl)) (mvT hZ (w_ hw 3 rfl)) (by decide) (backOf (W := 0) (rm_cpv l Z av0 hw [] (p3.toInt64) h0 n0 (Nat.le_trans Z0 kp0.1) ) hZ (w_ hw 3 rfl) (w_ hw 2 rfl) (by decide) (by decide)) (g := (mkF m 30 #[.val (.int p0), .val (.long q1), .second, .val (.long q2), .second, .val (.int p3), .val (.int p4), .val (.int (p0 &&& (3 : Int32))), .val (.int (((p0.toUInt32 >>> ((2 : Int32) &&& 31).toUInt32).toInt32) &&& (3 : Int32))), .val (.int (own_cpv q1)), .val (.int (own_cpv ((q1.toUInt64 >>> ((21 : Int32) &&& 0x3f).toInt64.toUInt64).toInt64))), .unset, .unset, .unset, .unset, .unset, .unset, .unset, .unset, .unset] [(.long (p3.toInt64))])) rfl (by rw [hml]; rfl) (argsL := [(.long (p3.toInt64))]) (rest := []) (lenOf pd_21 rfl) rfl (by show 2 * 0 + _ ≤ _; exact Nat.le_of_eq rfl) (hb hby at_30) (fun _ _ => ⟨rfl, he2, (by decide : 0 + 0 ≤ _), (by decide : 0 + 0 ≤ _)⟩)
  dsimp only [Pt.U, Pt.locs, Pt.cells, Pt.slots] at X3 l3 y3 z3 st3 hQ3
  subst l3 y3 z3
  obtain ⟨rfl, N3q, he3⟩ := hQ3
  have N3 := Fr.app N2 N3q
  refine OwnFin.st st3 ?_
  show OwnFin _ _ _ _ (T3.setTop (mkF m 33 _ [(.int (own_cpv (p3.toInt64)))]))
  refine OwnFin.st (fun _ q => XS.istore X3.here hx rfl (hb hby at_33) rfl (l' := #[.val (.int p0), .val (.long q1), .second, .val (.long q2), .second, .val (.int p3), .val (.int p4), .val (.int (p0 &&& (3 : Int32))), .val (.int (((p0.toUInt32 >>> ((2 : Int32) &&& 31).toUInt32).toInt32) &&& (3 : Int32))), .val (.int (own_cpv q1)), .val (.int (own_cpv ((q1.toUInt64 >>> ((21 : Int32) &&& 0x3f).toInt64.toUInt64).toInt64))), .val (.int (own_cpv (p3.toInt64))), .unset, .unset, .unset, .unset, .unset, .unset, .unset, .unset]) rfl q) ?_
  show OwnFin _ _ _ _ (T3.setTop (mkF m 35 _ []))
  refine OwnFin.st (fun _ q => XS.lloadN X3.here hx rfl (hb hby at_35) rfl q) ?_
  show OwnFin _ _ _ _ (T3.setTop (mkF m 36 _ [(.long q2)]))
  obtain ⟨_, _, ⟨T4, L4, k4, n4⟩, -, X4, ⟨Lc4, hQ4, l4, y4, z4⟩, st4⟩ := Jvm.LawKit.callS X3 hx (y := yM27) hown (mvT hZ (w_ hw 0 rfl)) (mvT hZ (w_ hw 1 rfl)) (mvT hZ (w_ hw 2 rfl)) (mvT hZ (w_ hw 3 rfl)) (by decide) (backOf (W := 0) (rm_cpv l Z av0 hw [] q2 h0 n0 (Nat.le_trans Z0 kp0.1) ) hZ (w_ hw 3 rfl) (w_ hw 2 rfl) (by decide) (by decide)) (g := (mkF m 36 #[.val (.int p0), .val (.long q1), .second, .val (.long q2), .second, .val (.int p3), .val (.int p4), .val (.int (p0 &&& (3 : Int32))), .val (.int (((p0.toUInt32 >>> ((2 : Int32) &&& 31).toUInt32).toInt32) &&& (3 : Int32))), .val (.int (own_cpv q1)), .val (.int (own_cpv ((q1.toUInt64 >>> ((21 : Int32) &&& 0x3f).toInt64.toUInt64).toInt64))), .val (.int (own_cpv (p3.toInt64))), .unset, .unset, .unset, .unset, .unset, .unset, .unset, .unset] [(.long q2)])) rfl (by rw [hml]; rfl) (argsL := [(.long q2)]) (rest := []) (lenOf pd_21 rfl) rfl (by show 2 * 0 + _ ≤ _; exact Nat.le_of_eq rfl) (hb hby at_36) (fun _ _ => ⟨rfl, he3, (by decide : 0 + 0 ≤ _), (by decide : 0 + 0 ≤ _)⟩)
  dsimp only [Pt.U, Pt.locs, Pt.cells, Pt.slots] at X4 l4 y4 z4 st4 hQ4
  subst l4 y4 z4
  obtain ⟨rfl, N4q, he4⟩ := hQ4
  have N4 := Fr.app N3 N4q
  refine OwnFin.st st4 ?_
  show OwnFin _ _ _ _ (T4.setTop (mkF m 39 _ [(.int (own_cpv q2))]))
  refine OwnFin.st (fun _ q => XS.istore X4.here hx rfl (hb hby at_39) rfl (l' := #[.val (.int p0), .val (.long q1), .second, .val (.long q2), .second, .val (.int p3), .val (.int p4), .val (.int (p0 &&& (3 : Int32))), .val (.int (((p0.toUInt32 >>> ((2 : Int32) &&& 31).toUInt32).toInt32) &&& (3 : Int32))), .val (.int (own_cpv q1)), .val (.int (own_cpv ((q1.toUInt64 >>> ((21 : Int32) &&& 0x3f).toInt64.toUInt64).toInt64))), .val (.int (own_cpv (p3.toInt64))), .val (.int (own_cpv q2)), .unset, .unset, .unset, .unset, .unset, .unset, .unset]) rfl q) ?_
  show OwnFin _ _ _ _ (T4.setTop (mkF m 41 _ []))
  refine OwnFin.st (fun _ q => XS.lloadN X4.here hx rfl (hb hby at_41) rfl q) ?_
  show OwnFin _ _ _ _ (T4.setTop (mkF m 42 #[.val (.int p0), .val (.long q1), .second, .val (.long q2), .second, .val (.int p3), .val (.int p4), .val (.int (p0 &&& (3 : Int32))), .val (.int (((p0.toUInt32 >>> ((2 : Int32) &&& 31).toUInt32).toInt32) &&& (3 : Int32))), .val (.int (own_cpv q1)), .val (.int (own_cpv ((q1.toUInt64 >>> ((21 : Int32) &&& 0x3f).toInt64.toUInt64).toInt64))), .val (.int (own_cpv (p3.toInt64))), .val (.int (own_cpv q2)), .unset, .unset, .unset, .unset, .unset, .unset, .unset] [(.long q2)]))
  refine OwnFin.st (fun _ q => XS.bipush X4.here hx rfl (hb hby at_42) q) ?_
  show OwnFin _ _ _ _ (T4.setTop (mkF m 44 _ [(.int 21), (.long q2)]))
  refine OwnFin.st (fun _ q => XS.lushr X4.here hx rfl (hb hby at_44) rfl q) ?_
  show OwnFin _ _ _ _ (T4.setTop (mkF m 45 _ [(.long ((q2.toUInt64 >>> ((21 : Int32) &&& 0x3f).toInt64.toUInt64).toInt64))]))
  obtain ⟨_, _, ⟨T5, L5, k5, n5⟩, -, X5, ⟨Lc5, hQ5, l5, y5, z5⟩, st5⟩ := Jvm.LawKit.callS X4 hx (y := yM27) hown (mvT hZ (w_ hw 0 rfl)) (mvT hZ (w_ hw 1 rfl)) (mvT hZ (w_ hw 2 rfl)) (mvT hZ (w_ hw 3 rfl)) (by decide) (backOf (W := 0) (rm_cpv l Z av0 hw [] ((q2.toUInt64 >>> ((21 : Int32) &&& 0x3f).toInt64.toUInt64).toInt64) h0 n0 (Nat.le_trans Z0 kp0.1) ) hZ (w_ hw 3 rfl) (w_ hw 2 rfl) (by decide) (by decide)) (g := (mkF m 45 #[.val (.int p0), .val (.long q1), .second, .val (.long q2), .second, .val (.int p3), .val (.int p4), .val (.int (p0 &&& (3 : Int32))), .val (.int (((p0.toUInt32 >>> ((2 : Int32) &&& 31).toUInt32).toInt32) &&& (3 : Int32))), .val (.int (own_cpv q1)), .val (.int (own_cpv ((q1.toUInt64 >>> ((21 : Int32) &&& 0x3f).toInt64.toUInt64).toInt64))), .val (.int (own_cpv (p3.toInt64))), .val (.int (own_cpv q2)), .unset, .unset, .unset, .unset, .unset, .unset, .unset] [(.long ((q2.toUInt64 >>> ((21 : Int32) &&& 0x3f).toInt64.toUInt64).toInt64))])) rfl (by rw [hml]; rfl) (argsL := [(.long ((q2.toUInt64 >>> ((21 : Int32) &&& 0x3f).toInt64.toUInt64).toInt64))]) (rest := []) (lenOf pd_21 rfl) rfl (by show 2 * 0 + _ ≤ _; exact Nat.le_of_eq rfl) (hb hby at_45) (fun _ _ => ⟨rfl, he4, (by decide : 0 + 0 ≤ _), (by decide : 0 + 0 ≤ _)⟩)
  dsimp only [Pt.U, Pt.locs, Pt.cells, Pt.slots] at X5 l5 y5 z5 st5 hQ5
  subst l5 y5 z5
  obtain ⟨rfl, N5q, he5⟩ := hQ5
  have N5 := Fr.app N4 N5q
  refine OwnFin.st st5 ?_
  show OwnFin _ _ _ _ (T5.setTop (mkF m 48 _ [(.int (own_cpv ((q2.toUInt64 >>> ((21 : Int32) &&& 0x3f).toInt64.toUInt64).toInt64)))]))
  refine OwnFin.st (fun _ q => XS.istore X5.here hx rfl (hb hby at_48) rfl (l' := #[.val (.int p0), .val (.long q1), .second, .val (.long q2), .second, .val (.int p3), .val (.int p4), .val (.int (p0 &&& (3 : Int32))), .val (.int (((p0.toUInt32 >>> ((2 : Int32) &&& 31).toUInt32).toInt32) &&& (3 : Int32))), .val (.int (own_cpv q1)), .val (.int (own_cpv ((q1.toUInt64 >>> ((21 : Int32) &&& 0x3f).toInt64.toUInt64).toInt64))), .val (.int (own_cpv (p3.toInt64))), .val (.int (own_cpv q2)), .val (.int (own_cpv ((q2.toUInt64 >>> ((21 : Int32) &&& 0x3f).toInt64.toUInt64).toInt64))), .unset, .unset, .unset, .unset, .unset, .unset]) rfl q) ?_
  show OwnFin _ _ _ _ (T5.setTop (mkF m 50 _ []))
  refine OwnFin.st (fun _ q => XS.iload X5.here hx rfl (hb hby at_50) rfl q) ?_
  show OwnFin _ _ _ _ (T5.setTop (mkF m 52 _ [(.int p4)]))
  refine OwnFin.st (fun _ q => XS.i2l X5.here hx rfl (hb hby at_52) rfl q) ?_
  show OwnFin _ _ _ _ (T5.setTop (mkF m 53 _ [(.long (p4.toInt64))]))
  obtain ⟨_, _, ⟨T6, L6, k6, n6⟩, -, X6, ⟨Lc6, hQ6, l6, y6, z6⟩, st6⟩ := Jvm.LawKit.callS X5 hx (y := yM27) hown (mvT hZ (w_ hw 0 rfl)) (mvT hZ (w_ hw 1 rfl)) (mvT hZ (w_ hw 2 rfl)) (mvT hZ (w_ hw 3 rfl)) (by decide) (backOf (W := 0) (rm_cpv l Z av0 hw [] (p4.toInt64) h0 n0 (Nat.le_trans Z0 kp0.1) ) hZ (w_ hw 3 rfl) (w_ hw 2 rfl) (by decide) (by decide)) (g := (mkF m 53 #[.val (.int p0), .val (.long q1), .second, .val (.long q2), .second, .val (.int p3), .val (.int p4), .val (.int (p0 &&& (3 : Int32))), .val (.int (((p0.toUInt32 >>> ((2 : Int32) &&& 31).toUInt32).toInt32) &&& (3 : Int32))), .val (.int (own_cpv q1)), .val (.int (own_cpv ((q1.toUInt64 >>> ((21 : Int32) &&& 0x3f).toInt64.toUInt64).toInt64))), .val (.int (own_cpv (p3.toInt64))), .val (.int (own_cpv q2)), .val (.int (own_cpv ((q2.toUInt64 >>> ((21 : Int32) &&& 0x3f).toInt64.toUInt64).toInt64))), .unset, .unset, .unset, .unset, .unset, .unset] [(.long (p4.toInt64))])) rfl (by rw [hml]; rfl) (argsL := [(.long (p4.toInt64))]) (rest := []) (lenOf pd_21 rfl) rfl (by show 2 * 0 + _ ≤ _; exact Nat.le_of_eq rfl) (hb hby at_53) (fun _ _ => ⟨rfl, he5, (by decide : 0 + 0 ≤ _), (by decide : 0 + 0 ≤ _)⟩)
  dsimp only [Pt.U, Pt.locs, Pt.cells, Pt.slots] at X6 l6 y6 z6 st6 hQ6
  subst l6 y6 z6
  obtain ⟨rfl, N6q, he6⟩ := hQ6
  have N6 := Fr.app N5 N6q
  refine OwnFin.st st6 ?_
  show OwnFin _ _ _ _ (T6.setTop (mkF m 56 _ [(.int (own_cpv (p4.toInt64)))]))
  refine OwnFin.st (fun _ q => XS.istore X6.here hx rfl (hb hby at_56) rfl (l' := #[.val (.int p0), .val (.long q1), .second, .val (.long q2), .second, .val (.int p3), .val (.int p4), .val (.int (p0 &&& (3 : Int32))), .val (.int (((p0.toUInt32 >>> ((2 : Int32) &&& 31).toUInt32).toInt32) &&& (3 : Int32))), .val (.int (own_cpv q1)), .val (.int (own_cpv ((q1.toUInt64 >>> ((21 : Int32) &&& 0x3f).toInt64.toUInt64).toInt64))), .val (.int (own_cpv (p3.toInt64))), .val (.int (own_cpv q2)), .val (.int (own_cpv ((q2.toUInt64 >>> ((21 : Int32) &&& 0x3f).toInt64.toUInt64).toInt64))), .val (.int (own_cpv (p4.toInt64))), .unset, .unset, .unset, .unset, .unset]) rfl q) ?_
  show OwnFin _ _ _ _ (T6.setTop (mkF m 58 _ []))
  refine OwnFin.st (fun _ q => XS.lloadN X6.here hx rfl (hb hby at_58) rfl q) ?_
  show OwnFin _ _ _ _ (T6.setTop (mkF m 59 _ [(.long q2)]))
  refine OwnFin.st (fun _ q => XS.bipush X6.here hx rfl (hb hby at_59) q) ?_
  show OwnFin _ _ _ _ (T6.setTop (mkF m 61 _ [(.int 42), (.long q2)]))
  refine OwnFin.st (fun _ q => XS.lushr X6.here hx rfl (hb hby at_61) rfl q) ?_
  show OwnFin _ _ _ _ (T6.setTop (mkF m 62 _ [(.long ((q2.toUInt64 >>> ((42 : Int32) &&& 0x3f).toInt64.toUInt64).toInt64))]))
  refine OwnFin.st (X6.ldc2Long hx hown (mvT hZ (w_ hw 6 rfl)) (g := (mkF m 62 #[.val (.int p0), .val (.long q1), .second, .val (.long q2), .second, .val (.int p3), .val (.int p4), .val (.int (p0 &&& (3 : Int32))), .val (.int (((p0.toUInt32 >>> ((2 : Int32) &&& 31).toUInt32).toInt32) &&& (3 : Int32))), .val (.int (own_cpv q1)), .val (.int (own_cpv ((q1.toUInt64 >>> ((21 : Int32) &&& 0x3f).toInt64.toUInt64).toInt64))), .val (.int (own_cpv (p3.toInt64))), .val (.int (own_cpv q2)), .val (.int (own_cpv ((q2.toUInt64 >>> ((21 : Int32) &&& 0x3f).toInt64.toUInt64).toInt64))), .val (.int (own_cpv (p4.toInt64))), .unset, .unset, .unset, .unset, .unset] [(.long ((q2.toUInt64 >>> ((42 : Int32) &&& 0x3f).toInt64.toUInt64).toInt64))])) rfl (hb hby at_62)) ?_
  show OwnFin _ _ _ _ (T6.setTop (mkF m 65 _ [(.long (7 : Int64)), (.long ((q2.toUInt64 >>> ((42 : Int32) &&& 0x3f).toInt64.toUInt64).toInt64))]))
  refine OwnFin.st (fun _ q => XS.land X6.here hx rfl (hb hby at_65) rfl q) ?_
  show OwnFin _ _ _ _ (T6.setTop (mkF m 66 #[.val (.int p0), .val (.long q1), .second, .val (.long q2), .second, .val (.int p3), .val (.int p4), .val (.int (p0 &&& (3 : Int32))), .val (.int (((p0.toUInt32 >>> ((2 : Int32) &&& 31).toUInt32).toInt32) &&& (3 : Int32))), .val (.int (own_cpv q1)), .val (.int (own_cpv ((q1.toUInt64 >>> ((21 : Int32) &&& 0x3f).toInt64.toUInt64).toInt64))), .val (.int (own_cpv (p3.toInt64))), .val (.int (own_cpv q2)), .val (.int (own_cpv ((q2.toUInt64 >>> ((21 : Int32) &&& 0x3f).toInt64.toUInt64).toInt64))), .val (.int (own_cpv (p4.toInt64))), .unset, .unset, .unset, .unset, .unset] [(.long (((q2.toUInt64 >>> ((42 : Int32) &&& 0x3f).toInt64.toUInt64).toInt64) &&& (7 : Int64)))]))
  refine OwnFin.st (fun _ q => XS.l2i X6.here hx rfl (hb hby at_66) rfl q) ?_
  show OwnFin _ _ _ _ (T6.setTop (mkF m 67 _ [(.int ((((q2.toUInt64 >>> ((42 : Int32) &&& 0x3f).toInt64.toUInt64).toInt64) &&& (7 : Int64)).toInt32))]))
  refine OwnFin.st (fun _ q => XS.istore X6.here hx rfl (hb hby at_67) rfl (l' := #[.val (.int p0), .val (.long q1), .second, .val (.long q2), .second, .val (.int p3), .val (.int p4), .val (.int (p0 &&& (3 : Int32))), .val (.int (((p0.toUInt32 >>> ((2 : Int32) &&& 31).toUInt32).toInt32) &&& (3 : Int32))), .val (.int (own_cpv q1)), .val (.int (own_cpv ((q1.toUInt64 >>> ((21 : Int32) &&& 0x3f).toInt64.toUInt64).toInt64))), .val (.int (own_cpv (p3.toInt64))), .val (.int (own_cpv q2)), .val (.int (own_cpv ((q2.toUInt64 >>> ((21 : Int32) &&& 0x3f).toInt64.toUInt64).toInt64))), .val (.int (own_cpv (p4.toInt64))), .val (.int ((((q2.toUInt64 >>> ((42 : Int32) &&& 0x3f).toInt64.toUInt64).toInt64) &&& (7 : Int64)).toInt32)), .unset, .unset, .unset, .unset]) rfl q) ?_
  show OwnFin _ _ _ _ (T6.setTop (mkF m 69 _ []))
  refine OwnFin.st (fun _ q => XS.iload X6.here hx rfl (hb hby at_69) rfl q) ?_
  show OwnFin _ _ _ _ (T6.setTop (mkF m 71 _ [(.int ((((q2.toUInt64 >>> ((42 : Int32) &&& 0x3f).toInt64.toUInt64).toInt64) &&& (7 : Int64)).toInt32))]))
  refine OwnFin.st (fun _ q => XS.iconst X6.here hx rfl (hb hby at_71) q) ?_
  show OwnFin _ _ _ _ (T6.setTop (mkF m 72 _ [(.int 1), (.int ((((q2.toUInt64 >>> ((42 : Int32) &&& 0x3f).toInt64.toUInt64).toInt64) &&& (7 : Int64)).toInt32))]))
  refine OwnFin.st (fun _ q => XS.iand X6.here hx rfl (hb hby at_72) rfl q) ?_
  show OwnFin _ _ _ _ (T6.setTop (mkF m 73 _ [(.int (((((q2.toUInt64 >>> ((42 : Int32) &&& 0x3f).toInt64.toUInt64).toInt64) &&& (7 : Int64)).toInt32) &&& (1 : Int32)))]))
  have H7 : ∀ (T : State) (lc : List Loc), Stand p l e room_1 (s.setVm s.vm) m #[(.int p0), (.long q1), (.long q2), (.int p3), (.int p4)] below meth c T lc 0 0 → Fr n0 lc → T.heap = h0 → OwnFin p.tables e below (fun o U' => ∃ v L, o = .returned v ∧ Q_rm0 Z p0 q1 q2 p3 p4 w_COMPACT_STRINGS w_SIOOBE_FORMATTER h0 n0 v U'.heap L ∧ CHr Z own_EL s.vm s.heap U'.vm U'.heap ∧ ReturnedEndW s o U' L room_1.cells room_1.slots) (T.setTop (mkF m 80 #[.val (.int p0), .val (.long q1), .second, .val (.long q2), .second, .val (.int p3), .val (.int p4), .val (.int (p0 &&& (3 : Int32))), .val (.int (((p0.toUInt32 >>> ((2 : Int32) &&& 31).toUInt32).toInt32) &&& (3 : Int32))), .val (.int (own_cpv q1)), .val (.int (own_cpv ((q1.toUInt64 >>> ((21 : Int32) &&& 0x3f).toInt64.toUInt64).toInt64))), .val (.int (own_cpv (p3.toInt64))), .val (.int (if (((((q2.toUInt64 >>> ((42 : Int32) &&& 0x3f).toInt64.toUInt64).toInt64) &&& (7 : Int64)).toInt32) &&& (1 : Int32)) = (0 : Int32) then (own_cpv q2) else (own_cpv q1))), .val (.int (own_cpv ((q2.toUInt64 >>> ((21 : Int32) &&& 0x3f).toInt64.toUInt64).toInt64))), .val (.int (own_cpv (p4.toInt64))), .val (.int ((((q2.toUInt64 >>> ((42 : Int32) &&& 0x3f).toInt64.toUInt64).toInt64) &&& (7 : Int64)).toInt32)), .unset, .unset, .unset, .unset] [])) := by
   intro T7 lc7 X7 N7 e7
   show OwnFin _ _ _ _ (T7.setTop (mkF m 80 #[.val (.int p0), .val (.long q1), .second, .val (.long q2), .second, .val (.int p3), .val (.int p4), .val (.int (p0 &&& (3 : Int32))), .val (.int (((p0.toUInt32 >>> ((2 : Int32) &&& 31).toUInt32).toInt32) &&& (3 : Int32))), .val (.int (own_cpv q1)), .val (.int (own_cpv ((q1.toUInt64 >>> ((21 : Int32) &&& 0x3f).toInt64.toUInt64).toInt64))), .val (.int (own_cpv (p3.toInt64))), .val (.int (if (((((q2.toUInt64 >>> ((42 : Int32) &&& 0x3f).toInt64.toUInt64).toInt64) &&& (7 : Int64)).toInt32) &&& (1 : Int32)) = (0 : Int32) then (own_cpv q2) else (own_cpv q1))), .val (.int (own_cpv ((q2.toUInt64 >>> ((21 : Int32) &&& 0x3f).toInt64.toUInt64).toInt64))), .val (.int (own_cpv (p4.toInt64))), .val (.int ((((q2.toUInt64 >>> ((42 : Int32) &&& 0x3f).toInt64.toUInt64).toInt64) &&& (7 : Int64)).toInt32)), .unset, .unset, .unset, .unset] []))
   refine OwnFin.st (fun _ q => XS.iload X7.here hx rfl (hb hby at_80) rfl q) ?_
   show OwnFin _ _ _ _ (T7.setTop (mkF m 82 _ [(.int ((((q2.toUInt64 >>> ((42 : Int32) &&& 0x3f).toInt64.toUInt64).toInt64) &&& (7 : Int64)).toInt32))]))
   refine OwnFin.st (fun _ q => XS.iconst X7.here hx rfl (hb hby at_82) q) ?_
   show OwnFin _ _ _ _ (T7.setTop (mkF m 83 _ [(.int 2), (.int ((((q2.toUInt64 >>> ((42 : Int32) &&& 0x3f).toInt64.toUInt64).toInt64) &&& (7 : Int64)).toInt32))]))
   refine OwnFin.st (fun _ q => XS.iand X7.here hx rfl (hb hby at_83) rfl q) ?_
   show OwnFin _ _ _ _ (T7.setTop (mkF m 84 _ [(.int (((((q2.toUInt64 >>> ((42 : Int32) &&& 0x3f).toInt64.toUInt64).toInt64) &&& (7 : Int64)).toInt32) &&& (2 : Int32)))]))
   have H8 : ∀ (T : State) (lc : List Loc), Stand p l e room_1 (s.setVm s.vm) m #[(.int p0), (.long q1), (.long q2), (.int p3), (.int p4)] below meth c T lc 0 0 → Fr n0 lc → T.heap = h0 → OwnFin p.tables e below (fun o U' => ∃ v L, o = .returned v ∧ Q_rm0 Z p0 q1 q2 p3 p4 w_COMPACT_STRINGS w_SIOOBE_FORMATTER h0 n0 v U'.heap L ∧ CHr Z own_EL s.vm s.heap U'.vm U'.heap ∧ ReturnedEndW s o U' L room_1.cells room_1.slots) (T.setTop (mkF m 91 #[.val (.int p0), .val (.long q1), .second, .val (.long q2), .second, .val (.int p3), .val (.int p4), .val (.int (p0 &&& (3 : Int32))), .val (.int (((p0.toUInt32 >>> ((2 : Int32) &&& 31).toUInt32).toInt32) &&& (3 : Int32))), .val (.int (own_cpv q1)), .val (.int (own_cpv ((q1.toUInt64 >>> ((21 : Int32) &&& 0x3f).toInt64.toUInt64).toInt64))), .val (.int (own_cpv (p3.toInt64))), .val (.int (if (((((q2.toUInt64 >>> ((42 : Int32) &&& 0x3f).toInt64.toUInt64).toInt64) &&& (7 : Int64)).toInt32) &&& (1 : Int32)) = (0 : Int32) then (own_cpv q2) else (own_cpv q1))), .val (.int (if (((((q2.toUInt64 >>> ((42 : Int32) &&& 0x3f).toInt64.toUInt64).toInt64) &&& (7 : Int64)).toInt32) &&& (2 : Int32)) = (0 : Int32) then (own_cpv ((q2.toUInt64 >>> ((21 : Int32) &&& 0x3f).toInt64.toUInt64).toInt64)) else (own_cpv ((q1.toUInt64 >>> ((21 : Int32) &&& 0x3f).toInt64.toUInt64).toInt64)))), .val (.int (own_cpv (p4.toInt64))), .val (.int ((((q2.toUInt64 >>> ((42 : Int32) &&& 0x3f).toInt64.toUInt64).toInt64) &&& (7 : Int64)).toInt32)), .unset, .unset, .unset, .unset] [])) := by
    intro T8 lc8 X8 N8 e8
    show OwnFin _ _ _ _ (T8.setTop (mkF m 91 #[.val (.int p0), .val (.long q1), .second, .val (.long q2), .second, .val (.int p3), .val (.int p4), .val (.int (p0 &&& (3 : Int32))), .val (.int (((p0.toUInt32 >>> ((2 : Int32) &&& 31).toUInt32).toInt32) &&& (3 : Int32))), .val (.int (own_cpv q1)), .val (.int (own_cpv ((q1.toUInt64 >>> ((21 : Int32) &&& 0x3f).toInt64.toUInt64).toInt64))), .val (.int (own_cpv (p3.toInt64))), .val (.int (if (((((q2.toUInt64 >>> ((42 : Int32) &&& 0x3f).toInt64.toUInt64).toInt64) &&& (7 : Int64)).toInt32) &&& (1 : Int32)) = (0 : Int32) then (own_cpv q2) else (own_cpv q1))), .val (.int (if (((((q2.toUInt64 >>> ((42 : Int32) &&& 0x3f).toInt64.toUInt64).toInt64) &&& (7 : Int64)).toInt32) &&& (2 : Int32)) = (0 : Int32) then (own_cpv ((q2.toUInt64 >>> ((21 : Int32) &&& 0x3f).toInt64.toUInt64).toInt64)) else (own_cpv ((q1.toUInt64 >>> ((21 : Int32) &&& 0x3f).toInt64.toUInt64).toInt64)))), .val (.int (own_cpv (p4.toInt64))), .val (.int ((((q2.toUInt64 >>> ((42 : Int32) &&& 0x3f).toInt64.toUInt64).toInt64) &&& (7 : Int64)).toInt32)), .unset, .unset, .unset, .unset] []))
    refine OwnFin.st (fun _ q => XS.iload X8.here hx rfl (hb hby at_91) rfl q) ?_
    show OwnFin _ _ _ _ (T8.setTop (mkF m 93 _ [(.int ((((q2.toUInt64 >>> ((42 : Int32) &&& 0x3f).toInt64.toUInt64).toInt64) &&& (7 : Int64)).toInt32))]))
    refine OwnFin.st (fun _ q => XS.iconst X8.here hx rfl (hb hby at_93) q) ?_
    show OwnFin _ _ _ _ (T8.setTop (mkF m 94 _ [(.int 4), (.int ((((q2.toUInt64 >>> ((42 : Int32) &&& 0x3f).toInt64.toUInt64).toInt64) &&& (7 : Int64)).toInt32))]))
    refine OwnFin.st (fun _ q => XS.iand X8.here hx rfl (hb hby at_94) rfl q) ?_
    show OwnFin _ _ _ _ (T8.setTop (mkF m 95 _ [(.int (((((q2.toUInt64 >>> ((42 : Int32) &&& 0x3f).toInt64.toUInt64).toInt64) &&& (7 : Int64)).toInt32) &&& (4 : Int32)))]))
    have H9 : ∀ (T : State) (lc : List Loc), Stand p l e room_1 (s.setVm s.vm) m #[(.int p0), (.long q1), (.long q2), (.int p3), (.int p4)] below meth c T lc 0 0 → Fr n0 lc → T.heap = h0 → OwnFin p.tables e below (fun o U' => ∃ v L, o = .returned v ∧ Q_rm0 Z p0 q1 q2 p3 p4 w_COMPACT_STRINGS w_SIOOBE_FORMATTER h0 n0 v U'.heap L ∧ CHr Z own_EL s.vm s.heap U'.vm U'.heap ∧ ReturnedEndW s o U' L room_1.cells room_1.slots) (T.setTop (mkF m 102 #[.val (.int p0), .val (.long q1), .second, .val (.long q2), .second, .val (.int p3), .val (.int p4), .val (.int (p0 &&& (3 : Int32))), .val (.int (((p0.toUInt32 >>> ((2 : Int32) &&& 31).toUInt32).toInt32) &&& (3 : Int32))), .val (.int (own_cpv q1)), .val (.int (own_cpv ((q1.toUInt64 >>> ((21 : Int32) &&& 0x3f).toInt64.toUInt64).toInt64))), .val (.int (own_cpv (p3.toInt64))), .val (.int (if (((((q2.toUInt64 >>> ((42 : Int32) &&& 0x3f).toInt64.toUInt64).toInt64) &&& (7 : Int64)).toInt32) &&& (1 : Int32)) = (0 : Int32) then (own_cpv q2) else (own_cpv q1))), .val (.int (if (((((q2.toUInt64 >>> ((42 : Int32) &&& 0x3f).toInt64.toUInt64).toInt64) &&& (7 : Int64)).toInt32) &&& (2 : Int32)) = (0 : Int32) then (own_cpv ((q2.toUInt64 >>> ((21 : Int32) &&& 0x3f).toInt64.toUInt64).toInt64)) else (own_cpv ((q1.toUInt64 >>> ((21 : Int32) &&& 0x3f).toInt64.toUInt64).toInt64)))), .val (.int (if (((((q2.toUInt64 >>> ((42 : Int32) &&& 0x3f).toInt64.toUInt64).toInt64) &&& (7 : Int64)).toInt32) &&& (4 : Int32)) = (0 : Int32) then (own_cpv (p4.toInt64)) else (own_cpv (p3.toInt64)))), .val (.int ((((q2.toUInt64 >>> ((42 : Int32) &&& 0x3f).toInt64.toUInt64).toInt64) &&& (7 : Int64)).toInt32)), .unset, .unset, .unset, .unset] [])) := by
     intro T9 lc9 X9 N9 e9
     show OwnFin _ _ _ _ (T9.setTop (mkF m 102 #[.val (.int p0), .val (.long q1), .second, .val (.long q2), .second, .val (.int p3), .val (.int p4), .val (.int (p0 &&& (3 : Int32))), .val (.int (((p0.toUInt32 >>> ((2 : Int32) &&& 31).toUInt32).toInt32) &&& (3 : Int32))), .val (.int (own_cpv q1)), .val (.int (own_cpv ((q1.toUInt64 >>> ((21 : Int32) &&& 0x3f).toInt64.toUInt64).toInt64))), .val (.int (own_cpv (p3.toInt64))), .val (.int (if (((((q2.toUInt64 >>> ((42 : Int32) &&& 0x3f).toInt64.toUInt64).toInt64) &&& (7 : Int64)).toInt32) &&& (1 : Int32)) = (0 : Int32) then (own_cpv q2) else (own_cpv q1))), .val (.int (if (((((q2.toUInt64 >>> ((42 : Int32) &&& 0x3f).toInt64.toUInt64).toInt64) &&& (7 : Int64)).toInt32) &&& (2 : Int32)) = (0 : Int32) then (own_cpv ((q2.toUInt64 >>> ((21 : Int32) &&& 0x3f).toInt64.toUInt64).toInt64)) else (own_cpv ((q1.toUInt64 >>> ((21 : Int32) &&& 0x3f).toInt64.toUInt64).toInt64)))), .val (.int (if (((((q2.toUInt64 >>> ((42 : Int32) &&& 0x3f).toInt64.toUInt64).toInt64) &&& (7 : Int64)).toInt32) &&& (4 : Int32)) = (0 : Int32) then (own_cpv (p4.toInt64)) else (own_cpv (p3.toInt64)))), .val (.int ((((q2.toUInt64 >>> ((42 : Int32) &&& 0x3f).toInt64.toUInt64).toInt64) &&& (7 : Int64)).toInt32)), .unset, .unset, .unset, .unset] []))
     refine OwnFin.st (fun _ q => XS.iload X9.here hx rfl (hb hby at_102) rfl q) ?_
     show OwnFin _ _ _ _ (T9.setTop (mkF m 104 _ [(.int (own_cpv q1))]))
     refine OwnFin.st (fun _ q => XS.iconst X9.here hx rfl (hb hby at_104) q) ?_
     show OwnFin _ _ _ _ (T9.setTop (mkF m 105 _ [(.int 0), (.int (own_cpv q1))]))
     refine OwnFin.st (fun _ q => XS.iload X9.here hx rfl (hb hby at_105) rfl q) ?_
     show OwnFin _ _ _ _ (T9.setTop (mkF m 107 _ [(.int (p0 &&& (3 : Int32))), (.int 0), (.int (own_cpv q1))]))
     obtain ⟨_, _, ⟨T10, L10, k10, n10⟩, -, X10, ⟨Lc10, hQ10, l10, y10, z10⟩, st10⟩ := Jvm.LawKit.callS X9 hx (y := yM28) hown (mvT hZ (w_ hw 7 rfl)) (mvT hZ (w_ hw 8 rfl)) (mvT hZ (w_ hw 2 rfl)) (mvT hZ (w_ hw 9 rfl)) (by decide) (backOf (W := 0) (rm_fix l Z av0 hw [] (own_cpv q1) (0 : Int32) (p0 &&& (3 : Int32)) h0 n0 (Nat.le_trans Z0 kp0.1) ) hZ (w_ hw 9 rfl) (w_ hw 2 rfl) (by decide) (by decide)) (g := (mkF m 107 #[.val (.int p0), .val (.long q1), .second, .val (.long q2), .second, .val (.int p3), .val (.int p4), .val (.int (p0 &&& (3 : Int32))), .val (.int (((p0.toUInt32 >>> ((2 : Int32) &&& 31).toUInt32).toInt32) &&& (3 : Int32))), .val (.int (own_cpv q1)), .val (.int (own_cpv ((q1.toUInt64 >>> ((21 : Int32) &&& 0x3f).toInt64.toUInt64).toInt64))), .val (.int (own_cpv (p3.toInt64))), .val (.int (if (((((q2.toUInt64 >>> ((42 : Int32) &&& 0x3f).toInt64.toUInt64).toInt64) &&& (7 : Int64)).toInt32) &&& (1 : Int32)) = (0 : Int32) then (own_cpv q2) else (own_cpv q1))), .val (.int (if (((((q2.toUInt64 >>> ((42 : Int32) &&& 0x3f).toInt64.toUInt64).toInt64) &&& (7 : Int64)).toInt32) &&& (2 : Int32)) = (0 : Int32) then (own_cpv ((q2.toUInt64 >>> ((21 : Int32) &&& 0x3f).toInt64.toUInt64).toInt64)) else (own_cpv ((q1.toUInt64 >>> ((21 : Int32) &&& 0x3f).toInt64.toUInt64).toInt64)))), .val (.int (if (((((q2.toUInt64 >>> ((42 : Int32) &&& 0x3f).toInt64.toUInt64).toInt64) &&& (7 : Int64)).toInt32) &&& (4 : Int32)) = (0 : Int32) then (own_cpv (p4.toInt64)) else (own_cpv (p3.toInt64)))), .val (.int ((((q2.toUInt64 >>> ((42 : Int32) &&& 0x3f).toInt64.toUInt64).toInt64) &&& (7 : Int64)).toInt32)), .unset, .unset, .unset, .unset] [(.int (p0 &&& (3 : Int32))), (.int 0), (.int (own_cpv q1))])) rfl (by rw [hml]; rfl) (argsL := [(.int (own_cpv q1)), (.int 0), (.int (p0 &&& (3 : Int32)))]) (rest := []) (lenOf pd_18 rfl) rfl (by show 2 * 0 + _ ≤ _; exact Nat.le_of_eq rfl) (hb hby at_107) (fun _ _ => ⟨rfl, e9, (by decide : 0 + 0 ≤ _), (by decide : 0 + 0 ≤ _)⟩)
     dsimp only [Pt.U, Pt.locs, Pt.cells, Pt.slots] at X10 l10 y10 z10 st10 hQ10
     subst l10 y10 z10
     obtain ⟨rfl, N10q, he10⟩ := hQ10
     have N10 := Fr.app N9 N10q
     refine OwnFin.st st10 ?_
     show OwnFin _ _ _ _ (T10.setTop (mkF m 110 _ [(.int (own_fix (own_cpv q1) (0 : Int32) (p0 &&& (3 : Int32))))]))
     refine OwnFin.st (fun _ q => XS.istore X10.here hx rfl (hb hby at_110) rfl (l' := #[.val (.int p0), .val (.long q1), .second, .val (.long q2), .second, .val (.int p3), .val (.int p4), .val (.int (p0 &&& (3 : Int32))), .val (.int (((p0.toUInt32 >>> ((2 : Int32) &&& 31).toUInt32).toInt32) &&& (3 : Int32))), .val (.int (own_fix (own_cpv q1) (0 : Int32) (p0 &&& (3 : Int32)))), .val (.int (own_cpv ((q1.toUInt64 >>> ((21 : Int32) &&& 0x3f).toInt64.toUInt64).toInt64))), .val (.int (own_cpv (p3.toInt64))), .val (.int (if (((((q2.toUInt64 >>> ((42 : Int32) &&& 0x3f).toInt64.toUInt64).toInt64) &&& (7 : Int64)).toInt32) &&& (1 : Int32)) = (0 : Int32) then (own_cpv q2) else (own_cpv q1))), .val (.int (if (((((q2.toUInt64 >>> ((42 : Int32) &&& 0x3f).toInt64.toUInt64).toInt64) &&& (7 : Int64)).toInt32) &&& (2 : Int32)) = (0 : Int32) then (own_cpv ((q2.toUInt64 >>> ((21 : Int32) &&& 0x3f).toInt64.toUInt64).toInt64)) else (own_cpv ((q1.toUInt64 >>> ((21 : Int32) &&& 0x3f).toInt64.toUInt64).toInt64)))), .val (.int (if (((((q2.toUInt64 >>> ((42 : Int32) &&& 0x3f).toInt64.toUInt64).toInt64) &&& (7 : Int64)).toInt32) &&& (4 : Int32)) = (0 : Int32) then (own_cpv (p4.toInt64)) else (own_cpv (p3.toInt64)))), .val (.int ((((q2.toUInt64 >>> ((42 : Int32) &&& 0x3f).toInt64.toUInt64).toInt64) &&& (7 : Int64)).toInt32)), .unset, .unset, .unset, .unset]) rfl q) ?_
     show OwnFin _ _ _ _ (T10.setTop (mkF m 112 _ []))
     refine OwnFin.st (fun _ q => XS.iload X10.here hx rfl (hb hby at_112) rfl q) ?_
     show OwnFin _ _ _ _ (T10.setTop (mkF m 114 _ [(.int (own_cpv ((q1.toUInt64 >>> ((21 : Int32) &&& 0x3f).toInt64.toUInt64).toInt64)))]))
     refine OwnFin.st (fun _ q => XS.iconst X10.here hx rfl (hb hby at_114) q) ?_
     show OwnFin _ _ _ _ (T10.setTop (mkF m 115 _ [(.int 1), (.int (own_cpv ((q1.toUInt64 >>> ((21 : Int32) &&& 0x3f).toInt64.toUInt64).toInt64)))]))
     refine OwnFin.st (fun _ q => XS.iload X10.here hx rfl (hb hby at_115) rfl q) ?_
     show OwnFin _ _ _ _ (T10.setTop (mkF m 117 _ [(.int (p0 &&& (3 : Int32))), (.int 1), (.int (own_cpv ((q1.toUInt64 >>> ((21 : Int32) &&& 0x3f).toInt64.toUInt64).toInt64)))]))
     obtain ⟨_, _, ⟨T11, L11, k11, n11⟩, -, X11, ⟨Lc11, hQ11, l11, y11, z11⟩, st11⟩ := Jvm.LawKit.callS X10 hx (y := yM28) hown (mvT hZ (w_ hw 7 rfl)) (mvT hZ (w_ hw 8 rfl)) (mvT hZ (w_ hw 2 rfl)) (mvT hZ (w_ hw 9 rfl)) (by decide) (backOf (W := 0) (rm_fix l Z av0 hw [] (own_cpv ((q1.toUInt64 >>> ((21 : Int32) &&& 0x3f).toInt64.toUInt64).toInt64)) (1 : Int32) (p0 &&& (3 : Int32)) h0 n0 (Nat.le_trans Z0 kp0.1) ) hZ (w_ hw 9 rfl) (w_ hw 2 rfl) (by decide) (by decide)) (g := (mkF m 117 #[.val (.int p0), .val (.long q1), .second, .val (.long q2), .second, .val (.int p3), .val (.int p4), .val (.int (p0 &&& (3 : Int32))), .val (.int (((p0.toUInt32 >>> ((2 : Int32) &&& 31).toUInt32).toInt32) &&& (3 : Int32))), .val (.int (own_fix (own_cpv q1) (0 : Int32) (p0 &&& (3 : Int32)))), .val (.int (own_cpv ((q1.toUInt64 >>> ((21 : Int32) &&& 0x3f).toInt64.toUInt64).toInt64))), .val (.int (own_cpv (p3.toInt64))), .val (.int (if (((((q2.toUInt64 >>> ((42 : Int32) &&& 0x3f).toInt64.toUInt64).toInt64) &&& (7 : Int64)).toInt32) &&& (1 : Int32)) = (0 : Int32) then (own_cpv q2) else (own_cpv q1))), .val (.int (if (((((q2.toUInt64 >>> ((42 : Int32) &&& 0x3f).toInt64.toUInt64).toInt64) &&& (7 : Int64)).toInt32) &&& (2 : Int32)) = (0 : Int32) then (own_cpv ((q2.toUInt64 >>> ((21 : Int32) &&& 0x3f).toInt64.toUInt64).toInt64)) else (own_cpv ((q1.toUInt64 >>> ((21 : Int32) &&& 0x3f).toInt64.toUInt64).toInt64)))), .val (.int (if (((((q2.toUInt64 >>> ((42 : Int32) &&& 0x3f).toInt64.toUInt64).toInt64) &&& (7 : Int64)).toInt32) &&& (4 : Int32)) = (0 : Int32) then (own_cpv (p4.toInt64)) else (own_cpv (p3.toInt64)))), .val (.int ((((q2.toUInt64 >>> ((42 : Int32) &&& 0x3f).toInt64.toUInt64).toInt64) &&& (7 : Int64)).toInt32)), .unset, .unset, .unset, .unset] [(.int (p0 &&& (3 : Int32))), (.int 1), (.int (own_cpv ((q1.toUInt64 >>> ((21 : Int32) &&& 0x3f).toInt64.toUInt64).toInt64)))])) rfl (by rw [hml]; rfl) (argsL := [(.int (own_cpv ((q1.toUInt64 >>> ((21 : Int32) &&& 0x3f).toInt64.toUInt64).toInt64))), (.int 1), (.int (p0 &&& (3 : Int32)))]) (rest := []) (lenOf pd_18 rfl) rfl (by show 2 * 0 + _ ≤ _; exact Nat.le_of_eq rfl) (hb hby at_117) (fun _ _ => ⟨rfl, he10, (by decide : 0 + 0 ≤ _), (by decide : 0 + 0 ≤ _)⟩)
     dsimp only [Pt.U, Pt.locs, Pt.cells, Pt.slots] at X11 l11 y11 z11 st11 hQ11
     subst l11 y11 z11
     obtain ⟨rfl, N11q, he11⟩ := hQ11
     have N11 := Fr.app N10 N11q
     refine OwnFin.st st11 ?_
     show OwnFin _ _ _ _ (T11.setTop (mkF m 120 _ [(.int (own_fix (own_cpv ((q1.toUInt64 >>> ((21 : Int32) &&& 0x3f).toInt64.toUInt64).toInt64)) (1 : Int32) (p0 &&& (3 : Int32))))]))
     refine OwnFin.st (fun _ q => XS.istore X11.here hx rfl (hb hby at_120) rfl (l' := #[.val (.int p0), .val (.long q1), .second, .val (.long q2), .second, .val (.int p3), .val (.int p4), .val (.int (p0 &&& (3 : Int32))), .val (.int (((p0.toUInt32 >>> ((2 : Int32) &&& 31).toUInt32).toInt32) &&& (3 : Int32))), .val (.int (own_fix (own_cpv q1) (0 : Int32) (p0 &&& (3 : Int32)))), .val (.int (own_fix (own_cpv ((q1.toUInt64 >>> ((21 : Int32) &&& 0x3f).toInt64.toUInt64).toInt64)) (1 : Int32) (p0 &&& (3 : Int32)))), .val (.int (own_cpv (p3.toInt64))), .val (.int (if (((((q2.toUInt64 >>> ((42 : Int32) &&& 0x3f).toInt64.toUInt64).toInt64) &&& (7 : Int64)).toInt32) &&& (1 : Int32)) = (0 : Int32) then (own_cpv q2) else (own_cpv q1))), .val (.int (if (((((q2.toUInt64 >>> ((42 : Int32) &&& 0x3f).toInt64.toUInt64).toInt64) &&& (7 : Int64)).toInt32) &&& (2 : Int32)) = (0 : Int32) then (own_cpv ((q2.toUInt64 >>> ((21 : Int32) &&& 0x3f).toInt64.toUInt64).toInt64)) else (own_cpv ((q1.toUInt64 >>> ((21 : Int32) &&& 0x3f).toInt64.toUInt64).toInt64)))), .val (.int (if (((((q2.toUInt64 >>> ((42 : Int32) &&& 0x3f).toInt64.toUInt64).toInt64) &&& (7 : Int64)).toInt32) &&& (4 : Int32)) = (0 : Int32) then (own_cpv (p4.toInt64)) else (own_cpv (p3.toInt64)))), .val (.int ((((q2.toUInt64 >>> ((42 : Int32) &&& 0x3f).toInt64.toUInt64).toInt64) &&& (7 : Int64)).toInt32)), .unset, .unset, .unset, .unset]) rfl q) ?_
     show OwnFin _ _ _ _ (T11.setTop (mkF m 122 _ []))
     refine OwnFin.st (fun _ q => XS.iload X11.here hx rfl (hb hby at_122) rfl q) ?_
     show OwnFin _ _ _ _ (T11.setTop (mkF m 124 _ [(.int (own_cpv (p3.toInt64)))]))
     refine OwnFin.st (fun _ q => XS.iconst X11.here hx rfl (hb hby at_124) q) ?_
     show OwnFin _ _ _ _ (T11.setTop (mkF m 125 _ [(.int 2), (.int (own_cpv (p3.toInt64)))]))
     refine OwnFin.st (fun _ q => XS.iload X11.here hx rfl (hb hby at_125) rfl q) ?_
     show OwnFin _ _ _ _ (T11.setTop (mkF m 127 #[.val (.int p0), .val (.long q1), .second, .val (.long q2), .second, .val (.int p3), .val (.int p4), .val (.int (p0 &&& (3 : Int32))), .val (.int (((p0.toUInt32 >>> ((2 : Int32) &&& 31).toUInt32).toInt32) &&& (3 : Int32))), .val (.int (own_fix (own_cpv q1) (0 : Int32) (p0 &&& (3 : Int32)))), .val (.int (own_fix (own_cpv ((q1.toUInt64 >>> ((21 : Int32) &&& 0x3f).toInt64.toUInt64).toInt64)) (1 : Int32) (p0 &&& (3 : Int32)))), .val (.int (own_cpv (p3.toInt64))), .val (.int (if (((((q2.toUInt64 >>> ((42 : Int32) &&& 0x3f).toInt64.toUInt64).toInt64) &&& (7 : Int64)).toInt32) &&& (1 : Int32)) = (0 : Int32) then (own_cpv q2) else (own_cpv q1))), .val (.int (if (((((q2.toUInt64 >>> ((42 : Int32) &&& 0x3f).toInt64.toUInt64).toInt64) &&& (7 : Int64)).toInt32) &&& (2 : Int32)) = (0 : Int32) then (own_cpv ((q2.toUInt64 >>> ((21 : Int32) &&& 0x3f).toInt64.toUInt64).toInt64)) else (own_cpv ((q1.toUInt64 >>> ((21 : Int32) &&& 0x3f).toInt64.toUInt64).toInt64)))), .val (.int (if (((((q2.toUInt64 >>> ((42 : Int32) &&& 0x3f).toInt64.toUInt64).toInt64) &&& (7 : Int64)).toInt32) &&& (4 : Int32)) = (0 : Int32) then (own_cpv (p4.toInt64)) else (own_cpv (p3.toInt64)))), .val (.int ((((q2.toUInt64 >>> ((42 : Int32) &&& 0x3f).toInt64.toUInt64).toInt64) &&& (7 : Int64)).toInt32)), .unset, .unset, .unset, .unset] [(.int (p0 &&& (3 : Int32))), (.int 2), (.int (own_cpv (p3.toInt64)))]))
     obtain ⟨_, _, ⟨T12, L12, k12, n12⟩, -, X12, ⟨Lc12, hQ12, l12, y12, z12⟩, st12⟩ := Jvm.LawKit.callS X11 hx (y := yM28) hown (mvT hZ (w_ hw 7 rfl)) (mvT hZ (w_ hw 8 rfl)) (mvT hZ (w_ hw 2 rfl)) (mvT hZ (w_ hw 9 rfl)) (by decide) (backOf (W := 0) (rm_fix l Z av0 hw [] (own_cpv (p3.toInt64)) (2 : Int32) (p0 &&& (3 : Int32)) h0 n0 (Nat.le_trans Z0 kp0.1) ) hZ (w_ hw 9 rfl) (w_ hw 2 rfl) (by decide) (by decide)) (g := (mkF m 127 #[.val (.int p0), .val (.long q1), .second, .val (.long q2), .second, .val (.int p3), .val (.int p4), .val (.int (p0 &&& (3 : Int32))), .val (.int (((p0.toUInt32 >>> ((2 : Int32) &&& 31).toUInt32).toInt32) &&& (3 : Int32))), .val (.int (own_fix (own_cpv q1) (0 : Int32) (p0 &&& (3 : Int32)))), .val (.int (own_fix (own_cpv ((q1.toUInt64 >>> ((21 : Int32) &&& 0x3f).toInt64.toUInt64).toInt64)) (1 : Int32) (p0 &&& (3 : Int32)))), .val (.int (own_cpv (p3.toInt64))), .val (.int (if (((((q2.toUInt64 >>> ((42 : Int32) &&& 0x3f).toInt64.toUInt64).toInt64) &&& (7 : Int64)).toInt32) &&& (1 : Int32)) = (0 : Int32) then (own_cpv q2) else (own_cpv q1))), .val (.int (if (((((q2.toUInt64 >>> ((42 : Int32) &&& 0x3f).toInt64.toUInt64).toInt64) &&& (7 : Int64)).toInt32) &&& (2 : Int32)) = (0 : Int32) then (own_cpv ((q2.toUInt64 >>> ((21 : Int32) &&& 0x3f).toInt64.toUInt64).toInt64)) else (own_cpv ((q1.toUInt64 >>> ((21 : Int32) &&& 0x3f).toInt64.toUInt64).toInt64)))), .val (.int (if (((((q2.toUInt64 >>> ((42 : Int32) &&& 0x3f).toInt64.toUInt64).toInt64) &&& (7 : Int64)).toInt32) &&& (4 : Int32)) = (0 : Int32) then (own_cpv (p4.toInt64)) else (own_cpv (p3.toInt64)))), .val (.int ((((q2.toUInt64 >>> ((42 : Int32) &&& 0x3f).toInt64.toUInt64).toInt64) &&& (7 : Int64)).toInt32)), .unset, .unset, .unset, .unset] [(.int (p0 &&& (3 : Int32))), (.int 2), (.int (own_cpv (p3.toInt64)))])) rfl (by rw [hml]; rfl) (argsL := [(.int (own_cpv (p3.toInt64))), (.int 2), (.int (p0 &&& (3 : Int32)))]) (rest := []) (lenOf pd_18 rfl) rfl (by show 2 * 0 + _ ≤ _; exact Nat.le_of_eq rfl) (hb hby at_127) (fun _ _ => ⟨rfl, he11, (by decide : 0 + 0 ≤ _), (by decide : 0 + 0 ≤ _)⟩)
     dsimp only [Pt.U, Pt.locs, Pt.cells, Pt.slots] at X12 l12 y12 z12 st12 hQ12
     subst l12 y12 z12
     obtain ⟨rfl, N12q, he12⟩ := hQ12
     have N12 := Fr.app N11 N12q
     refine OwnFin.st st12 ?_
     show OwnFin _ _ _ _ (T12.setTop (mkF m 130 _ [(.int (own_fix (own_cpv (p3.toInt64)) (2 : Int32) (p0 &&& (3 : Int32))))]))
     refine OwnFin.st (fun _ q => XS.istore X12.here hx rfl (hb hby at_130) rfl (l' := #[.val (.int p0), .val (.long q1), .second, .val (.long q2), .second, .val (.int p3), .val (.int p4), .val (.int (p0 &&& (3 : Int32))), .val (.int (((p0.toUInt32 >>> ((2 : Int32) &&& 31).toUInt32).toInt32) &&& (3 : Int32))), .val (.int (own_fix (own_cpv q1) (0 : Int32) (p0 &&& (3 : Int32)))), .val (.int (own_fix (own_cpv ((q1.toUInt64 >>> ((21 : Int32) &&& 0x3f).toInt64.toUInt64).toInt64)) (1 : Int32) (p0 &&& (3 : Int32)))), .val (.int (own_fix (own_cpv (p3.toInt64)) (2 : Int32) (p0 &&& (3 : Int32)))), .val (.int (if (((((q2.toUInt64 >>> ((42 : Int32) &&& 0x3f).toInt64.toUInt64).toInt64) &&& (7 : Int64)).toInt32) &&& (1 : Int32)) = (0 : Int32) then (own_cpv q2) else (own_cpv q1))), .val (.int (if (((((q2.toUInt64 >>> ((42 : Int32) &&& 0x3f).toInt64.toUInt64).toInt64) &&& (7 : Int64)).toInt32) &&& (2 : Int32)) = (0 : Int32) then (own_cpv ((q2.toUInt64 >>> ((21 : Int32) &&& 0x3f).toInt64.toUInt64).toInt64)) else (own_cpv ((q1.toUInt64 >>> ((21 : Int32) &&& 0x3f).toInt64.toUInt64).toInt64)))), .val (.int (if (((((q2.toUInt64 >>> ((42 : Int32) &&& 0x3f).toInt64.toUInt64).toInt64) &&& (7 : Int64)).toInt32) &&& (4 : Int32)) = (0 : Int32) then (own_cpv (p4.toInt64)) else (own_cpv (p3.toInt64)))), .val (.int ((((q2.toUInt64 >>> ((42 : Int32) &&& 0x3f).toInt64.toUInt64).toInt64) &&& (7 : Int64)).toInt32)), .unset, .unset, .unset, .unset]) rfl q) ?_
     show OwnFin _ _ _ _ (T12.setTop (mkF m 132 _ []))
     refine OwnFin.st (fun _ q => XS.iload X12.here hx rfl (hb hby at_132) rfl q) ?_
     show OwnFin _ _ _ _ (T12.setTop (mkF m 134 _ [(.int (if (((((q2.toUInt64 >>> ((42 : Int32) &&& 0x3f).toInt64.toUInt64).toInt64) &&& (7 : Int64)).toInt32) &&& (1 : Int32)) = (0 : Int32) then (own_cpv q2) else (own_cpv q1)))]))
     refine OwnFin.st (fun _ q => XS.iconst X12.here hx rfl (hb hby at_134) q) ?_
     show OwnFin _ _ _ _ (T12.setTop (mkF m 135 _ [(.int 0), (.int (if (((((q2.toUInt64 >>> ((42 : Int32) &&& 0x3f).toInt64.toUInt64).toInt64) &&& (7 : Int64)).toInt32) &&& (1 : Int32)) = (0 : Int32) then (own_cpv q2) else (own_cpv q1)))]))
     refine OwnFin.st (fun _ q => XS.iload X12.here hx rfl (hb hby at_135) rfl q) ?_
     show OwnFin _ _ _ _ (T12.setTop (mkF m 137 _ [(.int (((p0.toUInt32 >>> ((2 : Int32) &&& 31).toUInt32).toInt32) &&& (3 : Int32))), (.int 0), (.int (if (((((q2.toUInt64 >>> ((42 : Int32) &&& 0x3f).toInt64.toUInt64).toInt64) &&& (7 : Int64)).toInt32) &&& (1 : Int32)) = (0 : Int32) then (own_cpv q2) else (own_cpv q1)))]))
     obtain ⟨_, _, ⟨T13, L13, k13, n13⟩, -, X13, ⟨Lc13, hQ13, l13, y13, z13⟩, st13⟩ := Jvm.LawKit.callS X12 hx (y := yM28) hown (mvT hZ (w_ hw 7 rfl)) (mvT hZ (w_ hw 8 rfl)) (mvT hZ (w_ hw 2 rfl)) (mvT hZ (w_ hw 9 rfl)) (by decide) (backOf (W := 0) (rm_fix l Z av0 hw [] (if (((((q2.toUInt64 >>> ((42 : Int32) &&& 0x3f).toInt64.toUInt64).toInt64) &&& (7 : Int64)).toInt32) &&& (1 : Int32)) = (0 : Int32) then (own_cpv q2) else (own_cpv q1)) (0 : Int32) (((p0.toUInt32 >>> ((2 : Int32) &&& 31).toUInt32).toInt32) &&& (3 : Int32)) h0 n0 (Nat.le_trans Z0 kp0.1) ) hZ (w_ hw 9 rfl) (w_ hw 2 rfl) (by decide) (by decide)) (g := (mkF m 137 #[.val (.int p0), .val (.long q1), .second, .val (.long q2), .second, .val (.int p3), .val (.int p4), .val (.int (p0 &&& (3 : Int32))), .val (.int (((p0.toUInt32 >>> ((2 : Int32) &&& 31).toUInt32).toInt32) &&& (3 : Int32))), .val (.int (own_fix (own_cpv q1) (0 : Int32) (p0 &&& (3 : Int32)))), .val (.int (own_fix (own_cpv ((q1.toUInt64 >>> ((21 : Int32) &&& 0x3f).toInt64.toUInt64).toInt64)) (1 : Int32) (p0 &&& (3 : Int32)))), .val (.int (own_fix (own_cpv (p3.toInt64)) (2 : Int32) (p0 &&& (3 : Int32)))), .val (.int (if (((((q2.toUInt64 >>> ((42 : Int32) &&& 0x3f).toInt64.toUInt64).toInt64) &&& (7 : Int64)).toInt32) &&& (1 : Int32)) = (0 : Int32) then (own_cpv q2) else (own_cpv q1))), .val (.int (if (((((q2.toUInt64 >>> ((42 : Int32) &&& 0x3f).toInt64.toUInt64).toInt64) &&& (7 : Int64)).toInt32) &&& (2 : Int32)) = (0 : Int32) then (own_cpv ((q2.toUInt64 >>> ((21 : Int32) &&& 0x3f).toInt64.toUInt64).toInt64)) else (own_cpv ((q1.toUInt64 >>> ((21 : Int32) &&& 0x3f).toInt64.toUInt64).toInt64)))), .val (.int (if (((((q2.toUInt64 >>> ((42 : Int32) &&& 0x3f).toInt64.toUInt64).toInt64) &&& (7 : Int64)).toInt32) &&& (4 : Int32)) = (0 : Int32) then (own_cpv (p4.toInt64)) else (own_cpv (p3.toInt64)))), .val (.int ((((q2.toUInt64 >>> ((42 : Int32) &&& 0x3f).toInt64.toUInt64).toInt64) &&& (7 : Int64)).toInt32)), .unset, .unset, .unset, .unset] [(.int (((p0.toUInt32 >>> ((2 : Int32) &&& 31).toUInt32).toInt32) &&& (3 : Int32))), (.int 0), (.int (if (((((q2.toUInt64 >>> ((42 : Int32) &&& 0x3f).toInt64.toUInt64).toInt64) &&& (7 : Int64)).toInt32) &&& (1 : Int32)) = (0 : Int32) then (own_cpv q2) else (own_cpv q1)))])) rfl (by rw [hml]; rfl) (argsL := [(.int (if (((((q2.toUInt64 >>> ((42 : Int32) &&& 0x3f).toInt64.toUInt64).toInt64) &&& (7 : Int64)).toInt32) &&& (1 : Int32)) = (0 : Int32) then (own_cpv q2) else (own_cpv q1))), (.int 0), (.int (((p0.toUInt32 >>> ((2 : Int32) &&& 31).toUInt32).toInt32) &&& (3 : Int32)))]) (rest := []) (lenOf pd_18 rfl) rfl (by show 2 * 0 + _ ≤ _; exact Nat.le_of_eq rfl) (hb hby at_137) (fun _ _ => ⟨rfl, he12, (by decide : 0 + 0 ≤ _), (by decide : 0 + 0 ≤ _)⟩)
     dsimp only [Pt.U, Pt.locs, Pt.cells, Pt.slots] at X13 l13 y13 z13 st13 hQ13
     subst l13 y13 z13
     obtain ⟨rfl, N13q, he13⟩ := hQ13
     have N13 := Fr.app N12 N13q
     refine OwnFin.st st13 ?_
     show OwnFin _ _ _ _ (T13.setTop (mkF m 140 _ [(.int (own_fix (if (((((q2.toUInt64 >>> ((42 : Int32) &&& 0x3f).toInt64.toUInt64).toInt64) &&& (7 : Int64)).toInt32) &&& (1 : Int32)) = (0 : Int32) then (own_cpv q2) else (own_cpv q1)) (0 : Int32) (((p0.toUInt32 >>> ((2 : Int32) &&& 31).toUInt32).toInt32) &&& (3 : Int32))))]))
     refine OwnFin.st (fun _ q => XS.istore X13.here hx rfl (hb hby at_140) rfl (l' := #[.val (.int p0), .val (.long q1), .second, .val (.long q2), .second, .val (.int p3), .val (.int p4), .val (.int (p0 &&& (3 : Int32))), .val (.int (((p0.toUInt32 >>> ((2 : Int32) &&& 31).toUInt32).toInt32) &&& (3 : Int32))), .val (.int (own_fix (own_cpv q1) (0 : Int32) (p0 &&& (3 : Int32)))), .val (.int (own_fix (own_cpv ((q1.toUInt64 >>> ((21 : Int32) &&& 0x3f).toInt64.toUInt64).toInt64)) (1 : Int32) (p0 &&& (3 : Int32)))), .val (.int (own_fix (own_cpv (p3.toInt64)) (2 : Int32) (p0 &&& (3 : Int32)))), .val (.int (own_fix (if (((((q2.toUInt64 >>> ((42 : Int32) &&& 0x3f).toInt64.toUInt64).toInt64) &&& (7 : Int64)).toInt32) &&& (1 : Int32)) = (0 : Int32) then (own_cpv q2) else (own_cpv q1)) (0 : Int32) (((p0.toUInt32 >>> ((2 : Int32) &&& 31).toUInt32).toInt32) &&& (3 : Int32)))), .val (.int (if (((((q2.toUInt64 >>> ((42 : Int32) &&& 0x3f).toInt64.toUInt64).toInt64) &&& (7 : Int64)).toInt32) &&& (2 : Int32)) = (0 : Int32) then (own_cpv ((q2.toUInt64 >>> ((21 : Int32) &&& 0x3f).toInt64.toUInt64).toInt64)) else (own_cpv ((q1.toUInt64 >>> ((21 : Int32) &&& 0x3f).toInt64.toUInt64).toInt64)))), .val (.int (if (((((q2.toUInt64 >>> ((42 : Int32) &&& 0x3f).toInt64.toUInt64).toInt64) &&& (7 : Int64)).toInt32) &&& (4 : Int32)) = (0 : Int32) then (own_cpv (p4.toInt64)) else (own_cpv (p3.toInt64)))), .val (.int ((((q2.toUInt64 >>> ((42 : Int32) &&& 0x3f).toInt64.toUInt64).toInt64) &&& (7 : Int64)).toInt32)), .unset, .unset, .unset, .unset]) rfl q) ?_
     show OwnFin _ _ _ _ (T13.setTop (mkF m 142 _ []))
     refine OwnFin.st (fun _ q => XS.iload X13.here hx rfl (hb hby at_142) rfl q) ?_
     show OwnFin _ _ _ _ (T13.setTop (mkF m 144 _ [(.int (if (((((q2.toUInt64 >>> ((42 : Int32) &&& 0x3f).toInt64.toUInt64).toInt64) &&& (7 : Int64)).toInt32) &&& (2 : Int32)) = (0 : Int32) then (own_cpv ((q2.toUInt64 >>> ((21 : Int32) &&& 0x3f).toInt64.toUInt64).toInt64)) else (own_cpv ((q1.toUInt64 >>> ((21 : Int32) &&& 0x3f).toInt64.toUInt64).toInt64))))]))
     refine OwnFin.st (fun _ q => XS.iconst X13.here hx rfl (hb hby at_144) q) ?_
     show OwnFin _ _ _ _ (T13.setTop (mkF m 145 _ [(.int 1), (.int (if (((((q2.toUInt64 >>> ((42 : Int32) &&& 0x3f).toInt64.toUInt64).toInt64) &&& (7 : Int64)).toInt32) &&& (2 : Int32)) = (0 : Int32) then (own_cpv ((q2.toUInt64 >>> ((21 : Int32) &&& 0x3f).toInt64.toUInt64).toInt64)) else (own_cpv ((q1.toUInt64 >>> ((21 : Int32) &&& 0x3f).toInt64.toUInt64).toInt64))))]))
     refine OwnFin.st (fun _ q => XS.iload X13.here hx rfl (hb hby at_145) rfl q) ?_
     show OwnFin _ _ _ _ (T13.setTop (mkF m 147 _ [(.int (((p0.toUInt32 >>> ((2 : Int32) &&& 31).toUInt32).toInt32) &&& (3 : Int32))), (.int 1), (.int (if (((((q2.toUInt64 >>> ((42 : Int32) &&& 0x3f).toInt64.toUInt64).toInt64) &&& (7 : Int64)).toInt32) &&& (2 : Int32)) = (0 : Int32) then (own_cpv ((q2.toUInt64 >>> ((21 : Int32) &&& 0x3f).toInt64.toUInt64).toInt64)) else (own_cpv ((q1.toUInt64 >>> ((21 : Int32) &&& 0x3f).toInt64.toUInt64).toInt64))))]))
     obtain ⟨_, _, ⟨T14, L14, k14, n14⟩, -, X14, ⟨Lc14, hQ14, l14, y14, z14⟩, st14⟩ := Jvm.LawKit.callS X13 hx (y := yM28) hown (mvT hZ (w_ hw 7 rfl)) (mvT hZ (w_ hw 8 rfl)) (mvT hZ (w_ hw 2 rfl)) (mvT hZ (w_ hw 9 rfl)) (by decide) (backOf (W := 0) (rm_fix l Z av0 hw [] (if (((((q2.toUInt64 >>> ((42 : Int32) &&& 0x3f).toInt64.toUInt64).toInt64) &&& (7 : Int64)).toInt32) &&& (2 : Int32)) = (0 : Int32) then (own_cpv ((q2.toUInt64 >>> ((21 : Int32) &&& 0x3f).toInt64.toUInt64).toInt64)) else (own_cpv ((q1.toUInt64 >>> ((21 : Int32) &&& 0x3f).toInt64.toUInt64).toInt64))) (1 : Int32) (((p0.toUInt32 >>> ((2 : Int32) &&& 31).toUInt32).toInt32) &&& (3 : Int32)) h0 n0 (Nat.le_trans Z0 kp0.1) ) hZ (w_ hw 9 rfl) (w_ hw 2 rfl) (by decide) (by decide)) (g := (mkF m 147 #[.val (.int p0), .val (.long q1), .second, .val (.long q2), .second, .val (.int p3), .val (.int p4), .val (.int (p0 &&& (3 : Int32))), .val (.int (((p0.toUInt32 >>> ((2 : Int32) &&& 31).toUInt32).toInt32) &&& (3 : Int32))), .val (.int (own_fix (own_cpv q1) (0 : Int32) (p0 &&& (3 : Int32)))), .val (.int (own_fix (own_cpv ((q1.toUInt64 >>> ((21 : Int32) &&& 0x3f).toInt64.toUInt64).toInt64)) (1 : Int32) (p0 &&& (3 : Int32)))), .val (.int (own_fix (own_cpv (p3.toInt64)) (2 : Int32) (p0 &&& (3 : Int32)))), .val (.int (own_fix (if (((((q2.toUInt64 >>> ((42 : Int32) &&& 0x3f).toInt64.toUInt64).toInt64) &&& (7 : Int64)).toInt32) &&& (1 : Int32)) = (0 : Int32) then (own_cpv q2) else (own_cpv q1)) (0 : Int32) (((p0.toUInt32 >>> ((2 : Int32) &&& 31).toUInt32).toInt32) &&& (3 : Int32)))), .val (.int (if (((((q2.toUInt64 >>> ((42 : Int32) &&& 0x3f).toInt64.toUInt64).toInt64) &&& (7 : Int64)).toInt32) &&& (2 : Int32)) = (0 : Int32) then (own_cpv ((q2.toUInt64 >>> ((21 : Int32) &&& 0x3f).toInt64.toUInt64).toInt64)) else (own_cpv ((q1.toUInt64 >>> ((21 : Int32) &&& 0x3f).toInt64.toUInt64).toInt64)))), .val (.int (if (((((q2.toUInt64 >>> ((42 : Int32) &&& 0x3f).toInt64.toUInt64).toInt64) &&& (7 : Int64)).toInt32) &&& (4 : Int32)) = (0 : Int32) then (own_cpv (p4.toInt64)) else (own_cpv (p3.toInt64)))), .val (.int ((((q2.toUInt64 >>> ((42 : Int32) &&& 0x3f).toInt64.toUInt64).toInt64) &&& (7 : Int64)).toInt32)), .unset, .unset, .unset, .unset] [(.int (((p0.toUInt32 >>> ((2 : Int32) &&& 31).toUInt32).toInt32) &&& (3 : Int32))), (.int 1), (.int (if (((((q2.toUInt64 >>> ((42 : Int32) &&& 0x3f).toInt64.toUInt64).toInt64) &&& (7 : Int64)).toInt32) &&& (2 : Int32)) = (0 : Int32) then (own_cpv ((q2.toUInt64 >>> ((21 : Int32) &&& 0x3f).toInt64.toUInt64).toInt64)) else (own_cpv ((q1.toUInt64 >>> ((21 : Int32) &&& 0x3f).toInt64.toUInt64).toInt64))))])) rfl (by rw [hml]; rfl) (argsL := [(.int (if (((((q2.toUInt64 >>> ((42 : Int32) &&& 0x3f).toInt64.toUInt64).toInt64) &&& (7 : Int64)).toInt32) &&& (2 : Int32)) = (0 : Int32) then (own_cpv ((q2.toUInt64 >>> ((21 : Int32) &&& 0x3f).toInt64.toUInt64).toInt64)) else (own_cpv ((q1.toUInt64 >>> ((21 : Int32) &&& 0x3f).toInt64.toUInt64).toInt64)))), (.int 1), (.int (((p0.toUInt32 >>> ((2 : Int32) &&& 31).toUInt32).toInt32) &&& (3 : Int32)))]) (rest := []) (lenOf pd_18 rfl) rfl (by show 2 * 0 + _ ≤ _; exact Nat.le_of_eq rfl) (hb hby at_147) (fun _ _ => ⟨rfl, he13, (by decide : 0 + 0 ≤ _), (by decide : 0 + 0 ≤ _)⟩)
     dsimp only [Pt.U, Pt.locs, Pt.cells, Pt.slots] at X14 l14 y14 z14 st14 hQ14
     subst l14 y14 z14
     obtain ⟨rfl, N14q, he14⟩ := hQ14
     have N14 := Fr.app N13 N14q
     refine OwnFin.st st14 ?_
     show OwnFin _ _ _ _ (T14.setTop (mkF m 150 _ [(.int (own_fix (if (((((q2.toUInt64 >>> ((42 : Int32) &&& 0x3f).toInt64.toUInt64).toInt64) &&& (7 : Int64)).toInt32) &&& (2 : Int32)) = (0 : Int32) then (own_cpv ((q2.toUInt64 >>> ((21 : Int32) &&& 0x3f).toInt64.toUInt64).toInt64)) else (own_cpv ((q1.toUInt64 >>> ((21 : Int32) &&& 0x3f).toInt64.toUInt64).toInt64))) (1 : Int32) (((p0.toUInt32 >>> ((2 : Int32) &&& 31).toUInt32).toInt32) &&& (3 : Int32))))]))
     refine OwnFin.st (fun _ q => XS.istore X14.here hx rfl (hb hby at_150) rfl (l' := #[.val (.int p0), .val (.long q1), .second, .val (.long q2), .second, .val (.int p3), .val (.int p4), .val (.int (p0 &&& (3 : Int32))), .val (.int (((p0.toUInt32 >>> ((2 : Int32) &&& 31).toUInt32).toInt32) &&& (3 : Int32))), .val (.int (own_fix (own_cpv q1) (0 : Int32) (p0 &&& (3 : Int32)))), .val (.int (own_fix (own_cpv ((q1.toUInt64 >>> ((21 : Int32) &&& 0x3f).toInt64.toUInt64).toInt64)) (1 : Int32) (p0 &&& (3 : Int32)))), .val (.int (own_fix (own_cpv (p3.toInt64)) (2 : Int32) (p0 &&& (3 : Int32)))), .val (.int (own_fix (if (((((q2.toUInt64 >>> ((42 : Int32) &&& 0x3f).toInt64.toUInt64).toInt64) &&& (7 : Int64)).toInt32) &&& (1 : Int32)) = (0 : Int32) then (own_cpv q2) else (own_cpv q1)) (0 : Int32) (((p0.toUInt32 >>> ((2 : Int32) &&& 31).toUInt32).toInt32) &&& (3 : Int32)))), .val (.int (own_fix (if (((((q2.toUInt64 >>> ((42 : Int32) &&& 0x3f).toInt64.toUInt64).toInt64) &&& (7 : Int64)).toInt32) &&& (2 : Int32)) = (0 : Int32) then (own_cpv ((q2.toUInt64 >>> ((21 : Int32) &&& 0x3f).toInt64.toUInt64).toInt64)) else (own_cpv ((q1.toUInt64 >>> ((21 : Int32) &&& 0x3f).toInt64.toUInt64).toInt64))) (1 : Int32) (((p0.toUInt32 >>> ((2 : Int32) &&& 31).toUInt32).toInt32) &&& (3 : Int32)))), .val (.int (if (((((q2.toUInt64 >>> ((42 : Int32) &&& 0x3f).toInt64.toUInt64).toInt64) &&& (7 : Int64)).toInt32) &&& (4 : Int32)) = (0 : Int32) then (own_cpv (p4.toInt64)) else (own_cpv (p3.toInt64)))), .val (.int ((((q2.toUInt64 >>> ((42 : Int32) &&& 0x3f).toInt64.toUInt64).toInt64) &&& (7 : Int64)).toInt32)), .unset, .unset, .unset, .unset]) rfl q) ?_
     show OwnFin _ _ _ _ (T14.setTop (mkF m 152 _ []))
     refine OwnFin.st (fun _ q => XS.iload X14.here hx rfl (hb hby at_152) rfl q) ?_
     show OwnFin _ _ _ _ (T14.setTop (mkF m 154 #[.val (.int p0), .val (.long q1), .second, .val (.long q2), .second, .val (.int p3), .val (.int p4), .val (.int (p0 &&& (3 : Int32))), .val (.int (((p0.toUInt32 >>> ((2 : Int32) &&& 31).toUInt32).toInt32) &&& (3 : Int32))), .val (.int (own_fix (own_cpv q1) (0 : Int32) (p0 &&& (3 : Int32)))), .val (.int (own_fix (own_cpv ((q1.toUInt64 >>> ((21 : Int32) &&& 0x3f).toInt64.toUInt64).toInt64)) (1 : Int32) (p0 &&& (3 : Int32)))), .val (.int (own_fix (own_cpv (p3.toInt64)) (2 : Int32) (p0 &&& (3 : Int32)))), .val (.int (own_fix (if (((((q2.toUInt64 >>> ((42 : Int32) &&& 0x3f).toInt64.toUInt64).toInt64) &&& (7 : Int64)).toInt32) &&& (1 : Int32)) = (0 : Int32) then (own_cpv q2) else (own_cpv q1)) (0 : Int32) (((p0.toUInt32 >>> ((2 : Int32) &&& 31).toUInt32).toInt32) &&& (3 : Int32)))), .val (.int (own_fix (if (((((q2.toUInt64 >>> ((42 : Int32) &&& 0x3f).toInt64.toUInt64).toInt64) &&& (7 : Int64)).toInt32) &&& (2 : Int32)) = (0 : Int32) then (own_cpv ((q2.toUInt64 >>> ((21 : Int32) &&& 0x3f).toInt64.toUInt64).toInt64)) else (own_cpv ((q1.toUInt64 >>> ((21 : Int32) &&& 0x3f).toInt64.toUInt64).toInt64))) (1 : Int32) (((p0.toUInt32 >>> ((2 : Int32) &&& 31).toUInt32).toInt32) &&& (3 : Int32)))), .val (.int (if (((((q2.toUInt64 >>> ((42 : Int32) &&& 0x3f).toInt64.toUInt64).toInt64) &&& (7 : Int64)).toInt32) &&& (4 : Int32)) = (0 : Int32) then (own_cpv (p4.toInt64)) else (own_cpv (p3.toInt64)))), .val (.int ((((q2.toUInt64 >>> ((42 : Int32) &&& 0x3f).toInt64.toUInt64).toInt64) &&& (7 : Int64)).toInt32)), .unset, .unset, .unset, .unset] [(.int (if (((((q2.toUInt64 >>> ((42 : Int32) &&& 0x3f).toInt64.toUInt64).toInt64) &&& (7 : Int64)).toInt32) &&& (4 : Int32)) = (0 : Int32) then (own_cpv (p4.toInt64)) else (own_cpv (p3.toInt64))))]))
     refine OwnFin.st (fun _ q => XS.iconst X14.here hx rfl (hb hby at_154) q) ?_
     show OwnFin _ _ _ _ (T14.setTop (mkF m 155 _ [(.int 2), (.int (if (((((q2.toUInt64 >>> ((42 : Int32) &&& 0x3f).toInt64.toUInt64).toInt64) &&& (7 : Int64)).toInt32) &&& (4 : Int32)) = (0 : Int32) then (own_cpv (p4.toInt64)) else (own_cpv (p3.toInt64))))]))
     refine OwnFin.st (fun _ q => XS.iload X14.here hx rfl (hb hby at_155) rfl q) ?_
     show OwnFin _ _ _ _ (T14.setTop (mkF m 157 _ [(.int (((p0.toUInt32 >>> ((2 : Int32) &&& 31).toUInt32).toInt32) &&& (3 : Int32))), (.int 2), (.int (if (((((q2.toUInt64 >>> ((42 : Int32) &&& 0x3f).toInt64.toUInt64).toInt64) &&& (7 : Int64)).toInt32) &&& (4 : Int32)) = (0 : Int32) then (own_cpv (p4.toInt64)) else (own_cpv (p3.toInt64))))]))
     obtain ⟨_, _, ⟨T15, L15, k15, n15⟩, -, X15, ⟨Lc15, hQ15, l15, y15, z15⟩, st15⟩ := Jvm.LawKit.callS X14 hx (y := yM28) hown (mvT hZ (w_ hw 7 rfl)) (mvT hZ (w_ hw 8 rfl)) (mvT hZ (w_ hw 2 rfl)) (mvT hZ (w_ hw 9 rfl)) (by decide) (backOf (W := 0) (rm_fix l Z av0 hw [] (if (((((q2.toUInt64 >>> ((42 : Int32) &&& 0x3f).toInt64.toUInt64).toInt64) &&& (7 : Int64)).toInt32) &&& (4 : Int32)) = (0 : Int32) then (own_cpv (p4.toInt64)) else (own_cpv (p3.toInt64))) (2 : Int32) (((p0.toUInt32 >>> ((2 : Int32) &&& 31).toUInt32).toInt32) &&& (3 : Int32)) h0 n0 (Nat.le_trans Z0 kp0.1) ) hZ (w_ hw 9 rfl) (w_ hw 2 rfl) (by decide) (by decide)) (g := (mkF m 157 #[.val (.int p0), .val (.long q1), .second, .val (.long q2), .second, .val (.int p3), .val (.int p4), .val (.int (p0 &&& (3 : Int32))), .val (.int (((p0.toUInt32 >>> ((2 : Int32) &&& 31).toUInt32).toInt32) &&& (3 : Int32))), .val (.int (own_fix (own_cpv q1) (0 : Int32) (p0 &&& (3 : Int32)))), .val (.int (own_fix (own_cpv ((q1.toUInt64 >>> ((21 : Int32) &&& 0x3f).toInt64.toUInt64).toInt64)) (1 : Int32) (p0 &&& (3 : Int32)))), .val (.int (own_fix (own_cpv (p3.toInt64)) (2 : Int32) (p0 &&& (3 : Int32)))), .val (.int (own_fix (if (((((q2.toUInt64 >>> ((42 : Int32) &&& 0x3f).toInt64.toUInt64).toInt64) &&& (7 : Int64)).toInt32) &&& (1 : Int32)) = (0 : Int32) then (own_cpv q2) else (own_cpv q1)) (0 : Int32) (((p0.toUInt32 >>> ((2 : Int32) &&& 31).toUInt32).toInt32) &&& (3 : Int32)))), .val (.int (own_fix (if (((((q2.toUInt64 >>> ((42 : Int32) &&& 0x3f).toInt64.toUInt64).toInt64) &&& (7 : Int64)).toInt32) &&& (2 : Int32)) = (0 : Int32) then (own_cpv ((q2.toUInt64 >>> ((21 : Int32) &&& 0x3f).toInt64.toUInt64).toInt64)) else (own_cpv ((q1.toUInt64 >>> ((21 : Int32) &&& 0x3f).toInt64.toUInt64).toInt64))) (1 : Int32) (((p0.toUInt32 >>> ((2 : Int32) &&& 31).toUInt32).toInt32) &&& (3 : Int32)))), .val (.int (if (((((q2.toUInt64 >>> ((42 : Int32) &&& 0x3f).toInt64.toUInt64).toInt64) &&& (7 : Int64)).toInt32) &&& (4 : Int32)) = (0 : Int32) then (own_cpv (p4.toInt64)) else (own_cpv (p3.toInt64)))), .val (.int ((((q2.toUInt64 >>> ((42 : Int32) &&& 0x3f).toInt64.toUInt64).toInt64) &&& (7 : Int64)).toInt32)), .unset, .unset, .unset, .unset] [(.int (((p0.toUInt32 >>> ((2 : Int32) &&& 31).toUInt32).toInt32) &&& (3 : Int32))), (.int 2), (.int (if (((((q2.toUInt64 >>> ((42 : Int32) &&& 0x3f).toInt64.toUInt64).toInt64) &&& (7 : Int64)).toInt32) &&& (4 : Int32)) = (0 : Int32) then (own_cpv (p4.toInt64)) else (own_cpv (p3.toInt64))))])) rfl (by rw [hml]; rfl) (argsL := [(.int (if (((((q2.toUInt64 >>> ((42 : Int32) &&& 0x3f).toInt64.toUInt64).toInt64) &&& (7 : Int64)).toInt32) &&& (4 : Int32)) = (0 : Int32) then (own_cpv (p4.toInt64)) else (own_cpv (p3.toInt64)))), (.int 2), (.int (((p0.toUInt32 >>> ((2 : Int32) &&& 31).toUInt32).toInt32) &&& (3 : Int32)))]) (rest := []) (lenOf pd_18 rfl) rfl (by show 2 * 0 + _ ≤ _; exact Nat.le_of_eq rfl) (hb hby at_157) (fun _ _ => ⟨rfl, he14, (by decide : 0 + 0 ≤ _), (by decide : 0 + 0 ≤ _)⟩)
     dsimp only [Pt.U, Pt.locs, Pt.cells, Pt.slots] at X15 l15 y15 z15 st15 hQ15
     subst l15 y15 z15
     obtain ⟨rfl, N15q, he15⟩ := hQ15
     have N15 := Fr.app N14 N15q
     refine OwnFin.st st15 ?_
     show OwnFin _ _ _ _ (T15.setTop (mkF m 160 _ [(.int (own_fix (if (((((q2.toUInt64 >>> ((42 : Int32) &&& 0x3f).toInt64.toUInt64).toInt64) &&& (7 : Int64)).toInt32) &&& (4 : Int32)) = (0 : Int32) then (own_cpv (p4.toInt64)) else (own_cpv (p3.toInt64))) (2 : Int32) (((p0.toUInt32 >>> ((2 : Int32) &&& 31).toUInt32).toInt32) &&& (3 : Int32))))]))
     refine OwnFin.st (fun _ q => XS.istore X15.here hx rfl (hb hby at_160) rfl (l' := #[.val (.int p0), .val (.long q1), .second, .val (.long q2), .second, .val (.int p3), .val (.int p4), .val (.int (p0 &&& (3 : Int32))), .val (.int (((p0.toUInt32 >>> ((2 : Int32) &&& 31).toUInt32).toInt32) &&& (3 : Int32))), .val (.int (own_fix (own_cpv q1) (0 : Int32) (p0 &&& (3 : Int32)))), .val (.int (own_fix (own_cpv ((q1.toUInt64 >>> ((21 : Int32) &&& 0x3f).toInt64.toUInt64).toInt64)) (1 : Int32) (p0 &&& (3 : Int32)))), .val (.int (own_fix (own_cpv (p3.toInt64)) (2 : Int32) (p0 &&& (3 : Int32)))), .val (.int (own_fix (if (((((q2.toUInt64 >>> ((42 : Int32) &&& 0x3f).toInt64.toUInt64).toInt64) &&& (7 : Int64)).toInt32) &&& (1 : Int32)) = (0 : Int32) then (own_cpv q2) else (own_cpv q1)) (0 : Int32) (((p0.toUInt32 >>> ((2 : Int32) &&& 31).toUInt32).toInt32) &&& (3 : Int32)))), .val (.int (own_fix (if (((((q2.toUInt64 >>> ((42 : Int32) &&& 0x3f).toInt64.toUInt64).toInt64) &&& (7 : Int64)).toInt32) &&& (2 : Int32)) = (0 : Int32) then (own_cpv ((q2.toUInt64 >>> ((21 : Int32) &&& 0x3f).toInt64.toUInt64).toInt64)) else (own_cpv ((q1.toUInt64 >>> ((21 : Int32) &&& 0x3f).toInt64.toUInt64).toInt64))) (1 : Int32) (((p0.toUInt32 >>> ((2 : Int32) &&& 31).toUInt32).toInt32) &&& (3 : Int32)))), .val (.int (own_fix (if (((((q2.toUInt64 >>> ((42 : Int32) &&& 0x3f).toInt64.toUInt64).toInt64) &&& (7 : Int64)).toInt32) &&& (4 : Int32)) = (0 : Int32) then (own_cpv (p4.toInt64)) else (own_cpv (p3.toInt64))) (2 : Int32) (((p0.toUInt32 >>> ((2 : Int32) &&& 31).toUInt32).toInt32) &&& (3 : Int32)))), .val (.int ((((q2.toUInt64 >>> ((42 : Int32) &&& 0x3f).toInt64.toUInt64).toInt64) &&& (7 : Int64)).toInt32)), .unset, .unset, .unset, .unset]) rfl q) ?_
     show OwnFin _ _ _ _ (T15.setTop (mkF m 162 _ []))
     refine OwnFin.st (fun _ q => XS.iload X15.here hx rfl (hb hby at_162) rfl q) ?_
     show OwnFin _ _ _ _ (T15.setTop (mkF m 164 _ [(.int (p0 &&& (3 : Int32)))]))
     refine OwnFin.st (fun _ q => XS.iload X15.here hx rfl (hb hby at_164) rfl q) ?_
     show OwnFin _ _ _ _ (T15.setTop (mkF m 166 _ [(.int (own_fix (own_cpv q1) (0 : Int32) (p0 &&& (3 : Int32)))), (.int (p0 &&& (3 : Int32)))]))
     refine OwnFin.st (fun _ q => XS.iload X15.here hx rfl (hb hby at_166) rfl q) ?_
     show OwnFin _ _ _ _ (T15.setTop (mkF m 168 _ [(.int (own_fix (own_cpv ((q1.toUInt64 >>> ((21 : Int32) &&& 0x3f).toInt64.toUInt64).toInt64)) (1 : Int32) (p0 &&& (3 : Int32)))), (.int (own_fix (own_cpv q1) (0 : Int32) (p0 &&& (3 : Int32)))), (.int (p0 &&& (3 : Int32)))]))
     refine OwnFin.st (fun _ q => XS.iload X15.here hx rfl (hb hby at_168) rfl q) ?_
     show OwnFin _ _ _ _ (T15.setTop (mkF m 170 _ [(.int (own_fix (own_cpv (p3.toInt64)) (2 : Int32) (p0 &&& (3 : Int32)))), (.int (own_fix (own_cpv ((q1.toUInt64 >>> ((21 : Int32) &&& 0x3f).toInt64.toUInt64).toInt64)) (1 : Int32) (p0 &&& (3 : Int32)))), (.int (own_fix (own_cpv q1) (0 : Int32) (p0 &&& (3 : Int32)))), (.int (p0 &&& (3 : Int32)))]))
     obtain ⟨_, _, ⟨T16, L16, k16, n16⟩, -, X16, hS16, hg16, ⟨Lc16, hQ16, l16, y16, z16, hC16⟩, st16⟩ := callSS X15 hx (y := yM26) hown (mvT hZ (w_ hw 10 rfl)) (mvT hZ (w_ hw 11 rfl)) (mvT hZ (w_ hw 2 rfl)) (mvT hZ (w_ hw 12 rfl)) (by decide) (backOfSH (W := 0) (rm_build l Z av0 hw [] (p0 &&& (3 : Int32)) (own_fix (own_cpv q1) (0 : Int32) (p0 &&& (3 : Int32))) (own_fix (own_cpv ((q1.toUInt64 >>> ((21 : Int32) &&& 0x3f).toInt64.toUInt64).toInt64)) (1 : Int32) (p0 &&& (3 : Int32))) (own_fix (own_cpv (p3.toInt64)) (2 : Int32) (p0 &&& (3 : Int32))) w_COMPACT_STRINGS h0 n0 (Nat.le_trans Z0 kp0.1) Ol0 hcs S_COMPACT_STRINGS S__assertionsDisabled S_HI_BYTE_SHIFT S_LO_BYTE_SHIFT) hZ (w_ hw 12 rfl) (w_ hw 2 rfl) (by decide) (by decide) (own_EW hw) ch0.1) (g := (mkF m 170 #[.val (.int p0), .val (.long q1), .second, .val (.long q2), .second, .val (.int p3), .val (.int p4), .val (.int (p0 &&& (3 : Int32))), .val (.int (((p0.toUInt32 >>> ((2 : Int32) &&& 31).toUInt32).toInt32) &&& (3 : Int32))), .val (.int (own_fix (own_cpv q1) (0 : Int32) (p0 &&& (3 : Int32)))), .val (.int (own_fix (own_cpv ((q1.toUInt64 >>> ((21 : Int32) &&& 0x3f).toInt64.toUInt64).toInt64)) (1 : Int32) (p0 &&& (3 : Int32)))), .val (.int (own_fix (own_cpv (p3.toInt64)) (2 : Int32) (p0 &&& (3 : Int32)))), .val (.int (own_fix (if (((((q2.toUInt64 >>> ((42 : Int32) &&& 0x3f).toInt64.toUInt64).toInt64) &&& (7 : Int64)).toInt32) &&& (1 : Int32)) = (0 : Int32) then (own_cpv q2) else (own_cpv q1)) (0 : Int32) (((p0.toUInt32 >>> ((2 : Int32) &&& 31).toUInt32).toInt32) &&& (3 : Int32)))), .val (.int (own_fix (if (((((q2.toUInt64 >>> ((42 : Int32) &&& 0x3f).toInt64.toUInt64).toInt64) &&& (7 : Int64)).toInt32) &&& (2 : Int32)) = (0 : Int32) then (own_cpv ((q2.toUInt64 >>> ((21 : Int32) &&& 0x3f).toInt64.toUInt64).toInt64)) else (own_cpv ((q1.toUInt64 >>> ((21 : Int32) &&& 0x3f).toInt64.toUInt64).toInt64))) (1 : Int32) (((p0.toUInt32 >>> ((2 : Int32) &&& 31).toUInt32).toInt32) &&& (3 : Int32)))), .val (.int (own_fix (if (((((q2.toUInt64 >>> ((42 : Int32) &&& 0x3f).toInt64.toUInt64).toInt64) &&& (7 : Int64)).toInt32) &&& (4 : Int32)) = (0 : Int32) then (own_cpv (p4.toInt64)) else (own_cpv (p3.toInt64))) (2 : Int32) (((p0.toUInt32 >>> ((2 : Int32) &&& 31).toUInt32).toInt32) &&& (3 : Int32)))), .val (.int ((((q2.toUInt64 >>> ((42 : Int32) &&& 0x3f).toInt64.toUInt64).toInt64) &&& (7 : Int64)).toInt32)), .unset, .unset, .unset, .unset] [(.int (own_fix (own_cpv (p3.toInt64)) (2 : Int32) (p0 &&& (3 : Int32)))), (.int (own_fix (own_cpv ((q1.toUInt64 >>> ((21 : Int32) &&& 0x3f).toInt64.toUInt64).toInt64)) (1 : Int32) (p0 &&& (3 : Int32)))), (.int (own_fix (own_cpv q1) (0 : Int32) (p0 &&& (3 : Int32)))), (.int (p0 &&& (3 : Int32)))])) rfl (by rw [hml]; rfl) (argsL := [(.int (p0 &&& (3 : Int32))), (.int (own_fix (own_cpv q1) (0 : Int32) (p0 &&& (3 : Int32)))), (.int (own_fix (own_cpv ((q1.toUInt64 >>> ((21 : Int32) &&& 0x3f).toInt64.toUInt64).toInt64)) (1 : Int32) (p0 &&& (3 : Int32)))), (.int (own_fix (own_cpv (p3.toInt64)) (2 : Int32) (p0 &&& (3 : Int32))))]) (rest := []) (lenOf pd_22 rfl) rfl (by show 2 * 0 + _ ≤ _; exact Nat.le_of_eq rfl) (hb hby at_170) (fun _ _ => ⟨rfl, he15, (by decide : 0 + 6 ≤ _), (by decide : 0 + 28 ≤ _)⟩)
     dsimp only [Pt.U, Pt.locs, Pt.cells, Pt.slots] at X16 l16 y16 z16 st16 hQ16 hS16 hg16 hC16
     subst l16 y16 z16
     obtain ⟨c16_0, c16_1, kc16_2, rfl, N16q, K16, r16_0, r16_1, r16_2, r16_3, r16_4⟩ := hQ16
     have N16 := Fr.app N15 N16q
     refine OwnFin.tr st16 ?_
     rw [he15] at hg16
     obtain ⟨h16, e16⟩ : ∃ z, T16.heap = z := ⟨_, rfl⟩
     rw [e16] at K16 r16_1 r16_2 r16_3 r16_4 hg16 hS16 hC16
     have bi_c16_0 : h0.size ≤ c16_0 := r16_0
     have lo_c16_0 : h0.size ≤ c16_0 := Nat.le_trans kp0.1 bi_c16_0
     have g_c16_0 : n0 ≤ c16_0 := Nat.le_trans Z0 lo_c16_0
     have ch17 := ch0.trans (hC16)
     have kp17 : Keep h0 h16 [] := kp0.trans K16 all0
     have ol17 : Old Z n0 h16 := Ol0.keep K16 all0
     obtain ⟨Xr16, hSr16, hZr16, hor16⟩ := rebS hS0 (Nat.le_trans hk0 (Nat.le_refl _)) X16 hS16 hg16 hZ hown
     show OwnFin _ _ _ _ (T16.setTop (mkF m 173 _ [(.ref c16_0)]))
     refine OwnFin.st (fun _ q => XS.astore Xr16.here hx rfl (hb hby at_173) rfl rfl (l' := #[.val (.int p0), .val (.long q1), .second, .val (.long q2), .second, .val (.int p3), .val (.int p4), .val (.int (p0 &&& (3 : Int32))), .val (.int (((p0.toUInt32 >>> ((2 : Int32) &&& 31).toUInt32).toInt32) &&& (3 : Int32))), .val (.int (own_fix (own_cpv q1) (0 : Int32) (p0 &&& (3 : Int32)))), .val (.int (own_fix (own_cpv ((q1.toUInt64 >>> ((21 : Int32) &&& 0x3f).toInt64.toUInt64).toInt64)) (1 : Int32) (p0 &&& (3 : Int32)))), .val (.int (own_fix (own_cpv (p3.toInt64)) (2 : Int32) (p0 &&& (3 : Int32)))), .val (.int (own_fix (if (((((q2.toUInt64 >>> ((42 : Int32) &&& 0x3f).toInt64.toUInt64).toInt64) &&& (7 : Int64)).toInt32) &&& (1 : Int32)) = (0 : Int32) then (own_cpv q2) else (own_cpv q1)) (0 : Int32) (((p0.toUInt32 >>> ((2 : Int32) &&& 31).toUInt32).toInt32) &&& (3 : Int32)))), .val (.int (own_fix (if (((((q2.toUInt64 >>> ((42 : Int32) &&& 0x3f).toInt64.toUInt64).toInt64) &&& (7 : Int64)).toInt32) &&& (2 : Int32)) = (0 : Int32) then (own_cpv ((q2.toUInt64 >>> ((21 : Int32) &&& 0x3f).toInt64.toUInt64).toInt64)) else (own_cpv ((q1.toUInt64 >>> ((21 : Int32) &&& 0x3f).toInt64.toUInt64).toInt64))) (1 : Int32) (((p0.toUInt32 >>> ((2 : Int32) &&& 31).toUInt32).toInt32) &&& (3 : Int32)))), .val (.int (own_fix (if (((((q2.toUInt64 >>> ((42 : Int32) &&& 0x3f).toInt64.toUInt64).toInt64) &&& (7 : Int64)).toInt32) &&& (4 : Int32)) = (0 : Int32) then (own_cpv (p4.toInt64)) else (own_cpv (p3.toInt64))) (2 : Int32) (((p0.toUInt32 >>> ((2 : Int32) &&& 31).toUInt32).toInt32) &&& (3 : Int32)))), .val (.int ((((q2.toUInt64 >>> ((42 : Int32) &&& 0x3f).toInt64.toUInt64).toInt64) &&& (7 : Int64)).toInt32)), .val (.ref c16_0), .unset, .unset, .unset]) rfl q) ?_
     show OwnFin _ _ _ _ (T16.setTop (mkF m 175 _ []))
     refine OwnFin.st (fun _ q => XS.iload Xr16.here hx rfl (hb hby at_175) rfl q) ?_
     show OwnFin _ _ _ _ (T16.setTop (mkF m 177 _ [(.int (((p0.toUInt32 >>> ((2 : Int32) &&& 31).toUInt32).toInt32) &&& (3 : Int32)))]))
     refine OwnFin.st (fun _ q => XS.iload Xr16.here hx rfl (hb hby at_177) rfl q) ?_
     show OwnFin _ _ _ _ (T16.setTop (mkF m 179 _ [(.int (own_fix (if (((((q2.toUInt64 >>> ((42 : Int32) &&& 0x3f).toInt64.toUInt64).toInt64) &&& (7 : Int64)).toInt32) &&& (1 : Int32)) = (0 : Int32) then (own_cpv q2) else (own_cpv q1)) (0 : Int32) (((p0.toUInt32 >>> ((2 : Int32) &&& 31).toUInt32).toInt32) &&& (3 : Int32)))), (.int (((p0.toUInt32 >>> ((2 : Int32) &&& 31).toUInt32).toInt32) &&& (3 : Int32)))]))
     refine OwnFin.st (fun _ q => XS.iload Xr16.here hx rfl (hb hby at_179) rfl q) ?_
     show OwnFin _ _ _ _ (T16.setTop (mkF m 181 #[.val (.int p0), .val (.long q1), .second, .val (.long q2), .second, .val (.int p3), .val (.int p4), .val (.int (p0 &&& (3 : Int32))), .val (.int (((p0.toUInt32 >>> ((2 : Int32) &&& 31).toUInt32).toInt32) &&& (3 : Int32))), .val (.int (own_fix (own_cpv q1) (0 : Int32) (p0 &&& (3 : Int32)))), .val (.int (own_fix (own_cpv ((q1.toUInt64 >>> ((21 : Int32) &&& 0x3f).toInt64.toUInt64).toInt64)) (1 : Int32) (p0 &&& (3 : Int32)))), .val (.int (own_fix (own_cpv (p3.toInt64)) (2 : Int32) (p0 &&& (3 : Int32)))), .val (.int (own_fix (if (((((q2.toUInt64 >>> ((42 : Int32) &&& 0x3f).toInt64.toUInt64).toInt64) &&& (7 : Int64)).toInt32) &&& (1 : Int32)) = (0 : Int32) then (own_cpv q2) else (own_cpv q1)) (0 : Int32) (((p0.toUInt32 >>> ((2 : Int32) &&& 31).toUInt32).toInt32) &&& (3 : Int32)))), .val (.int (own_fix (if (((((q2.toUInt64 >>> ((42 : Int32) &&& 0x3f).toInt64.toUInt64).toInt64) &&& (7 : Int64)).toInt32) &&& (2 : Int32)) = (0 : Int32) then (own_cpv ((q2.toUInt64 >>> ((21 : Int32) &&& 0x3f).toInt64.toUInt64).toInt64)) else (own_cpv ((q1.toUInt64 >>> ((21 : Int32) &&& 0x3f).toInt64.toUInt64).toInt64))) (1 : Int32) (((p0.toUInt32 >>> ((2 : Int32) &&& 31).toUInt32).toInt32) &&& (3 : Int32)))), .val (.int (own_fix (if (((((q2.toUInt64 >>> ((42 : Int32) &&& 0x3f).toInt64.toUInt64).toInt64) &&& (7 : Int64)).toInt32) &&& (4 : Int32)) = (0 : Int32) then (own_cpv (p4.toInt64)) else (own_cpv (p3.toInt64))) (2 : Int32) (((p0.toUInt32 >>> ((2 : Int32) &&& 31).toUInt32).toInt32) &&& (3 : Int32)))), .val (.int ((((q2.toUInt64 >>> ((42 : Int32) &&& 0x3f).toInt64.toUInt64).toInt64) &&& (7 : Int64)).toInt32)), .val (.ref c16_0), .unset, .unset, .unset] [(.int (own_fix (if (((((q2.toUInt64 >>> ((42 : Int32) &&& 0x3f).toInt64.toUInt64).toInt64) &&& (7 : Int64)).toInt32) &&& (2 : Int32)) = (0 : Int32) then (own_cpv ((q2.toUInt64 >>> ((21 : Int32) &&& 0x3f).toInt64.toUInt64).toInt64)) else (own_cpv ((q1.toUInt64 >>> ((21 : Int32) &&& 0x3f).toInt64.toUInt64).toInt64))) (1 : Int32) (((p0.toUInt32 >>> ((2 : Int32) &&& 31).toUInt32).toInt32) &&& (3 : Int32)))), (.int (own_fix (if (((((q2.toUInt64 >>> ((42 : Int32) &&& 0x3f).toInt64.toUInt64).toInt64) &&& (7 : Int64)).toInt32) &&& (1 : Int32)) = (0 : Int32) then (own_cpv q2) else (own_cpv q1)) (0 : Int32) (((p0.toUInt32 >>> ((2 : Int32) &&& 31).toUInt32).toInt32) &&& (3 : Int32)))), (.int (((p0.toUInt32 >>> ((2 : Int32) &&& 31).toUInt32).toInt32) &&& (3 : Int32)))]))
     refine OwnFin.st (fun _ q => XS.iload Xr16.here hx rfl (hb hby at_181) rfl q) ?_
     show OwnFin _ _ _ _ (T16.setTop (mkF m 183 _ [(.int (own_fix (if (((((q2.toUInt64 >>> ((42 : Int32) &&& 0x3f).toInt64.toUInt64).toInt64) &&& (7 : Int64)).toInt32) &&& (4 : Int32)) = (0 : Int32) then (own_cpv (p4.toInt64)) else (own_cpv (p3.toInt64))) (2 : Int32) (((p0.toUInt32 >>> ((2 : Int32) &&& 31).toUInt32).toInt32) &&& (3 : Int32)))), (.int (own_fix (if (((((q2.toUInt64 >>> ((42 : Int32) &&& 0x3f).toInt64.toUInt64).toInt64) &&& (7 : Int64)).toInt32) &&& (2 : Int32)) = (0 : Int32) then (own_cpv ((q2.toUInt64 >>> ((21 : Int32) &&& 0x3f).toInt64.toUInt64).toInt64)) else (own_cpv ((q1.toUInt64 >>> ((21 : Int32) &&& 0x3f).toInt64.toUInt64).toInt64))) (1 : Int32) (((p0.toUInt32 >>> ((2 : Int32) &&& 31).toUInt32).toInt32) &&& (3 : Int32)))), (.int (own_fix (if (((((q2.toUInt64 >>> ((42 : Int32) &&& 0x3f).toInt64.toUInt64).toInt64) &&& (7 : Int64)).toInt32) &&& (1 : Int32)) = (0 : Int32) then (own_cpv q2) else (own_cpv q1)) (0 : Int32) (((p0.toUInt32 >>> ((2 : Int32) &&& 31).toUInt32).toInt32) &&& (3 : Int32)))), (.int (((p0.toUInt32 >>> ((2 : Int32) &&& 31).toUInt32).toInt32) &&& (3 : Int32)))]))
     obtain ⟨_, _, ⟨T18, L18, k18, n18⟩, -, X18, hS18, hg18, ⟨Lc18, hQ18, l18, y18, z18, hC18⟩, st18⟩ := callSS Xr16 hx (y := yM26) hor16 (mvT hZr16 (w_ hw 10 rfl)) (mvT hZr16 (w_ hw 11 rfl)) (mvT hZr16 (w_ hw 2 rfl)) (mvT hZr16 (w_ hw 12 rfl)) (by decide) (backOfSH (W := 0) (rm_build l Z av0 hw [] (((p0.toUInt32 >>> ((2 : Int32) &&& 31).toUInt32).toInt32) &&& (3 : Int32)) (own_fix (if (((((q2.toUInt64 >>> ((42 : Int32) &&& 0x3f).toInt64.toUInt64).toInt64) &&& (7 : Int64)).toInt32) &&& (1 : Int32)) = (0 : Int32) then (own_cpv q2) else (own_cpv q1)) (0 : Int32) (((p0.toUInt32 >>> ((2 : Int32) &&& 31).toUInt32).toInt32) &&& (3 : Int32))) (own_fix (if (((((q2.toUInt64 >>> ((42 : Int32) &&& 0x3f).toInt64.toUInt64).toInt64) &&& (7 : Int64)).toInt32) &&& (2 : Int32)) = (0 : Int32) then (own_cpv ((q2.toUInt64 >>> ((21 : Int32) &&& 0x3f).toInt64.toUInt64).toInt64)) else (own_cpv ((q1.toUInt64 >>> ((21 : Int32) &&& 0x3f).toInt64.toUInt64).toInt64))) (1 : Int32) (((p0.toUInt32 >>> ((2 : Int32) &&& 31).toUInt32).toInt32) &&& (3 : Int32))) (own_fix (if (((((q2.toUInt64 >>> ((42 : Int32) &&& 0x3f).toInt64.toUInt64).toInt64) &&& (7 : Int64)).toInt32) &&& (4 : Int32)) = (0 : Int32) then (own_cpv (p4.toInt64)) else (own_cpv (p3.toInt64))) (2 : Int32) (((p0.toUInt32 >>> ((2 : Int32) &&& 31).toUInt32).toInt32) &&& (3 : Int32))) w_COMPACT_STRINGS h16 n0 (Nat.le_trans Z0 kp17.1) ol17 hcs S_COMPACT_STRINGS S__assertionsDisabled S_HI_BYTE_SHIFT S_LO_BYTE_SHIFT) hZr16 (w_ hw 12 rfl) (w_ hw 2 rfl) (by decide) (by decide) (own_EW hw) ch17.1) (g := (mkF m 183 #[.val (.int p0), .val (.long q1), .second, .val (.long q2), .second, .val (.int p3), .val (.int p4), .val (.int (p0 &&& (3 : Int32))), .val (.int (((p0.toUInt32 >>> ((2 : Int32) &&& 31).toUInt32).toInt32) &&& (3 : Int32))), .val (.int (own_fix (own_cpv q1) (0 : Int32) (p0 &&& (3 : Int32)))), .val (.int (own_fix (own_cpv ((q1.toUInt64 >>> ((21 : Int32) &&& 0x3f).toInt64.toUInt64).toInt64)) (1 : Int32) (p0 &&& (3 : Int32)))), .val (.int (own_fix (own_cpv (p3.toInt64)) (2 : Int32) (p0 &&& (3 : Int32)))), .val (.int (own_fix (if (((((q2.toUInt64 >>> ((42 : Int32) &&& 0x3f).toInt64.toUInt64).toInt64) &&& (7 : Int64)).toInt32) &&& (1 : Int32)) = (0 : Int32) then (own_cpv q2) else (own_cpv q1)) (0 : Int32) (((p0.toUInt32 >>> ((2 : Int32) &&& 31).toUInt32).toInt32) &&& (3 : Int32)))), .val (.int (own_fix (if (((((q2.toUInt64 >>> ((42 : Int32) &&& 0x3f).toInt64.toUInt64).toInt64) &&& (7 : Int64)).toInt32) &&& (2 : Int32)) = (0 : Int32) then (own_cpv ((q2.toUInt64 >>> ((21 : Int32) &&& 0x3f).toInt64.toUInt64).toInt64)) else (own_cpv ((q1.toUInt64 >>> ((21 : Int32) &&& 0x3f).toInt64.toUInt64).toInt64))) (1 : Int32) (((p0.toUInt32 >>> ((2 : Int32) &&& 31).toUInt32).toInt32) &&& (3 : Int32)))), .val (.int (own_fix (if (((((q2.toUInt64 >>> ((42 : Int32) &&& 0x3f).toInt64.toUInt64).toInt64) &&& (7 : Int64)).toInt32) &&& (4 : Int32)) = (0 : Int32) then (own_cpv (p4.toInt64)) else (own_cpv (p3.toInt64))) (2 : Int32) (((p0.toUInt32 >>> ((2 : Int32) &&& 31).toUInt32).toInt32) &&& (3 : Int32)))), .val (.int ((((q2.toUInt64 >>> ((42 : Int32) &&& 0x3f).toInt64.toUInt64).toInt64) &&& (7 : Int64)).toInt32)), .val (.ref c16_0), .unset, .unset, .unset] [(.int (own_fix (if (((((q2.toUInt64 >>> ((42 : Int32) &&& 0x3f).toInt64.toUInt64).toInt64) &&& (7 : Int64)).toInt32) &&& (4 : Int32)) = (0 : Int32) then (own_cpv (p4.toInt64)) else (own_cpv (p3.toInt64))) (2 : Int32) (((p0.toUInt32 >>> ((2 : Int32) &&& 31).toUInt32).toInt32) &&& (3 : Int32)))), (.int (own_fix (if (((((q2.toUInt64 >>> ((42 : Int32) &&& 0x3f).toInt64.toUInt64).toInt64) &&& (7 : Int64)).toInt32) &&& (2 : Int32)) = (0 : Int32) then (own_cpv ((q2.toUInt64 >>> ((21 : Int32) &&& 0x3f).toInt64.toUInt64).toInt64)) else (own_cpv ((q1.toUInt64 >>> ((21 : Int32) &&& 0x3f).toInt64.toUInt64).toInt64))) (1 : Int32) (((p0.toUInt32 >>> ((2 : Int32) &&& 31).toUInt32).toInt32) &&& (3 : Int32)))), (.int (own_fix (if (((((q2.toUInt64 >>> ((42 : Int32) &&& 0x3f).toInt64.toUInt64).toInt64) &&& (7 : Int64)).toInt32) &&& (1 : Int32)) = (0 : Int32) then (own_cpv q2) else (own_cpv q1)) (0 : Int32) (((p0.toUInt32 >>> ((2 : Int32) &&& 31).toUInt32).toInt32) &&& (3 : Int32)))), (.int (((p0.toUInt32 >>> ((2 : Int32) &&& 31).toUInt32).toInt32) &&& (3 : Int32)))])) rfl (by rw [hml]; rfl) (argsL := [(.int (((p0.toUInt32 >>> ((2 : Int32) &&& 31).toUInt32).toInt32) &&& (3 : Int32))), (.int (own_fix (if (((((q2.toUInt64 >>> ((42 : Int32) &&& 0x3f).toInt64.toUInt64).toInt64) &&& (7 : Int64)).toInt32) &&& (1 : Int32)) = (0 : Int32) then (own_cpv q2) else (own_cpv q1)) (0 : Int32) (((p0.toUInt32 >>> ((2 : Int32) &&& 31).toUInt32).toInt32) &&& (3 : Int32)))), (.int (own_fix (if (((((q2.toUInt64 >>> ((42 : Int32) &&& 0x3f).toInt64.toUInt64).toInt64) &&& (7 : Int64)).toInt32) &&& (2 : Int32)) = (0 : Int32) then (own_cpv ((q2.toUInt64 >>> ((21 : Int32) &&& 0x3f).toInt64.toUInt64).toInt64)) else (own_cpv ((q1.toUInt64 >>> ((21 : Int32) &&& 0x3f).toInt64.toUInt64).toInt64))) (1 : Int32) (((p0.toUInt32 >>> ((2 : Int32) &&& 31).toUInt32).toInt32) &&& (3 : Int32)))), (.int (own_fix (if (((((q2.toUInt64 >>> ((42 : Int32) &&& 0x3f).toInt64.toUInt64).toInt64) &&& (7 : Int64)).toInt32) &&& (4 : Int32)) = (0 : Int32) then (own_cpv (p4.toInt64)) else (own_cpv (p3.toInt64))) (2 : Int32) (((p0.toUInt32 >>> ((2 : Int32) &&& 31).toUInt32).toInt32) &&& (3 : Int32))))]) (rest := []) (lenOf pd_22 rfl) rfl (by show 2 * 0 + _ ≤ _; exact Nat.le_of_eq rfl) (hb hby at_183) (fun _ _ => ⟨rfl, e16, (by decide : 6 + 6 ≤ _), (by decide : 28 + 28 ≤ _)⟩)
     dsimp only [Pt.U, Pt.locs, Pt.cells, Pt.slots] at X18 l18 y18 z18 st18 hQ18 hS18 hg18 hC18
     subst l18 y18 z18
     obtain ⟨c18_0, c18_1, kc18_2, rfl, N18q, K18, r18_0, r18_1, r18_2, r18_3, r18_4⟩ := hQ18
     have N18 := Fr.app N16 N18q
     refine OwnFin.tr st18 ?_
     rw [e16] at hg18
     obtain ⟨h18, e18⟩ : ∃ z, T18.heap = z := ⟨_, rfl⟩
     rw [e18] at K18 r18_1 r18_2 r18_3 r18_4 hg18 hS18 hC18
     have bi_c18_0 : h16.size ≤ c18_0 := r18_0
     have lo_c18_0 : h0.size ≤ c18_0 := Nat.le_trans kp17.1 bi_c18_0
     have g_c18_0 : n0 ≤ c18_0 := Nat.le_trans Z0 lo_c18_0
     have ch19 := ch17.trans (hC18)
     have kp19 : Keep h0 h18 [] := kp17.trans K18 all0
     have ol19 : Old Z n0 h18 := ol17.keep K18 all0
     obtain ⟨Xr18, hSr18, hZr18, hor18⟩ := rebS hSr16 (Nat.le_trans (Nat.le_refl _) (Nat.le_refl _)) X18 hS18 hg18 hZr16 hor16
     show OwnFin _ _ _ _ (T18.setTop (mkF m 186 _ [(.ref c18_0)]))
     refine OwnFin.st (fun _ q => XS.astore Xr18.here hx rfl (hb hby at_186) rfl rfl (l' := #[.val (.int p0), .val (.long q1), .second, .val (.long q2), .second, .val (.int p3), .val (.int p4), .val (.int (p0 &&& (3 : Int32))), .val (.int (((p0.toUInt32 >>> ((2 : Int32) &&& 31).toUInt32).toInt32) &&& (3 : Int32))), .val (.int (own_fix (own_cpv q1) (0 : Int32) (p0 &&& (3 : Int32)))), .val (.int (own_fix (own_cpv ((q1.toUInt64 >>> ((21 : Int32) &&& 0x3f).toInt64.toUInt64).toInt64)) (1 : Int32) (p0 &&& (3 : Int32)))), .val (.int (own_fix (own_cpv (p3.toInt64)) (2 : Int32) (p0 &&& (3 : Int32)))), .val (.int (own_fix (if (((((q2.toUInt64 >>> ((42 : Int32) &&& 0x3f).toInt64.toUInt64).toInt64) &&& (7 : Int64)).toInt32) &&& (1 : Int32)) = (0 : Int32) then (own_cpv q2) else (own_cpv q1)) (0 : Int32) (((p0.toUInt32 >>> ((2 : Int32) &&& 31).toUInt32).toInt32) &&& (3 : Int32)))), .val (.int (own_fix (if (((((q2.toUInt64 >>> ((42 : Int32) &&& 0x3f).toInt64.toUInt64).toInt64) &&& (7 : Int64)).toInt32) &&& (2 : Int32)) = (0 : Int32) then (own_cpv ((q2.toUInt64 >>> ((21 : Int32) &&& 0x3f).toInt64.toUInt64).toInt64)) else (own_cpv ((q1.toUInt64 >>> ((21 : Int32) &&& 0x3f).toInt64.toUInt64).toInt64))) (1 : Int32) (((p0.toUInt32 >>> ((2 : Int32) &&& 31).toUInt32).toInt32) &&& (3 : Int32)))), .val (.int (own_fix (if (((((q2.toUInt64 >>> ((42 : Int32) &&& 0x3f).toInt64.toUInt64).toInt64) &&& (7 : Int64)).toInt32) &&& (4 : Int32)) = (0 : Int32) then (own_cpv (p4.toInt64)) else (own_cpv (p3.toInt64))) (2 : Int32) (((p0.toUInt32 >>> ((2 : Int32) &&& 31).toUInt32).toInt32) &&& (3 : Int32)))), .val (.int ((((q2.toUInt64 >>> ((42 : Int32) &&& 0x3f).toInt64.toUInt64).toInt64) &&& (7 : Int64)).toInt32)), .val (.ref c16_0), .val (.ref c18_0), .unset, .unset]) rfl q) ?_
     show OwnFin _ _ _ _ (T18.setTop (mkF m 188 _ []))
     refine OwnFin.st (fun _ q => XS.aload Xr18.here hx rfl (hb hby at_188) rfl rfl q) ?_
     show OwnFin _ _ _ _ (T18.setTop (mkF m 190 _ [(.ref c16_0)]))
     refine OwnFin.st (fun _ q => XS.aload Xr18.here hx rfl (hb hby at_190) rfl rfl q) ?_
     show OwnFin _ _ _ _ (T18.setTop (mkF m 192 _ [(.ref c18_0), (.ref c16_0)]))
     obtain ⟨_, _, ⟨T20, L20, k20, n20⟩, -, X20, ⟨Lc20, hQ20, l20, y20, z20⟩, st20⟩ := Jvm.LawKit.callS Xr18 hx (y := yM14) hor18 (mvT hZr18 (w_ hw 41 rfl)) (mvT hZr18 (w_ hw 42 rfl)) (mvT hZr18 (w_ hw 43 rfl)) (mvT hZr18 (w_ hw 44 rfl)) (by decide) (backOf (W := 0) (rm_cmp l Z av0 hw [] c16_0 c18_0 (own_bcd (p0 &&& (3 : Int32)) (own_fix (own_cpv q1) (0 : Int32) (p0 &&& (3 : Int32))) (own_fix (own_cpv ((q1.toUInt64 >>> ((21 : Int32) &&& 0x3f).toInt64.toUInt64).toInt64)) (1 : Int32) (p0 &&& (3 : Int32))) (own_fix (own_cpv (p3.toInt64)) (2 : Int32) (p0 &&& (3 : Int32)))) c16_1 kc16_2 (own_bz (p0 &&& (3 : Int32)) (own_fix (own_cpv q1) (0 : Int32) (p0 &&& (3 : Int32))) (own_fix (own_cpv ((q1.toUInt64 >>> ((21 : Int32) &&& 0x3f).toInt64.toUInt64).toInt64)) (1 : Int32) (p0 &&& (3 : Int32))) (own_fix (own_cpv (p3.toInt64)) (2 : Int32) (p0 &&& (3 : Int32)))) (own_bb (p0 &&& (3 : Int32)) (own_fix (own_cpv q1) (0 : Int32) (p0 &&& (3 : Int32))) (own_fix (own_cpv ((q1.toUInt64 >>> ((21 : Int32) &&& 0x3f).toInt64.toUInt64).toInt64)) (1 : Int32) (p0 &&& (3 : Int32))) (own_fix (own_cpv (p3.toInt64)) (2 : Int32) (p0 &&& (3 : Int32)))) (own_bcd (((p0.toUInt32 >>> ((2 : Int32) &&& 31).toUInt32).toInt32) &&& (3 : Int32)) (own_fix (if (((((q2.toUInt64 >>> ((42 : Int32) &&& 0x3f).toInt64.toUInt64).toInt64) &&& (7 : Int64)).toInt32) &&& (1 : Int32)) = (0 : Int32) then (own_cpv q2) else (own_cpv q1)) (0 : Int32) (((p0.toUInt32 >>> ((2 : Int32) &&& 31).toUInt32).toInt32) &&& (3 : Int32))) (own_fix (if (((((q2.toUInt64 >>> ((42 : Int32) &&& 0x3f).toInt64.toUInt64).toInt64) &&& (7 : Int64)).toInt32) &&& (2 : Int32)) = (0 : Int32) then (own_cpv ((q2.toUInt64 >>> ((21 : Int32) &&& 0x3f).toInt64.toUInt64).toInt64)) else (own_cpv ((q1.toUInt64 >>> ((21 : Int32) &&& 0x3f).toInt64.toUInt64).toInt64))) (1 : Int32) (((p0.toUInt32 >>> ((2 : Int32) &&& 31).toUInt32).toInt32) &&& (3 : Int32))) (own_fix (if (((((q2.toUInt64 >>> ((42 : Int32) &&& 0x3f).toInt64.toUInt64).toInt64) &&& (7 : Int64)).toInt32) &&& (4 : Int32)) = (0 : Int32) then (own_cpv (p4.toInt64)) else (own_cpv (p3.toInt64))) (2 : Int32) (((p0.toUInt32 >>> ((2 : Int32) &&& 31).toUInt32).toInt32) &&& (3 : Int32)))) c18_1 kc18_2 (own_bz (((p0.toUInt32 >>> ((2 : Int32) &&& 31).toUInt32).toInt32) &&& (3 : Int32)) (own_fix (if (((((q2.toUInt64 >>> ((42 : Int32) &&& 0x3f).toInt64.toUInt64).toInt64) &&& (7 : Int64)).toInt32) &&& (1 : Int32)) = (0 : Int32) then (own_cpv q2) else (own_cpv q1)) (0 : Int32) (((p0.toUInt32 >>> ((2 : Int32) &&& 31).toUInt32).toInt32) &&& (3 : Int32))) (own_fix (if (((((q2.toUInt64 >>> ((42 : Int32) &&& 0x3f).toInt64.toUInt64).toInt64) &&& (7 : Int64)).toInt32) &&& (2 : Int32)) = (0 : Int32) then (own_cpv ((q2.toUInt64 >>> ((21 : Int32) &&& 0x3f).toInt64.toUInt64).toInt64)) else (own_cpv ((q1.toUInt64 >>> ((21 : Int32) &&& 0x3f).toInt64.toUInt64).toInt64))) (1 : Int32) (((p0.toUInt32 >>> ((2 : Int32) &&& 31).toUInt32).toInt32) &&& (3 : Int32))) (own_fix (if (((((q2.toUInt64 >>> ((42 : Int32) &&& 0x3f).toInt64.toUInt64).toInt64) &&& (7 : Int64)).toInt32) &&& (4 : Int32)) = (0 : Int32) then (own_cpv (p4.toInt64)) else (own_cpv (p3.toInt64))) (2 : Int32) (((p0.toUInt32 >>> ((2 : Int32) &&& 31).toUInt32).toInt32) &&& (3 : Int32)))) (own_bb (((p0.toUInt32 >>> ((2 : Int32) &&& 31).toUInt32).toInt32) &&& (3 : Int32)) (own_fix (if (((((q2.toUInt64 >>> ((42 : Int32) &&& 0x3f).toInt64.toUInt64).toInt64) &&& (7 : Int64)).toInt32) &&& (1 : Int32)) = (0 : Int32) then (own_cpv q2) else (own_cpv q1)) (0 : Int32) (((p0.toUInt32 >>> ((2 : Int32) &&& 31).toUInt32).toInt32) &&& (3 : Int32))) (own_fix (if (((((q2.toUInt64 >>> ((42 : Int32) &&& 0x3f).toInt64.toUInt64).toInt64) &&& (7 : Int64)).toInt32) &&& (2 : Int32)) = (0 : Int32) then (own_cpv ((q2.toUInt64 >>> ((21 : Int32) &&& 0x3f).toInt64.toUInt64).toInt64)) else (own_cpv ((q1.toUInt64 >>> ((21 : Int32) &&& 0x3f).toInt64.toUInt64).toInt64))) (1 : Int32) (((p0.toUInt32 >>> ((2 : Int32) &&& 31).toUInt32).toInt32) &&& (3 : Int32))) (own_fix (if (((((q2.toUInt64 >>> ((42 : Int32) &&& 0x3f).toInt64.toUInt64).toInt64) &&& (7 : Int64)).toInt32) &&& (4 : Int32)) = (0 : Int32) then (own_cpv (p4.toInt64)) else (own_cpv (p3.toInt64))) (2 : Int32) (((p0.toUInt32 >>> ((2 : Int32) &&& 31).toUInt32).toInt32) &&& (3 : Int32)))) w_COMPACT_STRINGS w_SIOOBE_FORMATTER h18 n0 (Nat.le_trans Z0 kp19.1) ol19 (r16_1.keep K18) (r16_2.keep K18 nin0) (r16_3.keep K18 nin0) (r16_4.keep K18 nin0) r18_1 r18_2 r18_3 r18_4 (own_bcd01 _ _ _ _) (own_bcd01 _ _ _ _) hcs (own_hend (own_m3 _) (own_cpr _) (own_cpr _) (own_cpr _)) S_COMPACT_STRINGS S_SIOOBE_FORMATTER hr_w_SIOOBE_FORMATTER S__assertionsDisabled S_HI_BYTE_SHIFT S_LO_BYTE_SHIFT) hZr18 (w_ hw 44 rfl) (w_ hw 43 rfl) (by decide) (by decide)) (g := (mkF m 192 #[.val (.int p0), .val (.long q1), .second, .val (.long q2), .second, .val (.int p3), .val (.int p4), .val (.int (p0 &&& (3 : Int32))), .val (.int (((p0.toUInt32 >>> ((2 : Int32) &&& 31).toUInt32).toInt32) &&& (3 : Int32))), .val (.int (own_fix (own_cpv q1) (0 : Int32) (p0 &&& (3 : Int32)))), .val (.int (own_fix (own_cpv ((q1.toUInt64 >>> ((21 : Int32) &&& 0x3f).toInt64.toUInt64).toInt64)) (1 : Int32) (p0 &&& (3 : Int32)))), .val (.int (own_fix (own_cpv (p3.toInt64)) (2 : Int32) (p0 &&& (3 : Int32)))), .val (.int (own_fix (if (((((q2.toUInt64 >>> ((42 : Int32) &&& 0x3f).toInt64.toUInt64).toInt64) &&& (7 : Int64)).toInt32) &&& (1 : Int32)) = (0 : Int32) then (own_cpv q2) else (own_cpv q1)) (0 : Int32) (((p0.toUInt32 >>> ((2 : Int32) &&& 31).toUInt32).toInt32) &&& (3 : Int32)))), .val (.int (own_fix (if (((((q2.toUInt64 >>> ((42 : Int32) &&& 0x3f).toInt64.toUInt64).toInt64) &&& (7 : Int64)).toInt32) &&& (2 : Int32)) = (0 : Int32) then (own_cpv ((q2.toUInt64 >>> ((21 : Int32) &&& 0x3f).toInt64.toUInt64).toInt64)) else (own_cpv ((q1.toUInt64 >>> ((21 : Int32) &&& 0x3f).toInt64.toUInt64).toInt64))) (1 : Int32) (((p0.toUInt32 >>> ((2 : Int32) &&& 31).toUInt32).toInt32) &&& (3 : Int32)))), .val (.int (own_fix (if (((((q2.toUInt64 >>> ((42 : Int32) &&& 0x3f).toInt64.toUInt64).toInt64) &&& (7 : Int64)).toInt32) &&& (4 : Int32)) = (0 : Int32) then (own_cpv (p4.toInt64)) else (own_cpv (p3.toInt64))) (2 : Int32) (((p0.toUInt32 >>> ((2 : Int32) &&& 31).toUInt32).toInt32) &&& (3 : Int32)))), .val (.int ((((q2.toUInt64 >>> ((42 : Int32) &&& 0x3f).toInt64.toUInt64).toInt64) &&& (7 : Int64)).toInt32)), .val (.ref c16_0), .val (.ref c18_0), .unset, .unset] [(.ref c18_0), (.ref c16_0)])) rfl (by rw [hml]; rfl) (argsL := [(.ref c16_0), (.ref c18_0)]) (rest := []) (lenOf pd_23 rfl) rfl (by show 2 * 0 + _ ≤ _; exact Nat.le_of_eq rfl) (hb hby at_192) (fun _ _ => ⟨rfl, e18, (by decide : 12 + 0 ≤ _), (by decide : 56 + 0 ≤ _)⟩)
     dsimp only [Pt.U, Pt.locs, Pt.cells, Pt.slots] at X20 l20 y20 z20 st20 hQ20
     subst l20 y20 z20
     obtain ⟨rfl, N20q, he20⟩ := hQ20
     have N20 := Fr.app N18 N20q
     refine OwnFin.st st20 ?_
     show OwnFin _ _ _ _ (T20.setTop (mkF m 195 _ [(.int (own_cmpS (own_bcd (p0 &&& (3 : Int32)) (own_fix (own_cpv q1) (0 : Int32) (p0 &&& (3 : Int32))) (own_fix (own_cpv ((q1.toUInt64 >>> ((21 : Int32) &&& 0x3f).toInt64.toUInt64).toInt64)) (1 : Int32) (p0 &&& (3 : Int32))) (own_fix (own_cpv (p3.toInt64)) (2 : Int32) (p0 &&& (3 : Int32)))) (own_bz (p0 &&& (3 : Int32)) (own_fix (own_cpv q1) (0 : Int32) (p0 &&& (3 : Int32))) (own_fix (own_cpv ((q1.toUInt64 >>> ((21 : Int32) &&& 0x3f).toInt64.toUInt64).toInt64)) (1 : Int32) (p0 &&& (3 : Int32))) (own_fix (own_cpv (p3.toInt64)) (2 : Int32) (p0 &&& (3 : Int32)))) (own_bb (p0 &&& (3 : Int32)) (own_fix (own_cpv q1) (0 : Int32) (p0 &&& (3 : Int32))) (own_fix (own_cpv ((q1.toUInt64 >>> ((21 : Int32) &&& 0x3f).toInt64.toUInt64).toInt64)) (1 : Int32) (p0 &&& (3 : Int32))) (own_fix (own_cpv (p3.toInt64)) (2 : Int32) (p0 &&& (3 : Int32)))) (own_bcd (((p0.toUInt32 >>> ((2 : Int32) &&& 31).toUInt32).toInt32) &&& (3 : Int32)) (own_fix (if (((((q2.toUInt64 >>> ((42 : Int32) &&& 0x3f).toInt64.toUInt64).toInt64) &&& (7 : Int64)).toInt32) &&& (1 : Int32)) = (0 : Int32) then (own_cpv q2) else (own_cpv q1)) (0 : Int32) (((p0.toUInt32 >>> ((2 : Int32) &&& 31).toUInt32).toInt32) &&& (3 : Int32))) (own_fix (if (((((q2.toUInt64 >>> ((42 : Int32) &&& 0x3f).toInt64.toUInt64).toInt64) &&& (7 : Int64)).toInt32) &&& (2 : Int32)) = (0 : Int32) then (own_cpv ((q2.toUInt64 >>> ((21 : Int32) &&& 0x3f).toInt64.toUInt64).toInt64)) else (own_cpv ((q1.toUInt64 >>> ((21 : Int32) &&& 0x3f).toInt64.toUInt64).toInt64))) (1 : Int32) (((p0.toUInt32 >>> ((2 : Int32) &&& 31).toUInt32).toInt32) &&& (3 : Int32))) (own_fix (if (((((q2.toUInt64 >>> ((42 : Int32) &&& 0x3f).toInt64.toUInt64).toInt64) &&& (7 : Int64)).toInt32) &&& (4 : Int32)) = (0 : Int32) then (own_cpv (p4.toInt64)) else (own_cpv (p3.toInt64))) (2 : Int32) (((p0.toUInt32 >>> ((2 : Int32) &&& 31).toUInt32).toInt32) &&& (3 : Int32)))) (own_bz (((p0.toUInt32 >>> ((2 : Int32) &&& 31).toUInt32).toInt32) &&& (3 : Int32)) (own_fix (if (((((q2.toUInt64 >>> ((42 : Int32) &&& 0x3f).toInt64.toUInt64).toInt64) &&& (7 : Int64)).toInt32) &&& (1 : Int32)) = (0 : Int32) then (own_cpv q2) else (own_cpv q1)) (0 : Int32) (((p0.toUInt32 >>> ((2 : Int32) &&& 31).toUInt32).toInt32) &&& (3 : Int32))) (own_fix (if (((((q2.toUInt64 >>> ((42 : Int32) &&& 0x3f).toInt64.toUInt64).toInt64) &&& (7 : Int64)).toInt32) &&& (2 : Int32)) = (0 : Int32) then (own_cpv ((q2.toUInt64 >>> ((21 : Int32) &&& 0x3f).toInt64.toUInt64).toInt64)) else (own_cpv ((q1.toUInt64 >>> ((21 : Int32) &&& 0x3f).toInt64.toUInt64).toInt64))) (1 : Int32) (((p0.toUInt32 >>> ((2 : Int32) &&& 31).toUInt32).toInt32) &&& (3 : Int32))) (own_fix (if (((((q2.toUInt64 >>> ((42 : Int32) &&& 0x3f).toInt64.toUInt64).toInt64) &&& (7 : Int64)).toInt32) &&& (4 : Int32)) = (0 : Int32) then (own_cpv (p4.toInt64)) else (own_cpv (p3.toInt64))) (2 : Int32) (((p0.toUInt32 >>> ((2 : Int32) &&& 31).toUInt32).toInt32) &&& (3 : Int32)))) (own_bb (((p0.toUInt32 >>> ((2 : Int32) &&& 31).toUInt32).toInt32) &&& (3 : Int32)) (own_fix (if (((((q2.toUInt64 >>> ((42 : Int32) &&& 0x3f).toInt64.toUInt64).toInt64) &&& (7 : Int64)).toInt32) &&& (1 : Int32)) = (0 : Int32) then (own_cpv q2) else (own_cpv q1)) (0 : Int32) (((p0.toUInt32 >>> ((2 : Int32) &&& 31).toUInt32).toInt32) &&& (3 : Int32))) (own_fix (if (((((q2.toUInt64 >>> ((42 : Int32) &&& 0x3f).toInt64.toUInt64).toInt64) &&& (7 : Int64)).toInt32) &&& (2 : Int32)) = (0 : Int32) then (own_cpv ((q2.toUInt64 >>> ((21 : Int32) &&& 0x3f).toInt64.toUInt64).toInt64)) else (own_cpv ((q1.toUInt64 >>> ((21 : Int32) &&& 0x3f).toInt64.toUInt64).toInt64))) (1 : Int32) (((p0.toUInt32 >>> ((2 : Int32) &&& 31).toUInt32).toInt32) &&& (3 : Int32))) (own_fix (if (((((q2.toUInt64 >>> ((42 : Int32) &&& 0x3f).toInt64.toUInt64).toInt64) &&& (7 : Int64)).toInt32) &&& (4 : Int32)) = (0 : Int32) then (own_cpv (p4.toInt64)) else (own_cpv (p3.toInt64))) (2 : Int32) (((p0.toUInt32 >>> ((2 : Int32) &&& 31).toUInt32).toInt32) &&& (3 : Int32))))))]))
     refine OwnFin.st (fun _ q => XS.istore X20.here hx rfl (hb hby at_195) rfl (l' := #[.val (.int p0), .val (.long q1), .second, .val (.long q2), .second, .val (.int p3), .val (.int p4), .val (.int (p0 &&& (3 : Int32))), .val (.int (((p0.toUInt32 >>> ((2 : Int32) &&& 31).toUInt32).toInt32) &&& (3 : Int32))), .val (.int (own_fix (own_cpv q1) (0 : Int32) (p0 &&& (3 : Int32)))), .val (.int (own_fix (own_cpv ((q1.toUInt64 >>> ((21 : Int32) &&& 0x3f).toInt64.toUInt64).toInt64)) (1 : Int32) (p0 &&& (3 : Int32)))), .val (.int (own_fix (own_cpv (p3.toInt64)) (2 : Int32) (p0 &&& (3 : Int32)))), .val (.int (own_fix (if (((((q2.toUInt64 >>> ((42 : Int32) &&& 0x3f).toInt64.toUInt64).toInt64) &&& (7 : Int64)).toInt32) &&& (1 : Int32)) = (0 : Int32) then (own_cpv q2) else (own_cpv q1)) (0 : Int32) (((p0.toUInt32 >>> ((2 : Int32) &&& 31).toUInt32).toInt32) &&& (3 : Int32)))), .val (.int (own_fix (if (((((q2.toUInt64 >>> ((42 : Int32) &&& 0x3f).toInt64.toUInt64).toInt64) &&& (7 : Int64)).toInt32) &&& (2 : Int32)) = (0 : Int32) then (own_cpv ((q2.toUInt64 >>> ((21 : Int32) &&& 0x3f).toInt64.toUInt64).toInt64)) else (own_cpv ((q1.toUInt64 >>> ((21 : Int32) &&& 0x3f).toInt64.toUInt64).toInt64))) (1 : Int32) (((p0.toUInt32 >>> ((2 : Int32) &&& 31).toUInt32).toInt32) &&& (3 : Int32)))), .val (.int (own_fix (if (((((q2.toUInt64 >>> ((42 : Int32) &&& 0x3f).toInt64.toUInt64).toInt64) &&& (7 : Int64)).toInt32) &&& (4 : Int32)) = (0 : Int32) then (own_cpv (p4.toInt64)) else (own_cpv (p3.toInt64))) (2 : Int32) (((p0.toUInt32 >>> ((2 : Int32) &&& 31).toUInt32).toInt32) &&& (3 : Int32)))), .val (.int ((((q2.toUInt64 >>> ((42 : Int32) &&& 0x3f).toInt64.toUInt64).toInt64) &&& (7 : Int64)).toInt32)), .val (.ref c16_0), .val (.ref c18_0), .val (.int (own_cmpS (own_bcd (p0 &&& (3 : Int32)) (own_fix (own_cpv q1) (0 : Int32) (p0 &&& (3 : Int32))) (own_fix (own_cpv ((q1.toUInt64 >>> ((21 : Int32) &&& 0x3f).toInt64.toUInt64).toInt64)) (1 : Int32) (p0 &&& (3 : Int32))) (own_fix (own_cpv (p3.toInt64)) (2 : Int32) (p0 &&& (3 : Int32)))) (own_bz (p0 &&& (3 : Int32)) (own_fix (own_cpv q1) (0 : Int32) (p0 &&& (3 : Int32))) (own_fix (own_cpv ((q1.toUInt64 >>> ((21 : Int32) &&& 0x3f).toInt64.toUInt64).toInt64)) (1 : Int32) (p0 &&& (3 : Int32))) (own_fix (own_cpv (p3.toInt64)) (2 : Int32) (p0 &&& (3 : Int32)))) (own_bb (p0 &&& (3 : Int32)) (own_fix (own_cpv q1) (0 : Int32) (p0 &&& (3 : Int32))) (own_fix (own_cpv ((q1.toUInt64 >>> ((21 : Int32) &&& 0x3f).toInt64.toUInt64).toInt64)) (1 : Int32) (p0 &&& (3 : Int32))) (own_fix (own_cpv (p3.toInt64)) (2 : Int32) (p0 &&& (3 : Int32)))) (own_bcd (((p0.toUInt32 >>> ((2 : Int32) &&& 31).toUInt32).toInt32) &&& (3 : Int32)) (own_fix (if (((((q2.toUInt64 >>> ((42 : Int32) &&& 0x3f).toInt64.toUInt64).toInt64) &&& (7 : Int64)).toInt32) &&& (1 : Int32)) = (0 : Int32) then (own_cpv q2) else (own_cpv q1)) (0 : Int32) (((p0.toUInt32 >>> ((2 : Int32) &&& 31).toUInt32).toInt32) &&& (3 : Int32))) (own_fix (if (((((q2.toUInt64 >>> ((42 : Int32) &&& 0x3f).toInt64.toUInt64).toInt64) &&& (7 : Int64)).toInt32) &&& (2 : Int32)) = (0 : Int32) then (own_cpv ((q2.toUInt64 >>> ((21 : Int32) &&& 0x3f).toInt64.toUInt64).toInt64)) else (own_cpv ((q1.toUInt64 >>> ((21 : Int32) &&& 0x3f).toInt64.toUInt64).toInt64))) (1 : Int32) (((p0.toUInt32 >>> ((2 : Int32) &&& 31).toUInt32).toInt32) &&& (3 : Int32))) (own_fix (if (((((q2.toUInt64 >>> ((42 : Int32) &&& 0x3f).toInt64.toUInt64).toInt64) &&& (7 : Int64)).toInt32) &&& (4 : Int32)) = (0 : Int32) then (own_cpv (p4.toInt64)) else (own_cpv (p3.toInt64))) (2 : Int32) (((p0.toUInt32 >>> ((2 : Int32) &&& 31).toUInt32).toInt32) &&& (3 : Int32)))) (own_bz (((p0.toUInt32 >>> ((2 : Int32) &&& 31).toUInt32).toInt32) &&& (3 : Int32)) (own_fix (if (((((q2.toUInt64 >>> ((42 : Int32) &&& 0x3f).toInt64.toUInt64).toInt64) &&& (7 : Int64)).toInt32) &&& (1 : Int32)) = (0 : Int32) then (own_cpv q2) else (own_cpv q1)) (0 : Int32) (((p0.toUInt32 >>> ((2 : Int32) &&& 31).toUInt32).toInt32) &&& (3 : Int32))) (own_fix (if (((((q2.toUInt64 >>> ((42 : Int32) &&& 0x3f).toInt64.toUInt64).toInt64) &&& (7 : Int64)).toInt32) &&& (2 : Int32)) = (0 : Int32) then (own_cpv ((q2.toUInt64 >>> ((21 : Int32) &&& 0x3f).toInt64.toUInt64).toInt64)) else (own_cpv ((q1.toUInt64 >>> ((21 : Int32) &&& 0x3f).toInt64.toUInt64).toInt64))) (1 : Int32) (((p0.toUInt32 >>> ((2 : Int32) &&& 31).toUInt32).toInt32) &&& (3 : Int32))) (own_fix (if (((((q2.toUInt64 >>> ((42 : Int32) &&& 0x3f).toInt64.toUInt64).toInt64) &&& (7 : Int64)).toInt32) &&& (4 : Int32)) = (0 : Int32) then (own_cpv (p4.toInt64)) else (own_cpv (p3.toInt64))) (2 : Int32) (((p0.toUInt32 >>> ((2 : Int32) &&& 31).toUInt32).toInt32) &&& (3 : Int32)))) (own_bb (((p0.toUInt32 >>> ((2 : Int32) &&& 31).toUInt32).toInt32) &&& (3 : Int32)) (own_fix (if (((((q2.toUInt64 >>> ((42 : Int32) &&& 0x3f).toInt64.toUInt64).toInt64) &&& (7 : Int64)).toInt32) &&& (1 : Int32)) = (0 : Int32) then (own_cpv q2) else (own_cpv q1)) (0 : Int32) (((p0.toUInt32 >>> ((2 : Int32) &&& 31).toUInt32).toInt32) &&& (3 : Int32))) (own_fix (if (((((q2.toUInt64 >>> ((42 : Int32) &&& 0x3f).toInt64.toUInt64).toInt64) &&& (7 : Int64)).toInt32) &&& (2 : Int32)) = (0 : Int32) then (own_cpv ((q2.toUInt64 >>> ((21 : Int32) &&& 0x3f).toInt64.toUInt64).toInt64)) else (own_cpv ((q1.toUInt64 >>> ((21 : Int32) &&& 0x3f).toInt64.toUInt64).toInt64))) (1 : Int32) (((p0.toUInt32 >>> ((2 : Int32) &&& 31).toUInt32).toInt32) &&& (3 : Int32))) (own_fix (if (((((q2.toUInt64 >>> ((42 : Int32) &&& 0x3f).toInt64.toUInt64).toInt64) &&& (7 : Int64)).toInt32) &&& (4 : Int32)) = (0 : Int32) then (own_cpv (p4.toInt64)) else (own_cpv (p3.toInt64))) (2 : Int32) (((p0.toUInt32 >>> ((2 : Int32) &&& 31).toUInt32).toInt32) &&& (3 : Int32)))))), .unset]) rfl q) ?_
     show OwnFin _ _ _ _ (T20.setTop (mkF m 197 _ []))
     refine OwnFin.st (fun _ q => XS.iload X20.here hx rfl (hb hby at_197) rfl q) ?_
     show OwnFin _ _ _ _ (T20.setTop (mkF m 199 _ [(.int (p0 &&& (3 : Int32)))]))
     refine OwnFin.st (fun _ q => XS.iload X20.here hx rfl (hb hby at_199) rfl q) ?_
     show OwnFin _ _ _ _ (T20.setTop (mkF m 201 _ [(.int (own_fix (own_cpv q1) (0 : Int32) (p0 &&& (3 : Int32)))), (.int (p0 &&& (3 : Int32)))]))
     refine OwnFin.st (fun _ q => XS.iload X20.here hx rfl (hb hby at_201) rfl q) ?_
     show OwnFin _ _ _ _ (T20.setTop (mkF m 203 _ [(.int (own_fix (own_cpv ((q1.toUInt64 >>> ((21 : Int32) &&& 0x3f).toInt64.toUInt64).toInt64)) (1 : Int32) (p0 &&& (3 : Int32)))), (.int (own_fix (own_cpv q1) (0 : Int32) (p0 &&& (3 : Int32)))), (.int (p0 &&& (3 : Int32)))]))
     refine OwnFin.st (fun _ q => XS.iload X20.here hx rfl (hb hby at_203) rfl q) ?_
     show OwnFin _ _ _ _ (T20.setTop (mkF m 205 _ [(.int (own_fix (own_cpv (p3.toInt64)) (2 : Int32) (p0 &&& (3 : Int32)))), (.int (own_fix (own_cpv ((q1.toUInt64 >>> ((21 : Int32) &&& 0x3f).toInt64.toUInt64).toInt64)) (1 : Int32) (p0 &&& (3 : Int32)))), (.int (own_fix (own_cpv q1) (0 : Int32) (p0 &&& (3 : Int32)))), (.int (p0 &&& (3 : Int32)))]))
     refine OwnFin.st (fun _ q => XS.iload X20.here hx rfl (hb hby at_205) rfl q) ?_
     show OwnFin _ _ _ _ (T20.setTop (mkF m 207 _ [(.int (((p0.toUInt32 >>> ((2 : Int32) &&& 31).toUInt32).toInt32) &&& (3 : Int32))), (.int (own_fix (own_cpv (p3.toInt64)) (2 : Int32) (p0 &&& (3 : Int32)))), (.int (own_fix (own_cpv ((q1.toUInt64 >>> ((21 : Int32) &&& 0x3f).toInt64.toUInt64).toInt64)) (1 : Int32) (p0 &&& (3 : Int32)))), (.int (own_fix (own_cpv q1) (0 : Int32) (p0 &&& (3 : Int32)))), (.int (p0 &&& (3 : Int32)))]))
     refine OwnFin.st (fun _ q => XS.iload X20.here hx rfl (hb hby at_207) rfl q) ?_
     show OwnFin _ _ _ _ (T20.setTop (mkF m 209 #[.val (.int p0), .val (.long q1), .second, .val (.long q2), .second, .val (.int p3), .val (.int p4), .val (.int (p0 &&& (3 : Int32))), .val (.int (((p0.toUInt32 >>> ((2 : Int32) &&& 31).toUInt32).toInt32) &&& (3 : Int32))), .val (.int (own_fix (own_cpv q1) (0 : Int32) (p0 &&& (3 : Int32)))), .val (.int (own_fix (own_cpv ((q1.toUInt64 >>> ((21 : Int32) &&& 0x3f).toInt64.toUInt64).toInt64)) (1 : Int32) (p0 &&& (3 : Int32)))), .val (.int (own_fix (own_cpv (p3.toInt64)) (2 : Int32) (p0 &&& (3 : Int32)))), .val (.int (own_fix (if (((((q2.toUInt64 >>> ((42 : Int32) &&& 0x3f).toInt64.toUInt64).toInt64) &&& (7 : Int64)).toInt32) &&& (1 : Int32)) = (0 : Int32) then (own_cpv q2) else (own_cpv q1)) (0 : Int32) (((p0.toUInt32 >>> ((2 : Int32) &&& 31).toUInt32).toInt32) &&& (3 : Int32)))), .val (.int (own_fix (if (((((q2.toUInt64 >>> ((42 : Int32) &&& 0x3f).toInt64.toUInt64).toInt64) &&& (7 : Int64)).toInt32) &&& (2 : Int32)) = (0 : Int32) then (own_cpv ((q2.toUInt64 >>> ((21 : Int32) &&& 0x3f).toInt64.toUInt64).toInt64)) else (own_cpv ((q1.toUInt64 >>> ((21 : Int32) &&& 0x3f).toInt64.toUInt64).toInt64))) (1 : Int32) (((p0.toUInt32 >>> ((2 : Int32) &&& 31).toUInt32).toInt32) &&& (3 : Int32)))), .val (.int (own_fix (if (((((q2.toUInt64 >>> ((42 : Int32) &&& 0x3f).toInt64.toUInt64).toInt64) &&& (7 : Int64)).toInt32) &&& (4 : Int32)) = (0 : Int32) then (own_cpv (p4.toInt64)) else (own_cpv (p3.toInt64))) (2 : Int32) (((p0.toUInt32 >>> ((2 : Int32) &&& 31).toUInt32).toInt32) &&& (3 : Int32)))), .val (.int ((((q2.toUInt64 >>> ((42 : Int32) &&& 0x3f).toInt64.toUInt64).toInt64) &&& (7 : Int64)).toInt32)), .val (.ref c16_0), .val (.ref c18_0), .val (.int (own_cmpS (own_bcd (p0 &&& (3 : Int32)) (own_fix (own_cpv q1) (0 : Int32) (p0 &&& (3 : Int32))) (own_fix (own_cpv ((q1.toUInt64 >>> ((21 : Int32) &&& 0x3f).toInt64.toUInt64).toInt64)) (1 : Int32) (p0 &&& (3 : Int32))) (own_fix (own_cpv (p3.toInt64)) (2 : Int32) (p0 &&& (3 : Int32)))) (own_bz (p0 &&& (3 : Int32)) (own_fix (own_cpv q1) (0 : Int32) (p0 &&& (3 : Int32))) (own_fix (own_cpv ((q1.toUInt64 >>> ((21 : Int32) &&& 0x3f).toInt64.toUInt64).toInt64)) (1 : Int32) (p0 &&& (3 : Int32))) (own_fix (own_cpv (p3.toInt64)) (2 : Int32) (p0 &&& (3 : Int32)))) (own_bb (p0 &&& (3 : Int32)) (own_fix (own_cpv q1) (0 : Int32) (p0 &&& (3 : Int32))) (own_fix (own_cpv ((q1.toUInt64 >>> ((21 : Int32) &&& 0x3f).toInt64.toUInt64).toInt64)) (1 : Int32) (p0 &&& (3 : Int32))) (own_fix (own_cpv (p3.toInt64)) (2 : Int32) (p0 &&& (3 : Int32)))) (own_bcd (((p0.toUInt32 >>> ((2 : Int32) &&& 31).toUInt32).toInt32) &&& (3 : Int32)) (own_fix (if (((((q2.toUInt64 >>> ((42 : Int32) &&& 0x3f).toInt64.toUInt64).toInt64) &&& (7 : Int64)).toInt32) &&& (1 : Int32)) = (0 : Int32) then (own_cpv q2) else (own_cpv q1)) (0 : Int32) (((p0.toUInt32 >>> ((2 : Int32) &&& 31).toUInt32).toInt32) &&& (3 : Int32))) (own_fix (if (((((q2.toUInt64 >>> ((42 : Int32) &&& 0x3f).toInt64.toUInt64).toInt64) &&& (7 : Int64)).toInt32) &&& (2 : Int32)) = (0 : Int32) then (own_cpv ((q2.toUInt64 >>> ((21 : Int32) &&& 0x3f).toInt64.toUInt64).toInt64)) else (own_cpv ((q1.toUInt64 >>> ((21 : Int32) &&& 0x3f).toInt64.toUInt64).toInt64))) (1 : Int32) (((p0.toUInt32 >>> ((2 : Int32) &&& 31).toUInt32).toInt32) &&& (3 : Int32))) (own_fix (if (((((q2.toUInt64 >>> ((42 : Int32) &&& 0x3f).toInt64.toUInt64).toInt64) &&& (7 : Int64)).toInt32) &&& (4 : Int32)) = (0 : Int32) then (own_cpv (p4.toInt64)) else (own_cpv (p3.toInt64))) (2 : Int32) (((p0.toUInt32 >>> ((2 : Int32) &&& 31).toUInt32).toInt32) &&& (3 : Int32)))) (own_bz (((p0.toUInt32 >>> ((2 : Int32) &&& 31).toUInt32).toInt32) &&& (3 : Int32)) (own_fix (if (((((q2.toUInt64 >>> ((42 : Int32) &&& 0x3f).toInt64.toUInt64).toInt64) &&& (7 : Int64)).toInt32) &&& (1 : Int32)) = (0 : Int32) then (own_cpv q2) else (own_cpv q1)) (0 : Int32) (((p0.toUInt32 >>> ((2 : Int32) &&& 31).toUInt32).toInt32) &&& (3 : Int32))) (own_fix (if (((((q2.toUInt64 >>> ((42 : Int32) &&& 0x3f).toInt64.toUInt64).toInt64) &&& (7 : Int64)).toInt32) &&& (2 : Int32)) = (0 : Int32) then (own_cpv ((q2.toUInt64 >>> ((21 : Int32) &&& 0x3f).toInt64.toUInt64).toInt64)) else (own_cpv ((q1.toUInt64 >>> ((21 : Int32) &&& 0x3f).toInt64.toUInt64).toInt64))) (1 : Int32) (((p0.toUInt32 >>> ((2 : Int32) &&& 31).toUInt32).toInt32) &&& (3 : Int32))) (own_fix (if (((((q2.toUInt64 >>> ((42 : Int32) &&& 0x3f).toInt64.toUInt64).toInt64) &&& (7 : Int64)).toInt32) &&& (4 : Int32)) = (0 : Int32) then (own_cpv (p4.toInt64)) else (own_cpv (p3.toInt64))) (2 : Int32) (((p0.toUInt32 >>> ((2 : Int32) &&& 31).toUInt32).toInt32) &&& (3 : Int32)))) (own_bb (((p0.toUInt32 >>> ((2 : Int32) &&& 31).toUInt32).toInt32) &&& (3 : Int32)) (own_fix (if (((((q2.toUInt64 >>> ((42 : Int32) &&& 0x3f).toInt64.toUInt64).toInt64) &&& (7 : Int64)).toInt32) &&& (1 : Int32)) = (0 : Int32) then (own_cpv q2) else (own_cpv q1)) (0 : Int32) (((p0.toUInt32 >>> ((2 : Int32) &&& 31).toUInt32).toInt32) &&& (3 : Int32))) (own_fix (if (((((q2.toUInt64 >>> ((42 : Int32) &&& 0x3f).toInt64.toUInt64).toInt64) &&& (7 : Int64)).toInt32) &&& (2 : Int32)) = (0 : Int32) then (own_cpv ((q2.toUInt64 >>> ((21 : Int32) &&& 0x3f).toInt64.toUInt64).toInt64)) else (own_cpv ((q1.toUInt64 >>> ((21 : Int32) &&& 0x3f).toInt64.toUInt64).toInt64))) (1 : Int32) (((p0.toUInt32 >>> ((2 : Int32) &&& 31).toUInt32).toInt32) &&& (3 : Int32))) (own_fix (if (((((q2.toUInt64 >>> ((42 : Int32) &&& 0x3f).toInt64.toUInt64).toInt64) &&& (7 : Int64)).toInt32) &&& (4 : Int32)) = (0 : Int32) then (own_cpv (p4.toInt64)) else (own_cpv (p3.toInt64))) (2 : Int32) (((p0.toUInt32 >>> ((2 : Int32) &&& 31).toUInt32).toInt32) &&& (3 : Int32)))))), .unset] [(.int (own_fix (if (((((q2.toUInt64 >>> ((42 : Int32) &&& 0x3f).toInt64.toUInt64).toInt64) &&& (7 : Int64)).toInt32) &&& (1 : Int32)) = (0 : Int32) then (own_cpv q2) else (own_cpv q1)) (0 : Int32) (((p0.toUInt32 >>> ((2 : Int32) &&& 31).toUInt32).toInt32) &&& (3 : Int32)))), (.int (((p0.toUInt32 >>> ((2 : Int32) &&& 31).toUInt32).toInt32) &&& (3 : Int32))), (.int (own_fix (own_cpv (p3.toInt64)) (2 : Int32) (p0 &&& (3 : Int32)))), (.int (own_fix (own_cpv ((q1.toUInt64 >>> ((21 : Int32) &&& 0x3f).toInt64.toUInt64).toInt64)) (1 : Int32) (p0 &&& (3 : Int32)))), (.int (own_fix (own_cpv q1) (0 : Int32) (p0 &&& (3 : Int32)))), (.int (p0 &&& (3 : Int32)))]))
     refine OwnFin.st (fun _ q => XS.iload X20.here hx rfl (hb hby at_209) rfl q) ?_
     show OwnFin _ _ _ _ (T20.setTop (mkF m 211 _ [(.int (own_fix (if (((((q2.toUInt64 >>> ((42 : Int32) &&& 0x3f).toInt64.toUInt64).toInt64) &&& (7 : Int64)).toInt32) &&& (2 : Int32)) = (0 : Int32) then (own_cpv ((q2.toUInt64 >>> ((21 : Int32) &&& 0x3f).toInt64.toUInt64).toInt64)) else (own_cpv ((q1.toUInt64 >>> ((21 : Int32) &&& 0x3f).toInt64.toUInt64).toInt64))) (1 : Int32) (((p0.toUInt32 >>> ((2 : Int32) &&& 31).toUInt32).toInt32) &&& (3 : Int32)))), (.int (own_fix (if (((((q2.toUInt64 >>> ((42 : Int32) &&& 0x3f).toInt64.toUInt64).toInt64) &&& (7 : Int64)).toInt32) &&& (1 : Int32)) = (0 : Int32) then (own_cpv q2) else (own_cpv q1)) (0 : Int32) (((p0.toUInt32 >>> ((2 : Int32) &&& 31).toUInt32).toInt32) &&& (3 : Int32)))), (.int (((p0.toUInt32 >>> ((2 : Int32) &&& 31).toUInt32).toInt32) &&& (3 : Int32))), (.int (own_fix (own_cpv (p3.toInt64)) (2 : Int32) (p0 &&& (3 : Int32)))), (.int (own_fix (own_cpv ((q1.toUInt64 >>> ((21 : Int32) &&& 0x3f).toInt64.toUInt64).toInt64)) (1 : Int32) (p0 &&& (3 : Int32)))), (.int (own_fix (own_cpv q1) (0 : Int32) (p0 &&& (3 : Int32)))), (.int (p0 &&& (3 : Int32)))]))
     refine OwnFin.st (fun _ q => XS.iload X20.here hx rfl (hb hby at_211) rfl q) ?_
     show OwnFin _ _ _ _ (T20.setTop (mkF m 213 _ [(.int (own_fix (if (((((q2.toUInt64 >>> ((42 : Int32) &&& 0x3f).toInt64.toUInt64).toInt64) &&& (7 : Int64)).toInt32) &&& (4 : Int32)) = (0 : Int32) then (own_cpv (p4.toInt64)) else (own_cpv (p3.toInt64))) (2 : Int32) (((p0.toUInt32 >>> ((2 : Int32) &&& 31).toUInt32).toInt32) &&& (3 : Int32)))), (.int (own_fix (if (((((q2.toUInt64 >>> ((42 : Int32) &&& 0x3f).toInt64.toUInt64).toInt64) &&& (7 : Int64)).toInt32) &&& (2 : Int32)) = (0 : Int32) then (own_cpv ((q2.toUInt64 >>> ((21 : Int32) &&& 0x3f).toInt64.toUInt64).toInt64)) else (own_cpv ((q1.toUInt64 >>> ((21 : Int32) &&& 0x3f).toInt64.toUInt64).toInt64))) (1 : Int32) (((p0.toUInt32 >>> ((2 : Int32) &&& 31).toUInt32).toInt32) &&& (3 : Int32)))), (.int (own_fix (if (((((q2.toUInt64 >>> ((42 : Int32) &&& 0x3f).toInt64.toUInt64).toInt64) &&& (7 : Int64)).toInt32) &&& (1 : Int32)) = (0 : Int32) then (own_cpv q2) else (own_cpv q1)) (0 : Int32) (((p0.toUInt32 >>> ((2 : Int32) &&& 31).toUInt32).toInt32) &&& (3 : Int32)))), (.int (((p0.toUInt32 >>> ((2 : Int32) &&& 31).toUInt32).toInt32) &&& (3 : Int32))), (.int (own_fix (own_cpv (p3.toInt64)) (2 : Int32) (p0 &&& (3 : Int32)))), (.int (own_fix (own_cpv ((q1.toUInt64 >>> ((21 : Int32) &&& 0x3f).toInt64.toUInt64).toInt64)) (1 : Int32) (p0 &&& (3 : Int32)))), (.int (own_fix (own_cpv q1) (0 : Int32) (p0 &&& (3 : Int32)))), (.int (p0 &&& (3 : Int32)))]))
     obtain ⟨_, _, ⟨T21, L21, k21, n21⟩, -, X21, ⟨Lc21, hQ21, l21, y21, z21⟩, st21⟩ := Jvm.LawKit.callS X20 hx (y := yM30) hor18 (mvT hZr18 (w_ hw 60 rfl)) (mvT hZr18 (w_ hw 61 rfl)) (mvT hZr18 (w_ hw 2 rfl)) (mvT hZr18 (w_ hw 62 rfl)) (by decide) (backOf (W := 0) (rm_ref l Z av0 hw [] (p0 &&& (3 : Int32)) (own_fix (own_cpv q1) (0 : Int32) (p0 &&& (3 : Int32))) (own_fix (own_cpv ((q1.toUInt64 >>> ((21 : Int32) &&& 0x3f).toInt64.toUInt64).toInt64)) (1 : Int32) (p0 &&& (3 : Int32))) (own_fix (own_cpv (p3.toInt64)) (2 : Int32) (p0 &&& (3 : Int32))) (((p0.toUInt32 >>> ((2 : Int32) &&& 31).toUInt32).toInt32) &&& (3 : Int32)) (own_fix (if (((((q2.toUInt64 >>> ((42 : Int32) &&& 0x3f).toInt64.toUInt64).toInt64) &&& (7 : Int64)).toInt32) &&& (1 : Int32)) = (0 : Int32) then (own_cpv q2) else (own_cpv q1)) (0 : Int32) (((p0.toUInt32 >>> ((2 : Int32) &&& 31).toUInt32).toInt32) &&& (3 : Int32))) (own_fix (if (((((q2.toUInt64 >>> ((42 : Int32) &&& 0x3f).toInt64.toUInt64).toInt64) &&& (7 : Int64)).toInt32) &&& (2 : Int32)) = (0 : Int32) then (own_cpv ((q2.toUInt64 >>> ((21 : Int32) &&& 0x3f).toInt64.toUInt64).toInt64)) else (own_cpv ((q1.toUInt64 >>> ((21 : Int32) &&& 0x3f).toInt64.toUInt64).toInt64))) (1 : Int32) (((p0.toUInt32 >>> ((2 : Int32) &&& 31).toUInt32).toInt32) &&& (3 : Int32))) (own_fix (if (((((q2.toUInt64 >>> ((42 : Int32) &&& 0x3f).toInt64.toUInt64).toInt64) &&& (7 : Int64)).toInt32) &&& (4 : Int32)) = (0 : Int32) then (own_cpv (p4.toInt64)) else (own_cpv (p3.toInt64))) (2 : Int32) (((p0.toUInt32 >>> ((2 : Int32) &&& 31).toUInt32).toInt32) &&& (3 : Int32))) h18 n0 (Nat.le_trans Z0 kp19.1) ) hZr18 (w_ hw 62 rfl) (w_ hw 2 rfl) (by decide) (by decide)) (g := (mkF m 213 #[.val (.int p0), .val (.long q1), .second, .val (.long q2), .second, .val (.int p3), .val (.int p4), .val (.int (p0 &&& (3 : Int32))), .val (.int (((p0.toUInt32 >>> ((2 : Int32) &&& 31).toUInt32).toInt32) &&& (3 : Int32))), .val (.int (own_fix (own_cpv q1) (0 : Int32) (p0 &&& (3 : Int32)))), .val (.int (own_fix (own_cpv ((q1.toUInt64 >>> ((21 : Int32) &&& 0x3f).toInt64.toUInt64).toInt64)) (1 : Int32) (p0 &&& (3 : Int32)))), .val (.int (own_fix (own_cpv (p3.toInt64)) (2 : Int32) (p0 &&& (3 : Int32)))), .val (.int (own_fix (if (((((q2.toUInt64 >>> ((42 : Int32) &&& 0x3f).toInt64.toUInt64).toInt64) &&& (7 : Int64)).toInt32) &&& (1 : Int32)) = (0 : Int32) then (own_cpv q2) else (own_cpv q1)) (0 : Int32) (((p0.toUInt32 >>> ((2 : Int32) &&& 31).toUInt32).toInt32) &&& (3 : Int32)))), .val (.int (own_fix (if (((((q2.toUInt64 >>> ((42 : Int32) &&& 0x3f).toInt64.toUInt64).toInt64) &&& (7 : Int64)).toInt32) &&& (2 : Int32)) = (0 : Int32) then (own_cpv ((q2.toUInt64 >>> ((21 : Int32) &&& 0x3f).toInt64.toUInt64).toInt64)) else (own_cpv ((q1.toUInt64 >>> ((21 : Int32) &&& 0x3f).toInt64.toUInt64).toInt64))) (1 : Int32) (((p0.toUInt32 >>> ((2 : Int32) &&& 31).toUInt32).toInt32) &&& (3 : Int32)))), .val (.int (own_fix (if (((((q2.toUInt64 >>> ((42 : Int32) &&& 0x3f).toInt64.toUInt64).toInt64) &&& (7 : Int64)).toInt32) &&& (4 : Int32)) = (0 : Int32) then (own_cpv (p4.toInt64)) else (own_cpv (p3.toInt64))) (2 : Int32) (((p0.toUInt32 >>> ((2 : Int32) &&& 31).toUInt32).toInt32) &&& (3 : Int32)))), .val (.int ((((q2.toUInt64 >>> ((42 : Int32) &&& 0x3f).toInt64.toUInt64).toInt64) &&& (7 : Int64)).toInt32)), .val (.ref c16_0), .val (.ref c18_0), .val (.int (own_cmpS (own_bcd (p0 &&& (3 : Int32)) (own_fix (own_cpv q1) (0 : Int32) (p0 &&& (3 : Int32))) (own_fix (own_cpv ((q1.toUInt64 >>> ((21 : Int32) &&& 0x3f).toInt64.toUInt64).toInt64)) (1 : Int32) (p0 &&& (3 : Int32))) (own_fix (own_cpv (p3.toInt64)) (2 : Int32) (p0 &&& (3 : Int32)))) (own_bz (p0 &&& (3 : Int32)) (own_fix (own_cpv q1) (0 : Int32) (p0 &&& (3 : Int32))) (own_fix (own_cpv ((q1.toUInt64 >>> ((21 : Int32) &&& 0x3f).toInt64.toUInt64).toInt64)) (1 : Int32) (p0 &&& (3 : Int32))) (own_fix (own_cpv (p3.toInt64)) (2 : Int32) (p0 &&& (3 : Int32)))) (own_bb (p0 &&& (3 : Int32)) (own_fix (own_cpv q1) (0 : Int32) (p0 &&& (3 : Int32))) (own_fix (own_cpv ((q1.toUInt64 >>> ((21 : Int32) &&& 0x3f).toInt64.toUInt64).toInt64)) (1 : Int32) (p0 &&& (3 : Int32))) (own_fix (own_cpv (p3.toInt64)) (2 : Int32) (p0 &&& (3 : Int32)))) (own_bcd (((p0.toUInt32 >>> ((2 : Int32) &&& 31).toUInt32).toInt32) &&& (3 : Int32)) (own_fix (if (((((q2.toUInt64 >>> ((42 : Int32) &&& 0x3f).toInt64.toUInt64).toInt64) &&& (7 : Int64)).toInt32) &&& (1 : Int32)) = (0 : Int32) then (own_cpv q2) else (own_cpv q1)) (0 : Int32) (((p0.toUInt32 >>> ((2 : Int32) &&& 31).toUInt32).toInt32) &&& (3 : Int32))) (own_fix (if (((((q2.toUInt64 >>> ((42 : Int32) &&& 0x3f).toInt64.toUInt64).toInt64) &&& (7 : Int64)).toInt32) &&& (2 : Int32)) = (0 : Int32) then (own_cpv ((q2.toUInt64 >>> ((21 : Int32) &&& 0x3f).toInt64.toUInt64).toInt64)) else (own_cpv ((q1.toUInt64 >>> ((21 : Int32) &&& 0x3f).toInt64.toUInt64).toInt64))) (1 : Int32) (((p0.toUInt32 >>> ((2 : Int32) &&& 31).toUInt32).toInt32) &&& (3 : Int32))) (own_fix (if (((((q2.toUInt64 >>> ((42 : Int32) &&& 0x3f).toInt64.toUInt64).toInt64) &&& (7 : Int64)).toInt32) &&& (4 : Int32)) = (0 : Int32) then (own_cpv (p4.toInt64)) else (own_cpv (p3.toInt64))) (2 : Int32) (((p0.toUInt32 >>> ((2 : Int32) &&& 31).toUInt32).toInt32) &&& (3 : Int32)))) (own_bz (((p0.toUInt32 >>> ((2 : Int32) &&& 31).toUInt32).toInt32) &&& (3 : Int32)) (own_fix (if (((((q2.toUInt64 >>> ((42 : Int32) &&& 0x3f).toInt64.toUInt64).toInt64) &&& (7 : Int64)).toInt32) &&& (1 : Int32)) = (0 : Int32) then (own_cpv q2) else (own_cpv q1)) (0 : Int32) (((p0.toUInt32 >>> ((2 : Int32) &&& 31).toUInt32).toInt32) &&& (3 : Int32))) (own_fix (if (((((q2.toUInt64 >>> ((42 : Int32) &&& 0x3f).toInt64.toUInt64).toInt64) &&& (7 : Int64)).toInt32) &&& (2 : Int32)) = (0 : Int32) then (own_cpv ((q2.toUInt64 >>> ((21 : Int32) &&& 0x3f).toInt64.toUInt64).toInt64)) else (own_cpv ((q1.toUInt64 >>> ((21 : Int32) &&& 0x3f).toInt64.toUInt64).toInt64))) (1 : Int32) (((p0.toUInt32 >>> ((2 : Int32) &&& 31).toUInt32).toInt32) &&& (3 : Int32))) (own_fix (if (((((q2.toUInt64 >>> ((42 : Int32) &&& 0x3f).toInt64.toUInt64).toInt64) &&& (7 : Int64)).toInt32) &&& (4 : Int32)) = (0 : Int32) then (own_cpv (p4.toInt64)) else (own_cpv (p3.toInt64))) (2 : Int32) (((p0.toUInt32 >>> ((2 : Int32) &&& 31).toUInt32).toInt32) &&& (3 : Int32)))) (own_bb (((p0.toUInt32 >>> ((2 : Int32) &&& 31).toUInt32).toInt32) &&& (3 : Int32)) (own_fix (if (((((q2.toUInt64 >>> ((42 : Int32) &&& 0x3f).toInt64.toUInt64).toInt64) &&& (7 : Int64)).toInt32) &&& (1 : Int32)) = (0 : Int32) then (own_cpv q2) else (own_cpv q1)) (0 : Int32) (((p0.toUInt32 >>> ((2 : Int32) &&& 31).toUInt32).toInt32) &&& (3 : Int32))) (own_fix (if (((((q2.toUInt64 >>> ((42 : Int32) &&& 0x3f).toInt64.toUInt64).toInt64) &&& (7 : Int64)).toInt32) &&& (2 : Int32)) = (0 : Int32) then (own_cpv ((q2.toUInt64 >>> ((21 : Int32) &&& 0x3f).toInt64.toUInt64).toInt64)) else (own_cpv ((q1.toUInt64 >>> ((21 : Int32) &&& 0x3f).toInt64.toUInt64).toInt64))) (1 : Int32) (((p0.toUInt32 >>> ((2 : Int32) &&& 31).toUInt32).toInt32) &&& (3 : Int32))) (own_fix (if (((((q2.toUInt64 >>> ((42 : Int32) &&& 0x3f).toInt64.toUInt64).toInt64) &&& (7 : Int64)).toInt32) &&& (4 : Int32)) = (0 : Int32) then (own_cpv (p4.toInt64)) else (own_cpv (p3.toInt64))) (2 : Int32) (((p0.toUInt32 >>> ((2 : Int32) &&& 31).toUInt32).toInt32) &&& (3 : Int32)))))), .unset] [(.int (own_fix (if (((((q2.toUInt64 >>> ((42 : Int32) &&& 0x3f).toInt64.toUInt64).toInt64) &&& (7 : Int64)).toInt32) &&& (4 : Int32)) = (0 : Int32) then (own_cpv (p4.toInt64)) else (own_cpv (p3.toInt64))) (2 : Int32) (((p0.toUInt32 >>> ((2 : Int32) &&& 31).toUInt32).toInt32) &&& (3 : Int32)))), (.int (own_fix (if (((((q2.toUInt64 >>> ((42 : Int32) &&& 0x3f).toInt64.toUInt64).toInt64) &&& (7 : Int64)).toInt32) &&& (2 : Int32)) = (0 : Int32) then (own_cpv ((q2.toUInt64 >>> ((21 : Int32) &&& 0x3f).toInt64.toUInt64).toInt64)) else (own_cpv ((q1.toUInt64 >>> ((21 : Int32) &&& 0x3f).toInt64.toUInt64).toInt64))) (1 : Int32) (((p0.toUInt32 >>> ((2 : Int32) &&& 31).toUInt32).toInt32) &&& (3 : Int32)))), (.int (own_fix (if (((((q2.toUInt64 >>> ((42 : Int32) &&& 0x3f).toInt64.toUInt64).toInt64) &&& (7 : Int64)).toInt32) &&& (1 : Int32)) = (0 : Int32) then (own_cpv q2) else (own_cpv q1)) (0 : Int32) (((p0.toUInt32 >>> ((2 : Int32) &&& 31).toUInt32).toInt32) &&& (3 : Int32)))), (.int (((p0.toUInt32 >>> ((2 : Int32) &&& 31).toUInt32).toInt32) &&& (3 : Int32))), (.int (own_fix (own_cpv (p3.toInt64)) (2 : Int32) (p0 &&& (3 : Int32)))), (.int (own_fix (own_cpv ((q1.toUInt64 >>> ((21 : Int32) &&& 0x3f).toInt64.toUInt64).toInt64)) (1 : Int32) (p0 &&& (3 : Int32)))), (.int (own_fix (own_cpv q1) (0 : Int32) (p0 &&& (3 : Int32)))), (.int (p0 &&& (3 : Int32)))])) rfl (by rw [hml]; rfl) (argsL := [(.int (p0 &&& (3 : Int32))), (.int (own_fix (own_cpv q1) (0 : Int32) (p0 &&& (3 : Int32)))), (.int (own_fix (own_cpv ((q1.toUInt64 >>> ((21 : Int32) &&& 0x3f).toInt64.toUInt64).toInt64)) (1 : Int32) (p0 &&& (3 : Int32)))), (.int (own_fix (own_cpv (p3.toInt64)) (2 : Int32) (p0 &&& (3 : Int32)))), (.int (((p0.toUInt32 >>> ((2 : Int32) &&& 31).toUInt32).toInt32) &&& (3 : Int32))), (.int (own_fix (if (((((q2.toUInt64 >>> ((42 : Int32) &&& 0x3f).toInt64.toUInt64).toInt64) &&& (7 : Int64)).toInt32) &&& (1 : Int32)) = (0 : Int32) then (own_cpv q2) else (own_cpv q1)) (0 : Int32) (((p0.toUInt32 >>> ((2 : Int32) &&& 31).toUInt32).toInt32) &&& (3 : Int32)))), (.int (own_fix (if (((((q2.toUInt64 >>> ((42 : Int32) &&& 0x3f).toInt64.toUInt64).toInt64) &&& (7 : Int64)).toInt32) &&& (2 : Int32)) = (0 : Int32) then (own_cpv ((q2.toUInt64 >>> ((21 : Int32) &&& 0x3f).toInt64.toUInt64).toInt64)) else (own_cpv ((q1.toUInt64 >>> ((21 : Int32) &&& 0x3f).toInt64.toUInt64).toInt64))) (1 : Int32) (((p0.toUInt32 >>> ((2 : Int32) &&& 31).toUInt32).toInt32) &&& (3 : Int32)))), (.int (own_fix (if (((((q2.toUInt64 >>> ((42 : Int32) &&& 0x3f).toInt64.toUInt64).toInt64) &&& (7 : Int64)).toInt32) &&& (4 : Int32)) = (0 : Int32) then (own_cpv (p4.toInt64)) else (own_cpv (p3.toInt64))) (2 : Int32) (((p0.toUInt32 >>> ((2 : Int32) &&& 31).toUInt32).toInt32) &&& (3 : Int32))))]) (rest := []) (lenOf pd_24 rfl) rfl (by show 2 * 0 + _ ≤ _; exact Nat.le_of_eq rfl) (hb hby at_213) (fun _ _ => ⟨rfl, he20, (by decide : 12 + 0 ≤ _), (by decide : 56 + 0 ≤ _)⟩)
     dsimp only [Pt.U, Pt.locs, Pt.cells, Pt.slots] at X21 l21 y21 z21 st21 hQ21
     subst l21 y21 z21
     obtain ⟨rfl, N21q, he21⟩ := hQ21
     have N21 := Fr.app N20 N21q
     refine OwnFin.st st21 ?_
     show OwnFin _ _ _ _ (T21.setTop (mkF m 216 _ [(.int (own_ref (p0 &&& (3 : Int32)) (own_fix (own_cpv q1) (0 : Int32) (p0 &&& (3 : Int32))) (own_fix (own_cpv ((q1.toUInt64 >>> ((21 : Int32) &&& 0x3f).toInt64.toUInt64).toInt64)) (1 : Int32) (p0 &&& (3 : Int32))) (own_fix (own_cpv (p3.toInt64)) (2 : Int32) (p0 &&& (3 : Int32))) (((p0.toUInt32 >>> ((2 : Int32) &&& 31).toUInt32).toInt32) &&& (3 : Int32)) (own_fix (if (((((q2.toUInt64 >>> ((42 : Int32) &&& 0x3f).toInt64.toUInt64).toInt64) &&& (7 : Int64)).toInt32) &&& (1 : Int32)) = (0 : Int32) then (own_cpv q2) else (own_cpv q1)) (0 : Int32) (((p0.toUInt32 >>> ((2 : Int32) &&& 31).toUInt32).toInt32) &&& (3 : Int32))) (own_fix (if (((((q2.toUInt64 >>> ((42 : Int32) &&& 0x3f).toInt64.toUInt64).toInt64) &&& (7 : Int64)).toInt32) &&& (2 : Int32)) = (0 : Int32) then (own_cpv ((q2.toUInt64 >>> ((21 : Int32) &&& 0x3f).toInt64.toUInt64).toInt64)) else (own_cpv ((q1.toUInt64 >>> ((21 : Int32) &&& 0x3f).toInt64.toUInt64).toInt64))) (1 : Int32) (((p0.toUInt32 >>> ((2 : Int32) &&& 31).toUInt32).toInt32) &&& (3 : Int32))) (own_fix (if (((((q2.toUInt64 >>> ((42 : Int32) &&& 0x3f).toInt64.toUInt64).toInt64) &&& (7 : Int64)).toInt32) &&& (4 : Int32)) = (0 : Int32) then (own_cpv (p4.toInt64)) else (own_cpv (p3.toInt64))) (2 : Int32) (((p0.toUInt32 >>> ((2 : Int32) &&& 31).toUInt32).toInt32) &&& (3 : Int32)))))]))
     refine OwnFin.st (fun _ q => XS.istore X21.here hx rfl (hb hby at_216) rfl (l' := #[.val (.int p0), .val (.long q1), .second, .val (.long q2), .second, .val (.int p3), .val (.int p4), .val (.int (p0 &&& (3 : Int32))), .val (.int (((p0.toUInt32 >>> ((2 : Int32) &&& 31).toUInt32).toInt32) &&& (3 : Int32))), .val (.int (own_fix (own_cpv q1) (0 : Int32) (p0 &&& (3 : Int32)))), .val (.int (own_fix (own_cpv ((q1.toUInt64 >>> ((21 : Int32) &&& 0x3f).toInt64.toUInt64).toInt64)) (1 : Int32) (p0 &&& (3 : Int32)))), .val (.int (own_fix (own_cpv (p3.toInt64)) (2 : Int32) (p0 &&& (3 : Int32)))), .val (.int (own_fix (if (((((q2.toUInt64 >>> ((42 : Int32) &&& 0x3f).toInt64.toUInt64).toInt64) &&& (7 : Int64)).toInt32) &&& (1 : Int32)) = (0 : Int32) then (own_cpv q2) else (own_cpv q1)) (0 : Int32) (((p0.toUInt32 >>> ((2 : Int32) &&& 31).toUInt32).toInt32) &&& (3 : Int32)))), .val (.int (own_fix (if (((((q2.toUInt64 >>> ((42 : Int32) &&& 0x3f).toInt64.toUInt64).toInt64) &&& (7 : Int64)).toInt32) &&& (2 : Int32)) = (0 : Int32) then (own_cpv ((q2.toUInt64 >>> ((21 : Int32) &&& 0x3f).toInt64.toUInt64).toInt64)) else (own_cpv ((q1.toUInt64 >>> ((21 : Int32) &&& 0x3f).toInt64.toUInt64).toInt64))) (1 : Int32) (((p0.toUInt32 >>> ((2 : Int32) &&& 31).toUInt32).toInt32) &&& (3 : Int32)))), .val (.int (own_fix (if (((((q2.toUInt64 >>> ((42 : Int32) &&& 0x3f).toInt64.toUInt64).toInt64) &&& (7 : Int64)).toInt32) &&& (4 : Int32)) = (0 : Int32) then (own_cpv (p4.toInt64)) else (own_cpv (p3.toInt64))) (2 : Int32) (((p0.toUInt32 >>> ((2 : Int32) &&& 31).toUInt32).toInt32) &&& (3 : Int32)))), .val (.int ((((q2.toUInt64 >>> ((42 : Int32) &&& 0x3f).toInt64.toUInt64).toInt64) &&& (7 : Int64)).toInt32)), .val (.ref c16_0), .val (.ref c18_0), .val (.int (own_cmpS (own_bcd (p0 &&& (3 : Int32)) (own_fix (own_cpv q1) (0 : Int32) (p0 &&& (3 : Int32))) (own_fix (own_cpv ((q1.toUInt64 >>> ((21 : Int32) &&& 0x3f).toInt64.toUInt64).toInt64)) (1 : Int32) (p0 &&& (3 : Int32))) (own_fix (own_cpv (p3.toInt64)) (2 : Int32) (p0 &&& (3 : Int32)))) (own_bz (p0 &&& (3 : Int32)) (own_fix (own_cpv q1) (0 : Int32) (p0 &&& (3 : Int32))) (own_fix (own_cpv ((q1.toUInt64 >>> ((21 : Int32) &&& 0x3f).toInt64.toUInt64).toInt64)) (1 : Int32) (p0 &&& (3 : Int32))) (own_fix (own_cpv (p3.toInt64)) (2 : Int32) (p0 &&& (3 : Int32)))) (own_bb (p0 &&& (3 : Int32)) (own_fix (own_cpv q1) (0 : Int32) (p0 &&& (3 : Int32))) (own_fix (own_cpv ((q1.toUInt64 >>> ((21 : Int32) &&& 0x3f).toInt64.toUInt64).toInt64)) (1 : Int32) (p0 &&& (3 : Int32))) (own_fix (own_cpv (p3.toInt64)) (2 : Int32) (p0 &&& (3 : Int32)))) (own_bcd (((p0.toUInt32 >>> ((2 : Int32) &&& 31).toUInt32).toInt32) &&& (3 : Int32)) (own_fix (if (((((q2.toUInt64 >>> ((42 : Int32) &&& 0x3f).toInt64.toUInt64).toInt64) &&& (7 : Int64)).toInt32) &&& (1 : Int32)) = (0 : Int32) then (own_cpv q2) else (own_cpv q1)) (0 : Int32) (((p0.toUInt32 >>> ((2 : Int32) &&& 31).toUInt32).toInt32) &&& (3 : Int32))) (own_fix (if (((((q2.toUInt64 >>> ((42 : Int32) &&& 0x3f).toInt64.toUInt64).toInt64) &&& (7 : Int64)).toInt32) &&& (2 : Int32)) = (0 : Int32) then (own_cpv ((q2.toUInt64 >>> ((21 : Int32) &&& 0x3f).toInt64.toUInt64).toInt64)) else (own_cpv ((q1.toUInt64 >>> ((21 : Int32) &&& 0x3f).toInt64.toUInt64).toInt64))) (1 : Int32) (((p0.toUInt32 >>> ((2 : Int32) &&& 31).toUInt32).toInt32) &&& (3 : Int32))) (own_fix (if (((((q2.toUInt64 >>> ((42 : Int32) &&& 0x3f).toInt64.toUInt64).toInt64) &&& (7 : Int64)).toInt32) &&& (4 : Int32)) = (0 : Int32) then (own_cpv (p4.toInt64)) else (own_cpv (p3.toInt64))) (2 : Int32) (((p0.toUInt32 >>> ((2 : Int32) &&& 31).toUInt32).toInt32) &&& (3 : Int32)))) (own_bz (((p0.toUInt32 >>> ((2 : Int32) &&& 31).toUInt32).toInt32) &&& (3 : Int32)) (own_fix (if (((((q2.toUInt64 >>> ((42 : Int32) &&& 0x3f).toInt64.toUInt64).toInt64) &&& (7 : Int64)).toInt32) &&& (1 : Int32)) = (0 : Int32) then (own_cpv q2) else (own_cpv q1)) (0 : Int32) (((p0.toUInt32 >>> ((2 : Int32) &&& 31).toUInt32).toInt32) &&& (3 : Int32))) (own_fix (if (((((q2.toUInt64 >>> ((42 : Int32) &&& 0x3f).toInt64.toUInt64).toInt64) &&& (7 : Int64)).toInt32) &&& (2 : Int32)) = (0 : Int32) then (own_cpv ((q2.toUInt64 >>> ((21 : Int32) &&& 0x3f).toInt64.toUInt64).toInt64)) else (own_cpv ((q1.toUInt64 >>> ((21 : Int32) &&& 0x3f).toInt64.toUInt64).toInt64))) (1 : Int32) (((p0.toUInt32 >>> ((2 : Int32) &&& 31).toUInt32).toInt32) &&& (3 : Int32))) (own_fix (if (((((q2.toUInt64 >>> ((42 : Int32) &&& 0x3f).toInt64.toUInt64).toInt64) &&& (7 : Int64)).toInt32) &&& (4 : Int32)) = (0 : Int32) then (own_cpv (p4.toInt64)) else (own_cpv (p3.toInt64))) (2 : Int32) (((p0.toUInt32 >>> ((2 : Int32) &&& 31).toUInt32).toInt32) &&& (3 : Int32)))) (own_bb (((p0.toUInt32 >>> ((2 : Int32) &&& 31).toUInt32).toInt32) &&& (3 : Int32)) (own_fix (if (((((q2.toUInt64 >>> ((42 : Int32) &&& 0x3f).toInt64.toUInt64).toInt64) &&& (7 : Int64)).toInt32) &&& (1 : Int32)) = (0 : Int32) then (own_cpv q2) else (own_cpv q1)) (0 : Int32) (((p0.toUInt32 >>> ((2 : Int32) &&& 31).toUInt32).toInt32) &&& (3 : Int32))) (own_fix (if (((((q2.toUInt64 >>> ((42 : Int32) &&& 0x3f).toInt64.toUInt64).toInt64) &&& (7 : Int64)).toInt32) &&& (2 : Int32)) = (0 : Int32) then (own_cpv ((q2.toUInt64 >>> ((21 : Int32) &&& 0x3f).toInt64.toUInt64).toInt64)) else (own_cpv ((q1.toUInt64 >>> ((21 : Int32) &&& 0x3f).toInt64.toUInt64).toInt64))) (1 : Int32) (((p0.toUInt32 >>> ((2 : Int32) &&& 31).toUInt32).toInt32) &&& (3 : Int32))) (own_fix (if (((((q2.toUInt64 >>> ((42 : Int32) &&& 0x3f).toInt64.toUInt64).toInt64) &&& (7 : Int64)).toInt32) &&& (4 : Int32)) = (0 : Int32) then (own_cpv (p4.toInt64)) else (own_cpv (p3.toInt64))) (2 : Int32) (((p0.toUInt32 >>> ((2 : Int32) &&& 31).toUInt32).toInt32) &&& (3 : Int32)))))), .val (.int (own_ref (p0 &&& (3 : Int32)) (own_fix (own_cpv q1) (0 : Int32) (p0 &&& (3 : Int32))) (own_fix (own_cpv ((q1.toUInt64 >>> ((21 : Int32) &&& 0x3f).toInt64.toUInt64).toInt64)) (1 : Int32) (p0 &&& (3 : Int32))) (own_fix (own_cpv (p3.toInt64)) (2 : Int32) (p0 &&& (3 : Int32))) (((p0.toUInt32 >>> ((2 : Int32) &&& 31).toUInt32).toInt32) &&& (3 : Int32)) (own_fix (if (((((q2.toUInt64 >>> ((42 : Int32) &&& 0x3f).toInt64.toUInt64).toInt64) &&& (7 : Int64)).toInt32) &&& (1 : Int32)) = (0 : Int32) then (own_cpv q2) else (own_cpv q1)) (0 : Int32) (((p0.toUInt32 >>> ((2 : Int32) &&& 31).toUInt32).toInt32) &&& (3 : Int32))) (own_fix (if (((((q2.toUInt64 >>> ((42 : Int32) &&& 0x3f).toInt64.toUInt64).toInt64) &&& (7 : Int64)).toInt32) &&& (2 : Int32)) = (0 : Int32) then (own_cpv ((q2.toUInt64 >>> ((21 : Int32) &&& 0x3f).toInt64.toUInt64).toInt64)) else (own_cpv ((q1.toUInt64 >>> ((21 : Int32) &&& 0x3f).toInt64.toUInt64).toInt64))) (1 : Int32) (((p0.toUInt32 >>> ((2 : Int32) &&& 31).toUInt32).toInt32) &&& (3 : Int32))) (own_fix (if (((((q2.toUInt64 >>> ((42 : Int32) &&& 0x3f).toInt64.toUInt64).toInt64) &&& (7 : Int64)).toInt32) &&& (4 : Int32)) = (0 : Int32) then (own_cpv (p4.toInt64)) else (own_cpv (p3.toInt64))) (2 : Int32) (((p0.toUInt32 >>> ((2 : Int32) &&& 31).toUInt32).toInt32) &&& (3 : Int32)))))]) rfl q) ?_
     show OwnFin _ _ _ _ (T21.setTop (mkF m 218 _ []))
     refine OwnFin.st (fun _ q => XS.iload X21.here hx rfl (hb hby at_218) rfl q) ?_
     show OwnFin _ _ _ _ (T21.setTop (mkF m 220 _ [(.int (own_cmpS (own_bcd (p0 &&& (3 : Int32)) (own_fix (own_cpv q1) (0 : Int32) (p0 &&& (3 : Int32))) (own_fix (own_cpv ((q1.toUInt64 >>> ((21 : Int32) &&& 0x3f).toInt64.toUInt64).toInt64)) (1 : Int32) (p0 &&& (3 : Int32))) (own_fix (own_cpv (p3.toInt64)) (2 : Int32) (p0 &&& (3 : Int32)))) (own_bz (p0 &&& (3 : Int32)) (own_fix (own_cpv q1) (0 : Int32) (p0 &&& (3 : Int32))) (own_fix (own_cpv ((q1.toUInt64 >>> ((21 : Int32) &&& 0x3f).toInt64.toUInt64).toInt64)) (1 : Int32) (p0 &&& (3 : Int32))) (own_fix (own_cpv (p3.toInt64)) (2 : Int32) (p0 &&& (3 : Int32)))) (own_bb (p0 &&& (3 : Int32)) (own_fix (own_cpv q1) (0 : Int32) (p0 &&& (3 : Int32))) (own_fix (own_cpv ((q1.toUInt64 >>> ((21 : Int32) &&& 0x3f).toInt64.toUInt64).toInt64)) (1 : Int32) (p0 &&& (3 : Int32))) (own_fix (own_cpv (p3.toInt64)) (2 : Int32) (p0 &&& (3 : Int32)))) (own_bcd (((p0.toUInt32 >>> ((2 : Int32) &&& 31).toUInt32).toInt32) &&& (3 : Int32)) (own_fix (if (((((q2.toUInt64 >>> ((42 : Int32) &&& 0x3f).toInt64.toUInt64).toInt64) &&& (7 : Int64)).toInt32) &&& (1 : Int32)) = (0 : Int32) then (own_cpv q2) else (own_cpv q1)) (0 : Int32) (((p0.toUInt32 >>> ((2 : Int32) &&& 31).toUInt32).toInt32) &&& (3 : Int32))) (own_fix (if (((((q2.toUInt64 >>> ((42 : Int32) &&& 0x3f).toInt64.toUInt64).toInt64) &&& (7 : Int64)).toInt32) &&& (2 : Int32)) = (0 : Int32) then (own_cpv ((q2.toUInt64 >>> ((21 : Int32) &&& 0x3f).toInt64.toUInt64).toInt64)) else (own_cpv ((q1.toUInt64 >>> ((21 : Int32) &&& 0x3f).toInt64.toUInt64).toInt64))) (1 : Int32) (((p0.toUInt32 >>> ((2 : Int32) &&& 31).toUInt32).toInt32) &&& (3 : Int32))) (own_fix (if (((((q2.toUInt64 >>> ((42 : Int32) &&& 0x3f).toInt64.toUInt64).toInt64) &&& (7 : Int64)).toInt32) &&& (4 : Int32)) = (0 : Int32) then (own_cpv (p4.toInt64)) else (own_cpv (p3.toInt64))) (2 : Int32) (((p0.toUInt32 >>> ((2 : Int32) &&& 31).toUInt32).toInt32) &&& (3 : Int32)))) (own_bz (((p0.toUInt32 >>> ((2 : Int32) &&& 31).toUInt32).toInt32) &&& (3 : Int32)) (own_fix (if (((((q2.toUInt64 >>> ((42 : Int32) &&& 0x3f).toInt64.toUInt64).toInt64) &&& (7 : Int64)).toInt32) &&& (1 : Int32)) = (0 : Int32) then (own_cpv q2) else (own_cpv q1)) (0 : Int32) (((p0.toUInt32 >>> ((2 : Int32) &&& 31).toUInt32).toInt32) &&& (3 : Int32))) (own_fix (if (((((q2.toUInt64 >>> ((42 : Int32) &&& 0x3f).toInt64.toUInt64).toInt64) &&& (7 : Int64)).toInt32) &&& (2 : Int32)) = (0 : Int32) then (own_cpv ((q2.toUInt64 >>> ((21 : Int32) &&& 0x3f).toInt64.toUInt64).toInt64)) else (own_cpv ((q1.toUInt64 >>> ((21 : Int32) &&& 0x3f).toInt64.toUInt64).toInt64))) (1 : Int32) (((p0.toUInt32 >>> ((2 : Int32) &&& 31).toUInt32).toInt32) &&& (3 : Int32))) (own_fix (if (((((q2.toUInt64 >>> ((42 : Int32) &&& 0x3f).toInt64.toUInt64).toInt64) &&& (7 : Int64)).toInt32) &&& (4 : Int32)) = (0 : Int32) then (own_cpv (p4.toInt64)) else (own_cpv (p3.toInt64))) (2 : Int32) (((p0.toUInt32 >>> ((2 : Int32) &&& 31).toUInt32).toInt32) &&& (3 : Int32)))) (own_bb (((p0.toUInt32 >>> ((2 : Int32) &&& 31).toUInt32).toInt32) &&& (3 : Int32)) (own_fix (if (((((q2.toUInt64 >>> ((42 : Int32) &&& 0x3f).toInt64.toUInt64).toInt64) &&& (7 : Int64)).toInt32) &&& (1 : Int32)) = (0 : Int32) then (own_cpv q2) else (own_cpv q1)) (0 : Int32) (((p0.toUInt32 >>> ((2 : Int32) &&& 31).toUInt32).toInt32) &&& (3 : Int32))) (own_fix (if (((((q2.toUInt64 >>> ((42 : Int32) &&& 0x3f).toInt64.toUInt64).toInt64) &&& (7 : Int64)).toInt32) &&& (2 : Int32)) = (0 : Int32) then (own_cpv ((q2.toUInt64 >>> ((21 : Int32) &&& 0x3f).toInt64.toUInt64).toInt64)) else (own_cpv ((q1.toUInt64 >>> ((21 : Int32) &&& 0x3f).toInt64.toUInt64).toInt64))) (1 : Int32) (((p0.toUInt32 >>> ((2 : Int32) &&& 31).toUInt32).toInt32) &&& (3 : Int32))) (own_fix (if (((((q2.toUInt64 >>> ((42 : Int32) &&& 0x3f).toInt64.toUInt64).toInt64) &&& (7 : Int64)).toInt32) &&& (4 : Int32)) = (0 : Int32) then (own_cpv (p4.toInt64)) else (own_cpv (p3.toInt64))) (2 : Int32) (((p0.toUInt32 >>> ((2 : Int32) &&& 31).toUInt32).toInt32) &&& (3 : Int32))))))]))
     obtain ⟨_, _, ⟨T22, L22, k22, n22⟩, -, X22, ⟨Lc22, hQ22, l22, y22, z22⟩, st22⟩ := Jvm.LawKit.callS X21 hx (y := yM29) hor18 (mvT hZr18 (w_ hw 63 rfl)) (mvT hZr18 (w_ hw 64 rfl)) (mvT hZr18 (w_ hw 2 rfl)) (mvT hZr18 (w_ hw 65 rfl)) (by decide) (backOf (W := 0) (rm_sg l Z av0 hw [] (own_cmpS (own_bcd (p0 &&& (3 : Int32)) (own_fix (own_cpv q1) (0 : Int32) (p0 &&& (3 : Int32))) (own_fix (own_cpv ((q1.toUInt64 >>> ((21 : Int32) &&& 0x3f).toInt64.toUInt64).toInt64)) (1 : Int32) (p0 &&& (3 : Int32))) (own_fix (own_cpv (p3.toInt64)) (2 : Int32) (p0 &&& (3 : Int32)))) (own_bz (p0 &&& (3 : Int32)) (own_fix (own_cpv q1) (0 : Int32) (p0 &&& (3 : Int32))) (own_fix (own_cpv ((q1.toUInt64 >>> ((21 : Int32) &&& 0x3f).toInt64.toUInt64).toInt64)) (1 : Int32) (p0 &&& (3 : Int32))) (own_fix (own_cpv (p3.toInt64)) (2 : Int32) (p0 &&& (3 : Int32)))) (own_bb (p0 &&& (3 : Int32)) (own_fix (own_cpv q1) (0 : Int32) (p0 &&& (3 : Int32))) (own_fix (own_cpv ((q1.toUInt64 >>> ((21 : Int32) &&& 0x3f).toInt64.toUInt64).toInt64)) (1 : Int32) (p0 &&& (3 : Int32))) (own_fix (own_cpv (p3.toInt64)) (2 : Int32) (p0 &&& (3 : Int32)))) (own_bcd (((p0.toUInt32 >>> ((2 : Int32) &&& 31).toUInt32).toInt32) &&& (3 : Int32)) (own_fix (if (((((q2.toUInt64 >>> ((42 : Int32) &&& 0x3f).toInt64.toUInt64).toInt64) &&& (7 : Int64)).toInt32) &&& (1 : Int32)) = (0 : Int32) then (own_cpv q2) else (own_cpv q1)) (0 : Int32) (((p0.toUInt32 >>> ((2 : Int32) &&& 31).toUInt32).toInt32) &&& (3 : Int32))) (own_fix (if (((((q2.toUInt64 >>> ((42 : Int32) &&& 0x3f).toInt64.toUInt64).toInt64) &&& (7 : Int64)).toInt32) &&& (2 : Int32)) = (0 : Int32) then (own_cpv ((q2.toUInt64 >>> ((21 : Int32) &&& 0x3f).toInt64.toUInt64).toInt64)) else (own_cpv ((q1.toUInt64 >>> ((21 : Int32) &&& 0x3f).toInt64.toUInt64).toInt64))) (1 : Int32) (((p0.toUInt32 >>> ((2 : Int32) &&& 31).toUInt32).toInt32) &&& (3 : Int32))) (own_fix (if (((((q2.toUInt64 >>> ((42 : Int32) &&& 0x3f).toInt64.toUInt64).toInt64) &&& (7 : Int64)).toInt32) &&& (4 : Int32)) = (0 : Int32) then (own_cpv (p4.toInt64)) else (own_cpv (p3.toInt64))) (2 : Int32) (((p0.toUInt32 >>> ((2 : Int32) &&& 31).toUInt32).toInt32) &&& (3 : Int32)))) (own_bz (((p0.toUInt32 >>> ((2 : Int32) &&& 31).toUInt32).toInt32) &&& (3 : Int32)) (own_fix (if (((((q2.toUInt64 >>> ((42 : Int32) &&& 0x3f).toInt64.toUInt64).toInt64) &&& (7 : Int64)).toInt32) &&& (1 : Int32)) = (0 : Int32) then (own_cpv q2) else (own_cpv q1)) (0 : Int32) (((p0.toUInt32 >>> ((2 : Int32) &&& 31).toUInt32).toInt32) &&& (3 : Int32))) (own_fix (if (((((q2.toUInt64 >>> ((42 : Int32) &&& 0x3f).toInt64.toUInt64).toInt64) &&& (7 : Int64)).toInt32) &&& (2 : Int32)) = (0 : Int32) then (own_cpv ((q2.toUInt64 >>> ((21 : Int32) &&& 0x3f).toInt64.toUInt64).toInt64)) else (own_cpv ((q1.toUInt64 >>> ((21 : Int32) &&& 0x3f).toInt64.toUInt64).toInt64))) (1 : Int32) (((p0.toUInt32 >>> ((2 : Int32) &&& 31).toUInt32).toInt32) &&& (3 : Int32))) (own_fix (if (((((q2.toUInt64 >>> ((42 : Int32) &&& 0x3f).toInt64.toUInt64).toInt64) &&& (7 : Int64)).toInt32) &&& (4 : Int32)) = (0 : Int32) then (own_cpv (p4.toInt64)) else (own_cpv (p3.toInt64))) (2 : Int32) (((p0.toUInt32 >>> ((2 : Int32) &&& 31).toUInt32).toInt32) &&& (3 : Int32)))) (own_bb (((p0.toUInt32 >>> ((2 : Int32) &&& 31).toUInt32).toInt32) &&& (3 : Int32)) (own_fix (if (((((q2.toUInt64 >>> ((42 : Int32) &&& 0x3f).toInt64.toUInt64).toInt64) &&& (7 : Int64)).toInt32) &&& (1 : Int32)) = (0 : Int32) then (own_cpv q2) else (own_cpv q1)) (0 : Int32) (((p0.toUInt32 >>> ((2 : Int32) &&& 31).toUInt32).toInt32) &&& (3 : Int32))) (own_fix (if (((((q2.toUInt64 >>> ((42 : Int32) &&& 0x3f).toInt64.toUInt64).toInt64) &&& (7 : Int64)).toInt32) &&& (2 : Int32)) = (0 : Int32) then (own_cpv ((q2.toUInt64 >>> ((21 : Int32) &&& 0x3f).toInt64.toUInt64).toInt64)) else (own_cpv ((q1.toUInt64 >>> ((21 : Int32) &&& 0x3f).toInt64.toUInt64).toInt64))) (1 : Int32) (((p0.toUInt32 >>> ((2 : Int32) &&& 31).toUInt32).toInt32) &&& (3 : Int32))) (own_fix (if (((((q2.toUInt64 >>> ((42 : Int32) &&& 0x3f).toInt64.toUInt64).toInt64) &&& (7 : Int64)).toInt32) &&& (4 : Int32)) = (0 : Int32) then (own_cpv (p4.toInt64)) else (own_cpv (p3.toInt64))) (2 : Int32) (((p0.toUInt32 >>> ((2 : Int32) &&& 31).toUInt32).toInt32) &&& (3 : Int32))))) h18 n0 (Nat.le_trans Z0 kp19.1) ) hZr18 (w_ hw 65 rfl) (w_ hw 2 rfl) (by decide) (by decide)) (g := (mkF m 220 #[.val (.int p0), .val (.long q1), .second, .val (.long q2), .second, .val (.int p3), .val (.int p4), .val (.int (p0 &&& (3 : Int32))), .val (.int (((p0.toUInt32 >>> ((2 : Int32) &&& 31).toUInt32).toInt32) &&& (3 : Int32))), .val (.int (own_fix (own_cpv q1) (0 : Int32) (p0 &&& (3 : Int32)))), .val (.int (own_fix (own_cpv ((q1.toUInt64 >>> ((21 : Int32) &&& 0x3f).toInt64.toUInt64).toInt64)) (1 : Int32) (p0 &&& (3 : Int32)))), .val (.int (own_fix (own_cpv (p3.toInt64)) (2 : Int32) (p0 &&& (3 : Int32)))), .val (.int (own_fix (if (((((q2.toUInt64 >>> ((42 : Int32) &&& 0x3f).toInt64.toUInt64).toInt64) &&& (7 : Int64)).toInt32) &&& (1 : Int32)) = (0 : Int32) then (own_cpv q2) else (own_cpv q1)) (0 : Int32) (((p0.toUInt32 >>> ((2 : Int32) &&& 31).toUInt32).toInt32) &&& (3 : Int32)))), .val (.int (own_fix (if (((((q2.toUInt64 >>> ((42 : Int32) &&& 0x3f).toInt64.toUInt64).toInt64) &&& (7 : Int64)).toInt32) &&& (2 : Int32)) = (0 : Int32) then (own_cpv ((q2.toUInt64 >>> ((21 : Int32) &&& 0x3f).toInt64.toUInt64).toInt64)) else (own_cpv ((q1.toUInt64 >>> ((21 : Int32) &&& 0x3f).toInt64.toUInt64).toInt64))) (1 : Int32) (((p0.toUInt32 >>> ((2 : Int32) &&& 31).toUInt32).toInt32) &&& (3 : Int32)))), .val (.int (own_fix (if (((((q2.toUInt64 >>> ((42 : Int32) &&& 0x3f).toInt64.toUInt64).toInt64) &&& (7 : Int64)).toInt32) &&& (4 : Int32)) = (0 : Int32) then (own_cpv (p4.toInt64)) else (own_cpv (p3.toInt64))) (2 : Int32) (((p0.toUInt32 >>> ((2 : Int32) &&& 31).toUInt32).toInt32) &&& (3 : Int32)))), .val (.int ((((q2.toUInt64 >>> ((42 : Int32) &&& 0x3f).toInt64.toUInt64).toInt64) &&& (7 : Int64)).toInt32)), .val (.ref c16_0), .val (.ref c18_0), .val (.int (own_cmpS (own_bcd (p0 &&& (3 : Int32)) (own_fix (own_cpv q1) (0 : Int32) (p0 &&& (3 : Int32))) (own_fix (own_cpv ((q1.toUInt64 >>> ((21 : Int32) &&& 0x3f).toInt64.toUInt64).toInt64)) (1 : Int32) (p0 &&& (3 : Int32))) (own_fix (own_cpv (p3.toInt64)) (2 : Int32) (p0 &&& (3 : Int32)))) (own_bz (p0 &&& (3 : Int32)) (own_fix (own_cpv q1) (0 : Int32) (p0 &&& (3 : Int32))) (own_fix (own_cpv ((q1.toUInt64 >>> ((21 : Int32) &&& 0x3f).toInt64.toUInt64).toInt64)) (1 : Int32) (p0 &&& (3 : Int32))) (own_fix (own_cpv (p3.toInt64)) (2 : Int32) (p0 &&& (3 : Int32)))) (own_bb (p0 &&& (3 : Int32)) (own_fix (own_cpv q1) (0 : Int32) (p0 &&& (3 : Int32))) (own_fix (own_cpv ((q1.toUInt64 >>> ((21 : Int32) &&& 0x3f).toInt64.toUInt64).toInt64)) (1 : Int32) (p0 &&& (3 : Int32))) (own_fix (own_cpv (p3.toInt64)) (2 : Int32) (p0 &&& (3 : Int32)))) (own_bcd (((p0.toUInt32 >>> ((2 : Int32) &&& 31).toUInt32).toInt32) &&& (3 : Int32)) (own_fix (if (((((q2.toUInt64 >>> ((42 : Int32) &&& 0x3f).toInt64.toUInt64).toInt64) &&& (7 : Int64)).toInt32) &&& (1 : Int32)) = (0 : Int32) then (own_cpv q2) else (own_cpv q1)) (0 : Int32) (((p0.toUInt32 >>> ((2 : Int32) &&& 31).toUInt32).toInt32) &&& (3 : Int32))) (own_fix (if (((((q2.toUInt64 >>> ((42 : Int32) &&& 0x3f).toInt64.toUInt64).toInt64) &&& (7 : Int64)).toInt32) &&& (2 : Int32)) = (0 : Int32) then (own_cpv ((q2.toUInt64 >>> ((21 : Int32) &&& 0x3f).toInt64.toUInt64).toInt64)) else (own_cpv ((q1.toUInt64 >>> ((21 : Int32) &&& 0x3f).toInt64.toUInt64).toInt64))) (1 : Int32) (((p0.toUInt32 >>> ((2 : Int32) &&& 31).toUInt32).toInt32) &&& (3 : Int32))) (own_fix (if (((((q2.toUInt64 >>> ((42 : Int32) &&& 0x3f).toInt64.toUInt64).toInt64) &&& (7 : Int64)).toInt32) &&& (4 : Int32)) = (0 : Int32) then (own_cpv (p4.toInt64)) else (own_cpv (p3.toInt64))) (2 : Int32) (((p0.toUInt32 >>> ((2 : Int32) &&& 31).toUInt32).toInt32) &&& (3 : Int32)))) (own_bz (((p0.toUInt32 >>> ((2 : Int32) &&& 31).toUInt32).toInt32) &&& (3 : Int32)) (own_fix (if (((((q2.toUInt64 >>> ((42 : Int32) &&& 0x3f).toInt64.toUInt64).toInt64) &&& (7 : Int64)).toInt32) &&& (1 : Int32)) = (0 : Int32) then (own_cpv q2) else (own_cpv q1)) (0 : Int32) (((p0.toUInt32 >>> ((2 : Int32) &&& 31).toUInt32).toInt32) &&& (3 : Int32))) (own_fix (if (((((q2.toUInt64 >>> ((42 : Int32) &&& 0x3f).toInt64.toUInt64).toInt64) &&& (7 : Int64)).toInt32) &&& (2 : Int32)) = (0 : Int32) then (own_cpv ((q2.toUInt64 >>> ((21 : Int32) &&& 0x3f).toInt64.toUInt64).toInt64)) else (own_cpv ((q1.toUInt64 >>> ((21 : Int32) &&& 0x3f).toInt64.toUInt64).toInt64))) (1 : Int32) (((p0.toUInt32 >>> ((2 : Int32) &&& 31).toUInt32).toInt32) &&& (3 : Int32))) (own_fix (if (((((q2.toUInt64 >>> ((42 : Int32) &&& 0x3f).toInt64.toUInt64).toInt64) &&& (7 : Int64)).toInt32) &&& (4 : Int32)) = (0 : Int32) then (own_cpv (p4.toInt64)) else (own_cpv (p3.toInt64))) (2 : Int32) (((p0.toUInt32 >>> ((2 : Int32) &&& 31).toUInt32).toInt32) &&& (3 : Int32)))) (own_bb (((p0.toUInt32 >>> ((2 : Int32) &&& 31).toUInt32).toInt32) &&& (3 : Int32)) (own_fix (if (((((q2.toUInt64 >>> ((42 : Int32) &&& 0x3f).toInt64.toUInt64).toInt64) &&& (7 : Int64)).toInt32) &&& (1 : Int32)) = (0 : Int32) then (own_cpv q2) else (own_cpv q1)) (0 : Int32) (((p0.toUInt32 >>> ((2 : Int32) &&& 31).toUInt32).toInt32) &&& (3 : Int32))) (own_fix (if (((((q2.toUInt64 >>> ((42 : Int32) &&& 0x3f).toInt64.toUInt64).toInt64) &&& (7 : Int64)).toInt32) &&& (2 : Int32)) = (0 : Int32) then (own_cpv ((q2.toUInt64 >>> ((21 : Int32) &&& 0x3f).toInt64.toUInt64).toInt64)) else (own_cpv ((q1.toUInt64 >>> ((21 : Int32) &&& 0x3f).toInt64.toUInt64).toInt64))) (1 : Int32) (((p0.toUInt32 >>> ((2 : Int32) &&& 31).toUInt32).toInt32) &&& (3 : Int32))) (own_fix (if (((((q2.toUInt64 >>> ((42 : Int32) &&& 0x3f).toInt64.toUInt64).toInt64) &&& (7 : Int64)).toInt32) &&& (4 : Int32)) = (0 : Int32) then (own_cpv (p4.toInt64)) else (own_cpv (p3.toInt64))) (2 : Int32) (((p0.toUInt32 >>> ((2 : Int32) &&& 31).toUInt32).toInt32) &&& (3 : Int32)))))), .val (.int (own_ref (p0 &&& (3 : Int32)) (own_fix (own_cpv q1) (0 : Int32) (p0 &&& (3 : Int32))) (own_fix (own_cpv ((q1.toUInt64 >>> ((21 : Int32) &&& 0x3f).toInt64.toUInt64).toInt64)) (1 : Int32) (p0 &&& (3 : Int32))) (own_fix (own_cpv (p3.toInt64)) (2 : Int32) (p0 &&& (3 : Int32))) (((p0.toUInt32 >>> ((2 : Int32) &&& 31).toUInt32).toInt32) &&& (3 : Int32)) (own_fix (if (((((q2.toUInt64 >>> ((42 : Int32) &&& 0x3f).toInt64.toUInt64).toInt64) &&& (7 : Int64)).toInt32) &&& (1 : Int32)) = (0 : Int32) then (own_cpv q2) else (own_cpv q1)) (0 : Int32) (((p0.toUInt32 >>> ((2 : Int32) &&& 31).toUInt32).toInt32) &&& (3 : Int32))) (own_fix (if (((((q2.toUInt64 >>> ((42 : Int32) &&& 0x3f).toInt64.toUInt64).toInt64) &&& (7 : Int64)).toInt32) &&& (2 : Int32)) = (0 : Int32) then (own_cpv ((q2.toUInt64 >>> ((21 : Int32) &&& 0x3f).toInt64.toUInt64).toInt64)) else (own_cpv ((q1.toUInt64 >>> ((21 : Int32) &&& 0x3f).toInt64.toUInt64).toInt64))) (1 : Int32) (((p0.toUInt32 >>> ((2 : Int32) &&& 31).toUInt32).toInt32) &&& (3 : Int32))) (own_fix (if (((((q2.toUInt64 >>> ((42 : Int32) &&& 0x3f).toInt64.toUInt64).toInt64) &&& (7 : Int64)).toInt32) &&& (4 : Int32)) = (0 : Int32) then (own_cpv (p4.toInt64)) else (own_cpv (p3.toInt64))) (2 : Int32) (((p0.toUInt32 >>> ((2 : Int32) &&& 31).toUInt32).toInt32) &&& (3 : Int32)))))] [(.int (own_cmpS (own_bcd (p0 &&& (3 : Int32)) (own_fix (own_cpv q1) (0 : Int32) (p0 &&& (3 : Int32))) (own_fix (own_cpv ((q1.toUInt64 >>> ((21 : Int32) &&& 0x3f).toInt64.toUInt64).toInt64)) (1 : Int32) (p0 &&& (3 : Int32))) (own_fix (own_cpv (p3.toInt64)) (2 : Int32) (p0 &&& (3 : Int32)))) (own_bz (p0 &&& (3 : Int32)) (own_fix (own_cpv q1) (0 : Int32) (p0 &&& (3 : Int32))) (own_fix (own_cpv ((q1.toUInt64 >>> ((21 : Int32) &&& 0x3f).toInt64.toUInt64).toInt64)) (1 : Int32) (p0 &&& (3 : Int32))) (own_fix (own_cpv (p3.toInt64)) (2 : Int32) (p0 &&& (3 : Int32)))) (own_bb (p0 &&& (3 : Int32)) (own_fix (own_cpv q1) (0 : Int32) (p0 &&& (3 : Int32))) (own_fix (own_cpv ((q1.toUInt64 >>> ((21 : Int32) &&& 0x3f).toInt64.toUInt64).toInt64)) (1 : Int32) (p0 &&& (3 : Int32))) (own_fix (own_cpv (p3.toInt64)) (2 : Int32) (p0 &&& (3 : Int32)))) (own_bcd (((p0.toUInt32 >>> ((2 : Int32) &&& 31).toUInt32).toInt32) &&& (3 : Int32)) (own_fix (if (((((q2.toUInt64 >>> ((42 : Int32) &&& 0x3f).toInt64.toUInt64).toInt64) &&& (7 : Int64)).toInt32) &&& (1 : Int32)) = (0 : Int32) then (own_cpv q2) else (own_cpv q1)) (0 : Int32) (((p0.toUInt32 >>> ((2 : Int32) &&& 31).toUInt32).toInt32) &&& (3 : Int32))) (own_fix (if (((((q2.toUInt64 >>> ((42 : Int32) &&& 0x3f).toInt64.toUInt64).toInt64) &&& (7 : Int64)).toInt32) &&& (2 : Int32)) = (0 : Int32) then (own_cpv ((q2.toUInt64 >>> ((21 : Int32) &&& 0x3f).toInt64.toUInt64).toInt64)) else (own_cpv ((q1.toUInt64 >>> ((21 : Int32) &&& 0x3f).toInt64.toUInt64).toInt64))) (1 : Int32) (((p0.toUInt32 >>> ((2 : Int32) &&& 31).toUInt32).toInt32) &&& (3 : Int32))) (own_fix (if (((((q2.toUInt64 >>> ((42 : Int32) &&& 0x3f).toInt64.toUInt64).toInt64) &&& (7 : Int64)).toInt32) &&& (4 : Int32)) = (0 : Int32) then (own_cpv (p4.toInt64)) else (own_cpv (p3.toInt64))) (2 : Int32) (((p0.toUInt32 >>> ((2 : Int32) &&& 31).toUInt32).toInt32) &&& (3 : Int32)))) (own_bz (((p0.toUInt32 >>> ((2 : Int32) &&& 31).toUInt32).toInt32) &&& (3 : Int32)) (own_fix (if (((((q2.toUInt64 >>> ((42 : Int32) &&& 0x3f).toInt64.toUInt64).toInt64) &&& (7 : Int64)).toInt32) &&& (1 : Int32)) = (0 : Int32) then (own_cpv q2) else (own_cpv q1)) (0 : Int32) (((p0.toUInt32 >>> ((2 : Int32) &&& 31).toUInt32).toInt32) &&& (3 : Int32))) (own_fix (if (((((q2.toUInt64 >>> ((42 : Int32) &&& 0x3f).toInt64.toUInt64).toInt64) &&& (7 : Int64)).toInt32) &&& (2 : Int32)) = (0 : Int32) then (own_cpv ((q2.toUInt64 >>> ((21 : Int32) &&& 0x3f).toInt64.toUInt64).toInt64)) else (own_cpv ((q1.toUInt64 >>> ((21 : Int32) &&& 0x3f).toInt64.toUInt64).toInt64))) (1 : Int32) (((p0.toUInt32 >>> ((2 : Int32) &&& 31).toUInt32).toInt32) &&& (3 : Int32))) (own_fix (if (((((q2.toUInt64 >>> ((42 : Int32) &&& 0x3f).toInt64.toUInt64).toInt64) &&& (7 : Int64)).toInt32) &&& (4 : Int32)) = (0 : Int32) then (own_cpv (p4.toInt64)) else (own_cpv (p3.toInt64))) (2 : Int32) (((p0.toUInt32 >>> ((2 : Int32) &&& 31).toUInt32).toInt32) &&& (3 : Int32)))) (own_bb (((p0.toUInt32 >>> ((2 : Int32) &&& 31).toUInt32).toInt32) &&& (3 : Int32)) (own_fix (if (((((q2.toUInt64 >>> ((42 : Int32) &&& 0x3f).toInt64.toUInt64).toInt64) &&& (7 : Int64)).toInt32) &&& (1 : Int32)) = (0 : Int32) then (own_cpv q2) else (own_cpv q1)) (0 : Int32) (((p0.toUInt32 >>> ((2 : Int32) &&& 31).toUInt32).toInt32) &&& (3 : Int32))) (own_fix (if (((((q2.toUInt64 >>> ((42 : Int32) &&& 0x3f).toInt64.toUInt64).toInt64) &&& (7 : Int64)).toInt32) &&& (2 : Int32)) = (0 : Int32) then (own_cpv ((q2.toUInt64 >>> ((21 : Int32) &&& 0x3f).toInt64.toUInt64).toInt64)) else (own_cpv ((q1.toUInt64 >>> ((21 : Int32) &&& 0x3f).toInt64.toUInt64).toInt64))) (1 : Int32) (((p0.toUInt32 >>> ((2 : Int32) &&& 31).toUInt32).toInt32) &&& (3 : Int32))) (own_fix (if (((((q2.toUInt64 >>> ((42 : Int32) &&& 0x3f).toInt64.toUInt64).toInt64) &&& (7 : Int64)).toInt32) &&& (4 : Int32)) = (0 : Int32) then (own_cpv (p4.toInt64)) else (own_cpv (p3.toInt64))) (2 : Int32) (((p0.toUInt32 >>> ((2 : Int32) &&& 31).toUInt32).toInt32) &&& (3 : Int32))))))])) rfl (by rw [hml]; rfl) (argsL := [(.int (own_cmpS (own_bcd (p0 &&& (3 : Int32)) (own_fix (own_cpv q1) (0 : Int32) (p0 &&& (3 : Int32))) (own_fix (own_cpv ((q1.toUInt64 >>> ((21 : Int32) &&& 0x3f).toInt64.toUInt64).toInt64)) (1 : Int32) (p0 &&& (3 : Int32))) (own_fix (own_cpv (p3.toInt64)) (2 : Int32) (p0 &&& (3 : Int32)))) (own_bz (p0 &&& (3 : Int32)) (own_fix (own_cpv q1) (0 : Int32) (p0 &&& (3 : Int32))) (own_fix (own_cpv ((q1.toUInt64 >>> ((21 : Int32) &&& 0x3f).toInt64.toUInt64).toInt64)) (1 : Int32) (p0 &&& (3 : Int32))) (own_fix (own_cpv (p3.toInt64)) (2 : Int32) (p0 &&& (3 : Int32)))) (own_bb (p0 &&& (3 : Int32)) (own_fix (own_cpv q1) (0 : Int32) (p0 &&& (3 : Int32))) (own_fix (own_cpv ((q1.toUInt64 >>> ((21 : Int32) &&& 0x3f).toInt64.toUInt64).toInt64)) (1 : Int32) (p0 &&& (3 : Int32))) (own_fix (own_cpv (p3.toInt64)) (2 : Int32) (p0 &&& (3 : Int32)))) (own_bcd (((p0.toUInt32 >>> ((2 : Int32) &&& 31).toUInt32).toInt32) &&& (3 : Int32)) (own_fix (if (((((q2.toUInt64 >>> ((42 : Int32) &&& 0x3f).toInt64.toUInt64).toInt64) &&& (7 : Int64)).toInt32) &&& (1 : Int32)) = (0 : Int32) then (own_cpv q2) else (own_cpv q1)) (0 : Int32) (((p0.toUInt32 >>> ((2 : Int32) &&& 31).toUInt32).toInt32) &&& (3 : Int32))) (own_fix (if (((((q2.toUInt64 >>> ((42 : Int32) &&& 0x3f).toInt64.toUInt64).toInt64) &&& (7 : Int64)).toInt32) &&& (2 : Int32)) = (0 : Int32) then (own_cpv ((q2.toUInt64 >>> ((21 : Int32) &&& 0x3f).toInt64.toUInt64).toInt64)) else (own_cpv ((q1.toUInt64 >>> ((21 : Int32) &&& 0x3f).toInt64.toUInt64).toInt64))) (1 : Int32) (((p0.toUInt32 >>> ((2 : Int32) &&& 31).toUInt32).toInt32) &&& (3 : Int32))) (own_fix (if (((((q2.toUInt64 >>> ((42 : Int32) &&& 0x3f).toInt64.toUInt64).toInt64) &&& (7 : Int64)).toInt32) &&& (4 : Int32)) = (0 : Int32) then (own_cpv (p4.toInt64)) else (own_cpv (p3.toInt64))) (2 : Int32) (((p0.toUInt32 >>> ((2 : Int32) &&& 31).toUInt32).toInt32) &&& (3 : Int32)))) (own_bz (((p0.toUInt32 >>> ((2 : Int32) &&& 31).toUInt32).toInt32) &&& (3 : Int32)) (own_fix (if (((((q2.toUInt64 >>> ((42 : Int32) &&& 0x3f).toInt64.toUInt64).toInt64) &&& (7 : Int64)).toInt32) &&& (1 : Int32)) = (0 : Int32) then (own_cpv q2) else (own_cpv q1)) (0 : Int32) (((p0.toUInt32 >>> ((2 : Int32) &&& 31).toUInt32).toInt32) &&& (3 : Int32))) (own_fix (if (((((q2.toUInt64 >>> ((42 : Int32) &&& 0x3f).toInt64.toUInt64).toInt64) &&& (7 : Int64)).toInt32) &&& (2 : Int32)) = (0 : Int32) then (own_cpv ((q2.toUInt64 >>> ((21 : Int32) &&& 0x3f).toInt64.toUInt64).toInt64)) else (own_cpv ((q1.toUInt64 >>> ((21 : Int32) &&& 0x3f).toInt64.toUInt64).toInt64))) (1 : Int32) (((p0.toUInt32 >>> ((2 : Int32) &&& 31).toUInt32).toInt32) &&& (3 : Int32))) (own_fix (if (((((q2.toUInt64 >>> ((42 : Int32) &&& 0x3f).toInt64.toUInt64).toInt64) &&& (7 : Int64)).toInt32) &&& (4 : Int32)) = (0 : Int32) then (own_cpv (p4.toInt64)) else (own_cpv (p3.toInt64))) (2 : Int32) (((p0.toUInt32 >>> ((2 : Int32) &&& 31).toUInt32).toInt32) &&& (3 : Int32)))) (own_bb (((p0.toUInt32 >>> ((2 : Int32) &&& 31).toUInt32).toInt32) &&& (3 : Int32)) (own_fix (if (((((q2.toUInt64 >>> ((42 : Int32) &&& 0x3f).toInt64.toUInt64).toInt64) &&& (7 : Int64)).toInt32) &&& (1 : Int32)) = (0 : Int32) then (own_cpv q2) else (own_cpv q1)) (0 : Int32) (((p0.toUInt32 >>> ((2 : Int32) &&& 31).toUInt32).toInt32) &&& (3 : Int32))) (own_fix (if (((((q2.toUInt64 >>> ((42 : Int32) &&& 0x3f).toInt64.toUInt64).toInt64) &&& (7 : Int64)).toInt32) &&& (2 : Int32)) = (0 : Int32) then (own_cpv ((q2.toUInt64 >>> ((21 : Int32) &&& 0x3f).toInt64.toUInt64).toInt64)) else (own_cpv ((q1.toUInt64 >>> ((21 : Int32) &&& 0x3f).toInt64.toUInt64).toInt64))) (1 : Int32) (((p0.toUInt32 >>> ((2 : Int32) &&& 31).toUInt32).toInt32) &&& (3 : Int32))) (own_fix (if (((((q2.toUInt64 >>> ((42 : Int32) &&& 0x3f).toInt64.toUInt64).toInt64) &&& (7 : Int64)).toInt32) &&& (4 : Int32)) = (0 : Int32) then (own_cpv (p4.toInt64)) else (own_cpv (p3.toInt64))) (2 : Int32) (((p0.toUInt32 >>> ((2 : Int32) &&& 31).toUInt32).toInt32) &&& (3 : Int32))))))]) (rest := []) (lenOf pd_10 rfl) rfl (by show 2 * 0 + _ ≤ _; exact Nat.le_of_eq rfl) (hb hby at_220) (fun _ _ => ⟨rfl, he21, (by decide : 12 + 0 ≤ _), (by decide : 56 + 0 ≤ _)⟩)
     dsimp only [Pt.U, Pt.locs, Pt.cells, Pt.slots] at X22 l22 y22 z22 st22 hQ22
     subst l22 y22 z22
     obtain ⟨rfl, N22q, he22⟩ := hQ22
     have N22 := Fr.app N21 N22q
     refine OwnFin.st st22 ?_
     show OwnFin _ _ _ _ (T22.setTop (mkF m 223 _ [(.int (own_sg (own_cmpS (own_bcd (p0 &&& (3 : Int32)) (own_fix (own_cpv q1) (0 : Int32) (p0 &&& (3 : Int32))) (own_fix (own_cpv ((q1.toUInt64 >>> ((21 : Int32) &&& 0x3f).toInt64.toUInt64).toInt64)) (1 : Int32) (p0 &&& (3 : Int32))) (own_fix (own_cpv (p3.toInt64)) (2 : Int32) (p0 &&& (3 : Int32)))) (own_bz (p0 &&& (3 : Int32)) (own_fix (own_cpv q1) (0 : Int32) (p0 &&& (3 : Int32))) (own_fix (own_cpv ((q1.toUInt64 >>> ((21 : Int32) &&& 0x3f).toInt64.toUInt64).toInt64)) (1 : Int32) (p0 &&& (3 : Int32))) (own_fix (own_cpv (p3.toInt64)) (2 : Int32) (p0 &&& (3 : Int32)))) (own_bb (p0 &&& (3 : Int32)) (own_fix (own_cpv q1) (0 : Int32) (p0 &&& (3 : Int32))) (own_fix (own_cpv ((q1.toUInt64 >>> ((21 : Int32) &&& 0x3f).toInt64.toUInt64).toInt64)) (1 : Int32) (p0 &&& (3 : Int32))) (own_fix (own_cpv (p3.toInt64)) (2 : Int32) (p0 &&& (3 : Int32)))) (own_bcd (((p0.toUInt32 >>> ((2 : Int32) &&& 31).toUInt32).toInt32) &&& (3 : Int32)) (own_fix (if (((((q2.toUInt64 >>> ((42 : Int32) &&& 0x3f).toInt64.toUInt64).toInt64) &&& (7 : Int64)).toInt32) &&& (1 : Int32)) = (0 : Int32) then (own_cpv q2) else (own_cpv q1)) (0 : Int32) (((p0.toUInt32 >>> ((2 : Int32) &&& 31).toUInt32).toInt32) &&& (3 : Int32))) (own_fix (if (((((q2.toUInt64 >>> ((42 : Int32) &&& 0x3f).toInt64.toUInt64).toInt64) &&& (7 : Int64)).toInt32) &&& (2 : Int32)) = (0 : Int32) then (own_cpv ((q2.toUInt64 >>> ((21 : Int32) &&& 0x3f).toInt64.toUInt64).toInt64)) else (own_cpv ((q1.toUInt64 >>> ((21 : Int32) &&& 0x3f).toInt64.toUInt64).toInt64))) (1 : Int32) (((p0.toUInt32 >>> ((2 : Int32) &&& 31).toUInt32).toInt32) &&& (3 : Int32))) (own_fix (if (((((q2.toUInt64 >>> ((42 : Int32) &&& 0x3f).toInt64.toUInt64).toInt64) &&& (7 : Int64)).toInt32) &&& (4 : Int32)) = (0 : Int32) then (own_cpv (p4.toInt64)) else (own_cpv (p3.toInt64))) (2 : Int32) (((p0.toUInt32 >>> ((2 : Int32) &&& 31).toUInt32).toInt32) &&& (3 : Int32)))) (own_bz (((p0.toUInt32 >>> ((2 : Int32) &&& 31).toUInt32).toInt32) &&& (3 : Int32)) (own_fix (if (((((q2.toUInt64 >>> ((42 : Int32) &&& 0x3f).toInt64.toUInt64).toInt64) &&& (7 : Int64)).toInt32) &&& (1 : Int32)) = (0 : Int32) then (own_cpv q2) else (own_cpv q1)) (0 : Int32) (((p0.toUInt32 >>> ((2 : Int32) &&& 31).toUInt32).toInt32) &&& (3 : Int32))) (own_fix (if (((((q2.toUInt64 >>> ((42 : Int32) &&& 0x3f).toInt64.toUInt64).toInt64) &&& (7 : Int64)).toInt32) &&& (2 : Int32)) = (0 : Int32) then (own_cpv ((q2.toUInt64 >>> ((21 : Int32) &&& 0x3f).toInt64.toUInt64).toInt64)) else (own_cpv ((q1.toUInt64 >>> ((21 : Int32) &&& 0x3f).toInt64.toUInt64).toInt64))) (1 : Int32) (((p0.toUInt32 >>> ((2 : Int32) &&& 31).toUInt32).toInt32) &&& (3 : Int32))) (own_fix (if (((((q2.toUInt64 >>> ((42 : Int32) &&& 0x3f).toInt64.toUInt64).toInt64) &&& (7 : Int64)).toInt32) &&& (4 : Int32)) = (0 : Int32) then (own_cpv (p4.toInt64)) else (own_cpv (p3.toInt64))) (2 : Int32) (((p0.toUInt32 >>> ((2 : Int32) &&& 31).toUInt32).toInt32) &&& (3 : Int32)))) (own_bb (((p0.toUInt32 >>> ((2 : Int32) &&& 31).toUInt32).toInt32) &&& (3 : Int32)) (own_fix (if (((((q2.toUInt64 >>> ((42 : Int32) &&& 0x3f).toInt64.toUInt64).toInt64) &&& (7 : Int64)).toInt32) &&& (1 : Int32)) = (0 : Int32) then (own_cpv q2) else (own_cpv q1)) (0 : Int32) (((p0.toUInt32 >>> ((2 : Int32) &&& 31).toUInt32).toInt32) &&& (3 : Int32))) (own_fix (if (((((q2.toUInt64 >>> ((42 : Int32) &&& 0x3f).toInt64.toUInt64).toInt64) &&& (7 : Int64)).toInt32) &&& (2 : Int32)) = (0 : Int32) then (own_cpv ((q2.toUInt64 >>> ((21 : Int32) &&& 0x3f).toInt64.toUInt64).toInt64)) else (own_cpv ((q1.toUInt64 >>> ((21 : Int32) &&& 0x3f).toInt64.toUInt64).toInt64))) (1 : Int32) (((p0.toUInt32 >>> ((2 : Int32) &&& 31).toUInt32).toInt32) &&& (3 : Int32))) (own_fix (if (((((q2.toUInt64 >>> ((42 : Int32) &&& 0x3f).toInt64.toUInt64).toInt64) &&& (7 : Int64)).toInt32) &&& (4 : Int32)) = (0 : Int32) then (own_cpv (p4.toInt64)) else (own_cpv (p3.toInt64))) (2 : Int32) (((p0.toUInt32 >>> ((2 : Int32) &&& 31).toUInt32).toInt32) &&& (3 : Int32)))))))]))
     refine OwnFin.st (fun _ q => XS.iload X22.here hx rfl (hb hby at_223) rfl q) ?_
     show OwnFin _ _ _ _ (T22.setTop (mkF m 225 _ [(.int (own_ref (p0 &&& (3 : Int32)) (own_fix (own_cpv q1) (0 : Int32) (p0 &&& (3 : Int32))) (own_fix (own_cpv ((q1.toUInt64 >>> ((21 : Int32) &&& 0x3f).toInt64.toUInt64).toInt64)) (1 : Int32) (p0 &&& (3 : Int32))) (own_fix (own_cpv (p3.toInt64)) (2 : Int32) (p0 &&& (3 : Int32))) (((p0.toUInt32 >>> ((2 : Int32) &&& 31).toUInt32).toInt32) &&& (3 : Int32)) (own_fix (if (((((q2.toUInt64 >>> ((42 : Int32) &&& 0x3f).toInt64.toUInt64).toInt64) &&& (7 : Int64)).toInt32) &&& (1 : Int32)) = (0 : Int32) then (own_cpv q2) else (own_cpv q1)) (0 : Int32) (((p0.toUInt32 >>> ((2 : Int32) &&& 31).toUInt32).toInt32) &&& (3 : Int32))) (own_fix (if (((((q2.toUInt64 >>> ((42 : Int32) &&& 0x3f).toInt64.toUInt64).toInt64) &&& (7 : Int64)).toInt32) &&& (2 : Int32)) = (0 : Int32) then (own_cpv ((q2.toUInt64 >>> ((21 : Int32) &&& 0x3f).toInt64.toUInt64).toInt64)) else (own_cpv ((q1.toUInt64 >>> ((21 : Int32) &&& 0x3f).toInt64.toUInt64).toInt64))) (1 : Int32) (((p0.toUInt32 >>> ((2 : Int32) &&& 31).toUInt32).toInt32) &&& (3 : Int32))) (own_fix (if (((((q2.toUInt64 >>> ((42 : Int32) &&& 0x3f).toInt64.toUInt64).toInt64) &&& (7 : Int64)).toInt32) &&& (4 : Int32)) = (0 : Int32) then (own_cpv (p4.toInt64)) else (own_cpv (p3.toInt64))) (2 : Int32) (((p0.toUInt32 >>> ((2 : Int32) &&& 31).toUInt32).toInt32) &&& (3 : Int32))))), (.int (own_sg (own_cmpS (own_bcd (p0 &&& (3 : Int32)) (own_fix (own_cpv q1) (0 : Int32) (p0 &&& (3 : Int32))) (own_fix (own_cpv ((q1.toUInt64 >>> ((21 : Int32) &&& 0x3f).toInt64.toUInt64).toInt64)) (1 : Int32) (p0 &&& (3 : Int32))) (own_fix (own_cpv (p3.toInt64)) (2 : Int32) (p0 &&& (3 : Int32)))) (own_bz (p0 &&& (3 : Int32)) (own_fix (own_cpv q1) (0 : Int32) (p0 &&& (3 : Int32))) (own_fix (own_cpv ((q1.toUInt64 >>> ((21 : Int32) &&& 0x3f).toInt64.toUInt64).toInt64)) (1 : Int32) (p0 &&& (3 : Int32))) (own_fix (own_cpv (p3.toInt64)) (2 : Int32) (p0 &&& (3 : Int32)))) (own_bb (p0 &&& (3 : Int32)) (own_fix (own_cpv q1) (0 : Int32) (p0 &&& (3 : Int32))) (own_fix (own_cpv ((q1.toUInt64 >>> ((21 : Int32) &&& 0x3f).toInt64.toUInt64).toInt64)) (1 : Int32) (p0 &&& (3 : Int32))) (own_fix (own_cpv (p3.toInt64)) (2 : Int32) (p0 &&& (3 : Int32)))) (own_bcd (((p0.toUInt32 >>> ((2 : Int32) &&& 31).toUInt32).toInt32) &&& (3 : Int32)) (own_fix (if (((((q2.toUInt64 >>> ((42 : Int32) &&& 0x3f).toInt64.toUInt64).toInt64) &&& (7 : Int64)).toInt32) &&& (1 : Int32)) = (0 : Int32) then (own_cpv q2) else (own_cpv q1)) (0 : Int32) (((p0.toUInt32 >>> ((2 : Int32) &&& 31).toUInt32).toInt32) &&& (3 : Int32))) (own_fix (if (((((q2.toUInt64 >>> ((42 : Int32) &&& 0x3f).toInt64.toUInt64).toInt64) &&& (7 : Int64)).toInt32) &&& (2 : Int32)) = (0 : Int32) then (own_cpv ((q2.toUInt64 >>> ((21 : Int32) &&& 0x3f).toInt64.toUInt64).toInt64)) else (own_cpv ((q1.toUInt64 >>> ((21 : Int32) &&& 0x3f).toInt64.toUInt64).toInt64))) (1 : Int32) (((p0.toUInt32 >>> ((2 : Int32) &&& 31).toUInt32).toInt32) &&& (3 : Int32))) (own_fix (if (((((q2.toUInt64 >>> ((42 : Int32) &&& 0x3f).toInt64.toUInt64).toInt64) &&& (7 : Int64)).toInt32) &&& (4 : Int32)) = (0 : Int32) then (own_cpv (p4.toInt64)) else (own_cpv (p3.toInt64))) (2 : Int32) (((p0.toUInt32 >>> ((2 : Int32) &&& 31).toUInt32).toInt32) &&& (3 : Int32)))) (own_bz (((p0.toUInt32 >>> ((2 : Int32) &&& 31).toUInt32).toInt32) &&& (3 : Int32)) (own_fix (if (((((q2.toUInt64 >>> ((42 : Int32) &&& 0x3f).toInt64.toUInt64).toInt64) &&& (7 : Int64)).toInt32) &&& (1 : Int32)) = (0 : Int32) then (own_cpv q2) else (own_cpv q1)) (0 : Int32) (((p0.toUInt32 >>> ((2 : Int32) &&& 31).toUInt32).toInt32) &&& (3 : Int32))) (own_fix (if (((((q2.toUInt64 >>> ((42 : Int32) &&& 0x3f).toInt64.toUInt64).toInt64) &&& (7 : Int64)).toInt32) &&& (2 : Int32)) = (0 : Int32) then (own_cpv ((q2.toUInt64 >>> ((21 : Int32) &&& 0x3f).toInt64.toUInt64).toInt64)) else (own_cpv ((q1.toUInt64 >>> ((21 : Int32) &&& 0x3f).toInt64.toUInt64).toInt64))) (1 : Int32) (((p0.toUInt32 >>> ((2 : Int32) &&& 31).toUInt32).toInt32) &&& (3 : Int32))) (own_fix (if (((((q2.toUInt64 >>> ((42 : Int32) &&& 0x3f).toInt64.toUInt64).toInt64) &&& (7 : Int64)).toInt32) &&& (4 : Int32)) = (0 : Int32) then (own_cpv (p4.toInt64)) else (own_cpv (p3.toInt64))) (2 : Int32) (((p0.toUInt32 >>> ((2 : Int32) &&& 31).toUInt32).toInt32) &&& (3 : Int32)))) (own_bb (((p0.toUInt32 >>> ((2 : Int32) &&& 31).toUInt32).toInt32) &&& (3 : Int32)) (own_fix (if (((((q2.toUInt64 >>> ((42 : Int32) &&& 0x3f).toInt64.toUInt64).toInt64) &&& (7 : Int64)).toInt32) &&& (1 : Int32)) = (0 : Int32) then (own_cpv q2) else (own_cpv q1)) (0 : Int32) (((p0.toUInt32 >>> ((2 : Int32) &&& 31).toUInt32).toInt32) &&& (3 : Int32))) (own_fix (if (((((q2.toUInt64 >>> ((42 : Int32) &&& 0x3f).toInt64.toUInt64).toInt64) &&& (7 : Int64)).toInt32) &&& (2 : Int32)) = (0 : Int32) then (own_cpv ((q2.toUInt64 >>> ((21 : Int32) &&& 0x3f).toInt64.toUInt64).toInt64)) else (own_cpv ((q1.toUInt64 >>> ((21 : Int32) &&& 0x3f).toInt64.toUInt64).toInt64))) (1 : Int32) (((p0.toUInt32 >>> ((2 : Int32) &&& 31).toUInt32).toInt32) &&& (3 : Int32))) (own_fix (if (((((q2.toUInt64 >>> ((42 : Int32) &&& 0x3f).toInt64.toUInt64).toInt64) &&& (7 : Int64)).toInt32) &&& (4 : Int32)) = (0 : Int32) then (own_cpv (p4.toInt64)) else (own_cpv (p3.toInt64))) (2 : Int32) (((p0.toUInt32 >>> ((2 : Int32) &&& 31).toUInt32).toInt32) &&& (3 : Int32)))))))]))
     refine OwnFin.st (fun _ q => XS.icmpNo X22.here hx rfl (hb hby at_225) rfl (Jvm.Free.XT.ii_ne_f (own_law (own_m3 _) (own_m3 _) (own_cpr _) (own_cpr _) (own_cpr _) (own_iter (own_cpr _) (own_cpr _)) (own_iter (own_cpr _) (own_cpr _)) (own_iter (own_cpr _) (own_cpr _)))) q) ?_
     show OwnFin _ _ _ _ (T22.setTop (mkF m 228 _ []))
     refine OwnFin.st (fun _ q => XS.iconst X22.here hx rfl (hb hby at_228) q) ?_
     show OwnFin _ _ _ _ (T22.setTop (mkF m 229 _ [(.int 1)]))
     refine OwnFin.st (fun _ q => XS.goto X22.here hx rfl (pc0 := 229) (pc' := 233) rfl (hb hby at_229) (by decide) (by decide) q) ?_
     show OwnFin _ _ _ _ (T22.setTop (mkF m 233 _ [(.int 1)]))
     obtain ⟨fs, hr, hrun, hended, hEW⟩ := X22.leaveW (s := s) hSr18 (by rw [he22]; exact (Nat.le_trans (Nat.le_refl _) (Nat.le_refl _))) (v := some (.int 1)) (fun h => by rw [Bd.returns] at h; cases h)
     have chE : CHr Z own_EL s.vm s.heap T22.vm T22.heap := by
       rw [hh, he22]
       exact ch19.trans (CHv.at X22 hZr18 (own_EW hw) ch19.1)
     refine ⟨_, _, retN X22 hx (t := .boolean) Bd.returns (by simp) (hb hby at_233) hr, hrun, hended, _, _, rfl, ?_, chE, hEW.1, hEW.2.1, hEW.2.2.1, hEW.2.2.2.mono (by decide) (by decide)⟩
     show Q_rm0 Z p0 q1 q2 p3 p4 w_COMPACT_STRINGS w_SIOOBE_FORMATTER h0 n0 _ T22.heap _
     rw [he22]
     exact ⟨rfl, N22⟩
    by_cases hc9 : (((((q2.toUInt64 >>> ((42 : Int32) &&& 0x3f).toInt64.toUInt64).toInt64) &&& (7 : Int64)).toInt32) &&& (4 : Int32)) = (0 : Int32)
    ·
     refine OwnFin.st (fun _ q => XS.ifYes X8.here hx rfl (pc0 := 95) (pc' := 102) rfl (hb hby at_95) rfl (Jvm.Free.XT.i0_eq_t hc9) (by decide) (by decide) q) ?_
     show OwnFin _ _ _ _ (T8.setTop (mkF m 102 #[.val (.int p0), .val (.long q1), .second, .val (.long q2), .second, .val (.int p3), .val (.int p4), .val (.int (p0 &&& (3 : Int32))), .val (.int (((p0.toUInt32 >>> ((2 : Int32) &&& 31).toUInt32).toInt32) &&& (3 : Int32))), .val (.int (own_cpv q1)), .val (.int (own_cpv ((q1.toUInt64 >>> ((21 : Int32) &&& 0x3f).toInt64.toUInt64).toInt64))), .val (.int (own_cpv (p3.toInt64))), .val (.int (if (((((q2.toUInt64 >>> ((42 : Int32) &&& 0x3f).toInt64.toUInt64).toInt64) &&& (7 : Int64)).toInt32) &&& (1 : Int32)) = (0 : Int32) then (own_cpv q2) else (own_cpv q1))), .val (.int (if (((((q2.toUInt64 >>> ((42 : Int32) &&& 0x3f).toInt64.toUInt64).toInt64) &&& (7 : Int64)).toInt32) &&& (2 : Int32)) = (0 : Int32) then (own_cpv ((q2.toUInt64 >>> ((21 : Int32) &&& 0x3f).toInt64.toUInt64).toInt64)) else (own_cpv ((q1.toUInt64 >>> ((21 : Int32) &&& 0x3f).toInt64.toUInt64).toInt64)))), .val (.int (own_cpv (p4.toInt64))), .val (.int ((((q2.toUInt64 >>> ((42 : Int32) &&& 0x3f).toInt64.toUInt64).toInt64) &&& (7 : Int64)).toInt32)), .unset, .unset, .unset, .unset] []))
     have z := H9 _ _ X8 N8 e8
     rw [show ((if (((((q2.toUInt64 >>> ((42 : Int32) &&& 0x3f).toInt64.toUInt64).toInt64) &&& (7 : Int64)).toInt32) &&& (4 : Int32)) = (0 : Int32) then (own_cpv (p4.toInt64)) else (own_cpv (p3.toInt64))) : Int32) = (own_cpv (p4.toInt64)) from if_pos hc9] at z
     exact z
    ·
     refine OwnFin.st (fun _ q => XS.ifNo X8.here hx rfl (hb hby at_95) rfl (Jvm.Free.XT.i0_eq_f hc9) q) ?_
     show OwnFin _ _ _ _ (T8.setTop (mkF m 98 _ []))
     refine OwnFin.st (fun _ q => XS.iload X8.here hx rfl (hb hby at_98) rfl q) ?_
     show OwnFin _ _ _ _ (T8.setTop (mkF m 100 _ [(.int (own_cpv (p3.toInt64)))]))
     refine OwnFin.st (fun _ q => XS.istore X8.here hx rfl (hb hby at_100) rfl (l' := #[.val (.int p0), .val (.long q1), .second, .val (.long q2), .second, .val (.int p3), .val (.int p4), .val (.int (p0 &&& (3 : Int32))), .val (.int (((p0.toUInt32 >>> ((2 : Int32) &&& 31).toUInt32).toInt32) &&& (3 : Int32))), .val (.int (own_cpv q1)), .val (.int (own_cpv ((q1.toUInt64 >>> ((21 : Int32) &&& 0x3f).toInt64.toUInt64).toInt64))), .val (.int (own_cpv (p3.toInt64))), .val (.int (if (((((q2.toUInt64 >>> ((42 : Int32) &&& 0x3f).toInt64.toUInt64).toInt64) &&& (7 : Int64)).toInt32) &&& (1 : Int32)) = (0 : Int32) then (own_cpv q2) else (own_cpv q1))), .val (.int (if (((((q2.toUInt64 >>> ((42 : Int32) &&& 0x3f).toInt64.toUInt64).toInt64) &&& (7 : Int64)).toInt32) &&& (2 : Int32)) = (0 : Int32) then (own_cpv ((q2.toUInt64 >>> ((21 : Int32) &&& 0x3f).toInt64.toUInt64).toInt64)) else (own_cpv ((q1.toUInt64 >>> ((21 : Int32) &&& 0x3f).toInt64.toUInt64).toInt64)))), .val (.int (own_cpv (p3.toInt64))), .val (.int ((((q2.toUInt64 >>> ((42 : Int32) &&& 0x3f).toInt64.toUInt64).toInt64) &&& (7 : Int64)).toInt32)), .unset, .unset, .unset, .unset]) rfl q) ?_
     show OwnFin _ _ _ _ (T8.setTop (mkF m 102 #[.val (.int p0), .val (.long q1), .second, .val (.long q2), .second, .val (.int p3), .val (.int p4), .val (.int (p0 &&& (3 : Int32))), .val (.int (((p0.toUInt32 >>> ((2 : Int32) &&& 31).toUInt32).toInt32) &&& (3 : Int32))), .val (.int (own_cpv q1)), .val (.int (own_cpv ((q1.toUInt64 >>> ((21 : Int32) &&& 0x3f).toInt64.toUInt64).toInt64))), .val (.int (own_cpv (p3.toInt64))), .val (.int (if (((((q2.toUInt64 >>> ((42 : Int32) &&& 0x3f).toInt64.toUInt64).toInt64) &&& (7 : Int64)).toInt32) &&& (1 : Int32)) = (0 : Int32) then (own_cpv q2) else (own_cpv q1))), .val (.int (if (((((q2.toUInt64 >>> ((42 : Int32) &&& 0x3f).toInt64.toUInt64).toInt64) &&& (7 : Int64)).toInt32) &&& (2 : Int32)) = (0 : Int32) then (own_cpv ((q2.toUInt64 >>> ((21 : Int32) &&& 0x3f).toInt64.toUInt64).toInt64)) else (own_cpv ((q1.toUInt64 >>> ((21 : Int32) &&& 0x3f).toInt64.toUInt64).toInt64)))), .val (.int (own_cpv (p3.toInt64))), .val (.int ((((q2.toUInt64 >>> ((42 : Int32) &&& 0x3f).toInt64.toUInt64).toInt64) &&& (7 : Int64)).toInt32)), .unset, .unset, .unset, .unset] []))
     have z := H9 _ _ X8 N8 e8
     rw [show ((if (((((q2.toUInt64 >>> ((42 : Int32) &&& 0x3f).toInt64.toUInt64).toInt64) &&& (7 : Int64)).toInt32) &&& (4 : Int32)) = (0 : Int32) then (own_cpv (p4.toInt64)) else (own_cpv (p3.toInt64))) : Int32) = (own_cpv (p3.toInt64)) from if_neg hc9] at z
     exact z
   by_cases hc8 : (((((q2.toUInt64 >>> ((42 : Int32) &&& 0x3f).toInt64.toUInt64).toInt64) &&& (7 : Int64)).toInt32) &&& (2 : Int32)) = (0 : Int32)
   ·
    refine OwnFin.st (fun _ q => XS.ifYes X7.here hx rfl (pc0 := 84) (pc' := 91) rfl (hb hby at_84) rfl (Jvm.Free.XT.i0_eq_t hc8) (by decide) (by decide) q) ?_
    show OwnFin _ _ _ _ (T7.setTop (mkF m 91 #[.val (.int p0), .val (.long q1), .second, .val (.long q2), .second, .val (.int p3), .val (.int p4), .val (.int (p0 &&& (3 : Int32))), .val (.int (((p0.toUInt32 >>> ((2 : Int32) &&& 31).toUInt32).toInt32) &&& (3 : Int32))), .val (.int (own_cpv q1)), .val (.int (own_cpv ((q1.toUInt64 >>> ((21 : Int32) &&& 0x3f).toInt64.toUInt64).toInt64))), .val (.int (own_cpv (p3.toInt64))), .val (.int (if (((((q2.toUInt64 >>> ((42 : Int32) &&& 0x3f).toInt64.toUInt64).toInt64) &&& (7 : Int64)).toInt32) &&& (1 : Int32)) = (0 : Int32) then (own_cpv q2) else (own_cpv q1))), .val (.int (own_cpv ((q2.toUInt64 >>> ((21 : Int32) &&& 0x3f).toInt64.toUInt64).toInt64))), .val (.int (own_cpv (p4.toInt64))), .val (.int ((((q2.toUInt64 >>> ((42 : Int32) &&& 0x3f).toInt64.toUInt64).toInt64) &&& (7 : Int64)).toInt32)), .unset, .unset, .unset, .unset] []))
    have z := H8 _ _ X7 N7 e7
    rw [show ((if (((((q2.toUInt64 >>> ((42 : Int32) &&& 0x3f).toInt64.toUInt64).toInt64) &&& (7 : Int64)).toInt32) &&& (2 : Int32)) = (0 : Int32) then (own_cpv ((q2.toUInt64 >>> ((21 : Int32) &&& 0x3f).toInt64.toUInt64).toInt64)) else (own_cpv ((q1.toUInt64 >>> ((21 : Int32) &&& 0x3f).toInt64.toUInt64).toInt64))) : Int32) = (own_cpv ((q2.toUInt64 >>> ((21 : Int32) &&& 0x3f).toInt64.toUInt64).toInt64)) from if_pos hc8] at z
    exact z
   ·
    refine OwnFin.st (fun _ q => XS.ifNo X7.here hx rfl (hb hby at_84) rfl (Jvm.Free.XT.i0_eq_f hc8) q) ?_
    show OwnFin _ _ _ _ (T7.setTop (mkF m 87 _ []))
    refine OwnFin.st (fun _ q => XS.iload X7.here hx rfl (hb hby at_87) rfl q) ?_
    show OwnFin _ _ _ _ (T7.setTop (mkF m 89 _ [(.int (own_cpv ((q1.toUInt64 >>> ((21 : Int32) &&& 0x3f).toInt64.toUInt64).toInt64)))]))
    refine OwnFin.st (fun _ q => XS.istore X7.here hx rfl (hb hby at_89) rfl (l' := #[.val (.int p0), .val (.long q1), .second, .val (.long q2), .second, .val (.int p3), .val (.int p4), .val (.int (p0 &&& (3 : Int32))), .val (.int (((p0.toUInt32 >>> ((2 : Int32) &&& 31).toUInt32).toInt32) &&& (3 : Int32))), .val (.int (own_cpv q1)), .val (.int (own_cpv ((q1.toUInt64 >>> ((21 : Int32) &&& 0x3f).toInt64.toUInt64).toInt64))), .val (.int (own_cpv (p3.toInt64))), .val (.int (if (((((q2.toUInt64 >>> ((42 : Int32) &&& 0x3f).toInt64.toUInt64).toInt64) &&& (7 : Int64)).toInt32) &&& (1 : Int32)) = (0 : Int32) then (own_cpv q2) else (own_cpv q1))), .val (.int (own_cpv ((q1.toUInt64 >>> ((21 : Int32) &&& 0x3f).toInt64.toUInt64).toInt64))), .val (.int (own_cpv (p4.toInt64))), .val (.int ((((q2.toUInt64 >>> ((42 : Int32) &&& 0x3f).toInt64.toUInt64).toInt64) &&& (7 : Int64)).toInt32)), .unset, .unset, .unset, .unset]) rfl q) ?_
    show OwnFin _ _ _ _ (T7.setTop (mkF m 91 #[.val (.int p0), .val (.long q1), .second, .val (.long q2), .second, .val (.int p3), .val (.int p4), .val (.int (p0 &&& (3 : Int32))), .val (.int (((p0.toUInt32 >>> ((2 : Int32) &&& 31).toUInt32).toInt32) &&& (3 : Int32))), .val (.int (own_cpv q1)), .val (.int (own_cpv ((q1.toUInt64 >>> ((21 : Int32) &&& 0x3f).toInt64.toUInt64).toInt64))), .val (.int (own_cpv (p3.toInt64))), .val (.int (if (((((q2.toUInt64 >>> ((42 : Int32) &&& 0x3f).toInt64.toUInt64).toInt64) &&& (7 : Int64)).toInt32) &&& (1 : Int32)) = (0 : Int32) then (own_cpv q2) else (own_cpv q1))), .val (.int (own_cpv ((q1.toUInt64 >>> ((21 : Int32) &&& 0x3f).toInt64.toUInt64).toInt64))), .val (.int (own_cpv (p4.toInt64))), .val (.int ((((q2.toUInt64 >>> ((42 : Int32) &&& 0x3f).toInt64.toUInt64).toInt64) &&& (7 : Int64)).toInt32)), .unset, .unset, .unset, .unset] []))
    have z := H8 _ _ X7 N7 e7
    rw [show ((if (((((q2.toUInt64 >>> ((42 : Int32) &&& 0x3f).toInt64.toUInt64).toInt64) &&& (7 : Int64)).toInt32) &&& (2 : Int32)) = (0 : Int32) then (own_cpv ((q2.toUInt64 >>> ((21 : Int32) &&& 0x3f).toInt64.toUInt64).toInt64)) else (own_cpv ((q1.toUInt64 >>> ((21 : Int32) &&& 0x3f).toInt64.toUInt64).toInt64))) : Int32) = (own_cpv ((q1.toUInt64 >>> ((21 : Int32) &&& 0x3f).toInt64.toUInt64).toInt64)) from if_neg hc8] at z
    exact z
  by_cases hc7 : (((((q2.toUInt64 >>> ((42 : Int32) &&& 0x3f).toInt64.toUInt64).toInt64) &&& (7 : Int64)).toInt32) &&& (1 : Int32)) = (0 : Int32)
  ·
   refine OwnFin.st (fun _ q => XS.ifYes X6.here hx rfl (pc0 := 73) (pc' := 80) rfl (hb hby at_73) rfl (Jvm.Free.XT.i0_eq_t hc7) (by decide) (by decide) q) ?_
   show OwnFin _ _ _ _ (T6.setTop (mkF m 80 #[.val (.int p0), .val (.long q1), .second, .val (.long q2), .second, .val (.int p3), .val (.int p4), .val (.int (p0 &&& (3 : Int32))), .val (.int (((p0.toUInt32 >>> ((2 : Int32) &&& 31).toUInt32).toInt32) &&& (3 : Int32))), .val (.int (own_cpv q1)), .val (.int (own_cpv ((q1.toUInt64 >>> ((21 : Int32) &&& 0x3f).toInt64.toUInt64).toInt64))), .val (.int (own_cpv (p3.toInt64))), .val (.int (own_cpv q2)), .val (.int (own_cpv ((q2.toUInt64 >>> ((21 : Int32) &&& 0x3f).toInt64.toUInt64).toInt64))), .val (.int (own_cpv (p4.toInt64))), .val (.int ((((q2.toUInt64 >>> ((42 : Int32) &&& 0x3f).toInt64.toUInt64).toInt64) &&& (7 : Int64)).toInt32)), .unset, .unset, .unset, .unset] []))
   have z := H7 _ _ X6 N6 he6
   rw [show ((if (((((q2.toUInt64 >>> ((42 : Int32) &&& 0x3f).toInt64.toUInt64).toInt64) &&& (7 : Int64)).toInt32) &&& (1 : Int32)) = (0 : Int32) then (own_cpv q2) else (own_cpv q1)) : Int32) = (own_cpv q2) from if_pos hc7] at z
   exact z
  ·
   refine OwnFin.st (fun _ q => XS.ifNo X6.here hx rfl (hb hby at_73) rfl (Jvm.Free.XT.i0_eq_f hc7) q) ?_
   show OwnFin _ _ _ _ (T6.setTop (mkF m 76 _ []))
   refine OwnFin.st (fun _ q => XS.iload X6.here hx rfl (hb hby at_76) rfl q) ?_
   show OwnFin _ _ _ _ (T6.setTop (mkF m 78 _ [(.int (own_cpv q1))]))
   refine OwnFin.st (fun _ q => XS.istore X6.here hx rfl (hb hby at_78) rfl (l' := #[.val (.int p0), .val (.long q1), .second, .val (.long q2), .second, .val (.int p3), .val (.int p4), .val (.int (p0 &&& (3 : Int32))), .val (.int (((p0.toUInt32 >>> ((2 : Int32) &&& 31).toUInt32).toInt32) &&& (3 : Int32))), .val (.int (own_cpv q1)), .val (.int (own_cpv ((q1.toUInt64 >>> ((21 : Int32) &&& 0x3f).toInt64.toUInt64).toInt64))), .val (.int (own_cpv (p3.toInt64))), .val (.int (own_cpv q1)), .val (.int (own_cpv ((q2.toUInt64 >>> ((21 : Int32) &&& 0x3f).toInt64.toUInt64).toInt64))), .val (.int (own_cpv (p4.toInt64))), .val (.int ((((q2.toUInt64 >>> ((42 : Int32) &&& 0x3f).toInt64.toUInt64).toInt64) &&& (7 : Int64)).toInt32)), .unset, .unset, .unset, .unset]) rfl q) ?_
   show OwnFin _ _ _ _ (T6.setTop (mkF m 80 #[.val (.int p0), .val (.long q1), .second, .val (.long q2), .second, .val (.int p3), .val (.int p4), .val (.int (p0 &&& (3 : Int32))), .val (.int (((p0.toUInt32 >>> ((2 : Int32) &&& 31).toUInt32).toInt32) &&& (3 : Int32))), .val (.int (own_cpv q1)), .val (.int (own_cpv ((q1.toUInt64 >>> ((21 : Int32) &&& 0x3f).toInt64.toUInt64).toInt64))), .val (.int (own_cpv (p3.toInt64))), .val (.int (own_cpv q1)), .val (.int (own_cpv ((q2.toUInt64 >>> ((21 : Int32) &&& 0x3f).toInt64.toUInt64).toInt64))), .val (.int (own_cpv (p4.toInt64))), .val (.int ((((q2.toUInt64 >>> ((42 : Int32) &&& 0x3f).toInt64.toUInt64).toInt64) &&& (7 : Int64)).toInt32)), .unset, .unset, .unset, .unset] []))
   have z := H7 _ _ X6 N6 he6
   rw [show ((if (((((q2.toUInt64 >>> ((42 : Int32) &&& 0x3f).toInt64.toUInt64).toInt64) &&& (7 : Int64)).toInt32) &&& (1 : Int32)) = (0 : Int32) then (own_cpv q2) else (own_cpv q1)) : Int32) = (own_cpv q1) from if_neg hc7] at z
   exact z
set_option maxRecDepth 65536 in
set_option maxHeartbeats 40000000 in
theorem comes_1 {Post : Tables → Env → Array Value → State → Outcome → State → Prop} (hpost : ∀ tb e args s v u, (limb_1_1.after args s (.returned v) u = true ∧ limb_1_2.after args s (.returned v) u = true ∧ True) → ReturnedEndW s (.returned v) u (Jvm.fieldLocs frame_1_writes args s ++ Jvm.arrayLocs frame_1_arrays args s ++ Jvm.staticLocs frame_1_statics s) 32 1216 → Post tb e args s (.returned v) u) :
    ArmFor flags0 classFile x code maxLocals ret World_1 tables_1 room_1 Calls_1 rest_1 Pre_1 Post := by
  intro l hfl _ _ p e ha hc hk s m args below hf hA hF happ hP
  obtain ⟨hcalls, hrest, hpre⟩ := hP
  obtain ⟨-, -, -, hnamed, -, -, -, hat⟩ := (Spec.applies_iff hf).mp happ
  obtain ⟨hg, hn⟩ := and_e (Cond.before_iff.mp (show (Jvm.Cond.and given_1 narrow_1).before args s = true from hpre))
  obtain ⟨y1, y2⟩ := and_e hg
  obtain ⟨y3, y4⟩ := and_e y2
  obtain ⟨y5, y6⟩ := and_e y4
  obtain ⟨y7, y8⟩ := and_e y6
  obtain ⟨y9, y10⟩ := and_e y8
  obtain ⟨v0, v1, v2, v3, v4, rfl⟩ : ∃ v0 v1 v2 v3 v4 : Value, args = #[v0, v1, v2, v3, v4] := by
    have hs : args.size = 5 := by simpa [Cond.value, given_1] using y1
    obtain ⟨L⟩ := args
    match L, hs with
    | [v0, v1, v2, v3, v4], _ => exact ⟨v0, v1, v2, v3, v4, rfl⟩
  have hw := fun d (hd : d ∈ tables_1) => atoms_spec (ws := Jvm.Cond.code x code maxLocals ret :: tables_1) hat d (List.mem_cons_of_mem _ hd)
  have hfit : Fit s := fun {y c} hc i hi => by
    obtain ⟨ha, rfl⟩ := Array.getElem?_eq_some_iff.mp hc
    have q := List.all_eq_true.mp ((Array.all_eq_true_iff_forall_mem.mp hF) _ (Array.getElem_mem ha)) i (List.mem_range.mpr hi)
    simpa [Array.getElem?_eq_getElem hi] using q
  obtain ⟨hsets, hown0⟩ := atoms_of _ (rest_1_c_eq ▸ (show rest_1_c.before _ s = true from hrest))
  have hr0 := Cond.before_iff.mp hown0
  obtain ⟨i0, ei0⟩ := is_v y3
  obtain rfl : v0 = (.int i0) := Option.some.inj ei0
  obtain ⟨i1, ei1⟩ := isL_v y5
  obtain rfl : v1 = (.long i1) := Option.some.inj ei1
  obtain ⟨i2, ei2⟩ := isL_v y7
  obtain rfl : v2 = (.long i2) := Option.some.inj ei2
  obtain ⟨i3, ei3⟩ := is_v y9
  obtain rfl : v3 = (.int i3) := Option.some.inj ei3
  obtain ⟨i4, ei4⟩ := is_v y10
  obtain rfl : v4 = (.int i4) := Option.some.inj ei4
  obtain ⟨icp, ecp⟩ := is_v (Cond.before_iff.mp (hsets _ (List.mem_of_getElem? (i := 1) rfl)))
  have Scp : Sta s s.heap "java/lang/String" "COMPACT_STRINGS" "Z" (.int icp) := Sta.start ecp (Or.inl (hsets _ (List.mem_of_getElem? (i := 0) rfl)))
  have hcp : ¬ (icp = (0 : Int32)) := gotF (Cond.eq_ints ecp (Term.int_eval (0))) (not_v (Cond.before_iff.mp (hsets _ (List.mem_of_getElem? (i := 2) rfl))))
  obtain ⟨vsf, esf, hsf⟩ := own_isr (Cond.before_iff.mp (hsets _ (List.mem_of_getElem? (i := 8) rfl)))
  have Ssf : Sta s s.heap "jdk/internal/util/Preconditions" "SIOOBE_FORMATTER" "Ljava/util/function/BiFunction;" vsf := Sta.start esf (Or.inl (hsets _ (List.mem_of_getElem? (i := 7) rfl)))
  have ead := eqv_i (Term.int_eval (1)) (Cond.before_iff.mp (hsets _ (List.mem_of_getElem? (i := 12) rfl)))
  have Sad : Sta s s.heap "java/lang/StringUTF16" "$assertionsDisabled" "Z" (.int 1) := Sta.start ead (Or.inl (hsets _ (List.mem_of_getElem? (i := 11) rfl)))
  have ehi := eqv_i (Term.int_eval (0)) (Cond.before_iff.mp (hsets _ (List.mem_of_getElem? (i := 15) rfl)))
  have Shi : Sta s s.heap "java/lang/StringUTF16" "HI_BYTE_SHIFT" "I" (.int 0) := Sta.start ehi (Or.inl (hsets _ (List.mem_of_getElem? (i := 14) rfl)))
  have elo := eqv_i (Term.int_eval (8)) (Cond.before_iff.mp (hsets _ (List.mem_of_getElem? (i := 18) rfl)))
  have Slo : Sta s s.heap "java/lang/StringUTF16" "LO_BYTE_SHIFT" "I" (.int 8) := Sta.start elo (Or.inl (hsets _ (List.mem_of_getElem? (i := 17) rfl)))
  have hCHs : CHv s own_EL s.vm s.heap := CHv.start (own_EW hw) (fun p hp => hcalls.1 p (own_ELc p hp)) (show Jvm.Lit.compactW.before _ s = true from (hsets _ (List.mem_of_getElem? (i := 2) rfl))) (w_ hw 34 rfl) (w_ hw 21 rfl)
  obtain ⟨n, o, h1, h2, h3, _, L, rfl, ⟨rfl, N⟩, -, hq⟩ := rm0 l s _ hw tables_1 i0 i1 i2 i3 i4 icp vsf s.heap s.heap.size (Nat.le_refl _) (Old.start s) hcp Scp Sad Shi Slo Ssf hsf p e ha hc hk s m _ below hf ((Spec.applies_iff_loose hf).mp happ).1 ⟨rfl, State.Warmed39.refl s, rfl, hCHs⟩ trivial
  refine ⟨n, _, h1, h2, h3, hpost _ _ _ _ _ _ ⟨Cond.after_iff.mpr rfl, Cond.after_iff.mpr (eq_i res_at (Term.int_eval (1)) rfl), trivial⟩ ⟨hq.1, hq.2.1, hq.2.2.1, (hq.2.2.2.sift fun y hy => Or.inr (N y hy)).mono (by decide) (by decide)⟩⟩
theorem main_1_1 : Claimed_1_1 := comes_1 fun _ _ _ _ _ _ h hF => ⟨h.1, hF⟩
theorem main_1_2 : Claimed_1_2 := comes_1 fun _ _ _ _ _ _ h hF => ⟨h.2.1, hF⟩
end Jvm.Pilot.@@N@@
namespace Jvm.Pilot.@@N@@
open Jvm Jvm.ClassFile Sem Op Lib Jvm.Free Jvm.Stand Jvm.Pilot.@@N@@.Jvm.D
/-! MADE BY PROGRAM (witnessworld.py) out of the Statement's table words and the real class files: 23 classes; the members and pool entries that the words name. The judged class is class 1, her method 1. -/
namespace start1
open Jvm.ClassFile
def u (s : String) : CpInfo := .utf8 (stringToUtf16 s)
/-- a pool by its gaps: so many unusable entries, then the entry; so many at the end -/
def gap : Nat → List CpInfo → List CpInfo
  | 0, r => r
  | n + 1, r => .unusable :: gap n r
def poolList (es : List (Nat × CpInfo)) (last : Nat) : List CpInfo := es.foldr (fun e r => gap e.1 (e.2 :: r)) (gap last [])
def pool (es : List (Nat × CpInfo)) (last : Nat) : Array CpInfo := ⟨poolList es last⟩
def fileOf (pool : Array CpInfo) (this : Nat) (attrs : Array Attribute := #[]) (ms : Array MethodInfo := #[]) (fl : Nat := 33) (sup : Nat := 0) (ifs : Array Nat := #[]) (fds : Array FieldInfo := #[]) : ClassFile where
  minorVersion := 0
  majorVersion := 65
  constantPool := pool
  accessFlags := fl
  thisClass := this
  superClass := sup
  interfaces := ifs
  fields := fds
  methods := ms
  attributes := attrs
def plain (name : String) (sup : Option ClassId) : Class where
  name := name
  kind := .ordinary
  loader := none
  accessFlags := 33
  super := sup
  interfaces := #[]
  cf := none
  fields := #[]
  methods := #[]
  instanceTypes := #[]
  staticTypes := #[]
  resolved := #[]
  callSites := []
  init := .initialized
  statics := none
  mirror := none

def pool0 : Array CpInfo := pool [(5, u "<init>"), (0, u "()V"), (1, .class_ 10), (1, u "java/lang/Object")] 113

def k0c0 : Code := { maxStack := 0, maxLocals := 1, code := object_method_1_code, exceptionTable := #[], attributes := #[] }
def k0m0 : Method := { name := "<init>", desc := "()V", sig := { parameters := [], returnType := none }, accessFlags := 1, code := some k0c0 }
/-- java/lang/Object -/
def k0 : Class := { plain "java/lang/Object" none with
  accessFlags := 33
  interfaces := #[]
  cf := some (fileOf pool0 8 #[] #[{ accessFlags := 1, nameIndex := 5, descriptorIndex := 6, attributes := #[] }] 33 0 #[] #[])
  fields := #[]
  methods := #[k0m0]
  instanceTypes := #[]
  staticTypes := #[]
  resolved := Array.replicate 124 none
  statics := none }

def pool1 : Array CpInfo := pool [(2, .class_ 4), (1, u "java/lang/Object"), (0, u "<init>"), (0, u "()V"), (0, .methodref 8 9), (0, .class_ 10), (0, .nameAndType 11 12), (0, u "com/example/libaccrue/libaccrue/records/TextOrderComparePinLaw"), (0, u "cp"), (0, u "(J)I"), (0, .long 7), (1, .methodref 8 16), (0, .nameAndType 17 18), (0, u "fix"), (0, u "(III)I"), (0, .methodref 8 20), (0, .nameAndType 21 22), (0, u "build"), (0, u "(IIII)Ljava/lang/String;"), (0, .methodref 24 25), (0, .class_ 26), (0, .nameAndType 27 28), (0, u "com/example/libaccrue/libaccrue/records/TextOrder"), (0, u "compare"), (0, u "(Ljava/lang/String;Ljava/lang/String;)I"), (0, .methodref 8 30), (0, .nameAndType 31 32), (0, u "ref"), (0, u "(IIIIIIII)I"), (0, .methodref 8 34), (0, .nameAndType 35 36), (0, u "sign"), (0, u "(I)I"), (0, .long 2097151), (1, .long 1114112), (1, .integer 55296), (0, .integer 56319), (0, .integer 65536), (0, .integer 56320), (0, .methodref 8 46), (0, .nameAndType 47 18), (0, u "width"), (0, .methodref 8 49), (0, .nameAndType 50 51), (0, u "put"), (0, u "([CIIII)I"), (0, .class_ 53), (0, u "java/lang/String"), (0, .methodref 52 55), (0, .nameAndType 5 56), (0, u "([C)V"), (2, u "law"), (0, u "(IJJII)Z")] 3

def k1m0 : Method := { name := "<init>", desc := "()V", sig := { parameters := [], returnType := none }, accessFlags := 1, code := none }
def k1c1 : Code := { maxStack := 8, maxLocals := 20, code := code, exceptionTable := #[], attributes := #[] }
def k1m1 : Method := { name := "law", desc := "(IJJII)Z", sig := { parameters := [.int, .long, .long, .int, .int], returnType := some .boolean }, accessFlags := 9, code := some k1c1 }
def k1c2 : Code := { maxStack := 4, maxLocals := 2, code := method_3_code, exceptionTable := #[], attributes := #[] }
def k1m2 : Method := { name := "cp", desc := "(J)I", sig := { parameters := [.long], returnType := some .int }, accessFlags := 10, code := some k1c2 }
def k1c3 : Code := { maxStack := 3, maxLocals := 3, code := method_4_code, exceptionTable := #[], attributes := #[] }
def k1m3 : Method := { name := "fix", desc := "(III)I", sig := { parameters := [.int, .int, .int], returnType := some .int }, accessFlags := 10, code := some k1c3 }
def k1c4 : Code := { maxStack := 2, maxLocals := 3, code := method_5_code, exceptionTable := #[], attributes := #[] }
def k1m4 : Method := { name := "width", desc := "(III)I", sig := { parameters := [.int, .int, .int], returnType := some .int }, accessFlags := 10, code := some k1c4 }
def k1c5 : Code := { maxStack := 5, maxLocals := 6, code := method_6_code, exceptionTable := #[], attributes := #[] }
def k1m5 : Method := { name := "put", desc := "([CIIII)I", sig := { parameters := [(.array .char), .int, .int, .int, .int], returnType := some .int }, accessFlags := 10, code := some k1c5 }
def k1c6 : Code := { maxStack := 5, maxLocals := 7, code := method_7_code, exceptionTable := #[], attributes := #[] }
def k1m6 : Method := { name := "build", desc := "(IIII)Ljava/lang/String;", sig := { parameters := [.int, .int, .int, .int], returnType := some (.object "java/lang/String") }, accessFlags := 10, code := some k1c6 }
def k1c7 : Code := { maxStack := 1, maxLocals := 1, code := method_8_code, exceptionTable := #[], attributes := #[] }
def k1m7 : Method := { name := "sign", desc := "(I)I", sig := { parameters := [.int], returnType := some .int }, accessFlags := 10, code := some k1c7 }
def k1c8 : Code := { maxStack := 2, maxLocals := 8, code := method_9_code, exceptionTable := #[], attributes := #[] }
def k1m8 : Method := { name := "ref", desc := "(IIIIIIII)I", sig := { parameters := [.int, .int, .int, .int, .int, .int, .int, .int], returnType := some .int }, accessFlags := 10, code := some k1c8 }
/-- com/example/libaccrue/libaccrue/records/TextOrderComparePinLaw -/
def k1 : Class := { plain "com/example/libaccrue/libaccrue/records/TextOrderComparePinLaw" (some 0) with
  accessFlags := 49
  interfaces := #[]
  cf := some (fileOf pool1 8 #[] #[{ accessFlags := 1, nameIndex := 5, descriptorIndex := 6, attributes := #[] }, { accessFlags := 9, nameIndex := 59, descriptorIndex := 60, attributes := #[] }, { accessFlags := 10, nameIndex := 11, descriptorIndex := 12, attributes := #[] }, { accessFlags := 10, nameIndex := 17, descriptorIndex := 18, attributes := #[] }, { accessFlags := 10, nameIndex := 47, descriptorIndex := 18, attributes := #[] }, { accessFlags := 10, nameIndex := 50, descriptorIndex := 51, attributes := #[] }, { accessFlags := 10, nameIndex := 21, descriptorIndex := 22, attributes := #[] }, { accessFlags := 10, nameIndex := 35, descriptorIndex := 36, attributes := #[] }, { accessFlags := 10, nameIndex := 31, descriptorIndex := 32, attributes := #[] }] 49 2 #[] #[])
  fields := #[]
  methods := #[k1m0, k1m1, k1m2, k1m3, k1m4, k1m5, k1m6, k1m7, k1m8]
  instanceTypes := #[]
  staticTypes := #[]
  resolved := Array.replicate 64 none
  statics := none }

def pool2 : Array CpInfo := pool [(1, .class_ 2), (0, u "java/io/Serializable"), (0, .class_ 4), (0, u "java/lang/Object")] 2

/-- java/io/Serializable -/
def k2 : Class := { plain "java/io/Serializable" (some 0) with
  accessFlags := 1537
  interfaces := #[]
  cf := some (fileOf pool2 1 #[] #[] 1537 3 #[] #[])
  fields := #[]
  methods := #[]
  instanceTypes := #[]
  staticTypes := #[]
  resolved := Array.replicate 7 none
  statics := none }

def pool3 : Array CpInfo := pool [(1, .class_ 2), (0, u "java/lang/Comparable"), (0, .class_ 4), (0, u "java/lang/Object")] 7

/-- java/lang/Comparable -/
def k3 : Class := { plain "java/lang/Comparable" (some 0) with
  accessFlags := 1537
  interfaces := #[]
  cf := some (fileOf pool3 1 #[] #[] 1537 3 #[] #[])
  fields := #[]
  methods := #[]
  instanceTypes := #[]
  staticTypes := #[]
  resolved := Array.replicate 12 none
  statics := none }

def pool4 : Array CpInfo := pool [(2, .class_ 4), (1, u "java/lang/CharSequence"), (42, .class_ 48), (0, u "java/lang/CharSequence$1CodePointIterator"), (10, .class_ 60), (0, u "java/lang/CharSequence$1CharIterator"), (5, .class_ 67), (0, u "java/lang/Object")] 63

/-- java/lang/CharSequence -/
def k4 : Class := { plain "java/lang/CharSequence" (some 0) with
  accessFlags := 1537
  interfaces := #[]
  cf := some (fileOf pool4 2 #[.nestMembers #[47, 59]] #[] 1537 66 #[] #[])
  fields := #[]
  methods := #[]
  instanceTypes := #[]
  staticTypes := #[]
  resolved := Array.replicate 131 none
  statics := none }

def pool5 : Array CpInfo := pool [(1, .class_ 2), (0, u "java/lang/constant/Constable"), (0, .class_ 4), (0, u "java/lang/Object")] 6

/-- java/lang/constant/Constable -/
def k5 : Class := { plain "java/lang/constant/Constable" (some 0) with
  accessFlags := 1537
  interfaces := #[]
  cf := some (fileOf pool5 1 #[] #[] 1537 3 #[] #[])
  fields := #[]
  methods := #[]
  instanceTypes := #[]
  staticTypes := #[]
  resolved := Array.replicate 11 none
  statics := none }

def pool6 : Array CpInfo := pool [(1, .class_ 2), (0, u "java/lang/constant/ConstantDesc"), (0, .class_ 4), (0, u "java/lang/Object")] 32

/-- java/lang/constant/ConstantDesc -/
def k6 : Class := { plain "java/lang/constant/ConstantDesc" (some 0) with
  accessFlags := 1537
  interfaces := #[]
  cf := some (fileOf pool6 1 #[] #[] 1537 3 #[] #[])
  fields := #[]
  methods := #[]
  instanceTypes := #[]
  staticTypes := #[]
  resolved := Array.replicate 37 none
  statics := none }

def pool7 : Array CpInfo := pool [(1, .methodref 2 3), (0, .class_ 4), (0, .nameAndType 5 6), (0, u "java/lang/Object"), (0, u "<init>"), (0, u "()V"), (0, .string 8), (0, u ""), (0, .fieldref 10 11), (0, .class_ 12), (0, .nameAndType 13 14), (0, u "java/lang/String"), (0, u "value"), (0, u "[B"), (0, .fieldref 10 16), (0, .nameAndType 17 18), (0, u "coder"), (0, u "B"), (2, u "hash"), (0, u "I"), (2, u "hashIsZero"), (0, u "Z"), (0, .methodref 10 28), (0, .nameAndType 5 29), (0, u "([CIILjava/lang/Void;)V"), (8, .fieldref 10 39), (0, .nameAndType 40 26), (0, u "COMPACT_STRINGS"), (1, .class_ 44), (1, u "java/lang/StringUTF16"), (0, u "compress"), (1, .methodref 42 48), (0, .nameAndType 49 50), (0, u "coderFromArrayLen"), (0, u "([BI)B"), (46, u "([BII)I"), (44, u "()Z"), (34, .methodref 42 178), (0, .nameAndType 45 179), (0, u "([CII)[B"), (154, u "()I"), (0, .methodref 10 336), (0, .nameAndType 17 337), (0, u "()B"), (53, u "(II)V"), (100, .methodref 10 493), (0, .nameAndType 494 142), (0, u "isLatin1"), (4, .methodref 10 500), (0, .nameAndType 501 391), (0, u "checkIndex"), (0, .methodref 42 503), (0, .nameAndType 504 97), (0, u "codePointAt"), (2, u "length"), (67, .class_ 576), (0, u "java/lang/CharSequence"), (22, u "CASE_INSENSITIVE_ORDER"), (0, u "Ljava/util/Comparator;"), (164, u "(I)I"), (244, u "([C)V"), (42, .fieldref 1054 1055), (0, .class_ 1056), (0, .nameAndType 1057 1058), (0, u "jdk/internal/util/Preconditions"), (0, u "SIOOBE_FORMATTER"), (0, u "Ljava/util/function/BiFunction;"), (0, .methodref 1054 1060), (0, .nameAndType 501 1061), (0, u "(IILjava/util/function/BiFunction;)I"), (39, u "serialPersistentFields"), (0, u "[Ljava/io/ObjectStreamField;"), (0, .class_ 1104), (0, u "java/lang/String$CaseInsensitiveComparator"), (1, .class_ 1107), (0, u "java/io/Serializable"), (0, .class_ 1109), (0, u "java/lang/Comparable"), (0, .class_ 1111), (0, u "java/lang/constant/Constable"), (0, .class_ 1113), (0, u "java/lang/constant/ConstantDesc"), (2, u "serialVersionUID"), (0, u "J"), (3, u "REPL"), (0, u "C"), (2, u "LATIN1"), (1, u "UTF16")] 323

def k7m0 : Method := { name := "<init>", desc := "()V", sig := { parameters := [], returnType := none }, accessFlags := 1, code := none }
def k7c1 : Code := { maxStack := 5, maxLocals := 2, code := jdk_42_method_3_code, exceptionTable := #[], attributes := #[] }
def k7m1 : Method := { name := "<init>", desc := "([C)V", sig := { parameters := [(.array .char)], returnType := none }, accessFlags := 1, code := some k7c1 }
def k7c2 : Code := { maxStack := 2, maxLocals := 1, code := jdk_42_method_54_code, exceptionTable := #[], attributes := #[] }
def k7m2 : Method := { name := "length", desc := "()I", sig := { parameters := [], returnType := some .int }, accessFlags := 1, code := some k7c2 }
def k7c3 : Code := { maxStack := 3, maxLocals := 3, code := jdk_42_method_57_code, exceptionTable := #[], attributes := #[] }
def k7m3 : Method := { name := "codePointAt", desc := "(I)I", sig := { parameters := [.int], returnType := some .int }, accessFlags := 1, code := some k7c3 }
def k7c4 : Code := { maxStack := 4, maxLocals := 6, code := jdk_42_method_149_code, exceptionTable := #[], attributes := #[] }
def k7m4 : Method := { name := "<init>", desc := "([CIILjava/lang/Void;)V", sig := { parameters := [(.array .char), .int, .int, (.object "java/lang/Void")], returnType := none }, accessFlags := 2, code := some k7c4 }
def k7c5 : Code := { maxStack := 1, maxLocals := 1, code := jdk_42_method_152_code, exceptionTable := #[], attributes := #[] }
def k7m5 : Method := { name := "coder", desc := "()B", sig := { parameters := [], returnType := some .byte }, accessFlags := 0, code := some k7c5 }
def k7c6 : Code := { maxStack := 1, maxLocals := 1, code := jdk_42_method_154_code, exceptionTable := #[], attributes := #[] }
def k7m6 : Method := { name := "isLatin1", desc := "()Z", sig := { parameters := [], returnType := some .boolean }, accessFlags := 0, code := some k7c6 }
def k7c7 : Code := { maxStack := 3, maxLocals := 2, code := jdk_42_method_155_code, exceptionTable := #[], attributes := #[] }
def k7m7 : Method := { name := "checkIndex", desc := "(II)V", sig := { parameters := [.int, .int], returnType := none }, accessFlags := 8, code := some k7c7 }
/-- java/lang/String -/
def k7 : Class := { plain "java/lang/String" (some 0) with
  accessFlags := 49
  interfaces := #[2, 3, 4, 5, 6]
  cf := some (fileOf pool7 10 #[.nestMembers #[1103]] #[{ accessFlags := 1, nameIndex := 5, descriptorIndex := 6, attributes := #[] }, { accessFlags := 1, nameIndex := 5, descriptorIndex := 1010, attributes := #[] }, { accessFlags := 1, nameIndex := 507, descriptorIndex := 334, attributes := #[] }, { accessFlags := 1, nameIndex := 504, descriptorIndex := 765, attributes := #[] }, { accessFlags := 2, nameIndex := 5, descriptorIndex := 29, attributes := #[] }, { accessFlags := 0, nameIndex := 17, descriptorIndex := 337, attributes := #[] }, { accessFlags := 0, nameIndex := 494, descriptorIndex := 142, attributes := #[] }, { accessFlags := 8, nameIndex := 501, descriptorIndex := 391, attributes := #[] }] 49 2 #[1106, 1108, 575, 1110, 1112] #[{ accessFlags := 18, nameIndex := 13, descriptorIndex := 14, attributes := #[] }, { accessFlags := 18, nameIndex := 17, descriptorIndex := 18, attributes := #[] }, { accessFlags := 2, nameIndex := 21, descriptorIndex := 22, attributes := #[] }, { accessFlags := 2, nameIndex := 25, descriptorIndex := 26, attributes := #[] }, { accessFlags := 26, nameIndex := 1116, descriptorIndex := 1117, attributes := #[] }, { accessFlags := 24, nameIndex := 40, descriptorIndex := 26, attributes := #[] }, { accessFlags := 26, nameIndex := 1101, descriptorIndex := 1102, attributes := #[] }, { accessFlags := 26, nameIndex := 1121, descriptorIndex := 1122, attributes := #[] }, { accessFlags := 25, nameIndex := 599, descriptorIndex := 600, attributes := #[] }, { accessFlags := 24, nameIndex := 1125, descriptorIndex := 18, attributes := #[] }, { accessFlags := 24, nameIndex := 1127, descriptorIndex := 18, attributes := #[] }])
  fields := #[{ name := "value", type := (.array .byte), accessFlags := 18, slot := 0, constantValue := 0 }, { name := "coder", type := .byte, accessFlags := 18, slot := 1, constantValue := 0 }, { name := "hash", type := .int, accessFlags := 2, slot := 2, constantValue := 0 }, { name := "hashIsZero", type := .boolean, accessFlags := 2, slot := 3, constantValue := 0 }, { name := "serialVersionUID", type := .long, accessFlags := 26, slot := 0, constantValue := 0 }, { name := "COMPACT_STRINGS", type := .boolean, accessFlags := 24, slot := 1, constantValue := 0 }, { name := "serialPersistentFields", type := (.array (.object "java/io/ObjectStreamField")), accessFlags := 26, slot := 2, constantValue := 0 }, { name := "REPL", type := .char, accessFlags := 26, slot := 3, constantValue := 0 }, { name := "CASE_INSENSITIVE_ORDER", type := (.object "java/util/Comparator"), accessFlags := 25, slot := 4, constantValue := 0 }, { name := "LATIN1", type := .byte, accessFlags := 24, slot := 5, constantValue := 0 }, { name := "UTF16", type := .byte, accessFlags := 24, slot := 6, constantValue := 0 }]
  methods := #[k7m0, k7m1, k7m2, k7m3, k7m4, k7m5, k7m6, k7m7]
  instanceTypes := #[(.array .byte), .byte, .int, .boolean]
  staticTypes := #[.long, .boolean, (.array (.object "java/io/ObjectStreamField")), .char, (.object "java/util/Comparator"), .byte, .byte]
  resolved := Array.replicate 1451 none
  statics := some 0 }

def pool8 : Array CpInfo := pool [(2, .class_ 4), (1, u "java/lang/Object"), (0, u "<init>"), (0, u "()V"), (0, .methodref 8 9), (0, .class_ 10), (0, .nameAndType 11 12), (0, u "java/lang/String"), (0, u "length"), (0, u "()I"), (0, .methodref 8 14), (0, .nameAndType 15 16), (0, u "codePointAt"), (0, u "(I)I"), (0, .methodref 18 19), (0, .class_ 20), (0, .nameAndType 21 22), (0, u "java/lang/Integer"), (0, u "compare"), (0, u "(II)I"), (0, .methodref 24 25), (0, .class_ 26), (0, .nameAndType 27 16), (0, u "java/lang/Character"), (0, u "charCount"), (0, .class_ 29), (0, u "com/example/libaccrue/libaccrue/records/TextOrder"), (2, u "(Ljava/lang/String;Ljava/lang/String;)I")] 3

def k8m0 : Method := { name := "<init>", desc := "()V", sig := { parameters := [], returnType := none }, accessFlags := 2, code := none }
def k8c1 : Code := { maxStack := 2, maxLocals := 5, code := prog_51_method_2_code, exceptionTable := #[], attributes := #[] }
def k8m1 : Method := { name := "compare", desc := "(Ljava/lang/String;Ljava/lang/String;)I", sig := { parameters := [(.object "java/lang/String"), (.object "java/lang/String")], returnType := some .int }, accessFlags := 9, code := some k8c1 }
/-- com/example/libaccrue/libaccrue/records/TextOrder -/
def k8 : Class := { plain "com/example/libaccrue/libaccrue/records/TextOrder" (some 0) with
  accessFlags := 49
  interfaces := #[]
  cf := some (fileOf pool8 28 #[] #[{ accessFlags := 2, nameIndex := 5, descriptorIndex := 6, attributes := #[] }, { accessFlags := 9, nameIndex := 21, descriptorIndex := 32, attributes := #[] }] 49 2 #[] #[])
  fields := #[]
  methods := #[k8m0, k8m1]
  instanceTypes := #[]
  staticTypes := #[]
  resolved := Array.replicate 36 none
  statics := none }

def pool9 : Array CpInfo := pool [(2, .class_ 4), (1, u "java/lang/Object"), (0, u "<init>"), (0, u "()V"), (1, .class_ 10), (1, u "java/lang/Number"), (2, .class_ 14), (0, u "java/io/Serializable"), (0, u "serialVersionUID"), (0, u "J")] 20

def k9m0 : Method := { name := "<init>", desc := "()V", sig := { parameters := [], returnType := none }, accessFlags := 1, code := none }
/-- java/lang/Number -/
def k9 : Class := { plain "java/lang/Number" (some 0) with
  accessFlags := 1057
  interfaces := #[2]
  cf := some (fileOf pool9 8 #[] #[{ accessFlags := 1, nameIndex := 5, descriptorIndex := 6, attributes := #[] }] 1057 2 #[13] #[{ accessFlags := 26, nameIndex := 15, descriptorIndex := 16, attributes := #[] }])
  fields := #[{ name := "serialVersionUID", type := .long, accessFlags := 26, slot := 0, constantValue := 0 }]
  methods := #[k9m0]
  instanceTypes := #[]
  staticTypes := #[.long]
  resolved := Array.replicate 37 none
  statics := none }

def pool10 : Array CpInfo := pool [(1, .class_ 2), (0, u "java/lang/Integer"), (16, u "digits"), (0, u "[C"), (39, u "(II)I"), (24, u "DigitOnes"), (0, u "[B"), (2, u "DigitTens"), (99, .class_ 190), (0, u "java/lang/Integer$IntegerCache"), (3, u "I"), (8, .class_ 204), (0, u "java/lang/Number"), (2, u "value"), (53, u "compare"), (40, u "TYPE"), (0, u "Ljava/lang/Class;"), (0, .class_ 305), (0, u "java/lang/Comparable"), (0, .class_ 307), (0, u "java/lang/constant/Constable"), (0, .class_ 309), (0, u "java/lang/constant/ConstantDesc"), (0, u "MIN_VALUE"), (1, u "MAX_VALUE"), (3, u "SIZE"), (1, u "BYTES"), (1, u "serialVersionUID"), (0, u "J")] 131

def k10c0 : Code := { maxStack := 2, maxLocals := 2, code := jdk_33_method_40_code, exceptionTable := #[], attributes := #[] }
def k10m0 : Method := { name := "compare", desc := "(II)I", sig := { parameters := [.int, .int], returnType := some .int }, accessFlags := 9, code := some k10c0 }
/-- java/lang/Integer -/
def k10 : Class := { plain "java/lang/Integer" (some 9) with
  accessFlags := 49
  interfaces := #[3, 5, 6]
  cf := some (fileOf pool10 1 #[.nestMembers #[189]] #[{ accessFlags := 9, nameIndex := 261, descriptorIndex := 60, attributes := #[] }] 49 203 #[304, 306, 308] #[{ accessFlags := 25, nameIndex := 310, descriptorIndex := 194, attributes := #[] }, { accessFlags := 25, nameIndex := 312, descriptorIndex := 194, attributes := #[] }, { accessFlags := 25, nameIndex := 302, descriptorIndex := 303, attributes := #[] }, { accessFlags := 24, nameIndex := 19, descriptorIndex := 20, attributes := #[] }, { accessFlags := 24, nameIndex := 89, descriptorIndex := 86, attributes := #[] }, { accessFlags := 24, nameIndex := 85, descriptorIndex := 86, attributes := #[] }, { accessFlags := 18, nameIndex := 207, descriptorIndex := 194, attributes := #[] }, { accessFlags := 25, nameIndex := 316, descriptorIndex := 194, attributes := #[] }, { accessFlags := 25, nameIndex := 318, descriptorIndex := 194, attributes := #[] }, { accessFlags := 26, nameIndex := 320, descriptorIndex := 321, attributes := #[] }])
  fields := #[{ name := "MIN_VALUE", type := .int, accessFlags := 25, slot := 0, constantValue := 0 }, { name := "MAX_VALUE", type := .int, accessFlags := 25, slot := 1, constantValue := 0 }, { name := "TYPE", type := (.object "java/lang/Class"), accessFlags := 25, slot := 2, constantValue := 0 }, { name := "digits", type := (.array .char), accessFlags := 24, slot := 3, constantValue := 0 }, { name := "DigitTens", type := (.array .byte), accessFlags := 24, slot := 4, constantValue := 0 }, { name := "DigitOnes", type := (.array .byte), accessFlags := 24, slot := 5, constantValue := 0 }, { name := "value", type := .int, accessFlags := 18, slot := 0, constantValue := 0 }, { name := "SIZE", type := .int, accessFlags := 25, slot := 6, constantValue := 0 }, { name := "BYTES", type := .int, accessFlags := 25, slot := 7, constantValue := 0 }, { name := "serialVersionUID", type := .long, accessFlags := 26, slot := 8, constantValue := 0 }]
  methods := #[k10m0]
  instanceTypes := #[.int]
  staticTypes := #[.int, .int, (.object "java/lang/Class"), (.array .char), (.array .byte), (.array .byte), .int, .int, .long]
  resolved := Array.replicate 453 none
  statics := none }

def pool11 : Array CpInfo := pool [(6, .class_ 8), (1, u "java/lang/Object"), (0, u "<init>"), (0, u "()V"), (0, .methodref 12 13), (0, .class_ 14), (0, .nameAndType 15 16), (0, u "java/lang/StringUTF16"), (0, u "newBytesLength"), (0, u "(I)I"), (3, .integer 1073741823), (23, .fieldref 12 45), (0, .nameAndType 46 47), (0, u "$assertionsDisabled"), (0, u "Z"), (11, .fieldref 12 60), (0, .nameAndType 61 62), (0, u "HI_BYTE_SHIFT"), (0, u "I"), (0, .fieldref 12 64), (0, .nameAndType 65 62), (0, u "LO_BYTE_SHIFT"), (5, .methodref 12 72), (0, .nameAndType 73 74), (0, u "getChar"), (0, u "([BI)C"), (0, .methodref 76 77), (0, .class_ 78), (0, .nameAndType 79 80), (0, u "java/lang/Character"), (0, u "isHighSurrogate"), (0, u "(C)Z"), (0, .methodref 76 82), (0, .nameAndType 83 80), (0, u "isLowSurrogate"), (0, .methodref 76 85), (0, .nameAndType 86 87), (0, u "toCodePoint"), (0, u "(CC)I"), (0, .methodref 12 89), (0, .nameAndType 90 91), (0, u "codePointAt"), (0, u "([BIIZ)I"), (15, .methodref 12 108), (0, .nameAndType 109 110), (0, u "newBytesFor"), (0, u "(I)[B"), (0, .methodref 12 112), (0, .nameAndType 113 114), (0, u "putChar"), (0, u "([BII)V"), (0, .methodref 12 116), (0, .nameAndType 117 118), (0, u "compress"), (0, u "([CI[BII)I"), (0, .methodref 12 120), (0, .nameAndType 121 122), (0, u "toBytes"), (0, u "([CII)[B"), (127, u "([BII)I"), (10, u "coderFromArrayLen"), (0, u "([BI)B"), (106, .class_ 371), (1, u "java/lang/StringUTF16$LinesSpliterator"), (58, u "MAX_LENGTH"), (196, .class_ 628), (0, u "java/lang/StringUTF16$CodePointsSpliterator"), (0, .class_ 630), (0, u "java/lang/StringUTF16$CharsSpliterator")] 4

def k11m0 : Method := { name := "<init>", desc := "()V", sig := { parameters := [], returnType := none }, accessFlags := 0, code := none }
def k11c1 : Code := { maxStack := 1, maxLocals := 1, code := jdk_52_method_2_code, exceptionTable := #[], attributes := #[] }
def k11m1 : Method := { name := "newBytesFor", desc := "(I)[B", sig := { parameters := [.int], returnType := some (.array .byte) }, accessFlags := 9, code := some k11c1 }
def k11c2 : Code := { maxStack := 4, maxLocals := 1, code := jdk_52_method_3_code, exceptionTable := #[], attributes := #[] }
def k11m2 : Method := { name := "newBytesLength", desc := "(I)I", sig := { parameters := [.int], returnType := some .int }, accessFlags := 9, code := some k11c2 }
def k11c3 : Code := { maxStack := 4, maxLocals := 3, code := jdk_52_method_4_code, exceptionTable := #[], attributes := #[] }
def k11m3 : Method := { name := "putChar", desc := "([BII)V", sig := { parameters := [(.array .byte), .int, .int], returnType := none }, accessFlags := 8, code := some k11c3 }
def k11c4 : Code := { maxStack := 3, maxLocals := 2, code := jdk_52_method_5_code, exceptionTable := #[], attributes := #[] }
def k11m4 : Method := { name := "getChar", desc := "([BI)C", sig := { parameters := [(.array .byte), .int], returnType := some .char }, accessFlags := 8, code := some k11c4 }
def k11c5 : Code := { maxStack := 2, maxLocals := 6, code := jdk_52_method_7_code, exceptionTable := #[], attributes := #[] }
def k11m5 : Method := { name := "codePointAt", desc := "([BIIZ)I", sig := { parameters := [(.array .byte), .int, .int, .boolean], returnType := some .int }, accessFlags := 10, code := some k11c5 }
def k11c6 : Code := { maxStack := 4, maxLocals := 3, code := jdk_52_method_8_code, exceptionTable := #[], attributes := #[] }
def k11m6 : Method := { name := "codePointAt", desc := "([BII)I", sig := { parameters := [(.array .byte), .int, .int], returnType := some .int }, accessFlags := 9, code := some k11c6 }
def k11c7 : Code := { maxStack := 4, maxLocals := 5, code := jdk_52_method_14_code, exceptionTable := #[], attributes := #[] }
def k11m7 : Method := { name := "toBytes", desc := "([CII)[B", sig := { parameters := [(.array .char), .int, .int], returnType := some (.array .byte) }, accessFlags := 9, code := some k11c7 }
def k11c8 : Code := { maxStack := 2, maxLocals := 2, code := jdk_52_method_15_code, exceptionTable := #[], attributes := #[] }
def k11m8 : Method := { name := "coderFromArrayLen", desc := "([BI)B", sig := { parameters := [(.array .byte), .int], returnType := some .byte }, accessFlags := 8, code := some k11c8 }
def k11c9 : Code := { maxStack := 5, maxLocals := 6, code := jdk_52_method_16_code, exceptionTable := #[], attributes := #[] }
def k11m9 : Method := { name := "compress", desc := "([CII)[B", sig := { parameters := [(.array .char), .int, .int], returnType := some (.array .byte) }, accessFlags := 9, code := some k11c9 }
def k11c10 : Code := { maxStack := 3, maxLocals := 7, code := jdk_52_method_21_code, exceptionTable := #[], attributes := #[] }
def k11m10 : Method := { name := "compress", desc := "([CI[BII)I", sig := { parameters := [(.array .char), .int, (.array .byte), .int, .int], returnType := some .int }, accessFlags := 9, code := some k11c10 }
/-- java/lang/StringUTF16 -/
def k11 : Class := { plain "java/lang/StringUTF16" (some 0) with
  accessFlags := 48
  interfaces := #[]
  cf := some (fileOf pool11 12 #[.nestMembers #[627, 629, 369]] #[{ accessFlags := 0, nameIndex := 9, descriptorIndex := 10, attributes := #[] }, { accessFlags := 9, nameIndex := 109, descriptorIndex := 110, attributes := #[] }, { accessFlags := 9, nameIndex := 15, descriptorIndex := 16, attributes := #[] }, { accessFlags := 8, nameIndex := 113, descriptorIndex := 114, attributes := #[] }, { accessFlags := 8, nameIndex := 73, descriptorIndex := 74, attributes := #[] }, { accessFlags := 10, nameIndex := 90, descriptorIndex := 91, attributes := #[] }, { accessFlags := 9, nameIndex := 90, descriptorIndex := 250, attributes := #[] }, { accessFlags := 9, nameIndex := 121, descriptorIndex := 122, attributes := #[] }, { accessFlags := 8, nameIndex := 261, descriptorIndex := 262, attributes := #[] }, { accessFlags := 9, nameIndex := 117, descriptorIndex := 122, attributes := #[] }, { accessFlags := 9, nameIndex := 117, descriptorIndex := 118, attributes := #[] }] 48 6 #[] #[{ accessFlags := 26, nameIndex := 61, descriptorIndex := 62, attributes := #[] }, { accessFlags := 26, nameIndex := 65, descriptorIndex := 62, attributes := #[] }, { accessFlags := 24, nameIndex := 430, descriptorIndex := 62, attributes := #[] }, { accessFlags := 4120, nameIndex := 46, descriptorIndex := 47, attributes := #[] }])
  fields := #[{ name := "HI_BYTE_SHIFT", type := .int, accessFlags := 26, slot := 0, constantValue := 0 }, { name := "LO_BYTE_SHIFT", type := .int, accessFlags := 26, slot := 1, constantValue := 0 }, { name := "MAX_LENGTH", type := .int, accessFlags := 24, slot := 2, constantValue := 0 }, { name := "$assertionsDisabled", type := .boolean, accessFlags := 4120, slot := 3, constantValue := 0 }]
  methods := #[k11m0, k11m1, k11m2, k11m3, k11m4, k11m5, k11m6, k11m7, k11m8, k11m9, k11m10]
  instanceTypes := #[]
  staticTypes := #[.int, .int, .int, .boolean]
  resolved := Array.replicate 635 none
  statics := some 1 }

def pool12 : Array CpInfo := pool [(2, .class_ 4), (1, u "java/lang/Object"), (0, u "<init>"), (0, u "()V"), (17, .class_ 26), (1, u "jdk/internal/util/Preconditions"), (6, u "checkIndex"), (21, .class_ 56), (0, u "jdk/internal/util/Preconditions$4"), (57, .class_ 115), (0, u "jdk/internal/util/Preconditions$1"), (7, u "SIOOBE_FORMATTER"), (0, u "Ljava/util/function/BiFunction;"), (0, .class_ 126), (0, u "jdk/internal/util/Preconditions$2"), (3, u "AIOOBE_FORMATTER"), (0, .class_ 132), (0, u "jdk/internal/util/Preconditions$3"), (3, u "IOOBE_FORMATTER"), (41, u "(IILjava/util/function/BiFunction;)I")] 15

def k12m0 : Method := { name := "<init>", desc := "()V", sig := { parameters := [], returnType := none }, accessFlags := 1, code := none }
def k12c1 : Code := { maxStack := 3, maxLocals := 3, code := jdk_41_method_11_code, exceptionTable := #[], attributes := #[] }
def k12m1 : Method := { name := "checkIndex", desc := "(IILjava/util/function/BiFunction;)I", sig := { parameters := [.int, .int, (.object "java/util/function/BiFunction")], returnType := some .int }, accessFlags := 9, code := some k12c1 }
/-- jdk/internal/util/Preconditions -/
def k12 : Class := { plain "jdk/internal/util/Preconditions" (some 0) with
  accessFlags := 33
  interfaces := #[]
  cf := some (fileOf pool12 24 #[.nestMembers #[55, 131, 125, 114]] #[{ accessFlags := 1, nameIndex := 5, descriptorIndex := 6, attributes := #[] }, { accessFlags := 9, nameIndex := 33, descriptorIndex := 178, attributes := #[] }] 33 2 #[] #[{ accessFlags := 25, nameIndex := 123, descriptorIndex := 124, attributes := #[] }, { accessFlags := 25, nameIndex := 130, descriptorIndex := 124, attributes := #[] }, { accessFlags := 25, nameIndex := 136, descriptorIndex := 124, attributes := #[] }])
  fields := #[{ name := "SIOOBE_FORMATTER", type := (.object "java/util/function/BiFunction"), accessFlags := 25, slot := 0, constantValue := 0 }, { name := "AIOOBE_FORMATTER", type := (.object "java/util/function/BiFunction"), accessFlags := 25, slot := 1, constantValue := 0 }, { name := "IOOBE_FORMATTER", type := (.object "java/util/function/BiFunction"), accessFlags := 25, slot := 2, constantValue := 0 }]
  methods := #[k12m0, k12m1]
  instanceTypes := #[]
  staticTypes := #[(.object "java/util/function/BiFunction"), (.object "java/util/function/BiFunction"), (.object "java/util/function/BiFunction")]
  resolved := Array.replicate 194 none
  statics := some 2 }

def pool13 : Array CpInfo := pool [(1, .class_ 2), (0, u "java/lang/Character"), (18, u "value"), (0, u "C"), (19, .class_ 44), (1, u "java/lang/Object"), (3, .class_ 50), (1, u "java/lang/Character$CharacterCache"), (22, .integer 65536), (1, .integer 55296), (0, .integer 56320), (0, .integer 57344), (2, u "isHighSurrogate"), (0, u "(C)Z"), (2, u "isLowSurrogate"), (0, .integer 4238353408), (12, u "toCodePoint"), (0, u "(CC)I"), (74, u "(I)I"), (109, u "$assertionsDisabled"), (0, u "Z"), (21, .class_ 309), (1, u "java/lang/Character$UnicodeBlock"), (73, u "TYPE"), (0, u "Ljava/lang/Class;"), (0, .class_ 386), (0, u "java/io/Serializable"), (0, .class_ 388), (0, u "java/lang/Comparable"), (0, .class_ 390), (0, u "java/lang/constant/Constable"), (0, u "MIN_RADIX"), (0, u "I"), (2, u "MAX_RADIX"), (1, u "MIN_VALUE"), (1, u "MAX_VALUE"), (3, u "UNASSIGNED"), (0, u "B"), (0, u "UPPERCASE_LETTER"), (1, u "LOWERCASE_LETTER"), (0, u "TITLECASE_LETTER"), (1, u "MODIFIER_LETTER"), (1, u "OTHER_LETTER"), (1, u "NON_SPACING_MARK"), (1, u "ENCLOSING_MARK"), (1, u "COMBINING_SPACING_MARK"), (1, u "DECIMAL_DIGIT_NUMBER"), (1, u "LETTER_NUMBER"), (1, u "OTHER_NUMBER"), (1, u "SPACE_SEPARATOR"), (1, u "LINE_SEPARATOR"), (1, u "PARAGRAPH_SEPARATOR"), (1, u "CONTROL"), (1, u "FORMAT"), (1, u "PRIVATE_USE"), (1, u "SURROGATE"), (1, u "DASH_PUNCTUATION"), (1, u "START_PUNCTUATION"), (1, u "END_PUNCTUATION"), (1, u "CONNECTOR_PUNCTUATION"), (1, u "OTHER_PUNCTUATION"), (1, u "MATH_SYMBOL"), (1, u "CURRENCY_SYMBOL"), (1, u "MODIFIER_SYMBOL"), (1, u "OTHER_SYMBOL"), (1, u "INITIAL_QUOTE_PUNCTUATION"), (1, u "FINAL_QUOTE_PUNCTUATION"), (1, u "ERROR"), (1, u "DIRECTIONALITY_UNDEFINED"), (0, u "DIRECTIONALITY_LEFT_TO_RIGHT"), (0, u "DIRECTIONALITY_RIGHT_TO_LEFT"), (0, u "DIRECTIONALITY_RIGHT_TO_LEFT_ARABIC"), (0, u "DIRECTIONALITY_EUROPEAN_NUMBER"), (0, u "DIRECTIONALITY_EUROPEAN_NUMBER_SEPARATOR"), (0, u "DIRECTIONALITY_EUROPEAN_NUMBER_TERMINATOR"), (0, u "DIRECTIONALITY_ARABIC_NUMBER"), (0, u "DIRECTIONALITY_COMMON_NUMBER_SEPARATOR"), (0, u "DIRECTIONALITY_NONSPACING_MARK"), (0, u "DIRECTIONALITY_BOUNDARY_NEUTRAL"), (0, u "DIRECTIONALITY_PARAGRAPH_SEPARATOR"), (0, u "DIRECTIONALITY_SEGMENT_SEPARATOR"), (0, u "DIRECTIONALITY_WHITESPACE"), (0, u "DIRECTIONALITY_OTHER_NEUTRALS"), (0, u "DIRECTIONALITY_LEFT_TO_RIGHT_EMBEDDING"), (0, u "DIRECTIONALITY_LEFT_TO_RIGHT_OVERRIDE"), (0, u "DIRECTIONALITY_RIGHT_TO_LEFT_EMBEDDING"), (0, u "DIRECTIONALITY_RIGHT_TO_LEFT_OVERRIDE"), (1, u "DIRECTIONALITY_POP_DIRECTIONAL_FORMAT"), (0, u "DIRECTIONALITY_LEFT_TO_RIGHT_ISOLATE"), (0, u "DIRECTIONALITY_RIGHT_TO_LEFT_ISOLATE"), (0, u "DIRECTIONALITY_FIRST_STRONG_ISOLATE"), (0, u "DIRECTIONALITY_POP_DIRECTIONAL_ISOLATE"), (0, u "MIN_HIGH_SURROGATE"), (0, u "MAX_HIGH_SURROGATE"), (1, u "MIN_LOW_SURROGATE"), (0, u "MAX_LOW_SURROGATE"), (1, u "MIN_SURROGATE"), (0, u "MAX_SURROGATE"), (0, u "MIN_SUPPLEMENTARY_CODE_POINT"), (0, u "MIN_CODE_POINT"), (0, u "MAX_CODE_POINT"), (1, u "serialVersionUID"), (0, u "J"), (2, u "SIZE"), (0, u "BYTES"), (29, u "charCount"), (58, .class_ 596), (0, u "java/lang/Character$UnicodeScript"), (0, .class_ 598), (0, u "java/lang/Character$Subset")] 5

def k13c0 : Code := { maxStack := 2, maxLocals := 1, code := jdk_89_method_14_code, exceptionTable := #[], attributes := #[] }
def k13m0 : Method := { name := "isHighSurrogate", desc := "(C)Z", sig := { parameters := [.char], returnType := some .boolean }, accessFlags := 9, code := some k13c0 }
def k13c1 : Code := { maxStack := 2, maxLocals := 1, code := jdk_89_method_15_code, exceptionTable := #[], attributes := #[] }
def k13m1 : Method := { name := "isLowSurrogate", desc := "(C)Z", sig := { parameters := [.char], returnType := some .boolean }, accessFlags := 9, code := some k13c1 }
def k13c2 : Code := { maxStack := 2, maxLocals := 1, code := jdk_89_method_18_code, exceptionTable := #[], attributes := #[] }
def k13m2 : Method := { name := "charCount", desc := "(I)I", sig := { parameters := [.int], returnType := some .int }, accessFlags := 9, code := some k13c2 }
def k13c3 : Code := { maxStack := 2, maxLocals := 2, code := jdk_89_method_19_code, exceptionTable := #[], attributes := #[] }
def k13m3 : Method := { name := "toCodePoint", desc := "(CC)I", sig := { parameters := [.char, .char], returnType := some .int }, accessFlags := 9, code := some k13c3 }
/-- java/lang/Character -/
def k13 : Class := { plain "java/lang/Character" (some 0) with
  accessFlags := 49
  interfaces := #[2, 3, 5]
  cf := some (fileOf pool13 1 #[.nestMembers #[48, 595, 307, 597]] #[{ accessFlags := 9, nameIndex := 80, descriptorIndex := 81, attributes := #[] }, { accessFlags := 9, nameIndex := 84, descriptorIndex := 81, attributes := #[] }, { accessFlags := 9, nameIndex := 536, descriptorIndex := 174, attributes := #[] }, { accessFlags := 9, nameIndex := 98, descriptorIndex := 99, attributes := #[] }] 49 42 #[385, 387, 389] #[{ accessFlags := 25, nameIndex := 391, descriptorIndex := 392, attributes := #[] }, { accessFlags := 25, nameIndex := 395, descriptorIndex := 392, attributes := #[] }, { accessFlags := 25, nameIndex := 397, descriptorIndex := 22, attributes := #[] }, { accessFlags := 25, nameIndex := 399, descriptorIndex := 22, attributes := #[] }, { accessFlags := 25, nameIndex := 383, descriptorIndex := 384, attributes := #[] }, { accessFlags := 25, nameIndex := 403, descriptorIndex := 404, attributes := #[] }, { accessFlags := 25, nameIndex := 405, descriptorIndex := 404, attributes := #[] }, { accessFlags := 25, nameIndex := 407, descriptorIndex := 404, attributes := #[] }, { accessFlags := 25, nameIndex := 408, descriptorIndex := 404, attributes := #[] }, { accessFlags := 25, nameIndex := 410, descriptorIndex := 404, attributes := #[] }, { accessFlags := 25, nameIndex := 412, descriptorIndex := 404, attributes := #[] }, { accessFlags := 25, nameIndex := 414, descriptorIndex := 404, attributes := #[] }, { accessFlags := 25, nameIndex := 416, descriptorIndex := 404, attributes := #[] }, { accessFlags := 25, nameIndex := 418, descriptorIndex := 404, attributes := #[] }, { accessFlags := 25, nameIndex := 420, descriptorIndex := 404, attributes := #[] }, { accessFlags := 25, nameIndex := 422, descriptorIndex := 404, attributes := #[] }, { accessFlags := 25, nameIndex := 424, descriptorIndex := 404, attributes := #[] }, { accessFlags := 25, nameIndex := 426, descriptorIndex := 404, attributes := #[] }, { accessFlags := 25, nameIndex := 428, descriptorIndex := 404, attributes := #[] }, { accessFlags := 25, nameIndex := 430, descriptorIndex := 404, attributes := #[] }, { accessFlags := 25, nameIndex := 432, descriptorIndex := 404, attributes := #[] }, { accessFlags := 25, nameIndex := 434, descriptorIndex := 404, attributes := #[] }, { accessFlags := 25, nameIndex := 436, descriptorIndex := 404, attributes := #[] }, { accessFlags := 25, nameIndex := 438, descriptorIndex := 404, attributes := #[] }, { accessFlags := 25, nameIndex := 440, descriptorIndex := 404, attributes := #[] }, { accessFlags := 25, nameIndex := 442, descriptorIndex := 404, attributes := #[] }, { accessFlags := 25, nameIndex := 444, descriptorIndex := 404, attributes := #[] }, { accessFlags := 25, nameIndex := 446, descriptorIndex := 404, attributes := #[] }, { accessFlags := 25, nameIndex := 448, descriptorIndex := 404, attributes := #[] }, { accessFlags := 25, nameIndex := 450, descriptorIndex := 404, attributes := #[] }, { accessFlags := 25, nameIndex := 452, descriptorIndex := 404, attributes := #[] }, { accessFlags := 25, nameIndex := 454, descriptorIndex := 404, attributes := #[] }, { accessFlags := 25, nameIndex := 456, descriptorIndex := 404, attributes := #[] }, { accessFlags := 25, nameIndex := 458, descriptorIndex := 404, attributes := #[] }, { accessFlags := 25, nameIndex := 460, descriptorIndex := 404, attributes := #[] }, { accessFlags := 24, nameIndex := 462, descriptorIndex := 392, attributes := #[] }, { accessFlags := 25, nameIndex := 464, descriptorIndex := 404, attributes := #[] }, { accessFlags := 25, nameIndex := 465, descriptorIndex := 404, attributes := #[] }, { accessFlags := 25, nameIndex := 466, descriptorIndex := 404, attributes := #[] }, { accessFlags := 25, nameIndex := 467, descriptorIndex := 404, attributes := #[] }, { accessFlags := 25, nameIndex := 468, descriptorIndex := 404, attributes := #[] }, { accessFlags := 25, nameIndex := 469, descriptorIndex := 404, attributes := #[] }, { accessFlags := 25, nameIndex := 470, descriptorIndex := 404, attributes := #[] }, { accessFlags := 25, nameIndex := 471, descriptorIndex := 404, attributes := #[] }, { accessFlags := 25, nameIndex := 472, descriptorIndex := 404, attributes := #[] }, { accessFlags := 25, nameIndex := 473, descriptorIndex := 404, attributes := #[] }, { accessFlags := 25, nameIndex := 474, descriptorIndex := 404, attributes := #[] }, { accessFlags := 25, nameIndex := 475, descriptorIndex := 404, attributes := #[] }, { accessFlags := 25, nameIndex := 476, descriptorIndex := 404, attributes := #[] }, { accessFlags := 25, nameIndex := 477, descriptorIndex := 404, attributes := #[] }, { accessFlags := 25, nameIndex := 478, descriptorIndex := 404, attributes := #[] }, { accessFlags := 25, nameIndex := 479, descriptorIndex := 404, attributes := #[] }, { accessFlags := 25, nameIndex := 480, descriptorIndex := 404, attributes := #[] }, { accessFlags := 25, nameIndex := 481, descriptorIndex := 404, attributes := #[] }, { accessFlags := 25, nameIndex := 482, descriptorIndex := 404, attributes := #[] }, { accessFlags := 25, nameIndex := 484, descriptorIndex := 404, attributes := #[] }, { accessFlags := 25, nameIndex := 485, descriptorIndex := 404, attributes := #[] }, { accessFlags := 25, nameIndex := 486, descriptorIndex := 404, attributes := #[] }, { accessFlags := 25, nameIndex := 487, descriptorIndex := 404, attributes := #[] }, { accessFlags := 25, nameIndex := 488, descriptorIndex := 404, attributes := #[] }, { accessFlags := 25, nameIndex := 489, descriptorIndex := 22, attributes := #[] }, { accessFlags := 25, nameIndex := 490, descriptorIndex := 22, attributes := #[] }, { accessFlags := 25, nameIndex := 492, descriptorIndex := 22, attributes := #[] }, { accessFlags := 25, nameIndex := 493, descriptorIndex := 22, attributes := #[] }, { accessFlags := 25, nameIndex := 495, descriptorIndex := 22, attributes := #[] }, { accessFlags := 25, nameIndex := 496, descriptorIndex := 22, attributes := #[] }, { accessFlags := 25, nameIndex := 497, descriptorIndex := 392, attributes := #[] }, { accessFlags := 25, nameIndex := 498, descriptorIndex := 392, attributes := #[] }, { accessFlags := 25, nameIndex := 499, descriptorIndex := 392, attributes := #[] }, { accessFlags := 18, nameIndex := 21, descriptorIndex := 22, attributes := #[] }, { accessFlags := 26, nameIndex := 501, descriptorIndex := 502, attributes := #[] }, { accessFlags := 25, nameIndex := 505, descriptorIndex := 392, attributes := #[] }, { accessFlags := 25, nameIndex := 506, descriptorIndex := 392, attributes := #[] }, { accessFlags := 4120, nameIndex := 284, descriptorIndex := 285, attributes := #[] }])
  fields := #[{ name := "MIN_RADIX", type := .int, accessFlags := 25, slot := 0, constantValue := 0 }, { name := "MAX_RADIX", type := .int, accessFlags := 25, slot := 1, constantValue := 0 }, { name := "MIN_VALUE", type := .char, accessFlags := 25, slot := 2, constantValue := 0 }, { name := "MAX_VALUE", type := .char, accessFlags := 25, slot := 3, constantValue := 0 }, { name := "TYPE", type := (.object "java/lang/Class"), accessFlags := 25, slot := 4, constantValue := 0 }, { name := "UNASSIGNED", type := .byte, accessFlags := 25, slot := 5, constantValue := 0 }, { name := "UPPERCASE_LETTER", type := .byte, accessFlags := 25, slot := 6, constantValue := 0 }, { name := "LOWERCASE_LETTER", type := .byte, accessFlags := 25, slot := 7, constantValue := 0 }, { name := "TITLECASE_LETTER", type := .byte, accessFlags := 25, slot := 8, constantValue := 0 }, { name := "MODIFIER_LETTER", type := .byte, accessFlags := 25, slot := 9, constantValue := 0 }, { name := "OTHER_LETTER", type := .byte, accessFlags := 25, slot := 10, constantValue := 0 }, { name := "NON_SPACING_MARK", type := .byte, accessFlags := 25, slot := 11, constantValue := 0 }, { name := "ENCLOSING_MARK", type := .byte, accessFlags := 25, slot := 12, constantValue := 0 }, { name := "COMBINING_SPACING_MARK", type := .byte, accessFlags := 25, slot := 13, constantValue := 0 }, { name := "DECIMAL_DIGIT_NUMBER", type := .byte, accessFlags := 25, slot := 14, constantValue := 0 }, { name := "LETTER_NUMBER", type := .byte, accessFlags := 25, slot := 15, constantValue := 0 }, { name := "OTHER_NUMBER", type := .byte, accessFlags := 25, slot := 16, constantValue := 0 }, { name := "SPACE_SEPARATOR", type := .byte, accessFlags := 25, slot := 17, constantValue := 0 }, { name := "LINE_SEPARATOR", type := .byte, accessFlags := 25, slot := 18, constantValue := 0 }, { name := "PARAGRAPH_SEPARATOR", type := .byte, accessFlags := 25, slot := 19, constantValue := 0 }, { name := "CONTROL", type := .byte, accessFlags := 25, slot := 20, constantValue := 0 }, { name := "FORMAT", type := .byte, accessFlags := 25, slot := 21, constantValue := 0 }, { name := "PRIVATE_USE", type := .byte, accessFlags := 25, slot := 22, constantValue := 0 }, { name := "SURROGATE", type := .byte, accessFlags := 25, slot := 23, constantValue := 0 }, { name := "DASH_PUNCTUATION", type := .byte, accessFlags := 25, slot := 24, constantValue := 0 }, { name := "START_PUNCTUATION", type := .byte, accessFlags := 25, slot := 25, constantValue := 0 }, { name := "END_PUNCTUATION", type := .byte, accessFlags := 25, slot := 26, constantValue := 0 }, { name := "CONNECTOR_PUNCTUATION", type := .byte, accessFlags := 25, slot := 27, constantValue := 0 }, { name := "OTHER_PUNCTUATION", type := .byte, accessFlags := 25, slot := 28, constantValue := 0 }, { name := "MATH_SYMBOL", type := .byte, accessFlags := 25, slot := 29, constantValue := 0 }, { name := "CURRENCY_SYMBOL", type := .byte, accessFlags := 25, slot := 30, constantValue := 0 }, { name := "MODIFIER_SYMBOL", type := .byte, accessFlags := 25, slot := 31, constantValue := 0 }, { name := "OTHER_SYMBOL", type := .byte, accessFlags := 25, slot := 32, constantValue := 0 }, { name := "INITIAL_QUOTE_PUNCTUATION", type := .byte, accessFlags := 25, slot := 33, constantValue := 0 }, { name := "FINAL_QUOTE_PUNCTUATION", type := .byte, accessFlags := 25, slot := 34, constantValue := 0 }, { name := "ERROR", type := .int, accessFlags := 24, slot := 35, constantValue := 0 }, { name := "DIRECTIONALITY_UNDEFINED", type := .byte, accessFlags := 25, slot := 36, constantValue := 0 }, { name := "DIRECTIONALITY_LEFT_TO_RIGHT", type := .byte, accessFlags := 25, slot := 37, constantValue := 0 }, { name := "DIRECTIONALITY_RIGHT_TO_LEFT", type := .byte, accessFlags := 25, slot := 38, constantValue := 0 }, { name := "DIRECTIONALITY_RIGHT_TO_LEFT_ARABIC", type := .byte, accessFlags := 25, slot := 39, constantValue := 0 }, { name := "DIRECTIONALITY_EUROPEAN_NUMBER", type := .byte, accessFlags := 25, slot := 40, constantValue := 0 }, { name := "DIRECTIONALITY_EUROPEAN_NUMBER_SEPARATOR", type := .byte, accessFlags := 25, slot := 41, constantValue := 0 }, { name := "DIRECTIONALITY_EUROPEAN_NUMBER_TERMINATOR", type := .byte, accessFlags := 25, slot := 42, constantValue := 0 }, { name := "DIRECTIONALITY_ARABIC_NUMBER", type := .byte, accessFlags := 25, slot := 43, constantValue := 0 }, { name := "DIRECTIONALITY_COMMON_NUMBER_SEPARATOR", type := .byte, accessFlags := 25, slot := 44, constantValue := 0 }, { name := "DIRECTIONALITY_NONSPACING_MARK", type := .byte, accessFlags := 25, slot := 45, constantValue := 0 }, { name := "DIRECTIONALITY_BOUNDARY_NEUTRAL", type := .byte, accessFlags := 25, slot := 46, constantValue := 0 }, { name := "DIRECTIONALITY_PARAGRAPH_SEPARATOR", type := .byte, accessFlags := 25, slot := 47, constantValue := 0 }, { name := "DIRECTIONALITY_SEGMENT_SEPARATOR", type := .byte, accessFlags := 25, slot := 48, constantValue := 0 }, { name := "DIRECTIONALITY_WHITESPACE", type := .byte, accessFlags := 25, slot := 49, constantValue := 0 }, { name := "DIRECTIONALITY_OTHER_NEUTRALS", type := .byte, accessFlags := 25, slot := 50, constantValue := 0 }, { name := "DIRECTIONALITY_LEFT_TO_RIGHT_EMBEDDING", type := .byte, accessFlags := 25, slot := 51, constantValue := 0 }, { name := "DIRECTIONALITY_LEFT_TO_RIGHT_OVERRIDE", type := .byte, accessFlags := 25, slot := 52, constantValue := 0 }, { name := "DIRECTIONALITY_RIGHT_TO_LEFT_EMBEDDING", type := .byte, accessFlags := 25, slot := 53, constantValue := 0 }, { name := "DIRECTIONALITY_RIGHT_TO_LEFT_OVERRIDE", type := .byte, accessFlags := 25, slot := 54, constantValue := 0 }, { name := "DIRECTIONALITY_POP_DIRECTIONAL_FORMAT", type := .byte, accessFlags := 25, slot := 55, constantValue := 0 }, { name := "DIRECTIONALITY_LEFT_TO_RIGHT_ISOLATE", type := .byte, accessFlags := 25, slot := 56, constantValue := 0 }, { name := "DIRECTIONALITY_RIGHT_TO_LEFT_ISOLATE", type := .byte, accessFlags := 25, slot := 57, constantValue := 0 }, { name := "DIRECTIONALITY_FIRST_STRONG_ISOLATE", type := .byte, accessFlags := 25, slot := 58, constantValue := 0 }, { name := "DIRECTIONALITY_POP_DIRECTIONAL_ISOLATE", type := .byte, accessFlags := 25, slot := 59, constantValue := 0 }, { name := "MIN_HIGH_SURROGATE", type := .char, accessFlags := 25, slot := 60, constantValue := 0 }, { name := "MAX_HIGH_SURROGATE", type := .char, accessFlags := 25, slot := 61, constantValue := 0 }, { name := "MIN_LOW_SURROGATE", type := .char, accessFlags := 25, slot := 62, constantValue := 0 }, { name := "MAX_LOW_SURROGATE", type := .char, accessFlags := 25, slot := 63, constantValue := 0 }, { name := "MIN_SURROGATE", type := .char, accessFlags := 25, slot := 64, constantValue := 0 }, { name := "MAX_SURROGATE", type := .char, accessFlags := 25, slot := 65, constantValue := 0 }, { name := "MIN_SUPPLEMENTARY_CODE_POINT", type := .int, accessFlags := 25, slot := 66, constantValue := 0 }, { name := "MIN_CODE_POINT", type := .int, accessFlags := 25, slot := 67, constantValue := 0 }, { name := "MAX_CODE_POINT", type := .int, accessFlags := 25, slot := 68, constantValue := 0 }, { name := "value", type := .char, accessFlags := 18, slot := 0, constantValue := 0 }, { name := "serialVersionUID", type := .long, accessFlags := 26, slot := 69, constantValue := 0 }, { name := "SIZE", type := .int, accessFlags := 25, slot := 70, constantValue := 0 }, { name := "BYTES", type := .int, accessFlags := 25, slot := 71, constantValue := 0 }, { name := "$assertionsDisabled", type := .boolean, accessFlags := 4120, slot := 72, constantValue := 0 }]
  methods := #[k13m0, k13m1, k13m2, k13m3]
  instanceTypes := #[.char]
  staticTypes := #[.int, .int, .char, .char, (.object "java/lang/Class"), .byte, .byte, .byte, .byte, .byte, .byte, .byte, .byte, .byte, .byte, .byte, .byte, .byte, .byte, .byte, .byte, .byte, .byte, .byte, .byte, .byte, .byte, .byte, .byte, .byte, .byte, .byte, .byte, .byte, .byte, .int, .byte, .byte, .byte, .byte, .byte, .byte, .byte, .byte, .byte, .byte, .byte, .byte, .byte, .byte, .byte, .byte, .byte, .byte, .byte, .byte, .byte, .byte, .byte, .byte, .char, .char, .char, .char, .char, .char, .int, .int, .int, .long, .int, .int, .boolean]
  resolved := Array.replicate 604 none
  statics := none }

def pool14 : Array CpInfo := pool [(4, .class_ 6), (1, u "java/lang/Object"), (0, u "<init>"), (0, u "()V"), (5, .class_ 16), (1, u "java/lang/StringLatin1"), (104, u "$assertionsDisabled"), (0, u "Z"), (98, .class_ 223), (1, u "java/lang/StringLatin1$LinesSpliterator"), (166, .class_ 391), (0, u "java/lang/StringLatin1$CharsSpliterator")] 3

def k14m0 : Method := { name := "<init>", desc := "()V", sig := { parameters := [], returnType := none }, accessFlags := 0, code := none }
/-- java/lang/StringLatin1 -/
def k14 : Class := { plain "java/lang/StringLatin1" (some 0) with
  accessFlags := 48
  interfaces := #[]
  cf := some (fileOf pool14 14 #[.nestMembers #[390, 221]] #[{ accessFlags := 0, nameIndex := 7, descriptorIndex := 8, attributes := #[] }] 48 4 #[] #[{ accessFlags := 4120, nameIndex := 121, descriptorIndex := 122, attributes := #[] }])
  fields := #[{ name := "$assertionsDisabled", type := .boolean, accessFlags := 4120, slot := 0, constantValue := 0 }]
  methods := #[k14m0]
  instanceTypes := #[]
  staticTypes := #[.boolean]
  resolved := Array.replicate 395 none
  statics := none }

def pool15 : Array CpInfo := pool [(9, u "<init>"), (6, .class_ 18), (1, u "java/lang/Object"), (0, u "()V"), (1, .class_ 23), (1, u "jdk/internal/util/ArraysSupport"), (0, u "LOG2_ARRAY_LONG_INDEX_SCALE"), (0, u "I"), (2, u "U"), (0, u "Ljdk/internal/misc/Unsafe;"), (8, u "BIG_ENDIAN"), (0, u "Z"), (8, u "LOG2_BYTE_BIT_SIZE"), (4, u "LOG2_ARRAY_INT_INDEX_SCALE"), (54, u "JLA"), (0, u "Ljdk/internal/access/JavaLangAccess;"), (11, u "LOG2_ARRAY_BOOLEAN_INDEX_SCALE"), (9, u "LOG2_ARRAY_BYTE_INDEX_SCALE"), (5, u "LOG2_ARRAY_CHAR_INDEX_SCALE"), (5, u "LOG2_ARRAY_SHORT_INDEX_SCALE"), (18, u "LOG2_ARRAY_FLOAT_INDEX_SCALE"), (24, u "LOG2_ARRAY_DOUBLE_INDEX_SCALE"), (89, u "T_BOOLEAN"), (2, u "T_CHAR"), (1, u "T_FLOAT"), (1, u "T_DOUBLE"), (1, u "T_BYTE"), (1, u "T_SHORT"), (1, u "T_INT"), (1, u "T_LONG"), (1, u "SOFT_MAX_ARRAY_LENGTH")] 83

def k15m0 : Method := { name := "<init>", desc := "()V", sig := { parameters := [], returnType := none }, accessFlags := 2, code := none }
/-- jdk/internal/util/ArraysSupport -/
def k15 : Class := { plain "jdk/internal/util/ArraysSupport" (some 0) with
  accessFlags := 33
  interfaces := #[]
  cf := some (fileOf pool15 21 #[] #[{ accessFlags := 2, nameIndex := 9, descriptorIndex := 19, attributes := #[] }] 33 16 #[] #[{ accessFlags := 24, nameIndex := 28, descriptorIndex := 29, attributes := #[] }, { accessFlags := 26, nameIndex := 38, descriptorIndex := 39, attributes := #[] }, { accessFlags := 25, nameIndex := 121, descriptorIndex := 25, attributes := #[] }, { accessFlags := 25, nameIndex := 131, descriptorIndex := 25, attributes := #[] }, { accessFlags := 25, nameIndex := 137, descriptorIndex := 25, attributes := #[] }, { accessFlags := 25, nameIndex := 143, descriptorIndex := 25, attributes := #[] }, { accessFlags := 25, nameIndex := 53, descriptorIndex := 25, attributes := #[] }, { accessFlags := 25, nameIndex := 24, descriptorIndex := 25, attributes := #[] }, { accessFlags := 25, nameIndex := 162, descriptorIndex := 25, attributes := #[] }, { accessFlags := 25, nameIndex := 187, descriptorIndex := 25, attributes := #[] }, { accessFlags := 26, nameIndex := 48, descriptorIndex := 25, attributes := #[] }, { accessFlags := 25, nameIndex := 277, descriptorIndex := 25, attributes := #[] }, { accessFlags := 25, nameIndex := 280, descriptorIndex := 25, attributes := #[] }, { accessFlags := 25, nameIndex := 282, descriptorIndex := 25, attributes := #[] }, { accessFlags := 25, nameIndex := 284, descriptorIndex := 25, attributes := #[] }, { accessFlags := 25, nameIndex := 286, descriptorIndex := 25, attributes := #[] }, { accessFlags := 25, nameIndex := 288, descriptorIndex := 25, attributes := #[] }, { accessFlags := 25, nameIndex := 290, descriptorIndex := 25, attributes := #[] }, { accessFlags := 25, nameIndex := 292, descriptorIndex := 25, attributes := #[] }, { accessFlags := 26, nameIndex := 108, descriptorIndex := 109, attributes := #[] }, { accessFlags := 25, nameIndex := 294, descriptorIndex := 25, attributes := #[] }])
  fields := #[{ name := "U", type := (.object "jdk/internal/misc/Unsafe"), accessFlags := 24, slot := 0, constantValue := 0 }, { name := "BIG_ENDIAN", type := .boolean, accessFlags := 26, slot := 1, constantValue := 0 }, { name := "LOG2_ARRAY_BOOLEAN_INDEX_SCALE", type := .int, accessFlags := 25, slot := 2, constantValue := 0 }, { name := "LOG2_ARRAY_BYTE_INDEX_SCALE", type := .int, accessFlags := 25, slot := 3, constantValue := 0 }, { name := "LOG2_ARRAY_CHAR_INDEX_SCALE", type := .int, accessFlags := 25, slot := 4, constantValue := 0 }, { name := "LOG2_ARRAY_SHORT_INDEX_SCALE", type := .int, accessFlags := 25, slot := 5, constantValue := 0 }, { name := "LOG2_ARRAY_INT_INDEX_SCALE", type := .int, accessFlags := 25, slot := 6, constantValue := 0 }, { name := "LOG2_ARRAY_LONG_INDEX_SCALE", type := .int, accessFlags := 25, slot := 7, constantValue := 0 }, { name := "LOG2_ARRAY_FLOAT_INDEX_SCALE", type := .int, accessFlags := 25, slot := 8, constantValue := 0 }, { name := "LOG2_ARRAY_DOUBLE_INDEX_SCALE", type := .int, accessFlags := 25, slot := 9, constantValue := 0 }, { name := "LOG2_BYTE_BIT_SIZE", type := .int, accessFlags := 26, slot := 10, constantValue := 0 }, { name := "T_BOOLEAN", type := .int, accessFlags := 25, slot := 11, constantValue := 0 }, { name := "T_CHAR", type := .int, accessFlags := 25, slot := 12, constantValue := 0 }, { name := "T_FLOAT", type := .int, accessFlags := 25, slot := 13, constantValue := 0 }, { name := "T_DOUBLE", type := .int, accessFlags := 25, slot := 14, constantValue := 0 }, { name := "T_BYTE", type := .int, accessFlags := 25, slot := 15, constantValue := 0 }, { name := "T_SHORT", type := .int, accessFlags := 25, slot := 16, constantValue := 0 }, { name := "T_INT", type := .int, accessFlags := 25, slot := 17, constantValue := 0 }, { name := "T_LONG", type := .int, accessFlags := 25, slot := 18, constantValue := 0 }, { name := "JLA", type := (.object "jdk/internal/access/JavaLangAccess"), accessFlags := 26, slot := 19, constantValue := 0 }, { name := "SOFT_MAX_ARRAY_LENGTH", type := .int, accessFlags := 25, slot := 20, constantValue := 0 }]
  methods := #[k15m0]
  instanceTypes := #[]
  staticTypes := #[(.object "jdk/internal/misc/Unsafe"), .boolean, .int, .int, .int, .int, .int, .int, .int, .int, .int, .int, .int, .int, .int, .int, .int, .int, .int, (.object "jdk/internal/access/JavaLangAccess"), .int]
  resolved := Array.replicate 378 none
  statics := none }

def pool16 : Array CpInfo := pool [(1, u "java/lang/Cloneable"), (0, .class_ 1), (0, u "java/lang/Object"), (0, .class_ 3)] 3

/-- java/lang/Cloneable -/
def k16 : Class := { plain "java/lang/Cloneable" (some 0) with
  accessFlags := 1537
  interfaces := #[]
  cf := some (fileOf pool16 2 #[] #[] 1537 4 #[] #[])
  fields := #[]
  methods := #[]
  instanceTypes := #[]
  staticTypes := #[]
  resolved := Array.replicate 8 none
  statics := none }

/-- the primitive byte -/
def k17 : Class := { plain "byte" none with kind := .primitive 'B', accessFlags := 0x411 }
/-- [B -/
def k18 : Class := { plain "[B" (some 0) with kind := .array 17 .byte, interfaces := #[16, 2], accessFlags := 1041 }

/-- the primitive char -/
def k19 : Class := { plain "char" none with kind := .primitive 'C', accessFlags := 0x411 }
/-- [C -/
def k20 : Class := { plain "[C" (some 0) with kind := .array 19 .char, interfaces := #[16, 2], accessFlags := 1041 }

/-- the primitive int -/
def k21 : Class := { plain "int" none with kind := .primitive 'I', accessFlags := 0x411 }
/-- [I -/
def k22 : Class := { plain "[I" (some 0) with kind := .array 21 .int, interfaces := #[16, 2], accessFlags := 1041 }

def heap : Heap := #[{ cls := 7, slots := #[.long 0, .int 1, .null, .int 0, .null, .int 0, .int 0], vm := .statics 7 },
  { cls := 11, slots := #[.int 0, .int 8, .int 0, .int 1], vm := .statics 11 },
  { cls := 12, slots := #[.null, .null, .null], vm := .statics 12 }]
def classes : Array Class := #[k0, k1, k2, k3, k4, k5, k6, k7, k8, k9, k10, k11, k12, k13, k14, k15, k16, k17, k18, k19, k20, k21, k22]
def interned : List (Array UInt16 × Addr) := []
def slotsUsed : Nat := 14
def theMethod : MethodId := ⟨1, 1⟩
def args0 : Array Value := #[.int 2, .long 70, .long 71, .int 1, .int 0]
def aboutOver (below : List Frame) : State where
  vm := { classes := classes, interned := interned.toArray }
  heap := heap
  slotsUsed := slotsUsed
  threads := #[{ frames := .invoking theMethod args0 :: below }]
def below0 : List Frame := [.native { method := ⟨0, 0⟩, args := #[] }]
def about1 : State := aboutOver below0
def p0 : Program := .bare "" "" ""
def e0 : Env := launch0.env 0 0 0
theorem w_frames : about1.frames = Frame.invoking theMethod args0 :: below0 := rfl
set_option maxRecDepth 65536 in
theorem w_args : argsFit about1.vm theMethod args0 = true := by decide +kernel
set_option maxRecDepth 65536 in
theorem w_heap : heapFits about1 = true := by decide +kernel
set_option maxRecDepth 65536 in
theorem w_runnable : about1.curStatus? = some .runnable := by decide +kernel
set_option maxRecDepth 65536 in
theorem w_alone : about1.alone = true := by decide +kernel
set_option maxRecDepth 65536 in
theorem w_named : about1.methodNamed? x = some theMethod := by decide +kernel
set_option maxRecDepth 65536 in
theorem w_hears : about1.hears theMethod below0 = true := by decide +kernel
set_option maxRecDepth 65536 in
theorem w_ripe : about1.ripe theMethod args0 below0 = true := by decide +kernel
theorem w_running : about1.status = .running := rfl
set_option maxRecDepth 65536 in
theorem w_room : about1.hasRoom e0.platform room_1 = true :=
  launch0.hasRoom_least _ room_1 (by decide +kernel) (by decide +kernel) (by decide +kernel) (by decide +kernel) (by decide +kernel) (by decide +kernel)
theorem allAtoms_all (ts : List Jvm.Cond) (a : Array Jvm.Value) (st : Jvm.State) : (allAtoms ts).before a st = ts.all (fun c => c.before a st) := by
  induction ts with
  | nil => rfl
  | cons c t ih =>
    show (Jvm.Cond.and c (allAtoms t)).before a st = _
    rw [Jvm.Cond.before_and, ih, List.all_cons]
def words1 : List Jvm.Cond := Jvm.Cond.code x code maxLocals ret :: tables_1
/-- a 'code' word, met by the world's own term for the bytes: nothing is compared byte by byte -/
theorem code_word {y : MethodName} {bytes : ByteArray} {mx : Nat} {rt : Option FieldType} {a : Array Value} {s : State} {m : MethodId} {meth : Method} {c : Code} (h1 : s.methodNamed? y = some m) (h2 : s.vm.method? m = some meth) (h3 : meth.code = some c) (h4 : c.code = bytes)
    (h5 : (c.maxLocals == mx && c.exceptionTable.isEmpty && decide (c.maxStack ≤ mostOperands) && decide (meth.sig.returnType = rt) && !meth.locks && decide (parseMethodDescriptor y.desc = some meth.sig)) = true) : (Jvm.Cond.code y bytes mx rt).before a s = true := by
  simp only [Bool.and_eq_true, beq_iff_eq, Bool.not_eq_true', decide_eq_true_eq] at h5
  obtain ⟨⟨⟨⟨⟨g1, g2⟩, g3⟩, g4⟩, g5⟩, g6⟩ := h5
  simp [Cond.before, Cond.holds, Cond.value, h1, h2, h3, h4, g1, g2, g3, g4, g5, g6]
def isCode : Jvm.Cond → Bool
  | .code _ _ _ _ => true
  | _ => false
theorem all_split {L : List Jvm.Cond} {P : Jvm.Cond → Bool} (h1 : L.all (fun c => isCode c || P c) = true) (h2 : ∀ c ∈ L.filter isCode, P c = true) : L.all P = true := by
  refine List.all_eq_true.mpr fun c hc => ?_
  have h := List.all_eq_true.mp h1 c hc
  rcases Bool.eq_false_or_eq_true (isCode c) with hi | hi
  · exact h2 c (List.mem_filter.mpr ⟨hc, hi⟩)
  · simpa [hi] using h
set_option maxRecDepth 65536 in
theorem w_c0 : (Jvm.Cond.code x code maxLocals ret).before args0 about1 = true := code_word (m := ⟨1, 1⟩) (meth := k1m1) (c := k1c1) (by decide +kernel) rfl rfl rfl (by decide +kernel)
set_option maxRecDepth 65536 in
theorem w_c1 : (Jvm.Cond.code ({ cls := "com/example/libaccrue/libaccrue/records/TextOrderComparePinLaw", name := "cp", desc := "(J)I" } : Jvm.MethodName) method_3_code (2 : Nat) (Option.some Jvm.ClassFile.FieldType.int)).before args0 about1 = true := code_word (m := ⟨1, 2⟩) (meth := k1m2) (c := k1c2) (by decide +kernel) rfl rfl rfl (by decide +kernel)
set_option maxRecDepth 65536 in
theorem w_c2 : (Jvm.Cond.code ({ cls := "com/example/libaccrue/libaccrue/records/TextOrderComparePinLaw", name := "fix", desc := "(III)I" } : Jvm.MethodName) method_4_code (3 : Nat) (Option.some Jvm.ClassFile.FieldType.int)).before args0 about1 = true := code_word (m := ⟨1, 3⟩) (meth := k1m3) (c := k1c3) (by decide +kernel) rfl rfl rfl (by decide +kernel)
set_option maxRecDepth 65536 in
theorem w_c3 : (Jvm.Cond.code ({ cls := "com/example/libaccrue/libaccrue/records/TextOrderComparePinLaw", name := "build", desc := "(IIII)Ljava/lang/String;" } : Jvm.MethodName) method_7_code (7 : Nat) (Option.some (Jvm.ClassFile.FieldType.object "java/lang/String"))).before args0 about1 = true := code_word (m := ⟨1, 6⟩) (meth := k1m6) (c := k1c6) (by decide +kernel) rfl rfl rfl (by decide +kernel)
set_option maxRecDepth 65536 in
theorem w_c4 : (Jvm.Cond.code ({ cls := "com/example/libaccrue/libaccrue/records/TextOrderComparePinLaw", name := "width", desc := "(III)I" } : Jvm.MethodName) method_5_code (3 : Nat) (Option.some Jvm.ClassFile.FieldType.int)).before args0 about1 = true := code_word (m := ⟨1, 4⟩) (meth := k1m4) (c := k1c4) (by decide +kernel) rfl rfl rfl (by decide +kernel)
set_option maxRecDepth 65536 in
theorem w_c5 : (Jvm.Cond.code ({ cls := "com/example/libaccrue/libaccrue/records/TextOrderComparePinLaw", name := "put", desc := "([CIIII)I" } : Jvm.MethodName) method_6_code (6 : Nat) (Option.some Jvm.ClassFile.FieldType.int)).before args0 about1 = true := code_word (m := ⟨1, 5⟩) (meth := k1m5) (c := k1c5) (by decide +kernel) rfl rfl rfl (by decide +kernel)
set_option maxRecDepth 65536 in
theorem w_c6 : (Jvm.Cond.code ({ cls := "java/lang/String", name := "<init>", desc := "([C)V" } : Jvm.MethodName) jdk_42_method_3_code (2 : Nat) (Option.none : Option Jvm.ClassFile.FieldType)).before args0 about1 = true := code_word (m := ⟨7, 1⟩) (meth := k7m1) (c := k7c1) (by decide +kernel) rfl rfl rfl (by decide +kernel)
set_option maxRecDepth 65536 in
theorem w_c7 : (Jvm.Cond.code ({ cls := "java/lang/String", name := "<init>", desc := "([CIILjava/lang/Void;)V" } : Jvm.MethodName) jdk_42_method_149_code (6 : Nat) (Option.none : Option Jvm.ClassFile.FieldType)).before args0 about1 = true := code_word (m := ⟨7, 4⟩) (meth := k7m4) (c := k7c4) (by decide +kernel) rfl rfl rfl (by decide +kernel)
set_option maxRecDepth 65536 in
theorem w_c8 : (Jvm.Cond.code ({ cls := "java/lang/Object", name := "<init>", desc := "()V" } : Jvm.MethodName) object_method_1_code (1 : Nat) (Option.none : Option Jvm.ClassFile.FieldType)).before args0 about1 = true := code_word (m := ⟨0, 0⟩) (meth := k0m0) (c := k0c0) (by decide +kernel) rfl rfl rfl (by decide +kernel)
set_option maxRecDepth 65536 in
theorem w_c9 : (Jvm.Cond.code ({ cls := "com/example/libaccrue/libaccrue/records/TextOrder", name := "compare", desc := "(Ljava/lang/String;Ljava/lang/String;)I" } : Jvm.MethodName) prog_51_method_2_code (5 : Nat) (Option.some Jvm.ClassFile.FieldType.int)).before args0 about1 = true := code_word (m := ⟨8, 1⟩) (meth := k8m1) (c := k8c1) (by decide +kernel) rfl rfl rfl (by decide +kernel)
set_option maxRecDepth 65536 in
theorem w_c10 : (Jvm.Cond.code ({ cls := "java/lang/String", name := "length", desc := "()I" } : Jvm.MethodName) jdk_42_method_54_code (1 : Nat) (Option.some Jvm.ClassFile.FieldType.int)).before args0 about1 = true := code_word (m := ⟨7, 2⟩) (meth := k7m2) (c := k7c2) (by decide +kernel) rfl rfl rfl (by decide +kernel)
set_option maxRecDepth 65536 in
theorem w_c11 : (Jvm.Cond.code ({ cls := "java/lang/String", name := "coder", desc := "()B" } : Jvm.MethodName) jdk_42_method_152_code (1 : Nat) (Option.some Jvm.ClassFile.FieldType.byte)).before args0 about1 = true := code_word (m := ⟨7, 5⟩) (meth := k7m5) (c := k7c5) (by decide +kernel) rfl rfl rfl (by decide +kernel)
set_option maxRecDepth 65536 in
theorem w_c12 : (Jvm.Cond.code ({ cls := "java/lang/Integer", name := "compare", desc := "(II)I" } : Jvm.MethodName) jdk_33_method_40_code (2 : Nat) (Option.some Jvm.ClassFile.FieldType.int)).before args0 about1 = true := code_word (m := ⟨10, 0⟩) (meth := k10m0) (c := k10c0) (by decide +kernel) rfl rfl rfl (by decide +kernel)
set_option maxRecDepth 65536 in
theorem w_c13 : (Jvm.Cond.code ({ cls := "com/example/libaccrue/libaccrue/records/TextOrderComparePinLaw", name := "ref", desc := "(IIIIIIII)I" } : Jvm.MethodName) method_9_code (8 : Nat) (Option.some Jvm.ClassFile.FieldType.int)).before args0 about1 = true := code_word (m := ⟨1, 8⟩) (meth := k1m8) (c := k1c8) (by decide +kernel) rfl rfl rfl (by decide +kernel)
set_option maxRecDepth 65536 in
theorem w_c14 : (Jvm.Cond.code ({ cls := "com/example/libaccrue/libaccrue/records/TextOrderComparePinLaw", name := "sign", desc := "(I)I" } : Jvm.MethodName) method_8_code (1 : Nat) (Option.some Jvm.ClassFile.FieldType.int)).before args0 about1 = true := code_word (m := ⟨1, 7⟩) (meth := k1m7) (c := k1c7) (by decide +kernel) rfl rfl rfl (by decide +kernel)
set_option maxRecDepth 65536 in
theorem w_c15 : (Jvm.Cond.code ({ cls := "java/lang/StringUTF16", name := "compress", desc := "([CII)[B" } : Jvm.MethodName) jdk_52_method_16_code (6 : Nat) (Option.some (Jvm.ClassFile.FieldType.array Jvm.ClassFile.FieldType.byte))).before args0 about1 = true := code_word (m := ⟨11, 9⟩) (meth := k11m9) (c := k11c9) (by decide +kernel) rfl rfl rfl (by decide +kernel)
set_option maxRecDepth 65536 in
theorem w_c16 : (Jvm.Cond.code ({ cls := "java/lang/StringUTF16", name := "compress", desc := "([CI[BII)I" } : Jvm.MethodName) jdk_52_method_21_code (7 : Nat) (Option.some Jvm.ClassFile.FieldType.int)).before args0 about1 = true := code_word (m := ⟨11, 10⟩) (meth := k11m10) (c := k11c10) (by decide +kernel) rfl rfl rfl (by decide +kernel)
set_option maxRecDepth 65536 in
theorem w_c17 : (Jvm.Cond.code ({ cls := "java/lang/StringUTF16", name := "coderFromArrayLen", desc := "([BI)B" } : Jvm.MethodName) jdk_52_method_15_code (2 : Nat) (Option.some Jvm.ClassFile.FieldType.byte)).before args0 about1 = true := code_word (m := ⟨11, 8⟩) (meth := k11m8) (c := k11c8) (by decide +kernel) rfl rfl rfl (by decide +kernel)
set_option maxRecDepth 65536 in
theorem w_c18 : (Jvm.Cond.code ({ cls := "java/lang/String", name := "codePointAt", desc := "(I)I" } : Jvm.MethodName) jdk_42_method_57_code (3 : Nat) (Option.some Jvm.ClassFile.FieldType.int)).before args0 about1 = true := code_word (m := ⟨7, 3⟩) (meth := k7m3) (c := k7c3) (by decide +kernel) rfl rfl rfl (by decide +kernel)
set_option maxRecDepth 65536 in
theorem w_c19 : (Jvm.Cond.code ({ cls := "java/lang/String", name := "isLatin1", desc := "()Z" } : Jvm.MethodName) jdk_42_method_154_code (1 : Nat) (Option.some Jvm.ClassFile.FieldType.boolean)).before args0 about1 = true := code_word (m := ⟨7, 6⟩) (meth := k7m6) (c := k7c6) (by decide +kernel) rfl rfl rfl (by decide +kernel)
set_option maxRecDepth 65536 in
theorem w_c20 : (Jvm.Cond.code ({ cls := "java/lang/String", name := "checkIndex", desc := "(II)V" } : Jvm.MethodName) jdk_42_method_155_code (2 : Nat) (Option.none : Option Jvm.ClassFile.FieldType)).before args0 about1 = true := code_word (m := ⟨7, 7⟩) (meth := k7m7) (c := k7c7) (by decide +kernel) rfl rfl rfl (by decide +kernel)
set_option maxRecDepth 65536 in
theorem w_c21 : (Jvm.Cond.code ({ cls := "jdk/internal/util/Preconditions", name := "checkIndex", desc := "(IILjava/util/function/BiFunction;)I" } : Jvm.MethodName) jdk_41_method_11_code (3 : Nat) (Option.some Jvm.ClassFile.FieldType.int)).before args0 about1 = true := code_word (m := ⟨12, 1⟩) (meth := k12m1) (c := k12c1) (by decide +kernel) rfl rfl rfl (by decide +kernel)
set_option maxRecDepth 65536 in
theorem w_c22 : (Jvm.Cond.code ({ cls := "java/lang/Character", name := "charCount", desc := "(I)I" } : Jvm.MethodName) jdk_89_method_18_code (1 : Nat) (Option.some Jvm.ClassFile.FieldType.int)).before args0 about1 = true := code_word (m := ⟨13, 2⟩) (meth := k13m2) (c := k13c2) (by decide +kernel) rfl rfl rfl (by decide +kernel)
set_option maxRecDepth 65536 in
theorem w_c23 : (Jvm.Cond.code ({ cls := "java/lang/StringUTF16", name := "toBytes", desc := "([CII)[B" } : Jvm.MethodName) jdk_52_method_14_code (5 : Nat) (Option.some (Jvm.ClassFile.FieldType.array Jvm.ClassFile.FieldType.byte))).before args0 about1 = true := code_word (m := ⟨11, 7⟩) (meth := k11m7) (c := k11c7) (by decide +kernel) rfl rfl rfl (by decide +kernel)
set_option maxRecDepth 65536 in
theorem w_c24 : (Jvm.Cond.code ({ cls := "java/lang/StringUTF16", name := "newBytesFor", desc := "(I)[B" } : Jvm.MethodName) jdk_52_method_2_code (1 : Nat) (Option.some (Jvm.ClassFile.FieldType.array Jvm.ClassFile.FieldType.byte))).before args0 about1 = true := code_word (m := ⟨11, 1⟩) (meth := k11m1) (c := k11c1) (by decide +kernel) rfl rfl rfl (by decide +kernel)
set_option maxRecDepth 65536 in
theorem w_c25 : (Jvm.Cond.code ({ cls := "java/lang/StringUTF16", name := "newBytesLength", desc := "(I)I" } : Jvm.MethodName) jdk_52_method_3_code (1 : Nat) (Option.some Jvm.ClassFile.FieldType.int)).before args0 about1 = true := code_word (m := ⟨11, 2⟩) (meth := k11m2) (c := k11c2) (by decide +kernel) rfl rfl rfl (by decide +kernel)
set_option maxRecDepth 65536 in
theorem w_c26 : (Jvm.Cond.code ({ cls := "java/lang/StringUTF16", name := "putChar", desc := "([BII)V" } : Jvm.MethodName) jdk_52_method_4_code (3 : Nat) (Option.none : Option Jvm.ClassFile.FieldType)).before args0 about1 = true := code_word (m := ⟨11, 3⟩) (meth := k11m3) (c := k11c3) (by decide +kernel) rfl rfl rfl (by decide +kernel)
set_option maxRecDepth 65536 in
theorem w_c27 : (Jvm.Cond.code ({ cls := "java/lang/StringUTF16", name := "getChar", desc := "([BI)C" } : Jvm.MethodName) jdk_52_method_5_code (2 : Nat) (Option.some Jvm.ClassFile.FieldType.char)).before args0 about1 = true := code_word (m := ⟨11, 4⟩) (meth := k11m4) (c := k11c4) (by decide +kernel) rfl rfl rfl (by decide +kernel)
set_option maxRecDepth 65536 in
theorem w_c28 : (Jvm.Cond.code ({ cls := "java/lang/StringUTF16", name := "codePointAt", desc := "([BII)I" } : Jvm.MethodName) jdk_52_method_8_code (3 : Nat) (Option.some Jvm.ClassFile.FieldType.int)).before args0 about1 = true := code_word (m := ⟨11, 6⟩) (meth := k11m6) (c := k11c6) (by decide +kernel) rfl rfl rfl (by decide +kernel)
set_option maxRecDepth 65536 in
theorem w_c29 : (Jvm.Cond.code ({ cls := "java/lang/StringUTF16", name := "codePointAt", desc := "([BIIZ)I" } : Jvm.MethodName) jdk_52_method_7_code (6 : Nat) (Option.some Jvm.ClassFile.FieldType.int)).before args0 about1 = true := code_word (m := ⟨11, 5⟩) (meth := k11m5) (c := k11c5) (by decide +kernel) rfl rfl rfl (by decide +kernel)
set_option maxRecDepth 65536 in
theorem w_c30 : (Jvm.Cond.code ({ cls := "java/lang/Character", name := "isHighSurrogate", desc := "(C)Z" } : Jvm.MethodName) jdk_89_method_14_code (1 : Nat) (Option.some Jvm.ClassFile.FieldType.boolean)).before args0 about1 = true := code_word (m := ⟨13, 0⟩) (meth := k13m0) (c := k13c0) (by decide +kernel) rfl rfl rfl (by decide +kernel)
set_option maxRecDepth 65536 in
theorem w_c31 : (Jvm.Cond.code ({ cls := "java/lang/Character", name := "isLowSurrogate", desc := "(C)Z" } : Jvm.MethodName) jdk_89_method_15_code (1 : Nat) (Option.some Jvm.ClassFile.FieldType.boolean)).before args0 about1 = true := code_word (m := ⟨13, 1⟩) (meth := k13m1) (c := k13c1) (by decide +kernel) rfl rfl rfl (by decide +kernel)
set_option maxRecDepth 65536 in
theorem w_c32 : (Jvm.Cond.code ({ cls := "java/lang/Character", name := "toCodePoint", desc := "(CC)I" } : Jvm.MethodName) jdk_89_method_19_code (2 : Nat) (Option.some Jvm.ClassFile.FieldType.int)).before args0 about1 = true := code_word (m := ⟨13, 3⟩) (meth := k13m3) (c := k13c3) (by decide +kernel) rfl rfl rfl (by decide +kernel)
def codes1 : List Jvm.Cond := [Jvm.Cond.code x code maxLocals ret, Jvm.Cond.code ({ cls := "com/example/libaccrue/libaccrue/records/TextOrderComparePinLaw", name := "cp", desc := "(J)I" } : Jvm.MethodName) method_3_code (2 : Nat) (Option.some Jvm.ClassFile.FieldType.int), Jvm.Cond.code ({ cls := "com/example/libaccrue/libaccrue/records/TextOrderComparePinLaw", name := "fix", desc := "(III)I" } : Jvm.MethodName) method_4_code (3 : Nat) (Option.some Jvm.ClassFile.FieldType.int), Jvm.Cond.code ({ cls := "com/example/libaccrue/libaccrue/records/TextOrderComparePinLaw", name := "build", desc := "(IIII)Ljava/lang/String;" } : Jvm.MethodName) method_7_code (7 : Nat) (Option.some (Jvm.ClassFile.FieldType.object "java/lang/String")), Jvm.Cond.code ({ cls := "com/example/libaccrue/libaccrue/records/TextOrderComparePinLaw", name := "width", desc := "(III)I" } : Jvm.MethodName) method_5_code (3 : Nat) (Option.some Jvm.ClassFile.FieldType.int), Jvm.Cond.code ({ cls := "com/example/libaccrue/libaccrue/records/TextOrderComparePinLaw", name := "put", desc := "([CIIII)I" } : Jvm.MethodName) method_6_code (6 : Nat) (Option.some Jvm.ClassFile.FieldType.int), Jvm.Cond.code ({ cls := "java/lang/String", name := "<init>", desc := "([C)V" } : Jvm.MethodName) jdk_42_method_3_code (2 : Nat) (Option.none : Option Jvm.ClassFile.FieldType), Jvm.Cond.code ({ cls := "java/lang/String", name := "<init>", desc := "([CIILjava/lang/Void;)V" } : Jvm.MethodName) jdk_42_method_149_code (6 : Nat) (Option.none : Option Jvm.ClassFile.FieldType), Jvm.Cond.code ({ cls := "java/lang/Object", name := "<init>", desc := "()V" } : Jvm.MethodName) object_method_1_code (1 : Nat) (Option.none : Option Jvm.ClassFile.FieldType), Jvm.Cond.code ({ cls := "com/example/libaccrue/libaccrue/records/TextOrder", name := "compare", desc := "(Ljava/lang/String;Ljava/lang/String;)I" } : Jvm.MethodName) prog_51_method_2_code (5 : Nat) (Option.some Jvm.ClassFile.FieldType.int), Jvm.Cond.code ({ cls := "java/lang/String", name := "length", desc := "()I" } : Jvm.MethodName) jdk_42_method_54_code (1 : Nat) (Option.some Jvm.ClassFile.FieldType.int), Jvm.Cond.code ({ cls := "java/lang/String", name := "coder", desc := "()B" } : Jvm.MethodName) jdk_42_method_152_code (1 : Nat) (Option.some Jvm.ClassFile.FieldType.byte), Jvm.Cond.code ({ cls := "java/lang/Integer", name := "compare", desc := "(II)I" } : Jvm.MethodName) jdk_33_method_40_code (2 : Nat) (Option.some Jvm.ClassFile.FieldType.int), Jvm.Cond.code ({ cls := "com/example/libaccrue/libaccrue/records/TextOrderComparePinLaw", name := "ref", desc := "(IIIIIIII)I" } : Jvm.MethodName) method_9_code (8 : Nat) (Option.some Jvm.ClassFile.FieldType.int), Jvm.Cond.code ({ cls := "com/example/libaccrue/libaccrue/records/TextOrderComparePinLaw", name := "sign", desc := "(I)I" } : Jvm.MethodName) method_8_code (1 : Nat) (Option.some Jvm.ClassFile.FieldType.int), Jvm.Cond.code ({ cls := "java/lang/StringUTF16", name := "compress", desc := "([CII)[B" } : Jvm.MethodName) jdk_52_method_16_code (6 : Nat) (Option.some (Jvm.ClassFile.FieldType.array Jvm.ClassFile.FieldType.byte)), Jvm.Cond.code ({ cls := "java/lang/StringUTF16", name := "compress", desc := "([CI[BII)I" } : Jvm.MethodName) jdk_52_method_21_code (7 : Nat) (Option.some Jvm.ClassFile.FieldType.int), Jvm.Cond.code ({ cls := "java/lang/StringUTF16", name := "coderFromArrayLen", desc := "([BI)B" } : Jvm.MethodName) jdk_52_method_15_code (2 : Nat) (Option.some Jvm.ClassFile.FieldType.byte), Jvm.Cond.code ({ cls := "java/lang/String", name := "codePointAt", desc := "(I)I" } : Jvm.MethodName) jdk_42_method_57_code (3 : Nat) (Option.some Jvm.ClassFile.FieldType.int), Jvm.Cond.code ({ cls := "java/lang/String", name := "isLatin1", desc := "()Z" } : Jvm.MethodName) jdk_42_method_154_code (1 : Nat) (Option.some Jvm.ClassFile.FieldType.boolean), Jvm.Cond.code ({ cls := "java/lang/String", name := "checkIndex", desc := "(II)V" } : Jvm.MethodName) jdk_42_method_155_code (2 : Nat) (Option.none : Option Jvm.ClassFile.FieldType), Jvm.Cond.code ({ cls := "jdk/internal/util/Preconditions", name := "checkIndex", desc := "(IILjava/util/function/BiFunction;)I" } : Jvm.MethodName) jdk_41_method_11_code (3 : Nat) (Option.some Jvm.ClassFile.FieldType.int), Jvm.Cond.code ({ cls := "java/lang/Character", name := "charCount", desc := "(I)I" } : Jvm.MethodName) jdk_89_method_18_code (1 : Nat) (Option.some Jvm.ClassFile.FieldType.int), Jvm.Cond.code ({ cls := "java/lang/StringUTF16", name := "toBytes", desc := "([CII)[B" } : Jvm.MethodName) jdk_52_method_14_code (5 : Nat) (Option.some (Jvm.ClassFile.FieldType.array Jvm.ClassFile.FieldType.byte)), Jvm.Cond.code ({ cls := "java/lang/StringUTF16", name := "newBytesFor", desc := "(I)[B" } : Jvm.MethodName) jdk_52_method_2_code (1 : Nat) (Option.some (Jvm.ClassFile.FieldType.array Jvm.ClassFile.FieldType.byte)), Jvm.Cond.code ({ cls := "java/lang/StringUTF16", name := "newBytesLength", desc := "(I)I" } : Jvm.MethodName) jdk_52_method_3_code (1 : Nat) (Option.some Jvm.ClassFile.FieldType.int), Jvm.Cond.code ({ cls := "java/lang/StringUTF16", name := "putChar", desc := "([BII)V" } : Jvm.MethodName) jdk_52_method_4_code (3 : Nat) (Option.none : Option Jvm.ClassFile.FieldType), Jvm.Cond.code ({ cls := "java/lang/StringUTF16", name := "getChar", desc := "([BI)C" } : Jvm.MethodName) jdk_52_method_5_code (2 : Nat) (Option.some Jvm.ClassFile.FieldType.char), Jvm.Cond.code ({ cls := "java/lang/StringUTF16", name := "codePointAt", desc := "([BII)I" } : Jvm.MethodName) jdk_52_method_8_code (3 : Nat) (Option.some Jvm.ClassFile.FieldType.int), Jvm.Cond.code ({ cls := "java/lang/StringUTF16", name := "codePointAt", desc := "([BIIZ)I" } : Jvm.MethodName) jdk_52_method_7_code (6 : Nat) (Option.some Jvm.ClassFile.FieldType.int), Jvm.Cond.code ({ cls := "java/lang/Character", name := "isHighSurrogate", desc := "(C)Z" } : Jvm.MethodName) jdk_89_method_14_code (1 : Nat) (Option.some Jvm.ClassFile.FieldType.boolean), Jvm.Cond.code ({ cls := "java/lang/Character", name := "isLowSurrogate", desc := "(C)Z" } : Jvm.MethodName) jdk_89_method_15_code (1 : Nat) (Option.some Jvm.ClassFile.FieldType.boolean), Jvm.Cond.code ({ cls := "java/lang/Character", name := "toCodePoint", desc := "(CC)I" } : Jvm.MethodName) jdk_89_method_19_code (2 : Nat) (Option.some Jvm.ClassFile.FieldType.int)]
set_option maxRecDepth 65536 in
theorem codes_eq : words1.filter isCode = codes1 := rfl
theorem w_codes : ∀ c ∈ words1.filter isCode, c.before args0 about1 = true := by
  rw [codes_eq]
  intro c hc
  simp only [codes1, List.mem_cons, List.not_mem_nil, or_false] at hc
  rcases hc with rfl | rfl | rfl | rfl | rfl | rfl | rfl | rfl | rfl | rfl | rfl | rfl | rfl | rfl | rfl | rfl | rfl | rfl | rfl | rfl | rfl | rfl | rfl | rfl | rfl | rfl | rfl | rfl | rfl | rfl | rfl | rfl | rfl
  · exact w_c0
  · exact w_c1
  · exact w_c2
  · exact w_c3
  · exact w_c4
  · exact w_c5
  · exact w_c6
  · exact w_c7
  · exact w_c8
  · exact w_c9
  · exact w_c10
  · exact w_c11
  · exact w_c12
  · exact w_c13
  · exact w_c14
  · exact w_c15
  · exact w_c16
  · exact w_c17
  · exact w_c18
  · exact w_c19
  · exact w_c20
  · exact w_c21
  · exact w_c22
  · exact w_c23
  · exact w_c24
  · exact w_c25
  · exact w_c26
  · exact w_c27
  · exact w_c28
  · exact w_c29
  · exact w_c30
  · exact w_c31
  · exact w_c32
set_option maxRecDepth 65536 in
theorem w_t1 : (words1.take 24).all (fun c => isCode c || c.before args0 about1) = true := by decide +kernel
set_option maxRecDepth 65536 in
theorem w_t2 : ((words1.drop 24).take 24).all (fun c => isCode c || c.before args0 about1) = true := by decide +kernel
set_option maxRecDepth 65536 in
theorem w_t3 : (((words1.drop 24).drop 24).take 24).all (fun c => isCode c || c.before args0 about1) = true := by decide +kernel
set_option maxRecDepth 65536 in
theorem w_t4 : ((((words1.drop 24).drop 24).drop 24).take 24).all (fun c => isCode c || c.before args0 about1) = true := by decide +kernel
set_option maxRecDepth 65536 in
theorem w_t5 : (((((words1.drop 24).drop 24).drop 24).drop 24).take 24).all (fun c => isCode c || c.before args0 about1) = true := by decide +kernel
set_option maxRecDepth 65536 in
theorem w_t6 : (((((words1.drop 24).drop 24).drop 24).drop 24).drop 24).all (fun c => isCode c || c.before args0 about1) = true := by decide +kernel
theorem w_tables : (allAtoms (Jvm.Cond.code x code maxLocals ret :: tables_1)).before args0 about1 = true := by
  rw [allAtoms_all]
  show words1.all (fun c => c.before args0 about1) = true
  refine all_split ?_ w_codes
  rw [← List.take_append_drop 24 words1, List.all_append, w_t1, ← List.take_append_drop 24 (words1.drop 24), List.all_append, w_t2, ← List.take_append_drop 24 ((words1.drop 24).drop 24), List.all_append, w_t3, ← List.take_append_drop 24 (((words1.drop 24).drop 24).drop 24), List.all_append, w_t4, ← List.take_append_drop 24 ((((words1.drop 24).drop 24).drop 24).drop 24), List.all_append, w_t5, w_t6]
  rfl
set_option maxRecDepth 65536 in
theorem w_rest : rest_1_c.before args0 about1 = true := by decide +kernel
set_option maxRecDepth 65536 in
theorem w_case : (Jvm.Cond.and given_1 narrow_1).before args0 about1 = true := by decide +kernel
set_option maxRecDepth 65536 in
theorem w_consts : constsHeld consts_1 about1 := Jvm.Lit.constsHeldB_iff.mp (by decide +kernel)
theorem w_applies : (headSpec (Jvm.Cond.code x code maxLocals ret :: tables_1) room_1).applies x e0.platform about1 = true :=
  (Spec.applies_iff w_frames).mpr ⟨w_running, w_runnable, w_alone, w_named, w_hears, w_ripe, w_room, w_tables⟩
theorem atStart : AtStart classFile x code maxLocals ret World_1 tables_1 room_1 Calls_1 rest_1 Pre_1 launch0 p0 e0 about1 theMethod args0 below0 :=
  ⟨lists_1, trivial, launch0.admits_env _ _ _, launch0.least_env, fairChoices_fair.cas, fairChoices_fair.clock, w_frames, w_args, w_heap, w_applies, ⟨w_consts, trivial⟩, w_rest, w_case⟩
end start1
theorem witness_1 : WitnessClaimed_1 := ⟨start1.p0, start1.e0, start1.about1, start1.theMethod, start1.args0, start1.below0, start1.atStart⟩
end Jvm.Pilot.@@N@@
