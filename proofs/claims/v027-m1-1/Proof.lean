import JvmDerived
import JvmDerived.Pilot.@@N@@Statement
import JvmDerived.Pilot.@@N@@Code
set_option linter.unusedVariables false
set_option linter.unusedSimpArgs false
@@BLOCK:NumsL.lean.txt@@
namespace Jvm.RoadKit
open Sem ClassFile Op Lib Jvm.Stand Jvm.Free Jvm.LawKit
section New
variable {p : Program} {l : Launch} {e : Env} {R : Room} {s : State} {m : MethodId} {args : Array Value} {below : List Frame} {meth : Method} {c : Code} {T : State} {locs : List Loc} {cells slots : Nat}
theorem retI (X : Stand p l e R s m args below meth c T locs cells slots) (hx : p.tables.exec = Jvm.exec) {pc : Nat} {Ls : Array Slot} {z : Int32} {rest : List Value} (hret : meth.sig.returnType = some .int) (hd : decode c.code pc = .ok (.ireturn, 1)) {fs : List Frame}
    (hl : ∀ (f : JFrame) (acts : List Action), f.method = m → f.locked = none → f.entered = [] → (doReturn e (T.setTop f) acts (some (.int z))).1 = T.setFrames fs) : Steps p.tables e below (T.setTop (mkF m pc Ls (.int z :: rest))) (T.setFrames fs) := by
  have hm' : T.vm.method? m = some meth := X.method'
  have hn : narrow .int (.int z) = .int z := rfl
  show Steps p.tables e below (T.setTop { method := m, pc := pc, locals := Ls, stack := _ :: rest, locked := none }) _
  jvm_step X.here [X.here.top, hx, hd, hm', hret, hn]
  first | (intro acts; rw [hl _ acts rfl rfl rfl]) | rw [hl _ _ rfl rfl rfl]
  exact Steps.refl _
end New
end Jvm.RoadKit
namespace Jvm.Pilot.@@N@@
open Jvm Jvm.ClassFile Sem Op Lib Jvm.Free Jvm.Stand Jvm.LawKit Jvm.RoadKit Bundle Jvm.Pilot.@@N@@.Jvm.D
theorem oW {Z : State} {a0 : Array Value} (hw : ∀ d ∈ tables_1, d.before a0 Z = true) (i : Nat) {d : Jvm.Cond} (h : tables_1[i]? = some d) : d.before a0 Z = true := hw d (List.mem_of_getElem? h)
abbrev oI (x : Int32) : Slot := .val (.int x)
abbrev oR (x : Addr) : Slot := .val (.ref x)
abbrev oV (x : Value) : Slot := .val x
abbrev oN : Slot := .val .null
abbrev oU : Slot := .unset
abbrev oi (x : Int32) : Value := .int x
abbrev ow (x : Addr) : Value := .ref x
abbrev oS (p : Program) (e : Env) (below : List Frame) (T : State) (g : JFrame) (t : State) : Prop := Steps p.tables e below (T.setTop g) t
abbrev oL (p : Program) (e : Env) (below : List Frame) (T : State) (g : JFrame) (T' : State) (g' : JFrame) : Prop := ∀ t, Steps p.tables e below (T.setTop g) t → Steps p.tables e below (T'.setTop g') t
theorem own_fldI {args : Array Value} {Z : State} {t : Term} {C n d : String} {k : Int32} {a : Addr} (ev : t.eval args Z none [] Z = some (.ref a)) (h : (Jvm.Cond.eq (.field t C n d) (.int k)).value args Z none Z [] = some true) : Fld Z Z.heap a C n d (.int k) := by
  obtain ⟨x, y, h1, h2, hk, hk'⟩ := cmp_v (Or.inl h)
  have h2' : y = .int k := by simpa [Term.eval] using h2.symm
  subst h2'
  obtain ⟨z, rfl⟩ : ∃ z, x = .int z := hk'
  have : z = k := by simpa [Cond.value, h1, h2] using h
  subst this
  exact Fld.start ((fld_at ev).symm.trans h1)
theorem own_nb {b : Int32} (h : b = 0 ∨ b = 1) : nar .boolean b = b := by rcases h with rfl | rfl <;> rfl
theorem own_st1 {v : Value} (h : v.isRef = true) {l l' : Array Slot} {i : Nat} (hold : l[i]? = some .unset) (h2 : l.setIfInBounds i (.val v) = l') : storeLocals l i v = some l' := by
  subst h2
  exact XS.store1 hold (Or.inl rfl) (by rcases ref_cases h with rfl | ⟨a, rfl⟩ <;> rfl)
theorem own_narw_bool {x : Int32} (h : nar .boolean x = x) : narrow .boolean (.int x) = .int x := by show Value.int (nar .boolean x) = _; rw [h]
theorem own_fitw_bool {x : Int32} (h : nar .boolean x = x) : fits .boolean (.int x) = true := by rw [← h]; exact fits_nar_bool x
theorem own_narw_char {x : Int32} (h : nar .char x = x) : narrow .char (.int x) = .int x := by show Value.int (nar .char x) = _; rw [h]
theorem own_fitw_char {x : Int32} (h : nar .char x = x) : fits .char (.int x) = true := by rw [← h]; exact fits_nar_char x
theorem own_fitsR {C : String} {v : Value} (h : v.isRef = true) : fits (.object C) v = true := by rcases ref_cases h with rfl | ⟨a, rfl⟩ <;> rfl
theorem own_charN (x : Int32) : (x.toUInt32.toUInt16.toUInt32.toInt32).toBitVec.toNat = x.toBitVec.toNat % 65536 := by
  show ((x.toBitVec.setWidth 16).setWidth 32).toNat = _
  simp
  omega
theorem own_narc {x : Int32} (h : x.toBitVec.toNat < 65536) : x.toUInt32.toUInt16.toUInt32.toInt32 = x := by
  apply Int32.toBitVec_inj.mp
  apply BitVec.eq_of_toNat_eq
  rw [own_charN, Nat.mod_eq_of_lt h]
theorem own_i2c (x : Int32) : nar .char (x.toUInt32.toUInt16.toUInt32.toInt32) = x.toUInt32.toUInt16.toUInt32.toInt32 := by
  show (x.toUInt32.toUInt16.toUInt32.toInt32).toUInt32.toUInt16.toUInt32.toInt32 = _
  exact own_narc (by rw [own_charN]; exact Nat.mod_lt _ (by decide))
def own_hb (c : Int32) : Int32 := nar .byte ((c >>> ((0 : Int32) &&& 31)).toInt8.toInt32)
def own_lb (c : Int32) : Int32 := nar .byte ((c >>> ((8 : Int32) &&& 31)).toInt8.toInt32)
def own_gc (y z : Int32) : Int32 := nar .char ((((y &&& (255 : Int32)) <<< ((0 : Int32) &&& 31)) ||| ((z &&& (255 : Int32)) <<< ((8 : Int32) &&& 31))).toUInt32.toUInt16.toUInt32.toInt32)
theorem own_staI {args : Array Value} {Z : State} {C n d : String} {k : Int32} (h : (Jvm.Cond.eq (.static C n d) (.int k)).before args Z = true) (hi : (Jvm.Cond.initializedFor C n d).before args Z = true) : Sta Z Z.heap C n d (.int k) := by
  have h := Cond.before_iff.mp h
  obtain ⟨x, y, h1, h2, hk, hk'⟩ := cmp_v (Or.inl h)
  have h2' : y = .int k := by simpa [Term.eval] using h2.symm
  subst h2'
  obtain ⟨z, rfl⟩ : ∃ z, x = .int z := hk'
  have : z = k := by simpa [Cond.value, h1, h2] using h
  subst this
  exact Sta.start h1 (Or.inl hi)
theorem own_of (x : Int32) : x = Int32.ofNat x.toBitVec.toNat := by
  apply Int32.toBitVec_inj.mp
  show _ = BitVec.ofNat 32 _
  rw [BitVec.ofNat_toNat]; simp
theorem own_b8m (x : Int32) : (x.toInt8.toInt32 &&& 255).toInt = x.toInt % 256 := by
  have e := Jvm.Kit.i32_mask (x.toInt8.toInt32) 255 (k := 8) (by decide) (by decide)
  rw [e, Int8.toInt_toInt32, Int32.toInt_toInt8, Int.bmod_def]
  split <;> omega
theorem own_natInt {x : Int32} (h : x.toBitVec.toNat < 2 ^ 31) : x.toInt = (x.toBitVec.toNat : Int) := by
  show x.toBitVec.toInt = _
  rw [BitVec.toInt_eq_toNat_of_lt (by omega)]
theorem own_shl0 : ∀ k : Fin 256, ((Int32.ofNat k.val) <<< ((0 : Int32) &&& 31)).toBitVec.toNat = k.val := by decide +kernel
theorem own_shl8 : ∀ k : Fin 256, ((Int32.ofNat k.val) <<< ((8 : Int32) &&& 31)).toBitVec.toNat = k.val * 256 := by decide +kernel
theorem own_nat256 {x : Int32} {k : Int} (h : x.toInt = k) (h0 : 0 ≤ k) (h1 : k < 256) : ∃ j : Fin 256, x = Int32.ofNat j.val ∧ (j.val : Int) = k := by
  have : x.toBitVec.toNat < 2 ^ 31 := by
    have hh : x.toBitVec.toInt = k := h
    rw [BitVec.toInt_eq_toNat_cond] at hh
    split at hh <;> omega
  have e := own_natInt this
  refine ⟨⟨x.toBitVec.toNat, by omega⟩, own_of x, by show (x.toBitVec.toNat : Int) = k; omega⟩
theorem own_gcg (c : Int32) (nc : nar .char c = c) (h : (255 : Int32) < c) : (255 : Int32) < own_gc (own_hb c) (own_lb c) := by
  have hc : c.toBitVec.toNat < 65536 := by
    have : (c.toUInt32.toUInt16.toUInt32.toInt32).toBitVec.toNat = c.toBitVec.toNat := congrArg (fun z : Int32 => z.toBitVec.toNat) nc
    rw [own_charN] at this; omega
  have hi := own_natInt (x := c) (by omega)
  rw [Int32.lt_iff_toInt_lt] at h
  have e255 : (255 : Int32).toInt = 255 := rfl
  rw [e255] at h
  have s0 : (c >>> ((0 : Int32) &&& 31)) = c := by
    have q := Jvm.Kit.i32_shr c ((0 : Int32) &&& 31) (k := 0) (by decide)
    exact Int32.toInt_inj.mp (by rw [q]; simp)
  have s8 : (c >>> ((8 : Int32) &&& 31)).toInt = c.toInt / 256 := by
    have q := Jvm.Kit.i32_shr c ((8 : Int32) &&& 31) (k := 8) (by decide)
    rw [q]; rfl
  have y1 : (own_hb c &&& 255).toInt = c.toInt % 256 := by
    show ((c >>> ((0 : Int32) &&& 31)).toInt8.toInt32.toInt8.toInt32 &&& 255).toInt = _
    rw [s0, own_b8m, Int8.toInt_toInt32, Int32.toInt_toInt8, Int.bmod_def]
    split <;> omega
  have z1 : (own_lb c &&& 255).toInt = c.toInt / 256 := by
    show ((c >>> ((8 : Int32) &&& 31)).toInt8.toInt32.toInt8.toInt32 &&& 255).toInt = _
    rw [own_b8m, Int8.toInt_toInt32, Int32.toInt_toInt8, s8, Int.bmod_def]
    split <;> omega
  obtain ⟨j, ej, hj⟩ := own_nat256 y1 (by omega) (by omega)
  obtain ⟨k, ek, hk⟩ := own_nat256 z1 (by omega) (by omega)
  have w : ((own_hb c &&& 255) <<< ((0 : Int32) &&& 31) ||| (own_lb c &&& 255) <<< ((8 : Int32) &&& 31)).toBitVec.toNat = j.val ||| (k.val * 256) := by
    rw [Int32.toBitVec_or, BitVec.toNat_or, ej, ek, own_shl0, own_shl8]
  have w1 : k.val * 256 ≤ j.val ||| (k.val * 256) := Nat.right_le_or
  have w2 : j.val ||| (k.val * 256) < 2 ^ 16 := Nat.or_lt_two_pow (by omega) (by omega)
  have g : own_gc (own_hb c) (own_lb c) = ((own_hb c &&& 255) <<< ((0 : Int32) &&& 31) ||| (own_lb c &&& 255) <<< ((8 : Int32) &&& 31)) := by
    show (((own_hb c &&& 255) <<< ((0 : Int32) &&& 31) ||| (own_lb c &&& 255) <<< ((8 : Int32) &&& 31)).toUInt32.toUInt16.toUInt32.toInt32).toUInt32.toUInt16.toUInt32.toInt32 = _
    rw [own_narc (x := (own_hb c &&& 255) <<< ((0 : Int32) &&& 31) ||| (own_lb c &&& 255) <<< ((8 : Int32) &&& 31)) (by rw [w]; omega), own_narc (by rw [w]; omega)]
  rw [g, Int32.lt_iff_toInt_lt, e255, own_natInt (by rw [w]; omega), w]
  omega
theorem own_arvne {Z : State} {h : Heap} {a b : Addr} {k k' : ClassId} {ty : FieldType} {z z' : Int32} {vs vs' : List Value} {d d' : Value} (F : Arv Z h a k ty z vs d) (G : Arv Z h b k' ty z' vs' d') (q : z.toNatClampNeg ≠ z'.toNatClampNeg) : a ≠ b := fun e => by
  subst e
  obtain ⟨c, A, -, s1, -⟩ := F
  obtain ⟨c', A', -, s2, -⟩ := G
  cases A.1.symm.trans A'.1
  exact q (s1.symm.trans s2)
theorem own_and3 (x : Int32) : x &&& 3 = 0 ∨ x &&& 3 = 1 ∨ x &&& 3 = 2 ∨ x &&& 3 = 3 := by
  have e := Jvm.Kit.i32_mask x 3 (k := 2) (by decide) (by decide)
  have q : (x &&& 3).toInt = 0 ∨ (x &&& 3).toInt = 1 ∨ (x &&& 3).toInt = 2 ∨ (x &&& 3).toInt = 3 := by omega
  rcases q with q | q | q | q
  · exact Or.inl (Int32.toInt_inj.mp (q.trans (by decide)))
  · exact Or.inr (Or.inl (Int32.toInt_inj.mp (q.trans (by decide))))
  · exact Or.inr (Or.inr (Or.inl (Int32.toInt_inj.mp (q.trans (by decide)))))
  · exact Or.inr (Or.inr (Or.inr (Int32.toInt_inj.mp (q.trans (by decide)))))
theorem own_EW (Z : State) (a0 : Array Value) (hw : ∀ d ∈ tables_1, d.before a0 Z = true) : EW Z a0 consts_1 := (EW.cons (oW hw 46 rfl) (by decide) (EW.cons (oW hw 79 rfl) (by decide) (EW.cons (oW hw 59 rfl) (by decide) EW.nil)))
theorem own_wS (Z : State) (a0 : Array Value) (hw : ∀ d ∈ tables_1, d.before a0 Z = true) : ∀ d ∈ Bundle.stringAtoms, d.before a0 Z = true := fun d hd => hw d ((by decide +kernel : ∀ d ∈ Bundle.stringAtoms, d ∈ tables_1) d hd)
theorem own_safe_null {Z : State} {EL : List (String × Nat)} {vm : Vm} {h : Heap} {x : Addr} (hal : Z.vm.Alike vm) (E : Exa Z h x "java/lang/String") (F : Fld Z h x "java/lang/String" "value" "[B" .null) (a0 : Array Value) (wi : (Jvm.Cond.instantiable "java/lang/String" 4).before a0 Z = true) : Safe Z EL vm h x := fun B => by
  obtain ⟨p, -, u, a, -, q, rfl, ⟨cS, ⟨⟨s1, s2, s3, ⟨cv, kv, iv, s4, s4'⟩, s5, s6, s7, s8, s9, s10, s11, s12, s13, s14, s15, s16⟩, hfS, hcS⟩, -, hB, -⟩, hy⟩ := B
  rcases hy with rfl | rfl
  · obtain ⟨cell, cf, k, i, f, g1, g2, g3, g4, g5, g6, g7⟩ := F
    obtain ⟨k', z4⟩ := ff_back (Z := Z) (U := Wst Z vm h) hal s4
    cases g2.symm.trans z4
    cases g1.symm.trans s1
    cases g7.symm.trans s8
  · obtain ⟨c1, k1, e1, f1, g1, -⟩ := E
    cases e1.symm.trans s10
    obtain ⟨-, kk, hk, comp, hkind⟩ := s11
    obtain ⟨cI, kI, i1, i2, i3, -⟩ := Cond.instantiable_spec wi
    cases f1.symm.trans i1
    obtain ⟨k', q1, q2⟩ := hal.2.2 _ _ i2
    cases q1.symm.trans hk
    rw [q2, i3] at hkind; cases hkind
theorem pn_java_lang_StringUTF16 : plainName "java/lang/StringUTF16" = true := by first | (simp [plainName, overriddenIn]; done) | decide +kernel
theorem d14_0 : decode jdk_52_method_4_code 0 = .ok (.getstatic 44, 3) := by decide +kernel
theorem d14_3 : decode jdk_52_method_4_code 3 = .ok (.ifCond .ne 25, 3) := by decide +kernel
theorem d14_28 : decode jdk_52_method_4_code 28 = .ok (.iload_n 1, 1) := by decide +kernel
theorem d14_29 : decode jdk_52_method_4_code 29 = .ok (.iconst 1, 1) := by decide +kernel
theorem d14_30 : decode jdk_52_method_4_code 30 = .ok (.ishl, 1) := by decide +kernel
theorem d14_31 : decode jdk_52_method_4_code 31 = .ok (.istore_n 1, 1) := by decide +kernel
theorem d14_32 : decode jdk_52_method_4_code 32 = .ok (.aload_n 0, 1) := by decide +kernel
theorem d14_33 : decode jdk_52_method_4_code 33 = .ok (.iload_n 1, 1) := by decide +kernel
theorem d14_34 : decode jdk_52_method_4_code 34 = .ok (.iinc 1 1, 3) := by decide +kernel
theorem d14_37 : decode jdk_52_method_4_code 37 = .ok (.iload_n 2, 1) := by decide +kernel
theorem d14_38 : decode jdk_52_method_4_code 38 = .ok (.getstatic 59, 3) := by decide +kernel
theorem d14_41 : decode jdk_52_method_4_code 41 = .ok (.ishr, 1) := by decide +kernel
theorem d14_42 : decode jdk_52_method_4_code 42 = .ok (.i2b, 1) := by decide +kernel
theorem d14_43 : decode jdk_52_method_4_code 43 = .ok (.bastore, 1) := by decide +kernel
theorem d14_44 : decode jdk_52_method_4_code 44 = .ok (.aload_n 0, 1) := by decide +kernel
theorem d14_45 : decode jdk_52_method_4_code 45 = .ok (.iload_n 1, 1) := by decide +kernel
theorem d14_46 : decode jdk_52_method_4_code 46 = .ok (.iload_n 2, 1) := by decide +kernel
theorem d14_47 : decode jdk_52_method_4_code 47 = .ok (.getstatic 63, 3) := by decide +kernel
theorem d14_50 : decode jdk_52_method_4_code 50 = .ok (.ishr, 1) := by decide +kernel
theorem d14_51 : decode jdk_52_method_4_code 51 = .ok (.i2b, 1) := by decide +kernel
theorem d14_52 : decode jdk_52_method_4_code 52 = .ok (.bastore, 1) := by decide +kernel
theorem d14_53 : decode jdk_52_method_4_code 53 = .ok (.return_, 1) := by decide +kernel
def Q_rm_put1_0 (Z : State) (t1 : Addr) (k1 : ClassId) (cq : Int32) (y0 : Int32) (y1 : Int32) (h0 : Heap) (n0 : Nat) (v : Option Value) (h : Heap) (L : List Loc) : Prop := v = none ∧ Fr n0 L ∧ Keep h0 h [t1] ∧ Arv Z h t1 k1 .byte (2 : Int32) [(.int (own_hb cq)), (.int (own_lb cq))] (.int (0 : Int32))
set_option maxRecDepth 65536 in
set_option maxHeartbeats 40000000 in
theorem rm_put1_0 (l : Launch) (Z : State) (a0 : Array Value) (hw : ∀ d ∈ tables_1, d.before a0 Z = true) (ws : List Jvm.Cond) (t1 : Addr) (k1 : ClassId) (cq : Int32) (y0 : Int32) (y1 : Int32) (h0 : Heap) (n0 : Nat) (OL : Old Z n0 h0) (AD : Sta Z Z.heap "java/lang/StringUTF16" "$assertionsDisabled" "Z" (.int (1 : Int32))) (HB : Sta Z Z.heap "java/lang/StringUTF16" "HI_BYTE_SHIFT" "I" (.int (0 : Int32))) (LB : Sta Z Z.heap "java/lang/StringUTF16" "LO_BYTE_SHIFT" "I" (.int (8 : Int32))) (ge1 : n0 ≤ t1) (V1 : Arv Z h0 t1 k1 .byte (2 : Int32) [(.int y0), (.int y1)] (.int (0 : Int32))) :
    MetFree l (⟨"java/lang/StringUTF16", "putChar", "([BII)V"⟩ : MethodName) (head1 (Jvm.Cond.code (⟨"java/lang/StringUTF16", "putChar", "([BII)V"⟩ : MethodName) jdk_52_method_4_code 3 none :: ws) ({ frames := 0, cells := 0, slots := 0, locals := 0 } : Room)) (fun a U => a = #[(.ref t1), (.int (0 : Int32)), (.int cq)] ∧ Z.Warmed39 U.vm ∧ U.heap = h0) (fun _ _ _ _ _ => True) (fun _ U o U' => ∃ v L, o = .returned v ∧ Q_rm_put1_0 Z t1 k1 cq y0 y1 h0 n0 v U'.heap L ∧ FrameEnd U o U' L ({ frames := 0, cells := 0, slots := 0, locals := 0 } : Room).cells ({ frames := 0, cells := 0, slots := 0, locals := 0 } : Room).slots) := by
  refine MetFree.of_bodySF (plainFor_of_name pn_java_lang_StringUTF16) hisR ?_
  intro p e s m args below meth c s₁ Bd hml0 hP hK
  obtain ⟨rfl, hZ, hh⟩ := hP
  have hx := Bd.exec
  have hby := Bd.bytes
  have hml : c.maxLocals = 3 := hml0
  have hown : s.vm.findClass "java/lang/StringUTF16" = some m.cls := findClass_of_methodNamed Bd.named
  have hnm := (name_of_methodNamed Bd.named Bd.method).1
  have X0 : Stand p l e ({ frames := 0, cells := 0, slots := 0, locals := 0 } : Room) s m #[(.ref t1), (.int (0 : Int32)), (.int cq)] below meth c s₁ [] 0 0 := Stand.of_body Bd
  have e0 : s₁.heap = h0 := by rw [← hh, Bd.state]; rfl
  have N0 := Fr.nil n0
  have pre0 : oL p e below s₁ (mkF m 0 #[oR t1, oI 0, oI cq] []) s₁ (entryFrame m #[(.ref t1), (.int (0 : Int32)), (.int cq)] 3) := fun t k => castTop (by first | (simp [entryFrame, mkF, argsToLocals, Value.category]; done) | rfl) k
  obtain ⟨T11, X11, e11, st11⟩ := getS2 X0 hx hZ hown (host := "") (Or.inl (oW hw 73 rfl)) Via.refl e0 (AD.ext OL.2) (g := (mkF m 0 #[oR t1, oI 0, oI cq] [])) rfl (hb hby d14_0)
  have pre12 : oL p e below T11 (mkF m 38 #[oR t1, oI 1, oI cq] [oi cq, oi 0, ow t1]) s₁ (entryFrame m #[(.ref t1), (.int (0 : Int32)), (.int cq)] 3) := fun t k => pre0 t (by
    refine st11 _ ?_
    refine XS.ifYes X11.here hx rfl (pc0 := 3) (pc' := 28) rfl (hb hby d14_3) rfl ((if0 _ _).trans (feq (by decide : ¬ ((1 : Int32) = (0 : Int32)))).2) (by decide) (by decide) ?_
    refine XS.iloadN X11.here hx rfl (hb hby d14_28) rfl ?_
    refine XS.iconst X11.here hx rfl (hb hby d14_29) ?_
    show oS p e below T11 (mkF m 30 #[oR t1, oI 0, oI cq] [oi 1, oi 0]) _
    refine XS.ishl X11.here hx rfl (hb hby d14_30) rfl ?_
    refine XS.istoreN X11.here hx rfl (hb hby d14_31) rfl (l' := #[oR t1, oI 0, oI cq]) rfl ?_
    refine XS.aloadN X11.here hx rfl (hb hby d14_32) rfl rfl ?_
    refine XS.iloadN X11.here hx rfl (hb hby d14_33) rfl ?_
    show oS p e below T11 (mkF m 34 #[oR t1, oI 0, oI cq] [oi 0, ow t1]) _
    refine XS.iinc X11.here hx rfl (hb hby d14_34) rfl (l' := #[oR t1, oI 1, oI cq]) rfl ?_
    refine XS.iloadN X11.here hx rfl (hb hby d14_37) rfl ?_
    exact k)
  obtain ⟨T13, X13, e13, st13⟩ := getS2 X11 hx hZ hown (host := "") (Or.inl (oW hw 74 rfl)) Via.refl e11 (HB.ext OL.2) (g := (mkF m 38 #[oR t1, oI 1, oI cq] [oi cq, oi 0, ow t1])) rfl (hb hby d14_38)
  have pre14 : oL p e below T13 (mkF m 43 #[oR t1, oI 1, oI cq] [oi ((cq >>> ((0 : Int32) &&& 31)).toInt8.toInt32), oi 0, ow t1]) s₁ (entryFrame m #[(.ref t1), (.int (0 : Int32)), (.int cq)] 3) := fun t k => pre12 t (by
    refine st13 _ ?_
    refine XS.ishr X13.here hx rfl (hb hby d14_41) rfl ?_
    show oS p e below T13 (mkF m 42 #[oR t1, oI 1, oI cq] [oi (cq >>> ((0 : Int32) &&& 31)), oi 0, ow t1]) _
    refine XS.i2b X13.here hx rfl (hb hby d14_42) rfl ?_
    exact k)
  obtain ⟨cl15, Ar15, qc15, Sz15, Nn15, Hs15, Gs15⟩ := id V1
  obtain ⟨T15, h15, X15, e15, W15, st15⟩ := stB X13 hx hZ e13 Ar15 (j := (0 : Int32)) (inb_of Sz15 ⟨by decide, by decide⟩) (g := (mkF m 43 #[oR t1, oI 1, oI cq] [oi ((cq >>> ((0 : Int32) &&& 31)).toInt8.toInt32), oi 0, ow t1])) rfl rfl (hb hby d14_43)
  have V15 : Arv Z h15 t1 k1 .byte (2 : Int32) [(.int (nar .byte ((cq >>> ((0 : Int32) &&& 31)).toInt8.toInt32))), (.int y1)] (.int (0 : Int32)) := Arv.set Ar15 qc15 Sz15 Nn15 Hs15 Gs15 (fits_nar_byte _) W15 0 rfl (Nat.le_of_ble_eq_true rfl)
  have N15 := Fr.snoc X15 N0 ge1
  have OL16 := OL.wr W15 ge1
  have K17 : Keep h0 h15 [t1] := (Keep.refl h0 [t1]).wr W15 (Or.inl (List.mem_of_getElem? (i := 0) rfl))
  have pre18 : oL p e below T15 (mkF m 47 #[oR t1, oI 1, oI cq] [oi cq, oi 1, ow t1]) s₁ (entryFrame m #[(.ref t1), (.int (0 : Int32)), (.int cq)] 3) := fun t k => pre14 t (by
    refine st15 _ ?_
    refine XS.aloadN X15.here hx rfl (hb hby d14_44) rfl rfl ?_
    refine XS.iloadN X15.here hx rfl (hb hby d14_45) rfl ?_
    show oS p e below T15 (mkF m 46 #[oR t1, oI 1, oI cq] [oi 1, ow t1]) _
    refine XS.iloadN X15.here hx rfl (hb hby d14_46) rfl ?_
    exact k)
  obtain ⟨T19, X19, e19, st19⟩ := getS2 X15 hx hZ hown (host := "") (Or.inl (oW hw 75 rfl)) Via.refl e15 (LB.ext OL16.2) (g := (mkF m 47 #[oR t1, oI 1, oI cq] [oi cq, oi 1, ow t1])) rfl (hb hby d14_47)
  have pre20 : oL p e below T19 (mkF m 52 #[oR t1, oI 1, oI cq] [oi ((cq >>> ((8 : Int32) &&& 31)).toInt8.toInt32), oi 1, ow t1]) s₁ (entryFrame m #[(.ref t1), (.int (0 : Int32)), (.int cq)] 3) := fun t k => pre18 t (by
    refine st19 _ ?_
    refine XS.ishr X19.here hx rfl (hb hby d14_50) rfl ?_
    refine XS.i2b X19.here hx rfl (hb hby d14_51) rfl ?_
    show oS p e below T19 (mkF m 52 #[oR t1, oI 1, oI cq] [oi ((cq >>> ((8 : Int32) &&& 31)).toInt8.toInt32), oi 1, ow t1]) _
    exact k)
  obtain ⟨cl21, Ar21, qc21, Sz21, Nn21, Hs21, Gs21⟩ := id V15
  obtain ⟨T21, h21, X21, e21, W21, st21⟩ := stB X19 hx hZ e19 Ar21 (j := (1 : Int32)) (inb_of Sz21 ⟨by decide, by decide⟩) (g := (mkF m 52 #[oR t1, oI 1, oI cq] [oi ((cq >>> ((8 : Int32) &&& 31)).toInt8.toInt32), oi 1, ow t1])) rfl rfl (hb hby d14_52)
  have V21 : Arv Z h21 t1 k1 .byte (2 : Int32) [(.int (nar .byte ((cq >>> ((0 : Int32) &&& 31)).toInt8.toInt32))), (.int (nar .byte ((cq >>> ((8 : Int32) &&& 31)).toInt8.toInt32)))] (.int (0 : Int32)) := Arv.set Ar21 qc21 Sz21 Nn21 Hs21 Gs21 (fits_nar_byte _) W21 1 rfl (Nat.le_of_ble_eq_true rfl)
  have N21 := Fr.snoc X21 N15 ge1
  have OL22 := OL16.wr W21 ge1
  have K23 : Keep h0 h21 [t1] := K17.wr W21 (Or.inl (List.mem_of_getElem? (i := 0) rfl))
  have pre24 : oL p e below T21 (mkF m 53 #[oR t1, oI 1, oI cq] []) s₁ (entryFrame m #[(.ref t1), (.int (0 : Int32)), (.int cq)] 3) := fun t k => pre20 t (by
    refine st21 _ ?_
    exact k)
  obtain ⟨fs, hr, hrun, hended, hW, hsame⟩ := X21.leave (v := none) (fun _ => rfl)
  refine ⟨_, _, pre24 _ ?_, hrun, hended, _, _, rfl, ?_, ⟨_, rfl⟩, hW, hsame.mono (by decide) (by decide)⟩
  ·
    show oS p e below T21 (mkF m 53 #[oR t1, oI 1, oI cq] []) _
    exact X21.returnOut hx Bd.returns (hb hby d14_53) hr
  ·
    show Q_rm_put1_0 Z t1 k1 cq y0 y1 h0 n0 _ T21.heap _
    rw [e21]
    exact ⟨rfl, N21, K23, V21⟩
theorem d13_0 : decode jdk_52_method_3_code 0 = .ok (.iload_n 0, 1) := by decide +kernel
theorem d13_1 : decode jdk_52_method_3_code 1 = .ok (.ifCond .ge 11, 3) := by decide +kernel
theorem d13_12 : decode jdk_52_method_3_code 12 = .ok (.iload_n 0, 1) := by decide +kernel
theorem d13_13 : decode jdk_52_method_3_code 13 = .ok (.ldc 20, 2) := by decide +kernel
theorem d13_15 : decode jdk_52_method_3_code 15 = .ok (.if_icmp .lt 40, 3) := by decide +kernel
theorem d13_55 : decode jdk_52_method_3_code 55 = .ok (.iload_n 0, 1) := by decide +kernel
theorem d13_56 : decode jdk_52_method_3_code 56 = .ok (.iconst 1, 1) := by decide +kernel
theorem d13_57 : decode jdk_52_method_3_code 57 = .ok (.ishl, 1) := by decide +kernel
theorem d13_58 : decode jdk_52_method_3_code 58 = .ok (.ireturn, 1) := by decide +kernel
def Q_rm_nbl1 (Z : State)  (h0 : Heap) (n0 : Nat) (v : Option Value) (h : Heap) (L : List Loc) : Prop := v = some (.int (2 : Int32)) ∧ Fr n0 L ∧ h = h0
set_option maxRecDepth 65536 in
set_option maxHeartbeats 40000000 in
theorem rm_nbl1 (l : Launch) (Z : State) (a0 : Array Value) (hw : ∀ d ∈ tables_1, d.before a0 Z = true) (ws : List Jvm.Cond)  (h0 : Heap) (n0 : Nat) (OL : Old Z n0 h0) :
    MetFree l (⟨"java/lang/StringUTF16", "newBytesLength", "(I)I"⟩ : MethodName) (head1 (Jvm.Cond.code (⟨"java/lang/StringUTF16", "newBytesLength", "(I)I"⟩ : MethodName) jdk_52_method_3_code 1 (some .int) :: ws) ({ frames := 0, cells := 0, slots := 0, locals := 0 } : Room)) (fun a U => a = #[(.int (1 : Int32))] ∧ Z.Warmed39 U.vm ∧ U.heap = h0) (fun _ _ _ _ _ => True) (fun _ U o U' => ∃ v L, o = .returned v ∧ Q_rm_nbl1 Z  h0 n0 v U'.heap L ∧ FrameEnd U o U' L ({ frames := 0, cells := 0, slots := 0, locals := 0 } : Room).cells ({ frames := 0, cells := 0, slots := 0, locals := 0 } : Room).slots) := by
  refine MetFree.of_bodySF (plainFor_of_name pn_java_lang_StringUTF16) hisR ?_
  intro p e s m args below meth c s₁ Bd hml0 hP hK
  obtain ⟨rfl, hZ, hh⟩ := hP
  have hx := Bd.exec
  have hby := Bd.bytes
  have hml : c.maxLocals = 1 := hml0
  have hown : s.vm.findClass "java/lang/StringUTF16" = some m.cls := findClass_of_methodNamed Bd.named
  have hnm := (name_of_methodNamed Bd.named Bd.method).1
  have X0 : Stand p l e ({ frames := 0, cells := 0, slots := 0, locals := 0 } : Room) s m #[(.int (1 : Int32))] below meth c s₁ [] 0 0 := Stand.of_body Bd
  have e0 : s₁.heap = h0 := by rw [← hh, Bd.state]; rfl
  have N0 := Fr.nil n0
  have pre0 : oL p e below s₁ (mkF m 0 #[oI 1] []) s₁ (entryFrame m #[(.int (1 : Int32))] 1) := fun t k => castTop (by first | (simp [entryFrame, mkF, argsToLocals, Value.category]; done) | rfl) k
  have pre11 : oL p e below s₁ (mkF m 58 #[oI 1] [oi 2]) s₁ (entryFrame m #[(.int (1 : Int32))] 1) := fun t k => pre0 t (by
    refine XS.iloadN X0.here hx rfl (hb hby d13_0) rfl ?_
    refine XS.ifYes X0.here hx rfl (pc0 := 1) (pc' := 12) rfl (hb hby d13_1) rfl ((if0 _ _).trans (flt (by decide : ¬ ((1 : Int32) < (0 : Int32)))).2.1) (by decide) (by decide) ?_
    refine XS.iloadN X0.here hx rfl (hb hby d13_12) rfl ?_
    refine X0.ldcInt hx hown (mvT hZ (oW hw 69 rfl)) (g := (mkF m 13 #[oI 1] [oi 1])) rfl (hb hby d13_13) _ ?_
    show oS p e below s₁ (mkF m 15 #[oI 1] [oi 1073741823, oi 1]) _
    refine XS.icmpYes X0.here hx rfl (pc0 := 15) (pc' := 55) rfl (hb hby d13_15) rfl (tlt (by decide : (1 : Int32) < (1073741823 : Int32))).1 (by decide) (by decide) ?_
    refine XS.iloadN X0.here hx rfl (hb hby d13_55) rfl ?_
    refine XS.iconst X0.here hx rfl (hb hby d13_56) ?_
    refine XS.ishl X0.here hx rfl (hb hby d13_57) rfl ?_
    show oS p e below s₁ (mkF m 58 #[oI 1] [oi 2]) _
    exact k)
  obtain ⟨fs, hr, hrun, hended, hW, hsame⟩ := X0.leave (v := some (.int (2 : Int32))) (fun h => by rw [Bd.returns] at h; cases h)
  refine ⟨_, _, pre11 _ ?_, hrun, hended, _, _, rfl, ?_, ⟨_, rfl⟩, hW, hsame.mono (by decide) (by decide)⟩
  ·
    show oS p e below s₁ (mkF m 58 #[oI 1] [oi 2]) _
    exact retI X0 hx Bd.returns (hb hby d13_58) hr
  ·
    show Q_rm_nbl1 Z  h0 n0 _ s₁.heap _
    rw [e0]
    exact ⟨rfl, N0, rfl⟩
theorem d12_0 : decode jdk_52_method_2_code 0 = .ok (.iload_n 0, 1) := by decide +kernel
theorem d12_1 : decode jdk_52_method_2_code 1 = .ok (.invokestatic 11, 3) := by decide +kernel
theorem pd__I_I : parseMethodDescriptor "(I)I" = some ⟨[.int], some .int⟩ := by decide +kernel
theorem d12_4 : decode jdk_52_method_2_code 4 = .ok (.newarray .byte, 2) := by decide +kernel
theorem d12_6 : decode jdk_52_method_2_code 6 = .ok (.areturn, 1) := by decide +kernel
def Q_rm_nbf1 (Z : State)  (h0 : Heap) (n0 : Nat) (v : Option Value) (h : Heap) (L : List Loc) : Prop := ∃ (r : Addr) (kr : ClassId), v = some (.ref r) ∧ Fr n0 L ∧ Keep h0 h [] ∧ h0.size ≤ r ∧ Arv Z h r kr .byte (2 : Int32) [(.int (0 : Int32)), (.int (0 : Int32))] (.int (0 : Int32))
set_option maxRecDepth 65536 in
set_option maxHeartbeats 40000000 in
theorem rm_nbf1 (l : Launch) (Z : State) (a0 : Array Value) (hw : ∀ d ∈ tables_1, d.before a0 Z = true) (ws : List Jvm.Cond)  (h0 : Heap) (n0 : Nat) (OL : Old Z n0 h0) :
    MetFree l (⟨"java/lang/StringUTF16", "newBytesFor", "(I)[B"⟩ : MethodName) (head1 (Jvm.Cond.code (⟨"java/lang/StringUTF16", "newBytesFor", "(I)[B"⟩ : MethodName) jdk_52_method_2_code 1 (some (.array .byte)) :: ws) ({ frames := 1, cells := 1, slots := 2, locals := 12 } : Room)) (fun a U => a = #[(.int (1 : Int32))] ∧ Z.Warmed39 U.vm ∧ U.heap = h0) (fun _ _ _ _ _ => True) (fun _ U o U' => ∃ v L, o = .returned v ∧ Q_rm_nbf1 Z  h0 n0 v U'.heap L ∧ FrameEnd U o U' L ({ frames := 1, cells := 1, slots := 2, locals := 12 } : Room).cells ({ frames := 1, cells := 1, slots := 2, locals := 12 } : Room).slots) := by
  refine MetFree.of_bodySF (plainFor_of_name pn_java_lang_StringUTF16) hisR ?_
  intro p e s m args below meth c s₁ Bd hml0 hP hK
  obtain ⟨rfl, hZ, hh⟩ := hP
  have hx := Bd.exec
  have hby := Bd.bytes
  have hml : c.maxLocals = 1 := hml0
  have hown : s.vm.findClass "java/lang/StringUTF16" = some m.cls := findClass_of_methodNamed Bd.named
  have hnm := (name_of_methodNamed Bd.named Bd.method).1
  have X0 : Stand p l e ({ frames := 1, cells := 1, slots := 2, locals := 12 } : Room) s m #[(.int (1 : Int32))] below meth c s₁ [] 0 0 := Stand.of_body Bd
  have e0 : s₁.heap = h0 := by rw [← hh, Bd.state]; rfl
  have N0 := Fr.nil n0
  have pre0 : oL p e below s₁ (mkF m 0 #[oI 1] []) s₁ (entryFrame m #[(.int (1 : Int32))] 1) := fun t k => castTop (by first | (simp [entryFrame, mkF, argsToLocals, Value.category]; done) | rfl) k
  have pre11 : oL p e below s₁ (mkF m 1 #[oI 1] [oi 1]) s₁ (entryFrame m #[(.int (1 : Int32))] 1) := fun t k => pre0 t (by
    refine XS.iloadN X0.here hx rfl (hb hby d12_0) rfl ?_
    exact k)
  obtain ⟨_, _, ⟨T12, L12, k12, n12⟩, -, X12, ⟨Lc12, hQ12, l12, y12, z12⟩, st12⟩ := Jvm.LawKit.callS X0 hx (y := (⟨"java/lang/StringUTF16", "newBytesLength", "(I)I"⟩ : MethodName)) hown (mvT hZ (oW hw 66 rfl)) (mvT hZ (oW hw 67 rfl)) (mvT hZ (oW hw 24 rfl)) (mvT hZ (oW hw 68 rfl)) (by decide) (backOf (W := 0) (rm_nbl1 l Z a0 hw []  h0 n0 OL ) hZ (oW hw 68 rfl) (oW hw 24 rfl) (by decide) (by decide)) (g := (mkF m 1 #[oI 1] [oi 1])) rfl (by rw [hml]; rfl) (argsL := [(.int (1 : Int32))]) (rest := []) (lenOf pd__I_I rfl) rfl (by show 2 * 0 + _ ≤ _; exact Nat.le_of_eq rfl) (hb hby d12_1) (fun _ _ => ⟨rfl, e0, (by decide : 0 + 0 ≤ _), (by decide : 0 + 0 ≤ _)⟩)
  dsimp only [Pt.U, Pt.locs, Pt.cells, Pt.slots] at X12 l12 y12 z12 st12 hQ12
  subst l12 y12 z12
  obtain ⟨rfl, N12q, e12⟩ := hQ12
  have N12 := Fr.app N0 N12q
  have pre13 : oL p e below T12 (mkF m 4 #[oI 1] [oi 2]) s₁ (entryFrame m #[(.int (1 : Int32))] 1) := fun t k => pre11 t (by
    refine st12 _ ?_
    exact k)
  obtain ⟨T14, h14, k14, X14, e14, E14, A14, st14⟩ := newP X12 hx hZ (oW hw 26 rfl) e12 (g := (mkF m 4 #[oI 1] [oi 2])) rfl (hb hby d12_4) rfl (by decide) (cap := 2) (by decide) (by decide) (by decide) (by decide)
  obtain ⟨b14, g14⟩ : ∃ z, z = h0.size := ⟨_, rfl⟩
  rw [← g14] at A14 st14
  have ge_b14 : n0 ≤ b14 := Nat.le_trans (OL.1 ▸ OL.2.1) (Nat.le_of_eq g14.symm)
  have sz_b14 : h0.size ≤ b14 := Nat.le_trans (Keep.refl h0 []).1 (Nat.le_of_eq g14.symm)
  have OL15 := OL.ext E14
  have K16 : Keep h0 h14 [] := (Keep.refl h0 []).ext E14
  have V14 : Arv Z h14 b14 k14 .byte (2 : Int32) [(.int (0 : Int32)), (.int (0 : Int32))] (.int (0 : Int32)) := (Arv.new A14 (by decide)).pad (pad_rep [] (.int (0 : Int32)) 2)
  have pre17 : oL p e below T14 (mkF m 6 #[oI 1] [ow b14]) s₁ (entryFrame m #[(.int (1 : Int32))] 1) := fun t k => pre13 t (by
    refine st14 _ ?_
    exact k)
  obtain ⟨fs, hr, hrun, hended, hW, hsame⟩ := X14.leave (v := some (.ref b14)) (fun h => by rw [Bd.returns] at h; cases h)
  refine ⟨_, _, pre17 _ ?_, hrun, hended, _, _, rfl, ?_, ⟨_, rfl⟩, hW, hsame.mono (by decide) (by decide)⟩
  ·
    show oS p e below T14 (mkF m 6 #[oI 1] [ow b14]) _
    jvm_step X14.here [X14.here.top, hx, (hb hby d12_6), X14.method', Bd.returns, Value.isRef, FieldType.isReference]
    first | (intro acts; rw [hr _ acts rfl rfl rfl]) | rw [hr _ _ rfl rfl rfl]
    exact Steps.refl _
  ·
    show Q_rm_nbf1 Z  h0 n0 _ T14.heap _
    rw [e14]
    exact ⟨b14, k14, rfl, N12, K16, sz_b14, V14⟩
theorem d11_0 : decode jdk_52_method_14_code 0 = .ok (.iload_n 2, 1) := by decide +kernel
theorem d11_1 : decode jdk_52_method_14_code 1 = .ok (.invokestatic 107, 3) := by decide +kernel
theorem pd__I__B : parseMethodDescriptor "(I)[B" = some ⟨[.int], some (.array .byte)⟩ := by decide +kernel
theorem d11_4 : decode jdk_52_method_14_code 4 = .ok (.astore_n 3, 1) := by decide +kernel
theorem d11_5 : decode jdk_52_method_14_code 5 = .ok (.iconst 0, 1) := by decide +kernel
theorem d11_6 : decode jdk_52_method_14_code 6 = .ok (.istore 4, 2) := by decide +kernel
theorem d11_8 : decode jdk_52_method_14_code 8 = .ok (.iload 4, 2) := by decide +kernel
theorem d11_10 : decode jdk_52_method_14_code 10 = .ok (.iload_n 2, 1) := by decide +kernel
theorem d11_11 : decode jdk_52_method_14_code 11 = .ok (.if_icmp .ge 21, 3) := by decide +kernel
theorem d11_14 : decode jdk_52_method_14_code 14 = .ok (.aload_n 3, 1) := by decide +kernel
theorem d11_15 : decode jdk_52_method_14_code 15 = .ok (.iload 4, 2) := by decide +kernel
theorem d11_17 : decode jdk_52_method_14_code 17 = .ok (.aload_n 0, 1) := by decide +kernel
theorem d11_18 : decode jdk_52_method_14_code 18 = .ok (.iload_n 1, 1) := by decide +kernel
theorem d11_19 : decode jdk_52_method_14_code 19 = .ok (.caload, 1) := by decide +kernel
theorem d11_20 : decode jdk_52_method_14_code 20 = .ok (.invokestatic 111, 3) := by decide +kernel
theorem pd___BII_V : parseMethodDescriptor "([BII)V" = some ⟨[(.array .byte), .int, .int], none⟩ := by decide +kernel
theorem d11_23 : decode jdk_52_method_14_code 23 = .ok (.iinc 1 1, 3) := by decide +kernel
theorem d11_26 : decode jdk_52_method_14_code 26 = .ok (.iinc 4 1, 3) := by decide +kernel
theorem d11_29 : decode jdk_52_method_14_code 29 = .ok (.goto (-21), 3) := by decide +kernel
theorem d11_32 : decode jdk_52_method_14_code 32 = .ok (.aload_n 3, 1) := by decide +kernel
theorem d11_33 : decode jdk_52_method_14_code 33 = .ok (.areturn, 1) := by decide +kernel
def Q_rm_tob1 (Z : State) (a1 : Addr) (k1 : ClassId) (c0 : Int32) (h0 : Heap) (n0 : Nat) (v : Option Value) (h : Heap) (L : List Loc) : Prop := ∃ (r : Addr) (kr : ClassId), v = some (.ref r) ∧ Fr n0 L ∧ Keep h0 h [] ∧ h0.size ≤ r ∧ Arv Z h r kr .byte (2 : Int32) [(.int (own_hb c0)), (.int (own_lb c0))] (.int (0 : Int32))
set_option maxRecDepth 65536 in
set_option maxHeartbeats 40000000 in
theorem rm_tob1 (l : Launch) (Z : State) (a0 : Array Value) (hw : ∀ d ∈ tables_1, d.before a0 Z = true) (ws : List Jvm.Cond) (a1 : Addr) (k1 : ClassId) (c0 : Int32) (h0 : Heap) (n0 : Nat) (OL : Old Z n0 h0) (AD : Sta Z Z.heap "java/lang/StringUTF16" "$assertionsDisabled" "Z" (.int (1 : Int32))) (HB : Sta Z Z.heap "java/lang/StringUTF16" "HI_BYTE_SHIFT" "I" (.int (0 : Int32))) (LB : Sta Z Z.heap "java/lang/StringUTF16" "LO_BYTE_SHIFT" "I" (.int (8 : Int32))) (V1 : Arv Z h0 a1 k1 .char (1 : Int32) [(.int c0)] (.int (0 : Int32))) :
    MetFree l (⟨"java/lang/StringUTF16", "toBytes", "([CII)[B"⟩ : MethodName) (head1 (Jvm.Cond.code (⟨"java/lang/StringUTF16", "toBytes", "([CII)[B"⟩ : MethodName) jdk_52_method_14_code 5 (some (.array .byte)) :: ws) ({ frames := 2, cells := 1, slots := 2, locals := 24 } : Room)) (fun a U => a = #[(.ref a1), (.int (0 : Int32)), (.int (1 : Int32))] ∧ Z.Warmed39 U.vm ∧ U.heap = h0) (fun _ _ _ _ _ => True) (fun _ U o U' => ∃ v L, o = .returned v ∧ Q_rm_tob1 Z a1 k1 c0 h0 n0 v U'.heap L ∧ FrameEnd U o U' L ({ frames := 2, cells := 1, slots := 2, locals := 24 } : Room).cells ({ frames := 2, cells := 1, slots := 2, locals := 24 } : Room).slots) := by
  refine MetFree.of_bodySF (plainFor_of_name pn_java_lang_StringUTF16) hisR ?_
  intro p e s m args below meth c s₁ Bd hml0 hP hK
  obtain ⟨rfl, hZ, hh⟩ := hP
  have hx := Bd.exec
  have hby := Bd.bytes
  have hml : c.maxLocals = 5 := hml0
  have hown : s.vm.findClass "java/lang/StringUTF16" = some m.cls := findClass_of_methodNamed Bd.named
  have hnm := (name_of_methodNamed Bd.named Bd.method).1
  have X0 : Stand p l e ({ frames := 2, cells := 1, slots := 2, locals := 24 } : Room) s m #[(.ref a1), (.int (0 : Int32)), (.int (1 : Int32))] below meth c s₁ [] 0 0 := Stand.of_body Bd
  have e0 : s₁.heap = h0 := by rw [← hh, Bd.state]; rfl
  have N0 := Fr.nil n0
  have pre0 : oL p e below s₁ (mkF m 0 #[oR a1, oI 0, oI 1, oU, oU] []) s₁ (entryFrame m #[(.ref a1), (.int (0 : Int32)), (.int (1 : Int32))] 5) := fun t k => castTop (by first | (simp [entryFrame, mkF, argsToLocals, Value.category]; done) | rfl) k
  have pre11 : oL p e below s₁ (mkF m 1 #[oR a1, oI 0, oI 1, oU, oU] [oi 1]) s₁ (entryFrame m #[(.ref a1), (.int (0 : Int32)), (.int (1 : Int32))] 5) := fun t k => pre0 t (by
    refine XS.iloadN X0.here hx rfl (hb hby d11_0) rfl ?_
    exact k)
  obtain ⟨_, _, ⟨T12, L12, k12, n12⟩, -, X12, ⟨Lc12, hQ12, l12, y12, z12⟩, st12⟩ := Jvm.LawKit.callS X0 hx (y := (⟨"java/lang/StringUTF16", "newBytesFor", "(I)[B"⟩ : MethodName)) hown (mvT hZ (oW hw 63 rfl)) (mvT hZ (oW hw 64 rfl)) (mvT hZ (oW hw 24 rfl)) (mvT hZ (oW hw 65 rfl)) (by decide) (backOf (W := 0) (rm_nbf1 l Z a0 hw []  h0 n0 OL ) hZ (oW hw 65 rfl) (oW hw 24 rfl) (by decide) (by decide)) (g := (mkF m 1 #[oR a1, oI 0, oI 1, oU, oU] [oi 1])) rfl (by rw [hml]; rfl) (argsL := [(.int (1 : Int32))]) (rest := []) (lenOf pd__I__B rfl) rfl (by show 2 * 0 + _ ≤ _; exact Nat.le_of_eq rfl) (hb hby d11_1) (fun _ _ => ⟨rfl, e0, (by decide : 0 + 1 ≤ _), (by decide : 0 + 2 ≤ _)⟩)
  dsimp only [Pt.U, Pt.locs, Pt.cells, Pt.slots] at X12 l12 y12 z12 st12 hQ12
  subst l12 y12 z12
  obtain ⟨r12, kr12, rfl, N12q, Kq12, sq12, Va12⟩ := hQ12
  have N12 := Fr.app N0 N12q
  have ne13 : a1 ≠ r12 := Nat.ne_of_lt (Nat.lt_of_lt_of_le V1.lt sq12)
  have ge_r12 : n0 ≤ r12 := Nat.le_trans (OL.1 ▸ OL.2.1) sq12
  have sz_r12 : h0.size ≤ r12 := Nat.le_trans (Keep.refl h0 []).1 sq12
  have f14 := V1.keep Kq12 nin0
  have OL15 := OL.keep Kq12 all0
  have K16 : Keep h0 T12.heap [] := (Keep.refl h0 []).trans Kq12 all0
  have pre17 : oL p e below T12 (mkF m 19 #[oR a1, oI 0, oI 1, oR r12, oI 0] [oi 0, ow a1, oi 0, ow r12]) s₁ (entryFrame m #[(.ref a1), (.int (0 : Int32)), (.int (1 : Int32))] 5) := fun t k => pre11 t (by
    refine st12 _ ?_
    refine XS.astoreN X12.here hx rfl (hb hby d11_4) rfl rfl (l' := #[oR a1, oI 0, oI 1, oR r12, oU]) rfl ?_
    refine XS.iconst X12.here hx rfl (hb hby d11_5) ?_
    show oS p e below T12 (mkF m 6 #[oR a1, oI 0, oI 1, oR r12, oU] [oi 0]) _
    refine XS.istore X12.here hx rfl (hb hby d11_6) rfl (l' := #[oR a1, oI 0, oI 1, oR r12, oI 0]) rfl ?_
    refine XS.iload X12.here hx rfl (hb hby d11_8) rfl ?_
    refine XS.iloadN X12.here hx rfl (hb hby d11_10) rfl ?_
    refine XS.icmpNo X12.here hx rfl (hb hby d11_11) rfl (tlt (by decide : (0 : Int32) < (1 : Int32))).2.1 ?_
    show oS p e below T12 (mkF m 14 #[oR a1, oI 0, oI 1, oR r12, oI 0] []) _
    refine XS.aloadN X12.here hx rfl (hb hby d11_14) rfl rfl ?_
    refine XS.iload X12.here hx rfl (hb hby d11_15) rfl ?_
    refine XS.aloadN X12.here hx rfl (hb hby d11_17) rfl rfl ?_
    refine XS.iloadN X12.here hx rfl (hb hby d11_18) rfl ?_
    show oS p e below T12 (mkF m 19 #[oR a1, oI 0, oI 1, oR r12, oI 0] [oi 0, ow a1, oi 0, ow r12]) _
    exact k)
  obtain ⟨cl18, Ar18, qc18, Sz18, Nn18, Hs18, Gs18⟩ := id f14
  have hin18 := inb_of (j := (0 : Int32)) Sz18 ⟨by decide, by decide⟩
  have pre19 : oL p e below T12 (mkF m 20 #[oR a1, oI 0, oI 1, oR r12, oI 0] [oi c0, oi 0, ow r12]) s₁ (entryFrame m #[(.ref a1), (.int (0 : Int32)), (.int (1 : Int32))] 5) := fun t k => pre17 t (by
    refine X12.caload hx (j := (0 : Int32)) (v := (.int c0)) (Ar18.1) (State.isArrayOf_alike hZ.alike Ar18.2.1) Ar18.2.2 hin18 (Hs18.at hin18 rfl) (g := (mkF m 19 #[oR a1, oI 0, oI 1, oR r12, oI 0] [oi 0, ow a1, oi 0, ow r12])) rfl rfl (hb hby d11_19) _ ?_
    exact k)
  obtain ⟨_, _, ⟨T20, L20, k20, n20⟩, -, X20, ⟨Lc20, hQ20, l20, y20, z20⟩, st20⟩ := Jvm.LawKit.callS X12 hx (y := (⟨"java/lang/StringUTF16", "putChar", "([BII)V"⟩ : MethodName)) hown (mvT hZ (oW hw 70 rfl)) (mvT hZ (oW hw 71 rfl)) (mvT hZ (oW hw 24 rfl)) (mvT hZ (oW hw 72 rfl)) (by decide) (backOf (W := 0) (rm_put1_0 l Z a0 hw [] r12 kr12 c0 (0 : Int32) (0 : Int32) T12.heap n0 OL15 AD HB LB ge_r12 Va12) hZ (oW hw 72 rfl) (oW hw 24 rfl) (by decide) (by decide)) (g := (mkF m 20 #[oR a1, oI 0, oI 1, oR r12, oI 0] [oi c0, oi 0, ow r12])) rfl (by rw [hml]; rfl) (argsL := [(.ref r12), (.int (0 : Int32)), (.int c0)]) (rest := []) (lenOf pd___BII_V rfl) rfl (by show 2 * 0 + _ ≤ _; exact Nat.le_of_eq rfl) (hb hby d11_20) (fun _ _ => ⟨rfl, rfl, (by decide : 1 + 0 ≤ _), (by decide : 2 + 0 ≤ _)⟩)
  dsimp only [Pt.U, Pt.locs, Pt.cells, Pt.slots] at X20 l20 y20 z20 st20 hQ20
  subst l20 y20 z20
  obtain ⟨rfl, N20q, Kq20, Va20⟩ := hQ20
  have N20 := Fr.app N12 N20q
  have f21 := f14.keep Kq20 (ninS ne13 nin0)
  have OL22 := OL15.keep Kq20 (allS ge_r12 all0)
  have K23 : Keep h0 T20.heap [] := K16.trans Kq20 (allS (Or.inr sz_r12) all0)
  have pre24 : oL p e below T20 (mkF m 33 #[oR a1, oI 1, oI 1, oR r12, oI 1] [ow r12]) s₁ (entryFrame m #[(.ref a1), (.int (0 : Int32)), (.int (1 : Int32))] 5) := fun t k => pre19 t (by
    refine st20 _ ?_
    refine XS.iinc X20.here hx rfl (hb hby d11_23) rfl (l' := #[oR a1, oI 1, oI 1, oR r12, oI 0]) rfl ?_
    refine XS.iinc X20.here hx rfl (hb hby d11_26) rfl (l' := #[oR a1, oI 1, oI 1, oR r12, oI 1]) rfl ?_
    show oS p e below T20 (mkF m 29 #[oR a1, oI 1, oI 1, oR r12, oI 1] []) _
    refine XS.goto X20.here hx rfl (pc0 := 29) (pc' := 8) rfl (hb hby d11_29) (by decide) (by decide) ?_
    refine XS.iload X20.here hx rfl (hb hby d11_8) rfl ?_
    refine XS.iloadN X20.here hx rfl (hb hby d11_10) rfl ?_
    refine XS.icmpYes X20.here hx rfl (pc0 := 11) (pc' := 32) rfl (hb hby d11_11) rfl (flt (by decide : ¬ ((1 : Int32) < (1 : Int32)))).2.1 (by decide) (by decide) ?_
    show oS p e below T20 (mkF m 32 #[oR a1, oI 1, oI 1, oR r12, oI 1] []) _
    refine XS.aloadN X20.here hx rfl (hb hby d11_32) rfl rfl ?_
    exact k)
  obtain ⟨fs, hr, hrun, hended, hW, hsame⟩ := X20.leave (v := some (.ref r12)) (fun h => by rw [Bd.returns] at h; cases h)
  refine ⟨_, _, pre24 _ ?_, hrun, hended, _, _, rfl, ?_, ⟨_, rfl⟩, hW, hsame.mono (by decide) (by decide)⟩
  ·
    show oS p e below T20 (mkF m 33 #[oR a1, oI 1, oI 1, oR r12, oI 1] [ow r12]) _
    jvm_step X20.here [X20.here.top, hx, (hb hby d11_33), X20.method', Bd.returns, Value.isRef, FieldType.isReference]
    first | (intro acts; rw [hr _ acts rfl rfl rfl]) | rw [hr _ _ rfl rfl rfl]
    exact Steps.refl _
  ·
    show Q_rm_tob1 Z a1 k1 c0 h0 n0 _ T20.heap _
    exact ⟨r12, kr12, rfl, N20, K23, sz_r12, Va20⟩
theorem d15_0 : decode jdk_52_method_5_code 0 = .ok (.getstatic 44, 3) := by decide +kernel
theorem d15_3 : decode jdk_52_method_5_code 3 = .ok (.ifCond .ne 25, 3) := by decide +kernel
theorem d15_28 : decode jdk_52_method_5_code 28 = .ok (.iload_n 1, 1) := by decide +kernel
theorem d15_29 : decode jdk_52_method_5_code 29 = .ok (.iconst 1, 1) := by decide +kernel
theorem d15_30 : decode jdk_52_method_5_code 30 = .ok (.ishl, 1) := by decide +kernel
theorem d15_31 : decode jdk_52_method_5_code 31 = .ok (.istore_n 1, 1) := by decide +kernel
theorem d15_32 : decode jdk_52_method_5_code 32 = .ok (.aload_n 0, 1) := by decide +kernel
theorem d15_33 : decode jdk_52_method_5_code 33 = .ok (.iload_n 1, 1) := by decide +kernel
theorem d15_34 : decode jdk_52_method_5_code 34 = .ok (.iinc 1 1, 3) := by decide +kernel
theorem d15_37 : decode jdk_52_method_5_code 37 = .ok (.baload, 1) := by decide +kernel
theorem d15_38 : decode jdk_52_method_5_code 38 = .ok (.sipush 255, 3) := by decide +kernel
theorem d15_41 : decode jdk_52_method_5_code 41 = .ok (.iand, 1) := by decide +kernel
theorem d15_42 : decode jdk_52_method_5_code 42 = .ok (.getstatic 59, 3) := by decide +kernel
theorem d15_45 : decode jdk_52_method_5_code 45 = .ok (.ishl, 1) := by decide +kernel
theorem d15_46 : decode jdk_52_method_5_code 46 = .ok (.aload_n 0, 1) := by decide +kernel
theorem d15_47 : decode jdk_52_method_5_code 47 = .ok (.iload_n 1, 1) := by decide +kernel
theorem d15_48 : decode jdk_52_method_5_code 48 = .ok (.baload, 1) := by decide +kernel
theorem d15_49 : decode jdk_52_method_5_code 49 = .ok (.sipush 255, 3) := by decide +kernel
theorem d15_52 : decode jdk_52_method_5_code 52 = .ok (.iand, 1) := by decide +kernel
theorem d15_53 : decode jdk_52_method_5_code 53 = .ok (.getstatic 63, 3) := by decide +kernel
theorem d15_56 : decode jdk_52_method_5_code 56 = .ok (.ishl, 1) := by decide +kernel
theorem d15_57 : decode jdk_52_method_5_code 57 = .ok (.ior, 1) := by decide +kernel
theorem d15_58 : decode jdk_52_method_5_code 58 = .ok (.i2c, 1) := by decide +kernel
theorem d15_59 : decode jdk_52_method_5_code 59 = .ok (.ireturn, 1) := by decide +kernel
def Q_rm_get1_0 (Z : State) (t1 : Addr) (k1 : ClassId) (y0 : Int32) (y1 : Int32) (h0 : Heap) (n0 : Nat) (v : Option Value) (h : Heap) (L : List Loc) : Prop := v = some (.int (own_gc y0 y1)) ∧ Fr n0 L ∧ h = h0
set_option maxRecDepth 65536 in
set_option maxHeartbeats 40000000 in
theorem rm_get1_0 (l : Launch) (Z : State) (a0 : Array Value) (hw : ∀ d ∈ tables_1, d.before a0 Z = true) (ws : List Jvm.Cond) (t1 : Addr) (k1 : ClassId) (y0 : Int32) (y1 : Int32) (h0 : Heap) (n0 : Nat) (OL : Old Z n0 h0) (AD : Sta Z Z.heap "java/lang/StringUTF16" "$assertionsDisabled" "Z" (.int (1 : Int32))) (HB : Sta Z Z.heap "java/lang/StringUTF16" "HI_BYTE_SHIFT" "I" (.int (0 : Int32))) (LB : Sta Z Z.heap "java/lang/StringUTF16" "LO_BYTE_SHIFT" "I" (.int (8 : Int32))) (V1 : Arv Z h0 t1 k1 .byte (2 : Int32) [(.int y0), (.int y1)] (.int (0 : Int32))) :
    MetFree l (⟨"java/lang/StringUTF16", "getChar", "([BI)C"⟩ : MethodName) (head1 (Jvm.Cond.code (⟨"java/lang/StringUTF16", "getChar", "([BI)C"⟩ : MethodName) jdk_52_method_5_code 2 (some .char) :: ws) ({ frames := 0, cells := 0, slots := 0, locals := 0 } : Room)) (fun a U => a = #[(.ref t1), (.int (0 : Int32))] ∧ Z.Warmed39 U.vm ∧ U.heap = h0) (fun _ _ _ _ _ => True) (fun _ U o U' => ∃ v L, o = .returned v ∧ Q_rm_get1_0 Z t1 k1 y0 y1 h0 n0 v U'.heap L ∧ FrameEnd U o U' L ({ frames := 0, cells := 0, slots := 0, locals := 0 } : Room).cells ({ frames := 0, cells := 0, slots := 0, locals := 0 } : Room).slots) := by
  refine MetFree.of_bodySF (plainFor_of_name pn_java_lang_StringUTF16) hisR ?_
  intro p e s m args below meth c s₁ Bd hml0 hP hK
  obtain ⟨rfl, hZ, hh⟩ := hP
  have hx := Bd.exec
  have hby := Bd.bytes
  have hml : c.maxLocals = 2 := hml0
  have hown : s.vm.findClass "java/lang/StringUTF16" = some m.cls := findClass_of_methodNamed Bd.named
  have hnm := (name_of_methodNamed Bd.named Bd.method).1
  have X0 : Stand p l e ({ frames := 0, cells := 0, slots := 0, locals := 0 } : Room) s m #[(.ref t1), (.int (0 : Int32))] below meth c s₁ [] 0 0 := Stand.of_body Bd
  have e0 : s₁.heap = h0 := by rw [← hh, Bd.state]; rfl
  have N0 := Fr.nil n0
  have pre0 : oL p e below s₁ (mkF m 0 #[oR t1, oI 0] []) s₁ (entryFrame m #[(.ref t1), (.int (0 : Int32))] 2) := fun t k => castTop (by first | (simp [entryFrame, mkF, argsToLocals, Value.category]; done) | rfl) k
  obtain ⟨T11, X11, e11, st11⟩ := getS2 X0 hx hZ hown (host := "") (Or.inl (oW hw 73 rfl)) Via.refl e0 (AD.ext OL.2) (g := (mkF m 0 #[oR t1, oI 0] [])) rfl (hb hby d15_0)
  have pre12 : oL p e below T11 (mkF m 37 #[oR t1, oI 1] [oi 0, ow t1]) s₁ (entryFrame m #[(.ref t1), (.int (0 : Int32))] 2) := fun t k => pre0 t (by
    refine st11 _ ?_
    refine XS.ifYes X11.here hx rfl (pc0 := 3) (pc' := 28) rfl (hb hby d15_3) rfl ((if0 _ _).trans (feq (by decide : ¬ ((1 : Int32) = (0 : Int32)))).2) (by decide) (by decide) ?_
    refine XS.iloadN X11.here hx rfl (hb hby d15_28) rfl ?_
    refine XS.iconst X11.here hx rfl (hb hby d15_29) ?_
    show oS p e below T11 (mkF m 30 #[oR t1, oI 0] [oi 1, oi 0]) _
    refine XS.ishl X11.here hx rfl (hb hby d15_30) rfl ?_
    refine XS.istoreN X11.here hx rfl (hb hby d15_31) rfl (l' := #[oR t1, oI 0]) rfl ?_
    refine XS.aloadN X11.here hx rfl (hb hby d15_32) rfl rfl ?_
    refine XS.iloadN X11.here hx rfl (hb hby d15_33) rfl ?_
    show oS p e below T11 (mkF m 34 #[oR t1, oI 0] [oi 0, ow t1]) _
    refine XS.iinc X11.here hx rfl (hb hby d15_34) rfl (l' := #[oR t1, oI 1]) rfl ?_
    exact k)
  obtain ⟨cl13, Ar13, qc13, Sz13, Nn13, Hs13, Gs13⟩ := id V1
  have hin13 := inb_of (j := (0 : Int32)) Sz13 ⟨by decide, by decide⟩
  have pre14 : oL p e below T11 (mkF m 42 #[oR t1, oI 1] [oi (y0 &&& (255 : Int32))]) s₁ (entryFrame m #[(.ref t1), (.int (0 : Int32))] 2) := fun t k => pre12 t (by
    refine X11.baloadBytes hx (j := (0 : Int32)) (v := (.int y0)) (by rw [e11]; exact Ar13.1) (State.isArrayOf_alike hZ.alike Ar13.2.1) Ar13.2.2 hin13 (Hs13.at hin13 rfl) (g := (mkF m 37 #[oR t1, oI 1] [oi 0, ow t1])) rfl rfl (hb hby d15_37) _ ?_
    refine XS.sipush X11.here hx rfl (hb hby d15_38) ?_
    refine XS.iand X11.here hx rfl (hb hby d15_41) rfl ?_
    show oS p e below T11 (mkF m 42 #[oR t1, oI 1] [oi (y0 &&& (255 : Int32))]) _
    exact k)
  obtain ⟨T15, X15, e15, st15⟩ := getS2 X11 hx hZ hown (host := "") (Or.inl (oW hw 74 rfl)) Via.refl e11 (HB.ext OL.2) (g := (mkF m 42 #[oR t1, oI 1] [oi (y0 &&& (255 : Int32))])) rfl (hb hby d15_42)
  have pre16 : oL p e below T15 (mkF m 48 #[oR t1, oI 1] [oi 1, ow t1, oi ((y0 &&& (255 : Int32)) <<< ((0 : Int32) &&& 31))]) s₁ (entryFrame m #[(.ref t1), (.int (0 : Int32))] 2) := fun t k => pre14 t (by
    refine st15 _ ?_
    refine XS.ishl X15.here hx rfl (hb hby d15_45) rfl ?_
    refine XS.aloadN X15.here hx rfl (hb hby d15_46) rfl rfl ?_
    refine XS.iloadN X15.here hx rfl (hb hby d15_47) rfl ?_
    show oS p e below T15 (mkF m 48 #[oR t1, oI 1] [oi 1, ow t1, oi ((y0 &&& (255 : Int32)) <<< ((0 : Int32) &&& 31))]) _
    exact k)
  obtain ⟨cl17, Ar17, qc17, Sz17, Nn17, Hs17, Gs17⟩ := id V1
  have hin17 := inb_of (j := (1 : Int32)) Sz17 ⟨by decide, by decide⟩
  have pre18 : oL p e below T15 (mkF m 53 #[oR t1, oI 1] [oi (y1 &&& (255 : Int32)), oi ((y0 &&& (255 : Int32)) <<< ((0 : Int32) &&& 31))]) s₁ (entryFrame m #[(.ref t1), (.int (0 : Int32))] 2) := fun t k => pre16 t (by
    refine X15.baloadBytes hx (j := (1 : Int32)) (v := (.int y1)) (by rw [e15]; exact Ar17.1) (State.isArrayOf_alike hZ.alike Ar17.2.1) Ar17.2.2 hin17 (Hs17.at hin17 rfl) (g := (mkF m 48 #[oR t1, oI 1] [oi 1, ow t1, oi ((y0 &&& (255 : Int32)) <<< ((0 : Int32) &&& 31))])) rfl rfl (hb hby d15_48) _ ?_
    refine XS.sipush X15.here hx rfl (hb hby d15_49) ?_
    refine XS.iand X15.here hx rfl (hb hby d15_52) rfl ?_
    exact k)
  obtain ⟨T19, X19, e19, st19⟩ := getS2 X15 hx hZ hown (host := "") (Or.inl (oW hw 75 rfl)) Via.refl e15 (LB.ext OL.2) (g := (mkF m 53 #[oR t1, oI 1] [oi (y1 &&& (255 : Int32)), oi ((y0 &&& (255 : Int32)) <<< ((0 : Int32) &&& 31))])) rfl (hb hby d15_53)
  have pre20 : oL p e below T19 (mkF m 59 #[oR t1, oI 1] [oi ((((y0 &&& (255 : Int32)) <<< ((0 : Int32) &&& 31)) ||| ((y1 &&& (255 : Int32)) <<< ((8 : Int32) &&& 31))).toUInt32.toUInt16.toUInt32.toInt32)]) s₁ (entryFrame m #[(.ref t1), (.int (0 : Int32))] 2) := fun t k => pre18 t (by
    refine st19 _ ?_
    show oS p e below T19 (mkF m 56 #[oR t1, oI 1] [oi 8, oi (y1 &&& (255 : Int32)), oi ((y0 &&& (255 : Int32)) <<< ((0 : Int32) &&& 31))]) _
    refine XS.ishl X19.here hx rfl (hb hby d15_56) rfl ?_
    refine XS.ior X19.here hx rfl (hb hby d15_57) rfl ?_
    refine XS.i2c X19.here hx rfl (hb hby d15_58) rfl ?_
    exact k)
  obtain ⟨fs, hr, hrun, hended, hW, hsame⟩ := X19.leave (v := some (.int (nar .char ((((y0 &&& (255 : Int32)) <<< ((0 : Int32) &&& 31)) ||| ((y1 &&& (255 : Int32)) <<< ((8 : Int32) &&& 31))).toUInt32.toUInt16.toUInt32.toInt32)))) (fun h => by rw [Bd.returns] at h; cases h)
  refine ⟨_, _, pre20 _ ?_, hrun, hended, _, _, rfl, ?_, ⟨_, rfl⟩, hW, hsame.mono (by decide) (by decide)⟩
  ·
    show oS p e below T19 (mkF m 59 #[oR t1, oI 1] [oi ((((y0 &&& (255 : Int32)) <<< ((0 : Int32) &&& 31)) ||| ((y1 &&& (255 : Int32)) <<< ((8 : Int32) &&& 31))).toUInt32.toUInt16.toUInt32.toInt32)]) _
    exact retN X19 hx (t := .char) Bd.returns (by simp) (hb hby d15_59) hr
  ·
    show Q_rm_get1_0 Z t1 k1 y0 y1 h0 n0 _ T19.heap _
    rw [e19]
    exact ⟨rfl, N0, rfl⟩
theorem d7_0 : decode jdk_52_method_15_code 0 = .ok (.iload_n 1, 1) := by decide +kernel
theorem d7_1 : decode jdk_52_method_15_code 1 = .ok (.aload_n 0, 1) := by decide +kernel
theorem d7_2 : decode jdk_52_method_15_code 2 = .ok (.arraylength, 1) := by decide +kernel
theorem d7_3 : decode jdk_52_method_15_code 3 = .ok (.isub, 1) := by decide +kernel
theorem d7_4 : decode jdk_52_method_15_code 4 = .ok (.bipush 31, 2) := by decide +kernel
theorem d7_6 : decode jdk_52_method_15_code 6 = .ok (.iushr, 1) := by decide +kernel
theorem d7_7 : decode jdk_52_method_15_code 7 = .ok (.i2b, 1) := by decide +kernel
theorem d7_8 : decode jdk_52_method_15_code 8 = .ok (.ireturn, 1) := by decide +kernel
def Q_rm_cfl1 (Z : State) (t1 : Addr) (k1 : ClassId) (y0 : Int32) (y1 : Int32) (h0 : Heap) (n0 : Nat) (v : Option Value) (h : Heap) (L : List Loc) : Prop := v = some (.int (1 : Int32)) ∧ Fr n0 L ∧ h = h0
set_option maxRecDepth 65536 in
set_option maxHeartbeats 40000000 in
theorem rm_cfl1 (l : Launch) (Z : State) (a0 : Array Value) (hw : ∀ d ∈ tables_1, d.before a0 Z = true) (ws : List Jvm.Cond) (t1 : Addr) (k1 : ClassId) (y0 : Int32) (y1 : Int32) (h0 : Heap) (n0 : Nat) (OL : Old Z n0 h0) (V1 : Arv Z h0 t1 k1 .byte (2 : Int32) [(.int y0), (.int y1)] (.int (0 : Int32))) :
    MetFree l (⟨"java/lang/StringUTF16", "coderFromArrayLen", "([BI)B"⟩ : MethodName) (head1 (Jvm.Cond.code (⟨"java/lang/StringUTF16", "coderFromArrayLen", "([BI)B"⟩ : MethodName) jdk_52_method_15_code 2 (some .byte) :: ws) ({ frames := 0, cells := 0, slots := 0, locals := 0 } : Room)) (fun a U => a = #[(.ref t1), (.int (1 : Int32))] ∧ Z.Warmed39 U.vm ∧ U.heap = h0) (fun _ _ _ _ _ => True) (fun _ U o U' => ∃ v L, o = .returned v ∧ Q_rm_cfl1 Z t1 k1 y0 y1 h0 n0 v U'.heap L ∧ FrameEnd U o U' L ({ frames := 0, cells := 0, slots := 0, locals := 0 } : Room).cells ({ frames := 0, cells := 0, slots := 0, locals := 0 } : Room).slots) := by
  refine MetFree.of_bodySF (plainFor_of_name pn_java_lang_StringUTF16) hisR ?_
  intro p e s m args below meth c s₁ Bd hml0 hP hK
  obtain ⟨rfl, hZ, hh⟩ := hP
  have hx := Bd.exec
  have hby := Bd.bytes
  have hml : c.maxLocals = 2 := hml0
  have hown : s.vm.findClass "java/lang/StringUTF16" = some m.cls := findClass_of_methodNamed Bd.named
  have hnm := (name_of_methodNamed Bd.named Bd.method).1
  have X0 : Stand p l e ({ frames := 0, cells := 0, slots := 0, locals := 0 } : Room) s m #[(.ref t1), (.int (1 : Int32))] below meth c s₁ [] 0 0 := Stand.of_body Bd
  have e0 : s₁.heap = h0 := by rw [← hh, Bd.state]; rfl
  have N0 := Fr.nil n0
  have pre0 : oL p e below s₁ (mkF m 0 #[oR t1, oI 1] []) s₁ (entryFrame m #[(.ref t1), (.int (1 : Int32))] 2) := fun t k => castTop (by first | (simp [entryFrame, mkF, argsToLocals, Value.category]; done) | rfl) k
  have pre12 : oL p e below s₁ (mkF m 2 #[oR t1, oI 1] [ow t1, oi 1]) s₁ (entryFrame m #[(.ref t1), (.int (1 : Int32))] 2) := fun t k => pre0 t (by
    refine XS.iloadN X0.here hx rfl (hb hby d7_0) rfl ?_
    refine XS.aloadN X0.here hx rfl (hb hby d7_1) rfl rfl ?_
    exact k)
  obtain ⟨cl11, Ar11, -, Sz11, Nn11, -, -⟩ := id V1
  have pre13 : oL p e below s₁ (mkF m 8 #[oR t1, oI 1] [oi 1]) s₁ (entryFrame m #[(.ref t1), (.int (1 : Int32))] 2) := fun t k => pre12 t (by
    refine X0.arraylength hx (by rw [e0]; exact Ar11.1) (State.isArrayOf_alike hZ.alike Ar11.2.1) (g := (mkF m 2 #[oR t1, oI 1] [ow t1, oi 1])) rfl rfl (hb hby d7_2) _ ?_
    rw [len_of Sz11 Nn11]
    refine XS.isub X0.here hx rfl (hb hby d7_3) rfl ?_
    show oS p e below s₁ (mkF m 4 #[oR t1, oI 1] [oi (-1)]) _
    refine XS.bipush X0.here hx rfl (hb hby d7_4) ?_
    refine XS.iushr X0.here hx rfl (hb hby d7_6) rfl ?_
    refine XS.i2b X0.here hx rfl (hb hby d7_7) rfl ?_
    exact k)
  obtain ⟨fs, hr, hrun, hended, hW, hsame⟩ := X0.leave (v := some (.int (1 : Int32))) (fun h => by rw [Bd.returns] at h; cases h)
  refine ⟨_, _, pre13 _ ?_, hrun, hended, _, _, rfl, ?_, ⟨_, rfl⟩, hW, hsame.mono (by decide) (by decide)⟩
  ·
    show oS p e below s₁ (mkF m 8 #[oR t1, oI 1] [oi 1]) _
    exact retN X0 hx (t := .byte) Bd.returns (by simp) (hb hby d7_8) hr
  ·
    show Q_rm_cfl1 Z t1 k1 y0 y1 h0 n0 _ s₁.heap _
    rw [e0]
    exact ⟨rfl, N0, rfl⟩
def Q_rm_cfl1L (Z : State) (t1 : Addr) (k1 : ClassId) (z0 : Int32) (h0 : Heap) (n0 : Nat) (v : Option Value) (h : Heap) (L : List Loc) : Prop := v = some (.int (0 : Int32)) ∧ Fr n0 L ∧ h = h0
set_option maxRecDepth 65536 in
set_option maxHeartbeats 40000000 in
theorem rm_cfl1L (l : Launch) (Z : State) (a0 : Array Value) (hw : ∀ d ∈ tables_1, d.before a0 Z = true) (ws : List Jvm.Cond) (t1 : Addr) (k1 : ClassId) (z0 : Int32) (h0 : Heap) (n0 : Nat) (OL : Old Z n0 h0) (V1 : Arv Z h0 t1 k1 .byte (1 : Int32) [(.int z0)] (.int (0 : Int32))) :
    MetFree l (⟨"java/lang/StringUTF16", "coderFromArrayLen", "([BI)B"⟩ : MethodName) (head1 (Jvm.Cond.code (⟨"java/lang/StringUTF16", "coderFromArrayLen", "([BI)B"⟩ : MethodName) jdk_52_method_15_code 2 (some .byte) :: ws) ({ frames := 0, cells := 0, slots := 0, locals := 0 } : Room)) (fun a U => a = #[(.ref t1), (.int (1 : Int32))] ∧ Z.Warmed39 U.vm ∧ U.heap = h0) (fun _ _ _ _ _ => True) (fun _ U o U' => ∃ v L, o = .returned v ∧ Q_rm_cfl1L Z t1 k1 z0 h0 n0 v U'.heap L ∧ FrameEnd U o U' L ({ frames := 0, cells := 0, slots := 0, locals := 0 } : Room).cells ({ frames := 0, cells := 0, slots := 0, locals := 0 } : Room).slots) := by
  refine MetFree.of_bodySF (plainFor_of_name pn_java_lang_StringUTF16) hisR ?_
  intro p e s m args below meth c s₁ Bd hml0 hP hK
  obtain ⟨rfl, hZ, hh⟩ := hP
  have hx := Bd.exec
  have hby := Bd.bytes
  have hml : c.maxLocals = 2 := hml0
  have hown : s.vm.findClass "java/lang/StringUTF16" = some m.cls := findClass_of_methodNamed Bd.named
  have hnm := (name_of_methodNamed Bd.named Bd.method).1
  have X0 : Stand p l e ({ frames := 0, cells := 0, slots := 0, locals := 0 } : Room) s m #[(.ref t1), (.int (1 : Int32))] below meth c s₁ [] 0 0 := Stand.of_body Bd
  have e0 : s₁.heap = h0 := by rw [← hh, Bd.state]; rfl
  have N0 := Fr.nil n0
  have pre0 : oL p e below s₁ (mkF m 0 #[oR t1, oI 1] []) s₁ (entryFrame m #[(.ref t1), (.int (1 : Int32))] 2) := fun t k => castTop (by first | (simp [entryFrame, mkF, argsToLocals, Value.category]; done) | rfl) k
  have pre12 : oL p e below s₁ (mkF m 2 #[oR t1, oI 1] [ow t1, oi 1]) s₁ (entryFrame m #[(.ref t1), (.int (1 : Int32))] 2) := fun t k => pre0 t (by
    refine XS.iloadN X0.here hx rfl (hb hby d7_0) rfl ?_
    refine XS.aloadN X0.here hx rfl (hb hby d7_1) rfl rfl ?_
    exact k)
  obtain ⟨cl11, Ar11, -, Sz11, Nn11, -, -⟩ := id V1
  have pre13 : oL p e below s₁ (mkF m 8 #[oR t1, oI 1] [oi 0]) s₁ (entryFrame m #[(.ref t1), (.int (1 : Int32))] 2) := fun t k => pre12 t (by
    refine X0.arraylength hx (by rw [e0]; exact Ar11.1) (State.isArrayOf_alike hZ.alike Ar11.2.1) (g := (mkF m 2 #[oR t1, oI 1] [ow t1, oi 1])) rfl rfl (hb hby d7_2) _ ?_
    rw [len_of Sz11 Nn11]
    refine XS.isub X0.here hx rfl (hb hby d7_3) rfl ?_
    show oS p e below s₁ (mkF m 4 #[oR t1, oI 1] [oi 0]) _
    refine XS.bipush X0.here hx rfl (hb hby d7_4) ?_
    refine XS.iushr X0.here hx rfl (hb hby d7_6) rfl ?_
    refine XS.i2b X0.here hx rfl (hb hby d7_7) rfl ?_
    exact k)
  obtain ⟨fs, hr, hrun, hended, hW, hsame⟩ := X0.leave (v := some (.int (0 : Int32))) (fun h => by rw [Bd.returns] at h; cases h)
  refine ⟨_, _, pre13 _ ?_, hrun, hended, _, _, rfl, ?_, ⟨_, rfl⟩, hW, hsame.mono (by decide) (by decide)⟩
  ·
    show oS p e below s₁ (mkF m 8 #[oR t1, oI 1] [oi 0]) _
    exact retN X0 hx (t := .byte) Bd.returns (by simp) (hb hby d7_8) hr
  ·
    show Q_rm_cfl1L Z t1 k1 z0 h0 n0 _ s₁.heap _
    rw [e0]
    exact ⟨rfl, N0, rfl⟩
theorem d6_0 : decode jdk_52_method_21_code 0 = .ok (.iconst 0, 1) := by decide +kernel
theorem d6_1 : decode jdk_52_method_21_code 1 = .ok (.istore 5, 2) := by decide +kernel
theorem d6_3 : decode jdk_52_method_21_code 3 = .ok (.iload 5, 2) := by decide +kernel
theorem d6_5 : decode jdk_52_method_21_code 5 = .ok (.iload 4, 2) := by decide +kernel
theorem d6_7 : decode jdk_52_method_21_code 7 = .ok (.if_icmp .ge 37, 3) := by decide +kernel
theorem d6_10 : decode jdk_52_method_21_code 10 = .ok (.aload_n 0, 1) := by decide +kernel
theorem d6_11 : decode jdk_52_method_21_code 11 = .ok (.iload_n 1, 1) := by decide +kernel
theorem d6_12 : decode jdk_52_method_21_code 12 = .ok (.caload, 1) := by decide +kernel
theorem d6_13 : decode jdk_52_method_21_code 13 = .ok (.istore 6, 2) := by decide +kernel
theorem d6_15 : decode jdk_52_method_21_code 15 = .ok (.iload 6, 2) := by decide +kernel
theorem d6_17 : decode jdk_52_method_21_code 17 = .ok (.sipush 255, 3) := by decide +kernel
theorem d6_20 : decode jdk_52_method_21_code 20 = .ok (.if_icmp .le 6, 3) := by decide +kernel
theorem d6_23 : decode jdk_52_method_21_code 23 = .ok (.iload 5, 2) := by decide +kernel
theorem d6_25 : decode jdk_52_method_21_code 25 = .ok (.ireturn, 1) := by decide +kernel
def Q_rm_c5_1_0 (Z : State) (a1 : Addr) (k1 : ClassId) (t1 : Addr) (k2 : ClassId) (c0 : Int32) (h0 : Heap) (n0 : Nat) (v : Option Value) (h : Heap) (L : List Loc) : Prop := v = some (.int (0 : Int32)) ∧ Fr n0 L ∧ Keep h0 h [t1]
set_option maxRecDepth 65536 in
set_option maxHeartbeats 40000000 in
theorem rm_c5_1_0 (l : Launch) (Z : State) (a0 : Array Value) (hw : ∀ d ∈ tables_1, d.before a0 Z = true) (ws : List Jvm.Cond) (a1 : Addr) (k1 : ClassId) (t1 : Addr) (k2 : ClassId) (c0 : Int32) (h0 : Heap) (n0 : Nat) (OL : Old Z n0 h0) (ge1 : n0 ≤ t1) (V1 : Arv Z h0 a1 k1 .char (1 : Int32) [(.int c0)] (.int (0 : Int32))) (V2 : Arv Z h0 t1 k2 .byte (1 : Int32) [(.int (0 : Int32))] (.int (0 : Int32))) (ne1 : a1 ≠ t1) (hg : (255 : Int32) < c0) :
    MetFree l (⟨"java/lang/StringUTF16", "compress", "([CI[BII)I"⟩ : MethodName) (head1 (Jvm.Cond.code (⟨"java/lang/StringUTF16", "compress", "([CI[BII)I"⟩ : MethodName) jdk_52_method_21_code 7 (some .int) :: ws) ({ frames := 0, cells := 0, slots := 0, locals := 0 } : Room)) (fun a U => a = #[(.ref a1), (.int (0 : Int32)), (.ref t1), (.int (0 : Int32)), (.int (1 : Int32))] ∧ Z.Warmed39 U.vm ∧ U.heap = h0) (fun _ _ _ _ _ => True) (fun _ U o U' => ∃ v L, o = .returned v ∧ Q_rm_c5_1_0 Z a1 k1 t1 k2 c0 h0 n0 v U'.heap L ∧ FrameEnd U o U' L ({ frames := 0, cells := 0, slots := 0, locals := 0 } : Room).cells ({ frames := 0, cells := 0, slots := 0, locals := 0 } : Room).slots) := by
  refine MetFree.of_bodySF (plainFor_of_name pn_java_lang_StringUTF16) hisR ?_
  intro p e s m args below meth c s₁ Bd hml0 hP hK
  obtain ⟨rfl, hZ, hh⟩ := hP
  have hx := Bd.exec
  have hby := Bd.bytes
  have hml : c.maxLocals = 7 := hml0
  have hown : s.vm.findClass "java/lang/StringUTF16" = some m.cls := findClass_of_methodNamed Bd.named
  have hnm := (name_of_methodNamed Bd.named Bd.method).1
  have X0 : Stand p l e ({ frames := 0, cells := 0, slots := 0, locals := 0 } : Room) s m #[(.ref a1), (.int (0 : Int32)), (.ref t1), (.int (0 : Int32)), (.int (1 : Int32))] below meth c s₁ [] 0 0 := Stand.of_body Bd
  have e0 : s₁.heap = h0 := by rw [← hh, Bd.state]; rfl
  have N0 := Fr.nil n0
  have pre0 : oL p e below s₁ (mkF m 0 #[oR a1, oI 0, oR t1, oI 0, oI 1, oU, oU] []) s₁ (entryFrame m #[(.ref a1), (.int (0 : Int32)), (.ref t1), (.int (0 : Int32)), (.int (1 : Int32))] 7) := fun t k => castTop (by first | (simp [entryFrame, mkF, argsToLocals, Value.category]; done) | rfl) k
  have pre11 : oL p e below s₁ (mkF m 12 #[oR a1, oI 0, oR t1, oI 0, oI 1, oI 0, oU] [oi 0, ow a1]) s₁ (entryFrame m #[(.ref a1), (.int (0 : Int32)), (.ref t1), (.int (0 : Int32)), (.int (1 : Int32))] 7) := fun t k => pre0 t (by
    refine XS.iconst X0.here hx rfl (hb hby d6_0) ?_
    refine XS.istore X0.here hx rfl (hb hby d6_1) rfl (l' := #[oR a1, oI 0, oR t1, oI 0, oI 1, oI 0, oU]) rfl ?_
    refine XS.iload X0.here hx rfl (hb hby d6_3) rfl ?_
    refine XS.iload X0.here hx rfl (hb hby d6_5) rfl ?_
    show oS p e below s₁ (mkF m 7 #[oR a1, oI 0, oR t1, oI 0, oI 1, oI 0, oU] [oi 1, oi 0]) _
    refine XS.icmpNo X0.here hx rfl (hb hby d6_7) rfl (tlt (by decide : (0 : Int32) < (1 : Int32))).2.1 ?_
    refine XS.aloadN X0.here hx rfl (hb hby d6_10) rfl rfl ?_
    refine XS.iloadN X0.here hx rfl (hb hby d6_11) rfl ?_
    exact k)
  obtain ⟨cl12, Ar12, qc12, Sz12, Nn12, Hs12, Gs12⟩ := id V1
  have hin12 := inb_of (j := (0 : Int32)) Sz12 ⟨by decide, by decide⟩
  have pre13 : oL p e below s₁ (mkF m 25 #[oR a1, oI 0, oR t1, oI 0, oI 1, oI 0, oI c0] [oi 0]) s₁ (entryFrame m #[(.ref a1), (.int (0 : Int32)), (.ref t1), (.int (0 : Int32)), (.int (1 : Int32))] 7) := fun t k => pre11 t (by
    refine X0.caload hx (j := (0 : Int32)) (v := (.int c0)) (by rw [e0]; exact Ar12.1) (State.isArrayOf_alike hZ.alike Ar12.2.1) Ar12.2.2 hin12 (Hs12.at hin12 rfl) (g := (mkF m 12 #[oR a1, oI 0, oR t1, oI 0, oI 1, oI 0, oU] [oi 0, ow a1])) rfl rfl (hb hby d6_12) _ ?_
    show oS p e below s₁ (mkF m 13 #[oR a1, oI 0, oR t1, oI 0, oI 1, oI 0, oU] [oi c0]) _
    refine XS.istore X0.here hx rfl (hb hby d6_13) rfl (l' := #[oR a1, oI 0, oR t1, oI 0, oI 1, oI 0, oI c0]) rfl ?_
    refine XS.iload X0.here hx rfl (hb hby d6_15) rfl ?_
    refine XS.sipush X0.here hx rfl (hb hby d6_17) ?_
    refine XS.icmpNo X0.here hx rfl (hb hby d6_20) rfl (tlt hg).2.2.2 ?_
    show oS p e below s₁ (mkF m 23 #[oR a1, oI 0, oR t1, oI 0, oI 1, oI 0, oI c0] []) _
    refine XS.iload X0.here hx rfl (hb hby d6_23) rfl ?_
    exact k)
  obtain ⟨fs, hr, hrun, hended, hW, hsame⟩ := X0.leave (v := some (.int (0 : Int32))) (fun h => by rw [Bd.returns] at h; cases h)
  refine ⟨_, _, pre13 _ ?_, hrun, hended, _, _, rfl, ?_, ⟨_, rfl⟩, hW, hsame.mono (by decide) (by decide)⟩
  ·
    show oS p e below s₁ (mkF m 25 #[oR a1, oI 0, oR t1, oI 0, oI 1, oI 0, oI c0] [oi 0]) _
    exact retI X0 hx Bd.returns (hb hby d6_25) hr
  ·
    show Q_rm_c5_1_0 Z a1 k1 t1 k2 c0 h0 n0 _ s₁.heap _
    rw [e0]
    exact ⟨rfl, N0, (Keep.refl h0 [t1])⟩
theorem d5_0 : decode jdk_52_method_16_code 0 = .ok (.iload_n 2, 1) := by decide +kernel
theorem d5_1 : decode jdk_52_method_16_code 1 = .ok (.newarray .byte, 2) := by decide +kernel
theorem d5_3 : decode jdk_52_method_16_code 3 = .ok (.astore_n 3, 1) := by decide +kernel
theorem d5_4 : decode jdk_52_method_16_code 4 = .ok (.aload_n 0, 1) := by decide +kernel
theorem d5_5 : decode jdk_52_method_16_code 5 = .ok (.iload_n 1, 1) := by decide +kernel
theorem d5_6 : decode jdk_52_method_16_code 6 = .ok (.aload_n 3, 1) := by decide +kernel
theorem d5_7 : decode jdk_52_method_16_code 7 = .ok (.iconst 0, 1) := by decide +kernel
theorem d5_8 : decode jdk_52_method_16_code 8 = .ok (.iload_n 2, 1) := by decide +kernel
theorem d5_9 : decode jdk_52_method_16_code 9 = .ok (.invokestatic 115, 3) := by decide +kernel
theorem pd___CI_BII_I : parseMethodDescriptor "([CI[BII)I" = some ⟨[(.array .char), .int, (.array .byte), .int, .int], some .int⟩ := by decide +kernel
theorem d5_12 : decode jdk_52_method_16_code 12 = .ok (.istore 4, 2) := by decide +kernel
theorem d5_14 : decode jdk_52_method_16_code 14 = .ok (.iload 4, 2) := by decide +kernel
theorem d5_16 : decode jdk_52_method_16_code 16 = .ok (.iload_n 2, 1) := by decide +kernel
theorem d5_17 : decode jdk_52_method_16_code 17 = .ok (.if_icmp .eq 40, 3) := by decide +kernel
theorem d5_20 : decode jdk_52_method_16_code 20 = .ok (.aload_n 0, 1) := by decide +kernel
theorem d5_21 : decode jdk_52_method_16_code 21 = .ok (.iload_n 1, 1) := by decide +kernel
theorem d5_22 : decode jdk_52_method_16_code 22 = .ok (.iload_n 2, 1) := by decide +kernel
theorem d5_23 : decode jdk_52_method_16_code 23 = .ok (.invokestatic 119, 3) := by decide +kernel
theorem pd___CII__B : parseMethodDescriptor "([CII)[B" = some ⟨[(.array .char), .int, .int], some (.array .byte)⟩ := by decide +kernel
theorem d5_26 : decode jdk_52_method_16_code 26 = .ok (.astore 5, 2) := by decide +kernel
theorem d5_28 : decode jdk_52_method_16_code 28 = .ok (.aload 5, 2) := by decide +kernel
theorem d5_30 : decode jdk_52_method_16_code 30 = .ok (.iload 4, 2) := by decide +kernel
theorem d5_32 : decode jdk_52_method_16_code 32 = .ok (.invokestatic 71, 3) := by decide +kernel
theorem pd___BI_C : parseMethodDescriptor "([BI)C" = some ⟨[(.array .byte), .int], some .char⟩ := by decide +kernel
theorem d5_35 : decode jdk_52_method_16_code 35 = .ok (.sipush 255, 3) := by decide +kernel
theorem d5_38 : decode jdk_52_method_16_code 38 = .ok (.if_icmp .gt 16, 3) := by decide +kernel
theorem d5_54 : decode jdk_52_method_16_code 54 = .ok (.aload 5, 2) := by decide +kernel
theorem d5_56 : decode jdk_52_method_16_code 56 = .ok (.areturn, 1) := by decide +kernel
def Q_rm_cmp_1_0 (Z : State) (a1 : Addr) (k1 : ClassId) (c0 : Int32) (h0 : Heap) (n0 : Nat) (v : Option Value) (h : Heap) (L : List Loc) : Prop := ∃ (r : Addr) (kr : ClassId), v = some (.ref r) ∧ Fr n0 L ∧ Keep h0 h [] ∧ h0.size ≤ r ∧ Arv Z h r kr .byte (2 : Int32) [(.int (own_hb c0)), (.int (own_lb c0))] (.int (0 : Int32))
set_option maxRecDepth 65536 in
set_option maxHeartbeats 40000000 in
theorem rm_cmp_1_0 (l : Launch) (Z : State) (a0 : Array Value) (hw : ∀ d ∈ tables_1, d.before a0 Z = true) (ws : List Jvm.Cond) (a1 : Addr) (k1 : ClassId) (c0 : Int32) (h0 : Heap) (n0 : Nat) (OL : Old Z n0 h0) (AD : Sta Z Z.heap "java/lang/StringUTF16" "$assertionsDisabled" "Z" (.int (1 : Int32))) (HB : Sta Z Z.heap "java/lang/StringUTF16" "HI_BYTE_SHIFT" "I" (.int (0 : Int32))) (LB : Sta Z Z.heap "java/lang/StringUTF16" "LO_BYTE_SHIFT" "I" (.int (8 : Int32))) (V1 : Arv Z h0 a1 k1 .char (1 : Int32) [(.int c0)] (.int (0 : Int32))) (hg : (255 : Int32) < c0) (nc0 : nar .char c0 = c0) :
    MetFree l (⟨"java/lang/StringUTF16", "compress", "([CII)[B"⟩ : MethodName) (head1 (Jvm.Cond.code (⟨"java/lang/StringUTF16", "compress", "([CII)[B"⟩ : MethodName) jdk_52_method_16_code 6 (some (.array .byte)) :: ws) ({ frames := 3, cells := 2, slots := 3, locals := 40 } : Room)) (fun a U => a = #[(.ref a1), (.int (0 : Int32)), (.int (1 : Int32))] ∧ Z.Warmed39 U.vm ∧ U.heap = h0) (fun _ _ _ _ _ => True) (fun _ U o U' => ∃ v L, o = .returned v ∧ Q_rm_cmp_1_0 Z a1 k1 c0 h0 n0 v U'.heap L ∧ FrameEnd U o U' L ({ frames := 3, cells := 2, slots := 3, locals := 40 } : Room).cells ({ frames := 3, cells := 2, slots := 3, locals := 40 } : Room).slots) := by
  refine MetFree.of_bodySF (plainFor_of_name pn_java_lang_StringUTF16) hisR ?_
  intro p e s m args below meth c s₁ Bd hml0 hP hK
  obtain ⟨rfl, hZ, hh⟩ := hP
  have hx := Bd.exec
  have hby := Bd.bytes
  have hml : c.maxLocals = 6 := hml0
  have hown : s.vm.findClass "java/lang/StringUTF16" = some m.cls := findClass_of_methodNamed Bd.named
  have hnm := (name_of_methodNamed Bd.named Bd.method).1
  have X0 : Stand p l e ({ frames := 3, cells := 2, slots := 3, locals := 40 } : Room) s m #[(.ref a1), (.int (0 : Int32)), (.int (1 : Int32))] below meth c s₁ [] 0 0 := Stand.of_body Bd
  have e0 : s₁.heap = h0 := by rw [← hh, Bd.state]; rfl
  have N0 := Fr.nil n0
  have pre0 : oL p e below s₁ (mkF m 0 #[oR a1, oI 0, oI 1, oU, oU, oU] []) s₁ (entryFrame m #[(.ref a1), (.int (0 : Int32)), (.int (1 : Int32))] 6) := fun t k => castTop (by first | (simp [entryFrame, mkF, argsToLocals, Value.category]; done) | rfl) k
  have pre11 : oL p e below s₁ (mkF m 1 #[oR a1, oI 0, oI 1, oU, oU, oU] [oi 1]) s₁ (entryFrame m #[(.ref a1), (.int (0 : Int32)), (.int (1 : Int32))] 6) := fun t k => pre0 t (by
    refine XS.iloadN X0.here hx rfl (hb hby d5_0) rfl ?_
    exact k)
  obtain ⟨T12, h12, k12, X12, e12, E12, A12, st12⟩ := newP X0 hx hZ (oW hw 26 rfl) e0 (g := (mkF m 1 #[oR a1, oI 0, oI 1, oU, oU, oU] [oi 1])) rfl (hb hby d5_1) rfl (by decide) (cap := 1) (by decide) (by decide) (by decide) (by decide)
  obtain ⟨b12, g12⟩ : ∃ z, z = h0.size := ⟨_, rfl⟩
  rw [← g12] at A12 st12
  have ne13 : a1 ≠ b12 := Nat.ne_of_lt (Nat.lt_of_lt_of_le V1.lt (Nat.le_of_eq g12.symm))
  have ge_b12 : n0 ≤ b12 := Nat.le_trans (OL.1 ▸ OL.2.1) (Nat.le_of_eq g12.symm)
  have sz_b12 : h0.size ≤ b12 := Nat.le_trans (Keep.refl h0 []).1 (Nat.le_of_eq g12.symm)
  have f14 := V1.ext E12
  have OL15 := OL.ext E12
  have K16 : Keep h0 h12 [] := (Keep.refl h0 []).ext E12
  have V12 : Arv Z h12 b12 k12 .byte (1 : Int32) [(.int (0 : Int32))] (.int (0 : Int32)) := (Arv.new A12 (by decide)).pad (pad_rep [] (.int (0 : Int32)) 1)
  have pre17 : oL p e below T12 (mkF m 9 #[oR a1, oI 0, oI 1, oR b12, oU, oU] [oi 1, oi 0, ow b12, oi 0, ow a1]) s₁ (entryFrame m #[(.ref a1), (.int (0 : Int32)), (.int (1 : Int32))] 6) := fun t k => pre11 t (by
    refine st12 _ ?_
    refine XS.astoreN X12.here hx rfl (hb hby d5_3) rfl rfl (l' := #[oR a1, oI 0, oI 1, oR b12, oU, oU]) rfl ?_
    refine XS.aloadN X12.here hx rfl (hb hby d5_4) rfl rfl ?_
    show oS p e below T12 (mkF m 5 #[oR a1, oI 0, oI 1, oR b12, oU, oU] [ow a1]) _
    refine XS.iloadN X12.here hx rfl (hb hby d5_5) rfl ?_
    refine XS.aloadN X12.here hx rfl (hb hby d5_6) rfl rfl ?_
    refine XS.iconst X12.here hx rfl (hb hby d5_7) ?_
    refine XS.iloadN X12.here hx rfl (hb hby d5_8) rfl ?_
    show oS p e below T12 (mkF m 9 #[oR a1, oI 0, oI 1, oR b12, oU, oU] [oi 1, oi 0, ow b12, oi 0, ow a1]) _
    exact k)
  obtain ⟨_, _, ⟨T18, L18, k18, n18⟩, -, X18, ⟨Lc18, hQ18, l18, y18, z18⟩, st18⟩ := Jvm.LawKit.callS X12 hx (y := (⟨"java/lang/StringUTF16", "compress", "([CI[BII)I"⟩ : MethodName)) hown (mvT hZ (oW hw 27 rfl)) (mvT hZ (oW hw 28 rfl)) (mvT hZ (oW hw 24 rfl)) (mvT hZ (oW hw 29 rfl)) (by decide) (backOf (W := 0) (rm_c5_1_0 l Z a0 hw [] a1 k1 b12 k12 c0 h12 n0 OL15 ge_b12 f14 V12 ne13  hg) hZ (oW hw 29 rfl) (oW hw 24 rfl) (by decide) (by decide)) (g := (mkF m 9 #[oR a1, oI 0, oI 1, oR b12, oU, oU] [oi 1, oi 0, ow b12, oi 0, ow a1])) rfl (by rw [hml]; rfl) (argsL := [(.ref a1), (.int (0 : Int32)), (.ref b12), (.int (0 : Int32)), (.int (1 : Int32))]) (rest := []) (lenOf pd___CI_BII_I rfl) rfl (by show 2 * 0 + _ ≤ _; exact Nat.le_of_eq rfl) (hb hby d5_9) (fun _ _ => ⟨rfl, e12, (by decide : 1 + 0 ≤ _), (by decide : 1 + 0 ≤ _)⟩)
  dsimp only [Pt.U, Pt.locs, Pt.cells, Pt.slots] at X18 l18 y18 z18 st18 hQ18
  subst l18 y18 z18
  obtain ⟨rfl, N18q, Kq18⟩ := hQ18
  have N18 := Fr.app N0 N18q
  have f19 := f14.keep Kq18 (ninS ne13 nin0)
  have OL20 := OL15.keep Kq18 (allS ge_b12 all0)
  have K21 : Keep h0 T18.heap [] := K16.trans Kq18 (allS (Or.inr sz_b12) all0)
  have pre22 : oL p e below T18 (mkF m 23 #[oR a1, oI 0, oI 1, oR b12, oI 0, oU] [oi 1, oi 0, ow a1]) s₁ (entryFrame m #[(.ref a1), (.int (0 : Int32)), (.int (1 : Int32))] 6) := fun t k => pre17 t (by
    refine st18 _ ?_
    refine XS.istore X18.here hx rfl (hb hby d5_12) rfl (l' := #[oR a1, oI 0, oI 1, oR b12, oI 0, oU]) rfl ?_
    refine XS.iload X18.here hx rfl (hb hby d5_14) rfl ?_
    refine XS.iloadN X18.here hx rfl (hb hby d5_16) rfl ?_
    show oS p e below T18 (mkF m 17 #[oR a1, oI 0, oI 1, oR b12, oI 0, oU] [oi 1, oi 0]) _
    refine XS.icmpNo X18.here hx rfl (hb hby d5_17) rfl (feq (by decide : ¬ ((0 : Int32) = (1 : Int32)))).1 ?_
    refine XS.aloadN X18.here hx rfl (hb hby d5_20) rfl rfl ?_
    refine XS.iloadN X18.here hx rfl (hb hby d5_21) rfl ?_
    refine XS.iloadN X18.here hx rfl (hb hby d5_22) rfl ?_
    show oS p e below T18 (mkF m 23 #[oR a1, oI 0, oI 1, oR b12, oI 0, oU] [oi 1, oi 0, ow a1]) _
    exact k)
  obtain ⟨_, _, ⟨T23, L23, k23, n23⟩, -, X23, ⟨Lc23, hQ23, l23, y23, z23⟩, st23⟩ := Jvm.LawKit.callS X18 hx (y := (⟨"java/lang/StringUTF16", "toBytes", "([CII)[B"⟩ : MethodName)) hown (mvT hZ (oW hw 60 rfl)) (mvT hZ (oW hw 61 rfl)) (mvT hZ (oW hw 24 rfl)) (mvT hZ (oW hw 62 rfl)) (by decide) (backOf (W := 0) (rm_tob1 l Z a0 hw [] a1 k1 c0 T18.heap n0 OL20 AD HB LB f19) hZ (oW hw 62 rfl) (oW hw 24 rfl) (by decide) (by decide)) (g := (mkF m 23 #[oR a1, oI 0, oI 1, oR b12, oI 0, oU] [oi 1, oi 0, ow a1])) rfl (by rw [hml]; rfl) (argsL := [(.ref a1), (.int (0 : Int32)), (.int (1 : Int32))]) (rest := []) (lenOf pd___CII__B rfl) rfl (by show 2 * 0 + _ ≤ _; exact Nat.le_of_eq rfl) (hb hby d5_23) (fun _ _ => ⟨rfl, rfl, (by decide : 1 + 1 ≤ _), (by decide : 1 + 2 ≤ _)⟩)
  dsimp only [Pt.U, Pt.locs, Pt.cells, Pt.slots] at X23 l23 y23 z23 st23 hQ23
  subst l23 y23 z23
  obtain ⟨r23, kr23, rfl, N23q, Kq23, sq23, Va23⟩ := hQ23
  have N23 := Fr.app N18 N23q
  have ne24 : a1 ≠ r23 := Nat.ne_of_lt (Nat.lt_of_lt_of_le f19.lt sq23)
  have ge_r23 : n0 ≤ r23 := Nat.le_trans (OL20.1 ▸ OL20.2.1) sq23
  have sz_r23 : h0.size ≤ r23 := Nat.le_trans K21.1 sq23
  have f25 := f19.keep Kq23 nin0
  have OL26 := OL20.keep Kq23 all0
  have K27 : Keep h0 T23.heap [] := K21.trans Kq23 all0
  have pre28 : oL p e below T23 (mkF m 32 #[oR a1, oI 0, oI 1, oR b12, oI 0, oR r23] [oi 0, ow r23]) s₁ (entryFrame m #[(.ref a1), (.int (0 : Int32)), (.int (1 : Int32))] 6) := fun t k => pre22 t (by
    refine st23 _ ?_
    refine XS.astore X23.here hx rfl (hb hby d5_26) rfl rfl (l' := #[oR a1, oI 0, oI 1, oR b12, oI 0, oR r23]) rfl ?_
    refine XS.aload X23.here hx rfl (hb hby d5_28) rfl rfl ?_
    refine XS.iload X23.here hx rfl (hb hby d5_30) rfl ?_
    show oS p e below T23 (mkF m 32 #[oR a1, oI 0, oI 1, oR b12, oI 0, oR r23] [oi 0, ow r23]) _
    exact k)
  obtain ⟨_, _, ⟨T29, L29, k29, n29⟩, -, X29, ⟨Lc29, hQ29, l29, y29, z29⟩, st29⟩ := Jvm.LawKit.callS X23 hx (y := (⟨"java/lang/StringUTF16", "getChar", "([BI)C"⟩ : MethodName)) hown (mvT hZ (oW hw 76 rfl)) (mvT hZ (oW hw 77 rfl)) (mvT hZ (oW hw 24 rfl)) (mvT hZ (oW hw 78 rfl)) (by decide) (backOf (W := 0) (rm_get1_0 l Z a0 hw [] r23 kr23 (own_hb c0) (own_lb c0) T23.heap n0 OL26 AD HB LB Va23) hZ (oW hw 78 rfl) (oW hw 24 rfl) (by decide) (by decide)) (g := (mkF m 32 #[oR a1, oI 0, oI 1, oR b12, oI 0, oR r23] [oi 0, ow r23])) rfl (by rw [hml]; rfl) (argsL := [(.ref r23), (.int (0 : Int32))]) (rest := []) (lenOf pd___BI_C rfl) rfl (by show 2 * 0 + _ ≤ _; exact Nat.le_of_eq rfl) (hb hby d5_32) (fun _ _ => ⟨rfl, rfl, (by decide : 2 + 0 ≤ _), (by decide : 3 + 0 ≤ _)⟩)
  dsimp only [Pt.U, Pt.locs, Pt.cells, Pt.slots] at X29 l29 y29 z29 st29 hQ29
  subst l29 y29 z29
  obtain ⟨rfl, N29q, e29⟩ := hQ29
  have N29 := Fr.app N23 N29q
  have pre30 : oL p e below T29 (mkF m 56 #[oR a1, oI 0, oI 1, oR b12, oI 0, oR r23] [ow r23]) s₁ (entryFrame m #[(.ref a1), (.int (0 : Int32)), (.int (1 : Int32))] 6) := fun t k => pre28 t (by
    refine st29 _ ?_
    refine XS.sipush X29.here hx rfl (hb hby d5_35) ?_
    refine XS.icmpYes X29.here hx rfl (pc0 := 38) (pc' := 54) rfl (hb hby d5_38) rfl (tlt (own_gcg _ nc0 hg)).2.2.1 (by decide) (by decide) ?_
    refine XS.aload X29.here hx rfl (hb hby d5_54) rfl rfl ?_
    show oS p e below T29 (mkF m 56 #[oR a1, oI 0, oI 1, oR b12, oI 0, oR r23] [ow r23]) _
    exact k)
  obtain ⟨fs, hr, hrun, hended, hW, hsame⟩ := X29.leave (v := some (.ref r23)) (fun h => by rw [Bd.returns] at h; cases h)
  refine ⟨_, _, pre30 _ ?_, hrun, hended, _, _, rfl, ?_, ⟨_, rfl⟩, hW, hsame.mono (by decide) (by decide)⟩
  ·
    show oS p e below T29 (mkF m 56 #[oR a1, oI 0, oI 1, oR b12, oI 0, oR r23] [ow r23]) _
    jvm_step X29.here [X29.here.top, hx, (hb hby d5_56), X29.method', Bd.returns, Value.isRef, FieldType.isReference]
    first | (intro acts; rw [hr _ acts rfl rfl rfl]) | rw [hr _ _ rfl rfl rfl]
    exact Steps.refl _
  ·
    show Q_rm_cmp_1_0 Z a1 k1 c0 h0 n0 _ T29.heap _
    rw [e29]
    exact ⟨r23, kr23, rfl, N29, K27, sz_r23, Va23⟩
theorem pn_java_lang_String : plainName "java/lang/String" = true := by first | (simp [plainName, overriddenIn]; done) | decide +kernel
theorem d3_0 : decode jdk_42_method_149_code 0 = .ok (.aload_n 0, 1) := by decide +kernel
theorem d3_1 : decode jdk_42_method_149_code 1 = .ok (.invokespecial 1, 3) := by decide +kernel
theorem d3_4 : decode jdk_42_method_149_code 4 = .ok (.iload_n 3, 1) := by decide +kernel
theorem d3_5 : decode jdk_42_method_149_code 5 = .ok (.ifCond .ne 22, 3) := by decide +kernel
theorem d3_27 : decode jdk_42_method_149_code 27 = .ok (.getstatic 38, 3) := by decide +kernel
theorem d3_30 : decode jdk_42_method_149_code 30 = .ok (.ifCond .eq 28, 3) := by decide +kernel
theorem d3_33 : decode jdk_42_method_149_code 33 = .ok (.aload_n 1, 1) := by decide +kernel
theorem d3_34 : decode jdk_42_method_149_code 34 = .ok (.iload_n 2, 1) := by decide +kernel
theorem d3_35 : decode jdk_42_method_149_code 35 = .ok (.iload_n 3, 1) := by decide +kernel
theorem d3_36 : decode jdk_42_method_149_code 36 = .ok (.invokestatic 177, 3) := by decide +kernel
theorem d3_39 : decode jdk_42_method_149_code 39 = .ok (.astore 5, 2) := by decide +kernel
theorem d3_41 : decode jdk_42_method_149_code 41 = .ok (.aload_n 0, 1) := by decide +kernel
theorem d3_42 : decode jdk_42_method_149_code 42 = .ok (.aload 5, 2) := by decide +kernel
theorem d3_44 : decode jdk_42_method_149_code 44 = .ok (.iload_n 3, 1) := by decide +kernel
theorem d3_45 : decode jdk_42_method_149_code 45 = .ok (.invokestatic 47, 3) := by decide +kernel
theorem pd___BI_B : parseMethodDescriptor "([BI)B" = some ⟨[(.array .byte), .int], some .byte⟩ := by decide +kernel
theorem d3_48 : decode jdk_42_method_149_code 48 = .ok (.putfield 15, 3) := by decide +kernel
theorem d3_51 : decode jdk_42_method_149_code 51 = .ok (.aload_n 0, 1) := by decide +kernel
theorem d3_52 : decode jdk_42_method_149_code 52 = .ok (.aload 5, 2) := by decide +kernel
theorem d3_54 : decode jdk_42_method_149_code 54 = .ok (.putfield 9, 3) := by decide +kernel
theorem d3_57 : decode jdk_42_method_149_code 57 = .ok (.return_, 1) := by decide +kernel
def Q_S1 (Z : State) (a1 : Addr) (a2 : Addr) (k2 : ClassId) (G1 : Int32) (c0 : Int32) (h0 : Heap) (n0 : Nat) (v : Option Value) (h : Heap) (L : List Loc) : Prop := v = none ∧ Fr n0 L ∧ Keep h0 h [a1] ∧ Exa Z h a1 "java/lang/String" ∧ ∃ (cd : Int32) (t : Addr) (kb : ClassId) (N : Int32) (vs : List Value), Fld Z h a1 "java/lang/String" "coder" "B" (.int cd) ∧ h0.size ≤ t ∧ ¬ t = a1 ∧ Fld Z h a1 "java/lang/String" "value" "[B" (.ref t) ∧ Arv Z h t kb .byte N vs (.int (0 : Int32)) ∧ ((cd = 0 ∧ N = 1 ∧ vs = [(.int (nar .byte (c0.toInt8.toInt32)))] ∧ ¬ ((255 : Int32) < c0)) ∨ (cd = 1 ∧ ((255 : Int32) < c0)))
set_option maxRecDepth 65536 in
set_option maxHeartbeats 40000000 in
theorem rm_si_1_0 (l : Launch) (Z : State) (a0 : Array Value) (hw : ∀ d ∈ tables_1, d.before a0 Z = true) (ws : List Jvm.Cond) (a1 : Addr) (a2 : Addr) (k2 : ClassId) (G1 : Int32) (c0 : Int32) (h0 : Heap) (n0 : Nat) (OL : Old Z n0 h0) (AD : Sta Z Z.heap "java/lang/StringUTF16" "$assertionsDisabled" "Z" (.int (1 : Int32))) (HB : Sta Z Z.heap "java/lang/StringUTF16" "HI_BYTE_SHIFT" "I" (.int (0 : Int32))) (LB : Sta Z Z.heap "java/lang/StringUTF16" "LO_BYTE_SHIFT" "I" (.int (8 : Int32))) (O2 : Sta Z Z.heap "java/lang/String" "COMPACT_STRINGS" "Z" (.int G1)) (P5 : ¬ (G1 = (0 : Int32))) (ge1 : n0 ≤ a1) (E1 : Exa Z h0 a1 "java/lang/String") (F1 : Fld Z h0 a1 "java/lang/String" "value" "[B" .null) (F2 : Fld Z h0 a1 "java/lang/String" "coder" "B" (.int (0 : Int32))) (V2 : Arv Z h0 a2 k2 .char (1 : Int32) [(.int c0)] (.int (0 : Int32))) (hg : (255 : Int32) < c0) (nc0 : nar .char c0 = c0) :
    MetFree l (⟨"java/lang/String", "<init>", "([CIILjava/lang/Void;)V"⟩ : MethodName) (head1 (Jvm.Cond.code (⟨"java/lang/String", "<init>", "([CIILjava/lang/Void;)V"⟩ : MethodName) jdk_42_method_149_code 6 none :: ws) ({ frames := 4, cells := 2, slots := 3, locals := 57 } : Room)) (fun a U => a = #[(.ref a1), (.ref a2), (.int (0 : Int32)), (.int (1 : Int32)), .null] ∧ Z.Warmed39 U.vm ∧ U.heap = h0) (fun _ _ _ _ _ => True) (fun _ U o U' => ∃ v L, o = .returned v ∧ Q_S1 Z a1 a2 k2 G1 c0 h0 n0 v U'.heap L ∧ FrameEnd U o U' L ({ frames := 4, cells := 2, slots := 3, locals := 57 } : Room).cells ({ frames := 4, cells := 2, slots := 3, locals := 57 } : Room).slots) := by
  refine MetFree.of_bodySF (plainFor_of_name pn_java_lang_String) hisR ?_
  intro p e s m args below meth c s₁ Bd hml0 hP hK
  obtain ⟨rfl, hZ, hh⟩ := hP
  have hx := Bd.exec
  have hby := Bd.bytes
  have hml : c.maxLocals = 6 := hml0
  have hown : s.vm.findClass "java/lang/String" = some m.cls := findClass_of_methodNamed Bd.named
  have hnm := (name_of_methodNamed Bd.named Bd.method).1
  have X0 : Stand p l e ({ frames := 4, cells := 2, slots := 3, locals := 57 } : Room) s m #[(.ref a1), (.ref a2), (.int (0 : Int32)), (.int (1 : Int32)), .null] below meth c s₁ [] 0 0 := Stand.of_body Bd
  have e0 : s₁.heap = h0 := by rw [← hh, Bd.state]; rfl
  have N0 := Fr.nil n0
  have pre0 : oL p e below s₁ (mkF m 0 #[oR a1, oR a2, oI 0, oI 1, oN, oU] []) s₁ (entryFrame m #[(.ref a1), (.ref a2), (.int (0 : Int32)), (.int (1 : Int32)), .null] 6) := fun t k => castTop (by first | (simp [entryFrame, mkF, argsToLocals, Value.category]; done) | rfl) k
  have own_ne : a2 ≠ a1 := (Exa.neArv E1 V2 (oW hw 9 rfl)).symm
  have pre11 : oL p e below s₁ (mkF m 1 #[oR a1, oR a2, oI 0, oI 1, oN, oU] [ow a1]) s₁ (entryFrame m #[(.ref a1), (.ref a2), (.int (0 : Int32)), (.int (1 : Int32)), .null] 6) := fun t k => pre0 t (by
    refine XS.aloadN X0.here hx rfl (hb hby d3_0) rfl rfl ?_
    exact k)
  obtain ⟨T12, X12, e12, st12⟩ := initO X0 hx hZ hown (oW hw 18 rfl) (oW hw 19 rfl) (oW hw 20 rfl) e0 (g := (mkF m 1 #[oR a1, oR a2, oI 0, oI 1, oN, oU] [ow a1])) rfl (by rw [hml]; rfl) rfl (hb hby d3_1) (by decide) (W := 0) (by show 2 * 0 + _ ≤ _; exact Nat.le_of_eq rfl) (by decide)
  have pre13 : oL p e below T12 (mkF m 27 #[oR a1, oR a2, oI 0, oI 1, oN, oU] []) s₁ (entryFrame m #[(.ref a1), (.ref a2), (.int (0 : Int32)), (.int (1 : Int32)), .null] 6) := fun t k => pre11 t (by
    refine st12 _ ?_
    refine XS.iloadN X12.here hx rfl (hb hby d3_4) rfl ?_
    refine XS.ifYes X12.here hx rfl (pc0 := 5) (pc' := 27) rfl (hb hby d3_5) rfl ((if0 _ _).trans (feq (by decide : ¬ ((1 : Int32) = (0 : Int32)))).2) (by decide) (by decide) ?_
    show oS p e below T12 (mkF m 27 #[oR a1, oR a2, oI 0, oI 1, oN, oU] []) _
    exact k)
  obtain ⟨T14, X14, e14, st14⟩ := getS2 X12 hx hZ hown (host := "") (Or.inl (oW hw 21 rfl)) Via.refl e12 (O2.ext OL.2) (g := (mkF m 27 #[oR a1, oR a2, oI 0, oI 1, oN, oU] [])) rfl (hb hby d3_27)
  have pre15 : oL p e below T14 (mkF m 36 #[oR a1, oR a2, oI 0, oI 1, oN, oU] [oi 1, oi 0, ow a2]) s₁ (entryFrame m #[(.ref a1), (.ref a2), (.int (0 : Int32)), (.int (1 : Int32)), .null] 6) := fun t k => pre13 t (by
    refine st14 _ ?_
    refine XS.ifNo X14.here hx rfl (hb hby d3_30) rfl ((if0 _ _).trans (feq P5).1) ?_
    refine XS.aloadN X14.here hx rfl (hb hby d3_33) rfl rfl ?_
    refine XS.iloadN X14.here hx rfl (hb hby d3_34) rfl ?_
    show oS p e below T14 (mkF m 35 #[oR a1, oR a2, oI 0, oI 1, oN, oU] [oi 0, ow a2]) _
    refine XS.iloadN X14.here hx rfl (hb hby d3_35) rfl ?_
    exact k)
  obtain ⟨_, _, ⟨T16, L16, k16, n16⟩, -, X16, ⟨Lc16, hQ16, l16, y16, z16⟩, st16⟩ := Jvm.LawKit.callS X14 hx (y := (⟨"java/lang/StringUTF16", "compress", "([CII)[B"⟩ : MethodName)) hown (mvT hZ (oW hw 22 rfl)) (mvT hZ (oW hw 23 rfl)) (mvT hZ (oW hw 24 rfl)) (mvT hZ (oW hw 25 rfl)) (by decide) (backOf (W := 0) (rm_cmp_1_0 l Z a0 hw [] a2 k2 c0 h0 n0 OL AD HB LB V2  hg nc0) hZ (oW hw 25 rfl) (oW hw 24 rfl) (by decide) (by decide)) (g := (mkF m 36 #[oR a1, oR a2, oI 0, oI 1, oN, oU] [oi 1, oi 0, ow a2])) rfl (by rw [hml]; rfl) (argsL := [(.ref a2), (.int (0 : Int32)), (.int (1 : Int32))]) (rest := []) (lenOf pd___CII__B rfl) rfl (by show 2 * 0 + _ ≤ _; exact Nat.le_of_eq rfl) (hb hby d3_36) (fun _ _ => ⟨rfl, e14, (by decide : 0 + 2 ≤ _), (by decide : 0 + 3 ≤ _)⟩)
  dsimp only [Pt.U, Pt.locs, Pt.cells, Pt.slots] at X16 l16 y16 z16 st16 hQ16
  subst l16 y16 z16
  obtain ⟨r16, kr16, rfl, N16q, Kq16, sq16, Va16⟩ := hQ16
  have N16 := Fr.app N0 N16q
  have ne17 : a1 ≠ r16 := Nat.ne_of_lt (Nat.lt_of_lt_of_le E1.lt sq16)
  have ne18 : a2 ≠ r16 := Nat.ne_of_lt (Nat.lt_of_lt_of_le V2.lt sq16)
  have ge_r16 : n0 ≤ r16 := Nat.le_trans (OL.1 ▸ OL.2.1) sq16
  have sz_r16 : h0.size ≤ r16 := Nat.le_trans (Keep.refl h0 [a1]).1 sq16
  have f19 := E1.keep Kq16
  have f20 := F1.keep Kq16 nin0
  have f21 := F2.keep Kq16 nin0
  have f22 := V2.keep Kq16 nin0
  have OL23 := OL.keep Kq16 all0
  have K24 : Keep h0 T16.heap [a1] := (Keep.refl h0 [a1]).trans Kq16 all0
  have pre25 : oL p e below T16 (mkF m 45 #[oR a1, oR a2, oI 0, oI 1, oN, oR r16] [oi 1, ow r16, ow a1]) s₁ (entryFrame m #[(.ref a1), (.ref a2), (.int (0 : Int32)), (.int (1 : Int32)), .null] 6) := fun t k => pre15 t (by
    refine st16 _ ?_
    refine XS.astore X16.here hx rfl (hb hby d3_39) rfl rfl (l' := #[oR a1, oR a2, oI 0, oI 1, oN, oR r16]) rfl ?_
    refine XS.aloadN X16.here hx rfl (hb hby d3_41) rfl rfl ?_
    show oS p e below T16 (mkF m 42 #[oR a1, oR a2, oI 0, oI 1, oN, oR r16] [ow a1]) _
    refine XS.aload X16.here hx rfl (hb hby d3_42) rfl rfl ?_
    refine XS.iloadN X16.here hx rfl (hb hby d3_44) rfl ?_
    exact k)
  obtain ⟨_, _, ⟨T26, L26, k26, n26⟩, -, X26, ⟨Lc26, hQ26, l26, y26, z26⟩, st26⟩ := Jvm.LawKit.callS X16 hx (y := (⟨"java/lang/StringUTF16", "coderFromArrayLen", "([BI)B"⟩ : MethodName)) hown (mvT hZ (oW hw 30 rfl)) (mvT hZ (oW hw 31 rfl)) (mvT hZ (oW hw 24 rfl)) (mvT hZ (oW hw 32 rfl)) (by decide) (backOf (W := 1) (rm_cfl1 l Z a0 hw [] r16 kr16 (own_hb c0) (own_lb c0) T16.heap n0 OL23 Va16) hZ (oW hw 32 rfl) (oW hw 24 rfl) (by decide) (by decide)) (g := (mkF m 45 #[oR a1, oR a2, oI 0, oI 1, oN, oR r16] [oi 1, ow r16, ow a1])) rfl (by rw [hml]; rfl) (argsL := [(.ref r16), (.int (1 : Int32))]) (rest := [(.ref a1)]) (lenOf pd___BI_B rfl) rfl (by show 2 * 0 + _ ≤ _; exact Nat.le_of_eq rfl) (hb hby d3_45) (fun _ _ => ⟨rfl, rfl, (by decide : 2 + 0 ≤ _), (by decide : 3 + 0 ≤ _)⟩)
  dsimp only [Pt.U, Pt.locs, Pt.cells, Pt.slots] at X26 l26 y26 z26 st26 hQ26
  subst l26 y26 z26
  obtain ⟨rfl, N26q, e26⟩ := hQ26
  have N26 := Fr.app N16 N26q
  have pre27 : oL p e below T26 (mkF m 48 #[oR a1, oR a2, oI 0, oI 1, oN, oR r16] [oi 1, ow a1]) s₁ (entryFrame m #[(.ref a1), (.ref a2), (.int (0 : Int32)), (.int (1 : Int32)), .null] 6) := fun t k => pre25 t (by
    refine st26 _ ?_
    exact k)
  obtain ⟨T28, h28, X28, e28, W28, st28⟩ := putFN X26 hx hZ hown (oW hw 33 rfl) Via.refl e26 f21 f19 (Or.inr ⟨(oW hw 34 rfl), rfl, hnm⟩) (oW hw 9 rfl) (ty := .byte) (v' := (.int (1 : Int32))) (by decide) rfl rfl (g := (mkF m 48 #[oR a1, oR a2, oI 0, oI 1, oN, oR r16] [oi 1, ow a1])) rfl rfl (hb hby d3_48)
  have f29 := f21.same W28
  have N28 := Fr.snoc X28 N26 ge1
  have f30 := f19.wr W28
  have f31 := f20.other W28 (Or.inr (slot_ne (Or.inr (oW hw 36 rfl)) (Or.inr (oW hw 34 rfl)) (by decide) (t := (.array .byte)) (t' := .byte) (by decide) (by decide)))
  have f32 := f22.other W28 own_ne
  have f33 := Va16.other W28 (Ne.symm ne17)
  have OL34 := OL23.wr W28 ge1
  have K35 : Keep h0 h28 [a1] := K24.wr W28 (Or.inl (List.mem_of_getElem? (i := 0) rfl))
  have pre36 : oL p e below T28 (mkF m 54 #[oR a1, oR a2, oI 0, oI 1, oN, oR r16] [ow r16, ow a1]) s₁ (entryFrame m #[(.ref a1), (.ref a2), (.int (0 : Int32)), (.int (1 : Int32)), .null] 6) := fun t k => pre27 t (by
    refine st28 _ ?_
    show oS p e below T28 (mkF m 51 #[oR a1, oR a2, oI 0, oI 1, oN, oR r16] []) _
    refine XS.aloadN X28.here hx rfl (hb hby d3_51) rfl rfl ?_
    refine XS.aload X28.here hx rfl (hb hby d3_52) rfl rfl ?_
    exact k)
  obtain ⟨T37, h37, X37, e37, W37, st37⟩ := putF X28 hx hZ hown (host := "") (Or.inl (oW hw 35 rfl)) Via.refl e28 f31 f30 (Or.inr ⟨(oW hw 36 rfl), rfl, hnm⟩) (oW hw 9 rfl) (ty := (.array .byte)) (by decide) rfl rfl (g := (mkF m 54 #[oR a1, oR a2, oI 0, oI 1, oN, oR r16] [ow r16, ow a1])) rfl rfl (hb hby d3_54)
  have f38 := f31.same W37
  have N37 := Fr.snoc X37 N28 ge1
  have f39 := f30.wr W37
  have f40 := f29.other W37 (Or.inr (slot_ne (Or.inr (oW hw 34 rfl)) (Or.inr (oW hw 36 rfl)) (by decide) (t := .byte) (t' := (.array .byte)) (by decide) (by decide)))
  have f41 := f32.other W37 own_ne
  have f42 := f33.other W37 (Ne.symm ne17)
  have OL43 := OL34.wr W37 ge1
  have K44 : Keep h0 h37 [a1] := K35.wr W37 (Or.inl (List.mem_of_getElem? (i := 0) rfl))
  have pre45 : oL p e below T37 (mkF m 57 #[oR a1, oR a2, oI 0, oI 1, oN, oR r16] []) s₁ (entryFrame m #[(.ref a1), (.ref a2), (.int (0 : Int32)), (.int (1 : Int32)), .null] 6) := fun t k => pre36 t (by
    refine st37 _ ?_
    exact k)
  obtain ⟨fs, hr, hrun, hended, hW, hsame⟩ := X37.leave (v := none) (fun _ => rfl)
  refine ⟨_, _, pre45 _ ?_, hrun, hended, _, _, rfl, ?_, ⟨_, rfl⟩, hW, hsame.mono (by decide) (by decide)⟩
  ·
    show oS p e below T37 (mkF m 57 #[oR a1, oR a2, oI 0, oI 1, oN, oR r16] []) _
    exact X37.returnOut hx Bd.returns (hb hby d3_57) hr
  ·
    show Q_S1 Z a1 a2 k2 G1 c0 h0 n0 _ T37.heap _
    rw [e37]
    exact ⟨rfl, N37, K44, f39, (1 : Int32), r16, kr16, (2 : Int32), [(.int (own_hb c0)), (.int (own_lb c0))], f40, sz_r16, fun q => ne17 q.symm, f38, f42, Or.inr ⟨rfl, hg⟩⟩
theorem d2_0 : decode jdk_42_method_3_code 0 = .ok (.aload_n 0, 1) := by decide +kernel
theorem d2_1 : decode jdk_42_method_3_code 1 = .ok (.aload_n 1, 1) := by decide +kernel
theorem d2_2 : decode jdk_42_method_3_code 2 = .ok (.iconst 0, 1) := by decide +kernel
theorem d2_3 : decode jdk_42_method_3_code 3 = .ok (.aload_n 1, 1) := by decide +kernel
theorem d2_4 : decode jdk_42_method_3_code 4 = .ok (.arraylength, 1) := by decide +kernel
theorem d2_5 : decode jdk_42_method_3_code 5 = .ok (.aconst_null, 1) := by decide +kernel
theorem d2_6 : decode jdk_42_method_3_code 6 = .ok (.invokespecial 27, 3) := by decide +kernel
theorem pd___CIILjava_lang_Void__V : parseMethodDescriptor "([CIILjava/lang/Void;)V" = some ⟨[(.array .char), .int, .int, (.object "java/lang/Void")], none⟩ := by decide +kernel
theorem d2_9 : decode jdk_42_method_3_code 9 = .ok (.return_, 1) := by decide +kernel
set_option maxRecDepth 65536 in
set_option maxHeartbeats 40000000 in
theorem rm_s_1_0 (l : Launch) (Z : State) (a0 : Array Value) (hw : ∀ d ∈ tables_1, d.before a0 Z = true) (ws : List Jvm.Cond) (a1 : Addr) (a2 : Addr) (k2 : ClassId) (G1 : Int32) (c0 : Int32) (h0 : Heap) (n0 : Nat) (OL : Old Z n0 h0) (AD : Sta Z Z.heap "java/lang/StringUTF16" "$assertionsDisabled" "Z" (.int (1 : Int32))) (HB : Sta Z Z.heap "java/lang/StringUTF16" "HI_BYTE_SHIFT" "I" (.int (0 : Int32))) (LB : Sta Z Z.heap "java/lang/StringUTF16" "LO_BYTE_SHIFT" "I" (.int (8 : Int32))) (O2 : Sta Z Z.heap "java/lang/String" "COMPACT_STRINGS" "Z" (.int G1)) (P5 : ¬ (G1 = (0 : Int32))) (ge1 : n0 ≤ a1) (E1 : Exa Z h0 a1 "java/lang/String") (F1 : Fld Z h0 a1 "java/lang/String" "value" "[B" .null) (F2 : Fld Z h0 a1 "java/lang/String" "coder" "B" (.int (0 : Int32))) (V2 : Arv Z h0 a2 k2 .char (1 : Int32) [(.int c0)] (.int (0 : Int32))) (hg : (255 : Int32) < c0) (nc0 : nar .char c0 = c0) :
    MetFree l (⟨"java/lang/String", "<init>", "([C)V"⟩ : MethodName) (head1 (Jvm.Cond.code (⟨"java/lang/String", "<init>", "([C)V"⟩ : MethodName) jdk_42_method_3_code 2 none :: ws) ({ frames := 5, cells := 2, slots := 3, locals := 74 } : Room)) (fun a U => a = #[(.ref a1), (.ref a2)] ∧ Z.Warmed39 U.vm ∧ U.heap = h0) (fun _ _ _ _ _ => True) (fun _ U o U' => ∃ v L, o = .returned v ∧ Q_S1 Z a1 a2 k2 G1 c0 h0 n0 v U'.heap L ∧ FrameEnd U o U' L ({ frames := 5, cells := 2, slots := 3, locals := 74 } : Room).cells ({ frames := 5, cells := 2, slots := 3, locals := 74 } : Room).slots) := by
  refine MetFree.of_bodySF (plainFor_of_name pn_java_lang_String) hisR ?_
  intro p e s m args below meth c s₁ Bd hml0 hP hK
  obtain ⟨rfl, hZ, hh⟩ := hP
  have hx := Bd.exec
  have hby := Bd.bytes
  have hml : c.maxLocals = 2 := hml0
  have hown : s.vm.findClass "java/lang/String" = some m.cls := findClass_of_methodNamed Bd.named
  have hnm := (name_of_methodNamed Bd.named Bd.method).1
  have X0 : Stand p l e ({ frames := 5, cells := 2, slots := 3, locals := 74 } : Room) s m #[(.ref a1), (.ref a2)] below meth c s₁ [] 0 0 := Stand.of_body Bd
  have e0 : s₁.heap = h0 := by rw [← hh, Bd.state]; rfl
  have N0 := Fr.nil n0
  have pre0 : oL p e below s₁ (mkF m 0 #[oR a1, oR a2] []) s₁ (entryFrame m #[(.ref a1), (.ref a2)] 2) := fun t k => castTop (by first | (simp [entryFrame, mkF, argsToLocals, Value.category]; done) | rfl) k
  have own_ne : a2 ≠ a1 := (Exa.neArv E1 V2 (oW hw 9 rfl)).symm
  have pre12 : oL p e below s₁ (mkF m 4 #[oR a1, oR a2] [ow a2, oi 0, ow a2, ow a1]) s₁ (entryFrame m #[(.ref a1), (.ref a2)] 2) := fun t k => pre0 t (by
    refine XS.aloadN X0.here hx rfl (hb hby d2_0) rfl rfl ?_
    refine XS.aloadN X0.here hx rfl (hb hby d2_1) rfl rfl ?_
    refine XS.iconst X0.here hx rfl (hb hby d2_2) ?_
    refine XS.aloadN X0.here hx rfl (hb hby d2_3) rfl rfl ?_
    show oS p e below s₁ (mkF m 4 #[oR a1, oR a2] [ow a2, oi 0, ow a2, ow a1]) _
    exact k)
  obtain ⟨cl11, Ar11, -, Sz11, Nn11, -, -⟩ := id V2
  have pre13 : oL p e below s₁ (mkF m 6 #[oR a1, oR a2] [.null, oi 1, oi 0, ow a2, ow a1]) s₁ (entryFrame m #[(.ref a1), (.ref a2)] 2) := fun t k => pre12 t (by
    refine X0.arraylength hx (by rw [e0]; exact Ar11.1) (State.isArrayOf_alike hZ.alike Ar11.2.1) (g := (mkF m 4 #[oR a1, oR a2] [ow a2, oi 0, ow a2, ow a1])) rfl rfl (hb hby d2_4) _ ?_
    rw [len_of Sz11 Nn11]
    refine XS.aconstNull X0.here hx rfl (hb hby d2_5) ?_
    exact k)
  obtain ⟨_, _, ⟨T14, L14, k14, n14⟩, -, X14, ⟨Lc14, hQ14, l14, y14, z14⟩, st14⟩ := X0.specialBack hx (y := (⟨"java/lang/String", "<init>", "([CIILjava/lang/Void;)V"⟩ : MethodName)) rfl hown (mvT hZ (oW hw 14 rfl)) (mvT hZ (oW hw 15 rfl)) (mvT hZ (oW hw 17 rfl)) (by decide) (backOf (W := 0) (rm_si_1_0 l Z a0 hw [] a1 a2 k2 G1 c0 h0 n0 OL AD HB LB O2 P5 ge1 E1 F1 F2 V2  hg nc0) hZ (oW hw 17 rfl) (oW hw 10 rfl) (by decide) (by decide)) (g := (mkF m 6 #[oR a1, oR a2] [.null, oi 1, oi 0, ow a2, ow a1])) rfl (by rw [hml]; rfl) (Steps.refl _) (a := a1) (argsL := [(.ref a2), (.int (0 : Int32)), (.int (1 : Int32)), .null]) (rest := []) (lenOf pd___CIILjava_lang_Void__V rfl) rfl (by show 2 * 0 + _ ≤ _; exact Nat.le_of_eq rfl) (hb hby d2_6) (fun _ _ => ⟨rfl, e0, (by decide : 0 + 2 ≤ _), (by decide : 0 + 3 ≤ _)⟩)
  dsimp only [Pt.U, Pt.locs, Pt.cells, Pt.slots] at X14 l14 y14 z14 st14 hQ14
  subst l14 y14 z14
  obtain ⟨rfl, N14q, Kq14, Eq14, cd14, tt14, kb14, Nx14, vs14, Fc14, sq14, nx14, Fv14, Va14, ou14⟩ := hQ14
  have N14 := Fr.app N0 N14q
  have f15 := E1.keep Kq14
  have f16 := V2.keep Kq14 (ninS own_ne nin0)
  have OL17 := OL.keep Kq14 (allS ge1 all0)
  have K18 : Keep h0 T14.heap [a1] := (Keep.refl h0 [a1]).trans Kq14 (allS (Or.inl (List.mem_of_getElem? (i := 0) rfl)) all0)
  have pre19 : oL p e below T14 (mkF m 9 #[oR a1, oR a2] []) s₁ (entryFrame m #[(.ref a1), (.ref a2)] 2) := fun t k => pre13 t (by
    refine st14.trans ?_
    exact k)
  obtain ⟨fs, hr, hrun, hended, hW, hsame⟩ := X14.leave (v := none) (fun _ => rfl)
  refine ⟨_, _, pre19 _ ?_, hrun, hended, _, _, rfl, ?_, ⟨_, rfl⟩, hW, hsame.mono (by decide) (by decide)⟩
  ·
    show oS p e below T14 (mkF m 9 #[oR a1, oR a2] []) _
    exact X14.returnOut hx Bd.returns (hb hby d2_9) hr
  ·
    show Q_S1 Z a1 a2 k2 G1 c0 h0 n0 _ T14.heap _
    exact ⟨rfl, N14, K18, Eq14, cd14, tt14, kb14, Nx14, vs14, Fc14, Nat.le_trans (Keep.refl h0 [a1]).1 sq14, nx14, Fv14, Va14, ou14⟩
theorem d6_26 : decode jdk_52_method_21_code 26 = .ok (.aload_n 2, 1) := by decide +kernel
theorem d6_27 : decode jdk_52_method_21_code 27 = .ok (.iload_n 3, 1) := by decide +kernel
theorem d6_28 : decode jdk_52_method_21_code 28 = .ok (.iload 6, 2) := by decide +kernel
theorem d6_30 : decode jdk_52_method_21_code 30 = .ok (.i2b, 1) := by decide +kernel
theorem d6_31 : decode jdk_52_method_21_code 31 = .ok (.bastore, 1) := by decide +kernel
theorem d6_32 : decode jdk_52_method_21_code 32 = .ok (.iinc 1 1, 3) := by decide +kernel
theorem d6_35 : decode jdk_52_method_21_code 35 = .ok (.iinc 3 1, 3) := by decide +kernel
theorem d6_38 : decode jdk_52_method_21_code 38 = .ok (.iinc 5 1, 3) := by decide +kernel
theorem d6_41 : decode jdk_52_method_21_code 41 = .ok (.goto (-38), 3) := by decide +kernel
theorem d6_44 : decode jdk_52_method_21_code 44 = .ok (.iload 4, 2) := by decide +kernel
theorem d6_46 : decode jdk_52_method_21_code 46 = .ok (.ireturn, 1) := by decide +kernel
def Q_rm_c5_1_1 (Z : State) (a1 : Addr) (k1 : ClassId) (t1 : Addr) (k2 : ClassId) (c0 : Int32) (h0 : Heap) (n0 : Nat) (v : Option Value) (h : Heap) (L : List Loc) : Prop := v = some (.int (1 : Int32)) ∧ Fr n0 L ∧ Keep h0 h [t1] ∧ Arv Z h t1 k2 .byte (1 : Int32) [(.int (nar .byte (c0.toInt8.toInt32)))] (.int (0 : Int32))
set_option maxRecDepth 65536 in
set_option maxHeartbeats 40000000 in
theorem rm_c5_1_1 (l : Launch) (Z : State) (a0 : Array Value) (hw : ∀ d ∈ tables_1, d.before a0 Z = true) (ws : List Jvm.Cond) (a1 : Addr) (k1 : ClassId) (t1 : Addr) (k2 : ClassId) (c0 : Int32) (h0 : Heap) (n0 : Nat) (OL : Old Z n0 h0) (ge1 : n0 ≤ t1) (V1 : Arv Z h0 a1 k1 .char (1 : Int32) [(.int c0)] (.int (0 : Int32))) (V2 : Arv Z h0 t1 k2 .byte (1 : Int32) [(.int (0 : Int32))] (.int (0 : Int32))) (ne1 : a1 ≠ t1) (hl0 : ¬ ((255 : Int32) < c0)) :
    MetFree l (⟨"java/lang/StringUTF16", "compress", "([CI[BII)I"⟩ : MethodName) (head1 (Jvm.Cond.code (⟨"java/lang/StringUTF16", "compress", "([CI[BII)I"⟩ : MethodName) jdk_52_method_21_code 7 (some .int) :: ws) ({ frames := 0, cells := 0, slots := 0, locals := 0 } : Room)) (fun a U => a = #[(.ref a1), (.int (0 : Int32)), (.ref t1), (.int (0 : Int32)), (.int (1 : Int32))] ∧ Z.Warmed39 U.vm ∧ U.heap = h0) (fun _ _ _ _ _ => True) (fun _ U o U' => ∃ v L, o = .returned v ∧ Q_rm_c5_1_1 Z a1 k1 t1 k2 c0 h0 n0 v U'.heap L ∧ FrameEnd U o U' L ({ frames := 0, cells := 0, slots := 0, locals := 0 } : Room).cells ({ frames := 0, cells := 0, slots := 0, locals := 0 } : Room).slots) := by
  refine MetFree.of_bodySF (plainFor_of_name pn_java_lang_StringUTF16) hisR ?_
  intro p e s m args below meth c s₁ Bd hml0 hP hK
  obtain ⟨rfl, hZ, hh⟩ := hP
  have hx := Bd.exec
  have hby := Bd.bytes
  have hml : c.maxLocals = 7 := hml0
  have hown : s.vm.findClass "java/lang/StringUTF16" = some m.cls := findClass_of_methodNamed Bd.named
  have hnm := (name_of_methodNamed Bd.named Bd.method).1
  have X0 : Stand p l e ({ frames := 0, cells := 0, slots := 0, locals := 0 } : Room) s m #[(.ref a1), (.int (0 : Int32)), (.ref t1), (.int (0 : Int32)), (.int (1 : Int32))] below meth c s₁ [] 0 0 := Stand.of_body Bd
  have e0 : s₁.heap = h0 := by rw [← hh, Bd.state]; rfl
  have N0 := Fr.nil n0
  have pre0 : oL p e below s₁ (mkF m 0 #[oR a1, oI 0, oR t1, oI 0, oI 1, oU, oU] []) s₁ (entryFrame m #[(.ref a1), (.int (0 : Int32)), (.ref t1), (.int (0 : Int32)), (.int (1 : Int32))] 7) := fun t k => castTop (by first | (simp [entryFrame, mkF, argsToLocals, Value.category]; done) | rfl) k
  have pre11 : oL p e below s₁ (mkF m 12 #[oR a1, oI 0, oR t1, oI 0, oI 1, oI 0, oU] [oi 0, ow a1]) s₁ (entryFrame m #[(.ref a1), (.int (0 : Int32)), (.ref t1), (.int (0 : Int32)), (.int (1 : Int32))] 7) := fun t k => pre0 t (by
    refine XS.iconst X0.here hx rfl (hb hby d6_0) ?_
    refine XS.istore X0.here hx rfl (hb hby d6_1) rfl (l' := #[oR a1, oI 0, oR t1, oI 0, oI 1, oI 0, oU]) rfl ?_
    refine XS.iload X0.here hx rfl (hb hby d6_3) rfl ?_
    refine XS.iload X0.here hx rfl (hb hby d6_5) rfl ?_
    show oS p e below s₁ (mkF m 7 #[oR a1, oI 0, oR t1, oI 0, oI 1, oI 0, oU] [oi 1, oi 0]) _
    refine XS.icmpNo X0.here hx rfl (hb hby d6_7) rfl (tlt (by decide : (0 : Int32) < (1 : Int32))).2.1 ?_
    refine XS.aloadN X0.here hx rfl (hb hby d6_10) rfl rfl ?_
    refine XS.iloadN X0.here hx rfl (hb hby d6_11) rfl ?_
    exact k)
  obtain ⟨cl12, Ar12, qc12, Sz12, Nn12, Hs12, Gs12⟩ := id V1
  have hin12 := inb_of (j := (0 : Int32)) Sz12 ⟨by decide, by decide⟩
  have pre13 : oL p e below s₁ (mkF m 31 #[oR a1, oI 0, oR t1, oI 0, oI 1, oI 0, oI c0] [oi (c0.toInt8.toInt32), oi 0, ow t1]) s₁ (entryFrame m #[(.ref a1), (.int (0 : Int32)), (.ref t1), (.int (0 : Int32)), (.int (1 : Int32))] 7) := fun t k => pre11 t (by
    refine X0.caload hx (j := (0 : Int32)) (v := (.int c0)) (by rw [e0]; exact Ar12.1) (State.isArrayOf_alike hZ.alike Ar12.2.1) Ar12.2.2 hin12 (Hs12.at hin12 rfl) (g := (mkF m 12 #[oR a1, oI 0, oR t1, oI 0, oI 1, oI 0, oU] [oi 0, ow a1])) rfl rfl (hb hby d6_12) _ ?_
    show oS p e below s₁ (mkF m 13 #[oR a1, oI 0, oR t1, oI 0, oI 1, oI 0, oU] [oi c0]) _
    refine XS.istore X0.here hx rfl (hb hby d6_13) rfl (l' := #[oR a1, oI 0, oR t1, oI 0, oI 1, oI 0, oI c0]) rfl ?_
    refine XS.iload X0.here hx rfl (hb hby d6_15) rfl ?_
    refine XS.sipush X0.here hx rfl (hb hby d6_17) ?_
    refine XS.icmpYes X0.here hx rfl (pc0 := 20) (pc' := 26) rfl (hb hby d6_20) rfl (flt hl0).2.2.2 (by decide) (by decide) ?_
    show oS p e below s₁ (mkF m 26 #[oR a1, oI 0, oR t1, oI 0, oI 1, oI 0, oI c0] []) _
    refine XS.aloadN X0.here hx rfl (hb hby d6_26) rfl rfl ?_
    refine XS.iloadN X0.here hx rfl (hb hby d6_27) rfl ?_
    refine XS.iload X0.here hx rfl (hb hby d6_28) rfl ?_
    refine XS.i2b X0.here hx rfl (hb hby d6_30) rfl ?_
    show oS p e below s₁ (mkF m 31 #[oR a1, oI 0, oR t1, oI 0, oI 1, oI 0, oI c0] [oi (c0.toInt8.toInt32), oi 0, ow t1]) _
    exact k)
  obtain ⟨cl14, Ar14, qc14, Sz14, Nn14, Hs14, Gs14⟩ := id V2
  obtain ⟨T14, h14, X14, e14, W14, st14⟩ := stB X0 hx hZ e0 Ar14 (j := (0 : Int32)) (inb_of Sz14 ⟨by decide, by decide⟩) (g := (mkF m 31 #[oR a1, oI 0, oR t1, oI 0, oI 1, oI 0, oI c0] [oi (c0.toInt8.toInt32), oi 0, ow t1])) rfl rfl (hb hby d6_31)
  have V14 : Arv Z h14 t1 k2 .byte (1 : Int32) [(.int (nar .byte (c0.toInt8.toInt32)))] (.int (0 : Int32)) := Arv.set Ar14 qc14 Sz14 Nn14 Hs14 Gs14 (fits_nar_byte _) W14 0 rfl (Nat.le_of_ble_eq_true rfl)
  have N14 := Fr.snoc X14 N0 ge1
  have f15 := V1.other W14 ne1
  have OL16 := OL.wr W14 ge1
  have K17 : Keep h0 h14 [t1] := (Keep.refl h0 [t1]).wr W14 (Or.inl (List.mem_of_getElem? (i := 0) rfl))
  have pre18 : oL p e below T14 (mkF m 46 #[oR a1, oI 1, oR t1, oI 1, oI 1, oI 1, oI c0] [oi 1]) s₁ (entryFrame m #[(.ref a1), (.int (0 : Int32)), (.ref t1), (.int (0 : Int32)), (.int (1 : Int32))] 7) := fun t k => pre13 t (by
    refine st14 _ ?_
    refine XS.iinc X14.here hx rfl (hb hby d6_32) rfl (l' := #[oR a1, oI 1, oR t1, oI 0, oI 1, oI 0, oI c0]) rfl ?_
    refine XS.iinc X14.here hx rfl (hb hby d6_35) rfl (l' := #[oR a1, oI 1, oR t1, oI 1, oI 1, oI 0, oI c0]) rfl ?_
    refine XS.iinc X14.here hx rfl (hb hby d6_38) rfl (l' := #[oR a1, oI 1, oR t1, oI 1, oI 1, oI 1, oI c0]) rfl ?_
    show oS p e below T14 (mkF m 41 #[oR a1, oI 1, oR t1, oI 1, oI 1, oI 1, oI c0] []) _
    refine XS.goto X14.here hx rfl (pc0 := 41) (pc' := 3) rfl (hb hby d6_41) (by decide) (by decide) ?_
    refine XS.iload X14.here hx rfl (hb hby d6_3) rfl ?_
    refine XS.iload X14.here hx rfl (hb hby d6_5) rfl ?_
    refine XS.icmpYes X14.here hx rfl (pc0 := 7) (pc' := 44) rfl (hb hby d6_7) rfl (flt (by decide : ¬ ((1 : Int32) < (1 : Int32)))).2.1 (by decide) (by decide) ?_
    show oS p e below T14 (mkF m 44 #[oR a1, oI 1, oR t1, oI 1, oI 1, oI 1, oI c0] []) _
    refine XS.iload X14.here hx rfl (hb hby d6_44) rfl ?_
    exact k)
  obtain ⟨fs, hr, hrun, hended, hW, hsame⟩ := X14.leave (v := some (.int (1 : Int32))) (fun h => by rw [Bd.returns] at h; cases h)
  refine ⟨_, _, pre18 _ ?_, hrun, hended, _, _, rfl, ?_, ⟨_, rfl⟩, hW, hsame.mono (by decide) (by decide)⟩
  ·
    show oS p e below T14 (mkF m 46 #[oR a1, oI 1, oR t1, oI 1, oI 1, oI 1, oI c0] [oi 1]) _
    exact retI X14 hx Bd.returns (hb hby d6_46) hr
  ·
    show Q_rm_c5_1_1 Z a1 k1 t1 k2 c0 h0 n0 _ T14.heap _
    rw [e14]
    exact ⟨rfl, N14, K17, V14⟩
theorem d5_57 : decode jdk_52_method_16_code 57 = .ok (.aload_n 3, 1) := by decide +kernel
theorem d5_58 : decode jdk_52_method_16_code 58 = .ok (.areturn, 1) := by decide +kernel
def Q_rm_cmp_1_1 (Z : State) (a1 : Addr) (k1 : ClassId) (c0 : Int32) (h0 : Heap) (n0 : Nat) (v : Option Value) (h : Heap) (L : List Loc) : Prop := ∃ (r : Addr) (kr : ClassId), v = some (.ref r) ∧ Fr n0 L ∧ Keep h0 h [] ∧ h0.size ≤ r ∧ Arv Z h r kr .byte (1 : Int32) [(.int (nar .byte (c0.toInt8.toInt32)))] (.int (0 : Int32))
set_option maxRecDepth 65536 in
set_option maxHeartbeats 40000000 in
theorem rm_cmp_1_1 (l : Launch) (Z : State) (a0 : Array Value) (hw : ∀ d ∈ tables_1, d.before a0 Z = true) (ws : List Jvm.Cond) (a1 : Addr) (k1 : ClassId) (c0 : Int32) (h0 : Heap) (n0 : Nat) (OL : Old Z n0 h0) (AD : Sta Z Z.heap "java/lang/StringUTF16" "$assertionsDisabled" "Z" (.int (1 : Int32))) (HB : Sta Z Z.heap "java/lang/StringUTF16" "HI_BYTE_SHIFT" "I" (.int (0 : Int32))) (LB : Sta Z Z.heap "java/lang/StringUTF16" "LO_BYTE_SHIFT" "I" (.int (8 : Int32))) (V1 : Arv Z h0 a1 k1 .char (1 : Int32) [(.int c0)] (.int (0 : Int32))) (hl0 : ¬ ((255 : Int32) < c0)) (nc0 : nar .char c0 = c0) :
    MetFree l (⟨"java/lang/StringUTF16", "compress", "([CII)[B"⟩ : MethodName) (head1 (Jvm.Cond.code (⟨"java/lang/StringUTF16", "compress", "([CII)[B"⟩ : MethodName) jdk_52_method_16_code 6 (some (.array .byte)) :: ws) ({ frames := 1, cells := 1, slots := 1, locals := 18 } : Room)) (fun a U => a = #[(.ref a1), (.int (0 : Int32)), (.int (1 : Int32))] ∧ Z.Warmed39 U.vm ∧ U.heap = h0) (fun _ _ _ _ _ => True) (fun _ U o U' => ∃ v L, o = .returned v ∧ Q_rm_cmp_1_1 Z a1 k1 c0 h0 n0 v U'.heap L ∧ FrameEnd U o U' L ({ frames := 1, cells := 1, slots := 1, locals := 18 } : Room).cells ({ frames := 1, cells := 1, slots := 1, locals := 18 } : Room).slots) := by
  refine MetFree.of_bodySF (plainFor_of_name pn_java_lang_StringUTF16) hisR ?_
  intro p e s m args below meth c s₁ Bd hml0 hP hK
  obtain ⟨rfl, hZ, hh⟩ := hP
  have hx := Bd.exec
  have hby := Bd.bytes
  have hml : c.maxLocals = 6 := hml0
  have hown : s.vm.findClass "java/lang/StringUTF16" = some m.cls := findClass_of_methodNamed Bd.named
  have hnm := (name_of_methodNamed Bd.named Bd.method).1
  have X0 : Stand p l e ({ frames := 1, cells := 1, slots := 1, locals := 18 } : Room) s m #[(.ref a1), (.int (0 : Int32)), (.int (1 : Int32))] below meth c s₁ [] 0 0 := Stand.of_body Bd
  have e0 : s₁.heap = h0 := by rw [← hh, Bd.state]; rfl
  have N0 := Fr.nil n0
  have pre0 : oL p e below s₁ (mkF m 0 #[oR a1, oI 0, oI 1, oU, oU, oU] []) s₁ (entryFrame m #[(.ref a1), (.int (0 : Int32)), (.int (1 : Int32))] 6) := fun t k => castTop (by first | (simp [entryFrame, mkF, argsToLocals, Value.category]; done) | rfl) k
  have pre11 : oL p e below s₁ (mkF m 1 #[oR a1, oI 0, oI 1, oU, oU, oU] [oi 1]) s₁ (entryFrame m #[(.ref a1), (.int (0 : Int32)), (.int (1 : Int32))] 6) := fun t k => pre0 t (by
    refine XS.iloadN X0.here hx rfl (hb hby d5_0) rfl ?_
    exact k)
  obtain ⟨T12, h12, k12, X12, e12, E12, A12, st12⟩ := newP X0 hx hZ (oW hw 26 rfl) e0 (g := (mkF m 1 #[oR a1, oI 0, oI 1, oU, oU, oU] [oi 1])) rfl (hb hby d5_1) rfl (by decide) (cap := 1) (by decide) (by decide) (by decide) (by decide)
  obtain ⟨b12, g12⟩ : ∃ z, z = h0.size := ⟨_, rfl⟩
  rw [← g12] at A12 st12
  have ne13 : a1 ≠ b12 := Nat.ne_of_lt (Nat.lt_of_lt_of_le V1.lt (Nat.le_of_eq g12.symm))
  have ge_b12 : n0 ≤ b12 := Nat.le_trans (OL.1 ▸ OL.2.1) (Nat.le_of_eq g12.symm)
  have sz_b12 : h0.size ≤ b12 := Nat.le_trans (Keep.refl h0 []).1 (Nat.le_of_eq g12.symm)
  have f14 := V1.ext E12
  have OL15 := OL.ext E12
  have K16 : Keep h0 h12 [] := (Keep.refl h0 []).ext E12
  have V12 : Arv Z h12 b12 k12 .byte (1 : Int32) [(.int (0 : Int32))] (.int (0 : Int32)) := (Arv.new A12 (by decide)).pad (pad_rep [] (.int (0 : Int32)) 1)
  have pre17 : oL p e below T12 (mkF m 9 #[oR a1, oI 0, oI 1, oR b12, oU, oU] [oi 1, oi 0, ow b12, oi 0, ow a1]) s₁ (entryFrame m #[(.ref a1), (.int (0 : Int32)), (.int (1 : Int32))] 6) := fun t k => pre11 t (by
    refine st12 _ ?_
    refine XS.astoreN X12.here hx rfl (hb hby d5_3) rfl rfl (l' := #[oR a1, oI 0, oI 1, oR b12, oU, oU]) rfl ?_
    refine XS.aloadN X12.here hx rfl (hb hby d5_4) rfl rfl ?_
    show oS p e below T12 (mkF m 5 #[oR a1, oI 0, oI 1, oR b12, oU, oU] [ow a1]) _
    refine XS.iloadN X12.here hx rfl (hb hby d5_5) rfl ?_
    refine XS.aloadN X12.here hx rfl (hb hby d5_6) rfl rfl ?_
    refine XS.iconst X12.here hx rfl (hb hby d5_7) ?_
    refine XS.iloadN X12.here hx rfl (hb hby d5_8) rfl ?_
    show oS p e below T12 (mkF m 9 #[oR a1, oI 0, oI 1, oR b12, oU, oU] [oi 1, oi 0, ow b12, oi 0, ow a1]) _
    exact k)
  obtain ⟨_, _, ⟨T18, L18, k18, n18⟩, -, X18, ⟨Lc18, hQ18, l18, y18, z18⟩, st18⟩ := Jvm.LawKit.callS X12 hx (y := (⟨"java/lang/StringUTF16", "compress", "([CI[BII)I"⟩ : MethodName)) hown (mvT hZ (oW hw 27 rfl)) (mvT hZ (oW hw 28 rfl)) (mvT hZ (oW hw 24 rfl)) (mvT hZ (oW hw 29 rfl)) (by decide) (backOf (W := 0) (rm_c5_1_1 l Z a0 hw [] a1 k1 b12 k12 c0 h12 n0 OL15 ge_b12 f14 V12 ne13 hl0) hZ (oW hw 29 rfl) (oW hw 24 rfl) (by decide) (by decide)) (g := (mkF m 9 #[oR a1, oI 0, oI 1, oR b12, oU, oU] [oi 1, oi 0, ow b12, oi 0, ow a1])) rfl (by rw [hml]; rfl) (argsL := [(.ref a1), (.int (0 : Int32)), (.ref b12), (.int (0 : Int32)), (.int (1 : Int32))]) (rest := []) (lenOf pd___CI_BII_I rfl) rfl (by show 2 * 0 + _ ≤ _; exact Nat.le_of_eq rfl) (hb hby d5_9) (fun _ _ => ⟨rfl, e12, (by decide : 1 + 0 ≤ _), (by decide : 1 + 0 ≤ _)⟩)
  dsimp only [Pt.U, Pt.locs, Pt.cells, Pt.slots] at X18 l18 y18 z18 st18 hQ18
  subst l18 y18 z18
  obtain ⟨rfl, N18q, Kq18, Va18⟩ := hQ18
  have N18 := Fr.app N0 N18q
  have f19 := f14.keep Kq18 (ninS ne13 nin0)
  have OL20 := OL15.keep Kq18 (allS ge_b12 all0)
  have K21 : Keep h0 T18.heap [] := K16.trans Kq18 (allS (Or.inr sz_b12) all0)
  have pre22 : oL p e below T18 (mkF m 58 #[oR a1, oI 0, oI 1, oR b12, oI 1, oU] [ow b12]) s₁ (entryFrame m #[(.ref a1), (.int (0 : Int32)), (.int (1 : Int32))] 6) := fun t k => pre17 t (by
    refine st18 _ ?_
    refine XS.istore X18.here hx rfl (hb hby d5_12) rfl (l' := #[oR a1, oI 0, oI 1, oR b12, oI 1, oU]) rfl ?_
    refine XS.iload X18.here hx rfl (hb hby d5_14) rfl ?_
    refine XS.iloadN X18.here hx rfl (hb hby d5_16) rfl ?_
    show oS p e below T18 (mkF m 17 #[oR a1, oI 0, oI 1, oR b12, oI 1, oU] [oi 1, oi 1]) _
    refine XS.icmpYes X18.here hx rfl (pc0 := 17) (pc' := 57) rfl (hb hby d5_17) rfl (teq (by decide : (1 : Int32) = (1 : Int32))).1 (by decide) (by decide) ?_
    refine XS.aloadN X18.here hx rfl (hb hby d5_57) rfl rfl ?_
    exact k)
  obtain ⟨fs, hr, hrun, hended, hW, hsame⟩ := X18.leave (v := some (.ref b12)) (fun h => by rw [Bd.returns] at h; cases h)
  refine ⟨_, _, pre22 _ ?_, hrun, hended, _, _, rfl, ?_, ⟨_, rfl⟩, hW, hsame.mono (by decide) (by decide)⟩
  ·
    show oS p e below T18 (mkF m 58 #[oR a1, oI 0, oI 1, oR b12, oI 1, oU] [ow b12]) _
    jvm_step X18.here [X18.here.top, hx, (hb hby d5_58), X18.method', Bd.returns, Value.isRef, FieldType.isReference]
    first | (intro acts; rw [hr _ acts rfl rfl rfl]) | rw [hr _ _ rfl rfl rfl]
    exact Steps.refl _
  ·
    show Q_rm_cmp_1_1 Z a1 k1 c0 h0 n0 _ T18.heap _
    exact ⟨b12, k12, rfl, N18, K21, sz_b12, Va18⟩
set_option maxRecDepth 65536 in
set_option maxHeartbeats 40000000 in
theorem rm_si_1_1 (l : Launch) (Z : State) (a0 : Array Value) (hw : ∀ d ∈ tables_1, d.before a0 Z = true) (ws : List Jvm.Cond) (a1 : Addr) (a2 : Addr) (k2 : ClassId) (G1 : Int32) (c0 : Int32) (h0 : Heap) (n0 : Nat) (OL : Old Z n0 h0) (AD : Sta Z Z.heap "java/lang/StringUTF16" "$assertionsDisabled" "Z" (.int (1 : Int32))) (HB : Sta Z Z.heap "java/lang/StringUTF16" "HI_BYTE_SHIFT" "I" (.int (0 : Int32))) (LB : Sta Z Z.heap "java/lang/StringUTF16" "LO_BYTE_SHIFT" "I" (.int (8 : Int32))) (O2 : Sta Z Z.heap "java/lang/String" "COMPACT_STRINGS" "Z" (.int G1)) (P5 : ¬ (G1 = (0 : Int32))) (ge1 : n0 ≤ a1) (E1 : Exa Z h0 a1 "java/lang/String") (F1 : Fld Z h0 a1 "java/lang/String" "value" "[B" .null) (F2 : Fld Z h0 a1 "java/lang/String" "coder" "B" (.int (0 : Int32))) (V2 : Arv Z h0 a2 k2 .char (1 : Int32) [(.int c0)] (.int (0 : Int32))) (hl0 : ¬ ((255 : Int32) < c0)) (nc0 : nar .char c0 = c0) :
    MetFree l (⟨"java/lang/String", "<init>", "([CIILjava/lang/Void;)V"⟩ : MethodName) (head1 (Jvm.Cond.code (⟨"java/lang/String", "<init>", "([CIILjava/lang/Void;)V"⟩ : MethodName) jdk_42_method_149_code 6 none :: ws) ({ frames := 4, cells := 2, slots := 3, locals := 57 } : Room)) (fun a U => a = #[(.ref a1), (.ref a2), (.int (0 : Int32)), (.int (1 : Int32)), .null] ∧ Z.Warmed39 U.vm ∧ U.heap = h0) (fun _ _ _ _ _ => True) (fun _ U o U' => ∃ v L, o = .returned v ∧ Q_S1 Z a1 a2 k2 G1 c0 h0 n0 v U'.heap L ∧ FrameEnd U o U' L ({ frames := 4, cells := 2, slots := 3, locals := 57 } : Room).cells ({ frames := 4, cells := 2, slots := 3, locals := 57 } : Room).slots) := by
  refine MetFree.of_bodySF (plainFor_of_name pn_java_lang_String) hisR ?_
  intro p e s m args below meth c s₁ Bd hml0 hP hK
  obtain ⟨rfl, hZ, hh⟩ := hP
  have hx := Bd.exec
  have hby := Bd.bytes
  have hml : c.maxLocals = 6 := hml0
  have hown : s.vm.findClass "java/lang/String" = some m.cls := findClass_of_methodNamed Bd.named
  have hnm := (name_of_methodNamed Bd.named Bd.method).1
  have X0 : Stand p l e ({ frames := 4, cells := 2, slots := 3, locals := 57 } : Room) s m #[(.ref a1), (.ref a2), (.int (0 : Int32)), (.int (1 : Int32)), .null] below meth c s₁ [] 0 0 := Stand.of_body Bd
  have e0 : s₁.heap = h0 := by rw [← hh, Bd.state]; rfl
  have N0 := Fr.nil n0
  have pre0 : oL p e below s₁ (mkF m 0 #[oR a1, oR a2, oI 0, oI 1, oN, oU] []) s₁ (entryFrame m #[(.ref a1), (.ref a2), (.int (0 : Int32)), (.int (1 : Int32)), .null] 6) := fun t k => castTop (by first | (simp [entryFrame, mkF, argsToLocals, Value.category]; done) | rfl) k
  have own_ne : a2 ≠ a1 := (Exa.neArv E1 V2 (oW hw 9 rfl)).symm
  have pre11 : oL p e below s₁ (mkF m 1 #[oR a1, oR a2, oI 0, oI 1, oN, oU] [ow a1]) s₁ (entryFrame m #[(.ref a1), (.ref a2), (.int (0 : Int32)), (.int (1 : Int32)), .null] 6) := fun t k => pre0 t (by
    refine XS.aloadN X0.here hx rfl (hb hby d3_0) rfl rfl ?_
    exact k)
  obtain ⟨T12, X12, e12, st12⟩ := initO X0 hx hZ hown (oW hw 18 rfl) (oW hw 19 rfl) (oW hw 20 rfl) e0 (g := (mkF m 1 #[oR a1, oR a2, oI 0, oI 1, oN, oU] [ow a1])) rfl (by rw [hml]; rfl) rfl (hb hby d3_1) (by decide) (W := 0) (by show 2 * 0 + _ ≤ _; exact Nat.le_of_eq rfl) (by decide)
  have pre13 : oL p e below T12 (mkF m 27 #[oR a1, oR a2, oI 0, oI 1, oN, oU] []) s₁ (entryFrame m #[(.ref a1), (.ref a2), (.int (0 : Int32)), (.int (1 : Int32)), .null] 6) := fun t k => pre11 t (by
    refine st12 _ ?_
    refine XS.iloadN X12.here hx rfl (hb hby d3_4) rfl ?_
    refine XS.ifYes X12.here hx rfl (pc0 := 5) (pc' := 27) rfl (hb hby d3_5) rfl ((if0 _ _).trans (feq (by decide : ¬ ((1 : Int32) = (0 : Int32)))).2) (by decide) (by decide) ?_
    show oS p e below T12 (mkF m 27 #[oR a1, oR a2, oI 0, oI 1, oN, oU] []) _
    exact k)
  obtain ⟨T14, X14, e14, st14⟩ := getS2 X12 hx hZ hown (host := "") (Or.inl (oW hw 21 rfl)) Via.refl e12 (O2.ext OL.2) (g := (mkF m 27 #[oR a1, oR a2, oI 0, oI 1, oN, oU] [])) rfl (hb hby d3_27)
  have pre15 : oL p e below T14 (mkF m 36 #[oR a1, oR a2, oI 0, oI 1, oN, oU] [oi 1, oi 0, ow a2]) s₁ (entryFrame m #[(.ref a1), (.ref a2), (.int (0 : Int32)), (.int (1 : Int32)), .null] 6) := fun t k => pre13 t (by
    refine st14 _ ?_
    refine XS.ifNo X14.here hx rfl (hb hby d3_30) rfl ((if0 _ _).trans (feq P5).1) ?_
    refine XS.aloadN X14.here hx rfl (hb hby d3_33) rfl rfl ?_
    refine XS.iloadN X14.here hx rfl (hb hby d3_34) rfl ?_
    show oS p e below T14 (mkF m 35 #[oR a1, oR a2, oI 0, oI 1, oN, oU] [oi 0, ow a2]) _
    refine XS.iloadN X14.here hx rfl (hb hby d3_35) rfl ?_
    exact k)
  obtain ⟨_, _, ⟨T16, L16, k16, n16⟩, -, X16, ⟨Lc16, hQ16, l16, y16, z16⟩, st16⟩ := Jvm.LawKit.callS X14 hx (y := (⟨"java/lang/StringUTF16", "compress", "([CII)[B"⟩ : MethodName)) hown (mvT hZ (oW hw 22 rfl)) (mvT hZ (oW hw 23 rfl)) (mvT hZ (oW hw 24 rfl)) (mvT hZ (oW hw 25 rfl)) (by decide) (backOf (W := 0) (rm_cmp_1_1 l Z a0 hw [] a2 k2 c0 h0 n0 OL AD HB LB V2 hl0 nc0) hZ (oW hw 25 rfl) (oW hw 24 rfl) (by decide) (by decide)) (g := (mkF m 36 #[oR a1, oR a2, oI 0, oI 1, oN, oU] [oi 1, oi 0, ow a2])) rfl (by rw [hml]; rfl) (argsL := [(.ref a2), (.int (0 : Int32)), (.int (1 : Int32))]) (rest := []) (lenOf pd___CII__B rfl) rfl (by show 2 * 0 + _ ≤ _; exact Nat.le_of_eq rfl) (hb hby d3_36) (fun _ _ => ⟨rfl, e14, (by decide : 0 + 1 ≤ _), (by decide : 0 + 1 ≤ _)⟩)
  dsimp only [Pt.U, Pt.locs, Pt.cells, Pt.slots] at X16 l16 y16 z16 st16 hQ16
  subst l16 y16 z16
  obtain ⟨r16, kr16, rfl, N16q, Kq16, sq16, Va16⟩ := hQ16
  have N16 := Fr.app N0 N16q
  have ne17 : a1 ≠ r16 := Nat.ne_of_lt (Nat.lt_of_lt_of_le E1.lt sq16)
  have ne18 : a2 ≠ r16 := Nat.ne_of_lt (Nat.lt_of_lt_of_le V2.lt sq16)
  have ge_r16 : n0 ≤ r16 := Nat.le_trans (OL.1 ▸ OL.2.1) sq16
  have sz_r16 : h0.size ≤ r16 := Nat.le_trans (Keep.refl h0 [a1]).1 sq16
  have f19 := E1.keep Kq16
  have f20 := F1.keep Kq16 nin0
  have f21 := F2.keep Kq16 nin0
  have f22 := V2.keep Kq16 nin0
  have OL23 := OL.keep Kq16 all0
  have K24 : Keep h0 T16.heap [a1] := (Keep.refl h0 [a1]).trans Kq16 all0
  have pre25 : oL p e below T16 (mkF m 45 #[oR a1, oR a2, oI 0, oI 1, oN, oR r16] [oi 1, ow r16, ow a1]) s₁ (entryFrame m #[(.ref a1), (.ref a2), (.int (0 : Int32)), (.int (1 : Int32)), .null] 6) := fun t k => pre15 t (by
    refine st16 _ ?_
    refine XS.astore X16.here hx rfl (hb hby d3_39) rfl rfl (l' := #[oR a1, oR a2, oI 0, oI 1, oN, oR r16]) rfl ?_
    refine XS.aloadN X16.here hx rfl (hb hby d3_41) rfl rfl ?_
    show oS p e below T16 (mkF m 42 #[oR a1, oR a2, oI 0, oI 1, oN, oR r16] [ow a1]) _
    refine XS.aload X16.here hx rfl (hb hby d3_42) rfl rfl ?_
    refine XS.iloadN X16.here hx rfl (hb hby d3_44) rfl ?_
    exact k)
  obtain ⟨_, _, ⟨T26, L26, k26, n26⟩, -, X26, ⟨Lc26, hQ26, l26, y26, z26⟩, st26⟩ := Jvm.LawKit.callS X16 hx (y := (⟨"java/lang/StringUTF16", "coderFromArrayLen", "([BI)B"⟩ : MethodName)) hown (mvT hZ (oW hw 30 rfl)) (mvT hZ (oW hw 31 rfl)) (mvT hZ (oW hw 24 rfl)) (mvT hZ (oW hw 32 rfl)) (by decide) (backOf (W := 1) (rm_cfl1L l Z a0 hw [] r16 kr16 (nar .byte (c0.toInt8.toInt32)) T16.heap n0 OL23 Va16) hZ (oW hw 32 rfl) (oW hw 24 rfl) (by decide) (by decide)) (g := (mkF m 45 #[oR a1, oR a2, oI 0, oI 1, oN, oR r16] [oi 1, ow r16, ow a1])) rfl (by rw [hml]; rfl) (argsL := [(.ref r16), (.int (1 : Int32))]) (rest := [(.ref a1)]) (lenOf pd___BI_B rfl) rfl (by show 2 * 0 + _ ≤ _; exact Nat.le_of_eq rfl) (hb hby d3_45) (fun _ _ => ⟨rfl, rfl, (by decide : 1 + 0 ≤ _), (by decide : 1 + 0 ≤ _)⟩)
  dsimp only [Pt.U, Pt.locs, Pt.cells, Pt.slots] at X26 l26 y26 z26 st26 hQ26
  subst l26 y26 z26
  obtain ⟨rfl, N26q, e26⟩ := hQ26
  have N26 := Fr.app N16 N26q
  have pre27 : oL p e below T26 (mkF m 48 #[oR a1, oR a2, oI 0, oI 1, oN, oR r16] [oi 0, ow a1]) s₁ (entryFrame m #[(.ref a1), (.ref a2), (.int (0 : Int32)), (.int (1 : Int32)), .null] 6) := fun t k => pre25 t (by
    refine st26 _ ?_
    exact k)
  obtain ⟨T28, h28, X28, e28, W28, st28⟩ := putFN X26 hx hZ hown (oW hw 33 rfl) Via.refl e26 f21 f19 (Or.inr ⟨(oW hw 34 rfl), rfl, hnm⟩) (oW hw 9 rfl) (ty := .byte) (v' := (.int (0 : Int32))) (by decide) rfl rfl (g := (mkF m 48 #[oR a1, oR a2, oI 0, oI 1, oN, oR r16] [oi 0, ow a1])) rfl rfl (hb hby d3_48)
  have f29 := f21.same W28
  have N28 := Fr.snoc X28 N26 ge1
  have f30 := f19.wr W28
  have f31 := f20.other W28 (Or.inr (slot_ne (Or.inr (oW hw 36 rfl)) (Or.inr (oW hw 34 rfl)) (by decide) (t := (.array .byte)) (t' := .byte) (by decide) (by decide)))
  have f32 := f22.other W28 own_ne
  have f33 := Va16.other W28 (Ne.symm ne17)
  have OL34 := OL23.wr W28 ge1
  have K35 : Keep h0 h28 [a1] := K24.wr W28 (Or.inl (List.mem_of_getElem? (i := 0) rfl))
  have pre36 : oL p e below T28 (mkF m 54 #[oR a1, oR a2, oI 0, oI 1, oN, oR r16] [ow r16, ow a1]) s₁ (entryFrame m #[(.ref a1), (.ref a2), (.int (0 : Int32)), (.int (1 : Int32)), .null] 6) := fun t k => pre27 t (by
    refine st28 _ ?_
    show oS p e below T28 (mkF m 51 #[oR a1, oR a2, oI 0, oI 1, oN, oR r16] []) _
    refine XS.aloadN X28.here hx rfl (hb hby d3_51) rfl rfl ?_
    refine XS.aload X28.here hx rfl (hb hby d3_52) rfl rfl ?_
    exact k)
  obtain ⟨T37, h37, X37, e37, W37, st37⟩ := putF X28 hx hZ hown (host := "") (Or.inl (oW hw 35 rfl)) Via.refl e28 f31 f30 (Or.inr ⟨(oW hw 36 rfl), rfl, hnm⟩) (oW hw 9 rfl) (ty := (.array .byte)) (by decide) rfl rfl (g := (mkF m 54 #[oR a1, oR a2, oI 0, oI 1, oN, oR r16] [ow r16, ow a1])) rfl rfl (hb hby d3_54)
  have f38 := f31.same W37
  have N37 := Fr.snoc X37 N28 ge1
  have f39 := f30.wr W37
  have f40 := f29.other W37 (Or.inr (slot_ne (Or.inr (oW hw 34 rfl)) (Or.inr (oW hw 36 rfl)) (by decide) (t := .byte) (t' := (.array .byte)) (by decide) (by decide)))
  have f41 := f32.other W37 own_ne
  have f42 := f33.other W37 (Ne.symm ne17)
  have OL43 := OL34.wr W37 ge1
  have K44 : Keep h0 h37 [a1] := K35.wr W37 (Or.inl (List.mem_of_getElem? (i := 0) rfl))
  have pre45 : oL p e below T37 (mkF m 57 #[oR a1, oR a2, oI 0, oI 1, oN, oR r16] []) s₁ (entryFrame m #[(.ref a1), (.ref a2), (.int (0 : Int32)), (.int (1 : Int32)), .null] 6) := fun t k => pre36 t (by
    refine st37 _ ?_
    exact k)
  obtain ⟨fs, hr, hrun, hended, hW, hsame⟩ := X37.leave (v := none) (fun _ => rfl)
  refine ⟨_, _, pre45 _ ?_, hrun, hended, _, _, rfl, ?_, ⟨_, rfl⟩, hW, hsame.mono (by decide) (by decide)⟩
  ·
    show oS p e below T37 (mkF m 57 #[oR a1, oR a2, oI 0, oI 1, oN, oR r16] []) _
    exact X37.returnOut hx Bd.returns (hb hby d3_57) hr
  ·
    show Q_S1 Z a1 a2 k2 G1 c0 h0 n0 _ T37.heap _
    rw [e37]
    exact ⟨rfl, N37, K44, f39, (0 : Int32), r16, kr16, (1 : Int32), [(.int (nar .byte (c0.toInt8.toInt32)))], f40, sz_r16, fun q => ne17 q.symm, f38, f42, Or.inl ⟨rfl, rfl, rfl, hl0⟩⟩
set_option maxRecDepth 65536 in
set_option maxHeartbeats 40000000 in
theorem rm_s_1_1 (l : Launch) (Z : State) (a0 : Array Value) (hw : ∀ d ∈ tables_1, d.before a0 Z = true) (ws : List Jvm.Cond) (a1 : Addr) (a2 : Addr) (k2 : ClassId) (G1 : Int32) (c0 : Int32) (h0 : Heap) (n0 : Nat) (OL : Old Z n0 h0) (AD : Sta Z Z.heap "java/lang/StringUTF16" "$assertionsDisabled" "Z" (.int (1 : Int32))) (HB : Sta Z Z.heap "java/lang/StringUTF16" "HI_BYTE_SHIFT" "I" (.int (0 : Int32))) (LB : Sta Z Z.heap "java/lang/StringUTF16" "LO_BYTE_SHIFT" "I" (.int (8 : Int32))) (O2 : Sta Z Z.heap "java/lang/String" "COMPACT_STRINGS" "Z" (.int G1)) (P5 : ¬ (G1 = (0 : Int32))) (ge1 : n0 ≤ a1) (E1 : Exa Z h0 a1 "java/lang/String") (F1 : Fld Z h0 a1 "java/lang/String" "value" "[B" .null) (F2 : Fld Z h0 a1 "java/lang/String" "coder" "B" (.int (0 : Int32))) (V2 : Arv Z h0 a2 k2 .char (1 : Int32) [(.int c0)] (.int (0 : Int32))) (hl0 : ¬ ((255 : Int32) < c0)) (nc0 : nar .char c0 = c0) :
    MetFree l (⟨"java/lang/String", "<init>", "([C)V"⟩ : MethodName) (head1 (Jvm.Cond.code (⟨"java/lang/String", "<init>", "([C)V"⟩ : MethodName) jdk_42_method_3_code 2 none :: ws) ({ frames := 5, cells := 2, slots := 3, locals := 74 } : Room)) (fun a U => a = #[(.ref a1), (.ref a2)] ∧ Z.Warmed39 U.vm ∧ U.heap = h0) (fun _ _ _ _ _ => True) (fun _ U o U' => ∃ v L, o = .returned v ∧ Q_S1 Z a1 a2 k2 G1 c0 h0 n0 v U'.heap L ∧ FrameEnd U o U' L ({ frames := 5, cells := 2, slots := 3, locals := 74 } : Room).cells ({ frames := 5, cells := 2, slots := 3, locals := 74 } : Room).slots) := by
  refine MetFree.of_bodySF (plainFor_of_name pn_java_lang_String) hisR ?_
  intro p e s m args below meth c s₁ Bd hml0 hP hK
  obtain ⟨rfl, hZ, hh⟩ := hP
  have hx := Bd.exec
  have hby := Bd.bytes
  have hml : c.maxLocals = 2 := hml0
  have hown : s.vm.findClass "java/lang/String" = some m.cls := findClass_of_methodNamed Bd.named
  have hnm := (name_of_methodNamed Bd.named Bd.method).1
  have X0 : Stand p l e ({ frames := 5, cells := 2, slots := 3, locals := 74 } : Room) s m #[(.ref a1), (.ref a2)] below meth c s₁ [] 0 0 := Stand.of_body Bd
  have e0 : s₁.heap = h0 := by rw [← hh, Bd.state]; rfl
  have N0 := Fr.nil n0
  have pre0 : oL p e below s₁ (mkF m 0 #[oR a1, oR a2] []) s₁ (entryFrame m #[(.ref a1), (.ref a2)] 2) := fun t k => castTop (by first | (simp [entryFrame, mkF, argsToLocals, Value.category]; done) | rfl) k
  have own_ne : a2 ≠ a1 := (Exa.neArv E1 V2 (oW hw 9 rfl)).symm
  have pre12 : oL p e below s₁ (mkF m 4 #[oR a1, oR a2] [ow a2, oi 0, ow a2, ow a1]) s₁ (entryFrame m #[(.ref a1), (.ref a2)] 2) := fun t k => pre0 t (by
    refine XS.aloadN X0.here hx rfl (hb hby d2_0) rfl rfl ?_
    refine XS.aloadN X0.here hx rfl (hb hby d2_1) rfl rfl ?_
    refine XS.iconst X0.here hx rfl (hb hby d2_2) ?_
    refine XS.aloadN X0.here hx rfl (hb hby d2_3) rfl rfl ?_
    show oS p e below s₁ (mkF m 4 #[oR a1, oR a2] [ow a2, oi 0, ow a2, ow a1]) _
    exact k)
  obtain ⟨cl11, Ar11, -, Sz11, Nn11, -, -⟩ := id V2
  have pre13 : oL p e below s₁ (mkF m 6 #[oR a1, oR a2] [.null, oi 1, oi 0, ow a2, ow a1]) s₁ (entryFrame m #[(.ref a1), (.ref a2)] 2) := fun t k => pre12 t (by
    refine X0.arraylength hx (by rw [e0]; exact Ar11.1) (State.isArrayOf_alike hZ.alike Ar11.2.1) (g := (mkF m 4 #[oR a1, oR a2] [ow a2, oi 0, ow a2, ow a1])) rfl rfl (hb hby d2_4) _ ?_
    rw [len_of Sz11 Nn11]
    refine XS.aconstNull X0.here hx rfl (hb hby d2_5) ?_
    exact k)
  obtain ⟨_, _, ⟨T14, L14, k14, n14⟩, -, X14, ⟨Lc14, hQ14, l14, y14, z14⟩, st14⟩ := X0.specialBack hx (y := (⟨"java/lang/String", "<init>", "([CIILjava/lang/Void;)V"⟩ : MethodName)) rfl hown (mvT hZ (oW hw 14 rfl)) (mvT hZ (oW hw 15 rfl)) (mvT hZ (oW hw 17 rfl)) (by decide) (backOf (W := 0) (rm_si_1_1 l Z a0 hw [] a1 a2 k2 G1 c0 h0 n0 OL AD HB LB O2 P5 ge1 E1 F1 F2 V2 hl0 nc0) hZ (oW hw 17 rfl) (oW hw 10 rfl) (by decide) (by decide)) (g := (mkF m 6 #[oR a1, oR a2] [.null, oi 1, oi 0, ow a2, ow a1])) rfl (by rw [hml]; rfl) (Steps.refl _) (a := a1) (argsL := [(.ref a2), (.int (0 : Int32)), (.int (1 : Int32)), .null]) (rest := []) (lenOf pd___CIILjava_lang_Void__V rfl) rfl (by show 2 * 0 + _ ≤ _; exact Nat.le_of_eq rfl) (hb hby d2_6) (fun _ _ => ⟨rfl, e0, (by decide : 0 + 2 ≤ _), (by decide : 0 + 3 ≤ _)⟩)
  dsimp only [Pt.U, Pt.locs, Pt.cells, Pt.slots] at X14 l14 y14 z14 st14 hQ14
  subst l14 y14 z14
  obtain ⟨rfl, N14q, Kq14, Eq14, cd14, tt14, kb14, Nx14, vs14, Fc14, sq14, nx14, Fv14, Va14, ou14⟩ := hQ14
  have N14 := Fr.app N0 N14q
  have f15 := E1.keep Kq14
  have f16 := V2.keep Kq14 (ninS own_ne nin0)
  have OL17 := OL.keep Kq14 (allS ge1 all0)
  have K18 : Keep h0 T14.heap [a1] := (Keep.refl h0 [a1]).trans Kq14 (allS (Or.inl (List.mem_of_getElem? (i := 0) rfl)) all0)
  have pre19 : oL p e below T14 (mkF m 9 #[oR a1, oR a2] []) s₁ (entryFrame m #[(.ref a1), (.ref a2)] 2) := fun t k => pre13 t (by
    refine st14.trans ?_
    exact k)
  obtain ⟨fs, hr, hrun, hended, hW, hsame⟩ := X14.leave (v := none) (fun _ => rfl)
  refine ⟨_, _, pre19 _ ?_, hrun, hended, _, _, rfl, ?_, ⟨_, rfl⟩, hW, hsame.mono (by decide) (by decide)⟩
  ·
    show oS p e below T14 (mkF m 9 #[oR a1, oR a2] []) _
    exact X14.returnOut hx Bd.returns (hb hby d2_9) hr
  ·
    show Q_S1 Z a1 a2 k2 G1 c0 h0 n0 _ T14.heap _
    exact ⟨rfl, N14, K18, Eq14, cd14, tt14, kb14, Nx14, vs14, Fc14, Nat.le_trans (Keep.refl h0 [a1]).1 sq14, nx14, Fv14, Va14, ou14⟩
theorem rm_S1 (l : Launch) (Z : State) (a0 : Array Value) (hw : ∀ d ∈ tables_1, d.before a0 Z = true) (ws : List Jvm.Cond) (a1 : Addr) (a2 : Addr) (k2 : ClassId) (G1 : Int32) (c0 : Int32) (h0 : Heap) (n0 : Nat) (OL : Old Z n0 h0) (AD : Sta Z Z.heap "java/lang/StringUTF16" "$assertionsDisabled" "Z" (.int (1 : Int32))) (HB : Sta Z Z.heap "java/lang/StringUTF16" "HI_BYTE_SHIFT" "I" (.int (0 : Int32))) (LB : Sta Z Z.heap "java/lang/StringUTF16" "LO_BYTE_SHIFT" "I" (.int (8 : Int32))) (O2 : Sta Z Z.heap "java/lang/String" "COMPACT_STRINGS" "Z" (.int G1)) (P5 : ¬ (G1 = (0 : Int32))) (ge1 : n0 ≤ a1) (E1 : Exa Z h0 a1 "java/lang/String") (F1 : Fld Z h0 a1 "java/lang/String" "value" "[B" .null) (F2 : Fld Z h0 a1 "java/lang/String" "coder" "B" (.int (0 : Int32))) (V2 : Arv Z h0 a2 k2 .char (1 : Int32) [(.int c0)] (.int (0 : Int32))) (nc0 : nar .char c0 = c0) :
    MetFree l (⟨"java/lang/String", "<init>", "([C)V"⟩ : MethodName) (head1 (Jvm.Cond.code (⟨"java/lang/String", "<init>", "([C)V"⟩ : MethodName) jdk_42_method_3_code 2 none :: ws) ({ frames := 5, cells := 2, slots := 3, locals := 74 } : Room)) (fun a U => a = #[.ref a1, .ref a2] ∧ Z.Warmed39 U.vm ∧ U.heap = h0) (fun _ _ _ _ _ => True) (fun _ U o U' => ∃ v L, o = .returned v ∧ Q_S1 Z a1 a2 k2 G1 c0 h0 n0 v U'.heap L ∧ FrameEnd U o U' L ({ frames := 5, cells := 2, slots := 3, locals := 74 } : Room).cells ({ frames := 5, cells := 2, slots := 3, locals := 74 } : Room).slots) := by
  by_cases q0 : (255 : Int32) < c0
  · exact rm_s_1_0 l Z a0 hw ws a1 a2 k2 G1 c0 h0 n0 OL AD HB LB O2 P5 ge1 E1 F1 F2 V2  q0 nc0
  exact rm_s_1_1 l Z a0 hw ws a1 a2 k2 G1 c0 h0 n0 OL AD HB LB O2 P5 ge1 E1 F1 F2 V2 q0 nc0
def Q_rm_put2_0 (Z : State) (t1 : Addr) (k1 : ClassId) (cq : Int32) (y0 : Int32) (y1 : Int32) (y2 : Int32) (y3 : Int32) (h0 : Heap) (n0 : Nat) (v : Option Value) (h : Heap) (L : List Loc) : Prop := v = none ∧ Fr n0 L ∧ Keep h0 h [t1] ∧ Arv Z h t1 k1 .byte (4 : Int32) [(.int (own_hb cq)), (.int (own_lb cq)), (.int y2), (.int y3)] (.int (0 : Int32))
set_option maxRecDepth 65536 in
set_option maxHeartbeats 40000000 in
theorem rm_put2_0 (l : Launch) (Z : State) (a0 : Array Value) (hw : ∀ d ∈ tables_1, d.before a0 Z = true) (ws : List Jvm.Cond) (t1 : Addr) (k1 : ClassId) (cq : Int32) (y0 : Int32) (y1 : Int32) (y2 : Int32) (y3 : Int32) (h0 : Heap) (n0 : Nat) (OL : Old Z n0 h0) (AD : Sta Z Z.heap "java/lang/StringUTF16" "$assertionsDisabled" "Z" (.int (1 : Int32))) (HB : Sta Z Z.heap "java/lang/StringUTF16" "HI_BYTE_SHIFT" "I" (.int (0 : Int32))) (LB : Sta Z Z.heap "java/lang/StringUTF16" "LO_BYTE_SHIFT" "I" (.int (8 : Int32))) (ge1 : n0 ≤ t1) (V1 : Arv Z h0 t1 k1 .byte (4 : Int32) [(.int y0), (.int y1), (.int y2), (.int y3)] (.int (0 : Int32))) :
    MetFree l (⟨"java/lang/StringUTF16", "putChar", "([BII)V"⟩ : MethodName) (head1 (Jvm.Cond.code (⟨"java/lang/StringUTF16", "putChar", "([BII)V"⟩ : MethodName) jdk_52_method_4_code 3 none :: ws) ({ frames := 0, cells := 0, slots := 0, locals := 0 } : Room)) (fun a U => a = #[(.ref t1), (.int (0 : Int32)), (.int cq)] ∧ Z.Warmed39 U.vm ∧ U.heap = h0) (fun _ _ _ _ _ => True) (fun _ U o U' => ∃ v L, o = .returned v ∧ Q_rm_put2_0 Z t1 k1 cq y0 y1 y2 y3 h0 n0 v U'.heap L ∧ FrameEnd U o U' L ({ frames := 0, cells := 0, slots := 0, locals := 0 } : Room).cells ({ frames := 0, cells := 0, slots := 0, locals := 0 } : Room).slots) := by
  refine MetFree.of_bodySF (plainFor_of_name pn_java_lang_StringUTF16) hisR ?_
  intro p e s m args below meth c s₁ Bd hml0 hP hK
  obtain ⟨rfl, hZ, hh⟩ := hP
  have hx := Bd.exec
  have hby := Bd.bytes
  have hml : c.maxLocals = 3 := hml0
  have hown : s.vm.findClass "java/lang/StringUTF16" = some m.cls := findClass_of_methodNamed Bd.named
  have hnm := (name_of_methodNamed Bd.named Bd.method).1
  have X0 : Stand p l e ({ frames := 0, cells := 0, slots := 0, locals := 0 } : Room) s m #[(.ref t1), (.int (0 : Int32)), (.int cq)] below meth c s₁ [] 0 0 := Stand.of_body Bd
  have e0 : s₁.heap = h0 := by rw [← hh, Bd.state]; rfl
  have N0 := Fr.nil n0
  have pre0 : oL p e below s₁ (mkF m 0 #[oR t1, oI 0, oI cq] []) s₁ (entryFrame m #[(.ref t1), (.int (0 : Int32)), (.int cq)] 3) := fun t k => castTop (by first | (simp [entryFrame, mkF, argsToLocals, Value.category]; done) | rfl) k
  obtain ⟨T11, X11, e11, st11⟩ := getS2 X0 hx hZ hown (host := "") (Or.inl (oW hw 73 rfl)) Via.refl e0 (AD.ext OL.2) (g := (mkF m 0 #[oR t1, oI 0, oI cq] [])) rfl (hb hby d14_0)
  have pre12 : oL p e below T11 (mkF m 38 #[oR t1, oI 1, oI cq] [oi cq, oi 0, ow t1]) s₁ (entryFrame m #[(.ref t1), (.int (0 : Int32)), (.int cq)] 3) := fun t k => pre0 t (by
    refine st11 _ ?_
    refine XS.ifYes X11.here hx rfl (pc0 := 3) (pc' := 28) rfl (hb hby d14_3) rfl ((if0 _ _).trans (feq (by decide : ¬ ((1 : Int32) = (0 : Int32)))).2) (by decide) (by decide) ?_
    refine XS.iloadN X11.here hx rfl (hb hby d14_28) rfl ?_
    refine XS.iconst X11.here hx rfl (hb hby d14_29) ?_
    show oS p e below T11 (mkF m 30 #[oR t1, oI 0, oI cq] [oi 1, oi 0]) _
    refine XS.ishl X11.here hx rfl (hb hby d14_30) rfl ?_
    refine XS.istoreN X11.here hx rfl (hb hby d14_31) rfl (l' := #[oR t1, oI 0, oI cq]) rfl ?_
    refine XS.aloadN X11.here hx rfl (hb hby d14_32) rfl rfl ?_
    refine XS.iloadN X11.here hx rfl (hb hby d14_33) rfl ?_
    show oS p e below T11 (mkF m 34 #[oR t1, oI 0, oI cq] [oi 0, ow t1]) _
    refine XS.iinc X11.here hx rfl (hb hby d14_34) rfl (l' := #[oR t1, oI 1, oI cq]) rfl ?_
    refine XS.iloadN X11.here hx rfl (hb hby d14_37) rfl ?_
    exact k)
  obtain ⟨T13, X13, e13, st13⟩ := getS2 X11 hx hZ hown (host := "") (Or.inl (oW hw 74 rfl)) Via.refl e11 (HB.ext OL.2) (g := (mkF m 38 #[oR t1, oI 1, oI cq] [oi cq, oi 0, ow t1])) rfl (hb hby d14_38)
  have pre14 : oL p e below T13 (mkF m 43 #[oR t1, oI 1, oI cq] [oi ((cq >>> ((0 : Int32) &&& 31)).toInt8.toInt32), oi 0, ow t1]) s₁ (entryFrame m #[(.ref t1), (.int (0 : Int32)), (.int cq)] 3) := fun t k => pre12 t (by
    refine st13 _ ?_
    refine XS.ishr X13.here hx rfl (hb hby d14_41) rfl ?_
    show oS p e below T13 (mkF m 42 #[oR t1, oI 1, oI cq] [oi (cq >>> ((0 : Int32) &&& 31)), oi 0, ow t1]) _
    refine XS.i2b X13.here hx rfl (hb hby d14_42) rfl ?_
    exact k)
  obtain ⟨cl15, Ar15, qc15, Sz15, Nn15, Hs15, Gs15⟩ := id V1
  obtain ⟨T15, h15, X15, e15, W15, st15⟩ := stB X13 hx hZ e13 Ar15 (j := (0 : Int32)) (inb_of Sz15 ⟨by decide, by decide⟩) (g := (mkF m 43 #[oR t1, oI 1, oI cq] [oi ((cq >>> ((0 : Int32) &&& 31)).toInt8.toInt32), oi 0, ow t1])) rfl rfl (hb hby d14_43)
  have V15 : Arv Z h15 t1 k1 .byte (4 : Int32) [(.int (nar .byte ((cq >>> ((0 : Int32) &&& 31)).toInt8.toInt32))), (.int y1), (.int y2), (.int y3)] (.int (0 : Int32)) := Arv.set Ar15 qc15 Sz15 Nn15 Hs15 Gs15 (fits_nar_byte _) W15 0 rfl (Nat.le_of_ble_eq_true rfl)
  have N15 := Fr.snoc X15 N0 ge1
  have OL16 := OL.wr W15 ge1
  have K17 : Keep h0 h15 [t1] := (Keep.refl h0 [t1]).wr W15 (Or.inl (List.mem_of_getElem? (i := 0) rfl))
  have pre18 : oL p e below T15 (mkF m 47 #[oR t1, oI 1, oI cq] [oi cq, oi 1, ow t1]) s₁ (entryFrame m #[(.ref t1), (.int (0 : Int32)), (.int cq)] 3) := fun t k => pre14 t (by
    refine st15 _ ?_
    refine XS.aloadN X15.here hx rfl (hb hby d14_44) rfl rfl ?_
    refine XS.iloadN X15.here hx rfl (hb hby d14_45) rfl ?_
    show oS p e below T15 (mkF m 46 #[oR t1, oI 1, oI cq] [oi 1, ow t1]) _
    refine XS.iloadN X15.here hx rfl (hb hby d14_46) rfl ?_
    exact k)
  obtain ⟨T19, X19, e19, st19⟩ := getS2 X15 hx hZ hown (host := "") (Or.inl (oW hw 75 rfl)) Via.refl e15 (LB.ext OL16.2) (g := (mkF m 47 #[oR t1, oI 1, oI cq] [oi cq, oi 1, ow t1])) rfl (hb hby d14_47)
  have pre20 : oL p e below T19 (mkF m 52 #[oR t1, oI 1, oI cq] [oi ((cq >>> ((8 : Int32) &&& 31)).toInt8.toInt32), oi 1, ow t1]) s₁ (entryFrame m #[(.ref t1), (.int (0 : Int32)), (.int cq)] 3) := fun t k => pre18 t (by
    refine st19 _ ?_
    refine XS.ishr X19.here hx rfl (hb hby d14_50) rfl ?_
    refine XS.i2b X19.here hx rfl (hb hby d14_51) rfl ?_
    show oS p e below T19 (mkF m 52 #[oR t1, oI 1, oI cq] [oi ((cq >>> ((8 : Int32) &&& 31)).toInt8.toInt32), oi 1, ow t1]) _
    exact k)
  obtain ⟨cl21, Ar21, qc21, Sz21, Nn21, Hs21, Gs21⟩ := id V15
  obtain ⟨T21, h21, X21, e21, W21, st21⟩ := stB X19 hx hZ e19 Ar21 (j := (1 : Int32)) (inb_of Sz21 ⟨by decide, by decide⟩) (g := (mkF m 52 #[oR t1, oI 1, oI cq] [oi ((cq >>> ((8 : Int32) &&& 31)).toInt8.toInt32), oi 1, ow t1])) rfl rfl (hb hby d14_52)
  have V21 : Arv Z h21 t1 k1 .byte (4 : Int32) [(.int (nar .byte ((cq >>> ((0 : Int32) &&& 31)).toInt8.toInt32))), (.int (nar .byte ((cq >>> ((8 : Int32) &&& 31)).toInt8.toInt32))), (.int y2), (.int y3)] (.int (0 : Int32)) := Arv.set Ar21 qc21 Sz21 Nn21 Hs21 Gs21 (fits_nar_byte _) W21 1 rfl (Nat.le_of_ble_eq_true rfl)
  have N21 := Fr.snoc X21 N15 ge1
  have OL22 := OL16.wr W21 ge1
  have K23 : Keep h0 h21 [t1] := K17.wr W21 (Or.inl (List.mem_of_getElem? (i := 0) rfl))
  have pre24 : oL p e below T21 (mkF m 53 #[oR t1, oI 1, oI cq] []) s₁ (entryFrame m #[(.ref t1), (.int (0 : Int32)), (.int cq)] 3) := fun t k => pre20 t (by
    refine st21 _ ?_
    exact k)
  obtain ⟨fs, hr, hrun, hended, hW, hsame⟩ := X21.leave (v := none) (fun _ => rfl)
  refine ⟨_, _, pre24 _ ?_, hrun, hended, _, _, rfl, ?_, ⟨_, rfl⟩, hW, hsame.mono (by decide) (by decide)⟩
  ·
    show oS p e below T21 (mkF m 53 #[oR t1, oI 1, oI cq] []) _
    exact X21.returnOut hx Bd.returns (hb hby d14_53) hr
  ·
    show Q_rm_put2_0 Z t1 k1 cq y0 y1 y2 y3 h0 n0 _ T21.heap _
    rw [e21]
    exact ⟨rfl, N21, K23, V21⟩
def Q_rm_put2_1 (Z : State) (t1 : Addr) (k1 : ClassId) (cq : Int32) (y0 : Int32) (y1 : Int32) (y2 : Int32) (y3 : Int32) (h0 : Heap) (n0 : Nat) (v : Option Value) (h : Heap) (L : List Loc) : Prop := v = none ∧ Fr n0 L ∧ Keep h0 h [t1] ∧ Arv Z h t1 k1 .byte (4 : Int32) [(.int y0), (.int y1), (.int (own_hb cq)), (.int (own_lb cq))] (.int (0 : Int32))
set_option maxRecDepth 65536 in
set_option maxHeartbeats 40000000 in
theorem rm_put2_1 (l : Launch) (Z : State) (a0 : Array Value) (hw : ∀ d ∈ tables_1, d.before a0 Z = true) (ws : List Jvm.Cond) (t1 : Addr) (k1 : ClassId) (cq : Int32) (y0 : Int32) (y1 : Int32) (y2 : Int32) (y3 : Int32) (h0 : Heap) (n0 : Nat) (OL : Old Z n0 h0) (AD : Sta Z Z.heap "java/lang/StringUTF16" "$assertionsDisabled" "Z" (.int (1 : Int32))) (HB : Sta Z Z.heap "java/lang/StringUTF16" "HI_BYTE_SHIFT" "I" (.int (0 : Int32))) (LB : Sta Z Z.heap "java/lang/StringUTF16" "LO_BYTE_SHIFT" "I" (.int (8 : Int32))) (ge1 : n0 ≤ t1) (V1 : Arv Z h0 t1 k1 .byte (4 : Int32) [(.int y0), (.int y1), (.int y2), (.int y3)] (.int (0 : Int32))) :
    MetFree l (⟨"java/lang/StringUTF16", "putChar", "([BII)V"⟩ : MethodName) (head1 (Jvm.Cond.code (⟨"java/lang/StringUTF16", "putChar", "([BII)V"⟩ : MethodName) jdk_52_method_4_code 3 none :: ws) ({ frames := 0, cells := 0, slots := 0, locals := 0 } : Room)) (fun a U => a = #[(.ref t1), (.int (1 : Int32)), (.int cq)] ∧ Z.Warmed39 U.vm ∧ U.heap = h0) (fun _ _ _ _ _ => True) (fun _ U o U' => ∃ v L, o = .returned v ∧ Q_rm_put2_1 Z t1 k1 cq y0 y1 y2 y3 h0 n0 v U'.heap L ∧ FrameEnd U o U' L ({ frames := 0, cells := 0, slots := 0, locals := 0 } : Room).cells ({ frames := 0, cells := 0, slots := 0, locals := 0 } : Room).slots) := by
  refine MetFree.of_bodySF (plainFor_of_name pn_java_lang_StringUTF16) hisR ?_
  intro p e s m args below meth c s₁ Bd hml0 hP hK
  obtain ⟨rfl, hZ, hh⟩ := hP
  have hx := Bd.exec
  have hby := Bd.bytes
  have hml : c.maxLocals = 3 := hml0
  have hown : s.vm.findClass "java/lang/StringUTF16" = some m.cls := findClass_of_methodNamed Bd.named
  have hnm := (name_of_methodNamed Bd.named Bd.method).1
  have X0 : Stand p l e ({ frames := 0, cells := 0, slots := 0, locals := 0 } : Room) s m #[(.ref t1), (.int (1 : Int32)), (.int cq)] below meth c s₁ [] 0 0 := Stand.of_body Bd
  have e0 : s₁.heap = h0 := by rw [← hh, Bd.state]; rfl
  have N0 := Fr.nil n0
  have pre0 : oL p e below s₁ (mkF m 0 #[oR t1, oI 1, oI cq] []) s₁ (entryFrame m #[(.ref t1), (.int (1 : Int32)), (.int cq)] 3) := fun t k => castTop (by first | (simp [entryFrame, mkF, argsToLocals, Value.category]; done) | rfl) k
  obtain ⟨T11, X11, e11, st11⟩ := getS2 X0 hx hZ hown (host := "") (Or.inl (oW hw 73 rfl)) Via.refl e0 (AD.ext OL.2) (g := (mkF m 0 #[oR t1, oI 1, oI cq] [])) rfl (hb hby d14_0)
  have pre12 : oL p e below T11 (mkF m 38 #[oR t1, oI 3, oI cq] [oi cq, oi 2, ow t1]) s₁ (entryFrame m #[(.ref t1), (.int (1 : Int32)), (.int cq)] 3) := fun t k => pre0 t (by
    refine st11 _ ?_
    refine XS.ifYes X11.here hx rfl (pc0 := 3) (pc' := 28) rfl (hb hby d14_3) rfl ((if0 _ _).trans (feq (by decide : ¬ ((1 : Int32) = (0 : Int32)))).2) (by decide) (by decide) ?_
    refine XS.iloadN X11.here hx rfl (hb hby d14_28) rfl ?_
    refine XS.iconst X11.here hx rfl (hb hby d14_29) ?_
    show oS p e below T11 (mkF m 30 #[oR t1, oI 1, oI cq] [oi 1, oi 1]) _
    refine XS.ishl X11.here hx rfl (hb hby d14_30) rfl ?_
    refine XS.istoreN X11.here hx rfl (hb hby d14_31) rfl (l' := #[oR t1, oI 2, oI cq]) rfl ?_
    refine XS.aloadN X11.here hx rfl (hb hby d14_32) rfl rfl ?_
    refine XS.iloadN X11.here hx rfl (hb hby d14_33) rfl ?_
    show oS p e below T11 (mkF m 34 #[oR t1, oI 2, oI cq] [oi 2, ow t1]) _
    refine XS.iinc X11.here hx rfl (hb hby d14_34) rfl (l' := #[oR t1, oI 3, oI cq]) rfl ?_
    refine XS.iloadN X11.here hx rfl (hb hby d14_37) rfl ?_
    exact k)
  obtain ⟨T13, X13, e13, st13⟩ := getS2 X11 hx hZ hown (host := "") (Or.inl (oW hw 74 rfl)) Via.refl e11 (HB.ext OL.2) (g := (mkF m 38 #[oR t1, oI 3, oI cq] [oi cq, oi 2, ow t1])) rfl (hb hby d14_38)
  have pre14 : oL p e below T13 (mkF m 43 #[oR t1, oI 3, oI cq] [oi ((cq >>> ((0 : Int32) &&& 31)).toInt8.toInt32), oi 2, ow t1]) s₁ (entryFrame m #[(.ref t1), (.int (1 : Int32)), (.int cq)] 3) := fun t k => pre12 t (by
    refine st13 _ ?_
    refine XS.ishr X13.here hx rfl (hb hby d14_41) rfl ?_
    show oS p e below T13 (mkF m 42 #[oR t1, oI 3, oI cq] [oi (cq >>> ((0 : Int32) &&& 31)), oi 2, ow t1]) _
    refine XS.i2b X13.here hx rfl (hb hby d14_42) rfl ?_
    exact k)
  obtain ⟨cl15, Ar15, qc15, Sz15, Nn15, Hs15, Gs15⟩ := id V1
  obtain ⟨T15, h15, X15, e15, W15, st15⟩ := stB X13 hx hZ e13 Ar15 (j := (2 : Int32)) (inb_of Sz15 ⟨by decide, by decide⟩) (g := (mkF m 43 #[oR t1, oI 3, oI cq] [oi ((cq >>> ((0 : Int32) &&& 31)).toInt8.toInt32), oi 2, ow t1])) rfl rfl (hb hby d14_43)
  have V15 : Arv Z h15 t1 k1 .byte (4 : Int32) [(.int y0), (.int y1), (.int (nar .byte ((cq >>> ((0 : Int32) &&& 31)).toInt8.toInt32))), (.int y3)] (.int (0 : Int32)) := Arv.set Ar15 qc15 Sz15 Nn15 Hs15 Gs15 (fits_nar_byte _) W15 2 rfl (Nat.le_of_ble_eq_true rfl)
  have N15 := Fr.snoc X15 N0 ge1
  have OL16 := OL.wr W15 ge1
  have K17 : Keep h0 h15 [t1] := (Keep.refl h0 [t1]).wr W15 (Or.inl (List.mem_of_getElem? (i := 0) rfl))
  have pre18 : oL p e below T15 (mkF m 47 #[oR t1, oI 3, oI cq] [oi cq, oi 3, ow t1]) s₁ (entryFrame m #[(.ref t1), (.int (1 : Int32)), (.int cq)] 3) := fun t k => pre14 t (by
    refine st15 _ ?_
    refine XS.aloadN X15.here hx rfl (hb hby d14_44) rfl rfl ?_
    refine XS.iloadN X15.here hx rfl (hb hby d14_45) rfl ?_
    show oS p e below T15 (mkF m 46 #[oR t1, oI 3, oI cq] [oi 3, ow t1]) _
    refine XS.iloadN X15.here hx rfl (hb hby d14_46) rfl ?_
    exact k)
  obtain ⟨T19, X19, e19, st19⟩ := getS2 X15 hx hZ hown (host := "") (Or.inl (oW hw 75 rfl)) Via.refl e15 (LB.ext OL16.2) (g := (mkF m 47 #[oR t1, oI 3, oI cq] [oi cq, oi 3, ow t1])) rfl (hb hby d14_47)
  have pre20 : oL p e below T19 (mkF m 52 #[oR t1, oI 3, oI cq] [oi ((cq >>> ((8 : Int32) &&& 31)).toInt8.toInt32), oi 3, ow t1]) s₁ (entryFrame m #[(.ref t1), (.int (1 : Int32)), (.int cq)] 3) := fun t k => pre18 t (by
    refine st19 _ ?_
    refine XS.ishr X19.here hx rfl (hb hby d14_50) rfl ?_
    refine XS.i2b X19.here hx rfl (hb hby d14_51) rfl ?_
    show oS p e below T19 (mkF m 52 #[oR t1, oI 3, oI cq] [oi ((cq >>> ((8 : Int32) &&& 31)).toInt8.toInt32), oi 3, ow t1]) _
    exact k)
  obtain ⟨cl21, Ar21, qc21, Sz21, Nn21, Hs21, Gs21⟩ := id V15
  obtain ⟨T21, h21, X21, e21, W21, st21⟩ := stB X19 hx hZ e19 Ar21 (j := (3 : Int32)) (inb_of Sz21 ⟨by decide, by decide⟩) (g := (mkF m 52 #[oR t1, oI 3, oI cq] [oi ((cq >>> ((8 : Int32) &&& 31)).toInt8.toInt32), oi 3, ow t1])) rfl rfl (hb hby d14_52)
  have V21 : Arv Z h21 t1 k1 .byte (4 : Int32) [(.int y0), (.int y1), (.int (nar .byte ((cq >>> ((0 : Int32) &&& 31)).toInt8.toInt32))), (.int (nar .byte ((cq >>> ((8 : Int32) &&& 31)).toInt8.toInt32)))] (.int (0 : Int32)) := Arv.set Ar21 qc21 Sz21 Nn21 Hs21 Gs21 (fits_nar_byte _) W21 3 rfl (Nat.le_of_ble_eq_true rfl)
  have N21 := Fr.snoc X21 N15 ge1
  have OL22 := OL16.wr W21 ge1
  have K23 : Keep h0 h21 [t1] := K17.wr W21 (Or.inl (List.mem_of_getElem? (i := 0) rfl))
  have pre24 : oL p e below T21 (mkF m 53 #[oR t1, oI 3, oI cq] []) s₁ (entryFrame m #[(.ref t1), (.int (1 : Int32)), (.int cq)] 3) := fun t k => pre20 t (by
    refine st21 _ ?_
    exact k)
  obtain ⟨fs, hr, hrun, hended, hW, hsame⟩ := X21.leave (v := none) (fun _ => rfl)
  refine ⟨_, _, pre24 _ ?_, hrun, hended, _, _, rfl, ?_, ⟨_, rfl⟩, hW, hsame.mono (by decide) (by decide)⟩
  ·
    show oS p e below T21 (mkF m 53 #[oR t1, oI 3, oI cq] []) _
    exact X21.returnOut hx Bd.returns (hb hby d14_53) hr
  ·
    show Q_rm_put2_1 Z t1 k1 cq y0 y1 y2 y3 h0 n0 _ T21.heap _
    rw [e21]
    exact ⟨rfl, N21, K23, V21⟩
def Q_rm_nbl2 (Z : State)  (h0 : Heap) (n0 : Nat) (v : Option Value) (h : Heap) (L : List Loc) : Prop := v = some (.int (4 : Int32)) ∧ Fr n0 L ∧ h = h0
set_option maxRecDepth 65536 in
set_option maxHeartbeats 40000000 in
theorem rm_nbl2 (l : Launch) (Z : State) (a0 : Array Value) (hw : ∀ d ∈ tables_1, d.before a0 Z = true) (ws : List Jvm.Cond)  (h0 : Heap) (n0 : Nat) (OL : Old Z n0 h0) :
    MetFree l (⟨"java/lang/StringUTF16", "newBytesLength", "(I)I"⟩ : MethodName) (head1 (Jvm.Cond.code (⟨"java/lang/StringUTF16", "newBytesLength", "(I)I"⟩ : MethodName) jdk_52_method_3_code 1 (some .int) :: ws) ({ frames := 0, cells := 0, slots := 0, locals := 0 } : Room)) (fun a U => a = #[(.int (2 : Int32))] ∧ Z.Warmed39 U.vm ∧ U.heap = h0) (fun _ _ _ _ _ => True) (fun _ U o U' => ∃ v L, o = .returned v ∧ Q_rm_nbl2 Z  h0 n0 v U'.heap L ∧ FrameEnd U o U' L ({ frames := 0, cells := 0, slots := 0, locals := 0 } : Room).cells ({ frames := 0, cells := 0, slots := 0, locals := 0 } : Room).slots) := by
  refine MetFree.of_bodySF (plainFor_of_name pn_java_lang_StringUTF16) hisR ?_
  intro p e s m args below meth c s₁ Bd hml0 hP hK
  obtain ⟨rfl, hZ, hh⟩ := hP
  have hx := Bd.exec
  have hby := Bd.bytes
  have hml : c.maxLocals = 1 := hml0
  have hown : s.vm.findClass "java/lang/StringUTF16" = some m.cls := findClass_of_methodNamed Bd.named
  have hnm := (name_of_methodNamed Bd.named Bd.method).1
  have X0 : Stand p l e ({ frames := 0, cells := 0, slots := 0, locals := 0 } : Room) s m #[(.int (2 : Int32))] below meth c s₁ [] 0 0 := Stand.of_body Bd
  have e0 : s₁.heap = h0 := by rw [← hh, Bd.state]; rfl
  have N0 := Fr.nil n0
  have pre0 : oL p e below s₁ (mkF m 0 #[oI 2] []) s₁ (entryFrame m #[(.int (2 : Int32))] 1) := fun t k => castTop (by first | (simp [entryFrame, mkF, argsToLocals, Value.category]; done) | rfl) k
  have pre11 : oL p e below s₁ (mkF m 58 #[oI 2] [oi 4]) s₁ (entryFrame m #[(.int (2 : Int32))] 1) := fun t k => pre0 t (by
    refine XS.iloadN X0.here hx rfl (hb hby d13_0) rfl ?_
    refine XS.ifYes X0.here hx rfl (pc0 := 1) (pc' := 12) rfl (hb hby d13_1) rfl ((if0 _ _).trans (flt (by decide : ¬ ((2 : Int32) < (0 : Int32)))).2.1) (by decide) (by decide) ?_
    refine XS.iloadN X0.here hx rfl (hb hby d13_12) rfl ?_
    refine X0.ldcInt hx hown (mvT hZ (oW hw 69 rfl)) (g := (mkF m 13 #[oI 2] [oi 2])) rfl (hb hby d13_13) _ ?_
    show oS p e below s₁ (mkF m 15 #[oI 2] [oi 1073741823, oi 2]) _
    refine XS.icmpYes X0.here hx rfl (pc0 := 15) (pc' := 55) rfl (hb hby d13_15) rfl (tlt (by decide : (2 : Int32) < (1073741823 : Int32))).1 (by decide) (by decide) ?_
    refine XS.iloadN X0.here hx rfl (hb hby d13_55) rfl ?_
    refine XS.iconst X0.here hx rfl (hb hby d13_56) ?_
    refine XS.ishl X0.here hx rfl (hb hby d13_57) rfl ?_
    show oS p e below s₁ (mkF m 58 #[oI 2] [oi 4]) _
    exact k)
  obtain ⟨fs, hr, hrun, hended, hW, hsame⟩ := X0.leave (v := some (.int (4 : Int32))) (fun h => by rw [Bd.returns] at h; cases h)
  refine ⟨_, _, pre11 _ ?_, hrun, hended, _, _, rfl, ?_, ⟨_, rfl⟩, hW, hsame.mono (by decide) (by decide)⟩
  ·
    show oS p e below s₁ (mkF m 58 #[oI 2] [oi 4]) _
    exact retI X0 hx Bd.returns (hb hby d13_58) hr
  ·
    show Q_rm_nbl2 Z  h0 n0 _ s₁.heap _
    rw [e0]
    exact ⟨rfl, N0, rfl⟩
def Q_rm_nbf2 (Z : State)  (h0 : Heap) (n0 : Nat) (v : Option Value) (h : Heap) (L : List Loc) : Prop := ∃ (r : Addr) (kr : ClassId), v = some (.ref r) ∧ Fr n0 L ∧ Keep h0 h [] ∧ h0.size ≤ r ∧ Arv Z h r kr .byte (4 : Int32) [(.int (0 : Int32)), (.int (0 : Int32)), (.int (0 : Int32)), (.int (0 : Int32))] (.int (0 : Int32))
set_option maxRecDepth 65536 in
set_option maxHeartbeats 40000000 in
theorem rm_nbf2 (l : Launch) (Z : State) (a0 : Array Value) (hw : ∀ d ∈ tables_1, d.before a0 Z = true) (ws : List Jvm.Cond)  (h0 : Heap) (n0 : Nat) (OL : Old Z n0 h0) :
    MetFree l (⟨"java/lang/StringUTF16", "newBytesFor", "(I)[B"⟩ : MethodName) (head1 (Jvm.Cond.code (⟨"java/lang/StringUTF16", "newBytesFor", "(I)[B"⟩ : MethodName) jdk_52_method_2_code 1 (some (.array .byte)) :: ws) ({ frames := 1, cells := 1, slots := 4, locals := 12 } : Room)) (fun a U => a = #[(.int (2 : Int32))] ∧ Z.Warmed39 U.vm ∧ U.heap = h0) (fun _ _ _ _ _ => True) (fun _ U o U' => ∃ v L, o = .returned v ∧ Q_rm_nbf2 Z  h0 n0 v U'.heap L ∧ FrameEnd U o U' L ({ frames := 1, cells := 1, slots := 4, locals := 12 } : Room).cells ({ frames := 1, cells := 1, slots := 4, locals := 12 } : Room).slots) := by
  refine MetFree.of_bodySF (plainFor_of_name pn_java_lang_StringUTF16) hisR ?_
  intro p e s m args below meth c s₁ Bd hml0 hP hK
  obtain ⟨rfl, hZ, hh⟩ := hP
  have hx := Bd.exec
  have hby := Bd.bytes
  have hml : c.maxLocals = 1 := hml0
  have hown : s.vm.findClass "java/lang/StringUTF16" = some m.cls := findClass_of_methodNamed Bd.named
  have hnm := (name_of_methodNamed Bd.named Bd.method).1
  have X0 : Stand p l e ({ frames := 1, cells := 1, slots := 4, locals := 12 } : Room) s m #[(.int (2 : Int32))] below meth c s₁ [] 0 0 := Stand.of_body Bd
  have e0 : s₁.heap = h0 := by rw [← hh, Bd.state]; rfl
  have N0 := Fr.nil n0
  have pre0 : oL p e below s₁ (mkF m 0 #[oI 2] []) s₁ (entryFrame m #[(.int (2 : Int32))] 1) := fun t k => castTop (by first | (simp [entryFrame, mkF, argsToLocals, Value.category]; done) | rfl) k
  have pre11 : oL p e below s₁ (mkF m 1 #[oI 2] [oi 2]) s₁ (entryFrame m #[(.int (2 : Int32))] 1) := fun t k => pre0 t (by
    refine XS.iloadN X0.here hx rfl (hb hby d12_0) rfl ?_
    exact k)
  obtain ⟨_, _, ⟨T12, L12, k12, n12⟩, -, X12, ⟨Lc12, hQ12, l12, y12, z12⟩, st12⟩ := Jvm.LawKit.callS X0 hx (y := (⟨"java/lang/StringUTF16", "newBytesLength", "(I)I"⟩ : MethodName)) hown (mvT hZ (oW hw 66 rfl)) (mvT hZ (oW hw 67 rfl)) (mvT hZ (oW hw 24 rfl)) (mvT hZ (oW hw 68 rfl)) (by decide) (backOf (W := 0) (rm_nbl2 l Z a0 hw []  h0 n0 OL ) hZ (oW hw 68 rfl) (oW hw 24 rfl) (by decide) (by decide)) (g := (mkF m 1 #[oI 2] [oi 2])) rfl (by rw [hml]; rfl) (argsL := [(.int (2 : Int32))]) (rest := []) (lenOf pd__I_I rfl) rfl (by show 2 * 0 + _ ≤ _; exact Nat.le_of_eq rfl) (hb hby d12_1) (fun _ _ => ⟨rfl, e0, (by decide : 0 + 0 ≤ _), (by decide : 0 + 0 ≤ _)⟩)
  dsimp only [Pt.U, Pt.locs, Pt.cells, Pt.slots] at X12 l12 y12 z12 st12 hQ12
  subst l12 y12 z12
  obtain ⟨rfl, N12q, e12⟩ := hQ12
  have N12 := Fr.app N0 N12q
  have pre13 : oL p e below T12 (mkF m 4 #[oI 2] [oi 4]) s₁ (entryFrame m #[(.int (2 : Int32))] 1) := fun t k => pre11 t (by
    refine st12 _ ?_
    exact k)
  obtain ⟨T14, h14, k14, X14, e14, E14, A14, st14⟩ := newP X12 hx hZ (oW hw 26 rfl) e12 (g := (mkF m 4 #[oI 2] [oi 4])) rfl (hb hby d12_4) rfl (by decide) (cap := 4) (by decide) (by decide) (by decide) (by decide)
  obtain ⟨b14, g14⟩ : ∃ z, z = h0.size := ⟨_, rfl⟩
  rw [← g14] at A14 st14
  have ge_b14 : n0 ≤ b14 := Nat.le_trans (OL.1 ▸ OL.2.1) (Nat.le_of_eq g14.symm)
  have sz_b14 : h0.size ≤ b14 := Nat.le_trans (Keep.refl h0 []).1 (Nat.le_of_eq g14.symm)
  have OL15 := OL.ext E14
  have K16 : Keep h0 h14 [] := (Keep.refl h0 []).ext E14
  have V14 : Arv Z h14 b14 k14 .byte (4 : Int32) [(.int (0 : Int32)), (.int (0 : Int32)), (.int (0 : Int32)), (.int (0 : Int32))] (.int (0 : Int32)) := (Arv.new A14 (by decide)).pad (pad_rep [] (.int (0 : Int32)) 4)
  have pre17 : oL p e below T14 (mkF m 6 #[oI 2] [ow b14]) s₁ (entryFrame m #[(.int (2 : Int32))] 1) := fun t k => pre13 t (by
    refine st14 _ ?_
    exact k)
  obtain ⟨fs, hr, hrun, hended, hW, hsame⟩ := X14.leave (v := some (.ref b14)) (fun h => by rw [Bd.returns] at h; cases h)
  refine ⟨_, _, pre17 _ ?_, hrun, hended, _, _, rfl, ?_, ⟨_, rfl⟩, hW, hsame.mono (by decide) (by decide)⟩
  ·
    show oS p e below T14 (mkF m 6 #[oI 2] [ow b14]) _
    jvm_step X14.here [X14.here.top, hx, (hb hby d12_6), X14.method', Bd.returns, Value.isRef, FieldType.isReference]
    first | (intro acts; rw [hr _ acts rfl rfl rfl]) | rw [hr _ _ rfl rfl rfl]
    exact Steps.refl _
  ·
    show Q_rm_nbf2 Z  h0 n0 _ T14.heap _
    rw [e14]
    exact ⟨b14, k14, rfl, N12, K16, sz_b14, V14⟩
def Q_rm_tob2 (Z : State) (a1 : Addr) (k1 : ClassId) (c0 : Int32) (c1 : Int32) (h0 : Heap) (n0 : Nat) (v : Option Value) (h : Heap) (L : List Loc) : Prop := ∃ (r : Addr) (kr : ClassId), v = some (.ref r) ∧ Fr n0 L ∧ Keep h0 h [] ∧ h0.size ≤ r ∧ Arv Z h r kr .byte (4 : Int32) [(.int (own_hb c0)), (.int (own_lb c0)), (.int (own_hb c1)), (.int (own_lb c1))] (.int (0 : Int32))
set_option maxRecDepth 65536 in
set_option maxHeartbeats 40000000 in
theorem rm_tob2 (l : Launch) (Z : State) (a0 : Array Value) (hw : ∀ d ∈ tables_1, d.before a0 Z = true) (ws : List Jvm.Cond) (a1 : Addr) (k1 : ClassId) (c0 : Int32) (c1 : Int32) (h0 : Heap) (n0 : Nat) (OL : Old Z n0 h0) (AD : Sta Z Z.heap "java/lang/StringUTF16" "$assertionsDisabled" "Z" (.int (1 : Int32))) (HB : Sta Z Z.heap "java/lang/StringUTF16" "HI_BYTE_SHIFT" "I" (.int (0 : Int32))) (LB : Sta Z Z.heap "java/lang/StringUTF16" "LO_BYTE_SHIFT" "I" (.int (8 : Int32))) (V1 : Arv Z h0 a1 k1 .char (2 : Int32) [(.int c0), (.int c1)] (.int (0 : Int32))) :
    MetFree l (⟨"java/lang/StringUTF16", "toBytes", "([CII)[B"⟩ : MethodName) (head1 (Jvm.Cond.code (⟨"java/lang/StringUTF16", "toBytes", "([CII)[B"⟩ : MethodName) jdk_52_method_14_code 5 (some (.array .byte)) :: ws) ({ frames := 2, cells := 1, slots := 4, locals := 24 } : Room)) (fun a U => a = #[(.ref a1), (.int (0 : Int32)), (.int (2 : Int32))] ∧ Z.Warmed39 U.vm ∧ U.heap = h0) (fun _ _ _ _ _ => True) (fun _ U o U' => ∃ v L, o = .returned v ∧ Q_rm_tob2 Z a1 k1 c0 c1 h0 n0 v U'.heap L ∧ FrameEnd U o U' L ({ frames := 2, cells := 1, slots := 4, locals := 24 } : Room).cells ({ frames := 2, cells := 1, slots := 4, locals := 24 } : Room).slots) := by
  refine MetFree.of_bodySF (plainFor_of_name pn_java_lang_StringUTF16) hisR ?_
  intro p e s m args below meth c s₁ Bd hml0 hP hK
  obtain ⟨rfl, hZ, hh⟩ := hP
  have hx := Bd.exec
  have hby := Bd.bytes
  have hml : c.maxLocals = 5 := hml0
  have hown : s.vm.findClass "java/lang/StringUTF16" = some m.cls := findClass_of_methodNamed Bd.named
  have hnm := (name_of_methodNamed Bd.named Bd.method).1
  have X0 : Stand p l e ({ frames := 2, cells := 1, slots := 4, locals := 24 } : Room) s m #[(.ref a1), (.int (0 : Int32)), (.int (2 : Int32))] below meth c s₁ [] 0 0 := Stand.of_body Bd
  have e0 : s₁.heap = h0 := by rw [← hh, Bd.state]; rfl
  have N0 := Fr.nil n0
  have pre0 : oL p e below s₁ (mkF m 0 #[oR a1, oI 0, oI 2, oU, oU] []) s₁ (entryFrame m #[(.ref a1), (.int (0 : Int32)), (.int (2 : Int32))] 5) := fun t k => castTop (by first | (simp [entryFrame, mkF, argsToLocals, Value.category]; done) | rfl) k
  have pre11 : oL p e below s₁ (mkF m 1 #[oR a1, oI 0, oI 2, oU, oU] [oi 2]) s₁ (entryFrame m #[(.ref a1), (.int (0 : Int32)), (.int (2 : Int32))] 5) := fun t k => pre0 t (by
    refine XS.iloadN X0.here hx rfl (hb hby d11_0) rfl ?_
    exact k)
  obtain ⟨_, _, ⟨T12, L12, k12, n12⟩, -, X12, ⟨Lc12, hQ12, l12, y12, z12⟩, st12⟩ := Jvm.LawKit.callS X0 hx (y := (⟨"java/lang/StringUTF16", "newBytesFor", "(I)[B"⟩ : MethodName)) hown (mvT hZ (oW hw 63 rfl)) (mvT hZ (oW hw 64 rfl)) (mvT hZ (oW hw 24 rfl)) (mvT hZ (oW hw 65 rfl)) (by decide) (backOf (W := 0) (rm_nbf2 l Z a0 hw []  h0 n0 OL ) hZ (oW hw 65 rfl) (oW hw 24 rfl) (by decide) (by decide)) (g := (mkF m 1 #[oR a1, oI 0, oI 2, oU, oU] [oi 2])) rfl (by rw [hml]; rfl) (argsL := [(.int (2 : Int32))]) (rest := []) (lenOf pd__I__B rfl) rfl (by show 2 * 0 + _ ≤ _; exact Nat.le_of_eq rfl) (hb hby d11_1) (fun _ _ => ⟨rfl, e0, (by decide : 0 + 1 ≤ _), (by decide : 0 + 4 ≤ _)⟩)
  dsimp only [Pt.U, Pt.locs, Pt.cells, Pt.slots] at X12 l12 y12 z12 st12 hQ12
  subst l12 y12 z12
  obtain ⟨r12, kr12, rfl, N12q, Kq12, sq12, Va12⟩ := hQ12
  have N12 := Fr.app N0 N12q
  have ne13 : a1 ≠ r12 := Nat.ne_of_lt (Nat.lt_of_lt_of_le V1.lt sq12)
  have ge_r12 : n0 ≤ r12 := Nat.le_trans (OL.1 ▸ OL.2.1) sq12
  have sz_r12 : h0.size ≤ r12 := Nat.le_trans (Keep.refl h0 []).1 sq12
  have f14 := V1.keep Kq12 nin0
  have OL15 := OL.keep Kq12 all0
  have K16 : Keep h0 T12.heap [] := (Keep.refl h0 []).trans Kq12 all0
  have pre17 : oL p e below T12 (mkF m 19 #[oR a1, oI 0, oI 2, oR r12, oI 0] [oi 0, ow a1, oi 0, ow r12]) s₁ (entryFrame m #[(.ref a1), (.int (0 : Int32)), (.int (2 : Int32))] 5) := fun t k => pre11 t (by
    refine st12 _ ?_
    refine XS.astoreN X12.here hx rfl (hb hby d11_4) rfl rfl (l' := #[oR a1, oI 0, oI 2, oR r12, oU]) rfl ?_
    refine XS.iconst X12.here hx rfl (hb hby d11_5) ?_
    show oS p e below T12 (mkF m 6 #[oR a1, oI 0, oI 2, oR r12, oU] [oi 0]) _
    refine XS.istore X12.here hx rfl (hb hby d11_6) rfl (l' := #[oR a1, oI 0, oI 2, oR r12, oI 0]) rfl ?_
    refine XS.iload X12.here hx rfl (hb hby d11_8) rfl ?_
    refine XS.iloadN X12.here hx rfl (hb hby d11_10) rfl ?_
    refine XS.icmpNo X12.here hx rfl (hb hby d11_11) rfl (tlt (by decide : (0 : Int32) < (2 : Int32))).2.1 ?_
    show oS p e below T12 (mkF m 14 #[oR a1, oI 0, oI 2, oR r12, oI 0] []) _
    refine XS.aloadN X12.here hx rfl (hb hby d11_14) rfl rfl ?_
    refine XS.iload X12.here hx rfl (hb hby d11_15) rfl ?_
    refine XS.aloadN X12.here hx rfl (hb hby d11_17) rfl rfl ?_
    refine XS.iloadN X12.here hx rfl (hb hby d11_18) rfl ?_
    show oS p e below T12 (mkF m 19 #[oR a1, oI 0, oI 2, oR r12, oI 0] [oi 0, ow a1, oi 0, ow r12]) _
    exact k)
  obtain ⟨cl18, Ar18, qc18, Sz18, Nn18, Hs18, Gs18⟩ := id f14
  have hin18 := inb_of (j := (0 : Int32)) Sz18 ⟨by decide, by decide⟩
  have pre19 : oL p e below T12 (mkF m 20 #[oR a1, oI 0, oI 2, oR r12, oI 0] [oi c0, oi 0, ow r12]) s₁ (entryFrame m #[(.ref a1), (.int (0 : Int32)), (.int (2 : Int32))] 5) := fun t k => pre17 t (by
    refine X12.caload hx (j := (0 : Int32)) (v := (.int c0)) (Ar18.1) (State.isArrayOf_alike hZ.alike Ar18.2.1) Ar18.2.2 hin18 (Hs18.at hin18 rfl) (g := (mkF m 19 #[oR a1, oI 0, oI 2, oR r12, oI 0] [oi 0, ow a1, oi 0, ow r12])) rfl rfl (hb hby d11_19) _ ?_
    exact k)
  obtain ⟨_, _, ⟨T20, L20, k20, n20⟩, -, X20, ⟨Lc20, hQ20, l20, y20, z20⟩, st20⟩ := Jvm.LawKit.callS X12 hx (y := (⟨"java/lang/StringUTF16", "putChar", "([BII)V"⟩ : MethodName)) hown (mvT hZ (oW hw 70 rfl)) (mvT hZ (oW hw 71 rfl)) (mvT hZ (oW hw 24 rfl)) (mvT hZ (oW hw 72 rfl)) (by decide) (backOf (W := 0) (rm_put2_0 l Z a0 hw [] r12 kr12 c0 (0 : Int32) (0 : Int32) (0 : Int32) (0 : Int32) T12.heap n0 OL15 AD HB LB ge_r12 Va12) hZ (oW hw 72 rfl) (oW hw 24 rfl) (by decide) (by decide)) (g := (mkF m 20 #[oR a1, oI 0, oI 2, oR r12, oI 0] [oi c0, oi 0, ow r12])) rfl (by rw [hml]; rfl) (argsL := [(.ref r12), (.int (0 : Int32)), (.int c0)]) (rest := []) (lenOf pd___BII_V rfl) rfl (by show 2 * 0 + _ ≤ _; exact Nat.le_of_eq rfl) (hb hby d11_20) (fun _ _ => ⟨rfl, rfl, (by decide : 1 + 0 ≤ _), (by decide : 4 + 0 ≤ _)⟩)
  dsimp only [Pt.U, Pt.locs, Pt.cells, Pt.slots] at X20 l20 y20 z20 st20 hQ20
  subst l20 y20 z20
  obtain ⟨rfl, N20q, Kq20, Va20⟩ := hQ20
  have N20 := Fr.app N12 N20q
  have f21 := f14.keep Kq20 (ninS ne13 nin0)
  have OL22 := OL15.keep Kq20 (allS ge_r12 all0)
  have K23 : Keep h0 T20.heap [] := K16.trans Kq20 (allS (Or.inr sz_r12) all0)
  have pre24 : oL p e below T20 (mkF m 19 #[oR a1, oI 1, oI 2, oR r12, oI 1] [oi 1, ow a1, oi 1, ow r12]) s₁ (entryFrame m #[(.ref a1), (.int (0 : Int32)), (.int (2 : Int32))] 5) := fun t k => pre19 t (by
    refine st20 _ ?_
    refine XS.iinc X20.here hx rfl (hb hby d11_23) rfl (l' := #[oR a1, oI 1, oI 2, oR r12, oI 0]) rfl ?_
    refine XS.iinc X20.here hx rfl (hb hby d11_26) rfl (l' := #[oR a1, oI 1, oI 2, oR r12, oI 1]) rfl ?_
    show oS p e below T20 (mkF m 29 #[oR a1, oI 1, oI 2, oR r12, oI 1] []) _
    refine XS.goto X20.here hx rfl (pc0 := 29) (pc' := 8) rfl (hb hby d11_29) (by decide) (by decide) ?_
    refine XS.iload X20.here hx rfl (hb hby d11_8) rfl ?_
    refine XS.iloadN X20.here hx rfl (hb hby d11_10) rfl ?_
    refine XS.icmpNo X20.here hx rfl (hb hby d11_11) rfl (tlt (by decide : (1 : Int32) < (2 : Int32))).2.1 ?_
    show oS p e below T20 (mkF m 14 #[oR a1, oI 1, oI 2, oR r12, oI 1] []) _
    refine XS.aloadN X20.here hx rfl (hb hby d11_14) rfl rfl ?_
    refine XS.iload X20.here hx rfl (hb hby d11_15) rfl ?_
    refine XS.aloadN X20.here hx rfl (hb hby d11_17) rfl rfl ?_
    refine XS.iloadN X20.here hx rfl (hb hby d11_18) rfl ?_
    show oS p e below T20 (mkF m 19 #[oR a1, oI 1, oI 2, oR r12, oI 1] [oi 1, ow a1, oi 1, ow r12]) _
    exact k)
  obtain ⟨cl25, Ar25, qc25, Sz25, Nn25, Hs25, Gs25⟩ := id f21
  have hin25 := inb_of (j := (1 : Int32)) Sz25 ⟨by decide, by decide⟩
  have pre26 : oL p e below T20 (mkF m 20 #[oR a1, oI 1, oI 2, oR r12, oI 1] [oi c1, oi 1, ow r12]) s₁ (entryFrame m #[(.ref a1), (.int (0 : Int32)), (.int (2 : Int32))] 5) := fun t k => pre24 t (by
    refine X20.caload hx (j := (1 : Int32)) (v := (.int c1)) (Ar25.1) (State.isArrayOf_alike hZ.alike Ar25.2.1) Ar25.2.2 hin25 (Hs25.at hin25 rfl) (g := (mkF m 19 #[oR a1, oI 1, oI 2, oR r12, oI 1] [oi 1, ow a1, oi 1, ow r12])) rfl rfl (hb hby d11_19) _ ?_
    exact k)
  obtain ⟨_, _, ⟨T27, L27, k27, n27⟩, -, X27, ⟨Lc27, hQ27, l27, y27, z27⟩, st27⟩ := Jvm.LawKit.callS X20 hx (y := (⟨"java/lang/StringUTF16", "putChar", "([BII)V"⟩ : MethodName)) hown (mvT hZ (oW hw 70 rfl)) (mvT hZ (oW hw 71 rfl)) (mvT hZ (oW hw 24 rfl)) (mvT hZ (oW hw 72 rfl)) (by decide) (backOf (W := 0) (rm_put2_1 l Z a0 hw [] r12 kr12 c1 (own_hb c0) (own_lb c0) (0 : Int32) (0 : Int32) T20.heap n0 OL22 AD HB LB ge_r12 Va20) hZ (oW hw 72 rfl) (oW hw 24 rfl) (by decide) (by decide)) (g := (mkF m 20 #[oR a1, oI 1, oI 2, oR r12, oI 1] [oi c1, oi 1, ow r12])) rfl (by rw [hml]; rfl) (argsL := [(.ref r12), (.int (1 : Int32)), (.int c1)]) (rest := []) (lenOf pd___BII_V rfl) rfl (by show 2 * 0 + _ ≤ _; exact Nat.le_of_eq rfl) (hb hby d11_20) (fun _ _ => ⟨rfl, rfl, (by decide : 1 + 0 ≤ _), (by decide : 4 + 0 ≤ _)⟩)
  dsimp only [Pt.U, Pt.locs, Pt.cells, Pt.slots] at X27 l27 y27 z27 st27 hQ27
  subst l27 y27 z27
  obtain ⟨rfl, N27q, Kq27, Va27⟩ := hQ27
  have N27 := Fr.app N20 N27q
  have f28 := f21.keep Kq27 (ninS ne13 nin0)
  have OL29 := OL22.keep Kq27 (allS ge_r12 all0)
  have K30 : Keep h0 T27.heap [] := K23.trans Kq27 (allS (Or.inr sz_r12) all0)
  have pre31 : oL p e below T27 (mkF m 33 #[oR a1, oI 2, oI 2, oR r12, oI 2] [ow r12]) s₁ (entryFrame m #[(.ref a1), (.int (0 : Int32)), (.int (2 : Int32))] 5) := fun t k => pre26 t (by
    refine st27 _ ?_
    refine XS.iinc X27.here hx rfl (hb hby d11_23) rfl (l' := #[oR a1, oI 2, oI 2, oR r12, oI 1]) rfl ?_
    refine XS.iinc X27.here hx rfl (hb hby d11_26) rfl (l' := #[oR a1, oI 2, oI 2, oR r12, oI 2]) rfl ?_
    show oS p e below T27 (mkF m 29 #[oR a1, oI 2, oI 2, oR r12, oI 2] []) _
    refine XS.goto X27.here hx rfl (pc0 := 29) (pc' := 8) rfl (hb hby d11_29) (by decide) (by decide) ?_
    refine XS.iload X27.here hx rfl (hb hby d11_8) rfl ?_
    refine XS.iloadN X27.here hx rfl (hb hby d11_10) rfl ?_
    refine XS.icmpYes X27.here hx rfl (pc0 := 11) (pc' := 32) rfl (hb hby d11_11) rfl (flt (by decide : ¬ ((2 : Int32) < (2 : Int32)))).2.1 (by decide) (by decide) ?_
    show oS p e below T27 (mkF m 32 #[oR a1, oI 2, oI 2, oR r12, oI 2] []) _
    refine XS.aloadN X27.here hx rfl (hb hby d11_32) rfl rfl ?_
    exact k)
  obtain ⟨fs, hr, hrun, hended, hW, hsame⟩ := X27.leave (v := some (.ref r12)) (fun h => by rw [Bd.returns] at h; cases h)
  refine ⟨_, _, pre31 _ ?_, hrun, hended, _, _, rfl, ?_, ⟨_, rfl⟩, hW, hsame.mono (by decide) (by decide)⟩
  ·
    show oS p e below T27 (mkF m 33 #[oR a1, oI 2, oI 2, oR r12, oI 2] [ow r12]) _
    jvm_step X27.here [X27.here.top, hx, (hb hby d11_33), X27.method', Bd.returns, Value.isRef, FieldType.isReference]
    first | (intro acts; rw [hr _ acts rfl rfl rfl]) | rw [hr _ _ rfl rfl rfl]
    exact Steps.refl _
  ·
    show Q_rm_tob2 Z a1 k1 c0 c1 h0 n0 _ T27.heap _
    exact ⟨r12, kr12, rfl, N27, K30, sz_r12, Va27⟩
def Q_rm_get2_0 (Z : State) (t1 : Addr) (k1 : ClassId) (y0 : Int32) (y1 : Int32) (y2 : Int32) (y3 : Int32) (h0 : Heap) (n0 : Nat) (v : Option Value) (h : Heap) (L : List Loc) : Prop := v = some (.int (own_gc y0 y1)) ∧ Fr n0 L ∧ h = h0
set_option maxRecDepth 65536 in
set_option maxHeartbeats 40000000 in
theorem rm_get2_0 (l : Launch) (Z : State) (a0 : Array Value) (hw : ∀ d ∈ tables_1, d.before a0 Z = true) (ws : List Jvm.Cond) (t1 : Addr) (k1 : ClassId) (y0 : Int32) (y1 : Int32) (y2 : Int32) (y3 : Int32) (h0 : Heap) (n0 : Nat) (OL : Old Z n0 h0) (AD : Sta Z Z.heap "java/lang/StringUTF16" "$assertionsDisabled" "Z" (.int (1 : Int32))) (HB : Sta Z Z.heap "java/lang/StringUTF16" "HI_BYTE_SHIFT" "I" (.int (0 : Int32))) (LB : Sta Z Z.heap "java/lang/StringUTF16" "LO_BYTE_SHIFT" "I" (.int (8 : Int32))) (V1 : Arv Z h0 t1 k1 .byte (4 : Int32) [(.int y0), (.int y1), (.int y2), (.int y3)] (.int (0 : Int32))) :
    MetFree l (⟨"java/lang/StringUTF16", "getChar", "([BI)C"⟩ : MethodName) (head1 (Jvm.Cond.code (⟨"java/lang/StringUTF16", "getChar", "([BI)C"⟩ : MethodName) jdk_52_method_5_code 2 (some .char) :: ws) ({ frames := 0, cells := 0, slots := 0, locals := 0 } : Room)) (fun a U => a = #[(.ref t1), (.int (0 : Int32))] ∧ Z.Warmed39 U.vm ∧ U.heap = h0) (fun _ _ _ _ _ => True) (fun _ U o U' => ∃ v L, o = .returned v ∧ Q_rm_get2_0 Z t1 k1 y0 y1 y2 y3 h0 n0 v U'.heap L ∧ FrameEnd U o U' L ({ frames := 0, cells := 0, slots := 0, locals := 0 } : Room).cells ({ frames := 0, cells := 0, slots := 0, locals := 0 } : Room).slots) := by
  refine MetFree.of_bodySF (plainFor_of_name pn_java_lang_StringUTF16) hisR ?_
  intro p e s m args below meth c s₁ Bd hml0 hP hK
  obtain ⟨rfl, hZ, hh⟩ := hP
  have hx := Bd.exec
  have hby := Bd.bytes
  have hml : c.maxLocals = 2 := hml0
  have hown : s.vm.findClass "java/lang/StringUTF16" = some m.cls := findClass_of_methodNamed Bd.named
  have hnm := (name_of_methodNamed Bd.named Bd.method).1
  have X0 : Stand p l e ({ frames := 0, cells := 0, slots := 0, locals := 0 } : Room) s m #[(.ref t1), (.int (0 : Int32))] below meth c s₁ [] 0 0 := Stand.of_body Bd
  have e0 : s₁.heap = h0 := by rw [← hh, Bd.state]; rfl
  have N0 := Fr.nil n0
  have pre0 : oL p e below s₁ (mkF m 0 #[oR t1, oI 0] []) s₁ (entryFrame m #[(.ref t1), (.int (0 : Int32))] 2) := fun t k => castTop (by first | (simp [entryFrame, mkF, argsToLocals, Value.category]; done) | rfl) k
  obtain ⟨T11, X11, e11, st11⟩ := getS2 X0 hx hZ hown (host := "") (Or.inl (oW hw 73 rfl)) Via.refl e0 (AD.ext OL.2) (g := (mkF m 0 #[oR t1, oI 0] [])) rfl (hb hby d15_0)
  have pre12 : oL p e below T11 (mkF m 37 #[oR t1, oI 1] [oi 0, ow t1]) s₁ (entryFrame m #[(.ref t1), (.int (0 : Int32))] 2) := fun t k => pre0 t (by
    refine st11 _ ?_
    refine XS.ifYes X11.here hx rfl (pc0 := 3) (pc' := 28) rfl (hb hby d15_3) rfl ((if0 _ _).trans (feq (by decide : ¬ ((1 : Int32) = (0 : Int32)))).2) (by decide) (by decide) ?_
    refine XS.iloadN X11.here hx rfl (hb hby d15_28) rfl ?_
    refine XS.iconst X11.here hx rfl (hb hby d15_29) ?_
    show oS p e below T11 (mkF m 30 #[oR t1, oI 0] [oi 1, oi 0]) _
    refine XS.ishl X11.here hx rfl (hb hby d15_30) rfl ?_
    refine XS.istoreN X11.here hx rfl (hb hby d15_31) rfl (l' := #[oR t1, oI 0]) rfl ?_
    refine XS.aloadN X11.here hx rfl (hb hby d15_32) rfl rfl ?_
    refine XS.iloadN X11.here hx rfl (hb hby d15_33) rfl ?_
    show oS p e below T11 (mkF m 34 #[oR t1, oI 0] [oi 0, ow t1]) _
    refine XS.iinc X11.here hx rfl (hb hby d15_34) rfl (l' := #[oR t1, oI 1]) rfl ?_
    exact k)
  obtain ⟨cl13, Ar13, qc13, Sz13, Nn13, Hs13, Gs13⟩ := id V1
  have hin13 := inb_of (j := (0 : Int32)) Sz13 ⟨by decide, by decide⟩
  have pre14 : oL p e below T11 (mkF m 42 #[oR t1, oI 1] [oi (y0 &&& (255 : Int32))]) s₁ (entryFrame m #[(.ref t1), (.int (0 : Int32))] 2) := fun t k => pre12 t (by
    refine X11.baloadBytes hx (j := (0 : Int32)) (v := (.int y0)) (by rw [e11]; exact Ar13.1) (State.isArrayOf_alike hZ.alike Ar13.2.1) Ar13.2.2 hin13 (Hs13.at hin13 rfl) (g := (mkF m 37 #[oR t1, oI 1] [oi 0, ow t1])) rfl rfl (hb hby d15_37) _ ?_
    refine XS.sipush X11.here hx rfl (hb hby d15_38) ?_
    refine XS.iand X11.here hx rfl (hb hby d15_41) rfl ?_
    show oS p e below T11 (mkF m 42 #[oR t1, oI 1] [oi (y0 &&& (255 : Int32))]) _
    exact k)
  obtain ⟨T15, X15, e15, st15⟩ := getS2 X11 hx hZ hown (host := "") (Or.inl (oW hw 74 rfl)) Via.refl e11 (HB.ext OL.2) (g := (mkF m 42 #[oR t1, oI 1] [oi (y0 &&& (255 : Int32))])) rfl (hb hby d15_42)
  have pre16 : oL p e below T15 (mkF m 48 #[oR t1, oI 1] [oi 1, ow t1, oi ((y0 &&& (255 : Int32)) <<< ((0 : Int32) &&& 31))]) s₁ (entryFrame m #[(.ref t1), (.int (0 : Int32))] 2) := fun t k => pre14 t (by
    refine st15 _ ?_
    refine XS.ishl X15.here hx rfl (hb hby d15_45) rfl ?_
    refine XS.aloadN X15.here hx rfl (hb hby d15_46) rfl rfl ?_
    refine XS.iloadN X15.here hx rfl (hb hby d15_47) rfl ?_
    show oS p e below T15 (mkF m 48 #[oR t1, oI 1] [oi 1, ow t1, oi ((y0 &&& (255 : Int32)) <<< ((0 : Int32) &&& 31))]) _
    exact k)
  obtain ⟨cl17, Ar17, qc17, Sz17, Nn17, Hs17, Gs17⟩ := id V1
  have hin17 := inb_of (j := (1 : Int32)) Sz17 ⟨by decide, by decide⟩
  have pre18 : oL p e below T15 (mkF m 53 #[oR t1, oI 1] [oi (y1 &&& (255 : Int32)), oi ((y0 &&& (255 : Int32)) <<< ((0 : Int32) &&& 31))]) s₁ (entryFrame m #[(.ref t1), (.int (0 : Int32))] 2) := fun t k => pre16 t (by
    refine X15.baloadBytes hx (j := (1 : Int32)) (v := (.int y1)) (by rw [e15]; exact Ar17.1) (State.isArrayOf_alike hZ.alike Ar17.2.1) Ar17.2.2 hin17 (Hs17.at hin17 rfl) (g := (mkF m 48 #[oR t1, oI 1] [oi 1, ow t1, oi ((y0 &&& (255 : Int32)) <<< ((0 : Int32) &&& 31))])) rfl rfl (hb hby d15_48) _ ?_
    refine XS.sipush X15.here hx rfl (hb hby d15_49) ?_
    refine XS.iand X15.here hx rfl (hb hby d15_52) rfl ?_
    exact k)
  obtain ⟨T19, X19, e19, st19⟩ := getS2 X15 hx hZ hown (host := "") (Or.inl (oW hw 75 rfl)) Via.refl e15 (LB.ext OL.2) (g := (mkF m 53 #[oR t1, oI 1] [oi (y1 &&& (255 : Int32)), oi ((y0 &&& (255 : Int32)) <<< ((0 : Int32) &&& 31))])) rfl (hb hby d15_53)
  have pre20 : oL p e below T19 (mkF m 59 #[oR t1, oI 1] [oi ((((y0 &&& (255 : Int32)) <<< ((0 : Int32) &&& 31)) ||| ((y1 &&& (255 : Int32)) <<< ((8 : Int32) &&& 31))).toUInt32.toUInt16.toUInt32.toInt32)]) s₁ (entryFrame m #[(.ref t1), (.int (0 : Int32))] 2) := fun t k => pre18 t (by
    refine st19 _ ?_
    show oS p e below T19 (mkF m 56 #[oR t1, oI 1] [oi 8, oi (y1 &&& (255 : Int32)), oi ((y0 &&& (255 : Int32)) <<< ((0 : Int32) &&& 31))]) _
    refine XS.ishl X19.here hx rfl (hb hby d15_56) rfl ?_
    refine XS.ior X19.here hx rfl (hb hby d15_57) rfl ?_
    refine XS.i2c X19.here hx rfl (hb hby d15_58) rfl ?_
    exact k)
  obtain ⟨fs, hr, hrun, hended, hW, hsame⟩ := X19.leave (v := some (.int (nar .char ((((y0 &&& (255 : Int32)) <<< ((0 : Int32) &&& 31)) ||| ((y1 &&& (255 : Int32)) <<< ((8 : Int32) &&& 31))).toUInt32.toUInt16.toUInt32.toInt32)))) (fun h => by rw [Bd.returns] at h; cases h)
  refine ⟨_, _, pre20 _ ?_, hrun, hended, _, _, rfl, ?_, ⟨_, rfl⟩, hW, hsame.mono (by decide) (by decide)⟩
  ·
    show oS p e below T19 (mkF m 59 #[oR t1, oI 1] [oi ((((y0 &&& (255 : Int32)) <<< ((0 : Int32) &&& 31)) ||| ((y1 &&& (255 : Int32)) <<< ((8 : Int32) &&& 31))).toUInt32.toUInt16.toUInt32.toInt32)]) _
    exact retN X19 hx (t := .char) Bd.returns (by simp) (hb hby d15_59) hr
  ·
    show Q_rm_get2_0 Z t1 k1 y0 y1 y2 y3 h0 n0 _ T19.heap _
    rw [e19]
    exact ⟨rfl, N0, rfl⟩
def Q_rm_get2_1 (Z : State) (t1 : Addr) (k1 : ClassId) (y0 : Int32) (y1 : Int32) (y2 : Int32) (y3 : Int32) (h0 : Heap) (n0 : Nat) (v : Option Value) (h : Heap) (L : List Loc) : Prop := v = some (.int (own_gc y2 y3)) ∧ Fr n0 L ∧ h = h0
set_option maxRecDepth 65536 in
set_option maxHeartbeats 40000000 in
theorem rm_get2_1 (l : Launch) (Z : State) (a0 : Array Value) (hw : ∀ d ∈ tables_1, d.before a0 Z = true) (ws : List Jvm.Cond) (t1 : Addr) (k1 : ClassId) (y0 : Int32) (y1 : Int32) (y2 : Int32) (y3 : Int32) (h0 : Heap) (n0 : Nat) (OL : Old Z n0 h0) (AD : Sta Z Z.heap "java/lang/StringUTF16" "$assertionsDisabled" "Z" (.int (1 : Int32))) (HB : Sta Z Z.heap "java/lang/StringUTF16" "HI_BYTE_SHIFT" "I" (.int (0 : Int32))) (LB : Sta Z Z.heap "java/lang/StringUTF16" "LO_BYTE_SHIFT" "I" (.int (8 : Int32))) (V1 : Arv Z h0 t1 k1 .byte (4 : Int32) [(.int y0), (.int y1), (.int y2), (.int y3)] (.int (0 : Int32))) :
    MetFree l (⟨"java/lang/StringUTF16", "getChar", "([BI)C"⟩ : MethodName) (head1 (Jvm.Cond.code (⟨"java/lang/StringUTF16", "getChar", "([BI)C"⟩ : MethodName) jdk_52_method_5_code 2 (some .char) :: ws) ({ frames := 0, cells := 0, slots := 0, locals := 0 } : Room)) (fun a U => a = #[(.ref t1), (.int (1 : Int32))] ∧ Z.Warmed39 U.vm ∧ U.heap = h0) (fun _ _ _ _ _ => True) (fun _ U o U' => ∃ v L, o = .returned v ∧ Q_rm_get2_1 Z t1 k1 y0 y1 y2 y3 h0 n0 v U'.heap L ∧ FrameEnd U o U' L ({ frames := 0, cells := 0, slots := 0, locals := 0 } : Room).cells ({ frames := 0, cells := 0, slots := 0, locals := 0 } : Room).slots) := by
  refine MetFree.of_bodySF (plainFor_of_name pn_java_lang_StringUTF16) hisR ?_
  intro p e s m args below meth c s₁ Bd hml0 hP hK
  obtain ⟨rfl, hZ, hh⟩ := hP
  have hx := Bd.exec
  have hby := Bd.bytes
  have hml : c.maxLocals = 2 := hml0
  have hown : s.vm.findClass "java/lang/StringUTF16" = some m.cls := findClass_of_methodNamed Bd.named
  have hnm := (name_of_methodNamed Bd.named Bd.method).1
  have X0 : Stand p l e ({ frames := 0, cells := 0, slots := 0, locals := 0 } : Room) s m #[(.ref t1), (.int (1 : Int32))] below meth c s₁ [] 0 0 := Stand.of_body Bd
  have e0 : s₁.heap = h0 := by rw [← hh, Bd.state]; rfl
  have N0 := Fr.nil n0
  have pre0 : oL p e below s₁ (mkF m 0 #[oR t1, oI 1] []) s₁ (entryFrame m #[(.ref t1), (.int (1 : Int32))] 2) := fun t k => castTop (by first | (simp [entryFrame, mkF, argsToLocals, Value.category]; done) | rfl) k
  obtain ⟨T11, X11, e11, st11⟩ := getS2 X0 hx hZ hown (host := "") (Or.inl (oW hw 73 rfl)) Via.refl e0 (AD.ext OL.2) (g := (mkF m 0 #[oR t1, oI 1] [])) rfl (hb hby d15_0)
  have pre12 : oL p e below T11 (mkF m 37 #[oR t1, oI 3] [oi 2, ow t1]) s₁ (entryFrame m #[(.ref t1), (.int (1 : Int32))] 2) := fun t k => pre0 t (by
    refine st11 _ ?_
    refine XS.ifYes X11.here hx rfl (pc0 := 3) (pc' := 28) rfl (hb hby d15_3) rfl ((if0 _ _).trans (feq (by decide : ¬ ((1 : Int32) = (0 : Int32)))).2) (by decide) (by decide) ?_
    refine XS.iloadN X11.here hx rfl (hb hby d15_28) rfl ?_
    refine XS.iconst X11.here hx rfl (hb hby d15_29) ?_
    show oS p e below T11 (mkF m 30 #[oR t1, oI 1] [oi 1, oi 1]) _
    refine XS.ishl X11.here hx rfl (hb hby d15_30) rfl ?_
    refine XS.istoreN X11.here hx rfl (hb hby d15_31) rfl (l' := #[oR t1, oI 2]) rfl ?_
    refine XS.aloadN X11.here hx rfl (hb hby d15_32) rfl rfl ?_
    refine XS.iloadN X11.here hx rfl (hb hby d15_33) rfl ?_
    show oS p e below T11 (mkF m 34 #[oR t1, oI 2] [oi 2, ow t1]) _
    refine XS.iinc X11.here hx rfl (hb hby d15_34) rfl (l' := #[oR t1, oI 3]) rfl ?_
    exact k)
  obtain ⟨cl13, Ar13, qc13, Sz13, Nn13, Hs13, Gs13⟩ := id V1
  have hin13 := inb_of (j := (2 : Int32)) Sz13 ⟨by decide, by decide⟩
  have pre14 : oL p e below T11 (mkF m 42 #[oR t1, oI 3] [oi (y2 &&& (255 : Int32))]) s₁ (entryFrame m #[(.ref t1), (.int (1 : Int32))] 2) := fun t k => pre12 t (by
    refine X11.baloadBytes hx (j := (2 : Int32)) (v := (.int y2)) (by rw [e11]; exact Ar13.1) (State.isArrayOf_alike hZ.alike Ar13.2.1) Ar13.2.2 hin13 (Hs13.at hin13 rfl) (g := (mkF m 37 #[oR t1, oI 3] [oi 2, ow t1])) rfl rfl (hb hby d15_37) _ ?_
    refine XS.sipush X11.here hx rfl (hb hby d15_38) ?_
    refine XS.iand X11.here hx rfl (hb hby d15_41) rfl ?_
    show oS p e below T11 (mkF m 42 #[oR t1, oI 3] [oi (y2 &&& (255 : Int32))]) _
    exact k)
  obtain ⟨T15, X15, e15, st15⟩ := getS2 X11 hx hZ hown (host := "") (Or.inl (oW hw 74 rfl)) Via.refl e11 (HB.ext OL.2) (g := (mkF m 42 #[oR t1, oI 3] [oi (y2 &&& (255 : Int32))])) rfl (hb hby d15_42)
  have pre16 : oL p e below T15 (mkF m 48 #[oR t1, oI 3] [oi 3, ow t1, oi ((y2 &&& (255 : Int32)) <<< ((0 : Int32) &&& 31))]) s₁ (entryFrame m #[(.ref t1), (.int (1 : Int32))] 2) := fun t k => pre14 t (by
    refine st15 _ ?_
    refine XS.ishl X15.here hx rfl (hb hby d15_45) rfl ?_
    refine XS.aloadN X15.here hx rfl (hb hby d15_46) rfl rfl ?_
    refine XS.iloadN X15.here hx rfl (hb hby d15_47) rfl ?_
    show oS p e below T15 (mkF m 48 #[oR t1, oI 3] [oi 3, ow t1, oi ((y2 &&& (255 : Int32)) <<< ((0 : Int32) &&& 31))]) _
    exact k)
  obtain ⟨cl17, Ar17, qc17, Sz17, Nn17, Hs17, Gs17⟩ := id V1
  have hin17 := inb_of (j := (3 : Int32)) Sz17 ⟨by decide, by decide⟩
  have pre18 : oL p e below T15 (mkF m 53 #[oR t1, oI 3] [oi (y3 &&& (255 : Int32)), oi ((y2 &&& (255 : Int32)) <<< ((0 : Int32) &&& 31))]) s₁ (entryFrame m #[(.ref t1), (.int (1 : Int32))] 2) := fun t k => pre16 t (by
    refine X15.baloadBytes hx (j := (3 : Int32)) (v := (.int y3)) (by rw [e15]; exact Ar17.1) (State.isArrayOf_alike hZ.alike Ar17.2.1) Ar17.2.2 hin17 (Hs17.at hin17 rfl) (g := (mkF m 48 #[oR t1, oI 3] [oi 3, ow t1, oi ((y2 &&& (255 : Int32)) <<< ((0 : Int32) &&& 31))])) rfl rfl (hb hby d15_48) _ ?_
    refine XS.sipush X15.here hx rfl (hb hby d15_49) ?_
    refine XS.iand X15.here hx rfl (hb hby d15_52) rfl ?_
    exact k)
  obtain ⟨T19, X19, e19, st19⟩ := getS2 X15 hx hZ hown (host := "") (Or.inl (oW hw 75 rfl)) Via.refl e15 (LB.ext OL.2) (g := (mkF m 53 #[oR t1, oI 3] [oi (y3 &&& (255 : Int32)), oi ((y2 &&& (255 : Int32)) <<< ((0 : Int32) &&& 31))])) rfl (hb hby d15_53)
  have pre20 : oL p e below T19 (mkF m 59 #[oR t1, oI 3] [oi ((((y2 &&& (255 : Int32)) <<< ((0 : Int32) &&& 31)) ||| ((y3 &&& (255 : Int32)) <<< ((8 : Int32) &&& 31))).toUInt32.toUInt16.toUInt32.toInt32)]) s₁ (entryFrame m #[(.ref t1), (.int (1 : Int32))] 2) := fun t k => pre18 t (by
    refine st19 _ ?_
    show oS p e below T19 (mkF m 56 #[oR t1, oI 3] [oi 8, oi (y3 &&& (255 : Int32)), oi ((y2 &&& (255 : Int32)) <<< ((0 : Int32) &&& 31))]) _
    refine XS.ishl X19.here hx rfl (hb hby d15_56) rfl ?_
    refine XS.ior X19.here hx rfl (hb hby d15_57) rfl ?_
    refine XS.i2c X19.here hx rfl (hb hby d15_58) rfl ?_
    exact k)
  obtain ⟨fs, hr, hrun, hended, hW, hsame⟩ := X19.leave (v := some (.int (nar .char ((((y2 &&& (255 : Int32)) <<< ((0 : Int32) &&& 31)) ||| ((y3 &&& (255 : Int32)) <<< ((8 : Int32) &&& 31))).toUInt32.toUInt16.toUInt32.toInt32)))) (fun h => by rw [Bd.returns] at h; cases h)
  refine ⟨_, _, pre20 _ ?_, hrun, hended, _, _, rfl, ?_, ⟨_, rfl⟩, hW, hsame.mono (by decide) (by decide)⟩
  ·
    show oS p e below T19 (mkF m 59 #[oR t1, oI 3] [oi ((((y2 &&& (255 : Int32)) <<< ((0 : Int32) &&& 31)) ||| ((y3 &&& (255 : Int32)) <<< ((8 : Int32) &&& 31))).toUInt32.toUInt16.toUInt32.toInt32)]) _
    exact retN X19 hx (t := .char) Bd.returns (by simp) (hb hby d15_59) hr
  ·
    show Q_rm_get2_1 Z t1 k1 y0 y1 y2 y3 h0 n0 _ T19.heap _
    rw [e19]
    exact ⟨rfl, N0, rfl⟩
def Q_rm_cfl2 (Z : State) (t1 : Addr) (k1 : ClassId) (y0 : Int32) (y1 : Int32) (y2 : Int32) (y3 : Int32) (h0 : Heap) (n0 : Nat) (v : Option Value) (h : Heap) (L : List Loc) : Prop := v = some (.int (1 : Int32)) ∧ Fr n0 L ∧ h = h0
set_option maxRecDepth 65536 in
set_option maxHeartbeats 40000000 in
theorem rm_cfl2 (l : Launch) (Z : State) (a0 : Array Value) (hw : ∀ d ∈ tables_1, d.before a0 Z = true) (ws : List Jvm.Cond) (t1 : Addr) (k1 : ClassId) (y0 : Int32) (y1 : Int32) (y2 : Int32) (y3 : Int32) (h0 : Heap) (n0 : Nat) (OL : Old Z n0 h0) (V1 : Arv Z h0 t1 k1 .byte (4 : Int32) [(.int y0), (.int y1), (.int y2), (.int y3)] (.int (0 : Int32))) :
    MetFree l (⟨"java/lang/StringUTF16", "coderFromArrayLen", "([BI)B"⟩ : MethodName) (head1 (Jvm.Cond.code (⟨"java/lang/StringUTF16", "coderFromArrayLen", "([BI)B"⟩ : MethodName) jdk_52_method_15_code 2 (some .byte) :: ws) ({ frames := 0, cells := 0, slots := 0, locals := 0 } : Room)) (fun a U => a = #[(.ref t1), (.int (2 : Int32))] ∧ Z.Warmed39 U.vm ∧ U.heap = h0) (fun _ _ _ _ _ => True) (fun _ U o U' => ∃ v L, o = .returned v ∧ Q_rm_cfl2 Z t1 k1 y0 y1 y2 y3 h0 n0 v U'.heap L ∧ FrameEnd U o U' L ({ frames := 0, cells := 0, slots := 0, locals := 0 } : Room).cells ({ frames := 0, cells := 0, slots := 0, locals := 0 } : Room).slots) := by
  refine MetFree.of_bodySF (plainFor_of_name pn_java_lang_StringUTF16) hisR ?_
  intro p e s m args below meth c s₁ Bd hml0 hP hK
  obtain ⟨rfl, hZ, hh⟩ := hP
  have hx := Bd.exec
  have hby := Bd.bytes
  have hml : c.maxLocals = 2 := hml0
  have hown : s.vm.findClass "java/lang/StringUTF16" = some m.cls := findClass_of_methodNamed Bd.named
  have hnm := (name_of_methodNamed Bd.named Bd.method).1
  have X0 : Stand p l e ({ frames := 0, cells := 0, slots := 0, locals := 0 } : Room) s m #[(.ref t1), (.int (2 : Int32))] below meth c s₁ [] 0 0 := Stand.of_body Bd
  have e0 : s₁.heap = h0 := by rw [← hh, Bd.state]; rfl
  have N0 := Fr.nil n0
  have pre0 : oL p e below s₁ (mkF m 0 #[oR t1, oI 2] []) s₁ (entryFrame m #[(.ref t1), (.int (2 : Int32))] 2) := fun t k => castTop (by first | (simp [entryFrame, mkF, argsToLocals, Value.category]; done) | rfl) k
  have pre12 : oL p e below s₁ (mkF m 2 #[oR t1, oI 2] [ow t1, oi 2]) s₁ (entryFrame m #[(.ref t1), (.int (2 : Int32))] 2) := fun t k => pre0 t (by
    refine XS.iloadN X0.here hx rfl (hb hby d7_0) rfl ?_
    refine XS.aloadN X0.here hx rfl (hb hby d7_1) rfl rfl ?_
    exact k)
  obtain ⟨cl11, Ar11, -, Sz11, Nn11, -, -⟩ := id V1
  have pre13 : oL p e below s₁ (mkF m 8 #[oR t1, oI 2] [oi 1]) s₁ (entryFrame m #[(.ref t1), (.int (2 : Int32))] 2) := fun t k => pre12 t (by
    refine X0.arraylength hx (by rw [e0]; exact Ar11.1) (State.isArrayOf_alike hZ.alike Ar11.2.1) (g := (mkF m 2 #[oR t1, oI 2] [ow t1, oi 2])) rfl rfl (hb hby d7_2) _ ?_
    rw [len_of Sz11 Nn11]
    refine XS.isub X0.here hx rfl (hb hby d7_3) rfl ?_
    show oS p e below s₁ (mkF m 4 #[oR t1, oI 2] [oi (-2)]) _
    refine XS.bipush X0.here hx rfl (hb hby d7_4) ?_
    refine XS.iushr X0.here hx rfl (hb hby d7_6) rfl ?_
    refine XS.i2b X0.here hx rfl (hb hby d7_7) rfl ?_
    exact k)
  obtain ⟨fs, hr, hrun, hended, hW, hsame⟩ := X0.leave (v := some (.int (1 : Int32))) (fun h => by rw [Bd.returns] at h; cases h)
  refine ⟨_, _, pre13 _ ?_, hrun, hended, _, _, rfl, ?_, ⟨_, rfl⟩, hW, hsame.mono (by decide) (by decide)⟩
  ·
    show oS p e below s₁ (mkF m 8 #[oR t1, oI 2] [oi 1]) _
    exact retN X0 hx (t := .byte) Bd.returns (by simp) (hb hby d7_8) hr
  ·
    show Q_rm_cfl2 Z t1 k1 y0 y1 y2 y3 h0 n0 _ s₁.heap _
    rw [e0]
    exact ⟨rfl, N0, rfl⟩
def Q_rm_cfl2L (Z : State) (t1 : Addr) (k1 : ClassId) (z0 : Int32) (z1 : Int32) (h0 : Heap) (n0 : Nat) (v : Option Value) (h : Heap) (L : List Loc) : Prop := v = some (.int (0 : Int32)) ∧ Fr n0 L ∧ h = h0
set_option maxRecDepth 65536 in
set_option maxHeartbeats 40000000 in
theorem rm_cfl2L (l : Launch) (Z : State) (a0 : Array Value) (hw : ∀ d ∈ tables_1, d.before a0 Z = true) (ws : List Jvm.Cond) (t1 : Addr) (k1 : ClassId) (z0 : Int32) (z1 : Int32) (h0 : Heap) (n0 : Nat) (OL : Old Z n0 h0) (V1 : Arv Z h0 t1 k1 .byte (2 : Int32) [(.int z0), (.int z1)] (.int (0 : Int32))) :
    MetFree l (⟨"java/lang/StringUTF16", "coderFromArrayLen", "([BI)B"⟩ : MethodName) (head1 (Jvm.Cond.code (⟨"java/lang/StringUTF16", "coderFromArrayLen", "([BI)B"⟩ : MethodName) jdk_52_method_15_code 2 (some .byte) :: ws) ({ frames := 0, cells := 0, slots := 0, locals := 0 } : Room)) (fun a U => a = #[(.ref t1), (.int (2 : Int32))] ∧ Z.Warmed39 U.vm ∧ U.heap = h0) (fun _ _ _ _ _ => True) (fun _ U o U' => ∃ v L, o = .returned v ∧ Q_rm_cfl2L Z t1 k1 z0 z1 h0 n0 v U'.heap L ∧ FrameEnd U o U' L ({ frames := 0, cells := 0, slots := 0, locals := 0 } : Room).cells ({ frames := 0, cells := 0, slots := 0, locals := 0 } : Room).slots) := by
  refine MetFree.of_bodySF (plainFor_of_name pn_java_lang_StringUTF16) hisR ?_
  intro p e s m args below meth c s₁ Bd hml0 hP hK
  obtain ⟨rfl, hZ, hh⟩ := hP
  have hx := Bd.exec
  have hby := Bd.bytes
  have hml : c.maxLocals = 2 := hml0
  have hown : s.vm.findClass "java/lang/StringUTF16" = some m.cls := findClass_of_methodNamed Bd.named
  have hnm := (name_of_methodNamed Bd.named Bd.method).1
  have X0 : Stand p l e ({ frames := 0, cells := 0, slots := 0, locals := 0 } : Room) s m #[(.ref t1), (.int (2 : Int32))] below meth c s₁ [] 0 0 := Stand.of_body Bd
  have e0 : s₁.heap = h0 := by rw [← hh, Bd.state]; rfl
  have N0 := Fr.nil n0
  have pre0 : oL p e below s₁ (mkF m 0 #[oR t1, oI 2] []) s₁ (entryFrame m #[(.ref t1), (.int (2 : Int32))] 2) := fun t k => castTop (by first | (simp [entryFrame, mkF, argsToLocals, Value.category]; done) | rfl) k
  have pre12 : oL p e below s₁ (mkF m 2 #[oR t1, oI 2] [ow t1, oi 2]) s₁ (entryFrame m #[(.ref t1), (.int (2 : Int32))] 2) := fun t k => pre0 t (by
    refine XS.iloadN X0.here hx rfl (hb hby d7_0) rfl ?_
    refine XS.aloadN X0.here hx rfl (hb hby d7_1) rfl rfl ?_
    exact k)
  obtain ⟨cl11, Ar11, -, Sz11, Nn11, -, -⟩ := id V1
  have pre13 : oL p e below s₁ (mkF m 8 #[oR t1, oI 2] [oi 0]) s₁ (entryFrame m #[(.ref t1), (.int (2 : Int32))] 2) := fun t k => pre12 t (by
    refine X0.arraylength hx (by rw [e0]; exact Ar11.1) (State.isArrayOf_alike hZ.alike Ar11.2.1) (g := (mkF m 2 #[oR t1, oI 2] [ow t1, oi 2])) rfl rfl (hb hby d7_2) _ ?_
    rw [len_of Sz11 Nn11]
    refine XS.isub X0.here hx rfl (hb hby d7_3) rfl ?_
    show oS p e below s₁ (mkF m 4 #[oR t1, oI 2] [oi 0]) _
    refine XS.bipush X0.here hx rfl (hb hby d7_4) ?_
    refine XS.iushr X0.here hx rfl (hb hby d7_6) rfl ?_
    refine XS.i2b X0.here hx rfl (hb hby d7_7) rfl ?_
    exact k)
  obtain ⟨fs, hr, hrun, hended, hW, hsame⟩ := X0.leave (v := some (.int (0 : Int32))) (fun h => by rw [Bd.returns] at h; cases h)
  refine ⟨_, _, pre13 _ ?_, hrun, hended, _, _, rfl, ?_, ⟨_, rfl⟩, hW, hsame.mono (by decide) (by decide)⟩
  ·
    show oS p e below s₁ (mkF m 8 #[oR t1, oI 2] [oi 0]) _
    exact retN X0 hx (t := .byte) Bd.returns (by simp) (hb hby d7_8) hr
  ·
    show Q_rm_cfl2L Z t1 k1 z0 z1 h0 n0 _ s₁.heap _
    rw [e0]
    exact ⟨rfl, N0, rfl⟩
def Q_rm_c5_2_0 (Z : State) (a1 : Addr) (k1 : ClassId) (t1 : Addr) (k2 : ClassId) (c0 : Int32) (c1 : Int32) (h0 : Heap) (n0 : Nat) (v : Option Value) (h : Heap) (L : List Loc) : Prop := v = some (.int (0 : Int32)) ∧ Fr n0 L ∧ Keep h0 h [t1]
set_option maxRecDepth 65536 in
set_option maxHeartbeats 40000000 in
theorem rm_c5_2_0 (l : Launch) (Z : State) (a0 : Array Value) (hw : ∀ d ∈ tables_1, d.before a0 Z = true) (ws : List Jvm.Cond) (a1 : Addr) (k1 : ClassId) (t1 : Addr) (k2 : ClassId) (c0 : Int32) (c1 : Int32) (h0 : Heap) (n0 : Nat) (OL : Old Z n0 h0) (ge1 : n0 ≤ t1) (V1 : Arv Z h0 a1 k1 .char (2 : Int32) [(.int c0), (.int c1)] (.int (0 : Int32))) (V2 : Arv Z h0 t1 k2 .byte (2 : Int32) [(.int (0 : Int32)), (.int (0 : Int32))] (.int (0 : Int32))) (ne1 : a1 ≠ t1) (hg : (255 : Int32) < c0) :
    MetFree l (⟨"java/lang/StringUTF16", "compress", "([CI[BII)I"⟩ : MethodName) (head1 (Jvm.Cond.code (⟨"java/lang/StringUTF16", "compress", "([CI[BII)I"⟩ : MethodName) jdk_52_method_21_code 7 (some .int) :: ws) ({ frames := 0, cells := 0, slots := 0, locals := 0 } : Room)) (fun a U => a = #[(.ref a1), (.int (0 : Int32)), (.ref t1), (.int (0 : Int32)), (.int (2 : Int32))] ∧ Z.Warmed39 U.vm ∧ U.heap = h0) (fun _ _ _ _ _ => True) (fun _ U o U' => ∃ v L, o = .returned v ∧ Q_rm_c5_2_0 Z a1 k1 t1 k2 c0 c1 h0 n0 v U'.heap L ∧ FrameEnd U o U' L ({ frames := 0, cells := 0, slots := 0, locals := 0 } : Room).cells ({ frames := 0, cells := 0, slots := 0, locals := 0 } : Room).slots) := by
  refine MetFree.of_bodySF (plainFor_of_name pn_java_lang_StringUTF16) hisR ?_
  intro p e s m args below meth c s₁ Bd hml0 hP hK
  obtain ⟨rfl, hZ, hh⟩ := hP
  have hx := Bd.exec
  have hby := Bd.bytes
  have hml : c.maxLocals = 7 := hml0
  have hown : s.vm.findClass "java/lang/StringUTF16" = some m.cls := findClass_of_methodNamed Bd.named
  have hnm := (name_of_methodNamed Bd.named Bd.method).1
  have X0 : Stand p l e ({ frames := 0, cells := 0, slots := 0, locals := 0 } : Room) s m #[(.ref a1), (.int (0 : Int32)), (.ref t1), (.int (0 : Int32)), (.int (2 : Int32))] below meth c s₁ [] 0 0 := Stand.of_body Bd
  have e0 : s₁.heap = h0 := by rw [← hh, Bd.state]; rfl
  have N0 := Fr.nil n0
  have pre0 : oL p e below s₁ (mkF m 0 #[oR a1, oI 0, oR t1, oI 0, oI 2, oU, oU] []) s₁ (entryFrame m #[(.ref a1), (.int (0 : Int32)), (.ref t1), (.int (0 : Int32)), (.int (2 : Int32))] 7) := fun t k => castTop (by first | (simp [entryFrame, mkF, argsToLocals, Value.category]; done) | rfl) k
  have pre11 : oL p e below s₁ (mkF m 12 #[oR a1, oI 0, oR t1, oI 0, oI 2, oI 0, oU] [oi 0, ow a1]) s₁ (entryFrame m #[(.ref a1), (.int (0 : Int32)), (.ref t1), (.int (0 : Int32)), (.int (2 : Int32))] 7) := fun t k => pre0 t (by
    refine XS.iconst X0.here hx rfl (hb hby d6_0) ?_
    refine XS.istore X0.here hx rfl (hb hby d6_1) rfl (l' := #[oR a1, oI 0, oR t1, oI 0, oI 2, oI 0, oU]) rfl ?_
    refine XS.iload X0.here hx rfl (hb hby d6_3) rfl ?_
    refine XS.iload X0.here hx rfl (hb hby d6_5) rfl ?_
    show oS p e below s₁ (mkF m 7 #[oR a1, oI 0, oR t1, oI 0, oI 2, oI 0, oU] [oi 2, oi 0]) _
    refine XS.icmpNo X0.here hx rfl (hb hby d6_7) rfl (tlt (by decide : (0 : Int32) < (2 : Int32))).2.1 ?_
    refine XS.aloadN X0.here hx rfl (hb hby d6_10) rfl rfl ?_
    refine XS.iloadN X0.here hx rfl (hb hby d6_11) rfl ?_
    exact k)
  obtain ⟨cl12, Ar12, qc12, Sz12, Nn12, Hs12, Gs12⟩ := id V1
  have hin12 := inb_of (j := (0 : Int32)) Sz12 ⟨by decide, by decide⟩
  have pre13 : oL p e below s₁ (mkF m 25 #[oR a1, oI 0, oR t1, oI 0, oI 2, oI 0, oI c0] [oi 0]) s₁ (entryFrame m #[(.ref a1), (.int (0 : Int32)), (.ref t1), (.int (0 : Int32)), (.int (2 : Int32))] 7) := fun t k => pre11 t (by
    refine X0.caload hx (j := (0 : Int32)) (v := (.int c0)) (by rw [e0]; exact Ar12.1) (State.isArrayOf_alike hZ.alike Ar12.2.1) Ar12.2.2 hin12 (Hs12.at hin12 rfl) (g := (mkF m 12 #[oR a1, oI 0, oR t1, oI 0, oI 2, oI 0, oU] [oi 0, ow a1])) rfl rfl (hb hby d6_12) _ ?_
    show oS p e below s₁ (mkF m 13 #[oR a1, oI 0, oR t1, oI 0, oI 2, oI 0, oU] [oi c0]) _
    refine XS.istore X0.here hx rfl (hb hby d6_13) rfl (l' := #[oR a1, oI 0, oR t1, oI 0, oI 2, oI 0, oI c0]) rfl ?_
    refine XS.iload X0.here hx rfl (hb hby d6_15) rfl ?_
    refine XS.sipush X0.here hx rfl (hb hby d6_17) ?_
    refine XS.icmpNo X0.here hx rfl (hb hby d6_20) rfl (tlt hg).2.2.2 ?_
    show oS p e below s₁ (mkF m 23 #[oR a1, oI 0, oR t1, oI 0, oI 2, oI 0, oI c0] []) _
    refine XS.iload X0.here hx rfl (hb hby d6_23) rfl ?_
    exact k)
  obtain ⟨fs, hr, hrun, hended, hW, hsame⟩ := X0.leave (v := some (.int (0 : Int32))) (fun h => by rw [Bd.returns] at h; cases h)
  refine ⟨_, _, pre13 _ ?_, hrun, hended, _, _, rfl, ?_, ⟨_, rfl⟩, hW, hsame.mono (by decide) (by decide)⟩
  ·
    show oS p e below s₁ (mkF m 25 #[oR a1, oI 0, oR t1, oI 0, oI 2, oI 0, oI c0] [oi 0]) _
    exact retI X0 hx Bd.returns (hb hby d6_25) hr
  ·
    show Q_rm_c5_2_0 Z a1 k1 t1 k2 c0 c1 h0 n0 _ s₁.heap _
    rw [e0]
    exact ⟨rfl, N0, (Keep.refl h0 [t1])⟩
def Q_rm_cmp_2_0 (Z : State) (a1 : Addr) (k1 : ClassId) (c0 : Int32) (c1 : Int32) (h0 : Heap) (n0 : Nat) (v : Option Value) (h : Heap) (L : List Loc) : Prop := ∃ (r : Addr) (kr : ClassId), v = some (.ref r) ∧ Fr n0 L ∧ Keep h0 h [] ∧ h0.size ≤ r ∧ Arv Z h r kr .byte (4 : Int32) [(.int (own_hb c0)), (.int (own_lb c0)), (.int (own_hb c1)), (.int (own_lb c1))] (.int (0 : Int32))
set_option maxRecDepth 65536 in
set_option maxHeartbeats 40000000 in
theorem rm_cmp_2_0 (l : Launch) (Z : State) (a0 : Array Value) (hw : ∀ d ∈ tables_1, d.before a0 Z = true) (ws : List Jvm.Cond) (a1 : Addr) (k1 : ClassId) (c0 : Int32) (c1 : Int32) (h0 : Heap) (n0 : Nat) (OL : Old Z n0 h0) (AD : Sta Z Z.heap "java/lang/StringUTF16" "$assertionsDisabled" "Z" (.int (1 : Int32))) (HB : Sta Z Z.heap "java/lang/StringUTF16" "HI_BYTE_SHIFT" "I" (.int (0 : Int32))) (LB : Sta Z Z.heap "java/lang/StringUTF16" "LO_BYTE_SHIFT" "I" (.int (8 : Int32))) (V1 : Arv Z h0 a1 k1 .char (2 : Int32) [(.int c0), (.int c1)] (.int (0 : Int32))) (hg : (255 : Int32) < c0) (nc0 : nar .char c0 = c0) (nc1 : nar .char c1 = c1) :
    MetFree l (⟨"java/lang/StringUTF16", "compress", "([CII)[B"⟩ : MethodName) (head1 (Jvm.Cond.code (⟨"java/lang/StringUTF16", "compress", "([CII)[B"⟩ : MethodName) jdk_52_method_16_code 6 (some (.array .byte)) :: ws) ({ frames := 3, cells := 2, slots := 6, locals := 40 } : Room)) (fun a U => a = #[(.ref a1), (.int (0 : Int32)), (.int (2 : Int32))] ∧ Z.Warmed39 U.vm ∧ U.heap = h0) (fun _ _ _ _ _ => True) (fun _ U o U' => ∃ v L, o = .returned v ∧ Q_rm_cmp_2_0 Z a1 k1 c0 c1 h0 n0 v U'.heap L ∧ FrameEnd U o U' L ({ frames := 3, cells := 2, slots := 6, locals := 40 } : Room).cells ({ frames := 3, cells := 2, slots := 6, locals := 40 } : Room).slots) := by
  refine MetFree.of_bodySF (plainFor_of_name pn_java_lang_StringUTF16) hisR ?_
  intro p e s m args below meth c s₁ Bd hml0 hP hK
  obtain ⟨rfl, hZ, hh⟩ := hP
  have hx := Bd.exec
  have hby := Bd.bytes
  have hml : c.maxLocals = 6 := hml0
  have hown : s.vm.findClass "java/lang/StringUTF16" = some m.cls := findClass_of_methodNamed Bd.named
  have hnm := (name_of_methodNamed Bd.named Bd.method).1
  have X0 : Stand p l e ({ frames := 3, cells := 2, slots := 6, locals := 40 } : Room) s m #[(.ref a1), (.int (0 : Int32)), (.int (2 : Int32))] below meth c s₁ [] 0 0 := Stand.of_body Bd
  have e0 : s₁.heap = h0 := by rw [← hh, Bd.state]; rfl
  have N0 := Fr.nil n0
  have pre0 : oL p e below s₁ (mkF m 0 #[oR a1, oI 0, oI 2, oU, oU, oU] []) s₁ (entryFrame m #[(.ref a1), (.int (0 : Int32)), (.int (2 : Int32))] 6) := fun t k => castTop (by first | (simp [entryFrame, mkF, argsToLocals, Value.category]; done) | rfl) k
  have pre11 : oL p e below s₁ (mkF m 1 #[oR a1, oI 0, oI 2, oU, oU, oU] [oi 2]) s₁ (entryFrame m #[(.ref a1), (.int (0 : Int32)), (.int (2 : Int32))] 6) := fun t k => pre0 t (by
    refine XS.iloadN X0.here hx rfl (hb hby d5_0) rfl ?_
    exact k)
  obtain ⟨T12, h12, k12, X12, e12, E12, A12, st12⟩ := newP X0 hx hZ (oW hw 26 rfl) e0 (g := (mkF m 1 #[oR a1, oI 0, oI 2, oU, oU, oU] [oi 2])) rfl (hb hby d5_1) rfl (by decide) (cap := 2) (by decide) (by decide) (by decide) (by decide)
  obtain ⟨b12, g12⟩ : ∃ z, z = h0.size := ⟨_, rfl⟩
  rw [← g12] at A12 st12
  have ne13 : a1 ≠ b12 := Nat.ne_of_lt (Nat.lt_of_lt_of_le V1.lt (Nat.le_of_eq g12.symm))
  have ge_b12 : n0 ≤ b12 := Nat.le_trans (OL.1 ▸ OL.2.1) (Nat.le_of_eq g12.symm)
  have sz_b12 : h0.size ≤ b12 := Nat.le_trans (Keep.refl h0 []).1 (Nat.le_of_eq g12.symm)
  have f14 := V1.ext E12
  have OL15 := OL.ext E12
  have K16 : Keep h0 h12 [] := (Keep.refl h0 []).ext E12
  have V12 : Arv Z h12 b12 k12 .byte (2 : Int32) [(.int (0 : Int32)), (.int (0 : Int32))] (.int (0 : Int32)) := (Arv.new A12 (by decide)).pad (pad_rep [] (.int (0 : Int32)) 2)
  have pre17 : oL p e below T12 (mkF m 9 #[oR a1, oI 0, oI 2, oR b12, oU, oU] [oi 2, oi 0, ow b12, oi 0, ow a1]) s₁ (entryFrame m #[(.ref a1), (.int (0 : Int32)), (.int (2 : Int32))] 6) := fun t k => pre11 t (by
    refine st12 _ ?_
    refine XS.astoreN X12.here hx rfl (hb hby d5_3) rfl rfl (l' := #[oR a1, oI 0, oI 2, oR b12, oU, oU]) rfl ?_
    refine XS.aloadN X12.here hx rfl (hb hby d5_4) rfl rfl ?_
    show oS p e below T12 (mkF m 5 #[oR a1, oI 0, oI 2, oR b12, oU, oU] [ow a1]) _
    refine XS.iloadN X12.here hx rfl (hb hby d5_5) rfl ?_
    refine XS.aloadN X12.here hx rfl (hb hby d5_6) rfl rfl ?_
    refine XS.iconst X12.here hx rfl (hb hby d5_7) ?_
    refine XS.iloadN X12.here hx rfl (hb hby d5_8) rfl ?_
    show oS p e below T12 (mkF m 9 #[oR a1, oI 0, oI 2, oR b12, oU, oU] [oi 2, oi 0, ow b12, oi 0, ow a1]) _
    exact k)
  obtain ⟨_, _, ⟨T18, L18, k18, n18⟩, -, X18, ⟨Lc18, hQ18, l18, y18, z18⟩, st18⟩ := Jvm.LawKit.callS X12 hx (y := (⟨"java/lang/StringUTF16", "compress", "([CI[BII)I"⟩ : MethodName)) hown (mvT hZ (oW hw 27 rfl)) (mvT hZ (oW hw 28 rfl)) (mvT hZ (oW hw 24 rfl)) (mvT hZ (oW hw 29 rfl)) (by decide) (backOf (W := 0) (rm_c5_2_0 l Z a0 hw [] a1 k1 b12 k12 c0 c1 h12 n0 OL15 ge_b12 f14 V12 ne13  hg) hZ (oW hw 29 rfl) (oW hw 24 rfl) (by decide) (by decide)) (g := (mkF m 9 #[oR a1, oI 0, oI 2, oR b12, oU, oU] [oi 2, oi 0, ow b12, oi 0, ow a1])) rfl (by rw [hml]; rfl) (argsL := [(.ref a1), (.int (0 : Int32)), (.ref b12), (.int (0 : Int32)), (.int (2 : Int32))]) (rest := []) (lenOf pd___CI_BII_I rfl) rfl (by show 2 * 0 + _ ≤ _; exact Nat.le_of_eq rfl) (hb hby d5_9) (fun _ _ => ⟨rfl, e12, (by decide : 1 + 0 ≤ _), (by decide : 2 + 0 ≤ _)⟩)
  dsimp only [Pt.U, Pt.locs, Pt.cells, Pt.slots] at X18 l18 y18 z18 st18 hQ18
  subst l18 y18 z18
  obtain ⟨rfl, N18q, Kq18⟩ := hQ18
  have N18 := Fr.app N0 N18q
  have f19 := f14.keep Kq18 (ninS ne13 nin0)
  have OL20 := OL15.keep Kq18 (allS ge_b12 all0)
  have K21 : Keep h0 T18.heap [] := K16.trans Kq18 (allS (Or.inr sz_b12) all0)
  have pre22 : oL p e below T18 (mkF m 23 #[oR a1, oI 0, oI 2, oR b12, oI 0, oU] [oi 2, oi 0, ow a1]) s₁ (entryFrame m #[(.ref a1), (.int (0 : Int32)), (.int (2 : Int32))] 6) := fun t k => pre17 t (by
    refine st18 _ ?_
    refine XS.istore X18.here hx rfl (hb hby d5_12) rfl (l' := #[oR a1, oI 0, oI 2, oR b12, oI 0, oU]) rfl ?_
    refine XS.iload X18.here hx rfl (hb hby d5_14) rfl ?_
    refine XS.iloadN X18.here hx rfl (hb hby d5_16) rfl ?_
    show oS p e below T18 (mkF m 17 #[oR a1, oI 0, oI 2, oR b12, oI 0, oU] [oi 2, oi 0]) _
    refine XS.icmpNo X18.here hx rfl (hb hby d5_17) rfl (feq (by decide : ¬ ((0 : Int32) = (2 : Int32)))).1 ?_
    refine XS.aloadN X18.here hx rfl (hb hby d5_20) rfl rfl ?_
    refine XS.iloadN X18.here hx rfl (hb hby d5_21) rfl ?_
    refine XS.iloadN X18.here hx rfl (hb hby d5_22) rfl ?_
    show oS p e below T18 (mkF m 23 #[oR a1, oI 0, oI 2, oR b12, oI 0, oU] [oi 2, oi 0, ow a1]) _
    exact k)
  obtain ⟨_, _, ⟨T23, L23, k23, n23⟩, -, X23, ⟨Lc23, hQ23, l23, y23, z23⟩, st23⟩ := Jvm.LawKit.callS X18 hx (y := (⟨"java/lang/StringUTF16", "toBytes", "([CII)[B"⟩ : MethodName)) hown (mvT hZ (oW hw 60 rfl)) (mvT hZ (oW hw 61 rfl)) (mvT hZ (oW hw 24 rfl)) (mvT hZ (oW hw 62 rfl)) (by decide) (backOf (W := 0) (rm_tob2 l Z a0 hw [] a1 k1 c0 c1 T18.heap n0 OL20 AD HB LB f19) hZ (oW hw 62 rfl) (oW hw 24 rfl) (by decide) (by decide)) (g := (mkF m 23 #[oR a1, oI 0, oI 2, oR b12, oI 0, oU] [oi 2, oi 0, ow a1])) rfl (by rw [hml]; rfl) (argsL := [(.ref a1), (.int (0 : Int32)), (.int (2 : Int32))]) (rest := []) (lenOf pd___CII__B rfl) rfl (by show 2 * 0 + _ ≤ _; exact Nat.le_of_eq rfl) (hb hby d5_23) (fun _ _ => ⟨rfl, rfl, (by decide : 1 + 1 ≤ _), (by decide : 2 + 4 ≤ _)⟩)
  dsimp only [Pt.U, Pt.locs, Pt.cells, Pt.slots] at X23 l23 y23 z23 st23 hQ23
  subst l23 y23 z23
  obtain ⟨r23, kr23, rfl, N23q, Kq23, sq23, Va23⟩ := hQ23
  have N23 := Fr.app N18 N23q
  have ne24 : a1 ≠ r23 := Nat.ne_of_lt (Nat.lt_of_lt_of_le f19.lt sq23)
  have ge_r23 : n0 ≤ r23 := Nat.le_trans (OL20.1 ▸ OL20.2.1) sq23
  have sz_r23 : h0.size ≤ r23 := Nat.le_trans K21.1 sq23
  have f25 := f19.keep Kq23 nin0
  have OL26 := OL20.keep Kq23 all0
  have K27 : Keep h0 T23.heap [] := K21.trans Kq23 all0
  have pre28 : oL p e below T23 (mkF m 32 #[oR a1, oI 0, oI 2, oR b12, oI 0, oR r23] [oi 0, ow r23]) s₁ (entryFrame m #[(.ref a1), (.int (0 : Int32)), (.int (2 : Int32))] 6) := fun t k => pre22 t (by
    refine st23 _ ?_
    refine XS.astore X23.here hx rfl (hb hby d5_26) rfl rfl (l' := #[oR a1, oI 0, oI 2, oR b12, oI 0, oR r23]) rfl ?_
    refine XS.aload X23.here hx rfl (hb hby d5_28) rfl rfl ?_
    refine XS.iload X23.here hx rfl (hb hby d5_30) rfl ?_
    show oS p e below T23 (mkF m 32 #[oR a1, oI 0, oI 2, oR b12, oI 0, oR r23] [oi 0, ow r23]) _
    exact k)
  obtain ⟨_, _, ⟨T29, L29, k29, n29⟩, -, X29, ⟨Lc29, hQ29, l29, y29, z29⟩, st29⟩ := Jvm.LawKit.callS X23 hx (y := (⟨"java/lang/StringUTF16", "getChar", "([BI)C"⟩ : MethodName)) hown (mvT hZ (oW hw 76 rfl)) (mvT hZ (oW hw 77 rfl)) (mvT hZ (oW hw 24 rfl)) (mvT hZ (oW hw 78 rfl)) (by decide) (backOf (W := 0) (rm_get2_0 l Z a0 hw [] r23 kr23 (own_hb c0) (own_lb c0) (own_hb c1) (own_lb c1) T23.heap n0 OL26 AD HB LB Va23) hZ (oW hw 78 rfl) (oW hw 24 rfl) (by decide) (by decide)) (g := (mkF m 32 #[oR a1, oI 0, oI 2, oR b12, oI 0, oR r23] [oi 0, ow r23])) rfl (by rw [hml]; rfl) (argsL := [(.ref r23), (.int (0 : Int32))]) (rest := []) (lenOf pd___BI_C rfl) rfl (by show 2 * 0 + _ ≤ _; exact Nat.le_of_eq rfl) (hb hby d5_32) (fun _ _ => ⟨rfl, rfl, (by decide : 2 + 0 ≤ _), (by decide : 6 + 0 ≤ _)⟩)
  dsimp only [Pt.U, Pt.locs, Pt.cells, Pt.slots] at X29 l29 y29 z29 st29 hQ29
  subst l29 y29 z29
  obtain ⟨rfl, N29q, e29⟩ := hQ29
  have N29 := Fr.app N23 N29q
  have pre30 : oL p e below T29 (mkF m 56 #[oR a1, oI 0, oI 2, oR b12, oI 0, oR r23] [ow r23]) s₁ (entryFrame m #[(.ref a1), (.int (0 : Int32)), (.int (2 : Int32))] 6) := fun t k => pre28 t (by
    refine st29 _ ?_
    refine XS.sipush X29.here hx rfl (hb hby d5_35) ?_
    refine XS.icmpYes X29.here hx rfl (pc0 := 38) (pc' := 54) rfl (hb hby d5_38) rfl (tlt (own_gcg _ nc0 hg)).2.2.1 (by decide) (by decide) ?_
    refine XS.aload X29.here hx rfl (hb hby d5_54) rfl rfl ?_
    show oS p e below T29 (mkF m 56 #[oR a1, oI 0, oI 2, oR b12, oI 0, oR r23] [ow r23]) _
    exact k)
  obtain ⟨fs, hr, hrun, hended, hW, hsame⟩ := X29.leave (v := some (.ref r23)) (fun h => by rw [Bd.returns] at h; cases h)
  refine ⟨_, _, pre30 _ ?_, hrun, hended, _, _, rfl, ?_, ⟨_, rfl⟩, hW, hsame.mono (by decide) (by decide)⟩
  ·
    show oS p e below T29 (mkF m 56 #[oR a1, oI 0, oI 2, oR b12, oI 0, oR r23] [ow r23]) _
    jvm_step X29.here [X29.here.top, hx, (hb hby d5_56), X29.method', Bd.returns, Value.isRef, FieldType.isReference]
    first | (intro acts; rw [hr _ acts rfl rfl rfl]) | rw [hr _ _ rfl rfl rfl]
    exact Steps.refl _
  ·
    show Q_rm_cmp_2_0 Z a1 k1 c0 c1 h0 n0 _ T29.heap _
    rw [e29]
    exact ⟨r23, kr23, rfl, N29, K27, sz_r23, Va23⟩
def Q_S2 (Z : State) (a1 : Addr) (a2 : Addr) (k2 : ClassId) (G1 : Int32) (c0 : Int32) (c1 : Int32) (h0 : Heap) (n0 : Nat) (v : Option Value) (h : Heap) (L : List Loc) : Prop := v = none ∧ Fr n0 L ∧ Keep h0 h [a1] ∧ Exa Z h a1 "java/lang/String" ∧ ∃ (cd : Int32) (t : Addr) (kb : ClassId) (N : Int32) (vs : List Value), Fld Z h a1 "java/lang/String" "coder" "B" (.int cd) ∧ h0.size ≤ t ∧ ¬ t = a1 ∧ Fld Z h a1 "java/lang/String" "value" "[B" (.ref t) ∧ Arv Z h t kb .byte N vs (.int (0 : Int32)) ∧ ((cd = 0 ∧ N = 2 ∧ vs = [(.int (nar .byte (c0.toInt8.toInt32))), (.int (nar .byte (c1.toInt8.toInt32)))] ∧ ¬ ((255 : Int32) < c0) ∧ ¬ ((255 : Int32) < c1)) ∨ (cd = 1 ∧ ((255 : Int32) < c0 ∨ (255 : Int32) < c1)))
set_option maxRecDepth 65536 in
set_option maxHeartbeats 40000000 in
theorem rm_si_2_0 (l : Launch) (Z : State) (a0 : Array Value) (hw : ∀ d ∈ tables_1, d.before a0 Z = true) (ws : List Jvm.Cond) (a1 : Addr) (a2 : Addr) (k2 : ClassId) (G1 : Int32) (c0 : Int32) (c1 : Int32) (h0 : Heap) (n0 : Nat) (OL : Old Z n0 h0) (AD : Sta Z Z.heap "java/lang/StringUTF16" "$assertionsDisabled" "Z" (.int (1 : Int32))) (HB : Sta Z Z.heap "java/lang/StringUTF16" "HI_BYTE_SHIFT" "I" (.int (0 : Int32))) (LB : Sta Z Z.heap "java/lang/StringUTF16" "LO_BYTE_SHIFT" "I" (.int (8 : Int32))) (O2 : Sta Z Z.heap "java/lang/String" "COMPACT_STRINGS" "Z" (.int G1)) (P5 : ¬ (G1 = (0 : Int32))) (ge1 : n0 ≤ a1) (E1 : Exa Z h0 a1 "java/lang/String") (F1 : Fld Z h0 a1 "java/lang/String" "value" "[B" .null) (F2 : Fld Z h0 a1 "java/lang/String" "coder" "B" (.int (0 : Int32))) (V2 : Arv Z h0 a2 k2 .char (2 : Int32) [(.int c0), (.int c1)] (.int (0 : Int32))) (hg : (255 : Int32) < c0) (nc0 : nar .char c0 = c0) (nc1 : nar .char c1 = c1) :
    MetFree l (⟨"java/lang/String", "<init>", "([CIILjava/lang/Void;)V"⟩ : MethodName) (head1 (Jvm.Cond.code (⟨"java/lang/String", "<init>", "([CIILjava/lang/Void;)V"⟩ : MethodName) jdk_42_method_149_code 6 none :: ws) ({ frames := 4, cells := 2, slots := 6, locals := 57 } : Room)) (fun a U => a = #[(.ref a1), (.ref a2), (.int (0 : Int32)), (.int (2 : Int32)), .null] ∧ Z.Warmed39 U.vm ∧ U.heap = h0) (fun _ _ _ _ _ => True) (fun _ U o U' => ∃ v L, o = .returned v ∧ Q_S2 Z a1 a2 k2 G1 c0 c1 h0 n0 v U'.heap L ∧ FrameEnd U o U' L ({ frames := 4, cells := 2, slots := 6, locals := 57 } : Room).cells ({ frames := 4, cells := 2, slots := 6, locals := 57 } : Room).slots) := by
  refine MetFree.of_bodySF (plainFor_of_name pn_java_lang_String) hisR ?_
  intro p e s m args below meth c s₁ Bd hml0 hP hK
  obtain ⟨rfl, hZ, hh⟩ := hP
  have hx := Bd.exec
  have hby := Bd.bytes
  have hml : c.maxLocals = 6 := hml0
  have hown : s.vm.findClass "java/lang/String" = some m.cls := findClass_of_methodNamed Bd.named
  have hnm := (name_of_methodNamed Bd.named Bd.method).1
  have X0 : Stand p l e ({ frames := 4, cells := 2, slots := 6, locals := 57 } : Room) s m #[(.ref a1), (.ref a2), (.int (0 : Int32)), (.int (2 : Int32)), .null] below meth c s₁ [] 0 0 := Stand.of_body Bd
  have e0 : s₁.heap = h0 := by rw [← hh, Bd.state]; rfl
  have N0 := Fr.nil n0
  have pre0 : oL p e below s₁ (mkF m 0 #[oR a1, oR a2, oI 0, oI 2, oN, oU] []) s₁ (entryFrame m #[(.ref a1), (.ref a2), (.int (0 : Int32)), (.int (2 : Int32)), .null] 6) := fun t k => castTop (by first | (simp [entryFrame, mkF, argsToLocals, Value.category]; done) | rfl) k
  have own_ne : a2 ≠ a1 := (Exa.neArv E1 V2 (oW hw 9 rfl)).symm
  have pre11 : oL p e below s₁ (mkF m 1 #[oR a1, oR a2, oI 0, oI 2, oN, oU] [ow a1]) s₁ (entryFrame m #[(.ref a1), (.ref a2), (.int (0 : Int32)), (.int (2 : Int32)), .null] 6) := fun t k => pre0 t (by
    refine XS.aloadN X0.here hx rfl (hb hby d3_0) rfl rfl ?_
    exact k)
  obtain ⟨T12, X12, e12, st12⟩ := initO X0 hx hZ hown (oW hw 18 rfl) (oW hw 19 rfl) (oW hw 20 rfl) e0 (g := (mkF m 1 #[oR a1, oR a2, oI 0, oI 2, oN, oU] [ow a1])) rfl (by rw [hml]; rfl) rfl (hb hby d3_1) (by decide) (W := 0) (by show 2 * 0 + _ ≤ _; exact Nat.le_of_eq rfl) (by decide)
  have pre13 : oL p e below T12 (mkF m 27 #[oR a1, oR a2, oI 0, oI 2, oN, oU] []) s₁ (entryFrame m #[(.ref a1), (.ref a2), (.int (0 : Int32)), (.int (2 : Int32)), .null] 6) := fun t k => pre11 t (by
    refine st12 _ ?_
    refine XS.iloadN X12.here hx rfl (hb hby d3_4) rfl ?_
    refine XS.ifYes X12.here hx rfl (pc0 := 5) (pc' := 27) rfl (hb hby d3_5) rfl ((if0 _ _).trans (feq (by decide : ¬ ((2 : Int32) = (0 : Int32)))).2) (by decide) (by decide) ?_
    show oS p e below T12 (mkF m 27 #[oR a1, oR a2, oI 0, oI 2, oN, oU] []) _
    exact k)
  obtain ⟨T14, X14, e14, st14⟩ := getS2 X12 hx hZ hown (host := "") (Or.inl (oW hw 21 rfl)) Via.refl e12 (O2.ext OL.2) (g := (mkF m 27 #[oR a1, oR a2, oI 0, oI 2, oN, oU] [])) rfl (hb hby d3_27)
  have pre15 : oL p e below T14 (mkF m 36 #[oR a1, oR a2, oI 0, oI 2, oN, oU] [oi 2, oi 0, ow a2]) s₁ (entryFrame m #[(.ref a1), (.ref a2), (.int (0 : Int32)), (.int (2 : Int32)), .null] 6) := fun t k => pre13 t (by
    refine st14 _ ?_
    refine XS.ifNo X14.here hx rfl (hb hby d3_30) rfl ((if0 _ _).trans (feq P5).1) ?_
    refine XS.aloadN X14.here hx rfl (hb hby d3_33) rfl rfl ?_
    refine XS.iloadN X14.here hx rfl (hb hby d3_34) rfl ?_
    show oS p e below T14 (mkF m 35 #[oR a1, oR a2, oI 0, oI 2, oN, oU] [oi 0, ow a2]) _
    refine XS.iloadN X14.here hx rfl (hb hby d3_35) rfl ?_
    exact k)
  obtain ⟨_, _, ⟨T16, L16, k16, n16⟩, -, X16, ⟨Lc16, hQ16, l16, y16, z16⟩, st16⟩ := Jvm.LawKit.callS X14 hx (y := (⟨"java/lang/StringUTF16", "compress", "([CII)[B"⟩ : MethodName)) hown (mvT hZ (oW hw 22 rfl)) (mvT hZ (oW hw 23 rfl)) (mvT hZ (oW hw 24 rfl)) (mvT hZ (oW hw 25 rfl)) (by decide) (backOf (W := 0) (rm_cmp_2_0 l Z a0 hw [] a2 k2 c0 c1 h0 n0 OL AD HB LB V2  hg nc0 nc1) hZ (oW hw 25 rfl) (oW hw 24 rfl) (by decide) (by decide)) (g := (mkF m 36 #[oR a1, oR a2, oI 0, oI 2, oN, oU] [oi 2, oi 0, ow a2])) rfl (by rw [hml]; rfl) (argsL := [(.ref a2), (.int (0 : Int32)), (.int (2 : Int32))]) (rest := []) (lenOf pd___CII__B rfl) rfl (by show 2 * 0 + _ ≤ _; exact Nat.le_of_eq rfl) (hb hby d3_36) (fun _ _ => ⟨rfl, e14, (by decide : 0 + 2 ≤ _), (by decide : 0 + 6 ≤ _)⟩)
  dsimp only [Pt.U, Pt.locs, Pt.cells, Pt.slots] at X16 l16 y16 z16 st16 hQ16
  subst l16 y16 z16
  obtain ⟨r16, kr16, rfl, N16q, Kq16, sq16, Va16⟩ := hQ16
  have N16 := Fr.app N0 N16q
  have ne17 : a1 ≠ r16 := Nat.ne_of_lt (Nat.lt_of_lt_of_le E1.lt sq16)
  have ne18 : a2 ≠ r16 := Nat.ne_of_lt (Nat.lt_of_lt_of_le V2.lt sq16)
  have ge_r16 : n0 ≤ r16 := Nat.le_trans (OL.1 ▸ OL.2.1) sq16
  have sz_r16 : h0.size ≤ r16 := Nat.le_trans (Keep.refl h0 [a1]).1 sq16
  have f19 := E1.keep Kq16
  have f20 := F1.keep Kq16 nin0
  have f21 := F2.keep Kq16 nin0
  have f22 := V2.keep Kq16 nin0
  have OL23 := OL.keep Kq16 all0
  have K24 : Keep h0 T16.heap [a1] := (Keep.refl h0 [a1]).trans Kq16 all0
  have pre25 : oL p e below T16 (mkF m 45 #[oR a1, oR a2, oI 0, oI 2, oN, oR r16] [oi 2, ow r16, ow a1]) s₁ (entryFrame m #[(.ref a1), (.ref a2), (.int (0 : Int32)), (.int (2 : Int32)), .null] 6) := fun t k => pre15 t (by
    refine st16 _ ?_
    refine XS.astore X16.here hx rfl (hb hby d3_39) rfl rfl (l' := #[oR a1, oR a2, oI 0, oI 2, oN, oR r16]) rfl ?_
    refine XS.aloadN X16.here hx rfl (hb hby d3_41) rfl rfl ?_
    show oS p e below T16 (mkF m 42 #[oR a1, oR a2, oI 0, oI 2, oN, oR r16] [ow a1]) _
    refine XS.aload X16.here hx rfl (hb hby d3_42) rfl rfl ?_
    refine XS.iloadN X16.here hx rfl (hb hby d3_44) rfl ?_
    exact k)
  obtain ⟨_, _, ⟨T26, L26, k26, n26⟩, -, X26, ⟨Lc26, hQ26, l26, y26, z26⟩, st26⟩ := Jvm.LawKit.callS X16 hx (y := (⟨"java/lang/StringUTF16", "coderFromArrayLen", "([BI)B"⟩ : MethodName)) hown (mvT hZ (oW hw 30 rfl)) (mvT hZ (oW hw 31 rfl)) (mvT hZ (oW hw 24 rfl)) (mvT hZ (oW hw 32 rfl)) (by decide) (backOf (W := 1) (rm_cfl2 l Z a0 hw [] r16 kr16 (own_hb c0) (own_lb c0) (own_hb c1) (own_lb c1) T16.heap n0 OL23 Va16) hZ (oW hw 32 rfl) (oW hw 24 rfl) (by decide) (by decide)) (g := (mkF m 45 #[oR a1, oR a2, oI 0, oI 2, oN, oR r16] [oi 2, ow r16, ow a1])) rfl (by rw [hml]; rfl) (argsL := [(.ref r16), (.int (2 : Int32))]) (rest := [(.ref a1)]) (lenOf pd___BI_B rfl) rfl (by show 2 * 0 + _ ≤ _; exact Nat.le_of_eq rfl) (hb hby d3_45) (fun _ _ => ⟨rfl, rfl, (by decide : 2 + 0 ≤ _), (by decide : 6 + 0 ≤ _)⟩)
  dsimp only [Pt.U, Pt.locs, Pt.cells, Pt.slots] at X26 l26 y26 z26 st26 hQ26
  subst l26 y26 z26
  obtain ⟨rfl, N26q, e26⟩ := hQ26
  have N26 := Fr.app N16 N26q
  have pre27 : oL p e below T26 (mkF m 48 #[oR a1, oR a2, oI 0, oI 2, oN, oR r16] [oi 1, ow a1]) s₁ (entryFrame m #[(.ref a1), (.ref a2), (.int (0 : Int32)), (.int (2 : Int32)), .null] 6) := fun t k => pre25 t (by
    refine st26 _ ?_
    exact k)
  obtain ⟨T28, h28, X28, e28, W28, st28⟩ := putFN X26 hx hZ hown (oW hw 33 rfl) Via.refl e26 f21 f19 (Or.inr ⟨(oW hw 34 rfl), rfl, hnm⟩) (oW hw 9 rfl) (ty := .byte) (v' := (.int (1 : Int32))) (by decide) rfl rfl (g := (mkF m 48 #[oR a1, oR a2, oI 0, oI 2, oN, oR r16] [oi 1, ow a1])) rfl rfl (hb hby d3_48)
  have f29 := f21.same W28
  have N28 := Fr.snoc X28 N26 ge1
  have f30 := f19.wr W28
  have f31 := f20.other W28 (Or.inr (slot_ne (Or.inr (oW hw 36 rfl)) (Or.inr (oW hw 34 rfl)) (by decide) (t := (.array .byte)) (t' := .byte) (by decide) (by decide)))
  have f32 := f22.other W28 own_ne
  have f33 := Va16.other W28 (Ne.symm ne17)
  have OL34 := OL23.wr W28 ge1
  have K35 : Keep h0 h28 [a1] := K24.wr W28 (Or.inl (List.mem_of_getElem? (i := 0) rfl))
  have pre36 : oL p e below T28 (mkF m 54 #[oR a1, oR a2, oI 0, oI 2, oN, oR r16] [ow r16, ow a1]) s₁ (entryFrame m #[(.ref a1), (.ref a2), (.int (0 : Int32)), (.int (2 : Int32)), .null] 6) := fun t k => pre27 t (by
    refine st28 _ ?_
    show oS p e below T28 (mkF m 51 #[oR a1, oR a2, oI 0, oI 2, oN, oR r16] []) _
    refine XS.aloadN X28.here hx rfl (hb hby d3_51) rfl rfl ?_
    refine XS.aload X28.here hx rfl (hb hby d3_52) rfl rfl ?_
    exact k)
  obtain ⟨T37, h37, X37, e37, W37, st37⟩ := putF X28 hx hZ hown (host := "") (Or.inl (oW hw 35 rfl)) Via.refl e28 f31 f30 (Or.inr ⟨(oW hw 36 rfl), rfl, hnm⟩) (oW hw 9 rfl) (ty := (.array .byte)) (by decide) rfl rfl (g := (mkF m 54 #[oR a1, oR a2, oI 0, oI 2, oN, oR r16] [ow r16, ow a1])) rfl rfl (hb hby d3_54)
  have f38 := f31.same W37
  have N37 := Fr.snoc X37 N28 ge1
  have f39 := f30.wr W37
  have f40 := f29.other W37 (Or.inr (slot_ne (Or.inr (oW hw 34 rfl)) (Or.inr (oW hw 36 rfl)) (by decide) (t := .byte) (t' := (.array .byte)) (by decide) (by decide)))
  have f41 := f32.other W37 own_ne
  have f42 := f33.other W37 (Ne.symm ne17)
  have OL43 := OL34.wr W37 ge1
  have K44 : Keep h0 h37 [a1] := K35.wr W37 (Or.inl (List.mem_of_getElem? (i := 0) rfl))
  have pre45 : oL p e below T37 (mkF m 57 #[oR a1, oR a2, oI 0, oI 2, oN, oR r16] []) s₁ (entryFrame m #[(.ref a1), (.ref a2), (.int (0 : Int32)), (.int (2 : Int32)), .null] 6) := fun t k => pre36 t (by
    refine st37 _ ?_
    exact k)
  obtain ⟨fs, hr, hrun, hended, hW, hsame⟩ := X37.leave (v := none) (fun _ => rfl)
  refine ⟨_, _, pre45 _ ?_, hrun, hended, _, _, rfl, ?_, ⟨_, rfl⟩, hW, hsame.mono (by decide) (by decide)⟩
  ·
    show oS p e below T37 (mkF m 57 #[oR a1, oR a2, oI 0, oI 2, oN, oR r16] []) _
    exact X37.returnOut hx Bd.returns (hb hby d3_57) hr
  ·
    show Q_S2 Z a1 a2 k2 G1 c0 c1 h0 n0 _ T37.heap _
    rw [e37]
    exact ⟨rfl, N37, K44, f39, (1 : Int32), r16, kr16, (4 : Int32), [(.int (own_hb c0)), (.int (own_lb c0)), (.int (own_hb c1)), (.int (own_lb c1))], f40, sz_r16, fun q => ne17 q.symm, f38, f42, Or.inr ⟨rfl, Or.inl hg⟩⟩
set_option maxRecDepth 65536 in
set_option maxHeartbeats 40000000 in
theorem rm_s_2_0 (l : Launch) (Z : State) (a0 : Array Value) (hw : ∀ d ∈ tables_1, d.before a0 Z = true) (ws : List Jvm.Cond) (a1 : Addr) (a2 : Addr) (k2 : ClassId) (G1 : Int32) (c0 : Int32) (c1 : Int32) (h0 : Heap) (n0 : Nat) (OL : Old Z n0 h0) (AD : Sta Z Z.heap "java/lang/StringUTF16" "$assertionsDisabled" "Z" (.int (1 : Int32))) (HB : Sta Z Z.heap "java/lang/StringUTF16" "HI_BYTE_SHIFT" "I" (.int (0 : Int32))) (LB : Sta Z Z.heap "java/lang/StringUTF16" "LO_BYTE_SHIFT" "I" (.int (8 : Int32))) (O2 : Sta Z Z.heap "java/lang/String" "COMPACT_STRINGS" "Z" (.int G1)) (P5 : ¬ (G1 = (0 : Int32))) (ge1 : n0 ≤ a1) (E1 : Exa Z h0 a1 "java/lang/String") (F1 : Fld Z h0 a1 "java/lang/String" "value" "[B" .null) (F2 : Fld Z h0 a1 "java/lang/String" "coder" "B" (.int (0 : Int32))) (V2 : Arv Z h0 a2 k2 .char (2 : Int32) [(.int c0), (.int c1)] (.int (0 : Int32))) (hg : (255 : Int32) < c0) (nc0 : nar .char c0 = c0) (nc1 : nar .char c1 = c1) :
    MetFree l (⟨"java/lang/String", "<init>", "([C)V"⟩ : MethodName) (head1 (Jvm.Cond.code (⟨"java/lang/String", "<init>", "([C)V"⟩ : MethodName) jdk_42_method_3_code 2 none :: ws) ({ frames := 5, cells := 2, slots := 6, locals := 74 } : Room)) (fun a U => a = #[(.ref a1), (.ref a2)] ∧ Z.Warmed39 U.vm ∧ U.heap = h0) (fun _ _ _ _ _ => True) (fun _ U o U' => ∃ v L, o = .returned v ∧ Q_S2 Z a1 a2 k2 G1 c0 c1 h0 n0 v U'.heap L ∧ FrameEnd U o U' L ({ frames := 5, cells := 2, slots := 6, locals := 74 } : Room).cells ({ frames := 5, cells := 2, slots := 6, locals := 74 } : Room).slots) := by
  refine MetFree.of_bodySF (plainFor_of_name pn_java_lang_String) hisR ?_
  intro p e s m args below meth c s₁ Bd hml0 hP hK
  obtain ⟨rfl, hZ, hh⟩ := hP
  have hx := Bd.exec
  have hby := Bd.bytes
  have hml : c.maxLocals = 2 := hml0
  have hown : s.vm.findClass "java/lang/String" = some m.cls := findClass_of_methodNamed Bd.named
  have hnm := (name_of_methodNamed Bd.named Bd.method).1
  have X0 : Stand p l e ({ frames := 5, cells := 2, slots := 6, locals := 74 } : Room) s m #[(.ref a1), (.ref a2)] below meth c s₁ [] 0 0 := Stand.of_body Bd
  have e0 : s₁.heap = h0 := by rw [← hh, Bd.state]; rfl
  have N0 := Fr.nil n0
  have pre0 : oL p e below s₁ (mkF m 0 #[oR a1, oR a2] []) s₁ (entryFrame m #[(.ref a1), (.ref a2)] 2) := fun t k => castTop (by first | (simp [entryFrame, mkF, argsToLocals, Value.category]; done) | rfl) k
  have own_ne : a2 ≠ a1 := (Exa.neArv E1 V2 (oW hw 9 rfl)).symm
  have pre12 : oL p e below s₁ (mkF m 4 #[oR a1, oR a2] [ow a2, oi 0, ow a2, ow a1]) s₁ (entryFrame m #[(.ref a1), (.ref a2)] 2) := fun t k => pre0 t (by
    refine XS.aloadN X0.here hx rfl (hb hby d2_0) rfl rfl ?_
    refine XS.aloadN X0.here hx rfl (hb hby d2_1) rfl rfl ?_
    refine XS.iconst X0.here hx rfl (hb hby d2_2) ?_
    refine XS.aloadN X0.here hx rfl (hb hby d2_3) rfl rfl ?_
    show oS p e below s₁ (mkF m 4 #[oR a1, oR a2] [ow a2, oi 0, ow a2, ow a1]) _
    exact k)
  obtain ⟨cl11, Ar11, -, Sz11, Nn11, -, -⟩ := id V2
  have pre13 : oL p e below s₁ (mkF m 6 #[oR a1, oR a2] [.null, oi 2, oi 0, ow a2, ow a1]) s₁ (entryFrame m #[(.ref a1), (.ref a2)] 2) := fun t k => pre12 t (by
    refine X0.arraylength hx (by rw [e0]; exact Ar11.1) (State.isArrayOf_alike hZ.alike Ar11.2.1) (g := (mkF m 4 #[oR a1, oR a2] [ow a2, oi 0, ow a2, ow a1])) rfl rfl (hb hby d2_4) _ ?_
    rw [len_of Sz11 Nn11]
    refine XS.aconstNull X0.here hx rfl (hb hby d2_5) ?_
    exact k)
  obtain ⟨_, _, ⟨T14, L14, k14, n14⟩, -, X14, ⟨Lc14, hQ14, l14, y14, z14⟩, st14⟩ := X0.specialBack hx (y := (⟨"java/lang/String", "<init>", "([CIILjava/lang/Void;)V"⟩ : MethodName)) rfl hown (mvT hZ (oW hw 14 rfl)) (mvT hZ (oW hw 15 rfl)) (mvT hZ (oW hw 17 rfl)) (by decide) (backOf (W := 0) (rm_si_2_0 l Z a0 hw [] a1 a2 k2 G1 c0 c1 h0 n0 OL AD HB LB O2 P5 ge1 E1 F1 F2 V2  hg nc0 nc1) hZ (oW hw 17 rfl) (oW hw 10 rfl) (by decide) (by decide)) (g := (mkF m 6 #[oR a1, oR a2] [.null, oi 2, oi 0, ow a2, ow a1])) rfl (by rw [hml]; rfl) (Steps.refl _) (a := a1) (argsL := [(.ref a2), (.int (0 : Int32)), (.int (2 : Int32)), .null]) (rest := []) (lenOf pd___CIILjava_lang_Void__V rfl) rfl (by show 2 * 0 + _ ≤ _; exact Nat.le_of_eq rfl) (hb hby d2_6) (fun _ _ => ⟨rfl, e0, (by decide : 0 + 2 ≤ _), (by decide : 0 + 6 ≤ _)⟩)
  dsimp only [Pt.U, Pt.locs, Pt.cells, Pt.slots] at X14 l14 y14 z14 st14 hQ14
  subst l14 y14 z14
  obtain ⟨rfl, N14q, Kq14, Eq14, cd14, tt14, kb14, Nx14, vs14, Fc14, sq14, nx14, Fv14, Va14, ou14⟩ := hQ14
  have N14 := Fr.app N0 N14q
  have f15 := E1.keep Kq14
  have f16 := V2.keep Kq14 (ninS own_ne nin0)
  have OL17 := OL.keep Kq14 (allS ge1 all0)
  have K18 : Keep h0 T14.heap [a1] := (Keep.refl h0 [a1]).trans Kq14 (allS (Or.inl (List.mem_of_getElem? (i := 0) rfl)) all0)
  have pre19 : oL p e below T14 (mkF m 9 #[oR a1, oR a2] []) s₁ (entryFrame m #[(.ref a1), (.ref a2)] 2) := fun t k => pre13 t (by
    refine st14.trans ?_
    exact k)
  obtain ⟨fs, hr, hrun, hended, hW, hsame⟩ := X14.leave (v := none) (fun _ => rfl)
  refine ⟨_, _, pre19 _ ?_, hrun, hended, _, _, rfl, ?_, ⟨_, rfl⟩, hW, hsame.mono (by decide) (by decide)⟩
  ·
    show oS p e below T14 (mkF m 9 #[oR a1, oR a2] []) _
    exact X14.returnOut hx Bd.returns (hb hby d2_9) hr
  ·
    show Q_S2 Z a1 a2 k2 G1 c0 c1 h0 n0 _ T14.heap _
    exact ⟨rfl, N14, K18, Eq14, cd14, tt14, kb14, Nx14, vs14, Fc14, Nat.le_trans (Keep.refl h0 [a1]).1 sq14, nx14, Fv14, Va14, ou14⟩
def Q_rm_c5_2_1 (Z : State) (a1 : Addr) (k1 : ClassId) (t1 : Addr) (k2 : ClassId) (c0 : Int32) (c1 : Int32) (h0 : Heap) (n0 : Nat) (v : Option Value) (h : Heap) (L : List Loc) : Prop := v = some (.int (1 : Int32)) ∧ Fr n0 L ∧ Keep h0 h [t1]
set_option maxRecDepth 65536 in
set_option maxHeartbeats 40000000 in
theorem rm_c5_2_1 (l : Launch) (Z : State) (a0 : Array Value) (hw : ∀ d ∈ tables_1, d.before a0 Z = true) (ws : List Jvm.Cond) (a1 : Addr) (k1 : ClassId) (t1 : Addr) (k2 : ClassId) (c0 : Int32) (c1 : Int32) (h0 : Heap) (n0 : Nat) (OL : Old Z n0 h0) (ge1 : n0 ≤ t1) (V1 : Arv Z h0 a1 k1 .char (2 : Int32) [(.int c0), (.int c1)] (.int (0 : Int32))) (V2 : Arv Z h0 t1 k2 .byte (2 : Int32) [(.int (0 : Int32)), (.int (0 : Int32))] (.int (0 : Int32))) (ne1 : a1 ≠ t1) (hl0 : ¬ ((255 : Int32) < c0)) (hg : (255 : Int32) < c1) :
    MetFree l (⟨"java/lang/StringUTF16", "compress", "([CI[BII)I"⟩ : MethodName) (head1 (Jvm.Cond.code (⟨"java/lang/StringUTF16", "compress", "([CI[BII)I"⟩ : MethodName) jdk_52_method_21_code 7 (some .int) :: ws) ({ frames := 0, cells := 0, slots := 0, locals := 0 } : Room)) (fun a U => a = #[(.ref a1), (.int (0 : Int32)), (.ref t1), (.int (0 : Int32)), (.int (2 : Int32))] ∧ Z.Warmed39 U.vm ∧ U.heap = h0) (fun _ _ _ _ _ => True) (fun _ U o U' => ∃ v L, o = .returned v ∧ Q_rm_c5_2_1 Z a1 k1 t1 k2 c0 c1 h0 n0 v U'.heap L ∧ FrameEnd U o U' L ({ frames := 0, cells := 0, slots := 0, locals := 0 } : Room).cells ({ frames := 0, cells := 0, slots := 0, locals := 0 } : Room).slots) := by
  refine MetFree.of_bodySF (plainFor_of_name pn_java_lang_StringUTF16) hisR ?_
  intro p e s m args below meth c s₁ Bd hml0 hP hK
  obtain ⟨rfl, hZ, hh⟩ := hP
  have hx := Bd.exec
  have hby := Bd.bytes
  have hml : c.maxLocals = 7 := hml0
  have hown : s.vm.findClass "java/lang/StringUTF16" = some m.cls := findClass_of_methodNamed Bd.named
  have hnm := (name_of_methodNamed Bd.named Bd.method).1
  have X0 : Stand p l e ({ frames := 0, cells := 0, slots := 0, locals := 0 } : Room) s m #[(.ref a1), (.int (0 : Int32)), (.ref t1), (.int (0 : Int32)), (.int (2 : Int32))] below meth c s₁ [] 0 0 := Stand.of_body Bd
  have e0 : s₁.heap = h0 := by rw [← hh, Bd.state]; rfl
  have N0 := Fr.nil n0
  have pre0 : oL p e below s₁ (mkF m 0 #[oR a1, oI 0, oR t1, oI 0, oI 2, oU, oU] []) s₁ (entryFrame m #[(.ref a1), (.int (0 : Int32)), (.ref t1), (.int (0 : Int32)), (.int (2 : Int32))] 7) := fun t k => castTop (by first | (simp [entryFrame, mkF, argsToLocals, Value.category]; done) | rfl) k
  have pre11 : oL p e below s₁ (mkF m 12 #[oR a1, oI 0, oR t1, oI 0, oI 2, oI 0, oU] [oi 0, ow a1]) s₁ (entryFrame m #[(.ref a1), (.int (0 : Int32)), (.ref t1), (.int (0 : Int32)), (.int (2 : Int32))] 7) := fun t k => pre0 t (by
    refine XS.iconst X0.here hx rfl (hb hby d6_0) ?_
    refine XS.istore X0.here hx rfl (hb hby d6_1) rfl (l' := #[oR a1, oI 0, oR t1, oI 0, oI 2, oI 0, oU]) rfl ?_
    refine XS.iload X0.here hx rfl (hb hby d6_3) rfl ?_
    refine XS.iload X0.here hx rfl (hb hby d6_5) rfl ?_
    show oS p e below s₁ (mkF m 7 #[oR a1, oI 0, oR t1, oI 0, oI 2, oI 0, oU] [oi 2, oi 0]) _
    refine XS.icmpNo X0.here hx rfl (hb hby d6_7) rfl (tlt (by decide : (0 : Int32) < (2 : Int32))).2.1 ?_
    refine XS.aloadN X0.here hx rfl (hb hby d6_10) rfl rfl ?_
    refine XS.iloadN X0.here hx rfl (hb hby d6_11) rfl ?_
    exact k)
  obtain ⟨cl12, Ar12, qc12, Sz12, Nn12, Hs12, Gs12⟩ := id V1
  have hin12 := inb_of (j := (0 : Int32)) Sz12 ⟨by decide, by decide⟩
  have pre13 : oL p e below s₁ (mkF m 31 #[oR a1, oI 0, oR t1, oI 0, oI 2, oI 0, oI c0] [oi (c0.toInt8.toInt32), oi 0, ow t1]) s₁ (entryFrame m #[(.ref a1), (.int (0 : Int32)), (.ref t1), (.int (0 : Int32)), (.int (2 : Int32))] 7) := fun t k => pre11 t (by
    refine X0.caload hx (j := (0 : Int32)) (v := (.int c0)) (by rw [e0]; exact Ar12.1) (State.isArrayOf_alike hZ.alike Ar12.2.1) Ar12.2.2 hin12 (Hs12.at hin12 rfl) (g := (mkF m 12 #[oR a1, oI 0, oR t1, oI 0, oI 2, oI 0, oU] [oi 0, ow a1])) rfl rfl (hb hby d6_12) _ ?_
    show oS p e below s₁ (mkF m 13 #[oR a1, oI 0, oR t1, oI 0, oI 2, oI 0, oU] [oi c0]) _
    refine XS.istore X0.here hx rfl (hb hby d6_13) rfl (l' := #[oR a1, oI 0, oR t1, oI 0, oI 2, oI 0, oI c0]) rfl ?_
    refine XS.iload X0.here hx rfl (hb hby d6_15) rfl ?_
    refine XS.sipush X0.here hx rfl (hb hby d6_17) ?_
    refine XS.icmpYes X0.here hx rfl (pc0 := 20) (pc' := 26) rfl (hb hby d6_20) rfl (flt hl0).2.2.2 (by decide) (by decide) ?_
    show oS p e below s₁ (mkF m 26 #[oR a1, oI 0, oR t1, oI 0, oI 2, oI 0, oI c0] []) _
    refine XS.aloadN X0.here hx rfl (hb hby d6_26) rfl rfl ?_
    refine XS.iloadN X0.here hx rfl (hb hby d6_27) rfl ?_
    refine XS.iload X0.here hx rfl (hb hby d6_28) rfl ?_
    refine XS.i2b X0.here hx rfl (hb hby d6_30) rfl ?_
    show oS p e below s₁ (mkF m 31 #[oR a1, oI 0, oR t1, oI 0, oI 2, oI 0, oI c0] [oi (c0.toInt8.toInt32), oi 0, ow t1]) _
    exact k)
  obtain ⟨cl14, Ar14, qc14, Sz14, Nn14, Hs14, Gs14⟩ := id V2
  obtain ⟨T14, h14, X14, e14, W14, st14⟩ := stB X0 hx hZ e0 Ar14 (j := (0 : Int32)) (inb_of Sz14 ⟨by decide, by decide⟩) (g := (mkF m 31 #[oR a1, oI 0, oR t1, oI 0, oI 2, oI 0, oI c0] [oi (c0.toInt8.toInt32), oi 0, ow t1])) rfl rfl (hb hby d6_31)
  have V14 : Arv Z h14 t1 k2 .byte (2 : Int32) [(.int (nar .byte (c0.toInt8.toInt32))), (.int (0 : Int32))] (.int (0 : Int32)) := Arv.set Ar14 qc14 Sz14 Nn14 Hs14 Gs14 (fits_nar_byte _) W14 0 rfl (Nat.le_of_ble_eq_true rfl)
  have N14 := Fr.snoc X14 N0 ge1
  have f15 := V1.other W14 ne1
  have OL16 := OL.wr W14 ge1
  have K17 : Keep h0 h14 [t1] := (Keep.refl h0 [t1]).wr W14 (Or.inl (List.mem_of_getElem? (i := 0) rfl))
  have pre18 : oL p e below T14 (mkF m 12 #[oR a1, oI 1, oR t1, oI 1, oI 2, oI 1, oI c0] [oi 1, ow a1]) s₁ (entryFrame m #[(.ref a1), (.int (0 : Int32)), (.ref t1), (.int (0 : Int32)), (.int (2 : Int32))] 7) := fun t k => pre13 t (by
    refine st14 _ ?_
    refine XS.iinc X14.here hx rfl (hb hby d6_32) rfl (l' := #[oR a1, oI 1, oR t1, oI 0, oI 2, oI 0, oI c0]) rfl ?_
    refine XS.iinc X14.here hx rfl (hb hby d6_35) rfl (l' := #[oR a1, oI 1, oR t1, oI 1, oI 2, oI 0, oI c0]) rfl ?_
    refine XS.iinc X14.here hx rfl (hb hby d6_38) rfl (l' := #[oR a1, oI 1, oR t1, oI 1, oI 2, oI 1, oI c0]) rfl ?_
    show oS p e below T14 (mkF m 41 #[oR a1, oI 1, oR t1, oI 1, oI 2, oI 1, oI c0] []) _
    refine XS.goto X14.here hx rfl (pc0 := 41) (pc' := 3) rfl (hb hby d6_41) (by decide) (by decide) ?_
    refine XS.iload X14.here hx rfl (hb hby d6_3) rfl ?_
    refine XS.iload X14.here hx rfl (hb hby d6_5) rfl ?_
    refine XS.icmpNo X14.here hx rfl (hb hby d6_7) rfl (tlt (by decide : (1 : Int32) < (2 : Int32))).2.1 ?_
    show oS p e below T14 (mkF m 10 #[oR a1, oI 1, oR t1, oI 1, oI 2, oI 1, oI c0] []) _
    refine XS.aloadN X14.here hx rfl (hb hby d6_10) rfl rfl ?_
    refine XS.iloadN X14.here hx rfl (hb hby d6_11) rfl ?_
    exact k)
  obtain ⟨cl19, Ar19, qc19, Sz19, Nn19, Hs19, Gs19⟩ := id f15
  have hin19 := inb_of (j := (1 : Int32)) Sz19 ⟨by decide, by decide⟩
  have pre20 : oL p e below T14 (mkF m 25 #[oR a1, oI 1, oR t1, oI 1, oI 2, oI 1, oI c1] [oi 1]) s₁ (entryFrame m #[(.ref a1), (.int (0 : Int32)), (.ref t1), (.int (0 : Int32)), (.int (2 : Int32))] 7) := fun t k => pre18 t (by
    refine X14.caload hx (j := (1 : Int32)) (v := (.int c1)) (by rw [e14]; exact Ar19.1) (State.isArrayOf_alike hZ.alike Ar19.2.1) Ar19.2.2 hin19 (Hs19.at hin19 rfl) (g := (mkF m 12 #[oR a1, oI 1, oR t1, oI 1, oI 2, oI 1, oI c0] [oi 1, ow a1])) rfl rfl (hb hby d6_12) _ ?_
    refine XS.istore X14.here hx rfl (hb hby d6_13) rfl (l' := #[oR a1, oI 1, oR t1, oI 1, oI 2, oI 1, oI c1]) rfl ?_
    show oS p e below T14 (mkF m 15 #[oR a1, oI 1, oR t1, oI 1, oI 2, oI 1, oI c1] []) _
    refine XS.iload X14.here hx rfl (hb hby d6_15) rfl ?_
    refine XS.sipush X14.here hx rfl (hb hby d6_17) ?_
    refine XS.icmpNo X14.here hx rfl (hb hby d6_20) rfl (tlt hg).2.2.2 ?_
    refine XS.iload X14.here hx rfl (hb hby d6_23) rfl ?_
    show oS p e below T14 (mkF m 25 #[oR a1, oI 1, oR t1, oI 1, oI 2, oI 1, oI c1] [oi 1]) _
    exact k)
  obtain ⟨fs, hr, hrun, hended, hW, hsame⟩ := X14.leave (v := some (.int (1 : Int32))) (fun h => by rw [Bd.returns] at h; cases h)
  refine ⟨_, _, pre20 _ ?_, hrun, hended, _, _, rfl, ?_, ⟨_, rfl⟩, hW, hsame.mono (by decide) (by decide)⟩
  ·
    show oS p e below T14 (mkF m 25 #[oR a1, oI 1, oR t1, oI 1, oI 2, oI 1, oI c1] [oi 1]) _
    exact retI X14 hx Bd.returns (hb hby d6_25) hr
  ·
    show Q_rm_c5_2_1 Z a1 k1 t1 k2 c0 c1 h0 n0 _ T14.heap _
    rw [e14]
    exact ⟨rfl, N14, K17⟩
def Q_rm_cmp_2_1 (Z : State) (a1 : Addr) (k1 : ClassId) (c0 : Int32) (c1 : Int32) (h0 : Heap) (n0 : Nat) (v : Option Value) (h : Heap) (L : List Loc) : Prop := ∃ (r : Addr) (kr : ClassId), v = some (.ref r) ∧ Fr n0 L ∧ Keep h0 h [] ∧ h0.size ≤ r ∧ Arv Z h r kr .byte (4 : Int32) [(.int (own_hb c0)), (.int (own_lb c0)), (.int (own_hb c1)), (.int (own_lb c1))] (.int (0 : Int32))
set_option maxRecDepth 65536 in
set_option maxHeartbeats 40000000 in
theorem rm_cmp_2_1 (l : Launch) (Z : State) (a0 : Array Value) (hw : ∀ d ∈ tables_1, d.before a0 Z = true) (ws : List Jvm.Cond) (a1 : Addr) (k1 : ClassId) (c0 : Int32) (c1 : Int32) (h0 : Heap) (n0 : Nat) (OL : Old Z n0 h0) (AD : Sta Z Z.heap "java/lang/StringUTF16" "$assertionsDisabled" "Z" (.int (1 : Int32))) (HB : Sta Z Z.heap "java/lang/StringUTF16" "HI_BYTE_SHIFT" "I" (.int (0 : Int32))) (LB : Sta Z Z.heap "java/lang/StringUTF16" "LO_BYTE_SHIFT" "I" (.int (8 : Int32))) (V1 : Arv Z h0 a1 k1 .char (2 : Int32) [(.int c0), (.int c1)] (.int (0 : Int32))) (hl0 : ¬ ((255 : Int32) < c0)) (hg : (255 : Int32) < c1) (nc0 : nar .char c0 = c0) (nc1 : nar .char c1 = c1) :
    MetFree l (⟨"java/lang/StringUTF16", "compress", "([CII)[B"⟩ : MethodName) (head1 (Jvm.Cond.code (⟨"java/lang/StringUTF16", "compress", "([CII)[B"⟩ : MethodName) jdk_52_method_16_code 6 (some (.array .byte)) :: ws) ({ frames := 3, cells := 2, slots := 6, locals := 40 } : Room)) (fun a U => a = #[(.ref a1), (.int (0 : Int32)), (.int (2 : Int32))] ∧ Z.Warmed39 U.vm ∧ U.heap = h0) (fun _ _ _ _ _ => True) (fun _ U o U' => ∃ v L, o = .returned v ∧ Q_rm_cmp_2_1 Z a1 k1 c0 c1 h0 n0 v U'.heap L ∧ FrameEnd U o U' L ({ frames := 3, cells := 2, slots := 6, locals := 40 } : Room).cells ({ frames := 3, cells := 2, slots := 6, locals := 40 } : Room).slots) := by
  refine MetFree.of_bodySF (plainFor_of_name pn_java_lang_StringUTF16) hisR ?_
  intro p e s m args below meth c s₁ Bd hml0 hP hK
  obtain ⟨rfl, hZ, hh⟩ := hP
  have hx := Bd.exec
  have hby := Bd.bytes
  have hml : c.maxLocals = 6 := hml0
  have hown : s.vm.findClass "java/lang/StringUTF16" = some m.cls := findClass_of_methodNamed Bd.named
  have hnm := (name_of_methodNamed Bd.named Bd.method).1
  have X0 : Stand p l e ({ frames := 3, cells := 2, slots := 6, locals := 40 } : Room) s m #[(.ref a1), (.int (0 : Int32)), (.int (2 : Int32))] below meth c s₁ [] 0 0 := Stand.of_body Bd
  have e0 : s₁.heap = h0 := by rw [← hh, Bd.state]; rfl
  have N0 := Fr.nil n0
  have pre0 : oL p e below s₁ (mkF m 0 #[oR a1, oI 0, oI 2, oU, oU, oU] []) s₁ (entryFrame m #[(.ref a1), (.int (0 : Int32)), (.int (2 : Int32))] 6) := fun t k => castTop (by first | (simp [entryFrame, mkF, argsToLocals, Value.category]; done) | rfl) k
  have pre11 : oL p e below s₁ (mkF m 1 #[oR a1, oI 0, oI 2, oU, oU, oU] [oi 2]) s₁ (entryFrame m #[(.ref a1), (.int (0 : Int32)), (.int (2 : Int32))] 6) := fun t k => pre0 t (by
    refine XS.iloadN X0.here hx rfl (hb hby d5_0) rfl ?_
    exact k)
  obtain ⟨T12, h12, k12, X12, e12, E12, A12, st12⟩ := newP X0 hx hZ (oW hw 26 rfl) e0 (g := (mkF m 1 #[oR a1, oI 0, oI 2, oU, oU, oU] [oi 2])) rfl (hb hby d5_1) rfl (by decide) (cap := 2) (by decide) (by decide) (by decide) (by decide)
  obtain ⟨b12, g12⟩ : ∃ z, z = h0.size := ⟨_, rfl⟩
  rw [← g12] at A12 st12
  have ne13 : a1 ≠ b12 := Nat.ne_of_lt (Nat.lt_of_lt_of_le V1.lt (Nat.le_of_eq g12.symm))
  have ge_b12 : n0 ≤ b12 := Nat.le_trans (OL.1 ▸ OL.2.1) (Nat.le_of_eq g12.symm)
  have sz_b12 : h0.size ≤ b12 := Nat.le_trans (Keep.refl h0 []).1 (Nat.le_of_eq g12.symm)
  have f14 := V1.ext E12
  have OL15 := OL.ext E12
  have K16 : Keep h0 h12 [] := (Keep.refl h0 []).ext E12
  have V12 : Arv Z h12 b12 k12 .byte (2 : Int32) [(.int (0 : Int32)), (.int (0 : Int32))] (.int (0 : Int32)) := (Arv.new A12 (by decide)).pad (pad_rep [] (.int (0 : Int32)) 2)
  have pre17 : oL p e below T12 (mkF m 9 #[oR a1, oI 0, oI 2, oR b12, oU, oU] [oi 2, oi 0, ow b12, oi 0, ow a1]) s₁ (entryFrame m #[(.ref a1), (.int (0 : Int32)), (.int (2 : Int32))] 6) := fun t k => pre11 t (by
    refine st12 _ ?_
    refine XS.astoreN X12.here hx rfl (hb hby d5_3) rfl rfl (l' := #[oR a1, oI 0, oI 2, oR b12, oU, oU]) rfl ?_
    refine XS.aloadN X12.here hx rfl (hb hby d5_4) rfl rfl ?_
    show oS p e below T12 (mkF m 5 #[oR a1, oI 0, oI 2, oR b12, oU, oU] [ow a1]) _
    refine XS.iloadN X12.here hx rfl (hb hby d5_5) rfl ?_
    refine XS.aloadN X12.here hx rfl (hb hby d5_6) rfl rfl ?_
    refine XS.iconst X12.here hx rfl (hb hby d5_7) ?_
    refine XS.iloadN X12.here hx rfl (hb hby d5_8) rfl ?_
    show oS p e below T12 (mkF m 9 #[oR a1, oI 0, oI 2, oR b12, oU, oU] [oi 2, oi 0, ow b12, oi 0, ow a1]) _
    exact k)
  obtain ⟨_, _, ⟨T18, L18, k18, n18⟩, -, X18, ⟨Lc18, hQ18, l18, y18, z18⟩, st18⟩ := Jvm.LawKit.callS X12 hx (y := (⟨"java/lang/StringUTF16", "compress", "([CI[BII)I"⟩ : MethodName)) hown (mvT hZ (oW hw 27 rfl)) (mvT hZ (oW hw 28 rfl)) (mvT hZ (oW hw 24 rfl)) (mvT hZ (oW hw 29 rfl)) (by decide) (backOf (W := 0) (rm_c5_2_1 l Z a0 hw [] a1 k1 b12 k12 c0 c1 h12 n0 OL15 ge_b12 f14 V12 ne13 hl0 hg) hZ (oW hw 29 rfl) (oW hw 24 rfl) (by decide) (by decide)) (g := (mkF m 9 #[oR a1, oI 0, oI 2, oR b12, oU, oU] [oi 2, oi 0, ow b12, oi 0, ow a1])) rfl (by rw [hml]; rfl) (argsL := [(.ref a1), (.int (0 : Int32)), (.ref b12), (.int (0 : Int32)), (.int (2 : Int32))]) (rest := []) (lenOf pd___CI_BII_I rfl) rfl (by show 2 * 0 + _ ≤ _; exact Nat.le_of_eq rfl) (hb hby d5_9) (fun _ _ => ⟨rfl, e12, (by decide : 1 + 0 ≤ _), (by decide : 2 + 0 ≤ _)⟩)
  dsimp only [Pt.U, Pt.locs, Pt.cells, Pt.slots] at X18 l18 y18 z18 st18 hQ18
  subst l18 y18 z18
  obtain ⟨rfl, N18q, Kq18⟩ := hQ18
  have N18 := Fr.app N0 N18q
  have f19 := f14.keep Kq18 (ninS ne13 nin0)
  have OL20 := OL15.keep Kq18 (allS ge_b12 all0)
  have K21 : Keep h0 T18.heap [] := K16.trans Kq18 (allS (Or.inr sz_b12) all0)
  have pre22 : oL p e below T18 (mkF m 23 #[oR a1, oI 0, oI 2, oR b12, oI 1, oU] [oi 2, oi 0, ow a1]) s₁ (entryFrame m #[(.ref a1), (.int (0 : Int32)), (.int (2 : Int32))] 6) := fun t k => pre17 t (by
    refine st18 _ ?_
    refine XS.istore X18.here hx rfl (hb hby d5_12) rfl (l' := #[oR a1, oI 0, oI 2, oR b12, oI 1, oU]) rfl ?_
    refine XS.iload X18.here hx rfl (hb hby d5_14) rfl ?_
    refine XS.iloadN X18.here hx rfl (hb hby d5_16) rfl ?_
    show oS p e below T18 (mkF m 17 #[oR a1, oI 0, oI 2, oR b12, oI 1, oU] [oi 2, oi 1]) _
    refine XS.icmpNo X18.here hx rfl (hb hby d5_17) rfl (feq (by decide : ¬ ((1 : Int32) = (2 : Int32)))).1 ?_
    refine XS.aloadN X18.here hx rfl (hb hby d5_20) rfl rfl ?_
    refine XS.iloadN X18.here hx rfl (hb hby d5_21) rfl ?_
    refine XS.iloadN X18.here hx rfl (hb hby d5_22) rfl ?_
    show oS p e below T18 (mkF m 23 #[oR a1, oI 0, oI 2, oR b12, oI 1, oU] [oi 2, oi 0, ow a1]) _
    exact k)
  obtain ⟨_, _, ⟨T23, L23, k23, n23⟩, -, X23, ⟨Lc23, hQ23, l23, y23, z23⟩, st23⟩ := Jvm.LawKit.callS X18 hx (y := (⟨"java/lang/StringUTF16", "toBytes", "([CII)[B"⟩ : MethodName)) hown (mvT hZ (oW hw 60 rfl)) (mvT hZ (oW hw 61 rfl)) (mvT hZ (oW hw 24 rfl)) (mvT hZ (oW hw 62 rfl)) (by decide) (backOf (W := 0) (rm_tob2 l Z a0 hw [] a1 k1 c0 c1 T18.heap n0 OL20 AD HB LB f19) hZ (oW hw 62 rfl) (oW hw 24 rfl) (by decide) (by decide)) (g := (mkF m 23 #[oR a1, oI 0, oI 2, oR b12, oI 1, oU] [oi 2, oi 0, ow a1])) rfl (by rw [hml]; rfl) (argsL := [(.ref a1), (.int (0 : Int32)), (.int (2 : Int32))]) (rest := []) (lenOf pd___CII__B rfl) rfl (by show 2 * 0 + _ ≤ _; exact Nat.le_of_eq rfl) (hb hby d5_23) (fun _ _ => ⟨rfl, rfl, (by decide : 1 + 1 ≤ _), (by decide : 2 + 4 ≤ _)⟩)
  dsimp only [Pt.U, Pt.locs, Pt.cells, Pt.slots] at X23 l23 y23 z23 st23 hQ23
  subst l23 y23 z23
  obtain ⟨r23, kr23, rfl, N23q, Kq23, sq23, Va23⟩ := hQ23
  have N23 := Fr.app N18 N23q
  have ne24 : a1 ≠ r23 := Nat.ne_of_lt (Nat.lt_of_lt_of_le f19.lt sq23)
  have ge_r23 : n0 ≤ r23 := Nat.le_trans (OL20.1 ▸ OL20.2.1) sq23
  have sz_r23 : h0.size ≤ r23 := Nat.le_trans K21.1 sq23
  have f25 := f19.keep Kq23 nin0
  have OL26 := OL20.keep Kq23 all0
  have K27 : Keep h0 T23.heap [] := K21.trans Kq23 all0
  have pre28 : oL p e below T23 (mkF m 32 #[oR a1, oI 0, oI 2, oR b12, oI 1, oR r23] [oi 1, ow r23]) s₁ (entryFrame m #[(.ref a1), (.int (0 : Int32)), (.int (2 : Int32))] 6) := fun t k => pre22 t (by
    refine st23 _ ?_
    refine XS.astore X23.here hx rfl (hb hby d5_26) rfl rfl (l' := #[oR a1, oI 0, oI 2, oR b12, oI 1, oR r23]) rfl ?_
    refine XS.aload X23.here hx rfl (hb hby d5_28) rfl rfl ?_
    refine XS.iload X23.here hx rfl (hb hby d5_30) rfl ?_
    show oS p e below T23 (mkF m 32 #[oR a1, oI 0, oI 2, oR b12, oI 1, oR r23] [oi 1, ow r23]) _
    exact k)
  obtain ⟨_, _, ⟨T29, L29, k29, n29⟩, -, X29, ⟨Lc29, hQ29, l29, y29, z29⟩, st29⟩ := Jvm.LawKit.callS X23 hx (y := (⟨"java/lang/StringUTF16", "getChar", "([BI)C"⟩ : MethodName)) hown (mvT hZ (oW hw 76 rfl)) (mvT hZ (oW hw 77 rfl)) (mvT hZ (oW hw 24 rfl)) (mvT hZ (oW hw 78 rfl)) (by decide) (backOf (W := 0) (rm_get2_1 l Z a0 hw [] r23 kr23 (own_hb c0) (own_lb c0) (own_hb c1) (own_lb c1) T23.heap n0 OL26 AD HB LB Va23) hZ (oW hw 78 rfl) (oW hw 24 rfl) (by decide) (by decide)) (g := (mkF m 32 #[oR a1, oI 0, oI 2, oR b12, oI 1, oR r23] [oi 1, ow r23])) rfl (by rw [hml]; rfl) (argsL := [(.ref r23), (.int (1 : Int32))]) (rest := []) (lenOf pd___BI_C rfl) rfl (by show 2 * 0 + _ ≤ _; exact Nat.le_of_eq rfl) (hb hby d5_32) (fun _ _ => ⟨rfl, rfl, (by decide : 2 + 0 ≤ _), (by decide : 6 + 0 ≤ _)⟩)
  dsimp only [Pt.U, Pt.locs, Pt.cells, Pt.slots] at X29 l29 y29 z29 st29 hQ29
  subst l29 y29 z29
  obtain ⟨rfl, N29q, e29⟩ := hQ29
  have N29 := Fr.app N23 N29q
  have pre30 : oL p e below T29 (mkF m 56 #[oR a1, oI 0, oI 2, oR b12, oI 1, oR r23] [ow r23]) s₁ (entryFrame m #[(.ref a1), (.int (0 : Int32)), (.int (2 : Int32))] 6) := fun t k => pre28 t (by
    refine st29 _ ?_
    refine XS.sipush X29.here hx rfl (hb hby d5_35) ?_
    refine XS.icmpYes X29.here hx rfl (pc0 := 38) (pc' := 54) rfl (hb hby d5_38) rfl (tlt (own_gcg _ nc1 hg)).2.2.1 (by decide) (by decide) ?_
    refine XS.aload X29.here hx rfl (hb hby d5_54) rfl rfl ?_
    show oS p e below T29 (mkF m 56 #[oR a1, oI 0, oI 2, oR b12, oI 1, oR r23] [ow r23]) _
    exact k)
  obtain ⟨fs, hr, hrun, hended, hW, hsame⟩ := X29.leave (v := some (.ref r23)) (fun h => by rw [Bd.returns] at h; cases h)
  refine ⟨_, _, pre30 _ ?_, hrun, hended, _, _, rfl, ?_, ⟨_, rfl⟩, hW, hsame.mono (by decide) (by decide)⟩
  ·
    show oS p e below T29 (mkF m 56 #[oR a1, oI 0, oI 2, oR b12, oI 1, oR r23] [ow r23]) _
    jvm_step X29.here [X29.here.top, hx, (hb hby d5_56), X29.method', Bd.returns, Value.isRef, FieldType.isReference]
    first | (intro acts; rw [hr _ acts rfl rfl rfl]) | rw [hr _ _ rfl rfl rfl]
    exact Steps.refl _
  ·
    show Q_rm_cmp_2_1 Z a1 k1 c0 c1 h0 n0 _ T29.heap _
    rw [e29]
    exact ⟨r23, kr23, rfl, N29, K27, sz_r23, Va23⟩
set_option maxRecDepth 65536 in
set_option maxHeartbeats 40000000 in
theorem rm_si_2_1 (l : Launch) (Z : State) (a0 : Array Value) (hw : ∀ d ∈ tables_1, d.before a0 Z = true) (ws : List Jvm.Cond) (a1 : Addr) (a2 : Addr) (k2 : ClassId) (G1 : Int32) (c0 : Int32) (c1 : Int32) (h0 : Heap) (n0 : Nat) (OL : Old Z n0 h0) (AD : Sta Z Z.heap "java/lang/StringUTF16" "$assertionsDisabled" "Z" (.int (1 : Int32))) (HB : Sta Z Z.heap "java/lang/StringUTF16" "HI_BYTE_SHIFT" "I" (.int (0 : Int32))) (LB : Sta Z Z.heap "java/lang/StringUTF16" "LO_BYTE_SHIFT" "I" (.int (8 : Int32))) (O2 : Sta Z Z.heap "java/lang/String" "COMPACT_STRINGS" "Z" (.int G1)) (P5 : ¬ (G1 = (0 : Int32))) (ge1 : n0 ≤ a1) (E1 : Exa Z h0 a1 "java/lang/String") (F1 : Fld Z h0 a1 "java/lang/String" "value" "[B" .null) (F2 : Fld Z h0 a1 "java/lang/String" "coder" "B" (.int (0 : Int32))) (V2 : Arv Z h0 a2 k2 .char (2 : Int32) [(.int c0), (.int c1)] (.int (0 : Int32))) (hl0 : ¬ ((255 : Int32) < c0)) (hg : (255 : Int32) < c1) (nc0 : nar .char c0 = c0) (nc1 : nar .char c1 = c1) :
    MetFree l (⟨"java/lang/String", "<init>", "([CIILjava/lang/Void;)V"⟩ : MethodName) (head1 (Jvm.Cond.code (⟨"java/lang/String", "<init>", "([CIILjava/lang/Void;)V"⟩ : MethodName) jdk_42_method_149_code 6 none :: ws) ({ frames := 4, cells := 2, slots := 6, locals := 57 } : Room)) (fun a U => a = #[(.ref a1), (.ref a2), (.int (0 : Int32)), (.int (2 : Int32)), .null] ∧ Z.Warmed39 U.vm ∧ U.heap = h0) (fun _ _ _ _ _ => True) (fun _ U o U' => ∃ v L, o = .returned v ∧ Q_S2 Z a1 a2 k2 G1 c0 c1 h0 n0 v U'.heap L ∧ FrameEnd U o U' L ({ frames := 4, cells := 2, slots := 6, locals := 57 } : Room).cells ({ frames := 4, cells := 2, slots := 6, locals := 57 } : Room).slots) := by
  refine MetFree.of_bodySF (plainFor_of_name pn_java_lang_String) hisR ?_
  intro p e s m args below meth c s₁ Bd hml0 hP hK
  obtain ⟨rfl, hZ, hh⟩ := hP
  have hx := Bd.exec
  have hby := Bd.bytes
  have hml : c.maxLocals = 6 := hml0
  have hown : s.vm.findClass "java/lang/String" = some m.cls := findClass_of_methodNamed Bd.named
  have hnm := (name_of_methodNamed Bd.named Bd.method).1
  have X0 : Stand p l e ({ frames := 4, cells := 2, slots := 6, locals := 57 } : Room) s m #[(.ref a1), (.ref a2), (.int (0 : Int32)), (.int (2 : Int32)), .null] below meth c s₁ [] 0 0 := Stand.of_body Bd
  have e0 : s₁.heap = h0 := by rw [← hh, Bd.state]; rfl
  have N0 := Fr.nil n0
  have pre0 : oL p e below s₁ (mkF m 0 #[oR a1, oR a2, oI 0, oI 2, oN, oU] []) s₁ (entryFrame m #[(.ref a1), (.ref a2), (.int (0 : Int32)), (.int (2 : Int32)), .null] 6) := fun t k => castTop (by first | (simp [entryFrame, mkF, argsToLocals, Value.category]; done) | rfl) k
  have own_ne : a2 ≠ a1 := (Exa.neArv E1 V2 (oW hw 9 rfl)).symm
  have pre11 : oL p e below s₁ (mkF m 1 #[oR a1, oR a2, oI 0, oI 2, oN, oU] [ow a1]) s₁ (entryFrame m #[(.ref a1), (.ref a2), (.int (0 : Int32)), (.int (2 : Int32)), .null] 6) := fun t k => pre0 t (by
    refine XS.aloadN X0.here hx rfl (hb hby d3_0) rfl rfl ?_
    exact k)
  obtain ⟨T12, X12, e12, st12⟩ := initO X0 hx hZ hown (oW hw 18 rfl) (oW hw 19 rfl) (oW hw 20 rfl) e0 (g := (mkF m 1 #[oR a1, oR a2, oI 0, oI 2, oN, oU] [ow a1])) rfl (by rw [hml]; rfl) rfl (hb hby d3_1) (by decide) (W := 0) (by show 2 * 0 + _ ≤ _; exact Nat.le_of_eq rfl) (by decide)
  have pre13 : oL p e below T12 (mkF m 27 #[oR a1, oR a2, oI 0, oI 2, oN, oU] []) s₁ (entryFrame m #[(.ref a1), (.ref a2), (.int (0 : Int32)), (.int (2 : Int32)), .null] 6) := fun t k => pre11 t (by
    refine st12 _ ?_
    refine XS.iloadN X12.here hx rfl (hb hby d3_4) rfl ?_
    refine XS.ifYes X12.here hx rfl (pc0 := 5) (pc' := 27) rfl (hb hby d3_5) rfl ((if0 _ _).trans (feq (by decide : ¬ ((2 : Int32) = (0 : Int32)))).2) (by decide) (by decide) ?_
    show oS p e below T12 (mkF m 27 #[oR a1, oR a2, oI 0, oI 2, oN, oU] []) _
    exact k)
  obtain ⟨T14, X14, e14, st14⟩ := getS2 X12 hx hZ hown (host := "") (Or.inl (oW hw 21 rfl)) Via.refl e12 (O2.ext OL.2) (g := (mkF m 27 #[oR a1, oR a2, oI 0, oI 2, oN, oU] [])) rfl (hb hby d3_27)
  have pre15 : oL p e below T14 (mkF m 36 #[oR a1, oR a2, oI 0, oI 2, oN, oU] [oi 2, oi 0, ow a2]) s₁ (entryFrame m #[(.ref a1), (.ref a2), (.int (0 : Int32)), (.int (2 : Int32)), .null] 6) := fun t k => pre13 t (by
    refine st14 _ ?_
    refine XS.ifNo X14.here hx rfl (hb hby d3_30) rfl ((if0 _ _).trans (feq P5).1) ?_
    refine XS.aloadN X14.here hx rfl (hb hby d3_33) rfl rfl ?_
    refine XS.iloadN X14.here hx rfl (hb hby d3_34) rfl ?_
    show oS p e below T14 (mkF m 35 #[oR a1, oR a2, oI 0, oI 2, oN, oU] [oi 0, ow a2]) _
    refine XS.iloadN X14.here hx rfl (hb hby d3_35) rfl ?_
    exact k)
  obtain ⟨_, _, ⟨T16, L16, k16, n16⟩, -, X16, ⟨Lc16, hQ16, l16, y16, z16⟩, st16⟩ := Jvm.LawKit.callS X14 hx (y := (⟨"java/lang/StringUTF16", "compress", "([CII)[B"⟩ : MethodName)) hown (mvT hZ (oW hw 22 rfl)) (mvT hZ (oW hw 23 rfl)) (mvT hZ (oW hw 24 rfl)) (mvT hZ (oW hw 25 rfl)) (by decide) (backOf (W := 0) (rm_cmp_2_1 l Z a0 hw [] a2 k2 c0 c1 h0 n0 OL AD HB LB V2 hl0 hg nc0 nc1) hZ (oW hw 25 rfl) (oW hw 24 rfl) (by decide) (by decide)) (g := (mkF m 36 #[oR a1, oR a2, oI 0, oI 2, oN, oU] [oi 2, oi 0, ow a2])) rfl (by rw [hml]; rfl) (argsL := [(.ref a2), (.int (0 : Int32)), (.int (2 : Int32))]) (rest := []) (lenOf pd___CII__B rfl) rfl (by show 2 * 0 + _ ≤ _; exact Nat.le_of_eq rfl) (hb hby d3_36) (fun _ _ => ⟨rfl, e14, (by decide : 0 + 2 ≤ _), (by decide : 0 + 6 ≤ _)⟩)
  dsimp only [Pt.U, Pt.locs, Pt.cells, Pt.slots] at X16 l16 y16 z16 st16 hQ16
  subst l16 y16 z16
  obtain ⟨r16, kr16, rfl, N16q, Kq16, sq16, Va16⟩ := hQ16
  have N16 := Fr.app N0 N16q
  have ne17 : a1 ≠ r16 := Nat.ne_of_lt (Nat.lt_of_lt_of_le E1.lt sq16)
  have ne18 : a2 ≠ r16 := Nat.ne_of_lt (Nat.lt_of_lt_of_le V2.lt sq16)
  have ge_r16 : n0 ≤ r16 := Nat.le_trans (OL.1 ▸ OL.2.1) sq16
  have sz_r16 : h0.size ≤ r16 := Nat.le_trans (Keep.refl h0 [a1]).1 sq16
  have f19 := E1.keep Kq16
  have f20 := F1.keep Kq16 nin0
  have f21 := F2.keep Kq16 nin0
  have f22 := V2.keep Kq16 nin0
  have OL23 := OL.keep Kq16 all0
  have K24 : Keep h0 T16.heap [a1] := (Keep.refl h0 [a1]).trans Kq16 all0
  have pre25 : oL p e below T16 (mkF m 45 #[oR a1, oR a2, oI 0, oI 2, oN, oR r16] [oi 2, ow r16, ow a1]) s₁ (entryFrame m #[(.ref a1), (.ref a2), (.int (0 : Int32)), (.int (2 : Int32)), .null] 6) := fun t k => pre15 t (by
    refine st16 _ ?_
    refine XS.astore X16.here hx rfl (hb hby d3_39) rfl rfl (l' := #[oR a1, oR a2, oI 0, oI 2, oN, oR r16]) rfl ?_
    refine XS.aloadN X16.here hx rfl (hb hby d3_41) rfl rfl ?_
    show oS p e below T16 (mkF m 42 #[oR a1, oR a2, oI 0, oI 2, oN, oR r16] [ow a1]) _
    refine XS.aload X16.here hx rfl (hb hby d3_42) rfl rfl ?_
    refine XS.iloadN X16.here hx rfl (hb hby d3_44) rfl ?_
    exact k)
  obtain ⟨_, _, ⟨T26, L26, k26, n26⟩, -, X26, ⟨Lc26, hQ26, l26, y26, z26⟩, st26⟩ := Jvm.LawKit.callS X16 hx (y := (⟨"java/lang/StringUTF16", "coderFromArrayLen", "([BI)B"⟩ : MethodName)) hown (mvT hZ (oW hw 30 rfl)) (mvT hZ (oW hw 31 rfl)) (mvT hZ (oW hw 24 rfl)) (mvT hZ (oW hw 32 rfl)) (by decide) (backOf (W := 1) (rm_cfl2 l Z a0 hw [] r16 kr16 (own_hb c0) (own_lb c0) (own_hb c1) (own_lb c1) T16.heap n0 OL23 Va16) hZ (oW hw 32 rfl) (oW hw 24 rfl) (by decide) (by decide)) (g := (mkF m 45 #[oR a1, oR a2, oI 0, oI 2, oN, oR r16] [oi 2, ow r16, ow a1])) rfl (by rw [hml]; rfl) (argsL := [(.ref r16), (.int (2 : Int32))]) (rest := [(.ref a1)]) (lenOf pd___BI_B rfl) rfl (by show 2 * 0 + _ ≤ _; exact Nat.le_of_eq rfl) (hb hby d3_45) (fun _ _ => ⟨rfl, rfl, (by decide : 2 + 0 ≤ _), (by decide : 6 + 0 ≤ _)⟩)
  dsimp only [Pt.U, Pt.locs, Pt.cells, Pt.slots] at X26 l26 y26 z26 st26 hQ26
  subst l26 y26 z26
  obtain ⟨rfl, N26q, e26⟩ := hQ26
  have N26 := Fr.app N16 N26q
  have pre27 : oL p e below T26 (mkF m 48 #[oR a1, oR a2, oI 0, oI 2, oN, oR r16] [oi 1, ow a1]) s₁ (entryFrame m #[(.ref a1), (.ref a2), (.int (0 : Int32)), (.int (2 : Int32)), .null] 6) := fun t k => pre25 t (by
    refine st26 _ ?_
    exact k)
  obtain ⟨T28, h28, X28, e28, W28, st28⟩ := putFN X26 hx hZ hown (oW hw 33 rfl) Via.refl e26 f21 f19 (Or.inr ⟨(oW hw 34 rfl), rfl, hnm⟩) (oW hw 9 rfl) (ty := .byte) (v' := (.int (1 : Int32))) (by decide) rfl rfl (g := (mkF m 48 #[oR a1, oR a2, oI 0, oI 2, oN, oR r16] [oi 1, ow a1])) rfl rfl (hb hby d3_48)
  have f29 := f21.same W28
  have N28 := Fr.snoc X28 N26 ge1
  have f30 := f19.wr W28
  have f31 := f20.other W28 (Or.inr (slot_ne (Or.inr (oW hw 36 rfl)) (Or.inr (oW hw 34 rfl)) (by decide) (t := (.array .byte)) (t' := .byte) (by decide) (by decide)))
  have f32 := f22.other W28 own_ne
  have f33 := Va16.other W28 (Ne.symm ne17)
  have OL34 := OL23.wr W28 ge1
  have K35 : Keep h0 h28 [a1] := K24.wr W28 (Or.inl (List.mem_of_getElem? (i := 0) rfl))
  have pre36 : oL p e below T28 (mkF m 54 #[oR a1, oR a2, oI 0, oI 2, oN, oR r16] [ow r16, ow a1]) s₁ (entryFrame m #[(.ref a1), (.ref a2), (.int (0 : Int32)), (.int (2 : Int32)), .null] 6) := fun t k => pre27 t (by
    refine st28 _ ?_
    show oS p e below T28 (mkF m 51 #[oR a1, oR a2, oI 0, oI 2, oN, oR r16] []) _
    refine XS.aloadN X28.here hx rfl (hb hby d3_51) rfl rfl ?_
    refine XS.aload X28.here hx rfl (hb hby d3_52) rfl rfl ?_
    exact k)
  obtain ⟨T37, h37, X37, e37, W37, st37⟩ := putF X28 hx hZ hown (host := "") (Or.inl (oW hw 35 rfl)) Via.refl e28 f31 f30 (Or.inr ⟨(oW hw 36 rfl), rfl, hnm⟩) (oW hw 9 rfl) (ty := (.array .byte)) (by decide) rfl rfl (g := (mkF m 54 #[oR a1, oR a2, oI 0, oI 2, oN, oR r16] [ow r16, ow a1])) rfl rfl (hb hby d3_54)
  have f38 := f31.same W37
  have N37 := Fr.snoc X37 N28 ge1
  have f39 := f30.wr W37
  have f40 := f29.other W37 (Or.inr (slot_ne (Or.inr (oW hw 34 rfl)) (Or.inr (oW hw 36 rfl)) (by decide) (t := .byte) (t' := (.array .byte)) (by decide) (by decide)))
  have f41 := f32.other W37 own_ne
  have f42 := f33.other W37 (Ne.symm ne17)
  have OL43 := OL34.wr W37 ge1
  have K44 : Keep h0 h37 [a1] := K35.wr W37 (Or.inl (List.mem_of_getElem? (i := 0) rfl))
  have pre45 : oL p e below T37 (mkF m 57 #[oR a1, oR a2, oI 0, oI 2, oN, oR r16] []) s₁ (entryFrame m #[(.ref a1), (.ref a2), (.int (0 : Int32)), (.int (2 : Int32)), .null] 6) := fun t k => pre36 t (by
    refine st37 _ ?_
    exact k)
  obtain ⟨fs, hr, hrun, hended, hW, hsame⟩ := X37.leave (v := none) (fun _ => rfl)
  refine ⟨_, _, pre45 _ ?_, hrun, hended, _, _, rfl, ?_, ⟨_, rfl⟩, hW, hsame.mono (by decide) (by decide)⟩
  ·
    show oS p e below T37 (mkF m 57 #[oR a1, oR a2, oI 0, oI 2, oN, oR r16] []) _
    exact X37.returnOut hx Bd.returns (hb hby d3_57) hr
  ·
    show Q_S2 Z a1 a2 k2 G1 c0 c1 h0 n0 _ T37.heap _
    rw [e37]
    exact ⟨rfl, N37, K44, f39, (1 : Int32), r16, kr16, (4 : Int32), [(.int (own_hb c0)), (.int (own_lb c0)), (.int (own_hb c1)), (.int (own_lb c1))], f40, sz_r16, fun q => ne17 q.symm, f38, f42, Or.inr ⟨rfl, Or.inr (hg)⟩⟩
set_option maxRecDepth 65536 in
set_option maxHeartbeats 40000000 in
theorem rm_s_2_1 (l : Launch) (Z : State) (a0 : Array Value) (hw : ∀ d ∈ tables_1, d.before a0 Z = true) (ws : List Jvm.Cond) (a1 : Addr) (a2 : Addr) (k2 : ClassId) (G1 : Int32) (c0 : Int32) (c1 : Int32) (h0 : Heap) (n0 : Nat) (OL : Old Z n0 h0) (AD : Sta Z Z.heap "java/lang/StringUTF16" "$assertionsDisabled" "Z" (.int (1 : Int32))) (HB : Sta Z Z.heap "java/lang/StringUTF16" "HI_BYTE_SHIFT" "I" (.int (0 : Int32))) (LB : Sta Z Z.heap "java/lang/StringUTF16" "LO_BYTE_SHIFT" "I" (.int (8 : Int32))) (O2 : Sta Z Z.heap "java/lang/String" "COMPACT_STRINGS" "Z" (.int G1)) (P5 : ¬ (G1 = (0 : Int32))) (ge1 : n0 ≤ a1) (E1 : Exa Z h0 a1 "java/lang/String") (F1 : Fld Z h0 a1 "java/lang/String" "value" "[B" .null) (F2 : Fld Z h0 a1 "java/lang/String" "coder" "B" (.int (0 : Int32))) (V2 : Arv Z h0 a2 k2 .char (2 : Int32) [(.int c0), (.int c1)] (.int (0 : Int32))) (hl0 : ¬ ((255 : Int32) < c0)) (hg : (255 : Int32) < c1) (nc0 : nar .char c0 = c0) (nc1 : nar .char c1 = c1) :
    MetFree l (⟨"java/lang/String", "<init>", "([C)V"⟩ : MethodName) (head1 (Jvm.Cond.code (⟨"java/lang/String", "<init>", "([C)V"⟩ : MethodName) jdk_42_method_3_code 2 none :: ws) ({ frames := 5, cells := 2, slots := 6, locals := 74 } : Room)) (fun a U => a = #[(.ref a1), (.ref a2)] ∧ Z.Warmed39 U.vm ∧ U.heap = h0) (fun _ _ _ _ _ => True) (fun _ U o U' => ∃ v L, o = .returned v ∧ Q_S2 Z a1 a2 k2 G1 c0 c1 h0 n0 v U'.heap L ∧ FrameEnd U o U' L ({ frames := 5, cells := 2, slots := 6, locals := 74 } : Room).cells ({ frames := 5, cells := 2, slots := 6, locals := 74 } : Room).slots) := by
  refine MetFree.of_bodySF (plainFor_of_name pn_java_lang_String) hisR ?_
  intro p e s m args below meth c s₁ Bd hml0 hP hK
  obtain ⟨rfl, hZ, hh⟩ := hP
  have hx := Bd.exec
  have hby := Bd.bytes
  have hml : c.maxLocals = 2 := hml0
  have hown : s.vm.findClass "java/lang/String" = some m.cls := findClass_of_methodNamed Bd.named
  have hnm := (name_of_methodNamed Bd.named Bd.method).1
  have X0 : Stand p l e ({ frames := 5, cells := 2, slots := 6, locals := 74 } : Room) s m #[(.ref a1), (.ref a2)] below meth c s₁ [] 0 0 := Stand.of_body Bd
  have e0 : s₁.heap = h0 := by rw [← hh, Bd.state]; rfl
  have N0 := Fr.nil n0
  have pre0 : oL p e below s₁ (mkF m 0 #[oR a1, oR a2] []) s₁ (entryFrame m #[(.ref a1), (.ref a2)] 2) := fun t k => castTop (by first | (simp [entryFrame, mkF, argsToLocals, Value.category]; done) | rfl) k
  have own_ne : a2 ≠ a1 := (Exa.neArv E1 V2 (oW hw 9 rfl)).symm
  have pre12 : oL p e below s₁ (mkF m 4 #[oR a1, oR a2] [ow a2, oi 0, ow a2, ow a1]) s₁ (entryFrame m #[(.ref a1), (.ref a2)] 2) := fun t k => pre0 t (by
    refine XS.aloadN X0.here hx rfl (hb hby d2_0) rfl rfl ?_
    refine XS.aloadN X0.here hx rfl (hb hby d2_1) rfl rfl ?_
    refine XS.iconst X0.here hx rfl (hb hby d2_2) ?_
    refine XS.aloadN X0.here hx rfl (hb hby d2_3) rfl rfl ?_
    show oS p e below s₁ (mkF m 4 #[oR a1, oR a2] [ow a2, oi 0, ow a2, ow a1]) _
    exact k)
  obtain ⟨cl11, Ar11, -, Sz11, Nn11, -, -⟩ := id V2
  have pre13 : oL p e below s₁ (mkF m 6 #[oR a1, oR a2] [.null, oi 2, oi 0, ow a2, ow a1]) s₁ (entryFrame m #[(.ref a1), (.ref a2)] 2) := fun t k => pre12 t (by
    refine X0.arraylength hx (by rw [e0]; exact Ar11.1) (State.isArrayOf_alike hZ.alike Ar11.2.1) (g := (mkF m 4 #[oR a1, oR a2] [ow a2, oi 0, ow a2, ow a1])) rfl rfl (hb hby d2_4) _ ?_
    rw [len_of Sz11 Nn11]
    refine XS.aconstNull X0.here hx rfl (hb hby d2_5) ?_
    exact k)
  obtain ⟨_, _, ⟨T14, L14, k14, n14⟩, -, X14, ⟨Lc14, hQ14, l14, y14, z14⟩, st14⟩ := X0.specialBack hx (y := (⟨"java/lang/String", "<init>", "([CIILjava/lang/Void;)V"⟩ : MethodName)) rfl hown (mvT hZ (oW hw 14 rfl)) (mvT hZ (oW hw 15 rfl)) (mvT hZ (oW hw 17 rfl)) (by decide) (backOf (W := 0) (rm_si_2_1 l Z a0 hw [] a1 a2 k2 G1 c0 c1 h0 n0 OL AD HB LB O2 P5 ge1 E1 F1 F2 V2 hl0 hg nc0 nc1) hZ (oW hw 17 rfl) (oW hw 10 rfl) (by decide) (by decide)) (g := (mkF m 6 #[oR a1, oR a2] [.null, oi 2, oi 0, ow a2, ow a1])) rfl (by rw [hml]; rfl) (Steps.refl _) (a := a1) (argsL := [(.ref a2), (.int (0 : Int32)), (.int (2 : Int32)), .null]) (rest := []) (lenOf pd___CIILjava_lang_Void__V rfl) rfl (by show 2 * 0 + _ ≤ _; exact Nat.le_of_eq rfl) (hb hby d2_6) (fun _ _ => ⟨rfl, e0, (by decide : 0 + 2 ≤ _), (by decide : 0 + 6 ≤ _)⟩)
  dsimp only [Pt.U, Pt.locs, Pt.cells, Pt.slots] at X14 l14 y14 z14 st14 hQ14
  subst l14 y14 z14
  obtain ⟨rfl, N14q, Kq14, Eq14, cd14, tt14, kb14, Nx14, vs14, Fc14, sq14, nx14, Fv14, Va14, ou14⟩ := hQ14
  have N14 := Fr.app N0 N14q
  have f15 := E1.keep Kq14
  have f16 := V2.keep Kq14 (ninS own_ne nin0)
  have OL17 := OL.keep Kq14 (allS ge1 all0)
  have K18 : Keep h0 T14.heap [a1] := (Keep.refl h0 [a1]).trans Kq14 (allS (Or.inl (List.mem_of_getElem? (i := 0) rfl)) all0)
  have pre19 : oL p e below T14 (mkF m 9 #[oR a1, oR a2] []) s₁ (entryFrame m #[(.ref a1), (.ref a2)] 2) := fun t k => pre13 t (by
    refine st14.trans ?_
    exact k)
  obtain ⟨fs, hr, hrun, hended, hW, hsame⟩ := X14.leave (v := none) (fun _ => rfl)
  refine ⟨_, _, pre19 _ ?_, hrun, hended, _, _, rfl, ?_, ⟨_, rfl⟩, hW, hsame.mono (by decide) (by decide)⟩
  ·
    show oS p e below T14 (mkF m 9 #[oR a1, oR a2] []) _
    exact X14.returnOut hx Bd.returns (hb hby d2_9) hr
  ·
    show Q_S2 Z a1 a2 k2 G1 c0 c1 h0 n0 _ T14.heap _
    exact ⟨rfl, N14, K18, Eq14, cd14, tt14, kb14, Nx14, vs14, Fc14, Nat.le_trans (Keep.refl h0 [a1]).1 sq14, nx14, Fv14, Va14, ou14⟩
def Q_rm_c5_2_2 (Z : State) (a1 : Addr) (k1 : ClassId) (t1 : Addr) (k2 : ClassId) (c0 : Int32) (c1 : Int32) (h0 : Heap) (n0 : Nat) (v : Option Value) (h : Heap) (L : List Loc) : Prop := v = some (.int (2 : Int32)) ∧ Fr n0 L ∧ Keep h0 h [t1] ∧ Arv Z h t1 k2 .byte (2 : Int32) [(.int (nar .byte (c0.toInt8.toInt32))), (.int (nar .byte (c1.toInt8.toInt32)))] (.int (0 : Int32))
set_option maxRecDepth 65536 in
set_option maxHeartbeats 40000000 in
theorem rm_c5_2_2 (l : Launch) (Z : State) (a0 : Array Value) (hw : ∀ d ∈ tables_1, d.before a0 Z = true) (ws : List Jvm.Cond) (a1 : Addr) (k1 : ClassId) (t1 : Addr) (k2 : ClassId) (c0 : Int32) (c1 : Int32) (h0 : Heap) (n0 : Nat) (OL : Old Z n0 h0) (ge1 : n0 ≤ t1) (V1 : Arv Z h0 a1 k1 .char (2 : Int32) [(.int c0), (.int c1)] (.int (0 : Int32))) (V2 : Arv Z h0 t1 k2 .byte (2 : Int32) [(.int (0 : Int32)), (.int (0 : Int32))] (.int (0 : Int32))) (ne1 : a1 ≠ t1) (hl0 : ¬ ((255 : Int32) < c0)) (hl1 : ¬ ((255 : Int32) < c1)) :
    MetFree l (⟨"java/lang/StringUTF16", "compress", "([CI[BII)I"⟩ : MethodName) (head1 (Jvm.Cond.code (⟨"java/lang/StringUTF16", "compress", "([CI[BII)I"⟩ : MethodName) jdk_52_method_21_code 7 (some .int) :: ws) ({ frames := 0, cells := 0, slots := 0, locals := 0 } : Room)) (fun a U => a = #[(.ref a1), (.int (0 : Int32)), (.ref t1), (.int (0 : Int32)), (.int (2 : Int32))] ∧ Z.Warmed39 U.vm ∧ U.heap = h0) (fun _ _ _ _ _ => True) (fun _ U o U' => ∃ v L, o = .returned v ∧ Q_rm_c5_2_2 Z a1 k1 t1 k2 c0 c1 h0 n0 v U'.heap L ∧ FrameEnd U o U' L ({ frames := 0, cells := 0, slots := 0, locals := 0 } : Room).cells ({ frames := 0, cells := 0, slots := 0, locals := 0 } : Room).slots) := by
  refine MetFree.of_bodySF (plainFor_of_name pn_java_lang_StringUTF16) hisR ?_
  intro p e s m args below meth c s₁ Bd hml0 hP hK
  obtain ⟨rfl, hZ, hh⟩ := hP
  have hx := Bd.exec
  have hby := Bd.bytes
  have hml : c.maxLocals = 7 := hml0
  have hown : s.vm.findClass "java/lang/StringUTF16" = some m.cls := findClass_of_methodNamed Bd.named
  have hnm := (name_of_methodNamed Bd.named Bd.method).1
  have X0 : Stand p l e ({ frames := 0, cells := 0, slots := 0, locals := 0 } : Room) s m #[(.ref a1), (.int (0 : Int32)), (.ref t1), (.int (0 : Int32)), (.int (2 : Int32))] below meth c s₁ [] 0 0 := Stand.of_body Bd
  have e0 : s₁.heap = h0 := by rw [← hh, Bd.state]; rfl
  have N0 := Fr.nil n0
  have pre0 : oL p e below s₁ (mkF m 0 #[oR a1, oI 0, oR t1, oI 0, oI 2, oU, oU] []) s₁ (entryFrame m #[(.ref a1), (.int (0 : Int32)), (.ref t1), (.int (0 : Int32)), (.int (2 : Int32))] 7) := fun t k => castTop (by first | (simp [entryFrame, mkF, argsToLocals, Value.category]; done) | rfl) k
  have pre11 : oL p e below s₁ (mkF m 12 #[oR a1, oI 0, oR t1, oI 0, oI 2, oI 0, oU] [oi 0, ow a1]) s₁ (entryFrame m #[(.ref a1), (.int (0 : Int32)), (.ref t1), (.int (0 : Int32)), (.int (2 : Int32))] 7) := fun t k => pre0 t (by
    refine XS.iconst X0.here hx rfl (hb hby d6_0) ?_
    refine XS.istore X0.here hx rfl (hb hby d6_1) rfl (l' := #[oR a1, oI 0, oR t1, oI 0, oI 2, oI 0, oU]) rfl ?_
    refine XS.iload X0.here hx rfl (hb hby d6_3) rfl ?_
    refine XS.iload X0.here hx rfl (hb hby d6_5) rfl ?_
    show oS p e below s₁ (mkF m 7 #[oR a1, oI 0, oR t1, oI 0, oI 2, oI 0, oU] [oi 2, oi 0]) _
    refine XS.icmpNo X0.here hx rfl (hb hby d6_7) rfl (tlt (by decide : (0 : Int32) < (2 : Int32))).2.1 ?_
    refine XS.aloadN X0.here hx rfl (hb hby d6_10) rfl rfl ?_
    refine XS.iloadN X0.here hx rfl (hb hby d6_11) rfl ?_
    exact k)
  obtain ⟨cl12, Ar12, qc12, Sz12, Nn12, Hs12, Gs12⟩ := id V1
  have hin12 := inb_of (j := (0 : Int32)) Sz12 ⟨by decide, by decide⟩
  have pre13 : oL p e below s₁ (mkF m 31 #[oR a1, oI 0, oR t1, oI 0, oI 2, oI 0, oI c0] [oi (c0.toInt8.toInt32), oi 0, ow t1]) s₁ (entryFrame m #[(.ref a1), (.int (0 : Int32)), (.ref t1), (.int (0 : Int32)), (.int (2 : Int32))] 7) := fun t k => pre11 t (by
    refine X0.caload hx (j := (0 : Int32)) (v := (.int c0)) (by rw [e0]; exact Ar12.1) (State.isArrayOf_alike hZ.alike Ar12.2.1) Ar12.2.2 hin12 (Hs12.at hin12 rfl) (g := (mkF m 12 #[oR a1, oI 0, oR t1, oI 0, oI 2, oI 0, oU] [oi 0, ow a1])) rfl rfl (hb hby d6_12) _ ?_
    show oS p e below s₁ (mkF m 13 #[oR a1, oI 0, oR t1, oI 0, oI 2, oI 0, oU] [oi c0]) _
    refine XS.istore X0.here hx rfl (hb hby d6_13) rfl (l' := #[oR a1, oI 0, oR t1, oI 0, oI 2, oI 0, oI c0]) rfl ?_
    refine XS.iload X0.here hx rfl (hb hby d6_15) rfl ?_
    refine XS.sipush X0.here hx rfl (hb hby d6_17) ?_
    refine XS.icmpYes X0.here hx rfl (pc0 := 20) (pc' := 26) rfl (hb hby d6_20) rfl (flt hl0).2.2.2 (by decide) (by decide) ?_
    show oS p e below s₁ (mkF m 26 #[oR a1, oI 0, oR t1, oI 0, oI 2, oI 0, oI c0] []) _
    refine XS.aloadN X0.here hx rfl (hb hby d6_26) rfl rfl ?_
    refine XS.iloadN X0.here hx rfl (hb hby d6_27) rfl ?_
    refine XS.iload X0.here hx rfl (hb hby d6_28) rfl ?_
    refine XS.i2b X0.here hx rfl (hb hby d6_30) rfl ?_
    show oS p e below s₁ (mkF m 31 #[oR a1, oI 0, oR t1, oI 0, oI 2, oI 0, oI c0] [oi (c0.toInt8.toInt32), oi 0, ow t1]) _
    exact k)
  obtain ⟨cl14, Ar14, qc14, Sz14, Nn14, Hs14, Gs14⟩ := id V2
  obtain ⟨T14, h14, X14, e14, W14, st14⟩ := stB X0 hx hZ e0 Ar14 (j := (0 : Int32)) (inb_of Sz14 ⟨by decide, by decide⟩) (g := (mkF m 31 #[oR a1, oI 0, oR t1, oI 0, oI 2, oI 0, oI c0] [oi (c0.toInt8.toInt32), oi 0, ow t1])) rfl rfl (hb hby d6_31)
  have V14 : Arv Z h14 t1 k2 .byte (2 : Int32) [(.int (nar .byte (c0.toInt8.toInt32))), (.int (0 : Int32))] (.int (0 : Int32)) := Arv.set Ar14 qc14 Sz14 Nn14 Hs14 Gs14 (fits_nar_byte _) W14 0 rfl (Nat.le_of_ble_eq_true rfl)
  have N14 := Fr.snoc X14 N0 ge1
  have f15 := V1.other W14 ne1
  have OL16 := OL.wr W14 ge1
  have K17 : Keep h0 h14 [t1] := (Keep.refl h0 [t1]).wr W14 (Or.inl (List.mem_of_getElem? (i := 0) rfl))
  have pre18 : oL p e below T14 (mkF m 12 #[oR a1, oI 1, oR t1, oI 1, oI 2, oI 1, oI c0] [oi 1, ow a1]) s₁ (entryFrame m #[(.ref a1), (.int (0 : Int32)), (.ref t1), (.int (0 : Int32)), (.int (2 : Int32))] 7) := fun t k => pre13 t (by
    refine st14 _ ?_
    refine XS.iinc X14.here hx rfl (hb hby d6_32) rfl (l' := #[oR a1, oI 1, oR t1, oI 0, oI 2, oI 0, oI c0]) rfl ?_
    refine XS.iinc X14.here hx rfl (hb hby d6_35) rfl (l' := #[oR a1, oI 1, oR t1, oI 1, oI 2, oI 0, oI c0]) rfl ?_
    refine XS.iinc X14.here hx rfl (hb hby d6_38) rfl (l' := #[oR a1, oI 1, oR t1, oI 1, oI 2, oI 1, oI c0]) rfl ?_
    show oS p e below T14 (mkF m 41 #[oR a1, oI 1, oR t1, oI 1, oI 2, oI 1, oI c0] []) _
    refine XS.goto X14.here hx rfl (pc0 := 41) (pc' := 3) rfl (hb hby d6_41) (by decide) (by decide) ?_
    refine XS.iload X14.here hx rfl (hb hby d6_3) rfl ?_
    refine XS.iload X14.here hx rfl (hb hby d6_5) rfl ?_
    refine XS.icmpNo X14.here hx rfl (hb hby d6_7) rfl (tlt (by decide : (1 : Int32) < (2 : Int32))).2.1 ?_
    show oS p e below T14 (mkF m 10 #[oR a1, oI 1, oR t1, oI 1, oI 2, oI 1, oI c0] []) _
    refine XS.aloadN X14.here hx rfl (hb hby d6_10) rfl rfl ?_
    refine XS.iloadN X14.here hx rfl (hb hby d6_11) rfl ?_
    exact k)
  obtain ⟨cl19, Ar19, qc19, Sz19, Nn19, Hs19, Gs19⟩ := id f15
  have hin19 := inb_of (j := (1 : Int32)) Sz19 ⟨by decide, by decide⟩
  have pre20 : oL p e below T14 (mkF m 31 #[oR a1, oI 1, oR t1, oI 1, oI 2, oI 1, oI c1] [oi (c1.toInt8.toInt32), oi 1, ow t1]) s₁ (entryFrame m #[(.ref a1), (.int (0 : Int32)), (.ref t1), (.int (0 : Int32)), (.int (2 : Int32))] 7) := fun t k => pre18 t (by
    refine X14.caload hx (j := (1 : Int32)) (v := (.int c1)) (by rw [e14]; exact Ar19.1) (State.isArrayOf_alike hZ.alike Ar19.2.1) Ar19.2.2 hin19 (Hs19.at hin19 rfl) (g := (mkF m 12 #[oR a1, oI 1, oR t1, oI 1, oI 2, oI 1, oI c0] [oi 1, ow a1])) rfl rfl (hb hby d6_12) _ ?_
    refine XS.istore X14.here hx rfl (hb hby d6_13) rfl (l' := #[oR a1, oI 1, oR t1, oI 1, oI 2, oI 1, oI c1]) rfl ?_
    show oS p e below T14 (mkF m 15 #[oR a1, oI 1, oR t1, oI 1, oI 2, oI 1, oI c1] []) _
    refine XS.iload X14.here hx rfl (hb hby d6_15) rfl ?_
    refine XS.sipush X14.here hx rfl (hb hby d6_17) ?_
    refine XS.icmpYes X14.here hx rfl (pc0 := 20) (pc' := 26) rfl (hb hby d6_20) rfl (flt hl1).2.2.2 (by decide) (by decide) ?_
    refine XS.aloadN X14.here hx rfl (hb hby d6_26) rfl rfl ?_
    show oS p e below T14 (mkF m 27 #[oR a1, oI 1, oR t1, oI 1, oI 2, oI 1, oI c1] [ow t1]) _
    refine XS.iloadN X14.here hx rfl (hb hby d6_27) rfl ?_
    refine XS.iload X14.here hx rfl (hb hby d6_28) rfl ?_
    refine XS.i2b X14.here hx rfl (hb hby d6_30) rfl ?_
    exact k)
  obtain ⟨cl21, Ar21, qc21, Sz21, Nn21, Hs21, Gs21⟩ := id V14
  obtain ⟨T21, h21, X21, e21, W21, st21⟩ := stB X14 hx hZ e14 Ar21 (j := (1 : Int32)) (inb_of Sz21 ⟨by decide, by decide⟩) (g := (mkF m 31 #[oR a1, oI 1, oR t1, oI 1, oI 2, oI 1, oI c1] [oi (c1.toInt8.toInt32), oi 1, ow t1])) rfl rfl (hb hby d6_31)
  have V21 : Arv Z h21 t1 k2 .byte (2 : Int32) [(.int (nar .byte (c0.toInt8.toInt32))), (.int (nar .byte (c1.toInt8.toInt32)))] (.int (0 : Int32)) := Arv.set Ar21 qc21 Sz21 Nn21 Hs21 Gs21 (fits_nar_byte _) W21 1 rfl (Nat.le_of_ble_eq_true rfl)
  have N21 := Fr.snoc X21 N14 ge1
  have f22 := f15.other W21 ne1
  have OL23 := OL16.wr W21 ge1
  have K24 : Keep h0 h21 [t1] := K17.wr W21 (Or.inl (List.mem_of_getElem? (i := 0) rfl))
  have pre25 : oL p e below T21 (mkF m 46 #[oR a1, oI 2, oR t1, oI 2, oI 2, oI 2, oI c1] [oi 2]) s₁ (entryFrame m #[(.ref a1), (.int (0 : Int32)), (.ref t1), (.int (0 : Int32)), (.int (2 : Int32))] 7) := fun t k => pre20 t (by
    refine st21 _ ?_
    show oS p e below T21 (mkF m 32 #[oR a1, oI 1, oR t1, oI 1, oI 2, oI 1, oI c1] []) _
    refine XS.iinc X21.here hx rfl (hb hby d6_32) rfl (l' := #[oR a1, oI 2, oR t1, oI 1, oI 2, oI 1, oI c1]) rfl ?_
    refine XS.iinc X21.here hx rfl (hb hby d6_35) rfl (l' := #[oR a1, oI 2, oR t1, oI 2, oI 2, oI 1, oI c1]) rfl ?_
    refine XS.iinc X21.here hx rfl (hb hby d6_38) rfl (l' := #[oR a1, oI 2, oR t1, oI 2, oI 2, oI 2, oI c1]) rfl ?_
    refine XS.goto X21.here hx rfl (pc0 := 41) (pc' := 3) rfl (hb hby d6_41) (by decide) (by decide) ?_
    show oS p e below T21 (mkF m 3 #[oR a1, oI 2, oR t1, oI 2, oI 2, oI 2, oI c1] []) _
    refine XS.iload X21.here hx rfl (hb hby d6_3) rfl ?_
    refine XS.iload X21.here hx rfl (hb hby d6_5) rfl ?_
    refine XS.icmpYes X21.here hx rfl (pc0 := 7) (pc' := 44) rfl (hb hby d6_7) rfl (flt (by decide : ¬ ((2 : Int32) < (2 : Int32)))).2.1 (by decide) (by decide) ?_
    refine XS.iload X21.here hx rfl (hb hby d6_44) rfl ?_
    show oS p e below T21 (mkF m 46 #[oR a1, oI 2, oR t1, oI 2, oI 2, oI 2, oI c1] [oi 2]) _
    exact k)
  obtain ⟨fs, hr, hrun, hended, hW, hsame⟩ := X21.leave (v := some (.int (2 : Int32))) (fun h => by rw [Bd.returns] at h; cases h)
  refine ⟨_, _, pre25 _ ?_, hrun, hended, _, _, rfl, ?_, ⟨_, rfl⟩, hW, hsame.mono (by decide) (by decide)⟩
  ·
    show oS p e below T21 (mkF m 46 #[oR a1, oI 2, oR t1, oI 2, oI 2, oI 2, oI c1] [oi 2]) _
    exact retI X21 hx Bd.returns (hb hby d6_46) hr
  ·
    show Q_rm_c5_2_2 Z a1 k1 t1 k2 c0 c1 h0 n0 _ T21.heap _
    rw [e21]
    exact ⟨rfl, N21, K24, V21⟩
def Q_rm_cmp_2_2 (Z : State) (a1 : Addr) (k1 : ClassId) (c0 : Int32) (c1 : Int32) (h0 : Heap) (n0 : Nat) (v : Option Value) (h : Heap) (L : List Loc) : Prop := ∃ (r : Addr) (kr : ClassId), v = some (.ref r) ∧ Fr n0 L ∧ Keep h0 h [] ∧ h0.size ≤ r ∧ Arv Z h r kr .byte (2 : Int32) [(.int (nar .byte (c0.toInt8.toInt32))), (.int (nar .byte (c1.toInt8.toInt32)))] (.int (0 : Int32))
set_option maxRecDepth 65536 in
set_option maxHeartbeats 40000000 in
theorem rm_cmp_2_2 (l : Launch) (Z : State) (a0 : Array Value) (hw : ∀ d ∈ tables_1, d.before a0 Z = true) (ws : List Jvm.Cond) (a1 : Addr) (k1 : ClassId) (c0 : Int32) (c1 : Int32) (h0 : Heap) (n0 : Nat) (OL : Old Z n0 h0) (AD : Sta Z Z.heap "java/lang/StringUTF16" "$assertionsDisabled" "Z" (.int (1 : Int32))) (HB : Sta Z Z.heap "java/lang/StringUTF16" "HI_BYTE_SHIFT" "I" (.int (0 : Int32))) (LB : Sta Z Z.heap "java/lang/StringUTF16" "LO_BYTE_SHIFT" "I" (.int (8 : Int32))) (V1 : Arv Z h0 a1 k1 .char (2 : Int32) [(.int c0), (.int c1)] (.int (0 : Int32))) (hl0 : ¬ ((255 : Int32) < c0)) (hl1 : ¬ ((255 : Int32) < c1)) (nc0 : nar .char c0 = c0) (nc1 : nar .char c1 = c1) :
    MetFree l (⟨"java/lang/StringUTF16", "compress", "([CII)[B"⟩ : MethodName) (head1 (Jvm.Cond.code (⟨"java/lang/StringUTF16", "compress", "([CII)[B"⟩ : MethodName) jdk_52_method_16_code 6 (some (.array .byte)) :: ws) ({ frames := 1, cells := 1, slots := 2, locals := 18 } : Room)) (fun a U => a = #[(.ref a1), (.int (0 : Int32)), (.int (2 : Int32))] ∧ Z.Warmed39 U.vm ∧ U.heap = h0) (fun _ _ _ _ _ => True) (fun _ U o U' => ∃ v L, o = .returned v ∧ Q_rm_cmp_2_2 Z a1 k1 c0 c1 h0 n0 v U'.heap L ∧ FrameEnd U o U' L ({ frames := 1, cells := 1, slots := 2, locals := 18 } : Room).cells ({ frames := 1, cells := 1, slots := 2, locals := 18 } : Room).slots) := by
  refine MetFree.of_bodySF (plainFor_of_name pn_java_lang_StringUTF16) hisR ?_
  intro p e s m args below meth c s₁ Bd hml0 hP hK
  obtain ⟨rfl, hZ, hh⟩ := hP
  have hx := Bd.exec
  have hby := Bd.bytes
  have hml : c.maxLocals = 6 := hml0
  have hown : s.vm.findClass "java/lang/StringUTF16" = some m.cls := findClass_of_methodNamed Bd.named
  have hnm := (name_of_methodNamed Bd.named Bd.method).1
  have X0 : Stand p l e ({ frames := 1, cells := 1, slots := 2, locals := 18 } : Room) s m #[(.ref a1), (.int (0 : Int32)), (.int (2 : Int32))] below meth c s₁ [] 0 0 := Stand.of_body Bd
  have e0 : s₁.heap = h0 := by rw [← hh, Bd.state]; rfl
  have N0 := Fr.nil n0
  have pre0 : oL p e below s₁ (mkF m 0 #[oR a1, oI 0, oI 2, oU, oU, oU] []) s₁ (entryFrame m #[(.ref a1), (.int (0 : Int32)), (.int (2 : Int32))] 6) := fun t k => castTop (by first | (simp [entryFrame, mkF, argsToLocals, Value.category]; done) | rfl) k
  have pre11 : oL p e below s₁ (mkF m 1 #[oR a1, oI 0, oI 2, oU, oU, oU] [oi 2]) s₁ (entryFrame m #[(.ref a1), (.int (0 : Int32)), (.int (2 : Int32))] 6) := fun t k => pre0 t (by
    refine XS.iloadN X0.here hx rfl (hb hby d5_0) rfl ?_
    exact k)
  obtain ⟨T12, h12, k12, X12, e12, E12, A12, st12⟩ := newP X0 hx hZ (oW hw 26 rfl) e0 (g := (mkF m 1 #[oR a1, oI 0, oI 2, oU, oU, oU] [oi 2])) rfl (hb hby d5_1) rfl (by decide) (cap := 2) (by decide) (by decide) (by decide) (by decide)
  obtain ⟨b12, g12⟩ : ∃ z, z = h0.size := ⟨_, rfl⟩
  rw [← g12] at A12 st12
  have ne13 : a1 ≠ b12 := Nat.ne_of_lt (Nat.lt_of_lt_of_le V1.lt (Nat.le_of_eq g12.symm))
  have ge_b12 : n0 ≤ b12 := Nat.le_trans (OL.1 ▸ OL.2.1) (Nat.le_of_eq g12.symm)
  have sz_b12 : h0.size ≤ b12 := Nat.le_trans (Keep.refl h0 []).1 (Nat.le_of_eq g12.symm)
  have f14 := V1.ext E12
  have OL15 := OL.ext E12
  have K16 : Keep h0 h12 [] := (Keep.refl h0 []).ext E12
  have V12 : Arv Z h12 b12 k12 .byte (2 : Int32) [(.int (0 : Int32)), (.int (0 : Int32))] (.int (0 : Int32)) := (Arv.new A12 (by decide)).pad (pad_rep [] (.int (0 : Int32)) 2)
  have pre17 : oL p e below T12 (mkF m 9 #[oR a1, oI 0, oI 2, oR b12, oU, oU] [oi 2, oi 0, ow b12, oi 0, ow a1]) s₁ (entryFrame m #[(.ref a1), (.int (0 : Int32)), (.int (2 : Int32))] 6) := fun t k => pre11 t (by
    refine st12 _ ?_
    refine XS.astoreN X12.here hx rfl (hb hby d5_3) rfl rfl (l' := #[oR a1, oI 0, oI 2, oR b12, oU, oU]) rfl ?_
    refine XS.aloadN X12.here hx rfl (hb hby d5_4) rfl rfl ?_
    show oS p e below T12 (mkF m 5 #[oR a1, oI 0, oI 2, oR b12, oU, oU] [ow a1]) _
    refine XS.iloadN X12.here hx rfl (hb hby d5_5) rfl ?_
    refine XS.aloadN X12.here hx rfl (hb hby d5_6) rfl rfl ?_
    refine XS.iconst X12.here hx rfl (hb hby d5_7) ?_
    refine XS.iloadN X12.here hx rfl (hb hby d5_8) rfl ?_
    show oS p e below T12 (mkF m 9 #[oR a1, oI 0, oI 2, oR b12, oU, oU] [oi 2, oi 0, ow b12, oi 0, ow a1]) _
    exact k)
  obtain ⟨_, _, ⟨T18, L18, k18, n18⟩, -, X18, ⟨Lc18, hQ18, l18, y18, z18⟩, st18⟩ := Jvm.LawKit.callS X12 hx (y := (⟨"java/lang/StringUTF16", "compress", "([CI[BII)I"⟩ : MethodName)) hown (mvT hZ (oW hw 27 rfl)) (mvT hZ (oW hw 28 rfl)) (mvT hZ (oW hw 24 rfl)) (mvT hZ (oW hw 29 rfl)) (by decide) (backOf (W := 0) (rm_c5_2_2 l Z a0 hw [] a1 k1 b12 k12 c0 c1 h12 n0 OL15 ge_b12 f14 V12 ne13 hl0 hl1) hZ (oW hw 29 rfl) (oW hw 24 rfl) (by decide) (by decide)) (g := (mkF m 9 #[oR a1, oI 0, oI 2, oR b12, oU, oU] [oi 2, oi 0, ow b12, oi 0, ow a1])) rfl (by rw [hml]; rfl) (argsL := [(.ref a1), (.int (0 : Int32)), (.ref b12), (.int (0 : Int32)), (.int (2 : Int32))]) (rest := []) (lenOf pd___CI_BII_I rfl) rfl (by show 2 * 0 + _ ≤ _; exact Nat.le_of_eq rfl) (hb hby d5_9) (fun _ _ => ⟨rfl, e12, (by decide : 1 + 0 ≤ _), (by decide : 2 + 0 ≤ _)⟩)
  dsimp only [Pt.U, Pt.locs, Pt.cells, Pt.slots] at X18 l18 y18 z18 st18 hQ18
  subst l18 y18 z18
  obtain ⟨rfl, N18q, Kq18, Va18⟩ := hQ18
  have N18 := Fr.app N0 N18q
  have f19 := f14.keep Kq18 (ninS ne13 nin0)
  have OL20 := OL15.keep Kq18 (allS ge_b12 all0)
  have K21 : Keep h0 T18.heap [] := K16.trans Kq18 (allS (Or.inr sz_b12) all0)
  have pre22 : oL p e below T18 (mkF m 58 #[oR a1, oI 0, oI 2, oR b12, oI 2, oU] [ow b12]) s₁ (entryFrame m #[(.ref a1), (.int (0 : Int32)), (.int (2 : Int32))] 6) := fun t k => pre17 t (by
    refine st18 _ ?_
    refine XS.istore X18.here hx rfl (hb hby d5_12) rfl (l' := #[oR a1, oI 0, oI 2, oR b12, oI 2, oU]) rfl ?_
    refine XS.iload X18.here hx rfl (hb hby d5_14) rfl ?_
    refine XS.iloadN X18.here hx rfl (hb hby d5_16) rfl ?_
    show oS p e below T18 (mkF m 17 #[oR a1, oI 0, oI 2, oR b12, oI 2, oU] [oi 2, oi 2]) _
    refine XS.icmpYes X18.here hx rfl (pc0 := 17) (pc' := 57) rfl (hb hby d5_17) rfl (teq (by decide : (2 : Int32) = (2 : Int32))).1 (by decide) (by decide) ?_
    refine XS.aloadN X18.here hx rfl (hb hby d5_57) rfl rfl ?_
    exact k)
  obtain ⟨fs, hr, hrun, hended, hW, hsame⟩ := X18.leave (v := some (.ref b12)) (fun h => by rw [Bd.returns] at h; cases h)
  refine ⟨_, _, pre22 _ ?_, hrun, hended, _, _, rfl, ?_, ⟨_, rfl⟩, hW, hsame.mono (by decide) (by decide)⟩
  ·
    show oS p e below T18 (mkF m 58 #[oR a1, oI 0, oI 2, oR b12, oI 2, oU] [ow b12]) _
    jvm_step X18.here [X18.here.top, hx, (hb hby d5_58), X18.method', Bd.returns, Value.isRef, FieldType.isReference]
    first | (intro acts; rw [hr _ acts rfl rfl rfl]) | rw [hr _ _ rfl rfl rfl]
    exact Steps.refl _
  ·
    show Q_rm_cmp_2_2 Z a1 k1 c0 c1 h0 n0 _ T18.heap _
    exact ⟨b12, k12, rfl, N18, K21, sz_b12, Va18⟩
set_option maxRecDepth 65536 in
set_option maxHeartbeats 40000000 in
theorem rm_si_2_2 (l : Launch) (Z : State) (a0 : Array Value) (hw : ∀ d ∈ tables_1, d.before a0 Z = true) (ws : List Jvm.Cond) (a1 : Addr) (a2 : Addr) (k2 : ClassId) (G1 : Int32) (c0 : Int32) (c1 : Int32) (h0 : Heap) (n0 : Nat) (OL : Old Z n0 h0) (AD : Sta Z Z.heap "java/lang/StringUTF16" "$assertionsDisabled" "Z" (.int (1 : Int32))) (HB : Sta Z Z.heap "java/lang/StringUTF16" "HI_BYTE_SHIFT" "I" (.int (0 : Int32))) (LB : Sta Z Z.heap "java/lang/StringUTF16" "LO_BYTE_SHIFT" "I" (.int (8 : Int32))) (O2 : Sta Z Z.heap "java/lang/String" "COMPACT_STRINGS" "Z" (.int G1)) (P5 : ¬ (G1 = (0 : Int32))) (ge1 : n0 ≤ a1) (E1 : Exa Z h0 a1 "java/lang/String") (F1 : Fld Z h0 a1 "java/lang/String" "value" "[B" .null) (F2 : Fld Z h0 a1 "java/lang/String" "coder" "B" (.int (0 : Int32))) (V2 : Arv Z h0 a2 k2 .char (2 : Int32) [(.int c0), (.int c1)] (.int (0 : Int32))) (hl0 : ¬ ((255 : Int32) < c0)) (hl1 : ¬ ((255 : Int32) < c1)) (nc0 : nar .char c0 = c0) (nc1 : nar .char c1 = c1) :
    MetFree l (⟨"java/lang/String", "<init>", "([CIILjava/lang/Void;)V"⟩ : MethodName) (head1 (Jvm.Cond.code (⟨"java/lang/String", "<init>", "([CIILjava/lang/Void;)V"⟩ : MethodName) jdk_42_method_149_code 6 none :: ws) ({ frames := 4, cells := 2, slots := 6, locals := 57 } : Room)) (fun a U => a = #[(.ref a1), (.ref a2), (.int (0 : Int32)), (.int (2 : Int32)), .null] ∧ Z.Warmed39 U.vm ∧ U.heap = h0) (fun _ _ _ _ _ => True) (fun _ U o U' => ∃ v L, o = .returned v ∧ Q_S2 Z a1 a2 k2 G1 c0 c1 h0 n0 v U'.heap L ∧ FrameEnd U o U' L ({ frames := 4, cells := 2, slots := 6, locals := 57 } : Room).cells ({ frames := 4, cells := 2, slots := 6, locals := 57 } : Room).slots) := by
  refine MetFree.of_bodySF (plainFor_of_name pn_java_lang_String) hisR ?_
  intro p e s m args below meth c s₁ Bd hml0 hP hK
  obtain ⟨rfl, hZ, hh⟩ := hP
  have hx := Bd.exec
  have hby := Bd.bytes
  have hml : c.maxLocals = 6 := hml0
  have hown : s.vm.findClass "java/lang/String" = some m.cls := findClass_of_methodNamed Bd.named
  have hnm := (name_of_methodNamed Bd.named Bd.method).1
  have X0 : Stand p l e ({ frames := 4, cells := 2, slots := 6, locals := 57 } : Room) s m #[(.ref a1), (.ref a2), (.int (0 : Int32)), (.int (2 : Int32)), .null] below meth c s₁ [] 0 0 := Stand.of_body Bd
  have e0 : s₁.heap = h0 := by rw [← hh, Bd.state]; rfl
  have N0 := Fr.nil n0
  have pre0 : oL p e below s₁ (mkF m 0 #[oR a1, oR a2, oI 0, oI 2, oN, oU] []) s₁ (entryFrame m #[(.ref a1), (.ref a2), (.int (0 : Int32)), (.int (2 : Int32)), .null] 6) := fun t k => castTop (by first | (simp [entryFrame, mkF, argsToLocals, Value.category]; done) | rfl) k
  have own_ne : a2 ≠ a1 := (Exa.neArv E1 V2 (oW hw 9 rfl)).symm
  have pre11 : oL p e below s₁ (mkF m 1 #[oR a1, oR a2, oI 0, oI 2, oN, oU] [ow a1]) s₁ (entryFrame m #[(.ref a1), (.ref a2), (.int (0 : Int32)), (.int (2 : Int32)), .null] 6) := fun t k => pre0 t (by
    refine XS.aloadN X0.here hx rfl (hb hby d3_0) rfl rfl ?_
    exact k)
  obtain ⟨T12, X12, e12, st12⟩ := initO X0 hx hZ hown (oW hw 18 rfl) (oW hw 19 rfl) (oW hw 20 rfl) e0 (g := (mkF m 1 #[oR a1, oR a2, oI 0, oI 2, oN, oU] [ow a1])) rfl (by rw [hml]; rfl) rfl (hb hby d3_1) (by decide) (W := 0) (by show 2 * 0 + _ ≤ _; exact Nat.le_of_eq rfl) (by decide)
  have pre13 : oL p e below T12 (mkF m 27 #[oR a1, oR a2, oI 0, oI 2, oN, oU] []) s₁ (entryFrame m #[(.ref a1), (.ref a2), (.int (0 : Int32)), (.int (2 : Int32)), .null] 6) := fun t k => pre11 t (by
    refine st12 _ ?_
    refine XS.iloadN X12.here hx rfl (hb hby d3_4) rfl ?_
    refine XS.ifYes X12.here hx rfl (pc0 := 5) (pc' := 27) rfl (hb hby d3_5) rfl ((if0 _ _).trans (feq (by decide : ¬ ((2 : Int32) = (0 : Int32)))).2) (by decide) (by decide) ?_
    show oS p e below T12 (mkF m 27 #[oR a1, oR a2, oI 0, oI 2, oN, oU] []) _
    exact k)
  obtain ⟨T14, X14, e14, st14⟩ := getS2 X12 hx hZ hown (host := "") (Or.inl (oW hw 21 rfl)) Via.refl e12 (O2.ext OL.2) (g := (mkF m 27 #[oR a1, oR a2, oI 0, oI 2, oN, oU] [])) rfl (hb hby d3_27)
  have pre15 : oL p e below T14 (mkF m 36 #[oR a1, oR a2, oI 0, oI 2, oN, oU] [oi 2, oi 0, ow a2]) s₁ (entryFrame m #[(.ref a1), (.ref a2), (.int (0 : Int32)), (.int (2 : Int32)), .null] 6) := fun t k => pre13 t (by
    refine st14 _ ?_
    refine XS.ifNo X14.here hx rfl (hb hby d3_30) rfl ((if0 _ _).trans (feq P5).1) ?_
    refine XS.aloadN X14.here hx rfl (hb hby d3_33) rfl rfl ?_
    refine XS.iloadN X14.here hx rfl (hb hby d3_34) rfl ?_
    show oS p e below T14 (mkF m 35 #[oR a1, oR a2, oI 0, oI 2, oN, oU] [oi 0, ow a2]) _
    refine XS.iloadN X14.here hx rfl (hb hby d3_35) rfl ?_
    exact k)
  obtain ⟨_, _, ⟨T16, L16, k16, n16⟩, -, X16, ⟨Lc16, hQ16, l16, y16, z16⟩, st16⟩ := Jvm.LawKit.callS X14 hx (y := (⟨"java/lang/StringUTF16", "compress", "([CII)[B"⟩ : MethodName)) hown (mvT hZ (oW hw 22 rfl)) (mvT hZ (oW hw 23 rfl)) (mvT hZ (oW hw 24 rfl)) (mvT hZ (oW hw 25 rfl)) (by decide) (backOf (W := 0) (rm_cmp_2_2 l Z a0 hw [] a2 k2 c0 c1 h0 n0 OL AD HB LB V2 hl0 hl1 nc0 nc1) hZ (oW hw 25 rfl) (oW hw 24 rfl) (by decide) (by decide)) (g := (mkF m 36 #[oR a1, oR a2, oI 0, oI 2, oN, oU] [oi 2, oi 0, ow a2])) rfl (by rw [hml]; rfl) (argsL := [(.ref a2), (.int (0 : Int32)), (.int (2 : Int32))]) (rest := []) (lenOf pd___CII__B rfl) rfl (by show 2 * 0 + _ ≤ _; exact Nat.le_of_eq rfl) (hb hby d3_36) (fun _ _ => ⟨rfl, e14, (by decide : 0 + 1 ≤ _), (by decide : 0 + 2 ≤ _)⟩)
  dsimp only [Pt.U, Pt.locs, Pt.cells, Pt.slots] at X16 l16 y16 z16 st16 hQ16
  subst l16 y16 z16
  obtain ⟨r16, kr16, rfl, N16q, Kq16, sq16, Va16⟩ := hQ16
  have N16 := Fr.app N0 N16q
  have ne17 : a1 ≠ r16 := Nat.ne_of_lt (Nat.lt_of_lt_of_le E1.lt sq16)
  have ne18 : a2 ≠ r16 := Nat.ne_of_lt (Nat.lt_of_lt_of_le V2.lt sq16)
  have ge_r16 : n0 ≤ r16 := Nat.le_trans (OL.1 ▸ OL.2.1) sq16
  have sz_r16 : h0.size ≤ r16 := Nat.le_trans (Keep.refl h0 [a1]).1 sq16
  have f19 := E1.keep Kq16
  have f20 := F1.keep Kq16 nin0
  have f21 := F2.keep Kq16 nin0
  have f22 := V2.keep Kq16 nin0
  have OL23 := OL.keep Kq16 all0
  have K24 : Keep h0 T16.heap [a1] := (Keep.refl h0 [a1]).trans Kq16 all0
  have pre25 : oL p e below T16 (mkF m 45 #[oR a1, oR a2, oI 0, oI 2, oN, oR r16] [oi 2, ow r16, ow a1]) s₁ (entryFrame m #[(.ref a1), (.ref a2), (.int (0 : Int32)), (.int (2 : Int32)), .null] 6) := fun t k => pre15 t (by
    refine st16 _ ?_
    refine XS.astore X16.here hx rfl (hb hby d3_39) rfl rfl (l' := #[oR a1, oR a2, oI 0, oI 2, oN, oR r16]) rfl ?_
    refine XS.aloadN X16.here hx rfl (hb hby d3_41) rfl rfl ?_
    show oS p e below T16 (mkF m 42 #[oR a1, oR a2, oI 0, oI 2, oN, oR r16] [ow a1]) _
    refine XS.aload X16.here hx rfl (hb hby d3_42) rfl rfl ?_
    refine XS.iloadN X16.here hx rfl (hb hby d3_44) rfl ?_
    exact k)
  obtain ⟨_, _, ⟨T26, L26, k26, n26⟩, -, X26, ⟨Lc26, hQ26, l26, y26, z26⟩, st26⟩ := Jvm.LawKit.callS X16 hx (y := (⟨"java/lang/StringUTF16", "coderFromArrayLen", "([BI)B"⟩ : MethodName)) hown (mvT hZ (oW hw 30 rfl)) (mvT hZ (oW hw 31 rfl)) (mvT hZ (oW hw 24 rfl)) (mvT hZ (oW hw 32 rfl)) (by decide) (backOf (W := 1) (rm_cfl2L l Z a0 hw [] r16 kr16 (nar .byte (c0.toInt8.toInt32)) (nar .byte (c1.toInt8.toInt32)) T16.heap n0 OL23 Va16) hZ (oW hw 32 rfl) (oW hw 24 rfl) (by decide) (by decide)) (g := (mkF m 45 #[oR a1, oR a2, oI 0, oI 2, oN, oR r16] [oi 2, ow r16, ow a1])) rfl (by rw [hml]; rfl) (argsL := [(.ref r16), (.int (2 : Int32))]) (rest := [(.ref a1)]) (lenOf pd___BI_B rfl) rfl (by show 2 * 0 + _ ≤ _; exact Nat.le_of_eq rfl) (hb hby d3_45) (fun _ _ => ⟨rfl, rfl, (by decide : 1 + 0 ≤ _), (by decide : 2 + 0 ≤ _)⟩)
  dsimp only [Pt.U, Pt.locs, Pt.cells, Pt.slots] at X26 l26 y26 z26 st26 hQ26
  subst l26 y26 z26
  obtain ⟨rfl, N26q, e26⟩ := hQ26
  have N26 := Fr.app N16 N26q
  have pre27 : oL p e below T26 (mkF m 48 #[oR a1, oR a2, oI 0, oI 2, oN, oR r16] [oi 0, ow a1]) s₁ (entryFrame m #[(.ref a1), (.ref a2), (.int (0 : Int32)), (.int (2 : Int32)), .null] 6) := fun t k => pre25 t (by
    refine st26 _ ?_
    exact k)
  obtain ⟨T28, h28, X28, e28, W28, st28⟩ := putFN X26 hx hZ hown (oW hw 33 rfl) Via.refl e26 f21 f19 (Or.inr ⟨(oW hw 34 rfl), rfl, hnm⟩) (oW hw 9 rfl) (ty := .byte) (v' := (.int (0 : Int32))) (by decide) rfl rfl (g := (mkF m 48 #[oR a1, oR a2, oI 0, oI 2, oN, oR r16] [oi 0, ow a1])) rfl rfl (hb hby d3_48)
  have f29 := f21.same W28
  have N28 := Fr.snoc X28 N26 ge1
  have f30 := f19.wr W28
  have f31 := f20.other W28 (Or.inr (slot_ne (Or.inr (oW hw 36 rfl)) (Or.inr (oW hw 34 rfl)) (by decide) (t := (.array .byte)) (t' := .byte) (by decide) (by decide)))
  have f32 := f22.other W28 own_ne
  have f33 := Va16.other W28 (Ne.symm ne17)
  have OL34 := OL23.wr W28 ge1
  have K35 : Keep h0 h28 [a1] := K24.wr W28 (Or.inl (List.mem_of_getElem? (i := 0) rfl))
  have pre36 : oL p e below T28 (mkF m 54 #[oR a1, oR a2, oI 0, oI 2, oN, oR r16] [ow r16, ow a1]) s₁ (entryFrame m #[(.ref a1), (.ref a2), (.int (0 : Int32)), (.int (2 : Int32)), .null] 6) := fun t k => pre27 t (by
    refine st28 _ ?_
    show oS p e below T28 (mkF m 51 #[oR a1, oR a2, oI 0, oI 2, oN, oR r16] []) _
    refine XS.aloadN X28.here hx rfl (hb hby d3_51) rfl rfl ?_
    refine XS.aload X28.here hx rfl (hb hby d3_52) rfl rfl ?_
    exact k)
  obtain ⟨T37, h37, X37, e37, W37, st37⟩ := putF X28 hx hZ hown (host := "") (Or.inl (oW hw 35 rfl)) Via.refl e28 f31 f30 (Or.inr ⟨(oW hw 36 rfl), rfl, hnm⟩) (oW hw 9 rfl) (ty := (.array .byte)) (by decide) rfl rfl (g := (mkF m 54 #[oR a1, oR a2, oI 0, oI 2, oN, oR r16] [ow r16, ow a1])) rfl rfl (hb hby d3_54)
  have f38 := f31.same W37
  have N37 := Fr.snoc X37 N28 ge1
  have f39 := f30.wr W37
  have f40 := f29.other W37 (Or.inr (slot_ne (Or.inr (oW hw 34 rfl)) (Or.inr (oW hw 36 rfl)) (by decide) (t := .byte) (t' := (.array .byte)) (by decide) (by decide)))
  have f41 := f32.other W37 own_ne
  have f42 := f33.other W37 (Ne.symm ne17)
  have OL43 := OL34.wr W37 ge1
  have K44 : Keep h0 h37 [a1] := K35.wr W37 (Or.inl (List.mem_of_getElem? (i := 0) rfl))
  have pre45 : oL p e below T37 (mkF m 57 #[oR a1, oR a2, oI 0, oI 2, oN, oR r16] []) s₁ (entryFrame m #[(.ref a1), (.ref a2), (.int (0 : Int32)), (.int (2 : Int32)), .null] 6) := fun t k => pre36 t (by
    refine st37 _ ?_
    exact k)
  obtain ⟨fs, hr, hrun, hended, hW, hsame⟩ := X37.leave (v := none) (fun _ => rfl)
  refine ⟨_, _, pre45 _ ?_, hrun, hended, _, _, rfl, ?_, ⟨_, rfl⟩, hW, hsame.mono (by decide) (by decide)⟩
  ·
    show oS p e below T37 (mkF m 57 #[oR a1, oR a2, oI 0, oI 2, oN, oR r16] []) _
    exact X37.returnOut hx Bd.returns (hb hby d3_57) hr
  ·
    show Q_S2 Z a1 a2 k2 G1 c0 c1 h0 n0 _ T37.heap _
    rw [e37]
    exact ⟨rfl, N37, K44, f39, (0 : Int32), r16, kr16, (2 : Int32), [(.int (nar .byte (c0.toInt8.toInt32))), (.int (nar .byte (c1.toInt8.toInt32)))], f40, sz_r16, fun q => ne17 q.symm, f38, f42, Or.inl ⟨rfl, rfl, rfl, hl0, hl1⟩⟩
set_option maxRecDepth 65536 in
set_option maxHeartbeats 40000000 in
theorem rm_s_2_2 (l : Launch) (Z : State) (a0 : Array Value) (hw : ∀ d ∈ tables_1, d.before a0 Z = true) (ws : List Jvm.Cond) (a1 : Addr) (a2 : Addr) (k2 : ClassId) (G1 : Int32) (c0 : Int32) (c1 : Int32) (h0 : Heap) (n0 : Nat) (OL : Old Z n0 h0) (AD : Sta Z Z.heap "java/lang/StringUTF16" "$assertionsDisabled" "Z" (.int (1 : Int32))) (HB : Sta Z Z.heap "java/lang/StringUTF16" "HI_BYTE_SHIFT" "I" (.int (0 : Int32))) (LB : Sta Z Z.heap "java/lang/StringUTF16" "LO_BYTE_SHIFT" "I" (.int (8 : Int32))) (O2 : Sta Z Z.heap "java/lang/String" "COMPACT_STRINGS" "Z" (.int G1)) (P5 : ¬ (G1 = (0 : Int32))) (ge1 : n0 ≤ a1) (E1 : Exa Z h0 a1 "java/lang/String") (F1 : Fld Z h0 a1 "java/lang/String" "value" "[B" .null) (F2 : Fld Z h0 a1 "java/lang/String" "coder" "B" (.int (0 : Int32))) (V2 : Arv Z h0 a2 k2 .char (2 : Int32) [(.int c0), (.int c1)] (.int (0 : Int32))) (hl0 : ¬ ((255 : Int32) < c0)) (hl1 : ¬ ((255 : Int32) < c1)) (nc0 : nar .char c0 = c0) (nc1 : nar .char c1 = c1) :
    MetFree l (⟨"java/lang/String", "<init>", "([C)V"⟩ : MethodName) (head1 (Jvm.Cond.code (⟨"java/lang/String", "<init>", "([C)V"⟩ : MethodName) jdk_42_method_3_code 2 none :: ws) ({ frames := 5, cells := 2, slots := 6, locals := 74 } : Room)) (fun a U => a = #[(.ref a1), (.ref a2)] ∧ Z.Warmed39 U.vm ∧ U.heap = h0) (fun _ _ _ _ _ => True) (fun _ U o U' => ∃ v L, o = .returned v ∧ Q_S2 Z a1 a2 k2 G1 c0 c1 h0 n0 v U'.heap L ∧ FrameEnd U o U' L ({ frames := 5, cells := 2, slots := 6, locals := 74 } : Room).cells ({ frames := 5, cells := 2, slots := 6, locals := 74 } : Room).slots) := by
  refine MetFree.of_bodySF (plainFor_of_name pn_java_lang_String) hisR ?_
  intro p e s m args below meth c s₁ Bd hml0 hP hK
  obtain ⟨rfl, hZ, hh⟩ := hP
  have hx := Bd.exec
  have hby := Bd.bytes
  have hml : c.maxLocals = 2 := hml0
  have hown : s.vm.findClass "java/lang/String" = some m.cls := findClass_of_methodNamed Bd.named
  have hnm := (name_of_methodNamed Bd.named Bd.method).1
  have X0 : Stand p l e ({ frames := 5, cells := 2, slots := 6, locals := 74 } : Room) s m #[(.ref a1), (.ref a2)] below meth c s₁ [] 0 0 := Stand.of_body Bd
  have e0 : s₁.heap = h0 := by rw [← hh, Bd.state]; rfl
  have N0 := Fr.nil n0
  have pre0 : oL p e below s₁ (mkF m 0 #[oR a1, oR a2] []) s₁ (entryFrame m #[(.ref a1), (.ref a2)] 2) := fun t k => castTop (by first | (simp [entryFrame, mkF, argsToLocals, Value.category]; done) | rfl) k
  have own_ne : a2 ≠ a1 := (Exa.neArv E1 V2 (oW hw 9 rfl)).symm
  have pre12 : oL p e below s₁ (mkF m 4 #[oR a1, oR a2] [ow a2, oi 0, ow a2, ow a1]) s₁ (entryFrame m #[(.ref a1), (.ref a2)] 2) := fun t k => pre0 t (by
    refine XS.aloadN X0.here hx rfl (hb hby d2_0) rfl rfl ?_
    refine XS.aloadN X0.here hx rfl (hb hby d2_1) rfl rfl ?_
    refine XS.iconst X0.here hx rfl (hb hby d2_2) ?_
    refine XS.aloadN X0.here hx rfl (hb hby d2_3) rfl rfl ?_
    show oS p e below s₁ (mkF m 4 #[oR a1, oR a2] [ow a2, oi 0, ow a2, ow a1]) _
    exact k)
  obtain ⟨cl11, Ar11, -, Sz11, Nn11, -, -⟩ := id V2
  have pre13 : oL p e below s₁ (mkF m 6 #[oR a1, oR a2] [.null, oi 2, oi 0, ow a2, ow a1]) s₁ (entryFrame m #[(.ref a1), (.ref a2)] 2) := fun t k => pre12 t (by
    refine X0.arraylength hx (by rw [e0]; exact Ar11.1) (State.isArrayOf_alike hZ.alike Ar11.2.1) (g := (mkF m 4 #[oR a1, oR a2] [ow a2, oi 0, ow a2, ow a1])) rfl rfl (hb hby d2_4) _ ?_
    rw [len_of Sz11 Nn11]
    refine XS.aconstNull X0.here hx rfl (hb hby d2_5) ?_
    exact k)
  obtain ⟨_, _, ⟨T14, L14, k14, n14⟩, -, X14, ⟨Lc14, hQ14, l14, y14, z14⟩, st14⟩ := X0.specialBack hx (y := (⟨"java/lang/String", "<init>", "([CIILjava/lang/Void;)V"⟩ : MethodName)) rfl hown (mvT hZ (oW hw 14 rfl)) (mvT hZ (oW hw 15 rfl)) (mvT hZ (oW hw 17 rfl)) (by decide) (backOf (W := 0) (rm_si_2_2 l Z a0 hw [] a1 a2 k2 G1 c0 c1 h0 n0 OL AD HB LB O2 P5 ge1 E1 F1 F2 V2 hl0 hl1 nc0 nc1) hZ (oW hw 17 rfl) (oW hw 10 rfl) (by decide) (by decide)) (g := (mkF m 6 #[oR a1, oR a2] [.null, oi 2, oi 0, ow a2, ow a1])) rfl (by rw [hml]; rfl) (Steps.refl _) (a := a1) (argsL := [(.ref a2), (.int (0 : Int32)), (.int (2 : Int32)), .null]) (rest := []) (lenOf pd___CIILjava_lang_Void__V rfl) rfl (by show 2 * 0 + _ ≤ _; exact Nat.le_of_eq rfl) (hb hby d2_6) (fun _ _ => ⟨rfl, e0, (by decide : 0 + 2 ≤ _), (by decide : 0 + 6 ≤ _)⟩)
  dsimp only [Pt.U, Pt.locs, Pt.cells, Pt.slots] at X14 l14 y14 z14 st14 hQ14
  subst l14 y14 z14
  obtain ⟨rfl, N14q, Kq14, Eq14, cd14, tt14, kb14, Nx14, vs14, Fc14, sq14, nx14, Fv14, Va14, ou14⟩ := hQ14
  have N14 := Fr.app N0 N14q
  have f15 := E1.keep Kq14
  have f16 := V2.keep Kq14 (ninS own_ne nin0)
  have OL17 := OL.keep Kq14 (allS ge1 all0)
  have K18 : Keep h0 T14.heap [a1] := (Keep.refl h0 [a1]).trans Kq14 (allS (Or.inl (List.mem_of_getElem? (i := 0) rfl)) all0)
  have pre19 : oL p e below T14 (mkF m 9 #[oR a1, oR a2] []) s₁ (entryFrame m #[(.ref a1), (.ref a2)] 2) := fun t k => pre13 t (by
    refine st14.trans ?_
    exact k)
  obtain ⟨fs, hr, hrun, hended, hW, hsame⟩ := X14.leave (v := none) (fun _ => rfl)
  refine ⟨_, _, pre19 _ ?_, hrun, hended, _, _, rfl, ?_, ⟨_, rfl⟩, hW, hsame.mono (by decide) (by decide)⟩
  ·
    show oS p e below T14 (mkF m 9 #[oR a1, oR a2] []) _
    exact X14.returnOut hx Bd.returns (hb hby d2_9) hr
  ·
    show Q_S2 Z a1 a2 k2 G1 c0 c1 h0 n0 _ T14.heap _
    exact ⟨rfl, N14, K18, Eq14, cd14, tt14, kb14, Nx14, vs14, Fc14, Nat.le_trans (Keep.refl h0 [a1]).1 sq14, nx14, Fv14, Va14, ou14⟩
theorem rm_S2 (l : Launch) (Z : State) (a0 : Array Value) (hw : ∀ d ∈ tables_1, d.before a0 Z = true) (ws : List Jvm.Cond) (a1 : Addr) (a2 : Addr) (k2 : ClassId) (G1 : Int32) (c0 : Int32) (c1 : Int32) (h0 : Heap) (n0 : Nat) (OL : Old Z n0 h0) (AD : Sta Z Z.heap "java/lang/StringUTF16" "$assertionsDisabled" "Z" (.int (1 : Int32))) (HB : Sta Z Z.heap "java/lang/StringUTF16" "HI_BYTE_SHIFT" "I" (.int (0 : Int32))) (LB : Sta Z Z.heap "java/lang/StringUTF16" "LO_BYTE_SHIFT" "I" (.int (8 : Int32))) (O2 : Sta Z Z.heap "java/lang/String" "COMPACT_STRINGS" "Z" (.int G1)) (P5 : ¬ (G1 = (0 : Int32))) (ge1 : n0 ≤ a1) (E1 : Exa Z h0 a1 "java/lang/String") (F1 : Fld Z h0 a1 "java/lang/String" "value" "[B" .null) (F2 : Fld Z h0 a1 "java/lang/String" "coder" "B" (.int (0 : Int32))) (V2 : Arv Z h0 a2 k2 .char (2 : Int32) [(.int c0), (.int c1)] (.int (0 : Int32))) (nc0 : nar .char c0 = c0) (nc1 : nar .char c1 = c1) :
    MetFree l (⟨"java/lang/String", "<init>", "([C)V"⟩ : MethodName) (head1 (Jvm.Cond.code (⟨"java/lang/String", "<init>", "([C)V"⟩ : MethodName) jdk_42_method_3_code 2 none :: ws) ({ frames := 5, cells := 2, slots := 6, locals := 74 } : Room)) (fun a U => a = #[.ref a1, .ref a2] ∧ Z.Warmed39 U.vm ∧ U.heap = h0) (fun _ _ _ _ _ => True) (fun _ U o U' => ∃ v L, o = .returned v ∧ Q_S2 Z a1 a2 k2 G1 c0 c1 h0 n0 v U'.heap L ∧ FrameEnd U o U' L ({ frames := 5, cells := 2, slots := 6, locals := 74 } : Room).cells ({ frames := 5, cells := 2, slots := 6, locals := 74 } : Room).slots) := by
  by_cases q0 : (255 : Int32) < c0
  · exact rm_s_2_0 l Z a0 hw ws a1 a2 k2 G1 c0 c1 h0 n0 OL AD HB LB O2 P5 ge1 E1 F1 F2 V2  q0 nc0 nc1
  by_cases q1 : (255 : Int32) < c1
  · exact rm_s_2_1 l Z a0 hw ws a1 a2 k2 G1 c0 c1 h0 n0 OL AD HB LB O2 P5 ge1 E1 F1 F2 V2 q0 q1 nc0 nc1
  exact rm_s_2_2 l Z a0 hw ws a1 a2 k2 G1 c0 c1 h0 n0 OL AD HB LB O2 P5 ge1 E1 F1 F2 V2 q0 q1 nc0 nc1
def Q_rm_put3_0 (Z : State) (t1 : Addr) (k1 : ClassId) (cq : Int32) (y0 : Int32) (y1 : Int32) (y2 : Int32) (y3 : Int32) (y4 : Int32) (y5 : Int32) (h0 : Heap) (n0 : Nat) (v : Option Value) (h : Heap) (L : List Loc) : Prop := v = none ∧ Fr n0 L ∧ Keep h0 h [t1] ∧ Arv Z h t1 k1 .byte (6 : Int32) [(.int (own_hb cq)), (.int (own_lb cq)), (.int y2), (.int y3), (.int y4), (.int y5)] (.int (0 : Int32))
set_option maxRecDepth 65536 in
set_option maxHeartbeats 40000000 in
theorem rm_put3_0 (l : Launch) (Z : State) (a0 : Array Value) (hw : ∀ d ∈ tables_1, d.before a0 Z = true) (ws : List Jvm.Cond) (t1 : Addr) (k1 : ClassId) (cq : Int32) (y0 : Int32) (y1 : Int32) (y2 : Int32) (y3 : Int32) (y4 : Int32) (y5 : Int32) (h0 : Heap) (n0 : Nat) (OL : Old Z n0 h0) (AD : Sta Z Z.heap "java/lang/StringUTF16" "$assertionsDisabled" "Z" (.int (1 : Int32))) (HB : Sta Z Z.heap "java/lang/StringUTF16" "HI_BYTE_SHIFT" "I" (.int (0 : Int32))) (LB : Sta Z Z.heap "java/lang/StringUTF16" "LO_BYTE_SHIFT" "I" (.int (8 : Int32))) (ge1 : n0 ≤ t1) (V1 : Arv Z h0 t1 k1 .byte (6 : Int32) [(.int y0), (.int y1), (.int y2), (.int y3), (.int y4), (.int y5)] (.int (0 : Int32))) :
    MetFree l (⟨"java/lang/StringUTF16", "putChar", "([BII)V"⟩ : MethodName) (head1 (Jvm.Cond.code (⟨"java/lang/StringUTF16", "putChar", "([BII)V"⟩ : MethodName) jdk_52_method_4_code 3 none :: ws) ({ frames := 0, cells := 0, slots := 0, locals := 0 } : Room)) (fun a U => a = #[(.ref t1), (.int (0 : Int32)), (.int cq)] ∧ Z.Warmed39 U.vm ∧ U.heap = h0) (fun _ _ _ _ _ => True) (fun _ U o U' => ∃ v L, o = .returned v ∧ Q_rm_put3_0 Z t1 k1 cq y0 y1 y2 y3 y4 y5 h0 n0 v U'.heap L ∧ FrameEnd U o U' L ({ frames := 0, cells := 0, slots := 0, locals := 0 } : Room).cells ({ frames := 0, cells := 0, slots := 0, locals := 0 } : Room).slots) := by
  refine MetFree.of_bodySF (plainFor_of_name pn_java_lang_StringUTF16) hisR ?_
  intro p e s m args below meth c s₁ Bd hml0 hP hK
  obtain ⟨rfl, hZ, hh⟩ := hP
  have hx := Bd.exec
  have hby := Bd.bytes
  have hml : c.maxLocals = 3 := hml0
  have hown : s.vm.findClass "java/lang/StringUTF16" = some m.cls := findClass_of_methodNamed Bd.named
  have hnm := (name_of_methodNamed Bd.named Bd.method).1
  have X0 : Stand p l e ({ frames := 0, cells := 0, slots := 0, locals := 0 } : Room) s m #[(.ref t1), (.int (0 : Int32)), (.int cq)] below meth c s₁ [] 0 0 := Stand.of_body Bd
  have e0 : s₁.heap = h0 := by rw [← hh, Bd.state]; rfl
  have N0 := Fr.nil n0
  have pre0 : oL p e below s₁ (mkF m 0 #[oR t1, oI 0, oI cq] []) s₁ (entryFrame m #[(.ref t1), (.int (0 : Int32)), (.int cq)] 3) := fun t k => castTop (by first | (simp [entryFrame, mkF, argsToLocals, Value.category]; done) | rfl) k
  obtain ⟨T11, X11, e11, st11⟩ := getS2 X0 hx hZ hown (host := "") (Or.inl (oW hw 73 rfl)) Via.refl e0 (AD.ext OL.2) (g := (mkF m 0 #[oR t1, oI 0, oI cq] [])) rfl (hb hby d14_0)
  have pre12 : oL p e below T11 (mkF m 38 #[oR t1, oI 1, oI cq] [oi cq, oi 0, ow t1]) s₁ (entryFrame m #[(.ref t1), (.int (0 : Int32)), (.int cq)] 3) := fun t k => pre0 t (by
    refine st11 _ ?_
    refine XS.ifYes X11.here hx rfl (pc0 := 3) (pc' := 28) rfl (hb hby d14_3) rfl ((if0 _ _).trans (feq (by decide : ¬ ((1 : Int32) = (0 : Int32)))).2) (by decide) (by decide) ?_
    refine XS.iloadN X11.here hx rfl (hb hby d14_28) rfl ?_
    refine XS.iconst X11.here hx rfl (hb hby d14_29) ?_
    show oS p e below T11 (mkF m 30 #[oR t1, oI 0, oI cq] [oi 1, oi 0]) _
    refine XS.ishl X11.here hx rfl (hb hby d14_30) rfl ?_
    refine XS.istoreN X11.here hx rfl (hb hby d14_31) rfl (l' := #[oR t1, oI 0, oI cq]) rfl ?_
    refine XS.aloadN X11.here hx rfl (hb hby d14_32) rfl rfl ?_
    refine XS.iloadN X11.here hx rfl (hb hby d14_33) rfl ?_
    show oS p e below T11 (mkF m 34 #[oR t1, oI 0, oI cq] [oi 0, ow t1]) _
    refine XS.iinc X11.here hx rfl (hb hby d14_34) rfl (l' := #[oR t1, oI 1, oI cq]) rfl ?_
    refine XS.iloadN X11.here hx rfl (hb hby d14_37) rfl ?_
    exact k)
  obtain ⟨T13, X13, e13, st13⟩ := getS2 X11 hx hZ hown (host := "") (Or.inl (oW hw 74 rfl)) Via.refl e11 (HB.ext OL.2) (g := (mkF m 38 #[oR t1, oI 1, oI cq] [oi cq, oi 0, ow t1])) rfl (hb hby d14_38)
  have pre14 : oL p e below T13 (mkF m 43 #[oR t1, oI 1, oI cq] [oi ((cq >>> ((0 : Int32) &&& 31)).toInt8.toInt32), oi 0, ow t1]) s₁ (entryFrame m #[(.ref t1), (.int (0 : Int32)), (.int cq)] 3) := fun t k => pre12 t (by
    refine st13 _ ?_
    refine XS.ishr X13.here hx rfl (hb hby d14_41) rfl ?_
    show oS p e below T13 (mkF m 42 #[oR t1, oI 1, oI cq] [oi (cq >>> ((0 : Int32) &&& 31)), oi 0, ow t1]) _
    refine XS.i2b X13.here hx rfl (hb hby d14_42) rfl ?_
    exact k)
  obtain ⟨cl15, Ar15, qc15, Sz15, Nn15, Hs15, Gs15⟩ := id V1
  obtain ⟨T15, h15, X15, e15, W15, st15⟩ := stB X13 hx hZ e13 Ar15 (j := (0 : Int32)) (inb_of Sz15 ⟨by decide, by decide⟩) (g := (mkF m 43 #[oR t1, oI 1, oI cq] [oi ((cq >>> ((0 : Int32) &&& 31)).toInt8.toInt32), oi 0, ow t1])) rfl rfl (hb hby d14_43)
  have V15 : Arv Z h15 t1 k1 .byte (6 : Int32) [(.int (nar .byte ((cq >>> ((0 : Int32) &&& 31)).toInt8.toInt32))), (.int y1), (.int y2), (.int y3), (.int y4), (.int y5)] (.int (0 : Int32)) := Arv.set Ar15 qc15 Sz15 Nn15 Hs15 Gs15 (fits_nar_byte _) W15 0 rfl (Nat.le_of_ble_eq_true rfl)
  have N15 := Fr.snoc X15 N0 ge1
  have OL16 := OL.wr W15 ge1
  have K17 : Keep h0 h15 [t1] := (Keep.refl h0 [t1]).wr W15 (Or.inl (List.mem_of_getElem? (i := 0) rfl))
  have pre18 : oL p e below T15 (mkF m 47 #[oR t1, oI 1, oI cq] [oi cq, oi 1, ow t1]) s₁ (entryFrame m #[(.ref t1), (.int (0 : Int32)), (.int cq)] 3) := fun t k => pre14 t (by
    refine st15 _ ?_
    refine XS.aloadN X15.here hx rfl (hb hby d14_44) rfl rfl ?_
    refine XS.iloadN X15.here hx rfl (hb hby d14_45) rfl ?_
    show oS p e below T15 (mkF m 46 #[oR t1, oI 1, oI cq] [oi 1, ow t1]) _
    refine XS.iloadN X15.here hx rfl (hb hby d14_46) rfl ?_
    exact k)
  obtain ⟨T19, X19, e19, st19⟩ := getS2 X15 hx hZ hown (host := "") (Or.inl (oW hw 75 rfl)) Via.refl e15 (LB.ext OL16.2) (g := (mkF m 47 #[oR t1, oI 1, oI cq] [oi cq, oi 1, ow t1])) rfl (hb hby d14_47)
  have pre20 : oL p e below T19 (mkF m 52 #[oR t1, oI 1, oI cq] [oi ((cq >>> ((8 : Int32) &&& 31)).toInt8.toInt32), oi 1, ow t1]) s₁ (entryFrame m #[(.ref t1), (.int (0 : Int32)), (.int cq)] 3) := fun t k => pre18 t (by
    refine st19 _ ?_
    refine XS.ishr X19.here hx rfl (hb hby d14_50) rfl ?_
    refine XS.i2b X19.here hx rfl (hb hby d14_51) rfl ?_
    show oS p e below T19 (mkF m 52 #[oR t1, oI 1, oI cq] [oi ((cq >>> ((8 : Int32) &&& 31)).toInt8.toInt32), oi 1, ow t1]) _
    exact k)
  obtain ⟨cl21, Ar21, qc21, Sz21, Nn21, Hs21, Gs21⟩ := id V15
  obtain ⟨T21, h21, X21, e21, W21, st21⟩ := stB X19 hx hZ e19 Ar21 (j := (1 : Int32)) (inb_of Sz21 ⟨by decide, by decide⟩) (g := (mkF m 52 #[oR t1, oI 1, oI cq] [oi ((cq >>> ((8 : Int32) &&& 31)).toInt8.toInt32), oi 1, ow t1])) rfl rfl (hb hby d14_52)
  have V21 : Arv Z h21 t1 k1 .byte (6 : Int32) [(.int (nar .byte ((cq >>> ((0 : Int32) &&& 31)).toInt8.toInt32))), (.int (nar .byte ((cq >>> ((8 : Int32) &&& 31)).toInt8.toInt32))), (.int y2), (.int y3), (.int y4), (.int y5)] (.int (0 : Int32)) := Arv.set Ar21 qc21 Sz21 Nn21 Hs21 Gs21 (fits_nar_byte _) W21 1 rfl (Nat.le_of_ble_eq_true rfl)
  have N21 := Fr.snoc X21 N15 ge1
  have OL22 := OL16.wr W21 ge1
  have K23 : Keep h0 h21 [t1] := K17.wr W21 (Or.inl (List.mem_of_getElem? (i := 0) rfl))
  have pre24 : oL p e below T21 (mkF m 53 #[oR t1, oI 1, oI cq] []) s₁ (entryFrame m #[(.ref t1), (.int (0 : Int32)), (.int cq)] 3) := fun t k => pre20 t (by
    refine st21 _ ?_
    exact k)
  obtain ⟨fs, hr, hrun, hended, hW, hsame⟩ := X21.leave (v := none) (fun _ => rfl)
  refine ⟨_, _, pre24 _ ?_, hrun, hended, _, _, rfl, ?_, ⟨_, rfl⟩, hW, hsame.mono (by decide) (by decide)⟩
  ·
    show oS p e below T21 (mkF m 53 #[oR t1, oI 1, oI cq] []) _
    exact X21.returnOut hx Bd.returns (hb hby d14_53) hr
  ·
    show Q_rm_put3_0 Z t1 k1 cq y0 y1 y2 y3 y4 y5 h0 n0 _ T21.heap _
    rw [e21]
    exact ⟨rfl, N21, K23, V21⟩
def Q_rm_put3_1 (Z : State) (t1 : Addr) (k1 : ClassId) (cq : Int32) (y0 : Int32) (y1 : Int32) (y2 : Int32) (y3 : Int32) (y4 : Int32) (y5 : Int32) (h0 : Heap) (n0 : Nat) (v : Option Value) (h : Heap) (L : List Loc) : Prop := v = none ∧ Fr n0 L ∧ Keep h0 h [t1] ∧ Arv Z h t1 k1 .byte (6 : Int32) [(.int y0), (.int y1), (.int (own_hb cq)), (.int (own_lb cq)), (.int y4), (.int y5)] (.int (0 : Int32))
set_option maxRecDepth 65536 in
set_option maxHeartbeats 40000000 in
theorem rm_put3_1 (l : Launch) (Z : State) (a0 : Array Value) (hw : ∀ d ∈ tables_1, d.before a0 Z = true) (ws : List Jvm.Cond) (t1 : Addr) (k1 : ClassId) (cq : Int32) (y0 : Int32) (y1 : Int32) (y2 : Int32) (y3 : Int32) (y4 : Int32) (y5 : Int32) (h0 : Heap) (n0 : Nat) (OL : Old Z n0 h0) (AD : Sta Z Z.heap "java/lang/StringUTF16" "$assertionsDisabled" "Z" (.int (1 : Int32))) (HB : Sta Z Z.heap "java/lang/StringUTF16" "HI_BYTE_SHIFT" "I" (.int (0 : Int32))) (LB : Sta Z Z.heap "java/lang/StringUTF16" "LO_BYTE_SHIFT" "I" (.int (8 : Int32))) (ge1 : n0 ≤ t1) (V1 : Arv Z h0 t1 k1 .byte (6 : Int32) [(.int y0), (.int y1), (.int y2), (.int y3), (.int y4), (.int y5)] (.int (0 : Int32))) :
    MetFree l (⟨"java/lang/StringUTF16", "putChar", "([BII)V"⟩ : MethodName) (head1 (Jvm.Cond.code (⟨"java/lang/StringUTF16", "putChar", "([BII)V"⟩ : MethodName) jdk_52_method_4_code 3 none :: ws) ({ frames := 0, cells := 0, slots := 0, locals := 0 } : Room)) (fun a U => a = #[(.ref t1), (.int (1 : Int32)), (.int cq)] ∧ Z.Warmed39 U.vm ∧ U.heap = h0) (fun _ _ _ _ _ => True) (fun _ U o U' => ∃ v L, o = .returned v ∧ Q_rm_put3_1 Z t1 k1 cq y0 y1 y2 y3 y4 y5 h0 n0 v U'.heap L ∧ FrameEnd U o U' L ({ frames := 0, cells := 0, slots := 0, locals := 0 } : Room).cells ({ frames := 0, cells := 0, slots := 0, locals := 0 } : Room).slots) := by
  refine MetFree.of_bodySF (plainFor_of_name pn_java_lang_StringUTF16) hisR ?_
  intro p e s m args below meth c s₁ Bd hml0 hP hK
  obtain ⟨rfl, hZ, hh⟩ := hP
  have hx := Bd.exec
  have hby := Bd.bytes
  have hml : c.maxLocals = 3 := hml0
  have hown : s.vm.findClass "java/lang/StringUTF16" = some m.cls := findClass_of_methodNamed Bd.named
  have hnm := (name_of_methodNamed Bd.named Bd.method).1
  have X0 : Stand p l e ({ frames := 0, cells := 0, slots := 0, locals := 0 } : Room) s m #[(.ref t1), (.int (1 : Int32)), (.int cq)] below meth c s₁ [] 0 0 := Stand.of_body Bd
  have e0 : s₁.heap = h0 := by rw [← hh, Bd.state]; rfl
  have N0 := Fr.nil n0
  have pre0 : oL p e below s₁ (mkF m 0 #[oR t1, oI 1, oI cq] []) s₁ (entryFrame m #[(.ref t1), (.int (1 : Int32)), (.int cq)] 3) := fun t k => castTop (by first | (simp [entryFrame, mkF, argsToLocals, Value.category]; done) | rfl) k
  obtain ⟨T11, X11, e11, st11⟩ := getS2 X0 hx hZ hown (host := "") (Or.inl (oW hw 73 rfl)) Via.refl e0 (AD.ext OL.2) (g := (mkF m 0 #[oR t1, oI 1, oI cq] [])) rfl (hb hby d14_0)
  have pre12 : oL p e below T11 (mkF m 38 #[oR t1, oI 3, oI cq] [oi cq, oi 2, ow t1]) s₁ (entryFrame m #[(.ref t1), (.int (1 : Int32)), (.int cq)] 3) := fun t k => pre0 t (by
    refine st11 _ ?_
    refine XS.ifYes X11.here hx rfl (pc0 := 3) (pc' := 28) rfl (hb hby d14_3) rfl ((if0 _ _).trans (feq (by decide : ¬ ((1 : Int32) = (0 : Int32)))).2) (by decide) (by decide) ?_
    refine XS.iloadN X11.here hx rfl (hb hby d14_28) rfl ?_
    refine XS.iconst X11.here hx rfl (hb hby d14_29) ?_
    show oS p e below T11 (mkF m 30 #[oR t1, oI 1, oI cq] [oi 1, oi 1]) _
    refine XS.ishl X11.here hx rfl (hb hby d14_30) rfl ?_
    refine XS.istoreN X11.here hx rfl (hb hby d14_31) rfl (l' := #[oR t1, oI 2, oI cq]) rfl ?_
    refine XS.aloadN X11.here hx rfl (hb hby d14_32) rfl rfl ?_
    refine XS.iloadN X11.here hx rfl (hb hby d14_33) rfl ?_
    show oS p e below T11 (mkF m 34 #[oR t1, oI 2, oI cq] [oi 2, ow t1]) _
    refine XS.iinc X11.here hx rfl (hb hby d14_34) rfl (l' := #[oR t1, oI 3, oI cq]) rfl ?_
    refine XS.iloadN X11.here hx rfl (hb hby d14_37) rfl ?_
    exact k)
  obtain ⟨T13, X13, e13, st13⟩ := getS2 X11 hx hZ hown (host := "") (Or.inl (oW hw 74 rfl)) Via.refl e11 (HB.ext OL.2) (g := (mkF m 38 #[oR t1, oI 3, oI cq] [oi cq, oi 2, ow t1])) rfl (hb hby d14_38)
  have pre14 : oL p e below T13 (mkF m 43 #[oR t1, oI 3, oI cq] [oi ((cq >>> ((0 : Int32) &&& 31)).toInt8.toInt32), oi 2, ow t1]) s₁ (entryFrame m #[(.ref t1), (.int (1 : Int32)), (.int cq)] 3) := fun t k => pre12 t (by
    refine st13 _ ?_
    refine XS.ishr X13.here hx rfl (hb hby d14_41) rfl ?_
    show oS p e below T13 (mkF m 42 #[oR t1, oI 3, oI cq] [oi (cq >>> ((0 : Int32) &&& 31)), oi 2, ow t1]) _
    refine XS.i2b X13.here hx rfl (hb hby d14_42) rfl ?_
    exact k)
  obtain ⟨cl15, Ar15, qc15, Sz15, Nn15, Hs15, Gs15⟩ := id V1
  obtain ⟨T15, h15, X15, e15, W15, st15⟩ := stB X13 hx hZ e13 Ar15 (j := (2 : Int32)) (inb_of Sz15 ⟨by decide, by decide⟩) (g := (mkF m 43 #[oR t1, oI 3, oI cq] [oi ((cq >>> ((0 : Int32) &&& 31)).toInt8.toInt32), oi 2, ow t1])) rfl rfl (hb hby d14_43)
  have V15 : Arv Z h15 t1 k1 .byte (6 : Int32) [(.int y0), (.int y1), (.int (nar .byte ((cq >>> ((0 : Int32) &&& 31)).toInt8.toInt32))), (.int y3), (.int y4), (.int y5)] (.int (0 : Int32)) := Arv.set Ar15 qc15 Sz15 Nn15 Hs15 Gs15 (fits_nar_byte _) W15 2 rfl (Nat.le_of_ble_eq_true rfl)
  have N15 := Fr.snoc X15 N0 ge1
  have OL16 := OL.wr W15 ge1
  have K17 : Keep h0 h15 [t1] := (Keep.refl h0 [t1]).wr W15 (Or.inl (List.mem_of_getElem? (i := 0) rfl))
  have pre18 : oL p e below T15 (mkF m 47 #[oR t1, oI 3, oI cq] [oi cq, oi 3, ow t1]) s₁ (entryFrame m #[(.ref t1), (.int (1 : Int32)), (.int cq)] 3) := fun t k => pre14 t (by
    refine st15 _ ?_
    refine XS.aloadN X15.here hx rfl (hb hby d14_44) rfl rfl ?_
    refine XS.iloadN X15.here hx rfl (hb hby d14_45) rfl ?_
    show oS p e below T15 (mkF m 46 #[oR t1, oI 3, oI cq] [oi 3, ow t1]) _
    refine XS.iloadN X15.here hx rfl (hb hby d14_46) rfl ?_
    exact k)
  obtain ⟨T19, X19, e19, st19⟩ := getS2 X15 hx hZ hown (host := "") (Or.inl (oW hw 75 rfl)) Via.refl e15 (LB.ext OL16.2) (g := (mkF m 47 #[oR t1, oI 3, oI cq] [oi cq, oi 3, ow t1])) rfl (hb hby d14_47)
  have pre20 : oL p e below T19 (mkF m 52 #[oR t1, oI 3, oI cq] [oi ((cq >>> ((8 : Int32) &&& 31)).toInt8.toInt32), oi 3, ow t1]) s₁ (entryFrame m #[(.ref t1), (.int (1 : Int32)), (.int cq)] 3) := fun t k => pre18 t (by
    refine st19 _ ?_
    refine XS.ishr X19.here hx rfl (hb hby d14_50) rfl ?_
    refine XS.i2b X19.here hx rfl (hb hby d14_51) rfl ?_
    show oS p e below T19 (mkF m 52 #[oR t1, oI 3, oI cq] [oi ((cq >>> ((8 : Int32) &&& 31)).toInt8.toInt32), oi 3, ow t1]) _
    exact k)
  obtain ⟨cl21, Ar21, qc21, Sz21, Nn21, Hs21, Gs21⟩ := id V15
  obtain ⟨T21, h21, X21, e21, W21, st21⟩ := stB X19 hx hZ e19 Ar21 (j := (3 : Int32)) (inb_of Sz21 ⟨by decide, by decide⟩) (g := (mkF m 52 #[oR t1, oI 3, oI cq] [oi ((cq >>> ((8 : Int32) &&& 31)).toInt8.toInt32), oi 3, ow t1])) rfl rfl (hb hby d14_52)
  have V21 : Arv Z h21 t1 k1 .byte (6 : Int32) [(.int y0), (.int y1), (.int (nar .byte ((cq >>> ((0 : Int32) &&& 31)).toInt8.toInt32))), (.int (nar .byte ((cq >>> ((8 : Int32) &&& 31)).toInt8.toInt32))), (.int y4), (.int y5)] (.int (0 : Int32)) := Arv.set Ar21 qc21 Sz21 Nn21 Hs21 Gs21 (fits_nar_byte _) W21 3 rfl (Nat.le_of_ble_eq_true rfl)
  have N21 := Fr.snoc X21 N15 ge1
  have OL22 := OL16.wr W21 ge1
  have K23 : Keep h0 h21 [t1] := K17.wr W21 (Or.inl (List.mem_of_getElem? (i := 0) rfl))
  have pre24 : oL p e below T21 (mkF m 53 #[oR t1, oI 3, oI cq] []) s₁ (entryFrame m #[(.ref t1), (.int (1 : Int32)), (.int cq)] 3) := fun t k => pre20 t (by
    refine st21 _ ?_
    exact k)
  obtain ⟨fs, hr, hrun, hended, hW, hsame⟩ := X21.leave (v := none) (fun _ => rfl)
  refine ⟨_, _, pre24 _ ?_, hrun, hended, _, _, rfl, ?_, ⟨_, rfl⟩, hW, hsame.mono (by decide) (by decide)⟩
  ·
    show oS p e below T21 (mkF m 53 #[oR t1, oI 3, oI cq] []) _
    exact X21.returnOut hx Bd.returns (hb hby d14_53) hr
  ·
    show Q_rm_put3_1 Z t1 k1 cq y0 y1 y2 y3 y4 y5 h0 n0 _ T21.heap _
    rw [e21]
    exact ⟨rfl, N21, K23, V21⟩
def Q_rm_put3_2 (Z : State) (t1 : Addr) (k1 : ClassId) (cq : Int32) (y0 : Int32) (y1 : Int32) (y2 : Int32) (y3 : Int32) (y4 : Int32) (y5 : Int32) (h0 : Heap) (n0 : Nat) (v : Option Value) (h : Heap) (L : List Loc) : Prop := v = none ∧ Fr n0 L ∧ Keep h0 h [t1] ∧ Arv Z h t1 k1 .byte (6 : Int32) [(.int y0), (.int y1), (.int y2), (.int y3), (.int (own_hb cq)), (.int (own_lb cq))] (.int (0 : Int32))
set_option maxRecDepth 65536 in
set_option maxHeartbeats 40000000 in
theorem rm_put3_2 (l : Launch) (Z : State) (a0 : Array Value) (hw : ∀ d ∈ tables_1, d.before a0 Z = true) (ws : List Jvm.Cond) (t1 : Addr) (k1 : ClassId) (cq : Int32) (y0 : Int32) (y1 : Int32) (y2 : Int32) (y3 : Int32) (y4 : Int32) (y5 : Int32) (h0 : Heap) (n0 : Nat) (OL : Old Z n0 h0) (AD : Sta Z Z.heap "java/lang/StringUTF16" "$assertionsDisabled" "Z" (.int (1 : Int32))) (HB : Sta Z Z.heap "java/lang/StringUTF16" "HI_BYTE_SHIFT" "I" (.int (0 : Int32))) (LB : Sta Z Z.heap "java/lang/StringUTF16" "LO_BYTE_SHIFT" "I" (.int (8 : Int32))) (ge1 : n0 ≤ t1) (V1 : Arv Z h0 t1 k1 .byte (6 : Int32) [(.int y0), (.int y1), (.int y2), (.int y3), (.int y4), (.int y5)] (.int (0 : Int32))) :
    MetFree l (⟨"java/lang/StringUTF16", "putChar", "([BII)V"⟩ : MethodName) (head1 (Jvm.Cond.code (⟨"java/lang/StringUTF16", "putChar", "([BII)V"⟩ : MethodName) jdk_52_method_4_code 3 none :: ws) ({ frames := 0, cells := 0, slots := 0, locals := 0 } : Room)) (fun a U => a = #[(.ref t1), (.int (2 : Int32)), (.int cq)] ∧ Z.Warmed39 U.vm ∧ U.heap = h0) (fun _ _ _ _ _ => True) (fun _ U o U' => ∃ v L, o = .returned v ∧ Q_rm_put3_2 Z t1 k1 cq y0 y1 y2 y3 y4 y5 h0 n0 v U'.heap L ∧ FrameEnd U o U' L ({ frames := 0, cells := 0, slots := 0, locals := 0 } : Room).cells ({ frames := 0, cells := 0, slots := 0, locals := 0 } : Room).slots) := by
  refine MetFree.of_bodySF (plainFor_of_name pn_java_lang_StringUTF16) hisR ?_
  intro p e s m args below meth c s₁ Bd hml0 hP hK
  obtain ⟨rfl, hZ, hh⟩ := hP
  have hx := Bd.exec
  have hby := Bd.bytes
  have hml : c.maxLocals = 3 := hml0
  have hown : s.vm.findClass "java/lang/StringUTF16" = some m.cls := findClass_of_methodNamed Bd.named
  have hnm := (name_of_methodNamed Bd.named Bd.method).1
  have X0 : Stand p l e ({ frames := 0, cells := 0, slots := 0, locals := 0 } : Room) s m #[(.ref t1), (.int (2 : Int32)), (.int cq)] below meth c s₁ [] 0 0 := Stand.of_body Bd
  have e0 : s₁.heap = h0 := by rw [← hh, Bd.state]; rfl
  have N0 := Fr.nil n0
  have pre0 : oL p e below s₁ (mkF m 0 #[oR t1, oI 2, oI cq] []) s₁ (entryFrame m #[(.ref t1), (.int (2 : Int32)), (.int cq)] 3) := fun t k => castTop (by first | (simp [entryFrame, mkF, argsToLocals, Value.category]; done) | rfl) k
  obtain ⟨T11, X11, e11, st11⟩ := getS2 X0 hx hZ hown (host := "") (Or.inl (oW hw 73 rfl)) Via.refl e0 (AD.ext OL.2) (g := (mkF m 0 #[oR t1, oI 2, oI cq] [])) rfl (hb hby d14_0)
  have pre12 : oL p e below T11 (mkF m 38 #[oR t1, oI 5, oI cq] [oi cq, oi 4, ow t1]) s₁ (entryFrame m #[(.ref t1), (.int (2 : Int32)), (.int cq)] 3) := fun t k => pre0 t (by
    refine st11 _ ?_
    refine XS.ifYes X11.here hx rfl (pc0 := 3) (pc' := 28) rfl (hb hby d14_3) rfl ((if0 _ _).trans (feq (by decide : ¬ ((1 : Int32) = (0 : Int32)))).2) (by decide) (by decide) ?_
    refine XS.iloadN X11.here hx rfl (hb hby d14_28) rfl ?_
    refine XS.iconst X11.here hx rfl (hb hby d14_29) ?_
    show oS p e below T11 (mkF m 30 #[oR t1, oI 2, oI cq] [oi 1, oi 2]) _
    refine XS.ishl X11.here hx rfl (hb hby d14_30) rfl ?_
    refine XS.istoreN X11.here hx rfl (hb hby d14_31) rfl (l' := #[oR t1, oI 4, oI cq]) rfl ?_
    refine XS.aloadN X11.here hx rfl (hb hby d14_32) rfl rfl ?_
    refine XS.iloadN X11.here hx rfl (hb hby d14_33) rfl ?_
    show oS p e below T11 (mkF m 34 #[oR t1, oI 4, oI cq] [oi 4, ow t1]) _
    refine XS.iinc X11.here hx rfl (hb hby d14_34) rfl (l' := #[oR t1, oI 5, oI cq]) rfl ?_
    refine XS.iloadN X11.here hx rfl (hb hby d14_37) rfl ?_
    exact k)
  obtain ⟨T13, X13, e13, st13⟩ := getS2 X11 hx hZ hown (host := "") (Or.inl (oW hw 74 rfl)) Via.refl e11 (HB.ext OL.2) (g := (mkF m 38 #[oR t1, oI 5, oI cq] [oi cq, oi 4, ow t1])) rfl (hb hby d14_38)
  have pre14 : oL p e below T13 (mkF m 43 #[oR t1, oI 5, oI cq] [oi ((cq >>> ((0 : Int32) &&& 31)).toInt8.toInt32), oi 4, ow t1]) s₁ (entryFrame m #[(.ref t1), (.int (2 : Int32)), (.int cq)] 3) := fun t k => pre12 t (by
    refine st13 _ ?_
    refine XS.ishr X13.here hx rfl (hb hby d14_41) rfl ?_
    show oS p e below T13 (mkF m 42 #[oR t1, oI 5, oI cq] [oi (cq >>> ((0 : Int32) &&& 31)), oi 4, ow t1]) _
    refine XS.i2b X13.here hx rfl (hb hby d14_42) rfl ?_
    exact k)
  obtain ⟨cl15, Ar15, qc15, Sz15, Nn15, Hs15, Gs15⟩ := id V1
  obtain ⟨T15, h15, X15, e15, W15, st15⟩ := stB X13 hx hZ e13 Ar15 (j := (4 : Int32)) (inb_of Sz15 ⟨by decide, by decide⟩) (g := (mkF m 43 #[oR t1, oI 5, oI cq] [oi ((cq >>> ((0 : Int32) &&& 31)).toInt8.toInt32), oi 4, ow t1])) rfl rfl (hb hby d14_43)
  have V15 : Arv Z h15 t1 k1 .byte (6 : Int32) [(.int y0), (.int y1), (.int y2), (.int y3), (.int (nar .byte ((cq >>> ((0 : Int32) &&& 31)).toInt8.toInt32))), (.int y5)] (.int (0 : Int32)) := Arv.set Ar15 qc15 Sz15 Nn15 Hs15 Gs15 (fits_nar_byte _) W15 4 rfl (Nat.le_of_ble_eq_true rfl)
  have N15 := Fr.snoc X15 N0 ge1
  have OL16 := OL.wr W15 ge1
  have K17 : Keep h0 h15 [t1] := (Keep.refl h0 [t1]).wr W15 (Or.inl (List.mem_of_getElem? (i := 0) rfl))
  have pre18 : oL p e below T15 (mkF m 47 #[oR t1, oI 5, oI cq] [oi cq, oi 5, ow t1]) s₁ (entryFrame m #[(.ref t1), (.int (2 : Int32)), (.int cq)] 3) := fun t k => pre14 t (by
    refine st15 _ ?_
    refine XS.aloadN X15.here hx rfl (hb hby d14_44) rfl rfl ?_
    refine XS.iloadN X15.here hx rfl (hb hby d14_45) rfl ?_
    show oS p e below T15 (mkF m 46 #[oR t1, oI 5, oI cq] [oi 5, ow t1]) _
    refine XS.iloadN X15.here hx rfl (hb hby d14_46) rfl ?_
    exact k)
  obtain ⟨T19, X19, e19, st19⟩ := getS2 X15 hx hZ hown (host := "") (Or.inl (oW hw 75 rfl)) Via.refl e15 (LB.ext OL16.2) (g := (mkF m 47 #[oR t1, oI 5, oI cq] [oi cq, oi 5, ow t1])) rfl (hb hby d14_47)
  have pre20 : oL p e below T19 (mkF m 52 #[oR t1, oI 5, oI cq] [oi ((cq >>> ((8 : Int32) &&& 31)).toInt8.toInt32), oi 5, ow t1]) s₁ (entryFrame m #[(.ref t1), (.int (2 : Int32)), (.int cq)] 3) := fun t k => pre18 t (by
    refine st19 _ ?_
    refine XS.ishr X19.here hx rfl (hb hby d14_50) rfl ?_
    refine XS.i2b X19.here hx rfl (hb hby d14_51) rfl ?_
    show oS p e below T19 (mkF m 52 #[oR t1, oI 5, oI cq] [oi ((cq >>> ((8 : Int32) &&& 31)).toInt8.toInt32), oi 5, ow t1]) _
    exact k)
  obtain ⟨cl21, Ar21, qc21, Sz21, Nn21, Hs21, Gs21⟩ := id V15
  obtain ⟨T21, h21, X21, e21, W21, st21⟩ := stB X19 hx hZ e19 Ar21 (j := (5 : Int32)) (inb_of Sz21 ⟨by decide, by decide⟩) (g := (mkF m 52 #[oR t1, oI 5, oI cq] [oi ((cq >>> ((8 : Int32) &&& 31)).toInt8.toInt32), oi 5, ow t1])) rfl rfl (hb hby d14_52)
  have V21 : Arv Z h21 t1 k1 .byte (6 : Int32) [(.int y0), (.int y1), (.int y2), (.int y3), (.int (nar .byte ((cq >>> ((0 : Int32) &&& 31)).toInt8.toInt32))), (.int (nar .byte ((cq >>> ((8 : Int32) &&& 31)).toInt8.toInt32)))] (.int (0 : Int32)) := Arv.set Ar21 qc21 Sz21 Nn21 Hs21 Gs21 (fits_nar_byte _) W21 5 rfl (Nat.le_of_ble_eq_true rfl)
  have N21 := Fr.snoc X21 N15 ge1
  have OL22 := OL16.wr W21 ge1
  have K23 : Keep h0 h21 [t1] := K17.wr W21 (Or.inl (List.mem_of_getElem? (i := 0) rfl))
  have pre24 : oL p e below T21 (mkF m 53 #[oR t1, oI 5, oI cq] []) s₁ (entryFrame m #[(.ref t1), (.int (2 : Int32)), (.int cq)] 3) := fun t k => pre20 t (by
    refine st21 _ ?_
    exact k)
  obtain ⟨fs, hr, hrun, hended, hW, hsame⟩ := X21.leave (v := none) (fun _ => rfl)
  refine ⟨_, _, pre24 _ ?_, hrun, hended, _, _, rfl, ?_, ⟨_, rfl⟩, hW, hsame.mono (by decide) (by decide)⟩
  ·
    show oS p e below T21 (mkF m 53 #[oR t1, oI 5, oI cq] []) _
    exact X21.returnOut hx Bd.returns (hb hby d14_53) hr
  ·
    show Q_rm_put3_2 Z t1 k1 cq y0 y1 y2 y3 y4 y5 h0 n0 _ T21.heap _
    rw [e21]
    exact ⟨rfl, N21, K23, V21⟩
def Q_rm_nbl3 (Z : State)  (h0 : Heap) (n0 : Nat) (v : Option Value) (h : Heap) (L : List Loc) : Prop := v = some (.int (6 : Int32)) ∧ Fr n0 L ∧ h = h0
set_option maxRecDepth 65536 in
set_option maxHeartbeats 40000000 in
theorem rm_nbl3 (l : Launch) (Z : State) (a0 : Array Value) (hw : ∀ d ∈ tables_1, d.before a0 Z = true) (ws : List Jvm.Cond)  (h0 : Heap) (n0 : Nat) (OL : Old Z n0 h0) :
    MetFree l (⟨"java/lang/StringUTF16", "newBytesLength", "(I)I"⟩ : MethodName) (head1 (Jvm.Cond.code (⟨"java/lang/StringUTF16", "newBytesLength", "(I)I"⟩ : MethodName) jdk_52_method_3_code 1 (some .int) :: ws) ({ frames := 0, cells := 0, slots := 0, locals := 0 } : Room)) (fun a U => a = #[(.int (3 : Int32))] ∧ Z.Warmed39 U.vm ∧ U.heap = h0) (fun _ _ _ _ _ => True) (fun _ U o U' => ∃ v L, o = .returned v ∧ Q_rm_nbl3 Z  h0 n0 v U'.heap L ∧ FrameEnd U o U' L ({ frames := 0, cells := 0, slots := 0, locals := 0 } : Room).cells ({ frames := 0, cells := 0, slots := 0, locals := 0 } : Room).slots) := by
  refine MetFree.of_bodySF (plainFor_of_name pn_java_lang_StringUTF16) hisR ?_
  intro p e s m args below meth c s₁ Bd hml0 hP hK
  obtain ⟨rfl, hZ, hh⟩ := hP
  have hx := Bd.exec
  have hby := Bd.bytes
  have hml : c.maxLocals = 1 := hml0
  have hown : s.vm.findClass "java/lang/StringUTF16" = some m.cls := findClass_of_methodNamed Bd.named
  have hnm := (name_of_methodNamed Bd.named Bd.method).1
  have X0 : Stand p l e ({ frames := 0, cells := 0, slots := 0, locals := 0 } : Room) s m #[(.int (3 : Int32))] below meth c s₁ [] 0 0 := Stand.of_body Bd
  have e0 : s₁.heap = h0 := by rw [← hh, Bd.state]; rfl
  have N0 := Fr.nil n0
  have pre0 : oL p e below s₁ (mkF m 0 #[oI 3] []) s₁ (entryFrame m #[(.int (3 : Int32))] 1) := fun t k => castTop (by first | (simp [entryFrame, mkF, argsToLocals, Value.category]; done) | rfl) k
  have pre11 : oL p e below s₁ (mkF m 58 #[oI 3] [oi 6]) s₁ (entryFrame m #[(.int (3 : Int32))] 1) := fun t k => pre0 t (by
    refine XS.iloadN X0.here hx rfl (hb hby d13_0) rfl ?_
    refine XS.ifYes X0.here hx rfl (pc0 := 1) (pc' := 12) rfl (hb hby d13_1) rfl ((if0 _ _).trans (flt (by decide : ¬ ((3 : Int32) < (0 : Int32)))).2.1) (by decide) (by decide) ?_
    refine XS.iloadN X0.here hx rfl (hb hby d13_12) rfl ?_
    refine X0.ldcInt hx hown (mvT hZ (oW hw 69 rfl)) (g := (mkF m 13 #[oI 3] [oi 3])) rfl (hb hby d13_13) _ ?_
    show oS p e below s₁ (mkF m 15 #[oI 3] [oi 1073741823, oi 3]) _
    refine XS.icmpYes X0.here hx rfl (pc0 := 15) (pc' := 55) rfl (hb hby d13_15) rfl (tlt (by decide : (3 : Int32) < (1073741823 : Int32))).1 (by decide) (by decide) ?_
    refine XS.iloadN X0.here hx rfl (hb hby d13_55) rfl ?_
    refine XS.iconst X0.here hx rfl (hb hby d13_56) ?_
    refine XS.ishl X0.here hx rfl (hb hby d13_57) rfl ?_
    show oS p e below s₁ (mkF m 58 #[oI 3] [oi 6]) _
    exact k)
  obtain ⟨fs, hr, hrun, hended, hW, hsame⟩ := X0.leave (v := some (.int (6 : Int32))) (fun h => by rw [Bd.returns] at h; cases h)
  refine ⟨_, _, pre11 _ ?_, hrun, hended, _, _, rfl, ?_, ⟨_, rfl⟩, hW, hsame.mono (by decide) (by decide)⟩
  ·
    show oS p e below s₁ (mkF m 58 #[oI 3] [oi 6]) _
    exact retI X0 hx Bd.returns (hb hby d13_58) hr
  ·
    show Q_rm_nbl3 Z  h0 n0 _ s₁.heap _
    rw [e0]
    exact ⟨rfl, N0, rfl⟩
def Q_rm_nbf3 (Z : State)  (h0 : Heap) (n0 : Nat) (v : Option Value) (h : Heap) (L : List Loc) : Prop := ∃ (r : Addr) (kr : ClassId), v = some (.ref r) ∧ Fr n0 L ∧ Keep h0 h [] ∧ h0.size ≤ r ∧ Arv Z h r kr .byte (6 : Int32) [(.int (0 : Int32)), (.int (0 : Int32)), (.int (0 : Int32)), (.int (0 : Int32)), (.int (0 : Int32)), (.int (0 : Int32))] (.int (0 : Int32))
set_option maxRecDepth 65536 in
set_option maxHeartbeats 40000000 in
theorem rm_nbf3 (l : Launch) (Z : State) (a0 : Array Value) (hw : ∀ d ∈ tables_1, d.before a0 Z = true) (ws : List Jvm.Cond)  (h0 : Heap) (n0 : Nat) (OL : Old Z n0 h0) :
    MetFree l (⟨"java/lang/StringUTF16", "newBytesFor", "(I)[B"⟩ : MethodName) (head1 (Jvm.Cond.code (⟨"java/lang/StringUTF16", "newBytesFor", "(I)[B"⟩ : MethodName) jdk_52_method_2_code 1 (some (.array .byte)) :: ws) ({ frames := 1, cells := 1, slots := 6, locals := 12 } : Room)) (fun a U => a = #[(.int (3 : Int32))] ∧ Z.Warmed39 U.vm ∧ U.heap = h0) (fun _ _ _ _ _ => True) (fun _ U o U' => ∃ v L, o = .returned v ∧ Q_rm_nbf3 Z  h0 n0 v U'.heap L ∧ FrameEnd U o U' L ({ frames := 1, cells := 1, slots := 6, locals := 12 } : Room).cells ({ frames := 1, cells := 1, slots := 6, locals := 12 } : Room).slots) := by
  refine MetFree.of_bodySF (plainFor_of_name pn_java_lang_StringUTF16) hisR ?_
  intro p e s m args below meth c s₁ Bd hml0 hP hK
  obtain ⟨rfl, hZ, hh⟩ := hP
  have hx := Bd.exec
  have hby := Bd.bytes
  have hml : c.maxLocals = 1 := hml0
  have hown : s.vm.findClass "java/lang/StringUTF16" = some m.cls := findClass_of_methodNamed Bd.named
  have hnm := (name_of_methodNamed Bd.named Bd.method).1
  have X0 : Stand p l e ({ frames := 1, cells := 1, slots := 6, locals := 12 } : Room) s m #[(.int (3 : Int32))] below meth c s₁ [] 0 0 := Stand.of_body Bd
  have e0 : s₁.heap = h0 := by rw [← hh, Bd.state]; rfl
  have N0 := Fr.nil n0
  have pre0 : oL p e below s₁ (mkF m 0 #[oI 3] []) s₁ (entryFrame m #[(.int (3 : Int32))] 1) := fun t k => castTop (by first | (simp [entryFrame, mkF, argsToLocals, Value.category]; done) | rfl) k
  have pre11 : oL p e below s₁ (mkF m 1 #[oI 3] [oi 3]) s₁ (entryFrame m #[(.int (3 : Int32))] 1) := fun t k => pre0 t (by
    refine XS.iloadN X0.here hx rfl (hb hby d12_0) rfl ?_
    exact k)
  obtain ⟨_, _, ⟨T12, L12, k12, n12⟩, -, X12, ⟨Lc12, hQ12, l12, y12, z12⟩, st12⟩ := Jvm.LawKit.callS X0 hx (y := (⟨"java/lang/StringUTF16", "newBytesLength", "(I)I"⟩ : MethodName)) hown (mvT hZ (oW hw 66 rfl)) (mvT hZ (oW hw 67 rfl)) (mvT hZ (oW hw 24 rfl)) (mvT hZ (oW hw 68 rfl)) (by decide) (backOf (W := 0) (rm_nbl3 l Z a0 hw []  h0 n0 OL ) hZ (oW hw 68 rfl) (oW hw 24 rfl) (by decide) (by decide)) (g := (mkF m 1 #[oI 3] [oi 3])) rfl (by rw [hml]; rfl) (argsL := [(.int (3 : Int32))]) (rest := []) (lenOf pd__I_I rfl) rfl (by show 2 * 0 + _ ≤ _; exact Nat.le_of_eq rfl) (hb hby d12_1) (fun _ _ => ⟨rfl, e0, (by decide : 0 + 0 ≤ _), (by decide : 0 + 0 ≤ _)⟩)
  dsimp only [Pt.U, Pt.locs, Pt.cells, Pt.slots] at X12 l12 y12 z12 st12 hQ12
  subst l12 y12 z12
  obtain ⟨rfl, N12q, e12⟩ := hQ12
  have N12 := Fr.app N0 N12q
  have pre13 : oL p e below T12 (mkF m 4 #[oI 3] [oi 6]) s₁ (entryFrame m #[(.int (3 : Int32))] 1) := fun t k => pre11 t (by
    refine st12 _ ?_
    exact k)
  obtain ⟨T14, h14, k14, X14, e14, E14, A14, st14⟩ := newP X12 hx hZ (oW hw 26 rfl) e12 (g := (mkF m 4 #[oI 3] [oi 6])) rfl (hb hby d12_4) rfl (by decide) (cap := 6) (by decide) (by decide) (by decide) (by decide)
  obtain ⟨b14, g14⟩ : ∃ z, z = h0.size := ⟨_, rfl⟩
  rw [← g14] at A14 st14
  have ge_b14 : n0 ≤ b14 := Nat.le_trans (OL.1 ▸ OL.2.1) (Nat.le_of_eq g14.symm)
  have sz_b14 : h0.size ≤ b14 := Nat.le_trans (Keep.refl h0 []).1 (Nat.le_of_eq g14.symm)
  have OL15 := OL.ext E14
  have K16 : Keep h0 h14 [] := (Keep.refl h0 []).ext E14
  have V14 : Arv Z h14 b14 k14 .byte (6 : Int32) [(.int (0 : Int32)), (.int (0 : Int32)), (.int (0 : Int32)), (.int (0 : Int32)), (.int (0 : Int32)), (.int (0 : Int32))] (.int (0 : Int32)) := (Arv.new A14 (by decide)).pad (pad_rep [] (.int (0 : Int32)) 6)
  have pre17 : oL p e below T14 (mkF m 6 #[oI 3] [ow b14]) s₁ (entryFrame m #[(.int (3 : Int32))] 1) := fun t k => pre13 t (by
    refine st14 _ ?_
    exact k)
  obtain ⟨fs, hr, hrun, hended, hW, hsame⟩ := X14.leave (v := some (.ref b14)) (fun h => by rw [Bd.returns] at h; cases h)
  refine ⟨_, _, pre17 _ ?_, hrun, hended, _, _, rfl, ?_, ⟨_, rfl⟩, hW, hsame.mono (by decide) (by decide)⟩
  ·
    show oS p e below T14 (mkF m 6 #[oI 3] [ow b14]) _
    jvm_step X14.here [X14.here.top, hx, (hb hby d12_6), X14.method', Bd.returns, Value.isRef, FieldType.isReference]
    first | (intro acts; rw [hr _ acts rfl rfl rfl]) | rw [hr _ _ rfl rfl rfl]
    exact Steps.refl _
  ·
    show Q_rm_nbf3 Z  h0 n0 _ T14.heap _
    rw [e14]
    exact ⟨b14, k14, rfl, N12, K16, sz_b14, V14⟩
def Q_rm_tob3 (Z : State) (a1 : Addr) (k1 : ClassId) (c0 : Int32) (c1 : Int32) (c2 : Int32) (h0 : Heap) (n0 : Nat) (v : Option Value) (h : Heap) (L : List Loc) : Prop := ∃ (r : Addr) (kr : ClassId), v = some (.ref r) ∧ Fr n0 L ∧ Keep h0 h [] ∧ h0.size ≤ r ∧ Arv Z h r kr .byte (6 : Int32) [(.int (own_hb c0)), (.int (own_lb c0)), (.int (own_hb c1)), (.int (own_lb c1)), (.int (own_hb c2)), (.int (own_lb c2))] (.int (0 : Int32))
set_option maxRecDepth 65536 in
set_option maxHeartbeats 40000000 in
theorem rm_tob3 (l : Launch) (Z : State) (a0 : Array Value) (hw : ∀ d ∈ tables_1, d.before a0 Z = true) (ws : List Jvm.Cond) (a1 : Addr) (k1 : ClassId) (c0 : Int32) (c1 : Int32) (c2 : Int32) (h0 : Heap) (n0 : Nat) (OL : Old Z n0 h0) (AD : Sta Z Z.heap "java/lang/StringUTF16" "$assertionsDisabled" "Z" (.int (1 : Int32))) (HB : Sta Z Z.heap "java/lang/StringUTF16" "HI_BYTE_SHIFT" "I" (.int (0 : Int32))) (LB : Sta Z Z.heap "java/lang/StringUTF16" "LO_BYTE_SHIFT" "I" (.int (8 : Int32))) (V1 : Arv Z h0 a1 k1 .char (3 : Int32) [(.int c0), (.int c1), (.int c2)] (.int (0 : Int32))) :
    MetFree l (⟨"java/lang/StringUTF16", "toBytes", "([CII)[B"⟩ : MethodName) (head1 (Jvm.Cond.code (⟨"java/lang/StringUTF16", "toBytes", "([CII)[B"⟩ : MethodName) jdk_52_method_14_code 5 (some (.array .byte)) :: ws) ({ frames := 2, cells := 1, slots := 6, locals := 24 } : Room)) (fun a U => a = #[(.ref a1), (.int (0 : Int32)), (.int (3 : Int32))] ∧ Z.Warmed39 U.vm ∧ U.heap = h0) (fun _ _ _ _ _ => True) (fun _ U o U' => ∃ v L, o = .returned v ∧ Q_rm_tob3 Z a1 k1 c0 c1 c2 h0 n0 v U'.heap L ∧ FrameEnd U o U' L ({ frames := 2, cells := 1, slots := 6, locals := 24 } : Room).cells ({ frames := 2, cells := 1, slots := 6, locals := 24 } : Room).slots) := by
  refine MetFree.of_bodySF (plainFor_of_name pn_java_lang_StringUTF16) hisR ?_
  intro p e s m args below meth c s₁ Bd hml0 hP hK
  obtain ⟨rfl, hZ, hh⟩ := hP
  have hx := Bd.exec
  have hby := Bd.bytes
  have hml : c.maxLocals = 5 := hml0
  have hown : s.vm.findClass "java/lang/StringUTF16" = some m.cls := findClass_of_methodNamed Bd.named
  have hnm := (name_of_methodNamed Bd.named Bd.method).1
  have X0 : Stand p l e ({ frames := 2, cells := 1, slots := 6, locals := 24 } : Room) s m #[(.ref a1), (.int (0 : Int32)), (.int (3 : Int32))] below meth c s₁ [] 0 0 := Stand.of_body Bd
  have e0 : s₁.heap = h0 := by rw [← hh, Bd.state]; rfl
  have N0 := Fr.nil n0
  have pre0 : oL p e below s₁ (mkF m 0 #[oR a1, oI 0, oI 3, oU, oU] []) s₁ (entryFrame m #[(.ref a1), (.int (0 : Int32)), (.int (3 : Int32))] 5) := fun t k => castTop (by first | (simp [entryFrame, mkF, argsToLocals, Value.category]; done) | rfl) k
  have pre11 : oL p e below s₁ (mkF m 1 #[oR a1, oI 0, oI 3, oU, oU] [oi 3]) s₁ (entryFrame m #[(.ref a1), (.int (0 : Int32)), (.int (3 : Int32))] 5) := fun t k => pre0 t (by
    refine XS.iloadN X0.here hx rfl (hb hby d11_0) rfl ?_
    exact k)
  obtain ⟨_, _, ⟨T12, L12, k12, n12⟩, -, X12, ⟨Lc12, hQ12, l12, y12, z12⟩, st12⟩ := Jvm.LawKit.callS X0 hx (y := (⟨"java/lang/StringUTF16", "newBytesFor", "(I)[B"⟩ : MethodName)) hown (mvT hZ (oW hw 63 rfl)) (mvT hZ (oW hw 64 rfl)) (mvT hZ (oW hw 24 rfl)) (mvT hZ (oW hw 65 rfl)) (by decide) (backOf (W := 0) (rm_nbf3 l Z a0 hw []  h0 n0 OL ) hZ (oW hw 65 rfl) (oW hw 24 rfl) (by decide) (by decide)) (g := (mkF m 1 #[oR a1, oI 0, oI 3, oU, oU] [oi 3])) rfl (by rw [hml]; rfl) (argsL := [(.int (3 : Int32))]) (rest := []) (lenOf pd__I__B rfl) rfl (by show 2 * 0 + _ ≤ _; exact Nat.le_of_eq rfl) (hb hby d11_1) (fun _ _ => ⟨rfl, e0, (by decide : 0 + 1 ≤ _), (by decide : 0 + 6 ≤ _)⟩)
  dsimp only [Pt.U, Pt.locs, Pt.cells, Pt.slots] at X12 l12 y12 z12 st12 hQ12
  subst l12 y12 z12
  obtain ⟨r12, kr12, rfl, N12q, Kq12, sq12, Va12⟩ := hQ12
  have N12 := Fr.app N0 N12q
  have ne13 : a1 ≠ r12 := Nat.ne_of_lt (Nat.lt_of_lt_of_le V1.lt sq12)
  have ge_r12 : n0 ≤ r12 := Nat.le_trans (OL.1 ▸ OL.2.1) sq12
  have sz_r12 : h0.size ≤ r12 := Nat.le_trans (Keep.refl h0 []).1 sq12
  have f14 := V1.keep Kq12 nin0
  have OL15 := OL.keep Kq12 all0
  have K16 : Keep h0 T12.heap [] := (Keep.refl h0 []).trans Kq12 all0
  have pre17 : oL p e below T12 (mkF m 19 #[oR a1, oI 0, oI 3, oR r12, oI 0] [oi 0, ow a1, oi 0, ow r12]) s₁ (entryFrame m #[(.ref a1), (.int (0 : Int32)), (.int (3 : Int32))] 5) := fun t k => pre11 t (by
    refine st12 _ ?_
    refine XS.astoreN X12.here hx rfl (hb hby d11_4) rfl rfl (l' := #[oR a1, oI 0, oI 3, oR r12, oU]) rfl ?_
    refine XS.iconst X12.here hx rfl (hb hby d11_5) ?_
    show oS p e below T12 (mkF m 6 #[oR a1, oI 0, oI 3, oR r12, oU] [oi 0]) _
    refine XS.istore X12.here hx rfl (hb hby d11_6) rfl (l' := #[oR a1, oI 0, oI 3, oR r12, oI 0]) rfl ?_
    refine XS.iload X12.here hx rfl (hb hby d11_8) rfl ?_
    refine XS.iloadN X12.here hx rfl (hb hby d11_10) rfl ?_
    refine XS.icmpNo X12.here hx rfl (hb hby d11_11) rfl (tlt (by decide : (0 : Int32) < (3 : Int32))).2.1 ?_
    show oS p e below T12 (mkF m 14 #[oR a1, oI 0, oI 3, oR r12, oI 0] []) _
    refine XS.aloadN X12.here hx rfl (hb hby d11_14) rfl rfl ?_
    refine XS.iload X12.here hx rfl (hb hby d11_15) rfl ?_
    refine XS.aloadN X12.here hx rfl (hb hby d11_17) rfl rfl ?_
    refine XS.iloadN X12.here hx rfl (hb hby d11_18) rfl ?_
    show oS p e below T12 (mkF m 19 #[oR a1, oI 0, oI 3, oR r12, oI 0] [oi 0, ow a1, oi 0, ow r12]) _
    exact k)
  obtain ⟨cl18, Ar18, qc18, Sz18, Nn18, Hs18, Gs18⟩ := id f14
  have hin18 := inb_of (j := (0 : Int32)) Sz18 ⟨by decide, by decide⟩
  have pre19 : oL p e below T12 (mkF m 20 #[oR a1, oI 0, oI 3, oR r12, oI 0] [oi c0, oi 0, ow r12]) s₁ (entryFrame m #[(.ref a1), (.int (0 : Int32)), (.int (3 : Int32))] 5) := fun t k => pre17 t (by
    refine X12.caload hx (j := (0 : Int32)) (v := (.int c0)) (Ar18.1) (State.isArrayOf_alike hZ.alike Ar18.2.1) Ar18.2.2 hin18 (Hs18.at hin18 rfl) (g := (mkF m 19 #[oR a1, oI 0, oI 3, oR r12, oI 0] [oi 0, ow a1, oi 0, ow r12])) rfl rfl (hb hby d11_19) _ ?_
    exact k)
  obtain ⟨_, _, ⟨T20, L20, k20, n20⟩, -, X20, ⟨Lc20, hQ20, l20, y20, z20⟩, st20⟩ := Jvm.LawKit.callS X12 hx (y := (⟨"java/lang/StringUTF16", "putChar", "([BII)V"⟩ : MethodName)) hown (mvT hZ (oW hw 70 rfl)) (mvT hZ (oW hw 71 rfl)) (mvT hZ (oW hw 24 rfl)) (mvT hZ (oW hw 72 rfl)) (by decide) (backOf (W := 0) (rm_put3_0 l Z a0 hw [] r12 kr12 c0 (0 : Int32) (0 : Int32) (0 : Int32) (0 : Int32) (0 : Int32) (0 : Int32) T12.heap n0 OL15 AD HB LB ge_r12 Va12) hZ (oW hw 72 rfl) (oW hw 24 rfl) (by decide) (by decide)) (g := (mkF m 20 #[oR a1, oI 0, oI 3, oR r12, oI 0] [oi c0, oi 0, ow r12])) rfl (by rw [hml]; rfl) (argsL := [(.ref r12), (.int (0 : Int32)), (.int c0)]) (rest := []) (lenOf pd___BII_V rfl) rfl (by show 2 * 0 + _ ≤ _; exact Nat.le_of_eq rfl) (hb hby d11_20) (fun _ _ => ⟨rfl, rfl, (by decide : 1 + 0 ≤ _), (by decide : 6 + 0 ≤ _)⟩)
  dsimp only [Pt.U, Pt.locs, Pt.cells, Pt.slots] at X20 l20 y20 z20 st20 hQ20
  subst l20 y20 z20
  obtain ⟨rfl, N20q, Kq20, Va20⟩ := hQ20
  have N20 := Fr.app N12 N20q
  have f21 := f14.keep Kq20 (ninS ne13 nin0)
  have OL22 := OL15.keep Kq20 (allS ge_r12 all0)
  have K23 : Keep h0 T20.heap [] := K16.trans Kq20 (allS (Or.inr sz_r12) all0)
  have pre24 : oL p e below T20 (mkF m 19 #[oR a1, oI 1, oI 3, oR r12, oI 1] [oi 1, ow a1, oi 1, ow r12]) s₁ (entryFrame m #[(.ref a1), (.int (0 : Int32)), (.int (3 : Int32))] 5) := fun t k => pre19 t (by
    refine st20 _ ?_
    refine XS.iinc X20.here hx rfl (hb hby d11_23) rfl (l' := #[oR a1, oI 1, oI 3, oR r12, oI 0]) rfl ?_
    refine XS.iinc X20.here hx rfl (hb hby d11_26) rfl (l' := #[oR a1, oI 1, oI 3, oR r12, oI 1]) rfl ?_
    show oS p e below T20 (mkF m 29 #[oR a1, oI 1, oI 3, oR r12, oI 1] []) _
    refine XS.goto X20.here hx rfl (pc0 := 29) (pc' := 8) rfl (hb hby d11_29) (by decide) (by decide) ?_
    refine XS.iload X20.here hx rfl (hb hby d11_8) rfl ?_
    refine XS.iloadN X20.here hx rfl (hb hby d11_10) rfl ?_
    refine XS.icmpNo X20.here hx rfl (hb hby d11_11) rfl (tlt (by decide : (1 : Int32) < (3 : Int32))).2.1 ?_
    show oS p e below T20 (mkF m 14 #[oR a1, oI 1, oI 3, oR r12, oI 1] []) _
    refine XS.aloadN X20.here hx rfl (hb hby d11_14) rfl rfl ?_
    refine XS.iload X20.here hx rfl (hb hby d11_15) rfl ?_
    refine XS.aloadN X20.here hx rfl (hb hby d11_17) rfl rfl ?_
    refine XS.iloadN X20.here hx rfl (hb hby d11_18) rfl ?_
    show oS p e below T20 (mkF m 19 #[oR a1, oI 1, oI 3, oR r12, oI 1] [oi 1, ow a1, oi 1, ow r12]) _
    exact k)
  obtain ⟨cl25, Ar25, qc25, Sz25, Nn25, Hs25, Gs25⟩ := id f21
  have hin25 := inb_of (j := (1 : Int32)) Sz25 ⟨by decide, by decide⟩
  have pre26 : oL p e below T20 (mkF m 20 #[oR a1, oI 1, oI 3, oR r12, oI 1] [oi c1, oi 1, ow r12]) s₁ (entryFrame m #[(.ref a1), (.int (0 : Int32)), (.int (3 : Int32))] 5) := fun t k => pre24 t (by
    refine X20.caload hx (j := (1 : Int32)) (v := (.int c1)) (Ar25.1) (State.isArrayOf_alike hZ.alike Ar25.2.1) Ar25.2.2 hin25 (Hs25.at hin25 rfl) (g := (mkF m 19 #[oR a1, oI 1, oI 3, oR r12, oI 1] [oi 1, ow a1, oi 1, ow r12])) rfl rfl (hb hby d11_19) _ ?_
    exact k)
  obtain ⟨_, _, ⟨T27, L27, k27, n27⟩, -, X27, ⟨Lc27, hQ27, l27, y27, z27⟩, st27⟩ := Jvm.LawKit.callS X20 hx (y := (⟨"java/lang/StringUTF16", "putChar", "([BII)V"⟩ : MethodName)) hown (mvT hZ (oW hw 70 rfl)) (mvT hZ (oW hw 71 rfl)) (mvT hZ (oW hw 24 rfl)) (mvT hZ (oW hw 72 rfl)) (by decide) (backOf (W := 0) (rm_put3_1 l Z a0 hw [] r12 kr12 c1 (own_hb c0) (own_lb c0) (0 : Int32) (0 : Int32) (0 : Int32) (0 : Int32) T20.heap n0 OL22 AD HB LB ge_r12 Va20) hZ (oW hw 72 rfl) (oW hw 24 rfl) (by decide) (by decide)) (g := (mkF m 20 #[oR a1, oI 1, oI 3, oR r12, oI 1] [oi c1, oi 1, ow r12])) rfl (by rw [hml]; rfl) (argsL := [(.ref r12), (.int (1 : Int32)), (.int c1)]) (rest := []) (lenOf pd___BII_V rfl) rfl (by show 2 * 0 + _ ≤ _; exact Nat.le_of_eq rfl) (hb hby d11_20) (fun _ _ => ⟨rfl, rfl, (by decide : 1 + 0 ≤ _), (by decide : 6 + 0 ≤ _)⟩)
  dsimp only [Pt.U, Pt.locs, Pt.cells, Pt.slots] at X27 l27 y27 z27 st27 hQ27
  subst l27 y27 z27
  obtain ⟨rfl, N27q, Kq27, Va27⟩ := hQ27
  have N27 := Fr.app N20 N27q
  have f28 := f21.keep Kq27 (ninS ne13 nin0)
  have OL29 := OL22.keep Kq27 (allS ge_r12 all0)
  have K30 : Keep h0 T27.heap [] := K23.trans Kq27 (allS (Or.inr sz_r12) all0)
  have pre31 : oL p e below T27 (mkF m 19 #[oR a1, oI 2, oI 3, oR r12, oI 2] [oi 2, ow a1, oi 2, ow r12]) s₁ (entryFrame m #[(.ref a1), (.int (0 : Int32)), (.int (3 : Int32))] 5) := fun t k => pre26 t (by
    refine st27 _ ?_
    refine XS.iinc X27.here hx rfl (hb hby d11_23) rfl (l' := #[oR a1, oI 2, oI 3, oR r12, oI 1]) rfl ?_
    refine XS.iinc X27.here hx rfl (hb hby d11_26) rfl (l' := #[oR a1, oI 2, oI 3, oR r12, oI 2]) rfl ?_
    show oS p e below T27 (mkF m 29 #[oR a1, oI 2, oI 3, oR r12, oI 2] []) _
    refine XS.goto X27.here hx rfl (pc0 := 29) (pc' := 8) rfl (hb hby d11_29) (by decide) (by decide) ?_
    refine XS.iload X27.here hx rfl (hb hby d11_8) rfl ?_
    refine XS.iloadN X27.here hx rfl (hb hby d11_10) rfl ?_
    refine XS.icmpNo X27.here hx rfl (hb hby d11_11) rfl (tlt (by decide : (2 : Int32) < (3 : Int32))).2.1 ?_
    show oS p e below T27 (mkF m 14 #[oR a1, oI 2, oI 3, oR r12, oI 2] []) _
    refine XS.aloadN X27.here hx rfl (hb hby d11_14) rfl rfl ?_
    refine XS.iload X27.here hx rfl (hb hby d11_15) rfl ?_
    refine XS.aloadN X27.here hx rfl (hb hby d11_17) rfl rfl ?_
    refine XS.iloadN X27.here hx rfl (hb hby d11_18) rfl ?_
    show oS p e below T27 (mkF m 19 #[oR a1, oI 2, oI 3, oR r12, oI 2] [oi 2, ow a1, oi 2, ow r12]) _
    exact k)
  obtain ⟨cl32, Ar32, qc32, Sz32, Nn32, Hs32, Gs32⟩ := id f28
  have hin32 := inb_of (j := (2 : Int32)) Sz32 ⟨by decide, by decide⟩
  have pre33 : oL p e below T27 (mkF m 20 #[oR a1, oI 2, oI 3, oR r12, oI 2] [oi c2, oi 2, ow r12]) s₁ (entryFrame m #[(.ref a1), (.int (0 : Int32)), (.int (3 : Int32))] 5) := fun t k => pre31 t (by
    refine X27.caload hx (j := (2 : Int32)) (v := (.int c2)) (Ar32.1) (State.isArrayOf_alike hZ.alike Ar32.2.1) Ar32.2.2 hin32 (Hs32.at hin32 rfl) (g := (mkF m 19 #[oR a1, oI 2, oI 3, oR r12, oI 2] [oi 2, ow a1, oi 2, ow r12])) rfl rfl (hb hby d11_19) _ ?_
    exact k)
  obtain ⟨_, _, ⟨T34, L34, k34, n34⟩, -, X34, ⟨Lc34, hQ34, l34, y34, z34⟩, st34⟩ := Jvm.LawKit.callS X27 hx (y := (⟨"java/lang/StringUTF16", "putChar", "([BII)V"⟩ : MethodName)) hown (mvT hZ (oW hw 70 rfl)) (mvT hZ (oW hw 71 rfl)) (mvT hZ (oW hw 24 rfl)) (mvT hZ (oW hw 72 rfl)) (by decide) (backOf (W := 0) (rm_put3_2 l Z a0 hw [] r12 kr12 c2 (own_hb c0) (own_lb c0) (own_hb c1) (own_lb c1) (0 : Int32) (0 : Int32) T27.heap n0 OL29 AD HB LB ge_r12 Va27) hZ (oW hw 72 rfl) (oW hw 24 rfl) (by decide) (by decide)) (g := (mkF m 20 #[oR a1, oI 2, oI 3, oR r12, oI 2] [oi c2, oi 2, ow r12])) rfl (by rw [hml]; rfl) (argsL := [(.ref r12), (.int (2 : Int32)), (.int c2)]) (rest := []) (lenOf pd___BII_V rfl) rfl (by show 2 * 0 + _ ≤ _; exact Nat.le_of_eq rfl) (hb hby d11_20) (fun _ _ => ⟨rfl, rfl, (by decide : 1 + 0 ≤ _), (by decide : 6 + 0 ≤ _)⟩)
  dsimp only [Pt.U, Pt.locs, Pt.cells, Pt.slots] at X34 l34 y34 z34 st34 hQ34
  subst l34 y34 z34
  obtain ⟨rfl, N34q, Kq34, Va34⟩ := hQ34
  have N34 := Fr.app N27 N34q
  have f35 := f28.keep Kq34 (ninS ne13 nin0)
  have OL36 := OL29.keep Kq34 (allS ge_r12 all0)
  have K37 : Keep h0 T34.heap [] := K30.trans Kq34 (allS (Or.inr sz_r12) all0)
  have pre38 : oL p e below T34 (mkF m 33 #[oR a1, oI 3, oI 3, oR r12, oI 3] [ow r12]) s₁ (entryFrame m #[(.ref a1), (.int (0 : Int32)), (.int (3 : Int32))] 5) := fun t k => pre33 t (by
    refine st34 _ ?_
    refine XS.iinc X34.here hx rfl (hb hby d11_23) rfl (l' := #[oR a1, oI 3, oI 3, oR r12, oI 2]) rfl ?_
    refine XS.iinc X34.here hx rfl (hb hby d11_26) rfl (l' := #[oR a1, oI 3, oI 3, oR r12, oI 3]) rfl ?_
    show oS p e below T34 (mkF m 29 #[oR a1, oI 3, oI 3, oR r12, oI 3] []) _
    refine XS.goto X34.here hx rfl (pc0 := 29) (pc' := 8) rfl (hb hby d11_29) (by decide) (by decide) ?_
    refine XS.iload X34.here hx rfl (hb hby d11_8) rfl ?_
    refine XS.iloadN X34.here hx rfl (hb hby d11_10) rfl ?_
    refine XS.icmpYes X34.here hx rfl (pc0 := 11) (pc' := 32) rfl (hb hby d11_11) rfl (flt (by decide : ¬ ((3 : Int32) < (3 : Int32)))).2.1 (by decide) (by decide) ?_
    show oS p e below T34 (mkF m 32 #[oR a1, oI 3, oI 3, oR r12, oI 3] []) _
    refine XS.aloadN X34.here hx rfl (hb hby d11_32) rfl rfl ?_
    exact k)
  obtain ⟨fs, hr, hrun, hended, hW, hsame⟩ := X34.leave (v := some (.ref r12)) (fun h => by rw [Bd.returns] at h; cases h)
  refine ⟨_, _, pre38 _ ?_, hrun, hended, _, _, rfl, ?_, ⟨_, rfl⟩, hW, hsame.mono (by decide) (by decide)⟩
  ·
    show oS p e below T34 (mkF m 33 #[oR a1, oI 3, oI 3, oR r12, oI 3] [ow r12]) _
    jvm_step X34.here [X34.here.top, hx, (hb hby d11_33), X34.method', Bd.returns, Value.isRef, FieldType.isReference]
    first | (intro acts; rw [hr _ acts rfl rfl rfl]) | rw [hr _ _ rfl rfl rfl]
    exact Steps.refl _
  ·
    show Q_rm_tob3 Z a1 k1 c0 c1 c2 h0 n0 _ T34.heap _
    exact ⟨r12, kr12, rfl, N34, K37, sz_r12, Va34⟩
def Q_rm_get3_0 (Z : State) (t1 : Addr) (k1 : ClassId) (y0 : Int32) (y1 : Int32) (y2 : Int32) (y3 : Int32) (y4 : Int32) (y5 : Int32) (h0 : Heap) (n0 : Nat) (v : Option Value) (h : Heap) (L : List Loc) : Prop := v = some (.int (own_gc y0 y1)) ∧ Fr n0 L ∧ h = h0
set_option maxRecDepth 65536 in
set_option maxHeartbeats 40000000 in
theorem rm_get3_0 (l : Launch) (Z : State) (a0 : Array Value) (hw : ∀ d ∈ tables_1, d.before a0 Z = true) (ws : List Jvm.Cond) (t1 : Addr) (k1 : ClassId) (y0 : Int32) (y1 : Int32) (y2 : Int32) (y3 : Int32) (y4 : Int32) (y5 : Int32) (h0 : Heap) (n0 : Nat) (OL : Old Z n0 h0) (AD : Sta Z Z.heap "java/lang/StringUTF16" "$assertionsDisabled" "Z" (.int (1 : Int32))) (HB : Sta Z Z.heap "java/lang/StringUTF16" "HI_BYTE_SHIFT" "I" (.int (0 : Int32))) (LB : Sta Z Z.heap "java/lang/StringUTF16" "LO_BYTE_SHIFT" "I" (.int (8 : Int32))) (V1 : Arv Z h0 t1 k1 .byte (6 : Int32) [(.int y0), (.int y1), (.int y2), (.int y3), (.int y4), (.int y5)] (.int (0 : Int32))) :
    MetFree l (⟨"java/lang/StringUTF16", "getChar", "([BI)C"⟩ : MethodName) (head1 (Jvm.Cond.code (⟨"java/lang/StringUTF16", "getChar", "([BI)C"⟩ : MethodName) jdk_52_method_5_code 2 (some .char) :: ws) ({ frames := 0, cells := 0, slots := 0, locals := 0 } : Room)) (fun a U => a = #[(.ref t1), (.int (0 : Int32))] ∧ Z.Warmed39 U.vm ∧ U.heap = h0) (fun _ _ _ _ _ => True) (fun _ U o U' => ∃ v L, o = .returned v ∧ Q_rm_get3_0 Z t1 k1 y0 y1 y2 y3 y4 y5 h0 n0 v U'.heap L ∧ FrameEnd U o U' L ({ frames := 0, cells := 0, slots := 0, locals := 0 } : Room).cells ({ frames := 0, cells := 0, slots := 0, locals := 0 } : Room).slots) := by
  refine MetFree.of_bodySF (plainFor_of_name pn_java_lang_StringUTF16) hisR ?_
  intro p e s m args below meth c s₁ Bd hml0 hP hK
  obtain ⟨rfl, hZ, hh⟩ := hP
  have hx := Bd.exec
  have hby := Bd.bytes
  have hml : c.maxLocals = 2 := hml0
  have hown : s.vm.findClass "java/lang/StringUTF16" = some m.cls := findClass_of_methodNamed Bd.named
  have hnm := (name_of_methodNamed Bd.named Bd.method).1
  have X0 : Stand p l e ({ frames := 0, cells := 0, slots := 0, locals := 0 } : Room) s m #[(.ref t1), (.int (0 : Int32))] below meth c s₁ [] 0 0 := Stand.of_body Bd
  have e0 : s₁.heap = h0 := by rw [← hh, Bd.state]; rfl
  have N0 := Fr.nil n0
  have pre0 : oL p e below s₁ (mkF m 0 #[oR t1, oI 0] []) s₁ (entryFrame m #[(.ref t1), (.int (0 : Int32))] 2) := fun t k => castTop (by first | (simp [entryFrame, mkF, argsToLocals, Value.category]; done) | rfl) k
  obtain ⟨T11, X11, e11, st11⟩ := getS2 X0 hx hZ hown (host := "") (Or.inl (oW hw 73 rfl)) Via.refl e0 (AD.ext OL.2) (g := (mkF m 0 #[oR t1, oI 0] [])) rfl (hb hby d15_0)
  have pre12 : oL p e below T11 (mkF m 37 #[oR t1, oI 1] [oi 0, ow t1]) s₁ (entryFrame m #[(.ref t1), (.int (0 : Int32))] 2) := fun t k => pre0 t (by
    refine st11 _ ?_
    refine XS.ifYes X11.here hx rfl (pc0 := 3) (pc' := 28) rfl (hb hby d15_3) rfl ((if0 _ _).trans (feq (by decide : ¬ ((1 : Int32) = (0 : Int32)))).2) (by decide) (by decide) ?_
    refine XS.iloadN X11.here hx rfl (hb hby d15_28) rfl ?_
    refine XS.iconst X11.here hx rfl (hb hby d15_29) ?_
    show oS p e below T11 (mkF m 30 #[oR t1, oI 0] [oi 1, oi 0]) _
    refine XS.ishl X11.here hx rfl (hb hby d15_30) rfl ?_
    refine XS.istoreN X11.here hx rfl (hb hby d15_31) rfl (l' := #[oR t1, oI 0]) rfl ?_
    refine XS.aloadN X11.here hx rfl (hb hby d15_32) rfl rfl ?_
    refine XS.iloadN X11.here hx rfl (hb hby d15_33) rfl ?_
    show oS p e below T11 (mkF m 34 #[oR t1, oI 0] [oi 0, ow t1]) _
    refine XS.iinc X11.here hx rfl (hb hby d15_34) rfl (l' := #[oR t1, oI 1]) rfl ?_
    exact k)
  obtain ⟨cl13, Ar13, qc13, Sz13, Nn13, Hs13, Gs13⟩ := id V1
  have hin13 := inb_of (j := (0 : Int32)) Sz13 ⟨by decide, by decide⟩
  have pre14 : oL p e below T11 (mkF m 42 #[oR t1, oI 1] [oi (y0 &&& (255 : Int32))]) s₁ (entryFrame m #[(.ref t1), (.int (0 : Int32))] 2) := fun t k => pre12 t (by
    refine X11.baloadBytes hx (j := (0 : Int32)) (v := (.int y0)) (by rw [e11]; exact Ar13.1) (State.isArrayOf_alike hZ.alike Ar13.2.1) Ar13.2.2 hin13 (Hs13.at hin13 rfl) (g := (mkF m 37 #[oR t1, oI 1] [oi 0, ow t1])) rfl rfl (hb hby d15_37) _ ?_
    refine XS.sipush X11.here hx rfl (hb hby d15_38) ?_
    refine XS.iand X11.here hx rfl (hb hby d15_41) rfl ?_
    show oS p e below T11 (mkF m 42 #[oR t1, oI 1] [oi (y0 &&& (255 : Int32))]) _
    exact k)
  obtain ⟨T15, X15, e15, st15⟩ := getS2 X11 hx hZ hown (host := "") (Or.inl (oW hw 74 rfl)) Via.refl e11 (HB.ext OL.2) (g := (mkF m 42 #[oR t1, oI 1] [oi (y0 &&& (255 : Int32))])) rfl (hb hby d15_42)
  have pre16 : oL p e below T15 (mkF m 48 #[oR t1, oI 1] [oi 1, ow t1, oi ((y0 &&& (255 : Int32)) <<< ((0 : Int32) &&& 31))]) s₁ (entryFrame m #[(.ref t1), (.int (0 : Int32))] 2) := fun t k => pre14 t (by
    refine st15 _ ?_
    refine XS.ishl X15.here hx rfl (hb hby d15_45) rfl ?_
    refine XS.aloadN X15.here hx rfl (hb hby d15_46) rfl rfl ?_
    refine XS.iloadN X15.here hx rfl (hb hby d15_47) rfl ?_
    show oS p e below T15 (mkF m 48 #[oR t1, oI 1] [oi 1, ow t1, oi ((y0 &&& (255 : Int32)) <<< ((0 : Int32) &&& 31))]) _
    exact k)
  obtain ⟨cl17, Ar17, qc17, Sz17, Nn17, Hs17, Gs17⟩ := id V1
  have hin17 := inb_of (j := (1 : Int32)) Sz17 ⟨by decide, by decide⟩
  have pre18 : oL p e below T15 (mkF m 53 #[oR t1, oI 1] [oi (y1 &&& (255 : Int32)), oi ((y0 &&& (255 : Int32)) <<< ((0 : Int32) &&& 31))]) s₁ (entryFrame m #[(.ref t1), (.int (0 : Int32))] 2) := fun t k => pre16 t (by
    refine X15.baloadBytes hx (j := (1 : Int32)) (v := (.int y1)) (by rw [e15]; exact Ar17.1) (State.isArrayOf_alike hZ.alike Ar17.2.1) Ar17.2.2 hin17 (Hs17.at hin17 rfl) (g := (mkF m 48 #[oR t1, oI 1] [oi 1, ow t1, oi ((y0 &&& (255 : Int32)) <<< ((0 : Int32) &&& 31))])) rfl rfl (hb hby d15_48) _ ?_
    refine XS.sipush X15.here hx rfl (hb hby d15_49) ?_
    refine XS.iand X15.here hx rfl (hb hby d15_52) rfl ?_
    exact k)
  obtain ⟨T19, X19, e19, st19⟩ := getS2 X15 hx hZ hown (host := "") (Or.inl (oW hw 75 rfl)) Via.refl e15 (LB.ext OL.2) (g := (mkF m 53 #[oR t1, oI 1] [oi (y1 &&& (255 : Int32)), oi ((y0 &&& (255 : Int32)) <<< ((0 : Int32) &&& 31))])) rfl (hb hby d15_53)
  have pre20 : oL p e below T19 (mkF m 59 #[oR t1, oI 1] [oi ((((y0 &&& (255 : Int32)) <<< ((0 : Int32) &&& 31)) ||| ((y1 &&& (255 : Int32)) <<< ((8 : Int32) &&& 31))).toUInt32.toUInt16.toUInt32.toInt32)]) s₁ (entryFrame m #[(.ref t1), (.int (0 : Int32))] 2) := fun t k => pre18 t (by
    refine st19 _ ?_
    show oS p e below T19 (mkF m 56 #[oR t1, oI 1] [oi 8, oi (y1 &&& (255 : Int32)), oi ((y0 &&& (255 : Int32)) <<< ((0 : Int32) &&& 31))]) _
    refine XS.ishl X19.here hx rfl (hb hby d15_56) rfl ?_
    refine XS.ior X19.here hx rfl (hb hby d15_57) rfl ?_
    refine XS.i2c X19.here hx rfl (hb hby d15_58) rfl ?_
    exact k)
  obtain ⟨fs, hr, hrun, hended, hW, hsame⟩ := X19.leave (v := some (.int (nar .char ((((y0 &&& (255 : Int32)) <<< ((0 : Int32) &&& 31)) ||| ((y1 &&& (255 : Int32)) <<< ((8 : Int32) &&& 31))).toUInt32.toUInt16.toUInt32.toInt32)))) (fun h => by rw [Bd.returns] at h; cases h)
  refine ⟨_, _, pre20 _ ?_, hrun, hended, _, _, rfl, ?_, ⟨_, rfl⟩, hW, hsame.mono (by decide) (by decide)⟩
  ·
    show oS p e below T19 (mkF m 59 #[oR t1, oI 1] [oi ((((y0 &&& (255 : Int32)) <<< ((0 : Int32) &&& 31)) ||| ((y1 &&& (255 : Int32)) <<< ((8 : Int32) &&& 31))).toUInt32.toUInt16.toUInt32.toInt32)]) _
    exact retN X19 hx (t := .char) Bd.returns (by simp) (hb hby d15_59) hr
  ·
    show Q_rm_get3_0 Z t1 k1 y0 y1 y2 y3 y4 y5 h0 n0 _ T19.heap _
    rw [e19]
    exact ⟨rfl, N0, rfl⟩
def Q_rm_get3_1 (Z : State) (t1 : Addr) (k1 : ClassId) (y0 : Int32) (y1 : Int32) (y2 : Int32) (y3 : Int32) (y4 : Int32) (y5 : Int32) (h0 : Heap) (n0 : Nat) (v : Option Value) (h : Heap) (L : List Loc) : Prop := v = some (.int (own_gc y2 y3)) ∧ Fr n0 L ∧ h = h0
set_option maxRecDepth 65536 in
set_option maxHeartbeats 40000000 in
theorem rm_get3_1 (l : Launch) (Z : State) (a0 : Array Value) (hw : ∀ d ∈ tables_1, d.before a0 Z = true) (ws : List Jvm.Cond) (t1 : Addr) (k1 : ClassId) (y0 : Int32) (y1 : Int32) (y2 : Int32) (y3 : Int32) (y4 : Int32) (y5 : Int32) (h0 : Heap) (n0 : Nat) (OL : Old Z n0 h0) (AD : Sta Z Z.heap "java/lang/StringUTF16" "$assertionsDisabled" "Z" (.int (1 : Int32))) (HB : Sta Z Z.heap "java/lang/StringUTF16" "HI_BYTE_SHIFT" "I" (.int (0 : Int32))) (LB : Sta Z Z.heap "java/lang/StringUTF16" "LO_BYTE_SHIFT" "I" (.int (8 : Int32))) (V1 : Arv Z h0 t1 k1 .byte (6 : Int32) [(.int y0), (.int y1), (.int y2), (.int y3), (.int y4), (.int y5)] (.int (0 : Int32))) :
    MetFree l (⟨"java/lang/StringUTF16", "getChar", "([BI)C"⟩ : MethodName) (head1 (Jvm.Cond.code (⟨"java/lang/StringUTF16", "getChar", "([BI)C"⟩ : MethodName) jdk_52_method_5_code 2 (some .char) :: ws) ({ frames := 0, cells := 0, slots := 0, locals := 0 } : Room)) (fun a U => a = #[(.ref t1), (.int (1 : Int32))] ∧ Z.Warmed39 U.vm ∧ U.heap = h0) (fun _ _ _ _ _ => True) (fun _ U o U' => ∃ v L, o = .returned v ∧ Q_rm_get3_1 Z t1 k1 y0 y1 y2 y3 y4 y5 h0 n0 v U'.heap L ∧ FrameEnd U o U' L ({ frames := 0, cells := 0, slots := 0, locals := 0 } : Room).cells ({ frames := 0, cells := 0, slots := 0, locals := 0 } : Room).slots) := by
  refine MetFree.of_bodySF (plainFor_of_name pn_java_lang_StringUTF16) hisR ?_
  intro p e s m args below meth c s₁ Bd hml0 hP hK
  obtain ⟨rfl, hZ, hh⟩ := hP
  have hx := Bd.exec
  have hby := Bd.bytes
  have hml : c.maxLocals = 2 := hml0
  have hown : s.vm.findClass "java/lang/StringUTF16" = some m.cls := findClass_of_methodNamed Bd.named
  have hnm := (name_of_methodNamed Bd.named Bd.method).1
  have X0 : Stand p l e ({ frames := 0, cells := 0, slots := 0, locals := 0 } : Room) s m #[(.ref t1), (.int (1 : Int32))] below meth c s₁ [] 0 0 := Stand.of_body Bd
  have e0 : s₁.heap = h0 := by rw [← hh, Bd.state]; rfl
  have N0 := Fr.nil n0
  have pre0 : oL p e below s₁ (mkF m 0 #[oR t1, oI 1] []) s₁ (entryFrame m #[(.ref t1), (.int (1 : Int32))] 2) := fun t k => castTop (by first | (simp [entryFrame, mkF, argsToLocals, Value.category]; done) | rfl) k
  obtain ⟨T11, X11, e11, st11⟩ := getS2 X0 hx hZ hown (host := "") (Or.inl (oW hw 73 rfl)) Via.refl e0 (AD.ext OL.2) (g := (mkF m 0 #[oR t1, oI 1] [])) rfl (hb hby d15_0)
  have pre12 : oL p e below T11 (mkF m 37 #[oR t1, oI 3] [oi 2, ow t1]) s₁ (entryFrame m #[(.ref t1), (.int (1 : Int32))] 2) := fun t k => pre0 t (by
    refine st11 _ ?_
    refine XS.ifYes X11.here hx rfl (pc0 := 3) (pc' := 28) rfl (hb hby d15_3) rfl ((if0 _ _).trans (feq (by decide : ¬ ((1 : Int32) = (0 : Int32)))).2) (by decide) (by decide) ?_
    refine XS.iloadN X11.here hx rfl (hb hby d15_28) rfl ?_
    refine XS.iconst X11.here hx rfl (hb hby d15_29) ?_
    show oS p e below T11 (mkF m 30 #[oR t1, oI 1] [oi 1, oi 1]) _
    refine XS.ishl X11.here hx rfl (hb hby d15_30) rfl ?_
    refine XS.istoreN X11.here hx rfl (hb hby d15_31) rfl (l' := #[oR t1, oI 2]) rfl ?_
    refine XS.aloadN X11.here hx rfl (hb hby d15_32) rfl rfl ?_
    refine XS.iloadN X11.here hx rfl (hb hby d15_33) rfl ?_
    show oS p e below T11 (mkF m 34 #[oR t1, oI 2] [oi 2, ow t1]) _
    refine XS.iinc X11.here hx rfl (hb hby d15_34) rfl (l' := #[oR t1, oI 3]) rfl ?_
    exact k)
  obtain ⟨cl13, Ar13, qc13, Sz13, Nn13, Hs13, Gs13⟩ := id V1
  have hin13 := inb_of (j := (2 : Int32)) Sz13 ⟨by decide, by decide⟩
  have pre14 : oL p e below T11 (mkF m 42 #[oR t1, oI 3] [oi (y2 &&& (255 : Int32))]) s₁ (entryFrame m #[(.ref t1), (.int (1 : Int32))] 2) := fun t k => pre12 t (by
    refine X11.baloadBytes hx (j := (2 : Int32)) (v := (.int y2)) (by rw [e11]; exact Ar13.1) (State.isArrayOf_alike hZ.alike Ar13.2.1) Ar13.2.2 hin13 (Hs13.at hin13 rfl) (g := (mkF m 37 #[oR t1, oI 3] [oi 2, ow t1])) rfl rfl (hb hby d15_37) _ ?_
    refine XS.sipush X11.here hx rfl (hb hby d15_38) ?_
    refine XS.iand X11.here hx rfl (hb hby d15_41) rfl ?_
    show oS p e below T11 (mkF m 42 #[oR t1, oI 3] [oi (y2 &&& (255 : Int32))]) _
    exact k)
  obtain ⟨T15, X15, e15, st15⟩ := getS2 X11 hx hZ hown (host := "") (Or.inl (oW hw 74 rfl)) Via.refl e11 (HB.ext OL.2) (g := (mkF m 42 #[oR t1, oI 3] [oi (y2 &&& (255 : Int32))])) rfl (hb hby d15_42)
  have pre16 : oL p e below T15 (mkF m 48 #[oR t1, oI 3] [oi 3, ow t1, oi ((y2 &&& (255 : Int32)) <<< ((0 : Int32) &&& 31))]) s₁ (entryFrame m #[(.ref t1), (.int (1 : Int32))] 2) := fun t k => pre14 t (by
    refine st15 _ ?_
    refine XS.ishl X15.here hx rfl (hb hby d15_45) rfl ?_
    refine XS.aloadN X15.here hx rfl (hb hby d15_46) rfl rfl ?_
    refine XS.iloadN X15.here hx rfl (hb hby d15_47) rfl ?_
    show oS p e below T15 (mkF m 48 #[oR t1, oI 3] [oi 3, ow t1, oi ((y2 &&& (255 : Int32)) <<< ((0 : Int32) &&& 31))]) _
    exact k)
  obtain ⟨cl17, Ar17, qc17, Sz17, Nn17, Hs17, Gs17⟩ := id V1
  have hin17 := inb_of (j := (3 : Int32)) Sz17 ⟨by decide, by decide⟩
  have pre18 : oL p e below T15 (mkF m 53 #[oR t1, oI 3] [oi (y3 &&& (255 : Int32)), oi ((y2 &&& (255 : Int32)) <<< ((0 : Int32) &&& 31))]) s₁ (entryFrame m #[(.ref t1), (.int (1 : Int32))] 2) := fun t k => pre16 t (by
    refine X15.baloadBytes hx (j := (3 : Int32)) (v := (.int y3)) (by rw [e15]; exact Ar17.1) (State.isArrayOf_alike hZ.alike Ar17.2.1) Ar17.2.2 hin17 (Hs17.at hin17 rfl) (g := (mkF m 48 #[oR t1, oI 3] [oi 3, ow t1, oi ((y2 &&& (255 : Int32)) <<< ((0 : Int32) &&& 31))])) rfl rfl (hb hby d15_48) _ ?_
    refine XS.sipush X15.here hx rfl (hb hby d15_49) ?_
    refine XS.iand X15.here hx rfl (hb hby d15_52) rfl ?_
    exact k)
  obtain ⟨T19, X19, e19, st19⟩ := getS2 X15 hx hZ hown (host := "") (Or.inl (oW hw 75 rfl)) Via.refl e15 (LB.ext OL.2) (g := (mkF m 53 #[oR t1, oI 3] [oi (y3 &&& (255 : Int32)), oi ((y2 &&& (255 : Int32)) <<< ((0 : Int32) &&& 31))])) rfl (hb hby d15_53)
  have pre20 : oL p e below T19 (mkF m 59 #[oR t1, oI 3] [oi ((((y2 &&& (255 : Int32)) <<< ((0 : Int32) &&& 31)) ||| ((y3 &&& (255 : Int32)) <<< ((8 : Int32) &&& 31))).toUInt32.toUInt16.toUInt32.toInt32)]) s₁ (entryFrame m #[(.ref t1), (.int (1 : Int32))] 2) := fun t k => pre18 t (by
    refine st19 _ ?_
    show oS p e below T19 (mkF m 56 #[oR t1, oI 3] [oi 8, oi (y3 &&& (255 : Int32)), oi ((y2 &&& (255 : Int32)) <<< ((0 : Int32) &&& 31))]) _
    refine XS.ishl X19.here hx rfl (hb hby d15_56) rfl ?_
    refine XS.ior X19.here hx rfl (hb hby d15_57) rfl ?_
    refine XS.i2c X19.here hx rfl (hb hby d15_58) rfl ?_
    exact k)
  obtain ⟨fs, hr, hrun, hended, hW, hsame⟩ := X19.leave (v := some (.int (nar .char ((((y2 &&& (255 : Int32)) <<< ((0 : Int32) &&& 31)) ||| ((y3 &&& (255 : Int32)) <<< ((8 : Int32) &&& 31))).toUInt32.toUInt16.toUInt32.toInt32)))) (fun h => by rw [Bd.returns] at h; cases h)
  refine ⟨_, _, pre20 _ ?_, hrun, hended, _, _, rfl, ?_, ⟨_, rfl⟩, hW, hsame.mono (by decide) (by decide)⟩
  ·
    show oS p e below T19 (mkF m 59 #[oR t1, oI 3] [oi ((((y2 &&& (255 : Int32)) <<< ((0 : Int32) &&& 31)) ||| ((y3 &&& (255 : Int32)) <<< ((8 : Int32) &&& 31))).toUInt32.toUInt16.toUInt32.toInt32)]) _
    exact retN X19 hx (t := .char) Bd.returns (by simp) (hb hby d15_59) hr
  ·
    show Q_rm_get3_1 Z t1 k1 y0 y1 y2 y3 y4 y5 h0 n0 _ T19.heap _
    rw [e19]
    exact ⟨rfl, N0, rfl⟩
def Q_rm_get3_2 (Z : State) (t1 : Addr) (k1 : ClassId) (y0 : Int32) (y1 : Int32) (y2 : Int32) (y3 : Int32) (y4 : Int32) (y5 : Int32) (h0 : Heap) (n0 : Nat) (v : Option Value) (h : Heap) (L : List Loc) : Prop := v = some (.int (own_gc y4 y5)) ∧ Fr n0 L ∧ h = h0
set_option maxRecDepth 65536 in
set_option maxHeartbeats 40000000 in
theorem rm_get3_2 (l : Launch) (Z : State) (a0 : Array Value) (hw : ∀ d ∈ tables_1, d.before a0 Z = true) (ws : List Jvm.Cond) (t1 : Addr) (k1 : ClassId) (y0 : Int32) (y1 : Int32) (y2 : Int32) (y3 : Int32) (y4 : Int32) (y5 : Int32) (h0 : Heap) (n0 : Nat) (OL : Old Z n0 h0) (AD : Sta Z Z.heap "java/lang/StringUTF16" "$assertionsDisabled" "Z" (.int (1 : Int32))) (HB : Sta Z Z.heap "java/lang/StringUTF16" "HI_BYTE_SHIFT" "I" (.int (0 : Int32))) (LB : Sta Z Z.heap "java/lang/StringUTF16" "LO_BYTE_SHIFT" "I" (.int (8 : Int32))) (V1 : Arv Z h0 t1 k1 .byte (6 : Int32) [(.int y0), (.int y1), (.int y2), (.int y3), (.int y4), (.int y5)] (.int (0 : Int32))) :
    MetFree l (⟨"java/lang/StringUTF16", "getChar", "([BI)C"⟩ : MethodName) (head1 (Jvm.Cond.code (⟨"java/lang/StringUTF16", "getChar", "([BI)C"⟩ : MethodName) jdk_52_method_5_code 2 (some .char) :: ws) ({ frames := 0, cells := 0, slots := 0, locals := 0 } : Room)) (fun a U => a = #[(.ref t1), (.int (2 : Int32))] ∧ Z.Warmed39 U.vm ∧ U.heap = h0) (fun _ _ _ _ _ => True) (fun _ U o U' => ∃ v L, o = .returned v ∧ Q_rm_get3_2 Z t1 k1 y0 y1 y2 y3 y4 y5 h0 n0 v U'.heap L ∧ FrameEnd U o U' L ({ frames := 0, cells := 0, slots := 0, locals := 0 } : Room).cells ({ frames := 0, cells := 0, slots := 0, locals := 0 } : Room).slots) := by
  refine MetFree.of_bodySF (plainFor_of_name pn_java_lang_StringUTF16) hisR ?_
  intro p e s m args below meth c s₁ Bd hml0 hP hK
  obtain ⟨rfl, hZ, hh⟩ := hP
  have hx := Bd.exec
  have hby := Bd.bytes
  have hml : c.maxLocals = 2 := hml0
  have hown : s.vm.findClass "java/lang/StringUTF16" = some m.cls := findClass_of_methodNamed Bd.named
  have hnm := (name_of_methodNamed Bd.named Bd.method).1
  have X0 : Stand p l e ({ frames := 0, cells := 0, slots := 0, locals := 0 } : Room) s m #[(.ref t1), (.int (2 : Int32))] below meth c s₁ [] 0 0 := Stand.of_body Bd
  have e0 : s₁.heap = h0 := by rw [← hh, Bd.state]; rfl
  have N0 := Fr.nil n0
  have pre0 : oL p e below s₁ (mkF m 0 #[oR t1, oI 2] []) s₁ (entryFrame m #[(.ref t1), (.int (2 : Int32))] 2) := fun t k => castTop (by first | (simp [entryFrame, mkF, argsToLocals, Value.category]; done) | rfl) k
  obtain ⟨T11, X11, e11, st11⟩ := getS2 X0 hx hZ hown (host := "") (Or.inl (oW hw 73 rfl)) Via.refl e0 (AD.ext OL.2) (g := (mkF m 0 #[oR t1, oI 2] [])) rfl (hb hby d15_0)
  have pre12 : oL p e below T11 (mkF m 37 #[oR t1, oI 5] [oi 4, ow t1]) s₁ (entryFrame m #[(.ref t1), (.int (2 : Int32))] 2) := fun t k => pre0 t (by
    refine st11 _ ?_
    refine XS.ifYes X11.here hx rfl (pc0 := 3) (pc' := 28) rfl (hb hby d15_3) rfl ((if0 _ _).trans (feq (by decide : ¬ ((1 : Int32) = (0 : Int32)))).2) (by decide) (by decide) ?_
    refine XS.iloadN X11.here hx rfl (hb hby d15_28) rfl ?_
    refine XS.iconst X11.here hx rfl (hb hby d15_29) ?_
    show oS p e below T11 (mkF m 30 #[oR t1, oI 2] [oi 1, oi 2]) _
    refine XS.ishl X11.here hx rfl (hb hby d15_30) rfl ?_
    refine XS.istoreN X11.here hx rfl (hb hby d15_31) rfl (l' := #[oR t1, oI 4]) rfl ?_
    refine XS.aloadN X11.here hx rfl (hb hby d15_32) rfl rfl ?_
    refine XS.iloadN X11.here hx rfl (hb hby d15_33) rfl ?_
    show oS p e below T11 (mkF m 34 #[oR t1, oI 4] [oi 4, ow t1]) _
    refine XS.iinc X11.here hx rfl (hb hby d15_34) rfl (l' := #[oR t1, oI 5]) rfl ?_
    exact k)
  obtain ⟨cl13, Ar13, qc13, Sz13, Nn13, Hs13, Gs13⟩ := id V1
  have hin13 := inb_of (j := (4 : Int32)) Sz13 ⟨by decide, by decide⟩
  have pre14 : oL p e below T11 (mkF m 42 #[oR t1, oI 5] [oi (y4 &&& (255 : Int32))]) s₁ (entryFrame m #[(.ref t1), (.int (2 : Int32))] 2) := fun t k => pre12 t (by
    refine X11.baloadBytes hx (j := (4 : Int32)) (v := (.int y4)) (by rw [e11]; exact Ar13.1) (State.isArrayOf_alike hZ.alike Ar13.2.1) Ar13.2.2 hin13 (Hs13.at hin13 rfl) (g := (mkF m 37 #[oR t1, oI 5] [oi 4, ow t1])) rfl rfl (hb hby d15_37) _ ?_
    refine XS.sipush X11.here hx rfl (hb hby d15_38) ?_
    refine XS.iand X11.here hx rfl (hb hby d15_41) rfl ?_
    show oS p e below T11 (mkF m 42 #[oR t1, oI 5] [oi (y4 &&& (255 : Int32))]) _
    exact k)
  obtain ⟨T15, X15, e15, st15⟩ := getS2 X11 hx hZ hown (host := "") (Or.inl (oW hw 74 rfl)) Via.refl e11 (HB.ext OL.2) (g := (mkF m 42 #[oR t1, oI 5] [oi (y4 &&& (255 : Int32))])) rfl (hb hby d15_42)
  have pre16 : oL p e below T15 (mkF m 48 #[oR t1, oI 5] [oi 5, ow t1, oi ((y4 &&& (255 : Int32)) <<< ((0 : Int32) &&& 31))]) s₁ (entryFrame m #[(.ref t1), (.int (2 : Int32))] 2) := fun t k => pre14 t (by
    refine st15 _ ?_
    refine XS.ishl X15.here hx rfl (hb hby d15_45) rfl ?_
    refine XS.aloadN X15.here hx rfl (hb hby d15_46) rfl rfl ?_
    refine XS.iloadN X15.here hx rfl (hb hby d15_47) rfl ?_
    show oS p e below T15 (mkF m 48 #[oR t1, oI 5] [oi 5, ow t1, oi ((y4 &&& (255 : Int32)) <<< ((0 : Int32) &&& 31))]) _
    exact k)
  obtain ⟨cl17, Ar17, qc17, Sz17, Nn17, Hs17, Gs17⟩ := id V1
  have hin17 := inb_of (j := (5 : Int32)) Sz17 ⟨by decide, by decide⟩
  have pre18 : oL p e below T15 (mkF m 53 #[oR t1, oI 5] [oi (y5 &&& (255 : Int32)), oi ((y4 &&& (255 : Int32)) <<< ((0 : Int32) &&& 31))]) s₁ (entryFrame m #[(.ref t1), (.int (2 : Int32))] 2) := fun t k => pre16 t (by
    refine X15.baloadBytes hx (j := (5 : Int32)) (v := (.int y5)) (by rw [e15]; exact Ar17.1) (State.isArrayOf_alike hZ.alike Ar17.2.1) Ar17.2.2 hin17 (Hs17.at hin17 rfl) (g := (mkF m 48 #[oR t1, oI 5] [oi 5, ow t1, oi ((y4 &&& (255 : Int32)) <<< ((0 : Int32) &&& 31))])) rfl rfl (hb hby d15_48) _ ?_
    refine XS.sipush X15.here hx rfl (hb hby d15_49) ?_
    refine XS.iand X15.here hx rfl (hb hby d15_52) rfl ?_
    exact k)
  obtain ⟨T19, X19, e19, st19⟩ := getS2 X15 hx hZ hown (host := "") (Or.inl (oW hw 75 rfl)) Via.refl e15 (LB.ext OL.2) (g := (mkF m 53 #[oR t1, oI 5] [oi (y5 &&& (255 : Int32)), oi ((y4 &&& (255 : Int32)) <<< ((0 : Int32) &&& 31))])) rfl (hb hby d15_53)
  have pre20 : oL p e below T19 (mkF m 59 #[oR t1, oI 5] [oi ((((y4 &&& (255 : Int32)) <<< ((0 : Int32) &&& 31)) ||| ((y5 &&& (255 : Int32)) <<< ((8 : Int32) &&& 31))).toUInt32.toUInt16.toUInt32.toInt32)]) s₁ (entryFrame m #[(.ref t1), (.int (2 : Int32))] 2) := fun t k => pre18 t (by
    refine st19 _ ?_
    show oS p e below T19 (mkF m 56 #[oR t1, oI 5] [oi 8, oi (y5 &&& (255 : Int32)), oi ((y4 &&& (255 : Int32)) <<< ((0 : Int32) &&& 31))]) _
    refine XS.ishl X19.here hx rfl (hb hby d15_56) rfl ?_
    refine XS.ior X19.here hx rfl (hb hby d15_57) rfl ?_
    refine XS.i2c X19.here hx rfl (hb hby d15_58) rfl ?_
    exact k)
  obtain ⟨fs, hr, hrun, hended, hW, hsame⟩ := X19.leave (v := some (.int (nar .char ((((y4 &&& (255 : Int32)) <<< ((0 : Int32) &&& 31)) ||| ((y5 &&& (255 : Int32)) <<< ((8 : Int32) &&& 31))).toUInt32.toUInt16.toUInt32.toInt32)))) (fun h => by rw [Bd.returns] at h; cases h)
  refine ⟨_, _, pre20 _ ?_, hrun, hended, _, _, rfl, ?_, ⟨_, rfl⟩, hW, hsame.mono (by decide) (by decide)⟩
  ·
    show oS p e below T19 (mkF m 59 #[oR t1, oI 5] [oi ((((y4 &&& (255 : Int32)) <<< ((0 : Int32) &&& 31)) ||| ((y5 &&& (255 : Int32)) <<< ((8 : Int32) &&& 31))).toUInt32.toUInt16.toUInt32.toInt32)]) _
    exact retN X19 hx (t := .char) Bd.returns (by simp) (hb hby d15_59) hr
  ·
    show Q_rm_get3_2 Z t1 k1 y0 y1 y2 y3 y4 y5 h0 n0 _ T19.heap _
    rw [e19]
    exact ⟨rfl, N0, rfl⟩
def Q_rm_cfl3 (Z : State) (t1 : Addr) (k1 : ClassId) (y0 : Int32) (y1 : Int32) (y2 : Int32) (y3 : Int32) (y4 : Int32) (y5 : Int32) (h0 : Heap) (n0 : Nat) (v : Option Value) (h : Heap) (L : List Loc) : Prop := v = some (.int (1 : Int32)) ∧ Fr n0 L ∧ h = h0
set_option maxRecDepth 65536 in
set_option maxHeartbeats 40000000 in
theorem rm_cfl3 (l : Launch) (Z : State) (a0 : Array Value) (hw : ∀ d ∈ tables_1, d.before a0 Z = true) (ws : List Jvm.Cond) (t1 : Addr) (k1 : ClassId) (y0 : Int32) (y1 : Int32) (y2 : Int32) (y3 : Int32) (y4 : Int32) (y5 : Int32) (h0 : Heap) (n0 : Nat) (OL : Old Z n0 h0) (V1 : Arv Z h0 t1 k1 .byte (6 : Int32) [(.int y0), (.int y1), (.int y2), (.int y3), (.int y4), (.int y5)] (.int (0 : Int32))) :
    MetFree l (⟨"java/lang/StringUTF16", "coderFromArrayLen", "([BI)B"⟩ : MethodName) (head1 (Jvm.Cond.code (⟨"java/lang/StringUTF16", "coderFromArrayLen", "([BI)B"⟩ : MethodName) jdk_52_method_15_code 2 (some .byte) :: ws) ({ frames := 0, cells := 0, slots := 0, locals := 0 } : Room)) (fun a U => a = #[(.ref t1), (.int (3 : Int32))] ∧ Z.Warmed39 U.vm ∧ U.heap = h0) (fun _ _ _ _ _ => True) (fun _ U o U' => ∃ v L, o = .returned v ∧ Q_rm_cfl3 Z t1 k1 y0 y1 y2 y3 y4 y5 h0 n0 v U'.heap L ∧ FrameEnd U o U' L ({ frames := 0, cells := 0, slots := 0, locals := 0 } : Room).cells ({ frames := 0, cells := 0, slots := 0, locals := 0 } : Room).slots) := by
  refine MetFree.of_bodySF (plainFor_of_name pn_java_lang_StringUTF16) hisR ?_
  intro p e s m args below meth c s₁ Bd hml0 hP hK
  obtain ⟨rfl, hZ, hh⟩ := hP
  have hx := Bd.exec
  have hby := Bd.bytes
  have hml : c.maxLocals = 2 := hml0
  have hown : s.vm.findClass "java/lang/StringUTF16" = some m.cls := findClass_of_methodNamed Bd.named
  have hnm := (name_of_methodNamed Bd.named Bd.method).1
  have X0 : Stand p l e ({ frames := 0, cells := 0, slots := 0, locals := 0 } : Room) s m #[(.ref t1), (.int (3 : Int32))] below meth c s₁ [] 0 0 := Stand.of_body Bd
  have e0 : s₁.heap = h0 := by rw [← hh, Bd.state]; rfl
  have N0 := Fr.nil n0
  have pre0 : oL p e below s₁ (mkF m 0 #[oR t1, oI 3] []) s₁ (entryFrame m #[(.ref t1), (.int (3 : Int32))] 2) := fun t k => castTop (by first | (simp [entryFrame, mkF, argsToLocals, Value.category]; done) | rfl) k
  have pre12 : oL p e below s₁ (mkF m 2 #[oR t1, oI 3] [ow t1, oi 3]) s₁ (entryFrame m #[(.ref t1), (.int (3 : Int32))] 2) := fun t k => pre0 t (by
    refine XS.iloadN X0.here hx rfl (hb hby d7_0) rfl ?_
    refine XS.aloadN X0.here hx rfl (hb hby d7_1) rfl rfl ?_
    exact k)
  obtain ⟨cl11, Ar11, -, Sz11, Nn11, -, -⟩ := id V1
  have pre13 : oL p e below s₁ (mkF m 8 #[oR t1, oI 3] [oi 1]) s₁ (entryFrame m #[(.ref t1), (.int (3 : Int32))] 2) := fun t k => pre12 t (by
    refine X0.arraylength hx (by rw [e0]; exact Ar11.1) (State.isArrayOf_alike hZ.alike Ar11.2.1) (g := (mkF m 2 #[oR t1, oI 3] [ow t1, oi 3])) rfl rfl (hb hby d7_2) _ ?_
    rw [len_of Sz11 Nn11]
    refine XS.isub X0.here hx rfl (hb hby d7_3) rfl ?_
    show oS p e below s₁ (mkF m 4 #[oR t1, oI 3] [oi (-3)]) _
    refine XS.bipush X0.here hx rfl (hb hby d7_4) ?_
    refine XS.iushr X0.here hx rfl (hb hby d7_6) rfl ?_
    refine XS.i2b X0.here hx rfl (hb hby d7_7) rfl ?_
    exact k)
  obtain ⟨fs, hr, hrun, hended, hW, hsame⟩ := X0.leave (v := some (.int (1 : Int32))) (fun h => by rw [Bd.returns] at h; cases h)
  refine ⟨_, _, pre13 _ ?_, hrun, hended, _, _, rfl, ?_, ⟨_, rfl⟩, hW, hsame.mono (by decide) (by decide)⟩
  ·
    show oS p e below s₁ (mkF m 8 #[oR t1, oI 3] [oi 1]) _
    exact retN X0 hx (t := .byte) Bd.returns (by simp) (hb hby d7_8) hr
  ·
    show Q_rm_cfl3 Z t1 k1 y0 y1 y2 y3 y4 y5 h0 n0 _ s₁.heap _
    rw [e0]
    exact ⟨rfl, N0, rfl⟩
def Q_rm_cfl3L (Z : State) (t1 : Addr) (k1 : ClassId) (z0 : Int32) (z1 : Int32) (z2 : Int32) (h0 : Heap) (n0 : Nat) (v : Option Value) (h : Heap) (L : List Loc) : Prop := v = some (.int (0 : Int32)) ∧ Fr n0 L ∧ h = h0
set_option maxRecDepth 65536 in
set_option maxHeartbeats 40000000 in
theorem rm_cfl3L (l : Launch) (Z : State) (a0 : Array Value) (hw : ∀ d ∈ tables_1, d.before a0 Z = true) (ws : List Jvm.Cond) (t1 : Addr) (k1 : ClassId) (z0 : Int32) (z1 : Int32) (z2 : Int32) (h0 : Heap) (n0 : Nat) (OL : Old Z n0 h0) (V1 : Arv Z h0 t1 k1 .byte (3 : Int32) [(.int z0), (.int z1), (.int z2)] (.int (0 : Int32))) :
    MetFree l (⟨"java/lang/StringUTF16", "coderFromArrayLen", "([BI)B"⟩ : MethodName) (head1 (Jvm.Cond.code (⟨"java/lang/StringUTF16", "coderFromArrayLen", "([BI)B"⟩ : MethodName) jdk_52_method_15_code 2 (some .byte) :: ws) ({ frames := 0, cells := 0, slots := 0, locals := 0 } : Room)) (fun a U => a = #[(.ref t1), (.int (3 : Int32))] ∧ Z.Warmed39 U.vm ∧ U.heap = h0) (fun _ _ _ _ _ => True) (fun _ U o U' => ∃ v L, o = .returned v ∧ Q_rm_cfl3L Z t1 k1 z0 z1 z2 h0 n0 v U'.heap L ∧ FrameEnd U o U' L ({ frames := 0, cells := 0, slots := 0, locals := 0 } : Room).cells ({ frames := 0, cells := 0, slots := 0, locals := 0 } : Room).slots) := by
  refine MetFree.of_bodySF (plainFor_of_name pn_java_lang_StringUTF16) hisR ?_
  intro p e s m args below meth c s₁ Bd hml0 hP hK
  obtain ⟨rfl, hZ, hh⟩ := hP
  have hx := Bd.exec
  have hby := Bd.bytes
  have hml : c.maxLocals = 2 := hml0
  have hown : s.vm.findClass "java/lang/StringUTF16" = some m.cls := findClass_of_methodNamed Bd.named
  have hnm := (name_of_methodNamed Bd.named Bd.method).1
  have X0 : Stand p l e ({ frames := 0, cells := 0, slots := 0, locals := 0 } : Room) s m #[(.ref t1), (.int (3 : Int32))] below meth c s₁ [] 0 0 := Stand.of_body Bd
  have e0 : s₁.heap = h0 := by rw [← hh, Bd.state]; rfl
  have N0 := Fr.nil n0
  have pre0 : oL p e below s₁ (mkF m 0 #[oR t1, oI 3] []) s₁ (entryFrame m #[(.ref t1), (.int (3 : Int32))] 2) := fun t k => castTop (by first | (simp [entryFrame, mkF, argsToLocals, Value.category]; done) | rfl) k
  have pre12 : oL p e below s₁ (mkF m 2 #[oR t1, oI 3] [ow t1, oi 3]) s₁ (entryFrame m #[(.ref t1), (.int (3 : Int32))] 2) := fun t k => pre0 t (by
    refine XS.iloadN X0.here hx rfl (hb hby d7_0) rfl ?_
    refine XS.aloadN X0.here hx rfl (hb hby d7_1) rfl rfl ?_
    exact k)
  obtain ⟨cl11, Ar11, -, Sz11, Nn11, -, -⟩ := id V1
  have pre13 : oL p e below s₁ (mkF m 8 #[oR t1, oI 3] [oi 0]) s₁ (entryFrame m #[(.ref t1), (.int (3 : Int32))] 2) := fun t k => pre12 t (by
    refine X0.arraylength hx (by rw [e0]; exact Ar11.1) (State.isArrayOf_alike hZ.alike Ar11.2.1) (g := (mkF m 2 #[oR t1, oI 3] [ow t1, oi 3])) rfl rfl (hb hby d7_2) _ ?_
    rw [len_of Sz11 Nn11]
    refine XS.isub X0.here hx rfl (hb hby d7_3) rfl ?_
    show oS p e below s₁ (mkF m 4 #[oR t1, oI 3] [oi 0]) _
    refine XS.bipush X0.here hx rfl (hb hby d7_4) ?_
    refine XS.iushr X0.here hx rfl (hb hby d7_6) rfl ?_
    refine XS.i2b X0.here hx rfl (hb hby d7_7) rfl ?_
    exact k)
  obtain ⟨fs, hr, hrun, hended, hW, hsame⟩ := X0.leave (v := some (.int (0 : Int32))) (fun h => by rw [Bd.returns] at h; cases h)
  refine ⟨_, _, pre13 _ ?_, hrun, hended, _, _, rfl, ?_, ⟨_, rfl⟩, hW, hsame.mono (by decide) (by decide)⟩
  ·
    show oS p e below s₁ (mkF m 8 #[oR t1, oI 3] [oi 0]) _
    exact retN X0 hx (t := .byte) Bd.returns (by simp) (hb hby d7_8) hr
  ·
    show Q_rm_cfl3L Z t1 k1 z0 z1 z2 h0 n0 _ s₁.heap _
    rw [e0]
    exact ⟨rfl, N0, rfl⟩
def Q_rm_c5_3_0 (Z : State) (a1 : Addr) (k1 : ClassId) (t1 : Addr) (k2 : ClassId) (c0 : Int32) (c1 : Int32) (c2 : Int32) (h0 : Heap) (n0 : Nat) (v : Option Value) (h : Heap) (L : List Loc) : Prop := v = some (.int (0 : Int32)) ∧ Fr n0 L ∧ Keep h0 h [t1]
set_option maxRecDepth 65536 in
set_option maxHeartbeats 40000000 in
theorem rm_c5_3_0 (l : Launch) (Z : State) (a0 : Array Value) (hw : ∀ d ∈ tables_1, d.before a0 Z = true) (ws : List Jvm.Cond) (a1 : Addr) (k1 : ClassId) (t1 : Addr) (k2 : ClassId) (c0 : Int32) (c1 : Int32) (c2 : Int32) (h0 : Heap) (n0 : Nat) (OL : Old Z n0 h0) (ge1 : n0 ≤ t1) (V1 : Arv Z h0 a1 k1 .char (3 : Int32) [(.int c0), (.int c1), (.int c2)] (.int (0 : Int32))) (V2 : Arv Z h0 t1 k2 .byte (3 : Int32) [(.int (0 : Int32)), (.int (0 : Int32)), (.int (0 : Int32))] (.int (0 : Int32))) (ne1 : a1 ≠ t1) (hg : (255 : Int32) < c0) :
    MetFree l (⟨"java/lang/StringUTF16", "compress", "([CI[BII)I"⟩ : MethodName) (head1 (Jvm.Cond.code (⟨"java/lang/StringUTF16", "compress", "([CI[BII)I"⟩ : MethodName) jdk_52_method_21_code 7 (some .int) :: ws) ({ frames := 0, cells := 0, slots := 0, locals := 0 } : Room)) (fun a U => a = #[(.ref a1), (.int (0 : Int32)), (.ref t1), (.int (0 : Int32)), (.int (3 : Int32))] ∧ Z.Warmed39 U.vm ∧ U.heap = h0) (fun _ _ _ _ _ => True) (fun _ U o U' => ∃ v L, o = .returned v ∧ Q_rm_c5_3_0 Z a1 k1 t1 k2 c0 c1 c2 h0 n0 v U'.heap L ∧ FrameEnd U o U' L ({ frames := 0, cells := 0, slots := 0, locals := 0 } : Room).cells ({ frames := 0, cells := 0, slots := 0, locals := 0 } : Room).slots) := by
  refine MetFree.of_bodySF (plainFor_of_name pn_java_lang_StringUTF16) hisR ?_
  intro p e s m args below meth c s₁ Bd hml0 hP hK
  obtain ⟨rfl, hZ, hh⟩ := hP
  have hx := Bd.exec
  have hby := Bd.bytes
  have hml : c.maxLocals = 7 := hml0
  have hown : s.vm.findClass "java/lang/StringUTF16" = some m.cls := findClass_of_methodNamed Bd.named
  have hnm := (name_of_methodNamed Bd.named Bd.method).1
  have X0 : Stand p l e ({ frames := 0, cells := 0, slots := 0, locals := 0 } : Room) s m #[(.ref a1), (.int (0 : Int32)), (.ref t1), (.int (0 : Int32)), (.int (3 : Int32))] below meth c s₁ [] 0 0 := Stand.of_body Bd
  have e0 : s₁.heap = h0 := by rw [← hh, Bd.state]; rfl
  have N0 := Fr.nil n0
  have pre0 : oL p e below s₁ (mkF m 0 #[oR a1, oI 0, oR t1, oI 0, oI 3, oU, oU] []) s₁ (entryFrame m #[(.ref a1), (.int (0 : Int32)), (.ref t1), (.int (0 : Int32)), (.int (3 : Int32))] 7) := fun t k => castTop (by first | (simp [entryFrame, mkF, argsToLocals, Value.category]; done) | rfl) k
  have pre11 : oL p e below s₁ (mkF m 12 #[oR a1, oI 0, oR t1, oI 0, oI 3, oI 0, oU] [oi 0, ow a1]) s₁ (entryFrame m #[(.ref a1), (.int (0 : Int32)), (.ref t1), (.int (0 : Int32)), (.int (3 : Int32))] 7) := fun t k => pre0 t (by
    refine XS.iconst X0.here hx rfl (hb hby d6_0) ?_
    refine XS.istore X0.here hx rfl (hb hby d6_1) rfl (l' := #[oR a1, oI 0, oR t1, oI 0, oI 3, oI 0, oU]) rfl ?_
    refine XS.iload X0.here hx rfl (hb hby d6_3) rfl ?_
    refine XS.iload X0.here hx rfl (hb hby d6_5) rfl ?_
    show oS p e below s₁ (mkF m 7 #[oR a1, oI 0, oR t1, oI 0, oI 3, oI 0, oU] [oi 3, oi 0]) _
    refine XS.icmpNo X0.here hx rfl (hb hby d6_7) rfl (tlt (by decide : (0 : Int32) < (3 : Int32))).2.1 ?_
    refine XS.aloadN X0.here hx rfl (hb hby d6_10) rfl rfl ?_
    refine XS.iloadN X0.here hx rfl (hb hby d6_11) rfl ?_
    exact k)
  obtain ⟨cl12, Ar12, qc12, Sz12, Nn12, Hs12, Gs12⟩ := id V1
  have hin12 := inb_of (j := (0 : Int32)) Sz12 ⟨by decide, by decide⟩
  have pre13 : oL p e below s₁ (mkF m 25 #[oR a1, oI 0, oR t1, oI 0, oI 3, oI 0, oI c0] [oi 0]) s₁ (entryFrame m #[(.ref a1), (.int (0 : Int32)), (.ref t1), (.int (0 : Int32)), (.int (3 : Int32))] 7) := fun t k => pre11 t (by
    refine X0.caload hx (j := (0 : Int32)) (v := (.int c0)) (by rw [e0]; exact Ar12.1) (State.isArrayOf_alike hZ.alike Ar12.2.1) Ar12.2.2 hin12 (Hs12.at hin12 rfl) (g := (mkF m 12 #[oR a1, oI 0, oR t1, oI 0, oI 3, oI 0, oU] [oi 0, ow a1])) rfl rfl (hb hby d6_12) _ ?_
    show oS p e below s₁ (mkF m 13 #[oR a1, oI 0, oR t1, oI 0, oI 3, oI 0, oU] [oi c0]) _
    refine XS.istore X0.here hx rfl (hb hby d6_13) rfl (l' := #[oR a1, oI 0, oR t1, oI 0, oI 3, oI 0, oI c0]) rfl ?_
    refine XS.iload X0.here hx rfl (hb hby d6_15) rfl ?_
    refine XS.sipush X0.here hx rfl (hb hby d6_17) ?_
    refine XS.icmpNo X0.here hx rfl (hb hby d6_20) rfl (tlt hg).2.2.2 ?_
    show oS p e below s₁ (mkF m 23 #[oR a1, oI 0, oR t1, oI 0, oI 3, oI 0, oI c0] []) _
    refine XS.iload X0.here hx rfl (hb hby d6_23) rfl ?_
    exact k)
  obtain ⟨fs, hr, hrun, hended, hW, hsame⟩ := X0.leave (v := some (.int (0 : Int32))) (fun h => by rw [Bd.returns] at h; cases h)
  refine ⟨_, _, pre13 _ ?_, hrun, hended, _, _, rfl, ?_, ⟨_, rfl⟩, hW, hsame.mono (by decide) (by decide)⟩
  ·
    show oS p e below s₁ (mkF m 25 #[oR a1, oI 0, oR t1, oI 0, oI 3, oI 0, oI c0] [oi 0]) _
    exact retI X0 hx Bd.returns (hb hby d6_25) hr
  ·
    show Q_rm_c5_3_0 Z a1 k1 t1 k2 c0 c1 c2 h0 n0 _ s₁.heap _
    rw [e0]
    exact ⟨rfl, N0, (Keep.refl h0 [t1])⟩
def Q_rm_cmp_3_0 (Z : State) (a1 : Addr) (k1 : ClassId) (c0 : Int32) (c1 : Int32) (c2 : Int32) (h0 : Heap) (n0 : Nat) (v : Option Value) (h : Heap) (L : List Loc) : Prop := ∃ (r : Addr) (kr : ClassId), v = some (.ref r) ∧ Fr n0 L ∧ Keep h0 h [] ∧ h0.size ≤ r ∧ Arv Z h r kr .byte (6 : Int32) [(.int (own_hb c0)), (.int (own_lb c0)), (.int (own_hb c1)), (.int (own_lb c1)), (.int (own_hb c2)), (.int (own_lb c2))] (.int (0 : Int32))
set_option maxRecDepth 65536 in
set_option maxHeartbeats 40000000 in
theorem rm_cmp_3_0 (l : Launch) (Z : State) (a0 : Array Value) (hw : ∀ d ∈ tables_1, d.before a0 Z = true) (ws : List Jvm.Cond) (a1 : Addr) (k1 : ClassId) (c0 : Int32) (c1 : Int32) (c2 : Int32) (h0 : Heap) (n0 : Nat) (OL : Old Z n0 h0) (AD : Sta Z Z.heap "java/lang/StringUTF16" "$assertionsDisabled" "Z" (.int (1 : Int32))) (HB : Sta Z Z.heap "java/lang/StringUTF16" "HI_BYTE_SHIFT" "I" (.int (0 : Int32))) (LB : Sta Z Z.heap "java/lang/StringUTF16" "LO_BYTE_SHIFT" "I" (.int (8 : Int32))) (V1 : Arv Z h0 a1 k1 .char (3 : Int32) [(.int c0), (.int c1), (.int c2)] (.int (0 : Int32))) (hg : (255 : Int32) < c0) (nc0 : nar .char c0 = c0) (nc1 : nar .char c1 = c1) (nc2 : nar .char c2 = c2) :
    MetFree l (⟨"java/lang/StringUTF16", "compress", "([CII)[B"⟩ : MethodName) (head1 (Jvm.Cond.code (⟨"java/lang/StringUTF16", "compress", "([CII)[B"⟩ : MethodName) jdk_52_method_16_code 6 (some (.array .byte)) :: ws) ({ frames := 3, cells := 2, slots := 9, locals := 40 } : Room)) (fun a U => a = #[(.ref a1), (.int (0 : Int32)), (.int (3 : Int32))] ∧ Z.Warmed39 U.vm ∧ U.heap = h0) (fun _ _ _ _ _ => True) (fun _ U o U' => ∃ v L, o = .returned v ∧ Q_rm_cmp_3_0 Z a1 k1 c0 c1 c2 h0 n0 v U'.heap L ∧ FrameEnd U o U' L ({ frames := 3, cells := 2, slots := 9, locals := 40 } : Room).cells ({ frames := 3, cells := 2, slots := 9, locals := 40 } : Room).slots) := by
  refine MetFree.of_bodySF (plainFor_of_name pn_java_lang_StringUTF16) hisR ?_
  intro p e s m args below meth c s₁ Bd hml0 hP hK
  obtain ⟨rfl, hZ, hh⟩ := hP
  have hx := Bd.exec
  have hby := Bd.bytes
  have hml : c.maxLocals = 6 := hml0
  have hown : s.vm.findClass "java/lang/StringUTF16" = some m.cls := findClass_of_methodNamed Bd.named
  have hnm := (name_of_methodNamed Bd.named Bd.method).1
  have X0 : Stand p l e ({ frames := 3, cells := 2, slots := 9, locals := 40 } : Room) s m #[(.ref a1), (.int (0 : Int32)), (.int (3 : Int32))] below meth c s₁ [] 0 0 := Stand.of_body Bd
  have e0 : s₁.heap = h0 := by rw [← hh, Bd.state]; rfl
  have N0 := Fr.nil n0
  have pre0 : oL p e below s₁ (mkF m 0 #[oR a1, oI 0, oI 3, oU, oU, oU] []) s₁ (entryFrame m #[(.ref a1), (.int (0 : Int32)), (.int (3 : Int32))] 6) := fun t k => castTop (by first | (simp [entryFrame, mkF, argsToLocals, Value.category]; done) | rfl) k
  have pre11 : oL p e below s₁ (mkF m 1 #[oR a1, oI 0, oI 3, oU, oU, oU] [oi 3]) s₁ (entryFrame m #[(.ref a1), (.int (0 : Int32)), (.int (3 : Int32))] 6) := fun t k => pre0 t (by
    refine XS.iloadN X0.here hx rfl (hb hby d5_0) rfl ?_
    exact k)
  obtain ⟨T12, h12, k12, X12, e12, E12, A12, st12⟩ := newP X0 hx hZ (oW hw 26 rfl) e0 (g := (mkF m 1 #[oR a1, oI 0, oI 3, oU, oU, oU] [oi 3])) rfl (hb hby d5_1) rfl (by decide) (cap := 3) (by decide) (by decide) (by decide) (by decide)
  obtain ⟨b12, g12⟩ : ∃ z, z = h0.size := ⟨_, rfl⟩
  rw [← g12] at A12 st12
  have ne13 : a1 ≠ b12 := Nat.ne_of_lt (Nat.lt_of_lt_of_le V1.lt (Nat.le_of_eq g12.symm))
  have ge_b12 : n0 ≤ b12 := Nat.le_trans (OL.1 ▸ OL.2.1) (Nat.le_of_eq g12.symm)
  have sz_b12 : h0.size ≤ b12 := Nat.le_trans (Keep.refl h0 []).1 (Nat.le_of_eq g12.symm)
  have f14 := V1.ext E12
  have OL15 := OL.ext E12
  have K16 : Keep h0 h12 [] := (Keep.refl h0 []).ext E12
  have V12 : Arv Z h12 b12 k12 .byte (3 : Int32) [(.int (0 : Int32)), (.int (0 : Int32)), (.int (0 : Int32))] (.int (0 : Int32)) := (Arv.new A12 (by decide)).pad (pad_rep [] (.int (0 : Int32)) 3)
  have pre17 : oL p e below T12 (mkF m 9 #[oR a1, oI 0, oI 3, oR b12, oU, oU] [oi 3, oi 0, ow b12, oi 0, ow a1]) s₁ (entryFrame m #[(.ref a1), (.int (0 : Int32)), (.int (3 : Int32))] 6) := fun t k => pre11 t (by
    refine st12 _ ?_
    refine XS.astoreN X12.here hx rfl (hb hby d5_3) rfl rfl (l' := #[oR a1, oI 0, oI 3, oR b12, oU, oU]) rfl ?_
    refine XS.aloadN X12.here hx rfl (hb hby d5_4) rfl rfl ?_
    show oS p e below T12 (mkF m 5 #[oR a1, oI 0, oI 3, oR b12, oU, oU] [ow a1]) _
    refine XS.iloadN X12.here hx rfl (hb hby d5_5) rfl ?_
    refine XS.aloadN X12.here hx rfl (hb hby d5_6) rfl rfl ?_
    refine XS.iconst X12.here hx rfl (hb hby d5_7) ?_
    refine XS.iloadN X12.here hx rfl (hb hby d5_8) rfl ?_
    show oS p e below T12 (mkF m 9 #[oR a1, oI 0, oI 3, oR b12, oU, oU] [oi 3, oi 0, ow b12, oi 0, ow a1]) _
    exact k)
  obtain ⟨_, _, ⟨T18, L18, k18, n18⟩, -, X18, ⟨Lc18, hQ18, l18, y18, z18⟩, st18⟩ := Jvm.LawKit.callS X12 hx (y := (⟨"java/lang/StringUTF16", "compress", "([CI[BII)I"⟩ : MethodName)) hown (mvT hZ (oW hw 27 rfl)) (mvT hZ (oW hw 28 rfl)) (mvT hZ (oW hw 24 rfl)) (mvT hZ (oW hw 29 rfl)) (by decide) (backOf (W := 0) (rm_c5_3_0 l Z a0 hw [] a1 k1 b12 k12 c0 c1 c2 h12 n0 OL15 ge_b12 f14 V12 ne13  hg) hZ (oW hw 29 rfl) (oW hw 24 rfl) (by decide) (by decide)) (g := (mkF m 9 #[oR a1, oI 0, oI 3, oR b12, oU, oU] [oi 3, oi 0, ow b12, oi 0, ow a1])) rfl (by rw [hml]; rfl) (argsL := [(.ref a1), (.int (0 : Int32)), (.ref b12), (.int (0 : Int32)), (.int (3 : Int32))]) (rest := []) (lenOf pd___CI_BII_I rfl) rfl (by show 2 * 0 + _ ≤ _; exact Nat.le_of_eq rfl) (hb hby d5_9) (fun _ _ => ⟨rfl, e12, (by decide : 1 + 0 ≤ _), (by decide : 3 + 0 ≤ _)⟩)
  dsimp only [Pt.U, Pt.locs, Pt.cells, Pt.slots] at X18 l18 y18 z18 st18 hQ18
  subst l18 y18 z18
  obtain ⟨rfl, N18q, Kq18⟩ := hQ18
  have N18 := Fr.app N0 N18q
  have f19 := f14.keep Kq18 (ninS ne13 nin0)
  have OL20 := OL15.keep Kq18 (allS ge_b12 all0)
  have K21 : Keep h0 T18.heap [] := K16.trans Kq18 (allS (Or.inr sz_b12) all0)
  have pre22 : oL p e below T18 (mkF m 23 #[oR a1, oI 0, oI 3, oR b12, oI 0, oU] [oi 3, oi 0, ow a1]) s₁ (entryFrame m #[(.ref a1), (.int (0 : Int32)), (.int (3 : Int32))] 6) := fun t k => pre17 t (by
    refine st18 _ ?_
    refine XS.istore X18.here hx rfl (hb hby d5_12) rfl (l' := #[oR a1, oI 0, oI 3, oR b12, oI 0, oU]) rfl ?_
    refine XS.iload X18.here hx rfl (hb hby d5_14) rfl ?_
    refine XS.iloadN X18.here hx rfl (hb hby d5_16) rfl ?_
    show oS p e below T18 (mkF m 17 #[oR a1, oI 0, oI 3, oR b12, oI 0, oU] [oi 3, oi 0]) _
    refine XS.icmpNo X18.here hx rfl (hb hby d5_17) rfl (feq (by decide : ¬ ((0 : Int32) = (3 : Int32)))).1 ?_
    refine XS.aloadN X18.here hx rfl (hb hby d5_20) rfl rfl ?_
    refine XS.iloadN X18.here hx rfl (hb hby d5_21) rfl ?_
    refine XS.iloadN X18.here hx rfl (hb hby d5_22) rfl ?_
    show oS p e below T18 (mkF m 23 #[oR a1, oI 0, oI 3, oR b12, oI 0, oU] [oi 3, oi 0, ow a1]) _
    exact k)
  obtain ⟨_, _, ⟨T23, L23, k23, n23⟩, -, X23, ⟨Lc23, hQ23, l23, y23, z23⟩, st23⟩ := Jvm.LawKit.callS X18 hx (y := (⟨"java/lang/StringUTF16", "toBytes", "([CII)[B"⟩ : MethodName)) hown (mvT hZ (oW hw 60 rfl)) (mvT hZ (oW hw 61 rfl)) (mvT hZ (oW hw 24 rfl)) (mvT hZ (oW hw 62 rfl)) (by decide) (backOf (W := 0) (rm_tob3 l Z a0 hw [] a1 k1 c0 c1 c2 T18.heap n0 OL20 AD HB LB f19) hZ (oW hw 62 rfl) (oW hw 24 rfl) (by decide) (by decide)) (g := (mkF m 23 #[oR a1, oI 0, oI 3, oR b12, oI 0, oU] [oi 3, oi 0, ow a1])) rfl (by rw [hml]; rfl) (argsL := [(.ref a1), (.int (0 : Int32)), (.int (3 : Int32))]) (rest := []) (lenOf pd___CII__B rfl) rfl (by show 2 * 0 + _ ≤ _; exact Nat.le_of_eq rfl) (hb hby d5_23) (fun _ _ => ⟨rfl, rfl, (by decide : 1 + 1 ≤ _), (by decide : 3 + 6 ≤ _)⟩)
  dsimp only [Pt.U, Pt.locs, Pt.cells, Pt.slots] at X23 l23 y23 z23 st23 hQ23
  subst l23 y23 z23
  obtain ⟨r23, kr23, rfl, N23q, Kq23, sq23, Va23⟩ := hQ23
  have N23 := Fr.app N18 N23q
  have ne24 : a1 ≠ r23 := Nat.ne_of_lt (Nat.lt_of_lt_of_le f19.lt sq23)
  have ge_r23 : n0 ≤ r23 := Nat.le_trans (OL20.1 ▸ OL20.2.1) sq23
  have sz_r23 : h0.size ≤ r23 := Nat.le_trans K21.1 sq23
  have f25 := f19.keep Kq23 nin0
  have OL26 := OL20.keep Kq23 all0
  have K27 : Keep h0 T23.heap [] := K21.trans Kq23 all0
  have pre28 : oL p e below T23 (mkF m 32 #[oR a1, oI 0, oI 3, oR b12, oI 0, oR r23] [oi 0, ow r23]) s₁ (entryFrame m #[(.ref a1), (.int (0 : Int32)), (.int (3 : Int32))] 6) := fun t k => pre22 t (by
    refine st23 _ ?_
    refine XS.astore X23.here hx rfl (hb hby d5_26) rfl rfl (l' := #[oR a1, oI 0, oI 3, oR b12, oI 0, oR r23]) rfl ?_
    refine XS.aload X23.here hx rfl (hb hby d5_28) rfl rfl ?_
    refine XS.iload X23.here hx rfl (hb hby d5_30) rfl ?_
    show oS p e below T23 (mkF m 32 #[oR a1, oI 0, oI 3, oR b12, oI 0, oR r23] [oi 0, ow r23]) _
    exact k)
  obtain ⟨_, _, ⟨T29, L29, k29, n29⟩, -, X29, ⟨Lc29, hQ29, l29, y29, z29⟩, st29⟩ := Jvm.LawKit.callS X23 hx (y := (⟨"java/lang/StringUTF16", "getChar", "([BI)C"⟩ : MethodName)) hown (mvT hZ (oW hw 76 rfl)) (mvT hZ (oW hw 77 rfl)) (mvT hZ (oW hw 24 rfl)) (mvT hZ (oW hw 78 rfl)) (by decide) (backOf (W := 0) (rm_get3_0 l Z a0 hw [] r23 kr23 (own_hb c0) (own_lb c0) (own_hb c1) (own_lb c1) (own_hb c2) (own_lb c2) T23.heap n0 OL26 AD HB LB Va23) hZ (oW hw 78 rfl) (oW hw 24 rfl) (by decide) (by decide)) (g := (mkF m 32 #[oR a1, oI 0, oI 3, oR b12, oI 0, oR r23] [oi 0, ow r23])) rfl (by rw [hml]; rfl) (argsL := [(.ref r23), (.int (0 : Int32))]) (rest := []) (lenOf pd___BI_C rfl) rfl (by show 2 * 0 + _ ≤ _; exact Nat.le_of_eq rfl) (hb hby d5_32) (fun _ _ => ⟨rfl, rfl, (by decide : 2 + 0 ≤ _), (by decide : 9 + 0 ≤ _)⟩)
  dsimp only [Pt.U, Pt.locs, Pt.cells, Pt.slots] at X29 l29 y29 z29 st29 hQ29
  subst l29 y29 z29
  obtain ⟨rfl, N29q, e29⟩ := hQ29
  have N29 := Fr.app N23 N29q
  have pre30 : oL p e below T29 (mkF m 56 #[oR a1, oI 0, oI 3, oR b12, oI 0, oR r23] [ow r23]) s₁ (entryFrame m #[(.ref a1), (.int (0 : Int32)), (.int (3 : Int32))] 6) := fun t k => pre28 t (by
    refine st29 _ ?_
    refine XS.sipush X29.here hx rfl (hb hby d5_35) ?_
    refine XS.icmpYes X29.here hx rfl (pc0 := 38) (pc' := 54) rfl (hb hby d5_38) rfl (tlt (own_gcg _ nc0 hg)).2.2.1 (by decide) (by decide) ?_
    refine XS.aload X29.here hx rfl (hb hby d5_54) rfl rfl ?_
    show oS p e below T29 (mkF m 56 #[oR a1, oI 0, oI 3, oR b12, oI 0, oR r23] [ow r23]) _
    exact k)
  obtain ⟨fs, hr, hrun, hended, hW, hsame⟩ := X29.leave (v := some (.ref r23)) (fun h => by rw [Bd.returns] at h; cases h)
  refine ⟨_, _, pre30 _ ?_, hrun, hended, _, _, rfl, ?_, ⟨_, rfl⟩, hW, hsame.mono (by decide) (by decide)⟩
  ·
    show oS p e below T29 (mkF m 56 #[oR a1, oI 0, oI 3, oR b12, oI 0, oR r23] [ow r23]) _
    jvm_step X29.here [X29.here.top, hx, (hb hby d5_56), X29.method', Bd.returns, Value.isRef, FieldType.isReference]
    first | (intro acts; rw [hr _ acts rfl rfl rfl]) | rw [hr _ _ rfl rfl rfl]
    exact Steps.refl _
  ·
    show Q_rm_cmp_3_0 Z a1 k1 c0 c1 c2 h0 n0 _ T29.heap _
    rw [e29]
    exact ⟨r23, kr23, rfl, N29, K27, sz_r23, Va23⟩
def Q_S3 (Z : State) (a1 : Addr) (a2 : Addr) (k2 : ClassId) (G1 : Int32) (c0 : Int32) (c1 : Int32) (c2 : Int32) (h0 : Heap) (n0 : Nat) (v : Option Value) (h : Heap) (L : List Loc) : Prop := v = none ∧ Fr n0 L ∧ Keep h0 h [a1] ∧ Exa Z h a1 "java/lang/String" ∧ ∃ (cd : Int32) (t : Addr) (kb : ClassId) (N : Int32) (vs : List Value), Fld Z h a1 "java/lang/String" "coder" "B" (.int cd) ∧ h0.size ≤ t ∧ ¬ t = a1 ∧ Fld Z h a1 "java/lang/String" "value" "[B" (.ref t) ∧ Arv Z h t kb .byte N vs (.int (0 : Int32)) ∧ ((cd = 0 ∧ N = 3 ∧ vs = [(.int (nar .byte (c0.toInt8.toInt32))), (.int (nar .byte (c1.toInt8.toInt32))), (.int (nar .byte (c2.toInt8.toInt32)))] ∧ ¬ ((255 : Int32) < c0) ∧ ¬ ((255 : Int32) < c1) ∧ ¬ ((255 : Int32) < c2)) ∨ (cd = 1 ∧ ((255 : Int32) < c0 ∨ (255 : Int32) < c1 ∨ (255 : Int32) < c2)))
set_option maxRecDepth 65536 in
set_option maxHeartbeats 40000000 in
theorem rm_si_3_0 (l : Launch) (Z : State) (a0 : Array Value) (hw : ∀ d ∈ tables_1, d.before a0 Z = true) (ws : List Jvm.Cond) (a1 : Addr) (a2 : Addr) (k2 : ClassId) (G1 : Int32) (c0 : Int32) (c1 : Int32) (c2 : Int32) (h0 : Heap) (n0 : Nat) (OL : Old Z n0 h0) (AD : Sta Z Z.heap "java/lang/StringUTF16" "$assertionsDisabled" "Z" (.int (1 : Int32))) (HB : Sta Z Z.heap "java/lang/StringUTF16" "HI_BYTE_SHIFT" "I" (.int (0 : Int32))) (LB : Sta Z Z.heap "java/lang/StringUTF16" "LO_BYTE_SHIFT" "I" (.int (8 : Int32))) (O2 : Sta Z Z.heap "java/lang/String" "COMPACT_STRINGS" "Z" (.int G1)) (P5 : ¬ (G1 = (0 : Int32))) (ge1 : n0 ≤ a1) (E1 : Exa Z h0 a1 "java/lang/String") (F1 : Fld Z h0 a1 "java/lang/String" "value" "[B" .null) (F2 : Fld Z h0 a1 "java/lang/String" "coder" "B" (.int (0 : Int32))) (V2 : Arv Z h0 a2 k2 .char (3 : Int32) [(.int c0), (.int c1), (.int c2)] (.int (0 : Int32))) (hg : (255 : Int32) < c0) (nc0 : nar .char c0 = c0) (nc1 : nar .char c1 = c1) (nc2 : nar .char c2 = c2) :
    MetFree l (⟨"java/lang/String", "<init>", "([CIILjava/lang/Void;)V"⟩ : MethodName) (head1 (Jvm.Cond.code (⟨"java/lang/String", "<init>", "([CIILjava/lang/Void;)V"⟩ : MethodName) jdk_42_method_149_code 6 none :: ws) ({ frames := 4, cells := 2, slots := 9, locals := 57 } : Room)) (fun a U => a = #[(.ref a1), (.ref a2), (.int (0 : Int32)), (.int (3 : Int32)), .null] ∧ Z.Warmed39 U.vm ∧ U.heap = h0) (fun _ _ _ _ _ => True) (fun _ U o U' => ∃ v L, o = .returned v ∧ Q_S3 Z a1 a2 k2 G1 c0 c1 c2 h0 n0 v U'.heap L ∧ FrameEnd U o U' L ({ frames := 4, cells := 2, slots := 9, locals := 57 } : Room).cells ({ frames := 4, cells := 2, slots := 9, locals := 57 } : Room).slots) := by
  refine MetFree.of_bodySF (plainFor_of_name pn_java_lang_String) hisR ?_
  intro p e s m args below meth c s₁ Bd hml0 hP hK
  obtain ⟨rfl, hZ, hh⟩ := hP
  have hx := Bd.exec
  have hby := Bd.bytes
  have hml : c.maxLocals = 6 := hml0
  have hown : s.vm.findClass "java/lang/String" = some m.cls := findClass_of_methodNamed Bd.named
  have hnm := (name_of_methodNamed Bd.named Bd.method).1
  have X0 : Stand p l e ({ frames := 4, cells := 2, slots := 9, locals := 57 } : Room) s m #[(.ref a1), (.ref a2), (.int (0 : Int32)), (.int (3 : Int32)), .null] below meth c s₁ [] 0 0 := Stand.of_body Bd
  have e0 : s₁.heap = h0 := by rw [← hh, Bd.state]; rfl
  have N0 := Fr.nil n0
  have pre0 : oL p e below s₁ (mkF m 0 #[oR a1, oR a2, oI 0, oI 3, oN, oU] []) s₁ (entryFrame m #[(.ref a1), (.ref a2), (.int (0 : Int32)), (.int (3 : Int32)), .null] 6) := fun t k => castTop (by first | (simp [entryFrame, mkF, argsToLocals, Value.category]; done) | rfl) k
  have own_ne : a2 ≠ a1 := (Exa.neArv E1 V2 (oW hw 9 rfl)).symm
  have pre11 : oL p e below s₁ (mkF m 1 #[oR a1, oR a2, oI 0, oI 3, oN, oU] [ow a1]) s₁ (entryFrame m #[(.ref a1), (.ref a2), (.int (0 : Int32)), (.int (3 : Int32)), .null] 6) := fun t k => pre0 t (by
    refine XS.aloadN X0.here hx rfl (hb hby d3_0) rfl rfl ?_
    exact k)
  obtain ⟨T12, X12, e12, st12⟩ := initO X0 hx hZ hown (oW hw 18 rfl) (oW hw 19 rfl) (oW hw 20 rfl) e0 (g := (mkF m 1 #[oR a1, oR a2, oI 0, oI 3, oN, oU] [ow a1])) rfl (by rw [hml]; rfl) rfl (hb hby d3_1) (by decide) (W := 0) (by show 2 * 0 + _ ≤ _; exact Nat.le_of_eq rfl) (by decide)
  have pre13 : oL p e below T12 (mkF m 27 #[oR a1, oR a2, oI 0, oI 3, oN, oU] []) s₁ (entryFrame m #[(.ref a1), (.ref a2), (.int (0 : Int32)), (.int (3 : Int32)), .null] 6) := fun t k => pre11 t (by
    refine st12 _ ?_
    refine XS.iloadN X12.here hx rfl (hb hby d3_4) rfl ?_
    refine XS.ifYes X12.here hx rfl (pc0 := 5) (pc' := 27) rfl (hb hby d3_5) rfl ((if0 _ _).trans (feq (by decide : ¬ ((3 : Int32) = (0 : Int32)))).2) (by decide) (by decide) ?_
    show oS p e below T12 (mkF m 27 #[oR a1, oR a2, oI 0, oI 3, oN, oU] []) _
    exact k)
  obtain ⟨T14, X14, e14, st14⟩ := getS2 X12 hx hZ hown (host := "") (Or.inl (oW hw 21 rfl)) Via.refl e12 (O2.ext OL.2) (g := (mkF m 27 #[oR a1, oR a2, oI 0, oI 3, oN, oU] [])) rfl (hb hby d3_27)
  have pre15 : oL p e below T14 (mkF m 36 #[oR a1, oR a2, oI 0, oI 3, oN, oU] [oi 3, oi 0, ow a2]) s₁ (entryFrame m #[(.ref a1), (.ref a2), (.int (0 : Int32)), (.int (3 : Int32)), .null] 6) := fun t k => pre13 t (by
    refine st14 _ ?_
    refine XS.ifNo X14.here hx rfl (hb hby d3_30) rfl ((if0 _ _).trans (feq P5).1) ?_
    refine XS.aloadN X14.here hx rfl (hb hby d3_33) rfl rfl ?_
    refine XS.iloadN X14.here hx rfl (hb hby d3_34) rfl ?_
    show oS p e below T14 (mkF m 35 #[oR a1, oR a2, oI 0, oI 3, oN, oU] [oi 0, ow a2]) _
    refine XS.iloadN X14.here hx rfl (hb hby d3_35) rfl ?_
    exact k)
  obtain ⟨_, _, ⟨T16, L16, k16, n16⟩, -, X16, ⟨Lc16, hQ16, l16, y16, z16⟩, st16⟩ := Jvm.LawKit.callS X14 hx (y := (⟨"java/lang/StringUTF16", "compress", "([CII)[B"⟩ : MethodName)) hown (mvT hZ (oW hw 22 rfl)) (mvT hZ (oW hw 23 rfl)) (mvT hZ (oW hw 24 rfl)) (mvT hZ (oW hw 25 rfl)) (by decide) (backOf (W := 0) (rm_cmp_3_0 l Z a0 hw [] a2 k2 c0 c1 c2 h0 n0 OL AD HB LB V2  hg nc0 nc1 nc2) hZ (oW hw 25 rfl) (oW hw 24 rfl) (by decide) (by decide)) (g := (mkF m 36 #[oR a1, oR a2, oI 0, oI 3, oN, oU] [oi 3, oi 0, ow a2])) rfl (by rw [hml]; rfl) (argsL := [(.ref a2), (.int (0 : Int32)), (.int (3 : Int32))]) (rest := []) (lenOf pd___CII__B rfl) rfl (by show 2 * 0 + _ ≤ _; exact Nat.le_of_eq rfl) (hb hby d3_36) (fun _ _ => ⟨rfl, e14, (by decide : 0 + 2 ≤ _), (by decide : 0 + 9 ≤ _)⟩)
  dsimp only [Pt.U, Pt.locs, Pt.cells, Pt.slots] at X16 l16 y16 z16 st16 hQ16
  subst l16 y16 z16
  obtain ⟨r16, kr16, rfl, N16q, Kq16, sq16, Va16⟩ := hQ16
  have N16 := Fr.app N0 N16q
  have ne17 : a1 ≠ r16 := Nat.ne_of_lt (Nat.lt_of_lt_of_le E1.lt sq16)
  have ne18 : a2 ≠ r16 := Nat.ne_of_lt (Nat.lt_of_lt_of_le V2.lt sq16)
  have ge_r16 : n0 ≤ r16 := Nat.le_trans (OL.1 ▸ OL.2.1) sq16
  have sz_r16 : h0.size ≤ r16 := Nat.le_trans (Keep.refl h0 [a1]).1 sq16
  have f19 := E1.keep Kq16
  have f20 := F1.keep Kq16 nin0
  have f21 := F2.keep Kq16 nin0
  have f22 := V2.keep Kq16 nin0
  have OL23 := OL.keep Kq16 all0
  have K24 : Keep h0 T16.heap [a1] := (Keep.refl h0 [a1]).trans Kq16 all0
  have pre25 : oL p e below T16 (mkF m 45 #[oR a1, oR a2, oI 0, oI 3, oN, oR r16] [oi 3, ow r16, ow a1]) s₁ (entryFrame m #[(.ref a1), (.ref a2), (.int (0 : Int32)), (.int (3 : Int32)), .null] 6) := fun t k => pre15 t (by
    refine st16 _ ?_
    refine XS.astore X16.here hx rfl (hb hby d3_39) rfl rfl (l' := #[oR a1, oR a2, oI 0, oI 3, oN, oR r16]) rfl ?_
    refine XS.aloadN X16.here hx rfl (hb hby d3_41) rfl rfl ?_
    show oS p e below T16 (mkF m 42 #[oR a1, oR a2, oI 0, oI 3, oN, oR r16] [ow a1]) _
    refine XS.aload X16.here hx rfl (hb hby d3_42) rfl rfl ?_
    refine XS.iloadN X16.here hx rfl (hb hby d3_44) rfl ?_
    exact k)
  obtain ⟨_, _, ⟨T26, L26, k26, n26⟩, -, X26, ⟨Lc26, hQ26, l26, y26, z26⟩, st26⟩ := Jvm.LawKit.callS X16 hx (y := (⟨"java/lang/StringUTF16", "coderFromArrayLen", "([BI)B"⟩ : MethodName)) hown (mvT hZ (oW hw 30 rfl)) (mvT hZ (oW hw 31 rfl)) (mvT hZ (oW hw 24 rfl)) (mvT hZ (oW hw 32 rfl)) (by decide) (backOf (W := 1) (rm_cfl3 l Z a0 hw [] r16 kr16 (own_hb c0) (own_lb c0) (own_hb c1) (own_lb c1) (own_hb c2) (own_lb c2) T16.heap n0 OL23 Va16) hZ (oW hw 32 rfl) (oW hw 24 rfl) (by decide) (by decide)) (g := (mkF m 45 #[oR a1, oR a2, oI 0, oI 3, oN, oR r16] [oi 3, ow r16, ow a1])) rfl (by rw [hml]; rfl) (argsL := [(.ref r16), (.int (3 : Int32))]) (rest := [(.ref a1)]) (lenOf pd___BI_B rfl) rfl (by show 2 * 0 + _ ≤ _; exact Nat.le_of_eq rfl) (hb hby d3_45) (fun _ _ => ⟨rfl, rfl, (by decide : 2 + 0 ≤ _), (by decide : 9 + 0 ≤ _)⟩)
  dsimp only [Pt.U, Pt.locs, Pt.cells, Pt.slots] at X26 l26 y26 z26 st26 hQ26
  subst l26 y26 z26
  obtain ⟨rfl, N26q, e26⟩ := hQ26
  have N26 := Fr.app N16 N26q
  have pre27 : oL p e below T26 (mkF m 48 #[oR a1, oR a2, oI 0, oI 3, oN, oR r16] [oi 1, ow a1]) s₁ (entryFrame m #[(.ref a1), (.ref a2), (.int (0 : Int32)), (.int (3 : Int32)), .null] 6) := fun t k => pre25 t (by
    refine st26 _ ?_
    exact k)
  obtain ⟨T28, h28, X28, e28, W28, st28⟩ := putFN X26 hx hZ hown (oW hw 33 rfl) Via.refl e26 f21 f19 (Or.inr ⟨(oW hw 34 rfl), rfl, hnm⟩) (oW hw 9 rfl) (ty := .byte) (v' := (.int (1 : Int32))) (by decide) rfl rfl (g := (mkF m 48 #[oR a1, oR a2, oI 0, oI 3, oN, oR r16] [oi 1, ow a1])) rfl rfl (hb hby d3_48)
  have f29 := f21.same W28
  have N28 := Fr.snoc X28 N26 ge1
  have f30 := f19.wr W28
  have f31 := f20.other W28 (Or.inr (slot_ne (Or.inr (oW hw 36 rfl)) (Or.inr (oW hw 34 rfl)) (by decide) (t := (.array .byte)) (t' := .byte) (by decide) (by decide)))
  have f32 := f22.other W28 own_ne
  have f33 := Va16.other W28 (Ne.symm ne17)
  have OL34 := OL23.wr W28 ge1
  have K35 : Keep h0 h28 [a1] := K24.wr W28 (Or.inl (List.mem_of_getElem? (i := 0) rfl))
  have pre36 : oL p e below T28 (mkF m 54 #[oR a1, oR a2, oI 0, oI 3, oN, oR r16] [ow r16, ow a1]) s₁ (entryFrame m #[(.ref a1), (.ref a2), (.int (0 : Int32)), (.int (3 : Int32)), .null] 6) := fun t k => pre27 t (by
    refine st28 _ ?_
    show oS p e below T28 (mkF m 51 #[oR a1, oR a2, oI 0, oI 3, oN, oR r16] []) _
    refine XS.aloadN X28.here hx rfl (hb hby d3_51) rfl rfl ?_
    refine XS.aload X28.here hx rfl (hb hby d3_52) rfl rfl ?_
    exact k)
  obtain ⟨T37, h37, X37, e37, W37, st37⟩ := putF X28 hx hZ hown (host := "") (Or.inl (oW hw 35 rfl)) Via.refl e28 f31 f30 (Or.inr ⟨(oW hw 36 rfl), rfl, hnm⟩) (oW hw 9 rfl) (ty := (.array .byte)) (by decide) rfl rfl (g := (mkF m 54 #[oR a1, oR a2, oI 0, oI 3, oN, oR r16] [ow r16, ow a1])) rfl rfl (hb hby d3_54)
  have f38 := f31.same W37
  have N37 := Fr.snoc X37 N28 ge1
  have f39 := f30.wr W37
  have f40 := f29.other W37 (Or.inr (slot_ne (Or.inr (oW hw 34 rfl)) (Or.inr (oW hw 36 rfl)) (by decide) (t := .byte) (t' := (.array .byte)) (by decide) (by decide)))
  have f41 := f32.other W37 own_ne
  have f42 := f33.other W37 (Ne.symm ne17)
  have OL43 := OL34.wr W37 ge1
  have K44 : Keep h0 h37 [a1] := K35.wr W37 (Or.inl (List.mem_of_getElem? (i := 0) rfl))
  have pre45 : oL p e below T37 (mkF m 57 #[oR a1, oR a2, oI 0, oI 3, oN, oR r16] []) s₁ (entryFrame m #[(.ref a1), (.ref a2), (.int (0 : Int32)), (.int (3 : Int32)), .null] 6) := fun t k => pre36 t (by
    refine st37 _ ?_
    exact k)
  obtain ⟨fs, hr, hrun, hended, hW, hsame⟩ := X37.leave (v := none) (fun _ => rfl)
  refine ⟨_, _, pre45 _ ?_, hrun, hended, _, _, rfl, ?_, ⟨_, rfl⟩, hW, hsame.mono (by decide) (by decide)⟩
  ·
    show oS p e below T37 (mkF m 57 #[oR a1, oR a2, oI 0, oI 3, oN, oR r16] []) _
    exact X37.returnOut hx Bd.returns (hb hby d3_57) hr
  ·
    show Q_S3 Z a1 a2 k2 G1 c0 c1 c2 h0 n0 _ T37.heap _
    rw [e37]
    exact ⟨rfl, N37, K44, f39, (1 : Int32), r16, kr16, (6 : Int32), [(.int (own_hb c0)), (.int (own_lb c0)), (.int (own_hb c1)), (.int (own_lb c1)), (.int (own_hb c2)), (.int (own_lb c2))], f40, sz_r16, fun q => ne17 q.symm, f38, f42, Or.inr ⟨rfl, Or.inl hg⟩⟩
set_option maxRecDepth 65536 in
set_option maxHeartbeats 40000000 in
theorem rm_s_3_0 (l : Launch) (Z : State) (a0 : Array Value) (hw : ∀ d ∈ tables_1, d.before a0 Z = true) (ws : List Jvm.Cond) (a1 : Addr) (a2 : Addr) (k2 : ClassId) (G1 : Int32) (c0 : Int32) (c1 : Int32) (c2 : Int32) (h0 : Heap) (n0 : Nat) (OL : Old Z n0 h0) (AD : Sta Z Z.heap "java/lang/StringUTF16" "$assertionsDisabled" "Z" (.int (1 : Int32))) (HB : Sta Z Z.heap "java/lang/StringUTF16" "HI_BYTE_SHIFT" "I" (.int (0 : Int32))) (LB : Sta Z Z.heap "java/lang/StringUTF16" "LO_BYTE_SHIFT" "I" (.int (8 : Int32))) (O2 : Sta Z Z.heap "java/lang/String" "COMPACT_STRINGS" "Z" (.int G1)) (P5 : ¬ (G1 = (0 : Int32))) (ge1 : n0 ≤ a1) (E1 : Exa Z h0 a1 "java/lang/String") (F1 : Fld Z h0 a1 "java/lang/String" "value" "[B" .null) (F2 : Fld Z h0 a1 "java/lang/String" "coder" "B" (.int (0 : Int32))) (V2 : Arv Z h0 a2 k2 .char (3 : Int32) [(.int c0), (.int c1), (.int c2)] (.int (0 : Int32))) (hg : (255 : Int32) < c0) (nc0 : nar .char c0 = c0) (nc1 : nar .char c1 = c1) (nc2 : nar .char c2 = c2) :
    MetFree l (⟨"java/lang/String", "<init>", "([C)V"⟩ : MethodName) (head1 (Jvm.Cond.code (⟨"java/lang/String", "<init>", "([C)V"⟩ : MethodName) jdk_42_method_3_code 2 none :: ws) ({ frames := 5, cells := 2, slots := 9, locals := 74 } : Room)) (fun a U => a = #[(.ref a1), (.ref a2)] ∧ Z.Warmed39 U.vm ∧ U.heap = h0) (fun _ _ _ _ _ => True) (fun _ U o U' => ∃ v L, o = .returned v ∧ Q_S3 Z a1 a2 k2 G1 c0 c1 c2 h0 n0 v U'.heap L ∧ FrameEnd U o U' L ({ frames := 5, cells := 2, slots := 9, locals := 74 } : Room).cells ({ frames := 5, cells := 2, slots := 9, locals := 74 } : Room).slots) := by
  refine MetFree.of_bodySF (plainFor_of_name pn_java_lang_String) hisR ?_
  intro p e s m args below meth c s₁ Bd hml0 hP hK
  obtain ⟨rfl, hZ, hh⟩ := hP
  have hx := Bd.exec
  have hby := Bd.bytes
  have hml : c.maxLocals = 2 := hml0
  have hown : s.vm.findClass "java/lang/String" = some m.cls := findClass_of_methodNamed Bd.named
  have hnm := (name_of_methodNamed Bd.named Bd.method).1
  have X0 : Stand p l e ({ frames := 5, cells := 2, slots := 9, locals := 74 } : Room) s m #[(.ref a1), (.ref a2)] below meth c s₁ [] 0 0 := Stand.of_body Bd
  have e0 : s₁.heap = h0 := by rw [← hh, Bd.state]; rfl
  have N0 := Fr.nil n0
  have pre0 : oL p e below s₁ (mkF m 0 #[oR a1, oR a2] []) s₁ (entryFrame m #[(.ref a1), (.ref a2)] 2) := fun t k => castTop (by first | (simp [entryFrame, mkF, argsToLocals, Value.category]; done) | rfl) k
  have own_ne : a2 ≠ a1 := (Exa.neArv E1 V2 (oW hw 9 rfl)).symm
  have pre12 : oL p e below s₁ (mkF m 4 #[oR a1, oR a2] [ow a2, oi 0, ow a2, ow a1]) s₁ (entryFrame m #[(.ref a1), (.ref a2)] 2) := fun t k => pre0 t (by
    refine XS.aloadN X0.here hx rfl (hb hby d2_0) rfl rfl ?_
    refine XS.aloadN X0.here hx rfl (hb hby d2_1) rfl rfl ?_
    refine XS.iconst X0.here hx rfl (hb hby d2_2) ?_
    refine XS.aloadN X0.here hx rfl (hb hby d2_3) rfl rfl ?_
    show oS p e below s₁ (mkF m 4 #[oR a1, oR a2] [ow a2, oi 0, ow a2, ow a1]) _
    exact k)
  obtain ⟨cl11, Ar11, -, Sz11, Nn11, -, -⟩ := id V2
  have pre13 : oL p e below s₁ (mkF m 6 #[oR a1, oR a2] [.null, oi 3, oi 0, ow a2, ow a1]) s₁ (entryFrame m #[(.ref a1), (.ref a2)] 2) := fun t k => pre12 t (by
    refine X0.arraylength hx (by rw [e0]; exact Ar11.1) (State.isArrayOf_alike hZ.alike Ar11.2.1) (g := (mkF m 4 #[oR a1, oR a2] [ow a2, oi 0, ow a2, ow a1])) rfl rfl (hb hby d2_4) _ ?_
    rw [len_of Sz11 Nn11]
    refine XS.aconstNull X0.here hx rfl (hb hby d2_5) ?_
    exact k)
  obtain ⟨_, _, ⟨T14, L14, k14, n14⟩, -, X14, ⟨Lc14, hQ14, l14, y14, z14⟩, st14⟩ := X0.specialBack hx (y := (⟨"java/lang/String", "<init>", "([CIILjava/lang/Void;)V"⟩ : MethodName)) rfl hown (mvT hZ (oW hw 14 rfl)) (mvT hZ (oW hw 15 rfl)) (mvT hZ (oW hw 17 rfl)) (by decide) (backOf (W := 0) (rm_si_3_0 l Z a0 hw [] a1 a2 k2 G1 c0 c1 c2 h0 n0 OL AD HB LB O2 P5 ge1 E1 F1 F2 V2  hg nc0 nc1 nc2) hZ (oW hw 17 rfl) (oW hw 10 rfl) (by decide) (by decide)) (g := (mkF m 6 #[oR a1, oR a2] [.null, oi 3, oi 0, ow a2, ow a1])) rfl (by rw [hml]; rfl) (Steps.refl _) (a := a1) (argsL := [(.ref a2), (.int (0 : Int32)), (.int (3 : Int32)), .null]) (rest := []) (lenOf pd___CIILjava_lang_Void__V rfl) rfl (by show 2 * 0 + _ ≤ _; exact Nat.le_of_eq rfl) (hb hby d2_6) (fun _ _ => ⟨rfl, e0, (by decide : 0 + 2 ≤ _), (by decide : 0 + 9 ≤ _)⟩)
  dsimp only [Pt.U, Pt.locs, Pt.cells, Pt.slots] at X14 l14 y14 z14 st14 hQ14
  subst l14 y14 z14
  obtain ⟨rfl, N14q, Kq14, Eq14, cd14, tt14, kb14, Nx14, vs14, Fc14, sq14, nx14, Fv14, Va14, ou14⟩ := hQ14
  have N14 := Fr.app N0 N14q
  have f15 := E1.keep Kq14
  have f16 := V2.keep Kq14 (ninS own_ne nin0)
  have OL17 := OL.keep Kq14 (allS ge1 all0)
  have K18 : Keep h0 T14.heap [a1] := (Keep.refl h0 [a1]).trans Kq14 (allS (Or.inl (List.mem_of_getElem? (i := 0) rfl)) all0)
  have pre19 : oL p e below T14 (mkF m 9 #[oR a1, oR a2] []) s₁ (entryFrame m #[(.ref a1), (.ref a2)] 2) := fun t k => pre13 t (by
    refine st14.trans ?_
    exact k)
  obtain ⟨fs, hr, hrun, hended, hW, hsame⟩ := X14.leave (v := none) (fun _ => rfl)
  refine ⟨_, _, pre19 _ ?_, hrun, hended, _, _, rfl, ?_, ⟨_, rfl⟩, hW, hsame.mono (by decide) (by decide)⟩
  ·
    show oS p e below T14 (mkF m 9 #[oR a1, oR a2] []) _
    exact X14.returnOut hx Bd.returns (hb hby d2_9) hr
  ·
    show Q_S3 Z a1 a2 k2 G1 c0 c1 c2 h0 n0 _ T14.heap _
    exact ⟨rfl, N14, K18, Eq14, cd14, tt14, kb14, Nx14, vs14, Fc14, Nat.le_trans (Keep.refl h0 [a1]).1 sq14, nx14, Fv14, Va14, ou14⟩
def Q_rm_c5_3_1 (Z : State) (a1 : Addr) (k1 : ClassId) (t1 : Addr) (k2 : ClassId) (c0 : Int32) (c1 : Int32) (c2 : Int32) (h0 : Heap) (n0 : Nat) (v : Option Value) (h : Heap) (L : List Loc) : Prop := v = some (.int (1 : Int32)) ∧ Fr n0 L ∧ Keep h0 h [t1]
set_option maxRecDepth 65536 in
set_option maxHeartbeats 40000000 in
theorem rm_c5_3_1 (l : Launch) (Z : State) (a0 : Array Value) (hw : ∀ d ∈ tables_1, d.before a0 Z = true) (ws : List Jvm.Cond) (a1 : Addr) (k1 : ClassId) (t1 : Addr) (k2 : ClassId) (c0 : Int32) (c1 : Int32) (c2 : Int32) (h0 : Heap) (n0 : Nat) (OL : Old Z n0 h0) (ge1 : n0 ≤ t1) (V1 : Arv Z h0 a1 k1 .char (3 : Int32) [(.int c0), (.int c1), (.int c2)] (.int (0 : Int32))) (V2 : Arv Z h0 t1 k2 .byte (3 : Int32) [(.int (0 : Int32)), (.int (0 : Int32)), (.int (0 : Int32))] (.int (0 : Int32))) (ne1 : a1 ≠ t1) (hl0 : ¬ ((255 : Int32) < c0)) (hg : (255 : Int32) < c1) :
    MetFree l (⟨"java/lang/StringUTF16", "compress", "([CI[BII)I"⟩ : MethodName) (head1 (Jvm.Cond.code (⟨"java/lang/StringUTF16", "compress", "([CI[BII)I"⟩ : MethodName) jdk_52_method_21_code 7 (some .int) :: ws) ({ frames := 0, cells := 0, slots := 0, locals := 0 } : Room)) (fun a U => a = #[(.ref a1), (.int (0 : Int32)), (.ref t1), (.int (0 : Int32)), (.int (3 : Int32))] ∧ Z.Warmed39 U.vm ∧ U.heap = h0) (fun _ _ _ _ _ => True) (fun _ U o U' => ∃ v L, o = .returned v ∧ Q_rm_c5_3_1 Z a1 k1 t1 k2 c0 c1 c2 h0 n0 v U'.heap L ∧ FrameEnd U o U' L ({ frames := 0, cells := 0, slots := 0, locals := 0 } : Room).cells ({ frames := 0, cells := 0, slots := 0, locals := 0 } : Room).slots) := by
  refine MetFree.of_bodySF (plainFor_of_name pn_java_lang_StringUTF16) hisR ?_
  intro p e s m args below meth c s₁ Bd hml0 hP hK
  obtain ⟨rfl, hZ, hh⟩ := hP
  have hx := Bd.exec
  have hby := Bd.bytes
  have hml : c.maxLocals = 7 := hml0
  have hown : s.vm.findClass "java/lang/StringUTF16" = some m.cls := findClass_of_methodNamed Bd.named
  have hnm := (name_of_methodNamed Bd.named Bd.method).1
  have X0 : Stand p l e ({ frames := 0, cells := 0, slots := 0, locals := 0 } : Room) s m #[(.ref a1), (.int (0 : Int32)), (.ref t1), (.int (0 : Int32)), (.int (3 : Int32))] below meth c s₁ [] 0 0 := Stand.of_body Bd
  have e0 : s₁.heap = h0 := by rw [← hh, Bd.state]; rfl
  have N0 := Fr.nil n0
  have pre0 : oL p e below s₁ (mkF m 0 #[oR a1, oI 0, oR t1, oI 0, oI 3, oU, oU] []) s₁ (entryFrame m #[(.ref a1), (.int (0 : Int32)), (.ref t1), (.int (0 : Int32)), (.int (3 : Int32))] 7) := fun t k => castTop (by first | (simp [entryFrame, mkF, argsToLocals, Value.category]; done) | rfl) k
  have pre11 : oL p e below s₁ (mkF m 12 #[oR a1, oI 0, oR t1, oI 0, oI 3, oI 0, oU] [oi 0, ow a1]) s₁ (entryFrame m #[(.ref a1), (.int (0 : Int32)), (.ref t1), (.int (0 : Int32)), (.int (3 : Int32))] 7) := fun t k => pre0 t (by
    refine XS.iconst X0.here hx rfl (hb hby d6_0) ?_
    refine XS.istore X0.here hx rfl (hb hby d6_1) rfl (l' := #[oR a1, oI 0, oR t1, oI 0, oI 3, oI 0, oU]) rfl ?_
    refine XS.iload X0.here hx rfl (hb hby d6_3) rfl ?_
    refine XS.iload X0.here hx rfl (hb hby d6_5) rfl ?_
    show oS p e below s₁ (mkF m 7 #[oR a1, oI 0, oR t1, oI 0, oI 3, oI 0, oU] [oi 3, oi 0]) _
    refine XS.icmpNo X0.here hx rfl (hb hby d6_7) rfl (tlt (by decide : (0 : Int32) < (3 : Int32))).2.1 ?_
    refine XS.aloadN X0.here hx rfl (hb hby d6_10) rfl rfl ?_
    refine XS.iloadN X0.here hx rfl (hb hby d6_11) rfl ?_
    exact k)
  obtain ⟨cl12, Ar12, qc12, Sz12, Nn12, Hs12, Gs12⟩ := id V1
  have hin12 := inb_of (j := (0 : Int32)) Sz12 ⟨by decide, by decide⟩
  have pre13 : oL p e below s₁ (mkF m 31 #[oR a1, oI 0, oR t1, oI 0, oI 3, oI 0, oI c0] [oi (c0.toInt8.toInt32), oi 0, ow t1]) s₁ (entryFrame m #[(.ref a1), (.int (0 : Int32)), (.ref t1), (.int (0 : Int32)), (.int (3 : Int32))] 7) := fun t k => pre11 t (by
    refine X0.caload hx (j := (0 : Int32)) (v := (.int c0)) (by rw [e0]; exact Ar12.1) (State.isArrayOf_alike hZ.alike Ar12.2.1) Ar12.2.2 hin12 (Hs12.at hin12 rfl) (g := (mkF m 12 #[oR a1, oI 0, oR t1, oI 0, oI 3, oI 0, oU] [oi 0, ow a1])) rfl rfl (hb hby d6_12) _ ?_
    show oS p e below s₁ (mkF m 13 #[oR a1, oI 0, oR t1, oI 0, oI 3, oI 0, oU] [oi c0]) _
    refine XS.istore X0.here hx rfl (hb hby d6_13) rfl (l' := #[oR a1, oI 0, oR t1, oI 0, oI 3, oI 0, oI c0]) rfl ?_
    refine XS.iload X0.here hx rfl (hb hby d6_15) rfl ?_
    refine XS.sipush X0.here hx rfl (hb hby d6_17) ?_
    refine XS.icmpYes X0.here hx rfl (pc0 := 20) (pc' := 26) rfl (hb hby d6_20) rfl (flt hl0).2.2.2 (by decide) (by decide) ?_
    show oS p e below s₁ (mkF m 26 #[oR a1, oI 0, oR t1, oI 0, oI 3, oI 0, oI c0] []) _
    refine XS.aloadN X0.here hx rfl (hb hby d6_26) rfl rfl ?_
    refine XS.iloadN X0.here hx rfl (hb hby d6_27) rfl ?_
    refine XS.iload X0.here hx rfl (hb hby d6_28) rfl ?_
    refine XS.i2b X0.here hx rfl (hb hby d6_30) rfl ?_
    show oS p e below s₁ (mkF m 31 #[oR a1, oI 0, oR t1, oI 0, oI 3, oI 0, oI c0] [oi (c0.toInt8.toInt32), oi 0, ow t1]) _
    exact k)
  obtain ⟨cl14, Ar14, qc14, Sz14, Nn14, Hs14, Gs14⟩ := id V2
  obtain ⟨T14, h14, X14, e14, W14, st14⟩ := stB X0 hx hZ e0 Ar14 (j := (0 : Int32)) (inb_of Sz14 ⟨by decide, by decide⟩) (g := (mkF m 31 #[oR a1, oI 0, oR t1, oI 0, oI 3, oI 0, oI c0] [oi (c0.toInt8.toInt32), oi 0, ow t1])) rfl rfl (hb hby d6_31)
  have V14 : Arv Z h14 t1 k2 .byte (3 : Int32) [(.int (nar .byte (c0.toInt8.toInt32))), (.int (0 : Int32)), (.int (0 : Int32))] (.int (0 : Int32)) := Arv.set Ar14 qc14 Sz14 Nn14 Hs14 Gs14 (fits_nar_byte _) W14 0 rfl (Nat.le_of_ble_eq_true rfl)
  have N14 := Fr.snoc X14 N0 ge1
  have f15 := V1.other W14 ne1
  have OL16 := OL.wr W14 ge1
  have K17 : Keep h0 h14 [t1] := (Keep.refl h0 [t1]).wr W14 (Or.inl (List.mem_of_getElem? (i := 0) rfl))
  have pre18 : oL p e below T14 (mkF m 12 #[oR a1, oI 1, oR t1, oI 1, oI 3, oI 1, oI c0] [oi 1, ow a1]) s₁ (entryFrame m #[(.ref a1), (.int (0 : Int32)), (.ref t1), (.int (0 : Int32)), (.int (3 : Int32))] 7) := fun t k => pre13 t (by
    refine st14 _ ?_
    refine XS.iinc X14.here hx rfl (hb hby d6_32) rfl (l' := #[oR a1, oI 1, oR t1, oI 0, oI 3, oI 0, oI c0]) rfl ?_
    refine XS.iinc X14.here hx rfl (hb hby d6_35) rfl (l' := #[oR a1, oI 1, oR t1, oI 1, oI 3, oI 0, oI c0]) rfl ?_
    refine XS.iinc X14.here hx rfl (hb hby d6_38) rfl (l' := #[oR a1, oI 1, oR t1, oI 1, oI 3, oI 1, oI c0]) rfl ?_
    show oS p e below T14 (mkF m 41 #[oR a1, oI 1, oR t1, oI 1, oI 3, oI 1, oI c0] []) _
    refine XS.goto X14.here hx rfl (pc0 := 41) (pc' := 3) rfl (hb hby d6_41) (by decide) (by decide) ?_
    refine XS.iload X14.here hx rfl (hb hby d6_3) rfl ?_
    refine XS.iload X14.here hx rfl (hb hby d6_5) rfl ?_
    refine XS.icmpNo X14.here hx rfl (hb hby d6_7) rfl (tlt (by decide : (1 : Int32) < (3 : Int32))).2.1 ?_
    show oS p e below T14 (mkF m 10 #[oR a1, oI 1, oR t1, oI 1, oI 3, oI 1, oI c0] []) _
    refine XS.aloadN X14.here hx rfl (hb hby d6_10) rfl rfl ?_
    refine XS.iloadN X14.here hx rfl (hb hby d6_11) rfl ?_
    exact k)
  obtain ⟨cl19, Ar19, qc19, Sz19, Nn19, Hs19, Gs19⟩ := id f15
  have hin19 := inb_of (j := (1 : Int32)) Sz19 ⟨by decide, by decide⟩
  have pre20 : oL p e below T14 (mkF m 25 #[oR a1, oI 1, oR t1, oI 1, oI 3, oI 1, oI c1] [oi 1]) s₁ (entryFrame m #[(.ref a1), (.int (0 : Int32)), (.ref t1), (.int (0 : Int32)), (.int (3 : Int32))] 7) := fun t k => pre18 t (by
    refine X14.caload hx (j := (1 : Int32)) (v := (.int c1)) (by rw [e14]; exact Ar19.1) (State.isArrayOf_alike hZ.alike Ar19.2.1) Ar19.2.2 hin19 (Hs19.at hin19 rfl) (g := (mkF m 12 #[oR a1, oI 1, oR t1, oI 1, oI 3, oI 1, oI c0] [oi 1, ow a1])) rfl rfl (hb hby d6_12) _ ?_
    refine XS.istore X14.here hx rfl (hb hby d6_13) rfl (l' := #[oR a1, oI 1, oR t1, oI 1, oI 3, oI 1, oI c1]) rfl ?_
    show oS p e below T14 (mkF m 15 #[oR a1, oI 1, oR t1, oI 1, oI 3, oI 1, oI c1] []) _
    refine XS.iload X14.here hx rfl (hb hby d6_15) rfl ?_
    refine XS.sipush X14.here hx rfl (hb hby d6_17) ?_
    refine XS.icmpNo X14.here hx rfl (hb hby d6_20) rfl (tlt hg).2.2.2 ?_
    refine XS.iload X14.here hx rfl (hb hby d6_23) rfl ?_
    show oS p e below T14 (mkF m 25 #[oR a1, oI 1, oR t1, oI 1, oI 3, oI 1, oI c1] [oi 1]) _
    exact k)
  obtain ⟨fs, hr, hrun, hended, hW, hsame⟩ := X14.leave (v := some (.int (1 : Int32))) (fun h => by rw [Bd.returns] at h; cases h)
  refine ⟨_, _, pre20 _ ?_, hrun, hended, _, _, rfl, ?_, ⟨_, rfl⟩, hW, hsame.mono (by decide) (by decide)⟩
  ·
    show oS p e below T14 (mkF m 25 #[oR a1, oI 1, oR t1, oI 1, oI 3, oI 1, oI c1] [oi 1]) _
    exact retI X14 hx Bd.returns (hb hby d6_25) hr
  ·
    show Q_rm_c5_3_1 Z a1 k1 t1 k2 c0 c1 c2 h0 n0 _ T14.heap _
    rw [e14]
    exact ⟨rfl, N14, K17⟩
def Q_rm_cmp_3_1 (Z : State) (a1 : Addr) (k1 : ClassId) (c0 : Int32) (c1 : Int32) (c2 : Int32) (h0 : Heap) (n0 : Nat) (v : Option Value) (h : Heap) (L : List Loc) : Prop := ∃ (r : Addr) (kr : ClassId), v = some (.ref r) ∧ Fr n0 L ∧ Keep h0 h [] ∧ h0.size ≤ r ∧ Arv Z h r kr .byte (6 : Int32) [(.int (own_hb c0)), (.int (own_lb c0)), (.int (own_hb c1)), (.int (own_lb c1)), (.int (own_hb c2)), (.int (own_lb c2))] (.int (0 : Int32))
set_option maxRecDepth 65536 in
set_option maxHeartbeats 40000000 in
theorem rm_cmp_3_1 (l : Launch) (Z : State) (a0 : Array Value) (hw : ∀ d ∈ tables_1, d.before a0 Z = true) (ws : List Jvm.Cond) (a1 : Addr) (k1 : ClassId) (c0 : Int32) (c1 : Int32) (c2 : Int32) (h0 : Heap) (n0 : Nat) (OL : Old Z n0 h0) (AD : Sta Z Z.heap "java/lang/StringUTF16" "$assertionsDisabled" "Z" (.int (1 : Int32))) (HB : Sta Z Z.heap "java/lang/StringUTF16" "HI_BYTE_SHIFT" "I" (.int (0 : Int32))) (LB : Sta Z Z.heap "java/lang/StringUTF16" "LO_BYTE_SHIFT" "I" (.int (8 : Int32))) (V1 : Arv Z h0 a1 k1 .char (3 : Int32) [(.int c0), (.int c1), (.int c2)] (.int (0 : Int32))) (hl0 : ¬ ((255 : Int32) < c0)) (hg : (255 : Int32) < c1) (nc0 : nar .char c0 = c0) (nc1 : nar .char c1 = c1) (nc2 : nar .char c2 = c2) :
    MetFree l (⟨"java/lang/StringUTF16", "compress", "([CII)[B"⟩ : MethodName) (head1 (Jvm.Cond.code (⟨"java/lang/StringUTF16", "compress", "([CII)[B"⟩ : MethodName) jdk_52_method_16_code 6 (some (.array .byte)) :: ws) ({ frames := 3, cells := 2, slots := 9, locals := 40 } : Room)) (fun a U => a = #[(.ref a1), (.int (0 : Int32)), (.int (3 : Int32))] ∧ Z.Warmed39 U.vm ∧ U.heap = h0) (fun _ _ _ _ _ => True) (fun _ U o U' => ∃ v L, o = .returned v ∧ Q_rm_cmp_3_1 Z a1 k1 c0 c1 c2 h0 n0 v U'.heap L ∧ FrameEnd U o U' L ({ frames := 3, cells := 2, slots := 9, locals := 40 } : Room).cells ({ frames := 3, cells := 2, slots := 9, locals := 40 } : Room).slots) := by
  refine MetFree.of_bodySF (plainFor_of_name pn_java_lang_StringUTF16) hisR ?_
  intro p e s m args below meth c s₁ Bd hml0 hP hK
  obtain ⟨rfl, hZ, hh⟩ := hP
  have hx := Bd.exec
  have hby := Bd.bytes
  have hml : c.maxLocals = 6 := hml0
  have hown : s.vm.findClass "java/lang/StringUTF16" = some m.cls := findClass_of_methodNamed Bd.named
  have hnm := (name_of_methodNamed Bd.named Bd.method).1
  have X0 : Stand p l e ({ frames := 3, cells := 2, slots := 9, locals := 40 } : Room) s m #[(.ref a1), (.int (0 : Int32)), (.int (3 : Int32))] below meth c s₁ [] 0 0 := Stand.of_body Bd
  have e0 : s₁.heap = h0 := by rw [← hh, Bd.state]; rfl
  have N0 := Fr.nil n0
  have pre0 : oL p e below s₁ (mkF m 0 #[oR a1, oI 0, oI 3, oU, oU, oU] []) s₁ (entryFrame m #[(.ref a1), (.int (0 : Int32)), (.int (3 : Int32))] 6) := fun t k => castTop (by first | (simp [entryFrame, mkF, argsToLocals, Value.category]; done) | rfl) k
  have pre11 : oL p e below s₁ (mkF m 1 #[oR a1, oI 0, oI 3, oU, oU, oU] [oi 3]) s₁ (entryFrame m #[(.ref a1), (.int (0 : Int32)), (.int (3 : Int32))] 6) := fun t k => pre0 t (by
    refine XS.iloadN X0.here hx rfl (hb hby d5_0) rfl ?_
    exact k)
  obtain ⟨T12, h12, k12, X12, e12, E12, A12, st12⟩ := newP X0 hx hZ (oW hw 26 rfl) e0 (g := (mkF m 1 #[oR a1, oI 0, oI 3, oU, oU, oU] [oi 3])) rfl (hb hby d5_1) rfl (by decide) (cap := 3) (by decide) (by decide) (by decide) (by decide)
  obtain ⟨b12, g12⟩ : ∃ z, z = h0.size := ⟨_, rfl⟩
  rw [← g12] at A12 st12
  have ne13 : a1 ≠ b12 := Nat.ne_of_lt (Nat.lt_of_lt_of_le V1.lt (Nat.le_of_eq g12.symm))
  have ge_b12 : n0 ≤ b12 := Nat.le_trans (OL.1 ▸ OL.2.1) (Nat.le_of_eq g12.symm)
  have sz_b12 : h0.size ≤ b12 := Nat.le_trans (Keep.refl h0 []).1 (Nat.le_of_eq g12.symm)
  have f14 := V1.ext E12
  have OL15 := OL.ext E12
  have K16 : Keep h0 h12 [] := (Keep.refl h0 []).ext E12
  have V12 : Arv Z h12 b12 k12 .byte (3 : Int32) [(.int (0 : Int32)), (.int (0 : Int32)), (.int (0 : Int32))] (.int (0 : Int32)) := (Arv.new A12 (by decide)).pad (pad_rep [] (.int (0 : Int32)) 3)
  have pre17 : oL p e below T12 (mkF m 9 #[oR a1, oI 0, oI 3, oR b12, oU, oU] [oi 3, oi 0, ow b12, oi 0, ow a1]) s₁ (entryFrame m #[(.ref a1), (.int (0 : Int32)), (.int (3 : Int32))] 6) := fun t k => pre11 t (by
    refine st12 _ ?_
    refine XS.astoreN X12.here hx rfl (hb hby d5_3) rfl rfl (l' := #[oR a1, oI 0, oI 3, oR b12, oU, oU]) rfl ?_
    refine XS.aloadN X12.here hx rfl (hb hby d5_4) rfl rfl ?_
    show oS p e below T12 (mkF m 5 #[oR a1, oI 0, oI 3, oR b12, oU, oU] [ow a1]) _
    refine XS.iloadN X12.here hx rfl (hb hby d5_5) rfl ?_
    refine XS.aloadN X12.here hx rfl (hb hby d5_6) rfl rfl ?_
    refine XS.iconst X12.here hx rfl (hb hby d5_7) ?_
    refine XS.iloadN X12.here hx rfl (hb hby d5_8) rfl ?_
    show oS p e below T12 (mkF m 9 #[oR a1, oI 0, oI 3, oR b12, oU, oU] [oi 3, oi 0, ow b12, oi 0, ow a1]) _
    exact k)
  obtain ⟨_, _, ⟨T18, L18, k18, n18⟩, -, X18, ⟨Lc18, hQ18, l18, y18, z18⟩, st18⟩ := Jvm.LawKit.callS X12 hx (y := (⟨"java/lang/StringUTF16", "compress", "([CI[BII)I"⟩ : MethodName)) hown (mvT hZ (oW hw 27 rfl)) (mvT hZ (oW hw 28 rfl)) (mvT hZ (oW hw 24 rfl)) (mvT hZ (oW hw 29 rfl)) (by decide) (backOf (W := 0) (rm_c5_3_1 l Z a0 hw [] a1 k1 b12 k12 c0 c1 c2 h12 n0 OL15 ge_b12 f14 V12 ne13 hl0 hg) hZ (oW hw 29 rfl) (oW hw 24 rfl) (by decide) (by decide)) (g := (mkF m 9 #[oR a1, oI 0, oI 3, oR b12, oU, oU] [oi 3, oi 0, ow b12, oi 0, ow a1])) rfl (by rw [hml]; rfl) (argsL := [(.ref a1), (.int (0 : Int32)), (.ref b12), (.int (0 : Int32)), (.int (3 : Int32))]) (rest := []) (lenOf pd___CI_BII_I rfl) rfl (by show 2 * 0 + _ ≤ _; exact Nat.le_of_eq rfl) (hb hby d5_9) (fun _ _ => ⟨rfl, e12, (by decide : 1 + 0 ≤ _), (by decide : 3 + 0 ≤ _)⟩)
  dsimp only [Pt.U, Pt.locs, Pt.cells, Pt.slots] at X18 l18 y18 z18 st18 hQ18
  subst l18 y18 z18
  obtain ⟨rfl, N18q, Kq18⟩ := hQ18
  have N18 := Fr.app N0 N18q
  have f19 := f14.keep Kq18 (ninS ne13 nin0)
  have OL20 := OL15.keep Kq18 (allS ge_b12 all0)
  have K21 : Keep h0 T18.heap [] := K16.trans Kq18 (allS (Or.inr sz_b12) all0)
  have pre22 : oL p e below T18 (mkF m 23 #[oR a1, oI 0, oI 3, oR b12, oI 1, oU] [oi 3, oi 0, ow a1]) s₁ (entryFrame m #[(.ref a1), (.int (0 : Int32)), (.int (3 : Int32))] 6) := fun t k => pre17 t (by
    refine st18 _ ?_
    refine XS.istore X18.here hx rfl (hb hby d5_12) rfl (l' := #[oR a1, oI 0, oI 3, oR b12, oI 1, oU]) rfl ?_
    refine XS.iload X18.here hx rfl (hb hby d5_14) rfl ?_
    refine XS.iloadN X18.here hx rfl (hb hby d5_16) rfl ?_
    show oS p e below T18 (mkF m 17 #[oR a1, oI 0, oI 3, oR b12, oI 1, oU] [oi 3, oi 1]) _
    refine XS.icmpNo X18.here hx rfl (hb hby d5_17) rfl (feq (by decide : ¬ ((1 : Int32) = (3 : Int32)))).1 ?_
    refine XS.aloadN X18.here hx rfl (hb hby d5_20) rfl rfl ?_
    refine XS.iloadN X18.here hx rfl (hb hby d5_21) rfl ?_
    refine XS.iloadN X18.here hx rfl (hb hby d5_22) rfl ?_
    show oS p e below T18 (mkF m 23 #[oR a1, oI 0, oI 3, oR b12, oI 1, oU] [oi 3, oi 0, ow a1]) _
    exact k)
  obtain ⟨_, _, ⟨T23, L23, k23, n23⟩, -, X23, ⟨Lc23, hQ23, l23, y23, z23⟩, st23⟩ := Jvm.LawKit.callS X18 hx (y := (⟨"java/lang/StringUTF16", "toBytes", "([CII)[B"⟩ : MethodName)) hown (mvT hZ (oW hw 60 rfl)) (mvT hZ (oW hw 61 rfl)) (mvT hZ (oW hw 24 rfl)) (mvT hZ (oW hw 62 rfl)) (by decide) (backOf (W := 0) (rm_tob3 l Z a0 hw [] a1 k1 c0 c1 c2 T18.heap n0 OL20 AD HB LB f19) hZ (oW hw 62 rfl) (oW hw 24 rfl) (by decide) (by decide)) (g := (mkF m 23 #[oR a1, oI 0, oI 3, oR b12, oI 1, oU] [oi 3, oi 0, ow a1])) rfl (by rw [hml]; rfl) (argsL := [(.ref a1), (.int (0 : Int32)), (.int (3 : Int32))]) (rest := []) (lenOf pd___CII__B rfl) rfl (by show 2 * 0 + _ ≤ _; exact Nat.le_of_eq rfl) (hb hby d5_23) (fun _ _ => ⟨rfl, rfl, (by decide : 1 + 1 ≤ _), (by decide : 3 + 6 ≤ _)⟩)
  dsimp only [Pt.U, Pt.locs, Pt.cells, Pt.slots] at X23 l23 y23 z23 st23 hQ23
  subst l23 y23 z23
  obtain ⟨r23, kr23, rfl, N23q, Kq23, sq23, Va23⟩ := hQ23
  have N23 := Fr.app N18 N23q
  have ne24 : a1 ≠ r23 := Nat.ne_of_lt (Nat.lt_of_lt_of_le f19.lt sq23)
  have ge_r23 : n0 ≤ r23 := Nat.le_trans (OL20.1 ▸ OL20.2.1) sq23
  have sz_r23 : h0.size ≤ r23 := Nat.le_trans K21.1 sq23
  have f25 := f19.keep Kq23 nin0
  have OL26 := OL20.keep Kq23 all0
  have K27 : Keep h0 T23.heap [] := K21.trans Kq23 all0
  have pre28 : oL p e below T23 (mkF m 32 #[oR a1, oI 0, oI 3, oR b12, oI 1, oR r23] [oi 1, ow r23]) s₁ (entryFrame m #[(.ref a1), (.int (0 : Int32)), (.int (3 : Int32))] 6) := fun t k => pre22 t (by
    refine st23 _ ?_
    refine XS.astore X23.here hx rfl (hb hby d5_26) rfl rfl (l' := #[oR a1, oI 0, oI 3, oR b12, oI 1, oR r23]) rfl ?_
    refine XS.aload X23.here hx rfl (hb hby d5_28) rfl rfl ?_
    refine XS.iload X23.here hx rfl (hb hby d5_30) rfl ?_
    show oS p e below T23 (mkF m 32 #[oR a1, oI 0, oI 3, oR b12, oI 1, oR r23] [oi 1, ow r23]) _
    exact k)
  obtain ⟨_, _, ⟨T29, L29, k29, n29⟩, -, X29, ⟨Lc29, hQ29, l29, y29, z29⟩, st29⟩ := Jvm.LawKit.callS X23 hx (y := (⟨"java/lang/StringUTF16", "getChar", "([BI)C"⟩ : MethodName)) hown (mvT hZ (oW hw 76 rfl)) (mvT hZ (oW hw 77 rfl)) (mvT hZ (oW hw 24 rfl)) (mvT hZ (oW hw 78 rfl)) (by decide) (backOf (W := 0) (rm_get3_1 l Z a0 hw [] r23 kr23 (own_hb c0) (own_lb c0) (own_hb c1) (own_lb c1) (own_hb c2) (own_lb c2) T23.heap n0 OL26 AD HB LB Va23) hZ (oW hw 78 rfl) (oW hw 24 rfl) (by decide) (by decide)) (g := (mkF m 32 #[oR a1, oI 0, oI 3, oR b12, oI 1, oR r23] [oi 1, ow r23])) rfl (by rw [hml]; rfl) (argsL := [(.ref r23), (.int (1 : Int32))]) (rest := []) (lenOf pd___BI_C rfl) rfl (by show 2 * 0 + _ ≤ _; exact Nat.le_of_eq rfl) (hb hby d5_32) (fun _ _ => ⟨rfl, rfl, (by decide : 2 + 0 ≤ _), (by decide : 9 + 0 ≤ _)⟩)
  dsimp only [Pt.U, Pt.locs, Pt.cells, Pt.slots] at X29 l29 y29 z29 st29 hQ29
  subst l29 y29 z29
  obtain ⟨rfl, N29q, e29⟩ := hQ29
  have N29 := Fr.app N23 N29q
  have pre30 : oL p e below T29 (mkF m 56 #[oR a1, oI 0, oI 3, oR b12, oI 1, oR r23] [ow r23]) s₁ (entryFrame m #[(.ref a1), (.int (0 : Int32)), (.int (3 : Int32))] 6) := fun t k => pre28 t (by
    refine st29 _ ?_
    refine XS.sipush X29.here hx rfl (hb hby d5_35) ?_
    refine XS.icmpYes X29.here hx rfl (pc0 := 38) (pc' := 54) rfl (hb hby d5_38) rfl (tlt (own_gcg _ nc1 hg)).2.2.1 (by decide) (by decide) ?_
    refine XS.aload X29.here hx rfl (hb hby d5_54) rfl rfl ?_
    show oS p e below T29 (mkF m 56 #[oR a1, oI 0, oI 3, oR b12, oI 1, oR r23] [ow r23]) _
    exact k)
  obtain ⟨fs, hr, hrun, hended, hW, hsame⟩ := X29.leave (v := some (.ref r23)) (fun h => by rw [Bd.returns] at h; cases h)
  refine ⟨_, _, pre30 _ ?_, hrun, hended, _, _, rfl, ?_, ⟨_, rfl⟩, hW, hsame.mono (by decide) (by decide)⟩
  ·
    show oS p e below T29 (mkF m 56 #[oR a1, oI 0, oI 3, oR b12, oI 1, oR r23] [ow r23]) _
    jvm_step X29.here [X29.here.top, hx, (hb hby d5_56), X29.method', Bd.returns, Value.isRef, FieldType.isReference]
    first | (intro acts; rw [hr _ acts rfl rfl rfl]) | rw [hr _ _ rfl rfl rfl]
    exact Steps.refl _
  ·
    show Q_rm_cmp_3_1 Z a1 k1 c0 c1 c2 h0 n0 _ T29.heap _
    rw [e29]
    exact ⟨r23, kr23, rfl, N29, K27, sz_r23, Va23⟩
set_option maxRecDepth 65536 in
set_option maxHeartbeats 40000000 in
theorem rm_si_3_1 (l : Launch) (Z : State) (a0 : Array Value) (hw : ∀ d ∈ tables_1, d.before a0 Z = true) (ws : List Jvm.Cond) (a1 : Addr) (a2 : Addr) (k2 : ClassId) (G1 : Int32) (c0 : Int32) (c1 : Int32) (c2 : Int32) (h0 : Heap) (n0 : Nat) (OL : Old Z n0 h0) (AD : Sta Z Z.heap "java/lang/StringUTF16" "$assertionsDisabled" "Z" (.int (1 : Int32))) (HB : Sta Z Z.heap "java/lang/StringUTF16" "HI_BYTE_SHIFT" "I" (.int (0 : Int32))) (LB : Sta Z Z.heap "java/lang/StringUTF16" "LO_BYTE_SHIFT" "I" (.int (8 : Int32))) (O2 : Sta Z Z.heap "java/lang/String" "COMPACT_STRINGS" "Z" (.int G1)) (P5 : ¬ (G1 = (0 : Int32))) (ge1 : n0 ≤ a1) (E1 : Exa Z h0 a1 "java/lang/String") (F1 : Fld Z h0 a1 "java/lang/String" "value" "[B" .null) (F2 : Fld Z h0 a1 "java/lang/String" "coder" "B" (.int (0 : Int32))) (V2 : Arv Z h0 a2 k2 .char (3 : Int32) [(.int c0), (.int c1), (.int c2)] (.int (0 : Int32))) (hl0 : ¬ ((255 : Int32) < c0)) (hg : (255 : Int32) < c1) (nc0 : nar .char c0 = c0) (nc1 : nar .char c1 = c1) (nc2 : nar .char c2 = c2) :
    MetFree l (⟨"java/lang/String", "<init>", "([CIILjava/lang/Void;)V"⟩ : MethodName) (head1 (Jvm.Cond.code (⟨"java/lang/String", "<init>", "([CIILjava/lang/Void;)V"⟩ : MethodName) jdk_42_method_149_code 6 none :: ws) ({ frames := 4, cells := 2, slots := 9, locals := 57 } : Room)) (fun a U => a = #[(.ref a1), (.ref a2), (.int (0 : Int32)), (.int (3 : Int32)), .null] ∧ Z.Warmed39 U.vm ∧ U.heap = h0) (fun _ _ _ _ _ => True) (fun _ U o U' => ∃ v L, o = .returned v ∧ Q_S3 Z a1 a2 k2 G1 c0 c1 c2 h0 n0 v U'.heap L ∧ FrameEnd U o U' L ({ frames := 4, cells := 2, slots := 9, locals := 57 } : Room).cells ({ frames := 4, cells := 2, slots := 9, locals := 57 } : Room).slots) := by
  refine MetFree.of_bodySF (plainFor_of_name pn_java_lang_String) hisR ?_
  intro p e s m args below meth c s₁ Bd hml0 hP hK
  obtain ⟨rfl, hZ, hh⟩ := hP
  have hx := Bd.exec
  have hby := Bd.bytes
  have hml : c.maxLocals = 6 := hml0
  have hown : s.vm.findClass "java/lang/String" = some m.cls := findClass_of_methodNamed Bd.named
  have hnm := (name_of_methodNamed Bd.named Bd.method).1
  have X0 : Stand p l e ({ frames := 4, cells := 2, slots := 9, locals := 57 } : Room) s m #[(.ref a1), (.ref a2), (.int (0 : Int32)), (.int (3 : Int32)), .null] below meth c s₁ [] 0 0 := Stand.of_body Bd
  have e0 : s₁.heap = h0 := by rw [← hh, Bd.state]; rfl
  have N0 := Fr.nil n0
  have pre0 : oL p e below s₁ (mkF m 0 #[oR a1, oR a2, oI 0, oI 3, oN, oU] []) s₁ (entryFrame m #[(.ref a1), (.ref a2), (.int (0 : Int32)), (.int (3 : Int32)), .null] 6) := fun t k => castTop (by first | (simp [entryFrame, mkF, argsToLocals, Value.category]; done) | rfl) k
  have own_ne : a2 ≠ a1 := (Exa.neArv E1 V2 (oW hw 9 rfl)).symm
  have pre11 : oL p e below s₁ (mkF m 1 #[oR a1, oR a2, oI 0, oI 3, oN, oU] [ow a1]) s₁ (entryFrame m #[(.ref a1), (.ref a2), (.int (0 : Int32)), (.int (3 : Int32)), .null] 6) := fun t k => pre0 t (by
    refine XS.aloadN X0.here hx rfl (hb hby d3_0) rfl rfl ?_
    exact k)
  obtain ⟨T12, X12, e12, st12⟩ := initO X0 hx hZ hown (oW hw 18 rfl) (oW hw 19 rfl) (oW hw 20 rfl) e0 (g := (mkF m 1 #[oR a1, oR a2, oI 0, oI 3, oN, oU] [ow a1])) rfl (by rw [hml]; rfl) rfl (hb hby d3_1) (by decide) (W := 0) (by show 2 * 0 + _ ≤ _; exact Nat.le_of_eq rfl) (by decide)
  have pre13 : oL p e below T12 (mkF m 27 #[oR a1, oR a2, oI 0, oI 3, oN, oU] []) s₁ (entryFrame m #[(.ref a1), (.ref a2), (.int (0 : Int32)), (.int (3 : Int32)), .null] 6) := fun t k => pre11 t (by
    refine st12 _ ?_
    refine XS.iloadN X12.here hx rfl (hb hby d3_4) rfl ?_
    refine XS.ifYes X12.here hx rfl (pc0 := 5) (pc' := 27) rfl (hb hby d3_5) rfl ((if0 _ _).trans (feq (by decide : ¬ ((3 : Int32) = (0 : Int32)))).2) (by decide) (by decide) ?_
    show oS p e below T12 (mkF m 27 #[oR a1, oR a2, oI 0, oI 3, oN, oU] []) _
    exact k)
  obtain ⟨T14, X14, e14, st14⟩ := getS2 X12 hx hZ hown (host := "") (Or.inl (oW hw 21 rfl)) Via.refl e12 (O2.ext OL.2) (g := (mkF m 27 #[oR a1, oR a2, oI 0, oI 3, oN, oU] [])) rfl (hb hby d3_27)
  have pre15 : oL p e below T14 (mkF m 36 #[oR a1, oR a2, oI 0, oI 3, oN, oU] [oi 3, oi 0, ow a2]) s₁ (entryFrame m #[(.ref a1), (.ref a2), (.int (0 : Int32)), (.int (3 : Int32)), .null] 6) := fun t k => pre13 t (by
    refine st14 _ ?_
    refine XS.ifNo X14.here hx rfl (hb hby d3_30) rfl ((if0 _ _).trans (feq P5).1) ?_
    refine XS.aloadN X14.here hx rfl (hb hby d3_33) rfl rfl ?_
    refine XS.iloadN X14.here hx rfl (hb hby d3_34) rfl ?_
    show oS p e below T14 (mkF m 35 #[oR a1, oR a2, oI 0, oI 3, oN, oU] [oi 0, ow a2]) _
    refine XS.iloadN X14.here hx rfl (hb hby d3_35) rfl ?_
    exact k)
  obtain ⟨_, _, ⟨T16, L16, k16, n16⟩, -, X16, ⟨Lc16, hQ16, l16, y16, z16⟩, st16⟩ := Jvm.LawKit.callS X14 hx (y := (⟨"java/lang/StringUTF16", "compress", "([CII)[B"⟩ : MethodName)) hown (mvT hZ (oW hw 22 rfl)) (mvT hZ (oW hw 23 rfl)) (mvT hZ (oW hw 24 rfl)) (mvT hZ (oW hw 25 rfl)) (by decide) (backOf (W := 0) (rm_cmp_3_1 l Z a0 hw [] a2 k2 c0 c1 c2 h0 n0 OL AD HB LB V2 hl0 hg nc0 nc1 nc2) hZ (oW hw 25 rfl) (oW hw 24 rfl) (by decide) (by decide)) (g := (mkF m 36 #[oR a1, oR a2, oI 0, oI 3, oN, oU] [oi 3, oi 0, ow a2])) rfl (by rw [hml]; rfl) (argsL := [(.ref a2), (.int (0 : Int32)), (.int (3 : Int32))]) (rest := []) (lenOf pd___CII__B rfl) rfl (by show 2 * 0 + _ ≤ _; exact Nat.le_of_eq rfl) (hb hby d3_36) (fun _ _ => ⟨rfl, e14, (by decide : 0 + 2 ≤ _), (by decide : 0 + 9 ≤ _)⟩)
  dsimp only [Pt.U, Pt.locs, Pt.cells, Pt.slots] at X16 l16 y16 z16 st16 hQ16
  subst l16 y16 z16
  obtain ⟨r16, kr16, rfl, N16q, Kq16, sq16, Va16⟩ := hQ16
  have N16 := Fr.app N0 N16q
  have ne17 : a1 ≠ r16 := Nat.ne_of_lt (Nat.lt_of_lt_of_le E1.lt sq16)
  have ne18 : a2 ≠ r16 := Nat.ne_of_lt (Nat.lt_of_lt_of_le V2.lt sq16)
  have ge_r16 : n0 ≤ r16 := Nat.le_trans (OL.1 ▸ OL.2.1) sq16
  have sz_r16 : h0.size ≤ r16 := Nat.le_trans (Keep.refl h0 [a1]).1 sq16
  have f19 := E1.keep Kq16
  have f20 := F1.keep Kq16 nin0
  have f21 := F2.keep Kq16 nin0
  have f22 := V2.keep Kq16 nin0
  have OL23 := OL.keep Kq16 all0
  have K24 : Keep h0 T16.heap [a1] := (Keep.refl h0 [a1]).trans Kq16 all0
  have pre25 : oL p e below T16 (mkF m 45 #[oR a1, oR a2, oI 0, oI 3, oN, oR r16] [oi 3, ow r16, ow a1]) s₁ (entryFrame m #[(.ref a1), (.ref a2), (.int (0 : Int32)), (.int (3 : Int32)), .null] 6) := fun t k => pre15 t (by
    refine st16 _ ?_
    refine XS.astore X16.here hx rfl (hb hby d3_39) rfl rfl (l' := #[oR a1, oR a2, oI 0, oI 3, oN, oR r16]) rfl ?_
    refine XS.aloadN X16.here hx rfl (hb hby d3_41) rfl rfl ?_
    show oS p e below T16 (mkF m 42 #[oR a1, oR a2, oI 0, oI 3, oN, oR r16] [ow a1]) _
    refine XS.aload X16.here hx rfl (hb hby d3_42) rfl rfl ?_
    refine XS.iloadN X16.here hx rfl (hb hby d3_44) rfl ?_
    exact k)
  obtain ⟨_, _, ⟨T26, L26, k26, n26⟩, -, X26, ⟨Lc26, hQ26, l26, y26, z26⟩, st26⟩ := Jvm.LawKit.callS X16 hx (y := (⟨"java/lang/StringUTF16", "coderFromArrayLen", "([BI)B"⟩ : MethodName)) hown (mvT hZ (oW hw 30 rfl)) (mvT hZ (oW hw 31 rfl)) (mvT hZ (oW hw 24 rfl)) (mvT hZ (oW hw 32 rfl)) (by decide) (backOf (W := 1) (rm_cfl3 l Z a0 hw [] r16 kr16 (own_hb c0) (own_lb c0) (own_hb c1) (own_lb c1) (own_hb c2) (own_lb c2) T16.heap n0 OL23 Va16) hZ (oW hw 32 rfl) (oW hw 24 rfl) (by decide) (by decide)) (g := (mkF m 45 #[oR a1, oR a2, oI 0, oI 3, oN, oR r16] [oi 3, ow r16, ow a1])) rfl (by rw [hml]; rfl) (argsL := [(.ref r16), (.int (3 : Int32))]) (rest := [(.ref a1)]) (lenOf pd___BI_B rfl) rfl (by show 2 * 0 + _ ≤ _; exact Nat.le_of_eq rfl) (hb hby d3_45) (fun _ _ => ⟨rfl, rfl, (by decide : 2 + 0 ≤ _), (by decide : 9 + 0 ≤ _)⟩)
  dsimp only [Pt.U, Pt.locs, Pt.cells, Pt.slots] at X26 l26 y26 z26 st26 hQ26
  subst l26 y26 z26
  obtain ⟨rfl, N26q, e26⟩ := hQ26
  have N26 := Fr.app N16 N26q
  have pre27 : oL p e below T26 (mkF m 48 #[oR a1, oR a2, oI 0, oI 3, oN, oR r16] [oi 1, ow a1]) s₁ (entryFrame m #[(.ref a1), (.ref a2), (.int (0 : Int32)), (.int (3 : Int32)), .null] 6) := fun t k => pre25 t (by
    refine st26 _ ?_
    exact k)
  obtain ⟨T28, h28, X28, e28, W28, st28⟩ := putFN X26 hx hZ hown (oW hw 33 rfl) Via.refl e26 f21 f19 (Or.inr ⟨(oW hw 34 rfl), rfl, hnm⟩) (oW hw 9 rfl) (ty := .byte) (v' := (.int (1 : Int32))) (by decide) rfl rfl (g := (mkF m 48 #[oR a1, oR a2, oI 0, oI 3, oN, oR r16] [oi 1, ow a1])) rfl rfl (hb hby d3_48)
  have f29 := f21.same W28
  have N28 := Fr.snoc X28 N26 ge1
  have f30 := f19.wr W28
  have f31 := f20.other W28 (Or.inr (slot_ne (Or.inr (oW hw 36 rfl)) (Or.inr (oW hw 34 rfl)) (by decide) (t := (.array .byte)) (t' := .byte) (by decide) (by decide)))
  have f32 := f22.other W28 own_ne
  have f33 := Va16.other W28 (Ne.symm ne17)
  have OL34 := OL23.wr W28 ge1
  have K35 : Keep h0 h28 [a1] := K24.wr W28 (Or.inl (List.mem_of_getElem? (i := 0) rfl))
  have pre36 : oL p e below T28 (mkF m 54 #[oR a1, oR a2, oI 0, oI 3, oN, oR r16] [ow r16, ow a1]) s₁ (entryFrame m #[(.ref a1), (.ref a2), (.int (0 : Int32)), (.int (3 : Int32)), .null] 6) := fun t k => pre27 t (by
    refine st28 _ ?_
    show oS p e below T28 (mkF m 51 #[oR a1, oR a2, oI 0, oI 3, oN, oR r16] []) _
    refine XS.aloadN X28.here hx rfl (hb hby d3_51) rfl rfl ?_
    refine XS.aload X28.here hx rfl (hb hby d3_52) rfl rfl ?_
    exact k)
  obtain ⟨T37, h37, X37, e37, W37, st37⟩ := putF X28 hx hZ hown (host := "") (Or.inl (oW hw 35 rfl)) Via.refl e28 f31 f30 (Or.inr ⟨(oW hw 36 rfl), rfl, hnm⟩) (oW hw 9 rfl) (ty := (.array .byte)) (by decide) rfl rfl (g := (mkF m 54 #[oR a1, oR a2, oI 0, oI 3, oN, oR r16] [ow r16, ow a1])) rfl rfl (hb hby d3_54)
  have f38 := f31.same W37
  have N37 := Fr.snoc X37 N28 ge1
  have f39 := f30.wr W37
  have f40 := f29.other W37 (Or.inr (slot_ne (Or.inr (oW hw 34 rfl)) (Or.inr (oW hw 36 rfl)) (by decide) (t := .byte) (t' := (.array .byte)) (by decide) (by decide)))
  have f41 := f32.other W37 own_ne
  have f42 := f33.other W37 (Ne.symm ne17)
  have OL43 := OL34.wr W37 ge1
  have K44 : Keep h0 h37 [a1] := K35.wr W37 (Or.inl (List.mem_of_getElem? (i := 0) rfl))
  have pre45 : oL p e below T37 (mkF m 57 #[oR a1, oR a2, oI 0, oI 3, oN, oR r16] []) s₁ (entryFrame m #[(.ref a1), (.ref a2), (.int (0 : Int32)), (.int (3 : Int32)), .null] 6) := fun t k => pre36 t (by
    refine st37 _ ?_
    exact k)
  obtain ⟨fs, hr, hrun, hended, hW, hsame⟩ := X37.leave (v := none) (fun _ => rfl)
  refine ⟨_, _, pre45 _ ?_, hrun, hended, _, _, rfl, ?_, ⟨_, rfl⟩, hW, hsame.mono (by decide) (by decide)⟩
  ·
    show oS p e below T37 (mkF m 57 #[oR a1, oR a2, oI 0, oI 3, oN, oR r16] []) _
    exact X37.returnOut hx Bd.returns (hb hby d3_57) hr
  ·
    show Q_S3 Z a1 a2 k2 G1 c0 c1 c2 h0 n0 _ T37.heap _
    rw [e37]
    exact ⟨rfl, N37, K44, f39, (1 : Int32), r16, kr16, (6 : Int32), [(.int (own_hb c0)), (.int (own_lb c0)), (.int (own_hb c1)), (.int (own_lb c1)), (.int (own_hb c2)), (.int (own_lb c2))], f40, sz_r16, fun q => ne17 q.symm, f38, f42, Or.inr ⟨rfl, Or.inr (Or.inl hg)⟩⟩
set_option maxRecDepth 65536 in
set_option maxHeartbeats 40000000 in
theorem rm_s_3_1 (l : Launch) (Z : State) (a0 : Array Value) (hw : ∀ d ∈ tables_1, d.before a0 Z = true) (ws : List Jvm.Cond) (a1 : Addr) (a2 : Addr) (k2 : ClassId) (G1 : Int32) (c0 : Int32) (c1 : Int32) (c2 : Int32) (h0 : Heap) (n0 : Nat) (OL : Old Z n0 h0) (AD : Sta Z Z.heap "java/lang/StringUTF16" "$assertionsDisabled" "Z" (.int (1 : Int32))) (HB : Sta Z Z.heap "java/lang/StringUTF16" "HI_BYTE_SHIFT" "I" (.int (0 : Int32))) (LB : Sta Z Z.heap "java/lang/StringUTF16" "LO_BYTE_SHIFT" "I" (.int (8 : Int32))) (O2 : Sta Z Z.heap "java/lang/String" "COMPACT_STRINGS" "Z" (.int G1)) (P5 : ¬ (G1 = (0 : Int32))) (ge1 : n0 ≤ a1) (E1 : Exa Z h0 a1 "java/lang/String") (F1 : Fld Z h0 a1 "java/lang/String" "value" "[B" .null) (F2 : Fld Z h0 a1 "java/lang/String" "coder" "B" (.int (0 : Int32))) (V2 : Arv Z h0 a2 k2 .char (3 : Int32) [(.int c0), (.int c1), (.int c2)] (.int (0 : Int32))) (hl0 : ¬ ((255 : Int32) < c0)) (hg : (255 : Int32) < c1) (nc0 : nar .char c0 = c0) (nc1 : nar .char c1 = c1) (nc2 : nar .char c2 = c2) :
    MetFree l (⟨"java/lang/String", "<init>", "([C)V"⟩ : MethodName) (head1 (Jvm.Cond.code (⟨"java/lang/String", "<init>", "([C)V"⟩ : MethodName) jdk_42_method_3_code 2 none :: ws) ({ frames := 5, cells := 2, slots := 9, locals := 74 } : Room)) (fun a U => a = #[(.ref a1), (.ref a2)] ∧ Z.Warmed39 U.vm ∧ U.heap = h0) (fun _ _ _ _ _ => True) (fun _ U o U' => ∃ v L, o = .returned v ∧ Q_S3 Z a1 a2 k2 G1 c0 c1 c2 h0 n0 v U'.heap L ∧ FrameEnd U o U' L ({ frames := 5, cells := 2, slots := 9, locals := 74 } : Room).cells ({ frames := 5, cells := 2, slots := 9, locals := 74 } : Room).slots) := by
  refine MetFree.of_bodySF (plainFor_of_name pn_java_lang_String) hisR ?_
  intro p e s m args below meth c s₁ Bd hml0 hP hK
  obtain ⟨rfl, hZ, hh⟩ := hP
  have hx := Bd.exec
  have hby := Bd.bytes
  have hml : c.maxLocals = 2 := hml0
  have hown : s.vm.findClass "java/lang/String" = some m.cls := findClass_of_methodNamed Bd.named
  have hnm := (name_of_methodNamed Bd.named Bd.method).1
  have X0 : Stand p l e ({ frames := 5, cells := 2, slots := 9, locals := 74 } : Room) s m #[(.ref a1), (.ref a2)] below meth c s₁ [] 0 0 := Stand.of_body Bd
  have e0 : s₁.heap = h0 := by rw [← hh, Bd.state]; rfl
  have N0 := Fr.nil n0
  have pre0 : oL p e below s₁ (mkF m 0 #[oR a1, oR a2] []) s₁ (entryFrame m #[(.ref a1), (.ref a2)] 2) := fun t k => castTop (by first | (simp [entryFrame, mkF, argsToLocals, Value.category]; done) | rfl) k
  have own_ne : a2 ≠ a1 := (Exa.neArv E1 V2 (oW hw 9 rfl)).symm
  have pre12 : oL p e below s₁ (mkF m 4 #[oR a1, oR a2] [ow a2, oi 0, ow a2, ow a1]) s₁ (entryFrame m #[(.ref a1), (.ref a2)] 2) := fun t k => pre0 t (by
    refine XS.aloadN X0.here hx rfl (hb hby d2_0) rfl rfl ?_
    refine XS.aloadN X0.here hx rfl (hb hby d2_1) rfl rfl ?_
    refine XS.iconst X0.here hx rfl (hb hby d2_2) ?_
    refine XS.aloadN X0.here hx rfl (hb hby d2_3) rfl rfl ?_
    show oS p e below s₁ (mkF m 4 #[oR a1, oR a2] [ow a2, oi 0, ow a2, ow a1]) _
    exact k)
  obtain ⟨cl11, Ar11, -, Sz11, Nn11, -, -⟩ := id V2
  have pre13 : oL p e below s₁ (mkF m 6 #[oR a1, oR a2] [.null, oi 3, oi 0, ow a2, ow a1]) s₁ (entryFrame m #[(.ref a1), (.ref a2)] 2) := fun t k => pre12 t (by
    refine X0.arraylength hx (by rw [e0]; exact Ar11.1) (State.isArrayOf_alike hZ.alike Ar11.2.1) (g := (mkF m 4 #[oR a1, oR a2] [ow a2, oi 0, ow a2, ow a1])) rfl rfl (hb hby d2_4) _ ?_
    rw [len_of Sz11 Nn11]
    refine XS.aconstNull X0.here hx rfl (hb hby d2_5) ?_
    exact k)
  obtain ⟨_, _, ⟨T14, L14, k14, n14⟩, -, X14, ⟨Lc14, hQ14, l14, y14, z14⟩, st14⟩ := X0.specialBack hx (y := (⟨"java/lang/String", "<init>", "([CIILjava/lang/Void;)V"⟩ : MethodName)) rfl hown (mvT hZ (oW hw 14 rfl)) (mvT hZ (oW hw 15 rfl)) (mvT hZ (oW hw 17 rfl)) (by decide) (backOf (W := 0) (rm_si_3_1 l Z a0 hw [] a1 a2 k2 G1 c0 c1 c2 h0 n0 OL AD HB LB O2 P5 ge1 E1 F1 F2 V2 hl0 hg nc0 nc1 nc2) hZ (oW hw 17 rfl) (oW hw 10 rfl) (by decide) (by decide)) (g := (mkF m 6 #[oR a1, oR a2] [.null, oi 3, oi 0, ow a2, ow a1])) rfl (by rw [hml]; rfl) (Steps.refl _) (a := a1) (argsL := [(.ref a2), (.int (0 : Int32)), (.int (3 : Int32)), .null]) (rest := []) (lenOf pd___CIILjava_lang_Void__V rfl) rfl (by show 2 * 0 + _ ≤ _; exact Nat.le_of_eq rfl) (hb hby d2_6) (fun _ _ => ⟨rfl, e0, (by decide : 0 + 2 ≤ _), (by decide : 0 + 9 ≤ _)⟩)
  dsimp only [Pt.U, Pt.locs, Pt.cells, Pt.slots] at X14 l14 y14 z14 st14 hQ14
  subst l14 y14 z14
  obtain ⟨rfl, N14q, Kq14, Eq14, cd14, tt14, kb14, Nx14, vs14, Fc14, sq14, nx14, Fv14, Va14, ou14⟩ := hQ14
  have N14 := Fr.app N0 N14q
  have f15 := E1.keep Kq14
  have f16 := V2.keep Kq14 (ninS own_ne nin0)
  have OL17 := OL.keep Kq14 (allS ge1 all0)
  have K18 : Keep h0 T14.heap [a1] := (Keep.refl h0 [a1]).trans Kq14 (allS (Or.inl (List.mem_of_getElem? (i := 0) rfl)) all0)
  have pre19 : oL p e below T14 (mkF m 9 #[oR a1, oR a2] []) s₁ (entryFrame m #[(.ref a1), (.ref a2)] 2) := fun t k => pre13 t (by
    refine st14.trans ?_
    exact k)
  obtain ⟨fs, hr, hrun, hended, hW, hsame⟩ := X14.leave (v := none) (fun _ => rfl)
  refine ⟨_, _, pre19 _ ?_, hrun, hended, _, _, rfl, ?_, ⟨_, rfl⟩, hW, hsame.mono (by decide) (by decide)⟩
  ·
    show oS p e below T14 (mkF m 9 #[oR a1, oR a2] []) _
    exact X14.returnOut hx Bd.returns (hb hby d2_9) hr
  ·
    show Q_S3 Z a1 a2 k2 G1 c0 c1 c2 h0 n0 _ T14.heap _
    exact ⟨rfl, N14, K18, Eq14, cd14, tt14, kb14, Nx14, vs14, Fc14, Nat.le_trans (Keep.refl h0 [a1]).1 sq14, nx14, Fv14, Va14, ou14⟩
def Q_rm_c5_3_2 (Z : State) (a1 : Addr) (k1 : ClassId) (t1 : Addr) (k2 : ClassId) (c0 : Int32) (c1 : Int32) (c2 : Int32) (h0 : Heap) (n0 : Nat) (v : Option Value) (h : Heap) (L : List Loc) : Prop := v = some (.int (2 : Int32)) ∧ Fr n0 L ∧ Keep h0 h [t1]
set_option maxRecDepth 65536 in
set_option maxHeartbeats 40000000 in
theorem rm_c5_3_2 (l : Launch) (Z : State) (a0 : Array Value) (hw : ∀ d ∈ tables_1, d.before a0 Z = true) (ws : List Jvm.Cond) (a1 : Addr) (k1 : ClassId) (t1 : Addr) (k2 : ClassId) (c0 : Int32) (c1 : Int32) (c2 : Int32) (h0 : Heap) (n0 : Nat) (OL : Old Z n0 h0) (ge1 : n0 ≤ t1) (V1 : Arv Z h0 a1 k1 .char (3 : Int32) [(.int c0), (.int c1), (.int c2)] (.int (0 : Int32))) (V2 : Arv Z h0 t1 k2 .byte (3 : Int32) [(.int (0 : Int32)), (.int (0 : Int32)), (.int (0 : Int32))] (.int (0 : Int32))) (ne1 : a1 ≠ t1) (hl0 : ¬ ((255 : Int32) < c0)) (hl1 : ¬ ((255 : Int32) < c1)) (hg : (255 : Int32) < c2) :
    MetFree l (⟨"java/lang/StringUTF16", "compress", "([CI[BII)I"⟩ : MethodName) (head1 (Jvm.Cond.code (⟨"java/lang/StringUTF16", "compress", "([CI[BII)I"⟩ : MethodName) jdk_52_method_21_code 7 (some .int) :: ws) ({ frames := 0, cells := 0, slots := 0, locals := 0 } : Room)) (fun a U => a = #[(.ref a1), (.int (0 : Int32)), (.ref t1), (.int (0 : Int32)), (.int (3 : Int32))] ∧ Z.Warmed39 U.vm ∧ U.heap = h0) (fun _ _ _ _ _ => True) (fun _ U o U' => ∃ v L, o = .returned v ∧ Q_rm_c5_3_2 Z a1 k1 t1 k2 c0 c1 c2 h0 n0 v U'.heap L ∧ FrameEnd U o U' L ({ frames := 0, cells := 0, slots := 0, locals := 0 } : Room).cells ({ frames := 0, cells := 0, slots := 0, locals := 0 } : Room).slots) := by
  refine MetFree.of_bodySF (plainFor_of_name pn_java_lang_StringUTF16) hisR ?_
  intro p e s m args below meth c s₁ Bd hml0 hP hK
  obtain ⟨rfl, hZ, hh⟩ := hP
  have hx := Bd.exec
  have hby := Bd.bytes
  have hml : c.maxLocals = 7 := hml0
  have hown : s.vm.findClass "java/lang/StringUTF16" = some m.cls := findClass_of_methodNamed Bd.named
  have hnm := (name_of_methodNamed Bd.named Bd.method).1
  have X0 : Stand p l e ({ frames := 0, cells := 0, slots := 0, locals := 0 } : Room) s m #[(.ref a1), (.int (0 : Int32)), (.ref t1), (.int (0 : Int32)), (.int (3 : Int32))] below meth c s₁ [] 0 0 := Stand.of_body Bd
  have e0 : s₁.heap = h0 := by rw [← hh, Bd.state]; rfl
  have N0 := Fr.nil n0
  have pre0 : oL p e below s₁ (mkF m 0 #[oR a1, oI 0, oR t1, oI 0, oI 3, oU, oU] []) s₁ (entryFrame m #[(.ref a1), (.int (0 : Int32)), (.ref t1), (.int (0 : Int32)), (.int (3 : Int32))] 7) := fun t k => castTop (by first | (simp [entryFrame, mkF, argsToLocals, Value.category]; done) | rfl) k
  have pre11 : oL p e below s₁ (mkF m 12 #[oR a1, oI 0, oR t1, oI 0, oI 3, oI 0, oU] [oi 0, ow a1]) s₁ (entryFrame m #[(.ref a1), (.int (0 : Int32)), (.ref t1), (.int (0 : Int32)), (.int (3 : Int32))] 7) := fun t k => pre0 t (by
    refine XS.iconst X0.here hx rfl (hb hby d6_0) ?_
    refine XS.istore X0.here hx rfl (hb hby d6_1) rfl (l' := #[oR a1, oI 0, oR t1, oI 0, oI 3, oI 0, oU]) rfl ?_
    refine XS.iload X0.here hx rfl (hb hby d6_3) rfl ?_
    refine XS.iload X0.here hx rfl (hb hby d6_5) rfl ?_
    show oS p e below s₁ (mkF m 7 #[oR a1, oI 0, oR t1, oI 0, oI 3, oI 0, oU] [oi 3, oi 0]) _
    refine XS.icmpNo X0.here hx rfl (hb hby d6_7) rfl (tlt (by decide : (0 : Int32) < (3 : Int32))).2.1 ?_
    refine XS.aloadN X0.here hx rfl (hb hby d6_10) rfl rfl ?_
    refine XS.iloadN X0.here hx rfl (hb hby d6_11) rfl ?_
    exact k)
  obtain ⟨cl12, Ar12, qc12, Sz12, Nn12, Hs12, Gs12⟩ := id V1
  have hin12 := inb_of (j := (0 : Int32)) Sz12 ⟨by decide, by decide⟩
  have pre13 : oL p e below s₁ (mkF m 31 #[oR a1, oI 0, oR t1, oI 0, oI 3, oI 0, oI c0] [oi (c0.toInt8.toInt32), oi 0, ow t1]) s₁ (entryFrame m #[(.ref a1), (.int (0 : Int32)), (.ref t1), (.int (0 : Int32)), (.int (3 : Int32))] 7) := fun t k => pre11 t (by
    refine X0.caload hx (j := (0 : Int32)) (v := (.int c0)) (by rw [e0]; exact Ar12.1) (State.isArrayOf_alike hZ.alike Ar12.2.1) Ar12.2.2 hin12 (Hs12.at hin12 rfl) (g := (mkF m 12 #[oR a1, oI 0, oR t1, oI 0, oI 3, oI 0, oU] [oi 0, ow a1])) rfl rfl (hb hby d6_12) _ ?_
    show oS p e below s₁ (mkF m 13 #[oR a1, oI 0, oR t1, oI 0, oI 3, oI 0, oU] [oi c0]) _
    refine XS.istore X0.here hx rfl (hb hby d6_13) rfl (l' := #[oR a1, oI 0, oR t1, oI 0, oI 3, oI 0, oI c0]) rfl ?_
    refine XS.iload X0.here hx rfl (hb hby d6_15) rfl ?_
    refine XS.sipush X0.here hx rfl (hb hby d6_17) ?_
    refine XS.icmpYes X0.here hx rfl (pc0 := 20) (pc' := 26) rfl (hb hby d6_20) rfl (flt hl0).2.2.2 (by decide) (by decide) ?_
    show oS p e below s₁ (mkF m 26 #[oR a1, oI 0, oR t1, oI 0, oI 3, oI 0, oI c0] []) _
    refine XS.aloadN X0.here hx rfl (hb hby d6_26) rfl rfl ?_
    refine XS.iloadN X0.here hx rfl (hb hby d6_27) rfl ?_
    refine XS.iload X0.here hx rfl (hb hby d6_28) rfl ?_
    refine XS.i2b X0.here hx rfl (hb hby d6_30) rfl ?_
    show oS p e below s₁ (mkF m 31 #[oR a1, oI 0, oR t1, oI 0, oI 3, oI 0, oI c0] [oi (c0.toInt8.toInt32), oi 0, ow t1]) _
    exact k)
  obtain ⟨cl14, Ar14, qc14, Sz14, Nn14, Hs14, Gs14⟩ := id V2
  obtain ⟨T14, h14, X14, e14, W14, st14⟩ := stB X0 hx hZ e0 Ar14 (j := (0 : Int32)) (inb_of Sz14 ⟨by decide, by decide⟩) (g := (mkF m 31 #[oR a1, oI 0, oR t1, oI 0, oI 3, oI 0, oI c0] [oi (c0.toInt8.toInt32), oi 0, ow t1])) rfl rfl (hb hby d6_31)
  have V14 : Arv Z h14 t1 k2 .byte (3 : Int32) [(.int (nar .byte (c0.toInt8.toInt32))), (.int (0 : Int32)), (.int (0 : Int32))] (.int (0 : Int32)) := Arv.set Ar14 qc14 Sz14 Nn14 Hs14 Gs14 (fits_nar_byte _) W14 0 rfl (Nat.le_of_ble_eq_true rfl)
  have N14 := Fr.snoc X14 N0 ge1
  have f15 := V1.other W14 ne1
  have OL16 := OL.wr W14 ge1
  have K17 : Keep h0 h14 [t1] := (Keep.refl h0 [t1]).wr W14 (Or.inl (List.mem_of_getElem? (i := 0) rfl))
  have pre18 : oL p e below T14 (mkF m 12 #[oR a1, oI 1, oR t1, oI 1, oI 3, oI 1, oI c0] [oi 1, ow a1]) s₁ (entryFrame m #[(.ref a1), (.int (0 : Int32)), (.ref t1), (.int (0 : Int32)), (.int (3 : Int32))] 7) := fun t k => pre13 t (by
    refine st14 _ ?_
    refine XS.iinc X14.here hx rfl (hb hby d6_32) rfl (l' := #[oR a1, oI 1, oR t1, oI 0, oI 3, oI 0, oI c0]) rfl ?_
    refine XS.iinc X14.here hx rfl (hb hby d6_35) rfl (l' := #[oR a1, oI 1, oR t1, oI 1, oI 3, oI 0, oI c0]) rfl ?_
    refine XS.iinc X14.here hx rfl (hb hby d6_38) rfl (l' := #[oR a1, oI 1, oR t1, oI 1, oI 3, oI 1, oI c0]) rfl ?_
    show oS p e below T14 (mkF m 41 #[oR a1, oI 1, oR t1, oI 1, oI 3, oI 1, oI c0] []) _
    refine XS.goto X14.here hx rfl (pc0 := 41) (pc' := 3) rfl (hb hby d6_41) (by decide) (by decide) ?_
    refine XS.iload X14.here hx rfl (hb hby d6_3) rfl ?_
    refine XS.iload X14.here hx rfl (hb hby d6_5) rfl ?_
    refine XS.icmpNo X14.here hx rfl (hb hby d6_7) rfl (tlt (by decide : (1 : Int32) < (3 : Int32))).2.1 ?_
    show oS p e below T14 (mkF m 10 #[oR a1, oI 1, oR t1, oI 1, oI 3, oI 1, oI c0] []) _
    refine XS.aloadN X14.here hx rfl (hb hby d6_10) rfl rfl ?_
    refine XS.iloadN X14.here hx rfl (hb hby d6_11) rfl ?_
    exact k)
  obtain ⟨cl19, Ar19, qc19, Sz19, Nn19, Hs19, Gs19⟩ := id f15
  have hin19 := inb_of (j := (1 : Int32)) Sz19 ⟨by decide, by decide⟩
  have pre20 : oL p e below T14 (mkF m 31 #[oR a1, oI 1, oR t1, oI 1, oI 3, oI 1, oI c1] [oi (c1.toInt8.toInt32), oi 1, ow t1]) s₁ (entryFrame m #[(.ref a1), (.int (0 : Int32)), (.ref t1), (.int (0 : Int32)), (.int (3 : Int32))] 7) := fun t k => pre18 t (by
    refine X14.caload hx (j := (1 : Int32)) (v := (.int c1)) (by rw [e14]; exact Ar19.1) (State.isArrayOf_alike hZ.alike Ar19.2.1) Ar19.2.2 hin19 (Hs19.at hin19 rfl) (g := (mkF m 12 #[oR a1, oI 1, oR t1, oI 1, oI 3, oI 1, oI c0] [oi 1, ow a1])) rfl rfl (hb hby d6_12) _ ?_
    refine XS.istore X14.here hx rfl (hb hby d6_13) rfl (l' := #[oR a1, oI 1, oR t1, oI 1, oI 3, oI 1, oI c1]) rfl ?_
    show oS p e below T14 (mkF m 15 #[oR a1, oI 1, oR t1, oI 1, oI 3, oI 1, oI c1] []) _
    refine XS.iload X14.here hx rfl (hb hby d6_15) rfl ?_
    refine XS.sipush X14.here hx rfl (hb hby d6_17) ?_
    refine XS.icmpYes X14.here hx rfl (pc0 := 20) (pc' := 26) rfl (hb hby d6_20) rfl (flt hl1).2.2.2 (by decide) (by decide) ?_
    refine XS.aloadN X14.here hx rfl (hb hby d6_26) rfl rfl ?_
    show oS p e below T14 (mkF m 27 #[oR a1, oI 1, oR t1, oI 1, oI 3, oI 1, oI c1] [ow t1]) _
    refine XS.iloadN X14.here hx rfl (hb hby d6_27) rfl ?_
    refine XS.iload X14.here hx rfl (hb hby d6_28) rfl ?_
    refine XS.i2b X14.here hx rfl (hb hby d6_30) rfl ?_
    exact k)
  obtain ⟨cl21, Ar21, qc21, Sz21, Nn21, Hs21, Gs21⟩ := id V14
  obtain ⟨T21, h21, X21, e21, W21, st21⟩ := stB X14 hx hZ e14 Ar21 (j := (1 : Int32)) (inb_of Sz21 ⟨by decide, by decide⟩) (g := (mkF m 31 #[oR a1, oI 1, oR t1, oI 1, oI 3, oI 1, oI c1] [oi (c1.toInt8.toInt32), oi 1, ow t1])) rfl rfl (hb hby d6_31)
  have V21 : Arv Z h21 t1 k2 .byte (3 : Int32) [(.int (nar .byte (c0.toInt8.toInt32))), (.int (nar .byte (c1.toInt8.toInt32))), (.int (0 : Int32))] (.int (0 : Int32)) := Arv.set Ar21 qc21 Sz21 Nn21 Hs21 Gs21 (fits_nar_byte _) W21 1 rfl (Nat.le_of_ble_eq_true rfl)
  have N21 := Fr.snoc X21 N14 ge1
  have f22 := f15.other W21 ne1
  have OL23 := OL16.wr W21 ge1
  have K24 : Keep h0 h21 [t1] := K17.wr W21 (Or.inl (List.mem_of_getElem? (i := 0) rfl))
  have pre25 : oL p e below T21 (mkF m 12 #[oR a1, oI 2, oR t1, oI 2, oI 3, oI 2, oI c1] [oi 2, ow a1]) s₁ (entryFrame m #[(.ref a1), (.int (0 : Int32)), (.ref t1), (.int (0 : Int32)), (.int (3 : Int32))] 7) := fun t k => pre20 t (by
    refine st21 _ ?_
    show oS p e below T21 (mkF m 32 #[oR a1, oI 1, oR t1, oI 1, oI 3, oI 1, oI c1] []) _
    refine XS.iinc X21.here hx rfl (hb hby d6_32) rfl (l' := #[oR a1, oI 2, oR t1, oI 1, oI 3, oI 1, oI c1]) rfl ?_
    refine XS.iinc X21.here hx rfl (hb hby d6_35) rfl (l' := #[oR a1, oI 2, oR t1, oI 2, oI 3, oI 1, oI c1]) rfl ?_
    refine XS.iinc X21.here hx rfl (hb hby d6_38) rfl (l' := #[oR a1, oI 2, oR t1, oI 2, oI 3, oI 2, oI c1]) rfl ?_
    refine XS.goto X21.here hx rfl (pc0 := 41) (pc' := 3) rfl (hb hby d6_41) (by decide) (by decide) ?_
    show oS p e below T21 (mkF m 3 #[oR a1, oI 2, oR t1, oI 2, oI 3, oI 2, oI c1] []) _
    refine XS.iload X21.here hx rfl (hb hby d6_3) rfl ?_
    refine XS.iload X21.here hx rfl (hb hby d6_5) rfl ?_
    refine XS.icmpNo X21.here hx rfl (hb hby d6_7) rfl (tlt (by decide : (2 : Int32) < (3 : Int32))).2.1 ?_
    refine XS.aloadN X21.here hx rfl (hb hby d6_10) rfl rfl ?_
    show oS p e below T21 (mkF m 11 #[oR a1, oI 2, oR t1, oI 2, oI 3, oI 2, oI c1] [ow a1]) _
    refine XS.iloadN X21.here hx rfl (hb hby d6_11) rfl ?_
    exact k)
  obtain ⟨cl26, Ar26, qc26, Sz26, Nn26, Hs26, Gs26⟩ := id f22
  have hin26 := inb_of (j := (2 : Int32)) Sz26 ⟨by decide, by decide⟩
  have pre27 : oL p e below T21 (mkF m 25 #[oR a1, oI 2, oR t1, oI 2, oI 3, oI 2, oI c2] [oi 2]) s₁ (entryFrame m #[(.ref a1), (.int (0 : Int32)), (.ref t1), (.int (0 : Int32)), (.int (3 : Int32))] 7) := fun t k => pre25 t (by
    refine X21.caload hx (j := (2 : Int32)) (v := (.int c2)) (by rw [e21]; exact Ar26.1) (State.isArrayOf_alike hZ.alike Ar26.2.1) Ar26.2.2 hin26 (Hs26.at hin26 rfl) (g := (mkF m 12 #[oR a1, oI 2, oR t1, oI 2, oI 3, oI 2, oI c1] [oi 2, ow a1])) rfl rfl (hb hby d6_12) _ ?_
    refine XS.istore X21.here hx rfl (hb hby d6_13) rfl (l' := #[oR a1, oI 2, oR t1, oI 2, oI 3, oI 2, oI c2]) rfl ?_
    refine XS.iload X21.here hx rfl (hb hby d6_15) rfl ?_
    show oS p e below T21 (mkF m 17 #[oR a1, oI 2, oR t1, oI 2, oI 3, oI 2, oI c2] [oi c2]) _
    refine XS.sipush X21.here hx rfl (hb hby d6_17) ?_
    refine XS.icmpNo X21.here hx rfl (hb hby d6_20) rfl (tlt hg).2.2.2 ?_
    refine XS.iload X21.here hx rfl (hb hby d6_23) rfl ?_
    exact k)
  obtain ⟨fs, hr, hrun, hended, hW, hsame⟩ := X21.leave (v := some (.int (2 : Int32))) (fun h => by rw [Bd.returns] at h; cases h)
  refine ⟨_, _, pre27 _ ?_, hrun, hended, _, _, rfl, ?_, ⟨_, rfl⟩, hW, hsame.mono (by decide) (by decide)⟩
  ·
    show oS p e below T21 (mkF m 25 #[oR a1, oI 2, oR t1, oI 2, oI 3, oI 2, oI c2] [oi 2]) _
    exact retI X21 hx Bd.returns (hb hby d6_25) hr
  ·
    show Q_rm_c5_3_2 Z a1 k1 t1 k2 c0 c1 c2 h0 n0 _ T21.heap _
    rw [e21]
    exact ⟨rfl, N21, K24⟩
def Q_rm_cmp_3_2 (Z : State) (a1 : Addr) (k1 : ClassId) (c0 : Int32) (c1 : Int32) (c2 : Int32) (h0 : Heap) (n0 : Nat) (v : Option Value) (h : Heap) (L : List Loc) : Prop := ∃ (r : Addr) (kr : ClassId), v = some (.ref r) ∧ Fr n0 L ∧ Keep h0 h [] ∧ h0.size ≤ r ∧ Arv Z h r kr .byte (6 : Int32) [(.int (own_hb c0)), (.int (own_lb c0)), (.int (own_hb c1)), (.int (own_lb c1)), (.int (own_hb c2)), (.int (own_lb c2))] (.int (0 : Int32))
set_option maxRecDepth 65536 in
set_option maxHeartbeats 40000000 in
theorem rm_cmp_3_2 (l : Launch) (Z : State) (a0 : Array Value) (hw : ∀ d ∈ tables_1, d.before a0 Z = true) (ws : List Jvm.Cond) (a1 : Addr) (k1 : ClassId) (c0 : Int32) (c1 : Int32) (c2 : Int32) (h0 : Heap) (n0 : Nat) (OL : Old Z n0 h0) (AD : Sta Z Z.heap "java/lang/StringUTF16" "$assertionsDisabled" "Z" (.int (1 : Int32))) (HB : Sta Z Z.heap "java/lang/StringUTF16" "HI_BYTE_SHIFT" "I" (.int (0 : Int32))) (LB : Sta Z Z.heap "java/lang/StringUTF16" "LO_BYTE_SHIFT" "I" (.int (8 : Int32))) (V1 : Arv Z h0 a1 k1 .char (3 : Int32) [(.int c0), (.int c1), (.int c2)] (.int (0 : Int32))) (hl0 : ¬ ((255 : Int32) < c0)) (hl1 : ¬ ((255 : Int32) < c1)) (hg : (255 : Int32) < c2) (nc0 : nar .char c0 = c0) (nc1 : nar .char c1 = c1) (nc2 : nar .char c2 = c2) :
    MetFree l (⟨"java/lang/StringUTF16", "compress", "([CII)[B"⟩ : MethodName) (head1 (Jvm.Cond.code (⟨"java/lang/StringUTF16", "compress", "([CII)[B"⟩ : MethodName) jdk_52_method_16_code 6 (some (.array .byte)) :: ws) ({ frames := 3, cells := 2, slots := 9, locals := 40 } : Room)) (fun a U => a = #[(.ref a1), (.int (0 : Int32)), (.int (3 : Int32))] ∧ Z.Warmed39 U.vm ∧ U.heap = h0) (fun _ _ _ _ _ => True) (fun _ U o U' => ∃ v L, o = .returned v ∧ Q_rm_cmp_3_2 Z a1 k1 c0 c1 c2 h0 n0 v U'.heap L ∧ FrameEnd U o U' L ({ frames := 3, cells := 2, slots := 9, locals := 40 } : Room).cells ({ frames := 3, cells := 2, slots := 9, locals := 40 } : Room).slots) := by
  refine MetFree.of_bodySF (plainFor_of_name pn_java_lang_StringUTF16) hisR ?_
  intro p e s m args below meth c s₁ Bd hml0 hP hK
  obtain ⟨rfl, hZ, hh⟩ := hP
  have hx := Bd.exec
  have hby := Bd.bytes
  have hml : c.maxLocals = 6 := hml0
  have hown : s.vm.findClass "java/lang/StringUTF16" = some m.cls := findClass_of_methodNamed Bd.named
  have hnm := (name_of_methodNamed Bd.named Bd.method).1
  have X0 : Stand p l e ({ frames := 3, cells := 2, slots := 9, locals := 40 } : Room) s m #[(.ref a1), (.int (0 : Int32)), (.int (3 : Int32))] below meth c s₁ [] 0 0 := Stand.of_body Bd
  have e0 : s₁.heap = h0 := by rw [← hh, Bd.state]; rfl
  have N0 := Fr.nil n0
  have pre0 : oL p e below s₁ (mkF m 0 #[oR a1, oI 0, oI 3, oU, oU, oU] []) s₁ (entryFrame m #[(.ref a1), (.int (0 : Int32)), (.int (3 : Int32))] 6) := fun t k => castTop (by first | (simp [entryFrame, mkF, argsToLocals, Value.category]; done) | rfl) k
  have pre11 : oL p e below s₁ (mkF m 1 #[oR a1, oI 0, oI 3, oU, oU, oU] [oi 3]) s₁ (entryFrame m #[(.ref a1), (.int (0 : Int32)), (.int (3 : Int32))] 6) := fun t k => pre0 t (by
    refine XS.iloadN X0.here hx rfl (hb hby d5_0) rfl ?_
    exact k)
  obtain ⟨T12, h12, k12, X12, e12, E12, A12, st12⟩ := newP X0 hx hZ (oW hw 26 rfl) e0 (g := (mkF m 1 #[oR a1, oI 0, oI 3, oU, oU, oU] [oi 3])) rfl (hb hby d5_1) rfl (by decide) (cap := 3) (by decide) (by decide) (by decide) (by decide)
  obtain ⟨b12, g12⟩ : ∃ z, z = h0.size := ⟨_, rfl⟩
  rw [← g12] at A12 st12
  have ne13 : a1 ≠ b12 := Nat.ne_of_lt (Nat.lt_of_lt_of_le V1.lt (Nat.le_of_eq g12.symm))
  have ge_b12 : n0 ≤ b12 := Nat.le_trans (OL.1 ▸ OL.2.1) (Nat.le_of_eq g12.symm)
  have sz_b12 : h0.size ≤ b12 := Nat.le_trans (Keep.refl h0 []).1 (Nat.le_of_eq g12.symm)
  have f14 := V1.ext E12
  have OL15 := OL.ext E12
  have K16 : Keep h0 h12 [] := (Keep.refl h0 []).ext E12
  have V12 : Arv Z h12 b12 k12 .byte (3 : Int32) [(.int (0 : Int32)), (.int (0 : Int32)), (.int (0 : Int32))] (.int (0 : Int32)) := (Arv.new A12 (by decide)).pad (pad_rep [] (.int (0 : Int32)) 3)
  have pre17 : oL p e below T12 (mkF m 9 #[oR a1, oI 0, oI 3, oR b12, oU, oU] [oi 3, oi 0, ow b12, oi 0, ow a1]) s₁ (entryFrame m #[(.ref a1), (.int (0 : Int32)), (.int (3 : Int32))] 6) := fun t k => pre11 t (by
    refine st12 _ ?_
    refine XS.astoreN X12.here hx rfl (hb hby d5_3) rfl rfl (l' := #[oR a1, oI 0, oI 3, oR b12, oU, oU]) rfl ?_
    refine XS.aloadN X12.here hx rfl (hb hby d5_4) rfl rfl ?_
    show oS p e below T12 (mkF m 5 #[oR a1, oI 0, oI 3, oR b12, oU, oU] [ow a1]) _
    refine XS.iloadN X12.here hx rfl (hb hby d5_5) rfl ?_
    refine XS.aloadN X12.here hx rfl (hb hby d5_6) rfl rfl ?_
    refine XS.iconst X12.here hx rfl (hb hby d5_7) ?_
    refine XS.iloadN X12.here hx rfl (hb hby d5_8) rfl ?_
    show oS p e below T12 (mkF m 9 #[oR a1, oI 0, oI 3, oR b12, oU, oU] [oi 3, oi 0, ow b12, oi 0, ow a1]) _
    exact k)
  obtain ⟨_, _, ⟨T18, L18, k18, n18⟩, -, X18, ⟨Lc18, hQ18, l18, y18, z18⟩, st18⟩ := Jvm.LawKit.callS X12 hx (y := (⟨"java/lang/StringUTF16", "compress", "([CI[BII)I"⟩ : MethodName)) hown (mvT hZ (oW hw 27 rfl)) (mvT hZ (oW hw 28 rfl)) (mvT hZ (oW hw 24 rfl)) (mvT hZ (oW hw 29 rfl)) (by decide) (backOf (W := 0) (rm_c5_3_2 l Z a0 hw [] a1 k1 b12 k12 c0 c1 c2 h12 n0 OL15 ge_b12 f14 V12 ne13 hl0 hl1 hg) hZ (oW hw 29 rfl) (oW hw 24 rfl) (by decide) (by decide)) (g := (mkF m 9 #[oR a1, oI 0, oI 3, oR b12, oU, oU] [oi 3, oi 0, ow b12, oi 0, ow a1])) rfl (by rw [hml]; rfl) (argsL := [(.ref a1), (.int (0 : Int32)), (.ref b12), (.int (0 : Int32)), (.int (3 : Int32))]) (rest := []) (lenOf pd___CI_BII_I rfl) rfl (by show 2 * 0 + _ ≤ _; exact Nat.le_of_eq rfl) (hb hby d5_9) (fun _ _ => ⟨rfl, e12, (by decide : 1 + 0 ≤ _), (by decide : 3 + 0 ≤ _)⟩)
  dsimp only [Pt.U, Pt.locs, Pt.cells, Pt.slots] at X18 l18 y18 z18 st18 hQ18
  subst l18 y18 z18
  obtain ⟨rfl, N18q, Kq18⟩ := hQ18
  have N18 := Fr.app N0 N18q
  have f19 := f14.keep Kq18 (ninS ne13 nin0)
  have OL20 := OL15.keep Kq18 (allS ge_b12 all0)
  have K21 : Keep h0 T18.heap [] := K16.trans Kq18 (allS (Or.inr sz_b12) all0)
  have pre22 : oL p e below T18 (mkF m 23 #[oR a1, oI 0, oI 3, oR b12, oI 2, oU] [oi 3, oi 0, ow a1]) s₁ (entryFrame m #[(.ref a1), (.int (0 : Int32)), (.int (3 : Int32))] 6) := fun t k => pre17 t (by
    refine st18 _ ?_
    refine XS.istore X18.here hx rfl (hb hby d5_12) rfl (l' := #[oR a1, oI 0, oI 3, oR b12, oI 2, oU]) rfl ?_
    refine XS.iload X18.here hx rfl (hb hby d5_14) rfl ?_
    refine XS.iloadN X18.here hx rfl (hb hby d5_16) rfl ?_
    show oS p e below T18 (mkF m 17 #[oR a1, oI 0, oI 3, oR b12, oI 2, oU] [oi 3, oi 2]) _
    refine XS.icmpNo X18.here hx rfl (hb hby d5_17) rfl (feq (by decide : ¬ ((2 : Int32) = (3 : Int32)))).1 ?_
    refine XS.aloadN X18.here hx rfl (hb hby d5_20) rfl rfl ?_
    refine XS.iloadN X18.here hx rfl (hb hby d5_21) rfl ?_
    refine XS.iloadN X18.here hx rfl (hb hby d5_22) rfl ?_
    show oS p e below T18 (mkF m 23 #[oR a1, oI 0, oI 3, oR b12, oI 2, oU] [oi 3, oi 0, ow a1]) _
    exact k)
  obtain ⟨_, _, ⟨T23, L23, k23, n23⟩, -, X23, ⟨Lc23, hQ23, l23, y23, z23⟩, st23⟩ := Jvm.LawKit.callS X18 hx (y := (⟨"java/lang/StringUTF16", "toBytes", "([CII)[B"⟩ : MethodName)) hown (mvT hZ (oW hw 60 rfl)) (mvT hZ (oW hw 61 rfl)) (mvT hZ (oW hw 24 rfl)) (mvT hZ (oW hw 62 rfl)) (by decide) (backOf (W := 0) (rm_tob3 l Z a0 hw [] a1 k1 c0 c1 c2 T18.heap n0 OL20 AD HB LB f19) hZ (oW hw 62 rfl) (oW hw 24 rfl) (by decide) (by decide)) (g := (mkF m 23 #[oR a1, oI 0, oI 3, oR b12, oI 2, oU] [oi 3, oi 0, ow a1])) rfl (by rw [hml]; rfl) (argsL := [(.ref a1), (.int (0 : Int32)), (.int (3 : Int32))]) (rest := []) (lenOf pd___CII__B rfl) rfl (by show 2 * 0 + _ ≤ _; exact Nat.le_of_eq rfl) (hb hby d5_23) (fun _ _ => ⟨rfl, rfl, (by decide : 1 + 1 ≤ _), (by decide : 3 + 6 ≤ _)⟩)
  dsimp only [Pt.U, Pt.locs, Pt.cells, Pt.slots] at X23 l23 y23 z23 st23 hQ23
  subst l23 y23 z23
  obtain ⟨r23, kr23, rfl, N23q, Kq23, sq23, Va23⟩ := hQ23
  have N23 := Fr.app N18 N23q
  have ne24 : a1 ≠ r23 := Nat.ne_of_lt (Nat.lt_of_lt_of_le f19.lt sq23)
  have ge_r23 : n0 ≤ r23 := Nat.le_trans (OL20.1 ▸ OL20.2.1) sq23
  have sz_r23 : h0.size ≤ r23 := Nat.le_trans K21.1 sq23
  have f25 := f19.keep Kq23 nin0
  have OL26 := OL20.keep Kq23 all0
  have K27 : Keep h0 T23.heap [] := K21.trans Kq23 all0
  have pre28 : oL p e below T23 (mkF m 32 #[oR a1, oI 0, oI 3, oR b12, oI 2, oR r23] [oi 2, ow r23]) s₁ (entryFrame m #[(.ref a1), (.int (0 : Int32)), (.int (3 : Int32))] 6) := fun t k => pre22 t (by
    refine st23 _ ?_
    refine XS.astore X23.here hx rfl (hb hby d5_26) rfl rfl (l' := #[oR a1, oI 0, oI 3, oR b12, oI 2, oR r23]) rfl ?_
    refine XS.aload X23.here hx rfl (hb hby d5_28) rfl rfl ?_
    refine XS.iload X23.here hx rfl (hb hby d5_30) rfl ?_
    show oS p e below T23 (mkF m 32 #[oR a1, oI 0, oI 3, oR b12, oI 2, oR r23] [oi 2, ow r23]) _
    exact k)
  obtain ⟨_, _, ⟨T29, L29, k29, n29⟩, -, X29, ⟨Lc29, hQ29, l29, y29, z29⟩, st29⟩ := Jvm.LawKit.callS X23 hx (y := (⟨"java/lang/StringUTF16", "getChar", "([BI)C"⟩ : MethodName)) hown (mvT hZ (oW hw 76 rfl)) (mvT hZ (oW hw 77 rfl)) (mvT hZ (oW hw 24 rfl)) (mvT hZ (oW hw 78 rfl)) (by decide) (backOf (W := 0) (rm_get3_2 l Z a0 hw [] r23 kr23 (own_hb c0) (own_lb c0) (own_hb c1) (own_lb c1) (own_hb c2) (own_lb c2) T23.heap n0 OL26 AD HB LB Va23) hZ (oW hw 78 rfl) (oW hw 24 rfl) (by decide) (by decide)) (g := (mkF m 32 #[oR a1, oI 0, oI 3, oR b12, oI 2, oR r23] [oi 2, ow r23])) rfl (by rw [hml]; rfl) (argsL := [(.ref r23), (.int (2 : Int32))]) (rest := []) (lenOf pd___BI_C rfl) rfl (by show 2 * 0 + _ ≤ _; exact Nat.le_of_eq rfl) (hb hby d5_32) (fun _ _ => ⟨rfl, rfl, (by decide : 2 + 0 ≤ _), (by decide : 9 + 0 ≤ _)⟩)
  dsimp only [Pt.U, Pt.locs, Pt.cells, Pt.slots] at X29 l29 y29 z29 st29 hQ29
  subst l29 y29 z29
  obtain ⟨rfl, N29q, e29⟩ := hQ29
  have N29 := Fr.app N23 N29q
  have pre30 : oL p e below T29 (mkF m 56 #[oR a1, oI 0, oI 3, oR b12, oI 2, oR r23] [ow r23]) s₁ (entryFrame m #[(.ref a1), (.int (0 : Int32)), (.int (3 : Int32))] 6) := fun t k => pre28 t (by
    refine st29 _ ?_
    refine XS.sipush X29.here hx rfl (hb hby d5_35) ?_
    refine XS.icmpYes X29.here hx rfl (pc0 := 38) (pc' := 54) rfl (hb hby d5_38) rfl (tlt (own_gcg _ nc2 hg)).2.2.1 (by decide) (by decide) ?_
    refine XS.aload X29.here hx rfl (hb hby d5_54) rfl rfl ?_
    show oS p e below T29 (mkF m 56 #[oR a1, oI 0, oI 3, oR b12, oI 2, oR r23] [ow r23]) _
    exact k)
  obtain ⟨fs, hr, hrun, hended, hW, hsame⟩ := X29.leave (v := some (.ref r23)) (fun h => by rw [Bd.returns] at h; cases h)
  refine ⟨_, _, pre30 _ ?_, hrun, hended, _, _, rfl, ?_, ⟨_, rfl⟩, hW, hsame.mono (by decide) (by decide)⟩
  ·
    show oS p e below T29 (mkF m 56 #[oR a1, oI 0, oI 3, oR b12, oI 2, oR r23] [ow r23]) _
    jvm_step X29.here [X29.here.top, hx, (hb hby d5_56), X29.method', Bd.returns, Value.isRef, FieldType.isReference]
    first | (intro acts; rw [hr _ acts rfl rfl rfl]) | rw [hr _ _ rfl rfl rfl]
    exact Steps.refl _
  ·
    show Q_rm_cmp_3_2 Z a1 k1 c0 c1 c2 h0 n0 _ T29.heap _
    rw [e29]
    exact ⟨r23, kr23, rfl, N29, K27, sz_r23, Va23⟩
set_option maxRecDepth 65536 in
set_option maxHeartbeats 40000000 in
theorem rm_si_3_2 (l : Launch) (Z : State) (a0 : Array Value) (hw : ∀ d ∈ tables_1, d.before a0 Z = true) (ws : List Jvm.Cond) (a1 : Addr) (a2 : Addr) (k2 : ClassId) (G1 : Int32) (c0 : Int32) (c1 : Int32) (c2 : Int32) (h0 : Heap) (n0 : Nat) (OL : Old Z n0 h0) (AD : Sta Z Z.heap "java/lang/StringUTF16" "$assertionsDisabled" "Z" (.int (1 : Int32))) (HB : Sta Z Z.heap "java/lang/StringUTF16" "HI_BYTE_SHIFT" "I" (.int (0 : Int32))) (LB : Sta Z Z.heap "java/lang/StringUTF16" "LO_BYTE_SHIFT" "I" (.int (8 : Int32))) (O2 : Sta Z Z.heap "java/lang/String" "COMPACT_STRINGS" "Z" (.int G1)) (P5 : ¬ (G1 = (0 : Int32))) (ge1 : n0 ≤ a1) (E1 : Exa Z h0 a1 "java/lang/String") (F1 : Fld Z h0 a1 "java/lang/String" "value" "[B" .null) (F2 : Fld Z h0 a1 "java/lang/String" "coder" "B" (.int (0 : Int32))) (V2 : Arv Z h0 a2 k2 .char (3 : Int32) [(.int c0), (.int c1), (.int c2)] (.int (0 : Int32))) (hl0 : ¬ ((255 : Int32) < c0)) (hl1 : ¬ ((255 : Int32) < c1)) (hg : (255 : Int32) < c2) (nc0 : nar .char c0 = c0) (nc1 : nar .char c1 = c1) (nc2 : nar .char c2 = c2) :
    MetFree l (⟨"java/lang/String", "<init>", "([CIILjava/lang/Void;)V"⟩ : MethodName) (head1 (Jvm.Cond.code (⟨"java/lang/String", "<init>", "([CIILjava/lang/Void;)V"⟩ : MethodName) jdk_42_method_149_code 6 none :: ws) ({ frames := 4, cells := 2, slots := 9, locals := 57 } : Room)) (fun a U => a = #[(.ref a1), (.ref a2), (.int (0 : Int32)), (.int (3 : Int32)), .null] ∧ Z.Warmed39 U.vm ∧ U.heap = h0) (fun _ _ _ _ _ => True) (fun _ U o U' => ∃ v L, o = .returned v ∧ Q_S3 Z a1 a2 k2 G1 c0 c1 c2 h0 n0 v U'.heap L ∧ FrameEnd U o U' L ({ frames := 4, cells := 2, slots := 9, locals := 57 } : Room).cells ({ frames := 4, cells := 2, slots := 9, locals := 57 } : Room).slots) := by
  refine MetFree.of_bodySF (plainFor_of_name pn_java_lang_String) hisR ?_
  intro p e s m args below meth c s₁ Bd hml0 hP hK
  obtain ⟨rfl, hZ, hh⟩ := hP
  have hx := Bd.exec
  have hby := Bd.bytes
  have hml : c.maxLocals = 6 := hml0
  have hown : s.vm.findClass "java/lang/String" = some m.cls := findClass_of_methodNamed Bd.named
  have hnm := (name_of_methodNamed Bd.named Bd.method).1
  have X0 : Stand p l e ({ frames := 4, cells := 2, slots := 9, locals := 57 } : Room) s m #[(.ref a1), (.ref a2), (.int (0 : Int32)), (.int (3 : Int32)), .null] below meth c s₁ [] 0 0 := Stand.of_body Bd
  have e0 : s₁.heap = h0 := by rw [← hh, Bd.state]; rfl
  have N0 := Fr.nil n0
  have pre0 : oL p e below s₁ (mkF m 0 #[oR a1, oR a2, oI 0, oI 3, oN, oU] []) s₁ (entryFrame m #[(.ref a1), (.ref a2), (.int (0 : Int32)), (.int (3 : Int32)), .null] 6) := fun t k => castTop (by first | (simp [entryFrame, mkF, argsToLocals, Value.category]; done) | rfl) k
  have own_ne : a2 ≠ a1 := (Exa.neArv E1 V2 (oW hw 9 rfl)).symm
  have pre11 : oL p e below s₁ (mkF m 1 #[oR a1, oR a2, oI 0, oI 3, oN, oU] [ow a1]) s₁ (entryFrame m #[(.ref a1), (.ref a2), (.int (0 : Int32)), (.int (3 : Int32)), .null] 6) := fun t k => pre0 t (by
    refine XS.aloadN X0.here hx rfl (hb hby d3_0) rfl rfl ?_
    exact k)
  obtain ⟨T12, X12, e12, st12⟩ := initO X0 hx hZ hown (oW hw 18 rfl) (oW hw 19 rfl) (oW hw 20 rfl) e0 (g := (mkF m 1 #[oR a1, oR a2, oI 0, oI 3, oN, oU] [ow a1])) rfl (by rw [hml]; rfl) rfl (hb hby d3_1) (by decide) (W := 0) (by show 2 * 0 + _ ≤ _; exact Nat.le_of_eq rfl) (by decide)
  have pre13 : oL p e below T12 (mkF m 27 #[oR a1, oR a2, oI 0, oI 3, oN, oU] []) s₁ (entryFrame m #[(.ref a1), (.ref a2), (.int (0 : Int32)), (.int (3 : Int32)), .null] 6) := fun t k => pre11 t (by
    refine st12 _ ?_
    refine XS.iloadN X12.here hx rfl (hb hby d3_4) rfl ?_
    refine XS.ifYes X12.here hx rfl (pc0 := 5) (pc' := 27) rfl (hb hby d3_5) rfl ((if0 _ _).trans (feq (by decide : ¬ ((3 : Int32) = (0 : Int32)))).2) (by decide) (by decide) ?_
    show oS p e below T12 (mkF m 27 #[oR a1, oR a2, oI 0, oI 3, oN, oU] []) _
    exact k)
  obtain ⟨T14, X14, e14, st14⟩ := getS2 X12 hx hZ hown (host := "") (Or.inl (oW hw 21 rfl)) Via.refl e12 (O2.ext OL.2) (g := (mkF m 27 #[oR a1, oR a2, oI 0, oI 3, oN, oU] [])) rfl (hb hby d3_27)
  have pre15 : oL p e below T14 (mkF m 36 #[oR a1, oR a2, oI 0, oI 3, oN, oU] [oi 3, oi 0, ow a2]) s₁ (entryFrame m #[(.ref a1), (.ref a2), (.int (0 : Int32)), (.int (3 : Int32)), .null] 6) := fun t k => pre13 t (by
    refine st14 _ ?_
    refine XS.ifNo X14.here hx rfl (hb hby d3_30) rfl ((if0 _ _).trans (feq P5).1) ?_
    refine XS.aloadN X14.here hx rfl (hb hby d3_33) rfl rfl ?_
    refine XS.iloadN X14.here hx rfl (hb hby d3_34) rfl ?_
    show oS p e below T14 (mkF m 35 #[oR a1, oR a2, oI 0, oI 3, oN, oU] [oi 0, ow a2]) _
    refine XS.iloadN X14.here hx rfl (hb hby d3_35) rfl ?_
    exact k)
  obtain ⟨_, _, ⟨T16, L16, k16, n16⟩, -, X16, ⟨Lc16, hQ16, l16, y16, z16⟩, st16⟩ := Jvm.LawKit.callS X14 hx (y := (⟨"java/lang/StringUTF16", "compress", "([CII)[B"⟩ : MethodName)) hown (mvT hZ (oW hw 22 rfl)) (mvT hZ (oW hw 23 rfl)) (mvT hZ (oW hw 24 rfl)) (mvT hZ (oW hw 25 rfl)) (by decide) (backOf (W := 0) (rm_cmp_3_2 l Z a0 hw [] a2 k2 c0 c1 c2 h0 n0 OL AD HB LB V2 hl0 hl1 hg nc0 nc1 nc2) hZ (oW hw 25 rfl) (oW hw 24 rfl) (by decide) (by decide)) (g := (mkF m 36 #[oR a1, oR a2, oI 0, oI 3, oN, oU] [oi 3, oi 0, ow a2])) rfl (by rw [hml]; rfl) (argsL := [(.ref a2), (.int (0 : Int32)), (.int (3 : Int32))]) (rest := []) (lenOf pd___CII__B rfl) rfl (by show 2 * 0 + _ ≤ _; exact Nat.le_of_eq rfl) (hb hby d3_36) (fun _ _ => ⟨rfl, e14, (by decide : 0 + 2 ≤ _), (by decide : 0 + 9 ≤ _)⟩)
  dsimp only [Pt.U, Pt.locs, Pt.cells, Pt.slots] at X16 l16 y16 z16 st16 hQ16
  subst l16 y16 z16
  obtain ⟨r16, kr16, rfl, N16q, Kq16, sq16, Va16⟩ := hQ16
  have N16 := Fr.app N0 N16q
  have ne17 : a1 ≠ r16 := Nat.ne_of_lt (Nat.lt_of_lt_of_le E1.lt sq16)
  have ne18 : a2 ≠ r16 := Nat.ne_of_lt (Nat.lt_of_lt_of_le V2.lt sq16)
  have ge_r16 : n0 ≤ r16 := Nat.le_trans (OL.1 ▸ OL.2.1) sq16
  have sz_r16 : h0.size ≤ r16 := Nat.le_trans (Keep.refl h0 [a1]).1 sq16
  have f19 := E1.keep Kq16
  have f20 := F1.keep Kq16 nin0
  have f21 := F2.keep Kq16 nin0
  have f22 := V2.keep Kq16 nin0
  have OL23 := OL.keep Kq16 all0
  have K24 : Keep h0 T16.heap [a1] := (Keep.refl h0 [a1]).trans Kq16 all0
  have pre25 : oL p e below T16 (mkF m 45 #[oR a1, oR a2, oI 0, oI 3, oN, oR r16] [oi 3, ow r16, ow a1]) s₁ (entryFrame m #[(.ref a1), (.ref a2), (.int (0 : Int32)), (.int (3 : Int32)), .null] 6) := fun t k => pre15 t (by
    refine st16 _ ?_
    refine XS.astore X16.here hx rfl (hb hby d3_39) rfl rfl (l' := #[oR a1, oR a2, oI 0, oI 3, oN, oR r16]) rfl ?_
    refine XS.aloadN X16.here hx rfl (hb hby d3_41) rfl rfl ?_
    show oS p e below T16 (mkF m 42 #[oR a1, oR a2, oI 0, oI 3, oN, oR r16] [ow a1]) _
    refine XS.aload X16.here hx rfl (hb hby d3_42) rfl rfl ?_
    refine XS.iloadN X16.here hx rfl (hb hby d3_44) rfl ?_
    exact k)
  obtain ⟨_, _, ⟨T26, L26, k26, n26⟩, -, X26, ⟨Lc26, hQ26, l26, y26, z26⟩, st26⟩ := Jvm.LawKit.callS X16 hx (y := (⟨"java/lang/StringUTF16", "coderFromArrayLen", "([BI)B"⟩ : MethodName)) hown (mvT hZ (oW hw 30 rfl)) (mvT hZ (oW hw 31 rfl)) (mvT hZ (oW hw 24 rfl)) (mvT hZ (oW hw 32 rfl)) (by decide) (backOf (W := 1) (rm_cfl3 l Z a0 hw [] r16 kr16 (own_hb c0) (own_lb c0) (own_hb c1) (own_lb c1) (own_hb c2) (own_lb c2) T16.heap n0 OL23 Va16) hZ (oW hw 32 rfl) (oW hw 24 rfl) (by decide) (by decide)) (g := (mkF m 45 #[oR a1, oR a2, oI 0, oI 3, oN, oR r16] [oi 3, ow r16, ow a1])) rfl (by rw [hml]; rfl) (argsL := [(.ref r16), (.int (3 : Int32))]) (rest := [(.ref a1)]) (lenOf pd___BI_B rfl) rfl (by show 2 * 0 + _ ≤ _; exact Nat.le_of_eq rfl) (hb hby d3_45) (fun _ _ => ⟨rfl, rfl, (by decide : 2 + 0 ≤ _), (by decide : 9 + 0 ≤ _)⟩)
  dsimp only [Pt.U, Pt.locs, Pt.cells, Pt.slots] at X26 l26 y26 z26 st26 hQ26
  subst l26 y26 z26
  obtain ⟨rfl, N26q, e26⟩ := hQ26
  have N26 := Fr.app N16 N26q
  have pre27 : oL p e below T26 (mkF m 48 #[oR a1, oR a2, oI 0, oI 3, oN, oR r16] [oi 1, ow a1]) s₁ (entryFrame m #[(.ref a1), (.ref a2), (.int (0 : Int32)), (.int (3 : Int32)), .null] 6) := fun t k => pre25 t (by
    refine st26 _ ?_
    exact k)
  obtain ⟨T28, h28, X28, e28, W28, st28⟩ := putFN X26 hx hZ hown (oW hw 33 rfl) Via.refl e26 f21 f19 (Or.inr ⟨(oW hw 34 rfl), rfl, hnm⟩) (oW hw 9 rfl) (ty := .byte) (v' := (.int (1 : Int32))) (by decide) rfl rfl (g := (mkF m 48 #[oR a1, oR a2, oI 0, oI 3, oN, oR r16] [oi 1, ow a1])) rfl rfl (hb hby d3_48)
  have f29 := f21.same W28
  have N28 := Fr.snoc X28 N26 ge1
  have f30 := f19.wr W28
  have f31 := f20.other W28 (Or.inr (slot_ne (Or.inr (oW hw 36 rfl)) (Or.inr (oW hw 34 rfl)) (by decide) (t := (.array .byte)) (t' := .byte) (by decide) (by decide)))
  have f32 := f22.other W28 own_ne
  have f33 := Va16.other W28 (Ne.symm ne17)
  have OL34 := OL23.wr W28 ge1
  have K35 : Keep h0 h28 [a1] := K24.wr W28 (Or.inl (List.mem_of_getElem? (i := 0) rfl))
  have pre36 : oL p e below T28 (mkF m 54 #[oR a1, oR a2, oI 0, oI 3, oN, oR r16] [ow r16, ow a1]) s₁ (entryFrame m #[(.ref a1), (.ref a2), (.int (0 : Int32)), (.int (3 : Int32)), .null] 6) := fun t k => pre27 t (by
    refine st28 _ ?_
    show oS p e below T28 (mkF m 51 #[oR a1, oR a2, oI 0, oI 3, oN, oR r16] []) _
    refine XS.aloadN X28.here hx rfl (hb hby d3_51) rfl rfl ?_
    refine XS.aload X28.here hx rfl (hb hby d3_52) rfl rfl ?_
    exact k)
  obtain ⟨T37, h37, X37, e37, W37, st37⟩ := putF X28 hx hZ hown (host := "") (Or.inl (oW hw 35 rfl)) Via.refl e28 f31 f30 (Or.inr ⟨(oW hw 36 rfl), rfl, hnm⟩) (oW hw 9 rfl) (ty := (.array .byte)) (by decide) rfl rfl (g := (mkF m 54 #[oR a1, oR a2, oI 0, oI 3, oN, oR r16] [ow r16, ow a1])) rfl rfl (hb hby d3_54)
  have f38 := f31.same W37
  have N37 := Fr.snoc X37 N28 ge1
  have f39 := f30.wr W37
  have f40 := f29.other W37 (Or.inr (slot_ne (Or.inr (oW hw 34 rfl)) (Or.inr (oW hw 36 rfl)) (by decide) (t := .byte) (t' := (.array .byte)) (by decide) (by decide)))
  have f41 := f32.other W37 own_ne
  have f42 := f33.other W37 (Ne.symm ne17)
  have OL43 := OL34.wr W37 ge1
  have K44 : Keep h0 h37 [a1] := K35.wr W37 (Or.inl (List.mem_of_getElem? (i := 0) rfl))
  have pre45 : oL p e below T37 (mkF m 57 #[oR a1, oR a2, oI 0, oI 3, oN, oR r16] []) s₁ (entryFrame m #[(.ref a1), (.ref a2), (.int (0 : Int32)), (.int (3 : Int32)), .null] 6) := fun t k => pre36 t (by
    refine st37 _ ?_
    exact k)
  obtain ⟨fs, hr, hrun, hended, hW, hsame⟩ := X37.leave (v := none) (fun _ => rfl)
  refine ⟨_, _, pre45 _ ?_, hrun, hended, _, _, rfl, ?_, ⟨_, rfl⟩, hW, hsame.mono (by decide) (by decide)⟩
  ·
    show oS p e below T37 (mkF m 57 #[oR a1, oR a2, oI 0, oI 3, oN, oR r16] []) _
    exact X37.returnOut hx Bd.returns (hb hby d3_57) hr
  ·
    show Q_S3 Z a1 a2 k2 G1 c0 c1 c2 h0 n0 _ T37.heap _
    rw [e37]
    exact ⟨rfl, N37, K44, f39, (1 : Int32), r16, kr16, (6 : Int32), [(.int (own_hb c0)), (.int (own_lb c0)), (.int (own_hb c1)), (.int (own_lb c1)), (.int (own_hb c2)), (.int (own_lb c2))], f40, sz_r16, fun q => ne17 q.symm, f38, f42, Or.inr ⟨rfl, Or.inr (Or.inr (hg))⟩⟩
set_option maxRecDepth 65536 in
set_option maxHeartbeats 40000000 in
theorem rm_s_3_2 (l : Launch) (Z : State) (a0 : Array Value) (hw : ∀ d ∈ tables_1, d.before a0 Z = true) (ws : List Jvm.Cond) (a1 : Addr) (a2 : Addr) (k2 : ClassId) (G1 : Int32) (c0 : Int32) (c1 : Int32) (c2 : Int32) (h0 : Heap) (n0 : Nat) (OL : Old Z n0 h0) (AD : Sta Z Z.heap "java/lang/StringUTF16" "$assertionsDisabled" "Z" (.int (1 : Int32))) (HB : Sta Z Z.heap "java/lang/StringUTF16" "HI_BYTE_SHIFT" "I" (.int (0 : Int32))) (LB : Sta Z Z.heap "java/lang/StringUTF16" "LO_BYTE_SHIFT" "I" (.int (8 : Int32))) (O2 : Sta Z Z.heap "java/lang/String" "COMPACT_STRINGS" "Z" (.int G1)) (P5 : ¬ (G1 = (0 : Int32))) (ge1 : n0 ≤ a1) (E1 : Exa Z h0 a1 "java/lang/String") (F1 : Fld Z h0 a1 "java/lang/String" "value" "[B" .null) (F2 : Fld Z h0 a1 "java/lang/String" "coder" "B" (.int (0 : Int32))) (V2 : Arv Z h0 a2 k2 .char (3 : Int32) [(.int c0), (.int c1), (.int c2)] (.int (0 : Int32))) (hl0 : ¬ ((255 : Int32) < c0)) (hl1 : ¬ ((255 : Int32) < c1)) (hg : (255 : Int32) < c2) (nc0 : nar .char c0 = c0) (nc1 : nar .char c1 = c1) (nc2 : nar .char c2 = c2) :
    MetFree l (⟨"java/lang/String", "<init>", "([C)V"⟩ : MethodName) (head1 (Jvm.Cond.code (⟨"java/lang/String", "<init>", "([C)V"⟩ : MethodName) jdk_42_method_3_code 2 none :: ws) ({ frames := 5, cells := 2, slots := 9, locals := 74 } : Room)) (fun a U => a = #[(.ref a1), (.ref a2)] ∧ Z.Warmed39 U.vm ∧ U.heap = h0) (fun _ _ _ _ _ => True) (fun _ U o U' => ∃ v L, o = .returned v ∧ Q_S3 Z a1 a2 k2 G1 c0 c1 c2 h0 n0 v U'.heap L ∧ FrameEnd U o U' L ({ frames := 5, cells := 2, slots := 9, locals := 74 } : Room).cells ({ frames := 5, cells := 2, slots := 9, locals := 74 } : Room).slots) := by
  refine MetFree.of_bodySF (plainFor_of_name pn_java_lang_String) hisR ?_
  intro p e s m args below meth c s₁ Bd hml0 hP hK
  obtain ⟨rfl, hZ, hh⟩ := hP
  have hx := Bd.exec
  have hby := Bd.bytes
  have hml : c.maxLocals = 2 := hml0
  have hown : s.vm.findClass "java/lang/String" = some m.cls := findClass_of_methodNamed Bd.named
  have hnm := (name_of_methodNamed Bd.named Bd.method).1
  have X0 : Stand p l e ({ frames := 5, cells := 2, slots := 9, locals := 74 } : Room) s m #[(.ref a1), (.ref a2)] below meth c s₁ [] 0 0 := Stand.of_body Bd
  have e0 : s₁.heap = h0 := by rw [← hh, Bd.state]; rfl
  have N0 := Fr.nil n0
  have pre0 : oL p e below s₁ (mkF m 0 #[oR a1, oR a2] []) s₁ (entryFrame m #[(.ref a1), (.ref a2)] 2) := fun t k => castTop (by first | (simp [entryFrame, mkF, argsToLocals, Value.category]; done) | rfl) k
  have own_ne : a2 ≠ a1 := (Exa.neArv E1 V2 (oW hw 9 rfl)).symm
  have pre12 : oL p e below s₁ (mkF m 4 #[oR a1, oR a2] [ow a2, oi 0, ow a2, ow a1]) s₁ (entryFrame m #[(.ref a1), (.ref a2)] 2) := fun t k => pre0 t (by
    refine XS.aloadN X0.here hx rfl (hb hby d2_0) rfl rfl ?_
    refine XS.aloadN X0.here hx rfl (hb hby d2_1) rfl rfl ?_
    refine XS.iconst X0.here hx rfl (hb hby d2_2) ?_
    refine XS.aloadN X0.here hx rfl (hb hby d2_3) rfl rfl ?_
    show oS p e below s₁ (mkF m 4 #[oR a1, oR a2] [ow a2, oi 0, ow a2, ow a1]) _
    exact k)
  obtain ⟨cl11, Ar11, -, Sz11, Nn11, -, -⟩ := id V2
  have pre13 : oL p e below s₁ (mkF m 6 #[oR a1, oR a2] [.null, oi 3, oi 0, ow a2, ow a1]) s₁ (entryFrame m #[(.ref a1), (.ref a2)] 2) := fun t k => pre12 t (by
    refine X0.arraylength hx (by rw [e0]; exact Ar11.1) (State.isArrayOf_alike hZ.alike Ar11.2.1) (g := (mkF m 4 #[oR a1, oR a2] [ow a2, oi 0, ow a2, ow a1])) rfl rfl (hb hby d2_4) _ ?_
    rw [len_of Sz11 Nn11]
    refine XS.aconstNull X0.here hx rfl (hb hby d2_5) ?_
    exact k)
  obtain ⟨_, _, ⟨T14, L14, k14, n14⟩, -, X14, ⟨Lc14, hQ14, l14, y14, z14⟩, st14⟩ := X0.specialBack hx (y := (⟨"java/lang/String", "<init>", "([CIILjava/lang/Void;)V"⟩ : MethodName)) rfl hown (mvT hZ (oW hw 14 rfl)) (mvT hZ (oW hw 15 rfl)) (mvT hZ (oW hw 17 rfl)) (by decide) (backOf (W := 0) (rm_si_3_2 l Z a0 hw [] a1 a2 k2 G1 c0 c1 c2 h0 n0 OL AD HB LB O2 P5 ge1 E1 F1 F2 V2 hl0 hl1 hg nc0 nc1 nc2) hZ (oW hw 17 rfl) (oW hw 10 rfl) (by decide) (by decide)) (g := (mkF m 6 #[oR a1, oR a2] [.null, oi 3, oi 0, ow a2, ow a1])) rfl (by rw [hml]; rfl) (Steps.refl _) (a := a1) (argsL := [(.ref a2), (.int (0 : Int32)), (.int (3 : Int32)), .null]) (rest := []) (lenOf pd___CIILjava_lang_Void__V rfl) rfl (by show 2 * 0 + _ ≤ _; exact Nat.le_of_eq rfl) (hb hby d2_6) (fun _ _ => ⟨rfl, e0, (by decide : 0 + 2 ≤ _), (by decide : 0 + 9 ≤ _)⟩)
  dsimp only [Pt.U, Pt.locs, Pt.cells, Pt.slots] at X14 l14 y14 z14 st14 hQ14
  subst l14 y14 z14
  obtain ⟨rfl, N14q, Kq14, Eq14, cd14, tt14, kb14, Nx14, vs14, Fc14, sq14, nx14, Fv14, Va14, ou14⟩ := hQ14
  have N14 := Fr.app N0 N14q
  have f15 := E1.keep Kq14
  have f16 := V2.keep Kq14 (ninS own_ne nin0)
  have OL17 := OL.keep Kq14 (allS ge1 all0)
  have K18 : Keep h0 T14.heap [a1] := (Keep.refl h0 [a1]).trans Kq14 (allS (Or.inl (List.mem_of_getElem? (i := 0) rfl)) all0)
  have pre19 : oL p e below T14 (mkF m 9 #[oR a1, oR a2] []) s₁ (entryFrame m #[(.ref a1), (.ref a2)] 2) := fun t k => pre13 t (by
    refine st14.trans ?_
    exact k)
  obtain ⟨fs, hr, hrun, hended, hW, hsame⟩ := X14.leave (v := none) (fun _ => rfl)
  refine ⟨_, _, pre19 _ ?_, hrun, hended, _, _, rfl, ?_, ⟨_, rfl⟩, hW, hsame.mono (by decide) (by decide)⟩
  ·
    show oS p e below T14 (mkF m 9 #[oR a1, oR a2] []) _
    exact X14.returnOut hx Bd.returns (hb hby d2_9) hr
  ·
    show Q_S3 Z a1 a2 k2 G1 c0 c1 c2 h0 n0 _ T14.heap _
    exact ⟨rfl, N14, K18, Eq14, cd14, tt14, kb14, Nx14, vs14, Fc14, Nat.le_trans (Keep.refl h0 [a1]).1 sq14, nx14, Fv14, Va14, ou14⟩
def Q_rm_c5_3_3 (Z : State) (a1 : Addr) (k1 : ClassId) (t1 : Addr) (k2 : ClassId) (c0 : Int32) (c1 : Int32) (c2 : Int32) (h0 : Heap) (n0 : Nat) (v : Option Value) (h : Heap) (L : List Loc) : Prop := v = some (.int (3 : Int32)) ∧ Fr n0 L ∧ Keep h0 h [t1] ∧ Arv Z h t1 k2 .byte (3 : Int32) [(.int (nar .byte (c0.toInt8.toInt32))), (.int (nar .byte (c1.toInt8.toInt32))), (.int (nar .byte (c2.toInt8.toInt32)))] (.int (0 : Int32))
set_option maxRecDepth 65536 in
set_option maxHeartbeats 40000000 in
theorem rm_c5_3_3 (l : Launch) (Z : State) (a0 : Array Value) (hw : ∀ d ∈ tables_1, d.before a0 Z = true) (ws : List Jvm.Cond) (a1 : Addr) (k1 : ClassId) (t1 : Addr) (k2 : ClassId) (c0 : Int32) (c1 : Int32) (c2 : Int32) (h0 : Heap) (n0 : Nat) (OL : Old Z n0 h0) (ge1 : n0 ≤ t1) (V1 : Arv Z h0 a1 k1 .char (3 : Int32) [(.int c0), (.int c1), (.int c2)] (.int (0 : Int32))) (V2 : Arv Z h0 t1 k2 .byte (3 : Int32) [(.int (0 : Int32)), (.int (0 : Int32)), (.int (0 : Int32))] (.int (0 : Int32))) (ne1 : a1 ≠ t1) (hl0 : ¬ ((255 : Int32) < c0)) (hl1 : ¬ ((255 : Int32) < c1)) (hl2 : ¬ ((255 : Int32) < c2)) :
    MetFree l (⟨"java/lang/StringUTF16", "compress", "([CI[BII)I"⟩ : MethodName) (head1 (Jvm.Cond.code (⟨"java/lang/StringUTF16", "compress", "([CI[BII)I"⟩ : MethodName) jdk_52_method_21_code 7 (some .int) :: ws) ({ frames := 0, cells := 0, slots := 0, locals := 0 } : Room)) (fun a U => a = #[(.ref a1), (.int (0 : Int32)), (.ref t1), (.int (0 : Int32)), (.int (3 : Int32))] ∧ Z.Warmed39 U.vm ∧ U.heap = h0) (fun _ _ _ _ _ => True) (fun _ U o U' => ∃ v L, o = .returned v ∧ Q_rm_c5_3_3 Z a1 k1 t1 k2 c0 c1 c2 h0 n0 v U'.heap L ∧ FrameEnd U o U' L ({ frames := 0, cells := 0, slots := 0, locals := 0 } : Room).cells ({ frames := 0, cells := 0, slots := 0, locals := 0 } : Room).slots) := by
  refine MetFree.of_bodySF (plainFor_of_name pn_java_lang_StringUTF16) hisR ?_
  intro p e s m args below meth c s₁ Bd hml0 hP hK
  obtain ⟨rfl, hZ, hh⟩ := hP
  have hx := Bd.exec
  have hby := Bd.bytes
  have hml : c.maxLocals = 7 := hml0
  have hown : s.vm.findClass "java/lang/StringUTF16" = some m.cls := findClass_of_methodNamed Bd.named
  have hnm := (name_of_methodNamed Bd.named Bd.method).1
  have X0 : Stand p l e ({ frames := 0, cells := 0, slots := 0, locals := 0 } : Room) s m #[(.ref a1), (.int (0 : Int32)), (.ref t1), (.int (0 : Int32)), (.int (3 : Int32))] below meth c s₁ [] 0 0 := Stand.of_body Bd
  have e0 : s₁.heap = h0 := by rw [← hh, Bd.state]; rfl
  have N0 := Fr.nil n0
  have pre0 : oL p e below s₁ (mkF m 0 #[oR a1, oI 0, oR t1, oI 0, oI 3, oU, oU] []) s₁ (entryFrame m #[(.ref a1), (.int (0 : Int32)), (.ref t1), (.int (0 : Int32)), (.int (3 : Int32))] 7) := fun t k => castTop (by first | (simp [entryFrame, mkF, argsToLocals, Value.category]; done) | rfl) k
  have pre11 : oL p e below s₁ (mkF m 12 #[oR a1, oI 0, oR t1, oI 0, oI 3, oI 0, oU] [oi 0, ow a1]) s₁ (entryFrame m #[(.ref a1), (.int (0 : Int32)), (.ref t1), (.int (0 : Int32)), (.int (3 : Int32))] 7) := fun t k => pre0 t (by
    refine XS.iconst X0.here hx rfl (hb hby d6_0) ?_
    refine XS.istore X0.here hx rfl (hb hby d6_1) rfl (l' := #[oR a1, oI 0, oR t1, oI 0, oI 3, oI 0, oU]) rfl ?_
    refine XS.iload X0.here hx rfl (hb hby d6_3) rfl ?_
    refine XS.iload X0.here hx rfl (hb hby d6_5) rfl ?_
    show oS p e below s₁ (mkF m 7 #[oR a1, oI 0, oR t1, oI 0, oI 3, oI 0, oU] [oi 3, oi 0]) _
    refine XS.icmpNo X0.here hx rfl (hb hby d6_7) rfl (tlt (by decide : (0 : Int32) < (3 : Int32))).2.1 ?_
    refine XS.aloadN X0.here hx rfl (hb hby d6_10) rfl rfl ?_
    refine XS.iloadN X0.here hx rfl (hb hby d6_11) rfl ?_
    exact k)
  obtain ⟨cl12, Ar12, qc12, Sz12, Nn12, Hs12, Gs12⟩ := id V1
  have hin12 := inb_of (j := (0 : Int32)) Sz12 ⟨by decide, by decide⟩
  have pre13 : oL p e below s₁ (mkF m 31 #[oR a1, oI 0, oR t1, oI 0, oI 3, oI 0, oI c0] [oi (c0.toInt8.toInt32), oi 0, ow t1]) s₁ (entryFrame m #[(.ref a1), (.int (0 : Int32)), (.ref t1), (.int (0 : Int32)), (.int (3 : Int32))] 7) := fun t k => pre11 t (by
    refine X0.caload hx (j := (0 : Int32)) (v := (.int c0)) (by rw [e0]; exact Ar12.1) (State.isArrayOf_alike hZ.alike Ar12.2.1) Ar12.2.2 hin12 (Hs12.at hin12 rfl) (g := (mkF m 12 #[oR a1, oI 0, oR t1, oI 0, oI 3, oI 0, oU] [oi 0, ow a1])) rfl rfl (hb hby d6_12) _ ?_
    show oS p e below s₁ (mkF m 13 #[oR a1, oI 0, oR t1, oI 0, oI 3, oI 0, oU] [oi c0]) _
    refine XS.istore X0.here hx rfl (hb hby d6_13) rfl (l' := #[oR a1, oI 0, oR t1, oI 0, oI 3, oI 0, oI c0]) rfl ?_
    refine XS.iload X0.here hx rfl (hb hby d6_15) rfl ?_
    refine XS.sipush X0.here hx rfl (hb hby d6_17) ?_
    refine XS.icmpYes X0.here hx rfl (pc0 := 20) (pc' := 26) rfl (hb hby d6_20) rfl (flt hl0).2.2.2 (by decide) (by decide) ?_
    show oS p e below s₁ (mkF m 26 #[oR a1, oI 0, oR t1, oI 0, oI 3, oI 0, oI c0] []) _
    refine XS.aloadN X0.here hx rfl (hb hby d6_26) rfl rfl ?_
    refine XS.iloadN X0.here hx rfl (hb hby d6_27) rfl ?_
    refine XS.iload X0.here hx rfl (hb hby d6_28) rfl ?_
    refine XS.i2b X0.here hx rfl (hb hby d6_30) rfl ?_
    show oS p e below s₁ (mkF m 31 #[oR a1, oI 0, oR t1, oI 0, oI 3, oI 0, oI c0] [oi (c0.toInt8.toInt32), oi 0, ow t1]) _
    exact k)
  obtain ⟨cl14, Ar14, qc14, Sz14, Nn14, Hs14, Gs14⟩ := id V2
  obtain ⟨T14, h14, X14, e14, W14, st14⟩ := stB X0 hx hZ e0 Ar14 (j := (0 : Int32)) (inb_of Sz14 ⟨by decide, by decide⟩) (g := (mkF m 31 #[oR a1, oI 0, oR t1, oI 0, oI 3, oI 0, oI c0] [oi (c0.toInt8.toInt32), oi 0, ow t1])) rfl rfl (hb hby d6_31)
  have V14 : Arv Z h14 t1 k2 .byte (3 : Int32) [(.int (nar .byte (c0.toInt8.toInt32))), (.int (0 : Int32)), (.int (0 : Int32))] (.int (0 : Int32)) := Arv.set Ar14 qc14 Sz14 Nn14 Hs14 Gs14 (fits_nar_byte _) W14 0 rfl (Nat.le_of_ble_eq_true rfl)
  have N14 := Fr.snoc X14 N0 ge1
  have f15 := V1.other W14 ne1
  have OL16 := OL.wr W14 ge1
  have K17 : Keep h0 h14 [t1] := (Keep.refl h0 [t1]).wr W14 (Or.inl (List.mem_of_getElem? (i := 0) rfl))
  have pre18 : oL p e below T14 (mkF m 12 #[oR a1, oI 1, oR t1, oI 1, oI 3, oI 1, oI c0] [oi 1, ow a1]) s₁ (entryFrame m #[(.ref a1), (.int (0 : Int32)), (.ref t1), (.int (0 : Int32)), (.int (3 : Int32))] 7) := fun t k => pre13 t (by
    refine st14 _ ?_
    refine XS.iinc X14.here hx rfl (hb hby d6_32) rfl (l' := #[oR a1, oI 1, oR t1, oI 0, oI 3, oI 0, oI c0]) rfl ?_
    refine XS.iinc X14.here hx rfl (hb hby d6_35) rfl (l' := #[oR a1, oI 1, oR t1, oI 1, oI 3, oI 0, oI c0]) rfl ?_
    refine XS.iinc X14.here hx rfl (hb hby d6_38) rfl (l' := #[oR a1, oI 1, oR t1, oI 1, oI 3, oI 1, oI c0]) rfl ?_
    show oS p e below T14 (mkF m 41 #[oR a1, oI 1, oR t1, oI 1, oI 3, oI 1, oI c0] []) _
    refine XS.goto X14.here hx rfl (pc0 := 41) (pc' := 3) rfl (hb hby d6_41) (by decide) (by decide) ?_
    refine XS.iload X14.here hx rfl (hb hby d6_3) rfl ?_
    refine XS.iload X14.here hx rfl (hb hby d6_5) rfl ?_
    refine XS.icmpNo X14.here hx rfl (hb hby d6_7) rfl (tlt (by decide : (1 : Int32) < (3 : Int32))).2.1 ?_
    show oS p e below T14 (mkF m 10 #[oR a1, oI 1, oR t1, oI 1, oI 3, oI 1, oI c0] []) _
    refine XS.aloadN X14.here hx rfl (hb hby d6_10) rfl rfl ?_
    refine XS.iloadN X14.here hx rfl (hb hby d6_11) rfl ?_
    exact k)
  obtain ⟨cl19, Ar19, qc19, Sz19, Nn19, Hs19, Gs19⟩ := id f15
  have hin19 := inb_of (j := (1 : Int32)) Sz19 ⟨by decide, by decide⟩
  have pre20 : oL p e below T14 (mkF m 31 #[oR a1, oI 1, oR t1, oI 1, oI 3, oI 1, oI c1] [oi (c1.toInt8.toInt32), oi 1, ow t1]) s₁ (entryFrame m #[(.ref a1), (.int (0 : Int32)), (.ref t1), (.int (0 : Int32)), (.int (3 : Int32))] 7) := fun t k => pre18 t (by
    refine X14.caload hx (j := (1 : Int32)) (v := (.int c1)) (by rw [e14]; exact Ar19.1) (State.isArrayOf_alike hZ.alike Ar19.2.1) Ar19.2.2 hin19 (Hs19.at hin19 rfl) (g := (mkF m 12 #[oR a1, oI 1, oR t1, oI 1, oI 3, oI 1, oI c0] [oi 1, ow a1])) rfl rfl (hb hby d6_12) _ ?_
    refine XS.istore X14.here hx rfl (hb hby d6_13) rfl (l' := #[oR a1, oI 1, oR t1, oI 1, oI 3, oI 1, oI c1]) rfl ?_
    show oS p e below T14 (mkF m 15 #[oR a1, oI 1, oR t1, oI 1, oI 3, oI 1, oI c1] []) _
    refine XS.iload X14.here hx rfl (hb hby d6_15) rfl ?_
    refine XS.sipush X14.here hx rfl (hb hby d6_17) ?_
    refine XS.icmpYes X14.here hx rfl (pc0 := 20) (pc' := 26) rfl (hb hby d6_20) rfl (flt hl1).2.2.2 (by decide) (by decide) ?_
    refine XS.aloadN X14.here hx rfl (hb hby d6_26) rfl rfl ?_
    show oS p e below T14 (mkF m 27 #[oR a1, oI 1, oR t1, oI 1, oI 3, oI 1, oI c1] [ow t1]) _
    refine XS.iloadN X14.here hx rfl (hb hby d6_27) rfl ?_
    refine XS.iload X14.here hx rfl (hb hby d6_28) rfl ?_
    refine XS.i2b X14.here hx rfl (hb hby d6_30) rfl ?_
    exact k)
  obtain ⟨cl21, Ar21, qc21, Sz21, Nn21, Hs21, Gs21⟩ := id V14
  obtain ⟨T21, h21, X21, e21, W21, st21⟩ := stB X14 hx hZ e14 Ar21 (j := (1 : Int32)) (inb_of Sz21 ⟨by decide, by decide⟩) (g := (mkF m 31 #[oR a1, oI 1, oR t1, oI 1, oI 3, oI 1, oI c1] [oi (c1.toInt8.toInt32), oi 1, ow t1])) rfl rfl (hb hby d6_31)
  have V21 : Arv Z h21 t1 k2 .byte (3 : Int32) [(.int (nar .byte (c0.toInt8.toInt32))), (.int (nar .byte (c1.toInt8.toInt32))), (.int (0 : Int32))] (.int (0 : Int32)) := Arv.set Ar21 qc21 Sz21 Nn21 Hs21 Gs21 (fits_nar_byte _) W21 1 rfl (Nat.le_of_ble_eq_true rfl)
  have N21 := Fr.snoc X21 N14 ge1
  have f22 := f15.other W21 ne1
  have OL23 := OL16.wr W21 ge1
  have K24 : Keep h0 h21 [t1] := K17.wr W21 (Or.inl (List.mem_of_getElem? (i := 0) rfl))
  have pre25 : oL p e below T21 (mkF m 12 #[oR a1, oI 2, oR t1, oI 2, oI 3, oI 2, oI c1] [oi 2, ow a1]) s₁ (entryFrame m #[(.ref a1), (.int (0 : Int32)), (.ref t1), (.int (0 : Int32)), (.int (3 : Int32))] 7) := fun t k => pre20 t (by
    refine st21 _ ?_
    show oS p e below T21 (mkF m 32 #[oR a1, oI 1, oR t1, oI 1, oI 3, oI 1, oI c1] []) _
    refine XS.iinc X21.here hx rfl (hb hby d6_32) rfl (l' := #[oR a1, oI 2, oR t1, oI 1, oI 3, oI 1, oI c1]) rfl ?_
    refine XS.iinc X21.here hx rfl (hb hby d6_35) rfl (l' := #[oR a1, oI 2, oR t1, oI 2, oI 3, oI 1, oI c1]) rfl ?_
    refine XS.iinc X21.here hx rfl (hb hby d6_38) rfl (l' := #[oR a1, oI 2, oR t1, oI 2, oI 3, oI 2, oI c1]) rfl ?_
    refine XS.goto X21.here hx rfl (pc0 := 41) (pc' := 3) rfl (hb hby d6_41) (by decide) (by decide) ?_
    show oS p e below T21 (mkF m 3 #[oR a1, oI 2, oR t1, oI 2, oI 3, oI 2, oI c1] []) _
    refine XS.iload X21.here hx rfl (hb hby d6_3) rfl ?_
    refine XS.iload X21.here hx rfl (hb hby d6_5) rfl ?_
    refine XS.icmpNo X21.here hx rfl (hb hby d6_7) rfl (tlt (by decide : (2 : Int32) < (3 : Int32))).2.1 ?_
    refine XS.aloadN X21.here hx rfl (hb hby d6_10) rfl rfl ?_
    show oS p e below T21 (mkF m 11 #[oR a1, oI 2, oR t1, oI 2, oI 3, oI 2, oI c1] [ow a1]) _
    refine XS.iloadN X21.here hx rfl (hb hby d6_11) rfl ?_
    exact k)
  obtain ⟨cl26, Ar26, qc26, Sz26, Nn26, Hs26, Gs26⟩ := id f22
  have hin26 := inb_of (j := (2 : Int32)) Sz26 ⟨by decide, by decide⟩
  have pre27 : oL p e below T21 (mkF m 31 #[oR a1, oI 2, oR t1, oI 2, oI 3, oI 2, oI c2] [oi (c2.toInt8.toInt32), oi 2, ow t1]) s₁ (entryFrame m #[(.ref a1), (.int (0 : Int32)), (.ref t1), (.int (0 : Int32)), (.int (3 : Int32))] 7) := fun t k => pre25 t (by
    refine X21.caload hx (j := (2 : Int32)) (v := (.int c2)) (by rw [e21]; exact Ar26.1) (State.isArrayOf_alike hZ.alike Ar26.2.1) Ar26.2.2 hin26 (Hs26.at hin26 rfl) (g := (mkF m 12 #[oR a1, oI 2, oR t1, oI 2, oI 3, oI 2, oI c1] [oi 2, ow a1])) rfl rfl (hb hby d6_12) _ ?_
    refine XS.istore X21.here hx rfl (hb hby d6_13) rfl (l' := #[oR a1, oI 2, oR t1, oI 2, oI 3, oI 2, oI c2]) rfl ?_
    refine XS.iload X21.here hx rfl (hb hby d6_15) rfl ?_
    show oS p e below T21 (mkF m 17 #[oR a1, oI 2, oR t1, oI 2, oI 3, oI 2, oI c2] [oi c2]) _
    refine XS.sipush X21.here hx rfl (hb hby d6_17) ?_
    refine XS.icmpYes X21.here hx rfl (pc0 := 20) (pc' := 26) rfl (hb hby d6_20) rfl (flt hl2).2.2.2 (by decide) (by decide) ?_
    refine XS.aloadN X21.here hx rfl (hb hby d6_26) rfl rfl ?_
    refine XS.iloadN X21.here hx rfl (hb hby d6_27) rfl ?_
    show oS p e below T21 (mkF m 28 #[oR a1, oI 2, oR t1, oI 2, oI 3, oI 2, oI c2] [oi 2, ow t1]) _
    refine XS.iload X21.here hx rfl (hb hby d6_28) rfl ?_
    refine XS.i2b X21.here hx rfl (hb hby d6_30) rfl ?_
    exact k)
  obtain ⟨cl28, Ar28, qc28, Sz28, Nn28, Hs28, Gs28⟩ := id V21
  obtain ⟨T28, h28, X28, e28, W28, st28⟩ := stB X21 hx hZ e21 Ar28 (j := (2 : Int32)) (inb_of Sz28 ⟨by decide, by decide⟩) (g := (mkF m 31 #[oR a1, oI 2, oR t1, oI 2, oI 3, oI 2, oI c2] [oi (c2.toInt8.toInt32), oi 2, ow t1])) rfl rfl (hb hby d6_31)
  have V28 : Arv Z h28 t1 k2 .byte (3 : Int32) [(.int (nar .byte (c0.toInt8.toInt32))), (.int (nar .byte (c1.toInt8.toInt32))), (.int (nar .byte (c2.toInt8.toInt32)))] (.int (0 : Int32)) := Arv.set Ar28 qc28 Sz28 Nn28 Hs28 Gs28 (fits_nar_byte _) W28 2 rfl (Nat.le_of_ble_eq_true rfl)
  have N28 := Fr.snoc X28 N21 ge1
  have f29 := f22.other W28 ne1
  have OL30 := OL23.wr W28 ge1
  have K31 : Keep h0 h28 [t1] := K24.wr W28 (Or.inl (List.mem_of_getElem? (i := 0) rfl))
  have pre32 : oL p e below T28 (mkF m 46 #[oR a1, oI 3, oR t1, oI 3, oI 3, oI 3, oI c2] [oi 3]) s₁ (entryFrame m #[(.ref a1), (.int (0 : Int32)), (.ref t1), (.int (0 : Int32)), (.int (3 : Int32))] 7) := fun t k => pre27 t (by
    refine st28 _ ?_
    refine XS.iinc X28.here hx rfl (hb hby d6_32) rfl (l' := #[oR a1, oI 3, oR t1, oI 2, oI 3, oI 2, oI c2]) rfl ?_
    show oS p e below T28 (mkF m 35 #[oR a1, oI 3, oR t1, oI 2, oI 3, oI 2, oI c2] []) _
    refine XS.iinc X28.here hx rfl (hb hby d6_35) rfl (l' := #[oR a1, oI 3, oR t1, oI 3, oI 3, oI 2, oI c2]) rfl ?_
    refine XS.iinc X28.here hx rfl (hb hby d6_38) rfl (l' := #[oR a1, oI 3, oR t1, oI 3, oI 3, oI 3, oI c2]) rfl ?_
    refine XS.goto X28.here hx rfl (pc0 := 41) (pc' := 3) rfl (hb hby d6_41) (by decide) (by decide) ?_
    refine XS.iload X28.here hx rfl (hb hby d6_3) rfl ?_
    show oS p e below T28 (mkF m 5 #[oR a1, oI 3, oR t1, oI 3, oI 3, oI 3, oI c2] [oi 3]) _
    refine XS.iload X28.here hx rfl (hb hby d6_5) rfl ?_
    refine XS.icmpYes X28.here hx rfl (pc0 := 7) (pc' := 44) rfl (hb hby d6_7) rfl (flt (by decide : ¬ ((3 : Int32) < (3 : Int32)))).2.1 (by decide) (by decide) ?_
    refine XS.iload X28.here hx rfl (hb hby d6_44) rfl ?_
    exact k)
  obtain ⟨fs, hr, hrun, hended, hW, hsame⟩ := X28.leave (v := some (.int (3 : Int32))) (fun h => by rw [Bd.returns] at h; cases h)
  refine ⟨_, _, pre32 _ ?_, hrun, hended, _, _, rfl, ?_, ⟨_, rfl⟩, hW, hsame.mono (by decide) (by decide)⟩
  ·
    show oS p e below T28 (mkF m 46 #[oR a1, oI 3, oR t1, oI 3, oI 3, oI 3, oI c2] [oi 3]) _
    exact retI X28 hx Bd.returns (hb hby d6_46) hr
  ·
    show Q_rm_c5_3_3 Z a1 k1 t1 k2 c0 c1 c2 h0 n0 _ T28.heap _
    rw [e28]
    exact ⟨rfl, N28, K31, V28⟩
def Q_rm_cmp_3_3 (Z : State) (a1 : Addr) (k1 : ClassId) (c0 : Int32) (c1 : Int32) (c2 : Int32) (h0 : Heap) (n0 : Nat) (v : Option Value) (h : Heap) (L : List Loc) : Prop := ∃ (r : Addr) (kr : ClassId), v = some (.ref r) ∧ Fr n0 L ∧ Keep h0 h [] ∧ h0.size ≤ r ∧ Arv Z h r kr .byte (3 : Int32) [(.int (nar .byte (c0.toInt8.toInt32))), (.int (nar .byte (c1.toInt8.toInt32))), (.int (nar .byte (c2.toInt8.toInt32)))] (.int (0 : Int32))
set_option maxRecDepth 65536 in
set_option maxHeartbeats 40000000 in
theorem rm_cmp_3_3 (l : Launch) (Z : State) (a0 : Array Value) (hw : ∀ d ∈ tables_1, d.before a0 Z = true) (ws : List Jvm.Cond) (a1 : Addr) (k1 : ClassId) (c0 : Int32) (c1 : Int32) (c2 : Int32) (h0 : Heap) (n0 : Nat) (OL : Old Z n0 h0) (AD : Sta Z Z.heap "java/lang/StringUTF16" "$assertionsDisabled" "Z" (.int (1 : Int32))) (HB : Sta Z Z.heap "java/lang/StringUTF16" "HI_BYTE_SHIFT" "I" (.int (0 : Int32))) (LB : Sta Z Z.heap "java/lang/StringUTF16" "LO_BYTE_SHIFT" "I" (.int (8 : Int32))) (V1 : Arv Z h0 a1 k1 .char (3 : Int32) [(.int c0), (.int c1), (.int c2)] (.int (0 : Int32))) (hl0 : ¬ ((255 : Int32) < c0)) (hl1 : ¬ ((255 : Int32) < c1)) (hl2 : ¬ ((255 : Int32) < c2)) (nc0 : nar .char c0 = c0) (nc1 : nar .char c1 = c1) (nc2 : nar .char c2 = c2) :
    MetFree l (⟨"java/lang/StringUTF16", "compress", "([CII)[B"⟩ : MethodName) (head1 (Jvm.Cond.code (⟨"java/lang/StringUTF16", "compress", "([CII)[B"⟩ : MethodName) jdk_52_method_16_code 6 (some (.array .byte)) :: ws) ({ frames := 1, cells := 1, slots := 3, locals := 18 } : Room)) (fun a U => a = #[(.ref a1), (.int (0 : Int32)), (.int (3 : Int32))] ∧ Z.Warmed39 U.vm ∧ U.heap = h0) (fun _ _ _ _ _ => True) (fun _ U o U' => ∃ v L, o = .returned v ∧ Q_rm_cmp_3_3 Z a1 k1 c0 c1 c2 h0 n0 v U'.heap L ∧ FrameEnd U o U' L ({ frames := 1, cells := 1, slots := 3, locals := 18 } : Room).cells ({ frames := 1, cells := 1, slots := 3, locals := 18 } : Room).slots) := by
  refine MetFree.of_bodySF (plainFor_of_name pn_java_lang_StringUTF16) hisR ?_
  intro p e s m args below meth c s₁ Bd hml0 hP hK
  obtain ⟨rfl, hZ, hh⟩ := hP
  have hx := Bd.exec
  have hby := Bd.bytes
  have hml : c.maxLocals = 6 := hml0
  have hown : s.vm.findClass "java/lang/StringUTF16" = some m.cls := findClass_of_methodNamed Bd.named
  have hnm := (name_of_methodNamed Bd.named Bd.method).1
  have X0 : Stand p l e ({ frames := 1, cells := 1, slots := 3, locals := 18 } : Room) s m #[(.ref a1), (.int (0 : Int32)), (.int (3 : Int32))] below meth c s₁ [] 0 0 := Stand.of_body Bd
  have e0 : s₁.heap = h0 := by rw [← hh, Bd.state]; rfl
  have N0 := Fr.nil n0
  have pre0 : oL p e below s₁ (mkF m 0 #[oR a1, oI 0, oI 3, oU, oU, oU] []) s₁ (entryFrame m #[(.ref a1), (.int (0 : Int32)), (.int (3 : Int32))] 6) := fun t k => castTop (by first | (simp [entryFrame, mkF, argsToLocals, Value.category]; done) | rfl) k
  have pre11 : oL p e below s₁ (mkF m 1 #[oR a1, oI 0, oI 3, oU, oU, oU] [oi 3]) s₁ (entryFrame m #[(.ref a1), (.int (0 : Int32)), (.int (3 : Int32))] 6) := fun t k => pre0 t (by
    refine XS.iloadN X0.here hx rfl (hb hby d5_0) rfl ?_
    exact k)
  obtain ⟨T12, h12, k12, X12, e12, E12, A12, st12⟩ := newP X0 hx hZ (oW hw 26 rfl) e0 (g := (mkF m 1 #[oR a1, oI 0, oI 3, oU, oU, oU] [oi 3])) rfl (hb hby d5_1) rfl (by decide) (cap := 3) (by decide) (by decide) (by decide) (by decide)
  obtain ⟨b12, g12⟩ : ∃ z, z = h0.size := ⟨_, rfl⟩
  rw [← g12] at A12 st12
  have ne13 : a1 ≠ b12 := Nat.ne_of_lt (Nat.lt_of_lt_of_le V1.lt (Nat.le_of_eq g12.symm))
  have ge_b12 : n0 ≤ b12 := Nat.le_trans (OL.1 ▸ OL.2.1) (Nat.le_of_eq g12.symm)
  have sz_b12 : h0.size ≤ b12 := Nat.le_trans (Keep.refl h0 []).1 (Nat.le_of_eq g12.symm)
  have f14 := V1.ext E12
  have OL15 := OL.ext E12
  have K16 : Keep h0 h12 [] := (Keep.refl h0 []).ext E12
  have V12 : Arv Z h12 b12 k12 .byte (3 : Int32) [(.int (0 : Int32)), (.int (0 : Int32)), (.int (0 : Int32))] (.int (0 : Int32)) := (Arv.new A12 (by decide)).pad (pad_rep [] (.int (0 : Int32)) 3)
  have pre17 : oL p e below T12 (mkF m 9 #[oR a1, oI 0, oI 3, oR b12, oU, oU] [oi 3, oi 0, ow b12, oi 0, ow a1]) s₁ (entryFrame m #[(.ref a1), (.int (0 : Int32)), (.int (3 : Int32))] 6) := fun t k => pre11 t (by
    refine st12 _ ?_
    refine XS.astoreN X12.here hx rfl (hb hby d5_3) rfl rfl (l' := #[oR a1, oI 0, oI 3, oR b12, oU, oU]) rfl ?_
    refine XS.aloadN X12.here hx rfl (hb hby d5_4) rfl rfl ?_
    show oS p e below T12 (mkF m 5 #[oR a1, oI 0, oI 3, oR b12, oU, oU] [ow a1]) _
    refine XS.iloadN X12.here hx rfl (hb hby d5_5) rfl ?_
    refine XS.aloadN X12.here hx rfl (hb hby d5_6) rfl rfl ?_
    refine XS.iconst X12.here hx rfl (hb hby d5_7) ?_
    refine XS.iloadN X12.here hx rfl (hb hby d5_8) rfl ?_
    show oS p e below T12 (mkF m 9 #[oR a1, oI 0, oI 3, oR b12, oU, oU] [oi 3, oi 0, ow b12, oi 0, ow a1]) _
    exact k)
  obtain ⟨_, _, ⟨T18, L18, k18, n18⟩, -, X18, ⟨Lc18, hQ18, l18, y18, z18⟩, st18⟩ := Jvm.LawKit.callS X12 hx (y := (⟨"java/lang/StringUTF16", "compress", "([CI[BII)I"⟩ : MethodName)) hown (mvT hZ (oW hw 27 rfl)) (mvT hZ (oW hw 28 rfl)) (mvT hZ (oW hw 24 rfl)) (mvT hZ (oW hw 29 rfl)) (by decide) (backOf (W := 0) (rm_c5_3_3 l Z a0 hw [] a1 k1 b12 k12 c0 c1 c2 h12 n0 OL15 ge_b12 f14 V12 ne13 hl0 hl1 hl2) hZ (oW hw 29 rfl) (oW hw 24 rfl) (by decide) (by decide)) (g := (mkF m 9 #[oR a1, oI 0, oI 3, oR b12, oU, oU] [oi 3, oi 0, ow b12, oi 0, ow a1])) rfl (by rw [hml]; rfl) (argsL := [(.ref a1), (.int (0 : Int32)), (.ref b12), (.int (0 : Int32)), (.int (3 : Int32))]) (rest := []) (lenOf pd___CI_BII_I rfl) rfl (by show 2 * 0 + _ ≤ _; exact Nat.le_of_eq rfl) (hb hby d5_9) (fun _ _ => ⟨rfl, e12, (by decide : 1 + 0 ≤ _), (by decide : 3 + 0 ≤ _)⟩)
  dsimp only [Pt.U, Pt.locs, Pt.cells, Pt.slots] at X18 l18 y18 z18 st18 hQ18
  subst l18 y18 z18
  obtain ⟨rfl, N18q, Kq18, Va18⟩ := hQ18
  have N18 := Fr.app N0 N18q
  have f19 := f14.keep Kq18 (ninS ne13 nin0)
  have OL20 := OL15.keep Kq18 (allS ge_b12 all0)
  have K21 : Keep h0 T18.heap [] := K16.trans Kq18 (allS (Or.inr sz_b12) all0)
  have pre22 : oL p e below T18 (mkF m 58 #[oR a1, oI 0, oI 3, oR b12, oI 3, oU] [ow b12]) s₁ (entryFrame m #[(.ref a1), (.int (0 : Int32)), (.int (3 : Int32))] 6) := fun t k => pre17 t (by
    refine st18 _ ?_
    refine XS.istore X18.here hx rfl (hb hby d5_12) rfl (l' := #[oR a1, oI 0, oI 3, oR b12, oI 3, oU]) rfl ?_
    refine XS.iload X18.here hx rfl (hb hby d5_14) rfl ?_
    refine XS.iloadN X18.here hx rfl (hb hby d5_16) rfl ?_
    show oS p e below T18 (mkF m 17 #[oR a1, oI 0, oI 3, oR b12, oI 3, oU] [oi 3, oi 3]) _
    refine XS.icmpYes X18.here hx rfl (pc0 := 17) (pc' := 57) rfl (hb hby d5_17) rfl (teq (by decide : (3 : Int32) = (3 : Int32))).1 (by decide) (by decide) ?_
    refine XS.aloadN X18.here hx rfl (hb hby d5_57) rfl rfl ?_
    exact k)
  obtain ⟨fs, hr, hrun, hended, hW, hsame⟩ := X18.leave (v := some (.ref b12)) (fun h => by rw [Bd.returns] at h; cases h)
  refine ⟨_, _, pre22 _ ?_, hrun, hended, _, _, rfl, ?_, ⟨_, rfl⟩, hW, hsame.mono (by decide) (by decide)⟩
  ·
    show oS p e below T18 (mkF m 58 #[oR a1, oI 0, oI 3, oR b12, oI 3, oU] [ow b12]) _
    jvm_step X18.here [X18.here.top, hx, (hb hby d5_58), X18.method', Bd.returns, Value.isRef, FieldType.isReference]
    first | (intro acts; rw [hr _ acts rfl rfl rfl]) | rw [hr _ _ rfl rfl rfl]
    exact Steps.refl _
  ·
    show Q_rm_cmp_3_3 Z a1 k1 c0 c1 c2 h0 n0 _ T18.heap _
    exact ⟨b12, k12, rfl, N18, K21, sz_b12, Va18⟩
set_option maxRecDepth 65536 in
set_option maxHeartbeats 40000000 in
theorem rm_si_3_3 (l : Launch) (Z : State) (a0 : Array Value) (hw : ∀ d ∈ tables_1, d.before a0 Z = true) (ws : List Jvm.Cond) (a1 : Addr) (a2 : Addr) (k2 : ClassId) (G1 : Int32) (c0 : Int32) (c1 : Int32) (c2 : Int32) (h0 : Heap) (n0 : Nat) (OL : Old Z n0 h0) (AD : Sta Z Z.heap "java/lang/StringUTF16" "$assertionsDisabled" "Z" (.int (1 : Int32))) (HB : Sta Z Z.heap "java/lang/StringUTF16" "HI_BYTE_SHIFT" "I" (.int (0 : Int32))) (LB : Sta Z Z.heap "java/lang/StringUTF16" "LO_BYTE_SHIFT" "I" (.int (8 : Int32))) (O2 : Sta Z Z.heap "java/lang/String" "COMPACT_STRINGS" "Z" (.int G1)) (P5 : ¬ (G1 = (0 : Int32))) (ge1 : n0 ≤ a1) (E1 : Exa Z h0 a1 "java/lang/String") (F1 : Fld Z h0 a1 "java/lang/String" "value" "[B" .null) (F2 : Fld Z h0 a1 "java/lang/String" "coder" "B" (.int (0 : Int32))) (V2 : Arv Z h0 a2 k2 .char (3 : Int32) [(.int c0), (.int c1), (.int c2)] (.int (0 : Int32))) (hl0 : ¬ ((255 : Int32) < c0)) (hl1 : ¬ ((255 : Int32) < c1)) (hl2 : ¬ ((255 : Int32) < c2)) (nc0 : nar .char c0 = c0) (nc1 : nar .char c1 = c1) (nc2 : nar .char c2 = c2) :
    MetFree l (⟨"java/lang/String", "<init>", "([CIILjava/lang/Void;)V"⟩ : MethodName) (head1 (Jvm.Cond.code (⟨"java/lang/String", "<init>", "([CIILjava/lang/Void;)V"⟩ : MethodName) jdk_42_method_149_code 6 none :: ws) ({ frames := 4, cells := 2, slots := 9, locals := 57 } : Room)) (fun a U => a = #[(.ref a1), (.ref a2), (.int (0 : Int32)), (.int (3 : Int32)), .null] ∧ Z.Warmed39 U.vm ∧ U.heap = h0) (fun _ _ _ _ _ => True) (fun _ U o U' => ∃ v L, o = .returned v ∧ Q_S3 Z a1 a2 k2 G1 c0 c1 c2 h0 n0 v U'.heap L ∧ FrameEnd U o U' L ({ frames := 4, cells := 2, slots := 9, locals := 57 } : Room).cells ({ frames := 4, cells := 2, slots := 9, locals := 57 } : Room).slots) := by
  refine MetFree.of_bodySF (plainFor_of_name pn_java_lang_String) hisR ?_
  intro p e s m args below meth c s₁ Bd hml0 hP hK
  obtain ⟨rfl, hZ, hh⟩ := hP
  have hx := Bd.exec
  have hby := Bd.bytes
  have hml : c.maxLocals = 6 := hml0
  have hown : s.vm.findClass "java/lang/String" = some m.cls := findClass_of_methodNamed Bd.named
  have hnm := (name_of_methodNamed Bd.named Bd.method).1
  have X0 : Stand p l e ({ frames := 4, cells := 2, slots := 9, locals := 57 } : Room) s m #[(.ref a1), (.ref a2), (.int (0 : Int32)), (.int (3 : Int32)), .null] below meth c s₁ [] 0 0 := Stand.of_body Bd
  have e0 : s₁.heap = h0 := by rw [← hh, Bd.state]; rfl
  have N0 := Fr.nil n0
  have pre0 : oL p e below s₁ (mkF m 0 #[oR a1, oR a2, oI 0, oI 3, oN, oU] []) s₁ (entryFrame m #[(.ref a1), (.ref a2), (.int (0 : Int32)), (.int (3 : Int32)), .null] 6) := fun t k => castTop (by first | (simp [entryFrame, mkF, argsToLocals, Value.category]; done) | rfl) k
  have own_ne : a2 ≠ a1 := (Exa.neArv E1 V2 (oW hw 9 rfl)).symm
  have pre11 : oL p e below s₁ (mkF m 1 #[oR a1, oR a2, oI 0, oI 3, oN, oU] [ow a1]) s₁ (entryFrame m #[(.ref a1), (.ref a2), (.int (0 : Int32)), (.int (3 : Int32)), .null] 6) := fun t k => pre0 t (by
    refine XS.aloadN X0.here hx rfl (hb hby d3_0) rfl rfl ?_
    exact k)
  obtain ⟨T12, X12, e12, st12⟩ := initO X0 hx hZ hown (oW hw 18 rfl) (oW hw 19 rfl) (oW hw 20 rfl) e0 (g := (mkF m 1 #[oR a1, oR a2, oI 0, oI 3, oN, oU] [ow a1])) rfl (by rw [hml]; rfl) rfl (hb hby d3_1) (by decide) (W := 0) (by show 2 * 0 + _ ≤ _; exact Nat.le_of_eq rfl) (by decide)
  have pre13 : oL p e below T12 (mkF m 27 #[oR a1, oR a2, oI 0, oI 3, oN, oU] []) s₁ (entryFrame m #[(.ref a1), (.ref a2), (.int (0 : Int32)), (.int (3 : Int32)), .null] 6) := fun t k => pre11 t (by
    refine st12 _ ?_
    refine XS.iloadN X12.here hx rfl (hb hby d3_4) rfl ?_
    refine XS.ifYes X12.here hx rfl (pc0 := 5) (pc' := 27) rfl (hb hby d3_5) rfl ((if0 _ _).trans (feq (by decide : ¬ ((3 : Int32) = (0 : Int32)))).2) (by decide) (by decide) ?_
    show oS p e below T12 (mkF m 27 #[oR a1, oR a2, oI 0, oI 3, oN, oU] []) _
    exact k)
  obtain ⟨T14, X14, e14, st14⟩ := getS2 X12 hx hZ hown (host := "") (Or.inl (oW hw 21 rfl)) Via.refl e12 (O2.ext OL.2) (g := (mkF m 27 #[oR a1, oR a2, oI 0, oI 3, oN, oU] [])) rfl (hb hby d3_27)
  have pre15 : oL p e below T14 (mkF m 36 #[oR a1, oR a2, oI 0, oI 3, oN, oU] [oi 3, oi 0, ow a2]) s₁ (entryFrame m #[(.ref a1), (.ref a2), (.int (0 : Int32)), (.int (3 : Int32)), .null] 6) := fun t k => pre13 t (by
    refine st14 _ ?_
    refine XS.ifNo X14.here hx rfl (hb hby d3_30) rfl ((if0 _ _).trans (feq P5).1) ?_
    refine XS.aloadN X14.here hx rfl (hb hby d3_33) rfl rfl ?_
    refine XS.iloadN X14.here hx rfl (hb hby d3_34) rfl ?_
    show oS p e below T14 (mkF m 35 #[oR a1, oR a2, oI 0, oI 3, oN, oU] [oi 0, ow a2]) _
    refine XS.iloadN X14.here hx rfl (hb hby d3_35) rfl ?_
    exact k)
  obtain ⟨_, _, ⟨T16, L16, k16, n16⟩, -, X16, ⟨Lc16, hQ16, l16, y16, z16⟩, st16⟩ := Jvm.LawKit.callS X14 hx (y := (⟨"java/lang/StringUTF16", "compress", "([CII)[B"⟩ : MethodName)) hown (mvT hZ (oW hw 22 rfl)) (mvT hZ (oW hw 23 rfl)) (mvT hZ (oW hw 24 rfl)) (mvT hZ (oW hw 25 rfl)) (by decide) (backOf (W := 0) (rm_cmp_3_3 l Z a0 hw [] a2 k2 c0 c1 c2 h0 n0 OL AD HB LB V2 hl0 hl1 hl2 nc0 nc1 nc2) hZ (oW hw 25 rfl) (oW hw 24 rfl) (by decide) (by decide)) (g := (mkF m 36 #[oR a1, oR a2, oI 0, oI 3, oN, oU] [oi 3, oi 0, ow a2])) rfl (by rw [hml]; rfl) (argsL := [(.ref a2), (.int (0 : Int32)), (.int (3 : Int32))]) (rest := []) (lenOf pd___CII__B rfl) rfl (by show 2 * 0 + _ ≤ _; exact Nat.le_of_eq rfl) (hb hby d3_36) (fun _ _ => ⟨rfl, e14, (by decide : 0 + 1 ≤ _), (by decide : 0 + 3 ≤ _)⟩)
  dsimp only [Pt.U, Pt.locs, Pt.cells, Pt.slots] at X16 l16 y16 z16 st16 hQ16
  subst l16 y16 z16
  obtain ⟨r16, kr16, rfl, N16q, Kq16, sq16, Va16⟩ := hQ16
  have N16 := Fr.app N0 N16q
  have ne17 : a1 ≠ r16 := Nat.ne_of_lt (Nat.lt_of_lt_of_le E1.lt sq16)
  have ne18 : a2 ≠ r16 := Nat.ne_of_lt (Nat.lt_of_lt_of_le V2.lt sq16)
  have ge_r16 : n0 ≤ r16 := Nat.le_trans (OL.1 ▸ OL.2.1) sq16
  have sz_r16 : h0.size ≤ r16 := Nat.le_trans (Keep.refl h0 [a1]).1 sq16
  have f19 := E1.keep Kq16
  have f20 := F1.keep Kq16 nin0
  have f21 := F2.keep Kq16 nin0
  have f22 := V2.keep Kq16 nin0
  have OL23 := OL.keep Kq16 all0
  have K24 : Keep h0 T16.heap [a1] := (Keep.refl h0 [a1]).trans Kq16 all0
  have pre25 : oL p e below T16 (mkF m 45 #[oR a1, oR a2, oI 0, oI 3, oN, oR r16] [oi 3, ow r16, ow a1]) s₁ (entryFrame m #[(.ref a1), (.ref a2), (.int (0 : Int32)), (.int (3 : Int32)), .null] 6) := fun t k => pre15 t (by
    refine st16 _ ?_
    refine XS.astore X16.here hx rfl (hb hby d3_39) rfl rfl (l' := #[oR a1, oR a2, oI 0, oI 3, oN, oR r16]) rfl ?_
    refine XS.aloadN X16.here hx rfl (hb hby d3_41) rfl rfl ?_
    show oS p e below T16 (mkF m 42 #[oR a1, oR a2, oI 0, oI 3, oN, oR r16] [ow a1]) _
    refine XS.aload X16.here hx rfl (hb hby d3_42) rfl rfl ?_
    refine XS.iloadN X16.here hx rfl (hb hby d3_44) rfl ?_
    exact k)
  obtain ⟨_, _, ⟨T26, L26, k26, n26⟩, -, X26, ⟨Lc26, hQ26, l26, y26, z26⟩, st26⟩ := Jvm.LawKit.callS X16 hx (y := (⟨"java/lang/StringUTF16", "coderFromArrayLen", "([BI)B"⟩ : MethodName)) hown (mvT hZ (oW hw 30 rfl)) (mvT hZ (oW hw 31 rfl)) (mvT hZ (oW hw 24 rfl)) (mvT hZ (oW hw 32 rfl)) (by decide) (backOf (W := 1) (rm_cfl3L l Z a0 hw [] r16 kr16 (nar .byte (c0.toInt8.toInt32)) (nar .byte (c1.toInt8.toInt32)) (nar .byte (c2.toInt8.toInt32)) T16.heap n0 OL23 Va16) hZ (oW hw 32 rfl) (oW hw 24 rfl) (by decide) (by decide)) (g := (mkF m 45 #[oR a1, oR a2, oI 0, oI 3, oN, oR r16] [oi 3, ow r16, ow a1])) rfl (by rw [hml]; rfl) (argsL := [(.ref r16), (.int (3 : Int32))]) (rest := [(.ref a1)]) (lenOf pd___BI_B rfl) rfl (by show 2 * 0 + _ ≤ _; exact Nat.le_of_eq rfl) (hb hby d3_45) (fun _ _ => ⟨rfl, rfl, (by decide : 1 + 0 ≤ _), (by decide : 3 + 0 ≤ _)⟩)
  dsimp only [Pt.U, Pt.locs, Pt.cells, Pt.slots] at X26 l26 y26 z26 st26 hQ26
  subst l26 y26 z26
  obtain ⟨rfl, N26q, e26⟩ := hQ26
  have N26 := Fr.app N16 N26q
  have pre27 : oL p e below T26 (mkF m 48 #[oR a1, oR a2, oI 0, oI 3, oN, oR r16] [oi 0, ow a1]) s₁ (entryFrame m #[(.ref a1), (.ref a2), (.int (0 : Int32)), (.int (3 : Int32)), .null] 6) := fun t k => pre25 t (by
    refine st26 _ ?_
    exact k)
  obtain ⟨T28, h28, X28, e28, W28, st28⟩ := putFN X26 hx hZ hown (oW hw 33 rfl) Via.refl e26 f21 f19 (Or.inr ⟨(oW hw 34 rfl), rfl, hnm⟩) (oW hw 9 rfl) (ty := .byte) (v' := (.int (0 : Int32))) (by decide) rfl rfl (g := (mkF m 48 #[oR a1, oR a2, oI 0, oI 3, oN, oR r16] [oi 0, ow a1])) rfl rfl (hb hby d3_48)
  have f29 := f21.same W28
  have N28 := Fr.snoc X28 N26 ge1
  have f30 := f19.wr W28
  have f31 := f20.other W28 (Or.inr (slot_ne (Or.inr (oW hw 36 rfl)) (Or.inr (oW hw 34 rfl)) (by decide) (t := (.array .byte)) (t' := .byte) (by decide) (by decide)))
  have f32 := f22.other W28 own_ne
  have f33 := Va16.other W28 (Ne.symm ne17)
  have OL34 := OL23.wr W28 ge1
  have K35 : Keep h0 h28 [a1] := K24.wr W28 (Or.inl (List.mem_of_getElem? (i := 0) rfl))
  have pre36 : oL p e below T28 (mkF m 54 #[oR a1, oR a2, oI 0, oI 3, oN, oR r16] [ow r16, ow a1]) s₁ (entryFrame m #[(.ref a1), (.ref a2), (.int (0 : Int32)), (.int (3 : Int32)), .null] 6) := fun t k => pre27 t (by
    refine st28 _ ?_
    show oS p e below T28 (mkF m 51 #[oR a1, oR a2, oI 0, oI 3, oN, oR r16] []) _
    refine XS.aloadN X28.here hx rfl (hb hby d3_51) rfl rfl ?_
    refine XS.aload X28.here hx rfl (hb hby d3_52) rfl rfl ?_
    exact k)
  obtain ⟨T37, h37, X37, e37, W37, st37⟩ := putF X28 hx hZ hown (host := "") (Or.inl (oW hw 35 rfl)) Via.refl e28 f31 f30 (Or.inr ⟨(oW hw 36 rfl), rfl, hnm⟩) (oW hw 9 rfl) (ty := (.array .byte)) (by decide) rfl rfl (g := (mkF m 54 #[oR a1, oR a2, oI 0, oI 3, oN, oR r16] [ow r16, ow a1])) rfl rfl (hb hby d3_54)
  have f38 := f31.same W37
  have N37 := Fr.snoc X37 N28 ge1
  have f39 := f30.wr W37
  have f40 := f29.other W37 (Or.inr (slot_ne (Or.inr (oW hw 34 rfl)) (Or.inr (oW hw 36 rfl)) (by decide) (t := .byte) (t' := (.array .byte)) (by decide) (by decide)))
  have f41 := f32.other W37 own_ne
  have f42 := f33.other W37 (Ne.symm ne17)
  have OL43 := OL34.wr W37 ge1
  have K44 : Keep h0 h37 [a1] := K35.wr W37 (Or.inl (List.mem_of_getElem? (i := 0) rfl))
  have pre45 : oL p e below T37 (mkF m 57 #[oR a1, oR a2, oI 0, oI 3, oN, oR r16] []) s₁ (entryFrame m #[(.ref a1), (.ref a2), (.int (0 : Int32)), (.int (3 : Int32)), .null] 6) := fun t k => pre36 t (by
    refine st37 _ ?_
    exact k)
  obtain ⟨fs, hr, hrun, hended, hW, hsame⟩ := X37.leave (v := none) (fun _ => rfl)
  refine ⟨_, _, pre45 _ ?_, hrun, hended, _, _, rfl, ?_, ⟨_, rfl⟩, hW, hsame.mono (by decide) (by decide)⟩
  ·
    show oS p e below T37 (mkF m 57 #[oR a1, oR a2, oI 0, oI 3, oN, oR r16] []) _
    exact X37.returnOut hx Bd.returns (hb hby d3_57) hr
  ·
    show Q_S3 Z a1 a2 k2 G1 c0 c1 c2 h0 n0 _ T37.heap _
    rw [e37]
    exact ⟨rfl, N37, K44, f39, (0 : Int32), r16, kr16, (3 : Int32), [(.int (nar .byte (c0.toInt8.toInt32))), (.int (nar .byte (c1.toInt8.toInt32))), (.int (nar .byte (c2.toInt8.toInt32)))], f40, sz_r16, fun q => ne17 q.symm, f38, f42, Or.inl ⟨rfl, rfl, rfl, hl0, hl1, hl2⟩⟩
set_option maxRecDepth 65536 in
set_option maxHeartbeats 40000000 in
theorem rm_s_3_3 (l : Launch) (Z : State) (a0 : Array Value) (hw : ∀ d ∈ tables_1, d.before a0 Z = true) (ws : List Jvm.Cond) (a1 : Addr) (a2 : Addr) (k2 : ClassId) (G1 : Int32) (c0 : Int32) (c1 : Int32) (c2 : Int32) (h0 : Heap) (n0 : Nat) (OL : Old Z n0 h0) (AD : Sta Z Z.heap "java/lang/StringUTF16" "$assertionsDisabled" "Z" (.int (1 : Int32))) (HB : Sta Z Z.heap "java/lang/StringUTF16" "HI_BYTE_SHIFT" "I" (.int (0 : Int32))) (LB : Sta Z Z.heap "java/lang/StringUTF16" "LO_BYTE_SHIFT" "I" (.int (8 : Int32))) (O2 : Sta Z Z.heap "java/lang/String" "COMPACT_STRINGS" "Z" (.int G1)) (P5 : ¬ (G1 = (0 : Int32))) (ge1 : n0 ≤ a1) (E1 : Exa Z h0 a1 "java/lang/String") (F1 : Fld Z h0 a1 "java/lang/String" "value" "[B" .null) (F2 : Fld Z h0 a1 "java/lang/String" "coder" "B" (.int (0 : Int32))) (V2 : Arv Z h0 a2 k2 .char (3 : Int32) [(.int c0), (.int c1), (.int c2)] (.int (0 : Int32))) (hl0 : ¬ ((255 : Int32) < c0)) (hl1 : ¬ ((255 : Int32) < c1)) (hl2 : ¬ ((255 : Int32) < c2)) (nc0 : nar .char c0 = c0) (nc1 : nar .char c1 = c1) (nc2 : nar .char c2 = c2) :
    MetFree l (⟨"java/lang/String", "<init>", "([C)V"⟩ : MethodName) (head1 (Jvm.Cond.code (⟨"java/lang/String", "<init>", "([C)V"⟩ : MethodName) jdk_42_method_3_code 2 none :: ws) ({ frames := 5, cells := 2, slots := 9, locals := 74 } : Room)) (fun a U => a = #[(.ref a1), (.ref a2)] ∧ Z.Warmed39 U.vm ∧ U.heap = h0) (fun _ _ _ _ _ => True) (fun _ U o U' => ∃ v L, o = .returned v ∧ Q_S3 Z a1 a2 k2 G1 c0 c1 c2 h0 n0 v U'.heap L ∧ FrameEnd U o U' L ({ frames := 5, cells := 2, slots := 9, locals := 74 } : Room).cells ({ frames := 5, cells := 2, slots := 9, locals := 74 } : Room).slots) := by
  refine MetFree.of_bodySF (plainFor_of_name pn_java_lang_String) hisR ?_
  intro p e s m args below meth c s₁ Bd hml0 hP hK
  obtain ⟨rfl, hZ, hh⟩ := hP
  have hx := Bd.exec
  have hby := Bd.bytes
  have hml : c.maxLocals = 2 := hml0
  have hown : s.vm.findClass "java/lang/String" = some m.cls := findClass_of_methodNamed Bd.named
  have hnm := (name_of_methodNamed Bd.named Bd.method).1
  have X0 : Stand p l e ({ frames := 5, cells := 2, slots := 9, locals := 74 } : Room) s m #[(.ref a1), (.ref a2)] below meth c s₁ [] 0 0 := Stand.of_body Bd
  have e0 : s₁.heap = h0 := by rw [← hh, Bd.state]; rfl
  have N0 := Fr.nil n0
  have pre0 : oL p e below s₁ (mkF m 0 #[oR a1, oR a2] []) s₁ (entryFrame m #[(.ref a1), (.ref a2)] 2) := fun t k => castTop (by first | (simp [entryFrame, mkF, argsToLocals, Value.category]; done) | rfl) k
  have own_ne : a2 ≠ a1 := (Exa.neArv E1 V2 (oW hw 9 rfl)).symm
  have pre12 : oL p e below s₁ (mkF m 4 #[oR a1, oR a2] [ow a2, oi 0, ow a2, ow a1]) s₁ (entryFrame m #[(.ref a1), (.ref a2)] 2) := fun t k => pre0 t (by
    refine XS.aloadN X0.here hx rfl (hb hby d2_0) rfl rfl ?_
    refine XS.aloadN X0.here hx rfl (hb hby d2_1) rfl rfl ?_
    refine XS.iconst X0.here hx rfl (hb hby d2_2) ?_
    refine XS.aloadN X0.here hx rfl (hb hby d2_3) rfl rfl ?_
    show oS p e below s₁ (mkF m 4 #[oR a1, oR a2] [ow a2, oi 0, ow a2, ow a1]) _
    exact k)
  obtain ⟨cl11, Ar11, -, Sz11, Nn11, -, -⟩ := id V2
  have pre13 : oL p e below s₁ (mkF m 6 #[oR a1, oR a2] [.null, oi 3, oi 0, ow a2, ow a1]) s₁ (entryFrame m #[(.ref a1), (.ref a2)] 2) := fun t k => pre12 t (by
    refine X0.arraylength hx (by rw [e0]; exact Ar11.1) (State.isArrayOf_alike hZ.alike Ar11.2.1) (g := (mkF m 4 #[oR a1, oR a2] [ow a2, oi 0, ow a2, ow a1])) rfl rfl (hb hby d2_4) _ ?_
    rw [len_of Sz11 Nn11]
    refine XS.aconstNull X0.here hx rfl (hb hby d2_5) ?_
    exact k)
  obtain ⟨_, _, ⟨T14, L14, k14, n14⟩, -, X14, ⟨Lc14, hQ14, l14, y14, z14⟩, st14⟩ := X0.specialBack hx (y := (⟨"java/lang/String", "<init>", "([CIILjava/lang/Void;)V"⟩ : MethodName)) rfl hown (mvT hZ (oW hw 14 rfl)) (mvT hZ (oW hw 15 rfl)) (mvT hZ (oW hw 17 rfl)) (by decide) (backOf (W := 0) (rm_si_3_3 l Z a0 hw [] a1 a2 k2 G1 c0 c1 c2 h0 n0 OL AD HB LB O2 P5 ge1 E1 F1 F2 V2 hl0 hl1 hl2 nc0 nc1 nc2) hZ (oW hw 17 rfl) (oW hw 10 rfl) (by decide) (by decide)) (g := (mkF m 6 #[oR a1, oR a2] [.null, oi 3, oi 0, ow a2, ow a1])) rfl (by rw [hml]; rfl) (Steps.refl _) (a := a1) (argsL := [(.ref a2), (.int (0 : Int32)), (.int (3 : Int32)), .null]) (rest := []) (lenOf pd___CIILjava_lang_Void__V rfl) rfl (by show 2 * 0 + _ ≤ _; exact Nat.le_of_eq rfl) (hb hby d2_6) (fun _ _ => ⟨rfl, e0, (by decide : 0 + 2 ≤ _), (by decide : 0 + 9 ≤ _)⟩)
  dsimp only [Pt.U, Pt.locs, Pt.cells, Pt.slots] at X14 l14 y14 z14 st14 hQ14
  subst l14 y14 z14
  obtain ⟨rfl, N14q, Kq14, Eq14, cd14, tt14, kb14, Nx14, vs14, Fc14, sq14, nx14, Fv14, Va14, ou14⟩ := hQ14
  have N14 := Fr.app N0 N14q
  have f15 := E1.keep Kq14
  have f16 := V2.keep Kq14 (ninS own_ne nin0)
  have OL17 := OL.keep Kq14 (allS ge1 all0)
  have K18 : Keep h0 T14.heap [a1] := (Keep.refl h0 [a1]).trans Kq14 (allS (Or.inl (List.mem_of_getElem? (i := 0) rfl)) all0)
  have pre19 : oL p e below T14 (mkF m 9 #[oR a1, oR a2] []) s₁ (entryFrame m #[(.ref a1), (.ref a2)] 2) := fun t k => pre13 t (by
    refine st14.trans ?_
    exact k)
  obtain ⟨fs, hr, hrun, hended, hW, hsame⟩ := X14.leave (v := none) (fun _ => rfl)
  refine ⟨_, _, pre19 _ ?_, hrun, hended, _, _, rfl, ?_, ⟨_, rfl⟩, hW, hsame.mono (by decide) (by decide)⟩
  ·
    show oS p e below T14 (mkF m 9 #[oR a1, oR a2] []) _
    exact X14.returnOut hx Bd.returns (hb hby d2_9) hr
  ·
    show Q_S3 Z a1 a2 k2 G1 c0 c1 c2 h0 n0 _ T14.heap _
    exact ⟨rfl, N14, K18, Eq14, cd14, tt14, kb14, Nx14, vs14, Fc14, Nat.le_trans (Keep.refl h0 [a1]).1 sq14, nx14, Fv14, Va14, ou14⟩
theorem rm_S3 (l : Launch) (Z : State) (a0 : Array Value) (hw : ∀ d ∈ tables_1, d.before a0 Z = true) (ws : List Jvm.Cond) (a1 : Addr) (a2 : Addr) (k2 : ClassId) (G1 : Int32) (c0 : Int32) (c1 : Int32) (c2 : Int32) (h0 : Heap) (n0 : Nat) (OL : Old Z n0 h0) (AD : Sta Z Z.heap "java/lang/StringUTF16" "$assertionsDisabled" "Z" (.int (1 : Int32))) (HB : Sta Z Z.heap "java/lang/StringUTF16" "HI_BYTE_SHIFT" "I" (.int (0 : Int32))) (LB : Sta Z Z.heap "java/lang/StringUTF16" "LO_BYTE_SHIFT" "I" (.int (8 : Int32))) (O2 : Sta Z Z.heap "java/lang/String" "COMPACT_STRINGS" "Z" (.int G1)) (P5 : ¬ (G1 = (0 : Int32))) (ge1 : n0 ≤ a1) (E1 : Exa Z h0 a1 "java/lang/String") (F1 : Fld Z h0 a1 "java/lang/String" "value" "[B" .null) (F2 : Fld Z h0 a1 "java/lang/String" "coder" "B" (.int (0 : Int32))) (V2 : Arv Z h0 a2 k2 .char (3 : Int32) [(.int c0), (.int c1), (.int c2)] (.int (0 : Int32))) (nc0 : nar .char c0 = c0) (nc1 : nar .char c1 = c1) (nc2 : nar .char c2 = c2) :
    MetFree l (⟨"java/lang/String", "<init>", "([C)V"⟩ : MethodName) (head1 (Jvm.Cond.code (⟨"java/lang/String", "<init>", "([C)V"⟩ : MethodName) jdk_42_method_3_code 2 none :: ws) ({ frames := 5, cells := 2, slots := 9, locals := 74 } : Room)) (fun a U => a = #[.ref a1, .ref a2] ∧ Z.Warmed39 U.vm ∧ U.heap = h0) (fun _ _ _ _ _ => True) (fun _ U o U' => ∃ v L, o = .returned v ∧ Q_S3 Z a1 a2 k2 G1 c0 c1 c2 h0 n0 v U'.heap L ∧ FrameEnd U o U' L ({ frames := 5, cells := 2, slots := 9, locals := 74 } : Room).cells ({ frames := 5, cells := 2, slots := 9, locals := 74 } : Room).slots) := by
  by_cases q0 : (255 : Int32) < c0
  · exact rm_s_3_0 l Z a0 hw ws a1 a2 k2 G1 c0 c1 c2 h0 n0 OL AD HB LB O2 P5 ge1 E1 F1 F2 V2  q0 nc0 nc1 nc2
  by_cases q1 : (255 : Int32) < c1
  · exact rm_s_3_1 l Z a0 hw ws a1 a2 k2 G1 c0 c1 c2 h0 n0 OL AD HB LB O2 P5 ge1 E1 F1 F2 V2 q0 q1 nc0 nc1 nc2
  by_cases q2 : (255 : Int32) < c2
  · exact rm_s_3_2 l Z a0 hw ws a1 a2 k2 G1 c0 c1 c2 h0 n0 OL AD HB LB O2 P5 ge1 E1 F1 F2 V2 q0 q1 q2 nc0 nc1 nc2
  exact rm_s_3_3 l Z a0 hw ws a1 a2 k2 G1 c0 c1 c2 h0 n0 OL AD HB LB O2 P5 ge1 E1 F1 F2 V2 q0 q1 q2 nc0 nc1 nc2
theorem d3_8 : decode jdk_42_method_149_code 8 = .ok (.aload_n 0, 1) := by decide +kernel
theorem d3_9 : decode jdk_42_method_149_code 9 = .ok (.ldc 7, 2) := by decide +kernel
theorem d3_11 : decode jdk_42_method_149_code 11 = .ok (.getfield 9, 3) := by decide +kernel
theorem d3_14 : decode jdk_42_method_149_code 14 = .ok (.putfield 9, 3) := by decide +kernel
theorem d3_17 : decode jdk_42_method_149_code 17 = .ok (.aload_n 0, 1) := by decide +kernel
theorem d3_18 : decode jdk_42_method_149_code 18 = .ok (.ldc 7, 2) := by decide +kernel
theorem d3_20 : decode jdk_42_method_149_code 20 = .ok (.getfield 15, 3) := by decide +kernel
theorem d3_23 : decode jdk_42_method_149_code 23 = .ok (.putfield 15, 3) := by decide +kernel
theorem d3_26 : decode jdk_42_method_149_code 26 = .ok (.return_, 1) := by decide +kernel
def Q_rm_si0 (Z : State) (a1 : Addr) (a2 : Addr) (h0 : Heap) (n0 : Nat) (v : Option Value) (h : Heap) (L : List Loc) : Prop := v = none ∧ Fr n0 L ∧ Keep h0 h [a1] ∧ Exa Z h a1 "java/lang/String" ∧ Fld Z h a1 "java/lang/String" "coder" "B" (.int (0 : Int32)) ∧ ∃ (b : Addr) (kb : ClassId), ¬ b = a1 ∧ b < h.size ∧ Fld Z h a1 "java/lang/String" "value" "[B" (.ref b) ∧ Arv Z h b kb .byte (0 : Int32) [] (.int (0 : Int32))
set_option maxRecDepth 65536 in
set_option maxHeartbeats 40000000 in
theorem rm_si0 (l : Launch) (Z : State) (a0 : Array Value) (hw : ∀ d ∈ tables_1, d.before a0 Z = true) (ws : List Jvm.Cond) (a1 : Addr) (a2 : Addr) (h0 : Heap) (n0 : Nat) (OL : Old Z n0 h0) (ge1 : n0 ≤ a1) (E1 : Exa Z h0 a1 "java/lang/String") (F1 : Fld Z h0 a1 "java/lang/String" "value" "[B" .null) (F2 : Fld Z h0 a1 "java/lang/String" "coder" "B" (.int (0 : Int32))) :
    MetFree l (⟨"java/lang/String", "<init>", "([CIILjava/lang/Void;)V"⟩ : MethodName) (head1 (Jvm.Cond.code (⟨"java/lang/String", "<init>", "([CIILjava/lang/Void;)V"⟩ : MethodName) jdk_42_method_149_code 6 none :: ws) ({ frames := 1, cells := 2, slots := 4, locals := 12 } : Room)) (fun a U => a = #[(.ref a1), (.ref a2), (.int (0 : Int32)), (.int (0 : Int32)), .null] ∧ Z.Warmed39 U.vm ∧ U.heap = h0 ∧ CHv Z consts_1 U.vm h0) (fun _ _ _ _ _ => True) (fun _ U o U' => ∃ v L, o = .returned v ∧ Q_rm_si0 Z a1 a2 h0 n0 v U'.heap L ∧ CHr Z consts_1 U.vm U.heap U'.vm U'.heap ∧ ReturnedEndW U o U' L ({ frames := 1, cells := 2, slots := 4, locals := 12 } : Room).cells ({ frames := 1, cells := 2, slots := 4, locals := 12 } : Room).slots) := by
  refine MetFree.of_bodySF (plainFor_of_name pn_java_lang_String) hisR ?_
  intro p e s m args below meth c s₁ Bd hml0 hP hK
  obtain ⟨rfl, hZ, hh, CH0⟩ := hP
  have hx := Bd.exec
  have hby := Bd.bytes
  have hml : c.maxLocals = 6 := hml0
  have hown : s.vm.findClass "java/lang/String" = some m.cls := findClass_of_methodNamed Bd.named
  have hnm := (name_of_methodNamed Bd.named Bd.method).1
  have X0 : Stand p l e ({ frames := 1, cells := 2, slots := 4, locals := 12 } : Room) (s.setVm s.vm) m #[(.ref a1), (.ref a2), (.int (0 : Int32)), (.int (0 : Int32)), .null] below meth c s₁ [] 0 0 := Stand.of_body Bd
  have hZ : Z.Warmed39 (s.setVm s.vm).vm := hZ
  have hown : (s.setVm s.vm).vm.findClass "java/lang/String" = some m.cls := hown
  have hS : s.Since s.vm h0.size := (State.WarmedH.refl s).since _
  have hk : h0.size ≤ h0.size := Nat.le_refl _
  have CR0 : CHr Z consts_1 s.vm h0 s.vm h0 := CHr.refl CH0
  have hEL := own_EW Z a0 hw
  have wS := own_wS Z a0 hw
  have sf_a1 : Safe Z consts_1 s.vm h0 a1 := own_safe_null hZ.alike E1 F1 a0 (oW hw 9 rfl)
  have e0 : s₁.heap = h0 := by rw [← hh, Bd.state]; rfl
  have N0 := Fr.nil n0
  have pre0 : oL p e below s₁ (mkF m 0 #[oR a1, oR a2, oI 0, oI 0, oN, oU] []) s₁ (entryFrame m #[(.ref a1), (.ref a2), (.int (0 : Int32)), (.int (0 : Int32)), .null] 6) := fun t k => castTop (by first | (simp [entryFrame, mkF, argsToLocals, Value.category]; done) | rfl) k
  have pre11 : oL p e below s₁ (mkF m 1 #[oR a1, oR a2, oI 0, oI 0, oN, oU] [ow a1]) s₁ (entryFrame m #[(.ref a1), (.ref a2), (.int (0 : Int32)), (.int (0 : Int32)), .null] 6) := fun t k => pre0 t (by
    refine XS.aloadN X0.here hx rfl (hb hby d3_0) rfl rfl ?_
    exact k)
  obtain ⟨T12, X12, e12, st12⟩ := initO X0 hx hZ hown (oW hw 18 rfl) (oW hw 19 rfl) (oW hw 20 rfl) e0 (g := (mkF m 1 #[oR a1, oR a2, oI 0, oI 0, oN, oU] [ow a1])) rfl (by rw [hml]; rfl) rfl (hb hby d3_1) (by decide) (W := 0) (by show 2 * 0 + _ ≤ _; exact Nat.le_of_eq rfl) (by decide)
  have pre13 : oL p e below T12 (mkF m 9 #[oR a1, oR a2, oI 0, oI 0, oN, oU] [ow a1]) s₁ (entryFrame m #[(.ref a1), (.ref a2), (.int (0 : Int32)), (.int (0 : Int32)), .null] 6) := fun t k => pre11 t (by
    refine st12 _ ?_
    refine XS.iloadN X12.here hx rfl (hb hby d3_4) rfl ?_
    refine XS.ifNo X12.here hx rfl (hb hby d3_5) rfl ((if0 _ _).trans (teq (by decide : (0 : Int32) = (0 : Int32))).2) ?_
    show oS p e below T12 (mkF m 8 #[oR a1, oR a2, oI 0, oI 0, oN, oU] []) _
    refine XS.aloadN X12.here hx rfl (hb hby d3_8) rfl rfl ?_
    exact k)
  obtain ⟨la14, T14, h14, kx14, lb14, kb14, X14, e14, E14, hS, hkn14, hZ, hown, Ea14, Fc14, Fv14, Va14, lta14, ltb14, cr14, Lt14, sep14, st14⟩ := ldcCH X12 hx hZ hown (oW hw 59 rfl) wS e12 hS hk hEL (List.mem_of_getElem? (i := 2) rfl) CH0 (vs := []) (z := (0 : Int32)) ⟨by decide, rfl⟩ (by decide) rfl (g := (mkF m 9 #[oR a1, oR a2, oI 0, oI 0, oN, oU] [ow a1])) rfl (hb hby d3_9) (n := 0) (by decide) (by decide) (by decide) (by decide)
  have f15 := E1.ext E14
  have f16 := F1.ext E14
  have f17 := F2.ext E14
  have OL18 := OL.ext E14
  have K19 : Keep h0 h14 [a1] := (Keep.refl h0 [a1]).ext E14
  have sf20 := cr14.safe E1.lt sf_a1
  have sp21 := sep14 _ sf20
  have CH14 := cr14.1
  have CR14 := CR0.trans cr14
  have hk := hkn14
  have pre22 : oL p e below T14 (mkF m 11 #[oR a1, oR a2, oI 0, oI 0, oN, oU] [ow la14, ow a1]) s₁ (entryFrame m #[(.ref a1), (.ref a2), (.int (0 : Int32)), (.int (0 : Int32)), .null] 6) := fun t k => pre13 t (by
    refine st14 _ ?_
    exact k)
  obtain ⟨T23, X23, e23, st23⟩ := getF X14 hx hZ hown (host := "") (Or.inl (oW hw 35 rfl)) Via.refl e14 Fv14 (g := (mkF m 11 #[oR a1, oR a2, oI 0, oI 0, oN, oU] [ow la14, ow a1])) rfl rfl (hb hby d3_11)
  have pre24 : oL p e below T23 (mkF m 14 #[oR a1, oR a2, oI 0, oI 0, oN, oU] [ow lb14, ow a1]) s₁ (entryFrame m #[(.ref a1), (.ref a2), (.int (0 : Int32)), (.int (0 : Int32)), .null] 6) := fun t k => pre22 t (by
    refine st23 _ ?_
    exact k)
  obtain ⟨T25, h25, X25, e25, W25, st25⟩ := putF X23 hx hZ hown (host := "") (Or.inl (oW hw 35 rfl)) Via.refl e23 f16 f15 (Or.inr ⟨(oW hw 36 rfl), rfl, hnm⟩) (oW hw 9 rfl) (ty := (.array .byte)) (by decide) rfl rfl (g := (mkF m 14 #[oR a1, oR a2, oI 0, oI 0, oN, oU] [ow lb14, ow a1])) rfl rfl (hb hby d3_14)
  have f26 := f16.same W25
  have N25 := Fr.snoc X25 N0 ge1
  have sf27 := Safe.wr W25 sf20 CH14 sf20
  have cr28 := CHr.wr W25 sf20 CH14
  have CH28 := cr28.1
  have CR28 := CR14.trans cr28
  have hk := Nat.le_trans hk (Keep.of_wr W25).1
  have f29 := f15.wr W25
  have f30 := f17.other W25 (Or.inr (slot_ne (Or.inr (oW hw 34 rfl)) (Or.inr (oW hw 36 rfl)) (by decide) (t := .byte) (t' := (.array .byte)) (by decide) (by decide)))
  have f31 := Ea14.wr W25
  have f32 := Fc14.other W25 (Or.inl (Ne.symm sp21.1))
  have f33 := Fv14.other W25 (Or.inl (Ne.symm sp21.1))
  have f34 := Va14.other W25 (Ne.symm sp21.2)
  have OL35 := OL18.wr W25 ge1
  have K36 : Keep h0 h25 [a1] := K19.wr W25 (Or.inl (List.mem_of_getElem? (i := 0) rfl))
  have pre37 : oL p e below T25 (mkF m 18 #[oR a1, oR a2, oI 0, oI 0, oN, oU] [ow a1]) s₁ (entryFrame m #[(.ref a1), (.ref a2), (.int (0 : Int32)), (.int (0 : Int32)), .null] 6) := fun t k => pre24 t (by
    refine st25 _ ?_
    show oS p e below T25 (mkF m 17 #[oR a1, oR a2, oI 0, oI 0, oN, oU] []) _
    refine XS.aloadN X25.here hx rfl (hb hby d3_17) rfl rfl ?_
    exact k)
  have pre38 : oL p e below T25 (mkF m 20 #[oR a1, oR a2, oI 0, oI 0, oN, oU] [ow la14, ow a1]) s₁ (entryFrame m #[(.ref a1), (.ref a2), (.int (0 : Int32)), (.int (0 : Int32)), .null] 6) := fun t k => pre37 t (by
    refine ldcAgain X25 hx hZ hown (oW hw 59 rfl) Lt14 (g := (mkF m 18 #[oR a1, oR a2, oI 0, oI 0, oN, oU] [ow a1])) rfl (hb hby d3_18) _ ?_
    exact k)
  obtain ⟨T39, X39, e39, st39⟩ := getF X25 hx hZ hown (host := "") (Or.inl (oW hw 33 rfl)) Via.refl e25 f32 (g := (mkF m 20 #[oR a1, oR a2, oI 0, oI 0, oN, oU] [ow la14, ow a1])) rfl rfl (hb hby d3_20)
  have pre40 : oL p e below T39 (mkF m 23 #[oR a1, oR a2, oI 0, oI 0, oN, oU] [oi 0, ow a1]) s₁ (entryFrame m #[(.ref a1), (.ref a2), (.int (0 : Int32)), (.int (0 : Int32)), .null] 6) := fun t k => pre38 t (by
    refine st39 _ ?_
    exact k)
  obtain ⟨T41, h41, X41, e41, W41, st41⟩ := putFN X39 hx hZ hown (oW hw 33 rfl) Via.refl e39 f30 f29 (Or.inr ⟨(oW hw 34 rfl), rfl, hnm⟩) (oW hw 9 rfl) (ty := .byte) (v' := (.int (0 : Int32))) (by decide) rfl rfl (g := (mkF m 23 #[oR a1, oR a2, oI 0, oI 0, oN, oU] [oi 0, ow a1])) rfl rfl (hb hby d3_23)
  have f42 := f30.same W41
  have N41 := Fr.snoc X41 N25 ge1
  have sf43 := Safe.wr W41 sf27 CH28 sf27
  have cr44 := CHr.wr W41 sf27 CH28
  have CH44 := cr44.1
  have CR44 := CR28.trans cr44
  have hk := Nat.le_trans hk (Keep.of_wr W41).1
  have f45 := f29.wr W41
  have f46 := f26.other W41 (Or.inr (slot_ne (Or.inr (oW hw 36 rfl)) (Or.inr (oW hw 34 rfl)) (by decide) (t := (.array .byte)) (t' := .byte) (by decide) (by decide)))
  have f47 := f31.wr W41
  have f48 := f32.other W41 (Or.inl (Ne.symm sp21.1))
  have f49 := f33.other W41 (Or.inl (Ne.symm sp21.1))
  have f50 := f34.other W41 (Ne.symm sp21.2)
  have OL51 := OL35.wr W41 ge1
  have K52 : Keep h0 h41 [a1] := K36.wr W41 (Or.inl (List.mem_of_getElem? (i := 0) rfl))
  have pre53 : oL p e below T41 (mkF m 26 #[oR a1, oR a2, oI 0, oI 0, oN, oU] []) s₁ (entryFrame m #[(.ref a1), (.ref a2), (.int (0 : Int32)), (.int (0 : Int32)), .null] 6) := fun t k => pre40 t (by
    refine st41 _ ?_
    show oS p e below T41 (mkF m 26 #[oR a1, oR a2, oI 0, oI 0, oN, oU] []) _
    exact k)
  obtain ⟨fs, hr, hrun, hended, hEnd⟩ := X41.leaveW hS (by rw [e41]; exact hk) (v := none) (fun _ => rfl)
  refine ⟨_, _, pre53 _ ?_, hrun, hended, _, _, rfl, ?_, (by show CHr Z consts_1 s.vm s.heap T41.vm T41.heap; rw [hh, e41]; exact CR44.trans (CHv.at X41 hZ hEL CH44)), hEnd.1, hEnd.2.1, hEnd.2.2.1, hEnd.2.2.2.mono (by decide) (by decide)⟩
  ·
    show oS p e below T41 (mkF m 26 #[oR a1, oR a2, oI 0, oI 0, oN, oU] []) _
    exact X41.returnOut hx Bd.returns (hb hby d3_26) hr
  ·
    show Q_rm_si0 Z a1 a2 h0 n0 _ T41.heap _
    rw [e41]
    exact ⟨rfl, N41, K52, f45, f42, lb14, kb14, fun q => sp21.2 q.symm, f50.lt, f46, f50⟩
def Q_rm_s0 (Z : State) (a1 : Addr) (a2 : Addr) (k2 : ClassId) (h0 : Heap) (n0 : Nat) (v : Option Value) (h : Heap) (L : List Loc) : Prop := v = none ∧ Fr n0 L ∧ Keep h0 h [a1] ∧ Exa Z h a1 "java/lang/String" ∧ Fld Z h a1 "java/lang/String" "coder" "B" (.int (0 : Int32)) ∧ ∃ (b : Addr) (kb : ClassId), ¬ b = a1 ∧ b < h.size ∧ Fld Z h a1 "java/lang/String" "value" "[B" (.ref b) ∧ Arv Z h b kb .byte (0 : Int32) [] (.int (0 : Int32))
set_option maxRecDepth 65536 in
set_option maxHeartbeats 40000000 in
theorem rm_s0 (l : Launch) (Z : State) (a0 : Array Value) (hw : ∀ d ∈ tables_1, d.before a0 Z = true) (ws : List Jvm.Cond) (a1 : Addr) (a2 : Addr) (k2 : ClassId) (h0 : Heap) (n0 : Nat) (OL : Old Z n0 h0) (ge1 : n0 ≤ a1) (E1 : Exa Z h0 a1 "java/lang/String") (F1 : Fld Z h0 a1 "java/lang/String" "value" "[B" .null) (F2 : Fld Z h0 a1 "java/lang/String" "coder" "B" (.int (0 : Int32))) (V2 : Arv Z h0 a2 k2 .char (0 : Int32) [] (.int (0 : Int32))) :
    MetFree l (⟨"java/lang/String", "<init>", "([C)V"⟩ : MethodName) (head1 (Jvm.Cond.code (⟨"java/lang/String", "<init>", "([C)V"⟩ : MethodName) jdk_42_method_3_code 2 none :: ws) ({ frames := 2, cells := 2, slots := 4, locals := 29 } : Room)) (fun a U => a = #[(.ref a1), (.ref a2)] ∧ Z.Warmed39 U.vm ∧ U.heap = h0 ∧ CHv Z consts_1 U.vm h0) (fun _ _ _ _ _ => True) (fun _ U o U' => ∃ v L, o = .returned v ∧ Q_rm_s0 Z a1 a2 k2 h0 n0 v U'.heap L ∧ CHr Z consts_1 U.vm U.heap U'.vm U'.heap ∧ ReturnedEndW U o U' L ({ frames := 2, cells := 2, slots := 4, locals := 29 } : Room).cells ({ frames := 2, cells := 2, slots := 4, locals := 29 } : Room).slots) := by
  refine MetFree.of_bodySF (plainFor_of_name pn_java_lang_String) hisR ?_
  intro p e s m args below meth c s₁ Bd hml0 hP hK
  obtain ⟨rfl, hZ, hh, CH0⟩ := hP
  have hx := Bd.exec
  have hby := Bd.bytes
  have hml : c.maxLocals = 2 := hml0
  have hown : s.vm.findClass "java/lang/String" = some m.cls := findClass_of_methodNamed Bd.named
  have hnm := (name_of_methodNamed Bd.named Bd.method).1
  have X0 : Stand p l e ({ frames := 2, cells := 2, slots := 4, locals := 29 } : Room) (s.setVm s.vm) m #[(.ref a1), (.ref a2)] below meth c s₁ [] 0 0 := Stand.of_body Bd
  have hZ : Z.Warmed39 (s.setVm s.vm).vm := hZ
  have hown : (s.setVm s.vm).vm.findClass "java/lang/String" = some m.cls := hown
  have hS : s.Since s.vm h0.size := (State.WarmedH.refl s).since _
  have hk : h0.size ≤ h0.size := Nat.le_refl _
  have CR0 : CHr Z consts_1 s.vm h0 s.vm h0 := CHr.refl CH0
  have hEL := own_EW Z a0 hw
  have wS := own_wS Z a0 hw
  have sf_a1 : Safe Z consts_1 s.vm h0 a1 := own_safe_null hZ.alike E1 F1 a0 (oW hw 9 rfl)
  have e0 : s₁.heap = h0 := by rw [← hh, Bd.state]; rfl
  have N0 := Fr.nil n0
  have pre0 : oL p e below s₁ (mkF m 0 #[oR a1, oR a2] []) s₁ (entryFrame m #[(.ref a1), (.ref a2)] 2) := fun t k => castTop (by first | (simp [entryFrame, mkF, argsToLocals, Value.category]; done) | rfl) k
  have own_ne : a2 ≠ a1 := (Exa.neArv E1 V2 (oW hw 9 rfl)).symm
  have pre12 : oL p e below s₁ (mkF m 4 #[oR a1, oR a2] [ow a2, oi 0, ow a2, ow a1]) s₁ (entryFrame m #[(.ref a1), (.ref a2)] 2) := fun t k => pre0 t (by
    refine XS.aloadN X0.here hx rfl (hb hby d2_0) rfl rfl ?_
    refine XS.aloadN X0.here hx rfl (hb hby d2_1) rfl rfl ?_
    refine XS.iconst X0.here hx rfl (hb hby d2_2) ?_
    refine XS.aloadN X0.here hx rfl (hb hby d2_3) rfl rfl ?_
    show oS p e below s₁ (mkF m 4 #[oR a1, oR a2] [ow a2, oi 0, ow a2, ow a1]) _
    exact k)
  obtain ⟨cl11, Ar11, -, Sz11, Nn11, -, -⟩ := id V2
  have pre13 : oL p e below s₁ (mkF m 6 #[oR a1, oR a2] [.null, oi 0, oi 0, ow a2, ow a1]) s₁ (entryFrame m #[(.ref a1), (.ref a2)] 2) := fun t k => pre12 t (by
    refine X0.arraylength hx (by rw [e0]; exact Ar11.1) (State.isArrayOf_alike hZ.alike Ar11.2.1) (g := (mkF m 4 #[oR a1, oR a2] [ow a2, oi 0, ow a2, ow a1])) rfl rfl (hb hby d2_4) _ ?_
    rw [len_of Sz11 Nn11]
    refine XS.aconstNull X0.here hx rfl (hb hby d2_5) ?_
    exact k)
  obtain ⟨_, _, ⟨T14, L14, k14, n14⟩, -, X14, hS14, hgr14, ⟨Lc14, hQ14, l14, y14, z14, cr14⟩, st14⟩ := X0.specialBackS hx (y := (⟨"java/lang/String", "<init>", "([CIILjava/lang/Void;)V"⟩ : MethodName)) rfl hown (mvT hZ (oW hw 14 rfl)) (mvT hZ (oW hw 15 rfl)) (mvT hZ (oW hw 17 rfl)) (by decide) (backOfSH (W := 0) (rm_si0 l Z a0 hw [] a1 a2 h0 n0 OL ge1 E1 F1 F2) hZ (oW hw 17 rfl) (oW hw 10 rfl) (by decide) (by decide) hEL CH0) (g := (mkF m 6 #[oR a1, oR a2] [.null, oi 0, oi 0, ow a2, ow a1])) rfl (by rw [hml]; rfl) (Steps.refl _) (a := a1) (argsL := [(.ref a2), (.int (0 : Int32)), (.int (0 : Int32)), .null]) (rest := []) (lenOf pd___CIILjava_lang_Void__V rfl) rfl (by show 2 * 0 + _ ≤ _; exact Nat.le_of_eq rfl) (hb hby d2_6) (fun _ _ => ⟨rfl, e0, (by decide : 0 + 2 ≤ _), (by decide : 0 + 4 ≤ _)⟩)
  dsimp only [Pt.U, Pt.locs, Pt.cells, Pt.slots] at X14 l14 y14 z14 st14 hQ14 hS14 hgr14 cr14
  subst l14 y14 z14
  obtain ⟨X14, hS, hZ, hown⟩ := rebS hS (by rw [e0]; exact hk : _ ≤ s₁.heap.size) X14 hS14 hgr14 hZ hown
  have hk : T14.heap.size ≤ T14.heap.size := Nat.le_refl _
  obtain ⟨rfl, N14q, Kq14, Eq14, Fc14, tt14, kb14, nx14, lt14, Fv14, Va14⟩ := hQ14
  have N14 := Fr.app N0 N14q
  have sf15 := cr14.safe E1.lt sf_a1
  have CH16 := cr14.1
  have CR16 := CR0.trans cr14
  have f17 := E1.keep Kq14
  have f18 := V2.keep Kq14 (ninS own_ne nin0)
  have OL19 := OL.keep Kq14 (allS ge1 all0)
  have K20 : Keep h0 T14.heap [a1] := (Keep.refl h0 [a1]).trans Kq14 (allS (Or.inl (List.mem_of_getElem? (i := 0) rfl)) all0)
  have pre21 : oL p e below T14 (mkF m 9 #[oR a1, oR a2] []) s₁ (entryFrame m #[(.ref a1), (.ref a2)] 2) := fun t k => pre13 t (by
    refine st14.trans ?_
    exact k)
  obtain ⟨fs, hr, hrun, hended, hEnd⟩ := X14.leaveW hS hk (v := none) (fun _ => rfl)
  refine ⟨_, _, pre21 _ ?_, hrun, hended, _, _, rfl, ?_, (by show CHr Z consts_1 s.vm s.heap T14.vm T14.heap; rw [hh]; exact CR16.trans (CHv.at X14 hZ hEL CH16)), hEnd.1, hEnd.2.1, hEnd.2.2.1, hEnd.2.2.2.mono (by decide) (by decide)⟩
  ·
    show oS p e below T14 (mkF m 9 #[oR a1, oR a2] []) _
    exact X14.returnOut hx Bd.returns (hb hby d2_9) hr
  ·
    show Q_rm_s0 Z a1 a2 k2 h0 n0 _ T14.heap _
    exact ⟨rfl, N14, K20, Eq14, Fc14, tt14, kb14, fun q => (Ne.symm nx14) q.symm, Va14.lt, Fv14, Va14⟩
theorem pn_com_example_grantwright_grantwright_BypassTakesPinLaw : plainName "com/example/grantwright/grantwright/BypassTakesPinLaw" = true := by first | (simp [plainName, overriddenIn]; done) | decide +kernel
theorem d1_0 : decode method_2_code 0 = .ok (.iload_n 0, 1) := by decide +kernel
theorem d1_1 : decode method_2_code 1 = .ok (.ifCond .ne 7, 3) := by decide +kernel
theorem d1_4 : decode method_2_code 4 = .ok (.getstatic 7, 3) := by decide +kernel
theorem d1_7 : decode method_2_code 7 = .ok (.areturn, 1) := by decide +kernel
theorem d1_8 : decode method_2_code 8 = .ok (.iload_n 0, 1) := by decide +kernel
theorem d1_9 : decode method_2_code 9 = .ok (.iconst 1, 1) := by decide +kernel
theorem d1_10 : decode method_2_code 10 = .ok (.if_icmp .ne 7, 3) := by decide +kernel
theorem d1_13 : decode method_2_code 13 = .ok (.getstatic 13, 3) := by decide +kernel
theorem d1_16 : decode method_2_code 16 = .ok (.areturn, 1) := by decide +kernel
theorem d1_17 : decode method_2_code 17 = .ok (.iload_n 0, 1) := by decide +kernel
theorem d1_18 : decode method_2_code 18 = .ok (.iconst 2, 1) := by decide +kernel
theorem d1_19 : decode method_2_code 19 = .ok (.if_icmp .ne 7, 3) := by decide +kernel
theorem d1_22 : decode method_2_code 22 = .ok (.getstatic 16, 3) := by decide +kernel
theorem d1_25 : decode method_2_code 25 = .ok (.areturn, 1) := by decide +kernel
theorem d1_26 : decode method_2_code 26 = .ok (.getstatic 19, 3) := by decide +kernel
theorem d1_29 : decode method_2_code 29 = .ok (.areturn, 1) := by decide +kernel
def Q_rm_pick (Z : State) (p1 : Int32) (w_NONE : Addr) (w_WHEN_NULL : Addr) (w_WHEN_INITIAL : Addr) (w_WHEN_INITIAL_OR_NULL : Addr) (r : Addr) (h0 : Heap) (n0 : Nat) (v : Option Value) (h : Heap) (L : List Loc) : Prop := v = some (.ref r) ∧ Fr n0 L ∧ h = h0
set_option maxRecDepth 65536 in
set_option maxHeartbeats 40000000 in
theorem rm_pick (l : Launch) (Z : State) (a0 : Array Value) (hw : ∀ d ∈ tables_1, d.before a0 Z = true) (ws : List Jvm.Cond) (p1 : Int32) (w_NONE : Addr) (w_WHEN_NULL : Addr) (w_WHEN_INITIAL : Addr) (w_WHEN_INITIAL_OR_NULL : Addr) (r : Addr) (h0 : Heap) (n0 : Nat) (OL : Old Z n0 h0) (s_NONE : Sta Z Z.heap "com/example/grantwright/grantwright/Bypass" "NONE" "Lcom/example/grantwright/grantwright/Bypass;" (.ref w_NONE)) (s_WHEN_NULL : Sta Z Z.heap "com/example/grantwright/grantwright/Bypass" "WHEN_NULL" "Lcom/example/grantwright/grantwright/Bypass;" (.ref w_WHEN_NULL)) (s_WHEN_INITIAL : Sta Z Z.heap "com/example/grantwright/grantwright/Bypass" "WHEN_INITIAL" "Lcom/example/grantwright/grantwright/Bypass;" (.ref w_WHEN_INITIAL)) (s_WHEN_INITIAL_OR_NULL : Sta Z Z.heap "com/example/grantwright/grantwright/Bypass" "WHEN_INITIAL_OR_NULL" "Lcom/example/grantwright/grantwright/Bypass;" (.ref w_WHEN_INITIAL_OR_NULL)) (hr' : r = if p1 = 0 then w_NONE else if p1 = 1 then w_WHEN_NULL else if p1 = 2 then w_WHEN_INITIAL else w_WHEN_INITIAL_OR_NULL) :
    MetFree l (⟨"com/example/grantwright/grantwright/BypassTakesPinLaw", "pick", "(I)Lcom/example/grantwright/grantwright/Bypass;"⟩ : MethodName) (head1 (Jvm.Cond.code (⟨"com/example/grantwright/grantwright/BypassTakesPinLaw", "pick", "(I)Lcom/example/grantwright/grantwright/Bypass;"⟩ : MethodName) method_2_code 1 (some (.object "com/example/grantwright/grantwright/Bypass")) :: ws) ({ frames := 0, cells := 0, slots := 0, locals := 0 } : Room)) (fun a U => a = #[(.int p1)] ∧ Z.Warmed39 U.vm ∧ U.heap = h0) (fun _ _ _ _ _ => True) (fun _ U o U' => ∃ v L, o = .returned v ∧ Q_rm_pick Z p1 w_NONE w_WHEN_NULL w_WHEN_INITIAL w_WHEN_INITIAL_OR_NULL r h0 n0 v U'.heap L ∧ FrameEnd U o U' L ({ frames := 0, cells := 0, slots := 0, locals := 0 } : Room).cells ({ frames := 0, cells := 0, slots := 0, locals := 0 } : Room).slots) := by
  refine MetFree.of_bodySF (plainFor_of_name pn_com_example_grantwright_grantwright_BypassTakesPinLaw) hisR ?_
  intro p e s m args below meth c s₁ Bd hml0 hP hK
  obtain ⟨rfl, hZ, hh⟩ := hP
  have hx := Bd.exec
  have hby := Bd.bytes
  have hml : c.maxLocals = 1 := hml0
  have hown : s.vm.findClass "com/example/grantwright/grantwright/BypassTakesPinLaw" = some m.cls := findClass_of_methodNamed Bd.named
  have hnm := (name_of_methodNamed Bd.named Bd.method).1
  have X0 : Stand p l e ({ frames := 0, cells := 0, slots := 0, locals := 0 } : Room) s m #[(.int p1)] below meth c s₁ [] 0 0 := Stand.of_body Bd
  have e0 : s₁.heap = h0 := by rw [← hh, Bd.state]; rfl
  have N0 := Fr.nil n0
  have pre0 : oL p e below s₁ (mkF m 0 #[oI p1] []) s₁ (entryFrame m #[(.int p1)] 1) := fun t k => castTop (by first | (simp [entryFrame, mkF, argsToLocals, Value.category]; done) | rfl) k
  have pre11 : oL p e below s₁ (mkF m 1 #[oI p1] [oi p1]) s₁ (entryFrame m #[(.int p1)] 1) := fun t k => pre0 t (by
    refine XS.iloadN X0.here hx rfl (hb hby d1_0) rfl ?_
    exact k)
  by_cases hc12 : p1 = (0 : Int32)
  ·
    have pre13 : oL p e below s₁ (mkF m 4 #[oI p1] []) s₁ (entryFrame m #[(.int p1)] 1) := fun t k => pre11 t (by
      refine XS.ifNo X0.here hx rfl (hb hby d1_1) rfl ((if0 _ _).trans (teq hc12).2) ?_
      exact k)
    obtain ⟨T14, X14, e14, st14⟩ := getS2 X0 hx hZ hown (host := "") (Or.inl (oW hw 4 rfl)) Via.refl e0 (s_NONE.ext OL.2) (g := (mkF m 4 #[oI p1] [])) rfl (hb hby d1_4)
    have pre15 : oL p e below T14 (mkF m 7 #[oI p1] [ow w_NONE]) s₁ (entryFrame m #[(.int p1)] 1) := fun t k => pre13 t (by
      refine st14 _ ?_
      exact k)
    obtain ⟨fs, hr, hrun, hended, hW, hsame⟩ := X14.leave (v := some (.ref w_NONE)) (fun h => by rw [Bd.returns] at h; cases h)
    refine ⟨_, _, pre15 _ ?_, hrun, hended, _, _, rfl, ?_, ⟨_, rfl⟩, hW, hsame.mono (by decide) (by decide)⟩
    ·
      show oS p e below T14 (mkF m 7 #[oI p1] [ow w_NONE]) _
      jvm_step X14.here [X14.here.top, hx, (hb hby d1_7), X14.method', Bd.returns, Value.isRef, FieldType.isReference]
      first | (intro acts; rw [hr _ acts rfl rfl rfl]) | rw [hr _ _ rfl rfl rfl]
      exact Steps.refl _
    ·
      show Q_rm_pick Z p1 w_NONE w_WHEN_NULL w_WHEN_INITIAL w_WHEN_INITIAL_OR_NULL r h0 n0 _ T14.heap _
      rw [e14]
      exact ⟨by rw [hr', if_pos hc12], N0, rfl⟩
  ·
    have pre16 : oL p e below s₁ (mkF m 10 #[oI p1] [oi 1, oi p1]) s₁ (entryFrame m #[(.int p1)] 1) := fun t k => pre11 t (by
      refine XS.ifYes X0.here hx rfl (pc0 := 1) (pc' := 8) rfl (hb hby d1_1) rfl ((if0 _ _).trans (feq hc12).2) (by decide) (by decide) ?_
      refine XS.iloadN X0.here hx rfl (hb hby d1_8) rfl ?_
      refine XS.iconst X0.here hx rfl (hb hby d1_9) ?_
      show oS p e below s₁ (mkF m 10 #[oI p1] [oi 1, oi p1]) _
      exact k)
    by_cases hc17 : p1 = (1 : Int32)
    ·
      have pre18 : oL p e below s₁ (mkF m 13 #[oI p1] []) s₁ (entryFrame m #[(.int p1)] 1) := fun t k => pre16 t (by
        refine XS.icmpNo X0.here hx rfl (hb hby d1_10) rfl (teq hc17).2 ?_
        exact k)
      obtain ⟨T19, X19, e19, st19⟩ := getS2 X0 hx hZ hown (host := "") (Or.inl (oW hw 82 rfl)) Via.refl e0 (s_WHEN_NULL.ext OL.2) (g := (mkF m 13 #[oI p1] [])) rfl (hb hby d1_13)
      have pre20 : oL p e below T19 (mkF m 16 #[oI p1] [ow w_WHEN_NULL]) s₁ (entryFrame m #[(.int p1)] 1) := fun t k => pre18 t (by
        refine st19 _ ?_
        exact k)
      obtain ⟨fs, hr, hrun, hended, hW, hsame⟩ := X19.leave (v := some (.ref w_WHEN_NULL)) (fun h => by rw [Bd.returns] at h; cases h)
      refine ⟨_, _, pre20 _ ?_, hrun, hended, _, _, rfl, ?_, ⟨_, rfl⟩, hW, hsame.mono (by decide) (by decide)⟩
      ·
        show oS p e below T19 (mkF m 16 #[oI p1] [ow w_WHEN_NULL]) _
        jvm_step X19.here [X19.here.top, hx, (hb hby d1_16), X19.method', Bd.returns, Value.isRef, FieldType.isReference]
        first | (intro acts; rw [hr _ acts rfl rfl rfl]) | rw [hr _ _ rfl rfl rfl]
        exact Steps.refl _
      ·
        show Q_rm_pick Z p1 w_NONE w_WHEN_NULL w_WHEN_INITIAL w_WHEN_INITIAL_OR_NULL r h0 n0 _ T19.heap _
        rw [e19]
        exact ⟨by rw [hr', if_neg hc12, if_pos hc17], N0, rfl⟩
    ·
      have pre21 : oL p e below s₁ (mkF m 19 #[oI p1] [oi 2, oi p1]) s₁ (entryFrame m #[(.int p1)] 1) := fun t k => pre16 t (by
        refine XS.icmpYes X0.here hx rfl (pc0 := 10) (pc' := 17) rfl (hb hby d1_10) rfl (feq hc17).2 (by decide) (by decide) ?_
        refine XS.iloadN X0.here hx rfl (hb hby d1_17) rfl ?_
        refine XS.iconst X0.here hx rfl (hb hby d1_18) ?_
        exact k)
      by_cases hc22 : p1 = (2 : Int32)
      ·
        have pre23 : oL p e below s₁ (mkF m 22 #[oI p1] []) s₁ (entryFrame m #[(.int p1)] 1) := fun t k => pre21 t (by
          refine XS.icmpNo X0.here hx rfl (hb hby d1_19) rfl (teq hc22).2 ?_
          show oS p e below s₁ (mkF m 22 #[oI p1] []) _
          exact k)
        obtain ⟨T24, X24, e24, st24⟩ := getS2 X0 hx hZ hown (host := "") (Or.inl (oW hw 80 rfl)) Via.refl e0 (s_WHEN_INITIAL.ext OL.2) (g := (mkF m 22 #[oI p1] [])) rfl (hb hby d1_22)
        have pre25 : oL p e below T24 (mkF m 25 #[oI p1] [ow w_WHEN_INITIAL]) s₁ (entryFrame m #[(.int p1)] 1) := fun t k => pre23 t (by
          refine st24 _ ?_
          exact k)
        obtain ⟨fs, hr, hrun, hended, hW, hsame⟩ := X24.leave (v := some (.ref w_WHEN_INITIAL)) (fun h => by rw [Bd.returns] at h; cases h)
        refine ⟨_, _, pre25 _ ?_, hrun, hended, _, _, rfl, ?_, ⟨_, rfl⟩, hW, hsame.mono (by decide) (by decide)⟩
        ·
          show oS p e below T24 (mkF m 25 #[oI p1] [ow w_WHEN_INITIAL]) _
          jvm_step X24.here [X24.here.top, hx, (hb hby d1_25), X24.method', Bd.returns, Value.isRef, FieldType.isReference]
          first | (intro acts; rw [hr _ acts rfl rfl rfl]) | rw [hr _ _ rfl rfl rfl]
          exact Steps.refl _
        ·
          show Q_rm_pick Z p1 w_NONE w_WHEN_NULL w_WHEN_INITIAL w_WHEN_INITIAL_OR_NULL r h0 n0 _ T24.heap _
          rw [e24]
          exact ⟨by rw [hr', if_neg hc12, if_neg hc17, if_pos hc22], N0, rfl⟩
      ·
        have pre26 : oL p e below s₁ (mkF m 26 #[oI p1] []) s₁ (entryFrame m #[(.int p1)] 1) := fun t k => pre21 t (by
          refine XS.icmpYes X0.here hx rfl (pc0 := 19) (pc' := 26) rfl (hb hby d1_19) rfl (feq hc22).2 (by decide) (by decide) ?_
          show oS p e below s₁ (mkF m 26 #[oI p1] []) _
          exact k)
        obtain ⟨T27, X27, e27, st27⟩ := getS2 X0 hx hZ hown (host := "") (Or.inl (oW hw 44 rfl)) Via.refl e0 (s_WHEN_INITIAL_OR_NULL.ext OL.2) (g := (mkF m 26 #[oI p1] [])) rfl (hb hby d1_26)
        have pre28 : oL p e below T27 (mkF m 29 #[oI p1] [ow w_WHEN_INITIAL_OR_NULL]) s₁ (entryFrame m #[(.int p1)] 1) := fun t k => pre26 t (by
          refine st27 _ ?_
          exact k)
        obtain ⟨fs, hr, hrun, hended, hW, hsame⟩ := X27.leave (v := some (.ref w_WHEN_INITIAL_OR_NULL)) (fun h => by rw [Bd.returns] at h; cases h)
        refine ⟨_, _, pre28 _ ?_, hrun, hended, _, _, rfl, ?_, ⟨_, rfl⟩, hW, hsame.mono (by decide) (by decide)⟩
        ·
          show oS p e below T27 (mkF m 29 #[oI p1] [ow w_WHEN_INITIAL_OR_NULL]) _
          jvm_step X27.here [X27.here.top, hx, (hb hby d1_29), X27.method', Bd.returns, Value.isRef, FieldType.isReference]
          first | (intro acts; rw [hr _ acts rfl rfl rfl]) | rw [hr _ _ rfl rfl rfl]
          exact Steps.refl _
        ·
          show Q_rm_pick Z p1 w_NONE w_WHEN_NULL w_WHEN_INITIAL w_WHEN_INITIAL_OR_NULL r h0 n0 _ T27.heap _
          rw [e27]
          exact ⟨by rw [hr', if_neg hc12, if_neg hc17, if_neg hc22], N0, rfl⟩
theorem pn_java_lang_StringLatin1 : plainName "java/lang/StringLatin1" = true := by first | (simp [plainName, overriddenIn]; done) | decide +kernel
theorem d10_0 : decode jdk_43_method_13_code 0 = .ok (.aload_n 0, 1) := by decide +kernel
theorem d10_1 : decode jdk_43_method_13_code 1 = .ok (.arraylength, 1) := by decide +kernel
theorem d10_2 : decode jdk_43_method_13_code 2 = .ok (.aload_n 1, 1) := by decide +kernel
theorem d10_3 : decode jdk_43_method_13_code 3 = .ok (.arraylength, 1) := by decide +kernel
theorem d10_4 : decode jdk_43_method_13_code 4 = .ok (.if_icmp .ne 30, 3) := by decide +kernel
theorem d10_7 : decode jdk_43_method_13_code 7 = .ok (.iconst 0, 1) := by decide +kernel
theorem d10_8 : decode jdk_43_method_13_code 8 = .ok (.istore_n 2, 1) := by decide +kernel
theorem d10_9 : decode jdk_43_method_13_code 9 = .ok (.iload_n 2, 1) := by decide +kernel
theorem d10_10 : decode jdk_43_method_13_code 10 = .ok (.aload_n 0, 1) := by decide +kernel
theorem d10_11 : decode jdk_43_method_13_code 11 = .ok (.arraylength, 1) := by decide +kernel
theorem d10_12 : decode jdk_43_method_13_code 12 = .ok (.if_icmp .ge 20, 3) := by decide +kernel
theorem d10_32 : decode jdk_43_method_13_code 32 = .ok (.iconst 1, 1) := by decide +kernel
theorem d10_33 : decode jdk_43_method_13_code 33 = .ok (.ireturn, 1) := by decide +kernel
def Q_rm_el0 (Z : State) (t1 : Addr) (k1 : ClassId) (v1 : List Value) (t2 : Addr) (k2 : ClassId) (h0 : Heap) (n0 : Nat) (v : Option Value) (h : Heap) (L : List Loc) : Prop := v = some (.int (1 : Int32)) ∧ Fr n0 L ∧ h = h0
set_option maxRecDepth 65536 in
set_option maxHeartbeats 40000000 in
theorem rm_el0 (l : Launch) (Z : State) (a0 : Array Value) (hw : ∀ d ∈ tables_1, d.before a0 Z = true) (ws : List Jvm.Cond) (t1 : Addr) (k1 : ClassId) (v1 : List Value) (t2 : Addr) (k2 : ClassId) (h0 : Heap) (n0 : Nat) (OL : Old Z n0 h0) (V1 : Arv Z h0 t1 k1 .byte (0 : Int32) v1 (.int (0 : Int32))) (V2 : Arv Z h0 t2 k2 .byte (0 : Int32) [] (.int (0 : Int32))) :
    MetFree l (⟨"java/lang/StringLatin1", "equals", "([B[B)Z"⟩ : MethodName) (head1 (Jvm.Cond.code (⟨"java/lang/StringLatin1", "equals", "([B[B)Z"⟩ : MethodName) jdk_43_method_13_code 3 (some .boolean) :: ws) ({ frames := 0, cells := 0, slots := 0, locals := 0 } : Room)) (fun a U => a = #[(.ref t1), (.ref t2)] ∧ Z.Warmed39 U.vm ∧ U.heap = h0) (fun _ _ _ _ _ => True) (fun _ U o U' => ∃ v L, o = .returned v ∧ Q_rm_el0 Z t1 k1 v1 t2 k2 h0 n0 v U'.heap L ∧ FrameEnd U o U' L ({ frames := 0, cells := 0, slots := 0, locals := 0 } : Room).cells ({ frames := 0, cells := 0, slots := 0, locals := 0 } : Room).slots) := by
  refine MetFree.of_bodySF (plainFor_of_name pn_java_lang_StringLatin1) hisR ?_
  intro p e s m args below meth c s₁ Bd hml0 hP hK
  obtain ⟨rfl, hZ, hh⟩ := hP
  have hx := Bd.exec
  have hby := Bd.bytes
  have hml : c.maxLocals = 3 := hml0
  have hown : s.vm.findClass "java/lang/StringLatin1" = some m.cls := findClass_of_methodNamed Bd.named
  have hnm := (name_of_methodNamed Bd.named Bd.method).1
  have X0 : Stand p l e ({ frames := 0, cells := 0, slots := 0, locals := 0 } : Room) s m #[(.ref t1), (.ref t2)] below meth c s₁ [] 0 0 := Stand.of_body Bd
  have e0 : s₁.heap = h0 := by rw [← hh, Bd.state]; rfl
  have N0 := Fr.nil n0
  have pre0 : oL p e below s₁ (mkF m 0 #[oR t1, oR t2, oU] []) s₁ (entryFrame m #[(.ref t1), (.ref t2)] 3) := fun t k => castTop (by first | (simp [entryFrame, mkF, argsToLocals, Value.category]; done) | rfl) k
  have pre12 : oL p e below s₁ (mkF m 1 #[oR t1, oR t2, oU] [ow t1]) s₁ (entryFrame m #[(.ref t1), (.ref t2)] 3) := fun t k => pre0 t (by
    refine XS.aloadN X0.here hx rfl (hb hby d10_0) rfl rfl ?_
    exact k)
  obtain ⟨cl11, Ar11, -, Sz11, Nn11, -, -⟩ := id V1
  have pre14 : oL p e below s₁ (mkF m 3 #[oR t1, oR t2, oU] [ow t2, oi 0]) s₁ (entryFrame m #[(.ref t1), (.ref t2)] 3) := fun t k => pre12 t (by
    refine X0.arraylength hx (by rw [e0]; exact Ar11.1) (State.isArrayOf_alike hZ.alike Ar11.2.1) (g := (mkF m 1 #[oR t1, oR t2, oU] [ow t1])) rfl rfl (hb hby d10_1) _ ?_
    rw [len_of Sz11 Nn11]
    refine XS.aloadN X0.here hx rfl (hb hby d10_2) rfl rfl ?_
    exact k)
  obtain ⟨cl13, Ar13, -, Sz13, Nn13, -, -⟩ := id V2
  have pre16 : oL p e below s₁ (mkF m 11 #[oR t1, oR t2, oI 0] [ow t1, oi 0]) s₁ (entryFrame m #[(.ref t1), (.ref t2)] 3) := fun t k => pre14 t (by
    refine X0.arraylength hx (by rw [e0]; exact Ar13.1) (State.isArrayOf_alike hZ.alike Ar13.2.1) (g := (mkF m 3 #[oR t1, oR t2, oU] [ow t2, oi 0])) rfl rfl (hb hby d10_3) _ ?_
    rw [len_of Sz13 Nn13]
    show oS p e below s₁ (mkF m 4 #[oR t1, oR t2, oU] [oi 0, oi 0]) _
    refine XS.icmpNo X0.here hx rfl (hb hby d10_4) rfl (teq (by decide : (0 : Int32) = (0 : Int32))).2 ?_
    refine XS.iconst X0.here hx rfl (hb hby d10_7) ?_
    refine XS.istoreN X0.here hx rfl (hb hby d10_8) rfl (l' := #[oR t1, oR t2, oI 0]) rfl ?_
    refine XS.iloadN X0.here hx rfl (hb hby d10_9) rfl ?_
    show oS p e below s₁ (mkF m 10 #[oR t1, oR t2, oI 0] [oi 0]) _
    refine XS.aloadN X0.here hx rfl (hb hby d10_10) rfl rfl ?_
    exact k)
  obtain ⟨cl15, Ar15, -, Sz15, Nn15, -, -⟩ := id V1
  have pre17 : oL p e below s₁ (mkF m 33 #[oR t1, oR t2, oI 0] [oi 1]) s₁ (entryFrame m #[(.ref t1), (.ref t2)] 3) := fun t k => pre16 t (by
    refine X0.arraylength hx (by rw [e0]; exact Ar15.1) (State.isArrayOf_alike hZ.alike Ar15.2.1) (g := (mkF m 11 #[oR t1, oR t2, oI 0] [ow t1, oi 0])) rfl rfl (hb hby d10_11) _ ?_
    rw [len_of Sz15 Nn15]
    refine XS.icmpYes X0.here hx rfl (pc0 := 12) (pc' := 32) rfl (hb hby d10_12) rfl (flt (by decide : ¬ ((0 : Int32) < (0 : Int32)))).2.1 (by decide) (by decide) ?_
    refine XS.iconst X0.here hx rfl (hb hby d10_32) ?_
    show oS p e below s₁ (mkF m 33 #[oR t1, oR t2, oI 0] [oi 1]) _
    exact k)
  obtain ⟨fs, hr, hrun, hended, hW, hsame⟩ := X0.leave (v := some (.int (1 : Int32))) (fun h => by rw [Bd.returns] at h; cases h)
  refine ⟨_, _, pre17 _ ?_, hrun, hended, _, _, rfl, ?_, ⟨_, rfl⟩, hW, hsame.mono (by decide) (by decide)⟩
  ·
    show oS p e below s₁ (mkF m 33 #[oR t1, oR t2, oI 0] [oi 1]) _
    exact retN X0 hx (t := .boolean) Bd.returns (by simp) (hb hby d10_33) hr
  ·
    show Q_rm_el0 Z t1 k1 v1 t2 k2 h0 n0 _ s₁.heap _
    rw [e0]
    exact ⟨rfl, N0, rfl⟩
theorem d10_34 : decode jdk_43_method_13_code 34 = .ok (.iconst 0, 1) := by decide +kernel
theorem d10_35 : decode jdk_43_method_13_code 35 = .ok (.ireturn, 1) := by decide +kernel
def Q_rm_el1 (Z : State) (t1 : Addr) (k1 : ClassId) (v1 : List Value) (t2 : Addr) (k2 : ClassId) (h0 : Heap) (n0 : Nat) (v : Option Value) (h : Heap) (L : List Loc) : Prop := v = some (.int (0 : Int32)) ∧ Fr n0 L ∧ h = h0
set_option maxRecDepth 65536 in
set_option maxHeartbeats 40000000 in
theorem rm_el1 (l : Launch) (Z : State) (a0 : Array Value) (hw : ∀ d ∈ tables_1, d.before a0 Z = true) (ws : List Jvm.Cond) (t1 : Addr) (k1 : ClassId) (v1 : List Value) (t2 : Addr) (k2 : ClassId) (h0 : Heap) (n0 : Nat) (OL : Old Z n0 h0) (V1 : Arv Z h0 t1 k1 .byte (1 : Int32) v1 (.int (0 : Int32))) (V2 : Arv Z h0 t2 k2 .byte (0 : Int32) [] (.int (0 : Int32))) :
    MetFree l (⟨"java/lang/StringLatin1", "equals", "([B[B)Z"⟩ : MethodName) (head1 (Jvm.Cond.code (⟨"java/lang/StringLatin1", "equals", "([B[B)Z"⟩ : MethodName) jdk_43_method_13_code 3 (some .boolean) :: ws) ({ frames := 0, cells := 0, slots := 0, locals := 0 } : Room)) (fun a U => a = #[(.ref t1), (.ref t2)] ∧ Z.Warmed39 U.vm ∧ U.heap = h0) (fun _ _ _ _ _ => True) (fun _ U o U' => ∃ v L, o = .returned v ∧ Q_rm_el1 Z t1 k1 v1 t2 k2 h0 n0 v U'.heap L ∧ FrameEnd U o U' L ({ frames := 0, cells := 0, slots := 0, locals := 0 } : Room).cells ({ frames := 0, cells := 0, slots := 0, locals := 0 } : Room).slots) := by
  refine MetFree.of_bodySF (plainFor_of_name pn_java_lang_StringLatin1) hisR ?_
  intro p e s m args below meth c s₁ Bd hml0 hP hK
  obtain ⟨rfl, hZ, hh⟩ := hP
  have hx := Bd.exec
  have hby := Bd.bytes
  have hml : c.maxLocals = 3 := hml0
  have hown : s.vm.findClass "java/lang/StringLatin1" = some m.cls := findClass_of_methodNamed Bd.named
  have hnm := (name_of_methodNamed Bd.named Bd.method).1
  have X0 : Stand p l e ({ frames := 0, cells := 0, slots := 0, locals := 0 } : Room) s m #[(.ref t1), (.ref t2)] below meth c s₁ [] 0 0 := Stand.of_body Bd
  have e0 : s₁.heap = h0 := by rw [← hh, Bd.state]; rfl
  have N0 := Fr.nil n0
  have pre0 : oL p e below s₁ (mkF m 0 #[oR t1, oR t2, oU] []) s₁ (entryFrame m #[(.ref t1), (.ref t2)] 3) := fun t k => castTop (by first | (simp [entryFrame, mkF, argsToLocals, Value.category]; done) | rfl) k
  have pre12 : oL p e below s₁ (mkF m 1 #[oR t1, oR t2, oU] [ow t1]) s₁ (entryFrame m #[(.ref t1), (.ref t2)] 3) := fun t k => pre0 t (by
    refine XS.aloadN X0.here hx rfl (hb hby d10_0) rfl rfl ?_
    exact k)
  obtain ⟨cl11, Ar11, -, Sz11, Nn11, -, -⟩ := id V1
  have pre14 : oL p e below s₁ (mkF m 3 #[oR t1, oR t2, oU] [ow t2, oi 1]) s₁ (entryFrame m #[(.ref t1), (.ref t2)] 3) := fun t k => pre12 t (by
    refine X0.arraylength hx (by rw [e0]; exact Ar11.1) (State.isArrayOf_alike hZ.alike Ar11.2.1) (g := (mkF m 1 #[oR t1, oR t2, oU] [ow t1])) rfl rfl (hb hby d10_1) _ ?_
    rw [len_of Sz11 Nn11]
    refine XS.aloadN X0.here hx rfl (hb hby d10_2) rfl rfl ?_
    exact k)
  obtain ⟨cl13, Ar13, -, Sz13, Nn13, -, -⟩ := id V2
  have pre15 : oL p e below s₁ (mkF m 35 #[oR t1, oR t2, oU] [oi 0]) s₁ (entryFrame m #[(.ref t1), (.ref t2)] 3) := fun t k => pre14 t (by
    refine X0.arraylength hx (by rw [e0]; exact Ar13.1) (State.isArrayOf_alike hZ.alike Ar13.2.1) (g := (mkF m 3 #[oR t1, oR t2, oU] [ow t2, oi 1])) rfl rfl (hb hby d10_3) _ ?_
    rw [len_of Sz13 Nn13]
    show oS p e below s₁ (mkF m 4 #[oR t1, oR t2, oU] [oi 0, oi 1]) _
    refine XS.icmpYes X0.here hx rfl (pc0 := 4) (pc' := 34) rfl (hb hby d10_4) rfl (feq (by decide : ¬ ((1 : Int32) = (0 : Int32)))).2 (by decide) (by decide) ?_
    refine XS.iconst X0.here hx rfl (hb hby d10_34) ?_
    exact k)
  obtain ⟨fs, hr, hrun, hended, hW, hsame⟩ := X0.leave (v := some (.int (0 : Int32))) (fun h => by rw [Bd.returns] at h; cases h)
  refine ⟨_, _, pre15 _ ?_, hrun, hended, _, _, rfl, ?_, ⟨_, rfl⟩, hW, hsame.mono (by decide) (by decide)⟩
  ·
    show oS p e below s₁ (mkF m 35 #[oR t1, oR t2, oU] [oi 0]) _
    exact retN X0 hx (t := .boolean) Bd.returns (by simp) (hb hby d10_35) hr
  ·
    show Q_rm_el1 Z t1 k1 v1 t2 k2 h0 n0 _ s₁.heap _
    rw [e0]
    exact ⟨rfl, N0, rfl⟩
def Q_rm_el2 (Z : State) (t1 : Addr) (k1 : ClassId) (v1 : List Value) (t2 : Addr) (k2 : ClassId) (h0 : Heap) (n0 : Nat) (v : Option Value) (h : Heap) (L : List Loc) : Prop := v = some (.int (0 : Int32)) ∧ Fr n0 L ∧ h = h0
set_option maxRecDepth 65536 in
set_option maxHeartbeats 40000000 in
theorem rm_el2 (l : Launch) (Z : State) (a0 : Array Value) (hw : ∀ d ∈ tables_1, d.before a0 Z = true) (ws : List Jvm.Cond) (t1 : Addr) (k1 : ClassId) (v1 : List Value) (t2 : Addr) (k2 : ClassId) (h0 : Heap) (n0 : Nat) (OL : Old Z n0 h0) (V1 : Arv Z h0 t1 k1 .byte (2 : Int32) v1 (.int (0 : Int32))) (V2 : Arv Z h0 t2 k2 .byte (0 : Int32) [] (.int (0 : Int32))) :
    MetFree l (⟨"java/lang/StringLatin1", "equals", "([B[B)Z"⟩ : MethodName) (head1 (Jvm.Cond.code (⟨"java/lang/StringLatin1", "equals", "([B[B)Z"⟩ : MethodName) jdk_43_method_13_code 3 (some .boolean) :: ws) ({ frames := 0, cells := 0, slots := 0, locals := 0 } : Room)) (fun a U => a = #[(.ref t1), (.ref t2)] ∧ Z.Warmed39 U.vm ∧ U.heap = h0) (fun _ _ _ _ _ => True) (fun _ U o U' => ∃ v L, o = .returned v ∧ Q_rm_el2 Z t1 k1 v1 t2 k2 h0 n0 v U'.heap L ∧ FrameEnd U o U' L ({ frames := 0, cells := 0, slots := 0, locals := 0 } : Room).cells ({ frames := 0, cells := 0, slots := 0, locals := 0 } : Room).slots) := by
  refine MetFree.of_bodySF (plainFor_of_name pn_java_lang_StringLatin1) hisR ?_
  intro p e s m args below meth c s₁ Bd hml0 hP hK
  obtain ⟨rfl, hZ, hh⟩ := hP
  have hx := Bd.exec
  have hby := Bd.bytes
  have hml : c.maxLocals = 3 := hml0
  have hown : s.vm.findClass "java/lang/StringLatin1" = some m.cls := findClass_of_methodNamed Bd.named
  have hnm := (name_of_methodNamed Bd.named Bd.method).1
  have X0 : Stand p l e ({ frames := 0, cells := 0, slots := 0, locals := 0 } : Room) s m #[(.ref t1), (.ref t2)] below meth c s₁ [] 0 0 := Stand.of_body Bd
  have e0 : s₁.heap = h0 := by rw [← hh, Bd.state]; rfl
  have N0 := Fr.nil n0
  have pre0 : oL p e below s₁ (mkF m 0 #[oR t1, oR t2, oU] []) s₁ (entryFrame m #[(.ref t1), (.ref t2)] 3) := fun t k => castTop (by first | (simp [entryFrame, mkF, argsToLocals, Value.category]; done) | rfl) k
  have pre12 : oL p e below s₁ (mkF m 1 #[oR t1, oR t2, oU] [ow t1]) s₁ (entryFrame m #[(.ref t1), (.ref t2)] 3) := fun t k => pre0 t (by
    refine XS.aloadN X0.here hx rfl (hb hby d10_0) rfl rfl ?_
    exact k)
  obtain ⟨cl11, Ar11, -, Sz11, Nn11, -, -⟩ := id V1
  have pre14 : oL p e below s₁ (mkF m 3 #[oR t1, oR t2, oU] [ow t2, oi 2]) s₁ (entryFrame m #[(.ref t1), (.ref t2)] 3) := fun t k => pre12 t (by
    refine X0.arraylength hx (by rw [e0]; exact Ar11.1) (State.isArrayOf_alike hZ.alike Ar11.2.1) (g := (mkF m 1 #[oR t1, oR t2, oU] [ow t1])) rfl rfl (hb hby d10_1) _ ?_
    rw [len_of Sz11 Nn11]
    refine XS.aloadN X0.here hx rfl (hb hby d10_2) rfl rfl ?_
    exact k)
  obtain ⟨cl13, Ar13, -, Sz13, Nn13, -, -⟩ := id V2
  have pre15 : oL p e below s₁ (mkF m 35 #[oR t1, oR t2, oU] [oi 0]) s₁ (entryFrame m #[(.ref t1), (.ref t2)] 3) := fun t k => pre14 t (by
    refine X0.arraylength hx (by rw [e0]; exact Ar13.1) (State.isArrayOf_alike hZ.alike Ar13.2.1) (g := (mkF m 3 #[oR t1, oR t2, oU] [ow t2, oi 2])) rfl rfl (hb hby d10_3) _ ?_
    rw [len_of Sz13 Nn13]
    show oS p e below s₁ (mkF m 4 #[oR t1, oR t2, oU] [oi 0, oi 2]) _
    refine XS.icmpYes X0.here hx rfl (pc0 := 4) (pc' := 34) rfl (hb hby d10_4) rfl (feq (by decide : ¬ ((2 : Int32) = (0 : Int32)))).2 (by decide) (by decide) ?_
    refine XS.iconst X0.here hx rfl (hb hby d10_34) ?_
    exact k)
  obtain ⟨fs, hr, hrun, hended, hW, hsame⟩ := X0.leave (v := some (.int (0 : Int32))) (fun h => by rw [Bd.returns] at h; cases h)
  refine ⟨_, _, pre15 _ ?_, hrun, hended, _, _, rfl, ?_, ⟨_, rfl⟩, hW, hsame.mono (by decide) (by decide)⟩
  ·
    show oS p e below s₁ (mkF m 35 #[oR t1, oR t2, oU] [oi 0]) _
    exact retN X0 hx (t := .boolean) Bd.returns (by simp) (hb hby d10_35) hr
  ·
    show Q_rm_el2 Z t1 k1 v1 t2 k2 h0 n0 _ s₁.heap _
    rw [e0]
    exact ⟨rfl, N0, rfl⟩
def Q_rm_el3 (Z : State) (t1 : Addr) (k1 : ClassId) (v1 : List Value) (t2 : Addr) (k2 : ClassId) (h0 : Heap) (n0 : Nat) (v : Option Value) (h : Heap) (L : List Loc) : Prop := v = some (.int (0 : Int32)) ∧ Fr n0 L ∧ h = h0
set_option maxRecDepth 65536 in
set_option maxHeartbeats 40000000 in
theorem rm_el3 (l : Launch) (Z : State) (a0 : Array Value) (hw : ∀ d ∈ tables_1, d.before a0 Z = true) (ws : List Jvm.Cond) (t1 : Addr) (k1 : ClassId) (v1 : List Value) (t2 : Addr) (k2 : ClassId) (h0 : Heap) (n0 : Nat) (OL : Old Z n0 h0) (V1 : Arv Z h0 t1 k1 .byte (3 : Int32) v1 (.int (0 : Int32))) (V2 : Arv Z h0 t2 k2 .byte (0 : Int32) [] (.int (0 : Int32))) :
    MetFree l (⟨"java/lang/StringLatin1", "equals", "([B[B)Z"⟩ : MethodName) (head1 (Jvm.Cond.code (⟨"java/lang/StringLatin1", "equals", "([B[B)Z"⟩ : MethodName) jdk_43_method_13_code 3 (some .boolean) :: ws) ({ frames := 0, cells := 0, slots := 0, locals := 0 } : Room)) (fun a U => a = #[(.ref t1), (.ref t2)] ∧ Z.Warmed39 U.vm ∧ U.heap = h0) (fun _ _ _ _ _ => True) (fun _ U o U' => ∃ v L, o = .returned v ∧ Q_rm_el3 Z t1 k1 v1 t2 k2 h0 n0 v U'.heap L ∧ FrameEnd U o U' L ({ frames := 0, cells := 0, slots := 0, locals := 0 } : Room).cells ({ frames := 0, cells := 0, slots := 0, locals := 0 } : Room).slots) := by
  refine MetFree.of_bodySF (plainFor_of_name pn_java_lang_StringLatin1) hisR ?_
  intro p e s m args below meth c s₁ Bd hml0 hP hK
  obtain ⟨rfl, hZ, hh⟩ := hP
  have hx := Bd.exec
  have hby := Bd.bytes
  have hml : c.maxLocals = 3 := hml0
  have hown : s.vm.findClass "java/lang/StringLatin1" = some m.cls := findClass_of_methodNamed Bd.named
  have hnm := (name_of_methodNamed Bd.named Bd.method).1
  have X0 : Stand p l e ({ frames := 0, cells := 0, slots := 0, locals := 0 } : Room) s m #[(.ref t1), (.ref t2)] below meth c s₁ [] 0 0 := Stand.of_body Bd
  have e0 : s₁.heap = h0 := by rw [← hh, Bd.state]; rfl
  have N0 := Fr.nil n0
  have pre0 : oL p e below s₁ (mkF m 0 #[oR t1, oR t2, oU] []) s₁ (entryFrame m #[(.ref t1), (.ref t2)] 3) := fun t k => castTop (by first | (simp [entryFrame, mkF, argsToLocals, Value.category]; done) | rfl) k
  have pre12 : oL p e below s₁ (mkF m 1 #[oR t1, oR t2, oU] [ow t1]) s₁ (entryFrame m #[(.ref t1), (.ref t2)] 3) := fun t k => pre0 t (by
    refine XS.aloadN X0.here hx rfl (hb hby d10_0) rfl rfl ?_
    exact k)
  obtain ⟨cl11, Ar11, -, Sz11, Nn11, -, -⟩ := id V1
  have pre14 : oL p e below s₁ (mkF m 3 #[oR t1, oR t2, oU] [ow t2, oi 3]) s₁ (entryFrame m #[(.ref t1), (.ref t2)] 3) := fun t k => pre12 t (by
    refine X0.arraylength hx (by rw [e0]; exact Ar11.1) (State.isArrayOf_alike hZ.alike Ar11.2.1) (g := (mkF m 1 #[oR t1, oR t2, oU] [ow t1])) rfl rfl (hb hby d10_1) _ ?_
    rw [len_of Sz11 Nn11]
    refine XS.aloadN X0.here hx rfl (hb hby d10_2) rfl rfl ?_
    exact k)
  obtain ⟨cl13, Ar13, -, Sz13, Nn13, -, -⟩ := id V2
  have pre15 : oL p e below s₁ (mkF m 35 #[oR t1, oR t2, oU] [oi 0]) s₁ (entryFrame m #[(.ref t1), (.ref t2)] 3) := fun t k => pre14 t (by
    refine X0.arraylength hx (by rw [e0]; exact Ar13.1) (State.isArrayOf_alike hZ.alike Ar13.2.1) (g := (mkF m 3 #[oR t1, oR t2, oU] [ow t2, oi 3])) rfl rfl (hb hby d10_3) _ ?_
    rw [len_of Sz13 Nn13]
    show oS p e below s₁ (mkF m 4 #[oR t1, oR t2, oU] [oi 0, oi 3]) _
    refine XS.icmpYes X0.here hx rfl (pc0 := 4) (pc' := 34) rfl (hb hby d10_4) rfl (feq (by decide : ¬ ((3 : Int32) = (0 : Int32)))).2 (by decide) (by decide) ?_
    refine XS.iconst X0.here hx rfl (hb hby d10_34) ?_
    exact k)
  obtain ⟨fs, hr, hrun, hended, hW, hsame⟩ := X0.leave (v := some (.int (0 : Int32))) (fun h => by rw [Bd.returns] at h; cases h)
  refine ⟨_, _, pre15 _ ?_, hrun, hended, _, _, rfl, ?_, ⟨_, rfl⟩, hW, hsame.mono (by decide) (by decide)⟩
  ·
    show oS p e below s₁ (mkF m 35 #[oR t1, oR t2, oU] [oi 0]) _
    exact retN X0 hx (t := .boolean) Bd.returns (by simp) (hb hby d10_35) hr
  ·
    show Q_rm_el3 Z t1 k1 v1 t2 k2 h0 n0 _ s₁.heap _
    rw [e0]
    exact ⟨rfl, N0, rfl⟩
theorem d9_0 : decode jdk_42_method_66_code 0 = .ok (.aload_n 0, 1) := by decide +kernel
theorem d9_1 : decode jdk_42_method_66_code 1 = .ok (.aload_n 1, 1) := by decide +kernel
theorem d9_2 : decode jdk_42_method_66_code 2 = .ok (.if_acmp .ne 5, 3) := by decide +kernel
theorem d9_5 : decode jdk_42_method_66_code 5 = .ok (.iconst 1, 1) := by decide +kernel
theorem d9_6 : decode jdk_42_method_66_code 6 = .ok (.ireturn, 1) := by decide +kernel
theorem d9_7 : decode jdk_42_method_66_code 7 = .ok (.aload_n 1, 1) := by decide +kernel
theorem d9_8 : decode jdk_42_method_66_code 8 = .ok (.instanceof 10, 3) := by decide +kernel
theorem d9_11 : decode jdk_42_method_66_code 11 = .ok (.ifCond .eq 43, 3) := by decide +kernel
theorem d9_14 : decode jdk_42_method_66_code 14 = .ok (.aload_n 1, 1) := by decide +kernel
theorem d9_15 : decode jdk_42_method_66_code 15 = .ok (.checkcast 10, 3) := by decide +kernel
theorem d9_18 : decode jdk_42_method_66_code 18 = .ok (.astore_n 2, 1) := by decide +kernel
theorem d9_19 : decode jdk_42_method_66_code 19 = .ok (.getstatic 38, 3) := by decide +kernel
theorem d9_22 : decode jdk_42_method_66_code 22 = .ok (.ifCond .eq 14, 3) := by decide +kernel
theorem d9_25 : decode jdk_42_method_66_code 25 = .ok (.aload_n 0, 1) := by decide +kernel
theorem d9_26 : decode jdk_42_method_66_code 26 = .ok (.getfield 15, 3) := by decide +kernel
theorem d9_29 : decode jdk_42_method_66_code 29 = .ok (.aload_n 2, 1) := by decide +kernel
theorem d9_30 : decode jdk_42_method_66_code 30 = .ok (.getfield 15, 3) := by decide +kernel
theorem d9_33 : decode jdk_42_method_66_code 33 = .ok (.if_icmp .ne 21, 3) := by decide +kernel
theorem d9_36 : decode jdk_42_method_66_code 36 = .ok (.aload_n 0, 1) := by decide +kernel
theorem d9_37 : decode jdk_42_method_66_code 37 = .ok (.getfield 9, 3) := by decide +kernel
theorem d9_40 : decode jdk_42_method_66_code 40 = .ok (.aload_n 2, 1) := by decide +kernel
theorem d9_41 : decode jdk_42_method_66_code 41 = .ok (.getfield 9, 3) := by decide +kernel
theorem d9_44 : decode jdk_42_method_66_code 44 = .ok (.invokestatic 541, 3) := by decide +kernel
theorem pd___B_B_Z : parseMethodDescriptor "([B[B)Z" = some ⟨[(.array .byte), (.array .byte)], some .boolean⟩ := by decide +kernel
theorem d9_47 : decode jdk_42_method_66_code 47 = .ok (.ifCond .eq 7, 3) := by decide +kernel
theorem d9_50 : decode jdk_42_method_66_code 50 = .ok (.iconst 1, 1) := by decide +kernel
theorem d9_51 : decode jdk_42_method_66_code 51 = .ok (.goto 4, 3) := by decide +kernel
theorem d9_55 : decode jdk_42_method_66_code 55 = .ok (.ireturn, 1) := by decide +kernel
def Q_rm_eqA (Z : State) (a1 : Addr) (t1 : Addr) (k1 : ClassId) (v1 : List Value) (a2 : Addr) (t2 : Addr) (k2 : ClassId) (G1 : Int32) (h0 : Heap) (n0 : Nat) (v : Option Value) (h : Heap) (L : List Loc) : Prop := v = some (.int (1 : Int32)) ∧ Fr n0 L ∧ h = h0
set_option maxRecDepth 65536 in
set_option maxHeartbeats 40000000 in
theorem rm_eqA (l : Launch) (Z : State) (a0 : Array Value) (hw : ∀ d ∈ tables_1, d.before a0 Z = true) (ws : List Jvm.Cond) (a1 : Addr) (t1 : Addr) (k1 : ClassId) (v1 : List Value) (a2 : Addr) (t2 : Addr) (k2 : ClassId) (G1 : Int32) (h0 : Heap) (n0 : Nat) (OL : Old Z n0 h0) (O2 : Sta Z Z.heap "java/lang/String" "COMPACT_STRINGS" "Z" (.int G1)) (P5 : ¬ (G1 = (0 : Int32))) (E1 : Exa Z h0 a1 "java/lang/String") (F1 : Fld Z h0 a1 "java/lang/String" "value" "[B" (.ref t1)) (C1 : Fld Z h0 a1 "java/lang/String" "coder" "B" (.int (0 : Int32))) (E2 : Exa Z h0 a2 "java/lang/String") (F2 : Fld Z h0 a2 "java/lang/String" "value" "[B" (.ref t2)) (C2 : Fld Z h0 a2 "java/lang/String" "coder" "B" (.int (0 : Int32))) (V2 : Arv Z h0 t2 k2 .byte (0 : Int32) [] (.int (0 : Int32))) (V1 : Arv Z h0 t1 k1 .byte (0 : Int32) v1 (.int (0 : Int32))) :
    MetFree l (⟨"java/lang/String", "equals", "(Ljava/lang/Object;)Z"⟩ : MethodName) (head1 (Jvm.Cond.code (⟨"java/lang/String", "equals", "(Ljava/lang/Object;)Z"⟩ : MethodName) jdk_42_method_66_code 3 (some .boolean) :: ws) ({ frames := 1, cells := 0, slots := 0, locals := 14 } : Room)) (fun a U => a = #[(.ref a1), (.ref a2)] ∧ Z.Warmed39 U.vm ∧ U.heap = h0) (fun _ _ _ _ _ => True) (fun _ U o U' => ∃ v L, o = .returned v ∧ Q_rm_eqA Z a1 t1 k1 v1 a2 t2 k2 G1 h0 n0 v U'.heap L ∧ FrameEnd U o U' L ({ frames := 1, cells := 0, slots := 0, locals := 14 } : Room).cells ({ frames := 1, cells := 0, slots := 0, locals := 14 } : Room).slots) := by
  refine MetFree.of_bodySF (plainFor_of_name pn_java_lang_String) hisR ?_
  intro p e s m args below meth c s₁ Bd hml0 hP hK
  obtain ⟨rfl, hZ, hh⟩ := hP
  have hx := Bd.exec
  have hby := Bd.bytes
  have hml : c.maxLocals = 3 := hml0
  have hown : s.vm.findClass "java/lang/String" = some m.cls := findClass_of_methodNamed Bd.named
  have hnm := (name_of_methodNamed Bd.named Bd.method).1
  have X0 : Stand p l e ({ frames := 1, cells := 0, slots := 0, locals := 14 } : Room) s m #[(.ref a1), (.ref a2)] below meth c s₁ [] 0 0 := Stand.of_body Bd
  have e0 : s₁.heap = h0 := by rw [← hh, Bd.state]; rfl
  have N0 := Fr.nil n0
  have pre0 : oL p e below s₁ (mkF m 0 #[oR a1, oR a2, oU] []) s₁ (entryFrame m #[(.ref a1), (.ref a2)] 3) := fun t k => castTop (by first | (simp [entryFrame, mkF, argsToLocals, Value.category]; done) | rfl) k
  have pre11 : oL p e below s₁ (mkF m 2 #[oR a1, oR a2, oU] [ow a2, ow a1]) s₁ (entryFrame m #[(.ref a1), (.ref a2)] 3) := fun t k => pre0 t (by
    refine XS.aloadN X0.here hx rfl (hb hby d9_0) rfl rfl ?_
    refine XS.aloadN X0.here hx rfl (hb hby d9_1) rfl rfl ?_
    exact k)
  by_cases hc12 : a1 = a2
  ·
    have pre13 : oL p e below s₁ (mkF m 6 #[oR a1, oR a2, oU] [oi 1]) s₁ (entryFrame m #[(.ref a1), (.ref a2)] 3) := fun t k => pre11 t (by
      refine Jvm.RoadKit.acmp (g := (mkF m 2 #[oR a1, oR a2, oU] [ow a2, ow a1])) X0 hx rfl rfl rfl (pc0 := 2) (pc' := 5) (same := true) rfl (hb hby d9_2) rfl (decide_eq_true (congrArg Value.ref hc12)) (by decide) (by decide) ?_
      refine XS.iconst X0.here hx rfl (hb hby d9_5) ?_
      show oS p e below s₁ (mkF m 6 #[oR a1, oR a2, oU] [oi 1]) _
      exact k)
    obtain ⟨fs, hr, hrun, hended, hW, hsame⟩ := X0.leave (v := some (.int (1 : Int32))) (fun h => by rw [Bd.returns] at h; cases h)
    refine ⟨_, _, pre13 _ ?_, hrun, hended, _, _, rfl, ?_, ⟨_, rfl⟩, hW, hsame.mono (by decide) (by decide)⟩
    ·
      show oS p e below s₁ (mkF m 6 #[oR a1, oR a2, oU] [oi 1]) _
      exact retN X0 hx (t := .boolean) Bd.returns (by simp) (hb hby d9_6) hr
    ·
      show Q_rm_eqA Z a1 t1 k1 v1 a2 t2 k2 G1 h0 n0 _ s₁.heap _
      rw [e0]
      exact ⟨rfl, N0, rfl⟩
  ·
    have pre14 : oL p e below s₁ (mkF m 8 #[oR a1, oR a2, oU] [ow a2]) s₁ (entryFrame m #[(.ref a1), (.ref a2)] 3) := fun t k => pre11 t (by
      refine Jvm.RoadKit.acmp (g := (mkF m 2 #[oR a1, oR a2, oU] [ow a2, ow a1])) X0 hx rfl rfl rfl (pc0 := 2) (pc' := 7) (same := false) rfl (hb hby d9_2) rfl (decide_eq_false fun q => hc12 (Value.ref.inj q)) (by decide) (by decide) ?_
      refine XS.aloadN X0.here hx rfl (hb hby d9_7) rfl rfl ?_
      show oS p e below s₁ (mkF m 8 #[oR a1, oR a2, oU] [ow a2]) _
      exact k)
    obtain ⟨T15, X15, e15, st15⟩ := instY X0 hx hZ hown (oW hw 54 rfl) e0 (Ins.self E2) (g := (mkF m 8 #[oR a1, oR a2, oU] [ow a2])) rfl rfl (hb hby d9_8)
    have pre16 : oL p e below T15 (mkF m 15 #[oR a1, oR a2, oU] [ow a2]) s₁ (entryFrame m #[(.ref a1), (.ref a2)] 3) := fun t k => pre14 t (by
      refine st15 _ ?_
      refine XS.ifNo X15.here hx rfl (hb hby d9_11) rfl ((if0 _ _).trans (feq (by decide : ¬ ((1 : Int32) = (0 : Int32)))).1) ?_
      refine XS.aloadN X15.here hx rfl (hb hby d9_14) rfl rfl ?_
      exact k)
    obtain ⟨T17, X17, e17, st17⟩ := castY X15 hx hZ hown (oW hw 54 rfl) e15 (Ins.self E2) (g := (mkF m 15 #[oR a1, oR a2, oU] [ow a2])) rfl rfl (hb hby d9_15)
    have pre18 : oL p e below T17 (mkF m 19 #[oR a1, oR a2, oR a2] []) s₁ (entryFrame m #[(.ref a1), (.ref a2)] 3) := fun t k => pre16 t (by
      refine st17 _ ?_
      show oS p e below T17 (mkF m 18 #[oR a1, oR a2, oU] [ow a2]) _
      refine XS.astoreN X17.here hx rfl (hb hby d9_18) rfl rfl (l' := #[oR a1, oR a2, oR a2]) rfl ?_
      exact k)
    obtain ⟨T19, X19, e19, st19⟩ := getS2 X17 hx hZ hown (host := "") (Or.inl (oW hw 21 rfl)) Via.refl e17 (O2.ext OL.2) (g := (mkF m 19 #[oR a1, oR a2, oR a2] [])) rfl (hb hby d9_19)
    have pre20 : oL p e below T19 (mkF m 26 #[oR a1, oR a2, oR a2] [ow a1]) s₁ (entryFrame m #[(.ref a1), (.ref a2)] 3) := fun t k => pre18 t (by
      refine st19 _ ?_
      refine XS.ifNo X19.here hx rfl (hb hby d9_22) rfl ((if0 _ _).trans (feq P5).1) ?_
      refine XS.aloadN X19.here hx rfl (hb hby d9_25) rfl rfl ?_
      show oS p e below T19 (mkF m 26 #[oR a1, oR a2, oR a2] [ow a1]) _
      exact k)
    obtain ⟨T21, X21, e21, st21⟩ := getF X19 hx hZ hown (host := "") (Or.inl (oW hw 33 rfl)) Via.refl e19 C1 (g := (mkF m 26 #[oR a1, oR a2, oR a2] [ow a1])) rfl rfl (hb hby d9_26)
    have pre22 : oL p e below T21 (mkF m 30 #[oR a1, oR a2, oR a2] [ow a2, oi 0]) s₁ (entryFrame m #[(.ref a1), (.ref a2)] 3) := fun t k => pre20 t (by
      refine st21 _ ?_
      refine XS.aloadN X21.here hx rfl (hb hby d9_29) rfl rfl ?_
      exact k)
    obtain ⟨T23, X23, e23, st23⟩ := getF X21 hx hZ hown (host := "") (Or.inl (oW hw 33 rfl)) Via.refl e21 C2 (g := (mkF m 30 #[oR a1, oR a2, oR a2] [ow a2, oi 0])) rfl rfl (hb hby d9_30)
    have pre24 : oL p e below T23 (mkF m 37 #[oR a1, oR a2, oR a2] [ow a1]) s₁ (entryFrame m #[(.ref a1), (.ref a2)] 3) := fun t k => pre22 t (by
      refine st23 _ ?_
      refine XS.icmpNo X23.here hx rfl (hb hby d9_33) rfl (teq (by decide : (0 : Int32) = (0 : Int32))).2 ?_
      show oS p e below T23 (mkF m 36 #[oR a1, oR a2, oR a2] []) _
      refine XS.aloadN X23.here hx rfl (hb hby d9_36) rfl rfl ?_
      exact k)
    obtain ⟨T25, X25, e25, st25⟩ := getF X23 hx hZ hown (host := "") (Or.inl (oW hw 35 rfl)) Via.refl e23 F1 (g := (mkF m 37 #[oR a1, oR a2, oR a2] [ow a1])) rfl rfl (hb hby d9_37)
    have pre26 : oL p e below T25 (mkF m 41 #[oR a1, oR a2, oR a2] [ow a2, ow t1]) s₁ (entryFrame m #[(.ref a1), (.ref a2)] 3) := fun t k => pre24 t (by
      refine st25 _ ?_
      refine XS.aloadN X25.here hx rfl (hb hby d9_40) rfl rfl ?_
      exact k)
    obtain ⟨T27, X27, e27, st27⟩ := getF X25 hx hZ hown (host := "") (Or.inl (oW hw 35 rfl)) Via.refl e25 F2 (g := (mkF m 41 #[oR a1, oR a2, oR a2] [ow a2, ow t1])) rfl rfl (hb hby d9_41)
    have pre28 : oL p e below T27 (mkF m 44 #[oR a1, oR a2, oR a2] [ow t2, ow t1]) s₁ (entryFrame m #[(.ref a1), (.ref a2)] 3) := fun t k => pre26 t (by
      refine st27 _ ?_
      show oS p e below T27 (mkF m 44 #[oR a1, oR a2, oR a2] [ow t2, ow t1]) _
      exact k)
    obtain ⟨_, _, ⟨T29, L29, k29, n29⟩, -, X29, ⟨Lc29, hQ29, l29, y29, z29⟩, st29⟩ := Jvm.LawKit.callS X27 hx (y := (⟨"java/lang/StringLatin1", "equals", "([B[B)Z"⟩ : MethodName)) hown (mvT hZ (oW hw 55 rfl)) (mvT hZ (oW hw 56 rfl)) (mvT hZ (oW hw 57 rfl)) (mvT hZ (oW hw 58 rfl)) (by decide) (backOf (W := 0) (rm_el0 l Z a0 hw [] t1 k1 v1 t2 k2 h0 n0 OL V1 V2) hZ (oW hw 58 rfl) (oW hw 57 rfl) (by decide) (by decide)) (g := (mkF m 44 #[oR a1, oR a2, oR a2] [ow t2, ow t1])) rfl (by rw [hml]; rfl) (argsL := [(.ref t1), (.ref t2)]) (rest := []) (lenOf pd___B_B_Z rfl) rfl (by show 2 * 0 + _ ≤ _; exact Nat.le_of_eq rfl) (hb hby d9_44) (fun _ _ => ⟨rfl, e27, (by decide : 0 + 0 ≤ _), (by decide : 0 + 0 ≤ _)⟩)
    dsimp only [Pt.U, Pt.locs, Pt.cells, Pt.slots] at X29 l29 y29 z29 st29 hQ29
    subst l29 y29 z29
    obtain ⟨rfl, N29q, e29⟩ := hQ29
    have N29 := Fr.app N0 N29q
    have pre30 : oL p e below T29 (mkF m 55 #[oR a1, oR a2, oR a2] [oi 1]) s₁ (entryFrame m #[(.ref a1), (.ref a2)] 3) := fun t k => pre28 t (by
      refine st29 _ ?_
      refine XS.ifNo X29.here hx rfl (hb hby d9_47) rfl ((if0 _ _).trans (feq (by decide : ¬ ((1 : Int32) = (0 : Int32)))).1) ?_
      refine XS.iconst X29.here hx rfl (hb hby d9_50) ?_
      refine XS.goto X29.here hx rfl (pc0 := 51) (pc' := 55) rfl (hb hby d9_51) (by decide) (by decide) ?_
      show oS p e below T29 (mkF m 55 #[oR a1, oR a2, oR a2] [oi 1]) _
      exact k)
    obtain ⟨fs, hr, hrun, hended, hW, hsame⟩ := X29.leave (v := some (.int (1 : Int32))) (fun h => by rw [Bd.returns] at h; cases h)
    refine ⟨_, _, pre30 _ ?_, hrun, hended, _, _, rfl, ?_, ⟨_, rfl⟩, hW, hsame.mono (by decide) (by decide)⟩
    ·
      show oS p e below T29 (mkF m 55 #[oR a1, oR a2, oR a2] [oi 1]) _
      exact retN X29 hx (t := .boolean) Bd.returns (by simp) (hb hby d9_55) hr
    ·
      show Q_rm_eqA Z a1 t1 k1 v1 a2 t2 k2 G1 h0 n0 _ T29.heap _
      rw [e29]
      exact ⟨rfl, N29, rfl⟩
theorem d9_54 : decode jdk_42_method_66_code 54 = .ok (.iconst 0, 1) := by decide +kernel
def Q_rm_eqB1 (Z : State) (a1 : Addr) (t1 : Addr) (k1 : ClassId) (v1 : List Value) (a2 : Addr) (t2 : Addr) (k2 : ClassId) (G1 : Int32) (h0 : Heap) (n0 : Nat) (v : Option Value) (h : Heap) (L : List Loc) : Prop := v = some (.int (0 : Int32)) ∧ Fr n0 L ∧ h = h0
set_option maxRecDepth 65536 in
set_option maxHeartbeats 40000000 in
theorem rm_eqB1 (l : Launch) (Z : State) (a0 : Array Value) (hw : ∀ d ∈ tables_1, d.before a0 Z = true) (ws : List Jvm.Cond) (a1 : Addr) (t1 : Addr) (k1 : ClassId) (v1 : List Value) (a2 : Addr) (t2 : Addr) (k2 : ClassId) (G1 : Int32) (h0 : Heap) (n0 : Nat) (OL : Old Z n0 h0) (O2 : Sta Z Z.heap "java/lang/String" "COMPACT_STRINGS" "Z" (.int G1)) (P5 : ¬ (G1 = (0 : Int32))) (E1 : Exa Z h0 a1 "java/lang/String") (F1 : Fld Z h0 a1 "java/lang/String" "value" "[B" (.ref t1)) (C1 : Fld Z h0 a1 "java/lang/String" "coder" "B" (.int (0 : Int32))) (E2 : Exa Z h0 a2 "java/lang/String") (F2 : Fld Z h0 a2 "java/lang/String" "value" "[B" (.ref t2)) (C2 : Fld Z h0 a2 "java/lang/String" "coder" "B" (.int (0 : Int32))) (V2 : Arv Z h0 t2 k2 .byte (0 : Int32) [] (.int (0 : Int32))) (V1 : Arv Z h0 t1 k1 .byte (1 : Int32) v1 (.int (0 : Int32))) (ne1 : ¬ (a1 = a2)) :
    MetFree l (⟨"java/lang/String", "equals", "(Ljava/lang/Object;)Z"⟩ : MethodName) (head1 (Jvm.Cond.code (⟨"java/lang/String", "equals", "(Ljava/lang/Object;)Z"⟩ : MethodName) jdk_42_method_66_code 3 (some .boolean) :: ws) ({ frames := 1, cells := 0, slots := 0, locals := 14 } : Room)) (fun a U => a = #[(.ref a1), (.ref a2)] ∧ Z.Warmed39 U.vm ∧ U.heap = h0) (fun _ _ _ _ _ => True) (fun _ U o U' => ∃ v L, o = .returned v ∧ Q_rm_eqB1 Z a1 t1 k1 v1 a2 t2 k2 G1 h0 n0 v U'.heap L ∧ FrameEnd U o U' L ({ frames := 1, cells := 0, slots := 0, locals := 14 } : Room).cells ({ frames := 1, cells := 0, slots := 0, locals := 14 } : Room).slots) := by
  refine MetFree.of_bodySF (plainFor_of_name pn_java_lang_String) hisR ?_
  intro p e s m args below meth c s₁ Bd hml0 hP hK
  obtain ⟨rfl, hZ, hh⟩ := hP
  have hx := Bd.exec
  have hby := Bd.bytes
  have hml : c.maxLocals = 3 := hml0
  have hown : s.vm.findClass "java/lang/String" = some m.cls := findClass_of_methodNamed Bd.named
  have hnm := (name_of_methodNamed Bd.named Bd.method).1
  have X0 : Stand p l e ({ frames := 1, cells := 0, slots := 0, locals := 14 } : Room) s m #[(.ref a1), (.ref a2)] below meth c s₁ [] 0 0 := Stand.of_body Bd
  have e0 : s₁.heap = h0 := by rw [← hh, Bd.state]; rfl
  have N0 := Fr.nil n0
  have pre0 : oL p e below s₁ (mkF m 0 #[oR a1, oR a2, oU] []) s₁ (entryFrame m #[(.ref a1), (.ref a2)] 3) := fun t k => castTop (by first | (simp [entryFrame, mkF, argsToLocals, Value.category]; done) | rfl) k
  have pre11 : oL p e below s₁ (mkF m 8 #[oR a1, oR a2, oU] [ow a2]) s₁ (entryFrame m #[(.ref a1), (.ref a2)] 3) := fun t k => pre0 t (by
    refine XS.aloadN X0.here hx rfl (hb hby d9_0) rfl rfl ?_
    refine XS.aloadN X0.here hx rfl (hb hby d9_1) rfl rfl ?_
    refine Jvm.RoadKit.acmp (g := (mkF m 2 #[oR a1, oR a2, oU] [ow a2, ow a1])) X0 hx rfl rfl rfl (pc0 := 2) (pc' := 7) (same := false) rfl (hb hby d9_2) rfl (decide_eq_false fun q => ne1 (Value.ref.inj q)) (by decide) (by decide) ?_
    refine XS.aloadN X0.here hx rfl (hb hby d9_7) rfl rfl ?_
    show oS p e below s₁ (mkF m 8 #[oR a1, oR a2, oU] [ow a2]) _
    exact k)
  obtain ⟨T12, X12, e12, st12⟩ := instY X0 hx hZ hown (oW hw 54 rfl) e0 (Ins.self E2) (g := (mkF m 8 #[oR a1, oR a2, oU] [ow a2])) rfl rfl (hb hby d9_8)
  have pre13 : oL p e below T12 (mkF m 15 #[oR a1, oR a2, oU] [ow a2]) s₁ (entryFrame m #[(.ref a1), (.ref a2)] 3) := fun t k => pre11 t (by
    refine st12 _ ?_
    refine XS.ifNo X12.here hx rfl (hb hby d9_11) rfl ((if0 _ _).trans (feq (by decide : ¬ ((1 : Int32) = (0 : Int32)))).1) ?_
    refine XS.aloadN X12.here hx rfl (hb hby d9_14) rfl rfl ?_
    exact k)
  obtain ⟨T14, X14, e14, st14⟩ := castY X12 hx hZ hown (oW hw 54 rfl) e12 (Ins.self E2) (g := (mkF m 15 #[oR a1, oR a2, oU] [ow a2])) rfl rfl (hb hby d9_15)
  have pre15 : oL p e below T14 (mkF m 19 #[oR a1, oR a2, oR a2] []) s₁ (entryFrame m #[(.ref a1), (.ref a2)] 3) := fun t k => pre13 t (by
    refine st14 _ ?_
    show oS p e below T14 (mkF m 18 #[oR a1, oR a2, oU] [ow a2]) _
    refine XS.astoreN X14.here hx rfl (hb hby d9_18) rfl rfl (l' := #[oR a1, oR a2, oR a2]) rfl ?_
    exact k)
  obtain ⟨T16, X16, e16, st16⟩ := getS2 X14 hx hZ hown (host := "") (Or.inl (oW hw 21 rfl)) Via.refl e14 (O2.ext OL.2) (g := (mkF m 19 #[oR a1, oR a2, oR a2] [])) rfl (hb hby d9_19)
  have pre17 : oL p e below T16 (mkF m 26 #[oR a1, oR a2, oR a2] [ow a1]) s₁ (entryFrame m #[(.ref a1), (.ref a2)] 3) := fun t k => pre15 t (by
    refine st16 _ ?_
    refine XS.ifNo X16.here hx rfl (hb hby d9_22) rfl ((if0 _ _).trans (feq P5).1) ?_
    refine XS.aloadN X16.here hx rfl (hb hby d9_25) rfl rfl ?_
    show oS p e below T16 (mkF m 26 #[oR a1, oR a2, oR a2] [ow a1]) _
    exact k)
  obtain ⟨T18, X18, e18, st18⟩ := getF X16 hx hZ hown (host := "") (Or.inl (oW hw 33 rfl)) Via.refl e16 C1 (g := (mkF m 26 #[oR a1, oR a2, oR a2] [ow a1])) rfl rfl (hb hby d9_26)
  have pre19 : oL p e below T18 (mkF m 30 #[oR a1, oR a2, oR a2] [ow a2, oi 0]) s₁ (entryFrame m #[(.ref a1), (.ref a2)] 3) := fun t k => pre17 t (by
    refine st18 _ ?_
    refine XS.aloadN X18.here hx rfl (hb hby d9_29) rfl rfl ?_
    exact k)
  obtain ⟨T20, X20, e20, st20⟩ := getF X18 hx hZ hown (host := "") (Or.inl (oW hw 33 rfl)) Via.refl e18 C2 (g := (mkF m 30 #[oR a1, oR a2, oR a2] [ow a2, oi 0])) rfl rfl (hb hby d9_30)
  have pre21 : oL p e below T20 (mkF m 37 #[oR a1, oR a2, oR a2] [ow a1]) s₁ (entryFrame m #[(.ref a1), (.ref a2)] 3) := fun t k => pre19 t (by
    refine st20 _ ?_
    refine XS.icmpNo X20.here hx rfl (hb hby d9_33) rfl (teq (by decide : (0 : Int32) = (0 : Int32))).2 ?_
    show oS p e below T20 (mkF m 36 #[oR a1, oR a2, oR a2] []) _
    refine XS.aloadN X20.here hx rfl (hb hby d9_36) rfl rfl ?_
    exact k)
  obtain ⟨T22, X22, e22, st22⟩ := getF X20 hx hZ hown (host := "") (Or.inl (oW hw 35 rfl)) Via.refl e20 F1 (g := (mkF m 37 #[oR a1, oR a2, oR a2] [ow a1])) rfl rfl (hb hby d9_37)
  have pre23 : oL p e below T22 (mkF m 41 #[oR a1, oR a2, oR a2] [ow a2, ow t1]) s₁ (entryFrame m #[(.ref a1), (.ref a2)] 3) := fun t k => pre21 t (by
    refine st22 _ ?_
    refine XS.aloadN X22.here hx rfl (hb hby d9_40) rfl rfl ?_
    exact k)
  obtain ⟨T24, X24, e24, st24⟩ := getF X22 hx hZ hown (host := "") (Or.inl (oW hw 35 rfl)) Via.refl e22 F2 (g := (mkF m 41 #[oR a1, oR a2, oR a2] [ow a2, ow t1])) rfl rfl (hb hby d9_41)
  have pre25 : oL p e below T24 (mkF m 44 #[oR a1, oR a2, oR a2] [ow t2, ow t1]) s₁ (entryFrame m #[(.ref a1), (.ref a2)] 3) := fun t k => pre23 t (by
    refine st24 _ ?_
    show oS p e below T24 (mkF m 44 #[oR a1, oR a2, oR a2] [ow t2, ow t1]) _
    exact k)
  obtain ⟨_, _, ⟨T26, L26, k26, n26⟩, -, X26, ⟨Lc26, hQ26, l26, y26, z26⟩, st26⟩ := Jvm.LawKit.callS X24 hx (y := (⟨"java/lang/StringLatin1", "equals", "([B[B)Z"⟩ : MethodName)) hown (mvT hZ (oW hw 55 rfl)) (mvT hZ (oW hw 56 rfl)) (mvT hZ (oW hw 57 rfl)) (mvT hZ (oW hw 58 rfl)) (by decide) (backOf (W := 0) (rm_el1 l Z a0 hw [] t1 k1 v1 t2 k2 h0 n0 OL V1 V2) hZ (oW hw 58 rfl) (oW hw 57 rfl) (by decide) (by decide)) (g := (mkF m 44 #[oR a1, oR a2, oR a2] [ow t2, ow t1])) rfl (by rw [hml]; rfl) (argsL := [(.ref t1), (.ref t2)]) (rest := []) (lenOf pd___B_B_Z rfl) rfl (by show 2 * 0 + _ ≤ _; exact Nat.le_of_eq rfl) (hb hby d9_44) (fun _ _ => ⟨rfl, e24, (by decide : 0 + 0 ≤ _), (by decide : 0 + 0 ≤ _)⟩)
  dsimp only [Pt.U, Pt.locs, Pt.cells, Pt.slots] at X26 l26 y26 z26 st26 hQ26
  subst l26 y26 z26
  obtain ⟨rfl, N26q, e26⟩ := hQ26
  have N26 := Fr.app N0 N26q
  have pre27 : oL p e below T26 (mkF m 55 #[oR a1, oR a2, oR a2] [oi 0]) s₁ (entryFrame m #[(.ref a1), (.ref a2)] 3) := fun t k => pre25 t (by
    refine st26 _ ?_
    refine XS.ifYes X26.here hx rfl (pc0 := 47) (pc' := 54) rfl (hb hby d9_47) rfl ((if0 _ _).trans (teq (by decide : (0 : Int32) = (0 : Int32))).1) (by decide) (by decide) ?_
    refine XS.iconst X26.here hx rfl (hb hby d9_54) ?_
    exact k)
  obtain ⟨fs, hr, hrun, hended, hW, hsame⟩ := X26.leave (v := some (.int (0 : Int32))) (fun h => by rw [Bd.returns] at h; cases h)
  refine ⟨_, _, pre27 _ ?_, hrun, hended, _, _, rfl, ?_, ⟨_, rfl⟩, hW, hsame.mono (by decide) (by decide)⟩
  ·
    show oS p e below T26 (mkF m 55 #[oR a1, oR a2, oR a2] [oi 0]) _
    exact retN X26 hx (t := .boolean) Bd.returns (by simp) (hb hby d9_55) hr
  ·
    show Q_rm_eqB1 Z a1 t1 k1 v1 a2 t2 k2 G1 h0 n0 _ T26.heap _
    rw [e26]
    exact ⟨rfl, N26, rfl⟩
def Q_rm_eqB2 (Z : State) (a1 : Addr) (t1 : Addr) (k1 : ClassId) (v1 : List Value) (a2 : Addr) (t2 : Addr) (k2 : ClassId) (G1 : Int32) (h0 : Heap) (n0 : Nat) (v : Option Value) (h : Heap) (L : List Loc) : Prop := v = some (.int (0 : Int32)) ∧ Fr n0 L ∧ h = h0
set_option maxRecDepth 65536 in
set_option maxHeartbeats 40000000 in
theorem rm_eqB2 (l : Launch) (Z : State) (a0 : Array Value) (hw : ∀ d ∈ tables_1, d.before a0 Z = true) (ws : List Jvm.Cond) (a1 : Addr) (t1 : Addr) (k1 : ClassId) (v1 : List Value) (a2 : Addr) (t2 : Addr) (k2 : ClassId) (G1 : Int32) (h0 : Heap) (n0 : Nat) (OL : Old Z n0 h0) (O2 : Sta Z Z.heap "java/lang/String" "COMPACT_STRINGS" "Z" (.int G1)) (P5 : ¬ (G1 = (0 : Int32))) (E1 : Exa Z h0 a1 "java/lang/String") (F1 : Fld Z h0 a1 "java/lang/String" "value" "[B" (.ref t1)) (C1 : Fld Z h0 a1 "java/lang/String" "coder" "B" (.int (0 : Int32))) (E2 : Exa Z h0 a2 "java/lang/String") (F2 : Fld Z h0 a2 "java/lang/String" "value" "[B" (.ref t2)) (C2 : Fld Z h0 a2 "java/lang/String" "coder" "B" (.int (0 : Int32))) (V2 : Arv Z h0 t2 k2 .byte (0 : Int32) [] (.int (0 : Int32))) (V1 : Arv Z h0 t1 k1 .byte (2 : Int32) v1 (.int (0 : Int32))) (ne1 : ¬ (a1 = a2)) :
    MetFree l (⟨"java/lang/String", "equals", "(Ljava/lang/Object;)Z"⟩ : MethodName) (head1 (Jvm.Cond.code (⟨"java/lang/String", "equals", "(Ljava/lang/Object;)Z"⟩ : MethodName) jdk_42_method_66_code 3 (some .boolean) :: ws) ({ frames := 1, cells := 0, slots := 0, locals := 14 } : Room)) (fun a U => a = #[(.ref a1), (.ref a2)] ∧ Z.Warmed39 U.vm ∧ U.heap = h0) (fun _ _ _ _ _ => True) (fun _ U o U' => ∃ v L, o = .returned v ∧ Q_rm_eqB2 Z a1 t1 k1 v1 a2 t2 k2 G1 h0 n0 v U'.heap L ∧ FrameEnd U o U' L ({ frames := 1, cells := 0, slots := 0, locals := 14 } : Room).cells ({ frames := 1, cells := 0, slots := 0, locals := 14 } : Room).slots) := by
  refine MetFree.of_bodySF (plainFor_of_name pn_java_lang_String) hisR ?_
  intro p e s m args below meth c s₁ Bd hml0 hP hK
  obtain ⟨rfl, hZ, hh⟩ := hP
  have hx := Bd.exec
  have hby := Bd.bytes
  have hml : c.maxLocals = 3 := hml0
  have hown : s.vm.findClass "java/lang/String" = some m.cls := findClass_of_methodNamed Bd.named
  have hnm := (name_of_methodNamed Bd.named Bd.method).1
  have X0 : Stand p l e ({ frames := 1, cells := 0, slots := 0, locals := 14 } : Room) s m #[(.ref a1), (.ref a2)] below meth c s₁ [] 0 0 := Stand.of_body Bd
  have e0 : s₁.heap = h0 := by rw [← hh, Bd.state]; rfl
  have N0 := Fr.nil n0
  have pre0 : oL p e below s₁ (mkF m 0 #[oR a1, oR a2, oU] []) s₁ (entryFrame m #[(.ref a1), (.ref a2)] 3) := fun t k => castTop (by first | (simp [entryFrame, mkF, argsToLocals, Value.category]; done) | rfl) k
  have pre11 : oL p e below s₁ (mkF m 8 #[oR a1, oR a2, oU] [ow a2]) s₁ (entryFrame m #[(.ref a1), (.ref a2)] 3) := fun t k => pre0 t (by
    refine XS.aloadN X0.here hx rfl (hb hby d9_0) rfl rfl ?_
    refine XS.aloadN X0.here hx rfl (hb hby d9_1) rfl rfl ?_
    refine Jvm.RoadKit.acmp (g := (mkF m 2 #[oR a1, oR a2, oU] [ow a2, ow a1])) X0 hx rfl rfl rfl (pc0 := 2) (pc' := 7) (same := false) rfl (hb hby d9_2) rfl (decide_eq_false fun q => ne1 (Value.ref.inj q)) (by decide) (by decide) ?_
    refine XS.aloadN X0.here hx rfl (hb hby d9_7) rfl rfl ?_
    show oS p e below s₁ (mkF m 8 #[oR a1, oR a2, oU] [ow a2]) _
    exact k)
  obtain ⟨T12, X12, e12, st12⟩ := instY X0 hx hZ hown (oW hw 54 rfl) e0 (Ins.self E2) (g := (mkF m 8 #[oR a1, oR a2, oU] [ow a2])) rfl rfl (hb hby d9_8)
  have pre13 : oL p e below T12 (mkF m 15 #[oR a1, oR a2, oU] [ow a2]) s₁ (entryFrame m #[(.ref a1), (.ref a2)] 3) := fun t k => pre11 t (by
    refine st12 _ ?_
    refine XS.ifNo X12.here hx rfl (hb hby d9_11) rfl ((if0 _ _).trans (feq (by decide : ¬ ((1 : Int32) = (0 : Int32)))).1) ?_
    refine XS.aloadN X12.here hx rfl (hb hby d9_14) rfl rfl ?_
    exact k)
  obtain ⟨T14, X14, e14, st14⟩ := castY X12 hx hZ hown (oW hw 54 rfl) e12 (Ins.self E2) (g := (mkF m 15 #[oR a1, oR a2, oU] [ow a2])) rfl rfl (hb hby d9_15)
  have pre15 : oL p e below T14 (mkF m 19 #[oR a1, oR a2, oR a2] []) s₁ (entryFrame m #[(.ref a1), (.ref a2)] 3) := fun t k => pre13 t (by
    refine st14 _ ?_
    show oS p e below T14 (mkF m 18 #[oR a1, oR a2, oU] [ow a2]) _
    refine XS.astoreN X14.here hx rfl (hb hby d9_18) rfl rfl (l' := #[oR a1, oR a2, oR a2]) rfl ?_
    exact k)
  obtain ⟨T16, X16, e16, st16⟩ := getS2 X14 hx hZ hown (host := "") (Or.inl (oW hw 21 rfl)) Via.refl e14 (O2.ext OL.2) (g := (mkF m 19 #[oR a1, oR a2, oR a2] [])) rfl (hb hby d9_19)
  have pre17 : oL p e below T16 (mkF m 26 #[oR a1, oR a2, oR a2] [ow a1]) s₁ (entryFrame m #[(.ref a1), (.ref a2)] 3) := fun t k => pre15 t (by
    refine st16 _ ?_
    refine XS.ifNo X16.here hx rfl (hb hby d9_22) rfl ((if0 _ _).trans (feq P5).1) ?_
    refine XS.aloadN X16.here hx rfl (hb hby d9_25) rfl rfl ?_
    show oS p e below T16 (mkF m 26 #[oR a1, oR a2, oR a2] [ow a1]) _
    exact k)
  obtain ⟨T18, X18, e18, st18⟩ := getF X16 hx hZ hown (host := "") (Or.inl (oW hw 33 rfl)) Via.refl e16 C1 (g := (mkF m 26 #[oR a1, oR a2, oR a2] [ow a1])) rfl rfl (hb hby d9_26)
  have pre19 : oL p e below T18 (mkF m 30 #[oR a1, oR a2, oR a2] [ow a2, oi 0]) s₁ (entryFrame m #[(.ref a1), (.ref a2)] 3) := fun t k => pre17 t (by
    refine st18 _ ?_
    refine XS.aloadN X18.here hx rfl (hb hby d9_29) rfl rfl ?_
    exact k)
  obtain ⟨T20, X20, e20, st20⟩ := getF X18 hx hZ hown (host := "") (Or.inl (oW hw 33 rfl)) Via.refl e18 C2 (g := (mkF m 30 #[oR a1, oR a2, oR a2] [ow a2, oi 0])) rfl rfl (hb hby d9_30)
  have pre21 : oL p e below T20 (mkF m 37 #[oR a1, oR a2, oR a2] [ow a1]) s₁ (entryFrame m #[(.ref a1), (.ref a2)] 3) := fun t k => pre19 t (by
    refine st20 _ ?_
    refine XS.icmpNo X20.here hx rfl (hb hby d9_33) rfl (teq (by decide : (0 : Int32) = (0 : Int32))).2 ?_
    show oS p e below T20 (mkF m 36 #[oR a1, oR a2, oR a2] []) _
    refine XS.aloadN X20.here hx rfl (hb hby d9_36) rfl rfl ?_
    exact k)
  obtain ⟨T22, X22, e22, st22⟩ := getF X20 hx hZ hown (host := "") (Or.inl (oW hw 35 rfl)) Via.refl e20 F1 (g := (mkF m 37 #[oR a1, oR a2, oR a2] [ow a1])) rfl rfl (hb hby d9_37)
  have pre23 : oL p e below T22 (mkF m 41 #[oR a1, oR a2, oR a2] [ow a2, ow t1]) s₁ (entryFrame m #[(.ref a1), (.ref a2)] 3) := fun t k => pre21 t (by
    refine st22 _ ?_
    refine XS.aloadN X22.here hx rfl (hb hby d9_40) rfl rfl ?_
    exact k)
  obtain ⟨T24, X24, e24, st24⟩ := getF X22 hx hZ hown (host := "") (Or.inl (oW hw 35 rfl)) Via.refl e22 F2 (g := (mkF m 41 #[oR a1, oR a2, oR a2] [ow a2, ow t1])) rfl rfl (hb hby d9_41)
  have pre25 : oL p e below T24 (mkF m 44 #[oR a1, oR a2, oR a2] [ow t2, ow t1]) s₁ (entryFrame m #[(.ref a1), (.ref a2)] 3) := fun t k => pre23 t (by
    refine st24 _ ?_
    show oS p e below T24 (mkF m 44 #[oR a1, oR a2, oR a2] [ow t2, ow t1]) _
    exact k)
  obtain ⟨_, _, ⟨T26, L26, k26, n26⟩, -, X26, ⟨Lc26, hQ26, l26, y26, z26⟩, st26⟩ := Jvm.LawKit.callS X24 hx (y := (⟨"java/lang/StringLatin1", "equals", "([B[B)Z"⟩ : MethodName)) hown (mvT hZ (oW hw 55 rfl)) (mvT hZ (oW hw 56 rfl)) (mvT hZ (oW hw 57 rfl)) (mvT hZ (oW hw 58 rfl)) (by decide) (backOf (W := 0) (rm_el2 l Z a0 hw [] t1 k1 v1 t2 k2 h0 n0 OL V1 V2) hZ (oW hw 58 rfl) (oW hw 57 rfl) (by decide) (by decide)) (g := (mkF m 44 #[oR a1, oR a2, oR a2] [ow t2, ow t1])) rfl (by rw [hml]; rfl) (argsL := [(.ref t1), (.ref t2)]) (rest := []) (lenOf pd___B_B_Z rfl) rfl (by show 2 * 0 + _ ≤ _; exact Nat.le_of_eq rfl) (hb hby d9_44) (fun _ _ => ⟨rfl, e24, (by decide : 0 + 0 ≤ _), (by decide : 0 + 0 ≤ _)⟩)
  dsimp only [Pt.U, Pt.locs, Pt.cells, Pt.slots] at X26 l26 y26 z26 st26 hQ26
  subst l26 y26 z26
  obtain ⟨rfl, N26q, e26⟩ := hQ26
  have N26 := Fr.app N0 N26q
  have pre27 : oL p e below T26 (mkF m 55 #[oR a1, oR a2, oR a2] [oi 0]) s₁ (entryFrame m #[(.ref a1), (.ref a2)] 3) := fun t k => pre25 t (by
    refine st26 _ ?_
    refine XS.ifYes X26.here hx rfl (pc0 := 47) (pc' := 54) rfl (hb hby d9_47) rfl ((if0 _ _).trans (teq (by decide : (0 : Int32) = (0 : Int32))).1) (by decide) (by decide) ?_
    refine XS.iconst X26.here hx rfl (hb hby d9_54) ?_
    exact k)
  obtain ⟨fs, hr, hrun, hended, hW, hsame⟩ := X26.leave (v := some (.int (0 : Int32))) (fun h => by rw [Bd.returns] at h; cases h)
  refine ⟨_, _, pre27 _ ?_, hrun, hended, _, _, rfl, ?_, ⟨_, rfl⟩, hW, hsame.mono (by decide) (by decide)⟩
  ·
    show oS p e below T26 (mkF m 55 #[oR a1, oR a2, oR a2] [oi 0]) _
    exact retN X26 hx (t := .boolean) Bd.returns (by simp) (hb hby d9_55) hr
  ·
    show Q_rm_eqB2 Z a1 t1 k1 v1 a2 t2 k2 G1 h0 n0 _ T26.heap _
    rw [e26]
    exact ⟨rfl, N26, rfl⟩
def Q_rm_eqB3 (Z : State) (a1 : Addr) (t1 : Addr) (k1 : ClassId) (v1 : List Value) (a2 : Addr) (t2 : Addr) (k2 : ClassId) (G1 : Int32) (h0 : Heap) (n0 : Nat) (v : Option Value) (h : Heap) (L : List Loc) : Prop := v = some (.int (0 : Int32)) ∧ Fr n0 L ∧ h = h0
set_option maxRecDepth 65536 in
set_option maxHeartbeats 40000000 in
theorem rm_eqB3 (l : Launch) (Z : State) (a0 : Array Value) (hw : ∀ d ∈ tables_1, d.before a0 Z = true) (ws : List Jvm.Cond) (a1 : Addr) (t1 : Addr) (k1 : ClassId) (v1 : List Value) (a2 : Addr) (t2 : Addr) (k2 : ClassId) (G1 : Int32) (h0 : Heap) (n0 : Nat) (OL : Old Z n0 h0) (O2 : Sta Z Z.heap "java/lang/String" "COMPACT_STRINGS" "Z" (.int G1)) (P5 : ¬ (G1 = (0 : Int32))) (E1 : Exa Z h0 a1 "java/lang/String") (F1 : Fld Z h0 a1 "java/lang/String" "value" "[B" (.ref t1)) (C1 : Fld Z h0 a1 "java/lang/String" "coder" "B" (.int (0 : Int32))) (E2 : Exa Z h0 a2 "java/lang/String") (F2 : Fld Z h0 a2 "java/lang/String" "value" "[B" (.ref t2)) (C2 : Fld Z h0 a2 "java/lang/String" "coder" "B" (.int (0 : Int32))) (V2 : Arv Z h0 t2 k2 .byte (0 : Int32) [] (.int (0 : Int32))) (V1 : Arv Z h0 t1 k1 .byte (3 : Int32) v1 (.int (0 : Int32))) (ne1 : ¬ (a1 = a2)) :
    MetFree l (⟨"java/lang/String", "equals", "(Ljava/lang/Object;)Z"⟩ : MethodName) (head1 (Jvm.Cond.code (⟨"java/lang/String", "equals", "(Ljava/lang/Object;)Z"⟩ : MethodName) jdk_42_method_66_code 3 (some .boolean) :: ws) ({ frames := 1, cells := 0, slots := 0, locals := 14 } : Room)) (fun a U => a = #[(.ref a1), (.ref a2)] ∧ Z.Warmed39 U.vm ∧ U.heap = h0) (fun _ _ _ _ _ => True) (fun _ U o U' => ∃ v L, o = .returned v ∧ Q_rm_eqB3 Z a1 t1 k1 v1 a2 t2 k2 G1 h0 n0 v U'.heap L ∧ FrameEnd U o U' L ({ frames := 1, cells := 0, slots := 0, locals := 14 } : Room).cells ({ frames := 1, cells := 0, slots := 0, locals := 14 } : Room).slots) := by
  refine MetFree.of_bodySF (plainFor_of_name pn_java_lang_String) hisR ?_
  intro p e s m args below meth c s₁ Bd hml0 hP hK
  obtain ⟨rfl, hZ, hh⟩ := hP
  have hx := Bd.exec
  have hby := Bd.bytes
  have hml : c.maxLocals = 3 := hml0
  have hown : s.vm.findClass "java/lang/String" = some m.cls := findClass_of_methodNamed Bd.named
  have hnm := (name_of_methodNamed Bd.named Bd.method).1
  have X0 : Stand p l e ({ frames := 1, cells := 0, slots := 0, locals := 14 } : Room) s m #[(.ref a1), (.ref a2)] below meth c s₁ [] 0 0 := Stand.of_body Bd
  have e0 : s₁.heap = h0 := by rw [← hh, Bd.state]; rfl
  have N0 := Fr.nil n0
  have pre0 : oL p e below s₁ (mkF m 0 #[oR a1, oR a2, oU] []) s₁ (entryFrame m #[(.ref a1), (.ref a2)] 3) := fun t k => castTop (by first | (simp [entryFrame, mkF, argsToLocals, Value.category]; done) | rfl) k
  have pre11 : oL p e below s₁ (mkF m 8 #[oR a1, oR a2, oU] [ow a2]) s₁ (entryFrame m #[(.ref a1), (.ref a2)] 3) := fun t k => pre0 t (by
    refine XS.aloadN X0.here hx rfl (hb hby d9_0) rfl rfl ?_
    refine XS.aloadN X0.here hx rfl (hb hby d9_1) rfl rfl ?_
    refine Jvm.RoadKit.acmp (g := (mkF m 2 #[oR a1, oR a2, oU] [ow a2, ow a1])) X0 hx rfl rfl rfl (pc0 := 2) (pc' := 7) (same := false) rfl (hb hby d9_2) rfl (decide_eq_false fun q => ne1 (Value.ref.inj q)) (by decide) (by decide) ?_
    refine XS.aloadN X0.here hx rfl (hb hby d9_7) rfl rfl ?_
    show oS p e below s₁ (mkF m 8 #[oR a1, oR a2, oU] [ow a2]) _
    exact k)
  obtain ⟨T12, X12, e12, st12⟩ := instY X0 hx hZ hown (oW hw 54 rfl) e0 (Ins.self E2) (g := (mkF m 8 #[oR a1, oR a2, oU] [ow a2])) rfl rfl (hb hby d9_8)
  have pre13 : oL p e below T12 (mkF m 15 #[oR a1, oR a2, oU] [ow a2]) s₁ (entryFrame m #[(.ref a1), (.ref a2)] 3) := fun t k => pre11 t (by
    refine st12 _ ?_
    refine XS.ifNo X12.here hx rfl (hb hby d9_11) rfl ((if0 _ _).trans (feq (by decide : ¬ ((1 : Int32) = (0 : Int32)))).1) ?_
    refine XS.aloadN X12.here hx rfl (hb hby d9_14) rfl rfl ?_
    exact k)
  obtain ⟨T14, X14, e14, st14⟩ := castY X12 hx hZ hown (oW hw 54 rfl) e12 (Ins.self E2) (g := (mkF m 15 #[oR a1, oR a2, oU] [ow a2])) rfl rfl (hb hby d9_15)
  have pre15 : oL p e below T14 (mkF m 19 #[oR a1, oR a2, oR a2] []) s₁ (entryFrame m #[(.ref a1), (.ref a2)] 3) := fun t k => pre13 t (by
    refine st14 _ ?_
    show oS p e below T14 (mkF m 18 #[oR a1, oR a2, oU] [ow a2]) _
    refine XS.astoreN X14.here hx rfl (hb hby d9_18) rfl rfl (l' := #[oR a1, oR a2, oR a2]) rfl ?_
    exact k)
  obtain ⟨T16, X16, e16, st16⟩ := getS2 X14 hx hZ hown (host := "") (Or.inl (oW hw 21 rfl)) Via.refl e14 (O2.ext OL.2) (g := (mkF m 19 #[oR a1, oR a2, oR a2] [])) rfl (hb hby d9_19)
  have pre17 : oL p e below T16 (mkF m 26 #[oR a1, oR a2, oR a2] [ow a1]) s₁ (entryFrame m #[(.ref a1), (.ref a2)] 3) := fun t k => pre15 t (by
    refine st16 _ ?_
    refine XS.ifNo X16.here hx rfl (hb hby d9_22) rfl ((if0 _ _).trans (feq P5).1) ?_
    refine XS.aloadN X16.here hx rfl (hb hby d9_25) rfl rfl ?_
    show oS p e below T16 (mkF m 26 #[oR a1, oR a2, oR a2] [ow a1]) _
    exact k)
  obtain ⟨T18, X18, e18, st18⟩ := getF X16 hx hZ hown (host := "") (Or.inl (oW hw 33 rfl)) Via.refl e16 C1 (g := (mkF m 26 #[oR a1, oR a2, oR a2] [ow a1])) rfl rfl (hb hby d9_26)
  have pre19 : oL p e below T18 (mkF m 30 #[oR a1, oR a2, oR a2] [ow a2, oi 0]) s₁ (entryFrame m #[(.ref a1), (.ref a2)] 3) := fun t k => pre17 t (by
    refine st18 _ ?_
    refine XS.aloadN X18.here hx rfl (hb hby d9_29) rfl rfl ?_
    exact k)
  obtain ⟨T20, X20, e20, st20⟩ := getF X18 hx hZ hown (host := "") (Or.inl (oW hw 33 rfl)) Via.refl e18 C2 (g := (mkF m 30 #[oR a1, oR a2, oR a2] [ow a2, oi 0])) rfl rfl (hb hby d9_30)
  have pre21 : oL p e below T20 (mkF m 37 #[oR a1, oR a2, oR a2] [ow a1]) s₁ (entryFrame m #[(.ref a1), (.ref a2)] 3) := fun t k => pre19 t (by
    refine st20 _ ?_
    refine XS.icmpNo X20.here hx rfl (hb hby d9_33) rfl (teq (by decide : (0 : Int32) = (0 : Int32))).2 ?_
    show oS p e below T20 (mkF m 36 #[oR a1, oR a2, oR a2] []) _
    refine XS.aloadN X20.here hx rfl (hb hby d9_36) rfl rfl ?_
    exact k)
  obtain ⟨T22, X22, e22, st22⟩ := getF X20 hx hZ hown (host := "") (Or.inl (oW hw 35 rfl)) Via.refl e20 F1 (g := (mkF m 37 #[oR a1, oR a2, oR a2] [ow a1])) rfl rfl (hb hby d9_37)
  have pre23 : oL p e below T22 (mkF m 41 #[oR a1, oR a2, oR a2] [ow a2, ow t1]) s₁ (entryFrame m #[(.ref a1), (.ref a2)] 3) := fun t k => pre21 t (by
    refine st22 _ ?_
    refine XS.aloadN X22.here hx rfl (hb hby d9_40) rfl rfl ?_
    exact k)
  obtain ⟨T24, X24, e24, st24⟩ := getF X22 hx hZ hown (host := "") (Or.inl (oW hw 35 rfl)) Via.refl e22 F2 (g := (mkF m 41 #[oR a1, oR a2, oR a2] [ow a2, ow t1])) rfl rfl (hb hby d9_41)
  have pre25 : oL p e below T24 (mkF m 44 #[oR a1, oR a2, oR a2] [ow t2, ow t1]) s₁ (entryFrame m #[(.ref a1), (.ref a2)] 3) := fun t k => pre23 t (by
    refine st24 _ ?_
    show oS p e below T24 (mkF m 44 #[oR a1, oR a2, oR a2] [ow t2, ow t1]) _
    exact k)
  obtain ⟨_, _, ⟨T26, L26, k26, n26⟩, -, X26, ⟨Lc26, hQ26, l26, y26, z26⟩, st26⟩ := Jvm.LawKit.callS X24 hx (y := (⟨"java/lang/StringLatin1", "equals", "([B[B)Z"⟩ : MethodName)) hown (mvT hZ (oW hw 55 rfl)) (mvT hZ (oW hw 56 rfl)) (mvT hZ (oW hw 57 rfl)) (mvT hZ (oW hw 58 rfl)) (by decide) (backOf (W := 0) (rm_el3 l Z a0 hw [] t1 k1 v1 t2 k2 h0 n0 OL V1 V2) hZ (oW hw 58 rfl) (oW hw 57 rfl) (by decide) (by decide)) (g := (mkF m 44 #[oR a1, oR a2, oR a2] [ow t2, ow t1])) rfl (by rw [hml]; rfl) (argsL := [(.ref t1), (.ref t2)]) (rest := []) (lenOf pd___B_B_Z rfl) rfl (by show 2 * 0 + _ ≤ _; exact Nat.le_of_eq rfl) (hb hby d9_44) (fun _ _ => ⟨rfl, e24, (by decide : 0 + 0 ≤ _), (by decide : 0 + 0 ≤ _)⟩)
  dsimp only [Pt.U, Pt.locs, Pt.cells, Pt.slots] at X26 l26 y26 z26 st26 hQ26
  subst l26 y26 z26
  obtain ⟨rfl, N26q, e26⟩ := hQ26
  have N26 := Fr.app N0 N26q
  have pre27 : oL p e below T26 (mkF m 55 #[oR a1, oR a2, oR a2] [oi 0]) s₁ (entryFrame m #[(.ref a1), (.ref a2)] 3) := fun t k => pre25 t (by
    refine st26 _ ?_
    refine XS.ifYes X26.here hx rfl (pc0 := 47) (pc' := 54) rfl (hb hby d9_47) rfl ((if0 _ _).trans (teq (by decide : (0 : Int32) = (0 : Int32))).1) (by decide) (by decide) ?_
    refine XS.iconst X26.here hx rfl (hb hby d9_54) ?_
    exact k)
  obtain ⟨fs, hr, hrun, hended, hW, hsame⟩ := X26.leave (v := some (.int (0 : Int32))) (fun h => by rw [Bd.returns] at h; cases h)
  refine ⟨_, _, pre27 _ ?_, hrun, hended, _, _, rfl, ?_, ⟨_, rfl⟩, hW, hsame.mono (by decide) (by decide)⟩
  ·
    show oS p e below T26 (mkF m 55 #[oR a1, oR a2, oR a2] [oi 0]) _
    exact retN X26 hx (t := .boolean) Bd.returns (by simp) (hb hby d9_55) hr
  ·
    show Q_rm_eqB3 Z a1 t1 k1 v1 a2 t2 k2 G1 h0 n0 _ T26.heap _
    rw [e26]
    exact ⟨rfl, N26, rfl⟩
def Q_rm_eqC (Z : State) (a1 : Addr) (t1 : Addr) (k1 : ClassId) (v1 : List Value) (a2 : Addr) (t2 : Addr) (k2 : ClassId) (G1 : Int32) (h0 : Heap) (n0 : Nat) (v : Option Value) (h : Heap) (L : List Loc) : Prop := v = some (.int (0 : Int32)) ∧ Fr n0 L ∧ h = h0
set_option maxRecDepth 65536 in
set_option maxHeartbeats 40000000 in
theorem rm_eqC (l : Launch) (Z : State) (a0 : Array Value) (hw : ∀ d ∈ tables_1, d.before a0 Z = true) (ws : List Jvm.Cond) (a1 : Addr) (t1 : Addr) (k1 : ClassId) (v1 : List Value) (a2 : Addr) (t2 : Addr) (k2 : ClassId) (G1 : Int32) (h0 : Heap) (n0 : Nat) (OL : Old Z n0 h0) (O2 : Sta Z Z.heap "java/lang/String" "COMPACT_STRINGS" "Z" (.int G1)) (P5 : ¬ (G1 = (0 : Int32))) (E1 : Exa Z h0 a1 "java/lang/String") (F1 : Fld Z h0 a1 "java/lang/String" "value" "[B" (.ref t1)) (C1 : Fld Z h0 a1 "java/lang/String" "coder" "B" (.int (1 : Int32))) (E2 : Exa Z h0 a2 "java/lang/String") (F2 : Fld Z h0 a2 "java/lang/String" "value" "[B" (.ref t2)) (C2 : Fld Z h0 a2 "java/lang/String" "coder" "B" (.int (0 : Int32))) (V2 : Arv Z h0 t2 k2 .byte (0 : Int32) [] (.int (0 : Int32))) (ne1 : ¬ (a1 = a2)) :
    MetFree l (⟨"java/lang/String", "equals", "(Ljava/lang/Object;)Z"⟩ : MethodName) (head1 (Jvm.Cond.code (⟨"java/lang/String", "equals", "(Ljava/lang/Object;)Z"⟩ : MethodName) jdk_42_method_66_code 3 (some .boolean) :: ws) ({ frames := 0, cells := 0, slots := 0, locals := 0 } : Room)) (fun a U => a = #[(.ref a1), (.ref a2)] ∧ Z.Warmed39 U.vm ∧ U.heap = h0) (fun _ _ _ _ _ => True) (fun _ U o U' => ∃ v L, o = .returned v ∧ Q_rm_eqC Z a1 t1 k1 v1 a2 t2 k2 G1 h0 n0 v U'.heap L ∧ FrameEnd U o U' L ({ frames := 0, cells := 0, slots := 0, locals := 0 } : Room).cells ({ frames := 0, cells := 0, slots := 0, locals := 0 } : Room).slots) := by
  refine MetFree.of_bodySF (plainFor_of_name pn_java_lang_String) hisR ?_
  intro p e s m args below meth c s₁ Bd hml0 hP hK
  obtain ⟨rfl, hZ, hh⟩ := hP
  have hx := Bd.exec
  have hby := Bd.bytes
  have hml : c.maxLocals = 3 := hml0
  have hown : s.vm.findClass "java/lang/String" = some m.cls := findClass_of_methodNamed Bd.named
  have hnm := (name_of_methodNamed Bd.named Bd.method).1
  have X0 : Stand p l e ({ frames := 0, cells := 0, slots := 0, locals := 0 } : Room) s m #[(.ref a1), (.ref a2)] below meth c s₁ [] 0 0 := Stand.of_body Bd
  have e0 : s₁.heap = h0 := by rw [← hh, Bd.state]; rfl
  have N0 := Fr.nil n0
  have pre0 : oL p e below s₁ (mkF m 0 #[oR a1, oR a2, oU] []) s₁ (entryFrame m #[(.ref a1), (.ref a2)] 3) := fun t k => castTop (by first | (simp [entryFrame, mkF, argsToLocals, Value.category]; done) | rfl) k
  have pre11 : oL p e below s₁ (mkF m 8 #[oR a1, oR a2, oU] [ow a2]) s₁ (entryFrame m #[(.ref a1), (.ref a2)] 3) := fun t k => pre0 t (by
    refine XS.aloadN X0.here hx rfl (hb hby d9_0) rfl rfl ?_
    refine XS.aloadN X0.here hx rfl (hb hby d9_1) rfl rfl ?_
    refine Jvm.RoadKit.acmp (g := (mkF m 2 #[oR a1, oR a2, oU] [ow a2, ow a1])) X0 hx rfl rfl rfl (pc0 := 2) (pc' := 7) (same := false) rfl (hb hby d9_2) rfl (decide_eq_false fun q => ne1 (Value.ref.inj q)) (by decide) (by decide) ?_
    refine XS.aloadN X0.here hx rfl (hb hby d9_7) rfl rfl ?_
    show oS p e below s₁ (mkF m 8 #[oR a1, oR a2, oU] [ow a2]) _
    exact k)
  obtain ⟨T12, X12, e12, st12⟩ := instY X0 hx hZ hown (oW hw 54 rfl) e0 (Ins.self E2) (g := (mkF m 8 #[oR a1, oR a2, oU] [ow a2])) rfl rfl (hb hby d9_8)
  have pre13 : oL p e below T12 (mkF m 15 #[oR a1, oR a2, oU] [ow a2]) s₁ (entryFrame m #[(.ref a1), (.ref a2)] 3) := fun t k => pre11 t (by
    refine st12 _ ?_
    refine XS.ifNo X12.here hx rfl (hb hby d9_11) rfl ((if0 _ _).trans (feq (by decide : ¬ ((1 : Int32) = (0 : Int32)))).1) ?_
    refine XS.aloadN X12.here hx rfl (hb hby d9_14) rfl rfl ?_
    exact k)
  obtain ⟨T14, X14, e14, st14⟩ := castY X12 hx hZ hown (oW hw 54 rfl) e12 (Ins.self E2) (g := (mkF m 15 #[oR a1, oR a2, oU] [ow a2])) rfl rfl (hb hby d9_15)
  have pre15 : oL p e below T14 (mkF m 19 #[oR a1, oR a2, oR a2] []) s₁ (entryFrame m #[(.ref a1), (.ref a2)] 3) := fun t k => pre13 t (by
    refine st14 _ ?_
    show oS p e below T14 (mkF m 18 #[oR a1, oR a2, oU] [ow a2]) _
    refine XS.astoreN X14.here hx rfl (hb hby d9_18) rfl rfl (l' := #[oR a1, oR a2, oR a2]) rfl ?_
    exact k)
  obtain ⟨T16, X16, e16, st16⟩ := getS2 X14 hx hZ hown (host := "") (Or.inl (oW hw 21 rfl)) Via.refl e14 (O2.ext OL.2) (g := (mkF m 19 #[oR a1, oR a2, oR a2] [])) rfl (hb hby d9_19)
  have pre17 : oL p e below T16 (mkF m 26 #[oR a1, oR a2, oR a2] [ow a1]) s₁ (entryFrame m #[(.ref a1), (.ref a2)] 3) := fun t k => pre15 t (by
    refine st16 _ ?_
    refine XS.ifNo X16.here hx rfl (hb hby d9_22) rfl ((if0 _ _).trans (feq P5).1) ?_
    refine XS.aloadN X16.here hx rfl (hb hby d9_25) rfl rfl ?_
    show oS p e below T16 (mkF m 26 #[oR a1, oR a2, oR a2] [ow a1]) _
    exact k)
  obtain ⟨T18, X18, e18, st18⟩ := getF X16 hx hZ hown (host := "") (Or.inl (oW hw 33 rfl)) Via.refl e16 C1 (g := (mkF m 26 #[oR a1, oR a2, oR a2] [ow a1])) rfl rfl (hb hby d9_26)
  have pre19 : oL p e below T18 (mkF m 30 #[oR a1, oR a2, oR a2] [ow a2, oi 1]) s₁ (entryFrame m #[(.ref a1), (.ref a2)] 3) := fun t k => pre17 t (by
    refine st18 _ ?_
    refine XS.aloadN X18.here hx rfl (hb hby d9_29) rfl rfl ?_
    exact k)
  obtain ⟨T20, X20, e20, st20⟩ := getF X18 hx hZ hown (host := "") (Or.inl (oW hw 33 rfl)) Via.refl e18 C2 (g := (mkF m 30 #[oR a1, oR a2, oR a2] [ow a2, oi 1])) rfl rfl (hb hby d9_30)
  have pre21 : oL p e below T20 (mkF m 55 #[oR a1, oR a2, oR a2] [oi 0]) s₁ (entryFrame m #[(.ref a1), (.ref a2)] 3) := fun t k => pre19 t (by
    refine st20 _ ?_
    refine XS.icmpYes X20.here hx rfl (pc0 := 33) (pc' := 54) rfl (hb hby d9_33) rfl (feq (by decide : ¬ ((1 : Int32) = (0 : Int32)))).2 (by decide) (by decide) ?_
    show oS p e below T20 (mkF m 54 #[oR a1, oR a2, oR a2] []) _
    refine XS.iconst X20.here hx rfl (hb hby d9_54) ?_
    exact k)
  obtain ⟨fs, hr, hrun, hended, hW, hsame⟩ := X20.leave (v := some (.int (0 : Int32))) (fun h => by rw [Bd.returns] at h; cases h)
  refine ⟨_, _, pre21 _ ?_, hrun, hended, _, _, rfl, ?_, ⟨_, rfl⟩, hW, hsame.mono (by decide) (by decide)⟩
  ·
    show oS p e below T20 (mkF m 55 #[oR a1, oR a2, oR a2] [oi 0]) _
    exact retN X20 hx (t := .boolean) Bd.returns (by simp) (hb hby d9_55) hr
  ·
    show Q_rm_eqC Z a1 t1 k1 v1 a2 t2 k2 G1 h0 n0 _ T20.heap _
    rw [e20]
    exact ⟨rfl, N0, rfl⟩
theorem pn_com_example_grantwright_grantwright_Bypass : plainName "com/example/grantwright/grantwright/Bypass" = true := by first | (simp [plainName, overriddenIn]; done) | decide +kernel
theorem d8_0 : decode prog_6_method_4_code 0 = .ok (.aload_n 1, 1) := by decide +kernel
theorem d8_1 : decode prog_6_method_4_code 1 = .ok (.ifnonnull 10, 3) := by decide +kernel
theorem d8_4 : decode prog_6_method_4_code 4 = .ok (.aload_n 0, 1) := by decide +kernel
theorem d8_5 : decode prog_6_method_4_code 5 = .ok (.getfield 35, 3) := by decide +kernel
theorem d8_8 : decode prog_6_method_4_code 8 = .ok (.goto 24, 3) := by decide +kernel
theorem d8_32 : decode prog_6_method_4_code 32 = .ok (.ireturn, 1) := by decide +kernel
def Q_rm_tkN (Z : State) (o1 : Addr) (tn : Int32) (h0 : Heap) (n0 : Nat) (v : Option Value) (h : Heap) (L : List Loc) : Prop := v = some (.int tn) ∧ Fr n0 L ∧ h = h0
set_option maxRecDepth 65536 in
set_option maxHeartbeats 40000000 in
theorem rm_tkN (l : Launch) (Z : State) (a0 : Array Value) (hw : ∀ d ∈ tables_1, d.before a0 Z = true) (ws : List Jvm.Cond) (o1 : Addr) (tn : Int32) (h0 : Heap) (n0 : Nat) (OL : Old Z n0 h0) (FN : Fld Z Z.heap o1 "com/example/grantwright/grantwright/Bypass" "takesNull" "Z" (.int tn)) (htn : nar .boolean tn = tn) :
    MetFree l (⟨"com/example/grantwright/grantwright/Bypass", "takes", "(Ljava/lang/String;)Z"⟩ : MethodName) (head1 (Jvm.Cond.code (⟨"com/example/grantwright/grantwright/Bypass", "takes", "(Ljava/lang/String;)Z"⟩ : MethodName) prog_6_method_4_code 2 (some .boolean) :: ws) ({ frames := 0, cells := 0, slots := 0, locals := 0 } : Room)) (fun a U => a = #[(.ref o1), .null] ∧ Z.Warmed39 U.vm ∧ U.heap = h0) (fun _ _ _ _ _ => True) (fun _ U o U' => ∃ v L, o = .returned v ∧ Q_rm_tkN Z o1 tn h0 n0 v U'.heap L ∧ FrameEnd U o U' L ({ frames := 0, cells := 0, slots := 0, locals := 0 } : Room).cells ({ frames := 0, cells := 0, slots := 0, locals := 0 } : Room).slots) := by
  refine MetFree.of_bodySF (plainFor_of_name pn_com_example_grantwright_grantwright_Bypass) hisR ?_
  intro p e s m args below meth c s₁ Bd hml0 hP hK
  obtain ⟨rfl, hZ, hh⟩ := hP
  have hx := Bd.exec
  have hby := Bd.bytes
  have hml : c.maxLocals = 2 := hml0
  have hown : s.vm.findClass "com/example/grantwright/grantwright/Bypass" = some m.cls := findClass_of_methodNamed Bd.named
  have hnm := (name_of_methodNamed Bd.named Bd.method).1
  have X0 : Stand p l e ({ frames := 0, cells := 0, slots := 0, locals := 0 } : Room) s m #[(.ref o1), .null] below meth c s₁ [] 0 0 := Stand.of_body Bd
  have e0 : s₁.heap = h0 := by rw [← hh, Bd.state]; rfl
  have N0 := Fr.nil n0
  have pre0 : oL p e below s₁ (mkF m 0 #[oR o1, oN] []) s₁ (entryFrame m #[(.ref o1), .null] 2) := fun t k => castTop (by first | (simp [entryFrame, mkF, argsToLocals, Value.category]; done) | rfl) k
  have pre11 : oL p e below s₁ (mkF m 5 #[oR o1, oN] [ow o1]) s₁ (entryFrame m #[(.ref o1), .null] 2) := fun t k => pre0 t (by
    refine XS.aloadN X0.here hx rfl (hb hby d8_0) rfl rfl ?_
    refine XS.ifnonnullNo X0.here hx rfl (hb hby d8_1) rfl ?_
    refine XS.aloadN X0.here hx rfl (hb hby d8_4) rfl rfl ?_
    exact k)
  obtain ⟨T12, X12, e12, st12⟩ := getF X0 hx hZ hown (host := "") (Or.inl (oW hw 84 rfl)) Via.refl e0 (FN.ext OL.2) (g := (mkF m 5 #[oR o1, oN] [ow o1])) rfl rfl (hb hby d8_5)
  have pre13 : oL p e below T12 (mkF m 32 #[oR o1, oN] [oi tn]) s₁ (entryFrame m #[(.ref o1), .null] 2) := fun t k => pre11 t (by
    refine st12 _ ?_
    show oS p e below T12 (mkF m 8 #[oR o1, oN] [oi tn]) _
    refine XS.goto X12.here hx rfl (pc0 := 8) (pc' := 32) rfl (hb hby d8_8) (by decide) (by decide) ?_
    exact k)
  obtain ⟨fs, hr, hrun, hended, hW, hsame⟩ := X12.leave (v := some (.int (nar .boolean tn))) (fun h => by rw [Bd.returns] at h; cases h)
  refine ⟨_, _, pre13 _ ?_, hrun, hended, _, _, rfl, ?_, ⟨_, rfl⟩, hW, hsame.mono (by decide) (by decide)⟩
  ·
    show oS p e below T12 (mkF m 32 #[oR o1, oN] [oi tn]) _
    exact retN X12 hx (t := .boolean) Bd.returns (by simp) (hb hby d8_32) hr
  ·
    show Q_rm_tkN Z o1 tn h0 n0 _ T12.heap _
    rw [e12]
    exact ⟨by rw [htn], N0, rfl⟩
theorem d8_11 : decode prog_6_method_4_code 11 = .ok (.aload_n 0, 1) := by decide +kernel
theorem d8_12 : decode prog_6_method_4_code 12 = .ok (.getfield 39, 3) := by decide +kernel
theorem d8_15 : decode prog_6_method_4_code 15 = .ok (.ifCond .eq 16, 3) := by decide +kernel
theorem d8_31 : decode prog_6_method_4_code 31 = .ok (.iconst 0, 1) := by decide +kernel
theorem d8_18 : decode prog_6_method_4_code 18 = .ok (.aload_n 1, 1) := by decide +kernel
theorem d8_19 : decode prog_6_method_4_code 19 = .ok (.ldc 42, 2) := by decide +kernel
theorem d8_21 : decode prog_6_method_4_code 21 = .ok (.invokevirtual 44, 3) := by decide +kernel
theorem pd__Ljava_lang_Object__Z : parseMethodDescriptor "(Ljava/lang/Object;)Z" = some ⟨[(.object "java/lang/Object")], some .boolean⟩ := by decide +kernel
theorem d8_24 : decode prog_6_method_4_code 24 = .ok (.ifCond .eq 7, 3) := by decide +kernel
theorem d8_27 : decode prog_6_method_4_code 27 = .ok (.iconst 1, 1) := by decide +kernel
theorem d8_28 : decode prog_6_method_4_code 28 = .ok (.goto 4, 3) := by decide +kernel
def Q_rm_tkA (Z : State) (o1 : Addr) (ti : Int32) (a1 : Addr) (t1 : Addr) (k1 : ClassId) (v1 : List Value) (G1 : Int32) (h0 : Heap) (n0 : Nat) (v : Option Value) (h : Heap) (L : List Loc) : Prop := v = some (.int ti) ∧ Fr n0 L ∧ Keep h0 h []
set_option maxRecDepth 65536 in
set_option maxHeartbeats 40000000 in
theorem rm_tkA (l : Launch) (Z : State) (a0 : Array Value) (hw : ∀ d ∈ tables_1, d.before a0 Z = true) (ws : List Jvm.Cond) (o1 : Addr) (ti : Int32) (a1 : Addr) (t1 : Addr) (k1 : ClassId) (v1 : List Value) (G1 : Int32) (h0 : Heap) (n0 : Nat) (OL : Old Z n0 h0) (O2 : Sta Z Z.heap "java/lang/String" "COMPACT_STRINGS" "Z" (.int G1)) (P5 : ¬ (G1 = (0 : Int32))) (FI : Fld Z Z.heap o1 "com/example/grantwright/grantwright/Bypass" "takesInitial" "Z" (.int ti)) (hti : ti = 0 ∨ ti = 1) (E1 : Exa Z h0 a1 "java/lang/String") (F1 : Fld Z h0 a1 "java/lang/String" "value" "[B" (.ref t1)) (C1 : Fld Z h0 a1 "java/lang/String" "coder" "B" (.int (0 : Int32))) (V1 : Arv Z h0 t1 k1 .byte (0 : Int32) v1 (.int (0 : Int32))) :
    MetFree l (⟨"com/example/grantwright/grantwright/Bypass", "takes", "(Ljava/lang/String;)Z"⟩ : MethodName) (head1 (Jvm.Cond.code (⟨"com/example/grantwright/grantwright/Bypass", "takes", "(Ljava/lang/String;)Z"⟩ : MethodName) prog_6_method_4_code 2 (some .boolean) :: ws) ({ frames := 2, cells := 2, slots := 4, locals := 28 } : Room)) (fun a U => a = #[(.ref o1), (.ref a1)] ∧ Z.Warmed39 U.vm ∧ U.heap = h0 ∧ CHv Z consts_1 U.vm h0) (fun _ _ _ _ _ => True) (fun _ U o U' => ∃ v L, o = .returned v ∧ Q_rm_tkA Z o1 ti a1 t1 k1 v1 G1 h0 n0 v U'.heap L ∧ CHr Z consts_1 U.vm U.heap U'.vm U'.heap ∧ ReturnedEndW U o U' L ({ frames := 2, cells := 2, slots := 4, locals := 28 } : Room).cells ({ frames := 2, cells := 2, slots := 4, locals := 28 } : Room).slots) := by
  refine MetFree.of_bodySF (plainFor_of_name pn_com_example_grantwright_grantwright_Bypass) hisR ?_
  intro p e s m args below meth c s₁ Bd hml0 hP hK
  obtain ⟨rfl, hZ, hh, CH0⟩ := hP
  have hx := Bd.exec
  have hby := Bd.bytes
  have hml : c.maxLocals = 2 := hml0
  have hown : s.vm.findClass "com/example/grantwright/grantwright/Bypass" = some m.cls := findClass_of_methodNamed Bd.named
  have hnm := (name_of_methodNamed Bd.named Bd.method).1
  have X0 : Stand p l e ({ frames := 2, cells := 2, slots := 4, locals := 28 } : Room) (s.setVm s.vm) m #[(.ref o1), (.ref a1)] below meth c s₁ [] 0 0 := Stand.of_body Bd
  have hZ : Z.Warmed39 (s.setVm s.vm).vm := hZ
  have hown : (s.setVm s.vm).vm.findClass "com/example/grantwright/grantwright/Bypass" = some m.cls := hown
  have hS : s.Since s.vm h0.size := (State.WarmedH.refl s).since _
  have hk : h0.size ≤ h0.size := Nat.le_refl _
  have CR0 : CHr Z consts_1 s.vm h0 s.vm h0 := CHr.refl CH0
  have hEL := own_EW Z a0 hw
  have wS := own_wS Z a0 hw
  have e0 : s₁.heap = h0 := by rw [← hh, Bd.state]; rfl
  have N0 := Fr.nil n0
  have pre0 : oL p e below s₁ (mkF m 0 #[oR o1, oR a1] []) s₁ (entryFrame m #[(.ref o1), (.ref a1)] 2) := fun t k => castTop (by first | (simp [entryFrame, mkF, argsToLocals, Value.category]; done) | rfl) k
  have pre11 : oL p e below s₁ (mkF m 12 #[oR o1, oR a1] [ow o1]) s₁ (entryFrame m #[(.ref o1), (.ref a1)] 2) := fun t k => pre0 t (by
    refine XS.aloadN X0.here hx rfl (hb hby d8_0) rfl rfl ?_
    refine XS.ifnonnullYes X0.here hx rfl (pc0 := 1) (pc' := 11) rfl (hb hby d8_1) rfl (by decide) (by decide) ?_
    refine XS.aloadN X0.here hx rfl (hb hby d8_11) rfl rfl ?_
    exact k)
  obtain ⟨T12, X12, e12, st12⟩ := getF X0 hx hZ hown (host := "") (Or.inl (oW hw 42 rfl)) Via.refl e0 (FI.ext OL.2) (g := (mkF m 12 #[oR o1, oR a1] [ow o1])) rfl rfl (hb hby d8_12)
  have pre13 : oL p e below T12 (mkF m 15 #[oR o1, oR a1] [oi ti]) s₁ (entryFrame m #[(.ref o1), (.ref a1)] 2) := fun t k => pre11 t (by
    refine st12 _ ?_
    show oS p e below T12 (mkF m 15 #[oR o1, oR a1] [oi ti]) _
    exact k)
  by_cases hc14 : ti = (0 : Int32)
  ·
    have pre15 : oL p e below T12 (mkF m 32 #[oR o1, oR a1] [oi 0]) s₁ (entryFrame m #[(.ref o1), (.ref a1)] 2) := fun t k => pre13 t (by
      refine XS.ifYes X12.here hx rfl (pc0 := 15) (pc' := 31) rfl (hb hby d8_15) rfl ((if0 _ _).trans (teq hc14).1) (by decide) (by decide) ?_
      refine XS.iconst X12.here hx rfl (hb hby d8_31) ?_
      exact k)
    obtain ⟨fs, hr, hrun, hended, hEnd⟩ := X12.leaveW hS (by rw [e12]; exact hk) (v := some (.int (0 : Int32))) (fun h => by rw [Bd.returns] at h; cases h)
    refine ⟨_, _, pre15 _ ?_, hrun, hended, _, _, rfl, ?_, (by show CHr Z consts_1 s.vm s.heap T12.vm T12.heap; rw [hh, e12]; exact CR0.trans (CHv.at X12 hZ hEL CH0)), hEnd.1, hEnd.2.1, hEnd.2.2.1, hEnd.2.2.2.mono (by decide) (by decide)⟩
    ·
      show oS p e below T12 (mkF m 32 #[oR o1, oR a1] [oi 0]) _
      exact retN X12 hx (t := .boolean) Bd.returns (by simp) (hb hby d8_32) hr
    ·
      show Q_rm_tkA Z o1 ti a1 t1 k1 v1 G1 h0 n0 _ T12.heap _
      rw [e12]
      exact ⟨by rw [hc14], N0, (Keep.refl h0 [])⟩
  ·
    have pre16 : oL p e below T12 (mkF m 19 #[oR o1, oR a1] [ow a1]) s₁ (entryFrame m #[(.ref o1), (.ref a1)] 2) := fun t k => pre13 t (by
      refine XS.ifNo X12.here hx rfl (hb hby d8_15) rfl ((if0 _ _).trans (feq hc14).1) ?_
      refine XS.aloadN X12.here hx rfl (hb hby d8_18) rfl rfl ?_
      exact k)
    obtain ⟨la17, T17, h17, kx17, lb17, kb17, X17, e17, E17, hS, hkn17, hZ, hown, Ea17, Fc17, Fv17, Va17, lta17, ltb17, cr17, Lt17, sep17, st17⟩ := ldcCH X12 hx hZ hown (oW hw 46 rfl) wS e12 hS hk hEL (List.mem_of_getElem? (i := 0) rfl) CH0 (vs := []) (z := (0 : Int32)) ⟨by decide, rfl⟩ (by decide) rfl (g := (mkF m 19 #[oR o1, oR a1] [ow a1])) rfl (hb hby d8_19) (n := 0) (by decide) (by decide) (by decide) (by decide)
    have f18 := E1.ext E17
    have f19 := F1.ext E17
    have f20 := C1.ext E17
    have f21 := V1.ext E17
    have OL22 := OL.ext E17
    have K23 : Keep h0 h17 [] := (Keep.refl h0 []).ext E17
    have CH17 := cr17.1
    have CR17 := CR0.trans cr17
    have hk := hkn17
    have pre24 : oL p e below T17 (mkF m 21 #[oR o1, oR a1] [ow la17, ow a1]) s₁ (entryFrame m #[(.ref o1), (.ref a1)] 2) := fun t k => pre16 t (by
      refine st17 _ ?_
      exact k)
    obtain ⟨cq25, kq25, q25a, q25b, q25c⟩ := isOf hZ e17 f18
    obtain ⟨_, _, ⟨T25, L25, k25, n25⟩, -, X25, ⟨Lc25, hQ25, l25, y25, z25⟩, st25⟩ := X17.virtualBack hx (y := (⟨"java/lang/String", "equals", "(Ljava/lang/Object;)Z"⟩ : MethodName)) (z := (⟨"java/lang/String", "equals", "(Ljava/lang/Object;)Z"⟩ : MethodName)) hown (mvT hZ (oW hw 49 rfl)) (mvT hZ (oW hw 50 rfl)) (notFace_of_selects (args := #[]) (mvT hZ (oW hw 52 rfl))) (mvT hZ (oW hw 52 rfl)) (mvT hZ (oW hw 51 rfl)) (by decide) (backOf (W := 0) (rm_eqA l Z a0 hw [] a1 t1 k1 v1 la17 lb17 kb17 G1 h17 n0 OL22 O2 P5 f18 f19 f20 Ea17 Fv17 Fc17 Va17 f21) hZ (oW hw 53 rfl) (oW hw 10 rfl) (by decide) (by decide)) q25a q25c (g := (mkF m 21 #[oR o1, oR a1] [ow la17, ow a1])) rfl (by rw [hml]; rfl) (Steps.refl _) (argsL := [(.ref la17)]) (rest := []) (lenOf pd__Ljava_lang_Object__Z rfl) rfl (by show 2 * 0 + _ ≤ _; exact Nat.le_of_eq rfl) (hb hby d8_21) (fun _ _ => ⟨rfl, e17, (by decide : 2 + 0 ≤ _), (by decide : 4 + 0 ≤ _)⟩)
    dsimp only [Pt.U, Pt.locs, Pt.cells, Pt.slots] at X25 l25 y25 z25 st25 hQ25
    subst l25 y25 z25
    obtain ⟨rfl, N25q, e25⟩ := hQ25
    have N25 := Fr.app N0 N25q
    have pre26 : oL p e below T25 (mkF m 32 #[oR o1, oR a1] [oi 1]) s₁ (entryFrame m #[(.ref o1), (.ref a1)] 2) := fun t k => pre24 t (by
      refine st25.trans ?_
      show oS p e below T25 (mkF m 24 #[oR o1, oR a1] [oi 1]) _
      refine XS.ifNo X25.here hx rfl (hb hby d8_24) rfl ((if0 _ _).trans (feq (by decide : ¬ ((1 : Int32) = (0 : Int32)))).1) ?_
      refine XS.iconst X25.here hx rfl (hb hby d8_27) ?_
      refine XS.goto X25.here hx rfl (pc0 := 28) (pc' := 32) rfl (hb hby d8_28) (by decide) (by decide) ?_
      exact k)
    obtain ⟨fs, hr, hrun, hended, hEnd⟩ := X25.leaveW hS (by rw [e25]; exact hk) (v := some (.int (1 : Int32))) (fun h => by rw [Bd.returns] at h; cases h)
    refine ⟨_, _, pre26 _ ?_, hrun, hended, _, _, rfl, ?_, (by show CHr Z consts_1 s.vm s.heap T25.vm T25.heap; rw [hh, e25]; exact CR17.trans (CHv.at X25 hZ hEL CH17)), hEnd.1, hEnd.2.1, hEnd.2.2.1, hEnd.2.2.2.mono (by decide) (by decide)⟩
    ·
      show oS p e below T25 (mkF m 32 #[oR o1, oR a1] [oi 1]) _
      exact retN X25 hx (t := .boolean) Bd.returns (by simp) (hb hby d8_32) hr
    ·
      show Q_rm_tkA Z o1 ti a1 t1 k1 v1 G1 h0 n0 _ T25.heap _
      rw [e25]
      exact ⟨by rw [hti.resolve_left hc14], N25, K23⟩
def Q_rm_tkB1 (Z : State) (o1 : Addr) (ti : Int32) (a1 : Addr) (t1 : Addr) (k1 : ClassId) (v1 : List Value) (G1 : Int32) (h0 : Heap) (n0 : Nat) (v : Option Value) (h : Heap) (L : List Loc) : Prop := v = some (.int (0 : Int32)) ∧ Fr n0 L ∧ Keep h0 h []
set_option maxRecDepth 65536 in
set_option maxHeartbeats 40000000 in
theorem rm_tkB1 (l : Launch) (Z : State) (a0 : Array Value) (hw : ∀ d ∈ tables_1, d.before a0 Z = true) (ws : List Jvm.Cond) (o1 : Addr) (ti : Int32) (a1 : Addr) (t1 : Addr) (k1 : ClassId) (v1 : List Value) (G1 : Int32) (h0 : Heap) (n0 : Nat) (OL : Old Z n0 h0) (O2 : Sta Z Z.heap "java/lang/String" "COMPACT_STRINGS" "Z" (.int G1)) (P5 : ¬ (G1 = (0 : Int32))) (FI : Fld Z Z.heap o1 "com/example/grantwright/grantwright/Bypass" "takesInitial" "Z" (.int ti)) (hti : ti = 0 ∨ ti = 1) (E1 : Exa Z h0 a1 "java/lang/String") (F1 : Fld Z h0 a1 "java/lang/String" "value" "[B" (.ref t1)) (C1 : Fld Z h0 a1 "java/lang/String" "coder" "B" (.int (0 : Int32))) (V1 : Arv Z h0 t1 k1 .byte (1 : Int32) v1 (.int (0 : Int32))) :
    MetFree l (⟨"com/example/grantwright/grantwright/Bypass", "takes", "(Ljava/lang/String;)Z"⟩ : MethodName) (head1 (Jvm.Cond.code (⟨"com/example/grantwright/grantwright/Bypass", "takes", "(Ljava/lang/String;)Z"⟩ : MethodName) prog_6_method_4_code 2 (some .boolean) :: ws) ({ frames := 2, cells := 2, slots := 4, locals := 28 } : Room)) (fun a U => a = #[(.ref o1), (.ref a1)] ∧ Z.Warmed39 U.vm ∧ U.heap = h0 ∧ CHv Z consts_1 U.vm h0) (fun _ _ _ _ _ => True) (fun _ U o U' => ∃ v L, o = .returned v ∧ Q_rm_tkB1 Z o1 ti a1 t1 k1 v1 G1 h0 n0 v U'.heap L ∧ CHr Z consts_1 U.vm U.heap U'.vm U'.heap ∧ ReturnedEndW U o U' L ({ frames := 2, cells := 2, slots := 4, locals := 28 } : Room).cells ({ frames := 2, cells := 2, slots := 4, locals := 28 } : Room).slots) := by
  refine MetFree.of_bodySF (plainFor_of_name pn_com_example_grantwright_grantwright_Bypass) hisR ?_
  intro p e s m args below meth c s₁ Bd hml0 hP hK
  obtain ⟨rfl, hZ, hh, CH0⟩ := hP
  have hx := Bd.exec
  have hby := Bd.bytes
  have hml : c.maxLocals = 2 := hml0
  have hown : s.vm.findClass "com/example/grantwright/grantwright/Bypass" = some m.cls := findClass_of_methodNamed Bd.named
  have hnm := (name_of_methodNamed Bd.named Bd.method).1
  have X0 : Stand p l e ({ frames := 2, cells := 2, slots := 4, locals := 28 } : Room) (s.setVm s.vm) m #[(.ref o1), (.ref a1)] below meth c s₁ [] 0 0 := Stand.of_body Bd
  have hZ : Z.Warmed39 (s.setVm s.vm).vm := hZ
  have hown : (s.setVm s.vm).vm.findClass "com/example/grantwright/grantwright/Bypass" = some m.cls := hown
  have hS : s.Since s.vm h0.size := (State.WarmedH.refl s).since _
  have hk : h0.size ≤ h0.size := Nat.le_refl _
  have CR0 : CHr Z consts_1 s.vm h0 s.vm h0 := CHr.refl CH0
  have hEL := own_EW Z a0 hw
  have wS := own_wS Z a0 hw
  have e0 : s₁.heap = h0 := by rw [← hh, Bd.state]; rfl
  have N0 := Fr.nil n0
  have pre0 : oL p e below s₁ (mkF m 0 #[oR o1, oR a1] []) s₁ (entryFrame m #[(.ref o1), (.ref a1)] 2) := fun t k => castTop (by first | (simp [entryFrame, mkF, argsToLocals, Value.category]; done) | rfl) k
  have pre11 : oL p e below s₁ (mkF m 12 #[oR o1, oR a1] [ow o1]) s₁ (entryFrame m #[(.ref o1), (.ref a1)] 2) := fun t k => pre0 t (by
    refine XS.aloadN X0.here hx rfl (hb hby d8_0) rfl rfl ?_
    refine XS.ifnonnullYes X0.here hx rfl (pc0 := 1) (pc' := 11) rfl (hb hby d8_1) rfl (by decide) (by decide) ?_
    refine XS.aloadN X0.here hx rfl (hb hby d8_11) rfl rfl ?_
    exact k)
  obtain ⟨T12, X12, e12, st12⟩ := getF X0 hx hZ hown (host := "") (Or.inl (oW hw 42 rfl)) Via.refl e0 (FI.ext OL.2) (g := (mkF m 12 #[oR o1, oR a1] [ow o1])) rfl rfl (hb hby d8_12)
  have pre13 : oL p e below T12 (mkF m 15 #[oR o1, oR a1] [oi ti]) s₁ (entryFrame m #[(.ref o1), (.ref a1)] 2) := fun t k => pre11 t (by
    refine st12 _ ?_
    show oS p e below T12 (mkF m 15 #[oR o1, oR a1] [oi ti]) _
    exact k)
  by_cases hc14 : ti = (0 : Int32)
  ·
    have pre15 : oL p e below T12 (mkF m 32 #[oR o1, oR a1] [oi 0]) s₁ (entryFrame m #[(.ref o1), (.ref a1)] 2) := fun t k => pre13 t (by
      refine XS.ifYes X12.here hx rfl (pc0 := 15) (pc' := 31) rfl (hb hby d8_15) rfl ((if0 _ _).trans (teq hc14).1) (by decide) (by decide) ?_
      refine XS.iconst X12.here hx rfl (hb hby d8_31) ?_
      exact k)
    obtain ⟨fs, hr, hrun, hended, hEnd⟩ := X12.leaveW hS (by rw [e12]; exact hk) (v := some (.int (0 : Int32))) (fun h => by rw [Bd.returns] at h; cases h)
    refine ⟨_, _, pre15 _ ?_, hrun, hended, _, _, rfl, ?_, (by show CHr Z consts_1 s.vm s.heap T12.vm T12.heap; rw [hh, e12]; exact CR0.trans (CHv.at X12 hZ hEL CH0)), hEnd.1, hEnd.2.1, hEnd.2.2.1, hEnd.2.2.2.mono (by decide) (by decide)⟩
    ·
      show oS p e below T12 (mkF m 32 #[oR o1, oR a1] [oi 0]) _
      exact retN X12 hx (t := .boolean) Bd.returns (by simp) (hb hby d8_32) hr
    ·
      show Q_rm_tkB1 Z o1 ti a1 t1 k1 v1 G1 h0 n0 _ T12.heap _
      rw [e12]
      exact ⟨rfl, N0, (Keep.refl h0 [])⟩
  ·
    have pre16 : oL p e below T12 (mkF m 19 #[oR o1, oR a1] [ow a1]) s₁ (entryFrame m #[(.ref o1), (.ref a1)] 2) := fun t k => pre13 t (by
      refine XS.ifNo X12.here hx rfl (hb hby d8_15) rfl ((if0 _ _).trans (feq hc14).1) ?_
      refine XS.aloadN X12.here hx rfl (hb hby d8_18) rfl rfl ?_
      exact k)
    obtain ⟨la17, T17, h17, kx17, lb17, kb17, X17, e17, E17, hS, hkn17, hZ, hown, Ea17, Fc17, Fv17, Va17, lta17, ltb17, cr17, Lt17, sep17, st17⟩ := ldcCH X12 hx hZ hown (oW hw 46 rfl) wS e12 hS hk hEL (List.mem_of_getElem? (i := 0) rfl) CH0 (vs := []) (z := (0 : Int32)) ⟨by decide, rfl⟩ (by decide) rfl (g := (mkF m 19 #[oR o1, oR a1] [ow a1])) rfl (hb hby d8_19) (n := 0) (by decide) (by decide) (by decide) (by decide)
    have f18 := E1.ext E17
    have f19 := F1.ext E17
    have f20 := C1.ext E17
    have f21 := V1.ext E17
    have OL22 := OL.ext E17
    have K23 : Keep h0 h17 [] := (Keep.refl h0 []).ext E17
    have CH17 := cr17.1
    have CR17 := CR0.trans cr17
    have hk := hkn17
    have pre24 : oL p e below T17 (mkF m 21 #[oR o1, oR a1] [ow la17, ow a1]) s₁ (entryFrame m #[(.ref o1), (.ref a1)] 2) := fun t k => pre16 t (by
      refine st17 _ ?_
      exact k)
    obtain ⟨cq25, kq25, q25a, q25b, q25c⟩ := isOf hZ e17 f18
    obtain ⟨_, _, ⟨T25, L25, k25, n25⟩, -, X25, ⟨Lc25, hQ25, l25, y25, z25⟩, st25⟩ := X17.virtualBack hx (y := (⟨"java/lang/String", "equals", "(Ljava/lang/Object;)Z"⟩ : MethodName)) (z := (⟨"java/lang/String", "equals", "(Ljava/lang/Object;)Z"⟩ : MethodName)) hown (mvT hZ (oW hw 49 rfl)) (mvT hZ (oW hw 50 rfl)) (notFace_of_selects (args := #[]) (mvT hZ (oW hw 52 rfl))) (mvT hZ (oW hw 52 rfl)) (mvT hZ (oW hw 51 rfl)) (by decide) (backOf (W := 0) (rm_eqB1 l Z a0 hw [] a1 t1 k1 v1 la17 lb17 kb17 G1 h17 n0 OL22 O2 P5 f18 f19 f20 Ea17 Fv17 Fc17 Va17 f21 (Fld.ne f19 Fv17 (fun q => own_arvne f21 Va17 (by decide) (Value.ref.inj q)))) hZ (oW hw 53 rfl) (oW hw 10 rfl) (by decide) (by decide)) q25a q25c (g := (mkF m 21 #[oR o1, oR a1] [ow la17, ow a1])) rfl (by rw [hml]; rfl) (Steps.refl _) (argsL := [(.ref la17)]) (rest := []) (lenOf pd__Ljava_lang_Object__Z rfl) rfl (by show 2 * 0 + _ ≤ _; exact Nat.le_of_eq rfl) (hb hby d8_21) (fun _ _ => ⟨rfl, e17, (by decide : 2 + 0 ≤ _), (by decide : 4 + 0 ≤ _)⟩)
    dsimp only [Pt.U, Pt.locs, Pt.cells, Pt.slots] at X25 l25 y25 z25 st25 hQ25
    subst l25 y25 z25
    obtain ⟨rfl, N25q, e25⟩ := hQ25
    have N25 := Fr.app N0 N25q
    have pre26 : oL p e below T25 (mkF m 32 #[oR o1, oR a1] [oi 0]) s₁ (entryFrame m #[(.ref o1), (.ref a1)] 2) := fun t k => pre24 t (by
      refine st25.trans ?_
      show oS p e below T25 (mkF m 24 #[oR o1, oR a1] [oi 0]) _
      refine XS.ifYes X25.here hx rfl (pc0 := 24) (pc' := 31) rfl (hb hby d8_24) rfl ((if0 _ _).trans (teq (by decide : (0 : Int32) = (0 : Int32))).1) (by decide) (by decide) ?_
      refine XS.iconst X25.here hx rfl (hb hby d8_31) ?_
      exact k)
    obtain ⟨fs, hr, hrun, hended, hEnd⟩ := X25.leaveW hS (by rw [e25]; exact hk) (v := some (.int (0 : Int32))) (fun h => by rw [Bd.returns] at h; cases h)
    refine ⟨_, _, pre26 _ ?_, hrun, hended, _, _, rfl, ?_, (by show CHr Z consts_1 s.vm s.heap T25.vm T25.heap; rw [hh, e25]; exact CR17.trans (CHv.at X25 hZ hEL CH17)), hEnd.1, hEnd.2.1, hEnd.2.2.1, hEnd.2.2.2.mono (by decide) (by decide)⟩
    ·
      show oS p e below T25 (mkF m 32 #[oR o1, oR a1] [oi 0]) _
      exact retN X25 hx (t := .boolean) Bd.returns (by simp) (hb hby d8_32) hr
    ·
      show Q_rm_tkB1 Z o1 ti a1 t1 k1 v1 G1 h0 n0 _ T25.heap _
      rw [e25]
      exact ⟨rfl, N25, K23⟩
def Q_rm_tkB2 (Z : State) (o1 : Addr) (ti : Int32) (a1 : Addr) (t1 : Addr) (k1 : ClassId) (v1 : List Value) (G1 : Int32) (h0 : Heap) (n0 : Nat) (v : Option Value) (h : Heap) (L : List Loc) : Prop := v = some (.int (0 : Int32)) ∧ Fr n0 L ∧ Keep h0 h []
set_option maxRecDepth 65536 in
set_option maxHeartbeats 40000000 in
theorem rm_tkB2 (l : Launch) (Z : State) (a0 : Array Value) (hw : ∀ d ∈ tables_1, d.before a0 Z = true) (ws : List Jvm.Cond) (o1 : Addr) (ti : Int32) (a1 : Addr) (t1 : Addr) (k1 : ClassId) (v1 : List Value) (G1 : Int32) (h0 : Heap) (n0 : Nat) (OL : Old Z n0 h0) (O2 : Sta Z Z.heap "java/lang/String" "COMPACT_STRINGS" "Z" (.int G1)) (P5 : ¬ (G1 = (0 : Int32))) (FI : Fld Z Z.heap o1 "com/example/grantwright/grantwright/Bypass" "takesInitial" "Z" (.int ti)) (hti : ti = 0 ∨ ti = 1) (E1 : Exa Z h0 a1 "java/lang/String") (F1 : Fld Z h0 a1 "java/lang/String" "value" "[B" (.ref t1)) (C1 : Fld Z h0 a1 "java/lang/String" "coder" "B" (.int (0 : Int32))) (V1 : Arv Z h0 t1 k1 .byte (2 : Int32) v1 (.int (0 : Int32))) :
    MetFree l (⟨"com/example/grantwright/grantwright/Bypass", "takes", "(Ljava/lang/String;)Z"⟩ : MethodName) (head1 (Jvm.Cond.code (⟨"com/example/grantwright/grantwright/Bypass", "takes", "(Ljava/lang/String;)Z"⟩ : MethodName) prog_6_method_4_code 2 (some .boolean) :: ws) ({ frames := 2, cells := 2, slots := 4, locals := 28 } : Room)) (fun a U => a = #[(.ref o1), (.ref a1)] ∧ Z.Warmed39 U.vm ∧ U.heap = h0 ∧ CHv Z consts_1 U.vm h0) (fun _ _ _ _ _ => True) (fun _ U o U' => ∃ v L, o = .returned v ∧ Q_rm_tkB2 Z o1 ti a1 t1 k1 v1 G1 h0 n0 v U'.heap L ∧ CHr Z consts_1 U.vm U.heap U'.vm U'.heap ∧ ReturnedEndW U o U' L ({ frames := 2, cells := 2, slots := 4, locals := 28 } : Room).cells ({ frames := 2, cells := 2, slots := 4, locals := 28 } : Room).slots) := by
  refine MetFree.of_bodySF (plainFor_of_name pn_com_example_grantwright_grantwright_Bypass) hisR ?_
  intro p e s m args below meth c s₁ Bd hml0 hP hK
  obtain ⟨rfl, hZ, hh, CH0⟩ := hP
  have hx := Bd.exec
  have hby := Bd.bytes
  have hml : c.maxLocals = 2 := hml0
  have hown : s.vm.findClass "com/example/grantwright/grantwright/Bypass" = some m.cls := findClass_of_methodNamed Bd.named
  have hnm := (name_of_methodNamed Bd.named Bd.method).1
  have X0 : Stand p l e ({ frames := 2, cells := 2, slots := 4, locals := 28 } : Room) (s.setVm s.vm) m #[(.ref o1), (.ref a1)] below meth c s₁ [] 0 0 := Stand.of_body Bd
  have hZ : Z.Warmed39 (s.setVm s.vm).vm := hZ
  have hown : (s.setVm s.vm).vm.findClass "com/example/grantwright/grantwright/Bypass" = some m.cls := hown
  have hS : s.Since s.vm h0.size := (State.WarmedH.refl s).since _
  have hk : h0.size ≤ h0.size := Nat.le_refl _
  have CR0 : CHr Z consts_1 s.vm h0 s.vm h0 := CHr.refl CH0
  have hEL := own_EW Z a0 hw
  have wS := own_wS Z a0 hw
  have e0 : s₁.heap = h0 := by rw [← hh, Bd.state]; rfl
  have N0 := Fr.nil n0
  have pre0 : oL p e below s₁ (mkF m 0 #[oR o1, oR a1] []) s₁ (entryFrame m #[(.ref o1), (.ref a1)] 2) := fun t k => castTop (by first | (simp [entryFrame, mkF, argsToLocals, Value.category]; done) | rfl) k
  have pre11 : oL p e below s₁ (mkF m 12 #[oR o1, oR a1] [ow o1]) s₁ (entryFrame m #[(.ref o1), (.ref a1)] 2) := fun t k => pre0 t (by
    refine XS.aloadN X0.here hx rfl (hb hby d8_0) rfl rfl ?_
    refine XS.ifnonnullYes X0.here hx rfl (pc0 := 1) (pc' := 11) rfl (hb hby d8_1) rfl (by decide) (by decide) ?_
    refine XS.aloadN X0.here hx rfl (hb hby d8_11) rfl rfl ?_
    exact k)
  obtain ⟨T12, X12, e12, st12⟩ := getF X0 hx hZ hown (host := "") (Or.inl (oW hw 42 rfl)) Via.refl e0 (FI.ext OL.2) (g := (mkF m 12 #[oR o1, oR a1] [ow o1])) rfl rfl (hb hby d8_12)
  have pre13 : oL p e below T12 (mkF m 15 #[oR o1, oR a1] [oi ti]) s₁ (entryFrame m #[(.ref o1), (.ref a1)] 2) := fun t k => pre11 t (by
    refine st12 _ ?_
    show oS p e below T12 (mkF m 15 #[oR o1, oR a1] [oi ti]) _
    exact k)
  by_cases hc14 : ti = (0 : Int32)
  ·
    have pre15 : oL p e below T12 (mkF m 32 #[oR o1, oR a1] [oi 0]) s₁ (entryFrame m #[(.ref o1), (.ref a1)] 2) := fun t k => pre13 t (by
      refine XS.ifYes X12.here hx rfl (pc0 := 15) (pc' := 31) rfl (hb hby d8_15) rfl ((if0 _ _).trans (teq hc14).1) (by decide) (by decide) ?_
      refine XS.iconst X12.here hx rfl (hb hby d8_31) ?_
      exact k)
    obtain ⟨fs, hr, hrun, hended, hEnd⟩ := X12.leaveW hS (by rw [e12]; exact hk) (v := some (.int (0 : Int32))) (fun h => by rw [Bd.returns] at h; cases h)
    refine ⟨_, _, pre15 _ ?_, hrun, hended, _, _, rfl, ?_, (by show CHr Z consts_1 s.vm s.heap T12.vm T12.heap; rw [hh, e12]; exact CR0.trans (CHv.at X12 hZ hEL CH0)), hEnd.1, hEnd.2.1, hEnd.2.2.1, hEnd.2.2.2.mono (by decide) (by decide)⟩
    ·
      show oS p e below T12 (mkF m 32 #[oR o1, oR a1] [oi 0]) _
      exact retN X12 hx (t := .boolean) Bd.returns (by simp) (hb hby d8_32) hr
    ·
      show Q_rm_tkB2 Z o1 ti a1 t1 k1 v1 G1 h0 n0 _ T12.heap _
      rw [e12]
      exact ⟨rfl, N0, (Keep.refl h0 [])⟩
  ·
    have pre16 : oL p e below T12 (mkF m 19 #[oR o1, oR a1] [ow a1]) s₁ (entryFrame m #[(.ref o1), (.ref a1)] 2) := fun t k => pre13 t (by
      refine XS.ifNo X12.here hx rfl (hb hby d8_15) rfl ((if0 _ _).trans (feq hc14).1) ?_
      refine XS.aloadN X12.here hx rfl (hb hby d8_18) rfl rfl ?_
      exact k)
    obtain ⟨la17, T17, h17, kx17, lb17, kb17, X17, e17, E17, hS, hkn17, hZ, hown, Ea17, Fc17, Fv17, Va17, lta17, ltb17, cr17, Lt17, sep17, st17⟩ := ldcCH X12 hx hZ hown (oW hw 46 rfl) wS e12 hS hk hEL (List.mem_of_getElem? (i := 0) rfl) CH0 (vs := []) (z := (0 : Int32)) ⟨by decide, rfl⟩ (by decide) rfl (g := (mkF m 19 #[oR o1, oR a1] [ow a1])) rfl (hb hby d8_19) (n := 0) (by decide) (by decide) (by decide) (by decide)
    have f18 := E1.ext E17
    have f19 := F1.ext E17
    have f20 := C1.ext E17
    have f21 := V1.ext E17
    have OL22 := OL.ext E17
    have K23 : Keep h0 h17 [] := (Keep.refl h0 []).ext E17
    have CH17 := cr17.1
    have CR17 := CR0.trans cr17
    have hk := hkn17
    have pre24 : oL p e below T17 (mkF m 21 #[oR o1, oR a1] [ow la17, ow a1]) s₁ (entryFrame m #[(.ref o1), (.ref a1)] 2) := fun t k => pre16 t (by
      refine st17 _ ?_
      exact k)
    obtain ⟨cq25, kq25, q25a, q25b, q25c⟩ := isOf hZ e17 f18
    obtain ⟨_, _, ⟨T25, L25, k25, n25⟩, -, X25, ⟨Lc25, hQ25, l25, y25, z25⟩, st25⟩ := X17.virtualBack hx (y := (⟨"java/lang/String", "equals", "(Ljava/lang/Object;)Z"⟩ : MethodName)) (z := (⟨"java/lang/String", "equals", "(Ljava/lang/Object;)Z"⟩ : MethodName)) hown (mvT hZ (oW hw 49 rfl)) (mvT hZ (oW hw 50 rfl)) (notFace_of_selects (args := #[]) (mvT hZ (oW hw 52 rfl))) (mvT hZ (oW hw 52 rfl)) (mvT hZ (oW hw 51 rfl)) (by decide) (backOf (W := 0) (rm_eqB2 l Z a0 hw [] a1 t1 k1 v1 la17 lb17 kb17 G1 h17 n0 OL22 O2 P5 f18 f19 f20 Ea17 Fv17 Fc17 Va17 f21 (Fld.ne f19 Fv17 (fun q => own_arvne f21 Va17 (by decide) (Value.ref.inj q)))) hZ (oW hw 53 rfl) (oW hw 10 rfl) (by decide) (by decide)) q25a q25c (g := (mkF m 21 #[oR o1, oR a1] [ow la17, ow a1])) rfl (by rw [hml]; rfl) (Steps.refl _) (argsL := [(.ref la17)]) (rest := []) (lenOf pd__Ljava_lang_Object__Z rfl) rfl (by show 2 * 0 + _ ≤ _; exact Nat.le_of_eq rfl) (hb hby d8_21) (fun _ _ => ⟨rfl, e17, (by decide : 2 + 0 ≤ _), (by decide : 4 + 0 ≤ _)⟩)
    dsimp only [Pt.U, Pt.locs, Pt.cells, Pt.slots] at X25 l25 y25 z25 st25 hQ25
    subst l25 y25 z25
    obtain ⟨rfl, N25q, e25⟩ := hQ25
    have N25 := Fr.app N0 N25q
    have pre26 : oL p e below T25 (mkF m 32 #[oR o1, oR a1] [oi 0]) s₁ (entryFrame m #[(.ref o1), (.ref a1)] 2) := fun t k => pre24 t (by
      refine st25.trans ?_
      show oS p e below T25 (mkF m 24 #[oR o1, oR a1] [oi 0]) _
      refine XS.ifYes X25.here hx rfl (pc0 := 24) (pc' := 31) rfl (hb hby d8_24) rfl ((if0 _ _).trans (teq (by decide : (0 : Int32) = (0 : Int32))).1) (by decide) (by decide) ?_
      refine XS.iconst X25.here hx rfl (hb hby d8_31) ?_
      exact k)
    obtain ⟨fs, hr, hrun, hended, hEnd⟩ := X25.leaveW hS (by rw [e25]; exact hk) (v := some (.int (0 : Int32))) (fun h => by rw [Bd.returns] at h; cases h)
    refine ⟨_, _, pre26 _ ?_, hrun, hended, _, _, rfl, ?_, (by show CHr Z consts_1 s.vm s.heap T25.vm T25.heap; rw [hh, e25]; exact CR17.trans (CHv.at X25 hZ hEL CH17)), hEnd.1, hEnd.2.1, hEnd.2.2.1, hEnd.2.2.2.mono (by decide) (by decide)⟩
    ·
      show oS p e below T25 (mkF m 32 #[oR o1, oR a1] [oi 0]) _
      exact retN X25 hx (t := .boolean) Bd.returns (by simp) (hb hby d8_32) hr
    ·
      show Q_rm_tkB2 Z o1 ti a1 t1 k1 v1 G1 h0 n0 _ T25.heap _
      rw [e25]
      exact ⟨rfl, N25, K23⟩
def Q_rm_tkB3 (Z : State) (o1 : Addr) (ti : Int32) (a1 : Addr) (t1 : Addr) (k1 : ClassId) (v1 : List Value) (G1 : Int32) (h0 : Heap) (n0 : Nat) (v : Option Value) (h : Heap) (L : List Loc) : Prop := v = some (.int (0 : Int32)) ∧ Fr n0 L ∧ Keep h0 h []
set_option maxRecDepth 65536 in
set_option maxHeartbeats 40000000 in
theorem rm_tkB3 (l : Launch) (Z : State) (a0 : Array Value) (hw : ∀ d ∈ tables_1, d.before a0 Z = true) (ws : List Jvm.Cond) (o1 : Addr) (ti : Int32) (a1 : Addr) (t1 : Addr) (k1 : ClassId) (v1 : List Value) (G1 : Int32) (h0 : Heap) (n0 : Nat) (OL : Old Z n0 h0) (O2 : Sta Z Z.heap "java/lang/String" "COMPACT_STRINGS" "Z" (.int G1)) (P5 : ¬ (G1 = (0 : Int32))) (FI : Fld Z Z.heap o1 "com/example/grantwright/grantwright/Bypass" "takesInitial" "Z" (.int ti)) (hti : ti = 0 ∨ ti = 1) (E1 : Exa Z h0 a1 "java/lang/String") (F1 : Fld Z h0 a1 "java/lang/String" "value" "[B" (.ref t1)) (C1 : Fld Z h0 a1 "java/lang/String" "coder" "B" (.int (0 : Int32))) (V1 : Arv Z h0 t1 k1 .byte (3 : Int32) v1 (.int (0 : Int32))) :
    MetFree l (⟨"com/example/grantwright/grantwright/Bypass", "takes", "(Ljava/lang/String;)Z"⟩ : MethodName) (head1 (Jvm.Cond.code (⟨"com/example/grantwright/grantwright/Bypass", "takes", "(Ljava/lang/String;)Z"⟩ : MethodName) prog_6_method_4_code 2 (some .boolean) :: ws) ({ frames := 2, cells := 2, slots := 4, locals := 28 } : Room)) (fun a U => a = #[(.ref o1), (.ref a1)] ∧ Z.Warmed39 U.vm ∧ U.heap = h0 ∧ CHv Z consts_1 U.vm h0) (fun _ _ _ _ _ => True) (fun _ U o U' => ∃ v L, o = .returned v ∧ Q_rm_tkB3 Z o1 ti a1 t1 k1 v1 G1 h0 n0 v U'.heap L ∧ CHr Z consts_1 U.vm U.heap U'.vm U'.heap ∧ ReturnedEndW U o U' L ({ frames := 2, cells := 2, slots := 4, locals := 28 } : Room).cells ({ frames := 2, cells := 2, slots := 4, locals := 28 } : Room).slots) := by
  refine MetFree.of_bodySF (plainFor_of_name pn_com_example_grantwright_grantwright_Bypass) hisR ?_
  intro p e s m args below meth c s₁ Bd hml0 hP hK
  obtain ⟨rfl, hZ, hh, CH0⟩ := hP
  have hx := Bd.exec
  have hby := Bd.bytes
  have hml : c.maxLocals = 2 := hml0
  have hown : s.vm.findClass "com/example/grantwright/grantwright/Bypass" = some m.cls := findClass_of_methodNamed Bd.named
  have hnm := (name_of_methodNamed Bd.named Bd.method).1
  have X0 : Stand p l e ({ frames := 2, cells := 2, slots := 4, locals := 28 } : Room) (s.setVm s.vm) m #[(.ref o1), (.ref a1)] below meth c s₁ [] 0 0 := Stand.of_body Bd
  have hZ : Z.Warmed39 (s.setVm s.vm).vm := hZ
  have hown : (s.setVm s.vm).vm.findClass "com/example/grantwright/grantwright/Bypass" = some m.cls := hown
  have hS : s.Since s.vm h0.size := (State.WarmedH.refl s).since _
  have hk : h0.size ≤ h0.size := Nat.le_refl _
  have CR0 : CHr Z consts_1 s.vm h0 s.vm h0 := CHr.refl CH0
  have hEL := own_EW Z a0 hw
  have wS := own_wS Z a0 hw
  have e0 : s₁.heap = h0 := by rw [← hh, Bd.state]; rfl
  have N0 := Fr.nil n0
  have pre0 : oL p e below s₁ (mkF m 0 #[oR o1, oR a1] []) s₁ (entryFrame m #[(.ref o1), (.ref a1)] 2) := fun t k => castTop (by first | (simp [entryFrame, mkF, argsToLocals, Value.category]; done) | rfl) k
  have pre11 : oL p e below s₁ (mkF m 12 #[oR o1, oR a1] [ow o1]) s₁ (entryFrame m #[(.ref o1), (.ref a1)] 2) := fun t k => pre0 t (by
    refine XS.aloadN X0.here hx rfl (hb hby d8_0) rfl rfl ?_
    refine XS.ifnonnullYes X0.here hx rfl (pc0 := 1) (pc' := 11) rfl (hb hby d8_1) rfl (by decide) (by decide) ?_
    refine XS.aloadN X0.here hx rfl (hb hby d8_11) rfl rfl ?_
    exact k)
  obtain ⟨T12, X12, e12, st12⟩ := getF X0 hx hZ hown (host := "") (Or.inl (oW hw 42 rfl)) Via.refl e0 (FI.ext OL.2) (g := (mkF m 12 #[oR o1, oR a1] [ow o1])) rfl rfl (hb hby d8_12)
  have pre13 : oL p e below T12 (mkF m 15 #[oR o1, oR a1] [oi ti]) s₁ (entryFrame m #[(.ref o1), (.ref a1)] 2) := fun t k => pre11 t (by
    refine st12 _ ?_
    show oS p e below T12 (mkF m 15 #[oR o1, oR a1] [oi ti]) _
    exact k)
  by_cases hc14 : ti = (0 : Int32)
  ·
    have pre15 : oL p e below T12 (mkF m 32 #[oR o1, oR a1] [oi 0]) s₁ (entryFrame m #[(.ref o1), (.ref a1)] 2) := fun t k => pre13 t (by
      refine XS.ifYes X12.here hx rfl (pc0 := 15) (pc' := 31) rfl (hb hby d8_15) rfl ((if0 _ _).trans (teq hc14).1) (by decide) (by decide) ?_
      refine XS.iconst X12.here hx rfl (hb hby d8_31) ?_
      exact k)
    obtain ⟨fs, hr, hrun, hended, hEnd⟩ := X12.leaveW hS (by rw [e12]; exact hk) (v := some (.int (0 : Int32))) (fun h => by rw [Bd.returns] at h; cases h)
    refine ⟨_, _, pre15 _ ?_, hrun, hended, _, _, rfl, ?_, (by show CHr Z consts_1 s.vm s.heap T12.vm T12.heap; rw [hh, e12]; exact CR0.trans (CHv.at X12 hZ hEL CH0)), hEnd.1, hEnd.2.1, hEnd.2.2.1, hEnd.2.2.2.mono (by decide) (by decide)⟩
    ·
      show oS p e below T12 (mkF m 32 #[oR o1, oR a1] [oi 0]) _
      exact retN X12 hx (t := .boolean) Bd.returns (by simp) (hb hby d8_32) hr
    ·
      show Q_rm_tkB3 Z o1 ti a1 t1 k1 v1 G1 h0 n0 _ T12.heap _
      rw [e12]
      exact ⟨rfl, N0, (Keep.refl h0 [])⟩
  ·
    have pre16 : oL p e below T12 (mkF m 19 #[oR o1, oR a1] [ow a1]) s₁ (entryFrame m #[(.ref o1), (.ref a1)] 2) := fun t k => pre13 t (by
      refine XS.ifNo X12.here hx rfl (hb hby d8_15) rfl ((if0 _ _).trans (feq hc14).1) ?_
      refine XS.aloadN X12.here hx rfl (hb hby d8_18) rfl rfl ?_
      exact k)
    obtain ⟨la17, T17, h17, kx17, lb17, kb17, X17, e17, E17, hS, hkn17, hZ, hown, Ea17, Fc17, Fv17, Va17, lta17, ltb17, cr17, Lt17, sep17, st17⟩ := ldcCH X12 hx hZ hown (oW hw 46 rfl) wS e12 hS hk hEL (List.mem_of_getElem? (i := 0) rfl) CH0 (vs := []) (z := (0 : Int32)) ⟨by decide, rfl⟩ (by decide) rfl (g := (mkF m 19 #[oR o1, oR a1] [ow a1])) rfl (hb hby d8_19) (n := 0) (by decide) (by decide) (by decide) (by decide)
    have f18 := E1.ext E17
    have f19 := F1.ext E17
    have f20 := C1.ext E17
    have f21 := V1.ext E17
    have OL22 := OL.ext E17
    have K23 : Keep h0 h17 [] := (Keep.refl h0 []).ext E17
    have CH17 := cr17.1
    have CR17 := CR0.trans cr17
    have hk := hkn17
    have pre24 : oL p e below T17 (mkF m 21 #[oR o1, oR a1] [ow la17, ow a1]) s₁ (entryFrame m #[(.ref o1), (.ref a1)] 2) := fun t k => pre16 t (by
      refine st17 _ ?_
      exact k)
    obtain ⟨cq25, kq25, q25a, q25b, q25c⟩ := isOf hZ e17 f18
    obtain ⟨_, _, ⟨T25, L25, k25, n25⟩, -, X25, ⟨Lc25, hQ25, l25, y25, z25⟩, st25⟩ := X17.virtualBack hx (y := (⟨"java/lang/String", "equals", "(Ljava/lang/Object;)Z"⟩ : MethodName)) (z := (⟨"java/lang/String", "equals", "(Ljava/lang/Object;)Z"⟩ : MethodName)) hown (mvT hZ (oW hw 49 rfl)) (mvT hZ (oW hw 50 rfl)) (notFace_of_selects (args := #[]) (mvT hZ (oW hw 52 rfl))) (mvT hZ (oW hw 52 rfl)) (mvT hZ (oW hw 51 rfl)) (by decide) (backOf (W := 0) (rm_eqB3 l Z a0 hw [] a1 t1 k1 v1 la17 lb17 kb17 G1 h17 n0 OL22 O2 P5 f18 f19 f20 Ea17 Fv17 Fc17 Va17 f21 (Fld.ne f19 Fv17 (fun q => own_arvne f21 Va17 (by decide) (Value.ref.inj q)))) hZ (oW hw 53 rfl) (oW hw 10 rfl) (by decide) (by decide)) q25a q25c (g := (mkF m 21 #[oR o1, oR a1] [ow la17, ow a1])) rfl (by rw [hml]; rfl) (Steps.refl _) (argsL := [(.ref la17)]) (rest := []) (lenOf pd__Ljava_lang_Object__Z rfl) rfl (by show 2 * 0 + _ ≤ _; exact Nat.le_of_eq rfl) (hb hby d8_21) (fun _ _ => ⟨rfl, e17, (by decide : 2 + 0 ≤ _), (by decide : 4 + 0 ≤ _)⟩)
    dsimp only [Pt.U, Pt.locs, Pt.cells, Pt.slots] at X25 l25 y25 z25 st25 hQ25
    subst l25 y25 z25
    obtain ⟨rfl, N25q, e25⟩ := hQ25
    have N25 := Fr.app N0 N25q
    have pre26 : oL p e below T25 (mkF m 32 #[oR o1, oR a1] [oi 0]) s₁ (entryFrame m #[(.ref o1), (.ref a1)] 2) := fun t k => pre24 t (by
      refine st25.trans ?_
      show oS p e below T25 (mkF m 24 #[oR o1, oR a1] [oi 0]) _
      refine XS.ifYes X25.here hx rfl (pc0 := 24) (pc' := 31) rfl (hb hby d8_24) rfl ((if0 _ _).trans (teq (by decide : (0 : Int32) = (0 : Int32))).1) (by decide) (by decide) ?_
      refine XS.iconst X25.here hx rfl (hb hby d8_31) ?_
      exact k)
    obtain ⟨fs, hr, hrun, hended, hEnd⟩ := X25.leaveW hS (by rw [e25]; exact hk) (v := some (.int (0 : Int32))) (fun h => by rw [Bd.returns] at h; cases h)
    refine ⟨_, _, pre26 _ ?_, hrun, hended, _, _, rfl, ?_, (by show CHr Z consts_1 s.vm s.heap T25.vm T25.heap; rw [hh, e25]; exact CR17.trans (CHv.at X25 hZ hEL CH17)), hEnd.1, hEnd.2.1, hEnd.2.2.1, hEnd.2.2.2.mono (by decide) (by decide)⟩
    ·
      show oS p e below T25 (mkF m 32 #[oR o1, oR a1] [oi 0]) _
      exact retN X25 hx (t := .boolean) Bd.returns (by simp) (hb hby d8_32) hr
    ·
      show Q_rm_tkB3 Z o1 ti a1 t1 k1 v1 G1 h0 n0 _ T25.heap _
      rw [e25]
      exact ⟨rfl, N25, K23⟩
def Q_rm_tkC (Z : State) (o1 : Addr) (ti : Int32) (a1 : Addr) (t1 : Addr) (k1 : ClassId) (N1 : Int32) (v1 : List Value) (G1 : Int32) (h0 : Heap) (n0 : Nat) (v : Option Value) (h : Heap) (L : List Loc) : Prop := v = some (.int (0 : Int32)) ∧ Fr n0 L ∧ Keep h0 h []
set_option maxRecDepth 65536 in
set_option maxHeartbeats 40000000 in
theorem rm_tkC (l : Launch) (Z : State) (a0 : Array Value) (hw : ∀ d ∈ tables_1, d.before a0 Z = true) (ws : List Jvm.Cond) (o1 : Addr) (ti : Int32) (a1 : Addr) (t1 : Addr) (k1 : ClassId) (N1 : Int32) (v1 : List Value) (G1 : Int32) (h0 : Heap) (n0 : Nat) (OL : Old Z n0 h0) (O2 : Sta Z Z.heap "java/lang/String" "COMPACT_STRINGS" "Z" (.int G1)) (P5 : ¬ (G1 = (0 : Int32))) (FI : Fld Z Z.heap o1 "com/example/grantwright/grantwright/Bypass" "takesInitial" "Z" (.int ti)) (hti : ti = 0 ∨ ti = 1) (E1 : Exa Z h0 a1 "java/lang/String") (F1 : Fld Z h0 a1 "java/lang/String" "value" "[B" (.ref t1)) (C1 : Fld Z h0 a1 "java/lang/String" "coder" "B" (.int (1 : Int32))) (V1 : Arv Z h0 t1 k1 .byte N1 v1 (.int (0 : Int32))) :
    MetFree l (⟨"com/example/grantwright/grantwright/Bypass", "takes", "(Ljava/lang/String;)Z"⟩ : MethodName) (head1 (Jvm.Cond.code (⟨"com/example/grantwright/grantwright/Bypass", "takes", "(Ljava/lang/String;)Z"⟩ : MethodName) prog_6_method_4_code 2 (some .boolean) :: ws) ({ frames := 1, cells := 2, slots := 4, locals := 14 } : Room)) (fun a U => a = #[(.ref o1), (.ref a1)] ∧ Z.Warmed39 U.vm ∧ U.heap = h0 ∧ CHv Z consts_1 U.vm h0) (fun _ _ _ _ _ => True) (fun _ U o U' => ∃ v L, o = .returned v ∧ Q_rm_tkC Z o1 ti a1 t1 k1 N1 v1 G1 h0 n0 v U'.heap L ∧ CHr Z consts_1 U.vm U.heap U'.vm U'.heap ∧ ReturnedEndW U o U' L ({ frames := 1, cells := 2, slots := 4, locals := 14 } : Room).cells ({ frames := 1, cells := 2, slots := 4, locals := 14 } : Room).slots) := by
  refine MetFree.of_bodySF (plainFor_of_name pn_com_example_grantwright_grantwright_Bypass) hisR ?_
  intro p e s m args below meth c s₁ Bd hml0 hP hK
  obtain ⟨rfl, hZ, hh, CH0⟩ := hP
  have hx := Bd.exec
  have hby := Bd.bytes
  have hml : c.maxLocals = 2 := hml0
  have hown : s.vm.findClass "com/example/grantwright/grantwright/Bypass" = some m.cls := findClass_of_methodNamed Bd.named
  have hnm := (name_of_methodNamed Bd.named Bd.method).1
  have X0 : Stand p l e ({ frames := 1, cells := 2, slots := 4, locals := 14 } : Room) (s.setVm s.vm) m #[(.ref o1), (.ref a1)] below meth c s₁ [] 0 0 := Stand.of_body Bd
  have hZ : Z.Warmed39 (s.setVm s.vm).vm := hZ
  have hown : (s.setVm s.vm).vm.findClass "com/example/grantwright/grantwright/Bypass" = some m.cls := hown
  have hS : s.Since s.vm h0.size := (State.WarmedH.refl s).since _
  have hk : h0.size ≤ h0.size := Nat.le_refl _
  have CR0 : CHr Z consts_1 s.vm h0 s.vm h0 := CHr.refl CH0
  have hEL := own_EW Z a0 hw
  have wS := own_wS Z a0 hw
  have e0 : s₁.heap = h0 := by rw [← hh, Bd.state]; rfl
  have N0 := Fr.nil n0
  have pre0 : oL p e below s₁ (mkF m 0 #[oR o1, oR a1] []) s₁ (entryFrame m #[(.ref o1), (.ref a1)] 2) := fun t k => castTop (by first | (simp [entryFrame, mkF, argsToLocals, Value.category]; done) | rfl) k
  have pre11 : oL p e below s₁ (mkF m 12 #[oR o1, oR a1] [ow o1]) s₁ (entryFrame m #[(.ref o1), (.ref a1)] 2) := fun t k => pre0 t (by
    refine XS.aloadN X0.here hx rfl (hb hby d8_0) rfl rfl ?_
    refine XS.ifnonnullYes X0.here hx rfl (pc0 := 1) (pc' := 11) rfl (hb hby d8_1) rfl (by decide) (by decide) ?_
    refine XS.aloadN X0.here hx rfl (hb hby d8_11) rfl rfl ?_
    exact k)
  obtain ⟨T12, X12, e12, st12⟩ := getF X0 hx hZ hown (host := "") (Or.inl (oW hw 42 rfl)) Via.refl e0 (FI.ext OL.2) (g := (mkF m 12 #[oR o1, oR a1] [ow o1])) rfl rfl (hb hby d8_12)
  have pre13 : oL p e below T12 (mkF m 15 #[oR o1, oR a1] [oi ti]) s₁ (entryFrame m #[(.ref o1), (.ref a1)] 2) := fun t k => pre11 t (by
    refine st12 _ ?_
    show oS p e below T12 (mkF m 15 #[oR o1, oR a1] [oi ti]) _
    exact k)
  by_cases hc14 : ti = (0 : Int32)
  ·
    have pre15 : oL p e below T12 (mkF m 32 #[oR o1, oR a1] [oi 0]) s₁ (entryFrame m #[(.ref o1), (.ref a1)] 2) := fun t k => pre13 t (by
      refine XS.ifYes X12.here hx rfl (pc0 := 15) (pc' := 31) rfl (hb hby d8_15) rfl ((if0 _ _).trans (teq hc14).1) (by decide) (by decide) ?_
      refine XS.iconst X12.here hx rfl (hb hby d8_31) ?_
      exact k)
    obtain ⟨fs, hr, hrun, hended, hEnd⟩ := X12.leaveW hS (by rw [e12]; exact hk) (v := some (.int (0 : Int32))) (fun h => by rw [Bd.returns] at h; cases h)
    refine ⟨_, _, pre15 _ ?_, hrun, hended, _, _, rfl, ?_, (by show CHr Z consts_1 s.vm s.heap T12.vm T12.heap; rw [hh, e12]; exact CR0.trans (CHv.at X12 hZ hEL CH0)), hEnd.1, hEnd.2.1, hEnd.2.2.1, hEnd.2.2.2.mono (by decide) (by decide)⟩
    ·
      show oS p e below T12 (mkF m 32 #[oR o1, oR a1] [oi 0]) _
      exact retN X12 hx (t := .boolean) Bd.returns (by simp) (hb hby d8_32) hr
    ·
      show Q_rm_tkC Z o1 ti a1 t1 k1 N1 v1 G1 h0 n0 _ T12.heap _
      rw [e12]
      exact ⟨rfl, N0, (Keep.refl h0 [])⟩
  ·
    have pre16 : oL p e below T12 (mkF m 19 #[oR o1, oR a1] [ow a1]) s₁ (entryFrame m #[(.ref o1), (.ref a1)] 2) := fun t k => pre13 t (by
      refine XS.ifNo X12.here hx rfl (hb hby d8_15) rfl ((if0 _ _).trans (feq hc14).1) ?_
      refine XS.aloadN X12.here hx rfl (hb hby d8_18) rfl rfl ?_
      exact k)
    obtain ⟨la17, T17, h17, kx17, lb17, kb17, X17, e17, E17, hS, hkn17, hZ, hown, Ea17, Fc17, Fv17, Va17, lta17, ltb17, cr17, Lt17, sep17, st17⟩ := ldcCH X12 hx hZ hown (oW hw 46 rfl) wS e12 hS hk hEL (List.mem_of_getElem? (i := 0) rfl) CH0 (vs := []) (z := (0 : Int32)) ⟨by decide, rfl⟩ (by decide) rfl (g := (mkF m 19 #[oR o1, oR a1] [ow a1])) rfl (hb hby d8_19) (n := 0) (by decide) (by decide) (by decide) (by decide)
    have f18 := E1.ext E17
    have f19 := F1.ext E17
    have f20 := C1.ext E17
    have f21 := V1.ext E17
    have OL22 := OL.ext E17
    have K23 : Keep h0 h17 [] := (Keep.refl h0 []).ext E17
    have CH17 := cr17.1
    have CR17 := CR0.trans cr17
    have hk := hkn17
    have pre24 : oL p e below T17 (mkF m 21 #[oR o1, oR a1] [ow la17, ow a1]) s₁ (entryFrame m #[(.ref o1), (.ref a1)] 2) := fun t k => pre16 t (by
      refine st17 _ ?_
      exact k)
    obtain ⟨cq25, kq25, q25a, q25b, q25c⟩ := isOf hZ e17 f18
    obtain ⟨_, _, ⟨T25, L25, k25, n25⟩, -, X25, ⟨Lc25, hQ25, l25, y25, z25⟩, st25⟩ := X17.virtualBack hx (y := (⟨"java/lang/String", "equals", "(Ljava/lang/Object;)Z"⟩ : MethodName)) (z := (⟨"java/lang/String", "equals", "(Ljava/lang/Object;)Z"⟩ : MethodName)) hown (mvT hZ (oW hw 49 rfl)) (mvT hZ (oW hw 50 rfl)) (notFace_of_selects (args := #[]) (mvT hZ (oW hw 52 rfl))) (mvT hZ (oW hw 52 rfl)) (mvT hZ (oW hw 51 rfl)) (by decide) (backOf (W := 0) (rm_eqC l Z a0 hw [] a1 t1 k1 v1 la17 lb17 kb17 G1 h17 n0 OL22 O2 P5 f18 f19 f20 Ea17 Fv17 Fc17 Va17 (Fld.ne f20 Fc17 (by simp))) hZ (oW hw 53 rfl) (oW hw 10 rfl) (by decide) (by decide)) q25a q25c (g := (mkF m 21 #[oR o1, oR a1] [ow la17, ow a1])) rfl (by rw [hml]; rfl) (Steps.refl _) (argsL := [(.ref la17)]) (rest := []) (lenOf pd__Ljava_lang_Object__Z rfl) rfl (by show 2 * 0 + _ ≤ _; exact Nat.le_of_eq rfl) (hb hby d8_21) (fun _ _ => ⟨rfl, e17, (by decide : 2 + 0 ≤ _), (by decide : 4 + 0 ≤ _)⟩)
    dsimp only [Pt.U, Pt.locs, Pt.cells, Pt.slots] at X25 l25 y25 z25 st25 hQ25
    subst l25 y25 z25
    obtain ⟨rfl, N25q, e25⟩ := hQ25
    have N25 := Fr.app N0 N25q
    have pre26 : oL p e below T25 (mkF m 32 #[oR o1, oR a1] [oi 0]) s₁ (entryFrame m #[(.ref o1), (.ref a1)] 2) := fun t k => pre24 t (by
      refine st25.trans ?_
      show oS p e below T25 (mkF m 24 #[oR o1, oR a1] [oi 0]) _
      refine XS.ifYes X25.here hx rfl (pc0 := 24) (pc' := 31) rfl (hb hby d8_24) rfl ((if0 _ _).trans (teq (by decide : (0 : Int32) = (0 : Int32))).1) (by decide) (by decide) ?_
      refine XS.iconst X25.here hx rfl (hb hby d8_31) ?_
      exact k)
    obtain ⟨fs, hr, hrun, hended, hEnd⟩ := X25.leaveW hS (by rw [e25]; exact hk) (v := some (.int (0 : Int32))) (fun h => by rw [Bd.returns] at h; cases h)
    refine ⟨_, _, pre26 _ ?_, hrun, hended, _, _, rfl, ?_, (by show CHr Z consts_1 s.vm s.heap T25.vm T25.heap; rw [hh, e25]; exact CR17.trans (CHv.at X25 hZ hEL CH17)), hEnd.1, hEnd.2.1, hEnd.2.2.1, hEnd.2.2.2.mono (by decide) (by decide)⟩
    ·
      show oS p e below T25 (mkF m 32 #[oR o1, oR a1] [oi 0]) _
      exact retN X25 hx (t := .boolean) Bd.returns (by simp) (hb hby d8_32) hr
    ·
      show Q_rm_tkC Z o1 ti a1 t1 k1 N1 v1 G1 h0 n0 _ T25.heap _
      rw [e25]
      exact ⟨rfl, N25, K23⟩
theorem pd__I_Lcom_example_grantwright_grantwright_Bypass_ : parseMethodDescriptor "(I)Lcom/example/grantwright/grantwright/Bypass;" = some ⟨[.int], some (.object "com/example/grantwright/grantwright/Bypass")⟩ := by decide +kernel
theorem pd__Ljava_lang_String__Z : parseMethodDescriptor "(Ljava/lang/String;)Z" = some ⟨[(.object "java/lang/String")], some .boolean⟩ := by decide +kernel
theorem pd___C_V : parseMethodDescriptor "([C)V" = some ⟨[(.array .char)], none⟩ := by decide +kernel
def Q_rm0 (Z : State) (p1 : Int32) (p2 : Int32) (p3 : Int32) (p4 : Int32) (p5 : Int32) (G1 : Int32) (w_NONE : Addr) (w_WHEN_NULL : Addr) (w_WHEN_INITIAL : Addr) (w_WHEN_INITIAL_OR_NULL : Addr) (h0 : Heap) (n0 : Nat) (v : Option Value) (h : Heap) (L : List Loc) : Prop := v = some (.int (1 : Int32)) ∧ Fr n0 L
set_option maxRecDepth 65536 in
set_option maxHeartbeats 40000000 in
theorem rm0 (l : Launch) (Z : State) (a0 : Array Value) (hw : ∀ d ∈ tables_1, d.before a0 Z = true) (ws : List Jvm.Cond) (p1 : Int32) (p2 : Int32) (p3 : Int32) (p4 : Int32) (p5 : Int32) (G1 : Int32) (w_NONE : Addr) (w_WHEN_NULL : Addr) (w_WHEN_INITIAL : Addr) (w_WHEN_INITIAL_OR_NULL : Addr) (h0 : Heap) (n0 : Nat) (OL : Old Z n0 h0) (AD : Sta Z Z.heap "java/lang/StringUTF16" "$assertionsDisabled" "Z" (.int (1 : Int32))) (HB : Sta Z Z.heap "java/lang/StringUTF16" "HI_BYTE_SHIFT" "I" (.int (0 : Int32))) (LB : Sta Z Z.heap "java/lang/StringUTF16" "LO_BYTE_SHIFT" "I" (.int (8 : Int32))) (O2 : Sta Z Z.heap "java/lang/String" "COMPACT_STRINGS" "Z" (.int G1)) (P5 : ¬ (G1 = (0 : Int32))) (s_NONE : Sta Z Z.heap "com/example/grantwright/grantwright/Bypass" "NONE" "Lcom/example/grantwright/grantwright/Bypass;" (.ref w_NONE)) (s_WHEN_NULL : Sta Z Z.heap "com/example/grantwright/grantwright/Bypass" "WHEN_NULL" "Lcom/example/grantwright/grantwright/Bypass;" (.ref w_WHEN_NULL)) (s_WHEN_INITIAL : Sta Z Z.heap "com/example/grantwright/grantwright/Bypass" "WHEN_INITIAL" "Lcom/example/grantwright/grantwright/Bypass;" (.ref w_WHEN_INITIAL)) (s_WHEN_INITIAL_OR_NULL : Sta Z Z.heap "com/example/grantwright/grantwright/Bypass" "WHEN_INITIAL_OR_NULL" "Lcom/example/grantwright/grantwright/Bypass;" (.ref w_WHEN_INITIAL_OR_NULL)) (e_NONE : Exa Z Z.heap w_NONE "com/example/grantwright/grantwright/Bypass") (e_WHEN_NULL : Exa Z Z.heap w_WHEN_NULL "com/example/grantwright/grantwright/Bypass") (e_WHEN_INITIAL : Exa Z Z.heap w_WHEN_INITIAL "com/example/grantwright/grantwright/Bypass") (e_WHEN_INITIAL_OR_NULL : Exa Z Z.heap w_WHEN_INITIAL_OR_NULL "com/example/grantwright/grantwright/Bypass") (fn_NONE : Fld Z Z.heap w_NONE "com/example/grantwright/grantwright/Bypass" "takesNull" "Z" (.int 0)) (fn_WHEN_NULL : Fld Z Z.heap w_WHEN_NULL "com/example/grantwright/grantwright/Bypass" "takesNull" "Z" (.int 1)) (fn_WHEN_INITIAL : Fld Z Z.heap w_WHEN_INITIAL "com/example/grantwright/grantwright/Bypass" "takesNull" "Z" (.int 0)) (fn_WHEN_INITIAL_OR_NULL : Fld Z Z.heap w_WHEN_INITIAL_OR_NULL "com/example/grantwright/grantwright/Bypass" "takesNull" "Z" (.int 1)) (fi_NONE : Fld Z Z.heap w_NONE "com/example/grantwright/grantwright/Bypass" "takesInitial" "Z" (.int 0)) (fi_WHEN_NULL : Fld Z Z.heap w_WHEN_NULL "com/example/grantwright/grantwright/Bypass" "takesInitial" "Z" (.int 0)) (fi_WHEN_INITIAL : Fld Z Z.heap w_WHEN_INITIAL "com/example/grantwright/grantwright/Bypass" "takesInitial" "Z" (.int 1)) (fi_WHEN_INITIAL_OR_NULL : Fld Z Z.heap w_WHEN_INITIAL_OR_NULL "com/example/grantwright/grantwright/Bypass" "takesInitial" "Z" (.int 1)) :
    MetFree l x (head1 (Jvm.Cond.code x code maxLocals ret :: ws) room_1) (fun a U => a = #[(.int p1), (.int p2), (.int p3), (.int p4), (.int p5)] ∧ Z.Warmed39 U.vm ∧ U.heap = h0 ∧ CHv Z consts_1 U.vm h0) (fun _ _ _ _ _ => True) (fun _ U o U' => ∃ v L, o = .returned v ∧ Q_rm0 Z p1 p2 p3 p4 p5 G1 w_NONE w_WHEN_NULL w_WHEN_INITIAL w_WHEN_INITIAL_OR_NULL h0 n0 v U'.heap L ∧ CHr Z consts_1 U.vm U.heap U'.vm U'.heap ∧ ReturnedEndW U o U' L room_1.cells room_1.slots) := by
  refine MetFree.of_bodySF (plainFor_of_name pn_com_example_grantwright_grantwright_BypassTakesPinLaw) hisR ?_
  intro p e s m args below meth c s₁ Bd hml0 hP hK
  obtain ⟨rfl, hZ, hh, CH0⟩ := hP
  have hx := Bd.exec
  have hby := Bd.bytes
  have hml : c.maxLocals = 21 := hml0
  have hown : s.vm.findClass "com/example/grantwright/grantwright/BypassTakesPinLaw" = some m.cls := findClass_of_methodNamed Bd.named
  have hnm := (name_of_methodNamed Bd.named Bd.method).1
  have X0 : Stand p l e room_1 (s.setVm s.vm) m #[(.int p1), (.int p2), (.int p3), (.int p4), (.int p5)] below meth c s₁ [] 0 0 := Stand.of_body Bd
  have hZ : Z.Warmed39 (s.setVm s.vm).vm := hZ
  have hown : (s.setVm s.vm).vm.findClass "com/example/grantwright/grantwright/BypassTakesPinLaw" = some m.cls := hown
  have hS : s.Since s.vm h0.size := (State.WarmedH.refl s).since _
  have hk : h0.size ≤ h0.size := Nat.le_refl _
  have CR0 : CHr Z consts_1 s.vm h0 s.vm h0 := CHr.refl CH0
  have hEL := own_EW Z a0 hw
  have wS := own_wS Z a0 hw
  have e0 : s₁.heap = h0 := by rw [← hh, Bd.state]; rfl
  have N0 := Fr.nil n0
  have pre0 : oL p e below s₁ (mkF m 0 #[oI p1, oI p2, oI p3, oI p4, oI p5, oU, oU, oU, oU, oU, oU, oU, oU, oU, oU, oU, oU, oU, oU, oU, oU] []) s₁ (entryFrame m #[(.int p1), (.int p2), (.int p3), (.int p4), (.int p5)] maxLocals) := fun t k => castTop (by first | (simp [entryFrame, mkF, argsToLocals, Value.category, maxLocals]; done) | rfl) k
  obtain ⟨bp, tn, ti, hbp, Ebp, FN, FI, hn, hi, htn, hti⟩ : ∃ (bp : Addr) (tn ti : Int32), bp = (if (p1 &&& (3 : Int32)) = 0 then w_NONE else if (p1 &&& (3 : Int32)) = 1 then w_WHEN_NULL else if (p1 &&& (3 : Int32)) = 2 then w_WHEN_INITIAL else w_WHEN_INITIAL_OR_NULL) ∧ Exa Z Z.heap bp "com/example/grantwright/grantwright/Bypass" ∧ Fld Z Z.heap bp "com/example/grantwright/grantwright/Bypass" "takesNull" "Z" (.int tn) ∧ Fld Z Z.heap bp "com/example/grantwright/grantwright/Bypass" "takesInitial" "Z" (.int ti) ∧ (tn = 0 ∨ tn = 1) ∧ (ti = 0 ∨ ti = 1) ∧ tn = (if (p1 &&& (3 : Int32)) = 1 ∨ (p1 &&& (3 : Int32)) = 3 then 1 else 0) ∧ ti = (if (p1 &&& (3 : Int32)) = 2 ∨ (p1 &&& (3 : Int32)) = 3 then 1 else 0) := by
    rcases own_and3 p1 with q | q | q | q
    · refine ⟨w_NONE, 0, 0, by rw [q]; simp, e_NONE, fn_NONE, fi_NONE, by simp, by simp, by rw [q]; simp, by rw [q]; simp⟩
    · refine ⟨w_WHEN_NULL, 1, 0, by rw [q]; simp, e_WHEN_NULL, fn_WHEN_NULL, fi_WHEN_NULL, by simp, by simp, by rw [q]; simp, by rw [q]; simp⟩
    · refine ⟨w_WHEN_INITIAL, 0, 1, by rw [q]; simp, e_WHEN_INITIAL, fn_WHEN_INITIAL, fi_WHEN_INITIAL, by simp, by simp, by rw [q]; simp, by rw [q]; simp⟩
    · refine ⟨w_WHEN_INITIAL_OR_NULL, 1, 1, by rw [q]; simp, e_WHEN_INITIAL_OR_NULL, fn_WHEN_INITIAL_OR_NULL, fi_WHEN_INITIAL_OR_NULL, by simp, by simp, by rw [q]; simp, by rw [q]; simp⟩
  have pre11 : oL p e below s₁ (mkF m 7 #[oI p1, oI p2, oI p3, oI p4, oI p5, oI (p1 &&& (3 : Int32)), oU, oU, oU, oU, oU, oU, oU, oU, oU, oU, oU, oU, oU, oU, oU] [oi (p1 &&& (3 : Int32))]) s₁ (entryFrame m #[(.int p1), (.int p2), (.int p3), (.int p4), (.int p5)] maxLocals) := fun t k => pre0 t (by
    refine XS.iloadN X0.here hx rfl (hb hby at_0) rfl ?_
    refine XS.iconst X0.here hx rfl (hb hby at_1) ?_
    refine XS.iand X0.here hx rfl (hb hby at_2) rfl ?_
    refine XS.istore X0.here hx rfl (hb hby at_3) rfl (l' := #[oI p1, oI p2, oI p3, oI p4, oI p5, oI (p1 &&& (3 : Int32)), oU, oU, oU, oU, oU, oU, oU, oU, oU, oU, oU, oU, oU, oU, oU]) rfl ?_
    show oS p e below s₁ (mkF m 5 #[oI p1, oI p2, oI p3, oI p4, oI p5, oI (p1 &&& (3 : Int32)), oU, oU, oU, oU, oU, oU, oU, oU, oU, oU, oU, oU, oU, oU, oU] []) _
    refine XS.iload X0.here hx rfl (hb hby at_5) rfl ?_
    exact k)
  obtain ⟨_, _, ⟨T12, L12, k12, n12⟩, -, X12, ⟨Lc12, hQ12, l12, y12, z12⟩, st12⟩ := Jvm.LawKit.callS X0 hx (y := (⟨"com/example/grantwright/grantwright/BypassTakesPinLaw", "pick", "(I)Lcom/example/grantwright/grantwright/Bypass;"⟩ : MethodName)) hown (mvT hZ (oW hw 0 rfl)) (mvT hZ (oW hw 1 rfl)) (mvT hZ (oW hw 2 rfl)) (mvT hZ (oW hw 3 rfl)) (by decide) (backOf (W := 0) (rm_pick l Z a0 hw [] (p1 &&& (3 : Int32)) w_NONE w_WHEN_NULL w_WHEN_INITIAL w_WHEN_INITIAL_OR_NULL bp h0 n0 OL s_NONE s_WHEN_NULL s_WHEN_INITIAL s_WHEN_INITIAL_OR_NULL hbp) hZ (oW hw 3 rfl) (oW hw 2 rfl) (by decide) (by decide)) (g := (mkF m 7 #[oI p1, oI p2, oI p3, oI p4, oI p5, oI (p1 &&& (3 : Int32)), oU, oU, oU, oU, oU, oU, oU, oU, oU, oU, oU, oU, oU, oU, oU] [oi (p1 &&& (3 : Int32))])) rfl (by rw [hml]; rfl) (argsL := [(.int (p1 &&& (3 : Int32)))]) (rest := []) (lenOf pd__I_Lcom_example_grantwright_grantwright_Bypass_ rfl) rfl (by show 2 * 0 + _ ≤ _; exact Nat.le_of_eq rfl) (hb hby at_7) (fun _ _ => ⟨rfl, e0, (by decide : 0 + 0 ≤ _), (by decide : 0 + 0 ≤ _)⟩)
  dsimp only [Pt.U, Pt.locs, Pt.cells, Pt.slots] at X12 l12 y12 z12 st12 hQ12
  subst l12 y12 z12
  obtain ⟨rfl, N12q, e12⟩ := hQ12
  have N12 := Fr.app N0 N12q
  have pre13 : oL p e below T12 (mkF m 18 #[oI p1, oI p2, oI p3, oI p4, oI p5, oI (p1 &&& (3 : Int32)), oR bp, oI (p2 &&& (7 : Int32)), oU, oU, oU, oU, oU, oU, oU, oU, oU, oU, oU, oU, oU] []) s₁ (entryFrame m #[(.int p1), (.int p2), (.int p3), (.int p4), (.int p5)] maxLocals) := fun t k => pre11 t (by
    refine st12 _ ?_
    refine XS.astore X12.here hx rfl (hb hby at_10) rfl rfl (l' := #[oI p1, oI p2, oI p3, oI p4, oI p5, oI (p1 &&& (3 : Int32)), oR bp, oU, oU, oU, oU, oU, oU, oU, oU, oU, oU, oU, oU, oU, oU]) rfl ?_
    refine XS.iloadN X12.here hx rfl (hb hby at_12) rfl ?_
    show oS p e below T12 (mkF m 13 #[oI p1, oI p2, oI p3, oI p4, oI p5, oI (p1 &&& (3 : Int32)), oR bp, oU, oU, oU, oU, oU, oU, oU, oU, oU, oU, oU, oU, oU, oU] [oi p2]) _
    refine XS.bipush X12.here hx rfl (hb hby at_13) ?_
    refine XS.iand X12.here hx rfl (hb hby at_15) rfl ?_
    refine XS.istore X12.here hx rfl (hb hby at_16) rfl (l' := #[oI p1, oI p2, oI p3, oI p4, oI p5, oI (p1 &&& (3 : Int32)), oR bp, oI (p2 &&& (7 : Int32)), oU, oU, oU, oU, oU, oU, oU, oU, oU, oU, oU, oU, oU]) rfl ?_
    exact k)
  obtain ⟨vi14, hj14, pre14⟩ : ∃ vi14 : Int32, (nar .char vi14 = vi14) ∧ oL p e below T12 (mkF m 20 #[oI p1, oI p2, oI p3, oI p4, oI p5, oI (p1 &&& (3 : Int32)), oR bp, oI (p2 &&& (7 : Int32)), oU, oU, oU, oU, oU, oU, oU, oU, oU, oU, oU, oU, oU] [oi vi14]) s₁ (entryFrame m #[(.int p1), (.int p2), (.int p3), (.int p4), (.int p5)] maxLocals) := by
    have pre15 : oL p e below T12 (mkF m 20 #[oI p1, oI p2, oI p3, oI p4, oI p5, oI (p1 &&& (3 : Int32)), oR bp, oI (p2 &&& (7 : Int32)), oU, oU, oU, oU, oU, oU, oU, oU, oU, oU, oU, oU, oU] [oi (p3.toUInt32.toUInt16.toUInt32.toInt32)]) s₁ (entryFrame m #[(.int p1), (.int p2), (.int p3), (.int p4), (.int p5)] maxLocals) := fun t k => pre13 t (by
      refine XS.iloadN X12.here hx rfl (hb hby at_18) rfl ?_
      show oS p e below T12 (mkF m 19 #[oI p1, oI p2, oI p3, oI p4, oI p5, oI (p1 &&& (3 : Int32)), oR bp, oI (p2 &&& (7 : Int32)), oU, oU, oU, oU, oU, oU, oU, oU, oU, oU, oU, oU, oU] [oi p3]) _
      refine XS.i2c X12.here hx rfl (hb hby at_19) rfl ?_
      exact k)
    exact ⟨(p3.toUInt32.toUInt16.toUInt32.toInt32), own_i2c _, pre15⟩
  have pre16 : oL p e below T12 (mkF m 22 #[oI p1, oI p2, oI p3, oI p4, oI p5, oI (p1 &&& (3 : Int32)), oR bp, oI (p2 &&& (7 : Int32)), oI vi14, oU, oU, oU, oU, oU, oU, oU, oU, oU, oU, oU, oU] []) s₁ (entryFrame m #[(.int p1), (.int p2), (.int p3), (.int p4), (.int p5)] maxLocals) := fun t k => pre14 t (by
    refine XS.istore X12.here hx rfl (hb hby at_20) rfl (l' := #[oI p1, oI p2, oI p3, oI p4, oI p5, oI (p1 &&& (3 : Int32)), oR bp, oI (p2 &&& (7 : Int32)), oI vi14, oU, oU, oU, oU, oU, oU, oU, oU, oU, oU, oU, oU]) rfl ?_
    show oS p e below T12 (mkF m 22 #[oI p1, oI p2, oI p3, oI p4, oI p5, oI (p1 &&& (3 : Int32)), oR bp, oI (p2 &&& (7 : Int32)), oI vi14, oU, oU, oU, oU, oU, oU, oU, oU, oU, oU, oU, oU] []) _
    exact k)
  obtain ⟨vi17, hj17, pre17⟩ : ∃ vi17 : Int32, (nar .char vi17 = vi17) ∧ oL p e below T12 (mkF m 24 #[oI p1, oI p2, oI p3, oI p4, oI p5, oI (p1 &&& (3 : Int32)), oR bp, oI (p2 &&& (7 : Int32)), oI vi14, oU, oU, oU, oU, oU, oU, oU, oU, oU, oU, oU, oU] [oi vi17]) s₁ (entryFrame m #[(.int p1), (.int p2), (.int p3), (.int p4), (.int p5)] maxLocals) := by
    have pre18 : oL p e below T12 (mkF m 24 #[oI p1, oI p2, oI p3, oI p4, oI p5, oI (p1 &&& (3 : Int32)), oR bp, oI (p2 &&& (7 : Int32)), oI vi14, oU, oU, oU, oU, oU, oU, oU, oU, oU, oU, oU, oU] [oi (p4.toUInt32.toUInt16.toUInt32.toInt32)]) s₁ (entryFrame m #[(.int p1), (.int p2), (.int p3), (.int p4), (.int p5)] maxLocals) := fun t k => pre16 t (by
      refine XS.iloadN X12.here hx rfl (hb hby at_22) rfl ?_
      refine XS.i2c X12.here hx rfl (hb hby at_23) rfl ?_
      exact k)
    exact ⟨(p4.toUInt32.toUInt16.toUInt32.toInt32), own_i2c _, pre18⟩
  have pre19 : oL p e below T12 (mkF m 26 #[oI p1, oI p2, oI p3, oI p4, oI p5, oI (p1 &&& (3 : Int32)), oR bp, oI (p2 &&& (7 : Int32)), oI vi14, oI vi17, oU, oU, oU, oU, oU, oU, oU, oU, oU, oU, oU] []) s₁ (entryFrame m #[(.int p1), (.int p2), (.int p3), (.int p4), (.int p5)] maxLocals) := fun t k => pre17 t (by
    refine XS.istore X12.here hx rfl (hb hby at_24) rfl (l' := #[oI p1, oI p2, oI p3, oI p4, oI p5, oI (p1 &&& (3 : Int32)), oR bp, oI (p2 &&& (7 : Int32)), oI vi14, oI vi17, oU, oU, oU, oU, oU, oU, oU, oU, oU, oU, oU]) rfl ?_
    exact k)
  obtain ⟨vi20, hj20, pre20⟩ : ∃ vi20 : Int32, (nar .char vi20 = vi20) ∧ oL p e below T12 (mkF m 29 #[oI p1, oI p2, oI p3, oI p4, oI p5, oI (p1 &&& (3 : Int32)), oR bp, oI (p2 &&& (7 : Int32)), oI vi14, oI vi17, oU, oU, oU, oU, oU, oU, oU, oU, oU, oU, oU] [oi vi20]) s₁ (entryFrame m #[(.int p1), (.int p2), (.int p3), (.int p4), (.int p5)] maxLocals) := by
    have pre21 : oL p e below T12 (mkF m 29 #[oI p1, oI p2, oI p3, oI p4, oI p5, oI (p1 &&& (3 : Int32)), oR bp, oI (p2 &&& (7 : Int32)), oI vi14, oI vi17, oU, oU, oU, oU, oU, oU, oU, oU, oU, oU, oU] [oi (p5.toUInt32.toUInt16.toUInt32.toInt32)]) s₁ (entryFrame m #[(.int p1), (.int p2), (.int p3), (.int p4), (.int p5)] maxLocals) := fun t k => pre19 t (by
      refine XS.iload X12.here hx rfl (hb hby at_26) rfl ?_
      refine XS.i2c X12.here hx rfl (hb hby at_28) rfl ?_
      exact k)
    exact ⟨(p5.toUInt32.toUInt16.toUInt32.toInt32), own_i2c _, pre21⟩
  have pre22 : oL p e below T12 (mkF m 32 #[oI p1, oI p2, oI p3, oI p4, oI p5, oI (p1 &&& (3 : Int32)), oR bp, oI (p2 &&& (7 : Int32)), oI vi14, oI vi17, oI vi20, oU, oU, oU, oU, oU, oU, oU, oU, oU, oU] [oi 0]) s₁ (entryFrame m #[(.int p1), (.int p2), (.int p3), (.int p4), (.int p5)] maxLocals) := fun t k => pre20 t (by
    refine XS.istore X12.here hx rfl (hb hby at_29) rfl (l' := #[oI p1, oI p2, oI p3, oI p4, oI p5, oI (p1 &&& (3 : Int32)), oR bp, oI (p2 &&& (7 : Int32)), oI vi14, oI vi17, oI vi20, oU, oU, oU, oU, oU, oU, oU, oU, oU, oU]) rfl ?_
    refine XS.iconst X12.here hx rfl (hb hby at_31) ?_
    exact k)
  obtain ⟨T23, h23, k23, X23, e23, E23, A23, st23⟩ := newP X12 hx hZ (oW hw 7 rfl) e12 (g := (mkF m 32 #[oI p1, oI p2, oI p3, oI p4, oI p5, oI (p1 &&& (3 : Int32)), oR bp, oI (p2 &&& (7 : Int32)), oI vi14, oI vi17, oI vi20, oU, oU, oU, oU, oU, oU, oU, oU, oU, oU] [oi 0])) rfl (hb hby at_32) rfl (by decide) (cap := 0) (by decide) (by decide) (by decide) (by decide)
  obtain ⟨b23, g23⟩ : ∃ z, z = h0.size := ⟨_, rfl⟩
  rw [← g23] at A23 st23
  have sf24 : Safe Z consts_1 s.vm h0 b23 := Safe.new (Nat.le_of_eq g23.symm)
  have ge_b23 : n0 ≤ b23 := Nat.le_trans (OL.1 ▸ OL.2.1) (Nat.le_of_eq g23.symm)
  have sz_b23 : h0.size ≤ b23 := Nat.le_trans (Keep.refl h0 []).1 (Nat.le_of_eq g23.symm)
  have sf25 := Safe.ext E23 CH0 sf24
  have cr26 := CHr.ext E23 CH0
  have CH26 := cr26.1
  have CR26 := CR0.trans cr26
  have OL27 := OL.ext E23
  have K28 : Keep h0 h23 [] := (Keep.refl h0 []).ext E23
  have hk := Nat.le_trans hk E23.1
  have V23 : Arv Z h23 b23 k23 .char (0 : Int32) [] (.int (0 : Int32)) := Arv.new A23 (by decide)
  have pre29 : oL p e below T23 (mkF m 37 #[oI p1, oI p2, oI p3, oI p4, oI p5, oI (p1 &&& (3 : Int32)), oR bp, oI (p2 &&& (7 : Int32)), oI vi14, oI vi17, oI vi20, oR b23, oU, oU, oU, oU, oU, oU, oU, oU, oU] [oi 1]) s₁ (entryFrame m #[(.int p1), (.int p2), (.int p3), (.int p4), (.int p5)] maxLocals) := fun t k => pre22 t (by
    refine st23 _ ?_
    show oS p e below T23 (mkF m 34 #[oI p1, oI p2, oI p3, oI p4, oI p5, oI (p1 &&& (3 : Int32)), oR bp, oI (p2 &&& (7 : Int32)), oI vi14, oI vi17, oI vi20, oU, oU, oU, oU, oU, oU, oU, oU, oU, oU] [ow b23]) _
    refine XS.astore X23.here hx rfl (hb hby at_34) rfl rfl (l' := #[oI p1, oI p2, oI p3, oI p4, oI p5, oI (p1 &&& (3 : Int32)), oR bp, oI (p2 &&& (7 : Int32)), oI vi14, oI vi17, oI vi20, oR b23, oU, oU, oU, oU, oU, oU, oU, oU, oU]) rfl ?_
    refine XS.iconst X23.here hx rfl (hb hby at_36) ?_
    exact k)
  obtain ⟨T30, h30, k30, X30, e30, E30, A30, st30⟩ := newP X23 hx hZ (oW hw 7 rfl) e23 (g := (mkF m 37 #[oI p1, oI p2, oI p3, oI p4, oI p5, oI (p1 &&& (3 : Int32)), oR bp, oI (p2 &&& (7 : Int32)), oI vi14, oI vi17, oI vi20, oR b23, oU, oU, oU, oU, oU, oU, oU, oU, oU] [oi 1])) rfl (hb hby at_37) rfl (by decide) (cap := 1) (by decide) (by decide) (by decide) (by decide)
  obtain ⟨b30, g30⟩ : ∃ z, z = h23.size := ⟨_, rfl⟩
  rw [← g30] at A30 st30
  have sf31 : Safe Z consts_1 s.vm h23 b30 := Safe.new (Nat.le_of_eq g30.symm)
  have ne32 : b23 ≠ b30 := Nat.ne_of_lt (Nat.lt_of_lt_of_le V23.lt (Nat.le_of_eq g30.symm))
  have ge_b30 : n0 ≤ b30 := Nat.le_trans (OL27.1 ▸ OL27.2.1) (Nat.le_of_eq g30.symm)
  have sz_b30 : h0.size ≤ b30 := Nat.le_trans K28.1 (Nat.le_of_eq g30.symm)
  have sf33 := Safe.ext E30 CH26 sf25
  have sf34 := Safe.ext E30 CH26 sf31
  have cr35 := CHr.ext E30 CH26
  have CH35 := cr35.1
  have CR35 := CR26.trans cr35
  have f36 := V23.ext E30
  have OL37 := OL27.ext E30
  have K38 : Keep h0 h30 [] := K28.ext E30
  have hk := Nat.le_trans hk E30.1
  have V30 : Arv Z h30 b30 k30 .char (1 : Int32) [(.int (0 : Int32))] (.int (0 : Int32)) := (Arv.new A30 (by decide)).pad (pad_rep [] (.int (0 : Int32)) 1)
  have pre39 : oL p e below T30 (mkF m 43 #[oI p1, oI p2, oI p3, oI p4, oI p5, oI (p1 &&& (3 : Int32)), oR bp, oI (p2 &&& (7 : Int32)), oI vi14, oI vi17, oI vi20, oR b23, oU, oU, oU, oU, oU, oU, oU, oU, oU] [oi vi14, oi 0, ow b30, ow b30]) s₁ (entryFrame m #[(.int p1), (.int p2), (.int p3), (.int p4), (.int p5)] maxLocals) := fun t k => pre29 t (by
    refine st30 _ ?_
    refine XS.dup X30.here hx rfl (hb hby at_39) rfl rfl ?_
    show oS p e below T30 (mkF m 40 #[oI p1, oI p2, oI p3, oI p4, oI p5, oI (p1 &&& (3 : Int32)), oR bp, oI (p2 &&& (7 : Int32)), oI vi14, oI vi17, oI vi20, oR b23, oU, oU, oU, oU, oU, oU, oU, oU, oU] [ow b30, ow b30]) _
    refine XS.iconst X30.here hx rfl (hb hby at_40) ?_
    refine XS.iload X30.here hx rfl (hb hby at_41) rfl ?_
    exact k)
  obtain ⟨cl40, Ar40, qc40, Sz40, Nn40, Hs40, Gs40⟩ := id V30
  obtain ⟨T40, h40, X40, e40, W40, st40⟩ := stC X30 hx hZ e30 Ar40 (j := (0 : Int32)) (inb_of Sz40 ⟨by decide, by decide⟩) (g := (mkF m 43 #[oI p1, oI p2, oI p3, oI p4, oI p5, oI (p1 &&& (3 : Int32)), oR bp, oI (p2 &&& (7 : Int32)), oI vi14, oI vi17, oI vi20, oR b23, oU, oU, oU, oU, oU, oU, oU, oU, oU] [oi vi14, oi 0, ow b30, ow b30])) rfl rfl (hb hby at_43)
  rw [hj14] at W40
  have V40 : Arv Z h40 b30 k30 .char (1 : Int32) [(.int vi14)] (.int (0 : Int32)) := Arv.set Ar40 qc40 Sz40 Nn40 Hs40 Gs40 (own_fitw_char hj14) W40 0 rfl (Nat.le_of_ble_eq_true rfl)
  have N40 := Fr.snoc X40 N12 ge_b30
  have sf41 := Safe.wr W40 sf34 CH35 sf33
  have sf42 := Safe.wr W40 sf34 CH35 sf34
  have cr43 := CHr.wr W40 sf34 CH35
  have CH43 := cr43.1
  have CR43 := CR35.trans cr43
  have hk := Nat.le_trans hk (Keep.of_wr W40).1
  have f44 := f36.other W40 ne32
  have OL45 := OL37.wr W40 ge_b30
  have K46 : Keep h0 h40 [] := K38.wr W40 (Or.inr sz_b30)
  have pre47 : oL p e below T40 (mkF m 47 #[oI p1, oI p2, oI p3, oI p4, oI p5, oI (p1 &&& (3 : Int32)), oR bp, oI (p2 &&& (7 : Int32)), oI vi14, oI vi17, oI vi20, oR b23, oR b30, oU, oU, oU, oU, oU, oU, oU, oU] [oi 2]) s₁ (entryFrame m #[(.int p1), (.int p2), (.int p3), (.int p4), (.int p5)] maxLocals) := fun t k => pre39 t (by
    refine st40 _ ?_
    refine XS.astore X40.here hx rfl (hb hby at_44) rfl rfl (l' := #[oI p1, oI p2, oI p3, oI p4, oI p5, oI (p1 &&& (3 : Int32)), oR bp, oI (p2 &&& (7 : Int32)), oI vi14, oI vi17, oI vi20, oR b23, oR b30, oU, oU, oU, oU, oU, oU, oU, oU]) rfl ?_
    show oS p e below T40 (mkF m 46 #[oI p1, oI p2, oI p3, oI p4, oI p5, oI (p1 &&& (3 : Int32)), oR bp, oI (p2 &&& (7 : Int32)), oI vi14, oI vi17, oI vi20, oR b23, oR b30, oU, oU, oU, oU, oU, oU, oU, oU] []) _
    refine XS.iconst X40.here hx rfl (hb hby at_46) ?_
    exact k)
  obtain ⟨T48, h48, k48, X48, e48, E48, A48, st48⟩ := newP X40 hx hZ (oW hw 7 rfl) e40 (g := (mkF m 47 #[oI p1, oI p2, oI p3, oI p4, oI p5, oI (p1 &&& (3 : Int32)), oR bp, oI (p2 &&& (7 : Int32)), oI vi14, oI vi17, oI vi20, oR b23, oR b30, oU, oU, oU, oU, oU, oU, oU, oU] [oi 2])) rfl (hb hby at_47) rfl (by decide) (cap := 2) (by decide) (by decide) (by decide) (by decide)
  obtain ⟨b48, g48⟩ : ∃ z, z = h40.size := ⟨_, rfl⟩
  rw [← g48] at A48 st48
  have sf49 : Safe Z consts_1 s.vm h40 b48 := Safe.new (Nat.le_of_eq g48.symm)
  have ne50 : b23 ≠ b48 := Nat.ne_of_lt (Nat.lt_of_lt_of_le f44.lt (Nat.le_of_eq g48.symm))
  have ne51 : b30 ≠ b48 := Nat.ne_of_lt (Nat.lt_of_lt_of_le V40.lt (Nat.le_of_eq g48.symm))
  have ge_b48 : n0 ≤ b48 := Nat.le_trans (OL45.1 ▸ OL45.2.1) (Nat.le_of_eq g48.symm)
  have sz_b48 : h0.size ≤ b48 := Nat.le_trans K46.1 (Nat.le_of_eq g48.symm)
  have sf52 := Safe.ext E48 CH43 sf41
  have sf53 := Safe.ext E48 CH43 sf42
  have sf54 := Safe.ext E48 CH43 sf49
  have cr55 := CHr.ext E48 CH43
  have CH55 := cr55.1
  have CR55 := CR43.trans cr55
  have f56 := f44.ext E48
  have f57 := V40.ext E48
  have OL58 := OL45.ext E48
  have K59 : Keep h0 h48 [] := K46.ext E48
  have hk := Nat.le_trans hk E48.1
  have V48 : Arv Z h48 b48 k48 .char (2 : Int32) [(.int (0 : Int32)), (.int (0 : Int32))] (.int (0 : Int32)) := (Arv.new A48 (by decide)).pad (pad_rep [] (.int (0 : Int32)) 2)
  have pre60 : oL p e below T48 (mkF m 53 #[oI p1, oI p2, oI p3, oI p4, oI p5, oI (p1 &&& (3 : Int32)), oR bp, oI (p2 &&& (7 : Int32)), oI vi14, oI vi17, oI vi20, oR b23, oR b30, oU, oU, oU, oU, oU, oU, oU, oU] [oi vi14, oi 0, ow b48, ow b48]) s₁ (entryFrame m #[(.int p1), (.int p2), (.int p3), (.int p4), (.int p5)] maxLocals) := fun t k => pre47 t (by
    refine st48 _ ?_
    refine XS.dup X48.here hx rfl (hb hby at_49) rfl rfl ?_
    refine XS.iconst X48.here hx rfl (hb hby at_50) ?_
    show oS p e below T48 (mkF m 51 #[oI p1, oI p2, oI p3, oI p4, oI p5, oI (p1 &&& (3 : Int32)), oR bp, oI (p2 &&& (7 : Int32)), oI vi14, oI vi17, oI vi20, oR b23, oR b30, oU, oU, oU, oU, oU, oU, oU, oU] [oi 0, ow b48, ow b48]) _
    refine XS.iload X48.here hx rfl (hb hby at_51) rfl ?_
    exact k)
  obtain ⟨cl61, Ar61, qc61, Sz61, Nn61, Hs61, Gs61⟩ := id V48
  obtain ⟨T61, h61, X61, e61, W61, st61⟩ := stC X48 hx hZ e48 Ar61 (j := (0 : Int32)) (inb_of Sz61 ⟨by decide, by decide⟩) (g := (mkF m 53 #[oI p1, oI p2, oI p3, oI p4, oI p5, oI (p1 &&& (3 : Int32)), oR bp, oI (p2 &&& (7 : Int32)), oI vi14, oI vi17, oI vi20, oR b23, oR b30, oU, oU, oU, oU, oU, oU, oU, oU] [oi vi14, oi 0, ow b48, ow b48])) rfl rfl (hb hby at_53)
  rw [hj14] at W61
  have V61 : Arv Z h61 b48 k48 .char (2 : Int32) [(.int vi14), (.int (0 : Int32))] (.int (0 : Int32)) := Arv.set Ar61 qc61 Sz61 Nn61 Hs61 Gs61 (own_fitw_char hj14) W61 0 rfl (Nat.le_of_ble_eq_true rfl)
  have N61 := Fr.snoc X61 N40 ge_b48
  have sf62 := Safe.wr W61 sf54 CH55 sf52
  have sf63 := Safe.wr W61 sf54 CH55 sf53
  have sf64 := Safe.wr W61 sf54 CH55 sf54
  have cr65 := CHr.wr W61 sf54 CH55
  have CH65 := cr65.1
  have CR65 := CR55.trans cr65
  have hk := Nat.le_trans hk (Keep.of_wr W61).1
  have f66 := f56.other W61 ne50
  have f67 := f57.other W61 ne51
  have OL68 := OL58.wr W61 ge_b48
  have K69 : Keep h0 h61 [] := K59.wr W61 (Or.inr sz_b48)
  have pre70 : oL p e below T61 (mkF m 58 #[oI p1, oI p2, oI p3, oI p4, oI p5, oI (p1 &&& (3 : Int32)), oR bp, oI (p2 &&& (7 : Int32)), oI vi14, oI vi17, oI vi20, oR b23, oR b30, oU, oU, oU, oU, oU, oU, oU, oU] [oi vi17, oi 1, ow b48, ow b48]) s₁ (entryFrame m #[(.int p1), (.int p2), (.int p3), (.int p4), (.int p5)] maxLocals) := fun t k => pre60 t (by
    refine st61 _ ?_
    refine XS.dup X61.here hx rfl (hb hby at_54) rfl rfl ?_
    refine XS.iconst X61.here hx rfl (hb hby at_55) ?_
    show oS p e below T61 (mkF m 56 #[oI p1, oI p2, oI p3, oI p4, oI p5, oI (p1 &&& (3 : Int32)), oR bp, oI (p2 &&& (7 : Int32)), oI vi14, oI vi17, oI vi20, oR b23, oR b30, oU, oU, oU, oU, oU, oU, oU, oU] [oi 1, ow b48, ow b48]) _
    refine XS.iload X61.here hx rfl (hb hby at_56) rfl ?_
    exact k)
  obtain ⟨cl71, Ar71, qc71, Sz71, Nn71, Hs71, Gs71⟩ := id V61
  obtain ⟨T71, h71, X71, e71, W71, st71⟩ := stC X61 hx hZ e61 Ar71 (j := (1 : Int32)) (inb_of Sz71 ⟨by decide, by decide⟩) (g := (mkF m 58 #[oI p1, oI p2, oI p3, oI p4, oI p5, oI (p1 &&& (3 : Int32)), oR bp, oI (p2 &&& (7 : Int32)), oI vi14, oI vi17, oI vi20, oR b23, oR b30, oU, oU, oU, oU, oU, oU, oU, oU] [oi vi17, oi 1, ow b48, ow b48])) rfl rfl (hb hby at_58)
  rw [hj17] at W71
  have V71 : Arv Z h71 b48 k48 .char (2 : Int32) [(.int vi14), (.int vi17)] (.int (0 : Int32)) := Arv.set Ar71 qc71 Sz71 Nn71 Hs71 Gs71 (own_fitw_char hj17) W71 1 rfl (Nat.le_of_ble_eq_true rfl)
  have N71 := Fr.snoc X71 N61 ge_b48
  have sf72 := Safe.wr W71 sf64 CH65 sf62
  have sf73 := Safe.wr W71 sf64 CH65 sf63
  have sf74 := Safe.wr W71 sf64 CH65 sf64
  have cr75 := CHr.wr W71 sf64 CH65
  have CH75 := cr75.1
  have CR75 := CR65.trans cr75
  have hk := Nat.le_trans hk (Keep.of_wr W71).1
  have f76 := f66.other W71 ne50
  have f77 := f67.other W71 ne51
  have OL78 := OL68.wr W71 ge_b48
  have K79 : Keep h0 h71 [] := K69.wr W71 (Or.inr sz_b48)
  have pre80 : oL p e below T71 (mkF m 62 #[oI p1, oI p2, oI p3, oI p4, oI p5, oI (p1 &&& (3 : Int32)), oR bp, oI (p2 &&& (7 : Int32)), oI vi14, oI vi17, oI vi20, oR b23, oR b30, oR b48, oU, oU, oU, oU, oU, oU, oU] [oi 3]) s₁ (entryFrame m #[(.int p1), (.int p2), (.int p3), (.int p4), (.int p5)] maxLocals) := fun t k => pre70 t (by
    refine st71 _ ?_
    refine XS.astore X71.here hx rfl (hb hby at_59) rfl rfl (l' := #[oI p1, oI p2, oI p3, oI p4, oI p5, oI (p1 &&& (3 : Int32)), oR bp, oI (p2 &&& (7 : Int32)), oI vi14, oI vi17, oI vi20, oR b23, oR b30, oR b48, oU, oU, oU, oU, oU, oU, oU]) rfl ?_
    refine XS.iconst X71.here hx rfl (hb hby at_61) ?_
    show oS p e below T71 (mkF m 62 #[oI p1, oI p2, oI p3, oI p4, oI p5, oI (p1 &&& (3 : Int32)), oR bp, oI (p2 &&& (7 : Int32)), oI vi14, oI vi17, oI vi20, oR b23, oR b30, oR b48, oU, oU, oU, oU, oU, oU, oU] [oi 3]) _
    exact k)
  obtain ⟨T81, h81, k81, X81, e81, E81, A81, st81⟩ := newP X71 hx hZ (oW hw 7 rfl) e71 (g := (mkF m 62 #[oI p1, oI p2, oI p3, oI p4, oI p5, oI (p1 &&& (3 : Int32)), oR bp, oI (p2 &&& (7 : Int32)), oI vi14, oI vi17, oI vi20, oR b23, oR b30, oR b48, oU, oU, oU, oU, oU, oU, oU] [oi 3])) rfl (hb hby at_62) rfl (by decide) (cap := 3) (by decide) (by decide) (by decide) (by decide)
  obtain ⟨b81, g81⟩ : ∃ z, z = h71.size := ⟨_, rfl⟩
  rw [← g81] at A81 st81
  have sf82 : Safe Z consts_1 s.vm h71 b81 := Safe.new (Nat.le_of_eq g81.symm)
  have ne83 : b23 ≠ b81 := Nat.ne_of_lt (Nat.lt_of_lt_of_le f76.lt (Nat.le_of_eq g81.symm))
  have ne84 : b30 ≠ b81 := Nat.ne_of_lt (Nat.lt_of_lt_of_le f77.lt (Nat.le_of_eq g81.symm))
  have ne85 : b48 ≠ b81 := Nat.ne_of_lt (Nat.lt_of_lt_of_le V71.lt (Nat.le_of_eq g81.symm))
  have ge_b81 : n0 ≤ b81 := Nat.le_trans (OL78.1 ▸ OL78.2.1) (Nat.le_of_eq g81.symm)
  have sz_b81 : h0.size ≤ b81 := Nat.le_trans K79.1 (Nat.le_of_eq g81.symm)
  have sf86 := Safe.ext E81 CH75 sf72
  have sf87 := Safe.ext E81 CH75 sf73
  have sf88 := Safe.ext E81 CH75 sf74
  have sf89 := Safe.ext E81 CH75 sf82
  have cr90 := CHr.ext E81 CH75
  have CH90 := cr90.1
  have CR90 := CR75.trans cr90
  have f91 := f76.ext E81
  have f92 := f77.ext E81
  have f93 := V71.ext E81
  have OL94 := OL78.ext E81
  have K95 : Keep h0 h81 [] := K79.ext E81
  have hk := Nat.le_trans hk E81.1
  have V81 : Arv Z h81 b81 k81 .char (3 : Int32) [(.int (0 : Int32)), (.int (0 : Int32)), (.int (0 : Int32))] (.int (0 : Int32)) := (Arv.new A81 (by decide)).pad (pad_rep [] (.int (0 : Int32)) 3)
  have pre96 : oL p e below T81 (mkF m 68 #[oI p1, oI p2, oI p3, oI p4, oI p5, oI (p1 &&& (3 : Int32)), oR bp, oI (p2 &&& (7 : Int32)), oI vi14, oI vi17, oI vi20, oR b23, oR b30, oR b48, oU, oU, oU, oU, oU, oU, oU] [oi vi14, oi 0, ow b81, ow b81]) s₁ (entryFrame m #[(.int p1), (.int p2), (.int p3), (.int p4), (.int p5)] maxLocals) := fun t k => pre80 t (by
    refine st81 _ ?_
    refine XS.dup X81.here hx rfl (hb hby at_64) rfl rfl ?_
    refine XS.iconst X81.here hx rfl (hb hby at_65) ?_
    refine XS.iload X81.here hx rfl (hb hby at_66) rfl ?_
    show oS p e below T81 (mkF m 68 #[oI p1, oI p2, oI p3, oI p4, oI p5, oI (p1 &&& (3 : Int32)), oR bp, oI (p2 &&& (7 : Int32)), oI vi14, oI vi17, oI vi20, oR b23, oR b30, oR b48, oU, oU, oU, oU, oU, oU, oU] [oi vi14, oi 0, ow b81, ow b81]) _
    exact k)
  obtain ⟨cl97, Ar97, qc97, Sz97, Nn97, Hs97, Gs97⟩ := id V81
  obtain ⟨T97, h97, X97, e97, W97, st97⟩ := stC X81 hx hZ e81 Ar97 (j := (0 : Int32)) (inb_of Sz97 ⟨by decide, by decide⟩) (g := (mkF m 68 #[oI p1, oI p2, oI p3, oI p4, oI p5, oI (p1 &&& (3 : Int32)), oR bp, oI (p2 &&& (7 : Int32)), oI vi14, oI vi17, oI vi20, oR b23, oR b30, oR b48, oU, oU, oU, oU, oU, oU, oU] [oi vi14, oi 0, ow b81, ow b81])) rfl rfl (hb hby at_68)
  rw [hj14] at W97
  have V97 : Arv Z h97 b81 k81 .char (3 : Int32) [(.int vi14), (.int (0 : Int32)), (.int (0 : Int32))] (.int (0 : Int32)) := Arv.set Ar97 qc97 Sz97 Nn97 Hs97 Gs97 (own_fitw_char hj14) W97 0 rfl (Nat.le_of_ble_eq_true rfl)
  have N97 := Fr.snoc X97 N71 ge_b81
  have sf98 := Safe.wr W97 sf89 CH90 sf86
  have sf99 := Safe.wr W97 sf89 CH90 sf87
  have sf100 := Safe.wr W97 sf89 CH90 sf88
  have sf101 := Safe.wr W97 sf89 CH90 sf89
  have cr102 := CHr.wr W97 sf89 CH90
  have CH102 := cr102.1
  have CR102 := CR90.trans cr102
  have hk := Nat.le_trans hk (Keep.of_wr W97).1
  have f103 := f91.other W97 ne83
  have f104 := f92.other W97 ne84
  have f105 := f93.other W97 ne85
  have OL106 := OL94.wr W97 ge_b81
  have K107 : Keep h0 h97 [] := K95.wr W97 (Or.inr sz_b81)
  have pre108 : oL p e below T97 (mkF m 73 #[oI p1, oI p2, oI p3, oI p4, oI p5, oI (p1 &&& (3 : Int32)), oR bp, oI (p2 &&& (7 : Int32)), oI vi14, oI vi17, oI vi20, oR b23, oR b30, oR b48, oU, oU, oU, oU, oU, oU, oU] [oi vi17, oi 1, ow b81, ow b81]) s₁ (entryFrame m #[(.int p1), (.int p2), (.int p3), (.int p4), (.int p5)] maxLocals) := fun t k => pre96 t (by
    refine st97 _ ?_
    refine XS.dup X97.here hx rfl (hb hby at_69) rfl rfl ?_
    refine XS.iconst X97.here hx rfl (hb hby at_70) ?_
    refine XS.iload X97.here hx rfl (hb hby at_71) rfl ?_
    show oS p e below T97 (mkF m 73 #[oI p1, oI p2, oI p3, oI p4, oI p5, oI (p1 &&& (3 : Int32)), oR bp, oI (p2 &&& (7 : Int32)), oI vi14, oI vi17, oI vi20, oR b23, oR b30, oR b48, oU, oU, oU, oU, oU, oU, oU] [oi vi17, oi 1, ow b81, ow b81]) _
    exact k)
  obtain ⟨cl109, Ar109, qc109, Sz109, Nn109, Hs109, Gs109⟩ := id V97
  obtain ⟨T109, h109, X109, e109, W109, st109⟩ := stC X97 hx hZ e97 Ar109 (j := (1 : Int32)) (inb_of Sz109 ⟨by decide, by decide⟩) (g := (mkF m 73 #[oI p1, oI p2, oI p3, oI p4, oI p5, oI (p1 &&& (3 : Int32)), oR bp, oI (p2 &&& (7 : Int32)), oI vi14, oI vi17, oI vi20, oR b23, oR b30, oR b48, oU, oU, oU, oU, oU, oU, oU] [oi vi17, oi 1, ow b81, ow b81])) rfl rfl (hb hby at_73)
  rw [hj17] at W109
  have V109 : Arv Z h109 b81 k81 .char (3 : Int32) [(.int vi14), (.int vi17), (.int (0 : Int32))] (.int (0 : Int32)) := Arv.set Ar109 qc109 Sz109 Nn109 Hs109 Gs109 (own_fitw_char hj17) W109 1 rfl (Nat.le_of_ble_eq_true rfl)
  have N109 := Fr.snoc X109 N97 ge_b81
  have sf110 := Safe.wr W109 sf101 CH102 sf98
  have sf111 := Safe.wr W109 sf101 CH102 sf99
  have sf112 := Safe.wr W109 sf101 CH102 sf100
  have sf113 := Safe.wr W109 sf101 CH102 sf101
  have cr114 := CHr.wr W109 sf101 CH102
  have CH114 := cr114.1
  have CR114 := CR102.trans cr114
  have hk := Nat.le_trans hk (Keep.of_wr W109).1
  have f115 := f103.other W109 ne83
  have f116 := f104.other W109 ne84
  have f117 := f105.other W109 ne85
  have OL118 := OL106.wr W109 ge_b81
  have K119 : Keep h0 h109 [] := K107.wr W109 (Or.inr sz_b81)
  have pre120 : oL p e below T109 (mkF m 78 #[oI p1, oI p2, oI p3, oI p4, oI p5, oI (p1 &&& (3 : Int32)), oR bp, oI (p2 &&& (7 : Int32)), oI vi14, oI vi17, oI vi20, oR b23, oR b30, oR b48, oU, oU, oU, oU, oU, oU, oU] [oi vi20, oi 2, ow b81, ow b81]) s₁ (entryFrame m #[(.int p1), (.int p2), (.int p3), (.int p4), (.int p5)] maxLocals) := fun t k => pre108 t (by
    refine st109 _ ?_
    refine XS.dup X109.here hx rfl (hb hby at_74) rfl rfl ?_
    refine XS.iconst X109.here hx rfl (hb hby at_75) ?_
    refine XS.iload X109.here hx rfl (hb hby at_76) rfl ?_
    show oS p e below T109 (mkF m 78 #[oI p1, oI p2, oI p3, oI p4, oI p5, oI (p1 &&& (3 : Int32)), oR bp, oI (p2 &&& (7 : Int32)), oI vi14, oI vi17, oI vi20, oR b23, oR b30, oR b48, oU, oU, oU, oU, oU, oU, oU] [oi vi20, oi 2, ow b81, ow b81]) _
    exact k)
  obtain ⟨cl121, Ar121, qc121, Sz121, Nn121, Hs121, Gs121⟩ := id V109
  obtain ⟨T121, h121, X121, e121, W121, st121⟩ := stC X109 hx hZ e109 Ar121 (j := (2 : Int32)) (inb_of Sz121 ⟨by decide, by decide⟩) (g := (mkF m 78 #[oI p1, oI p2, oI p3, oI p4, oI p5, oI (p1 &&& (3 : Int32)), oR bp, oI (p2 &&& (7 : Int32)), oI vi14, oI vi17, oI vi20, oR b23, oR b30, oR b48, oU, oU, oU, oU, oU, oU, oU] [oi vi20, oi 2, ow b81, ow b81])) rfl rfl (hb hby at_78)
  rw [hj20] at W121
  have V121 : Arv Z h121 b81 k81 .char (3 : Int32) [(.int vi14), (.int vi17), (.int vi20)] (.int (0 : Int32)) := Arv.set Ar121 qc121 Sz121 Nn121 Hs121 Gs121 (own_fitw_char hj20) W121 2 rfl (Nat.le_of_ble_eq_true rfl)
  have N121 := Fr.snoc X121 N109 ge_b81
  have sf122 := Safe.wr W121 sf113 CH114 sf110
  have sf123 := Safe.wr W121 sf113 CH114 sf111
  have sf124 := Safe.wr W121 sf113 CH114 sf112
  have sf125 := Safe.wr W121 sf113 CH114 sf113
  have cr126 := CHr.wr W121 sf113 CH114
  have CH126 := cr126.1
  have CR126 := CR114.trans cr126
  have hk := Nat.le_trans hk (Keep.of_wr W121).1
  have f127 := f115.other W121 ne83
  have f128 := f116.other W121 ne84
  have f129 := f117.other W121 ne85
  have OL130 := OL118.wr W121 ge_b81
  have K131 : Keep h0 h121 [] := K119.wr W121 (Or.inr sz_b81)
  have pre132 : oL p e below T121 (mkF m 83 #[oI p1, oI p2, oI p3, oI p4, oI p5, oI (p1 &&& (3 : Int32)), oR bp, oI (p2 &&& (7 : Int32)), oI vi14, oI vi17, oI vi20, oR b23, oR b30, oR b48, oR b81, oU, oU, oU, oU, oU, oU] [oi (p2 &&& (7 : Int32))]) s₁ (entryFrame m #[(.int p1), (.int p2), (.int p3), (.int p4), (.int p5)] maxLocals) := fun t k => pre120 t (by
    refine st121 _ ?_
    refine XS.astore X121.here hx rfl (hb hby at_79) rfl rfl (l' := #[oI p1, oI p2, oI p3, oI p4, oI p5, oI (p1 &&& (3 : Int32)), oR bp, oI (p2 &&& (7 : Int32)), oI vi14, oI vi17, oI vi20, oR b23, oR b30, oR b48, oR b81, oU, oU, oU, oU, oU, oU]) rfl ?_
    refine XS.iload X121.here hx rfl (hb hby at_81) rfl ?_
    exact k)
  by_cases hc133 : (p2 &&& (7 : Int32)) = (0 : Int32)
  ·
    have pre134 : oL p e below T121 (mkF m 212 #[oI p1, oI p2, oI p3, oI p4, oI p5, oI (p1 &&& (3 : Int32)), oR bp, oI (p2 &&& (7 : Int32)), oI vi14, oI vi17, oI vi20, oR b23, oR b30, oR b48, oR b81, oN, oI 1, oI 0, oU, oU, oU] []) s₁ (entryFrame m #[(.int p1), (.int p2), (.int p3), (.int p4), (.int p5)] maxLocals) := fun t k => pre132 t (by
      refine XS.ifNo X121.here hx rfl (hb hby at_83) rfl ((if0 _ _).trans (teq hc133).2) ?_
      show oS p e below T121 (mkF m 86 #[oI p1, oI p2, oI p3, oI p4, oI p5, oI (p1 &&& (3 : Int32)), oR bp, oI (p2 &&& (7 : Int32)), oI vi14, oI vi17, oI vi20, oR b23, oR b30, oR b48, oR b81, oU, oU, oU, oU, oU, oU] []) _
      refine XS.aconstNull X121.here hx rfl (hb hby at_86) ?_
      refine XS.astore X121.here hx rfl (hb hby at_87) rfl rfl (l' := #[oI p1, oI p2, oI p3, oI p4, oI p5, oI (p1 &&& (3 : Int32)), oR bp, oI (p2 &&& (7 : Int32)), oI vi14, oI vi17, oI vi20, oR b23, oR b30, oR b48, oR b81, oN, oU, oU, oU, oU, oU]) rfl ?_
      refine XS.iconst X121.here hx rfl (hb hby at_89) ?_
      refine XS.istore X121.here hx rfl (hb hby at_90) rfl (l' := #[oI p1, oI p2, oI p3, oI p4, oI p5, oI (p1 &&& (3 : Int32)), oR bp, oI (p2 &&& (7 : Int32)), oI vi14, oI vi17, oI vi20, oR b23, oR b30, oR b48, oR b81, oN, oI 1, oU, oU, oU, oU]) rfl ?_
      show oS p e below T121 (mkF m 92 #[oI p1, oI p2, oI p3, oI p4, oI p5, oI (p1 &&& (3 : Int32)), oR bp, oI (p2 &&& (7 : Int32)), oI vi14, oI vi17, oI vi20, oR b23, oR b30, oR b48, oR b81, oN, oI 1, oU, oU, oU, oU] []) _
      refine XS.iconst X121.here hx rfl (hb hby at_92) ?_
      refine XS.istore X121.here hx rfl (hb hby at_93) rfl (l' := #[oI p1, oI p2, oI p3, oI p4, oI p5, oI (p1 &&& (3 : Int32)), oR bp, oI (p2 &&& (7 : Int32)), oI vi14, oI vi17, oI vi20, oR b23, oR b30, oR b48, oR b81, oN, oI 1, oI 0, oU, oU, oU]) rfl ?_
      refine XS.goto X121.here hx rfl (pc0 := 95) (pc' := 212) rfl (hb hby at_95) (by decide) (by decide) ?_
      exact k)
    obtain ⟨vi135, hj135, pre135⟩ : ∃ vi135 : Int32, (vi135 = tn) ∧ oL p e below T121 (mkF m 229 #[oI p1, oI p2, oI p3, oI p4, oI p5, oI (p1 &&& (3 : Int32)), oR bp, oI (p2 &&& (7 : Int32)), oI vi14, oI vi17, oI vi20, oR b23, oR b30, oR b48, oR b81, oN, oI 1, oI 0, oU, oU, oU] [oi vi135]) s₁ (entryFrame m #[(.int p1), (.int p2), (.int p3), (.int p4), (.int p5)] maxLocals) := by
      have pre136 : oL p e below T121 (mkF m 215 #[oI p1, oI p2, oI p3, oI p4, oI p5, oI (p1 &&& (3 : Int32)), oR bp, oI (p2 &&& (7 : Int32)), oI vi14, oI vi17, oI vi20, oR b23, oR b30, oR b48, oR b81, oN, oI 1, oI 0, oU, oU, oU] [oi 1, oi (p1 &&& (3 : Int32))]) s₁ (entryFrame m #[(.int p1), (.int p2), (.int p3), (.int p4), (.int p5)] maxLocals) := fun t k => pre134 t (by
        refine XS.iload X121.here hx rfl (hb hby at_212) rfl ?_
        show oS p e below T121 (mkF m 214 #[oI p1, oI p2, oI p3, oI p4, oI p5, oI (p1 &&& (3 : Int32)), oR bp, oI (p2 &&& (7 : Int32)), oI vi14, oI vi17, oI vi20, oR b23, oR b30, oR b48, oR b81, oN, oI 1, oI 0, oU, oU, oU] [oi (p1 &&& (3 : Int32))]) _
        refine XS.iconst X121.here hx rfl (hb hby at_214) ?_
        exact k)
      by_cases hc137 : (p1 &&& (3 : Int32)) = (1 : Int32)
      ·
        have pre138 : oL p e below T121 (mkF m 229 #[oI p1, oI p2, oI p3, oI p4, oI p5, oI (p1 &&& (3 : Int32)), oR bp, oI (p2 &&& (7 : Int32)), oI vi14, oI vi17, oI vi20, oR b23, oR b30, oR b48, oR b81, oN, oI 1, oI 0, oU, oU, oU] [oi 1]) s₁ (entryFrame m #[(.int p1), (.int p2), (.int p3), (.int p4), (.int p5)] maxLocals) := fun t k => pre136 t (by
          refine XS.icmpYes X121.here hx rfl (pc0 := 215) (pc' := 224) rfl (hb hby at_215) rfl (teq hc137).1 (by decide) (by decide) ?_
          refine XS.iconst X121.here hx rfl (hb hby at_224) ?_
          refine XS.goto X121.here hx rfl (pc0 := 225) (pc' := 229) rfl (hb hby at_225) (by decide) (by decide) ?_
          show oS p e below T121 (mkF m 229 #[oI p1, oI p2, oI p3, oI p4, oI p5, oI (p1 &&& (3 : Int32)), oR bp, oI (p2 &&& (7 : Int32)), oI vi14, oI vi17, oI vi20, oR b23, oR b30, oR b48, oR b81, oN, oI 1, oI 0, oU, oU, oU] [oi 1]) _
          exact k)
        exact ⟨(1 : Int32), (by rw [htn]; simp [hc137]), pre138⟩
      ·
        have pre139 : oL p e below T121 (mkF m 221 #[oI p1, oI p2, oI p3, oI p4, oI p5, oI (p1 &&& (3 : Int32)), oR bp, oI (p2 &&& (7 : Int32)), oI vi14, oI vi17, oI vi20, oR b23, oR b30, oR b48, oR b81, oN, oI 1, oI 0, oU, oU, oU] [oi 3, oi (p1 &&& (3 : Int32))]) s₁ (entryFrame m #[(.int p1), (.int p2), (.int p3), (.int p4), (.int p5)] maxLocals) := fun t k => pre136 t (by
          refine XS.icmpNo X121.here hx rfl (hb hby at_215) rfl (feq hc137).1 ?_
          refine XS.iload X121.here hx rfl (hb hby at_218) rfl ?_
          refine XS.iconst X121.here hx rfl (hb hby at_220) ?_
          show oS p e below T121 (mkF m 221 #[oI p1, oI p2, oI p3, oI p4, oI p5, oI (p1 &&& (3 : Int32)), oR bp, oI (p2 &&& (7 : Int32)), oI vi14, oI vi17, oI vi20, oR b23, oR b30, oR b48, oR b81, oN, oI 1, oI 0, oU, oU, oU] [oi 3, oi (p1 &&& (3 : Int32))]) _
          exact k)
        by_cases hc140 : (p1 &&& (3 : Int32)) = (3 : Int32)
        ·
          have pre141 : oL p e below T121 (mkF m 229 #[oI p1, oI p2, oI p3, oI p4, oI p5, oI (p1 &&& (3 : Int32)), oR bp, oI (p2 &&& (7 : Int32)), oI vi14, oI vi17, oI vi20, oR b23, oR b30, oR b48, oR b81, oN, oI 1, oI 0, oU, oU, oU] [oi 1]) s₁ (entryFrame m #[(.int p1), (.int p2), (.int p3), (.int p4), (.int p5)] maxLocals) := fun t k => pre139 t (by
            refine XS.icmpNo X121.here hx rfl (hb hby at_221) rfl (teq hc140).2 ?_
            refine XS.iconst X121.here hx rfl (hb hby at_224) ?_
            refine XS.goto X121.here hx rfl (pc0 := 225) (pc' := 229) rfl (hb hby at_225) (by decide) (by decide) ?_
            exact k)
          exact ⟨(1 : Int32), (by rw [htn]; simp [hc137, hc140]), pre141⟩
        ·
          have pre142 : oL p e below T121 (mkF m 229 #[oI p1, oI p2, oI p3, oI p4, oI p5, oI (p1 &&& (3 : Int32)), oR bp, oI (p2 &&& (7 : Int32)), oI vi14, oI vi17, oI vi20, oR b23, oR b30, oR b48, oR b81, oN, oI 1, oI 0, oU, oU, oU] [oi 0]) s₁ (entryFrame m #[(.int p1), (.int p2), (.int p3), (.int p4), (.int p5)] maxLocals) := fun t k => pre139 t (by
            refine XS.icmpYes X121.here hx rfl (pc0 := 221) (pc' := 228) rfl (hb hby at_221) rfl (feq hc140).2 (by decide) (by decide) ?_
            refine XS.iconst X121.here hx rfl (hb hby at_228) ?_
            exact k)
          exact ⟨(0 : Int32), (by rw [htn]; simp [hc137, hc140]), pre142⟩
    have pre143 : oL p e below T121 (mkF m 231 #[oI p1, oI p2, oI p3, oI p4, oI p5, oI (p1 &&& (3 : Int32)), oR bp, oI (p2 &&& (7 : Int32)), oI vi14, oI vi17, oI vi20, oR b23, oR b30, oR b48, oR b81, oN, oI 1, oI 0, oI vi135, oU, oU] []) s₁ (entryFrame m #[(.int p1), (.int p2), (.int p3), (.int p4), (.int p5)] maxLocals) := fun t k => pre135 t (by
      refine XS.istore X121.here hx rfl (hb hby at_229) rfl (l' := #[oI p1, oI p2, oI p3, oI p4, oI p5, oI (p1 &&& (3 : Int32)), oR bp, oI (p2 &&& (7 : Int32)), oI vi14, oI vi17, oI vi20, oR b23, oR b30, oR b48, oR b81, oN, oI 1, oI 0, oI vi135, oU, oU]) rfl ?_
      show oS p e below T121 (mkF m 231 #[oI p1, oI p2, oI p3, oI p4, oI p5, oI (p1 &&& (3 : Int32)), oR bp, oI (p2 &&& (7 : Int32)), oI vi14, oI vi17, oI vi20, oR b23, oR b30, oR b48, oR b81, oN, oI 1, oI 0, oI vi135, oU, oU] []) _
      exact k)
    obtain ⟨vi144, hj144, pre144⟩ : ∃ vi144 : Int32, (vi144 = ti) ∧ oL p e below T121 (mkF m 248 #[oI p1, oI p2, oI p3, oI p4, oI p5, oI (p1 &&& (3 : Int32)), oR bp, oI (p2 &&& (7 : Int32)), oI vi14, oI vi17, oI vi20, oR b23, oR b30, oR b48, oR b81, oN, oI 1, oI 0, oI vi135, oU, oU] [oi vi144]) s₁ (entryFrame m #[(.int p1), (.int p2), (.int p3), (.int p4), (.int p5)] maxLocals) := by
      have pre145 : oL p e below T121 (mkF m 234 #[oI p1, oI p2, oI p3, oI p4, oI p5, oI (p1 &&& (3 : Int32)), oR bp, oI (p2 &&& (7 : Int32)), oI vi14, oI vi17, oI vi20, oR b23, oR b30, oR b48, oR b81, oN, oI 1, oI 0, oI vi135, oU, oU] [oi 2, oi (p1 &&& (3 : Int32))]) s₁ (entryFrame m #[(.int p1), (.int p2), (.int p3), (.int p4), (.int p5)] maxLocals) := fun t k => pre143 t (by
        refine XS.iload X121.here hx rfl (hb hby at_231) rfl ?_
        refine XS.iconst X121.here hx rfl (hb hby at_233) ?_
        exact k)
      by_cases hc146 : (p1 &&& (3 : Int32)) = (2 : Int32)
      ·
        have pre147 : oL p e below T121 (mkF m 248 #[oI p1, oI p2, oI p3, oI p4, oI p5, oI (p1 &&& (3 : Int32)), oR bp, oI (p2 &&& (7 : Int32)), oI vi14, oI vi17, oI vi20, oR b23, oR b30, oR b48, oR b81, oN, oI 1, oI 0, oI vi135, oU, oU] [oi 1]) s₁ (entryFrame m #[(.int p1), (.int p2), (.int p3), (.int p4), (.int p5)] maxLocals) := fun t k => pre145 t (by
          refine XS.icmpYes X121.here hx rfl (pc0 := 234) (pc' := 243) rfl (hb hby at_234) rfl (teq hc146).1 (by decide) (by decide) ?_
          refine XS.iconst X121.here hx rfl (hb hby at_243) ?_
          show oS p e below T121 (mkF m 244 #[oI p1, oI p2, oI p3, oI p4, oI p5, oI (p1 &&& (3 : Int32)), oR bp, oI (p2 &&& (7 : Int32)), oI vi14, oI vi17, oI vi20, oR b23, oR b30, oR b48, oR b81, oN, oI 1, oI 0, oI vi135, oU, oU] [oi 1]) _
          refine XS.goto X121.here hx rfl (pc0 := 244) (pc' := 248) rfl (hb hby at_244) (by decide) (by decide) ?_
          exact k)
        exact ⟨(1 : Int32), (by rw [hti]; simp [hc146]), pre147⟩
      ·
        have pre148 : oL p e below T121 (mkF m 240 #[oI p1, oI p2, oI p3, oI p4, oI p5, oI (p1 &&& (3 : Int32)), oR bp, oI (p2 &&& (7 : Int32)), oI vi14, oI vi17, oI vi20, oR b23, oR b30, oR b48, oR b81, oN, oI 1, oI 0, oI vi135, oU, oU] [oi 3, oi (p1 &&& (3 : Int32))]) s₁ (entryFrame m #[(.int p1), (.int p2), (.int p3), (.int p4), (.int p5)] maxLocals) := fun t k => pre145 t (by
          refine XS.icmpNo X121.here hx rfl (hb hby at_234) rfl (feq hc146).1 ?_
          refine XS.iload X121.here hx rfl (hb hby at_237) rfl ?_
          show oS p e below T121 (mkF m 239 #[oI p1, oI p2, oI p3, oI p4, oI p5, oI (p1 &&& (3 : Int32)), oR bp, oI (p2 &&& (7 : Int32)), oI vi14, oI vi17, oI vi20, oR b23, oR b30, oR b48, oR b81, oN, oI 1, oI 0, oI vi135, oU, oU] [oi (p1 &&& (3 : Int32))]) _
          refine XS.iconst X121.here hx rfl (hb hby at_239) ?_
          exact k)
        by_cases hc149 : (p1 &&& (3 : Int32)) = (3 : Int32)
        ·
          have pre150 : oL p e below T121 (mkF m 248 #[oI p1, oI p2, oI p3, oI p4, oI p5, oI (p1 &&& (3 : Int32)), oR bp, oI (p2 &&& (7 : Int32)), oI vi14, oI vi17, oI vi20, oR b23, oR b30, oR b48, oR b81, oN, oI 1, oI 0, oI vi135, oU, oU] [oi 1]) s₁ (entryFrame m #[(.int p1), (.int p2), (.int p3), (.int p4), (.int p5)] maxLocals) := fun t k => pre148 t (by
            refine XS.icmpNo X121.here hx rfl (hb hby at_240) rfl (teq hc149).2 ?_
            refine XS.iconst X121.here hx rfl (hb hby at_243) ?_
            refine XS.goto X121.here hx rfl (pc0 := 244) (pc' := 248) rfl (hb hby at_244) (by decide) (by decide) ?_
            show oS p e below T121 (mkF m 248 #[oI p1, oI p2, oI p3, oI p4, oI p5, oI (p1 &&& (3 : Int32)), oR bp, oI (p2 &&& (7 : Int32)), oI vi14, oI vi17, oI vi20, oR b23, oR b30, oR b48, oR b81, oN, oI 1, oI 0, oI vi135, oU, oU] [oi 1]) _
            exact k)
          exact ⟨(1 : Int32), (by rw [hti]; simp [hc146, hc149]), pre150⟩
        ·
          have pre151 : oL p e below T121 (mkF m 248 #[oI p1, oI p2, oI p3, oI p4, oI p5, oI (p1 &&& (3 : Int32)), oR bp, oI (p2 &&& (7 : Int32)), oI vi14, oI vi17, oI vi20, oR b23, oR b30, oR b48, oR b81, oN, oI 1, oI 0, oI vi135, oU, oU] [oi 0]) s₁ (entryFrame m #[(.int p1), (.int p2), (.int p3), (.int p4), (.int p5)] maxLocals) := fun t k => pre148 t (by
            refine XS.icmpYes X121.here hx rfl (pc0 := 240) (pc' := 247) rfl (hb hby at_240) rfl (feq hc149).2 (by decide) (by decide) ?_
            refine XS.iconst X121.here hx rfl (hb hby at_247) ?_
            exact k)
          exact ⟨(0 : Int32), (by rw [hti]; simp [hc146, hc149]), pre151⟩
    have pre152 : oL p e below T121 (mkF m 283 #[oI p1, oI p2, oI p3, oI p4, oI p5, oI (p1 &&& (3 : Int32)), oR bp, oI (p2 &&& (7 : Int32)), oI vi14, oI vi17, oI vi20, oR b23, oR b30, oR b48, oR b81, oN, oI 1, oI 0, oI vi135, oI vi144, oI vi135] [.null, ow bp]) s₁ (entryFrame m #[(.int p1), (.int p2), (.int p3), (.int p4), (.int p5)] maxLocals) := fun t k => pre144 t (by
      refine XS.istore X121.here hx rfl (hb hby at_248) rfl (l' := #[oI p1, oI p2, oI p3, oI p4, oI p5, oI (p1 &&& (3 : Int32)), oR bp, oI (p2 &&& (7 : Int32)), oI vi14, oI vi17, oI vi20, oR b23, oR b30, oR b48, oR b81, oN, oI 1, oI 0, oI vi135, oI vi144, oU]) rfl ?_
      refine XS.iload X121.here hx rfl (hb hby at_250) rfl ?_
      refine XS.ifNo X121.here hx rfl (hb hby at_252) rfl ((if0 _ _).trans (feq (by decide : ¬ ((1 : Int32) = (0 : Int32)))).1) ?_
      refine XS.iload X121.here hx rfl (hb hby at_255) rfl ?_
      show oS p e below T121 (mkF m 257 #[oI p1, oI p2, oI p3, oI p4, oI p5, oI (p1 &&& (3 : Int32)), oR bp, oI (p2 &&& (7 : Int32)), oI vi14, oI vi17, oI vi20, oR b23, oR b30, oR b48, oR b81, oN, oI 1, oI 0, oI vi135, oI vi144, oU] [oi vi135]) _
      refine XS.istore X121.here hx rfl (hb hby at_257) rfl (l' := #[oI p1, oI p2, oI p3, oI p4, oI p5, oI (p1 &&& (3 : Int32)), oR bp, oI (p2 &&& (7 : Int32)), oI vi14, oI vi17, oI vi20, oR b23, oR b30, oR b48, oR b81, oN, oI 1, oI 0, oI vi135, oI vi144, oI vi135]) rfl ?_
      refine XS.goto X121.here hx rfl (pc0 := 259) (pc' := 279) rfl (hb hby at_259) (by decide) (by decide) ?_
      refine XS.aload X121.here hx rfl (hb hby at_279) rfl rfl ?_
      refine XS.aload X121.here hx rfl (hb hby at_281) rfl rfl ?_
      show oS p e below T121 (mkF m 283 #[oI p1, oI p2, oI p3, oI p4, oI p5, oI (p1 &&& (3 : Int32)), oR bp, oI (p2 &&& (7 : Int32)), oI vi14, oI vi17, oI vi20, oR b23, oR b30, oR b48, oR b81, oN, oI 1, oI 0, oI vi135, oI vi144, oI vi135] [.null, ow bp]) _
      exact k)
    obtain ⟨cq153, kq153, q153a, q153b, q153c⟩ := isOf hZ e121 (Ebp.ext OL130.2)
    obtain ⟨_, _, ⟨T153, L153, k153, n153⟩, -, X153, ⟨Lc153, hQ153, l153, y153, z153⟩, st153⟩ := X121.virtualBack hx (y := (⟨"com/example/grantwright/grantwright/Bypass", "takes", "(Ljava/lang/String;)Z"⟩ : MethodName)) (z := (⟨"com/example/grantwright/grantwright/Bypass", "takes", "(Ljava/lang/String;)Z"⟩ : MethodName)) hown (mvT hZ (oW hw 37 rfl)) (mvT hZ (oW hw 38 rfl)) (notFace_of_selects (args := #[]) (mvT hZ (oW hw 40 rfl))) (mvT hZ (oW hw 40 rfl)) (mvT hZ (oW hw 39 rfl)) (by decide) (backOf (W := 0) (rm_tkN l Z a0 hw [] bp tn h121 n0 OL130 FN (own_nb hn)) hZ (oW hw 41 rfl) (oW hw 5 rfl) (by decide) (by decide)) q153a q153c (g := (mkF m 283 #[oI p1, oI p2, oI p3, oI p4, oI p5, oI (p1 &&& (3 : Int32)), oR bp, oI (p2 &&& (7 : Int32)), oI vi14, oI vi17, oI vi20, oR b23, oR b30, oR b48, oR b81, oN, oI 1, oI 0, oI vi135, oI vi144, oI vi135] [.null, ow bp])) rfl (by rw [hml]; rfl) (Steps.refl _) (argsL := [.null]) (rest := []) (lenOf pd__Ljava_lang_String__Z rfl) rfl (by show 2 * 0 + _ ≤ _; exact Nat.le_of_eq rfl) (hb hby at_283) (fun _ _ => ⟨rfl, e121, (by decide : 4 + 0 ≤ _), (by decide : 6 + 0 ≤ _)⟩)
    dsimp only [Pt.U, Pt.locs, Pt.cells, Pt.slots] at X153 l153 y153 z153 st153 hQ153
    subst l153 y153 z153
    obtain ⟨rfl, N153q, e153⟩ := hQ153
    have N153 := Fr.app N121 N153q
    have pre154 : oL p e below T153 (mkF m 296 #[oI p1, oI p2, oI p3, oI p4, oI p5, oI (p1 &&& (3 : Int32)), oR bp, oI (p2 &&& (7 : Int32)), oI vi14, oI vi17, oI vi20, oR b23, oR b30, oR b48, oR b81, oN, oI 1, oI 0, oI vi135, oI vi144, oI vi135] [oi 1]) s₁ (entryFrame m #[(.int p1), (.int p2), (.int p3), (.int p4), (.int p5)] maxLocals) := fun t k => pre152 t (by
      refine st153.trans ?_
      refine XS.iload X153.here hx rfl (hb hby at_286) rfl ?_
      refine XS.icmpNo X153.here hx rfl (hb hby at_288) rfl (teq (hj135).symm).2 ?_
      refine XS.iconst X153.here hx rfl (hb hby at_291) ?_
      show oS p e below T153 (mkF m 292 #[oI p1, oI p2, oI p3, oI p4, oI p5, oI (p1 &&& (3 : Int32)), oR bp, oI (p2 &&& (7 : Int32)), oI vi14, oI vi17, oI vi20, oR b23, oR b30, oR b48, oR b81, oN, oI 1, oI 0, oI vi135, oI vi144, oI vi135] [oi 1]) _
      refine XS.goto X153.here hx rfl (pc0 := 292) (pc' := 296) rfl (hb hby at_292) (by decide) (by decide) ?_
      exact k)
    obtain ⟨fs, hr, hrun, hended, hEnd⟩ := X153.leaveW hS (by rw [e153]; exact hk) (v := some (.int (1 : Int32))) (fun h => by rw [Bd.returns] at h; cases h)
    refine ⟨_, _, pre154 _ ?_, hrun, hended, _, _, rfl, ?_, (by show CHr Z consts_1 s.vm s.heap T153.vm T153.heap; rw [hh, e153]; exact CR126.trans (CHv.at X153 hZ hEL CH126)), hEnd.1, hEnd.2.1, hEnd.2.2.1, hEnd.2.2.2.mono (by decide) (by decide)⟩
    ·
      show oS p e below T153 (mkF m 296 #[oI p1, oI p2, oI p3, oI p4, oI p5, oI (p1 &&& (3 : Int32)), oR bp, oI (p2 &&& (7 : Int32)), oI vi14, oI vi17, oI vi20, oR b23, oR b30, oR b48, oR b81, oN, oI 1, oI 0, oI vi135, oI vi144, oI vi135] [oi 1]) _
      exact retN X153 hx (t := .boolean) Bd.returns (by simp) (hb hby at_296) hr
    ·
      show Q_rm0 Z p1 p2 p3 p4 p5 G1 w_NONE w_WHEN_NULL w_WHEN_INITIAL w_WHEN_INITIAL_OR_NULL h0 n0 _ T153.heap _
      rw [e153]
      exact ⟨rfl, N153⟩
  ·
    have pre155 : oL p e below T121 (mkF m 101 #[oI p1, oI p2, oI p3, oI p4, oI p5, oI (p1 &&& (3 : Int32)), oR bp, oI (p2 &&& (7 : Int32)), oI vi14, oI vi17, oI vi20, oR b23, oR b30, oR b48, oR b81, oU, oU, oU, oU, oU, oU] [oi 1, oi (p2 &&& (7 : Int32))]) s₁ (entryFrame m #[(.int p1), (.int p2), (.int p3), (.int p4), (.int p5)] maxLocals) := fun t k => pre132 t (by
      refine XS.ifYes X121.here hx rfl (pc0 := 83) (pc' := 98) rfl (hb hby at_83) rfl ((if0 _ _).trans (feq hc133).2) (by decide) (by decide) ?_
      show oS p e below T121 (mkF m 98 #[oI p1, oI p2, oI p3, oI p4, oI p5, oI (p1 &&& (3 : Int32)), oR bp, oI (p2 &&& (7 : Int32)), oI vi14, oI vi17, oI vi20, oR b23, oR b30, oR b48, oR b81, oU, oU, oU, oU, oU, oU] []) _
      refine XS.iload X121.here hx rfl (hb hby at_98) rfl ?_
      refine XS.iconst X121.here hx rfl (hb hby at_100) ?_
      exact k)
    by_cases hc156 : (p2 &&& (7 : Int32)) = (1 : Int32)
    ·
      have pre157 : oL p e below T121 (mkF m 104 #[oI p1, oI p2, oI p3, oI p4, oI p5, oI (p1 &&& (3 : Int32)), oR bp, oI (p2 &&& (7 : Int32)), oI vi14, oI vi17, oI vi20, oR b23, oR b30, oR b48, oR b81, oU, oU, oU, oU, oU, oU] []) s₁ (entryFrame m #[(.int p1), (.int p2), (.int p3), (.int p4), (.int p5)] maxLocals) := fun t k => pre155 t (by
        refine XS.icmpNo X121.here hx rfl (hb hby at_101) rfl (teq hc156).2 ?_
        exact k)
      obtain ⟨la158, T158, h158, kx158, lb158, kb158, X158, e158, E158, hS, hkn158, hZ, hown, Ea158, Fc158, Fv158, Va158, lta158, ltb158, cr158, Lt158, sep158, st158⟩ := ldcCH X121 hx hZ hown (oW hw 79 rfl) wS e121 hS hk hEL (List.mem_of_getElem? (i := 1) rfl) CH126 (vs := []) (z := (0 : Int32)) ⟨by decide, rfl⟩ (by decide) rfl (g := (mkF m 104 #[oI p1, oI p2, oI p3, oI p4, oI p5, oI (p1 &&& (3 : Int32)), oR bp, oI (p2 &&& (7 : Int32)), oI vi14, oI vi17, oI vi20, oR b23, oR b30, oR b48, oR b81, oU, oU, oU, oU, oU, oU] [])) rfl (hb hby at_104) (n := 0) (by decide) (by decide) (by decide) (by decide)
      have f159 := f127.ext E158
      have f160 := f128.ext E158
      have f161 := f129.ext E158
      have f162 := V121.ext E158
      have OL163 := OL130.ext E158
      have K164 : Keep h0 h158 [] := K131.ext E158
      have sf165 := cr158.safe f127.lt sf122
      have sp166 := sep158 _ sf165
      have sf167 := cr158.safe f128.lt sf123
      have sp168 := sep158 _ sf167
      have sf169 := cr158.safe f129.lt sf124
      have sp170 := sep158 _ sf169
      have sf171 := cr158.safe V121.lt sf125
      have sp172 := sep158 _ sf171
      have CH158 := cr158.1
      have CR158 := CR126.trans cr158
      have hk := hkn158
      have pre173 : oL p e below T158 (mkF m 212 #[oI p1, oI p2, oI p3, oI p4, oI p5, oI (p1 &&& (3 : Int32)), oR bp, oI (p2 &&& (7 : Int32)), oI vi14, oI vi17, oI vi20, oR b23, oR b30, oR b48, oR b81, oR la158, oI 0, oI 0, oU, oU, oU] []) s₁ (entryFrame m #[(.int p1), (.int p2), (.int p3), (.int p4), (.int p5)] maxLocals) := fun t k => pre157 t (by
        refine st158 _ ?_
        show oS p e below T158 (mkF m 106 #[oI p1, oI p2, oI p3, oI p4, oI p5, oI (p1 &&& (3 : Int32)), oR bp, oI (p2 &&& (7 : Int32)), oI vi14, oI vi17, oI vi20, oR b23, oR b30, oR b48, oR b81, oU, oU, oU, oU, oU, oU] [ow la158]) _
        refine XS.astore X158.here hx rfl (hb hby at_106) rfl rfl (l' := #[oI p1, oI p2, oI p3, oI p4, oI p5, oI (p1 &&& (3 : Int32)), oR bp, oI (p2 &&& (7 : Int32)), oI vi14, oI vi17, oI vi20, oR b23, oR b30, oR b48, oR b81, oR la158, oU, oU, oU, oU, oU]) rfl ?_
        refine XS.iconst X158.here hx rfl (hb hby at_108) ?_
        refine XS.istore X158.here hx rfl (hb hby at_109) rfl (l' := #[oI p1, oI p2, oI p3, oI p4, oI p5, oI (p1 &&& (3 : Int32)), oR bp, oI (p2 &&& (7 : Int32)), oI vi14, oI vi17, oI vi20, oR b23, oR b30, oR b48, oR b81, oR la158, oI 0, oU, oU, oU, oU]) rfl ?_
        refine XS.iconst X158.here hx rfl (hb hby at_111) ?_
        show oS p e below T158 (mkF m 112 #[oI p1, oI p2, oI p3, oI p4, oI p5, oI (p1 &&& (3 : Int32)), oR bp, oI (p2 &&& (7 : Int32)), oI vi14, oI vi17, oI vi20, oR b23, oR b30, oR b48, oR b81, oR la158, oI 0, oU, oU, oU, oU] [oi 0]) _
        refine XS.istore X158.here hx rfl (hb hby at_112) rfl (l' := #[oI p1, oI p2, oI p3, oI p4, oI p5, oI (p1 &&& (3 : Int32)), oR bp, oI (p2 &&& (7 : Int32)), oI vi14, oI vi17, oI vi20, oR b23, oR b30, oR b48, oR b81, oR la158, oI 0, oI 0, oU, oU, oU]) rfl ?_
        refine XS.goto X158.here hx rfl (pc0 := 114) (pc' := 212) rfl (hb hby at_114) (by decide) (by decide) ?_
        exact k)
      obtain ⟨vi174, hj174, pre174⟩ : ∃ vi174 : Int32, (vi174 = tn) ∧ oL p e below T158 (mkF m 229 #[oI p1, oI p2, oI p3, oI p4, oI p5, oI (p1 &&& (3 : Int32)), oR bp, oI (p2 &&& (7 : Int32)), oI vi14, oI vi17, oI vi20, oR b23, oR b30, oR b48, oR b81, oR la158, oI 0, oI 0, oU, oU, oU] [oi vi174]) s₁ (entryFrame m #[(.int p1), (.int p2), (.int p3), (.int p4), (.int p5)] maxLocals) := by
        have pre175 : oL p e below T158 (mkF m 215 #[oI p1, oI p2, oI p3, oI p4, oI p5, oI (p1 &&& (3 : Int32)), oR bp, oI (p2 &&& (7 : Int32)), oI vi14, oI vi17, oI vi20, oR b23, oR b30, oR b48, oR b81, oR la158, oI 0, oI 0, oU, oU, oU] [oi 1, oi (p1 &&& (3 : Int32))]) s₁ (entryFrame m #[(.int p1), (.int p2), (.int p3), (.int p4), (.int p5)] maxLocals) := fun t k => pre173 t (by
          refine XS.iload X158.here hx rfl (hb hby at_212) rfl ?_
          refine XS.iconst X158.here hx rfl (hb hby at_214) ?_
          show oS p e below T158 (mkF m 215 #[oI p1, oI p2, oI p3, oI p4, oI p5, oI (p1 &&& (3 : Int32)), oR bp, oI (p2 &&& (7 : Int32)), oI vi14, oI vi17, oI vi20, oR b23, oR b30, oR b48, oR b81, oR la158, oI 0, oI 0, oU, oU, oU] [oi 1, oi (p1 &&& (3 : Int32))]) _
          exact k)
        by_cases hc176 : (p1 &&& (3 : Int32)) = (1 : Int32)
        ·
          have pre177 : oL p e below T158 (mkF m 229 #[oI p1, oI p2, oI p3, oI p4, oI p5, oI (p1 &&& (3 : Int32)), oR bp, oI (p2 &&& (7 : Int32)), oI vi14, oI vi17, oI vi20, oR b23, oR b30, oR b48, oR b81, oR la158, oI 0, oI 0, oU, oU, oU] [oi 1]) s₁ (entryFrame m #[(.int p1), (.int p2), (.int p3), (.int p4), (.int p5)] maxLocals) := fun t k => pre175 t (by
            refine XS.icmpYes X158.here hx rfl (pc0 := 215) (pc' := 224) rfl (hb hby at_215) rfl (teq hc176).1 (by decide) (by decide) ?_
            refine XS.iconst X158.here hx rfl (hb hby at_224) ?_
            refine XS.goto X158.here hx rfl (pc0 := 225) (pc' := 229) rfl (hb hby at_225) (by decide) (by decide) ?_
            exact k)
          exact ⟨(1 : Int32), (by rw [htn]; simp [hc176]), pre177⟩
        ·
          have pre178 : oL p e below T158 (mkF m 221 #[oI p1, oI p2, oI p3, oI p4, oI p5, oI (p1 &&& (3 : Int32)), oR bp, oI (p2 &&& (7 : Int32)), oI vi14, oI vi17, oI vi20, oR b23, oR b30, oR b48, oR b81, oR la158, oI 0, oI 0, oU, oU, oU] [oi 3, oi (p1 &&& (3 : Int32))]) s₁ (entryFrame m #[(.int p1), (.int p2), (.int p3), (.int p4), (.int p5)] maxLocals) := fun t k => pre175 t (by
            refine XS.icmpNo X158.here hx rfl (hb hby at_215) rfl (feq hc176).1 ?_
            refine XS.iload X158.here hx rfl (hb hby at_218) rfl ?_
            refine XS.iconst X158.here hx rfl (hb hby at_220) ?_
            exact k)
          by_cases hc179 : (p1 &&& (3 : Int32)) = (3 : Int32)
          ·
            have pre180 : oL p e below T158 (mkF m 229 #[oI p1, oI p2, oI p3, oI p4, oI p5, oI (p1 &&& (3 : Int32)), oR bp, oI (p2 &&& (7 : Int32)), oI vi14, oI vi17, oI vi20, oR b23, oR b30, oR b48, oR b81, oR la158, oI 0, oI 0, oU, oU, oU] [oi 1]) s₁ (entryFrame m #[(.int p1), (.int p2), (.int p3), (.int p4), (.int p5)] maxLocals) := fun t k => pre178 t (by
              refine XS.icmpNo X158.here hx rfl (hb hby at_221) rfl (teq hc179).2 ?_
              show oS p e below T158 (mkF m 224 #[oI p1, oI p2, oI p3, oI p4, oI p5, oI (p1 &&& (3 : Int32)), oR bp, oI (p2 &&& (7 : Int32)), oI vi14, oI vi17, oI vi20, oR b23, oR b30, oR b48, oR b81, oR la158, oI 0, oI 0, oU, oU, oU] []) _
              refine XS.iconst X158.here hx rfl (hb hby at_224) ?_
              refine XS.goto X158.here hx rfl (pc0 := 225) (pc' := 229) rfl (hb hby at_225) (by decide) (by decide) ?_
              exact k)
            exact ⟨(1 : Int32), (by rw [htn]; simp [hc176, hc179]), pre180⟩
          ·
            have pre181 : oL p e below T158 (mkF m 229 #[oI p1, oI p2, oI p3, oI p4, oI p5, oI (p1 &&& (3 : Int32)), oR bp, oI (p2 &&& (7 : Int32)), oI vi14, oI vi17, oI vi20, oR b23, oR b30, oR b48, oR b81, oR la158, oI 0, oI 0, oU, oU, oU] [oi 0]) s₁ (entryFrame m #[(.int p1), (.int p2), (.int p3), (.int p4), (.int p5)] maxLocals) := fun t k => pre178 t (by
              refine XS.icmpYes X158.here hx rfl (pc0 := 221) (pc' := 228) rfl (hb hby at_221) rfl (feq hc179).2 (by decide) (by decide) ?_
              show oS p e below T158 (mkF m 228 #[oI p1, oI p2, oI p3, oI p4, oI p5, oI (p1 &&& (3 : Int32)), oR bp, oI (p2 &&& (7 : Int32)), oI vi14, oI vi17, oI vi20, oR b23, oR b30, oR b48, oR b81, oR la158, oI 0, oI 0, oU, oU, oU] []) _
              refine XS.iconst X158.here hx rfl (hb hby at_228) ?_
              exact k)
            exact ⟨(0 : Int32), (by rw [htn]; simp [hc176, hc179]), pre181⟩
      have pre182 : oL p e below T158 (mkF m 231 #[oI p1, oI p2, oI p3, oI p4, oI p5, oI (p1 &&& (3 : Int32)), oR bp, oI (p2 &&& (7 : Int32)), oI vi14, oI vi17, oI vi20, oR b23, oR b30, oR b48, oR b81, oR la158, oI 0, oI 0, oI vi174, oU, oU] []) s₁ (entryFrame m #[(.int p1), (.int p2), (.int p3), (.int p4), (.int p5)] maxLocals) := fun t k => pre174 t (by
        refine XS.istore X158.here hx rfl (hb hby at_229) rfl (l' := #[oI p1, oI p2, oI p3, oI p4, oI p5, oI (p1 &&& (3 : Int32)), oR bp, oI (p2 &&& (7 : Int32)), oI vi14, oI vi17, oI vi20, oR b23, oR b30, oR b48, oR b81, oR la158, oI 0, oI 0, oI vi174, oU, oU]) rfl ?_
        exact k)
      obtain ⟨vi183, hj183, pre183⟩ : ∃ vi183 : Int32, (vi183 = ti) ∧ oL p e below T158 (mkF m 248 #[oI p1, oI p2, oI p3, oI p4, oI p5, oI (p1 &&& (3 : Int32)), oR bp, oI (p2 &&& (7 : Int32)), oI vi14, oI vi17, oI vi20, oR b23, oR b30, oR b48, oR b81, oR la158, oI 0, oI 0, oI vi174, oU, oU] [oi vi183]) s₁ (entryFrame m #[(.int p1), (.int p2), (.int p3), (.int p4), (.int p5)] maxLocals) := by
        have pre184 : oL p e below T158 (mkF m 234 #[oI p1, oI p2, oI p3, oI p4, oI p5, oI (p1 &&& (3 : Int32)), oR bp, oI (p2 &&& (7 : Int32)), oI vi14, oI vi17, oI vi20, oR b23, oR b30, oR b48, oR b81, oR la158, oI 0, oI 0, oI vi174, oU, oU] [oi 2, oi (p1 &&& (3 : Int32))]) s₁ (entryFrame m #[(.int p1), (.int p2), (.int p3), (.int p4), (.int p5)] maxLocals) := fun t k => pre182 t (by
          refine XS.iload X158.here hx rfl (hb hby at_231) rfl ?_
          show oS p e below T158 (mkF m 233 #[oI p1, oI p2, oI p3, oI p4, oI p5, oI (p1 &&& (3 : Int32)), oR bp, oI (p2 &&& (7 : Int32)), oI vi14, oI vi17, oI vi20, oR b23, oR b30, oR b48, oR b81, oR la158, oI 0, oI 0, oI vi174, oU, oU] [oi (p1 &&& (3 : Int32))]) _
          refine XS.iconst X158.here hx rfl (hb hby at_233) ?_
          exact k)
        by_cases hc185 : (p1 &&& (3 : Int32)) = (2 : Int32)
        ·
          have pre186 : oL p e below T158 (mkF m 248 #[oI p1, oI p2, oI p3, oI p4, oI p5, oI (p1 &&& (3 : Int32)), oR bp, oI (p2 &&& (7 : Int32)), oI vi14, oI vi17, oI vi20, oR b23, oR b30, oR b48, oR b81, oR la158, oI 0, oI 0, oI vi174, oU, oU] [oi 1]) s₁ (entryFrame m #[(.int p1), (.int p2), (.int p3), (.int p4), (.int p5)] maxLocals) := fun t k => pre184 t (by
            refine XS.icmpYes X158.here hx rfl (pc0 := 234) (pc' := 243) rfl (hb hby at_234) rfl (teq hc185).1 (by decide) (by decide) ?_
            refine XS.iconst X158.here hx rfl (hb hby at_243) ?_
            refine XS.goto X158.here hx rfl (pc0 := 244) (pc' := 248) rfl (hb hby at_244) (by decide) (by decide) ?_
            show oS p e below T158 (mkF m 248 #[oI p1, oI p2, oI p3, oI p4, oI p5, oI (p1 &&& (3 : Int32)), oR bp, oI (p2 &&& (7 : Int32)), oI vi14, oI vi17, oI vi20, oR b23, oR b30, oR b48, oR b81, oR la158, oI 0, oI 0, oI vi174, oU, oU] [oi 1]) _
            exact k)
          exact ⟨(1 : Int32), (by rw [hti]; simp [hc185]), pre186⟩
        ·
          have pre187 : oL p e below T158 (mkF m 240 #[oI p1, oI p2, oI p3, oI p4, oI p5, oI (p1 &&& (3 : Int32)), oR bp, oI (p2 &&& (7 : Int32)), oI vi14, oI vi17, oI vi20, oR b23, oR b30, oR b48, oR b81, oR la158, oI 0, oI 0, oI vi174, oU, oU] [oi 3, oi (p1 &&& (3 : Int32))]) s₁ (entryFrame m #[(.int p1), (.int p2), (.int p3), (.int p4), (.int p5)] maxLocals) := fun t k => pre184 t (by
            refine XS.icmpNo X158.here hx rfl (hb hby at_234) rfl (feq hc185).1 ?_
            refine XS.iload X158.here hx rfl (hb hby at_237) rfl ?_
            refine XS.iconst X158.here hx rfl (hb hby at_239) ?_
            show oS p e below T158 (mkF m 240 #[oI p1, oI p2, oI p3, oI p4, oI p5, oI (p1 &&& (3 : Int32)), oR bp, oI (p2 &&& (7 : Int32)), oI vi14, oI vi17, oI vi20, oR b23, oR b30, oR b48, oR b81, oR la158, oI 0, oI 0, oI vi174, oU, oU] [oi 3, oi (p1 &&& (3 : Int32))]) _
            exact k)
          by_cases hc188 : (p1 &&& (3 : Int32)) = (3 : Int32)
          ·
            have pre189 : oL p e below T158 (mkF m 248 #[oI p1, oI p2, oI p3, oI p4, oI p5, oI (p1 &&& (3 : Int32)), oR bp, oI (p2 &&& (7 : Int32)), oI vi14, oI vi17, oI vi20, oR b23, oR b30, oR b48, oR b81, oR la158, oI 0, oI 0, oI vi174, oU, oU] [oi 1]) s₁ (entryFrame m #[(.int p1), (.int p2), (.int p3), (.int p4), (.int p5)] maxLocals) := fun t k => pre187 t (by
              refine XS.icmpNo X158.here hx rfl (hb hby at_240) rfl (teq hc188).2 ?_
              refine XS.iconst X158.here hx rfl (hb hby at_243) ?_
              refine XS.goto X158.here hx rfl (pc0 := 244) (pc' := 248) rfl (hb hby at_244) (by decide) (by decide) ?_
              exact k)
            exact ⟨(1 : Int32), (by rw [hti]; simp [hc185, hc188]), pre189⟩
          ·
            have pre190 : oL p e below T158 (mkF m 248 #[oI p1, oI p2, oI p3, oI p4, oI p5, oI (p1 &&& (3 : Int32)), oR bp, oI (p2 &&& (7 : Int32)), oI vi14, oI vi17, oI vi20, oR b23, oR b30, oR b48, oR b81, oR la158, oI 0, oI 0, oI vi174, oU, oU] [oi 0]) s₁ (entryFrame m #[(.int p1), (.int p2), (.int p3), (.int p4), (.int p5)] maxLocals) := fun t k => pre187 t (by
              refine XS.icmpYes X158.here hx rfl (pc0 := 240) (pc' := 247) rfl (hb hby at_240) rfl (feq hc188).2 (by decide) (by decide) ?_
              refine XS.iconst X158.here hx rfl (hb hby at_247) ?_
              exact k)
            exact ⟨(0 : Int32), (by rw [hti]; simp [hc185, hc188]), pre190⟩
      have pre191 : oL p e below T158 (mkF m 262 #[oI p1, oI p2, oI p3, oI p4, oI p5, oI (p1 &&& (3 : Int32)), oR bp, oI (p2 &&& (7 : Int32)), oI vi14, oI vi17, oI vi20, oR b23, oR b30, oR b48, oR b81, oR la158, oI 0, oI 0, oI vi174, oI vi183, oU] []) s₁ (entryFrame m #[(.int p1), (.int p2), (.int p3), (.int p4), (.int p5)] maxLocals) := fun t k => pre183 t (by
        refine XS.istore X158.here hx rfl (hb hby at_248) rfl (l' := #[oI p1, oI p2, oI p3, oI p4, oI p5, oI (p1 &&& (3 : Int32)), oR bp, oI (p2 &&& (7 : Int32)), oI vi14, oI vi17, oI vi20, oR b23, oR b30, oR b48, oR b81, oR la158, oI 0, oI 0, oI vi174, oI vi183, oU]) rfl ?_
        show oS p e below T158 (mkF m 250 #[oI p1, oI p2, oI p3, oI p4, oI p5, oI (p1 &&& (3 : Int32)), oR bp, oI (p2 &&& (7 : Int32)), oI vi14, oI vi17, oI vi20, oR b23, oR b30, oR b48, oR b81, oR la158, oI 0, oI 0, oI vi174, oI vi183, oU] []) _
        refine XS.iload X158.here hx rfl (hb hby at_250) rfl ?_
        refine XS.ifYes X158.here hx rfl (pc0 := 252) (pc' := 262) rfl (hb hby at_252) rfl ((if0 _ _).trans (teq (by decide : (0 : Int32) = (0 : Int32))).1) (by decide) (by decide) ?_
        exact k)
      obtain ⟨vi192, hj192, pre192⟩ : ∃ vi192 : Int32, (vi192 = ti) ∧ oL p e below T158 (mkF m 279 #[oI p1, oI p2, oI p3, oI p4, oI p5, oI (p1 &&& (3 : Int32)), oR bp, oI (p2 &&& (7 : Int32)), oI vi14, oI vi17, oI vi20, oR b23, oR b30, oR b48, oR b81, oR la158, oI 0, oI 0, oI vi174, oI vi183, oI vi192] []) s₁ (entryFrame m #[(.int p1), (.int p2), (.int p3), (.int p4), (.int p5)] maxLocals) := by
        have pre193 : oL p e below T158 (mkF m 269 #[oI p1, oI p2, oI p3, oI p4, oI p5, oI (p1 &&& (3 : Int32)), oR bp, oI (p2 &&& (7 : Int32)), oI vi14, oI vi17, oI vi20, oR b23, oR b30, oR b48, oR b81, oR la158, oI 0, oI 0, oI vi174, oI vi183, oU] [oi vi183]) s₁ (entryFrame m #[(.int p1), (.int p2), (.int p3), (.int p4), (.int p5)] maxLocals) := fun t k => pre191 t (by
          refine XS.iload X158.here hx rfl (hb hby at_262) rfl ?_
          refine XS.ifNo X158.here hx rfl (hb hby at_264) rfl ((if0 _ _).trans (teq (by decide : (0 : Int32) = (0 : Int32))).2) ?_
          show oS p e below T158 (mkF m 267 #[oI p1, oI p2, oI p3, oI p4, oI p5, oI (p1 &&& (3 : Int32)), oR bp, oI (p2 &&& (7 : Int32)), oI vi14, oI vi17, oI vi20, oR b23, oR b30, oR b48, oR b81, oR la158, oI 0, oI 0, oI vi174, oI vi183, oU] []) _
          refine XS.iload X158.here hx rfl (hb hby at_267) rfl ?_
          exact k)
        by_cases hc194 : vi183 = (0 : Int32)
        ·
          have pre195 : oL p e below T158 (mkF m 279 #[oI p1, oI p2, oI p3, oI p4, oI p5, oI (p1 &&& (3 : Int32)), oR bp, oI (p2 &&& (7 : Int32)), oI vi14, oI vi17, oI vi20, oR b23, oR b30, oR b48, oR b81, oR la158, oI 0, oI 0, oI vi174, oI vi183, oI 0] []) s₁ (entryFrame m #[(.int p1), (.int p2), (.int p3), (.int p4), (.int p5)] maxLocals) := fun t k => pre193 t (by
            refine XS.ifYes X158.here hx rfl (pc0 := 269) (pc' := 276) rfl (hb hby at_269) rfl ((if0 _ _).trans (teq hc194).1) (by decide) (by decide) ?_
            refine XS.iconst X158.here hx rfl (hb hby at_276) ?_
            refine XS.istore X158.here hx rfl (hb hby at_277) rfl (l' := #[oI p1, oI p2, oI p3, oI p4, oI p5, oI (p1 &&& (3 : Int32)), oR bp, oI (p2 &&& (7 : Int32)), oI vi14, oI vi17, oI vi20, oR b23, oR b30, oR b48, oR b81, oR la158, oI 0, oI 0, oI vi174, oI vi183, oI 0]) rfl ?_
            show oS p e below T158 (mkF m 279 #[oI p1, oI p2, oI p3, oI p4, oI p5, oI (p1 &&& (3 : Int32)), oR bp, oI (p2 &&& (7 : Int32)), oI vi14, oI vi17, oI vi20, oR b23, oR b30, oR b48, oR b81, oR la158, oI 0, oI 0, oI vi174, oI vi183, oI 0] []) _
            exact k)
          exact ⟨(0 : Int32), ((hc194).symm.trans hj183), pre195⟩
        ·
          have pre196 : oL p e below T158 (mkF m 279 #[oI p1, oI p2, oI p3, oI p4, oI p5, oI (p1 &&& (3 : Int32)), oR bp, oI (p2 &&& (7 : Int32)), oI vi14, oI vi17, oI vi20, oR b23, oR b30, oR b48, oR b81, oR la158, oI 0, oI 0, oI vi174, oI vi183, oI 1] []) s₁ (entryFrame m #[(.int p1), (.int p2), (.int p3), (.int p4), (.int p5)] maxLocals) := fun t k => pre193 t (by
            refine XS.ifNo X158.here hx rfl (hb hby at_269) rfl ((if0 _ _).trans (feq hc194).1) ?_
            refine XS.iconst X158.here hx rfl (hb hby at_272) ?_
            refine XS.goto X158.here hx rfl (pc0 := 273) (pc' := 277) rfl (hb hby at_273) (by decide) (by decide) ?_
            show oS p e below T158 (mkF m 277 #[oI p1, oI p2, oI p3, oI p4, oI p5, oI (p1 &&& (3 : Int32)), oR bp, oI (p2 &&& (7 : Int32)), oI vi14, oI vi17, oI vi20, oR b23, oR b30, oR b48, oR b81, oR la158, oI 0, oI 0, oI vi174, oI vi183, oU] [oi 1]) _
            refine XS.istore X158.here hx rfl (hb hby at_277) rfl (l' := #[oI p1, oI p2, oI p3, oI p4, oI p5, oI (p1 &&& (3 : Int32)), oR bp, oI (p2 &&& (7 : Int32)), oI vi14, oI vi17, oI vi20, oR b23, oR b30, oR b48, oR b81, oR la158, oI 0, oI 0, oI vi174, oI vi183, oI 1]) rfl ?_
            exact k)
          exact ⟨(1 : Int32), ((hi.resolve_left (fun q => hc194 (hj183.trans q))).symm), pre196⟩
      have pre197 : oL p e below T158 (mkF m 283 #[oI p1, oI p2, oI p3, oI p4, oI p5, oI (p1 &&& (3 : Int32)), oR bp, oI (p2 &&& (7 : Int32)), oI vi14, oI vi17, oI vi20, oR b23, oR b30, oR b48, oR b81, oR la158, oI 0, oI 0, oI vi174, oI vi183, oI vi192] [ow la158, ow bp]) s₁ (entryFrame m #[(.int p1), (.int p2), (.int p3), (.int p4), (.int p5)] maxLocals) := fun t k => pre192 t (by
        refine XS.aload X158.here hx rfl (hb hby at_279) rfl rfl ?_
        refine XS.aload X158.here hx rfl (hb hby at_281) rfl rfl ?_
        show oS p e below T158 (mkF m 283 #[oI p1, oI p2, oI p3, oI p4, oI p5, oI (p1 &&& (3 : Int32)), oR bp, oI (p2 &&& (7 : Int32)), oI vi14, oI vi17, oI vi20, oR b23, oR b30, oR b48, oR b81, oR la158, oI 0, oI 0, oI vi174, oI vi183, oI vi192] [ow la158, ow bp]) _
        exact k)
      obtain ⟨cq198, kq198, q198a, q198b, q198c⟩ := isOf hZ e158 (Ebp.ext OL163.2)
      obtain ⟨_, _, ⟨T198, L198, k198, n198⟩, -, X198, hS198, hgr198, ⟨Lc198, hQ198, l198, y198, z198, cr198⟩, st198⟩ := X158.virtualBackS hx (y := (⟨"com/example/grantwright/grantwright/Bypass", "takes", "(Ljava/lang/String;)Z"⟩ : MethodName)) (z := (⟨"com/example/grantwright/grantwright/Bypass", "takes", "(Ljava/lang/String;)Z"⟩ : MethodName)) hown (mvT hZ (oW hw 37 rfl)) (mvT hZ (oW hw 38 rfl)) (notFace_of_selects (args := #[]) (mvT hZ (oW hw 40 rfl))) (mvT hZ (oW hw 40 rfl)) (mvT hZ (oW hw 39 rfl)) (by decide) (backOfSH (W := 0) (rm_tkA l Z a0 hw [] bp ti la158 lb158 kb158 [] G1 h158 n0 OL163 O2 P5 FI hi Ea158 Fv158 Fc158 Va158) hZ (oW hw 41 rfl) (oW hw 5 rfl) (by decide) (by decide) hEL CH158) q198a q198c (g := (mkF m 283 #[oI p1, oI p2, oI p3, oI p4, oI p5, oI (p1 &&& (3 : Int32)), oR bp, oI (p2 &&& (7 : Int32)), oI vi14, oI vi17, oI vi20, oR b23, oR b30, oR b48, oR b81, oR la158, oI 0, oI 0, oI vi174, oI vi183, oI vi192] [ow la158, ow bp])) rfl (by rw [hml]; rfl) (Steps.refl _) (argsL := [(.ref la158)]) (rest := []) (lenOf pd__Ljava_lang_String__Z rfl) rfl (by show 2 * 0 + _ ≤ _; exact Nat.le_of_eq rfl) (hb hby at_283) (fun _ _ => ⟨rfl, e158, (by decide : 6 + 2 ≤ _), (by decide : 10 + 4 ≤ _)⟩)
      dsimp only [Pt.U, Pt.locs, Pt.cells, Pt.slots] at X198 l198 y198 z198 st198 hQ198 hS198 hgr198 cr198
      subst l198 y198 z198
      obtain ⟨X198, hS, hZ, hown⟩ := rebS hS (by rw [e158]; exact hk : _ ≤ T158.heap.size) X198 hS198 hgr198 hZ hown
      have hk : T198.heap.size ≤ T198.heap.size := Nat.le_refl _
      obtain ⟨rfl, N198q, Kq198⟩ := hQ198
      have N198 := Fr.app N121 N198q
      have sf199 := cr198.safe f159.lt sf165
      have sf200 := cr198.safe f160.lt sf167
      have sf201 := cr198.safe f161.lt sf169
      have sf202 := cr198.safe f162.lt sf171
      have CH203 := cr198.1
      have CR203 := CR158.trans cr198
      have f204 := f159.keep Kq198 nin0
      have f205 := f160.keep Kq198 nin0
      have f206 := f161.keep Kq198 nin0
      have f207 := f162.keep Kq198 nin0
      have f208 := Ea158.keep Kq198
      have f209 := Fc158.keep Kq198 nin0
      have f210 := Fv158.keep Kq198 nin0
      have f211 := Va158.keep Kq198 nin0
      have OL212 := OL163.keep Kq198 all0
      have K213 : Keep h0 T198.heap [] := K164.trans Kq198 all0
      have pre214 : oL p e below T198 (mkF m 296 #[oI p1, oI p2, oI p3, oI p4, oI p5, oI (p1 &&& (3 : Int32)), oR bp, oI (p2 &&& (7 : Int32)), oI vi14, oI vi17, oI vi20, oR b23, oR b30, oR b48, oR b81, oR la158, oI 0, oI 0, oI vi174, oI vi183, oI vi192] [oi 1]) s₁ (entryFrame m #[(.int p1), (.int p2), (.int p3), (.int p4), (.int p5)] maxLocals) := fun t k => pre197 t (by
        refine st198.trans ?_
        refine XS.iload X198.here hx rfl (hb hby at_286) rfl ?_
        refine XS.icmpNo X198.here hx rfl (hb hby at_288) rfl (teq (hj192).symm).2 ?_
        refine XS.iconst X198.here hx rfl (hb hby at_291) ?_
        show oS p e below T198 (mkF m 292 #[oI p1, oI p2, oI p3, oI p4, oI p5, oI (p1 &&& (3 : Int32)), oR bp, oI (p2 &&& (7 : Int32)), oI vi14, oI vi17, oI vi20, oR b23, oR b30, oR b48, oR b81, oR la158, oI 0, oI 0, oI vi174, oI vi183, oI vi192] [oi 1]) _
        refine XS.goto X198.here hx rfl (pc0 := 292) (pc' := 296) rfl (hb hby at_292) (by decide) (by decide) ?_
        exact k)
      obtain ⟨fs, hr, hrun, hended, hEnd⟩ := X198.leaveW hS hk (v := some (.int (1 : Int32))) (fun h => by rw [Bd.returns] at h; cases h)
      refine ⟨_, _, pre214 _ ?_, hrun, hended, _, _, rfl, ?_, (by show CHr Z consts_1 s.vm s.heap T198.vm T198.heap; rw [hh]; exact CR203.trans (CHv.at X198 hZ hEL CH203)), hEnd.1, hEnd.2.1, hEnd.2.2.1, hEnd.2.2.2.mono (by decide) (by decide)⟩
      ·
        show oS p e below T198 (mkF m 296 #[oI p1, oI p2, oI p3, oI p4, oI p5, oI (p1 &&& (3 : Int32)), oR bp, oI (p2 &&& (7 : Int32)), oI vi14, oI vi17, oI vi20, oR b23, oR b30, oR b48, oR b81, oR la158, oI 0, oI 0, oI vi174, oI vi183, oI vi192] [oi 1]) _
        exact retN X198 hx (t := .boolean) Bd.returns (by simp) (hb hby at_296) hr
      ·
        show Q_rm0 Z p1 p2 p3 p4 p5 G1 w_NONE w_WHEN_NULL w_WHEN_INITIAL w_WHEN_INITIAL_OR_NULL h0 n0 _ T198.heap _
        exact ⟨rfl, N198⟩
    ·
      have pre215 : oL p e below T121 (mkF m 120 #[oI p1, oI p2, oI p3, oI p4, oI p5, oI (p1 &&& (3 : Int32)), oR bp, oI (p2 &&& (7 : Int32)), oI vi14, oI vi17, oI vi20, oR b23, oR b30, oR b48, oR b81, oU, oU, oU, oU, oU, oU] [oi 2, oi (p2 &&& (7 : Int32))]) s₁ (entryFrame m #[(.int p1), (.int p2), (.int p3), (.int p4), (.int p5)] maxLocals) := fun t k => pre155 t (by
        refine XS.icmpYes X121.here hx rfl (pc0 := 101) (pc' := 117) rfl (hb hby at_101) rfl (feq hc156).2 (by decide) (by decide) ?_
        refine XS.iload X121.here hx rfl (hb hby at_117) rfl ?_
        show oS p e below T121 (mkF m 119 #[oI p1, oI p2, oI p3, oI p4, oI p5, oI (p1 &&& (3 : Int32)), oR bp, oI (p2 &&& (7 : Int32)), oI vi14, oI vi17, oI vi20, oR b23, oR b30, oR b48, oR b81, oU, oU, oU, oU, oU, oU] [oi (p2 &&& (7 : Int32))]) _
        refine XS.iconst X121.here hx rfl (hb hby at_119) ?_
        exact k)
      by_cases hc216 : (p2 &&& (7 : Int32)) = (2 : Int32)
      ·
        have pre217 : oL p e below T121 (mkF m 123 #[oI p1, oI p2, oI p3, oI p4, oI p5, oI (p1 &&& (3 : Int32)), oR bp, oI (p2 &&& (7 : Int32)), oI vi14, oI vi17, oI vi20, oR b23, oR b30, oR b48, oR b81, oU, oU, oU, oU, oU, oU] []) s₁ (entryFrame m #[(.int p1), (.int p2), (.int p3), (.int p4), (.int p5)] maxLocals) := fun t k => pre215 t (by
          refine XS.icmpNo X121.here hx rfl (hb hby at_120) rfl (teq hc216).2 ?_
          exact k)
        obtain ⟨T218, h218, X218, e218, E218, A218, D218, -, st218⟩ := newO X121 hx hZ hown (oW hw 8 rfl) (oW hw 9 rfl) (oW hw 10 rfl) e121 (g := (mkF m 123 #[oI p1, oI p2, oI p3, oI p4, oI p5, oI (p1 &&& (3 : Int32)), oR bp, oI (p2 &&& (7 : Int32)), oI vi14, oI vi17, oI vi20, oR b23, oR b30, oR b48, oR b81, oU, oU, oU, oU, oU, oU] [])) rfl (hb hby at_123) (by decide) (by decide)
        obtain ⟨b218, g218⟩ : ∃ z, z = h121.size := ⟨_, rfl⟩
        rw [← g218] at A218 D218 st218
        have sf219 : Safe Z consts_1 s.vm h121 b218 := Safe.new (Nat.le_of_eq g218.symm)
        have ne220 : b23 ≠ b218 := Nat.ne_of_lt (Nat.lt_of_lt_of_le f127.lt (Nat.le_of_eq g218.symm))
        have ne221 : b30 ≠ b218 := Nat.ne_of_lt (Nat.lt_of_lt_of_le f128.lt (Nat.le_of_eq g218.symm))
        have ne222 : b48 ≠ b218 := Nat.ne_of_lt (Nat.lt_of_lt_of_le f129.lt (Nat.le_of_eq g218.symm))
        have ne223 : b81 ≠ b218 := Nat.ne_of_lt (Nat.lt_of_lt_of_le V121.lt (Nat.le_of_eq g218.symm))
        have ge_b218 : n0 ≤ b218 := Nat.le_trans (OL130.1 ▸ OL130.2.1) (Nat.le_of_eq g218.symm)
        have sz_b218 : h0.size ≤ b218 := Nat.le_trans K131.1 (Nat.le_of_eq g218.symm)
        have sf224 := Safe.ext E218 CH126 sf122
        have sf225 := Safe.ext E218 CH126 sf123
        have sf226 := Safe.ext E218 CH126 sf124
        have sf227 := Safe.ext E218 CH126 sf125
        have sf228 := Safe.ext E218 CH126 sf219
        have cr229 := CHr.ext E218 CH126
        have CH229 := cr229.1
        have CR229 := CR126.trans cr229
        have f230 := f127.ext E218
        have f231 := f128.ext E218
        have f232 := f129.ext E218
        have f233 := V121.ext E218
        have OL234 := OL130.ext E218
        have K235 : Keep h0 h218 [] := K131.ext E218
        have hk := Nat.le_trans hk E218.1
        have f236 : Fld Z h218 b218 "java/lang/String" "coder" "B" (.int (0 : Int32)) := D218 (Or.inr (oW hw 34 rfl)) (ty := .byte) (by decide)
        have f237 : Fld Z h218 b218 "java/lang/String" "value" "[B" .null := D218 (Or.inr (oW hw 36 rfl)) (ty := (.array .byte)) (by decide)
        have pre238 : oL p e below T218 (mkF m 129 #[oI p1, oI p2, oI p3, oI p4, oI p5, oI (p1 &&& (3 : Int32)), oR bp, oI (p2 &&& (7 : Int32)), oI vi14, oI vi17, oI vi20, oR b23, oR b30, oR b48, oR b81, oU, oU, oU, oU, oU, oU] [ow b23, ow b218, ow b218]) s₁ (entryFrame m #[(.int p1), (.int p2), (.int p3), (.int p4), (.int p5)] maxLocals) := fun t k => pre217 t (by
          refine st218 _ ?_
          refine XS.dup X218.here hx rfl (hb hby at_126) rfl rfl ?_
          show oS p e below T218 (mkF m 127 #[oI p1, oI p2, oI p3, oI p4, oI p5, oI (p1 &&& (3 : Int32)), oR bp, oI (p2 &&& (7 : Int32)), oI vi14, oI vi17, oI vi20, oR b23, oR b30, oR b48, oR b81, oU, oU, oU, oU, oU, oU] [ow b218, ow b218]) _
          refine XS.aload X218.here hx rfl (hb hby at_127) rfl rfl ?_
          exact k)
        obtain ⟨_, _, ⟨T239, L239, k239, n239⟩, -, X239, hS239, hgr239, ⟨Lc239, hQ239, l239, y239, z239, cr239⟩, st239⟩ := X218.specialBackS hx (y := (⟨"java/lang/String", "<init>", "([C)V"⟩ : MethodName)) rfl hown (mvT hZ (oW hw 11 rfl)) (mvT hZ (oW hw 12 rfl)) (mvT hZ (oW hw 13 rfl)) (by decide) (backOfSH (W := 1) (rm_s0 l Z a0 hw [] b218 b23 k23 h218 n0 OL234 ge_b218 A218 f237 f236 f230) hZ (oW hw 13 rfl) (oW hw 10 rfl) (by decide) (by decide) hEL CH229) (g := (mkF m 129 #[oI p1, oI p2, oI p3, oI p4, oI p5, oI (p1 &&& (3 : Int32)), oR bp, oI (p2 &&& (7 : Int32)), oI vi14, oI vi17, oI vi20, oR b23, oR b30, oR b48, oR b81, oU, oU, oU, oU, oU, oU] [ow b23, ow b218, ow b218])) rfl (by rw [hml]; rfl) (Steps.refl _) (a := b218) (argsL := [(.ref b23)]) (rest := [(.ref b218)]) (lenOf pd___C_V rfl) rfl (by show 2 * 0 + _ ≤ _; exact Nat.le_of_eq rfl) (hb hby at_129) (fun _ _ => ⟨rfl, e218, (by decide : 5 + 2 ≤ _), (by decide : 10 + 4 ≤ _)⟩)
        dsimp only [Pt.U, Pt.locs, Pt.cells, Pt.slots] at X239 l239 y239 z239 st239 hQ239 hS239 hgr239 cr239
        subst l239 y239 z239
        obtain ⟨X239, hS, hZ, hown⟩ := rebS hS (by rw [e218]; exact hk : _ ≤ T218.heap.size) X239 hS239 hgr239 hZ hown
        have hk : T239.heap.size ≤ T239.heap.size := Nat.le_refl _
        obtain ⟨rfl, N239q, Kq239, Eq239, Fc239, tt239, kb239, nx239, lt239, Fv239, Va239⟩ := hQ239
        have N239 := Fr.app N121 N239q
        have sf240 := cr239.safe f230.lt sf224
        have sf241 := cr239.safe f231.lt sf225
        have sf242 := cr239.safe f232.lt sf226
        have sf243 := cr239.safe f233.lt sf227
        have sf244 := cr239.safe A218.lt sf228
        have CH245 := cr239.1
        have CR245 := CR229.trans cr239
        have f246 := f230.keep Kq239 (ninS ne220 nin0)
        have f247 := f231.keep Kq239 (ninS ne221 nin0)
        have f248 := f232.keep Kq239 (ninS ne222 nin0)
        have f249 := f233.keep Kq239 (ninS ne223 nin0)
        have f250 := A218.keep Kq239
        have OL251 := OL234.keep Kq239 (allS ge_b218 all0)
        have K252 : Keep h0 T239.heap [] := K235.trans Kq239 (allS (Or.inr sz_b218) all0)
        have pre253 : oL p e below T239 (mkF m 212 #[oI p1, oI p2, oI p3, oI p4, oI p5, oI (p1 &&& (3 : Int32)), oR bp, oI (p2 &&& (7 : Int32)), oI vi14, oI vi17, oI vi20, oR b23, oR b30, oR b48, oR b81, oR b218, oI 0, oI 0, oU, oU, oU] []) s₁ (entryFrame m #[(.int p1), (.int p2), (.int p3), (.int p4), (.int p5)] maxLocals) := fun t k => pre238 t (by
          refine st239.trans ?_
          refine XS.astore X239.here hx rfl (hb hby at_132) rfl rfl (l' := #[oI p1, oI p2, oI p3, oI p4, oI p5, oI (p1 &&& (3 : Int32)), oR bp, oI (p2 &&& (7 : Int32)), oI vi14, oI vi17, oI vi20, oR b23, oR b30, oR b48, oR b81, oR b218, oU, oU, oU, oU, oU]) rfl ?_
          refine XS.iconst X239.here hx rfl (hb hby at_134) ?_
          show oS p e below T239 (mkF m 135 #[oI p1, oI p2, oI p3, oI p4, oI p5, oI (p1 &&& (3 : Int32)), oR bp, oI (p2 &&& (7 : Int32)), oI vi14, oI vi17, oI vi20, oR b23, oR b30, oR b48, oR b81, oR b218, oU, oU, oU, oU, oU] [oi 0]) _
          refine XS.istore X239.here hx rfl (hb hby at_135) rfl (l' := #[oI p1, oI p2, oI p3, oI p4, oI p5, oI (p1 &&& (3 : Int32)), oR bp, oI (p2 &&& (7 : Int32)), oI vi14, oI vi17, oI vi20, oR b23, oR b30, oR b48, oR b81, oR b218, oI 0, oU, oU, oU, oU]) rfl ?_
          refine XS.iconst X239.here hx rfl (hb hby at_137) ?_
          refine XS.istore X239.here hx rfl (hb hby at_138) rfl (l' := #[oI p1, oI p2, oI p3, oI p4, oI p5, oI (p1 &&& (3 : Int32)), oR bp, oI (p2 &&& (7 : Int32)), oI vi14, oI vi17, oI vi20, oR b23, oR b30, oR b48, oR b81, oR b218, oI 0, oI 0, oU, oU, oU]) rfl ?_
          refine XS.goto X239.here hx rfl (pc0 := 140) (pc' := 212) rfl (hb hby at_140) (by decide) (by decide) ?_
          show oS p e below T239 (mkF m 212 #[oI p1, oI p2, oI p3, oI p4, oI p5, oI (p1 &&& (3 : Int32)), oR bp, oI (p2 &&& (7 : Int32)), oI vi14, oI vi17, oI vi20, oR b23, oR b30, oR b48, oR b81, oR b218, oI 0, oI 0, oU, oU, oU] []) _
          exact k)
        obtain ⟨vi254, hj254, pre254⟩ : ∃ vi254 : Int32, (vi254 = tn) ∧ oL p e below T239 (mkF m 229 #[oI p1, oI p2, oI p3, oI p4, oI p5, oI (p1 &&& (3 : Int32)), oR bp, oI (p2 &&& (7 : Int32)), oI vi14, oI vi17, oI vi20, oR b23, oR b30, oR b48, oR b81, oR b218, oI 0, oI 0, oU, oU, oU] [oi vi254]) s₁ (entryFrame m #[(.int p1), (.int p2), (.int p3), (.int p4), (.int p5)] maxLocals) := by
          have pre255 : oL p e below T239 (mkF m 215 #[oI p1, oI p2, oI p3, oI p4, oI p5, oI (p1 &&& (3 : Int32)), oR bp, oI (p2 &&& (7 : Int32)), oI vi14, oI vi17, oI vi20, oR b23, oR b30, oR b48, oR b81, oR b218, oI 0, oI 0, oU, oU, oU] [oi 1, oi (p1 &&& (3 : Int32))]) s₁ (entryFrame m #[(.int p1), (.int p2), (.int p3), (.int p4), (.int p5)] maxLocals) := fun t k => pre253 t (by
            refine XS.iload X239.here hx rfl (hb hby at_212) rfl ?_
            refine XS.iconst X239.here hx rfl (hb hby at_214) ?_
            exact k)
          by_cases hc256 : (p1 &&& (3 : Int32)) = (1 : Int32)
          ·
            have pre257 : oL p e below T239 (mkF m 229 #[oI p1, oI p2, oI p3, oI p4, oI p5, oI (p1 &&& (3 : Int32)), oR bp, oI (p2 &&& (7 : Int32)), oI vi14, oI vi17, oI vi20, oR b23, oR b30, oR b48, oR b81, oR b218, oI 0, oI 0, oU, oU, oU] [oi 1]) s₁ (entryFrame m #[(.int p1), (.int p2), (.int p3), (.int p4), (.int p5)] maxLocals) := fun t k => pre255 t (by
              refine XS.icmpYes X239.here hx rfl (pc0 := 215) (pc' := 224) rfl (hb hby at_215) rfl (teq hc256).1 (by decide) (by decide) ?_
              refine XS.iconst X239.here hx rfl (hb hby at_224) ?_
              show oS p e below T239 (mkF m 225 #[oI p1, oI p2, oI p3, oI p4, oI p5, oI (p1 &&& (3 : Int32)), oR bp, oI (p2 &&& (7 : Int32)), oI vi14, oI vi17, oI vi20, oR b23, oR b30, oR b48, oR b81, oR b218, oI 0, oI 0, oU, oU, oU] [oi 1]) _
              refine XS.goto X239.here hx rfl (pc0 := 225) (pc' := 229) rfl (hb hby at_225) (by decide) (by decide) ?_
              exact k)
            exact ⟨(1 : Int32), (by rw [htn]; simp [hc256]), pre257⟩
          ·
            have pre258 : oL p e below T239 (mkF m 221 #[oI p1, oI p2, oI p3, oI p4, oI p5, oI (p1 &&& (3 : Int32)), oR bp, oI (p2 &&& (7 : Int32)), oI vi14, oI vi17, oI vi20, oR b23, oR b30, oR b48, oR b81, oR b218, oI 0, oI 0, oU, oU, oU] [oi 3, oi (p1 &&& (3 : Int32))]) s₁ (entryFrame m #[(.int p1), (.int p2), (.int p3), (.int p4), (.int p5)] maxLocals) := fun t k => pre255 t (by
              refine XS.icmpNo X239.here hx rfl (hb hby at_215) rfl (feq hc256).1 ?_
              refine XS.iload X239.here hx rfl (hb hby at_218) rfl ?_
              show oS p e below T239 (mkF m 220 #[oI p1, oI p2, oI p3, oI p4, oI p5, oI (p1 &&& (3 : Int32)), oR bp, oI (p2 &&& (7 : Int32)), oI vi14, oI vi17, oI vi20, oR b23, oR b30, oR b48, oR b81, oR b218, oI 0, oI 0, oU, oU, oU] [oi (p1 &&& (3 : Int32))]) _
              refine XS.iconst X239.here hx rfl (hb hby at_220) ?_
              exact k)
            by_cases hc259 : (p1 &&& (3 : Int32)) = (3 : Int32)
            ·
              have pre260 : oL p e below T239 (mkF m 229 #[oI p1, oI p2, oI p3, oI p4, oI p5, oI (p1 &&& (3 : Int32)), oR bp, oI (p2 &&& (7 : Int32)), oI vi14, oI vi17, oI vi20, oR b23, oR b30, oR b48, oR b81, oR b218, oI 0, oI 0, oU, oU, oU] [oi 1]) s₁ (entryFrame m #[(.int p1), (.int p2), (.int p3), (.int p4), (.int p5)] maxLocals) := fun t k => pre258 t (by
                refine XS.icmpNo X239.here hx rfl (hb hby at_221) rfl (teq hc259).2 ?_
                refine XS.iconst X239.here hx rfl (hb hby at_224) ?_
                refine XS.goto X239.here hx rfl (pc0 := 225) (pc' := 229) rfl (hb hby at_225) (by decide) (by decide) ?_
                show oS p e below T239 (mkF m 229 #[oI p1, oI p2, oI p3, oI p4, oI p5, oI (p1 &&& (3 : Int32)), oR bp, oI (p2 &&& (7 : Int32)), oI vi14, oI vi17, oI vi20, oR b23, oR b30, oR b48, oR b81, oR b218, oI 0, oI 0, oU, oU, oU] [oi 1]) _
                exact k)
              exact ⟨(1 : Int32), (by rw [htn]; simp [hc256, hc259]), pre260⟩
            ·
              have pre261 : oL p e below T239 (mkF m 229 #[oI p1, oI p2, oI p3, oI p4, oI p5, oI (p1 &&& (3 : Int32)), oR bp, oI (p2 &&& (7 : Int32)), oI vi14, oI vi17, oI vi20, oR b23, oR b30, oR b48, oR b81, oR b218, oI 0, oI 0, oU, oU, oU] [oi 0]) s₁ (entryFrame m #[(.int p1), (.int p2), (.int p3), (.int p4), (.int p5)] maxLocals) := fun t k => pre258 t (by
                refine XS.icmpYes X239.here hx rfl (pc0 := 221) (pc' := 228) rfl (hb hby at_221) rfl (feq hc259).2 (by decide) (by decide) ?_
                refine XS.iconst X239.here hx rfl (hb hby at_228) ?_
                exact k)
              exact ⟨(0 : Int32), (by rw [htn]; simp [hc256, hc259]), pre261⟩
        have pre262 : oL p e below T239 (mkF m 231 #[oI p1, oI p2, oI p3, oI p4, oI p5, oI (p1 &&& (3 : Int32)), oR bp, oI (p2 &&& (7 : Int32)), oI vi14, oI vi17, oI vi20, oR b23, oR b30, oR b48, oR b81, oR b218, oI 0, oI 0, oI vi254, oU, oU] []) s₁ (entryFrame m #[(.int p1), (.int p2), (.int p3), (.int p4), (.int p5)] maxLocals) := fun t k => pre254 t (by
          refine XS.istore X239.here hx rfl (hb hby at_229) rfl (l' := #[oI p1, oI p2, oI p3, oI p4, oI p5, oI (p1 &&& (3 : Int32)), oR bp, oI (p2 &&& (7 : Int32)), oI vi14, oI vi17, oI vi20, oR b23, oR b30, oR b48, oR b81, oR b218, oI 0, oI 0, oI vi254, oU, oU]) rfl ?_
          exact k)
        obtain ⟨vi263, hj263, pre263⟩ : ∃ vi263 : Int32, (vi263 = ti) ∧ oL p e below T239 (mkF m 248 #[oI p1, oI p2, oI p3, oI p4, oI p5, oI (p1 &&& (3 : Int32)), oR bp, oI (p2 &&& (7 : Int32)), oI vi14, oI vi17, oI vi20, oR b23, oR b30, oR b48, oR b81, oR b218, oI 0, oI 0, oI vi254, oU, oU] [oi vi263]) s₁ (entryFrame m #[(.int p1), (.int p2), (.int p3), (.int p4), (.int p5)] maxLocals) := by
          have pre264 : oL p e below T239 (mkF m 234 #[oI p1, oI p2, oI p3, oI p4, oI p5, oI (p1 &&& (3 : Int32)), oR bp, oI (p2 &&& (7 : Int32)), oI vi14, oI vi17, oI vi20, oR b23, oR b30, oR b48, oR b81, oR b218, oI 0, oI 0, oI vi254, oU, oU] [oi 2, oi (p1 &&& (3 : Int32))]) s₁ (entryFrame m #[(.int p1), (.int p2), (.int p3), (.int p4), (.int p5)] maxLocals) := fun t k => pre262 t (by
            refine XS.iload X239.here hx rfl (hb hby at_231) rfl ?_
            refine XS.iconst X239.here hx rfl (hb hby at_233) ?_
            exact k)
          by_cases hc265 : (p1 &&& (3 : Int32)) = (2 : Int32)
          ·
            have pre266 : oL p e below T239 (mkF m 248 #[oI p1, oI p2, oI p3, oI p4, oI p5, oI (p1 &&& (3 : Int32)), oR bp, oI (p2 &&& (7 : Int32)), oI vi14, oI vi17, oI vi20, oR b23, oR b30, oR b48, oR b81, oR b218, oI 0, oI 0, oI vi254, oU, oU] [oi 1]) s₁ (entryFrame m #[(.int p1), (.int p2), (.int p3), (.int p4), (.int p5)] maxLocals) := fun t k => pre264 t (by
              refine XS.icmpYes X239.here hx rfl (pc0 := 234) (pc' := 243) rfl (hb hby at_234) rfl (teq hc265).1 (by decide) (by decide) ?_
              show oS p e below T239 (mkF m 243 #[oI p1, oI p2, oI p3, oI p4, oI p5, oI (p1 &&& (3 : Int32)), oR bp, oI (p2 &&& (7 : Int32)), oI vi14, oI vi17, oI vi20, oR b23, oR b30, oR b48, oR b81, oR b218, oI 0, oI 0, oI vi254, oU, oU] []) _
              refine XS.iconst X239.here hx rfl (hb hby at_243) ?_
              refine XS.goto X239.here hx rfl (pc0 := 244) (pc' := 248) rfl (hb hby at_244) (by decide) (by decide) ?_
              exact k)
            exact ⟨(1 : Int32), (by rw [hti]; simp [hc265]), pre266⟩
          ·
            have pre267 : oL p e below T239 (mkF m 240 #[oI p1, oI p2, oI p3, oI p4, oI p5, oI (p1 &&& (3 : Int32)), oR bp, oI (p2 &&& (7 : Int32)), oI vi14, oI vi17, oI vi20, oR b23, oR b30, oR b48, oR b81, oR b218, oI 0, oI 0, oI vi254, oU, oU] [oi 3, oi (p1 &&& (3 : Int32))]) s₁ (entryFrame m #[(.int p1), (.int p2), (.int p3), (.int p4), (.int p5)] maxLocals) := fun t k => pre264 t (by
              refine XS.icmpNo X239.here hx rfl (hb hby at_234) rfl (feq hc265).1 ?_
              show oS p e below T239 (mkF m 237 #[oI p1, oI p2, oI p3, oI p4, oI p5, oI (p1 &&& (3 : Int32)), oR bp, oI (p2 &&& (7 : Int32)), oI vi14, oI vi17, oI vi20, oR b23, oR b30, oR b48, oR b81, oR b218, oI 0, oI 0, oI vi254, oU, oU] []) _
              refine XS.iload X239.here hx rfl (hb hby at_237) rfl ?_
              refine XS.iconst X239.here hx rfl (hb hby at_239) ?_
              exact k)
            by_cases hc268 : (p1 &&& (3 : Int32)) = (3 : Int32)
            ·
              have pre269 : oL p e below T239 (mkF m 248 #[oI p1, oI p2, oI p3, oI p4, oI p5, oI (p1 &&& (3 : Int32)), oR bp, oI (p2 &&& (7 : Int32)), oI vi14, oI vi17, oI vi20, oR b23, oR b30, oR b48, oR b81, oR b218, oI 0, oI 0, oI vi254, oU, oU] [oi 1]) s₁ (entryFrame m #[(.int p1), (.int p2), (.int p3), (.int p4), (.int p5)] maxLocals) := fun t k => pre267 t (by
                refine XS.icmpNo X239.here hx rfl (hb hby at_240) rfl (teq hc268).2 ?_
                refine XS.iconst X239.here hx rfl (hb hby at_243) ?_
                show oS p e below T239 (mkF m 244 #[oI p1, oI p2, oI p3, oI p4, oI p5, oI (p1 &&& (3 : Int32)), oR bp, oI (p2 &&& (7 : Int32)), oI vi14, oI vi17, oI vi20, oR b23, oR b30, oR b48, oR b81, oR b218, oI 0, oI 0, oI vi254, oU, oU] [oi 1]) _
                refine XS.goto X239.here hx rfl (pc0 := 244) (pc' := 248) rfl (hb hby at_244) (by decide) (by decide) ?_
                exact k)
              exact ⟨(1 : Int32), (by rw [hti]; simp [hc265, hc268]), pre269⟩
            ·
              have pre270 : oL p e below T239 (mkF m 248 #[oI p1, oI p2, oI p3, oI p4, oI p5, oI (p1 &&& (3 : Int32)), oR bp, oI (p2 &&& (7 : Int32)), oI vi14, oI vi17, oI vi20, oR b23, oR b30, oR b48, oR b81, oR b218, oI 0, oI 0, oI vi254, oU, oU] [oi 0]) s₁ (entryFrame m #[(.int p1), (.int p2), (.int p3), (.int p4), (.int p5)] maxLocals) := fun t k => pre267 t (by
                refine XS.icmpYes X239.here hx rfl (pc0 := 240) (pc' := 247) rfl (hb hby at_240) rfl (feq hc268).2 (by decide) (by decide) ?_
                refine XS.iconst X239.here hx rfl (hb hby at_247) ?_
                show oS p e below T239 (mkF m 248 #[oI p1, oI p2, oI p3, oI p4, oI p5, oI (p1 &&& (3 : Int32)), oR bp, oI (p2 &&& (7 : Int32)), oI vi14, oI vi17, oI vi20, oR b23, oR b30, oR b48, oR b81, oR b218, oI 0, oI 0, oI vi254, oU, oU] [oi 0]) _
                exact k)
              exact ⟨(0 : Int32), (by rw [hti]; simp [hc265, hc268]), pre270⟩
        have pre271 : oL p e below T239 (mkF m 262 #[oI p1, oI p2, oI p3, oI p4, oI p5, oI (p1 &&& (3 : Int32)), oR bp, oI (p2 &&& (7 : Int32)), oI vi14, oI vi17, oI vi20, oR b23, oR b30, oR b48, oR b81, oR b218, oI 0, oI 0, oI vi254, oI vi263, oU] []) s₁ (entryFrame m #[(.int p1), (.int p2), (.int p3), (.int p4), (.int p5)] maxLocals) := fun t k => pre263 t (by
          refine XS.istore X239.here hx rfl (hb hby at_248) rfl (l' := #[oI p1, oI p2, oI p3, oI p4, oI p5, oI (p1 &&& (3 : Int32)), oR bp, oI (p2 &&& (7 : Int32)), oI vi14, oI vi17, oI vi20, oR b23, oR b30, oR b48, oR b81, oR b218, oI 0, oI 0, oI vi254, oI vi263, oU]) rfl ?_
          refine XS.iload X239.here hx rfl (hb hby at_250) rfl ?_
          refine XS.ifYes X239.here hx rfl (pc0 := 252) (pc' := 262) rfl (hb hby at_252) rfl ((if0 _ _).trans (teq (by decide : (0 : Int32) = (0 : Int32))).1) (by decide) (by decide) ?_
          show oS p e below T239 (mkF m 262 #[oI p1, oI p2, oI p3, oI p4, oI p5, oI (p1 &&& (3 : Int32)), oR bp, oI (p2 &&& (7 : Int32)), oI vi14, oI vi17, oI vi20, oR b23, oR b30, oR b48, oR b81, oR b218, oI 0, oI 0, oI vi254, oI vi263, oU] []) _
          exact k)
        obtain ⟨vi272, hj272, pre272⟩ : ∃ vi272 : Int32, (vi272 = ti) ∧ oL p e below T239 (mkF m 279 #[oI p1, oI p2, oI p3, oI p4, oI p5, oI (p1 &&& (3 : Int32)), oR bp, oI (p2 &&& (7 : Int32)), oI vi14, oI vi17, oI vi20, oR b23, oR b30, oR b48, oR b81, oR b218, oI 0, oI 0, oI vi254, oI vi263, oI vi272] []) s₁ (entryFrame m #[(.int p1), (.int p2), (.int p3), (.int p4), (.int p5)] maxLocals) := by
          have pre273 : oL p e below T239 (mkF m 269 #[oI p1, oI p2, oI p3, oI p4, oI p5, oI (p1 &&& (3 : Int32)), oR bp, oI (p2 &&& (7 : Int32)), oI vi14, oI vi17, oI vi20, oR b23, oR b30, oR b48, oR b81, oR b218, oI 0, oI 0, oI vi254, oI vi263, oU] [oi vi263]) s₁ (entryFrame m #[(.int p1), (.int p2), (.int p3), (.int p4), (.int p5)] maxLocals) := fun t k => pre271 t (by
            refine XS.iload X239.here hx rfl (hb hby at_262) rfl ?_
            refine XS.ifNo X239.here hx rfl (hb hby at_264) rfl ((if0 _ _).trans (teq (by decide : (0 : Int32) = (0 : Int32))).2) ?_
            refine XS.iload X239.here hx rfl (hb hby at_267) rfl ?_
            exact k)
          by_cases hc274 : vi263 = (0 : Int32)
          ·
            have pre275 : oL p e below T239 (mkF m 279 #[oI p1, oI p2, oI p3, oI p4, oI p5, oI (p1 &&& (3 : Int32)), oR bp, oI (p2 &&& (7 : Int32)), oI vi14, oI vi17, oI vi20, oR b23, oR b30, oR b48, oR b81, oR b218, oI 0, oI 0, oI vi254, oI vi263, oI 0] []) s₁ (entryFrame m #[(.int p1), (.int p2), (.int p3), (.int p4), (.int p5)] maxLocals) := fun t k => pre273 t (by
              refine XS.ifYes X239.here hx rfl (pc0 := 269) (pc' := 276) rfl (hb hby at_269) rfl ((if0 _ _).trans (teq hc274).1) (by decide) (by decide) ?_
              show oS p e below T239 (mkF m 276 #[oI p1, oI p2, oI p3, oI p4, oI p5, oI (p1 &&& (3 : Int32)), oR bp, oI (p2 &&& (7 : Int32)), oI vi14, oI vi17, oI vi20, oR b23, oR b30, oR b48, oR b81, oR b218, oI 0, oI 0, oI vi254, oI vi263, oU] []) _
              refine XS.iconst X239.here hx rfl (hb hby at_276) ?_
              refine XS.istore X239.here hx rfl (hb hby at_277) rfl (l' := #[oI p1, oI p2, oI p3, oI p4, oI p5, oI (p1 &&& (3 : Int32)), oR bp, oI (p2 &&& (7 : Int32)), oI vi14, oI vi17, oI vi20, oR b23, oR b30, oR b48, oR b81, oR b218, oI 0, oI 0, oI vi254, oI vi263, oI 0]) rfl ?_
              exact k)
            exact ⟨(0 : Int32), ((hc274).symm.trans hj263), pre275⟩
          ·
            have pre276 : oL p e below T239 (mkF m 279 #[oI p1, oI p2, oI p3, oI p4, oI p5, oI (p1 &&& (3 : Int32)), oR bp, oI (p2 &&& (7 : Int32)), oI vi14, oI vi17, oI vi20, oR b23, oR b30, oR b48, oR b81, oR b218, oI 0, oI 0, oI vi254, oI vi263, oI 1] []) s₁ (entryFrame m #[(.int p1), (.int p2), (.int p3), (.int p4), (.int p5)] maxLocals) := fun t k => pre273 t (by
              refine XS.ifNo X239.here hx rfl (hb hby at_269) rfl ((if0 _ _).trans (feq hc274).1) ?_
              show oS p e below T239 (mkF m 272 #[oI p1, oI p2, oI p3, oI p4, oI p5, oI (p1 &&& (3 : Int32)), oR bp, oI (p2 &&& (7 : Int32)), oI vi14, oI vi17, oI vi20, oR b23, oR b30, oR b48, oR b81, oR b218, oI 0, oI 0, oI vi254, oI vi263, oU] []) _
              refine XS.iconst X239.here hx rfl (hb hby at_272) ?_
              refine XS.goto X239.here hx rfl (pc0 := 273) (pc' := 277) rfl (hb hby at_273) (by decide) (by decide) ?_
              refine XS.istore X239.here hx rfl (hb hby at_277) rfl (l' := #[oI p1, oI p2, oI p3, oI p4, oI p5, oI (p1 &&& (3 : Int32)), oR bp, oI (p2 &&& (7 : Int32)), oI vi14, oI vi17, oI vi20, oR b23, oR b30, oR b48, oR b81, oR b218, oI 0, oI 0, oI vi254, oI vi263, oI 1]) rfl ?_
              exact k)
            exact ⟨(1 : Int32), ((hi.resolve_left (fun q => hc274 (hj263.trans q))).symm), pre276⟩
        have pre277 : oL p e below T239 (mkF m 283 #[oI p1, oI p2, oI p3, oI p4, oI p5, oI (p1 &&& (3 : Int32)), oR bp, oI (p2 &&& (7 : Int32)), oI vi14, oI vi17, oI vi20, oR b23, oR b30, oR b48, oR b81, oR b218, oI 0, oI 0, oI vi254, oI vi263, oI vi272] [ow b218, ow bp]) s₁ (entryFrame m #[(.int p1), (.int p2), (.int p3), (.int p4), (.int p5)] maxLocals) := fun t k => pre272 t (by
          refine XS.aload X239.here hx rfl (hb hby at_279) rfl rfl ?_
          refine XS.aload X239.here hx rfl (hb hby at_281) rfl rfl ?_
          exact k)
        obtain ⟨cq278, kq278, q278a, q278b, q278c⟩ := isOf hZ rfl (Ebp.ext OL251.2)
        obtain ⟨_, _, ⟨T278, L278, k278, n278⟩, -, X278, hS278, hgr278, ⟨Lc278, hQ278, l278, y278, z278, cr278⟩, st278⟩ := X239.virtualBackS hx (y := (⟨"com/example/grantwright/grantwright/Bypass", "takes", "(Ljava/lang/String;)Z"⟩ : MethodName)) (z := (⟨"com/example/grantwright/grantwright/Bypass", "takes", "(Ljava/lang/String;)Z"⟩ : MethodName)) hown (mvT hZ (oW hw 37 rfl)) (mvT hZ (oW hw 38 rfl)) (notFace_of_selects (args := #[]) (mvT hZ (oW hw 40 rfl))) (mvT hZ (oW hw 40 rfl)) (mvT hZ (oW hw 39 rfl)) (by decide) (backOfSH (W := 0) (rm_tkA l Z a0 hw [] bp ti b218 tt239 kb239 [] G1 T239.heap n0 OL251 O2 P5 FI hi Eq239 Fv239 Fc239 Va239) hZ (oW hw 41 rfl) (oW hw 5 rfl) (by decide) (by decide) hEL CH245) q278a q278c (g := (mkF m 283 #[oI p1, oI p2, oI p3, oI p4, oI p5, oI (p1 &&& (3 : Int32)), oR bp, oI (p2 &&& (7 : Int32)), oI vi14, oI vi17, oI vi20, oR b23, oR b30, oR b48, oR b81, oR b218, oI 0, oI 0, oI vi254, oI vi263, oI vi272] [ow b218, ow bp])) rfl (by rw [hml]; rfl) (Steps.refl _) (argsL := [(.ref b218)]) (rest := []) (lenOf pd__Ljava_lang_String__Z rfl) rfl (by show 2 * 0 + _ ≤ _; exact Nat.le_of_eq rfl) (hb hby at_283) (fun _ _ => ⟨rfl, rfl, (by decide : 7 + 2 ≤ _), (by decide : 14 + 4 ≤ _)⟩)
        dsimp only [Pt.U, Pt.locs, Pt.cells, Pt.slots] at X278 l278 y278 z278 st278 hQ278 hS278 hgr278 cr278
        subst l278 y278 z278
        obtain ⟨X278, hS, hZ, hown⟩ := rebS hS (hk : _ ≤ T239.heap.size) X278 hS278 hgr278 hZ hown
        have hk : T278.heap.size ≤ T278.heap.size := Nat.le_refl _
        obtain ⟨rfl, N278q, Kq278⟩ := hQ278
        have N278 := Fr.app N239 N278q
        have sf279 := cr278.safe f246.lt sf240
        have sf280 := cr278.safe f247.lt sf241
        have sf281 := cr278.safe f248.lt sf242
        have sf282 := cr278.safe f249.lt sf243
        have sf283 := cr278.safe Eq239.lt sf244
        have CH284 := cr278.1
        have CR284 := CR245.trans cr278
        have f285 := f246.keep Kq278 nin0
        have f286 := f247.keep Kq278 nin0
        have f287 := f248.keep Kq278 nin0
        have f288 := f249.keep Kq278 nin0
        have f289 := Eq239.keep Kq278
        have f290 := Fc239.keep Kq278 nin0
        have f291 := Fv239.keep Kq278 nin0
        have f292 := Va239.keep Kq278 nin0
        have OL293 := OL251.keep Kq278 all0
        have K294 : Keep h0 T278.heap [] := K252.trans Kq278 all0
        have pre295 : oL p e below T278 (mkF m 296 #[oI p1, oI p2, oI p3, oI p4, oI p5, oI (p1 &&& (3 : Int32)), oR bp, oI (p2 &&& (7 : Int32)), oI vi14, oI vi17, oI vi20, oR b23, oR b30, oR b48, oR b81, oR b218, oI 0, oI 0, oI vi254, oI vi263, oI vi272] [oi 1]) s₁ (entryFrame m #[(.int p1), (.int p2), (.int p3), (.int p4), (.int p5)] maxLocals) := fun t k => pre277 t (by
          refine st278.trans ?_
          refine XS.iload X278.here hx rfl (hb hby at_286) rfl ?_
          show oS p e below T278 (mkF m 288 #[oI p1, oI p2, oI p3, oI p4, oI p5, oI (p1 &&& (3 : Int32)), oR bp, oI (p2 &&& (7 : Int32)), oI vi14, oI vi17, oI vi20, oR b23, oR b30, oR b48, oR b81, oR b218, oI 0, oI 0, oI vi254, oI vi263, oI vi272] [oi vi272, oi ti]) _
          refine XS.icmpNo X278.here hx rfl (hb hby at_288) rfl (teq (hj272).symm).2 ?_
          refine XS.iconst X278.here hx rfl (hb hby at_291) ?_
          refine XS.goto X278.here hx rfl (pc0 := 292) (pc' := 296) rfl (hb hby at_292) (by decide) (by decide) ?_
          exact k)
        obtain ⟨fs, hr, hrun, hended, hEnd⟩ := X278.leaveW hS hk (v := some (.int (1 : Int32))) (fun h => by rw [Bd.returns] at h; cases h)
        refine ⟨_, _, pre295 _ ?_, hrun, hended, _, _, rfl, ?_, (by show CHr Z consts_1 s.vm s.heap T278.vm T278.heap; rw [hh]; exact CR284.trans (CHv.at X278 hZ hEL CH284)), hEnd.1, hEnd.2.1, hEnd.2.2.1, hEnd.2.2.2.mono (by decide) (by decide)⟩
        ·
          show oS p e below T278 (mkF m 296 #[oI p1, oI p2, oI p3, oI p4, oI p5, oI (p1 &&& (3 : Int32)), oR bp, oI (p2 &&& (7 : Int32)), oI vi14, oI vi17, oI vi20, oR b23, oR b30, oR b48, oR b81, oR b218, oI 0, oI 0, oI vi254, oI vi263, oI vi272] [oi 1]) _
          exact retN X278 hx (t := .boolean) Bd.returns (by simp) (hb hby at_296) hr
        ·
          show Q_rm0 Z p1 p2 p3 p4 p5 G1 w_NONE w_WHEN_NULL w_WHEN_INITIAL w_WHEN_INITIAL_OR_NULL h0 n0 _ T278.heap _
          exact ⟨rfl, N278⟩
      ·
        have pre296 : oL p e below T121 (mkF m 146 #[oI p1, oI p2, oI p3, oI p4, oI p5, oI (p1 &&& (3 : Int32)), oR bp, oI (p2 &&& (7 : Int32)), oI vi14, oI vi17, oI vi20, oR b23, oR b30, oR b48, oR b81, oU, oU, oU, oU, oU, oU] [oi 3, oi (p2 &&& (7 : Int32))]) s₁ (entryFrame m #[(.int p1), (.int p2), (.int p3), (.int p4), (.int p5)] maxLocals) := fun t k => pre215 t (by
          refine XS.icmpYes X121.here hx rfl (pc0 := 120) (pc' := 143) rfl (hb hby at_120) rfl (feq hc216).2 (by decide) (by decide) ?_
          refine XS.iload X121.here hx rfl (hb hby at_143) rfl ?_
          refine XS.iconst X121.here hx rfl (hb hby at_145) ?_
          show oS p e below T121 (mkF m 146 #[oI p1, oI p2, oI p3, oI p4, oI p5, oI (p1 &&& (3 : Int32)), oR bp, oI (p2 &&& (7 : Int32)), oI vi14, oI vi17, oI vi20, oR b23, oR b30, oR b48, oR b81, oU, oU, oU, oU, oU, oU] [oi 3, oi (p2 &&& (7 : Int32))]) _
          exact k)
        by_cases hc297 : (p2 &&& (7 : Int32)) = (3 : Int32)
        ·
          have pre298 : oL p e below T121 (mkF m 149 #[oI p1, oI p2, oI p3, oI p4, oI p5, oI (p1 &&& (3 : Int32)), oR bp, oI (p2 &&& (7 : Int32)), oI vi14, oI vi17, oI vi20, oR b23, oR b30, oR b48, oR b81, oU, oU, oU, oU, oU, oU] []) s₁ (entryFrame m #[(.int p1), (.int p2), (.int p3), (.int p4), (.int p5)] maxLocals) := fun t k => pre296 t (by
            refine XS.icmpNo X121.here hx rfl (hb hby at_146) rfl (teq hc297).2 ?_
            exact k)
          obtain ⟨T299, h299, X299, e299, E299, A299, D299, -, st299⟩ := newO X121 hx hZ hown (oW hw 8 rfl) (oW hw 9 rfl) (oW hw 10 rfl) e121 (g := (mkF m 149 #[oI p1, oI p2, oI p3, oI p4, oI p5, oI (p1 &&& (3 : Int32)), oR bp, oI (p2 &&& (7 : Int32)), oI vi14, oI vi17, oI vi20, oR b23, oR b30, oR b48, oR b81, oU, oU, oU, oU, oU, oU] [])) rfl (hb hby at_149) (by decide) (by decide)
          obtain ⟨b299, g299⟩ : ∃ z, z = h121.size := ⟨_, rfl⟩
          rw [← g299] at A299 D299 st299
          have sf300 : Safe Z consts_1 s.vm h121 b299 := Safe.new (Nat.le_of_eq g299.symm)
          have ne301 : b23 ≠ b299 := Nat.ne_of_lt (Nat.lt_of_lt_of_le f127.lt (Nat.le_of_eq g299.symm))
          have ne302 : b30 ≠ b299 := Nat.ne_of_lt (Nat.lt_of_lt_of_le f128.lt (Nat.le_of_eq g299.symm))
          have ne303 : b48 ≠ b299 := Nat.ne_of_lt (Nat.lt_of_lt_of_le f129.lt (Nat.le_of_eq g299.symm))
          have ne304 : b81 ≠ b299 := Nat.ne_of_lt (Nat.lt_of_lt_of_le V121.lt (Nat.le_of_eq g299.symm))
          have ge_b299 : n0 ≤ b299 := Nat.le_trans (OL130.1 ▸ OL130.2.1) (Nat.le_of_eq g299.symm)
          have sz_b299 : h0.size ≤ b299 := Nat.le_trans K131.1 (Nat.le_of_eq g299.symm)
          have sf305 := Safe.ext E299 CH126 sf122
          have sf306 := Safe.ext E299 CH126 sf123
          have sf307 := Safe.ext E299 CH126 sf124
          have sf308 := Safe.ext E299 CH126 sf125
          have sf309 := Safe.ext E299 CH126 sf300
          have cr310 := CHr.ext E299 CH126
          have CH310 := cr310.1
          have CR310 := CR126.trans cr310
          have f311 := f127.ext E299
          have f312 := f128.ext E299
          have f313 := f129.ext E299
          have f314 := V121.ext E299
          have OL315 := OL130.ext E299
          have K316 : Keep h0 h299 [] := K131.ext E299
          have hk := Nat.le_trans hk E299.1
          have f317 : Fld Z h299 b299 "java/lang/String" "coder" "B" (.int (0 : Int32)) := D299 (Or.inr (oW hw 34 rfl)) (ty := .byte) (by decide)
          have f318 : Fld Z h299 b299 "java/lang/String" "value" "[B" .null := D299 (Or.inr (oW hw 36 rfl)) (ty := (.array .byte)) (by decide)
          have pre319 : oL p e below T299 (mkF m 155 #[oI p1, oI p2, oI p3, oI p4, oI p5, oI (p1 &&& (3 : Int32)), oR bp, oI (p2 &&& (7 : Int32)), oI vi14, oI vi17, oI vi20, oR b23, oR b30, oR b48, oR b81, oU, oU, oU, oU, oU, oU] [ow b30, ow b299, ow b299]) s₁ (entryFrame m #[(.int p1), (.int p2), (.int p3), (.int p4), (.int p5)] maxLocals) := fun t k => pre298 t (by
            refine st299 _ ?_
            refine XS.dup X299.here hx rfl (hb hby at_152) rfl rfl ?_
            refine XS.aload X299.here hx rfl (hb hby at_153) rfl rfl ?_
            show oS p e below T299 (mkF m 155 #[oI p1, oI p2, oI p3, oI p4, oI p5, oI (p1 &&& (3 : Int32)), oR bp, oI (p2 &&& (7 : Int32)), oI vi14, oI vi17, oI vi20, oR b23, oR b30, oR b48, oR b81, oU, oU, oU, oU, oU, oU] [ow b30, ow b299, ow b299]) _
            exact k)
          obtain ⟨_, _, ⟨T320, L320, k320, n320⟩, -, X320, ⟨Lc320, hQ320, l320, y320, z320⟩, st320⟩ := X299.specialBack hx (y := (⟨"java/lang/String", "<init>", "([C)V"⟩ : MethodName)) rfl hown (mvT hZ (oW hw 11 rfl)) (mvT hZ (oW hw 12 rfl)) (mvT hZ (oW hw 13 rfl)) (by decide) (backOf (W := 1) (rm_S1 l Z a0 hw [] b299 b30 k30 G1 vi14 h299 n0 OL315 AD HB LB O2 P5 ge_b299 A299 f318 f317 f312 hj14) hZ (oW hw 13 rfl) (oW hw 10 rfl) (by decide) (by decide)) (g := (mkF m 155 #[oI p1, oI p2, oI p3, oI p4, oI p5, oI (p1 &&& (3 : Int32)), oR bp, oI (p2 &&& (7 : Int32)), oI vi14, oI vi17, oI vi20, oR b23, oR b30, oR b48, oR b81, oU, oU, oU, oU, oU, oU] [ow b30, ow b299, ow b299])) rfl (by rw [hml]; rfl) (Steps.refl _) (a := b299) (argsL := [(.ref b30)]) (rest := [(.ref b299)]) (lenOf pd___C_V rfl) rfl (by show 2 * 0 + _ ≤ _; exact Nat.le_of_eq rfl) (hb hby at_155) (fun _ _ => ⟨rfl, e299, (by decide : 5 + 2 ≤ _), (by decide : 10 + 3 ≤ _)⟩)
          dsimp only [Pt.U, Pt.locs, Pt.cells, Pt.slots] at X320 l320 y320 z320 st320 hQ320
          subst l320 y320 z320
          obtain ⟨rfl, N320q, Kq320, Eq320, cd320, tt320, kb320, Nx320, vs320, Fc320, sq320, nx320, Fv320, Va320, ou320⟩ := hQ320
          have N320 := Fr.app N121 N320q
          have sf321 : Safe Z consts_1 s.vm h299 tt320 := Safe.new sq320
          have ne322 : b23 ≠ tt320 := Nat.ne_of_lt (Nat.lt_of_lt_of_le f311.lt sq320)
          have ne323 : b299 ≠ tt320 := Nat.ne_of_lt (Nat.lt_of_lt_of_le A299.lt sq320)
          have ne324 : b30 ≠ tt320 := Nat.ne_of_lt (Nat.lt_of_lt_of_le f312.lt sq320)
          have ne325 : b48 ≠ tt320 := Nat.ne_of_lt (Nat.lt_of_lt_of_le f313.lt sq320)
          have ne326 : b81 ≠ tt320 := Nat.ne_of_lt (Nat.lt_of_lt_of_le f314.lt sq320)
          have ge_tt320 : n0 ≤ tt320 := Nat.le_trans (OL315.1 ▸ OL315.2.1) sq320
          have sz_tt320 : h0.size ≤ tt320 := Nat.le_trans K316.1 sq320
          have sf327 := Safe.keep Kq320 ((allS sf309 all0) : ∀ x ∈ [b299], Safe Z consts_1 s.vm h299 x) CH310 sf305
          have sf328 := Safe.keep Kq320 ((allS sf309 all0) : ∀ x ∈ [b299], Safe Z consts_1 s.vm h299 x) CH310 sf306
          have sf329 := Safe.keep Kq320 ((allS sf309 all0) : ∀ x ∈ [b299], Safe Z consts_1 s.vm h299 x) CH310 sf307
          have sf330 := Safe.keep Kq320 ((allS sf309 all0) : ∀ x ∈ [b299], Safe Z consts_1 s.vm h299 x) CH310 sf308
          have sf331 := Safe.keep Kq320 ((allS sf309 all0) : ∀ x ∈ [b299], Safe Z consts_1 s.vm h299 x) CH310 sf309
          have sf332 := Safe.keep Kq320 ((allS sf309 all0) : ∀ x ∈ [b299], Safe Z consts_1 s.vm h299 x) CH310 sf321
          have cr333 := CHr.keep Kq320 ((allS sf309 all0) : ∀ x ∈ [b299], Safe Z consts_1 s.vm h299 x) CH310
          have CH333 := cr333.1
          have CR333 := CR310.trans cr333
          have hk := Nat.le_trans hk Kq320.1
          have f334 := f311.keep Kq320 (ninS ne301 nin0)
          have f335 := f312.keep Kq320 (ninS ne302 nin0)
          have f336 := f313.keep Kq320 (ninS ne303 nin0)
          have f337 := f314.keep Kq320 (ninS ne304 nin0)
          have f338 := A299.keep Kq320
          have OL339 := OL315.keep Kq320 (allS ge_b299 all0)
          have K340 : Keep h0 T320.heap [] := K316.trans Kq320 (allS (Or.inr sz_b299) all0)
          have pre341 : oL p e below T320 (mkF m 158 #[oI p1, oI p2, oI p3, oI p4, oI p5, oI (p1 &&& (3 : Int32)), oR bp, oI (p2 &&& (7 : Int32)), oI vi14, oI vi17, oI vi20, oR b23, oR b30, oR b48, oR b81, oU, oU, oU, oU, oU, oU] [ow b299]) s₁ (entryFrame m #[(.int p1), (.int p2), (.int p3), (.int p4), (.int p5)] maxLocals) := fun t k => pre319 t (by
            refine st320.trans ?_
            exact k)
          rcases ou320 with ⟨hcd, hNx, hvs, -⟩ | ⟨hcd, -⟩
          ·
            have f342 := Fc320
            rw [hcd] at f342
            have f343 := Va320
            rw [hNx, hvs] at f343
            have pre344 : oL p e below T320 (mkF m 212 #[oI p1, oI p2, oI p3, oI p4, oI p5, oI (p1 &&& (3 : Int32)), oR bp, oI (p2 &&& (7 : Int32)), oI vi14, oI vi17, oI vi20, oR b23, oR b30, oR b48, oR b81, oR b299, oI 0, oI 1, oU, oU, oU] []) s₁ (entryFrame m #[(.int p1), (.int p2), (.int p3), (.int p4), (.int p5)] maxLocals) := fun t k => pre341 t (by
              refine XS.astore X320.here hx rfl (hb hby at_158) rfl rfl (l' := #[oI p1, oI p2, oI p3, oI p4, oI p5, oI (p1 &&& (3 : Int32)), oR bp, oI (p2 &&& (7 : Int32)), oI vi14, oI vi17, oI vi20, oR b23, oR b30, oR b48, oR b81, oR b299, oU, oU, oU, oU, oU]) rfl ?_
              refine XS.iconst X320.here hx rfl (hb hby at_160) ?_
              refine XS.istore X320.here hx rfl (hb hby at_161) rfl (l' := #[oI p1, oI p2, oI p3, oI p4, oI p5, oI (p1 &&& (3 : Int32)), oR bp, oI (p2 &&& (7 : Int32)), oI vi14, oI vi17, oI vi20, oR b23, oR b30, oR b48, oR b81, oR b299, oI 0, oU, oU, oU, oU]) rfl ?_
              show oS p e below T320 (mkF m 163 #[oI p1, oI p2, oI p3, oI p4, oI p5, oI (p1 &&& (3 : Int32)), oR bp, oI (p2 &&& (7 : Int32)), oI vi14, oI vi17, oI vi20, oR b23, oR b30, oR b48, oR b81, oR b299, oI 0, oU, oU, oU, oU] []) _
              refine XS.iconst X320.here hx rfl (hb hby at_163) ?_
              refine XS.istore X320.here hx rfl (hb hby at_164) rfl (l' := #[oI p1, oI p2, oI p3, oI p4, oI p5, oI (p1 &&& (3 : Int32)), oR bp, oI (p2 &&& (7 : Int32)), oI vi14, oI vi17, oI vi20, oR b23, oR b30, oR b48, oR b81, oR b299, oI 0, oI 1, oU, oU, oU]) rfl ?_
              refine XS.goto X320.here hx rfl (pc0 := 166) (pc' := 212) rfl (hb hby at_166) (by decide) (by decide) ?_
              exact k)
            obtain ⟨vi345, hj345, pre345⟩ : ∃ vi345 : Int32, (vi345 = tn) ∧ oL p e below T320 (mkF m 229 #[oI p1, oI p2, oI p3, oI p4, oI p5, oI (p1 &&& (3 : Int32)), oR bp, oI (p2 &&& (7 : Int32)), oI vi14, oI vi17, oI vi20, oR b23, oR b30, oR b48, oR b81, oR b299, oI 0, oI 1, oU, oU, oU] [oi vi345]) s₁ (entryFrame m #[(.int p1), (.int p2), (.int p3), (.int p4), (.int p5)] maxLocals) := by
              have pre346 : oL p e below T320 (mkF m 215 #[oI p1, oI p2, oI p3, oI p4, oI p5, oI (p1 &&& (3 : Int32)), oR bp, oI (p2 &&& (7 : Int32)), oI vi14, oI vi17, oI vi20, oR b23, oR b30, oR b48, oR b81, oR b299, oI 0, oI 1, oU, oU, oU] [oi 1, oi (p1 &&& (3 : Int32))]) s₁ (entryFrame m #[(.int p1), (.int p2), (.int p3), (.int p4), (.int p5)] maxLocals) := fun t k => pre344 t (by
                refine XS.iload X320.here hx rfl (hb hby at_212) rfl ?_
                show oS p e below T320 (mkF m 214 #[oI p1, oI p2, oI p3, oI p4, oI p5, oI (p1 &&& (3 : Int32)), oR bp, oI (p2 &&& (7 : Int32)), oI vi14, oI vi17, oI vi20, oR b23, oR b30, oR b48, oR b81, oR b299, oI 0, oI 1, oU, oU, oU] [oi (p1 &&& (3 : Int32))]) _
                refine XS.iconst X320.here hx rfl (hb hby at_214) ?_
                exact k)
              by_cases hc347 : (p1 &&& (3 : Int32)) = (1 : Int32)
              ·
                have pre348 : oL p e below T320 (mkF m 229 #[oI p1, oI p2, oI p3, oI p4, oI p5, oI (p1 &&& (3 : Int32)), oR bp, oI (p2 &&& (7 : Int32)), oI vi14, oI vi17, oI vi20, oR b23, oR b30, oR b48, oR b81, oR b299, oI 0, oI 1, oU, oU, oU] [oi 1]) s₁ (entryFrame m #[(.int p1), (.int p2), (.int p3), (.int p4), (.int p5)] maxLocals) := fun t k => pre346 t (by
                  refine XS.icmpYes X320.here hx rfl (pc0 := 215) (pc' := 224) rfl (hb hby at_215) rfl (teq hc347).1 (by decide) (by decide) ?_
                  refine XS.iconst X320.here hx rfl (hb hby at_224) ?_
                  refine XS.goto X320.here hx rfl (pc0 := 225) (pc' := 229) rfl (hb hby at_225) (by decide) (by decide) ?_
                  show oS p e below T320 (mkF m 229 #[oI p1, oI p2, oI p3, oI p4, oI p5, oI (p1 &&& (3 : Int32)), oR bp, oI (p2 &&& (7 : Int32)), oI vi14, oI vi17, oI vi20, oR b23, oR b30, oR b48, oR b81, oR b299, oI 0, oI 1, oU, oU, oU] [oi 1]) _
                  exact k)
                exact ⟨(1 : Int32), (by rw [htn]; simp [hc347]), pre348⟩
              ·
                have pre349 : oL p e below T320 (mkF m 221 #[oI p1, oI p2, oI p3, oI p4, oI p5, oI (p1 &&& (3 : Int32)), oR bp, oI (p2 &&& (7 : Int32)), oI vi14, oI vi17, oI vi20, oR b23, oR b30, oR b48, oR b81, oR b299, oI 0, oI 1, oU, oU, oU] [oi 3, oi (p1 &&& (3 : Int32))]) s₁ (entryFrame m #[(.int p1), (.int p2), (.int p3), (.int p4), (.int p5)] maxLocals) := fun t k => pre346 t (by
                  refine XS.icmpNo X320.here hx rfl (hb hby at_215) rfl (feq hc347).1 ?_
                  refine XS.iload X320.here hx rfl (hb hby at_218) rfl ?_
                  refine XS.iconst X320.here hx rfl (hb hby at_220) ?_
                  show oS p e below T320 (mkF m 221 #[oI p1, oI p2, oI p3, oI p4, oI p5, oI (p1 &&& (3 : Int32)), oR bp, oI (p2 &&& (7 : Int32)), oI vi14, oI vi17, oI vi20, oR b23, oR b30, oR b48, oR b81, oR b299, oI 0, oI 1, oU, oU, oU] [oi 3, oi (p1 &&& (3 : Int32))]) _
                  exact k)
                by_cases hc350 : (p1 &&& (3 : Int32)) = (3 : Int32)
                ·
                  have pre351 : oL p e below T320 (mkF m 229 #[oI p1, oI p2, oI p3, oI p4, oI p5, oI (p1 &&& (3 : Int32)), oR bp, oI (p2 &&& (7 : Int32)), oI vi14, oI vi17, oI vi20, oR b23, oR b30, oR b48, oR b81, oR b299, oI 0, oI 1, oU, oU, oU] [oi 1]) s₁ (entryFrame m #[(.int p1), (.int p2), (.int p3), (.int p4), (.int p5)] maxLocals) := fun t k => pre349 t (by
                    refine XS.icmpNo X320.here hx rfl (hb hby at_221) rfl (teq hc350).2 ?_
                    refine XS.iconst X320.here hx rfl (hb hby at_224) ?_
                    refine XS.goto X320.here hx rfl (pc0 := 225) (pc' := 229) rfl (hb hby at_225) (by decide) (by decide) ?_
                    exact k)
                  exact ⟨(1 : Int32), (by rw [htn]; simp [hc347, hc350]), pre351⟩
                ·
                  have pre352 : oL p e below T320 (mkF m 229 #[oI p1, oI p2, oI p3, oI p4, oI p5, oI (p1 &&& (3 : Int32)), oR bp, oI (p2 &&& (7 : Int32)), oI vi14, oI vi17, oI vi20, oR b23, oR b30, oR b48, oR b81, oR b299, oI 0, oI 1, oU, oU, oU] [oi 0]) s₁ (entryFrame m #[(.int p1), (.int p2), (.int p3), (.int p4), (.int p5)] maxLocals) := fun t k => pre349 t (by
                    refine XS.icmpYes X320.here hx rfl (pc0 := 221) (pc' := 228) rfl (hb hby at_221) rfl (feq hc350).2 (by decide) (by decide) ?_
                    refine XS.iconst X320.here hx rfl (hb hby at_228) ?_
                    exact k)
                  exact ⟨(0 : Int32), (by rw [htn]; simp [hc347, hc350]), pre352⟩
            have pre353 : oL p e below T320 (mkF m 231 #[oI p1, oI p2, oI p3, oI p4, oI p5, oI (p1 &&& (3 : Int32)), oR bp, oI (p2 &&& (7 : Int32)), oI vi14, oI vi17, oI vi20, oR b23, oR b30, oR b48, oR b81, oR b299, oI 0, oI 1, oI vi345, oU, oU] []) s₁ (entryFrame m #[(.int p1), (.int p2), (.int p3), (.int p4), (.int p5)] maxLocals) := fun t k => pre345 t (by
              refine XS.istore X320.here hx rfl (hb hby at_229) rfl (l' := #[oI p1, oI p2, oI p3, oI p4, oI p5, oI (p1 &&& (3 : Int32)), oR bp, oI (p2 &&& (7 : Int32)), oI vi14, oI vi17, oI vi20, oR b23, oR b30, oR b48, oR b81, oR b299, oI 0, oI 1, oI vi345, oU, oU]) rfl ?_
              show oS p e below T320 (mkF m 231 #[oI p1, oI p2, oI p3, oI p4, oI p5, oI (p1 &&& (3 : Int32)), oR bp, oI (p2 &&& (7 : Int32)), oI vi14, oI vi17, oI vi20, oR b23, oR b30, oR b48, oR b81, oR b299, oI 0, oI 1, oI vi345, oU, oU] []) _
              exact k)
            obtain ⟨vi354, hj354, pre354⟩ : ∃ vi354 : Int32, (vi354 = ti) ∧ oL p e below T320 (mkF m 248 #[oI p1, oI p2, oI p3, oI p4, oI p5, oI (p1 &&& (3 : Int32)), oR bp, oI (p2 &&& (7 : Int32)), oI vi14, oI vi17, oI vi20, oR b23, oR b30, oR b48, oR b81, oR b299, oI 0, oI 1, oI vi345, oU, oU] [oi vi354]) s₁ (entryFrame m #[(.int p1), (.int p2), (.int p3), (.int p4), (.int p5)] maxLocals) := by
              have pre355 : oL p e below T320 (mkF m 234 #[oI p1, oI p2, oI p3, oI p4, oI p5, oI (p1 &&& (3 : Int32)), oR bp, oI (p2 &&& (7 : Int32)), oI vi14, oI vi17, oI vi20, oR b23, oR b30, oR b48, oR b81, oR b299, oI 0, oI 1, oI vi345, oU, oU] [oi 2, oi (p1 &&& (3 : Int32))]) s₁ (entryFrame m #[(.int p1), (.int p2), (.int p3), (.int p4), (.int p5)] maxLocals) := fun t k => pre353 t (by
                refine XS.iload X320.here hx rfl (hb hby at_231) rfl ?_
                refine XS.iconst X320.here hx rfl (hb hby at_233) ?_
                exact k)
              by_cases hc356 : (p1 &&& (3 : Int32)) = (2 : Int32)
              ·
                have pre357 : oL p e below T320 (mkF m 248 #[oI p1, oI p2, oI p3, oI p4, oI p5, oI (p1 &&& (3 : Int32)), oR bp, oI (p2 &&& (7 : Int32)), oI vi14, oI vi17, oI vi20, oR b23, oR b30, oR b48, oR b81, oR b299, oI 0, oI 1, oI vi345, oU, oU] [oi 1]) s₁ (entryFrame m #[(.int p1), (.int p2), (.int p3), (.int p4), (.int p5)] maxLocals) := fun t k => pre355 t (by
                  refine XS.icmpYes X320.here hx rfl (pc0 := 234) (pc' := 243) rfl (hb hby at_234) rfl (teq hc356).1 (by decide) (by decide) ?_
                  refine XS.iconst X320.here hx rfl (hb hby at_243) ?_
                  show oS p e below T320 (mkF m 244 #[oI p1, oI p2, oI p3, oI p4, oI p5, oI (p1 &&& (3 : Int32)), oR bp, oI (p2 &&& (7 : Int32)), oI vi14, oI vi17, oI vi20, oR b23, oR b30, oR b48, oR b81, oR b299, oI 0, oI 1, oI vi345, oU, oU] [oi 1]) _
                  refine XS.goto X320.here hx rfl (pc0 := 244) (pc' := 248) rfl (hb hby at_244) (by decide) (by decide) ?_
                  exact k)
                exact ⟨(1 : Int32), (by rw [hti]; simp [hc356]), pre357⟩
              ·
                have pre358 : oL p e below T320 (mkF m 240 #[oI p1, oI p2, oI p3, oI p4, oI p5, oI (p1 &&& (3 : Int32)), oR bp, oI (p2 &&& (7 : Int32)), oI vi14, oI vi17, oI vi20, oR b23, oR b30, oR b48, oR b81, oR b299, oI 0, oI 1, oI vi345, oU, oU] [oi 3, oi (p1 &&& (3 : Int32))]) s₁ (entryFrame m #[(.int p1), (.int p2), (.int p3), (.int p4), (.int p5)] maxLocals) := fun t k => pre355 t (by
                  refine XS.icmpNo X320.here hx rfl (hb hby at_234) rfl (feq hc356).1 ?_
                  refine XS.iload X320.here hx rfl (hb hby at_237) rfl ?_
                  show oS p e below T320 (mkF m 239 #[oI p1, oI p2, oI p3, oI p4, oI p5, oI (p1 &&& (3 : Int32)), oR bp, oI (p2 &&& (7 : Int32)), oI vi14, oI vi17, oI vi20, oR b23, oR b30, oR b48, oR b81, oR b299, oI 0, oI 1, oI vi345, oU, oU] [oi (p1 &&& (3 : Int32))]) _
                  refine XS.iconst X320.here hx rfl (hb hby at_239) ?_
                  exact k)
                by_cases hc359 : (p1 &&& (3 : Int32)) = (3 : Int32)
                ·
                  have pre360 : oL p e below T320 (mkF m 248 #[oI p1, oI p2, oI p3, oI p4, oI p5, oI (p1 &&& (3 : Int32)), oR bp, oI (p2 &&& (7 : Int32)), oI vi14, oI vi17, oI vi20, oR b23, oR b30, oR b48, oR b81, oR b299, oI 0, oI 1, oI vi345, oU, oU] [oi 1]) s₁ (entryFrame m #[(.int p1), (.int p2), (.int p3), (.int p4), (.int p5)] maxLocals) := fun t k => pre358 t (by
                    refine XS.icmpNo X320.here hx rfl (hb hby at_240) rfl (teq hc359).2 ?_
                    refine XS.iconst X320.here hx rfl (hb hby at_243) ?_
                    refine XS.goto X320.here hx rfl (pc0 := 244) (pc' := 248) rfl (hb hby at_244) (by decide) (by decide) ?_
                    show oS p e below T320 (mkF m 248 #[oI p1, oI p2, oI p3, oI p4, oI p5, oI (p1 &&& (3 : Int32)), oR bp, oI (p2 &&& (7 : Int32)), oI vi14, oI vi17, oI vi20, oR b23, oR b30, oR b48, oR b81, oR b299, oI 0, oI 1, oI vi345, oU, oU] [oi 1]) _
                    exact k)
                  exact ⟨(1 : Int32), (by rw [hti]; simp [hc356, hc359]), pre360⟩
                ·
                  have pre361 : oL p e below T320 (mkF m 248 #[oI p1, oI p2, oI p3, oI p4, oI p5, oI (p1 &&& (3 : Int32)), oR bp, oI (p2 &&& (7 : Int32)), oI vi14, oI vi17, oI vi20, oR b23, oR b30, oR b48, oR b81, oR b299, oI 0, oI 1, oI vi345, oU, oU] [oi 0]) s₁ (entryFrame m #[(.int p1), (.int p2), (.int p3), (.int p4), (.int p5)] maxLocals) := fun t k => pre358 t (by
                    refine XS.icmpYes X320.here hx rfl (pc0 := 240) (pc' := 247) rfl (hb hby at_240) rfl (feq hc359).2 (by decide) (by decide) ?_
                    refine XS.iconst X320.here hx rfl (hb hby at_247) ?_
                    exact k)
                  exact ⟨(0 : Int32), (by rw [hti]; simp [hc356, hc359]), pre361⟩
            have pre362 : oL p e below T320 (mkF m 283 #[oI p1, oI p2, oI p3, oI p4, oI p5, oI (p1 &&& (3 : Int32)), oR bp, oI (p2 &&& (7 : Int32)), oI vi14, oI vi17, oI vi20, oR b23, oR b30, oR b48, oR b81, oR b299, oI 0, oI 1, oI vi345, oI vi354, oI 0] [ow b299, ow bp]) s₁ (entryFrame m #[(.int p1), (.int p2), (.int p3), (.int p4), (.int p5)] maxLocals) := fun t k => pre354 t (by
              refine XS.istore X320.here hx rfl (hb hby at_248) rfl (l' := #[oI p1, oI p2, oI p3, oI p4, oI p5, oI (p1 &&& (3 : Int32)), oR bp, oI (p2 &&& (7 : Int32)), oI vi14, oI vi17, oI vi20, oR b23, oR b30, oR b48, oR b81, oR b299, oI 0, oI 1, oI vi345, oI vi354, oU]) rfl ?_
              refine XS.iload X320.here hx rfl (hb hby at_250) rfl ?_
              refine XS.ifYes X320.here hx rfl (pc0 := 252) (pc' := 262) rfl (hb hby at_252) rfl ((if0 _ _).trans (teq (by decide : (0 : Int32) = (0 : Int32))).1) (by decide) (by decide) ?_
              refine XS.iload X320.here hx rfl (hb hby at_262) rfl ?_
              show oS p e below T320 (mkF m 264 #[oI p1, oI p2, oI p3, oI p4, oI p5, oI (p1 &&& (3 : Int32)), oR bp, oI (p2 &&& (7 : Int32)), oI vi14, oI vi17, oI vi20, oR b23, oR b30, oR b48, oR b81, oR b299, oI 0, oI 1, oI vi345, oI vi354, oU] [oi 1]) _
              refine XS.ifYes X320.here hx rfl (pc0 := 264) (pc' := 276) rfl (hb hby at_264) rfl ((if0 _ _).trans (feq (by decide : ¬ ((1 : Int32) = (0 : Int32)))).2) (by decide) (by decide) ?_
              refine XS.iconst X320.here hx rfl (hb hby at_276) ?_
              refine XS.istore X320.here hx rfl (hb hby at_277) rfl (l' := #[oI p1, oI p2, oI p3, oI p4, oI p5, oI (p1 &&& (3 : Int32)), oR bp, oI (p2 &&& (7 : Int32)), oI vi14, oI vi17, oI vi20, oR b23, oR b30, oR b48, oR b81, oR b299, oI 0, oI 1, oI vi345, oI vi354, oI 0]) rfl ?_
              refine XS.aload X320.here hx rfl (hb hby at_279) rfl rfl ?_
              show oS p e below T320 (mkF m 281 #[oI p1, oI p2, oI p3, oI p4, oI p5, oI (p1 &&& (3 : Int32)), oR bp, oI (p2 &&& (7 : Int32)), oI vi14, oI vi17, oI vi20, oR b23, oR b30, oR b48, oR b81, oR b299, oI 0, oI 1, oI vi345, oI vi354, oI 0] [ow bp]) _
              refine XS.aload X320.here hx rfl (hb hby at_281) rfl rfl ?_
              exact k)
            obtain ⟨cq363, kq363, q363a, q363b, q363c⟩ := isOf hZ rfl (Ebp.ext OL339.2)
            obtain ⟨_, _, ⟨T363, L363, k363, n363⟩, -, X363, hS363, hgr363, ⟨Lc363, hQ363, l363, y363, z363, cr363⟩, st363⟩ := X320.virtualBackS hx (y := (⟨"com/example/grantwright/grantwright/Bypass", "takes", "(Ljava/lang/String;)Z"⟩ : MethodName)) (z := (⟨"com/example/grantwright/grantwright/Bypass", "takes", "(Ljava/lang/String;)Z"⟩ : MethodName)) hown (mvT hZ (oW hw 37 rfl)) (mvT hZ (oW hw 38 rfl)) (notFace_of_selects (args := #[]) (mvT hZ (oW hw 40 rfl))) (mvT hZ (oW hw 40 rfl)) (mvT hZ (oW hw 39 rfl)) (by decide) (backOfSH (W := 0) (rm_tkB1 l Z a0 hw [] bp ti b299 tt320 kb320 [(.int (nar .byte (vi14.toInt8.toInt32)))] G1 T320.heap n0 OL339 O2 P5 FI hi Eq320 Fv320 f342 f343) hZ (oW hw 41 rfl) (oW hw 5 rfl) (by decide) (by decide) hEL CH333) q363a q363c (g := (mkF m 283 #[oI p1, oI p2, oI p3, oI p4, oI p5, oI (p1 &&& (3 : Int32)), oR bp, oI (p2 &&& (7 : Int32)), oI vi14, oI vi17, oI vi20, oR b23, oR b30, oR b48, oR b81, oR b299, oI 0, oI 1, oI vi345, oI vi354, oI 0] [ow b299, ow bp])) rfl (by rw [hml]; rfl) (Steps.refl _) (argsL := [(.ref b299)]) (rest := []) (lenOf pd__Ljava_lang_String__Z rfl) rfl (by show 2 * 0 + _ ≤ _; exact Nat.le_of_eq rfl) (hb hby at_283) (fun _ _ => ⟨rfl, rfl, (by decide : 7 + 2 ≤ _), (by decide : 13 + 4 ≤ _)⟩)
            dsimp only [Pt.U, Pt.locs, Pt.cells, Pt.slots] at X363 l363 y363 z363 st363 hQ363 hS363 hgr363 cr363
            subst l363 y363 z363
            obtain ⟨X363, hS, hZ, hown⟩ := rebS hS (hk : _ ≤ T320.heap.size) X363 hS363 hgr363 hZ hown
            have hk : T363.heap.size ≤ T363.heap.size := Nat.le_refl _
            obtain ⟨rfl, N363q, Kq363⟩ := hQ363
            have N363 := Fr.app N320 N363q
            have sf364 := cr363.safe f334.lt sf327
            have sf365 := cr363.safe f335.lt sf328
            have sf366 := cr363.safe f336.lt sf329
            have sf367 := cr363.safe f337.lt sf330
            have sf368 := cr363.safe Eq320.lt sf331
            have sf369 := cr363.safe f343.lt sf332
            have CH370 := cr363.1
            have CR370 := CR333.trans cr363
            have f371 := f334.keep Kq363 nin0
            have f372 := f335.keep Kq363 nin0
            have f373 := f336.keep Kq363 nin0
            have f374 := f337.keep Kq363 nin0
            have f375 := Eq320.keep Kq363
            have f376 := f342.keep Kq363 nin0
            have f377 := Fv320.keep Kq363 nin0
            have f378 := f343.keep Kq363 nin0
            have OL379 := OL339.keep Kq363 all0
            have K380 : Keep h0 T363.heap [] := K340.trans Kq363 all0
            have pre381 : oL p e below T363 (mkF m 296 #[oI p1, oI p2, oI p3, oI p4, oI p5, oI (p1 &&& (3 : Int32)), oR bp, oI (p2 &&& (7 : Int32)), oI vi14, oI vi17, oI vi20, oR b23, oR b30, oR b48, oR b81, oR b299, oI 0, oI 1, oI vi345, oI vi354, oI 0] [oi 1]) s₁ (entryFrame m #[(.int p1), (.int p2), (.int p3), (.int p4), (.int p5)] maxLocals) := fun t k => pre362 t (by
              refine st363.trans ?_
              refine XS.iload X363.here hx rfl (hb hby at_286) rfl ?_
              refine XS.icmpNo X363.here hx rfl (hb hby at_288) rfl (teq (by decide : (0 : Int32) = (0 : Int32))).2 ?_
              show oS p e below T363 (mkF m 291 #[oI p1, oI p2, oI p3, oI p4, oI p5, oI (p1 &&& (3 : Int32)), oR bp, oI (p2 &&& (7 : Int32)), oI vi14, oI vi17, oI vi20, oR b23, oR b30, oR b48, oR b81, oR b299, oI 0, oI 1, oI vi345, oI vi354, oI 0] []) _
              refine XS.iconst X363.here hx rfl (hb hby at_291) ?_
              refine XS.goto X363.here hx rfl (pc0 := 292) (pc' := 296) rfl (hb hby at_292) (by decide) (by decide) ?_
              exact k)
            obtain ⟨fs, hr, hrun, hended, hEnd⟩ := X363.leaveW hS hk (v := some (.int (1 : Int32))) (fun h => by rw [Bd.returns] at h; cases h)
            refine ⟨_, _, pre381 _ ?_, hrun, hended, _, _, rfl, ?_, (by show CHr Z consts_1 s.vm s.heap T363.vm T363.heap; rw [hh]; exact CR370.trans (CHv.at X363 hZ hEL CH370)), hEnd.1, hEnd.2.1, hEnd.2.2.1, hEnd.2.2.2.mono (by decide) (by decide)⟩
            ·
              show oS p e below T363 (mkF m 296 #[oI p1, oI p2, oI p3, oI p4, oI p5, oI (p1 &&& (3 : Int32)), oR bp, oI (p2 &&& (7 : Int32)), oI vi14, oI vi17, oI vi20, oR b23, oR b30, oR b48, oR b81, oR b299, oI 0, oI 1, oI vi345, oI vi354, oI 0] [oi 1]) _
              exact retN X363 hx (t := .boolean) Bd.returns (by simp) (hb hby at_296) hr
            ·
              show Q_rm0 Z p1 p2 p3 p4 p5 G1 w_NONE w_WHEN_NULL w_WHEN_INITIAL w_WHEN_INITIAL_OR_NULL h0 n0 _ T363.heap _
              exact ⟨rfl, N363⟩
          ·
            have f382 := Fc320
            rw [hcd] at f382
            have pre383 : oL p e below T320 (mkF m 212 #[oI p1, oI p2, oI p3, oI p4, oI p5, oI (p1 &&& (3 : Int32)), oR bp, oI (p2 &&& (7 : Int32)), oI vi14, oI vi17, oI vi20, oR b23, oR b30, oR b48, oR b81, oR b299, oI 0, oI 1, oU, oU, oU] []) s₁ (entryFrame m #[(.int p1), (.int p2), (.int p3), (.int p4), (.int p5)] maxLocals) := fun t k => pre341 t (by
              refine XS.astore X320.here hx rfl (hb hby at_158) rfl rfl (l' := #[oI p1, oI p2, oI p3, oI p4, oI p5, oI (p1 &&& (3 : Int32)), oR bp, oI (p2 &&& (7 : Int32)), oI vi14, oI vi17, oI vi20, oR b23, oR b30, oR b48, oR b81, oR b299, oU, oU, oU, oU, oU]) rfl ?_
              refine XS.iconst X320.here hx rfl (hb hby at_160) ?_
              refine XS.istore X320.here hx rfl (hb hby at_161) rfl (l' := #[oI p1, oI p2, oI p3, oI p4, oI p5, oI (p1 &&& (3 : Int32)), oR bp, oI (p2 &&& (7 : Int32)), oI vi14, oI vi17, oI vi20, oR b23, oR b30, oR b48, oR b81, oR b299, oI 0, oU, oU, oU, oU]) rfl ?_
              show oS p e below T320 (mkF m 163 #[oI p1, oI p2, oI p3, oI p4, oI p5, oI (p1 &&& (3 : Int32)), oR bp, oI (p2 &&& (7 : Int32)), oI vi14, oI vi17, oI vi20, oR b23, oR b30, oR b48, oR b81, oR b299, oI 0, oU, oU, oU, oU] []) _
              refine XS.iconst X320.here hx rfl (hb hby at_163) ?_
              refine XS.istore X320.here hx rfl (hb hby at_164) rfl (l' := #[oI p1, oI p2, oI p3, oI p4, oI p5, oI (p1 &&& (3 : Int32)), oR bp, oI (p2 &&& (7 : Int32)), oI vi14, oI vi17, oI vi20, oR b23, oR b30, oR b48, oR b81, oR b299, oI 0, oI 1, oU, oU, oU]) rfl ?_
              refine XS.goto X320.here hx rfl (pc0 := 166) (pc' := 212) rfl (hb hby at_166) (by decide) (by decide) ?_
              exact k)
            obtain ⟨vi384, hj384, pre384⟩ : ∃ vi384 : Int32, (vi384 = tn) ∧ oL p e below T320 (mkF m 229 #[oI p1, oI p2, oI p3, oI p4, oI p5, oI (p1 &&& (3 : Int32)), oR bp, oI (p2 &&& (7 : Int32)), oI vi14, oI vi17, oI vi20, oR b23, oR b30, oR b48, oR b81, oR b299, oI 0, oI 1, oU, oU, oU] [oi vi384]) s₁ (entryFrame m #[(.int p1), (.int p2), (.int p3), (.int p4), (.int p5)] maxLocals) := by
              have pre385 : oL p e below T320 (mkF m 215 #[oI p1, oI p2, oI p3, oI p4, oI p5, oI (p1 &&& (3 : Int32)), oR bp, oI (p2 &&& (7 : Int32)), oI vi14, oI vi17, oI vi20, oR b23, oR b30, oR b48, oR b81, oR b299, oI 0, oI 1, oU, oU, oU] [oi 1, oi (p1 &&& (3 : Int32))]) s₁ (entryFrame m #[(.int p1), (.int p2), (.int p3), (.int p4), (.int p5)] maxLocals) := fun t k => pre383 t (by
                refine XS.iload X320.here hx rfl (hb hby at_212) rfl ?_
                show oS p e below T320 (mkF m 214 #[oI p1, oI p2, oI p3, oI p4, oI p5, oI (p1 &&& (3 : Int32)), oR bp, oI (p2 &&& (7 : Int32)), oI vi14, oI vi17, oI vi20, oR b23, oR b30, oR b48, oR b81, oR b299, oI 0, oI 1, oU, oU, oU] [oi (p1 &&& (3 : Int32))]) _
                refine XS.iconst X320.here hx rfl (hb hby at_214) ?_
                exact k)
              by_cases hc386 : (p1 &&& (3 : Int32)) = (1 : Int32)
              ·
                have pre387 : oL p e below T320 (mkF m 229 #[oI p1, oI p2, oI p3, oI p4, oI p5, oI (p1 &&& (3 : Int32)), oR bp, oI (p2 &&& (7 : Int32)), oI vi14, oI vi17, oI vi20, oR b23, oR b30, oR b48, oR b81, oR b299, oI 0, oI 1, oU, oU, oU] [oi 1]) s₁ (entryFrame m #[(.int p1), (.int p2), (.int p3), (.int p4), (.int p5)] maxLocals) := fun t k => pre385 t (by
                  refine XS.icmpYes X320.here hx rfl (pc0 := 215) (pc' := 224) rfl (hb hby at_215) rfl (teq hc386).1 (by decide) (by decide) ?_
                  refine XS.iconst X320.here hx rfl (hb hby at_224) ?_
                  refine XS.goto X320.here hx rfl (pc0 := 225) (pc' := 229) rfl (hb hby at_225) (by decide) (by decide) ?_
                  show oS p e below T320 (mkF m 229 #[oI p1, oI p2, oI p3, oI p4, oI p5, oI (p1 &&& (3 : Int32)), oR bp, oI (p2 &&& (7 : Int32)), oI vi14, oI vi17, oI vi20, oR b23, oR b30, oR b48, oR b81, oR b299, oI 0, oI 1, oU, oU, oU] [oi 1]) _
                  exact k)
                exact ⟨(1 : Int32), (by rw [htn]; simp [hc386]), pre387⟩
              ·
                have pre388 : oL p e below T320 (mkF m 221 #[oI p1, oI p2, oI p3, oI p4, oI p5, oI (p1 &&& (3 : Int32)), oR bp, oI (p2 &&& (7 : Int32)), oI vi14, oI vi17, oI vi20, oR b23, oR b30, oR b48, oR b81, oR b299, oI 0, oI 1, oU, oU, oU] [oi 3, oi (p1 &&& (3 : Int32))]) s₁ (entryFrame m #[(.int p1), (.int p2), (.int p3), (.int p4), (.int p5)] maxLocals) := fun t k => pre385 t (by
                  refine XS.icmpNo X320.here hx rfl (hb hby at_215) rfl (feq hc386).1 ?_
                  refine XS.iload X320.here hx rfl (hb hby at_218) rfl ?_
                  refine XS.iconst X320.here hx rfl (hb hby at_220) ?_
                  show oS p e below T320 (mkF m 221 #[oI p1, oI p2, oI p3, oI p4, oI p5, oI (p1 &&& (3 : Int32)), oR bp, oI (p2 &&& (7 : Int32)), oI vi14, oI vi17, oI vi20, oR b23, oR b30, oR b48, oR b81, oR b299, oI 0, oI 1, oU, oU, oU] [oi 3, oi (p1 &&& (3 : Int32))]) _
                  exact k)
                by_cases hc389 : (p1 &&& (3 : Int32)) = (3 : Int32)
                ·
                  have pre390 : oL p e below T320 (mkF m 229 #[oI p1, oI p2, oI p3, oI p4, oI p5, oI (p1 &&& (3 : Int32)), oR bp, oI (p2 &&& (7 : Int32)), oI vi14, oI vi17, oI vi20, oR b23, oR b30, oR b48, oR b81, oR b299, oI 0, oI 1, oU, oU, oU] [oi 1]) s₁ (entryFrame m #[(.int p1), (.int p2), (.int p3), (.int p4), (.int p5)] maxLocals) := fun t k => pre388 t (by
                    refine XS.icmpNo X320.here hx rfl (hb hby at_221) rfl (teq hc389).2 ?_
                    refine XS.iconst X320.here hx rfl (hb hby at_224) ?_
                    refine XS.goto X320.here hx rfl (pc0 := 225) (pc' := 229) rfl (hb hby at_225) (by decide) (by decide) ?_
                    exact k)
                  exact ⟨(1 : Int32), (by rw [htn]; simp [hc386, hc389]), pre390⟩
                ·
                  have pre391 : oL p e below T320 (mkF m 229 #[oI p1, oI p2, oI p3, oI p4, oI p5, oI (p1 &&& (3 : Int32)), oR bp, oI (p2 &&& (7 : Int32)), oI vi14, oI vi17, oI vi20, oR b23, oR b30, oR b48, oR b81, oR b299, oI 0, oI 1, oU, oU, oU] [oi 0]) s₁ (entryFrame m #[(.int p1), (.int p2), (.int p3), (.int p4), (.int p5)] maxLocals) := fun t k => pre388 t (by
                    refine XS.icmpYes X320.here hx rfl (pc0 := 221) (pc' := 228) rfl (hb hby at_221) rfl (feq hc389).2 (by decide) (by decide) ?_
                    refine XS.iconst X320.here hx rfl (hb hby at_228) ?_
                    exact k)
                  exact ⟨(0 : Int32), (by rw [htn]; simp [hc386, hc389]), pre391⟩
            have pre392 : oL p e below T320 (mkF m 231 #[oI p1, oI p2, oI p3, oI p4, oI p5, oI (p1 &&& (3 : Int32)), oR bp, oI (p2 &&& (7 : Int32)), oI vi14, oI vi17, oI vi20, oR b23, oR b30, oR b48, oR b81, oR b299, oI 0, oI 1, oI vi384, oU, oU] []) s₁ (entryFrame m #[(.int p1), (.int p2), (.int p3), (.int p4), (.int p5)] maxLocals) := fun t k => pre384 t (by
              refine XS.istore X320.here hx rfl (hb hby at_229) rfl (l' := #[oI p1, oI p2, oI p3, oI p4, oI p5, oI (p1 &&& (3 : Int32)), oR bp, oI (p2 &&& (7 : Int32)), oI vi14, oI vi17, oI vi20, oR b23, oR b30, oR b48, oR b81, oR b299, oI 0, oI 1, oI vi384, oU, oU]) rfl ?_
              show oS p e below T320 (mkF m 231 #[oI p1, oI p2, oI p3, oI p4, oI p5, oI (p1 &&& (3 : Int32)), oR bp, oI (p2 &&& (7 : Int32)), oI vi14, oI vi17, oI vi20, oR b23, oR b30, oR b48, oR b81, oR b299, oI 0, oI 1, oI vi384, oU, oU] []) _
              exact k)
            obtain ⟨vi393, hj393, pre393⟩ : ∃ vi393 : Int32, (vi393 = ti) ∧ oL p e below T320 (mkF m 248 #[oI p1, oI p2, oI p3, oI p4, oI p5, oI (p1 &&& (3 : Int32)), oR bp, oI (p2 &&& (7 : Int32)), oI vi14, oI vi17, oI vi20, oR b23, oR b30, oR b48, oR b81, oR b299, oI 0, oI 1, oI vi384, oU, oU] [oi vi393]) s₁ (entryFrame m #[(.int p1), (.int p2), (.int p3), (.int p4), (.int p5)] maxLocals) := by
              have pre394 : oL p e below T320 (mkF m 234 #[oI p1, oI p2, oI p3, oI p4, oI p5, oI (p1 &&& (3 : Int32)), oR bp, oI (p2 &&& (7 : Int32)), oI vi14, oI vi17, oI vi20, oR b23, oR b30, oR b48, oR b81, oR b299, oI 0, oI 1, oI vi384, oU, oU] [oi 2, oi (p1 &&& (3 : Int32))]) s₁ (entryFrame m #[(.int p1), (.int p2), (.int p3), (.int p4), (.int p5)] maxLocals) := fun t k => pre392 t (by
                refine XS.iload X320.here hx rfl (hb hby at_231) rfl ?_
                refine XS.iconst X320.here hx rfl (hb hby at_233) ?_
                exact k)
              by_cases hc395 : (p1 &&& (3 : Int32)) = (2 : Int32)
              ·
                have pre396 : oL p e below T320 (mkF m 248 #[oI p1, oI p2, oI p3, oI p4, oI p5, oI (p1 &&& (3 : Int32)), oR bp, oI (p2 &&& (7 : Int32)), oI vi14, oI vi17, oI vi20, oR b23, oR b30, oR b48, oR b81, oR b299, oI 0, oI 1, oI vi384, oU, oU] [oi 1]) s₁ (entryFrame m #[(.int p1), (.int p2), (.int p3), (.int p4), (.int p5)] maxLocals) := fun t k => pre394 t (by
                  refine XS.icmpYes X320.here hx rfl (pc0 := 234) (pc' := 243) rfl (hb hby at_234) rfl (teq hc395).1 (by decide) (by decide) ?_
                  refine XS.iconst X320.here hx rfl (hb hby at_243) ?_
                  show oS p e below T320 (mkF m 244 #[oI p1, oI p2, oI p3, oI p4, oI p5, oI (p1 &&& (3 : Int32)), oR bp, oI (p2 &&& (7 : Int32)), oI vi14, oI vi17, oI vi20, oR b23, oR b30, oR b48, oR b81, oR b299, oI 0, oI 1, oI vi384, oU, oU] [oi 1]) _
                  refine XS.goto X320.here hx rfl (pc0 := 244) (pc' := 248) rfl (hb hby at_244) (by decide) (by decide) ?_
                  exact k)
                exact ⟨(1 : Int32), (by rw [hti]; simp [hc395]), pre396⟩
              ·
                have pre397 : oL p e below T320 (mkF m 240 #[oI p1, oI p2, oI p3, oI p4, oI p5, oI (p1 &&& (3 : Int32)), oR bp, oI (p2 &&& (7 : Int32)), oI vi14, oI vi17, oI vi20, oR b23, oR b30, oR b48, oR b81, oR b299, oI 0, oI 1, oI vi384, oU, oU] [oi 3, oi (p1 &&& (3 : Int32))]) s₁ (entryFrame m #[(.int p1), (.int p2), (.int p3), (.int p4), (.int p5)] maxLocals) := fun t k => pre394 t (by
                  refine XS.icmpNo X320.here hx rfl (hb hby at_234) rfl (feq hc395).1 ?_
                  refine XS.iload X320.here hx rfl (hb hby at_237) rfl ?_
                  show oS p e below T320 (mkF m 239 #[oI p1, oI p2, oI p3, oI p4, oI p5, oI (p1 &&& (3 : Int32)), oR bp, oI (p2 &&& (7 : Int32)), oI vi14, oI vi17, oI vi20, oR b23, oR b30, oR b48, oR b81, oR b299, oI 0, oI 1, oI vi384, oU, oU] [oi (p1 &&& (3 : Int32))]) _
                  refine XS.iconst X320.here hx rfl (hb hby at_239) ?_
                  exact k)
                by_cases hc398 : (p1 &&& (3 : Int32)) = (3 : Int32)
                ·
                  have pre399 : oL p e below T320 (mkF m 248 #[oI p1, oI p2, oI p3, oI p4, oI p5, oI (p1 &&& (3 : Int32)), oR bp, oI (p2 &&& (7 : Int32)), oI vi14, oI vi17, oI vi20, oR b23, oR b30, oR b48, oR b81, oR b299, oI 0, oI 1, oI vi384, oU, oU] [oi 1]) s₁ (entryFrame m #[(.int p1), (.int p2), (.int p3), (.int p4), (.int p5)] maxLocals) := fun t k => pre397 t (by
                    refine XS.icmpNo X320.here hx rfl (hb hby at_240) rfl (teq hc398).2 ?_
                    refine XS.iconst X320.here hx rfl (hb hby at_243) ?_
                    refine XS.goto X320.here hx rfl (pc0 := 244) (pc' := 248) rfl (hb hby at_244) (by decide) (by decide) ?_
                    show oS p e below T320 (mkF m 248 #[oI p1, oI p2, oI p3, oI p4, oI p5, oI (p1 &&& (3 : Int32)), oR bp, oI (p2 &&& (7 : Int32)), oI vi14, oI vi17, oI vi20, oR b23, oR b30, oR b48, oR b81, oR b299, oI 0, oI 1, oI vi384, oU, oU] [oi 1]) _
                    exact k)
                  exact ⟨(1 : Int32), (by rw [hti]; simp [hc395, hc398]), pre399⟩
                ·
                  have pre400 : oL p e below T320 (mkF m 248 #[oI p1, oI p2, oI p3, oI p4, oI p5, oI (p1 &&& (3 : Int32)), oR bp, oI (p2 &&& (7 : Int32)), oI vi14, oI vi17, oI vi20, oR b23, oR b30, oR b48, oR b81, oR b299, oI 0, oI 1, oI vi384, oU, oU] [oi 0]) s₁ (entryFrame m #[(.int p1), (.int p2), (.int p3), (.int p4), (.int p5)] maxLocals) := fun t k => pre397 t (by
                    refine XS.icmpYes X320.here hx rfl (pc0 := 240) (pc' := 247) rfl (hb hby at_240) rfl (feq hc398).2 (by decide) (by decide) ?_
                    refine XS.iconst X320.here hx rfl (hb hby at_247) ?_
                    exact k)
                  exact ⟨(0 : Int32), (by rw [hti]; simp [hc395, hc398]), pre400⟩
            have pre401 : oL p e below T320 (mkF m 283 #[oI p1, oI p2, oI p3, oI p4, oI p5, oI (p1 &&& (3 : Int32)), oR bp, oI (p2 &&& (7 : Int32)), oI vi14, oI vi17, oI vi20, oR b23, oR b30, oR b48, oR b81, oR b299, oI 0, oI 1, oI vi384, oI vi393, oI 0] [ow b299, ow bp]) s₁ (entryFrame m #[(.int p1), (.int p2), (.int p3), (.int p4), (.int p5)] maxLocals) := fun t k => pre393 t (by
              refine XS.istore X320.here hx rfl (hb hby at_248) rfl (l' := #[oI p1, oI p2, oI p3, oI p4, oI p5, oI (p1 &&& (3 : Int32)), oR bp, oI (p2 &&& (7 : Int32)), oI vi14, oI vi17, oI vi20, oR b23, oR b30, oR b48, oR b81, oR b299, oI 0, oI 1, oI vi384, oI vi393, oU]) rfl ?_
              refine XS.iload X320.here hx rfl (hb hby at_250) rfl ?_
              refine XS.ifYes X320.here hx rfl (pc0 := 252) (pc' := 262) rfl (hb hby at_252) rfl ((if0 _ _).trans (teq (by decide : (0 : Int32) = (0 : Int32))).1) (by decide) (by decide) ?_
              refine XS.iload X320.here hx rfl (hb hby at_262) rfl ?_
              show oS p e below T320 (mkF m 264 #[oI p1, oI p2, oI p3, oI p4, oI p5, oI (p1 &&& (3 : Int32)), oR bp, oI (p2 &&& (7 : Int32)), oI vi14, oI vi17, oI vi20, oR b23, oR b30, oR b48, oR b81, oR b299, oI 0, oI 1, oI vi384, oI vi393, oU] [oi 1]) _
              refine XS.ifYes X320.here hx rfl (pc0 := 264) (pc' := 276) rfl (hb hby at_264) rfl ((if0 _ _).trans (feq (by decide : ¬ ((1 : Int32) = (0 : Int32)))).2) (by decide) (by decide) ?_
              refine XS.iconst X320.here hx rfl (hb hby at_276) ?_
              refine XS.istore X320.here hx rfl (hb hby at_277) rfl (l' := #[oI p1, oI p2, oI p3, oI p4, oI p5, oI (p1 &&& (3 : Int32)), oR bp, oI (p2 &&& (7 : Int32)), oI vi14, oI vi17, oI vi20, oR b23, oR b30, oR b48, oR b81, oR b299, oI 0, oI 1, oI vi384, oI vi393, oI 0]) rfl ?_
              refine XS.aload X320.here hx rfl (hb hby at_279) rfl rfl ?_
              show oS p e below T320 (mkF m 281 #[oI p1, oI p2, oI p3, oI p4, oI p5, oI (p1 &&& (3 : Int32)), oR bp, oI (p2 &&& (7 : Int32)), oI vi14, oI vi17, oI vi20, oR b23, oR b30, oR b48, oR b81, oR b299, oI 0, oI 1, oI vi384, oI vi393, oI 0] [ow bp]) _
              refine XS.aload X320.here hx rfl (hb hby at_281) rfl rfl ?_
              exact k)
            obtain ⟨cq402, kq402, q402a, q402b, q402c⟩ := isOf hZ rfl (Ebp.ext OL339.2)
            obtain ⟨_, _, ⟨T402, L402, k402, n402⟩, -, X402, hS402, hgr402, ⟨Lc402, hQ402, l402, y402, z402, cr402⟩, st402⟩ := X320.virtualBackS hx (y := (⟨"com/example/grantwright/grantwright/Bypass", "takes", "(Ljava/lang/String;)Z"⟩ : MethodName)) (z := (⟨"com/example/grantwright/grantwright/Bypass", "takes", "(Ljava/lang/String;)Z"⟩ : MethodName)) hown (mvT hZ (oW hw 37 rfl)) (mvT hZ (oW hw 38 rfl)) (notFace_of_selects (args := #[]) (mvT hZ (oW hw 40 rfl))) (mvT hZ (oW hw 40 rfl)) (mvT hZ (oW hw 39 rfl)) (by decide) (backOfSH (W := 0) (rm_tkC l Z a0 hw [] bp ti b299 tt320 kb320 Nx320 vs320 G1 T320.heap n0 OL339 O2 P5 FI hi Eq320 Fv320 f382 Va320) hZ (oW hw 41 rfl) (oW hw 5 rfl) (by decide) (by decide) hEL CH333) q402a q402c (g := (mkF m 283 #[oI p1, oI p2, oI p3, oI p4, oI p5, oI (p1 &&& (3 : Int32)), oR bp, oI (p2 &&& (7 : Int32)), oI vi14, oI vi17, oI vi20, oR b23, oR b30, oR b48, oR b81, oR b299, oI 0, oI 1, oI vi384, oI vi393, oI 0] [ow b299, ow bp])) rfl (by rw [hml]; rfl) (Steps.refl _) (argsL := [(.ref b299)]) (rest := []) (lenOf pd__Ljava_lang_String__Z rfl) rfl (by show 2 * 0 + _ ≤ _; exact Nat.le_of_eq rfl) (hb hby at_283) (fun _ _ => ⟨rfl, rfl, (by decide : 7 + 2 ≤ _), (by decide : 13 + 4 ≤ _)⟩)
            dsimp only [Pt.U, Pt.locs, Pt.cells, Pt.slots] at X402 l402 y402 z402 st402 hQ402 hS402 hgr402 cr402
            subst l402 y402 z402
            obtain ⟨X402, hS, hZ, hown⟩ := rebS hS (hk : _ ≤ T320.heap.size) X402 hS402 hgr402 hZ hown
            have hk : T402.heap.size ≤ T402.heap.size := Nat.le_refl _
            obtain ⟨rfl, N402q, Kq402⟩ := hQ402
            have N402 := Fr.app N320 N402q
            have sf403 := cr402.safe f334.lt sf327
            have sf404 := cr402.safe f335.lt sf328
            have sf405 := cr402.safe f336.lt sf329
            have sf406 := cr402.safe f337.lt sf330
            have sf407 := cr402.safe Eq320.lt sf331
            have sf408 := cr402.safe Va320.lt sf332
            have CH409 := cr402.1
            have CR409 := CR333.trans cr402
            have f410 := f334.keep Kq402 nin0
            have f411 := f335.keep Kq402 nin0
            have f412 := f336.keep Kq402 nin0
            have f413 := f337.keep Kq402 nin0
            have f414 := Eq320.keep Kq402
            have f415 := f382.keep Kq402 nin0
            have f416 := Fv320.keep Kq402 nin0
            have f417 := Va320.keep Kq402 nin0
            have OL418 := OL339.keep Kq402 all0
            have K419 : Keep h0 T402.heap [] := K340.trans Kq402 all0
            have pre420 : oL p e below T402 (mkF m 296 #[oI p1, oI p2, oI p3, oI p4, oI p5, oI (p1 &&& (3 : Int32)), oR bp, oI (p2 &&& (7 : Int32)), oI vi14, oI vi17, oI vi20, oR b23, oR b30, oR b48, oR b81, oR b299, oI 0, oI 1, oI vi384, oI vi393, oI 0] [oi 1]) s₁ (entryFrame m #[(.int p1), (.int p2), (.int p3), (.int p4), (.int p5)] maxLocals) := fun t k => pre401 t (by
              refine st402.trans ?_
              refine XS.iload X402.here hx rfl (hb hby at_286) rfl ?_
              refine XS.icmpNo X402.here hx rfl (hb hby at_288) rfl (teq (by decide : (0 : Int32) = (0 : Int32))).2 ?_
              show oS p e below T402 (mkF m 291 #[oI p1, oI p2, oI p3, oI p4, oI p5, oI (p1 &&& (3 : Int32)), oR bp, oI (p2 &&& (7 : Int32)), oI vi14, oI vi17, oI vi20, oR b23, oR b30, oR b48, oR b81, oR b299, oI 0, oI 1, oI vi384, oI vi393, oI 0] []) _
              refine XS.iconst X402.here hx rfl (hb hby at_291) ?_
              refine XS.goto X402.here hx rfl (pc0 := 292) (pc' := 296) rfl (hb hby at_292) (by decide) (by decide) ?_
              exact k)
            obtain ⟨fs, hr, hrun, hended, hEnd⟩ := X402.leaveW hS hk (v := some (.int (1 : Int32))) (fun h => by rw [Bd.returns] at h; cases h)
            refine ⟨_, _, pre420 _ ?_, hrun, hended, _, _, rfl, ?_, (by show CHr Z consts_1 s.vm s.heap T402.vm T402.heap; rw [hh]; exact CR409.trans (CHv.at X402 hZ hEL CH409)), hEnd.1, hEnd.2.1, hEnd.2.2.1, hEnd.2.2.2.mono (by decide) (by decide)⟩
            ·
              show oS p e below T402 (mkF m 296 #[oI p1, oI p2, oI p3, oI p4, oI p5, oI (p1 &&& (3 : Int32)), oR bp, oI (p2 &&& (7 : Int32)), oI vi14, oI vi17, oI vi20, oR b23, oR b30, oR b48, oR b81, oR b299, oI 0, oI 1, oI vi384, oI vi393, oI 0] [oi 1]) _
              exact retN X402 hx (t := .boolean) Bd.returns (by simp) (hb hby at_296) hr
            ·
              show Q_rm0 Z p1 p2 p3 p4 p5 G1 w_NONE w_WHEN_NULL w_WHEN_INITIAL w_WHEN_INITIAL_OR_NULL h0 n0 _ T402.heap _
              exact ⟨rfl, N402⟩
        ·
          have pre421 : oL p e below T121 (mkF m 172 #[oI p1, oI p2, oI p3, oI p4, oI p5, oI (p1 &&& (3 : Int32)), oR bp, oI (p2 &&& (7 : Int32)), oI vi14, oI vi17, oI vi20, oR b23, oR b30, oR b48, oR b81, oU, oU, oU, oU, oU, oU] [oi 4, oi (p2 &&& (7 : Int32))]) s₁ (entryFrame m #[(.int p1), (.int p2), (.int p3), (.int p4), (.int p5)] maxLocals) := fun t k => pre296 t (by
            refine XS.icmpYes X121.here hx rfl (pc0 := 146) (pc' := 169) rfl (hb hby at_146) rfl (feq hc297).2 (by decide) (by decide) ?_
            refine XS.iload X121.here hx rfl (hb hby at_169) rfl ?_
            refine XS.iconst X121.here hx rfl (hb hby at_171) ?_
            exact k)
          by_cases hc422 : (p2 &&& (7 : Int32)) = (4 : Int32)
          ·
            have pre423 : oL p e below T121 (mkF m 175 #[oI p1, oI p2, oI p3, oI p4, oI p5, oI (p1 &&& (3 : Int32)), oR bp, oI (p2 &&& (7 : Int32)), oI vi14, oI vi17, oI vi20, oR b23, oR b30, oR b48, oR b81, oU, oU, oU, oU, oU, oU] []) s₁ (entryFrame m #[(.int p1), (.int p2), (.int p3), (.int p4), (.int p5)] maxLocals) := fun t k => pre421 t (by
              refine XS.icmpNo X121.here hx rfl (hb hby at_172) rfl (teq hc422).2 ?_
              show oS p e below T121 (mkF m 175 #[oI p1, oI p2, oI p3, oI p4, oI p5, oI (p1 &&& (3 : Int32)), oR bp, oI (p2 &&& (7 : Int32)), oI vi14, oI vi17, oI vi20, oR b23, oR b30, oR b48, oR b81, oU, oU, oU, oU, oU, oU] []) _
              exact k)
            obtain ⟨T424, h424, X424, e424, E424, A424, D424, -, st424⟩ := newO X121 hx hZ hown (oW hw 8 rfl) (oW hw 9 rfl) (oW hw 10 rfl) e121 (g := (mkF m 175 #[oI p1, oI p2, oI p3, oI p4, oI p5, oI (p1 &&& (3 : Int32)), oR bp, oI (p2 &&& (7 : Int32)), oI vi14, oI vi17, oI vi20, oR b23, oR b30, oR b48, oR b81, oU, oU, oU, oU, oU, oU] [])) rfl (hb hby at_175) (by decide) (by decide)
            obtain ⟨b424, g424⟩ : ∃ z, z = h121.size := ⟨_, rfl⟩
            rw [← g424] at A424 D424 st424
            have sf425 : Safe Z consts_1 s.vm h121 b424 := Safe.new (Nat.le_of_eq g424.symm)
            have ne426 : b23 ≠ b424 := Nat.ne_of_lt (Nat.lt_of_lt_of_le f127.lt (Nat.le_of_eq g424.symm))
            have ne427 : b30 ≠ b424 := Nat.ne_of_lt (Nat.lt_of_lt_of_le f128.lt (Nat.le_of_eq g424.symm))
            have ne428 : b48 ≠ b424 := Nat.ne_of_lt (Nat.lt_of_lt_of_le f129.lt (Nat.le_of_eq g424.symm))
            have ne429 : b81 ≠ b424 := Nat.ne_of_lt (Nat.lt_of_lt_of_le V121.lt (Nat.le_of_eq g424.symm))
            have ge_b424 : n0 ≤ b424 := Nat.le_trans (OL130.1 ▸ OL130.2.1) (Nat.le_of_eq g424.symm)
            have sz_b424 : h0.size ≤ b424 := Nat.le_trans K131.1 (Nat.le_of_eq g424.symm)
            have sf430 := Safe.ext E424 CH126 sf122
            have sf431 := Safe.ext E424 CH126 sf123
            have sf432 := Safe.ext E424 CH126 sf124
            have sf433 := Safe.ext E424 CH126 sf125
            have sf434 := Safe.ext E424 CH126 sf425
            have cr435 := CHr.ext E424 CH126
            have CH435 := cr435.1
            have CR435 := CR126.trans cr435
            have f436 := f127.ext E424
            have f437 := f128.ext E424
            have f438 := f129.ext E424
            have f439 := V121.ext E424
            have OL440 := OL130.ext E424
            have K441 : Keep h0 h424 [] := K131.ext E424
            have hk := Nat.le_trans hk E424.1
            have f442 : Fld Z h424 b424 "java/lang/String" "coder" "B" (.int (0 : Int32)) := D424 (Or.inr (oW hw 34 rfl)) (ty := .byte) (by decide)
            have f443 : Fld Z h424 b424 "java/lang/String" "value" "[B" .null := D424 (Or.inr (oW hw 36 rfl)) (ty := (.array .byte)) (by decide)
            have pre444 : oL p e below T424 (mkF m 181 #[oI p1, oI p2, oI p3, oI p4, oI p5, oI (p1 &&& (3 : Int32)), oR bp, oI (p2 &&& (7 : Int32)), oI vi14, oI vi17, oI vi20, oR b23, oR b30, oR b48, oR b81, oU, oU, oU, oU, oU, oU] [ow b48, ow b424, ow b424]) s₁ (entryFrame m #[(.int p1), (.int p2), (.int p3), (.int p4), (.int p5)] maxLocals) := fun t k => pre423 t (by
              refine st424 _ ?_
              refine XS.dup X424.here hx rfl (hb hby at_178) rfl rfl ?_
              refine XS.aload X424.here hx rfl (hb hby at_179) rfl rfl ?_
              exact k)
            obtain ⟨_, _, ⟨T445, L445, k445, n445⟩, -, X445, ⟨Lc445, hQ445, l445, y445, z445⟩, st445⟩ := X424.specialBack hx (y := (⟨"java/lang/String", "<init>", "([C)V"⟩ : MethodName)) rfl hown (mvT hZ (oW hw 11 rfl)) (mvT hZ (oW hw 12 rfl)) (mvT hZ (oW hw 13 rfl)) (by decide) (backOf (W := 1) (rm_S2 l Z a0 hw [] b424 b48 k48 G1 vi14 vi17 h424 n0 OL440 AD HB LB O2 P5 ge_b424 A424 f443 f442 f438 hj14 hj17) hZ (oW hw 13 rfl) (oW hw 10 rfl) (by decide) (by decide)) (g := (mkF m 181 #[oI p1, oI p2, oI p3, oI p4, oI p5, oI (p1 &&& (3 : Int32)), oR bp, oI (p2 &&& (7 : Int32)), oI vi14, oI vi17, oI vi20, oR b23, oR b30, oR b48, oR b81, oU, oU, oU, oU, oU, oU] [ow b48, ow b424, ow b424])) rfl (by rw [hml]; rfl) (Steps.refl _) (a := b424) (argsL := [(.ref b48)]) (rest := [(.ref b424)]) (lenOf pd___C_V rfl) rfl (by show 2 * 0 + _ ≤ _; exact Nat.le_of_eq rfl) (hb hby at_181) (fun _ _ => ⟨rfl, e424, (by decide : 5 + 2 ≤ _), (by decide : 10 + 6 ≤ _)⟩)
            dsimp only [Pt.U, Pt.locs, Pt.cells, Pt.slots] at X445 l445 y445 z445 st445 hQ445
            subst l445 y445 z445
            obtain ⟨rfl, N445q, Kq445, Eq445, cd445, tt445, kb445, Nx445, vs445, Fc445, sq445, nx445, Fv445, Va445, ou445⟩ := hQ445
            have N445 := Fr.app N121 N445q
            have sf446 : Safe Z consts_1 s.vm h424 tt445 := Safe.new sq445
            have ne447 : b23 ≠ tt445 := Nat.ne_of_lt (Nat.lt_of_lt_of_le f436.lt sq445)
            have ne448 : b30 ≠ tt445 := Nat.ne_of_lt (Nat.lt_of_lt_of_le f437.lt sq445)
            have ne449 : b424 ≠ tt445 := Nat.ne_of_lt (Nat.lt_of_lt_of_le A424.lt sq445)
            have ne450 : b48 ≠ tt445 := Nat.ne_of_lt (Nat.lt_of_lt_of_le f438.lt sq445)
            have ne451 : b81 ≠ tt445 := Nat.ne_of_lt (Nat.lt_of_lt_of_le f439.lt sq445)
            have ge_tt445 : n0 ≤ tt445 := Nat.le_trans (OL440.1 ▸ OL440.2.1) sq445
            have sz_tt445 : h0.size ≤ tt445 := Nat.le_trans K441.1 sq445
            have sf452 := Safe.keep Kq445 ((allS sf434 all0) : ∀ x ∈ [b424], Safe Z consts_1 s.vm h424 x) CH435 sf430
            have sf453 := Safe.keep Kq445 ((allS sf434 all0) : ∀ x ∈ [b424], Safe Z consts_1 s.vm h424 x) CH435 sf431
            have sf454 := Safe.keep Kq445 ((allS sf434 all0) : ∀ x ∈ [b424], Safe Z consts_1 s.vm h424 x) CH435 sf432
            have sf455 := Safe.keep Kq445 ((allS sf434 all0) : ∀ x ∈ [b424], Safe Z consts_1 s.vm h424 x) CH435 sf433
            have sf456 := Safe.keep Kq445 ((allS sf434 all0) : ∀ x ∈ [b424], Safe Z consts_1 s.vm h424 x) CH435 sf434
            have sf457 := Safe.keep Kq445 ((allS sf434 all0) : ∀ x ∈ [b424], Safe Z consts_1 s.vm h424 x) CH435 sf446
            have cr458 := CHr.keep Kq445 ((allS sf434 all0) : ∀ x ∈ [b424], Safe Z consts_1 s.vm h424 x) CH435
            have CH458 := cr458.1
            have CR458 := CR435.trans cr458
            have hk := Nat.le_trans hk Kq445.1
            have f459 := f436.keep Kq445 (ninS ne426 nin0)
            have f460 := f437.keep Kq445 (ninS ne427 nin0)
            have f461 := f438.keep Kq445 (ninS ne428 nin0)
            have f462 := f439.keep Kq445 (ninS ne429 nin0)
            have f463 := A424.keep Kq445
            have OL464 := OL440.keep Kq445 (allS ge_b424 all0)
            have K465 : Keep h0 T445.heap [] := K441.trans Kq445 (allS (Or.inr sz_b424) all0)
            have pre466 : oL p e below T445 (mkF m 184 #[oI p1, oI p2, oI p3, oI p4, oI p5, oI (p1 &&& (3 : Int32)), oR bp, oI (p2 &&& (7 : Int32)), oI vi14, oI vi17, oI vi20, oR b23, oR b30, oR b48, oR b81, oU, oU, oU, oU, oU, oU] [ow b424]) s₁ (entryFrame m #[(.int p1), (.int p2), (.int p3), (.int p4), (.int p5)] maxLocals) := fun t k => pre444 t (by
              refine st445.trans ?_
              show oS p e below T445 (mkF m 184 #[oI p1, oI p2, oI p3, oI p4, oI p5, oI (p1 &&& (3 : Int32)), oR bp, oI (p2 &&& (7 : Int32)), oI vi14, oI vi17, oI vi20, oR b23, oR b30, oR b48, oR b81, oU, oU, oU, oU, oU, oU] [ow b424]) _
              exact k)
            rcases ou445 with ⟨hcd, hNx, hvs, -, -⟩ | ⟨hcd, -⟩
            ·
              have f467 := Fc445
              rw [hcd] at f467
              have f468 := Va445
              rw [hNx, hvs] at f468
              have pre469 : oL p e below T445 (mkF m 212 #[oI p1, oI p2, oI p3, oI p4, oI p5, oI (p1 &&& (3 : Int32)), oR bp, oI (p2 &&& (7 : Int32)), oI vi14, oI vi17, oI vi20, oR b23, oR b30, oR b48, oR b81, oR b424, oI 0, oI 2, oU, oU, oU] []) s₁ (entryFrame m #[(.int p1), (.int p2), (.int p3), (.int p4), (.int p5)] maxLocals) := fun t k => pre466 t (by
                refine XS.astore X445.here hx rfl (hb hby at_184) rfl rfl (l' := #[oI p1, oI p2, oI p3, oI p4, oI p5, oI (p1 &&& (3 : Int32)), oR bp, oI (p2 &&& (7 : Int32)), oI vi14, oI vi17, oI vi20, oR b23, oR b30, oR b48, oR b81, oR b424, oU, oU, oU, oU, oU]) rfl ?_
                refine XS.iconst X445.here hx rfl (hb hby at_186) ?_
                refine XS.istore X445.here hx rfl (hb hby at_187) rfl (l' := #[oI p1, oI p2, oI p3, oI p4, oI p5, oI (p1 &&& (3 : Int32)), oR bp, oI (p2 &&& (7 : Int32)), oI vi14, oI vi17, oI vi20, oR b23, oR b30, oR b48, oR b81, oR b424, oI 0, oU, oU, oU, oU]) rfl ?_
                refine XS.iconst X445.here hx rfl (hb hby at_189) ?_
                show oS p e below T445 (mkF m 190 #[oI p1, oI p2, oI p3, oI p4, oI p5, oI (p1 &&& (3 : Int32)), oR bp, oI (p2 &&& (7 : Int32)), oI vi14, oI vi17, oI vi20, oR b23, oR b30, oR b48, oR b81, oR b424, oI 0, oU, oU, oU, oU] [oi 2]) _
                refine XS.istore X445.here hx rfl (hb hby at_190) rfl (l' := #[oI p1, oI p2, oI p3, oI p4, oI p5, oI (p1 &&& (3 : Int32)), oR bp, oI (p2 &&& (7 : Int32)), oI vi14, oI vi17, oI vi20, oR b23, oR b30, oR b48, oR b81, oR b424, oI 0, oI 2, oU, oU, oU]) rfl ?_
                refine XS.goto X445.here hx rfl (pc0 := 192) (pc' := 212) rfl (hb hby at_192) (by decide) (by decide) ?_
                exact k)
              obtain ⟨vi470, hj470, pre470⟩ : ∃ vi470 : Int32, (vi470 = tn) ∧ oL p e below T445 (mkF m 229 #[oI p1, oI p2, oI p3, oI p4, oI p5, oI (p1 &&& (3 : Int32)), oR bp, oI (p2 &&& (7 : Int32)), oI vi14, oI vi17, oI vi20, oR b23, oR b30, oR b48, oR b81, oR b424, oI 0, oI 2, oU, oU, oU] [oi vi470]) s₁ (entryFrame m #[(.int p1), (.int p2), (.int p3), (.int p4), (.int p5)] maxLocals) := by
                have pre471 : oL p e below T445 (mkF m 215 #[oI p1, oI p2, oI p3, oI p4, oI p5, oI (p1 &&& (3 : Int32)), oR bp, oI (p2 &&& (7 : Int32)), oI vi14, oI vi17, oI vi20, oR b23, oR b30, oR b48, oR b81, oR b424, oI 0, oI 2, oU, oU, oU] [oi 1, oi (p1 &&& (3 : Int32))]) s₁ (entryFrame m #[(.int p1), (.int p2), (.int p3), (.int p4), (.int p5)] maxLocals) := fun t k => pre469 t (by
                  refine XS.iload X445.here hx rfl (hb hby at_212) rfl ?_
                  refine XS.iconst X445.here hx rfl (hb hby at_214) ?_
                  show oS p e below T445 (mkF m 215 #[oI p1, oI p2, oI p3, oI p4, oI p5, oI (p1 &&& (3 : Int32)), oR bp, oI (p2 &&& (7 : Int32)), oI vi14, oI vi17, oI vi20, oR b23, oR b30, oR b48, oR b81, oR b424, oI 0, oI 2, oU, oU, oU] [oi 1, oi (p1 &&& (3 : Int32))]) _
                  exact k)
                by_cases hc472 : (p1 &&& (3 : Int32)) = (1 : Int32)
                ·
                  have pre473 : oL p e below T445 (mkF m 229 #[oI p1, oI p2, oI p3, oI p4, oI p5, oI (p1 &&& (3 : Int32)), oR bp, oI (p2 &&& (7 : Int32)), oI vi14, oI vi17, oI vi20, oR b23, oR b30, oR b48, oR b81, oR b424, oI 0, oI 2, oU, oU, oU] [oi 1]) s₁ (entryFrame m #[(.int p1), (.int p2), (.int p3), (.int p4), (.int p5)] maxLocals) := fun t k => pre471 t (by
                    refine XS.icmpYes X445.here hx rfl (pc0 := 215) (pc' := 224) rfl (hb hby at_215) rfl (teq hc472).1 (by decide) (by decide) ?_
                    refine XS.iconst X445.here hx rfl (hb hby at_224) ?_
                    refine XS.goto X445.here hx rfl (pc0 := 225) (pc' := 229) rfl (hb hby at_225) (by decide) (by decide) ?_
                    exact k)
                  exact ⟨(1 : Int32), (by rw [htn]; simp [hc472]), pre473⟩
                ·
                  have pre474 : oL p e below T445 (mkF m 221 #[oI p1, oI p2, oI p3, oI p4, oI p5, oI (p1 &&& (3 : Int32)), oR bp, oI (p2 &&& (7 : Int32)), oI vi14, oI vi17, oI vi20, oR b23, oR b30, oR b48, oR b81, oR b424, oI 0, oI 2, oU, oU, oU] [oi 3, oi (p1 &&& (3 : Int32))]) s₁ (entryFrame m #[(.int p1), (.int p2), (.int p3), (.int p4), (.int p5)] maxLocals) := fun t k => pre471 t (by
                    refine XS.icmpNo X445.here hx rfl (hb hby at_215) rfl (feq hc472).1 ?_
                    refine XS.iload X445.here hx rfl (hb hby at_218) rfl ?_
                    refine XS.iconst X445.here hx rfl (hb hby at_220) ?_
                    exact k)
                  by_cases hc475 : (p1 &&& (3 : Int32)) = (3 : Int32)
                  ·
                    have pre476 : oL p e below T445 (mkF m 229 #[oI p1, oI p2, oI p3, oI p4, oI p5, oI (p1 &&& (3 : Int32)), oR bp, oI (p2 &&& (7 : Int32)), oI vi14, oI vi17, oI vi20, oR b23, oR b30, oR b48, oR b81, oR b424, oI 0, oI 2, oU, oU, oU] [oi 1]) s₁ (entryFrame m #[(.int p1), (.int p2), (.int p3), (.int p4), (.int p5)] maxLocals) := fun t k => pre474 t (by
                      refine XS.icmpNo X445.here hx rfl (hb hby at_221) rfl (teq hc475).2 ?_
                      show oS p e below T445 (mkF m 224 #[oI p1, oI p2, oI p3, oI p4, oI p5, oI (p1 &&& (3 : Int32)), oR bp, oI (p2 &&& (7 : Int32)), oI vi14, oI vi17, oI vi20, oR b23, oR b30, oR b48, oR b81, oR b424, oI 0, oI 2, oU, oU, oU] []) _
                      refine XS.iconst X445.here hx rfl (hb hby at_224) ?_
                      refine XS.goto X445.here hx rfl (pc0 := 225) (pc' := 229) rfl (hb hby at_225) (by decide) (by decide) ?_
                      exact k)
                    exact ⟨(1 : Int32), (by rw [htn]; simp [hc472, hc475]), pre476⟩
                  ·
                    have pre477 : oL p e below T445 (mkF m 229 #[oI p1, oI p2, oI p3, oI p4, oI p5, oI (p1 &&& (3 : Int32)), oR bp, oI (p2 &&& (7 : Int32)), oI vi14, oI vi17, oI vi20, oR b23, oR b30, oR b48, oR b81, oR b424, oI 0, oI 2, oU, oU, oU] [oi 0]) s₁ (entryFrame m #[(.int p1), (.int p2), (.int p3), (.int p4), (.int p5)] maxLocals) := fun t k => pre474 t (by
                      refine XS.icmpYes X445.here hx rfl (pc0 := 221) (pc' := 228) rfl (hb hby at_221) rfl (feq hc475).2 (by decide) (by decide) ?_
                      show oS p e below T445 (mkF m 228 #[oI p1, oI p2, oI p3, oI p4, oI p5, oI (p1 &&& (3 : Int32)), oR bp, oI (p2 &&& (7 : Int32)), oI vi14, oI vi17, oI vi20, oR b23, oR b30, oR b48, oR b81, oR b424, oI 0, oI 2, oU, oU, oU] []) _
                      refine XS.iconst X445.here hx rfl (hb hby at_228) ?_
                      exact k)
                    exact ⟨(0 : Int32), (by rw [htn]; simp [hc472, hc475]), pre477⟩
              have pre478 : oL p e below T445 (mkF m 231 #[oI p1, oI p2, oI p3, oI p4, oI p5, oI (p1 &&& (3 : Int32)), oR bp, oI (p2 &&& (7 : Int32)), oI vi14, oI vi17, oI vi20, oR b23, oR b30, oR b48, oR b81, oR b424, oI 0, oI 2, oI vi470, oU, oU] []) s₁ (entryFrame m #[(.int p1), (.int p2), (.int p3), (.int p4), (.int p5)] maxLocals) := fun t k => pre470 t (by
                refine XS.istore X445.here hx rfl (hb hby at_229) rfl (l' := #[oI p1, oI p2, oI p3, oI p4, oI p5, oI (p1 &&& (3 : Int32)), oR bp, oI (p2 &&& (7 : Int32)), oI vi14, oI vi17, oI vi20, oR b23, oR b30, oR b48, oR b81, oR b424, oI 0, oI 2, oI vi470, oU, oU]) rfl ?_
                exact k)
              obtain ⟨vi479, hj479, pre479⟩ : ∃ vi479 : Int32, (vi479 = ti) ∧ oL p e below T445 (mkF m 248 #[oI p1, oI p2, oI p3, oI p4, oI p5, oI (p1 &&& (3 : Int32)), oR bp, oI (p2 &&& (7 : Int32)), oI vi14, oI vi17, oI vi20, oR b23, oR b30, oR b48, oR b81, oR b424, oI 0, oI 2, oI vi470, oU, oU] [oi vi479]) s₁ (entryFrame m #[(.int p1), (.int p2), (.int p3), (.int p4), (.int p5)] maxLocals) := by
                have pre480 : oL p e below T445 (mkF m 234 #[oI p1, oI p2, oI p3, oI p4, oI p5, oI (p1 &&& (3 : Int32)), oR bp, oI (p2 &&& (7 : Int32)), oI vi14, oI vi17, oI vi20, oR b23, oR b30, oR b48, oR b81, oR b424, oI 0, oI 2, oI vi470, oU, oU] [oi 2, oi (p1 &&& (3 : Int32))]) s₁ (entryFrame m #[(.int p1), (.int p2), (.int p3), (.int p4), (.int p5)] maxLocals) := fun t k => pre478 t (by
                  refine XS.iload X445.here hx rfl (hb hby at_231) rfl ?_
                  show oS p e below T445 (mkF m 233 #[oI p1, oI p2, oI p3, oI p4, oI p5, oI (p1 &&& (3 : Int32)), oR bp, oI (p2 &&& (7 : Int32)), oI vi14, oI vi17, oI vi20, oR b23, oR b30, oR b48, oR b81, oR b424, oI 0, oI 2, oI vi470, oU, oU] [oi (p1 &&& (3 : Int32))]) _
                  refine XS.iconst X445.here hx rfl (hb hby at_233) ?_
                  exact k)
                by_cases hc481 : (p1 &&& (3 : Int32)) = (2 : Int32)
                ·
                  have pre482 : oL p e below T445 (mkF m 248 #[oI p1, oI p2, oI p3, oI p4, oI p5, oI (p1 &&& (3 : Int32)), oR bp, oI (p2 &&& (7 : Int32)), oI vi14, oI vi17, oI vi20, oR b23, oR b30, oR b48, oR b81, oR b424, oI 0, oI 2, oI vi470, oU, oU] [oi 1]) s₁ (entryFrame m #[(.int p1), (.int p2), (.int p3), (.int p4), (.int p5)] maxLocals) := fun t k => pre480 t (by
                    refine XS.icmpYes X445.here hx rfl (pc0 := 234) (pc' := 243) rfl (hb hby at_234) rfl (teq hc481).1 (by decide) (by decide) ?_
                    refine XS.iconst X445.here hx rfl (hb hby at_243) ?_
                    refine XS.goto X445.here hx rfl (pc0 := 244) (pc' := 248) rfl (hb hby at_244) (by decide) (by decide) ?_
                    show oS p e below T445 (mkF m 248 #[oI p1, oI p2, oI p3, oI p4, oI p5, oI (p1 &&& (3 : Int32)), oR bp, oI (p2 &&& (7 : Int32)), oI vi14, oI vi17, oI vi20, oR b23, oR b30, oR b48, oR b81, oR b424, oI 0, oI 2, oI vi470, oU, oU] [oi 1]) _
                    exact k)
                  exact ⟨(1 : Int32), (by rw [hti]; simp [hc481]), pre482⟩
                ·
                  have pre483 : oL p e below T445 (mkF m 240 #[oI p1, oI p2, oI p3, oI p4, oI p5, oI (p1 &&& (3 : Int32)), oR bp, oI (p2 &&& (7 : Int32)), oI vi14, oI vi17, oI vi20, oR b23, oR b30, oR b48, oR b81, oR b424, oI 0, oI 2, oI vi470, oU, oU] [oi 3, oi (p1 &&& (3 : Int32))]) s₁ (entryFrame m #[(.int p1), (.int p2), (.int p3), (.int p4), (.int p5)] maxLocals) := fun t k => pre480 t (by
                    refine XS.icmpNo X445.here hx rfl (hb hby at_234) rfl (feq hc481).1 ?_
                    refine XS.iload X445.here hx rfl (hb hby at_237) rfl ?_
                    refine XS.iconst X445.here hx rfl (hb hby at_239) ?_
                    show oS p e below T445 (mkF m 240 #[oI p1, oI p2, oI p3, oI p4, oI p5, oI (p1 &&& (3 : Int32)), oR bp, oI (p2 &&& (7 : Int32)), oI vi14, oI vi17, oI vi20, oR b23, oR b30, oR b48, oR b81, oR b424, oI 0, oI 2, oI vi470, oU, oU] [oi 3, oi (p1 &&& (3 : Int32))]) _
                    exact k)
                  by_cases hc484 : (p1 &&& (3 : Int32)) = (3 : Int32)
                  ·
                    have pre485 : oL p e below T445 (mkF m 248 #[oI p1, oI p2, oI p3, oI p4, oI p5, oI (p1 &&& (3 : Int32)), oR bp, oI (p2 &&& (7 : Int32)), oI vi14, oI vi17, oI vi20, oR b23, oR b30, oR b48, oR b81, oR b424, oI 0, oI 2, oI vi470, oU, oU] [oi 1]) s₁ (entryFrame m #[(.int p1), (.int p2), (.int p3), (.int p4), (.int p5)] maxLocals) := fun t k => pre483 t (by
                      refine XS.icmpNo X445.here hx rfl (hb hby at_240) rfl (teq hc484).2 ?_
                      refine XS.iconst X445.here hx rfl (hb hby at_243) ?_
                      refine XS.goto X445.here hx rfl (pc0 := 244) (pc' := 248) rfl (hb hby at_244) (by decide) (by decide) ?_
                      exact k)
                    exact ⟨(1 : Int32), (by rw [hti]; simp [hc481, hc484]), pre485⟩
                  ·
                    have pre486 : oL p e below T445 (mkF m 248 #[oI p1, oI p2, oI p3, oI p4, oI p5, oI (p1 &&& (3 : Int32)), oR bp, oI (p2 &&& (7 : Int32)), oI vi14, oI vi17, oI vi20, oR b23, oR b30, oR b48, oR b81, oR b424, oI 0, oI 2, oI vi470, oU, oU] [oi 0]) s₁ (entryFrame m #[(.int p1), (.int p2), (.int p3), (.int p4), (.int p5)] maxLocals) := fun t k => pre483 t (by
                      refine XS.icmpYes X445.here hx rfl (pc0 := 240) (pc' := 247) rfl (hb hby at_240) rfl (feq hc484).2 (by decide) (by decide) ?_
                      refine XS.iconst X445.here hx rfl (hb hby at_247) ?_
                      exact k)
                    exact ⟨(0 : Int32), (by rw [hti]; simp [hc481, hc484]), pre486⟩
              have pre487 : oL p e below T445 (mkF m 283 #[oI p1, oI p2, oI p3, oI p4, oI p5, oI (p1 &&& (3 : Int32)), oR bp, oI (p2 &&& (7 : Int32)), oI vi14, oI vi17, oI vi20, oR b23, oR b30, oR b48, oR b81, oR b424, oI 0, oI 2, oI vi470, oI vi479, oI 0] [ow b424, ow bp]) s₁ (entryFrame m #[(.int p1), (.int p2), (.int p3), (.int p4), (.int p5)] maxLocals) := fun t k => pre479 t (by
                refine XS.istore X445.here hx rfl (hb hby at_248) rfl (l' := #[oI p1, oI p2, oI p3, oI p4, oI p5, oI (p1 &&& (3 : Int32)), oR bp, oI (p2 &&& (7 : Int32)), oI vi14, oI vi17, oI vi20, oR b23, oR b30, oR b48, oR b81, oR b424, oI 0, oI 2, oI vi470, oI vi479, oU]) rfl ?_
                show oS p e below T445 (mkF m 250 #[oI p1, oI p2, oI p3, oI p4, oI p5, oI (p1 &&& (3 : Int32)), oR bp, oI (p2 &&& (7 : Int32)), oI vi14, oI vi17, oI vi20, oR b23, oR b30, oR b48, oR b81, oR b424, oI 0, oI 2, oI vi470, oI vi479, oU] []) _
                refine XS.iload X445.here hx rfl (hb hby at_250) rfl ?_
                refine XS.ifYes X445.here hx rfl (pc0 := 252) (pc' := 262) rfl (hb hby at_252) rfl ((if0 _ _).trans (teq (by decide : (0 : Int32) = (0 : Int32))).1) (by decide) (by decide) ?_
                refine XS.iload X445.here hx rfl (hb hby at_262) rfl ?_
                refine XS.ifYes X445.here hx rfl (pc0 := 264) (pc' := 276) rfl (hb hby at_264) rfl ((if0 _ _).trans (feq (by decide : ¬ ((2 : Int32) = (0 : Int32)))).2) (by decide) (by decide) ?_
                show oS p e below T445 (mkF m 276 #[oI p1, oI p2, oI p3, oI p4, oI p5, oI (p1 &&& (3 : Int32)), oR bp, oI (p2 &&& (7 : Int32)), oI vi14, oI vi17, oI vi20, oR b23, oR b30, oR b48, oR b81, oR b424, oI 0, oI 2, oI vi470, oI vi479, oU] []) _
                refine XS.iconst X445.here hx rfl (hb hby at_276) ?_
                refine XS.istore X445.here hx rfl (hb hby at_277) rfl (l' := #[oI p1, oI p2, oI p3, oI p4, oI p5, oI (p1 &&& (3 : Int32)), oR bp, oI (p2 &&& (7 : Int32)), oI vi14, oI vi17, oI vi20, oR b23, oR b30, oR b48, oR b81, oR b424, oI 0, oI 2, oI vi470, oI vi479, oI 0]) rfl ?_
                refine XS.aload X445.here hx rfl (hb hby at_279) rfl rfl ?_
                refine XS.aload X445.here hx rfl (hb hby at_281) rfl rfl ?_
                show oS p e below T445 (mkF m 283 #[oI p1, oI p2, oI p3, oI p4, oI p5, oI (p1 &&& (3 : Int32)), oR bp, oI (p2 &&& (7 : Int32)), oI vi14, oI vi17, oI vi20, oR b23, oR b30, oR b48, oR b81, oR b424, oI 0, oI 2, oI vi470, oI vi479, oI 0] [ow b424, ow bp]) _
                exact k)
              obtain ⟨cq488, kq488, q488a, q488b, q488c⟩ := isOf hZ rfl (Ebp.ext OL464.2)
              obtain ⟨_, _, ⟨T488, L488, k488, n488⟩, -, X488, hS488, hgr488, ⟨Lc488, hQ488, l488, y488, z488, cr488⟩, st488⟩ := X445.virtualBackS hx (y := (⟨"com/example/grantwright/grantwright/Bypass", "takes", "(Ljava/lang/String;)Z"⟩ : MethodName)) (z := (⟨"com/example/grantwright/grantwright/Bypass", "takes", "(Ljava/lang/String;)Z"⟩ : MethodName)) hown (mvT hZ (oW hw 37 rfl)) (mvT hZ (oW hw 38 rfl)) (notFace_of_selects (args := #[]) (mvT hZ (oW hw 40 rfl))) (mvT hZ (oW hw 40 rfl)) (mvT hZ (oW hw 39 rfl)) (by decide) (backOfSH (W := 0) (rm_tkB2 l Z a0 hw [] bp ti b424 tt445 kb445 [(.int (nar .byte (vi14.toInt8.toInt32))), (.int (nar .byte (vi17.toInt8.toInt32)))] G1 T445.heap n0 OL464 O2 P5 FI hi Eq445 Fv445 f467 f468) hZ (oW hw 41 rfl) (oW hw 5 rfl) (by decide) (by decide) hEL CH458) q488a q488c (g := (mkF m 283 #[oI p1, oI p2, oI p3, oI p4, oI p5, oI (p1 &&& (3 : Int32)), oR bp, oI (p2 &&& (7 : Int32)), oI vi14, oI vi17, oI vi20, oR b23, oR b30, oR b48, oR b81, oR b424, oI 0, oI 2, oI vi470, oI vi479, oI 0] [ow b424, ow bp])) rfl (by rw [hml]; rfl) (Steps.refl _) (argsL := [(.ref b424)]) (rest := []) (lenOf pd__Ljava_lang_String__Z rfl) rfl (by show 2 * 0 + _ ≤ _; exact Nat.le_of_eq rfl) (hb hby at_283) (fun _ _ => ⟨rfl, rfl, (by decide : 7 + 2 ≤ _), (by decide : 16 + 4 ≤ _)⟩)
              dsimp only [Pt.U, Pt.locs, Pt.cells, Pt.slots] at X488 l488 y488 z488 st488 hQ488 hS488 hgr488 cr488
              subst l488 y488 z488
              obtain ⟨X488, hS, hZ, hown⟩ := rebS hS (hk : _ ≤ T445.heap.size) X488 hS488 hgr488 hZ hown
              have hk : T488.heap.size ≤ T488.heap.size := Nat.le_refl _
              obtain ⟨rfl, N488q, Kq488⟩ := hQ488
              have N488 := Fr.app N445 N488q
              have sf489 := cr488.safe f459.lt sf452
              have sf490 := cr488.safe f460.lt sf453
              have sf491 := cr488.safe f461.lt sf454
              have sf492 := cr488.safe f462.lt sf455
              have sf493 := cr488.safe Eq445.lt sf456
              have sf494 := cr488.safe f468.lt sf457
              have CH495 := cr488.1
              have CR495 := CR458.trans cr488
              have f496 := f459.keep Kq488 nin0
              have f497 := f460.keep Kq488 nin0
              have f498 := f461.keep Kq488 nin0
              have f499 := f462.keep Kq488 nin0
              have f500 := Eq445.keep Kq488
              have f501 := f467.keep Kq488 nin0
              have f502 := Fv445.keep Kq488 nin0
              have f503 := f468.keep Kq488 nin0
              have OL504 := OL464.keep Kq488 all0
              have K505 : Keep h0 T488.heap [] := K465.trans Kq488 all0
              have pre506 : oL p e below T488 (mkF m 296 #[oI p1, oI p2, oI p3, oI p4, oI p5, oI (p1 &&& (3 : Int32)), oR bp, oI (p2 &&& (7 : Int32)), oI vi14, oI vi17, oI vi20, oR b23, oR b30, oR b48, oR b81, oR b424, oI 0, oI 2, oI vi470, oI vi479, oI 0] [oi 1]) s₁ (entryFrame m #[(.int p1), (.int p2), (.int p3), (.int p4), (.int p5)] maxLocals) := fun t k => pre487 t (by
                refine st488.trans ?_
                refine XS.iload X488.here hx rfl (hb hby at_286) rfl ?_
                refine XS.icmpNo X488.here hx rfl (hb hby at_288) rfl (teq (by decide : (0 : Int32) = (0 : Int32))).2 ?_
                refine XS.iconst X488.here hx rfl (hb hby at_291) ?_
                show oS p e below T488 (mkF m 292 #[oI p1, oI p2, oI p3, oI p4, oI p5, oI (p1 &&& (3 : Int32)), oR bp, oI (p2 &&& (7 : Int32)), oI vi14, oI vi17, oI vi20, oR b23, oR b30, oR b48, oR b81, oR b424, oI 0, oI 2, oI vi470, oI vi479, oI 0] [oi 1]) _
                refine XS.goto X488.here hx rfl (pc0 := 292) (pc' := 296) rfl (hb hby at_292) (by decide) (by decide) ?_
                exact k)
              obtain ⟨fs, hr, hrun, hended, hEnd⟩ := X488.leaveW hS hk (v := some (.int (1 : Int32))) (fun h => by rw [Bd.returns] at h; cases h)
              refine ⟨_, _, pre506 _ ?_, hrun, hended, _, _, rfl, ?_, (by show CHr Z consts_1 s.vm s.heap T488.vm T488.heap; rw [hh]; exact CR495.trans (CHv.at X488 hZ hEL CH495)), hEnd.1, hEnd.2.1, hEnd.2.2.1, hEnd.2.2.2.mono (by decide) (by decide)⟩
              ·
                show oS p e below T488 (mkF m 296 #[oI p1, oI p2, oI p3, oI p4, oI p5, oI (p1 &&& (3 : Int32)), oR bp, oI (p2 &&& (7 : Int32)), oI vi14, oI vi17, oI vi20, oR b23, oR b30, oR b48, oR b81, oR b424, oI 0, oI 2, oI vi470, oI vi479, oI 0] [oi 1]) _
                exact retN X488 hx (t := .boolean) Bd.returns (by simp) (hb hby at_296) hr
              ·
                show Q_rm0 Z p1 p2 p3 p4 p5 G1 w_NONE w_WHEN_NULL w_WHEN_INITIAL w_WHEN_INITIAL_OR_NULL h0 n0 _ T488.heap _
                exact ⟨rfl, N488⟩
            ·
              have f507 := Fc445
              rw [hcd] at f507
              have pre508 : oL p e below T445 (mkF m 212 #[oI p1, oI p2, oI p3, oI p4, oI p5, oI (p1 &&& (3 : Int32)), oR bp, oI (p2 &&& (7 : Int32)), oI vi14, oI vi17, oI vi20, oR b23, oR b30, oR b48, oR b81, oR b424, oI 0, oI 2, oU, oU, oU] []) s₁ (entryFrame m #[(.int p1), (.int p2), (.int p3), (.int p4), (.int p5)] maxLocals) := fun t k => pre466 t (by
                refine XS.astore X445.here hx rfl (hb hby at_184) rfl rfl (l' := #[oI p1, oI p2, oI p3, oI p4, oI p5, oI (p1 &&& (3 : Int32)), oR bp, oI (p2 &&& (7 : Int32)), oI vi14, oI vi17, oI vi20, oR b23, oR b30, oR b48, oR b81, oR b424, oU, oU, oU, oU, oU]) rfl ?_
                refine XS.iconst X445.here hx rfl (hb hby at_186) ?_
                refine XS.istore X445.here hx rfl (hb hby at_187) rfl (l' := #[oI p1, oI p2, oI p3, oI p4, oI p5, oI (p1 &&& (3 : Int32)), oR bp, oI (p2 &&& (7 : Int32)), oI vi14, oI vi17, oI vi20, oR b23, oR b30, oR b48, oR b81, oR b424, oI 0, oU, oU, oU, oU]) rfl ?_
                refine XS.iconst X445.here hx rfl (hb hby at_189) ?_
                show oS p e below T445 (mkF m 190 #[oI p1, oI p2, oI p3, oI p4, oI p5, oI (p1 &&& (3 : Int32)), oR bp, oI (p2 &&& (7 : Int32)), oI vi14, oI vi17, oI vi20, oR b23, oR b30, oR b48, oR b81, oR b424, oI 0, oU, oU, oU, oU] [oi 2]) _
                refine XS.istore X445.here hx rfl (hb hby at_190) rfl (l' := #[oI p1, oI p2, oI p3, oI p4, oI p5, oI (p1 &&& (3 : Int32)), oR bp, oI (p2 &&& (7 : Int32)), oI vi14, oI vi17, oI vi20, oR b23, oR b30, oR b48, oR b81, oR b424, oI 0, oI 2, oU, oU, oU]) rfl ?_
                refine XS.goto X445.here hx rfl (pc0 := 192) (pc' := 212) rfl (hb hby at_192) (by decide) (by decide) ?_
                exact k)
              obtain ⟨vi509, hj509, pre509⟩ : ∃ vi509 : Int32, (vi509 = tn) ∧ oL p e below T445 (mkF m 229 #[oI p1, oI p2, oI p3, oI p4, oI p5, oI (p1 &&& (3 : Int32)), oR bp, oI (p2 &&& (7 : Int32)), oI vi14, oI vi17, oI vi20, oR b23, oR b30, oR b48, oR b81, oR b424, oI 0, oI 2, oU, oU, oU] [oi vi509]) s₁ (entryFrame m #[(.int p1), (.int p2), (.int p3), (.int p4), (.int p5)] maxLocals) := by
                have pre510 : oL p e below T445 (mkF m 215 #[oI p1, oI p2, oI p3, oI p4, oI p5, oI (p1 &&& (3 : Int32)), oR bp, oI (p2 &&& (7 : Int32)), oI vi14, oI vi17, oI vi20, oR b23, oR b30, oR b48, oR b81, oR b424, oI 0, oI 2, oU, oU, oU] [oi 1, oi (p1 &&& (3 : Int32))]) s₁ (entryFrame m #[(.int p1), (.int p2), (.int p3), (.int p4), (.int p5)] maxLocals) := fun t k => pre508 t (by
                  refine XS.iload X445.here hx rfl (hb hby at_212) rfl ?_
                  refine XS.iconst X445.here hx rfl (hb hby at_214) ?_
                  show oS p e below T445 (mkF m 215 #[oI p1, oI p2, oI p3, oI p4, oI p5, oI (p1 &&& (3 : Int32)), oR bp, oI (p2 &&& (7 : Int32)), oI vi14, oI vi17, oI vi20, oR b23, oR b30, oR b48, oR b81, oR b424, oI 0, oI 2, oU, oU, oU] [oi 1, oi (p1 &&& (3 : Int32))]) _
                  exact k)
                by_cases hc511 : (p1 &&& (3 : Int32)) = (1 : Int32)
                ·
                  have pre512 : oL p e below T445 (mkF m 229 #[oI p1, oI p2, oI p3, oI p4, oI p5, oI (p1 &&& (3 : Int32)), oR bp, oI (p2 &&& (7 : Int32)), oI vi14, oI vi17, oI vi20, oR b23, oR b30, oR b48, oR b81, oR b424, oI 0, oI 2, oU, oU, oU] [oi 1]) s₁ (entryFrame m #[(.int p1), (.int p2), (.int p3), (.int p4), (.int p5)] maxLocals) := fun t k => pre510 t (by
                    refine XS.icmpYes X445.here hx rfl (pc0 := 215) (pc' := 224) rfl (hb hby at_215) rfl (teq hc511).1 (by decide) (by decide) ?_
                    refine XS.iconst X445.here hx rfl (hb hby at_224) ?_
                    refine XS.goto X445.here hx rfl (pc0 := 225) (pc' := 229) rfl (hb hby at_225) (by decide) (by decide) ?_
                    exact k)
                  exact ⟨(1 : Int32), (by rw [htn]; simp [hc511]), pre512⟩
                ·
                  have pre513 : oL p e below T445 (mkF m 221 #[oI p1, oI p2, oI p3, oI p4, oI p5, oI (p1 &&& (3 : Int32)), oR bp, oI (p2 &&& (7 : Int32)), oI vi14, oI vi17, oI vi20, oR b23, oR b30, oR b48, oR b81, oR b424, oI 0, oI 2, oU, oU, oU] [oi 3, oi (p1 &&& (3 : Int32))]) s₁ (entryFrame m #[(.int p1), (.int p2), (.int p3), (.int p4), (.int p5)] maxLocals) := fun t k => pre510 t (by
                    refine XS.icmpNo X445.here hx rfl (hb hby at_215) rfl (feq hc511).1 ?_
                    refine XS.iload X445.here hx rfl (hb hby at_218) rfl ?_
                    refine XS.iconst X445.here hx rfl (hb hby at_220) ?_
                    exact k)
                  by_cases hc514 : (p1 &&& (3 : Int32)) = (3 : Int32)
                  ·
                    have pre515 : oL p e below T445 (mkF m 229 #[oI p1, oI p2, oI p3, oI p4, oI p5, oI (p1 &&& (3 : Int32)), oR bp, oI (p2 &&& (7 : Int32)), oI vi14, oI vi17, oI vi20, oR b23, oR b30, oR b48, oR b81, oR b424, oI 0, oI 2, oU, oU, oU] [oi 1]) s₁ (entryFrame m #[(.int p1), (.int p2), (.int p3), (.int p4), (.int p5)] maxLocals) := fun t k => pre513 t (by
                      refine XS.icmpNo X445.here hx rfl (hb hby at_221) rfl (teq hc514).2 ?_
                      show oS p e below T445 (mkF m 224 #[oI p1, oI p2, oI p3, oI p4, oI p5, oI (p1 &&& (3 : Int32)), oR bp, oI (p2 &&& (7 : Int32)), oI vi14, oI vi17, oI vi20, oR b23, oR b30, oR b48, oR b81, oR b424, oI 0, oI 2, oU, oU, oU] []) _
                      refine XS.iconst X445.here hx rfl (hb hby at_224) ?_
                      refine XS.goto X445.here hx rfl (pc0 := 225) (pc' := 229) rfl (hb hby at_225) (by decide) (by decide) ?_
                      exact k)
                    exact ⟨(1 : Int32), (by rw [htn]; simp [hc511, hc514]), pre515⟩
                  ·
                    have pre516 : oL p e below T445 (mkF m 229 #[oI p1, oI p2, oI p3, oI p4, oI p5, oI (p1 &&& (3 : Int32)), oR bp, oI (p2 &&& (7 : Int32)), oI vi14, oI vi17, oI vi20, oR b23, oR b30, oR b48, oR b81, oR b424, oI 0, oI 2, oU, oU, oU] [oi 0]) s₁ (entryFrame m #[(.int p1), (.int p2), (.int p3), (.int p4), (.int p5)] maxLocals) := fun t k => pre513 t (by
                      refine XS.icmpYes X445.here hx rfl (pc0 := 221) (pc' := 228) rfl (hb hby at_221) rfl (feq hc514).2 (by decide) (by decide) ?_
                      show oS p e below T445 (mkF m 228 #[oI p1, oI p2, oI p3, oI p4, oI p5, oI (p1 &&& (3 : Int32)), oR bp, oI (p2 &&& (7 : Int32)), oI vi14, oI vi17, oI vi20, oR b23, oR b30, oR b48, oR b81, oR b424, oI 0, oI 2, oU, oU, oU] []) _
                      refine XS.iconst X445.here hx rfl (hb hby at_228) ?_
                      exact k)
                    exact ⟨(0 : Int32), (by rw [htn]; simp [hc511, hc514]), pre516⟩
              have pre517 : oL p e below T445 (mkF m 231 #[oI p1, oI p2, oI p3, oI p4, oI p5, oI (p1 &&& (3 : Int32)), oR bp, oI (p2 &&& (7 : Int32)), oI vi14, oI vi17, oI vi20, oR b23, oR b30, oR b48, oR b81, oR b424, oI 0, oI 2, oI vi509, oU, oU] []) s₁ (entryFrame m #[(.int p1), (.int p2), (.int p3), (.int p4), (.int p5)] maxLocals) := fun t k => pre509 t (by
                refine XS.istore X445.here hx rfl (hb hby at_229) rfl (l' := #[oI p1, oI p2, oI p3, oI p4, oI p5, oI (p1 &&& (3 : Int32)), oR bp, oI (p2 &&& (7 : Int32)), oI vi14, oI vi17, oI vi20, oR b23, oR b30, oR b48, oR b81, oR b424, oI 0, oI 2, oI vi509, oU, oU]) rfl ?_
                exact k)
              obtain ⟨vi518, hj518, pre518⟩ : ∃ vi518 : Int32, (vi518 = ti) ∧ oL p e below T445 (mkF m 248 #[oI p1, oI p2, oI p3, oI p4, oI p5, oI (p1 &&& (3 : Int32)), oR bp, oI (p2 &&& (7 : Int32)), oI vi14, oI vi17, oI vi20, oR b23, oR b30, oR b48, oR b81, oR b424, oI 0, oI 2, oI vi509, oU, oU] [oi vi518]) s₁ (entryFrame m #[(.int p1), (.int p2), (.int p3), (.int p4), (.int p5)] maxLocals) := by
                have pre519 : oL p e below T445 (mkF m 234 #[oI p1, oI p2, oI p3, oI p4, oI p5, oI (p1 &&& (3 : Int32)), oR bp, oI (p2 &&& (7 : Int32)), oI vi14, oI vi17, oI vi20, oR b23, oR b30, oR b48, oR b81, oR b424, oI 0, oI 2, oI vi509, oU, oU] [oi 2, oi (p1 &&& (3 : Int32))]) s₁ (entryFrame m #[(.int p1), (.int p2), (.int p3), (.int p4), (.int p5)] maxLocals) := fun t k => pre517 t (by
                  refine XS.iload X445.here hx rfl (hb hby at_231) rfl ?_
                  show oS p e below T445 (mkF m 233 #[oI p1, oI p2, oI p3, oI p4, oI p5, oI (p1 &&& (3 : Int32)), oR bp, oI (p2 &&& (7 : Int32)), oI vi14, oI vi17, oI vi20, oR b23, oR b30, oR b48, oR b81, oR b424, oI 0, oI 2, oI vi509, oU, oU] [oi (p1 &&& (3 : Int32))]) _
                  refine XS.iconst X445.here hx rfl (hb hby at_233) ?_
                  exact k)
                by_cases hc520 : (p1 &&& (3 : Int32)) = (2 : Int32)
                ·
                  have pre521 : oL p e below T445 (mkF m 248 #[oI p1, oI p2, oI p3, oI p4, oI p5, oI (p1 &&& (3 : Int32)), oR bp, oI (p2 &&& (7 : Int32)), oI vi14, oI vi17, oI vi20, oR b23, oR b30, oR b48, oR b81, oR b424, oI 0, oI 2, oI vi509, oU, oU] [oi 1]) s₁ (entryFrame m #[(.int p1), (.int p2), (.int p3), (.int p4), (.int p5)] maxLocals) := fun t k => pre519 t (by
                    refine XS.icmpYes X445.here hx rfl (pc0 := 234) (pc' := 243) rfl (hb hby at_234) rfl (teq hc520).1 (by decide) (by decide) ?_
                    refine XS.iconst X445.here hx rfl (hb hby at_243) ?_
                    refine XS.goto X445.here hx rfl (pc0 := 244) (pc' := 248) rfl (hb hby at_244) (by decide) (by decide) ?_
                    show oS p e below T445 (mkF m 248 #[oI p1, oI p2, oI p3, oI p4, oI p5, oI (p1 &&& (3 : Int32)), oR bp, oI (p2 &&& (7 : Int32)), oI vi14, oI vi17, oI vi20, oR b23, oR b30, oR b48, oR b81, oR b424, oI 0, oI 2, oI vi509, oU, oU] [oi 1]) _
                    exact k)
                  exact ⟨(1 : Int32), (by rw [hti]; simp [hc520]), pre521⟩
                ·
                  have pre522 : oL p e below T445 (mkF m 240 #[oI p1, oI p2, oI p3, oI p4, oI p5, oI (p1 &&& (3 : Int32)), oR bp, oI (p2 &&& (7 : Int32)), oI vi14, oI vi17, oI vi20, oR b23, oR b30, oR b48, oR b81, oR b424, oI 0, oI 2, oI vi509, oU, oU] [oi 3, oi (p1 &&& (3 : Int32))]) s₁ (entryFrame m #[(.int p1), (.int p2), (.int p3), (.int p4), (.int p5)] maxLocals) := fun t k => pre519 t (by
                    refine XS.icmpNo X445.here hx rfl (hb hby at_234) rfl (feq hc520).1 ?_
                    refine XS.iload X445.here hx rfl (hb hby at_237) rfl ?_
                    refine XS.iconst X445.here hx rfl (hb hby at_239) ?_
                    show oS p e below T445 (mkF m 240 #[oI p1, oI p2, oI p3, oI p4, oI p5, oI (p1 &&& (3 : Int32)), oR bp, oI (p2 &&& (7 : Int32)), oI vi14, oI vi17, oI vi20, oR b23, oR b30, oR b48, oR b81, oR b424, oI 0, oI 2, oI vi509, oU, oU] [oi 3, oi (p1 &&& (3 : Int32))]) _
                    exact k)
                  by_cases hc523 : (p1 &&& (3 : Int32)) = (3 : Int32)
                  ·
                    have pre524 : oL p e below T445 (mkF m 248 #[oI p1, oI p2, oI p3, oI p4, oI p5, oI (p1 &&& (3 : Int32)), oR bp, oI (p2 &&& (7 : Int32)), oI vi14, oI vi17, oI vi20, oR b23, oR b30, oR b48, oR b81, oR b424, oI 0, oI 2, oI vi509, oU, oU] [oi 1]) s₁ (entryFrame m #[(.int p1), (.int p2), (.int p3), (.int p4), (.int p5)] maxLocals) := fun t k => pre522 t (by
                      refine XS.icmpNo X445.here hx rfl (hb hby at_240) rfl (teq hc523).2 ?_
                      refine XS.iconst X445.here hx rfl (hb hby at_243) ?_
                      refine XS.goto X445.here hx rfl (pc0 := 244) (pc' := 248) rfl (hb hby at_244) (by decide) (by decide) ?_
                      exact k)
                    exact ⟨(1 : Int32), (by rw [hti]; simp [hc520, hc523]), pre524⟩
                  ·
                    have pre525 : oL p e below T445 (mkF m 248 #[oI p1, oI p2, oI p3, oI p4, oI p5, oI (p1 &&& (3 : Int32)), oR bp, oI (p2 &&& (7 : Int32)), oI vi14, oI vi17, oI vi20, oR b23, oR b30, oR b48, oR b81, oR b424, oI 0, oI 2, oI vi509, oU, oU] [oi 0]) s₁ (entryFrame m #[(.int p1), (.int p2), (.int p3), (.int p4), (.int p5)] maxLocals) := fun t k => pre522 t (by
                      refine XS.icmpYes X445.here hx rfl (pc0 := 240) (pc' := 247) rfl (hb hby at_240) rfl (feq hc523).2 (by decide) (by decide) ?_
                      refine XS.iconst X445.here hx rfl (hb hby at_247) ?_
                      exact k)
                    exact ⟨(0 : Int32), (by rw [hti]; simp [hc520, hc523]), pre525⟩
              have pre526 : oL p e below T445 (mkF m 283 #[oI p1, oI p2, oI p3, oI p4, oI p5, oI (p1 &&& (3 : Int32)), oR bp, oI (p2 &&& (7 : Int32)), oI vi14, oI vi17, oI vi20, oR b23, oR b30, oR b48, oR b81, oR b424, oI 0, oI 2, oI vi509, oI vi518, oI 0] [ow b424, ow bp]) s₁ (entryFrame m #[(.int p1), (.int p2), (.int p3), (.int p4), (.int p5)] maxLocals) := fun t k => pre518 t (by
                refine XS.istore X445.here hx rfl (hb hby at_248) rfl (l' := #[oI p1, oI p2, oI p3, oI p4, oI p5, oI (p1 &&& (3 : Int32)), oR bp, oI (p2 &&& (7 : Int32)), oI vi14, oI vi17, oI vi20, oR b23, oR b30, oR b48, oR b81, oR b424, oI 0, oI 2, oI vi509, oI vi518, oU]) rfl ?_
                show oS p e below T445 (mkF m 250 #[oI p1, oI p2, oI p3, oI p4, oI p5, oI (p1 &&& (3 : Int32)), oR bp, oI (p2 &&& (7 : Int32)), oI vi14, oI vi17, oI vi20, oR b23, oR b30, oR b48, oR b81, oR b424, oI 0, oI 2, oI vi509, oI vi518, oU] []) _
                refine XS.iload X445.here hx rfl (hb hby at_250) rfl ?_
                refine XS.ifYes X445.here hx rfl (pc0 := 252) (pc' := 262) rfl (hb hby at_252) rfl ((if0 _ _).trans (teq (by decide : (0 : Int32) = (0 : Int32))).1) (by decide) (by decide) ?_
                refine XS.iload X445.here hx rfl (hb hby at_262) rfl ?_
                refine XS.ifYes X445.here hx rfl (pc0 := 264) (pc' := 276) rfl (hb hby at_264) rfl ((if0 _ _).trans (feq (by decide : ¬ ((2 : Int32) = (0 : Int32)))).2) (by decide) (by decide) ?_
                show oS p e below T445 (mkF m 276 #[oI p1, oI p2, oI p3, oI p4, oI p5, oI (p1 &&& (3 : Int32)), oR bp, oI (p2 &&& (7 : Int32)), oI vi14, oI vi17, oI vi20, oR b23, oR b30, oR b48, oR b81, oR b424, oI 0, oI 2, oI vi509, oI vi518, oU] []) _
                refine XS.iconst X445.here hx rfl (hb hby at_276) ?_
                refine XS.istore X445.here hx rfl (hb hby at_277) rfl (l' := #[oI p1, oI p2, oI p3, oI p4, oI p5, oI (p1 &&& (3 : Int32)), oR bp, oI (p2 &&& (7 : Int32)), oI vi14, oI vi17, oI vi20, oR b23, oR b30, oR b48, oR b81, oR b424, oI 0, oI 2, oI vi509, oI vi518, oI 0]) rfl ?_
                refine XS.aload X445.here hx rfl (hb hby at_279) rfl rfl ?_
                refine XS.aload X445.here hx rfl (hb hby at_281) rfl rfl ?_
                show oS p e below T445 (mkF m 283 #[oI p1, oI p2, oI p3, oI p4, oI p5, oI (p1 &&& (3 : Int32)), oR bp, oI (p2 &&& (7 : Int32)), oI vi14, oI vi17, oI vi20, oR b23, oR b30, oR b48, oR b81, oR b424, oI 0, oI 2, oI vi509, oI vi518, oI 0] [ow b424, ow bp]) _
                exact k)
              obtain ⟨cq527, kq527, q527a, q527b, q527c⟩ := isOf hZ rfl (Ebp.ext OL464.2)
              obtain ⟨_, _, ⟨T527, L527, k527, n527⟩, -, X527, hS527, hgr527, ⟨Lc527, hQ527, l527, y527, z527, cr527⟩, st527⟩ := X445.virtualBackS hx (y := (⟨"com/example/grantwright/grantwright/Bypass", "takes", "(Ljava/lang/String;)Z"⟩ : MethodName)) (z := (⟨"com/example/grantwright/grantwright/Bypass", "takes", "(Ljava/lang/String;)Z"⟩ : MethodName)) hown (mvT hZ (oW hw 37 rfl)) (mvT hZ (oW hw 38 rfl)) (notFace_of_selects (args := #[]) (mvT hZ (oW hw 40 rfl))) (mvT hZ (oW hw 40 rfl)) (mvT hZ (oW hw 39 rfl)) (by decide) (backOfSH (W := 0) (rm_tkC l Z a0 hw [] bp ti b424 tt445 kb445 Nx445 vs445 G1 T445.heap n0 OL464 O2 P5 FI hi Eq445 Fv445 f507 Va445) hZ (oW hw 41 rfl) (oW hw 5 rfl) (by decide) (by decide) hEL CH458) q527a q527c (g := (mkF m 283 #[oI p1, oI p2, oI p3, oI p4, oI p5, oI (p1 &&& (3 : Int32)), oR bp, oI (p2 &&& (7 : Int32)), oI vi14, oI vi17, oI vi20, oR b23, oR b30, oR b48, oR b81, oR b424, oI 0, oI 2, oI vi509, oI vi518, oI 0] [ow b424, ow bp])) rfl (by rw [hml]; rfl) (Steps.refl _) (argsL := [(.ref b424)]) (rest := []) (lenOf pd__Ljava_lang_String__Z rfl) rfl (by show 2 * 0 + _ ≤ _; exact Nat.le_of_eq rfl) (hb hby at_283) (fun _ _ => ⟨rfl, rfl, (by decide : 7 + 2 ≤ _), (by decide : 16 + 4 ≤ _)⟩)
              dsimp only [Pt.U, Pt.locs, Pt.cells, Pt.slots] at X527 l527 y527 z527 st527 hQ527 hS527 hgr527 cr527
              subst l527 y527 z527
              obtain ⟨X527, hS, hZ, hown⟩ := rebS hS (hk : _ ≤ T445.heap.size) X527 hS527 hgr527 hZ hown
              have hk : T527.heap.size ≤ T527.heap.size := Nat.le_refl _
              obtain ⟨rfl, N527q, Kq527⟩ := hQ527
              have N527 := Fr.app N445 N527q
              have sf528 := cr527.safe f459.lt sf452
              have sf529 := cr527.safe f460.lt sf453
              have sf530 := cr527.safe f461.lt sf454
              have sf531 := cr527.safe f462.lt sf455
              have sf532 := cr527.safe Eq445.lt sf456
              have sf533 := cr527.safe Va445.lt sf457
              have CH534 := cr527.1
              have CR534 := CR458.trans cr527
              have f535 := f459.keep Kq527 nin0
              have f536 := f460.keep Kq527 nin0
              have f537 := f461.keep Kq527 nin0
              have f538 := f462.keep Kq527 nin0
              have f539 := Eq445.keep Kq527
              have f540 := f507.keep Kq527 nin0
              have f541 := Fv445.keep Kq527 nin0
              have f542 := Va445.keep Kq527 nin0
              have OL543 := OL464.keep Kq527 all0
              have K544 : Keep h0 T527.heap [] := K465.trans Kq527 all0
              have pre545 : oL p e below T527 (mkF m 296 #[oI p1, oI p2, oI p3, oI p4, oI p5, oI (p1 &&& (3 : Int32)), oR bp, oI (p2 &&& (7 : Int32)), oI vi14, oI vi17, oI vi20, oR b23, oR b30, oR b48, oR b81, oR b424, oI 0, oI 2, oI vi509, oI vi518, oI 0] [oi 1]) s₁ (entryFrame m #[(.int p1), (.int p2), (.int p3), (.int p4), (.int p5)] maxLocals) := fun t k => pre526 t (by
                refine st527.trans ?_
                refine XS.iload X527.here hx rfl (hb hby at_286) rfl ?_
                refine XS.icmpNo X527.here hx rfl (hb hby at_288) rfl (teq (by decide : (0 : Int32) = (0 : Int32))).2 ?_
                refine XS.iconst X527.here hx rfl (hb hby at_291) ?_
                show oS p e below T527 (mkF m 292 #[oI p1, oI p2, oI p3, oI p4, oI p5, oI (p1 &&& (3 : Int32)), oR bp, oI (p2 &&& (7 : Int32)), oI vi14, oI vi17, oI vi20, oR b23, oR b30, oR b48, oR b81, oR b424, oI 0, oI 2, oI vi509, oI vi518, oI 0] [oi 1]) _
                refine XS.goto X527.here hx rfl (pc0 := 292) (pc' := 296) rfl (hb hby at_292) (by decide) (by decide) ?_
                exact k)
              obtain ⟨fs, hr, hrun, hended, hEnd⟩ := X527.leaveW hS hk (v := some (.int (1 : Int32))) (fun h => by rw [Bd.returns] at h; cases h)
              refine ⟨_, _, pre545 _ ?_, hrun, hended, _, _, rfl, ?_, (by show CHr Z consts_1 s.vm s.heap T527.vm T527.heap; rw [hh]; exact CR534.trans (CHv.at X527 hZ hEL CH534)), hEnd.1, hEnd.2.1, hEnd.2.2.1, hEnd.2.2.2.mono (by decide) (by decide)⟩
              ·
                show oS p e below T527 (mkF m 296 #[oI p1, oI p2, oI p3, oI p4, oI p5, oI (p1 &&& (3 : Int32)), oR bp, oI (p2 &&& (7 : Int32)), oI vi14, oI vi17, oI vi20, oR b23, oR b30, oR b48, oR b81, oR b424, oI 0, oI 2, oI vi509, oI vi518, oI 0] [oi 1]) _
                exact retN X527 hx (t := .boolean) Bd.returns (by simp) (hb hby at_296) hr
              ·
                show Q_rm0 Z p1 p2 p3 p4 p5 G1 w_NONE w_WHEN_NULL w_WHEN_INITIAL w_WHEN_INITIAL_OR_NULL h0 n0 _ T527.heap _
                exact ⟨rfl, N527⟩
          ·
            have pre546 : oL p e below T121 (mkF m 195 #[oI p1, oI p2, oI p3, oI p4, oI p5, oI (p1 &&& (3 : Int32)), oR bp, oI (p2 &&& (7 : Int32)), oI vi14, oI vi17, oI vi20, oR b23, oR b30, oR b48, oR b81, oU, oU, oU, oU, oU, oU] []) s₁ (entryFrame m #[(.int p1), (.int p2), (.int p3), (.int p4), (.int p5)] maxLocals) := fun t k => pre421 t (by
              refine XS.icmpYes X121.here hx rfl (pc0 := 172) (pc' := 195) rfl (hb hby at_172) rfl (feq hc422).2 (by decide) (by decide) ?_
              show oS p e below T121 (mkF m 195 #[oI p1, oI p2, oI p3, oI p4, oI p5, oI (p1 &&& (3 : Int32)), oR bp, oI (p2 &&& (7 : Int32)), oI vi14, oI vi17, oI vi20, oR b23, oR b30, oR b48, oR b81, oU, oU, oU, oU, oU, oU] []) _
              exact k)
            obtain ⟨T547, h547, X547, e547, E547, A547, D547, -, st547⟩ := newO X121 hx hZ hown (oW hw 8 rfl) (oW hw 9 rfl) (oW hw 10 rfl) e121 (g := (mkF m 195 #[oI p1, oI p2, oI p3, oI p4, oI p5, oI (p1 &&& (3 : Int32)), oR bp, oI (p2 &&& (7 : Int32)), oI vi14, oI vi17, oI vi20, oR b23, oR b30, oR b48, oR b81, oU, oU, oU, oU, oU, oU] [])) rfl (hb hby at_195) (by decide) (by decide)
            obtain ⟨b547, g547⟩ : ∃ z, z = h121.size := ⟨_, rfl⟩
            rw [← g547] at A547 D547 st547
            have sf548 : Safe Z consts_1 s.vm h121 b547 := Safe.new (Nat.le_of_eq g547.symm)
            have ne549 : b23 ≠ b547 := Nat.ne_of_lt (Nat.lt_of_lt_of_le f127.lt (Nat.le_of_eq g547.symm))
            have ne550 : b30 ≠ b547 := Nat.ne_of_lt (Nat.lt_of_lt_of_le f128.lt (Nat.le_of_eq g547.symm))
            have ne551 : b48 ≠ b547 := Nat.ne_of_lt (Nat.lt_of_lt_of_le f129.lt (Nat.le_of_eq g547.symm))
            have ne552 : b81 ≠ b547 := Nat.ne_of_lt (Nat.lt_of_lt_of_le V121.lt (Nat.le_of_eq g547.symm))
            have ge_b547 : n0 ≤ b547 := Nat.le_trans (OL130.1 ▸ OL130.2.1) (Nat.le_of_eq g547.symm)
            have sz_b547 : h0.size ≤ b547 := Nat.le_trans K131.1 (Nat.le_of_eq g547.symm)
            have sf553 := Safe.ext E547 CH126 sf122
            have sf554 := Safe.ext E547 CH126 sf123
            have sf555 := Safe.ext E547 CH126 sf124
            have sf556 := Safe.ext E547 CH126 sf125
            have sf557 := Safe.ext E547 CH126 sf548
            have cr558 := CHr.ext E547 CH126
            have CH558 := cr558.1
            have CR558 := CR126.trans cr558
            have f559 := f127.ext E547
            have f560 := f128.ext E547
            have f561 := f129.ext E547
            have f562 := V121.ext E547
            have OL563 := OL130.ext E547
            have K564 : Keep h0 h547 [] := K131.ext E547
            have hk := Nat.le_trans hk E547.1
            have f565 : Fld Z h547 b547 "java/lang/String" "coder" "B" (.int (0 : Int32)) := D547 (Or.inr (oW hw 34 rfl)) (ty := .byte) (by decide)
            have f566 : Fld Z h547 b547 "java/lang/String" "value" "[B" .null := D547 (Or.inr (oW hw 36 rfl)) (ty := (.array .byte)) (by decide)
            have pre567 : oL p e below T547 (mkF m 201 #[oI p1, oI p2, oI p3, oI p4, oI p5, oI (p1 &&& (3 : Int32)), oR bp, oI (p2 &&& (7 : Int32)), oI vi14, oI vi17, oI vi20, oR b23, oR b30, oR b48, oR b81, oU, oU, oU, oU, oU, oU] [ow b81, ow b547, ow b547]) s₁ (entryFrame m #[(.int p1), (.int p2), (.int p3), (.int p4), (.int p5)] maxLocals) := fun t k => pre546 t (by
              refine st547 _ ?_
              refine XS.dup X547.here hx rfl (hb hby at_198) rfl rfl ?_
              refine XS.aload X547.here hx rfl (hb hby at_199) rfl rfl ?_
              exact k)
            obtain ⟨_, _, ⟨T568, L568, k568, n568⟩, -, X568, ⟨Lc568, hQ568, l568, y568, z568⟩, st568⟩ := X547.specialBack hx (y := (⟨"java/lang/String", "<init>", "([C)V"⟩ : MethodName)) rfl hown (mvT hZ (oW hw 11 rfl)) (mvT hZ (oW hw 12 rfl)) (mvT hZ (oW hw 13 rfl)) (by decide) (backOf (W := 1) (rm_S3 l Z a0 hw [] b547 b81 k81 G1 vi14 vi17 vi20 h547 n0 OL563 AD HB LB O2 P5 ge_b547 A547 f566 f565 f562 hj14 hj17 hj20) hZ (oW hw 13 rfl) (oW hw 10 rfl) (by decide) (by decide)) (g := (mkF m 201 #[oI p1, oI p2, oI p3, oI p4, oI p5, oI (p1 &&& (3 : Int32)), oR bp, oI (p2 &&& (7 : Int32)), oI vi14, oI vi17, oI vi20, oR b23, oR b30, oR b48, oR b81, oU, oU, oU, oU, oU, oU] [ow b81, ow b547, ow b547])) rfl (by rw [hml]; rfl) (Steps.refl _) (a := b547) (argsL := [(.ref b81)]) (rest := [(.ref b547)]) (lenOf pd___C_V rfl) rfl (by show 2 * 0 + _ ≤ _; exact Nat.le_of_eq rfl) (hb hby at_201) (fun _ _ => ⟨rfl, e547, (by decide : 5 + 2 ≤ _), (by decide : 10 + 9 ≤ _)⟩)
            dsimp only [Pt.U, Pt.locs, Pt.cells, Pt.slots] at X568 l568 y568 z568 st568 hQ568
            subst l568 y568 z568
            obtain ⟨rfl, N568q, Kq568, Eq568, cd568, tt568, kb568, Nx568, vs568, Fc568, sq568, nx568, Fv568, Va568, ou568⟩ := hQ568
            have N568 := Fr.app N121 N568q
            have sf569 : Safe Z consts_1 s.vm h547 tt568 := Safe.new sq568
            have ne570 : b23 ≠ tt568 := Nat.ne_of_lt (Nat.lt_of_lt_of_le f559.lt sq568)
            have ne571 : b30 ≠ tt568 := Nat.ne_of_lt (Nat.lt_of_lt_of_le f560.lt sq568)
            have ne572 : b48 ≠ tt568 := Nat.ne_of_lt (Nat.lt_of_lt_of_le f561.lt sq568)
            have ne573 : b547 ≠ tt568 := Nat.ne_of_lt (Nat.lt_of_lt_of_le A547.lt sq568)
            have ne574 : b81 ≠ tt568 := Nat.ne_of_lt (Nat.lt_of_lt_of_le f562.lt sq568)
            have ge_tt568 : n0 ≤ tt568 := Nat.le_trans (OL563.1 ▸ OL563.2.1) sq568
            have sz_tt568 : h0.size ≤ tt568 := Nat.le_trans K564.1 sq568
            have sf575 := Safe.keep Kq568 ((allS sf557 all0) : ∀ x ∈ [b547], Safe Z consts_1 s.vm h547 x) CH558 sf553
            have sf576 := Safe.keep Kq568 ((allS sf557 all0) : ∀ x ∈ [b547], Safe Z consts_1 s.vm h547 x) CH558 sf554
            have sf577 := Safe.keep Kq568 ((allS sf557 all0) : ∀ x ∈ [b547], Safe Z consts_1 s.vm h547 x) CH558 sf555
            have sf578 := Safe.keep Kq568 ((allS sf557 all0) : ∀ x ∈ [b547], Safe Z consts_1 s.vm h547 x) CH558 sf556
            have sf579 := Safe.keep Kq568 ((allS sf557 all0) : ∀ x ∈ [b547], Safe Z consts_1 s.vm h547 x) CH558 sf557
            have sf580 := Safe.keep Kq568 ((allS sf557 all0) : ∀ x ∈ [b547], Safe Z consts_1 s.vm h547 x) CH558 sf569
            have cr581 := CHr.keep Kq568 ((allS sf557 all0) : ∀ x ∈ [b547], Safe Z consts_1 s.vm h547 x) CH558
            have CH581 := cr581.1
            have CR581 := CR558.trans cr581
            have hk := Nat.le_trans hk Kq568.1
            have f582 := f559.keep Kq568 (ninS ne549 nin0)
            have f583 := f560.keep Kq568 (ninS ne550 nin0)
            have f584 := f561.keep Kq568 (ninS ne551 nin0)
            have f585 := f562.keep Kq568 (ninS ne552 nin0)
            have f586 := A547.keep Kq568
            have OL587 := OL563.keep Kq568 (allS ge_b547 all0)
            have K588 : Keep h0 T568.heap [] := K564.trans Kq568 (allS (Or.inr sz_b547) all0)
            have pre589 : oL p e below T568 (mkF m 204 #[oI p1, oI p2, oI p3, oI p4, oI p5, oI (p1 &&& (3 : Int32)), oR bp, oI (p2 &&& (7 : Int32)), oI vi14, oI vi17, oI vi20, oR b23, oR b30, oR b48, oR b81, oU, oU, oU, oU, oU, oU] [ow b547]) s₁ (entryFrame m #[(.int p1), (.int p2), (.int p3), (.int p4), (.int p5)] maxLocals) := fun t k => pre567 t (by
              refine st568.trans ?_
              show oS p e below T568 (mkF m 204 #[oI p1, oI p2, oI p3, oI p4, oI p5, oI (p1 &&& (3 : Int32)), oR bp, oI (p2 &&& (7 : Int32)), oI vi14, oI vi17, oI vi20, oR b23, oR b30, oR b48, oR b81, oU, oU, oU, oU, oU, oU] [ow b547]) _
              exact k)
            rcases ou568 with ⟨hcd, hNx, hvs, -, -, -⟩ | ⟨hcd, -⟩
            ·
              have f590 := Fc568
              rw [hcd] at f590
              have f591 := Va568
              rw [hNx, hvs] at f591
              have pre592 : oL p e below T568 (mkF m 212 #[oI p1, oI p2, oI p3, oI p4, oI p5, oI (p1 &&& (3 : Int32)), oR bp, oI (p2 &&& (7 : Int32)), oI vi14, oI vi17, oI vi20, oR b23, oR b30, oR b48, oR b81, oR b547, oI 0, oI 3, oU, oU, oU] []) s₁ (entryFrame m #[(.int p1), (.int p2), (.int p3), (.int p4), (.int p5)] maxLocals) := fun t k => pre589 t (by
                refine XS.astore X568.here hx rfl (hb hby at_204) rfl rfl (l' := #[oI p1, oI p2, oI p3, oI p4, oI p5, oI (p1 &&& (3 : Int32)), oR bp, oI (p2 &&& (7 : Int32)), oI vi14, oI vi17, oI vi20, oR b23, oR b30, oR b48, oR b81, oR b547, oU, oU, oU, oU, oU]) rfl ?_
                refine XS.iconst X568.here hx rfl (hb hby at_206) ?_
                refine XS.istore X568.here hx rfl (hb hby at_207) rfl (l' := #[oI p1, oI p2, oI p3, oI p4, oI p5, oI (p1 &&& (3 : Int32)), oR bp, oI (p2 &&& (7 : Int32)), oI vi14, oI vi17, oI vi20, oR b23, oR b30, oR b48, oR b81, oR b547, oI 0, oU, oU, oU, oU]) rfl ?_
                refine XS.iconst X568.here hx rfl (hb hby at_209) ?_
                show oS p e below T568 (mkF m 210 #[oI p1, oI p2, oI p3, oI p4, oI p5, oI (p1 &&& (3 : Int32)), oR bp, oI (p2 &&& (7 : Int32)), oI vi14, oI vi17, oI vi20, oR b23, oR b30, oR b48, oR b81, oR b547, oI 0, oU, oU, oU, oU] [oi 3]) _
                refine XS.istore X568.here hx rfl (hb hby at_210) rfl (l' := #[oI p1, oI p2, oI p3, oI p4, oI p5, oI (p1 &&& (3 : Int32)), oR bp, oI (p2 &&& (7 : Int32)), oI vi14, oI vi17, oI vi20, oR b23, oR b30, oR b48, oR b81, oR b547, oI 0, oI 3, oU, oU, oU]) rfl ?_
                exact k)
              obtain ⟨vi593, hj593, pre593⟩ : ∃ vi593 : Int32, (vi593 = tn) ∧ oL p e below T568 (mkF m 229 #[oI p1, oI p2, oI p3, oI p4, oI p5, oI (p1 &&& (3 : Int32)), oR bp, oI (p2 &&& (7 : Int32)), oI vi14, oI vi17, oI vi20, oR b23, oR b30, oR b48, oR b81, oR b547, oI 0, oI 3, oU, oU, oU] [oi vi593]) s₁ (entryFrame m #[(.int p1), (.int p2), (.int p3), (.int p4), (.int p5)] maxLocals) := by
                have pre594 : oL p e below T568 (mkF m 215 #[oI p1, oI p2, oI p3, oI p4, oI p5, oI (p1 &&& (3 : Int32)), oR bp, oI (p2 &&& (7 : Int32)), oI vi14, oI vi17, oI vi20, oR b23, oR b30, oR b48, oR b81, oR b547, oI 0, oI 3, oU, oU, oU] [oi 1, oi (p1 &&& (3 : Int32))]) s₁ (entryFrame m #[(.int p1), (.int p2), (.int p3), (.int p4), (.int p5)] maxLocals) := fun t k => pre592 t (by
                  refine XS.iload X568.here hx rfl (hb hby at_212) rfl ?_
                  refine XS.iconst X568.here hx rfl (hb hby at_214) ?_
                  exact k)
                by_cases hc595 : (p1 &&& (3 : Int32)) = (1 : Int32)
                ·
                  have pre596 : oL p e below T568 (mkF m 229 #[oI p1, oI p2, oI p3, oI p4, oI p5, oI (p1 &&& (3 : Int32)), oR bp, oI (p2 &&& (7 : Int32)), oI vi14, oI vi17, oI vi20, oR b23, oR b30, oR b48, oR b81, oR b547, oI 0, oI 3, oU, oU, oU] [oi 1]) s₁ (entryFrame m #[(.int p1), (.int p2), (.int p3), (.int p4), (.int p5)] maxLocals) := fun t k => pre594 t (by
                    refine XS.icmpYes X568.here hx rfl (pc0 := 215) (pc' := 224) rfl (hb hby at_215) rfl (teq hc595).1 (by decide) (by decide) ?_
                    show oS p e below T568 (mkF m 224 #[oI p1, oI p2, oI p3, oI p4, oI p5, oI (p1 &&& (3 : Int32)), oR bp, oI (p2 &&& (7 : Int32)), oI vi14, oI vi17, oI vi20, oR b23, oR b30, oR b48, oR b81, oR b547, oI 0, oI 3, oU, oU, oU] []) _
                    refine XS.iconst X568.here hx rfl (hb hby at_224) ?_
                    refine XS.goto X568.here hx rfl (pc0 := 225) (pc' := 229) rfl (hb hby at_225) (by decide) (by decide) ?_
                    exact k)
                  exact ⟨(1 : Int32), (by rw [htn]; simp [hc595]), pre596⟩
                ·
                  have pre597 : oL p e below T568 (mkF m 221 #[oI p1, oI p2, oI p3, oI p4, oI p5, oI (p1 &&& (3 : Int32)), oR bp, oI (p2 &&& (7 : Int32)), oI vi14, oI vi17, oI vi20, oR b23, oR b30, oR b48, oR b81, oR b547, oI 0, oI 3, oU, oU, oU] [oi 3, oi (p1 &&& (3 : Int32))]) s₁ (entryFrame m #[(.int p1), (.int p2), (.int p3), (.int p4), (.int p5)] maxLocals) := fun t k => pre594 t (by
                    refine XS.icmpNo X568.here hx rfl (hb hby at_215) rfl (feq hc595).1 ?_
                    show oS p e below T568 (mkF m 218 #[oI p1, oI p2, oI p3, oI p4, oI p5, oI (p1 &&& (3 : Int32)), oR bp, oI (p2 &&& (7 : Int32)), oI vi14, oI vi17, oI vi20, oR b23, oR b30, oR b48, oR b81, oR b547, oI 0, oI 3, oU, oU, oU] []) _
                    refine XS.iload X568.here hx rfl (hb hby at_218) rfl ?_
                    refine XS.iconst X568.here hx rfl (hb hby at_220) ?_
                    exact k)
                  by_cases hc598 : (p1 &&& (3 : Int32)) = (3 : Int32)
                  ·
                    have pre599 : oL p e below T568 (mkF m 229 #[oI p1, oI p2, oI p3, oI p4, oI p5, oI (p1 &&& (3 : Int32)), oR bp, oI (p2 &&& (7 : Int32)), oI vi14, oI vi17, oI vi20, oR b23, oR b30, oR b48, oR b81, oR b547, oI 0, oI 3, oU, oU, oU] [oi 1]) s₁ (entryFrame m #[(.int p1), (.int p2), (.int p3), (.int p4), (.int p5)] maxLocals) := fun t k => pre597 t (by
                      refine XS.icmpNo X568.here hx rfl (hb hby at_221) rfl (teq hc598).2 ?_
                      refine XS.iconst X568.here hx rfl (hb hby at_224) ?_
                      show oS p e below T568 (mkF m 225 #[oI p1, oI p2, oI p3, oI p4, oI p5, oI (p1 &&& (3 : Int32)), oR bp, oI (p2 &&& (7 : Int32)), oI vi14, oI vi17, oI vi20, oR b23, oR b30, oR b48, oR b81, oR b547, oI 0, oI 3, oU, oU, oU] [oi 1]) _
                      refine XS.goto X568.here hx rfl (pc0 := 225) (pc' := 229) rfl (hb hby at_225) (by decide) (by decide) ?_
                      exact k)
                    exact ⟨(1 : Int32), (by rw [htn]; simp [hc595, hc598]), pre599⟩
                  ·
                    have pre600 : oL p e below T568 (mkF m 229 #[oI p1, oI p2, oI p3, oI p4, oI p5, oI (p1 &&& (3 : Int32)), oR bp, oI (p2 &&& (7 : Int32)), oI vi14, oI vi17, oI vi20, oR b23, oR b30, oR b48, oR b81, oR b547, oI 0, oI 3, oU, oU, oU] [oi 0]) s₁ (entryFrame m #[(.int p1), (.int p2), (.int p3), (.int p4), (.int p5)] maxLocals) := fun t k => pre597 t (by
                      refine XS.icmpYes X568.here hx rfl (pc0 := 221) (pc' := 228) rfl (hb hby at_221) rfl (feq hc598).2 (by decide) (by decide) ?_
                      refine XS.iconst X568.here hx rfl (hb hby at_228) ?_
                      show oS p e below T568 (mkF m 229 #[oI p1, oI p2, oI p3, oI p4, oI p5, oI (p1 &&& (3 : Int32)), oR bp, oI (p2 &&& (7 : Int32)), oI vi14, oI vi17, oI vi20, oR b23, oR b30, oR b48, oR b81, oR b547, oI 0, oI 3, oU, oU, oU] [oi 0]) _
                      exact k)
                    exact ⟨(0 : Int32), (by rw [htn]; simp [hc595, hc598]), pre600⟩
              have pre601 : oL p e below T568 (mkF m 231 #[oI p1, oI p2, oI p3, oI p4, oI p5, oI (p1 &&& (3 : Int32)), oR bp, oI (p2 &&& (7 : Int32)), oI vi14, oI vi17, oI vi20, oR b23, oR b30, oR b48, oR b81, oR b547, oI 0, oI 3, oI vi593, oU, oU] []) s₁ (entryFrame m #[(.int p1), (.int p2), (.int p3), (.int p4), (.int p5)] maxLocals) := fun t k => pre593 t (by
                refine XS.istore X568.here hx rfl (hb hby at_229) rfl (l' := #[oI p1, oI p2, oI p3, oI p4, oI p5, oI (p1 &&& (3 : Int32)), oR bp, oI (p2 &&& (7 : Int32)), oI vi14, oI vi17, oI vi20, oR b23, oR b30, oR b48, oR b81, oR b547, oI 0, oI 3, oI vi593, oU, oU]) rfl ?_
                exact k)
              obtain ⟨vi602, hj602, pre602⟩ : ∃ vi602 : Int32, (vi602 = ti) ∧ oL p e below T568 (mkF m 248 #[oI p1, oI p2, oI p3, oI p4, oI p5, oI (p1 &&& (3 : Int32)), oR bp, oI (p2 &&& (7 : Int32)), oI vi14, oI vi17, oI vi20, oR b23, oR b30, oR b48, oR b81, oR b547, oI 0, oI 3, oI vi593, oU, oU] [oi vi602]) s₁ (entryFrame m #[(.int p1), (.int p2), (.int p3), (.int p4), (.int p5)] maxLocals) := by
                have pre603 : oL p e below T568 (mkF m 234 #[oI p1, oI p2, oI p3, oI p4, oI p5, oI (p1 &&& (3 : Int32)), oR bp, oI (p2 &&& (7 : Int32)), oI vi14, oI vi17, oI vi20, oR b23, oR b30, oR b48, oR b81, oR b547, oI 0, oI 3, oI vi593, oU, oU] [oi 2, oi (p1 &&& (3 : Int32))]) s₁ (entryFrame m #[(.int p1), (.int p2), (.int p3), (.int p4), (.int p5)] maxLocals) := fun t k => pre601 t (by
                  refine XS.iload X568.here hx rfl (hb hby at_231) rfl ?_
                  refine XS.iconst X568.here hx rfl (hb hby at_233) ?_
                  show oS p e below T568 (mkF m 234 #[oI p1, oI p2, oI p3, oI p4, oI p5, oI (p1 &&& (3 : Int32)), oR bp, oI (p2 &&& (7 : Int32)), oI vi14, oI vi17, oI vi20, oR b23, oR b30, oR b48, oR b81, oR b547, oI 0, oI 3, oI vi593, oU, oU] [oi 2, oi (p1 &&& (3 : Int32))]) _
                  exact k)
                by_cases hc604 : (p1 &&& (3 : Int32)) = (2 : Int32)
                ·
                  have pre605 : oL p e below T568 (mkF m 248 #[oI p1, oI p2, oI p3, oI p4, oI p5, oI (p1 &&& (3 : Int32)), oR bp, oI (p2 &&& (7 : Int32)), oI vi14, oI vi17, oI vi20, oR b23, oR b30, oR b48, oR b81, oR b547, oI 0, oI 3, oI vi593, oU, oU] [oi 1]) s₁ (entryFrame m #[(.int p1), (.int p2), (.int p3), (.int p4), (.int p5)] maxLocals) := fun t k => pre603 t (by
                    refine XS.icmpYes X568.here hx rfl (pc0 := 234) (pc' := 243) rfl (hb hby at_234) rfl (teq hc604).1 (by decide) (by decide) ?_
                    refine XS.iconst X568.here hx rfl (hb hby at_243) ?_
                    refine XS.goto X568.here hx rfl (pc0 := 244) (pc' := 248) rfl (hb hby at_244) (by decide) (by decide) ?_
                    exact k)
                  exact ⟨(1 : Int32), (by rw [hti]; simp [hc604]), pre605⟩
                ·
                  have pre606 : oL p e below T568 (mkF m 240 #[oI p1, oI p2, oI p3, oI p4, oI p5, oI (p1 &&& (3 : Int32)), oR bp, oI (p2 &&& (7 : Int32)), oI vi14, oI vi17, oI vi20, oR b23, oR b30, oR b48, oR b81, oR b547, oI 0, oI 3, oI vi593, oU, oU] [oi 3, oi (p1 &&& (3 : Int32))]) s₁ (entryFrame m #[(.int p1), (.int p2), (.int p3), (.int p4), (.int p5)] maxLocals) := fun t k => pre603 t (by
                    refine XS.icmpNo X568.here hx rfl (hb hby at_234) rfl (feq hc604).1 ?_
                    refine XS.iload X568.here hx rfl (hb hby at_237) rfl ?_
                    refine XS.iconst X568.here hx rfl (hb hby at_239) ?_
                    exact k)
                  by_cases hc607 : (p1 &&& (3 : Int32)) = (3 : Int32)
                  ·
                    have pre608 : oL p e below T568 (mkF m 248 #[oI p1, oI p2, oI p3, oI p4, oI p5, oI (p1 &&& (3 : Int32)), oR bp, oI (p2 &&& (7 : Int32)), oI vi14, oI vi17, oI vi20, oR b23, oR b30, oR b48, oR b81, oR b547, oI 0, oI 3, oI vi593, oU, oU] [oi 1]) s₁ (entryFrame m #[(.int p1), (.int p2), (.int p3), (.int p4), (.int p5)] maxLocals) := fun t k => pre606 t (by
                      refine XS.icmpNo X568.here hx rfl (hb hby at_240) rfl (teq hc607).2 ?_
                      show oS p e below T568 (mkF m 243 #[oI p1, oI p2, oI p3, oI p4, oI p5, oI (p1 &&& (3 : Int32)), oR bp, oI (p2 &&& (7 : Int32)), oI vi14, oI vi17, oI vi20, oR b23, oR b30, oR b48, oR b81, oR b547, oI 0, oI 3, oI vi593, oU, oU] []) _
                      refine XS.iconst X568.here hx rfl (hb hby at_243) ?_
                      refine XS.goto X568.here hx rfl (pc0 := 244) (pc' := 248) rfl (hb hby at_244) (by decide) (by decide) ?_
                      exact k)
                    exact ⟨(1 : Int32), (by rw [hti]; simp [hc604, hc607]), pre608⟩
                  ·
                    have pre609 : oL p e below T568 (mkF m 248 #[oI p1, oI p2, oI p3, oI p4, oI p5, oI (p1 &&& (3 : Int32)), oR bp, oI (p2 &&& (7 : Int32)), oI vi14, oI vi17, oI vi20, oR b23, oR b30, oR b48, oR b81, oR b547, oI 0, oI 3, oI vi593, oU, oU] [oi 0]) s₁ (entryFrame m #[(.int p1), (.int p2), (.int p3), (.int p4), (.int p5)] maxLocals) := fun t k => pre606 t (by
                      refine XS.icmpYes X568.here hx rfl (pc0 := 240) (pc' := 247) rfl (hb hby at_240) rfl (feq hc607).2 (by decide) (by decide) ?_
                      show oS p e below T568 (mkF m 247 #[oI p1, oI p2, oI p3, oI p4, oI p5, oI (p1 &&& (3 : Int32)), oR bp, oI (p2 &&& (7 : Int32)), oI vi14, oI vi17, oI vi20, oR b23, oR b30, oR b48, oR b81, oR b547, oI 0, oI 3, oI vi593, oU, oU] []) _
                      refine XS.iconst X568.here hx rfl (hb hby at_247) ?_
                      exact k)
                    exact ⟨(0 : Int32), (by rw [hti]; simp [hc604, hc607]), pre609⟩
              have pre610 : oL p e below T568 (mkF m 283 #[oI p1, oI p2, oI p3, oI p4, oI p5, oI (p1 &&& (3 : Int32)), oR bp, oI (p2 &&& (7 : Int32)), oI vi14, oI vi17, oI vi20, oR b23, oR b30, oR b48, oR b81, oR b547, oI 0, oI 3, oI vi593, oI vi602, oI 0] [ow b547, ow bp]) s₁ (entryFrame m #[(.int p1), (.int p2), (.int p3), (.int p4), (.int p5)] maxLocals) := fun t k => pre602 t (by
                refine XS.istore X568.here hx rfl (hb hby at_248) rfl (l' := #[oI p1, oI p2, oI p3, oI p4, oI p5, oI (p1 &&& (3 : Int32)), oR bp, oI (p2 &&& (7 : Int32)), oI vi14, oI vi17, oI vi20, oR b23, oR b30, oR b48, oR b81, oR b547, oI 0, oI 3, oI vi593, oI vi602, oU]) rfl ?_
                refine XS.iload X568.here hx rfl (hb hby at_250) rfl ?_
                show oS p e below T568 (mkF m 252 #[oI p1, oI p2, oI p3, oI p4, oI p5, oI (p1 &&& (3 : Int32)), oR bp, oI (p2 &&& (7 : Int32)), oI vi14, oI vi17, oI vi20, oR b23, oR b30, oR b48, oR b81, oR b547, oI 0, oI 3, oI vi593, oI vi602, oU] [oi 0]) _
                refine XS.ifYes X568.here hx rfl (pc0 := 252) (pc' := 262) rfl (hb hby at_252) rfl ((if0 _ _).trans (teq (by decide : (0 : Int32) = (0 : Int32))).1) (by decide) (by decide) ?_
                refine XS.iload X568.here hx rfl (hb hby at_262) rfl ?_
                refine XS.ifYes X568.here hx rfl (pc0 := 264) (pc' := 276) rfl (hb hby at_264) rfl ((if0 _ _).trans (feq (by decide : ¬ ((3 : Int32) = (0 : Int32)))).2) (by decide) (by decide) ?_
                refine XS.iconst X568.here hx rfl (hb hby at_276) ?_
                show oS p e below T568 (mkF m 277 #[oI p1, oI p2, oI p3, oI p4, oI p5, oI (p1 &&& (3 : Int32)), oR bp, oI (p2 &&& (7 : Int32)), oI vi14, oI vi17, oI vi20, oR b23, oR b30, oR b48, oR b81, oR b547, oI 0, oI 3, oI vi593, oI vi602, oU] [oi 0]) _
                refine XS.istore X568.here hx rfl (hb hby at_277) rfl (l' := #[oI p1, oI p2, oI p3, oI p4, oI p5, oI (p1 &&& (3 : Int32)), oR bp, oI (p2 &&& (7 : Int32)), oI vi14, oI vi17, oI vi20, oR b23, oR b30, oR b48, oR b81, oR b547, oI 0, oI 3, oI vi593, oI vi602, oI 0]) rfl ?_
                refine XS.aload X568.here hx rfl (hb hby at_279) rfl rfl ?_
                refine XS.aload X568.here hx rfl (hb hby at_281) rfl rfl ?_
                exact k)
              obtain ⟨cq611, kq611, q611a, q611b, q611c⟩ := isOf hZ rfl (Ebp.ext OL587.2)
              obtain ⟨_, _, ⟨T611, L611, k611, n611⟩, -, X611, hS611, hgr611, ⟨Lc611, hQ611, l611, y611, z611, cr611⟩, st611⟩ := X568.virtualBackS hx (y := (⟨"com/example/grantwright/grantwright/Bypass", "takes", "(Ljava/lang/String;)Z"⟩ : MethodName)) (z := (⟨"com/example/grantwright/grantwright/Bypass", "takes", "(Ljava/lang/String;)Z"⟩ : MethodName)) hown (mvT hZ (oW hw 37 rfl)) (mvT hZ (oW hw 38 rfl)) (notFace_of_selects (args := #[]) (mvT hZ (oW hw 40 rfl))) (mvT hZ (oW hw 40 rfl)) (mvT hZ (oW hw 39 rfl)) (by decide) (backOfSH (W := 0) (rm_tkB3 l Z a0 hw [] bp ti b547 tt568 kb568 [(.int (nar .byte (vi14.toInt8.toInt32))), (.int (nar .byte (vi17.toInt8.toInt32))), (.int (nar .byte (vi20.toInt8.toInt32)))] G1 T568.heap n0 OL587 O2 P5 FI hi Eq568 Fv568 f590 f591) hZ (oW hw 41 rfl) (oW hw 5 rfl) (by decide) (by decide) hEL CH581) q611a q611c (g := (mkF m 283 #[oI p1, oI p2, oI p3, oI p4, oI p5, oI (p1 &&& (3 : Int32)), oR bp, oI (p2 &&& (7 : Int32)), oI vi14, oI vi17, oI vi20, oR b23, oR b30, oR b48, oR b81, oR b547, oI 0, oI 3, oI vi593, oI vi602, oI 0] [ow b547, ow bp])) rfl (by rw [hml]; rfl) (Steps.refl _) (argsL := [(.ref b547)]) (rest := []) (lenOf pd__Ljava_lang_String__Z rfl) rfl (by show 2 * 0 + _ ≤ _; exact Nat.le_of_eq rfl) (hb hby at_283) (fun _ _ => ⟨rfl, rfl, (by decide : 7 + 2 ≤ _), (by decide : 19 + 4 ≤ _)⟩)
              dsimp only [Pt.U, Pt.locs, Pt.cells, Pt.slots] at X611 l611 y611 z611 st611 hQ611 hS611 hgr611 cr611
              subst l611 y611 z611
              obtain ⟨X611, hS, hZ, hown⟩ := rebS hS (hk : _ ≤ T568.heap.size) X611 hS611 hgr611 hZ hown
              have hk : T611.heap.size ≤ T611.heap.size := Nat.le_refl _
              obtain ⟨rfl, N611q, Kq611⟩ := hQ611
              have N611 := Fr.app N568 N611q
              have sf612 := cr611.safe f582.lt sf575
              have sf613 := cr611.safe f583.lt sf576
              have sf614 := cr611.safe f584.lt sf577
              have sf615 := cr611.safe f585.lt sf578
              have sf616 := cr611.safe Eq568.lt sf579
              have sf617 := cr611.safe f591.lt sf580
              have CH618 := cr611.1
              have CR618 := CR581.trans cr611
              have f619 := f582.keep Kq611 nin0
              have f620 := f583.keep Kq611 nin0
              have f621 := f584.keep Kq611 nin0
              have f622 := f585.keep Kq611 nin0
              have f623 := Eq568.keep Kq611
              have f624 := f590.keep Kq611 nin0
              have f625 := Fv568.keep Kq611 nin0
              have f626 := f591.keep Kq611 nin0
              have OL627 := OL587.keep Kq611 all0
              have K628 : Keep h0 T611.heap [] := K588.trans Kq611 all0
              have pre629 : oL p e below T611 (mkF m 296 #[oI p1, oI p2, oI p3, oI p4, oI p5, oI (p1 &&& (3 : Int32)), oR bp, oI (p2 &&& (7 : Int32)), oI vi14, oI vi17, oI vi20, oR b23, oR b30, oR b48, oR b81, oR b547, oI 0, oI 3, oI vi593, oI vi602, oI 0] [oi 1]) s₁ (entryFrame m #[(.int p1), (.int p2), (.int p3), (.int p4), (.int p5)] maxLocals) := fun t k => pre610 t (by
                refine st611.trans ?_
                show oS p e below T611 (mkF m 286 #[oI p1, oI p2, oI p3, oI p4, oI p5, oI (p1 &&& (3 : Int32)), oR bp, oI (p2 &&& (7 : Int32)), oI vi14, oI vi17, oI vi20, oR b23, oR b30, oR b48, oR b81, oR b547, oI 0, oI 3, oI vi593, oI vi602, oI 0] [oi 0]) _
                refine XS.iload X611.here hx rfl (hb hby at_286) rfl ?_
                refine XS.icmpNo X611.here hx rfl (hb hby at_288) rfl (teq (by decide : (0 : Int32) = (0 : Int32))).2 ?_
                refine XS.iconst X611.here hx rfl (hb hby at_291) ?_
                refine XS.goto X611.here hx rfl (pc0 := 292) (pc' := 296) rfl (hb hby at_292) (by decide) (by decide) ?_
                show oS p e below T611 (mkF m 296 #[oI p1, oI p2, oI p3, oI p4, oI p5, oI (p1 &&& (3 : Int32)), oR bp, oI (p2 &&& (7 : Int32)), oI vi14, oI vi17, oI vi20, oR b23, oR b30, oR b48, oR b81, oR b547, oI 0, oI 3, oI vi593, oI vi602, oI 0] [oi 1]) _
                exact k)
              obtain ⟨fs, hr, hrun, hended, hEnd⟩ := X611.leaveW hS hk (v := some (.int (1 : Int32))) (fun h => by rw [Bd.returns] at h; cases h)
              refine ⟨_, _, pre629 _ ?_, hrun, hended, _, _, rfl, ?_, (by show CHr Z consts_1 s.vm s.heap T611.vm T611.heap; rw [hh]; exact CR618.trans (CHv.at X611 hZ hEL CH618)), hEnd.1, hEnd.2.1, hEnd.2.2.1, hEnd.2.2.2.mono (by decide) (by decide)⟩
              ·
                show oS p e below T611 (mkF m 296 #[oI p1, oI p2, oI p3, oI p4, oI p5, oI (p1 &&& (3 : Int32)), oR bp, oI (p2 &&& (7 : Int32)), oI vi14, oI vi17, oI vi20, oR b23, oR b30, oR b48, oR b81, oR b547, oI 0, oI 3, oI vi593, oI vi602, oI 0] [oi 1]) _
                exact retN X611 hx (t := .boolean) Bd.returns (by simp) (hb hby at_296) hr
              ·
                show Q_rm0 Z p1 p2 p3 p4 p5 G1 w_NONE w_WHEN_NULL w_WHEN_INITIAL w_WHEN_INITIAL_OR_NULL h0 n0 _ T611.heap _
                exact ⟨rfl, N611⟩
            ·
              have f630 := Fc568
              rw [hcd] at f630
              have pre631 : oL p e below T568 (mkF m 212 #[oI p1, oI p2, oI p3, oI p4, oI p5, oI (p1 &&& (3 : Int32)), oR bp, oI (p2 &&& (7 : Int32)), oI vi14, oI vi17, oI vi20, oR b23, oR b30, oR b48, oR b81, oR b547, oI 0, oI 3, oU, oU, oU] []) s₁ (entryFrame m #[(.int p1), (.int p2), (.int p3), (.int p4), (.int p5)] maxLocals) := fun t k => pre589 t (by
                refine XS.astore X568.here hx rfl (hb hby at_204) rfl rfl (l' := #[oI p1, oI p2, oI p3, oI p4, oI p5, oI (p1 &&& (3 : Int32)), oR bp, oI (p2 &&& (7 : Int32)), oI vi14, oI vi17, oI vi20, oR b23, oR b30, oR b48, oR b81, oR b547, oU, oU, oU, oU, oU]) rfl ?_
                refine XS.iconst X568.here hx rfl (hb hby at_206) ?_
                refine XS.istore X568.here hx rfl (hb hby at_207) rfl (l' := #[oI p1, oI p2, oI p3, oI p4, oI p5, oI (p1 &&& (3 : Int32)), oR bp, oI (p2 &&& (7 : Int32)), oI vi14, oI vi17, oI vi20, oR b23, oR b30, oR b48, oR b81, oR b547, oI 0, oU, oU, oU, oU]) rfl ?_
                refine XS.iconst X568.here hx rfl (hb hby at_209) ?_
                show oS p e below T568 (mkF m 210 #[oI p1, oI p2, oI p3, oI p4, oI p5, oI (p1 &&& (3 : Int32)), oR bp, oI (p2 &&& (7 : Int32)), oI vi14, oI vi17, oI vi20, oR b23, oR b30, oR b48, oR b81, oR b547, oI 0, oU, oU, oU, oU] [oi 3]) _
                refine XS.istore X568.here hx rfl (hb hby at_210) rfl (l' := #[oI p1, oI p2, oI p3, oI p4, oI p5, oI (p1 &&& (3 : Int32)), oR bp, oI (p2 &&& (7 : Int32)), oI vi14, oI vi17, oI vi20, oR b23, oR b30, oR b48, oR b81, oR b547, oI 0, oI 3, oU, oU, oU]) rfl ?_
                exact k)
              obtain ⟨vi632, hj632, pre632⟩ : ∃ vi632 : Int32, (vi632 = tn) ∧ oL p e below T568 (mkF m 229 #[oI p1, oI p2, oI p3, oI p4, oI p5, oI (p1 &&& (3 : Int32)), oR bp, oI (p2 &&& (7 : Int32)), oI vi14, oI vi17, oI vi20, oR b23, oR b30, oR b48, oR b81, oR b547, oI 0, oI 3, oU, oU, oU] [oi vi632]) s₁ (entryFrame m #[(.int p1), (.int p2), (.int p3), (.int p4), (.int p5)] maxLocals) := by
                have pre633 : oL p e below T568 (mkF m 215 #[oI p1, oI p2, oI p3, oI p4, oI p5, oI (p1 &&& (3 : Int32)), oR bp, oI (p2 &&& (7 : Int32)), oI vi14, oI vi17, oI vi20, oR b23, oR b30, oR b48, oR b81, oR b547, oI 0, oI 3, oU, oU, oU] [oi 1, oi (p1 &&& (3 : Int32))]) s₁ (entryFrame m #[(.int p1), (.int p2), (.int p3), (.int p4), (.int p5)] maxLocals) := fun t k => pre631 t (by
                  refine XS.iload X568.here hx rfl (hb hby at_212) rfl ?_
                  refine XS.iconst X568.here hx rfl (hb hby at_214) ?_
                  exact k)
                by_cases hc634 : (p1 &&& (3 : Int32)) = (1 : Int32)
                ·
                  have pre635 : oL p e below T568 (mkF m 229 #[oI p1, oI p2, oI p3, oI p4, oI p5, oI (p1 &&& (3 : Int32)), oR bp, oI (p2 &&& (7 : Int32)), oI vi14, oI vi17, oI vi20, oR b23, oR b30, oR b48, oR b81, oR b547, oI 0, oI 3, oU, oU, oU] [oi 1]) s₁ (entryFrame m #[(.int p1), (.int p2), (.int p3), (.int p4), (.int p5)] maxLocals) := fun t k => pre633 t (by
                    refine XS.icmpYes X568.here hx rfl (pc0 := 215) (pc' := 224) rfl (hb hby at_215) rfl (teq hc634).1 (by decide) (by decide) ?_
                    show oS p e below T568 (mkF m 224 #[oI p1, oI p2, oI p3, oI p4, oI p5, oI (p1 &&& (3 : Int32)), oR bp, oI (p2 &&& (7 : Int32)), oI vi14, oI vi17, oI vi20, oR b23, oR b30, oR b48, oR b81, oR b547, oI 0, oI 3, oU, oU, oU] []) _
                    refine XS.iconst X568.here hx rfl (hb hby at_224) ?_
                    refine XS.goto X568.here hx rfl (pc0 := 225) (pc' := 229) rfl (hb hby at_225) (by decide) (by decide) ?_
                    exact k)
                  exact ⟨(1 : Int32), (by rw [htn]; simp [hc634]), pre635⟩
                ·
                  have pre636 : oL p e below T568 (mkF m 221 #[oI p1, oI p2, oI p3, oI p4, oI p5, oI (p1 &&& (3 : Int32)), oR bp, oI (p2 &&& (7 : Int32)), oI vi14, oI vi17, oI vi20, oR b23, oR b30, oR b48, oR b81, oR b547, oI 0, oI 3, oU, oU, oU] [oi 3, oi (p1 &&& (3 : Int32))]) s₁ (entryFrame m #[(.int p1), (.int p2), (.int p3), (.int p4), (.int p5)] maxLocals) := fun t k => pre633 t (by
                    refine XS.icmpNo X568.here hx rfl (hb hby at_215) rfl (feq hc634).1 ?_
                    show oS p e below T568 (mkF m 218 #[oI p1, oI p2, oI p3, oI p4, oI p5, oI (p1 &&& (3 : Int32)), oR bp, oI (p2 &&& (7 : Int32)), oI vi14, oI vi17, oI vi20, oR b23, oR b30, oR b48, oR b81, oR b547, oI 0, oI 3, oU, oU, oU] []) _
                    refine XS.iload X568.here hx rfl (hb hby at_218) rfl ?_
                    refine XS.iconst X568.here hx rfl (hb hby at_220) ?_
                    exact k)
                  by_cases hc637 : (p1 &&& (3 : Int32)) = (3 : Int32)
                  ·
                    have pre638 : oL p e below T568 (mkF m 229 #[oI p1, oI p2, oI p3, oI p4, oI p5, oI (p1 &&& (3 : Int32)), oR bp, oI (p2 &&& (7 : Int32)), oI vi14, oI vi17, oI vi20, oR b23, oR b30, oR b48, oR b81, oR b547, oI 0, oI 3, oU, oU, oU] [oi 1]) s₁ (entryFrame m #[(.int p1), (.int p2), (.int p3), (.int p4), (.int p5)] maxLocals) := fun t k => pre636 t (by
                      refine XS.icmpNo X568.here hx rfl (hb hby at_221) rfl (teq hc637).2 ?_
                      refine XS.iconst X568.here hx rfl (hb hby at_224) ?_
                      show oS p e below T568 (mkF m 225 #[oI p1, oI p2, oI p3, oI p4, oI p5, oI (p1 &&& (3 : Int32)), oR bp, oI (p2 &&& (7 : Int32)), oI vi14, oI vi17, oI vi20, oR b23, oR b30, oR b48, oR b81, oR b547, oI 0, oI 3, oU, oU, oU] [oi 1]) _
                      refine XS.goto X568.here hx rfl (pc0 := 225) (pc' := 229) rfl (hb hby at_225) (by decide) (by decide) ?_
                      exact k)
                    exact ⟨(1 : Int32), (by rw [htn]; simp [hc634, hc637]), pre638⟩
                  ·
                    have pre639 : oL p e below T568 (mkF m 229 #[oI p1, oI p2, oI p3, oI p4, oI p5, oI (p1 &&& (3 : Int32)), oR bp, oI (p2 &&& (7 : Int32)), oI vi14, oI vi17, oI vi20, oR b23, oR b30, oR b48, oR b81, oR b547, oI 0, oI 3, oU, oU, oU] [oi 0]) s₁ (entryFrame m #[(.int p1), (.int p2), (.int p3), (.int p4), (.int p5)] maxLocals) := fun t k => pre636 t (by
                      refine XS.icmpYes X568.here hx rfl (pc0 := 221) (pc' := 228) rfl (hb hby at_221) rfl (feq hc637).2 (by decide) (by decide) ?_
                      refine XS.iconst X568.here hx rfl (hb hby at_228) ?_
                      show oS p e below T568 (mkF m 229 #[oI p1, oI p2, oI p3, oI p4, oI p5, oI (p1 &&& (3 : Int32)), oR bp, oI (p2 &&& (7 : Int32)), oI vi14, oI vi17, oI vi20, oR b23, oR b30, oR b48, oR b81, oR b547, oI 0, oI 3, oU, oU, oU] [oi 0]) _
                      exact k)
                    exact ⟨(0 : Int32), (by rw [htn]; simp [hc634, hc637]), pre639⟩
              have pre640 : oL p e below T568 (mkF m 231 #[oI p1, oI p2, oI p3, oI p4, oI p5, oI (p1 &&& (3 : Int32)), oR bp, oI (p2 &&& (7 : Int32)), oI vi14, oI vi17, oI vi20, oR b23, oR b30, oR b48, oR b81, oR b547, oI 0, oI 3, oI vi632, oU, oU] []) s₁ (entryFrame m #[(.int p1), (.int p2), (.int p3), (.int p4), (.int p5)] maxLocals) := fun t k => pre632 t (by
                refine XS.istore X568.here hx rfl (hb hby at_229) rfl (l' := #[oI p1, oI p2, oI p3, oI p4, oI p5, oI (p1 &&& (3 : Int32)), oR bp, oI (p2 &&& (7 : Int32)), oI vi14, oI vi17, oI vi20, oR b23, oR b30, oR b48, oR b81, oR b547, oI 0, oI 3, oI vi632, oU, oU]) rfl ?_
                exact k)
              obtain ⟨vi641, hj641, pre641⟩ : ∃ vi641 : Int32, (vi641 = ti) ∧ oL p e below T568 (mkF m 248 #[oI p1, oI p2, oI p3, oI p4, oI p5, oI (p1 &&& (3 : Int32)), oR bp, oI (p2 &&& (7 : Int32)), oI vi14, oI vi17, oI vi20, oR b23, oR b30, oR b48, oR b81, oR b547, oI 0, oI 3, oI vi632, oU, oU] [oi vi641]) s₁ (entryFrame m #[(.int p1), (.int p2), (.int p3), (.int p4), (.int p5)] maxLocals) := by
                have pre642 : oL p e below T568 (mkF m 234 #[oI p1, oI p2, oI p3, oI p4, oI p5, oI (p1 &&& (3 : Int32)), oR bp, oI (p2 &&& (7 : Int32)), oI vi14, oI vi17, oI vi20, oR b23, oR b30, oR b48, oR b81, oR b547, oI 0, oI 3, oI vi632, oU, oU] [oi 2, oi (p1 &&& (3 : Int32))]) s₁ (entryFrame m #[(.int p1), (.int p2), (.int p3), (.int p4), (.int p5)] maxLocals) := fun t k => pre640 t (by
                  refine XS.iload X568.here hx rfl (hb hby at_231) rfl ?_
                  refine XS.iconst X568.here hx rfl (hb hby at_233) ?_
                  show oS p e below T568 (mkF m 234 #[oI p1, oI p2, oI p3, oI p4, oI p5, oI (p1 &&& (3 : Int32)), oR bp, oI (p2 &&& (7 : Int32)), oI vi14, oI vi17, oI vi20, oR b23, oR b30, oR b48, oR b81, oR b547, oI 0, oI 3, oI vi632, oU, oU] [oi 2, oi (p1 &&& (3 : Int32))]) _
                  exact k)
                by_cases hc643 : (p1 &&& (3 : Int32)) = (2 : Int32)
                ·
                  have pre644 : oL p e below T568 (mkF m 248 #[oI p1, oI p2, oI p3, oI p4, oI p5, oI (p1 &&& (3 : Int32)), oR bp, oI (p2 &&& (7 : Int32)), oI vi14, oI vi17, oI vi20, oR b23, oR b30, oR b48, oR b81, oR b547, oI 0, oI 3, oI vi632, oU, oU] [oi 1]) s₁ (entryFrame m #[(.int p1), (.int p2), (.int p3), (.int p4), (.int p5)] maxLocals) := fun t k => pre642 t (by
                    refine XS.icmpYes X568.here hx rfl (pc0 := 234) (pc' := 243) rfl (hb hby at_234) rfl (teq hc643).1 (by decide) (by decide) ?_
                    refine XS.iconst X568.here hx rfl (hb hby at_243) ?_
                    refine XS.goto X568.here hx rfl (pc0 := 244) (pc' := 248) rfl (hb hby at_244) (by decide) (by decide) ?_
                    exact k)
                  exact ⟨(1 : Int32), (by rw [hti]; simp [hc643]), pre644⟩
                ·
                  have pre645 : oL p e below T568 (mkF m 240 #[oI p1, oI p2, oI p3, oI p4, oI p5, oI (p1 &&& (3 : Int32)), oR bp, oI (p2 &&& (7 : Int32)), oI vi14, oI vi17, oI vi20, oR b23, oR b30, oR b48, oR b81, oR b547, oI 0, oI 3, oI vi632, oU, oU] [oi 3, oi (p1 &&& (3 : Int32))]) s₁ (entryFrame m #[(.int p1), (.int p2), (.int p3), (.int p4), (.int p5)] maxLocals) := fun t k => pre642 t (by
                    refine XS.icmpNo X568.here hx rfl (hb hby at_234) rfl (feq hc643).1 ?_
                    refine XS.iload X568.here hx rfl (hb hby at_237) rfl ?_
                    refine XS.iconst X568.here hx rfl (hb hby at_239) ?_
                    exact k)
                  by_cases hc646 : (p1 &&& (3 : Int32)) = (3 : Int32)
                  ·
                    have pre647 : oL p e below T568 (mkF m 248 #[oI p1, oI p2, oI p3, oI p4, oI p5, oI (p1 &&& (3 : Int32)), oR bp, oI (p2 &&& (7 : Int32)), oI vi14, oI vi17, oI vi20, oR b23, oR b30, oR b48, oR b81, oR b547, oI 0, oI 3, oI vi632, oU, oU] [oi 1]) s₁ (entryFrame m #[(.int p1), (.int p2), (.int p3), (.int p4), (.int p5)] maxLocals) := fun t k => pre645 t (by
                      refine XS.icmpNo X568.here hx rfl (hb hby at_240) rfl (teq hc646).2 ?_
                      show oS p e below T568 (mkF m 243 #[oI p1, oI p2, oI p3, oI p4, oI p5, oI (p1 &&& (3 : Int32)), oR bp, oI (p2 &&& (7 : Int32)), oI vi14, oI vi17, oI vi20, oR b23, oR b30, oR b48, oR b81, oR b547, oI 0, oI 3, oI vi632, oU, oU] []) _
                      refine XS.iconst X568.here hx rfl (hb hby at_243) ?_
                      refine XS.goto X568.here hx rfl (pc0 := 244) (pc' := 248) rfl (hb hby at_244) (by decide) (by decide) ?_
                      exact k)
                    exact ⟨(1 : Int32), (by rw [hti]; simp [hc643, hc646]), pre647⟩
                  ·
                    have pre648 : oL p e below T568 (mkF m 248 #[oI p1, oI p2, oI p3, oI p4, oI p5, oI (p1 &&& (3 : Int32)), oR bp, oI (p2 &&& (7 : Int32)), oI vi14, oI vi17, oI vi20, oR b23, oR b30, oR b48, oR b81, oR b547, oI 0, oI 3, oI vi632, oU, oU] [oi 0]) s₁ (entryFrame m #[(.int p1), (.int p2), (.int p3), (.int p4), (.int p5)] maxLocals) := fun t k => pre645 t (by
                      refine XS.icmpYes X568.here hx rfl (pc0 := 240) (pc' := 247) rfl (hb hby at_240) rfl (feq hc646).2 (by decide) (by decide) ?_
                      show oS p e below T568 (mkF m 247 #[oI p1, oI p2, oI p3, oI p4, oI p5, oI (p1 &&& (3 : Int32)), oR bp, oI (p2 &&& (7 : Int32)), oI vi14, oI vi17, oI vi20, oR b23, oR b30, oR b48, oR b81, oR b547, oI 0, oI 3, oI vi632, oU, oU] []) _
                      refine XS.iconst X568.here hx rfl (hb hby at_247) ?_
                      exact k)
                    exact ⟨(0 : Int32), (by rw [hti]; simp [hc643, hc646]), pre648⟩
              have pre649 : oL p e below T568 (mkF m 283 #[oI p1, oI p2, oI p3, oI p4, oI p5, oI (p1 &&& (3 : Int32)), oR bp, oI (p2 &&& (7 : Int32)), oI vi14, oI vi17, oI vi20, oR b23, oR b30, oR b48, oR b81, oR b547, oI 0, oI 3, oI vi632, oI vi641, oI 0] [ow b547, ow bp]) s₁ (entryFrame m #[(.int p1), (.int p2), (.int p3), (.int p4), (.int p5)] maxLocals) := fun t k => pre641 t (by
                refine XS.istore X568.here hx rfl (hb hby at_248) rfl (l' := #[oI p1, oI p2, oI p3, oI p4, oI p5, oI (p1 &&& (3 : Int32)), oR bp, oI (p2 &&& (7 : Int32)), oI vi14, oI vi17, oI vi20, oR b23, oR b30, oR b48, oR b81, oR b547, oI 0, oI 3, oI vi632, oI vi641, oU]) rfl ?_
                refine XS.iload X568.here hx rfl (hb hby at_250) rfl ?_
                show oS p e below T568 (mkF m 252 #[oI p1, oI p2, oI p3, oI p4, oI p5, oI (p1 &&& (3 : Int32)), oR bp, oI (p2 &&& (7 : Int32)), oI vi14, oI vi17, oI vi20, oR b23, oR b30, oR b48, oR b81, oR b547, oI 0, oI 3, oI vi632, oI vi641, oU] [oi 0]) _
                refine XS.ifYes X568.here hx rfl (pc0 := 252) (pc' := 262) rfl (hb hby at_252) rfl ((if0 _ _).trans (teq (by decide : (0 : Int32) = (0 : Int32))).1) (by decide) (by decide) ?_
                refine XS.iload X568.here hx rfl (hb hby at_262) rfl ?_
                refine XS.ifYes X568.here hx rfl (pc0 := 264) (pc' := 276) rfl (hb hby at_264) rfl ((if0 _ _).trans (feq (by decide : ¬ ((3 : Int32) = (0 : Int32)))).2) (by decide) (by decide) ?_
                refine XS.iconst X568.here hx rfl (hb hby at_276) ?_
                show oS p e below T568 (mkF m 277 #[oI p1, oI p2, oI p3, oI p4, oI p5, oI (p1 &&& (3 : Int32)), oR bp, oI (p2 &&& (7 : Int32)), oI vi14, oI vi17, oI vi20, oR b23, oR b30, oR b48, oR b81, oR b547, oI 0, oI 3, oI vi632, oI vi641, oU] [oi 0]) _
                refine XS.istore X568.here hx rfl (hb hby at_277) rfl (l' := #[oI p1, oI p2, oI p3, oI p4, oI p5, oI (p1 &&& (3 : Int32)), oR bp, oI (p2 &&& (7 : Int32)), oI vi14, oI vi17, oI vi20, oR b23, oR b30, oR b48, oR b81, oR b547, oI 0, oI 3, oI vi632, oI vi641, oI 0]) rfl ?_
                refine XS.aload X568.here hx rfl (hb hby at_279) rfl rfl ?_
                refine XS.aload X568.here hx rfl (hb hby at_281) rfl rfl ?_
                exact k)
              obtain ⟨cq650, kq650, q650a, q650b, q650c⟩ := isOf hZ rfl (Ebp.ext OL587.2)
              obtain ⟨_, _, ⟨T650, L650, k650, n650⟩, -, X650, hS650, hgr650, ⟨Lc650, hQ650, l650, y650, z650, cr650⟩, st650⟩ := X568.virtualBackS hx (y := (⟨"com/example/grantwright/grantwright/Bypass", "takes", "(Ljava/lang/String;)Z"⟩ : MethodName)) (z := (⟨"com/example/grantwright/grantwright/Bypass", "takes", "(Ljava/lang/String;)Z"⟩ : MethodName)) hown (mvT hZ (oW hw 37 rfl)) (mvT hZ (oW hw 38 rfl)) (notFace_of_selects (args := #[]) (mvT hZ (oW hw 40 rfl))) (mvT hZ (oW hw 40 rfl)) (mvT hZ (oW hw 39 rfl)) (by decide) (backOfSH (W := 0) (rm_tkC l Z a0 hw [] bp ti b547 tt568 kb568 Nx568 vs568 G1 T568.heap n0 OL587 O2 P5 FI hi Eq568 Fv568 f630 Va568) hZ (oW hw 41 rfl) (oW hw 5 rfl) (by decide) (by decide) hEL CH581) q650a q650c (g := (mkF m 283 #[oI p1, oI p2, oI p3, oI p4, oI p5, oI (p1 &&& (3 : Int32)), oR bp, oI (p2 &&& (7 : Int32)), oI vi14, oI vi17, oI vi20, oR b23, oR b30, oR b48, oR b81, oR b547, oI 0, oI 3, oI vi632, oI vi641, oI 0] [ow b547, ow bp])) rfl (by rw [hml]; rfl) (Steps.refl _) (argsL := [(.ref b547)]) (rest := []) (lenOf pd__Ljava_lang_String__Z rfl) rfl (by show 2 * 0 + _ ≤ _; exact Nat.le_of_eq rfl) (hb hby at_283) (fun _ _ => ⟨rfl, rfl, (by decide : 7 + 2 ≤ _), (by decide : 19 + 4 ≤ _)⟩)
              dsimp only [Pt.U, Pt.locs, Pt.cells, Pt.slots] at X650 l650 y650 z650 st650 hQ650 hS650 hgr650 cr650
              subst l650 y650 z650
              obtain ⟨X650, hS, hZ, hown⟩ := rebS hS (hk : _ ≤ T568.heap.size) X650 hS650 hgr650 hZ hown
              have hk : T650.heap.size ≤ T650.heap.size := Nat.le_refl _
              obtain ⟨rfl, N650q, Kq650⟩ := hQ650
              have N650 := Fr.app N568 N650q
              have sf651 := cr650.safe f582.lt sf575
              have sf652 := cr650.safe f583.lt sf576
              have sf653 := cr650.safe f584.lt sf577
              have sf654 := cr650.safe f585.lt sf578
              have sf655 := cr650.safe Eq568.lt sf579
              have sf656 := cr650.safe Va568.lt sf580
              have CH657 := cr650.1
              have CR657 := CR581.trans cr650
              have f658 := f582.keep Kq650 nin0
              have f659 := f583.keep Kq650 nin0
              have f660 := f584.keep Kq650 nin0
              have f661 := f585.keep Kq650 nin0
              have f662 := Eq568.keep Kq650
              have f663 := f630.keep Kq650 nin0
              have f664 := Fv568.keep Kq650 nin0
              have f665 := Va568.keep Kq650 nin0
              have OL666 := OL587.keep Kq650 all0
              have K667 : Keep h0 T650.heap [] := K588.trans Kq650 all0
              have pre668 : oL p e below T650 (mkF m 296 #[oI p1, oI p2, oI p3, oI p4, oI p5, oI (p1 &&& (3 : Int32)), oR bp, oI (p2 &&& (7 : Int32)), oI vi14, oI vi17, oI vi20, oR b23, oR b30, oR b48, oR b81, oR b547, oI 0, oI 3, oI vi632, oI vi641, oI 0] [oi 1]) s₁ (entryFrame m #[(.int p1), (.int p2), (.int p3), (.int p4), (.int p5)] maxLocals) := fun t k => pre649 t (by
                refine st650.trans ?_
                show oS p e below T650 (mkF m 286 #[oI p1, oI p2, oI p3, oI p4, oI p5, oI (p1 &&& (3 : Int32)), oR bp, oI (p2 &&& (7 : Int32)), oI vi14, oI vi17, oI vi20, oR b23, oR b30, oR b48, oR b81, oR b547, oI 0, oI 3, oI vi632, oI vi641, oI 0] [oi 0]) _
                refine XS.iload X650.here hx rfl (hb hby at_286) rfl ?_
                refine XS.icmpNo X650.here hx rfl (hb hby at_288) rfl (teq (by decide : (0 : Int32) = (0 : Int32))).2 ?_
                refine XS.iconst X650.here hx rfl (hb hby at_291) ?_
                refine XS.goto X650.here hx rfl (pc0 := 292) (pc' := 296) rfl (hb hby at_292) (by decide) (by decide) ?_
                show oS p e below T650 (mkF m 296 #[oI p1, oI p2, oI p3, oI p4, oI p5, oI (p1 &&& (3 : Int32)), oR bp, oI (p2 &&& (7 : Int32)), oI vi14, oI vi17, oI vi20, oR b23, oR b30, oR b48, oR b81, oR b547, oI 0, oI 3, oI vi632, oI vi641, oI 0] [oi 1]) _
                exact k)
              obtain ⟨fs, hr, hrun, hended, hEnd⟩ := X650.leaveW hS hk (v := some (.int (1 : Int32))) (fun h => by rw [Bd.returns] at h; cases h)
              refine ⟨_, _, pre668 _ ?_, hrun, hended, _, _, rfl, ?_, (by show CHr Z consts_1 s.vm s.heap T650.vm T650.heap; rw [hh]; exact CR657.trans (CHv.at X650 hZ hEL CH657)), hEnd.1, hEnd.2.1, hEnd.2.2.1, hEnd.2.2.2.mono (by decide) (by decide)⟩
              ·
                show oS p e below T650 (mkF m 296 #[oI p1, oI p2, oI p3, oI p4, oI p5, oI (p1 &&& (3 : Int32)), oR bp, oI (p2 &&& (7 : Int32)), oI vi14, oI vi17, oI vi20, oR b23, oR b30, oR b48, oR b81, oR b547, oI 0, oI 3, oI vi632, oI vi641, oI 0] [oi 1]) _
                exact retN X650 hx (t := .boolean) Bd.returns (by simp) (hb hby at_296) hr
              ·
                show Q_rm0 Z p1 p2 p3 p4 p5 G1 w_NONE w_WHEN_NULL w_WHEN_INITIAL w_WHEN_INITIAL_OR_NULL h0 n0 _ T650.heap _
                exact ⟨rfl, N650⟩
set_option maxRecDepth 65536 in
set_option maxHeartbeats 40000000 in
theorem comes_1 {Post : Tables → Env → Array Value → State → Outcome → State → Prop} (hpost : ∀ tb e args s v u, (limb_1_1.after args s (.returned v) u = true ∧ limb_1_2.after args s (.returned v) u = true ∧ True) → ReturnedEndW s (.returned v) u (Jvm.fieldLocs frame_1_writes args s ++ Jvm.arrayLocs frame_1_arrays args s ++ Jvm.staticLocs frame_1_statics s) 32 3200 → Post tb e args s (.returned v) u) :
    ArmFor flags0 classFile x code maxLocals ret World_1 tables_1 room_1 Calls_1 rest_1 Pre_1 Post := by
  intro l hfl _ _ p e ha hc hk s m args below hf hA hF happ hP
  obtain ⟨hcalls, hrest, hpre⟩ := hP
  obtain ⟨-, -, -, hnamed, -, -, -, hat⟩ := (Spec.applies_iff hf).mp happ
  obtain ⟨hg, hn⟩ := and_e (Cond.before_iff.mp (show (Jvm.Cond.and given_1 narrow_1).before args s = true from hpre))
  obtain ⟨hgl, hgr⟩ := and_e hg
  obtain ⟨hgrl, hgrr⟩ := and_e hgr
  obtain ⟨hgrrl, hgrrr⟩ := and_e hgrr
  obtain ⟨hgrrrl, hgrrrr⟩ := and_e hgrrr
  obtain ⟨hgrrrrl, hgrrrrr⟩ := and_e hgrrrr
  obtain ⟨w0, w1, w2, w3, w4, rfl⟩ : ∃ w0 w1 w2 w3 w4 : Value, args = #[w0, w1, w2, w3, w4] := by
    have hs : args.size = 5 := by simpa [Cond.value, given_1] using hgl
    obtain ⟨L⟩ := args
    match L, hs with
    | [w0, w1, w2, w3, w4], _ => exact ⟨w0, w1, w2, w3, w4, rfl⟩
  have hw := fun d (hd : d ∈ tables_1) => atoms_spec (ws := Jvm.Cond.code x code maxLocals ret :: tables_1) hat d (List.mem_cons_of_mem _ hd)
  have hfit : Fit s := fun {y c} hc i hi => by
    obtain ⟨ha, rfl⟩ := Array.getElem?_eq_some_iff.mp hc
    have q := List.all_eq_true.mp ((Array.all_eq_true_iff_forall_mem.mp hF) _ (Array.getElem_mem ha)) i (List.mem_range.mpr hi)
    simpa [Array.getElem?_eq_getElem hi] using q
  obtain ⟨hsets, hown0⟩ := atoms_of _ (rest_1_c_eq ▸ (show rest_1_c.before _ s = true from hrest))
  have hr0 := Cond.before_iff.mp hown0
  obtain ⟨i0, ei0⟩ := is_v hgrl
  obtain rfl : w0 = (.int i0) := Option.some.inj ei0
  obtain ⟨i1, ei1⟩ := is_v hgrrl
  obtain rfl : w1 = (.int i1) := Option.some.inj ei1
  obtain ⟨i2, ei2⟩ := is_v hgrrrl
  obtain rfl : w2 = (.int i2) := Option.some.inj ei2
  obtain ⟨i3, ei3⟩ := is_v hgrrrrl
  obtain rfl : w3 = (.int i3) := Option.some.inj ei3
  obtain ⟨i4, ei4⟩ := is_v hgrrrrr
  obtain rfl : w4 = (.int i4) := Option.some.inj ei4
  obtain ⟨hnl, hnr⟩ := and_e hn
  obtain ⟨v_NONE, ev_NONE⟩ := exa_v hnl
  have st_NONE := Sta.start ev_NONE (Or.inr ⟨(oW hw 5 rfl), (oW hw 6 rfl)⟩)
  have ex_NONE := Exa.start ev_NONE hnl
  obtain ⟨hnrl, hnrr⟩ := and_e hnr
  have of_NONE_takesInitial := own_fldI ev_NONE hnrl
  obtain ⟨hnrrl, hnrrr⟩ := and_e hnrr
  obtain ⟨v_WHEN_INITIAL_OR_NULL, ev_WHEN_INITIAL_OR_NULL⟩ := exa_v hnrrl
  have st_WHEN_INITIAL_OR_NULL := Sta.start ev_WHEN_INITIAL_OR_NULL (Or.inr ⟨(oW hw 5 rfl), (oW hw 45 rfl)⟩)
  have ex_WHEN_INITIAL_OR_NULL := Exa.start ev_WHEN_INITIAL_OR_NULL hnrrl
  obtain ⟨hnrrrl, hnrrrr⟩ := and_e hnrrr
  have of_WHEN_INITIAL_OR_NULL_takesInitial := own_fldI ev_WHEN_INITIAL_OR_NULL hnrrrl
  obtain ⟨hnrrrrl, hnrrrrr⟩ := and_e hnrrrr
  obtain ⟨v_WHEN_INITIAL, ev_WHEN_INITIAL⟩ := exa_v hnrrrrl
  have st_WHEN_INITIAL := Sta.start ev_WHEN_INITIAL (Or.inr ⟨(oW hw 5 rfl), (oW hw 81 rfl)⟩)
  have ex_WHEN_INITIAL := Exa.start ev_WHEN_INITIAL hnrrrrl
  obtain ⟨hnrrrrrl, hnrrrrrr⟩ := and_e hnrrrrr
  have of_WHEN_INITIAL_takesInitial := own_fldI ev_WHEN_INITIAL hnrrrrrl
  obtain ⟨hnrrrrrrl, hnrrrrrrr⟩ := and_e hnrrrrrr
  obtain ⟨v_WHEN_NULL, ev_WHEN_NULL⟩ := exa_v hnrrrrrrl
  have st_WHEN_NULL := Sta.start ev_WHEN_NULL (Or.inr ⟨(oW hw 5 rfl), (oW hw 83 rfl)⟩)
  have ex_WHEN_NULL := Exa.start ev_WHEN_NULL hnrrrrrrl
  obtain ⟨hnrrrrrrrl, hnrrrrrrrr⟩ := and_e hnrrrrrrr
  have of_WHEN_NULL_takesInitial := own_fldI ev_WHEN_NULL hnrrrrrrrl
  obtain ⟨hnrrrrrrrrl, hnrrrrrrrrr⟩ := and_e hnrrrrrrrr
  have of_NONE_takesNull := own_fldI ev_NONE hnrrrrrrrrl
  obtain ⟨hnrrrrrrrrrl, hnrrrrrrrrrr⟩ := and_e hnrrrrrrrrr
  have of_WHEN_INITIAL_takesNull := own_fldI ev_WHEN_INITIAL hnrrrrrrrrrl
  obtain ⟨hnrrrrrrrrrrl, hnrrrrrrrrrrr⟩ := and_e hnrrrrrrrrrr
  have of_WHEN_INITIAL_OR_NULL_takesNull := own_fldI ev_WHEN_INITIAL_OR_NULL hnrrrrrrrrrrl
  have of_WHEN_NULL_takesNull := own_fldI ev_WHEN_NULL hnrrrrrrrrrrr
  obtain ⟨G1, eG1⟩ := is_v (Cond.before_iff.mp (hsets _ (List.mem_of_getElem? (i := 1) rfl)))
  have O2 : Sta s s.heap "java/lang/String" "COMPACT_STRINGS" "Z" (.int G1) := Sta.start eG1 (Or.inl (hsets _ (List.mem_of_getElem? (i := 0) rfl)))
  have P5 : ¬ (G1 = (0 : Int32)) := gotF (Cond.eq_ints eG1 (Term.int_eval (0))) (not_v (Cond.before_iff.mp (hsets _ (List.mem_of_getElem? (i := 2) rfl))))
  have AD := own_staI (hsets _ (List.mem_of_getElem? (i := 12) rfl)) (hsets _ (List.mem_of_getElem? (i := 11) rfl))
  have HB := own_staI (hsets _ (List.mem_of_getElem? (i := 15) rfl)) (hsets _ (List.mem_of_getElem? (i := 14) rfl))
  have LB := own_staI (hsets _ (List.mem_of_getElem? (i := 18) rfl)) (hsets _ (List.mem_of_getElem? (i := 17) rfl))
  have CH0 : CHv s consts_1 s.vm s.heap := CHv.start (own_EW s _ hw) (fun q hq => hcalls.1 q hq) (hsets _ (List.mem_of_getElem? (i := 2) rfl)) (oW hw 26 rfl) (oW hw 9 rfl)
  obtain ⟨n, o, h1, h2, h3, _, L, rfl, ⟨rfl, N⟩, -, hq⟩ := rm0 l s _ hw tables_1 i0 i1 i2 i3 i4 G1 v_NONE v_WHEN_NULL v_WHEN_INITIAL v_WHEN_INITIAL_OR_NULL s.heap s.heap.size (Old.start s) AD HB LB O2 P5 st_NONE st_WHEN_NULL st_WHEN_INITIAL st_WHEN_INITIAL_OR_NULL ex_NONE ex_WHEN_NULL ex_WHEN_INITIAL ex_WHEN_INITIAL_OR_NULL of_NONE_takesNull of_WHEN_NULL_takesNull of_WHEN_INITIAL_takesNull of_WHEN_INITIAL_OR_NULL_takesNull of_NONE_takesInitial of_WHEN_NULL_takesInitial of_WHEN_INITIAL_takesInitial of_WHEN_INITIAL_OR_NULL_takesInitial p e ha hc hk s m _ below hf ((Spec.applies_iff_loose hf).mp happ).1 ⟨rfl, State.Warmed39.refl s, rfl, CH0⟩ trivial
  refine ⟨n, _, h1, h2, h3, hpost _ _ _ _ _ _ ⟨Cond.after_iff.mpr rfl, Cond.after_iff.mpr (eq_i res_at (Term.int_eval (1)) rfl), trivial⟩ ⟨hq.1, hq.2.1, hq.2.2.1, (hq.2.2.2.sift fun y hy => Or.inr (N y hy)).mono (by decide) (by decide)⟩⟩
theorem main_1_1 : Claimed_1_1 := comes_1 fun _ _ _ _ _ _ h hF => ⟨h.1, hF⟩
theorem main_1_2 : Claimed_1_2 := comes_1 fun _ _ _ _ _ _ h hF => ⟨h.2.1, hF⟩
end Jvm.Pilot.@@N@@
namespace Jvm.Pilot.@@N@@
open Jvm Jvm.ClassFile Sem Op Lib Jvm.Free Jvm.Stand Jvm.Pilot.@@N@@.Jvm.D
/-! MADE BY PROGRAM (witnessworld.py) out of the Statement's table words and the real class files: 21 classes; the members and pool entries that the words name. The judged class is class 1, her method 2. -/
namespace start1
open Jvm.ClassFile
def u (s : String) : CpInfo := .utf8 (stringToUtf16 s)
/-- a pool by its gaps: so many unusable entries, then the entry; so many at the end -/
def gap : Nat → List CpInfo → List CpInfo
  | 0, r => r
  | n + 1, r => .unusable :: gap n r
def poolList (es : List (Nat × CpInfo)) (last : Nat) : List CpInfo := es.foldr (fun e r => gap e.1 (e.2 :: r)) (gap last [])
def pool (es : List (Nat × CpInfo)) (last : Nat) : Array CpInfo := ⟨poolList es last⟩
def fileOf (pool : Array CpInfo) (this : Nat) (attrs : Array Attribute := #[]) (ms : Array MethodInfo := #[]) (fl : Nat := 33) (sup : Nat := 0) (ifs : Array Nat := #[]) (fds : Array FieldInfo := #[]) : ClassFile where
  minorVersion := 0
  majorVersion := 65
  constantPool := pool
  accessFlags := fl
  thisClass := this
  superClass := sup
  interfaces := ifs
  fields := fds
  methods := ms
  attributes := attrs
def plain (name : String) (sup : Option ClassId) : Class where
  name := name
  kind := .ordinary
  loader := none
  accessFlags := 33
  super := sup
  interfaces := #[]
  cf := none
  fields := #[]
  methods := #[]
  instanceTypes := #[]
  staticTypes := #[]
  resolved := #[]
  callSites := []
  init := .initialized
  statics := none
  mirror := none

def pool0 : Array CpInfo := pool [(5, u "<init>"), (0, u "()V"), (1, .class_ 10), (1, u "java/lang/Object")] 113

def k0c0 : Code := { maxStack := 0, maxLocals := 1, code := object_method_1_code, exceptionTable := #[], attributes := #[] }
def k0m0 : Method := { name := "<init>", desc := "()V", sig := { parameters := [], returnType := none }, accessFlags := 1, code := some k0c0 }
/-- java/lang/Object -/
def k0 : Class := { plain "java/lang/Object" none with
  accessFlags := 33
  interfaces := #[]
  cf := some (fileOf pool0 8 #[] #[{ accessFlags := 1, nameIndex := 5, descriptorIndex := 6, attributes := #[] }] 33 0 #[] #[])
  fields := #[]
  methods := #[k0m0]
  instanceTypes := #[]
  staticTypes := #[]
  resolved := Array.replicate 124 none
  statics := none }

def pool1 : Array CpInfo := pool [(2, .class_ 4), (1, u "java/lang/Object"), (0, u "<init>"), (0, u "()V"), (0, .fieldref 8 9), (0, .class_ 10), (0, .nameAndType 11 12), (0, u "com/example/grantwright/grantwright/Bypass"), (0, u "NONE"), (0, u "Lcom/example/grantwright/grantwright/Bypass;"), (0, .fieldref 8 14), (0, .nameAndType 15 12), (0, u "WHEN_NULL"), (0, .fieldref 8 17), (0, .nameAndType 18 12), (0, u "WHEN_INITIAL"), (0, .fieldref 8 20), (0, .nameAndType 21 12), (0, u "WHEN_INITIAL_OR_NULL"), (0, .methodref 23 24), (0, .class_ 25), (0, .nameAndType 26 27), (0, u "com/example/grantwright/grantwright/BypassTakesPinLaw"), (0, u "pick"), (0, u "(I)Lcom/example/grantwright/grantwright/Bypass;"), (0, .string 29), (0, u ""), (0, .class_ 31), (0, u "java/lang/String"), (0, .methodref 30 33), (0, .nameAndType 5 34), (0, u "([C)V"), (0, .methodref 8 36), (0, .nameAndType 37 38), (0, u "takes"), (0, u "(Ljava/lang/String;)Z"), (3, u "law"), (0, u "(IIIII)Z")] 4

def k1m0 : Method := { name := "<init>", desc := "()V", sig := { parameters := [], returnType := none }, accessFlags := 1, code := none }
def k1c1 : Code := { maxStack := 2, maxLocals := 1, code := method_2_code, exceptionTable := #[], attributes := #[] }
def k1m1 : Method := { name := "pick", desc := "(I)Lcom/example/grantwright/grantwright/Bypass;", sig := { parameters := [.int], returnType := some (.object "com/example/grantwright/grantwright/Bypass") }, accessFlags := 10, code := some k1c1 }
def k1c2 : Code := { maxStack := 4, maxLocals := 21, code := code, exceptionTable := #[], attributes := #[] }
def k1m2 : Method := { name := "law", desc := "(IIIII)Z", sig := { parameters := [.int, .int, .int, .int, .int], returnType := some .boolean }, accessFlags := 9, code := some k1c2 }
/-- com/example/grantwright/grantwright/BypassTakesPinLaw -/
def k1 : Class := { plain "com/example/grantwright/grantwright/BypassTakesPinLaw" (some 0) with
  accessFlags := 49
  interfaces := #[]
  cf := some (fileOf pool1 23 #[] #[{ accessFlags := 1, nameIndex := 5, descriptorIndex := 6, attributes := #[] }, { accessFlags := 10, nameIndex := 26, descriptorIndex := 27, attributes := #[] }, { accessFlags := 9, nameIndex := 42, descriptorIndex := 43, attributes := #[] }] 49 2 #[] #[])
  fields := #[]
  methods := #[k1m0, k1m1, k1m2]
  instanceTypes := #[]
  staticTypes := #[]
  resolved := Array.replicate 48 none
  statics := none }

def pool2 : Array CpInfo := pool [(1, .class_ 2), (0, u "java/lang/constant/Constable"), (0, .class_ 4), (0, u "java/lang/Object")] 6

/-- java/lang/constant/Constable -/
def k2 : Class := { plain "java/lang/constant/Constable" (some 0) with
  accessFlags := 1537
  interfaces := #[]
  cf := some (fileOf pool2 1 #[] #[] 1537 3 #[] #[])
  fields := #[]
  methods := #[]
  instanceTypes := #[]
  staticTypes := #[]
  resolved := Array.replicate 11 none
  statics := none }

def pool3 : Array CpInfo := pool [(1, .class_ 2), (0, u "java/lang/Comparable"), (0, .class_ 4), (0, u "java/lang/Object")] 7

/-- java/lang/Comparable -/
def k3 : Class := { plain "java/lang/Comparable" (some 0) with
  accessFlags := 1537
  interfaces := #[]
  cf := some (fileOf pool3 1 #[] #[] 1537 3 #[] #[])
  fields := #[]
  methods := #[]
  instanceTypes := #[]
  staticTypes := #[]
  resolved := Array.replicate 12 none
  statics := none }

def pool4 : Array CpInfo := pool [(1, .class_ 2), (0, u "java/io/Serializable"), (0, .class_ 4), (0, u "java/lang/Object")] 2

/-- java/io/Serializable -/
def k4 : Class := { plain "java/io/Serializable" (some 0) with
  accessFlags := 1537
  interfaces := #[]
  cf := some (fileOf pool4 1 #[] #[] 1537 3 #[] #[])
  fields := #[]
  methods := #[]
  instanceTypes := #[]
  staticTypes := #[]
  resolved := Array.replicate 7 none
  statics := none }

def pool5 : Array CpInfo := pool [(2, .class_ 4), (1, u "java/lang/Enum"), (0, u "name"), (0, u "Ljava/lang/String;"), (2, u "ordinal"), (0, u "I"), (1, .class_ 14), (1, u "java/lang/Object"), (4, u "hash"), (86, .class_ 108), (1, u "java/lang/Enum$EnumDesc"), (2, .class_ 112), (0, u "java/lang/constant/Constable"), (0, .class_ 114), (0, u "java/lang/Comparable"), (0, .class_ 116), (0, u "java/io/Serializable")] 87

/-- java/lang/Enum -/
def k5 : Class := { plain "java/lang/Enum" (some 0) with
  accessFlags := 1057
  interfaces := #[2, 3, 4]
  cf := some (fileOf pool5 2 #[.nestMembers #[106]] #[] 1057 12 #[111, 113, 115] #[{ accessFlags := 18, nameIndex := 5, descriptorIndex := 6, attributes := #[] }, { accessFlags := 18, nameIndex := 9, descriptorIndex := 10, attributes := #[] }, { accessFlags := 2, nameIndex := 19, descriptorIndex := 10, attributes := #[] }])
  fields := #[{ name := "name", type := (.object "java/lang/String"), accessFlags := 18, slot := 0, constantValue := 0 }, { name := "ordinal", type := .int, accessFlags := 18, slot := 1, constantValue := 0 }, { name := "hash", type := .int, accessFlags := 2, slot := 2, constantValue := 0 }]
  methods := #[]
  instanceTypes := #[(.object "java/lang/String"), .int, .int]
  staticTypes := #[]
  resolved := Array.replicate 204 none
  statics := none }

def pool6 : Array CpInfo := pool [(1, .class_ 2), (0, u "com/example/grantwright/grantwright/Bypass"), (2, u "NONE"), (0, u "Lcom/example/grantwright/grantwright/Bypass;"), (2, u "WHEN_NULL"), (2, u "WHEN_INITIAL"), (2, u "WHEN_INITIAL_OR_NULL"), (2, u "$VALUES"), (0, u "[Lcom/example/grantwright/grantwright/Bypass;"), (6, .class_ 28), (1, u "java/lang/Enum"), (6, .fieldref 1 36), (0, .nameAndType 37 38), (0, u "takesNull"), (0, u "Z"), (0, .fieldref 1 40), (0, .nameAndType 41 38), (0, u "takesInitial"), (0, .string 43), (0, u ""), (0, .methodref 45 46), (0, .class_ 47), (0, .nameAndType 48 49), (0, u "java/lang/String"), (0, u "equals"), (0, u "(Ljava/lang/Object;)Z"), (11, u "INITIAL_VALUE"), (0, u "Ljava/lang/String;"), (8, u "takes"), (0, u "(Ljava/lang/String;)Z")] 7

def k6c0 : Code := { maxStack := 2, maxLocals := 2, code := prog_6_method_4_code, exceptionTable := #[], attributes := #[] }
def k6m0 : Method := { name := "takes", desc := "(Ljava/lang/String;)Z", sig := { parameters := [(.object "java/lang/String")], returnType := some .boolean }, accessFlags := 0, code := some k6c0 }
/-- com/example/grantwright/grantwright/Bypass -/
def k6 : Class := { plain "com/example/grantwright/grantwright/Bypass" (some 5) with
  accessFlags := 16432
  interfaces := #[]
  cf := some (fileOf pool6 1 #[] #[{ accessFlags := 0, nameIndex := 71, descriptorIndex := 72, attributes := #[] }] 16432 26 #[] #[{ accessFlags := 16409, nameIndex := 5, descriptorIndex := 6, attributes := #[] }, { accessFlags := 16409, nameIndex := 9, descriptorIndex := 6, attributes := #[] }, { accessFlags := 16409, nameIndex := 12, descriptorIndex := 6, attributes := #[] }, { accessFlags := 16409, nameIndex := 15, descriptorIndex := 6, attributes := #[] }, { accessFlags := 24, nameIndex := 61, descriptorIndex := 62, attributes := #[] }, { accessFlags := 18, nameIndex := 37, descriptorIndex := 38, attributes := #[] }, { accessFlags := 18, nameIndex := 41, descriptorIndex := 38, attributes := #[] }, { accessFlags := 4122, nameIndex := 18, descriptorIndex := 19, attributes := #[] }])
  fields := #[{ name := "NONE", type := (.object "com/example/grantwright/grantwright/Bypass"), accessFlags := 16409, slot := 0, constantValue := 0 }, { name := "WHEN_NULL", type := (.object "com/example/grantwright/grantwright/Bypass"), accessFlags := 16409, slot := 1, constantValue := 0 }, { name := "WHEN_INITIAL", type := (.object "com/example/grantwright/grantwright/Bypass"), accessFlags := 16409, slot := 2, constantValue := 0 }, { name := "WHEN_INITIAL_OR_NULL", type := (.object "com/example/grantwright/grantwright/Bypass"), accessFlags := 16409, slot := 3, constantValue := 0 }, { name := "INITIAL_VALUE", type := (.object "java/lang/String"), accessFlags := 24, slot := 4, constantValue := 0 }, { name := "takesNull", type := .boolean, accessFlags := 18, slot := 3, constantValue := 0 }, { name := "takesInitial", type := .boolean, accessFlags := 18, slot := 4, constantValue := 0 }, { name := "$VALUES", type := (.array (.object "com/example/grantwright/grantwright/Bypass")), accessFlags := 4122, slot := 5, constantValue := 0 }]
  methods := #[k6m0]
  instanceTypes := #[(.object "java/lang/String"), .int, .int, .boolean, .boolean]
  staticTypes := #[(.object "com/example/grantwright/grantwright/Bypass"), (.object "com/example/grantwright/grantwright/Bypass"), (.object "com/example/grantwright/grantwright/Bypass"), (.object "com/example/grantwright/grantwright/Bypass"), (.object "java/lang/String"), (.array (.object "com/example/grantwright/grantwright/Bypass"))]
  resolved := Array.replicate 80 none
  statics := some 0 }

def pool7 : Array CpInfo := pool [(2, .class_ 4), (1, u "java/lang/CharSequence"), (42, .class_ 48), (0, u "java/lang/CharSequence$1CodePointIterator"), (10, .class_ 60), (0, u "java/lang/CharSequence$1CharIterator"), (5, .class_ 67), (0, u "java/lang/Object")] 63

/-- java/lang/CharSequence -/
def k7 : Class := { plain "java/lang/CharSequence" (some 0) with
  accessFlags := 1537
  interfaces := #[]
  cf := some (fileOf pool7 2 #[.nestMembers #[47, 59]] #[] 1537 66 #[] #[])
  fields := #[]
  methods := #[]
  instanceTypes := #[]
  staticTypes := #[]
  resolved := Array.replicate 131 none
  statics := none }

def pool8 : Array CpInfo := pool [(1, .class_ 2), (0, u "java/lang/constant/ConstantDesc"), (0, .class_ 4), (0, u "java/lang/Object")] 32

/-- java/lang/constant/ConstantDesc -/
def k8 : Class := { plain "java/lang/constant/ConstantDesc" (some 0) with
  accessFlags := 1537
  interfaces := #[]
  cf := some (fileOf pool8 1 #[] #[] 1537 3 #[] #[])
  fields := #[]
  methods := #[]
  instanceTypes := #[]
  staticTypes := #[]
  resolved := Array.replicate 37 none
  statics := none }

def pool9 : Array CpInfo := pool [(1, .methodref 2 3), (0, .class_ 4), (0, .nameAndType 5 6), (0, u "java/lang/Object"), (0, u "<init>"), (0, u "()V"), (0, .string 8), (0, u ""), (0, .fieldref 10 11), (0, .class_ 12), (0, .nameAndType 13 14), (0, u "java/lang/String"), (0, u "value"), (0, u "[B"), (0, .fieldref 10 16), (0, .nameAndType 17 18), (0, u "coder"), (0, u "B"), (2, u "hash"), (0, u "I"), (2, u "hashIsZero"), (0, u "Z"), (0, .methodref 10 28), (0, .nameAndType 5 29), (0, u "([CIILjava/lang/Void;)V"), (8, .fieldref 10 39), (0, .nameAndType 40 26), (0, u "COMPACT_STRINGS"), (1, .class_ 44), (1, u "java/lang/StringUTF16"), (0, u "compress"), (1, .methodref 42 48), (0, .nameAndType 49 50), (0, u "coderFromArrayLen"), (0, u "([BI)B"), (56, .class_ 109), (1, u "java/lang/StringLatin1"), (67, .methodref 42 178), (0, .nameAndType 45 179), (0, u "([CII)[B"), (361, .methodref 107 542), (0, .nameAndType 543 544), (0, u "equals"), (0, u "([B[B)Z"), (28, u "(Ljava/lang/Object;)Z"), (1, .class_ 576), (0, u "java/lang/CharSequence"), (22, u "CASE_INSENSITIVE_ORDER"), (0, u "Ljava/util/Comparator;"), (409, u "([C)V"), (90, u "serialPersistentFields"), (0, u "[Ljava/io/ObjectStreamField;"), (0, .class_ 1104), (0, u "java/lang/String$CaseInsensitiveComparator"), (1, .class_ 1107), (0, u "java/io/Serializable"), (0, .class_ 1109), (0, u "java/lang/Comparable"), (0, .class_ 1111), (0, u "java/lang/constant/Constable"), (0, .class_ 1113), (0, u "java/lang/constant/ConstantDesc"), (2, u "serialVersionUID"), (0, u "J"), (3, u "REPL"), (0, u "C"), (2, u "LATIN1"), (1, u "UTF16")] 323

def k9m0 : Method := { name := "<init>", desc := "()V", sig := { parameters := [], returnType := none }, accessFlags := 1, code := none }
def k9c1 : Code := { maxStack := 5, maxLocals := 2, code := jdk_42_method_3_code, exceptionTable := #[], attributes := #[] }
def k9m1 : Method := { name := "<init>", desc := "([C)V", sig := { parameters := [(.array .char)], returnType := none }, accessFlags := 1, code := some k9c1 }
def k9c2 : Code := { maxStack := 2, maxLocals := 3, code := jdk_42_method_66_code, exceptionTable := #[], attributes := #[] }
def k9m2 : Method := { name := "equals", desc := "(Ljava/lang/Object;)Z", sig := { parameters := [(.object "java/lang/Object")], returnType := some .boolean }, accessFlags := 1, code := some k9c2 }
def k9c3 : Code := { maxStack := 4, maxLocals := 6, code := jdk_42_method_149_code, exceptionTable := #[], attributes := #[] }
def k9m3 : Method := { name := "<init>", desc := "([CIILjava/lang/Void;)V", sig := { parameters := [(.array .char), .int, .int, (.object "java/lang/Void")], returnType := none }, accessFlags := 2, code := some k9c3 }
/-- java/lang/String -/
def k9 : Class := { plain "java/lang/String" (some 0) with
  accessFlags := 49
  interfaces := #[4, 3, 7, 2, 8]
  cf := some (fileOf pool9 10 #[.nestMembers #[1103]] #[{ accessFlags := 1, nameIndex := 5, descriptorIndex := 6, attributes := #[] }, { accessFlags := 1, nameIndex := 5, descriptorIndex := 1010, attributes := #[] }, { accessFlags := 1, nameIndex := 543, descriptorIndex := 573, attributes := #[] }, { accessFlags := 2, nameIndex := 5, descriptorIndex := 29, attributes := #[] }] 49 2 #[1106, 1108, 575, 1110, 1112] #[{ accessFlags := 18, nameIndex := 13, descriptorIndex := 14, attributes := #[] }, { accessFlags := 18, nameIndex := 17, descriptorIndex := 18, attributes := #[] }, { accessFlags := 2, nameIndex := 21, descriptorIndex := 22, attributes := #[] }, { accessFlags := 2, nameIndex := 25, descriptorIndex := 26, attributes := #[] }, { accessFlags := 26, nameIndex := 1116, descriptorIndex := 1117, attributes := #[] }, { accessFlags := 24, nameIndex := 40, descriptorIndex := 26, attributes := #[] }, { accessFlags := 26, nameIndex := 1101, descriptorIndex := 1102, attributes := #[] }, { accessFlags := 26, nameIndex := 1121, descriptorIndex := 1122, attributes := #[] }, { accessFlags := 25, nameIndex := 599, descriptorIndex := 600, attributes := #[] }, { accessFlags := 24, nameIndex := 1125, descriptorIndex := 18, attributes := #[] }, { accessFlags := 24, nameIndex := 1127, descriptorIndex := 18, attributes := #[] }])
  fields := #[{ name := "value", type := (.array .byte), accessFlags := 18, slot := 0, constantValue := 0 }, { name := "coder", type := .byte, accessFlags := 18, slot := 1, constantValue := 0 }, { name := "hash", type := .int, accessFlags := 2, slot := 2, constantValue := 0 }, { name := "hashIsZero", type := .boolean, accessFlags := 2, slot := 3, constantValue := 0 }, { name := "serialVersionUID", type := .long, accessFlags := 26, slot := 0, constantValue := 0 }, { name := "COMPACT_STRINGS", type := .boolean, accessFlags := 24, slot := 1, constantValue := 0 }, { name := "serialPersistentFields", type := (.array (.object "java/io/ObjectStreamField")), accessFlags := 26, slot := 2, constantValue := 0 }, { name := "REPL", type := .char, accessFlags := 26, slot := 3, constantValue := 0 }, { name := "CASE_INSENSITIVE_ORDER", type := (.object "java/util/Comparator"), accessFlags := 25, slot := 4, constantValue := 0 }, { name := "LATIN1", type := .byte, accessFlags := 24, slot := 5, constantValue := 0 }, { name := "UTF16", type := .byte, accessFlags := 24, slot := 6, constantValue := 0 }]
  methods := #[k9m0, k9m1, k9m2, k9m3]
  instanceTypes := #[(.array .byte), .byte, .int, .boolean]
  staticTypes := #[.long, .boolean, (.array (.object "java/io/ObjectStreamField")), .char, (.object "java/util/Comparator"), .byte, .byte]
  resolved := Array.replicate 1451 none
  statics := some 1 }

def pool10 : Array CpInfo := pool [(6, .class_ 8), (1, u "java/lang/Object"), (0, u "<init>"), (0, u "()V"), (0, .methodref 12 13), (0, .class_ 14), (0, .nameAndType 15 16), (0, u "java/lang/StringUTF16"), (0, u "newBytesLength"), (0, u "(I)I"), (3, .integer 1073741823), (23, .fieldref 12 45), (0, .nameAndType 46 47), (0, u "$assertionsDisabled"), (0, u "Z"), (11, .fieldref 12 60), (0, .nameAndType 61 62), (0, u "HI_BYTE_SHIFT"), (0, u "I"), (0, .fieldref 12 64), (0, .nameAndType 65 62), (0, u "LO_BYTE_SHIFT"), (5, .methodref 12 72), (0, .nameAndType 73 74), (0, u "getChar"), (0, u "([BI)C"), (32, .methodref 12 108), (0, .nameAndType 109 110), (0, u "newBytesFor"), (0, u "(I)[B"), (0, .methodref 12 112), (0, .nameAndType 113 114), (0, u "putChar"), (0, u "([BII)V"), (0, .methodref 12 116), (0, .nameAndType 117 118), (0, u "compress"), (0, u "([CI[BII)I"), (0, .methodref 12 120), (0, .nameAndType 121 122), (0, u "toBytes"), (0, u "([CII)[B"), (138, u "coderFromArrayLen"), (0, u "([BI)B"), (106, .class_ 371), (1, u "java/lang/StringUTF16$LinesSpliterator"), (58, u "MAX_LENGTH"), (196, .class_ 628), (0, u "java/lang/StringUTF16$CodePointsSpliterator"), (0, .class_ 630), (0, u "java/lang/StringUTF16$CharsSpliterator")] 4

def k10m0 : Method := { name := "<init>", desc := "()V", sig := { parameters := [], returnType := none }, accessFlags := 0, code := none }
def k10c1 : Code := { maxStack := 1, maxLocals := 1, code := jdk_52_method_2_code, exceptionTable := #[], attributes := #[] }
def k10m1 : Method := { name := "newBytesFor", desc := "(I)[B", sig := { parameters := [.int], returnType := some (.array .byte) }, accessFlags := 9, code := some k10c1 }
def k10c2 : Code := { maxStack := 4, maxLocals := 1, code := jdk_52_method_3_code, exceptionTable := #[], attributes := #[] }
def k10m2 : Method := { name := "newBytesLength", desc := "(I)I", sig := { parameters := [.int], returnType := some .int }, accessFlags := 9, code := some k10c2 }
def k10c3 : Code := { maxStack := 4, maxLocals := 3, code := jdk_52_method_4_code, exceptionTable := #[], attributes := #[] }
def k10m3 : Method := { name := "putChar", desc := "([BII)V", sig := { parameters := [(.array .byte), .int, .int], returnType := none }, accessFlags := 8, code := some k10c3 }
def k10c4 : Code := { maxStack := 3, maxLocals := 2, code := jdk_52_method_5_code, exceptionTable := #[], attributes := #[] }
def k10m4 : Method := { name := "getChar", desc := "([BI)C", sig := { parameters := [(.array .byte), .int], returnType := some .char }, accessFlags := 8, code := some k10c4 }
def k10c5 : Code := { maxStack := 4, maxLocals := 5, code := jdk_52_method_14_code, exceptionTable := #[], attributes := #[] }
def k10m5 : Method := { name := "toBytes", desc := "([CII)[B", sig := { parameters := [(.array .char), .int, .int], returnType := some (.array .byte) }, accessFlags := 9, code := some k10c5 }
def k10c6 : Code := { maxStack := 2, maxLocals := 2, code := jdk_52_method_15_code, exceptionTable := #[], attributes := #[] }
def k10m6 : Method := { name := "coderFromArrayLen", desc := "([BI)B", sig := { parameters := [(.array .byte), .int], returnType := some .byte }, accessFlags := 8, code := some k10c6 }
def k10c7 : Code := { maxStack := 5, maxLocals := 6, code := jdk_52_method_16_code, exceptionTable := #[], attributes := #[] }
def k10m7 : Method := { name := "compress", desc := "([CII)[B", sig := { parameters := [(.array .char), .int, .int], returnType := some (.array .byte) }, accessFlags := 9, code := some k10c7 }
def k10c8 : Code := { maxStack := 3, maxLocals := 7, code := jdk_52_method_21_code, exceptionTable := #[], attributes := #[] }
def k10m8 : Method := { name := "compress", desc := "([CI[BII)I", sig := { parameters := [(.array .char), .int, (.array .byte), .int, .int], returnType := some .int }, accessFlags := 9, code := some k10c8 }
/-- java/lang/StringUTF16 -/
def k10 : Class := { plain "java/lang/StringUTF16" (some 0) with
  accessFlags := 48
  interfaces := #[]
  cf := some (fileOf pool10 12 #[.nestMembers #[627, 629, 369]] #[{ accessFlags := 0, nameIndex := 9, descriptorIndex := 10, attributes := #[] }, { accessFlags := 9, nameIndex := 109, descriptorIndex := 110, attributes := #[] }, { accessFlags := 9, nameIndex := 15, descriptorIndex := 16, attributes := #[] }, { accessFlags := 8, nameIndex := 113, descriptorIndex := 114, attributes := #[] }, { accessFlags := 8, nameIndex := 73, descriptorIndex := 74, attributes := #[] }, { accessFlags := 9, nameIndex := 121, descriptorIndex := 122, attributes := #[] }, { accessFlags := 8, nameIndex := 261, descriptorIndex := 262, attributes := #[] }, { accessFlags := 9, nameIndex := 117, descriptorIndex := 122, attributes := #[] }, { accessFlags := 9, nameIndex := 117, descriptorIndex := 118, attributes := #[] }] 48 6 #[] #[{ accessFlags := 26, nameIndex := 61, descriptorIndex := 62, attributes := #[] }, { accessFlags := 26, nameIndex := 65, descriptorIndex := 62, attributes := #[] }, { accessFlags := 24, nameIndex := 430, descriptorIndex := 62, attributes := #[] }, { accessFlags := 4120, nameIndex := 46, descriptorIndex := 47, attributes := #[] }])
  fields := #[{ name := "HI_BYTE_SHIFT", type := .int, accessFlags := 26, slot := 0, constantValue := 0 }, { name := "LO_BYTE_SHIFT", type := .int, accessFlags := 26, slot := 1, constantValue := 0 }, { name := "MAX_LENGTH", type := .int, accessFlags := 24, slot := 2, constantValue := 0 }, { name := "$assertionsDisabled", type := .boolean, accessFlags := 4120, slot := 3, constantValue := 0 }]
  methods := #[k10m0, k10m1, k10m2, k10m3, k10m4, k10m5, k10m6, k10m7, k10m8]
  instanceTypes := #[]
  staticTypes := #[.int, .int, .int, .boolean]
  resolved := Array.replicate 635 none
  statics := some 2 }

def pool11 : Array CpInfo := pool [(4, .class_ 6), (1, u "java/lang/Object"), (0, u "<init>"), (0, u "()V"), (5, .class_ 16), (1, u "java/lang/StringLatin1"), (104, u "$assertionsDisabled"), (0, u "Z"), (98, .class_ 223), (1, u "java/lang/StringLatin1$LinesSpliterator"), (57, u "equals"), (0, u "([B[B)Z"), (107, .class_ 391), (0, u "java/lang/StringLatin1$CharsSpliterator")] 3

def k11m0 : Method := { name := "<init>", desc := "()V", sig := { parameters := [], returnType := none }, accessFlags := 0, code := none }
def k11c1 : Code := { maxStack := 3, maxLocals := 3, code := jdk_43_method_13_code, exceptionTable := #[], attributes := #[] }
def k11m1 : Method := { name := "equals", desc := "([B[B)Z", sig := { parameters := [(.array .byte), (.array .byte)], returnType := some .boolean }, accessFlags := 9, code := some k11c1 }
/-- java/lang/StringLatin1 -/
def k11 : Class := { plain "java/lang/StringLatin1" (some 0) with
  accessFlags := 48
  interfaces := #[]
  cf := some (fileOf pool11 14 #[.nestMembers #[390, 221]] #[{ accessFlags := 0, nameIndex := 7, descriptorIndex := 8, attributes := #[] }, { accessFlags := 9, nameIndex := 281, descriptorIndex := 282, attributes := #[] }] 48 4 #[] #[{ accessFlags := 4120, nameIndex := 121, descriptorIndex := 122, attributes := #[] }])
  fields := #[{ name := "$assertionsDisabled", type := .boolean, accessFlags := 4120, slot := 0, constantValue := 0 }]
  methods := #[k11m0, k11m1]
  instanceTypes := #[]
  staticTypes := #[.boolean]
  resolved := Array.replicate 395 none
  statics := none }

def pool12 : Array CpInfo := pool [(2, .class_ 4), (1, u "java/lang/Object"), (0, u "<init>"), (0, u "()V"), (17, .class_ 26), (1, u "jdk/internal/util/Preconditions"), (28, .class_ 56), (0, u "jdk/internal/util/Preconditions$4"), (57, .class_ 115), (0, u "jdk/internal/util/Preconditions$1"), (7, u "SIOOBE_FORMATTER"), (0, u "Ljava/util/function/BiFunction;"), (0, .class_ 126), (0, u "jdk/internal/util/Preconditions$2"), (3, u "AIOOBE_FORMATTER"), (0, .class_ 132), (0, u "jdk/internal/util/Preconditions$3"), (3, u "IOOBE_FORMATTER")] 57

def k12m0 : Method := { name := "<init>", desc := "()V", sig := { parameters := [], returnType := none }, accessFlags := 1, code := none }
/-- jdk/internal/util/Preconditions -/
def k12 : Class := { plain "jdk/internal/util/Preconditions" (some 0) with
  accessFlags := 33
  interfaces := #[]
  cf := some (fileOf pool12 24 #[.nestMembers #[55, 131, 125, 114]] #[{ accessFlags := 1, nameIndex := 5, descriptorIndex := 6, attributes := #[] }] 33 2 #[] #[{ accessFlags := 25, nameIndex := 123, descriptorIndex := 124, attributes := #[] }, { accessFlags := 25, nameIndex := 130, descriptorIndex := 124, attributes := #[] }, { accessFlags := 25, nameIndex := 136, descriptorIndex := 124, attributes := #[] }])
  fields := #[{ name := "SIOOBE_FORMATTER", type := (.object "java/util/function/BiFunction"), accessFlags := 25, slot := 0, constantValue := 0 }, { name := "AIOOBE_FORMATTER", type := (.object "java/util/function/BiFunction"), accessFlags := 25, slot := 1, constantValue := 0 }, { name := "IOOBE_FORMATTER", type := (.object "java/util/function/BiFunction"), accessFlags := 25, slot := 2, constantValue := 0 }]
  methods := #[k12m0]
  instanceTypes := #[]
  staticTypes := #[(.object "java/util/function/BiFunction"), (.object "java/util/function/BiFunction"), (.object "java/util/function/BiFunction")]
  resolved := Array.replicate 194 none
  statics := some 3 }

def pool13 : Array CpInfo := pool [(9, u "<init>"), (6, .class_ 18), (1, u "java/lang/Object"), (0, u "()V"), (1, .class_ 23), (1, u "jdk/internal/util/ArraysSupport"), (0, u "LOG2_ARRAY_LONG_INDEX_SCALE"), (0, u "I"), (2, u "U"), (0, u "Ljdk/internal/misc/Unsafe;"), (8, u "BIG_ENDIAN"), (0, u "Z"), (8, u "LOG2_BYTE_BIT_SIZE"), (4, u "LOG2_ARRAY_INT_INDEX_SCALE"), (54, u "JLA"), (0, u "Ljdk/internal/access/JavaLangAccess;"), (11, u "LOG2_ARRAY_BOOLEAN_INDEX_SCALE"), (9, u "LOG2_ARRAY_BYTE_INDEX_SCALE"), (5, u "LOG2_ARRAY_CHAR_INDEX_SCALE"), (5, u "LOG2_ARRAY_SHORT_INDEX_SCALE"), (18, u "LOG2_ARRAY_FLOAT_INDEX_SCALE"), (24, u "LOG2_ARRAY_DOUBLE_INDEX_SCALE"), (89, u "T_BOOLEAN"), (2, u "T_CHAR"), (1, u "T_FLOAT"), (1, u "T_DOUBLE"), (1, u "T_BYTE"), (1, u "T_SHORT"), (1, u "T_INT"), (1, u "T_LONG"), (1, u "SOFT_MAX_ARRAY_LENGTH")] 83

def k13m0 : Method := { name := "<init>", desc := "()V", sig := { parameters := [], returnType := none }, accessFlags := 2, code := none }
/-- jdk/internal/util/ArraysSupport -/
def k13 : Class := { plain "jdk/internal/util/ArraysSupport" (some 0) with
  accessFlags := 33
  interfaces := #[]
  cf := some (fileOf pool13 21 #[] #[{ accessFlags := 2, nameIndex := 9, descriptorIndex := 19, attributes := #[] }] 33 16 #[] #[{ accessFlags := 24, nameIndex := 28, descriptorIndex := 29, attributes := #[] }, { accessFlags := 26, nameIndex := 38, descriptorIndex := 39, attributes := #[] }, { accessFlags := 25, nameIndex := 121, descriptorIndex := 25, attributes := #[] }, { accessFlags := 25, nameIndex := 131, descriptorIndex := 25, attributes := #[] }, { accessFlags := 25, nameIndex := 137, descriptorIndex := 25, attributes := #[] }, { accessFlags := 25, nameIndex := 143, descriptorIndex := 25, attributes := #[] }, { accessFlags := 25, nameIndex := 53, descriptorIndex := 25, attributes := #[] }, { accessFlags := 25, nameIndex := 24, descriptorIndex := 25, attributes := #[] }, { accessFlags := 25, nameIndex := 162, descriptorIndex := 25, attributes := #[] }, { accessFlags := 25, nameIndex := 187, descriptorIndex := 25, attributes := #[] }, { accessFlags := 26, nameIndex := 48, descriptorIndex := 25, attributes := #[] }, { accessFlags := 25, nameIndex := 277, descriptorIndex := 25, attributes := #[] }, { accessFlags := 25, nameIndex := 280, descriptorIndex := 25, attributes := #[] }, { accessFlags := 25, nameIndex := 282, descriptorIndex := 25, attributes := #[] }, { accessFlags := 25, nameIndex := 284, descriptorIndex := 25, attributes := #[] }, { accessFlags := 25, nameIndex := 286, descriptorIndex := 25, attributes := #[] }, { accessFlags := 25, nameIndex := 288, descriptorIndex := 25, attributes := #[] }, { accessFlags := 25, nameIndex := 290, descriptorIndex := 25, attributes := #[] }, { accessFlags := 25, nameIndex := 292, descriptorIndex := 25, attributes := #[] }, { accessFlags := 26, nameIndex := 108, descriptorIndex := 109, attributes := #[] }, { accessFlags := 25, nameIndex := 294, descriptorIndex := 25, attributes := #[] }])
  fields := #[{ name := "U", type := (.object "jdk/internal/misc/Unsafe"), accessFlags := 24, slot := 0, constantValue := 0 }, { name := "BIG_ENDIAN", type := .boolean, accessFlags := 26, slot := 1, constantValue := 0 }, { name := "LOG2_ARRAY_BOOLEAN_INDEX_SCALE", type := .int, accessFlags := 25, slot := 2, constantValue := 0 }, { name := "LOG2_ARRAY_BYTE_INDEX_SCALE", type := .int, accessFlags := 25, slot := 3, constantValue := 0 }, { name := "LOG2_ARRAY_CHAR_INDEX_SCALE", type := .int, accessFlags := 25, slot := 4, constantValue := 0 }, { name := "LOG2_ARRAY_SHORT_INDEX_SCALE", type := .int, accessFlags := 25, slot := 5, constantValue := 0 }, { name := "LOG2_ARRAY_INT_INDEX_SCALE", type := .int, accessFlags := 25, slot := 6, constantValue := 0 }, { name := "LOG2_ARRAY_LONG_INDEX_SCALE", type := .int, accessFlags := 25, slot := 7, constantValue := 0 }, { name := "LOG2_ARRAY_FLOAT_INDEX_SCALE", type := .int, accessFlags := 25, slot := 8, constantValue := 0 }, { name := "LOG2_ARRAY_DOUBLE_INDEX_SCALE", type := .int, accessFlags := 25, slot := 9, constantValue := 0 }, { name := "LOG2_BYTE_BIT_SIZE", type := .int, accessFlags := 26, slot := 10, constantValue := 0 }, { name := "T_BOOLEAN", type := .int, accessFlags := 25, slot := 11, constantValue := 0 }, { name := "T_CHAR", type := .int, accessFlags := 25, slot := 12, constantValue := 0 }, { name := "T_FLOAT", type := .int, accessFlags := 25, slot := 13, constantValue := 0 }, { name := "T_DOUBLE", type := .int, accessFlags := 25, slot := 14, constantValue := 0 }, { name := "T_BYTE", type := .int, accessFlags := 25, slot := 15, constantValue := 0 }, { name := "T_SHORT", type := .int, accessFlags := 25, slot := 16, constantValue := 0 }, { name := "T_INT", type := .int, accessFlags := 25, slot := 17, constantValue := 0 }, { name := "T_LONG", type := .int, accessFlags := 25, slot := 18, constantValue := 0 }, { name := "JLA", type := (.object "jdk/internal/access/JavaLangAccess"), accessFlags := 26, slot := 19, constantValue := 0 }, { name := "SOFT_MAX_ARRAY_LENGTH", type := .int, accessFlags := 25, slot := 20, constantValue := 0 }]
  methods := #[k13m0]
  instanceTypes := #[]
  staticTypes := #[(.object "jdk/internal/misc/Unsafe"), .boolean, .int, .int, .int, .int, .int, .int, .int, .int, .int, .int, .int, .int, .int, .int, .int, .int, .int, (.object "jdk/internal/access/JavaLangAccess"), .int]
  resolved := Array.replicate 378 none
  statics := none }

def pool14 : Array CpInfo := pool [(1, u "java/lang/Cloneable"), (0, .class_ 1), (0, u "java/lang/Object"), (0, .class_ 3)] 3

/-- java/lang/Cloneable -/
def k14 : Class := { plain "java/lang/Cloneable" (some 0) with
  accessFlags := 1537
  interfaces := #[]
  cf := some (fileOf pool14 2 #[] #[] 1537 4 #[] #[])
  fields := #[]
  methods := #[]
  instanceTypes := #[]
  staticTypes := #[]
  resolved := Array.replicate 8 none
  statics := none }

/-- the primitive byte -/
def k15 : Class := { plain "byte" none with kind := .primitive 'B', accessFlags := 0x411 }
/-- [B -/
def k16 : Class := { plain "[B" (some 0) with kind := .array 15 .byte, interfaces := #[14, 4], accessFlags := 1041 }

/-- the primitive char -/
def k17 : Class := { plain "char" none with kind := .primitive 'C', accessFlags := 0x411 }
/-- [C -/
def k18 : Class := { plain "[C" (some 0) with kind := .array 17 .char, interfaces := #[14, 4], accessFlags := 1041 }

/-- the primitive int -/
def k19 : Class := { plain "int" none with kind := .primitive 'I', accessFlags := 0x411 }
/-- [I -/
def k20 : Class := { plain "[I" (some 0) with kind := .array 19 .int, interfaces := #[14, 4], accessFlags := 1041 }

def heap : Heap := #[{ cls := 6, slots := #[.ref 4, .ref 5, .ref 6, .ref 7, .null, .null], vm := .statics 6 },
  { cls := 9, slots := #[.long 0, .int 1, .null, .int 0, .null, .int 0, .int 0], vm := .statics 9 },
  { cls := 10, slots := #[.int 0, .int 8, .int 0, .int 1], vm := .statics 10 },
  { cls := 12, slots := #[.null, .null, .null], vm := .statics 12 },
  { cls := 6, slots := #[.null, .int 0, .int 0, .int 0, .int 0], vm := .none },
  { cls := 6, slots := #[.null, .int 1, .int 0, .int 1, .int 0], vm := .none },
  { cls := 6, slots := #[.null, .int 2, .int 0, .int 0, .int 1], vm := .none },
  { cls := 6, slots := #[.null, .int 3, .int 0, .int 1, .int 1], vm := .none }]
def classes : Array Class := #[k0, k1, k2, k3, k4, k5, k6, k7, k8, k9, k10, k11, k12, k13, k14, k15, k16, k17, k18, k19, k20]
def interned : List (Array UInt16 × Addr) := []
def slotsUsed : Nat := 40
def theMethod : MethodId := ⟨1, 2⟩
def args0 : Array Value := #[.int 3, .int 3, .int 65, .int 66, .int 67]
def aboutOver (below : List Frame) : State where
  vm := { classes := classes, interned := interned.toArray }
  heap := heap
  slotsUsed := slotsUsed
  threads := #[{ frames := .invoking theMethod args0 :: below }]
def below0 : List Frame := [.native { method := ⟨0, 0⟩, args := #[] }]
def about1 : State := aboutOver below0
def p0 : Program := .bare "" "" ""
def e0 : Env := launch0.env 0 0 0
theorem w_frames : about1.frames = Frame.invoking theMethod args0 :: below0 := rfl
set_option maxRecDepth 65536 in
theorem w_args : argsFit about1.vm theMethod args0 = true := by decide +kernel
set_option maxRecDepth 65536 in
theorem w_heap : heapFits about1 = true := by decide +kernel
set_option maxRecDepth 65536 in
theorem w_runnable : about1.curStatus? = some .runnable := by decide +kernel
set_option maxRecDepth 65536 in
theorem w_alone : about1.alone = true := by decide +kernel
set_option maxRecDepth 65536 in
theorem w_named : about1.methodNamed? x = some theMethod := by decide +kernel
set_option maxRecDepth 65536 in
theorem w_hears : about1.hears theMethod below0 = true := by decide +kernel
set_option maxRecDepth 65536 in
theorem w_ripe : about1.ripe theMethod args0 below0 = true := by decide +kernel
theorem w_running : about1.status = .running := rfl
set_option maxRecDepth 65536 in
theorem w_room : about1.hasRoom e0.platform room_1 = true :=
  launch0.hasRoom_least _ room_1 (by decide +kernel) (by decide +kernel) (by decide +kernel) (by decide +kernel) (by decide +kernel) (by decide +kernel)
theorem allAtoms_all (ts : List Jvm.Cond) (a : Array Jvm.Value) (st : Jvm.State) : (allAtoms ts).before a st = ts.all (fun c => c.before a st) := by
  induction ts with
  | nil => rfl
  | cons c t ih =>
    show (Jvm.Cond.and c (allAtoms t)).before a st = _
    rw [Jvm.Cond.before_and, ih, List.all_cons]
def words1 : List Jvm.Cond := Jvm.Cond.code x code maxLocals ret :: tables_1
/-- a 'code' word, met by the world's own term for the bytes: nothing is compared byte by byte -/
theorem code_word {y : MethodName} {bytes : ByteArray} {mx : Nat} {rt : Option FieldType} {a : Array Value} {s : State} {m : MethodId} {meth : Method} {c : Code} (h1 : s.methodNamed? y = some m) (h2 : s.vm.method? m = some meth) (h3 : meth.code = some c) (h4 : c.code = bytes)
    (h5 : (c.maxLocals == mx && c.exceptionTable.isEmpty && decide (c.maxStack ≤ mostOperands) && decide (meth.sig.returnType = rt) && !meth.locks && decide (parseMethodDescriptor y.desc = some meth.sig)) = true) : (Jvm.Cond.code y bytes mx rt).before a s = true := by
  simp only [Bool.and_eq_true, beq_iff_eq, Bool.not_eq_true', decide_eq_true_eq] at h5
  obtain ⟨⟨⟨⟨⟨g1, g2⟩, g3⟩, g4⟩, g5⟩, g6⟩ := h5
  simp [Cond.before, Cond.holds, Cond.value, h1, h2, h3, h4, g1, g2, g3, g4, g5, g6]
def isCode : Jvm.Cond → Bool
  | .code _ _ _ _ => true
  | _ => false
theorem all_split {L : List Jvm.Cond} {P : Jvm.Cond → Bool} (h1 : L.all (fun c => isCode c || P c) = true) (h2 : ∀ c ∈ L.filter isCode, P c = true) : L.all P = true := by
  refine List.all_eq_true.mpr fun c hc => ?_
  have h := List.all_eq_true.mp h1 c hc
  rcases Bool.eq_false_or_eq_true (isCode c) with hi | hi
  · exact h2 c (List.mem_filter.mpr ⟨hc, hi⟩)
  · simpa [hi] using h
set_option maxRecDepth 65536 in
theorem w_c0 : (Jvm.Cond.code x code maxLocals ret).before args0 about1 = true := code_word (m := ⟨1, 2⟩) (meth := k1m2) (c := k1c2) (by decide +kernel) rfl rfl rfl (by decide +kernel)
set_option maxRecDepth 65536 in
theorem w_c1 : (Jvm.Cond.code ({ cls := "com/example/grantwright/grantwright/BypassTakesPinLaw", name := "pick", desc := "(I)Lcom/example/grantwright/grantwright/Bypass;" } : Jvm.MethodName) method_2_code (1 : Nat) (Option.some (Jvm.ClassFile.FieldType.object "com/example/grantwright/grantwright/Bypass"))).before args0 about1 = true := code_word (m := ⟨1, 1⟩) (meth := k1m1) (c := k1c1) (by decide +kernel) rfl rfl rfl (by decide +kernel)
set_option maxRecDepth 65536 in
theorem w_c2 : (Jvm.Cond.code ({ cls := "java/lang/String", name := "<init>", desc := "([C)V" } : Jvm.MethodName) jdk_42_method_3_code (2 : Nat) (Option.none : Option Jvm.ClassFile.FieldType)).before args0 about1 = true := code_word (m := ⟨9, 1⟩) (meth := k9m1) (c := k9c1) (by decide +kernel) rfl rfl rfl (by decide +kernel)
set_option maxRecDepth 65536 in
theorem w_c3 : (Jvm.Cond.code ({ cls := "java/lang/String", name := "<init>", desc := "([CIILjava/lang/Void;)V" } : Jvm.MethodName) jdk_42_method_149_code (6 : Nat) (Option.none : Option Jvm.ClassFile.FieldType)).before args0 about1 = true := code_word (m := ⟨9, 3⟩) (meth := k9m3) (c := k9c3) (by decide +kernel) rfl rfl rfl (by decide +kernel)
set_option maxRecDepth 65536 in
theorem w_c4 : (Jvm.Cond.code ({ cls := "java/lang/Object", name := "<init>", desc := "()V" } : Jvm.MethodName) object_method_1_code (1 : Nat) (Option.none : Option Jvm.ClassFile.FieldType)).before args0 about1 = true := code_word (m := ⟨0, 0⟩) (meth := k0m0) (c := k0c0) (by decide +kernel) rfl rfl rfl (by decide +kernel)
set_option maxRecDepth 65536 in
theorem w_c5 : (Jvm.Cond.code ({ cls := "java/lang/StringUTF16", name := "compress", desc := "([CII)[B" } : Jvm.MethodName) jdk_52_method_16_code (6 : Nat) (Option.some (Jvm.ClassFile.FieldType.array Jvm.ClassFile.FieldType.byte))).before args0 about1 = true := code_word (m := ⟨10, 7⟩) (meth := k10m7) (c := k10c7) (by decide +kernel) rfl rfl rfl (by decide +kernel)
set_option maxRecDepth 65536 in
theorem w_c6 : (Jvm.Cond.code ({ cls := "java/lang/StringUTF16", name := "compress", desc := "([CI[BII)I" } : Jvm.MethodName) jdk_52_method_21_code (7 : Nat) (Option.some Jvm.ClassFile.FieldType.int)).before args0 about1 = true := code_word (m := ⟨10, 8⟩) (meth := k10m8) (c := k10c8) (by decide +kernel) rfl rfl rfl (by decide +kernel)
set_option maxRecDepth 65536 in
theorem w_c7 : (Jvm.Cond.code ({ cls := "java/lang/StringUTF16", name := "coderFromArrayLen", desc := "([BI)B" } : Jvm.MethodName) jdk_52_method_15_code (2 : Nat) (Option.some Jvm.ClassFile.FieldType.byte)).before args0 about1 = true := code_word (m := ⟨10, 6⟩) (meth := k10m6) (c := k10c6) (by decide +kernel) rfl rfl rfl (by decide +kernel)
set_option maxRecDepth 65536 in
theorem w_c8 : (Jvm.Cond.code ({ cls := "com/example/grantwright/grantwright/Bypass", name := "takes", desc := "(Ljava/lang/String;)Z" } : Jvm.MethodName) prog_6_method_4_code (2 : Nat) (Option.some Jvm.ClassFile.FieldType.boolean)).before args0 about1 = true := code_word (m := ⟨6, 0⟩) (meth := k6m0) (c := k6c0) (by decide +kernel) rfl rfl rfl (by decide +kernel)
set_option maxRecDepth 65536 in
theorem w_c9 : (Jvm.Cond.code ({ cls := "java/lang/String", name := "equals", desc := "(Ljava/lang/Object;)Z" } : Jvm.MethodName) jdk_42_method_66_code (3 : Nat) (Option.some Jvm.ClassFile.FieldType.boolean)).before args0 about1 = true := code_word (m := ⟨9, 2⟩) (meth := k9m2) (c := k9c2) (by decide +kernel) rfl rfl rfl (by decide +kernel)
set_option maxRecDepth 65536 in
theorem w_c10 : (Jvm.Cond.code ({ cls := "java/lang/StringLatin1", name := "equals", desc := "([B[B)Z" } : Jvm.MethodName) jdk_43_method_13_code (3 : Nat) (Option.some Jvm.ClassFile.FieldType.boolean)).before args0 about1 = true := code_word (m := ⟨11, 1⟩) (meth := k11m1) (c := k11c1) (by decide +kernel) rfl rfl rfl (by decide +kernel)
set_option maxRecDepth 65536 in
theorem w_c11 : (Jvm.Cond.code ({ cls := "java/lang/StringUTF16", name := "toBytes", desc := "([CII)[B" } : Jvm.MethodName) jdk_52_method_14_code (5 : Nat) (Option.some (Jvm.ClassFile.FieldType.array Jvm.ClassFile.FieldType.byte))).before args0 about1 = true := code_word (m := ⟨10, 5⟩) (meth := k10m5) (c := k10c5) (by decide +kernel) rfl rfl rfl (by decide +kernel)
set_option maxRecDepth 65536 in
theorem w_c12 : (Jvm.Cond.code ({ cls := "java/lang/StringUTF16", name := "newBytesFor", desc := "(I)[B" } : Jvm.MethodName) jdk_52_method_2_code (1 : Nat) (Option.some (Jvm.ClassFile.FieldType.array Jvm.ClassFile.FieldType.byte))).before args0 about1 = true := code_word (m := ⟨10, 1⟩) (meth := k10m1) (c := k10c1) (by decide +kernel) rfl rfl rfl (by decide +kernel)
set_option maxRecDepth 65536 in
theorem w_c13 : (Jvm.Cond.code ({ cls := "java/lang/StringUTF16", name := "newBytesLength", desc := "(I)I" } : Jvm.MethodName) jdk_52_method_3_code (1 : Nat) (Option.some Jvm.ClassFile.FieldType.int)).before args0 about1 = true := code_word (m := ⟨10, 2⟩) (meth := k10m2) (c := k10c2) (by decide +kernel) rfl rfl rfl (by decide +kernel)
set_option maxRecDepth 65536 in
theorem w_c14 : (Jvm.Cond.code ({ cls := "java/lang/StringUTF16", name := "putChar", desc := "([BII)V" } : Jvm.MethodName) jdk_52_method_4_code (3 : Nat) (Option.none : Option Jvm.ClassFile.FieldType)).before args0 about1 = true := code_word (m := ⟨10, 3⟩) (meth := k10m3) (c := k10c3) (by decide +kernel) rfl rfl rfl (by decide +kernel)
set_option maxRecDepth 65536 in
theorem w_c15 : (Jvm.Cond.code ({ cls := "java/lang/StringUTF16", name := "getChar", desc := "([BI)C" } : Jvm.MethodName) jdk_52_method_5_code (2 : Nat) (Option.some Jvm.ClassFile.FieldType.char)).before args0 about1 = true := code_word (m := ⟨10, 4⟩) (meth := k10m4) (c := k10c4) (by decide +kernel) rfl rfl rfl (by decide +kernel)
def codes1 : List Jvm.Cond := [Jvm.Cond.code x code maxLocals ret, Jvm.Cond.code ({ cls := "com/example/grantwright/grantwright/BypassTakesPinLaw", name := "pick", desc := "(I)Lcom/example/grantwright/grantwright/Bypass;" } : Jvm.MethodName) method_2_code (1 : Nat) (Option.some (Jvm.ClassFile.FieldType.object "com/example/grantwright/grantwright/Bypass")), Jvm.Cond.code ({ cls := "java/lang/String", name := "<init>", desc := "([C)V" } : Jvm.MethodName) jdk_42_method_3_code (2 : Nat) (Option.none : Option Jvm.ClassFile.FieldType), Jvm.Cond.code ({ cls := "java/lang/String", name := "<init>", desc := "([CIILjava/lang/Void;)V" } : Jvm.MethodName) jdk_42_method_149_code (6 : Nat) (Option.none : Option Jvm.ClassFile.FieldType), Jvm.Cond.code ({ cls := "java/lang/Object", name := "<init>", desc := "()V" } : Jvm.MethodName) object_method_1_code (1 : Nat) (Option.none : Option Jvm.ClassFile.FieldType), Jvm.Cond.code ({ cls := "java/lang/StringUTF16", name := "compress", desc := "([CII)[B" } : Jvm.MethodName) jdk_52_method_16_code (6 : Nat) (Option.some (Jvm.ClassFile.FieldType.array Jvm.ClassFile.FieldType.byte)), Jvm.Cond.code ({ cls := "java/lang/StringUTF16", name := "compress", desc := "([CI[BII)I" } : Jvm.MethodName) jdk_52_method_21_code (7 : Nat) (Option.some Jvm.ClassFile.FieldType.int), Jvm.Cond.code ({ cls := "java/lang/StringUTF16", name := "coderFromArrayLen", desc := "([BI)B" } : Jvm.MethodName) jdk_52_method_15_code (2 : Nat) (Option.some Jvm.ClassFile.FieldType.byte), Jvm.Cond.code ({ cls := "com/example/grantwright/grantwright/Bypass", name := "takes", desc := "(Ljava/lang/String;)Z" } : Jvm.MethodName) prog_6_method_4_code (2 : Nat) (Option.some Jvm.ClassFile.FieldType.boolean), Jvm.Cond.code ({ cls := "java/lang/String", name := "equals", desc := "(Ljava/lang/Object;)Z" } : Jvm.MethodName) jdk_42_method_66_code (3 : Nat) (Option.some Jvm.ClassFile.FieldType.boolean), Jvm.Cond.code ({ cls := "java/lang/StringLatin1", name := "equals", desc := "([B[B)Z" } : Jvm.MethodName) jdk_43_method_13_code (3 : Nat) (Option.some Jvm.ClassFile.FieldType.boolean), Jvm.Cond.code ({ cls := "java/lang/StringUTF16", name := "toBytes", desc := "([CII)[B" } : Jvm.MethodName) jdk_52_method_14_code (5 : Nat) (Option.some (Jvm.ClassFile.FieldType.array Jvm.ClassFile.FieldType.byte)), Jvm.Cond.code ({ cls := "java/lang/StringUTF16", name := "newBytesFor", desc := "(I)[B" } : Jvm.MethodName) jdk_52_method_2_code (1 : Nat) (Option.some (Jvm.ClassFile.FieldType.array Jvm.ClassFile.FieldType.byte)), Jvm.Cond.code ({ cls := "java/lang/StringUTF16", name := "newBytesLength", desc := "(I)I" } : Jvm.MethodName) jdk_52_method_3_code (1 : Nat) (Option.some Jvm.ClassFile.FieldType.int), Jvm.Cond.code ({ cls := "java/lang/StringUTF16", name := "putChar", desc := "([BII)V" } : Jvm.MethodName) jdk_52_method_4_code (3 : Nat) (Option.none : Option Jvm.ClassFile.FieldType), Jvm.Cond.code ({ cls := "java/lang/StringUTF16", name := "getChar", desc := "([BI)C" } : Jvm.MethodName) jdk_52_method_5_code (2 : Nat) (Option.some Jvm.ClassFile.FieldType.char)]
set_option maxRecDepth 65536 in
theorem codes_eq : words1.filter isCode = codes1 := rfl
theorem w_codes : ∀ c ∈ words1.filter isCode, c.before args0 about1 = true := by
  rw [codes_eq]
  intro c hc
  simp only [codes1, List.mem_cons, List.not_mem_nil, or_false] at hc
  rcases hc with rfl | rfl | rfl | rfl | rfl | rfl | rfl | rfl | rfl | rfl | rfl | rfl | rfl | rfl | rfl | rfl
  · exact w_c0
  · exact w_c1
  · exact w_c2
  · exact w_c3
  · exact w_c4
  · exact w_c5
  · exact w_c6
  · exact w_c7
  · exact w_c8
  · exact w_c9
  · exact w_c10
  · exact w_c11
  · exact w_c12
  · exact w_c13
  · exact w_c14
  · exact w_c15
set_option maxRecDepth 65536 in
theorem w_t1 : (words1.take 24).all (fun c => isCode c || c.before args0 about1) = true := by decide +kernel
set_option maxRecDepth 65536 in
theorem w_t2 : ((words1.drop 24).take 24).all (fun c => isCode c || c.before args0 about1) = true := by decide +kernel
set_option maxRecDepth 65536 in
theorem w_t3 : (((words1.drop 24).drop 24).take 24).all (fun c => isCode c || c.before args0 about1) = true := by decide +kernel
set_option maxRecDepth 65536 in
theorem w_t4 : (((words1.drop 24).drop 24).drop 24).all (fun c => isCode c || c.before args0 about1) = true := by decide +kernel
theorem w_tables : (allAtoms (Jvm.Cond.code x code maxLocals ret :: tables_1)).before args0 about1 = true := by
  rw [allAtoms_all]
  show words1.all (fun c => c.before args0 about1) = true
  refine all_split ?_ w_codes
  rw [← List.take_append_drop 24 words1, List.all_append, w_t1, ← List.take_append_drop 24 (words1.drop 24), List.all_append, w_t2, ← List.take_append_drop 24 ((words1.drop 24).drop 24), List.all_append, w_t3, w_t4]
  rfl
set_option maxRecDepth 65536 in
theorem w_rest : rest_1_c.before args0 about1 = true := by decide +kernel
set_option maxRecDepth 65536 in
theorem w_case : (Jvm.Cond.and given_1 narrow_1).before args0 about1 = true := by decide +kernel
set_option maxRecDepth 65536 in
theorem w_consts : constsHeld consts_1 about1 := Jvm.Lit.constsHeldB_iff.mp (by decide +kernel)
theorem w_applies : (headSpec (Jvm.Cond.code x code maxLocals ret :: tables_1) room_1).applies x e0.platform about1 = true :=
  (Spec.applies_iff w_frames).mpr ⟨w_running, w_runnable, w_alone, w_named, w_hears, w_ripe, w_room, w_tables⟩
theorem atStart : AtStart classFile x code maxLocals ret World_1 tables_1 room_1 Calls_1 rest_1 Pre_1 launch0 p0 e0 about1 theMethod args0 below0 :=
  ⟨lists_1, trivial, launch0.admits_env _ _ _, launch0.least_env, fairChoices_fair.cas, fairChoices_fair.clock, w_frames, w_args, w_heap, w_applies, ⟨w_consts, trivial⟩, w_rest, w_case⟩
end start1
theorem witness_1 : WitnessClaimed_1 := ⟨start1.p0, start1.e0, start1.about1, start1.theMethod, start1.args0, start1.below0, start1.atStart⟩
end Jvm.Pilot.@@N@@
