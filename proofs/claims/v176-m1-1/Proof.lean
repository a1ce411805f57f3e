import JvmDerived
import JvmDerived.Pilot.@@N@@Statement
import JvmDerived.Pilot.@@N@@Code
set_option linter.unusedVariables false
set_option linter.unusedSimpArgs false
namespace Jvm.RoadKit
open Sem ClassFile Op Lib Jvm.Stand Jvm.Free Jvm.LawKit
section New
variable {p : Program} {l : Launch} {e : Env} {R : Room} {s : State} {m : MethodId} {args : Array Value} {below : List Frame} {meth : Method} {c : Code} {T : State} {locs : List Loc} {cells slots : Nat}
theorem retI (X : Stand p l e R s m args below meth c T locs cells slots) (hx : p.tables.exec = Jvm.exec) {pc : Nat} {Ls : Array Slot} {z : Int32} {rest : List Value} (hret : meth.sig.returnType = some .int) (hd : decode c.code pc = .ok (.ireturn, 1)) {fs : List Frame}
    (hl : ∀ (f : JFrame) (acts : List Action), f.method = m → f.locked = none → f.entered = [] → (doReturn e (T.setTop f) acts (some (.int z))).1 = T.setFrames fs) : Steps p.tables e below (T.setTop (mkF m pc Ls (.int z :: rest))) (T.setFrames fs) := by
  have hm' : T.vm.method? m = some meth := X.method'
  have hn : narrow .int (.int z) = .int z := rfl
  show Steps p.tables e below (T.setTop { method := m, pc := pc, locals := Ls, stack := _ :: rest, locked := none }) _
  jvm_step X.here [X.here.top, hx, hd, hm', hret, hn]
  first | (intro acts; rw [hl _ acts rfl rfl rfl]) | rw [hl _ _ rfl rfl rfl]
  exact Steps.refl _
end New
end Jvm.RoadKit
namespace Jvm.Pilot.@@N@@
open Jvm Jvm.ClassFile Sem Op Lib Jvm.Free Jvm.Stand Jvm.LawKit Jvm.RoadKit Bundle Jvm.Pilot.@@N@@.Jvm.D
theorem oW {Z : State} {a0 : Array Value} (hw : ∀ d ∈ tables_1, d.before a0 Z = true) (i : Nat) {d : Jvm.Cond} (h : tables_1[i]? = some d) : d.before a0 Z = true := hw d (List.mem_of_getElem? h)
abbrev oI (x : Int32) : Slot := .val (.int x)
abbrev oR (x : Addr) : Slot := .val (.ref x)
abbrev oV (x : Value) : Slot := .val x
abbrev oN : Slot := .val .null
abbrev oU : Slot := .unset
abbrev oi (x : Int32) : Value := .int x
abbrev ow (x : Addr) : Value := .ref x
abbrev oS (p : Program) (e : Env) (below : List Frame) (T : State) (g : JFrame) (t : State) : Prop := Steps p.tables e below (T.setTop g) t
abbrev oL (p : Program) (e : Env) (below : List Frame) (T : State) (g : JFrame) (T' : State) (g' : JFrame) : Prop := ∀ t, Steps p.tables e below (T.setTop g) t → Steps p.tables e below (T'.setTop g') t
theorem own_fldI {args : Array Value} {Z : State} {t : Term} {C n d : String} {k : Int32} {a : Addr} (ev : t.eval args Z none [] Z = some (.ref a)) (h : (Jvm.Cond.eq (.field t C n d) (.int k)).value args Z none Z [] = some true) : Fld Z Z.heap a C n d (.int k) := by
  obtain ⟨x, y, h1, h2, hk, hk'⟩ := cmp_v (Or.inl h)
  have h2' : y = .int k := by simpa [Term.eval] using h2.symm
  subst h2'
  obtain ⟨z, rfl⟩ : ∃ z, x = .int z := hk'
  have : z = k := by simpa [Cond.value, h1, h2] using h
  subst this
  exact Fld.start ((fld_at ev).symm.trans h1)
def own_acc (o p : Int32) : Int32 := if o = 0 then (if p = 0 then 1 else 0) else if o = 1 then (if p = 0 then 0 else 1) else if o = 2 then (if p < 0 then 1 else 0) else if o = 3 then (if 0 < p then 0 else 1) else if o = 4 then (if 0 < p then 1 else 0) else (if p < 0 then 0 else 1)
theorem own_acc_neg {p : Int32} (h : p < 0) : 0 = own_acc 0 p ∧ 1 = own_acc 1 p ∧ 1 = own_acc 2 p ∧ 1 = own_acc 3 p ∧ 0 = own_acc 4 p ∧ 0 = own_acc 5 p := by
  have h1 : ¬ p = 0 := fun q => by subst q; exact absurd h (by decide)
  have h2 : ¬ 0 < p := fun q => by rw [Int32.lt_iff_toInt_lt] at h q; omega
  simp [own_acc, h, h1, h2]
theorem own_acc_zero {p : Int32} (h : p = 0) : 1 = own_acc 0 p ∧ 0 = own_acc 1 p ∧ 0 = own_acc 2 p ∧ 1 = own_acc 3 p ∧ 0 = own_acc 4 p ∧ 1 = own_acc 5 p := by subst h; decide
theorem own_acc_pos {p : Int32} (h : ¬ p < 0) (h1 : ¬ p = 0) : 0 = own_acc 0 p ∧ 1 = own_acc 1 p ∧ 0 = own_acc 2 p ∧ 0 = own_acc 3 p ∧ 1 = own_acc 4 p ∧ 1 = own_acc 5 p := by
  have h2 : 0 < p := by
    rw [Int32.lt_iff_toInt_lt] at h ⊢
    have : p.toInt ≠ (0 : Int32).toInt := fun q => h1 (Int32.toInt_inj.mp q)
    omega
  simp [own_acc, h, h1, h2]
theorem pn_java_lang_Enum : plainName "java/lang/Enum" = true := by first | (simp [plainName, overriddenIn]; done) | decide +kernel
theorem d2_0 : decode jdk_37_method_2_code 0 = .ok (.aload_n 0, 1) := by decide +kernel
theorem d2_1 : decode jdk_37_method_2_code 1 = .ok (.getfield 7, 3) := by decide +kernel
theorem d2_4 : decode jdk_37_method_2_code 4 = .ok (.ireturn, 1) := by decide +kernel
def Q_rm_ord (Z : State) (a1 : Addr) (o1 : Int32) (h0 : Heap) (n0 : Nat) (v : Option Value) (h : Heap) (L : List Loc) : Prop := v = some (.int o1) ∧ Fr n0 L ∧ h = h0
set_option maxRecDepth 65536 in
set_option maxHeartbeats 40000000 in
theorem rm_ord (l : Launch) (Z : State) (a0 : Array Value) (hw : ∀ d ∈ tables_1, d.before a0 Z = true) (ws : List Jvm.Cond) (a1 : Addr) (o1 : Int32) (h0 : Heap) (n0 : Nat) (OL : Old Z n0 h0) (f1 : Fld Z Z.heap a1 "java/lang/Enum" "ordinal" "I" (.int o1)) :
    MetFree l (⟨"java/lang/Enum", "ordinal", "()I"⟩ : MethodName) (head1 (Jvm.Cond.code (⟨"java/lang/Enum", "ordinal", "()I"⟩ : MethodName) jdk_37_method_2_code 1 (some .int) :: ws) ({ frames := 0, cells := 0, slots := 0, locals := 0 } : Room)) (fun a U => a = #[(.ref a1)] ∧ Z.Warmed39 U.vm ∧ U.heap = h0) (fun _ _ _ _ _ => True) (fun _ U o U' => ∃ v L, o = .returned v ∧ Q_rm_ord Z a1 o1 h0 n0 v U'.heap L ∧ FrameEnd U o U' L ({ frames := 0, cells := 0, slots := 0, locals := 0 } : Room).cells ({ frames := 0, cells := 0, slots := 0, locals := 0 } : Room).slots) := by
  refine MetFree.of_bodySF (plainFor_of_name pn_java_lang_Enum) hisR ?_
  intro p e s m args below meth c s₁ Bd hml0 hP hK
  obtain ⟨rfl, hZ, hh⟩ := hP
  have hx := Bd.exec
  have hby := Bd.bytes
  have hml : c.maxLocals = 1 := hml0
  have hown : s.vm.findClass "java/lang/Enum" = some m.cls := findClass_of_methodNamed Bd.named
  have hnm := (name_of_methodNamed Bd.named Bd.method).1
  have X0 : Stand p l e ({ frames := 0, cells := 0, slots := 0, locals := 0 } : Room) s m #[(.ref a1)] below meth c s₁ [] 0 0 := Stand.of_body Bd
  have e0 : s₁.heap = h0 := by rw [← hh, Bd.state]; rfl
  have N0 := Fr.nil n0
  have pre0 : oL p e below s₁ (mkF m 0 #[oR a1] []) s₁ (entryFrame m #[(.ref a1)] 1) := fun t k => castTop (by first | (simp [entryFrame, mkF, argsToLocals, Value.category]; done) | rfl) k
  have pre1 : oL p e below s₁ (mkF m 1 #[oR a1] [ow a1]) s₁ (entryFrame m #[(.ref a1)] 1) := fun t k => pre0 t (by
    refine XS.aloadN X0.here hx rfl (hb hby d2_0) rfl rfl ?_
    exact k)
  obtain ⟨T2, X2, e2, st2⟩ := getF X0 hx hZ hown (host := "") (Or.inl (oW hw 15 rfl)) Via.refl e0 (f1.ext OL.2) (g := (mkF m 1 #[oR a1] [ow a1])) rfl rfl (hb hby d2_1)
  have pre3 : oL p e below T2 (mkF m 4 #[oR a1] [oi o1]) s₁ (entryFrame m #[(.ref a1)] 1) := fun t k => pre1 t (by
    refine st2 _ ?_
    exact k)
  obtain ⟨fs, hr, hrun, hended, hW, hsame⟩ := X2.leave (v := some (.int o1)) (fun h => by rw [Bd.returns] at h; cases h)
  refine ⟨_, _, pre3 _ ?_, hrun, hended, _, _, rfl, ?_, ⟨_, rfl⟩, hW, hsame.mono (by decide) (by decide)⟩
  ·
    show oS p e below T2 (mkF m 4 #[oR a1] [oi o1]) _
    exact retI X2 hx Bd.returns (hb hby d2_4) hr
  ·
    show Q_rm_ord Z a1 o1 h0 n0 _ T2.heap _
    rw [e2]
    exact ⟨rfl, N0, rfl⟩
theorem pn_com_example_cesson_cesson_model_Target_Operator : plainName "com/example/cesson/cesson/model/Target$Operator" = true := by first | (simp [plainName, overriddenIn]; done) | decide +kernel
theorem d1_0 : decode prog_23_method_5_code 0 = .ok (.aload_n 0, 1) := by decide +kernel
theorem d1_1 : decode prog_23_method_5_code 1 = .ok (.invokevirtual 45, 3) := by decide +kernel
theorem pd___I : parseMethodDescriptor "()I" = some ⟨[], some .int⟩ := by decide +kernel
theorem d1_4 : decode prog_23_method_5_code 4 = .ok (.tableswitch 40 0 5 #[50, 62, 74, 86, 98, 110], 40) := by decide +kernel
theorem d1_54 : decode prog_23_method_5_code 54 = .ok (.iload_n 1, 1) := by decide +kernel
theorem d1_55 : decode prog_23_method_5_code 55 = .ok (.ifCond .ne 7, 3) := by decide +kernel
theorem d1_58 : decode prog_23_method_5_code 58 = .ok (.iconst 1, 1) := by decide +kernel
theorem d1_59 : decode prog_23_method_5_code 59 = .ok (.goto 64, 3) := by decide +kernel
theorem d1_123 : decode prog_23_method_5_code 123 = .ok (.ireturn, 1) := by decide +kernel
theorem d1_62 : decode prog_23_method_5_code 62 = .ok (.iconst 0, 1) := by decide +kernel
theorem d1_63 : decode prog_23_method_5_code 63 = .ok (.goto 60, 3) := by decide +kernel
theorem d1_66 : decode prog_23_method_5_code 66 = .ok (.iload_n 1, 1) := by decide +kernel
theorem d1_67 : decode prog_23_method_5_code 67 = .ok (.ifCond .eq 7, 3) := by decide +kernel
theorem d1_74 : decode prog_23_method_5_code 74 = .ok (.iconst 0, 1) := by decide +kernel
theorem d1_75 : decode prog_23_method_5_code 75 = .ok (.goto 48, 3) := by decide +kernel
theorem d1_70 : decode prog_23_method_5_code 70 = .ok (.iconst 1, 1) := by decide +kernel
theorem d1_71 : decode prog_23_method_5_code 71 = .ok (.goto 52, 3) := by decide +kernel
theorem d1_78 : decode prog_23_method_5_code 78 = .ok (.iload_n 1, 1) := by decide +kernel
theorem d1_79 : decode prog_23_method_5_code 79 = .ok (.ifCond .ge 7, 3) := by decide +kernel
theorem d1_82 : decode prog_23_method_5_code 82 = .ok (.iconst 1, 1) := by decide +kernel
theorem d1_83 : decode prog_23_method_5_code 83 = .ok (.goto 40, 3) := by decide +kernel
theorem d1_86 : decode prog_23_method_5_code 86 = .ok (.iconst 0, 1) := by decide +kernel
theorem d1_87 : decode prog_23_method_5_code 87 = .ok (.goto 36, 3) := by decide +kernel
theorem d1_90 : decode prog_23_method_5_code 90 = .ok (.iload_n 1, 1) := by decide +kernel
theorem d1_91 : decode prog_23_method_5_code 91 = .ok (.ifCond .gt 7, 3) := by decide +kernel
theorem d1_98 : decode prog_23_method_5_code 98 = .ok (.iconst 0, 1) := by decide +kernel
theorem d1_99 : decode prog_23_method_5_code 99 = .ok (.goto 24, 3) := by decide +kernel
theorem d1_94 : decode prog_23_method_5_code 94 = .ok (.iconst 1, 1) := by decide +kernel
theorem d1_95 : decode prog_23_method_5_code 95 = .ok (.goto 28, 3) := by decide +kernel
theorem d1_102 : decode prog_23_method_5_code 102 = .ok (.iload_n 1, 1) := by decide +kernel
theorem d1_103 : decode prog_23_method_5_code 103 = .ok (.ifCond .le 7, 3) := by decide +kernel
theorem d1_106 : decode prog_23_method_5_code 106 = .ok (.iconst 1, 1) := by decide +kernel
theorem d1_107 : decode prog_23_method_5_code 107 = .ok (.goto 16, 3) := by decide +kernel
theorem d1_110 : decode prog_23_method_5_code 110 = .ok (.iconst 0, 1) := by decide +kernel
theorem d1_111 : decode prog_23_method_5_code 111 = .ok (.goto 12, 3) := by decide +kernel
theorem d1_114 : decode prog_23_method_5_code 114 = .ok (.iload_n 1, 1) := by decide +kernel
theorem d1_115 : decode prog_23_method_5_code 115 = .ok (.ifCond .lt 7, 3) := by decide +kernel
theorem d1_122 : decode prog_23_method_5_code 122 = .ok (.iconst 0, 1) := by decide +kernel
theorem d1_118 : decode prog_23_method_5_code 118 = .ok (.iconst 1, 1) := by decide +kernel
theorem d1_119 : decode prog_23_method_5_code 119 = .ok (.goto 4, 3) := by decide +kernel
def Q_rm_acc (Z : State) (a1 : Addr) (p2 : Int32) (o1 : Int32) (r : Int32) (h0 : Heap) (n0 : Nat) (v : Option Value) (h : Heap) (L : List Loc) : Prop := v = some (.int r) ∧ Fr n0 L ∧ h = h0
set_option maxRecDepth 65536 in
set_option maxHeartbeats 40000000 in
theorem rm_acc (l : Launch) (Z : State) (a0 : Array Value) (hw : ∀ d ∈ tables_1, d.before a0 Z = true) (ws : List Jvm.Cond) (a1 : Addr) (p2 : Int32) (o1 : Int32) (r : Int32) (h0 : Heap) (n0 : Nat) (OL : Old Z n0 h0) (e1 : Exa Z Z.heap a1 "com/example/cesson/cesson/model/Target$Operator") (f1 : Fld Z Z.heap a1 "java/lang/Enum" "ordinal" "I" (.int o1)) (ho1 : o1 = 0 ∨ o1 = 1 ∨ o1 = 2 ∨ o1 = 3 ∨ o1 = 4 ∨ o1 = 5) (hr' : r = own_acc o1 p2) :
    MetFree l (⟨"com/example/cesson/cesson/model/Target$Operator", "accepts", "(I)Z"⟩ : MethodName) (head1 (Jvm.Cond.code (⟨"com/example/cesson/cesson/model/Target$Operator", "accepts", "(I)Z"⟩ : MethodName) prog_23_method_5_code 2 (some .boolean) :: ws) ({ frames := 1, cells := 0, slots := 0, locals := 12 } : Room)) (fun a U => a = #[(.ref a1), (.int p2)] ∧ Z.Warmed39 U.vm ∧ U.heap = h0) (fun _ _ _ _ _ => True) (fun _ U o U' => ∃ v L, o = .returned v ∧ Q_rm_acc Z a1 p2 o1 r h0 n0 v U'.heap L ∧ FrameEnd U o U' L ({ frames := 1, cells := 0, slots := 0, locals := 12 } : Room).cells ({ frames := 1, cells := 0, slots := 0, locals := 12 } : Room).slots) := by
  refine MetFree.of_bodySF (plainFor_of_name pn_com_example_cesson_cesson_model_Target_Operator) hisR ?_
  intro p e s m args below meth c s₁ Bd hml0 hP hK
  obtain ⟨rfl, hZ, hh⟩ := hP
  have hx := Bd.exec
  have hby := Bd.bytes
  have hml : c.maxLocals = 2 := hml0
  have hown : s.vm.findClass "com/example/cesson/cesson/model/Target$Operator" = some m.cls := findClass_of_methodNamed Bd.named
  have hnm := (name_of_methodNamed Bd.named Bd.method).1
  have X0 : Stand p l e ({ frames := 1, cells := 0, slots := 0, locals := 12 } : Room) s m #[(.ref a1), (.int p2)] below meth c s₁ [] 0 0 := Stand.of_body Bd
  have e0 : s₁.heap = h0 := by rw [← hh, Bd.state]; rfl
  have N0 := Fr.nil n0
  have pre0 : oL p e below s₁ (mkF m 0 #[oR a1, oI p2] []) s₁ (entryFrame m #[(.ref a1), (.int p2)] 2) := fun t k => castTop (by first | (simp [entryFrame, mkF, argsToLocals, Value.category]; done) | rfl) k
  have pre1 : oL p e below s₁ (mkF m 1 #[oR a1, oI p2] [ow a1]) s₁ (entryFrame m #[(.ref a1), (.int p2)] 2) := fun t k => pre0 t (by
    refine XS.aloadN X0.here hx rfl (hb hby d1_0) rfl rfl ?_
    exact k)
  obtain ⟨cq2, kq2, q2a, q2b, q2c⟩ := isOf hZ e0 (e1.ext OL.2)
  obtain ⟨_, _, ⟨T2, L2, k2, n2⟩, -, X2, ⟨Lc2, hQ2, l2, y2, z2⟩, st2⟩ := X0.virtualBackUp hx (x := (⟨"com/example/cesson/cesson/model/Target$Operator", "ordinal", "()I"⟩ : MethodName)) (y := (⟨"java/lang/Enum", "ordinal", "()I"⟩ : MethodName)) (owner := "java/lang/Enum") hown (mvT hZ (oW hw 8 rfl)) (mvT hZ (oW hw 9 rfl)) (mvT hZ (oW hw 10 rfl)) (by decide) (mvT hZ (oW hw 12 rfl)) (mvT hZ (oW hw 11 rfl)) (backOf (W := 0) (rm_ord l Z a0 hw [] a1 o1 h0 n0 OL f1) hZ (oW hw 14 rfl) (oW hw 13 rfl) (by decide) (by decide)) q2a q2c (g := (mkF m 1 #[oR a1, oI p2] [ow a1])) rfl (by rw [hml]; rfl) (Steps.refl _) (argsL := []) (rest := []) (lenOf pd___I rfl) rfl (by show 2 * 0 + _ ≤ _; exact Nat.le_of_eq rfl) (hb hby d1_1) (fun _ _ => ⟨rfl, e0, (by decide : 0 + 0 ≤ _), (by decide : 0 + 0 ≤ _)⟩)
  dsimp only [Pt.U, Pt.locs, Pt.cells, Pt.slots] at X2 l2 y2 z2 st2 hQ2
  subst l2 y2 z2
  obtain ⟨rfl, N2q, e2⟩ := hQ2
  have N2 := Fr.app N0 N2q
  have pre3 : oL p e below T2 (mkF m 4 #[oR a1, oI p2] [oi o1]) s₁ (entryFrame m #[(.ref a1), (.int p2)] 2) := fun t k => pre1 t (by
    refine st2.trans ?_
    exact k)
  rcases ho1 with hl4 | hl4 | hl4 | hl4 | hl4 | hl4
  ·
    rw [hl4] at pre3
    have pre5 : oL p e below T2 (mkF m 55 #[oR a1, oI p2] [oi p2]) s₁ (entryFrame m #[(.ref a1), (.int p2)] 2) := fun t k => pre3 t (by
      refine XS.tswIn X2.here hx rfl (o := 50) (pc0 := 4) (pc' := 54) rfl (hb hby d1_4) rfl (by decide) (by decide) (by decide) (by decide) ?_
      refine XS.iloadN X2.here hx rfl (hb hby d1_54) rfl ?_
      show oS p e below T2 (mkF m 55 #[oR a1, oI p2] [oi p2]) _
      exact k)
    by_cases hc6 : p2 = (0 : Int32)
    ·
      have pre7 : oL p e below T2 (mkF m 123 #[oR a1, oI p2] [oi 1]) s₁ (entryFrame m #[(.ref a1), (.int p2)] 2) := fun t k => pre5 t (by
        refine XS.ifNo X2.here hx rfl (hb hby d1_55) rfl ((if0 _ _).trans (teq hc6).2) ?_
        refine XS.iconst X2.here hx rfl (hb hby d1_58) ?_
        refine XS.goto X2.here hx rfl (pc0 := 59) (pc' := 123) rfl (hb hby d1_59) (by decide) (by decide) ?_
        exact k)
      obtain ⟨fs, hr, hrun, hended, hW, hsame⟩ := X2.leave (v := some (.int (1 : Int32))) (fun h => by rw [Bd.returns] at h; cases h)
      refine ⟨_, _, pre7 _ ?_, hrun, hended, _, _, rfl, ?_, ⟨_, rfl⟩, hW, hsame.mono (by decide) (by decide)⟩
      ·
        show oS p e below T2 (mkF m 123 #[oR a1, oI p2] [oi 1]) _
        exact retN X2 hx (t := .boolean) Bd.returns (by simp) (hb hby d1_123) hr
      ·
        show Q_rm_acc Z a1 p2 o1 r h0 n0 _ T2.heap _
        rw [e2]
        exact ⟨by rw [hr', hl4]; simp [own_acc, hc6], N2, rfl⟩
    ·
      have pre8 : oL p e below T2 (mkF m 123 #[oR a1, oI p2] [oi 0]) s₁ (entryFrame m #[(.ref a1), (.int p2)] 2) := fun t k => pre5 t (by
        refine XS.ifYes X2.here hx rfl (pc0 := 55) (pc' := 62) rfl (hb hby d1_55) rfl ((if0 _ _).trans (feq hc6).2) (by decide) (by decide) ?_
        refine XS.iconst X2.here hx rfl (hb hby d1_62) ?_
        refine XS.goto X2.here hx rfl (pc0 := 63) (pc' := 123) rfl (hb hby d1_63) (by decide) (by decide) ?_
        exact k)
      obtain ⟨fs, hr, hrun, hended, hW, hsame⟩ := X2.leave (v := some (.int (0 : Int32))) (fun h => by rw [Bd.returns] at h; cases h)
      refine ⟨_, _, pre8 _ ?_, hrun, hended, _, _, rfl, ?_, ⟨_, rfl⟩, hW, hsame.mono (by decide) (by decide)⟩
      ·
        show oS p e below T2 (mkF m 123 #[oR a1, oI p2] [oi 0]) _
        exact retN X2 hx (t := .boolean) Bd.returns (by simp) (hb hby d1_123) hr
      ·
        show Q_rm_acc Z a1 p2 o1 r h0 n0 _ T2.heap _
        rw [e2]
        exact ⟨by rw [hr', hl4]; simp [own_acc, hc6], N2, rfl⟩
  ·
    rw [hl4] at pre3
    have pre9 : oL p e below T2 (mkF m 67 #[oR a1, oI p2] [oi p2]) s₁ (entryFrame m #[(.ref a1), (.int p2)] 2) := fun t k => pre3 t (by
      refine XS.tswIn X2.here hx rfl (o := 62) (pc0 := 4) (pc' := 66) rfl (hb hby d1_4) rfl (by decide) (by decide) (by decide) (by decide) ?_
      refine XS.iloadN X2.here hx rfl (hb hby d1_66) rfl ?_
      show oS p e below T2 (mkF m 67 #[oR a1, oI p2] [oi p2]) _
      exact k)
    by_cases hc10 : p2 = (0 : Int32)
    ·
      have pre11 : oL p e below T2 (mkF m 123 #[oR a1, oI p2] [oi 0]) s₁ (entryFrame m #[(.ref a1), (.int p2)] 2) := fun t k => pre9 t (by
        refine XS.ifYes X2.here hx rfl (pc0 := 67) (pc' := 74) rfl (hb hby d1_67) rfl ((if0 _ _).trans (teq hc10).1) (by decide) (by decide) ?_
        refine XS.iconst X2.here hx rfl (hb hby d1_74) ?_
        refine XS.goto X2.here hx rfl (pc0 := 75) (pc' := 123) rfl (hb hby d1_75) (by decide) (by decide) ?_
        exact k)
      obtain ⟨fs, hr, hrun, hended, hW, hsame⟩ := X2.leave (v := some (.int (0 : Int32))) (fun h => by rw [Bd.returns] at h; cases h)
      refine ⟨_, _, pre11 _ ?_, hrun, hended, _, _, rfl, ?_, ⟨_, rfl⟩, hW, hsame.mono (by decide) (by decide)⟩
      ·
        show oS p e below T2 (mkF m 123 #[oR a1, oI p2] [oi 0]) _
        exact retN X2 hx (t := .boolean) Bd.returns (by simp) (hb hby d1_123) hr
      ·
        show Q_rm_acc Z a1 p2 o1 r h0 n0 _ T2.heap _
        rw [e2]
        exact ⟨by rw [hr', hl4]; simp [own_acc, hc10], N2, rfl⟩
    ·
      have pre12 : oL p e below T2 (mkF m 123 #[oR a1, oI p2] [oi 1]) s₁ (entryFrame m #[(.ref a1), (.int p2)] 2) := fun t k => pre9 t (by
        refine XS.ifNo X2.here hx rfl (hb hby d1_67) rfl ((if0 _ _).trans (feq hc10).1) ?_
        refine XS.iconst X2.here hx rfl (hb hby d1_70) ?_
        refine XS.goto X2.here hx rfl (pc0 := 71) (pc' := 123) rfl (hb hby d1_71) (by decide) (by decide) ?_
        exact k)
      obtain ⟨fs, hr, hrun, hended, hW, hsame⟩ := X2.leave (v := some (.int (1 : Int32))) (fun h => by rw [Bd.returns] at h; cases h)
      refine ⟨_, _, pre12 _ ?_, hrun, hended, _, _, rfl, ?_, ⟨_, rfl⟩, hW, hsame.mono (by decide) (by decide)⟩
      ·
        show oS p e below T2 (mkF m 123 #[oR a1, oI p2] [oi 1]) _
        exact retN X2 hx (t := .boolean) Bd.returns (by simp) (hb hby d1_123) hr
      ·
        show Q_rm_acc Z a1 p2 o1 r h0 n0 _ T2.heap _
        rw [e2]
        exact ⟨by rw [hr', hl4]; simp [own_acc, hc10], N2, rfl⟩
  ·
    rw [hl4] at pre3
    have pre13 : oL p e below T2 (mkF m 79 #[oR a1, oI p2] [oi p2]) s₁ (entryFrame m #[(.ref a1), (.int p2)] 2) := fun t k => pre3 t (by
      refine XS.tswIn X2.here hx rfl (o := 74) (pc0 := 4) (pc' := 78) rfl (hb hby d1_4) rfl (by decide) (by decide) (by decide) (by decide) ?_
      refine XS.iloadN X2.here hx rfl (hb hby d1_78) rfl ?_
      show oS p e below T2 (mkF m 79 #[oR a1, oI p2] [oi p2]) _
      exact k)
    by_cases hc14 : p2 < (0 : Int32)
    ·
      have pre15 : oL p e below T2 (mkF m 123 #[oR a1, oI p2] [oi 1]) s₁ (entryFrame m #[(.ref a1), (.int p2)] 2) := fun t k => pre13 t (by
        refine XS.ifNo X2.here hx rfl (hb hby d1_79) rfl ((if0 _ _).trans (tlt hc14).2.1) ?_
        refine XS.iconst X2.here hx rfl (hb hby d1_82) ?_
        refine XS.goto X2.here hx rfl (pc0 := 83) (pc' := 123) rfl (hb hby d1_83) (by decide) (by decide) ?_
        exact k)
      obtain ⟨fs, hr, hrun, hended, hW, hsame⟩ := X2.leave (v := some (.int (1 : Int32))) (fun h => by rw [Bd.returns] at h; cases h)
      refine ⟨_, _, pre15 _ ?_, hrun, hended, _, _, rfl, ?_, ⟨_, rfl⟩, hW, hsame.mono (by decide) (by decide)⟩
      ·
        show oS p e below T2 (mkF m 123 #[oR a1, oI p2] [oi 1]) _
        exact retN X2 hx (t := .boolean) Bd.returns (by simp) (hb hby d1_123) hr
      ·
        show Q_rm_acc Z a1 p2 o1 r h0 n0 _ T2.heap _
        rw [e2]
        exact ⟨by rw [hr', hl4]; simp [own_acc, hc14], N2, rfl⟩
    ·
      have pre16 : oL p e below T2 (mkF m 123 #[oR a1, oI p2] [oi 0]) s₁ (entryFrame m #[(.ref a1), (.int p2)] 2) := fun t k => pre13 t (by
        refine XS.ifYes X2.here hx rfl (pc0 := 79) (pc' := 86) rfl (hb hby d1_79) rfl ((if0 _ _).trans (flt hc14).2.1) (by decide) (by decide) ?_
        refine XS.iconst X2.here hx rfl (hb hby d1_86) ?_
        refine XS.goto X2.here hx rfl (pc0 := 87) (pc' := 123) rfl (hb hby d1_87) (by decide) (by decide) ?_
        exact k)
      obtain ⟨fs, hr, hrun, hended, hW, hsame⟩ := X2.leave (v := some (.int (0 : Int32))) (fun h => by rw [Bd.returns] at h; cases h)
      refine ⟨_, _, pre16 _ ?_, hrun, hended, _, _, rfl, ?_, ⟨_, rfl⟩, hW, hsame.mono (by decide) (by decide)⟩
      ·
        show oS p e below T2 (mkF m 123 #[oR a1, oI p2] [oi 0]) _
        exact retN X2 hx (t := .boolean) Bd.returns (by simp) (hb hby d1_123) hr
      ·
        show Q_rm_acc Z a1 p2 o1 r h0 n0 _ T2.heap _
        rw [e2]
        exact ⟨by rw [hr', hl4]; simp [own_acc, hc14], N2, rfl⟩
  ·
    rw [hl4] at pre3
    have pre17 : oL p e below T2 (mkF m 91 #[oR a1, oI p2] [oi p2]) s₁ (entryFrame m #[(.ref a1), (.int p2)] 2) := fun t k => pre3 t (by
      refine XS.tswIn X2.here hx rfl (o := 86) (pc0 := 4) (pc' := 90) rfl (hb hby d1_4) rfl (by decide) (by decide) (by decide) (by decide) ?_
      refine XS.iloadN X2.here hx rfl (hb hby d1_90) rfl ?_
      show oS p e below T2 (mkF m 91 #[oR a1, oI p2] [oi p2]) _
      exact k)
    by_cases hc18 : (0 : Int32) < p2
    ·
      have pre19 : oL p e below T2 (mkF m 123 #[oR a1, oI p2] [oi 0]) s₁ (entryFrame m #[(.ref a1), (.int p2)] 2) := fun t k => pre17 t (by
        refine XS.ifYes X2.here hx rfl (pc0 := 91) (pc' := 98) rfl (hb hby d1_91) rfl ((if0 _ _).trans (tlt hc18).2.2.1) (by decide) (by decide) ?_
        refine XS.iconst X2.here hx rfl (hb hby d1_98) ?_
        refine XS.goto X2.here hx rfl (pc0 := 99) (pc' := 123) rfl (hb hby d1_99) (by decide) (by decide) ?_
        exact k)
      obtain ⟨fs, hr, hrun, hended, hW, hsame⟩ := X2.leave (v := some (.int (0 : Int32))) (fun h => by rw [Bd.returns] at h; cases h)
      refine ⟨_, _, pre19 _ ?_, hrun, hended, _, _, rfl, ?_, ⟨_, rfl⟩, hW, hsame.mono (by decide) (by decide)⟩
      ·
        show oS p e below T2 (mkF m 123 #[oR a1, oI p2] [oi 0]) _
        exact retN X2 hx (t := .boolean) Bd.returns (by simp) (hb hby d1_123) hr
      ·
        show Q_rm_acc Z a1 p2 o1 r h0 n0 _ T2.heap _
        rw [e2]
        exact ⟨by rw [hr', hl4]; simp [own_acc, hc18], N2, rfl⟩
    ·
      have pre20 : oL p e below T2 (mkF m 123 #[oR a1, oI p2] [oi 1]) s₁ (entryFrame m #[(.ref a1), (.int p2)] 2) := fun t k => pre17 t (by
        refine XS.ifNo X2.here hx rfl (hb hby d1_91) rfl ((if0 _ _).trans (flt hc18).2.2.1) ?_
        refine XS.iconst X2.here hx rfl (hb hby d1_94) ?_
        refine XS.goto X2.here hx rfl (pc0 := 95) (pc' := 123) rfl (hb hby d1_95) (by decide) (by decide) ?_
        exact k)
      obtain ⟨fs, hr, hrun, hended, hW, hsame⟩ := X2.leave (v := some (.int (1 : Int32))) (fun h => by rw [Bd.returns] at h; cases h)
      refine ⟨_, _, pre20 _ ?_, hrun, hended, _, _, rfl, ?_, ⟨_, rfl⟩, hW, hsame.mono (by decide) (by decide)⟩
      ·
        show oS p e below T2 (mkF m 123 #[oR a1, oI p2] [oi 1]) _
        exact retN X2 hx (t := .boolean) Bd.returns (by simp) (hb hby d1_123) hr
      ·
        show Q_rm_acc Z a1 p2 o1 r h0 n0 _ T2.heap _
        rw [e2]
        exact ⟨by rw [hr', hl4]; simp [own_acc, hc18], N2, rfl⟩
  ·
    rw [hl4] at pre3
    have pre21 : oL p e below T2 (mkF m 103 #[oR a1, oI p2] [oi p2]) s₁ (entryFrame m #[(.ref a1), (.int p2)] 2) := fun t k => pre3 t (by
      refine XS.tswIn X2.here hx rfl (o := 98) (pc0 := 4) (pc' := 102) rfl (hb hby d1_4) rfl (by decide) (by decide) (by decide) (by decide) ?_
      refine XS.iloadN X2.here hx rfl (hb hby d1_102) rfl ?_
      show oS p e below T2 (mkF m 103 #[oR a1, oI p2] [oi p2]) _
      exact k)
    by_cases hc22 : (0 : Int32) < p2
    ·
      have pre23 : oL p e below T2 (mkF m 123 #[oR a1, oI p2] [oi 1]) s₁ (entryFrame m #[(.ref a1), (.int p2)] 2) := fun t k => pre21 t (by
        refine XS.ifNo X2.here hx rfl (hb hby d1_103) rfl ((if0 _ _).trans (tlt hc22).2.2.2) ?_
        refine XS.iconst X2.here hx rfl (hb hby d1_106) ?_
        refine XS.goto X2.here hx rfl (pc0 := 107) (pc' := 123) rfl (hb hby d1_107) (by decide) (by decide) ?_
        exact k)
      obtain ⟨fs, hr, hrun, hended, hW, hsame⟩ := X2.leave (v := some (.int (1 : Int32))) (fun h => by rw [Bd.returns] at h; cases h)
      refine ⟨_, _, pre23 _ ?_, hrun, hended, _, _, rfl, ?_, ⟨_, rfl⟩, hW, hsame.mono (by decide) (by decide)⟩
      ·
        show oS p e below T2 (mkF m 123 #[oR a1, oI p2] [oi 1]) _
        exact retN X2 hx (t := .boolean) Bd.returns (by simp) (hb hby d1_123) hr
      ·
        show Q_rm_acc Z a1 p2 o1 r h0 n0 _ T2.heap _
        rw [e2]
        exact ⟨by rw [hr', hl4]; simp [own_acc, hc22], N2, rfl⟩
    ·
      have pre24 : oL p e below T2 (mkF m 123 #[oR a1, oI p2] [oi 0]) s₁ (entryFrame m #[(.ref a1), (.int p2)] 2) := fun t k => pre21 t (by
        refine XS.ifYes X2.here hx rfl (pc0 := 103) (pc' := 110) rfl (hb hby d1_103) rfl ((if0 _ _).trans (flt hc22).2.2.2) (by decide) (by decide) ?_
        refine XS.iconst X2.here hx rfl (hb hby d1_110) ?_
        refine XS.goto X2.here hx rfl (pc0 := 111) (pc' := 123) rfl (hb hby d1_111) (by decide) (by decide) ?_
        exact k)
      obtain ⟨fs, hr, hrun, hended, hW, hsame⟩ := X2.leave (v := some (.int (0 : Int32))) (fun h => by rw [Bd.returns] at h; cases h)
      refine ⟨_, _, pre24 _ ?_, hrun, hended, _, _, rfl, ?_, ⟨_, rfl⟩, hW, hsame.mono (by decide) (by decide)⟩
      ·
        show oS p e below T2 (mkF m 123 #[oR a1, oI p2] [oi 0]) _
        exact retN X2 hx (t := .boolean) Bd.returns (by simp) (hb hby d1_123) hr
      ·
        show Q_rm_acc Z a1 p2 o1 r h0 n0 _ T2.heap _
        rw [e2]
        exact ⟨by rw [hr', hl4]; simp [own_acc, hc22], N2, rfl⟩
  ·
    rw [hl4] at pre3
    have pre25 : oL p e below T2 (mkF m 115 #[oR a1, oI p2] [oi p2]) s₁ (entryFrame m #[(.ref a1), (.int p2)] 2) := fun t k => pre3 t (by
      refine XS.tswIn X2.here hx rfl (o := 110) (pc0 := 4) (pc' := 114) rfl (hb hby d1_4) rfl (by decide) (by decide) (by decide) (by decide) ?_
      refine XS.iloadN X2.here hx rfl (hb hby d1_114) rfl ?_
      show oS p e below T2 (mkF m 115 #[oR a1, oI p2] [oi p2]) _
      exact k)
    by_cases hc26 : p2 < (0 : Int32)
    ·
      have pre27 : oL p e below T2 (mkF m 123 #[oR a1, oI p2] [oi 0]) s₁ (entryFrame m #[(.ref a1), (.int p2)] 2) := fun t k => pre25 t (by
        refine XS.ifYes X2.here hx rfl (pc0 := 115) (pc' := 122) rfl (hb hby d1_115) rfl ((if0 _ _).trans (tlt hc26).1) (by decide) (by decide) ?_
        refine XS.iconst X2.here hx rfl (hb hby d1_122) ?_
        exact k)
      obtain ⟨fs, hr, hrun, hended, hW, hsame⟩ := X2.leave (v := some (.int (0 : Int32))) (fun h => by rw [Bd.returns] at h; cases h)
      refine ⟨_, _, pre27 _ ?_, hrun, hended, _, _, rfl, ?_, ⟨_, rfl⟩, hW, hsame.mono (by decide) (by decide)⟩
      ·
        show oS p e below T2 (mkF m 123 #[oR a1, oI p2] [oi 0]) _
        exact retN X2 hx (t := .boolean) Bd.returns (by simp) (hb hby d1_123) hr
      ·
        show Q_rm_acc Z a1 p2 o1 r h0 n0 _ T2.heap _
        rw [e2]
        exact ⟨by rw [hr', hl4]; simp [own_acc, hc26], N2, rfl⟩
    ·
      have pre28 : oL p e below T2 (mkF m 123 #[oR a1, oI p2] [oi 1]) s₁ (entryFrame m #[(.ref a1), (.int p2)] 2) := fun t k => pre25 t (by
        refine XS.ifNo X2.here hx rfl (hb hby d1_115) rfl ((if0 _ _).trans (flt hc26).1) ?_
        refine XS.iconst X2.here hx rfl (hb hby d1_118) ?_
        refine XS.goto X2.here hx rfl (pc0 := 119) (pc' := 123) rfl (hb hby d1_119) (by decide) (by decide) ?_
        exact k)
      obtain ⟨fs, hr, hrun, hended, hW, hsame⟩ := X2.leave (v := some (.int (1 : Int32))) (fun h => by rw [Bd.returns] at h; cases h)
      refine ⟨_, _, pre28 _ ?_, hrun, hended, _, _, rfl, ?_, ⟨_, rfl⟩, hW, hsame.mono (by decide) (by decide)⟩
      ·
        show oS p e below T2 (mkF m 123 #[oR a1, oI p2] [oi 1]) _
        exact retN X2 hx (t := .boolean) Bd.returns (by simp) (hb hby d1_123) hr
      ·
        show Q_rm_acc Z a1 p2 o1 r h0 n0 _ T2.heap _
        rw [e2]
        exact ⟨by rw [hr', hl4]; simp [own_acc, hc26], N2, rfl⟩
theorem pn_com_example_cesson_cesson_model_OperatorAcceptsPinLaw : plainName "com/example/cesson/cesson/model/OperatorAcceptsPinLaw" = true := by first | (simp [plainName, overriddenIn]; done) | decide +kernel
theorem d3_0 : decode method_3_code 0 = .ok (.iload_n 0, 1) := by decide +kernel
theorem d3_1 : decode method_3_code 1 = .ok (.iload_n 1, 1) := by decide +kernel
theorem d3_2 : decode method_3_code 2 = .ok (.ishr, 1) := by decide +kernel
theorem d3_3 : decode method_3_code 3 = .ok (.iconst 1, 1) := by decide +kernel
theorem d3_4 : decode method_3_code 4 = .ok (.iand, 1) := by decide +kernel
theorem d3_5 : decode method_3_code 5 = .ok (.ifCond .eq 7, 3) := by decide +kernel
theorem d3_12 : decode method_3_code 12 = .ok (.iconst 0, 1) := by decide +kernel
theorem d3_13 : decode method_3_code 13 = .ok (.ireturn, 1) := by decide +kernel
theorem d3_8 : decode method_3_code 8 = .ok (.iconst 1, 1) := by decide +kernel
theorem d3_9 : decode method_3_code 9 = .ok (.goto 4, 3) := by decide +kernel
def Q_rm_all (Z : State) (p1 : Int32) (p2 : Int32) (r : Int32) (h0 : Heap) (n0 : Nat) (v : Option Value) (h : Heap) (L : List Loc) : Prop := v = some (.int r) ∧ Fr n0 L ∧ h = h0
set_option maxRecDepth 65536 in
set_option maxHeartbeats 40000000 in
theorem rm_all (l : Launch) (Z : State) (a0 : Array Value) (hw : ∀ d ∈ tables_1, d.before a0 Z = true) (ws : List Jvm.Cond) (p1 : Int32) (p2 : Int32) (r : Int32) (h0 : Heap) (n0 : Nat) (OL : Old Z n0 h0) (hr' : r = if ((p1 >>> (p2 &&& 31)) &&& (1 : Int32)) = (0 : Int32) then 0 else 1) :
    MetFree l (⟨"com/example/cesson/cesson/model/OperatorAcceptsPinLaw", "allowed", "(II)Z"⟩ : MethodName) (head1 (Jvm.Cond.code (⟨"com/example/cesson/cesson/model/OperatorAcceptsPinLaw", "allowed", "(II)Z"⟩ : MethodName) method_3_code 2 (some .boolean) :: ws) ({ frames := 0, cells := 0, slots := 0, locals := 0 } : Room)) (fun a U => a = #[(.int p1), (.int p2)] ∧ Z.Warmed39 U.vm ∧ U.heap = h0) (fun _ _ _ _ _ => True) (fun _ U o U' => ∃ v L, o = .returned v ∧ Q_rm_all Z p1 p2 r h0 n0 v U'.heap L ∧ FrameEnd U o U' L ({ frames := 0, cells := 0, slots := 0, locals := 0 } : Room).cells ({ frames := 0, cells := 0, slots := 0, locals := 0 } : Room).slots) := by
  refine MetFree.of_bodySF (plainFor_of_name pn_com_example_cesson_cesson_model_OperatorAcceptsPinLaw) hisR ?_
  intro p e s m args below meth c s₁ Bd hml0 hP hK
  obtain ⟨rfl, hZ, hh⟩ := hP
  have hx := Bd.exec
  have hby := Bd.bytes
  have hml : c.maxLocals = 2 := hml0
  have hown : s.vm.findClass "com/example/cesson/cesson/model/OperatorAcceptsPinLaw" = some m.cls := findClass_of_methodNamed Bd.named
  have hnm := (name_of_methodNamed Bd.named Bd.method).1
  have X0 : Stand p l e ({ frames := 0, cells := 0, slots := 0, locals := 0 } : Room) s m #[(.int p1), (.int p2)] below meth c s₁ [] 0 0 := Stand.of_body Bd
  have e0 : s₁.heap = h0 := by rw [← hh, Bd.state]; rfl
  have N0 := Fr.nil n0
  have pre0 : oL p e below s₁ (mkF m 0 #[oI p1, oI p2] []) s₁ (entryFrame m #[(.int p1), (.int p2)] 2) := fun t k => castTop (by first | (simp [entryFrame, mkF, argsToLocals, Value.category]; done) | rfl) k
  have pre1 : oL p e below s₁ (mkF m 5 #[oI p1, oI p2] [oi ((p1 >>> (p2 &&& 31)) &&& (1 : Int32))]) s₁ (entryFrame m #[(.int p1), (.int p2)] 2) := fun t k => pre0 t (by
    refine XS.iloadN X0.here hx rfl (hb hby d3_0) rfl ?_
    refine XS.iloadN X0.here hx rfl (hb hby d3_1) rfl ?_
    refine XS.ishr X0.here hx rfl (hb hby d3_2) rfl ?_
    refine XS.iconst X0.here hx rfl (hb hby d3_3) ?_
    show oS p e below s₁ (mkF m 4 #[oI p1, oI p2] [oi 1, oi (p1 >>> (p2 &&& 31))]) _
    refine XS.iand X0.here hx rfl (hb hby d3_4) rfl ?_
    exact k)
  by_cases hc2 : ((p1 >>> (p2 &&& 31)) &&& (1 : Int32)) = (0 : Int32)
  ·
    have pre3 : oL p e below s₁ (mkF m 13 #[oI p1, oI p2] [oi 0]) s₁ (entryFrame m #[(.int p1), (.int p2)] 2) := fun t k => pre1 t (by
      refine XS.ifYes X0.here hx rfl (pc0 := 5) (pc' := 12) rfl (hb hby d3_5) rfl ((if0 _ _).trans (teq hc2).1) (by decide) (by decide) ?_
      refine XS.iconst X0.here hx rfl (hb hby d3_12) ?_
      exact k)
    obtain ⟨fs, hr, hrun, hended, hW, hsame⟩ := X0.leave (v := some (.int (0 : Int32))) (fun h => by rw [Bd.returns] at h; cases h)
    refine ⟨_, _, pre3 _ ?_, hrun, hended, _, _, rfl, ?_, ⟨_, rfl⟩, hW, hsame.mono (by decide) (by decide)⟩
    ·
      show oS p e below s₁ (mkF m 13 #[oI p1, oI p2] [oi 0]) _
      exact retN X0 hx (t := .boolean) Bd.returns (by simp) (hb hby d3_13) hr
    ·
      show Q_rm_all Z p1 p2 r h0 n0 _ s₁.heap _
      rw [e0]
      exact ⟨by rw [hr', if_pos hc2], N0, rfl⟩
  ·
    have pre4 : oL p e below s₁ (mkF m 13 #[oI p1, oI p2] [oi 1]) s₁ (entryFrame m #[(.int p1), (.int p2)] 2) := fun t k => pre1 t (by
      refine XS.ifNo X0.here hx rfl (hb hby d3_5) rfl ((if0 _ _).trans (feq hc2).1) ?_
      refine XS.iconst X0.here hx rfl (hb hby d3_8) ?_
      refine XS.goto X0.here hx rfl (pc0 := 9) (pc' := 13) rfl (hb hby d3_9) (by decide) (by decide) ?_
      show oS p e below s₁ (mkF m 13 #[oI p1, oI p2] [oi 1]) _
      exact k)
    obtain ⟨fs, hr, hrun, hended, hW, hsame⟩ := X0.leave (v := some (.int (1 : Int32))) (fun h => by rw [Bd.returns] at h; cases h)
    refine ⟨_, _, pre4 _ ?_, hrun, hended, _, _, rfl, ?_, ⟨_, rfl⟩, hW, hsame.mono (by decide) (by decide)⟩
    ·
      show oS p e below s₁ (mkF m 13 #[oI p1, oI p2] [oi 1]) _
      exact retN X0 hx (t := .boolean) Bd.returns (by simp) (hb hby d3_13) hr
    ·
      show Q_rm_all Z p1 p2 r h0 n0 _ s₁.heap _
      rw [e0]
      exact ⟨by rw [hr', if_neg hc2], N0, rfl⟩
theorem pd__I_Z : parseMethodDescriptor "(I)Z" = some ⟨[.int], some .boolean⟩ := by decide +kernel
theorem pd__II_Z : parseMethodDescriptor "(II)Z" = some ⟨[.int, .int], some .boolean⟩ := by decide +kernel
def Q_rm0 (Z : State) (p1 : Int32) (w_EQUAL : Addr) (w_NOT_EQUAL : Addr) (w_LESS : Addr) (w_LESS_OR_EQUAL : Addr) (w_GREATER : Addr) (w_GREATER_OR_EQUAL : Addr) (h0 : Heap) (n0 : Nat) (v : Option Value) (h : Heap) (L : List Loc) : Prop := v = some (.int (1 : Int32)) ∧ Fr n0 L
set_option maxRecDepth 65536 in
set_option maxHeartbeats 40000000 in
theorem rm0 (l : Launch) (Z : State) (a0 : Array Value) (hw : ∀ d ∈ tables_1, d.before a0 Z = true) (ws : List Jvm.Cond) (p1 : Int32) (w_EQUAL : Addr) (w_NOT_EQUAL : Addr) (w_LESS : Addr) (w_LESS_OR_EQUAL : Addr) (w_GREATER : Addr) (w_GREATER_OR_EQUAL : Addr) (h0 : Heap) (n0 : Nat) (OL : Old Z n0 h0) (s_EQUAL : Sta Z Z.heap "com/example/cesson/cesson/model/Target$Operator" "EQUAL" "Lcom/example/cesson/cesson/model/Target$Operator;" (.ref w_EQUAL)) (s_NOT_EQUAL : Sta Z Z.heap "com/example/cesson/cesson/model/Target$Operator" "NOT_EQUAL" "Lcom/example/cesson/cesson/model/Target$Operator;" (.ref w_NOT_EQUAL)) (s_LESS : Sta Z Z.heap "com/example/cesson/cesson/model/Target$Operator" "LESS" "Lcom/example/cesson/cesson/model/Target$Operator;" (.ref w_LESS)) (s_LESS_OR_EQUAL : Sta Z Z.heap "com/example/cesson/cesson/model/Target$Operator" "LESS_OR_EQUAL" "Lcom/example/cesson/cesson/model/Target$Operator;" (.ref w_LESS_OR_EQUAL)) (s_GREATER : Sta Z Z.heap "com/example/cesson/cesson/model/Target$Operator" "GREATER" "Lcom/example/cesson/cesson/model/Target$Operator;" (.ref w_GREATER)) (s_GREATER_OR_EQUAL : Sta Z Z.heap "com/example/cesson/cesson/model/Target$Operator" "GREATER_OR_EQUAL" "Lcom/example/cesson/cesson/model/Target$Operator;" (.ref w_GREATER_OR_EQUAL)) (e_EQUAL : Exa Z Z.heap w_EQUAL "com/example/cesson/cesson/model/Target$Operator") (e_NOT_EQUAL : Exa Z Z.heap w_NOT_EQUAL "com/example/cesson/cesson/model/Target$Operator") (e_LESS : Exa Z Z.heap w_LESS "com/example/cesson/cesson/model/Target$Operator") (e_LESS_OR_EQUAL : Exa Z Z.heap w_LESS_OR_EQUAL "com/example/cesson/cesson/model/Target$Operator") (e_GREATER : Exa Z Z.heap w_GREATER "com/example/cesson/cesson/model/Target$Operator") (e_GREATER_OR_EQUAL : Exa Z Z.heap w_GREATER_OR_EQUAL "com/example/cesson/cesson/model/Target$Operator") (f_EQUAL : Fld Z Z.heap w_EQUAL "java/lang/Enum" "ordinal" "I" (.int 0)) (f_NOT_EQUAL : Fld Z Z.heap w_NOT_EQUAL "java/lang/Enum" "ordinal" "I" (.int 1)) (f_LESS : Fld Z Z.heap w_LESS "java/lang/Enum" "ordinal" "I" (.int 2)) (f_LESS_OR_EQUAL : Fld Z Z.heap w_LESS_OR_EQUAL "java/lang/Enum" "ordinal" "I" (.int 3)) (f_GREATER : Fld Z Z.heap w_GREATER "java/lang/Enum" "ordinal" "I" (.int 4)) (f_GREATER_OR_EQUAL : Fld Z Z.heap w_GREATER_OR_EQUAL "java/lang/Enum" "ordinal" "I" (.int 5)) :
    MetFree l x (head1 (Jvm.Cond.code x code maxLocals ret :: ws) room_1) (fun a U => a = #[(.int p1)] ∧ Z.Warmed39 U.vm ∧ U.heap = h0) (fun _ _ _ _ _ => True) (fun _ U o U' => ∃ v L, o = .returned v ∧ Q_rm0 Z p1 w_EQUAL w_NOT_EQUAL w_LESS w_LESS_OR_EQUAL w_GREATER w_GREATER_OR_EQUAL h0 n0 v U'.heap L ∧ FrameEnd U o U' L room_1.cells room_1.slots) := by
  refine MetFree.of_bodySF (plainFor_of_name pn_com_example_cesson_cesson_model_OperatorAcceptsPinLaw) hisR ?_
  intro p e s m args below meth c s₁ Bd hml0 hP hK
  obtain ⟨rfl, hZ, hh⟩ := hP
  have hx := Bd.exec
  have hby := Bd.bytes
  have hml : c.maxLocals = 8 := hml0
  have hown : s.vm.findClass "com/example/cesson/cesson/model/OperatorAcceptsPinLaw" = some m.cls := findClass_of_methodNamed Bd.named
  have hnm := (name_of_methodNamed Bd.named Bd.method).1
  have X0 : Stand p l e room_1 s m #[(.int p1)] below meth c s₁ [] 0 0 := Stand.of_body Bd
  have e0 : s₁.heap = h0 := by rw [← hh, Bd.state]; rfl
  have N0 := Fr.nil n0
  have pre0 : oL p e below s₁ (mkF m 0 #[oI p1, oU, oU, oU, oU, oU, oU, oU] []) s₁ (entryFrame m #[(.int p1)] maxLocals) := fun t k => castTop (by first | (simp [entryFrame, mkF, argsToLocals, Value.category, maxLocals]; done) | rfl) k
  have pre1 : oL p e below s₁ (mkF m 1 #[oI p1, oU, oU, oU, oU, oU, oU, oU] [oi p1]) s₁ (entryFrame m #[(.int p1)] maxLocals) := fun t k => pre0 t (by
    refine XS.iloadN X0.here hx rfl (hb hby at_0) rfl ?_
    exact k)
  by_cases hc2 : p1 < (0 : Int32)
  ·
    have pre3 : oL p e below s₁ (mkF m 18 #[oI p1, oI 0, oU, oU, oU, oU, oU, oU] []) s₁ (entryFrame m #[(.int p1)] maxLocals) := fun t k => pre1 t (by
      refine XS.ifNo X0.here hx rfl (hb hby at_1) rfl ((if0 _ _).trans (tlt hc2).2.1) ?_
      refine XS.iconst X0.here hx rfl (hb hby at_4) ?_
      refine XS.goto X0.here hx rfl (pc0 := 5) (pc' := 17) rfl (hb hby at_5) (by decide) (by decide) ?_
      show oS p e below s₁ (mkF m 17 #[oI p1, oU, oU, oU, oU, oU, oU, oU] [oi 0]) _
      refine XS.istoreN X0.here hx rfl (hb hby at_17) rfl (l' := #[oI p1, oI 0, oU, oU, oU, oU, oU, oU]) rfl ?_
      exact k)
    obtain ⟨T4, X4, e4, st4⟩ := getS2 X0 hx hZ hown (host := "") (Or.inl (oW hw 0 rfl)) Via.refl e0 (s_EQUAL.ext OL.2) (g := (mkF m 18 #[oI p1, oI 0, oU, oU, oU, oU, oU, oU] [])) rfl (hb hby at_18)
    have pre5 : oL p e below T4 (mkF m 22 #[oI p1, oI 0, oU, oU, oU, oU, oU, oU] [oi p1, ow w_EQUAL]) s₁ (entryFrame m #[(.int p1)] maxLocals) := fun t k => pre3 t (by
      refine st4 _ ?_
      refine XS.iloadN X4.here hx rfl (hb hby at_21) rfl ?_
      exact k)
    obtain ⟨cq6, kq6, q6a, q6b, q6c⟩ := isOf hZ e4 (e_EQUAL.ext OL.2)
    obtain ⟨_, _, ⟨T6, L6, k6, n6⟩, -, X6, ⟨Lc6, hQ6, l6, y6, z6⟩, st6⟩ := X4.virtualBack hx (y := (⟨"com/example/cesson/cesson/model/Target$Operator", "accepts", "(I)Z"⟩ : MethodName)) (z := (⟨"com/example/cesson/cesson/model/Target$Operator", "accepts", "(I)Z"⟩ : MethodName)) hown (mvT hZ (oW hw 3 rfl)) (mvT hZ (oW hw 4 rfl)) (notFace_of_selects (args := #[]) (mvT hZ (oW hw 6 rfl))) (mvT hZ (oW hw 6 rfl)) (mvT hZ (oW hw 5 rfl)) (by decide) (backOf (W := 0) (rm_acc l Z a0 hw [] w_EQUAL p1 0 0 h0 n0 OL e_EQUAL f_EQUAL (by decide) (own_acc_neg hc2).1) hZ (oW hw 7 rfl) (oW hw 1 rfl) (by decide) (by decide)) q6a q6c (g := (mkF m 22 #[oI p1, oI 0, oU, oU, oU, oU, oU, oU] [oi p1, ow w_EQUAL])) rfl (by rw [hml]; rfl) (Steps.refl _) (argsL := [(.int p1)]) (rest := []) (lenOf pd__I_Z rfl) rfl (by show 2 * 0 + _ ≤ _; exact Nat.le_of_eq rfl) (hb hby at_22) (fun _ _ => ⟨rfl, e4, (by decide : 0 + 0 ≤ _), (by decide : 0 + 0 ≤ _)⟩)
    dsimp only [Pt.U, Pt.locs, Pt.cells, Pt.slots] at X6 l6 y6 z6 st6 hQ6
    subst l6 y6 z6
    obtain ⟨rfl, N6q, e6⟩ := hQ6
    have N6 := Fr.app N0 N6q
    have pre7 : oL p e below T6 (mkF m 27 #[oI p1, oI 0, oU, oU, oU, oU, oU, oU] [oi 0, oi 2, oi 0]) s₁ (entryFrame m #[(.int p1)] maxLocals) := fun t k => pre5 t (by
      refine st6.trans ?_
      show oS p e below T6 (mkF m 25 #[oI p1, oI 0, oU, oU, oU, oU, oU, oU] [oi 0]) _
      refine XS.iconst X6.here hx rfl (hb hby at_25) ?_
      refine XS.iloadN X6.here hx rfl (hb hby at_26) rfl ?_
      exact k)
    obtain ⟨_, _, ⟨T8, L8, k8, n8⟩, -, X8, ⟨Lc8, hQ8, l8, y8, z8⟩, st8⟩ := Jvm.LawKit.callS X6 hx (y := (⟨"com/example/cesson/cesson/model/OperatorAcceptsPinLaw", "allowed", "(II)Z"⟩ : MethodName)) hown (mvT hZ (oW hw 17 rfl)) (mvT hZ (oW hw 18 rfl)) (mvT hZ (oW hw 19 rfl)) (mvT hZ (oW hw 20 rfl)) (by decide) (backOf (W := 1) (rm_all l Z a0 hw [] (2 : Int32) (0 : Int32) 0 h0 n0 OL (by decide)) hZ (oW hw 20 rfl) (oW hw 19 rfl) (by decide) (by decide)) (g := (mkF m 27 #[oI p1, oI 0, oU, oU, oU, oU, oU, oU] [oi 0, oi 2, oi 0])) rfl (by rw [hml]; rfl) (argsL := [(.int (2 : Int32)), (.int (0 : Int32))]) (rest := [(.int (0 : Int32))]) (lenOf pd__II_Z rfl) rfl (by show 2 * 0 + _ ≤ _; exact Nat.le_of_eq rfl) (hb hby at_27) (fun _ _ => ⟨rfl, e6, (by decide : 0 + 0 ≤ _), (by decide : 0 + 0 ≤ _)⟩)
    dsimp only [Pt.U, Pt.locs, Pt.cells, Pt.slots] at X8 l8 y8 z8 st8 hQ8
    subst l8 y8 z8
    obtain ⟨rfl, N8q, e8⟩ := hQ8
    have N8 := Fr.app N6 N8q
    have pre9 : oL p e below T8 (mkF m 39 #[oI p1, oI 0, oI 1, oU, oU, oU, oU, oU] []) s₁ (entryFrame m #[(.int p1)] maxLocals) := fun t k => pre7 t (by
      refine st8 _ ?_
      refine XS.icmpNo X8.here hx rfl (hb hby at_30) rfl (teq (by decide : (0 : Int32) = (0 : Int32))).2 ?_
      show oS p e below T8 (mkF m 33 #[oI p1, oI 0, oU, oU, oU, oU, oU, oU] []) _
      refine XS.iconst X8.here hx rfl (hb hby at_33) ?_
      refine XS.goto X8.here hx rfl (pc0 := 34) (pc' := 38) rfl (hb hby at_34) (by decide) (by decide) ?_
      refine XS.istoreN X8.here hx rfl (hb hby at_38) rfl (l' := #[oI p1, oI 0, oI 1, oU, oU, oU, oU, oU]) rfl ?_
      exact k)
    obtain ⟨T10, X10, e10, st10⟩ := getS2 X8 hx hZ hown (host := "") (Or.inl (oW hw 21 rfl)) Via.refl e8 (s_NOT_EQUAL.ext OL.2) (g := (mkF m 39 #[oI p1, oI 0, oI 1, oU, oU, oU, oU, oU] [])) rfl (hb hby at_39)
    have pre11 : oL p e below T10 (mkF m 43 #[oI p1, oI 0, oI 1, oU, oU, oU, oU, oU] [oi p1, ow w_NOT_EQUAL]) s₁ (entryFrame m #[(.int p1)] maxLocals) := fun t k => pre9 t (by
      refine st10 _ ?_
      show oS p e below T10 (mkF m 42 #[oI p1, oI 0, oI 1, oU, oU, oU, oU, oU] [ow w_NOT_EQUAL]) _
      refine XS.iloadN X10.here hx rfl (hb hby at_42) rfl ?_
      exact k)
    obtain ⟨cq12, kq12, q12a, q12b, q12c⟩ := isOf hZ e10 (e_NOT_EQUAL.ext OL.2)
    obtain ⟨_, _, ⟨T12, L12, k12, n12⟩, -, X12, ⟨Lc12, hQ12, l12, y12, z12⟩, st12⟩ := X10.virtualBack hx (y := (⟨"com/example/cesson/cesson/model/Target$Operator", "accepts", "(I)Z"⟩ : MethodName)) (z := (⟨"com/example/cesson/cesson/model/Target$Operator", "accepts", "(I)Z"⟩ : MethodName)) hown (mvT hZ (oW hw 3 rfl)) (mvT hZ (oW hw 4 rfl)) (notFace_of_selects (args := #[]) (mvT hZ (oW hw 6 rfl))) (mvT hZ (oW hw 6 rfl)) (mvT hZ (oW hw 5 rfl)) (by decide) (backOf (W := 0) (rm_acc l Z a0 hw [] w_NOT_EQUAL p1 1 1 h0 n0 OL e_NOT_EQUAL f_NOT_EQUAL (by decide) (own_acc_neg hc2).2.1) hZ (oW hw 7 rfl) (oW hw 1 rfl) (by decide) (by decide)) q12a q12c (g := (mkF m 43 #[oI p1, oI 0, oI 1, oU, oU, oU, oU, oU] [oi p1, ow w_NOT_EQUAL])) rfl (by rw [hml]; rfl) (Steps.refl _) (argsL := [(.int p1)]) (rest := []) (lenOf pd__I_Z rfl) rfl (by show 2 * 0 + _ ≤ _; exact Nat.le_of_eq rfl) (hb hby at_43) (fun _ _ => ⟨rfl, e10, (by decide : 0 + 0 ≤ _), (by decide : 0 + 0 ≤ _)⟩)
    dsimp only [Pt.U, Pt.locs, Pt.cells, Pt.slots] at X12 l12 y12 z12 st12 hQ12
    subst l12 y12 z12
    obtain ⟨rfl, N12q, e12⟩ := hQ12
    have N12 := Fr.app N8 N12q
    have pre13 : oL p e below T12 (mkF m 48 #[oI p1, oI 0, oI 1, oU, oU, oU, oU, oU] [oi 0, oi 5, oi 1]) s₁ (entryFrame m #[(.int p1)] maxLocals) := fun t k => pre11 t (by
      refine st12.trans ?_
      refine XS.iconst X12.here hx rfl (hb hby at_46) ?_
      refine XS.iloadN X12.here hx rfl (hb hby at_47) rfl ?_
      show oS p e below T12 (mkF m 48 #[oI p1, oI 0, oI 1, oU, oU, oU, oU, oU] [oi 0, oi 5, oi 1]) _
      exact k)
    obtain ⟨_, _, ⟨T14, L14, k14, n14⟩, -, X14, ⟨Lc14, hQ14, l14, y14, z14⟩, st14⟩ := Jvm.LawKit.callS X12 hx (y := (⟨"com/example/cesson/cesson/model/OperatorAcceptsPinLaw", "allowed", "(II)Z"⟩ : MethodName)) hown (mvT hZ (oW hw 17 rfl)) (mvT hZ (oW hw 18 rfl)) (mvT hZ (oW hw 19 rfl)) (mvT hZ (oW hw 20 rfl)) (by decide) (backOf (W := 1) (rm_all l Z a0 hw [] (5 : Int32) (0 : Int32) 1 h0 n0 OL (by decide)) hZ (oW hw 20 rfl) (oW hw 19 rfl) (by decide) (by decide)) (g := (mkF m 48 #[oI p1, oI 0, oI 1, oU, oU, oU, oU, oU] [oi 0, oi 5, oi 1])) rfl (by rw [hml]; rfl) (argsL := [(.int (5 : Int32)), (.int (0 : Int32))]) (rest := [(.int (1 : Int32))]) (lenOf pd__II_Z rfl) rfl (by show 2 * 0 + _ ≤ _; exact Nat.le_of_eq rfl) (hb hby at_48) (fun _ _ => ⟨rfl, e12, (by decide : 0 + 0 ≤ _), (by decide : 0 + 0 ≤ _)⟩)
    dsimp only [Pt.U, Pt.locs, Pt.cells, Pt.slots] at X14 l14 y14 z14 st14 hQ14
    subst l14 y14 z14
    obtain ⟨rfl, N14q, e14⟩ := hQ14
    have N14 := Fr.app N12 N14q
    have pre15 : oL p e below T14 (mkF m 60 #[oI p1, oI 0, oI 1, oI 1, oU, oU, oU, oU] []) s₁ (entryFrame m #[(.int p1)] maxLocals) := fun t k => pre13 t (by
      refine st14 _ ?_
      refine XS.icmpNo X14.here hx rfl (hb hby at_51) rfl (teq (by decide : (1 : Int32) = (1 : Int32))).2 ?_
      refine XS.iconst X14.here hx rfl (hb hby at_54) ?_
      refine XS.goto X14.here hx rfl (pc0 := 55) (pc' := 59) rfl (hb hby at_55) (by decide) (by decide) ?_
      show oS p e below T14 (mkF m 59 #[oI p1, oI 0, oI 1, oU, oU, oU, oU, oU] [oi 1]) _
      refine XS.istoreN X14.here hx rfl (hb hby at_59) rfl (l' := #[oI p1, oI 0, oI 1, oI 1, oU, oU, oU, oU]) rfl ?_
      exact k)
    obtain ⟨T16, X16, e16, st16⟩ := getS2 X14 hx hZ hown (host := "") (Or.inl (oW hw 23 rfl)) Via.refl e14 (s_LESS.ext OL.2) (g := (mkF m 60 #[oI p1, oI 0, oI 1, oI 1, oU, oU, oU, oU] [])) rfl (hb hby at_60)
    have pre17 : oL p e below T16 (mkF m 64 #[oI p1, oI 0, oI 1, oI 1, oU, oU, oU, oU] [oi p1, ow w_LESS]) s₁ (entryFrame m #[(.int p1)] maxLocals) := fun t k => pre15 t (by
      refine st16 _ ?_
      refine XS.iloadN X16.here hx rfl (hb hby at_63) rfl ?_
      exact k)
    obtain ⟨cq18, kq18, q18a, q18b, q18c⟩ := isOf hZ e16 (e_LESS.ext OL.2)
    obtain ⟨_, _, ⟨T18, L18, k18, n18⟩, -, X18, ⟨Lc18, hQ18, l18, y18, z18⟩, st18⟩ := X16.virtualBack hx (y := (⟨"com/example/cesson/cesson/model/Target$Operator", "accepts", "(I)Z"⟩ : MethodName)) (z := (⟨"com/example/cesson/cesson/model/Target$Operator", "accepts", "(I)Z"⟩ : MethodName)) hown (mvT hZ (oW hw 3 rfl)) (mvT hZ (oW hw 4 rfl)) (notFace_of_selects (args := #[]) (mvT hZ (oW hw 6 rfl))) (mvT hZ (oW hw 6 rfl)) (mvT hZ (oW hw 5 rfl)) (by decide) (backOf (W := 0) (rm_acc l Z a0 hw [] w_LESS p1 2 1 h0 n0 OL e_LESS f_LESS (by decide) (own_acc_neg hc2).2.2.1) hZ (oW hw 7 rfl) (oW hw 1 rfl) (by decide) (by decide)) q18a q18c (g := (mkF m 64 #[oI p1, oI 0, oI 1, oI 1, oU, oU, oU, oU] [oi p1, ow w_LESS])) rfl (by rw [hml]; rfl) (Steps.refl _) (argsL := [(.int p1)]) (rest := []) (lenOf pd__I_Z rfl) rfl (by show 2 * 0 + _ ≤ _; exact Nat.le_of_eq rfl) (hb hby at_64) (fun _ _ => ⟨rfl, e16, (by decide : 0 + 0 ≤ _), (by decide : 0 + 0 ≤ _)⟩)
    dsimp only [Pt.U, Pt.locs, Pt.cells, Pt.slots] at X18 l18 y18 z18 st18 hQ18
    subst l18 y18 z18
    obtain ⟨rfl, N18q, e18⟩ := hQ18
    have N18 := Fr.app N14 N18q
    have pre19 : oL p e below T18 (mkF m 69 #[oI p1, oI 0, oI 1, oI 1, oU, oU, oU, oU] [oi 0, oi 1, oi 1]) s₁ (entryFrame m #[(.int p1)] maxLocals) := fun t k => pre17 t (by
      refine st18.trans ?_
      show oS p e below T18 (mkF m 67 #[oI p1, oI 0, oI 1, oI 1, oU, oU, oU, oU] [oi 1]) _
      refine XS.iconst X18.here hx rfl (hb hby at_67) ?_
      refine XS.iloadN X18.here hx rfl (hb hby at_68) rfl ?_
      exact k)
    obtain ⟨_, _, ⟨T20, L20, k20, n20⟩, -, X20, ⟨Lc20, hQ20, l20, y20, z20⟩, st20⟩ := Jvm.LawKit.callS X18 hx (y := (⟨"com/example/cesson/cesson/model/OperatorAcceptsPinLaw", "allowed", "(II)Z"⟩ : MethodName)) hown (mvT hZ (oW hw 17 rfl)) (mvT hZ (oW hw 18 rfl)) (mvT hZ (oW hw 19 rfl)) (mvT hZ (oW hw 20 rfl)) (by decide) (backOf (W := 1) (rm_all l Z a0 hw [] (1 : Int32) (0 : Int32) 1 h0 n0 OL (by decide)) hZ (oW hw 20 rfl) (oW hw 19 rfl) (by decide) (by decide)) (g := (mkF m 69 #[oI p1, oI 0, oI 1, oI 1, oU, oU, oU, oU] [oi 0, oi 1, oi 1])) rfl (by rw [hml]; rfl) (argsL := [(.int (1 : Int32)), (.int (0 : Int32))]) (rest := [(.int (1 : Int32))]) (lenOf pd__II_Z rfl) rfl (by show 2 * 0 + _ ≤ _; exact Nat.le_of_eq rfl) (hb hby at_69) (fun _ _ => ⟨rfl, e18, (by decide : 0 + 0 ≤ _), (by decide : 0 + 0 ≤ _)⟩)
    dsimp only [Pt.U, Pt.locs, Pt.cells, Pt.slots] at X20 l20 y20 z20 st20 hQ20
    subst l20 y20 z20
    obtain ⟨rfl, N20q, e20⟩ := hQ20
    have N20 := Fr.app N18 N20q
    have pre21 : oL p e below T20 (mkF m 82 #[oI p1, oI 0, oI 1, oI 1, oI 1, oU, oU, oU] []) s₁ (entryFrame m #[(.int p1)] maxLocals) := fun t k => pre19 t (by
      refine st20 _ ?_
      refine XS.icmpNo X20.here hx rfl (hb hby at_72) rfl (teq (by decide : (1 : Int32) = (1 : Int32))).2 ?_
      show oS p e below T20 (mkF m 75 #[oI p1, oI 0, oI 1, oI 1, oU, oU, oU, oU] []) _
      refine XS.iconst X20.here hx rfl (hb hby at_75) ?_
      refine XS.goto X20.here hx rfl (pc0 := 76) (pc' := 80) rfl (hb hby at_76) (by decide) (by decide) ?_
      refine XS.istore X20.here hx rfl (hb hby at_80) rfl (l' := #[oI p1, oI 0, oI 1, oI 1, oI 1, oU, oU, oU]) rfl ?_
      exact k)
    obtain ⟨T22, X22, e22, st22⟩ := getS2 X20 hx hZ hown (host := "") (Or.inl (oW hw 25 rfl)) Via.refl e20 (s_LESS_OR_EQUAL.ext OL.2) (g := (mkF m 82 #[oI p1, oI 0, oI 1, oI 1, oI 1, oU, oU, oU] [])) rfl (hb hby at_82)
    have pre23 : oL p e below T22 (mkF m 86 #[oI p1, oI 0, oI 1, oI 1, oI 1, oU, oU, oU] [oi p1, ow w_LESS_OR_EQUAL]) s₁ (entryFrame m #[(.int p1)] maxLocals) := fun t k => pre21 t (by
      refine st22 _ ?_
      show oS p e below T22 (mkF m 85 #[oI p1, oI 0, oI 1, oI 1, oI 1, oU, oU, oU] [ow w_LESS_OR_EQUAL]) _
      refine XS.iloadN X22.here hx rfl (hb hby at_85) rfl ?_
      exact k)
    obtain ⟨cq24, kq24, q24a, q24b, q24c⟩ := isOf hZ e22 (e_LESS_OR_EQUAL.ext OL.2)
    obtain ⟨_, _, ⟨T24, L24, k24, n24⟩, -, X24, ⟨Lc24, hQ24, l24, y24, z24⟩, st24⟩ := X22.virtualBack hx (y := (⟨"com/example/cesson/cesson/model/Target$Operator", "accepts", "(I)Z"⟩ : MethodName)) (z := (⟨"com/example/cesson/cesson/model/Target$Operator", "accepts", "(I)Z"⟩ : MethodName)) hown (mvT hZ (oW hw 3 rfl)) (mvT hZ (oW hw 4 rfl)) (notFace_of_selects (args := #[]) (mvT hZ (oW hw 6 rfl))) (mvT hZ (oW hw 6 rfl)) (mvT hZ (oW hw 5 rfl)) (by decide) (backOf (W := 0) (rm_acc l Z a0 hw [] w_LESS_OR_EQUAL p1 3 1 h0 n0 OL e_LESS_OR_EQUAL f_LESS_OR_EQUAL (by decide) (own_acc_neg hc2).2.2.2.1) hZ (oW hw 7 rfl) (oW hw 1 rfl) (by decide) (by decide)) q24a q24c (g := (mkF m 86 #[oI p1, oI 0, oI 1, oI 1, oI 1, oU, oU, oU] [oi p1, ow w_LESS_OR_EQUAL])) rfl (by rw [hml]; rfl) (Steps.refl _) (argsL := [(.int p1)]) (rest := []) (lenOf pd__I_Z rfl) rfl (by show 2 * 0 + _ ≤ _; exact Nat.le_of_eq rfl) (hb hby at_86) (fun _ _ => ⟨rfl, e22, (by decide : 0 + 0 ≤ _), (by decide : 0 + 0 ≤ _)⟩)
    dsimp only [Pt.U, Pt.locs, Pt.cells, Pt.slots] at X24 l24 y24 z24 st24 hQ24
    subst l24 y24 z24
    obtain ⟨rfl, N24q, e24⟩ := hQ24
    have N24 := Fr.app N20 N24q
    have pre25 : oL p e below T24 (mkF m 91 #[oI p1, oI 0, oI 1, oI 1, oI 1, oU, oU, oU] [oi 0, oi 3, oi 1]) s₁ (entryFrame m #[(.int p1)] maxLocals) := fun t k => pre23 t (by
      refine st24.trans ?_
      refine XS.iconst X24.here hx rfl (hb hby at_89) ?_
      refine XS.iloadN X24.here hx rfl (hb hby at_90) rfl ?_
      show oS p e below T24 (mkF m 91 #[oI p1, oI 0, oI 1, oI 1, oI 1, oU, oU, oU] [oi 0, oi 3, oi 1]) _
      exact k)
    obtain ⟨_, _, ⟨T26, L26, k26, n26⟩, -, X26, ⟨Lc26, hQ26, l26, y26, z26⟩, st26⟩ := Jvm.LawKit.callS X24 hx (y := (⟨"com/example/cesson/cesson/model/OperatorAcceptsPinLaw", "allowed", "(II)Z"⟩ : MethodName)) hown (mvT hZ (oW hw 17 rfl)) (mvT hZ (oW hw 18 rfl)) (mvT hZ (oW hw 19 rfl)) (mvT hZ (oW hw 20 rfl)) (by decide) (backOf (W := 1) (rm_all l Z a0 hw [] (3 : Int32) (0 : Int32) 1 h0 n0 OL (by decide)) hZ (oW hw 20 rfl) (oW hw 19 rfl) (by decide) (by decide)) (g := (mkF m 91 #[oI p1, oI 0, oI 1, oI 1, oI 1, oU, oU, oU] [oi 0, oi 3, oi 1])) rfl (by rw [hml]; rfl) (argsL := [(.int (3 : Int32)), (.int (0 : Int32))]) (rest := [(.int (1 : Int32))]) (lenOf pd__II_Z rfl) rfl (by show 2 * 0 + _ ≤ _; exact Nat.le_of_eq rfl) (hb hby at_91) (fun _ _ => ⟨rfl, e24, (by decide : 0 + 0 ≤ _), (by decide : 0 + 0 ≤ _)⟩)
    dsimp only [Pt.U, Pt.locs, Pt.cells, Pt.slots] at X26 l26 y26 z26 st26 hQ26
    subst l26 y26 z26
    obtain ⟨rfl, N26q, e26⟩ := hQ26
    have N26 := Fr.app N24 N26q
    have pre27 : oL p e below T26 (mkF m 104 #[oI p1, oI 0, oI 1, oI 1, oI 1, oI 1, oU, oU] []) s₁ (entryFrame m #[(.int p1)] maxLocals) := fun t k => pre25 t (by
      refine st26 _ ?_
      refine XS.icmpNo X26.here hx rfl (hb hby at_94) rfl (teq (by decide : (1 : Int32) = (1 : Int32))).2 ?_
      refine XS.iconst X26.here hx rfl (hb hby at_97) ?_
      refine XS.goto X26.here hx rfl (pc0 := 98) (pc' := 102) rfl (hb hby at_98) (by decide) (by decide) ?_
      show oS p e below T26 (mkF m 102 #[oI p1, oI 0, oI 1, oI 1, oI 1, oU, oU, oU] [oi 1]) _
      refine XS.istore X26.here hx rfl (hb hby at_102) rfl (l' := #[oI p1, oI 0, oI 1, oI 1, oI 1, oI 1, oU, oU]) rfl ?_
      exact k)
    obtain ⟨T28, X28, e28, st28⟩ := getS2 X26 hx hZ hown (host := "") (Or.inl (oW hw 27 rfl)) Via.refl e26 (s_GREATER.ext OL.2) (g := (mkF m 104 #[oI p1, oI 0, oI 1, oI 1, oI 1, oI 1, oU, oU] [])) rfl (hb hby at_104)
    have pre29 : oL p e below T28 (mkF m 108 #[oI p1, oI 0, oI 1, oI 1, oI 1, oI 1, oU, oU] [oi p1, ow w_GREATER]) s₁ (entryFrame m #[(.int p1)] maxLocals) := fun t k => pre27 t (by
      refine st28 _ ?_
      refine XS.iloadN X28.here hx rfl (hb hby at_107) rfl ?_
      exact k)
    obtain ⟨cq30, kq30, q30a, q30b, q30c⟩ := isOf hZ e28 (e_GREATER.ext OL.2)
    obtain ⟨_, _, ⟨T30, L30, k30, n30⟩, -, X30, ⟨Lc30, hQ30, l30, y30, z30⟩, st30⟩ := X28.virtualBack hx (y := (⟨"com/example/cesson/cesson/model/Target$Operator", "accepts", "(I)Z"⟩ : MethodName)) (z := (⟨"com/example/cesson/cesson/model/Target$Operator", "accepts", "(I)Z"⟩ : MethodName)) hown (mvT hZ (oW hw 3 rfl)) (mvT hZ (oW hw 4 rfl)) (notFace_of_selects (args := #[]) (mvT hZ (oW hw 6 rfl))) (mvT hZ (oW hw 6 rfl)) (mvT hZ (oW hw 5 rfl)) (by decide) (backOf (W := 0) (rm_acc l Z a0 hw [] w_GREATER p1 4 0 h0 n0 OL e_GREATER f_GREATER (by decide) (own_acc_neg hc2).2.2.2.2.1) hZ (oW hw 7 rfl) (oW hw 1 rfl) (by decide) (by decide)) q30a q30c (g := (mkF m 108 #[oI p1, oI 0, oI 1, oI 1, oI 1, oI 1, oU, oU] [oi p1, ow w_GREATER])) rfl (by rw [hml]; rfl) (Steps.refl _) (argsL := [(.int p1)]) (rest := []) (lenOf pd__I_Z rfl) rfl (by show 2 * 0 + _ ≤ _; exact Nat.le_of_eq rfl) (hb hby at_108) (fun _ _ => ⟨rfl, e28, (by decide : 0 + 0 ≤ _), (by decide : 0 + 0 ≤ _)⟩)
    dsimp only [Pt.U, Pt.locs, Pt.cells, Pt.slots] at X30 l30 y30 z30 st30 hQ30
    subst l30 y30 z30
    obtain ⟨rfl, N30q, e30⟩ := hQ30
    have N30 := Fr.app N26 N30q
    have pre31 : oL p e below T30 (mkF m 113 #[oI p1, oI 0, oI 1, oI 1, oI 1, oI 1, oU, oU] [oi 0, oi 4, oi 0]) s₁ (entryFrame m #[(.int p1)] maxLocals) := fun t k => pre29 t (by
      refine st30.trans ?_
      show oS p e below T30 (mkF m 111 #[oI p1, oI 0, oI 1, oI 1, oI 1, oI 1, oU, oU] [oi 0]) _
      refine XS.iconst X30.here hx rfl (hb hby at_111) ?_
      refine XS.iloadN X30.here hx rfl (hb hby at_112) rfl ?_
      exact k)
    obtain ⟨_, _, ⟨T32, L32, k32, n32⟩, -, X32, ⟨Lc32, hQ32, l32, y32, z32⟩, st32⟩ := Jvm.LawKit.callS X30 hx (y := (⟨"com/example/cesson/cesson/model/OperatorAcceptsPinLaw", "allowed", "(II)Z"⟩ : MethodName)) hown (mvT hZ (oW hw 17 rfl)) (mvT hZ (oW hw 18 rfl)) (mvT hZ (oW hw 19 rfl)) (mvT hZ (oW hw 20 rfl)) (by decide) (backOf (W := 1) (rm_all l Z a0 hw [] (4 : Int32) (0 : Int32) 0 h0 n0 OL (by decide)) hZ (oW hw 20 rfl) (oW hw 19 rfl) (by decide) (by decide)) (g := (mkF m 113 #[oI p1, oI 0, oI 1, oI 1, oI 1, oI 1, oU, oU] [oi 0, oi 4, oi 0])) rfl (by rw [hml]; rfl) (argsL := [(.int (4 : Int32)), (.int (0 : Int32))]) (rest := [(.int (0 : Int32))]) (lenOf pd__II_Z rfl) rfl (by show 2 * 0 + _ ≤ _; exact Nat.le_of_eq rfl) (hb hby at_113) (fun _ _ => ⟨rfl, e30, (by decide : 0 + 0 ≤ _), (by decide : 0 + 0 ≤ _)⟩)
    dsimp only [Pt.U, Pt.locs, Pt.cells, Pt.slots] at X32 l32 y32 z32 st32 hQ32
    subst l32 y32 z32
    obtain ⟨rfl, N32q, e32⟩ := hQ32
    have N32 := Fr.app N30 N32q
    have pre33 : oL p e below T32 (mkF m 126 #[oI p1, oI 0, oI 1, oI 1, oI 1, oI 1, oI 1, oU] []) s₁ (entryFrame m #[(.int p1)] maxLocals) := fun t k => pre31 t (by
      refine st32 _ ?_
      refine XS.icmpNo X32.here hx rfl (hb hby at_116) rfl (teq (by decide : (0 : Int32) = (0 : Int32))).2 ?_
      show oS p e below T32 (mkF m 119 #[oI p1, oI 0, oI 1, oI 1, oI 1, oI 1, oU, oU] []) _
      refine XS.iconst X32.here hx rfl (hb hby at_119) ?_
      refine XS.goto X32.here hx rfl (pc0 := 120) (pc' := 124) rfl (hb hby at_120) (by decide) (by decide) ?_
      refine XS.istore X32.here hx rfl (hb hby at_124) rfl (l' := #[oI p1, oI 0, oI 1, oI 1, oI 1, oI 1, oI 1, oU]) rfl ?_
      exact k)
    obtain ⟨T34, X34, e34, st34⟩ := getS2 X32 hx hZ hown (host := "") (Or.inl (oW hw 29 rfl)) Via.refl e32 (s_GREATER_OR_EQUAL.ext OL.2) (g := (mkF m 126 #[oI p1, oI 0, oI 1, oI 1, oI 1, oI 1, oI 1, oU] [])) rfl (hb hby at_126)
    have pre35 : oL p e below T34 (mkF m 130 #[oI p1, oI 0, oI 1, oI 1, oI 1, oI 1, oI 1, oU] [oi p1, ow w_GREATER_OR_EQUAL]) s₁ (entryFrame m #[(.int p1)] maxLocals) := fun t k => pre33 t (by
      refine st34 _ ?_
      show oS p e below T34 (mkF m 129 #[oI p1, oI 0, oI 1, oI 1, oI 1, oI 1, oI 1, oU] [ow w_GREATER_OR_EQUAL]) _
      refine XS.iloadN X34.here hx rfl (hb hby at_129) rfl ?_
      exact k)
    obtain ⟨cq36, kq36, q36a, q36b, q36c⟩ := isOf hZ e34 (e_GREATER_OR_EQUAL.ext OL.2)
    obtain ⟨_, _, ⟨T36, L36, k36, n36⟩, -, X36, ⟨Lc36, hQ36, l36, y36, z36⟩, st36⟩ := X34.virtualBack hx (y := (⟨"com/example/cesson/cesson/model/Target$Operator", "accepts", "(I)Z"⟩ : MethodName)) (z := (⟨"com/example/cesson/cesson/model/Target$Operator", "accepts", "(I)Z"⟩ : MethodName)) hown (mvT hZ (oW hw 3 rfl)) (mvT hZ (oW hw 4 rfl)) (notFace_of_selects (args := #[]) (mvT hZ (oW hw 6 rfl))) (mvT hZ (oW hw 6 rfl)) (mvT hZ (oW hw 5 rfl)) (by decide) (backOf (W := 0) (rm_acc l Z a0 hw [] w_GREATER_OR_EQUAL p1 5 0 h0 n0 OL e_GREATER_OR_EQUAL f_GREATER_OR_EQUAL (by decide) (own_acc_neg hc2).2.2.2.2.2) hZ (oW hw 7 rfl) (oW hw 1 rfl) (by decide) (by decide)) q36a q36c (g := (mkF m 130 #[oI p1, oI 0, oI 1, oI 1, oI 1, oI 1, oI 1, oU] [oi p1, ow w_GREATER_OR_EQUAL])) rfl (by rw [hml]; rfl) (Steps.refl _) (argsL := [(.int p1)]) (rest := []) (lenOf pd__I_Z rfl) rfl (by show 2 * 0 + _ ≤ _; exact Nat.le_of_eq rfl) (hb hby at_130) (fun _ _ => ⟨rfl, e34, (by decide : 0 + 0 ≤ _), (by decide : 0 + 0 ≤ _)⟩)
    dsimp only [Pt.U, Pt.locs, Pt.cells, Pt.slots] at X36 l36 y36 z36 st36 hQ36
    subst l36 y36 z36
    obtain ⟨rfl, N36q, e36⟩ := hQ36
    have N36 := Fr.app N32 N36q
    have pre37 : oL p e below T36 (mkF m 136 #[oI p1, oI 0, oI 1, oI 1, oI 1, oI 1, oI 1, oU] [oi 0, oi 6, oi 0]) s₁ (entryFrame m #[(.int p1)] maxLocals) := fun t k => pre35 t (by
      refine st36.trans ?_
      refine XS.bipush X36.here hx rfl (hb hby at_133) ?_
      refine XS.iloadN X36.here hx rfl (hb hby at_135) rfl ?_
      show oS p e below T36 (mkF m 136 #[oI p1, oI 0, oI 1, oI 1, oI 1, oI 1, oI 1, oU] [oi 0, oi 6, oi 0]) _
      exact k)
    obtain ⟨_, _, ⟨T38, L38, k38, n38⟩, -, X38, ⟨Lc38, hQ38, l38, y38, z38⟩, st38⟩ := Jvm.LawKit.callS X36 hx (y := (⟨"com/example/cesson/cesson/model/OperatorAcceptsPinLaw", "allowed", "(II)Z"⟩ : MethodName)) hown (mvT hZ (oW hw 17 rfl)) (mvT hZ (oW hw 18 rfl)) (mvT hZ (oW hw 19 rfl)) (mvT hZ (oW hw 20 rfl)) (by decide) (backOf (W := 1) (rm_all l Z a0 hw [] (6 : Int32) (0 : Int32) 0 h0 n0 OL (by decide)) hZ (oW hw 20 rfl) (oW hw 19 rfl) (by decide) (by decide)) (g := (mkF m 136 #[oI p1, oI 0, oI 1, oI 1, oI 1, oI 1, oI 1, oU] [oi 0, oi 6, oi 0])) rfl (by rw [hml]; rfl) (argsL := [(.int (6 : Int32)), (.int (0 : Int32))]) (rest := [(.int (0 : Int32))]) (lenOf pd__II_Z rfl) rfl (by show 2 * 0 + _ ≤ _; exact Nat.le_of_eq rfl) (hb hby at_136) (fun _ _ => ⟨rfl, e36, (by decide : 0 + 0 ≤ _), (by decide : 0 + 0 ≤ _)⟩)
    dsimp only [Pt.U, Pt.locs, Pt.cells, Pt.slots] at X38 l38 y38 z38 st38 hQ38
    subst l38 y38 z38
    obtain ⟨rfl, N38q, e38⟩ := hQ38
    have N38 := Fr.app N36 N38q
    have pre39 : oL p e below T38 (mkF m 182 #[oI p1, oI 0, oI 1, oI 1, oI 1, oI 1, oI 1, oI 1] [oi 1]) s₁ (entryFrame m #[(.int p1)] maxLocals) := fun t k => pre37 t (by
      refine st38 _ ?_
      refine XS.icmpNo X38.here hx rfl (hb hby at_139) rfl (teq (by decide : (0 : Int32) = (0 : Int32))).2 ?_
      refine XS.iconst X38.here hx rfl (hb hby at_142) ?_
      refine XS.goto X38.here hx rfl (pc0 := 143) (pc' := 147) rfl (hb hby at_143) (by decide) (by decide) ?_
      show oS p e below T38 (mkF m 147 #[oI p1, oI 0, oI 1, oI 1, oI 1, oI 1, oI 1, oU] [oi 1]) _
      refine XS.istore X38.here hx rfl (hb hby at_147) rfl (l' := #[oI p1, oI 0, oI 1, oI 1, oI 1, oI 1, oI 1, oI 1]) rfl ?_
      refine XS.iloadN X38.here hx rfl (hb hby at_149) rfl ?_
      refine XS.ifNo X38.here hx rfl (hb hby at_150) rfl ((if0 _ _).trans (feq (by decide : ¬ ((1 : Int32) = (0 : Int32)))).1) ?_
      refine XS.iloadN X38.here hx rfl (hb hby at_153) rfl ?_
      show oS p e below T38 (mkF m 154 #[oI p1, oI 0, oI 1, oI 1, oI 1, oI 1, oI 1, oI 1] [oi 1]) _
      refine XS.ifNo X38.here hx rfl (hb hby at_154) rfl ((if0 _ _).trans (feq (by decide : ¬ ((1 : Int32) = (0 : Int32)))).1) ?_
      refine XS.iload X38.here hx rfl (hb hby at_157) rfl ?_
      refine XS.ifNo X38.here hx rfl (hb hby at_159) rfl ((if0 _ _).trans (feq (by decide : ¬ ((1 : Int32) = (0 : Int32)))).1) ?_
      refine XS.iload X38.here hx rfl (hb hby at_162) rfl ?_
      show oS p e below T38 (mkF m 164 #[oI p1, oI 0, oI 1, oI 1, oI 1, oI 1, oI 1, oI 1] [oi 1]) _
      refine XS.ifNo X38.here hx rfl (hb hby at_164) rfl ((if0 _ _).trans (feq (by decide : ¬ ((1 : Int32) = (0 : Int32)))).1) ?_
      refine XS.iload X38.here hx rfl (hb hby at_167) rfl ?_
      refine XS.ifNo X38.here hx rfl (hb hby at_169) rfl ((if0 _ _).trans (feq (by decide : ¬ ((1 : Int32) = (0 : Int32)))).1) ?_
      refine XS.iload X38.here hx rfl (hb hby at_172) rfl ?_
      show oS p e below T38 (mkF m 174 #[oI p1, oI 0, oI 1, oI 1, oI 1, oI 1, oI 1, oI 1] [oi 1]) _
      refine XS.ifNo X38.here hx rfl (hb hby at_174) rfl ((if0 _ _).trans (feq (by decide : ¬ ((1 : Int32) = (0 : Int32)))).1) ?_
      refine XS.iconst X38.here hx rfl (hb hby at_177) ?_
      refine XS.goto X38.here hx rfl (pc0 := 178) (pc' := 182) rfl (hb hby at_178) (by decide) (by decide) ?_
      exact k)
    obtain ⟨fs, hr, hrun, hended, hW, hsame⟩ := X38.leave (v := some (.int (1 : Int32))) (fun h => by rw [Bd.returns] at h; cases h)
    refine ⟨_, _, pre39 _ ?_, hrun, hended, _, _, rfl, ?_, ⟨_, rfl⟩, hW, hsame.mono (by decide) (by decide)⟩
    ·
      show oS p e below T38 (mkF m 182 #[oI p1, oI 0, oI 1, oI 1, oI 1, oI 1, oI 1, oI 1] [oi 1]) _
      exact retN X38 hx (t := .boolean) Bd.returns (by simp) (hb hby at_182) hr
    ·
      show Q_rm0 Z p1 w_EQUAL w_NOT_EQUAL w_LESS w_LESS_OR_EQUAL w_GREATER w_GREATER_OR_EQUAL h0 n0 _ T38.heap _
      rw [e38]
      exact ⟨rfl, N38⟩
  ·
    have pre40 : oL p e below s₁ (mkF m 9 #[oI p1, oU, oU, oU, oU, oU, oU, oU] [oi p1]) s₁ (entryFrame m #[(.int p1)] maxLocals) := fun t k => pre1 t (by
      refine XS.ifYes X0.here hx rfl (pc0 := 1) (pc' := 8) rfl (hb hby at_1) rfl ((if0 _ _).trans (flt hc2).2.1) (by decide) (by decide) ?_
      refine XS.iloadN X0.here hx rfl (hb hby at_8) rfl ?_
      exact k)
    by_cases hc41 : p1 = (0 : Int32)
    ·
      have pre42 : oL p e below s₁ (mkF m 18 #[oI p1, oI 1, oU, oU, oU, oU, oU, oU] []) s₁ (entryFrame m #[(.int p1)] maxLocals) := fun t k => pre40 t (by
        refine XS.ifNo X0.here hx rfl (hb hby at_9) rfl ((if0 _ _).trans (teq hc41).2) ?_
        show oS p e below s₁ (mkF m 12 #[oI p1, oU, oU, oU, oU, oU, oU, oU] []) _
        refine XS.iconst X0.here hx rfl (hb hby at_12) ?_
        refine XS.goto X0.here hx rfl (pc0 := 13) (pc' := 17) rfl (hb hby at_13) (by decide) (by decide) ?_
        refine XS.istoreN X0.here hx rfl (hb hby at_17) rfl (l' := #[oI p1, oI 1, oU, oU, oU, oU, oU, oU]) rfl ?_
        exact k)
      obtain ⟨T43, X43, e43, st43⟩ := getS2 X0 hx hZ hown (host := "") (Or.inl (oW hw 0 rfl)) Via.refl e0 (s_EQUAL.ext OL.2) (g := (mkF m 18 #[oI p1, oI 1, oU, oU, oU, oU, oU, oU] [])) rfl (hb hby at_18)
      have pre44 : oL p e below T43 (mkF m 22 #[oI p1, oI 1, oU, oU, oU, oU, oU, oU] [oi p1, ow w_EQUAL]) s₁ (entryFrame m #[(.int p1)] maxLocals) := fun t k => pre42 t (by
        refine st43 _ ?_
        show oS p e below T43 (mkF m 21 #[oI p1, oI 1, oU, oU, oU, oU, oU, oU] [ow w_EQUAL]) _
        refine XS.iloadN X43.here hx rfl (hb hby at_21) rfl ?_
        exact k)
      obtain ⟨cq45, kq45, q45a, q45b, q45c⟩ := isOf hZ e43 (e_EQUAL.ext OL.2)
      obtain ⟨_, _, ⟨T45, L45, k45, n45⟩, -, X45, ⟨Lc45, hQ45, l45, y45, z45⟩, st45⟩ := X43.virtualBack hx (y := (⟨"com/example/cesson/cesson/model/Target$Operator", "accepts", "(I)Z"⟩ : MethodName)) (z := (⟨"com/example/cesson/cesson/model/Target$Operator", "accepts", "(I)Z"⟩ : MethodName)) hown (mvT hZ (oW hw 3 rfl)) (mvT hZ (oW hw 4 rfl)) (notFace_of_selects (args := #[]) (mvT hZ (oW hw 6 rfl))) (mvT hZ (oW hw 6 rfl)) (mvT hZ (oW hw 5 rfl)) (by decide) (backOf (W := 0) (rm_acc l Z a0 hw [] w_EQUAL p1 0 1 h0 n0 OL e_EQUAL f_EQUAL (by decide) (own_acc_zero hc41).1) hZ (oW hw 7 rfl) (oW hw 1 rfl) (by decide) (by decide)) q45a q45c (g := (mkF m 22 #[oI p1, oI 1, oU, oU, oU, oU, oU, oU] [oi p1, ow w_EQUAL])) rfl (by rw [hml]; rfl) (Steps.refl _) (argsL := [(.int p1)]) (rest := []) (lenOf pd__I_Z rfl) rfl (by show 2 * 0 + _ ≤ _; exact Nat.le_of_eq rfl) (hb hby at_22) (fun _ _ => ⟨rfl, e43, (by decide : 0 + 0 ≤ _), (by decide : 0 + 0 ≤ _)⟩)
      dsimp only [Pt.U, Pt.locs, Pt.cells, Pt.slots] at X45 l45 y45 z45 st45 hQ45
      subst l45 y45 z45
      obtain ⟨rfl, N45q, e45⟩ := hQ45
      have N45 := Fr.app N0 N45q
      have pre46 : oL p e below T45 (mkF m 27 #[oI p1, oI 1, oU, oU, oU, oU, oU, oU] [oi 1, oi 2, oi 1]) s₁ (entryFrame m #[(.int p1)] maxLocals) := fun t k => pre44 t (by
        refine st45.trans ?_
        refine XS.iconst X45.here hx rfl (hb hby at_25) ?_
        refine XS.iloadN X45.here hx rfl (hb hby at_26) rfl ?_
        show oS p e below T45 (mkF m 27 #[oI p1, oI 1, oU, oU, oU, oU, oU, oU] [oi 1, oi 2, oi 1]) _
        exact k)
      obtain ⟨_, _, ⟨T47, L47, k47, n47⟩, -, X47, ⟨Lc47, hQ47, l47, y47, z47⟩, st47⟩ := Jvm.LawKit.callS X45 hx (y := (⟨"com/example/cesson/cesson/model/OperatorAcceptsPinLaw", "allowed", "(II)Z"⟩ : MethodName)) hown (mvT hZ (oW hw 17 rfl)) (mvT hZ (oW hw 18 rfl)) (mvT hZ (oW hw 19 rfl)) (mvT hZ (oW hw 20 rfl)) (by decide) (backOf (W := 1) (rm_all l Z a0 hw [] (2 : Int32) (1 : Int32) 1 h0 n0 OL (by decide)) hZ (oW hw 20 rfl) (oW hw 19 rfl) (by decide) (by decide)) (g := (mkF m 27 #[oI p1, oI 1, oU, oU, oU, oU, oU, oU] [oi 1, oi 2, oi 1])) rfl (by rw [hml]; rfl) (argsL := [(.int (2 : Int32)), (.int (1 : Int32))]) (rest := [(.int (1 : Int32))]) (lenOf pd__II_Z rfl) rfl (by show 2 * 0 + _ ≤ _; exact Nat.le_of_eq rfl) (hb hby at_27) (fun _ _ => ⟨rfl, e45, (by decide : 0 + 0 ≤ _), (by decide : 0 + 0 ≤ _)⟩)
      dsimp only [Pt.U, Pt.locs, Pt.cells, Pt.slots] at X47 l47 y47 z47 st47 hQ47
      subst l47 y47 z47
      obtain ⟨rfl, N47q, e47⟩ := hQ47
      have N47 := Fr.app N45 N47q
      have pre48 : oL p e below T47 (mkF m 39 #[oI p1, oI 1, oI 1, oU, oU, oU, oU, oU] []) s₁ (entryFrame m #[(.int p1)] maxLocals) := fun t k => pre46 t (by
        refine st47 _ ?_
        refine XS.icmpNo X47.here hx rfl (hb hby at_30) rfl (teq (by decide : (1 : Int32) = (1 : Int32))).2 ?_
        refine XS.iconst X47.here hx rfl (hb hby at_33) ?_
        refine XS.goto X47.here hx rfl (pc0 := 34) (pc' := 38) rfl (hb hby at_34) (by decide) (by decide) ?_
        show oS p e below T47 (mkF m 38 #[oI p1, oI 1, oU, oU, oU, oU, oU, oU] [oi 1]) _
        refine XS.istoreN X47.here hx rfl (hb hby at_38) rfl (l' := #[oI p1, oI 1, oI 1, oU, oU, oU, oU, oU]) rfl ?_
        exact k)
      obtain ⟨T49, X49, e49, st49⟩ := getS2 X47 hx hZ hown (host := "") (Or.inl (oW hw 21 rfl)) Via.refl e47 (s_NOT_EQUAL.ext OL.2) (g := (mkF m 39 #[oI p1, oI 1, oI 1, oU, oU, oU, oU, oU] [])) rfl (hb hby at_39)
      have pre50 : oL p e below T49 (mkF m 43 #[oI p1, oI 1, oI 1, oU, oU, oU, oU, oU] [oi p1, ow w_NOT_EQUAL]) s₁ (entryFrame m #[(.int p1)] maxLocals) := fun t k => pre48 t (by
        refine st49 _ ?_
        refine XS.iloadN X49.here hx rfl (hb hby at_42) rfl ?_
        exact k)
      obtain ⟨cq51, kq51, q51a, q51b, q51c⟩ := isOf hZ e49 (e_NOT_EQUAL.ext OL.2)
      obtain ⟨_, _, ⟨T51, L51, k51, n51⟩, -, X51, ⟨Lc51, hQ51, l51, y51, z51⟩, st51⟩ := X49.virtualBack hx (y := (⟨"com/example/cesson/cesson/model/Target$Operator", "accepts", "(I)Z"⟩ : MethodName)) (z := (⟨"com/example/cesson/cesson/model/Target$Operator", "accepts", "(I)Z"⟩ : MethodName)) hown (mvT hZ (oW hw 3 rfl)) (mvT hZ (oW hw 4 rfl)) (notFace_of_selects (args := #[]) (mvT hZ (oW hw 6 rfl))) (mvT hZ (oW hw 6 rfl)) (mvT hZ (oW hw 5 rfl)) (by decide) (backOf (W := 0) (rm_acc l Z a0 hw [] w_NOT_EQUAL p1 1 0 h0 n0 OL e_NOT_EQUAL f_NOT_EQUAL (by decide) (own_acc_zero hc41).2.1) hZ (oW hw 7 rfl) (oW hw 1 rfl) (by decide) (by decide)) q51a q51c (g := (mkF m 43 #[oI p1, oI 1, oI 1, oU, oU, oU, oU, oU] [oi p1, ow w_NOT_EQUAL])) rfl (by rw [hml]; rfl) (Steps.refl _) (argsL := [(.int p1)]) (rest := []) (lenOf pd__I_Z rfl) rfl (by show 2 * 0 + _ ≤ _; exact Nat.le_of_eq rfl) (hb hby at_43) (fun _ _ => ⟨rfl, e49, (by decide : 0 + 0 ≤ _), (by decide : 0 + 0 ≤ _)⟩)
      dsimp only [Pt.U, Pt.locs, Pt.cells, Pt.slots] at X51 l51 y51 z51 st51 hQ51
      subst l51 y51 z51
      obtain ⟨rfl, N51q, e51⟩ := hQ51
      have N51 := Fr.app N47 N51q
      have pre52 : oL p e below T51 (mkF m 48 #[oI p1, oI 1, oI 1, oU, oU, oU, oU, oU] [oi 1, oi 5, oi 0]) s₁ (entryFrame m #[(.int p1)] maxLocals) := fun t k => pre50 t (by
        refine st51.trans ?_
        show oS p e below T51 (mkF m 46 #[oI p1, oI 1, oI 1, oU, oU, oU, oU, oU] [oi 0]) _
        refine XS.iconst X51.here hx rfl (hb hby at_46) ?_
        refine XS.iloadN X51.here hx rfl (hb hby at_47) rfl ?_
        exact k)
      obtain ⟨_, _, ⟨T53, L53, k53, n53⟩, -, X53, ⟨Lc53, hQ53, l53, y53, z53⟩, st53⟩ := Jvm.LawKit.callS X51 hx (y := (⟨"com/example/cesson/cesson/model/OperatorAcceptsPinLaw", "allowed", "(II)Z"⟩ : MethodName)) hown (mvT hZ (oW hw 17 rfl)) (mvT hZ (oW hw 18 rfl)) (mvT hZ (oW hw 19 rfl)) (mvT hZ (oW hw 20 rfl)) (by decide) (backOf (W := 1) (rm_all l Z a0 hw [] (5 : Int32) (1 : Int32) 0 h0 n0 OL (by decide)) hZ (oW hw 20 rfl) (oW hw 19 rfl) (by decide) (by decide)) (g := (mkF m 48 #[oI p1, oI 1, oI 1, oU, oU, oU, oU, oU] [oi 1, oi 5, oi 0])) rfl (by rw [hml]; rfl) (argsL := [(.int (5 : Int32)), (.int (1 : Int32))]) (rest := [(.int (0 : Int32))]) (lenOf pd__II_Z rfl) rfl (by show 2 * 0 + _ ≤ _; exact Nat.le_of_eq rfl) (hb hby at_48) (fun _ _ => ⟨rfl, e51, (by decide : 0 + 0 ≤ _), (by decide : 0 + 0 ≤ _)⟩)
      dsimp only [Pt.U, Pt.locs, Pt.cells, Pt.slots] at X53 l53 y53 z53 st53 hQ53
      subst l53 y53 z53
      obtain ⟨rfl, N53q, e53⟩ := hQ53
      have N53 := Fr.app N51 N53q
      have pre54 : oL p e below T53 (mkF m 60 #[oI p1, oI 1, oI 1, oI 1, oU, oU, oU, oU] []) s₁ (entryFrame m #[(.int p1)] maxLocals) := fun t k => pre52 t (by
        refine st53 _ ?_
        refine XS.icmpNo X53.here hx rfl (hb hby at_51) rfl (teq (by decide : (0 : Int32) = (0 : Int32))).2 ?_
        show oS p e below T53 (mkF m 54 #[oI p1, oI 1, oI 1, oU, oU, oU, oU, oU] []) _
        refine XS.iconst X53.here hx rfl (hb hby at_54) ?_
        refine XS.goto X53.here hx rfl (pc0 := 55) (pc' := 59) rfl (hb hby at_55) (by decide) (by decide) ?_
        refine XS.istoreN X53.here hx rfl (hb hby at_59) rfl (l' := #[oI p1, oI 1, oI 1, oI 1, oU, oU, oU, oU]) rfl ?_
        exact k)
      obtain ⟨T55, X55, e55, st55⟩ := getS2 X53 hx hZ hown (host := "") (Or.inl (oW hw 23 rfl)) Via.refl e53 (s_LESS.ext OL.2) (g := (mkF m 60 #[oI p1, oI 1, oI 1, oI 1, oU, oU, oU, oU] [])) rfl (hb hby at_60)
      have pre56 : oL p e below T55 (mkF m 64 #[oI p1, oI 1, oI 1, oI 1, oU, oU, oU, oU] [oi p1, ow w_LESS]) s₁ (entryFrame m #[(.int p1)] maxLocals) := fun t k => pre54 t (by
        refine st55 _ ?_
        show oS p e below T55 (mkF m 63 #[oI p1, oI 1, oI 1, oI 1, oU, oU, oU, oU] [ow w_LESS]) _
        refine XS.iloadN X55.here hx rfl (hb hby at_63) rfl ?_
        exact k)
      obtain ⟨cq57, kq57, q57a, q57b, q57c⟩ := isOf hZ e55 (e_LESS.ext OL.2)
      obtain ⟨_, _, ⟨T57, L57, k57, n57⟩, -, X57, ⟨Lc57, hQ57, l57, y57, z57⟩, st57⟩ := X55.virtualBack hx (y := (⟨"com/example/cesson/cesson/model/Target$Operator", "accepts", "(I)Z"⟩ : MethodName)) (z := (⟨"com/example/cesson/cesson/model/Target$Operator", "accepts", "(I)Z"⟩ : MethodName)) hown (mvT hZ (oW hw 3 rfl)) (mvT hZ (oW hw 4 rfl)) (notFace_of_selects (args := #[]) (mvT hZ (oW hw 6 rfl))) (mvT hZ (oW hw 6 rfl)) (mvT hZ (oW hw 5 rfl)) (by decide) (backOf (W := 0) (rm_acc l Z a0 hw [] w_LESS p1 2 0 h0 n0 OL e_LESS f_LESS (by decide) (own_acc_zero hc41).2.2.1) hZ (oW hw 7 rfl) (oW hw 1 rfl) (by decide) (by decide)) q57a q57c (g := (mkF m 64 #[oI p1, oI 1, oI 1, oI 1, oU, oU, oU, oU] [oi p1, ow w_LESS])) rfl (by rw [hml]; rfl) (Steps.refl _) (argsL := [(.int p1)]) (rest := []) (lenOf pd__I_Z rfl) rfl (by show 2 * 0 + _ ≤ _; exact Nat.le_of_eq rfl) (hb hby at_64) (fun _ _ => ⟨rfl, e55, (by decide : 0 + 0 ≤ _), (by decide : 0 + 0 ≤ _)⟩)
      dsimp only [Pt.U, Pt.locs, Pt.cells, Pt.slots] at X57 l57 y57 z57 st57 hQ57
      subst l57 y57 z57
      obtain ⟨rfl, N57q, e57⟩ := hQ57
      have N57 := Fr.app N53 N57q
      have pre58 : oL p e below T57 (mkF m 69 #[oI p1, oI 1, oI 1, oI 1, oU, oU, oU, oU] [oi 1, oi 1, oi 0]) s₁ (entryFrame m #[(.int p1)] maxLocals) := fun t k => pre56 t (by
        refine st57.trans ?_
        refine XS.iconst X57.here hx rfl (hb hby at_67) ?_
        refine XS.iloadN X57.here hx rfl (hb hby at_68) rfl ?_
        show oS p e below T57 (mkF m 69 #[oI p1, oI 1, oI 1, oI 1, oU, oU, oU, oU] [oi 1, oi 1, oi 0]) _
        exact k)
      obtain ⟨_, _, ⟨T59, L59, k59, n59⟩, -, X59, ⟨Lc59, hQ59, l59, y59, z59⟩, st59⟩ := Jvm.LawKit.callS X57 hx (y := (⟨"com/example/cesson/cesson/model/OperatorAcceptsPinLaw", "allowed", "(II)Z"⟩ : MethodName)) hown (mvT hZ (oW hw 17 rfl)) (mvT hZ (oW hw 18 rfl)) (mvT hZ (oW hw 19 rfl)) (mvT hZ (oW hw 20 rfl)) (by decide) (backOf (W := 1) (rm_all l Z a0 hw [] (1 : Int32) (1 : Int32) 0 h0 n0 OL (by decide)) hZ (oW hw 20 rfl) (oW hw 19 rfl) (by decide) (by decide)) (g := (mkF m 69 #[oI p1, oI 1, oI 1, oI 1, oU, oU, oU, oU] [oi 1, oi 1, oi 0])) rfl (by rw [hml]; rfl) (argsL := [(.int (1 : Int32)), (.int (1 : Int32))]) (rest := [(.int (0 : Int32))]) (lenOf pd__II_Z rfl) rfl (by show 2 * 0 + _ ≤ _; exact Nat.le_of_eq rfl) (hb hby at_69) (fun _ _ => ⟨rfl, e57, (by decide : 0 + 0 ≤ _), (by decide : 0 + 0 ≤ _)⟩)
      dsimp only [Pt.U, Pt.locs, Pt.cells, Pt.slots] at X59 l59 y59 z59 st59 hQ59
      subst l59 y59 z59
      obtain ⟨rfl, N59q, e59⟩ := hQ59
      have N59 := Fr.app N57 N59q
      have pre60 : oL p e below T59 (mkF m 82 #[oI p1, oI 1, oI 1, oI 1, oI 1, oU, oU, oU] []) s₁ (entryFrame m #[(.int p1)] maxLocals) := fun t k => pre58 t (by
        refine st59 _ ?_
        refine XS.icmpNo X59.here hx rfl (hb hby at_72) rfl (teq (by decide : (0 : Int32) = (0 : Int32))).2 ?_
        refine XS.iconst X59.here hx rfl (hb hby at_75) ?_
        refine XS.goto X59.here hx rfl (pc0 := 76) (pc' := 80) rfl (hb hby at_76) (by decide) (by decide) ?_
        show oS p e below T59 (mkF m 80 #[oI p1, oI 1, oI 1, oI 1, oU, oU, oU, oU] [oi 1]) _
        refine XS.istore X59.here hx rfl (hb hby at_80) rfl (l' := #[oI p1, oI 1, oI 1, oI 1, oI 1, oU, oU, oU]) rfl ?_
        exact k)
      obtain ⟨T61, X61, e61, st61⟩ := getS2 X59 hx hZ hown (host := "") (Or.inl (oW hw 25 rfl)) Via.refl e59 (s_LESS_OR_EQUAL.ext OL.2) (g := (mkF m 82 #[oI p1, oI 1, oI 1, oI 1, oI 1, oU, oU, oU] [])) rfl (hb hby at_82)
      have pre62 : oL p e below T61 (mkF m 86 #[oI p1, oI 1, oI 1, oI 1, oI 1, oU, oU, oU] [oi p1, ow w_LESS_OR_EQUAL]) s₁ (entryFrame m #[(.int p1)] maxLocals) := fun t k => pre60 t (by
        refine st61 _ ?_
        refine XS.iloadN X61.here hx rfl (hb hby at_85) rfl ?_
        exact k)
      obtain ⟨cq63, kq63, q63a, q63b, q63c⟩ := isOf hZ e61 (e_LESS_OR_EQUAL.ext OL.2)
      obtain ⟨_, _, ⟨T63, L63, k63, n63⟩, -, X63, ⟨Lc63, hQ63, l63, y63, z63⟩, st63⟩ := X61.virtualBack hx (y := (⟨"com/example/cesson/cesson/model/Target$Operator", "accepts", "(I)Z"⟩ : MethodName)) (z := (⟨"com/example/cesson/cesson/model/Target$Operator", "accepts", "(I)Z"⟩ : MethodName)) hown (mvT hZ (oW hw 3 rfl)) (mvT hZ (oW hw 4 rfl)) (notFace_of_selects (args := #[]) (mvT hZ (oW hw 6 rfl))) (mvT hZ (oW hw 6 rfl)) (mvT hZ (oW hw 5 rfl)) (by decide) (backOf (W := 0) (rm_acc l Z a0 hw [] w_LESS_OR_EQUAL p1 3 1 h0 n0 OL e_LESS_OR_EQUAL f_LESS_OR_EQUAL (by decide) (own_acc_zero hc41).2.2.2.1) hZ (oW hw 7 rfl) (oW hw 1 rfl) (by decide) (by decide)) q63a q63c (g := (mkF m 86 #[oI p1, oI 1, oI 1, oI 1, oI 1, oU, oU, oU] [oi p1, ow w_LESS_OR_EQUAL])) rfl (by rw [hml]; rfl) (Steps.refl _) (argsL := [(.int p1)]) (rest := []) (lenOf pd__I_Z rfl) rfl (by show 2 * 0 + _ ≤ _; exact Nat.le_of_eq rfl) (hb hby at_86) (fun _ _ => ⟨rfl, e61, (by decide : 0 + 0 ≤ _), (by decide : 0 + 0 ≤ _)⟩)
      dsimp only [Pt.U, Pt.locs, Pt.cells, Pt.slots] at X63 l63 y63 z63 st63 hQ63
      subst l63 y63 z63
      obtain ⟨rfl, N63q, e63⟩ := hQ63
      have N63 := Fr.app N59 N63q
      have pre64 : oL p e below T63 (mkF m 91 #[oI p1, oI 1, oI 1, oI 1, oI 1, oU, oU, oU] [oi 1, oi 3, oi 1]) s₁ (entryFrame m #[(.int p1)] maxLocals) := fun t k => pre62 t (by
        refine st63.trans ?_
        show oS p e below T63 (mkF m 89 #[oI p1, oI 1, oI 1, oI 1, oI 1, oU, oU, oU] [oi 1]) _
        refine XS.iconst X63.here hx rfl (hb hby at_89) ?_
        refine XS.iloadN X63.here hx rfl (hb hby at_90) rfl ?_
        exact k)
      obtain ⟨_, _, ⟨T65, L65, k65, n65⟩, -, X65, ⟨Lc65, hQ65, l65, y65, z65⟩, st65⟩ := Jvm.LawKit.callS X63 hx (y := (⟨"com/example/cesson/cesson/model/OperatorAcceptsPinLaw", "allowed", "(II)Z"⟩ : MethodName)) hown (mvT hZ (oW hw 17 rfl)) (mvT hZ (oW hw 18 rfl)) (mvT hZ (oW hw 19 rfl)) (mvT hZ (oW hw 20 rfl)) (by decide) (backOf (W := 1) (rm_all l Z a0 hw [] (3 : Int32) (1 : Int32) 1 h0 n0 OL (by decide)) hZ (oW hw 20 rfl) (oW hw 19 rfl) (by decide) (by decide)) (g := (mkF m 91 #[oI p1, oI 1, oI 1, oI 1, oI 1, oU, oU, oU] [oi 1, oi 3, oi 1])) rfl (by rw [hml]; rfl) (argsL := [(.int (3 : Int32)), (.int (1 : Int32))]) (rest := [(.int (1 : Int32))]) (lenOf pd__II_Z rfl) rfl (by show 2 * 0 + _ ≤ _; exact Nat.le_of_eq rfl) (hb hby at_91) (fun _ _ => ⟨rfl, e63, (by decide : 0 + 0 ≤ _), (by decide : 0 + 0 ≤ _)⟩)
      dsimp only [Pt.U, Pt.locs, Pt.cells, Pt.slots] at X65 l65 y65 z65 st65 hQ65
      subst l65 y65 z65
      obtain ⟨rfl, N65q, e65⟩ := hQ65
      have N65 := Fr.app N63 N65q
      have pre66 : oL p e below T65 (mkF m 104 #[oI p1, oI 1, oI 1, oI 1, oI 1, oI 1, oU, oU] []) s₁ (entryFrame m #[(.int p1)] maxLocals) := fun t k => pre64 t (by
        refine st65 _ ?_
        refine XS.icmpNo X65.here hx rfl (hb hby at_94) rfl (teq (by decide : (1 : Int32) = (1 : Int32))).2 ?_
        show oS p e below T65 (mkF m 97 #[oI p1, oI 1, oI 1, oI 1, oI 1, oU, oU, oU] []) _
        refine XS.iconst X65.here hx rfl (hb hby at_97) ?_
        refine XS.goto X65.here hx rfl (pc0 := 98) (pc' := 102) rfl (hb hby at_98) (by decide) (by decide) ?_
        refine XS.istore X65.here hx rfl (hb hby at_102) rfl (l' := #[oI p1, oI 1, oI 1, oI 1, oI 1, oI 1, oU, oU]) rfl ?_
        exact k)
      obtain ⟨T67, X67, e67, st67⟩ := getS2 X65 hx hZ hown (host := "") (Or.inl (oW hw 27 rfl)) Via.refl e65 (s_GREATER.ext OL.2) (g := (mkF m 104 #[oI p1, oI 1, oI 1, oI 1, oI 1, oI 1, oU, oU] [])) rfl (hb hby at_104)
      have pre68 : oL p e below T67 (mkF m 108 #[oI p1, oI 1, oI 1, oI 1, oI 1, oI 1, oU, oU] [oi p1, ow w_GREATER]) s₁ (entryFrame m #[(.int p1)] maxLocals) := fun t k => pre66 t (by
        refine st67 _ ?_
        show oS p e below T67 (mkF m 107 #[oI p1, oI 1, oI 1, oI 1, oI 1, oI 1, oU, oU] [ow w_GREATER]) _
        refine XS.iloadN X67.here hx rfl (hb hby at_107) rfl ?_
        exact k)
      obtain ⟨cq69, kq69, q69a, q69b, q69c⟩ := isOf hZ e67 (e_GREATER.ext OL.2)
      obtain ⟨_, _, ⟨T69, L69, k69, n69⟩, -, X69, ⟨Lc69, hQ69, l69, y69, z69⟩, st69⟩ := X67.virtualBack hx (y := (⟨"com/example/cesson/cesson/model/Target$Operator", "accepts", "(I)Z"⟩ : MethodName)) (z := (⟨"com/example/cesson/cesson/model/Target$Operator", "accepts", "(I)Z"⟩ : MethodName)) hown (mvT hZ (oW hw 3 rfl)) (mvT hZ (oW hw 4 rfl)) (notFace_of_selects (args := #[]) (mvT hZ (oW hw 6 rfl))) (mvT hZ (oW hw 6 rfl)) (mvT hZ (oW hw 5 rfl)) (by decide) (backOf (W := 0) (rm_acc l Z a0 hw [] w_GREATER p1 4 0 h0 n0 OL e_GREATER f_GREATER (by decide) (own_acc_zero hc41).2.2.2.2.1) hZ (oW hw 7 rfl) (oW hw 1 rfl) (by decide) (by decide)) q69a q69c (g := (mkF m 108 #[oI p1, oI 1, oI 1, oI 1, oI 1, oI 1, oU, oU] [oi p1, ow w_GREATER])) rfl (by rw [hml]; rfl) (Steps.refl _) (argsL := [(.int p1)]) (rest := []) (lenOf pd__I_Z rfl) rfl (by show 2 * 0 + _ ≤ _; exact Nat.le_of_eq rfl) (hb hby at_108) (fun _ _ => ⟨rfl, e67, (by decide : 0 + 0 ≤ _), (by decide : 0 + 0 ≤ _)⟩)
      dsimp only [Pt.U, Pt.locs, Pt.cells, Pt.slots] at X69 l69 y69 z69 st69 hQ69
      subst l69 y69 z69
      obtain ⟨rfl, N69q, e69⟩ := hQ69
      have N69 := Fr.app N65 N69q
      have pre70 : oL p e below T69 (mkF m 113 #[oI p1, oI 1, oI 1, oI 1, oI 1, oI 1, oU, oU] [oi 1, oi 4, oi 0]) s₁ (entryFrame m #[(.int p1)] maxLocals) := fun t k => pre68 t (by
        refine st69.trans ?_
        refine XS.iconst X69.here hx rfl (hb hby at_111) ?_
        refine XS.iloadN X69.here hx rfl (hb hby at_112) rfl ?_
        show oS p e below T69 (mkF m 113 #[oI p1, oI 1, oI 1, oI 1, oI 1, oI 1, oU, oU] [oi 1, oi 4, oi 0]) _
        exact k)
      obtain ⟨_, _, ⟨T71, L71, k71, n71⟩, -, X71, ⟨Lc71, hQ71, l71, y71, z71⟩, st71⟩ := Jvm.LawKit.callS X69 hx (y := (⟨"com/example/cesson/cesson/model/OperatorAcceptsPinLaw", "allowed", "(II)Z"⟩ : MethodName)) hown (mvT hZ (oW hw 17 rfl)) (mvT hZ (oW hw 18 rfl)) (mvT hZ (oW hw 19 rfl)) (mvT hZ (oW hw 20 rfl)) (by decide) (backOf (W := 1) (rm_all l Z a0 hw [] (4 : Int32) (1 : Int32) 0 h0 n0 OL (by decide)) hZ (oW hw 20 rfl) (oW hw 19 rfl) (by decide) (by decide)) (g := (mkF m 113 #[oI p1, oI 1, oI 1, oI 1, oI 1, oI 1, oU, oU] [oi 1, oi 4, oi 0])) rfl (by rw [hml]; rfl) (argsL := [(.int (4 : Int32)), (.int (1 : Int32))]) (rest := [(.int (0 : Int32))]) (lenOf pd__II_Z rfl) rfl (by show 2 * 0 + _ ≤ _; exact Nat.le_of_eq rfl) (hb hby at_113) (fun _ _ => ⟨rfl, e69, (by decide : 0 + 0 ≤ _), (by decide : 0 + 0 ≤ _)⟩)
      dsimp only [Pt.U, Pt.locs, Pt.cells, Pt.slots] at X71 l71 y71 z71 st71 hQ71
      subst l71 y71 z71
      obtain ⟨rfl, N71q, e71⟩ := hQ71
      have N71 := Fr.app N69 N71q
      have pre72 : oL p e below T71 (mkF m 126 #[oI p1, oI 1, oI 1, oI 1, oI 1, oI 1, oI 1, oU] []) s₁ (entryFrame m #[(.int p1)] maxLocals) := fun t k => pre70 t (by
        refine st71 _ ?_
        refine XS.icmpNo X71.here hx rfl (hb hby at_116) rfl (teq (by decide : (0 : Int32) = (0 : Int32))).2 ?_
        refine XS.iconst X71.here hx rfl (hb hby at_119) ?_
        refine XS.goto X71.here hx rfl (pc0 := 120) (pc' := 124) rfl (hb hby at_120) (by decide) (by decide) ?_
        show oS p e below T71 (mkF m 124 #[oI p1, oI 1, oI 1, oI 1, oI 1, oI 1, oU, oU] [oi 1]) _
        refine XS.istore X71.here hx rfl (hb hby at_124) rfl (l' := #[oI p1, oI 1, oI 1, oI 1, oI 1, oI 1, oI 1, oU]) rfl ?_
        exact k)
      obtain ⟨T73, X73, e73, st73⟩ := getS2 X71 hx hZ hown (host := "") (Or.inl (oW hw 29 rfl)) Via.refl e71 (s_GREATER_OR_EQUAL.ext OL.2) (g := (mkF m 126 #[oI p1, oI 1, oI 1, oI 1, oI 1, oI 1, oI 1, oU] [])) rfl (hb hby at_126)
      have pre74 : oL p e below T73 (mkF m 130 #[oI p1, oI 1, oI 1, oI 1, oI 1, oI 1, oI 1, oU] [oi p1, ow w_GREATER_OR_EQUAL]) s₁ (entryFrame m #[(.int p1)] maxLocals) := fun t k => pre72 t (by
        refine st73 _ ?_
        refine XS.iloadN X73.here hx rfl (hb hby at_129) rfl ?_
        exact k)
      obtain ⟨cq75, kq75, q75a, q75b, q75c⟩ := isOf hZ e73 (e_GREATER_OR_EQUAL.ext OL.2)
      obtain ⟨_, _, ⟨T75, L75, k75, n75⟩, -, X75, ⟨Lc75, hQ75, l75, y75, z75⟩, st75⟩ := X73.virtualBack hx (y := (⟨"com/example/cesson/cesson/model/Target$Operator", "accepts", "(I)Z"⟩ : MethodName)) (z := (⟨"com/example/cesson/cesson/model/Target$Operator", "accepts", "(I)Z"⟩ : MethodName)) hown (mvT hZ (oW hw 3 rfl)) (mvT hZ (oW hw 4 rfl)) (notFace_of_selects (args := #[]) (mvT hZ (oW hw 6 rfl))) (mvT hZ (oW hw 6 rfl)) (mvT hZ (oW hw 5 rfl)) (by decide) (backOf (W := 0) (rm_acc l Z a0 hw [] w_GREATER_OR_EQUAL p1 5 1 h0 n0 OL e_GREATER_OR_EQUAL f_GREATER_OR_EQUAL (by decide) (own_acc_zero hc41).2.2.2.2.2) hZ (oW hw 7 rfl) (oW hw 1 rfl) (by decide) (by decide)) q75a q75c (g := (mkF m 130 #[oI p1, oI 1, oI 1, oI 1, oI 1, oI 1, oI 1, oU] [oi p1, ow w_GREATER_OR_EQUAL])) rfl (by rw [hml]; rfl) (Steps.refl _) (argsL := [(.int p1)]) (rest := []) (lenOf pd__I_Z rfl) rfl (by show 2 * 0 + _ ≤ _; exact Nat.le_of_eq rfl) (hb hby at_130) (fun _ _ => ⟨rfl, e73, (by decide : 0 + 0 ≤ _), (by decide : 0 + 0 ≤ _)⟩)
      dsimp only [Pt.U, Pt.locs, Pt.cells, Pt.slots] at X75 l75 y75 z75 st75 hQ75
      subst l75 y75 z75
      obtain ⟨rfl, N75q, e75⟩ := hQ75
      have N75 := Fr.app N71 N75q
      have pre76 : oL p e below T75 (mkF m 136 #[oI p1, oI 1, oI 1, oI 1, oI 1, oI 1, oI 1, oU] [oi 1, oi 6, oi 1]) s₁ (entryFrame m #[(.int p1)] maxLocals) := fun t k => pre74 t (by
        refine st75.trans ?_
        show oS p e below T75 (mkF m 133 #[oI p1, oI 1, oI 1, oI 1, oI 1, oI 1, oI 1, oU] [oi 1]) _
        refine XS.bipush X75.here hx rfl (hb hby at_133) ?_
        refine XS.iloadN X75.here hx rfl (hb hby at_135) rfl ?_
        exact k)
      obtain ⟨_, _, ⟨T77, L77, k77, n77⟩, -, X77, ⟨Lc77, hQ77, l77, y77, z77⟩, st77⟩ := Jvm.LawKit.callS X75 hx (y := (⟨"com/example/cesson/cesson/model/OperatorAcceptsPinLaw", "allowed", "(II)Z"⟩ : MethodName)) hown (mvT hZ (oW hw 17 rfl)) (mvT hZ (oW hw 18 rfl)) (mvT hZ (oW hw 19 rfl)) (mvT hZ (oW hw 20 rfl)) (by decide) (backOf (W := 1) (rm_all l Z a0 hw [] (6 : Int32) (1 : Int32) 1 h0 n0 OL (by decide)) hZ (oW hw 20 rfl) (oW hw 19 rfl) (by decide) (by decide)) (g := (mkF m 136 #[oI p1, oI 1, oI 1, oI 1, oI 1, oI 1, oI 1, oU] [oi 1, oi 6, oi 1])) rfl (by rw [hml]; rfl) (argsL := [(.int (6 : Int32)), (.int (1 : Int32))]) (rest := [(.int (1 : Int32))]) (lenOf pd__II_Z rfl) rfl (by show 2 * 0 + _ ≤ _; exact Nat.le_of_eq rfl) (hb hby at_136) (fun _ _ => ⟨rfl, e75, (by decide : 0 + 0 ≤ _), (by decide : 0 + 0 ≤ _)⟩)
      dsimp only [Pt.U, Pt.locs, Pt.cells, Pt.slots] at X77 l77 y77 z77 st77 hQ77
      subst l77 y77 z77
      obtain ⟨rfl, N77q, e77⟩ := hQ77
      have N77 := Fr.app N75 N77q
      have pre78 : oL p e below T77 (mkF m 182 #[oI p1, oI 1, oI 1, oI 1, oI 1, oI 1, oI 1, oI 1] [oi 1]) s₁ (entryFrame m #[(.int p1)] maxLocals) := fun t k => pre76 t (by
        refine st77 _ ?_
        refine XS.icmpNo X77.here hx rfl (hb hby at_139) rfl (teq (by decide : (1 : Int32) = (1 : Int32))).2 ?_
        show oS p e below T77 (mkF m 142 #[oI p1, oI 1, oI 1, oI 1, oI 1, oI 1, oI 1, oU] []) _
        refine XS.iconst X77.here hx rfl (hb hby at_142) ?_
        refine XS.goto X77.here hx rfl (pc0 := 143) (pc' := 147) rfl (hb hby at_143) (by decide) (by decide) ?_
        refine XS.istore X77.here hx rfl (hb hby at_147) rfl (l' := #[oI p1, oI 1, oI 1, oI 1, oI 1, oI 1, oI 1, oI 1]) rfl ?_
        refine XS.iloadN X77.here hx rfl (hb hby at_149) rfl ?_
        show oS p e below T77 (mkF m 150 #[oI p1, oI 1, oI 1, oI 1, oI 1, oI 1, oI 1, oI 1] [oi 1]) _
        refine XS.ifNo X77.here hx rfl (hb hby at_150) rfl ((if0 _ _).trans (feq (by decide : ¬ ((1 : Int32) = (0 : Int32)))).1) ?_
        refine XS.iloadN X77.here hx rfl (hb hby at_153) rfl ?_
        refine XS.ifNo X77.here hx rfl (hb hby at_154) rfl ((if0 _ _).trans (feq (by decide : ¬ ((1 : Int32) = (0 : Int32)))).1) ?_
        refine XS.iload X77.here hx rfl (hb hby at_157) rfl ?_
        show oS p e below T77 (mkF m 159 #[oI p1, oI 1, oI 1, oI 1, oI 1, oI 1, oI 1, oI 1] [oi 1]) _
        refine XS.ifNo X77.here hx rfl (hb hby at_159) rfl ((if0 _ _).trans (feq (by decide : ¬ ((1 : Int32) = (0 : Int32)))).1) ?_
        refine XS.iload X77.here hx rfl (hb hby at_162) rfl ?_
        refine XS.ifNo X77.here hx rfl (hb hby at_164) rfl ((if0 _ _).trans (feq (by decide : ¬ ((1 : Int32) = (0 : Int32)))).1) ?_
        refine XS.iload X77.here hx rfl (hb hby at_167) rfl ?_
        show oS p e below T77 (mkF m 169 #[oI p1, oI 1, oI 1, oI 1, oI 1, oI 1, oI 1, oI 1] [oi 1]) _
        refine XS.ifNo X77.here hx rfl (hb hby at_169) rfl ((if0 _ _).trans (feq (by decide : ¬ ((1 : Int32) = (0 : Int32)))).1) ?_
        refine XS.iload X77.here hx rfl (hb hby at_172) rfl ?_
        refine XS.ifNo X77.here hx rfl (hb hby at_174) rfl ((if0 _ _).trans (feq (by decide : ¬ ((1 : Int32) = (0 : Int32)))).1) ?_
        refine XS.iconst X77.here hx rfl (hb hby at_177) ?_
        show oS p e below T77 (mkF m 178 #[oI p1, oI 1, oI 1, oI 1, oI 1, oI 1, oI 1, oI 1] [oi 1]) _
        refine XS.goto X77.here hx rfl (pc0 := 178) (pc' := 182) rfl (hb hby at_178) (by decide) (by decide) ?_
        exact k)
      obtain ⟨fs, hr, hrun, hended, hW, hsame⟩ := X77.leave (v := some (.int (1 : Int32))) (fun h => by rw [Bd.returns] at h; cases h)
      refine ⟨_, _, pre78 _ ?_, hrun, hended, _, _, rfl, ?_, ⟨_, rfl⟩, hW, hsame.mono (by decide) (by decide)⟩
      ·
        show oS p e below T77 (mkF m 182 #[oI p1, oI 1, oI 1, oI 1, oI 1, oI 1, oI 1, oI 1] [oi 1]) _
        exact retN X77 hx (t := .boolean) Bd.returns (by simp) (hb hby at_182) hr
      ·
        show Q_rm0 Z p1 w_EQUAL w_NOT_EQUAL w_LESS w_LESS_OR_EQUAL w_GREATER w_GREATER_OR_EQUAL h0 n0 _ T77.heap _
        rw [e77]
        exact ⟨rfl, N77⟩
    ·
      have pre79 : oL p e below s₁ (mkF m 18 #[oI p1, oI 2, oU, oU, oU, oU, oU, oU] []) s₁ (entryFrame m #[(.int p1)] maxLocals) := fun t k => pre40 t (by
        refine XS.ifYes X0.here hx rfl (pc0 := 9) (pc' := 16) rfl (hb hby at_9) rfl ((if0 _ _).trans (feq hc41).2) (by decide) (by decide) ?_
        show oS p e below s₁ (mkF m 16 #[oI p1, oU, oU, oU, oU, oU, oU, oU] []) _
        refine XS.iconst X0.here hx rfl (hb hby at_16) ?_
        refine XS.istoreN X0.here hx rfl (hb hby at_17) rfl (l' := #[oI p1, oI 2, oU, oU, oU, oU, oU, oU]) rfl ?_
        exact k)
      obtain ⟨T80, X80, e80, st80⟩ := getS2 X0 hx hZ hown (host := "") (Or.inl (oW hw 0 rfl)) Via.refl e0 (s_EQUAL.ext OL.2) (g := (mkF m 18 #[oI p1, oI 2, oU, oU, oU, oU, oU, oU] [])) rfl (hb hby at_18)
      have pre81 : oL p e below T80 (mkF m 22 #[oI p1, oI 2, oU, oU, oU, oU, oU, oU] [oi p1, ow w_EQUAL]) s₁ (entryFrame m #[(.int p1)] maxLocals) := fun t k => pre79 t (by
        refine st80 _ ?_
        refine XS.iloadN X80.here hx rfl (hb hby at_21) rfl ?_
        show oS p e below T80 (mkF m 22 #[oI p1, oI 2, oU, oU, oU, oU, oU, oU] [oi p1, ow w_EQUAL]) _
        exact k)
      obtain ⟨cq82, kq82, q82a, q82b, q82c⟩ := isOf hZ e80 (e_EQUAL.ext OL.2)
      obtain ⟨_, _, ⟨T82, L82, k82, n82⟩, -, X82, ⟨Lc82, hQ82, l82, y82, z82⟩, st82⟩ := X80.virtualBack hx (y := (⟨"com/example/cesson/cesson/model/Target$Operator", "accepts", "(I)Z"⟩ : MethodName)) (z := (⟨"com/example/cesson/cesson/model/Target$Operator", "accepts", "(I)Z"⟩ : MethodName)) hown (mvT hZ (oW hw 3 rfl)) (mvT hZ (oW hw 4 rfl)) (notFace_of_selects (args := #[]) (mvT hZ (oW hw 6 rfl))) (mvT hZ (oW hw 6 rfl)) (mvT hZ (oW hw 5 rfl)) (by decide) (backOf (W := 0) (rm_acc l Z a0 hw [] w_EQUAL p1 0 0 h0 n0 OL e_EQUAL f_EQUAL (by decide) (own_acc_pos hc2 hc41).1) hZ (oW hw 7 rfl) (oW hw 1 rfl) (by decide) (by decide)) q82a q82c (g := (mkF m 22 #[oI p1, oI 2, oU, oU, oU, oU, oU, oU] [oi p1, ow w_EQUAL])) rfl (by rw [hml]; rfl) (Steps.refl _) (argsL := [(.int p1)]) (rest := []) (lenOf pd__I_Z rfl) rfl (by show 2 * 0 + _ ≤ _; exact Nat.le_of_eq rfl) (hb hby at_22) (fun _ _ => ⟨rfl, e80, (by decide : 0 + 0 ≤ _), (by decide : 0 + 0 ≤ _)⟩)
      dsimp only [Pt.U, Pt.locs, Pt.cells, Pt.slots] at X82 l82 y82 z82 st82 hQ82
      subst l82 y82 z82
      obtain ⟨rfl, N82q, e82⟩ := hQ82
      have N82 := Fr.app N0 N82q
      have pre83 : oL p e below T82 (mkF m 27 #[oI p1, oI 2, oU, oU, oU, oU, oU, oU] [oi 2, oi 2, oi 0]) s₁ (entryFrame m #[(.int p1)] maxLocals) := fun t k => pre81 t (by
        refine st82.trans ?_
        refine XS.iconst X82.here hx rfl (hb hby at_25) ?_
        refine XS.iloadN X82.here hx rfl (hb hby at_26) rfl ?_
        exact k)
      obtain ⟨_, _, ⟨T84, L84, k84, n84⟩, -, X84, ⟨Lc84, hQ84, l84, y84, z84⟩, st84⟩ := Jvm.LawKit.callS X82 hx (y := (⟨"com/example/cesson/cesson/model/OperatorAcceptsPinLaw", "allowed", "(II)Z"⟩ : MethodName)) hown (mvT hZ (oW hw 17 rfl)) (mvT hZ (oW hw 18 rfl)) (mvT hZ (oW hw 19 rfl)) (mvT hZ (oW hw 20 rfl)) (by decide) (backOf (W := 1) (rm_all l Z a0 hw [] (2 : Int32) (2 : Int32) 0 h0 n0 OL (by decide)) hZ (oW hw 20 rfl) (oW hw 19 rfl) (by decide) (by decide)) (g := (mkF m 27 #[oI p1, oI 2, oU, oU, oU, oU, oU, oU] [oi 2, oi 2, oi 0])) rfl (by rw [hml]; rfl) (argsL := [(.int (2 : Int32)), (.int (2 : Int32))]) (rest := [(.int (0 : Int32))]) (lenOf pd__II_Z rfl) rfl (by show 2 * 0 + _ ≤ _; exact Nat.le_of_eq rfl) (hb hby at_27) (fun _ _ => ⟨rfl, e82, (by decide : 0 + 0 ≤ _), (by decide : 0 + 0 ≤ _)⟩)
      dsimp only [Pt.U, Pt.locs, Pt.cells, Pt.slots] at X84 l84 y84 z84 st84 hQ84
      subst l84 y84 z84
      obtain ⟨rfl, N84q, e84⟩ := hQ84
      have N84 := Fr.app N82 N84q
      have pre85 : oL p e below T84 (mkF m 39 #[oI p1, oI 2, oI 1, oU, oU, oU, oU, oU] []) s₁ (entryFrame m #[(.int p1)] maxLocals) := fun t k => pre83 t (by
        refine st84 _ ?_
        show oS p e below T84 (mkF m 30 #[oI p1, oI 2, oU, oU, oU, oU, oU, oU] [oi 0, oi 0]) _
        refine XS.icmpNo X84.here hx rfl (hb hby at_30) rfl (teq (by decide : (0 : Int32) = (0 : Int32))).2 ?_
        refine XS.iconst X84.here hx rfl (hb hby at_33) ?_
        refine XS.goto X84.here hx rfl (pc0 := 34) (pc' := 38) rfl (hb hby at_34) (by decide) (by decide) ?_
        refine XS.istoreN X84.here hx rfl (hb hby at_38) rfl (l' := #[oI p1, oI 2, oI 1, oU, oU, oU, oU, oU]) rfl ?_
        show oS p e below T84 (mkF m 39 #[oI p1, oI 2, oI 1, oU, oU, oU, oU, oU] []) _
        exact k)
      obtain ⟨T86, X86, e86, st86⟩ := getS2 X84 hx hZ hown (host := "") (Or.inl (oW hw 21 rfl)) Via.refl e84 (s_NOT_EQUAL.ext OL.2) (g := (mkF m 39 #[oI p1, oI 2, oI 1, oU, oU, oU, oU, oU] [])) rfl (hb hby at_39)
      have pre87 : oL p e below T86 (mkF m 43 #[oI p1, oI 2, oI 1, oU, oU, oU, oU, oU] [oi p1, ow w_NOT_EQUAL]) s₁ (entryFrame m #[(.int p1)] maxLocals) := fun t k => pre85 t (by
        refine st86 _ ?_
        refine XS.iloadN X86.here hx rfl (hb hby at_42) rfl ?_
        exact k)
      obtain ⟨cq88, kq88, q88a, q88b, q88c⟩ := isOf hZ e86 (e_NOT_EQUAL.ext OL.2)
      obtain ⟨_, _, ⟨T88, L88, k88, n88⟩, -, X88, ⟨Lc88, hQ88, l88, y88, z88⟩, st88⟩ := X86.virtualBack hx (y := (⟨"com/example/cesson/cesson/model/Target$Operator", "accepts", "(I)Z"⟩ : MethodName)) (z := (⟨"com/example/cesson/cesson/model/Target$Operator", "accepts", "(I)Z"⟩ : MethodName)) hown (mvT hZ (oW hw 3 rfl)) (mvT hZ (oW hw 4 rfl)) (notFace_of_selects (args := #[]) (mvT hZ (oW hw 6 rfl))) (mvT hZ (oW hw 6 rfl)) (mvT hZ (oW hw 5 rfl)) (by decide) (backOf (W := 0) (rm_acc l Z a0 hw [] w_NOT_EQUAL p1 1 1 h0 n0 OL e_NOT_EQUAL f_NOT_EQUAL (by decide) (own_acc_pos hc2 hc41).2.1) hZ (oW hw 7 rfl) (oW hw 1 rfl) (by decide) (by decide)) q88a q88c (g := (mkF m 43 #[oI p1, oI 2, oI 1, oU, oU, oU, oU, oU] [oi p1, ow w_NOT_EQUAL])) rfl (by rw [hml]; rfl) (Steps.refl _) (argsL := [(.int p1)]) (rest := []) (lenOf pd__I_Z rfl) rfl (by show 2 * 0 + _ ≤ _; exact Nat.le_of_eq rfl) (hb hby at_43) (fun _ _ => ⟨rfl, e86, (by decide : 0 + 0 ≤ _), (by decide : 0 + 0 ≤ _)⟩)
      dsimp only [Pt.U, Pt.locs, Pt.cells, Pt.slots] at X88 l88 y88 z88 st88 hQ88
      subst l88 y88 z88
      obtain ⟨rfl, N88q, e88⟩ := hQ88
      have N88 := Fr.app N84 N88q
      have pre89 : oL p e below T88 (mkF m 48 #[oI p1, oI 2, oI 1, oU, oU, oU, oU, oU] [oi 2, oi 5, oi 1]) s₁ (entryFrame m #[(.int p1)] maxLocals) := fun t k => pre87 t (by
        refine st88.trans ?_
        refine XS.iconst X88.here hx rfl (hb hby at_46) ?_
        show oS p e below T88 (mkF m 47 #[oI p1, oI 2, oI 1, oU, oU, oU, oU, oU] [oi 5, oi 1]) _
        refine XS.iloadN X88.here hx rfl (hb hby at_47) rfl ?_
        exact k)
      obtain ⟨_, _, ⟨T90, L90, k90, n90⟩, -, X90, ⟨Lc90, hQ90, l90, y90, z90⟩, st90⟩ := Jvm.LawKit.callS X88 hx (y := (⟨"com/example/cesson/cesson/model/OperatorAcceptsPinLaw", "allowed", "(II)Z"⟩ : MethodName)) hown (mvT hZ (oW hw 17 rfl)) (mvT hZ (oW hw 18 rfl)) (mvT hZ (oW hw 19 rfl)) (mvT hZ (oW hw 20 rfl)) (by decide) (backOf (W := 1) (rm_all l Z a0 hw [] (5 : Int32) (2 : Int32) 1 h0 n0 OL (by decide)) hZ (oW hw 20 rfl) (oW hw 19 rfl) (by decide) (by decide)) (g := (mkF m 48 #[oI p1, oI 2, oI 1, oU, oU, oU, oU, oU] [oi 2, oi 5, oi 1])) rfl (by rw [hml]; rfl) (argsL := [(.int (5 : Int32)), (.int (2 : Int32))]) (rest := [(.int (1 : Int32))]) (lenOf pd__II_Z rfl) rfl (by show 2 * 0 + _ ≤ _; exact Nat.le_of_eq rfl) (hb hby at_48) (fun _ _ => ⟨rfl, e88, (by decide : 0 + 0 ≤ _), (by decide : 0 + 0 ≤ _)⟩)
      dsimp only [Pt.U, Pt.locs, Pt.cells, Pt.slots] at X90 l90 y90 z90 st90 hQ90
      subst l90 y90 z90
      obtain ⟨rfl, N90q, e90⟩ := hQ90
      have N90 := Fr.app N88 N90q
      have pre91 : oL p e below T90 (mkF m 60 #[oI p1, oI 2, oI 1, oI 1, oU, oU, oU, oU] []) s₁ (entryFrame m #[(.int p1)] maxLocals) := fun t k => pre89 t (by
        refine st90 _ ?_
        refine XS.icmpNo X90.here hx rfl (hb hby at_51) rfl (teq (by decide : (1 : Int32) = (1 : Int32))).2 ?_
        refine XS.iconst X90.here hx rfl (hb hby at_54) ?_
        show oS p e below T90 (mkF m 55 #[oI p1, oI 2, oI 1, oU, oU, oU, oU, oU] [oi 1]) _
        refine XS.goto X90.here hx rfl (pc0 := 55) (pc' := 59) rfl (hb hby at_55) (by decide) (by decide) ?_
        refine XS.istoreN X90.here hx rfl (hb hby at_59) rfl (l' := #[oI p1, oI 2, oI 1, oI 1, oU, oU, oU, oU]) rfl ?_
        exact k)
      obtain ⟨T92, X92, e92, st92⟩ := getS2 X90 hx hZ hown (host := "") (Or.inl (oW hw 23 rfl)) Via.refl e90 (s_LESS.ext OL.2) (g := (mkF m 60 #[oI p1, oI 2, oI 1, oI 1, oU, oU, oU, oU] [])) rfl (hb hby at_60)
      have pre93 : oL p e below T92 (mkF m 64 #[oI p1, oI 2, oI 1, oI 1, oU, oU, oU, oU] [oi p1, ow w_LESS]) s₁ (entryFrame m #[(.int p1)] maxLocals) := fun t k => pre91 t (by
        refine st92 _ ?_
        refine XS.iloadN X92.here hx rfl (hb hby at_63) rfl ?_
        show oS p e below T92 (mkF m 64 #[oI p1, oI 2, oI 1, oI 1, oU, oU, oU, oU] [oi p1, ow w_LESS]) _
        exact k)
      obtain ⟨cq94, kq94, q94a, q94b, q94c⟩ := isOf hZ e92 (e_LESS.ext OL.2)
      obtain ⟨_, _, ⟨T94, L94, k94, n94⟩, -, X94, ⟨Lc94, hQ94, l94, y94, z94⟩, st94⟩ := X92.virtualBack hx (y := (⟨"com/example/cesson/cesson/model/Target$Operator", "accepts", "(I)Z"⟩ : MethodName)) (z := (⟨"com/example/cesson/cesson/model/Target$Operator", "accepts", "(I)Z"⟩ : MethodName)) hown (mvT hZ (oW hw 3 rfl)) (mvT hZ (oW hw 4 rfl)) (notFace_of_selects (args := #[]) (mvT hZ (oW hw 6 rfl))) (mvT hZ (oW hw 6 rfl)) (mvT hZ (oW hw 5 rfl)) (by decide) (backOf (W := 0) (rm_acc l Z a0 hw [] w_LESS p1 2 0 h0 n0 OL e_LESS f_LESS (by decide) (own_acc_pos hc2 hc41).2.2.1) hZ (oW hw 7 rfl) (oW hw 1 rfl) (by decide) (by decide)) q94a q94c (g := (mkF m 64 #[oI p1, oI 2, oI 1, oI 1, oU, oU, oU, oU] [oi p1, ow w_LESS])) rfl (by rw [hml]; rfl) (Steps.refl _) (argsL := [(.int p1)]) (rest := []) (lenOf pd__I_Z rfl) rfl (by show 2 * 0 + _ ≤ _; exact Nat.le_of_eq rfl) (hb hby at_64) (fun _ _ => ⟨rfl, e92, (by decide : 0 + 0 ≤ _), (by decide : 0 + 0 ≤ _)⟩)
      dsimp only [Pt.U, Pt.locs, Pt.cells, Pt.slots] at X94 l94 y94 z94 st94 hQ94
      subst l94 y94 z94
      obtain ⟨rfl, N94q, e94⟩ := hQ94
      have N94 := Fr.app N90 N94q
      have pre95 : oL p e below T94 (mkF m 69 #[oI p1, oI 2, oI 1, oI 1, oU, oU, oU, oU] [oi 2, oi 1, oi 0]) s₁ (entryFrame m #[(.int p1)] maxLocals) := fun t k => pre93 t (by
        refine st94.trans ?_
        refine XS.iconst X94.here hx rfl (hb hby at_67) ?_
        refine XS.iloadN X94.here hx rfl (hb hby at_68) rfl ?_
        exact k)
      obtain ⟨_, _, ⟨T96, L96, k96, n96⟩, -, X96, ⟨Lc96, hQ96, l96, y96, z96⟩, st96⟩ := Jvm.LawKit.callS X94 hx (y := (⟨"com/example/cesson/cesson/model/OperatorAcceptsPinLaw", "allowed", "(II)Z"⟩ : MethodName)) hown (mvT hZ (oW hw 17 rfl)) (mvT hZ (oW hw 18 rfl)) (mvT hZ (oW hw 19 rfl)) (mvT hZ (oW hw 20 rfl)) (by decide) (backOf (W := 1) (rm_all l Z a0 hw [] (1 : Int32) (2 : Int32) 0 h0 n0 OL (by decide)) hZ (oW hw 20 rfl) (oW hw 19 rfl) (by decide) (by decide)) (g := (mkF m 69 #[oI p1, oI 2, oI 1, oI 1, oU, oU, oU, oU] [oi 2, oi 1, oi 0])) rfl (by rw [hml]; rfl) (argsL := [(.int (1 : Int32)), (.int (2 : Int32))]) (rest := [(.int (0 : Int32))]) (lenOf pd__II_Z rfl) rfl (by show 2 * 0 + _ ≤ _; exact Nat.le_of_eq rfl) (hb hby at_69) (fun _ _ => ⟨rfl, e94, (by decide : 0 + 0 ≤ _), (by decide : 0 + 0 ≤ _)⟩)
      dsimp only [Pt.U, Pt.locs, Pt.cells, Pt.slots] at X96 l96 y96 z96 st96 hQ96
      subst l96 y96 z96
      obtain ⟨rfl, N96q, e96⟩ := hQ96
      have N96 := Fr.app N94 N96q
      have pre97 : oL p e below T96 (mkF m 82 #[oI p1, oI 2, oI 1, oI 1, oI 1, oU, oU, oU] []) s₁ (entryFrame m #[(.int p1)] maxLocals) := fun t k => pre95 t (by
        refine st96 _ ?_
        show oS p e below T96 (mkF m 72 #[oI p1, oI 2, oI 1, oI 1, oU, oU, oU, oU] [oi 0, oi 0]) _
        refine XS.icmpNo X96.here hx rfl (hb hby at_72) rfl (teq (by decide : (0 : Int32) = (0 : Int32))).2 ?_
        refine XS.iconst X96.here hx rfl (hb hby at_75) ?_
        refine XS.goto X96.here hx rfl (pc0 := 76) (pc' := 80) rfl (hb hby at_76) (by decide) (by decide) ?_
        refine XS.istore X96.here hx rfl (hb hby at_80) rfl (l' := #[oI p1, oI 2, oI 1, oI 1, oI 1, oU, oU, oU]) rfl ?_
        show oS p e below T96 (mkF m 82 #[oI p1, oI 2, oI 1, oI 1, oI 1, oU, oU, oU] []) _
        exact k)
      obtain ⟨T98, X98, e98, st98⟩ := getS2 X96 hx hZ hown (host := "") (Or.inl (oW hw 25 rfl)) Via.refl e96 (s_LESS_OR_EQUAL.ext OL.2) (g := (mkF m 82 #[oI p1, oI 2, oI 1, oI 1, oI 1, oU, oU, oU] [])) rfl (hb hby at_82)
      have pre99 : oL p e below T98 (mkF m 86 #[oI p1, oI 2, oI 1, oI 1, oI 1, oU, oU, oU] [oi p1, ow w_LESS_OR_EQUAL]) s₁ (entryFrame m #[(.int p1)] maxLocals) := fun t k => pre97 t (by
        refine st98 _ ?_
        refine XS.iloadN X98.here hx rfl (hb hby at_85) rfl ?_
        exact k)
      obtain ⟨cq100, kq100, q100a, q100b, q100c⟩ := isOf hZ e98 (e_LESS_OR_EQUAL.ext OL.2)
      obtain ⟨_, _, ⟨T100, L100, k100, n100⟩, -, X100, ⟨Lc100, hQ100, l100, y100, z100⟩, st100⟩ := X98.virtualBack hx (y := (⟨"com/example/cesson/cesson/model/Target$Operator", "accepts", "(I)Z"⟩ : MethodName)) (z := (⟨"com/example/cesson/cesson/model/Target$Operator", "accepts", "(I)Z"⟩ : MethodName)) hown (mvT hZ (oW hw 3 rfl)) (mvT hZ (oW hw 4 rfl)) (notFace_of_selects (args := #[]) (mvT hZ (oW hw 6 rfl))) (mvT hZ (oW hw 6 rfl)) (mvT hZ (oW hw 5 rfl)) (by decide) (backOf (W := 0) (rm_acc l Z a0 hw [] w_LESS_OR_EQUAL p1 3 0 h0 n0 OL e_LESS_OR_EQUAL f_LESS_OR_EQUAL (by decide) (own_acc_pos hc2 hc41).2.2.2.1) hZ (oW hw 7 rfl) (oW hw 1 rfl) (by decide) (by decide)) q100a q100c (g := (mkF m 86 #[oI p1, oI 2, oI 1, oI 1, oI 1, oU, oU, oU] [oi p1, ow w_LESS_OR_EQUAL])) rfl (by rw [hml]; rfl) (Steps.refl _) (argsL := [(.int p1)]) (rest := []) (lenOf pd__I_Z rfl) rfl (by show 2 * 0 + _ ≤ _; exact Nat.le_of_eq rfl) (hb hby at_86) (fun _ _ => ⟨rfl, e98, (by decide : 0 + 0 ≤ _), (by decide : 0 + 0 ≤ _)⟩)
      dsimp only [Pt.U, Pt.locs, Pt.cells, Pt.slots] at X100 l100 y100 z100 st100 hQ100
      subst l100 y100 z100
      obtain ⟨rfl, N100q, e100⟩ := hQ100
      have N100 := Fr.app N96 N100q
      have pre101 : oL p e below T100 (mkF m 91 #[oI p1, oI 2, oI 1, oI 1, oI 1, oU, oU, oU] [oi 2, oi 3, oi 0]) s₁ (entryFrame m #[(.int p1)] maxLocals) := fun t k => pre99 t (by
        refine st100.trans ?_
        refine XS.iconst X100.here hx rfl (hb hby at_89) ?_
        show oS p e below T100 (mkF m 90 #[oI p1, oI 2, oI 1, oI 1, oI 1, oU, oU, oU] [oi 3, oi 0]) _
        refine XS.iloadN X100.here hx rfl (hb hby at_90) rfl ?_
        exact k)
      obtain ⟨_, _, ⟨T102, L102, k102, n102⟩, -, X102, ⟨Lc102, hQ102, l102, y102, z102⟩, st102⟩ := Jvm.LawKit.callS X100 hx (y := (⟨"com/example/cesson/cesson/model/OperatorAcceptsPinLaw", "allowed", "(II)Z"⟩ : MethodName)) hown (mvT hZ (oW hw 17 rfl)) (mvT hZ (oW hw 18 rfl)) (mvT hZ (oW hw 19 rfl)) (mvT hZ (oW hw 20 rfl)) (by decide) (backOf (W := 1) (rm_all l Z a0 hw [] (3 : Int32) (2 : Int32) 0 h0 n0 OL (by decide)) hZ (oW hw 20 rfl) (oW hw 19 rfl) (by decide) (by decide)) (g := (mkF m 91 #[oI p1, oI 2, oI 1, oI 1, oI 1, oU, oU, oU] [oi 2, oi 3, oi 0])) rfl (by rw [hml]; rfl) (argsL := [(.int (3 : Int32)), (.int (2 : Int32))]) (rest := [(.int (0 : Int32))]) (lenOf pd__II_Z rfl) rfl (by show 2 * 0 + _ ≤ _; exact Nat.le_of_eq rfl) (hb hby at_91) (fun _ _ => ⟨rfl, e100, (by decide : 0 + 0 ≤ _), (by decide : 0 + 0 ≤ _)⟩)
      dsimp only [Pt.U, Pt.locs, Pt.cells, Pt.slots] at X102 l102 y102 z102 st102 hQ102
      subst l102 y102 z102
      obtain ⟨rfl, N102q, e102⟩ := hQ102
      have N102 := Fr.app N100 N102q
      have pre103 : oL p e below T102 (mkF m 104 #[oI p1, oI 2, oI 1, oI 1, oI 1, oI 1, oU, oU] []) s₁ (entryFrame m #[(.int p1)] maxLocals) := fun t k => pre101 t (by
        refine st102 _ ?_
        refine XS.icmpNo X102.here hx rfl (hb hby at_94) rfl (teq (by decide : (0 : Int32) = (0 : Int32))).2 ?_
        refine XS.iconst X102.here hx rfl (hb hby at_97) ?_
        show oS p e below T102 (mkF m 98 #[oI p1, oI 2, oI 1, oI 1, oI 1, oU, oU, oU] [oi 1]) _
        refine XS.goto X102.here hx rfl (pc0 := 98) (pc' := 102) rfl (hb hby at_98) (by decide) (by decide) ?_
        refine XS.istore X102.here hx rfl (hb hby at_102) rfl (l' := #[oI p1, oI 2, oI 1, oI 1, oI 1, oI 1, oU, oU]) rfl ?_
        exact k)
      obtain ⟨T104, X104, e104, st104⟩ := getS2 X102 hx hZ hown (host := "") (Or.inl (oW hw 27 rfl)) Via.refl e102 (s_GREATER.ext OL.2) (g := (mkF m 104 #[oI p1, oI 2, oI 1, oI 1, oI 1, oI 1, oU, oU] [])) rfl (hb hby at_104)
      have pre105 : oL p e below T104 (mkF m 108 #[oI p1, oI 2, oI 1, oI 1, oI 1, oI 1, oU, oU] [oi p1, ow w_GREATER]) s₁ (entryFrame m #[(.int p1)] maxLocals) := fun t k => pre103 t (by
        refine st104 _ ?_
        refine XS.iloadN X104.here hx rfl (hb hby at_107) rfl ?_
        show oS p e below T104 (mkF m 108 #[oI p1, oI 2, oI 1, oI 1, oI 1, oI 1, oU, oU] [oi p1, ow w_GREATER]) _
        exact k)
      obtain ⟨cq106, kq106, q106a, q106b, q106c⟩ := isOf hZ e104 (e_GREATER.ext OL.2)
      obtain ⟨_, _, ⟨T106, L106, k106, n106⟩, -, X106, ⟨Lc106, hQ106, l106, y106, z106⟩, st106⟩ := X104.virtualBack hx (y := (⟨"com/example/cesson/cesson/model/Target$Operator", "accepts", "(I)Z"⟩ : MethodName)) (z := (⟨"com/example/cesson/cesson/model/Target$Operator", "accepts", "(I)Z"⟩ : MethodName)) hown (mvT hZ (oW hw 3 rfl)) (mvT hZ (oW hw 4 rfl)) (notFace_of_selects (args := #[]) (mvT hZ (oW hw 6 rfl))) (mvT hZ (oW hw 6 rfl)) (mvT hZ (oW hw 5 rfl)) (by decide) (backOf (W := 0) (rm_acc l Z a0 hw [] w_GREATER p1 4 1 h0 n0 OL e_GREATER f_GREATER (by decide) (own_acc_pos hc2 hc41).2.2.2.2.1) hZ (oW hw 7 rfl) (oW hw 1 rfl) (by decide) (by decide)) q106a q106c (g := (mkF m 108 #[oI p1, oI 2, oI 1, oI 1, oI 1, oI 1, oU, oU] [oi p1, ow w_GREATER])) rfl (by rw [hml]; rfl) (Steps.refl _) (argsL := [(.int p1)]) (rest := []) (lenOf pd__I_Z rfl) rfl (by show 2 * 0 + _ ≤ _; exact Nat.le_of_eq rfl) (hb hby at_108) (fun _ _ => ⟨rfl, e104, (by decide : 0 + 0 ≤ _), (by decide : 0 + 0 ≤ _)⟩)
      dsimp only [Pt.U, Pt.locs, Pt.cells, Pt.slots] at X106 l106 y106 z106 st106 hQ106
      subst l106 y106 z106
      obtain ⟨rfl, N106q, e106⟩ := hQ106
      have N106 := Fr.app N102 N106q
      have pre107 : oL p e below T106 (mkF m 113 #[oI p1, oI 2, oI 1, oI 1, oI 1, oI 1, oU, oU] [oi 2, oi 4, oi 1]) s₁ (entryFrame m #[(.int p1)] maxLocals) := fun t k => pre105 t (by
        refine st106.trans ?_
        refine XS.iconst X106.here hx rfl (hb hby at_111) ?_
        refine XS.iloadN X106.here hx rfl (hb hby at_112) rfl ?_
        exact k)
      obtain ⟨_, _, ⟨T108, L108, k108, n108⟩, -, X108, ⟨Lc108, hQ108, l108, y108, z108⟩, st108⟩ := Jvm.LawKit.callS X106 hx (y := (⟨"com/example/cesson/cesson/model/OperatorAcceptsPinLaw", "allowed", "(II)Z"⟩ : MethodName)) hown (mvT hZ (oW hw 17 rfl)) (mvT hZ (oW hw 18 rfl)) (mvT hZ (oW hw 19 rfl)) (mvT hZ (oW hw 20 rfl)) (by decide) (backOf (W := 1) (rm_all l Z a0 hw [] (4 : Int32) (2 : Int32) 1 h0 n0 OL (by decide)) hZ (oW hw 20 rfl) (oW hw 19 rfl) (by decide) (by decide)) (g := (mkF m 113 #[oI p1, oI 2, oI 1, oI 1, oI 1, oI 1, oU, oU] [oi 2, oi 4, oi 1])) rfl (by rw [hml]; rfl) (argsL := [(.int (4 : Int32)), (.int (2 : Int32))]) (rest := [(.int (1 : Int32))]) (lenOf pd__II_Z rfl) rfl (by show 2 * 0 + _ ≤ _; exact Nat.le_of_eq rfl) (hb hby at_113) (fun _ _ => ⟨rfl, e106, (by decide : 0 + 0 ≤ _), (by decide : 0 + 0 ≤ _)⟩)
      dsimp only [Pt.U, Pt.locs, Pt.cells, Pt.slots] at X108 l108 y108 z108 st108 hQ108
      subst l108 y108 z108
      obtain ⟨rfl, N108q, e108⟩ := hQ108
      have N108 := Fr.app N106 N108q
      have pre109 : oL p e below T108 (mkF m 126 #[oI p1, oI 2, oI 1, oI 1, oI 1, oI 1, oI 1, oU] []) s₁ (entryFrame m #[(.int p1)] maxLocals) := fun t k => pre107 t (by
        refine st108 _ ?_
        show oS p e below T108 (mkF m 116 #[oI p1, oI 2, oI 1, oI 1, oI 1, oI 1, oU, oU] [oi 1, oi 1]) _
        refine XS.icmpNo X108.here hx rfl (hb hby at_116) rfl (teq (by decide : (1 : Int32) = (1 : Int32))).2 ?_
        refine XS.iconst X108.here hx rfl (hb hby at_119) ?_
        refine XS.goto X108.here hx rfl (pc0 := 120) (pc' := 124) rfl (hb hby at_120) (by decide) (by decide) ?_
        refine XS.istore X108.here hx rfl (hb hby at_124) rfl (l' := #[oI p1, oI 2, oI 1, oI 1, oI 1, oI 1, oI 1, oU]) rfl ?_
        show oS p e below T108 (mkF m 126 #[oI p1, oI 2, oI 1, oI 1, oI 1, oI 1, oI 1, oU] []) _
        exact k)
      obtain ⟨T110, X110, e110, st110⟩ := getS2 X108 hx hZ hown (host := "") (Or.inl (oW hw 29 rfl)) Via.refl e108 (s_GREATER_OR_EQUAL.ext OL.2) (g := (mkF m 126 #[oI p1, oI 2, oI 1, oI 1, oI 1, oI 1, oI 1, oU] [])) rfl (hb hby at_126)
      have pre111 : oL p e below T110 (mkF m 130 #[oI p1, oI 2, oI 1, oI 1, oI 1, oI 1, oI 1, oU] [oi p1, ow w_GREATER_OR_EQUAL]) s₁ (entryFrame m #[(.int p1)] maxLocals) := fun t k => pre109 t (by
        refine st110 _ ?_
        refine XS.iloadN X110.here hx rfl (hb hby at_129) rfl ?_
        exact k)
      obtain ⟨cq112, kq112, q112a, q112b, q112c⟩ := isOf hZ e110 (e_GREATER_OR_EQUAL.ext OL.2)
      obtain ⟨_, _, ⟨T112, L112, k112, n112⟩, -, X112, ⟨Lc112, hQ112, l112, y112, z112⟩, st112⟩ := X110.virtualBack hx (y := (⟨"com/example/cesson/cesson/model/Target$Operator", "accepts", "(I)Z"⟩ : MethodName)) (z := (⟨"com/example/cesson/cesson/model/Target$Operator", "accepts", "(I)Z"⟩ : MethodName)) hown (mvT hZ (oW hw 3 rfl)) (mvT hZ (oW hw 4 rfl)) (notFace_of_selects (args := #[]) (mvT hZ (oW hw 6 rfl))) (mvT hZ (oW hw 6 rfl)) (mvT hZ (oW hw 5 rfl)) (by decide) (backOf (W := 0) (rm_acc l Z a0 hw [] w_GREATER_OR_EQUAL p1 5 1 h0 n0 OL e_GREATER_OR_EQUAL f_GREATER_OR_EQUAL (by decide) (own_acc_pos hc2 hc41).2.2.2.2.2) hZ (oW hw 7 rfl) (oW hw 1 rfl) (by decide) (by decide)) q112a q112c (g := (mkF m 130 #[oI p1, oI 2, oI 1, oI 1, oI 1, oI 1, oI 1, oU] [oi p1, ow w_GREATER_OR_EQUAL])) rfl (by rw [hml]; rfl) (Steps.refl _) (argsL := [(.int p1)]) (rest := []) (lenOf pd__I_Z rfl) rfl (by show 2 * 0 + _ ≤ _; exact Nat.le_of_eq rfl) (hb hby at_130) (fun _ _ => ⟨rfl, e110, (by decide : 0 + 0 ≤ _), (by decide : 0 + 0 ≤ _)⟩)
      dsimp only [Pt.U, Pt.locs, Pt.cells, Pt.slots] at X112 l112 y112 z112 st112 hQ112
      subst l112 y112 z112
      obtain ⟨rfl, N112q, e112⟩ := hQ112
      have N112 := Fr.app N108 N112q
      have pre113 : oL p e below T112 (mkF m 136 #[oI p1, oI 2, oI 1, oI 1, oI 1, oI 1, oI 1, oU] [oi 2, oi 6, oi 1]) s₁ (entryFrame m #[(.int p1)] maxLocals) := fun t k => pre111 t (by
        refine st112.trans ?_
        refine XS.bipush X112.here hx rfl (hb hby at_133) ?_
        show oS p e below T112 (mkF m 135 #[oI p1, oI 2, oI 1, oI 1, oI 1, oI 1, oI 1, oU] [oi 6, oi 1]) _
        refine XS.iloadN X112.here hx rfl (hb hby at_135) rfl ?_
        exact k)
      obtain ⟨_, _, ⟨T114, L114, k114, n114⟩, -, X114, ⟨Lc114, hQ114, l114, y114, z114⟩, st114⟩ := Jvm.LawKit.callS X112 hx (y := (⟨"com/example/cesson/cesson/model/OperatorAcceptsPinLaw", "allowed", "(II)Z"⟩ : MethodName)) hown (mvT hZ (oW hw 17 rfl)) (mvT hZ (oW hw 18 rfl)) (mvT hZ (oW hw 19 rfl)) (mvT hZ (oW hw 20 rfl)) (by decide) (backOf (W := 1) (rm_all l Z a0 hw [] (6 : Int32) (2 : Int32) 1 h0 n0 OL (by decide)) hZ (oW hw 20 rfl) (oW hw 19 rfl) (by decide) (by decide)) (g := (mkF m 136 #[oI p1, oI 2, oI 1, oI 1, oI 1, oI 1, oI 1, oU] [oi 2, oi 6, oi 1])) rfl (by rw [hml]; rfl) (argsL := [(.int (6 : Int32)), (.int (2 : Int32))]) (rest := [(.int (1 : Int32))]) (lenOf pd__II_Z rfl) rfl (by show 2 * 0 + _ ≤ _; exact Nat.le_of_eq rfl) (hb hby at_136) (fun _ _ => ⟨rfl, e112, (by decide : 0 + 0 ≤ _), (by decide : 0 + 0 ≤ _)⟩)
      dsimp only [Pt.U, Pt.locs, Pt.cells, Pt.slots] at X114 l114 y114 z114 st114 hQ114
      subst l114 y114 z114
      obtain ⟨rfl, N114q, e114⟩ := hQ114
      have N114 := Fr.app N112 N114q
      have pre115 : oL p e below T114 (mkF m 182 #[oI p1, oI 2, oI 1, oI 1, oI 1, oI 1, oI 1, oI 1] [oi 1]) s₁ (entryFrame m #[(.int p1)] maxLocals) := fun t k => pre113 t (by
        refine st114 _ ?_
        refine XS.icmpNo X114.here hx rfl (hb hby at_139) rfl (teq (by decide : (1 : Int32) = (1 : Int32))).2 ?_
        refine XS.iconst X114.here hx rfl (hb hby at_142) ?_
        show oS p e below T114 (mkF m 143 #[oI p1, oI 2, oI 1, oI 1, oI 1, oI 1, oI 1, oU] [oi 1]) _
        refine XS.goto X114.here hx rfl (pc0 := 143) (pc' := 147) rfl (hb hby at_143) (by decide) (by decide) ?_
        refine XS.istore X114.here hx rfl (hb hby at_147) rfl (l' := #[oI p1, oI 2, oI 1, oI 1, oI 1, oI 1, oI 1, oI 1]) rfl ?_
        refine XS.iloadN X114.here hx rfl (hb hby at_149) rfl ?_
        refine XS.ifNo X114.here hx rfl (hb hby at_150) rfl ((if0 _ _).trans (feq (by decide : ¬ ((1 : Int32) = (0 : Int32)))).1) ?_
        show oS p e below T114 (mkF m 153 #[oI p1, oI 2, oI 1, oI 1, oI 1, oI 1, oI 1, oI 1] []) _
        refine XS.iloadN X114.here hx rfl (hb hby at_153) rfl ?_
        refine XS.ifNo X114.here hx rfl (hb hby at_154) rfl ((if0 _ _).trans (feq (by decide : ¬ ((1 : Int32) = (0 : Int32)))).1) ?_
        refine XS.iload X114.here hx rfl (hb hby at_157) rfl ?_
        refine XS.ifNo X114.here hx rfl (hb hby at_159) rfl ((if0 _ _).trans (feq (by decide : ¬ ((1 : Int32) = (0 : Int32)))).1) ?_
        show oS p e below T114 (mkF m 162 #[oI p1, oI 2, oI 1, oI 1, oI 1, oI 1, oI 1, oI 1] []) _
        refine XS.iload X114.here hx rfl (hb hby at_162) rfl ?_
        refine XS.ifNo X114.here hx rfl (hb hby at_164) rfl ((if0 _ _).trans (feq (by decide : ¬ ((1 : Int32) = (0 : Int32)))).1) ?_
        refine XS.iload X114.here hx rfl (hb hby at_167) rfl ?_
        refine XS.ifNo X114.here hx rfl (hb hby at_169) rfl ((if0 _ _).trans (feq (by decide : ¬ ((1 : Int32) = (0 : Int32)))).1) ?_
        show oS p e below T114 (mkF m 172 #[oI p1, oI 2, oI 1, oI 1, oI 1, oI 1, oI 1, oI 1] []) _
        refine XS.iload X114.here hx rfl (hb hby at_172) rfl ?_
        refine XS.ifNo X114.here hx rfl (hb hby at_174) rfl ((if0 _ _).trans (feq (by decide : ¬ ((1 : Int32) = (0 : Int32)))).1) ?_
        refine XS.iconst X114.here hx rfl (hb hby at_177) ?_
        refine XS.goto X114.here hx rfl (pc0 := 178) (pc' := 182) rfl (hb hby at_178) (by decide) (by decide) ?_
        show oS p e below T114 (mkF m 182 #[oI p1, oI 2, oI 1, oI 1, oI 1, oI 1, oI 1, oI 1] [oi 1]) _
        exact k)
      obtain ⟨fs, hr, hrun, hended, hW, hsame⟩ := X114.leave (v := some (.int (1 : Int32))) (fun h => by rw [Bd.returns] at h; cases h)
      refine ⟨_, _, pre115 _ ?_, hrun, hended, _, _, rfl, ?_, ⟨_, rfl⟩, hW, hsame.mono (by decide) (by decide)⟩
      ·
        show oS p e below T114 (mkF m 182 #[oI p1, oI 2, oI 1, oI 1, oI 1, oI 1, oI 1, oI 1] [oi 1]) _
        exact retN X114 hx (t := .boolean) Bd.returns (by simp) (hb hby at_182) hr
      ·
        show Q_rm0 Z p1 w_EQUAL w_NOT_EQUAL w_LESS w_LESS_OR_EQUAL w_GREATER w_GREATER_OR_EQUAL h0 n0 _ T114.heap _
        rw [e114]
        exact ⟨rfl, N114⟩
set_option maxRecDepth 65536 in
set_option maxHeartbeats 40000000 in
theorem comes_1 {Post : Tables → Env → Array Value → State → Outcome → State → Prop} (hpost : ∀ tb e args s v u, (limb_1_1.after args s (.returned v) u = true ∧ limb_1_2.after args s (.returned v) u = true ∧ True) → FrameEnd s (.returned v) u (Jvm.fieldLocs frame_1_writes args s ++ Jvm.arrayLocs frame_1_arrays args s ++ Jvm.staticLocs frame_1_statics s) 0 0 → Post tb e args s (.returned v) u) :
    ArmFor flags0 classFile x code maxLocals ret World_1 tables_1 room_1 Calls_1 rest_1 Pre_1 Post := by
  intro l hfl _ _ p e ha hc hk s m args below hf hA hF happ hP
  obtain ⟨hcalls, hrest, hpre⟩ := hP
  obtain ⟨-, -, -, hnamed, -, -, -, hat⟩ := (Spec.applies_iff hf).mp happ
  obtain ⟨hg, hn⟩ := and_e (Cond.before_iff.mp (show (Jvm.Cond.and given_1 narrow_1).before args s = true from hpre))
  obtain ⟨hgl, hgr⟩ := and_e hg
  obtain ⟨w0, rfl⟩ : ∃ w0 : Value, args = #[w0] := by
    have hs : args.size = 1 := by simpa [Cond.value, given_1] using hgl
    obtain ⟨L⟩ := args
    match L, hs with
    | [w0], _ => exact ⟨w0, rfl⟩
  have hw := fun d (hd : d ∈ tables_1) => atoms_spec (ws := Jvm.Cond.code x code maxLocals ret :: tables_1) hat d (List.mem_cons_of_mem _ hd)
  have hfit : Fit s := fun {y c} hc i hi => by
    obtain ⟨ha, rfl⟩ := Array.getElem?_eq_some_iff.mp hc
    have q := List.all_eq_true.mp ((Array.all_eq_true_iff_forall_mem.mp hF) _ (Array.getElem_mem ha)) i (List.mem_range.mpr hi)
    simpa [Array.getElem?_eq_getElem hi] using q
  obtain ⟨i0, ei0⟩ := is_v hgr
  obtain rfl : w0 = (.int i0) := Option.some.inj ei0
  obtain ⟨hnl, hnr⟩ := and_e hn
  obtain ⟨v_EQUAL, ev_EQUAL⟩ := exa_v hnl
  have st_EQUAL := Sta.start ev_EQUAL (Or.inr ⟨(oW hw 1 rfl), (oW hw 2 rfl)⟩)
  have ex_EQUAL := Exa.start ev_EQUAL hnl
  obtain ⟨hnrl, hnrr⟩ := and_e hnr
  have of_EQUAL_ordinal := own_fldI ev_EQUAL hnrl
  obtain ⟨hnrrl, hnrrr⟩ := and_e hnrr
  obtain ⟨v_NOT_EQUAL, ev_NOT_EQUAL⟩ := exa_v hnrrl
  have st_NOT_EQUAL := Sta.start ev_NOT_EQUAL (Or.inr ⟨(oW hw 1 rfl), (oW hw 22 rfl)⟩)
  have ex_NOT_EQUAL := Exa.start ev_NOT_EQUAL hnrrl
  obtain ⟨hnrrrl, hnrrrr⟩ := and_e hnrrr
  have of_NOT_EQUAL_ordinal := own_fldI ev_NOT_EQUAL hnrrrl
  obtain ⟨hnrrrrl, hnrrrrr⟩ := and_e hnrrrr
  obtain ⟨v_LESS, ev_LESS⟩ := exa_v hnrrrrl
  have st_LESS := Sta.start ev_LESS (Or.inr ⟨(oW hw 1 rfl), (oW hw 24 rfl)⟩)
  have ex_LESS := Exa.start ev_LESS hnrrrrl
  obtain ⟨hnrrrrrl, hnrrrrrr⟩ := and_e hnrrrrr
  have of_LESS_ordinal := own_fldI ev_LESS hnrrrrrl
  obtain ⟨hnrrrrrrl, hnrrrrrrr⟩ := and_e hnrrrrrr
  obtain ⟨v_LESS_OR_EQUAL, ev_LESS_OR_EQUAL⟩ := exa_v hnrrrrrrl
  have st_LESS_OR_EQUAL := Sta.start ev_LESS_OR_EQUAL (Or.inr ⟨(oW hw 1 rfl), (oW hw 26 rfl)⟩)
  have ex_LESS_OR_EQUAL := Exa.start ev_LESS_OR_EQUAL hnrrrrrrl
  obtain ⟨hnrrrrrrrl, hnrrrrrrrr⟩ := and_e hnrrrrrrr
  have of_LESS_OR_EQUAL_ordinal := own_fldI ev_LESS_OR_EQUAL hnrrrrrrrl
  obtain ⟨hnrrrrrrrrl, hnrrrrrrrrr⟩ := and_e hnrrrrrrrr
  obtain ⟨v_GREATER, ev_GREATER⟩ := exa_v hnrrrrrrrrl
  have st_GREATER := Sta.start ev_GREATER (Or.inr ⟨(oW hw 1 rfl), (oW hw 28 rfl)⟩)
  have ex_GREATER := Exa.start ev_GREATER hnrrrrrrrrl
  obtain ⟨hnrrrrrrrrrl, hnrrrrrrrrrr⟩ := and_e hnrrrrrrrrr
  have of_GREATER_ordinal := own_fldI ev_GREATER hnrrrrrrrrrl
  obtain ⟨hnrrrrrrrrrrl, hnrrrrrrrrrrr⟩ := and_e hnrrrrrrrrrr
  obtain ⟨v_GREATER_OR_EQUAL, ev_GREATER_OR_EQUAL⟩ := exa_v hnrrrrrrrrrrl
  have st_GREATER_OR_EQUAL := Sta.start ev_GREATER_OR_EQUAL (Or.inr ⟨(oW hw 1 rfl), (oW hw 30 rfl)⟩)
  have ex_GREATER_OR_EQUAL := Exa.start ev_GREATER_OR_EQUAL hnrrrrrrrrrrl
  have of_GREATER_OR_EQUAL_ordinal := own_fldI ev_GREATER_OR_EQUAL hnrrrrrrrrrrr
  obtain ⟨n, o, h1, h2, h3, _, L, rfl, ⟨rfl, N⟩, hq⟩ := rm0 l s _ hw tables_1 i0 v_EQUAL v_NOT_EQUAL v_LESS v_LESS_OR_EQUAL v_GREATER v_GREATER_OR_EQUAL s.heap s.heap.size (Old.start s) st_EQUAL st_NOT_EQUAL st_LESS st_LESS_OR_EQUAL st_GREATER st_GREATER_OR_EQUAL ex_EQUAL ex_NOT_EQUAL ex_LESS ex_LESS_OR_EQUAL ex_GREATER ex_GREATER_OR_EQUAL of_EQUAL_ordinal of_NOT_EQUAL_ordinal of_LESS_ordinal of_LESS_OR_EQUAL_ordinal of_GREATER_ordinal of_GREATER_OR_EQUAL_ordinal p e ha hc hk s m _ below hf ((Spec.applies_iff_loose hf).mp happ).1 ⟨rfl, State.Warmed39.refl s, rfl⟩ trivial
  refine ⟨n, _, h1, h2, h3, hpost _ _ _ _ _ _ ⟨Cond.after_iff.mpr rfl, Cond.after_iff.mpr (eq_i res_at (Term.int_eval (1)) rfl), trivial⟩ ⟨hq.1, hq.2.1, (hq.2.2.sift fun y hy => Or.inr (N y hy)).mono (by decide) (by decide)⟩⟩
theorem main_1_1 : Claimed_1_1 := comes_1 fun _ _ _ _ _ _ h hF => ⟨h.1, hF⟩
theorem main_1_2 : Claimed_1_2 := comes_1 fun _ _ _ _ _ _ h hF => ⟨h.2.1, hF⟩
end Jvm.Pilot.@@N@@
namespace Jvm.Pilot.@@N@@
open Jvm Jvm.ClassFile Sem Op Lib Jvm.Free Jvm.Stand Jvm.Pilot.@@N@@.Jvm.D
/-! MADE BY PROGRAM (witnessworld.py) out of the Statement's table words and the real class files: 12 classes; the members and pool entries that the words name. The judged class is class 1, her method 1. -/
namespace start1
open Jvm.ClassFile
def u (s : String) : CpInfo := .utf8 (stringToUtf16 s)
/-- a pool by its gaps: so many unusable entries, then the entry; so many at the end -/
def gap : Nat → List CpInfo → List CpInfo
  | 0, r => r
  | n + 1, r => .unusable :: gap n r
def poolList (es : List (Nat × CpInfo)) (last : Nat) : List CpInfo := es.foldr (fun e r => gap e.1 (e.2 :: r)) (gap last [])
def pool (es : List (Nat × CpInfo)) (last : Nat) : Array CpInfo := ⟨poolList es last⟩
def fileOf (pool : Array CpInfo) (this : Nat) (attrs : Array Attribute := #[]) (ms : Array MethodInfo := #[]) (fl : Nat := 33) (sup : Nat := 0) (ifs : Array Nat := #[]) (fds : Array FieldInfo := #[]) : ClassFile where
  minorVersion := 0
  majorVersion := 65
  constantPool := pool
  accessFlags := fl
  thisClass := this
  superClass := sup
  interfaces := ifs
  fields := fds
  methods := ms
  attributes := attrs
def plain (name : String) (sup : Option ClassId) : Class where
  name := name
  kind := .ordinary
  loader := none
  accessFlags := 33
  super := sup
  interfaces := #[]
  cf := none
  fields := #[]
  methods := #[]
  instanceTypes := #[]
  staticTypes := #[]
  resolved := #[]
  callSites := []
  init := .initialized
  statics := none
  mirror := none

def pool0 : Array CpInfo := pool [(5, u "<init>"), (0, u "()V"), (1, .class_ 10), (1, u "java/lang/Object")] 113

def k0m0 : Method := { name := "<init>", desc := "()V", sig := { parameters := [], returnType := none }, accessFlags := 1, code := none }
/-- java/lang/Object -/
def k0 : Class := { plain "java/lang/Object" none with
  accessFlags := 33
  interfaces := #[]
  cf := some (fileOf pool0 8 #[] #[{ accessFlags := 1, nameIndex := 5, descriptorIndex := 6, attributes := #[] }] 33 0 #[] #[])
  fields := #[]
  methods := #[k0m0]
  instanceTypes := #[]
  staticTypes := #[]
  resolved := Array.replicate 124 none
  statics := none }

def pool1 : Array CpInfo := pool [(2, .class_ 4), (1, u "java/lang/Object"), (0, u "<init>"), (0, u "()V"), (0, .fieldref 8 9), (0, .class_ 10), (0, .nameAndType 11 12), (0, u "com/example/cesson/cesson/model/Target$Operator"), (0, u "EQUAL"), (0, u "Lcom/example/cesson/cesson/model/Target$Operator;"), (0, .methodref 8 14), (0, .nameAndType 15 16), (0, u "accepts"), (0, u "(I)Z"), (0, .class_ 18), (0, u "com/example/cesson/cesson/model/OperatorAcceptsPinLaw"), (0, .methodref 17 20), (0, .nameAndType 21 22), (0, u "allowed"), (0, u "(II)Z"), (0, .fieldref 8 24), (0, .nameAndType 25 12), (0, u "NOT_EQUAL"), (0, .fieldref 8 27), (0, .nameAndType 28 12), (0, u "LESS"), (0, .fieldref 8 30), (0, .nameAndType 31 12), (0, u "LESS_OR_EQUAL"), (0, .fieldref 8 33), (0, .nameAndType 34 12), (0, u "GREATER"), (0, .fieldref 8 36), (0, .nameAndType 37 12), (0, u "GREATER_OR_EQUAL"), (0, u "NEG"), (0, u "I"), (2, u "ZERO"), (1, u "POS"), (3, u "law")] 7

def k1m0 : Method := { name := "<init>", desc := "()V", sig := { parameters := [], returnType := none }, accessFlags := 1, code := none }
def k1c1 : Code := { maxStack := 3, maxLocals := 8, code := code, exceptionTable := #[], attributes := #[] }
def k1m1 : Method := { name := "law", desc := "(I)Z", sig := { parameters := [.int], returnType := some .boolean }, accessFlags := 9, code := some k1c1 }
def k1c2 : Code := { maxStack := 2, maxLocals := 2, code := method_3_code, exceptionTable := #[], attributes := #[] }
def k1m2 : Method := { name := "allowed", desc := "(II)Z", sig := { parameters := [.int, .int], returnType := some .boolean }, accessFlags := 10, code := some k1c2 }
/-- com/example/cesson/cesson/model/OperatorAcceptsPinLaw -/
def k1 : Class := { plain "com/example/cesson/cesson/model/OperatorAcceptsPinLaw" (some 0) with
  accessFlags := 49
  interfaces := #[]
  cf := some (fileOf pool1 17 #[] #[{ accessFlags := 1, nameIndex := 5, descriptorIndex := 6, attributes := #[] }, { accessFlags := 9, nameIndex := 48, descriptorIndex := 16, attributes := #[] }, { accessFlags := 10, nameIndex := 21, descriptorIndex := 22, attributes := #[] }] 49 2 #[] #[{ accessFlags := 26, nameIndex := 38, descriptorIndex := 39, attributes := #[] }, { accessFlags := 26, nameIndex := 42, descriptorIndex := 39, attributes := #[] }, { accessFlags := 26, nameIndex := 44, descriptorIndex := 39, attributes := #[] }])
  fields := #[{ name := "NEG", type := .int, accessFlags := 26, slot := 0, constantValue := 0 }, { name := "ZERO", type := .int, accessFlags := 26, slot := 1, constantValue := 0 }, { name := "POS", type := .int, accessFlags := 26, slot := 2, constantValue := 0 }]
  methods := #[k1m0, k1m1, k1m2]
  instanceTypes := #[]
  staticTypes := #[.int, .int, .int]
  resolved := Array.replicate 56 none
  statics := none }

def pool2 : Array CpInfo := pool [(1, .class_ 2), (0, u "java/lang/constant/Constable"), (0, .class_ 4), (0, u "java/lang/Object")] 6

/-- java/lang/constant/Constable -/
def k2 : Class := { plain "java/lang/constant/Constable" (some 0) with
  accessFlags := 1537
  interfaces := #[]
  cf := some (fileOf pool2 1 #[] #[] 1537 3 #[] #[])
  fields := #[]
  methods := #[]
  instanceTypes := #[]
  staticTypes := #[]
  resolved := Array.replicate 11 none
  statics := none }

def pool3 : Array CpInfo := pool [(1, .class_ 2), (0, u "java/lang/Comparable"), (0, .class_ 4), (0, u "java/lang/Object")] 7

/-- java/lang/Comparable -/
def k3 : Class := { plain "java/lang/Comparable" (some 0) with
  accessFlags := 1537
  interfaces := #[]
  cf := some (fileOf pool3 1 #[] #[] 1537 3 #[] #[])
  fields := #[]
  methods := #[]
  instanceTypes := #[]
  staticTypes := #[]
  resolved := Array.replicate 12 none
  statics := none }

def pool4 : Array CpInfo := pool [(1, .class_ 2), (0, u "java/io/Serializable"), (0, .class_ 4), (0, u "java/lang/Object")] 2

/-- java/io/Serializable -/
def k4 : Class := { plain "java/io/Serializable" (some 0) with
  accessFlags := 1537
  interfaces := #[]
  cf := some (fileOf pool4 1 #[] #[] 1537 3 #[] #[])
  fields := #[]
  methods := #[]
  instanceTypes := #[]
  staticTypes := #[]
  resolved := Array.replicate 7 none
  statics := none }

def pool5 : Array CpInfo := pool [(2, .class_ 4), (1, u "java/lang/Enum"), (0, u "name"), (0, u "Ljava/lang/String;"), (0, .fieldref 2 8), (0, .nameAndType 9 10), (0, u "ordinal"), (0, u "I"), (1, .class_ 14), (1, u "java/lang/Object"), (4, u "hash"), (86, .class_ 108), (1, u "java/lang/Enum$EnumDesc"), (2, .class_ 112), (0, u "java/lang/constant/Constable"), (0, .class_ 114), (0, u "java/lang/Comparable"), (0, .class_ 116), (0, u "java/io/Serializable"), (9, u "()I")] 77

def k5c0 : Code := { maxStack := 1, maxLocals := 1, code := jdk_37_method_2_code, exceptionTable := #[], attributes := #[] }
def k5m0 : Method := { name := "ordinal", desc := "()I", sig := { parameters := [], returnType := some .int }, accessFlags := 17, code := some k5c0 }
/-- java/lang/Enum -/
def k5 : Class := { plain "java/lang/Enum" (some 0) with
  accessFlags := 1057
  interfaces := #[2, 3, 4]
  cf := some (fileOf pool5 2 #[.nestMembers #[106]] #[{ accessFlags := 17, nameIndex := 9, descriptorIndex := 126, attributes := #[] }] 1057 12 #[111, 113, 115] #[{ accessFlags := 18, nameIndex := 5, descriptorIndex := 6, attributes := #[] }, { accessFlags := 18, nameIndex := 9, descriptorIndex := 10, attributes := #[] }, { accessFlags := 2, nameIndex := 19, descriptorIndex := 10, attributes := #[] }])
  fields := #[{ name := "name", type := (.object "java/lang/String"), accessFlags := 18, slot := 0, constantValue := 0 }, { name := "ordinal", type := .int, accessFlags := 18, slot := 1, constantValue := 0 }, { name := "hash", type := .int, accessFlags := 2, slot := 2, constantValue := 0 }]
  methods := #[k5m0]
  instanceTypes := #[(.object "java/lang/String"), .int, .int]
  staticTypes := #[]
  resolved := Array.replicate 204 none
  statics := none }

def pool6 : Array CpInfo := pool [(1, .class_ 2), (0, u "com/example/cesson/cesson/model/Target$Operator"), (2, u "EQUAL"), (0, u "Lcom/example/cesson/cesson/model/Target$Operator;"), (2, u "NOT_EQUAL"), (2, u "LESS"), (2, u "LESS_OR_EQUAL"), (2, u "GREATER"), (2, u "GREATER_OR_EQUAL"), (2, u "$VALUES"), (0, u "[Lcom/example/cesson/cesson/model/Target$Operator;"), (6, .class_ 34), (1, u "java/lang/Enum"), (8, u "symbol"), (0, u "Ljava/lang/String;"), (0, .methodref 1 46), (0, .nameAndType 47 48), (0, u "ordinal"), (0, u "()I"), (38, u "accepts"), (0, u "(I)Z"), (7, .class_ 97), (0, u "com/example/cesson/cesson/model/Target")] 2

def k6c0 : Code := { maxStack := 4, maxLocals := 2, code := prog_23_method_5_code, exceptionTable := #[], attributes := #[] }
def k6m0 : Method := { name := "accepts", desc := "(I)Z", sig := { parameters := [.int], returnType := some .boolean }, accessFlags := 0, code := some k6c0 }
/-- com/example/cesson/cesson/model/Target$Operator -/
def k6 : Class := { plain "com/example/cesson/cesson/model/Target$Operator" (some 5) with
  accessFlags := 16433
  interfaces := #[]
  cf := some (fileOf pool6 1 #[.nestHost 96] #[{ accessFlags := 0, nameIndex := 87, descriptorIndex := 88, attributes := #[] }] 16433 32 #[] #[{ accessFlags := 16409, nameIndex := 5, descriptorIndex := 6, attributes := #[] }, { accessFlags := 16409, nameIndex := 9, descriptorIndex := 6, attributes := #[] }, { accessFlags := 16409, nameIndex := 12, descriptorIndex := 6, attributes := #[] }, { accessFlags := 16409, nameIndex := 15, descriptorIndex := 6, attributes := #[] }, { accessFlags := 16409, nameIndex := 18, descriptorIndex := 6, attributes := #[] }, { accessFlags := 16409, nameIndex := 21, descriptorIndex := 6, attributes := #[] }, { accessFlags := 18, nameIndex := 43, descriptorIndex := 44, attributes := #[] }, { accessFlags := 4122, nameIndex := 24, descriptorIndex := 25, attributes := #[] }])
  fields := #[{ name := "EQUAL", type := (.object "com/example/cesson/cesson/model/Target$Operator"), accessFlags := 16409, slot := 0, constantValue := 0 }, { name := "NOT_EQUAL", type := (.object "com/example/cesson/cesson/model/Target$Operator"), accessFlags := 16409, slot := 1, constantValue := 0 }, { name := "LESS", type := (.object "com/example/cesson/cesson/model/Target$Operator"), accessFlags := 16409, slot := 2, constantValue := 0 }, { name := "LESS_OR_EQUAL", type := (.object "com/example/cesson/cesson/model/Target$Operator"), accessFlags := 16409, slot := 3, constantValue := 0 }, { name := "GREATER", type := (.object "com/example/cesson/cesson/model/Target$Operator"), accessFlags := 16409, slot := 4, constantValue := 0 }, { name := "GREATER_OR_EQUAL", type := (.object "com/example/cesson/cesson/model/Target$Operator"), accessFlags := 16409, slot := 5, constantValue := 0 }, { name := "symbol", type := (.object "java/lang/String"), accessFlags := 18, slot := 3, constantValue := 0 }, { name := "$VALUES", type := (.array (.object "com/example/cesson/cesson/model/Target$Operator")), accessFlags := 4122, slot := 6, constantValue := 0 }]
  methods := #[k6m0]
  instanceTypes := #[(.object "java/lang/String"), .int, .int, (.object "java/lang/String")]
  staticTypes := #[(.object "com/example/cesson/cesson/model/Target$Operator"), (.object "com/example/cesson/cesson/model/Target$Operator"), (.object "com/example/cesson/cesson/model/Target$Operator"), (.object "com/example/cesson/cesson/model/Target$Operator"), (.object "com/example/cesson/cesson/model/Target$Operator"), (.object "com/example/cesson/cesson/model/Target$Operator"), (.array (.object "com/example/cesson/cesson/model/Target$Operator"))]
  resolved := Array.replicate 100 none
  statics := some 0 }

def pool7 : Array CpInfo := pool [(1, u "java/lang/Cloneable"), (0, .class_ 1), (0, u "java/lang/Object"), (0, .class_ 3)] 3

/-- java/lang/Cloneable -/
def k7 : Class := { plain "java/lang/Cloneable" (some 0) with
  accessFlags := 1537
  interfaces := #[]
  cf := some (fileOf pool7 2 #[] #[] 1537 4 #[] #[])
  fields := #[]
  methods := #[]
  instanceTypes := #[]
  staticTypes := #[]
  resolved := Array.replicate 8 none
  statics := none }

/-- the primitive byte -/
def k8 : Class := { plain "byte" none with kind := .primitive 'B', accessFlags := 0x411 }
/-- [B -/
def k9 : Class := { plain "[B" (some 0) with kind := .array 8 .byte, interfaces := #[7, 4], accessFlags := 1041 }

/-- the primitive int -/
def k10 : Class := { plain "int" none with kind := .primitive 'I', accessFlags := 0x411 }
/-- [I -/
def k11 : Class := { plain "[I" (some 0) with kind := .array 10 .int, interfaces := #[7, 4], accessFlags := 1041 }

def heap : Heap := #[{ cls := 6, slots := #[.ref 1, .ref 2, .ref 3, .ref 4, .ref 5, .ref 6, .null], vm := .statics 6 },
  { cls := 6, slots := #[.null, .int 0, .int 0, .null], vm := .none },
  { cls := 6, slots := #[.null, .int 1, .int 0, .null], vm := .none },
  { cls := 6, slots := #[.null, .int 2, .int 0, .null], vm := .none },
  { cls := 6, slots := #[.null, .int 3, .int 0, .null], vm := .none },
  { cls := 6, slots := #[.null, .int 4, .int 0, .null], vm := .none },
  { cls := 6, slots := #[.null, .int 5, .int 0, .null], vm := .none }]
def classes : Array Class := #[k0, k1, k2, k3, k4, k5, k6, k7, k8, k9, k10, k11]
def interned : List (Array UInt16 × Addr) := []
def slotsUsed : Nat := 31
def theMethod : MethodId := ⟨1, 1⟩
def args0 : Array Value := #[.int 5]
def aboutOver (below : List Frame) : State where
  vm := { classes := classes, interned := interned.toArray }
  heap := heap
  slotsUsed := slotsUsed
  threads := #[{ frames := .invoking theMethod args0 :: below }]
def below0 : List Frame := [.native { method := ⟨0, 0⟩, args := #[] }]
def about1 : State := aboutOver below0
def p0 : Program := .bare "" "" ""
def e0 : Env := launch0.env 0 0 0
theorem w_frames : about1.frames = Frame.invoking theMethod args0 :: below0 := rfl
set_option maxRecDepth 65536 in
theorem w_args : argsFit about1.vm theMethod args0 = true := by decide +kernel
set_option maxRecDepth 65536 in
theorem w_heap : heapFits about1 = true := by decide +kernel
set_option maxRecDepth 65536 in
theorem w_runnable : about1.curStatus? = some .runnable := by decide +kernel
set_option maxRecDepth 65536 in
theorem w_alone : about1.alone = true := by decide +kernel
set_option maxRecDepth 65536 in
theorem w_named : about1.methodNamed? x = some theMethod := by decide +kernel
set_option maxRecDepth 65536 in
theorem w_hears : about1.hears theMethod below0 = true := by decide +kernel
set_option maxRecDepth 65536 in
theorem w_ripe : about1.ripe theMethod args0 below0 = true := by decide +kernel
theorem w_running : about1.status = .running := rfl
set_option maxRecDepth 65536 in
theorem w_room : about1.hasRoom e0.platform room_1 = true :=
  launch0.hasRoom_least _ room_1 (by decide +kernel) (by decide +kernel) (by decide +kernel) (by decide +kernel) (by decide +kernel) (by decide +kernel)
theorem allAtoms_all (ts : List Jvm.Cond) (a : Array Jvm.Value) (st : Jvm.State) : (allAtoms ts).before a st = ts.all (fun c => c.before a st) := by
  induction ts with
  | nil => rfl
  | cons c t ih =>
    show (Jvm.Cond.and c (allAtoms t)).before a st = _
    rw [Jvm.Cond.before_and, ih, List.all_cons]
def words1 : List Jvm.Cond := Jvm.Cond.code x code maxLocals ret :: tables_1
/-- a 'code' word, met by the world's own term for the bytes: nothing is compared byte by byte -/
theorem code_word {y : MethodName} {bytes : ByteArray} {mx : Nat} {rt : Option FieldType} {a : Array Value} {s : State} {m : MethodId} {meth : Method} {c : Code} (h1 : s.methodNamed? y = some m) (h2 : s.vm.method? m = some meth) (h3 : meth.code = some c) (h4 : c.code = bytes)
    (h5 : (c.maxLocals == mx && c.exceptionTable.isEmpty && decide (c.maxStack ≤ mostOperands) && decide (meth.sig.returnType = rt) && !meth.locks && decide (parseMethodDescriptor y.desc = some meth.sig)) = true) : (Jvm.Cond.code y bytes mx rt).before a s = true := by
  simp only [Bool.and_eq_true, beq_iff_eq, Bool.not_eq_true', decide_eq_true_eq] at h5
  obtain ⟨⟨⟨⟨⟨g1, g2⟩, g3⟩, g4⟩, g5⟩, g6⟩ := h5
  simp [Cond.before, Cond.holds, Cond.value, h1, h2, h3, h4, g1, g2, g3, g4, g5, g6]
def isCode : Jvm.Cond → Bool
  | .code _ _ _ _ => true
  | _ => false
theorem all_split {L : List Jvm.Cond} {P : Jvm.Cond → Bool} (h1 : L.all (fun c => isCode c || P c) = true) (h2 : ∀ c ∈ L.filter isCode, P c = true) : L.all P = true := by
  refine List.all_eq_true.mpr fun c hc => ?_
  have h := List.all_eq_true.mp h1 c hc
  rcases Bool.eq_false_or_eq_true (isCode c) with hi | hi
  · exact h2 c (List.mem_filter.mpr ⟨hc, hi⟩)
  · simpa [hi] using h
set_option maxRecDepth 65536 in
theorem w_c0 : (Jvm.Cond.code x code maxLocals ret).before args0 about1 = true := code_word (m := ⟨1, 1⟩) (meth := k1m1) (c := k1c1) (by decide +kernel) rfl rfl rfl (by decide +kernel)
set_option maxRecDepth 65536 in
theorem w_c1 : (Jvm.Cond.code ({ cls := "com/example/cesson/cesson/model/Target$Operator", name := "accepts", desc := "(I)Z" } : Jvm.MethodName) prog_23_method_5_code (2 : Nat) (Option.some Jvm.ClassFile.FieldType.boolean)).before args0 about1 = true := code_word (m := ⟨6, 0⟩) (meth := k6m0) (c := k6c0) (by decide +kernel) rfl rfl rfl (by decide +kernel)
set_option maxRecDepth 65536 in
theorem w_c2 : (Jvm.Cond.code ({ cls := "java/lang/Enum", name := "ordinal", desc := "()I" } : Jvm.MethodName) jdk_37_method_2_code (1 : Nat) (Option.some Jvm.ClassFile.FieldType.int)).before args0 about1 = true := code_word (m := ⟨5, 0⟩) (meth := k5m0) (c := k5c0) (by decide +kernel) rfl rfl rfl (by decide +kernel)
set_option maxRecDepth 65536 in
theorem w_c3 : (Jvm.Cond.code ({ cls := "com/example/cesson/cesson/model/OperatorAcceptsPinLaw", name := "allowed", desc := "(II)Z" } : Jvm.MethodName) method_3_code (2 : Nat) (Option.some Jvm.ClassFile.FieldType.boolean)).before args0 about1 = true := code_word (m := ⟨1, 2⟩) (meth := k1m2) (c := k1c2) (by decide +kernel) rfl rfl rfl (by decide +kernel)
def codes1 : List Jvm.Cond := [Jvm.Cond.code x code maxLocals ret, Jvm.Cond.code ({ cls := "com/example/cesson/cesson/model/Target$Operator", name := "accepts", desc := "(I)Z" } : Jvm.MethodName) prog_23_method_5_code (2 : Nat) (Option.some Jvm.ClassFile.FieldType.boolean), Jvm.Cond.code ({ cls := "java/lang/Enum", name := "ordinal", desc := "()I" } : Jvm.MethodName) jdk_37_method_2_code (1 : Nat) (Option.some Jvm.ClassFile.FieldType.int), Jvm.Cond.code ({ cls := "com/example/cesson/cesson/model/OperatorAcceptsPinLaw", name := "allowed", desc := "(II)Z" } : Jvm.MethodName) method_3_code (2 : Nat) (Option.some Jvm.ClassFile.FieldType.boolean)]
set_option maxRecDepth 65536 in
theorem codes_eq : words1.filter isCode = codes1 := rfl
theorem w_codes : ∀ c ∈ words1.filter isCode, c.before args0 about1 = true := by
  rw [codes_eq]
  intro c hc
  simp only [codes1, List.mem_cons, List.not_mem_nil, or_false] at hc
  rcases hc with rfl | rfl | rfl | rfl
  · exact w_c0
  · exact w_c1
  · exact w_c2
  · exact w_c3
set_option maxRecDepth 65536 in
theorem w_t1 : (words1.take 24).all (fun c => isCode c || c.before args0 about1) = true := by decide +kernel
set_option maxRecDepth 65536 in
theorem w_t2 : (words1.drop 24).all (fun c => isCode c || c.before args0 about1) = true := by decide +kernel
theorem w_tables : (allAtoms (Jvm.Cond.code x code maxLocals ret :: tables_1)).before args0 about1 = true := by
  rw [allAtoms_all]
  show words1.all (fun c => c.before args0 about1) = true
  refine all_split ?_ w_codes
  rw [← List.take_append_drop 24 words1, List.all_append, w_t1, w_t2]
  rfl
set_option maxRecDepth 65536 in
theorem w_case : (Jvm.Cond.and given_1 narrow_1).before args0 about1 = true := by decide +kernel
theorem w_applies : (headSpec (Jvm.Cond.code x code maxLocals ret :: tables_1) room_1).applies x e0.platform about1 = true :=
  (Spec.applies_iff w_frames).mpr ⟨w_running, w_runnable, w_alone, w_named, w_hears, w_ripe, w_room, w_tables⟩
theorem atStart : AtStart classFile x code maxLocals ret World_1 tables_1 room_1 Calls_1 rest_1 Pre_1 launch0 p0 e0 about1 theMethod args0 below0 :=
  ⟨lists_1, trivial, launch0.admits_env _ _ _, launch0.least_env, fairChoices_fair.cas, fairChoices_fair.clock, w_frames, w_args, w_heap, w_applies, trivial, trivial, w_case⟩
end start1
theorem witness_1 : WitnessClaimed_1 := ⟨start1.p0, start1.e0, start1.about1, start1.theMethod, start1.args0, start1.below0, start1.atStart⟩
end Jvm.Pilot.@@N@@
