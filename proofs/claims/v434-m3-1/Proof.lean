import JvmDerived
import JvmDerived.Pilot.@@N@@Statement
import JvmDerived.Pilot.@@N@@Code
set_option linter.unusedVariables false
set_option linter.unusedSimpArgs false
namespace Jvm.RoadKit
open Sem ClassFile Op Lib Jvm.Stand Jvm.Free Jvm.LawKit
section New
variable {p : Program} {l : Launch} {e : Env} {R : Room} {s : State} {m : MethodId} {args : Array Value} {below : List Frame} {meth : Method} {c : Code} {T : State} {locs : List Loc} {cells slots : Nat}
theorem retI (X : Stand p l e R s m args below meth c T locs cells slots) (hx : p.tables.exec = Jvm.exec) {pc : Nat} {Ls : Array Slot} {z : Int32} {rest : List Value} (hret : meth.sig.returnType = some .int) (hd : decode c.code pc = .ok (.ireturn, 1)) {fs : List Frame}
    (hl : ∀ (f : JFrame) (acts : List Action), f.method = m → f.locked = none → f.entered = [] → (doReturn e (T.setTop f) acts (some (.int z))).1 = T.setFrames fs) : Steps p.tables e below (T.setTop (mkF m pc Ls (.int z :: rest))) (T.setFrames fs) := by
  have hm' : T.vm.method? m = some meth := X.method'
  have hn : narrow .int (.int z) = .int z := rfl
  show Steps p.tables e below (T.setTop { method := m, pc := pc, locals := Ls, stack := _ :: rest, locked := none }) _
  jvm_step X.here [X.here.top, hx, hd, hm', hret, hn]
  first | (intro acts; rw [hl _ acts rfl rfl rfl]) | rw [hl _ _ rfl rfl rfl]
  exact Steps.refl _
end New
end Jvm.RoadKit
namespace Jvm.Pilot.@@N@@
open Jvm Jvm.ClassFile Sem Op Lib Jvm.Free Jvm.Stand Jvm.LawKit Jvm.RoadKit Bundle Jvm.Pilot.@@N@@.Jvm.D
theorem oW {Z : State} {a0 : Array Value} (hw : ∀ d ∈ tables_1, d.before a0 Z = true) (i : Nat) {d : Jvm.Cond} (h : tables_1[i]? = some d) : d.before a0 Z = true := hw d (List.mem_of_getElem? h)
abbrev oI (x : Int32) : Slot := .val (.int x)
abbrev oR (x : Addr) : Slot := .val (.ref x)
abbrev oV (x : Value) : Slot := .val x
abbrev oN : Slot := .val .null
abbrev oU : Slot := .unset
abbrev oi (x : Int32) : Value := .int x
abbrev ow (x : Addr) : Value := .ref x
abbrev oS (p : Program) (e : Env) (below : List Frame) (T : State) (g : JFrame) (t : State) : Prop := Steps p.tables e below (T.setTop g) t
abbrev oL (p : Program) (e : Env) (below : List Frame) (T : State) (g : JFrame) (T' : State) (g' : JFrame) : Prop := ∀ t, Steps p.tables e below (T.setTop g) t → Steps p.tables e below (T'.setTop g') t
theorem own_fldI {args : Array Value} {Z : State} {t : Term} {C n d : String} {k : Int32} {a : Addr} (ev : t.eval args Z none [] Z = some (.ref a)) (h : (Jvm.Cond.eq (.field t C n d) (.int k)).value args Z none Z [] = some true) : Fld Z Z.heap a C n d (.int k) := by
  obtain ⟨x, y, h1, h2, hk, hk'⟩ := cmp_v (Or.inl h)
  have h2' : y = .int k := by simpa [Term.eval] using h2.symm
  subst h2'
  obtain ⟨z, rfl⟩ : ∃ z, x = .int z := hk'
  have : z = k := by simpa [Cond.value, h1, h2] using h
  subst this
  exact Fld.start ((fld_at ev).symm.trans h1)
theorem own_lsw {tb : Tables} [Ours tb] {e : Env} {below : List Frame} {T target : State} {m : MethodId} {c : Code} {g : JFrame} (h : At T m c below) (hx : tb.exec = Jvm.exec) (hg : g.method = m) {dflt : Int} {prs : Array (Int × Int)} {len : Nat} {o : Int} {pc0 pc' : Nat} (hpc : g.pc = pc0) (hd : decode c.code g.pc = .ok (.lookupswitch dflt prs, len)) {i : Int32} {rest : List Value} (hs : g.stack = .int i :: rest)
    (hso : (prs.toList.zip (prs.toList.drop 1)).all (fun (a, next) => a.1 < next.1) = true) (hoff : lookupswitch.offset prs.toList dflt i.toInt = o) (ho : 0 ≤ (pc0 : Int) + o) (hp : ((pc0 : Int) + o).toNat = pc')
    (hr : Steps tb e below (T.setTop { g with pc := pc', stack := rest }) target) : Steps tb e below (T.setTop g) target := by
  subst hg hpc hp
  jvm_step h [h.top, hx, hd, hs, hoff, ho, lookupswitch.wp_chain]
  first | exact hr | exact ⟨by simpa using hso, hr⟩
theorem pn_com_example_careroster_careroster_directory_Truth : plainName "com/example/careroster/careroster/directory/Truth" = true := by first | (simp [plainName, overriddenIn]; done) | decide +kernel
theorem d1_0 : decode prog_107_method_4_code 0 = .ok (.iload_n 0, 1) := by decide +kernel
theorem d1_1 : decode prog_107_method_4_code 1 = .ok (.ifCond .eq 9, 3) := by decide +kernel
theorem d1_10 : decode prog_107_method_4_code 10 = .ok (.getstatic 7, 3) := by decide +kernel
theorem d1_13 : decode prog_107_method_4_code 13 = .ok (.areturn, 1) := by decide +kernel
theorem d1_4 : decode prog_107_method_4_code 4 = .ok (.getstatic 3, 3) := by decide +kernel
theorem d1_7 : decode prog_107_method_4_code 7 = .ok (.goto 6, 3) := by decide +kernel
def Q_rm_of (Z : State) (p1 : Int32) (w_TRUE : Addr) (w_FALSE : Addr) (r : Addr) (h0 : Heap) (n0 : Nat) (v : Option Value) (h : Heap) (L : List Loc) : Prop := v = some (.ref r) ∧ Fr n0 L ∧ h = h0
set_option maxRecDepth 65536 in
set_option maxHeartbeats 40000000 in
theorem rm_of (l : Launch) (Z : State) (a0 : Array Value) (hw : ∀ d ∈ tables_1, d.before a0 Z = true) (ws : List Jvm.Cond) (p1 : Int32) (w_TRUE : Addr) (w_FALSE : Addr) (r : Addr) (h0 : Heap) (n0 : Nat) (OL : Old Z n0 h0) (s_TRUE : Sta Z Z.heap "com/example/careroster/careroster/directory/Truth" "TRUE" "Lcom/example/careroster/careroster/directory/Truth;" (.ref w_TRUE)) (s_FALSE : Sta Z Z.heap "com/example/careroster/careroster/directory/Truth" "FALSE" "Lcom/example/careroster/careroster/directory/Truth;" (.ref w_FALSE)) (hr' : r = if p1 = 0 then w_FALSE else w_TRUE) :
    MetFree l (⟨"com/example/careroster/careroster/directory/Truth", "of", "(Z)Lcom/example/careroster/careroster/directory/Truth;"⟩ : MethodName) (head1 (Jvm.Cond.code (⟨"com/example/careroster/careroster/directory/Truth", "of", "(Z)Lcom/example/careroster/careroster/directory/Truth;"⟩ : MethodName) prog_107_method_4_code 1 (some (.object "com/example/careroster/careroster/directory/Truth")) :: ws) ({ frames := 0, cells := 0, slots := 0, locals := 0 } : Room)) (fun a U => a = #[(.int p1)] ∧ Z.Warmed39 U.vm ∧ U.heap = h0) (fun _ _ _ _ _ => True) (fun _ U o U' => ∃ v L, o = .returned v ∧ Q_rm_of Z p1 w_TRUE w_FALSE r h0 n0 v U'.heap L ∧ FrameEnd U o U' L ({ frames := 0, cells := 0, slots := 0, locals := 0 } : Room).cells ({ frames := 0, cells := 0, slots := 0, locals := 0 } : Room).slots) := by
  refine MetFree.of_bodySF (plainFor_of_name pn_com_example_careroster_careroster_directory_Truth) hisR ?_
  intro p e s m args below meth c s₁ Bd hml0 hP hK
  obtain ⟨rfl, hZ, hh⟩ := hP
  have hx := Bd.exec
  have hby := Bd.bytes
  have hml : c.maxLocals = 1 := hml0
  have hown : s.vm.findClass "com/example/careroster/careroster/directory/Truth" = some m.cls := findClass_of_methodNamed Bd.named
  have hnm := (name_of_methodNamed Bd.named Bd.method).1
  have X0 : Stand p l e ({ frames := 0, cells := 0, slots := 0, locals := 0 } : Room) s m #[(.int p1)] below meth c s₁ [] 0 0 := Stand.of_body Bd
  have e0 : s₁.heap = h0 := by rw [← hh, Bd.state]; rfl
  have N0 := Fr.nil n0
  have pre0 : oL p e below s₁ (mkF m 0 #[oI p1] []) s₁ (entryFrame m #[(.int p1)] 1) := fun t k => castTop (by first | (simp [entryFrame, mkF, argsToLocals, Value.category]; done) | rfl) k
  have pre1 : oL p e below s₁ (mkF m 1 #[oI p1] [oi p1]) s₁ (entryFrame m #[(.int p1)] 1) := fun t k => pre0 t (by
    refine XS.iloadN X0.here hx rfl (hb hby d1_0) rfl ?_
    exact k)
  by_cases hc2 : p1 = (0 : Int32)
  ·
    have pre3 : oL p e below s₁ (mkF m 10 #[oI p1] []) s₁ (entryFrame m #[(.int p1)] 1) := fun t k => pre1 t (by
      refine XS.ifYes X0.here hx rfl (pc0 := 1) (pc' := 10) rfl (hb hby d1_1) rfl ((if0 _ _).trans (teq hc2).1) (by decide) (by decide) ?_
      exact k)
    obtain ⟨T4, X4, e4, st4⟩ := getS2 X0 hx hZ hown (host := "") (Or.inl (oW hw 4 rfl)) Via.refl e0 (s_FALSE.ext OL.2) (g := (mkF m 10 #[oI p1] [])) rfl (hb hby d1_10)
    have pre5 : oL p e below T4 (mkF m 13 #[oI p1] [ow w_FALSE]) s₁ (entryFrame m #[(.int p1)] 1) := fun t k => pre3 t (by
      refine st4 _ ?_
      exact k)
    obtain ⟨fs, hr, hrun, hended, hW, hsame⟩ := X4.leave (v := some (.ref w_FALSE)) (fun h => by rw [Bd.returns] at h; cases h)
    refine ⟨_, _, pre5 _ ?_, hrun, hended, _, _, rfl, ?_, ⟨_, rfl⟩, hW, hsame.mono (by decide) (by decide)⟩
    ·
      show oS p e below T4 (mkF m 13 #[oI p1] [ow w_FALSE]) _
      jvm_step X4.here [X4.here.top, hx, (hb hby d1_13), X4.method', Bd.returns, Value.isRef, FieldType.isReference]
      first | (intro acts; rw [hr _ acts rfl rfl rfl]) | rw [hr _ _ rfl rfl rfl]
      exact Steps.refl _
    ·
      show Q_rm_of Z p1 w_TRUE w_FALSE r h0 n0 _ T4.heap _
      rw [e4]
      exact ⟨by rw [hr', if_pos hc2], N0, rfl⟩
  ·
    have pre6 : oL p e below s₁ (mkF m 4 #[oI p1] []) s₁ (entryFrame m #[(.int p1)] 1) := fun t k => pre1 t (by
      refine XS.ifNo X0.here hx rfl (hb hby d1_1) rfl ((if0 _ _).trans (feq hc2).1) ?_
      exact k)
    obtain ⟨T7, X7, e7, st7⟩ := getS2 X0 hx hZ hown (host := "") (Or.inl (oW hw 6 rfl)) Via.refl e0 (s_TRUE.ext OL.2) (g := (mkF m 4 #[oI p1] [])) rfl (hb hby d1_4)
    have pre8 : oL p e below T7 (mkF m 13 #[oI p1] [ow w_TRUE]) s₁ (entryFrame m #[(.int p1)] 1) := fun t k => pre6 t (by
      refine st7 _ ?_
      refine XS.goto X7.here hx rfl (pc0 := 7) (pc' := 13) rfl (hb hby d1_7) (by decide) (by decide) ?_
      show oS p e below T7 (mkF m 13 #[oI p1] [ow w_TRUE]) _
      exact k)
    obtain ⟨fs, hr, hrun, hended, hW, hsame⟩ := X7.leave (v := some (.ref w_TRUE)) (fun h => by rw [Bd.returns] at h; cases h)
    refine ⟨_, _, pre8 _ ?_, hrun, hended, _, _, rfl, ?_, ⟨_, rfl⟩, hW, hsame.mono (by decide) (by decide)⟩
    ·
      show oS p e below T7 (mkF m 13 #[oI p1] [ow w_TRUE]) _
      jvm_step X7.here [X7.here.top, hx, (hb hby d1_13), X7.method', Bd.returns, Value.isRef, FieldType.isReference]
      first | (intro acts; rw [hr _ acts rfl rfl rfl]) | rw [hr _ _ rfl rfl rfl]
      exact Steps.refl _
    ·
      show Q_rm_of Z p1 w_TRUE w_FALSE r h0 n0 _ T7.heap _
      rw [e7]
      exact ⟨by rw [hr', if_neg hc2], N0, rfl⟩
theorem pn_java_lang_Enum : plainName "java/lang/Enum" = true := by first | (simp [plainName, overriddenIn]; done) | decide +kernel
theorem d3_0 : decode jdk_37_method_2_code 0 = .ok (.aload_n 0, 1) := by decide +kernel
theorem d3_1 : decode jdk_37_method_2_code 1 = .ok (.getfield 7, 3) := by decide +kernel
theorem d3_4 : decode jdk_37_method_2_code 4 = .ok (.ireturn, 1) := by decide +kernel
def Q_rm_ord (Z : State) (a1 : Addr) (o1 : Int32) (h0 : Heap) (n0 : Nat) (v : Option Value) (h : Heap) (L : List Loc) : Prop := v = some (.int o1) ∧ Fr n0 L ∧ h = h0
set_option maxRecDepth 65536 in
set_option maxHeartbeats 40000000 in
theorem rm_ord (l : Launch) (Z : State) (a0 : Array Value) (hw : ∀ d ∈ tables_1, d.before a0 Z = true) (ws : List Jvm.Cond) (a1 : Addr) (o1 : Int32) (h0 : Heap) (n0 : Nat) (OL : Old Z n0 h0) (f1 : Fld Z Z.heap a1 "java/lang/Enum" "ordinal" "I" (.int o1)) :
    MetFree l (⟨"java/lang/Enum", "ordinal", "()I"⟩ : MethodName) (head1 (Jvm.Cond.code (⟨"java/lang/Enum", "ordinal", "()I"⟩ : MethodName) jdk_37_method_2_code 1 (some .int) :: ws) ({ frames := 0, cells := 0, slots := 0, locals := 0 } : Room)) (fun a U => a = #[(.ref a1)] ∧ Z.Warmed39 U.vm ∧ U.heap = h0) (fun _ _ _ _ _ => True) (fun _ U o U' => ∃ v L, o = .returned v ∧ Q_rm_ord Z a1 o1 h0 n0 v U'.heap L ∧ FrameEnd U o U' L ({ frames := 0, cells := 0, slots := 0, locals := 0 } : Room).cells ({ frames := 0, cells := 0, slots := 0, locals := 0 } : Room).slots) := by
  refine MetFree.of_bodySF (plainFor_of_name pn_java_lang_Enum) hisR ?_
  intro p e s m args below meth c s₁ Bd hml0 hP hK
  obtain ⟨rfl, hZ, hh⟩ := hP
  have hx := Bd.exec
  have hby := Bd.bytes
  have hml : c.maxLocals = 1 := hml0
  have hown : s.vm.findClass "java/lang/Enum" = some m.cls := findClass_of_methodNamed Bd.named
  have hnm := (name_of_methodNamed Bd.named Bd.method).1
  have X0 : Stand p l e ({ frames := 0, cells := 0, slots := 0, locals := 0 } : Room) s m #[(.ref a1)] below meth c s₁ [] 0 0 := Stand.of_body Bd
  have e0 : s₁.heap = h0 := by rw [← hh, Bd.state]; rfl
  have N0 := Fr.nil n0
  have pre0 : oL p e below s₁ (mkF m 0 #[oR a1] []) s₁ (entryFrame m #[(.ref a1)] 1) := fun t k => castTop (by first | (simp [entryFrame, mkF, argsToLocals, Value.category]; done) | rfl) k
  have pre1 : oL p e below s₁ (mkF m 1 #[oR a1] [ow a1]) s₁ (entryFrame m #[(.ref a1)] 1) := fun t k => pre0 t (by
    refine XS.aloadN X0.here hx rfl (hb hby d3_0) rfl rfl ?_
    exact k)
  obtain ⟨T2, X2, e2, st2⟩ := getF X0 hx hZ hown (host := "") (Or.inl (oW hw 21 rfl)) Via.refl e0 (f1.ext OL.2) (g := (mkF m 1 #[oR a1] [ow a1])) rfl rfl (hb hby d3_1)
  have pre3 : oL p e below T2 (mkF m 4 #[oR a1] [oi o1]) s₁ (entryFrame m #[(.ref a1)] 1) := fun t k => pre1 t (by
    refine st2 _ ?_
    exact k)
  obtain ⟨fs, hr, hrun, hended, hW, hsame⟩ := X2.leave (v := some (.int o1)) (fun h => by rw [Bd.returns] at h; cases h)
  refine ⟨_, _, pre3 _ ?_, hrun, hended, _, _, rfl, ?_, ⟨_, rfl⟩, hW, hsame.mono (by decide) (by decide)⟩
  ·
    show oS p e below T2 (mkF m 4 #[oR a1] [oi o1]) _
    exact retI X2 hx Bd.returns (hb hby d3_4) hr
  ·
    show Q_rm_ord Z a1 o1 h0 n0 _ T2.heap _
    rw [e2]
    exact ⟨rfl, N0, rfl⟩
theorem d2_0 : decode prog_107_method_5_code 0 = .ok (.aload_n 0, 1) := by decide +kernel
theorem d2_1 : decode prog_107_method_5_code 1 = .ok (.invokevirtual 32, 3) := by decide +kernel
theorem pd___I : parseMethodDescriptor "()I" = some ⟨[], some .int⟩ := by decide +kernel
theorem d2_4 : decode prog_107_method_5_code 4 = .ok (.lookupswitch 36 #[(0, 28), (1, 32)], 28) := by decide +kernel
theorem d2_32 : decode prog_107_method_5_code 32 = .ok (.getstatic 7, 3) := by decide +kernel
theorem d2_35 : decode prog_107_method_5_code 35 = .ok (.areturn, 1) := by decide +kernel
theorem d2_36 : decode prog_107_method_5_code 36 = .ok (.getstatic 3, 3) := by decide +kernel
theorem d2_39 : decode prog_107_method_5_code 39 = .ok (.areturn, 1) := by decide +kernel
def Q_rm_not (Z : State) (a1 : Addr) (o1 : Int32) (w_TRUE : Addr) (w_FALSE : Addr) (r : Addr) (h0 : Heap) (n0 : Nat) (v : Option Value) (h : Heap) (L : List Loc) : Prop := v = some (.ref r) ∧ Fr n0 L ∧ h = h0
set_option maxRecDepth 65536 in
set_option maxHeartbeats 40000000 in
theorem rm_not (l : Launch) (Z : State) (a0 : Array Value) (hw : ∀ d ∈ tables_1, d.before a0 Z = true) (ws : List Jvm.Cond) (a1 : Addr) (o1 : Int32) (w_TRUE : Addr) (w_FALSE : Addr) (r : Addr) (h0 : Heap) (n0 : Nat) (OL : Old Z n0 h0) (s_TRUE : Sta Z Z.heap "com/example/careroster/careroster/directory/Truth" "TRUE" "Lcom/example/careroster/careroster/directory/Truth;" (.ref w_TRUE)) (s_FALSE : Sta Z Z.heap "com/example/careroster/careroster/directory/Truth" "FALSE" "Lcom/example/careroster/careroster/directory/Truth;" (.ref w_FALSE)) (e1 : Exa Z Z.heap a1 "com/example/careroster/careroster/directory/Truth") (f1 : Fld Z Z.heap a1 "java/lang/Enum" "ordinal" "I" (.int o1)) (ho1 : o1 = 0 ∨ o1 = 1) (hr' : r = if o1 = 0 then w_FALSE else w_TRUE) :
    MetFree l (⟨"com/example/careroster/careroster/directory/Truth", "not", "()Lcom/example/careroster/careroster/directory/Truth;"⟩ : MethodName) (head1 (Jvm.Cond.code (⟨"com/example/careroster/careroster/directory/Truth", "not", "()Lcom/example/careroster/careroster/directory/Truth;"⟩ : MethodName) prog_107_method_5_code 1 (some (.object "com/example/careroster/careroster/directory/Truth")) :: ws) ({ frames := 1, cells := 0, slots := 0, locals := 12 } : Room)) (fun a U => a = #[(.ref a1)] ∧ Z.Warmed39 U.vm ∧ U.heap = h0) (fun _ _ _ _ _ => True) (fun _ U o U' => ∃ v L, o = .returned v ∧ Q_rm_not Z a1 o1 w_TRUE w_FALSE r h0 n0 v U'.heap L ∧ FrameEnd U o U' L ({ frames := 1, cells := 0, slots := 0, locals := 12 } : Room).cells ({ frames := 1, cells := 0, slots := 0, locals := 12 } : Room).slots) := by
  refine MetFree.of_bodySF (plainFor_of_name pn_com_example_careroster_careroster_directory_Truth) hisR ?_
  intro p e s m args below meth c s₁ Bd hml0 hP hK
  obtain ⟨rfl, hZ, hh⟩ := hP
  have hx := Bd.exec
  have hby := Bd.bytes
  have hml : c.maxLocals = 1 := hml0
  have hown : s.vm.findClass "com/example/careroster/careroster/directory/Truth" = some m.cls := findClass_of_methodNamed Bd.named
  have hnm := (name_of_methodNamed Bd.named Bd.method).1
  have X0 : Stand p l e ({ frames := 1, cells := 0, slots := 0, locals := 12 } : Room) s m #[(.ref a1)] below meth c s₁ [] 0 0 := Stand.of_body Bd
  have e0 : s₁.heap = h0 := by rw [← hh, Bd.state]; rfl
  have N0 := Fr.nil n0
  have pre0 : oL p e below s₁ (mkF m 0 #[oR a1] []) s₁ (entryFrame m #[(.ref a1)] 1) := fun t k => castTop (by first | (simp [entryFrame, mkF, argsToLocals, Value.category]; done) | rfl) k
  have pre1 : oL p e below s₁ (mkF m 1 #[oR a1] [ow a1]) s₁ (entryFrame m #[(.ref a1)] 1) := fun t k => pre0 t (by
    refine XS.aloadN X0.here hx rfl (hb hby d2_0) rfl rfl ?_
    exact k)
  obtain ⟨cq2, kq2, q2a, q2b, q2c⟩ := isOf hZ e0 (e1.ext OL.2)
  obtain ⟨_, _, ⟨T2, L2, k2, n2⟩, -, X2, ⟨Lc2, hQ2, l2, y2, z2⟩, st2⟩ := X0.virtualBackUp hx (x := (⟨"com/example/careroster/careroster/directory/Truth", "ordinal", "()I"⟩ : MethodName)) (y := (⟨"java/lang/Enum", "ordinal", "()I"⟩ : MethodName)) (owner := "java/lang/Enum") hown (mvT hZ (oW hw 14 rfl)) (mvT hZ (oW hw 15 rfl)) (mvT hZ (oW hw 16 rfl)) (by decide) (mvT hZ (oW hw 18 rfl)) (mvT hZ (oW hw 17 rfl)) (backOf (W := 0) (rm_ord l Z a0 hw [] a1 o1 h0 n0 OL f1) hZ (oW hw 20 rfl) (oW hw 19 rfl) (by decide) (by decide)) q2a q2c (g := (mkF m 1 #[oR a1] [ow a1])) rfl (by rw [hml]; rfl) (Steps.refl _) (argsL := []) (rest := []) (lenOf pd___I rfl) rfl (by show 2 * 0 + _ ≤ _; exact Nat.le_of_eq rfl) (hb hby d2_1) (fun _ _ => ⟨rfl, e0, (by decide : 0 + 0 ≤ _), (by decide : 0 + 0 ≤ _)⟩)
  dsimp only [Pt.U, Pt.locs, Pt.cells, Pt.slots] at X2 l2 y2 z2 st2 hQ2
  subst l2 y2 z2
  obtain ⟨rfl, N2q, e2⟩ := hQ2
  have N2 := Fr.app N0 N2q
  have pre3 : oL p e below T2 (mkF m 4 #[oR a1] [oi o1]) s₁ (entryFrame m #[(.ref a1)] 1) := fun t k => pre1 t (by
    refine st2.trans ?_
    exact k)
  rcases ho1 with hl4 | hl4
  ·
    rw [hl4] at pre3
    have pre5 : oL p e below T2 (mkF m 32 #[oR a1] []) s₁ (entryFrame m #[(.ref a1)] 1) := fun t k => pre3 t (by
      refine own_lsw X2.here hx rfl (pc0 := 4) (pc' := 32) (o := 28) rfl (hb hby d2_4) rfl (by decide) (by decide) (by decide) (by decide) ?_
      exact k)
    obtain ⟨T6, X6, e6, st6⟩ := getS2 X2 hx hZ hown (host := "") (Or.inl (oW hw 4 rfl)) Via.refl e2 (s_FALSE.ext OL.2) (g := (mkF m 32 #[oR a1] [])) rfl (hb hby d2_32)
    have pre7 : oL p e below T6 (mkF m 35 #[oR a1] [ow w_FALSE]) s₁ (entryFrame m #[(.ref a1)] 1) := fun t k => pre5 t (by
      refine st6 _ ?_
      show oS p e below T6 (mkF m 35 #[oR a1] [ow w_FALSE]) _
      exact k)
    obtain ⟨fs, hr, hrun, hended, hW, hsame⟩ := X6.leave (v := some (.ref w_FALSE)) (fun h => by rw [Bd.returns] at h; cases h)
    refine ⟨_, _, pre7 _ ?_, hrun, hended, _, _, rfl, ?_, ⟨_, rfl⟩, hW, hsame.mono (by decide) (by decide)⟩
    ·
      show oS p e below T6 (mkF m 35 #[oR a1] [ow w_FALSE]) _
      jvm_step X6.here [X6.here.top, hx, (hb hby d2_35), X6.method', Bd.returns, Value.isRef, FieldType.isReference]
      first | (intro acts; rw [hr _ acts rfl rfl rfl]) | rw [hr _ _ rfl rfl rfl]
      exact Steps.refl _
    ·
      show Q_rm_not Z a1 o1 w_TRUE w_FALSE r h0 n0 _ T6.heap _
      rw [e6]
      exact ⟨by rw [hr', if_pos hl4], N2, rfl⟩
  ·
    rw [hl4] at pre3
    have pre8 : oL p e below T2 (mkF m 36 #[oR a1] []) s₁ (entryFrame m #[(.ref a1)] 1) := fun t k => pre3 t (by
      refine own_lsw X2.here hx rfl (pc0 := 4) (pc' := 36) (o := 32) rfl (hb hby d2_4) rfl (by decide) (by decide) (by decide) (by decide) ?_
      exact k)
    obtain ⟨T9, X9, e9, st9⟩ := getS2 X2 hx hZ hown (host := "") (Or.inl (oW hw 6 rfl)) Via.refl e2 (s_TRUE.ext OL.2) (g := (mkF m 36 #[oR a1] [])) rfl (hb hby d2_36)
    have pre10 : oL p e below T9 (mkF m 39 #[oR a1] [ow w_TRUE]) s₁ (entryFrame m #[(.ref a1)] 1) := fun t k => pre8 t (by
      refine st9 _ ?_
      show oS p e below T9 (mkF m 39 #[oR a1] [ow w_TRUE]) _
      exact k)
    obtain ⟨fs, hr, hrun, hended, hW, hsame⟩ := X9.leave (v := some (.ref w_TRUE)) (fun h => by rw [Bd.returns] at h; cases h)
    refine ⟨_, _, pre10 _ ?_, hrun, hended, _, _, rfl, ?_, ⟨_, rfl⟩, hW, hsame.mono (by decide) (by decide)⟩
    ·
      show oS p e below T9 (mkF m 39 #[oR a1] [ow w_TRUE]) _
      jvm_step X9.here [X9.here.top, hx, (hb hby d2_39), X9.method', Bd.returns, Value.isRef, FieldType.isReference]
      first | (intro acts; rw [hr _ acts rfl rfl rfl]) | rw [hr _ _ rfl rfl rfl]
      exact Steps.refl _
    ·
      show Q_rm_not Z a1 o1 w_TRUE w_FALSE r h0 n0 _ T9.heap _
      rw [e9]
      exact ⟨by rw [hr', if_neg (by rw [hl4]; decide)], N2, rfl⟩
theorem pn_com_example_careroster_careroster_directory_TruthOfPinLaw : plainName "com/example/careroster/careroster/directory/TruthOfPinLaw" = true := by first | (simp [plainName, overriddenIn]; done) | decide +kernel
theorem pd__Z_Lcom_example_careroster_careroster_directory_Truth_ : parseMethodDescriptor "(Z)Lcom/example/careroster/careroster/directory/Truth;" = some ⟨[.boolean], some (.object "com/example/careroster/careroster/directory/Truth")⟩ := by decide +kernel
theorem pd___Lcom_example_careroster_careroster_directory_Truth_ : parseMethodDescriptor "()Lcom/example/careroster/careroster/directory/Truth;" = some ⟨[], some (.object "com/example/careroster/careroster/directory/Truth")⟩ := by decide +kernel
def Q_rm0 (Z : State) (p1 : Int32) (w_TRUE : Addr) (w_FALSE : Addr) (h0 : Heap) (n0 : Nat) (v : Option Value) (h : Heap) (L : List Loc) : Prop := v = some (.int (1 : Int32)) ∧ Fr n0 L
set_option maxRecDepth 65536 in
set_option maxHeartbeats 40000000 in
theorem rm0 (l : Launch) (Z : State) (a0 : Array Value) (hw : ∀ d ∈ tables_1, d.before a0 Z = true) (ws : List Jvm.Cond) (p1 : Int32) (w_TRUE : Addr) (w_FALSE : Addr) (h0 : Heap) (n0 : Nat) (OL : Old Z n0 h0) (s_TRUE : Sta Z Z.heap "com/example/careroster/careroster/directory/Truth" "TRUE" "Lcom/example/careroster/careroster/directory/Truth;" (.ref w_TRUE)) (s_FALSE : Sta Z Z.heap "com/example/careroster/careroster/directory/Truth" "FALSE" "Lcom/example/careroster/careroster/directory/Truth;" (.ref w_FALSE)) (e_TRUE : Exa Z Z.heap w_TRUE "com/example/careroster/careroster/directory/Truth") (e_FALSE : Exa Z Z.heap w_FALSE "com/example/careroster/careroster/directory/Truth") (f_TRUE : Fld Z Z.heap w_TRUE "java/lang/Enum" "ordinal" "I" (.int 0)) (f_FALSE : Fld Z Z.heap w_FALSE "java/lang/Enum" "ordinal" "I" (.int 1)) (hne : ¬ (w_TRUE = w_FALSE)) :
    MetFree l x (head1 (Jvm.Cond.code x code maxLocals ret :: ws) room_1) (fun a U => a = #[(.int p1)] ∧ Z.Warmed39 U.vm ∧ U.heap = h0) (fun _ _ _ _ _ => True) (fun _ U o U' => ∃ v L, o = .returned v ∧ Q_rm0 Z p1 w_TRUE w_FALSE h0 n0 v U'.heap L ∧ FrameEnd U o U' L room_1.cells room_1.slots) := by
  refine MetFree.of_bodySF (plainFor_of_name pn_com_example_careroster_careroster_directory_TruthOfPinLaw) hisR ?_
  intro p e s m args below meth c s₁ Bd hml0 hP hK
  obtain ⟨rfl, hZ, hh⟩ := hP
  have hx := Bd.exec
  have hby := Bd.bytes
  have hml : c.maxLocals = 6 := hml0
  have hown : s.vm.findClass "com/example/careroster/careroster/directory/TruthOfPinLaw" = some m.cls := findClass_of_methodNamed Bd.named
  have hnm := (name_of_methodNamed Bd.named Bd.method).1
  have X0 : Stand p l e room_1 s m #[(.int p1)] below meth c s₁ [] 0 0 := Stand.of_body Bd
  have e0 : s₁.heap = h0 := by rw [← hh, Bd.state]; rfl
  have N0 := Fr.nil n0
  have pre0 : oL p e below s₁ (mkF m 0 #[oI p1, oU, oU, oU, oU, oU] []) s₁ (entryFrame m #[(.int p1)] maxLocals) := fun t k => castTop (by first | (simp [entryFrame, mkF, argsToLocals, Value.category, maxLocals]; done) | rfl) k
  have pre1 : oL p e below s₁ (mkF m 3 #[oI p1, oU, oU, oU, oU, oU] [oi (p1 &&& (1 : Int32))]) s₁ (entryFrame m #[(.int p1)] maxLocals) := fun t k => pre0 t (by
    refine XS.iloadN X0.here hx rfl (hb hby at_0) rfl ?_
    refine XS.iconst X0.here hx rfl (hb hby at_1) ?_
    refine XS.iand X0.here hx rfl (hb hby at_2) rfl ?_
    exact k)
  by_cases hc2 : (p1 &&& (1 : Int32)) = (0 : Int32)
  ·
    have pre3 : oL p e below s₁ (mkF m 13 #[oI p1, oI 0, oU, oU, oU, oU] [oi 0]) s₁ (entryFrame m #[(.int p1)] maxLocals) := fun t k => pre1 t (by
      refine XS.ifYes X0.here hx rfl (pc0 := 3) (pc' := 10) rfl (hb hby at_3) rfl ((if0 _ _).trans (teq hc2).1) (by decide) (by decide) ?_
      show oS p e below s₁ (mkF m 10 #[oI p1, oU, oU, oU, oU, oU] []) _
      refine XS.iconst X0.here hx rfl (hb hby at_10) ?_
      refine XS.istoreN X0.here hx rfl (hb hby at_11) rfl (l' := #[oI p1, oI 0, oU, oU, oU, oU]) rfl ?_
      refine XS.iloadN X0.here hx rfl (hb hby at_12) rfl ?_
      exact k)
    obtain ⟨_, _, ⟨T4, L4, k4, n4⟩, -, X4, ⟨Lc4, hQ4, l4, y4, z4⟩, st4⟩ := Jvm.LawKit.callS X0 hx (y := (⟨"com/example/careroster/careroster/directory/Truth", "of", "(Z)Lcom/example/careroster/careroster/directory/Truth;"⟩ : MethodName)) hown (mvT hZ (oW hw 0 rfl)) (mvT hZ (oW hw 1 rfl)) (mvT hZ (oW hw 2 rfl)) (mvT hZ (oW hw 3 rfl)) (by decide) (backOf (W := 0) (rm_of l Z a0 hw [] (0 : Int32) w_TRUE w_FALSE w_FALSE h0 n0 OL s_TRUE s_FALSE (by simp)) hZ (oW hw 3 rfl) (oW hw 2 rfl) (by decide) (by decide)) (g := (mkF m 13 #[oI p1, oI 0, oU, oU, oU, oU] [oi 0])) rfl (by rw [hml]; rfl) (argsL := [(.int (0 : Int32))]) (rest := []) (lenOf pd__Z_Lcom_example_careroster_careroster_directory_Truth_ rfl) rfl (by show 2 * 0 + _ ≤ _; exact Nat.le_of_eq rfl) (hb hby at_13) (fun _ _ => ⟨rfl, e0, (by decide : 0 + 0 ≤ _), (by decide : 0 + 0 ≤ _)⟩)
    dsimp only [Pt.U, Pt.locs, Pt.cells, Pt.slots] at X4 l4 y4 z4 st4 hQ4
    subst l4 y4 z4
    obtain ⟨rfl, N4q, e4⟩ := hQ4
    have N4 := Fr.app N0 N4q
    have pre5 : oL p e below T4 (mkF m 26 #[oI p1, oI 0, oR w_FALSE, oU, oU, oU] [oi 1]) s₁ (entryFrame m #[(.int p1)] maxLocals) := fun t k => pre3 t (by
      refine st4 _ ?_
      show oS p e below T4 (mkF m 16 #[oI p1, oI 0, oU, oU, oU, oU] [ow w_FALSE]) _
      refine XS.astoreN X4.here hx rfl (hb hby at_16) rfl rfl (l' := #[oI p1, oI 0, oR w_FALSE, oU, oU, oU]) rfl ?_
      refine XS.iloadN X4.here hx rfl (hb hby at_17) rfl ?_
      refine XS.ifNo X4.here hx rfl (hb hby at_18) rfl ((if0 _ _).trans (teq (by decide : (0 : Int32) = (0 : Int32))).2) ?_
      refine XS.iconst X4.here hx rfl (hb hby at_21) ?_
      show oS p e below T4 (mkF m 22 #[oI p1, oI 0, oR w_FALSE, oU, oU, oU] [oi 1]) _
      refine XS.goto X4.here hx rfl (pc0 := 22) (pc' := 26) rfl (hb hby at_22) (by decide) (by decide) ?_
      exact k)
    obtain ⟨_, _, ⟨T6, L6, k6, n6⟩, -, X6, ⟨Lc6, hQ6, l6, y6, z6⟩, st6⟩ := Jvm.LawKit.callS X4 hx (y := (⟨"com/example/careroster/careroster/directory/Truth", "of", "(Z)Lcom/example/careroster/careroster/directory/Truth;"⟩ : MethodName)) hown (mvT hZ (oW hw 0 rfl)) (mvT hZ (oW hw 1 rfl)) (mvT hZ (oW hw 2 rfl)) (mvT hZ (oW hw 3 rfl)) (by decide) (backOf (W := 0) (rm_of l Z a0 hw [] (1 : Int32) w_TRUE w_FALSE w_TRUE h0 n0 OL s_TRUE s_FALSE (by simp)) hZ (oW hw 3 rfl) (oW hw 2 rfl) (by decide) (by decide)) (g := (mkF m 26 #[oI p1, oI 0, oR w_FALSE, oU, oU, oU] [oi 1])) rfl (by rw [hml]; rfl) (argsL := [(.int (1 : Int32))]) (rest := []) (lenOf pd__Z_Lcom_example_careroster_careroster_directory_Truth_ rfl) rfl (by show 2 * 0 + _ ≤ _; exact Nat.le_of_eq rfl) (hb hby at_26) (fun _ _ => ⟨rfl, e4, (by decide : 0 + 0 ≤ _), (by decide : 0 + 0 ≤ _)⟩)
    dsimp only [Pt.U, Pt.locs, Pt.cells, Pt.slots] at X6 l6 y6 z6 st6 hQ6
    subst l6 y6 z6
    obtain ⟨rfl, N6q, e6⟩ := hQ6
    have N6 := Fr.app N4 N6q
    have pre7 : oL p e below T6 (mkF m 41 #[oI p1, oI 0, oR w_FALSE, oR w_TRUE, oU, oU] [ow w_FALSE]) s₁ (entryFrame m #[(.int p1)] maxLocals) := fun t k => pre5 t (by
      refine st6 _ ?_
      refine XS.astoreN X6.here hx rfl (hb hby at_29) rfl rfl (l' := #[oI p1, oI 0, oR w_FALSE, oR w_TRUE, oU, oU]) rfl ?_
      refine XS.aloadN X6.here hx rfl (hb hby at_30) rfl rfl ?_
      show oS p e below T6 (mkF m 31 #[oI p1, oI 0, oR w_FALSE, oR w_TRUE, oU, oU] [ow w_FALSE]) _
      refine XS.ifnullNo X6.here hx rfl (hb hby at_31) rfl ?_
      refine XS.aloadN X6.here hx rfl (hb hby at_34) rfl rfl ?_
      refine XS.ifnonnullYes X6.here hx rfl (pc0 := 35) (pc' := 40) rfl (hb hby at_35) rfl (by decide) (by decide) ?_
      refine XS.aloadN X6.here hx rfl (hb hby at_40) rfl rfl ?_
      show oS p e below T6 (mkF m 41 #[oI p1, oI 0, oR w_FALSE, oR w_TRUE, oU, oU] [ow w_FALSE]) _
      exact k)
    obtain ⟨T8, X8, e8, st8⟩ := getS2 X6 hx hZ hown (host := "") (Or.inl (oW hw 8 rfl)) Via.refl e6 (s_TRUE.ext OL.2) (g := (mkF m 41 #[oI p1, oI 0, oR w_FALSE, oR w_TRUE, oU, oU] [ow w_FALSE])) rfl (hb hby at_41)
    have pre9 : oL p e below T8 (mkF m 65 #[oI p1, oI 0, oR w_FALSE, oR w_TRUE, oI 1, oU] [ow w_FALSE, ow w_TRUE]) s₁ (entryFrame m #[(.int p1)] maxLocals) := fun t k => pre7 t (by
      refine st8 _ ?_
      refine Jvm.RoadKit.acmp (g := (mkF m 44 #[oI p1, oI 0, oR w_FALSE, oR w_TRUE, oU, oU] [ow w_TRUE, ow w_FALSE])) X8 hx rfl rfl rfl (pc0 := 44) (pc' := 51) (same := false) rfl (hb hby at_44) rfl (decide_eq_false fun q => (fun q => hne q.symm) (Value.ref.inj q)) (by decide) (by decide) ?_
      refine XS.iconst X8.here hx rfl (hb hby at_51) ?_
      refine XS.iloadN X8.here hx rfl (hb hby at_52) rfl ?_
      show oS p e below T8 (mkF m 53 #[oI p1, oI 0, oR w_FALSE, oR w_TRUE, oU, oU] [oi 0, oi 0]) _
      refine XS.icmpNo X8.here hx rfl (hb hby at_53) rfl (teq (by decide : (0 : Int32) = (0 : Int32))).2 ?_
      refine XS.iconst X8.here hx rfl (hb hby at_56) ?_
      refine XS.goto X8.here hx rfl (pc0 := 57) (pc' := 61) rfl (hb hby at_57) (by decide) (by decide) ?_
      refine XS.istore X8.here hx rfl (hb hby at_61) rfl (l' := #[oI p1, oI 0, oR w_FALSE, oR w_TRUE, oI 1, oU]) rfl ?_
      show oS p e below T8 (mkF m 63 #[oI p1, oI 0, oR w_FALSE, oR w_TRUE, oI 1, oU] []) _
      refine XS.aloadN X8.here hx rfl (hb hby at_63) rfl rfl ?_
      refine XS.aloadN X8.here hx rfl (hb hby at_64) rfl rfl ?_
      exact k)
    obtain ⟨cq10, kq10, q10a, q10b, q10c⟩ := isOf hZ e8 (e_FALSE.ext OL.2)
    obtain ⟨_, _, ⟨T10, L10, k10, n10⟩, -, X10, ⟨Lc10, hQ10, l10, y10, z10⟩, st10⟩ := X8.virtualBack hx (y := (⟨"com/example/careroster/careroster/directory/Truth", "not", "()Lcom/example/careroster/careroster/directory/Truth;"⟩ : MethodName)) (z := (⟨"com/example/careroster/careroster/directory/Truth", "not", "()Lcom/example/careroster/careroster/directory/Truth;"⟩ : MethodName)) hown (mvT hZ (oW hw 9 rfl)) (mvT hZ (oW hw 10 rfl)) (notFace_of_selects (args := #[]) (mvT hZ (oW hw 12 rfl))) (mvT hZ (oW hw 12 rfl)) (mvT hZ (oW hw 11 rfl)) (by decide) (backOf (W := 1) (rm_not l Z a0 hw [] w_FALSE 1 w_TRUE w_FALSE w_TRUE h0 n0 OL s_TRUE s_FALSE e_FALSE f_FALSE (by simp) (by simp)) hZ (oW hw 13 rfl) (oW hw 2 rfl) (by decide) (by decide)) q10a q10c (g := (mkF m 65 #[oI p1, oI 0, oR w_FALSE, oR w_TRUE, oI 1, oU] [ow w_FALSE, ow w_TRUE])) rfl (by rw [hml]; rfl) (Steps.refl _) (argsL := []) (rest := [(.ref w_TRUE)]) (lenOf pd___Lcom_example_careroster_careroster_directory_Truth_ rfl) rfl (by show 2 * 0 + _ ≤ _; exact Nat.le_of_eq rfl) (hb hby at_65) (fun _ _ => ⟨rfl, e8, (by decide : 0 + 0 ≤ _), (by decide : 0 + 0 ≤ _)⟩)
    dsimp only [Pt.U, Pt.locs, Pt.cells, Pt.slots] at X10 l10 y10 z10 st10 hQ10
    subst l10 y10 z10
    obtain ⟨rfl, N10q, e10⟩ := hQ10
    have N10 := Fr.app N6 N10q
    have pre11 : oL p e below T10 (mkF m 93 #[oI p1, oI 0, oR w_FALSE, oR w_TRUE, oI 1, oI 1] [oi 1]) s₁ (entryFrame m #[(.int p1)] maxLocals) := fun t k => pre9 t (by
      refine st10.trans ?_
      refine Jvm.RoadKit.acmp (g := (mkF m 68 #[oI p1, oI 0, oR w_FALSE, oR w_TRUE, oI 1, oU] [ow w_TRUE, ow w_TRUE])) X10 hx rfl rfl rfl (pc0 := 68) (pc' := 71) (same := true) rfl (hb hby at_68) rfl (decide_eq_true rfl) (by decide) (by decide) ?_
      show oS p e below T10 (mkF m 71 #[oI p1, oI 0, oR w_FALSE, oR w_TRUE, oI 1, oU] []) _
      refine XS.iconst X10.here hx rfl (hb hby at_71) ?_
      refine XS.goto X10.here hx rfl (pc0 := 72) (pc' := 76) rfl (hb hby at_72) (by decide) (by decide) ?_
      refine XS.istore X10.here hx rfl (hb hby at_76) rfl (l' := #[oI p1, oI 0, oR w_FALSE, oR w_TRUE, oI 1, oI 1]) rfl ?_
      refine XS.iload X10.here hx rfl (hb hby at_78) rfl ?_
      show oS p e below T10 (mkF m 80 #[oI p1, oI 0, oR w_FALSE, oR w_TRUE, oI 1, oI 1] [oi 1]) _
      refine XS.ifNo X10.here hx rfl (hb hby at_80) rfl ((if0 _ _).trans (feq (by decide : ¬ ((1 : Int32) = (0 : Int32)))).1) ?_
      refine XS.iload X10.here hx rfl (hb hby at_83) rfl ?_
      refine XS.ifNo X10.here hx rfl (hb hby at_85) rfl ((if0 _ _).trans (feq (by decide : ¬ ((1 : Int32) = (0 : Int32)))).1) ?_
      refine XS.iconst X10.here hx rfl (hb hby at_88) ?_
      show oS p e below T10 (mkF m 89 #[oI p1, oI 0, oR w_FALSE, oR w_TRUE, oI 1, oI 1] [oi 1]) _
      refine XS.goto X10.here hx rfl (pc0 := 89) (pc' := 93) rfl (hb hby at_89) (by decide) (by decide) ?_
      exact k)
    obtain ⟨fs, hr, hrun, hended, hW, hsame⟩ := X10.leave (v := some (.int (1 : Int32))) (fun h => by rw [Bd.returns] at h; cases h)
    refine ⟨_, _, pre11 _ ?_, hrun, hended, _, _, rfl, ?_, ⟨_, rfl⟩, hW, hsame.mono (by decide) (by decide)⟩
    ·
      show oS p e below T10 (mkF m 93 #[oI p1, oI 0, oR w_FALSE, oR w_TRUE, oI 1, oI 1] [oi 1]) _
      exact retN X10 hx (t := .boolean) Bd.returns (by simp) (hb hby at_93) hr
    ·
      show Q_rm0 Z p1 w_TRUE w_FALSE h0 n0 _ T10.heap _
      rw [e10]
      exact ⟨rfl, N10⟩
  ·
    have pre12 : oL p e below s₁ (mkF m 13 #[oI p1, oI 1, oU, oU, oU, oU] [oi 1]) s₁ (entryFrame m #[(.int p1)] maxLocals) := fun t k => pre1 t (by
      refine XS.ifNo X0.here hx rfl (hb hby at_3) rfl ((if0 _ _).trans (feq hc2).1) ?_
      show oS p e below s₁ (mkF m 6 #[oI p1, oU, oU, oU, oU, oU] []) _
      refine XS.iconst X0.here hx rfl (hb hby at_6) ?_
      refine XS.goto X0.here hx rfl (pc0 := 7) (pc' := 11) rfl (hb hby at_7) (by decide) (by decide) ?_
      refine XS.istoreN X0.here hx rfl (hb hby at_11) rfl (l' := #[oI p1, oI 1, oU, oU, oU, oU]) rfl ?_
      refine XS.iloadN X0.here hx rfl (hb hby at_12) rfl ?_
      show oS p e below s₁ (mkF m 13 #[oI p1, oI 1, oU, oU, oU, oU] [oi 1]) _
      exact k)
    obtain ⟨_, _, ⟨T13, L13, k13, n13⟩, -, X13, ⟨Lc13, hQ13, l13, y13, z13⟩, st13⟩ := Jvm.LawKit.callS X0 hx (y := (⟨"com/example/careroster/careroster/directory/Truth", "of", "(Z)Lcom/example/careroster/careroster/directory/Truth;"⟩ : MethodName)) hown (mvT hZ (oW hw 0 rfl)) (mvT hZ (oW hw 1 rfl)) (mvT hZ (oW hw 2 rfl)) (mvT hZ (oW hw 3 rfl)) (by decide) (backOf (W := 0) (rm_of l Z a0 hw [] (1 : Int32) w_TRUE w_FALSE w_TRUE h0 n0 OL s_TRUE s_FALSE (by simp)) hZ (oW hw 3 rfl) (oW hw 2 rfl) (by decide) (by decide)) (g := (mkF m 13 #[oI p1, oI 1, oU, oU, oU, oU] [oi 1])) rfl (by rw [hml]; rfl) (argsL := [(.int (1 : Int32))]) (rest := []) (lenOf pd__Z_Lcom_example_careroster_careroster_directory_Truth_ rfl) rfl (by show 2 * 0 + _ ≤ _; exact Nat.le_of_eq rfl) (hb hby at_13) (fun _ _ => ⟨rfl, e0, (by decide : 0 + 0 ≤ _), (by decide : 0 + 0 ≤ _)⟩)
    dsimp only [Pt.U, Pt.locs, Pt.cells, Pt.slots] at X13 l13 y13 z13 st13 hQ13
    subst l13 y13 z13
    obtain ⟨rfl, N13q, e13⟩ := hQ13
    have N13 := Fr.app N0 N13q
    have pre14 : oL p e below T13 (mkF m 26 #[oI p1, oI 1, oR w_TRUE, oU, oU, oU] [oi 0]) s₁ (entryFrame m #[(.int p1)] maxLocals) := fun t k => pre12 t (by
      refine st13 _ ?_
      refine XS.astoreN X13.here hx rfl (hb hby at_16) rfl rfl (l' := #[oI p1, oI 1, oR w_TRUE, oU, oU, oU]) rfl ?_
      refine XS.iloadN X13.here hx rfl (hb hby at_17) rfl ?_
      refine XS.ifYes X13.here hx rfl (pc0 := 18) (pc' := 25) rfl (hb hby at_18) rfl ((if0 _ _).trans (feq (by decide : ¬ ((1 : Int32) = (0 : Int32)))).2) (by decide) (by decide) ?_
      show oS p e below T13 (mkF m 25 #[oI p1, oI 1, oR w_TRUE, oU, oU, oU] []) _
      refine XS.iconst X13.here hx rfl (hb hby at_25) ?_
      exact k)
    obtain ⟨_, _, ⟨T15, L15, k15, n15⟩, -, X15, ⟨Lc15, hQ15, l15, y15, z15⟩, st15⟩ := Jvm.LawKit.callS X13 hx (y := (⟨"com/example/careroster/careroster/directory/Truth", "of", "(Z)Lcom/example/careroster/careroster/directory/Truth;"⟩ : MethodName)) hown (mvT hZ (oW hw 0 rfl)) (mvT hZ (oW hw 1 rfl)) (mvT hZ (oW hw 2 rfl)) (mvT hZ (oW hw 3 rfl)) (by decide) (backOf (W := 0) (rm_of l Z a0 hw [] (0 : Int32) w_TRUE w_FALSE w_FALSE h0 n0 OL s_TRUE s_FALSE (by simp)) hZ (oW hw 3 rfl) (oW hw 2 rfl) (by decide) (by decide)) (g := (mkF m 26 #[oI p1, oI 1, oR w_TRUE, oU, oU, oU] [oi 0])) rfl (by rw [hml]; rfl) (argsL := [(.int (0 : Int32))]) (rest := []) (lenOf pd__Z_Lcom_example_careroster_careroster_directory_Truth_ rfl) rfl (by show 2 * 0 + _ ≤ _; exact Nat.le_of_eq rfl) (hb hby at_26) (fun _ _ => ⟨rfl, e13, (by decide : 0 + 0 ≤ _), (by decide : 0 + 0 ≤ _)⟩)
    dsimp only [Pt.U, Pt.locs, Pt.cells, Pt.slots] at X15 l15 y15 z15 st15 hQ15
    subst l15 y15 z15
    obtain ⟨rfl, N15q, e15⟩ := hQ15
    have N15 := Fr.app N13 N15q
    have pre16 : oL p e below T15 (mkF m 41 #[oI p1, oI 1, oR w_TRUE, oR w_FALSE, oU, oU] [ow w_TRUE]) s₁ (entryFrame m #[(.int p1)] maxLocals) := fun t k => pre14 t (by
      refine st15 _ ?_
      refine XS.astoreN X15.here hx rfl (hb hby at_29) rfl rfl (l' := #[oI p1, oI 1, oR w_TRUE, oR w_FALSE, oU, oU]) rfl ?_
      refine XS.aloadN X15.here hx rfl (hb hby at_30) rfl rfl ?_
      show oS p e below T15 (mkF m 31 #[oI p1, oI 1, oR w_TRUE, oR w_FALSE, oU, oU] [ow w_TRUE]) _
      refine XS.ifnullNo X15.here hx rfl (hb hby at_31) rfl ?_
      refine XS.aloadN X15.here hx rfl (hb hby at_34) rfl rfl ?_
      refine XS.ifnonnullYes X15.here hx rfl (pc0 := 35) (pc' := 40) rfl (hb hby at_35) rfl (by decide) (by decide) ?_
      refine XS.aloadN X15.here hx rfl (hb hby at_40) rfl rfl ?_
      show oS p e below T15 (mkF m 41 #[oI p1, oI 1, oR w_TRUE, oR w_FALSE, oU, oU] [ow w_TRUE]) _
      exact k)
    obtain ⟨T17, X17, e17, st17⟩ := getS2 X15 hx hZ hown (host := "") (Or.inl (oW hw 8 rfl)) Via.refl e15 (s_TRUE.ext OL.2) (g := (mkF m 41 #[oI p1, oI 1, oR w_TRUE, oR w_FALSE, oU, oU] [ow w_TRUE])) rfl (hb hby at_41)
    have pre18 : oL p e below T17 (mkF m 65 #[oI p1, oI 1, oR w_TRUE, oR w_FALSE, oI 1, oU] [ow w_TRUE, ow w_FALSE]) s₁ (entryFrame m #[(.int p1)] maxLocals) := fun t k => pre16 t (by
      refine st17 _ ?_
      refine Jvm.RoadKit.acmp (g := (mkF m 44 #[oI p1, oI 1, oR w_TRUE, oR w_FALSE, oU, oU] [ow w_TRUE, ow w_TRUE])) X17 hx rfl rfl rfl (pc0 := 44) (pc' := 47) (same := true) rfl (hb hby at_44) rfl (decide_eq_true rfl) (by decide) (by decide) ?_
      refine XS.iconst X17.here hx rfl (hb hby at_47) ?_
      refine XS.goto X17.here hx rfl (pc0 := 48) (pc' := 52) rfl (hb hby at_48) (by decide) (by decide) ?_
      show oS p e below T17 (mkF m 52 #[oI p1, oI 1, oR w_TRUE, oR w_FALSE, oU, oU] [oi 1]) _
      refine XS.iloadN X17.here hx rfl (hb hby at_52) rfl ?_
      refine XS.icmpNo X17.here hx rfl (hb hby at_53) rfl (teq (by decide : (1 : Int32) = (1 : Int32))).2 ?_
      refine XS.iconst X17.here hx rfl (hb hby at_56) ?_
      refine XS.goto X17.here hx rfl (pc0 := 57) (pc' := 61) rfl (hb hby at_57) (by decide) (by decide) ?_
      show oS p e below T17 (mkF m 61 #[oI p1, oI 1, oR w_TRUE, oR w_FALSE, oU, oU] [oi 1]) _
      refine XS.istore X17.here hx rfl (hb hby at_61) rfl (l' := #[oI p1, oI 1, oR w_TRUE, oR w_FALSE, oI 1, oU]) rfl ?_
      refine XS.aloadN X17.here hx rfl (hb hby at_63) rfl rfl ?_
      refine XS.aloadN X17.here hx rfl (hb hby at_64) rfl rfl ?_
      exact k)
    obtain ⟨cq19, kq19, q19a, q19b, q19c⟩ := isOf hZ e17 (e_TRUE.ext OL.2)
    obtain ⟨_, _, ⟨T19, L19, k19, n19⟩, -, X19, ⟨Lc19, hQ19, l19, y19, z19⟩, st19⟩ := X17.virtualBack hx (y := (⟨"com/example/careroster/careroster/directory/Truth", "not", "()Lcom/example/careroster/careroster/directory/Truth;"⟩ : MethodName)) (z := (⟨"com/example/careroster/careroster/directory/Truth", "not", "()Lcom/example/careroster/careroster/directory/Truth;"⟩ : MethodName)) hown (mvT hZ (oW hw 9 rfl)) (mvT hZ (oW hw 10 rfl)) (notFace_of_selects (args := #[]) (mvT hZ (oW hw 12 rfl))) (mvT hZ (oW hw 12 rfl)) (mvT hZ (oW hw 11 rfl)) (by decide) (backOf (W := 1) (rm_not l Z a0 hw [] w_TRUE 0 w_TRUE w_FALSE w_FALSE h0 n0 OL s_TRUE s_FALSE e_TRUE f_TRUE (by simp) (by simp)) hZ (oW hw 13 rfl) (oW hw 2 rfl) (by decide) (by decide)) q19a q19c (g := (mkF m 65 #[oI p1, oI 1, oR w_TRUE, oR w_FALSE, oI 1, oU] [ow w_TRUE, ow w_FALSE])) rfl (by rw [hml]; rfl) (Steps.refl _) (argsL := []) (rest := [(.ref w_FALSE)]) (lenOf pd___Lcom_example_careroster_careroster_directory_Truth_ rfl) rfl (by show 2 * 0 + _ ≤ _; exact Nat.le_of_eq rfl) (hb hby at_65) (fun _ _ => ⟨rfl, e17, (by decide : 0 + 0 ≤ _), (by decide : 0 + 0 ≤ _)⟩)
    dsimp only [Pt.U, Pt.locs, Pt.cells, Pt.slots] at X19 l19 y19 z19 st19 hQ19
    subst l19 y19 z19
    obtain ⟨rfl, N19q, e19⟩ := hQ19
    have N19 := Fr.app N15 N19q
    have pre20 : oL p e below T19 (mkF m 93 #[oI p1, oI 1, oR w_TRUE, oR w_FALSE, oI 1, oI 1] [oi 1]) s₁ (entryFrame m #[(.int p1)] maxLocals) := fun t k => pre18 t (by
      refine st19.trans ?_
      show oS p e below T19 (mkF m 68 #[oI p1, oI 1, oR w_TRUE, oR w_FALSE, oI 1, oU] [ow w_FALSE, ow w_FALSE]) _
      refine Jvm.RoadKit.acmp (g := (mkF m 68 #[oI p1, oI 1, oR w_TRUE, oR w_FALSE, oI 1, oU] [ow w_FALSE, ow w_FALSE])) X19 hx rfl rfl rfl (pc0 := 68) (pc' := 71) (same := true) rfl (hb hby at_68) rfl (decide_eq_true rfl) (by decide) (by decide) ?_
      refine XS.iconst X19.here hx rfl (hb hby at_71) ?_
      refine XS.goto X19.here hx rfl (pc0 := 72) (pc' := 76) rfl (hb hby at_72) (by decide) (by decide) ?_
      refine XS.istore X19.here hx rfl (hb hby at_76) rfl (l' := #[oI p1, oI 1, oR w_TRUE, oR w_FALSE, oI 1, oI 1]) rfl ?_
      show oS p e below T19 (mkF m 78 #[oI p1, oI 1, oR w_TRUE, oR w_FALSE, oI 1, oI 1] []) _
      refine XS.iload X19.here hx rfl (hb hby at_78) rfl ?_
      refine XS.ifNo X19.here hx rfl (hb hby at_80) rfl ((if0 _ _).trans (feq (by decide : ¬ ((1 : Int32) = (0 : Int32)))).1) ?_
      refine XS.iload X19.here hx rfl (hb hby at_83) rfl ?_
      refine XS.ifNo X19.here hx rfl (hb hby at_85) rfl ((if0 _ _).trans (feq (by decide : ¬ ((1 : Int32) = (0 : Int32)))).1) ?_
      show oS p e below T19 (mkF m 88 #[oI p1, oI 1, oR w_TRUE, oR w_FALSE, oI 1, oI 1] []) _
      refine XS.iconst X19.here hx rfl (hb hby at_88) ?_
      refine XS.goto X19.here hx rfl (pc0 := 89) (pc' := 93) rfl (hb hby at_89) (by decide) (by decide) ?_
      exact k)
    obtain ⟨fs, hr, hrun, hended, hW, hsame⟩ := X19.leave (v := some (.int (1 : Int32))) (fun h => by rw [Bd.returns] at h; cases h)
    refine ⟨_, _, pre20 _ ?_, hrun, hended, _, _, rfl, ?_, ⟨_, rfl⟩, hW, hsame.mono (by decide) (by decide)⟩
    ·
      show oS p e below T19 (mkF m 93 #[oI p1, oI 1, oR w_TRUE, oR w_FALSE, oI 1, oI 1] [oi 1]) _
      exact retN X19 hx (t := .boolean) Bd.returns (by simp) (hb hby at_93) hr
    ·
      show Q_rm0 Z p1 w_TRUE w_FALSE h0 n0 _ T19.heap _
      rw [e19]
      exact ⟨rfl, N19⟩
set_option maxRecDepth 65536 in
set_option maxHeartbeats 40000000 in
theorem comes_1 {Post : Tables → Env → Array Value → State → Outcome → State → Prop} (hpost : ∀ tb e args s v u, (limb_1_1.after args s (.returned v) u = true ∧ limb_1_2.after args s (.returned v) u = true ∧ True) → FrameEnd s (.returned v) u (Jvm.fieldLocs frame_1_writes args s ++ Jvm.arrayLocs frame_1_arrays args s ++ Jvm.staticLocs frame_1_statics s) 0 0 → Post tb e args s (.returned v) u) :
    ArmFor flags0 classFile x code maxLocals ret World_1 tables_1 room_1 Calls_1 rest_1 Pre_1 Post := by
  intro l hfl _ _ p e ha hc hk s m args below hf hA hF happ hP
  obtain ⟨hcalls, hrest, hpre⟩ := hP
  obtain ⟨-, -, -, hnamed, -, -, -, hat⟩ := (Spec.applies_iff hf).mp happ
  obtain ⟨hg, hn⟩ := and_e (Cond.before_iff.mp (show (Jvm.Cond.and given_1 narrow_1).before args s = true from hpre))
  obtain ⟨hgl, hgr⟩ := and_e hg
  obtain ⟨w0, rfl⟩ : ∃ w0 : Value, args = #[w0] := by
    have hs : args.size = 1 := by simpa [Cond.value, given_1] using hgl
    obtain ⟨L⟩ := args
    match L, hs with
    | [w0], _ => exact ⟨w0, rfl⟩
  have hw := fun d (hd : d ∈ tables_1) => atoms_spec (ws := Jvm.Cond.code x code maxLocals ret :: tables_1) hat d (List.mem_cons_of_mem _ hd)
  have hfit : Fit s := fun {y c} hc i hi => by
    obtain ⟨ha, rfl⟩ := Array.getElem?_eq_some_iff.mp hc
    have q := List.all_eq_true.mp ((Array.all_eq_true_iff_forall_mem.mp hF) _ (Array.getElem_mem ha)) i (List.mem_range.mpr hi)
    simpa [Array.getElem?_eq_getElem hi] using q
  obtain ⟨i0, ei0⟩ := is_v hgr
  obtain rfl : w0 = (.int i0) := Option.some.inj ei0
  obtain ⟨hnl, hnr⟩ := and_e hn
  obtain ⟨v_FALSE, ev_FALSE⟩ := exa_v hnl
  have st_FALSE := Sta.start ev_FALSE (Or.inr ⟨(oW hw 2 rfl), (oW hw 5 rfl)⟩)
  have ex_FALSE := Exa.start ev_FALSE hnl
  obtain ⟨hnrl, hnrr⟩ := and_e hnr
  obtain ⟨v_TRUE, ev_TRUE⟩ := exa_v hnrl
  have st_TRUE := Sta.start ev_TRUE (Or.inr ⟨(oW hw 2 rfl), (oW hw 7 rfl)⟩)
  have ex_TRUE := Exa.start ev_TRUE hnrl
  obtain ⟨hnrrl, hnrrr⟩ := and_e hnrr
  have of_FALSE_ordinal := own_fldI ev_FALSE hnrrl
  have of_TRUE_ordinal := own_fldI ev_TRUE hnrrr
  obtain ⟨n, o, h1, h2, h3, _, L, rfl, ⟨rfl, N⟩, hq⟩ := rm0 l s _ hw tables_1 i0 v_TRUE v_FALSE s.heap s.heap.size (Old.start s) st_TRUE st_FALSE ex_TRUE ex_FALSE of_TRUE_ordinal of_FALSE_ordinal (Fld.ne of_TRUE_ordinal of_FALSE_ordinal (by simp)) p e ha hc hk s m _ below hf ((Spec.applies_iff_loose hf).mp happ).1 ⟨rfl, State.Warmed39.refl s, rfl⟩ trivial
  refine ⟨n, _, h1, h2, h3, hpost _ _ _ _ _ _ ⟨Cond.after_iff.mpr rfl, Cond.after_iff.mpr (eq_i res_at (Term.int_eval (1)) rfl), trivial⟩ ⟨hq.1, hq.2.1, (hq.2.2.sift fun y hy => Or.inr (N y hy)).mono (by decide) (by decide)⟩⟩
theorem main_1_1 : Claimed_1_1 := comes_1 fun _ _ _ _ _ _ h hF => ⟨h.1, hF⟩
theorem main_1_2 : Claimed_1_2 := comes_1 fun _ _ _ _ _ _ h hF => ⟨h.2.1, hF⟩
end Jvm.Pilot.@@N@@
namespace Jvm.Pilot.@@N@@
open Jvm Jvm.ClassFile Sem Op Lib Jvm.Free Jvm.Stand Jvm.Pilot.@@N@@.Jvm.D
/-! MADE BY PROGRAM (witnessworld.py) out of the Statement's table words and the real class files: 12 classes; the members and pool entries that the words name. The judged class is class 1, her method 1. -/
namespace start1
open Jvm.ClassFile
def u (s : String) : CpInfo := .utf8 (stringToUtf16 s)
/-- a pool by its gaps: so many unusable entries, then the entry; so many at the end -/
def gap : Nat → List CpInfo → List CpInfo
  | 0, r => r
  | n + 1, r => .unusable :: gap n r
def poolList (es : List (Nat × CpInfo)) (last : Nat) : List CpInfo := es.foldr (fun e r => gap e.1 (e.2 :: r)) (gap last [])
def pool (es : List (Nat × CpInfo)) (last : Nat) : Array CpInfo := ⟨poolList es last⟩
def fileOf (pool : Array CpInfo) (this : Nat) (attrs : Array Attribute := #[]) (ms : Array MethodInfo := #[]) (fl : Nat := 33) (sup : Nat := 0) (ifs : Array Nat := #[]) (fds : Array FieldInfo := #[]) : ClassFile where
  minorVersion := 0
  majorVersion := 65
  constantPool := pool
  accessFlags := fl
  thisClass := this
  superClass := sup
  interfaces := ifs
  fields := fds
  methods := ms
  attributes := attrs
def plain (name : String) (sup : Option ClassId) : Class where
  name := name
  kind := .ordinary
  loader := none
  accessFlags := 33
  super := sup
  interfaces := #[]
  cf := none
  fields := #[]
  methods := #[]
  instanceTypes := #[]
  staticTypes := #[]
  resolved := #[]
  callSites := []
  init := .initialized
  statics := none
  mirror := none

def pool0 : Array CpInfo := pool [(5, u "<init>"), (0, u "()V"), (1, .class_ 10), (1, u "java/lang/Object")] 113

def k0m0 : Method := { name := "<init>", desc := "()V", sig := { parameters := [], returnType := none }, accessFlags := 1, code := none }
/-- java/lang/Object -/
def k0 : Class := { plain "java/lang/Object" none with
  accessFlags := 33
  interfaces := #[]
  cf := some (fileOf pool0 8 #[] #[{ accessFlags := 1, nameIndex := 5, descriptorIndex := 6, attributes := #[] }] 33 0 #[] #[])
  fields := #[]
  methods := #[k0m0]
  instanceTypes := #[]
  staticTypes := #[]
  resolved := Array.replicate 124 none
  statics := none }

def pool1 : Array CpInfo := pool [(2, .class_ 4), (1, u "java/lang/Object"), (0, u "<init>"), (0, u "()V"), (0, .methodref 8 9), (0, .class_ 10), (0, .nameAndType 11 12), (0, u "com/example/careroster/careroster/directory/Truth"), (0, u "of"), (0, u "(Z)Lcom/example/careroster/careroster/directory/Truth;"), (0, .fieldref 8 14), (0, .nameAndType 15 16), (0, u "TRUE"), (0, u "Lcom/example/careroster/careroster/directory/Truth;"), (0, .methodref 8 18), (0, .nameAndType 19 20), (0, u "not"), (0, u "()Lcom/example/careroster/careroster/directory/Truth;"), (0, .class_ 22), (0, u "com/example/careroster/careroster/directory/TruthOfPinLaw"), (2, u "law"), (0, u "(I)Z")] 3

def k1m0 : Method := { name := "<init>", desc := "()V", sig := { parameters := [], returnType := none }, accessFlags := 1, code := none }
def k1c1 : Code := { maxStack := 2, maxLocals := 6, code := code, exceptionTable := #[], attributes := #[] }
def k1m1 : Method := { name := "law", desc := "(I)Z", sig := { parameters := [.int], returnType := some .boolean }, accessFlags := 9, code := some k1c1 }
/-- com/example/careroster/careroster/directory/TruthOfPinLaw -/
def k1 : Class := { plain "com/example/careroster/careroster/directory/TruthOfPinLaw" (some 0) with
  accessFlags := 49
  interfaces := #[]
  cf := some (fileOf pool1 21 #[] #[{ accessFlags := 1, nameIndex := 5, descriptorIndex := 6, attributes := #[] }, { accessFlags := 9, nameIndex := 25, descriptorIndex := 26, attributes := #[] }] 49 2 #[] #[])
  fields := #[]
  methods := #[k1m0, k1m1]
  instanceTypes := #[]
  staticTypes := #[]
  resolved := Array.replicate 30 none
  statics := none }

def pool2 : Array CpInfo := pool [(1, .class_ 2), (0, u "java/lang/constant/Constable"), (0, .class_ 4), (0, u "java/lang/Object")] 6

/-- java/lang/constant/Constable -/
def k2 : Class := { plain "java/lang/constant/Constable" (some 0) with
  accessFlags := 1537
  interfaces := #[]
  cf := some (fileOf pool2 1 #[] #[] 1537 3 #[] #[])
  fields := #[]
  methods := #[]
  instanceTypes := #[]
  staticTypes := #[]
  resolved := Array.replicate 11 none
  statics := none }

def pool3 : Array CpInfo := pool [(1, .class_ 2), (0, u "java/lang/Comparable"), (0, .class_ 4), (0, u "java/lang/Object")] 7

/-- java/lang/Comparable -/
def k3 : Class := { plain "java/lang/Comparable" (some 0) with
  accessFlags := 1537
  interfaces := #[]
  cf := some (fileOf pool3 1 #[] #[] 1537 3 #[] #[])
  fields := #[]
  methods := #[]
  instanceTypes := #[]
  staticTypes := #[]
  resolved := Array.replicate 12 none
  statics := none }

def pool4 : Array CpInfo := pool [(1, .class_ 2), (0, u "java/io/Serializable"), (0, .class_ 4), (0, u "java/lang/Object")] 2

/-- java/io/Serializable -/
def k4 : Class := { plain "java/io/Serializable" (some 0) with
  accessFlags := 1537
  interfaces := #[]
  cf := some (fileOf pool4 1 #[] #[] 1537 3 #[] #[])
  fields := #[]
  methods := #[]
  instanceTypes := #[]
  staticTypes := #[]
  resolved := Array.replicate 7 none
  statics := none }

def pool5 : Array CpInfo := pool [(2, .class_ 4), (1, u "java/lang/Enum"), (0, u "name"), (0, u "Ljava/lang/String;"), (0, .fieldref 2 8), (0, .nameAndType 9 10), (0, u "ordinal"), (0, u "I"), (1, .class_ 14), (1, u "java/lang/Object"), (4, u "hash"), (86, .class_ 108), (1, u "java/lang/Enum$EnumDesc"), (2, .class_ 112), (0, u "java/lang/constant/Constable"), (0, .class_ 114), (0, u "java/lang/Comparable"), (0, .class_ 116), (0, u "java/io/Serializable"), (9, u "()I")] 77

def k5c0 : Code := { maxStack := 1, maxLocals := 1, code := jdk_37_method_2_code, exceptionTable := #[], attributes := #[] }
def k5m0 : Method := { name := "ordinal", desc := "()I", sig := { parameters := [], returnType := some .int }, accessFlags := 17, code := some k5c0 }
/-- java/lang/Enum -/
def k5 : Class := { plain "java/lang/Enum" (some 0) with
  accessFlags := 1057
  interfaces := #[2, 3, 4]
  cf := some (fileOf pool5 2 #[.nestMembers #[106]] #[{ accessFlags := 17, nameIndex := 9, descriptorIndex := 126, attributes := #[] }] 1057 12 #[111, 113, 115] #[{ accessFlags := 18, nameIndex := 5, descriptorIndex := 6, attributes := #[] }, { accessFlags := 18, nameIndex := 9, descriptorIndex := 10, attributes := #[] }, { accessFlags := 2, nameIndex := 19, descriptorIndex := 10, attributes := #[] }])
  fields := #[{ name := "name", type := (.object "java/lang/String"), accessFlags := 18, slot := 0, constantValue := 0 }, { name := "ordinal", type := .int, accessFlags := 18, slot := 1, constantValue := 0 }, { name := "hash", type := .int, accessFlags := 2, slot := 2, constantValue := 0 }]
  methods := #[k5m0]
  instanceTypes := #[(.object "java/lang/String"), .int, .int]
  staticTypes := #[]
  resolved := Array.replicate 204 none
  statics := none }

def pool6 : Array CpInfo := pool [(1, .class_ 2), (0, u "com/example/careroster/careroster/directory/Truth"), (0, .fieldref 1 4), (0, .nameAndType 5 6), (0, u "TRUE"), (0, u "Lcom/example/careroster/careroster/directory/Truth;"), (0, .fieldref 1 8), (0, .nameAndType 9 6), (0, u "FALSE"), (2, u "UNDEFINED"), (2, u "$VALUES"), (0, u "[Lcom/example/careroster/careroster/directory/Truth;"), (6, .class_ 25), (1, u "java/lang/Enum"), (6, .methodref 1 33), (0, .nameAndType 34 35), (0, u "ordinal"), (0, u "()I"), (15, u "of"), (0, u "(Z)Lcom/example/careroster/careroster/directory/Truth;"), (1, u "not"), (0, u "()Lcom/example/careroster/careroster/directory/Truth;")] 4

def k6c0 : Code := { maxStack := 1, maxLocals := 1, code := prog_107_method_4_code, exceptionTable := #[], attributes := #[] }
def k6m0 : Method := { name := "of", desc := "(Z)Lcom/example/careroster/careroster/directory/Truth;", sig := { parameters := [.boolean], returnType := some (.object "com/example/careroster/careroster/directory/Truth") }, accessFlags := 9, code := some k6c0 }
def k6c1 : Code := { maxStack := 1, maxLocals := 1, code := prog_107_method_5_code, exceptionTable := #[], attributes := #[] }
def k6m1 : Method := { name := "not", desc := "()Lcom/example/careroster/careroster/directory/Truth;", sig := { parameters := [], returnType := some (.object "com/example/careroster/careroster/directory/Truth") }, accessFlags := 1, code := some k6c1 }
/-- com/example/careroster/careroster/directory/Truth -/
def k6 : Class := { plain "com/example/careroster/careroster/directory/Truth" (some 5) with
  accessFlags := 16433
  interfaces := #[]
  cf := some (fileOf pool6 1 #[] #[{ accessFlags := 9, nameIndex := 51, descriptorIndex := 52, attributes := #[] }, { accessFlags := 1, nameIndex := 54, descriptorIndex := 55, attributes := #[] }] 16433 23 #[] #[{ accessFlags := 16409, nameIndex := 5, descriptorIndex := 6, attributes := #[] }, { accessFlags := 16409, nameIndex := 9, descriptorIndex := 6, attributes := #[] }, { accessFlags := 16409, nameIndex := 12, descriptorIndex := 6, attributes := #[] }, { accessFlags := 4122, nameIndex := 15, descriptorIndex := 16, attributes := #[] }])
  fields := #[{ name := "TRUE", type := (.object "com/example/careroster/careroster/directory/Truth"), accessFlags := 16409, slot := 0, constantValue := 0 }, { name := "FALSE", type := (.object "com/example/careroster/careroster/directory/Truth"), accessFlags := 16409, slot := 1, constantValue := 0 }, { name := "UNDEFINED", type := (.object "com/example/careroster/careroster/directory/Truth"), accessFlags := 16409, slot := 2, constantValue := 0 }, { name := "$VALUES", type := (.array (.object "com/example/careroster/careroster/directory/Truth")), accessFlags := 4122, slot := 3, constantValue := 0 }]
  methods := #[k6m0, k6m1]
  instanceTypes := #[(.object "java/lang/String"), .int, .int]
  staticTypes := #[(.object "com/example/careroster/careroster/directory/Truth"), (.object "com/example/careroster/careroster/directory/Truth"), (.object "com/example/careroster/careroster/directory/Truth"), (.array (.object "com/example/careroster/careroster/directory/Truth"))]
  resolved := Array.replicate 60 none
  statics := some 0 }

def pool7 : Array CpInfo := pool [(1, u "java/lang/Cloneable"), (0, .class_ 1), (0, u "java/lang/Object"), (0, .class_ 3)] 3

/-- java/lang/Cloneable -/
def k7 : Class := { plain "java/lang/Cloneable" (some 0) with
  accessFlags := 1537
  interfaces := #[]
  cf := some (fileOf pool7 2 #[] #[] 1537 4 #[] #[])
  fields := #[]
  methods := #[]
  instanceTypes := #[]
  staticTypes := #[]
  resolved := Array.replicate 8 none
  statics := none }

/-- the primitive byte -/
def k8 : Class := { plain "byte" none with kind := .primitive 'B', accessFlags := 0x411 }
/-- [B -/
def k9 : Class := { plain "[B" (some 0) with kind := .array 8 .byte, interfaces := #[7, 4], accessFlags := 1041 }

/-- the primitive int -/
def k10 : Class := { plain "int" none with kind := .primitive 'I', accessFlags := 0x411 }
/-- [I -/
def k11 : Class := { plain "[I" (some 0) with kind := .array 10 .int, interfaces := #[7, 4], accessFlags := 1041 }

def heap : Heap := #[{ cls := 6, slots := #[.ref 1, .ref 2, .null, .null], vm := .statics 6 },
  { cls := 6, slots := #[.null, .int 0, .int 0], vm := .none },
  { cls := 6, slots := #[.null, .int 1, .int 0], vm := .none }]
def classes : Array Class := #[k0, k1, k2, k3, k4, k5, k6, k7, k8, k9, k10, k11]
def interned : List (Array UInt16 × Addr) := []
def slotsUsed : Nat := 10
def theMethod : MethodId := ⟨1, 1⟩
def args0 : Array Value := #[.int 5]
def aboutOver (below : List Frame) : State where
  vm := { classes := classes, interned := interned.toArray }
  heap := heap
  slotsUsed := slotsUsed
  threads := #[{ frames := .invoking theMethod args0 :: below }]
def below0 : List Frame := [.native { method := ⟨0, 0⟩, args := #[] }]
def about1 : State := aboutOver below0
def p0 : Program := .bare "" "" ""
def e0 : Env := launch0.env 0 0 0
theorem w_frames : about1.frames = Frame.invoking theMethod args0 :: below0 := rfl
set_option maxRecDepth 65536 in
theorem w_args : argsFit about1.vm theMethod args0 = true := by decide +kernel
set_option maxRecDepth 65536 in
theorem w_heap : heapFits about1 = true := by decide +kernel
set_option maxRecDepth 65536 in
theorem w_runnable : about1.curStatus? = some .runnable := by decide +kernel
set_option maxRecDepth 65536 in
theorem w_alone : about1.alone = true := by decide +kernel
set_option maxRecDepth 65536 in
theorem w_named : about1.methodNamed? x = some theMethod := by decide +kernel
set_option maxRecDepth 65536 in
theorem w_hears : about1.hears theMethod below0 = true := by decide +kernel
set_option maxRecDepth 65536 in
theorem w_ripe : about1.ripe theMethod args0 below0 = true := by decide +kernel
theorem w_running : about1.status = .running := rfl
set_option maxRecDepth 65536 in
theorem w_room : about1.hasRoom e0.platform room_1 = true :=
  launch0.hasRoom_least _ room_1 (by decide +kernel) (by decide +kernel) (by decide +kernel) (by decide +kernel) (by decide +kernel) (by decide +kernel)
theorem allAtoms_all (ts : List Jvm.Cond) (a : Array Jvm.Value) (st : Jvm.State) : (allAtoms ts).before a st = ts.all (fun c => c.before a st) := by
  induction ts with
  | nil => rfl
  | cons c t ih =>
    show (Jvm.Cond.and c (allAtoms t)).before a st = _
    rw [Jvm.Cond.before_and, ih, List.all_cons]
def words1 : List Jvm.Cond := Jvm.Cond.code x code maxLocals ret :: tables_1
/-- a 'code' word, met by the world's own term for the bytes: nothing is compared byte by byte -/
theorem code_word {y : MethodName} {bytes : ByteArray} {mx : Nat} {rt : Option FieldType} {a : Array Value} {s : State} {m : MethodId} {meth : Method} {c : Code} (h1 : s.methodNamed? y = some m) (h2 : s.vm.method? m = some meth) (h3 : meth.code = some c) (h4 : c.code = bytes)
    (h5 : (c.maxLocals == mx && c.exceptionTable.isEmpty && decide (c.maxStack ≤ mostOperands) && decide (meth.sig.returnType = rt) && !meth.locks && decide (parseMethodDescriptor y.desc = some meth.sig)) = true) : (Jvm.Cond.code y bytes mx rt).before a s = true := by
  simp only [Bool.and_eq_true, beq_iff_eq, Bool.not_eq_true', decide_eq_true_eq] at h5
  obtain ⟨⟨⟨⟨⟨g1, g2⟩, g3⟩, g4⟩, g5⟩, g6⟩ := h5
  simp [Cond.before, Cond.holds, Cond.value, h1, h2, h3, h4, g1, g2, g3, g4, g5, g6]
def isCode : Jvm.Cond → Bool
  | .code _ _ _ _ => true
  | _ => false
theorem all_split {L : List Jvm.Cond} {P : Jvm.Cond → Bool} (h1 : L.all (fun c => isCode c || P c) = true) (h2 : ∀ c ∈ L.filter isCode, P c = true) : L.all P = true := by
  refine List.all_eq_true.mpr fun c hc => ?_
  have h := List.all_eq_true.mp h1 c hc
  rcases Bool.eq_false_or_eq_true (isCode c) with hi | hi
  · exact h2 c (List.mem_filter.mpr ⟨hc, hi⟩)
  · simpa [hi] using h
set_option maxRecDepth 65536 in
theorem w_c0 : (Jvm.Cond.code x code maxLocals ret).before args0 about1 = true := code_word (m := ⟨1, 1⟩) (meth := k1m1) (c := k1c1) (by decide +kernel) rfl rfl rfl (by decide +kernel)
set_option maxRecDepth 65536 in
theorem w_c1 : (Jvm.Cond.code ({ cls := "com/example/careroster/careroster/directory/Truth", name := "of", desc := "(Z)Lcom/example/careroster/careroster/directory/Truth;" } : Jvm.MethodName) prog_107_method_4_code (1 : Nat) (Option.some (Jvm.ClassFile.FieldType.object "com/example/careroster/careroster/directory/Truth"))).before args0 about1 = true := code_word (m := ⟨6, 0⟩) (meth := k6m0) (c := k6c0) (by decide +kernel) rfl rfl rfl (by decide +kernel)
set_option maxRecDepth 65536 in
theorem w_c2 : (Jvm.Cond.code ({ cls := "com/example/careroster/careroster/directory/Truth", name := "not", desc := "()Lcom/example/careroster/careroster/directory/Truth;" } : Jvm.MethodName) prog_107_method_5_code (1 : Nat) (Option.some (Jvm.ClassFile.FieldType.object "com/example/careroster/careroster/directory/Truth"))).before args0 about1 = true := code_word (m := ⟨6, 1⟩) (meth := k6m1) (c := k6c1) (by decide +kernel) rfl rfl rfl (by decide +kernel)
set_option maxRecDepth 65536 in
theorem w_c3 : (Jvm.Cond.code ({ cls := "java/lang/Enum", name := "ordinal", desc := "()I" } : Jvm.MethodName) jdk_37_method_2_code (1 : Nat) (Option.some Jvm.ClassFile.FieldType.int)).before args0 about1 = true := code_word (m := ⟨5, 0⟩) (meth := k5m0) (c := k5c0) (by decide +kernel) rfl rfl rfl (by decide +kernel)
def codes1 : List Jvm.Cond := [Jvm.Cond.code x code maxLocals ret, Jvm.Cond.code ({ cls := "com/example/careroster/careroster/directory/Truth", name := "of", desc := "(Z)Lcom/example/careroster/careroster/directory/Truth;" } : Jvm.MethodName) prog_107_method_4_code (1 : Nat) (Option.some (Jvm.ClassFile.FieldType.object "com/example/careroster/careroster/directory/Truth")), Jvm.Cond.code ({ cls := "com/example/careroster/careroster/directory/Truth", name := "not", desc := "()Lcom/example/careroster/careroster/directory/Truth;" } : Jvm.MethodName) prog_107_method_5_code (1 : Nat) (Option.some (Jvm.ClassFile.FieldType.object "com/example/careroster/careroster/directory/Truth")), Jvm.Cond.code ({ cls := "java/lang/Enum", name := "ordinal", desc := "()I" } : Jvm.MethodName) jdk_37_method_2_code (1 : Nat) (Option.some Jvm.ClassFile.FieldType.int)]
set_option maxRecDepth 65536 in
theorem codes_eq : words1.filter isCode = codes1 := rfl
theorem w_codes : ∀ c ∈ words1.filter isCode, c.before args0 about1 = true := by
  rw [codes_eq]
  intro c hc
  simp only [codes1, List.mem_cons, List.not_mem_nil, or_false] at hc
  rcases hc with rfl | rfl | rfl | rfl
  · exact w_c0
  · exact w_c1
  · exact w_c2
  · exact w_c3
set_option maxRecDepth 65536 in
theorem w_t1 : words1.all (fun c => isCode c || c.before args0 about1) = true := by decide +kernel
theorem w_tables : (allAtoms (Jvm.Cond.code x code maxLocals ret :: tables_1)).before args0 about1 = true := by
  rw [allAtoms_all]
  show words1.all (fun c => c.before args0 about1) = true
  refine all_split ?_ w_codes
  rw [w_t1]
set_option maxRecDepth 65536 in
theorem w_case : (Jvm.Cond.and given_1 narrow_1).before args0 about1 = true := by decide +kernel
theorem w_applies : (headSpec (Jvm.Cond.code x code maxLocals ret :: tables_1) room_1).applies x e0.platform about1 = true :=
  (Spec.applies_iff w_frames).mpr ⟨w_running, w_runnable, w_alone, w_named, w_hears, w_ripe, w_room, w_tables⟩
theorem atStart : AtStart classFile x code maxLocals ret World_1 tables_1 room_1 Calls_1 rest_1 Pre_1 launch0 p0 e0 about1 theMethod args0 below0 :=
  ⟨lists_1, trivial, launch0.admits_env _ _ _, launch0.least_env, fairChoices_fair.cas, fairChoices_fair.clock, w_frames, w_args, w_heap, w_applies, trivial, trivial, w_case⟩
end start1
theorem witness_1 : WitnessClaimed_1 := ⟨start1.p0, start1.e0, start1.about1, start1.theMethod, start1.args0, start1.below0, start1.atStart⟩
end Jvm.Pilot.@@N@@
