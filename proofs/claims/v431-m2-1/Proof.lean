import JvmDerived
import JvmDerived.Pilot.@@N@@Statement
import JvmDerived.Pilot.@@N@@Code
set_option linter.unusedVariables false
set_option linter.unusedSimpArgs false
namespace Jvm.RoadKit
open Sem ClassFile Op Lib Jvm.Stand Jvm.Free Jvm.LawKit
section New
variable {p : Program} {l : Launch} {e : Env} {R : Room} {s : State} {m : MethodId} {args : Array Value} {below : List Frame} {meth : Method} {c : Code} {T : State} {locs : List Loc} {cells slots : Nat}
theorem retI (X : Stand p l e R s m args below meth c T locs cells slots) (hx : p.tables.exec = Jvm.exec) {pc : Nat} {Ls : Array Slot} {z : Int32} {rest : List Value} (hret : meth.sig.returnType = some .int) (hd : decode c.code pc = .ok (.ireturn, 1)) {fs : List Frame}
    (hl : ∀ (f : JFrame) (acts : List Action), f.method = m → f.locked = none → f.entered = [] → (doReturn e (T.setTop f) acts (some (.int z))).1 = T.setFrames fs) : Steps p.tables e below (T.setTop (mkF m pc Ls (.int z :: rest))) (T.setFrames fs) := by
  have hm' : T.vm.method? m = some meth := X.method'
  have hn : narrow .int (.int z) = .int z := rfl
  show Steps p.tables e below (T.setTop { method := m, pc := pc, locals := Ls, stack := _ :: rest, locked := none }) _
  jvm_step X.here [X.here.top, hx, hd, hm', hret, hn]
  first | (intro acts; rw [hl _ acts rfl rfl rfl]) | rw [hl _ _ rfl rfl rfl]
  exact Steps.refl _
end New
end Jvm.RoadKit
namespace Jvm.Pilot.@@N@@
open Jvm Jvm.ClassFile Sem Op Lib Jvm.Free Jvm.Stand Jvm.LawKit Jvm.RoadKit Bundle Jvm.Pilot.@@N@@.Jvm.D
theorem oW {Z : State} {a0 : Array Value} (hw : ∀ d ∈ tables_1, d.before a0 Z = true) (i : Nat) {d : Jvm.Cond} (h : tables_1[i]? = some d) : d.before a0 Z = true := hw d (List.mem_of_getElem? h)
abbrev oI (x : Int32) : Slot := .val (.int x)
abbrev oR (x : Addr) : Slot := .val (.ref x)
abbrev oV (x : Value) : Slot := .val x
abbrev oN : Slot := .val .null
abbrev oU : Slot := .unset
abbrev oi (x : Int32) : Value := .int x
abbrev ow (x : Addr) : Value := .ref x
abbrev oS (p : Program) (e : Env) (below : List Frame) (T : State) (g : JFrame) (t : State) : Prop := Steps p.tables e below (T.setTop g) t
abbrev oL (p : Program) (e : Env) (below : List Frame) (T : State) (g : JFrame) (T' : State) (g' : JFrame) : Prop := ∀ t, Steps p.tables e below (T.setTop g) t → Steps p.tables e below (T'.setTop g') t
theorem own_fldI {args : Array Value} {Z : State} {t : Term} {C n d : String} {k : Int32} {a : Addr} (ev : t.eval args Z none [] Z = some (.ref a)) (h : (Jvm.Cond.eq (.field t C n d) (.int k)).value args Z none Z [] = some true) : Fld Z Z.heap a C n d (.int k) := by
  obtain ⟨x, y, h1, h2, hk, hk'⟩ := cmp_v (Or.inl h)
  have h2' : y = .int k := by simpa [Term.eval] using h2.symm
  subst h2'
  obtain ⟨z, rfl⟩ : ∃ z, x = .int z := hk'
  have : z = k := by simpa [Cond.value, h1, h2] using h
  subst this
  exact Fld.start ((fld_at ev).symm.trans h1)
theorem pn_com_example_proof_keep_proofkeep_eval_BooleanValue : plainName "com/example/proof_keep/proofkeep/eval/BooleanValue" = true := by first | (simp [plainName, overriddenIn]; done) | decide +kernel
theorem d1_0 : decode prog_49_method_2_code 0 = .ok (.iload_n 0, 1) := by decide +kernel
theorem d1_1 : decode prog_49_method_2_code 1 = .ok (.ifCond .eq 9, 3) := by decide +kernel
theorem d1_10 : decode prog_49_method_2_code 10 = .ok (.getstatic 17, 3) := by decide +kernel
theorem d1_13 : decode prog_49_method_2_code 13 = .ok (.areturn, 1) := by decide +kernel
theorem d1_4 : decode prog_49_method_2_code 4 = .ok (.getstatic 13, 3) := by decide +kernel
theorem d1_7 : decode prog_49_method_2_code 7 = .ok (.goto 6, 3) := by decide +kernel
def Q_rm_of (Z : State) (p1 : Int32) (w_FALSE : Addr) (w_TRUE : Addr) (r : Addr) (h0 : Heap) (n0 : Nat) (v : Option Value) (h : Heap) (L : List Loc) : Prop := v = some (.ref r) ∧ Fr n0 L ∧ h = h0
set_option maxRecDepth 65536 in
set_option maxHeartbeats 40000000 in
theorem rm_of (l : Launch) (Z : State) (a0 : Array Value) (hw : ∀ d ∈ tables_1, d.before a0 Z = true) (ws : List Jvm.Cond) (p1 : Int32) (w_FALSE : Addr) (w_TRUE : Addr) (r : Addr) (h0 : Heap) (n0 : Nat) (OL : Old Z n0 h0) (s_FALSE : Sta Z Z.heap "com/example/proof_keep/proofkeep/eval/BooleanValue" "FALSE" "Lcom/example/proof_keep/proofkeep/eval/BooleanValue;" (.ref w_FALSE)) (s_TRUE : Sta Z Z.heap "com/example/proof_keep/proofkeep/eval/BooleanValue" "TRUE" "Lcom/example/proof_keep/proofkeep/eval/BooleanValue;" (.ref w_TRUE)) (hr' : r = if p1 = 0 then w_FALSE else w_TRUE) :
    MetFree l (⟨"com/example/proof_keep/proofkeep/eval/BooleanValue", "of", "(Z)Lcom/example/proof_keep/proofkeep/eval/BooleanValue;"⟩ : MethodName) (head1 (Jvm.Cond.code (⟨"com/example/proof_keep/proofkeep/eval/BooleanValue", "of", "(Z)Lcom/example/proof_keep/proofkeep/eval/BooleanValue;"⟩ : MethodName) prog_49_method_2_code 1 (some (.object "com/example/proof_keep/proofkeep/eval/BooleanValue")) :: ws) ({ frames := 0, cells := 0, slots := 0, locals := 0 } : Room)) (fun a U => a = #[(.int p1)] ∧ Z.Warmed39 U.vm ∧ U.heap = h0) (fun _ _ _ _ _ => True) (fun _ U o U' => ∃ v L, o = .returned v ∧ Q_rm_of Z p1 w_FALSE w_TRUE r h0 n0 v U'.heap L ∧ FrameEnd U o U' L ({ frames := 0, cells := 0, slots := 0, locals := 0 } : Room).cells ({ frames := 0, cells := 0, slots := 0, locals := 0 } : Room).slots) := by
  refine MetFree.of_bodySF (plainFor_of_name pn_com_example_proof_keep_proofkeep_eval_BooleanValue) hisR ?_
  intro p e s m args below meth c s₁ Bd hml0 hP hK
  obtain ⟨rfl, hZ, hh⟩ := hP
  have hx := Bd.exec
  have hby := Bd.bytes
  have hml : c.maxLocals = 1 := hml0
  have hown : s.vm.findClass "com/example/proof_keep/proofkeep/eval/BooleanValue" = some m.cls := findClass_of_methodNamed Bd.named
  have hnm := (name_of_methodNamed Bd.named Bd.method).1
  have X0 : Stand p l e ({ frames := 0, cells := 0, slots := 0, locals := 0 } : Room) s m #[(.int p1)] below meth c s₁ [] 0 0 := Stand.of_body Bd
  have e0 : s₁.heap = h0 := by rw [← hh, Bd.state]; rfl
  have N0 := Fr.nil n0
  have pre0 : oL p e below s₁ (mkF m 0 #[oI p1] []) s₁ (entryFrame m #[(.int p1)] 1) := fun t k => castTop (by first | (simp [entryFrame, mkF, argsToLocals, Value.category]; done) | rfl) k
  have pre1 : oL p e below s₁ (mkF m 1 #[oI p1] [oi p1]) s₁ (entryFrame m #[(.int p1)] 1) := fun t k => pre0 t (by
    refine XS.iloadN X0.here hx rfl (hb hby d1_0) rfl ?_
    exact k)
  by_cases hc2 : p1 = (0 : Int32)
  ·
    have pre3 : oL p e below s₁ (mkF m 10 #[oI p1] []) s₁ (entryFrame m #[(.int p1)] 1) := fun t k => pre1 t (by
      refine XS.ifYes X0.here hx rfl (pc0 := 1) (pc' := 10) rfl (hb hby d1_1) rfl ((if0 _ _).trans (teq hc2).1) (by decide) (by decide) ?_
      exact k)
    obtain ⟨T4, X4, e4, st4⟩ := getS2 X0 hx hZ hown (host := "") (Or.inl (oW hw 4 rfl)) Via.refl e0 (s_FALSE.ext OL.2) (g := (mkF m 10 #[oI p1] [])) rfl (hb hby d1_10)
    have pre5 : oL p e below T4 (mkF m 13 #[oI p1] [ow w_FALSE]) s₁ (entryFrame m #[(.int p1)] 1) := fun t k => pre3 t (by
      refine st4 _ ?_
      exact k)
    obtain ⟨fs, hr, hrun, hended, hW, hsame⟩ := X4.leave (v := some (.ref w_FALSE)) (fun h => by rw [Bd.returns] at h; cases h)
    refine ⟨_, _, pre5 _ ?_, hrun, hended, _, _, rfl, ?_, ⟨_, rfl⟩, hW, hsame.mono (by decide) (by decide)⟩
    ·
      show oS p e below T4 (mkF m 13 #[oI p1] [ow w_FALSE]) _
      jvm_step X4.here [X4.here.top, hx, (hb hby d1_13), X4.method', Bd.returns, Value.isRef, FieldType.isReference]
      first | (intro acts; rw [hr _ acts rfl rfl rfl]) | rw [hr _ _ rfl rfl rfl]
      exact Steps.refl _
    ·
      show Q_rm_of Z p1 w_FALSE w_TRUE r h0 n0 _ T4.heap _
      rw [e4]
      exact ⟨by rw [hr', if_pos hc2], N0, rfl⟩
  ·
    have pre6 : oL p e below s₁ (mkF m 4 #[oI p1] []) s₁ (entryFrame m #[(.int p1)] 1) := fun t k => pre1 t (by
      refine XS.ifNo X0.here hx rfl (hb hby d1_1) rfl ((if0 _ _).trans (feq hc2).1) ?_
      exact k)
    obtain ⟨T7, X7, e7, st7⟩ := getS2 X0 hx hZ hown (host := "") (Or.inl (oW hw 6 rfl)) Via.refl e0 (s_TRUE.ext OL.2) (g := (mkF m 4 #[oI p1] [])) rfl (hb hby d1_4)
    have pre8 : oL p e below T7 (mkF m 13 #[oI p1] [ow w_TRUE]) s₁ (entryFrame m #[(.int p1)] 1) := fun t k => pre6 t (by
      refine st7 _ ?_
      refine XS.goto X7.here hx rfl (pc0 := 7) (pc' := 13) rfl (hb hby d1_7) (by decide) (by decide) ?_
      show oS p e below T7 (mkF m 13 #[oI p1] [ow w_TRUE]) _
      exact k)
    obtain ⟨fs, hr, hrun, hended, hW, hsame⟩ := X7.leave (v := some (.ref w_TRUE)) (fun h => by rw [Bd.returns] at h; cases h)
    refine ⟨_, _, pre8 _ ?_, hrun, hended, _, _, rfl, ?_, ⟨_, rfl⟩, hW, hsame.mono (by decide) (by decide)⟩
    ·
      show oS p e below T7 (mkF m 13 #[oI p1] [ow w_TRUE]) _
      jvm_step X7.here [X7.here.top, hx, (hb hby d1_13), X7.method', Bd.returns, Value.isRef, FieldType.isReference]
      first | (intro acts; rw [hr _ acts rfl rfl rfl]) | rw [hr _ _ rfl rfl rfl]
      exact Steps.refl _
    ·
      show Q_rm_of Z p1 w_FALSE w_TRUE r h0 n0 _ T7.heap _
      rw [e7]
      exact ⟨by rw [hr', if_neg hc2], N0, rfl⟩
theorem d2_0 : decode prog_49_method_3_code 0 = .ok (.aload_n 0, 1) := by decide +kernel
theorem d2_1 : decode prog_49_method_3_code 1 = .ok (.getfield 7, 3) := by decide +kernel
theorem d2_4 : decode prog_49_method_3_code 4 = .ok (.ireturn, 1) := by decide +kernel
def Q_rm_get (Z : State) (a1 : Addr) (w1 : Int32) (h0 : Heap) (n0 : Nat) (v : Option Value) (h : Heap) (L : List Loc) : Prop := v = some (.int w1) ∧ Fr n0 L ∧ h = h0
set_option maxRecDepth 65536 in
set_option maxHeartbeats 40000000 in
theorem rm_get (l : Launch) (Z : State) (a0 : Array Value) (hw : ∀ d ∈ tables_1, d.before a0 Z = true) (ws : List Jvm.Cond) (a1 : Addr) (w1 : Int32) (h0 : Heap) (n0 : Nat) (OL : Old Z n0 h0) (f1 : Fld Z Z.heap a1 "com/example/proof_keep/proofkeep/eval/BooleanValue" "value" "Z" (.int w1)) (hb1 : nar .boolean w1 = w1) :
    MetFree l (⟨"com/example/proof_keep/proofkeep/eval/BooleanValue", "getValue", "()Z"⟩ : MethodName) (head1 (Jvm.Cond.code (⟨"com/example/proof_keep/proofkeep/eval/BooleanValue", "getValue", "()Z"⟩ : MethodName) prog_49_method_3_code 1 (some .boolean) :: ws) ({ frames := 0, cells := 0, slots := 0, locals := 0 } : Room)) (fun a U => a = #[(.ref a1)] ∧ Z.Warmed39 U.vm ∧ U.heap = h0) (fun _ _ _ _ _ => True) (fun _ U o U' => ∃ v L, o = .returned v ∧ Q_rm_get Z a1 w1 h0 n0 v U'.heap L ∧ FrameEnd U o U' L ({ frames := 0, cells := 0, slots := 0, locals := 0 } : Room).cells ({ frames := 0, cells := 0, slots := 0, locals := 0 } : Room).slots) := by
  refine MetFree.of_bodySF (plainFor_of_name pn_com_example_proof_keep_proofkeep_eval_BooleanValue) hisR ?_
  intro p e s m args below meth c s₁ Bd hml0 hP hK
  obtain ⟨rfl, hZ, hh⟩ := hP
  have hx := Bd.exec
  have hby := Bd.bytes
  have hml : c.maxLocals = 1 := hml0
  have hown : s.vm.findClass "com/example/proof_keep/proofkeep/eval/BooleanValue" = some m.cls := findClass_of_methodNamed Bd.named
  have hnm := (name_of_methodNamed Bd.named Bd.method).1
  have X0 : Stand p l e ({ frames := 0, cells := 0, slots := 0, locals := 0 } : Room) s m #[(.ref a1)] below meth c s₁ [] 0 0 := Stand.of_body Bd
  have e0 : s₁.heap = h0 := by rw [← hh, Bd.state]; rfl
  have N0 := Fr.nil n0
  have pre0 : oL p e below s₁ (mkF m 0 #[oR a1] []) s₁ (entryFrame m #[(.ref a1)] 1) := fun t k => castTop (by first | (simp [entryFrame, mkF, argsToLocals, Value.category]; done) | rfl) k
  have pre1 : oL p e below s₁ (mkF m 1 #[oR a1] [ow a1]) s₁ (entryFrame m #[(.ref a1)] 1) := fun t k => pre0 t (by
    refine XS.aloadN X0.here hx rfl (hb hby d2_0) rfl rfl ?_
    exact k)
  obtain ⟨T2, X2, e2, st2⟩ := getF X0 hx hZ hown (host := "") (Or.inl (oW hw 13 rfl)) Via.refl e0 (f1.ext OL.2) (g := (mkF m 1 #[oR a1] [ow a1])) rfl rfl (hb hby d2_1)
  have pre3 : oL p e below T2 (mkF m 4 #[oR a1] [oi w1]) s₁ (entryFrame m #[(.ref a1)] 1) := fun t k => pre1 t (by
    refine st2 _ ?_
    exact k)
  obtain ⟨fs, hr, hrun, hended, hW, hsame⟩ := X2.leave (v := some (.int (nar .boolean w1))) (fun h => by rw [Bd.returns] at h; cases h)
  refine ⟨_, _, pre3 _ ?_, hrun, hended, _, _, rfl, ?_, ⟨_, rfl⟩, hW, hsame.mono (by decide) (by decide)⟩
  ·
    show oS p e below T2 (mkF m 4 #[oR a1] [oi w1]) _
    exact retN X2 hx (t := .boolean) Bd.returns (by simp) (hb hby d2_4) hr
  ·
    show Q_rm_get Z a1 w1 h0 n0 _ T2.heap _
    rw [e2]
    exact ⟨by rw [hb1], N0, rfl⟩
theorem pn_com_example_proof_keep_proofkeep_eval_BooleanValueOfPinLaw : plainName "com/example/proof_keep/proofkeep/eval/BooleanValueOfPinLaw" = true := by first | (simp [plainName, overriddenIn]; done) | decide +kernel
theorem pd__Z_Lcom_example_proof_keep_proofkeep_eval_BooleanValue_ : parseMethodDescriptor "(Z)Lcom/example/proof_keep/proofkeep/eval/BooleanValue;" = some ⟨[.boolean], some (.object "com/example/proof_keep/proofkeep/eval/BooleanValue")⟩ := by decide +kernel
theorem pd___Z : parseMethodDescriptor "()Z" = some ⟨[], some .boolean⟩ := by decide +kernel
def Q_rm0 (Z : State) (p1 : Int32) (w_FALSE : Addr) (w_TRUE : Addr) (h0 : Heap) (n0 : Nat) (v : Option Value) (h : Heap) (L : List Loc) : Prop := v = some (.int (1 : Int32)) ∧ Fr n0 L
set_option maxRecDepth 65536 in
set_option maxHeartbeats 40000000 in
theorem rm0 (l : Launch) (Z : State) (a0 : Array Value) (hw : ∀ d ∈ tables_1, d.before a0 Z = true) (ws : List Jvm.Cond) (p1 : Int32) (w_FALSE : Addr) (w_TRUE : Addr) (h0 : Heap) (n0 : Nat) (OL : Old Z n0 h0) (s_FALSE : Sta Z Z.heap "com/example/proof_keep/proofkeep/eval/BooleanValue" "FALSE" "Lcom/example/proof_keep/proofkeep/eval/BooleanValue;" (.ref w_FALSE)) (s_TRUE : Sta Z Z.heap "com/example/proof_keep/proofkeep/eval/BooleanValue" "TRUE" "Lcom/example/proof_keep/proofkeep/eval/BooleanValue;" (.ref w_TRUE)) (e_FALSE : Exa Z Z.heap w_FALSE "com/example/proof_keep/proofkeep/eval/BooleanValue") (e_TRUE : Exa Z Z.heap w_TRUE "com/example/proof_keep/proofkeep/eval/BooleanValue") (f_FALSE : Fld Z Z.heap w_FALSE "com/example/proof_keep/proofkeep/eval/BooleanValue" "value" "Z" (.int 0)) (f_TRUE : Fld Z Z.heap w_TRUE "com/example/proof_keep/proofkeep/eval/BooleanValue" "value" "Z" (.int 1)) :
    MetFree l x (head1 (Jvm.Cond.code x code maxLocals ret :: ws) room_1) (fun a U => a = #[(.int p1)] ∧ Z.Warmed39 U.vm ∧ U.heap = h0) (fun _ _ _ _ _ => True) (fun _ U o U' => ∃ v L, o = .returned v ∧ Q_rm0 Z p1 w_FALSE w_TRUE h0 n0 v U'.heap L ∧ FrameEnd U o U' L room_1.cells room_1.slots) := by
  refine MetFree.of_bodySF (plainFor_of_name pn_com_example_proof_keep_proofkeep_eval_BooleanValueOfPinLaw) hisR ?_
  intro p e s m args below meth c s₁ Bd hml0 hP hK
  obtain ⟨rfl, hZ, hh⟩ := hP
  have hx := Bd.exec
  have hby := Bd.bytes
  have hml : c.maxLocals = 4 := hml0
  have hown : s.vm.findClass "com/example/proof_keep/proofkeep/eval/BooleanValueOfPinLaw" = some m.cls := findClass_of_methodNamed Bd.named
  have hnm := (name_of_methodNamed Bd.named Bd.method).1
  have X0 : Stand p l e room_1 s m #[(.int p1)] below meth c s₁ [] 0 0 := Stand.of_body Bd
  have e0 : s₁.heap = h0 := by rw [← hh, Bd.state]; rfl
  have N0 := Fr.nil n0
  have pre0 : oL p e below s₁ (mkF m 0 #[oI p1, oU, oU, oU] []) s₁ (entryFrame m #[(.int p1)] maxLocals) := fun t k => castTop (by first | (simp [entryFrame, mkF, argsToLocals, Value.category, maxLocals]; done) | rfl) k
  have pre1 : oL p e below s₁ (mkF m 3 #[oI p1, oU, oU, oU] [oi (p1 &&& (1 : Int32))]) s₁ (entryFrame m #[(.int p1)] maxLocals) := fun t k => pre0 t (by
    refine XS.iloadN X0.here hx rfl (hb hby at_0) rfl ?_
    refine XS.iconst X0.here hx rfl (hb hby at_1) ?_
    refine XS.iand X0.here hx rfl (hb hby at_2) rfl ?_
    exact k)
  by_cases hc2 : (p1 &&& (1 : Int32)) = (0 : Int32)
  ·
    have pre3 : oL p e below s₁ (mkF m 13 #[oI p1, oI 0, oU, oU] [oi 0]) s₁ (entryFrame m #[(.int p1)] maxLocals) := fun t k => pre1 t (by
      refine XS.ifYes X0.here hx rfl (pc0 := 3) (pc' := 10) rfl (hb hby at_3) rfl ((if0 _ _).trans (teq hc2).1) (by decide) (by decide) ?_
      show oS p e below s₁ (mkF m 10 #[oI p1, oU, oU, oU] []) _
      refine XS.iconst X0.here hx rfl (hb hby at_10) ?_
      refine XS.istoreN X0.here hx rfl (hb hby at_11) rfl (l' := #[oI p1, oI 0, oU, oU]) rfl ?_
      refine XS.iloadN X0.here hx rfl (hb hby at_12) rfl ?_
      exact k)
    obtain ⟨_, _, ⟨T4, L4, k4, n4⟩, -, X4, ⟨Lc4, hQ4, l4, y4, z4⟩, st4⟩ := Jvm.LawKit.callS X0 hx (y := (⟨"com/example/proof_keep/proofkeep/eval/BooleanValue", "of", "(Z)Lcom/example/proof_keep/proofkeep/eval/BooleanValue;"⟩ : MethodName)) hown (mvT hZ (oW hw 0 rfl)) (mvT hZ (oW hw 1 rfl)) (mvT hZ (oW hw 2 rfl)) (mvT hZ (oW hw 3 rfl)) (by decide) (backOf (W := 0) (rm_of l Z a0 hw [] (0 : Int32) w_FALSE w_TRUE w_FALSE h0 n0 OL s_FALSE s_TRUE (by simp)) hZ (oW hw 3 rfl) (oW hw 2 rfl) (by decide) (by decide)) (g := (mkF m 13 #[oI p1, oI 0, oU, oU] [oi 0])) rfl (by rw [hml]; rfl) (argsL := [(.int (0 : Int32))]) (rest := []) (lenOf pd__Z_Lcom_example_proof_keep_proofkeep_eval_BooleanValue_ rfl) rfl (by show 2 * 0 + _ ≤ _; exact Nat.le_of_eq rfl) (hb hby at_13) (fun _ _ => ⟨rfl, e0, (by decide : 0 + 0 ≤ _), (by decide : 0 + 0 ≤ _)⟩)
    dsimp only [Pt.U, Pt.locs, Pt.cells, Pt.slots] at X4 l4 y4 z4 st4 hQ4
    subst l4 y4 z4
    obtain ⟨rfl, N4q, e4⟩ := hQ4
    have N4 := Fr.app N0 N4q
    have pre5 : oL p e below T4 (mkF m 26 #[oI p1, oI 0, oR w_FALSE, oU] [oi 1]) s₁ (entryFrame m #[(.int p1)] maxLocals) := fun t k => pre3 t (by
      refine st4 _ ?_
      show oS p e below T4 (mkF m 16 #[oI p1, oI 0, oU, oU] [ow w_FALSE]) _
      refine XS.astoreN X4.here hx rfl (hb hby at_16) rfl rfl (l' := #[oI p1, oI 0, oR w_FALSE, oU]) rfl ?_
      refine XS.iloadN X4.here hx rfl (hb hby at_17) rfl ?_
      refine XS.ifNo X4.here hx rfl (hb hby at_18) rfl ((if0 _ _).trans (teq (by decide : (0 : Int32) = (0 : Int32))).2) ?_
      refine XS.iconst X4.here hx rfl (hb hby at_21) ?_
      show oS p e below T4 (mkF m 22 #[oI p1, oI 0, oR w_FALSE, oU] [oi 1]) _
      refine XS.goto X4.here hx rfl (pc0 := 22) (pc' := 26) rfl (hb hby at_22) (by decide) (by decide) ?_
      exact k)
    obtain ⟨_, _, ⟨T6, L6, k6, n6⟩, -, X6, ⟨Lc6, hQ6, l6, y6, z6⟩, st6⟩ := Jvm.LawKit.callS X4 hx (y := (⟨"com/example/proof_keep/proofkeep/eval/BooleanValue", "of", "(Z)Lcom/example/proof_keep/proofkeep/eval/BooleanValue;"⟩ : MethodName)) hown (mvT hZ (oW hw 0 rfl)) (mvT hZ (oW hw 1 rfl)) (mvT hZ (oW hw 2 rfl)) (mvT hZ (oW hw 3 rfl)) (by decide) (backOf (W := 0) (rm_of l Z a0 hw [] (1 : Int32) w_FALSE w_TRUE w_TRUE h0 n0 OL s_FALSE s_TRUE (by simp)) hZ (oW hw 3 rfl) (oW hw 2 rfl) (by decide) (by decide)) (g := (mkF m 26 #[oI p1, oI 0, oR w_FALSE, oU] [oi 1])) rfl (by rw [hml]; rfl) (argsL := [(.int (1 : Int32))]) (rest := []) (lenOf pd__Z_Lcom_example_proof_keep_proofkeep_eval_BooleanValue_ rfl) rfl (by show 2 * 0 + _ ≤ _; exact Nat.le_of_eq rfl) (hb hby at_26) (fun _ _ => ⟨rfl, e4, (by decide : 0 + 0 ≤ _), (by decide : 0 + 0 ≤ _)⟩)
    dsimp only [Pt.U, Pt.locs, Pt.cells, Pt.slots] at X6 l6 y6 z6 st6 hQ6
    subst l6 y6 z6
    obtain ⟨rfl, N6q, e6⟩ := hQ6
    have N6 := Fr.app N4 N6q
    have pre7 : oL p e below T6 (mkF m 41 #[oI p1, oI 0, oR w_FALSE, oR w_TRUE] [ow w_FALSE]) s₁ (entryFrame m #[(.int p1)] maxLocals) := fun t k => pre5 t (by
      refine st6 _ ?_
      refine XS.astoreN X6.here hx rfl (hb hby at_29) rfl rfl (l' := #[oI p1, oI 0, oR w_FALSE, oR w_TRUE]) rfl ?_
      refine XS.aloadN X6.here hx rfl (hb hby at_30) rfl rfl ?_
      show oS p e below T6 (mkF m 31 #[oI p1, oI 0, oR w_FALSE, oR w_TRUE] [ow w_FALSE]) _
      refine XS.ifnullNo X6.here hx rfl (hb hby at_31) rfl ?_
      refine XS.aloadN X6.here hx rfl (hb hby at_34) rfl rfl ?_
      refine XS.ifnonnullYes X6.here hx rfl (pc0 := 35) (pc' := 40) rfl (hb hby at_35) rfl (by decide) (by decide) ?_
      refine XS.aloadN X6.here hx rfl (hb hby at_40) rfl rfl ?_
      show oS p e below T6 (mkF m 41 #[oI p1, oI 0, oR w_FALSE, oR w_TRUE] [ow w_FALSE]) _
      exact k)
    obtain ⟨cq8, kq8, q8a, q8b, q8c⟩ := isOf hZ e6 (e_FALSE.ext OL.2)
    obtain ⟨_, _, ⟨T8, L8, k8, n8⟩, -, X8, ⟨Lc8, hQ8, l8, y8, z8⟩, st8⟩ := X6.virtualBack hx (y := (⟨"com/example/proof_keep/proofkeep/eval/BooleanValue", "getValue", "()Z"⟩ : MethodName)) (z := (⟨"com/example/proof_keep/proofkeep/eval/BooleanValue", "getValue", "()Z"⟩ : MethodName)) hown (mvT hZ (oW hw 8 rfl)) (mvT hZ (oW hw 9 rfl)) (notFace_of_selects (args := #[]) (mvT hZ (oW hw 11 rfl))) (mvT hZ (oW hw 11 rfl)) (mvT hZ (oW hw 10 rfl)) (by decide) (backOf (W := 0) (rm_get l Z a0 hw [] w_FALSE 0 h0 n0 OL f_FALSE (by decide)) hZ (oW hw 12 rfl) (oW hw 2 rfl) (by decide) (by decide)) q8a q8c (g := (mkF m 41 #[oI p1, oI 0, oR w_FALSE, oR w_TRUE] [ow w_FALSE])) rfl (by rw [hml]; rfl) (Steps.refl _) (argsL := []) (rest := []) (lenOf pd___Z rfl) rfl (by show 2 * 0 + _ ≤ _; exact Nat.le_of_eq rfl) (hb hby at_41) (fun _ _ => ⟨rfl, e6, (by decide : 0 + 0 ≤ _), (by decide : 0 + 0 ≤ _)⟩)
    dsimp only [Pt.U, Pt.locs, Pt.cells, Pt.slots] at X8 l8 y8 z8 st8 hQ8
    subst l8 y8 z8
    obtain ⟨rfl, N8q, e8⟩ := hQ8
    have N8 := Fr.app N6 N8q
    have pre9 : oL p e below T8 (mkF m 49 #[oI p1, oI 0, oR w_FALSE, oR w_TRUE] [ow w_TRUE]) s₁ (entryFrame m #[(.int p1)] maxLocals) := fun t k => pre7 t (by
      refine st8.trans ?_
      refine XS.iloadN X8.here hx rfl (hb hby at_44) rfl ?_
      refine XS.icmpNo X8.here hx rfl (hb hby at_45) rfl (teq (by decide : (0 : Int32) = (0 : Int32))).2 ?_
      refine XS.aloadN X8.here hx rfl (hb hby at_48) rfl rfl ?_
      show oS p e below T8 (mkF m 49 #[oI p1, oI 0, oR w_FALSE, oR w_TRUE] [ow w_TRUE]) _
      exact k)
    obtain ⟨cq10, kq10, q10a, q10b, q10c⟩ := isOf hZ e8 (e_TRUE.ext OL.2)
    obtain ⟨_, _, ⟨T10, L10, k10, n10⟩, -, X10, ⟨Lc10, hQ10, l10, y10, z10⟩, st10⟩ := X8.virtualBack hx (y := (⟨"com/example/proof_keep/proofkeep/eval/BooleanValue", "getValue", "()Z"⟩ : MethodName)) (z := (⟨"com/example/proof_keep/proofkeep/eval/BooleanValue", "getValue", "()Z"⟩ : MethodName)) hown (mvT hZ (oW hw 8 rfl)) (mvT hZ (oW hw 9 rfl)) (notFace_of_selects (args := #[]) (mvT hZ (oW hw 11 rfl))) (mvT hZ (oW hw 11 rfl)) (mvT hZ (oW hw 10 rfl)) (by decide) (backOf (W := 0) (rm_get l Z a0 hw [] w_TRUE 1 h0 n0 OL f_TRUE (by decide)) hZ (oW hw 12 rfl) (oW hw 2 rfl) (by decide) (by decide)) q10a q10c (g := (mkF m 49 #[oI p1, oI 0, oR w_FALSE, oR w_TRUE] [ow w_TRUE])) rfl (by rw [hml]; rfl) (Steps.refl _) (argsL := []) (rest := []) (lenOf pd___Z rfl) rfl (by show 2 * 0 + _ ≤ _; exact Nat.le_of_eq rfl) (hb hby at_49) (fun _ _ => ⟨rfl, e8, (by decide : 0 + 0 ≤ _), (by decide : 0 + 0 ≤ _)⟩)
    dsimp only [Pt.U, Pt.locs, Pt.cells, Pt.slots] at X10 l10 y10 z10 st10 hQ10
    subst l10 y10 z10
    obtain ⟨rfl, N10q, e10⟩ := hQ10
    have N10 := Fr.app N8 N10q
    have pre11 : oL p e below T10 (mkF m 83 #[oI p1, oI 0, oR w_FALSE, oR w_TRUE] [ow w_FALSE]) s₁ (entryFrame m #[(.int p1)] maxLocals) := fun t k => pre9 t (by
      refine st10.trans ?_
      refine XS.iloadN X10.here hx rfl (hb hby at_52) rfl ?_
      refine XS.icmpYes X10.here hx rfl (pc0 := 53) (pc' := 58) rfl (hb hby at_53) rfl (feq (by decide : ¬ ((1 : Int32) = (0 : Int32)))).2 (by decide) (by decide) ?_
      refine XS.iloadN X10.here hx rfl (hb hby at_58) rfl ?_
      show oS p e below T10 (mkF m 59 #[oI p1, oI 0, oR w_FALSE, oR w_TRUE] [oi 0]) _
      refine XS.ifYes X10.here hx rfl (pc0 := 59) (pc' := 82) rfl (hb hby at_59) rfl ((if0 _ _).trans (teq (by decide : (0 : Int32) = (0 : Int32))).1) (by decide) (by decide) ?_
      refine XS.aloadN X10.here hx rfl (hb hby at_82) rfl rfl ?_
      exact k)
    obtain ⟨T12, X12, e12, st12⟩ := getS2 X10 hx hZ hown (host := "") (Or.inl (oW hw 15 rfl)) Via.refl e10 (s_FALSE.ext OL.2) (g := (mkF m 83 #[oI p1, oI 0, oR w_FALSE, oR w_TRUE] [ow w_FALSE])) rfl (hb hby at_83)
    have pre13 : oL p e below T12 (mkF m 90 #[oI p1, oI 0, oR w_FALSE, oR w_TRUE] [ow w_TRUE]) s₁ (entryFrame m #[(.int p1)] maxLocals) := fun t k => pre11 t (by
      refine st12 _ ?_
      refine Jvm.RoadKit.acmp (g := (mkF m 86 #[oI p1, oI 0, oR w_FALSE, oR w_TRUE] [ow w_FALSE, ow w_FALSE])) X12 hx rfl rfl rfl (pc0 := 86) (pc' := 89) (same := true) rfl (hb hby at_86) rfl (decide_eq_true rfl) (by decide) (by decide) ?_
      show oS p e below T12 (mkF m 89 #[oI p1, oI 0, oR w_FALSE, oR w_TRUE] []) _
      refine XS.aloadN X12.here hx rfl (hb hby at_89) rfl rfl ?_
      exact k)
    obtain ⟨T14, X14, e14, st14⟩ := getS2 X12 hx hZ hown (host := "") (Or.inl (oW hw 16 rfl)) Via.refl e12 (s_TRUE.ext OL.2) (g := (mkF m 90 #[oI p1, oI 0, oR w_FALSE, oR w_TRUE] [ow w_TRUE])) rfl (hb hby at_90)
    have pre15 : oL p e below T14 (mkF m 101 #[oI p1, oI 0, oR w_FALSE, oR w_TRUE] [oi 1]) s₁ (entryFrame m #[(.int p1)] maxLocals) := fun t k => pre13 t (by
      refine st14 _ ?_
      refine Jvm.RoadKit.acmp (g := (mkF m 93 #[oI p1, oI 0, oR w_FALSE, oR w_TRUE] [ow w_TRUE, ow w_TRUE])) X14 hx rfl rfl rfl (pc0 := 93) (pc' := 96) (same := true) rfl (hb hby at_93) rfl (decide_eq_true rfl) (by decide) (by decide) ?_
      refine XS.iconst X14.here hx rfl (hb hby at_96) ?_
      show oS p e below T14 (mkF m 97 #[oI p1, oI 0, oR w_FALSE, oR w_TRUE] [oi 1]) _
      refine XS.goto X14.here hx rfl (pc0 := 97) (pc' := 101) rfl (hb hby at_97) (by decide) (by decide) ?_
      exact k)
    obtain ⟨fs, hr, hrun, hended, hW, hsame⟩ := X14.leave (v := some (.int (1 : Int32))) (fun h => by rw [Bd.returns] at h; cases h)
    refine ⟨_, _, pre15 _ ?_, hrun, hended, _, _, rfl, ?_, ⟨_, rfl⟩, hW, hsame.mono (by decide) (by decide)⟩
    ·
      show oS p e below T14 (mkF m 101 #[oI p1, oI 0, oR w_FALSE, oR w_TRUE] [oi 1]) _
      exact retN X14 hx (t := .boolean) Bd.returns (by simp) (hb hby at_101) hr
    ·
      show Q_rm0 Z p1 w_FALSE w_TRUE h0 n0 _ T14.heap _
      rw [e14]
      exact ⟨rfl, N10⟩
  ·
    have pre16 : oL p e below s₁ (mkF m 13 #[oI p1, oI 1, oU, oU] [oi 1]) s₁ (entryFrame m #[(.int p1)] maxLocals) := fun t k => pre1 t (by
      refine XS.ifNo X0.here hx rfl (hb hby at_3) rfl ((if0 _ _).trans (feq hc2).1) ?_
      show oS p e below s₁ (mkF m 6 #[oI p1, oU, oU, oU] []) _
      refine XS.iconst X0.here hx rfl (hb hby at_6) ?_
      refine XS.goto X0.here hx rfl (pc0 := 7) (pc' := 11) rfl (hb hby at_7) (by decide) (by decide) ?_
      refine XS.istoreN X0.here hx rfl (hb hby at_11) rfl (l' := #[oI p1, oI 1, oU, oU]) rfl ?_
      refine XS.iloadN X0.here hx rfl (hb hby at_12) rfl ?_
      show oS p e below s₁ (mkF m 13 #[oI p1, oI 1, oU, oU] [oi 1]) _
      exact k)
    obtain ⟨_, _, ⟨T17, L17, k17, n17⟩, -, X17, ⟨Lc17, hQ17, l17, y17, z17⟩, st17⟩ := Jvm.LawKit.callS X0 hx (y := (⟨"com/example/proof_keep/proofkeep/eval/BooleanValue", "of", "(Z)Lcom/example/proof_keep/proofkeep/eval/BooleanValue;"⟩ : MethodName)) hown (mvT hZ (oW hw 0 rfl)) (mvT hZ (oW hw 1 rfl)) (mvT hZ (oW hw 2 rfl)) (mvT hZ (oW hw 3 rfl)) (by decide) (backOf (W := 0) (rm_of l Z a0 hw [] (1 : Int32) w_FALSE w_TRUE w_TRUE h0 n0 OL s_FALSE s_TRUE (by simp)) hZ (oW hw 3 rfl) (oW hw 2 rfl) (by decide) (by decide)) (g := (mkF m 13 #[oI p1, oI 1, oU, oU] [oi 1])) rfl (by rw [hml]; rfl) (argsL := [(.int (1 : Int32))]) (rest := []) (lenOf pd__Z_Lcom_example_proof_keep_proofkeep_eval_BooleanValue_ rfl) rfl (by show 2 * 0 + _ ≤ _; exact Nat.le_of_eq rfl) (hb hby at_13) (fun _ _ => ⟨rfl, e0, (by decide : 0 + 0 ≤ _), (by decide : 0 + 0 ≤ _)⟩)
    dsimp only [Pt.U, Pt.locs, Pt.cells, Pt.slots] at X17 l17 y17 z17 st17 hQ17
    subst l17 y17 z17
    obtain ⟨rfl, N17q, e17⟩ := hQ17
    have N17 := Fr.app N0 N17q
    have pre18 : oL p e below T17 (mkF m 26 #[oI p1, oI 1, oR w_TRUE, oU] [oi 0]) s₁ (entryFrame m #[(.int p1)] maxLocals) := fun t k => pre16 t (by
      refine st17 _ ?_
      refine XS.astoreN X17.here hx rfl (hb hby at_16) rfl rfl (l' := #[oI p1, oI 1, oR w_TRUE, oU]) rfl ?_
      refine XS.iloadN X17.here hx rfl (hb hby at_17) rfl ?_
      refine XS.ifYes X17.here hx rfl (pc0 := 18) (pc' := 25) rfl (hb hby at_18) rfl ((if0 _ _).trans (feq (by decide : ¬ ((1 : Int32) = (0 : Int32)))).2) (by decide) (by decide) ?_
      show oS p e below T17 (mkF m 25 #[oI p1, oI 1, oR w_TRUE, oU] []) _
      refine XS.iconst X17.here hx rfl (hb hby at_25) ?_
      exact k)
    obtain ⟨_, _, ⟨T19, L19, k19, n19⟩, -, X19, ⟨Lc19, hQ19, l19, y19, z19⟩, st19⟩ := Jvm.LawKit.callS X17 hx (y := (⟨"com/example/proof_keep/proofkeep/eval/BooleanValue", "of", "(Z)Lcom/example/proof_keep/proofkeep/eval/BooleanValue;"⟩ : MethodName)) hown (mvT hZ (oW hw 0 rfl)) (mvT hZ (oW hw 1 rfl)) (mvT hZ (oW hw 2 rfl)) (mvT hZ (oW hw 3 rfl)) (by decide) (backOf (W := 0) (rm_of l Z a0 hw [] (0 : Int32) w_FALSE w_TRUE w_FALSE h0 n0 OL s_FALSE s_TRUE (by simp)) hZ (oW hw 3 rfl) (oW hw 2 rfl) (by decide) (by decide)) (g := (mkF m 26 #[oI p1, oI 1, oR w_TRUE, oU] [oi 0])) rfl (by rw [hml]; rfl) (argsL := [(.int (0 : Int32))]) (rest := []) (lenOf pd__Z_Lcom_example_proof_keep_proofkeep_eval_BooleanValue_ rfl) rfl (by show 2 * 0 + _ ≤ _; exact Nat.le_of_eq rfl) (hb hby at_26) (fun _ _ => ⟨rfl, e17, (by decide : 0 + 0 ≤ _), (by decide : 0 + 0 ≤ _)⟩)
    dsimp only [Pt.U, Pt.locs, Pt.cells, Pt.slots] at X19 l19 y19 z19 st19 hQ19
    subst l19 y19 z19
    obtain ⟨rfl, N19q, e19⟩ := hQ19
    have N19 := Fr.app N17 N19q
    have pre20 : oL p e below T19 (mkF m 41 #[oI p1, oI 1, oR w_TRUE, oR w_FALSE] [ow w_TRUE]) s₁ (entryFrame m #[(.int p1)] maxLocals) := fun t k => pre18 t (by
      refine st19 _ ?_
      refine XS.astoreN X19.here hx rfl (hb hby at_29) rfl rfl (l' := #[oI p1, oI 1, oR w_TRUE, oR w_FALSE]) rfl ?_
      refine XS.aloadN X19.here hx rfl (hb hby at_30) rfl rfl ?_
      show oS p e below T19 (mkF m 31 #[oI p1, oI 1, oR w_TRUE, oR w_FALSE] [ow w_TRUE]) _
      refine XS.ifnullNo X19.here hx rfl (hb hby at_31) rfl ?_
      refine XS.aloadN X19.here hx rfl (hb hby at_34) rfl rfl ?_
      refine XS.ifnonnullYes X19.here hx rfl (pc0 := 35) (pc' := 40) rfl (hb hby at_35) rfl (by decide) (by decide) ?_
      refine XS.aloadN X19.here hx rfl (hb hby at_40) rfl rfl ?_
      show oS p e below T19 (mkF m 41 #[oI p1, oI 1, oR w_TRUE, oR w_FALSE] [ow w_TRUE]) _
      exact k)
    obtain ⟨cq21, kq21, q21a, q21b, q21c⟩ := isOf hZ e19 (e_TRUE.ext OL.2)
    obtain ⟨_, _, ⟨T21, L21, k21, n21⟩, -, X21, ⟨Lc21, hQ21, l21, y21, z21⟩, st21⟩ := X19.virtualBack hx (y := (⟨"com/example/proof_keep/proofkeep/eval/BooleanValue", "getValue", "()Z"⟩ : MethodName)) (z := (⟨"com/example/proof_keep/proofkeep/eval/BooleanValue", "getValue", "()Z"⟩ : MethodName)) hown (mvT hZ (oW hw 8 rfl)) (mvT hZ (oW hw 9 rfl)) (notFace_of_selects (args := #[]) (mvT hZ (oW hw 11 rfl))) (mvT hZ (oW hw 11 rfl)) (mvT hZ (oW hw 10 rfl)) (by decide) (backOf (W := 0) (rm_get l Z a0 hw [] w_TRUE 1 h0 n0 OL f_TRUE (by decide)) hZ (oW hw 12 rfl) (oW hw 2 rfl) (by decide) (by decide)) q21a q21c (g := (mkF m 41 #[oI p1, oI 1, oR w_TRUE, oR w_FALSE] [ow w_TRUE])) rfl (by rw [hml]; rfl) (Steps.refl _) (argsL := []) (rest := []) (lenOf pd___Z rfl) rfl (by show 2 * 0 + _ ≤ _; exact Nat.le_of_eq rfl) (hb hby at_41) (fun _ _ => ⟨rfl, e19, (by decide : 0 + 0 ≤ _), (by decide : 0 + 0 ≤ _)⟩)
    dsimp only [Pt.U, Pt.locs, Pt.cells, Pt.slots] at X21 l21 y21 z21 st21 hQ21
    subst l21 y21 z21
    obtain ⟨rfl, N21q, e21⟩ := hQ21
    have N21 := Fr.app N19 N21q
    have pre22 : oL p e below T21 (mkF m 49 #[oI p1, oI 1, oR w_TRUE, oR w_FALSE] [ow w_FALSE]) s₁ (entryFrame m #[(.int p1)] maxLocals) := fun t k => pre20 t (by
      refine st21.trans ?_
      refine XS.iloadN X21.here hx rfl (hb hby at_44) rfl ?_
      refine XS.icmpNo X21.here hx rfl (hb hby at_45) rfl (teq (by decide : (1 : Int32) = (1 : Int32))).2 ?_
      refine XS.aloadN X21.here hx rfl (hb hby at_48) rfl rfl ?_
      show oS p e below T21 (mkF m 49 #[oI p1, oI 1, oR w_TRUE, oR w_FALSE] [ow w_FALSE]) _
      exact k)
    obtain ⟨cq23, kq23, q23a, q23b, q23c⟩ := isOf hZ e21 (e_FALSE.ext OL.2)
    obtain ⟨_, _, ⟨T23, L23, k23, n23⟩, -, X23, ⟨Lc23, hQ23, l23, y23, z23⟩, st23⟩ := X21.virtualBack hx (y := (⟨"com/example/proof_keep/proofkeep/eval/BooleanValue", "getValue", "()Z"⟩ : MethodName)) (z := (⟨"com/example/proof_keep/proofkeep/eval/BooleanValue", "getValue", "()Z"⟩ : MethodName)) hown (mvT hZ (oW hw 8 rfl)) (mvT hZ (oW hw 9 rfl)) (notFace_of_selects (args := #[]) (mvT hZ (oW hw 11 rfl))) (mvT hZ (oW hw 11 rfl)) (mvT hZ (oW hw 10 rfl)) (by decide) (backOf (W := 0) (rm_get l Z a0 hw [] w_FALSE 0 h0 n0 OL f_FALSE (by decide)) hZ (oW hw 12 rfl) (oW hw 2 rfl) (by decide) (by decide)) q23a q23c (g := (mkF m 49 #[oI p1, oI 1, oR w_TRUE, oR w_FALSE] [ow w_FALSE])) rfl (by rw [hml]; rfl) (Steps.refl _) (argsL := []) (rest := []) (lenOf pd___Z rfl) rfl (by show 2 * 0 + _ ≤ _; exact Nat.le_of_eq rfl) (hb hby at_49) (fun _ _ => ⟨rfl, e21, (by decide : 0 + 0 ≤ _), (by decide : 0 + 0 ≤ _)⟩)
    dsimp only [Pt.U, Pt.locs, Pt.cells, Pt.slots] at X23 l23 y23 z23 st23 hQ23
    subst l23 y23 z23
    obtain ⟨rfl, N23q, e23⟩ := hQ23
    have N23 := Fr.app N21 N23q
    have pre24 : oL p e below T23 (mkF m 63 #[oI p1, oI 1, oR w_TRUE, oR w_FALSE] [ow w_TRUE]) s₁ (entryFrame m #[(.int p1)] maxLocals) := fun t k => pre22 t (by
      refine st23.trans ?_
      refine XS.iloadN X23.here hx rfl (hb hby at_52) rfl ?_
      refine XS.icmpYes X23.here hx rfl (pc0 := 53) (pc' := 58) rfl (hb hby at_53) rfl (feq (by decide : ¬ ((0 : Int32) = (1 : Int32)))).2 (by decide) (by decide) ?_
      refine XS.iloadN X23.here hx rfl (hb hby at_58) rfl ?_
      show oS p e below T23 (mkF m 59 #[oI p1, oI 1, oR w_TRUE, oR w_FALSE] [oi 1]) _
      refine XS.ifNo X23.here hx rfl (hb hby at_59) rfl ((if0 _ _).trans (feq (by decide : ¬ ((1 : Int32) = (0 : Int32)))).1) ?_
      refine XS.aloadN X23.here hx rfl (hb hby at_62) rfl rfl ?_
      exact k)
    obtain ⟨T25, X25, e25, st25⟩ := getS2 X23 hx hZ hown (host := "") (Or.inl (oW hw 16 rfl)) Via.refl e23 (s_TRUE.ext OL.2) (g := (mkF m 63 #[oI p1, oI 1, oR w_TRUE, oR w_FALSE] [ow w_TRUE])) rfl (hb hby at_63)
    have pre26 : oL p e below T25 (mkF m 70 #[oI p1, oI 1, oR w_TRUE, oR w_FALSE] [ow w_FALSE]) s₁ (entryFrame m #[(.int p1)] maxLocals) := fun t k => pre24 t (by
      refine st25 _ ?_
      refine Jvm.RoadKit.acmp (g := (mkF m 66 #[oI p1, oI 1, oR w_TRUE, oR w_FALSE] [ow w_TRUE, ow w_TRUE])) X25 hx rfl rfl rfl (pc0 := 66) (pc' := 69) (same := true) rfl (hb hby at_66) rfl (decide_eq_true rfl) (by decide) (by decide) ?_
      show oS p e below T25 (mkF m 69 #[oI p1, oI 1, oR w_TRUE, oR w_FALSE] []) _
      refine XS.aloadN X25.here hx rfl (hb hby at_69) rfl rfl ?_
      exact k)
    obtain ⟨T27, X27, e27, st27⟩ := getS2 X25 hx hZ hown (host := "") (Or.inl (oW hw 15 rfl)) Via.refl e25 (s_FALSE.ext OL.2) (g := (mkF m 70 #[oI p1, oI 1, oR w_TRUE, oR w_FALSE] [ow w_FALSE])) rfl (hb hby at_70)
    have pre28 : oL p e below T27 (mkF m 81 #[oI p1, oI 1, oR w_TRUE, oR w_FALSE] [oi 1]) s₁ (entryFrame m #[(.int p1)] maxLocals) := fun t k => pre26 t (by
      refine st27 _ ?_
      refine Jvm.RoadKit.acmp (g := (mkF m 73 #[oI p1, oI 1, oR w_TRUE, oR w_FALSE] [ow w_FALSE, ow w_FALSE])) X27 hx rfl rfl rfl (pc0 := 73) (pc' := 76) (same := true) rfl (hb hby at_73) rfl (decide_eq_true rfl) (by decide) (by decide) ?_
      refine XS.iconst X27.here hx rfl (hb hby at_76) ?_
      show oS p e below T27 (mkF m 77 #[oI p1, oI 1, oR w_TRUE, oR w_FALSE] [oi 1]) _
      refine XS.goto X27.here hx rfl (pc0 := 77) (pc' := 81) rfl (hb hby at_77) (by decide) (by decide) ?_
      exact k)
    obtain ⟨fs, hr, hrun, hended, hW, hsame⟩ := X27.leave (v := some (.int (1 : Int32))) (fun h => by rw [Bd.returns] at h; cases h)
    refine ⟨_, _, pre28 _ ?_, hrun, hended, _, _, rfl, ?_, ⟨_, rfl⟩, hW, hsame.mono (by decide) (by decide)⟩
    ·
      show oS p e below T27 (mkF m 81 #[oI p1, oI 1, oR w_TRUE, oR w_FALSE] [oi 1]) _
      exact retN X27 hx (t := .boolean) Bd.returns (by simp) (hb hby at_81) hr
    ·
      show Q_rm0 Z p1 w_FALSE w_TRUE h0 n0 _ T27.heap _
      rw [e27]
      exact ⟨rfl, N23⟩
set_option maxRecDepth 65536 in
set_option maxHeartbeats 40000000 in
theorem comes_1 {Post : Tables → Env → Array Value → State → Outcome → State → Prop} (hpost : ∀ tb e args s v u, (limb_1_1.after args s (.returned v) u = true ∧ limb_1_2.after args s (.returned v) u = true ∧ True) → FrameEnd s (.returned v) u (Jvm.fieldLocs frame_1_writes args s ++ Jvm.arrayLocs frame_1_arrays args s ++ Jvm.staticLocs frame_1_statics s) 0 0 → Post tb e args s (.returned v) u) :
    ArmFor flags0 classFile x code maxLocals ret World_1 tables_1 room_1 Calls_1 rest_1 Pre_1 Post := by
  intro l hfl _ _ p e ha hc hk s m args below hf hA hF happ hP
  obtain ⟨hcalls, hrest, hpre⟩ := hP
  obtain ⟨-, -, -, hnamed, -, -, -, hat⟩ := (Spec.applies_iff hf).mp happ
  obtain ⟨hg, hn⟩ := and_e (Cond.before_iff.mp (show (Jvm.Cond.and given_1 narrow_1).before args s = true from hpre))
  obtain ⟨hgl, hgr⟩ := and_e hg
  obtain ⟨w0, rfl⟩ : ∃ w0 : Value, args = #[w0] := by
    have hs : args.size = 1 := by simpa [Cond.value, given_1] using hgl
    obtain ⟨L⟩ := args
    match L, hs with
    | [w0], _ => exact ⟨w0, rfl⟩
  have hw := fun d (hd : d ∈ tables_1) => atoms_spec (ws := Jvm.Cond.code x code maxLocals ret :: tables_1) hat d (List.mem_cons_of_mem _ hd)
  have hfit : Fit s := fun {y c} hc i hi => by
    obtain ⟨ha, rfl⟩ := Array.getElem?_eq_some_iff.mp hc
    have q := List.all_eq_true.mp ((Array.all_eq_true_iff_forall_mem.mp hF) _ (Array.getElem_mem ha)) i (List.mem_range.mpr hi)
    simpa [Array.getElem?_eq_getElem hi] using q
  obtain ⟨i0, ei0⟩ := is_v hgr
  obtain rfl : w0 = (.int i0) := Option.some.inj ei0
  obtain ⟨hnl, hnr⟩ := and_e hn
  obtain ⟨v_FALSE, ev_FALSE⟩ := exa_v hnl
  have st_FALSE := Sta.start ev_FALSE (Or.inr ⟨(oW hw 2 rfl), (oW hw 5 rfl)⟩)
  have ex_FALSE := Exa.start ev_FALSE hnl
  obtain ⟨hnrl, hnrr⟩ := and_e hnr
  obtain ⟨v_TRUE, ev_TRUE⟩ := exa_v hnrl
  have st_TRUE := Sta.start ev_TRUE (Or.inr ⟨(oW hw 2 rfl), (oW hw 7 rfl)⟩)
  have ex_TRUE := Exa.start ev_TRUE hnrl
  obtain ⟨hnrrl, hnrrr⟩ := and_e hnrr
  have of_FALSE_value := own_fldI ev_FALSE hnrrl
  have of_TRUE_value := own_fldI ev_TRUE hnrrr
  obtain ⟨n, o, h1, h2, h3, _, L, rfl, ⟨rfl, N⟩, hq⟩ := rm0 l s _ hw tables_1 i0 v_FALSE v_TRUE s.heap s.heap.size (Old.start s) st_FALSE st_TRUE ex_FALSE ex_TRUE of_FALSE_value of_TRUE_value p e ha hc hk s m _ below hf ((Spec.applies_iff_loose hf).mp happ).1 ⟨rfl, State.Warmed39.refl s, rfl⟩ trivial
  refine ⟨n, _, h1, h2, h3, hpost _ _ _ _ _ _ ⟨Cond.after_iff.mpr rfl, Cond.after_iff.mpr (eq_i res_at (Term.int_eval (1)) rfl), trivial⟩ ⟨hq.1, hq.2.1, (hq.2.2.sift fun y hy => Or.inr (N y hy)).mono (by decide) (by decide)⟩⟩
theorem main_1_1 : Claimed_1_1 := comes_1 fun _ _ _ _ _ _ h hF => ⟨h.1, hF⟩
theorem main_1_2 : Claimed_1_2 := comes_1 fun _ _ _ _ _ _ h hF => ⟨h.2.1, hF⟩
end Jvm.Pilot.@@N@@
namespace Jvm.Pilot.@@N@@
open Jvm Jvm.ClassFile Sem Op Lib Jvm.Free Jvm.Stand Jvm.Pilot.@@N@@.Jvm.D
/-! MADE BY PROGRAM (witnessworld.py) out of the Statement's table words and the real class files: 10 classes; the members and pool entries that the words name. The judged class is class 1, her method 1. -/
namespace start1
open Jvm.ClassFile
def u (s : String) : CpInfo := .utf8 (stringToUtf16 s)
/-- a pool by its gaps: so many unusable entries, then the entry; so many at the end -/
def gap : Nat → List CpInfo → List CpInfo
  | 0, r => r
  | n + 1, r => .unusable :: gap n r
def poolList (es : List (Nat × CpInfo)) (last : Nat) : List CpInfo := es.foldr (fun e r => gap e.1 (e.2 :: r)) (gap last [])
def pool (es : List (Nat × CpInfo)) (last : Nat) : Array CpInfo := ⟨poolList es last⟩
def fileOf (pool : Array CpInfo) (this : Nat) (attrs : Array Attribute := #[]) (ms : Array MethodInfo := #[]) (fl : Nat := 33) (sup : Nat := 0) (ifs : Array Nat := #[]) (fds : Array FieldInfo := #[]) : ClassFile where
  minorVersion := 0
  majorVersion := 65
  constantPool := pool
  accessFlags := fl
  thisClass := this
  superClass := sup
  interfaces := ifs
  fields := fds
  methods := ms
  attributes := attrs
def plain (name : String) (sup : Option ClassId) : Class where
  name := name
  kind := .ordinary
  loader := none
  accessFlags := 33
  super := sup
  interfaces := #[]
  cf := none
  fields := #[]
  methods := #[]
  instanceTypes := #[]
  staticTypes := #[]
  resolved := #[]
  callSites := []
  init := .initialized
  statics := none
  mirror := none

def pool0 : Array CpInfo := pool [(5, u "<init>"), (0, u "()V"), (1, .class_ 10), (1, u "java/lang/Object")] 113

def k0m0 : Method := { name := "<init>", desc := "()V", sig := { parameters := [], returnType := none }, accessFlags := 1, code := none }
/-- java/lang/Object -/
def k0 : Class := { plain "java/lang/Object" none with
  accessFlags := 33
  interfaces := #[]
  cf := some (fileOf pool0 8 #[] #[{ accessFlags := 1, nameIndex := 5, descriptorIndex := 6, attributes := #[] }] 33 0 #[] #[])
  fields := #[]
  methods := #[k0m0]
  instanceTypes := #[]
  staticTypes := #[]
  resolved := Array.replicate 124 none
  statics := none }

def pool1 : Array CpInfo := pool [(2, .class_ 4), (1, u "java/lang/Object"), (0, u "<init>"), (0, u "()V"), (0, .methodref 8 9), (0, .class_ 10), (0, .nameAndType 11 12), (0, u "com/example/proof_keep/proofkeep/eval/BooleanValue"), (0, u "of"), (0, u "(Z)Lcom/example/proof_keep/proofkeep/eval/BooleanValue;"), (0, .methodref 8 14), (0, .nameAndType 15 16), (0, u "getValue"), (0, u "()Z"), (0, .fieldref 8 18), (0, .nameAndType 19 20), (0, u "TRUE"), (0, u "Lcom/example/proof_keep/proofkeep/eval/BooleanValue;"), (0, .fieldref 8 22), (0, .nameAndType 23 20), (0, u "FALSE"), (0, .class_ 25), (0, u "com/example/proof_keep/proofkeep/eval/BooleanValueOfPinLaw"), (2, u "law"), (0, u "(I)Z")] 3

def k1m0 : Method := { name := "<init>", desc := "()V", sig := { parameters := [], returnType := none }, accessFlags := 1, code := none }
def k1c1 : Code := { maxStack := 2, maxLocals := 4, code := code, exceptionTable := #[], attributes := #[] }
def k1m1 : Method := { name := "law", desc := "(I)Z", sig := { parameters := [.int], returnType := some .boolean }, accessFlags := 9, code := some k1c1 }
/-- com/example/proof_keep/proofkeep/eval/BooleanValueOfPinLaw -/
def k1 : Class := { plain "com/example/proof_keep/proofkeep/eval/BooleanValueOfPinLaw" (some 0) with
  accessFlags := 49
  interfaces := #[]
  cf := some (fileOf pool1 24 #[] #[{ accessFlags := 1, nameIndex := 5, descriptorIndex := 6, attributes := #[] }, { accessFlags := 9, nameIndex := 28, descriptorIndex := 29, attributes := #[] }] 49 2 #[] #[])
  fields := #[]
  methods := #[k1m0, k1m1]
  instanceTypes := #[]
  staticTypes := #[]
  resolved := Array.replicate 33 none
  statics := none }

def pool2 : Array CpInfo := pool [(2, .class_ 4), (1, u "java/lang/Object"), (0, u "<init>"), (0, u "()V"), (0, .class_ 8), (0, u "com/example/proof_keep/proofkeep/eval/Value")] 23

def k2m0 : Method := { name := "<init>", desc := "()V", sig := { parameters := [], returnType := none }, accessFlags := 0, code := none }
/-- com/example/proof_keep/proofkeep/eval/Value -/
def k2 : Class := { plain "com/example/proof_keep/proofkeep/eval/Value" (some 0) with
  accessFlags := 1057
  interfaces := #[]
  cf := some (fileOf pool2 7 #[] #[{ accessFlags := 0, nameIndex := 5, descriptorIndex := 6, attributes := #[] }] 1057 2 #[] #[])
  fields := #[]
  methods := #[k2m0]
  instanceTypes := #[]
  staticTypes := #[]
  resolved := Array.replicate 32 none
  statics := none }

def pool3 : Array CpInfo := pool [(2, .class_ 4), (1, u "com/example/proof_keep/proofkeep/eval/Value"), (2, .fieldref 8 9), (0, .class_ 10), (0, .nameAndType 11 12), (0, u "com/example/proof_keep/proofkeep/eval/BooleanValue"), (0, u "value"), (0, u "Z"), (0, .fieldref 8 14), (0, .nameAndType 15 16), (0, u "TRUE"), (0, u "Lcom/example/proof_keep/proofkeep/eval/BooleanValue;"), (0, .fieldref 8 18), (0, .nameAndType 19 16), (0, u "FALSE"), (15, u "of"), (0, u "(Z)Lcom/example/proof_keep/proofkeep/eval/BooleanValue;"), (1, u "getValue"), (0, u "()Z")] 11

def k3c0 : Code := { maxStack := 1, maxLocals := 1, code := prog_49_method_2_code, exceptionTable := #[], attributes := #[] }
def k3m0 : Method := { name := "of", desc := "(Z)Lcom/example/proof_keep/proofkeep/eval/BooleanValue;", sig := { parameters := [.boolean], returnType := some (.object "com/example/proof_keep/proofkeep/eval/BooleanValue") }, accessFlags := 9, code := some k3c0 }
def k3c1 : Code := { maxStack := 1, maxLocals := 1, code := prog_49_method_3_code, exceptionTable := #[], attributes := #[] }
def k3m1 : Method := { name := "getValue", desc := "()Z", sig := { parameters := [], returnType := some .boolean }, accessFlags := 1, code := some k3c1 }
/-- com/example/proof_keep/proofkeep/eval/BooleanValue -/
def k3 : Class := { plain "com/example/proof_keep/proofkeep/eval/BooleanValue" (some 2) with
  accessFlags := 49
  interfaces := #[]
  cf := some (fileOf pool3 8 #[] #[{ accessFlags := 9, nameIndex := 35, descriptorIndex := 36, attributes := #[] }, { accessFlags := 1, nameIndex := 38, descriptorIndex := 39, attributes := #[] }] 49 2 #[] #[{ accessFlags := 25, nameIndex := 15, descriptorIndex := 16, attributes := #[] }, { accessFlags := 25, nameIndex := 19, descriptorIndex := 16, attributes := #[] }, { accessFlags := 18, nameIndex := 11, descriptorIndex := 12, attributes := #[] }])
  fields := #[{ name := "TRUE", type := (.object "com/example/proof_keep/proofkeep/eval/BooleanValue"), accessFlags := 25, slot := 0, constantValue := 0 }, { name := "FALSE", type := (.object "com/example/proof_keep/proofkeep/eval/BooleanValue"), accessFlags := 25, slot := 1, constantValue := 0 }, { name := "value", type := .boolean, accessFlags := 18, slot := 0, constantValue := 0 }]
  methods := #[k3m0, k3m1]
  instanceTypes := #[.boolean]
  staticTypes := #[(.object "com/example/proof_keep/proofkeep/eval/BooleanValue"), (.object "com/example/proof_keep/proofkeep/eval/BooleanValue")]
  resolved := Array.replicate 51 none
  statics := some 0 }

def pool4 : Array CpInfo := pool [(1, u "java/lang/Cloneable"), (0, .class_ 1), (0, u "java/lang/Object"), (0, .class_ 3)] 3

/-- java/lang/Cloneable -/
def k4 : Class := { plain "java/lang/Cloneable" (some 0) with
  accessFlags := 1537
  interfaces := #[]
  cf := some (fileOf pool4 2 #[] #[] 1537 4 #[] #[])
  fields := #[]
  methods := #[]
  instanceTypes := #[]
  staticTypes := #[]
  resolved := Array.replicate 8 none
  statics := none }

def pool5 : Array CpInfo := pool [(1, u "java/io/Serializable"), (0, .class_ 1), (0, u "java/lang/Object"), (0, .class_ 3)] 3

/-- java/io/Serializable -/
def k5 : Class := { plain "java/io/Serializable" (some 0) with
  accessFlags := 1537
  interfaces := #[]
  cf := some (fileOf pool5 2 #[] #[] 1537 4 #[] #[])
  fields := #[]
  methods := #[]
  instanceTypes := #[]
  staticTypes := #[]
  resolved := Array.replicate 8 none
  statics := none }

/-- the primitive byte -/
def k6 : Class := { plain "byte" none with kind := .primitive 'B', accessFlags := 0x411 }
/-- [B -/
def k7 : Class := { plain "[B" (some 0) with kind := .array 6 .byte, interfaces := #[4, 5], accessFlags := 1041 }

/-- the primitive int -/
def k8 : Class := { plain "int" none with kind := .primitive 'I', accessFlags := 0x411 }
/-- [I -/
def k9 : Class := { plain "[I" (some 0) with kind := .array 8 .int, interfaces := #[4, 5], accessFlags := 1041 }

def heap : Heap := #[{ cls := 3, slots := #[.ref 2, .ref 1], vm := .statics 3 },
  { cls := 3, slots := #[.int 0], vm := .none },
  { cls := 3, slots := #[.int 1], vm := .none }]
def classes : Array Class := #[k0, k1, k2, k3, k4, k5, k6, k7, k8, k9]
def interned : List (Array UInt16 × Addr) := []
def slotsUsed : Nat := 4
def theMethod : MethodId := ⟨1, 1⟩
def args0 : Array Value := #[.int 5]
def aboutOver (below : List Frame) : State where
  vm := { classes := classes, interned := interned.toArray }
  heap := heap
  slotsUsed := slotsUsed
  threads := #[{ frames := .invoking theMethod args0 :: below }]
def below0 : List Frame := [.native { method := ⟨0, 0⟩, args := #[] }]
def about1 : State := aboutOver below0
def p0 : Program := .bare "" "" ""
def e0 : Env := launch0.env 0 0 0
theorem w_frames : about1.frames = Frame.invoking theMethod args0 :: below0 := rfl
set_option maxRecDepth 65536 in
theorem w_args : argsFit about1.vm theMethod args0 = true := by decide +kernel
set_option maxRecDepth 65536 in
theorem w_heap : heapFits about1 = true := by decide +kernel
set_option maxRecDepth 65536 in
theorem w_runnable : about1.curStatus? = some .runnable := by decide +kernel
set_option maxRecDepth 65536 in
theorem w_alone : about1.alone = true := by decide +kernel
set_option maxRecDepth 65536 in
theorem w_named : about1.methodNamed? x = some theMethod := by decide +kernel
set_option maxRecDepth 65536 in
theorem w_hears : about1.hears theMethod below0 = true := by decide +kernel
set_option maxRecDepth 65536 in
theorem w_ripe : about1.ripe theMethod args0 below0 = true := by decide +kernel
theorem w_running : about1.status = .running := rfl
set_option maxRecDepth 65536 in
theorem w_room : about1.hasRoom e0.platform room_1 = true :=
  launch0.hasRoom_least _ room_1 (by decide +kernel) (by decide +kernel) (by decide +kernel) (by decide +kernel) (by decide +kernel) (by decide +kernel)
theorem allAtoms_all (ts : List Jvm.Cond) (a : Array Jvm.Value) (st : Jvm.State) : (allAtoms ts).before a st = ts.all (fun c => c.before a st) := by
  induction ts with
  | nil => rfl
  | cons c t ih =>
    show (Jvm.Cond.and c (allAtoms t)).before a st = _
    rw [Jvm.Cond.before_and, ih, List.all_cons]
def words1 : List Jvm.Cond := Jvm.Cond.code x code maxLocals ret :: tables_1
/-- a 'code' word, met by the world's own term for the bytes: nothing is compared byte by byte -/
theorem code_word {y : MethodName} {bytes : ByteArray} {mx : Nat} {rt : Option FieldType} {a : Array Value} {s : State} {m : MethodId} {meth : Method} {c : Code} (h1 : s.methodNamed? y = some m) (h2 : s.vm.method? m = some meth) (h3 : meth.code = some c) (h4 : c.code = bytes)
    (h5 : (c.maxLocals == mx && c.exceptionTable.isEmpty && decide (c.maxStack ≤ mostOperands) && decide (meth.sig.returnType = rt) && !meth.locks && decide (parseMethodDescriptor y.desc = some meth.sig)) = true) : (Jvm.Cond.code y bytes mx rt).before a s = true := by
  simp only [Bool.and_eq_true, beq_iff_eq, Bool.not_eq_true', decide_eq_true_eq] at h5
  obtain ⟨⟨⟨⟨⟨g1, g2⟩, g3⟩, g4⟩, g5⟩, g6⟩ := h5
  simp [Cond.before, Cond.holds, Cond.value, h1, h2, h3, h4, g1, g2, g3, g4, g5, g6]
def isCode : Jvm.Cond → Bool
  | .code _ _ _ _ => true
  | _ => false
theorem all_split {L : List Jvm.Cond} {P : Jvm.Cond → Bool} (h1 : L.all (fun c => isCode c || P c) = true) (h2 : ∀ c ∈ L.filter isCode, P c = true) : L.all P = true := by
  refine List.all_eq_true.mpr fun c hc => ?_
  have h := List.all_eq_true.mp h1 c hc
  rcases Bool.eq_false_or_eq_true (isCode c) with hi | hi
  · exact h2 c (List.mem_filter.mpr ⟨hc, hi⟩)
  · simpa [hi] using h
set_option maxRecDepth 65536 in
theorem w_c0 : (Jvm.Cond.code x code maxLocals ret).before args0 about1 = true := code_word (m := ⟨1, 1⟩) (meth := k1m1) (c := k1c1) (by decide +kernel) rfl rfl rfl (by decide +kernel)
set_option maxRecDepth 65536 in
theorem w_c1 : (Jvm.Cond.code ({ cls := "com/example/proof_keep/proofkeep/eval/BooleanValue", name := "of", desc := "(Z)Lcom/example/proof_keep/proofkeep/eval/BooleanValue;" } : Jvm.MethodName) prog_49_method_2_code (1 : Nat) (Option.some (Jvm.ClassFile.FieldType.object "com/example/proof_keep/proofkeep/eval/BooleanValue"))).before args0 about1 = true := code_word (m := ⟨3, 0⟩) (meth := k3m0) (c := k3c0) (by decide +kernel) rfl rfl rfl (by decide +kernel)
set_option maxRecDepth 65536 in
theorem w_c2 : (Jvm.Cond.code ({ cls := "com/example/proof_keep/proofkeep/eval/BooleanValue", name := "getValue", desc := "()Z" } : Jvm.MethodName) prog_49_method_3_code (1 : Nat) (Option.some Jvm.ClassFile.FieldType.boolean)).before args0 about1 = true := code_word (m := ⟨3, 1⟩) (meth := k3m1) (c := k3c1) (by decide +kernel) rfl rfl rfl (by decide +kernel)
def codes1 : List Jvm.Cond := [Jvm.Cond.code x code maxLocals ret, Jvm.Cond.code ({ cls := "com/example/proof_keep/proofkeep/eval/BooleanValue", name := "of", desc := "(Z)Lcom/example/proof_keep/proofkeep/eval/BooleanValue;" } : Jvm.MethodName) prog_49_method_2_code (1 : Nat) (Option.some (Jvm.ClassFile.FieldType.object "com/example/proof_keep/proofkeep/eval/BooleanValue")), Jvm.Cond.code ({ cls := "com/example/proof_keep/proofkeep/eval/BooleanValue", name := "getValue", desc := "()Z" } : Jvm.MethodName) prog_49_method_3_code (1 : Nat) (Option.some Jvm.ClassFile.FieldType.boolean)]
set_option maxRecDepth 65536 in
theorem codes_eq : words1.filter isCode = codes1 := rfl
theorem w_codes : ∀ c ∈ words1.filter isCode, c.before args0 about1 = true := by
  rw [codes_eq]
  intro c hc
  simp only [codes1, List.mem_cons, List.not_mem_nil, or_false] at hc
  rcases hc with rfl | rfl | rfl
  · exact w_c0
  · exact w_c1
  · exact w_c2
set_option maxRecDepth 65536 in
theorem w_t1 : words1.all (fun c => isCode c || c.before args0 about1) = true := by decide +kernel
theorem w_tables : (allAtoms (Jvm.Cond.code x code maxLocals ret :: tables_1)).before args0 about1 = true := by
  rw [allAtoms_all]
  show words1.all (fun c => c.before args0 about1) = true
  refine all_split ?_ w_codes
  rw [w_t1]
set_option maxRecDepth 65536 in
theorem w_case : (Jvm.Cond.and given_1 narrow_1).before args0 about1 = true := by decide +kernel
theorem w_applies : (headSpec (Jvm.Cond.code x code maxLocals ret :: tables_1) room_1).applies x e0.platform about1 = true :=
  (Spec.applies_iff w_frames).mpr ⟨w_running, w_runnable, w_alone, w_named, w_hears, w_ripe, w_room, w_tables⟩
theorem atStart : AtStart classFile x code maxLocals ret World_1 tables_1 room_1 Calls_1 rest_1 Pre_1 launch0 p0 e0 about1 theMethod args0 below0 :=
  ⟨lists_1, trivial, launch0.admits_env _ _ _, launch0.least_env, fairChoices_fair.cas, fairChoices_fair.clock, w_frames, w_args, w_heap, w_applies, trivial, trivial, w_case⟩
end start1
theorem witness_1 : WitnessClaimed_1 := ⟨start1.p0, start1.e0, start1.about1, start1.theMethod, start1.args0, start1.below0, start1.atStart⟩
end Jvm.Pilot.@@N@@
