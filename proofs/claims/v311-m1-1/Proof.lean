import JvmDerived
import JvmDerived.Pilot.@@N@@Statement
import JvmDerived.Pilot.@@N@@Code
set_option linter.unusedVariables false
set_option linter.unusedSimpArgs false
@@BLOCK:NumsL.lean.txt@@
namespace Jvm.RoadKit
open Sem ClassFile Op Lib Jvm.Stand Jvm.Free Jvm.LawKit
section New
variable {p : Program} {l : Launch} {e : Env} {R : Room} {s : State} {m : MethodId} {args : Array Value} {below : List Frame} {meth : Method} {c : Code} {T : State} {locs : List Loc} {cells slots : Nat}
theorem retI (X : Stand p l e R s m args below meth c T locs cells slots) (hx : p.tables.exec = Jvm.exec) {pc : Nat} {Ls : Array Slot} {z : Int32} {rest : List Value} (hret : meth.sig.returnType = some .int) (hd : decode c.code pc = .ok (.ireturn, 1)) {fs : List Frame}
    (hl : ∀ (f : JFrame) (acts : List Action), f.method = m → f.locked = none → f.entered = [] → (doReturn e (T.setTop f) acts (some (.int z))).1 = T.setFrames fs) : Steps p.tables e below (T.setTop (mkF m pc Ls (.int z :: rest))) (T.setFrames fs) := by
  have hm' : T.vm.method? m = some meth := X.method'
  have hn : narrow .int (.int z) = .int z := rfl
  show Steps p.tables e below (T.setTop { method := m, pc := pc, locals := Ls, stack := _ :: rest, locked := none }) _
  jvm_step X.here [X.here.top, hx, hd, hm', hret, hn]
  first | (intro acts; rw [hl _ acts rfl rfl rfl]) | rw [hl _ _ rfl rfl rfl]
  exact Steps.refl _
end New
end Jvm.RoadKit
namespace Jvm.Pilot.@@N@@
open Jvm Jvm.ClassFile Sem Op Lib Jvm.Free Jvm.Stand Jvm.LawKit Jvm.RoadKit Bundle Jvm.Pilot.@@N@@.Jvm.D
theorem oW {Z : State} {a0 : Array Value} (hw : ∀ d ∈ tables_1, d.before a0 Z = true) (i : Nat) {d : Jvm.Cond} (h : tables_1[i]? = some d) : d.before a0 Z = true := hw d (List.mem_of_getElem? h)
abbrev oI (x : Int32) : Slot := .val (.int x)
abbrev oR (x : Addr) : Slot := .val (.ref x)
abbrev oV (x : Value) : Slot := .val x
abbrev oN : Slot := .val .null
abbrev oU : Slot := .unset
abbrev oi (x : Int32) : Value := .int x
abbrev ow (x : Addr) : Value := .ref x
abbrev oS (p : Program) (e : Env) (below : List Frame) (T : State) (g : JFrame) (t : State) : Prop := Steps p.tables e below (T.setTop g) t
abbrev oL (p : Program) (e : Env) (below : List Frame) (T : State) (g : JFrame) (T' : State) (g' : JFrame) : Prop := ∀ t, Steps p.tables e below (T.setTop g) t → Steps p.tables e below (T'.setTop g') t
theorem own_fldI {args : Array Value} {Z : State} {t : Term} {C n d : String} {k : Int32} {a : Addr} (ev : t.eval args Z none [] Z = some (.ref a)) (h : (Jvm.Cond.eq (.field t C n d) (.int k)).value args Z none Z [] = some true) : Fld Z Z.heap a C n d (.int k) := by
  obtain ⟨x, y, h1, h2, hk, hk'⟩ := cmp_v (Or.inl h)
  have h2' : y = .int k := by simpa [Term.eval] using h2.symm
  subst h2'
  obtain ⟨z, rfl⟩ : ∃ z, x = .int z := hk'
  have : z = k := by simpa [Cond.value, h1, h2] using h
  subst this
  exact Fld.start ((fld_at ev).symm.trans h1)
theorem own_rem6 (x : Int32) : ((x &&& 2147483647) - ((x &&& 2147483647) / 6) * 6) = 0 ∨ ((x &&& 2147483647) - ((x &&& 2147483647) / 6) * 6) = 1 ∨ ((x &&& 2147483647) - ((x &&& 2147483647) / 6) * 6) = 2 ∨ ((x &&& 2147483647) - ((x &&& 2147483647) / 6) * 6) = 3 ∨ ((x &&& 2147483647) - ((x &&& 2147483647) / 6) * 6) = 4 ∨ ((x &&& 2147483647) - ((x &&& 2147483647) / 6) * 6) = 5 := by
  have e := Jvm.Kit.i32_mask x 2147483647 (k := 31) (by decide) (by decide)
  have e2 := rem_toInt (x &&& 2147483647) 6
  have e3 : (6 : Int32).toInt = 6 := by decide
  rw [e3, Int.tmod_eq_emod_of_nonneg (by omega)] at e2
  have q : ((x &&& 2147483647) - ((x &&& 2147483647) / 6) * 6).toInt = 0 ∨ ((x &&& 2147483647) - ((x &&& 2147483647) / 6) * 6).toInt = 1 ∨ ((x &&& 2147483647) - ((x &&& 2147483647) / 6) * 6).toInt = 2 ∨ ((x &&& 2147483647) - ((x &&& 2147483647) / 6) * 6).toInt = 3 ∨ ((x &&& 2147483647) - ((x &&& 2147483647) / 6) * 6).toInt = 4 ∨ ((x &&& 2147483647) - ((x &&& 2147483647) / 6) * 6).toInt = 5 := by omega
  rcases q with q | q | q | q | q | q
  · exact Or.inl (Int32.toInt_inj.mp (q.trans (by decide)))
  · exact Or.inr (Or.inl (Int32.toInt_inj.mp (q.trans (by decide))))
  · exact Or.inr (Or.inr (Or.inl (Int32.toInt_inj.mp (q.trans (by decide)))))
  · exact Or.inr (Or.inr (Or.inr (Or.inl (Int32.toInt_inj.mp (q.trans (by decide))))))
  · exact Or.inr (Or.inr (Or.inr (Or.inr (Or.inl (Int32.toInt_inj.mp (q.trans (by decide)))))))
  · exact Or.inr (Or.inr (Or.inr (Or.inr (Or.inr (Int32.toInt_inj.mp (q.trans (by decide)))))))
theorem pn_com_example_overcap_overcap_participant_EventKind : plainName "com/example/overcap/overcap/participant/EventKind" = true := by first | (simp [plainName, overriddenIn]; done) | decide +kernel
theorem d1_0 : decode prog_11_method_4_code 0 = .ok (.aload_n 0, 1) := by decide +kernel
theorem d1_1 : decode prog_11_method_4_code 1 = .ok (.getstatic 19, 3) := by decide +kernel
theorem d1_4 : decode prog_11_method_4_code 4 = .ok (.if_acmp .ne 7, 3) := by decide +kernel
theorem d1_7 : decode prog_11_method_4_code 7 = .ok (.iconst 1, 1) := by decide +kernel
theorem d1_8 : decode prog_11_method_4_code 8 = .ok (.goto 4, 3) := by decide +kernel
theorem d1_12 : decode prog_11_method_4_code 12 = .ok (.ireturn, 1) := by decide +kernel
theorem d1_11 : decode prog_11_method_4_code 11 = .ok (.iconst 0, 1) := by decide +kernel
def Q_rm_isr (Z : State) (a1 : Addr) (w_CHANGE_IN_CONTROL : Addr) (r : Int32) (h0 : Heap) (n0 : Nat) (v : Option Value) (h : Heap) (L : List Loc) : Prop := v = some (.int r) ∧ Fr n0 L ∧ h = h0
set_option maxRecDepth 65536 in
set_option maxHeartbeats 40000000 in
theorem rm_isr (l : Launch) (Z : State) (a0 : Array Value) (hw : ∀ d ∈ tables_1, d.before a0 Z = true) (ws : List Jvm.Cond) (a1 : Addr) (w_CHANGE_IN_CONTROL : Addr) (r : Int32) (h0 : Heap) (n0 : Nat) (OL : Old Z n0 h0) (s_CHANGE_IN_CONTROL : Sta Z Z.heap "com/example/overcap/overcap/participant/EventKind" "CHANGE_IN_CONTROL" "Lcom/example/overcap/overcap/participant/EventKind;" (.ref w_CHANGE_IN_CONTROL)) (hr' : r = if a1 = w_CHANGE_IN_CONTROL then 1 else 0) :
    MetFree l (⟨"com/example/overcap/overcap/participant/EventKind", "ofCompany", "()Z"⟩ : MethodName) (head1 (Jvm.Cond.code (⟨"com/example/overcap/overcap/participant/EventKind", "ofCompany", "()Z"⟩ : MethodName) prog_11_method_4_code 1 (some .boolean) :: ws) ({ frames := 0, cells := 0, slots := 0, locals := 0 } : Room)) (fun a U => a = #[(.ref a1)] ∧ Z.Warmed39 U.vm ∧ U.heap = h0) (fun _ _ _ _ _ => True) (fun _ U o U' => ∃ v L, o = .returned v ∧ Q_rm_isr Z a1 w_CHANGE_IN_CONTROL r h0 n0 v U'.heap L ∧ FrameEnd U o U' L ({ frames := 0, cells := 0, slots := 0, locals := 0 } : Room).cells ({ frames := 0, cells := 0, slots := 0, locals := 0 } : Room).slots) := by
  refine MetFree.of_bodySF (plainFor_of_name pn_com_example_overcap_overcap_participant_EventKind) hisR ?_
  intro p e s m args below meth c s₁ Bd hml0 hP hK
  obtain ⟨rfl, hZ, hh⟩ := hP
  have hx := Bd.exec
  have hby := Bd.bytes
  have hml : c.maxLocals = 1 := hml0
  have hown : s.vm.findClass "com/example/overcap/overcap/participant/EventKind" = some m.cls := findClass_of_methodNamed Bd.named
  have hnm := (name_of_methodNamed Bd.named Bd.method).1
  have X0 : Stand p l e ({ frames := 0, cells := 0, slots := 0, locals := 0 } : Room) s m #[(.ref a1)] below meth c s₁ [] 0 0 := Stand.of_body Bd
  have e0 : s₁.heap = h0 := by rw [← hh, Bd.state]; rfl
  have N0 := Fr.nil n0
  have pre0 : oL p e below s₁ (mkF m 0 #[oR a1] []) s₁ (entryFrame m #[(.ref a1)] 1) := fun t k => castTop (by first | (simp [entryFrame, mkF, argsToLocals, Value.category]; done) | rfl) k
  have pre1 : oL p e below s₁ (mkF m 1 #[oR a1] [ow a1]) s₁ (entryFrame m #[(.ref a1)] 1) := fun t k => pre0 t (by
    refine XS.aloadN X0.here hx rfl (hb hby d1_0) rfl rfl ?_
    exact k)
  obtain ⟨T2, X2, e2, st2⟩ := getS2 X0 hx hZ hown (host := "") (Or.inl (oW hw 9 rfl)) Via.refl e0 (s_CHANGE_IN_CONTROL.ext OL.2) (g := (mkF m 1 #[oR a1] [ow a1])) rfl (hb hby d1_1)
  have pre3 : oL p e below T2 (mkF m 4 #[oR a1] [ow w_CHANGE_IN_CONTROL, ow a1]) s₁ (entryFrame m #[(.ref a1)] 1) := fun t k => pre1 t (by
    refine st2 _ ?_
    exact k)
  by_cases hc4 : a1 = w_CHANGE_IN_CONTROL
  ·
    have pre5 : oL p e below T2 (mkF m 12 #[oR a1] [oi 1]) s₁ (entryFrame m #[(.ref a1)] 1) := fun t k => pre3 t (by
      refine Jvm.RoadKit.acmp (g := (mkF m 4 #[oR a1] [ow w_CHANGE_IN_CONTROL, ow a1])) X2 hx rfl rfl rfl (pc0 := 4) (pc' := 7) (same := true) rfl (hb hby d1_4) rfl (decide_eq_true (congrArg Value.ref hc4)) (by decide) (by decide) ?_
      refine XS.iconst X2.here hx rfl (hb hby d1_7) ?_
      show oS p e below T2 (mkF m 8 #[oR a1] [oi 1]) _
      refine XS.goto X2.here hx rfl (pc0 := 8) (pc' := 12) rfl (hb hby d1_8) (by decide) (by decide) ?_
      exact k)
    obtain ⟨fs, hr, hrun, hended, hW, hsame⟩ := X2.leave (v := some (.int (1 : Int32))) (fun h => by rw [Bd.returns] at h; cases h)
    refine ⟨_, _, pre5 _ ?_, hrun, hended, _, _, rfl, ?_, ⟨_, rfl⟩, hW, hsame.mono (by decide) (by decide)⟩
    ·
      show oS p e below T2 (mkF m 12 #[oR a1] [oi 1]) _
      exact retN X2 hx (t := .boolean) Bd.returns (by simp) (hb hby d1_12) hr
    ·
      show Q_rm_isr Z a1 w_CHANGE_IN_CONTROL r h0 n0 _ T2.heap _
      rw [e2]
      exact ⟨by rw [hr', if_pos hc4], N0, rfl⟩
  ·
    have pre6 : oL p e below T2 (mkF m 12 #[oR a1] [oi 0]) s₁ (entryFrame m #[(.ref a1)] 1) := fun t k => pre3 t (by
      refine Jvm.RoadKit.acmp (g := (mkF m 4 #[oR a1] [ow w_CHANGE_IN_CONTROL, ow a1])) X2 hx rfl rfl rfl (pc0 := 4) (pc' := 11) (same := false) rfl (hb hby d1_4) rfl (decide_eq_false fun q => hc4 (Value.ref.inj q)) (by decide) (by decide) ?_
      refine XS.iconst X2.here hx rfl (hb hby d1_11) ?_
      show oS p e below T2 (mkF m 12 #[oR a1] [oi 0]) _
      exact k)
    obtain ⟨fs, hr, hrun, hended, hW, hsame⟩ := X2.leave (v := some (.int (0 : Int32))) (fun h => by rw [Bd.returns] at h; cases h)
    refine ⟨_, _, pre6 _ ?_, hrun, hended, _, _, rfl, ?_, ⟨_, rfl⟩, hW, hsame.mono (by decide) (by decide)⟩
    ·
      show oS p e below T2 (mkF m 12 #[oR a1] [oi 0]) _
      exact retN X2 hx (t := .boolean) Bd.returns (by simp) (hb hby d1_12) hr
    ·
      show Q_rm_isr Z a1 w_CHANGE_IN_CONTROL r h0 n0 _ T2.heap _
      rw [e2]
      exact ⟨by rw [hr', if_neg hc4], N0, rfl⟩
theorem pn_com_example_overcap_overcap_participant_EventKindOfCompanyPinLaw : plainName "com/example/overcap/overcap/participant/EventKindOfCompanyPinLaw" = true := by first | (simp [plainName, overriddenIn]; done) | decide +kernel
theorem pd___Z : parseMethodDescriptor "()Z" = some ⟨[], some .boolean⟩ := by decide +kernel
def Q_rm0 (Z : State) (p1 : Int32) (w_SEPARATION : Addr) (w_RETIREMENT : Addr) (w_DEATH : Addr) (w_DISABILITY : Addr) (w_CAUSE : Addr) (w_CHANGE_IN_CONTROL : Addr) (h0 : Heap) (n0 : Nat) (v : Option Value) (h : Heap) (L : List Loc) : Prop := v = some (.int (1 : Int32)) ∧ Fr n0 L
set_option maxRecDepth 65536 in
set_option maxHeartbeats 40000000 in
theorem rm0 (l : Launch) (Z : State) (a0 : Array Value) (hw : ∀ d ∈ tables_1, d.before a0 Z = true) (ws : List Jvm.Cond) (p1 : Int32) (w_SEPARATION : Addr) (w_RETIREMENT : Addr) (w_DEATH : Addr) (w_DISABILITY : Addr) (w_CAUSE : Addr) (w_CHANGE_IN_CONTROL : Addr) (h0 : Heap) (n0 : Nat) (OL : Old Z n0 h0) (s_SEPARATION : Sta Z Z.heap "com/example/overcap/overcap/participant/EventKind" "SEPARATION" "Lcom/example/overcap/overcap/participant/EventKind;" (.ref w_SEPARATION)) (s_RETIREMENT : Sta Z Z.heap "com/example/overcap/overcap/participant/EventKind" "RETIREMENT" "Lcom/example/overcap/overcap/participant/EventKind;" (.ref w_RETIREMENT)) (s_DEATH : Sta Z Z.heap "com/example/overcap/overcap/participant/EventKind" "DEATH" "Lcom/example/overcap/overcap/participant/EventKind;" (.ref w_DEATH)) (s_DISABILITY : Sta Z Z.heap "com/example/overcap/overcap/participant/EventKind" "DISABILITY" "Lcom/example/overcap/overcap/participant/EventKind;" (.ref w_DISABILITY)) (s_CAUSE : Sta Z Z.heap "com/example/overcap/overcap/participant/EventKind" "CAUSE" "Lcom/example/overcap/overcap/participant/EventKind;" (.ref w_CAUSE)) (s_CHANGE_IN_CONTROL : Sta Z Z.heap "com/example/overcap/overcap/participant/EventKind" "CHANGE_IN_CONTROL" "Lcom/example/overcap/overcap/participant/EventKind;" (.ref w_CHANGE_IN_CONTROL)) (e_SEPARATION : Exa Z Z.heap w_SEPARATION "com/example/overcap/overcap/participant/EventKind") (e_RETIREMENT : Exa Z Z.heap w_RETIREMENT "com/example/overcap/overcap/participant/EventKind") (e_DEATH : Exa Z Z.heap w_DEATH "com/example/overcap/overcap/participant/EventKind") (e_DISABILITY : Exa Z Z.heap w_DISABILITY "com/example/overcap/overcap/participant/EventKind") (e_CAUSE : Exa Z Z.heap w_CAUSE "com/example/overcap/overcap/participant/EventKind") (e_CHANGE_IN_CONTROL : Exa Z Z.heap w_CHANGE_IN_CONTROL "com/example/overcap/overcap/participant/EventKind") (hne_SEPARATION : w_SEPARATION ≠ w_CHANGE_IN_CONTROL) (hne_RETIREMENT : w_RETIREMENT ≠ w_CHANGE_IN_CONTROL) (hne_DEATH : w_DEATH ≠ w_CHANGE_IN_CONTROL) (hne_DISABILITY : w_DISABILITY ≠ w_CHANGE_IN_CONTROL) (hne_CAUSE : w_CAUSE ≠ w_CHANGE_IN_CONTROL) :
    MetFree l x (head1 (Jvm.Cond.code x code maxLocals ret :: ws) room_1) (fun a U => a = #[(.int p1)] ∧ Z.Warmed39 U.vm ∧ U.heap = h0) (fun _ _ _ _ _ => True) (fun _ U o U' => ∃ v L, o = .returned v ∧ Q_rm0 Z p1 w_SEPARATION w_RETIREMENT w_DEATH w_DISABILITY w_CAUSE w_CHANGE_IN_CONTROL h0 n0 v U'.heap L ∧ FrameEnd U o U' L room_1.cells room_1.slots) := by
  refine MetFree.of_bodySF (plainFor_of_name pn_com_example_overcap_overcap_participant_EventKindOfCompanyPinLaw) hisR ?_
  intro p e s m args below meth c s₁ Bd hml0 hP hK
  obtain ⟨rfl, hZ, hh⟩ := hP
  have hx := Bd.exec
  have hby := Bd.bytes
  have hml : c.maxLocals = 4 := hml0
  have hown : s.vm.findClass "com/example/overcap/overcap/participant/EventKindOfCompanyPinLaw" = some m.cls := findClass_of_methodNamed Bd.named
  have hnm := (name_of_methodNamed Bd.named Bd.method).1
  have X0 : Stand p l e room_1 s m #[(.int p1)] below meth c s₁ [] 0 0 := Stand.of_body Bd
  have e0 : s₁.heap = h0 := by rw [← hh, Bd.state]; rfl
  have N0 := Fr.nil n0
  have pre0 : oL p e below s₁ (mkF m 0 #[oI p1, oU, oU, oU] []) s₁ (entryFrame m #[(.int p1)] maxLocals) := fun t k => castTop (by first | (simp [entryFrame, mkF, argsToLocals, Value.category, maxLocals]; done) | rfl) k
  have pre1 : oL p e below s₁ (mkF m 7 #[oI p1, oU, oU, oU] [oi ((p1 &&& (2147483647 : Int32)) - ((p1 &&& (2147483647 : Int32)) / (6 : Int32)) * (6 : Int32))]) s₁ (entryFrame m #[(.int p1)] maxLocals) := fun t k => pre0 t (by
    refine XS.iloadN X0.here hx rfl (hb hby at_0) rfl ?_
    refine X0.ldcInt hx hown (mvT hZ (oW hw 0 rfl)) (g := (mkF m 1 #[oI p1, oU, oU, oU] [oi p1])) rfl (hb hby at_1) _ ?_
    refine XS.iand X0.here hx rfl (hb hby at_3) rfl ?_
    refine XS.bipush X0.here hx rfl (hb hby at_4) ?_
    show oS p e below s₁ (mkF m 6 #[oI p1, oU, oU, oU] [oi 6, oi (p1 &&& (2147483647 : Int32))]) _
    refine XS.irem X0.here hx rfl (hb hby at_6) rfl (by decide) ?_
    exact k)
  rcases own_rem6 p1 with hl2 | hl2 | hl2 | hl2 | hl2 | hl2
  ·
    rw [hl2] at pre1
    have pre3 : oL p e below s₁ (mkF m 12 #[oI p1, oI 0, oU, oU] []) s₁ (entryFrame m #[(.int p1)] maxLocals) := fun t k => pre1 t (by
      refine XS.istoreN X0.here hx rfl (hb hby at_7) rfl (l' := #[oI p1, oI 0, oU, oU]) rfl ?_
      refine XS.iloadN X0.here hx rfl (hb hby at_8) rfl ?_
      refine XS.ifNo X0.here hx rfl (hb hby at_9) rfl ((if0 _ _).trans (teq (by decide : (0 : Int32) = (0 : Int32))).2) ?_
      show oS p e below s₁ (mkF m 12 #[oI p1, oI 0, oU, oU] []) _
      exact k)
    obtain ⟨T4, X4, e4, st4⟩ := getS2 X0 hx hZ hown (host := "") (Or.inl (oW hw 1 rfl)) Via.refl e0 (s_SEPARATION.ext OL.2) (g := (mkF m 12 #[oI p1, oI 0, oU, oU] [])) rfl (hb hby at_12)
    have pre5 : oL p e below T4 (mkF m 84 #[oI p1, oI 0, oR w_SEPARATION, oI 0] [ow w_SEPARATION]) s₁ (entryFrame m #[(.int p1)] maxLocals) := fun t k => pre3 t (by
      refine st4 _ ?_
      refine XS.astoreN X4.here hx rfl (hb hby at_15) rfl rfl (l' := #[oI p1, oI 0, oR w_SEPARATION, oU]) rfl ?_
      refine XS.iconst X4.here hx rfl (hb hby at_16) ?_
      refine XS.istoreN X4.here hx rfl (hb hby at_17) rfl (l' := #[oI p1, oI 0, oR w_SEPARATION, oI 0]) rfl ?_
      show oS p e below T4 (mkF m 18 #[oI p1, oI 0, oR w_SEPARATION, oI 0] []) _
      refine XS.goto X4.here hx rfl (pc0 := 18) (pc' := 83) rfl (hb hby at_18) (by decide) (by decide) ?_
      refine XS.aloadN X4.here hx rfl (hb hby at_83) rfl rfl ?_
      exact k)
    obtain ⟨cq6, kq6, q6a, q6b, q6c⟩ := isOf hZ e4 (e_SEPARATION.ext OL.2)
    obtain ⟨_, _, ⟨T6, L6, k6, n6⟩, -, X6, ⟨Lc6, hQ6, l6, y6, z6⟩, st6⟩ := X4.virtualBack hx (y := (⟨"com/example/overcap/overcap/participant/EventKind", "ofCompany", "()Z"⟩ : MethodName)) (z := (⟨"com/example/overcap/overcap/participant/EventKind", "ofCompany", "()Z"⟩ : MethodName)) hown (mvT hZ (oW hw 4 rfl)) (mvT hZ (oW hw 5 rfl)) (notFace_of_selects (args := #[]) (mvT hZ (oW hw 7 rfl))) (mvT hZ (oW hw 7 rfl)) (mvT hZ (oW hw 6 rfl)) (by decide) (backOf (W := 0) (rm_isr l Z a0 hw [] w_SEPARATION w_CHANGE_IN_CONTROL 0 h0 n0 OL s_CHANGE_IN_CONTROL (by simp [hne_SEPARATION])) hZ (oW hw 8 rfl) (oW hw 2 rfl) (by decide) (by decide)) q6a q6c (g := (mkF m 84 #[oI p1, oI 0, oR w_SEPARATION, oI 0] [ow w_SEPARATION])) rfl (by rw [hml]; rfl) (Steps.refl _) (argsL := []) (rest := []) (lenOf pd___Z rfl) rfl (by show 2 * 0 + _ ≤ _; exact Nat.le_of_eq rfl) (hb hby at_84) (fun _ _ => ⟨rfl, e4, (by decide : 0 + 0 ≤ _), (by decide : 0 + 0 ≤ _)⟩)
    dsimp only [Pt.U, Pt.locs, Pt.cells, Pt.slots] at X6 l6 y6 z6 st6 hQ6
    subst l6 y6 z6
    obtain ⟨rfl, N6q, e6⟩ := hQ6
    have N6 := Fr.app N0 N6q
    have pre7 : oL p e below T6 (mkF m 96 #[oI p1, oI 0, oR w_SEPARATION, oI 0] [oi 1]) s₁ (entryFrame m #[(.int p1)] maxLocals) := fun t k => pre5 t (by
      refine st6.trans ?_
      refine XS.iloadN X6.here hx rfl (hb hby at_87) rfl ?_
      show oS p e below T6 (mkF m 88 #[oI p1, oI 0, oR w_SEPARATION, oI 0] [oi 0, oi 0]) _
      refine XS.icmpNo X6.here hx rfl (hb hby at_88) rfl (teq (by decide : (0 : Int32) = (0 : Int32))).2 ?_
      refine XS.iconst X6.here hx rfl (hb hby at_91) ?_
      refine XS.goto X6.here hx rfl (pc0 := 92) (pc' := 96) rfl (hb hby at_92) (by decide) (by decide) ?_
      exact k)
    obtain ⟨fs, hr, hrun, hended, hW, hsame⟩ := X6.leave (v := some (.int (1 : Int32))) (fun h => by rw [Bd.returns] at h; cases h)
    refine ⟨_, _, pre7 _ ?_, hrun, hended, _, _, rfl, ?_, ⟨_, rfl⟩, hW, hsame.mono (by decide) (by decide)⟩
    ·
      show oS p e below T6 (mkF m 96 #[oI p1, oI 0, oR w_SEPARATION, oI 0] [oi 1]) _
      exact retN X6 hx (t := .boolean) Bd.returns (by simp) (hb hby at_96) hr
    ·
      show Q_rm0 Z p1 w_SEPARATION w_RETIREMENT w_DEATH w_DISABILITY w_CAUSE w_CHANGE_IN_CONTROL h0 n0 _ T6.heap _
      rw [e6]
      exact ⟨rfl, N6⟩
  ·
    rw [hl2] at pre1
    have pre8 : oL p e below s₁ (mkF m 26 #[oI p1, oI 1, oU, oU] []) s₁ (entryFrame m #[(.int p1)] maxLocals) := fun t k => pre1 t (by
      refine XS.istoreN X0.here hx rfl (hb hby at_7) rfl (l' := #[oI p1, oI 1, oU, oU]) rfl ?_
      refine XS.iloadN X0.here hx rfl (hb hby at_8) rfl ?_
      refine XS.ifYes X0.here hx rfl (pc0 := 9) (pc' := 21) rfl (hb hby at_9) rfl ((if0 _ _).trans (feq (by decide : ¬ ((1 : Int32) = (0 : Int32)))).2) (by decide) (by decide) ?_
      show oS p e below s₁ (mkF m 21 #[oI p1, oI 1, oU, oU] []) _
      refine XS.iloadN X0.here hx rfl (hb hby at_21) rfl ?_
      refine XS.iconst X0.here hx rfl (hb hby at_22) ?_
      refine XS.icmpNo X0.here hx rfl (hb hby at_23) rfl (teq (by decide : (1 : Int32) = (1 : Int32))).2 ?_
      exact k)
    obtain ⟨T9, X9, e9, st9⟩ := getS2 X0 hx hZ hown (host := "") (Or.inl (oW hw 15 rfl)) Via.refl e0 (s_RETIREMENT.ext OL.2) (g := (mkF m 26 #[oI p1, oI 1, oU, oU] [])) rfl (hb hby at_26)
    have pre10 : oL p e below T9 (mkF m 84 #[oI p1, oI 1, oR w_RETIREMENT, oI 0] [ow w_RETIREMENT]) s₁ (entryFrame m #[(.int p1)] maxLocals) := fun t k => pre8 t (by
      refine st9 _ ?_
      show oS p e below T9 (mkF m 29 #[oI p1, oI 1, oU, oU] [ow w_RETIREMENT]) _
      refine XS.astoreN X9.here hx rfl (hb hby at_29) rfl rfl (l' := #[oI p1, oI 1, oR w_RETIREMENT, oU]) rfl ?_
      refine XS.iconst X9.here hx rfl (hb hby at_30) ?_
      refine XS.istoreN X9.here hx rfl (hb hby at_31) rfl (l' := #[oI p1, oI 1, oR w_RETIREMENT, oI 0]) rfl ?_
      refine XS.goto X9.here hx rfl (pc0 := 32) (pc' := 83) rfl (hb hby at_32) (by decide) (by decide) ?_
      show oS p e below T9 (mkF m 83 #[oI p1, oI 1, oR w_RETIREMENT, oI 0] []) _
      refine XS.aloadN X9.here hx rfl (hb hby at_83) rfl rfl ?_
      exact k)
    obtain ⟨cq11, kq11, q11a, q11b, q11c⟩ := isOf hZ e9 (e_RETIREMENT.ext OL.2)
    obtain ⟨_, _, ⟨T11, L11, k11, n11⟩, -, X11, ⟨Lc11, hQ11, l11, y11, z11⟩, st11⟩ := X9.virtualBack hx (y := (⟨"com/example/overcap/overcap/participant/EventKind", "ofCompany", "()Z"⟩ : MethodName)) (z := (⟨"com/example/overcap/overcap/participant/EventKind", "ofCompany", "()Z"⟩ : MethodName)) hown (mvT hZ (oW hw 4 rfl)) (mvT hZ (oW hw 5 rfl)) (notFace_of_selects (args := #[]) (mvT hZ (oW hw 7 rfl))) (mvT hZ (oW hw 7 rfl)) (mvT hZ (oW hw 6 rfl)) (by decide) (backOf (W := 0) (rm_isr l Z a0 hw [] w_RETIREMENT w_CHANGE_IN_CONTROL 0 h0 n0 OL s_CHANGE_IN_CONTROL (by simp [hne_RETIREMENT])) hZ (oW hw 8 rfl) (oW hw 2 rfl) (by decide) (by decide)) q11a q11c (g := (mkF m 84 #[oI p1, oI 1, oR w_RETIREMENT, oI 0] [ow w_RETIREMENT])) rfl (by rw [hml]; rfl) (Steps.refl _) (argsL := []) (rest := []) (lenOf pd___Z rfl) rfl (by show 2 * 0 + _ ≤ _; exact Nat.le_of_eq rfl) (hb hby at_84) (fun _ _ => ⟨rfl, e9, (by decide : 0 + 0 ≤ _), (by decide : 0 + 0 ≤ _)⟩)
    dsimp only [Pt.U, Pt.locs, Pt.cells, Pt.slots] at X11 l11 y11 z11 st11 hQ11
    subst l11 y11 z11
    obtain ⟨rfl, N11q, e11⟩ := hQ11
    have N11 := Fr.app N0 N11q
    have pre12 : oL p e below T11 (mkF m 96 #[oI p1, oI 1, oR w_RETIREMENT, oI 0] [oi 1]) s₁ (entryFrame m #[(.int p1)] maxLocals) := fun t k => pre10 t (by
      refine st11.trans ?_
      refine XS.iloadN X11.here hx rfl (hb hby at_87) rfl ?_
      refine XS.icmpNo X11.here hx rfl (hb hby at_88) rfl (teq (by decide : (0 : Int32) = (0 : Int32))).2 ?_
      show oS p e below T11 (mkF m 91 #[oI p1, oI 1, oR w_RETIREMENT, oI 0] []) _
      refine XS.iconst X11.here hx rfl (hb hby at_91) ?_
      refine XS.goto X11.here hx rfl (pc0 := 92) (pc' := 96) rfl (hb hby at_92) (by decide) (by decide) ?_
      exact k)
    obtain ⟨fs, hr, hrun, hended, hW, hsame⟩ := X11.leave (v := some (.int (1 : Int32))) (fun h => by rw [Bd.returns] at h; cases h)
    refine ⟨_, _, pre12 _ ?_, hrun, hended, _, _, rfl, ?_, ⟨_, rfl⟩, hW, hsame.mono (by decide) (by decide)⟩
    ·
      show oS p e below T11 (mkF m 96 #[oI p1, oI 1, oR w_RETIREMENT, oI 0] [oi 1]) _
      exact retN X11 hx (t := .boolean) Bd.returns (by simp) (hb hby at_96) hr
    ·
      show Q_rm0 Z p1 w_SEPARATION w_RETIREMENT w_DEATH w_DISABILITY w_CAUSE w_CHANGE_IN_CONTROL h0 n0 _ T11.heap _
      rw [e11]
      exact ⟨rfl, N11⟩
  ·
    rw [hl2] at pre1
    have pre13 : oL p e below s₁ (mkF m 40 #[oI p1, oI 2, oU, oU] []) s₁ (entryFrame m #[(.int p1)] maxLocals) := fun t k => pre1 t (by
      refine XS.istoreN X0.here hx rfl (hb hby at_7) rfl (l' := #[oI p1, oI 2, oU, oU]) rfl ?_
      refine XS.iloadN X0.here hx rfl (hb hby at_8) rfl ?_
      refine XS.ifYes X0.here hx rfl (pc0 := 9) (pc' := 21) rfl (hb hby at_9) rfl ((if0 _ _).trans (feq (by decide : ¬ ((2 : Int32) = (0 : Int32)))).2) (by decide) (by decide) ?_
      show oS p e below s₁ (mkF m 21 #[oI p1, oI 2, oU, oU] []) _
      refine XS.iloadN X0.here hx rfl (hb hby at_21) rfl ?_
      refine XS.iconst X0.here hx rfl (hb hby at_22) ?_
      refine XS.icmpYes X0.here hx rfl (pc0 := 23) (pc' := 35) rfl (hb hby at_23) rfl (feq (by decide : ¬ ((2 : Int32) = (1 : Int32)))).2 (by decide) (by decide) ?_
      refine XS.iloadN X0.here hx rfl (hb hby at_35) rfl ?_
      show oS p e below s₁ (mkF m 36 #[oI p1, oI 2, oU, oU] [oi 2]) _
      refine XS.iconst X0.here hx rfl (hb hby at_36) ?_
      refine XS.icmpNo X0.here hx rfl (hb hby at_37) rfl (teq (by decide : (2 : Int32) = (2 : Int32))).2 ?_
      exact k)
    obtain ⟨T14, X14, e14, st14⟩ := getS2 X0 hx hZ hown (host := "") (Or.inl (oW hw 13 rfl)) Via.refl e0 (s_DEATH.ext OL.2) (g := (mkF m 40 #[oI p1, oI 2, oU, oU] [])) rfl (hb hby at_40)
    have pre15 : oL p e below T14 (mkF m 84 #[oI p1, oI 2, oR w_DEATH, oI 0] [ow w_DEATH]) s₁ (entryFrame m #[(.int p1)] maxLocals) := fun t k => pre13 t (by
      refine st14 _ ?_
      refine XS.astoreN X14.here hx rfl (hb hby at_43) rfl rfl (l' := #[oI p1, oI 2, oR w_DEATH, oU]) rfl ?_
      show oS p e below T14 (mkF m 44 #[oI p1, oI 2, oR w_DEATH, oU] []) _
      refine XS.iconst X14.here hx rfl (hb hby at_44) ?_
      refine XS.istoreN X14.here hx rfl (hb hby at_45) rfl (l' := #[oI p1, oI 2, oR w_DEATH, oI 0]) rfl ?_
      refine XS.goto X14.here hx rfl (pc0 := 46) (pc' := 83) rfl (hb hby at_46) (by decide) (by decide) ?_
      refine XS.aloadN X14.here hx rfl (hb hby at_83) rfl rfl ?_
      show oS p e below T14 (mkF m 84 #[oI p1, oI 2, oR w_DEATH, oI 0] [ow w_DEATH]) _
      exact k)
    obtain ⟨cq16, kq16, q16a, q16b, q16c⟩ := isOf hZ e14 (e_DEATH.ext OL.2)
    obtain ⟨_, _, ⟨T16, L16, k16, n16⟩, -, X16, ⟨Lc16, hQ16, l16, y16, z16⟩, st16⟩ := X14.virtualBack hx (y := (⟨"com/example/overcap/overcap/participant/EventKind", "ofCompany", "()Z"⟩ : MethodName)) (z := (⟨"com/example/overcap/overcap/participant/EventKind", "ofCompany", "()Z"⟩ : MethodName)) hown (mvT hZ (oW hw 4 rfl)) (mvT hZ (oW hw 5 rfl)) (notFace_of_selects (args := #[]) (mvT hZ (oW hw 7 rfl))) (mvT hZ (oW hw 7 rfl)) (mvT hZ (oW hw 6 rfl)) (by decide) (backOf (W := 0) (rm_isr l Z a0 hw [] w_DEATH w_CHANGE_IN_CONTROL 0 h0 n0 OL s_CHANGE_IN_CONTROL (by simp [hne_DEATH])) hZ (oW hw 8 rfl) (oW hw 2 rfl) (by decide) (by decide)) q16a q16c (g := (mkF m 84 #[oI p1, oI 2, oR w_DEATH, oI 0] [ow w_DEATH])) rfl (by rw [hml]; rfl) (Steps.refl _) (argsL := []) (rest := []) (lenOf pd___Z rfl) rfl (by show 2 * 0 + _ ≤ _; exact Nat.le_of_eq rfl) (hb hby at_84) (fun _ _ => ⟨rfl, e14, (by decide : 0 + 0 ≤ _), (by decide : 0 + 0 ≤ _)⟩)
    dsimp only [Pt.U, Pt.locs, Pt.cells, Pt.slots] at X16 l16 y16 z16 st16 hQ16
    subst l16 y16 z16
    obtain ⟨rfl, N16q, e16⟩ := hQ16
    have N16 := Fr.app N0 N16q
    have pre17 : oL p e below T16 (mkF m 96 #[oI p1, oI 2, oR w_DEATH, oI 0] [oi 1]) s₁ (entryFrame m #[(.int p1)] maxLocals) := fun t k => pre15 t (by
      refine st16.trans ?_
      refine XS.iloadN X16.here hx rfl (hb hby at_87) rfl ?_
      refine XS.icmpNo X16.here hx rfl (hb hby at_88) rfl (teq (by decide : (0 : Int32) = (0 : Int32))).2 ?_
      refine XS.iconst X16.here hx rfl (hb hby at_91) ?_
      show oS p e below T16 (mkF m 92 #[oI p1, oI 2, oR w_DEATH, oI 0] [oi 1]) _
      refine XS.goto X16.here hx rfl (pc0 := 92) (pc' := 96) rfl (hb hby at_92) (by decide) (by decide) ?_
      exact k)
    obtain ⟨fs, hr, hrun, hended, hW, hsame⟩ := X16.leave (v := some (.int (1 : Int32))) (fun h => by rw [Bd.returns] at h; cases h)
    refine ⟨_, _, pre17 _ ?_, hrun, hended, _, _, rfl, ?_, ⟨_, rfl⟩, hW, hsame.mono (by decide) (by decide)⟩
    ·
      show oS p e below T16 (mkF m 96 #[oI p1, oI 2, oR w_DEATH, oI 0] [oi 1]) _
      exact retN X16 hx (t := .boolean) Bd.returns (by simp) (hb hby at_96) hr
    ·
      show Q_rm0 Z p1 w_SEPARATION w_RETIREMENT w_DEATH w_DISABILITY w_CAUSE w_CHANGE_IN_CONTROL h0 n0 _ T16.heap _
      rw [e16]
      exact ⟨rfl, N16⟩
  ·
    rw [hl2] at pre1
    have pre18 : oL p e below s₁ (mkF m 54 #[oI p1, oI 3, oU, oU] []) s₁ (entryFrame m #[(.int p1)] maxLocals) := fun t k => pre1 t (by
      refine XS.istoreN X0.here hx rfl (hb hby at_7) rfl (l' := #[oI p1, oI 3, oU, oU]) rfl ?_
      refine XS.iloadN X0.here hx rfl (hb hby at_8) rfl ?_
      refine XS.ifYes X0.here hx rfl (pc0 := 9) (pc' := 21) rfl (hb hby at_9) rfl ((if0 _ _).trans (feq (by decide : ¬ ((3 : Int32) = (0 : Int32)))).2) (by decide) (by decide) ?_
      show oS p e below s₁ (mkF m 21 #[oI p1, oI 3, oU, oU] []) _
      refine XS.iloadN X0.here hx rfl (hb hby at_21) rfl ?_
      refine XS.iconst X0.here hx rfl (hb hby at_22) ?_
      refine XS.icmpYes X0.here hx rfl (pc0 := 23) (pc' := 35) rfl (hb hby at_23) rfl (feq (by decide : ¬ ((3 : Int32) = (1 : Int32)))).2 (by decide) (by decide) ?_
      refine XS.iloadN X0.here hx rfl (hb hby at_35) rfl ?_
      show oS p e below s₁ (mkF m 36 #[oI p1, oI 3, oU, oU] [oi 3]) _
      refine XS.iconst X0.here hx rfl (hb hby at_36) ?_
      refine XS.icmpYes X0.here hx rfl (pc0 := 37) (pc' := 49) rfl (hb hby at_37) rfl (feq (by decide : ¬ ((3 : Int32) = (2 : Int32)))).2 (by decide) (by decide) ?_
      refine XS.iloadN X0.here hx rfl (hb hby at_49) rfl ?_
      refine XS.iconst X0.here hx rfl (hb hby at_50) ?_
      show oS p e below s₁ (mkF m 51 #[oI p1, oI 3, oU, oU] [oi 3, oi 3]) _
      refine XS.icmpNo X0.here hx rfl (hb hby at_51) rfl (teq (by decide : (3 : Int32) = (3 : Int32))).2 ?_
      exact k)
    obtain ⟨T19, X19, e19, st19⟩ := getS2 X0 hx hZ hown (host := "") (Or.inl (oW hw 11 rfl)) Via.refl e0 (s_DISABILITY.ext OL.2) (g := (mkF m 54 #[oI p1, oI 3, oU, oU] [])) rfl (hb hby at_54)
    have pre20 : oL p e below T19 (mkF m 84 #[oI p1, oI 3, oR w_DISABILITY, oI 0] [ow w_DISABILITY]) s₁ (entryFrame m #[(.int p1)] maxLocals) := fun t k => pre18 t (by
      refine st19 _ ?_
      refine XS.astoreN X19.here hx rfl (hb hby at_57) rfl rfl (l' := #[oI p1, oI 3, oR w_DISABILITY, oU]) rfl ?_
      refine XS.iconst X19.here hx rfl (hb hby at_58) ?_
      show oS p e below T19 (mkF m 59 #[oI p1, oI 3, oR w_DISABILITY, oU] [oi 0]) _
      refine XS.istoreN X19.here hx rfl (hb hby at_59) rfl (l' := #[oI p1, oI 3, oR w_DISABILITY, oI 0]) rfl ?_
      refine XS.goto X19.here hx rfl (pc0 := 60) (pc' := 83) rfl (hb hby at_60) (by decide) (by decide) ?_
      refine XS.aloadN X19.here hx rfl (hb hby at_83) rfl rfl ?_
      exact k)
    obtain ⟨cq21, kq21, q21a, q21b, q21c⟩ := isOf hZ e19 (e_DISABILITY.ext OL.2)
    obtain ⟨_, _, ⟨T21, L21, k21, n21⟩, -, X21, ⟨Lc21, hQ21, l21, y21, z21⟩, st21⟩ := X19.virtualBack hx (y := (⟨"com/example/overcap/overcap/participant/EventKind", "ofCompany", "()Z"⟩ : MethodName)) (z := (⟨"com/example/overcap/overcap/participant/EventKind", "ofCompany", "()Z"⟩ : MethodName)) hown (mvT hZ (oW hw 4 rfl)) (mvT hZ (oW hw 5 rfl)) (notFace_of_selects (args := #[]) (mvT hZ (oW hw 7 rfl))) (mvT hZ (oW hw 7 rfl)) (mvT hZ (oW hw 6 rfl)) (by decide) (backOf (W := 0) (rm_isr l Z a0 hw [] w_DISABILITY w_CHANGE_IN_CONTROL 0 h0 n0 OL s_CHANGE_IN_CONTROL (by simp [hne_DISABILITY])) hZ (oW hw 8 rfl) (oW hw 2 rfl) (by decide) (by decide)) q21a q21c (g := (mkF m 84 #[oI p1, oI 3, oR w_DISABILITY, oI 0] [ow w_DISABILITY])) rfl (by rw [hml]; rfl) (Steps.refl _) (argsL := []) (rest := []) (lenOf pd___Z rfl) rfl (by show 2 * 0 + _ ≤ _; exact Nat.le_of_eq rfl) (hb hby at_84) (fun _ _ => ⟨rfl, e19, (by decide : 0 + 0 ≤ _), (by decide : 0 + 0 ≤ _)⟩)
    dsimp only [Pt.U, Pt.locs, Pt.cells, Pt.slots] at X21 l21 y21 z21 st21 hQ21
    subst l21 y21 z21
    obtain ⟨rfl, N21q, e21⟩ := hQ21
    have N21 := Fr.app N0 N21q
    have pre22 : oL p e below T21 (mkF m 96 #[oI p1, oI 3, oR w_DISABILITY, oI 0] [oi 1]) s₁ (entryFrame m #[(.int p1)] maxLocals) := fun t k => pre20 t (by
      refine st21.trans ?_
      show oS p e below T21 (mkF m 87 #[oI p1, oI 3, oR w_DISABILITY, oI 0] [oi 0]) _
      refine XS.iloadN X21.here hx rfl (hb hby at_87) rfl ?_
      refine XS.icmpNo X21.here hx rfl (hb hby at_88) rfl (teq (by decide : (0 : Int32) = (0 : Int32))).2 ?_
      refine XS.iconst X21.here hx rfl (hb hby at_91) ?_
      refine XS.goto X21.here hx rfl (pc0 := 92) (pc' := 96) rfl (hb hby at_92) (by decide) (by decide) ?_
      show oS p e below T21 (mkF m 96 #[oI p1, oI 3, oR w_DISABILITY, oI 0] [oi 1]) _
      exact k)
    obtain ⟨fs, hr, hrun, hended, hW, hsame⟩ := X21.leave (v := some (.int (1 : Int32))) (fun h => by rw [Bd.returns] at h; cases h)
    refine ⟨_, _, pre22 _ ?_, hrun, hended, _, _, rfl, ?_, ⟨_, rfl⟩, hW, hsame.mono (by decide) (by decide)⟩
    ·
      show oS p e below T21 (mkF m 96 #[oI p1, oI 3, oR w_DISABILITY, oI 0] [oi 1]) _
      exact retN X21 hx (t := .boolean) Bd.returns (by simp) (hb hby at_96) hr
    ·
      show Q_rm0 Z p1 w_SEPARATION w_RETIREMENT w_DEATH w_DISABILITY w_CAUSE w_CHANGE_IN_CONTROL h0 n0 _ T21.heap _
      rw [e21]
      exact ⟨rfl, N21⟩
  ·
    rw [hl2] at pre1
    have pre23 : oL p e below s₁ (mkF m 68 #[oI p1, oI 4, oU, oU] []) s₁ (entryFrame m #[(.int p1)] maxLocals) := fun t k => pre1 t (by
      refine XS.istoreN X0.here hx rfl (hb hby at_7) rfl (l' := #[oI p1, oI 4, oU, oU]) rfl ?_
      refine XS.iloadN X0.here hx rfl (hb hby at_8) rfl ?_
      refine XS.ifYes X0.here hx rfl (pc0 := 9) (pc' := 21) rfl (hb hby at_9) rfl ((if0 _ _).trans (feq (by decide : ¬ ((4 : Int32) = (0 : Int32)))).2) (by decide) (by decide) ?_
      show oS p e below s₁ (mkF m 21 #[oI p1, oI 4, oU, oU] []) _
      refine XS.iloadN X0.here hx rfl (hb hby at_21) rfl ?_
      refine XS.iconst X0.here hx rfl (hb hby at_22) ?_
      refine XS.icmpYes X0.here hx rfl (pc0 := 23) (pc' := 35) rfl (hb hby at_23) rfl (feq (by decide : ¬ ((4 : Int32) = (1 : Int32)))).2 (by decide) (by decide) ?_
      refine XS.iloadN X0.here hx rfl (hb hby at_35) rfl ?_
      show oS p e below s₁ (mkF m 36 #[oI p1, oI 4, oU, oU] [oi 4]) _
      refine XS.iconst X0.here hx rfl (hb hby at_36) ?_
      refine XS.icmpYes X0.here hx rfl (pc0 := 37) (pc' := 49) rfl (hb hby at_37) rfl (feq (by decide : ¬ ((4 : Int32) = (2 : Int32)))).2 (by decide) (by decide) ?_
      refine XS.iloadN X0.here hx rfl (hb hby at_49) rfl ?_
      refine XS.iconst X0.here hx rfl (hb hby at_50) ?_
      show oS p e below s₁ (mkF m 51 #[oI p1, oI 4, oU, oU] [oi 3, oi 4]) _
      refine XS.icmpYes X0.here hx rfl (pc0 := 51) (pc' := 63) rfl (hb hby at_51) rfl (feq (by decide : ¬ ((4 : Int32) = (3 : Int32)))).2 (by decide) (by decide) ?_
      refine XS.iloadN X0.here hx rfl (hb hby at_63) rfl ?_
      refine XS.iconst X0.here hx rfl (hb hby at_64) ?_
      refine XS.icmpNo X0.here hx rfl (hb hby at_65) rfl (teq (by decide : (4 : Int32) = (4 : Int32))).2 ?_
      show oS p e below s₁ (mkF m 68 #[oI p1, oI 4, oU, oU] []) _
      exact k)
    obtain ⟨T24, X24, e24, st24⟩ := getS2 X0 hx hZ hown (host := "") (Or.inl (oW hw 18 rfl)) Via.refl e0 (s_CAUSE.ext OL.2) (g := (mkF m 68 #[oI p1, oI 4, oU, oU] [])) rfl (hb hby at_68)
    have pre25 : oL p e below T24 (mkF m 84 #[oI p1, oI 4, oR w_CAUSE, oI 0] [ow w_CAUSE]) s₁ (entryFrame m #[(.int p1)] maxLocals) := fun t k => pre23 t (by
      refine st24 _ ?_
      refine XS.astoreN X24.here hx rfl (hb hby at_71) rfl rfl (l' := #[oI p1, oI 4, oR w_CAUSE, oU]) rfl ?_
      refine XS.iconst X24.here hx rfl (hb hby at_72) ?_
      refine XS.istoreN X24.here hx rfl (hb hby at_73) rfl (l' := #[oI p1, oI 4, oR w_CAUSE, oI 0]) rfl ?_
      show oS p e below T24 (mkF m 74 #[oI p1, oI 4, oR w_CAUSE, oI 0] []) _
      refine XS.goto X24.here hx rfl (pc0 := 74) (pc' := 83) rfl (hb hby at_74) (by decide) (by decide) ?_
      refine XS.aloadN X24.here hx rfl (hb hby at_83) rfl rfl ?_
      exact k)
    obtain ⟨cq26, kq26, q26a, q26b, q26c⟩ := isOf hZ e24 (e_CAUSE.ext OL.2)
    obtain ⟨_, _, ⟨T26, L26, k26, n26⟩, -, X26, ⟨Lc26, hQ26, l26, y26, z26⟩, st26⟩ := X24.virtualBack hx (y := (⟨"com/example/overcap/overcap/participant/EventKind", "ofCompany", "()Z"⟩ : MethodName)) (z := (⟨"com/example/overcap/overcap/participant/EventKind", "ofCompany", "()Z"⟩ : MethodName)) hown (mvT hZ (oW hw 4 rfl)) (mvT hZ (oW hw 5 rfl)) (notFace_of_selects (args := #[]) (mvT hZ (oW hw 7 rfl))) (mvT hZ (oW hw 7 rfl)) (mvT hZ (oW hw 6 rfl)) (by decide) (backOf (W := 0) (rm_isr l Z a0 hw [] w_CAUSE w_CHANGE_IN_CONTROL 0 h0 n0 OL s_CHANGE_IN_CONTROL (by simp [hne_CAUSE])) hZ (oW hw 8 rfl) (oW hw 2 rfl) (by decide) (by decide)) q26a q26c (g := (mkF m 84 #[oI p1, oI 4, oR w_CAUSE, oI 0] [ow w_CAUSE])) rfl (by rw [hml]; rfl) (Steps.refl _) (argsL := []) (rest := []) (lenOf pd___Z rfl) rfl (by show 2 * 0 + _ ≤ _; exact Nat.le_of_eq rfl) (hb hby at_84) (fun _ _ => ⟨rfl, e24, (by decide : 0 + 0 ≤ _), (by decide : 0 + 0 ≤ _)⟩)
    dsimp only [Pt.U, Pt.locs, Pt.cells, Pt.slots] at X26 l26 y26 z26 st26 hQ26
    subst l26 y26 z26
    obtain ⟨rfl, N26q, e26⟩ := hQ26
    have N26 := Fr.app N0 N26q
    have pre27 : oL p e below T26 (mkF m 96 #[oI p1, oI 4, oR w_CAUSE, oI 0] [oi 1]) s₁ (entryFrame m #[(.int p1)] maxLocals) := fun t k => pre25 t (by
      refine st26.trans ?_
      refine XS.iloadN X26.here hx rfl (hb hby at_87) rfl ?_
      show oS p e below T26 (mkF m 88 #[oI p1, oI 4, oR w_CAUSE, oI 0] [oi 0, oi 0]) _
      refine XS.icmpNo X26.here hx rfl (hb hby at_88) rfl (teq (by decide : (0 : Int32) = (0 : Int32))).2 ?_
      refine XS.iconst X26.here hx rfl (hb hby at_91) ?_
      refine XS.goto X26.here hx rfl (pc0 := 92) (pc' := 96) rfl (hb hby at_92) (by decide) (by decide) ?_
      exact k)
    obtain ⟨fs, hr, hrun, hended, hW, hsame⟩ := X26.leave (v := some (.int (1 : Int32))) (fun h => by rw [Bd.returns] at h; cases h)
    refine ⟨_, _, pre27 _ ?_, hrun, hended, _, _, rfl, ?_, ⟨_, rfl⟩, hW, hsame.mono (by decide) (by decide)⟩
    ·
      show oS p e below T26 (mkF m 96 #[oI p1, oI 4, oR w_CAUSE, oI 0] [oi 1]) _
      exact retN X26 hx (t := .boolean) Bd.returns (by simp) (hb hby at_96) hr
    ·
      show Q_rm0 Z p1 w_SEPARATION w_RETIREMENT w_DEATH w_DISABILITY w_CAUSE w_CHANGE_IN_CONTROL h0 n0 _ T26.heap _
      rw [e26]
      exact ⟨rfl, N26⟩
  ·
    rw [hl2] at pre1
    have pre28 : oL p e below s₁ (mkF m 77 #[oI p1, oI 5, oU, oU] []) s₁ (entryFrame m #[(.int p1)] maxLocals) := fun t k => pre1 t (by
      refine XS.istoreN X0.here hx rfl (hb hby at_7) rfl (l' := #[oI p1, oI 5, oU, oU]) rfl ?_
      refine XS.iloadN X0.here hx rfl (hb hby at_8) rfl ?_
      refine XS.ifYes X0.here hx rfl (pc0 := 9) (pc' := 21) rfl (hb hby at_9) rfl ((if0 _ _).trans (feq (by decide : ¬ ((5 : Int32) = (0 : Int32)))).2) (by decide) (by decide) ?_
      show oS p e below s₁ (mkF m 21 #[oI p1, oI 5, oU, oU] []) _
      refine XS.iloadN X0.here hx rfl (hb hby at_21) rfl ?_
      refine XS.iconst X0.here hx rfl (hb hby at_22) ?_
      refine XS.icmpYes X0.here hx rfl (pc0 := 23) (pc' := 35) rfl (hb hby at_23) rfl (feq (by decide : ¬ ((5 : Int32) = (1 : Int32)))).2 (by decide) (by decide) ?_
      refine XS.iloadN X0.here hx rfl (hb hby at_35) rfl ?_
      show oS p e below s₁ (mkF m 36 #[oI p1, oI 5, oU, oU] [oi 5]) _
      refine XS.iconst X0.here hx rfl (hb hby at_36) ?_
      refine XS.icmpYes X0.here hx rfl (pc0 := 37) (pc' := 49) rfl (hb hby at_37) rfl (feq (by decide : ¬ ((5 : Int32) = (2 : Int32)))).2 (by decide) (by decide) ?_
      refine XS.iloadN X0.here hx rfl (hb hby at_49) rfl ?_
      refine XS.iconst X0.here hx rfl (hb hby at_50) ?_
      show oS p e below s₁ (mkF m 51 #[oI p1, oI 5, oU, oU] [oi 3, oi 5]) _
      refine XS.icmpYes X0.here hx rfl (pc0 := 51) (pc' := 63) rfl (hb hby at_51) rfl (feq (by decide : ¬ ((5 : Int32) = (3 : Int32)))).2 (by decide) (by decide) ?_
      refine XS.iloadN X0.here hx rfl (hb hby at_63) rfl ?_
      refine XS.iconst X0.here hx rfl (hb hby at_64) ?_
      refine XS.icmpYes X0.here hx rfl (pc0 := 65) (pc' := 77) rfl (hb hby at_65) rfl (feq (by decide : ¬ ((5 : Int32) = (4 : Int32)))).2 (by decide) (by decide) ?_
      show oS p e below s₁ (mkF m 77 #[oI p1, oI 5, oU, oU] []) _
      exact k)
    obtain ⟨T29, X29, e29, st29⟩ := getS2 X0 hx hZ hown (host := "") (Or.inl (oW hw 17 rfl)) Via.refl e0 (s_CHANGE_IN_CONTROL.ext OL.2) (g := (mkF m 77 #[oI p1, oI 5, oU, oU] [])) rfl (hb hby at_77)
    have pre30 : oL p e below T29 (mkF m 84 #[oI p1, oI 5, oR w_CHANGE_IN_CONTROL, oI 1] [ow w_CHANGE_IN_CONTROL]) s₁ (entryFrame m #[(.int p1)] maxLocals) := fun t k => pre28 t (by
      refine st29 _ ?_
      refine XS.astoreN X29.here hx rfl (hb hby at_80) rfl rfl (l' := #[oI p1, oI 5, oR w_CHANGE_IN_CONTROL, oU]) rfl ?_
      refine XS.iconst X29.here hx rfl (hb hby at_81) ?_
      refine XS.istoreN X29.here hx rfl (hb hby at_82) rfl (l' := #[oI p1, oI 5, oR w_CHANGE_IN_CONTROL, oI 1]) rfl ?_
      show oS p e below T29 (mkF m 83 #[oI p1, oI 5, oR w_CHANGE_IN_CONTROL, oI 1] []) _
      refine XS.aloadN X29.here hx rfl (hb hby at_83) rfl rfl ?_
      exact k)
    obtain ⟨cq31, kq31, q31a, q31b, q31c⟩ := isOf hZ e29 (e_CHANGE_IN_CONTROL.ext OL.2)
    obtain ⟨_, _, ⟨T31, L31, k31, n31⟩, -, X31, ⟨Lc31, hQ31, l31, y31, z31⟩, st31⟩ := X29.virtualBack hx (y := (⟨"com/example/overcap/overcap/participant/EventKind", "ofCompany", "()Z"⟩ : MethodName)) (z := (⟨"com/example/overcap/overcap/participant/EventKind", "ofCompany", "()Z"⟩ : MethodName)) hown (mvT hZ (oW hw 4 rfl)) (mvT hZ (oW hw 5 rfl)) (notFace_of_selects (args := #[]) (mvT hZ (oW hw 7 rfl))) (mvT hZ (oW hw 7 rfl)) (mvT hZ (oW hw 6 rfl)) (by decide) (backOf (W := 0) (rm_isr l Z a0 hw [] w_CHANGE_IN_CONTROL w_CHANGE_IN_CONTROL 1 h0 n0 OL s_CHANGE_IN_CONTROL (by simp)) hZ (oW hw 8 rfl) (oW hw 2 rfl) (by decide) (by decide)) q31a q31c (g := (mkF m 84 #[oI p1, oI 5, oR w_CHANGE_IN_CONTROL, oI 1] [ow w_CHANGE_IN_CONTROL])) rfl (by rw [hml]; rfl) (Steps.refl _) (argsL := []) (rest := []) (lenOf pd___Z rfl) rfl (by show 2 * 0 + _ ≤ _; exact Nat.le_of_eq rfl) (hb hby at_84) (fun _ _ => ⟨rfl, e29, (by decide : 0 + 0 ≤ _), (by decide : 0 + 0 ≤ _)⟩)
    dsimp only [Pt.U, Pt.locs, Pt.cells, Pt.slots] at X31 l31 y31 z31 st31 hQ31
    subst l31 y31 z31
    obtain ⟨rfl, N31q, e31⟩ := hQ31
    have N31 := Fr.app N0 N31q
    have pre32 : oL p e below T31 (mkF m 96 #[oI p1, oI 5, oR w_CHANGE_IN_CONTROL, oI 1] [oi 1]) s₁ (entryFrame m #[(.int p1)] maxLocals) := fun t k => pre30 t (by
      refine st31.trans ?_
      refine XS.iloadN X31.here hx rfl (hb hby at_87) rfl ?_
      refine XS.icmpNo X31.here hx rfl (hb hby at_88) rfl (teq (by decide : (1 : Int32) = (1 : Int32))).2 ?_
      show oS p e below T31 (mkF m 91 #[oI p1, oI 5, oR w_CHANGE_IN_CONTROL, oI 1] []) _
      refine XS.iconst X31.here hx rfl (hb hby at_91) ?_
      refine XS.goto X31.here hx rfl (pc0 := 92) (pc' := 96) rfl (hb hby at_92) (by decide) (by decide) ?_
      exact k)
    obtain ⟨fs, hr, hrun, hended, hW, hsame⟩ := X31.leave (v := some (.int (1 : Int32))) (fun h => by rw [Bd.returns] at h; cases h)
    refine ⟨_, _, pre32 _ ?_, hrun, hended, _, _, rfl, ?_, ⟨_, rfl⟩, hW, hsame.mono (by decide) (by decide)⟩
    ·
      show oS p e below T31 (mkF m 96 #[oI p1, oI 5, oR w_CHANGE_IN_CONTROL, oI 1] [oi 1]) _
      exact retN X31 hx (t := .boolean) Bd.returns (by simp) (hb hby at_96) hr
    ·
      show Q_rm0 Z p1 w_SEPARATION w_RETIREMENT w_DEATH w_DISABILITY w_CAUSE w_CHANGE_IN_CONTROL h0 n0 _ T31.heap _
      rw [e31]
      exact ⟨rfl, N31⟩
set_option maxRecDepth 65536 in
set_option maxHeartbeats 40000000 in
theorem comes_1 {Post : Tables → Env → Array Value → State → Outcome → State → Prop} (hpost : ∀ tb e args s v u, (limb_1_1.after args s (.returned v) u = true ∧ limb_1_2.after args s (.returned v) u = true ∧ True) → FrameEnd s (.returned v) u (Jvm.fieldLocs frame_1_writes args s ++ Jvm.arrayLocs frame_1_arrays args s ++ Jvm.staticLocs frame_1_statics s) 0 0 → Post tb e args s (.returned v) u) :
    ArmFor flags0 classFile x code maxLocals ret World_1 tables_1 room_1 Calls_1 rest_1 Pre_1 Post := by
  intro l hfl _ _ p e ha hc hk s m args below hf hA hF happ hP
  obtain ⟨hcalls, hrest, hpre⟩ := hP
  obtain ⟨-, -, -, hnamed, -, -, -, hat⟩ := (Spec.applies_iff hf).mp happ
  obtain ⟨hg, hn⟩ := and_e (Cond.before_iff.mp (show (Jvm.Cond.and given_1 narrow_1).before args s = true from hpre))
  obtain ⟨hgl, hgr⟩ := and_e hg
  obtain ⟨w0, rfl⟩ : ∃ w0 : Value, args = #[w0] := by
    have hs : args.size = 1 := by simpa [Cond.value, given_1] using hgl
    obtain ⟨L⟩ := args
    match L, hs with
    | [w0], _ => exact ⟨w0, rfl⟩
  have hw := fun d (hd : d ∈ tables_1) => atoms_spec (ws := Jvm.Cond.code x code maxLocals ret :: tables_1) hat d (List.mem_cons_of_mem _ hd)
  have hfit : Fit s := fun {y c} hc i hi => by
    obtain ⟨ha, rfl⟩ := Array.getElem?_eq_some_iff.mp hc
    have q := List.all_eq_true.mp ((Array.all_eq_true_iff_forall_mem.mp hF) _ (Array.getElem_mem ha)) i (List.mem_range.mpr hi)
    simpa [Array.getElem?_eq_getElem hi] using q
  obtain ⟨i0, ei0⟩ := is_v hgr
  obtain rfl : w0 = (.int i0) := Option.some.inj ei0
  obtain ⟨hnl, hnr⟩ := and_e hn
  obtain ⟨v_SEPARATION, ev_SEPARATION⟩ := exa_v hnl
  have st_SEPARATION := Sta.start ev_SEPARATION (Or.inr ⟨(oW hw 2 rfl), (oW hw 3 rfl)⟩)
  have ex_SEPARATION := Exa.start ev_SEPARATION hnl
  obtain ⟨hnrl, hnrr⟩ := and_e hnr
  obtain ⟨v_CHANGE_IN_CONTROL, ev_CHANGE_IN_CONTROL⟩ := exa_v hnrl
  have st_CHANGE_IN_CONTROL := Sta.start ev_CHANGE_IN_CONTROL (Or.inr ⟨(oW hw 2 rfl), (oW hw 10 rfl)⟩)
  have ex_CHANGE_IN_CONTROL := Exa.start ev_CHANGE_IN_CONTROL hnrl
  obtain ⟨hnrrl, hnrrr⟩ := and_e hnrr
  have of_SEPARATION_ordinal := own_fldI ev_SEPARATION hnrrl
  obtain ⟨hnrrrl, hnrrrr⟩ := and_e hnrrr
  have of_CHANGE_IN_CONTROL_ordinal := own_fldI ev_CHANGE_IN_CONTROL hnrrrl
  obtain ⟨hnrrrrl, hnrrrrr⟩ := and_e hnrrrr
  obtain ⟨v_DISABILITY, ev_DISABILITY⟩ := exa_v hnrrrrl
  have st_DISABILITY := Sta.start ev_DISABILITY (Or.inr ⟨(oW hw 2 rfl), (oW hw 12 rfl)⟩)
  have ex_DISABILITY := Exa.start ev_DISABILITY hnrrrrl
  obtain ⟨hnrrrrrl, hnrrrrrr⟩ := and_e hnrrrrr
  have of_DISABILITY_ordinal := own_fldI ev_DISABILITY hnrrrrrl
  obtain ⟨hnrrrrrrl, hnrrrrrrr⟩ := and_e hnrrrrrr
  obtain ⟨v_DEATH, ev_DEATH⟩ := exa_v hnrrrrrrl
  have st_DEATH := Sta.start ev_DEATH (Or.inr ⟨(oW hw 2 rfl), (oW hw 14 rfl)⟩)
  have ex_DEATH := Exa.start ev_DEATH hnrrrrrrl
  obtain ⟨hnrrrrrrrl, hnrrrrrrrr⟩ := and_e hnrrrrrrr
  have of_DEATH_ordinal := own_fldI ev_DEATH hnrrrrrrrl
  obtain ⟨hnrrrrrrrrl, hnrrrrrrrrr⟩ := and_e hnrrrrrrrr
  obtain ⟨v_RETIREMENT, ev_RETIREMENT⟩ := exa_v hnrrrrrrrrl
  have st_RETIREMENT := Sta.start ev_RETIREMENT (Or.inr ⟨(oW hw 2 rfl), (oW hw 16 rfl)⟩)
  have ex_RETIREMENT := Exa.start ev_RETIREMENT hnrrrrrrrrl
  obtain ⟨hnrrrrrrrrrl, hnrrrrrrrrrr⟩ := and_e hnrrrrrrrrr
  have of_RETIREMENT_ordinal := own_fldI ev_RETIREMENT hnrrrrrrrrrl
  obtain ⟨hnrrrrrrrrrrl, hnrrrrrrrrrrr⟩ := and_e hnrrrrrrrrrr
  obtain ⟨v_CAUSE, ev_CAUSE⟩ := exa_v hnrrrrrrrrrrl
  have st_CAUSE := Sta.start ev_CAUSE (Or.inr ⟨(oW hw 2 rfl), (oW hw 19 rfl)⟩)
  have ex_CAUSE := Exa.start ev_CAUSE hnrrrrrrrrrrl
  have of_CAUSE_ordinal := own_fldI ev_CAUSE hnrrrrrrrrrrr
  obtain ⟨n, o, h1, h2, h3, _, L, rfl, ⟨rfl, N⟩, hq⟩ := rm0 l s _ hw tables_1 i0 v_SEPARATION v_RETIREMENT v_DEATH v_DISABILITY v_CAUSE v_CHANGE_IN_CONTROL s.heap s.heap.size (Old.start s) st_SEPARATION st_RETIREMENT st_DEATH st_DISABILITY st_CAUSE st_CHANGE_IN_CONTROL ex_SEPARATION ex_RETIREMENT ex_DEATH ex_DISABILITY ex_CAUSE ex_CHANGE_IN_CONTROL (Fld.ne of_SEPARATION_ordinal of_CHANGE_IN_CONTROL_ordinal (by simp)) (Fld.ne of_RETIREMENT_ordinal of_CHANGE_IN_CONTROL_ordinal (by simp)) (Fld.ne of_DEATH_ordinal of_CHANGE_IN_CONTROL_ordinal (by simp)) (Fld.ne of_DISABILITY_ordinal of_CHANGE_IN_CONTROL_ordinal (by simp)) (Fld.ne of_CAUSE_ordinal of_CHANGE_IN_CONTROL_ordinal (by simp)) p e ha hc hk s m _ below hf ((Spec.applies_iff_loose hf).mp happ).1 ⟨rfl, State.Warmed39.refl s, rfl⟩ trivial
  refine ⟨n, _, h1, h2, h3, hpost _ _ _ _ _ _ ⟨Cond.after_iff.mpr rfl, Cond.after_iff.mpr (eq_i res_at (Term.int_eval (1)) rfl), trivial⟩ ⟨hq.1, hq.2.1, (hq.2.2.sift fun y hy => Or.inr (N y hy)).mono (by decide) (by decide)⟩⟩
theorem main_1_1 : Claimed_1_1 := comes_1 fun _ _ _ _ _ _ h hF => ⟨h.1, hF⟩
theorem main_1_2 : Claimed_1_2 := comes_1 fun _ _ _ _ _ _ h hF => ⟨h.2.1, hF⟩
end Jvm.Pilot.@@N@@
namespace Jvm.Pilot.@@N@@
open Jvm Jvm.ClassFile Sem Op Lib Jvm.Free Jvm.Stand Jvm.Pilot.@@N@@.Jvm.D
/-! MADE BY PROGRAM (witnessworld.py) out of the Statement's table words and the real class files: 12 classes; the members and pool entries that the words name. The judged class is class 1, her method 1. -/
namespace start1
open Jvm.ClassFile
def u (s : String) : CpInfo := .utf8 (stringToUtf16 s)
/-- a pool by its gaps: so many unusable entries, then the entry; so many at the end -/
def gap : Nat → List CpInfo → List CpInfo
  | 0, r => r
  | n + 1, r => .unusable :: gap n r
def poolList (es : List (Nat × CpInfo)) (last : Nat) : List CpInfo := es.foldr (fun e r => gap e.1 (e.2 :: r)) (gap last [])
def pool (es : List (Nat × CpInfo)) (last : Nat) : Array CpInfo := ⟨poolList es last⟩
def fileOf (pool : Array CpInfo) (this : Nat) (attrs : Array Attribute := #[]) (ms : Array MethodInfo := #[]) (fl : Nat := 33) (sup : Nat := 0) (ifs : Array Nat := #[]) (fds : Array FieldInfo := #[]) : ClassFile where
  minorVersion := 0
  majorVersion := 65
  constantPool := pool
  accessFlags := fl
  thisClass := this
  superClass := sup
  interfaces := ifs
  fields := fds
  methods := ms
  attributes := attrs
def plain (name : String) (sup : Option ClassId) : Class where
  name := name
  kind := .ordinary
  loader := none
  accessFlags := 33
  super := sup
  interfaces := #[]
  cf := none
  fields := #[]
  methods := #[]
  instanceTypes := #[]
  staticTypes := #[]
  resolved := #[]
  callSites := []
  init := .initialized
  statics := none
  mirror := none

def pool0 : Array CpInfo := pool [(5, u "<init>"), (0, u "()V"), (1, .class_ 10), (1, u "java/lang/Object")] 113

def k0m0 : Method := { name := "<init>", desc := "()V", sig := { parameters := [], returnType := none }, accessFlags := 1, code := none }
/-- java/lang/Object -/
def k0 : Class := { plain "java/lang/Object" none with
  accessFlags := 33
  interfaces := #[]
  cf := some (fileOf pool0 8 #[] #[{ accessFlags := 1, nameIndex := 5, descriptorIndex := 6, attributes := #[] }] 33 0 #[] #[])
  fields := #[]
  methods := #[k0m0]
  instanceTypes := #[]
  staticTypes := #[]
  resolved := Array.replicate 124 none
  statics := none }

def pool1 : Array CpInfo := pool [(2, .class_ 4), (1, u "java/lang/Object"), (0, u "<init>"), (0, u "()V"), (0, .integer 2147483647), (0, .fieldref 9 10), (0, .class_ 11), (0, .nameAndType 12 13), (0, u "com/example/overcap/overcap/participant/EventKind"), (0, u "SEPARATION"), (0, u "Lcom/example/overcap/overcap/participant/EventKind;"), (0, .fieldref 9 15), (0, .nameAndType 16 13), (0, u "RETIREMENT"), (0, .fieldref 9 18), (0, .nameAndType 19 13), (0, u "DEATH"), (0, .fieldref 9 21), (0, .nameAndType 22 13), (0, u "DISABILITY"), (0, .fieldref 9 24), (0, .nameAndType 25 13), (0, u "CAUSE"), (0, .fieldref 9 27), (0, .nameAndType 28 13), (0, u "CHANGE_IN_CONTROL"), (0, .methodref 9 30), (0, .nameAndType 31 32), (0, u "ofCompany"), (0, u "()Z"), (0, .class_ 34), (0, u "com/example/overcap/overcap/participant/EventKindOfCompanyPinLaw"), (2, u "law"), (0, u "(I)Z")] 3

def k1m0 : Method := { name := "<init>", desc := "()V", sig := { parameters := [], returnType := none }, accessFlags := 1, code := none }
def k1c1 : Code := { maxStack := 2, maxLocals := 4, code := code, exceptionTable := #[], attributes := #[] }
def k1m1 : Method := { name := "law", desc := "(I)Z", sig := { parameters := [.int], returnType := some .boolean }, accessFlags := 9, code := some k1c1 }
/-- com/example/overcap/overcap/participant/EventKindOfCompanyPinLaw -/
def k1 : Class := { plain "com/example/overcap/overcap/participant/EventKindOfCompanyPinLaw" (some 0) with
  accessFlags := 49
  interfaces := #[]
  cf := some (fileOf pool1 33 #[] #[{ accessFlags := 1, nameIndex := 5, descriptorIndex := 6, attributes := #[] }, { accessFlags := 9, nameIndex := 37, descriptorIndex := 38, attributes := #[] }] 49 2 #[] #[])
  fields := #[]
  methods := #[k1m0, k1m1]
  instanceTypes := #[]
  staticTypes := #[]
  resolved := Array.replicate 42 none
  statics := none }

def pool2 : Array CpInfo := pool [(1, .class_ 2), (0, u "java/lang/constant/Constable"), (0, .class_ 4), (0, u "java/lang/Object")] 6

/-- java/lang/constant/Constable -/
def k2 : Class := { plain "java/lang/constant/Constable" (some 0) with
  accessFlags := 1537
  interfaces := #[]
  cf := some (fileOf pool2 1 #[] #[] 1537 3 #[] #[])
  fields := #[]
  methods := #[]
  instanceTypes := #[]
  staticTypes := #[]
  resolved := Array.replicate 11 none
  statics := none }

def pool3 : Array CpInfo := pool [(1, .class_ 2), (0, u "java/lang/Comparable"), (0, .class_ 4), (0, u "java/lang/Object")] 7

/-- java/lang/Comparable -/
def k3 : Class := { plain "java/lang/Comparable" (some 0) with
  accessFlags := 1537
  interfaces := #[]
  cf := some (fileOf pool3 1 #[] #[] 1537 3 #[] #[])
  fields := #[]
  methods := #[]
  instanceTypes := #[]
  staticTypes := #[]
  resolved := Array.replicate 12 none
  statics := none }

def pool4 : Array CpInfo := pool [(1, .class_ 2), (0, u "java/io/Serializable"), (0, .class_ 4), (0, u "java/lang/Object")] 2

/-- java/io/Serializable -/
def k4 : Class := { plain "java/io/Serializable" (some 0) with
  accessFlags := 1537
  interfaces := #[]
  cf := some (fileOf pool4 1 #[] #[] 1537 3 #[] #[])
  fields := #[]
  methods := #[]
  instanceTypes := #[]
  staticTypes := #[]
  resolved := Array.replicate 7 none
  statics := none }

def pool5 : Array CpInfo := pool [(2, .class_ 4), (1, u "java/lang/Enum"), (0, u "name"), (0, u "Ljava/lang/String;"), (2, u "ordinal"), (0, u "I"), (1, .class_ 14), (1, u "java/lang/Object"), (4, u "hash"), (86, .class_ 108), (1, u "java/lang/Enum$EnumDesc"), (2, .class_ 112), (0, u "java/lang/constant/Constable"), (0, .class_ 114), (0, u "java/lang/Comparable"), (0, .class_ 116), (0, u "java/io/Serializable")] 87

/-- java/lang/Enum -/
def k5 : Class := { plain "java/lang/Enum" (some 0) with
  accessFlags := 1057
  interfaces := #[2, 3, 4]
  cf := some (fileOf pool5 2 #[.nestMembers #[106]] #[] 1057 12 #[111, 113, 115] #[{ accessFlags := 18, nameIndex := 5, descriptorIndex := 6, attributes := #[] }, { accessFlags := 18, nameIndex := 9, descriptorIndex := 10, attributes := #[] }, { accessFlags := 2, nameIndex := 19, descriptorIndex := 10, attributes := #[] }])
  fields := #[{ name := "name", type := (.object "java/lang/String"), accessFlags := 18, slot := 0, constantValue := 0 }, { name := "ordinal", type := .int, accessFlags := 18, slot := 1, constantValue := 0 }, { name := "hash", type := .int, accessFlags := 2, slot := 2, constantValue := 0 }]
  methods := #[]
  instanceTypes := #[(.object "java/lang/String"), .int, .int]
  staticTypes := #[]
  resolved := Array.replicate 204 none
  statics := none }

def pool6 : Array CpInfo := pool [(1, .class_ 2), (0, u "com/example/overcap/overcap/participant/EventKind"), (2, u "SEPARATION"), (0, u "Lcom/example/overcap/overcap/participant/EventKind;"), (2, u "RETIREMENT"), (2, u "DEATH"), (2, u "DISABILITY"), (2, u "CAUSE"), (0, .fieldref 1 20), (0, .nameAndType 21 6), (0, u "CHANGE_IN_CONTROL"), (2, u "$VALUES"), (0, u "[Lcom/example/overcap/overcap/participant/EventKind;"), (6, .class_ 34), (1, u "java/lang/Enum"), (24, u "ofCompany"), (0, u "()Z")] 5

def k6c0 : Code := { maxStack := 2, maxLocals := 1, code := prog_11_method_4_code, exceptionTable := #[], attributes := #[] }
def k6m0 : Method := { name := "ofCompany", desc := "()Z", sig := { parameters := [], returnType := some .boolean }, accessFlags := 1, code := some k6c0 }
/-- com/example/overcap/overcap/participant/EventKind -/
def k6 : Class := { plain "com/example/overcap/overcap/participant/EventKind" (some 5) with
  accessFlags := 16433
  interfaces := #[]
  cf := some (fileOf pool6 1 #[] #[{ accessFlags := 1, nameIndex := 59, descriptorIndex := 60, attributes := #[] }] 16433 32 #[] #[{ accessFlags := 16409, nameIndex := 5, descriptorIndex := 6, attributes := #[] }, { accessFlags := 16409, nameIndex := 9, descriptorIndex := 6, attributes := #[] }, { accessFlags := 16409, nameIndex := 12, descriptorIndex := 6, attributes := #[] }, { accessFlags := 16409, nameIndex := 15, descriptorIndex := 6, attributes := #[] }, { accessFlags := 16409, nameIndex := 18, descriptorIndex := 6, attributes := #[] }, { accessFlags := 16409, nameIndex := 21, descriptorIndex := 6, attributes := #[] }, { accessFlags := 4122, nameIndex := 24, descriptorIndex := 25, attributes := #[] }])
  fields := #[{ name := "SEPARATION", type := (.object "com/example/overcap/overcap/participant/EventKind"), accessFlags := 16409, slot := 0, constantValue := 0 }, { name := "RETIREMENT", type := (.object "com/example/overcap/overcap/participant/EventKind"), accessFlags := 16409, slot := 1, constantValue := 0 }, { name := "DEATH", type := (.object "com/example/overcap/overcap/participant/EventKind"), accessFlags := 16409, slot := 2, constantValue := 0 }, { name := "DISABILITY", type := (.object "com/example/overcap/overcap/participant/EventKind"), accessFlags := 16409, slot := 3, constantValue := 0 }, { name := "CAUSE", type := (.object "com/example/overcap/overcap/participant/EventKind"), accessFlags := 16409, slot := 4, constantValue := 0 }, { name := "CHANGE_IN_CONTROL", type := (.object "com/example/overcap/overcap/participant/EventKind"), accessFlags := 16409, slot := 5, constantValue := 0 }, { name := "$VALUES", type := (.array (.object "com/example/overcap/overcap/participant/EventKind")), accessFlags := 4122, slot := 6, constantValue := 0 }]
  methods := #[k6m0]
  instanceTypes := #[(.object "java/lang/String"), .int, .int]
  staticTypes := #[(.object "com/example/overcap/overcap/participant/EventKind"), (.object "com/example/overcap/overcap/participant/EventKind"), (.object "com/example/overcap/overcap/participant/EventKind"), (.object "com/example/overcap/overcap/participant/EventKind"), (.object "com/example/overcap/overcap/participant/EventKind"), (.object "com/example/overcap/overcap/participant/EventKind"), (.array (.object "com/example/overcap/overcap/participant/EventKind"))]
  resolved := Array.replicate 66 none
  statics := some 0 }

def pool7 : Array CpInfo := pool [(1, u "java/lang/Cloneable"), (0, .class_ 1), (0, u "java/lang/Object"), (0, .class_ 3)] 3

/-- java/lang/Cloneable -/
def k7 : Class := { plain "java/lang/Cloneable" (some 0) with
  accessFlags := 1537
  interfaces := #[]
  cf := some (fileOf pool7 2 #[] #[] 1537 4 #[] #[])
  fields := #[]
  methods := #[]
  instanceTypes := #[]
  staticTypes := #[]
  resolved := Array.replicate 8 none
  statics := none }

/-- the primitive byte -/
def k8 : Class := { plain "byte" none with kind := .primitive 'B', accessFlags := 0x411 }
/-- [B -/
def k9 : Class := { plain "[B" (some 0) with kind := .array 8 .byte, interfaces := #[7, 4], accessFlags := 1041 }

/-- the primitive int -/
def k10 : Class := { plain "int" none with kind := .primitive 'I', accessFlags := 0x411 }
/-- [I -/
def k11 : Class := { plain "[I" (some 0) with kind := .array 10 .int, interfaces := #[7, 4], accessFlags := 1041 }

def heap : Heap := #[{ cls := 6, slots := #[.ref 1, .ref 2, .ref 3, .ref 4, .ref 5, .ref 6, .null], vm := .statics 6 },
  { cls := 6, slots := #[.null, .int 0, .int 0], vm := .none },
  { cls := 6, slots := #[.null, .int 1, .int 0], vm := .none },
  { cls := 6, slots := #[.null, .int 2, .int 0], vm := .none },
  { cls := 6, slots := #[.null, .int 3, .int 0], vm := .none },
  { cls := 6, slots := #[.null, .int 4, .int 0], vm := .none },
  { cls := 6, slots := #[.null, .int 5, .int 0], vm := .none }]
def classes : Array Class := #[k0, k1, k2, k3, k4, k5, k6, k7, k8, k9, k10, k11]
def interned : List (Array UInt16 × Addr) := []
def slotsUsed : Nat := 25
def theMethod : MethodId := ⟨1, 1⟩
def args0 : Array Value := #[.int 5]
def aboutOver (below : List Frame) : State where
  vm := { classes := classes, interned := interned.toArray }
  heap := heap
  slotsUsed := slotsUsed
  threads := #[{ frames := .invoking theMethod args0 :: below }]
def below0 : List Frame := [.native { method := ⟨0, 0⟩, args := #[] }]
def about1 : State := aboutOver below0
def p0 : Program := .bare "" "" ""
def e0 : Env := launch0.env 0 0 0
theorem w_frames : about1.frames = Frame.invoking theMethod args0 :: below0 := rfl
set_option maxRecDepth 65536 in
theorem w_args : argsFit about1.vm theMethod args0 = true := by decide +kernel
set_option maxRecDepth 65536 in
theorem w_heap : heapFits about1 = true := by decide +kernel
set_option maxRecDepth 65536 in
theorem w_runnable : about1.curStatus? = some .runnable := by decide +kernel
set_option maxRecDepth 65536 in
theorem w_alone : about1.alone = true := by decide +kernel
set_option maxRecDepth 65536 in
theorem w_named : about1.methodNamed? x = some theMethod := by decide +kernel
set_option maxRecDepth 65536 in
theorem w_hears : about1.hears theMethod below0 = true := by decide +kernel
set_option maxRecDepth 65536 in
theorem w_ripe : about1.ripe theMethod args0 below0 = true := by decide +kernel
theorem w_running : about1.status = .running := rfl
set_option maxRecDepth 65536 in
theorem w_room : about1.hasRoom e0.platform room_1 = true :=
  launch0.hasRoom_least _ room_1 (by decide +kernel) (by decide +kernel) (by decide +kernel) (by decide +kernel) (by decide +kernel) (by decide +kernel)
theorem allAtoms_all (ts : List Jvm.Cond) (a : Array Jvm.Value) (st : Jvm.State) : (allAtoms ts).before a st = ts.all (fun c => c.before a st) := by
  induction ts with
  | nil => rfl
  | cons c t ih =>
    show (Jvm.Cond.and c (allAtoms t)).before a st = _
    rw [Jvm.Cond.before_and, ih, List.all_cons]
def words1 : List Jvm.Cond := Jvm.Cond.code x code maxLocals ret :: tables_1
/-- a 'code' word, met by the world's own term for the bytes: nothing is compared byte by byte -/
theorem code_word {y : MethodName} {bytes : ByteArray} {mx : Nat} {rt : Option FieldType} {a : Array Value} {s : State} {m : MethodId} {meth : Method} {c : Code} (h1 : s.methodNamed? y = some m) (h2 : s.vm.method? m = some meth) (h3 : meth.code = some c) (h4 : c.code = bytes)
    (h5 : (c.maxLocals == mx && c.exceptionTable.isEmpty && decide (c.maxStack ≤ mostOperands) && decide (meth.sig.returnType = rt) && !meth.locks && decide (parseMethodDescriptor y.desc = some meth.sig)) = true) : (Jvm.Cond.code y bytes mx rt).before a s = true := by
  simp only [Bool.and_eq_true, beq_iff_eq, Bool.not_eq_true', decide_eq_true_eq] at h5
  obtain ⟨⟨⟨⟨⟨g1, g2⟩, g3⟩, g4⟩, g5⟩, g6⟩ := h5
  simp [Cond.before, Cond.holds, Cond.value, h1, h2, h3, h4, g1, g2, g3, g4, g5, g6]
def isCode : Jvm.Cond → Bool
  | .code _ _ _ _ => true
  | _ => false
theorem all_split {L : List Jvm.Cond} {P : Jvm.Cond → Bool} (h1 : L.all (fun c => isCode c || P c) = true) (h2 : ∀ c ∈ L.filter isCode, P c = true) : L.all P = true := by
  refine List.all_eq_true.mpr fun c hc => ?_
  have h := List.all_eq_true.mp h1 c hc
  rcases Bool.eq_false_or_eq_true (isCode c) with hi | hi
  · exact h2 c (List.mem_filter.mpr ⟨hc, hi⟩)
  · simpa [hi] using h
set_option maxRecDepth 65536 in
theorem w_c0 : (Jvm.Cond.code x code maxLocals ret).before args0 about1 = true := code_word (m := ⟨1, 1⟩) (meth := k1m1) (c := k1c1) (by decide +kernel) rfl rfl rfl (by decide +kernel)
set_option maxRecDepth 65536 in
theorem w_c1 : (Jvm.Cond.code ({ cls := "com/example/overcap/overcap/participant/EventKind", name := "ofCompany", desc := "()Z" } : Jvm.MethodName) prog_11_method_4_code (1 : Nat) (Option.some Jvm.ClassFile.FieldType.boolean)).before args0 about1 = true := code_word (m := ⟨6, 0⟩) (meth := k6m0) (c := k6c0) (by decide +kernel) rfl rfl rfl (by decide +kernel)
def codes1 : List Jvm.Cond := [Jvm.Cond.code x code maxLocals ret, Jvm.Cond.code ({ cls := "com/example/overcap/overcap/participant/EventKind", name := "ofCompany", desc := "()Z" } : Jvm.MethodName) prog_11_method_4_code (1 : Nat) (Option.some Jvm.ClassFile.FieldType.boolean)]
set_option maxRecDepth 65536 in
theorem codes_eq : words1.filter isCode = codes1 := rfl
theorem w_codes : ∀ c ∈ words1.filter isCode, c.before args0 about1 = true := by
  rw [codes_eq]
  intro c hc
  simp only [codes1, List.mem_cons, List.not_mem_nil, or_false] at hc
  rcases hc with rfl | rfl
  · exact w_c0
  · exact w_c1
set_option maxRecDepth 65536 in
theorem w_t1 : words1.all (fun c => isCode c || c.before args0 about1) = true := by decide +kernel
theorem w_tables : (allAtoms (Jvm.Cond.code x code maxLocals ret :: tables_1)).before args0 about1 = true := by
  rw [allAtoms_all]
  show words1.all (fun c => c.before args0 about1) = true
  refine all_split ?_ w_codes
  rw [w_t1]
set_option maxRecDepth 65536 in
theorem w_case : (Jvm.Cond.and given_1 narrow_1).before args0 about1 = true := by decide +kernel
theorem w_applies : (headSpec (Jvm.Cond.code x code maxLocals ret :: tables_1) room_1).applies x e0.platform about1 = true :=
  (Spec.applies_iff w_frames).mpr ⟨w_running, w_runnable, w_alone, w_named, w_hears, w_ripe, w_room, w_tables⟩
theorem atStart : AtStart classFile x code maxLocals ret World_1 tables_1 room_1 Calls_1 rest_1 Pre_1 launch0 p0 e0 about1 theMethod args0 below0 :=
  ⟨lists_1, trivial, launch0.admits_env _ _ _, launch0.least_env, fairChoices_fair.cas, fairChoices_fair.clock, w_frames, w_args, w_heap, w_applies, trivial, trivial, w_case⟩
end start1
theorem witness_1 : WitnessClaimed_1 := ⟨start1.p0, start1.e0, start1.about1, start1.theMethod, start1.args0, start1.below0, start1.atStart⟩
end Jvm.Pilot.@@N@@
