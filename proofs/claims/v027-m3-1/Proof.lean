import JvmDerived
import JvmDerived.Pilot.@@N@@Statement
import JvmDerived.Pilot.@@N@@Code
set_option linter.unusedVariables false
set_option linter.unusedSimpArgs false
namespace Jvm.RoadKit
open Sem ClassFile Op Lib Jvm.Stand Jvm.Free Jvm.LawKit
section New
variable {p : Program} {l : Launch} {e : Env} {R : Room} {s : State} {m : MethodId} {args : Array Value} {below : List Frame} {meth : Method} {c : Code} {T : State} {locs : List Loc} {cells slots : Nat}
theorem retI (X : Stand p l e R s m args below meth c T locs cells slots) (hx : p.tables.exec = Jvm.exec) {pc : Nat} {Ls : Array Slot} {z : Int32} {rest : List Value} (hret : meth.sig.returnType = some .int) (hd : decode c.code pc = .ok (.ireturn, 1)) {fs : List Frame}
    (hl : ∀ (f : JFrame) (acts : List Action), f.method = m → f.locked = none → f.entered = [] → (doReturn e (T.setTop f) acts (some (.int z))).1 = T.setFrames fs) : Steps p.tables e below (T.setTop (mkF m pc Ls (.int z :: rest))) (T.setFrames fs) := by
  have hm' : T.vm.method? m = some meth := X.method'
  have hn : narrow .int (.int z) = .int z := rfl
  show Steps p.tables e below (T.setTop { method := m, pc := pc, locals := Ls, stack := _ :: rest, locked := none }) _
  jvm_step X.here [X.here.top, hx, hd, hm', hret, hn]
  first | (intro acts; rw [hl _ acts rfl rfl rfl]) | rw [hl _ _ rfl rfl rfl]
  exact Steps.refl _
end New
end Jvm.RoadKit
/- laws to paste: Road.backV (cut by pick.py; bodies as the Statement names them) -/
namespace Jvm.Pilot.@@N@@
namespace StrChars
open Jvm Sem ClassFile Op Lib Jvm.Stand Jvm.Free.XT Jvm.Free.ALB Jvm.Free.JM Jvm.Free
open Jvm.Lib.Cold (StaticIs)
/-- a char array whose places are chars -/
def Ch (a : Addr) (A : Cell) (U : State) : Prop := Arr .char a A U ∧ Typed .char A
theorem Ch.mv {a : Addr} {A : Cell} {U U' : State} (h : Ch a A U) (hal : U.vm.Alike U'.vm) (hh : U'.heap = U.heap) : Ch a A U' := ⟨h.1.mv hal hh, h.2⟩
theorem Ch.keep {a : Addr} {A : Cell} {U U' : State} (h : Ch a A U) (hal : U.vm.Alike U'.vm) (hk : U'.heap[a]? = some A) : Ch a A U' := ⟨h.1.keep hal hk, h.2⟩
/-- what place i of a char[]'s cell holds -/
def cv (A : Cell) (i : Nat) : Int32 := match A.slots[i]? with | some (.int x) => x | _ => 0
theorem Ch.get {a : Addr} {A : Cell} {U : State} (h : Ch a A U) {i : Nat} (hi : i < A.slots.size) : A.slots[i]? = some (.int (cv A i)) := by
  have e := Array.getElem?_eq_getElem hi
  have f := h.2 i _ e
  unfold cv; rw [e]
  generalize A.slots[i] = v at f
  cases v <;> simp [fits] at f ⊢
/-- the byte that i2b leaves of a char -/
def lo8 (x : Int32) : Int32 := x.toInt8.toInt32
theorem fits_lo8 (y : Int32) : fits .byte (.int (lo8 y)) = true := by
  have h1 := y.toInt8.le_toInt
  have h2 := y.toInt8.toInt_lt
  simp only [lo8, fits, Bool.and_eq_true, decide_eq_true_eq, Int32.le_iff_toInt_le, Int8.toInt_toInt32, show (-128 : Int32).toInt = -128 from by decide, show (127 : Int32).toInt = 127 from by decide]
  omega
/-- A' is A but that each place j of lo .. hi - 1 holds f j -/
def Laid (A A' : Cell) (lo hi : Nat) (f : Nat → Value) : Prop := A'.cls = A.cls ∧ A'.vm = A.vm ∧ A'.slots.size = A.slots.size ∧ ∀ i, A'.slots[i]? = if lo ≤ i ∧ i < hi then some (f i) else A.slots[i]?
theorem Laid.zero (A : Cell) (lo : Nat) (f : Nat → Value) : Laid A A lo (lo + 0) f := ⟨rfl, rfl, rfl, fun i => by rw [if_neg (by omega)]⟩
theorem Laid.step {A Ak : Cell} {lo k : Nat} {f : Nat → Value} {v : Value} (h : Laid A Ak lo k f) (hlo : lo ≤ k) (hk : k < Ak.slots.size) (hv : v = f k) : Laid A (Ak.setSlot k v) lo (k + 1) f := by
  refine ⟨h.1, h.2.1, by simpa [Cell.setSlot] using h.2.2.1, fun i => ?_⟩
  by_cases e : k = i
  · subst e; rw [Cell.slots_setSlot_self v hk, if_pos (by omega), hv]
  · rw [Cell.slots_setSlot_ne v e, h.2.2.2 i]
    by_cases q : lo ≤ i ∧ i < k
    · rw [if_pos q, if_pos (by omega)]
    · rw [if_neg q, if_neg (by omega)]
def U16 : String := "java/lang/StringUTF16"
namespace Cmp5
def yN : MethodName := ⟨"java/lang/StringUTF16", "compress", "([CI[BII)I"⟩
abbrev yB : ByteArray := jdk_52_method_21_code
theorem d0 : decode yB 0 = .ok (.iconst 0, 1) := by decide +kernel
theorem d1 : decode yB 1 = .ok (.istore 5, 2) := by decide +kernel
theorem d3 : decode yB 3 = .ok (.iload 5, 2) := by decide +kernel
theorem d5 : decode yB 5 = .ok (.iload 4, 2) := by decide +kernel
theorem d7 : decode yB 7 = .ok (.if_icmp (.ge) 37, 3) := by decide +kernel
theorem d10 : decode yB 10 = .ok (.aload_n 0, 1) := by decide +kernel
theorem d11 : decode yB 11 = .ok (.iload_n 1, 1) := by decide +kernel
theorem d12 : decode yB 12 = .ok (.caload, 1) := by decide +kernel
theorem d13 : decode yB 13 = .ok (.istore 6, 2) := by decide +kernel
theorem d15 : decode yB 15 = .ok (.iload 6, 2) := by decide +kernel
theorem d17 : decode yB 17 = .ok (.sipush 255, 3) := by decide +kernel
theorem d20 : decode yB 20 = .ok (.if_icmp (.le) 6, 3) := by decide +kernel
theorem d26 : decode yB 26 = .ok (.aload_n 2, 1) := by decide +kernel
theorem d27 : decode yB 27 = .ok (.iload_n 3, 1) := by decide +kernel
theorem d28 : decode yB 28 = .ok (.iload 6, 2) := by decide +kernel
theorem d30 : decode yB 30 = .ok (.i2b, 1) := by decide +kernel
theorem d31 : decode yB 31 = .ok (.bastore, 1) := by decide +kernel
theorem d32 : decode yB 32 = .ok (.iinc 1 1, 3) := by decide +kernel
theorem d35 : decode yB 35 = .ok (.iinc 3 1, 3) := by decide +kernel
theorem d38 : decode yB 38 = .ok (.iinc 5 1, 3) := by decide +kernel
theorem d41 : decode yB 41 = .ok (.goto (-38), 3) := by decide +kernel
theorem d44 : decode yB 44 = .ok (.iload 4, 2) := by decide +kernel
theorem d46 : decode yB 46 = .ok (.ireturn, 1) := by decide +kernel
def site : List Cond := []
def tab : Cond := tabOf yN yB 7 (some .int) site
def P (b : Addr) (A : Cell) (d : Addr) (B : Cell) (o q len : Nat) (args : Array Value) (s : State) : Prop := args = #[.ref b, .int (Int32.ofNat o), .ref d, .int (Int32.ofNat q), .int (Int32.ofNat len)] ∧ Ch b A s ∧ Arr .byte d B s ∧ b ≠ d ∧ o + len ≤ A.slots.size ∧ q + len ≤ B.slots.size ∧ ∀ i, i < len → ¬ 255 < cv A (o + i)
def E (b : Addr) (A : Cell) (d : Addr) (B : Cell) (o q len : Nat) (r : Option Value) (s u : State) : Prop := r = some (.int (Int32.ofNat len)) ∧ ∃ B', Put d B' s u ∧ Laid B B' q (q + len) (fun j => Value.int (lo8 (cv A (o + (j - q)))))
/-- no char of the range above 255: len; the places written hold each char's low byte -/
theorem law (l : Launch) (b : Addr) (A : Cell) (d : Addr) (B : Cell) (o q len : Nat) : Law l yN 5 5 0 0 yB 7 (some .int) site (P b A d B o q len) (E b A d B o q len) (copyLocs d q len) 0 0 := by
  refine Law.of_walk (plainFor_of_name (by decide +kernel)) (by decide +kernel) (by decide +kernel) (by decide) (fun _ _ h => by rw [h.1]; rfl) (fun _ U U' hal hh h => ⟨h.1, h.2.1.mv hal hh, h.2.2.1.mv hal hh, h.2.2.2⟩) (fun r U U' V V' h1 hal h2 h => ⟨h.1, h.2.elim fun B' q => ⟨B', q.1.mv h1 h2, q.2⟩⟩) ?_
  intro p e s m args below meth c s₁ X0 hexec hbytes hml hret hlk hnm hown hh0 W hP
  obtain ⟨rfl, hA, hB, hne, l1, l2, hp⟩ := hP
  have c1 : Steps p.tables e below (s₁.setTop (entryFrame m #[.ref b, .int (Int32.ofNat o), .ref d, .int (Int32.ofNat q), .int (Int32.ofNat len)] 7)) (s₁.setTop (mkF m 0 #[.val (.ref b), .val (.int (Int32.ofNat o)), .val (.ref d), .val (.int (Int32.ofNat q)), .val (.int (Int32.ofNat len)), .unset, .unset] [])) := entry rfl
  have hA0 := hA.1.mv X0.warmed.alike hh0
  have hB0 := hB.mv X0.warmed.alike hh0
  have a31 := hA.1.2.2.2
  have c2 : Steps p.tables e below (s₁.setTop (entryFrame m #[.ref b, .int (Int32.ofNat o), .ref d, .int (Int32.ofNat q), .int (Int32.ofNat len)] 7)) (s₁.setTop (mkF m 3 #[.val (.ref b), .val (.int (Int32.ofNat o)), .val (.ref d), .val (.int (Int32.ofNat q)), .val (.int (Int32.ofNat len)), .val (.int 0), .unset] [])) := c1.trans (by
    refine iconstV X0.here hexec rfl 0 (hb hbytes d0) (by decide) ?_
    refine XS.istore X0.here hexec rfl (hb hbytes d1) rfl rfl ?_
    exact Steps.refl _)
  have loop : ∀ (r i : Nat), i + r = len → ∀ (z : Slot), (z = .unset ∨ ∃ w, z = .val w ∧ w.category = 1) → ∀ (Tl : State) (Bk : Cell), Stand p l e { frames := 0, locals := 0, cells := 0, slots := 0 } s m #[.ref b, .int (Int32.ofNat o), .ref d, .int (Int32.ofNat q), .int (Int32.ofNat len)] below meth c Tl ([] ++ copyLocs d q i) 0 0 → Put d Bk s₁ Tl → Laid B Bk q (q + i) (fun j => Value.int (lo8 (cv A (o + (j - q))))) →
      Steps p.tables e below (s₁.setTop (entryFrame m #[.ref b, .int (Int32.ofNat o), .ref d, .int (Int32.ofNat q), .int (Int32.ofNat len)] 7)) (Tl.setTop (mkF m 3 #[.val (.ref b), .val (.int (Int32.ofNat (o + i))), .val (.ref d), .val (.int (Int32.ofNat (q + i))), .val (.int (Int32.ofNat len)), .val (.int (Int32.ofNat i)), z] [])) → ∃ (T' : State) (B' : Cell) (z' : Slot), Stand p l e { frames := 0, locals := 0, cells := 0, slots := 0 } s m #[.ref b, .int (Int32.ofNat o), .ref d, .int (Int32.ofNat q), .int (Int32.ofNat len)] below meth c T' ([] ++ copyLocs d q len) 0 0 ∧ Put d B' s₁ T' ∧ Laid B B' q (q + len) (fun j => Value.int (lo8 (cv A (o + (j - q))))) ∧
      Steps p.tables e below (s₁.setTop (entryFrame m #[.ref b, .int (Int32.ofNat o), .ref d, .int (Int32.ofNat q), .int (Int32.ofNat len)] 7)) (T'.setTop (mkF m 3 #[.val (.ref b), .val (.int (Int32.ofNat (o + len))), .val (.ref d), .val (.int (Int32.ofNat (q + len))), .val (.int (Int32.ofNat len)), .val (.int (Int32.ofNat len)), z'] [])) := by
    intro r
    induction r with
    | zero =>
      intro i hi z hz Tl Bk Xl pl fl cl
      have hil : i = len := by omega
      rw [hil] at Xl fl cl
      exact ⟨Tl, Bk, z, Xl, pl, fl, cl⟩
    | succ r ih =>
      intro i hi z hz Tl Bk Xl pl fl cl
      have all := X0.warmed.alike.symm.trans Xl.warmed.alike
      have hAl := hA0.keep all (pl.other hne hA0.1)
      have hBk := hB0.like all pl.1 fl.1 fl.2.1 fl.2.2.1
      have hlt : q + i < Bk.slots.size := by rw [fl.2.2.1]; omega
      have c3 : Steps p.tables e below (s₁.setTop (entryFrame m #[.ref b, .int (Int32.ofNat o), .ref d, .int (Int32.ofNat q), .int (Int32.ofNat len)] 7)) (Tl.setTop (mkF m 12 #[.val (.ref b), .val (.int (Int32.ofNat (o + i))), .val (.ref d), .val (.int (Int32.ofNat (q + i))), .val (.int (Int32.ofNat len)), .val (.int (Int32.ofNat i)), z] [.int (Int32.ofNat (o + i)), .ref b])) := cl.trans (by
        refine XS.iload Xl.here hexec rfl (hb hbytes d3) rfl ?_
        refine XS.iload Xl.here hexec rfl (hb hbytes d5) rfl ?_
        refine XS.icmpNo Xl.here hexec rfl (hb hbytes d7) rfl (ii_ge_f (lt32 (by omega) (by omega))) ?_
        refine XS.aloadN Xl.here hexec rfl (hb hbytes d10) rfl rfl ?_
        refine XS.iloadN Xl.here hexec rfl (hb hbytes d11) rfl ?_
        exact Steps.refl _)
      have c4 : Steps p.tables e below (s₁.setTop (entryFrame m #[.ref b, .int (Int32.ofNat o), .ref d, .int (Int32.ofNat q), .int (Int32.ofNat len)] 7)) (Tl.setTop (mkF m 13 #[.val (.ref b), .val (.int (Int32.ofNat (o + i))), .val (.ref d), .val (.int (Int32.ofNat (q + i))), .val (.int (Int32.ofNat len)), .val (.int (Int32.ofNat i)), z] [.int (cv A (o + i))])) := c3.trans (by
        refine Xl.aget hexec hAl rfl (hA.get (i := o + i) (by omega)) rfl rfl (hb hbytes d12) ?_
        exact Steps.refl _)
      have c5 : Steps p.tables e below (s₁.setTop (entryFrame m #[.ref b, .int (Int32.ofNat o), .ref d, .int (Int32.ofNat q), .int (Int32.ofNat len)] 7)) (Tl.setTop (mkF m 15 #[.val (.ref b), .val (.int (Int32.ofNat (o + i))), .val (.ref d), .val (.int (Int32.ofNat (q + i))), .val (.int (Int32.ofNat len)), .val (.int (Int32.ofNat i)), .val (.int (cv A (o + i)))] [])) := c4.trans (by
        refine XS.istoreS Xl.here hexec rfl (hb hbytes d13) rfl rfl hz ?_
        exact Steps.refl _)
      have c6 : Steps p.tables e below (s₁.setTop (entryFrame m #[.ref b, .int (Int32.ofNat o), .ref d, .int (Int32.ofNat q), .int (Int32.ofNat len)] 7)) (Tl.setTop (mkF m 31 #[.val (.ref b), .val (.int (Int32.ofNat (o + i))), .val (.ref d), .val (.int (Int32.ofNat (q + i))), .val (.int (Int32.ofNat len)), .val (.int (Int32.ofNat i)), .val (.int (cv A (o + i)))] [.int (lo8 (cv A (o + i))), .int (Int32.ofNat (q + i)), .ref d])) := c5.trans (by
        refine XS.iload Xl.here hexec rfl (hb hbytes d15) rfl ?_
        refine sipushV Xl.here hexec rfl 255 (hb hbytes d17) (by decide) ?_
        refine XS.icmpYes Xl.here hexec rfl (pc0 := 20) rfl (hb hbytes d20) rfl (ii_le_t (hp i (by omega))) (by decide) rfl ?_
        refine XS.aloadN Xl.here hexec rfl (hb hbytes d26) rfl rfl ?_
        refine XS.iloadN Xl.here hexec rfl (hb hbytes d27) rfl ?_
        refine XS.iload Xl.here hexec rfl (hb hbytes d28) rfl ?_
        refine i2b Xl.here hexec rfl (hb hbytes d30) rfl ?_
        exact Steps.refl _)
      obtain ⟨T7, X7, p7, st7⟩ := Xl.aput hexec hBk rfl hlt rfl (fits_lo8 (cv A (o + i))) (g := (mkF m 31 #[.val (.ref b), .val (.int (Int32.ofNat (o + i))), .val (.ref d), .val (.int (Int32.ofNat (q + i))), .val (.int (Int32.ofNat len)), .val (.int (Int32.ofNat i)), .val (.int (cv A (o + i)))] [.int (lo8 (cv A (o + i))), .int (Int32.ofNat (q + i)), .ref d])) rfl (rest := []) rfl (hb hbytes d31)
      have c8 : Steps p.tables e below (s₁.setTop (entryFrame m #[.ref b, .int (Int32.ofNat o), .ref d, .int (Int32.ofNat q), .int (Int32.ofNat len)] 7)) (T7.setTop (mkF m 32 #[.val (.ref b), .val (.int (Int32.ofNat (o + i))), .val (.ref d), .val (.int (Int32.ofNat (q + i))), .val (.int (Int32.ofNat len)), .val (.int (Int32.ofNat i)), .val (.int (cv A (o + i)))] [])) := c6.trans (st7 _ (Steps.refl _))
      have c9 : Steps p.tables e below (s₁.setTop (entryFrame m #[.ref b, .int (Int32.ofNat o), .ref d, .int (Int32.ofNat q), .int (Int32.ofNat len)] 7)) (T7.setTop (mkF m 3 #[.val (.ref b), .val (.int (Int32.ofNat (o + i) + 1)), .val (.ref d), .val (.int (Int32.ofNat (q + i) + 1)), .val (.int (Int32.ofNat len)), .val (.int (Int32.ofNat i + 1)), .val (.int (cv A (o + i)))] [])) := c8.trans (by
        refine iincV X7.here hexec rfl 1 (hb hbytes d32) (by decide) rfl rfl ?_
        refine iincV X7.here hexec rfl 1 (hb hbytes d35) (by decide) rfl rfl ?_
        refine iincV X7.here hexec rfl 1 (hb hbytes d38) (by decide) rfl rfl ?_
        refine XS.goto X7.here hexec rfl (pc0 := 41) rfl (hb hbytes d41) (by decide) rfl ?_
        exact Steps.refl _)
      have c10 : Steps p.tables e below (s₁.setTop (entryFrame m #[.ref b, .int (Int32.ofNat o), .ref d, .int (Int32.ofNat q), .int (Int32.ofNat len)] 7)) (T7.setTop (mkF m 3 #[.val (.ref b), .val (.int (Int32.ofNat (o + (i + 1)))), .val (.ref d), .val (.int (Int32.ofNat (q + (i + 1)))), .val (.int (Int32.ofNat len)), .val (.int (Int32.ofNat (i + 1))), .val (.int (cv A (o + i)))] [])) := by
        have := c9
        rw [succ32, succ32, succ32] at this
        exact this
      exact ih (i + 1) (by omega) _ (Or.inr ⟨_, rfl, rfl⟩) T7 _ (by rw [copyLocs_step, ← List.append_assoc]; exact X7) (pl.trans p7) (fl.step (by omega) hlt (by simp)) c10
  obtain ⟨T9, B9, z9, X9, p9, f9, g9⟩ := loop len 0 (by omega) .unset (Or.inl rfl) s₁ B (by simpa [copyLocs] using X0) ⟨hB0.1, fun _ _ => rfl, rfl⟩ (Laid.zero _ _ _) c2
  have c11 : Steps p.tables e below (s₁.setTop (entryFrame m #[.ref b, .int (Int32.ofNat o), .ref d, .int (Int32.ofNat q), .int (Int32.ofNat len)] 7)) (T9.setTop (mkF m 46 #[.val (.ref b), .val (.int (Int32.ofNat (o + len))), .val (.ref d), .val (.int (Int32.ofNat (q + len))), .val (.int (Int32.ofNat len)), .val (.int (Int32.ofNat len)), z9] [.int (Int32.ofNat len)])) := g9.trans (by
    refine XS.iload X9.here hexec rfl (hb hbytes d3) rfl ?_
    refine XS.iload X9.here hexec rfl (hb hbytes d5) rfl ?_
    refine XS.icmpYes X9.here hexec rfl (pc0 := 7) rfl (hb hbytes d7) rfl (ii_ge_t (nlt32 (by omega) (Nat.le_refl _))) (by decide) rfl ?_
    refine XS.iload X9.here hexec rfl (hb hbytes d44) rfl ?_
    exact Steps.refl _)
  exact ⟨T9, some (.int (Int32.ofNat len)), _, _, _, X9, by simp, rfl, rfl, (fun h => by cases h), ⟨rfl, B9, p9.from hh0, f9⟩, fun fs hl => c11.trans (X9.ireturnOut hexec hret rfl (Or.inl rfl) (hb hbytes d46) hl)⟩
end Cmp5
namespace Cmp3
def yN : MethodName := ⟨"java/lang/StringUTF16", "compress", "([CII)[B"⟩
abbrev yB : ByteArray := jdk_52_method_16_code
theorem d0 : decode yB 0 = .ok (.iload_n 2, 1) := by decide +kernel
theorem d1 : decode yB 1 = .ok (.newarray .byte, 2) := by decide +kernel
theorem d3 : decode yB 3 = .ok (.astore_n 3, 1) := by decide +kernel
theorem d4 : decode yB 4 = .ok (.aload_n 0, 1) := by decide +kernel
theorem d5 : decode yB 5 = .ok (.iload_n 1, 1) := by decide +kernel
theorem d6 : decode yB 6 = .ok (.aload_n 3, 1) := by decide +kernel
theorem d7 : decode yB 7 = .ok (.iconst 0, 1) := by decide +kernel
theorem d8 : decode yB 8 = .ok (.iload_n 2, 1) := by decide +kernel
theorem d9 : decode yB 9 = .ok (.invokestatic 115, 3) := by decide +kernel
theorem d12 : decode yB 12 = .ok (.istore 4, 2) := by decide +kernel
theorem d14 : decode yB 14 = .ok (.iload 4, 2) := by decide +kernel
theorem d16 : decode yB 16 = .ok (.iload_n 2, 1) := by decide +kernel
theorem d17 : decode yB 17 = .ok (.if_icmp (.eq) 40, 3) := by decide +kernel
theorem d57 : decode yB 57 = .ok (.aload_n 3, 1) := by decide +kernel
theorem d58 : decode yB 58 = .ok (.areturn, 1) := by decide +kernel
def site : List Cond := [.arrayClass .byte, Cmp5.tab] ++ staticW U16 115 Cmp5.yN
def tab : Cond := tabOf yN yB 6 (some (.array .byte)) site
def P (b : Addr) (A : Cell) (o len : Nat) (args : Array Value) (s : State) : Prop := args = #[.ref b, .int (Int32.ofNat o), .int (Int32.ofNat len)] ∧ Ch b A s ∧ o + len ≤ A.slots.size ∧ len ≤ 536870912 ∧ ∀ i, i < len → ¬ 255 < cv A (o + i)
def E (b : Addr) (A : Cell) (o len : Nat) (r : Option Value) (s u : State) : Prop := NewArr .byte "[B" len (fun j => .int (lo8 (cv A (o + j)))) r s u ∧ u.heap.size = s.heap.size + 1
/-- no char of the range above 255: a new byte[] of their low bytes -/
theorem law (l : Launch) (b : Addr) (A : Cell) (o len : Nat) : Law l yN 3 3 1 18 yB 6 (some (.array .byte)) site (P b A o len) (E b A o len) [] 1 len := by
  refine Law.of_walk (plainFor_of_name (by decide +kernel)) (by decide +kernel) (by decide +kernel) (by decide) (fun _ _ h => by rw [h.1]; rfl) (fun _ U U' hal hh h => ⟨h.1, h.2.1.mv hal hh, h.2.2⟩) (fun r U U' V V' h1 hal h2 h => ⟨NewArr.mv r U U' V V' h1 hal h2 h.1, by rw [h1, h2]; exact h.2⟩) ?_
  intro p e s m args below meth c s₁ X0 hexec hbytes hml hret hlk hnm hown hh0 W hP
  obtain ⟨rfl, hA, l1, l2, hp⟩ := hP
  have a31 := hA.1.2.2.2
  have c1 : Steps p.tables e below (s₁.setTop (entryFrame m #[.ref b, .int (Int32.ofNat o), .int (Int32.ofNat len)] 6)) (s₁.setTop (mkF m 0 #[.val (.ref b), .val (.int (Int32.ofNat o)), .val (.int (Int32.ofNat len)), .unset, .unset, .unset] [])) := entry rfl
  have c2 : Steps p.tables e below (s₁.setTop (entryFrame m #[.ref b, .int (Int32.ofNat o), .int (Int32.ofNat len)] 6)) (s₁.setTop (mkF m 1 #[.val (.ref b), .val (.int (Int32.ofNat o)), .val (.int (Int32.ofNat len)), .unset, .unset, .unset] [.int (Int32.ofNat len)])) := c1.trans (by
    refine XS.iloadN X0.here hexec rfl (hb hbytes d0) rfl ?_
    exact Steps.refl _)
  obtain ⟨T3, B3, X3, ba3, bs3, bv3, bh3, bf3, st3⟩ := X0.anew hexec (atype := .byte) (wk W (.arrayClass .byte)) rfl (by show len * 1 ≤ _; omega) (by omega) (g := (mkF m 1 #[.val (.ref b), .val (.int (Int32.ofNat o)), .val (.int (Int32.ofNat len)), .unset, .unset, .unset] [.int (Int32.ofNat len)])) rfl (hb hbytes d1) (rest := []) rfl (Nat.le_refl _) (by show 0 + len ≤ len; omega)
  rw [hh0] at ba3 st3
  have kp3 : XT.Kept s T3 := (XT.Kept.of_eq hh0).push bh3
  have hA3 := hA.keep X3.warmed.alike (kp3 _ _ hA.1.1)
  have hne : b ≠ s.heap.size := hA.1.ne
  have c4 : Steps p.tables e below (s₁.setTop (entryFrame m #[.ref b, .int (Int32.ofNat o), .int (Int32.ofNat len)] 6)) (T3.setTop (mkF m 3 #[.val (.ref b), .val (.int (Int32.ofNat o)), .val (.int (Int32.ofNat len)), .unset, .unset, .unset] [.ref s.heap.size])) := c2.trans (st3 _ (Steps.refl _))
  have c5 : Steps p.tables e below (s₁.setTop (entryFrame m #[.ref b, .int (Int32.ofNat o), .int (Int32.ofNat len)] 6)) (T3.setTop (mkF m 9 #[.val (.ref b), .val (.int (Int32.ofNat o)), .val (.int (Int32.ofNat len)), .val (.ref s.heap.size), .unset, .unset] [.int (Int32.ofNat len), .int 0, .ref s.heap.size, .int (Int32.ofNat o), .ref b])) := c4.trans (by
    refine XS.astoreN X3.here hexec rfl (hb hbytes d3) rfl rfl rfl ?_
    refine XS.aloadN X3.here hexec rfl (hb hbytes d4) rfl rfl ?_
    refine XS.iloadN X3.here hexec rfl (hb hbytes d5) rfl ?_
    refine XS.aloadN X3.here hexec rfl (hb hbytes d6) rfl rfl ?_
    refine iconstV X3.here hexec rfl 0 (hb hbytes d7) (by decide) ?_
    refine XS.iloadN X3.here hexec rfl (hb hbytes d8) rfl ?_
    exact Steps.refl _)
  obtain ⟨v6, T6, X6, E6, g6⟩ := X3.callS hexec (Cmp5.law l b A s.heap.size B3 o 0 len) hown (wks W (staticW U16 115 Cmp5.yN)) (wk W Cmp5.tab) (W := 0) (Nat.le_of_ble_eq_true rfl) (Nat.le_of_ble_eq_true rfl) (Nat.le_refl _) (by show 0 + len + 0 ≤ len; omega) (g := (mkF m 9 #[.val (.ref b), .val (.int (Int32.ofNat o)), .val (.int (Int32.ofNat len)), .val (.ref s.heap.size), .unset, .unset] [.int (Int32.ofNat len), .int (Int32.ofNat 0), .ref s.heap.size, .int (Int32.ofNat o), .ref b])) rfl (by rw [hml]; rfl) c5 (argsL := [.ref b, .int (Int32.ofNat o), .ref s.heap.size, .int (Int32.ofNat 0), .int (Int32.ofNat len)]) (rest := []) rfl rfl (by show 2 * 0 + 0 ≤ _; decide) (hb hbytes d9) (⟨rfl, hA3, ba3, hne, l1, by rw [bs3]; simp, hp⟩)
  obtain ⟨rfl, B6, p6, f6⟩ := E6
  have c7 : Steps p.tables e below (s₁.setTop (entryFrame m #[.ref b, .int (Int32.ofNat o), .int (Int32.ofNat len)] 6)) (T6.setTop (mkF m 12 #[.val (.ref b), .val (.int (Int32.ofNat o)), .val (.int (Int32.ofNat len)), .val (.ref s.heap.size), .unset, .unset] [.int (Int32.ofNat len)])) := g6
  have c8 : Steps p.tables e below (s₁.setTop (entryFrame m #[.ref b, .int (Int32.ofNat o), .int (Int32.ofNat len)] 6)) (T6.setTop (mkF m 58 #[.val (.ref b), .val (.int (Int32.ofNat o)), .val (.int (Int32.ofNat len)), .val (.ref s.heap.size), .val (.int (Int32.ofNat len)), .unset] [.ref s.heap.size])) := c7.trans (by
    refine XS.istore X6.here hexec rfl (hb hbytes d12) rfl rfl ?_
    refine XS.iload X6.here hexec rfl (hb hbytes d14) rfl ?_
    refine XS.iloadN X6.here hexec rfl (hb hbytes d16) rfl ?_
    refine XS.icmpYes X6.here hexec rfl (pc0 := 17) rfl (hb hbytes d17) rfl (ii_eq_t rfl) (by decide) rfl ?_
    refine XS.aloadN X6.here hexec rfl (hb hbytes d57) rfl rfl ?_
    exact Steps.refl _)
  have X8 := X6.wide (L' := []) (cells' := 1) (slots' := len) (fun x hx hlt => by
    simp only [List.nil_append, copyLocs, List.mem_map, List.mem_range] at hx
    obtain ⟨i, -, rfl⟩ := hx
    exact absurd hlt (Nat.lt_irrefl _)) (Nat.le_refl _) (by omega)
  exact ⟨T6, some (.ref s.heap.size), _, _, _, X8, rfl, rfl, rfl, (fun h => by cases h), ⟨⟨rfl, B6, ba3.like (X3.warmed.alike.symm.trans X6.warmed.alike) p6.1 f6.1 f6.2.1 f6.2.2.1, f6.2.1.trans bv3, by rw [X6.warmed.alike.findClass, f6.1]; exact bf3, by rw [f6.2.2.1, bs3]; simp, fun j hj => by rw [f6.2.2.2 j, if_pos (by omega)]; rfl, kp3.put p6 (Nat.le_refl _)⟩, by rw [p6.2.2, bh3, hh0]; simp⟩, fun fs hl => c8.trans (X8.areturnOut hexec rfl hret rfl (hb hbytes d58) hl)⟩
end Cmp3
namespace CodL
def yN : MethodName := ⟨"java/lang/StringUTF16", "coderFromArrayLen", "([BI)B"⟩
abbrev yB : ByteArray := jdk_52_method_15_code
theorem d0 : decode yB 0 = .ok (.iload_n 1, 1) := by decide +kernel
theorem d1 : decode yB 1 = .ok (.aload_n 0, 1) := by decide +kernel
theorem d2 : decode yB 2 = .ok (.arraylength, 1) := by decide +kernel
theorem d3 : decode yB 3 = .ok (.isub, 1) := by decide +kernel
theorem d4 : decode yB 4 = .ok (.bipush 31, 2) := by decide +kernel
theorem d6 : decode yB 6 = .ok (.iushr, 1) := by decide +kernel
theorem d7 : decode yB 7 = .ok (.i2b, 1) := by decide +kernel
theorem d8 : decode yB 8 = .ok (.ireturn, 1) := by decide +kernel
def site : List Cond := []
def tab : Cond := tabOf yN yB 2 (some .byte) site
def P (d : Addr) (B : Cell) (args : Array Value) (s : State) : Prop := args = #[.ref d, .int (Int32.ofNat B.slots.size)] ∧ Arr .byte d B s
def E (r : Option Value) (s u : State) : Prop := XT.PureE (some (.int 0)) r s u
/-- an array as long as the number of chars: LATIN1 -/
theorem law (l : Launch) (d : Addr) (B : Cell) : Law l yN 2 2 0 0 yB 2 (some .byte) site (P d B) E [] 0 0 := by
  refine Law.of_walk (plainFor_of_name (by decide +kernel)) (by decide +kernel) (by decide +kernel) (by decide) (fun _ _ h => by rw [h.1]; rfl) (fun _ U U' hal hh h => ⟨h.1, h.2.mv hal hh⟩) (fun r U U' V V' h1 hal h2 h => XT.PureE.mv r U U' V V' h1 hal h2 h) ?_
  intro p e s m args below meth c s₁ X0 hexec hbytes hml hret hlk hnm hown hh0 W hP
  obtain ⟨rfl, hB⟩ := hP
  have hB0 := hB.mv X0.warmed.alike hh0
  have c1 : Steps p.tables e below (s₁.setTop (entryFrame m #[.ref d, .int (Int32.ofNat B.slots.size)] 2)) (s₁.setTop (mkF m 0 #[.val (.ref d), .val (.int (Int32.ofNat B.slots.size))] [])) := entry rfl
  have c2 : Steps p.tables e below (s₁.setTop (entryFrame m #[.ref d, .int (Int32.ofNat B.slots.size)] 2)) (s₁.setTop (mkF m 2 #[.val (.ref d), .val (.int (Int32.ofNat B.slots.size))] [.ref d, .int (Int32.ofNat B.slots.size)])) := c1.trans (by
    refine XS.iloadN X0.here hexec rfl (hb hbytes d0) rfl ?_
    refine XS.aloadN X0.here hexec rfl (hb hbytes d1) rfl rfl ?_
    exact Steps.refl _)
  have c3 : Steps p.tables e below (s₁.setTop (entryFrame m #[.ref d, .int (Int32.ofNat B.slots.size)] 2)) (s₁.setTop (mkF m 8 #[.val (.ref d), .val (.int (Int32.ofNat B.slots.size))] [.int (lo8 (ushr (Int32.ofNat B.slots.size - Int32.ofNat B.slots.size) 31))])) := c2.trans (by
    refine X0.alen hexec hB0 rfl rfl (hb hbytes d2) ?_
    refine XS.isub X0.here hexec rfl (hb hbytes d3) rfl ?_
    refine bipushV X0.here hexec rfl 31 (hb hbytes d4) (by decide) ?_
    refine iushr X0.here hexec rfl (hb hbytes d6) rfl ?_
    refine i2b X0.here hexec rfl (hb hbytes d7) rfl ?_
    exact Steps.refl _)
  have e0 : lo8 (ushr (Int32.ofNat B.slots.size - Int32.ofNat B.slots.size) 31) = 0 := by rw [Int32.sub_self]; decide
  rw [e0] at c3
  exact ⟨s₁, some (.int 0), _, _, _, X0, rfl, rfl, rfl, (fun h => by cases h), ⟨rfl, hh0⟩, fun fs hl => c3.trans (X0.ireturnOut hexec hret rfl (Or.inr (Or.inr (Or.inl rfl))) (hb hbytes d8) hl)⟩
end CodL
/-- the String at a is Latin-1 over a new byte[] (the heap's one new cell): the low bytes of the len chars of A from o on; every cell but a is kept -/
def Got (a : Addr) (D : Cell) (fV fC : Field) (A : Cell) (o len : Nat) (r : Option Value) (s u : State) : Prop := r = none ∧ ∃ D' V : Cell, Blank "java/lang/String" a D' u ∧ Same D D' [fV.slot, fC.slot] ∧ D'.slots[fV.slot]? = some (.ref s.heap.size) ∧ D'.slots[fC.slot]? = some (.int 0) ∧ Arr .byte s.heap.size V u ∧ V.vm = .none ∧ u.vm.findClass "[B" = some V.cls ∧ V.slots.size = len ∧ (∀ j, j < len → V.slots[j]? = some (.int (lo8 (cv A (o + j))))) ∧ (∀ (y : Addr) (c : Cell), y ≠ a → s.heap[y]? = some c → u.heap[y]? = some c) ∧ u.heap.size = s.heap.size + 1
theorem Got.mv {a : Addr} {D A : Cell} {fV fC : Field} {o len : Nat} : ∀ r (U U' V V' : State), U'.heap = U.heap → V.vm.Alike V'.vm → V'.heap = V.heap → Got a D fV fC A o len r U V → Got a D fV fC A o len r U' V' :=
  fun r U U' V V' h1 hal h2 ⟨e0, D', X, a1, a2, a3, a4, a5, a6, a7, a8, a9, a10, a11⟩ => ⟨e0, D', X, a1.mv hal h2, a2, by rw [h1]; exact a3, a4, by rw [h1]; exact a5.mv hal h2, a6, by rw [hal.findClass]; exact a7, a8, a9, by rw [h1, h2]; exact a10, by rw [h1, h2]; exact a11⟩
namespace New4
def yN : MethodName := ⟨"java/lang/String", "<init>", "([CIILjava/lang/Void;)V"⟩
abbrev yB : ByteArray := jdk_42_method_149_code
theorem d0 : decode yB 0 = .ok (.aload_n 0, 1) := by decide +kernel
theorem d1 : decode yB 1 = .ok (.invokespecial 1, 3) := by decide +kernel
theorem d4 : decode yB 4 = .ok (.iload_n 3, 1) := by decide +kernel
theorem d5 : decode yB 5 = .ok (.ifCond (.ne) 22, 3) := by decide +kernel
theorem d27 : decode yB 27 = .ok (.getstatic 38, 3) := by decide +kernel
theorem d30 : decode yB 30 = .ok (.ifCond (.eq) 28, 3) := by decide +kernel
theorem d33 : decode yB 33 = .ok (.aload_n 1, 1) := by decide +kernel
theorem d34 : decode yB 34 = .ok (.iload_n 2, 1) := by decide +kernel
theorem d35 : decode yB 35 = .ok (.iload_n 3, 1) := by decide +kernel
theorem d36 : decode yB 36 = .ok (.invokestatic 177, 3) := by decide +kernel
theorem d39 : decode yB 39 = .ok (.astore 5, 2) := by decide +kernel
theorem d41 : decode yB 41 = .ok (.aload_n 0, 1) := by decide +kernel
theorem d42 : decode yB 42 = .ok (.aload 5, 2) := by decide +kernel
theorem d44 : decode yB 44 = .ok (.iload_n 3, 1) := by decide +kernel
theorem d45 : decode yB 45 = .ok (.invokestatic 47, 3) := by decide +kernel
theorem d48 : decode yB 48 = .ok (.putfield 15, 3) := by decide +kernel
theorem d51 : decode yB 51 = .ok (.aload_n 0, 1) := by decide +kernel
theorem d52 : decode yB 52 = .ok (.aload 5, 2) := by decide +kernel
theorem d54 : decode yB 54 = .ok (.putfield 9, 3) := by decide +kernel
theorem d57 : decode yB 57 = .ok (.return_, 1) := by decide +kernel
def site : List Cond := [.fieldLink "java/lang/String" 38 "java/lang/String" "COMPACT_STRINGS" "Z", Cmp3.tab, CodL.tab, .laysFinal "java/lang/String" "java/lang/String" "value" "[B", .fieldLink "java/lang/String" 9 "java/lang/String" "value" "[B", .laysFinal "java/lang/String" "java/lang/String" "coder" "B", .fieldLink "java/lang/String" 15 "java/lang/String" "coder" "B"] ++ objW "java/lang/String" 1 ++ staticW "java/lang/String" 177 Cmp3.yN ++ staticW "java/lang/String" 47 CodL.yN
def tab : Cond := tabOf yN yB 6 none site
def P (a : Addr) (D : Cell) (fV fC : Field) (b : Addr) (A : Cell) (z : Int32) (o len : Nat) (args : Array Value) (s : State) : Prop := args = #[.ref a, .ref b, .int (Int32.ofNat o), .int (Int32.ofNat len), .null] ∧ Blank "java/lang/String" a D s ∧ Found "java/lang/String" "value" "[B" fV s ∧ Found "java/lang/String" "coder" "B" fC s ∧ Ch b A s ∧ StaticIs s "java/lang/String" "COMPACT_STRINGS" "Z" (.int z) ∧ ¬ z = 0 ∧ 0 < len ∧ o + len ≤ A.slots.size ∧ len ≤ 536870912 ∧ ∀ i, i < len → ¬ 255 < cv A (o + i)
def E (a : Addr) (D : Cell) (fV fC : Field) (A : Cell) (o len : Nat) (r : Option Value) (s u : State) : Prop := Got a D fV fC A o len r s u
/-- len > 0, no char of the range above 255: a Latin-1 String of their low bytes -/
theorem law (l : Launch) (a : Addr) (D : Cell) (fV fC : Field) (b : Addr) (A : Cell) (z : Int32) (o len : Nat) : Law l yN 5 4 2 35 yB 6 none site (P a D fV fC b A z o len) (E a D fV fC A o len) [⟨a, fC.slot⟩, ⟨a, fV.slot⟩] 1 len := by
  refine Law.of_walk (plainFor_of_name (by decide +kernel)) (by decide +kernel) (by decide +kernel) (by decide) (fun _ _ h => by rw [h.1]; rfl) (fun _ U U' hal hh h => ⟨h.1, h.2.1.mv hal hh, h.2.2.1.al hal, h.2.2.2.1.al hal, h.2.2.2.2.1.mv hal hh, h.2.2.2.2.2.1.there hal hh, h.2.2.2.2.2.2⟩) (fun r U U' V V' h1 hal h2 h => Got.mv r U U' V V' h1 hal h2 h) ?_
  intro p e s m args below meth c s₁ X0 hexec hbytes hml hret hlk hnm hown hh0 W hP
  obtain ⟨rfl, hB, f1, f2, hA, s1, hz, l0, l1, l2, hp⟩ := hP
  have a31 := hA.1.2.2.2
  have c1 : Steps p.tables e below (s₁.setTop (entryFrame m #[.ref a, .ref b, .int (Int32.ofNat o), .int (Int32.ofNat len), .null] 6)) (s₁.setTop (mkF m 0 #[.val (.ref a), .val (.ref b), .val (.int (Int32.ofNat o)), .val (.int (Int32.ofNat len)), .val .null, .unset] [])) := entry rfl
  have c2 : Steps p.tables e below (s₁.setTop (entryFrame m #[.ref a, .ref b, .int (Int32.ofNat o), .int (Int32.ofNat len), .null] 6)) (s₁.setTop (mkF m 1 #[.val (.ref a), .val (.ref b), .val (.int (Int32.ofNat o)), .val (.int (Int32.ofNat len)), .val .null, .unset] [.ref a])) := c1.trans (by
    refine XS.aloadN X0.here hexec rfl (hb hbytes d0) rfl rfl ?_
    exact Steps.refl _)
  obtain ⟨T3, X3, q3, st3⟩ := X0.oinit hexec hown (wks W (objW "java/lang/String" 1)) (g := (mkF m 1 #[.val (.ref a), .val (.ref b), .val (.int (Int32.ofNat o)), .val (.int (Int32.ofNat len)), .val .null, .unset] [.ref a])) rfl (by rw [hml]; rfl) (rest := []) rfl (hb hbytes d1) (W := 0) (by show 2 * 0 + 0 ≤ _; decide) (Nat.le_of_ble_eq_true rfl) (Nat.le_of_ble_eq_true rfl)
  have hh3 := q3.trans hh0
  have c4 : Steps p.tables e below (s₁.setTop (entryFrame m #[.ref a, .ref b, .int (Int32.ofNat o), .int (Int32.ofNat len), .null] 6)) (T3.setTop (mkF m 27 #[.val (.ref a), .val (.ref b), .val (.int (Int32.ofNat o)), .val (.int (Int32.ofNat len)), .val .null, .unset] [])) := (c2.trans (st3 _ (Steps.refl _))).trans (by
    refine XS.iloadN X3.here hexec rfl (hb hbytes d4) rfl ?_
    refine XS.ifYes X3.here hexec rfl (pc0 := 5) rfl (hb hbytes d5) rfl (i0_ne_t (nz32 (by omega) l0)) (by decide) rfl ?_
    exact Steps.refl _)
  obtain ⟨T5, X5, q5, st5⟩ := X3.sget hexec hown (wk W (.fieldLink "java/lang/String" 38 "java/lang/String" "COMPACT_STRINGS" "Z")) s1 (fun _ _ h => by rw [hh3]; exact h) (g := (mkF m 27 #[.val (.ref a), .val (.ref b), .val (.int (Int32.ofNat o)), .val (.int (Int32.ofNat len)), .val .null, .unset] [])) rfl (hb hbytes d27)
  have hh5 := q5.trans hh3
  have c6 : Steps p.tables e below (s₁.setTop (entryFrame m #[.ref a, .ref b, .int (Int32.ofNat o), .int (Int32.ofNat len), .null] 6)) (T5.setTop (mkF m 30 #[.val (.ref a), .val (.ref b), .val (.int (Int32.ofNat o)), .val (.int (Int32.ofNat len)), .val .null, .unset] [.int z])) := c4.trans (st5 _ (Steps.refl _))
  have c7 : Steps p.tables e below (s₁.setTop (entryFrame m #[.ref a, .ref b, .int (Int32.ofNat o), .int (Int32.ofNat len), .null] 6)) (T5.setTop (mkF m 36 #[.val (.ref a), .val (.ref b), .val (.int (Int32.ofNat o)), .val (.int (Int32.ofNat len)), .val .null, .unset] [.int (Int32.ofNat len), .int (Int32.ofNat o), .ref b])) := c6.trans (by
    refine XS.ifNo X5.here hexec rfl (hb hbytes d30) rfl (i0_eq_f hz) ?_
    refine XS.aloadN X5.here hexec rfl (hb hbytes d33) rfl rfl ?_
    refine XS.iloadN X5.here hexec rfl (hb hbytes d34) rfl ?_
    refine XS.iloadN X5.here hexec rfl (hb hbytes d35) rfl ?_
    exact Steps.refl _)
  obtain ⟨v8, T8, X8, E8, g8⟩ := X5.callS hexec (Cmp3.law l b A o len) hown (wks W (staticW "java/lang/String" 177 Cmp3.yN)) (wk W Cmp3.tab) (W := 0) (Nat.le_of_ble_eq_true rfl) (Nat.le_of_ble_eq_true rfl) (Nat.le_refl _) (by show 0 + len ≤ len; omega) (g := (mkF m 36 #[.val (.ref a), .val (.ref b), .val (.int (Int32.ofNat o)), .val (.int (Int32.ofNat len)), .val .null, .unset] [.int (Int32.ofNat len), .int (Int32.ofNat o), .ref b])) rfl (by rw [hml]; rfl) c7 (argsL := [.ref b, .int (Int32.ofNat o), .int (Int32.ofNat len)]) (rest := []) rfl rfl (by show 2 * 0 + 0 ≤ _; decide) (hb hbytes d36) (⟨rfl, hA.mv X5.warmed.alike hh5, l1, l2, hp⟩)
  obtain ⟨e8, z8⟩ := E8
  obtain ⟨rfl, N, n1, n2, n3, n4, n5, n6⟩ := NewArr.mv _ T5 s _ _ hh5.symm (Vm.Alike.refl _) rfl e8
  rw [hh5] at z8
  have hB1 := hB.keep X8.warmed.alike (n6 _ _ hB.1)
  have hne : s.heap.size ≠ a := (Nat.ne_of_lt (Array.getElem?_eq_some_iff.mp hB.1).1).symm
  have c9 : Steps p.tables e below (s₁.setTop (entryFrame m #[.ref a, .ref b, .int (Int32.ofNat o), .int (Int32.ofNat len), .null] 6)) (T8.setTop (mkF m 39 #[.val (.ref a), .val (.ref b), .val (.int (Int32.ofNat o)), .val (.int (Int32.ofNat len)), .val .null, .unset] [.ref s.heap.size])) := g8
  have c10 : Steps p.tables e below (s₁.setTop (entryFrame m #[.ref a, .ref b, .int (Int32.ofNat o), .int (Int32.ofNat len), .null] 6)) (T8.setTop (mkF m 45 #[.val (.ref a), .val (.ref b), .val (.int (Int32.ofNat o)), .val (.int (Int32.ofNat len)), .val .null, .val (.ref s.heap.size)] [.int (Int32.ofNat N.slots.size), .ref s.heap.size, .ref a])) := by
    have hc : Steps p.tables e below (s₁.setTop (entryFrame m #[.ref a, .ref b, .int (Int32.ofNat o), .int (Int32.ofNat len), .null] 6)) (T8.setTop (mkF m 45 #[.val (.ref a), .val (.ref b), .val (.int (Int32.ofNat o)), .val (.int (Int32.ofNat len)), .val .null, .val (.ref s.heap.size)] [.int (Int32.ofNat len), .ref s.heap.size, .ref a])) := c9.trans (by
      refine XS.astore X8.here hexec rfl (hb hbytes d39) rfl rfl rfl ?_
      refine XS.aloadN X8.here hexec rfl (hb hbytes d41) rfl rfl ?_
      refine XS.aload X8.here hexec rfl (hb hbytes d42) rfl rfl ?_
      refine XS.iloadN X8.here hexec rfl (hb hbytes d44) rfl ?_
      exact Steps.refl _)
    rw [n4]; exact hc
  obtain ⟨v11, T11, X11, E11, g11⟩ := X8.callS hexec (CodL.law l s.heap.size N) hown (wks W (staticW "java/lang/String" 47 CodL.yN)) (wk W CodL.tab) (W := 1) (Nat.le_of_ble_eq_true rfl) (Nat.le_of_ble_eq_true rfl) (Nat.le_refl _) (by show 0 + len + 0 ≤ len; omega) (g := (mkF m 45 #[.val (.ref a), .val (.ref b), .val (.int (Int32.ofNat o)), .val (.int (Int32.ofNat len)), .val .null, .val (.ref s.heap.size)] [.int (Int32.ofNat N.slots.size), .ref s.heap.size, .ref a])) rfl (by rw [hml]; rfl) c10 (argsL := [.ref s.heap.size, .int (Int32.ofNat N.slots.size)]) (rest := [.ref a]) rfl rfl (by show 2 * 0 + (1 + 0) ≤ _; decide) (hb hbytes d45) (⟨rfl, n1⟩)
  obtain ⟨rfl, q11⟩ := E11
  have hB11 := hB1.mv (X8.warmed.alike.symm.trans X11.warmed.alike) q11
  have c12 : Steps p.tables e below (s₁.setTop (entryFrame m #[.ref a, .ref b, .int (Int32.ofNat o), .int (Int32.ofNat len), .null] 6)) (T11.setTop (mkF m 48 #[.val (.ref a), .val (.ref b), .val (.int (Int32.ofNat o)), .val (.int (Int32.ofNat len)), .val .null, .val (.ref s.heap.size)] [.int 0, .ref a])) := g11
  obtain ⟨T13, X13, p13, bl13, sl13, st13⟩ := X11.finit hexec hown (wk W (.fieldLink "java/lang/String" 15 "java/lang/String" "coder" "B")) (Or.inr ⟨_, (wk W (.laysFinal "java/lang/String" "java/lang/String" "coder" "B"))⟩) (Or.inl ⟨rfl, hnm⟩) f2 (Or.inl rfl) hB11 (t := .byte) (by decide +kernel) rfl (g := (mkF m 48 #[.val (.ref a), .val (.ref b), .val (.int (Int32.ofNat o)), .val (.int (Int32.ofNat len)), .val .null, .val (.ref s.heap.size)] [.int 0, .ref a])) rfl (rest := []) rfl (hb hbytes d48)
  have c14 : Steps p.tables e below (s₁.setTop (entryFrame m #[.ref a, .ref b, .int (Int32.ofNat o), .int (Int32.ofNat len), .null] 6)) (T13.setTop (mkF m 54 #[.val (.ref a), .val (.ref b), .val (.int (Int32.ofNat o)), .val (.int (Int32.ofNat len)), .val .null, .val (.ref s.heap.size)] [.ref s.heap.size, .ref a])) := (c12.trans (st13 _ (Steps.refl _))).trans (by
    refine XS.aloadN X13.here hexec rfl (hb hbytes d51) rfl rfl ?_
    refine XS.aload X13.here hexec rfl (hb hbytes d52) rfl rfl ?_
    exact Steps.refl _)
  obtain ⟨T15, X15, p15, bl15, sl15, st15⟩ := X13.finit hexec hown (wk W (.fieldLink "java/lang/String" 9 "java/lang/String" "value" "[B")) (Or.inr ⟨_, (wk W (.laysFinal "java/lang/String" "java/lang/String" "value" "[B"))⟩) (Or.inl ⟨rfl, hnm⟩) f1 (Or.inl rfl) bl13 (t := (.array .byte)) (by decide +kernel) rfl (g := (mkF m 54 #[.val (.ref a), .val (.ref b), .val (.int (Int32.ofNat o)), .val (.int (Int32.ofNat len)), .val .null, .val (.ref s.heap.size)] [.ref s.heap.size, .ref a])) rfl (rest := []) rfl (hb hbytes d54)
  have c16 : Steps p.tables e below (s₁.setTop (entryFrame m #[.ref a, .ref b, .int (Int32.ofNat o), .int (Int32.ofNat len), .null] 6)) (T15.setTop (mkF m 57 #[.val (.ref a), .val (.ref b), .val (.int (Int32.ofNat o)), .val (.int (Int32.ofNat len)), .val .null, .val (.ref s.heap.size)] [])) := c14.trans (st15 _ (Steps.refl _))
  have ap := apart (Or.inr ⟨_, (wk W (.laysFinal "java/lang/String" "java/lang/String" "value" "[B"))⟩) (Or.inr ⟨_, (wk W (.laysFinal "java/lang/String" "java/lang/String" "coder" "B"))⟩) f1 f2 (t₁ := .array .byte) (t₂ := .byte) (by decide +kernel) (by decide +kernel) (by decide)
  have al := X8.warmed.alike.symm.trans X15.warmed.alike
  have n7 : T11.heap[s.heap.size]? = some N := by rw [q11]; exact n1.1
  exact ⟨T15, none, _, _, _, X15, by simp, rfl, by omega, (fun _ => rfl), ⟨rfl, _, N, bl15, ((Same.refl D _).set _ (by simp)).set _ (by simp), sl15, (Cell.slots_setSlot_ne _ ap).trans sl13, n1.keep al (p15.other hne (p13.other hne n7)), n2, by rw [al.findClass]; exact n3, n4, n5, fun y c h1 h2 => p15.other h1 (p13.other h1 (by rw [q11]; exact n6 y c h2)), by rw [p15.2.2, p13.2.2, q11]; exact z8⟩, fun fs hl => c16.trans (X15.returnOut hexec hret (hb hbytes d57) hl)⟩
end New4
namespace New1
def yN : MethodName := ⟨"java/lang/String", "<init>", "([C)V"⟩
abbrev yB : ByteArray := jdk_42_method_3_code
theorem d0 : decode yB 0 = .ok (.aload_n 0, 1) := by decide +kernel
theorem d1 : decode yB 1 = .ok (.aload_n 1, 1) := by decide +kernel
theorem d2 : decode yB 2 = .ok (.iconst 0, 1) := by decide +kernel
theorem d3 : decode yB 3 = .ok (.aload_n 1, 1) := by decide +kernel
theorem d4 : decode yB 4 = .ok (.arraylength, 1) := by decide +kernel
theorem d5 : decode yB 5 = .ok (.aconst_null, 1) := by decide +kernel
theorem d6 : decode yB 6 = .ok (.invokespecial 27, 3) := by decide +kernel
theorem d9 : decode yB 9 = .ok (.return_, 1) := by decide +kernel
def site : List Cond := [New4.tab] ++ initW "java/lang/String" 27 New4.yN
def tab : Cond := tabOf yN yB 2 none site
def P (a : Addr) (D : Cell) (fV fC : Field) (b : Addr) (A : Cell) (z : Int32) (args : Array Value) (s : State) : Prop := args = #[.ref a, .ref b] ∧ Blank "java/lang/String" a D s ∧ Found "java/lang/String" "value" "[B" fV s ∧ Found "java/lang/String" "coder" "B" fC s ∧ Ch b A s ∧ StaticIs s "java/lang/String" "COMPACT_STRINGS" "Z" (.int z) ∧ ¬ z = 0 ∧ 0 < A.slots.size ∧ A.slots.size ≤ 536870912 ∧ ∀ i, i < A.slots.size → ¬ 255 < cv A i
def E (a : Addr) (D : Cell) (fV fC : Field) (A : Cell) (r : Option Value) (s u : State) : Prop := Got a D fV fC A 0 A.slots.size r s u
/-- new String(chars), not empty, no char above 255: a Latin-1 String of their low bytes -/
theorem law (l : Launch) (a : Addr) (D : Cell) (fV fC : Field) (b : Addr) (A : Cell) (z : Int32) : Law l yN 2 1 3 52 yB 2 none site (P a D fV fC b A z) (E a D fV fC A) [⟨a, fC.slot⟩, ⟨a, fV.slot⟩] 1 A.slots.size := by
  refine Law.of_walk (plainFor_of_name (by decide +kernel)) (by decide +kernel) (by decide +kernel) (by decide) (fun _ _ h => by rw [h.1]; rfl) (fun _ U U' hal hh h => ⟨h.1, h.2.1.mv hal hh, h.2.2.1.al hal, h.2.2.2.1.al hal, h.2.2.2.2.1.mv hal hh, h.2.2.2.2.2.1.there hal hh, h.2.2.2.2.2.2⟩) (fun r U U' V V' h1 hal h2 h => Got.mv r U U' V V' h1 hal h2 h) ?_
  intro p e s m args below meth c s₁ X0 hexec hbytes hml hret hlk hnm hown hh0 W hP
  obtain ⟨rfl, hB, f1, f2, hA, s1, hz, l0, l2, hp⟩ := hP
  have c1 : Steps p.tables e below (s₁.setTop (entryFrame m #[.ref a, .ref b] 2)) (s₁.setTop (mkF m 0 #[.val (.ref a), .val (.ref b)] [])) := entry rfl
  have c2 : Steps p.tables e below (s₁.setTop (entryFrame m #[.ref a, .ref b] 2)) (s₁.setTop (mkF m 6 #[.val (.ref a), .val (.ref b)] [.null, .int (Int32.ofNat A.slots.size), .int 0, .ref b, .ref a])) := c1.trans (by
    refine XS.aloadN X0.here hexec rfl (hb hbytes d0) rfl rfl ?_
    refine XS.aloadN X0.here hexec rfl (hb hbytes d1) rfl rfl ?_
    refine iconstV X0.here hexec rfl 0 (hb hbytes d2) (by decide) ?_
    refine XS.aloadN X0.here hexec rfl (hb hbytes d3) rfl rfl ?_
    refine X0.alen hexec (hA.1.mv X0.warmed.alike hh0) rfl rfl (hb hbytes d4) ?_
    refine XS.aconstNull X0.here hexec rfl (hb hbytes d5) ?_
    exact Steps.refl _)
  obtain ⟨v3, T3, X3, E3, g3⟩ := X0.callN hexec (New4.law l a D fV fC b A z 0 A.slots.size) rfl hown (wks W (initW "java/lang/String" 27 New4.yN)) (W New4.tab (by simp only [site, List.mem_cons, List.mem_append, true_or, or_true])) (W := 0) (Nat.le_of_ble_eq_true rfl) (Nat.le_of_ble_eq_true rfl) (Nat.le_refl _) (by show 0 + A.slots.size ≤ A.slots.size; omega) (g := (mkF m 6 #[.val (.ref a), .val (.ref b)] [.null, .int (Int32.ofNat A.slots.size), .int (Int32.ofNat 0), .ref b, .ref a])) rfl (by rw [hml]; rfl) c2 (argsL := [.ref b, .int (Int32.ofNat 0), .int (Int32.ofNat A.slots.size), .null]) (rest := []) rfl rfl (by show 2 * 0 + 0 ≤ _; decide) (hb hbytes d6) (⟨rfl, hB.mv X0.warmed.alike hh0, f1.al X0.warmed.alike, f2.al X0.warmed.alike, hA.mv X0.warmed.alike hh0, s1.there X0.warmed.alike hh0, hz, l0, by omega, l2, fun i hi => by rw [Nat.zero_add]; exact hp i hi⟩)
  have e0 := Got.mv _ s₁ s _ _ hh0.symm (Vm.Alike.refl _) rfl E3
  obtain rfl := e0.1
  have c4 : Steps p.tables e below (s₁.setTop (entryFrame m #[.ref a, .ref b] 2)) (T3.setTop (mkF m 9 #[.val (.ref a), .val (.ref b)] [])) := g3
  exact ⟨T3, none, _, _, _, X3, by simp, rfl, by omega, (fun _ => rfl), e0, fun fs hl => c4.trans (X3.returnOut hexec hret (hb hbytes d9) hl)⟩
theorem pays {l : Launch} {R : Room} {p : Program} {e : Env} {below : List Frame} {s : State} {sargs : Array Value} {len W : Nat} (a : Addr) (D : Cell) (fV fC : Field) (b : Addr) (A : Cell) (z : Int32) (htab : tab.before sargs s = true) (hfr : 4 ≤ R.frames) (hlo : W + 65 ≤ R.locals) :
    Back l R p e below s sargs yN len W (fun A₁ a₁ => A₁.cells + 1 ≤ R.cells ∧ A₁.slots + A.slots.size ≤ R.slots ∧ P a D fV fC b A z a₁ A₁.U) (fun A₁ _ v₁ B₁ => E a D fV fC A v₁ A₁.U B₁.U ∧ B₁.locs = A₁.locs ++ [⟨a, fC.slot⟩, ⟨a, fV.slot⟩] ∧ B₁.cells = A₁.cells + 1 ∧ B₁.slots = A₁.slots + A.slots.size) :=
  (law l a D fV fC b A z).pays htab hfr (by omega)
end New1
end StrChars
namespace StrChars.Road
open Jvm Sem ClassFile Op Lib Jvm.Stand Jvm.Free Jvm.Free.XT
open Jvm.Lib.Cold (StaticIs)
abbrev ST : String := "java/lang/String"
/-- every table word that New1's law asks, flat -/
abbrev words : List Jvm.Cond := [.code New1.yN New1.yB 2 none, .initialized ST, .methodLink ST 27 New4.yN, .instanceMethod New4.yN,
  .code New4.yN New4.yB 6 none, .fieldLink ST 38 ST "COMPACT_STRINGS" "Z", .laysFinal ST ST "value" "[B", .fieldLink ST 9 ST "value" "[B", .laysFinal ST ST "coder" "B", .fieldLink ST 15 ST "coder" "B",
  .methodLink ST 1 Lib.objectInit, .instanceMethod Lib.objectInit, .code Lib.objectInit ⟨#[0xb1]⟩ 1 none, .methodLink ST 177 Cmp3.yN, .static Cmp3.yN, .methodLink ST 47 CodL.yN, .static CodL.yN,
  .code Cmp3.yN Cmp3.yB 6 (some (.array .byte)), .initialized U16, .arrayClass .byte, .methodLink U16 115 Cmp5.yN, .static Cmp5.yN, .code Cmp5.yN Cmp5.yB 7 (some .int), .code CodL.yN CodL.yB 2 (some .byte)]
theorem tab_of {a : Array Value} {s : State} (h : ∀ w ∈ words, w.before a s = true) : New1.tab.before a s = true := by
  have h5 : Cmp5.tab.before a s = true := unparts (wk h (.code Cmp5.yN Cmp5.yB 7 (some .int))) (wks h (.initialized Cmp5.yN.cls :: Cmp5.site))
  have hc : CodL.tab.before a s = true := unparts (wk h (.code CodL.yN CodL.yB 2 (some .byte))) (wks h (.initialized CodL.yN.cls :: CodL.site))
  have q5 : ∀ w ∈ Cmp5.tab :: words, w.before a s = true := fun w hw => (List.mem_cons.mp hw).elim (fun e => e ▸ h5) (h w)
  have h3 : Cmp3.tab.before a s = true := unparts (wk q5 (.code Cmp3.yN Cmp3.yB 6 (some (.array .byte)))) (wks q5 (.initialized Cmp3.yN.cls :: Cmp3.site))
  have q3 : ∀ w ∈ Cmp3.tab :: CodL.tab :: words, w.before a s = true := fun w hw => (List.mem_cons.mp hw).elim (fun e => e ▸ h3) fun hw => (List.mem_cons.mp hw).elim (fun e => e ▸ hc) (h w)
  have h4 : New4.tab.before a s = true := unparts (wk q3 (.code New4.yN New4.yB 6 none)) (wks q3 (.initialized New4.yN.cls :: New4.site))
  have q4 : ∀ w ∈ New4.tab :: words, w.before a s = true := fun w hw => (List.mem_cons.mp hw).elim (fun e => e ▸ h4) (h w)
  exact unparts (wk q4 (.code New1.yN New1.yB 2 none)) (wks q4 (.initialized New1.yN.cls :: New1.site))
/-- the words ride from the start Z to the walk's own state -/
theorem moved {Z s : State} {a0 args : Array Value} (hZ : Z.Warmed39 s.vm) (hw : ∀ d ∈ words, d.before a0 Z = true) : ∀ d ∈ words, d.before args s = true := fun d hd => by
  have q := hw d hd
  have t : ∀ d ∈ words, d = .arrayClass .byte ∨ (d.onTables && d.keepsFace) = true := by decide +kernel
  rcases t d hd with rfl | t
  · exact RoadKit.mvA hZ q
  · exact RoadKit.mv hZ q t
/-- WHAT COMES BACK, over the tables of the start Z: h the heap at the call, h' behind it -/
def Q (Z : State) (x : Addr) (A : Cell) (h : Heap) (v : Option Value) (h' : Heap) (L : List Loc) : Prop := v = none ∧ (∀ y ∈ L, y.base = x) ∧ RoadKit.Keep h h' [x] ∧ h'.size = h.size + 1 ∧ RoadKit.Exa Z h' x ST ∧ RoadKit.Fld Z h' x ST "value" "[B" (.ref h.size) ∧ RoadKit.Fld Z h' x ST "coder" "B" (.int 0) ∧
  (∃ V : Cell, RoadKit.Arr Z h' h.size V .byte ∧ V.vm = .none ∧ Z.vm.findClass "[B" = some V.cls ∧ V.slots.size = A.slots.size ∧ ∀ j, j < A.slots.size → V.slots[j]? = some (.int (lo8 (cv A j)))) ∧
  ∀ (O n d : String) (w : Value), RoadKit.Fld Z h x O n d w → RoadKit.slotOf Z O n d ≠ RoadKit.slotOf Z ST "value" "[B" → RoadKit.slotOf Z O n d ≠ RoadKit.slotOf Z ST "coder" "B" → RoadKit.Fld Z h' x O n d w
/-- **new String(chars) AT A CALL, IN THE ROAD'S FORM**: for specialBack behind newO: x the fresh String, b the char[] with the cell A -/
theorem back {p : Program} {l : Launch} {e : Env} {R : Room} {s : State} {args : Array Value} {below : List Frame} {len W : Nat} {Z : State} {a0 : Array Value} {h : Heap} (hZ : Z.Warmed39 s.vm) (hw : ∀ d ∈ words, d.before a0 Z = true) {kI : Nat} (wi : (Jvm.Cond.instantiable ST kI).before a0 Z = true)
    {x b : Addr} {A : Cell} {z : Int32} {v0 c0 : Value} (E : RoadKit.Exa Z h x ST) (V : RoadKit.Fld Z h x ST "value" "[B" v0) (C : RoadKit.Fld Z h x ST "coder" "B" c0) (K : RoadKit.Arr Z h b A .char) (hty : Typed .char A) (S : RoadKit.Sta Z h ST "COMPACT_STRINGS" "Z" (.int z)) (hz : ¬ z = 0)
    (l0 : 0 < A.slots.size) (l2 : A.slots.size ≤ 536870912) (hp : ∀ i, i < A.slots.size → ¬ 255 < cv A i) (hfr : 4 ≤ R.frames) (hlo : W + 65 ≤ R.locals) :
    Back l R p e below s args New1.yN len W (fun P a => a = #[.ref x, .ref b] ∧ P.U.heap = h ∧ P.cells + 1 ≤ R.cells ∧ P.slots + A.slots.size ≤ R.slots)
      (fun P _ v B => ∃ L, Q Z x A h v B.U.heap L ∧ B.locs = P.locs ++ L ∧ B.cells = P.cells + 1 ∧ B.slots = P.slots + A.slots.size) := by
  intro m meth c P g ig mk a X hg hsize hdg hW hn hp'
  obtain ⟨rfl, rfl, r1, r2⟩ := hp'
  have al : Z.vm.Alike P.U.vm := hZ.alike.trans X.warmed.alike
  obtain ⟨D, cfV, kV, iV, fV, hD, gV, stV, knV, obV, asV, slV⟩ := id V
  obtain ⟨D', cfC, kC, iC, fC, hD', gC, stC, -, -, asC, slC⟩ := id C
  cases hD.symm.trans hD'
  obtain ⟨D2, kD, e1, e2, e3, e4, e5⟩ := id E
  cases hD.symm.trans e1
  obtain ⟨c2, k2, i1, i2, i3, -⟩ := Cond.instantiable_spec wi
  cases e2.symm.trans i1
  cases e3.symm.trans i2
  obtain ⟨kU, u1, u2⟩ := al.2.2 _ _ e3
  have hB : Blank ST x D P.U := ⟨hD, ⟨knV, fun q hq => by rw [hq] at obV; cases obV⟩, by rw [al.findClass]; exact e2, kU, u1, by rw [u2]; exact i3, by rw [u2]; exact e5 i3⟩
  have F1 : Found ST "value" "[B" fV P.U := ⟨SBG.found_only al ⟨cfV, kV, iV, gV⟩, stV⟩
  have F2 : Found ST "coder" "B" fC P.U := ⟨SBG.found_only al ⟨cfC, kC, iC, gC⟩, stC⟩
  have hA : Ch b A P.U := ⟨⟨K.1, State.isArrayOf_alike al K.2.1, K.2.2, by omega⟩, hty⟩
  have hS : StaticIs P.U ST "COMPACT_STRINGS" "Z" (.int z) := by
    obtain ⟨cfS, iS, kS, fS, st, cS, t1, t2, t3, t4, t5, t6, t7⟩ := S
    exact StaticIs.there (s := { Z with heap := P.U.heap }) ⟨cfS, iS, kS, fS, st, cS, t1, t2, t3, t4, t5, (fun q => by rw [q] at t6; cases t6), t7⟩ al rfl
  obtain ⟨v, B, X', ⟨⟨hv, E', V', q1, q2, q3, q4, q5, q6, q7, q8, q9, q10, q11⟩, hl, hc, hs⟩, st⟩ := New1.pays x D fV fC b A z (tab_of (moved hZ hw)) hfr hlo m meth c P g ig mk _ X hg hsize hdg hW hn ⟨r1, r2, rfl, hB, F1, F2, hA, hS, hz, l0, l2, hp⟩
  have al' : Z.vm.Alike B.U.vm := hZ.alike.trans X'.warmed.alike
  have hsz : E'.slots.size = D.slots.size := by
    obtain ⟨-, -, -, kB, w1, w2, w3⟩ := q1
    obtain ⟨kB', y1, y2⟩ := al'.2.2 _ _ e3
    rw [q2.2.1] at w1
    cases w1.symm.trans y1
    rw [w3, e5 i3, y2]
  refine ⟨v, B, X', ⟨_, ⟨hv, ?_, ⟨by omega, fun y cy hy hn' => q10 y cy (by simpa using hn') hy, fun y cy hy => ?_⟩, q11, ⟨E', _, q1.1, by rw [q2.2.1]; exact e2, by rw [q2.2.1]; exact e3, by rw [q2.1]; exact obV, fun _ => by rw [hsz]; exact e5 i3⟩,
    ⟨E', cfV, kV, iV, fV, q1.1, gV, stV, by rw [q2.1]; exact knV, by rw [q2.1]; exact obV, by rw [q2.2.1]; exact asV, q3⟩, ⟨E', cfC, kC, iC, fC, q1.1, gC, stC, by rw [q2.1]; exact knV, by rw [q2.1]; exact obV, by rw [q2.2.1]; exact asC, q4⟩,
    ⟨V', ⟨q5.1, State.isArrayOf_alike al'.symm q5.2.1, q5.2.2.1⟩, q6, by rw [← al'.findClass]; exact q7, q8, fun j hj => by have := q9 j hj; rwa [Nat.zero_add] at this⟩, fun O n d w F n1 n2 => ?_⟩, hl, hc, hs⟩, st⟩
  · intro y hy
    simp only [List.mem_cons, List.not_mem_nil, or_false] at hy
    rcases hy with rfl | rfl <;> rfl
  · by_cases q : y = x
    · subst q
      cases hD.symm.trans hy
      exact ⟨E', q1.1, q2.2.1, q2.1, hsz⟩
    · exact ⟨cy, q10 y cy q hy, rfl, rfl, rfl⟩
  · obtain ⟨D3, cf, k, i, f, g1, g2, g3, g4, g5, g6, g7⟩ := F
    cases hD.symm.trans g1
    simp only [RoadKit.slotOf, g2, gV, gC, Option.map_some, Option.getD_some] at n1 n2
    exact ⟨E', cf, k, i, f, q1.1, g2, g3, by rw [q2.1]; exact g4, by rw [q2.1]; exact g5, by rw [q2.2.1]; exact g6, by rw [q2.2.2 f.slot (by simp [n1, n2])]; exact g7⟩
end StrChars.Road
namespace StrChars.Road
open Jvm Sem ClassFile Op Lib Jvm.Stand Jvm.Free Jvm.Free.XT
/-- WHAT COMES BACK, the byte[] as a list of values -/
def QA (Z : State) (x : Addr) (zn : Int32) (cs : List Int32) (h : Heap) (v : Option Value) (h' : Heap) (L : List Loc) : Prop := v = none ∧ (∀ y ∈ L, y.base = x) ∧ RoadKit.Keep h h' [x] ∧ h'.size = h.size + 1 ∧ RoadKit.Exa Z h' x ST ∧ RoadKit.Fld Z h' x ST "value" "[B" (.ref h.size) ∧ RoadKit.Fld Z h' x ST "coder" "B" (.int 0) ∧
  (∃ kb, Z.vm.findClass "[B" = some kb ∧ RoadKit.Arv Z h' h.size kb .byte zn (cs.map fun c => .int (lo8 c)) (.int 0)) ∧
  ∀ (O n d : String) (w : Value), RoadKit.Fld Z h x O n d w → RoadKit.slotOf Z O n d ≠ RoadKit.slotOf Z ST "value" "[B" → RoadKit.slotOf Z O n d ≠ RoadKit.slotOf Z ST "coder" "B" → RoadKit.Fld Z h' x O n d w
/-- **new String(chars) AT A CALL, THE ARRAYS AS LISTS**: the char[] at b holds cs, not empty, no char above 255 -/
theorem backArv {p : Program} {l : Launch} {e : Env} {R : Room} {s : State} {args : Array Value} {below : List Frame} {len W : Nat} {Z : State} {a0 : Array Value} {h : Heap} (hZ : Z.Warmed39 s.vm) (hw : ∀ d ∈ words, d.before a0 Z = true) {kI : Nat} (wi : (Jvm.Cond.instantiable ST kI).before a0 Z = true)
    {x b : Addr} {k : ClassId} {zn z : Int32} {cs : List Int32} {dv v0 c0 : Value} (E : RoadKit.Exa Z h x ST) (V : RoadKit.Fld Z h x ST "value" "[B" v0) (C : RoadKit.Fld Z h x ST "coder" "B" c0) (K : RoadKit.Arv Z h b k .char zn (cs.map Value.int) dv) (S : RoadKit.Sta Z h ST "COMPACT_STRINGS" "Z" (.int z)) (hz : ¬ z = 0)
    (hlen : zn.toNatClampNeg = cs.length) (h0 : 0 < cs.length) (hbig : cs.length ≤ 536870912) (hall : ∀ c ∈ cs, ¬ 255 < c) (hfr : 4 ≤ R.frames) (hlo : W + 65 ≤ R.locals) :
    Back l R p e below s args New1.yN len W (fun P a => a = #[.ref x, .ref b] ∧ P.U.heap = h ∧ P.cells + 1 ≤ R.cells ∧ P.slots + cs.length ≤ R.slots)
      (fun P _ v B => ∃ L, QA Z x zn cs h v B.U.heap L ∧ B.locs = P.locs ++ L ∧ B.cells = P.cells + 1 ∧ B.slots = P.slots + cs.length) := by
  obtain ⟨A, K1, K2, K3, K4, K5, K6⟩ := K
  have e : A.slots.size = cs.length := K3.trans hlen
  have hat : ∀ (i : Nat) (hi : i < cs.length), A.slots[i]? = some (.int cs[i]) := fun i hi => by rw [K5 i (by omega)]; simp [List.getD_eq_getElem?_getD, hi]
  have hcv : ∀ (i : Nat) (hi : i < cs.length), cv A i = cs[i] := fun i hi => by unfold cv; rw [hat i hi]
  have hty : Typed .char A := fun i v hv => by
    have hi : i < A.slots.size := (Array.getElem?_eq_some_iff.mp hv).1
    have q := K5 i hi
    rw [hv] at q
    rw [Option.some.inj q]
    exact K6 i hi
  refine Back.mono (back hZ hw wi E V C K1 hty S hz (by omega) (by omega) (fun i hi => by rw [hcv i (by omega)]; exact hall _ (List.getElem_mem _)) hfr hlo) (fun P a hp => ⟨hp.1, hp.2.1, hp.2.2.1, by rw [e]; exact hp.2.2.2⟩) (fun P a v B hp hq => ?_)
  obtain ⟨L, ⟨q1, q2, q3, q4, q5, q6, q7, ⟨V', v1, v2, v3, v4, v5⟩, q9⟩, hl, hc, hs⟩ := hq
  refine ⟨L, ⟨q1, q2, q3, q4, q5, q6, q7, ⟨V'.cls, v3, V', v1, rfl, by rw [v4, e, hlen], K4, fun i hi => ?_, fun i hi => ?_⟩, q9⟩, hl, hc, by rw [hs, e]⟩
  · have hi' : i < cs.length := by omega
    rw [v5 i (by omega), hcv i hi']; simp [List.getD_eq_getElem?_getD, hi']
  · have hi' : i < cs.length := by omega
    simp only [List.getD_eq_getElem?_getD, List.getElem?_map, List.getElem?_eq_getElem hi', Option.map_some, Option.getD_some]
    exact fits_lo8 _
end StrChars.Road
namespace StrChars.Road
open Jvm Sem ClassFile Op Lib Jvm.Stand Jvm.Free Jvm.Free.XT
/-- WHAT COMES BACK, in the writer's own shape -/
def QV (Z : State) (x : Addr) (N : Int32) (bs : List Int32) (h : Heap) (n0 : Nat) (v : Option Value) (h' : Heap) (L : List Loc) : Prop := v = none ∧ RoadKit.Fr n0 L ∧ RoadKit.Keep h h' [x] ∧ RoadKit.Exa Z h' x ST ∧ RoadKit.Fld Z h' x ST "coder" "B" (.int 0) ∧
  ∃ (t : Addr) (kb : ClassId), n0 ≤ t ∧ h.size ≤ t ∧ ¬ t = x ∧ RoadKit.Fld Z h' x ST "value" "[B" (.ref t) ∧ RoadKit.Arv Z h' t kb .byte N (bs.map Value.int) (.int 0)
/-- **new String(chars) AT A CALL, FOR THE WRITER**: a char[] of n known ints, each 0 to 255 -/
theorem backV {p : Program} {l : Launch} {e : Env} {R : Room} {s : State} {args : Array Value} {below : List Frame} {len W : Nat} {Z : State} {a0 : Array Value} {h : Heap} (hZ : Z.Warmed39 s.vm) (hw : ∀ d ∈ words, d.before a0 Z = true) {kI : Nat} (wi : (Jvm.Cond.instantiable ST kI).before a0 Z = true)
    {x b : Addr} {kC : ClassId} {cs bs : List Int32} {d v0 c0 : Value} {z N : Int32} {n n0 : Nat} (hx0 : n0 ≤ x) (hh0 : n0 ≤ h.size) (E : RoadKit.Exa Z h x ST) (V : RoadKit.Fld Z h x ST "value" "[B" v0) (C : RoadKit.Fld Z h x ST "coder" "B" c0) (K : RoadKit.Arv Z h b kC .char N (cs.map Value.int) d) (S : RoadKit.Sta Z h ST "COMPACT_STRINGS" "Z" (.int z)) (hz : ¬ z = 0)
    (hn : cs.length = n) (hN : N = Int32.ofNat n) (l0 : 0 < n) (l2 : n ≤ 4000) (hp : ∀ c ∈ cs, ¬ c < 0 ∧ ¬ (255 : Int32) < c) (hb : bs = cs.map (fun c => c.toInt8.toInt32)) (hfr : 4 ≤ R.frames) (hlo : W + 65 ≤ R.locals) :
    Back l R p e below s args (⟨"java/lang/String", "<init>", "([C)V"⟩ : MethodName) len W (fun P a => a = #[.ref x, .ref b] ∧ P.U.heap = h ∧ P.cells + 1 ≤ R.cells ∧ P.slots + n ≤ R.slots)
      (fun P _ v B => ∃ L, QV Z x N bs h n0 v B.U.heap L ∧ B.locs = P.locs ++ L ∧ B.cells = P.cells + 1 ∧ B.slots = P.slots + n) := by
  subst hn hN hb
  refine Back.mono (backArv hZ hw wi E V C K S hz (n32 (by omega)) l0 (by omega) (fun c hc => (hp c hc).2) hfr hlo) (fun P a hp => hp) (fun P a v B hp hq => ?_)
  obtain ⟨L, ⟨q1, q2, q3, q4, q5, q6, q7, ⟨kb, v1, v2⟩, q9⟩, hl, hc, hs⟩ := hq
  exact ⟨L, ⟨q1, fun y hy => by rw [q2 y hy]; exact hx0, q3, q5, q7, h.size, kb, hh0, Nat.le_refl _, Nat.ne_of_gt E.lt, q6, by rw [List.map_map]; exact v2⟩, hl, hc, hs⟩
end StrChars.Road
end Jvm.Pilot.@@N@@
namespace Jvm.Pilot.@@N@@
open Jvm Jvm.ClassFile Sem Op Lib Jvm.Free Jvm.Stand Jvm.LawKit Jvm.RoadKit Bundle Jvm.Pilot.@@N@@.Jvm.D
theorem oW {Z : State} {a0 : Array Value} (hw : ∀ d ∈ tables_1, d.before a0 Z = true) (i : Nat) {d : Jvm.Cond} (h : tables_1[i]? = some d) : d.before a0 Z = true := hw d (List.mem_of_getElem? h)
abbrev oI (x : Int32) : Slot := .val (.int x)
abbrev oR (x : Addr) : Slot := .val (.ref x)
abbrev oV (x : Value) : Slot := .val x
abbrev oN : Slot := .val .null
abbrev oU : Slot := .unset
abbrev oi (x : Int32) : Value := .int x
abbrev ow (x : Addr) : Value := .ref x
abbrev oS (p : Program) (e : Env) (below : List Frame) (T : State) (g : JFrame) (t : State) : Prop := Steps p.tables e below (T.setTop g) t
abbrev oL (p : Program) (e : Env) (below : List Frame) (T : State) (g : JFrame) (T' : State) (g' : JFrame) : Prop := ∀ t, Steps p.tables e below (T.setTop g) t → Steps p.tables e below (T'.setTop g') t
theorem own_fldI {args : Array Value} {Z : State} {t : Term} {C n d : String} {k : Int32} {a : Addr} (ev : t.eval args Z none [] Z = some (.ref a)) (h : (Jvm.Cond.eq (.field t C n d) (.int k)).value args Z none Z [] = some true) : Fld Z Z.heap a C n d (.int k) := by
  obtain ⟨x, y, h1, h2, hk, hk'⟩ := cmp_v (Or.inl h)
  have h2' : y = .int k := by simpa [Term.eval] using h2.symm
  subst h2'
  obtain ⟨z, rfl⟩ : ∃ z, x = .int z := hk'
  have : z = k := by simpa [Cond.value, h1, h2] using h
  subst this
  exact Fld.start ((fld_at ev).symm.trans h1)
theorem own_nb {b : Int32} (h : b = 0 ∨ b = 1) : nar .boolean b = b := by rcases h with rfl | rfl <;> rfl
theorem own_st1 {v : Value} (h : v.isRef = true) {l l' : Array Slot} {i : Nat} (hold : l[i]? = some .unset) (h2 : l.setIfInBounds i (.val v) = l') : storeLocals l i v = some l' := by
  subst h2
  exact XS.store1 hold (Or.inl rfl) (by rcases ref_cases h with rfl | ⟨a, rfl⟩ <;> rfl)
theorem own_narw_bool {x : Int32} (h : nar .boolean x = x) : narrow .boolean (.int x) = .int x := by show Value.int (nar .boolean x) = _; rw [h]
theorem own_fitw_bool {x : Int32} (h : nar .boolean x = x) : fits .boolean (.int x) = true := by rw [← h]; exact fits_nar_bool x
theorem own_narw_char {x : Int32} (h : nar .char x = x) : narrow .char (.int x) = .int x := by show Value.int (nar .char x) = _; rw [h]
theorem own_fitw_char {x : Int32} (h : nar .char x = x) : fits .char (.int x) = true := by rw [← h]; exact fits_nar_char x
theorem own_fitsR {C : String} {v : Value} (h : v.isRef = true) : fits (.object C) v = true := by rcases ref_cases h with rfl | ⟨a, rfl⟩ <;> rfl
theorem own_charN (x : Int32) : (x.toUInt32.toUInt16.toUInt32.toInt32).toBitVec.toNat = x.toBitVec.toNat % 65536 := by
  show ((x.toBitVec.setWidth 16).setWidth 32).toNat = _
  simp
  omega
theorem own_narc {x : Int32} (h : x.toBitVec.toNat < 65536) : x.toUInt32.toUInt16.toUInt32.toInt32 = x := by
  apply Int32.toBitVec_inj.mp
  apply BitVec.eq_of_toNat_eq
  rw [own_charN, Nat.mod_eq_of_lt h]
theorem own_i2c (x : Int32) : nar .char (x.toUInt32.toUInt16.toUInt32.toInt32) = x.toUInt32.toUInt16.toUInt32.toInt32 := by
  show (x.toUInt32.toUInt16.toUInt32.toInt32).toUInt32.toUInt16.toUInt32.toInt32 = _
  exact own_narc (by rw [own_charN]; exact Nat.mod_lt _ (by decide))
theorem own_c255 (x : Int32) : ¬ nar .char ((x &&& (255 : Int32)).toUInt32.toUInt16.toUInt32.toInt32) < 0 ∧ ¬ (255 : Int32) < nar .char ((x &&& (255 : Int32)).toUInt32.toUInt16.toUInt32.toInt32) := by
  have t : ∀ k : Fin 256, ¬ nar .char ((Int32.ofNat k.val).toUInt32.toUInt16.toUInt32.toInt32) < 0 ∧ ¬ (255 : Int32) < nar .char ((Int32.ofNat k.val).toUInt32.toUInt16.toUInt32.toInt32) := by decide +kernel
  have h : (x &&& 255).toBitVec.toNat < 256 := by
    simp only [Int32.toBitVec_and, BitVec.toNat_and]
    exact Nat.lt_succ_of_le Nat.and_le_right
  have e : (x &&& 255) = Int32.ofNat (x &&& 255).toBitVec.toNat := by
    apply Int32.toBitVec_inj.mp
    show _ = BitVec.ofNat 32 _
    rw [BitVec.ofNat_toNat]; simp
  rw [e]
  exact t ⟨_, h⟩
theorem own_i255 (x : Int32) : ¬ ((255 : Int32) < ((x &&& (255 : Int32)).toUInt32.toUInt16.toUInt32.toInt32)) := by
  have h := (own_c255 x).2
  rwa [own_i2c] at h
theorem own_hws : ∀ d ∈ StrChars.Road.words, d ∈ tables_1 := by decide +kernel
theorem pn_java_lang_Record : plainName "java/lang/Record" = true := by first | (simp [plainName, overriddenIn]; done) | decide +kernel
theorem d9_0 : decode jdk_30_method_1_code 0 = .ok (.aload_n 0, 1) := by decide +kernel
theorem d9_1 : decode jdk_30_method_1_code 1 = .ok (.invokespecial 1, 3) := by decide +kernel
theorem d9_4 : decode jdk_30_method_1_code 4 = .ok (.return_, 1) := by decide +kernel
def Q_rm_rec (Z : State) (a1 : Addr) (h0 : Heap) (n0 : Nat) (v : Option Value) (h : Heap) (L : List Loc) : Prop := v = none ∧ Fr n0 L ∧ h = h0
set_option maxRecDepth 65536 in
set_option maxHeartbeats 40000000 in
theorem rm_rec (l : Launch) (Z : State) (a0 : Array Value) (hw : ∀ d ∈ tables_1, d.before a0 Z = true) (ws : List Jvm.Cond) (a1 : Addr) (h0 : Heap) (n0 : Nat) (OL : Old Z n0 h0) :
    MetFree l (⟨"java/lang/Record", "<init>", "()V"⟩ : MethodName) (head1 (Jvm.Cond.code (⟨"java/lang/Record", "<init>", "()V"⟩ : MethodName) jdk_30_method_1_code 1 none :: ws) ({ frames := 1, cells := 0, slots := 0, locals := 12 } : Room)) (fun a U => a = #[(.ref a1)] ∧ Z.Warmed39 U.vm ∧ U.heap = h0) (fun _ _ _ _ _ => True) (fun _ U o U' => ∃ v L, o = .returned v ∧ Q_rm_rec Z a1 h0 n0 v U'.heap L ∧ FrameEnd U o U' L ({ frames := 1, cells := 0, slots := 0, locals := 12 } : Room).cells ({ frames := 1, cells := 0, slots := 0, locals := 12 } : Room).slots) := by
  refine MetFree.of_bodySF (plainFor_of_name pn_java_lang_Record) hisR ?_
  intro p e s m args below meth c s₁ Bd hml0 hP hK
  obtain ⟨rfl, hZ, hh⟩ := hP
  have hx := Bd.exec
  have hby := Bd.bytes
  have hml : c.maxLocals = 1 := hml0
  have hown : s.vm.findClass "java/lang/Record" = some m.cls := findClass_of_methodNamed Bd.named
  have hnm := (name_of_methodNamed Bd.named Bd.method).1
  have X0 : Stand p l e ({ frames := 1, cells := 0, slots := 0, locals := 12 } : Room) s m #[(.ref a1)] below meth c s₁ [] 0 0 := Stand.of_body Bd
  have e0 : s₁.heap = h0 := by rw [← hh, Bd.state]; rfl
  have N0 := Fr.nil n0
  have pre0 : oL p e below s₁ (mkF m 0 #[oR a1] []) s₁ (entryFrame m #[(.ref a1)] 1) := fun t k => castTop (by first | (simp [entryFrame, mkF, argsToLocals, Value.category]; done) | rfl) k
  have pre1 : oL p e below s₁ (mkF m 1 #[oR a1] [ow a1]) s₁ (entryFrame m #[(.ref a1)] 1) := fun t k => pre0 t (by
    refine XS.aloadN X0.here hx rfl (hb hby d9_0) rfl rfl ?_
    exact k)
  obtain ⟨T2, X2, e2, st2⟩ := initO X0 hx hZ hown (oW hw 46 rfl) (oW hw 12 rfl) (oW hw 13 rfl) e0 (g := (mkF m 1 #[oR a1] [ow a1])) rfl (by rw [hml]; rfl) rfl (hb hby d9_1) (by decide) (W := 0) (by show 2 * 0 + _ ≤ _; exact Nat.le_of_eq rfl) (by decide)
  have pre3 : oL p e below T2 (mkF m 4 #[oR a1] []) s₁ (entryFrame m #[(.ref a1)] 1) := fun t k => pre1 t (by
    refine st2 _ ?_
    exact k)
  obtain ⟨fs, hr, hrun, hended, hW, hsame⟩ := X2.leave (v := none) (fun _ => rfl)
  refine ⟨_, _, pre3 _ ?_, hrun, hended, _, _, rfl, ?_, ⟨_, rfl⟩, hW, hsame.mono (by decide) (by decide)⟩
  ·
    show oS p e below T2 (mkF m 4 #[oR a1] []) _
    exact X2.returnOut hx Bd.returns (hb hby d9_4) hr
  ·
    show Q_rm_rec Z a1 h0 n0 _ T2.heap _
    rw [e2]
    exact ⟨rfl, N0, rfl⟩
theorem pn_com_example_grantwright_grantwright_PathTable_Row : plainName "com/example/grantwright/grantwright/PathTable$Row" = true := by first | (simp [plainName, overriddenIn]; done) | decide +kernel
theorem d8_0 : decode prog_11_method_1_code 0 = .ok (.aload_n 0, 1) := by decide +kernel
theorem d8_1 : decode prog_11_method_1_code 1 = .ok (.invokespecial 1, 3) := by decide +kernel
theorem pd___V : parseMethodDescriptor "()V" = some ⟨[], none⟩ := by decide +kernel
theorem d8_4 : decode prog_11_method_1_code 4 = .ok (.aload_n 0, 1) := by decide +kernel
theorem d8_5 : decode prog_11_method_1_code 5 = .ok (.aload_n 1, 1) := by decide +kernel
theorem d8_6 : decode prog_11_method_1_code 6 = .ok (.putfield 7, 3) := by decide +kernel
theorem d8_9 : decode prog_11_method_1_code 9 = .ok (.aload_n 0, 1) := by decide +kernel
theorem d8_10 : decode prog_11_method_1_code 10 = .ok (.iload_n 2, 1) := by decide +kernel
theorem d8_11 : decode prog_11_method_1_code 11 = .ok (.putfield 13, 3) := by decide +kernel
theorem d8_14 : decode prog_11_method_1_code 14 = .ok (.aload_n 0, 1) := by decide +kernel
theorem d8_15 : decode prog_11_method_1_code 15 = .ok (.iload_n 3, 1) := by decide +kernel
theorem d8_16 : decode prog_11_method_1_code 16 = .ok (.putfield 17, 3) := by decide +kernel
theorem d8_19 : decode prog_11_method_1_code 19 = .ok (.aload_n 0, 1) := by decide +kernel
theorem d8_20 : decode prog_11_method_1_code 20 = .ok (.aload 4, 2) := by decide +kernel
theorem d8_22 : decode prog_11_method_1_code 22 = .ok (.putfield 20, 3) := by decide +kernel
theorem d8_25 : decode prog_11_method_1_code 25 = .ok (.return_, 1) := by decide +kernel
def Q_rm_row (Z : State) (a1 : Addr) (a2 : Addr) (pr : Int32) (pw : Int32) (a5 : Addr) (h0 : Heap) (n0 : Nat) (v : Option Value) (h : Heap) (L : List Loc) : Prop := v = none ∧ Fr n0 L ∧ Keep h0 h [a1] ∧ Exa Z h a1 "com/example/grantwright/grantwright/PathTable$Row" ∧ Fld Z h a1 "com/example/grantwright/grantwright/PathTable$Row" "noRead" "Z" (.int pr) ∧ Fld Z h a1 "com/example/grantwright/grantwright/PathTable$Row" "noWrite" "Z" (.int pw)
set_option maxRecDepth 65536 in
set_option maxHeartbeats 40000000 in
theorem rm_row (l : Launch) (Z : State) (a0 : Array Value) (hw : ∀ d ∈ tables_1, d.before a0 Z = true) (ws : List Jvm.Cond) (a1 : Addr) (a2 : Addr) (pr : Int32) (pw : Int32) (a5 : Addr) (h0 : Heap) (n0 : Nat) (OL : Old Z n0 h0) (ge1 : n0 ≤ a1) (E1 : Exa Z h0 a1 "com/example/grantwright/grantwright/PathTable$Row") (F_path : Fld Z h0 a1 "com/example/grantwright/grantwright/PathTable$Row" "path" "Ljava/lang/String;" .null) (F_noRead : Fld Z h0 a1 "com/example/grantwright/grantwright/PathTable$Row" "noRead" "Z" (.int (0 : Int32))) (F_noWrite : Fld Z h0 a1 "com/example/grantwright/grantwright/PathTable$Row" "noWrite" "Z" (.int (0 : Int32))) (F_group : Fld Z h0 a1 "com/example/grantwright/grantwright/PathTable$Row" "group" "Ljava/util/Optional;" .null) (nr : nar .boolean pr = pr) (nw : nar .boolean pw = pw) :
    MetFree l (⟨"com/example/grantwright/grantwright/PathTable$Row", "<init>", "(Ljava/lang/String;ZZLjava/util/Optional;)V"⟩ : MethodName) (head1 (Jvm.Cond.code (⟨"com/example/grantwright/grantwright/PathTable$Row", "<init>", "(Ljava/lang/String;ZZLjava/util/Optional;)V"⟩ : MethodName) prog_11_method_1_code 5 none :: ws) ({ frames := 2, cells := 0, slots := 0, locals := 24 } : Room)) (fun a U => a = #[(.ref a1), (.ref a2), (.int pr), (.int pw), (.ref a5)] ∧ Z.Warmed39 U.vm ∧ U.heap = h0) (fun _ _ _ _ _ => True) (fun _ U o U' => ∃ v L, o = .returned v ∧ Q_rm_row Z a1 a2 pr pw a5 h0 n0 v U'.heap L ∧ FrameEnd U o U' L ({ frames := 2, cells := 0, slots := 0, locals := 24 } : Room).cells ({ frames := 2, cells := 0, slots := 0, locals := 24 } : Room).slots) := by
  refine MetFree.of_bodySF (plainFor_of_name pn_com_example_grantwright_grantwright_PathTable_Row) hisR ?_
  intro p e s m args below meth c s₁ Bd hml0 hP hK
  obtain ⟨rfl, hZ, hh⟩ := hP
  have hx := Bd.exec
  have hby := Bd.bytes
  have hml : c.maxLocals = 5 := hml0
  have hown : s.vm.findClass "com/example/grantwright/grantwright/PathTable$Row" = some m.cls := findClass_of_methodNamed Bd.named
  have hnm := (name_of_methodNamed Bd.named Bd.method).1
  have X0 : Stand p l e ({ frames := 2, cells := 0, slots := 0, locals := 24 } : Room) s m #[(.ref a1), (.ref a2), (.int pr), (.int pw), (.ref a5)] below meth c s₁ [] 0 0 := Stand.of_body Bd
  have e0 : s₁.heap = h0 := by rw [← hh, Bd.state]; rfl
  have N0 := Fr.nil n0
  have pre0 : oL p e below s₁ (mkF m 0 #[oR a1, oR a2, oI pr, oI pw, oR a5] []) s₁ (entryFrame m #[(.ref a1), (.ref a2), (.int pr), (.int pw), (.ref a5)] 5) := fun t k => castTop (by first | (simp [entryFrame, mkF, argsToLocals, Value.category]; done) | rfl) k
  have pre1 : oL p e below s₁ (mkF m 1 #[oR a1, oR a2, oI pr, oI pw, oR a5] [ow a1]) s₁ (entryFrame m #[(.ref a1), (.ref a2), (.int pr), (.int pw), (.ref a5)] 5) := fun t k => pre0 t (by
    refine XS.aloadN X0.here hx rfl (hb hby d8_0) rfl rfl ?_
    exact k)
  obtain ⟨_, _, ⟨T2, L2, k2, n2⟩, -, X2, ⟨Lc2, hQ2, l2, y2, z2⟩, st2⟩ := X0.specialBack hx (y := (⟨"java/lang/Record", "<init>", "()V"⟩ : MethodName)) rfl hown (mvT hZ (oW hw 41 rfl)) (mvT hZ (oW hw 42 rfl)) (mvT hZ (oW hw 45 rfl)) (by decide) (backOf (W := 0) (rm_rec l Z a0 hw [] a1 h0 n0 OL ) hZ (oW hw 45 rfl) (oW hw 44 rfl) (by decide) (by decide)) (g := (mkF m 1 #[oR a1, oR a2, oI pr, oI pw, oR a5] [ow a1])) rfl (by rw [hml]; rfl) (Steps.refl _) (a := a1) (argsL := []) (rest := []) (lenOf pd___V rfl) rfl (by show 2 * 0 + _ ≤ _; exact Nat.le_of_eq rfl) (hb hby d8_1) (fun _ _ => ⟨rfl, e0, (by decide : 0 + 0 ≤ _), (by decide : 0 + 0 ≤ _)⟩)
  dsimp only [Pt.U, Pt.locs, Pt.cells, Pt.slots] at X2 l2 y2 z2 st2 hQ2
  subst l2 y2 z2
  obtain ⟨rfl, N2q, e2⟩ := hQ2
  have N2 := Fr.app N0 N2q
  have pre3 : oL p e below T2 (mkF m 6 #[oR a1, oR a2, oI pr, oI pw, oR a5] [ow a2, ow a1]) s₁ (entryFrame m #[(.ref a1), (.ref a2), (.int pr), (.int pw), (.ref a5)] 5) := fun t k => pre1 t (by
    refine st2.trans ?_
    refine XS.aloadN X2.here hx rfl (hb hby d8_4) rfl rfl ?_
    refine XS.aloadN X2.here hx rfl (hb hby d8_5) rfl rfl ?_
    show oS p e below T2 (mkF m 6 #[oR a1, oR a2, oI pr, oI pw, oR a5] [ow a2, ow a1]) _
    exact k)
  obtain ⟨T4, h4, X4, e4, W4, st4⟩ := putF X2 hx hZ hown (host := "") (Or.inl (oW hw 47 rfl)) Via.refl e2 F_path E1 (Or.inr ⟨(oW hw 48 rfl), rfl, hnm⟩) (oW hw 36 rfl) (ty := (.object "java/lang/String")) (by decide) rfl rfl (g := (mkF m 6 #[oR a1, oR a2, oI pr, oI pw, oR a5] [ow a2, ow a1])) rfl rfl (hb hby d8_6)
  have f5 := F_path.same W4
  have N4 := Fr.snoc X4 N2 ge1
  have f6 := E1.wr W4
  have f7 := F_noRead.other W4 (Or.inr (slot_ne (Or.inr (oW hw 50 rfl)) (Or.inr (oW hw 48 rfl)) (by decide) (t := .boolean) (t' := (.object "java/lang/String")) (by decide) (by decide)))
  have f8 := F_noWrite.other W4 (Or.inr (slot_ne (Or.inr (oW hw 52 rfl)) (Or.inr (oW hw 48 rfl)) (by decide) (t := .boolean) (t' := (.object "java/lang/String")) (by decide) (by decide)))
  have f9 := F_group.other W4 (Or.inr (slot_ne (Or.inr (oW hw 54 rfl)) (Or.inr (oW hw 48 rfl)) (by decide) (t := (.object "java/util/Optional")) (t' := (.object "java/lang/String")) (by decide) (by decide)))
  have OL10 := OL.wr W4 ge1
  have K11 : Keep h0 h4 [a1] := (Keep.refl h0 [a1]).wr W4 (Or.inl (List.mem_of_getElem? (i := 0) rfl))
  have pre12 : oL p e below T4 (mkF m 11 #[oR a1, oR a2, oI pr, oI pw, oR a5] [oi pr, ow a1]) s₁ (entryFrame m #[(.ref a1), (.ref a2), (.int pr), (.int pw), (.ref a5)] 5) := fun t k => pre3 t (by
    refine st4 _ ?_
    refine XS.aloadN X4.here hx rfl (hb hby d8_9) rfl rfl ?_
    refine XS.iloadN X4.here hx rfl (hb hby d8_10) rfl ?_
    exact k)
  obtain ⟨T13, h13, X13, e13, W13, st13⟩ := putFN X4 hx hZ hown (oW hw 49 rfl) Via.refl e4 f7 f6 (Or.inr ⟨(oW hw 50 rfl), rfl, hnm⟩) (oW hw 36 rfl) (ty := .boolean) (v' := (.int pr)) (by decide) (own_narw_bool nr) (own_fitw_bool nr) (g := (mkF m 11 #[oR a1, oR a2, oI pr, oI pw, oR a5] [oi pr, ow a1])) rfl rfl (hb hby d8_11)
  have f14 := f7.same W13
  have N13 := Fr.snoc X13 N4 ge1
  have f15 := f6.wr W13
  have f16 := f5.other W13 (Or.inr (slot_ne (Or.inr (oW hw 48 rfl)) (Or.inr (oW hw 50 rfl)) (by decide) (t := (.object "java/lang/String")) (t' := .boolean) (by decide) (by decide)))
  have f17 := f8.other W13 (Or.inr (slot_ne (Or.inr (oW hw 52 rfl)) (Or.inr (oW hw 50 rfl)) (by decide) (t := .boolean) (t' := .boolean) (by decide) (by decide)))
  have f18 := f9.other W13 (Or.inr (slot_ne (Or.inr (oW hw 54 rfl)) (Or.inr (oW hw 50 rfl)) (by decide) (t := (.object "java/util/Optional")) (t' := .boolean) (by decide) (by decide)))
  have OL19 := OL10.wr W13 ge1
  have K20 : Keep h0 h13 [a1] := K11.wr W13 (Or.inl (List.mem_of_getElem? (i := 0) rfl))
  have pre21 : oL p e below T13 (mkF m 16 #[oR a1, oR a2, oI pr, oI pw, oR a5] [oi pw, ow a1]) s₁ (entryFrame m #[(.ref a1), (.ref a2), (.int pr), (.int pw), (.ref a5)] 5) := fun t k => pre12 t (by
    refine st13 _ ?_
    show oS p e below T13 (mkF m 14 #[oR a1, oR a2, oI pr, oI pw, oR a5] []) _
    refine XS.aloadN X13.here hx rfl (hb hby d8_14) rfl rfl ?_
    refine XS.iloadN X13.here hx rfl (hb hby d8_15) rfl ?_
    exact k)
  obtain ⟨T22, h22, X22, e22, W22, st22⟩ := putFN X13 hx hZ hown (oW hw 51 rfl) Via.refl e13 f17 f15 (Or.inr ⟨(oW hw 52 rfl), rfl, hnm⟩) (oW hw 36 rfl) (ty := .boolean) (v' := (.int pw)) (by decide) (own_narw_bool nw) (own_fitw_bool nw) (g := (mkF m 16 #[oR a1, oR a2, oI pr, oI pw, oR a5] [oi pw, ow a1])) rfl rfl (hb hby d8_16)
  have f23 := f17.same W22
  have N22 := Fr.snoc X22 N13 ge1
  have f24 := f15.wr W22
  have f25 := f16.other W22 (Or.inr (slot_ne (Or.inr (oW hw 48 rfl)) (Or.inr (oW hw 52 rfl)) (by decide) (t := (.object "java/lang/String")) (t' := .boolean) (by decide) (by decide)))
  have f26 := f14.other W22 (Or.inr (slot_ne (Or.inr (oW hw 50 rfl)) (Or.inr (oW hw 52 rfl)) (by decide) (t := .boolean) (t' := .boolean) (by decide) (by decide)))
  have f27 := f18.other W22 (Or.inr (slot_ne (Or.inr (oW hw 54 rfl)) (Or.inr (oW hw 52 rfl)) (by decide) (t := (.object "java/util/Optional")) (t' := .boolean) (by decide) (by decide)))
  have OL28 := OL19.wr W22 ge1
  have K29 : Keep h0 h22 [a1] := K20.wr W22 (Or.inl (List.mem_of_getElem? (i := 0) rfl))
  have pre30 : oL p e below T22 (mkF m 22 #[oR a1, oR a2, oI pr, oI pw, oR a5] [ow a5, ow a1]) s₁ (entryFrame m #[(.ref a1), (.ref a2), (.int pr), (.int pw), (.ref a5)] 5) := fun t k => pre21 t (by
    refine st22 _ ?_
    refine XS.aloadN X22.here hx rfl (hb hby d8_19) rfl rfl ?_
    show oS p e below T22 (mkF m 20 #[oR a1, oR a2, oI pr, oI pw, oR a5] [ow a1]) _
    refine XS.aload X22.here hx rfl (hb hby d8_20) rfl rfl ?_
    exact k)
  obtain ⟨T31, h31, X31, e31, W31, st31⟩ := putF X22 hx hZ hown (host := "") (Or.inl (oW hw 53 rfl)) Via.refl e22 f27 f24 (Or.inr ⟨(oW hw 54 rfl), rfl, hnm⟩) (oW hw 36 rfl) (ty := (.object "java/util/Optional")) (by decide) rfl rfl (g := (mkF m 22 #[oR a1, oR a2, oI pr, oI pw, oR a5] [ow a5, ow a1])) rfl rfl (hb hby d8_22)
  have f32 := f27.same W31
  have N31 := Fr.snoc X31 N22 ge1
  have f33 := f24.wr W31
  have f34 := f25.other W31 (Or.inr (slot_ne (Or.inr (oW hw 48 rfl)) (Or.inr (oW hw 54 rfl)) (by decide) (t := (.object "java/lang/String")) (t' := (.object "java/util/Optional")) (by decide) (by decide)))
  have f35 := f26.other W31 (Or.inr (slot_ne (Or.inr (oW hw 50 rfl)) (Or.inr (oW hw 54 rfl)) (by decide) (t := .boolean) (t' := (.object "java/util/Optional")) (by decide) (by decide)))
  have f36 := f23.other W31 (Or.inr (slot_ne (Or.inr (oW hw 52 rfl)) (Or.inr (oW hw 54 rfl)) (by decide) (t := .boolean) (t' := (.object "java/util/Optional")) (by decide) (by decide)))
  have OL37 := OL28.wr W31 ge1
  have K38 : Keep h0 h31 [a1] := K29.wr W31 (Or.inl (List.mem_of_getElem? (i := 0) rfl))
  have pre39 : oL p e below T31 (mkF m 25 #[oR a1, oR a2, oI pr, oI pw, oR a5] []) s₁ (entryFrame m #[(.ref a1), (.ref a2), (.int pr), (.int pw), (.ref a5)] 5) := fun t k => pre30 t (by
    refine st31 _ ?_
    exact k)
  obtain ⟨fs, hr, hrun, hended, hW, hsame⟩ := X31.leave (v := none) (fun _ => rfl)
  refine ⟨_, _, pre39 _ ?_, hrun, hended, _, _, rfl, ?_, ⟨_, rfl⟩, hW, hsame.mono (by decide) (by decide)⟩
  ·
    show oS p e below T31 (mkF m 25 #[oR a1, oR a2, oI pr, oI pw, oR a5] []) _
    exact X31.returnOut hx Bd.returns (hb hby d8_25) hr
  ·
    show Q_rm_row Z a1 a2 pr pw a5 h0 n0 _ T31.heap _
    rw [e31]
    exact ⟨rfl, N31, K38, f33, f35, f36⟩
theorem d10_0 : decode prog_11_method_2_code 0 = .ok (.aload_n 0, 1) := by decide +kernel
theorem d10_1 : decode prog_11_method_2_code 1 = .ok (.getfield 13, 3) := by decide +kernel
theorem d10_4 : decode prog_11_method_2_code 4 = .ok (.ifCond .ne 17, 3) := by decide +kernel
theorem d10_7 : decode prog_11_method_2_code 7 = .ok (.aload_n 1, 1) := by decide +kernel
theorem d10_8 : decode prog_11_method_2_code 8 = .ok (.getstatic 24, 3) := by decide +kernel
theorem d10_11 : decode prog_11_method_2_code 11 = .ok (.if_acmp .ne 14, 3) := by decide +kernel
theorem d10_14 : decode prog_11_method_2_code 14 = .ok (.aload_n 0, 1) := by decide +kernel
theorem d10_15 : decode prog_11_method_2_code 15 = .ok (.getfield 17, 3) := by decide +kernel
theorem d10_18 : decode prog_11_method_2_code 18 = .ok (.ifCond .eq 7, 3) := by decide +kernel
theorem d10_25 : decode prog_11_method_2_code 25 = .ok (.iconst 0, 1) := by decide +kernel
theorem d10_26 : decode prog_11_method_2_code 26 = .ok (.ireturn, 1) := by decide +kernel
theorem d10_21 : decode prog_11_method_2_code 21 = .ok (.iconst 1, 1) := by decide +kernel
theorem d10_22 : decode prog_11_method_2_code 22 = .ok (.goto 4, 3) := by decide +kernel
def Q_rm_den (Z : State) (a1 : Addr) (a2 : Addr) (pr : Int32) (pw : Int32) (wW : Addr) (r : Int32) (h0 : Heap) (n0 : Nat) (v : Option Value) (h : Heap) (L : List Loc) : Prop := v = some (.int r) ∧ Fr n0 L ∧ h = h0
set_option maxRecDepth 65536 in
set_option maxHeartbeats 40000000 in
theorem rm_den (l : Launch) (Z : State) (a0 : Array Value) (hw : ∀ d ∈ tables_1, d.before a0 Z = true) (ws : List Jvm.Cond) (a1 : Addr) (a2 : Addr) (pr : Int32) (pw : Int32) (wW : Addr) (r : Int32) (h0 : Heap) (n0 : Nat) (OL : Old Z n0 h0) (F1 : Fld Z h0 a1 "com/example/grantwright/grantwright/PathTable$Row" "noRead" "Z" (.int pr)) (F2 : Fld Z h0 a1 "com/example/grantwright/grantwright/PathTable$Row" "noWrite" "Z" (.int pw)) (sW : Sta Z Z.heap "com/example/grantwright/grantwright/PathActivity" "WRITE" "Lcom/example/grantwright/grantwright/PathActivity;" (.ref wW)) (hr' : r = if pr = 0 then (if a2 = wW then (if pw = 0 then 0 else 1) else 0) else 1) :
    MetFree l (⟨"com/example/grantwright/grantwright/PathTable$Row", "denies", "(Lcom/example/grantwright/grantwright/PathActivity;)Z"⟩ : MethodName) (head1 (Jvm.Cond.code (⟨"com/example/grantwright/grantwright/PathTable$Row", "denies", "(Lcom/example/grantwright/grantwright/PathActivity;)Z"⟩ : MethodName) prog_11_method_2_code 2 (some .boolean) :: ws) ({ frames := 0, cells := 0, slots := 0, locals := 0 } : Room)) (fun a U => a = #[(.ref a1), (.ref a2)] ∧ Z.Warmed39 U.vm ∧ U.heap = h0) (fun _ _ _ _ _ => True) (fun _ U o U' => ∃ v L, o = .returned v ∧ Q_rm_den Z a1 a2 pr pw wW r h0 n0 v U'.heap L ∧ FrameEnd U o U' L ({ frames := 0, cells := 0, slots := 0, locals := 0 } : Room).cells ({ frames := 0, cells := 0, slots := 0, locals := 0 } : Room).slots) := by
  refine MetFree.of_bodySF (plainFor_of_name pn_com_example_grantwright_grantwright_PathTable_Row) hisR ?_
  intro p e s m args below meth c s₁ Bd hml0 hP hK
  obtain ⟨rfl, hZ, hh⟩ := hP
  have hx := Bd.exec
  have hby := Bd.bytes
  have hml : c.maxLocals = 2 := hml0
  have hown : s.vm.findClass "com/example/grantwright/grantwright/PathTable$Row" = some m.cls := findClass_of_methodNamed Bd.named
  have hnm := (name_of_methodNamed Bd.named Bd.method).1
  have X0 : Stand p l e ({ frames := 0, cells := 0, slots := 0, locals := 0 } : Room) s m #[(.ref a1), (.ref a2)] below meth c s₁ [] 0 0 := Stand.of_body Bd
  have e0 : s₁.heap = h0 := by rw [← hh, Bd.state]; rfl
  have N0 := Fr.nil n0
  have pre0 : oL p e below s₁ (mkF m 0 #[oR a1, oR a2] []) s₁ (entryFrame m #[(.ref a1), (.ref a2)] 2) := fun t k => castTop (by first | (simp [entryFrame, mkF, argsToLocals, Value.category]; done) | rfl) k
  have pre1 : oL p e below s₁ (mkF m 1 #[oR a1, oR a2] [ow a1]) s₁ (entryFrame m #[(.ref a1), (.ref a2)] 2) := fun t k => pre0 t (by
    refine XS.aloadN X0.here hx rfl (hb hby d10_0) rfl rfl ?_
    exact k)
  obtain ⟨T2, X2, e2, st2⟩ := getF X0 hx hZ hown (host := "") (Or.inl (oW hw 49 rfl)) Via.refl e0 F1 (g := (mkF m 1 #[oR a1, oR a2] [ow a1])) rfl rfl (hb hby d10_1)
  have pre3 : oL p e below T2 (mkF m 4 #[oR a1, oR a2] [oi pr]) s₁ (entryFrame m #[(.ref a1), (.ref a2)] 2) := fun t k => pre1 t (by
    refine st2 _ ?_
    exact k)
  by_cases hc4 : pr = (0 : Int32)
  ·
    have pre5 : oL p e below T2 (mkF m 8 #[oR a1, oR a2] [ow a2]) s₁ (entryFrame m #[(.ref a1), (.ref a2)] 2) := fun t k => pre3 t (by
      refine XS.ifNo X2.here hx rfl (hb hby d10_4) rfl ((if0 _ _).trans (teq hc4).2) ?_
      refine XS.aloadN X2.here hx rfl (hb hby d10_7) rfl rfl ?_
      show oS p e below T2 (mkF m 8 #[oR a1, oR a2] [ow a2]) _
      exact k)
    obtain ⟨T6, X6, e6, st6⟩ := getS2 X2 hx hZ hown (host := "") (Or.inl (oW hw 63 rfl)) Via.refl e2 (sW.ext OL.2) (g := (mkF m 8 #[oR a1, oR a2] [ow a2])) rfl (hb hby d10_8)
    have pre7 : oL p e below T6 (mkF m 11 #[oR a1, oR a2] [ow wW, ow a2]) s₁ (entryFrame m #[(.ref a1), (.ref a2)] 2) := fun t k => pre5 t (by
      refine st6 _ ?_
      exact k)
    by_cases hc8 : a2 = wW
    ·
      have pre9 : oL p e below T6 (mkF m 15 #[oR a1, oR a2] [ow a1]) s₁ (entryFrame m #[(.ref a1), (.ref a2)] 2) := fun t k => pre7 t (by
        refine Jvm.RoadKit.acmp (g := (mkF m 11 #[oR a1, oR a2] [ow wW, ow a2])) X6 hx rfl rfl rfl (pc0 := 11) (pc' := 14) (same := true) rfl (hb hby d10_11) rfl (decide_eq_true (congrArg Value.ref hc8)) (by decide) (by decide) ?_
        refine XS.aloadN X6.here hx rfl (hb hby d10_14) rfl rfl ?_
        exact k)
      obtain ⟨T10, X10, e10, st10⟩ := getF X6 hx hZ hown (host := "") (Or.inl (oW hw 51 rfl)) Via.refl e6 F2 (g := (mkF m 15 #[oR a1, oR a2] [ow a1])) rfl rfl (hb hby d10_15)
      have pre11 : oL p e below T10 (mkF m 18 #[oR a1, oR a2] [oi pw]) s₁ (entryFrame m #[(.ref a1), (.ref a2)] 2) := fun t k => pre9 t (by
        refine st10 _ ?_
        show oS p e below T10 (mkF m 18 #[oR a1, oR a2] [oi pw]) _
        exact k)
      by_cases hc12 : pw = (0 : Int32)
      ·
        have pre13 : oL p e below T10 (mkF m 26 #[oR a1, oR a2] [oi 0]) s₁ (entryFrame m #[(.ref a1), (.ref a2)] 2) := fun t k => pre11 t (by
          refine XS.ifYes X10.here hx rfl (pc0 := 18) (pc' := 25) rfl (hb hby d10_18) rfl ((if0 _ _).trans (teq hc12).1) (by decide) (by decide) ?_
          refine XS.iconst X10.here hx rfl (hb hby d10_25) ?_
          exact k)
        obtain ⟨fs, hr, hrun, hended, hW, hsame⟩ := X10.leave (v := some (.int (0 : Int32))) (fun h => by rw [Bd.returns] at h; cases h)
        refine ⟨_, _, pre13 _ ?_, hrun, hended, _, _, rfl, ?_, ⟨_, rfl⟩, hW, hsame.mono (by decide) (by decide)⟩
        ·
          show oS p e below T10 (mkF m 26 #[oR a1, oR a2] [oi 0]) _
          exact retN X10 hx (t := .boolean) Bd.returns (by simp) (hb hby d10_26) hr
        ·
          show Q_rm_den Z a1 a2 pr pw wW r h0 n0 _ T10.heap _
          rw [e10]
          exact ⟨by rw [hr']; simp [hc4, hc8, hc12], N0, rfl⟩
      ·
        have pre14 : oL p e below T10 (mkF m 26 #[oR a1, oR a2] [oi 1]) s₁ (entryFrame m #[(.ref a1), (.ref a2)] 2) := fun t k => pre11 t (by
          refine XS.ifNo X10.here hx rfl (hb hby d10_18) rfl ((if0 _ _).trans (feq hc12).1) ?_
          refine XS.iconst X10.here hx rfl (hb hby d10_21) ?_
          refine XS.goto X10.here hx rfl (pc0 := 22) (pc' := 26) rfl (hb hby d10_22) (by decide) (by decide) ?_
          exact k)
        obtain ⟨fs, hr, hrun, hended, hW, hsame⟩ := X10.leave (v := some (.int (1 : Int32))) (fun h => by rw [Bd.returns] at h; cases h)
        refine ⟨_, _, pre14 _ ?_, hrun, hended, _, _, rfl, ?_, ⟨_, rfl⟩, hW, hsame.mono (by decide) (by decide)⟩
        ·
          show oS p e below T10 (mkF m 26 #[oR a1, oR a2] [oi 1]) _
          exact retN X10 hx (t := .boolean) Bd.returns (by simp) (hb hby d10_26) hr
        ·
          show Q_rm_den Z a1 a2 pr pw wW r h0 n0 _ T10.heap _
          rw [e10]
          exact ⟨by rw [hr']; simp [hc4, hc8, hc12], N0, rfl⟩
    ·
      have pre15 : oL p e below T6 (mkF m 26 #[oR a1, oR a2] [oi 0]) s₁ (entryFrame m #[(.ref a1), (.ref a2)] 2) := fun t k => pre7 t (by
        refine Jvm.RoadKit.acmp (g := (mkF m 11 #[oR a1, oR a2] [ow wW, ow a2])) X6 hx rfl rfl rfl (pc0 := 11) (pc' := 25) (same := false) rfl (hb hby d10_11) rfl (decide_eq_false fun q => hc8 (Value.ref.inj q)) (by decide) (by decide) ?_
        refine XS.iconst X6.here hx rfl (hb hby d10_25) ?_
        exact k)
      obtain ⟨fs, hr, hrun, hended, hW, hsame⟩ := X6.leave (v := some (.int (0 : Int32))) (fun h => by rw [Bd.returns] at h; cases h)
      refine ⟨_, _, pre15 _ ?_, hrun, hended, _, _, rfl, ?_, ⟨_, rfl⟩, hW, hsame.mono (by decide) (by decide)⟩
      ·
        show oS p e below T6 (mkF m 26 #[oR a1, oR a2] [oi 0]) _
        exact retN X6 hx (t := .boolean) Bd.returns (by simp) (hb hby d10_26) hr
      ·
        show Q_rm_den Z a1 a2 pr pw wW r h0 n0 _ T6.heap _
        rw [e6]
        exact ⟨by rw [hr']; simp [hc4, hc8], N0, rfl⟩
  ·
    have pre16 : oL p e below T2 (mkF m 26 #[oR a1, oR a2] [oi 1]) s₁ (entryFrame m #[(.ref a1), (.ref a2)] 2) := fun t k => pre3 t (by
      refine XS.ifYes X2.here hx rfl (pc0 := 4) (pc' := 21) rfl (hb hby d10_4) rfl ((if0 _ _).trans (feq hc4).2) (by decide) (by decide) ?_
      refine XS.iconst X2.here hx rfl (hb hby d10_21) ?_
      show oS p e below T2 (mkF m 22 #[oR a1, oR a2] [oi 1]) _
      refine XS.goto X2.here hx rfl (pc0 := 22) (pc' := 26) rfl (hb hby d10_22) (by decide) (by decide) ?_
      exact k)
    obtain ⟨fs, hr, hrun, hended, hW, hsame⟩ := X2.leave (v := some (.int (1 : Int32))) (fun h => by rw [Bd.returns] at h; cases h)
    refine ⟨_, _, pre16 _ ?_, hrun, hended, _, _, rfl, ?_, ⟨_, rfl⟩, hW, hsame.mono (by decide) (by decide)⟩
    ·
      show oS p e below T2 (mkF m 26 #[oR a1, oR a2] [oi 1]) _
      exact retN X2 hx (t := .boolean) Bd.returns (by simp) (hb hby d10_26) hr
    ·
      show Q_rm_den Z a1 a2 pr pw wW r h0 n0 _ T2.heap _
      rw [e2]
      exact ⟨by rw [hr']; simp [hc4], N0, rfl⟩
theorem pn_com_example_grantwright_grantwright_RowDeniesPinLaw : plainName "com/example/grantwright/grantwright/RowDeniesPinLaw" = true := by first | (simp [plainName, overriddenIn]; done) | decide +kernel
theorem d11_0 : decode method_2_code 0 = .ok (.iload_n 0, 1) := by decide +kernel
theorem d11_1 : decode method_2_code 1 = .ok (.ifCond .eq 5, 3) := by decide +kernel
theorem d11_6 : decode method_2_code 6 = .ok (.iconst 0, 1) := by decide +kernel
theorem d11_7 : decode method_2_code 7 = .ok (.ireturn, 1) := by decide +kernel
theorem d11_4 : decode method_2_code 4 = .ok (.iconst 1, 1) := by decide +kernel
theorem d11_5 : decode method_2_code 5 = .ok (.ireturn, 1) := by decide +kernel
def Q_rm_expectedRead (Z : State) (pr : Int32) (pw : Int32) (r : Int32) (h0 : Heap) (n0 : Nat) (v : Option Value) (h : Heap) (L : List Loc) : Prop := v = some (.int r) ∧ Fr n0 L ∧ h = h0
set_option maxRecDepth 65536 in
set_option maxHeartbeats 40000000 in
theorem rm_expectedRead (l : Launch) (Z : State) (a0 : Array Value) (hw : ∀ d ∈ tables_1, d.before a0 Z = true) (ws : List Jvm.Cond) (pr : Int32) (pw : Int32) (r : Int32) (h0 : Heap) (n0 : Nat) (OL : Old Z n0 h0) (hr' : r = if pr = 0 then 0 else 1) :
    MetFree l (⟨"com/example/grantwright/grantwright/RowDeniesPinLaw", "expectedRead", "(ZZ)Z"⟩ : MethodName) (head1 (Jvm.Cond.code (⟨"com/example/grantwright/grantwright/RowDeniesPinLaw", "expectedRead", "(ZZ)Z"⟩ : MethodName) method_2_code 2 (some .boolean) :: ws) ({ frames := 0, cells := 0, slots := 0, locals := 0 } : Room)) (fun a U => a = #[(.int pr), (.int pw)] ∧ Z.Warmed39 U.vm ∧ U.heap = h0) (fun _ _ _ _ _ => True) (fun _ U o U' => ∃ v L, o = .returned v ∧ Q_rm_expectedRead Z pr pw r h0 n0 v U'.heap L ∧ FrameEnd U o U' L ({ frames := 0, cells := 0, slots := 0, locals := 0 } : Room).cells ({ frames := 0, cells := 0, slots := 0, locals := 0 } : Room).slots) := by
  refine MetFree.of_bodySF (plainFor_of_name pn_com_example_grantwright_grantwright_RowDeniesPinLaw) hisR ?_
  intro p e s m args below meth c s₁ Bd hml0 hP hK
  obtain ⟨rfl, hZ, hh⟩ := hP
  have hx := Bd.exec
  have hby := Bd.bytes
  have hml : c.maxLocals = 2 := hml0
  have hown : s.vm.findClass "com/example/grantwright/grantwright/RowDeniesPinLaw" = some m.cls := findClass_of_methodNamed Bd.named
  have hnm := (name_of_methodNamed Bd.named Bd.method).1
  have X0 : Stand p l e ({ frames := 0, cells := 0, slots := 0, locals := 0 } : Room) s m #[(.int pr), (.int pw)] below meth c s₁ [] 0 0 := Stand.of_body Bd
  have e0 : s₁.heap = h0 := by rw [← hh, Bd.state]; rfl
  have N0 := Fr.nil n0
  have pre0 : oL p e below s₁ (mkF m 0 #[oI pr, oI pw] []) s₁ (entryFrame m #[(.int pr), (.int pw)] 2) := fun t k => castTop (by first | (simp [entryFrame, mkF, argsToLocals, Value.category]; done) | rfl) k
  have pre1 : oL p e below s₁ (mkF m 1 #[oI pr, oI pw] [oi pr]) s₁ (entryFrame m #[(.int pr), (.int pw)] 2) := fun t k => pre0 t (by
    refine XS.iloadN X0.here hx rfl (hb hby d11_0) rfl ?_
    exact k)
  by_cases hc2 : pr = (0 : Int32)
  ·
    have pre3 : oL p e below s₁ (mkF m 7 #[oI pr, oI pw] [oi 0]) s₁ (entryFrame m #[(.int pr), (.int pw)] 2) := fun t k => pre1 t (by
      refine XS.ifYes X0.here hx rfl (pc0 := 1) (pc' := 6) rfl (hb hby d11_1) rfl ((if0 _ _).trans (teq hc2).1) (by decide) (by decide) ?_
      refine XS.iconst X0.here hx rfl (hb hby d11_6) ?_
      exact k)
    obtain ⟨fs, hr, hrun, hended, hW, hsame⟩ := X0.leave (v := some (.int (0 : Int32))) (fun h => by rw [Bd.returns] at h; cases h)
    refine ⟨_, _, pre3 _ ?_, hrun, hended, _, _, rfl, ?_, ⟨_, rfl⟩, hW, hsame.mono (by decide) (by decide)⟩
    ·
      show oS p e below s₁ (mkF m 7 #[oI pr, oI pw] [oi 0]) _
      exact retN X0 hx (t := .boolean) Bd.returns (by simp) (hb hby d11_7) hr
    ·
      show Q_rm_expectedRead Z pr pw r h0 n0 _ s₁.heap _
      rw [e0]
      exact ⟨by rw [hr']; simp [hc2], N0, rfl⟩
  ·
    have pre4 : oL p e below s₁ (mkF m 5 #[oI pr, oI pw] [oi 1]) s₁ (entryFrame m #[(.int pr), (.int pw)] 2) := fun t k => pre1 t (by
      refine XS.ifNo X0.here hx rfl (hb hby d11_1) rfl ((if0 _ _).trans (feq hc2).1) ?_
      refine XS.iconst X0.here hx rfl (hb hby d11_4) ?_
      exact k)
    obtain ⟨fs, hr, hrun, hended, hW, hsame⟩ := X0.leave (v := some (.int (1 : Int32))) (fun h => by rw [Bd.returns] at h; cases h)
    refine ⟨_, _, pre4 _ ?_, hrun, hended, _, _, rfl, ?_, ⟨_, rfl⟩, hW, hsame.mono (by decide) (by decide)⟩
    ·
      show oS p e below s₁ (mkF m 5 #[oI pr, oI pw] [oi 1]) _
      exact retN X0 hx (t := .boolean) Bd.returns (by simp) (hb hby d11_5) hr
    ·
      show Q_rm_expectedRead Z pr pw r h0 n0 _ s₁.heap _
      rw [e0]
      exact ⟨by rw [hr']; simp [hc2], N0, rfl⟩
theorem d12_0 : decode method_3_code 0 = .ok (.iload_n 0, 1) := by decide +kernel
theorem d12_1 : decode method_3_code 1 = .ok (.ifCond .eq 5, 3) := by decide +kernel
theorem d12_6 : decode method_3_code 6 = .ok (.iload_n 1, 1) := by decide +kernel
theorem d12_7 : decode method_3_code 7 = .ok (.ifCond .eq 5, 3) := by decide +kernel
theorem d12_12 : decode method_3_code 12 = .ok (.iconst 0, 1) := by decide +kernel
theorem d12_13 : decode method_3_code 13 = .ok (.ireturn, 1) := by decide +kernel
theorem d12_10 : decode method_3_code 10 = .ok (.iconst 1, 1) := by decide +kernel
theorem d12_11 : decode method_3_code 11 = .ok (.ireturn, 1) := by decide +kernel
theorem d12_4 : decode method_3_code 4 = .ok (.iconst 1, 1) := by decide +kernel
theorem d12_5 : decode method_3_code 5 = .ok (.ireturn, 1) := by decide +kernel
def Q_rm_expectedWrite (Z : State) (pr : Int32) (pw : Int32) (r : Int32) (h0 : Heap) (n0 : Nat) (v : Option Value) (h : Heap) (L : List Loc) : Prop := v = some (.int r) ∧ Fr n0 L ∧ h = h0
set_option maxRecDepth 65536 in
set_option maxHeartbeats 40000000 in
theorem rm_expectedWrite (l : Launch) (Z : State) (a0 : Array Value) (hw : ∀ d ∈ tables_1, d.before a0 Z = true) (ws : List Jvm.Cond) (pr : Int32) (pw : Int32) (r : Int32) (h0 : Heap) (n0 : Nat) (OL : Old Z n0 h0) (hr' : r = if pr = 0 then (if pw = 0 then 0 else 1) else 1) :
    MetFree l (⟨"com/example/grantwright/grantwright/RowDeniesPinLaw", "expectedWrite", "(ZZ)Z"⟩ : MethodName) (head1 (Jvm.Cond.code (⟨"com/example/grantwright/grantwright/RowDeniesPinLaw", "expectedWrite", "(ZZ)Z"⟩ : MethodName) method_3_code 2 (some .boolean) :: ws) ({ frames := 0, cells := 0, slots := 0, locals := 0 } : Room)) (fun a U => a = #[(.int pr), (.int pw)] ∧ Z.Warmed39 U.vm ∧ U.heap = h0) (fun _ _ _ _ _ => True) (fun _ U o U' => ∃ v L, o = .returned v ∧ Q_rm_expectedWrite Z pr pw r h0 n0 v U'.heap L ∧ FrameEnd U o U' L ({ frames := 0, cells := 0, slots := 0, locals := 0 } : Room).cells ({ frames := 0, cells := 0, slots := 0, locals := 0 } : Room).slots) := by
  refine MetFree.of_bodySF (plainFor_of_name pn_com_example_grantwright_grantwright_RowDeniesPinLaw) hisR ?_
  intro p e s m args below meth c s₁ Bd hml0 hP hK
  obtain ⟨rfl, hZ, hh⟩ := hP
  have hx := Bd.exec
  have hby := Bd.bytes
  have hml : c.maxLocals = 2 := hml0
  have hown : s.vm.findClass "com/example/grantwright/grantwright/RowDeniesPinLaw" = some m.cls := findClass_of_methodNamed Bd.named
  have hnm := (name_of_methodNamed Bd.named Bd.method).1
  have X0 : Stand p l e ({ frames := 0, cells := 0, slots := 0, locals := 0 } : Room) s m #[(.int pr), (.int pw)] below meth c s₁ [] 0 0 := Stand.of_body Bd
  have e0 : s₁.heap = h0 := by rw [← hh, Bd.state]; rfl
  have N0 := Fr.nil n0
  have pre0 : oL p e below s₁ (mkF m 0 #[oI pr, oI pw] []) s₁ (entryFrame m #[(.int pr), (.int pw)] 2) := fun t k => castTop (by first | (simp [entryFrame, mkF, argsToLocals, Value.category]; done) | rfl) k
  have pre1 : oL p e below s₁ (mkF m 1 #[oI pr, oI pw] [oi pr]) s₁ (entryFrame m #[(.int pr), (.int pw)] 2) := fun t k => pre0 t (by
    refine XS.iloadN X0.here hx rfl (hb hby d12_0) rfl ?_
    exact k)
  by_cases hc2 : pr = (0 : Int32)
  ·
    have pre3 : oL p e below s₁ (mkF m 7 #[oI pr, oI pw] [oi pw]) s₁ (entryFrame m #[(.int pr), (.int pw)] 2) := fun t k => pre1 t (by
      refine XS.ifYes X0.here hx rfl (pc0 := 1) (pc' := 6) rfl (hb hby d12_1) rfl ((if0 _ _).trans (teq hc2).1) (by decide) (by decide) ?_
      refine XS.iloadN X0.here hx rfl (hb hby d12_6) rfl ?_
      exact k)
    by_cases hc4 : pw = (0 : Int32)
    ·
      have pre5 : oL p e below s₁ (mkF m 13 #[oI pr, oI pw] [oi 0]) s₁ (entryFrame m #[(.int pr), (.int pw)] 2) := fun t k => pre3 t (by
        refine XS.ifYes X0.here hx rfl (pc0 := 7) (pc' := 12) rfl (hb hby d12_7) rfl ((if0 _ _).trans (teq hc4).1) (by decide) (by decide) ?_
        show oS p e below s₁ (mkF m 12 #[oI pr, oI pw] []) _
        refine XS.iconst X0.here hx rfl (hb hby d12_12) ?_
        exact k)
      obtain ⟨fs, hr, hrun, hended, hW, hsame⟩ := X0.leave (v := some (.int (0 : Int32))) (fun h => by rw [Bd.returns] at h; cases h)
      refine ⟨_, _, pre5 _ ?_, hrun, hended, _, _, rfl, ?_, ⟨_, rfl⟩, hW, hsame.mono (by decide) (by decide)⟩
      ·
        show oS p e below s₁ (mkF m 13 #[oI pr, oI pw] [oi 0]) _
        exact retN X0 hx (t := .boolean) Bd.returns (by simp) (hb hby d12_13) hr
      ·
        show Q_rm_expectedWrite Z pr pw r h0 n0 _ s₁.heap _
        rw [e0]
        exact ⟨by rw [hr']; simp [hc2, hc4], N0, rfl⟩
    ·
      have pre6 : oL p e below s₁ (mkF m 11 #[oI pr, oI pw] [oi 1]) s₁ (entryFrame m #[(.int pr), (.int pw)] 2) := fun t k => pre3 t (by
        refine XS.ifNo X0.here hx rfl (hb hby d12_7) rfl ((if0 _ _).trans (feq hc4).1) ?_
        show oS p e below s₁ (mkF m 10 #[oI pr, oI pw] []) _
        refine XS.iconst X0.here hx rfl (hb hby d12_10) ?_
        exact k)
      obtain ⟨fs, hr, hrun, hended, hW, hsame⟩ := X0.leave (v := some (.int (1 : Int32))) (fun h => by rw [Bd.returns] at h; cases h)
      refine ⟨_, _, pre6 _ ?_, hrun, hended, _, _, rfl, ?_, ⟨_, rfl⟩, hW, hsame.mono (by decide) (by decide)⟩
      ·
        show oS p e below s₁ (mkF m 11 #[oI pr, oI pw] [oi 1]) _
        exact retN X0 hx (t := .boolean) Bd.returns (by simp) (hb hby d12_11) hr
      ·
        show Q_rm_expectedWrite Z pr pw r h0 n0 _ s₁.heap _
        rw [e0]
        exact ⟨by rw [hr']; simp [hc2, hc4], N0, rfl⟩
  ·
    have pre7 : oL p e below s₁ (mkF m 5 #[oI pr, oI pw] [oi 1]) s₁ (entryFrame m #[(.int pr), (.int pw)] 2) := fun t k => pre1 t (by
      refine XS.ifNo X0.here hx rfl (hb hby d12_1) rfl ((if0 _ _).trans (feq hc2).1) ?_
      refine XS.iconst X0.here hx rfl (hb hby d12_4) ?_
      exact k)
    obtain ⟨fs, hr, hrun, hended, hW, hsame⟩ := X0.leave (v := some (.int (1 : Int32))) (fun h => by rw [Bd.returns] at h; cases h)
    refine ⟨_, _, pre7 _ ?_, hrun, hended, _, _, rfl, ?_, ⟨_, rfl⟩, hW, hsame.mono (by decide) (by decide)⟩
    ·
      show oS p e below s₁ (mkF m 5 #[oI pr, oI pw] [oi 1]) _
      exact retN X0 hx (t := .boolean) Bd.returns (by simp) (hb hby d12_5) hr
    ·
      show Q_rm_expectedWrite Z pr pw r h0 n0 _ s₁.heap _
      rw [e0]
      exact ⟨by rw [hr']; simp [hc2], N0, rfl⟩
theorem pn_java_util_Optional : plainName "java/util/Optional" = true := by first | (simp [plainName, overriddenIn]; done) | decide +kernel
theorem d7_0 : decode jdk_32_method_1_code 0 = .ok (.getstatic 1, 3) := by decide +kernel
theorem d7_3 : decode jdk_32_method_1_code 3 = .ok (.astore_n 0, 1) := by decide +kernel
theorem d7_4 : decode jdk_32_method_1_code 4 = .ok (.aload_n 0, 1) := by decide +kernel
theorem d7_5 : decode jdk_32_method_1_code 5 = .ok (.areturn, 1) := by decide +kernel
def Q_rm_emp (Z : State) (wE : Addr) (h0 : Heap) (n0 : Nat) (v : Option Value) (h : Heap) (L : List Loc) : Prop := v = some (.ref wE) ∧ Fr n0 L ∧ h = h0
set_option maxRecDepth 65536 in
set_option maxHeartbeats 40000000 in
theorem rm_emp (l : Launch) (Z : State) (a0 : Array Value) (hw : ∀ d ∈ tables_1, d.before a0 Z = true) (ws : List Jvm.Cond) (wE : Addr) (h0 : Heap) (n0 : Nat) (OL : Old Z n0 h0) (sE : Sta Z Z.heap "java/util/Optional" "EMPTY" "Ljava/util/Optional;" (.ref wE)) :
    MetFree l (⟨"java/util/Optional", "empty", "()Ljava/util/Optional;"⟩ : MethodName) (head1 (Jvm.Cond.code (⟨"java/util/Optional", "empty", "()Ljava/util/Optional;"⟩ : MethodName) jdk_32_method_1_code 1 (some (.object "java/util/Optional")) :: ws) ({ frames := 0, cells := 0, slots := 0, locals := 0 } : Room)) (fun a U => a = #[] ∧ Z.Warmed39 U.vm ∧ U.heap = h0) (fun _ _ _ _ _ => True) (fun _ U o U' => ∃ v L, o = .returned v ∧ Q_rm_emp Z wE h0 n0 v U'.heap L ∧ FrameEnd U o U' L ({ frames := 0, cells := 0, slots := 0, locals := 0 } : Room).cells ({ frames := 0, cells := 0, slots := 0, locals := 0 } : Room).slots) := by
  refine MetFree.of_bodySF (plainFor_of_name pn_java_util_Optional) hisR ?_
  intro p e s m args below meth c s₁ Bd hml0 hP hK
  obtain ⟨rfl, hZ, hh⟩ := hP
  have hx := Bd.exec
  have hby := Bd.bytes
  have hml : c.maxLocals = 1 := hml0
  have hown : s.vm.findClass "java/util/Optional" = some m.cls := findClass_of_methodNamed Bd.named
  have hnm := (name_of_methodNamed Bd.named Bd.method).1
  have X0 : Stand p l e ({ frames := 0, cells := 0, slots := 0, locals := 0 } : Room) s m #[] below meth c s₁ [] 0 0 := Stand.of_body Bd
  have e0 : s₁.heap = h0 := by rw [← hh, Bd.state]; rfl
  have N0 := Fr.nil n0
  have pre0 : oL p e below s₁ (mkF m 0 #[oU] []) s₁ (entryFrame m #[] 1) := fun t k => castTop (by first | (simp [entryFrame, mkF, argsToLocals, Value.category]; done) | rfl) k
  obtain ⟨T1, X1, e1, st1⟩ := getS2 X0 hx hZ hown (host := "") (Or.inl (oW hw 34 rfl)) Via.refl e0 (sE.ext OL.2) (g := (mkF m 0 #[oU] [])) rfl (hb hby d7_0)
  have pre2 : oL p e below T1 (mkF m 5 #[oR wE] [ow wE]) s₁ (entryFrame m #[] 1) := fun t k => pre0 t (by
    refine st1 _ ?_
    refine XS.astoreN X1.here hx rfl (hb hby d7_3) rfl rfl (l' := #[oR wE]) rfl ?_
    refine XS.aloadN X1.here hx rfl (hb hby d7_4) rfl rfl ?_
    exact k)
  obtain ⟨fs, hr, hrun, hended, hW, hsame⟩ := X1.leave (v := some (.ref wE)) (fun h => by rw [Bd.returns] at h; cases h)
  refine ⟨_, _, pre2 _ ?_, hrun, hended, _, _, rfl, ?_, ⟨_, rfl⟩, hW, hsame.mono (by decide) (by decide)⟩
  ·
    show oS p e below T1 (mkF m 5 #[oR wE] [ow wE]) _
    jvm_step X1.here [X1.here.top, hx, (hb hby d7_5), X1.method', Bd.returns, Value.isRef, FieldType.isReference]
    first | (intro acts; rw [hr _ acts rfl rfl rfl]) | rw [hr _ _ rfl rfl rfl]
    exact Steps.refl _
  ·
    show Q_rm_emp Z wE h0 n0 _ T1.heap _
    rw [e1]
    exact ⟨rfl, N0, rfl⟩
theorem d19_0 : decode jdk_32_method_2_code 0 = .ok (.aload_n 0, 1) := by decide +kernel
theorem d19_1 : decode jdk_32_method_2_code 1 = .ok (.invokespecial 7, 3) := by decide +kernel
theorem d19_4 : decode jdk_32_method_2_code 4 = .ok (.aload_n 0, 1) := by decide +kernel
theorem d19_5 : decode jdk_32_method_2_code 5 = .ok (.aload_n 1, 1) := by decide +kernel
theorem d19_6 : decode jdk_32_method_2_code 6 = .ok (.putfield 13, 3) := by decide +kernel
theorem d19_9 : decode jdk_32_method_2_code 9 = .ok (.return_, 1) := by decide +kernel
def Q_rm_opi (Z : State) (a1 : Addr) (a2 : Addr) (h0 : Heap) (n0 : Nat) (v : Option Value) (h : Heap) (L : List Loc) : Prop := v = none ∧ Fr n0 L ∧ Keep h0 h [a1]
set_option maxRecDepth 65536 in
set_option maxHeartbeats 40000000 in
theorem rm_opi (l : Launch) (Z : State) (a0 : Array Value) (hw : ∀ d ∈ tables_1, d.before a0 Z = true) (ws : List Jvm.Cond) (a1 : Addr) (a2 : Addr) (h0 : Heap) (n0 : Nat) (OL : Old Z n0 h0) (ge1 : n0 ≤ a1) (E1 : Exa Z h0 a1 "java/util/Optional") (F1 : Fld Z h0 a1 "java/util/Optional" "value" "Ljava/lang/Object;" .null) :
    MetFree l (⟨"java/util/Optional", "<init>", "(Ljava/lang/Object;)V"⟩ : MethodName) (head1 (Jvm.Cond.code (⟨"java/util/Optional", "<init>", "(Ljava/lang/Object;)V"⟩ : MethodName) jdk_32_method_2_code 2 none :: ws) ({ frames := 1, cells := 0, slots := 0, locals := 12 } : Room)) (fun a U => a = #[(.ref a1), (.ref a2)] ∧ Z.Warmed39 U.vm ∧ U.heap = h0) (fun _ _ _ _ _ => True) (fun _ U o U' => ∃ v L, o = .returned v ∧ Q_rm_opi Z a1 a2 h0 n0 v U'.heap L ∧ FrameEnd U o U' L ({ frames := 1, cells := 0, slots := 0, locals := 12 } : Room).cells ({ frames := 1, cells := 0, slots := 0, locals := 12 } : Room).slots) := by
  refine MetFree.of_bodySF (plainFor_of_name pn_java_util_Optional) hisR ?_
  intro p e s m args below meth c s₁ Bd hml0 hP hK
  obtain ⟨rfl, hZ, hh⟩ := hP
  have hx := Bd.exec
  have hby := Bd.bytes
  have hml : c.maxLocals = 2 := hml0
  have hown : s.vm.findClass "java/util/Optional" = some m.cls := findClass_of_methodNamed Bd.named
  have hnm := (name_of_methodNamed Bd.named Bd.method).1
  have X0 : Stand p l e ({ frames := 1, cells := 0, slots := 0, locals := 12 } : Room) s m #[(.ref a1), (.ref a2)] below meth c s₁ [] 0 0 := Stand.of_body Bd
  have e0 : s₁.heap = h0 := by rw [← hh, Bd.state]; rfl
  have N0 := Fr.nil n0
  have pre0 : oL p e below s₁ (mkF m 0 #[oR a1, oR a2] []) s₁ (entryFrame m #[(.ref a1), (.ref a2)] 2) := fun t k => castTop (by first | (simp [entryFrame, mkF, argsToLocals, Value.category]; done) | rfl) k
  have pre1 : oL p e below s₁ (mkF m 1 #[oR a1, oR a2] [ow a1]) s₁ (entryFrame m #[(.ref a1), (.ref a2)] 2) := fun t k => pre0 t (by
    refine XS.aloadN X0.here hx rfl (hb hby d19_0) rfl rfl ?_
    exact k)
  obtain ⟨T2, X2, e2, st2⟩ := initO X0 hx hZ hown (oW hw 100 rfl) (oW hw 12 rfl) (oW hw 13 rfl) e0 (g := (mkF m 1 #[oR a1, oR a2] [ow a1])) rfl (by rw [hml]; rfl) rfl (hb hby d19_1) (by decide) (W := 0) (by show 2 * 0 + _ ≤ _; exact Nat.le_of_eq rfl) (by decide)
  have pre3 : oL p e below T2 (mkF m 6 #[oR a1, oR a2] [ow a2, ow a1]) s₁ (entryFrame m #[(.ref a1), (.ref a2)] 2) := fun t k => pre1 t (by
    refine st2 _ ?_
    refine XS.aloadN X2.here hx rfl (hb hby d19_4) rfl rfl ?_
    refine XS.aloadN X2.here hx rfl (hb hby d19_5) rfl rfl ?_
    show oS p e below T2 (mkF m 6 #[oR a1, oR a2] [ow a2, ow a1]) _
    exact k)
  obtain ⟨T4, h4, X4, e4, W4, st4⟩ := putF X2 hx hZ hown (host := "") (Or.inl (oW hw 101 rfl)) Via.refl e2 F1 E1 (Or.inr ⟨(oW hw 102 rfl), rfl, hnm⟩) (oW hw 91 rfl) (ty := (.object "java/lang/Object")) (by decide) rfl rfl (g := (mkF m 6 #[oR a1, oR a2] [ow a2, ow a1])) rfl rfl (hb hby d19_6)
  have f5 := F1.same W4
  have N4 := Fr.snoc X4 N0 ge1
  have f6 := E1.wr W4
  have OL7 := OL.wr W4 ge1
  have K8 : Keep h0 h4 [a1] := (Keep.refl h0 [a1]).wr W4 (Or.inl (List.mem_of_getElem? (i := 0) rfl))
  have pre9 : oL p e below T4 (mkF m 9 #[oR a1, oR a2] []) s₁ (entryFrame m #[(.ref a1), (.ref a2)] 2) := fun t k => pre3 t (by
    refine st4 _ ?_
    exact k)
  obtain ⟨fs, hr, hrun, hended, hW, hsame⟩ := X4.leave (v := none) (fun _ => rfl)
  refine ⟨_, _, pre9 _ ?_, hrun, hended, _, _, rfl, ?_, ⟨_, rfl⟩, hW, hsame.mono (by decide) (by decide)⟩
  ·
    show oS p e below T4 (mkF m 9 #[oR a1, oR a2] []) _
    exact X4.returnOut hx Bd.returns (hb hby d19_9) hr
  ·
    show Q_rm_opi Z a1 a2 h0 n0 _ T4.heap _
    rw [e4]
    exact ⟨rfl, N4, K8⟩
theorem pn_java_util_Objects : plainName "java/util/Objects" = true := by first | (simp [plainName, overriddenIn]; done) | decide +kernel
theorem d18_0 : decode jdk_31_method_10_code 0 = .ok (.aload_n 0, 1) := by decide +kernel
theorem d18_1 : decode jdk_31_method_10_code 1 = .ok (.ifnonnull 11, 3) := by decide +kernel
theorem d18_12 : decode jdk_31_method_10_code 12 = .ok (.aload_n 0, 1) := by decide +kernel
theorem d18_13 : decode jdk_31_method_10_code 13 = .ok (.areturn, 1) := by decide +kernel
def Q_rm_rnn (Z : State) (a1 : Addr) (h0 : Heap) (n0 : Nat) (v : Option Value) (h : Heap) (L : List Loc) : Prop := v = some (.ref a1) ∧ Fr n0 L ∧ h = h0
set_option maxRecDepth 65536 in
set_option maxHeartbeats 40000000 in
theorem rm_rnn (l : Launch) (Z : State) (a0 : Array Value) (hw : ∀ d ∈ tables_1, d.before a0 Z = true) (ws : List Jvm.Cond) (a1 : Addr) (h0 : Heap) (n0 : Nat) (OL : Old Z n0 h0) :
    MetFree l (⟨"java/util/Objects", "requireNonNull", "(Ljava/lang/Object;)Ljava/lang/Object;"⟩ : MethodName) (head1 (Jvm.Cond.code (⟨"java/util/Objects", "requireNonNull", "(Ljava/lang/Object;)Ljava/lang/Object;"⟩ : MethodName) jdk_31_method_10_code 1 (some (.object "java/lang/Object")) :: ws) ({ frames := 0, cells := 0, slots := 0, locals := 0 } : Room)) (fun a U => a = #[(.ref a1)] ∧ Z.Warmed39 U.vm ∧ U.heap = h0) (fun _ _ _ _ _ => True) (fun _ U o U' => ∃ v L, o = .returned v ∧ Q_rm_rnn Z a1 h0 n0 v U'.heap L ∧ FrameEnd U o U' L ({ frames := 0, cells := 0, slots := 0, locals := 0 } : Room).cells ({ frames := 0, cells := 0, slots := 0, locals := 0 } : Room).slots) := by
  refine MetFree.of_bodySF (plainFor_of_name pn_java_util_Objects) hisR ?_
  intro p e s m args below meth c s₁ Bd hml0 hP hK
  obtain ⟨rfl, hZ, hh⟩ := hP
  have hx := Bd.exec
  have hby := Bd.bytes
  have hml : c.maxLocals = 1 := hml0
  have hown : s.vm.findClass "java/util/Objects" = some m.cls := findClass_of_methodNamed Bd.named
  have hnm := (name_of_methodNamed Bd.named Bd.method).1
  have X0 : Stand p l e ({ frames := 0, cells := 0, slots := 0, locals := 0 } : Room) s m #[(.ref a1)] below meth c s₁ [] 0 0 := Stand.of_body Bd
  have e0 : s₁.heap = h0 := by rw [← hh, Bd.state]; rfl
  have N0 := Fr.nil n0
  have pre0 : oL p e below s₁ (mkF m 0 #[oR a1] []) s₁ (entryFrame m #[(.ref a1)] 1) := fun t k => castTop (by first | (simp [entryFrame, mkF, argsToLocals, Value.category]; done) | rfl) k
  have pre1 : oL p e below s₁ (mkF m 13 #[oR a1] [ow a1]) s₁ (entryFrame m #[(.ref a1)] 1) := fun t k => pre0 t (by
    refine XS.aloadN X0.here hx rfl (hb hby d18_0) rfl rfl ?_
    refine XS.ifnonnullYes X0.here hx rfl (pc0 := 1) (pc' := 12) rfl (hb hby d18_1) rfl (by decide) (by decide) ?_
    refine XS.aloadN X0.here hx rfl (hb hby d18_12) rfl rfl ?_
    exact k)
  obtain ⟨fs, hr, hrun, hended, hW, hsame⟩ := X0.leave (v := some (.ref a1)) (fun h => by rw [Bd.returns] at h; cases h)
  refine ⟨_, _, pre1 _ ?_, hrun, hended, _, _, rfl, ?_, ⟨_, rfl⟩, hW, hsame.mono (by decide) (by decide)⟩
  ·
    show oS p e below s₁ (mkF m 13 #[oR a1] [ow a1]) _
    jvm_step X0.here [X0.here.top, hx, (hb hby d18_13), X0.method', Bd.returns, Value.isRef, FieldType.isReference]
    first | (intro acts; rw [hr _ acts rfl rfl rfl]) | rw [hr _ _ rfl rfl rfl]
    exact Steps.refl _
  ·
    show Q_rm_rnn Z a1 h0 n0 _ s₁.heap _
    rw [e0]
    exact ⟨rfl, N0, rfl⟩
theorem d17_0 : decode jdk_32_method_3_code 0 = .ok (.new 2, 3) := by decide +kernel
theorem d17_3 : decode jdk_32_method_3_code 3 = .ok (.dup, 1) := by decide +kernel
theorem d17_4 : decode jdk_32_method_3_code 4 = .ok (.aload_n 0, 1) := by decide +kernel
theorem d17_5 : decode jdk_32_method_3_code 5 = .ok (.invokestatic 17, 3) := by decide +kernel
theorem pd__Ljava_lang_Object__Ljava_lang_Object_ : parseMethodDescriptor "(Ljava/lang/Object;)Ljava/lang/Object;" = some ⟨[(.object "java/lang/Object")], some (.object "java/lang/Object")⟩ := by decide +kernel
theorem d17_8 : decode jdk_32_method_3_code 8 = .ok (.invokespecial 23, 3) := by decide +kernel
theorem pd__Ljava_lang_Object__V : parseMethodDescriptor "(Ljava/lang/Object;)V" = some ⟨[(.object "java/lang/Object")], none⟩ := by decide +kernel
theorem d17_11 : decode jdk_32_method_3_code 11 = .ok (.areturn, 1) := by decide +kernel
def Q_rm_opo (Z : State) (a1 : Addr) (h0 : Heap) (n0 : Nat) (v : Option Value) (h : Heap) (L : List Loc) : Prop := ∃ r : Addr, v = some (.ref r) ∧ Fr n0 L ∧ Keep h0 h [] ∧ h0.size ≤ r ∧ Exa Z h r "java/util/Optional"
set_option maxRecDepth 65536 in
set_option maxHeartbeats 40000000 in
theorem rm_opo (l : Launch) (Z : State) (a0 : Array Value) (hw : ∀ d ∈ tables_1, d.before a0 Z = true) (ws : List Jvm.Cond) (a1 : Addr) (h0 : Heap) (n0 : Nat) (OL : Old Z n0 h0) :
    MetFree l (⟨"java/util/Optional", "of", "(Ljava/lang/Object;)Ljava/util/Optional;"⟩ : MethodName) (head1 (Jvm.Cond.code (⟨"java/util/Optional", "of", "(Ljava/lang/Object;)Ljava/util/Optional;"⟩ : MethodName) jdk_32_method_3_code 1 (some (.object "java/util/Optional")) :: ws) ({ frames := 2, cells := 1, slots := 1, locals := 26 } : Room)) (fun a U => a = #[(.ref a1)] ∧ Z.Warmed39 U.vm ∧ U.heap = h0) (fun _ _ _ _ _ => True) (fun _ U o U' => ∃ v L, o = .returned v ∧ Q_rm_opo Z a1 h0 n0 v U'.heap L ∧ FrameEnd U o U' L ({ frames := 2, cells := 1, slots := 1, locals := 26 } : Room).cells ({ frames := 2, cells := 1, slots := 1, locals := 26 } : Room).slots) := by
  refine MetFree.of_bodySF (plainFor_of_name pn_java_util_Optional) hisR ?_
  intro p e s m args below meth c s₁ Bd hml0 hP hK
  obtain ⟨rfl, hZ, hh⟩ := hP
  have hx := Bd.exec
  have hby := Bd.bytes
  have hml : c.maxLocals = 1 := hml0
  have hown : s.vm.findClass "java/util/Optional" = some m.cls := findClass_of_methodNamed Bd.named
  have hnm := (name_of_methodNamed Bd.named Bd.method).1
  have X0 : Stand p l e ({ frames := 2, cells := 1, slots := 1, locals := 26 } : Room) s m #[(.ref a1)] below meth c s₁ [] 0 0 := Stand.of_body Bd
  have e0 : s₁.heap = h0 := by rw [← hh, Bd.state]; rfl
  have N0 := Fr.nil n0
  have pre0 : oL p e below s₁ (mkF m 0 #[oR a1] []) s₁ (entryFrame m #[(.ref a1)] 1) := fun t k => castTop (by first | (simp [entryFrame, mkF, argsToLocals, Value.category]; done) | rfl) k
  obtain ⟨T1, h1, X1, e1, E1, A1, D1, -, st1⟩ := newO X0 hx hZ hown (oW hw 90 rfl) (oW hw 91 rfl) (oW hw 32 rfl) e0 (g := (mkF m 0 #[oR a1] [])) rfl (hb hby d17_0) (by decide) (by decide)
  obtain ⟨b1, g1⟩ : ∃ z, z = h0.size := ⟨_, rfl⟩
  rw [← g1] at A1 D1 st1
  have ge_b1 : n0 ≤ b1 := Nat.le_trans (OL.1 ▸ OL.2.1) (Nat.le_of_eq g1.symm)
  have sz_b1 : h0.size ≤ b1 := Nat.le_trans (Keep.refl h0 []).1 (Nat.le_of_eq g1.symm)
  have OL2 := OL.ext E1
  have K3 : Keep h0 h1 [] := (Keep.refl h0 []).ext E1
  have f4 : Fld Z h1 b1 "java/util/Optional" "value" "Ljava/lang/Object;" .null := D1 (Or.inr (oW hw 102 rfl)) (ty := (.object "java/lang/Object")) (by decide)
  have pre5 : oL p e below T1 (mkF m 5 #[oR a1] [ow a1, ow b1, ow b1]) s₁ (entryFrame m #[(.ref a1)] 1) := fun t k => pre0 t (by
    refine st1 _ ?_
    refine XS.dup X1.here hx rfl (hb hby d17_3) rfl rfl ?_
    refine XS.aloadN X1.here hx rfl (hb hby d17_4) rfl rfl ?_
    exact k)
  obtain ⟨_, _, ⟨T6, L6, k6, n6⟩, -, X6, ⟨Lc6, hQ6, l6, y6, z6⟩, st6⟩ := Jvm.LawKit.callS X1 hx (y := (⟨"java/util/Objects", "requireNonNull", "(Ljava/lang/Object;)Ljava/lang/Object;"⟩ : MethodName)) hown (mvT hZ (oW hw 92 rfl)) (mvT hZ (oW hw 93 rfl)) (mvT hZ (oW hw 94 rfl)) (mvT hZ (oW hw 95 rfl)) (by decide) (backOf (W := 2) (rm_rnn l Z a0 hw [] a1 h1 n0 OL2 ) hZ (oW hw 95 rfl) (oW hw 94 rfl) (by decide) (by decide)) (g := (mkF m 5 #[oR a1] [ow a1, ow b1, ow b1])) rfl (by rw [hml]; rfl) (argsL := [(.ref a1)]) (rest := [(.ref b1), (.ref b1)]) (lenOf pd__Ljava_lang_Object__Ljava_lang_Object_ rfl) rfl (by show 2 * 0 + _ ≤ _; exact Nat.le_of_eq rfl) (hb hby d17_5) (fun _ _ => ⟨rfl, e1, (by decide : 1 + 0 ≤ _), (by decide : 1 + 0 ≤ _)⟩)
  dsimp only [Pt.U, Pt.locs, Pt.cells, Pt.slots] at X6 l6 y6 z6 st6 hQ6
  subst l6 y6 z6
  obtain ⟨rfl, N6q, e6⟩ := hQ6
  have N6 := Fr.app N0 N6q
  have pre7 : oL p e below T6 (mkF m 8 #[oR a1] [ow a1, ow b1, ow b1]) s₁ (entryFrame m #[(.ref a1)] 1) := fun t k => pre5 t (by
    refine st6 _ ?_
    show oS p e below T6 (mkF m 8 #[oR a1] [ow a1, ow b1, ow b1]) _
    exact k)
  obtain ⟨_, _, ⟨T8, L8, k8, n8⟩, -, X8, ⟨Lc8, hQ8, l8, y8, z8⟩, st8⟩ := X6.specialBack hx (y := (⟨"java/util/Optional", "<init>", "(Ljava/lang/Object;)V"⟩ : MethodName)) rfl hown (mvT hZ (oW hw 96 rfl)) (mvT hZ (oW hw 97 rfl)) (mvT hZ (oW hw 99 rfl)) (by decide) (backOf (W := 1) (rm_opi l Z a0 hw [] b1 a1 h1 n0 OL2 ge_b1 A1 f4) hZ (oW hw 99 rfl) (oW hw 32 rfl) (by decide) (by decide)) (g := (mkF m 8 #[oR a1] [ow a1, ow b1, ow b1])) rfl (by rw [hml]; rfl) (Steps.refl _) (a := b1) (argsL := [(.ref a1)]) (rest := [(.ref b1)]) (lenOf pd__Ljava_lang_Object__V rfl) rfl (by show 2 * 0 + _ ≤ _; exact Nat.le_of_eq rfl) (hb hby d17_8) (fun _ _ => ⟨rfl, e6, (by decide : 1 + 0 ≤ _), (by decide : 1 + 0 ≤ _)⟩)
  dsimp only [Pt.U, Pt.locs, Pt.cells, Pt.slots] at X8 l8 y8 z8 st8 hQ8
  subst l8 y8 z8
  obtain ⟨rfl, N8q, Kq8⟩ := hQ8
  have N8 := Fr.app N6 N8q
  have f9 := A1.keep Kq8
  have OL10 := OL2.keep Kq8 (allS ge_b1 all0)
  have K11 : Keep h0 T8.heap [] := K3.trans Kq8 (allS (Or.inr sz_b1) all0)
  have pre12 : oL p e below T8 (mkF m 11 #[oR a1] [ow b1]) s₁ (entryFrame m #[(.ref a1)] 1) := fun t k => pre7 t (by
    refine st8.trans ?_
    exact k)
  obtain ⟨fs, hr, hrun, hended, hW, hsame⟩ := X8.leave (v := some (.ref b1)) (fun h => by rw [Bd.returns] at h; cases h)
  refine ⟨_, _, pre12 _ ?_, hrun, hended, _, _, rfl, ?_, ⟨_, rfl⟩, hW, hsame.mono (by decide) (by decide)⟩
  ·
    show oS p e below T8 (mkF m 11 #[oR a1] [ow b1]) _
    jvm_step X8.here [X8.here.top, hx, (hb hby d17_11), X8.method', Bd.returns, Value.isRef, FieldType.isReference]
    first | (intro acts; rw [hr _ acts rfl rfl rfl]) | rw [hr _ _ rfl rfl rfl]
    exact Steps.refl _
  ·
    show Q_rm_opo Z a1 h0 n0 _ T8.heap _
    exact ⟨b1, rfl, N8, K11, sz_b1, f9⟩
theorem pn_java_lang_StringLatin1 : plainName "java/lang/StringLatin1" = true := by first | (simp [plainName, overriddenIn]; done) | decide +kernel
theorem d14_0 : decode jdk_43_method_3_code 0 = .ok (.iload_n 0, 1) := by decide +kernel
theorem d14_1 : decode jdk_43_method_3_code 1 = .ok (.sipush 255, 3) := by decide +kernel
theorem d14_4 : decode jdk_43_method_3_code 4 = .ok (.if_icmp .gt 7, 3) := by decide +kernel
theorem d14_7 : decode jdk_43_method_3_code 7 = .ok (.iconst 1, 1) := by decide +kernel
theorem d14_8 : decode jdk_43_method_3_code 8 = .ok (.goto 4, 3) := by decide +kernel
theorem d14_12 : decode jdk_43_method_3_code 12 = .ok (.ireturn, 1) := by decide +kernel
def Q_rm_can (Z : State) (p1 : Int32) (h0 : Heap) (n0 : Nat) (v : Option Value) (h : Heap) (L : List Loc) : Prop := v = some (.int (1 : Int32)) ∧ Fr n0 L ∧ h = h0
set_option maxRecDepth 65536 in
set_option maxHeartbeats 40000000 in
theorem rm_can (l : Launch) (Z : State) (a0 : Array Value) (hw : ∀ d ∈ tables_1, d.before a0 Z = true) (ws : List Jvm.Cond) (p1 : Int32) (h0 : Heap) (n0 : Nat) (OL : Old Z n0 h0) (hl : ¬ ((255 : Int32) < p1)) :
    MetFree l (⟨"java/lang/StringLatin1", "canEncode", "(C)Z"⟩ : MethodName) (head1 (Jvm.Cond.code (⟨"java/lang/StringLatin1", "canEncode", "(C)Z"⟩ : MethodName) jdk_43_method_3_code 1 (some .boolean) :: ws) ({ frames := 0, cells := 0, slots := 0, locals := 0 } : Room)) (fun a U => a = #[(.int p1)] ∧ Z.Warmed39 U.vm ∧ U.heap = h0) (fun _ _ _ _ _ => True) (fun _ U o U' => ∃ v L, o = .returned v ∧ Q_rm_can Z p1 h0 n0 v U'.heap L ∧ FrameEnd U o U' L ({ frames := 0, cells := 0, slots := 0, locals := 0 } : Room).cells ({ frames := 0, cells := 0, slots := 0, locals := 0 } : Room).slots) := by
  refine MetFree.of_bodySF (plainFor_of_name pn_java_lang_StringLatin1) hisR ?_
  intro p e s m args below meth c s₁ Bd hml0 hP hK
  obtain ⟨rfl, hZ, hh⟩ := hP
  have hx := Bd.exec
  have hby := Bd.bytes
  have hml : c.maxLocals = 1 := hml0
  have hown : s.vm.findClass "java/lang/StringLatin1" = some m.cls := findClass_of_methodNamed Bd.named
  have hnm := (name_of_methodNamed Bd.named Bd.method).1
  have X0 : Stand p l e ({ frames := 0, cells := 0, slots := 0, locals := 0 } : Room) s m #[(.int p1)] below meth c s₁ [] 0 0 := Stand.of_body Bd
  have e0 : s₁.heap = h0 := by rw [← hh, Bd.state]; rfl
  have N0 := Fr.nil n0
  have pre0 : oL p e below s₁ (mkF m 0 #[oI p1] []) s₁ (entryFrame m #[(.int p1)] 1) := fun t k => castTop (by first | (simp [entryFrame, mkF, argsToLocals, Value.category]; done) | rfl) k
  have pre1 : oL p e below s₁ (mkF m 12 #[oI p1] [oi 1]) s₁ (entryFrame m #[(.int p1)] 1) := fun t k => pre0 t (by
    refine XS.iloadN X0.here hx rfl (hb hby d14_0) rfl ?_
    refine XS.sipush X0.here hx rfl (hb hby d14_1) ?_
    refine XS.icmpNo X0.here hx rfl (hb hby d14_4) rfl (flt hl).2.2.1 ?_
    refine XS.iconst X0.here hx rfl (hb hby d14_7) ?_
    show oS p e below s₁ (mkF m 8 #[oI p1] [oi 1]) _
    refine XS.goto X0.here hx rfl (pc0 := 8) (pc' := 12) rfl (hb hby d14_8) (by decide) (by decide) ?_
    exact k)
  obtain ⟨fs, hr, hrun, hended, hW, hsame⟩ := X0.leave (v := some (.int (1 : Int32))) (fun h => by rw [Bd.returns] at h; cases h)
  refine ⟨_, _, pre1 _ ?_, hrun, hended, _, _, rfl, ?_, ⟨_, rfl⟩, hW, hsame.mono (by decide) (by decide)⟩
  ·
    show oS p e below s₁ (mkF m 12 #[oI p1] [oi 1]) _
    exact retN X0 hx (t := .boolean) Bd.returns (by simp) (hb hby d14_12) hr
  ·
    show Q_rm_can Z p1 h0 n0 _ s₁.heap _
    rw [e0]
    exact ⟨rfl, N0, rfl⟩
theorem d15_0 : decode jdk_43_method_46_code 0 = .ok (.iconst 1, 1) := by decide +kernel
theorem d15_1 : decode jdk_43_method_46_code 1 = .ok (.newarray .byte, 2) := by decide +kernel
theorem d15_3 : decode jdk_43_method_46_code 3 = .ok (.dup, 1) := by decide +kernel
theorem d15_4 : decode jdk_43_method_46_code 4 = .ok (.iconst 0, 1) := by decide +kernel
theorem d15_5 : decode jdk_43_method_46_code 5 = .ok (.iload_n 0, 1) := by decide +kernel
theorem d15_6 : decode jdk_43_method_46_code 6 = .ok (.i2b, 1) := by decide +kernel
theorem d15_7 : decode jdk_43_method_46_code 7 = .ok (.bastore, 1) := by decide +kernel
theorem d15_8 : decode jdk_43_method_46_code 8 = .ok (.areturn, 1) := by decide +kernel
def Q_rm_tob (Z : State) (p1 : Int32) (h0 : Heap) (n0 : Nat) (v : Option Value) (h : Heap) (L : List Loc) : Prop := ∃ r : Addr, v = some (.ref r) ∧ Fr n0 L ∧ Keep h0 h [] ∧ h0.size ≤ r
set_option maxRecDepth 65536 in
set_option maxHeartbeats 40000000 in
theorem rm_tob (l : Launch) (Z : State) (a0 : Array Value) (hw : ∀ d ∈ tables_1, d.before a0 Z = true) (ws : List Jvm.Cond) (p1 : Int32) (h0 : Heap) (n0 : Nat) (OL : Old Z n0 h0) :
    MetFree l (⟨"java/lang/StringLatin1", "toBytes", "(C)[B"⟩ : MethodName) (head1 (Jvm.Cond.code (⟨"java/lang/StringLatin1", "toBytes", "(C)[B"⟩ : MethodName) jdk_43_method_46_code 1 (some (.array .byte)) :: ws) ({ frames := 0, cells := 1, slots := 1, locals := 0 } : Room)) (fun a U => a = #[(.int p1)] ∧ Z.Warmed39 U.vm ∧ U.heap = h0) (fun _ _ _ _ _ => True) (fun _ U o U' => ∃ v L, o = .returned v ∧ Q_rm_tob Z p1 h0 n0 v U'.heap L ∧ FrameEnd U o U' L ({ frames := 0, cells := 1, slots := 1, locals := 0 } : Room).cells ({ frames := 0, cells := 1, slots := 1, locals := 0 } : Room).slots) := by
  refine MetFree.of_bodySF (plainFor_of_name pn_java_lang_StringLatin1) hisR ?_
  intro p e s m args below meth c s₁ Bd hml0 hP hK
  obtain ⟨rfl, hZ, hh⟩ := hP
  have hx := Bd.exec
  have hby := Bd.bytes
  have hml : c.maxLocals = 1 := hml0
  have hown : s.vm.findClass "java/lang/StringLatin1" = some m.cls := findClass_of_methodNamed Bd.named
  have hnm := (name_of_methodNamed Bd.named Bd.method).1
  have X0 : Stand p l e ({ frames := 0, cells := 1, slots := 1, locals := 0 } : Room) s m #[(.int p1)] below meth c s₁ [] 0 0 := Stand.of_body Bd
  have e0 : s₁.heap = h0 := by rw [← hh, Bd.state]; rfl
  have N0 := Fr.nil n0
  have pre0 : oL p e below s₁ (mkF m 0 #[oI p1] []) s₁ (entryFrame m #[(.int p1)] 1) := fun t k => castTop (by first | (simp [entryFrame, mkF, argsToLocals, Value.category]; done) | rfl) k
  have pre1 : oL p e below s₁ (mkF m 1 #[oI p1] [oi 1]) s₁ (entryFrame m #[(.int p1)] 1) := fun t k => pre0 t (by
    refine XS.iconst X0.here hx rfl (hb hby d15_0) ?_
    exact k)
  obtain ⟨T2, h2, k2, X2, e2, E2, A2, st2⟩ := newP X0 hx hZ (oW hw 19 rfl) e0 (g := (mkF m 1 #[oI p1] [oi 1])) rfl (hb hby d15_1) rfl (by decide) (cap := 1) (by decide) (by decide) (by decide) (by decide)
  obtain ⟨b2, g2⟩ : ∃ z, z = h0.size := ⟨_, rfl⟩
  rw [← g2] at A2 st2
  have ge_b2 : n0 ≤ b2 := Nat.le_trans (OL.1 ▸ OL.2.1) (Nat.le_of_eq g2.symm)
  have sz_b2 : h0.size ≤ b2 := Nat.le_trans (Keep.refl h0 []).1 (Nat.le_of_eq g2.symm)
  have OL3 := OL.ext E2
  have K4 : Keep h0 h2 [] := (Keep.refl h0 []).ext E2
  have V2 : Arv Z h2 b2 k2 .byte (1 : Int32) [(.int (0 : Int32))] (.int (0 : Int32)) := (Arv.new A2 (by decide)).pad (pad_rep [] (.int (0 : Int32)) 1)
  have pre5 : oL p e below T2 (mkF m 7 #[oI p1] [oi (p1.toInt8.toInt32), oi 0, ow b2, ow b2]) s₁ (entryFrame m #[(.int p1)] 1) := fun t k => pre1 t (by
    refine st2 _ ?_
    refine XS.dup X2.here hx rfl (hb hby d15_3) rfl rfl ?_
    refine XS.iconst X2.here hx rfl (hb hby d15_4) ?_
    show oS p e below T2 (mkF m 5 #[oI p1] [oi 0, ow b2, ow b2]) _
    refine XS.iloadN X2.here hx rfl (hb hby d15_5) rfl ?_
    refine XS.i2b X2.here hx rfl (hb hby d15_6) rfl ?_
    exact k)
  obtain ⟨cl6, Ar6, qc6, Sz6, Nn6, Hs6, Gs6⟩ := id V2
  obtain ⟨T6, h6, X6, e6, W6, st6⟩ := stB X2 hx hZ e2 Ar6 (j := (0 : Int32)) (inb_of Sz6 ⟨by decide, by decide⟩) (g := (mkF m 7 #[oI p1] [oi (p1.toInt8.toInt32), oi 0, ow b2, ow b2])) rfl rfl (hb hby d15_7)
  have V6 : Arv Z h6 b2 k2 .byte (1 : Int32) [(.int (nar .byte (p1.toInt8.toInt32)))] (.int (0 : Int32)) := Arv.set Ar6 qc6 Sz6 Nn6 Hs6 Gs6 (fits_nar_byte _) W6 0 rfl (Nat.le_of_ble_eq_true rfl)
  have N6 := Fr.snoc X6 N0 ge_b2
  have OL7 := OL3.wr W6 ge_b2
  have K8 : Keep h0 h6 [] := K4.wr W6 (Or.inr sz_b2)
  have pre9 : oL p e below T6 (mkF m 8 #[oI p1] [ow b2]) s₁ (entryFrame m #[(.int p1)] 1) := fun t k => pre5 t (by
    refine st6 _ ?_
    exact k)
  obtain ⟨fs, hr, hrun, hended, hW, hsame⟩ := X6.leave (v := some (.ref b2)) (fun h => by rw [Bd.returns] at h; cases h)
  refine ⟨_, _, pre9 _ ?_, hrun, hended, _, _, rfl, ?_, ⟨_, rfl⟩, hW, hsame.mono (by decide) (by decide)⟩
  ·
    show oS p e below T6 (mkF m 8 #[oI p1] [ow b2]) _
    jvm_step X6.here [X6.here.top, hx, (hb hby d15_8), X6.method', Bd.returns, Value.isRef, FieldType.isReference]
    first | (intro acts; rw [hr _ acts rfl rfl rfl]) | rw [hr _ _ rfl rfl rfl]
    exact Steps.refl _
  ·
    show Q_rm_tob Z p1 h0 n0 _ T6.heap _
    rw [e6]
    exact ⟨b2, rfl, N6, K8, sz_b2⟩
theorem pn_java_lang_String : plainName "java/lang/String" = true := by first | (simp [plainName, overriddenIn]; done) | decide +kernel
theorem d16_0 : decode jdk_42_method_151_code 0 = .ok (.aload_n 0, 1) := by decide +kernel
theorem d16_1 : decode jdk_42_method_151_code 1 = .ok (.invokespecial 1, 3) := by decide +kernel
theorem d16_4 : decode jdk_42_method_151_code 4 = .ok (.aload_n 0, 1) := by decide +kernel
theorem d16_5 : decode jdk_42_method_151_code 5 = .ok (.aload_n 1, 1) := by decide +kernel
theorem d16_6 : decode jdk_42_method_151_code 6 = .ok (.putfield 9, 3) := by decide +kernel
theorem d16_9 : decode jdk_42_method_151_code 9 = .ok (.aload_n 0, 1) := by decide +kernel
theorem d16_10 : decode jdk_42_method_151_code 10 = .ok (.iload_n 2, 1) := by decide +kernel
theorem d16_11 : decode jdk_42_method_151_code 11 = .ok (.putfield 15, 3) := by decide +kernel
theorem d16_14 : decode jdk_42_method_151_code 14 = .ok (.return_, 1) := by decide +kernel
def Q_rm_sbb (Z : State) (a1 : Addr) (a2 : Addr) (h0 : Heap) (n0 : Nat) (v : Option Value) (h : Heap) (L : List Loc) : Prop := v = none ∧ Fr n0 L ∧ Keep h0 h [a1]
set_option maxRecDepth 65536 in
set_option maxHeartbeats 40000000 in
theorem rm_sbb (l : Launch) (Z : State) (a0 : Array Value) (hw : ∀ d ∈ tables_1, d.before a0 Z = true) (ws : List Jvm.Cond) (a1 : Addr) (a2 : Addr) (h0 : Heap) (n0 : Nat) (OL : Old Z n0 h0) (ge1 : n0 ≤ a1) (E1 : Exa Z h0 a1 "java/lang/String") (F1 : Fld Z h0 a1 "java/lang/String" "value" "[B" .null) (F2 : Fld Z h0 a1 "java/lang/String" "coder" "B" (.int (0 : Int32))) :
    MetFree l (⟨"java/lang/String", "<init>", "([BB)V"⟩ : MethodName) (head1 (Jvm.Cond.code (⟨"java/lang/String", "<init>", "([BB)V"⟩ : MethodName) jdk_42_method_151_code 3 none :: ws) ({ frames := 1, cells := 0, slots := 0, locals := 12 } : Room)) (fun a U => a = #[(.ref a1), (.ref a2), (.int (0 : Int32))] ∧ Z.Warmed39 U.vm ∧ U.heap = h0) (fun _ _ _ _ _ => True) (fun _ U o U' => ∃ v L, o = .returned v ∧ Q_rm_sbb Z a1 a2 h0 n0 v U'.heap L ∧ FrameEnd U o U' L ({ frames := 1, cells := 0, slots := 0, locals := 12 } : Room).cells ({ frames := 1, cells := 0, slots := 0, locals := 12 } : Room).slots) := by
  refine MetFree.of_bodySF (plainFor_of_name pn_java_lang_String) hisR ?_
  intro p e s m args below meth c s₁ Bd hml0 hP hK
  obtain ⟨rfl, hZ, hh⟩ := hP
  have hx := Bd.exec
  have hby := Bd.bytes
  have hml : c.maxLocals = 3 := hml0
  have hown : s.vm.findClass "java/lang/String" = some m.cls := findClass_of_methodNamed Bd.named
  have hnm := (name_of_methodNamed Bd.named Bd.method).1
  have X0 : Stand p l e ({ frames := 1, cells := 0, slots := 0, locals := 12 } : Room) s m #[(.ref a1), (.ref a2), (.int (0 : Int32))] below meth c s₁ [] 0 0 := Stand.of_body Bd
  have e0 : s₁.heap = h0 := by rw [← hh, Bd.state]; rfl
  have N0 := Fr.nil n0
  have pre0 : oL p e below s₁ (mkF m 0 #[oR a1, oR a2, oI 0] []) s₁ (entryFrame m #[(.ref a1), (.ref a2), (.int (0 : Int32))] 3) := fun t k => castTop (by first | (simp [entryFrame, mkF, argsToLocals, Value.category]; done) | rfl) k
  have pre1 : oL p e below s₁ (mkF m 1 #[oR a1, oR a2, oI 0] [ow a1]) s₁ (entryFrame m #[(.ref a1), (.ref a2), (.int (0 : Int32))] 3) := fun t k => pre0 t (by
    refine XS.aloadN X0.here hx rfl (hb hby d16_0) rfl rfl ?_
    exact k)
  obtain ⟨T2, X2, e2, st2⟩ := initO X0 hx hZ hown (oW hw 11 rfl) (oW hw 12 rfl) (oW hw 13 rfl) e0 (g := (mkF m 1 #[oR a1, oR a2, oI 0] [ow a1])) rfl (by rw [hml]; rfl) rfl (hb hby d16_1) (by decide) (W := 0) (by show 2 * 0 + _ ≤ _; exact Nat.le_of_eq rfl) (by decide)
  have pre3 : oL p e below T2 (mkF m 6 #[oR a1, oR a2, oI 0] [ow a2, ow a1]) s₁ (entryFrame m #[(.ref a1), (.ref a2), (.int (0 : Int32))] 3) := fun t k => pre1 t (by
    refine st2 _ ?_
    refine XS.aloadN X2.here hx rfl (hb hby d16_4) rfl rfl ?_
    refine XS.aloadN X2.here hx rfl (hb hby d16_5) rfl rfl ?_
    show oS p e below T2 (mkF m 6 #[oR a1, oR a2, oI 0] [ow a2, ow a1]) _
    exact k)
  obtain ⟨T4, h4, X4, e4, W4, st4⟩ := putF X2 hx hZ hown (host := "") (Or.inl (oW hw 28 rfl)) Via.refl e2 F1 E1 (Or.inr ⟨(oW hw 29 rfl), rfl, hnm⟩) (oW hw 2 rfl) (ty := (.array .byte)) (by decide) rfl rfl (g := (mkF m 6 #[oR a1, oR a2, oI 0] [ow a2, ow a1])) rfl rfl (hb hby d16_6)
  have f5 := F1.same W4
  have N4 := Fr.snoc X4 N0 ge1
  have f6 := E1.wr W4
  have f7 := F2.other W4 (Or.inr (slot_ne (Or.inr (oW hw 27 rfl)) (Or.inr (oW hw 29 rfl)) (by decide) (t := .byte) (t' := (.array .byte)) (by decide) (by decide)))
  have OL8 := OL.wr W4 ge1
  have K9 : Keep h0 h4 [a1] := (Keep.refl h0 [a1]).wr W4 (Or.inl (List.mem_of_getElem? (i := 0) rfl))
  have pre10 : oL p e below T4 (mkF m 11 #[oR a1, oR a2, oI 0] [oi 0, ow a1]) s₁ (entryFrame m #[(.ref a1), (.ref a2), (.int (0 : Int32))] 3) := fun t k => pre3 t (by
    refine st4 _ ?_
    refine XS.aloadN X4.here hx rfl (hb hby d16_9) rfl rfl ?_
    refine XS.iloadN X4.here hx rfl (hb hby d16_10) rfl ?_
    exact k)
  obtain ⟨T11, h11, X11, e11, W11, st11⟩ := putFN X4 hx hZ hown (oW hw 26 rfl) Via.refl e4 f7 f6 (Or.inr ⟨(oW hw 27 rfl), rfl, hnm⟩) (oW hw 2 rfl) (ty := .byte) (v' := (.int (0 : Int32))) (by decide) rfl rfl (g := (mkF m 11 #[oR a1, oR a2, oI 0] [oi 0, ow a1])) rfl rfl (hb hby d16_11)
  have f12 := f7.same W11
  have N11 := Fr.snoc X11 N4 ge1
  have f13 := f6.wr W11
  have f14 := f5.other W11 (Or.inr (slot_ne (Or.inr (oW hw 29 rfl)) (Or.inr (oW hw 27 rfl)) (by decide) (t := (.array .byte)) (t' := .byte) (by decide) (by decide)))
  have OL15 := OL8.wr W11 ge1
  have K16 : Keep h0 h11 [a1] := K9.wr W11 (Or.inl (List.mem_of_getElem? (i := 0) rfl))
  have pre17 : oL p e below T11 (mkF m 14 #[oR a1, oR a2, oI 0] []) s₁ (entryFrame m #[(.ref a1), (.ref a2), (.int (0 : Int32))] 3) := fun t k => pre10 t (by
    refine st11 _ ?_
    show oS p e below T11 (mkF m 14 #[oR a1, oR a2, oI 0] []) _
    exact k)
  obtain ⟨fs, hr, hrun, hended, hW, hsame⟩ := X11.leave (v := none) (fun _ => rfl)
  refine ⟨_, _, pre17 _ ?_, hrun, hended, _, _, rfl, ?_, ⟨_, rfl⟩, hW, hsame.mono (by decide) (by decide)⟩
  ·
    show oS p e below T11 (mkF m 14 #[oR a1, oR a2, oI 0] []) _
    exact X11.returnOut hx Bd.returns (hb hby d16_14) hr
  ·
    show Q_rm_sbb Z a1 a2 h0 n0 _ T11.heap _
    rw [e11]
    exact ⟨rfl, N11, K16⟩
theorem d13_0 : decode jdk_42_method_139_code 0 = .ok (.getstatic 38, 3) := by decide +kernel
theorem d13_3 : decode jdk_42_method_139_code 3 = .ok (.ifCond .eq 23, 3) := by decide +kernel
theorem d13_6 : decode jdk_42_method_139_code 6 = .ok (.iload_n 0, 1) := by decide +kernel
theorem d13_7 : decode jdk_42_method_139_code 7 = .ok (.invokestatic 1015, 3) := by decide +kernel
theorem pd__C_Z : parseMethodDescriptor "(C)Z" = some ⟨[.char], some .boolean⟩ := by decide +kernel
theorem d13_10 : decode jdk_42_method_139_code 10 = .ok (.ifCond .eq 16, 3) := by decide +kernel
theorem d13_13 : decode jdk_42_method_139_code 13 = .ok (.new 10, 3) := by decide +kernel
theorem d13_16 : decode jdk_42_method_139_code 16 = .ok (.dup, 1) := by decide +kernel
theorem d13_17 : decode jdk_42_method_139_code 17 = .ok (.iload_n 0, 1) := by decide +kernel
theorem d13_18 : decode jdk_42_method_139_code 18 = .ok (.invokestatic 1018, 3) := by decide +kernel
theorem pd__C__B : parseMethodDescriptor "(C)[B" = some ⟨[.char], some (.array .byte)⟩ := by decide +kernel
theorem d13_21 : decode jdk_42_method_139_code 21 = .ok (.iconst 0, 1) := by decide +kernel
theorem d13_22 : decode jdk_42_method_139_code 22 = .ok (.invokespecial 209, 3) := by decide +kernel
theorem pd___BB_V : parseMethodDescriptor "([BB)V" = some ⟨[(.array .byte), .byte], none⟩ := by decide +kernel
theorem d13_25 : decode jdk_42_method_139_code 25 = .ok (.areturn, 1) := by decide +kernel
def Q_rm_vof (Z : State) (p1 : Int32) (G1 : Int32) (h0 : Heap) (n0 : Nat) (v : Option Value) (h : Heap) (L : List Loc) : Prop := ∃ r : Addr, v = some (.ref r) ∧ Fr n0 L ∧ Keep h0 h [] ∧ h0.size ≤ r ∧ Exa Z h r "java/lang/String"
set_option maxRecDepth 65536 in
set_option maxHeartbeats 40000000 in
theorem rm_vof (l : Launch) (Z : State) (a0 : Array Value) (hw : ∀ d ∈ tables_1, d.before a0 Z = true) (ws : List Jvm.Cond) (p1 : Int32) (G1 : Int32) (h0 : Heap) (n0 : Nat) (OL : Old Z n0 h0) (O2 : Sta Z Z.heap "java/lang/String" "COMPACT_STRINGS" "Z" (.int G1)) (P5 : ¬ (G1 = (0 : Int32))) (hl : ¬ ((255 : Int32) < p1)) :
    MetFree l (⟨"java/lang/String", "valueOf", "(C)Ljava/lang/String;"⟩ : MethodName) (head1 (Jvm.Cond.code (⟨"java/lang/String", "valueOf", "(C)Ljava/lang/String;"⟩ : MethodName) jdk_42_method_139_code 1 (some (.object "java/lang/String")) :: ws) ({ frames := 2, cells := 2, slots := 5, locals := 27 } : Room)) (fun a U => a = #[(.int p1)] ∧ Z.Warmed39 U.vm ∧ U.heap = h0) (fun _ _ _ _ _ => True) (fun _ U o U' => ∃ v L, o = .returned v ∧ Q_rm_vof Z p1 G1 h0 n0 v U'.heap L ∧ FrameEnd U o U' L ({ frames := 2, cells := 2, slots := 5, locals := 27 } : Room).cells ({ frames := 2, cells := 2, slots := 5, locals := 27 } : Room).slots) := by
  refine MetFree.of_bodySF (plainFor_of_name pn_java_lang_String) hisR ?_
  intro p e s m args below meth c s₁ Bd hml0 hP hK
  obtain ⟨rfl, hZ, hh⟩ := hP
  have hx := Bd.exec
  have hby := Bd.bytes
  have hml : c.maxLocals = 1 := hml0
  have hown : s.vm.findClass "java/lang/String" = some m.cls := findClass_of_methodNamed Bd.named
  have hnm := (name_of_methodNamed Bd.named Bd.method).1
  have X0 : Stand p l e ({ frames := 2, cells := 2, slots := 5, locals := 27 } : Room) s m #[(.int p1)] below meth c s₁ [] 0 0 := Stand.of_body Bd
  have e0 : s₁.heap = h0 := by rw [← hh, Bd.state]; rfl
  have N0 := Fr.nil n0
  have pre0 : oL p e below s₁ (mkF m 0 #[oI p1] []) s₁ (entryFrame m #[(.int p1)] 1) := fun t k => castTop (by first | (simp [entryFrame, mkF, argsToLocals, Value.category]; done) | rfl) k
  obtain ⟨T1, X1, e1, st1⟩ := getS2 X0 hx hZ hown (host := "") (Or.inl (oW hw 14 rfl)) Via.refl e0 (O2.ext OL.2) (g := (mkF m 0 #[oI p1] [])) rfl (hb hby d13_0)
  have pre2 : oL p e below T1 (mkF m 7 #[oI p1] [oi p1]) s₁ (entryFrame m #[(.int p1)] 1) := fun t k => pre0 t (by
    refine st1 _ ?_
    refine XS.ifNo X1.here hx rfl (hb hby d13_3) rfl ((if0 _ _).trans (feq P5).1) ?_
    refine XS.iloadN X1.here hx rfl (hb hby d13_6) rfl ?_
    exact k)
  obtain ⟨_, _, ⟨T3, L3, k3, n3⟩, -, X3, ⟨Lc3, hQ3, l3, y3, z3⟩, st3⟩ := Jvm.LawKit.callS X1 hx (y := (⟨"java/lang/StringLatin1", "canEncode", "(C)Z"⟩ : MethodName)) hown (mvT hZ (oW hw 76 rfl)) (mvT hZ (oW hw 77 rfl)) (mvT hZ (oW hw 78 rfl)) (mvT hZ (oW hw 79 rfl)) (by decide) (backOf (W := 0) (rm_can l Z a0 hw [] p1 h0 n0 OL hl) hZ (oW hw 79 rfl) (oW hw 78 rfl) (by decide) (by decide)) (g := (mkF m 7 #[oI p1] [oi p1])) rfl (by rw [hml]; rfl) (argsL := [(.int p1)]) (rest := []) (lenOf pd__C_Z rfl) rfl (by show 2 * 0 + _ ≤ _; exact Nat.le_of_eq rfl) (hb hby d13_7) (fun _ _ => ⟨rfl, e1, (by decide : 0 + 0 ≤ _), (by decide : 0 + 0 ≤ _)⟩)
  dsimp only [Pt.U, Pt.locs, Pt.cells, Pt.slots] at X3 l3 y3 z3 st3 hQ3
  subst l3 y3 z3
  obtain ⟨rfl, N3q, e3⟩ := hQ3
  have N3 := Fr.app N0 N3q
  have pre4 : oL p e below T3 (mkF m 13 #[oI p1] []) s₁ (entryFrame m #[(.int p1)] 1) := fun t k => pre2 t (by
    refine st3 _ ?_
    show oS p e below T3 (mkF m 10 #[oI p1] [oi 1]) _
    refine XS.ifNo X3.here hx rfl (hb hby d13_10) rfl ((if0 _ _).trans (feq (by decide : ¬ ((1 : Int32) = (0 : Int32)))).1) ?_
    exact k)
  obtain ⟨T5, h5, X5, e5, E5, A5, D5, -, st5⟩ := newO X3 hx hZ hown (oW hw 80 rfl) (oW hw 2 rfl) (oW hw 3 rfl) e3 (g := (mkF m 13 #[oI p1] [])) rfl (hb hby d13_13) (by decide) (by decide)
  obtain ⟨b5, g5⟩ : ∃ z, z = h0.size := ⟨_, rfl⟩
  rw [← g5] at A5 D5 st5
  have ge_b5 : n0 ≤ b5 := Nat.le_trans (OL.1 ▸ OL.2.1) (Nat.le_of_eq g5.symm)
  have sz_b5 : h0.size ≤ b5 := Nat.le_trans (Keep.refl h0 []).1 (Nat.le_of_eq g5.symm)
  have OL6 := OL.ext E5
  have K7 : Keep h0 h5 [] := (Keep.refl h0 []).ext E5
  have f8 : Fld Z h5 b5 "java/lang/String" "coder" "B" (.int (0 : Int32)) := D5 (Or.inr (oW hw 27 rfl)) (ty := .byte) (by decide)
  have f9 : Fld Z h5 b5 "java/lang/String" "value" "[B" .null := D5 (Or.inr (oW hw 29 rfl)) (ty := (.array .byte)) (by decide)
  have pre10 : oL p e below T5 (mkF m 18 #[oI p1] [oi p1, ow b5, ow b5]) s₁ (entryFrame m #[(.int p1)] 1) := fun t k => pre4 t (by
    refine st5 _ ?_
    refine XS.dup X5.here hx rfl (hb hby d13_16) rfl rfl ?_
    refine XS.iloadN X5.here hx rfl (hb hby d13_17) rfl ?_
    show oS p e below T5 (mkF m 18 #[oI p1] [oi p1, ow b5, ow b5]) _
    exact k)
  obtain ⟨_, _, ⟨T11, L11, k11, n11⟩, -, X11, ⟨Lc11, hQ11, l11, y11, z11⟩, st11⟩ := Jvm.LawKit.callS X5 hx (y := (⟨"java/lang/StringLatin1", "toBytes", "(C)[B"⟩ : MethodName)) hown (mvT hZ (oW hw 81 rfl)) (mvT hZ (oW hw 82 rfl)) (mvT hZ (oW hw 78 rfl)) (mvT hZ (oW hw 83 rfl)) (by decide) (backOf (W := 2) (rm_tob l Z a0 hw [] p1 h5 n0 OL6 ) hZ (oW hw 83 rfl) (oW hw 78 rfl) (by decide) (by decide)) (g := (mkF m 18 #[oI p1] [oi p1, ow b5, ow b5])) rfl (by rw [hml]; rfl) (argsL := [(.int p1)]) (rest := [(.ref b5), (.ref b5)]) (lenOf pd__C__B rfl) rfl (by show 2 * 0 + _ ≤ _; exact Nat.le_of_eq rfl) (hb hby d13_18) (fun _ _ => ⟨rfl, e5, (by decide : 1 + 1 ≤ _), (by decide : 4 + 1 ≤ _)⟩)
  dsimp only [Pt.U, Pt.locs, Pt.cells, Pt.slots] at X11 l11 y11 z11 st11 hQ11
  subst l11 y11 z11
  obtain ⟨r11, rfl, N11q, Kq11, sq11⟩ := hQ11
  have N11 := Fr.app N3 N11q
  have ne12 : b5 ≠ r11 := Nat.ne_of_lt (Nat.lt_of_lt_of_le A5.lt sq11)
  have ge_r11 : n0 ≤ r11 := Nat.le_trans (OL6.1 ▸ OL6.2.1) sq11
  have sz_r11 : h0.size ≤ r11 := Nat.le_trans K7.1 sq11
  have f13 := A5.keep Kq11
  have f14 := f8.keep Kq11 nin0
  have f15 := f9.keep Kq11 nin0
  have OL16 := OL6.keep Kq11 all0
  have K17 : Keep h0 T11.heap [] := K7.trans Kq11 all0
  have pre18 : oL p e below T11 (mkF m 22 #[oI p1] [oi 0, ow r11, ow b5, ow b5]) s₁ (entryFrame m #[(.int p1)] 1) := fun t k => pre10 t (by
    refine st11 _ ?_
    refine XS.iconst X11.here hx rfl (hb hby d13_21) ?_
    exact k)
  obtain ⟨_, _, ⟨T19, L19, k19, n19⟩, -, X19, ⟨Lc19, hQ19, l19, y19, z19⟩, st19⟩ := X11.specialBack hx (y := (⟨"java/lang/String", "<init>", "([BB)V"⟩ : MethodName)) rfl hown (mvT hZ (oW hw 84 rfl)) (mvT hZ (oW hw 85 rfl)) (mvT hZ (oW hw 86 rfl)) (by decide) (backOf (W := 1) (rm_sbb l Z a0 hw [] b5 r11 T11.heap n0 OL16 ge_b5 f13 f15 f14) hZ (oW hw 86 rfl) (oW hw 3 rfl) (by decide) (by decide)) (g := (mkF m 22 #[oI p1] [oi 0, ow r11, ow b5, ow b5])) rfl (by rw [hml]; rfl) (Steps.refl _) (a := b5) (argsL := [(.ref r11), (.int (0 : Int32))]) (rest := [(.ref b5)]) (lenOf pd___BB_V rfl) rfl (by show 2 * 0 + _ ≤ _; exact Nat.le_of_eq rfl) (hb hby d13_22) (fun _ _ => ⟨rfl, rfl, (by decide : 2 + 0 ≤ _), (by decide : 5 + 0 ≤ _)⟩)
  dsimp only [Pt.U, Pt.locs, Pt.cells, Pt.slots] at X19 l19 y19 z19 st19 hQ19
  subst l19 y19 z19
  obtain ⟨rfl, N19q, Kq19⟩ := hQ19
  have N19 := Fr.app N11 N19q
  have f20 := f13.keep Kq19
  have OL21 := OL16.keep Kq19 (allS ge_b5 all0)
  have K22 : Keep h0 T19.heap [] := K17.trans Kq19 (allS (Or.inr sz_b5) all0)
  have pre23 : oL p e below T19 (mkF m 25 #[oI p1] [ow b5]) s₁ (entryFrame m #[(.int p1)] 1) := fun t k => pre18 t (by
    refine st19.trans ?_
    exact k)
  obtain ⟨fs, hr, hrun, hended, hW, hsame⟩ := X19.leave (v := some (.ref b5)) (fun h => by rw [Bd.returns] at h; cases h)
  refine ⟨_, _, pre23 _ ?_, hrun, hended, _, _, rfl, ?_, ⟨_, rfl⟩, hW, hsame.mono (by decide) (by decide)⟩
  ·
    show oS p e below T19 (mkF m 25 #[oI p1] [ow b5]) _
    jvm_step X19.here [X19.here.top, hx, (hb hby d13_25), X19.method', Bd.returns, Value.isRef, FieldType.isReference]
    first | (intro acts; rw [hr _ acts rfl rfl rfl]) | rw [hr _ _ rfl rfl rfl]
    exact Steps.refl _
  ·
    show Q_rm_vof Z p1 G1 h0 n0 _ T19.heap _
    exact ⟨b5, rfl, N19, K22, sz_b5, f20⟩
theorem pd___C_V : parseMethodDescriptor "([C)V" = some ⟨[(.array .char)], none⟩ := by decide +kernel
theorem pd___Ljava_util_Optional_ : parseMethodDescriptor "()Ljava/util/Optional;" = some ⟨[], some (.object "java/util/Optional")⟩ := by decide +kernel
theorem pd__Ljava_lang_String_ZZLjava_util_Optional__V : parseMethodDescriptor "(Ljava/lang/String;ZZLjava/util/Optional;)V" = some ⟨[(.object "java/lang/String"), .boolean, .boolean, (.object "java/util/Optional")], none⟩ := by decide +kernel
theorem pd__Lcom_example_grantwright_grantwright_PathActivity__Z : parseMethodDescriptor "(Lcom/example/grantwright/grantwright/PathActivity;)Z" = some ⟨[(.object "com/example/grantwright/grantwright/PathActivity")], some .boolean⟩ := by decide +kernel
theorem pd__ZZ_Z : parseMethodDescriptor "(ZZ)Z" = some ⟨[.boolean, .boolean], some .boolean⟩ := by decide +kernel
theorem pd__C_Ljava_lang_String_ : parseMethodDescriptor "(C)Ljava/lang/String;" = some ⟨[.char], some (.object "java/lang/String")⟩ := by decide +kernel
theorem pd__Ljava_lang_Object__Ljava_util_Optional_ : parseMethodDescriptor "(Ljava/lang/Object;)Ljava/util/Optional;" = some ⟨[(.object "java/lang/Object")], some (.object "java/util/Optional")⟩ := by decide +kernel
def Q_rm0 (Z : State) (p1 : Int32) (p2 : Int32) (p3 : Int32) (p4 : Int32) (G1 : Int32) (wR : Addr) (wW : Addr) (wE : Addr) (h0 : Heap) (n0 : Nat) (v : Option Value) (h : Heap) (L : List Loc) : Prop := v = some (.int (1 : Int32)) ∧ Fr n0 L
set_option maxRecDepth 65536 in
set_option maxHeartbeats 40000000 in
theorem rm0 (l : Launch) (Z : State) (a0 : Array Value) (hw : ∀ d ∈ tables_1, d.before a0 Z = true) (ws : List Jvm.Cond) (p1 : Int32) (p2 : Int32) (p3 : Int32) (p4 : Int32) (G1 : Int32) (wR : Addr) (wW : Addr) (wE : Addr) (h0 : Heap) (n0 : Nat) (OL : Old Z n0 h0) (O2 : Sta Z Z.heap "java/lang/String" "COMPACT_STRINGS" "Z" (.int G1)) (P5 : ¬ (G1 = (0 : Int32))) (sR : Sta Z Z.heap "com/example/grantwright/grantwright/PathActivity" "READ" "Lcom/example/grantwright/grantwright/PathActivity;" (.ref wR)) (sW : Sta Z Z.heap "com/example/grantwright/grantwright/PathActivity" "WRITE" "Lcom/example/grantwright/grantwright/PathActivity;" (.ref wW)) (sE : Sta Z Z.heap "java/util/Optional" "EMPTY" "Ljava/util/Optional;" (.ref wE)) (hne : ¬ (wR = wW)) :
    MetFree l x (head1 (Jvm.Cond.code x code maxLocals ret :: ws) room_1) (fun a U => a = #[(.int p1), (.int p2), (.int p3), (.int p4)] ∧ Z.Warmed39 U.vm ∧ U.heap = h0) (fun _ _ _ _ _ => True) (fun _ U o U' => ∃ v L, o = .returned v ∧ Q_rm0 Z p1 p2 p3 p4 G1 wR wW wE h0 n0 v U'.heap L ∧ FrameEnd U o U' L room_1.cells room_1.slots) := by
  refine MetFree.of_bodySF (plainFor_of_name pn_com_example_grantwright_grantwright_RowDeniesPinLaw) hisR ?_
  intro p e s m args below meth c s₁ Bd hml0 hP hK
  obtain ⟨rfl, hZ, hh⟩ := hP
  have hx := Bd.exec
  have hby := Bd.bytes
  have hml : c.maxLocals = 13 := hml0
  have hown : s.vm.findClass "com/example/grantwright/grantwright/RowDeniesPinLaw" = some m.cls := findClass_of_methodNamed Bd.named
  have hnm := (name_of_methodNamed Bd.named Bd.method).1
  have X0 : Stand p l e room_1 s m #[(.int p1), (.int p2), (.int p3), (.int p4)] below meth c s₁ [] 0 0 := Stand.of_body Bd
  have e0 : s₁.heap = h0 := by rw [← hh, Bd.state]; rfl
  have N0 := Fr.nil n0
  have pre0 : oL p e below s₁ (mkF m 0 #[oI p1, oI p2, oI p3, oI p4, oU, oU, oU, oU, oU, oU, oU, oU, oU] []) s₁ (entryFrame m #[(.int p1), (.int p2), (.int p3), (.int p4)] maxLocals) := fun t k => castTop (by first | (simp [entryFrame, mkF, argsToLocals, Value.category, maxLocals]; done) | rfl) k
  obtain ⟨b1, hj1, pre1⟩ : ∃ b1 : Int32, (b1 = 0 ∨ b1 = 1) ∧ oL p e below s₁ (mkF m 11 #[oI p1, oI p2, oI p3, oI p4, oU, oU, oU, oU, oU, oU, oU, oU, oU] [oi b1]) s₁ (entryFrame m #[(.int p1), (.int p2), (.int p3), (.int p4)] maxLocals) := by
    have pre2 : oL p e below s₁ (mkF m 3 #[oI p1, oI p2, oI p3, oI p4, oU, oU, oU, oU, oU, oU, oU, oU, oU] [oi (p1 &&& (1 : Int32))]) s₁ (entryFrame m #[(.int p1), (.int p2), (.int p3), (.int p4)] maxLocals) := fun t k => pre0 t (by
      refine XS.iloadN X0.here hx rfl (hb hby at_0) rfl ?_
      refine XS.iconst X0.here hx rfl (hb hby at_1) ?_
      refine XS.iand X0.here hx rfl (hb hby at_2) rfl ?_
      exact k)
    by_cases hc3 : (p1 &&& (1 : Int32)) = (0 : Int32)
    ·
      have pre4 : oL p e below s₁ (mkF m 11 #[oI p1, oI p2, oI p3, oI p4, oU, oU, oU, oU, oU, oU, oU, oU, oU] [oi 0]) s₁ (entryFrame m #[(.int p1), (.int p2), (.int p3), (.int p4)] maxLocals) := fun t k => pre2 t (by
        refine XS.ifYes X0.here hx rfl (pc0 := 3) (pc' := 10) rfl (hb hby at_3) rfl ((if0 _ _).trans (teq hc3).1) (by decide) (by decide) ?_
        show oS p e below s₁ (mkF m 10 #[oI p1, oI p2, oI p3, oI p4, oU, oU, oU, oU, oU, oU, oU, oU, oU] []) _
        refine XS.iconst X0.here hx rfl (hb hby at_10) ?_
        exact k)
      exact ⟨(0 : Int32), Or.inl rfl, pre4⟩
    ·
      have pre5 : oL p e below s₁ (mkF m 11 #[oI p1, oI p2, oI p3, oI p4, oU, oU, oU, oU, oU, oU, oU, oU, oU] [oi 1]) s₁ (entryFrame m #[(.int p1), (.int p2), (.int p3), (.int p4)] maxLocals) := fun t k => pre2 t (by
        refine XS.ifNo X0.here hx rfl (hb hby at_3) rfl ((if0 _ _).trans (feq hc3).1) ?_
        show oS p e below s₁ (mkF m 6 #[oI p1, oI p2, oI p3, oI p4, oU, oU, oU, oU, oU, oU, oU, oU, oU] []) _
        refine XS.iconst X0.here hx rfl (hb hby at_6) ?_
        refine XS.goto X0.here hx rfl (pc0 := 7) (pc' := 11) rfl (hb hby at_7) (by decide) (by decide) ?_
        exact k)
      exact ⟨(1 : Int32), Or.inr rfl, pre5⟩
  have hn1 : nar .boolean b1 = b1 := own_nb hj1
  have pre6 : oL p e below s₁ (mkF m 13 #[oI p1, oI p2, oI p3, oI p4, oI b1, oU, oU, oU, oU, oU, oU, oU, oU] []) s₁ (entryFrame m #[(.int p1), (.int p2), (.int p3), (.int p4)] maxLocals) := fun t k => pre1 t (by
    refine XS.istore X0.here hx rfl (hb hby at_11) rfl (l' := #[oI p1, oI p2, oI p3, oI p4, oI b1, oU, oU, oU, oU, oU, oU, oU, oU]) rfl ?_
    exact k)
  obtain ⟨b7, hj7, pre7⟩ : ∃ b7 : Int32, (b7 = 0 ∨ b7 = 1) ∧ oL p e below s₁ (mkF m 24 #[oI p1, oI p2, oI p3, oI p4, oI b1, oU, oU, oU, oU, oU, oU, oU, oU] [oi b7]) s₁ (entryFrame m #[(.int p1), (.int p2), (.int p3), (.int p4)] maxLocals) := by
    have pre8 : oL p e below s₁ (mkF m 16 #[oI p1, oI p2, oI p3, oI p4, oI b1, oU, oU, oU, oU, oU, oU, oU, oU] [oi (p1 &&& (2 : Int32))]) s₁ (entryFrame m #[(.int p1), (.int p2), (.int p3), (.int p4)] maxLocals) := fun t k => pre6 t (by
      refine XS.iloadN X0.here hx rfl (hb hby at_13) rfl ?_
      refine XS.iconst X0.here hx rfl (hb hby at_14) ?_
      refine XS.iand X0.here hx rfl (hb hby at_15) rfl ?_
      show oS p e below s₁ (mkF m 16 #[oI p1, oI p2, oI p3, oI p4, oI b1, oU, oU, oU, oU, oU, oU, oU, oU] [oi (p1 &&& (2 : Int32))]) _
      exact k)
    by_cases hc9 : (p1 &&& (2 : Int32)) = (0 : Int32)
    ·
      have pre10 : oL p e below s₁ (mkF m 24 #[oI p1, oI p2, oI p3, oI p4, oI b1, oU, oU, oU, oU, oU, oU, oU, oU] [oi 0]) s₁ (entryFrame m #[(.int p1), (.int p2), (.int p3), (.int p4)] maxLocals) := fun t k => pre8 t (by
        refine XS.ifYes X0.here hx rfl (pc0 := 16) (pc' := 23) rfl (hb hby at_16) rfl ((if0 _ _).trans (teq hc9).1) (by decide) (by decide) ?_
        refine XS.iconst X0.here hx rfl (hb hby at_23) ?_
        exact k)
      exact ⟨(0 : Int32), Or.inl rfl, pre10⟩
    ·
      have pre11 : oL p e below s₁ (mkF m 24 #[oI p1, oI p2, oI p3, oI p4, oI b1, oU, oU, oU, oU, oU, oU, oU, oU] [oi 1]) s₁ (entryFrame m #[(.int p1), (.int p2), (.int p3), (.int p4)] maxLocals) := fun t k => pre8 t (by
        refine XS.ifNo X0.here hx rfl (hb hby at_16) rfl ((if0 _ _).trans (feq hc9).1) ?_
        refine XS.iconst X0.here hx rfl (hb hby at_19) ?_
        refine XS.goto X0.here hx rfl (pc0 := 20) (pc' := 24) rfl (hb hby at_20) (by decide) (by decide) ?_
        exact k)
      exact ⟨(1 : Int32), Or.inr rfl, pre11⟩
  have hn7 : nar .boolean b7 = b7 := own_nb hj7
  have pre12 : oL p e below s₁ (mkF m 26 #[oI p1, oI p2, oI p3, oI p4, oI b1, oI b7, oU, oU, oU, oU, oU, oU, oU] []) s₁ (entryFrame m #[(.int p1), (.int p2), (.int p3), (.int p4)] maxLocals) := fun t k => pre7 t (by
    refine XS.istore X0.here hx rfl (hb hby at_24) rfl (l' := #[oI p1, oI p2, oI p3, oI p4, oI b1, oI b7, oU, oU, oU, oU, oU, oU, oU]) rfl ?_
    exact k)
  obtain ⟨b13, hj13, pre13⟩ : ∃ b13 : Int32, (b13 = 0 ∨ b13 = 1) ∧ oL p e below s₁ (mkF m 37 #[oI p1, oI p2, oI p3, oI p4, oI b1, oI b7, oU, oU, oU, oU, oU, oU, oU] [oi b13]) s₁ (entryFrame m #[(.int p1), (.int p2), (.int p3), (.int p4)] maxLocals) := by
    have pre14 : oL p e below s₁ (mkF m 29 #[oI p1, oI p2, oI p3, oI p4, oI b1, oI b7, oU, oU, oU, oU, oU, oU, oU] [oi (p1 &&& (4 : Int32))]) s₁ (entryFrame m #[(.int p1), (.int p2), (.int p3), (.int p4)] maxLocals) := fun t k => pre12 t (by
      refine XS.iloadN X0.here hx rfl (hb hby at_26) rfl ?_
      refine XS.iconst X0.here hx rfl (hb hby at_27) ?_
      show oS p e below s₁ (mkF m 28 #[oI p1, oI p2, oI p3, oI p4, oI b1, oI b7, oU, oU, oU, oU, oU, oU, oU] [oi 4, oi p1]) _
      refine XS.iand X0.here hx rfl (hb hby at_28) rfl ?_
      exact k)
    by_cases hc15 : (p1 &&& (4 : Int32)) = (0 : Int32)
    ·
      have pre16 : oL p e below s₁ (mkF m 37 #[oI p1, oI p2, oI p3, oI p4, oI b1, oI b7, oU, oU, oU, oU, oU, oU, oU] [oi 0]) s₁ (entryFrame m #[(.int p1), (.int p2), (.int p3), (.int p4)] maxLocals) := fun t k => pre14 t (by
        refine XS.ifYes X0.here hx rfl (pc0 := 29) (pc' := 36) rfl (hb hby at_29) rfl ((if0 _ _).trans (teq hc15).1) (by decide) (by decide) ?_
        refine XS.iconst X0.here hx rfl (hb hby at_36) ?_
        exact k)
      exact ⟨(0 : Int32), Or.inl rfl, pre16⟩
    ·
      have pre17 : oL p e below s₁ (mkF m 37 #[oI p1, oI p2, oI p3, oI p4, oI b1, oI b7, oU, oU, oU, oU, oU, oU, oU] [oi 1]) s₁ (entryFrame m #[(.int p1), (.int p2), (.int p3), (.int p4)] maxLocals) := fun t k => pre14 t (by
        refine XS.ifNo X0.here hx rfl (hb hby at_29) rfl ((if0 _ _).trans (feq hc15).1) ?_
        refine XS.iconst X0.here hx rfl (hb hby at_32) ?_
        refine XS.goto X0.here hx rfl (pc0 := 33) (pc' := 37) rfl (hb hby at_33) (by decide) (by decide) ?_
        show oS p e below s₁ (mkF m 37 #[oI p1, oI p2, oI p3, oI p4, oI b1, oI b7, oU, oU, oU, oU, oU, oU, oU] [oi 1]) _
        exact k)
      exact ⟨(1 : Int32), Or.inr rfl, pre17⟩
  have hn13 : nar .boolean b13 = b13 := own_nb hj13
  have pre18 : oL p e below s₁ (mkF m 40 #[oI p1, oI p2, oI p3, oI p4, oI b1, oI b7, oI b13, oU, oU, oU, oU, oU, oU] [oi 2]) s₁ (entryFrame m #[(.int p1), (.int p2), (.int p3), (.int p4)] maxLocals) := fun t k => pre13 t (by
    refine XS.istore X0.here hx rfl (hb hby at_37) rfl (l' := #[oI p1, oI p2, oI p3, oI p4, oI b1, oI b7, oI b13, oU, oU, oU, oU, oU, oU]) rfl ?_
    refine XS.iconst X0.here hx rfl (hb hby at_39) ?_
    show oS p e below s₁ (mkF m 40 #[oI p1, oI p2, oI p3, oI p4, oI b1, oI b7, oI b13, oU, oU, oU, oU, oU, oU] [oi 2]) _
    exact k)
  obtain ⟨T19, h19, k19, X19, e19, E19, A19, st19⟩ := newP X0 hx hZ (oW hw 0 rfl) e0 (g := (mkF m 40 #[oI p1, oI p2, oI p3, oI p4, oI b1, oI b7, oI b13, oU, oU, oU, oU, oU, oU] [oi 2])) rfl (hb hby at_40) rfl (by decide) (cap := 2) (by decide) (by decide) (by decide) (by decide)
  obtain ⟨b19, g19⟩ : ∃ z, z = h0.size := ⟨_, rfl⟩
  rw [← g19] at A19 st19
  have ge_b19 : n0 ≤ b19 := Nat.le_trans (OL.1 ▸ OL.2.1) (Nat.le_of_eq g19.symm)
  have sz_b19 : h0.size ≤ b19 := Nat.le_trans (Keep.refl h0 []).1 (Nat.le_of_eq g19.symm)
  have OL20 := OL.ext E19
  have K21 : Keep h0 h19 [] := (Keep.refl h0 []).ext E19
  have V19 : Arv Z h19 b19 k19 .char (2 : Int32) [(.int (0 : Int32)), (.int (0 : Int32))] (.int (0 : Int32)) := (Arv.new A19 (by decide)).pad (pad_rep [] (.int (0 : Int32)) 2)
  have pre22 : oL p e below T19 (mkF m 53 #[oI p1, oI p2, oI p3, oI p4, oI b1, oI b7, oI b13, oR b19, oU, oU, oU, oU, oU] [oi ((p2 &&& (255 : Int32)).toUInt32.toUInt16.toUInt32.toInt32), oi 0, ow b19]) s₁ (entryFrame m #[(.int p1), (.int p2), (.int p3), (.int p4)] maxLocals) := fun t k => pre18 t (by
    refine st19 _ ?_
    refine XS.astore X19.here hx rfl (hb hby at_42) rfl rfl (l' := #[oI p1, oI p2, oI p3, oI p4, oI b1, oI b7, oI b13, oR b19, oU, oU, oU, oU, oU]) rfl ?_
    refine XS.aload X19.here hx rfl (hb hby at_44) rfl rfl ?_
    refine XS.iconst X19.here hx rfl (hb hby at_46) ?_
    show oS p e below T19 (mkF m 47 #[oI p1, oI p2, oI p3, oI p4, oI b1, oI b7, oI b13, oR b19, oU, oU, oU, oU, oU] [oi 0, ow b19]) _
    refine XS.iloadN X19.here hx rfl (hb hby at_47) rfl ?_
    refine XS.sipush X19.here hx rfl (hb hby at_48) ?_
    refine XS.iand X19.here hx rfl (hb hby at_51) rfl ?_
    refine XS.i2c X19.here hx rfl (hb hby at_52) rfl ?_
    show oS p e below T19 (mkF m 53 #[oI p1, oI p2, oI p3, oI p4, oI b1, oI b7, oI b13, oR b19, oU, oU, oU, oU, oU] [oi ((p2 &&& (255 : Int32)).toUInt32.toUInt16.toUInt32.toInt32), oi 0, ow b19]) _
    exact k)
  obtain ⟨cl23, Ar23, qc23, Sz23, Nn23, Hs23, Gs23⟩ := id V19
  obtain ⟨T23, h23, X23, e23, W23, st23⟩ := stC X19 hx hZ e19 Ar23 (j := (0 : Int32)) (inb_of Sz23 ⟨by decide, by decide⟩) (g := (mkF m 53 #[oI p1, oI p2, oI p3, oI p4, oI b1, oI b7, oI b13, oR b19, oU, oU, oU, oU, oU] [oi ((p2 &&& (255 : Int32)).toUInt32.toUInt16.toUInt32.toInt32), oi 0, ow b19])) rfl rfl (hb hby at_53)
  have V23 : Arv Z h23 b19 k19 .char (2 : Int32) [(.int (nar .char ((p2 &&& (255 : Int32)).toUInt32.toUInt16.toUInt32.toInt32))), (.int (0 : Int32))] (.int (0 : Int32)) := Arv.set Ar23 qc23 Sz23 Nn23 Hs23 Gs23 (fits_nar_char _) W23 0 rfl (Nat.le_of_ble_eq_true rfl)
  have N23 := Fr.snoc X23 N0 ge_b19
  have OL24 := OL20.wr W23 ge_b19
  have K25 : Keep h0 h23 [] := K21.wr W23 (Or.inr sz_b19)
  have pre26 : oL p e below T23 (mkF m 63 #[oI p1, oI p2, oI p3, oI p4, oI b1, oI b7, oI b13, oR b19, oU, oU, oU, oU, oU] [oi ((p3 &&& (255 : Int32)).toUInt32.toUInt16.toUInt32.toInt32), oi 1, ow b19]) s₁ (entryFrame m #[(.int p1), (.int p2), (.int p3), (.int p4)] maxLocals) := fun t k => pre22 t (by
    refine st23 _ ?_
    refine XS.aload X23.here hx rfl (hb hby at_54) rfl rfl ?_
    refine XS.iconst X23.here hx rfl (hb hby at_56) ?_
    refine XS.iloadN X23.here hx rfl (hb hby at_57) rfl ?_
    show oS p e below T23 (mkF m 58 #[oI p1, oI p2, oI p3, oI p4, oI b1, oI b7, oI b13, oR b19, oU, oU, oU, oU, oU] [oi p3, oi 1, ow b19]) _
    refine XS.sipush X23.here hx rfl (hb hby at_58) ?_
    refine XS.iand X23.here hx rfl (hb hby at_61) rfl ?_
    refine XS.i2c X23.here hx rfl (hb hby at_62) rfl ?_
    exact k)
  obtain ⟨cl27, Ar27, qc27, Sz27, Nn27, Hs27, Gs27⟩ := id V23
  obtain ⟨T27, h27, X27, e27, W27, st27⟩ := stC X23 hx hZ e23 Ar27 (j := (1 : Int32)) (inb_of Sz27 ⟨by decide, by decide⟩) (g := (mkF m 63 #[oI p1, oI p2, oI p3, oI p4, oI b1, oI b7, oI b13, oR b19, oU, oU, oU, oU, oU] [oi ((p3 &&& (255 : Int32)).toUInt32.toUInt16.toUInt32.toInt32), oi 1, ow b19])) rfl rfl (hb hby at_63)
  have V27 : Arv Z h27 b19 k19 .char (2 : Int32) [(.int (nar .char ((p2 &&& (255 : Int32)).toUInt32.toUInt16.toUInt32.toInt32))), (.int (nar .char ((p3 &&& (255 : Int32)).toUInt32.toUInt16.toUInt32.toInt32)))] (.int (0 : Int32)) := Arv.set Ar27 qc27 Sz27 Nn27 Hs27 Gs27 (fits_nar_char _) W27 1 rfl (Nat.le_of_ble_eq_true rfl)
  have N27 := Fr.snoc X27 N23 ge_b19
  have OL28 := OL24.wr W27 ge_b19
  have K29 : Keep h0 h27 [] := K25.wr W27 (Or.inr sz_b19)
  have pre30 : oL p e below T27 (mkF m 64 #[oI p1, oI p2, oI p3, oI p4, oI b1, oI b7, oI b13, oR b19, oU, oU, oU, oU, oU] []) s₁ (entryFrame m #[(.int p1), (.int p2), (.int p3), (.int p4)] maxLocals) := fun t k => pre26 t (by
    refine st27 _ ?_
    show oS p e below T27 (mkF m 64 #[oI p1, oI p2, oI p3, oI p4, oI b1, oI b7, oI b13, oR b19, oU, oU, oU, oU, oU] []) _
    exact k)
  obtain ⟨T31, h31, X31, e31, E31, A31, D31, -, st31⟩ := newO X27 hx hZ hown (oW hw 1 rfl) (oW hw 2 rfl) (oW hw 3 rfl) e27 (g := (mkF m 64 #[oI p1, oI p2, oI p3, oI p4, oI b1, oI b7, oI b13, oR b19, oU, oU, oU, oU, oU] [])) rfl (hb hby at_64) (by decide) (by decide)
  obtain ⟨b31, g31⟩ : ∃ z, z = h27.size := ⟨_, rfl⟩
  rw [← g31] at A31 D31 st31
  have ne32 : b19 ≠ b31 := Nat.ne_of_lt (Nat.lt_of_lt_of_le V27.lt (Nat.le_of_eq g31.symm))
  have ge_b31 : n0 ≤ b31 := Nat.le_trans (OL28.1 ▸ OL28.2.1) (Nat.le_of_eq g31.symm)
  have sz_b31 : h0.size ≤ b31 := Nat.le_trans K29.1 (Nat.le_of_eq g31.symm)
  have f33 := V27.ext E31
  have OL34 := OL28.ext E31
  have K35 : Keep h0 h31 [] := K29.ext E31
  have f36 : Fld Z h31 b31 "java/lang/String" "coder" "B" (.int (0 : Int32)) := D31 (Or.inr (oW hw 27 rfl)) (ty := .byte) (by decide)
  have f37 : Fld Z h31 b31 "java/lang/String" "value" "[B" .null := D31 (Or.inr (oW hw 29 rfl)) (ty := (.array .byte)) (by decide)
  have hp38 : ∀ c ∈ ([(nar .char ((p2 &&& (255 : Int32)).toUInt32.toUInt16.toUInt32.toInt32)), (nar .char ((p3 &&& (255 : Int32)).toUInt32.toUInt16.toUInt32.toInt32))] : List Int32), ¬ c < 0 ∧ ¬ (255 : Int32) < c := by
    intro c hc
    simp only [List.mem_cons, List.not_mem_nil, or_false] at hc
    rcases hc with rfl | rfl
    · exact own_c255 _
    · exact own_c255 _
  have pre39 : oL p e below T31 (mkF m 70 #[oI p1, oI p2, oI p3, oI p4, oI b1, oI b7, oI b13, oR b19, oU, oU, oU, oU, oU] [ow b19, ow b31, ow b31]) s₁ (entryFrame m #[(.int p1), (.int p2), (.int p3), (.int p4)] maxLocals) := fun t k => pre30 t (by
    refine st31 _ ?_
    refine XS.dup X31.here hx rfl (hb hby at_67) rfl rfl ?_
    refine XS.aload X31.here hx rfl (hb hby at_68) rfl rfl ?_
    exact k)
  obtain ⟨_, _, ⟨T40, L40, k40, n40⟩, -, X40, ⟨Lc40, hQ40, l40, y40, z40⟩, st40⟩ := X31.specialBack hx (y := (⟨"java/lang/String", "<init>", "([C)V"⟩ : MethodName)) rfl hown (mvT hZ (oW hw 4 rfl)) (mvT hZ (oW hw 5 rfl)) (mvT hZ (oW hw 6 rfl)) (by decide) (StrChars.Road.backV (W := 1) hZ (fun d hd => hw d (own_hws d hd)) (kI := 4) (oW hw 2 rfl) (cs := ([(nar .char ((p2 &&& (255 : Int32)).toUInt32.toUInt16.toUInt32.toInt32)), (nar .char ((p3 &&& (255 : Int32)).toUInt32.toUInt16.toUInt32.toInt32))] : List Int32)) (bs := (([(nar .char ((p2 &&& (255 : Int32)).toUInt32.toUInt16.toUInt32.toInt32)), (nar .char ((p3 &&& (255 : Int32)).toUInt32.toUInt16.toUInt32.toInt32))] : List Int32)).map (fun c => c.toInt8.toInt32)) (n := 2) ge_b31 (OL34.1 ▸ OL34.2.1) A31 f37 f36 f33 (O2.ext OL34.2) P5 rfl rfl (by decide) (by decide) hp38 rfl (by decide) (by decide)) (g := (mkF m 70 #[oI p1, oI p2, oI p3, oI p4, oI b1, oI b7, oI b13, oR b19, oU, oU, oU, oU, oU] [ow b19, ow b31, ow b31])) rfl (by rw [hml]; rfl) (Steps.refl _) (a := b31) (argsL := [(.ref b19)]) (rest := [(.ref b31)]) (lenOf pd___C_V rfl) rfl (by show 2 * 0 + _ ≤ _; exact Nat.le_of_eq rfl) (hb hby at_70) (fun _ _ => ⟨rfl, e31, (by decide : 2 + 1 ≤ _), (by decide : 6 + 2 ≤ _)⟩)
  dsimp only [Pt.U, Pt.locs, Pt.cells, Pt.slots] at X40 l40 y40 z40 st40 hQ40
  subst l40 y40 z40
  obtain ⟨rfl, N40q, Kq40, Eq40, Fc40, tt40, kb40, gt40, sq40, nx40, Fv40, Va40⟩ := hQ40
  have N40 := Fr.app N27 N40q
  have ne41 : b19 ≠ tt40 := Nat.ne_of_lt (Nat.lt_of_lt_of_le f33.lt sq40)
  have ne42 : b31 ≠ tt40 := Nat.ne_of_lt (Nat.lt_of_lt_of_le A31.lt sq40)
  have ge_tt40 : n0 ≤ tt40 := Nat.le_trans (OL34.1 ▸ OL34.2.1) sq40
  have sz_tt40 : h0.size ≤ tt40 := Nat.le_trans K35.1 sq40
  have f43 := f33.keep Kq40 (ninS ne32 nin0)
  have f44 := A31.keep Kq40
  have OL45 := OL34.keep Kq40 (allS ge_b31 all0)
  have K46 : Keep h0 T40.heap [] := K35.trans Kq40 (allS (Or.inr sz_b31) all0)
  have Vb40 : Arv Z T40.heap tt40 kb40 .byte (2 : Int32) [(.int ((nar .char ((p2 &&& (255 : Int32)).toUInt32.toUInt16.toUInt32.toInt32)).toInt8.toInt32)), (.int ((nar .char ((p3 &&& (255 : Int32)).toUInt32.toUInt16.toUInt32.toInt32)).toInt8.toInt32))] (.int (0 : Int32)) := Va40
  have pre47 : oL p e below T40 (mkF m 77 #[oI p1, oI p2, oI p3, oI p4, oI b1, oI b7, oI b13, oR b19, oR b31, oU, oU, oU, oU] [oi b13]) s₁ (entryFrame m #[(.int p1), (.int p2), (.int p3), (.int p4)] maxLocals) := fun t k => pre39 t (by
    refine st40.trans ?_
    show oS p e below T40 (mkF m 73 #[oI p1, oI p2, oI p3, oI p4, oI b1, oI b7, oI b13, oR b19, oU, oU, oU, oU, oU] [ow b31]) _
    refine XS.astore X40.here hx rfl (hb hby at_73) rfl rfl (l' := #[oI p1, oI p2, oI p3, oI p4, oI b1, oI b7, oI b13, oR b19, oR b31, oU, oU, oU, oU]) rfl ?_
    refine XS.iload X40.here hx rfl (hb hby at_75) rfl ?_
    exact k)
  by_cases hc48 : b13 = (0 : Int32)
  ·
    have pre49 : oL p e below T40 (mkF m 97 #[oI p1, oI p2, oI p3, oI p4, oI b1, oI b7, oI b13, oR b19, oR b31, oU, oU, oU, oU] []) s₁ (entryFrame m #[(.int p1), (.int p2), (.int p3), (.int p4)] maxLocals) := fun t k => pre47 t (by
      refine XS.ifYes X40.here hx rfl (pc0 := 77) (pc' := 97) rfl (hb hby at_77) rfl ((if0 _ _).trans (teq hc48).1) (by decide) (by decide) ?_
      exact k)
    obtain ⟨_, _, ⟨T50, L50, k50, n50⟩, -, X50, ⟨Lc50, hQ50, l50, y50, z50⟩, st50⟩ := Jvm.LawKit.callS X40 hx (y := (⟨"java/util/Optional", "empty", "()Ljava/util/Optional;"⟩ : MethodName)) hown (mvT hZ (oW hw 30 rfl)) (mvT hZ (oW hw 31 rfl)) (mvT hZ (oW hw 32 rfl)) (mvT hZ (oW hw 33 rfl)) (by decide) (backOf (W := 0) (rm_emp l Z a0 hw [] wE T40.heap n0 OL45 sE) hZ (oW hw 33 rfl) (oW hw 32 rfl) (by decide) (by decide)) (g := (mkF m 97 #[oI p1, oI p2, oI p3, oI p4, oI b1, oI b7, oI b13, oR b19, oR b31, oU, oU, oU, oU] [])) rfl (by rw [hml]; rfl) (argsL := []) (rest := []) (lenOf pd___Ljava_util_Optional_ rfl) rfl (by show 2 * 0 + _ ≤ _; exact Nat.le_of_eq rfl) (hb hby at_97) (fun _ _ => ⟨rfl, rfl, (by decide : 3 + 0 ≤ _), (by decide : 8 + 0 ≤ _)⟩)
    dsimp only [Pt.U, Pt.locs, Pt.cells, Pt.slots] at X50 l50 y50 z50 st50 hQ50
    subst l50 y50 z50
    obtain ⟨rfl, N50q, e50⟩ := hQ50
    have N50 := Fr.app N40 N50q
    have pre51 : oL p e below T50 (mkF m 102 #[oI p1, oI p2, oI p3, oI p4, oI b1, oI b7, oI b13, oR b19, oR b31, oR wE, oU, oU, oU] []) s₁ (entryFrame m #[(.int p1), (.int p2), (.int p3), (.int p4)] maxLocals) := fun t k => pre49 t (by
      refine st50 _ ?_
      show oS p e below T50 (mkF m 100 #[oI p1, oI p2, oI p3, oI p4, oI b1, oI b7, oI b13, oR b19, oR b31, oU, oU, oU, oU] [ow wE]) _
      refine XS.astore X50.here hx rfl (hb hby at_100) rfl rfl (l' := #[oI p1, oI p2, oI p3, oI p4, oI b1, oI b7, oI b13, oR b19, oR b31, oR wE, oU, oU, oU]) rfl ?_
      exact k)
    obtain ⟨T52, h52, X52, e52, E52, A52, D52, -, st52⟩ := newO X50 hx hZ hown (oW hw 35 rfl) (oW hw 36 rfl) (oW hw 37 rfl) e50 (g := (mkF m 102 #[oI p1, oI p2, oI p3, oI p4, oI b1, oI b7, oI b13, oR b19, oR b31, oR wE, oU, oU, oU] [])) rfl (hb hby at_102) (by decide) (by decide)
    obtain ⟨b52, g52⟩ : ∃ z, z = T40.heap.size := ⟨_, rfl⟩
    rw [← g52] at A52 D52 st52
    have ne53 : b19 ≠ b52 := Nat.ne_of_lt (Nat.lt_of_lt_of_le f43.lt (Nat.le_of_eq g52.symm))
    have ne54 : b31 ≠ b52 := Nat.ne_of_lt (Nat.lt_of_lt_of_le f44.lt (Nat.le_of_eq g52.symm))
    have ne55 : tt40 ≠ b52 := Nat.ne_of_lt (Nat.lt_of_lt_of_le Vb40.lt (Nat.le_of_eq g52.symm))
    have ge_b52 : n0 ≤ b52 := Nat.le_trans (OL45.1 ▸ OL45.2.1) (Nat.le_of_eq g52.symm)
    have sz_b52 : h0.size ≤ b52 := Nat.le_trans K46.1 (Nat.le_of_eq g52.symm)
    have f56 := f43.ext E52
    have f57 := f44.ext E52
    have f58 := Fc40.ext E52
    have f59 := Fv40.ext E52
    have f60 := Vb40.ext E52
    have OL61 := OL45.ext E52
    have K62 : Keep h0 h52 [] := K46.ext E52
    have f63 : Fld Z h52 b52 "com/example/grantwright/grantwright/PathTable$Row" "path" "Ljava/lang/String;" .null := D52 (Or.inr (oW hw 48 rfl)) (ty := (.object "java/lang/String")) (by decide)
    have f64 : Fld Z h52 b52 "com/example/grantwright/grantwright/PathTable$Row" "noRead" "Z" (.int (0 : Int32)) := D52 (Or.inr (oW hw 50 rfl)) (ty := .boolean) (by decide)
    have f65 : Fld Z h52 b52 "com/example/grantwright/grantwright/PathTable$Row" "noWrite" "Z" (.int (0 : Int32)) := D52 (Or.inr (oW hw 52 rfl)) (ty := .boolean) (by decide)
    have f66 : Fld Z h52 b52 "com/example/grantwright/grantwright/PathTable$Row" "group" "Ljava/util/Optional;" .null := D52 (Or.inr (oW hw 54 rfl)) (ty := (.object "java/util/Optional")) (by decide)
    have pre67 : oL p e below T52 (mkF m 114 #[oI p1, oI p2, oI p3, oI p4, oI b1, oI b7, oI b13, oR b19, oR b31, oR wE, oU, oU, oU] [ow wE, oi b7, oi b1, ow b31, ow b52, ow b52]) s₁ (entryFrame m #[(.int p1), (.int p2), (.int p3), (.int p4)] maxLocals) := fun t k => pre51 t (by
      refine st52 _ ?_
      refine XS.dup X52.here hx rfl (hb hby at_105) rfl rfl ?_
      refine XS.aload X52.here hx rfl (hb hby at_106) rfl rfl ?_
      show oS p e below T52 (mkF m 108 #[oI p1, oI p2, oI p3, oI p4, oI b1, oI b7, oI b13, oR b19, oR b31, oR wE, oU, oU, oU] [ow b31, ow b52, ow b52]) _
      refine XS.iload X52.here hx rfl (hb hby at_108) rfl ?_
      refine XS.iload X52.here hx rfl (hb hby at_110) rfl ?_
      refine XS.aload X52.here hx rfl (hb hby at_112) rfl rfl ?_
      exact k)
    obtain ⟨_, _, ⟨T68, L68, k68, n68⟩, -, X68, ⟨Lc68, hQ68, l68, y68, z68⟩, st68⟩ := X52.specialBack hx (y := (⟨"com/example/grantwright/grantwright/PathTable$Row", "<init>", "(Ljava/lang/String;ZZLjava/util/Optional;)V"⟩ : MethodName)) rfl hown (mvT hZ (oW hw 38 rfl)) (mvT hZ (oW hw 39 rfl)) (mvT hZ (oW hw 40 rfl)) (by decide) (backOf (W := 1) (rm_row l Z a0 hw [] b52 b31 b1 b7 wE h52 n0 OL61 ge_b52 A52 f63 f64 f65 f66 hn1 hn7) hZ (oW hw 40 rfl) (oW hw 37 rfl) (by decide) (by decide)) (g := (mkF m 114 #[oI p1, oI p2, oI p3, oI p4, oI b1, oI b7, oI b13, oR b19, oR b31, oR wE, oU, oU, oU] [ow wE, oi b7, oi b1, ow b31, ow b52, ow b52])) rfl (by rw [hml]; rfl) (Steps.refl _) (a := b52) (argsL := [(.ref b31), (.int b1), (.int b7), (.ref wE)]) (rest := [(.ref b52)]) (lenOf pd__Ljava_lang_String_ZZLjava_util_Optional__V rfl) rfl (by show 2 * 0 + _ ≤ _; exact Nat.le_of_eq rfl) (hb hby at_114) (fun _ _ => ⟨rfl, e52, (by decide : 4 + 0 ≤ _), (by decide : 12 + 0 ≤ _)⟩)
    dsimp only [Pt.U, Pt.locs, Pt.cells, Pt.slots] at X68 l68 y68 z68 st68 hQ68
    subst l68 y68 z68
    obtain ⟨rfl, N68q, Kq68, Eq68, Fr68, Fw68⟩ := hQ68
    have N68 := Fr.app N50 N68q
    have f69 := f56.keep Kq68 (ninS ne53 nin0)
    have f70 := f57.keep Kq68
    have f71 := f58.keep Kq68 (ninS ne54 nin0)
    have f72 := f59.keep Kq68 (ninS ne54 nin0)
    have f73 := f60.keep Kq68 (ninS ne55 nin0)
    have f74 := A52.keep Kq68
    have OL75 := OL61.keep Kq68 (allS ge_b52 all0)
    have K76 : Keep h0 T68.heap [] := K62.trans Kq68 (allS (Or.inr sz_b52) all0)
    have pre77 : oL p e below T68 (mkF m 121 #[oI p1, oI p2, oI p3, oI p4, oI b1, oI b7, oI b13, oR b19, oR b31, oR wE, oR b52, oU, oU] [ow b52]) s₁ (entryFrame m #[(.int p1), (.int p2), (.int p3), (.int p4)] maxLocals) := fun t k => pre67 t (by
      refine st68.trans ?_
      show oS p e below T68 (mkF m 117 #[oI p1, oI p2, oI p3, oI p4, oI b1, oI b7, oI b13, oR b19, oR b31, oR wE, oU, oU, oU] [ow b52]) _
      refine XS.astore X68.here hx rfl (hb hby at_117) rfl rfl (l' := #[oI p1, oI p2, oI p3, oI p4, oI b1, oI b7, oI b13, oR b19, oR b31, oR wE, oR b52, oU, oU]) rfl ?_
      refine XS.aload X68.here hx rfl (hb hby at_119) rfl rfl ?_
      exact k)
    obtain ⟨T78, X78, e78, st78⟩ := getS2 X68 hx hZ hown (host := "") (Or.inl (oW hw 55 rfl)) Via.refl rfl (sR.ext OL75.2) (g := (mkF m 121 #[oI p1, oI p2, oI p3, oI p4, oI b1, oI b7, oI b13, oR b19, oR b31, oR wE, oR b52, oU, oU] [ow b52])) rfl (hb hby at_121)
    have pre79 : oL p e below T78 (mkF m 124 #[oI p1, oI p2, oI p3, oI p4, oI b1, oI b7, oI b13, oR b19, oR b31, oR wE, oR b52, oU, oU] [ow wR, ow b52]) s₁ (entryFrame m #[(.int p1), (.int p2), (.int p3), (.int p4)] maxLocals) := fun t k => pre77 t (by
      refine st78 _ ?_
      exact k)
    obtain ⟨cq80, kq80, q80a, q80b, q80c⟩ := isOf hZ e78 Eq68
    obtain ⟨_, _, ⟨T80, L80, k80, n80⟩, -, X80, ⟨Lc80, hQ80, l80, y80, z80⟩, st80⟩ := X78.virtualBack hx (y := (⟨"com/example/grantwright/grantwright/PathTable$Row", "denies", "(Lcom/example/grantwright/grantwright/PathActivity;)Z"⟩ : MethodName)) (z := (⟨"com/example/grantwright/grantwright/PathTable$Row", "denies", "(Lcom/example/grantwright/grantwright/PathActivity;)Z"⟩ : MethodName)) hown (mvT hZ (oW hw 58 rfl)) (mvT hZ (oW hw 59 rfl)) (notFace_of_selects (args := #[]) (mvT hZ (oW hw 61 rfl))) (mvT hZ (oW hw 61 rfl)) (mvT hZ (oW hw 60 rfl)) (by decide) (backOf (W := 0) (rm_den l Z a0 hw [] b52 wR b1 b7 wW (if b1 = 0 then (0 : Int32) else 1) T68.heap n0 OL75 Fr68 Fw68 sW (by simp [hne])) hZ (oW hw 62 rfl) (oW hw 37 rfl) (by decide) (by decide)) q80a q80c (g := (mkF m 124 #[oI p1, oI p2, oI p3, oI p4, oI b1, oI b7, oI b13, oR b19, oR b31, oR wE, oR b52, oU, oU] [ow wR, ow b52])) rfl (by rw [hml]; rfl) (Steps.refl _) (argsL := [(.ref wR)]) (rest := []) (lenOf pd__Lcom_example_grantwright_grantwright_PathActivity__Z rfl) rfl (by show 2 * 0 + _ ≤ _; exact Nat.le_of_eq rfl) (hb hby at_124) (fun _ _ => ⟨rfl, e78, (by decide : 4 + 0 ≤ _), (by decide : 12 + 0 ≤ _)⟩)
    dsimp only [Pt.U, Pt.locs, Pt.cells, Pt.slots] at X80 l80 y80 z80 st80 hQ80
    subst l80 y80 z80
    obtain ⟨rfl, N80q, e80⟩ := hQ80
    have N80 := Fr.app N68 N80q
    have pre81 : oL p e below T80 (mkF m 131 #[oI p1, oI p2, oI p3, oI p4, oI b1, oI b7, oI b13, oR b19, oR b31, oR wE, oR b52, oI (if b1 = 0 then (0 : Int32) else 1), oU] [ow b52]) s₁ (entryFrame m #[(.int p1), (.int p2), (.int p3), (.int p4)] maxLocals) := fun t k => pre79 t (by
      refine st80.trans ?_
      show oS p e below T80 (mkF m 127 #[oI p1, oI p2, oI p3, oI p4, oI b1, oI b7, oI b13, oR b19, oR b31, oR wE, oR b52, oU, oU] [oi (if b1 = 0 then (0 : Int32) else 1)]) _
      refine XS.istore X80.here hx rfl (hb hby at_127) rfl (l' := #[oI p1, oI p2, oI p3, oI p4, oI b1, oI b7, oI b13, oR b19, oR b31, oR wE, oR b52, oI (if b1 = 0 then (0 : Int32) else 1), oU]) rfl ?_
      refine XS.aload X80.here hx rfl (hb hby at_129) rfl rfl ?_
      exact k)
    obtain ⟨T82, X82, e82, st82⟩ := getS2 X80 hx hZ hown (host := "") (Or.inl (oW hw 65 rfl)) Via.refl e80 (sW.ext OL75.2) (g := (mkF m 131 #[oI p1, oI p2, oI p3, oI p4, oI b1, oI b7, oI b13, oR b19, oR b31, oR wE, oR b52, oI (if b1 = 0 then (0 : Int32) else 1), oU] [ow b52])) rfl (hb hby at_131)
    have pre83 : oL p e below T82 (mkF m 134 #[oI p1, oI p2, oI p3, oI p4, oI b1, oI b7, oI b13, oR b19, oR b31, oR wE, oR b52, oI (if b1 = 0 then (0 : Int32) else 1), oU] [ow wW, ow b52]) s₁ (entryFrame m #[(.int p1), (.int p2), (.int p3), (.int p4)] maxLocals) := fun t k => pre81 t (by
      refine st82 _ ?_
      exact k)
    obtain ⟨cq84, kq84, q84a, q84b, q84c⟩ := isOf hZ e82 Eq68
    obtain ⟨_, _, ⟨T84, L84, k84, n84⟩, -, X84, ⟨Lc84, hQ84, l84, y84, z84⟩, st84⟩ := X82.virtualBack hx (y := (⟨"com/example/grantwright/grantwright/PathTable$Row", "denies", "(Lcom/example/grantwright/grantwright/PathActivity;)Z"⟩ : MethodName)) (z := (⟨"com/example/grantwright/grantwright/PathTable$Row", "denies", "(Lcom/example/grantwright/grantwright/PathActivity;)Z"⟩ : MethodName)) hown (mvT hZ (oW hw 58 rfl)) (mvT hZ (oW hw 59 rfl)) (notFace_of_selects (args := #[]) (mvT hZ (oW hw 61 rfl))) (mvT hZ (oW hw 61 rfl)) (mvT hZ (oW hw 60 rfl)) (by decide) (backOf (W := 0) (rm_den l Z a0 hw [] b52 wW b1 b7 wW (if b1 = 0 then (if b7 = 0 then (0 : Int32) else 1) else 1) T68.heap n0 OL75 Fr68 Fw68 sW (by simp [hne])) hZ (oW hw 62 rfl) (oW hw 37 rfl) (by decide) (by decide)) q84a q84c (g := (mkF m 134 #[oI p1, oI p2, oI p3, oI p4, oI b1, oI b7, oI b13, oR b19, oR b31, oR wE, oR b52, oI (if b1 = 0 then (0 : Int32) else 1), oU] [ow wW, ow b52])) rfl (by rw [hml]; rfl) (Steps.refl _) (argsL := [(.ref wW)]) (rest := []) (lenOf pd__Lcom_example_grantwright_grantwright_PathActivity__Z rfl) rfl (by show 2 * 0 + _ ≤ _; exact Nat.le_of_eq rfl) (hb hby at_134) (fun _ _ => ⟨rfl, e82, (by decide : 4 + 0 ≤ _), (by decide : 12 + 0 ≤ _)⟩)
    dsimp only [Pt.U, Pt.locs, Pt.cells, Pt.slots] at X84 l84 y84 z84 st84 hQ84
    subst l84 y84 z84
    obtain ⟨rfl, N84q, e84⟩ := hQ84
    have N84 := Fr.app N80 N84q
    have pre85 : oL p e below T84 (mkF m 145 #[oI p1, oI p2, oI p3, oI p4, oI b1, oI b7, oI b13, oR b19, oR b31, oR wE, oR b52, oI (if b1 = 0 then (0 : Int32) else 1), oI (if b1 = 0 then (if b7 = 0 then (0 : Int32) else 1) else 1)] [oi b7, oi b1, oi (if b1 = 0 then (0 : Int32) else 1)]) s₁ (entryFrame m #[(.int p1), (.int p2), (.int p3), (.int p4)] maxLocals) := fun t k => pre83 t (by
      refine st84.trans ?_
      show oS p e below T84 (mkF m 137 #[oI p1, oI p2, oI p3, oI p4, oI b1, oI b7, oI b13, oR b19, oR b31, oR wE, oR b52, oI (if b1 = 0 then (0 : Int32) else 1), oU] [oi (if b1 = 0 then (if b7 = 0 then (0 : Int32) else 1) else 1)]) _
      refine XS.istore X84.here hx rfl (hb hby at_137) rfl (l' := #[oI p1, oI p2, oI p3, oI p4, oI b1, oI b7, oI b13, oR b19, oR b31, oR wE, oR b52, oI (if b1 = 0 then (0 : Int32) else 1), oI (if b1 = 0 then (if b7 = 0 then (0 : Int32) else 1) else 1)]) rfl ?_
      refine XS.iload X84.here hx rfl (hb hby at_139) rfl ?_
      refine XS.iload X84.here hx rfl (hb hby at_141) rfl ?_
      refine XS.iload X84.here hx rfl (hb hby at_143) rfl ?_
      show oS p e below T84 (mkF m 145 #[oI p1, oI p2, oI p3, oI p4, oI b1, oI b7, oI b13, oR b19, oR b31, oR wE, oR b52, oI (if b1 = 0 then (0 : Int32) else 1), oI (if b1 = 0 then (if b7 = 0 then (0 : Int32) else 1) else 1)] [oi b7, oi b1, oi (if b1 = 0 then (0 : Int32) else 1)]) _
      exact k)
    obtain ⟨_, _, ⟨T86, L86, k86, n86⟩, -, X86, ⟨Lc86, hQ86, l86, y86, z86⟩, st86⟩ := Jvm.LawKit.callS X84 hx (y := (⟨"com/example/grantwright/grantwright/RowDeniesPinLaw", "expectedRead", "(ZZ)Z"⟩ : MethodName)) hown (mvT hZ (oW hw 66 rfl)) (mvT hZ (oW hw 67 rfl)) (mvT hZ (oW hw 68 rfl)) (mvT hZ (oW hw 69 rfl)) (by decide) (backOf (W := 1) (rm_expectedRead l Z a0 hw [] b1 b7 (if b1 = 0 then (0 : Int32) else 1) T68.heap n0 OL75 rfl) hZ (oW hw 69 rfl) (oW hw 68 rfl) (by decide) (by decide)) (g := (mkF m 145 #[oI p1, oI p2, oI p3, oI p4, oI b1, oI b7, oI b13, oR b19, oR b31, oR wE, oR b52, oI (if b1 = 0 then (0 : Int32) else 1), oI (if b1 = 0 then (if b7 = 0 then (0 : Int32) else 1) else 1)] [oi b7, oi b1, oi (if b1 = 0 then (0 : Int32) else 1)])) rfl (by rw [hml]; rfl) (argsL := [(.int b1), (.int b7)]) (rest := [(.int (if b1 = 0 then (0 : Int32) else 1))]) (lenOf pd__ZZ_Z rfl) rfl (by show 2 * 0 + _ ≤ _; exact Nat.le_of_eq rfl) (hb hby at_145) (fun _ _ => ⟨rfl, e84, (by decide : 4 + 0 ≤ _), (by decide : 12 + 0 ≤ _)⟩)
    dsimp only [Pt.U, Pt.locs, Pt.cells, Pt.slots] at X86 l86 y86 z86 st86 hQ86
    subst l86 y86 z86
    obtain ⟨rfl, N86q, e86⟩ := hQ86
    have N86 := Fr.app N84 N86q
    have pre87 : oL p e below T86 (mkF m 157 #[oI p1, oI p2, oI p3, oI p4, oI b1, oI b7, oI b13, oR b19, oR b31, oR wE, oR b52, oI (if b1 = 0 then (0 : Int32) else 1), oI (if b1 = 0 then (if b7 = 0 then (0 : Int32) else 1) else 1)] [oi b7, oi b1, oi (if b1 = 0 then (if b7 = 0 then (0 : Int32) else 1) else 1)]) s₁ (entryFrame m #[(.int p1), (.int p2), (.int p3), (.int p4)] maxLocals) := fun t k => pre85 t (by
      refine st86 _ ?_
      refine XS.icmpNo X86.here hx rfl (hb hby at_148) rfl (teq (rfl : (if b1 = 0 then (0 : Int32) else 1) = (if b1 = 0 then (0 : Int32) else 1))).2 ?_
      refine XS.iload X86.here hx rfl (hb hby at_151) rfl ?_
      refine XS.iload X86.here hx rfl (hb hby at_153) rfl ?_
      show oS p e below T86 (mkF m 155 #[oI p1, oI p2, oI p3, oI p4, oI b1, oI b7, oI b13, oR b19, oR b31, oR wE, oR b52, oI (if b1 = 0 then (0 : Int32) else 1), oI (if b1 = 0 then (if b7 = 0 then (0 : Int32) else 1) else 1)] [oi b1, oi (if b1 = 0 then (if b7 = 0 then (0 : Int32) else 1) else 1)]) _
      refine XS.iload X86.here hx rfl (hb hby at_155) rfl ?_
      exact k)
    obtain ⟨_, _, ⟨T88, L88, k88, n88⟩, -, X88, ⟨Lc88, hQ88, l88, y88, z88⟩, st88⟩ := Jvm.LawKit.callS X86 hx (y := (⟨"com/example/grantwright/grantwright/RowDeniesPinLaw", "expectedWrite", "(ZZ)Z"⟩ : MethodName)) hown (mvT hZ (oW hw 70 rfl)) (mvT hZ (oW hw 71 rfl)) (mvT hZ (oW hw 68 rfl)) (mvT hZ (oW hw 72 rfl)) (by decide) (backOf (W := 1) (rm_expectedWrite l Z a0 hw [] b1 b7 (if b1 = 0 then (if b7 = 0 then (0 : Int32) else 1) else 1) T68.heap n0 OL75 rfl) hZ (oW hw 72 rfl) (oW hw 68 rfl) (by decide) (by decide)) (g := (mkF m 157 #[oI p1, oI p2, oI p3, oI p4, oI b1, oI b7, oI b13, oR b19, oR b31, oR wE, oR b52, oI (if b1 = 0 then (0 : Int32) else 1), oI (if b1 = 0 then (if b7 = 0 then (0 : Int32) else 1) else 1)] [oi b7, oi b1, oi (if b1 = 0 then (if b7 = 0 then (0 : Int32) else 1) else 1)])) rfl (by rw [hml]; rfl) (argsL := [(.int b1), (.int b7)]) (rest := [(.int (if b1 = 0 then (if b7 = 0 then (0 : Int32) else 1) else 1))]) (lenOf pd__ZZ_Z rfl) rfl (by show 2 * 0 + _ ≤ _; exact Nat.le_of_eq rfl) (hb hby at_157) (fun _ _ => ⟨rfl, e86, (by decide : 4 + 0 ≤ _), (by decide : 12 + 0 ≤ _)⟩)
    dsimp only [Pt.U, Pt.locs, Pt.cells, Pt.slots] at X88 l88 y88 z88 st88 hQ88
    subst l88 y88 z88
    obtain ⟨rfl, N88q, e88⟩ := hQ88
    have N88 := Fr.app N86 N88q
    have pre89 : oL p e below T88 (mkF m 168 #[oI p1, oI p2, oI p3, oI p4, oI b1, oI b7, oI b13, oR b19, oR b31, oR wE, oR b52, oI (if b1 = 0 then (0 : Int32) else 1), oI (if b1 = 0 then (if b7 = 0 then (0 : Int32) else 1) else 1)] [oi 1]) s₁ (entryFrame m #[(.int p1), (.int p2), (.int p3), (.int p4)] maxLocals) := fun t k => pre87 t (by
      refine st88 _ ?_
      refine XS.icmpNo X88.here hx rfl (hb hby at_160) rfl (teq (rfl : (if b1 = 0 then (if b7 = 0 then (0 : Int32) else 1) else 1) = (if b1 = 0 then (if b7 = 0 then (0 : Int32) else 1) else 1))).2 ?_
      refine XS.iconst X88.here hx rfl (hb hby at_163) ?_
      show oS p e below T88 (mkF m 164 #[oI p1, oI p2, oI p3, oI p4, oI b1, oI b7, oI b13, oR b19, oR b31, oR wE, oR b52, oI (if b1 = 0 then (0 : Int32) else 1), oI (if b1 = 0 then (if b7 = 0 then (0 : Int32) else 1) else 1)] [oi 1]) _
      refine XS.goto X88.here hx rfl (pc0 := 164) (pc' := 168) rfl (hb hby at_164) (by decide) (by decide) ?_
      exact k)
    obtain ⟨fs, hr, hrun, hended, hW, hsame⟩ := X88.leave (v := some (.int (1 : Int32))) (fun h => by rw [Bd.returns] at h; cases h)
    refine ⟨_, _, pre89 _ ?_, hrun, hended, _, _, rfl, ?_, ⟨_, rfl⟩, hW, hsame.mono (by decide) (by decide)⟩
    ·
      show oS p e below T88 (mkF m 168 #[oI p1, oI p2, oI p3, oI p4, oI b1, oI b7, oI b13, oR b19, oR b31, oR wE, oR b52, oI (if b1 = 0 then (0 : Int32) else 1), oI (if b1 = 0 then (if b7 = 0 then (0 : Int32) else 1) else 1)] [oi 1]) _
      exact retN X88 hx (t := .boolean) Bd.returns (by simp) (hb hby at_168) hr
    ·
      show Q_rm0 Z p1 p2 p3 p4 G1 wR wW wE h0 n0 _ T88.heap _
      rw [e88]
      exact ⟨rfl, N88⟩
  ·
    have pre90 : oL p e below T40 (mkF m 86 #[oI p1, oI p2, oI p3, oI p4, oI b1, oI b7, oI b13, oR b19, oR b31, oU, oU, oU, oU] [oi ((p4 &&& (255 : Int32)).toUInt32.toUInt16.toUInt32.toInt32)]) s₁ (entryFrame m #[(.int p1), (.int p2), (.int p3), (.int p4)] maxLocals) := fun t k => pre47 t (by
      refine XS.ifNo X40.here hx rfl (hb hby at_77) rfl ((if0 _ _).trans (feq hc48).1) ?_
      refine XS.iloadN X40.here hx rfl (hb hby at_80) rfl ?_
      show oS p e below T40 (mkF m 81 #[oI p1, oI p2, oI p3, oI p4, oI b1, oI b7, oI b13, oR b19, oR b31, oU, oU, oU, oU] [oi p4]) _
      refine XS.sipush X40.here hx rfl (hb hby at_81) ?_
      refine XS.iand X40.here hx rfl (hb hby at_84) rfl ?_
      refine XS.i2c X40.here hx rfl (hb hby at_85) rfl ?_
      exact k)
    obtain ⟨_, _, ⟨T91, L91, k91, n91⟩, -, X91, ⟨Lc91, hQ91, l91, y91, z91⟩, st91⟩ := Jvm.LawKit.callS X40 hx (y := (⟨"java/lang/String", "valueOf", "(C)Ljava/lang/String;"⟩ : MethodName)) hown (mvT hZ (oW hw 73 rfl)) (mvT hZ (oW hw 74 rfl)) (mvT hZ (oW hw 3 rfl)) (mvT hZ (oW hw 75 rfl)) (by decide) (backOf (W := 0) (rm_vof l Z a0 hw [] ((p4 &&& (255 : Int32)).toUInt32.toUInt16.toUInt32.toInt32) G1 T40.heap n0 OL45 O2 P5 (own_i255 _)) hZ (oW hw 75 rfl) (oW hw 3 rfl) (by decide) (by decide)) (g := (mkF m 86 #[oI p1, oI p2, oI p3, oI p4, oI b1, oI b7, oI b13, oR b19, oR b31, oU, oU, oU, oU] [oi ((p4 &&& (255 : Int32)).toUInt32.toUInt16.toUInt32.toInt32)])) rfl (by rw [hml]; rfl) (argsL := [(.int ((p4 &&& (255 : Int32)).toUInt32.toUInt16.toUInt32.toInt32))]) (rest := []) (lenOf pd__C_Ljava_lang_String_ rfl) rfl (by show 2 * 0 + _ ≤ _; exact Nat.le_of_eq rfl) (hb hby at_86) (fun _ _ => ⟨rfl, rfl, (by decide : 3 + 2 ≤ _), (by decide : 8 + 5 ≤ _)⟩)
    dsimp only [Pt.U, Pt.locs, Pt.cells, Pt.slots] at X91 l91 y91 z91 st91 hQ91
    subst l91 y91 z91
    obtain ⟨r91, rfl, N91q, Kq91, sq91, Eq91⟩ := hQ91
    have N91 := Fr.app N40 N91q
    have ne92 : b19 ≠ r91 := Nat.ne_of_lt (Nat.lt_of_lt_of_le f43.lt sq91)
    have ne93 : b31 ≠ r91 := Nat.ne_of_lt (Nat.lt_of_lt_of_le f44.lt sq91)
    have ne94 : tt40 ≠ r91 := Nat.ne_of_lt (Nat.lt_of_lt_of_le Vb40.lt sq91)
    have ge_r91 : n0 ≤ r91 := Nat.le_trans (OL45.1 ▸ OL45.2.1) sq91
    have sz_r91 : h0.size ≤ r91 := Nat.le_trans K46.1 sq91
    have f95 := f43.keep Kq91 nin0
    have f96 := f44.keep Kq91
    have f97 := Fc40.keep Kq91 nin0
    have f98 := Fv40.keep Kq91 nin0
    have f99 := Vb40.keep Kq91 nin0
    have OL100 := OL45.keep Kq91 all0
    have K101 : Keep h0 T91.heap [] := K46.trans Kq91 all0
    have pre102 : oL p e below T91 (mkF m 89 #[oI p1, oI p2, oI p3, oI p4, oI b1, oI b7, oI b13, oR b19, oR b31, oU, oU, oU, oU] [ow r91]) s₁ (entryFrame m #[(.int p1), (.int p2), (.int p3), (.int p4)] maxLocals) := fun t k => pre90 t (by
      refine st91 _ ?_
      show oS p e below T91 (mkF m 89 #[oI p1, oI p2, oI p3, oI p4, oI b1, oI b7, oI b13, oR b19, oR b31, oU, oU, oU, oU] [ow r91]) _
      exact k)
    obtain ⟨_, _, ⟨T103, L103, k103, n103⟩, -, X103, ⟨Lc103, hQ103, l103, y103, z103⟩, st103⟩ := Jvm.LawKit.callS X91 hx (y := (⟨"java/util/Optional", "of", "(Ljava/lang/Object;)Ljava/util/Optional;"⟩ : MethodName)) hown (mvT hZ (oW hw 87 rfl)) (mvT hZ (oW hw 88 rfl)) (mvT hZ (oW hw 32 rfl)) (mvT hZ (oW hw 89 rfl)) (by decide) (backOf (W := 0) (rm_opo l Z a0 hw [] r91 T91.heap n0 OL100 ) hZ (oW hw 89 rfl) (oW hw 32 rfl) (by decide) (by decide)) (g := (mkF m 89 #[oI p1, oI p2, oI p3, oI p4, oI b1, oI b7, oI b13, oR b19, oR b31, oU, oU, oU, oU] [ow r91])) rfl (by rw [hml]; rfl) (argsL := [(.ref r91)]) (rest := []) (lenOf pd__Ljava_lang_Object__Ljava_util_Optional_ rfl) rfl (by show 2 * 0 + _ ≤ _; exact Nat.le_of_eq rfl) (hb hby at_89) (fun _ _ => ⟨rfl, rfl, (by decide : 5 + 1 ≤ _), (by decide : 13 + 1 ≤ _)⟩)
    dsimp only [Pt.U, Pt.locs, Pt.cells, Pt.slots] at X103 l103 y103 z103 st103 hQ103
    subst l103 y103 z103
    obtain ⟨r103, rfl, N103q, Kq103, sq103, Eq103⟩ := hQ103
    have N103 := Fr.app N91 N103q
    have ne104 : b19 ≠ r103 := Nat.ne_of_lt (Nat.lt_of_lt_of_le f95.lt sq103)
    have ne105 : b31 ≠ r103 := Nat.ne_of_lt (Nat.lt_of_lt_of_le f96.lt sq103)
    have ne106 : r91 ≠ r103 := Nat.ne_of_lt (Nat.lt_of_lt_of_le Eq91.lt sq103)
    have ne107 : tt40 ≠ r103 := Nat.ne_of_lt (Nat.lt_of_lt_of_le f99.lt sq103)
    have ge_r103 : n0 ≤ r103 := Nat.le_trans (OL100.1 ▸ OL100.2.1) sq103
    have sz_r103 : h0.size ≤ r103 := Nat.le_trans K101.1 sq103
    have f108 := f95.keep Kq103 nin0
    have f109 := f96.keep Kq103
    have f110 := f97.keep Kq103 nin0
    have f111 := f98.keep Kq103 nin0
    have f112 := f99.keep Kq103 nin0
    have f113 := Eq91.keep Kq103
    have OL114 := OL100.keep Kq103 all0
    have K115 : Keep h0 T103.heap [] := K101.trans Kq103 all0
    have pre116 : oL p e below T103 (mkF m 102 #[oI p1, oI p2, oI p3, oI p4, oI b1, oI b7, oI b13, oR b19, oR b31, oR r103, oU, oU, oU] []) s₁ (entryFrame m #[(.int p1), (.int p2), (.int p3), (.int p4)] maxLocals) := fun t k => pre102 t (by
      refine st103 _ ?_
      refine XS.astore X103.here hx rfl (hb hby at_92) rfl rfl (l' := #[oI p1, oI p2, oI p3, oI p4, oI b1, oI b7, oI b13, oR b19, oR b31, oR r103, oU, oU, oU]) rfl ?_
      refine XS.goto X103.here hx rfl (pc0 := 94) (pc' := 102) rfl (hb hby at_94) (by decide) (by decide) ?_
      exact k)
    obtain ⟨T117, h117, X117, e117, E117, A117, D117, -, st117⟩ := newO X103 hx hZ hown (oW hw 35 rfl) (oW hw 36 rfl) (oW hw 37 rfl) rfl (g := (mkF m 102 #[oI p1, oI p2, oI p3, oI p4, oI b1, oI b7, oI b13, oR b19, oR b31, oR r103, oU, oU, oU] [])) rfl (hb hby at_102) (by decide) (by decide)
    obtain ⟨b117, g117⟩ : ∃ z, z = T103.heap.size := ⟨_, rfl⟩
    rw [← g117] at A117 D117 st117
    have ne118 : b19 ≠ b117 := Nat.ne_of_lt (Nat.lt_of_lt_of_le f108.lt (Nat.le_of_eq g117.symm))
    have ne119 : b31 ≠ b117 := Nat.ne_of_lt (Nat.lt_of_lt_of_le f109.lt (Nat.le_of_eq g117.symm))
    have ne120 : r103 ≠ b117 := Nat.ne_of_lt (Nat.lt_of_lt_of_le Eq103.lt (Nat.le_of_eq g117.symm))
    have ne121 : r91 ≠ b117 := Nat.ne_of_lt (Nat.lt_of_lt_of_le f113.lt (Nat.le_of_eq g117.symm))
    have ne122 : tt40 ≠ b117 := Nat.ne_of_lt (Nat.lt_of_lt_of_le f112.lt (Nat.le_of_eq g117.symm))
    have ge_b117 : n0 ≤ b117 := Nat.le_trans (OL114.1 ▸ OL114.2.1) (Nat.le_of_eq g117.symm)
    have sz_b117 : h0.size ≤ b117 := Nat.le_trans K115.1 (Nat.le_of_eq g117.symm)
    have f123 := f108.ext E117
    have f124 := f109.ext E117
    have f125 := f110.ext E117
    have f126 := f111.ext E117
    have f127 := f112.ext E117
    have f128 := f113.ext E117
    have f129 := Eq103.ext E117
    have OL130 := OL114.ext E117
    have K131 : Keep h0 h117 [] := K115.ext E117
    have f132 : Fld Z h117 b117 "com/example/grantwright/grantwright/PathTable$Row" "path" "Ljava/lang/String;" .null := D117 (Or.inr (oW hw 48 rfl)) (ty := (.object "java/lang/String")) (by decide)
    have f133 : Fld Z h117 b117 "com/example/grantwright/grantwright/PathTable$Row" "noRead" "Z" (.int (0 : Int32)) := D117 (Or.inr (oW hw 50 rfl)) (ty := .boolean) (by decide)
    have f134 : Fld Z h117 b117 "com/example/grantwright/grantwright/PathTable$Row" "noWrite" "Z" (.int (0 : Int32)) := D117 (Or.inr (oW hw 52 rfl)) (ty := .boolean) (by decide)
    have f135 : Fld Z h117 b117 "com/example/grantwright/grantwright/PathTable$Row" "group" "Ljava/util/Optional;" .null := D117 (Or.inr (oW hw 54 rfl)) (ty := (.object "java/util/Optional")) (by decide)
    have pre136 : oL p e below T117 (mkF m 114 #[oI p1, oI p2, oI p3, oI p4, oI b1, oI b7, oI b13, oR b19, oR b31, oR r103, oU, oU, oU] [ow r103, oi b7, oi b1, ow b31, ow b117, ow b117]) s₁ (entryFrame m #[(.int p1), (.int p2), (.int p3), (.int p4)] maxLocals) := fun t k => pre116 t (by
      refine st117 _ ?_
      show oS p e below T117 (mkF m 105 #[oI p1, oI p2, oI p3, oI p4, oI b1, oI b7, oI b13, oR b19, oR b31, oR r103, oU, oU, oU] [ow b117]) _
      refine XS.dup X117.here hx rfl (hb hby at_105) rfl rfl ?_
      refine XS.aload X117.here hx rfl (hb hby at_106) rfl rfl ?_
      refine XS.iload X117.here hx rfl (hb hby at_108) rfl ?_
      refine XS.iload X117.here hx rfl (hb hby at_110) rfl ?_
      show oS p e below T117 (mkF m 112 #[oI p1, oI p2, oI p3, oI p4, oI b1, oI b7, oI b13, oR b19, oR b31, oR r103, oU, oU, oU] [oi b7, oi b1, ow b31, ow b117, ow b117]) _
      refine XS.aload X117.here hx rfl (hb hby at_112) rfl rfl ?_
      exact k)
    obtain ⟨_, _, ⟨T137, L137, k137, n137⟩, -, X137, ⟨Lc137, hQ137, l137, y137, z137⟩, st137⟩ := X117.specialBack hx (y := (⟨"com/example/grantwright/grantwright/PathTable$Row", "<init>", "(Ljava/lang/String;ZZLjava/util/Optional;)V"⟩ : MethodName)) rfl hown (mvT hZ (oW hw 38 rfl)) (mvT hZ (oW hw 39 rfl)) (mvT hZ (oW hw 40 rfl)) (by decide) (backOf (W := 1) (rm_row l Z a0 hw [] b117 b31 b1 b7 r103 h117 n0 OL130 ge_b117 A117 f132 f133 f134 f135 hn1 hn7) hZ (oW hw 40 rfl) (oW hw 37 rfl) (by decide) (by decide)) (g := (mkF m 114 #[oI p1, oI p2, oI p3, oI p4, oI b1, oI b7, oI b13, oR b19, oR b31, oR r103, oU, oU, oU] [ow r103, oi b7, oi b1, ow b31, ow b117, ow b117])) rfl (by rw [hml]; rfl) (Steps.refl _) (a := b117) (argsL := [(.ref b31), (.int b1), (.int b7), (.ref r103)]) (rest := [(.ref b117)]) (lenOf pd__Ljava_lang_String_ZZLjava_util_Optional__V rfl) rfl (by show 2 * 0 + _ ≤ _; exact Nat.le_of_eq rfl) (hb hby at_114) (fun _ _ => ⟨rfl, e117, (by decide : 7 + 0 ≤ _), (by decide : 18 + 0 ≤ _)⟩)
    dsimp only [Pt.U, Pt.locs, Pt.cells, Pt.slots] at X137 l137 y137 z137 st137 hQ137
    subst l137 y137 z137
    obtain ⟨rfl, N137q, Kq137, Eq137, Fr137, Fw137⟩ := hQ137
    have N137 := Fr.app N103 N137q
    have f138 := f123.keep Kq137 (ninS ne118 nin0)
    have f139 := f124.keep Kq137
    have f140 := f125.keep Kq137 (ninS ne119 nin0)
    have f141 := f126.keep Kq137 (ninS ne119 nin0)
    have f142 := f127.keep Kq137 (ninS ne122 nin0)
    have f143 := f128.keep Kq137
    have f144 := f129.keep Kq137
    have f145 := A117.keep Kq137
    have OL146 := OL130.keep Kq137 (allS ge_b117 all0)
    have K147 : Keep h0 T137.heap [] := K131.trans Kq137 (allS (Or.inr sz_b117) all0)
    have pre148 : oL p e below T137 (mkF m 121 #[oI p1, oI p2, oI p3, oI p4, oI b1, oI b7, oI b13, oR b19, oR b31, oR r103, oR b117, oU, oU] [ow b117]) s₁ (entryFrame m #[(.int p1), (.int p2), (.int p3), (.int p4)] maxLocals) := fun t k => pre136 t (by
      refine st137.trans ?_
      refine XS.astore X137.here hx rfl (hb hby at_117) rfl rfl (l' := #[oI p1, oI p2, oI p3, oI p4, oI b1, oI b7, oI b13, oR b19, oR b31, oR r103, oR b117, oU, oU]) rfl ?_
      refine XS.aload X137.here hx rfl (hb hby at_119) rfl rfl ?_
      show oS p e below T137 (mkF m 121 #[oI p1, oI p2, oI p3, oI p4, oI b1, oI b7, oI b13, oR b19, oR b31, oR r103, oR b117, oU, oU] [ow b117]) _
      exact k)
    obtain ⟨T149, X149, e149, st149⟩ := getS2 X137 hx hZ hown (host := "") (Or.inl (oW hw 55 rfl)) Via.refl rfl (sR.ext OL146.2) (g := (mkF m 121 #[oI p1, oI p2, oI p3, oI p4, oI b1, oI b7, oI b13, oR b19, oR b31, oR r103, oR b117, oU, oU] [ow b117])) rfl (hb hby at_121)
    have pre150 : oL p e below T149 (mkF m 124 #[oI p1, oI p2, oI p3, oI p4, oI b1, oI b7, oI b13, oR b19, oR b31, oR r103, oR b117, oU, oU] [ow wR, ow b117]) s₁ (entryFrame m #[(.int p1), (.int p2), (.int p3), (.int p4)] maxLocals) := fun t k => pre148 t (by
      refine st149 _ ?_
      exact k)
    obtain ⟨cq151, kq151, q151a, q151b, q151c⟩ := isOf hZ e149 Eq137
    obtain ⟨_, _, ⟨T151, L151, k151, n151⟩, -, X151, ⟨Lc151, hQ151, l151, y151, z151⟩, st151⟩ := X149.virtualBack hx (y := (⟨"com/example/grantwright/grantwright/PathTable$Row", "denies", "(Lcom/example/grantwright/grantwright/PathActivity;)Z"⟩ : MethodName)) (z := (⟨"com/example/grantwright/grantwright/PathTable$Row", "denies", "(Lcom/example/grantwright/grantwright/PathActivity;)Z"⟩ : MethodName)) hown (mvT hZ (oW hw 58 rfl)) (mvT hZ (oW hw 59 rfl)) (notFace_of_selects (args := #[]) (mvT hZ (oW hw 61 rfl))) (mvT hZ (oW hw 61 rfl)) (mvT hZ (oW hw 60 rfl)) (by decide) (backOf (W := 0) (rm_den l Z a0 hw [] b117 wR b1 b7 wW (if b1 = 0 then (0 : Int32) else 1) T137.heap n0 OL146 Fr137 Fw137 sW (by simp [hne])) hZ (oW hw 62 rfl) (oW hw 37 rfl) (by decide) (by decide)) q151a q151c (g := (mkF m 124 #[oI p1, oI p2, oI p3, oI p4, oI b1, oI b7, oI b13, oR b19, oR b31, oR r103, oR b117, oU, oU] [ow wR, ow b117])) rfl (by rw [hml]; rfl) (Steps.refl _) (argsL := [(.ref wR)]) (rest := []) (lenOf pd__Lcom_example_grantwright_grantwright_PathActivity__Z rfl) rfl (by show 2 * 0 + _ ≤ _; exact Nat.le_of_eq rfl) (hb hby at_124) (fun _ _ => ⟨rfl, e149, (by decide : 7 + 0 ≤ _), (by decide : 18 + 0 ≤ _)⟩)
    dsimp only [Pt.U, Pt.locs, Pt.cells, Pt.slots] at X151 l151 y151 z151 st151 hQ151
    subst l151 y151 z151
    obtain ⟨rfl, N151q, e151⟩ := hQ151
    have N151 := Fr.app N137 N151q
    have pre152 : oL p e below T151 (mkF m 131 #[oI p1, oI p2, oI p3, oI p4, oI b1, oI b7, oI b13, oR b19, oR b31, oR r103, oR b117, oI (if b1 = 0 then (0 : Int32) else 1), oU] [ow b117]) s₁ (entryFrame m #[(.int p1), (.int p2), (.int p3), (.int p4)] maxLocals) := fun t k => pre150 t (by
      refine st151.trans ?_
      refine XS.istore X151.here hx rfl (hb hby at_127) rfl (l' := #[oI p1, oI p2, oI p3, oI p4, oI b1, oI b7, oI b13, oR b19, oR b31, oR r103, oR b117, oI (if b1 = 0 then (0 : Int32) else 1), oU]) rfl ?_
      refine XS.aload X151.here hx rfl (hb hby at_129) rfl rfl ?_
      show oS p e below T151 (mkF m 131 #[oI p1, oI p2, oI p3, oI p4, oI b1, oI b7, oI b13, oR b19, oR b31, oR r103, oR b117, oI (if b1 = 0 then (0 : Int32) else 1), oU] [ow b117]) _
      exact k)
    obtain ⟨T153, X153, e153, st153⟩ := getS2 X151 hx hZ hown (host := "") (Or.inl (oW hw 65 rfl)) Via.refl e151 (sW.ext OL146.2) (g := (mkF m 131 #[oI p1, oI p2, oI p3, oI p4, oI b1, oI b7, oI b13, oR b19, oR b31, oR r103, oR b117, oI (if b1 = 0 then (0 : Int32) else 1), oU] [ow b117])) rfl (hb hby at_131)
    have pre154 : oL p e below T153 (mkF m 134 #[oI p1, oI p2, oI p3, oI p4, oI b1, oI b7, oI b13, oR b19, oR b31, oR r103, oR b117, oI (if b1 = 0 then (0 : Int32) else 1), oU] [ow wW, ow b117]) s₁ (entryFrame m #[(.int p1), (.int p2), (.int p3), (.int p4)] maxLocals) := fun t k => pre152 t (by
      refine st153 _ ?_
      exact k)
    obtain ⟨cq155, kq155, q155a, q155b, q155c⟩ := isOf hZ e153 Eq137
    obtain ⟨_, _, ⟨T155, L155, k155, n155⟩, -, X155, ⟨Lc155, hQ155, l155, y155, z155⟩, st155⟩ := X153.virtualBack hx (y := (⟨"com/example/grantwright/grantwright/PathTable$Row", "denies", "(Lcom/example/grantwright/grantwright/PathActivity;)Z"⟩ : MethodName)) (z := (⟨"com/example/grantwright/grantwright/PathTable$Row", "denies", "(Lcom/example/grantwright/grantwright/PathActivity;)Z"⟩ : MethodName)) hown (mvT hZ (oW hw 58 rfl)) (mvT hZ (oW hw 59 rfl)) (notFace_of_selects (args := #[]) (mvT hZ (oW hw 61 rfl))) (mvT hZ (oW hw 61 rfl)) (mvT hZ (oW hw 60 rfl)) (by decide) (backOf (W := 0) (rm_den l Z a0 hw [] b117 wW b1 b7 wW (if b1 = 0 then (if b7 = 0 then (0 : Int32) else 1) else 1) T137.heap n0 OL146 Fr137 Fw137 sW (by simp [hne])) hZ (oW hw 62 rfl) (oW hw 37 rfl) (by decide) (by decide)) q155a q155c (g := (mkF m 134 #[oI p1, oI p2, oI p3, oI p4, oI b1, oI b7, oI b13, oR b19, oR b31, oR r103, oR b117, oI (if b1 = 0 then (0 : Int32) else 1), oU] [ow wW, ow b117])) rfl (by rw [hml]; rfl) (Steps.refl _) (argsL := [(.ref wW)]) (rest := []) (lenOf pd__Lcom_example_grantwright_grantwright_PathActivity__Z rfl) rfl (by show 2 * 0 + _ ≤ _; exact Nat.le_of_eq rfl) (hb hby at_134) (fun _ _ => ⟨rfl, e153, (by decide : 7 + 0 ≤ _), (by decide : 18 + 0 ≤ _)⟩)
    dsimp only [Pt.U, Pt.locs, Pt.cells, Pt.slots] at X155 l155 y155 z155 st155 hQ155
    subst l155 y155 z155
    obtain ⟨rfl, N155q, e155⟩ := hQ155
    have N155 := Fr.app N151 N155q
    have pre156 : oL p e below T155 (mkF m 145 #[oI p1, oI p2, oI p3, oI p4, oI b1, oI b7, oI b13, oR b19, oR b31, oR r103, oR b117, oI (if b1 = 0 then (0 : Int32) else 1), oI (if b1 = 0 then (if b7 = 0 then (0 : Int32) else 1) else 1)] [oi b7, oi b1, oi (if b1 = 0 then (0 : Int32) else 1)]) s₁ (entryFrame m #[(.int p1), (.int p2), (.int p3), (.int p4)] maxLocals) := fun t k => pre154 t (by
      refine st155.trans ?_
      refine XS.istore X155.here hx rfl (hb hby at_137) rfl (l' := #[oI p1, oI p2, oI p3, oI p4, oI b1, oI b7, oI b13, oR b19, oR b31, oR r103, oR b117, oI (if b1 = 0 then (0 : Int32) else 1), oI (if b1 = 0 then (if b7 = 0 then (0 : Int32) else 1) else 1)]) rfl ?_
      refine XS.iload X155.here hx rfl (hb hby at_139) rfl ?_
      show oS p e below T155 (mkF m 141 #[oI p1, oI p2, oI p3, oI p4, oI b1, oI b7, oI b13, oR b19, oR b31, oR r103, oR b117, oI (if b1 = 0 then (0 : Int32) else 1), oI (if b1 = 0 then (if b7 = 0 then (0 : Int32) else 1) else 1)] [oi (if b1 = 0 then (0 : Int32) else 1)]) _
      refine XS.iload X155.here hx rfl (hb hby at_141) rfl ?_
      refine XS.iload X155.here hx rfl (hb hby at_143) rfl ?_
      exact k)
    obtain ⟨_, _, ⟨T157, L157, k157, n157⟩, -, X157, ⟨Lc157, hQ157, l157, y157, z157⟩, st157⟩ := Jvm.LawKit.callS X155 hx (y := (⟨"com/example/grantwright/grantwright/RowDeniesPinLaw", "expectedRead", "(ZZ)Z"⟩ : MethodName)) hown (mvT hZ (oW hw 66 rfl)) (mvT hZ (oW hw 67 rfl)) (mvT hZ (oW hw 68 rfl)) (mvT hZ (oW hw 69 rfl)) (by decide) (backOf (W := 1) (rm_expectedRead l Z a0 hw [] b1 b7 (if b1 = 0 then (0 : Int32) else 1) T137.heap n0 OL146 rfl) hZ (oW hw 69 rfl) (oW hw 68 rfl) (by decide) (by decide)) (g := (mkF m 145 #[oI p1, oI p2, oI p3, oI p4, oI b1, oI b7, oI b13, oR b19, oR b31, oR r103, oR b117, oI (if b1 = 0 then (0 : Int32) else 1), oI (if b1 = 0 then (if b7 = 0 then (0 : Int32) else 1) else 1)] [oi b7, oi b1, oi (if b1 = 0 then (0 : Int32) else 1)])) rfl (by rw [hml]; rfl) (argsL := [(.int b1), (.int b7)]) (rest := [(.int (if b1 = 0 then (0 : Int32) else 1))]) (lenOf pd__ZZ_Z rfl) rfl (by show 2 * 0 + _ ≤ _; exact Nat.le_of_eq rfl) (hb hby at_145) (fun _ _ => ⟨rfl, e155, (by decide : 7 + 0 ≤ _), (by decide : 18 + 0 ≤ _)⟩)
    dsimp only [Pt.U, Pt.locs, Pt.cells, Pt.slots] at X157 l157 y157 z157 st157 hQ157
    subst l157 y157 z157
    obtain ⟨rfl, N157q, e157⟩ := hQ157
    have N157 := Fr.app N155 N157q
    have pre158 : oL p e below T157 (mkF m 157 #[oI p1, oI p2, oI p3, oI p4, oI b1, oI b7, oI b13, oR b19, oR b31, oR r103, oR b117, oI (if b1 = 0 then (0 : Int32) else 1), oI (if b1 = 0 then (if b7 = 0 then (0 : Int32) else 1) else 1)] [oi b7, oi b1, oi (if b1 = 0 then (if b7 = 0 then (0 : Int32) else 1) else 1)]) s₁ (entryFrame m #[(.int p1), (.int p2), (.int p3), (.int p4)] maxLocals) := fun t k => pre156 t (by
      refine st157 _ ?_
      refine XS.icmpNo X157.here hx rfl (hb hby at_148) rfl (teq (rfl : (if b1 = 0 then (0 : Int32) else 1) = (if b1 = 0 then (0 : Int32) else 1))).2 ?_
      show oS p e below T157 (mkF m 151 #[oI p1, oI p2, oI p3, oI p4, oI b1, oI b7, oI b13, oR b19, oR b31, oR r103, oR b117, oI (if b1 = 0 then (0 : Int32) else 1), oI (if b1 = 0 then (if b7 = 0 then (0 : Int32) else 1) else 1)] []) _
      refine XS.iload X157.here hx rfl (hb hby at_151) rfl ?_
      refine XS.iload X157.here hx rfl (hb hby at_153) rfl ?_
      refine XS.iload X157.here hx rfl (hb hby at_155) rfl ?_
      exact k)
    obtain ⟨_, _, ⟨T159, L159, k159, n159⟩, -, X159, ⟨Lc159, hQ159, l159, y159, z159⟩, st159⟩ := Jvm.LawKit.callS X157 hx (y := (⟨"com/example/grantwright/grantwright/RowDeniesPinLaw", "expectedWrite", "(ZZ)Z"⟩ : MethodName)) hown (mvT hZ (oW hw 70 rfl)) (mvT hZ (oW hw 71 rfl)) (mvT hZ (oW hw 68 rfl)) (mvT hZ (oW hw 72 rfl)) (by decide) (backOf (W := 1) (rm_expectedWrite l Z a0 hw [] b1 b7 (if b1 = 0 then (if b7 = 0 then (0 : Int32) else 1) else 1) T137.heap n0 OL146 rfl) hZ (oW hw 72 rfl) (oW hw 68 rfl) (by decide) (by decide)) (g := (mkF m 157 #[oI p1, oI p2, oI p3, oI p4, oI b1, oI b7, oI b13, oR b19, oR b31, oR r103, oR b117, oI (if b1 = 0 then (0 : Int32) else 1), oI (if b1 = 0 then (if b7 = 0 then (0 : Int32) else 1) else 1)] [oi b7, oi b1, oi (if b1 = 0 then (if b7 = 0 then (0 : Int32) else 1) else 1)])) rfl (by rw [hml]; rfl) (argsL := [(.int b1), (.int b7)]) (rest := [(.int (if b1 = 0 then (if b7 = 0 then (0 : Int32) else 1) else 1))]) (lenOf pd__ZZ_Z rfl) rfl (by show 2 * 0 + _ ≤ _; exact Nat.le_of_eq rfl) (hb hby at_157) (fun _ _ => ⟨rfl, e157, (by decide : 7 + 0 ≤ _), (by decide : 18 + 0 ≤ _)⟩)
    dsimp only [Pt.U, Pt.locs, Pt.cells, Pt.slots] at X159 l159 y159 z159 st159 hQ159
    subst l159 y159 z159
    obtain ⟨rfl, N159q, e159⟩ := hQ159
    have N159 := Fr.app N157 N159q
    have pre160 : oL p e below T159 (mkF m 168 #[oI p1, oI p2, oI p3, oI p4, oI b1, oI b7, oI b13, oR b19, oR b31, oR r103, oR b117, oI (if b1 = 0 then (0 : Int32) else 1), oI (if b1 = 0 then (if b7 = 0 then (0 : Int32) else 1) else 1)] [oi 1]) s₁ (entryFrame m #[(.int p1), (.int p2), (.int p3), (.int p4)] maxLocals) := fun t k => pre158 t (by
      refine st159 _ ?_
      show oS p e below T159 (mkF m 160 #[oI p1, oI p2, oI p3, oI p4, oI b1, oI b7, oI b13, oR b19, oR b31, oR r103, oR b117, oI (if b1 = 0 then (0 : Int32) else 1), oI (if b1 = 0 then (if b7 = 0 then (0 : Int32) else 1) else 1)] [oi (if b1 = 0 then (if b7 = 0 then (0 : Int32) else 1) else 1), oi (if b1 = 0 then (if b7 = 0 then (0 : Int32) else 1) else 1)]) _
      refine XS.icmpNo X159.here hx rfl (hb hby at_160) rfl (teq (rfl : (if b1 = 0 then (if b7 = 0 then (0 : Int32) else 1) else 1) = (if b1 = 0 then (if b7 = 0 then (0 : Int32) else 1) else 1))).2 ?_
      refine XS.iconst X159.here hx rfl (hb hby at_163) ?_
      refine XS.goto X159.here hx rfl (pc0 := 164) (pc' := 168) rfl (hb hby at_164) (by decide) (by decide) ?_
      exact k)
    obtain ⟨fs, hr, hrun, hended, hW, hsame⟩ := X159.leave (v := some (.int (1 : Int32))) (fun h => by rw [Bd.returns] at h; cases h)
    refine ⟨_, _, pre160 _ ?_, hrun, hended, _, _, rfl, ?_, ⟨_, rfl⟩, hW, hsame.mono (by decide) (by decide)⟩
    ·
      show oS p e below T159 (mkF m 168 #[oI p1, oI p2, oI p3, oI p4, oI b1, oI b7, oI b13, oR b19, oR b31, oR r103, oR b117, oI (if b1 = 0 then (0 : Int32) else 1), oI (if b1 = 0 then (if b7 = 0 then (0 : Int32) else 1) else 1)] [oi 1]) _
      exact retN X159 hx (t := .boolean) Bd.returns (by simp) (hb hby at_168) hr
    ·
      show Q_rm0 Z p1 p2 p3 p4 G1 wR wW wE h0 n0 _ T159.heap _
      rw [e159]
      exact ⟨rfl, N159⟩
set_option maxRecDepth 65536 in
set_option maxHeartbeats 40000000 in
theorem comes_1 {Post : Tables → Env → Array Value → State → Outcome → State → Prop} (hpost : ∀ tb e args s v u, (limb_1_1.after args s (.returned v) u = true ∧ limb_1_2.after args s (.returned v) u = true ∧ True) → FrameEnd s (.returned v) u (Jvm.fieldLocs frame_1_writes args s ++ Jvm.arrayLocs frame_1_arrays args s ++ Jvm.staticLocs frame_1_statics s) 24 128 → Post tb e args s (.returned v) u) :
    ArmFor flags0 classFile x code maxLocals ret World_1 tables_1 room_1 Calls_1 rest_1 Pre_1 Post := by
  intro l hfl _ _ p e ha hc hk s m args below hf hA hF happ hP
  obtain ⟨hcalls, hrest, hpre⟩ := hP
  obtain ⟨-, -, -, hnamed, -, -, -, hat⟩ := (Spec.applies_iff hf).mp happ
  obtain ⟨hg, hn⟩ := and_e (Cond.before_iff.mp (show (Jvm.Cond.and given_1 narrow_1).before args s = true from hpre))
  obtain ⟨hgl, hgr⟩ := and_e hg
  obtain ⟨hgrl, hgrr⟩ := and_e hgr
  obtain ⟨hgrrl, hgrrr⟩ := and_e hgrr
  obtain ⟨hgrrrl, hgrrrr⟩ := and_e hgrrr
  obtain ⟨w0, w1, w2, w3, rfl⟩ : ∃ w0 w1 w2 w3 : Value, args = #[w0, w1, w2, w3] := by
    have hs : args.size = 4 := by simpa [Cond.value, given_1] using hgl
    obtain ⟨L⟩ := args
    match L, hs with
    | [w0, w1, w2, w3], _ => exact ⟨w0, w1, w2, w3, rfl⟩
  have hw := fun d (hd : d ∈ tables_1) => atoms_spec (ws := Jvm.Cond.code x code maxLocals ret :: tables_1) hat d (List.mem_cons_of_mem _ hd)
  have hfit : Fit s := fun {y c} hc i hi => by
    obtain ⟨ha, rfl⟩ := Array.getElem?_eq_some_iff.mp hc
    have q := List.all_eq_true.mp ((Array.all_eq_true_iff_forall_mem.mp hF) _ (Array.getElem_mem ha)) i (List.mem_range.mpr hi)
    simpa [Array.getElem?_eq_getElem hi] using q
  obtain ⟨hsets, hown0⟩ := atoms_of _ (rest_1_c_eq ▸ (show rest_1_c.before _ s = true from hrest))
  have hr0 := Cond.before_iff.mp hown0
  obtain ⟨i0, ei0⟩ := is_v hgrl
  obtain rfl : w0 = (.int i0) := Option.some.inj ei0
  obtain ⟨i1, ei1⟩ := is_v hgrrl
  obtain rfl : w1 = (.int i1) := Option.some.inj ei1
  obtain ⟨i2, ei2⟩ := is_v hgrrrl
  obtain rfl : w2 = (.int i2) := Option.some.inj ei2
  obtain ⟨i3, ei3⟩ := is_v hgrrrr
  obtain rfl : w3 = (.int i3) := Option.some.inj ei3
  obtain ⟨hnl, hnr⟩ := and_e hn
  obtain ⟨v_READ, ev_READ⟩ := exa_v hnl
  have st_READ := Sta.start ev_READ (Or.inr ⟨(oW hw 56 rfl), (oW hw 57 rfl)⟩)
  have ex_READ := Exa.start ev_READ hnl
  obtain ⟨hnrl, hnrr⟩ := and_e hnr
  obtain ⟨v_WRITE, ev_WRITE⟩ := exa_v hnrl
  have st_WRITE := Sta.start ev_WRITE (Or.inr ⟨(oW hw 56 rfl), (oW hw 64 rfl)⟩)
  have ex_WRITE := Exa.start ev_WRITE hnrl
  obtain ⟨hnrrl, hnrrr⟩ := and_e hnrr
  have of_READ_ordinal := own_fldI ev_READ hnrrl
  have of_WRITE_ordinal := own_fldI ev_WRITE hnrrr
  obtain ⟨G1, eG1⟩ := is_v (Cond.before_iff.mp (hsets _ (List.mem_of_getElem? (i := 1) rfl)))
  have O2 : Sta s s.heap "java/lang/String" "COMPACT_STRINGS" "Z" (.int G1) := Sta.start eG1 (Or.inl (hsets _ (List.mem_of_getElem? (i := 0) rfl)))
  have P5 : ¬ (G1 = (0 : Int32)) := gotF (Cond.eq_ints eG1 (Term.int_eval (0))) (not_v (Cond.before_iff.mp (hsets _ (List.mem_of_getElem? (i := 2) rfl))))
  obtain ⟨wE, eE⟩ := exa_v (Cond.before_iff.mp (hsets _ (List.mem_of_getElem? (i := 11) rfl)))
  have sE := Sta.start eE (Or.inl (hsets _ (List.mem_of_getElem? (i := 10) rfl)))
  obtain ⟨n, o, h1, h2, h3, _, L, rfl, ⟨rfl, N⟩, hq⟩ := rm0 l s _ hw tables_1 i0 i1 i2 i3 G1 v_READ v_WRITE wE s.heap s.heap.size (Old.start s) O2 P5 st_READ st_WRITE sE (Fld.ne of_READ_ordinal of_WRITE_ordinal (by simp)) p e ha hc hk s m _ below hf ((Spec.applies_iff_loose hf).mp happ).1 ⟨rfl, State.Warmed39.refl s, rfl⟩ trivial
  refine ⟨n, _, h1, h2, h3, hpost _ _ _ _ _ _ ⟨Cond.after_iff.mpr rfl, Cond.after_iff.mpr (eq_i res_at (Term.int_eval (1)) rfl), trivial⟩ ⟨hq.1, hq.2.1, (hq.2.2.sift fun y hy => Or.inr (N y hy)).mono (by decide) (by decide)⟩⟩
theorem main_1_1 : Claimed_1_1 := comes_1 fun _ _ _ _ _ _ h hF => ⟨h.1, hF⟩
theorem main_1_2 : Claimed_1_2 := comes_1 fun _ _ _ _ _ _ h hF => ⟨h.2.1, hF⟩
end Jvm.Pilot.@@N@@
namespace Jvm.Pilot.@@N@@
open Jvm Jvm.ClassFile Sem Op Lib Jvm.Free Jvm.Stand Jvm.Pilot.@@N@@.Jvm.D
/-! MADE BY PROGRAM (witnessworld.py) out of the Statement's table words and the real class files: 25 classes; the members and pool entries that the words name. The judged class is class 1, her method 3. -/
namespace start1
open Jvm.ClassFile
def u (s : String) : CpInfo := .utf8 (stringToUtf16 s)
/-- a pool by its gaps: so many unusable entries, then the entry; so many at the end -/
def gap : Nat → List CpInfo → List CpInfo
  | 0, r => r
  | n + 1, r => .unusable :: gap n r
def poolList (es : List (Nat × CpInfo)) (last : Nat) : List CpInfo := es.foldr (fun e r => gap e.1 (e.2 :: r)) (gap last [])
def pool (es : List (Nat × CpInfo)) (last : Nat) : Array CpInfo := ⟨poolList es last⟩
def fileOf (pool : Array CpInfo) (this : Nat) (attrs : Array Attribute := #[]) (ms : Array MethodInfo := #[]) (fl : Nat := 33) (sup : Nat := 0) (ifs : Array Nat := #[]) (fds : Array FieldInfo := #[]) : ClassFile where
  minorVersion := 0
  majorVersion := 65
  constantPool := pool
  accessFlags := fl
  thisClass := this
  superClass := sup
  interfaces := ifs
  fields := fds
  methods := ms
  attributes := attrs
def plain (name : String) (sup : Option ClassId) : Class where
  name := name
  kind := .ordinary
  loader := none
  accessFlags := 33
  super := sup
  interfaces := #[]
  cf := none
  fields := #[]
  methods := #[]
  instanceTypes := #[]
  staticTypes := #[]
  resolved := #[]
  callSites := []
  init := .initialized
  statics := none
  mirror := none

def pool0 : Array CpInfo := pool [(5, u "<init>"), (0, u "()V"), (1, .class_ 10), (1, u "java/lang/Object")] 113

def k0c0 : Code := { maxStack := 0, maxLocals := 1, code := object_method_1_code, exceptionTable := #[], attributes := #[] }
def k0m0 : Method := { name := "<init>", desc := "()V", sig := { parameters := [], returnType := none }, accessFlags := 1, code := some k0c0 }
/-- java/lang/Object -/
def k0 : Class := { plain "java/lang/Object" none with
  accessFlags := 33
  interfaces := #[]
  cf := some (fileOf pool0 8 #[] #[{ accessFlags := 1, nameIndex := 5, descriptorIndex := 6, attributes := #[] }] 33 0 #[] #[])
  fields := #[]
  methods := #[k0m0]
  instanceTypes := #[]
  staticTypes := #[]
  resolved := Array.replicate 124 none
  statics := none }

def pool1 : Array CpInfo := pool [(2, .class_ 4), (1, u "java/lang/Object"), (0, u "<init>"), (0, u "()V"), (0, .class_ 8), (0, u "java/lang/String"), (0, .methodref 7 10), (0, .nameAndType 5 11), (0, u "([C)V"), (0, .methodref 7 13), (0, .nameAndType 14 15), (0, u "valueOf"), (0, u "(C)Ljava/lang/String;"), (0, .methodref 17 18), (0, .class_ 19), (0, .nameAndType 20 21), (0, u "java/util/Optional"), (0, u "of"), (0, u "(Ljava/lang/Object;)Ljava/util/Optional;"), (0, .methodref 17 23), (0, .nameAndType 24 25), (0, u "empty"), (0, u "()Ljava/util/Optional;"), (0, .class_ 27), (0, u "com/example/grantwright/grantwright/PathTable$Row"), (0, .methodref 26 29), (0, .nameAndType 5 30), (0, u "(Ljava/lang/String;ZZLjava/util/Optional;)V"), (0, .fieldref 32 33), (0, .class_ 34), (0, .nameAndType 35 36), (0, u "com/example/grantwright/grantwright/PathActivity"), (0, u "READ"), (0, u "Lcom/example/grantwright/grantwright/PathActivity;"), (0, .methodref 26 38), (0, .nameAndType 39 40), (0, u "denies"), (0, u "(Lcom/example/grantwright/grantwright/PathActivity;)Z"), (0, .fieldref 32 42), (0, .nameAndType 43 36), (0, u "WRITE"), (0, .methodref 45 46), (0, .class_ 47), (0, .nameAndType 48 49), (0, u "com/example/grantwright/grantwright/RowDeniesPinLaw"), (0, u "expectedRead"), (0, u "(ZZ)Z"), (0, .methodref 45 51), (0, .nameAndType 52 49), (0, u "expectedWrite"), (3, u "law"), (0, u "(IIII)Z")] 8

def k1m0 : Method := { name := "<init>", desc := "()V", sig := { parameters := [], returnType := none }, accessFlags := 2, code := none }
def k1c1 : Code := { maxStack := 1, maxLocals := 2, code := method_2_code, exceptionTable := #[], attributes := #[] }
def k1m1 : Method := { name := "expectedRead", desc := "(ZZ)Z", sig := { parameters := [.boolean, .boolean], returnType := some .boolean }, accessFlags := 10, code := some k1c1 }
def k1c2 : Code := { maxStack := 1, maxLocals := 2, code := method_3_code, exceptionTable := #[], attributes := #[] }
def k1m2 : Method := { name := "expectedWrite", desc := "(ZZ)Z", sig := { parameters := [.boolean, .boolean], returnType := some .boolean }, accessFlags := 10, code := some k1c2 }
def k1c3 : Code := { maxStack := 6, maxLocals := 13, code := code, exceptionTable := #[], attributes := #[] }
def k1m3 : Method := { name := "law", desc := "(IIII)Z", sig := { parameters := [.int, .int, .int, .int], returnType := some .boolean }, accessFlags := 9, code := some k1c3 }
/-- com/example/grantwright/grantwright/RowDeniesPinLaw -/
def k1 : Class := { plain "com/example/grantwright/grantwright/RowDeniesPinLaw" (some 0) with
  accessFlags := 49
  interfaces := #[]
  cf := some (fileOf pool1 45 #[] #[{ accessFlags := 2, nameIndex := 5, descriptorIndex := 6, attributes := #[] }, { accessFlags := 10, nameIndex := 48, descriptorIndex := 49, attributes := #[] }, { accessFlags := 10, nameIndex := 52, descriptorIndex := 49, attributes := #[] }, { accessFlags := 9, nameIndex := 56, descriptorIndex := 57, attributes := #[] }] 49 2 #[] #[])
  fields := #[]
  methods := #[k1m0, k1m1, k1m2, k1m3]
  instanceTypes := #[]
  staticTypes := #[]
  resolved := Array.replicate 66 none
  statics := none }

def pool2 : Array CpInfo := pool [(1, .class_ 2), (0, u "java/io/Serializable"), (0, .class_ 4), (0, u "java/lang/Object")] 2

/-- java/io/Serializable -/
def k2 : Class := { plain "java/io/Serializable" (some 0) with
  accessFlags := 1537
  interfaces := #[]
  cf := some (fileOf pool2 1 #[] #[] 1537 3 #[] #[])
  fields := #[]
  methods := #[]
  instanceTypes := #[]
  staticTypes := #[]
  resolved := Array.replicate 7 none
  statics := none }

def pool3 : Array CpInfo := pool [(1, .class_ 2), (0, u "java/lang/Comparable"), (0, .class_ 4), (0, u "java/lang/Object")] 7

/-- java/lang/Comparable -/
def k3 : Class := { plain "java/lang/Comparable" (some 0) with
  accessFlags := 1537
  interfaces := #[]
  cf := some (fileOf pool3 1 #[] #[] 1537 3 #[] #[])
  fields := #[]
  methods := #[]
  instanceTypes := #[]
  staticTypes := #[]
  resolved := Array.replicate 12 none
  statics := none }

def pool4 : Array CpInfo := pool [(2, .class_ 4), (1, u "java/lang/CharSequence"), (42, .class_ 48), (0, u "java/lang/CharSequence$1CodePointIterator"), (10, .class_ 60), (0, u "java/lang/CharSequence$1CharIterator"), (5, .class_ 67), (0, u "java/lang/Object")] 63

/-- java/lang/CharSequence -/
def k4 : Class := { plain "java/lang/CharSequence" (some 0) with
  accessFlags := 1537
  interfaces := #[]
  cf := some (fileOf pool4 2 #[.nestMembers #[47, 59]] #[] 1537 66 #[] #[])
  fields := #[]
  methods := #[]
  instanceTypes := #[]
  staticTypes := #[]
  resolved := Array.replicate 131 none
  statics := none }

def pool5 : Array CpInfo := pool [(1, .class_ 2), (0, u "java/lang/constant/Constable"), (0, .class_ 4), (0, u "java/lang/Object")] 6

/-- java/lang/constant/Constable -/
def k5 : Class := { plain "java/lang/constant/Constable" (some 0) with
  accessFlags := 1537
  interfaces := #[]
  cf := some (fileOf pool5 1 #[] #[] 1537 3 #[] #[])
  fields := #[]
  methods := #[]
  instanceTypes := #[]
  staticTypes := #[]
  resolved := Array.replicate 11 none
  statics := none }

def pool6 : Array CpInfo := pool [(1, .class_ 2), (0, u "java/lang/constant/ConstantDesc"), (0, .class_ 4), (0, u "java/lang/Object")] 32

/-- java/lang/constant/ConstantDesc -/
def k6 : Class := { plain "java/lang/constant/ConstantDesc" (some 0) with
  accessFlags := 1537
  interfaces := #[]
  cf := some (fileOf pool6 1 #[] #[] 1537 3 #[] #[])
  fields := #[]
  methods := #[]
  instanceTypes := #[]
  staticTypes := #[]
  resolved := Array.replicate 37 none
  statics := none }

def pool7 : Array CpInfo := pool [(1, .methodref 2 3), (0, .class_ 4), (0, .nameAndType 5 6), (0, u "java/lang/Object"), (0, u "<init>"), (0, u "()V"), (2, .fieldref 10 11), (0, .class_ 12), (0, .nameAndType 13 14), (0, u "java/lang/String"), (0, u "value"), (0, u "[B"), (0, .fieldref 10 16), (0, .nameAndType 17 18), (0, u "coder"), (0, u "B"), (2, u "hash"), (0, u "I"), (2, u "hashIsZero"), (0, u "Z"), (0, .methodref 10 28), (0, .nameAndType 5 29), (0, u "([CIILjava/lang/Void;)V"), (8, .fieldref 10 39), (0, .nameAndType 40 26), (0, u "COMPACT_STRINGS"), (1, .class_ 44), (1, u "java/lang/StringUTF16"), (0, u "compress"), (1, .methodref 42 48), (0, .nameAndType 49 50), (0, u "coderFromArrayLen"), (0, u "([BI)B"), (2, u "toBytes"), (53, .class_ 109), (1, u "java/lang/StringLatin1"), (67, .methodref 42 178), (0, .nameAndType 45 179), (0, u "([CII)[B"), (29, .methodref 10 210), (0, .nameAndType 5 211), (0, u "([BB)V"), (157, u "(C)Z"), (205, .class_ 576), (0, u "java/lang/CharSequence"), (22, u "CASE_INSENSITIVE_ORDER"), (0, u "Ljava/util/Comparator;"), (181, u "valueOf"), (0, u "(C)Ljava/lang/String;"), (226, u "([C)V"), (4, .methodref 107 1016), (0, .nameAndType 1017 369), (0, u "canEncode"), (0, .methodref 107 1019), (0, .nameAndType 53 1020), (0, u "(C)[B"), (80, u "serialPersistentFields"), (0, u "[Ljava/io/ObjectStreamField;"), (0, .class_ 1104), (0, u "java/lang/String$CaseInsensitiveComparator"), (1, .class_ 1107), (0, u "java/io/Serializable"), (0, .class_ 1109), (0, u "java/lang/Comparable"), (0, .class_ 1111), (0, u "java/lang/constant/Constable"), (0, .class_ 1113), (0, u "java/lang/constant/ConstantDesc"), (2, u "serialVersionUID"), (0, u "J"), (3, u "REPL"), (0, u "C"), (2, u "LATIN1"), (1, u "UTF16")] 323

def k7m0 : Method := { name := "<init>", desc := "()V", sig := { parameters := [], returnType := none }, accessFlags := 1, code := none }
def k7c1 : Code := { maxStack := 5, maxLocals := 2, code := jdk_42_method_3_code, exceptionTable := #[], attributes := #[] }
def k7m1 : Method := { name := "<init>", desc := "([C)V", sig := { parameters := [(.array .char)], returnType := none }, accessFlags := 1, code := some k7c1 }
def k7c2 : Code := { maxStack := 4, maxLocals := 1, code := jdk_42_method_139_code, exceptionTable := #[], attributes := #[] }
def k7m2 : Method := { name := "valueOf", desc := "(C)Ljava/lang/String;", sig := { parameters := [.char], returnType := some (.object "java/lang/String") }, accessFlags := 9, code := some k7c2 }
def k7c3 : Code := { maxStack := 4, maxLocals := 6, code := jdk_42_method_149_code, exceptionTable := #[], attributes := #[] }
def k7m3 : Method := { name := "<init>", desc := "([CIILjava/lang/Void;)V", sig := { parameters := [(.array .char), .int, .int, (.object "java/lang/Void")], returnType := none }, accessFlags := 2, code := some k7c3 }
def k7c4 : Code := { maxStack := 2, maxLocals := 3, code := jdk_42_method_151_code, exceptionTable := #[], attributes := #[] }
def k7m4 : Method := { name := "<init>", desc := "([BB)V", sig := { parameters := [(.array .byte), .byte], returnType := none }, accessFlags := 0, code := some k7c4 }
/-- java/lang/String -/
def k7 : Class := { plain "java/lang/String" (some 0) with
  accessFlags := 49
  interfaces := #[2, 3, 4, 5, 6]
  cf := some (fileOf pool7 10 #[.nestMembers #[1103]] #[{ accessFlags := 1, nameIndex := 5, descriptorIndex := 6, attributes := #[] }, { accessFlags := 1, nameIndex := 5, descriptorIndex := 1010, attributes := #[] }, { accessFlags := 9, nameIndex := 782, descriptorIndex := 783, attributes := #[] }, { accessFlags := 2, nameIndex := 5, descriptorIndex := 29, attributes := #[] }, { accessFlags := 0, nameIndex := 5, descriptorIndex := 211, attributes := #[] }] 49 2 #[1106, 1108, 575, 1110, 1112] #[{ accessFlags := 18, nameIndex := 13, descriptorIndex := 14, attributes := #[] }, { accessFlags := 18, nameIndex := 17, descriptorIndex := 18, attributes := #[] }, { accessFlags := 2, nameIndex := 21, descriptorIndex := 22, attributes := #[] }, { accessFlags := 2, nameIndex := 25, descriptorIndex := 26, attributes := #[] }, { accessFlags := 26, nameIndex := 1116, descriptorIndex := 1117, attributes := #[] }, { accessFlags := 24, nameIndex := 40, descriptorIndex := 26, attributes := #[] }, { accessFlags := 26, nameIndex := 1101, descriptorIndex := 1102, attributes := #[] }, { accessFlags := 26, nameIndex := 1121, descriptorIndex := 1122, attributes := #[] }, { accessFlags := 25, nameIndex := 599, descriptorIndex := 600, attributes := #[] }, { accessFlags := 24, nameIndex := 1125, descriptorIndex := 18, attributes := #[] }, { accessFlags := 24, nameIndex := 1127, descriptorIndex := 18, attributes := #[] }])
  fields := #[{ name := "value", type := (.array .byte), accessFlags := 18, slot := 0, constantValue := 0 }, { name := "coder", type := .byte, accessFlags := 18, slot := 1, constantValue := 0 }, { name := "hash", type := .int, accessFlags := 2, slot := 2, constantValue := 0 }, { name := "hashIsZero", type := .boolean, accessFlags := 2, slot := 3, constantValue := 0 }, { name := "serialVersionUID", type := .long, accessFlags := 26, slot := 0, constantValue := 0 }, { name := "COMPACT_STRINGS", type := .boolean, accessFlags := 24, slot := 1, constantValue := 0 }, { name := "serialPersistentFields", type := (.array (.object "java/io/ObjectStreamField")), accessFlags := 26, slot := 2, constantValue := 0 }, { name := "REPL", type := .char, accessFlags := 26, slot := 3, constantValue := 0 }, { name := "CASE_INSENSITIVE_ORDER", type := (.object "java/util/Comparator"), accessFlags := 25, slot := 4, constantValue := 0 }, { name := "LATIN1", type := .byte, accessFlags := 24, slot := 5, constantValue := 0 }, { name := "UTF16", type := .byte, accessFlags := 24, slot := 6, constantValue := 0 }]
  methods := #[k7m0, k7m1, k7m2, k7m3, k7m4]
  instanceTypes := #[(.array .byte), .byte, .int, .boolean]
  staticTypes := #[.long, .boolean, (.array (.object "java/io/ObjectStreamField")), .char, (.object "java/util/Comparator"), .byte, .byte]
  resolved := Array.replicate 1451 none
  statics := some 0 }

def pool8 : Array CpInfo := pool [(6, .class_ 8), (1, u "java/lang/Object"), (0, u "<init>"), (0, u "()V"), (1, .class_ 14), (1, u "java/lang/StringUTF16"), (31, u "$assertionsDisabled"), (0, u "Z"), (13, u "HI_BYTE_SHIFT"), (0, u "I"), (2, u "LO_BYTE_SHIFT"), (49, .methodref 12 116), (0, .nameAndType 117 118), (0, u "compress"), (0, u "([CI[BII)I"), (3, u "([CII)[B"), (138, u "coderFromArrayLen"), (0, u "([BI)B"), (106, .class_ 371), (1, u "java/lang/StringUTF16$LinesSpliterator"), (58, u "MAX_LENGTH"), (196, .class_ 628), (0, u "java/lang/StringUTF16$CodePointsSpliterator"), (0, .class_ 630), (0, u "java/lang/StringUTF16$CharsSpliterator")] 4

def k8m0 : Method := { name := "<init>", desc := "()V", sig := { parameters := [], returnType := none }, accessFlags := 0, code := none }
def k8c1 : Code := { maxStack := 2, maxLocals := 2, code := jdk_52_method_15_code, exceptionTable := #[], attributes := #[] }
def k8m1 : Method := { name := "coderFromArrayLen", desc := "([BI)B", sig := { parameters := [(.array .byte), .int], returnType := some .byte }, accessFlags := 8, code := some k8c1 }
def k8c2 : Code := { maxStack := 5, maxLocals := 6, code := jdk_52_method_16_code, exceptionTable := #[], attributes := #[] }
def k8m2 : Method := { name := "compress", desc := "([CII)[B", sig := { parameters := [(.array .char), .int, .int], returnType := some (.array .byte) }, accessFlags := 9, code := some k8c2 }
def k8c3 : Code := { maxStack := 3, maxLocals := 7, code := jdk_52_method_21_code, exceptionTable := #[], attributes := #[] }
def k8m3 : Method := { name := "compress", desc := "([CI[BII)I", sig := { parameters := [(.array .char), .int, (.array .byte), .int, .int], returnType := some .int }, accessFlags := 9, code := some k8c3 }
/-- java/lang/StringUTF16 -/
def k8 : Class := { plain "java/lang/StringUTF16" (some 0) with
  accessFlags := 48
  interfaces := #[]
  cf := some (fileOf pool8 12 #[.nestMembers #[627, 629, 369]] #[{ accessFlags := 0, nameIndex := 9, descriptorIndex := 10, attributes := #[] }, { accessFlags := 8, nameIndex := 261, descriptorIndex := 262, attributes := #[] }, { accessFlags := 9, nameIndex := 117, descriptorIndex := 122, attributes := #[] }, { accessFlags := 9, nameIndex := 117, descriptorIndex := 118, attributes := #[] }] 48 6 #[] #[{ accessFlags := 26, nameIndex := 61, descriptorIndex := 62, attributes := #[] }, { accessFlags := 26, nameIndex := 65, descriptorIndex := 62, attributes := #[] }, { accessFlags := 24, nameIndex := 430, descriptorIndex := 62, attributes := #[] }, { accessFlags := 4120, nameIndex := 46, descriptorIndex := 47, attributes := #[] }])
  fields := #[{ name := "HI_BYTE_SHIFT", type := .int, accessFlags := 26, slot := 0, constantValue := 0 }, { name := "LO_BYTE_SHIFT", type := .int, accessFlags := 26, slot := 1, constantValue := 0 }, { name := "MAX_LENGTH", type := .int, accessFlags := 24, slot := 2, constantValue := 0 }, { name := "$assertionsDisabled", type := .boolean, accessFlags := 4120, slot := 3, constantValue := 0 }]
  methods := #[k8m0, k8m1, k8m2, k8m3]
  instanceTypes := #[]
  staticTypes := #[.int, .int, .int, .boolean]
  resolved := Array.replicate 635 none
  statics := none }

def pool9 : Array CpInfo := pool [(1, .fieldref 2 3), (0, .class_ 4), (0, .nameAndType 5 6), (0, u "java/util/Optional"), (0, u "EMPTY"), (0, u "Ljava/util/Optional;"), (0, .methodref 8 9), (0, .class_ 10), (0, .nameAndType 11 12), (0, u "java/lang/Object"), (0, u "<init>"), (0, u "()V"), (0, .fieldref 2 14), (0, .nameAndType 15 16), (0, u "value"), (0, u "Ljava/lang/Object;"), (0, .methodref 18 19), (0, .class_ 20), (0, .nameAndType 21 22), (0, u "java/util/Objects"), (0, u "requireNonNull"), (0, u "(Ljava/lang/Object;)Ljava/lang/Object;"), (0, .methodref 2 24), (0, .nameAndType 11 25), (0, u "(Ljava/lang/Object;)V"), (29, u "empty"), (0, u "()Ljava/util/Optional;"), (8, u "(Ljava/lang/Object;)Ljava/util/Optional;"), (16, u "of")] 104

def k9c0 : Code := { maxStack := 1, maxLocals := 1, code := jdk_32_method_1_code, exceptionTable := #[], attributes := #[] }
def k9m0 : Method := { name := "empty", desc := "()Ljava/util/Optional;", sig := { parameters := [], returnType := some (.object "java/util/Optional") }, accessFlags := 9, code := some k9c0 }
def k9c1 : Code := { maxStack := 2, maxLocals := 2, code := jdk_32_method_2_code, exceptionTable := #[], attributes := #[] }
def k9m1 : Method := { name := "<init>", desc := "(Ljava/lang/Object;)V", sig := { parameters := [(.object "java/lang/Object")], returnType := none }, accessFlags := 2, code := some k9c1 }
def k9c2 : Code := { maxStack := 3, maxLocals := 1, code := jdk_32_method_3_code, exceptionTable := #[], attributes := #[] }
def k9m2 : Method := { name := "of", desc := "(Ljava/lang/Object;)Ljava/util/Optional;", sig := { parameters := [(.object "java/lang/Object")], returnType := some (.object "java/util/Optional") }, accessFlags := 9, code := some k9c2 }
/-- java/util/Optional -/
def k9 : Class := { plain "java/util/Optional" (some 0) with
  accessFlags := 49
  interfaces := #[]
  cf := some (fileOf pool9 2 #[] #[{ accessFlags := 9, nameIndex := 55, descriptorIndex := 56, attributes := #[] }, { accessFlags := 2, nameIndex := 11, descriptorIndex := 25, attributes := #[] }, { accessFlags := 9, nameIndex := 82, descriptorIndex := 65, attributes := #[] }] 49 8 #[] #[{ accessFlags := 26, nameIndex := 5, descriptorIndex := 6, attributes := #[] }, { accessFlags := 18, nameIndex := 15, descriptorIndex := 16, attributes := #[] }])
  fields := #[{ name := "EMPTY", type := (.object "java/util/Optional"), accessFlags := 26, slot := 0, constantValue := 0 }, { name := "value", type := (.object "java/lang/Object"), accessFlags := 18, slot := 0, constantValue := 0 }]
  methods := #[k9m0, k9m1, k9m2]
  instanceTypes := #[(.object "java/lang/Object")]
  staticTypes := #[(.object "java/util/Optional")]
  resolved := Array.replicate 187 none
  statics := some 1 }

def pool10 : Array CpInfo := pool [(1, .methodref 2 3), (0, .class_ 4), (0, .nameAndType 5 6), (0, u "java/lang/Object"), (0, u "<init>"), (0, u "()V"), (0, .class_ 8), (0, u "java/lang/Record")] 13

def k10c0 : Code := { maxStack := 1, maxLocals := 1, code := jdk_30_method_1_code, exceptionTable := #[], attributes := #[] }
def k10m0 : Method := { name := "<init>", desc := "()V", sig := { parameters := [], returnType := none }, accessFlags := 4, code := some k10c0 }
/-- java/lang/Record -/
def k10 : Class := { plain "java/lang/Record" (some 0) with
  accessFlags := 1057
  interfaces := #[]
  cf := some (fileOf pool10 7 #[] #[{ accessFlags := 4, nameIndex := 5, descriptorIndex := 6, attributes := #[] }] 1057 2 #[] #[])
  fields := #[]
  methods := #[k10m0]
  instanceTypes := #[]
  staticTypes := #[]
  resolved := Array.replicate 22 none
  statics := none }

def pool11 : Array CpInfo := pool [(1, .methodref 2 3), (0, .class_ 4), (0, .nameAndType 5 6), (0, u "java/lang/Record"), (0, u "<init>"), (0, u "()V"), (0, .fieldref 8 9), (0, .class_ 10), (0, .nameAndType 11 12), (0, u "com/example/grantwright/grantwright/PathTable$Row"), (0, u "path"), (0, u "Ljava/lang/String;"), (0, .fieldref 8 14), (0, .nameAndType 15 16), (0, u "noRead"), (0, u "Z"), (0, .fieldref 8 18), (0, .nameAndType 19 16), (0, u "noWrite"), (0, .fieldref 8 21), (0, .nameAndType 22 23), (0, u "group"), (0, u "Ljava/util/Optional;"), (0, .fieldref 25 26), (0, .class_ 27), (0, .nameAndType 28 29), (0, u "com/example/grantwright/grantwright/PathActivity"), (0, u "WRITE"), (0, u "Lcom/example/grantwright/grantwright/PathActivity;"), (14, u "(Ljava/lang/String;ZZLjava/util/Optional;)V"), (4, u "denies"), (0, u "(Lcom/example/grantwright/grantwright/PathActivity;)Z"), (10, .class_ 62), (0, u "com/example/grantwright/grantwright/PathTable")] 22

def k11c0 : Code := { maxStack := 2, maxLocals := 5, code := prog_11_method_1_code, exceptionTable := #[], attributes := #[] }
def k11m0 : Method := { name := "<init>", desc := "(Ljava/lang/String;ZZLjava/util/Optional;)V", sig := { parameters := [(.object "java/lang/String"), .boolean, .boolean, (.object "java/util/Optional")], returnType := none }, accessFlags := 0, code := some k11c0 }
def k11c1 : Code := { maxStack := 2, maxLocals := 2, code := prog_11_method_2_code, exceptionTable := #[], attributes := #[] }
def k11m1 : Method := { name := "denies", desc := "(Lcom/example/grantwright/grantwright/PathActivity;)Z", sig := { parameters := [(.object "com/example/grantwright/grantwright/PathActivity")], returnType := some .boolean }, accessFlags := 0, code := some k11c1 }
/-- com/example/grantwright/grantwright/PathTable$Row -/
def k11 : Class := { plain "com/example/grantwright/grantwright/PathTable$Row" (some 10) with
  accessFlags := 48
  interfaces := #[]
  cf := some (fileOf pool11 8 #[.nestHost 61] #[{ accessFlags := 0, nameIndex := 5, descriptorIndex := 44, attributes := #[] }, { accessFlags := 0, nameIndex := 49, descriptorIndex := 50, attributes := #[] }] 48 2 #[] #[{ accessFlags := 18, nameIndex := 11, descriptorIndex := 12, attributes := #[] }, { accessFlags := 18, nameIndex := 15, descriptorIndex := 16, attributes := #[] }, { accessFlags := 18, nameIndex := 19, descriptorIndex := 16, attributes := #[] }, { accessFlags := 18, nameIndex := 22, descriptorIndex := 23, attributes := #[] }])
  fields := #[{ name := "path", type := (.object "java/lang/String"), accessFlags := 18, slot := 0, constantValue := 0 }, { name := "noRead", type := .boolean, accessFlags := 18, slot := 1, constantValue := 0 }, { name := "noWrite", type := .boolean, accessFlags := 18, slot := 2, constantValue := 0 }, { name := "group", type := (.object "java/util/Optional"), accessFlags := 18, slot := 3, constantValue := 0 }]
  methods := #[k11m0, k11m1]
  instanceTypes := #[(.object "java/lang/String"), .boolean, .boolean, (.object "java/util/Optional")]
  staticTypes := #[]
  resolved := Array.replicate 85 none
  statics := none }

def pool12 : Array CpInfo := pool [(2, .class_ 4), (1, u "java/lang/Enum"), (0, u "name"), (0, u "Ljava/lang/String;"), (2, u "ordinal"), (0, u "I"), (1, .class_ 14), (1, u "java/lang/Object"), (4, u "hash"), (86, .class_ 108), (1, u "java/lang/Enum$EnumDesc"), (2, .class_ 112), (0, u "java/lang/constant/Constable"), (0, .class_ 114), (0, u "java/lang/Comparable"), (0, .class_ 116), (0, u "java/io/Serializable")] 87

/-- java/lang/Enum -/
def k12 : Class := { plain "java/lang/Enum" (some 0) with
  accessFlags := 1057
  interfaces := #[5, 3, 2]
  cf := some (fileOf pool12 2 #[.nestMembers #[106]] #[] 1057 12 #[111, 113, 115] #[{ accessFlags := 18, nameIndex := 5, descriptorIndex := 6, attributes := #[] }, { accessFlags := 18, nameIndex := 9, descriptorIndex := 10, attributes := #[] }, { accessFlags := 2, nameIndex := 19, descriptorIndex := 10, attributes := #[] }])
  fields := #[{ name := "name", type := (.object "java/lang/String"), accessFlags := 18, slot := 0, constantValue := 0 }, { name := "ordinal", type := .int, accessFlags := 18, slot := 1, constantValue := 0 }, { name := "hash", type := .int, accessFlags := 2, slot := 2, constantValue := 0 }]
  methods := #[]
  instanceTypes := #[(.object "java/lang/String"), .int, .int]
  staticTypes := #[]
  resolved := Array.replicate 204 none
  statics := none }

def pool13 : Array CpInfo := pool [(1, .class_ 2), (0, u "com/example/grantwright/grantwright/PathActivity"), (2, u "READ"), (0, u "Lcom/example/grantwright/grantwright/PathActivity;"), (2, u "WRITE"), (2, u "$VALUES"), (0, u "[Lcom/example/grantwright/grantwright/PathActivity;"), (6, .class_ 22), (1, u "java/lang/Enum"), (8, u "actvt"), (0, u "Ljava/lang/String;")] 26

/-- com/example/grantwright/grantwright/PathActivity -/
def k13 : Class := { plain "com/example/grantwright/grantwright/PathActivity" (some 12) with
  accessFlags := 16433
  interfaces := #[]
  cf := some (fileOf pool13 1 #[] #[] 16433 20 #[] #[{ accessFlags := 16409, nameIndex := 5, descriptorIndex := 6, attributes := #[] }, { accessFlags := 16409, nameIndex := 9, descriptorIndex := 6, attributes := #[] }, { accessFlags := 18, nameIndex := 31, descriptorIndex := 32, attributes := #[] }, { accessFlags := 4122, nameIndex := 12, descriptorIndex := 13, attributes := #[] }])
  fields := #[{ name := "READ", type := (.object "com/example/grantwright/grantwright/PathActivity"), accessFlags := 16409, slot := 0, constantValue := 0 }, { name := "WRITE", type := (.object "com/example/grantwright/grantwright/PathActivity"), accessFlags := 16409, slot := 1, constantValue := 0 }, { name := "actvt", type := (.object "java/lang/String"), accessFlags := 18, slot := 3, constantValue := 0 }, { name := "$VALUES", type := (.array (.object "com/example/grantwright/grantwright/PathActivity")), accessFlags := 4122, slot := 2, constantValue := 0 }]
  methods := #[]
  instanceTypes := #[(.object "java/lang/String"), .int, .int, (.object "java/lang/String")]
  staticTypes := #[(.object "com/example/grantwright/grantwright/PathActivity"), (.object "com/example/grantwright/grantwright/PathActivity"), (.array (.object "com/example/grantwright/grantwright/PathActivity"))]
  resolved := Array.replicate 59 none
  statics := some 2 }

def pool14 : Array CpInfo := pool [(4, .class_ 6), (1, u "java/lang/Object"), (0, u "<init>"), (0, u "()V"), (5, .class_ 16), (1, u "java/lang/StringLatin1"), (73, u "canEncode"), (14, u "(C)Z"), (15, u "$assertionsDisabled"), (0, u "Z"), (98, .class_ 223), (1, u "java/lang/StringLatin1$LinesSpliterator"), (156, u "toBytes"), (1, u "(C)[B"), (7, .class_ 391), (0, u "java/lang/StringLatin1$CharsSpliterator")] 3

def k14m0 : Method := { name := "<init>", desc := "()V", sig := { parameters := [], returnType := none }, accessFlags := 0, code := none }
def k14c1 : Code := { maxStack := 2, maxLocals := 1, code := jdk_43_method_3_code, exceptionTable := #[], attributes := #[] }
def k14m1 : Method := { name := "canEncode", desc := "(C)Z", sig := { parameters := [.char], returnType := some .boolean }, accessFlags := 9, code := some k14c1 }
def k14c2 : Code := { maxStack := 4, maxLocals := 1, code := jdk_43_method_46_code, exceptionTable := #[], attributes := #[] }
def k14m2 : Method := { name := "toBytes", desc := "(C)[B", sig := { parameters := [.char], returnType := some (.array .byte) }, accessFlags := 9, code := some k14c2 }
/-- java/lang/StringLatin1 -/
def k14 : Class := { plain "java/lang/StringLatin1" (some 0) with
  accessFlags := 48
  interfaces := #[]
  cf := some (fileOf pool14 14 #[.nestMembers #[390, 221]] #[{ accessFlags := 0, nameIndex := 7, descriptorIndex := 8, attributes := #[] }, { accessFlags := 9, nameIndex := 90, descriptorIndex := 105, attributes := #[] }, { accessFlags := 9, nameIndex := 380, descriptorIndex := 382, attributes := #[] }] 48 4 #[] #[{ accessFlags := 4120, nameIndex := 121, descriptorIndex := 122, attributes := #[] }])
  fields := #[{ name := "$assertionsDisabled", type := .boolean, accessFlags := 4120, slot := 0, constantValue := 0 }]
  methods := #[k14m0, k14m1, k14m2]
  instanceTypes := #[]
  staticTypes := #[.boolean]
  resolved := Array.replicate 395 none
  statics := none }

def pool15 : Array CpInfo := pool [(2, .class_ 4), (1, u "java/lang/Object"), (0, u "<init>"), (0, u "()V"), (35, .class_ 44), (1, u "java/util/Objects"), (0, u "requireNonNull"), (0, u "(Ljava/lang/Object;)Ljava/lang/Object;")] 137

def k15m0 : Method := { name := "<init>", desc := "()V", sig := { parameters := [], returnType := none }, accessFlags := 2, code := none }
def k15c1 : Code := { maxStack := 2, maxLocals := 1, code := jdk_31_method_10_code, exceptionTable := #[], attributes := #[] }
def k15m1 : Method := { name := "requireNonNull", desc := "(Ljava/lang/Object;)Ljava/lang/Object;", sig := { parameters := [(.object "java/lang/Object")], returnType := some (.object "java/lang/Object") }, accessFlags := 9, code := some k15c1 }
/-- java/util/Objects -/
def k15 : Class := { plain "java/util/Objects" (some 0) with
  accessFlags := 49
  interfaces := #[]
  cf := some (fileOf pool15 42 #[] #[{ accessFlags := 2, nameIndex := 5, descriptorIndex := 6, attributes := #[] }, { accessFlags := 9, nameIndex := 45, descriptorIndex := 46, attributes := #[] }] 49 2 #[] #[])
  fields := #[]
  methods := #[k15m0, k15m1]
  instanceTypes := #[]
  staticTypes := #[]
  resolved := Array.replicate 184 none
  statics := none }

def pool16 : Array CpInfo := pool [(2, .class_ 4), (1, u "java/lang/Object"), (0, u "<init>"), (0, u "()V"), (17, .class_ 26), (1, u "jdk/internal/util/Preconditions"), (28, .class_ 56), (0, u "jdk/internal/util/Preconditions$4"), (57, .class_ 115), (0, u "jdk/internal/util/Preconditions$1"), (7, u "SIOOBE_FORMATTER"), (0, u "Ljava/util/function/BiFunction;"), (0, .class_ 126), (0, u "jdk/internal/util/Preconditions$2"), (3, u "AIOOBE_FORMATTER"), (0, .class_ 132), (0, u "jdk/internal/util/Preconditions$3"), (3, u "IOOBE_FORMATTER")] 57

def k16m0 : Method := { name := "<init>", desc := "()V", sig := { parameters := [], returnType := none }, accessFlags := 1, code := none }
/-- jdk/internal/util/Preconditions -/
def k16 : Class := { plain "jdk/internal/util/Preconditions" (some 0) with
  accessFlags := 33
  interfaces := #[]
  cf := some (fileOf pool16 24 #[.nestMembers #[55, 131, 125, 114]] #[{ accessFlags := 1, nameIndex := 5, descriptorIndex := 6, attributes := #[] }] 33 2 #[] #[{ accessFlags := 25, nameIndex := 123, descriptorIndex := 124, attributes := #[] }, { accessFlags := 25, nameIndex := 130, descriptorIndex := 124, attributes := #[] }, { accessFlags := 25, nameIndex := 136, descriptorIndex := 124, attributes := #[] }])
  fields := #[{ name := "SIOOBE_FORMATTER", type := (.object "java/util/function/BiFunction"), accessFlags := 25, slot := 0, constantValue := 0 }, { name := "AIOOBE_FORMATTER", type := (.object "java/util/function/BiFunction"), accessFlags := 25, slot := 1, constantValue := 0 }, { name := "IOOBE_FORMATTER", type := (.object "java/util/function/BiFunction"), accessFlags := 25, slot := 2, constantValue := 0 }]
  methods := #[k16m0]
  instanceTypes := #[]
  staticTypes := #[(.object "java/util/function/BiFunction"), (.object "java/util/function/BiFunction"), (.object "java/util/function/BiFunction")]
  resolved := Array.replicate 194 none
  statics := some 3 }

def pool17 : Array CpInfo := pool [(9, u "<init>"), (6, .class_ 18), (1, u "java/lang/Object"), (0, u "()V"), (1, .class_ 23), (1, u "jdk/internal/util/ArraysSupport"), (0, u "LOG2_ARRAY_LONG_INDEX_SCALE"), (0, u "I"), (2, u "U"), (0, u "Ljdk/internal/misc/Unsafe;"), (8, u "BIG_ENDIAN"), (0, u "Z"), (8, u "LOG2_BYTE_BIT_SIZE"), (4, u "LOG2_ARRAY_INT_INDEX_SCALE"), (54, u "JLA"), (0, u "Ljdk/internal/access/JavaLangAccess;"), (11, u "LOG2_ARRAY_BOOLEAN_INDEX_SCALE"), (9, u "LOG2_ARRAY_BYTE_INDEX_SCALE"), (5, u "LOG2_ARRAY_CHAR_INDEX_SCALE"), (5, u "LOG2_ARRAY_SHORT_INDEX_SCALE"), (18, u "LOG2_ARRAY_FLOAT_INDEX_SCALE"), (24, u "LOG2_ARRAY_DOUBLE_INDEX_SCALE"), (89, u "T_BOOLEAN"), (2, u "T_CHAR"), (1, u "T_FLOAT"), (1, u "T_DOUBLE"), (1, u "T_BYTE"), (1, u "T_SHORT"), (1, u "T_INT"), (1, u "T_LONG"), (1, u "SOFT_MAX_ARRAY_LENGTH")] 83

def k17m0 : Method := { name := "<init>", desc := "()V", sig := { parameters := [], returnType := none }, accessFlags := 2, code := none }
/-- jdk/internal/util/ArraysSupport -/
def k17 : Class := { plain "jdk/internal/util/ArraysSupport" (some 0) with
  accessFlags := 33
  interfaces := #[]
  cf := some (fileOf pool17 21 #[] #[{ accessFlags := 2, nameIndex := 9, descriptorIndex := 19, attributes := #[] }] 33 16 #[] #[{ accessFlags := 24, nameIndex := 28, descriptorIndex := 29, attributes := #[] }, { accessFlags := 26, nameIndex := 38, descriptorIndex := 39, attributes := #[] }, { accessFlags := 25, nameIndex := 121, descriptorIndex := 25, attributes := #[] }, { accessFlags := 25, nameIndex := 131, descriptorIndex := 25, attributes := #[] }, { accessFlags := 25, nameIndex := 137, descriptorIndex := 25, attributes := #[] }, { accessFlags := 25, nameIndex := 143, descriptorIndex := 25, attributes := #[] }, { accessFlags := 25, nameIndex := 53, descriptorIndex := 25, attributes := #[] }, { accessFlags := 25, nameIndex := 24, descriptorIndex := 25, attributes := #[] }, { accessFlags := 25, nameIndex := 162, descriptorIndex := 25, attributes := #[] }, { accessFlags := 25, nameIndex := 187, descriptorIndex := 25, attributes := #[] }, { accessFlags := 26, nameIndex := 48, descriptorIndex := 25, attributes := #[] }, { accessFlags := 25, nameIndex := 277, descriptorIndex := 25, attributes := #[] }, { accessFlags := 25, nameIndex := 280, descriptorIndex := 25, attributes := #[] }, { accessFlags := 25, nameIndex := 282, descriptorIndex := 25, attributes := #[] }, { accessFlags := 25, nameIndex := 284, descriptorIndex := 25, attributes := #[] }, { accessFlags := 25, nameIndex := 286, descriptorIndex := 25, attributes := #[] }, { accessFlags := 25, nameIndex := 288, descriptorIndex := 25, attributes := #[] }, { accessFlags := 25, nameIndex := 290, descriptorIndex := 25, attributes := #[] }, { accessFlags := 25, nameIndex := 292, descriptorIndex := 25, attributes := #[] }, { accessFlags := 26, nameIndex := 108, descriptorIndex := 109, attributes := #[] }, { accessFlags := 25, nameIndex := 294, descriptorIndex := 25, attributes := #[] }])
  fields := #[{ name := "U", type := (.object "jdk/internal/misc/Unsafe"), accessFlags := 24, slot := 0, constantValue := 0 }, { name := "BIG_ENDIAN", type := .boolean, accessFlags := 26, slot := 1, constantValue := 0 }, { name := "LOG2_ARRAY_BOOLEAN_INDEX_SCALE", type := .int, accessFlags := 25, slot := 2, constantValue := 0 }, { name := "LOG2_ARRAY_BYTE_INDEX_SCALE", type := .int, accessFlags := 25, slot := 3, constantValue := 0 }, { name := "LOG2_ARRAY_CHAR_INDEX_SCALE", type := .int, accessFlags := 25, slot := 4, constantValue := 0 }, { name := "LOG2_ARRAY_SHORT_INDEX_SCALE", type := .int, accessFlags := 25, slot := 5, constantValue := 0 }, { name := "LOG2_ARRAY_INT_INDEX_SCALE", type := .int, accessFlags := 25, slot := 6, constantValue := 0 }, { name := "LOG2_ARRAY_LONG_INDEX_SCALE", type := .int, accessFlags := 25, slot := 7, constantValue := 0 }, { name := "LOG2_ARRAY_FLOAT_INDEX_SCALE", type := .int, accessFlags := 25, slot := 8, constantValue := 0 }, { name := "LOG2_ARRAY_DOUBLE_INDEX_SCALE", type := .int, accessFlags := 25, slot := 9, constantValue := 0 }, { name := "LOG2_BYTE_BIT_SIZE", type := .int, accessFlags := 26, slot := 10, constantValue := 0 }, { name := "T_BOOLEAN", type := .int, accessFlags := 25, slot := 11, constantValue := 0 }, { name := "T_CHAR", type := .int, accessFlags := 25, slot := 12, constantValue := 0 }, { name := "T_FLOAT", type := .int, accessFlags := 25, slot := 13, constantValue := 0 }, { name := "T_DOUBLE", type := .int, accessFlags := 25, slot := 14, constantValue := 0 }, { name := "T_BYTE", type := .int, accessFlags := 25, slot := 15, constantValue := 0 }, { name := "T_SHORT", type := .int, accessFlags := 25, slot := 16, constantValue := 0 }, { name := "T_INT", type := .int, accessFlags := 25, slot := 17, constantValue := 0 }, { name := "T_LONG", type := .int, accessFlags := 25, slot := 18, constantValue := 0 }, { name := "JLA", type := (.object "jdk/internal/access/JavaLangAccess"), accessFlags := 26, slot := 19, constantValue := 0 }, { name := "SOFT_MAX_ARRAY_LENGTH", type := .int, accessFlags := 25, slot := 20, constantValue := 0 }]
  methods := #[k17m0]
  instanceTypes := #[]
  staticTypes := #[(.object "jdk/internal/misc/Unsafe"), .boolean, .int, .int, .int, .int, .int, .int, .int, .int, .int, .int, .int, .int, .int, .int, .int, .int, .int, (.object "jdk/internal/access/JavaLangAccess"), .int]
  resolved := Array.replicate 378 none
  statics := none }

def pool18 : Array CpInfo := pool [(1, u "java/lang/Cloneable"), (0, .class_ 1), (0, u "java/lang/Object"), (0, .class_ 3)] 3

/-- java/lang/Cloneable -/
def k18 : Class := { plain "java/lang/Cloneable" (some 0) with
  accessFlags := 1537
  interfaces := #[]
  cf := some (fileOf pool18 2 #[] #[] 1537 4 #[] #[])
  fields := #[]
  methods := #[]
  instanceTypes := #[]
  staticTypes := #[]
  resolved := Array.replicate 8 none
  statics := none }

/-- the primitive byte -/
def k19 : Class := { plain "byte" none with kind := .primitive 'B', accessFlags := 0x411 }
/-- [B -/
def k20 : Class := { plain "[B" (some 0) with kind := .array 19 .byte, interfaces := #[18, 2], accessFlags := 1041 }

/-- the primitive char -/
def k21 : Class := { plain "char" none with kind := .primitive 'C', accessFlags := 0x411 }
/-- [C -/
def k22 : Class := { plain "[C" (some 0) with kind := .array 21 .char, interfaces := #[18, 2], accessFlags := 1041 }

/-- the primitive int -/
def k23 : Class := { plain "int" none with kind := .primitive 'I', accessFlags := 0x411 }
/-- [I -/
def k24 : Class := { plain "[I" (some 0) with kind := .array 23 .int, interfaces := #[18, 2], accessFlags := 1041 }

def heap : Heap := #[{ cls := 7, slots := #[.long 0, .int 1, .null, .int 0, .null, .int 0, .int 0], vm := .statics 7 },
  { cls := 9, slots := #[.ref 6], vm := .statics 9 },
  { cls := 13, slots := #[.ref 4, .ref 5, .null], vm := .statics 13 },
  { cls := 16, slots := #[.null, .null, .null], vm := .statics 16 },
  { cls := 13, slots := #[.null, .int 0, .int 0, .null], vm := .none },
  { cls := 13, slots := #[.null, .int 1, .int 0, .null], vm := .none },
  { cls := 9, slots := #[.null], vm := .none }]
def classes : Array Class := #[k0, k1, k2, k3, k4, k5, k6, k7, k8, k9, k10, k11, k12, k13, k14, k15, k16, k17, k18, k19, k20, k21, k22, k23, k24]
def interned : List (Array UInt16 × Addr) := []
def slotsUsed : Nat := 23
def theMethod : MethodId := ⟨1, 3⟩
def args0 : Array Value := #[.int 7, .int 65, .int 66, .int 67]
def aboutOver (below : List Frame) : State where
  vm := { classes := classes, interned := interned.toArray }
  heap := heap
  slotsUsed := slotsUsed
  threads := #[{ frames := .invoking theMethod args0 :: below }]
def below0 : List Frame := [.native { method := ⟨0, 0⟩, args := #[] }]
def about1 : State := aboutOver below0
def p0 : Program := .bare "" "" ""
def e0 : Env := launch0.env 0 0 0
theorem w_frames : about1.frames = Frame.invoking theMethod args0 :: below0 := rfl
set_option maxRecDepth 65536 in
theorem w_args : argsFit about1.vm theMethod args0 = true := by decide +kernel
set_option maxRecDepth 65536 in
theorem w_heap : heapFits about1 = true := by decide +kernel
set_option maxRecDepth 65536 in
theorem w_runnable : about1.curStatus? = some .runnable := by decide +kernel
set_option maxRecDepth 65536 in
theorem w_alone : about1.alone = true := by decide +kernel
set_option maxRecDepth 65536 in
theorem w_named : about1.methodNamed? x = some theMethod := by decide +kernel
set_option maxRecDepth 65536 in
theorem w_hears : about1.hears theMethod below0 = true := by decide +kernel
set_option maxRecDepth 65536 in
theorem w_ripe : about1.ripe theMethod args0 below0 = true := by decide +kernel
theorem w_running : about1.status = .running := rfl
set_option maxRecDepth 65536 in
theorem w_room : about1.hasRoom e0.platform room_1 = true :=
  launch0.hasRoom_least _ room_1 (by decide +kernel) (by decide +kernel) (by decide +kernel) (by decide +kernel) (by decide +kernel) (by decide +kernel)
theorem allAtoms_all (ts : List Jvm.Cond) (a : Array Jvm.Value) (st : Jvm.State) : (allAtoms ts).before a st = ts.all (fun c => c.before a st) := by
  induction ts with
  | nil => rfl
  | cons c t ih =>
    show (Jvm.Cond.and c (allAtoms t)).before a st = _
    rw [Jvm.Cond.before_and, ih, List.all_cons]
def words1 : List Jvm.Cond := Jvm.Cond.code x code maxLocals ret :: tables_1
/-- a 'code' word, met by the world's own term for the bytes: nothing is compared byte by byte -/
theorem code_word {y : MethodName} {bytes : ByteArray} {mx : Nat} {rt : Option FieldType} {a : Array Value} {s : State} {m : MethodId} {meth : Method} {c : Code} (h1 : s.methodNamed? y = some m) (h2 : s.vm.method? m = some meth) (h3 : meth.code = some c) (h4 : c.code = bytes)
    (h5 : (c.maxLocals == mx && c.exceptionTable.isEmpty && decide (c.maxStack ≤ mostOperands) && decide (meth.sig.returnType = rt) && !meth.locks && decide (parseMethodDescriptor y.desc = some meth.sig)) = true) : (Jvm.Cond.code y bytes mx rt).before a s = true := by
  simp only [Bool.and_eq_true, beq_iff_eq, Bool.not_eq_true', decide_eq_true_eq] at h5
  obtain ⟨⟨⟨⟨⟨g1, g2⟩, g3⟩, g4⟩, g5⟩, g6⟩ := h5
  simp [Cond.before, Cond.holds, Cond.value, h1, h2, h3, h4, g1, g2, g3, g4, g5, g6]
def isCode : Jvm.Cond → Bool
  | .code _ _ _ _ => true
  | _ => false
theorem all_split {L : List Jvm.Cond} {P : Jvm.Cond → Bool} (h1 : L.all (fun c => isCode c || P c) = true) (h2 : ∀ c ∈ L.filter isCode, P c = true) : L.all P = true := by
  refine List.all_eq_true.mpr fun c hc => ?_
  have h := List.all_eq_true.mp h1 c hc
  rcases Bool.eq_false_or_eq_true (isCode c) with hi | hi
  · exact h2 c (List.mem_filter.mpr ⟨hc, hi⟩)
  · simpa [hi] using h
set_option maxRecDepth 65536 in
theorem w_c0 : (Jvm.Cond.code x code maxLocals ret).before args0 about1 = true := code_word (m := ⟨1, 3⟩) (meth := k1m3) (c := k1c3) (by decide +kernel) rfl rfl rfl (by decide +kernel)
set_option maxRecDepth 65536 in
theorem w_c1 : (Jvm.Cond.code ({ cls := "java/lang/String", name := "<init>", desc := "([C)V" } : Jvm.MethodName) jdk_42_method_3_code (2 : Nat) (Option.none : Option Jvm.ClassFile.FieldType)).before args0 about1 = true := code_word (m := ⟨7, 1⟩) (meth := k7m1) (c := k7c1) (by decide +kernel) rfl rfl rfl (by decide +kernel)
set_option maxRecDepth 65536 in
theorem w_c2 : (Jvm.Cond.code ({ cls := "java/lang/String", name := "<init>", desc := "([CIILjava/lang/Void;)V" } : Jvm.MethodName) jdk_42_method_149_code (6 : Nat) (Option.none : Option Jvm.ClassFile.FieldType)).before args0 about1 = true := code_word (m := ⟨7, 3⟩) (meth := k7m3) (c := k7c3) (by decide +kernel) rfl rfl rfl (by decide +kernel)
set_option maxRecDepth 65536 in
theorem w_c3 : (Jvm.Cond.code ({ cls := "java/lang/Object", name := "<init>", desc := "()V" } : Jvm.MethodName) object_method_1_code (1 : Nat) (Option.none : Option Jvm.ClassFile.FieldType)).before args0 about1 = true := code_word (m := ⟨0, 0⟩) (meth := k0m0) (c := k0c0) (by decide +kernel) rfl rfl rfl (by decide +kernel)
set_option maxRecDepth 65536 in
theorem w_c4 : (Jvm.Cond.code ({ cls := "java/lang/StringUTF16", name := "compress", desc := "([CII)[B" } : Jvm.MethodName) jdk_52_method_16_code (6 : Nat) (Option.some (Jvm.ClassFile.FieldType.array Jvm.ClassFile.FieldType.byte))).before args0 about1 = true := code_word (m := ⟨8, 2⟩) (meth := k8m2) (c := k8c2) (by decide +kernel) rfl rfl rfl (by decide +kernel)
set_option maxRecDepth 65536 in
theorem w_c5 : (Jvm.Cond.code ({ cls := "java/lang/StringUTF16", name := "compress", desc := "([CI[BII)I" } : Jvm.MethodName) jdk_52_method_21_code (7 : Nat) (Option.some Jvm.ClassFile.FieldType.int)).before args0 about1 = true := code_word (m := ⟨8, 3⟩) (meth := k8m3) (c := k8c3) (by decide +kernel) rfl rfl rfl (by decide +kernel)
set_option maxRecDepth 65536 in
theorem w_c6 : (Jvm.Cond.code ({ cls := "java/lang/StringUTF16", name := "coderFromArrayLen", desc := "([BI)B" } : Jvm.MethodName) jdk_52_method_15_code (2 : Nat) (Option.some Jvm.ClassFile.FieldType.byte)).before args0 about1 = true := code_word (m := ⟨8, 1⟩) (meth := k8m1) (c := k8c1) (by decide +kernel) rfl rfl rfl (by decide +kernel)
set_option maxRecDepth 65536 in
theorem w_c7 : (Jvm.Cond.code ({ cls := "java/util/Optional", name := "empty", desc := "()Ljava/util/Optional;" } : Jvm.MethodName) jdk_32_method_1_code (1 : Nat) (Option.some (Jvm.ClassFile.FieldType.object "java/util/Optional"))).before args0 about1 = true := code_word (m := ⟨9, 0⟩) (meth := k9m0) (c := k9c0) (by decide +kernel) rfl rfl rfl (by decide +kernel)
set_option maxRecDepth 65536 in
theorem w_c8 : (Jvm.Cond.code ({ cls := "com/example/grantwright/grantwright/PathTable$Row", name := "<init>", desc := "(Ljava/lang/String;ZZLjava/util/Optional;)V" } : Jvm.MethodName) prog_11_method_1_code (5 : Nat) (Option.none : Option Jvm.ClassFile.FieldType)).before args0 about1 = true := code_word (m := ⟨11, 0⟩) (meth := k11m0) (c := k11c0) (by decide +kernel) rfl rfl rfl (by decide +kernel)
set_option maxRecDepth 65536 in
theorem w_c9 : (Jvm.Cond.code ({ cls := "java/lang/Record", name := "<init>", desc := "()V" } : Jvm.MethodName) jdk_30_method_1_code (1 : Nat) (Option.none : Option Jvm.ClassFile.FieldType)).before args0 about1 = true := code_word (m := ⟨10, 0⟩) (meth := k10m0) (c := k10c0) (by decide +kernel) rfl rfl rfl (by decide +kernel)
set_option maxRecDepth 65536 in
theorem w_c10 : (Jvm.Cond.code ({ cls := "com/example/grantwright/grantwright/PathTable$Row", name := "denies", desc := "(Lcom/example/grantwright/grantwright/PathActivity;)Z" } : Jvm.MethodName) prog_11_method_2_code (2 : Nat) (Option.some Jvm.ClassFile.FieldType.boolean)).before args0 about1 = true := code_word (m := ⟨11, 1⟩) (meth := k11m1) (c := k11c1) (by decide +kernel) rfl rfl rfl (by decide +kernel)
set_option maxRecDepth 65536 in
theorem w_c11 : (Jvm.Cond.code ({ cls := "com/example/grantwright/grantwright/RowDeniesPinLaw", name := "expectedRead", desc := "(ZZ)Z" } : Jvm.MethodName) method_2_code (2 : Nat) (Option.some Jvm.ClassFile.FieldType.boolean)).before args0 about1 = true := code_word (m := ⟨1, 1⟩) (meth := k1m1) (c := k1c1) (by decide +kernel) rfl rfl rfl (by decide +kernel)
set_option maxRecDepth 65536 in
theorem w_c12 : (Jvm.Cond.code ({ cls := "com/example/grantwright/grantwright/RowDeniesPinLaw", name := "expectedWrite", desc := "(ZZ)Z" } : Jvm.MethodName) method_3_code (2 : Nat) (Option.some Jvm.ClassFile.FieldType.boolean)).before args0 about1 = true := code_word (m := ⟨1, 2⟩) (meth := k1m2) (c := k1c2) (by decide +kernel) rfl rfl rfl (by decide +kernel)
set_option maxRecDepth 65536 in
theorem w_c13 : (Jvm.Cond.code ({ cls := "java/lang/String", name := "valueOf", desc := "(C)Ljava/lang/String;" } : Jvm.MethodName) jdk_42_method_139_code (1 : Nat) (Option.some (Jvm.ClassFile.FieldType.object "java/lang/String"))).before args0 about1 = true := code_word (m := ⟨7, 2⟩) (meth := k7m2) (c := k7c2) (by decide +kernel) rfl rfl rfl (by decide +kernel)
set_option maxRecDepth 65536 in
theorem w_c14 : (Jvm.Cond.code ({ cls := "java/lang/StringLatin1", name := "canEncode", desc := "(C)Z" } : Jvm.MethodName) jdk_43_method_3_code (1 : Nat) (Option.some Jvm.ClassFile.FieldType.boolean)).before args0 about1 = true := code_word (m := ⟨14, 1⟩) (meth := k14m1) (c := k14c1) (by decide +kernel) rfl rfl rfl (by decide +kernel)
set_option maxRecDepth 65536 in
theorem w_c15 : (Jvm.Cond.code ({ cls := "java/lang/StringLatin1", name := "toBytes", desc := "(C)[B" } : Jvm.MethodName) jdk_43_method_46_code (1 : Nat) (Option.some (Jvm.ClassFile.FieldType.array Jvm.ClassFile.FieldType.byte))).before args0 about1 = true := code_word (m := ⟨14, 2⟩) (meth := k14m2) (c := k14c2) (by decide +kernel) rfl rfl rfl (by decide +kernel)
set_option maxRecDepth 65536 in
theorem w_c16 : (Jvm.Cond.code ({ cls := "java/lang/String", name := "<init>", desc := "([BB)V" } : Jvm.MethodName) jdk_42_method_151_code (3 : Nat) (Option.none : Option Jvm.ClassFile.FieldType)).before args0 about1 = true := code_word (m := ⟨7, 4⟩) (meth := k7m4) (c := k7c4) (by decide +kernel) rfl rfl rfl (by decide +kernel)
set_option maxRecDepth 65536 in
theorem w_c17 : (Jvm.Cond.code ({ cls := "java/util/Optional", name := "of", desc := "(Ljava/lang/Object;)Ljava/util/Optional;" } : Jvm.MethodName) jdk_32_method_3_code (1 : Nat) (Option.some (Jvm.ClassFile.FieldType.object "java/util/Optional"))).before args0 about1 = true := code_word (m := ⟨9, 2⟩) (meth := k9m2) (c := k9c2) (by decide +kernel) rfl rfl rfl (by decide +kernel)
set_option maxRecDepth 65536 in
theorem w_c18 : (Jvm.Cond.code ({ cls := "java/util/Objects", name := "requireNonNull", desc := "(Ljava/lang/Object;)Ljava/lang/Object;" } : Jvm.MethodName) jdk_31_method_10_code (1 : Nat) (Option.some (Jvm.ClassFile.FieldType.object "java/lang/Object"))).before args0 about1 = true := code_word (m := ⟨15, 1⟩) (meth := k15m1) (c := k15c1) (by decide +kernel) rfl rfl rfl (by decide +kernel)
set_option maxRecDepth 65536 in
theorem w_c19 : (Jvm.Cond.code ({ cls := "java/util/Optional", name := "<init>", desc := "(Ljava/lang/Object;)V" } : Jvm.MethodName) jdk_32_method_2_code (2 : Nat) (Option.none : Option Jvm.ClassFile.FieldType)).before args0 about1 = true := code_word (m := ⟨9, 1⟩) (meth := k9m1) (c := k9c1) (by decide +kernel) rfl rfl rfl (by decide +kernel)
def codes1 : List Jvm.Cond := [Jvm.Cond.code x code maxLocals ret, Jvm.Cond.code ({ cls := "java/lang/String", name := "<init>", desc := "([C)V" } : Jvm.MethodName) jdk_42_method_3_code (2 : Nat) (Option.none : Option Jvm.ClassFile.FieldType), Jvm.Cond.code ({ cls := "java/lang/String", name := "<init>", desc := "([CIILjava/lang/Void;)V" } : Jvm.MethodName) jdk_42_method_149_code (6 : Nat) (Option.none : Option Jvm.ClassFile.FieldType), Jvm.Cond.code ({ cls := "java/lang/Object", name := "<init>", desc := "()V" } : Jvm.MethodName) object_method_1_code (1 : Nat) (Option.none : Option Jvm.ClassFile.FieldType), Jvm.Cond.code ({ cls := "java/lang/StringUTF16", name := "compress", desc := "([CII)[B" } : Jvm.MethodName) jdk_52_method_16_code (6 : Nat) (Option.some (Jvm.ClassFile.FieldType.array Jvm.ClassFile.FieldType.byte)), Jvm.Cond.code ({ cls := "java/lang/StringUTF16", name := "compress", desc := "([CI[BII)I" } : Jvm.MethodName) jdk_52_method_21_code (7 : Nat) (Option.some Jvm.ClassFile.FieldType.int), Jvm.Cond.code ({ cls := "java/lang/StringUTF16", name := "coderFromArrayLen", desc := "([BI)B" } : Jvm.MethodName) jdk_52_method_15_code (2 : Nat) (Option.some Jvm.ClassFile.FieldType.byte), Jvm.Cond.code ({ cls := "java/util/Optional", name := "empty", desc := "()Ljava/util/Optional;" } : Jvm.MethodName) jdk_32_method_1_code (1 : Nat) (Option.some (Jvm.ClassFile.FieldType.object "java/util/Optional")), Jvm.Cond.code ({ cls := "com/example/grantwright/grantwright/PathTable$Row", name := "<init>", desc := "(Ljava/lang/String;ZZLjava/util/Optional;)V" } : Jvm.MethodName) prog_11_method_1_code (5 : Nat) (Option.none : Option Jvm.ClassFile.FieldType), Jvm.Cond.code ({ cls := "java/lang/Record", name := "<init>", desc := "()V" } : Jvm.MethodName) jdk_30_method_1_code (1 : Nat) (Option.none : Option Jvm.ClassFile.FieldType), Jvm.Cond.code ({ cls := "com/example/grantwright/grantwright/PathTable$Row", name := "denies", desc := "(Lcom/example/grantwright/grantwright/PathActivity;)Z" } : Jvm.MethodName) prog_11_method_2_code (2 : Nat) (Option.some Jvm.ClassFile.FieldType.boolean), Jvm.Cond.code ({ cls := "com/example/grantwright/grantwright/RowDeniesPinLaw", name := "expectedRead", desc := "(ZZ)Z" } : Jvm.MethodName) method_2_code (2 : Nat) (Option.some Jvm.ClassFile.FieldType.boolean), Jvm.Cond.code ({ cls := "com/example/grantwright/grantwright/RowDeniesPinLaw", name := "expectedWrite", desc := "(ZZ)Z" } : Jvm.MethodName) method_3_code (2 : Nat) (Option.some Jvm.ClassFile.FieldType.boolean), Jvm.Cond.code ({ cls := "java/lang/String", name := "valueOf", desc := "(C)Ljava/lang/String;" } : Jvm.MethodName) jdk_42_method_139_code (1 : Nat) (Option.some (Jvm.ClassFile.FieldType.object "java/lang/String")), Jvm.Cond.code ({ cls := "java/lang/StringLatin1", name := "canEncode", desc := "(C)Z" } : Jvm.MethodName) jdk_43_method_3_code (1 : Nat) (Option.some Jvm.ClassFile.FieldType.boolean), Jvm.Cond.code ({ cls := "java/lang/StringLatin1", name := "toBytes", desc := "(C)[B" } : Jvm.MethodName) jdk_43_method_46_code (1 : Nat) (Option.some (Jvm.ClassFile.FieldType.array Jvm.ClassFile.FieldType.byte)), Jvm.Cond.code ({ cls := "java/lang/String", name := "<init>", desc := "([BB)V" } : Jvm.MethodName) jdk_42_method_151_code (3 : Nat) (Option.none : Option Jvm.ClassFile.FieldType), Jvm.Cond.code ({ cls := "java/util/Optional", name := "of", desc := "(Ljava/lang/Object;)Ljava/util/Optional;" } : Jvm.MethodName) jdk_32_method_3_code (1 : Nat) (Option.some (Jvm.ClassFile.FieldType.object "java/util/Optional")), Jvm.Cond.code ({ cls := "java/util/Objects", name := "requireNonNull", desc := "(Ljava/lang/Object;)Ljava/lang/Object;" } : Jvm.MethodName) jdk_31_method_10_code (1 : Nat) (Option.some (Jvm.ClassFile.FieldType.object "java/lang/Object")), Jvm.Cond.code ({ cls := "java/util/Optional", name := "<init>", desc := "(Ljava/lang/Object;)V" } : Jvm.MethodName) jdk_32_method_2_code (2 : Nat) (Option.none : Option Jvm.ClassFile.FieldType)]
set_option maxRecDepth 65536 in
theorem codes_eq : words1.filter isCode = codes1 := rfl
theorem w_codes : ∀ c ∈ words1.filter isCode, c.before args0 about1 = true := by
  rw [codes_eq]
  intro c hc
  simp only [codes1, List.mem_cons, List.not_mem_nil, or_false] at hc
  rcases hc with rfl | rfl | rfl | rfl | rfl | rfl | rfl | rfl | rfl | rfl | rfl | rfl | rfl | rfl | rfl | rfl | rfl | rfl | rfl | rfl
  · exact w_c0
  · exact w_c1
  · exact w_c2
  · exact w_c3
  · exact w_c4
  · exact w_c5
  · exact w_c6
  · exact w_c7
  · exact w_c8
  · exact w_c9
  · exact w_c10
  · exact w_c11
  · exact w_c12
  · exact w_c13
  · exact w_c14
  · exact w_c15
  · exact w_c16
  · exact w_c17
  · exact w_c18
  · exact w_c19
set_option maxRecDepth 65536 in
theorem w_t1 : (words1.take 24).all (fun c => isCode c || c.before args0 about1) = true := by decide +kernel
set_option maxRecDepth 65536 in
theorem w_t2 : ((words1.drop 24).take 24).all (fun c => isCode c || c.before args0 about1) = true := by decide +kernel
set_option maxRecDepth 65536 in
theorem w_t3 : (((words1.drop 24).drop 24).take 24).all (fun c => isCode c || c.before args0 about1) = true := by decide +kernel
set_option maxRecDepth 65536 in
theorem w_t4 : ((((words1.drop 24).drop 24).drop 24).take 24).all (fun c => isCode c || c.before args0 about1) = true := by decide +kernel
set_option maxRecDepth 65536 in
theorem w_t5 : ((((words1.drop 24).drop 24).drop 24).drop 24).all (fun c => isCode c || c.before args0 about1) = true := by decide +kernel
theorem w_tables : (allAtoms (Jvm.Cond.code x code maxLocals ret :: tables_1)).before args0 about1 = true := by
  rw [allAtoms_all]
  show words1.all (fun c => c.before args0 about1) = true
  refine all_split ?_ w_codes
  rw [← List.take_append_drop 24 words1, List.all_append, w_t1, ← List.take_append_drop 24 (words1.drop 24), List.all_append, w_t2, ← List.take_append_drop 24 ((words1.drop 24).drop 24), List.all_append, w_t3, ← List.take_append_drop 24 (((words1.drop 24).drop 24).drop 24), List.all_append, w_t4, w_t5]
  rfl
set_option maxRecDepth 65536 in
theorem w_rest : rest_1_c.before args0 about1 = true := by decide +kernel
set_option maxRecDepth 65536 in
theorem w_case : (Jvm.Cond.and given_1 narrow_1).before args0 about1 = true := by decide +kernel
theorem w_applies : (headSpec (Jvm.Cond.code x code maxLocals ret :: tables_1) room_1).applies x e0.platform about1 = true :=
  (Spec.applies_iff w_frames).mpr ⟨w_running, w_runnable, w_alone, w_named, w_hears, w_ripe, w_room, w_tables⟩
theorem atStart : AtStart classFile x code maxLocals ret World_1 tables_1 room_1 Calls_1 rest_1 Pre_1 launch0 p0 e0 about1 theMethod args0 below0 :=
  ⟨lists_1, trivial, launch0.admits_env _ _ _, launch0.least_env, fairChoices_fair.cas, fairChoices_fair.clock, w_frames, w_args, w_heap, w_applies, trivial, w_rest, w_case⟩
end start1
theorem witness_1 : WitnessClaimed_1 := ⟨start1.p0, start1.e0, start1.about1, start1.theMethod, start1.args0, start1.below0, start1.atStart⟩
end Jvm.Pilot.@@N@@
