import JvmDerived
import JvmDerived.Pilot.@@N@@Statement
import JvmDerived.Pilot.@@N@@Code
set_option linter.unusedVariables false
set_option linter.unusedSimpArgs false
namespace Jvm.RoadKit
open Sem ClassFile Op Lib Jvm.Stand Jvm.Free Jvm.LawKit
section New
variable {p : Program} {l : Launch} {e : Env} {R : Room} {s : State} {m : MethodId} {args : Array Value} {below : List Frame} {meth : Method} {c : Code} {T : State} {locs : List Loc} {cells slots : Nat}
theorem retI (X : Stand p l e R s m args below meth c T locs cells slots) (hx : p.tables.exec = Jvm.exec) {pc : Nat} {Ls : Array Slot} {z : Int32} {rest : List Value} (hret : meth.sig.returnType = some .int) (hd : decode c.code pc = .ok (.ireturn, 1)) {fs : List Frame}
    (hl : ∀ (f : JFrame) (acts : List Action), f.method = m → f.locked = none → f.entered = [] → (doReturn e (T.setTop f) acts (some (.int z))).1 = T.setFrames fs) : Steps p.tables e below (T.setTop (mkF m pc Ls (.int z :: rest))) (T.setFrames fs) := by
  have hm' : T.vm.method? m = some meth := X.method'
  have hn : narrow .int (.int z) = .int z := rfl
  show Steps p.tables e below (T.setTop { method := m, pc := pc, locals := Ls, stack := _ :: rest, locked := none }) _
  jvm_step X.here [X.here.top, hx, hd, hm', hret, hn]
  first | (intro acts; rw [hl _ acts rfl rfl rfl]) | rw [hl _ _ rfl rfl rfl]
  exact Steps.refl _
end New
end Jvm.RoadKit
/- laws to paste: Road.backV (cut by pick.py; bodies as the Statement names them) -/
namespace Jvm.Pilot.@@N@@
namespace StrChars
open Jvm Sem ClassFile Op Lib Jvm.Stand Jvm.Free.XT Jvm.Free.ALB Jvm.Free.JM Jvm.Free
open Jvm.Lib.Cold (StaticIs)
/-- a char array whose places are chars -/
def Ch (a : Addr) (A : Cell) (U : State) : Prop := Arr .char a A U ∧ Typed .char A
theorem Ch.mv {a : Addr} {A : Cell} {U U' : State} (h : Ch a A U) (hal : U.vm.Alike U'.vm) (hh : U'.heap = U.heap) : Ch a A U' := ⟨h.1.mv hal hh, h.2⟩
theorem Ch.keep {a : Addr} {A : Cell} {U U' : State} (h : Ch a A U) (hal : U.vm.Alike U'.vm) (hk : U'.heap[a]? = some A) : Ch a A U' := ⟨h.1.keep hal hk, h.2⟩
/-- what place i of a char[]'s cell holds -/
def cv (A : Cell) (i : Nat) : Int32 := match A.slots[i]? with | some (.int x) => x | _ => 0
theorem Ch.get {a : Addr} {A : Cell} {U : State} (h : Ch a A U) {i : Nat} (hi : i < A.slots.size) : A.slots[i]? = some (.int (cv A i)) := by
  have e := Array.getElem?_eq_getElem hi
  have f := h.2 i _ e
  unfold cv; rw [e]
  generalize A.slots[i] = v at f
  cases v <;> simp [fits] at f ⊢
/-- the byte that i2b leaves of a char -/
def lo8 (x : Int32) : Int32 := x.toInt8.toInt32
theorem fits_lo8 (y : Int32) : fits .byte (.int (lo8 y)) = true := by
  have h1 := y.toInt8.le_toInt
  have h2 := y.toInt8.toInt_lt
  simp only [lo8, fits, Bool.and_eq_true, decide_eq_true_eq, Int32.le_iff_toInt_le, Int8.toInt_toInt32, show (-128 : Int32).toInt = -128 from by decide, show (127 : Int32).toInt = 127 from by decide]
  omega
/-- A' is A but that each place j of lo .. hi - 1 holds f j -/
def Laid (A A' : Cell) (lo hi : Nat) (f : Nat → Value) : Prop := A'.cls = A.cls ∧ A'.vm = A.vm ∧ A'.slots.size = A.slots.size ∧ ∀ i, A'.slots[i]? = if lo ≤ i ∧ i < hi then some (f i) else A.slots[i]?
theorem Laid.zero (A : Cell) (lo : Nat) (f : Nat → Value) : Laid A A lo (lo + 0) f := ⟨rfl, rfl, rfl, fun i => by rw [if_neg (by omega)]⟩
theorem Laid.step {A Ak : Cell} {lo k : Nat} {f : Nat → Value} {v : Value} (h : Laid A Ak lo k f) (hlo : lo ≤ k) (hk : k < Ak.slots.size) (hv : v = f k) : Laid A (Ak.setSlot k v) lo (k + 1) f := by
  refine ⟨h.1, h.2.1, by simpa [Cell.setSlot] using h.2.2.1, fun i => ?_⟩
  by_cases e : k = i
  · subst e; rw [Cell.slots_setSlot_self v hk, if_pos (by omega), hv]
  · rw [Cell.slots_setSlot_ne v e, h.2.2.2 i]
    by_cases q : lo ≤ i ∧ i < k
    · rw [if_pos q, if_pos (by omega)]
    · rw [if_neg q, if_neg (by omega)]
def U16 : String := "java/lang/StringUTF16"
namespace Cmp5
def yN : MethodName := ⟨"java/lang/StringUTF16", "compress", "([CI[BII)I"⟩
abbrev yB : ByteArray := jdk_52_method_21_code
theorem d0 : decode yB 0 = .ok (.iconst 0, 1) := by decide +kernel
theorem d1 : decode yB 1 = .ok (.istore 5, 2) := by decide +kernel
theorem d3 : decode yB 3 = .ok (.iload 5, 2) := by decide +kernel
theorem d5 : decode yB 5 = .ok (.iload 4, 2) := by decide +kernel
theorem d7 : decode yB 7 = .ok (.if_icmp (.ge) 37, 3) := by decide +kernel
theorem d10 : decode yB 10 = .ok (.aload_n 0, 1) := by decide +kernel
theorem d11 : decode yB 11 = .ok (.iload_n 1, 1) := by decide +kernel
theorem d12 : decode yB 12 = .ok (.caload, 1) := by decide +kernel
theorem d13 : decode yB 13 = .ok (.istore 6, 2) := by decide +kernel
theorem d15 : decode yB 15 = .ok (.iload 6, 2) := by decide +kernel
theorem d17 : decode yB 17 = .ok (.sipush 255, 3) := by decide +kernel
theorem d20 : decode yB 20 = .ok (.if_icmp (.le) 6, 3) := by decide +kernel
theorem d26 : decode yB 26 = .ok (.aload_n 2, 1) := by decide +kernel
theorem d27 : decode yB 27 = .ok (.iload_n 3, 1) := by decide +kernel
theorem d28 : decode yB 28 = .ok (.iload 6, 2) := by decide +kernel
theorem d30 : decode yB 30 = .ok (.i2b, 1) := by decide +kernel
theorem d31 : decode yB 31 = .ok (.bastore, 1) := by decide +kernel
theorem d32 : decode yB 32 = .ok (.iinc 1 1, 3) := by decide +kernel
theorem d35 : decode yB 35 = .ok (.iinc 3 1, 3) := by decide +kernel
theorem d38 : decode yB 38 = .ok (.iinc 5 1, 3) := by decide +kernel
theorem d41 : decode yB 41 = .ok (.goto (-38), 3) := by decide +kernel
theorem d44 : decode yB 44 = .ok (.iload 4, 2) := by decide +kernel
theorem d46 : decode yB 46 = .ok (.ireturn, 1) := by decide +kernel
def site : List Cond := []
def tab : Cond := tabOf yN yB 7 (some .int) site
def P (b : Addr) (A : Cell) (d : Addr) (B : Cell) (o q len : Nat) (args : Array Value) (s : State) : Prop := args = #[.ref b, .int (Int32.ofNat o), .ref d, .int (Int32.ofNat q), .int (Int32.ofNat len)] ∧ Ch b A s ∧ Arr .byte d B s ∧ b ≠ d ∧ o + len ≤ A.slots.size ∧ q + len ≤ B.slots.size ∧ ∀ i, i < len → ¬ 255 < cv A (o + i)
def E (b : Addr) (A : Cell) (d : Addr) (B : Cell) (o q len : Nat) (r : Option Value) (s u : State) : Prop := r = some (.int (Int32.ofNat len)) ∧ ∃ B', Put d B' s u ∧ Laid B B' q (q + len) (fun j => Value.int (lo8 (cv A (o + (j - q)))))
/-- no char of the range above 255: len; the places written hold each char's low byte -/
theorem law (l : Launch) (b : Addr) (A : Cell) (d : Addr) (B : Cell) (o q len : Nat) : Law l yN 5 5 0 0 yB 7 (some .int) site (P b A d B o q len) (E b A d B o q len) (copyLocs d q len) 0 0 := by
  refine Law.of_walk (plainFor_of_name (by decide +kernel)) (by decide +kernel) (by decide +kernel) (by decide) (fun _ _ h => by rw [h.1]; rfl) (fun _ U U' hal hh h => ⟨h.1, h.2.1.mv hal hh, h.2.2.1.mv hal hh, h.2.2.2⟩) (fun r U U' V V' h1 hal h2 h => ⟨h.1, h.2.elim fun B' q => ⟨B', q.1.mv h1 h2, q.2⟩⟩) ?_
  intro p e s m args below meth c s₁ X0 hexec hbytes hml hret hlk hnm hown hh0 W hP
  obtain ⟨rfl, hA, hB, hne, l1, l2, hp⟩ := hP
  have c1 : Steps p.tables e below (s₁.setTop (entryFrame m #[.ref b, .int (Int32.ofNat o), .ref d, .int (Int32.ofNat q), .int (Int32.ofNat len)] 7)) (s₁.setTop (mkF m 0 #[.val (.ref b), .val (.int (Int32.ofNat o)), .val (.ref d), .val (.int (Int32.ofNat q)), .val (.int (Int32.ofNat len)), .unset, .unset] [])) := entry rfl
  have hA0 := hA.1.mv X0.warmed.alike hh0
  have hB0 := hB.mv X0.warmed.alike hh0
  have a31 := hA.1.2.2.2
  have c2 : Steps p.tables e below (s₁.setTop (entryFrame m #[.ref b, .int (Int32.ofNat o), .ref d, .int (Int32.ofNat q), .int (Int32.ofNat len)] 7)) (s₁.setTop (mkF m 3 #[.val (.ref b), .val (.int (Int32.ofNat o)), .val (.ref d), .val (.int (Int32.ofNat q)), .val (.int (Int32.ofNat len)), .val (.int 0), .unset] [])) := c1.trans (by
    refine iconstV X0.here hexec rfl 0 (hb hbytes d0) (by decide) ?_
    refine XS.istore X0.here hexec rfl (hb hbytes d1) rfl rfl ?_
    exact Steps.refl _)
  have loop : ∀ (r i : Nat), i + r = len → ∀ (z : Slot), (z = .unset ∨ ∃ w, z = .val w ∧ w.category = 1) → ∀ (Tl : State) (Bk : Cell), Stand p l e { frames := 0, locals := 0, cells := 0, slots := 0 } s m #[.ref b, .int (Int32.ofNat o), .ref d, .int (Int32.ofNat q), .int (Int32.ofNat len)] below meth c Tl ([] ++ copyLocs d q i) 0 0 → Put d Bk s₁ Tl → Laid B Bk q (q + i) (fun j => Value.int (lo8 (cv A (o + (j - q))))) →
      Steps p.tables e below (s₁.setTop (entryFrame m #[.ref b, .int (Int32.ofNat o), .ref d, .int (Int32.ofNat q), .int (Int32.ofNat len)] 7)) (Tl.setTop (mkF m 3 #[.val (.ref b), .val (.int (Int32.ofNat (o + i))), .val (.ref d), .val (.int (Int32.ofNat (q + i))), .val (.int (Int32.ofNat len)), .val (.int (Int32.ofNat i)), z] [])) → ∃ (T' : State) (B' : Cell) (z' : Slot), Stand p l e { frames := 0, locals := 0, cells := 0, slots := 0 } s m #[.ref b, .int (Int32.ofNat o), .ref d, .int (Int32.ofNat q), .int (Int32.ofNat len)] below meth c T' ([] ++ copyLocs d q len) 0 0 ∧ Put d B' s₁ T' ∧ Laid B B' q (q + len) (fun j => Value.int (lo8 (cv A (o + (j - q))))) ∧
      Steps p.tables e below (s₁.setTop (entryFrame m #[.ref b, .int (Int32.ofNat o), .ref d, .int (Int32.ofNat q), .int (Int32.ofNat len)] 7)) (T'.setTop (mkF m 3 #[.val (.ref b), .val (.int (Int32.ofNat (o + len))), .val (.ref d), .val (.int (Int32.ofNat (q + len))), .val (.int (Int32.ofNat len)), .val (.int (Int32.ofNat len)), z'] [])) := by
    intro r
    induction r with
    | zero =>
      intro i hi z hz Tl Bk Xl pl fl cl
      have hil : i = len := by omega
      rw [hil] at Xl fl cl
      exact ⟨Tl, Bk, z, Xl, pl, fl, cl⟩
    | succ r ih =>
      intro i hi z hz Tl Bk Xl pl fl cl
      have all := X0.warmed.alike.symm.trans Xl.warmed.alike
      have hAl := hA0.keep all (pl.other hne hA0.1)
      have hBk := hB0.like all pl.1 fl.1 fl.2.1 fl.2.2.1
      have hlt : q + i < Bk.slots.size := by rw [fl.2.2.1]; omega
      have c3 : Steps p.tables e below (s₁.setTop (entryFrame m #[.ref b, .int (Int32.ofNat o), .ref d, .int (Int32.ofNat q), .int (Int32.ofNat len)] 7)) (Tl.setTop (mkF m 12 #[.val (.ref b), .val (.int (Int32.ofNat (o + i))), .val (.ref d), .val (.int (Int32.ofNat (q + i))), .val (.int (Int32.ofNat len)), .val (.int (Int32.ofNat i)), z] [.int (Int32.ofNat (o + i)), .ref b])) := cl.trans (by
        refine XS.iload Xl.here hexec rfl (hb hbytes d3) rfl ?_
        refine XS.iload Xl.here hexec rfl (hb hbytes d5) rfl ?_
        refine XS.icmpNo Xl.here hexec rfl (hb hbytes d7) rfl (ii_ge_f (lt32 (by omega) (by omega))) ?_
        refine XS.aloadN Xl.here hexec rfl (hb hbytes d10) rfl rfl ?_
        refine XS.iloadN Xl.here hexec rfl (hb hbytes d11) rfl ?_
        exact Steps.refl _)
      have c4 : Steps p.tables e below (s₁.setTop (entryFrame m #[.ref b, .int (Int32.ofNat o), .ref d, .int (Int32.ofNat q), .int (Int32.ofNat len)] 7)) (Tl.setTop (mkF m 13 #[.val (.ref b), .val (.int (Int32.ofNat (o + i))), .val (.ref d), .val (.int (Int32.ofNat (q + i))), .val (.int (Int32.ofNat len)), .val (.int (Int32.ofNat i)), z] [.int (cv A (o + i))])) := c3.trans (by
        refine Xl.aget hexec hAl rfl (hA.get (i := o + i) (by omega)) rfl rfl (hb hbytes d12) ?_
        exact Steps.refl _)
      have c5 : Steps p.tables e below (s₁.setTop (entryFrame m #[.ref b, .int (Int32.ofNat o), .ref d, .int (Int32.ofNat q), .int (Int32.ofNat len)] 7)) (Tl.setTop (mkF m 15 #[.val (.ref b), .val (.int (Int32.ofNat (o + i))), .val (.ref d), .val (.int (Int32.ofNat (q + i))), .val (.int (Int32.ofNat len)), .val (.int (Int32.ofNat i)), .val (.int (cv A (o + i)))] [])) := c4.trans (by
        refine XS.istoreS Xl.here hexec rfl (hb hbytes d13) rfl rfl hz ?_
        exact Steps.refl _)
      have c6 : Steps p.tables e below (s₁.setTop (entryFrame m #[.ref b, .int (Int32.ofNat o), .ref d, .int (Int32.ofNat q), .int (Int32.ofNat len)] 7)) (Tl.setTop (mkF m 31 #[.val (.ref b), .val (.int (Int32.ofNat (o + i))), .val (.ref d), .val (.int (Int32.ofNat (q + i))), .val (.int (Int32.ofNat len)), .val (.int (Int32.ofNat i)), .val (.int (cv A (o + i)))] [.int (lo8 (cv A (o + i))), .int (Int32.ofNat (q + i)), .ref d])) := c5.trans (by
        refine XS.iload Xl.here hexec rfl (hb hbytes d15) rfl ?_
        refine sipushV Xl.here hexec rfl 255 (hb hbytes d17) (by decide) ?_
        refine XS.icmpYes Xl.here hexec rfl (pc0 := 20) rfl (hb hbytes d20) rfl (ii_le_t (hp i (by omega))) (by decide) rfl ?_
        refine XS.aloadN Xl.here hexec rfl (hb hbytes d26) rfl rfl ?_
        refine XS.iloadN Xl.here hexec rfl (hb hbytes d27) rfl ?_
        refine XS.iload Xl.here hexec rfl (hb hbytes d28) rfl ?_
        refine i2b Xl.here hexec rfl (hb hbytes d30) rfl ?_
        exact Steps.refl _)
      obtain ⟨T7, X7, p7, st7⟩ := Xl.aput hexec hBk rfl hlt rfl (fits_lo8 (cv A (o + i))) (g := (mkF m 31 #[.val (.ref b), .val (.int (Int32.ofNat (o + i))), .val (.ref d), .val (.int (Int32.ofNat (q + i))), .val (.int (Int32.ofNat len)), .val (.int (Int32.ofNat i)), .val (.int (cv A (o + i)))] [.int (lo8 (cv A (o + i))), .int (Int32.ofNat (q + i)), .ref d])) rfl (rest := []) rfl (hb hbytes d31)
      have c8 : Steps p.tables e below (s₁.setTop (entryFrame m #[.ref b, .int (Int32.ofNat o), .ref d, .int (Int32.ofNat q), .int (Int32.ofNat len)] 7)) (T7.setTop (mkF m 32 #[.val (.ref b), .val (.int (Int32.ofNat (o + i))), .val (.ref d), .val (.int (Int32.ofNat (q + i))), .val (.int (Int32.ofNat len)), .val (.int (Int32.ofNat i)), .val (.int (cv A (o + i)))] [])) := c6.trans (st7 _ (Steps.refl _))
      have c9 : Steps p.tables e below (s₁.setTop (entryFrame m #[.ref b, .int (Int32.ofNat o), .ref d, .int (Int32.ofNat q), .int (Int32.ofNat len)] 7)) (T7.setTop (mkF m 3 #[.val (.ref b), .val (.int (Int32.ofNat (o + i) + 1)), .val (.ref d), .val (.int (Int32.ofNat (q + i) + 1)), .val (.int (Int32.ofNat len)), .val (.int (Int32.ofNat i + 1)), .val (.int (cv A (o + i)))] [])) := c8.trans (by
        refine iincV X7.here hexec rfl 1 (hb hbytes d32) (by decide) rfl rfl ?_
        refine iincV X7.here hexec rfl 1 (hb hbytes d35) (by decide) rfl rfl ?_
        refine iincV X7.here hexec rfl 1 (hb hbytes d38) (by decide) rfl rfl ?_
        refine XS.goto X7.here hexec rfl (pc0 := 41) rfl (hb hbytes d41) (by decide) rfl ?_
        exact Steps.refl _)
      have c10 : Steps p.tables e below (s₁.setTop (entryFrame m #[.ref b, .int (Int32.ofNat o), .ref d, .int (Int32.ofNat q), .int (Int32.ofNat len)] 7)) (T7.setTop (mkF m 3 #[.val (.ref b), .val (.int (Int32.ofNat (o + (i + 1)))), .val (.ref d), .val (.int (Int32.ofNat (q + (i + 1)))), .val (.int (Int32.ofNat len)), .val (.int (Int32.ofNat (i + 1))), .val (.int (cv A (o + i)))] [])) := by
        have := c9
        rw [succ32, succ32, succ32] at this
        exact this
      exact ih (i + 1) (by omega) _ (Or.inr ⟨_, rfl, rfl⟩) T7 _ (by rw [copyLocs_step, ← List.append_assoc]; exact X7) (pl.trans p7) (fl.step (by omega) hlt (by simp)) c10
  obtain ⟨T9, B9, z9, X9, p9, f9, g9⟩ := loop len 0 (by omega) .unset (Or.inl rfl) s₁ B (by simpa [copyLocs] using X0) ⟨hB0.1, fun _ _ => rfl, rfl⟩ (Laid.zero _ _ _) c2
  have c11 : Steps p.tables e below (s₁.setTop (entryFrame m #[.ref b, .int (Int32.ofNat o), .ref d, .int (Int32.ofNat q), .int (Int32.ofNat len)] 7)) (T9.setTop (mkF m 46 #[.val (.ref b), .val (.int (Int32.ofNat (o + len))), .val (.ref d), .val (.int (Int32.ofNat (q + len))), .val (.int (Int32.ofNat len)), .val (.int (Int32.ofNat len)), z9] [.int (Int32.ofNat len)])) := g9.trans (by
    refine XS.iload X9.here hexec rfl (hb hbytes d3) rfl ?_
    refine XS.iload X9.here hexec rfl (hb hbytes d5) rfl ?_
    refine XS.icmpYes X9.here hexec rfl (pc0 := 7) rfl (hb hbytes d7) rfl (ii_ge_t (nlt32 (by omega) (Nat.le_refl _))) (by decide) rfl ?_
    refine XS.iload X9.here hexec rfl (hb hbytes d44) rfl ?_
    exact Steps.refl _)
  exact ⟨T9, some (.int (Int32.ofNat len)), _, _, _, X9, by simp, rfl, rfl, (fun h => by cases h), ⟨rfl, B9, p9.from hh0, f9⟩, fun fs hl => c11.trans (X9.ireturnOut hexec hret rfl (Or.inl rfl) (hb hbytes d46) hl)⟩
end Cmp5
namespace Cmp3
def yN : MethodName := ⟨"java/lang/StringUTF16", "compress", "([CII)[B"⟩
abbrev yB : ByteArray := jdk_52_method_16_code
theorem d0 : decode yB 0 = .ok (.iload_n 2, 1) := by decide +kernel
theorem d1 : decode yB 1 = .ok (.newarray .byte, 2) := by decide +kernel
theorem d3 : decode yB 3 = .ok (.astore_n 3, 1) := by decide +kernel
theorem d4 : decode yB 4 = .ok (.aload_n 0, 1) := by decide +kernel
theorem d5 : decode yB 5 = .ok (.iload_n 1, 1) := by decide +kernel
theorem d6 : decode yB 6 = .ok (.aload_n 3, 1) := by decide +kernel
theorem d7 : decode yB 7 = .ok (.iconst 0, 1) := by decide +kernel
theorem d8 : decode yB 8 = .ok (.iload_n 2, 1) := by decide +kernel
theorem d9 : decode yB 9 = .ok (.invokestatic 115, 3) := by decide +kernel
theorem d12 : decode yB 12 = .ok (.istore 4, 2) := by decide +kernel
theorem d14 : decode yB 14 = .ok (.iload 4, 2) := by decide +kernel
theorem d16 : decode yB 16 = .ok (.iload_n 2, 1) := by decide +kernel
theorem d17 : decode yB 17 = .ok (.if_icmp (.eq) 40, 3) := by decide +kernel
theorem d57 : decode yB 57 = .ok (.aload_n 3, 1) := by decide +kernel
theorem d58 : decode yB 58 = .ok (.areturn, 1) := by decide +kernel
def site : List Cond := [.arrayClass .byte, Cmp5.tab] ++ staticW U16 115 Cmp5.yN
def tab : Cond := tabOf yN yB 6 (some (.array .byte)) site
def P (b : Addr) (A : Cell) (o len : Nat) (args : Array Value) (s : State) : Prop := args = #[.ref b, .int (Int32.ofNat o), .int (Int32.ofNat len)] ∧ Ch b A s ∧ o + len ≤ A.slots.size ∧ len ≤ 536870912 ∧ ∀ i, i < len → ¬ 255 < cv A (o + i)
def E (b : Addr) (A : Cell) (o len : Nat) (r : Option Value) (s u : State) : Prop := NewArr .byte "[B" len (fun j => .int (lo8 (cv A (o + j)))) r s u ∧ u.heap.size = s.heap.size + 1
/-- no char of the range above 255: a new byte[] of their low bytes -/
theorem law (l : Launch) (b : Addr) (A : Cell) (o len : Nat) : Law l yN 3 3 1 18 yB 6 (some (.array .byte)) site (P b A o len) (E b A o len) [] 1 len := by
  refine Law.of_walk (plainFor_of_name (by decide +kernel)) (by decide +kernel) (by decide +kernel) (by decide) (fun _ _ h => by rw [h.1]; rfl) (fun _ U U' hal hh h => ⟨h.1, h.2.1.mv hal hh, h.2.2⟩) (fun r U U' V V' h1 hal h2 h => ⟨NewArr.mv r U U' V V' h1 hal h2 h.1, by rw [h1, h2]; exact h.2⟩) ?_
  intro p e s m args below meth c s₁ X0 hexec hbytes hml hret hlk hnm hown hh0 W hP
  obtain ⟨rfl, hA, l1, l2, hp⟩ := hP
  have a31 := hA.1.2.2.2
  have c1 : Steps p.tables e below (s₁.setTop (entryFrame m #[.ref b, .int (Int32.ofNat o), .int (Int32.ofNat len)] 6)) (s₁.setTop (mkF m 0 #[.val (.ref b), .val (.int (Int32.ofNat o)), .val (.int (Int32.ofNat len)), .unset, .unset, .unset] [])) := entry rfl
  have c2 : Steps p.tables e below (s₁.setTop (entryFrame m #[.ref b, .int (Int32.ofNat o), .int (Int32.ofNat len)] 6)) (s₁.setTop (mkF m 1 #[.val (.ref b), .val (.int (Int32.ofNat o)), .val (.int (Int32.ofNat len)), .unset, .unset, .unset] [.int (Int32.ofNat len)])) := c1.trans (by
    refine XS.iloadN X0.here hexec rfl (hb hbytes d0) rfl ?_
    exact Steps.refl _)
  obtain ⟨T3, B3, X3, ba3, bs3, bv3, bh3, bf3, st3⟩ := X0.anew hexec (atype := .byte) (wk W (.arrayClass .byte)) rfl (by show len * 1 ≤ _; omega) (by omega) (g := (mkF m 1 #[.val (.ref b), .val (.int (Int32.ofNat o)), .val (.int (Int32.ofNat len)), .unset, .unset, .unset] [.int (Int32.ofNat len)])) rfl (hb hbytes d1) (rest := []) rfl (Nat.le_refl _) (by show 0 + len ≤ len; omega)
  rw [hh0] at ba3 st3
  have kp3 : XT.Kept s T3 := (XT.Kept.of_eq hh0).push bh3
  have hA3 := hA.keep X3.warmed.alike (kp3 _ _ hA.1.1)
  have hne : b ≠ s.heap.size := hA.1.ne
  have c4 : Steps p.tables e below (s₁.setTop (entryFrame m #[.ref b, .int (Int32.ofNat o), .int (Int32.ofNat len)] 6)) (T3.setTop (mkF m 3 #[.val (.ref b), .val (.int (Int32.ofNat o)), .val (.int (Int32.ofNat len)), .unset, .unset, .unset] [.ref s.heap.size])) := c2.trans (st3 _ (Steps.refl _))
  have c5 : Steps p.tables e below (s₁.setTop (entryFrame m #[.ref b, .int (Int32.ofNat o), .int (Int32.ofNat len)] 6)) (T3.setTop (mkF m 9 #[.val (.ref b), .val (.int (Int32.ofNat o)), .val (.int (Int32.ofNat len)), .val (.ref s.heap.size), .unset, .unset] [.int (Int32.ofNat len), .int 0, .ref s.heap.size, .int (Int32.ofNat o), .ref b])) := c4.trans (by
    refine XS.astoreN X3.here hexec rfl (hb hbytes d3) rfl rfl rfl ?_
    refine XS.aloadN X3.here hexec rfl (hb hbytes d4) rfl rfl ?_
    refine XS.iloadN X3.here hexec rfl (hb hbytes d5) rfl ?_
    refine XS.aloadN X3.here hexec rfl (hb hbytes d6) rfl rfl ?_
    refine iconstV X3.here hexec rfl 0 (hb hbytes d7) (by decide) ?_
    refine XS.iloadN X3.here hexec rfl (hb hbytes d8) rfl ?_
    exact Steps.refl _)
  obtain ⟨v6, T6, X6, E6, g6⟩ := X3.callS hexec (Cmp5.law l b A s.heap.size B3 o 0 len) hown (wks W (staticW U16 115 Cmp5.yN)) (wk W Cmp5.tab) (W := 0) (Nat.le_of_ble_eq_true rfl) (Nat.le_of_ble_eq_true rfl) (Nat.le_refl _) (by show 0 + len + 0 ≤ len; omega) (g := (mkF m 9 #[.val (.ref b), .val (.int (Int32.ofNat o)), .val (.int (Int32.ofNat len)), .val (.ref s.heap.size), .unset, .unset] [.int (Int32.ofNat len), .int (Int32.ofNat 0), .ref s.heap.size, .int (Int32.ofNat o), .ref b])) rfl (by rw [hml]; rfl) c5 (argsL := [.ref b, .int (Int32.ofNat o), .ref s.heap.size, .int (Int32.ofNat 0), .int (Int32.ofNat len)]) (rest := []) rfl rfl (by show 2 * 0 + 0 ≤ _; decide) (hb hbytes d9) (⟨rfl, hA3, ba3, hne, l1, by rw [bs3]; simp, hp⟩)
  obtain ⟨rfl, B6, p6, f6⟩ := E6
  have c7 : Steps p.tables e below (s₁.setTop (entryFrame m #[.ref b, .int (Int32.ofNat o), .int (Int32.ofNat len)] 6)) (T6.setTop (mkF m 12 #[.val (.ref b), .val (.int (Int32.ofNat o)), .val (.int (Int32.ofNat len)), .val (.ref s.heap.size), .unset, .unset] [.int (Int32.ofNat len)])) := g6
  have c8 : Steps p.tables e below (s₁.setTop (entryFrame m #[.ref b, .int (Int32.ofNat o), .int (Int32.ofNat len)] 6)) (T6.setTop (mkF m 58 #[.val (.ref b), .val (.int (Int32.ofNat o)), .val (.int (Int32.ofNat len)), .val (.ref s.heap.size), .val (.int (Int32.ofNat len)), .unset] [.ref s.heap.size])) := c7.trans (by
    refine XS.istore X6.here hexec rfl (hb hbytes d12) rfl rfl ?_
    refine XS.iload X6.here hexec rfl (hb hbytes d14) rfl ?_
    refine XS.iloadN X6.here hexec rfl (hb hbytes d16) rfl ?_
    refine XS.icmpYes X6.here hexec rfl (pc0 := 17) rfl (hb hbytes d17) rfl (ii_eq_t rfl) (by decide) rfl ?_
    refine XS.aloadN X6.here hexec rfl (hb hbytes d57) rfl rfl ?_
    exact Steps.refl _)
  have X8 := X6.wide (L' := []) (cells' := 1) (slots' := len) (fun x hx hlt => by
    simp only [List.nil_append, copyLocs, List.mem_map, List.mem_range] at hx
    obtain ⟨i, -, rfl⟩ := hx
    exact absurd hlt (Nat.lt_irrefl _)) (Nat.le_refl _) (by omega)
  exact ⟨T6, some (.ref s.heap.size), _, _, _, X8, rfl, rfl, rfl, (fun h => by cases h), ⟨⟨rfl, B6, ba3.like (X3.warmed.alike.symm.trans X6.warmed.alike) p6.1 f6.1 f6.2.1 f6.2.2.1, f6.2.1.trans bv3, by rw [X6.warmed.alike.findClass, f6.1]; exact bf3, by rw [f6.2.2.1, bs3]; simp, fun j hj => by rw [f6.2.2.2 j, if_pos (by omega)]; rfl, kp3.put p6 (Nat.le_refl _)⟩, by rw [p6.2.2, bh3, hh0]; simp⟩, fun fs hl => c8.trans (X8.areturnOut hexec rfl hret rfl (hb hbytes d58) hl)⟩
end Cmp3
namespace CodL
def yN : MethodName := ⟨"java/lang/StringUTF16", "coderFromArrayLen", "([BI)B"⟩
abbrev yB : ByteArray := jdk_52_method_15_code
theorem d0 : decode yB 0 = .ok (.iload_n 1, 1) := by decide +kernel
theorem d1 : decode yB 1 = .ok (.aload_n 0, 1) := by decide +kernel
theorem d2 : decode yB 2 = .ok (.arraylength, 1) := by decide +kernel
theorem d3 : decode yB 3 = .ok (.isub, 1) := by decide +kernel
theorem d4 : decode yB 4 = .ok (.bipush 31, 2) := by decide +kernel
theorem d6 : decode yB 6 = .ok (.iushr, 1) := by decide +kernel
theorem d7 : decode yB 7 = .ok (.i2b, 1) := by decide +kernel
theorem d8 : decode yB 8 = .ok (.ireturn, 1) := by decide +kernel
def site : List Cond := []
def tab : Cond := tabOf yN yB 2 (some .byte) site
def P (d : Addr) (B : Cell) (args : Array Value) (s : State) : Prop := args = #[.ref d, .int (Int32.ofNat B.slots.size)] ∧ Arr .byte d B s
def E (r : Option Value) (s u : State) : Prop := XT.PureE (some (.int 0)) r s u
/-- an array as long as the number of chars: LATIN1 -/
theorem law (l : Launch) (d : Addr) (B : Cell) : Law l yN 2 2 0 0 yB 2 (some .byte) site (P d B) E [] 0 0 := by
  refine Law.of_walk (plainFor_of_name (by decide +kernel)) (by decide +kernel) (by decide +kernel) (by decide) (fun _ _ h => by rw [h.1]; rfl) (fun _ U U' hal hh h => ⟨h.1, h.2.mv hal hh⟩) (fun r U U' V V' h1 hal h2 h => XT.PureE.mv r U U' V V' h1 hal h2 h) ?_
  intro p e s m args below meth c s₁ X0 hexec hbytes hml hret hlk hnm hown hh0 W hP
  obtain ⟨rfl, hB⟩ := hP
  have hB0 := hB.mv X0.warmed.alike hh0
  have c1 : Steps p.tables e below (s₁.setTop (entryFrame m #[.ref d, .int (Int32.ofNat B.slots.size)] 2)) (s₁.setTop (mkF m 0 #[.val (.ref d), .val (.int (Int32.ofNat B.slots.size))] [])) := entry rfl
  have c2 : Steps p.tables e below (s₁.setTop (entryFrame m #[.ref d, .int (Int32.ofNat B.slots.size)] 2)) (s₁.setTop (mkF m 2 #[.val (.ref d), .val (.int (Int32.ofNat B.slots.size))] [.ref d, .int (Int32.ofNat B.slots.size)])) := c1.trans (by
    refine XS.iloadN X0.here hexec rfl (hb hbytes d0) rfl ?_
    refine XS.aloadN X0.here hexec rfl (hb hbytes d1) rfl rfl ?_
    exact Steps.refl _)
  have c3 : Steps p.tables e below (s₁.setTop (entryFrame m #[.ref d, .int (Int32.ofNat B.slots.size)] 2)) (s₁.setTop (mkF m 8 #[.val (.ref d), .val (.int (Int32.ofNat B.slots.size))] [.int (lo8 (ushr (Int32.ofNat B.slots.size - Int32.ofNat B.slots.size) 31))])) := c2.trans (by
    refine X0.alen hexec hB0 rfl rfl (hb hbytes d2) ?_
    refine XS.isub X0.here hexec rfl (hb hbytes d3) rfl ?_
    refine bipushV X0.here hexec rfl 31 (hb hbytes d4) (by decide) ?_
    refine iushr X0.here hexec rfl (hb hbytes d6) rfl ?_
    refine i2b X0.here hexec rfl (hb hbytes d7) rfl ?_
    exact Steps.refl _)
  have e0 : lo8 (ushr (Int32.ofNat B.slots.size - Int32.ofNat B.slots.size) 31) = 0 := by rw [Int32.sub_self]; decide
  rw [e0] at c3
  exact ⟨s₁, some (.int 0), _, _, _, X0, rfl, rfl, rfl, (fun h => by cases h), ⟨rfl, hh0⟩, fun fs hl => c3.trans (X0.ireturnOut hexec hret rfl (Or.inr (Or.inr (Or.inl rfl))) (hb hbytes d8) hl)⟩
end CodL
/-- the String at a is Latin-1 over a new byte[] (the heap's one new cell): the low bytes of the len chars of A from o on; every cell but a is kept -/
def Got (a : Addr) (D : Cell) (fV fC : Field) (A : Cell) (o len : Nat) (r : Option Value) (s u : State) : Prop := r = none ∧ ∃ D' V : Cell, Blank "java/lang/String" a D' u ∧ Same D D' [fV.slot, fC.slot] ∧ D'.slots[fV.slot]? = some (.ref s.heap.size) ∧ D'.slots[fC.slot]? = some (.int 0) ∧ Arr .byte s.heap.size V u ∧ V.vm = .none ∧ u.vm.findClass "[B" = some V.cls ∧ V.slots.size = len ∧ (∀ j, j < len → V.slots[j]? = some (.int (lo8 (cv A (o + j))))) ∧ (∀ (y : Addr) (c : Cell), y ≠ a → s.heap[y]? = some c → u.heap[y]? = some c) ∧ u.heap.size = s.heap.size + 1
theorem Got.mv {a : Addr} {D A : Cell} {fV fC : Field} {o len : Nat} : ∀ r (U U' V V' : State), U'.heap = U.heap → V.vm.Alike V'.vm → V'.heap = V.heap → Got a D fV fC A o len r U V → Got a D fV fC A o len r U' V' :=
  fun r U U' V V' h1 hal h2 ⟨e0, D', X, a1, a2, a3, a4, a5, a6, a7, a8, a9, a10, a11⟩ => ⟨e0, D', X, a1.mv hal h2, a2, by rw [h1]; exact a3, a4, by rw [h1]; exact a5.mv hal h2, a6, by rw [hal.findClass]; exact a7, a8, a9, by rw [h1, h2]; exact a10, by rw [h1, h2]; exact a11⟩
namespace New4
def yN : MethodName := ⟨"java/lang/String", "<init>", "([CIILjava/lang/Void;)V"⟩
abbrev yB : ByteArray := jdk_42_method_149_code
theorem d0 : decode yB 0 = .ok (.aload_n 0, 1) := by decide +kernel
theorem d1 : decode yB 1 = .ok (.invokespecial 1, 3) := by decide +kernel
theorem d4 : decode yB 4 = .ok (.iload_n 3, 1) := by decide +kernel
theorem d5 : decode yB 5 = .ok (.ifCond (.ne) 22, 3) := by decide +kernel
theorem d27 : decode yB 27 = .ok (.getstatic 38, 3) := by decide +kernel
theorem d30 : decode yB 30 = .ok (.ifCond (.eq) 28, 3) := by decide +kernel
theorem d33 : decode yB 33 = .ok (.aload_n 1, 1) := by decide +kernel
theorem d34 : decode yB 34 = .ok (.iload_n 2, 1) := by decide +kernel
theorem d35 : decode yB 35 = .ok (.iload_n 3, 1) := by decide +kernel
theorem d36 : decode yB 36 = .ok (.invokestatic 177, 3) := by decide +kernel
theorem d39 : decode yB 39 = .ok (.astore 5, 2) := by decide +kernel
theorem d41 : decode yB 41 = .ok (.aload_n 0, 1) := by decide +kernel
theorem d42 : decode yB 42 = .ok (.aload 5, 2) := by decide +kernel
theorem d44 : decode yB 44 = .ok (.iload_n 3, 1) := by decide +kernel
theorem d45 : decode yB 45 = .ok (.invokestatic 47, 3) := by decide +kernel
theorem d48 : decode yB 48 = .ok (.putfield 15, 3) := by decide +kernel
theorem d51 : decode yB 51 = .ok (.aload_n 0, 1) := by decide +kernel
theorem d52 : decode yB 52 = .ok (.aload 5, 2) := by decide +kernel
theorem d54 : decode yB 54 = .ok (.putfield 9, 3) := by decide +kernel
theorem d57 : decode yB 57 = .ok (.return_, 1) := by decide +kernel
def site : List Cond := [.fieldLink "java/lang/String" 38 "java/lang/String" "COMPACT_STRINGS" "Z", Cmp3.tab, CodL.tab, .laysFinal "java/lang/String" "java/lang/String" "value" "[B", .fieldLink "java/lang/String" 9 "java/lang/String" "value" "[B", .laysFinal "java/lang/String" "java/lang/String" "coder" "B", .fieldLink "java/lang/String" 15 "java/lang/String" "coder" "B"] ++ objW "java/lang/String" 1 ++ staticW "java/lang/String" 177 Cmp3.yN ++ staticW "java/lang/String" 47 CodL.yN
def tab : Cond := tabOf yN yB 6 none site
def P (a : Addr) (D : Cell) (fV fC : Field) (b : Addr) (A : Cell) (z : Int32) (o len : Nat) (args : Array Value) (s : State) : Prop := args = #[.ref a, .ref b, .int (Int32.ofNat o), .int (Int32.ofNat len), .null] ∧ Blank "java/lang/String" a D s ∧ Found "java/lang/String" "value" "[B" fV s ∧ Found "java/lang/String" "coder" "B" fC s ∧ Ch b A s ∧ StaticIs s "java/lang/String" "COMPACT_STRINGS" "Z" (.int z) ∧ ¬ z = 0 ∧ 0 < len ∧ o + len ≤ A.slots.size ∧ len ≤ 536870912 ∧ ∀ i, i < len → ¬ 255 < cv A (o + i)
def E (a : Addr) (D : Cell) (fV fC : Field) (A : Cell) (o len : Nat) (r : Option Value) (s u : State) : Prop := Got a D fV fC A o len r s u
/-- len > 0, no char of the range above 255: a Latin-1 String of their low bytes -/
theorem law (l : Launch) (a : Addr) (D : Cell) (fV fC : Field) (b : Addr) (A : Cell) (z : Int32) (o len : Nat) : Law l yN 5 4 2 35 yB 6 none site (P a D fV fC b A z o len) (E a D fV fC A o len) [⟨a, fC.slot⟩, ⟨a, fV.slot⟩] 1 len := by
  refine Law.of_walk (plainFor_of_name (by decide +kernel)) (by decide +kernel) (by decide +kernel) (by decide) (fun _ _ h => by rw [h.1]; rfl) (fun _ U U' hal hh h => ⟨h.1, h.2.1.mv hal hh, h.2.2.1.al hal, h.2.2.2.1.al hal, h.2.2.2.2.1.mv hal hh, h.2.2.2.2.2.1.there hal hh, h.2.2.2.2.2.2⟩) (fun r U U' V V' h1 hal h2 h => Got.mv r U U' V V' h1 hal h2 h) ?_
  intro p e s m args below meth c s₁ X0 hexec hbytes hml hret hlk hnm hown hh0 W hP
  obtain ⟨rfl, hB, f1, f2, hA, s1, hz, l0, l1, l2, hp⟩ := hP
  have a31 := hA.1.2.2.2
  have c1 : Steps p.tables e below (s₁.setTop (entryFrame m #[.ref a, .ref b, .int (Int32.ofNat o), .int (Int32.ofNat len), .null] 6)) (s₁.setTop (mkF m 0 #[.val (.ref a), .val (.ref b), .val (.int (Int32.ofNat o)), .val (.int (Int32.ofNat len)), .val .null, .unset] [])) := entry rfl
  have c2 : Steps p.tables e below (s₁.setTop (entryFrame m #[.ref a, .ref b, .int (Int32.ofNat o), .int (Int32.ofNat len), .null] 6)) (s₁.setTop (mkF m 1 #[.val (.ref a), .val (.ref b), .val (.int (Int32.ofNat o)), .val (.int (Int32.ofNat len)), .val .null, .unset] [.ref a])) := c1.trans (by
    refine XS.aloadN X0.here hexec rfl (hb hbytes d0) rfl rfl ?_
    exact Steps.refl _)
  obtain ⟨T3, X3, q3, st3⟩ := X0.oinit hexec hown (wks W (objW "java/lang/String" 1)) (g := (mkF m 1 #[.val (.ref a), .val (.ref b), .val (.int (Int32.ofNat o)), .val (.int (Int32.ofNat len)), .val .null, .unset] [.ref a])) rfl (by rw [hml]; rfl) (rest := []) rfl (hb hbytes d1) (W := 0) (by show 2 * 0 + 0 ≤ _; decide) (Nat.le_of_ble_eq_true rfl) (Nat.le_of_ble_eq_true rfl)
  have hh3 := q3.trans hh0
  have c4 : Steps p.tables e below (s₁.setTop (entryFrame m #[.ref a, .ref b, .int (Int32.ofNat o), .int (Int32.ofNat len), .null] 6)) (T3.setTop (mkF m 27 #[.val (.ref a), .val (.ref b), .val (.int (Int32.ofNat o)), .val (.int (Int32.ofNat len)), .val .null, .unset] [])) := (c2.trans (st3 _ (Steps.refl _))).trans (by
    refine XS.iloadN X3.here hexec rfl (hb hbytes d4) rfl ?_
    refine XS.ifYes X3.here hexec rfl (pc0 := 5) rfl (hb hbytes d5) rfl (i0_ne_t (nz32 (by omega) l0)) (by decide) rfl ?_
    exact Steps.refl _)
  obtain ⟨T5, X5, q5, st5⟩ := X3.sget hexec hown (wk W (.fieldLink "java/lang/String" 38 "java/lang/String" "COMPACT_STRINGS" "Z")) s1 (fun _ _ h => by rw [hh3]; exact h) (g := (mkF m 27 #[.val (.ref a), .val (.ref b), .val (.int (Int32.ofNat o)), .val (.int (Int32.ofNat len)), .val .null, .unset] [])) rfl (hb hbytes d27)
  have hh5 := q5.trans hh3
  have c6 : Steps p.tables e below (s₁.setTop (entryFrame m #[.ref a, .ref b, .int (Int32.ofNat o), .int (Int32.ofNat len), .null] 6)) (T5.setTop (mkF m 30 #[.val (.ref a), .val (.ref b), .val (.int (Int32.ofNat o)), .val (.int (Int32.ofNat len)), .val .null, .unset] [.int z])) := c4.trans (st5 _ (Steps.refl _))
  have c7 : Steps p.tables e below (s₁.setTop (entryFrame m #[.ref a, .ref b, .int (Int32.ofNat o), .int (Int32.ofNat len), .null] 6)) (T5.setTop (mkF m 36 #[.val (.ref a), .val (.ref b), .val (.int (Int32.ofNat o)), .val (.int (Int32.ofNat len)), .val .null, .unset] [.int (Int32.ofNat len), .int (Int32.ofNat o), .ref b])) := c6.trans (by
    refine XS.ifNo X5.here hexec rfl (hb hbytes d30) rfl (i0_eq_f hz) ?_
    refine XS.aloadN X5.here hexec rfl (hb hbytes d33) rfl rfl ?_
    refine XS.iloadN X5.here hexec rfl (hb hbytes d34) rfl ?_
    refine XS.iloadN X5.here hexec rfl (hb hbytes d35) rfl ?_
    exact Steps.refl _)
  obtain ⟨v8, T8, X8, E8, g8⟩ := X5.callS hexec (Cmp3.law l b A o len) hown (wks W (staticW "java/lang/String" 177 Cmp3.yN)) (wk W Cmp3.tab) (W := 0) (Nat.le_of_ble_eq_true rfl) (Nat.le_of_ble_eq_true rfl) (Nat.le_refl _) (by show 0 + len ≤ len; omega) (g := (mkF m 36 #[.val (.ref a), .val (.ref b), .val (.int (Int32.ofNat o)), .val (.int (Int32.ofNat len)), .val .null, .unset] [.int (Int32.ofNat len), .int (Int32.ofNat o), .ref b])) rfl (by rw [hml]; rfl) c7 (argsL := [.ref b, .int (Int32.ofNat o), .int (Int32.ofNat len)]) (rest := []) rfl rfl (by show 2 * 0 + 0 ≤ _; decide) (hb hbytes d36) (⟨rfl, hA.mv X5.warmed.alike hh5, l1, l2, hp⟩)
  obtain ⟨e8, z8⟩ := E8
  obtain ⟨rfl, N, n1, n2, n3, n4, n5, n6⟩ := NewArr.mv _ T5 s _ _ hh5.symm (Vm.Alike.refl _) rfl e8
  rw [hh5] at z8
  have hB1 := hB.keep X8.warmed.alike (n6 _ _ hB.1)
  have hne : s.heap.size ≠ a := (Nat.ne_of_lt (Array.getElem?_eq_some_iff.mp hB.1).1).symm
  have c9 : Steps p.tables e below (s₁.setTop (entryFrame m #[.ref a, .ref b, .int (Int32.ofNat o), .int (Int32.ofNat len), .null] 6)) (T8.setTop (mkF m 39 #[.val (.ref a), .val (.ref b), .val (.int (Int32.ofNat o)), .val (.int (Int32.ofNat len)), .val .null, .unset] [.ref s.heap.size])) := g8
  have c10 : Steps p.tables e below (s₁.setTop (entryFrame m #[.ref a, .ref b, .int (Int32.ofNat o), .int (Int32.ofNat len), .null] 6)) (T8.setTop (mkF m 45 #[.val (.ref a), .val (.ref b), .val (.int (Int32.ofNat o)), .val (.int (Int32.ofNat len)), .val .null, .val (.ref s.heap.size)] [.int (Int32.ofNat N.slots.size), .ref s.heap.size, .ref a])) := by
    have hc : Steps p.tables e below (s₁.setTop (entryFrame m #[.ref a, .ref b, .int (Int32.ofNat o), .int (Int32.ofNat len), .null] 6)) (T8.setTop (mkF m 45 #[.val (.ref a), .val (.ref b), .val (.int (Int32.ofNat o)), .val (.int (Int32.ofNat len)), .val .null, .val (.ref s.heap.size)] [.int (Int32.ofNat len), .ref s.heap.size, .ref a])) := c9.trans (by
      refine XS.astore X8.here hexec rfl (hb hbytes d39) rfl rfl rfl ?_
      refine XS.aloadN X8.here hexec rfl (hb hbytes d41) rfl rfl ?_
      refine XS.aload X8.here hexec rfl (hb hbytes d42) rfl rfl ?_
      refine XS.iloadN X8.here hexec rfl (hb hbytes d44) rfl ?_
      exact Steps.refl _)
    rw [n4]; exact hc
  obtain ⟨v11, T11, X11, E11, g11⟩ := X8.callS hexec (CodL.law l s.heap.size N) hown (wks W (staticW "java/lang/String" 47 CodL.yN)) (wk W CodL.tab) (W := 1) (Nat.le_of_ble_eq_true rfl) (Nat.le_of_ble_eq_true rfl) (Nat.le_refl _) (by show 0 + len + 0 ≤ len; omega) (g := (mkF m 45 #[.val (.ref a), .val (.ref b), .val (.int (Int32.ofNat o)), .val (.int (Int32.ofNat len)), .val .null, .val (.ref s.heap.size)] [.int (Int32.ofNat N.slots.size), .ref s.heap.size, .ref a])) rfl (by rw [hml]; rfl) c10 (argsL := [.ref s.heap.size, .int (Int32.ofNat N.slots.size)]) (rest := [.ref a]) rfl rfl (by show 2 * 0 + (1 + 0) ≤ _; decide) (hb hbytes d45) (⟨rfl, n1⟩)
  obtain ⟨rfl, q11⟩ := E11
  have hB11 := hB1.mv (X8.warmed.alike.symm.trans X11.warmed.alike) q11
  have c12 : Steps p.tables e below (s₁.setTop (entryFrame m #[.ref a, .ref b, .int (Int32.ofNat o), .int (Int32.ofNat len), .null] 6)) (T11.setTop (mkF m 48 #[.val (.ref a), .val (.ref b), .val (.int (Int32.ofNat o)), .val (.int (Int32.ofNat len)), .val .null, .val (.ref s.heap.size)] [.int 0, .ref a])) := g11
  obtain ⟨T13, X13, p13, bl13, sl13, st13⟩ := X11.finit hexec hown (wk W (.fieldLink "java/lang/String" 15 "java/lang/String" "coder" "B")) (Or.inr ⟨_, (wk W (.laysFinal "java/lang/String" "java/lang/String" "coder" "B"))⟩) (Or.inl ⟨rfl, hnm⟩) f2 (Or.inl rfl) hB11 (t := .byte) (by decide +kernel) rfl (g := (mkF m 48 #[.val (.ref a), .val (.ref b), .val (.int (Int32.ofNat o)), .val (.int (Int32.ofNat len)), .val .null, .val (.ref s.heap.size)] [.int 0, .ref a])) rfl (rest := []) rfl (hb hbytes d48)
  have c14 : Steps p.tables e below (s₁.setTop (entryFrame m #[.ref a, .ref b, .int (Int32.ofNat o), .int (Int32.ofNat len), .null] 6)) (T13.setTop (mkF m 54 #[.val (.ref a), .val (.ref b), .val (.int (Int32.ofNat o)), .val (.int (Int32.ofNat len)), .val .null, .val (.ref s.heap.size)] [.ref s.heap.size, .ref a])) := (c12.trans (st13 _ (Steps.refl _))).trans (by
    refine XS.aloadN X13.here hexec rfl (hb hbytes d51) rfl rfl ?_
    refine XS.aload X13.here hexec rfl (hb hbytes d52) rfl rfl ?_
    exact Steps.refl _)
  obtain ⟨T15, X15, p15, bl15, sl15, st15⟩ := X13.finit hexec hown (wk W (.fieldLink "java/lang/String" 9 "java/lang/String" "value" "[B")) (Or.inr ⟨_, (wk W (.laysFinal "java/lang/String" "java/lang/String" "value" "[B"))⟩) (Or.inl ⟨rfl, hnm⟩) f1 (Or.inl rfl) bl13 (t := (.array .byte)) (by decide +kernel) rfl (g := (mkF m 54 #[.val (.ref a), .val (.ref b), .val (.int (Int32.ofNat o)), .val (.int (Int32.ofNat len)), .val .null, .val (.ref s.heap.size)] [.ref s.heap.size, .ref a])) rfl (rest := []) rfl (hb hbytes d54)
  have c16 : Steps p.tables e below (s₁.setTop (entryFrame m #[.ref a, .ref b, .int (Int32.ofNat o), .int (Int32.ofNat len), .null] 6)) (T15.setTop (mkF m 57 #[.val (.ref a), .val (.ref b), .val (.int (Int32.ofNat o)), .val (.int (Int32.ofNat len)), .val .null, .val (.ref s.heap.size)] [])) := c14.trans (st15 _ (Steps.refl _))
  have ap := apart (Or.inr ⟨_, (wk W (.laysFinal "java/lang/String" "java/lang/String" "value" "[B"))⟩) (Or.inr ⟨_, (wk W (.laysFinal "java/lang/String" "java/lang/String" "coder" "B"))⟩) f1 f2 (t₁ := .array .byte) (t₂ := .byte) (by decide +kernel) (by decide +kernel) (by decide)
  have al := X8.warmed.alike.symm.trans X15.warmed.alike
  have n7 : T11.heap[s.heap.size]? = some N := by rw [q11]; exact n1.1
  exact ⟨T15, none, _, _, _, X15, by simp, rfl, by omega, (fun _ => rfl), ⟨rfl, _, N, bl15, ((Same.refl D _).set _ (by simp)).set _ (by simp), sl15, (Cell.slots_setSlot_ne _ ap).trans sl13, n1.keep al (p15.other hne (p13.other hne n7)), n2, by rw [al.findClass]; exact n3, n4, n5, fun y c h1 h2 => p15.other h1 (p13.other h1 (by rw [q11]; exact n6 y c h2)), by rw [p15.2.2, p13.2.2, q11]; exact z8⟩, fun fs hl => c16.trans (X15.returnOut hexec hret (hb hbytes d57) hl)⟩
end New4
namespace New1
def yN : MethodName := ⟨"java/lang/String", "<init>", "([C)V"⟩
abbrev yB : ByteArray := jdk_42_method_3_code
theorem d0 : decode yB 0 = .ok (.aload_n 0, 1) := by decide +kernel
theorem d1 : decode yB 1 = .ok (.aload_n 1, 1) := by decide +kernel
theorem d2 : decode yB 2 = .ok (.iconst 0, 1) := by decide +kernel
theorem d3 : decode yB 3 = .ok (.aload_n 1, 1) := by decide +kernel
theorem d4 : decode yB 4 = .ok (.arraylength, 1) := by decide +kernel
theorem d5 : decode yB 5 = .ok (.aconst_null, 1) := by decide +kernel
theorem d6 : decode yB 6 = .ok (.invokespecial 27, 3) := by decide +kernel
theorem d9 : decode yB 9 = .ok (.return_, 1) := by decide +kernel
def site : List Cond := [New4.tab] ++ initW "java/lang/String" 27 New4.yN
def tab : Cond := tabOf yN yB 2 none site
def P (a : Addr) (D : Cell) (fV fC : Field) (b : Addr) (A : Cell) (z : Int32) (args : Array Value) (s : State) : Prop := args = #[.ref a, .ref b] ∧ Blank "java/lang/String" a D s ∧ Found "java/lang/String" "value" "[B" fV s ∧ Found "java/lang/String" "coder" "B" fC s ∧ Ch b A s ∧ StaticIs s "java/lang/String" "COMPACT_STRINGS" "Z" (.int z) ∧ ¬ z = 0 ∧ 0 < A.slots.size ∧ A.slots.size ≤ 536870912 ∧ ∀ i, i < A.slots.size → ¬ 255 < cv A i
def E (a : Addr) (D : Cell) (fV fC : Field) (A : Cell) (r : Option Value) (s u : State) : Prop := Got a D fV fC A 0 A.slots.size r s u
/-- new String(chars), not empty, no char above 255: a Latin-1 String of their low bytes -/
theorem law (l : Launch) (a : Addr) (D : Cell) (fV fC : Field) (b : Addr) (A : Cell) (z : Int32) : Law l yN 2 1 3 52 yB 2 none site (P a D fV fC b A z) (E a D fV fC A) [⟨a, fC.slot⟩, ⟨a, fV.slot⟩] 1 A.slots.size := by
  refine Law.of_walk (plainFor_of_name (by decide +kernel)) (by decide +kernel) (by decide +kernel) (by decide) (fun _ _ h => by rw [h.1]; rfl) (fun _ U U' hal hh h => ⟨h.1, h.2.1.mv hal hh, h.2.2.1.al hal, h.2.2.2.1.al hal, h.2.2.2.2.1.mv hal hh, h.2.2.2.2.2.1.there hal hh, h.2.2.2.2.2.2⟩) (fun r U U' V V' h1 hal h2 h => Got.mv r U U' V V' h1 hal h2 h) ?_
  intro p e s m args below meth c s₁ X0 hexec hbytes hml hret hlk hnm hown hh0 W hP
  obtain ⟨rfl, hB, f1, f2, hA, s1, hz, l0, l2, hp⟩ := hP
  have c1 : Steps p.tables e below (s₁.setTop (entryFrame m #[.ref a, .ref b] 2)) (s₁.setTop (mkF m 0 #[.val (.ref a), .val (.ref b)] [])) := entry rfl
  have c2 : Steps p.tables e below (s₁.setTop (entryFrame m #[.ref a, .ref b] 2)) (s₁.setTop (mkF m 6 #[.val (.ref a), .val (.ref b)] [.null, .int (Int32.ofNat A.slots.size), .int 0, .ref b, .ref a])) := c1.trans (by
    refine XS.aloadN X0.here hexec rfl (hb hbytes d0) rfl rfl ?_
    refine XS.aloadN X0.here hexec rfl (hb hbytes d1) rfl rfl ?_
    refine iconstV X0.here hexec rfl 0 (hb hbytes d2) (by decide) ?_
    refine XS.aloadN X0.here hexec rfl (hb hbytes d3) rfl rfl ?_
    refine X0.alen hexec (hA.1.mv X0.warmed.alike hh0) rfl rfl (hb hbytes d4) ?_
    refine XS.aconstNull X0.here hexec rfl (hb hbytes d5) ?_
    exact Steps.refl _)
  obtain ⟨v3, T3, X3, E3, g3⟩ := X0.callN hexec (New4.law l a D fV fC b A z 0 A.slots.size) rfl hown (wks W (initW "java/lang/String" 27 New4.yN)) (W New4.tab (by simp only [site, List.mem_cons, List.mem_append, true_or, or_true])) (W := 0) (Nat.le_of_ble_eq_true rfl) (Nat.le_of_ble_eq_true rfl) (Nat.le_refl _) (by show 0 + A.slots.size ≤ A.slots.size; omega) (g := (mkF m 6 #[.val (.ref a), .val (.ref b)] [.null, .int (Int32.ofNat A.slots.size), .int (Int32.ofNat 0), .ref b, .ref a])) rfl (by rw [hml]; rfl) c2 (argsL := [.ref b, .int (Int32.ofNat 0), .int (Int32.ofNat A.slots.size), .null]) (rest := []) rfl rfl (by show 2 * 0 + 0 ≤ _; decide) (hb hbytes d6) (⟨rfl, hB.mv X0.warmed.alike hh0, f1.al X0.warmed.alike, f2.al X0.warmed.alike, hA.mv X0.warmed.alike hh0, s1.there X0.warmed.alike hh0, hz, l0, by omega, l2, fun i hi => by rw [Nat.zero_add]; exact hp i hi⟩)
  have e0 := Got.mv _ s₁ s _ _ hh0.symm (Vm.Alike.refl _) rfl E3
  obtain rfl := e0.1
  have c4 : Steps p.tables e below (s₁.setTop (entryFrame m #[.ref a, .ref b] 2)) (T3.setTop (mkF m 9 #[.val (.ref a), .val (.ref b)] [])) := g3
  exact ⟨T3, none, _, _, _, X3, by simp, rfl, by omega, (fun _ => rfl), e0, fun fs hl => c4.trans (X3.returnOut hexec hret (hb hbytes d9) hl)⟩
theorem pays {l : Launch} {R : Room} {p : Program} {e : Env} {below : List Frame} {s : State} {sargs : Array Value} {len W : Nat} (a : Addr) (D : Cell) (fV fC : Field) (b : Addr) (A : Cell) (z : Int32) (htab : tab.before sargs s = true) (hfr : 4 ≤ R.frames) (hlo : W + 65 ≤ R.locals) :
    Back l R p e below s sargs yN len W (fun A₁ a₁ => A₁.cells + 1 ≤ R.cells ∧ A₁.slots + A.slots.size ≤ R.slots ∧ P a D fV fC b A z a₁ A₁.U) (fun A₁ _ v₁ B₁ => E a D fV fC A v₁ A₁.U B₁.U ∧ B₁.locs = A₁.locs ++ [⟨a, fC.slot⟩, ⟨a, fV.slot⟩] ∧ B₁.cells = A₁.cells + 1 ∧ B₁.slots = A₁.slots + A.slots.size) :=
  (law l a D fV fC b A z).pays htab hfr (by omega)
end New1
end StrChars
namespace StrChars.Road
open Jvm Sem ClassFile Op Lib Jvm.Stand Jvm.Free Jvm.Free.XT
open Jvm.Lib.Cold (StaticIs)
abbrev ST : String := "java/lang/String"
/-- every table word that New1's law asks, flat -/
abbrev words : List Jvm.Cond := [.code New1.yN New1.yB 2 none, .initialized ST, .methodLink ST 27 New4.yN, .instanceMethod New4.yN,
  .code New4.yN New4.yB 6 none, .fieldLink ST 38 ST "COMPACT_STRINGS" "Z", .laysFinal ST ST "value" "[B", .fieldLink ST 9 ST "value" "[B", .laysFinal ST ST "coder" "B", .fieldLink ST 15 ST "coder" "B",
  .methodLink ST 1 Lib.objectInit, .instanceMethod Lib.objectInit, .code Lib.objectInit ⟨#[0xb1]⟩ 1 none, .methodLink ST 177 Cmp3.yN, .static Cmp3.yN, .methodLink ST 47 CodL.yN, .static CodL.yN,
  .code Cmp3.yN Cmp3.yB 6 (some (.array .byte)), .initialized U16, .arrayClass .byte, .methodLink U16 115 Cmp5.yN, .static Cmp5.yN, .code Cmp5.yN Cmp5.yB 7 (some .int), .code CodL.yN CodL.yB 2 (some .byte)]
theorem tab_of {a : Array Value} {s : State} (h : ∀ w ∈ words, w.before a s = true) : New1.tab.before a s = true := by
  have h5 : Cmp5.tab.before a s = true := unparts (wk h (.code Cmp5.yN Cmp5.yB 7 (some .int))) (wks h (.initialized Cmp5.yN.cls :: Cmp5.site))
  have hc : CodL.tab.before a s = true := unparts (wk h (.code CodL.yN CodL.yB 2 (some .byte))) (wks h (.initialized CodL.yN.cls :: CodL.site))
  have q5 : ∀ w ∈ Cmp5.tab :: words, w.before a s = true := fun w hw => (List.mem_cons.mp hw).elim (fun e => e ▸ h5) (h w)
  have h3 : Cmp3.tab.before a s = true := unparts (wk q5 (.code Cmp3.yN Cmp3.yB 6 (some (.array .byte)))) (wks q5 (.initialized Cmp3.yN.cls :: Cmp3.site))
  have q3 : ∀ w ∈ Cmp3.tab :: CodL.tab :: words, w.before a s = true := fun w hw => (List.mem_cons.mp hw).elim (fun e => e ▸ h3) fun hw => (List.mem_cons.mp hw).elim (fun e => e ▸ hc) (h w)
  have h4 : New4.tab.before a s = true := unparts (wk q3 (.code New4.yN New4.yB 6 none)) (wks q3 (.initialized New4.yN.cls :: New4.site))
  have q4 : ∀ w ∈ New4.tab :: words, w.before a s = true := fun w hw => (List.mem_cons.mp hw).elim (fun e => e ▸ h4) (h w)
  exact unparts (wk q4 (.code New1.yN New1.yB 2 none)) (wks q4 (.initialized New1.yN.cls :: New1.site))
/-- the words ride from the start Z to the walk's own state -/
theorem moved {Z s : State} {a0 args : Array Value} (hZ : Z.Warmed39 s.vm) (hw : ∀ d ∈ words, d.before a0 Z = true) : ∀ d ∈ words, d.before args s = true := fun d hd => by
  have q := hw d hd
  have t : ∀ d ∈ words, d = .arrayClass .byte ∨ (d.onTables && d.keepsFace) = true := by decide +kernel
  rcases t d hd with rfl | t
  · exact RoadKit.mvA hZ q
  · exact RoadKit.mv hZ q t
/-- WHAT COMES BACK, over the tables of the start Z: h the heap at the call, h' behind it -/
def Q (Z : State) (x : Addr) (A : Cell) (h : Heap) (v : Option Value) (h' : Heap) (L : List Loc) : Prop := v = none ∧ (∀ y ∈ L, y.base = x) ∧ RoadKit.Keep h h' [x] ∧ h'.size = h.size + 1 ∧ RoadKit.Exa Z h' x ST ∧ RoadKit.Fld Z h' x ST "value" "[B" (.ref h.size) ∧ RoadKit.Fld Z h' x ST "coder" "B" (.int 0) ∧
  (∃ V : Cell, RoadKit.Arr Z h' h.size V .byte ∧ V.vm = .none ∧ Z.vm.findClass "[B" = some V.cls ∧ V.slots.size = A.slots.size ∧ ∀ j, j < A.slots.size → V.slots[j]? = some (.int (lo8 (cv A j)))) ∧
  ∀ (O n d : String) (w : Value), RoadKit.Fld Z h x O n d w → RoadKit.slotOf Z O n d ≠ RoadKit.slotOf Z ST "value" "[B" → RoadKit.slotOf Z O n d ≠ RoadKit.slotOf Z ST "coder" "B" → RoadKit.Fld Z h' x O n d w
/-- **new String(chars) AT A CALL, IN THE ROAD'S FORM**: for specialBack behind newO: x the fresh String, b the char[] with the cell A -/
theorem back {p : Program} {l : Launch} {e : Env} {R : Room} {s : State} {args : Array Value} {below : List Frame} {len W : Nat} {Z : State} {a0 : Array Value} {h : Heap} (hZ : Z.Warmed39 s.vm) (hw : ∀ d ∈ words, d.before a0 Z = true) {kI : Nat} (wi : (Jvm.Cond.instantiable ST kI).before a0 Z = true)
    {x b : Addr} {A : Cell} {z : Int32} {v0 c0 : Value} (E : RoadKit.Exa Z h x ST) (V : RoadKit.Fld Z h x ST "value" "[B" v0) (C : RoadKit.Fld Z h x ST "coder" "B" c0) (K : RoadKit.Arr Z h b A .char) (hty : Typed .char A) (S : RoadKit.Sta Z h ST "COMPACT_STRINGS" "Z" (.int z)) (hz : ¬ z = 0)
    (l0 : 0 < A.slots.size) (l2 : A.slots.size ≤ 536870912) (hp : ∀ i, i < A.slots.size → ¬ 255 < cv A i) (hfr : 4 ≤ R.frames) (hlo : W + 65 ≤ R.locals) :
    Back l R p e below s args New1.yN len W (fun P a => a = #[.ref x, .ref b] ∧ P.U.heap = h ∧ P.cells + 1 ≤ R.cells ∧ P.slots + A.slots.size ≤ R.slots)
      (fun P _ v B => ∃ L, Q Z x A h v B.U.heap L ∧ B.locs = P.locs ++ L ∧ B.cells = P.cells + 1 ∧ B.slots = P.slots + A.slots.size) := by
  intro m meth c P g ig mk a X hg hsize hdg hW hn hp'
  obtain ⟨rfl, rfl, r1, r2⟩ := hp'
  have al : Z.vm.Alike P.U.vm := hZ.alike.trans X.warmed.alike
  obtain ⟨D, cfV, kV, iV, fV, hD, gV, stV, knV, obV, asV, slV⟩ := id V
  obtain ⟨D', cfC, kC, iC, fC, hD', gC, stC, -, -, asC, slC⟩ := id C
  cases hD.symm.trans hD'
  obtain ⟨D2, kD, e1, e2, e3, e4, e5⟩ := id E
  cases hD.symm.trans e1
  obtain ⟨c2, k2, i1, i2, i3, -⟩ := Cond.instantiable_spec wi
  cases e2.symm.trans i1
  cases e3.symm.trans i2
  obtain ⟨kU, u1, u2⟩ := al.2.2 _ _ e3
  have hB : Blank ST x D P.U := ⟨hD, ⟨knV, fun q hq => by rw [hq] at obV; cases obV⟩, by rw [al.findClass]; exact e2, kU, u1, by rw [u2]; exact i3, by rw [u2]; exact e5 i3⟩
  have F1 : Found ST "value" "[B" fV P.U := ⟨SBG.found_only al ⟨cfV, kV, iV, gV⟩, stV⟩
  have F2 : Found ST "coder" "B" fC P.U := ⟨SBG.found_only al ⟨cfC, kC, iC, gC⟩, stC⟩
  have hA : Ch b A P.U := ⟨⟨K.1, State.isArrayOf_alike al K.2.1, K.2.2, by omega⟩, hty⟩
  have hS : StaticIs P.U ST "COMPACT_STRINGS" "Z" (.int z) := by
    obtain ⟨cfS, iS, kS, fS, st, cS, t1, t2, t3, t4, t5, t6, t7⟩ := S
    exact StaticIs.there (s := { Z with heap := P.U.heap }) ⟨cfS, iS, kS, fS, st, cS, t1, t2, t3, t4, t5, (fun q => by rw [q] at t6; cases t6), t7⟩ al rfl
  obtain ⟨v, B, X', ⟨⟨hv, E', V', q1, q2, q3, q4, q5, q6, q7, q8, q9, q10, q11⟩, hl, hc, hs⟩, st⟩ := New1.pays x D fV fC b A z (tab_of (moved hZ hw)) hfr hlo m meth c P g ig mk _ X hg hsize hdg hW hn ⟨r1, r2, rfl, hB, F1, F2, hA, hS, hz, l0, l2, hp⟩
  have al' : Z.vm.Alike B.U.vm := hZ.alike.trans X'.warmed.alike
  have hsz : E'.slots.size = D.slots.size := by
    obtain ⟨-, -, -, kB, w1, w2, w3⟩ := q1
    obtain ⟨kB', y1, y2⟩ := al'.2.2 _ _ e3
    rw [q2.2.1] at w1
    cases w1.symm.trans y1
    rw [w3, e5 i3, y2]
  refine ⟨v, B, X', ⟨_, ⟨hv, ?_, ⟨by omega, fun y cy hy hn' => q10 y cy (by simpa using hn') hy, fun y cy hy => ?_⟩, q11, ⟨E', _, q1.1, by rw [q2.2.1]; exact e2, by rw [q2.2.1]; exact e3, by rw [q2.1]; exact obV, fun _ => by rw [hsz]; exact e5 i3⟩,
    ⟨E', cfV, kV, iV, fV, q1.1, gV, stV, by rw [q2.1]; exact knV, by rw [q2.1]; exact obV, by rw [q2.2.1]; exact asV, q3⟩, ⟨E', cfC, kC, iC, fC, q1.1, gC, stC, by rw [q2.1]; exact knV, by rw [q2.1]; exact obV, by rw [q2.2.1]; exact asC, q4⟩,
    ⟨V', ⟨q5.1, State.isArrayOf_alike al'.symm q5.2.1, q5.2.2.1⟩, q6, by rw [← al'.findClass]; exact q7, q8, fun j hj => by have := q9 j hj; rwa [Nat.zero_add] at this⟩, fun O n d w F n1 n2 => ?_⟩, hl, hc, hs⟩, st⟩
  · intro y hy
    simp only [List.mem_cons, List.not_mem_nil, or_false] at hy
    rcases hy with rfl | rfl <;> rfl
  · by_cases q : y = x
    · subst q
      cases hD.symm.trans hy
      exact ⟨E', q1.1, q2.2.1, q2.1, hsz⟩
    · exact ⟨cy, q10 y cy q hy, rfl, rfl, rfl⟩
  · obtain ⟨D3, cf, k, i, f, g1, g2, g3, g4, g5, g6, g7⟩ := F
    cases hD.symm.trans g1
    simp only [RoadKit.slotOf, g2, gV, gC, Option.map_some, Option.getD_some] at n1 n2
    exact ⟨E', cf, k, i, f, q1.1, g2, g3, by rw [q2.1]; exact g4, by rw [q2.1]; exact g5, by rw [q2.2.1]; exact g6, by rw [q2.2.2 f.slot (by simp [n1, n2])]; exact g7⟩
end StrChars.Road
namespace StrChars.Road
open Jvm Sem ClassFile Op Lib Jvm.Stand Jvm.Free Jvm.Free.XT
/-- WHAT COMES BACK, the byte[] as a list of values -/
def QA (Z : State) (x : Addr) (zn : Int32) (cs : List Int32) (h : Heap) (v : Option Value) (h' : Heap) (L : List Loc) : Prop := v = none ∧ (∀ y ∈ L, y.base = x) ∧ RoadKit.Keep h h' [x] ∧ h'.size = h.size + 1 ∧ RoadKit.Exa Z h' x ST ∧ RoadKit.Fld Z h' x ST "value" "[B" (.ref h.size) ∧ RoadKit.Fld Z h' x ST "coder" "B" (.int 0) ∧
  (∃ kb, Z.vm.findClass "[B" = some kb ∧ RoadKit.Arv Z h' h.size kb .byte zn (cs.map fun c => .int (lo8 c)) (.int 0)) ∧
  ∀ (O n d : String) (w : Value), RoadKit.Fld Z h x O n d w → RoadKit.slotOf Z O n d ≠ RoadKit.slotOf Z ST "value" "[B" → RoadKit.slotOf Z O n d ≠ RoadKit.slotOf Z ST "coder" "B" → RoadKit.Fld Z h' x O n d w
/-- **new String(chars) AT A CALL, THE ARRAYS AS LISTS**: the char[] at b holds cs, not empty, no char above 255 -/
theorem backArv {p : Program} {l : Launch} {e : Env} {R : Room} {s : State} {args : Array Value} {below : List Frame} {len W : Nat} {Z : State} {a0 : Array Value} {h : Heap} (hZ : Z.Warmed39 s.vm) (hw : ∀ d ∈ words, d.before a0 Z = true) {kI : Nat} (wi : (Jvm.Cond.instantiable ST kI).before a0 Z = true)
    {x b : Addr} {k : ClassId} {zn z : Int32} {cs : List Int32} {dv v0 c0 : Value} (E : RoadKit.Exa Z h x ST) (V : RoadKit.Fld Z h x ST "value" "[B" v0) (C : RoadKit.Fld Z h x ST "coder" "B" c0) (K : RoadKit.Arv Z h b k .char zn (cs.map Value.int) dv) (S : RoadKit.Sta Z h ST "COMPACT_STRINGS" "Z" (.int z)) (hz : ¬ z = 0)
    (hlen : zn.toNatClampNeg = cs.length) (h0 : 0 < cs.length) (hbig : cs.length ≤ 536870912) (hall : ∀ c ∈ cs, ¬ 255 < c) (hfr : 4 ≤ R.frames) (hlo : W + 65 ≤ R.locals) :
    Back l R p e below s args New1.yN len W (fun P a => a = #[.ref x, .ref b] ∧ P.U.heap = h ∧ P.cells + 1 ≤ R.cells ∧ P.slots + cs.length ≤ R.slots)
      (fun P _ v B => ∃ L, QA Z x zn cs h v B.U.heap L ∧ B.locs = P.locs ++ L ∧ B.cells = P.cells + 1 ∧ B.slots = P.slots + cs.length) := by
  obtain ⟨A, K1, K2, K3, K4, K5, K6⟩ := K
  have e : A.slots.size = cs.length := K3.trans hlen
  have hat : ∀ (i : Nat) (hi : i < cs.length), A.slots[i]? = some (.int cs[i]) := fun i hi => by rw [K5 i (by omega)]; simp [List.getD_eq_getElem?_getD, hi]
  have hcv : ∀ (i : Nat) (hi : i < cs.length), cv A i = cs[i] := fun i hi => by unfold cv; rw [hat i hi]
  have hty : Typed .char A := fun i v hv => by
    have hi : i < A.slots.size := (Array.getElem?_eq_some_iff.mp hv).1
    have q := K5 i hi
    rw [hv] at q
    rw [Option.some.inj q]
    exact K6 i hi
  refine Back.mono (back hZ hw wi E V C K1 hty S hz (by omega) (by omega) (fun i hi => by rw [hcv i (by omega)]; exact hall _ (List.getElem_mem _)) hfr hlo) (fun P a hp => ⟨hp.1, hp.2.1, hp.2.2.1, by rw [e]; exact hp.2.2.2⟩) (fun P a v B hp hq => ?_)
  obtain ⟨L, ⟨q1, q2, q3, q4, q5, q6, q7, ⟨V', v1, v2, v3, v4, v5⟩, q9⟩, hl, hc, hs⟩ := hq
  refine ⟨L, ⟨q1, q2, q3, q4, q5, q6, q7, ⟨V'.cls, v3, V', v1, rfl, by rw [v4, e, hlen], K4, fun i hi => ?_, fun i hi => ?_⟩, q9⟩, hl, hc, by rw [hs, e]⟩
  · have hi' : i < cs.length := by omega
    rw [v5 i (by omega), hcv i hi']; simp [List.getD_eq_getElem?_getD, hi']
  · have hi' : i < cs.length := by omega
    simp only [List.getD_eq_getElem?_getD, List.getElem?_map, List.getElem?_eq_getElem hi', Option.map_some, Option.getD_some]
    exact fits_lo8 _
end StrChars.Road
namespace StrChars.Road
open Jvm Sem ClassFile Op Lib Jvm.Stand Jvm.Free Jvm.Free.XT
/-- WHAT COMES BACK, in the writer's own shape -/
def QV (Z : State) (x : Addr) (N : Int32) (bs : List Int32) (h : Heap) (n0 : Nat) (v : Option Value) (h' : Heap) (L : List Loc) : Prop := v = none ∧ RoadKit.Fr n0 L ∧ RoadKit.Keep h h' [x] ∧ RoadKit.Exa Z h' x ST ∧ RoadKit.Fld Z h' x ST "coder" "B" (.int 0) ∧
  ∃ (t : Addr) (kb : ClassId), n0 ≤ t ∧ h.size ≤ t ∧ ¬ t = x ∧ RoadKit.Fld Z h' x ST "value" "[B" (.ref t) ∧ RoadKit.Arv Z h' t kb .byte N (bs.map Value.int) (.int 0)
/-- **new String(chars) AT A CALL, FOR THE WRITER**: a char[] of n known ints, each 0 to 255 -/
theorem backV {p : Program} {l : Launch} {e : Env} {R : Room} {s : State} {args : Array Value} {below : List Frame} {len W : Nat} {Z : State} {a0 : Array Value} {h : Heap} (hZ : Z.Warmed39 s.vm) (hw : ∀ d ∈ words, d.before a0 Z = true) {kI : Nat} (wi : (Jvm.Cond.instantiable ST kI).before a0 Z = true)
    {x b : Addr} {kC : ClassId} {cs bs : List Int32} {d v0 c0 : Value} {z N : Int32} {n n0 : Nat} (hx0 : n0 ≤ x) (hh0 : n0 ≤ h.size) (E : RoadKit.Exa Z h x ST) (V : RoadKit.Fld Z h x ST "value" "[B" v0) (C : RoadKit.Fld Z h x ST "coder" "B" c0) (K : RoadKit.Arv Z h b kC .char N (cs.map Value.int) d) (S : RoadKit.Sta Z h ST "COMPACT_STRINGS" "Z" (.int z)) (hz : ¬ z = 0)
    (hn : cs.length = n) (hN : N = Int32.ofNat n) (l0 : 0 < n) (l2 : n ≤ 4000) (hp : ∀ c ∈ cs, ¬ c < 0 ∧ ¬ (255 : Int32) < c) (hb : bs = cs.map (fun c => c.toInt8.toInt32)) (hfr : 4 ≤ R.frames) (hlo : W + 65 ≤ R.locals) :
    Back l R p e below s args (⟨"java/lang/String", "<init>", "([C)V"⟩ : MethodName) len W (fun P a => a = #[.ref x, .ref b] ∧ P.U.heap = h ∧ P.cells + 1 ≤ R.cells ∧ P.slots + n ≤ R.slots)
      (fun P _ v B => ∃ L, QV Z x N bs h n0 v B.U.heap L ∧ B.locs = P.locs ++ L ∧ B.cells = P.cells + 1 ∧ B.slots = P.slots + n) := by
  subst hn hN hb
  refine Back.mono (backArv hZ hw wi E V C K S hz (n32 (by omega)) l0 (by omega) (fun c hc => (hp c hc).2) hfr hlo) (fun P a hp => hp) (fun P a v B hp hq => ?_)
  obtain ⟨L, ⟨q1, q2, q3, q4, q5, q6, q7, ⟨kb, v1, v2⟩, q9⟩, hl, hc, hs⟩ := hq
  exact ⟨L, ⟨q1, fun y hy => by rw [q2 y hy]; exact hx0, q3, q5, q7, h.size, kb, hh0, Nat.le_refl _, Nat.ne_of_gt E.lt, q6, by rw [List.map_map]; exact v2⟩, hl, hc, hs⟩
end StrChars.Road
end Jvm.Pilot.@@N@@
namespace Jvm.Pilot.@@N@@
open Jvm Jvm.ClassFile Sem Op Lib Jvm.Free Jvm.Stand Jvm.LawKit Jvm.RoadKit Bundle Jvm.Pilot.@@N@@.Jvm.D
theorem oW {Z : State} {a0 : Array Value} (hw : ∀ d ∈ tables_1, d.before a0 Z = true) (i : Nat) {d : Jvm.Cond} (h : tables_1[i]? = some d) : d.before a0 Z = true := hw d (List.mem_of_getElem? h)
abbrev oI (x : Int32) : Slot := .val (.int x)
abbrev oR (x : Addr) : Slot := .val (.ref x)
abbrev oV (x : Value) : Slot := .val x
abbrev oN : Slot := .val .null
abbrev oU : Slot := .unset
abbrev oi (x : Int32) : Value := .int x
abbrev ow (x : Addr) : Value := .ref x
abbrev oS (p : Program) (e : Env) (below : List Frame) (T : State) (g : JFrame) (t : State) : Prop := Steps p.tables e below (T.setTop g) t
abbrev oL (p : Program) (e : Env) (below : List Frame) (T : State) (g : JFrame) (T' : State) (g' : JFrame) : Prop := ∀ t, Steps p.tables e below (T.setTop g) t → Steps p.tables e below (T'.setTop g') t
theorem own_fldI {args : Array Value} {Z : State} {t : Term} {C n d : String} {k : Int32} {a : Addr} (ev : t.eval args Z none [] Z = some (.ref a)) (h : (Jvm.Cond.eq (.field t C n d) (.int k)).value args Z none Z [] = some true) : Fld Z Z.heap a C n d (.int k) := by
  obtain ⟨x, y, h1, h2, hk, hk'⟩ := cmp_v (Or.inl h)
  have h2' : y = .int k := by simpa [Term.eval] using h2.symm
  subst h2'
  obtain ⟨z, rfl⟩ : ∃ z, x = .int z := hk'
  have : z = k := by simpa [Cond.value, h1, h2] using h
  subst this
  exact Fld.start ((fld_at ev).symm.trans h1)
theorem own_nb {b : Int32} (h : b = 0 ∨ b = 1) : nar .boolean b = b := by rcases h with rfl | rfl <;> rfl
theorem own_st1 {v : Value} (h : v.isRef = true) {l l' : Array Slot} {i : Nat} (hold : l[i]? = some .unset) (h2 : l.setIfInBounds i (.val v) = l') : storeLocals l i v = some l' := by
  subst h2
  exact XS.store1 hold (Or.inl rfl) (by rcases ref_cases h with rfl | ⟨a, rfl⟩ <;> rfl)
theorem own_narw_bool {x : Int32} (h : nar .boolean x = x) : narrow .boolean (.int x) = .int x := by show Value.int (nar .boolean x) = _; rw [h]
theorem own_fitw_bool {x : Int32} (h : nar .boolean x = x) : fits .boolean (.int x) = true := by rw [← h]; exact fits_nar_bool x
theorem own_narw_char {x : Int32} (h : nar .char x = x) : narrow .char (.int x) = .int x := by show Value.int (nar .char x) = _; rw [h]
theorem own_fitw_char {x : Int32} (h : nar .char x = x) : fits .char (.int x) = true := by rw [← h]; exact fits_nar_char x
theorem own_fitsR {C : String} {v : Value} (h : v.isRef = true) : fits (.object C) v = true := by rcases ref_cases h with rfl | ⟨a, rfl⟩ <;> rfl
theorem own_charN (x : Int32) : (x.toUInt32.toUInt16.toUInt32.toInt32).toBitVec.toNat = x.toBitVec.toNat % 65536 := by
  show ((x.toBitVec.setWidth 16).setWidth 32).toNat = _
  simp
  omega
theorem own_narc {x : Int32} (h : x.toBitVec.toNat < 65536) : x.toUInt32.toUInt16.toUInt32.toInt32 = x := by
  apply Int32.toBitVec_inj.mp
  apply BitVec.eq_of_toNat_eq
  rw [own_charN, Nat.mod_eq_of_lt h]
theorem own_i2c (x : Int32) : nar .char (x.toUInt32.toUInt16.toUInt32.toInt32) = x.toUInt32.toUInt16.toUInt32.toInt32 := by
  show (x.toUInt32.toUInt16.toUInt32.toInt32).toUInt32.toUInt16.toUInt32.toInt32 = _
  exact own_narc (by rw [own_charN]; exact Nat.mod_lt _ (by decide))
theorem own_c255 (x : Int32) : ¬ nar .char ((x &&& (255 : Int32)).toUInt32.toUInt16.toUInt32.toInt32) < 0 ∧ ¬ (255 : Int32) < nar .char ((x &&& (255 : Int32)).toUInt32.toUInt16.toUInt32.toInt32) := by
  have t : ∀ k : Fin 256, ¬ nar .char ((Int32.ofNat k.val).toUInt32.toUInt16.toUInt32.toInt32) < 0 ∧ ¬ (255 : Int32) < nar .char ((Int32.ofNat k.val).toUInt32.toUInt16.toUInt32.toInt32) := by decide +kernel
  have h : (x &&& 255).toBitVec.toNat < 256 := by
    simp only [Int32.toBitVec_and, BitVec.toNat_and]
    exact Nat.lt_succ_of_le Nat.and_le_right
  have e : (x &&& 255) = Int32.ofNat (x &&& 255).toBitVec.toNat := by
    apply Int32.toBitVec_inj.mp
    show _ = BitVec.ofNat 32 _
    rw [BitVec.ofNat_toNat]; simp
  rw [e]
  exact t ⟨_, h⟩
theorem own_hws : ∀ d ∈ StrChars.Road.words, d ∈ tables_1 := by decide +kernel
theorem pn_java_lang_Record : plainName "java/lang/Record" = true := by first | (simp [plainName, overriddenIn]; done) | decide +kernel
theorem d8_0 : decode jdk_30_method_1_code 0 = .ok (.aload_n 0, 1) := by decide +kernel
theorem d8_1 : decode jdk_30_method_1_code 1 = .ok (.invokespecial 1, 3) := by decide +kernel
theorem d8_4 : decode jdk_30_method_1_code 4 = .ok (.return_, 1) := by decide +kernel
def Q_rm_rec (Z : State) (a1 : Addr) (h0 : Heap) (n0 : Nat) (v : Option Value) (h : Heap) (L : List Loc) : Prop := v = none ∧ Fr n0 L ∧ h = h0
set_option maxRecDepth 65536 in
set_option maxHeartbeats 40000000 in
theorem rm_rec (l : Launch) (Z : State) (a0 : Array Value) (hw : ∀ d ∈ tables_1, d.before a0 Z = true) (ws : List Jvm.Cond) (a1 : Addr) (h0 : Heap) (n0 : Nat) (OL : Old Z n0 h0) :
    MetFree l (⟨"java/lang/Record", "<init>", "()V"⟩ : MethodName) (head1 (Jvm.Cond.code (⟨"java/lang/Record", "<init>", "()V"⟩ : MethodName) jdk_30_method_1_code 1 none :: ws) ({ frames := 1, cells := 0, slots := 0, locals := 12 } : Room)) (fun a U => a = #[(.ref a1)] ∧ Z.Warmed39 U.vm ∧ U.heap = h0) (fun _ _ _ _ _ => True) (fun _ U o U' => ∃ v L, o = .returned v ∧ Q_rm_rec Z a1 h0 n0 v U'.heap L ∧ FrameEnd U o U' L ({ frames := 1, cells := 0, slots := 0, locals := 12 } : Room).cells ({ frames := 1, cells := 0, slots := 0, locals := 12 } : Room).slots) := by
  refine MetFree.of_bodySF (plainFor_of_name pn_java_lang_Record) hisR ?_
  intro p e s m args below meth c s₁ Bd hml0 hP hK
  obtain ⟨rfl, hZ, hh⟩ := hP
  have hx := Bd.exec
  have hby := Bd.bytes
  have hml : c.maxLocals = 1 := hml0
  have hown : s.vm.findClass "java/lang/Record" = some m.cls := findClass_of_methodNamed Bd.named
  have hnm := (name_of_methodNamed Bd.named Bd.method).1
  have X0 : Stand p l e ({ frames := 1, cells := 0, slots := 0, locals := 12 } : Room) s m #[(.ref a1)] below meth c s₁ [] 0 0 := Stand.of_body Bd
  have e0 : s₁.heap = h0 := by rw [← hh, Bd.state]; rfl
  have N0 := Fr.nil n0
  have pre0 : oL p e below s₁ (mkF m 0 #[oR a1] []) s₁ (entryFrame m #[(.ref a1)] 1) := fun t k => castTop (by first | (simp [entryFrame, mkF, argsToLocals, Value.category]; done) | rfl) k
  have pre11 : oL p e below s₁ (mkF m 1 #[oR a1] [ow a1]) s₁ (entryFrame m #[(.ref a1)] 1) := fun t k => pre0 t (by
    refine XS.aloadN X0.here hx rfl (hb hby d8_0) rfl rfl ?_
    exact k)
  obtain ⟨T12, X12, e12, st12⟩ := initO X0 hx hZ hown (oW hw 41 rfl) (oW hw 12 rfl) (oW hw 13 rfl) e0 (g := (mkF m 1 #[oR a1] [ow a1])) rfl (by rw [hml]; rfl) rfl (hb hby d8_1) (by decide) (W := 0) (by show 2 * 0 + _ ≤ _; exact Nat.le_of_eq rfl) (by decide)
  have pre13 : oL p e below T12 (mkF m 4 #[oR a1] []) s₁ (entryFrame m #[(.ref a1)] 1) := fun t k => pre11 t (by
    refine st12 _ ?_
    exact k)
  obtain ⟨fs, hr, hrun, hended, hW, hsame⟩ := X12.leave (v := none) (fun _ => rfl)
  refine ⟨_, _, pre13 _ ?_, hrun, hended, _, _, rfl, ?_, ⟨_, rfl⟩, hW, hsame.mono (by decide) (by decide)⟩
  ·
    show oS p e below T12 (mkF m 4 #[oR a1] []) _
    exact X12.returnOut hx Bd.returns (hb hby d8_4) hr
  ·
    show Q_rm_rec Z a1 h0 n0 _ T12.heap _
    rw [e12]
    exact ⟨rfl, N0, rfl⟩
theorem pn_com_example_vedette_vedette_definition_SubfieldDefinition : plainName "com/example/vedette/vedette/definition/SubfieldDefinition" = true := by first | (simp [plainName, overriddenIn]; done) | decide +kernel
theorem d7_0 : decode prog_9_method_2_code 0 = .ok (.aload_n 0, 1) := by decide +kernel
theorem d7_1 : decode prog_9_method_2_code 1 = .ok (.invokespecial 1, 3) := by decide +kernel
theorem pd___V : parseMethodDescriptor "()V" = some ⟨[], none⟩ := by decide +kernel
theorem d7_4 : decode prog_9_method_2_code 4 = .ok (.aload_n 0, 1) := by decide +kernel
theorem d7_5 : decode prog_9_method_2_code 5 = .ok (.iload_n 1, 1) := by decide +kernel
theorem d7_6 : decode prog_9_method_2_code 6 = .ok (.putfield 7, 3) := by decide +kernel
theorem d7_9 : decode prog_9_method_2_code 9 = .ok (.aload_n 0, 1) := by decide +kernel
theorem d7_10 : decode prog_9_method_2_code 10 = .ok (.aload_n 2, 1) := by decide +kernel
theorem d7_11 : decode prog_9_method_2_code 11 = .ok (.putfield 13, 3) := by decide +kernel
theorem d7_14 : decode prog_9_method_2_code 14 = .ok (.aload_n 0, 1) := by decide +kernel
theorem d7_15 : decode prog_9_method_2_code 15 = .ok (.iload_n 3, 1) := by decide +kernel
theorem d7_16 : decode prog_9_method_2_code 16 = .ok (.putfield 17, 3) := by decide +kernel
theorem d7_19 : decode prog_9_method_2_code 19 = .ok (.aload_n 0, 1) := by decide +kernel
theorem d7_20 : decode prog_9_method_2_code 20 = .ok (.iload 4, 2) := by decide +kernel
theorem d7_22 : decode prog_9_method_2_code 22 = .ok (.putfield 21, 3) := by decide +kernel
theorem d7_25 : decode prog_9_method_2_code 25 = .ok (.aload_n 0, 1) := by decide +kernel
theorem d7_26 : decode prog_9_method_2_code 26 = .ok (.aload 5, 2) := by decide +kernel
theorem d7_28 : decode prog_9_method_2_code 28 = .ok (.putfield 24, 3) := by decide +kernel
theorem d7_31 : decode prog_9_method_2_code 31 = .ok (.return_, 1) := by decide +kernel
def Q_rm_sd (Z : State) (a1 : Addr) (pc : Int32) (an : Addr) (pr : Int32) (pm : Int32) (cv : Value) (h0 : Heap) (n0 : Nat) (v : Option Value) (h : Heap) (L : List Loc) : Prop := v = none ∧ Fr n0 L ∧ Keep h0 h [a1] ∧ Exa Z h a1 "com/example/vedette/vedette/definition/SubfieldDefinition" ∧ Fld Z h a1 "com/example/vedette/vedette/definition/SubfieldDefinition" "code" "C" (.int pc) ∧ Fld Z h a1 "com/example/vedette/vedette/definition/SubfieldDefinition" "name" "Ljava/lang/String;" (.ref an) ∧ Fld Z h a1 "com/example/vedette/vedette/definition/SubfieldDefinition" "repeatable" "Z" (.int pr) ∧ Fld Z h a1 "com/example/vedette/vedette/definition/SubfieldDefinition" "mandatory" "Z" (.int pm) ∧ Fld Z h a1 "com/example/vedette/vedette/definition/SubfieldDefinition" "controlValue" "Lcom/example/vedette/vedette/definition/ControlValueDefinition;" cv
set_option maxRecDepth 65536 in
set_option maxHeartbeats 40000000 in
theorem rm_sd (l : Launch) (Z : State) (a0 : Array Value) (hw : ∀ d ∈ tables_1, d.before a0 Z = true) (ws : List Jvm.Cond) (a1 : Addr) (pc : Int32) (an : Addr) (pr : Int32) (pm : Int32) (cv : Value) (h0 : Heap) (n0 : Nat) (OL : Old Z n0 h0) (ge1 : n0 ≤ a1) (E1 : Exa Z h0 a1 "com/example/vedette/vedette/definition/SubfieldDefinition") (F_code : Fld Z h0 a1 "com/example/vedette/vedette/definition/SubfieldDefinition" "code" "C" (.int (0 : Int32))) (F_name : Fld Z h0 a1 "com/example/vedette/vedette/definition/SubfieldDefinition" "name" "Ljava/lang/String;" .null) (F_repeatable : Fld Z h0 a1 "com/example/vedette/vedette/definition/SubfieldDefinition" "repeatable" "Z" (.int (0 : Int32))) (F_mandatory : Fld Z h0 a1 "com/example/vedette/vedette/definition/SubfieldDefinition" "mandatory" "Z" (.int (0 : Int32))) (F_controlValue : Fld Z h0 a1 "com/example/vedette/vedette/definition/SubfieldDefinition" "controlValue" "Lcom/example/vedette/vedette/definition/ControlValueDefinition;" .null) (nc : nar .char pc = pc) (nr : nar .boolean pr = pr) (nm : nar .boolean pm = pm) (hcv : cv.isRef = true) :
    MetFree l (⟨"com/example/vedette/vedette/definition/SubfieldDefinition", "<init>", "(CLjava/lang/String;ZZLcom/example/vedette/vedette/definition/ControlValueDefinition;)V"⟩ : MethodName) (head1 (Jvm.Cond.code (⟨"com/example/vedette/vedette/definition/SubfieldDefinition", "<init>", "(CLjava/lang/String;ZZLcom/example/vedette/vedette/definition/ControlValueDefinition;)V"⟩ : MethodName) prog_9_method_2_code 6 none :: ws) ({ frames := 2, cells := 0, slots := 0, locals := 24 } : Room)) (fun a U => a = #[(.ref a1), (.int pc), (.ref an), (.int pr), (.int pm), cv] ∧ Z.Warmed39 U.vm ∧ U.heap = h0) (fun _ _ _ _ _ => True) (fun _ U o U' => ∃ v L, o = .returned v ∧ Q_rm_sd Z a1 pc an pr pm cv h0 n0 v U'.heap L ∧ FrameEnd U o U' L ({ frames := 2, cells := 0, slots := 0, locals := 24 } : Room).cells ({ frames := 2, cells := 0, slots := 0, locals := 24 } : Room).slots) := by
  refine MetFree.of_bodySF (plainFor_of_name pn_com_example_vedette_vedette_definition_SubfieldDefinition) hisR ?_
  intro p e s m args below meth c s₁ Bd hml0 hP hK
  obtain ⟨rfl, hZ, hh⟩ := hP
  have hx := Bd.exec
  have hby := Bd.bytes
  have hml : c.maxLocals = 6 := hml0
  have hown : s.vm.findClass "com/example/vedette/vedette/definition/SubfieldDefinition" = some m.cls := findClass_of_methodNamed Bd.named
  have hnm := (name_of_methodNamed Bd.named Bd.method).1
  have X0 : Stand p l e ({ frames := 2, cells := 0, slots := 0, locals := 24 } : Room) s m #[(.ref a1), (.int pc), (.ref an), (.int pr), (.int pm), cv] below meth c s₁ [] 0 0 := Stand.of_body Bd
  have e0 : s₁.heap = h0 := by rw [← hh, Bd.state]; rfl
  have N0 := Fr.nil n0
  have pre0 : oL p e below s₁ (mkF m 0 #[oR a1, oI pc, oR an, oI pr, oI pm, oV cv] []) s₁ (entryFrame m #[(.ref a1), (.int pc), (.ref an), (.int pr), (.int pm), cv] 6) := fun t k => castTop (by rcases ref_cases hcv with rfl | ⟨_, rfl⟩ <;> first | (simp [entryFrame, mkF, argsToLocals, Value.category]; done) | rfl) k
  have pre11 : oL p e below s₁ (mkF m 1 #[oR a1, oI pc, oR an, oI pr, oI pm, oV cv] [ow a1]) s₁ (entryFrame m #[(.ref a1), (.int pc), (.ref an), (.int pr), (.int pm), cv] 6) := fun t k => pre0 t (by
    refine XS.aloadN X0.here hx rfl (hb hby d7_0) rfl rfl ?_
    exact k)
  obtain ⟨_, _, ⟨T12, L12, k12, n12⟩, -, X12, ⟨Lc12, hQ12, l12, y12, z12⟩, st12⟩ := X0.specialBack hx (y := (⟨"java/lang/Record", "<init>", "()V"⟩ : MethodName)) rfl hown (mvT hZ (oW hw 36 rfl)) (mvT hZ (oW hw 37 rfl)) (mvT hZ (oW hw 40 rfl)) (by decide) (backOf (W := 0) (rm_rec l Z a0 hw [] a1 h0 n0 OL ) hZ (oW hw 40 rfl) (oW hw 39 rfl) (by decide) (by decide)) (g := (mkF m 1 #[oR a1, oI pc, oR an, oI pr, oI pm, oV cv] [ow a1])) rfl (by rw [hml]; rfl) (Steps.refl _) (a := a1) (argsL := []) (rest := []) (lenOf pd___V rfl) rfl (by show 2 * 0 + _ ≤ _; exact Nat.le_of_eq rfl) (hb hby d7_1) (fun _ _ => ⟨rfl, e0, (by decide : 0 + 0 ≤ _), (by decide : 0 + 0 ≤ _)⟩)
  dsimp only [Pt.U, Pt.locs, Pt.cells, Pt.slots] at X12 l12 y12 z12 st12 hQ12
  subst l12 y12 z12
  obtain ⟨rfl, N12q, e12⟩ := hQ12
  have N12 := Fr.app N0 N12q
  have pre13 : oL p e below T12 (mkF m 6 #[oR a1, oI pc, oR an, oI pr, oI pm, oV cv] [oi pc, ow a1]) s₁ (entryFrame m #[(.ref a1), (.int pc), (.ref an), (.int pr), (.int pm), cv] 6) := fun t k => pre11 t (by
    refine st12.trans ?_
    refine XS.aloadN X12.here hx rfl (hb hby d7_4) rfl rfl ?_
    refine XS.iloadN X12.here hx rfl (hb hby d7_5) rfl ?_
    show oS p e below T12 (mkF m 6 #[oR a1, oI pc, oR an, oI pr, oI pm, oV cv] [oi pc, ow a1]) _
    exact k)
  obtain ⟨T14, h14, X14, e14, W14, st14⟩ := putFN X12 hx hZ hown (oW hw 42 rfl) Via.refl e12 F_code E1 (Or.inr ⟨(oW hw 43 rfl), rfl, hnm⟩) (oW hw 31 rfl) (ty := .char) (v' := (.int pc)) (by decide) (own_narw_char nc) (own_fitw_char nc) (g := (mkF m 6 #[oR a1, oI pc, oR an, oI pr, oI pm, oV cv] [oi pc, ow a1])) rfl rfl (hb hby d7_6)
  have f15 := F_code.same W14
  have N14 := Fr.snoc X14 N12 ge1
  have f16 := E1.wr W14
  have f17 := F_name.other W14 (Or.inr (slot_ne (Or.inr (oW hw 45 rfl)) (Or.inr (oW hw 43 rfl)) (by decide) (t := (.object "java/lang/String")) (t' := .char) (by decide) (by decide)))
  have f18 := F_repeatable.other W14 (Or.inr (slot_ne (Or.inr (oW hw 47 rfl)) (Or.inr (oW hw 43 rfl)) (by decide) (t := .boolean) (t' := .char) (by decide) (by decide)))
  have f19 := F_mandatory.other W14 (Or.inr (slot_ne (Or.inr (oW hw 49 rfl)) (Or.inr (oW hw 43 rfl)) (by decide) (t := .boolean) (t' := .char) (by decide) (by decide)))
  have f20 := F_controlValue.other W14 (Or.inr (slot_ne (Or.inr (oW hw 51 rfl)) (Or.inr (oW hw 43 rfl)) (by decide) (t := (.object "com/example/vedette/vedette/definition/ControlValueDefinition")) (t' := .char) (by decide) (by decide)))
  have OL21 := OL.wr W14 ge1
  have K22 : Keep h0 h14 [a1] := (Keep.refl h0 [a1]).wr W14 (Or.inl (List.mem_of_getElem? (i := 0) rfl))
  have pre23 : oL p e below T14 (mkF m 11 #[oR a1, oI pc, oR an, oI pr, oI pm, oV cv] [ow an, ow a1]) s₁ (entryFrame m #[(.ref a1), (.int pc), (.ref an), (.int pr), (.int pm), cv] 6) := fun t k => pre13 t (by
    refine st14 _ ?_
    refine XS.aloadN X14.here hx rfl (hb hby d7_9) rfl rfl ?_
    refine XS.aloadN X14.here hx rfl (hb hby d7_10) rfl rfl ?_
    exact k)
  obtain ⟨T24, h24, X24, e24, W24, st24⟩ := putF X14 hx hZ hown (host := "") (Or.inl (oW hw 44 rfl)) Via.refl e14 f17 f16 (Or.inr ⟨(oW hw 45 rfl), rfl, hnm⟩) (oW hw 31 rfl) (ty := (.object "java/lang/String")) (by decide) rfl rfl (g := (mkF m 11 #[oR a1, oI pc, oR an, oI pr, oI pm, oV cv] [ow an, ow a1])) rfl rfl (hb hby d7_11)
  have f25 := f17.same W24
  have N24 := Fr.snoc X24 N14 ge1
  have f26 := f16.wr W24
  have f27 := f15.other W24 (Or.inr (slot_ne (Or.inr (oW hw 43 rfl)) (Or.inr (oW hw 45 rfl)) (by decide) (t := .char) (t' := (.object "java/lang/String")) (by decide) (by decide)))
  have f28 := f18.other W24 (Or.inr (slot_ne (Or.inr (oW hw 47 rfl)) (Or.inr (oW hw 45 rfl)) (by decide) (t := .boolean) (t' := (.object "java/lang/String")) (by decide) (by decide)))
  have f29 := f19.other W24 (Or.inr (slot_ne (Or.inr (oW hw 49 rfl)) (Or.inr (oW hw 45 rfl)) (by decide) (t := .boolean) (t' := (.object "java/lang/String")) (by decide) (by decide)))
  have f30 := f20.other W24 (Or.inr (slot_ne (Or.inr (oW hw 51 rfl)) (Or.inr (oW hw 45 rfl)) (by decide) (t := (.object "com/example/vedette/vedette/definition/ControlValueDefinition")) (t' := (.object "java/lang/String")) (by decide) (by decide)))
  have OL31 := OL21.wr W24 ge1
  have K32 : Keep h0 h24 [a1] := K22.wr W24 (Or.inl (List.mem_of_getElem? (i := 0) rfl))
  have pre33 : oL p e below T24 (mkF m 16 #[oR a1, oI pc, oR an, oI pr, oI pm, oV cv] [oi pr, ow a1]) s₁ (entryFrame m #[(.ref a1), (.int pc), (.ref an), (.int pr), (.int pm), cv] 6) := fun t k => pre23 t (by
    refine st24 _ ?_
    show oS p e below T24 (mkF m 14 #[oR a1, oI pc, oR an, oI pr, oI pm, oV cv] []) _
    refine XS.aloadN X24.here hx rfl (hb hby d7_14) rfl rfl ?_
    refine XS.iloadN X24.here hx rfl (hb hby d7_15) rfl ?_
    exact k)
  obtain ⟨T34, h34, X34, e34, W34, st34⟩ := putFN X24 hx hZ hown (oW hw 46 rfl) Via.refl e24 f28 f26 (Or.inr ⟨(oW hw 47 rfl), rfl, hnm⟩) (oW hw 31 rfl) (ty := .boolean) (v' := (.int pr)) (by decide) (own_narw_bool nr) (own_fitw_bool nr) (g := (mkF m 16 #[oR a1, oI pc, oR an, oI pr, oI pm, oV cv] [oi pr, ow a1])) rfl rfl (hb hby d7_16)
  have f35 := f28.same W34
  have N34 := Fr.snoc X34 N24 ge1
  have f36 := f26.wr W34
  have f37 := f27.other W34 (Or.inr (slot_ne (Or.inr (oW hw 43 rfl)) (Or.inr (oW hw 47 rfl)) (by decide) (t := .char) (t' := .boolean) (by decide) (by decide)))
  have f38 := f25.other W34 (Or.inr (slot_ne (Or.inr (oW hw 45 rfl)) (Or.inr (oW hw 47 rfl)) (by decide) (t := (.object "java/lang/String")) (t' := .boolean) (by decide) (by decide)))
  have f39 := f29.other W34 (Or.inr (slot_ne (Or.inr (oW hw 49 rfl)) (Or.inr (oW hw 47 rfl)) (by decide) (t := .boolean) (t' := .boolean) (by decide) (by decide)))
  have f40 := f30.other W34 (Or.inr (slot_ne (Or.inr (oW hw 51 rfl)) (Or.inr (oW hw 47 rfl)) (by decide) (t := (.object "com/example/vedette/vedette/definition/ControlValueDefinition")) (t' := .boolean) (by decide) (by decide)))
  have OL41 := OL31.wr W34 ge1
  have K42 : Keep h0 h34 [a1] := K32.wr W34 (Or.inl (List.mem_of_getElem? (i := 0) rfl))
  have pre43 : oL p e below T34 (mkF m 22 #[oR a1, oI pc, oR an, oI pr, oI pm, oV cv] [oi pm, ow a1]) s₁ (entryFrame m #[(.ref a1), (.int pc), (.ref an), (.int pr), (.int pm), cv] 6) := fun t k => pre33 t (by
    refine st34 _ ?_
    refine XS.aloadN X34.here hx rfl (hb hby d7_19) rfl rfl ?_
    show oS p e below T34 (mkF m 20 #[oR a1, oI pc, oR an, oI pr, oI pm, oV cv] [ow a1]) _
    refine XS.iload X34.here hx rfl (hb hby d7_20) rfl ?_
    exact k)
  obtain ⟨T44, h44, X44, e44, W44, st44⟩ := putFN X34 hx hZ hown (oW hw 48 rfl) Via.refl e34 f39 f36 (Or.inr ⟨(oW hw 49 rfl), rfl, hnm⟩) (oW hw 31 rfl) (ty := .boolean) (v' := (.int pm)) (by decide) (own_narw_bool nm) (own_fitw_bool nm) (g := (mkF m 22 #[oR a1, oI pc, oR an, oI pr, oI pm, oV cv] [oi pm, ow a1])) rfl rfl (hb hby d7_22)
  have f45 := f39.same W44
  have N44 := Fr.snoc X44 N34 ge1
  have f46 := f36.wr W44
  have f47 := f37.other W44 (Or.inr (slot_ne (Or.inr (oW hw 43 rfl)) (Or.inr (oW hw 49 rfl)) (by decide) (t := .char) (t' := .boolean) (by decide) (by decide)))
  have f48 := f38.other W44 (Or.inr (slot_ne (Or.inr (oW hw 45 rfl)) (Or.inr (oW hw 49 rfl)) (by decide) (t := (.object "java/lang/String")) (t' := .boolean) (by decide) (by decide)))
  have f49 := f35.other W44 (Or.inr (slot_ne (Or.inr (oW hw 47 rfl)) (Or.inr (oW hw 49 rfl)) (by decide) (t := .boolean) (t' := .boolean) (by decide) (by decide)))
  have f50 := f40.other W44 (Or.inr (slot_ne (Or.inr (oW hw 51 rfl)) (Or.inr (oW hw 49 rfl)) (by decide) (t := (.object "com/example/vedette/vedette/definition/ControlValueDefinition")) (t' := .boolean) (by decide) (by decide)))
  have OL51 := OL41.wr W44 ge1
  have K52 : Keep h0 h44 [a1] := K42.wr W44 (Or.inl (List.mem_of_getElem? (i := 0) rfl))
  have pre53 : oL p e below T44 (mkF m 28 #[oR a1, oI pc, oR an, oI pr, oI pm, oV cv] [cv, ow a1]) s₁ (entryFrame m #[(.ref a1), (.int pc), (.ref an), (.int pr), (.int pm), cv] 6) := fun t k => pre43 t (by
    refine st44 _ ?_
    refine XS.aloadN X44.here hx rfl (hb hby d7_25) rfl rfl ?_
    refine XS.aload X44.here hx rfl (hb hby d7_26) rfl hcv ?_
    show oS p e below T44 (mkF m 28 #[oR a1, oI pc, oR an, oI pr, oI pm, oV cv] [cv, ow a1]) _
    exact k)
  obtain ⟨T54, h54, X54, e54, W54, st54⟩ := putF X44 hx hZ hown (host := "") (Or.inl (oW hw 50 rfl)) Via.refl e44 f50 f46 (Or.inr ⟨(oW hw 51 rfl), rfl, hnm⟩) (oW hw 31 rfl) (ty := (.object "com/example/vedette/vedette/definition/ControlValueDefinition")) (by decide) rfl (own_fitsR hcv) (g := (mkF m 28 #[oR a1, oI pc, oR an, oI pr, oI pm, oV cv] [cv, ow a1])) rfl rfl (hb hby d7_28)
  have f55 := f50.same W54
  have N54 := Fr.snoc X54 N44 ge1
  have f56 := f46.wr W54
  have f57 := f47.other W54 (Or.inr (slot_ne (Or.inr (oW hw 43 rfl)) (Or.inr (oW hw 51 rfl)) (by decide) (t := .char) (t' := (.object "com/example/vedette/vedette/definition/ControlValueDefinition")) (by decide) (by decide)))
  have f58 := f48.other W54 (Or.inr (slot_ne (Or.inr (oW hw 45 rfl)) (Or.inr (oW hw 51 rfl)) (by decide) (t := (.object "java/lang/String")) (t' := (.object "com/example/vedette/vedette/definition/ControlValueDefinition")) (by decide) (by decide)))
  have f59 := f49.other W54 (Or.inr (slot_ne (Or.inr (oW hw 47 rfl)) (Or.inr (oW hw 51 rfl)) (by decide) (t := .boolean) (t' := (.object "com/example/vedette/vedette/definition/ControlValueDefinition")) (by decide) (by decide)))
  have f60 := f45.other W54 (Or.inr (slot_ne (Or.inr (oW hw 49 rfl)) (Or.inr (oW hw 51 rfl)) (by decide) (t := .boolean) (t' := (.object "com/example/vedette/vedette/definition/ControlValueDefinition")) (by decide) (by decide)))
  have OL61 := OL51.wr W54 ge1
  have K62 : Keep h0 h54 [a1] := K52.wr W54 (Or.inl (List.mem_of_getElem? (i := 0) rfl))
  have pre63 : oL p e below T54 (mkF m 31 #[oR a1, oI pc, oR an, oI pr, oI pm, oV cv] []) s₁ (entryFrame m #[(.ref a1), (.int pc), (.ref an), (.int pr), (.int pm), cv] 6) := fun t k => pre53 t (by
    refine st54 _ ?_
    exact k)
  obtain ⟨fs, hr, hrun, hended, hW, hsame⟩ := X54.leave (v := none) (fun _ => rfl)
  refine ⟨_, _, pre63 _ ?_, hrun, hended, _, _, rfl, ?_, ⟨_, rfl⟩, hW, hsame.mono (by decide) (by decide)⟩
  ·
    show oS p e below T54 (mkF m 31 #[oR a1, oI pc, oR an, oI pr, oI pm, oV cv] []) _
    exact X54.returnOut hx Bd.returns (hb hby d7_31) hr
  ·
    show Q_rm_sd Z a1 pc an pr pm cv h0 n0 _ T54.heap _
    rw [e54]
    exact ⟨rfl, N54, K62, f56, f57, f58, f59, f60, f55⟩
theorem d9_0 : decode prog_9_method_4_code 0 = .ok (.new 8, 3) := by decide +kernel
theorem d9_3 : decode prog_9_method_4_code 3 = .ok (.dup, 1) := by decide +kernel
theorem d9_4 : decode prog_9_method_4_code 4 = .ok (.aload_n 0, 1) := by decide +kernel
theorem d9_5 : decode prog_9_method_4_code 5 = .ok (.getfield 7, 3) := by decide +kernel
theorem d9_8 : decode prog_9_method_4_code 8 = .ok (.aload_n 0, 1) := by decide +kernel
theorem d9_9 : decode prog_9_method_4_code 9 = .ok (.getfield 13, 3) := by decide +kernel
theorem d9_12 : decode prog_9_method_4_code 12 = .ok (.aload_n 0, 1) := by decide +kernel
theorem d9_13 : decode prog_9_method_4_code 13 = .ok (.getfield 17, 3) := by decide +kernel
theorem d9_16 : decode prog_9_method_4_code 16 = .ok (.iconst 1, 1) := by decide +kernel
theorem d9_17 : decode prog_9_method_4_code 17 = .ok (.aload_n 0, 1) := by decide +kernel
theorem d9_18 : decode prog_9_method_4_code 18 = .ok (.getfield 24, 3) := by decide +kernel
theorem d9_21 : decode prog_9_method_4_code 21 = .ok (.invokespecial 28, 3) := by decide +kernel
theorem pd__CLjava_lang_String_ZZLcom_example_vedette_vedette_definition_ControlValueDefinition__V : parseMethodDescriptor "(CLjava/lang/String;ZZLcom/example/vedette/vedette/definition/ControlValueDefinition;)V" = some ⟨[.char, (.object "java/lang/String"), .boolean, .boolean, (.object "com/example/vedette/vedette/definition/ControlValueDefinition")], none⟩ := by decide +kernel
theorem d9_24 : decode prog_9_method_4_code 24 = .ok (.areturn, 1) := by decide +kernel
def Q_rm_asm (Z : State) (a1 : Addr) (pc : Int32) (an : Addr) (pr : Int32) (pm : Int32) (cv : Value) (h0 : Heap) (n0 : Nat) (v : Option Value) (h : Heap) (L : List Loc) : Prop := ∃ r : Addr, v = some (.ref r) ∧ Fr n0 L ∧ Keep h0 h [] ∧ h0.size ≤ r ∧ Exa Z h r "com/example/vedette/vedette/definition/SubfieldDefinition" ∧ Fld Z h r "com/example/vedette/vedette/definition/SubfieldDefinition" "code" "C" (.int pc) ∧ Fld Z h r "com/example/vedette/vedette/definition/SubfieldDefinition" "name" "Ljava/lang/String;" (.ref an) ∧ Fld Z h r "com/example/vedette/vedette/definition/SubfieldDefinition" "repeatable" "Z" (.int pr) ∧ Fld Z h r "com/example/vedette/vedette/definition/SubfieldDefinition" "mandatory" "Z" (.int (1 : Int32)) ∧ Fld Z h r "com/example/vedette/vedette/definition/SubfieldDefinition" "controlValue" "Lcom/example/vedette/vedette/definition/ControlValueDefinition;" cv
set_option maxRecDepth 65536 in
set_option maxHeartbeats 40000000 in
theorem rm_asm (l : Launch) (Z : State) (a0 : Array Value) (hw : ∀ d ∈ tables_1, d.before a0 Z = true) (ws : List Jvm.Cond) (a1 : Addr) (pc : Int32) (an : Addr) (pr : Int32) (pm : Int32) (cv : Value) (h0 : Heap) (n0 : Nat) (OL : Old Z n0 h0) (E1 : Exa Z h0 a1 "com/example/vedette/vedette/definition/SubfieldDefinition") (F_code : Fld Z h0 a1 "com/example/vedette/vedette/definition/SubfieldDefinition" "code" "C" (.int pc)) (F_name : Fld Z h0 a1 "com/example/vedette/vedette/definition/SubfieldDefinition" "name" "Ljava/lang/String;" (.ref an)) (F_repeatable : Fld Z h0 a1 "com/example/vedette/vedette/definition/SubfieldDefinition" "repeatable" "Z" (.int pr)) (F_mandatory : Fld Z h0 a1 "com/example/vedette/vedette/definition/SubfieldDefinition" "mandatory" "Z" (.int pm)) (F_controlValue : Fld Z h0 a1 "com/example/vedette/vedette/definition/SubfieldDefinition" "controlValue" "Lcom/example/vedette/vedette/definition/ControlValueDefinition;" cv) (nc : nar .char pc = pc) (nr : nar .boolean pr = pr) (hcv : cv.isRef = true) :
    MetFree l (⟨"com/example/vedette/vedette/definition/SubfieldDefinition", "asMandatory", "()Lcom/example/vedette/vedette/definition/SubfieldDefinition;"⟩ : MethodName) (head1 (Jvm.Cond.code (⟨"com/example/vedette/vedette/definition/SubfieldDefinition", "asMandatory", "()Lcom/example/vedette/vedette/definition/SubfieldDefinition;"⟩ : MethodName) prog_9_method_4_code 1 (some (.object "com/example/vedette/vedette/definition/SubfieldDefinition")) :: ws) ({ frames := 3, cells := 1, slots := 5, locals := 42 } : Room)) (fun a U => a = #[(.ref a1)] ∧ Z.Warmed39 U.vm ∧ U.heap = h0) (fun _ _ _ _ _ => True) (fun _ U o U' => ∃ v L, o = .returned v ∧ Q_rm_asm Z a1 pc an pr pm cv h0 n0 v U'.heap L ∧ FrameEnd U o U' L ({ frames := 3, cells := 1, slots := 5, locals := 42 } : Room).cells ({ frames := 3, cells := 1, slots := 5, locals := 42 } : Room).slots) := by
  refine MetFree.of_bodySF (plainFor_of_name pn_com_example_vedette_vedette_definition_SubfieldDefinition) hisR ?_
  intro p e s m args below meth c s₁ Bd hml0 hP hK
  obtain ⟨rfl, hZ, hh⟩ := hP
  have hx := Bd.exec
  have hby := Bd.bytes
  have hml : c.maxLocals = 1 := hml0
  have hown : s.vm.findClass "com/example/vedette/vedette/definition/SubfieldDefinition" = some m.cls := findClass_of_methodNamed Bd.named
  have hnm := (name_of_methodNamed Bd.named Bd.method).1
  have X0 : Stand p l e ({ frames := 3, cells := 1, slots := 5, locals := 42 } : Room) s m #[(.ref a1)] below meth c s₁ [] 0 0 := Stand.of_body Bd
  have e0 : s₁.heap = h0 := by rw [← hh, Bd.state]; rfl
  have N0 := Fr.nil n0
  have pre0 : oL p e below s₁ (mkF m 0 #[oR a1] []) s₁ (entryFrame m #[(.ref a1)] 1) := fun t k => castTop (by first | (simp [entryFrame, mkF, argsToLocals, Value.category]; done) | rfl) k
  obtain ⟨T11, h11, X11, e11, E11, A11, D11, -, st11⟩ := newO X0 hx hZ hown (oW hw 57 rfl) (oW hw 31 rfl) (oW hw 32 rfl) e0 (g := (mkF m 0 #[oR a1] [])) rfl (hb hby d9_0) (by decide) (by decide)
  obtain ⟨b11, g11⟩ : ∃ z, z = h0.size := ⟨_, rfl⟩
  rw [← g11] at A11 D11 st11
  have ne12 : a1 ≠ b11 := Nat.ne_of_lt (Nat.lt_of_lt_of_le E1.lt (Nat.le_of_eq g11.symm))
  have ge_b11 : n0 ≤ b11 := Nat.le_trans (OL.1 ▸ OL.2.1) (Nat.le_of_eq g11.symm)
  have sz_b11 : h0.size ≤ b11 := Nat.le_trans (Keep.refl h0 []).1 (Nat.le_of_eq g11.symm)
  have f13 := E1.ext E11
  have f14 := F_code.ext E11
  have f15 := F_name.ext E11
  have f16 := F_repeatable.ext E11
  have f17 := F_mandatory.ext E11
  have f18 := F_controlValue.ext E11
  have OL19 := OL.ext E11
  have K20 : Keep h0 h11 [] := (Keep.refl h0 []).ext E11
  have f21 : Fld Z h11 b11 "com/example/vedette/vedette/definition/SubfieldDefinition" "code" "C" (.int (0 : Int32)) := D11 (Or.inr (oW hw 43 rfl)) (ty := .char) (by decide)
  have f22 : Fld Z h11 b11 "com/example/vedette/vedette/definition/SubfieldDefinition" "name" "Ljava/lang/String;" .null := D11 (Or.inr (oW hw 45 rfl)) (ty := (.object "java/lang/String")) (by decide)
  have f23 : Fld Z h11 b11 "com/example/vedette/vedette/definition/SubfieldDefinition" "repeatable" "Z" (.int (0 : Int32)) := D11 (Or.inr (oW hw 47 rfl)) (ty := .boolean) (by decide)
  have f24 : Fld Z h11 b11 "com/example/vedette/vedette/definition/SubfieldDefinition" "mandatory" "Z" (.int (0 : Int32)) := D11 (Or.inr (oW hw 49 rfl)) (ty := .boolean) (by decide)
  have f25 : Fld Z h11 b11 "com/example/vedette/vedette/definition/SubfieldDefinition" "controlValue" "Lcom/example/vedette/vedette/definition/ControlValueDefinition;" .null := D11 (Or.inr (oW hw 51 rfl)) (ty := (.object "com/example/vedette/vedette/definition/ControlValueDefinition")) (by decide)
  have pre26 : oL p e below T11 (mkF m 5 #[oR a1] [ow a1, ow b11, ow b11]) s₁ (entryFrame m #[(.ref a1)] 1) := fun t k => pre0 t (by
    refine st11 _ ?_
    refine XS.dup X11.here hx rfl (hb hby d9_3) rfl rfl ?_
    refine XS.aloadN X11.here hx rfl (hb hby d9_4) rfl rfl ?_
    exact k)
  obtain ⟨T27, X27, e27, st27⟩ := getF X11 hx hZ hown (host := "") (Or.inl (oW hw 42 rfl)) Via.refl e11 f14 (g := (mkF m 5 #[oR a1] [ow a1, ow b11, ow b11])) rfl rfl (hb hby d9_5)
  have pre28 : oL p e below T27 (mkF m 9 #[oR a1] [ow a1, oi pc, ow b11, ow b11]) s₁ (entryFrame m #[(.ref a1)] 1) := fun t k => pre26 t (by
    refine st27 _ ?_
    show oS p e below T27 (mkF m 8 #[oR a1] [oi pc, ow b11, ow b11]) _
    refine XS.aloadN X27.here hx rfl (hb hby d9_8) rfl rfl ?_
    exact k)
  obtain ⟨T29, X29, e29, st29⟩ := getF X27 hx hZ hown (host := "") (Or.inl (oW hw 44 rfl)) Via.refl e27 f15 (g := (mkF m 9 #[oR a1] [ow a1, oi pc, ow b11, ow b11])) rfl rfl (hb hby d9_9)
  have pre30 : oL p e below T29 (mkF m 13 #[oR a1] [ow a1, ow an, oi pc, ow b11, ow b11]) s₁ (entryFrame m #[(.ref a1)] 1) := fun t k => pre28 t (by
    refine st29 _ ?_
    refine XS.aloadN X29.here hx rfl (hb hby d9_12) rfl rfl ?_
    exact k)
  obtain ⟨T31, X31, e31, st31⟩ := getF X29 hx hZ hown (host := "") (Or.inl (oW hw 46 rfl)) Via.refl e29 f16 (g := (mkF m 13 #[oR a1] [ow a1, ow an, oi pc, ow b11, ow b11])) rfl rfl (hb hby d9_13)
  have pre32 : oL p e below T31 (mkF m 18 #[oR a1] [ow a1, oi 1, oi pr, ow an, oi pc, ow b11, ow b11]) s₁ (entryFrame m #[(.ref a1)] 1) := fun t k => pre30 t (by
    refine st31 _ ?_
    show oS p e below T31 (mkF m 16 #[oR a1] [oi pr, ow an, oi pc, ow b11, ow b11]) _
    refine XS.iconst X31.here hx rfl (hb hby d9_16) ?_
    refine XS.aloadN X31.here hx rfl (hb hby d9_17) rfl rfl ?_
    exact k)
  obtain ⟨T33, X33, e33, st33⟩ := getF X31 hx hZ hown (host := "") (Or.inl (oW hw 50 rfl)) Via.refl e31 f18 (g := (mkF m 18 #[oR a1] [ow a1, oi 1, oi pr, ow an, oi pc, ow b11, ow b11])) rfl rfl (hb hby d9_18)
  have pre34 : oL p e below T33 (mkF m 21 #[oR a1] [cv, oi 1, oi pr, ow an, oi pc, ow b11, ow b11]) s₁ (entryFrame m #[(.ref a1)] 1) := fun t k => pre32 t (by
    refine st33 _ ?_
    exact k)
  obtain ⟨_, _, ⟨T35, L35, k35, n35⟩, -, X35, ⟨Lc35, hQ35, l35, y35, z35⟩, st35⟩ := X33.specialBack hx (y := (⟨"com/example/vedette/vedette/definition/SubfieldDefinition", "<init>", "(CLjava/lang/String;ZZLcom/example/vedette/vedette/definition/ControlValueDefinition;)V"⟩ : MethodName)) rfl hown (mvT hZ (oW hw 58 rfl)) (mvT hZ (oW hw 34 rfl)) (mvT hZ (oW hw 35 rfl)) (by decide) (backOf (W := 1) (rm_sd l Z a0 hw [] b11 pc an pr (1 : Int32) cv h11 n0 OL19 ge_b11 A11 f21 f22 f23 f24 f25 nc nr (by decide) hcv) hZ (oW hw 35 rfl) (oW hw 32 rfl) (by decide) (by decide)) (g := (mkF m 21 #[oR a1] [cv, oi 1, oi pr, ow an, oi pc, ow b11, ow b11])) rfl (by rw [hml]; rfl) (Steps.refl _) (a := b11) (argsL := [(.int pc), (.ref an), (.int pr), (.int (1 : Int32)), cv]) (rest := [(.ref b11)]) (lenOf pd__CLjava_lang_String_ZZLcom_example_vedette_vedette_definition_ControlValueDefinition__V rfl) rfl (by show 2 * 0 + _ ≤ _; exact Nat.le_of_eq rfl) (hb hby d9_21) (fun _ _ => ⟨rfl, e33, (by decide : 1 + 0 ≤ _), (by decide : 5 + 0 ≤ _)⟩)
  dsimp only [Pt.U, Pt.locs, Pt.cells, Pt.slots] at X35 l35 y35 z35 st35 hQ35
  subst l35 y35 z35
  obtain ⟨rfl, N35q, Kq35, Eq35, F0_35, F1_35, F2_35, F3_35, F4_35⟩ := hQ35
  have N35 := Fr.app N0 N35q
  have f36 := f13.keep Kq35
  have f37 := f14.keep Kq35 (ninS ne12 nin0)
  have f38 := f15.keep Kq35 (ninS ne12 nin0)
  have f39 := f16.keep Kq35 (ninS ne12 nin0)
  have f40 := f17.keep Kq35 (ninS ne12 nin0)
  have f41 := f18.keep Kq35 (ninS ne12 nin0)
  have f42 := A11.keep Kq35
  have OL43 := OL19.keep Kq35 (allS ge_b11 all0)
  have K44 : Keep h0 T35.heap [] := K20.trans Kq35 (allS (Or.inr sz_b11) all0)
  have pre45 : oL p e below T35 (mkF m 24 #[oR a1] [ow b11]) s₁ (entryFrame m #[(.ref a1)] 1) := fun t k => pre34 t (by
    refine st35.trans ?_
    show oS p e below T35 (mkF m 24 #[oR a1] [ow b11]) _
    exact k)
  obtain ⟨fs, hr, hrun, hended, hW, hsame⟩ := X35.leave (v := some (.ref b11)) (fun h => by rw [Bd.returns] at h; cases h)
  refine ⟨_, _, pre45 _ ?_, hrun, hended, _, _, rfl, ?_, ⟨_, rfl⟩, hW, hsame.mono (by decide) (by decide)⟩
  ·
    show oS p e below T35 (mkF m 24 #[oR a1] [ow b11]) _
    jvm_step X35.here [X35.here.top, hx, (hb hby d9_24), X35.method', Bd.returns, Value.isRef, FieldType.isReference]
    first | (intro acts; rw [hr _ acts rfl rfl rfl]) | rw [hr _ _ rfl rfl rfl]
    exact Steps.refl _
  ·
    show Q_rm_asm Z a1 pc an pr pm cv h0 n0 _ T35.heap _
    exact ⟨b11, rfl, N35, K44, sz_b11, Eq35, F0_35, F1_35, F2_35, F3_35, F4_35⟩
theorem pn_java_lang_String : plainName "java/lang/String" = true := by first | (simp [plainName, overriddenIn]; done) | decide +kernel
theorem d12_0 : decode jdk_42_method_66_code 0 = .ok (.aload_n 0, 1) := by decide +kernel
theorem d12_1 : decode jdk_42_method_66_code 1 = .ok (.aload_n 1, 1) := by decide +kernel
theorem d12_2 : decode jdk_42_method_66_code 2 = .ok (.if_acmp .ne 5, 3) := by decide +kernel
theorem d12_5 : decode jdk_42_method_66_code 5 = .ok (.iconst 1, 1) := by decide +kernel
theorem d12_6 : decode jdk_42_method_66_code 6 = .ok (.ireturn, 1) := by decide +kernel
def Q_rm_eqs (Z : State) (a1 : Addr) (h0 : Heap) (n0 : Nat) (v : Option Value) (h : Heap) (L : List Loc) : Prop := v = some (.int (1 : Int32)) ∧ Fr n0 L ∧ h = h0
set_option maxRecDepth 65536 in
set_option maxHeartbeats 40000000 in
theorem rm_eqs (l : Launch) (Z : State) (a0 : Array Value) (hw : ∀ d ∈ tables_1, d.before a0 Z = true) (ws : List Jvm.Cond) (a1 : Addr) (h0 : Heap) (n0 : Nat) (OL : Old Z n0 h0) :
    MetFree l (⟨"java/lang/String", "equals", "(Ljava/lang/Object;)Z"⟩ : MethodName) (head1 (Jvm.Cond.code (⟨"java/lang/String", "equals", "(Ljava/lang/Object;)Z"⟩ : MethodName) jdk_42_method_66_code 3 (some .boolean) :: ws) ({ frames := 0, cells := 0, slots := 0, locals := 0 } : Room)) (fun a U => a = #[(.ref a1), (.ref a1)] ∧ Z.Warmed39 U.vm ∧ U.heap = h0) (fun _ _ _ _ _ => True) (fun _ U o U' => ∃ v L, o = .returned v ∧ Q_rm_eqs Z a1 h0 n0 v U'.heap L ∧ FrameEnd U o U' L ({ frames := 0, cells := 0, slots := 0, locals := 0 } : Room).cells ({ frames := 0, cells := 0, slots := 0, locals := 0 } : Room).slots) := by
  refine MetFree.of_bodySF (plainFor_of_name pn_java_lang_String) hisR ?_
  intro p e s m args below meth c s₁ Bd hml0 hP hK
  obtain ⟨rfl, hZ, hh⟩ := hP
  have hx := Bd.exec
  have hby := Bd.bytes
  have hml : c.maxLocals = 3 := hml0
  have hown : s.vm.findClass "java/lang/String" = some m.cls := findClass_of_methodNamed Bd.named
  have hnm := (name_of_methodNamed Bd.named Bd.method).1
  have X0 : Stand p l e ({ frames := 0, cells := 0, slots := 0, locals := 0 } : Room) s m #[(.ref a1), (.ref a1)] below meth c s₁ [] 0 0 := Stand.of_body Bd
  have e0 : s₁.heap = h0 := by rw [← hh, Bd.state]; rfl
  have N0 := Fr.nil n0
  have pre0 : oL p e below s₁ (mkF m 0 #[oR a1, oR a1, oU] []) s₁ (entryFrame m #[(.ref a1), (.ref a1)] 3) := fun t k => castTop (by first | (simp [entryFrame, mkF, argsToLocals, Value.category]; done) | rfl) k
  have pre11 : oL p e below s₁ (mkF m 6 #[oR a1, oR a1, oU] [oi 1]) s₁ (entryFrame m #[(.ref a1), (.ref a1)] 3) := fun t k => pre0 t (by
    refine XS.aloadN X0.here hx rfl (hb hby d12_0) rfl rfl ?_
    refine XS.aloadN X0.here hx rfl (hb hby d12_1) rfl rfl ?_
    refine Jvm.RoadKit.acmp (g := (mkF m 2 #[oR a1, oR a1, oU] [ow a1, ow a1])) X0 hx rfl rfl rfl (pc0 := 2) (pc' := 5) (same := true) rfl (hb hby d12_2) rfl (decide_eq_true rfl) (by decide) (by decide) ?_
    refine XS.iconst X0.here hx rfl (hb hby d12_5) ?_
    show oS p e below s₁ (mkF m 6 #[oR a1, oR a1, oU] [oi 1]) _
    exact k)
  obtain ⟨fs, hr, hrun, hended, hW, hsame⟩ := X0.leave (v := some (.int (1 : Int32))) (fun h => by rw [Bd.returns] at h; cases h)
  refine ⟨_, _, pre11 _ ?_, hrun, hended, _, _, rfl, ?_, ⟨_, rfl⟩, hW, hsame.mono (by decide) (by decide)⟩
  ·
    show oS p e below s₁ (mkF m 6 #[oR a1, oR a1, oU] [oi 1]) _
    exact retN X0 hx (t := .boolean) Bd.returns (by simp) (hb hby d12_6) hr
  ·
    show Q_rm_eqs Z a1 h0 n0 _ s₁.heap _
    rw [e0]
    exact ⟨rfl, N0, rfl⟩
theorem d10_0 : decode prog_9_method_8_code 0 = .ok (.aload_n 0, 1) := by decide +kernel
theorem d10_1 : decode prog_9_method_8_code 1 = .ok (.getfield 7, 3) := by decide +kernel
theorem d10_4 : decode prog_9_method_8_code 4 = .ok (.ireturn, 1) := by decide +kernel
def Q_rm_g_code (Z : State) (a1 : Addr) (w1 : Int32) (h0 : Heap) (n0 : Nat) (v : Option Value) (h : Heap) (L : List Loc) : Prop := v = some (.int w1) ∧ Fr n0 L ∧ h = h0
set_option maxRecDepth 65536 in
set_option maxHeartbeats 40000000 in
theorem rm_g_code (l : Launch) (Z : State) (a0 : Array Value) (hw : ∀ d ∈ tables_1, d.before a0 Z = true) (ws : List Jvm.Cond) (a1 : Addr) (w1 : Int32) (h0 : Heap) (n0 : Nat) (OL : Old Z n0 h0) (F1 : Fld Z h0 a1 "com/example/vedette/vedette/definition/SubfieldDefinition" "code" "C" (.int w1)) (nw : nar .char w1 = w1) :
    MetFree l (⟨"com/example/vedette/vedette/definition/SubfieldDefinition", "code", "()C"⟩ : MethodName) (head1 (Jvm.Cond.code (⟨"com/example/vedette/vedette/definition/SubfieldDefinition", "code", "()C"⟩ : MethodName) prog_9_method_8_code 1 (some .char) :: ws) ({ frames := 0, cells := 0, slots := 0, locals := 0 } : Room)) (fun a U => a = #[(.ref a1)] ∧ Z.Warmed39 U.vm ∧ U.heap = h0) (fun _ _ _ _ _ => True) (fun _ U o U' => ∃ v L, o = .returned v ∧ Q_rm_g_code Z a1 w1 h0 n0 v U'.heap L ∧ FrameEnd U o U' L ({ frames := 0, cells := 0, slots := 0, locals := 0 } : Room).cells ({ frames := 0, cells := 0, slots := 0, locals := 0 } : Room).slots) := by
  refine MetFree.of_bodySF (plainFor_of_name pn_com_example_vedette_vedette_definition_SubfieldDefinition) hisR ?_
  intro p e s m args below meth c s₁ Bd hml0 hP hK
  obtain ⟨rfl, hZ, hh⟩ := hP
  have hx := Bd.exec
  have hby := Bd.bytes
  have hml : c.maxLocals = 1 := hml0
  have hown : s.vm.findClass "com/example/vedette/vedette/definition/SubfieldDefinition" = some m.cls := findClass_of_methodNamed Bd.named
  have hnm := (name_of_methodNamed Bd.named Bd.method).1
  have X0 : Stand p l e ({ frames := 0, cells := 0, slots := 0, locals := 0 } : Room) s m #[(.ref a1)] below meth c s₁ [] 0 0 := Stand.of_body Bd
  have e0 : s₁.heap = h0 := by rw [← hh, Bd.state]; rfl
  have N0 := Fr.nil n0
  have pre0 : oL p e below s₁ (mkF m 0 #[oR a1] []) s₁ (entryFrame m #[(.ref a1)] 1) := fun t k => castTop (by first | (simp [entryFrame, mkF, argsToLocals, Value.category]; done) | rfl) k
  have pre11 : oL p e below s₁ (mkF m 1 #[oR a1] [ow a1]) s₁ (entryFrame m #[(.ref a1)] 1) := fun t k => pre0 t (by
    refine XS.aloadN X0.here hx rfl (hb hby d10_0) rfl rfl ?_
    exact k)
  obtain ⟨T12, X12, e12, st12⟩ := getF X0 hx hZ hown (host := "") (Or.inl (oW hw 42 rfl)) Via.refl e0 F1 (g := (mkF m 1 #[oR a1] [ow a1])) rfl rfl (hb hby d10_1)
  have pre13 : oL p e below T12 (mkF m 4 #[oR a1] [oi w1]) s₁ (entryFrame m #[(.ref a1)] 1) := fun t k => pre11 t (by
    refine st12 _ ?_
    exact k)
  obtain ⟨fs, hr, hrun, hended, hW, hsame⟩ := X12.leave (v := some (.int (nar .char w1))) (fun h => by rw [Bd.returns] at h; cases h)
  refine ⟨_, _, pre13 _ ?_, hrun, hended, _, _, rfl, ?_, ⟨_, rfl⟩, hW, hsame.mono (by decide) (by decide)⟩
  ·
    show oS p e below T12 (mkF m 4 #[oR a1] [oi w1]) _
    exact retN X12 hx (t := .char) Bd.returns (by simp) (hb hby d10_4) hr
  ·
    show Q_rm_g_code Z a1 w1 h0 n0 _ T12.heap _
    rw [e12]
    exact ⟨by rw [nw], N0, rfl⟩
theorem d11_0 : decode prog_9_method_9_code 0 = .ok (.aload_n 0, 1) := by decide +kernel
theorem d11_1 : decode prog_9_method_9_code 1 = .ok (.getfield 13, 3) := by decide +kernel
theorem d11_4 : decode prog_9_method_9_code 4 = .ok (.areturn, 1) := by decide +kernel
def Q_rm_g_name (Z : State) (a1 : Addr) (w1 : Value) (h0 : Heap) (n0 : Nat) (v : Option Value) (h : Heap) (L : List Loc) : Prop := v = some w1 ∧ Fr n0 L ∧ h = h0
set_option maxRecDepth 65536 in
set_option maxHeartbeats 40000000 in
theorem rm_g_name (l : Launch) (Z : State) (a0 : Array Value) (hw : ∀ d ∈ tables_1, d.before a0 Z = true) (ws : List Jvm.Cond) (a1 : Addr) (w1 : Value) (h0 : Heap) (n0 : Nat) (OL : Old Z n0 h0) (F1 : Fld Z h0 a1 "com/example/vedette/vedette/definition/SubfieldDefinition" "name" "Ljava/lang/String;" w1) (hr1 : w1.isRef = true) :
    MetFree l (⟨"com/example/vedette/vedette/definition/SubfieldDefinition", "name", "()Ljava/lang/String;"⟩ : MethodName) (head1 (Jvm.Cond.code (⟨"com/example/vedette/vedette/definition/SubfieldDefinition", "name", "()Ljava/lang/String;"⟩ : MethodName) prog_9_method_9_code 1 (some (.object "java/lang/String")) :: ws) ({ frames := 0, cells := 0, slots := 0, locals := 0 } : Room)) (fun a U => a = #[(.ref a1)] ∧ Z.Warmed39 U.vm ∧ U.heap = h0) (fun _ _ _ _ _ => True) (fun _ U o U' => ∃ v L, o = .returned v ∧ Q_rm_g_name Z a1 w1 h0 n0 v U'.heap L ∧ FrameEnd U o U' L ({ frames := 0, cells := 0, slots := 0, locals := 0 } : Room).cells ({ frames := 0, cells := 0, slots := 0, locals := 0 } : Room).slots) := by
  refine MetFree.of_bodySF (plainFor_of_name pn_com_example_vedette_vedette_definition_SubfieldDefinition) hisR ?_
  intro p e s m args below meth c s₁ Bd hml0 hP hK
  obtain ⟨rfl, hZ, hh⟩ := hP
  have hx := Bd.exec
  have hby := Bd.bytes
  have hml : c.maxLocals = 1 := hml0
  have hown : s.vm.findClass "com/example/vedette/vedette/definition/SubfieldDefinition" = some m.cls := findClass_of_methodNamed Bd.named
  have hnm := (name_of_methodNamed Bd.named Bd.method).1
  have X0 : Stand p l e ({ frames := 0, cells := 0, slots := 0, locals := 0 } : Room) s m #[(.ref a1)] below meth c s₁ [] 0 0 := Stand.of_body Bd
  have e0 : s₁.heap = h0 := by rw [← hh, Bd.state]; rfl
  have N0 := Fr.nil n0
  have pre0 : oL p e below s₁ (mkF m 0 #[oR a1] []) s₁ (entryFrame m #[(.ref a1)] 1) := fun t k => castTop (by first | (simp [entryFrame, mkF, argsToLocals, Value.category]; done) | rfl) k
  have pre11 : oL p e below s₁ (mkF m 1 #[oR a1] [ow a1]) s₁ (entryFrame m #[(.ref a1)] 1) := fun t k => pre0 t (by
    refine XS.aloadN X0.here hx rfl (hb hby d11_0) rfl rfl ?_
    exact k)
  obtain ⟨T12, X12, e12, st12⟩ := getF X0 hx hZ hown (host := "") (Or.inl (oW hw 44 rfl)) Via.refl e0 F1 (g := (mkF m 1 #[oR a1] [ow a1])) rfl rfl (hb hby d11_1)
  have pre13 : oL p e below T12 (mkF m 4 #[oR a1] [w1]) s₁ (entryFrame m #[(.ref a1)] 1) := fun t k => pre11 t (by
    refine st12 _ ?_
    exact k)
  obtain ⟨fs, hr, hrun, hended, hW, hsame⟩ := X12.leave (v := some w1) (fun h => by rw [Bd.returns] at h; cases h)
  refine ⟨_, _, pre13 _ ?_, hrun, hended, _, _, rfl, ?_, ⟨_, rfl⟩, hW, hsame.mono (by decide) (by decide)⟩
  ·
    show oS p e below T12 (mkF m 4 #[oR a1] [w1]) _
    exact retOut X12 hx Bd.returns rfl (Or.inr (Or.inr (Or.inr (Or.inr ⟨rfl, rfl, hr1⟩)))) (hb hby d11_4) hr
  ·
    show Q_rm_g_name Z a1 w1 h0 n0 _ T12.heap _
    rw [e12]
    exact ⟨rfl, N0, rfl⟩
theorem d13_0 : decode prog_9_method_10_code 0 = .ok (.aload_n 0, 1) := by decide +kernel
theorem d13_1 : decode prog_9_method_10_code 1 = .ok (.getfield 17, 3) := by decide +kernel
theorem d13_4 : decode prog_9_method_10_code 4 = .ok (.ireturn, 1) := by decide +kernel
def Q_rm_g_repeatable (Z : State) (a1 : Addr) (w1 : Int32) (h0 : Heap) (n0 : Nat) (v : Option Value) (h : Heap) (L : List Loc) : Prop := v = some (.int w1) ∧ Fr n0 L ∧ h = h0
set_option maxRecDepth 65536 in
set_option maxHeartbeats 40000000 in
theorem rm_g_repeatable (l : Launch) (Z : State) (a0 : Array Value) (hw : ∀ d ∈ tables_1, d.before a0 Z = true) (ws : List Jvm.Cond) (a1 : Addr) (w1 : Int32) (h0 : Heap) (n0 : Nat) (OL : Old Z n0 h0) (F1 : Fld Z h0 a1 "com/example/vedette/vedette/definition/SubfieldDefinition" "repeatable" "Z" (.int w1)) (nw : nar .boolean w1 = w1) :
    MetFree l (⟨"com/example/vedette/vedette/definition/SubfieldDefinition", "repeatable", "()Z"⟩ : MethodName) (head1 (Jvm.Cond.code (⟨"com/example/vedette/vedette/definition/SubfieldDefinition", "repeatable", "()Z"⟩ : MethodName) prog_9_method_10_code 1 (some .boolean) :: ws) ({ frames := 0, cells := 0, slots := 0, locals := 0 } : Room)) (fun a U => a = #[(.ref a1)] ∧ Z.Warmed39 U.vm ∧ U.heap = h0) (fun _ _ _ _ _ => True) (fun _ U o U' => ∃ v L, o = .returned v ∧ Q_rm_g_repeatable Z a1 w1 h0 n0 v U'.heap L ∧ FrameEnd U o U' L ({ frames := 0, cells := 0, slots := 0, locals := 0 } : Room).cells ({ frames := 0, cells := 0, slots := 0, locals := 0 } : Room).slots) := by
  refine MetFree.of_bodySF (plainFor_of_name pn_com_example_vedette_vedette_definition_SubfieldDefinition) hisR ?_
  intro p e s m args below meth c s₁ Bd hml0 hP hK
  obtain ⟨rfl, hZ, hh⟩ := hP
  have hx := Bd.exec
  have hby := Bd.bytes
  have hml : c.maxLocals = 1 := hml0
  have hown : s.vm.findClass "com/example/vedette/vedette/definition/SubfieldDefinition" = some m.cls := findClass_of_methodNamed Bd.named
  have hnm := (name_of_methodNamed Bd.named Bd.method).1
  have X0 : Stand p l e ({ frames := 0, cells := 0, slots := 0, locals := 0 } : Room) s m #[(.ref a1)] below meth c s₁ [] 0 0 := Stand.of_body Bd
  have e0 : s₁.heap = h0 := by rw [← hh, Bd.state]; rfl
  have N0 := Fr.nil n0
  have pre0 : oL p e below s₁ (mkF m 0 #[oR a1] []) s₁ (entryFrame m #[(.ref a1)] 1) := fun t k => castTop (by first | (simp [entryFrame, mkF, argsToLocals, Value.category]; done) | rfl) k
  have pre11 : oL p e below s₁ (mkF m 1 #[oR a1] [ow a1]) s₁ (entryFrame m #[(.ref a1)] 1) := fun t k => pre0 t (by
    refine XS.aloadN X0.here hx rfl (hb hby d13_0) rfl rfl ?_
    exact k)
  obtain ⟨T12, X12, e12, st12⟩ := getF X0 hx hZ hown (host := "") (Or.inl (oW hw 46 rfl)) Via.refl e0 F1 (g := (mkF m 1 #[oR a1] [ow a1])) rfl rfl (hb hby d13_1)
  have pre13 : oL p e below T12 (mkF m 4 #[oR a1] [oi w1]) s₁ (entryFrame m #[(.ref a1)] 1) := fun t k => pre11 t (by
    refine st12 _ ?_
    exact k)
  obtain ⟨fs, hr, hrun, hended, hW, hsame⟩ := X12.leave (v := some (.int (nar .boolean w1))) (fun h => by rw [Bd.returns] at h; cases h)
  refine ⟨_, _, pre13 _ ?_, hrun, hended, _, _, rfl, ?_, ⟨_, rfl⟩, hW, hsame.mono (by decide) (by decide)⟩
  ·
    show oS p e below T12 (mkF m 4 #[oR a1] [oi w1]) _
    exact retN X12 hx (t := .boolean) Bd.returns (by simp) (hb hby d13_4) hr
  ·
    show Q_rm_g_repeatable Z a1 w1 h0 n0 _ T12.heap _
    rw [e12]
    exact ⟨by rw [nw], N0, rfl⟩
theorem d14_0 : decode prog_9_method_11_code 0 = .ok (.aload_n 0, 1) := by decide +kernel
theorem d14_1 : decode prog_9_method_11_code 1 = .ok (.getfield 21, 3) := by decide +kernel
theorem d14_4 : decode prog_9_method_11_code 4 = .ok (.ireturn, 1) := by decide +kernel
def Q_rm_g_mandatory (Z : State) (a1 : Addr) (w1 : Int32) (h0 : Heap) (n0 : Nat) (v : Option Value) (h : Heap) (L : List Loc) : Prop := v = some (.int w1) ∧ Fr n0 L ∧ h = h0
set_option maxRecDepth 65536 in
set_option maxHeartbeats 40000000 in
theorem rm_g_mandatory (l : Launch) (Z : State) (a0 : Array Value) (hw : ∀ d ∈ tables_1, d.before a0 Z = true) (ws : List Jvm.Cond) (a1 : Addr) (w1 : Int32) (h0 : Heap) (n0 : Nat) (OL : Old Z n0 h0) (F1 : Fld Z h0 a1 "com/example/vedette/vedette/definition/SubfieldDefinition" "mandatory" "Z" (.int w1)) (nw : nar .boolean w1 = w1) :
    MetFree l (⟨"com/example/vedette/vedette/definition/SubfieldDefinition", "mandatory", "()Z"⟩ : MethodName) (head1 (Jvm.Cond.code (⟨"com/example/vedette/vedette/definition/SubfieldDefinition", "mandatory", "()Z"⟩ : MethodName) prog_9_method_11_code 1 (some .boolean) :: ws) ({ frames := 0, cells := 0, slots := 0, locals := 0 } : Room)) (fun a U => a = #[(.ref a1)] ∧ Z.Warmed39 U.vm ∧ U.heap = h0) (fun _ _ _ _ _ => True) (fun _ U o U' => ∃ v L, o = .returned v ∧ Q_rm_g_mandatory Z a1 w1 h0 n0 v U'.heap L ∧ FrameEnd U o U' L ({ frames := 0, cells := 0, slots := 0, locals := 0 } : Room).cells ({ frames := 0, cells := 0, slots := 0, locals := 0 } : Room).slots) := by
  refine MetFree.of_bodySF (plainFor_of_name pn_com_example_vedette_vedette_definition_SubfieldDefinition) hisR ?_
  intro p e s m args below meth c s₁ Bd hml0 hP hK
  obtain ⟨rfl, hZ, hh⟩ := hP
  have hx := Bd.exec
  have hby := Bd.bytes
  have hml : c.maxLocals = 1 := hml0
  have hown : s.vm.findClass "com/example/vedette/vedette/definition/SubfieldDefinition" = some m.cls := findClass_of_methodNamed Bd.named
  have hnm := (name_of_methodNamed Bd.named Bd.method).1
  have X0 : Stand p l e ({ frames := 0, cells := 0, slots := 0, locals := 0 } : Room) s m #[(.ref a1)] below meth c s₁ [] 0 0 := Stand.of_body Bd
  have e0 : s₁.heap = h0 := by rw [← hh, Bd.state]; rfl
  have N0 := Fr.nil n0
  have pre0 : oL p e below s₁ (mkF m 0 #[oR a1] []) s₁ (entryFrame m #[(.ref a1)] 1) := fun t k => castTop (by first | (simp [entryFrame, mkF, argsToLocals, Value.category]; done) | rfl) k
  have pre11 : oL p e below s₁ (mkF m 1 #[oR a1] [ow a1]) s₁ (entryFrame m #[(.ref a1)] 1) := fun t k => pre0 t (by
    refine XS.aloadN X0.here hx rfl (hb hby d14_0) rfl rfl ?_
    exact k)
  obtain ⟨T12, X12, e12, st12⟩ := getF X0 hx hZ hown (host := "") (Or.inl (oW hw 48 rfl)) Via.refl e0 F1 (g := (mkF m 1 #[oR a1] [ow a1])) rfl rfl (hb hby d14_1)
  have pre13 : oL p e below T12 (mkF m 4 #[oR a1] [oi w1]) s₁ (entryFrame m #[(.ref a1)] 1) := fun t k => pre11 t (by
    refine st12 _ ?_
    exact k)
  obtain ⟨fs, hr, hrun, hended, hW, hsame⟩ := X12.leave (v := some (.int (nar .boolean w1))) (fun h => by rw [Bd.returns] at h; cases h)
  refine ⟨_, _, pre13 _ ?_, hrun, hended, _, _, rfl, ?_, ⟨_, rfl⟩, hW, hsame.mono (by decide) (by decide)⟩
  ·
    show oS p e below T12 (mkF m 4 #[oR a1] [oi w1]) _
    exact retN X12 hx (t := .boolean) Bd.returns (by simp) (hb hby d14_4) hr
  ·
    show Q_rm_g_mandatory Z a1 w1 h0 n0 _ T12.heap _
    rw [e12]
    exact ⟨by rw [nw], N0, rfl⟩
theorem d15_0 : decode prog_9_method_12_code 0 = .ok (.aload_n 0, 1) := by decide +kernel
theorem d15_1 : decode prog_9_method_12_code 1 = .ok (.getfield 24, 3) := by decide +kernel
theorem d15_4 : decode prog_9_method_12_code 4 = .ok (.areturn, 1) := by decide +kernel
def Q_rm_g_controlValue (Z : State) (a1 : Addr) (w1 : Value) (h0 : Heap) (n0 : Nat) (v : Option Value) (h : Heap) (L : List Loc) : Prop := v = some w1 ∧ Fr n0 L ∧ h = h0
set_option maxRecDepth 65536 in
set_option maxHeartbeats 40000000 in
theorem rm_g_controlValue (l : Launch) (Z : State) (a0 : Array Value) (hw : ∀ d ∈ tables_1, d.before a0 Z = true) (ws : List Jvm.Cond) (a1 : Addr) (w1 : Value) (h0 : Heap) (n0 : Nat) (OL : Old Z n0 h0) (F1 : Fld Z h0 a1 "com/example/vedette/vedette/definition/SubfieldDefinition" "controlValue" "Lcom/example/vedette/vedette/definition/ControlValueDefinition;" w1) (hr1 : w1.isRef = true) :
    MetFree l (⟨"com/example/vedette/vedette/definition/SubfieldDefinition", "controlValue", "()Lcom/example/vedette/vedette/definition/ControlValueDefinition;"⟩ : MethodName) (head1 (Jvm.Cond.code (⟨"com/example/vedette/vedette/definition/SubfieldDefinition", "controlValue", "()Lcom/example/vedette/vedette/definition/ControlValueDefinition;"⟩ : MethodName) prog_9_method_12_code 1 (some (.object "com/example/vedette/vedette/definition/ControlValueDefinition")) :: ws) ({ frames := 0, cells := 0, slots := 0, locals := 0 } : Room)) (fun a U => a = #[(.ref a1)] ∧ Z.Warmed39 U.vm ∧ U.heap = h0) (fun _ _ _ _ _ => True) (fun _ U o U' => ∃ v L, o = .returned v ∧ Q_rm_g_controlValue Z a1 w1 h0 n0 v U'.heap L ∧ FrameEnd U o U' L ({ frames := 0, cells := 0, slots := 0, locals := 0 } : Room).cells ({ frames := 0, cells := 0, slots := 0, locals := 0 } : Room).slots) := by
  refine MetFree.of_bodySF (plainFor_of_name pn_com_example_vedette_vedette_definition_SubfieldDefinition) hisR ?_
  intro p e s m args below meth c s₁ Bd hml0 hP hK
  obtain ⟨rfl, hZ, hh⟩ := hP
  have hx := Bd.exec
  have hby := Bd.bytes
  have hml : c.maxLocals = 1 := hml0
  have hown : s.vm.findClass "com/example/vedette/vedette/definition/SubfieldDefinition" = some m.cls := findClass_of_methodNamed Bd.named
  have hnm := (name_of_methodNamed Bd.named Bd.method).1
  have X0 : Stand p l e ({ frames := 0, cells := 0, slots := 0, locals := 0 } : Room) s m #[(.ref a1)] below meth c s₁ [] 0 0 := Stand.of_body Bd
  have e0 : s₁.heap = h0 := by rw [← hh, Bd.state]; rfl
  have N0 := Fr.nil n0
  have pre0 : oL p e below s₁ (mkF m 0 #[oR a1] []) s₁ (entryFrame m #[(.ref a1)] 1) := fun t k => castTop (by first | (simp [entryFrame, mkF, argsToLocals, Value.category]; done) | rfl) k
  have pre11 : oL p e below s₁ (mkF m 1 #[oR a1] [ow a1]) s₁ (entryFrame m #[(.ref a1)] 1) := fun t k => pre0 t (by
    refine XS.aloadN X0.here hx rfl (hb hby d15_0) rfl rfl ?_
    exact k)
  obtain ⟨T12, X12, e12, st12⟩ := getF X0 hx hZ hown (host := "") (Or.inl (oW hw 50 rfl)) Via.refl e0 F1 (g := (mkF m 1 #[oR a1] [ow a1])) rfl rfl (hb hby d15_1)
  have pre13 : oL p e below T12 (mkF m 4 #[oR a1] [w1]) s₁ (entryFrame m #[(.ref a1)] 1) := fun t k => pre11 t (by
    refine st12 _ ?_
    exact k)
  obtain ⟨fs, hr, hrun, hended, hW, hsame⟩ := X12.leave (v := some w1) (fun h => by rw [Bd.returns] at h; cases h)
  refine ⟨_, _, pre13 _ ?_, hrun, hended, _, _, rfl, ?_, ⟨_, rfl⟩, hW, hsame.mono (by decide) (by decide)⟩
  ·
    show oS p e below T12 (mkF m 4 #[oR a1] [w1]) _
    exact retOut X12 hx Bd.returns rfl (Or.inr (Or.inr (Or.inr (Or.inr ⟨rfl, rfl, hr1⟩)))) (hb hby d15_4) hr
  ·
    show Q_rm_g_controlValue Z a1 w1 h0 n0 _ T12.heap _
    rw [e12]
    exact ⟨rfl, N0, rfl⟩
theorem pn_com_example_vedette_vedette_definition_SubfieldDefinitionAsMandatoryPinLaw : plainName "com/example/vedette/vedette/definition/SubfieldDefinitionAsMandatoryPinLaw" = true := by first | (simp [plainName, overriddenIn]; done) | decide +kernel
theorem pd___C_V : parseMethodDescriptor "([C)V" = some ⟨[(.array .char)], none⟩ := by decide +kernel
theorem pd___Lcom_example_vedette_vedette_definition_SubfieldDefinition_ : parseMethodDescriptor "()Lcom/example/vedette/vedette/definition/SubfieldDefinition;" = some ⟨[], some (.object "com/example/vedette/vedette/definition/SubfieldDefinition")⟩ := by decide +kernel
theorem pd___C : parseMethodDescriptor "()C" = some ⟨[], some .char⟩ := by decide +kernel
theorem pd___Ljava_lang_String_ : parseMethodDescriptor "()Ljava/lang/String;" = some ⟨[], some (.object "java/lang/String")⟩ := by decide +kernel
theorem pd__Ljava_lang_Object__Z : parseMethodDescriptor "(Ljava/lang/Object;)Z" = some ⟨[(.object "java/lang/Object")], some .boolean⟩ := by decide +kernel
theorem pd___Z : parseMethodDescriptor "()Z" = some ⟨[], some .boolean⟩ := by decide +kernel
theorem pd___Lcom_example_vedette_vedette_definition_ControlValueDefinition_ : parseMethodDescriptor "()Lcom/example/vedette/vedette/definition/ControlValueDefinition;" = some ⟨[], some (.object "com/example/vedette/vedette/definition/ControlValueDefinition")⟩ := by decide +kernel
def Q_rm0 (Z : State) (p1 : Int32) (p2 : Int32) (p3 : Int32) (G1 : Int32) (h0 : Heap) (n0 : Nat) (v : Option Value) (h : Heap) (L : List Loc) : Prop := v = some (.int (1 : Int32)) ∧ Fr n0 L
set_option maxRecDepth 65536 in
set_option maxHeartbeats 40000000 in
theorem rm0 (l : Launch) (Z : State) (a0 : Array Value) (hw : ∀ d ∈ tables_1, d.before a0 Z = true) (ws : List Jvm.Cond) (p1 : Int32) (p2 : Int32) (p3 : Int32) (G1 : Int32) (h0 : Heap) (n0 : Nat) (OL : Old Z n0 h0) (O2 : Sta Z Z.heap "java/lang/String" "COMPACT_STRINGS" "Z" (.int G1)) (P5 : ¬ (G1 = (0 : Int32))) :
    MetFree l x (head1 (Jvm.Cond.code x code maxLocals ret :: ws) room_1) (fun a U => a = #[(.int p1), (.int p2), (.int p3)] ∧ Z.Warmed39 U.vm ∧ U.heap = h0) (fun _ _ _ _ _ => True) (fun _ U o U' => ∃ v L, o = .returned v ∧ Q_rm0 Z p1 p2 p3 G1 h0 n0 v U'.heap L ∧ FrameEnd U o U' L room_1.cells room_1.slots) := by
  refine MetFree.of_bodySF (plainFor_of_name pn_com_example_vedette_vedette_definition_SubfieldDefinitionAsMandatoryPinLaw) hisR ?_
  intro p e s m args below meth c s₁ Bd hml0 hP hK
  obtain ⟨rfl, hZ, hh⟩ := hP
  have hx := Bd.exec
  have hby := Bd.bytes
  have hml : c.maxLocals = 10 := hml0
  have hown : s.vm.findClass "com/example/vedette/vedette/definition/SubfieldDefinitionAsMandatoryPinLaw" = some m.cls := findClass_of_methodNamed Bd.named
  have hnm := (name_of_methodNamed Bd.named Bd.method).1
  have X0 : Stand p l e room_1 s m #[(.int p1), (.int p2), (.int p3)] below meth c s₁ [] 0 0 := Stand.of_body Bd
  have e0 : s₁.heap = h0 := by rw [← hh, Bd.state]; rfl
  have N0 := Fr.nil n0
  have pre0 : oL p e below s₁ (mkF m 0 #[oI p1, oI p2, oI p3, oU, oU, oU, oU, oU, oU, oU] []) s₁ (entryFrame m #[(.int p1), (.int p2), (.int p3)] maxLocals) := fun t k => castTop (by first | (simp [entryFrame, mkF, argsToLocals, Value.category, maxLocals]; done) | rfl) k
  have pre11 : oL p e below s₁ (mkF m 3 #[oI p1, oI p2, oI p3, oI (p1.toUInt32.toUInt16.toUInt32.toInt32), oU, oU, oU, oU, oU, oU] []) s₁ (entryFrame m #[(.int p1), (.int p2), (.int p3)] maxLocals) := fun t k => pre0 t (by
    refine XS.iloadN X0.here hx rfl (hb hby at_0) rfl ?_
    refine XS.i2c X0.here hx rfl (hb hby at_1) rfl ?_
    refine XS.istoreN X0.here hx rfl (hb hby at_2) rfl (l' := #[oI p1, oI p2, oI p3, oI (p1.toUInt32.toUInt16.toUInt32.toInt32), oU, oU, oU, oU, oU, oU]) rfl ?_
    exact k)
  obtain ⟨b12, hj12, pre12⟩ : ∃ b12 : Int32, (b12 = 0 ∨ b12 = 1) ∧ oL p e below s₁ (mkF m 14 #[oI p1, oI p2, oI p3, oI (p1.toUInt32.toUInt16.toUInt32.toInt32), oU, oU, oU, oU, oU, oU] [oi b12]) s₁ (entryFrame m #[(.int p1), (.int p2), (.int p3)] maxLocals) := by
    have pre13 : oL p e below s₁ (mkF m 6 #[oI p1, oI p2, oI p3, oI (p1.toUInt32.toUInt16.toUInt32.toInt32), oU, oU, oU, oU, oU, oU] [oi (p3 &&& (1 : Int32))]) s₁ (entryFrame m #[(.int p1), (.int p2), (.int p3)] maxLocals) := fun t k => pre11 t (by
      refine XS.iloadN X0.here hx rfl (hb hby at_3) rfl ?_
      show oS p e below s₁ (mkF m 4 #[oI p1, oI p2, oI p3, oI (p1.toUInt32.toUInt16.toUInt32.toInt32), oU, oU, oU, oU, oU, oU] [oi p3]) _
      refine XS.iconst X0.here hx rfl (hb hby at_4) ?_
      refine XS.iand X0.here hx rfl (hb hby at_5) rfl ?_
      exact k)
    by_cases hc14 : (p3 &&& (1 : Int32)) = (0 : Int32)
    ·
      have pre15 : oL p e below s₁ (mkF m 14 #[oI p1, oI p2, oI p3, oI (p1.toUInt32.toUInt16.toUInt32.toInt32), oU, oU, oU, oU, oU, oU] [oi 0]) s₁ (entryFrame m #[(.int p1), (.int p2), (.int p3)] maxLocals) := fun t k => pre13 t (by
        refine XS.ifYes X0.here hx rfl (pc0 := 6) (pc' := 13) rfl (hb hby at_6) rfl ((if0 _ _).trans (teq hc14).1) (by decide) (by decide) ?_
        refine XS.iconst X0.here hx rfl (hb hby at_13) ?_
        show oS p e below s₁ (mkF m 14 #[oI p1, oI p2, oI p3, oI (p1.toUInt32.toUInt16.toUInt32.toInt32), oU, oU, oU, oU, oU, oU] [oi 0]) _
        exact k)
      exact ⟨(0 : Int32), Or.inl rfl, pre15⟩
    ·
      have pre16 : oL p e below s₁ (mkF m 14 #[oI p1, oI p2, oI p3, oI (p1.toUInt32.toUInt16.toUInt32.toInt32), oU, oU, oU, oU, oU, oU] [oi 1]) s₁ (entryFrame m #[(.int p1), (.int p2), (.int p3)] maxLocals) := fun t k => pre13 t (by
        refine XS.ifNo X0.here hx rfl (hb hby at_6) rfl ((if0 _ _).trans (feq hc14).1) ?_
        refine XS.iconst X0.here hx rfl (hb hby at_9) ?_
        show oS p e below s₁ (mkF m 10 #[oI p1, oI p2, oI p3, oI (p1.toUInt32.toUInt16.toUInt32.toInt32), oU, oU, oU, oU, oU, oU] [oi 1]) _
        refine XS.goto X0.here hx rfl (pc0 := 10) (pc' := 14) rfl (hb hby at_10) (by decide) (by decide) ?_
        exact k)
      exact ⟨(1 : Int32), Or.inr rfl, pre16⟩
  have hn12 : nar .boolean b12 = b12 := own_nb hj12
  have pre17 : oL p e below s₁ (mkF m 16 #[oI p1, oI p2, oI p3, oI (p1.toUInt32.toUInt16.toUInt32.toInt32), oI b12, oU, oU, oU, oU, oU] []) s₁ (entryFrame m #[(.int p1), (.int p2), (.int p3)] maxLocals) := fun t k => pre12 t (by
    refine XS.istore X0.here hx rfl (hb hby at_14) rfl (l' := #[oI p1, oI p2, oI p3, oI (p1.toUInt32.toUInt16.toUInt32.toInt32), oI b12, oU, oU, oU, oU, oU]) rfl ?_
    show oS p e below s₁ (mkF m 16 #[oI p1, oI p2, oI p3, oI (p1.toUInt32.toUInt16.toUInt32.toInt32), oI b12, oU, oU, oU, oU, oU] []) _
    exact k)
  obtain ⟨b18, hj18, pre18⟩ : ∃ b18 : Int32, (b18 = 0 ∨ b18 = 1) ∧ oL p e below s₁ (mkF m 27 #[oI p1, oI p2, oI p3, oI (p1.toUInt32.toUInt16.toUInt32.toInt32), oI b12, oU, oU, oU, oU, oU] [oi b18]) s₁ (entryFrame m #[(.int p1), (.int p2), (.int p3)] maxLocals) := by
    have pre19 : oL p e below s₁ (mkF m 19 #[oI p1, oI p2, oI p3, oI (p1.toUInt32.toUInt16.toUInt32.toInt32), oI b12, oU, oU, oU, oU, oU] [oi (p3 &&& (2 : Int32))]) s₁ (entryFrame m #[(.int p1), (.int p2), (.int p3)] maxLocals) := fun t k => pre17 t (by
      refine XS.iloadN X0.here hx rfl (hb hby at_16) rfl ?_
      refine XS.iconst X0.here hx rfl (hb hby at_17) ?_
      refine XS.iand X0.here hx rfl (hb hby at_18) rfl ?_
      exact k)
    by_cases hc20 : (p3 &&& (2 : Int32)) = (0 : Int32)
    ·
      have pre21 : oL p e below s₁ (mkF m 27 #[oI p1, oI p2, oI p3, oI (p1.toUInt32.toUInt16.toUInt32.toInt32), oI b12, oU, oU, oU, oU, oU] [oi 0]) s₁ (entryFrame m #[(.int p1), (.int p2), (.int p3)] maxLocals) := fun t k => pre19 t (by
        refine XS.ifYes X0.here hx rfl (pc0 := 19) (pc' := 26) rfl (hb hby at_19) rfl ((if0 _ _).trans (teq hc20).1) (by decide) (by decide) ?_
        show oS p e below s₁ (mkF m 26 #[oI p1, oI p2, oI p3, oI (p1.toUInt32.toUInt16.toUInt32.toInt32), oI b12, oU, oU, oU, oU, oU] []) _
        refine XS.iconst X0.here hx rfl (hb hby at_26) ?_
        exact k)
      exact ⟨(0 : Int32), Or.inl rfl, pre21⟩
    ·
      have pre22 : oL p e below s₁ (mkF m 27 #[oI p1, oI p2, oI p3, oI (p1.toUInt32.toUInt16.toUInt32.toInt32), oI b12, oU, oU, oU, oU, oU] [oi 1]) s₁ (entryFrame m #[(.int p1), (.int p2), (.int p3)] maxLocals) := fun t k => pre19 t (by
        refine XS.ifNo X0.here hx rfl (hb hby at_19) rfl ((if0 _ _).trans (feq hc20).1) ?_
        show oS p e below s₁ (mkF m 22 #[oI p1, oI p2, oI p3, oI (p1.toUInt32.toUInt16.toUInt32.toInt32), oI b12, oU, oU, oU, oU, oU] []) _
        refine XS.iconst X0.here hx rfl (hb hby at_22) ?_
        refine XS.goto X0.here hx rfl (pc0 := 23) (pc' := 27) rfl (hb hby at_23) (by decide) (by decide) ?_
        exact k)
      exact ⟨(1 : Int32), Or.inr rfl, pre22⟩
  have hn18 : nar .boolean b18 = b18 := own_nb hj18
  have pre23 : oL p e below s₁ (mkF m 30 #[oI p1, oI p2, oI p3, oI (p1.toUInt32.toUInt16.toUInt32.toInt32), oI b12, oI b18, oU, oU, oU, oU] [oi 2]) s₁ (entryFrame m #[(.int p1), (.int p2), (.int p3)] maxLocals) := fun t k => pre18 t (by
    refine XS.istore X0.here hx rfl (hb hby at_27) rfl (l' := #[oI p1, oI p2, oI p3, oI (p1.toUInt32.toUInt16.toUInt32.toInt32), oI b12, oI b18, oU, oU, oU, oU]) rfl ?_
    refine XS.iconst X0.here hx rfl (hb hby at_29) ?_
    exact k)
  obtain ⟨T24, h24, k24, X24, e24, E24, A24, st24⟩ := newP X0 hx hZ (oW hw 0 rfl) e0 (g := (mkF m 30 #[oI p1, oI p2, oI p3, oI (p1.toUInt32.toUInt16.toUInt32.toInt32), oI b12, oI b18, oU, oU, oU, oU] [oi 2])) rfl (hb hby at_30) rfl (by decide) (cap := 2) (by decide) (by decide) (by decide) (by decide)
  obtain ⟨b24, g24⟩ : ∃ z, z = h0.size := ⟨_, rfl⟩
  rw [← g24] at A24 st24
  have ge_b24 : n0 ≤ b24 := Nat.le_trans (OL.1 ▸ OL.2.1) (Nat.le_of_eq g24.symm)
  have sz_b24 : h0.size ≤ b24 := Nat.le_trans (Keep.refl h0 []).1 (Nat.le_of_eq g24.symm)
  have OL25 := OL.ext E24
  have K26 : Keep h0 h24 [] := (Keep.refl h0 []).ext E24
  have V24 : Arv Z h24 b24 k24 .char (2 : Int32) [(.int (0 : Int32)), (.int (0 : Int32))] (.int (0 : Int32)) := (Arv.new A24 (by decide)).pad (pad_rep [] (.int (0 : Int32)) 2)
  have pre27 : oL p e below T24 (mkF m 40 #[oI p1, oI p2, oI p3, oI (p1.toUInt32.toUInt16.toUInt32.toInt32), oI b12, oI b18, oU, oU, oU, oU] [oi ((p2 &&& (255 : Int32)).toUInt32.toUInt16.toUInt32.toInt32), oi 0, ow b24, ow b24]) s₁ (entryFrame m #[(.int p1), (.int p2), (.int p3)] maxLocals) := fun t k => pre23 t (by
    refine st24 _ ?_
    refine XS.dup X24.here hx rfl (hb hby at_32) rfl rfl ?_
    show oS p e below T24 (mkF m 33 #[oI p1, oI p2, oI p3, oI (p1.toUInt32.toUInt16.toUInt32.toInt32), oI b12, oI b18, oU, oU, oU, oU] [ow b24, ow b24]) _
    refine XS.iconst X24.here hx rfl (hb hby at_33) ?_
    refine XS.iloadN X24.here hx rfl (hb hby at_34) rfl ?_
    refine XS.sipush X24.here hx rfl (hb hby at_35) ?_
    refine XS.iand X24.here hx rfl (hb hby at_38) rfl ?_
    show oS p e below T24 (mkF m 39 #[oI p1, oI p2, oI p3, oI (p1.toUInt32.toUInt16.toUInt32.toInt32), oI b12, oI b18, oU, oU, oU, oU] [oi (p2 &&& (255 : Int32)), oi 0, ow b24, ow b24]) _
    refine XS.i2c X24.here hx rfl (hb hby at_39) rfl ?_
    exact k)
  obtain ⟨cl28, Ar28, qc28, Sz28, Nn28, Hs28, Gs28⟩ := id V24
  obtain ⟨T28, h28, X28, e28, W28, st28⟩ := stC X24 hx hZ e24 Ar28 (j := (0 : Int32)) (inb_of Sz28 ⟨by decide, by decide⟩) (g := (mkF m 40 #[oI p1, oI p2, oI p3, oI (p1.toUInt32.toUInt16.toUInt32.toInt32), oI b12, oI b18, oU, oU, oU, oU] [oi ((p2 &&& (255 : Int32)).toUInt32.toUInt16.toUInt32.toInt32), oi 0, ow b24, ow b24])) rfl rfl (hb hby at_40)
  have V28 : Arv Z h28 b24 k24 .char (2 : Int32) [(.int (nar .char ((p2 &&& (255 : Int32)).toUInt32.toUInt16.toUInt32.toInt32))), (.int (0 : Int32))] (.int (0 : Int32)) := Arv.set Ar28 qc28 Sz28 Nn28 Hs28 Gs28 (fits_nar_char _) W28 0 rfl (Nat.le_of_ble_eq_true rfl)
  have N28 := Fr.snoc X28 N0 ge_b24
  have OL29 := OL25.wr W28 ge_b24
  have K30 : Keep h0 h28 [] := K26.wr W28 (Or.inr sz_b24)
  have pre31 : oL p e below T28 (mkF m 52 #[oI p1, oI p2, oI p3, oI (p1.toUInt32.toUInt16.toUInt32.toInt32), oI b12, oI b18, oU, oU, oU, oU] [oi ((((p2.toUInt32 >>> ((8 : Int32) &&& 31).toUInt32).toInt32) &&& (255 : Int32)).toUInt32.toUInt16.toUInt32.toInt32), oi 1, ow b24, ow b24]) s₁ (entryFrame m #[(.int p1), (.int p2), (.int p3)] maxLocals) := fun t k => pre27 t (by
    refine st28 _ ?_
    refine XS.dup X28.here hx rfl (hb hby at_41) rfl rfl ?_
    refine XS.iconst X28.here hx rfl (hb hby at_42) ?_
    show oS p e below T28 (mkF m 43 #[oI p1, oI p2, oI p3, oI (p1.toUInt32.toUInt16.toUInt32.toInt32), oI b12, oI b18, oU, oU, oU, oU] [oi 1, ow b24, ow b24]) _
    refine XS.iloadN X28.here hx rfl (hb hby at_43) rfl ?_
    refine XS.bipush X28.here hx rfl (hb hby at_44) ?_
    refine XS.iushr X28.here hx rfl (hb hby at_46) rfl ?_
    refine XS.sipush X28.here hx rfl (hb hby at_47) ?_
    show oS p e below T28 (mkF m 50 #[oI p1, oI p2, oI p3, oI (p1.toUInt32.toUInt16.toUInt32.toInt32), oI b12, oI b18, oU, oU, oU, oU] [oi 255, oi ((p2.toUInt32 >>> ((8 : Int32) &&& 31).toUInt32).toInt32), oi 1, ow b24, ow b24]) _
    refine XS.iand X28.here hx rfl (hb hby at_50) rfl ?_
    refine XS.i2c X28.here hx rfl (hb hby at_51) rfl ?_
    exact k)
  obtain ⟨cl32, Ar32, qc32, Sz32, Nn32, Hs32, Gs32⟩ := id V28
  obtain ⟨T32, h32, X32, e32, W32, st32⟩ := stC X28 hx hZ e28 Ar32 (j := (1 : Int32)) (inb_of Sz32 ⟨by decide, by decide⟩) (g := (mkF m 52 #[oI p1, oI p2, oI p3, oI (p1.toUInt32.toUInt16.toUInt32.toInt32), oI b12, oI b18, oU, oU, oU, oU] [oi ((((p2.toUInt32 >>> ((8 : Int32) &&& 31).toUInt32).toInt32) &&& (255 : Int32)).toUInt32.toUInt16.toUInt32.toInt32), oi 1, ow b24, ow b24])) rfl rfl (hb hby at_52)
  have V32 : Arv Z h32 b24 k24 .char (2 : Int32) [(.int (nar .char ((p2 &&& (255 : Int32)).toUInt32.toUInt16.toUInt32.toInt32))), (.int (nar .char ((((p2.toUInt32 >>> ((8 : Int32) &&& 31).toUInt32).toInt32) &&& (255 : Int32)).toUInt32.toUInt16.toUInt32.toInt32)))] (.int (0 : Int32)) := Arv.set Ar32 qc32 Sz32 Nn32 Hs32 Gs32 (fits_nar_char _) W32 1 rfl (Nat.le_of_ble_eq_true rfl)
  have N32 := Fr.snoc X32 N28 ge_b24
  have OL33 := OL29.wr W32 ge_b24
  have K34 : Keep h0 h32 [] := K30.wr W32 (Or.inr sz_b24)
  have pre35 : oL p e below T32 (mkF m 55 #[oI p1, oI p2, oI p3, oI (p1.toUInt32.toUInt16.toUInt32.toInt32), oI b12, oI b18, oR b24, oU, oU, oU] []) s₁ (entryFrame m #[(.int p1), (.int p2), (.int p3)] maxLocals) := fun t k => pre31 t (by
    refine st32 _ ?_
    refine XS.astore X32.here hx rfl (hb hby at_53) rfl rfl (l' := #[oI p1, oI p2, oI p3, oI (p1.toUInt32.toUInt16.toUInt32.toInt32), oI b12, oI b18, oR b24, oU, oU, oU]) rfl ?_
    show oS p e below T32 (mkF m 55 #[oI p1, oI p2, oI p3, oI (p1.toUInt32.toUInt16.toUInt32.toInt32), oI b12, oI b18, oR b24, oU, oU, oU] []) _
    exact k)
  obtain ⟨T36, h36, X36, e36, E36, A36, D36, -, st36⟩ := newO X32 hx hZ hown (oW hw 1 rfl) (oW hw 2 rfl) (oW hw 3 rfl) e32 (g := (mkF m 55 #[oI p1, oI p2, oI p3, oI (p1.toUInt32.toUInt16.toUInt32.toInt32), oI b12, oI b18, oR b24, oU, oU, oU] [])) rfl (hb hby at_55) (by decide) (by decide)
  obtain ⟨b36, g36⟩ : ∃ z, z = h32.size := ⟨_, rfl⟩
  rw [← g36] at A36 D36 st36
  have ne37 : b24 ≠ b36 := Nat.ne_of_lt (Nat.lt_of_lt_of_le V32.lt (Nat.le_of_eq g36.symm))
  have ge_b36 : n0 ≤ b36 := Nat.le_trans (OL33.1 ▸ OL33.2.1) (Nat.le_of_eq g36.symm)
  have sz_b36 : h0.size ≤ b36 := Nat.le_trans K34.1 (Nat.le_of_eq g36.symm)
  have f38 := V32.ext E36
  have OL39 := OL33.ext E36
  have K40 : Keep h0 h36 [] := K34.ext E36
  have f41 : Fld Z h36 b36 "java/lang/String" "coder" "B" (.int (0 : Int32)) := D36 (Or.inr (oW hw 27 rfl)) (ty := .byte) (by decide)
  have f42 : Fld Z h36 b36 "java/lang/String" "value" "[B" .null := D36 (Or.inr (oW hw 29 rfl)) (ty := (.array .byte)) (by decide)
  have hp43 : ∀ c ∈ ([(nar .char ((p2 &&& (255 : Int32)).toUInt32.toUInt16.toUInt32.toInt32)), (nar .char ((((p2.toUInt32 >>> ((8 : Int32) &&& 31).toUInt32).toInt32) &&& (255 : Int32)).toUInt32.toUInt16.toUInt32.toInt32))] : List Int32), ¬ c < 0 ∧ ¬ (255 : Int32) < c := by
    intro c hc
    simp only [List.mem_cons, List.not_mem_nil, or_false] at hc
    rcases hc with rfl | rfl
    · exact own_c255 _
    · exact own_c255 _
  have pre44 : oL p e below T36 (mkF m 61 #[oI p1, oI p2, oI p3, oI (p1.toUInt32.toUInt16.toUInt32.toInt32), oI b12, oI b18, oR b24, oU, oU, oU] [ow b24, ow b36, ow b36]) s₁ (entryFrame m #[(.int p1), (.int p2), (.int p3)] maxLocals) := fun t k => pre35 t (by
    refine st36 _ ?_
    refine XS.dup X36.here hx rfl (hb hby at_58) rfl rfl ?_
    refine XS.aload X36.here hx rfl (hb hby at_59) rfl rfl ?_
    exact k)
  obtain ⟨_, _, ⟨T45, L45, k45, n45⟩, -, X45, ⟨Lc45, hQ45, l45, y45, z45⟩, st45⟩ := X36.specialBack hx (y := (⟨"java/lang/String", "<init>", "([C)V"⟩ : MethodName)) rfl hown (mvT hZ (oW hw 4 rfl)) (mvT hZ (oW hw 5 rfl)) (mvT hZ (oW hw 6 rfl)) (by decide) (StrChars.Road.backV (W := 1) hZ (fun d hd => hw d (own_hws d hd)) (kI := 4) (oW hw 2 rfl) (cs := ([(nar .char ((p2 &&& (255 : Int32)).toUInt32.toUInt16.toUInt32.toInt32)), (nar .char ((((p2.toUInt32 >>> ((8 : Int32) &&& 31).toUInt32).toInt32) &&& (255 : Int32)).toUInt32.toUInt16.toUInt32.toInt32))] : List Int32)) (bs := (([(nar .char ((p2 &&& (255 : Int32)).toUInt32.toUInt16.toUInt32.toInt32)), (nar .char ((((p2.toUInt32 >>> ((8 : Int32) &&& 31).toUInt32).toInt32) &&& (255 : Int32)).toUInt32.toUInt16.toUInt32.toInt32))] : List Int32)).map (fun c => c.toInt8.toInt32)) (n := 2) ge_b36 (OL39.1 ▸ OL39.2.1) A36 f42 f41 f38 (O2.ext OL39.2) P5 rfl rfl (by decide) (by decide) hp43 rfl (by decide) (by decide)) (g := (mkF m 61 #[oI p1, oI p2, oI p3, oI (p1.toUInt32.toUInt16.toUInt32.toInt32), oI b12, oI b18, oR b24, oU, oU, oU] [ow b24, ow b36, ow b36])) rfl (by rw [hml]; rfl) (Steps.refl _) (a := b36) (argsL := [(.ref b24)]) (rest := [(.ref b36)]) (lenOf pd___C_V rfl) rfl (by show 2 * 0 + _ ≤ _; exact Nat.le_of_eq rfl) (hb hby at_61) (fun _ _ => ⟨rfl, e36, (by decide : 2 + 1 ≤ _), (by decide : 6 + 2 ≤ _)⟩)
  dsimp only [Pt.U, Pt.locs, Pt.cells, Pt.slots] at X45 l45 y45 z45 st45 hQ45
  subst l45 y45 z45
  obtain ⟨rfl, N45q, Kq45, Eq45, Fc45, tt45, kb45, gt45, sq45, nx45, Fv45, Va45⟩ := hQ45
  have N45 := Fr.app N32 N45q
  have ne46 : b24 ≠ tt45 := Nat.ne_of_lt (Nat.lt_of_lt_of_le f38.lt sq45)
  have ne47 : b36 ≠ tt45 := Nat.ne_of_lt (Nat.lt_of_lt_of_le A36.lt sq45)
  have ge_tt45 : n0 ≤ tt45 := Nat.le_trans (OL39.1 ▸ OL39.2.1) sq45
  have sz_tt45 : h0.size ≤ tt45 := Nat.le_trans K40.1 sq45
  have f48 := f38.keep Kq45 (ninS ne37 nin0)
  have f49 := A36.keep Kq45
  have OL50 := OL39.keep Kq45 (allS ge_b36 all0)
  have K51 : Keep h0 T45.heap [] := K40.trans Kq45 (allS (Or.inr sz_b36) all0)
  have Vb45 : Arv Z T45.heap tt45 kb45 .byte (2 : Int32) [(.int ((nar .char ((p2 &&& (255 : Int32)).toUInt32.toUInt16.toUInt32.toInt32)).toInt8.toInt32)), (.int ((nar .char ((((p2.toUInt32 >>> ((8 : Int32) &&& 31).toUInt32).toInt32) &&& (255 : Int32)).toUInt32.toUInt16.toUInt32.toInt32)).toInt8.toInt32))] (.int (0 : Int32)) := Va45
  have pre52 : oL p e below T45 (mkF m 66 #[oI p1, oI p2, oI p3, oI (p1.toUInt32.toUInt16.toUInt32.toInt32), oI b12, oI b18, oR b24, oR b36, oU, oU] []) s₁ (entryFrame m #[(.int p1), (.int p2), (.int p3)] maxLocals) := fun t k => pre44 t (by
    refine st45.trans ?_
    show oS p e below T45 (mkF m 64 #[oI p1, oI p2, oI p3, oI (p1.toUInt32.toUInt16.toUInt32.toInt32), oI b12, oI b18, oR b24, oU, oU, oU] [ow b36]) _
    refine XS.astore X45.here hx rfl (hb hby at_64) rfl rfl (l' := #[oI p1, oI p2, oI p3, oI (p1.toUInt32.toUInt16.toUInt32.toInt32), oI b12, oI b18, oR b24, oR b36, oU, oU]) rfl ?_
    exact k)
  obtain ⟨T53, h53, X53, e53, E53, A53, D53, -, st53⟩ := newO X45 hx hZ hown (oW hw 30 rfl) (oW hw 31 rfl) (oW hw 32 rfl) rfl (g := (mkF m 66 #[oI p1, oI p2, oI p3, oI (p1.toUInt32.toUInt16.toUInt32.toInt32), oI b12, oI b18, oR b24, oR b36, oU, oU] [])) rfl (hb hby at_66) (by decide) (by decide)
  obtain ⟨b53, g53⟩ : ∃ z, z = T45.heap.size := ⟨_, rfl⟩
  rw [← g53] at A53 D53 st53
  have ne54 : b24 ≠ b53 := Nat.ne_of_lt (Nat.lt_of_lt_of_le f48.lt (Nat.le_of_eq g53.symm))
  have ne55 : b36 ≠ b53 := Nat.ne_of_lt (Nat.lt_of_lt_of_le f49.lt (Nat.le_of_eq g53.symm))
  have ne56 : tt45 ≠ b53 := Nat.ne_of_lt (Nat.lt_of_lt_of_le Vb45.lt (Nat.le_of_eq g53.symm))
  have ge_b53 : n0 ≤ b53 := Nat.le_trans (OL50.1 ▸ OL50.2.1) (Nat.le_of_eq g53.symm)
  have sz_b53 : h0.size ≤ b53 := Nat.le_trans K51.1 (Nat.le_of_eq g53.symm)
  have f57 := f48.ext E53
  have f58 := f49.ext E53
  have f59 := Fc45.ext E53
  have f60 := Fv45.ext E53
  have f61 := Vb45.ext E53
  have OL62 := OL50.ext E53
  have K63 : Keep h0 h53 [] := K51.ext E53
  have f64 : Fld Z h53 b53 "com/example/vedette/vedette/definition/SubfieldDefinition" "code" "C" (.int (0 : Int32)) := D53 (Or.inr (oW hw 43 rfl)) (ty := .char) (by decide)
  have f65 : Fld Z h53 b53 "com/example/vedette/vedette/definition/SubfieldDefinition" "name" "Ljava/lang/String;" .null := D53 (Or.inr (oW hw 45 rfl)) (ty := (.object "java/lang/String")) (by decide)
  have f66 : Fld Z h53 b53 "com/example/vedette/vedette/definition/SubfieldDefinition" "repeatable" "Z" (.int (0 : Int32)) := D53 (Or.inr (oW hw 47 rfl)) (ty := .boolean) (by decide)
  have f67 : Fld Z h53 b53 "com/example/vedette/vedette/definition/SubfieldDefinition" "mandatory" "Z" (.int (0 : Int32)) := D53 (Or.inr (oW hw 49 rfl)) (ty := .boolean) (by decide)
  have f68 : Fld Z h53 b53 "com/example/vedette/vedette/definition/SubfieldDefinition" "controlValue" "Lcom/example/vedette/vedette/definition/ControlValueDefinition;" .null := D53 (Or.inr (oW hw 51 rfl)) (ty := (.object "com/example/vedette/vedette/definition/ControlValueDefinition")) (by decide)
  have pre69 : oL p e below T53 (mkF m 78 #[oI p1, oI p2, oI p3, oI (p1.toUInt32.toUInt16.toUInt32.toInt32), oI b12, oI b18, oR b24, oR b36, oU, oU] [.null, oi b18, oi b12, ow b36, oi (p1.toUInt32.toUInt16.toUInt32.toInt32), ow b53, ow b53]) s₁ (entryFrame m #[(.int p1), (.int p2), (.int p3)] maxLocals) := fun t k => pre52 t (by
    refine st53 _ ?_
    refine XS.dup X53.here hx rfl (hb hby at_69) rfl rfl ?_
    refine XS.iloadN X53.here hx rfl (hb hby at_70) rfl ?_
    show oS p e below T53 (mkF m 71 #[oI p1, oI p2, oI p3, oI (p1.toUInt32.toUInt16.toUInt32.toInt32), oI b12, oI b18, oR b24, oR b36, oU, oU] [oi (p1.toUInt32.toUInt16.toUInt32.toInt32), ow b53, ow b53]) _
    refine XS.aload X53.here hx rfl (hb hby at_71) rfl rfl ?_
    refine XS.iload X53.here hx rfl (hb hby at_73) rfl ?_
    refine XS.iload X53.here hx rfl (hb hby at_75) rfl ?_
    refine XS.aconstNull X53.here hx rfl (hb hby at_77) ?_
    show oS p e below T53 (mkF m 78 #[oI p1, oI p2, oI p3, oI (p1.toUInt32.toUInt16.toUInt32.toInt32), oI b12, oI b18, oR b24, oR b36, oU, oU] [.null, oi b18, oi b12, ow b36, oi (p1.toUInt32.toUInt16.toUInt32.toInt32), ow b53, ow b53]) _
    exact k)
  obtain ⟨_, _, ⟨T70, L70, k70, n70⟩, -, X70, ⟨Lc70, hQ70, l70, y70, z70⟩, st70⟩ := X53.specialBack hx (y := (⟨"com/example/vedette/vedette/definition/SubfieldDefinition", "<init>", "(CLjava/lang/String;ZZLcom/example/vedette/vedette/definition/ControlValueDefinition;)V"⟩ : MethodName)) rfl hown (mvT hZ (oW hw 33 rfl)) (mvT hZ (oW hw 34 rfl)) (mvT hZ (oW hw 35 rfl)) (by decide) (backOf (W := 1) (rm_sd l Z a0 hw [] b53 (p1.toUInt32.toUInt16.toUInt32.toInt32) b36 b12 b18 .null h53 n0 OL62 ge_b53 A53 f64 f65 f66 f67 f68 (own_i2c p1) hn12 hn18 rfl) hZ (oW hw 35 rfl) (oW hw 32 rfl) (by decide) (by decide)) (g := (mkF m 78 #[oI p1, oI p2, oI p3, oI (p1.toUInt32.toUInt16.toUInt32.toInt32), oI b12, oI b18, oR b24, oR b36, oU, oU] [.null, oi b18, oi b12, ow b36, oi (p1.toUInt32.toUInt16.toUInt32.toInt32), ow b53, ow b53])) rfl (by rw [hml]; rfl) (Steps.refl _) (a := b53) (argsL := [(.int (p1.toUInt32.toUInt16.toUInt32.toInt32)), (.ref b36), (.int b12), (.int b18), .null]) (rest := [(.ref b53)]) (lenOf pd__CLjava_lang_String_ZZLcom_example_vedette_vedette_definition_ControlValueDefinition__V rfl) rfl (by show 2 * 0 + _ ≤ _; exact Nat.le_of_eq rfl) (hb hby at_78) (fun _ _ => ⟨rfl, e53, (by decide : 4 + 0 ≤ _), (by decide : 13 + 0 ≤ _)⟩)
  dsimp only [Pt.U, Pt.locs, Pt.cells, Pt.slots] at X70 l70 y70 z70 st70 hQ70
  subst l70 y70 z70
  obtain ⟨rfl, N70q, Kq70, Eq70, F0_70, F1_70, F2_70, F3_70, F4_70⟩ := hQ70
  have N70 := Fr.app N45 N70q
  have f71 := f57.keep Kq70 (ninS ne54 nin0)
  have f72 := f58.keep Kq70
  have f73 := f59.keep Kq70 (ninS ne55 nin0)
  have f74 := f60.keep Kq70 (ninS ne55 nin0)
  have f75 := f61.keep Kq70 (ninS ne56 nin0)
  have f76 := A53.keep Kq70
  have OL77 := OL62.keep Kq70 (allS ge_b53 all0)
  have K78 : Keep h0 T70.heap [] := K63.trans Kq70 (allS (Or.inr sz_b53) all0)
  have pre79 : oL p e below T70 (mkF m 85 #[oI p1, oI p2, oI p3, oI (p1.toUInt32.toUInt16.toUInt32.toInt32), oI b12, oI b18, oR b24, oR b36, oR b53, oU] [ow b53]) s₁ (entryFrame m #[(.int p1), (.int p2), (.int p3)] maxLocals) := fun t k => pre69 t (by
    refine st70.trans ?_
    refine XS.astore X70.here hx rfl (hb hby at_81) rfl rfl (l' := #[oI p1, oI p2, oI p3, oI (p1.toUInt32.toUInt16.toUInt32.toInt32), oI b12, oI b18, oR b24, oR b36, oR b53, oU]) rfl ?_
    refine XS.aload X70.here hx rfl (hb hby at_83) rfl rfl ?_
    exact k)
  obtain ⟨cq80, kq80, q80a, q80b, q80c⟩ := isOf hZ rfl Eq70
  obtain ⟨_, _, ⟨T80, L80, k80, n80⟩, -, X80, ⟨Lc80, hQ80, l80, y80, z80⟩, st80⟩ := X70.virtualBack hx (y := (⟨"com/example/vedette/vedette/definition/SubfieldDefinition", "asMandatory", "()Lcom/example/vedette/vedette/definition/SubfieldDefinition;"⟩ : MethodName)) (z := (⟨"com/example/vedette/vedette/definition/SubfieldDefinition", "asMandatory", "()Lcom/example/vedette/vedette/definition/SubfieldDefinition;"⟩ : MethodName)) hown (mvT hZ (oW hw 52 rfl)) (mvT hZ (oW hw 53 rfl)) (notFace_of_selects (args := #[]) (mvT hZ (oW hw 55 rfl))) (mvT hZ (oW hw 55 rfl)) (mvT hZ (oW hw 54 rfl)) (by decide) (backOf (W := 0) (rm_asm l Z a0 hw [] b53 (p1.toUInt32.toUInt16.toUInt32.toInt32) b36 b12 b18 .null T70.heap n0 OL77 Eq70 F0_70 F1_70 F2_70 F3_70 F4_70 (own_i2c p1) hn12 rfl) hZ (oW hw 56 rfl) (oW hw 32 rfl) (by decide) (by decide)) q80a q80c (g := (mkF m 85 #[oI p1, oI p2, oI p3, oI (p1.toUInt32.toUInt16.toUInt32.toInt32), oI b12, oI b18, oR b24, oR b36, oR b53, oU] [ow b53])) rfl (by rw [hml]; rfl) (Steps.refl _) (argsL := []) (rest := []) (lenOf pd___Lcom_example_vedette_vedette_definition_SubfieldDefinition_ rfl) rfl (by show 2 * 0 + _ ≤ _; exact Nat.le_of_eq rfl) (hb hby at_85) (fun _ _ => ⟨rfl, rfl, (by decide : 4 + 1 ≤ _), (by decide : 13 + 5 ≤ _)⟩)
  dsimp only [Pt.U, Pt.locs, Pt.cells, Pt.slots] at X80 l80 y80 z80 st80 hQ80
  subst l80 y80 z80
  obtain ⟨r80, rfl, N80q, Kq80, sq80, Eq80, F0_80, F1_80, F2_80, F3_80, F4_80⟩ := hQ80
  have N80 := Fr.app N70 N80q
  have ne81 : b24 ≠ r80 := Nat.ne_of_lt (Nat.lt_of_lt_of_le f71.lt sq80)
  have ne82 : b36 ≠ r80 := Nat.ne_of_lt (Nat.lt_of_lt_of_le f72.lt sq80)
  have ne83 : b53 ≠ r80 := Nat.ne_of_lt (Nat.lt_of_lt_of_le Eq70.lt sq80)
  have ne84 : tt45 ≠ r80 := Nat.ne_of_lt (Nat.lt_of_lt_of_le f75.lt sq80)
  have ge_r80 : n0 ≤ r80 := Nat.le_trans (OL77.1 ▸ OL77.2.1) sq80
  have sz_r80 : h0.size ≤ r80 := Nat.le_trans K78.1 sq80
  have f85 := f71.keep Kq80 nin0
  have f86 := f72.keep Kq80
  have f87 := f73.keep Kq80 nin0
  have f88 := f74.keep Kq80 nin0
  have f89 := f75.keep Kq80 nin0
  have f90 := Eq70.keep Kq80
  have f91 := F0_70.keep Kq80 nin0
  have f92 := F1_70.keep Kq80 nin0
  have f93 := F2_70.keep Kq80 nin0
  have f94 := F3_70.keep Kq80 nin0
  have f95 := F4_70.keep Kq80 nin0
  have OL96 := OL77.keep Kq80 all0
  have K97 : Keep h0 T80.heap [] := K78.trans Kq80 all0
  have pre98 : oL p e below T80 (mkF m 99 #[oI p1, oI p2, oI p3, oI (p1.toUInt32.toUInt16.toUInt32.toInt32), oI b12, oI b18, oR b24, oR b36, oR b53, oR r80] [ow r80]) s₁ (entryFrame m #[(.int p1), (.int p2), (.int p3)] maxLocals) := fun t k => pre79 t (by
    refine st80.trans ?_
    show oS p e below T80 (mkF m 88 #[oI p1, oI p2, oI p3, oI (p1.toUInt32.toUInt16.toUInt32.toInt32), oI b12, oI b18, oR b24, oR b36, oR b53, oU] [ow r80]) _
    refine XS.astore X80.here hx rfl (hb hby at_88) rfl rfl (l' := #[oI p1, oI p2, oI p3, oI (p1.toUInt32.toUInt16.toUInt32.toInt32), oI b12, oI b18, oR b24, oR b36, oR b53, oR r80]) rfl ?_
    refine XS.aload X80.here hx rfl (hb hby at_90) rfl rfl ?_
    refine XS.ifnonnullYes X80.here hx rfl (pc0 := 92) (pc' := 97) rfl (hb hby at_92) rfl (by decide) (by decide) ?_
    refine XS.aload X80.here hx rfl (hb hby at_97) rfl rfl ?_
    show oS p e below T80 (mkF m 99 #[oI p1, oI p2, oI p3, oI (p1.toUInt32.toUInt16.toUInt32.toInt32), oI b12, oI b18, oR b24, oR b36, oR b53, oR r80] [ow r80]) _
    exact k)
  obtain ⟨cq99, kq99, q99a, q99b, q99c⟩ := isOf hZ rfl Eq80
  obtain ⟨_, _, ⟨T99, L99, k99, n99⟩, -, X99, ⟨Lc99, hQ99, l99, y99, z99⟩, st99⟩ := X80.virtualBack hx (y := (⟨"com/example/vedette/vedette/definition/SubfieldDefinition", "code", "()C"⟩ : MethodName)) (z := (⟨"com/example/vedette/vedette/definition/SubfieldDefinition", "code", "()C"⟩ : MethodName)) hown (mvT hZ (oW hw 59 rfl)) (mvT hZ (oW hw 60 rfl)) (notFace_of_selects (args := #[]) (mvT hZ (oW hw 62 rfl))) (mvT hZ (oW hw 62 rfl)) (mvT hZ (oW hw 61 rfl)) (by decide) (backOf (W := 0) (rm_g_code l Z a0 hw [] r80 (p1.toUInt32.toUInt16.toUInt32.toInt32) T80.heap n0 OL96 F0_80 (own_i2c p1)) hZ (oW hw 63 rfl) (oW hw 32 rfl) (by decide) (by decide)) q99a q99c (g := (mkF m 99 #[oI p1, oI p2, oI p3, oI (p1.toUInt32.toUInt16.toUInt32.toInt32), oI b12, oI b18, oR b24, oR b36, oR b53, oR r80] [ow r80])) rfl (by rw [hml]; rfl) (Steps.refl _) (argsL := []) (rest := []) (lenOf pd___C rfl) rfl (by show 2 * 0 + _ ≤ _; exact Nat.le_of_eq rfl) (hb hby at_99) (fun _ _ => ⟨rfl, rfl, (by decide : 5 + 0 ≤ _), (by decide : 18 + 0 ≤ _)⟩)
  dsimp only [Pt.U, Pt.locs, Pt.cells, Pt.slots] at X99 l99 y99 z99 st99 hQ99
  subst l99 y99 z99
  obtain ⟨rfl, N99q, e99⟩ := hQ99
  have N99 := Fr.app N80 N99q
  have pre100 : oL p e below T99 (mkF m 110 #[oI p1, oI p2, oI p3, oI (p1.toUInt32.toUInt16.toUInt32.toInt32), oI b12, oI b18, oR b24, oR b36, oR b53, oR r80] [ow r80, ow b36]) s₁ (entryFrame m #[(.int p1), (.int p2), (.int p3)] maxLocals) := fun t k => pre98 t (by
    refine st99.trans ?_
    refine XS.iloadN X99.here hx rfl (hb hby at_102) rfl ?_
    refine XS.icmpNo X99.here hx rfl (hb hby at_103) rfl (teq (rfl : (p1.toUInt32.toUInt16.toUInt32.toInt32) = (p1.toUInt32.toUInt16.toUInt32.toInt32))).2 ?_
    refine XS.aload X99.here hx rfl (hb hby at_106) rfl rfl ?_
    show oS p e below T99 (mkF m 108 #[oI p1, oI p2, oI p3, oI (p1.toUInt32.toUInt16.toUInt32.toInt32), oI b12, oI b18, oR b24, oR b36, oR b53, oR r80] [ow b36]) _
    refine XS.aload X99.here hx rfl (hb hby at_108) rfl rfl ?_
    exact k)
  obtain ⟨cq101, kq101, q101a, q101b, q101c⟩ := isOf hZ e99 Eq80
  obtain ⟨_, _, ⟨T101, L101, k101, n101⟩, -, X101, ⟨Lc101, hQ101, l101, y101, z101⟩, st101⟩ := X99.virtualBack hx (y := (⟨"com/example/vedette/vedette/definition/SubfieldDefinition", "name", "()Ljava/lang/String;"⟩ : MethodName)) (z := (⟨"com/example/vedette/vedette/definition/SubfieldDefinition", "name", "()Ljava/lang/String;"⟩ : MethodName)) hown (mvT hZ (oW hw 64 rfl)) (mvT hZ (oW hw 65 rfl)) (notFace_of_selects (args := #[]) (mvT hZ (oW hw 67 rfl))) (mvT hZ (oW hw 67 rfl)) (mvT hZ (oW hw 66 rfl)) (by decide) (backOf (W := 1) (rm_g_name l Z a0 hw [] r80 (.ref b36) T80.heap n0 OL96 F1_80 rfl) hZ (oW hw 68 rfl) (oW hw 32 rfl) (by decide) (by decide)) q101a q101c (g := (mkF m 110 #[oI p1, oI p2, oI p3, oI (p1.toUInt32.toUInt16.toUInt32.toInt32), oI b12, oI b18, oR b24, oR b36, oR b53, oR r80] [ow r80, ow b36])) rfl (by rw [hml]; rfl) (Steps.refl _) (argsL := []) (rest := [(.ref b36)]) (lenOf pd___Ljava_lang_String_ rfl) rfl (by show 2 * 0 + _ ≤ _; exact Nat.le_of_eq rfl) (hb hby at_110) (fun _ _ => ⟨rfl, e99, (by decide : 5 + 0 ≤ _), (by decide : 18 + 0 ≤ _)⟩)
  dsimp only [Pt.U, Pt.locs, Pt.cells, Pt.slots] at X101 l101 y101 z101 st101 hQ101
  subst l101 y101 z101
  obtain ⟨rfl, N101q, e101⟩ := hQ101
  have N101 := Fr.app N99 N101q
  have pre102 : oL p e below T101 (mkF m 113 #[oI p1, oI p2, oI p3, oI (p1.toUInt32.toUInt16.toUInt32.toInt32), oI b12, oI b18, oR b24, oR b36, oR b53, oR r80] [ow b36, ow b36]) s₁ (entryFrame m #[(.int p1), (.int p2), (.int p3)] maxLocals) := fun t k => pre100 t (by
    refine st101.trans ?_
    exact k)
  obtain ⟨cq103, kq103, q103a, q103b, q103c⟩ := isOf hZ e101 f86
  obtain ⟨_, _, ⟨T103, L103, k103, n103⟩, -, X103, ⟨Lc103, hQ103, l103, y103, z103⟩, st103⟩ := X101.virtualBack hx (y := (⟨"java/lang/String", "equals", "(Ljava/lang/Object;)Z"⟩ : MethodName)) (z := (⟨"java/lang/String", "equals", "(Ljava/lang/Object;)Z"⟩ : MethodName)) hown (mvT hZ (oW hw 69 rfl)) (mvT hZ (oW hw 70 rfl)) (notFace_of_selects (args := #[]) (mvT hZ (oW hw 72 rfl))) (mvT hZ (oW hw 72 rfl)) (mvT hZ (oW hw 71 rfl)) (by decide) (backOf (W := 0) (rm_eqs l Z a0 hw [] b36 T80.heap n0 OL96 ) hZ (oW hw 73 rfl) (oW hw 3 rfl) (by decide) (by decide)) q103a q103c (g := (mkF m 113 #[oI p1, oI p2, oI p3, oI (p1.toUInt32.toUInt16.toUInt32.toInt32), oI b12, oI b18, oR b24, oR b36, oR b53, oR r80] [ow b36, ow b36])) rfl (by rw [hml]; rfl) (Steps.refl _) (argsL := [(.ref b36)]) (rest := []) (lenOf pd__Ljava_lang_Object__Z rfl) rfl (by show 2 * 0 + _ ≤ _; exact Nat.le_of_eq rfl) (hb hby at_113) (fun _ _ => ⟨rfl, e101, (by decide : 5 + 0 ≤ _), (by decide : 18 + 0 ≤ _)⟩)
  dsimp only [Pt.U, Pt.locs, Pt.cells, Pt.slots] at X103 l103 y103 z103 st103 hQ103
  subst l103 y103 z103
  obtain ⟨rfl, N103q, e103⟩ := hQ103
  have N103 := Fr.app N101 N103q
  have pre104 : oL p e below T103 (mkF m 121 #[oI p1, oI p2, oI p3, oI (p1.toUInt32.toUInt16.toUInt32.toInt32), oI b12, oI b18, oR b24, oR b36, oR b53, oR r80] [ow r80]) s₁ (entryFrame m #[(.int p1), (.int p2), (.int p3)] maxLocals) := fun t k => pre102 t (by
    refine st103.trans ?_
    refine XS.ifNo X103.here hx rfl (hb hby at_116) rfl ((if0 _ _).trans (feq (by decide : ¬ ((1 : Int32) = (0 : Int32)))).1) ?_
    show oS p e below T103 (mkF m 119 #[oI p1, oI p2, oI p3, oI (p1.toUInt32.toUInt16.toUInt32.toInt32), oI b12, oI b18, oR b24, oR b36, oR b53, oR r80] []) _
    refine XS.aload X103.here hx rfl (hb hby at_119) rfl rfl ?_
    exact k)
  obtain ⟨cq105, kq105, q105a, q105b, q105c⟩ := isOf hZ e103 Eq80
  obtain ⟨_, _, ⟨T105, L105, k105, n105⟩, -, X105, ⟨Lc105, hQ105, l105, y105, z105⟩, st105⟩ := X103.virtualBack hx (y := (⟨"com/example/vedette/vedette/definition/SubfieldDefinition", "repeatable", "()Z"⟩ : MethodName)) (z := (⟨"com/example/vedette/vedette/definition/SubfieldDefinition", "repeatable", "()Z"⟩ : MethodName)) hown (mvT hZ (oW hw 74 rfl)) (mvT hZ (oW hw 75 rfl)) (notFace_of_selects (args := #[]) (mvT hZ (oW hw 77 rfl))) (mvT hZ (oW hw 77 rfl)) (mvT hZ (oW hw 76 rfl)) (by decide) (backOf (W := 0) (rm_g_repeatable l Z a0 hw [] r80 b12 T80.heap n0 OL96 F2_80 hn12) hZ (oW hw 78 rfl) (oW hw 32 rfl) (by decide) (by decide)) q105a q105c (g := (mkF m 121 #[oI p1, oI p2, oI p3, oI (p1.toUInt32.toUInt16.toUInt32.toInt32), oI b12, oI b18, oR b24, oR b36, oR b53, oR r80] [ow r80])) rfl (by rw [hml]; rfl) (Steps.refl _) (argsL := []) (rest := []) (lenOf pd___Z rfl) rfl (by show 2 * 0 + _ ≤ _; exact Nat.le_of_eq rfl) (hb hby at_121) (fun _ _ => ⟨rfl, e103, (by decide : 5 + 0 ≤ _), (by decide : 18 + 0 ≤ _)⟩)
  dsimp only [Pt.U, Pt.locs, Pt.cells, Pt.slots] at X105 l105 y105 z105 st105 hQ105
  subst l105 y105 z105
  obtain ⟨rfl, N105q, e105⟩ := hQ105
  have N105 := Fr.app N103 N105q
  have pre106 : oL p e below T105 (mkF m 131 #[oI p1, oI p2, oI p3, oI (p1.toUInt32.toUInt16.toUInt32.toInt32), oI b12, oI b18, oR b24, oR b36, oR b53, oR r80] [ow r80]) s₁ (entryFrame m #[(.int p1), (.int p2), (.int p3)] maxLocals) := fun t k => pre104 t (by
    refine st105.trans ?_
    refine XS.iload X105.here hx rfl (hb hby at_124) rfl ?_
    refine XS.icmpNo X105.here hx rfl (hb hby at_126) rfl (teq (rfl : b12 = b12)).2 ?_
    show oS p e below T105 (mkF m 129 #[oI p1, oI p2, oI p3, oI (p1.toUInt32.toUInt16.toUInt32.toInt32), oI b12, oI b18, oR b24, oR b36, oR b53, oR r80] []) _
    refine XS.aload X105.here hx rfl (hb hby at_129) rfl rfl ?_
    exact k)
  obtain ⟨cq107, kq107, q107a, q107b, q107c⟩ := isOf hZ e105 Eq80
  obtain ⟨_, _, ⟨T107, L107, k107, n107⟩, -, X107, ⟨Lc107, hQ107, l107, y107, z107⟩, st107⟩ := X105.virtualBack hx (y := (⟨"com/example/vedette/vedette/definition/SubfieldDefinition", "mandatory", "()Z"⟩ : MethodName)) (z := (⟨"com/example/vedette/vedette/definition/SubfieldDefinition", "mandatory", "()Z"⟩ : MethodName)) hown (mvT hZ (oW hw 79 rfl)) (mvT hZ (oW hw 80 rfl)) (notFace_of_selects (args := #[]) (mvT hZ (oW hw 82 rfl))) (mvT hZ (oW hw 82 rfl)) (mvT hZ (oW hw 81 rfl)) (by decide) (backOf (W := 0) (rm_g_mandatory l Z a0 hw [] r80 (1 : Int32) T80.heap n0 OL96 F3_80 (by decide)) hZ (oW hw 83 rfl) (oW hw 32 rfl) (by decide) (by decide)) q107a q107c (g := (mkF m 131 #[oI p1, oI p2, oI p3, oI (p1.toUInt32.toUInt16.toUInt32.toInt32), oI b12, oI b18, oR b24, oR b36, oR b53, oR r80] [ow r80])) rfl (by rw [hml]; rfl) (Steps.refl _) (argsL := []) (rest := []) (lenOf pd___Z rfl) rfl (by show 2 * 0 + _ ≤ _; exact Nat.le_of_eq rfl) (hb hby at_131) (fun _ _ => ⟨rfl, e105, (by decide : 5 + 0 ≤ _), (by decide : 18 + 0 ≤ _)⟩)
  dsimp only [Pt.U, Pt.locs, Pt.cells, Pt.slots] at X107 l107 y107 z107 st107 hQ107
  subst l107 y107 z107
  obtain ⟨rfl, N107q, e107⟩ := hQ107
  have N107 := Fr.app N105 N107q
  have pre108 : oL p e below T107 (mkF m 139 #[oI p1, oI p2, oI p3, oI (p1.toUInt32.toUInt16.toUInt32.toInt32), oI b12, oI b18, oR b24, oR b36, oR b53, oR r80] [ow r80]) s₁ (entryFrame m #[(.int p1), (.int p2), (.int p3)] maxLocals) := fun t k => pre106 t (by
    refine st107.trans ?_
    refine XS.ifNo X107.here hx rfl (hb hby at_134) rfl ((if0 _ _).trans (feq (by decide : ¬ ((1 : Int32) = (0 : Int32)))).1) ?_
    refine XS.aload X107.here hx rfl (hb hby at_137) rfl rfl ?_
    show oS p e below T107 (mkF m 139 #[oI p1, oI p2, oI p3, oI (p1.toUInt32.toUInt16.toUInt32.toInt32), oI b12, oI b18, oR b24, oR b36, oR b53, oR r80] [ow r80]) _
    exact k)
  obtain ⟨cq109, kq109, q109a, q109b, q109c⟩ := isOf hZ e107 Eq80
  obtain ⟨_, _, ⟨T109, L109, k109, n109⟩, -, X109, ⟨Lc109, hQ109, l109, y109, z109⟩, st109⟩ := X107.virtualBack hx (y := (⟨"com/example/vedette/vedette/definition/SubfieldDefinition", "controlValue", "()Lcom/example/vedette/vedette/definition/ControlValueDefinition;"⟩ : MethodName)) (z := (⟨"com/example/vedette/vedette/definition/SubfieldDefinition", "controlValue", "()Lcom/example/vedette/vedette/definition/ControlValueDefinition;"⟩ : MethodName)) hown (mvT hZ (oW hw 84 rfl)) (mvT hZ (oW hw 85 rfl)) (notFace_of_selects (args := #[]) (mvT hZ (oW hw 87 rfl))) (mvT hZ (oW hw 87 rfl)) (mvT hZ (oW hw 86 rfl)) (by decide) (backOf (W := 0) (rm_g_controlValue l Z a0 hw [] r80 .null T80.heap n0 OL96 F4_80 rfl) hZ (oW hw 88 rfl) (oW hw 32 rfl) (by decide) (by decide)) q109a q109c (g := (mkF m 139 #[oI p1, oI p2, oI p3, oI (p1.toUInt32.toUInt16.toUInt32.toInt32), oI b12, oI b18, oR b24, oR b36, oR b53, oR r80] [ow r80])) rfl (by rw [hml]; rfl) (Steps.refl _) (argsL := []) (rest := []) (lenOf pd___Lcom_example_vedette_vedette_definition_ControlValueDefinition_ rfl) rfl (by show 2 * 0 + _ ≤ _; exact Nat.le_of_eq rfl) (hb hby at_139) (fun _ _ => ⟨rfl, e107, (by decide : 5 + 0 ≤ _), (by decide : 18 + 0 ≤ _)⟩)
  dsimp only [Pt.U, Pt.locs, Pt.cells, Pt.slots] at X109 l109 y109 z109 st109 hQ109
  subst l109 y109 z109
  obtain ⟨rfl, N109q, e109⟩ := hQ109
  have N109 := Fr.app N107 N109q
  have pre110 : oL p e below T109 (mkF m 147 #[oI p1, oI p2, oI p3, oI (p1.toUInt32.toUInt16.toUInt32.toInt32), oI b12, oI b18, oR b24, oR b36, oR b53, oR r80] [ow b53]) s₁ (entryFrame m #[(.int p1), (.int p2), (.int p3)] maxLocals) := fun t k => pre108 t (by
    refine st109.trans ?_
    refine XS.ifnonnullNo X109.here hx rfl (hb hby at_142) rfl ?_
    refine XS.aload X109.here hx rfl (hb hby at_145) rfl rfl ?_
    exact k)
  obtain ⟨cq111, kq111, q111a, q111b, q111c⟩ := isOf hZ e109 f90
  obtain ⟨_, _, ⟨T111, L111, k111, n111⟩, -, X111, ⟨Lc111, hQ111, l111, y111, z111⟩, st111⟩ := X109.virtualBack hx (y := (⟨"com/example/vedette/vedette/definition/SubfieldDefinition", "mandatory", "()Z"⟩ : MethodName)) (z := (⟨"com/example/vedette/vedette/definition/SubfieldDefinition", "mandatory", "()Z"⟩ : MethodName)) hown (mvT hZ (oW hw 79 rfl)) (mvT hZ (oW hw 80 rfl)) (notFace_of_selects (args := #[]) (mvT hZ (oW hw 82 rfl))) (mvT hZ (oW hw 82 rfl)) (mvT hZ (oW hw 81 rfl)) (by decide) (backOf (W := 0) (rm_g_mandatory l Z a0 hw [] b53 b18 T80.heap n0 OL96 f94 hn18) hZ (oW hw 83 rfl) (oW hw 32 rfl) (by decide) (by decide)) q111a q111c (g := (mkF m 147 #[oI p1, oI p2, oI p3, oI (p1.toUInt32.toUInt16.toUInt32.toInt32), oI b12, oI b18, oR b24, oR b36, oR b53, oR r80] [ow b53])) rfl (by rw [hml]; rfl) (Steps.refl _) (argsL := []) (rest := []) (lenOf pd___Z rfl) rfl (by show 2 * 0 + _ ≤ _; exact Nat.le_of_eq rfl) (hb hby at_147) (fun _ _ => ⟨rfl, e109, (by decide : 5 + 0 ≤ _), (by decide : 18 + 0 ≤ _)⟩)
  dsimp only [Pt.U, Pt.locs, Pt.cells, Pt.slots] at X111 l111 y111 z111 st111 hQ111
  subst l111 y111 z111
  obtain ⟨rfl, N111q, e111⟩ := hQ111
  have N111 := Fr.app N109 N111q
  have pre112 : oL p e below T111 (mkF m 157 #[oI p1, oI p2, oI p3, oI (p1.toUInt32.toUInt16.toUInt32.toInt32), oI b12, oI b18, oR b24, oR b36, oR b53, oR r80] [ow b53]) s₁ (entryFrame m #[(.int p1), (.int p2), (.int p3)] maxLocals) := fun t k => pre110 t (by
    refine st111.trans ?_
    show oS p e below T111 (mkF m 150 #[oI p1, oI p2, oI p3, oI (p1.toUInt32.toUInt16.toUInt32.toInt32), oI b12, oI b18, oR b24, oR b36, oR b53, oR r80] [oi b18]) _
    refine XS.iload X111.here hx rfl (hb hby at_150) rfl ?_
    refine XS.icmpNo X111.here hx rfl (hb hby at_152) rfl (teq (rfl : b18 = b18)).2 ?_
    refine XS.aload X111.here hx rfl (hb hby at_155) rfl rfl ?_
    exact k)
  obtain ⟨cq113, kq113, q113a, q113b, q113c⟩ := isOf hZ e111 f90
  obtain ⟨_, _, ⟨T113, L113, k113, n113⟩, -, X113, ⟨Lc113, hQ113, l113, y113, z113⟩, st113⟩ := X111.virtualBack hx (y := (⟨"com/example/vedette/vedette/definition/SubfieldDefinition", "repeatable", "()Z"⟩ : MethodName)) (z := (⟨"com/example/vedette/vedette/definition/SubfieldDefinition", "repeatable", "()Z"⟩ : MethodName)) hown (mvT hZ (oW hw 74 rfl)) (mvT hZ (oW hw 75 rfl)) (notFace_of_selects (args := #[]) (mvT hZ (oW hw 77 rfl))) (mvT hZ (oW hw 77 rfl)) (mvT hZ (oW hw 76 rfl)) (by decide) (backOf (W := 0) (rm_g_repeatable l Z a0 hw [] b53 b12 T80.heap n0 OL96 f93 hn12) hZ (oW hw 78 rfl) (oW hw 32 rfl) (by decide) (by decide)) q113a q113c (g := (mkF m 157 #[oI p1, oI p2, oI p3, oI (p1.toUInt32.toUInt16.toUInt32.toInt32), oI b12, oI b18, oR b24, oR b36, oR b53, oR r80] [ow b53])) rfl (by rw [hml]; rfl) (Steps.refl _) (argsL := []) (rest := []) (lenOf pd___Z rfl) rfl (by show 2 * 0 + _ ≤ _; exact Nat.le_of_eq rfl) (hb hby at_157) (fun _ _ => ⟨rfl, e111, (by decide : 5 + 0 ≤ _), (by decide : 18 + 0 ≤ _)⟩)
  dsimp only [Pt.U, Pt.locs, Pt.cells, Pt.slots] at X113 l113 y113 z113 st113 hQ113
  subst l113 y113 z113
  obtain ⟨rfl, N113q, e113⟩ := hQ113
  have N113 := Fr.app N111 N113q
  have pre114 : oL p e below T113 (mkF m 170 #[oI p1, oI p2, oI p3, oI (p1.toUInt32.toUInt16.toUInt32.toInt32), oI b12, oI b18, oR b24, oR b36, oR b53, oR r80] [oi 1]) s₁ (entryFrame m #[(.int p1), (.int p2), (.int p3)] maxLocals) := fun t k => pre112 t (by
    refine st113.trans ?_
    show oS p e below T113 (mkF m 160 #[oI p1, oI p2, oI p3, oI (p1.toUInt32.toUInt16.toUInt32.toInt32), oI b12, oI b18, oR b24, oR b36, oR b53, oR r80] [oi b12]) _
    refine XS.iload X113.here hx rfl (hb hby at_160) rfl ?_
    refine XS.icmpNo X113.here hx rfl (hb hby at_162) rfl (teq (rfl : b12 = b12)).2 ?_
    refine XS.iconst X113.here hx rfl (hb hby at_165) ?_
    refine XS.goto X113.here hx rfl (pc0 := 166) (pc' := 170) rfl (hb hby at_166) (by decide) (by decide) ?_
    show oS p e below T113 (mkF m 170 #[oI p1, oI p2, oI p3, oI (p1.toUInt32.toUInt16.toUInt32.toInt32), oI b12, oI b18, oR b24, oR b36, oR b53, oR r80] [oi 1]) _
    exact k)
  obtain ⟨fs, hr, hrun, hended, hW, hsame⟩ := X113.leave (v := some (.int (1 : Int32))) (fun h => by rw [Bd.returns] at h; cases h)
  refine ⟨_, _, pre114 _ ?_, hrun, hended, _, _, rfl, ?_, ⟨_, rfl⟩, hW, hsame.mono (by decide) (by decide)⟩
  ·
    show oS p e below T113 (mkF m 170 #[oI p1, oI p2, oI p3, oI (p1.toUInt32.toUInt16.toUInt32.toInt32), oI b12, oI b18, oR b24, oR b36, oR b53, oR r80] [oi 1]) _
    exact retN X113 hx (t := .boolean) Bd.returns (by simp) (hb hby at_170) hr
  ·
    show Q_rm0 Z p1 p2 p3 G1 h0 n0 _ T113.heap _
    rw [e113]
    exact ⟨rfl, N113⟩
set_option maxRecDepth 65536 in
set_option maxHeartbeats 40000000 in
theorem comes_1 {Post : Tables → Env → Array Value → State → Outcome → State → Prop} (hpost : ∀ tb e args s v u, (limb_1_1.after args s (.returned v) u = true ∧ limb_1_2.after args s (.returned v) u = true ∧ True) → FrameEnd s (.returned v) u (Jvm.fieldLocs frame_1_writes args s ++ Jvm.arrayLocs frame_1_arrays args s ++ Jvm.staticLocs frame_1_statics s) 24 128 → Post tb e args s (.returned v) u) :
    ArmFor flags0 classFile x code maxLocals ret World_1 tables_1 room_1 Calls_1 rest_1 Pre_1 Post := by
  intro l hfl _ _ p e ha hc hk s m args below hf hA hF happ hP
  obtain ⟨hcalls, hrest, hpre⟩ := hP
  obtain ⟨-, -, -, hnamed, -, -, -, hat⟩ := (Spec.applies_iff hf).mp happ
  obtain ⟨hg, hn⟩ := and_e (Cond.before_iff.mp (show (Jvm.Cond.and given_1 narrow_1).before args s = true from hpre))
  obtain ⟨hgl, hgr⟩ := and_e hg
  obtain ⟨hgrl, hgrr⟩ := and_e hgr
  obtain ⟨hgrrl, hgrrr⟩ := and_e hgrr
  obtain ⟨w0, w1, w2, rfl⟩ : ∃ w0 w1 w2 : Value, args = #[w0, w1, w2] := by
    have hs : args.size = 3 := by simpa [Cond.value, given_1] using hgl
    obtain ⟨L⟩ := args
    match L, hs with
    | [w0, w1, w2], _ => exact ⟨w0, w1, w2, rfl⟩
  have hw := fun d (hd : d ∈ tables_1) => atoms_spec (ws := Jvm.Cond.code x code maxLocals ret :: tables_1) hat d (List.mem_cons_of_mem _ hd)
  have hfit : Fit s := fun {y c} hc i hi => by
    obtain ⟨ha, rfl⟩ := Array.getElem?_eq_some_iff.mp hc
    have q := List.all_eq_true.mp ((Array.all_eq_true_iff_forall_mem.mp hF) _ (Array.getElem_mem ha)) i (List.mem_range.mpr hi)
    simpa [Array.getElem?_eq_getElem hi] using q
  obtain ⟨hsets, hown0⟩ := atoms_of _ (rest_1_c_eq ▸ (show rest_1_c.before _ s = true from hrest))
  have hr0 := Cond.before_iff.mp hown0
  obtain ⟨i0, ei0⟩ := is_v hgrl
  obtain rfl : w0 = (.int i0) := Option.some.inj ei0
  obtain ⟨i1, ei1⟩ := is_v hgrrl
  obtain rfl : w1 = (.int i1) := Option.some.inj ei1
  obtain ⟨i2, ei2⟩ := is_v hgrrr
  obtain rfl : w2 = (.int i2) := Option.some.inj ei2
  obtain ⟨G1, eG1⟩ := is_v (Cond.before_iff.mp (hsets _ (List.mem_of_getElem? (i := 1) rfl)))
  have O2 : Sta s s.heap "java/lang/String" "COMPACT_STRINGS" "Z" (.int G1) := Sta.start eG1 (Or.inl (hsets _ (List.mem_of_getElem? (i := 0) rfl)))
  have P5 : ¬ (G1 = (0 : Int32)) := gotF (Cond.eq_ints eG1 (Term.int_eval (0))) (not_v (Cond.before_iff.mp (hsets _ (List.mem_of_getElem? (i := 2) rfl))))
  obtain ⟨n, o, h1, h2, h3, _, L, rfl, ⟨rfl, N⟩, hq⟩ := rm0 l s _ hw tables_1 i0 i1 i2 G1 s.heap s.heap.size (Old.start s) O2 P5 p e ha hc hk s m _ below hf ((Spec.applies_iff_loose hf).mp happ).1 ⟨rfl, State.Warmed39.refl s, rfl⟩ trivial
  refine ⟨n, _, h1, h2, h3, hpost _ _ _ _ _ _ ⟨Cond.after_iff.mpr rfl, Cond.after_iff.mpr (eq_i res_at (Term.int_eval (1)) rfl), trivial⟩ ⟨hq.1, hq.2.1, (hq.2.2.sift fun y hy => Or.inr (N y hy)).mono (by decide) (by decide)⟩⟩
theorem main_1_1 : Claimed_1_1 := comes_1 fun _ _ _ _ _ _ h hF => ⟨h.1, hF⟩
theorem main_1_2 : Claimed_1_2 := comes_1 fun _ _ _ _ _ _ h hF => ⟨h.2.1, hF⟩
end Jvm.Pilot.@@N@@
namespace Jvm.Pilot.@@N@@
open Jvm Jvm.ClassFile Sem Op Lib Jvm.Free Jvm.Stand Jvm.Pilot.@@N@@.Jvm.D
/-! MADE BY PROGRAM (witnessworld.py) out of the Statement's table words and the real class files: 21 classes; the members and pool entries that the words name. The judged class is class 1, her method 1. -/
namespace start1
open Jvm.ClassFile
def u (s : String) : CpInfo := .utf8 (stringToUtf16 s)
/-- a pool by its gaps: so many unusable entries, then the entry; so many at the end -/
def gap : Nat → List CpInfo → List CpInfo
  | 0, r => r
  | n + 1, r => .unusable :: gap n r
def poolList (es : List (Nat × CpInfo)) (last : Nat) : List CpInfo := es.foldr (fun e r => gap e.1 (e.2 :: r)) (gap last [])
def pool (es : List (Nat × CpInfo)) (last : Nat) : Array CpInfo := ⟨poolList es last⟩
def fileOf (pool : Array CpInfo) (this : Nat) (attrs : Array Attribute := #[]) (ms : Array MethodInfo := #[]) (fl : Nat := 33) (sup : Nat := 0) (ifs : Array Nat := #[]) (fds : Array FieldInfo := #[]) : ClassFile where
  minorVersion := 0
  majorVersion := 65
  constantPool := pool
  accessFlags := fl
  thisClass := this
  superClass := sup
  interfaces := ifs
  fields := fds
  methods := ms
  attributes := attrs
def plain (name : String) (sup : Option ClassId) : Class where
  name := name
  kind := .ordinary
  loader := none
  accessFlags := 33
  super := sup
  interfaces := #[]
  cf := none
  fields := #[]
  methods := #[]
  instanceTypes := #[]
  staticTypes := #[]
  resolved := #[]
  callSites := []
  init := .initialized
  statics := none
  mirror := none

def pool0 : Array CpInfo := pool [(5, u "<init>"), (0, u "()V"), (1, .class_ 10), (1, u "java/lang/Object")] 113

def k0c0 : Code := { maxStack := 0, maxLocals := 1, code := object_method_1_code, exceptionTable := #[], attributes := #[] }
def k0m0 : Method := { name := "<init>", desc := "()V", sig := { parameters := [], returnType := none }, accessFlags := 1, code := some k0c0 }
/-- java/lang/Object -/
def k0 : Class := { plain "java/lang/Object" none with
  accessFlags := 33
  interfaces := #[]
  cf := some (fileOf pool0 8 #[] #[{ accessFlags := 1, nameIndex := 5, descriptorIndex := 6, attributes := #[] }] 33 0 #[] #[])
  fields := #[]
  methods := #[k0m0]
  instanceTypes := #[]
  staticTypes := #[]
  resolved := Array.replicate 124 none
  statics := none }

def pool1 : Array CpInfo := pool [(2, .class_ 4), (1, u "java/lang/Object"), (0, u "<init>"), (0, u "()V"), (0, .class_ 8), (0, u "java/lang/String"), (0, .methodref 7 10), (0, .nameAndType 5 11), (0, u "([C)V"), (0, .class_ 13), (0, u "com/example/vedette/vedette/definition/SubfieldDefinition"), (0, .methodref 12 15), (0, .nameAndType 5 16), (0, u "(CLjava/lang/String;ZZLcom/example/vedette/vedette/definition/ControlValueDefinition;)V"), (0, .methodref 12 18), (0, .nameAndType 19 20), (0, u "asMandatory"), (0, u "()Lcom/example/vedette/vedette/definition/SubfieldDefinition;"), (0, .methodref 12 22), (0, .nameAndType 23 24), (0, u "code"), (0, u "()C"), (0, .methodref 12 26), (0, .nameAndType 27 28), (0, u "name"), (0, u "()Ljava/lang/String;"), (0, .methodref 7 30), (0, .nameAndType 31 32), (0, u "equals"), (0, u "(Ljava/lang/Object;)Z"), (0, .methodref 12 34), (0, .nameAndType 35 36), (0, u "repeatable"), (0, u "()Z"), (0, .methodref 12 38), (0, .nameAndType 39 36), (0, u "mandatory"), (0, .methodref 12 41), (0, .nameAndType 42 43), (0, u "controlValue"), (0, u "()Lcom/example/vedette/vedette/definition/ControlValueDefinition;"), (0, .class_ 45), (0, u "com/example/vedette/vedette/definition/SubfieldDefinitionAsMandatoryPinLaw"), (2, u "law"), (0, u "(III)Z")] 5

def k1m0 : Method := { name := "<init>", desc := "()V", sig := { parameters := [], returnType := none }, accessFlags := 2, code := none }
def k1c1 : Code := { maxStack := 7, maxLocals := 10, code := code, exceptionTable := #[], attributes := #[] }
def k1m1 : Method := { name := "law", desc := "(III)Z", sig := { parameters := [.int, .int, .int], returnType := some .boolean }, accessFlags := 9, code := some k1c1 }
/-- com/example/vedette/vedette/definition/SubfieldDefinitionAsMandatoryPinLaw -/
def k1 : Class := { plain "com/example/vedette/vedette/definition/SubfieldDefinitionAsMandatoryPinLaw" (some 0) with
  accessFlags := 49
  interfaces := #[]
  cf := some (fileOf pool1 44 #[] #[{ accessFlags := 2, nameIndex := 5, descriptorIndex := 6, attributes := #[] }, { accessFlags := 9, nameIndex := 48, descriptorIndex := 49, attributes := #[] }] 49 2 #[] #[])
  fields := #[]
  methods := #[k1m0, k1m1]
  instanceTypes := #[]
  staticTypes := #[]
  resolved := Array.replicate 55 none
  statics := none }

def pool2 : Array CpInfo := pool [(1, .class_ 2), (0, u "java/io/Serializable"), (0, .class_ 4), (0, u "java/lang/Object")] 2

/-- java/io/Serializable -/
def k2 : Class := { plain "java/io/Serializable" (some 0) with
  accessFlags := 1537
  interfaces := #[]
  cf := some (fileOf pool2 1 #[] #[] 1537 3 #[] #[])
  fields := #[]
  methods := #[]
  instanceTypes := #[]
  staticTypes := #[]
  resolved := Array.replicate 7 none
  statics := none }

def pool3 : Array CpInfo := pool [(1, .class_ 2), (0, u "java/lang/Comparable"), (0, .class_ 4), (0, u "java/lang/Object")] 7

/-- java/lang/Comparable -/
def k3 : Class := { plain "java/lang/Comparable" (some 0) with
  accessFlags := 1537
  interfaces := #[]
  cf := some (fileOf pool3 1 #[] #[] 1537 3 #[] #[])
  fields := #[]
  methods := #[]
  instanceTypes := #[]
  staticTypes := #[]
  resolved := Array.replicate 12 none
  statics := none }

def pool4 : Array CpInfo := pool [(2, .class_ 4), (1, u "java/lang/CharSequence"), (42, .class_ 48), (0, u "java/lang/CharSequence$1CodePointIterator"), (10, .class_ 60), (0, u "java/lang/CharSequence$1CharIterator"), (5, .class_ 67), (0, u "java/lang/Object")] 63

/-- java/lang/CharSequence -/
def k4 : Class := { plain "java/lang/CharSequence" (some 0) with
  accessFlags := 1537
  interfaces := #[]
  cf := some (fileOf pool4 2 #[.nestMembers #[47, 59]] #[] 1537 66 #[] #[])
  fields := #[]
  methods := #[]
  instanceTypes := #[]
  staticTypes := #[]
  resolved := Array.replicate 131 none
  statics := none }

def pool5 : Array CpInfo := pool [(1, .class_ 2), (0, u "java/lang/constant/Constable"), (0, .class_ 4), (0, u "java/lang/Object")] 6

/-- java/lang/constant/Constable -/
def k5 : Class := { plain "java/lang/constant/Constable" (some 0) with
  accessFlags := 1537
  interfaces := #[]
  cf := some (fileOf pool5 1 #[] #[] 1537 3 #[] #[])
  fields := #[]
  methods := #[]
  instanceTypes := #[]
  staticTypes := #[]
  resolved := Array.replicate 11 none
  statics := none }

def pool6 : Array CpInfo := pool [(1, .class_ 2), (0, u "java/lang/constant/ConstantDesc"), (0, .class_ 4), (0, u "java/lang/Object")] 32

/-- java/lang/constant/ConstantDesc -/
def k6 : Class := { plain "java/lang/constant/ConstantDesc" (some 0) with
  accessFlags := 1537
  interfaces := #[]
  cf := some (fileOf pool6 1 #[] #[] 1537 3 #[] #[])
  fields := #[]
  methods := #[]
  instanceTypes := #[]
  staticTypes := #[]
  resolved := Array.replicate 37 none
  statics := none }

def pool7 : Array CpInfo := pool [(1, .methodref 2 3), (0, .class_ 4), (0, .nameAndType 5 6), (0, u "java/lang/Object"), (0, u "<init>"), (0, u "()V"), (2, .fieldref 10 11), (0, .class_ 12), (0, .nameAndType 13 14), (0, u "java/lang/String"), (0, u "value"), (0, u "[B"), (0, .fieldref 10 16), (0, .nameAndType 17 18), (0, u "coder"), (0, u "B"), (2, u "hash"), (0, u "I"), (2, u "hashIsZero"), (0, u "Z"), (0, .methodref 10 28), (0, .nameAndType 5 29), (0, u "([CIILjava/lang/Void;)V"), (8, .fieldref 10 39), (0, .nameAndType 40 26), (0, u "COMPACT_STRINGS"), (1, .class_ 44), (1, u "java/lang/StringUTF16"), (0, u "compress"), (1, .methodref 42 48), (0, .nameAndType 49 50), (0, u "coderFromArrayLen"), (0, u "([BI)B"), (126, .methodref 42 178), (0, .nameAndType 45 179), (0, u "([CII)[B"), (363, u "equals"), (29, u "(Ljava/lang/Object;)Z"), (1, .class_ 576), (0, u "java/lang/CharSequence"), (22, u "CASE_INSENSITIVE_ORDER"), (0, u "Ljava/util/Comparator;"), (409, u "([C)V"), (90, u "serialPersistentFields"), (0, u "[Ljava/io/ObjectStreamField;"), (0, .class_ 1104), (0, u "java/lang/String$CaseInsensitiveComparator"), (1, .class_ 1107), (0, u "java/io/Serializable"), (0, .class_ 1109), (0, u "java/lang/Comparable"), (0, .class_ 1111), (0, u "java/lang/constant/Constable"), (0, .class_ 1113), (0, u "java/lang/constant/ConstantDesc"), (2, u "serialVersionUID"), (0, u "J"), (3, u "REPL"), (0, u "C"), (2, u "LATIN1"), (1, u "UTF16")] 323

def k7m0 : Method := { name := "<init>", desc := "()V", sig := { parameters := [], returnType := none }, accessFlags := 1, code := none }
def k7c1 : Code := { maxStack := 5, maxLocals := 2, code := jdk_42_method_3_code, exceptionTable := #[], attributes := #[] }
def k7m1 : Method := { name := "<init>", desc := "([C)V", sig := { parameters := [(.array .char)], returnType := none }, accessFlags := 1, code := some k7c1 }
def k7c2 : Code := { maxStack := 2, maxLocals := 3, code := jdk_42_method_66_code, exceptionTable := #[], attributes := #[] }
def k7m2 : Method := { name := "equals", desc := "(Ljava/lang/Object;)Z", sig := { parameters := [(.object "java/lang/Object")], returnType := some .boolean }, accessFlags := 1, code := some k7c2 }
def k7c3 : Code := { maxStack := 4, maxLocals := 6, code := jdk_42_method_149_code, exceptionTable := #[], attributes := #[] }
def k7m3 : Method := { name := "<init>", desc := "([CIILjava/lang/Void;)V", sig := { parameters := [(.array .char), .int, .int, (.object "java/lang/Void")], returnType := none }, accessFlags := 2, code := some k7c3 }
/-- java/lang/String -/
def k7 : Class := { plain "java/lang/String" (some 0) with
  accessFlags := 49
  interfaces := #[2, 3, 4, 5, 6]
  cf := some (fileOf pool7 10 #[.nestMembers #[1103]] #[{ accessFlags := 1, nameIndex := 5, descriptorIndex := 6, attributes := #[] }, { accessFlags := 1, nameIndex := 5, descriptorIndex := 1010, attributes := #[] }, { accessFlags := 1, nameIndex := 543, descriptorIndex := 573, attributes := #[] }, { accessFlags := 2, nameIndex := 5, descriptorIndex := 29, attributes := #[] }] 49 2 #[1106, 1108, 575, 1110, 1112] #[{ accessFlags := 18, nameIndex := 13, descriptorIndex := 14, attributes := #[] }, { accessFlags := 18, nameIndex := 17, descriptorIndex := 18, attributes := #[] }, { accessFlags := 2, nameIndex := 21, descriptorIndex := 22, attributes := #[] }, { accessFlags := 2, nameIndex := 25, descriptorIndex := 26, attributes := #[] }, { accessFlags := 26, nameIndex := 1116, descriptorIndex := 1117, attributes := #[] }, { accessFlags := 24, nameIndex := 40, descriptorIndex := 26, attributes := #[] }, { accessFlags := 26, nameIndex := 1101, descriptorIndex := 1102, attributes := #[] }, { accessFlags := 26, nameIndex := 1121, descriptorIndex := 1122, attributes := #[] }, { accessFlags := 25, nameIndex := 599, descriptorIndex := 600, attributes := #[] }, { accessFlags := 24, nameIndex := 1125, descriptorIndex := 18, attributes := #[] }, { accessFlags := 24, nameIndex := 1127, descriptorIndex := 18, attributes := #[] }])
  fields := #[{ name := "value", type := (.array .byte), accessFlags := 18, slot := 0, constantValue := 0 }, { name := "coder", type := .byte, accessFlags := 18, slot := 1, constantValue := 0 }, { name := "hash", type := .int, accessFlags := 2, slot := 2, constantValue := 0 }, { name := "hashIsZero", type := .boolean, accessFlags := 2, slot := 3, constantValue := 0 }, { name := "serialVersionUID", type := .long, accessFlags := 26, slot := 0, constantValue := 0 }, { name := "COMPACT_STRINGS", type := .boolean, accessFlags := 24, slot := 1, constantValue := 0 }, { name := "serialPersistentFields", type := (.array (.object "java/io/ObjectStreamField")), accessFlags := 26, slot := 2, constantValue := 0 }, { name := "REPL", type := .char, accessFlags := 26, slot := 3, constantValue := 0 }, { name := "CASE_INSENSITIVE_ORDER", type := (.object "java/util/Comparator"), accessFlags := 25, slot := 4, constantValue := 0 }, { name := "LATIN1", type := .byte, accessFlags := 24, slot := 5, constantValue := 0 }, { name := "UTF16", type := .byte, accessFlags := 24, slot := 6, constantValue := 0 }]
  methods := #[k7m0, k7m1, k7m2, k7m3]
  instanceTypes := #[(.array .byte), .byte, .int, .boolean]
  staticTypes := #[.long, .boolean, (.array (.object "java/io/ObjectStreamField")), .char, (.object "java/util/Comparator"), .byte, .byte]
  resolved := Array.replicate 1451 none
  statics := some 0 }

def pool8 : Array CpInfo := pool [(6, .class_ 8), (1, u "java/lang/Object"), (0, u "<init>"), (0, u "()V"), (1, .class_ 14), (1, u "java/lang/StringUTF16"), (31, u "$assertionsDisabled"), (0, u "Z"), (13, u "HI_BYTE_SHIFT"), (0, u "I"), (2, u "LO_BYTE_SHIFT"), (49, .methodref 12 116), (0, .nameAndType 117 118), (0, u "compress"), (0, u "([CI[BII)I"), (3, u "([CII)[B"), (138, u "coderFromArrayLen"), (0, u "([BI)B"), (106, .class_ 371), (1, u "java/lang/StringUTF16$LinesSpliterator"), (58, u "MAX_LENGTH"), (196, .class_ 628), (0, u "java/lang/StringUTF16$CodePointsSpliterator"), (0, .class_ 630), (0, u "java/lang/StringUTF16$CharsSpliterator")] 4

def k8m0 : Method := { name := "<init>", desc := "()V", sig := { parameters := [], returnType := none }, accessFlags := 0, code := none }
def k8c1 : Code := { maxStack := 2, maxLocals := 2, code := jdk_52_method_15_code, exceptionTable := #[], attributes := #[] }
def k8m1 : Method := { name := "coderFromArrayLen", desc := "([BI)B", sig := { parameters := [(.array .byte), .int], returnType := some .byte }, accessFlags := 8, code := some k8c1 }
def k8c2 : Code := { maxStack := 5, maxLocals := 6, code := jdk_52_method_16_code, exceptionTable := #[], attributes := #[] }
def k8m2 : Method := { name := "compress", desc := "([CII)[B", sig := { parameters := [(.array .char), .int, .int], returnType := some (.array .byte) }, accessFlags := 9, code := some k8c2 }
def k8c3 : Code := { maxStack := 3, maxLocals := 7, code := jdk_52_method_21_code, exceptionTable := #[], attributes := #[] }
def k8m3 : Method := { name := "compress", desc := "([CI[BII)I", sig := { parameters := [(.array .char), .int, (.array .byte), .int, .int], returnType := some .int }, accessFlags := 9, code := some k8c3 }
/-- java/lang/StringUTF16 -/
def k8 : Class := { plain "java/lang/StringUTF16" (some 0) with
  accessFlags := 48
  interfaces := #[]
  cf := some (fileOf pool8 12 #[.nestMembers #[627, 629, 369]] #[{ accessFlags := 0, nameIndex := 9, descriptorIndex := 10, attributes := #[] }, { accessFlags := 8, nameIndex := 261, descriptorIndex := 262, attributes := #[] }, { accessFlags := 9, nameIndex := 117, descriptorIndex := 122, attributes := #[] }, { accessFlags := 9, nameIndex := 117, descriptorIndex := 118, attributes := #[] }] 48 6 #[] #[{ accessFlags := 26, nameIndex := 61, descriptorIndex := 62, attributes := #[] }, { accessFlags := 26, nameIndex := 65, descriptorIndex := 62, attributes := #[] }, { accessFlags := 24, nameIndex := 430, descriptorIndex := 62, attributes := #[] }, { accessFlags := 4120, nameIndex := 46, descriptorIndex := 47, attributes := #[] }])
  fields := #[{ name := "HI_BYTE_SHIFT", type := .int, accessFlags := 26, slot := 0, constantValue := 0 }, { name := "LO_BYTE_SHIFT", type := .int, accessFlags := 26, slot := 1, constantValue := 0 }, { name := "MAX_LENGTH", type := .int, accessFlags := 24, slot := 2, constantValue := 0 }, { name := "$assertionsDisabled", type := .boolean, accessFlags := 4120, slot := 3, constantValue := 0 }]
  methods := #[k8m0, k8m1, k8m2, k8m3]
  instanceTypes := #[]
  staticTypes := #[.int, .int, .int, .boolean]
  resolved := Array.replicate 635 none
  statics := none }

def pool9 : Array CpInfo := pool [(1, .methodref 2 3), (0, .class_ 4), (0, .nameAndType 5 6), (0, u "java/lang/Object"), (0, u "<init>"), (0, u "()V"), (0, .class_ 8), (0, u "java/lang/Record")] 13

def k9c0 : Code := { maxStack := 1, maxLocals := 1, code := jdk_30_method_1_code, exceptionTable := #[], attributes := #[] }
def k9m0 : Method := { name := "<init>", desc := "()V", sig := { parameters := [], returnType := none }, accessFlags := 4, code := some k9c0 }
/-- java/lang/Record -/
def k9 : Class := { plain "java/lang/Record" (some 0) with
  accessFlags := 1057
  interfaces := #[]
  cf := some (fileOf pool9 7 #[] #[{ accessFlags := 4, nameIndex := 5, descriptorIndex := 6, attributes := #[] }] 1057 2 #[] #[])
  fields := #[]
  methods := #[k9m0]
  instanceTypes := #[]
  staticTypes := #[]
  resolved := Array.replicate 22 none
  statics := none }

def pool10 : Array CpInfo := pool [(1, .methodref 2 3), (0, .class_ 4), (0, .nameAndType 5 6), (0, u "java/lang/Record"), (0, u "<init>"), (0, u "()V"), (0, .fieldref 8 9), (0, .class_ 10), (0, .nameAndType 11 12), (0, u "com/example/vedette/vedette/definition/SubfieldDefinition"), (0, u "code"), (0, u "C"), (0, .fieldref 8 14), (0, .nameAndType 15 16), (0, u "name"), (0, u "Ljava/lang/String;"), (0, .fieldref 8 18), (0, .nameAndType 19 20), (0, u "repeatable"), (0, u "Z"), (0, .fieldref 8 22), (0, .nameAndType 23 20), (0, u "mandatory"), (0, .fieldref 8 25), (0, .nameAndType 26 27), (0, u "controlValue"), (0, u "Lcom/example/vedette/vedette/definition/ControlValueDefinition;"), (0, .methodref 8 29), (0, .nameAndType 5 30), (0, u "(CLjava/lang/String;ZZLcom/example/vedette/vedette/definition/ControlValueDefinition;)V"), (18, u "asMandatory"), (0, u "()Lcom/example/vedette/vedette/definition/SubfieldDefinition;"), (0, u "()Ljava/lang/String;"), (2, u "()C"), (0, u "()Z"), (0, u "()Lcom/example/vedette/vedette/definition/ControlValueDefinition;")] 24

def k10c0 : Code := { maxStack := 2, maxLocals := 6, code := prog_9_method_2_code, exceptionTable := #[], attributes := #[] }
def k10m0 : Method := { name := "<init>", desc := "(CLjava/lang/String;ZZLcom/example/vedette/vedette/definition/ControlValueDefinition;)V", sig := { parameters := [.char, (.object "java/lang/String"), .boolean, .boolean, (.object "com/example/vedette/vedette/definition/ControlValueDefinition")], returnType := none }, accessFlags := 1, code := some k10c0 }
def k10c1 : Code := { maxStack := 7, maxLocals := 1, code := prog_9_method_4_code, exceptionTable := #[], attributes := #[] }
def k10m1 : Method := { name := "asMandatory", desc := "()Lcom/example/vedette/vedette/definition/SubfieldDefinition;", sig := { parameters := [], returnType := some (.object "com/example/vedette/vedette/definition/SubfieldDefinition") }, accessFlags := 0, code := some k10c1 }
def k10c2 : Code := { maxStack := 1, maxLocals := 1, code := prog_9_method_8_code, exceptionTable := #[], attributes := #[] }
def k10m2 : Method := { name := "code", desc := "()C", sig := { parameters := [], returnType := some .char }, accessFlags := 1, code := some k10c2 }
def k10c3 : Code := { maxStack := 1, maxLocals := 1, code := prog_9_method_9_code, exceptionTable := #[], attributes := #[] }
def k10m3 : Method := { name := "name", desc := "()Ljava/lang/String;", sig := { parameters := [], returnType := some (.object "java/lang/String") }, accessFlags := 1, code := some k10c3 }
def k10c4 : Code := { maxStack := 1, maxLocals := 1, code := prog_9_method_10_code, exceptionTable := #[], attributes := #[] }
def k10m4 : Method := { name := "repeatable", desc := "()Z", sig := { parameters := [], returnType := some .boolean }, accessFlags := 1, code := some k10c4 }
def k10c5 : Code := { maxStack := 1, maxLocals := 1, code := prog_9_method_11_code, exceptionTable := #[], attributes := #[] }
def k10m5 : Method := { name := "mandatory", desc := "()Z", sig := { parameters := [], returnType := some .boolean }, accessFlags := 1, code := some k10c5 }
def k10c6 : Code := { maxStack := 1, maxLocals := 1, code := prog_9_method_12_code, exceptionTable := #[], attributes := #[] }
def k10m6 : Method := { name := "controlValue", desc := "()Lcom/example/vedette/vedette/definition/ControlValueDefinition;", sig := { parameters := [], returnType := some (.object "com/example/vedette/vedette/definition/ControlValueDefinition") }, accessFlags := 1, code := some k10c6 }
/-- com/example/vedette/vedette/definition/SubfieldDefinition -/
def k10 : Class := { plain "com/example/vedette/vedette/definition/SubfieldDefinition" (some 9) with
  accessFlags := 49
  interfaces := #[]
  cf := some (fileOf pool10 8 #[] #[{ accessFlags := 1, nameIndex := 5, descriptorIndex := 30, attributes := #[] }, { accessFlags := 0, nameIndex := 49, descriptorIndex := 50, attributes := #[] }, { accessFlags := 1, nameIndex := 11, descriptorIndex := 54, attributes := #[] }, { accessFlags := 1, nameIndex := 15, descriptorIndex := 51, attributes := #[] }, { accessFlags := 1, nameIndex := 19, descriptorIndex := 55, attributes := #[] }, { accessFlags := 1, nameIndex := 23, descriptorIndex := 55, attributes := #[] }, { accessFlags := 1, nameIndex := 26, descriptorIndex := 56, attributes := #[] }] 49 2 #[] #[{ accessFlags := 18, nameIndex := 11, descriptorIndex := 12, attributes := #[] }, { accessFlags := 18, nameIndex := 15, descriptorIndex := 16, attributes := #[] }, { accessFlags := 18, nameIndex := 19, descriptorIndex := 20, attributes := #[] }, { accessFlags := 18, nameIndex := 23, descriptorIndex := 20, attributes := #[] }, { accessFlags := 18, nameIndex := 26, descriptorIndex := 27, attributes := #[] }])
  fields := #[{ name := "code", type := .char, accessFlags := 18, slot := 0, constantValue := 0 }, { name := "name", type := (.object "java/lang/String"), accessFlags := 18, slot := 1, constantValue := 0 }, { name := "repeatable", type := .boolean, accessFlags := 18, slot := 2, constantValue := 0 }, { name := "mandatory", type := .boolean, accessFlags := 18, slot := 3, constantValue := 0 }, { name := "controlValue", type := (.object "com/example/vedette/vedette/definition/ControlValueDefinition"), accessFlags := 18, slot := 4, constantValue := 0 }]
  methods := #[k10m0, k10m1, k10m2, k10m3, k10m4, k10m5, k10m6]
  instanceTypes := #[.char, (.object "java/lang/String"), .boolean, .boolean, (.object "com/example/vedette/vedette/definition/ControlValueDefinition")]
  staticTypes := #[]
  resolved := Array.replicate 81 none
  statics := none }

def pool11 : Array CpInfo := pool [(4, .class_ 6), (1, u "java/lang/Object"), (0, u "<init>"), (0, u "()V"), (5, .class_ 16), (1, u "java/lang/StringLatin1"), (104, u "$assertionsDisabled"), (0, u "Z"), (98, .class_ 223), (1, u "java/lang/StringLatin1$LinesSpliterator"), (166, .class_ 391), (0, u "java/lang/StringLatin1$CharsSpliterator")] 3

def k11m0 : Method := { name := "<init>", desc := "()V", sig := { parameters := [], returnType := none }, accessFlags := 0, code := none }
/-- java/lang/StringLatin1 -/
def k11 : Class := { plain "java/lang/StringLatin1" (some 0) with
  accessFlags := 48
  interfaces := #[]
  cf := some (fileOf pool11 14 #[.nestMembers #[390, 221]] #[{ accessFlags := 0, nameIndex := 7, descriptorIndex := 8, attributes := #[] }] 48 4 #[] #[{ accessFlags := 4120, nameIndex := 121, descriptorIndex := 122, attributes := #[] }])
  fields := #[{ name := "$assertionsDisabled", type := .boolean, accessFlags := 4120, slot := 0, constantValue := 0 }]
  methods := #[k11m0]
  instanceTypes := #[]
  staticTypes := #[.boolean]
  resolved := Array.replicate 395 none
  statics := none }

def pool12 : Array CpInfo := pool [(2, .class_ 4), (1, u "java/lang/Object"), (0, u "<init>"), (0, u "()V"), (17, .class_ 26), (1, u "jdk/internal/util/Preconditions"), (28, .class_ 56), (0, u "jdk/internal/util/Preconditions$4"), (57, .class_ 115), (0, u "jdk/internal/util/Preconditions$1"), (7, u "SIOOBE_FORMATTER"), (0, u "Ljava/util/function/BiFunction;"), (0, .class_ 126), (0, u "jdk/internal/util/Preconditions$2"), (3, u "AIOOBE_FORMATTER"), (0, .class_ 132), (0, u "jdk/internal/util/Preconditions$3"), (3, u "IOOBE_FORMATTER")] 57

def k12m0 : Method := { name := "<init>", desc := "()V", sig := { parameters := [], returnType := none }, accessFlags := 1, code := none }
/-- jdk/internal/util/Preconditions -/
def k12 : Class := { plain "jdk/internal/util/Preconditions" (some 0) with
  accessFlags := 33
  interfaces := #[]
  cf := some (fileOf pool12 24 #[.nestMembers #[55, 131, 125, 114]] #[{ accessFlags := 1, nameIndex := 5, descriptorIndex := 6, attributes := #[] }] 33 2 #[] #[{ accessFlags := 25, nameIndex := 123, descriptorIndex := 124, attributes := #[] }, { accessFlags := 25, nameIndex := 130, descriptorIndex := 124, attributes := #[] }, { accessFlags := 25, nameIndex := 136, descriptorIndex := 124, attributes := #[] }])
  fields := #[{ name := "SIOOBE_FORMATTER", type := (.object "java/util/function/BiFunction"), accessFlags := 25, slot := 0, constantValue := 0 }, { name := "AIOOBE_FORMATTER", type := (.object "java/util/function/BiFunction"), accessFlags := 25, slot := 1, constantValue := 0 }, { name := "IOOBE_FORMATTER", type := (.object "java/util/function/BiFunction"), accessFlags := 25, slot := 2, constantValue := 0 }]
  methods := #[k12m0]
  instanceTypes := #[]
  staticTypes := #[(.object "java/util/function/BiFunction"), (.object "java/util/function/BiFunction"), (.object "java/util/function/BiFunction")]
  resolved := Array.replicate 194 none
  statics := some 1 }

def pool13 : Array CpInfo := pool [(9, u "<init>"), (6, .class_ 18), (1, u "java/lang/Object"), (0, u "()V"), (1, .class_ 23), (1, u "jdk/internal/util/ArraysSupport"), (0, u "LOG2_ARRAY_LONG_INDEX_SCALE"), (0, u "I"), (2, u "U"), (0, u "Ljdk/internal/misc/Unsafe;"), (8, u "BIG_ENDIAN"), (0, u "Z"), (8, u "LOG2_BYTE_BIT_SIZE"), (4, u "LOG2_ARRAY_INT_INDEX_SCALE"), (54, u "JLA"), (0, u "Ljdk/internal/access/JavaLangAccess;"), (11, u "LOG2_ARRAY_BOOLEAN_INDEX_SCALE"), (9, u "LOG2_ARRAY_BYTE_INDEX_SCALE"), (5, u "LOG2_ARRAY_CHAR_INDEX_SCALE"), (5, u "LOG2_ARRAY_SHORT_INDEX_SCALE"), (18, u "LOG2_ARRAY_FLOAT_INDEX_SCALE"), (24, u "LOG2_ARRAY_DOUBLE_INDEX_SCALE"), (89, u "T_BOOLEAN"), (2, u "T_CHAR"), (1, u "T_FLOAT"), (1, u "T_DOUBLE"), (1, u "T_BYTE"), (1, u "T_SHORT"), (1, u "T_INT"), (1, u "T_LONG"), (1, u "SOFT_MAX_ARRAY_LENGTH")] 83

def k13m0 : Method := { name := "<init>", desc := "()V", sig := { parameters := [], returnType := none }, accessFlags := 2, code := none }
/-- jdk/internal/util/ArraysSupport -/
def k13 : Class := { plain "jdk/internal/util/ArraysSupport" (some 0) with
  accessFlags := 33
  interfaces := #[]
  cf := some (fileOf pool13 21 #[] #[{ accessFlags := 2, nameIndex := 9, descriptorIndex := 19, attributes := #[] }] 33 16 #[] #[{ accessFlags := 24, nameIndex := 28, descriptorIndex := 29, attributes := #[] }, { accessFlags := 26, nameIndex := 38, descriptorIndex := 39, attributes := #[] }, { accessFlags := 25, nameIndex := 121, descriptorIndex := 25, attributes := #[] }, { accessFlags := 25, nameIndex := 131, descriptorIndex := 25, attributes := #[] }, { accessFlags := 25, nameIndex := 137, descriptorIndex := 25, attributes := #[] }, { accessFlags := 25, nameIndex := 143, descriptorIndex := 25, attributes := #[] }, { accessFlags := 25, nameIndex := 53, descriptorIndex := 25, attributes := #[] }, { accessFlags := 25, nameIndex := 24, descriptorIndex := 25, attributes := #[] }, { accessFlags := 25, nameIndex := 162, descriptorIndex := 25, attributes := #[] }, { accessFlags := 25, nameIndex := 187, descriptorIndex := 25, attributes := #[] }, { accessFlags := 26, nameIndex := 48, descriptorIndex := 25, attributes := #[] }, { accessFlags := 25, nameIndex := 277, descriptorIndex := 25, attributes := #[] }, { accessFlags := 25, nameIndex := 280, descriptorIndex := 25, attributes := #[] }, { accessFlags := 25, nameIndex := 282, descriptorIndex := 25, attributes := #[] }, { accessFlags := 25, nameIndex := 284, descriptorIndex := 25, attributes := #[] }, { accessFlags := 25, nameIndex := 286, descriptorIndex := 25, attributes := #[] }, { accessFlags := 25, nameIndex := 288, descriptorIndex := 25, attributes := #[] }, { accessFlags := 25, nameIndex := 290, descriptorIndex := 25, attributes := #[] }, { accessFlags := 25, nameIndex := 292, descriptorIndex := 25, attributes := #[] }, { accessFlags := 26, nameIndex := 108, descriptorIndex := 109, attributes := #[] }, { accessFlags := 25, nameIndex := 294, descriptorIndex := 25, attributes := #[] }])
  fields := #[{ name := "U", type := (.object "jdk/internal/misc/Unsafe"), accessFlags := 24, slot := 0, constantValue := 0 }, { name := "BIG_ENDIAN", type := .boolean, accessFlags := 26, slot := 1, constantValue := 0 }, { name := "LOG2_ARRAY_BOOLEAN_INDEX_SCALE", type := .int, accessFlags := 25, slot := 2, constantValue := 0 }, { name := "LOG2_ARRAY_BYTE_INDEX_SCALE", type := .int, accessFlags := 25, slot := 3, constantValue := 0 }, { name := "LOG2_ARRAY_CHAR_INDEX_SCALE", type := .int, accessFlags := 25, slot := 4, constantValue := 0 }, { name := "LOG2_ARRAY_SHORT_INDEX_SCALE", type := .int, accessFlags := 25, slot := 5, constantValue := 0 }, { name := "LOG2_ARRAY_INT_INDEX_SCALE", type := .int, accessFlags := 25, slot := 6, constantValue := 0 }, { name := "LOG2_ARRAY_LONG_INDEX_SCALE", type := .int, accessFlags := 25, slot := 7, constantValue := 0 }, { name := "LOG2_ARRAY_FLOAT_INDEX_SCALE", type := .int, accessFlags := 25, slot := 8, constantValue := 0 }, { name := "LOG2_ARRAY_DOUBLE_INDEX_SCALE", type := .int, accessFlags := 25, slot := 9, constantValue := 0 }, { name := "LOG2_BYTE_BIT_SIZE", type := .int, accessFlags := 26, slot := 10, constantValue := 0 }, { name := "T_BOOLEAN", type := .int, accessFlags := 25, slot := 11, constantValue := 0 }, { name := "T_CHAR", type := .int, accessFlags := 25, slot := 12, constantValue := 0 }, { name := "T_FLOAT", type := .int, accessFlags := 25, slot := 13, constantValue := 0 }, { name := "T_DOUBLE", type := .int, accessFlags := 25, slot := 14, constantValue := 0 }, { name := "T_BYTE", type := .int, accessFlags := 25, slot := 15, constantValue := 0 }, { name := "T_SHORT", type := .int, accessFlags := 25, slot := 16, constantValue := 0 }, { name := "T_INT", type := .int, accessFlags := 25, slot := 17, constantValue := 0 }, { name := "T_LONG", type := .int, accessFlags := 25, slot := 18, constantValue := 0 }, { name := "JLA", type := (.object "jdk/internal/access/JavaLangAccess"), accessFlags := 26, slot := 19, constantValue := 0 }, { name := "SOFT_MAX_ARRAY_LENGTH", type := .int, accessFlags := 25, slot := 20, constantValue := 0 }]
  methods := #[k13m0]
  instanceTypes := #[]
  staticTypes := #[(.object "jdk/internal/misc/Unsafe"), .boolean, .int, .int, .int, .int, .int, .int, .int, .int, .int, .int, .int, .int, .int, .int, .int, .int, .int, (.object "jdk/internal/access/JavaLangAccess"), .int]
  resolved := Array.replicate 378 none
  statics := none }

def pool14 : Array CpInfo := pool [(1, u "java/lang/Cloneable"), (0, .class_ 1), (0, u "java/lang/Object"), (0, .class_ 3)] 3

/-- java/lang/Cloneable -/
def k14 : Class := { plain "java/lang/Cloneable" (some 0) with
  accessFlags := 1537
  interfaces := #[]
  cf := some (fileOf pool14 2 #[] #[] 1537 4 #[] #[])
  fields := #[]
  methods := #[]
  instanceTypes := #[]
  staticTypes := #[]
  resolved := Array.replicate 8 none
  statics := none }

/-- the primitive byte -/
def k15 : Class := { plain "byte" none with kind := .primitive 'B', accessFlags := 0x411 }
/-- [B -/
def k16 : Class := { plain "[B" (some 0) with kind := .array 15 .byte, interfaces := #[14, 2], accessFlags := 1041 }

/-- the primitive char -/
def k17 : Class := { plain "char" none with kind := .primitive 'C', accessFlags := 0x411 }
/-- [C -/
def k18 : Class := { plain "[C" (some 0) with kind := .array 17 .char, interfaces := #[14, 2], accessFlags := 1041 }

/-- the primitive int -/
def k19 : Class := { plain "int" none with kind := .primitive 'I', accessFlags := 0x411 }
/-- [I -/
def k20 : Class := { plain "[I" (some 0) with kind := .array 19 .int, interfaces := #[14, 2], accessFlags := 1041 }

def heap : Heap := #[{ cls := 7, slots := #[.long 0, .int 1, .null, .int 0, .null, .int 0, .int 0], vm := .statics 7 },
  { cls := 12, slots := #[.null, .null, .null], vm := .statics 12 }]
def classes : Array Class := #[k0, k1, k2, k3, k4, k5, k6, k7, k8, k9, k10, k11, k12, k13, k14, k15, k16, k17, k18, k19, k20]
def interned : List (Array UInt16 × Addr) := []
def slotsUsed : Nat := 10
def theMethod : MethodId := ⟨1, 1⟩
def args0 : Array Value := #[.int 65, .int 16961, .int 3]
def aboutOver (below : List Frame) : State where
  vm := { classes := classes, interned := interned.toArray }
  heap := heap
  slotsUsed := slotsUsed
  threads := #[{ frames := .invoking theMethod args0 :: below }]
def below0 : List Frame := [.native { method := ⟨0, 0⟩, args := #[] }]
def about1 : State := aboutOver below0
def p0 : Program := .bare "" "" ""
def e0 : Env := launch0.env 0 0 0
theorem w_frames : about1.frames = Frame.invoking theMethod args0 :: below0 := rfl
set_option maxRecDepth 65536 in
theorem w_args : argsFit about1.vm theMethod args0 = true := by decide +kernel
set_option maxRecDepth 65536 in
theorem w_heap : heapFits about1 = true := by decide +kernel
set_option maxRecDepth 65536 in
theorem w_runnable : about1.curStatus? = some .runnable := by decide +kernel
set_option maxRecDepth 65536 in
theorem w_alone : about1.alone = true := by decide +kernel
set_option maxRecDepth 65536 in
theorem w_named : about1.methodNamed? x = some theMethod := by decide +kernel
set_option maxRecDepth 65536 in
theorem w_hears : about1.hears theMethod below0 = true := by decide +kernel
set_option maxRecDepth 65536 in
theorem w_ripe : about1.ripe theMethod args0 below0 = true := by decide +kernel
theorem w_running : about1.status = .running := rfl
set_option maxRecDepth 65536 in
theorem w_room : about1.hasRoom e0.platform room_1 = true :=
  launch0.hasRoom_least _ room_1 (by decide +kernel) (by decide +kernel) (by decide +kernel) (by decide +kernel) (by decide +kernel) (by decide +kernel)
theorem allAtoms_all (ts : List Jvm.Cond) (a : Array Jvm.Value) (st : Jvm.State) : (allAtoms ts).before a st = ts.all (fun c => c.before a st) := by
  induction ts with
  | nil => rfl
  | cons c t ih =>
    show (Jvm.Cond.and c (allAtoms t)).before a st = _
    rw [Jvm.Cond.before_and, ih, List.all_cons]
def words1 : List Jvm.Cond := Jvm.Cond.code x code maxLocals ret :: tables_1
/-- a 'code' word, met by the world's own term for the bytes: nothing is compared byte by byte -/
theorem code_word {y : MethodName} {bytes : ByteArray} {mx : Nat} {rt : Option FieldType} {a : Array Value} {s : State} {m : MethodId} {meth : Method} {c : Code} (h1 : s.methodNamed? y = some m) (h2 : s.vm.method? m = some meth) (h3 : meth.code = some c) (h4 : c.code = bytes)
    (h5 : (c.maxLocals == mx && c.exceptionTable.isEmpty && decide (c.maxStack ≤ mostOperands) && decide (meth.sig.returnType = rt) && !meth.locks && decide (parseMethodDescriptor y.desc = some meth.sig)) = true) : (Jvm.Cond.code y bytes mx rt).before a s = true := by
  simp only [Bool.and_eq_true, beq_iff_eq, Bool.not_eq_true', decide_eq_true_eq] at h5
  obtain ⟨⟨⟨⟨⟨g1, g2⟩, g3⟩, g4⟩, g5⟩, g6⟩ := h5
  simp [Cond.before, Cond.holds, Cond.value, h1, h2, h3, h4, g1, g2, g3, g4, g5, g6]
def isCode : Jvm.Cond → Bool
  | .code _ _ _ _ => true
  | _ => false
theorem all_split {L : List Jvm.Cond} {P : Jvm.Cond → Bool} (h1 : L.all (fun c => isCode c || P c) = true) (h2 : ∀ c ∈ L.filter isCode, P c = true) : L.all P = true := by
  refine List.all_eq_true.mpr fun c hc => ?_
  have h := List.all_eq_true.mp h1 c hc
  rcases Bool.eq_false_or_eq_true (isCode c) with hi | hi
  · exact h2 c (List.mem_filter.mpr ⟨hc, hi⟩)
  · simpa [hi] using h
set_option maxRecDepth 65536 in
theorem w_c0 : (Jvm.Cond.code x code maxLocals ret).before args0 about1 = true := code_word (m := ⟨1, 1⟩) (meth := k1m1) (c := k1c1) (by decide +kernel) rfl rfl rfl (by decide +kernel)
set_option maxRecDepth 65536 in
theorem w_c1 : (Jvm.Cond.code ({ cls := "java/lang/String", name := "<init>", desc := "([C)V" } : Jvm.MethodName) jdk_42_method_3_code (2 : Nat) (Option.none : Option Jvm.ClassFile.FieldType)).before args0 about1 = true := code_word (m := ⟨7, 1⟩) (meth := k7m1) (c := k7c1) (by decide +kernel) rfl rfl rfl (by decide +kernel)
set_option maxRecDepth 65536 in
theorem w_c2 : (Jvm.Cond.code ({ cls := "java/lang/String", name := "<init>", desc := "([CIILjava/lang/Void;)V" } : Jvm.MethodName) jdk_42_method_149_code (6 : Nat) (Option.none : Option Jvm.ClassFile.FieldType)).before args0 about1 = true := code_word (m := ⟨7, 3⟩) (meth := k7m3) (c := k7c3) (by decide +kernel) rfl rfl rfl (by decide +kernel)
set_option maxRecDepth 65536 in
theorem w_c3 : (Jvm.Cond.code ({ cls := "java/lang/Object", name := "<init>", desc := "()V" } : Jvm.MethodName) object_method_1_code (1 : Nat) (Option.none : Option Jvm.ClassFile.FieldType)).before args0 about1 = true := code_word (m := ⟨0, 0⟩) (meth := k0m0) (c := k0c0) (by decide +kernel) rfl rfl rfl (by decide +kernel)
set_option maxRecDepth 65536 in
theorem w_c4 : (Jvm.Cond.code ({ cls := "java/lang/StringUTF16", name := "compress", desc := "([CII)[B" } : Jvm.MethodName) jdk_52_method_16_code (6 : Nat) (Option.some (Jvm.ClassFile.FieldType.array Jvm.ClassFile.FieldType.byte))).before args0 about1 = true := code_word (m := ⟨8, 2⟩) (meth := k8m2) (c := k8c2) (by decide +kernel) rfl rfl rfl (by decide +kernel)
set_option maxRecDepth 65536 in
theorem w_c5 : (Jvm.Cond.code ({ cls := "java/lang/StringUTF16", name := "compress", desc := "([CI[BII)I" } : Jvm.MethodName) jdk_52_method_21_code (7 : Nat) (Option.some Jvm.ClassFile.FieldType.int)).before args0 about1 = true := code_word (m := ⟨8, 3⟩) (meth := k8m3) (c := k8c3) (by decide +kernel) rfl rfl rfl (by decide +kernel)
set_option maxRecDepth 65536 in
theorem w_c6 : (Jvm.Cond.code ({ cls := "java/lang/StringUTF16", name := "coderFromArrayLen", desc := "([BI)B" } : Jvm.MethodName) jdk_52_method_15_code (2 : Nat) (Option.some Jvm.ClassFile.FieldType.byte)).before args0 about1 = true := code_word (m := ⟨8, 1⟩) (meth := k8m1) (c := k8c1) (by decide +kernel) rfl rfl rfl (by decide +kernel)
set_option maxRecDepth 65536 in
theorem w_c7 : (Jvm.Cond.code ({ cls := "com/example/vedette/vedette/definition/SubfieldDefinition", name := "<init>", desc := "(CLjava/lang/String;ZZLcom/example/vedette/vedette/definition/ControlValueDefinition;)V" } : Jvm.MethodName) prog_9_method_2_code (6 : Nat) (Option.none : Option Jvm.ClassFile.FieldType)).before args0 about1 = true := code_word (m := ⟨10, 0⟩) (meth := k10m0) (c := k10c0) (by decide +kernel) rfl rfl rfl (by decide +kernel)
set_option maxRecDepth 65536 in
theorem w_c8 : (Jvm.Cond.code ({ cls := "java/lang/Record", name := "<init>", desc := "()V" } : Jvm.MethodName) jdk_30_method_1_code (1 : Nat) (Option.none : Option Jvm.ClassFile.FieldType)).before args0 about1 = true := code_word (m := ⟨9, 0⟩) (meth := k9m0) (c := k9c0) (by decide +kernel) rfl rfl rfl (by decide +kernel)
set_option maxRecDepth 65536 in
theorem w_c9 : (Jvm.Cond.code ({ cls := "com/example/vedette/vedette/definition/SubfieldDefinition", name := "asMandatory", desc := "()Lcom/example/vedette/vedette/definition/SubfieldDefinition;" } : Jvm.MethodName) prog_9_method_4_code (1 : Nat) (Option.some (Jvm.ClassFile.FieldType.object "com/example/vedette/vedette/definition/SubfieldDefinition"))).before args0 about1 = true := code_word (m := ⟨10, 1⟩) (meth := k10m1) (c := k10c1) (by decide +kernel) rfl rfl rfl (by decide +kernel)
set_option maxRecDepth 65536 in
theorem w_c10 : (Jvm.Cond.code ({ cls := "com/example/vedette/vedette/definition/SubfieldDefinition", name := "code", desc := "()C" } : Jvm.MethodName) prog_9_method_8_code (1 : Nat) (Option.some Jvm.ClassFile.FieldType.char)).before args0 about1 = true := code_word (m := ⟨10, 2⟩) (meth := k10m2) (c := k10c2) (by decide +kernel) rfl rfl rfl (by decide +kernel)
set_option maxRecDepth 65536 in
theorem w_c11 : (Jvm.Cond.code ({ cls := "com/example/vedette/vedette/definition/SubfieldDefinition", name := "name", desc := "()Ljava/lang/String;" } : Jvm.MethodName) prog_9_method_9_code (1 : Nat) (Option.some (Jvm.ClassFile.FieldType.object "java/lang/String"))).before args0 about1 = true := code_word (m := ⟨10, 3⟩) (meth := k10m3) (c := k10c3) (by decide +kernel) rfl rfl rfl (by decide +kernel)
set_option maxRecDepth 65536 in
theorem w_c12 : (Jvm.Cond.code ({ cls := "java/lang/String", name := "equals", desc := "(Ljava/lang/Object;)Z" } : Jvm.MethodName) jdk_42_method_66_code (3 : Nat) (Option.some Jvm.ClassFile.FieldType.boolean)).before args0 about1 = true := code_word (m := ⟨7, 2⟩) (meth := k7m2) (c := k7c2) (by decide +kernel) rfl rfl rfl (by decide +kernel)
set_option maxRecDepth 65536 in
theorem w_c13 : (Jvm.Cond.code ({ cls := "com/example/vedette/vedette/definition/SubfieldDefinition", name := "repeatable", desc := "()Z" } : Jvm.MethodName) prog_9_method_10_code (1 : Nat) (Option.some Jvm.ClassFile.FieldType.boolean)).before args0 about1 = true := code_word (m := ⟨10, 4⟩) (meth := k10m4) (c := k10c4) (by decide +kernel) rfl rfl rfl (by decide +kernel)
set_option maxRecDepth 65536 in
theorem w_c14 : (Jvm.Cond.code ({ cls := "com/example/vedette/vedette/definition/SubfieldDefinition", name := "mandatory", desc := "()Z" } : Jvm.MethodName) prog_9_method_11_code (1 : Nat) (Option.some Jvm.ClassFile.FieldType.boolean)).before args0 about1 = true := code_word (m := ⟨10, 5⟩) (meth := k10m5) (c := k10c5) (by decide +kernel) rfl rfl rfl (by decide +kernel)
set_option maxRecDepth 65536 in
theorem w_c15 : (Jvm.Cond.code ({ cls := "com/example/vedette/vedette/definition/SubfieldDefinition", name := "controlValue", desc := "()Lcom/example/vedette/vedette/definition/ControlValueDefinition;" } : Jvm.MethodName) prog_9_method_12_code (1 : Nat) (Option.some (Jvm.ClassFile.FieldType.object "com/example/vedette/vedette/definition/ControlValueDefinition"))).before args0 about1 = true := code_word (m := ⟨10, 6⟩) (meth := k10m6) (c := k10c6) (by decide +kernel) rfl rfl rfl (by decide +kernel)
def codes1 : List Jvm.Cond := [Jvm.Cond.code x code maxLocals ret, Jvm.Cond.code ({ cls := "java/lang/String", name := "<init>", desc := "([C)V" } : Jvm.MethodName) jdk_42_method_3_code (2 : Nat) (Option.none : Option Jvm.ClassFile.FieldType), Jvm.Cond.code ({ cls := "java/lang/String", name := "<init>", desc := "([CIILjava/lang/Void;)V" } : Jvm.MethodName) jdk_42_method_149_code (6 : Nat) (Option.none : Option Jvm.ClassFile.FieldType), Jvm.Cond.code ({ cls := "java/lang/Object", name := "<init>", desc := "()V" } : Jvm.MethodName) object_method_1_code (1 : Nat) (Option.none : Option Jvm.ClassFile.FieldType), Jvm.Cond.code ({ cls := "java/lang/StringUTF16", name := "compress", desc := "([CII)[B" } : Jvm.MethodName) jdk_52_method_16_code (6 : Nat) (Option.some (Jvm.ClassFile.FieldType.array Jvm.ClassFile.FieldType.byte)), Jvm.Cond.code ({ cls := "java/lang/StringUTF16", name := "compress", desc := "([CI[BII)I" } : Jvm.MethodName) jdk_52_method_21_code (7 : Nat) (Option.some Jvm.ClassFile.FieldType.int), Jvm.Cond.code ({ cls := "java/lang/StringUTF16", name := "coderFromArrayLen", desc := "([BI)B" } : Jvm.MethodName) jdk_52_method_15_code (2 : Nat) (Option.some Jvm.ClassFile.FieldType.byte), Jvm.Cond.code ({ cls := "com/example/vedette/vedette/definition/SubfieldDefinition", name := "<init>", desc := "(CLjava/lang/String;ZZLcom/example/vedette/vedette/definition/ControlValueDefinition;)V" } : Jvm.MethodName) prog_9_method_2_code (6 : Nat) (Option.none : Option Jvm.ClassFile.FieldType), Jvm.Cond.code ({ cls := "java/lang/Record", name := "<init>", desc := "()V" } : Jvm.MethodName) jdk_30_method_1_code (1 : Nat) (Option.none : Option Jvm.ClassFile.FieldType), Jvm.Cond.code ({ cls := "com/example/vedette/vedette/definition/SubfieldDefinition", name := "asMandatory", desc := "()Lcom/example/vedette/vedette/definition/SubfieldDefinition;" } : Jvm.MethodName) prog_9_method_4_code (1 : Nat) (Option.some (Jvm.ClassFile.FieldType.object "com/example/vedette/vedette/definition/SubfieldDefinition")), Jvm.Cond.code ({ cls := "com/example/vedette/vedette/definition/SubfieldDefinition", name := "code", desc := "()C" } : Jvm.MethodName) prog_9_method_8_code (1 : Nat) (Option.some Jvm.ClassFile.FieldType.char), Jvm.Cond.code ({ cls := "com/example/vedette/vedette/definition/SubfieldDefinition", name := "name", desc := "()Ljava/lang/String;" } : Jvm.MethodName) prog_9_method_9_code (1 : Nat) (Option.some (Jvm.ClassFile.FieldType.object "java/lang/String")), Jvm.Cond.code ({ cls := "java/lang/String", name := "equals", desc := "(Ljava/lang/Object;)Z" } : Jvm.MethodName) jdk_42_method_66_code (3 : Nat) (Option.some Jvm.ClassFile.FieldType.boolean), Jvm.Cond.code ({ cls := "com/example/vedette/vedette/definition/SubfieldDefinition", name := "repeatable", desc := "()Z" } : Jvm.MethodName) prog_9_method_10_code (1 : Nat) (Option.some Jvm.ClassFile.FieldType.boolean), Jvm.Cond.code ({ cls := "com/example/vedette/vedette/definition/SubfieldDefinition", name := "mandatory", desc := "()Z" } : Jvm.MethodName) prog_9_method_11_code (1 : Nat) (Option.some Jvm.ClassFile.FieldType.boolean), Jvm.Cond.code ({ cls := "com/example/vedette/vedette/definition/SubfieldDefinition", name := "controlValue", desc := "()Lcom/example/vedette/vedette/definition/ControlValueDefinition;" } : Jvm.MethodName) prog_9_method_12_code (1 : Nat) (Option.some (Jvm.ClassFile.FieldType.object "com/example/vedette/vedette/definition/ControlValueDefinition"))]
set_option maxRecDepth 65536 in
theorem codes_eq : words1.filter isCode = codes1 := rfl
theorem w_codes : ∀ c ∈ words1.filter isCode, c.before args0 about1 = true := by
  rw [codes_eq]
  intro c hc
  simp only [codes1, List.mem_cons, List.not_mem_nil, or_false] at hc
  rcases hc with rfl | rfl | rfl | rfl | rfl | rfl | rfl | rfl | rfl | rfl | rfl | rfl | rfl | rfl | rfl | rfl
  · exact w_c0
  · exact w_c1
  · exact w_c2
  · exact w_c3
  · exact w_c4
  · exact w_c5
  · exact w_c6
  · exact w_c7
  · exact w_c8
  · exact w_c9
  · exact w_c10
  · exact w_c11
  · exact w_c12
  · exact w_c13
  · exact w_c14
  · exact w_c15
set_option maxRecDepth 65536 in
theorem w_t1 : (words1.take 24).all (fun c => isCode c || c.before args0 about1) = true := by decide +kernel
set_option maxRecDepth 65536 in
theorem w_t2 : ((words1.drop 24).take 24).all (fun c => isCode c || c.before args0 about1) = true := by decide +kernel
set_option maxRecDepth 65536 in
theorem w_t3 : (((words1.drop 24).drop 24).take 24).all (fun c => isCode c || c.before args0 about1) = true := by decide +kernel
set_option maxRecDepth 65536 in
theorem w_t4 : (((words1.drop 24).drop 24).drop 24).all (fun c => isCode c || c.before args0 about1) = true := by decide +kernel
theorem w_tables : (allAtoms (Jvm.Cond.code x code maxLocals ret :: tables_1)).before args0 about1 = true := by
  rw [allAtoms_all]
  show words1.all (fun c => c.before args0 about1) = true
  refine all_split ?_ w_codes
  rw [← List.take_append_drop 24 words1, List.all_append, w_t1, ← List.take_append_drop 24 (words1.drop 24), List.all_append, w_t2, ← List.take_append_drop 24 ((words1.drop 24).drop 24), List.all_append, w_t3, w_t4]
  rfl
set_option maxRecDepth 65536 in
theorem w_rest : rest_1_c.before args0 about1 = true := by decide +kernel
set_option maxRecDepth 65536 in
theorem w_case : (Jvm.Cond.and given_1 narrow_1).before args0 about1 = true := by decide +kernel
theorem w_applies : (headSpec (Jvm.Cond.code x code maxLocals ret :: tables_1) room_1).applies x e0.platform about1 = true :=
  (Spec.applies_iff w_frames).mpr ⟨w_running, w_runnable, w_alone, w_named, w_hears, w_ripe, w_room, w_tables⟩
theorem atStart : AtStart classFile x code maxLocals ret World_1 tables_1 room_1 Calls_1 rest_1 Pre_1 launch0 p0 e0 about1 theMethod args0 below0 :=
  ⟨lists_1, trivial, launch0.admits_env _ _ _, launch0.least_env, fairChoices_fair.cas, fairChoices_fair.clock, w_frames, w_args, w_heap, w_applies, trivial, w_rest, w_case⟩
end start1
theorem witness_1 : WitnessClaimed_1 := ⟨start1.p0, start1.e0, start1.about1, start1.theMethod, start1.args0, start1.below0, start1.atStart⟩
end Jvm.Pilot.@@N@@
