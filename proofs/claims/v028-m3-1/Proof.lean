import JvmDerived
import JvmDerived.Pilot.@@N@@Statement
import JvmDerived.Pilot.@@N@@Code
set_option linter.unusedVariables false
set_option linter.unusedSimpArgs false
namespace Jvm.RoadKit
open Sem ClassFile Op Lib Jvm.Stand Jvm.Free Jvm.LawKit
section New
variable {p : Program} {l : Launch} {e : Env} {R : Room} {s : State} {m : MethodId} {args : Array Value} {below : List Frame} {meth : Method} {c : Code} {T : State} {locs : List Loc} {cells slots : Nat}
theorem retI (X : Stand p l e R s m args below meth c T locs cells slots) (hx : p.tables.exec = Jvm.exec) {pc : Nat} {Ls : Array Slot} {z : Int32} {rest : List Value} (hret : meth.sig.returnType = some .int) (hd : decode c.code pc = .ok (.ireturn, 1)) {fs : List Frame}
    (hl : ∀ (f : JFrame) (acts : List Action), f.method = m → f.locked = none → f.entered = [] → (doReturn e (T.setTop f) acts (some (.int z))).1 = T.setFrames fs) : Steps p.tables e below (T.setTop (mkF m pc Ls (.int z :: rest))) (T.setFrames fs) := by
  have hm' : T.vm.method? m = some meth := X.method'
  have hn : narrow .int (.int z) = .int z := rfl
  show Steps p.tables e below (T.setTop { method := m, pc := pc, locals := Ls, stack := _ :: rest, locked := none }) _
  jvm_step X.here [X.here.top, hx, hd, hm', hret, hn]
  first | (intro acts; rw [hl _ acts rfl rfl rfl]) | rw [hl _ _ rfl rfl rfl]
  exact Steps.refl _
end New
end Jvm.RoadKit
/- laws to paste: Road.backV (cut by pick.py; bodies as the Statement names them) -/
namespace Jvm.Pilot.@@N@@
namespace StrChars
open Jvm Sem ClassFile Op Lib Jvm.Stand Jvm.Free.XT Jvm.Free.ALB Jvm.Free.JM Jvm.Free
open Jvm.Lib.Cold (StaticIs)
/-- a char array whose places are chars -/
def Ch (a : Addr) (A : Cell) (U : State) : Prop := Arr .char a A U ∧ Typed .char A
theorem Ch.mv {a : Addr} {A : Cell} {U U' : State} (h : Ch a A U) (hal : U.vm.Alike U'.vm) (hh : U'.heap = U.heap) : Ch a A U' := ⟨h.1.mv hal hh, h.2⟩
theorem Ch.keep {a : Addr} {A : Cell} {U U' : State} (h : Ch a A U) (hal : U.vm.Alike U'.vm) (hk : U'.heap[a]? = some A) : Ch a A U' := ⟨h.1.keep hal hk, h.2⟩
/-- what place i of a char[]'s cell holds -/
def cv (A : Cell) (i : Nat) : Int32 := match A.slots[i]? with | some (.int x) => x | _ => 0
theorem Ch.get {a : Addr} {A : Cell} {U : State} (h : Ch a A U) {i : Nat} (hi : i < A.slots.size) : A.slots[i]? = some (.int (cv A i)) := by
  have e := Array.getElem?_eq_getElem hi
  have f := h.2 i _ e
  unfold cv; rw [e]
  generalize A.slots[i] = v at f
  cases v <;> simp [fits] at f ⊢
/-- the byte that i2b leaves of a char -/
def lo8 (x : Int32) : Int32 := x.toInt8.toInt32
theorem fits_lo8 (y : Int32) : fits .byte (.int (lo8 y)) = true := by
  have h1 := y.toInt8.le_toInt
  have h2 := y.toInt8.toInt_lt
  simp only [lo8, fits, Bool.and_eq_true, decide_eq_true_eq, Int32.le_iff_toInt_le, Int8.toInt_toInt32, show (-128 : Int32).toInt = -128 from by decide, show (127 : Int32).toInt = 127 from by decide]
  omega
/-- A' is A but that each place j of lo .. hi - 1 holds f j -/
def Laid (A A' : Cell) (lo hi : Nat) (f : Nat → Value) : Prop := A'.cls = A.cls ∧ A'.vm = A.vm ∧ A'.slots.size = A.slots.size ∧ ∀ i, A'.slots[i]? = if lo ≤ i ∧ i < hi then some (f i) else A.slots[i]?
theorem Laid.zero (A : Cell) (lo : Nat) (f : Nat → Value) : Laid A A lo (lo + 0) f := ⟨rfl, rfl, rfl, fun i => by rw [if_neg (by omega)]⟩
theorem Laid.step {A Ak : Cell} {lo k : Nat} {f : Nat → Value} {v : Value} (h : Laid A Ak lo k f) (hlo : lo ≤ k) (hk : k < Ak.slots.size) (hv : v = f k) : Laid A (Ak.setSlot k v) lo (k + 1) f := by
  refine ⟨h.1, h.2.1, by simpa [Cell.setSlot] using h.2.2.1, fun i => ?_⟩
  by_cases e : k = i
  · subst e; rw [Cell.slots_setSlot_self v hk, if_pos (by omega), hv]
  · rw [Cell.slots_setSlot_ne v e, h.2.2.2 i]
    by_cases q : lo ≤ i ∧ i < k
    · rw [if_pos q, if_pos (by omega)]
    · rw [if_neg q, if_neg (by omega)]
def U16 : String := "java/lang/StringUTF16"
namespace Cmp5
def yN : MethodName := ⟨"java/lang/StringUTF16", "compress", "([CI[BII)I"⟩
abbrev yB : ByteArray := jdk_52_method_21_code
theorem d0 : decode yB 0 = .ok (.iconst 0, 1) := by decide +kernel
theorem d1 : decode yB 1 = .ok (.istore 5, 2) := by decide +kernel
theorem d3 : decode yB 3 = .ok (.iload 5, 2) := by decide +kernel
theorem d5 : decode yB 5 = .ok (.iload 4, 2) := by decide +kernel
theorem d7 : decode yB 7 = .ok (.if_icmp (.ge) 37, 3) := by decide +kernel
theorem d10 : decode yB 10 = .ok (.aload_n 0, 1) := by decide +kernel
theorem d11 : decode yB 11 = .ok (.iload_n 1, 1) := by decide +kernel
theorem d12 : decode yB 12 = .ok (.caload, 1) := by decide +kernel
theorem d13 : decode yB 13 = .ok (.istore 6, 2) := by decide +kernel
theorem d15 : decode yB 15 = .ok (.iload 6, 2) := by decide +kernel
theorem d17 : decode yB 17 = .ok (.sipush 255, 3) := by decide +kernel
theorem d20 : decode yB 20 = .ok (.if_icmp (.le) 6, 3) := by decide +kernel
theorem d26 : decode yB 26 = .ok (.aload_n 2, 1) := by decide +kernel
theorem d27 : decode yB 27 = .ok (.iload_n 3, 1) := by decide +kernel
theorem d28 : decode yB 28 = .ok (.iload 6, 2) := by decide +kernel
theorem d30 : decode yB 30 = .ok (.i2b, 1) := by decide +kernel
theorem d31 : decode yB 31 = .ok (.bastore, 1) := by decide +kernel
theorem d32 : decode yB 32 = .ok (.iinc 1 1, 3) := by decide +kernel
theorem d35 : decode yB 35 = .ok (.iinc 3 1, 3) := by decide +kernel
theorem d38 : decode yB 38 = .ok (.iinc 5 1, 3) := by decide +kernel
theorem d41 : decode yB 41 = .ok (.goto (-38), 3) := by decide +kernel
theorem d44 : decode yB 44 = .ok (.iload 4, 2) := by decide +kernel
theorem d46 : decode yB 46 = .ok (.ireturn, 1) := by decide +kernel
def site : List Cond := []
def tab : Cond := tabOf yN yB 7 (some .int) site
def P (b : Addr) (A : Cell) (d : Addr) (B : Cell) (o q len : Nat) (args : Array Value) (s : State) : Prop := args = #[.ref b, .int (Int32.ofNat o), .ref d, .int (Int32.ofNat q), .int (Int32.ofNat len)] ∧ Ch b A s ∧ Arr .byte d B s ∧ b ≠ d ∧ o + len ≤ A.slots.size ∧ q + len ≤ B.slots.size ∧ ∀ i, i < len → ¬ 255 < cv A (o + i)
def E (b : Addr) (A : Cell) (d : Addr) (B : Cell) (o q len : Nat) (r : Option Value) (s u : State) : Prop := r = some (.int (Int32.ofNat len)) ∧ ∃ B', Put d B' s u ∧ Laid B B' q (q + len) (fun j => Value.int (lo8 (cv A (o + (j - q)))))
/-- no char of the range above 255: len; the places written hold each char's low byte -/
theorem law (l : Launch) (b : Addr) (A : Cell) (d : Addr) (B : Cell) (o q len : Nat) : Law l yN 5 5 0 0 yB 7 (some .int) site (P b A d B o q len) (E b A d B o q len) (copyLocs d q len) 0 0 := by
  refine Law.of_walk (plainFor_of_name (by decide +kernel)) (by decide +kernel) (by decide +kernel) (by decide) (fun _ _ h => by rw [h.1]; rfl) (fun _ U U' hal hh h => ⟨h.1, h.2.1.mv hal hh, h.2.2.1.mv hal hh, h.2.2.2⟩) (fun r U U' V V' h1 hal h2 h => ⟨h.1, h.2.elim fun B' q => ⟨B', q.1.mv h1 h2, q.2⟩⟩) ?_
  intro p e s m args below meth c s₁ X0 hexec hbytes hml hret hlk hnm hown hh0 W hP
  obtain ⟨rfl, hA, hB, hne, l1, l2, hp⟩ := hP
  have c1 : Steps p.tables e below (s₁.setTop (entryFrame m #[.ref b, .int (Int32.ofNat o), .ref d, .int (Int32.ofNat q), .int (Int32.ofNat len)] 7)) (s₁.setTop (mkF m 0 #[.val (.ref b), .val (.int (Int32.ofNat o)), .val (.ref d), .val (.int (Int32.ofNat q)), .val (.int (Int32.ofNat len)), .unset, .unset] [])) := entry rfl
  have hA0 := hA.1.mv X0.warmed.alike hh0
  have hB0 := hB.mv X0.warmed.alike hh0
  have a31 := hA.1.2.2.2
  have c2 : Steps p.tables e below (s₁.setTop (entryFrame m #[.ref b, .int (Int32.ofNat o), .ref d, .int (Int32.ofNat q), .int (Int32.ofNat len)] 7)) (s₁.setTop (mkF m 3 #[.val (.ref b), .val (.int (Int32.ofNat o)), .val (.ref d), .val (.int (Int32.ofNat q)), .val (.int (Int32.ofNat len)), .val (.int 0), .unset] [])) := c1.trans (by
    refine iconstV X0.here hexec rfl 0 (hb hbytes d0) (by decide) ?_
    refine XS.istore X0.here hexec rfl (hb hbytes d1) rfl rfl ?_
    exact Steps.refl _)
  have loop : ∀ (r i : Nat), i + r = len → ∀ (z : Slot), (z = .unset ∨ ∃ w, z = .val w ∧ w.category = 1) → ∀ (Tl : State) (Bk : Cell), Stand p l e { frames := 0, locals := 0, cells := 0, slots := 0 } s m #[.ref b, .int (Int32.ofNat o), .ref d, .int (Int32.ofNat q), .int (Int32.ofNat len)] below meth c Tl ([] ++ copyLocs d q i) 0 0 → Put d Bk s₁ Tl → Laid B Bk q (q + i) (fun j => Value.int (lo8 (cv A (o + (j - q))))) →
      Steps p.tables e below (s₁.setTop (entryFrame m #[.ref b, .int (Int32.ofNat o), .ref d, .int (Int32.ofNat q), .int (Int32.ofNat len)] 7)) (Tl.setTop (mkF m 3 #[.val (.ref b), .val (.int (Int32.ofNat (o + i))), .val (.ref d), .val (.int (Int32.ofNat (q + i))), .val (.int (Int32.ofNat len)), .val (.int (Int32.ofNat i)), z] [])) → ∃ (T' : State) (B' : Cell) (z' : Slot), Stand p l e { frames := 0, locals := 0, cells := 0, slots := 0 } s m #[.ref b, .int (Int32.ofNat o), .ref d, .int (Int32.ofNat q), .int (Int32.ofNat len)] below meth c T' ([] ++ copyLocs d q len) 0 0 ∧ Put d B' s₁ T' ∧ Laid B B' q (q + len) (fun j => Value.int (lo8 (cv A (o + (j - q))))) ∧
      Steps p.tables e below (s₁.setTop (entryFrame m #[.ref b, .int (Int32.ofNat o), .ref d, .int (Int32.ofNat q), .int (Int32.ofNat len)] 7)) (T'.setTop (mkF m 3 #[.val (.ref b), .val (.int (Int32.ofNat (o + len))), .val (.ref d), .val (.int (Int32.ofNat (q + len))), .val (.int (Int32.ofNat len)), .val (.int (Int32.ofNat len)), z'] [])) := by
    intro r
    induction r with
    | zero =>
      intro i hi z hz Tl Bk Xl pl fl cl
      have hil : i = len := by omega
      rw [hil] at Xl fl cl
      exact ⟨Tl, Bk, z, Xl, pl, fl, cl⟩
    | succ r ih =>
      intro i hi z hz Tl Bk Xl pl fl cl
      have all := X0.warmed.alike.symm.trans Xl.warmed.alike
      have hAl := hA0.keep all (pl.other hne hA0.1)
      have hBk := hB0.like all pl.1 fl.1 fl.2.1 fl.2.2.1
      have hlt : q + i < Bk.slots.size := by rw [fl.2.2.1]; omega
      have c3 : Steps p.tables e below (s₁.setTop (entryFrame m #[.ref b, .int (Int32.ofNat o), .ref d, .int (Int32.ofNat q), .int (Int32.ofNat len)] 7)) (Tl.setTop (mkF m 12 #[.val (.ref b), .val (.int (Int32.ofNat (o + i))), .val (.ref d), .val (.int (Int32.ofNat (q + i))), .val (.int (Int32.ofNat len)), .val (.int (Int32.ofNat i)), z] [.int (Int32.ofNat (o + i)), .ref b])) := cl.trans (by
        refine XS.iload Xl.here hexec rfl (hb hbytes d3) rfl ?_
        refine XS.iload Xl.here hexec rfl (hb hbytes d5) rfl ?_
        refine XS.icmpNo Xl.here hexec rfl (hb hbytes d7) rfl (ii_ge_f (lt32 (by omega) (by omega))) ?_
        refine XS.aloadN Xl.here hexec rfl (hb hbytes d10) rfl rfl ?_
        refine XS.iloadN Xl.here hexec rfl (hb hbytes d11) rfl ?_
        exact Steps.refl _)
      have c4 : Steps p.tables e below (s₁.setTop (entryFrame m #[.ref b, .int (Int32.ofNat o), .ref d, .int (Int32.ofNat q), .int (Int32.ofNat len)] 7)) (Tl.setTop (mkF m 13 #[.val (.ref b), .val (.int (Int32.ofNat (o + i))), .val (.ref d), .val (.int (Int32.ofNat (q + i))), .val (.int (Int32.ofNat len)), .val (.int (Int32.ofNat i)), z] [.int (cv A (o + i))])) := c3.trans (by
        refine Xl.aget hexec hAl rfl (hA.get (i := o + i) (by omega)) rfl rfl (hb hbytes d12) ?_
        exact Steps.refl _)
      have c5 : Steps p.tables e below (s₁.setTop (entryFrame m #[.ref b, .int (Int32.ofNat o), .ref d, .int (Int32.ofNat q), .int (Int32.ofNat len)] 7)) (Tl.setTop (mkF m 15 #[.val (.ref b), .val (.int (Int32.ofNat (o + i))), .val (.ref d), .val (.int (Int32.ofNat (q + i))), .val (.int (Int32.ofNat len)), .val (.int (Int32.ofNat i)), .val (.int (cv A (o + i)))] [])) := c4.trans (by
        refine XS.istoreS Xl.here hexec rfl (hb hbytes d13) rfl rfl hz ?_
        exact Steps.refl _)
      have c6 : Steps p.tables e below (s₁.setTop (entryFrame m #[.ref b, .int (Int32.ofNat o), .ref d, .int (Int32.ofNat q), .int (Int32.ofNat len)] 7)) (Tl.setTop (mkF m 31 #[.val (.ref b), .val (.int (Int32.ofNat (o + i))), .val (.ref d), .val (.int (Int32.ofNat (q + i))), .val (.int (Int32.ofNat len)), .val (.int (Int32.ofNat i)), .val (.int (cv A (o + i)))] [.int (lo8 (cv A (o + i))), .int (Int32.ofNat (q + i)), .ref d])) := c5.trans (by
        refine XS.iload Xl.here hexec rfl (hb hbytes d15) rfl ?_
        refine sipushV Xl.here hexec rfl 255 (hb hbytes d17) (by decide) ?_
        refine XS.icmpYes Xl.here hexec rfl (pc0 := 20) rfl (hb hbytes d20) rfl (ii_le_t (hp i (by omega))) (by decide) rfl ?_
        refine XS.aloadN Xl.here hexec rfl (hb hbytes d26) rfl rfl ?_
        refine XS.iloadN Xl.here hexec rfl (hb hbytes d27) rfl ?_
        refine XS.iload Xl.here hexec rfl (hb hbytes d28) rfl ?_
        refine i2b Xl.here hexec rfl (hb hbytes d30) rfl ?_
        exact Steps.refl _)
      obtain ⟨T7, X7, p7, st7⟩ := Xl.aput hexec hBk rfl hlt rfl (fits_lo8 (cv A (o + i))) (g := (mkF m 31 #[.val (.ref b), .val (.int (Int32.ofNat (o + i))), .val (.ref d), .val (.int (Int32.ofNat (q + i))), .val (.int (Int32.ofNat len)), .val (.int (Int32.ofNat i)), .val (.int (cv A (o + i)))] [.int (lo8 (cv A (o + i))), .int (Int32.ofNat (q + i)), .ref d])) rfl (rest := []) rfl (hb hbytes d31)
      have c8 : Steps p.tables e below (s₁.setTop (entryFrame m #[.ref b, .int (Int32.ofNat o), .ref d, .int (Int32.ofNat q), .int (Int32.ofNat len)] 7)) (T7.setTop (mkF m 32 #[.val (.ref b), .val (.int (Int32.ofNat (o + i))), .val (.ref d), .val (.int (Int32.ofNat (q + i))), .val (.int (Int32.ofNat len)), .val (.int (Int32.ofNat i)), .val (.int (cv A (o + i)))] [])) := c6.trans (st7 _ (Steps.refl _))
      have c9 : Steps p.tables e below (s₁.setTop (entryFrame m #[.ref b, .int (Int32.ofNat o), .ref d, .int (Int32.ofNat q), .int (Int32.ofNat len)] 7)) (T7.setTop (mkF m 3 #[.val (.ref b), .val (.int (Int32.ofNat (o + i) + 1)), .val (.ref d), .val (.int (Int32.ofNat (q + i) + 1)), .val (.int (Int32.ofNat len)), .val (.int (Int32.ofNat i + 1)), .val (.int (cv A (o + i)))] [])) := c8.trans (by
        refine iincV X7.here hexec rfl 1 (hb hbytes d32) (by decide) rfl rfl ?_
        refine iincV X7.here hexec rfl 1 (hb hbytes d35) (by decide) rfl rfl ?_
        refine iincV X7.here hexec rfl 1 (hb hbytes d38) (by decide) rfl rfl ?_
        refine XS.goto X7.here hexec rfl (pc0 := 41) rfl (hb hbytes d41) (by decide) rfl ?_
        exact Steps.refl _)
      have c10 : Steps p.tables e below (s₁.setTop (entryFrame m #[.ref b, .int (Int32.ofNat o), .ref d, .int (Int32.ofNat q), .int (Int32.ofNat len)] 7)) (T7.setTop (mkF m 3 #[.val (.ref b), .val (.int (Int32.ofNat (o + (i + 1)))), .val (.ref d), .val (.int (Int32.ofNat (q + (i + 1)))), .val (.int (Int32.ofNat len)), .val (.int (Int32.ofNat (i + 1))), .val (.int (cv A (o + i)))] [])) := by
        have := c9
        rw [succ32, succ32, succ32] at this
        exact this
      exact ih (i + 1) (by omega) _ (Or.inr ⟨_, rfl, rfl⟩) T7 _ (by rw [copyLocs_step, ← List.append_assoc]; exact X7) (pl.trans p7) (fl.step (by omega) hlt (by simp)) c10
  obtain ⟨T9, B9, z9, X9, p9, f9, g9⟩ := loop len 0 (by omega) .unset (Or.inl rfl) s₁ B (by simpa [copyLocs] using X0) ⟨hB0.1, fun _ _ => rfl, rfl⟩ (Laid.zero _ _ _) c2
  have c11 : Steps p.tables e below (s₁.setTop (entryFrame m #[.ref b, .int (Int32.ofNat o), .ref d, .int (Int32.ofNat q), .int (Int32.ofNat len)] 7)) (T9.setTop (mkF m 46 #[.val (.ref b), .val (.int (Int32.ofNat (o + len))), .val (.ref d), .val (.int (Int32.ofNat (q + len))), .val (.int (Int32.ofNat len)), .val (.int (Int32.ofNat len)), z9] [.int (Int32.ofNat len)])) := g9.trans (by
    refine XS.iload X9.here hexec rfl (hb hbytes d3) rfl ?_
    refine XS.iload X9.here hexec rfl (hb hbytes d5) rfl ?_
    refine XS.icmpYes X9.here hexec rfl (pc0 := 7) rfl (hb hbytes d7) rfl (ii_ge_t (nlt32 (by omega) (Nat.le_refl _))) (by decide) rfl ?_
    refine XS.iload X9.here hexec rfl (hb hbytes d44) rfl ?_
    exact Steps.refl _)
  exact ⟨T9, some (.int (Int32.ofNat len)), _, _, _, X9, by simp, rfl, rfl, (fun h => by cases h), ⟨rfl, B9, p9.from hh0, f9⟩, fun fs hl => c11.trans (X9.ireturnOut hexec hret rfl (Or.inl rfl) (hb hbytes d46) hl)⟩
end Cmp5
namespace Cmp3
def yN : MethodName := ⟨"java/lang/StringUTF16", "compress", "([CII)[B"⟩
abbrev yB : ByteArray := jdk_52_method_16_code
theorem d0 : decode yB 0 = .ok (.iload_n 2, 1) := by decide +kernel
theorem d1 : decode yB 1 = .ok (.newarray .byte, 2) := by decide +kernel
theorem d3 : decode yB 3 = .ok (.astore_n 3, 1) := by decide +kernel
theorem d4 : decode yB 4 = .ok (.aload_n 0, 1) := by decide +kernel
theorem d5 : decode yB 5 = .ok (.iload_n 1, 1) := by decide +kernel
theorem d6 : decode yB 6 = .ok (.aload_n 3, 1) := by decide +kernel
theorem d7 : decode yB 7 = .ok (.iconst 0, 1) := by decide +kernel
theorem d8 : decode yB 8 = .ok (.iload_n 2, 1) := by decide +kernel
theorem d9 : decode yB 9 = .ok (.invokestatic 115, 3) := by decide +kernel
theorem d12 : decode yB 12 = .ok (.istore 4, 2) := by decide +kernel
theorem d14 : decode yB 14 = .ok (.iload 4, 2) := by decide +kernel
theorem d16 : decode yB 16 = .ok (.iload_n 2, 1) := by decide +kernel
theorem d17 : decode yB 17 = .ok (.if_icmp (.eq) 40, 3) := by decide +kernel
theorem d57 : decode yB 57 = .ok (.aload_n 3, 1) := by decide +kernel
theorem d58 : decode yB 58 = .ok (.areturn, 1) := by decide +kernel
def site : List Cond := [.arrayClass .byte, Cmp5.tab] ++ staticW U16 115 Cmp5.yN
def tab : Cond := tabOf yN yB 6 (some (.array .byte)) site
def P (b : Addr) (A : Cell) (o len : Nat) (args : Array Value) (s : State) : Prop := args = #[.ref b, .int (Int32.ofNat o), .int (Int32.ofNat len)] ∧ Ch b A s ∧ o + len ≤ A.slots.size ∧ len ≤ 536870912 ∧ ∀ i, i < len → ¬ 255 < cv A (o + i)
def E (b : Addr) (A : Cell) (o len : Nat) (r : Option Value) (s u : State) : Prop := NewArr .byte "[B" len (fun j => .int (lo8 (cv A (o + j)))) r s u ∧ u.heap.size = s.heap.size + 1
/-- no char of the range above 255: a new byte[] of their low bytes -/
theorem law (l : Launch) (b : Addr) (A : Cell) (o len : Nat) : Law l yN 3 3 1 18 yB 6 (some (.array .byte)) site (P b A o len) (E b A o len) [] 1 len := by
  refine Law.of_walk (plainFor_of_name (by decide +kernel)) (by decide +kernel) (by decide +kernel) (by decide) (fun _ _ h => by rw [h.1]; rfl) (fun _ U U' hal hh h => ⟨h.1, h.2.1.mv hal hh, h.2.2⟩) (fun r U U' V V' h1 hal h2 h => ⟨NewArr.mv r U U' V V' h1 hal h2 h.1, by rw [h1, h2]; exact h.2⟩) ?_
  intro p e s m args below meth c s₁ X0 hexec hbytes hml hret hlk hnm hown hh0 W hP
  obtain ⟨rfl, hA, l1, l2, hp⟩ := hP
  have a31 := hA.1.2.2.2
  have c1 : Steps p.tables e below (s₁.setTop (entryFrame m #[.ref b, .int (Int32.ofNat o), .int (Int32.ofNat len)] 6)) (s₁.setTop (mkF m 0 #[.val (.ref b), .val (.int (Int32.ofNat o)), .val (.int (Int32.ofNat len)), .unset, .unset, .unset] [])) := entry rfl
  have c2 : Steps p.tables e below (s₁.setTop (entryFrame m #[.ref b, .int (Int32.ofNat o), .int (Int32.ofNat len)] 6)) (s₁.setTop (mkF m 1 #[.val (.ref b), .val (.int (Int32.ofNat o)), .val (.int (Int32.ofNat len)), .unset, .unset, .unset] [.int (Int32.ofNat len)])) := c1.trans (by
    refine XS.iloadN X0.here hexec rfl (hb hbytes d0) rfl ?_
    exact Steps.refl _)
  obtain ⟨T3, B3, X3, ba3, bs3, bv3, bh3, bf3, st3⟩ := X0.anew hexec (atype := .byte) (wk W (.arrayClass .byte)) rfl (by show len * 1 ≤ _; omega) (by omega) (g := (mkF m 1 #[.val (.ref b), .val (.int (Int32.ofNat o)), .val (.int (Int32.ofNat len)), .unset, .unset, .unset] [.int (Int32.ofNat len)])) rfl (hb hbytes d1) (rest := []) rfl (Nat.le_refl _) (by show 0 + len ≤ len; omega)
  rw [hh0] at ba3 st3
  have kp3 : XT.Kept s T3 := (XT.Kept.of_eq hh0).push bh3
  have hA3 := hA.keep X3.warmed.alike (kp3 _ _ hA.1.1)
  have hne : b ≠ s.heap.size := hA.1.ne
  have c4 : Steps p.tables e below (s₁.setTop (entryFrame m #[.ref b, .int (Int32.ofNat o), .int (Int32.ofNat len)] 6)) (T3.setTop (mkF m 3 #[.val (.ref b), .val (.int (Int32.ofNat o)), .val (.int (Int32.ofNat len)), .unset, .unset, .unset] [.ref s.heap.size])) := c2.trans (st3 _ (Steps.refl _))
  have c5 : Steps p.tables e below (s₁.setTop (entryFrame m #[.ref b, .int (Int32.ofNat o), .int (Int32.ofNat len)] 6)) (T3.setTop (mkF m 9 #[.val (.ref b), .val (.int (Int32.ofNat o)), .val (.int (Int32.ofNat len)), .val (.ref s.heap.size), .unset, .unset] [.int (Int32.ofNat len), .int 0, .ref s.heap.size, .int (Int32.ofNat o), .ref b])) := c4.trans (by
    refine XS.astoreN X3.here hexec rfl (hb hbytes d3) rfl rfl rfl ?_
    refine XS.aloadN X3.here hexec rfl (hb hbytes d4) rfl rfl ?_
    refine XS.iloadN X3.here hexec rfl (hb hbytes d5) rfl ?_
    refine XS.aloadN X3.here hexec rfl (hb hbytes d6) rfl rfl ?_
    refine iconstV X3.here hexec rfl 0 (hb hbytes d7) (by decide) ?_
    refine XS.iloadN X3.here hexec rfl (hb hbytes d8) rfl ?_
    exact Steps.refl _)
  obtain ⟨v6, T6, X6, E6, g6⟩ := X3.callS hexec (Cmp5.law l b A s.heap.size B3 o 0 len) hown (wks W (staticW U16 115 Cmp5.yN)) (wk W Cmp5.tab) (W := 0) (Nat.le_of_ble_eq_true rfl) (Nat.le_of_ble_eq_true rfl) (Nat.le_refl _) (by show 0 + len + 0 ≤ len; omega) (g := (mkF m 9 #[.val (.ref b), .val (.int (Int32.ofNat o)), .val (.int (Int32.ofNat len)), .val (.ref s.heap.size), .unset, .unset] [.int (Int32.ofNat len), .int (Int32.ofNat 0), .ref s.heap.size, .int (Int32.ofNat o), .ref b])) rfl (by rw [hml]; rfl) c5 (argsL := [.ref b, .int (Int32.ofNat o), .ref s.heap.size, .int (Int32.ofNat 0), .int (Int32.ofNat len)]) (rest := []) rfl rfl (by show 2 * 0 + 0 ≤ _; decide) (hb hbytes d9) (⟨rfl, hA3, ba3, hne, l1, by rw [bs3]; simp, hp⟩)
  obtain ⟨rfl, B6, p6, f6⟩ := E6
  have c7 : Steps p.tables e below (s₁.setTop (entryFrame m #[.ref b, .int (Int32.ofNat o), .int (Int32.ofNat len)] 6)) (T6.setTop (mkF m 12 #[.val (.ref b), .val (.int (Int32.ofNat o)), .val (.int (Int32.ofNat len)), .val (.ref s.heap.size), .unset, .unset] [.int (Int32.ofNat len)])) := g6
  have c8 : Steps p.tables e below (s₁.setTop (entryFrame m #[.ref b, .int (Int32.ofNat o), .int (Int32.ofNat len)] 6)) (T6.setTop (mkF m 58 #[.val (.ref b), .val (.int (Int32.ofNat o)), .val (.int (Int32.ofNat len)), .val (.ref s.heap.size), .val (.int (Int32.ofNat len)), .unset] [.ref s.heap.size])) := c7.trans (by
    refine XS.istore X6.here hexec rfl (hb hbytes d12) rfl rfl ?_
    refine XS.iload X6.here hexec rfl (hb hbytes d14) rfl ?_
    refine XS.iloadN X6.here hexec rfl (hb hbytes d16) rfl ?_
    refine XS.icmpYes X6.here hexec rfl (pc0 := 17) rfl (hb hbytes d17) rfl (ii_eq_t rfl) (by decide) rfl ?_
    refine XS.aloadN X6.here hexec rfl (hb hbytes d57) rfl rfl ?_
    exact Steps.refl _)
  have X8 := X6.wide (L' := []) (cells' := 1) (slots' := len) (fun x hx hlt => by
    simp only [List.nil_append, copyLocs, List.mem_map, List.mem_range] at hx
    obtain ⟨i, -, rfl⟩ := hx
    exact absurd hlt (Nat.lt_irrefl _)) (Nat.le_refl _) (by omega)
  exact ⟨T6, some (.ref s.heap.size), _, _, _, X8, rfl, rfl, rfl, (fun h => by cases h), ⟨⟨rfl, B6, ba3.like (X3.warmed.alike.symm.trans X6.warmed.alike) p6.1 f6.1 f6.2.1 f6.2.2.1, f6.2.1.trans bv3, by rw [X6.warmed.alike.findClass, f6.1]; exact bf3, by rw [f6.2.2.1, bs3]; simp, fun j hj => by rw [f6.2.2.2 j, if_pos (by omega)]; rfl, kp3.put p6 (Nat.le_refl _)⟩, by rw [p6.2.2, bh3, hh0]; simp⟩, fun fs hl => c8.trans (X8.areturnOut hexec rfl hret rfl (hb hbytes d58) hl)⟩
end Cmp3
namespace CodL
def yN : MethodName := ⟨"java/lang/StringUTF16", "coderFromArrayLen", "([BI)B"⟩
abbrev yB : ByteArray := jdk_52_method_15_code
theorem d0 : decode yB 0 = .ok (.iload_n 1, 1) := by decide +kernel
theorem d1 : decode yB 1 = .ok (.aload_n 0, 1) := by decide +kernel
theorem d2 : decode yB 2 = .ok (.arraylength, 1) := by decide +kernel
theorem d3 : decode yB 3 = .ok (.isub, 1) := by decide +kernel
theorem d4 : decode yB 4 = .ok (.bipush 31, 2) := by decide +kernel
theorem d6 : decode yB 6 = .ok (.iushr, 1) := by decide +kernel
theorem d7 : decode yB 7 = .ok (.i2b, 1) := by decide +kernel
theorem d8 : decode yB 8 = .ok (.ireturn, 1) := by decide +kernel
def site : List Cond := []
def tab : Cond := tabOf yN yB 2 (some .byte) site
def P (d : Addr) (B : Cell) (args : Array Value) (s : State) : Prop := args = #[.ref d, .int (Int32.ofNat B.slots.size)] ∧ Arr .byte d B s
def E (r : Option Value) (s u : State) : Prop := XT.PureE (some (.int 0)) r s u
/-- an array as long as the number of chars: LATIN1 -/
theorem law (l : Launch) (d : Addr) (B : Cell) : Law l yN 2 2 0 0 yB 2 (some .byte) site (P d B) E [] 0 0 := by
  refine Law.of_walk (plainFor_of_name (by decide +kernel)) (by decide +kernel) (by decide +kernel) (by decide) (fun _ _ h => by rw [h.1]; rfl) (fun _ U U' hal hh h => ⟨h.1, h.2.mv hal hh⟩) (fun r U U' V V' h1 hal h2 h => XT.PureE.mv r U U' V V' h1 hal h2 h) ?_
  intro p e s m args below meth c s₁ X0 hexec hbytes hml hret hlk hnm hown hh0 W hP
  obtain ⟨rfl, hB⟩ := hP
  have hB0 := hB.mv X0.warmed.alike hh0
  have c1 : Steps p.tables e below (s₁.setTop (entryFrame m #[.ref d, .int (Int32.ofNat B.slots.size)] 2)) (s₁.setTop (mkF m 0 #[.val (.ref d), .val (.int (Int32.ofNat B.slots.size))] [])) := entry rfl
  have c2 : Steps p.tables e below (s₁.setTop (entryFrame m #[.ref d, .int (Int32.ofNat B.slots.size)] 2)) (s₁.setTop (mkF m 2 #[.val (.ref d), .val (.int (Int32.ofNat B.slots.size))] [.ref d, .int (Int32.ofNat B.slots.size)])) := c1.trans (by
    refine XS.iloadN X0.here hexec rfl (hb hbytes d0) rfl ?_
    refine XS.aloadN X0.here hexec rfl (hb hbytes d1) rfl rfl ?_
    exact Steps.refl _)
  have c3 : Steps p.tables e below (s₁.setTop (entryFrame m #[.ref d, .int (Int32.ofNat B.slots.size)] 2)) (s₁.setTop (mkF m 8 #[.val (.ref d), .val (.int (Int32.ofNat B.slots.size))] [.int (lo8 (ushr (Int32.ofNat B.slots.size - Int32.ofNat B.slots.size) 31))])) := c2.trans (by
    refine X0.alen hexec hB0 rfl rfl (hb hbytes d2) ?_
    refine XS.isub X0.here hexec rfl (hb hbytes d3) rfl ?_
    refine bipushV X0.here hexec rfl 31 (hb hbytes d4) (by decide) ?_
    refine iushr X0.here hexec rfl (hb hbytes d6) rfl ?_
    refine i2b X0.here hexec rfl (hb hbytes d7) rfl ?_
    exact Steps.refl _)
  have e0 : lo8 (ushr (Int32.ofNat B.slots.size - Int32.ofNat B.slots.size) 31) = 0 := by rw [Int32.sub_self]; decide
  rw [e0] at c3
  exact ⟨s₁, some (.int 0), _, _, _, X0, rfl, rfl, rfl, (fun h => by cases h), ⟨rfl, hh0⟩, fun fs hl => c3.trans (X0.ireturnOut hexec hret rfl (Or.inr (Or.inr (Or.inl rfl))) (hb hbytes d8) hl)⟩
end CodL
/-- the String at a is Latin-1 over a new byte[] (the heap's one new cell): the low bytes of the len chars of A from o on; every cell but a is kept -/
def Got (a : Addr) (D : Cell) (fV fC : Field) (A : Cell) (o len : Nat) (r : Option Value) (s u : State) : Prop := r = none ∧ ∃ D' V : Cell, Blank "java/lang/String" a D' u ∧ Same D D' [fV.slot, fC.slot] ∧ D'.slots[fV.slot]? = some (.ref s.heap.size) ∧ D'.slots[fC.slot]? = some (.int 0) ∧ Arr .byte s.heap.size V u ∧ V.vm = .none ∧ u.vm.findClass "[B" = some V.cls ∧ V.slots.size = len ∧ (∀ j, j < len → V.slots[j]? = some (.int (lo8 (cv A (o + j))))) ∧ (∀ (y : Addr) (c : Cell), y ≠ a → s.heap[y]? = some c → u.heap[y]? = some c) ∧ u.heap.size = s.heap.size + 1
theorem Got.mv {a : Addr} {D A : Cell} {fV fC : Field} {o len : Nat} : ∀ r (U U' V V' : State), U'.heap = U.heap → V.vm.Alike V'.vm → V'.heap = V.heap → Got a D fV fC A o len r U V → Got a D fV fC A o len r U' V' :=
  fun r U U' V V' h1 hal h2 ⟨e0, D', X, a1, a2, a3, a4, a5, a6, a7, a8, a9, a10, a11⟩ => ⟨e0, D', X, a1.mv hal h2, a2, by rw [h1]; exact a3, a4, by rw [h1]; exact a5.mv hal h2, a6, by rw [hal.findClass]; exact a7, a8, a9, by rw [h1, h2]; exact a10, by rw [h1, h2]; exact a11⟩
namespace New4
def yN : MethodName := ⟨"java/lang/String", "<init>", "([CIILjava/lang/Void;)V"⟩
abbrev yB : ByteArray := jdk_42_method_149_code
theorem d0 : decode yB 0 = .ok (.aload_n 0, 1) := by decide +kernel
theorem d1 : decode yB 1 = .ok (.invokespecial 1, 3) := by decide +kernel
theorem d4 : decode yB 4 = .ok (.iload_n 3, 1) := by decide +kernel
theorem d5 : decode yB 5 = .ok (.ifCond (.ne) 22, 3) := by decide +kernel
theorem d27 : decode yB 27 = .ok (.getstatic 38, 3) := by decide +kernel
theorem d30 : decode yB 30 = .ok (.ifCond (.eq) 28, 3) := by decide +kernel
theorem d33 : decode yB 33 = .ok (.aload_n 1, 1) := by decide +kernel
theorem d34 : decode yB 34 = .ok (.iload_n 2, 1) := by decide +kernel
theorem d35 : decode yB 35 = .ok (.iload_n 3, 1) := by decide +kernel
theorem d36 : decode yB 36 = .ok (.invokestatic 177, 3) := by decide +kernel
theorem d39 : decode yB 39 = .ok (.astore 5, 2) := by decide +kernel
theorem d41 : decode yB 41 = .ok (.aload_n 0, 1) := by decide +kernel
theorem d42 : decode yB 42 = .ok (.aload 5, 2) := by decide +kernel
theorem d44 : decode yB 44 = .ok (.iload_n 3, 1) := by decide +kernel
theorem d45 : decode yB 45 = .ok (.invokestatic 47, 3) := by decide +kernel
theorem d48 : decode yB 48 = .ok (.putfield 15, 3) := by decide +kernel
theorem d51 : decode yB 51 = .ok (.aload_n 0, 1) := by decide +kernel
theorem d52 : decode yB 52 = .ok (.aload 5, 2) := by decide +kernel
theorem d54 : decode yB 54 = .ok (.putfield 9, 3) := by decide +kernel
theorem d57 : decode yB 57 = .ok (.return_, 1) := by decide +kernel
def site : List Cond := [.fieldLink "java/lang/String" 38 "java/lang/String" "COMPACT_STRINGS" "Z", Cmp3.tab, CodL.tab, .laysFinal "java/lang/String" "java/lang/String" "value" "[B", .fieldLink "java/lang/String" 9 "java/lang/String" "value" "[B", .laysFinal "java/lang/String" "java/lang/String" "coder" "B", .fieldLink "java/lang/String" 15 "java/lang/String" "coder" "B"] ++ objW "java/lang/String" 1 ++ staticW "java/lang/String" 177 Cmp3.yN ++ staticW "java/lang/String" 47 CodL.yN
def tab : Cond := tabOf yN yB 6 none site
def P (a : Addr) (D : Cell) (fV fC : Field) (b : Addr) (A : Cell) (z : Int32) (o len : Nat) (args : Array Value) (s : State) : Prop := args = #[.ref a, .ref b, .int (Int32.ofNat o), .int (Int32.ofNat len), .null] ∧ Blank "java/lang/String" a D s ∧ Found "java/lang/String" "value" "[B" fV s ∧ Found "java/lang/String" "coder" "B" fC s ∧ Ch b A s ∧ StaticIs s "java/lang/String" "COMPACT_STRINGS" "Z" (.int z) ∧ ¬ z = 0 ∧ 0 < len ∧ o + len ≤ A.slots.size ∧ len ≤ 536870912 ∧ ∀ i, i < len → ¬ 255 < cv A (o + i)
def E (a : Addr) (D : Cell) (fV fC : Field) (A : Cell) (o len : Nat) (r : Option Value) (s u : State) : Prop := Got a D fV fC A o len r s u
/-- len > 0, no char of the range above 255: a Latin-1 String of their low bytes -/
theorem law (l : Launch) (a : Addr) (D : Cell) (fV fC : Field) (b : Addr) (A : Cell) (z : Int32) (o len : Nat) : Law l yN 5 4 2 35 yB 6 none site (P a D fV fC b A z o len) (E a D fV fC A o len) [⟨a, fC.slot⟩, ⟨a, fV.slot⟩] 1 len := by
  refine Law.of_walk (plainFor_of_name (by decide +kernel)) (by decide +kernel) (by decide +kernel) (by decide) (fun _ _ h => by rw [h.1]; rfl) (fun _ U U' hal hh h => ⟨h.1, h.2.1.mv hal hh, h.2.2.1.al hal, h.2.2.2.1.al hal, h.2.2.2.2.1.mv hal hh, h.2.2.2.2.2.1.there hal hh, h.2.2.2.2.2.2⟩) (fun r U U' V V' h1 hal h2 h => Got.mv r U U' V V' h1 hal h2 h) ?_
  intro p e s m args below meth c s₁ X0 hexec hbytes hml hret hlk hnm hown hh0 W hP
  obtain ⟨rfl, hB, f1, f2, hA, s1, hz, l0, l1, l2, hp⟩ := hP
  have a31 := hA.1.2.2.2
  have c1 : Steps p.tables e below (s₁.setTop (entryFrame m #[.ref a, .ref b, .int (Int32.ofNat o), .int (Int32.ofNat len), .null] 6)) (s₁.setTop (mkF m 0 #[.val (.ref a), .val (.ref b), .val (.int (Int32.ofNat o)), .val (.int (Int32.ofNat len)), .val .null, .unset] [])) := entry rfl
  have c2 : Steps p.tables e below (s₁.setTop (entryFrame m #[.ref a, .ref b, .int (Int32.ofNat o), .int (Int32.ofNat len), .null] 6)) (s₁.setTop (mkF m 1 #[.val (.ref a), .val (.ref b), .val (.int (Int32.ofNat o)), .val (.int (Int32.ofNat len)), .val .null, .unset] [.ref a])) := c1.trans (by
    refine XS.aloadN X0.here hexec rfl (hb hbytes d0) rfl rfl ?_
    exact Steps.refl _)
  obtain ⟨T3, X3, q3, st3⟩ := X0.oinit hexec hown (wks W (objW "java/lang/String" 1)) (g := (mkF m 1 #[.val (.ref a), .val (.ref b), .val (.int (Int32.ofNat o)), .val (.int (Int32.ofNat len)), .val .null, .unset] [.ref a])) rfl (by rw [hml]; rfl) (rest := []) rfl (hb hbytes d1) (W := 0) (by show 2 * 0 + 0 ≤ _; decide) (Nat.le_of_ble_eq_true rfl) (Nat.le_of_ble_eq_true rfl)
  have hh3 := q3.trans hh0
  have c4 : Steps p.tables e below (s₁.setTop (entryFrame m #[.ref a, .ref b, .int (Int32.ofNat o), .int (Int32.ofNat len), .null] 6)) (T3.setTop (mkF m 27 #[.val (.ref a), .val (.ref b), .val (.int (Int32.ofNat o)), .val (.int (Int32.ofNat len)), .val .null, .unset] [])) := (c2.trans (st3 _ (Steps.refl _))).trans (by
    refine XS.iloadN X3.here hexec rfl (hb hbytes d4) rfl ?_
    refine XS.ifYes X3.here hexec rfl (pc0 := 5) rfl (hb hbytes d5) rfl (i0_ne_t (nz32 (by omega) l0)) (by decide) rfl ?_
    exact Steps.refl _)
  obtain ⟨T5, X5, q5, st5⟩ := X3.sget hexec hown (wk W (.fieldLink "java/lang/String" 38 "java/lang/String" "COMPACT_STRINGS" "Z")) s1 (fun _ _ h => by rw [hh3]; exact h) (g := (mkF m 27 #[.val (.ref a), .val (.ref b), .val (.int (Int32.ofNat o)), .val (.int (Int32.ofNat len)), .val .null, .unset] [])) rfl (hb hbytes d27)
  have hh5 := q5.trans hh3
  have c6 : Steps p.tables e below (s₁.setTop (entryFrame m #[.ref a, .ref b, .int (Int32.ofNat o), .int (Int32.ofNat len), .null] 6)) (T5.setTop (mkF m 30 #[.val (.ref a), .val (.ref b), .val (.int (Int32.ofNat o)), .val (.int (Int32.ofNat len)), .val .null, .unset] [.int z])) := c4.trans (st5 _ (Steps.refl _))
  have c7 : Steps p.tables e below (s₁.setTop (entryFrame m #[.ref a, .ref b, .int (Int32.ofNat o), .int (Int32.ofNat len), .null] 6)) (T5.setTop (mkF m 36 #[.val (.ref a), .val (.ref b), .val (.int (Int32.ofNat o)), .val (.int (Int32.ofNat len)), .val .null, .unset] [.int (Int32.ofNat len), .int (Int32.ofNat o), .ref b])) := c6.trans (by
    refine XS.ifNo X5.here hexec rfl (hb hbytes d30) rfl (i0_eq_f hz) ?_
    refine XS.aloadN X5.here hexec rfl (hb hbytes d33) rfl rfl ?_
    refine XS.iloadN X5.here hexec rfl (hb hbytes d34) rfl ?_
    refine XS.iloadN X5.here hexec rfl (hb hbytes d35) rfl ?_
    exact Steps.refl _)
  obtain ⟨v8, T8, X8, E8, g8⟩ := X5.callS hexec (Cmp3.law l b A o len) hown (wks W (staticW "java/lang/String" 177 Cmp3.yN)) (wk W Cmp3.tab) (W := 0) (Nat.le_of_ble_eq_true rfl) (Nat.le_of_ble_eq_true rfl) (Nat.le_refl _) (by show 0 + len ≤ len; omega) (g := (mkF m 36 #[.val (.ref a), .val (.ref b), .val (.int (Int32.ofNat o)), .val (.int (Int32.ofNat len)), .val .null, .unset] [.int (Int32.ofNat len), .int (Int32.ofNat o), .ref b])) rfl (by rw [hml]; rfl) c7 (argsL := [.ref b, .int (Int32.ofNat o), .int (Int32.ofNat len)]) (rest := []) rfl rfl (by show 2 * 0 + 0 ≤ _; decide) (hb hbytes d36) (⟨rfl, hA.mv X5.warmed.alike hh5, l1, l2, hp⟩)
  obtain ⟨e8, z8⟩ := E8
  obtain ⟨rfl, N, n1, n2, n3, n4, n5, n6⟩ := NewArr.mv _ T5 s _ _ hh5.symm (Vm.Alike.refl _) rfl e8
  rw [hh5] at z8
  have hB1 := hB.keep X8.warmed.alike (n6 _ _ hB.1)
  have hne : s.heap.size ≠ a := (Nat.ne_of_lt (Array.getElem?_eq_some_iff.mp hB.1).1).symm
  have c9 : Steps p.tables e below (s₁.setTop (entryFrame m #[.ref a, .ref b, .int (Int32.ofNat o), .int (Int32.ofNat len), .null] 6)) (T8.setTop (mkF m 39 #[.val (.ref a), .val (.ref b), .val (.int (Int32.ofNat o)), .val (.int (Int32.ofNat len)), .val .null, .unset] [.ref s.heap.size])) := g8
  have c10 : Steps p.tables e below (s₁.setTop (entryFrame m #[.ref a, .ref b, .int (Int32.ofNat o), .int (Int32.ofNat len), .null] 6)) (T8.setTop (mkF m 45 #[.val (.ref a), .val (.ref b), .val (.int (Int32.ofNat o)), .val (.int (Int32.ofNat len)), .val .null, .val (.ref s.heap.size)] [.int (Int32.ofNat N.slots.size), .ref s.heap.size, .ref a])) := by
    have hc : Steps p.tables e below (s₁.setTop (entryFrame m #[.ref a, .ref b, .int (Int32.ofNat o), .int (Int32.ofNat len), .null] 6)) (T8.setTop (mkF m 45 #[.val (.ref a), .val (.ref b), .val (.int (Int32.ofNat o)), .val (.int (Int32.ofNat len)), .val .null, .val (.ref s.heap.size)] [.int (Int32.ofNat len), .ref s.heap.size, .ref a])) := c9.trans (by
      refine XS.astore X8.here hexec rfl (hb hbytes d39) rfl rfl rfl ?_
      refine XS.aloadN X8.here hexec rfl (hb hbytes d41) rfl rfl ?_
      refine XS.aload X8.here hexec rfl (hb hbytes d42) rfl rfl ?_
      refine XS.iloadN X8.here hexec rfl (hb hbytes d44) rfl ?_
      exact Steps.refl _)
    rw [n4]; exact hc
  obtain ⟨v11, T11, X11, E11, g11⟩ := X8.callS hexec (CodL.law l s.heap.size N) hown (wks W (staticW "java/lang/String" 47 CodL.yN)) (wk W CodL.tab) (W := 1) (Nat.le_of_ble_eq_true rfl) (Nat.le_of_ble_eq_true rfl) (Nat.le_refl _) (by show 0 + len + 0 ≤ len; omega) (g := (mkF m 45 #[.val (.ref a), .val (.ref b), .val (.int (Int32.ofNat o)), .val (.int (Int32.ofNat len)), .val .null, .val (.ref s.heap.size)] [.int (Int32.ofNat N.slots.size), .ref s.heap.size, .ref a])) rfl (by rw [hml]; rfl) c10 (argsL := [.ref s.heap.size, .int (Int32.ofNat N.slots.size)]) (rest := [.ref a]) rfl rfl (by show 2 * 0 + (1 + 0) ≤ _; decide) (hb hbytes d45) (⟨rfl, n1⟩)
  obtain ⟨rfl, q11⟩ := E11
  have hB11 := hB1.mv (X8.warmed.alike.symm.trans X11.warmed.alike) q11
  have c12 : Steps p.tables e below (s₁.setTop (entryFrame m #[.ref a, .ref b, .int (Int32.ofNat o), .int (Int32.ofNat len), .null] 6)) (T11.setTop (mkF m 48 #[.val (.ref a), .val (.ref b), .val (.int (Int32.ofNat o)), .val (.int (Int32.ofNat len)), .val .null, .val (.ref s.heap.size)] [.int 0, .ref a])) := g11
  obtain ⟨T13, X13, p13, bl13, sl13, st13⟩ := X11.finit hexec hown (wk W (.fieldLink "java/lang/String" 15 "java/lang/String" "coder" "B")) (Or.inr ⟨_, (wk W (.laysFinal "java/lang/String" "java/lang/String" "coder" "B"))⟩) (Or.inl ⟨rfl, hnm⟩) f2 (Or.inl rfl) hB11 (t := .byte) (by decide +kernel) rfl (g := (mkF m 48 #[.val (.ref a), .val (.ref b), .val (.int (Int32.ofNat o)), .val (.int (Int32.ofNat len)), .val .null, .val (.ref s.heap.size)] [.int 0, .ref a])) rfl (rest := []) rfl (hb hbytes d48)
  have c14 : Steps p.tables e below (s₁.setTop (entryFrame m #[.ref a, .ref b, .int (Int32.ofNat o), .int (Int32.ofNat len), .null] 6)) (T13.setTop (mkF m 54 #[.val (.ref a), .val (.ref b), .val (.int (Int32.ofNat o)), .val (.int (Int32.ofNat len)), .val .null, .val (.ref s.heap.size)] [.ref s.heap.size, .ref a])) := (c12.trans (st13 _ (Steps.refl _))).trans (by
    refine XS.aloadN X13.here hexec rfl (hb hbytes d51) rfl rfl ?_
    refine XS.aload X13.here hexec rfl (hb hbytes d52) rfl rfl ?_
    exact Steps.refl _)
  obtain ⟨T15, X15, p15, bl15, sl15, st15⟩ := X13.finit hexec hown (wk W (.fieldLink "java/lang/String" 9 "java/lang/String" "value" "[B")) (Or.inr ⟨_, (wk W (.laysFinal "java/lang/String" "java/lang/String" "value" "[B"))⟩) (Or.inl ⟨rfl, hnm⟩) f1 (Or.inl rfl) bl13 (t := (.array .byte)) (by decide +kernel) rfl (g := (mkF m 54 #[.val (.ref a), .val (.ref b), .val (.int (Int32.ofNat o)), .val (.int (Int32.ofNat len)), .val .null, .val (.ref s.heap.size)] [.ref s.heap.size, .ref a])) rfl (rest := []) rfl (hb hbytes d54)
  have c16 : Steps p.tables e below (s₁.setTop (entryFrame m #[.ref a, .ref b, .int (Int32.ofNat o), .int (Int32.ofNat len), .null] 6)) (T15.setTop (mkF m 57 #[.val (.ref a), .val (.ref b), .val (.int (Int32.ofNat o)), .val (.int (Int32.ofNat len)), .val .null, .val (.ref s.heap.size)] [])) := c14.trans (st15 _ (Steps.refl _))
  have ap := apart (Or.inr ⟨_, (wk W (.laysFinal "java/lang/String" "java/lang/String" "value" "[B"))⟩) (Or.inr ⟨_, (wk W (.laysFinal "java/lang/String" "java/lang/String" "coder" "B"))⟩) f1 f2 (t₁ := .array .byte) (t₂ := .byte) (by decide +kernel) (by decide +kernel) (by decide)
  have al := X8.warmed.alike.symm.trans X15.warmed.alike
  have n7 : T11.heap[s.heap.size]? = some N := by rw [q11]; exact n1.1
  exact ⟨T15, none, _, _, _, X15, by simp, rfl, by omega, (fun _ => rfl), ⟨rfl, _, N, bl15, ((Same.refl D _).set _ (by simp)).set _ (by simp), sl15, (Cell.slots_setSlot_ne _ ap).trans sl13, n1.keep al (p15.other hne (p13.other hne n7)), n2, by rw [al.findClass]; exact n3, n4, n5, fun y c h1 h2 => p15.other h1 (p13.other h1 (by rw [q11]; exact n6 y c h2)), by rw [p15.2.2, p13.2.2, q11]; exact z8⟩, fun fs hl => c16.trans (X15.returnOut hexec hret (hb hbytes d57) hl)⟩
end New4
namespace New1
def yN : MethodName := ⟨"java/lang/String", "<init>", "([C)V"⟩
abbrev yB : ByteArray := jdk_42_method_3_code
theorem d0 : decode yB 0 = .ok (.aload_n 0, 1) := by decide +kernel
theorem d1 : decode yB 1 = .ok (.aload_n 1, 1) := by decide +kernel
theorem d2 : decode yB 2 = .ok (.iconst 0, 1) := by decide +kernel
theorem d3 : decode yB 3 = .ok (.aload_n 1, 1) := by decide +kernel
theorem d4 : decode yB 4 = .ok (.arraylength, 1) := by decide +kernel
theorem d5 : decode yB 5 = .ok (.aconst_null, 1) := by decide +kernel
theorem d6 : decode yB 6 = .ok (.invokespecial 27, 3) := by decide +kernel
theorem d9 : decode yB 9 = .ok (.return_, 1) := by decide +kernel
def site : List Cond := [New4.tab] ++ initW "java/lang/String" 27 New4.yN
def tab : Cond := tabOf yN yB 2 none site
def P (a : Addr) (D : Cell) (fV fC : Field) (b : Addr) (A : Cell) (z : Int32) (args : Array Value) (s : State) : Prop := args = #[.ref a, .ref b] ∧ Blank "java/lang/String" a D s ∧ Found "java/lang/String" "value" "[B" fV s ∧ Found "java/lang/String" "coder" "B" fC s ∧ Ch b A s ∧ StaticIs s "java/lang/String" "COMPACT_STRINGS" "Z" (.int z) ∧ ¬ z = 0 ∧ 0 < A.slots.size ∧ A.slots.size ≤ 536870912 ∧ ∀ i, i < A.slots.size → ¬ 255 < cv A i
def E (a : Addr) (D : Cell) (fV fC : Field) (A : Cell) (r : Option Value) (s u : State) : Prop := Got a D fV fC A 0 A.slots.size r s u
/-- new String(chars), not empty, no char above 255: a Latin-1 String of their low bytes -/
theorem law (l : Launch) (a : Addr) (D : Cell) (fV fC : Field) (b : Addr) (A : Cell) (z : Int32) : Law l yN 2 1 3 52 yB 2 none site (P a D fV fC b A z) (E a D fV fC A) [⟨a, fC.slot⟩, ⟨a, fV.slot⟩] 1 A.slots.size := by
  refine Law.of_walk (plainFor_of_name (by decide +kernel)) (by decide +kernel) (by decide +kernel) (by decide) (fun _ _ h => by rw [h.1]; rfl) (fun _ U U' hal hh h => ⟨h.1, h.2.1.mv hal hh, h.2.2.1.al hal, h.2.2.2.1.al hal, h.2.2.2.2.1.mv hal hh, h.2.2.2.2.2.1.there hal hh, h.2.2.2.2.2.2⟩) (fun r U U' V V' h1 hal h2 h => Got.mv r U U' V V' h1 hal h2 h) ?_
  intro p e s m args below meth c s₁ X0 hexec hbytes hml hret hlk hnm hown hh0 W hP
  obtain ⟨rfl, hB, f1, f2, hA, s1, hz, l0, l2, hp⟩ := hP
  have c1 : Steps p.tables e below (s₁.setTop (entryFrame m #[.ref a, .ref b] 2)) (s₁.setTop (mkF m 0 #[.val (.ref a), .val (.ref b)] [])) := entry rfl
  have c2 : Steps p.tables e below (s₁.setTop (entryFrame m #[.ref a, .ref b] 2)) (s₁.setTop (mkF m 6 #[.val (.ref a), .val (.ref b)] [.null, .int (Int32.ofNat A.slots.size), .int 0, .ref b, .ref a])) := c1.trans (by
    refine XS.aloadN X0.here hexec rfl (hb hbytes d0) rfl rfl ?_
    refine XS.aloadN X0.here hexec rfl (hb hbytes d1) rfl rfl ?_
    refine iconstV X0.here hexec rfl 0 (hb hbytes d2) (by decide) ?_
    refine XS.aloadN X0.here hexec rfl (hb hbytes d3) rfl rfl ?_
    refine X0.alen hexec (hA.1.mv X0.warmed.alike hh0) rfl rfl (hb hbytes d4) ?_
    refine XS.aconstNull X0.here hexec rfl (hb hbytes d5) ?_
    exact Steps.refl _)
  obtain ⟨v3, T3, X3, E3, g3⟩ := X0.callN hexec (New4.law l a D fV fC b A z 0 A.slots.size) rfl hown (wks W (initW "java/lang/String" 27 New4.yN)) (W New4.tab (by simp only [site, List.mem_cons, List.mem_append, true_or, or_true])) (W := 0) (Nat.le_of_ble_eq_true rfl) (Nat.le_of_ble_eq_true rfl) (Nat.le_refl _) (by show 0 + A.slots.size ≤ A.slots.size; omega) (g := (mkF m 6 #[.val (.ref a), .val (.ref b)] [.null, .int (Int32.ofNat A.slots.size), .int (Int32.ofNat 0), .ref b, .ref a])) rfl (by rw [hml]; rfl) c2 (argsL := [.ref b, .int (Int32.ofNat 0), .int (Int32.ofNat A.slots.size), .null]) (rest := []) rfl rfl (by show 2 * 0 + 0 ≤ _; decide) (hb hbytes d6) (⟨rfl, hB.mv X0.warmed.alike hh0, f1.al X0.warmed.alike, f2.al X0.warmed.alike, hA.mv X0.warmed.alike hh0, s1.there X0.warmed.alike hh0, hz, l0, by omega, l2, fun i hi => by rw [Nat.zero_add]; exact hp i hi⟩)
  have e0 := Got.mv _ s₁ s _ _ hh0.symm (Vm.Alike.refl _) rfl E3
  obtain rfl := e0.1
  have c4 : Steps p.tables e below (s₁.setTop (entryFrame m #[.ref a, .ref b] 2)) (T3.setTop (mkF m 9 #[.val (.ref a), .val (.ref b)] [])) := g3
  exact ⟨T3, none, _, _, _, X3, by simp, rfl, by omega, (fun _ => rfl), e0, fun fs hl => c4.trans (X3.returnOut hexec hret (hb hbytes d9) hl)⟩
theorem pays {l : Launch} {R : Room} {p : Program} {e : Env} {below : List Frame} {s : State} {sargs : Array Value} {len W : Nat} (a : Addr) (D : Cell) (fV fC : Field) (b : Addr) (A : Cell) (z : Int32) (htab : tab.before sargs s = true) (hfr : 4 ≤ R.frames) (hlo : W + 65 ≤ R.locals) :
    Back l R p e below s sargs yN len W (fun A₁ a₁ => A₁.cells + 1 ≤ R.cells ∧ A₁.slots + A.slots.size ≤ R.slots ∧ P a D fV fC b A z a₁ A₁.U) (fun A₁ _ v₁ B₁ => E a D fV fC A v₁ A₁.U B₁.U ∧ B₁.locs = A₁.locs ++ [⟨a, fC.slot⟩, ⟨a, fV.slot⟩] ∧ B₁.cells = A₁.cells + 1 ∧ B₁.slots = A₁.slots + A.slots.size) :=
  (law l a D fV fC b A z).pays htab hfr (by omega)
end New1
end StrChars
namespace StrChars.Road
open Jvm Sem ClassFile Op Lib Jvm.Stand Jvm.Free Jvm.Free.XT
open Jvm.Lib.Cold (StaticIs)
abbrev ST : String := "java/lang/String"
/-- every table word that New1's law asks, flat -/
abbrev words : List Jvm.Cond := [.code New1.yN New1.yB 2 none, .initialized ST, .methodLink ST 27 New4.yN, .instanceMethod New4.yN,
  .code New4.yN New4.yB 6 none, .fieldLink ST 38 ST "COMPACT_STRINGS" "Z", .laysFinal ST ST "value" "[B", .fieldLink ST 9 ST "value" "[B", .laysFinal ST ST "coder" "B", .fieldLink ST 15 ST "coder" "B",
  .methodLink ST 1 Lib.objectInit, .instanceMethod Lib.objectInit, .code Lib.objectInit ⟨#[0xb1]⟩ 1 none, .methodLink ST 177 Cmp3.yN, .static Cmp3.yN, .methodLink ST 47 CodL.yN, .static CodL.yN,
  .code Cmp3.yN Cmp3.yB 6 (some (.array .byte)), .initialized U16, .arrayClass .byte, .methodLink U16 115 Cmp5.yN, .static Cmp5.yN, .code Cmp5.yN Cmp5.yB 7 (some .int), .code CodL.yN CodL.yB 2 (some .byte)]
theorem tab_of {a : Array Value} {s : State} (h : ∀ w ∈ words, w.before a s = true) : New1.tab.before a s = true := by
  have h5 : Cmp5.tab.before a s = true := unparts (wk h (.code Cmp5.yN Cmp5.yB 7 (some .int))) (wks h (.initialized Cmp5.yN.cls :: Cmp5.site))
  have hc : CodL.tab.before a s = true := unparts (wk h (.code CodL.yN CodL.yB 2 (some .byte))) (wks h (.initialized CodL.yN.cls :: CodL.site))
  have q5 : ∀ w ∈ Cmp5.tab :: words, w.before a s = true := fun w hw => (List.mem_cons.mp hw).elim (fun e => e ▸ h5) (h w)
  have h3 : Cmp3.tab.before a s = true := unparts (wk q5 (.code Cmp3.yN Cmp3.yB 6 (some (.array .byte)))) (wks q5 (.initialized Cmp3.yN.cls :: Cmp3.site))
  have q3 : ∀ w ∈ Cmp3.tab :: CodL.tab :: words, w.before a s = true := fun w hw => (List.mem_cons.mp hw).elim (fun e => e ▸ h3) fun hw => (List.mem_cons.mp hw).elim (fun e => e ▸ hc) (h w)
  have h4 : New4.tab.before a s = true := unparts (wk q3 (.code New4.yN New4.yB 6 none)) (wks q3 (.initialized New4.yN.cls :: New4.site))
  have q4 : ∀ w ∈ New4.tab :: words, w.before a s = true := fun w hw => (List.mem_cons.mp hw).elim (fun e => e ▸ h4) (h w)
  exact unparts (wk q4 (.code New1.yN New1.yB 2 none)) (wks q4 (.initialized New1.yN.cls :: New1.site))
/-- the words ride from the start Z to the walk's own state -/
theorem moved {Z s : State} {a0 args : Array Value} (hZ : Z.Warmed39 s.vm) (hw : ∀ d ∈ words, d.before a0 Z = true) : ∀ d ∈ words, d.before args s = true := fun d hd => by
  have q := hw d hd
  have t : ∀ d ∈ words, d = .arrayClass .byte ∨ (d.onTables && d.keepsFace) = true := by decide +kernel
  rcases t d hd with rfl | t
  · exact RoadKit.mvA hZ q
  · exact RoadKit.mv hZ q t
/-- WHAT COMES BACK, over the tables of the start Z: h the heap at the call, h' behind it -/
def Q (Z : State) (x : Addr) (A : Cell) (h : Heap) (v : Option Value) (h' : Heap) (L : List Loc) : Prop := v = none ∧ (∀ y ∈ L, y.base = x) ∧ RoadKit.Keep h h' [x] ∧ h'.size = h.size + 1 ∧ RoadKit.Exa Z h' x ST ∧ RoadKit.Fld Z h' x ST "value" "[B" (.ref h.size) ∧ RoadKit.Fld Z h' x ST "coder" "B" (.int 0) ∧
  (∃ V : Cell, RoadKit.Arr Z h' h.size V .byte ∧ V.vm = .none ∧ Z.vm.findClass "[B" = some V.cls ∧ V.slots.size = A.slots.size ∧ ∀ j, j < A.slots.size → V.slots[j]? = some (.int (lo8 (cv A j)))) ∧
  ∀ (O n d : String) (w : Value), RoadKit.Fld Z h x O n d w → RoadKit.slotOf Z O n d ≠ RoadKit.slotOf Z ST "value" "[B" → RoadKit.slotOf Z O n d ≠ RoadKit.slotOf Z ST "coder" "B" → RoadKit.Fld Z h' x O n d w
/-- **new String(chars) AT A CALL, IN THE ROAD'S FORM**: for specialBack behind newO: x the fresh String, b the char[] with the cell A -/
theorem back {p : Program} {l : Launch} {e : Env} {R : Room} {s : State} {args : Array Value} {below : List Frame} {len W : Nat} {Z : State} {a0 : Array Value} {h : Heap} (hZ : Z.Warmed39 s.vm) (hw : ∀ d ∈ words, d.before a0 Z = true) {kI : Nat} (wi : (Jvm.Cond.instantiable ST kI).before a0 Z = true)
    {x b : Addr} {A : Cell} {z : Int32} {v0 c0 : Value} (E : RoadKit.Exa Z h x ST) (V : RoadKit.Fld Z h x ST "value" "[B" v0) (C : RoadKit.Fld Z h x ST "coder" "B" c0) (K : RoadKit.Arr Z h b A .char) (hty : Typed .char A) (S : RoadKit.Sta Z h ST "COMPACT_STRINGS" "Z" (.int z)) (hz : ¬ z = 0)
    (l0 : 0 < A.slots.size) (l2 : A.slots.size ≤ 536870912) (hp : ∀ i, i < A.slots.size → ¬ 255 < cv A i) (hfr : 4 ≤ R.frames) (hlo : W + 65 ≤ R.locals) :
    Back l R p e below s args New1.yN len W (fun P a => a = #[.ref x, .ref b] ∧ P.U.heap = h ∧ P.cells + 1 ≤ R.cells ∧ P.slots + A.slots.size ≤ R.slots)
      (fun P _ v B => ∃ L, Q Z x A h v B.U.heap L ∧ B.locs = P.locs ++ L ∧ B.cells = P.cells + 1 ∧ B.slots = P.slots + A.slots.size) := by
  intro m meth c P g ig mk a X hg hsize hdg hW hn hp'
  obtain ⟨rfl, rfl, r1, r2⟩ := hp'
  have al : Z.vm.Alike P.U.vm := hZ.alike.trans X.warmed.alike
  obtain ⟨D, cfV, kV, iV, fV, hD, gV, stV, knV, obV, asV, slV⟩ := id V
  obtain ⟨D', cfC, kC, iC, fC, hD', gC, stC, -, -, asC, slC⟩ := id C
  cases hD.symm.trans hD'
  obtain ⟨D2, kD, e1, e2, e3, e4, e5⟩ := id E
  cases hD.symm.trans e1
  obtain ⟨c2, k2, i1, i2, i3, -⟩ := Cond.instantiable_spec wi
  cases e2.symm.trans i1
  cases e3.symm.trans i2
  obtain ⟨kU, u1, u2⟩ := al.2.2 _ _ e3
  have hB : Blank ST x D P.U := ⟨hD, ⟨knV, fun q hq => by rw [hq] at obV; cases obV⟩, by rw [al.findClass]; exact e2, kU, u1, by rw [u2]; exact i3, by rw [u2]; exact e5 i3⟩
  have F1 : Found ST "value" "[B" fV P.U := ⟨SBG.found_only al ⟨cfV, kV, iV, gV⟩, stV⟩
  have F2 : Found ST "coder" "B" fC P.U := ⟨SBG.found_only al ⟨cfC, kC, iC, gC⟩, stC⟩
  have hA : Ch b A P.U := ⟨⟨K.1, State.isArrayOf_alike al K.2.1, K.2.2, by omega⟩, hty⟩
  have hS : StaticIs P.U ST "COMPACT_STRINGS" "Z" (.int z) := by
    obtain ⟨cfS, iS, kS, fS, st, cS, t1, t2, t3, t4, t5, t6, t7⟩ := S
    exact StaticIs.there (s := { Z with heap := P.U.heap }) ⟨cfS, iS, kS, fS, st, cS, t1, t2, t3, t4, t5, (fun q => by rw [q] at t6; cases t6), t7⟩ al rfl
  obtain ⟨v, B, X', ⟨⟨hv, E', V', q1, q2, q3, q4, q5, q6, q7, q8, q9, q10, q11⟩, hl, hc, hs⟩, st⟩ := New1.pays x D fV fC b A z (tab_of (moved hZ hw)) hfr hlo m meth c P g ig mk _ X hg hsize hdg hW hn ⟨r1, r2, rfl, hB, F1, F2, hA, hS, hz, l0, l2, hp⟩
  have al' : Z.vm.Alike B.U.vm := hZ.alike.trans X'.warmed.alike
  have hsz : E'.slots.size = D.slots.size := by
    obtain ⟨-, -, -, kB, w1, w2, w3⟩ := q1
    obtain ⟨kB', y1, y2⟩ := al'.2.2 _ _ e3
    rw [q2.2.1] at w1
    cases w1.symm.trans y1
    rw [w3, e5 i3, y2]
  refine ⟨v, B, X', ⟨_, ⟨hv, ?_, ⟨by omega, fun y cy hy hn' => q10 y cy (by simpa using hn') hy, fun y cy hy => ?_⟩, q11, ⟨E', _, q1.1, by rw [q2.2.1]; exact e2, by rw [q2.2.1]; exact e3, by rw [q2.1]; exact obV, fun _ => by rw [hsz]; exact e5 i3⟩,
    ⟨E', cfV, kV, iV, fV, q1.1, gV, stV, by rw [q2.1]; exact knV, by rw [q2.1]; exact obV, by rw [q2.2.1]; exact asV, q3⟩, ⟨E', cfC, kC, iC, fC, q1.1, gC, stC, by rw [q2.1]; exact knV, by rw [q2.1]; exact obV, by rw [q2.2.1]; exact asC, q4⟩,
    ⟨V', ⟨q5.1, State.isArrayOf_alike al'.symm q5.2.1, q5.2.2.1⟩, q6, by rw [← al'.findClass]; exact q7, q8, fun j hj => by have := q9 j hj; rwa [Nat.zero_add] at this⟩, fun O n d w F n1 n2 => ?_⟩, hl, hc, hs⟩, st⟩
  · intro y hy
    simp only [List.mem_cons, List.not_mem_nil, or_false] at hy
    rcases hy with rfl | rfl <;> rfl
  · by_cases q : y = x
    · subst q
      cases hD.symm.trans hy
      exact ⟨E', q1.1, q2.2.1, q2.1, hsz⟩
    · exact ⟨cy, q10 y cy q hy, rfl, rfl, rfl⟩
  · obtain ⟨D3, cf, k, i, f, g1, g2, g3, g4, g5, g6, g7⟩ := F
    cases hD.symm.trans g1
    simp only [RoadKit.slotOf, g2, gV, gC, Option.map_some, Option.getD_some] at n1 n2
    exact ⟨E', cf, k, i, f, q1.1, g2, g3, by rw [q2.1]; exact g4, by rw [q2.1]; exact g5, by rw [q2.2.1]; exact g6, by rw [q2.2.2 f.slot (by simp [n1, n2])]; exact g7⟩
end StrChars.Road
namespace StrChars.Road
open Jvm Sem ClassFile Op Lib Jvm.Stand Jvm.Free Jvm.Free.XT
/-- WHAT COMES BACK, the byte[] as a list of values -/
def QA (Z : State) (x : Addr) (zn : Int32) (cs : List Int32) (h : Heap) (v : Option Value) (h' : Heap) (L : List Loc) : Prop := v = none ∧ (∀ y ∈ L, y.base = x) ∧ RoadKit.Keep h h' [x] ∧ h'.size = h.size + 1 ∧ RoadKit.Exa Z h' x ST ∧ RoadKit.Fld Z h' x ST "value" "[B" (.ref h.size) ∧ RoadKit.Fld Z h' x ST "coder" "B" (.int 0) ∧
  (∃ kb, Z.vm.findClass "[B" = some kb ∧ RoadKit.Arv Z h' h.size kb .byte zn (cs.map fun c => .int (lo8 c)) (.int 0)) ∧
  ∀ (O n d : String) (w : Value), RoadKit.Fld Z h x O n d w → RoadKit.slotOf Z O n d ≠ RoadKit.slotOf Z ST "value" "[B" → RoadKit.slotOf Z O n d ≠ RoadKit.slotOf Z ST "coder" "B" → RoadKit.Fld Z h' x O n d w
/-- **new String(chars) AT A CALL, THE ARRAYS AS LISTS**: the char[] at b holds cs, not empty, no char above 255 -/
theorem backArv {p : Program} {l : Launch} {e : Env} {R : Room} {s : State} {args : Array Value} {below : List Frame} {len W : Nat} {Z : State} {a0 : Array Value} {h : Heap} (hZ : Z.Warmed39 s.vm) (hw : ∀ d ∈ words, d.before a0 Z = true) {kI : Nat} (wi : (Jvm.Cond.instantiable ST kI).before a0 Z = true)
    {x b : Addr} {k : ClassId} {zn z : Int32} {cs : List Int32} {dv v0 c0 : Value} (E : RoadKit.Exa Z h x ST) (V : RoadKit.Fld Z h x ST "value" "[B" v0) (C : RoadKit.Fld Z h x ST "coder" "B" c0) (K : RoadKit.Arv Z h b k .char zn (cs.map Value.int) dv) (S : RoadKit.Sta Z h ST "COMPACT_STRINGS" "Z" (.int z)) (hz : ¬ z = 0)
    (hlen : zn.toNatClampNeg = cs.length) (h0 : 0 < cs.length) (hbig : cs.length ≤ 536870912) (hall : ∀ c ∈ cs, ¬ 255 < c) (hfr : 4 ≤ R.frames) (hlo : W + 65 ≤ R.locals) :
    Back l R p e below s args New1.yN len W (fun P a => a = #[.ref x, .ref b] ∧ P.U.heap = h ∧ P.cells + 1 ≤ R.cells ∧ P.slots + cs.length ≤ R.slots)
      (fun P _ v B => ∃ L, QA Z x zn cs h v B.U.heap L ∧ B.locs = P.locs ++ L ∧ B.cells = P.cells + 1 ∧ B.slots = P.slots + cs.length) := by
  obtain ⟨A, K1, K2, K3, K4, K5, K6⟩ := K
  have e : A.slots.size = cs.length := K3.trans hlen
  have hat : ∀ (i : Nat) (hi : i < cs.length), A.slots[i]? = some (.int cs[i]) := fun i hi => by rw [K5 i (by omega)]; simp [List.getD_eq_getElem?_getD, hi]
  have hcv : ∀ (i : Nat) (hi : i < cs.length), cv A i = cs[i] := fun i hi => by unfold cv; rw [hat i hi]
  have hty : Typed .char A := fun i v hv => by
    have hi : i < A.slots.size := (Array.getElem?_eq_some_iff.mp hv).1
    have q := K5 i hi
    rw [hv] at q
    rw [Option.some.inj q]
    exact K6 i hi
  refine Back.mono (back hZ hw wi E V C K1 hty S hz (by omega) (by omega) (fun i hi => by rw [hcv i (by omega)]; exact hall _ (List.getElem_mem _)) hfr hlo) (fun P a hp => ⟨hp.1, hp.2.1, hp.2.2.1, by rw [e]; exact hp.2.2.2⟩) (fun P a v B hp hq => ?_)
  obtain ⟨L, ⟨q1, q2, q3, q4, q5, q6, q7, ⟨V', v1, v2, v3, v4, v5⟩, q9⟩, hl, hc, hs⟩ := hq
  refine ⟨L, ⟨q1, q2, q3, q4, q5, q6, q7, ⟨V'.cls, v3, V', v1, rfl, by rw [v4, e, hlen], K4, fun i hi => ?_, fun i hi => ?_⟩, q9⟩, hl, hc, by rw [hs, e]⟩
  · have hi' : i < cs.length := by omega
    rw [v5 i (by omega), hcv i hi']; simp [List.getD_eq_getElem?_getD, hi']
  · have hi' : i < cs.length := by omega
    simp only [List.getD_eq_getElem?_getD, List.getElem?_map, List.getElem?_eq_getElem hi', Option.map_some, Option.getD_some]
    exact fits_lo8 _
end StrChars.Road
namespace StrChars.Road
open Jvm Sem ClassFile Op Lib Jvm.Stand Jvm.Free Jvm.Free.XT
/-- WHAT COMES BACK, in the writer's own shape -/
def QV (Z : State) (x : Addr) (N : Int32) (bs : List Int32) (h : Heap) (n0 : Nat) (v : Option Value) (h' : Heap) (L : List Loc) : Prop := v = none ∧ RoadKit.Fr n0 L ∧ RoadKit.Keep h h' [x] ∧ RoadKit.Exa Z h' x ST ∧ RoadKit.Fld Z h' x ST "coder" "B" (.int 0) ∧
  ∃ (t : Addr) (kb : ClassId), n0 ≤ t ∧ h.size ≤ t ∧ ¬ t = x ∧ RoadKit.Fld Z h' x ST "value" "[B" (.ref t) ∧ RoadKit.Arv Z h' t kb .byte N (bs.map Value.int) (.int 0)
/-- **new String(chars) AT A CALL, FOR THE WRITER**: a char[] of n known ints, each 0 to 255 -/
theorem backV {p : Program} {l : Launch} {e : Env} {R : Room} {s : State} {args : Array Value} {below : List Frame} {len W : Nat} {Z : State} {a0 : Array Value} {h : Heap} (hZ : Z.Warmed39 s.vm) (hw : ∀ d ∈ words, d.before a0 Z = true) {kI : Nat} (wi : (Jvm.Cond.instantiable ST kI).before a0 Z = true)
    {x b : Addr} {kC : ClassId} {cs bs : List Int32} {d v0 c0 : Value} {z N : Int32} {n n0 : Nat} (hx0 : n0 ≤ x) (hh0 : n0 ≤ h.size) (E : RoadKit.Exa Z h x ST) (V : RoadKit.Fld Z h x ST "value" "[B" v0) (C : RoadKit.Fld Z h x ST "coder" "B" c0) (K : RoadKit.Arv Z h b kC .char N (cs.map Value.int) d) (S : RoadKit.Sta Z h ST "COMPACT_STRINGS" "Z" (.int z)) (hz : ¬ z = 0)
    (hn : cs.length = n) (hN : N = Int32.ofNat n) (l0 : 0 < n) (l2 : n ≤ 4000) (hp : ∀ c ∈ cs, ¬ c < 0 ∧ ¬ (255 : Int32) < c) (hb : bs = cs.map (fun c => c.toInt8.toInt32)) (hfr : 4 ≤ R.frames) (hlo : W + 65 ≤ R.locals) :
    Back l R p e below s args (⟨"java/lang/String", "<init>", "([C)V"⟩ : MethodName) len W (fun P a => a = #[.ref x, .ref b] ∧ P.U.heap = h ∧ P.cells + 1 ≤ R.cells ∧ P.slots + n ≤ R.slots)
      (fun P _ v B => ∃ L, QV Z x N bs h n0 v B.U.heap L ∧ B.locs = P.locs ++ L ∧ B.cells = P.cells + 1 ∧ B.slots = P.slots + n) := by
  subst hn hN hb
  refine Back.mono (backArv hZ hw wi E V C K S hz (n32 (by omega)) l0 (by omega) (fun c hc => (hp c hc).2) hfr hlo) (fun P a hp => hp) (fun P a v B hp hq => ?_)
  obtain ⟨L, ⟨q1, q2, q3, q4, q5, q6, q7, ⟨kb, v1, v2⟩, q9⟩, hl, hc, hs⟩ := hq
  exact ⟨L, ⟨q1, fun y hy => by rw [q2 y hy]; exact hx0, q3, q5, q7, h.size, kb, hh0, Nat.le_refl _, Nat.ne_of_gt E.lt, q6, by rw [List.map_map]; exact v2⟩, hl, hc, hs⟩
end StrChars.Road
end Jvm.Pilot.@@N@@
namespace Jvm.Pilot.@@N@@
open Jvm Jvm.ClassFile Sem Op Lib Jvm.Free Jvm.Stand Jvm.LawKit Jvm.RoadKit Bundle Jvm.Pilot.@@N@@.Jvm.D
theorem oW {Z : State} {a0 : Array Value} (hw : ∀ d ∈ tables_1, d.before a0 Z = true) (i : Nat) {d : Jvm.Cond} (h : tables_1[i]? = some d) : d.before a0 Z = true := hw d (List.mem_of_getElem? h)
abbrev oI (x : Int32) : Slot := .val (.int x)
abbrev oR (x : Addr) : Slot := .val (.ref x)
abbrev oV (x : Value) : Slot := .val x
abbrev oN : Slot := .val .null
abbrev oU : Slot := .unset
abbrev oi (x : Int32) : Value := .int x
abbrev ow (x : Addr) : Value := .ref x
abbrev oS (p : Program) (e : Env) (below : List Frame) (T : State) (g : JFrame) (t : State) : Prop := Steps p.tables e below (T.setTop g) t
abbrev oL (p : Program) (e : Env) (below : List Frame) (T : State) (g : JFrame) (T' : State) (g' : JFrame) : Prop := ∀ t, Steps p.tables e below (T.setTop g) t → Steps p.tables e below (T'.setTop g') t
theorem own_fldI {args : Array Value} {Z : State} {t : Term} {C n d : String} {k : Int32} {a : Addr} (ev : t.eval args Z none [] Z = some (.ref a)) (h : (Jvm.Cond.eq (.field t C n d) (.int k)).value args Z none Z [] = some true) : Fld Z Z.heap a C n d (.int k) := by
  obtain ⟨x, y, h1, h2, hk, hk'⟩ := cmp_v (Or.inl h)
  have h2' : y = .int k := by simpa [Term.eval] using h2.symm
  subst h2'
  obtain ⟨z, rfl⟩ : ∃ z, x = .int z := hk'
  have : z = k := by simpa [Cond.value, h1, h2] using h
  subst this
  exact Fld.start ((fld_at ev).symm.trans h1)
theorem own_nb {b : Int32} (h : b = 0 ∨ b = 1) : nar .boolean b = b := by rcases h with rfl | rfl <;> rfl
theorem own_st1 {v : Value} (h : v.isRef = true) {l l' : Array Slot} {i : Nat} (hold : l[i]? = some .unset) (h2 : l.setIfInBounds i (.val v) = l') : storeLocals l i v = some l' := by
  subst h2
  exact XS.store1 hold (Or.inl rfl) (by rcases ref_cases h with rfl | ⟨a, rfl⟩ <;> rfl)
theorem own_narw_bool {x : Int32} (h : nar .boolean x = x) : narrow .boolean (.int x) = .int x := by show Value.int (nar .boolean x) = _; rw [h]
theorem own_fitw_bool {x : Int32} (h : nar .boolean x = x) : fits .boolean (.int x) = true := by rw [← h]; exact fits_nar_bool x
theorem own_narw_char {x : Int32} (h : nar .char x = x) : narrow .char (.int x) = .int x := by show Value.int (nar .char x) = _; rw [h]
theorem own_fitw_char {x : Int32} (h : nar .char x = x) : fits .char (.int x) = true := by rw [← h]; exact fits_nar_char x
theorem own_fitsR {C : String} {v : Value} (h : v.isRef = true) : fits (.object C) v = true := by rcases ref_cases h with rfl | ⟨a, rfl⟩ <;> rfl
theorem own_charN (x : Int32) : (x.toUInt32.toUInt16.toUInt32.toInt32).toBitVec.toNat = x.toBitVec.toNat % 65536 := by
  show ((x.toBitVec.setWidth 16).setWidth 32).toNat = _
  simp
  omega
theorem own_narc {x : Int32} (h : x.toBitVec.toNat < 65536) : x.toUInt32.toUInt16.toUInt32.toInt32 = x := by
  apply Int32.toBitVec_inj.mp
  apply BitVec.eq_of_toNat_eq
  rw [own_charN, Nat.mod_eq_of_lt h]
theorem own_i2c (x : Int32) : nar .char (x.toUInt32.toUInt16.toUInt32.toInt32) = x.toUInt32.toUInt16.toUInt32.toInt32 := by
  show (x.toUInt32.toUInt16.toUInt32.toInt32).toUInt32.toUInt16.toUInt32.toInt32 = _
  exact own_narc (by rw [own_charN]; exact Nat.mod_lt _ (by decide))
theorem own_c255 (x : Int32) : ¬ nar .char ((x &&& (255 : Int32)).toUInt32.toUInt16.toUInt32.toInt32) < 0 ∧ ¬ (255 : Int32) < nar .char ((x &&& (255 : Int32)).toUInt32.toUInt16.toUInt32.toInt32) := by
  have t : ∀ k : Fin 256, ¬ nar .char ((Int32.ofNat k.val).toUInt32.toUInt16.toUInt32.toInt32) < 0 ∧ ¬ (255 : Int32) < nar .char ((Int32.ofNat k.val).toUInt32.toUInt16.toUInt32.toInt32) := by decide +kernel
  have h : (x &&& 255).toBitVec.toNat < 256 := by
    simp only [Int32.toBitVec_and, BitVec.toNat_and]
    exact Nat.lt_succ_of_le Nat.and_le_right
  have e : (x &&& 255) = Int32.ofNat (x &&& 255).toBitVec.toNat := by
    apply Int32.toBitVec_inj.mp
    show _ = BitVec.ofNat 32 _
    rw [BitVec.ofNat_toNat]; simp
  rw [e]
  exact t ⟨_, h⟩
theorem own_hws : ∀ d ∈ StrChars.Road.words, d ∈ tables_1 := by decide +kernel
theorem pn_java_lang_Record : plainName "java/lang/Record" = true := by first | (simp [plainName, overriddenIn]; done) | decide +kernel
theorem d10_0 : decode jdk_30_method_1_code 0 = .ok (.aload_n 0, 1) := by decide +kernel
theorem d10_1 : decode jdk_30_method_1_code 1 = .ok (.invokespecial 1, 3) := by decide +kernel
theorem d10_4 : decode jdk_30_method_1_code 4 = .ok (.return_, 1) := by decide +kernel
def Q_rm_rec (Z : State) (a1 : Addr) (h0 : Heap) (n0 : Nat) (v : Option Value) (h : Heap) (L : List Loc) : Prop := v = none ∧ Fr n0 L ∧ h = h0
set_option maxRecDepth 65536 in
set_option maxHeartbeats 40000000 in
theorem rm_rec (l : Launch) (Z : State) (a0 : Array Value) (hw : ∀ d ∈ tables_1, d.before a0 Z = true) (ws : List Jvm.Cond) (a1 : Addr) (h0 : Heap) (n0 : Nat) (OL : Old Z n0 h0) :
    MetFree l (⟨"java/lang/Record", "<init>", "()V"⟩ : MethodName) (head1 (Jvm.Cond.code (⟨"java/lang/Record", "<init>", "()V"⟩ : MethodName) jdk_30_method_1_code 1 none :: ws) ({ frames := 1, cells := 0, slots := 0, locals := 12 } : Room)) (fun a U => a = #[(.ref a1)] ∧ Z.Warmed39 U.vm ∧ U.heap = h0) (fun _ _ _ _ _ => True) (fun _ U o U' => ∃ v L, o = .returned v ∧ Q_rm_rec Z a1 h0 n0 v U'.heap L ∧ FrameEnd U o U' L ({ frames := 1, cells := 0, slots := 0, locals := 12 } : Room).cells ({ frames := 1, cells := 0, slots := 0, locals := 12 } : Room).slots) := by
  refine MetFree.of_bodySF (plainFor_of_name pn_java_lang_Record) hisR ?_
  intro p e s m args below meth c s₁ Bd hml0 hP hK
  obtain ⟨rfl, hZ, hh⟩ := hP
  have hx := Bd.exec
  have hby := Bd.bytes
  have hml : c.maxLocals = 1 := hml0
  have hown : s.vm.findClass "java/lang/Record" = some m.cls := findClass_of_methodNamed Bd.named
  have hnm := (name_of_methodNamed Bd.named Bd.method).1
  have X0 : Stand p l e ({ frames := 1, cells := 0, slots := 0, locals := 12 } : Room) s m #[(.ref a1)] below meth c s₁ [] 0 0 := Stand.of_body Bd
  have e0 : s₁.heap = h0 := by rw [← hh, Bd.state]; rfl
  have N0 := Fr.nil n0
  have pre0 : oL p e below s₁ (mkF m 0 #[oR a1] []) s₁ (entryFrame m #[(.ref a1)] 1) := fun t k => castTop (by first | (simp [entryFrame, mkF, argsToLocals, Value.category]; done) | rfl) k
  have pre11 : oL p e below s₁ (mkF m 1 #[oR a1] [ow a1]) s₁ (entryFrame m #[(.ref a1)] 1) := fun t k => pre0 t (by
    refine XS.aloadN X0.here hx rfl (hb hby d10_0) rfl rfl ?_
    exact k)
  obtain ⟨T12, X12, e12, st12⟩ := initO X0 hx hZ hown (oW hw 50 rfl) (oW hw 12 rfl) (oW hw 13 rfl) e0 (g := (mkF m 1 #[oR a1] [ow a1])) rfl (by rw [hml]; rfl) rfl (hb hby d10_1) (by decide) (W := 0) (by show 2 * 0 + _ ≤ _; exact Nat.le_of_eq rfl) (by decide)
  have pre13 : oL p e below T12 (mkF m 4 #[oR a1] []) s₁ (entryFrame m #[(.ref a1)] 1) := fun t k => pre11 t (by
    refine st12 _ ?_
    exact k)
  obtain ⟨fs, hr, hrun, hended, hW, hsame⟩ := X12.leave (v := none) (fun _ => rfl)
  refine ⟨_, _, pre13 _ ?_, hrun, hended, _, _, rfl, ?_, ⟨_, rfl⟩, hW, hsame.mono (by decide) (by decide)⟩
  ·
    show oS p e below T12 (mkF m 4 #[oR a1] []) _
    exact X12.returnOut hx Bd.returns (hb hby d10_4) hr
  ·
    show Q_rm_rec Z a1 h0 n0 _ T12.heap _
    rw [e12]
    exact ⟨rfl, N0, rfl⟩
theorem pn_com_example_vedette_vedette_definition_SubfieldDefinition : plainName "com/example/vedette/vedette/definition/SubfieldDefinition" = true := by first | (simp [plainName, overriddenIn]; done) | decide +kernel
theorem d15_0 : decode prog_9_method_2_code 0 = .ok (.aload_n 0, 1) := by decide +kernel
theorem d15_1 : decode prog_9_method_2_code 1 = .ok (.invokespecial 1, 3) := by decide +kernel
theorem pd___V : parseMethodDescriptor "()V" = some ⟨[], none⟩ := by decide +kernel
theorem d15_4 : decode prog_9_method_2_code 4 = .ok (.aload_n 0, 1) := by decide +kernel
theorem d15_5 : decode prog_9_method_2_code 5 = .ok (.iload_n 1, 1) := by decide +kernel
theorem d15_6 : decode prog_9_method_2_code 6 = .ok (.putfield 7, 3) := by decide +kernel
theorem d15_9 : decode prog_9_method_2_code 9 = .ok (.aload_n 0, 1) := by decide +kernel
theorem d15_10 : decode prog_9_method_2_code 10 = .ok (.aload_n 2, 1) := by decide +kernel
theorem d15_11 : decode prog_9_method_2_code 11 = .ok (.putfield 13, 3) := by decide +kernel
theorem d15_14 : decode prog_9_method_2_code 14 = .ok (.aload_n 0, 1) := by decide +kernel
theorem d15_15 : decode prog_9_method_2_code 15 = .ok (.iload_n 3, 1) := by decide +kernel
theorem d15_16 : decode prog_9_method_2_code 16 = .ok (.putfield 17, 3) := by decide +kernel
theorem d15_19 : decode prog_9_method_2_code 19 = .ok (.aload_n 0, 1) := by decide +kernel
theorem d15_20 : decode prog_9_method_2_code 20 = .ok (.iload 4, 2) := by decide +kernel
theorem d15_22 : decode prog_9_method_2_code 22 = .ok (.putfield 21, 3) := by decide +kernel
theorem d15_25 : decode prog_9_method_2_code 25 = .ok (.aload_n 0, 1) := by decide +kernel
theorem d15_26 : decode prog_9_method_2_code 26 = .ok (.aload 5, 2) := by decide +kernel
theorem d15_28 : decode prog_9_method_2_code 28 = .ok (.putfield 24, 3) := by decide +kernel
theorem d15_31 : decode prog_9_method_2_code 31 = .ok (.return_, 1) := by decide +kernel
def Q_rm_sd (Z : State) (a1 : Addr) (pc : Int32) (an : Addr) (pr : Int32) (pm : Int32) (cv : Value) (h0 : Heap) (n0 : Nat) (v : Option Value) (h : Heap) (L : List Loc) : Prop := v = none ∧ Fr n0 L ∧ Keep h0 h [a1] ∧ Exa Z h a1 "com/example/vedette/vedette/definition/SubfieldDefinition" ∧ Fld Z h a1 "com/example/vedette/vedette/definition/SubfieldDefinition" "code" "C" (.int pc) ∧ Fld Z h a1 "com/example/vedette/vedette/definition/SubfieldDefinition" "name" "Ljava/lang/String;" (.ref an) ∧ Fld Z h a1 "com/example/vedette/vedette/definition/SubfieldDefinition" "repeatable" "Z" (.int pr) ∧ Fld Z h a1 "com/example/vedette/vedette/definition/SubfieldDefinition" "mandatory" "Z" (.int pm) ∧ Fld Z h a1 "com/example/vedette/vedette/definition/SubfieldDefinition" "controlValue" "Lcom/example/vedette/vedette/definition/ControlValueDefinition;" cv
set_option maxRecDepth 65536 in
set_option maxHeartbeats 40000000 in
theorem rm_sd (l : Launch) (Z : State) (a0 : Array Value) (hw : ∀ d ∈ tables_1, d.before a0 Z = true) (ws : List Jvm.Cond) (a1 : Addr) (pc : Int32) (an : Addr) (pr : Int32) (pm : Int32) (cv : Value) (h0 : Heap) (n0 : Nat) (OL : Old Z n0 h0) (ge1 : n0 ≤ a1) (E1 : Exa Z h0 a1 "com/example/vedette/vedette/definition/SubfieldDefinition") (F_code : Fld Z h0 a1 "com/example/vedette/vedette/definition/SubfieldDefinition" "code" "C" (.int (0 : Int32))) (F_name : Fld Z h0 a1 "com/example/vedette/vedette/definition/SubfieldDefinition" "name" "Ljava/lang/String;" .null) (F_repeatable : Fld Z h0 a1 "com/example/vedette/vedette/definition/SubfieldDefinition" "repeatable" "Z" (.int (0 : Int32))) (F_mandatory : Fld Z h0 a1 "com/example/vedette/vedette/definition/SubfieldDefinition" "mandatory" "Z" (.int (0 : Int32))) (F_controlValue : Fld Z h0 a1 "com/example/vedette/vedette/definition/SubfieldDefinition" "controlValue" "Lcom/example/vedette/vedette/definition/ControlValueDefinition;" .null) (nc : nar .char pc = pc) (nr : nar .boolean pr = pr) (nm : nar .boolean pm = pm) (hcv : cv.isRef = true) :
    MetFree l (⟨"com/example/vedette/vedette/definition/SubfieldDefinition", "<init>", "(CLjava/lang/String;ZZLcom/example/vedette/vedette/definition/ControlValueDefinition;)V"⟩ : MethodName) (head1 (Jvm.Cond.code (⟨"com/example/vedette/vedette/definition/SubfieldDefinition", "<init>", "(CLjava/lang/String;ZZLcom/example/vedette/vedette/definition/ControlValueDefinition;)V"⟩ : MethodName) prog_9_method_2_code 6 none :: ws) ({ frames := 2, cells := 0, slots := 0, locals := 24 } : Room)) (fun a U => a = #[(.ref a1), (.int pc), (.ref an), (.int pr), (.int pm), cv] ∧ Z.Warmed39 U.vm ∧ U.heap = h0) (fun _ _ _ _ _ => True) (fun _ U o U' => ∃ v L, o = .returned v ∧ Q_rm_sd Z a1 pc an pr pm cv h0 n0 v U'.heap L ∧ FrameEnd U o U' L ({ frames := 2, cells := 0, slots := 0, locals := 24 } : Room).cells ({ frames := 2, cells := 0, slots := 0, locals := 24 } : Room).slots) := by
  refine MetFree.of_bodySF (plainFor_of_name pn_com_example_vedette_vedette_definition_SubfieldDefinition) hisR ?_
  intro p e s m args below meth c s₁ Bd hml0 hP hK
  obtain ⟨rfl, hZ, hh⟩ := hP
  have hx := Bd.exec
  have hby := Bd.bytes
  have hml : c.maxLocals = 6 := hml0
  have hown : s.vm.findClass "com/example/vedette/vedette/definition/SubfieldDefinition" = some m.cls := findClass_of_methodNamed Bd.named
  have hnm := (name_of_methodNamed Bd.named Bd.method).1
  have X0 : Stand p l e ({ frames := 2, cells := 0, slots := 0, locals := 24 } : Room) s m #[(.ref a1), (.int pc), (.ref an), (.int pr), (.int pm), cv] below meth c s₁ [] 0 0 := Stand.of_body Bd
  have e0 : s₁.heap = h0 := by rw [← hh, Bd.state]; rfl
  have N0 := Fr.nil n0
  have pre0 : oL p e below s₁ (mkF m 0 #[oR a1, oI pc, oR an, oI pr, oI pm, oV cv] []) s₁ (entryFrame m #[(.ref a1), (.int pc), (.ref an), (.int pr), (.int pm), cv] 6) := fun t k => castTop (by rcases ref_cases hcv with rfl | ⟨_, rfl⟩ <;> first | (simp [entryFrame, mkF, argsToLocals, Value.category]; done) | rfl) k
  have pre11 : oL p e below s₁ (mkF m 1 #[oR a1, oI pc, oR an, oI pr, oI pm, oV cv] [ow a1]) s₁ (entryFrame m #[(.ref a1), (.int pc), (.ref an), (.int pr), (.int pm), cv] 6) := fun t k => pre0 t (by
    refine XS.aloadN X0.here hx rfl (hb hby d15_0) rfl rfl ?_
    exact k)
  obtain ⟨_, _, ⟨T12, L12, k12, n12⟩, -, X12, ⟨Lc12, hQ12, l12, y12, z12⟩, st12⟩ := X0.specialBack hx (y := (⟨"java/lang/Record", "<init>", "()V"⟩ : MethodName)) rfl hown (mvT hZ (oW hw 93 rfl)) (mvT hZ (oW hw 46 rfl)) (mvT hZ (oW hw 49 rfl)) (by decide) (backOf (W := 0) (rm_rec l Z a0 hw [] a1 h0 n0 OL ) hZ (oW hw 49 rfl) (oW hw 48 rfl) (by decide) (by decide)) (g := (mkF m 1 #[oR a1, oI pc, oR an, oI pr, oI pm, oV cv] [ow a1])) rfl (by rw [hml]; rfl) (Steps.refl _) (a := a1) (argsL := []) (rest := []) (lenOf pd___V rfl) rfl (by show 2 * 0 + _ ≤ _; exact Nat.le_of_eq rfl) (hb hby d15_1) (fun _ _ => ⟨rfl, e0, (by decide : 0 + 0 ≤ _), (by decide : 0 + 0 ≤ _)⟩)
  dsimp only [Pt.U, Pt.locs, Pt.cells, Pt.slots] at X12 l12 y12 z12 st12 hQ12
  subst l12 y12 z12
  obtain ⟨rfl, N12q, e12⟩ := hQ12
  have N12 := Fr.app N0 N12q
  have pre13 : oL p e below T12 (mkF m 6 #[oR a1, oI pc, oR an, oI pr, oI pm, oV cv] [oi pc, ow a1]) s₁ (entryFrame m #[(.ref a1), (.int pc), (.ref an), (.int pr), (.int pm), cv] 6) := fun t k => pre11 t (by
    refine st12.trans ?_
    refine XS.aloadN X12.here hx rfl (hb hby d15_4) rfl rfl ?_
    refine XS.iloadN X12.here hx rfl (hb hby d15_5) rfl ?_
    show oS p e below T12 (mkF m 6 #[oR a1, oI pc, oR an, oI pr, oI pm, oV cv] [oi pc, ow a1]) _
    exact k)
  obtain ⟨T14, h14, X14, e14, W14, st14⟩ := putFN X12 hx hZ hown (oW hw 94 rfl) Via.refl e12 F_code E1 (Or.inr ⟨(oW hw 95 rfl), rfl, hnm⟩) (oW hw 88 rfl) (ty := .char) (v' := (.int pc)) (by decide) (own_narw_char nc) (own_fitw_char nc) (g := (mkF m 6 #[oR a1, oI pc, oR an, oI pr, oI pm, oV cv] [oi pc, ow a1])) rfl rfl (hb hby d15_6)
  have f15 := F_code.same W14
  have N14 := Fr.snoc X14 N12 ge1
  have f16 := E1.wr W14
  have f17 := F_name.other W14 (Or.inr (slot_ne (Or.inr (oW hw 97 rfl)) (Or.inr (oW hw 95 rfl)) (by decide) (t := (.object "java/lang/String")) (t' := .char) (by decide) (by decide)))
  have f18 := F_repeatable.other W14 (Or.inr (slot_ne (Or.inr (oW hw 99 rfl)) (Or.inr (oW hw 95 rfl)) (by decide) (t := .boolean) (t' := .char) (by decide) (by decide)))
  have f19 := F_mandatory.other W14 (Or.inr (slot_ne (Or.inr (oW hw 101 rfl)) (Or.inr (oW hw 95 rfl)) (by decide) (t := .boolean) (t' := .char) (by decide) (by decide)))
  have f20 := F_controlValue.other W14 (Or.inr (slot_ne (Or.inr (oW hw 103 rfl)) (Or.inr (oW hw 95 rfl)) (by decide) (t := (.object "com/example/vedette/vedette/definition/ControlValueDefinition")) (t' := .char) (by decide) (by decide)))
  have OL21 := OL.wr W14 ge1
  have K22 : Keep h0 h14 [a1] := (Keep.refl h0 [a1]).wr W14 (Or.inl (List.mem_of_getElem? (i := 0) rfl))
  have pre23 : oL p e below T14 (mkF m 11 #[oR a1, oI pc, oR an, oI pr, oI pm, oV cv] [ow an, ow a1]) s₁ (entryFrame m #[(.ref a1), (.int pc), (.ref an), (.int pr), (.int pm), cv] 6) := fun t k => pre13 t (by
    refine st14 _ ?_
    refine XS.aloadN X14.here hx rfl (hb hby d15_9) rfl rfl ?_
    refine XS.aloadN X14.here hx rfl (hb hby d15_10) rfl rfl ?_
    exact k)
  obtain ⟨T24, h24, X24, e24, W24, st24⟩ := putF X14 hx hZ hown (host := "") (Or.inl (oW hw 96 rfl)) Via.refl e14 f17 f16 (Or.inr ⟨(oW hw 97 rfl), rfl, hnm⟩) (oW hw 88 rfl) (ty := (.object "java/lang/String")) (by decide) rfl rfl (g := (mkF m 11 #[oR a1, oI pc, oR an, oI pr, oI pm, oV cv] [ow an, ow a1])) rfl rfl (hb hby d15_11)
  have f25 := f17.same W24
  have N24 := Fr.snoc X24 N14 ge1
  have f26 := f16.wr W24
  have f27 := f15.other W24 (Or.inr (slot_ne (Or.inr (oW hw 95 rfl)) (Or.inr (oW hw 97 rfl)) (by decide) (t := .char) (t' := (.object "java/lang/String")) (by decide) (by decide)))
  have f28 := f18.other W24 (Or.inr (slot_ne (Or.inr (oW hw 99 rfl)) (Or.inr (oW hw 97 rfl)) (by decide) (t := .boolean) (t' := (.object "java/lang/String")) (by decide) (by decide)))
  have f29 := f19.other W24 (Or.inr (slot_ne (Or.inr (oW hw 101 rfl)) (Or.inr (oW hw 97 rfl)) (by decide) (t := .boolean) (t' := (.object "java/lang/String")) (by decide) (by decide)))
  have f30 := f20.other W24 (Or.inr (slot_ne (Or.inr (oW hw 103 rfl)) (Or.inr (oW hw 97 rfl)) (by decide) (t := (.object "com/example/vedette/vedette/definition/ControlValueDefinition")) (t' := (.object "java/lang/String")) (by decide) (by decide)))
  have OL31 := OL21.wr W24 ge1
  have K32 : Keep h0 h24 [a1] := K22.wr W24 (Or.inl (List.mem_of_getElem? (i := 0) rfl))
  have pre33 : oL p e below T24 (mkF m 16 #[oR a1, oI pc, oR an, oI pr, oI pm, oV cv] [oi pr, ow a1]) s₁ (entryFrame m #[(.ref a1), (.int pc), (.ref an), (.int pr), (.int pm), cv] 6) := fun t k => pre23 t (by
    refine st24 _ ?_
    show oS p e below T24 (mkF m 14 #[oR a1, oI pc, oR an, oI pr, oI pm, oV cv] []) _
    refine XS.aloadN X24.here hx rfl (hb hby d15_14) rfl rfl ?_
    refine XS.iloadN X24.here hx rfl (hb hby d15_15) rfl ?_
    exact k)
  obtain ⟨T34, h34, X34, e34, W34, st34⟩ := putFN X24 hx hZ hown (oW hw 98 rfl) Via.refl e24 f28 f26 (Or.inr ⟨(oW hw 99 rfl), rfl, hnm⟩) (oW hw 88 rfl) (ty := .boolean) (v' := (.int pr)) (by decide) (own_narw_bool nr) (own_fitw_bool nr) (g := (mkF m 16 #[oR a1, oI pc, oR an, oI pr, oI pm, oV cv] [oi pr, ow a1])) rfl rfl (hb hby d15_16)
  have f35 := f28.same W34
  have N34 := Fr.snoc X34 N24 ge1
  have f36 := f26.wr W34
  have f37 := f27.other W34 (Or.inr (slot_ne (Or.inr (oW hw 95 rfl)) (Or.inr (oW hw 99 rfl)) (by decide) (t := .char) (t' := .boolean) (by decide) (by decide)))
  have f38 := f25.other W34 (Or.inr (slot_ne (Or.inr (oW hw 97 rfl)) (Or.inr (oW hw 99 rfl)) (by decide) (t := (.object "java/lang/String")) (t' := .boolean) (by decide) (by decide)))
  have f39 := f29.other W34 (Or.inr (slot_ne (Or.inr (oW hw 101 rfl)) (Or.inr (oW hw 99 rfl)) (by decide) (t := .boolean) (t' := .boolean) (by decide) (by decide)))
  have f40 := f30.other W34 (Or.inr (slot_ne (Or.inr (oW hw 103 rfl)) (Or.inr (oW hw 99 rfl)) (by decide) (t := (.object "com/example/vedette/vedette/definition/ControlValueDefinition")) (t' := .boolean) (by decide) (by decide)))
  have OL41 := OL31.wr W34 ge1
  have K42 : Keep h0 h34 [a1] := K32.wr W34 (Or.inl (List.mem_of_getElem? (i := 0) rfl))
  have pre43 : oL p e below T34 (mkF m 22 #[oR a1, oI pc, oR an, oI pr, oI pm, oV cv] [oi pm, ow a1]) s₁ (entryFrame m #[(.ref a1), (.int pc), (.ref an), (.int pr), (.int pm), cv] 6) := fun t k => pre33 t (by
    refine st34 _ ?_
    refine XS.aloadN X34.here hx rfl (hb hby d15_19) rfl rfl ?_
    show oS p e below T34 (mkF m 20 #[oR a1, oI pc, oR an, oI pr, oI pm, oV cv] [ow a1]) _
    refine XS.iload X34.here hx rfl (hb hby d15_20) rfl ?_
    exact k)
  obtain ⟨T44, h44, X44, e44, W44, st44⟩ := putFN X34 hx hZ hown (oW hw 100 rfl) Via.refl e34 f39 f36 (Or.inr ⟨(oW hw 101 rfl), rfl, hnm⟩) (oW hw 88 rfl) (ty := .boolean) (v' := (.int pm)) (by decide) (own_narw_bool nm) (own_fitw_bool nm) (g := (mkF m 22 #[oR a1, oI pc, oR an, oI pr, oI pm, oV cv] [oi pm, ow a1])) rfl rfl (hb hby d15_22)
  have f45 := f39.same W44
  have N44 := Fr.snoc X44 N34 ge1
  have f46 := f36.wr W44
  have f47 := f37.other W44 (Or.inr (slot_ne (Or.inr (oW hw 95 rfl)) (Or.inr (oW hw 101 rfl)) (by decide) (t := .char) (t' := .boolean) (by decide) (by decide)))
  have f48 := f38.other W44 (Or.inr (slot_ne (Or.inr (oW hw 97 rfl)) (Or.inr (oW hw 101 rfl)) (by decide) (t := (.object "java/lang/String")) (t' := .boolean) (by decide) (by decide)))
  have f49 := f35.other W44 (Or.inr (slot_ne (Or.inr (oW hw 99 rfl)) (Or.inr (oW hw 101 rfl)) (by decide) (t := .boolean) (t' := .boolean) (by decide) (by decide)))
  have f50 := f40.other W44 (Or.inr (slot_ne (Or.inr (oW hw 103 rfl)) (Or.inr (oW hw 101 rfl)) (by decide) (t := (.object "com/example/vedette/vedette/definition/ControlValueDefinition")) (t' := .boolean) (by decide) (by decide)))
  have OL51 := OL41.wr W44 ge1
  have K52 : Keep h0 h44 [a1] := K42.wr W44 (Or.inl (List.mem_of_getElem? (i := 0) rfl))
  have pre53 : oL p e below T44 (mkF m 28 #[oR a1, oI pc, oR an, oI pr, oI pm, oV cv] [cv, ow a1]) s₁ (entryFrame m #[(.ref a1), (.int pc), (.ref an), (.int pr), (.int pm), cv] 6) := fun t k => pre43 t (by
    refine st44 _ ?_
    refine XS.aloadN X44.here hx rfl (hb hby d15_25) rfl rfl ?_
    refine XS.aload X44.here hx rfl (hb hby d15_26) rfl hcv ?_
    show oS p e below T44 (mkF m 28 #[oR a1, oI pc, oR an, oI pr, oI pm, oV cv] [cv, ow a1]) _
    exact k)
  obtain ⟨T54, h54, X54, e54, W54, st54⟩ := putF X44 hx hZ hown (host := "") (Or.inl (oW hw 102 rfl)) Via.refl e44 f50 f46 (Or.inr ⟨(oW hw 103 rfl), rfl, hnm⟩) (oW hw 88 rfl) (ty := (.object "com/example/vedette/vedette/definition/ControlValueDefinition")) (by decide) rfl (own_fitsR hcv) (g := (mkF m 28 #[oR a1, oI pc, oR an, oI pr, oI pm, oV cv] [cv, ow a1])) rfl rfl (hb hby d15_28)
  have f55 := f50.same W54
  have N54 := Fr.snoc X54 N44 ge1
  have f56 := f46.wr W54
  have f57 := f47.other W54 (Or.inr (slot_ne (Or.inr (oW hw 95 rfl)) (Or.inr (oW hw 103 rfl)) (by decide) (t := .char) (t' := (.object "com/example/vedette/vedette/definition/ControlValueDefinition")) (by decide) (by decide)))
  have f58 := f48.other W54 (Or.inr (slot_ne (Or.inr (oW hw 97 rfl)) (Or.inr (oW hw 103 rfl)) (by decide) (t := (.object "java/lang/String")) (t' := (.object "com/example/vedette/vedette/definition/ControlValueDefinition")) (by decide) (by decide)))
  have f59 := f49.other W54 (Or.inr (slot_ne (Or.inr (oW hw 99 rfl)) (Or.inr (oW hw 103 rfl)) (by decide) (t := .boolean) (t' := (.object "com/example/vedette/vedette/definition/ControlValueDefinition")) (by decide) (by decide)))
  have f60 := f45.other W54 (Or.inr (slot_ne (Or.inr (oW hw 101 rfl)) (Or.inr (oW hw 103 rfl)) (by decide) (t := .boolean) (t' := (.object "com/example/vedette/vedette/definition/ControlValueDefinition")) (by decide) (by decide)))
  have OL61 := OL51.wr W54 ge1
  have K62 : Keep h0 h54 [a1] := K52.wr W54 (Or.inl (List.mem_of_getElem? (i := 0) rfl))
  have pre63 : oL p e below T54 (mkF m 31 #[oR a1, oI pc, oR an, oI pr, oI pm, oV cv] []) s₁ (entryFrame m #[(.ref a1), (.int pc), (.ref an), (.int pr), (.int pm), cv] 6) := fun t k => pre53 t (by
    refine st54 _ ?_
    exact k)
  obtain ⟨fs, hr, hrun, hended, hW, hsame⟩ := X54.leave (v := none) (fun _ => rfl)
  refine ⟨_, _, pre63 _ ?_, hrun, hended, _, _, rfl, ?_, ⟨_, rfl⟩, hW, hsame.mono (by decide) (by decide)⟩
  ·
    show oS p e below T54 (mkF m 31 #[oR a1, oI pc, oR an, oI pr, oI pm, oV cv] []) _
    exact X54.returnOut hx Bd.returns (hb hby d15_31) hr
  ·
    show Q_rm_sd Z a1 pc an pr pm cv h0 n0 _ T54.heap _
    rw [e54]
    exact ⟨rfl, N54, K62, f56, f57, f58, f59, f60, f55⟩
theorem d16_0 : decode prog_9_method_3_code 0 = .ok (.new 8, 3) := by decide +kernel
theorem d16_3 : decode prog_9_method_3_code 3 = .ok (.dup, 1) := by decide +kernel
theorem d16_4 : decode prog_9_method_3_code 4 = .ok (.aload_n 0, 1) := by decide +kernel
theorem d16_5 : decode prog_9_method_3_code 5 = .ok (.getfield 7, 3) := by decide +kernel
theorem d16_8 : decode prog_9_method_3_code 8 = .ok (.aload_n 0, 1) := by decide +kernel
theorem d16_9 : decode prog_9_method_3_code 9 = .ok (.getfield 13, 3) := by decide +kernel
theorem d16_12 : decode prog_9_method_3_code 12 = .ok (.aload_n 0, 1) := by decide +kernel
theorem d16_13 : decode prog_9_method_3_code 13 = .ok (.getfield 17, 3) := by decide +kernel
theorem d16_16 : decode prog_9_method_3_code 16 = .ok (.aload_n 0, 1) := by decide +kernel
theorem d16_17 : decode prog_9_method_3_code 17 = .ok (.getfield 21, 3) := by decide +kernel
theorem d16_20 : decode prog_9_method_3_code 20 = .ok (.aload_n 1, 1) := by decide +kernel
theorem d16_21 : decode prog_9_method_3_code 21 = .ok (.invokespecial 28, 3) := by decide +kernel
theorem pd__CLjava_lang_String_ZZLcom_example_vedette_vedette_definition_ControlValueDefinition__V : parseMethodDescriptor "(CLjava/lang/String;ZZLcom/example/vedette/vedette/definition/ControlValueDefinition;)V" = some ⟨[.char, (.object "java/lang/String"), .boolean, .boolean, (.object "com/example/vedette/vedette/definition/ControlValueDefinition")], none⟩ := by decide +kernel
theorem d16_24 : decode prog_9_method_3_code 24 = .ok (.areturn, 1) := by decide +kernel
def Q_rm_wcv (Z : State) (a1 : Addr) (pc : Int32) (an : Addr) (pr : Int32) (pm : Int32) (cw : Value) (h0 : Heap) (n0 : Nat) (v : Option Value) (h : Heap) (L : List Loc) : Prop := ∃ r : Addr, v = some (.ref r) ∧ Fr n0 L ∧ Keep h0 h [] ∧ h0.size ≤ r ∧ Exa Z h r "com/example/vedette/vedette/definition/SubfieldDefinition" ∧ Fld Z h r "com/example/vedette/vedette/definition/SubfieldDefinition" "code" "C" (.int pc) ∧ Fld Z h r "com/example/vedette/vedette/definition/SubfieldDefinition" "name" "Ljava/lang/String;" (.ref an) ∧ Fld Z h r "com/example/vedette/vedette/definition/SubfieldDefinition" "repeatable" "Z" (.int pr) ∧ Fld Z h r "com/example/vedette/vedette/definition/SubfieldDefinition" "mandatory" "Z" (.int pm) ∧ Fld Z h r "com/example/vedette/vedette/definition/SubfieldDefinition" "controlValue" "Lcom/example/vedette/vedette/definition/ControlValueDefinition;" cw
set_option maxRecDepth 65536 in
set_option maxHeartbeats 40000000 in
theorem rm_wcv (l : Launch) (Z : State) (a0 : Array Value) (hw : ∀ d ∈ tables_1, d.before a0 Z = true) (ws : List Jvm.Cond) (a1 : Addr) (pc : Int32) (an : Addr) (pr : Int32) (pm : Int32) (cw : Value) (h0 : Heap) (n0 : Nat) (OL : Old Z n0 h0) (E1 : Exa Z h0 a1 "com/example/vedette/vedette/definition/SubfieldDefinition") (F_code : Fld Z h0 a1 "com/example/vedette/vedette/definition/SubfieldDefinition" "code" "C" (.int pc)) (F_name : Fld Z h0 a1 "com/example/vedette/vedette/definition/SubfieldDefinition" "name" "Ljava/lang/String;" (.ref an)) (F_repeatable : Fld Z h0 a1 "com/example/vedette/vedette/definition/SubfieldDefinition" "repeatable" "Z" (.int pr)) (F_mandatory : Fld Z h0 a1 "com/example/vedette/vedette/definition/SubfieldDefinition" "mandatory" "Z" (.int pm)) (nc : nar .char pc = pc) (nr : nar .boolean pr = pr) (nm : nar .boolean pm = pm) (hcv : cw.isRef = true) :
    MetFree l (⟨"com/example/vedette/vedette/definition/SubfieldDefinition", "withControlValue", "(Lcom/example/vedette/vedette/definition/ControlValueDefinition;)Lcom/example/vedette/vedette/definition/SubfieldDefinition;"⟩ : MethodName) (head1 (Jvm.Cond.code (⟨"com/example/vedette/vedette/definition/SubfieldDefinition", "withControlValue", "(Lcom/example/vedette/vedette/definition/ControlValueDefinition;)Lcom/example/vedette/vedette/definition/SubfieldDefinition;"⟩ : MethodName) prog_9_method_3_code 2 (some (.object "com/example/vedette/vedette/definition/SubfieldDefinition")) :: ws) ({ frames := 3, cells := 1, slots := 5, locals := 42 } : Room)) (fun a U => a = #[(.ref a1), cw] ∧ Z.Warmed39 U.vm ∧ U.heap = h0) (fun _ _ _ _ _ => True) (fun _ U o U' => ∃ v L, o = .returned v ∧ Q_rm_wcv Z a1 pc an pr pm cw h0 n0 v U'.heap L ∧ FrameEnd U o U' L ({ frames := 3, cells := 1, slots := 5, locals := 42 } : Room).cells ({ frames := 3, cells := 1, slots := 5, locals := 42 } : Room).slots) := by
  refine MetFree.of_bodySF (plainFor_of_name pn_com_example_vedette_vedette_definition_SubfieldDefinition) hisR ?_
  intro p e s m args below meth c s₁ Bd hml0 hP hK
  obtain ⟨rfl, hZ, hh⟩ := hP
  have hx := Bd.exec
  have hby := Bd.bytes
  have hml : c.maxLocals = 2 := hml0
  have hown : s.vm.findClass "com/example/vedette/vedette/definition/SubfieldDefinition" = some m.cls := findClass_of_methodNamed Bd.named
  have hnm := (name_of_methodNamed Bd.named Bd.method).1
  have X0 : Stand p l e ({ frames := 3, cells := 1, slots := 5, locals := 42 } : Room) s m #[(.ref a1), cw] below meth c s₁ [] 0 0 := Stand.of_body Bd
  have e0 : s₁.heap = h0 := by rw [← hh, Bd.state]; rfl
  have N0 := Fr.nil n0
  have pre0 : oL p e below s₁ (mkF m 0 #[oR a1, oV cw] []) s₁ (entryFrame m #[(.ref a1), cw] 2) := fun t k => castTop (by rcases ref_cases hcv with rfl | ⟨_, rfl⟩ <;> first | (simp [entryFrame, mkF, argsToLocals, Value.category]; done) | rfl) k
  obtain ⟨T11, h11, X11, e11, E11, A11, D11, -, st11⟩ := newO X0 hx hZ hown (oW hw 109 rfl) (oW hw 88 rfl) (oW hw 89 rfl) e0 (g := (mkF m 0 #[oR a1, oV cw] [])) rfl (hb hby d16_0) (by decide) (by decide)
  obtain ⟨b11, g11⟩ : ∃ z, z = h0.size := ⟨_, rfl⟩
  rw [← g11] at A11 D11 st11
  have ne12 : a1 ≠ b11 := Nat.ne_of_lt (Nat.lt_of_lt_of_le E1.lt (Nat.le_of_eq g11.symm))
  have ge_b11 : n0 ≤ b11 := Nat.le_trans (OL.1 ▸ OL.2.1) (Nat.le_of_eq g11.symm)
  have sz_b11 : h0.size ≤ b11 := Nat.le_trans (Keep.refl h0 []).1 (Nat.le_of_eq g11.symm)
  have f13 := E1.ext E11
  have f14 := F_code.ext E11
  have f15 := F_name.ext E11
  have f16 := F_repeatable.ext E11
  have f17 := F_mandatory.ext E11
  have OL18 := OL.ext E11
  have K19 : Keep h0 h11 [] := (Keep.refl h0 []).ext E11
  have f20 : Fld Z h11 b11 "com/example/vedette/vedette/definition/SubfieldDefinition" "code" "C" (.int (0 : Int32)) := D11 (Or.inr (oW hw 95 rfl)) (ty := .char) (by decide)
  have f21 : Fld Z h11 b11 "com/example/vedette/vedette/definition/SubfieldDefinition" "name" "Ljava/lang/String;" .null := D11 (Or.inr (oW hw 97 rfl)) (ty := (.object "java/lang/String")) (by decide)
  have f22 : Fld Z h11 b11 "com/example/vedette/vedette/definition/SubfieldDefinition" "repeatable" "Z" (.int (0 : Int32)) := D11 (Or.inr (oW hw 99 rfl)) (ty := .boolean) (by decide)
  have f23 : Fld Z h11 b11 "com/example/vedette/vedette/definition/SubfieldDefinition" "mandatory" "Z" (.int (0 : Int32)) := D11 (Or.inr (oW hw 101 rfl)) (ty := .boolean) (by decide)
  have f24 : Fld Z h11 b11 "com/example/vedette/vedette/definition/SubfieldDefinition" "controlValue" "Lcom/example/vedette/vedette/definition/ControlValueDefinition;" .null := D11 (Or.inr (oW hw 103 rfl)) (ty := (.object "com/example/vedette/vedette/definition/ControlValueDefinition")) (by decide)
  have pre25 : oL p e below T11 (mkF m 5 #[oR a1, oV cw] [ow a1, ow b11, ow b11]) s₁ (entryFrame m #[(.ref a1), cw] 2) := fun t k => pre0 t (by
    refine st11 _ ?_
    refine XS.dup X11.here hx rfl (hb hby d16_3) rfl rfl ?_
    refine XS.aloadN X11.here hx rfl (hb hby d16_4) rfl rfl ?_
    exact k)
  obtain ⟨T26, X26, e26, st26⟩ := getF X11 hx hZ hown (host := "") (Or.inl (oW hw 94 rfl)) Via.refl e11 f14 (g := (mkF m 5 #[oR a1, oV cw] [ow a1, ow b11, ow b11])) rfl rfl (hb hby d16_5)
  have pre27 : oL p e below T26 (mkF m 9 #[oR a1, oV cw] [ow a1, oi pc, ow b11, ow b11]) s₁ (entryFrame m #[(.ref a1), cw] 2) := fun t k => pre25 t (by
    refine st26 _ ?_
    show oS p e below T26 (mkF m 8 #[oR a1, oV cw] [oi pc, ow b11, ow b11]) _
    refine XS.aloadN X26.here hx rfl (hb hby d16_8) rfl rfl ?_
    exact k)
  obtain ⟨T28, X28, e28, st28⟩ := getF X26 hx hZ hown (host := "") (Or.inl (oW hw 96 rfl)) Via.refl e26 f15 (g := (mkF m 9 #[oR a1, oV cw] [ow a1, oi pc, ow b11, ow b11])) rfl rfl (hb hby d16_9)
  have pre29 : oL p e below T28 (mkF m 13 #[oR a1, oV cw] [ow a1, ow an, oi pc, ow b11, ow b11]) s₁ (entryFrame m #[(.ref a1), cw] 2) := fun t k => pre27 t (by
    refine st28 _ ?_
    refine XS.aloadN X28.here hx rfl (hb hby d16_12) rfl rfl ?_
    exact k)
  obtain ⟨T30, X30, e30, st30⟩ := getF X28 hx hZ hown (host := "") (Or.inl (oW hw 98 rfl)) Via.refl e28 f16 (g := (mkF m 13 #[oR a1, oV cw] [ow a1, ow an, oi pc, ow b11, ow b11])) rfl rfl (hb hby d16_13)
  have pre31 : oL p e below T30 (mkF m 17 #[oR a1, oV cw] [ow a1, oi pr, ow an, oi pc, ow b11, ow b11]) s₁ (entryFrame m #[(.ref a1), cw] 2) := fun t k => pre29 t (by
    refine st30 _ ?_
    show oS p e below T30 (mkF m 16 #[oR a1, oV cw] [oi pr, ow an, oi pc, ow b11, ow b11]) _
    refine XS.aloadN X30.here hx rfl (hb hby d16_16) rfl rfl ?_
    exact k)
  obtain ⟨T32, X32, e32, st32⟩ := getF X30 hx hZ hown (host := "") (Or.inl (oW hw 100 rfl)) Via.refl e30 f17 (g := (mkF m 17 #[oR a1, oV cw] [ow a1, oi pr, ow an, oi pc, ow b11, ow b11])) rfl rfl (hb hby d16_17)
  have pre33 : oL p e below T32 (mkF m 21 #[oR a1, oV cw] [cw, oi pm, oi pr, ow an, oi pc, ow b11, ow b11]) s₁ (entryFrame m #[(.ref a1), cw] 2) := fun t k => pre31 t (by
    refine st32 _ ?_
    refine XS.aloadN X32.here hx rfl (hb hby d16_20) rfl hcv ?_
    exact k)
  obtain ⟨_, _, ⟨T34, L34, k34, n34⟩, -, X34, ⟨Lc34, hQ34, l34, y34, z34⟩, st34⟩ := X32.specialBack hx (y := (⟨"com/example/vedette/vedette/definition/SubfieldDefinition", "<init>", "(CLjava/lang/String;ZZLcom/example/vedette/vedette/definition/ControlValueDefinition;)V"⟩ : MethodName)) rfl hown (mvT hZ (oW hw 110 rfl)) (mvT hZ (oW hw 91 rfl)) (mvT hZ (oW hw 92 rfl)) (by decide) (backOf (W := 1) (rm_sd l Z a0 hw [] b11 pc an pr pm cw h11 n0 OL18 ge_b11 A11 f20 f21 f22 f23 f24 nc nr nm hcv) hZ (oW hw 92 rfl) (oW hw 89 rfl) (by decide) (by decide)) (g := (mkF m 21 #[oR a1, oV cw] [cw, oi pm, oi pr, ow an, oi pc, ow b11, ow b11])) rfl (by rw [hml]; rfl) (Steps.refl _) (a := b11) (argsL := [(.int pc), (.ref an), (.int pr), (.int pm), cw]) (rest := [(.ref b11)]) (lenOf pd__CLjava_lang_String_ZZLcom_example_vedette_vedette_definition_ControlValueDefinition__V rfl) rfl (by show 2 * 0 + _ ≤ _; exact Nat.le_of_eq rfl) (hb hby d16_21) (fun _ _ => ⟨rfl, e32, (by decide : 1 + 0 ≤ _), (by decide : 5 + 0 ≤ _)⟩)
  dsimp only [Pt.U, Pt.locs, Pt.cells, Pt.slots] at X34 l34 y34 z34 st34 hQ34
  subst l34 y34 z34
  obtain ⟨rfl, N34q, Kq34, Eq34, F0_34, F1_34, F2_34, F3_34, F4_34⟩ := hQ34
  have N34 := Fr.app N0 N34q
  have f35 := f13.keep Kq34
  have f36 := f14.keep Kq34 (ninS ne12 nin0)
  have f37 := f15.keep Kq34 (ninS ne12 nin0)
  have f38 := f16.keep Kq34 (ninS ne12 nin0)
  have f39 := f17.keep Kq34 (ninS ne12 nin0)
  have f40 := A11.keep Kq34
  have OL41 := OL18.keep Kq34 (allS ge_b11 all0)
  have K42 : Keep h0 T34.heap [] := K19.trans Kq34 (allS (Or.inr sz_b11) all0)
  have pre43 : oL p e below T34 (mkF m 24 #[oR a1, oV cw] [ow b11]) s₁ (entryFrame m #[(.ref a1), cw] 2) := fun t k => pre33 t (by
    refine st34.trans ?_
    show oS p e below T34 (mkF m 24 #[oR a1, oV cw] [ow b11]) _
    exact k)
  obtain ⟨fs, hr, hrun, hended, hW, hsame⟩ := X34.leave (v := some (.ref b11)) (fun h => by rw [Bd.returns] at h; cases h)
  refine ⟨_, _, pre43 _ ?_, hrun, hended, _, _, rfl, ?_, ⟨_, rfl⟩, hW, hsame.mono (by decide) (by decide)⟩
  ·
    show oS p e below T34 (mkF m 24 #[oR a1, oV cw] [ow b11]) _
    jvm_step X34.here [X34.here.top, hx, (hb hby d16_24), X34.method', Bd.returns, Value.isRef, FieldType.isReference]
    first | (intro acts; rw [hr _ acts rfl rfl rfl]) | rw [hr _ _ rfl rfl rfl]
    exact Steps.refl _
  ·
    show Q_rm_wcv Z a1 pc an pr pm cw h0 n0 _ T34.heap _
    exact ⟨b11, rfl, N34, K42, sz_b11, Eq34, F0_34, F1_34, F2_34, F3_34, F4_34⟩
theorem pn_java_lang_String : plainName "java/lang/String" = true := by first | (simp [plainName, overriddenIn]; done) | decide +kernel
theorem d19_0 : decode jdk_42_method_66_code 0 = .ok (.aload_n 0, 1) := by decide +kernel
theorem d19_1 : decode jdk_42_method_66_code 1 = .ok (.aload_n 1, 1) := by decide +kernel
theorem d19_2 : decode jdk_42_method_66_code 2 = .ok (.if_acmp .ne 5, 3) := by decide +kernel
theorem d19_5 : decode jdk_42_method_66_code 5 = .ok (.iconst 1, 1) := by decide +kernel
theorem d19_6 : decode jdk_42_method_66_code 6 = .ok (.ireturn, 1) := by decide +kernel
def Q_rm_eqs (Z : State) (a1 : Addr) (h0 : Heap) (n0 : Nat) (v : Option Value) (h : Heap) (L : List Loc) : Prop := v = some (.int (1 : Int32)) ∧ Fr n0 L ∧ h = h0
set_option maxRecDepth 65536 in
set_option maxHeartbeats 40000000 in
theorem rm_eqs (l : Launch) (Z : State) (a0 : Array Value) (hw : ∀ d ∈ tables_1, d.before a0 Z = true) (ws : List Jvm.Cond) (a1 : Addr) (h0 : Heap) (n0 : Nat) (OL : Old Z n0 h0) :
    MetFree l (⟨"java/lang/String", "equals", "(Ljava/lang/Object;)Z"⟩ : MethodName) (head1 (Jvm.Cond.code (⟨"java/lang/String", "equals", "(Ljava/lang/Object;)Z"⟩ : MethodName) jdk_42_method_66_code 3 (some .boolean) :: ws) ({ frames := 0, cells := 0, slots := 0, locals := 0 } : Room)) (fun a U => a = #[(.ref a1), (.ref a1)] ∧ Z.Warmed39 U.vm ∧ U.heap = h0) (fun _ _ _ _ _ => True) (fun _ U o U' => ∃ v L, o = .returned v ∧ Q_rm_eqs Z a1 h0 n0 v U'.heap L ∧ FrameEnd U o U' L ({ frames := 0, cells := 0, slots := 0, locals := 0 } : Room).cells ({ frames := 0, cells := 0, slots := 0, locals := 0 } : Room).slots) := by
  refine MetFree.of_bodySF (plainFor_of_name pn_java_lang_String) hisR ?_
  intro p e s m args below meth c s₁ Bd hml0 hP hK
  obtain ⟨rfl, hZ, hh⟩ := hP
  have hx := Bd.exec
  have hby := Bd.bytes
  have hml : c.maxLocals = 3 := hml0
  have hown : s.vm.findClass "java/lang/String" = some m.cls := findClass_of_methodNamed Bd.named
  have hnm := (name_of_methodNamed Bd.named Bd.method).1
  have X0 : Stand p l e ({ frames := 0, cells := 0, slots := 0, locals := 0 } : Room) s m #[(.ref a1), (.ref a1)] below meth c s₁ [] 0 0 := Stand.of_body Bd
  have e0 : s₁.heap = h0 := by rw [← hh, Bd.state]; rfl
  have N0 := Fr.nil n0
  have pre0 : oL p e below s₁ (mkF m 0 #[oR a1, oR a1, oU] []) s₁ (entryFrame m #[(.ref a1), (.ref a1)] 3) := fun t k => castTop (by first | (simp [entryFrame, mkF, argsToLocals, Value.category]; done) | rfl) k
  have pre11 : oL p e below s₁ (mkF m 6 #[oR a1, oR a1, oU] [oi 1]) s₁ (entryFrame m #[(.ref a1), (.ref a1)] 3) := fun t k => pre0 t (by
    refine XS.aloadN X0.here hx rfl (hb hby d19_0) rfl rfl ?_
    refine XS.aloadN X0.here hx rfl (hb hby d19_1) rfl rfl ?_
    refine Jvm.RoadKit.acmp (g := (mkF m 2 #[oR a1, oR a1, oU] [ow a1, ow a1])) X0 hx rfl rfl rfl (pc0 := 2) (pc' := 5) (same := true) rfl (hb hby d19_2) rfl (decide_eq_true rfl) (by decide) (by decide) ?_
    refine XS.iconst X0.here hx rfl (hb hby d19_5) ?_
    show oS p e below s₁ (mkF m 6 #[oR a1, oR a1, oU] [oi 1]) _
    exact k)
  obtain ⟨fs, hr, hrun, hended, hW, hsame⟩ := X0.leave (v := some (.int (1 : Int32))) (fun h => by rw [Bd.returns] at h; cases h)
  refine ⟨_, _, pre11 _ ?_, hrun, hended, _, _, rfl, ?_, ⟨_, rfl⟩, hW, hsame.mono (by decide) (by decide)⟩
  ·
    show oS p e below s₁ (mkF m 6 #[oR a1, oR a1, oU] [oi 1]) _
    exact retN X0 hx (t := .boolean) Bd.returns (by simp) (hb hby d19_6) hr
  ·
    show Q_rm_eqs Z a1 h0 n0 _ s₁.heap _
    rw [e0]
    exact ⟨rfl, N0, rfl⟩
theorem d17_0 : decode prog_9_method_8_code 0 = .ok (.aload_n 0, 1) := by decide +kernel
theorem d17_1 : decode prog_9_method_8_code 1 = .ok (.getfield 7, 3) := by decide +kernel
theorem d17_4 : decode prog_9_method_8_code 4 = .ok (.ireturn, 1) := by decide +kernel
def Q_rm_g_code (Z : State) (a1 : Addr) (w1 : Int32) (h0 : Heap) (n0 : Nat) (v : Option Value) (h : Heap) (L : List Loc) : Prop := v = some (.int w1) ∧ Fr n0 L ∧ h = h0
set_option maxRecDepth 65536 in
set_option maxHeartbeats 40000000 in
theorem rm_g_code (l : Launch) (Z : State) (a0 : Array Value) (hw : ∀ d ∈ tables_1, d.before a0 Z = true) (ws : List Jvm.Cond) (a1 : Addr) (w1 : Int32) (h0 : Heap) (n0 : Nat) (OL : Old Z n0 h0) (F1 : Fld Z h0 a1 "com/example/vedette/vedette/definition/SubfieldDefinition" "code" "C" (.int w1)) (nw : nar .char w1 = w1) :
    MetFree l (⟨"com/example/vedette/vedette/definition/SubfieldDefinition", "code", "()C"⟩ : MethodName) (head1 (Jvm.Cond.code (⟨"com/example/vedette/vedette/definition/SubfieldDefinition", "code", "()C"⟩ : MethodName) prog_9_method_8_code 1 (some .char) :: ws) ({ frames := 0, cells := 0, slots := 0, locals := 0 } : Room)) (fun a U => a = #[(.ref a1)] ∧ Z.Warmed39 U.vm ∧ U.heap = h0) (fun _ _ _ _ _ => True) (fun _ U o U' => ∃ v L, o = .returned v ∧ Q_rm_g_code Z a1 w1 h0 n0 v U'.heap L ∧ FrameEnd U o U' L ({ frames := 0, cells := 0, slots := 0, locals := 0 } : Room).cells ({ frames := 0, cells := 0, slots := 0, locals := 0 } : Room).slots) := by
  refine MetFree.of_bodySF (plainFor_of_name pn_com_example_vedette_vedette_definition_SubfieldDefinition) hisR ?_
  intro p e s m args below meth c s₁ Bd hml0 hP hK
  obtain ⟨rfl, hZ, hh⟩ := hP
  have hx := Bd.exec
  have hby := Bd.bytes
  have hml : c.maxLocals = 1 := hml0
  have hown : s.vm.findClass "com/example/vedette/vedette/definition/SubfieldDefinition" = some m.cls := findClass_of_methodNamed Bd.named
  have hnm := (name_of_methodNamed Bd.named Bd.method).1
  have X0 : Stand p l e ({ frames := 0, cells := 0, slots := 0, locals := 0 } : Room) s m #[(.ref a1)] below meth c s₁ [] 0 0 := Stand.of_body Bd
  have e0 : s₁.heap = h0 := by rw [← hh, Bd.state]; rfl
  have N0 := Fr.nil n0
  have pre0 : oL p e below s₁ (mkF m 0 #[oR a1] []) s₁ (entryFrame m #[(.ref a1)] 1) := fun t k => castTop (by first | (simp [entryFrame, mkF, argsToLocals, Value.category]; done) | rfl) k
  have pre11 : oL p e below s₁ (mkF m 1 #[oR a1] [ow a1]) s₁ (entryFrame m #[(.ref a1)] 1) := fun t k => pre0 t (by
    refine XS.aloadN X0.here hx rfl (hb hby d17_0) rfl rfl ?_
    exact k)
  obtain ⟨T12, X12, e12, st12⟩ := getF X0 hx hZ hown (host := "") (Or.inl (oW hw 94 rfl)) Via.refl e0 F1 (g := (mkF m 1 #[oR a1] [ow a1])) rfl rfl (hb hby d17_1)
  have pre13 : oL p e below T12 (mkF m 4 #[oR a1] [oi w1]) s₁ (entryFrame m #[(.ref a1)] 1) := fun t k => pre11 t (by
    refine st12 _ ?_
    exact k)
  obtain ⟨fs, hr, hrun, hended, hW, hsame⟩ := X12.leave (v := some (.int (nar .char w1))) (fun h => by rw [Bd.returns] at h; cases h)
  refine ⟨_, _, pre13 _ ?_, hrun, hended, _, _, rfl, ?_, ⟨_, rfl⟩, hW, hsame.mono (by decide) (by decide)⟩
  ·
    show oS p e below T12 (mkF m 4 #[oR a1] [oi w1]) _
    exact retN X12 hx (t := .char) Bd.returns (by simp) (hb hby d17_4) hr
  ·
    show Q_rm_g_code Z a1 w1 h0 n0 _ T12.heap _
    rw [e12]
    exact ⟨by rw [nw], N0, rfl⟩
theorem d18_0 : decode prog_9_method_9_code 0 = .ok (.aload_n 0, 1) := by decide +kernel
theorem d18_1 : decode prog_9_method_9_code 1 = .ok (.getfield 13, 3) := by decide +kernel
theorem d18_4 : decode prog_9_method_9_code 4 = .ok (.areturn, 1) := by decide +kernel
def Q_rm_g_name (Z : State) (a1 : Addr) (w1 : Value) (h0 : Heap) (n0 : Nat) (v : Option Value) (h : Heap) (L : List Loc) : Prop := v = some w1 ∧ Fr n0 L ∧ h = h0
set_option maxRecDepth 65536 in
set_option maxHeartbeats 40000000 in
theorem rm_g_name (l : Launch) (Z : State) (a0 : Array Value) (hw : ∀ d ∈ tables_1, d.before a0 Z = true) (ws : List Jvm.Cond) (a1 : Addr) (w1 : Value) (h0 : Heap) (n0 : Nat) (OL : Old Z n0 h0) (F1 : Fld Z h0 a1 "com/example/vedette/vedette/definition/SubfieldDefinition" "name" "Ljava/lang/String;" w1) (hr1 : w1.isRef = true) :
    MetFree l (⟨"com/example/vedette/vedette/definition/SubfieldDefinition", "name", "()Ljava/lang/String;"⟩ : MethodName) (head1 (Jvm.Cond.code (⟨"com/example/vedette/vedette/definition/SubfieldDefinition", "name", "()Ljava/lang/String;"⟩ : MethodName) prog_9_method_9_code 1 (some (.object "java/lang/String")) :: ws) ({ frames := 0, cells := 0, slots := 0, locals := 0 } : Room)) (fun a U => a = #[(.ref a1)] ∧ Z.Warmed39 U.vm ∧ U.heap = h0) (fun _ _ _ _ _ => True) (fun _ U o U' => ∃ v L, o = .returned v ∧ Q_rm_g_name Z a1 w1 h0 n0 v U'.heap L ∧ FrameEnd U o U' L ({ frames := 0, cells := 0, slots := 0, locals := 0 } : Room).cells ({ frames := 0, cells := 0, slots := 0, locals := 0 } : Room).slots) := by
  refine MetFree.of_bodySF (plainFor_of_name pn_com_example_vedette_vedette_definition_SubfieldDefinition) hisR ?_
  intro p e s m args below meth c s₁ Bd hml0 hP hK
  obtain ⟨rfl, hZ, hh⟩ := hP
  have hx := Bd.exec
  have hby := Bd.bytes
  have hml : c.maxLocals = 1 := hml0
  have hown : s.vm.findClass "com/example/vedette/vedette/definition/SubfieldDefinition" = some m.cls := findClass_of_methodNamed Bd.named
  have hnm := (name_of_methodNamed Bd.named Bd.method).1
  have X0 : Stand p l e ({ frames := 0, cells := 0, slots := 0, locals := 0 } : Room) s m #[(.ref a1)] below meth c s₁ [] 0 0 := Stand.of_body Bd
  have e0 : s₁.heap = h0 := by rw [← hh, Bd.state]; rfl
  have N0 := Fr.nil n0
  have pre0 : oL p e below s₁ (mkF m 0 #[oR a1] []) s₁ (entryFrame m #[(.ref a1)] 1) := fun t k => castTop (by first | (simp [entryFrame, mkF, argsToLocals, Value.category]; done) | rfl) k
  have pre11 : oL p e below s₁ (mkF m 1 #[oR a1] [ow a1]) s₁ (entryFrame m #[(.ref a1)] 1) := fun t k => pre0 t (by
    refine XS.aloadN X0.here hx rfl (hb hby d18_0) rfl rfl ?_
    exact k)
  obtain ⟨T12, X12, e12, st12⟩ := getF X0 hx hZ hown (host := "") (Or.inl (oW hw 96 rfl)) Via.refl e0 F1 (g := (mkF m 1 #[oR a1] [ow a1])) rfl rfl (hb hby d18_1)
  have pre13 : oL p e below T12 (mkF m 4 #[oR a1] [w1]) s₁ (entryFrame m #[(.ref a1)] 1) := fun t k => pre11 t (by
    refine st12 _ ?_
    exact k)
  obtain ⟨fs, hr, hrun, hended, hW, hsame⟩ := X12.leave (v := some w1) (fun h => by rw [Bd.returns] at h; cases h)
  refine ⟨_, _, pre13 _ ?_, hrun, hended, _, _, rfl, ?_, ⟨_, rfl⟩, hW, hsame.mono (by decide) (by decide)⟩
  ·
    show oS p e below T12 (mkF m 4 #[oR a1] [w1]) _
    exact retOut X12 hx Bd.returns rfl (Or.inr (Or.inr (Or.inr (Or.inr ⟨rfl, rfl, hr1⟩)))) (hb hby d18_4) hr
  ·
    show Q_rm_g_name Z a1 w1 h0 n0 _ T12.heap _
    rw [e12]
    exact ⟨rfl, N0, rfl⟩
theorem d20_0 : decode prog_9_method_10_code 0 = .ok (.aload_n 0, 1) := by decide +kernel
theorem d20_1 : decode prog_9_method_10_code 1 = .ok (.getfield 17, 3) := by decide +kernel
theorem d20_4 : decode prog_9_method_10_code 4 = .ok (.ireturn, 1) := by decide +kernel
def Q_rm_g_repeatable (Z : State) (a1 : Addr) (w1 : Int32) (h0 : Heap) (n0 : Nat) (v : Option Value) (h : Heap) (L : List Loc) : Prop := v = some (.int w1) ∧ Fr n0 L ∧ h = h0
set_option maxRecDepth 65536 in
set_option maxHeartbeats 40000000 in
theorem rm_g_repeatable (l : Launch) (Z : State) (a0 : Array Value) (hw : ∀ d ∈ tables_1, d.before a0 Z = true) (ws : List Jvm.Cond) (a1 : Addr) (w1 : Int32) (h0 : Heap) (n0 : Nat) (OL : Old Z n0 h0) (F1 : Fld Z h0 a1 "com/example/vedette/vedette/definition/SubfieldDefinition" "repeatable" "Z" (.int w1)) (nw : nar .boolean w1 = w1) :
    MetFree l (⟨"com/example/vedette/vedette/definition/SubfieldDefinition", "repeatable", "()Z"⟩ : MethodName) (head1 (Jvm.Cond.code (⟨"com/example/vedette/vedette/definition/SubfieldDefinition", "repeatable", "()Z"⟩ : MethodName) prog_9_method_10_code 1 (some .boolean) :: ws) ({ frames := 0, cells := 0, slots := 0, locals := 0 } : Room)) (fun a U => a = #[(.ref a1)] ∧ Z.Warmed39 U.vm ∧ U.heap = h0) (fun _ _ _ _ _ => True) (fun _ U o U' => ∃ v L, o = .returned v ∧ Q_rm_g_repeatable Z a1 w1 h0 n0 v U'.heap L ∧ FrameEnd U o U' L ({ frames := 0, cells := 0, slots := 0, locals := 0 } : Room).cells ({ frames := 0, cells := 0, slots := 0, locals := 0 } : Room).slots) := by
  refine MetFree.of_bodySF (plainFor_of_name pn_com_example_vedette_vedette_definition_SubfieldDefinition) hisR ?_
  intro p e s m args below meth c s₁ Bd hml0 hP hK
  obtain ⟨rfl, hZ, hh⟩ := hP
  have hx := Bd.exec
  have hby := Bd.bytes
  have hml : c.maxLocals = 1 := hml0
  have hown : s.vm.findClass "com/example/vedette/vedette/definition/SubfieldDefinition" = some m.cls := findClass_of_methodNamed Bd.named
  have hnm := (name_of_methodNamed Bd.named Bd.method).1
  have X0 : Stand p l e ({ frames := 0, cells := 0, slots := 0, locals := 0 } : Room) s m #[(.ref a1)] below meth c s₁ [] 0 0 := Stand.of_body Bd
  have e0 : s₁.heap = h0 := by rw [← hh, Bd.state]; rfl
  have N0 := Fr.nil n0
  have pre0 : oL p e below s₁ (mkF m 0 #[oR a1] []) s₁ (entryFrame m #[(.ref a1)] 1) := fun t k => castTop (by first | (simp [entryFrame, mkF, argsToLocals, Value.category]; done) | rfl) k
  have pre11 : oL p e below s₁ (mkF m 1 #[oR a1] [ow a1]) s₁ (entryFrame m #[(.ref a1)] 1) := fun t k => pre0 t (by
    refine XS.aloadN X0.here hx rfl (hb hby d20_0) rfl rfl ?_
    exact k)
  obtain ⟨T12, X12, e12, st12⟩ := getF X0 hx hZ hown (host := "") (Or.inl (oW hw 98 rfl)) Via.refl e0 F1 (g := (mkF m 1 #[oR a1] [ow a1])) rfl rfl (hb hby d20_1)
  have pre13 : oL p e below T12 (mkF m 4 #[oR a1] [oi w1]) s₁ (entryFrame m #[(.ref a1)] 1) := fun t k => pre11 t (by
    refine st12 _ ?_
    exact k)
  obtain ⟨fs, hr, hrun, hended, hW, hsame⟩ := X12.leave (v := some (.int (nar .boolean w1))) (fun h => by rw [Bd.returns] at h; cases h)
  refine ⟨_, _, pre13 _ ?_, hrun, hended, _, _, rfl, ?_, ⟨_, rfl⟩, hW, hsame.mono (by decide) (by decide)⟩
  ·
    show oS p e below T12 (mkF m 4 #[oR a1] [oi w1]) _
    exact retN X12 hx (t := .boolean) Bd.returns (by simp) (hb hby d20_4) hr
  ·
    show Q_rm_g_repeatable Z a1 w1 h0 n0 _ T12.heap _
    rw [e12]
    exact ⟨by rw [nw], N0, rfl⟩
theorem d21_0 : decode prog_9_method_11_code 0 = .ok (.aload_n 0, 1) := by decide +kernel
theorem d21_1 : decode prog_9_method_11_code 1 = .ok (.getfield 21, 3) := by decide +kernel
theorem d21_4 : decode prog_9_method_11_code 4 = .ok (.ireturn, 1) := by decide +kernel
def Q_rm_g_mandatory (Z : State) (a1 : Addr) (w1 : Int32) (h0 : Heap) (n0 : Nat) (v : Option Value) (h : Heap) (L : List Loc) : Prop := v = some (.int w1) ∧ Fr n0 L ∧ h = h0
set_option maxRecDepth 65536 in
set_option maxHeartbeats 40000000 in
theorem rm_g_mandatory (l : Launch) (Z : State) (a0 : Array Value) (hw : ∀ d ∈ tables_1, d.before a0 Z = true) (ws : List Jvm.Cond) (a1 : Addr) (w1 : Int32) (h0 : Heap) (n0 : Nat) (OL : Old Z n0 h0) (F1 : Fld Z h0 a1 "com/example/vedette/vedette/definition/SubfieldDefinition" "mandatory" "Z" (.int w1)) (nw : nar .boolean w1 = w1) :
    MetFree l (⟨"com/example/vedette/vedette/definition/SubfieldDefinition", "mandatory", "()Z"⟩ : MethodName) (head1 (Jvm.Cond.code (⟨"com/example/vedette/vedette/definition/SubfieldDefinition", "mandatory", "()Z"⟩ : MethodName) prog_9_method_11_code 1 (some .boolean) :: ws) ({ frames := 0, cells := 0, slots := 0, locals := 0 } : Room)) (fun a U => a = #[(.ref a1)] ∧ Z.Warmed39 U.vm ∧ U.heap = h0) (fun _ _ _ _ _ => True) (fun _ U o U' => ∃ v L, o = .returned v ∧ Q_rm_g_mandatory Z a1 w1 h0 n0 v U'.heap L ∧ FrameEnd U o U' L ({ frames := 0, cells := 0, slots := 0, locals := 0 } : Room).cells ({ frames := 0, cells := 0, slots := 0, locals := 0 } : Room).slots) := by
  refine MetFree.of_bodySF (plainFor_of_name pn_com_example_vedette_vedette_definition_SubfieldDefinition) hisR ?_
  intro p e s m args below meth c s₁ Bd hml0 hP hK
  obtain ⟨rfl, hZ, hh⟩ := hP
  have hx := Bd.exec
  have hby := Bd.bytes
  have hml : c.maxLocals = 1 := hml0
  have hown : s.vm.findClass "com/example/vedette/vedette/definition/SubfieldDefinition" = some m.cls := findClass_of_methodNamed Bd.named
  have hnm := (name_of_methodNamed Bd.named Bd.method).1
  have X0 : Stand p l e ({ frames := 0, cells := 0, slots := 0, locals := 0 } : Room) s m #[(.ref a1)] below meth c s₁ [] 0 0 := Stand.of_body Bd
  have e0 : s₁.heap = h0 := by rw [← hh, Bd.state]; rfl
  have N0 := Fr.nil n0
  have pre0 : oL p e below s₁ (mkF m 0 #[oR a1] []) s₁ (entryFrame m #[(.ref a1)] 1) := fun t k => castTop (by first | (simp [entryFrame, mkF, argsToLocals, Value.category]; done) | rfl) k
  have pre11 : oL p e below s₁ (mkF m 1 #[oR a1] [ow a1]) s₁ (entryFrame m #[(.ref a1)] 1) := fun t k => pre0 t (by
    refine XS.aloadN X0.here hx rfl (hb hby d21_0) rfl rfl ?_
    exact k)
  obtain ⟨T12, X12, e12, st12⟩ := getF X0 hx hZ hown (host := "") (Or.inl (oW hw 100 rfl)) Via.refl e0 F1 (g := (mkF m 1 #[oR a1] [ow a1])) rfl rfl (hb hby d21_1)
  have pre13 : oL p e below T12 (mkF m 4 #[oR a1] [oi w1]) s₁ (entryFrame m #[(.ref a1)] 1) := fun t k => pre11 t (by
    refine st12 _ ?_
    exact k)
  obtain ⟨fs, hr, hrun, hended, hW, hsame⟩ := X12.leave (v := some (.int (nar .boolean w1))) (fun h => by rw [Bd.returns] at h; cases h)
  refine ⟨_, _, pre13 _ ?_, hrun, hended, _, _, rfl, ?_, ⟨_, rfl⟩, hW, hsame.mono (by decide) (by decide)⟩
  ·
    show oS p e below T12 (mkF m 4 #[oR a1] [oi w1]) _
    exact retN X12 hx (t := .boolean) Bd.returns (by simp) (hb hby d21_4) hr
  ·
    show Q_rm_g_mandatory Z a1 w1 h0 n0 _ T12.heap _
    rw [e12]
    exact ⟨by rw [nw], N0, rfl⟩
theorem d22_0 : decode prog_9_method_12_code 0 = .ok (.aload_n 0, 1) := by decide +kernel
theorem d22_1 : decode prog_9_method_12_code 1 = .ok (.getfield 24, 3) := by decide +kernel
theorem d22_4 : decode prog_9_method_12_code 4 = .ok (.areturn, 1) := by decide +kernel
def Q_rm_g_controlValue (Z : State) (a1 : Addr) (w1 : Value) (h0 : Heap) (n0 : Nat) (v : Option Value) (h : Heap) (L : List Loc) : Prop := v = some w1 ∧ Fr n0 L ∧ h = h0
set_option maxRecDepth 65536 in
set_option maxHeartbeats 40000000 in
theorem rm_g_controlValue (l : Launch) (Z : State) (a0 : Array Value) (hw : ∀ d ∈ tables_1, d.before a0 Z = true) (ws : List Jvm.Cond) (a1 : Addr) (w1 : Value) (h0 : Heap) (n0 : Nat) (OL : Old Z n0 h0) (F1 : Fld Z h0 a1 "com/example/vedette/vedette/definition/SubfieldDefinition" "controlValue" "Lcom/example/vedette/vedette/definition/ControlValueDefinition;" w1) (hr1 : w1.isRef = true) :
    MetFree l (⟨"com/example/vedette/vedette/definition/SubfieldDefinition", "controlValue", "()Lcom/example/vedette/vedette/definition/ControlValueDefinition;"⟩ : MethodName) (head1 (Jvm.Cond.code (⟨"com/example/vedette/vedette/definition/SubfieldDefinition", "controlValue", "()Lcom/example/vedette/vedette/definition/ControlValueDefinition;"⟩ : MethodName) prog_9_method_12_code 1 (some (.object "com/example/vedette/vedette/definition/ControlValueDefinition")) :: ws) ({ frames := 0, cells := 0, slots := 0, locals := 0 } : Room)) (fun a U => a = #[(.ref a1)] ∧ Z.Warmed39 U.vm ∧ U.heap = h0) (fun _ _ _ _ _ => True) (fun _ U o U' => ∃ v L, o = .returned v ∧ Q_rm_g_controlValue Z a1 w1 h0 n0 v U'.heap L ∧ FrameEnd U o U' L ({ frames := 0, cells := 0, slots := 0, locals := 0 } : Room).cells ({ frames := 0, cells := 0, slots := 0, locals := 0 } : Room).slots) := by
  refine MetFree.of_bodySF (plainFor_of_name pn_com_example_vedette_vedette_definition_SubfieldDefinition) hisR ?_
  intro p e s m args below meth c s₁ Bd hml0 hP hK
  obtain ⟨rfl, hZ, hh⟩ := hP
  have hx := Bd.exec
  have hby := Bd.bytes
  have hml : c.maxLocals = 1 := hml0
  have hown : s.vm.findClass "com/example/vedette/vedette/definition/SubfieldDefinition" = some m.cls := findClass_of_methodNamed Bd.named
  have hnm := (name_of_methodNamed Bd.named Bd.method).1
  have X0 : Stand p l e ({ frames := 0, cells := 0, slots := 0, locals := 0 } : Room) s m #[(.ref a1)] below meth c s₁ [] 0 0 := Stand.of_body Bd
  have e0 : s₁.heap = h0 := by rw [← hh, Bd.state]; rfl
  have N0 := Fr.nil n0
  have pre0 : oL p e below s₁ (mkF m 0 #[oR a1] []) s₁ (entryFrame m #[(.ref a1)] 1) := fun t k => castTop (by first | (simp [entryFrame, mkF, argsToLocals, Value.category]; done) | rfl) k
  have pre11 : oL p e below s₁ (mkF m 1 #[oR a1] [ow a1]) s₁ (entryFrame m #[(.ref a1)] 1) := fun t k => pre0 t (by
    refine XS.aloadN X0.here hx rfl (hb hby d22_0) rfl rfl ?_
    exact k)
  obtain ⟨T12, X12, e12, st12⟩ := getF X0 hx hZ hown (host := "") (Or.inl (oW hw 102 rfl)) Via.refl e0 F1 (g := (mkF m 1 #[oR a1] [ow a1])) rfl rfl (hb hby d22_1)
  have pre13 : oL p e below T12 (mkF m 4 #[oR a1] [w1]) s₁ (entryFrame m #[(.ref a1)] 1) := fun t k => pre11 t (by
    refine st12 _ ?_
    exact k)
  obtain ⟨fs, hr, hrun, hended, hW, hsame⟩ := X12.leave (v := some w1) (fun h => by rw [Bd.returns] at h; cases h)
  refine ⟨_, _, pre13 _ ?_, hrun, hended, _, _, rfl, ?_, ⟨_, rfl⟩, hW, hsame.mono (by decide) (by decide)⟩
  ·
    show oS p e below T12 (mkF m 4 #[oR a1] [w1]) _
    exact retOut X12 hx Bd.returns rfl (Or.inr (Or.inr (Or.inr (Or.inr ⟨rfl, rfl, hr1⟩)))) (hb hby d22_4) hr
  ·
    show Q_rm_g_controlValue Z a1 w1 h0 n0 _ T12.heap _
    rw [e12]
    exact ⟨rfl, N0, rfl⟩
theorem pn_java_util_Map : plainName "java/util/Map" = true := by first | (simp [plainName, overriddenIn]; done) | decide +kernel
theorem d8_0 : decode jdk_72_method_26_code 0 = .ok (.getstatic 81, 3) := by decide +kernel
theorem d8_3 : decode jdk_72_method_26_code 3 = .ok (.areturn, 1) := by decide +kernel
def Q_rm_mapof (Z : State) (wM : Addr) (h0 : Heap) (n0 : Nat) (v : Option Value) (h : Heap) (L : List Loc) : Prop := v = some (.ref wM) ∧ Fr n0 L ∧ h = h0
set_option maxRecDepth 65536 in
set_option maxHeartbeats 40000000 in
theorem rm_mapof (l : Launch) (Z : State) (a0 : Array Value) (hw : ∀ d ∈ tables_1, d.before a0 Z = true) (ws : List Jvm.Cond) (wM : Addr) (h0 : Heap) (n0 : Nat) (OL : Old Z n0 h0) (sM : Sta Z Z.heap "java/util/ImmutableCollections" "EMPTY_MAP" "Ljava/util/ImmutableCollections$MapN;" (.ref wM)) :
    MetFree l (⟨"java/util/Map", "of", "()Ljava/util/Map;"⟩ : MethodName) (head1 (Jvm.Cond.code (⟨"java/util/Map", "of", "()Ljava/util/Map;"⟩ : MethodName) jdk_72_method_26_code 0 (some (.object "java/util/Map")) :: ws) ({ frames := 0, cells := 0, slots := 0, locals := 0 } : Room)) (fun a U => a = #[] ∧ Z.Warmed39 U.vm ∧ U.heap = h0) (fun _ _ _ _ _ => True) (fun _ U o U' => ∃ v L, o = .returned v ∧ Q_rm_mapof Z wM h0 n0 v U'.heap L ∧ FrameEnd U o U' L ({ frames := 0, cells := 0, slots := 0, locals := 0 } : Room).cells ({ frames := 0, cells := 0, slots := 0, locals := 0 } : Room).slots) := by
  refine MetFree.of_bodySF (plainFor_of_name pn_java_util_Map) hisR ?_
  intro p e s m args below meth c s₁ Bd hml0 hP hK
  obtain ⟨rfl, hZ, hh⟩ := hP
  have hx := Bd.exec
  have hby := Bd.bytes
  have hml : c.maxLocals = 0 := hml0
  have hown : s.vm.findClass "java/util/Map" = some m.cls := findClass_of_methodNamed Bd.named
  have hnm := (name_of_methodNamed Bd.named Bd.method).1
  have X0 : Stand p l e ({ frames := 0, cells := 0, slots := 0, locals := 0 } : Room) s m #[] below meth c s₁ [] 0 0 := Stand.of_body Bd
  have e0 : s₁.heap = h0 := by rw [← hh, Bd.state]; rfl
  have N0 := Fr.nil n0
  have pre0 : oL p e below s₁ (mkF m 0 #[] []) s₁ (entryFrame m #[] 0) := fun t k => castTop (by first | (simp [entryFrame, mkF, argsToLocals, Value.category]; done) | rfl) k
  obtain ⟨T11, X11, e11, st11⟩ := getS2 X0 hx hZ hown (host := "") (Or.inl (oW hw 40 rfl)) Via.refl e0 (sM.ext OL.2) (g := (mkF m 0 #[] [])) rfl (hb hby d8_0)
  have pre12 : oL p e below T11 (mkF m 3 #[] [ow wM]) s₁ (entryFrame m #[] 0) := fun t k => pre0 t (by
    refine st11 _ ?_
    exact k)
  obtain ⟨fs, hr, hrun, hended, hW, hsame⟩ := X11.leave (v := some (.ref wM)) (fun h => by rw [Bd.returns] at h; cases h)
  refine ⟨_, _, pre12 _ ?_, hrun, hended, _, _, rfl, ?_, ⟨_, rfl⟩, hW, hsame.mono (by decide) (by decide)⟩
  ·
    show oS p e below T11 (mkF m 3 #[] [ow wM]) _
    jvm_step X11.here [X11.here.top, hx, (hb hby d8_3), X11.method', Bd.returns, Value.isRef, FieldType.isReference]
    first | (intro acts; rw [hr _ acts rfl rfl rfl]) | rw [hr _ _ rfl rfl rfl]
    exact Steps.refl _
  ·
    show Q_rm_mapof Z wM h0 n0 _ T11.heap _
    rw [e11]
    exact ⟨rfl, N0, rfl⟩
theorem d11_0 : decode jdk_72_method_39_code 0 = .ok (.aload_n 0, 1) := by decide +kernel
theorem d11_1 : decode jdk_72_method_39_code 1 = .ok (.instanceof 101, 3) := by decide +kernel
theorem d11_4 : decode jdk_72_method_39_code 4 = .ok (.ifCond .eq 5, 3) := by decide +kernel
theorem d11_7 : decode jdk_72_method_39_code 7 = .ok (.aload_n 0, 1) := by decide +kernel
theorem d11_8 : decode jdk_72_method_39_code 8 = .ok (.areturn, 1) := by decide +kernel
def Q_rm_copy (Z : State) (a1 : Addr) (h0 : Heap) (n0 : Nat) (v : Option Value) (h : Heap) (L : List Loc) : Prop := v = some (.ref a1) ∧ Fr n0 L ∧ h = h0
set_option maxRecDepth 65536 in
set_option maxHeartbeats 40000000 in
theorem rm_copy (l : Launch) (Z : State) (a0 : Array Value) (hw : ∀ d ∈ tables_1, d.before a0 Z = true) (ws : List Jvm.Cond) (a1 : Addr) (h0 : Heap) (n0 : Nat) (OL : Old Z n0 h0) (EM : Exa Z Z.heap a1 "java/util/ImmutableCollections$MapN") :
    MetFree l (⟨"java/util/Map", "copyOf", "(Ljava/util/Map;)Ljava/util/Map;"⟩ : MethodName) (head1 (Jvm.Cond.code (⟨"java/util/Map", "copyOf", "(Ljava/util/Map;)Ljava/util/Map;"⟩ : MethodName) jdk_72_method_39_code 1 (some (.object "java/util/Map")) :: ws) ({ frames := 0, cells := 0, slots := 0, locals := 0 } : Room)) (fun a U => a = #[(.ref a1)] ∧ Z.Warmed39 U.vm ∧ U.heap = h0) (fun _ _ _ _ _ => True) (fun _ U o U' => ∃ v L, o = .returned v ∧ Q_rm_copy Z a1 h0 n0 v U'.heap L ∧ FrameEnd U o U' L ({ frames := 0, cells := 0, slots := 0, locals := 0 } : Room).cells ({ frames := 0, cells := 0, slots := 0, locals := 0 } : Room).slots) := by
  refine MetFree.of_bodySF (plainFor_of_name pn_java_util_Map) hisR ?_
  intro p e s m args below meth c s₁ Bd hml0 hP hK
  obtain ⟨rfl, hZ, hh⟩ := hP
  have hx := Bd.exec
  have hby := Bd.bytes
  have hml : c.maxLocals = 1 := hml0
  have hown : s.vm.findClass "java/util/Map" = some m.cls := findClass_of_methodNamed Bd.named
  have hnm := (name_of_methodNamed Bd.named Bd.method).1
  have X0 : Stand p l e ({ frames := 0, cells := 0, slots := 0, locals := 0 } : Room) s m #[(.ref a1)] below meth c s₁ [] 0 0 := Stand.of_body Bd
  have e0 : s₁.heap = h0 := by rw [← hh, Bd.state]; rfl
  have N0 := Fr.nil n0
  have pre0 : oL p e below s₁ (mkF m 0 #[oR a1] []) s₁ (entryFrame m #[(.ref a1)] 1) := fun t k => castTop (by first | (simp [entryFrame, mkF, argsToLocals, Value.category]; done) | rfl) k
  have pre11 : oL p e below s₁ (mkF m 1 #[oR a1] [ow a1]) s₁ (entryFrame m #[(.ref a1)] 1) := fun t k => pre0 t (by
    refine XS.aloadN X0.here hx rfl (hb hby d11_0) rfl rfl ?_
    exact k)
  obtain ⟨T12, X12, e12, st12⟩ := instY X0 hx hZ hown (oW hw 54 rfl) e0 (Ins.of_exa (EM.ext OL.2) (oW hw 55 rfl)) (g := (mkF m 1 #[oR a1] [ow a1])) rfl rfl (hb hby d11_1)
  have pre13 : oL p e below T12 (mkF m 8 #[oR a1] [ow a1]) s₁ (entryFrame m #[(.ref a1)] 1) := fun t k => pre11 t (by
    refine st12 _ ?_
    refine XS.ifNo X12.here hx rfl (hb hby d11_4) rfl ((if0 _ _).trans (feq (by decide : ¬ ((1 : Int32) = (0 : Int32)))).1) ?_
    refine XS.aloadN X12.here hx rfl (hb hby d11_7) rfl rfl ?_
    show oS p e below T12 (mkF m 8 #[oR a1] [ow a1]) _
    exact k)
  obtain ⟨fs, hr, hrun, hended, hW, hsame⟩ := X12.leave (v := some (.ref a1)) (fun h => by rw [Bd.returns] at h; cases h)
  refine ⟨_, _, pre13 _ ?_, hrun, hended, _, _, rfl, ?_, ⟨_, rfl⟩, hW, hsame.mono (by decide) (by decide)⟩
  ·
    show oS p e below T12 (mkF m 8 #[oR a1] [ow a1]) _
    jvm_step X12.here [X12.here.top, hx, (hb hby d11_8), X12.method', Bd.returns, Value.isRef, FieldType.isReference]
    first | (intro acts; rw [hr _ acts rfl rfl rfl]) | rw [hr _ _ rfl rfl rfl]
    exact Steps.refl _
  ·
    show Q_rm_copy Z a1 h0 n0 _ T12.heap _
    rw [e12]
    exact ⟨rfl, N0, rfl⟩
theorem pn_com_example_vedette_vedette_definition_PositionDefinition : plainName "com/example/vedette/vedette/definition/PositionDefinition" = true := by first | (simp [plainName, overriddenIn]; done) | decide +kernel
theorem d9_0 : decode prog_8_method_1_code 0 = .ok (.aload_n 0, 1) := by decide +kernel
theorem d9_1 : decode prog_8_method_1_code 1 = .ok (.invokespecial 1, 3) := by decide +kernel
theorem d9_4 : decode prog_8_method_1_code 4 = .ok (.aload_n 3, 1) := by decide +kernel
theorem d9_5 : decode prog_8_method_1_code 5 = .ok (.invokestatic 7, 3) := by decide +kernel
theorem pd__Ljava_util_Map__Ljava_util_Map_ : parseMethodDescriptor "(Ljava/util/Map;)Ljava/util/Map;" = some ⟨[(.object "java/util/Map")], some (.object "java/util/Map")⟩ := by decide +kernel
theorem d9_8 : decode prog_8_method_1_code 8 = .ok (.astore_n 3, 1) := by decide +kernel
theorem d9_9 : decode prog_8_method_1_code 9 = .ok (.aload_n 0, 1) := by decide +kernel
theorem d9_10 : decode prog_8_method_1_code 10 = .ok (.aload_n 1, 1) := by decide +kernel
theorem d9_11 : decode prog_8_method_1_code 11 = .ok (.putfield 13, 3) := by decide +kernel
theorem d9_14 : decode prog_8_method_1_code 14 = .ok (.aload_n 0, 1) := by decide +kernel
theorem d9_15 : decode prog_8_method_1_code 15 = .ok (.aload_n 2, 1) := by decide +kernel
theorem d9_16 : decode prog_8_method_1_code 16 = .ok (.putfield 19, 3) := by decide +kernel
theorem d9_19 : decode prog_8_method_1_code 19 = .ok (.aload_n 0, 1) := by decide +kernel
theorem d9_20 : decode prog_8_method_1_code 20 = .ok (.aload_n 3, 1) := by decide +kernel
theorem d9_21 : decode prog_8_method_1_code 21 = .ok (.putfield 22, 3) := by decide +kernel
theorem d9_24 : decode prog_8_method_1_code 24 = .ok (.return_, 1) := by decide +kernel
def Q_rm_pd3 (Z : State) (a1 : Addr) (a2 : Addr) (vv : Value) (a4 : Addr) (h0 : Heap) (n0 : Nat) (v : Option Value) (h : Heap) (L : List Loc) : Prop := v = none ∧ Fr n0 L ∧ Keep h0 h [a1] ∧ Exa Z h a1 "com/example/vedette/vedette/definition/PositionDefinition" ∧ Fld Z h a1 "com/example/vedette/vedette/definition/PositionDefinition" "name" "Ljava/lang/String;" (.ref a2) ∧ Fld Z h a1 "com/example/vedette/vedette/definition/PositionDefinition" "values" "Ljava/lang/String;" vv ∧ Fld Z h a1 "com/example/vedette/vedette/definition/PositionDefinition" "labels" "Ljava/util/Map;" (.ref a4)
set_option maxRecDepth 65536 in
set_option maxHeartbeats 40000000 in
theorem rm_pd3 (l : Launch) (Z : State) (a0 : Array Value) (hw : ∀ d ∈ tables_1, d.before a0 Z = true) (ws : List Jvm.Cond) (a1 : Addr) (a2 : Addr) (vv : Value) (a4 : Addr) (h0 : Heap) (n0 : Nat) (OL : Old Z n0 h0) (ge1 : n0 ≤ a1) (E1 : Exa Z h0 a1 "com/example/vedette/vedette/definition/PositionDefinition") (F_name : Fld Z h0 a1 "com/example/vedette/vedette/definition/PositionDefinition" "name" "Ljava/lang/String;" .null) (F_values : Fld Z h0 a1 "com/example/vedette/vedette/definition/PositionDefinition" "values" "Ljava/lang/String;" .null) (F_labels : Fld Z h0 a1 "com/example/vedette/vedette/definition/PositionDefinition" "labels" "Ljava/util/Map;" .null) (hvv : vv.isRef = true) (EM : Exa Z Z.heap a4 "java/util/ImmutableCollections$MapN") :
    MetFree l (⟨"com/example/vedette/vedette/definition/PositionDefinition", "<init>", "(Ljava/lang/String;Ljava/lang/String;Ljava/util/Map;)V"⟩ : MethodName) (head1 (Jvm.Cond.code (⟨"com/example/vedette/vedette/definition/PositionDefinition", "<init>", "(Ljava/lang/String;Ljava/lang/String;Ljava/util/Map;)V"⟩ : MethodName) prog_8_method_1_code 4 none :: ws) ({ frames := 2, cells := 0, slots := 0, locals := 24 } : Room)) (fun a U => a = #[(.ref a1), (.ref a2), vv, (.ref a4)] ∧ Z.Warmed39 U.vm ∧ U.heap = h0) (fun _ _ _ _ _ => True) (fun _ U o U' => ∃ v L, o = .returned v ∧ Q_rm_pd3 Z a1 a2 vv a4 h0 n0 v U'.heap L ∧ FrameEnd U o U' L ({ frames := 2, cells := 0, slots := 0, locals := 24 } : Room).cells ({ frames := 2, cells := 0, slots := 0, locals := 24 } : Room).slots) := by
  refine MetFree.of_bodySF (plainFor_of_name pn_com_example_vedette_vedette_definition_PositionDefinition) hisR ?_
  intro p e s m args below meth c s₁ Bd hml0 hP hK
  obtain ⟨rfl, hZ, hh⟩ := hP
  have hx := Bd.exec
  have hby := Bd.bytes
  have hml : c.maxLocals = 4 := hml0
  have hown : s.vm.findClass "com/example/vedette/vedette/definition/PositionDefinition" = some m.cls := findClass_of_methodNamed Bd.named
  have hnm := (name_of_methodNamed Bd.named Bd.method).1
  have X0 : Stand p l e ({ frames := 2, cells := 0, slots := 0, locals := 24 } : Room) s m #[(.ref a1), (.ref a2), vv, (.ref a4)] below meth c s₁ [] 0 0 := Stand.of_body Bd
  have e0 : s₁.heap = h0 := by rw [← hh, Bd.state]; rfl
  have N0 := Fr.nil n0
  have pre0 : oL p e below s₁ (mkF m 0 #[oR a1, oR a2, oV vv, oR a4] []) s₁ (entryFrame m #[(.ref a1), (.ref a2), vv, (.ref a4)] 4) := fun t k => castTop (by rcases ref_cases hvv with rfl | ⟨_, rfl⟩ <;> first | (simp [entryFrame, mkF, argsToLocals, Value.category]; done) | rfl) k
  have pre11 : oL p e below s₁ (mkF m 1 #[oR a1, oR a2, oV vv, oR a4] [ow a1]) s₁ (entryFrame m #[(.ref a1), (.ref a2), vv, (.ref a4)] 4) := fun t k => pre0 t (by
    refine XS.aloadN X0.here hx rfl (hb hby d9_0) rfl rfl ?_
    exact k)
  obtain ⟨_, _, ⟨T12, L12, k12, n12⟩, -, X12, ⟨Lc12, hQ12, l12, y12, z12⟩, st12⟩ := X0.specialBack hx (y := (⟨"java/lang/Record", "<init>", "()V"⟩ : MethodName)) rfl hown (mvT hZ (oW hw 45 rfl)) (mvT hZ (oW hw 46 rfl)) (mvT hZ (oW hw 49 rfl)) (by decide) (backOf (W := 0) (rm_rec l Z a0 hw [] a1 h0 n0 OL ) hZ (oW hw 49 rfl) (oW hw 48 rfl) (by decide) (by decide)) (g := (mkF m 1 #[oR a1, oR a2, oV vv, oR a4] [ow a1])) rfl (by rw [hml]; rfl) (Steps.refl _) (a := a1) (argsL := []) (rest := []) (lenOf pd___V rfl) rfl (by show 2 * 0 + _ ≤ _; exact Nat.le_of_eq rfl) (hb hby d9_1) (fun _ _ => ⟨rfl, e0, (by decide : 0 + 0 ≤ _), (by decide : 0 + 0 ≤ _)⟩)
  dsimp only [Pt.U, Pt.locs, Pt.cells, Pt.slots] at X12 l12 y12 z12 st12 hQ12
  subst l12 y12 z12
  obtain ⟨rfl, N12q, e12⟩ := hQ12
  have N12 := Fr.app N0 N12q
  have pre13 : oL p e below T12 (mkF m 5 #[oR a1, oR a2, oV vv, oR a4] [ow a4]) s₁ (entryFrame m #[(.ref a1), (.ref a2), vv, (.ref a4)] 4) := fun t k => pre11 t (by
    refine st12.trans ?_
    refine XS.aloadN X12.here hx rfl (hb hby d9_4) rfl rfl ?_
    exact k)
  obtain ⟨_, _, ⟨T14, L14, k14, n14⟩, -, X14, ⟨Lc14, hQ14, l14, y14, z14⟩, st14⟩ := Jvm.LawKit.callS X12 hx (y := (⟨"java/util/Map", "copyOf", "(Ljava/util/Map;)Ljava/util/Map;"⟩ : MethodName)) hown (mvT hZ (oW hw 51 rfl)) (mvT hZ (oW hw 52 rfl)) (mvT hZ (oW hw 38 rfl)) (mvT hZ (oW hw 53 rfl)) (by decide) (backOf (W := 0) (rm_copy l Z a0 hw [] a4 h0 n0 OL EM) hZ (oW hw 53 rfl) (oW hw 38 rfl) (by decide) (by decide)) (g := (mkF m 5 #[oR a1, oR a2, oV vv, oR a4] [ow a4])) rfl (by rw [hml]; rfl) (argsL := [(.ref a4)]) (rest := []) (lenOf pd__Ljava_util_Map__Ljava_util_Map_ rfl) rfl (by show 2 * 0 + _ ≤ _; exact Nat.le_of_eq rfl) (hb hby d9_5) (fun _ _ => ⟨rfl, e12, (by decide : 0 + 0 ≤ _), (by decide : 0 + 0 ≤ _)⟩)
  dsimp only [Pt.U, Pt.locs, Pt.cells, Pt.slots] at X14 l14 y14 z14 st14 hQ14
  subst l14 y14 z14
  obtain ⟨rfl, N14q, e14⟩ := hQ14
  have N14 := Fr.app N12 N14q
  have pre15 : oL p e below T14 (mkF m 11 #[oR a1, oR a2, oV vv, oR a4] [ow a2, ow a1]) s₁ (entryFrame m #[(.ref a1), (.ref a2), vv, (.ref a4)] 4) := fun t k => pre13 t (by
    refine st14 _ ?_
    show oS p e below T14 (mkF m 8 #[oR a1, oR a2, oV vv, oR a4] [ow a4]) _
    refine XS.astoreN X14.here hx rfl (hb hby d9_8) rfl rfl (l' := #[oR a1, oR a2, oV vv, oR a4]) rfl ?_
    refine XS.aloadN X14.here hx rfl (hb hby d9_9) rfl rfl ?_
    refine XS.aloadN X14.here hx rfl (hb hby d9_10) rfl rfl ?_
    exact k)
  obtain ⟨T16, h16, X16, e16, W16, st16⟩ := putF X14 hx hZ hown (host := "") (Or.inl (oW hw 56 rfl)) Via.refl e14 F_name E1 (Or.inr ⟨(oW hw 57 rfl), rfl, hnm⟩) (oW hw 31 rfl) (ty := (.object "java/lang/String")) (by decide) rfl rfl (g := (mkF m 11 #[oR a1, oR a2, oV vv, oR a4] [ow a2, ow a1])) rfl rfl (hb hby d9_11)
  have f17 := F_name.same W16
  have N16 := Fr.snoc X16 N14 ge1
  have f18 := E1.wr W16
  have f19 := F_values.other W16 (Or.inr (slot_ne (Or.inr (oW hw 59 rfl)) (Or.inr (oW hw 57 rfl)) (by decide) (t := (.object "java/lang/String")) (t' := (.object "java/lang/String")) (by decide) (by decide)))
  have f20 := F_labels.other W16 (Or.inr (slot_ne (Or.inr (oW hw 61 rfl)) (Or.inr (oW hw 57 rfl)) (by decide) (t := (.object "java/util/Map")) (t' := (.object "java/lang/String")) (by decide) (by decide)))
  have OL21 := OL.wr W16 ge1
  have K22 : Keep h0 h16 [a1] := (Keep.refl h0 [a1]).wr W16 (Or.inl (List.mem_of_getElem? (i := 0) rfl))
  have pre23 : oL p e below T16 (mkF m 16 #[oR a1, oR a2, oV vv, oR a4] [vv, ow a1]) s₁ (entryFrame m #[(.ref a1), (.ref a2), vv, (.ref a4)] 4) := fun t k => pre15 t (by
    refine st16 _ ?_
    show oS p e below T16 (mkF m 14 #[oR a1, oR a2, oV vv, oR a4] []) _
    refine XS.aloadN X16.here hx rfl (hb hby d9_14) rfl rfl ?_
    refine XS.aloadN X16.here hx rfl (hb hby d9_15) rfl hvv ?_
    exact k)
  obtain ⟨T24, h24, X24, e24, W24, st24⟩ := putF X16 hx hZ hown (host := "") (Or.inl (oW hw 58 rfl)) Via.refl e16 f19 f18 (Or.inr ⟨(oW hw 59 rfl), rfl, hnm⟩) (oW hw 31 rfl) (ty := (.object "java/lang/String")) (by decide) rfl (own_fitsR hvv) (g := (mkF m 16 #[oR a1, oR a2, oV vv, oR a4] [vv, ow a1])) rfl rfl (hb hby d9_16)
  have f25 := f19.same W24
  have N24 := Fr.snoc X24 N16 ge1
  have f26 := f18.wr W24
  have f27 := f17.other W24 (Or.inr (slot_ne (Or.inr (oW hw 57 rfl)) (Or.inr (oW hw 59 rfl)) (by decide) (t := (.object "java/lang/String")) (t' := (.object "java/lang/String")) (by decide) (by decide)))
  have f28 := f20.other W24 (Or.inr (slot_ne (Or.inr (oW hw 61 rfl)) (Or.inr (oW hw 59 rfl)) (by decide) (t := (.object "java/util/Map")) (t' := (.object "java/lang/String")) (by decide) (by decide)))
  have OL29 := OL21.wr W24 ge1
  have K30 : Keep h0 h24 [a1] := K22.wr W24 (Or.inl (List.mem_of_getElem? (i := 0) rfl))
  have pre31 : oL p e below T24 (mkF m 21 #[oR a1, oR a2, oV vv, oR a4] [ow a4, ow a1]) s₁ (entryFrame m #[(.ref a1), (.ref a2), vv, (.ref a4)] 4) := fun t k => pre23 t (by
    refine st24 _ ?_
    refine XS.aloadN X24.here hx rfl (hb hby d9_19) rfl rfl ?_
    show oS p e below T24 (mkF m 20 #[oR a1, oR a2, oV vv, oR a4] [ow a1]) _
    refine XS.aloadN X24.here hx rfl (hb hby d9_20) rfl rfl ?_
    exact k)
  obtain ⟨T32, h32, X32, e32, W32, st32⟩ := putF X24 hx hZ hown (host := "") (Or.inl (oW hw 60 rfl)) Via.refl e24 f28 f26 (Or.inr ⟨(oW hw 61 rfl), rfl, hnm⟩) (oW hw 31 rfl) (ty := (.object "java/util/Map")) (by decide) rfl rfl (g := (mkF m 21 #[oR a1, oR a2, oV vv, oR a4] [ow a4, ow a1])) rfl rfl (hb hby d9_21)
  have f33 := f28.same W32
  have N32 := Fr.snoc X32 N24 ge1
  have f34 := f26.wr W32
  have f35 := f27.other W32 (Or.inr (slot_ne (Or.inr (oW hw 57 rfl)) (Or.inr (oW hw 61 rfl)) (by decide) (t := (.object "java/lang/String")) (t' := (.object "java/util/Map")) (by decide) (by decide)))
  have f36 := f25.other W32 (Or.inr (slot_ne (Or.inr (oW hw 59 rfl)) (Or.inr (oW hw 61 rfl)) (by decide) (t := (.object "java/lang/String")) (t' := (.object "java/util/Map")) (by decide) (by decide)))
  have OL37 := OL29.wr W32 ge1
  have K38 : Keep h0 h32 [a1] := K30.wr W32 (Or.inl (List.mem_of_getElem? (i := 0) rfl))
  have pre39 : oL p e below T32 (mkF m 24 #[oR a1, oR a2, oV vv, oR a4] []) s₁ (entryFrame m #[(.ref a1), (.ref a2), vv, (.ref a4)] 4) := fun t k => pre31 t (by
    refine st32 _ ?_
    exact k)
  obtain ⟨fs, hr, hrun, hended, hW, hsame⟩ := X32.leave (v := none) (fun _ => rfl)
  refine ⟨_, _, pre39 _ ?_, hrun, hended, _, _, rfl, ?_, ⟨_, rfl⟩, hW, hsame.mono (by decide) (by decide)⟩
  ·
    show oS p e below T32 (mkF m 24 #[oR a1, oR a2, oV vv, oR a4] []) _
    exact X32.returnOut hx Bd.returns (hb hby d9_24) hr
  ·
    show Q_rm_pd3 Z a1 a2 vv a4 h0 n0 _ T32.heap _
    rw [e32]
    exact ⟨rfl, N32, K38, f34, f35, f36, f33⟩
theorem d7_0 : decode prog_8_method_2_code 0 = .ok (.aload_n 0, 1) := by decide +kernel
theorem d7_1 : decode prog_8_method_2_code 1 = .ok (.aload_n 1, 1) := by decide +kernel
theorem d7_2 : decode prog_8_method_2_code 2 = .ok (.aload_n 2, 1) := by decide +kernel
theorem d7_3 : decode prog_8_method_2_code 3 = .ok (.invokestatic 26, 3) := by decide +kernel
theorem pd___Ljava_util_Map_ : parseMethodDescriptor "()Ljava/util/Map;" = some ⟨[], some (.object "java/util/Map")⟩ := by decide +kernel
theorem d7_6 : decode prog_8_method_2_code 6 = .ok (.invokespecial 30, 3) := by decide +kernel
theorem pd__Ljava_lang_String_Ljava_lang_String_Ljava_util_Map__V : parseMethodDescriptor "(Ljava/lang/String;Ljava/lang/String;Ljava/util/Map;)V" = some ⟨[(.object "java/lang/String"), (.object "java/lang/String"), (.object "java/util/Map")], none⟩ := by decide +kernel
theorem d7_9 : decode prog_8_method_2_code 9 = .ok (.return_, 1) := by decide +kernel
def Q_rm_pd2 (Z : State) (a1 : Addr) (a2 : Addr) (vv : Value) (wM : Addr) (h0 : Heap) (n0 : Nat) (v : Option Value) (h : Heap) (L : List Loc) : Prop := v = none ∧ Fr n0 L ∧ Keep h0 h [a1] ∧ Exa Z h a1 "com/example/vedette/vedette/definition/PositionDefinition" ∧ Fld Z h a1 "com/example/vedette/vedette/definition/PositionDefinition" "name" "Ljava/lang/String;" (.ref a2) ∧ Fld Z h a1 "com/example/vedette/vedette/definition/PositionDefinition" "values" "Ljava/lang/String;" vv ∧ Fld Z h a1 "com/example/vedette/vedette/definition/PositionDefinition" "labels" "Ljava/util/Map;" (.ref wM)
set_option maxRecDepth 65536 in
set_option maxHeartbeats 40000000 in
theorem rm_pd2 (l : Launch) (Z : State) (a0 : Array Value) (hw : ∀ d ∈ tables_1, d.before a0 Z = true) (ws : List Jvm.Cond) (a1 : Addr) (a2 : Addr) (vv : Value) (wM : Addr) (h0 : Heap) (n0 : Nat) (OL : Old Z n0 h0) (ge1 : n0 ≤ a1) (E1 : Exa Z h0 a1 "com/example/vedette/vedette/definition/PositionDefinition") (F_name : Fld Z h0 a1 "com/example/vedette/vedette/definition/PositionDefinition" "name" "Ljava/lang/String;" .null) (F_values : Fld Z h0 a1 "com/example/vedette/vedette/definition/PositionDefinition" "values" "Ljava/lang/String;" .null) (F_labels : Fld Z h0 a1 "com/example/vedette/vedette/definition/PositionDefinition" "labels" "Ljava/util/Map;" .null) (hvv : vv.isRef = true) (sM : Sta Z Z.heap "java/util/ImmutableCollections" "EMPTY_MAP" "Ljava/util/ImmutableCollections$MapN;" (.ref wM)) (EM : Exa Z Z.heap wM "java/util/ImmutableCollections$MapN") :
    MetFree l (⟨"com/example/vedette/vedette/definition/PositionDefinition", "<init>", "(Ljava/lang/String;Ljava/lang/String;)V"⟩ : MethodName) (head1 (Jvm.Cond.code (⟨"com/example/vedette/vedette/definition/PositionDefinition", "<init>", "(Ljava/lang/String;Ljava/lang/String;)V"⟩ : MethodName) prog_8_method_2_code 3 none :: ws) ({ frames := 3, cells := 0, slots := 0, locals := 39 } : Room)) (fun a U => a = #[(.ref a1), (.ref a2), vv] ∧ Z.Warmed39 U.vm ∧ U.heap = h0) (fun _ _ _ _ _ => True) (fun _ U o U' => ∃ v L, o = .returned v ∧ Q_rm_pd2 Z a1 a2 vv wM h0 n0 v U'.heap L ∧ FrameEnd U o U' L ({ frames := 3, cells := 0, slots := 0, locals := 39 } : Room).cells ({ frames := 3, cells := 0, slots := 0, locals := 39 } : Room).slots) := by
  refine MetFree.of_bodySF (plainFor_of_name pn_com_example_vedette_vedette_definition_PositionDefinition) hisR ?_
  intro p e s m args below meth c s₁ Bd hml0 hP hK
  obtain ⟨rfl, hZ, hh⟩ := hP
  have hx := Bd.exec
  have hby := Bd.bytes
  have hml : c.maxLocals = 3 := hml0
  have hown : s.vm.findClass "com/example/vedette/vedette/definition/PositionDefinition" = some m.cls := findClass_of_methodNamed Bd.named
  have hnm := (name_of_methodNamed Bd.named Bd.method).1
  have X0 : Stand p l e ({ frames := 3, cells := 0, slots := 0, locals := 39 } : Room) s m #[(.ref a1), (.ref a2), vv] below meth c s₁ [] 0 0 := Stand.of_body Bd
  have e0 : s₁.heap = h0 := by rw [← hh, Bd.state]; rfl
  have N0 := Fr.nil n0
  have pre0 : oL p e below s₁ (mkF m 0 #[oR a1, oR a2, oV vv] []) s₁ (entryFrame m #[(.ref a1), (.ref a2), vv] 3) := fun t k => castTop (by rcases ref_cases hvv with rfl | ⟨_, rfl⟩ <;> first | (simp [entryFrame, mkF, argsToLocals, Value.category]; done) | rfl) k
  have pre11 : oL p e below s₁ (mkF m 3 #[oR a1, oR a2, oV vv] [vv, ow a2, ow a1]) s₁ (entryFrame m #[(.ref a1), (.ref a2), vv] 3) := fun t k => pre0 t (by
    refine XS.aloadN X0.here hx rfl (hb hby d7_0) rfl rfl ?_
    refine XS.aloadN X0.here hx rfl (hb hby d7_1) rfl rfl ?_
    refine XS.aloadN X0.here hx rfl (hb hby d7_2) rfl hvv ?_
    exact k)
  obtain ⟨_, _, ⟨T12, L12, k12, n12⟩, -, X12, ⟨Lc12, hQ12, l12, y12, z12⟩, st12⟩ := Jvm.LawKit.callS X0 hx (y := (⟨"java/util/Map", "of", "()Ljava/util/Map;"⟩ : MethodName)) hown (mvT hZ (oW hw 36 rfl)) (mvT hZ (oW hw 37 rfl)) (mvT hZ (oW hw 38 rfl)) (mvT hZ (oW hw 39 rfl)) (by decide) (backOf (W := 3) (rm_mapof l Z a0 hw [] wM h0 n0 OL sM) hZ (oW hw 39 rfl) (oW hw 38 rfl) (by decide) (by decide)) (g := (mkF m 3 #[oR a1, oR a2, oV vv] [vv, ow a2, ow a1])) rfl (by rw [hml]; rfl) (argsL := []) (rest := [vv, (.ref a2), (.ref a1)]) (lenOf pd___Ljava_util_Map_ rfl) rfl (by rcases ref_cases hvv with rfl | ⟨_, rfl⟩ <;> (show 2 * 0 + _ ≤ _; exact Nat.le_of_eq rfl)) (hb hby d7_3) (fun _ _ => ⟨rfl, e0, (by decide : 0 + 0 ≤ _), (by decide : 0 + 0 ≤ _)⟩)
  dsimp only [Pt.U, Pt.locs, Pt.cells, Pt.slots] at X12 l12 y12 z12 st12 hQ12
  subst l12 y12 z12
  obtain ⟨rfl, N12q, e12⟩ := hQ12
  have N12 := Fr.app N0 N12q
  have pre13 : oL p e below T12 (mkF m 6 #[oR a1, oR a2, oV vv] [ow wM, vv, ow a2, ow a1]) s₁ (entryFrame m #[(.ref a1), (.ref a2), vv] 3) := fun t k => pre11 t (by
    refine st12 _ ?_
    show oS p e below T12 (mkF m 6 #[oR a1, oR a2, oV vv] [ow wM, vv, ow a2, ow a1]) _
    exact k)
  obtain ⟨_, _, ⟨T14, L14, k14, n14⟩, -, X14, ⟨Lc14, hQ14, l14, y14, z14⟩, st14⟩ := X12.specialBack hx (y := (⟨"com/example/vedette/vedette/definition/PositionDefinition", "<init>", "(Ljava/lang/String;Ljava/lang/String;Ljava/util/Map;)V"⟩ : MethodName)) rfl hown (mvT hZ (oW hw 42 rfl)) (mvT hZ (oW hw 43 rfl)) (mvT hZ (oW hw 44 rfl)) (by decide) (backOf (W := 0) (rm_pd3 l Z a0 hw [] a1 a2 vv wM h0 n0 OL ge1 E1 F_name F_values F_labels hvv EM) hZ (oW hw 44 rfl) (oW hw 32 rfl) (by decide) (by decide)) (g := (mkF m 6 #[oR a1, oR a2, oV vv] [ow wM, vv, ow a2, ow a1])) rfl (by rw [hml]; rfl) (Steps.refl _) (a := a1) (argsL := [(.ref a2), vv, (.ref wM)]) (rest := []) (lenOf pd__Ljava_lang_String_Ljava_lang_String_Ljava_util_Map__V rfl) rfl (by show 2 * 0 + _ ≤ _; exact Nat.le_of_eq rfl) (hb hby d7_6) (fun _ _ => ⟨rfl, e12, (by decide : 0 + 0 ≤ _), (by decide : 0 + 0 ≤ _)⟩)
  dsimp only [Pt.U, Pt.locs, Pt.cells, Pt.slots] at X14 l14 y14 z14 st14 hQ14
  subst l14 y14 z14
  obtain ⟨rfl, N14q, Kq14, Eq14, F0_14, F1_14, F2_14⟩ := hQ14
  have N14 := Fr.app N12 N14q
  have f15 := E1.keep Kq14
  have OL16 := OL.keep Kq14 (allS ge1 all0)
  have K17 : Keep h0 T14.heap [a1] := (Keep.refl h0 [a1]).trans Kq14 (allS (Or.inl (List.mem_of_getElem? (i := 0) rfl)) all0)
  have pre18 : oL p e below T14 (mkF m 9 #[oR a1, oR a2, oV vv] []) s₁ (entryFrame m #[(.ref a1), (.ref a2), vv] 3) := fun t k => pre13 t (by
    refine st14.trans ?_
    exact k)
  obtain ⟨fs, hr, hrun, hended, hW, hsame⟩ := X14.leave (v := none) (fun _ => rfl)
  refine ⟨_, _, pre18 _ ?_, hrun, hended, _, _, rfl, ?_, ⟨_, rfl⟩, hW, hsame.mono (by decide) (by decide)⟩
  ·
    show oS p e below T14 (mkF m 9 #[oR a1, oR a2, oV vv] []) _
    exact X14.returnOut hx Bd.returns (hb hby d7_9) hr
  ·
    show Q_rm_pd2 Z a1 a2 vv wM h0 n0 _ T14.heap _
    exact ⟨rfl, N14, K17, Eq14, F0_14, F1_14, F2_14⟩
theorem pn_com_example_vedette_vedette_definition_ControlValueDefinition : plainName "com/example/vedette/vedette/definition/ControlValueDefinition" = true := by first | (simp [plainName, overriddenIn]; done) | decide +kernel
theorem d14_0 : decode prog_3_method_1_code 0 = .ok (.aload_n 0, 1) := by decide +kernel
theorem d14_1 : decode prog_3_method_1_code 1 = .ok (.invokespecial 1, 3) := by decide +kernel
theorem d14_4 : decode prog_3_method_1_code 4 = .ok (.aload_n 3, 1) := by decide +kernel
theorem d14_5 : decode prog_3_method_1_code 5 = .ok (.invokestatic 7, 3) := by decide +kernel
theorem d14_8 : decode prog_3_method_1_code 8 = .ok (.astore_n 3, 1) := by decide +kernel
theorem d14_9 : decode prog_3_method_1_code 9 = .ok (.aload_n 0, 1) := by decide +kernel
theorem d14_10 : decode prog_3_method_1_code 10 = .ok (.iload_n 1, 1) := by decide +kernel
theorem d14_11 : decode prog_3_method_1_code 11 = .ok (.putfield 13, 3) := by decide +kernel
theorem d14_14 : decode prog_3_method_1_code 14 = .ok (.aload_n 0, 1) := by decide +kernel
theorem d14_15 : decode prog_3_method_1_code 15 = .ok (.iload_n 2, 1) := by decide +kernel
theorem d14_16 : decode prog_3_method_1_code 16 = .ok (.putfield 19, 3) := by decide +kernel
theorem d14_19 : decode prog_3_method_1_code 19 = .ok (.aload_n 0, 1) := by decide +kernel
theorem d14_20 : decode prog_3_method_1_code 20 = .ok (.aload_n 3, 1) := by decide +kernel
theorem d14_21 : decode prog_3_method_1_code 21 = .ok (.putfield 22, 3) := by decide +kernel
theorem d14_24 : decode prog_3_method_1_code 24 = .ok (.return_, 1) := by decide +kernel
def Q_rm_cvd (Z : State) (a1 : Addr) (p2 : Int32) (p3 : Int32) (a4 : Addr) (h0 : Heap) (n0 : Nat) (v : Option Value) (h : Heap) (L : List Loc) : Prop := v = none ∧ Fr n0 L ∧ Keep h0 h [a1]
set_option maxRecDepth 65536 in
set_option maxHeartbeats 40000000 in
theorem rm_cvd (l : Launch) (Z : State) (a0 : Array Value) (hw : ∀ d ∈ tables_1, d.before a0 Z = true) (ws : List Jvm.Cond) (a1 : Addr) (p2 : Int32) (p3 : Int32) (a4 : Addr) (h0 : Heap) (n0 : Nat) (OL : Old Z n0 h0) (ge1 : n0 ≤ a1) (E1 : Exa Z h0 a1 "com/example/vedette/vedette/definition/ControlValueDefinition") (F_minLength : Fld Z h0 a1 "com/example/vedette/vedette/definition/ControlValueDefinition" "minLength" "I" (.int (0 : Int32))) (F_maxLength : Fld Z h0 a1 "com/example/vedette/vedette/definition/ControlValueDefinition" "maxLength" "I" (.int (0 : Int32))) (F_positions : Fld Z h0 a1 "com/example/vedette/vedette/definition/ControlValueDefinition" "positions" "Ljava/util/Map;" .null) (EM : Exa Z Z.heap a4 "java/util/ImmutableCollections$MapN") :
    MetFree l (⟨"com/example/vedette/vedette/definition/ControlValueDefinition", "<init>", "(IILjava/util/Map;)V"⟩ : MethodName) (head1 (Jvm.Cond.code (⟨"com/example/vedette/vedette/definition/ControlValueDefinition", "<init>", "(IILjava/util/Map;)V"⟩ : MethodName) prog_3_method_1_code 4 none :: ws) ({ frames := 2, cells := 0, slots := 0, locals := 24 } : Room)) (fun a U => a = #[(.ref a1), (.int p2), (.int p3), (.ref a4)] ∧ Z.Warmed39 U.vm ∧ U.heap = h0) (fun _ _ _ _ _ => True) (fun _ U o U' => ∃ v L, o = .returned v ∧ Q_rm_cvd Z a1 p2 p3 a4 h0 n0 v U'.heap L ∧ FrameEnd U o U' L ({ frames := 2, cells := 0, slots := 0, locals := 24 } : Room).cells ({ frames := 2, cells := 0, slots := 0, locals := 24 } : Room).slots) := by
  refine MetFree.of_bodySF (plainFor_of_name pn_com_example_vedette_vedette_definition_ControlValueDefinition) hisR ?_
  intro p e s m args below meth c s₁ Bd hml0 hP hK
  obtain ⟨rfl, hZ, hh⟩ := hP
  have hx := Bd.exec
  have hby := Bd.bytes
  have hml : c.maxLocals = 4 := hml0
  have hown : s.vm.findClass "com/example/vedette/vedette/definition/ControlValueDefinition" = some m.cls := findClass_of_methodNamed Bd.named
  have hnm := (name_of_methodNamed Bd.named Bd.method).1
  have X0 : Stand p l e ({ frames := 2, cells := 0, slots := 0, locals := 24 } : Room) s m #[(.ref a1), (.int p2), (.int p3), (.ref a4)] below meth c s₁ [] 0 0 := Stand.of_body Bd
  have e0 : s₁.heap = h0 := by rw [← hh, Bd.state]; rfl
  have N0 := Fr.nil n0
  have pre0 : oL p e below s₁ (mkF m 0 #[oR a1, oI p2, oI p3, oR a4] []) s₁ (entryFrame m #[(.ref a1), (.int p2), (.int p3), (.ref a4)] 4) := fun t k => castTop (by first | (simp [entryFrame, mkF, argsToLocals, Value.category]; done) | rfl) k
  have pre11 : oL p e below s₁ (mkF m 1 #[oR a1, oI p2, oI p3, oR a4] [ow a1]) s₁ (entryFrame m #[(.ref a1), (.int p2), (.int p3), (.ref a4)] 4) := fun t k => pre0 t (by
    refine XS.aloadN X0.here hx rfl (hb hby d14_0) rfl rfl ?_
    exact k)
  obtain ⟨_, _, ⟨T12, L12, k12, n12⟩, -, X12, ⟨Lc12, hQ12, l12, y12, z12⟩, st12⟩ := X0.specialBack hx (y := (⟨"java/lang/Record", "<init>", "()V"⟩ : MethodName)) rfl hown (mvT hZ (oW hw 79 rfl)) (mvT hZ (oW hw 46 rfl)) (mvT hZ (oW hw 49 rfl)) (by decide) (backOf (W := 0) (rm_rec l Z a0 hw [] a1 h0 n0 OL ) hZ (oW hw 49 rfl) (oW hw 48 rfl) (by decide) (by decide)) (g := (mkF m 1 #[oR a1, oI p2, oI p3, oR a4] [ow a1])) rfl (by rw [hml]; rfl) (Steps.refl _) (a := a1) (argsL := []) (rest := []) (lenOf pd___V rfl) rfl (by show 2 * 0 + _ ≤ _; exact Nat.le_of_eq rfl) (hb hby d14_1) (fun _ _ => ⟨rfl, e0, (by decide : 0 + 0 ≤ _), (by decide : 0 + 0 ≤ _)⟩)
  dsimp only [Pt.U, Pt.locs, Pt.cells, Pt.slots] at X12 l12 y12 z12 st12 hQ12
  subst l12 y12 z12
  obtain ⟨rfl, N12q, e12⟩ := hQ12
  have N12 := Fr.app N0 N12q
  have pre13 : oL p e below T12 (mkF m 5 #[oR a1, oI p2, oI p3, oR a4] [ow a4]) s₁ (entryFrame m #[(.ref a1), (.int p2), (.int p3), (.ref a4)] 4) := fun t k => pre11 t (by
    refine st12.trans ?_
    refine XS.aloadN X12.here hx rfl (hb hby d14_4) rfl rfl ?_
    exact k)
  obtain ⟨_, _, ⟨T14, L14, k14, n14⟩, -, X14, ⟨Lc14, hQ14, l14, y14, z14⟩, st14⟩ := Jvm.LawKit.callS X12 hx (y := (⟨"java/util/Map", "copyOf", "(Ljava/util/Map;)Ljava/util/Map;"⟩ : MethodName)) hown (mvT hZ (oW hw 80 rfl)) (mvT hZ (oW hw 52 rfl)) (mvT hZ (oW hw 38 rfl)) (mvT hZ (oW hw 53 rfl)) (by decide) (backOf (W := 0) (rm_copy l Z a0 hw [] a4 h0 n0 OL EM) hZ (oW hw 53 rfl) (oW hw 38 rfl) (by decide) (by decide)) (g := (mkF m 5 #[oR a1, oI p2, oI p3, oR a4] [ow a4])) rfl (by rw [hml]; rfl) (argsL := [(.ref a4)]) (rest := []) (lenOf pd__Ljava_util_Map__Ljava_util_Map_ rfl) rfl (by show 2 * 0 + _ ≤ _; exact Nat.le_of_eq rfl) (hb hby d14_5) (fun _ _ => ⟨rfl, e12, (by decide : 0 + 0 ≤ _), (by decide : 0 + 0 ≤ _)⟩)
  dsimp only [Pt.U, Pt.locs, Pt.cells, Pt.slots] at X14 l14 y14 z14 st14 hQ14
  subst l14 y14 z14
  obtain ⟨rfl, N14q, e14⟩ := hQ14
  have N14 := Fr.app N12 N14q
  have pre15 : oL p e below T14 (mkF m 11 #[oR a1, oI p2, oI p3, oR a4] [oi p2, ow a1]) s₁ (entryFrame m #[(.ref a1), (.int p2), (.int p3), (.ref a4)] 4) := fun t k => pre13 t (by
    refine st14 _ ?_
    show oS p e below T14 (mkF m 8 #[oR a1, oI p2, oI p3, oR a4] [ow a4]) _
    refine XS.astoreN X14.here hx rfl (hb hby d14_8) rfl rfl (l' := #[oR a1, oI p2, oI p3, oR a4]) rfl ?_
    refine XS.aloadN X14.here hx rfl (hb hby d14_9) rfl rfl ?_
    refine XS.iloadN X14.here hx rfl (hb hby d14_10) rfl ?_
    exact k)
  obtain ⟨T16, h16, X16, e16, W16, st16⟩ := putF X14 hx hZ hown (host := "") (Or.inl (oW hw 81 rfl)) Via.refl e14 F_minLength E1 (Or.inr ⟨(oW hw 82 rfl), rfl, hnm⟩) (oW hw 63 rfl) (ty := .int) (by decide) rfl rfl (g := (mkF m 11 #[oR a1, oI p2, oI p3, oR a4] [oi p2, ow a1])) rfl rfl (hb hby d14_11)
  have f17 := F_minLength.same W16
  have N16 := Fr.snoc X16 N14 ge1
  have f18 := E1.wr W16
  have f19 := F_maxLength.other W16 (Or.inr (slot_ne (Or.inr (oW hw 84 rfl)) (Or.inr (oW hw 82 rfl)) (by decide) (t := .int) (t' := .int) (by decide) (by decide)))
  have f20 := F_positions.other W16 (Or.inr (slot_ne (Or.inr (oW hw 86 rfl)) (Or.inr (oW hw 82 rfl)) (by decide) (t := (.object "java/util/Map")) (t' := .int) (by decide) (by decide)))
  have OL21 := OL.wr W16 ge1
  have K22 : Keep h0 h16 [a1] := (Keep.refl h0 [a1]).wr W16 (Or.inl (List.mem_of_getElem? (i := 0) rfl))
  have pre23 : oL p e below T16 (mkF m 16 #[oR a1, oI p2, oI p3, oR a4] [oi p3, ow a1]) s₁ (entryFrame m #[(.ref a1), (.int p2), (.int p3), (.ref a4)] 4) := fun t k => pre15 t (by
    refine st16 _ ?_
    show oS p e below T16 (mkF m 14 #[oR a1, oI p2, oI p3, oR a4] []) _
    refine XS.aloadN X16.here hx rfl (hb hby d14_14) rfl rfl ?_
    refine XS.iloadN X16.here hx rfl (hb hby d14_15) rfl ?_
    exact k)
  obtain ⟨T24, h24, X24, e24, W24, st24⟩ := putF X16 hx hZ hown (host := "") (Or.inl (oW hw 83 rfl)) Via.refl e16 f19 f18 (Or.inr ⟨(oW hw 84 rfl), rfl, hnm⟩) (oW hw 63 rfl) (ty := .int) (by decide) rfl rfl (g := (mkF m 16 #[oR a1, oI p2, oI p3, oR a4] [oi p3, ow a1])) rfl rfl (hb hby d14_16)
  have f25 := f19.same W24
  have N24 := Fr.snoc X24 N16 ge1
  have f26 := f18.wr W24
  have f27 := f17.other W24 (Or.inr (slot_ne (Or.inr (oW hw 82 rfl)) (Or.inr (oW hw 84 rfl)) (by decide) (t := .int) (t' := .int) (by decide) (by decide)))
  have f28 := f20.other W24 (Or.inr (slot_ne (Or.inr (oW hw 86 rfl)) (Or.inr (oW hw 84 rfl)) (by decide) (t := (.object "java/util/Map")) (t' := .int) (by decide) (by decide)))
  have OL29 := OL21.wr W24 ge1
  have K30 : Keep h0 h24 [a1] := K22.wr W24 (Or.inl (List.mem_of_getElem? (i := 0) rfl))
  have pre31 : oL p e below T24 (mkF m 21 #[oR a1, oI p2, oI p3, oR a4] [ow a4, ow a1]) s₁ (entryFrame m #[(.ref a1), (.int p2), (.int p3), (.ref a4)] 4) := fun t k => pre23 t (by
    refine st24 _ ?_
    refine XS.aloadN X24.here hx rfl (hb hby d14_19) rfl rfl ?_
    show oS p e below T24 (mkF m 20 #[oR a1, oI p2, oI p3, oR a4] [ow a1]) _
    refine XS.aloadN X24.here hx rfl (hb hby d14_20) rfl rfl ?_
    exact k)
  obtain ⟨T32, h32, X32, e32, W32, st32⟩ := putF X24 hx hZ hown (host := "") (Or.inl (oW hw 85 rfl)) Via.refl e24 f28 f26 (Or.inr ⟨(oW hw 86 rfl), rfl, hnm⟩) (oW hw 63 rfl) (ty := (.object "java/util/Map")) (by decide) rfl rfl (g := (mkF m 21 #[oR a1, oI p2, oI p3, oR a4] [ow a4, ow a1])) rfl rfl (hb hby d14_21)
  have f33 := f28.same W32
  have N32 := Fr.snoc X32 N24 ge1
  have f34 := f26.wr W32
  have f35 := f27.other W32 (Or.inr (slot_ne (Or.inr (oW hw 82 rfl)) (Or.inr (oW hw 86 rfl)) (by decide) (t := .int) (t' := (.object "java/util/Map")) (by decide) (by decide)))
  have f36 := f25.other W32 (Or.inr (slot_ne (Or.inr (oW hw 84 rfl)) (Or.inr (oW hw 86 rfl)) (by decide) (t := .int) (t' := (.object "java/util/Map")) (by decide) (by decide)))
  have OL37 := OL29.wr W32 ge1
  have K38 : Keep h0 h32 [a1] := K30.wr W32 (Or.inl (List.mem_of_getElem? (i := 0) rfl))
  have pre39 : oL p e below T32 (mkF m 24 #[oR a1, oI p2, oI p3, oR a4] []) s₁ (entryFrame m #[(.ref a1), (.int p2), (.int p3), (.ref a4)] 4) := fun t k => pre31 t (by
    refine st32 _ ?_
    exact k)
  obtain ⟨fs, hr, hrun, hended, hW, hsame⟩ := X32.leave (v := none) (fun _ => rfl)
  refine ⟨_, _, pre39 _ ?_, hrun, hended, _, _, rfl, ?_, ⟨_, rfl⟩, hW, hsame.mono (by decide) (by decide)⟩
  ·
    show oS p e below T32 (mkF m 24 #[oR a1, oI p2, oI p3, oR a4] []) _
    exact X32.returnOut hx Bd.returns (hb hby d14_24) hr
  ·
    show Q_rm_cvd Z a1 p2 p3 a4 h0 n0 _ T32.heap _
    rw [e32]
    exact ⟨rfl, N32, K38⟩
theorem pn_com_example_vedette_vedette_definition_SubfieldDefinitionWithControlValuePinLaw : plainName "com/example/vedette/vedette/definition/SubfieldDefinitionWithControlValuePinLaw" = true := by first | (simp [plainName, overriddenIn]; done) | decide +kernel
theorem d13_0 : decode method_3_code 0 = .ok (.aload_n 0, 1) := by decide +kernel
theorem d13_1 : decode method_3_code 1 = .ok (.areturn, 1) := by decide +kernel
def Q_rm_emp (Z : State) (a1 : Addr) (h0 : Heap) (n0 : Nat) (v : Option Value) (h : Heap) (L : List Loc) : Prop := v = some (.ref a1) ∧ Fr n0 L ∧ h = h0
set_option maxRecDepth 65536 in
set_option maxHeartbeats 40000000 in
theorem rm_emp (l : Launch) (Z : State) (a0 : Array Value) (hw : ∀ d ∈ tables_1, d.before a0 Z = true) (ws : List Jvm.Cond) (a1 : Addr) (h0 : Heap) (n0 : Nat) (OL : Old Z n0 h0) :
    MetFree l (⟨"com/example/vedette/vedette/definition/SubfieldDefinitionWithControlValuePinLaw", "emptyPositions", "(Ljava/lang/Object;)Ljava/lang/Object;"⟩ : MethodName) (head1 (Jvm.Cond.code (⟨"com/example/vedette/vedette/definition/SubfieldDefinitionWithControlValuePinLaw", "emptyPositions", "(Ljava/lang/Object;)Ljava/lang/Object;"⟩ : MethodName) method_3_code 1 (some (.object "java/lang/Object")) :: ws) ({ frames := 0, cells := 0, slots := 0, locals := 0 } : Room)) (fun a U => a = #[(.ref a1)] ∧ Z.Warmed39 U.vm ∧ U.heap = h0) (fun _ _ _ _ _ => True) (fun _ U o U' => ∃ v L, o = .returned v ∧ Q_rm_emp Z a1 h0 n0 v U'.heap L ∧ FrameEnd U o U' L ({ frames := 0, cells := 0, slots := 0, locals := 0 } : Room).cells ({ frames := 0, cells := 0, slots := 0, locals := 0 } : Room).slots) := by
  refine MetFree.of_bodySF (plainFor_of_name pn_com_example_vedette_vedette_definition_SubfieldDefinitionWithControlValuePinLaw) hisR ?_
  intro p e s m args below meth c s₁ Bd hml0 hP hK
  obtain ⟨rfl, hZ, hh⟩ := hP
  have hx := Bd.exec
  have hby := Bd.bytes
  have hml : c.maxLocals = 1 := hml0
  have hown : s.vm.findClass "com/example/vedette/vedette/definition/SubfieldDefinitionWithControlValuePinLaw" = some m.cls := findClass_of_methodNamed Bd.named
  have hnm := (name_of_methodNamed Bd.named Bd.method).1
  have X0 : Stand p l e ({ frames := 0, cells := 0, slots := 0, locals := 0 } : Room) s m #[(.ref a1)] below meth c s₁ [] 0 0 := Stand.of_body Bd
  have e0 : s₁.heap = h0 := by rw [← hh, Bd.state]; rfl
  have N0 := Fr.nil n0
  have pre0 : oL p e below s₁ (mkF m 0 #[oR a1] []) s₁ (entryFrame m #[(.ref a1)] 1) := fun t k => castTop (by first | (simp [entryFrame, mkF, argsToLocals, Value.category]; done) | rfl) k
  have pre11 : oL p e below s₁ (mkF m 1 #[oR a1] [ow a1]) s₁ (entryFrame m #[(.ref a1)] 1) := fun t k => pre0 t (by
    refine XS.aloadN X0.here hx rfl (hb hby d13_0) rfl rfl ?_
    exact k)
  obtain ⟨fs, hr, hrun, hended, hW, hsame⟩ := X0.leave (v := some (.ref a1)) (fun h => by rw [Bd.returns] at h; cases h)
  refine ⟨_, _, pre11 _ ?_, hrun, hended, _, _, rfl, ?_, ⟨_, rfl⟩, hW, hsame.mono (by decide) (by decide)⟩
  ·
    show oS p e below s₁ (mkF m 1 #[oR a1] [ow a1]) _
    jvm_step X0.here [X0.here.top, hx, (hb hby d13_1), X0.method', Bd.returns, Value.isRef, FieldType.isReference]
    first | (intro acts; rw [hr _ acts rfl rfl rfl]) | rw [hr _ _ rfl rfl rfl]
    exact Steps.refl _
  ·
    show Q_rm_emp Z a1 h0 n0 _ s₁.heap _
    rw [e0]
    exact ⟨rfl, N0, rfl⟩
theorem d12_0 : decode prog_8_method_11_code 0 = .ok (.aload_n 0, 1) := by decide +kernel
theorem d12_1 : decode prog_8_method_11_code 1 = .ok (.getfield 22, 3) := by decide +kernel
theorem d12_4 : decode prog_8_method_11_code 4 = .ok (.areturn, 1) := by decide +kernel
def Q_rm_g_labels (Z : State) (a1 : Addr) (w1 : Value) (h0 : Heap) (n0 : Nat) (v : Option Value) (h : Heap) (L : List Loc) : Prop := v = some w1 ∧ Fr n0 L ∧ h = h0
set_option maxRecDepth 65536 in
set_option maxHeartbeats 40000000 in
theorem rm_g_labels (l : Launch) (Z : State) (a0 : Array Value) (hw : ∀ d ∈ tables_1, d.before a0 Z = true) (ws : List Jvm.Cond) (a1 : Addr) (w1 : Value) (h0 : Heap) (n0 : Nat) (OL : Old Z n0 h0) (F1 : Fld Z h0 a1 "com/example/vedette/vedette/definition/PositionDefinition" "labels" "Ljava/util/Map;" w1) (hr1 : w1.isRef = true) :
    MetFree l (⟨"com/example/vedette/vedette/definition/PositionDefinition", "labels", "()Ljava/util/Map;"⟩ : MethodName) (head1 (Jvm.Cond.code (⟨"com/example/vedette/vedette/definition/PositionDefinition", "labels", "()Ljava/util/Map;"⟩ : MethodName) prog_8_method_11_code 1 (some (.object "java/util/Map")) :: ws) ({ frames := 0, cells := 0, slots := 0, locals := 0 } : Room)) (fun a U => a = #[(.ref a1)] ∧ Z.Warmed39 U.vm ∧ U.heap = h0) (fun _ _ _ _ _ => True) (fun _ U o U' => ∃ v L, o = .returned v ∧ Q_rm_g_labels Z a1 w1 h0 n0 v U'.heap L ∧ FrameEnd U o U' L ({ frames := 0, cells := 0, slots := 0, locals := 0 } : Room).cells ({ frames := 0, cells := 0, slots := 0, locals := 0 } : Room).slots) := by
  refine MetFree.of_bodySF (plainFor_of_name pn_com_example_vedette_vedette_definition_PositionDefinition) hisR ?_
  intro p e s m args below meth c s₁ Bd hml0 hP hK
  obtain ⟨rfl, hZ, hh⟩ := hP
  have hx := Bd.exec
  have hby := Bd.bytes
  have hml : c.maxLocals = 1 := hml0
  have hown : s.vm.findClass "com/example/vedette/vedette/definition/PositionDefinition" = some m.cls := findClass_of_methodNamed Bd.named
  have hnm := (name_of_methodNamed Bd.named Bd.method).1
  have X0 : Stand p l e ({ frames := 0, cells := 0, slots := 0, locals := 0 } : Room) s m #[(.ref a1)] below meth c s₁ [] 0 0 := Stand.of_body Bd
  have e0 : s₁.heap = h0 := by rw [← hh, Bd.state]; rfl
  have N0 := Fr.nil n0
  have pre0 : oL p e below s₁ (mkF m 0 #[oR a1] []) s₁ (entryFrame m #[(.ref a1)] 1) := fun t k => castTop (by first | (simp [entryFrame, mkF, argsToLocals, Value.category]; done) | rfl) k
  have pre11 : oL p e below s₁ (mkF m 1 #[oR a1] [ow a1]) s₁ (entryFrame m #[(.ref a1)] 1) := fun t k => pre0 t (by
    refine XS.aloadN X0.here hx rfl (hb hby d12_0) rfl rfl ?_
    exact k)
  obtain ⟨T12, X12, e12, st12⟩ := getF X0 hx hZ hown (host := "") (Or.inl (oW hw 60 rfl)) Via.refl e0 F1 (g := (mkF m 1 #[oR a1] [ow a1])) rfl rfl (hb hby d12_1)
  have pre13 : oL p e below T12 (mkF m 4 #[oR a1] [w1]) s₁ (entryFrame m #[(.ref a1)] 1) := fun t k => pre11 t (by
    refine st12 _ ?_
    exact k)
  obtain ⟨fs, hr, hrun, hended, hW, hsame⟩ := X12.leave (v := some w1) (fun h => by rw [Bd.returns] at h; cases h)
  refine ⟨_, _, pre13 _ ?_, hrun, hended, _, _, rfl, ?_, ⟨_, rfl⟩, hW, hsame.mono (by decide) (by decide)⟩
  ·
    show oS p e below T12 (mkF m 4 #[oR a1] [w1]) _
    exact retOut X12 hx Bd.returns rfl (Or.inr (Or.inr (Or.inr (Or.inr ⟨rfl, rfl, hr1⟩)))) (hb hby d12_4) hr
  ·
    show Q_rm_g_labels Z a1 w1 h0 n0 _ T12.heap _
    rw [e12]
    exact ⟨rfl, N0, rfl⟩
theorem pd___C_V : parseMethodDescriptor "([C)V" = some ⟨[(.array .char)], none⟩ := by decide +kernel
theorem pd__Ljava_lang_String_Ljava_lang_String__V : parseMethodDescriptor "(Ljava/lang/String;Ljava/lang/String;)V" = some ⟨[(.object "java/lang/String"), (.object "java/lang/String")], none⟩ := by decide +kernel
theorem pd__Ljava_lang_Object__Ljava_lang_Object_ : parseMethodDescriptor "(Ljava/lang/Object;)Ljava/lang/Object;" = some ⟨[(.object "java/lang/Object")], some (.object "java/lang/Object")⟩ := by decide +kernel
theorem pd__IILjava_util_Map__V : parseMethodDescriptor "(IILjava/util/Map;)V" = some ⟨[.int, .int, (.object "java/util/Map")], none⟩ := by decide +kernel
theorem pd__Lcom_example_vedette_vedette_definition_ControlValueDefinition__Lcom_example_vedette_vedette_definition_SubfieldDefinition_ : parseMethodDescriptor "(Lcom/example/vedette/vedette/definition/ControlValueDefinition;)Lcom/example/vedette/vedette/definition/SubfieldDefinition;" = some ⟨[(.object "com/example/vedette/vedette/definition/ControlValueDefinition")], some (.object "com/example/vedette/vedette/definition/SubfieldDefinition")⟩ := by decide +kernel
theorem pd___C : parseMethodDescriptor "()C" = some ⟨[], some .char⟩ := by decide +kernel
theorem pd___Ljava_lang_String_ : parseMethodDescriptor "()Ljava/lang/String;" = some ⟨[], some (.object "java/lang/String")⟩ := by decide +kernel
theorem pd__Ljava_lang_Object__Z : parseMethodDescriptor "(Ljava/lang/Object;)Z" = some ⟨[(.object "java/lang/Object")], some .boolean⟩ := by decide +kernel
theorem pd___Z : parseMethodDescriptor "()Z" = some ⟨[], some .boolean⟩ := by decide +kernel
theorem pd___Lcom_example_vedette_vedette_definition_ControlValueDefinition_ : parseMethodDescriptor "()Lcom/example/vedette/vedette/definition/ControlValueDefinition;" = some ⟨[], some (.object "com/example/vedette/vedette/definition/ControlValueDefinition")⟩ := by decide +kernel
def Q_rm0 (Z : State) (p1 : Int32) (p2 : Int32) (p3 : Int32) (p4 : Int32) (p5 : Int32) (G1 : Int32) (wM : Addr) (h0 : Heap) (n0 : Nat) (v : Option Value) (h : Heap) (L : List Loc) : Prop := v = some (.int (1 : Int32)) ∧ Fr n0 L
set_option maxRecDepth 65536 in
set_option maxHeartbeats 40000000 in
theorem rm0 (l : Launch) (Z : State) (a0 : Array Value) (hw : ∀ d ∈ tables_1, d.before a0 Z = true) (ws : List Jvm.Cond) (p1 : Int32) (p2 : Int32) (p3 : Int32) (p4 : Int32) (p5 : Int32) (G1 : Int32) (wM : Addr) (h0 : Heap) (n0 : Nat) (OL : Old Z n0 h0) (O2 : Sta Z Z.heap "java/lang/String" "COMPACT_STRINGS" "Z" (.int G1)) (P5 : ¬ (G1 = (0 : Int32))) (sM : Sta Z Z.heap "java/util/ImmutableCollections" "EMPTY_MAP" "Ljava/util/ImmutableCollections$MapN;" (.ref wM)) (eM : Exa Z Z.heap wM "java/util/ImmutableCollections$MapN") :
    MetFree l x (head1 (Jvm.Cond.code x code maxLocals ret :: ws) room_1) (fun a U => a = #[(.int p1), (.int p2), (.int p3), (.int p4), (.int p5)] ∧ Z.Warmed39 U.vm ∧ U.heap = h0) (fun _ _ _ _ _ => True) (fun _ U o U' => ∃ v L, o = .returned v ∧ Q_rm0 Z p1 p2 p3 p4 p5 G1 wM h0 n0 v U'.heap L ∧ FrameEnd U o U' L room_1.cells room_1.slots) := by
  refine MetFree.of_bodySF (plainFor_of_name pn_com_example_vedette_vedette_definition_SubfieldDefinitionWithControlValuePinLaw) hisR ?_
  intro p e s m args below meth c s₁ Bd hml0 hP hK
  obtain ⟨rfl, hZ, hh⟩ := hP
  have hx := Bd.exec
  have hby := Bd.bytes
  have hml : c.maxLocals = 18 := hml0
  have hown : s.vm.findClass "com/example/vedette/vedette/definition/SubfieldDefinitionWithControlValuePinLaw" = some m.cls := findClass_of_methodNamed Bd.named
  have hnm := (name_of_methodNamed Bd.named Bd.method).1
  have X0 : Stand p l e room_1 s m #[(.int p1), (.int p2), (.int p3), (.int p4), (.int p5)] below meth c s₁ [] 0 0 := Stand.of_body Bd
  have e0 : s₁.heap = h0 := by rw [← hh, Bd.state]; rfl
  have N0 := Fr.nil n0
  have pre0 : oL p e below s₁ (mkF m 0 #[oI p1, oI p2, oI p3, oI p4, oI p5, oU, oU, oU, oU, oU, oU, oU, oU, oU, oU, oU, oU, oU] []) s₁ (entryFrame m #[(.int p1), (.int p2), (.int p3), (.int p4), (.int p5)] maxLocals) := fun t k => castTop (by first | (simp [entryFrame, mkF, argsToLocals, Value.category, maxLocals]; done) | rfl) k
  obtain ⟨b11, hj11, pre11⟩ : ∃ b11 : Int32, (b11 = 0 ∨ b11 = 1) ∧ oL p e below s₁ (mkF m 11 #[oI p1, oI p2, oI p3, oI p4, oI p5, oU, oU, oU, oU, oU, oU, oU, oU, oU, oU, oU, oU, oU] [oi b11]) s₁ (entryFrame m #[(.int p1), (.int p2), (.int p3), (.int p4), (.int p5)] maxLocals) := by
    have pre12 : oL p e below s₁ (mkF m 3 #[oI p1, oI p2, oI p3, oI p4, oI p5, oU, oU, oU, oU, oU, oU, oU, oU, oU, oU, oU, oU, oU] [oi (p3 &&& (1 : Int32))]) s₁ (entryFrame m #[(.int p1), (.int p2), (.int p3), (.int p4), (.int p5)] maxLocals) := fun t k => pre0 t (by
      refine XS.iloadN X0.here hx rfl (hb hby at_0) rfl ?_
      refine XS.iconst X0.here hx rfl (hb hby at_1) ?_
      refine XS.iand X0.here hx rfl (hb hby at_2) rfl ?_
      exact k)
    by_cases hc13 : (p3 &&& (1 : Int32)) = (0 : Int32)
    ·
      have pre14 : oL p e below s₁ (mkF m 11 #[oI p1, oI p2, oI p3, oI p4, oI p5, oU, oU, oU, oU, oU, oU, oU, oU, oU, oU, oU, oU, oU] [oi 0]) s₁ (entryFrame m #[(.int p1), (.int p2), (.int p3), (.int p4), (.int p5)] maxLocals) := fun t k => pre12 t (by
        refine XS.ifYes X0.here hx rfl (pc0 := 3) (pc' := 10) rfl (hb hby at_3) rfl ((if0 _ _).trans (teq hc13).1) (by decide) (by decide) ?_
        show oS p e below s₁ (mkF m 10 #[oI p1, oI p2, oI p3, oI p4, oI p5, oU, oU, oU, oU, oU, oU, oU, oU, oU, oU, oU, oU, oU] []) _
        refine XS.iconst X0.here hx rfl (hb hby at_10) ?_
        exact k)
      exact ⟨(0 : Int32), Or.inl rfl, pre14⟩
    ·
      have pre15 : oL p e below s₁ (mkF m 11 #[oI p1, oI p2, oI p3, oI p4, oI p5, oU, oU, oU, oU, oU, oU, oU, oU, oU, oU, oU, oU, oU] [oi 1]) s₁ (entryFrame m #[(.int p1), (.int p2), (.int p3), (.int p4), (.int p5)] maxLocals) := fun t k => pre12 t (by
        refine XS.ifNo X0.here hx rfl (hb hby at_3) rfl ((if0 _ _).trans (feq hc13).1) ?_
        show oS p e below s₁ (mkF m 6 #[oI p1, oI p2, oI p3, oI p4, oI p5, oU, oU, oU, oU, oU, oU, oU, oU, oU, oU, oU, oU, oU] []) _
        refine XS.iconst X0.here hx rfl (hb hby at_6) ?_
        refine XS.goto X0.here hx rfl (pc0 := 7) (pc' := 11) rfl (hb hby at_7) (by decide) (by decide) ?_
        exact k)
      exact ⟨(1 : Int32), Or.inr rfl, pre15⟩
  have hn11 : nar .boolean b11 = b11 := own_nb hj11
  have pre16 : oL p e below s₁ (mkF m 13 #[oI p1, oI p2, oI p3, oI p4, oI p5, oI b11, oU, oU, oU, oU, oU, oU, oU, oU, oU, oU, oU, oU] []) s₁ (entryFrame m #[(.int p1), (.int p2), (.int p3), (.int p4), (.int p5)] maxLocals) := fun t k => pre11 t (by
    refine XS.istore X0.here hx rfl (hb hby at_11) rfl (l' := #[oI p1, oI p2, oI p3, oI p4, oI p5, oI b11, oU, oU, oU, oU, oU, oU, oU, oU, oU, oU, oU, oU]) rfl ?_
    exact k)
  obtain ⟨b17, hj17, pre17⟩ : ∃ b17 : Int32, (b17 = 0 ∨ b17 = 1) ∧ oL p e below s₁ (mkF m 24 #[oI p1, oI p2, oI p3, oI p4, oI p5, oI b11, oU, oU, oU, oU, oU, oU, oU, oU, oU, oU, oU, oU] [oi b17]) s₁ (entryFrame m #[(.int p1), (.int p2), (.int p3), (.int p4), (.int p5)] maxLocals) := by
    have pre18 : oL p e below s₁ (mkF m 16 #[oI p1, oI p2, oI p3, oI p4, oI p5, oI b11, oU, oU, oU, oU, oU, oU, oU, oU, oU, oU, oU, oU] [oi (p3 &&& (2 : Int32))]) s₁ (entryFrame m #[(.int p1), (.int p2), (.int p3), (.int p4), (.int p5)] maxLocals) := fun t k => pre16 t (by
      refine XS.iloadN X0.here hx rfl (hb hby at_13) rfl ?_
      refine XS.iconst X0.here hx rfl (hb hby at_14) ?_
      refine XS.iand X0.here hx rfl (hb hby at_15) rfl ?_
      show oS p e below s₁ (mkF m 16 #[oI p1, oI p2, oI p3, oI p4, oI p5, oI b11, oU, oU, oU, oU, oU, oU, oU, oU, oU, oU, oU, oU] [oi (p3 &&& (2 : Int32))]) _
      exact k)
    by_cases hc19 : (p3 &&& (2 : Int32)) = (0 : Int32)
    ·
      have pre20 : oL p e below s₁ (mkF m 24 #[oI p1, oI p2, oI p3, oI p4, oI p5, oI b11, oU, oU, oU, oU, oU, oU, oU, oU, oU, oU, oU, oU] [oi 0]) s₁ (entryFrame m #[(.int p1), (.int p2), (.int p3), (.int p4), (.int p5)] maxLocals) := fun t k => pre18 t (by
        refine XS.ifYes X0.here hx rfl (pc0 := 16) (pc' := 23) rfl (hb hby at_16) rfl ((if0 _ _).trans (teq hc19).1) (by decide) (by decide) ?_
        refine XS.iconst X0.here hx rfl (hb hby at_23) ?_
        exact k)
      exact ⟨(0 : Int32), Or.inl rfl, pre20⟩
    ·
      have pre21 : oL p e below s₁ (mkF m 24 #[oI p1, oI p2, oI p3, oI p4, oI p5, oI b11, oU, oU, oU, oU, oU, oU, oU, oU, oU, oU, oU, oU] [oi 1]) s₁ (entryFrame m #[(.int p1), (.int p2), (.int p3), (.int p4), (.int p5)] maxLocals) := fun t k => pre18 t (by
        refine XS.ifNo X0.here hx rfl (hb hby at_16) rfl ((if0 _ _).trans (feq hc19).1) ?_
        refine XS.iconst X0.here hx rfl (hb hby at_19) ?_
        refine XS.goto X0.here hx rfl (pc0 := 20) (pc' := 24) rfl (hb hby at_20) (by decide) (by decide) ?_
        exact k)
      exact ⟨(1 : Int32), Or.inr rfl, pre21⟩
  have hn17 : nar .boolean b17 = b17 := own_nb hj17
  have pre22 : oL p e below s₁ (mkF m 26 #[oI p1, oI p2, oI p3, oI p4, oI p5, oI b11, oI b17, oU, oU, oU, oU, oU, oU, oU, oU, oU, oU, oU] []) s₁ (entryFrame m #[(.int p1), (.int p2), (.int p3), (.int p4), (.int p5)] maxLocals) := fun t k => pre17 t (by
    refine XS.istore X0.here hx rfl (hb hby at_24) rfl (l' := #[oI p1, oI p2, oI p3, oI p4, oI p5, oI b11, oI b17, oU, oU, oU, oU, oU, oU, oU, oU, oU, oU, oU]) rfl ?_
    exact k)
  obtain ⟨b23, hj23, pre23⟩ : ∃ b23 : Int32, (b23 = 0 ∨ b23 = 1) ∧ oL p e below s₁ (mkF m 37 #[oI p1, oI p2, oI p3, oI p4, oI p5, oI b11, oI b17, oU, oU, oU, oU, oU, oU, oU, oU, oU, oU, oU] [oi b23]) s₁ (entryFrame m #[(.int p1), (.int p2), (.int p3), (.int p4), (.int p5)] maxLocals) := by
    have pre24 : oL p e below s₁ (mkF m 29 #[oI p1, oI p2, oI p3, oI p4, oI p5, oI b11, oI b17, oU, oU, oU, oU, oU, oU, oU, oU, oU, oU, oU] [oi (p3 &&& (4 : Int32))]) s₁ (entryFrame m #[(.int p1), (.int p2), (.int p3), (.int p4), (.int p5)] maxLocals) := fun t k => pre22 t (by
      refine XS.iloadN X0.here hx rfl (hb hby at_26) rfl ?_
      refine XS.iconst X0.here hx rfl (hb hby at_27) ?_
      show oS p e below s₁ (mkF m 28 #[oI p1, oI p2, oI p3, oI p4, oI p5, oI b11, oI b17, oU, oU, oU, oU, oU, oU, oU, oU, oU, oU, oU] [oi 4, oi p3]) _
      refine XS.iand X0.here hx rfl (hb hby at_28) rfl ?_
      exact k)
    by_cases hc25 : (p3 &&& (4 : Int32)) = (0 : Int32)
    ·
      have pre26 : oL p e below s₁ (mkF m 37 #[oI p1, oI p2, oI p3, oI p4, oI p5, oI b11, oI b17, oU, oU, oU, oU, oU, oU, oU, oU, oU, oU, oU] [oi 0]) s₁ (entryFrame m #[(.int p1), (.int p2), (.int p3), (.int p4), (.int p5)] maxLocals) := fun t k => pre24 t (by
        refine XS.ifYes X0.here hx rfl (pc0 := 29) (pc' := 36) rfl (hb hby at_29) rfl ((if0 _ _).trans (teq hc25).1) (by decide) (by decide) ?_
        refine XS.iconst X0.here hx rfl (hb hby at_36) ?_
        exact k)
      exact ⟨(0 : Int32), Or.inl rfl, pre26⟩
    ·
      have pre27 : oL p e below s₁ (mkF m 37 #[oI p1, oI p2, oI p3, oI p4, oI p5, oI b11, oI b17, oU, oU, oU, oU, oU, oU, oU, oU, oU, oU, oU] [oi 1]) s₁ (entryFrame m #[(.int p1), (.int p2), (.int p3), (.int p4), (.int p5)] maxLocals) := fun t k => pre24 t (by
        refine XS.ifNo X0.here hx rfl (hb hby at_29) rfl ((if0 _ _).trans (feq hc25).1) ?_
        refine XS.iconst X0.here hx rfl (hb hby at_32) ?_
        refine XS.goto X0.here hx rfl (pc0 := 33) (pc' := 37) rfl (hb hby at_33) (by decide) (by decide) ?_
        show oS p e below s₁ (mkF m 37 #[oI p1, oI p2, oI p3, oI p4, oI p5, oI b11, oI b17, oU, oU, oU, oU, oU, oU, oU, oU, oU, oU, oU] [oi 1]) _
        exact k)
      exact ⟨(1 : Int32), Or.inr rfl, pre27⟩
  have hn23 : nar .boolean b23 = b23 := own_nb hj23
  have pre28 : oL p e below s₁ (mkF m 39 #[oI p1, oI p2, oI p3, oI p4, oI p5, oI b11, oI b17, oI b23, oU, oU, oU, oU, oU, oU, oU, oU, oU, oU] []) s₁ (entryFrame m #[(.int p1), (.int p2), (.int p3), (.int p4), (.int p5)] maxLocals) := fun t k => pre23 t (by
    refine XS.istore X0.here hx rfl (hb hby at_37) rfl (l' := #[oI p1, oI p2, oI p3, oI p4, oI p5, oI b11, oI b17, oI b23, oU, oU, oU, oU, oU, oU, oU, oU, oU, oU]) rfl ?_
    exact k)
  obtain ⟨b29, hj29, pre29⟩ : ∃ b29 : Int32, (b29 = 0 ∨ b29 = 1) ∧ oL p e below s₁ (mkF m 51 #[oI p1, oI p2, oI p3, oI p4, oI p5, oI b11, oI b17, oI b23, oU, oU, oU, oU, oU, oU, oU, oU, oU, oU] [oi b29]) s₁ (entryFrame m #[(.int p1), (.int p2), (.int p3), (.int p4), (.int p5)] maxLocals) := by
    have pre30 : oL p e below s₁ (mkF m 43 #[oI p1, oI p2, oI p3, oI p4, oI p5, oI b11, oI b17, oI b23, oU, oU, oU, oU, oU, oU, oU, oU, oU, oU] [oi (p3 &&& (8 : Int32))]) s₁ (entryFrame m #[(.int p1), (.int p2), (.int p3), (.int p4), (.int p5)] maxLocals) := fun t k => pre28 t (by
      refine XS.iloadN X0.here hx rfl (hb hby at_39) rfl ?_
      show oS p e below s₁ (mkF m 40 #[oI p1, oI p2, oI p3, oI p4, oI p5, oI b11, oI b17, oI b23, oU, oU, oU, oU, oU, oU, oU, oU, oU, oU] [oi p3]) _
      refine XS.bipush X0.here hx rfl (hb hby at_40) ?_
      refine XS.iand X0.here hx rfl (hb hby at_42) rfl ?_
      exact k)
    by_cases hc31 : (p3 &&& (8 : Int32)) = (0 : Int32)
    ·
      have pre32 : oL p e below s₁ (mkF m 51 #[oI p1, oI p2, oI p3, oI p4, oI p5, oI b11, oI b17, oI b23, oU, oU, oU, oU, oU, oU, oU, oU, oU, oU] [oi 0]) s₁ (entryFrame m #[(.int p1), (.int p2), (.int p3), (.int p4), (.int p5)] maxLocals) := fun t k => pre30 t (by
        refine XS.ifYes X0.here hx rfl (pc0 := 43) (pc' := 50) rfl (hb hby at_43) rfl ((if0 _ _).trans (teq hc31).1) (by decide) (by decide) ?_
        refine XS.iconst X0.here hx rfl (hb hby at_50) ?_
        show oS p e below s₁ (mkF m 51 #[oI p1, oI p2, oI p3, oI p4, oI p5, oI b11, oI b17, oI b23, oU, oU, oU, oU, oU, oU, oU, oU, oU, oU] [oi 0]) _
        exact k)
      exact ⟨(0 : Int32), Or.inl rfl, pre32⟩
    ·
      have pre33 : oL p e below s₁ (mkF m 51 #[oI p1, oI p2, oI p3, oI p4, oI p5, oI b11, oI b17, oI b23, oU, oU, oU, oU, oU, oU, oU, oU, oU, oU] [oi 1]) s₁ (entryFrame m #[(.int p1), (.int p2), (.int p3), (.int p4), (.int p5)] maxLocals) := fun t k => pre30 t (by
        refine XS.ifNo X0.here hx rfl (hb hby at_43) rfl ((if0 _ _).trans (feq hc31).1) ?_
        refine XS.iconst X0.here hx rfl (hb hby at_46) ?_
        show oS p e below s₁ (mkF m 47 #[oI p1, oI p2, oI p3, oI p4, oI p5, oI b11, oI b17, oI b23, oU, oU, oU, oU, oU, oU, oU, oU, oU, oU] [oi 1]) _
        refine XS.goto X0.here hx rfl (pc0 := 47) (pc' := 51) rfl (hb hby at_47) (by decide) (by decide) ?_
        exact k)
      exact ⟨(1 : Int32), Or.inr rfl, pre33⟩
  have hn29 : nar .boolean b29 = b29 := own_nb hj29
  have pre34 : oL p e below s₁ (mkF m 58 #[oI p1, oI p2, oI p3, oI p4, oI p5, oI b11, oI b17, oI b23, oI b29, oI (p1.toUInt32.toUInt16.toUInt32.toInt32), oU, oU, oU, oU, oU, oU, oU, oU] [oi 2]) s₁ (entryFrame m #[(.int p1), (.int p2), (.int p3), (.int p4), (.int p5)] maxLocals) := fun t k => pre29 t (by
    refine XS.istore X0.here hx rfl (hb hby at_51) rfl (l' := #[oI p1, oI p2, oI p3, oI p4, oI p5, oI b11, oI b17, oI b23, oI b29, oU, oU, oU, oU, oU, oU, oU, oU, oU]) rfl ?_
    show oS p e below s₁ (mkF m 53 #[oI p1, oI p2, oI p3, oI p4, oI p5, oI b11, oI b17, oI b23, oI b29, oU, oU, oU, oU, oU, oU, oU, oU, oU] []) _
    refine XS.iloadN X0.here hx rfl (hb hby at_53) rfl ?_
    refine XS.i2c X0.here hx rfl (hb hby at_54) rfl ?_
    refine XS.istore X0.here hx rfl (hb hby at_55) rfl (l' := #[oI p1, oI p2, oI p3, oI p4, oI p5, oI b11, oI b17, oI b23, oI b29, oI (p1.toUInt32.toUInt16.toUInt32.toInt32), oU, oU, oU, oU, oU, oU, oU, oU]) rfl ?_
    refine XS.iconst X0.here hx rfl (hb hby at_57) ?_
    show oS p e below s₁ (mkF m 58 #[oI p1, oI p2, oI p3, oI p4, oI p5, oI b11, oI b17, oI b23, oI b29, oI (p1.toUInt32.toUInt16.toUInt32.toInt32), oU, oU, oU, oU, oU, oU, oU, oU] [oi 2]) _
    exact k)
  obtain ⟨T35, h35, k35, X35, e35, E35, A35, st35⟩ := newP X0 hx hZ (oW hw 0 rfl) e0 (g := (mkF m 58 #[oI p1, oI p2, oI p3, oI p4, oI p5, oI b11, oI b17, oI b23, oI b29, oI (p1.toUInt32.toUInt16.toUInt32.toInt32), oU, oU, oU, oU, oU, oU, oU, oU] [oi 2])) rfl (hb hby at_58) rfl (by decide) (cap := 2) (by decide) (by decide) (by decide) (by decide)
  obtain ⟨b35, g35⟩ : ∃ z, z = h0.size := ⟨_, rfl⟩
  rw [← g35] at A35 st35
  have ge_b35 : n0 ≤ b35 := Nat.le_trans (OL.1 ▸ OL.2.1) (Nat.le_of_eq g35.symm)
  have sz_b35 : h0.size ≤ b35 := Nat.le_trans (Keep.refl h0 []).1 (Nat.le_of_eq g35.symm)
  have OL36 := OL.ext E35
  have K37 : Keep h0 h35 [] := (Keep.refl h0 []).ext E35
  have V35 : Arv Z h35 b35 k35 .char (2 : Int32) [(.int (0 : Int32)), (.int (0 : Int32))] (.int (0 : Int32)) := (Arv.new A35 (by decide)).pad (pad_rep [] (.int (0 : Int32)) 2)
  have pre38 : oL p e below T35 (mkF m 71 #[oI p1, oI p2, oI p3, oI p4, oI p5, oI b11, oI b17, oI b23, oI b29, oI (p1.toUInt32.toUInt16.toUInt32.toInt32), oR b35, oU, oU, oU, oU, oU, oU, oU] [oi ((p2 &&& (255 : Int32)).toUInt32.toUInt16.toUInt32.toInt32), oi 0, ow b35]) s₁ (entryFrame m #[(.int p1), (.int p2), (.int p3), (.int p4), (.int p5)] maxLocals) := fun t k => pre34 t (by
    refine st35 _ ?_
    refine XS.astore X35.here hx rfl (hb hby at_60) rfl rfl (l' := #[oI p1, oI p2, oI p3, oI p4, oI p5, oI b11, oI b17, oI b23, oI b29, oI (p1.toUInt32.toUInt16.toUInt32.toInt32), oR b35, oU, oU, oU, oU, oU, oU, oU]) rfl ?_
    refine XS.aload X35.here hx rfl (hb hby at_62) rfl rfl ?_
    refine XS.iconst X35.here hx rfl (hb hby at_64) ?_
    show oS p e below T35 (mkF m 65 #[oI p1, oI p2, oI p3, oI p4, oI p5, oI b11, oI b17, oI b23, oI b29, oI (p1.toUInt32.toUInt16.toUInt32.toInt32), oR b35, oU, oU, oU, oU, oU, oU, oU] [oi 0, ow b35]) _
    refine XS.iloadN X35.here hx rfl (hb hby at_65) rfl ?_
    refine XS.sipush X35.here hx rfl (hb hby at_66) ?_
    refine XS.iand X35.here hx rfl (hb hby at_69) rfl ?_
    refine XS.i2c X35.here hx rfl (hb hby at_70) rfl ?_
    show oS p e below T35 (mkF m 71 #[oI p1, oI p2, oI p3, oI p4, oI p5, oI b11, oI b17, oI b23, oI b29, oI (p1.toUInt32.toUInt16.toUInt32.toInt32), oR b35, oU, oU, oU, oU, oU, oU, oU] [oi ((p2 &&& (255 : Int32)).toUInt32.toUInt16.toUInt32.toInt32), oi 0, ow b35]) _
    exact k)
  obtain ⟨cl39, Ar39, qc39, Sz39, Nn39, Hs39, Gs39⟩ := id V35
  obtain ⟨T39, h39, X39, e39, W39, st39⟩ := stC X35 hx hZ e35 Ar39 (j := (0 : Int32)) (inb_of Sz39 ⟨by decide, by decide⟩) (g := (mkF m 71 #[oI p1, oI p2, oI p3, oI p4, oI p5, oI b11, oI b17, oI b23, oI b29, oI (p1.toUInt32.toUInt16.toUInt32.toInt32), oR b35, oU, oU, oU, oU, oU, oU, oU] [oi ((p2 &&& (255 : Int32)).toUInt32.toUInt16.toUInt32.toInt32), oi 0, ow b35])) rfl rfl (hb hby at_71)
  have V39 : Arv Z h39 b35 k35 .char (2 : Int32) [(.int (nar .char ((p2 &&& (255 : Int32)).toUInt32.toUInt16.toUInt32.toInt32))), (.int (0 : Int32))] (.int (0 : Int32)) := Arv.set Ar39 qc39 Sz39 Nn39 Hs39 Gs39 (fits_nar_char _) W39 0 rfl (Nat.le_of_ble_eq_true rfl)
  have N39 := Fr.snoc X39 N0 ge_b35
  have OL40 := OL36.wr W39 ge_b35
  have K41 : Keep h0 h39 [] := K37.wr W39 (Or.inr sz_b35)
  have pre42 : oL p e below T39 (mkF m 84 #[oI p1, oI p2, oI p3, oI p4, oI p5, oI b11, oI b17, oI b23, oI b29, oI (p1.toUInt32.toUInt16.toUInt32.toInt32), oR b35, oU, oU, oU, oU, oU, oU, oU] [oi ((((p2.toUInt32 >>> ((8 : Int32) &&& 31).toUInt32).toInt32) &&& (255 : Int32)).toUInt32.toUInt16.toUInt32.toInt32), oi 1, ow b35]) s₁ (entryFrame m #[(.int p1), (.int p2), (.int p3), (.int p4), (.int p5)] maxLocals) := fun t k => pre38 t (by
    refine st39 _ ?_
    refine XS.aload X39.here hx rfl (hb hby at_72) rfl rfl ?_
    refine XS.iconst X39.here hx rfl (hb hby at_74) ?_
    refine XS.iloadN X39.here hx rfl (hb hby at_75) rfl ?_
    show oS p e below T39 (mkF m 76 #[oI p1, oI p2, oI p3, oI p4, oI p5, oI b11, oI b17, oI b23, oI b29, oI (p1.toUInt32.toUInt16.toUInt32.toInt32), oR b35, oU, oU, oU, oU, oU, oU, oU] [oi p2, oi 1, ow b35]) _
    refine XS.bipush X39.here hx rfl (hb hby at_76) ?_
    refine XS.iushr X39.here hx rfl (hb hby at_78) rfl ?_
    refine XS.sipush X39.here hx rfl (hb hby at_79) ?_
    refine XS.iand X39.here hx rfl (hb hby at_82) rfl ?_
    show oS p e below T39 (mkF m 83 #[oI p1, oI p2, oI p3, oI p4, oI p5, oI b11, oI b17, oI b23, oI b29, oI (p1.toUInt32.toUInt16.toUInt32.toInt32), oR b35, oU, oU, oU, oU, oU, oU, oU] [oi (((p2.toUInt32 >>> ((8 : Int32) &&& 31).toUInt32).toInt32) &&& (255 : Int32)), oi 1, ow b35]) _
    refine XS.i2c X39.here hx rfl (hb hby at_83) rfl ?_
    exact k)
  obtain ⟨cl43, Ar43, qc43, Sz43, Nn43, Hs43, Gs43⟩ := id V39
  obtain ⟨T43, h43, X43, e43, W43, st43⟩ := stC X39 hx hZ e39 Ar43 (j := (1 : Int32)) (inb_of Sz43 ⟨by decide, by decide⟩) (g := (mkF m 84 #[oI p1, oI p2, oI p3, oI p4, oI p5, oI b11, oI b17, oI b23, oI b29, oI (p1.toUInt32.toUInt16.toUInt32.toInt32), oR b35, oU, oU, oU, oU, oU, oU, oU] [oi ((((p2.toUInt32 >>> ((8 : Int32) &&& 31).toUInt32).toInt32) &&& (255 : Int32)).toUInt32.toUInt16.toUInt32.toInt32), oi 1, ow b35])) rfl rfl (hb hby at_84)
  have V43 : Arv Z h43 b35 k35 .char (2 : Int32) [(.int (nar .char ((p2 &&& (255 : Int32)).toUInt32.toUInt16.toUInt32.toInt32))), (.int (nar .char ((((p2.toUInt32 >>> ((8 : Int32) &&& 31).toUInt32).toInt32) &&& (255 : Int32)).toUInt32.toUInt16.toUInt32.toInt32)))] (.int (0 : Int32)) := Arv.set Ar43 qc43 Sz43 Nn43 Hs43 Gs43 (fits_nar_char _) W43 1 rfl (Nat.le_of_ble_eq_true rfl)
  have N43 := Fr.snoc X43 N39 ge_b35
  have OL44 := OL40.wr W43 ge_b35
  have K45 : Keep h0 h43 [] := K41.wr W43 (Or.inr sz_b35)
  have pre46 : oL p e below T43 (mkF m 85 #[oI p1, oI p2, oI p3, oI p4, oI p5, oI b11, oI b17, oI b23, oI b29, oI (p1.toUInt32.toUInt16.toUInt32.toInt32), oR b35, oU, oU, oU, oU, oU, oU, oU] []) s₁ (entryFrame m #[(.int p1), (.int p2), (.int p3), (.int p4), (.int p5)] maxLocals) := fun t k => pre42 t (by
    refine st43 _ ?_
    exact k)
  obtain ⟨T47, h47, X47, e47, E47, A47, D47, -, st47⟩ := newO X43 hx hZ hown (oW hw 1 rfl) (oW hw 2 rfl) (oW hw 3 rfl) e43 (g := (mkF m 85 #[oI p1, oI p2, oI p3, oI p4, oI p5, oI b11, oI b17, oI b23, oI b29, oI (p1.toUInt32.toUInt16.toUInt32.toInt32), oR b35, oU, oU, oU, oU, oU, oU, oU] [])) rfl (hb hby at_85) (by decide) (by decide)
  obtain ⟨b47, g47⟩ : ∃ z, z = h43.size := ⟨_, rfl⟩
  rw [← g47] at A47 D47 st47
  have ne48 : b35 ≠ b47 := Nat.ne_of_lt (Nat.lt_of_lt_of_le V43.lt (Nat.le_of_eq g47.symm))
  have ge_b47 : n0 ≤ b47 := Nat.le_trans (OL44.1 ▸ OL44.2.1) (Nat.le_of_eq g47.symm)
  have sz_b47 : h0.size ≤ b47 := Nat.le_trans K45.1 (Nat.le_of_eq g47.symm)
  have f49 := V43.ext E47
  have OL50 := OL44.ext E47
  have K51 : Keep h0 h47 [] := K45.ext E47
  have f52 : Fld Z h47 b47 "java/lang/String" "coder" "B" (.int (0 : Int32)) := D47 (Or.inr (oW hw 27 rfl)) (ty := .byte) (by decide)
  have f53 : Fld Z h47 b47 "java/lang/String" "value" "[B" .null := D47 (Or.inr (oW hw 29 rfl)) (ty := (.array .byte)) (by decide)
  have hp54 : ∀ c ∈ ([(nar .char ((p2 &&& (255 : Int32)).toUInt32.toUInt16.toUInt32.toInt32)), (nar .char ((((p2.toUInt32 >>> ((8 : Int32) &&& 31).toUInt32).toInt32) &&& (255 : Int32)).toUInt32.toUInt16.toUInt32.toInt32))] : List Int32), ¬ c < 0 ∧ ¬ (255 : Int32) < c := by
    intro c hc
    simp only [List.mem_cons, List.not_mem_nil, or_false] at hc
    rcases hc with rfl | rfl
    · exact own_c255 _
    · exact own_c255 _
  have pre55 : oL p e below T47 (mkF m 91 #[oI p1, oI p2, oI p3, oI p4, oI p5, oI b11, oI b17, oI b23, oI b29, oI (p1.toUInt32.toUInt16.toUInt32.toInt32), oR b35, oU, oU, oU, oU, oU, oU, oU] [ow b35, ow b47, ow b47]) s₁ (entryFrame m #[(.int p1), (.int p2), (.int p3), (.int p4), (.int p5)] maxLocals) := fun t k => pre46 t (by
    refine st47 _ ?_
    refine XS.dup X47.here hx rfl (hb hby at_88) rfl rfl ?_
    show oS p e below T47 (mkF m 89 #[oI p1, oI p2, oI p3, oI p4, oI p5, oI b11, oI b17, oI b23, oI b29, oI (p1.toUInt32.toUInt16.toUInt32.toInt32), oR b35, oU, oU, oU, oU, oU, oU, oU] [ow b47, ow b47]) _
    refine XS.aload X47.here hx rfl (hb hby at_89) rfl rfl ?_
    exact k)
  obtain ⟨_, _, ⟨T56, L56, k56, n56⟩, -, X56, ⟨Lc56, hQ56, l56, y56, z56⟩, st56⟩ := X47.specialBack hx (y := (⟨"java/lang/String", "<init>", "([C)V"⟩ : MethodName)) rfl hown (mvT hZ (oW hw 4 rfl)) (mvT hZ (oW hw 5 rfl)) (mvT hZ (oW hw 6 rfl)) (by decide) (StrChars.Road.backV (W := 1) hZ (fun d hd => hw d (own_hws d hd)) (kI := 4) (oW hw 2 rfl) (cs := ([(nar .char ((p2 &&& (255 : Int32)).toUInt32.toUInt16.toUInt32.toInt32)), (nar .char ((((p2.toUInt32 >>> ((8 : Int32) &&& 31).toUInt32).toInt32) &&& (255 : Int32)).toUInt32.toUInt16.toUInt32.toInt32))] : List Int32)) (bs := (([(nar .char ((p2 &&& (255 : Int32)).toUInt32.toUInt16.toUInt32.toInt32)), (nar .char ((((p2.toUInt32 >>> ((8 : Int32) &&& 31).toUInt32).toInt32) &&& (255 : Int32)).toUInt32.toUInt16.toUInt32.toInt32))] : List Int32)).map (fun c => c.toInt8.toInt32)) (n := 2) ge_b47 (OL50.1 ▸ OL50.2.1) A47 f53 f52 f49 (O2.ext OL50.2) P5 rfl rfl (by decide) (by decide) hp54 rfl (by decide) (by decide)) (g := (mkF m 91 #[oI p1, oI p2, oI p3, oI p4, oI p5, oI b11, oI b17, oI b23, oI b29, oI (p1.toUInt32.toUInt16.toUInt32.toInt32), oR b35, oU, oU, oU, oU, oU, oU, oU] [ow b35, ow b47, ow b47])) rfl (by rw [hml]; rfl) (Steps.refl _) (a := b47) (argsL := [(.ref b35)]) (rest := [(.ref b47)]) (lenOf pd___C_V rfl) rfl (by show 2 * 0 + _ ≤ _; exact Nat.le_of_eq rfl) (hb hby at_91) (fun _ _ => ⟨rfl, e47, (by decide : 2 + 1 ≤ _), (by decide : 6 + 2 ≤ _)⟩)
  dsimp only [Pt.U, Pt.locs, Pt.cells, Pt.slots] at X56 l56 y56 z56 st56 hQ56
  subst l56 y56 z56
  obtain ⟨rfl, N56q, Kq56, Eq56, Fc56, tt56, kb56, gt56, sq56, nx56, Fv56, Va56⟩ := hQ56
  have N56 := Fr.app N43 N56q
  have ne57 : b35 ≠ tt56 := Nat.ne_of_lt (Nat.lt_of_lt_of_le f49.lt sq56)
  have ne58 : b47 ≠ tt56 := Nat.ne_of_lt (Nat.lt_of_lt_of_le A47.lt sq56)
  have ge_tt56 : n0 ≤ tt56 := Nat.le_trans (OL50.1 ▸ OL50.2.1) sq56
  have sz_tt56 : h0.size ≤ tt56 := Nat.le_trans K51.1 sq56
  have f59 := f49.keep Kq56 (ninS ne48 nin0)
  have f60 := A47.keep Kq56
  have OL61 := OL50.keep Kq56 (allS ge_b47 all0)
  have K62 : Keep h0 T56.heap [] := K51.trans Kq56 (allS (Or.inr sz_b47) all0)
  have Vb56 : Arv Z T56.heap tt56 kb56 .byte (2 : Int32) [(.int ((nar .char ((p2 &&& (255 : Int32)).toUInt32.toUInt16.toUInt32.toInt32)).toInt8.toInt32)), (.int ((nar .char ((((p2.toUInt32 >>> ((8 : Int32) &&& 31).toUInt32).toInt32) &&& (255 : Int32)).toUInt32.toUInt16.toUInt32.toInt32)).toInt8.toInt32))] (.int (0 : Int32)) := Va56
  have pre63 : oL p e below T56 (mkF m 96 #[oI p1, oI p2, oI p3, oI p4, oI p5, oI b11, oI b17, oI b23, oI b29, oI (p1.toUInt32.toUInt16.toUInt32.toInt32), oR b35, oR b47, oU, oU, oU, oU, oU, oU] []) s₁ (entryFrame m #[(.int p1), (.int p2), (.int p3), (.int p4), (.int p5)] maxLocals) := fun t k => pre55 t (by
    refine st56.trans ?_
    refine XS.astore X56.here hx rfl (hb hby at_94) rfl rfl (l' := #[oI p1, oI p2, oI p3, oI p4, oI p5, oI b11, oI b17, oI b23, oI b29, oI (p1.toUInt32.toUInt16.toUInt32.toInt32), oR b35, oR b47, oU, oU, oU, oU, oU, oU]) rfl ?_
    exact k)
  obtain ⟨T64, h64, X64, e64, E64, A64, D64, -, st64⟩ := newO X56 hx hZ hown (oW hw 30 rfl) (oW hw 31 rfl) (oW hw 32 rfl) rfl (g := (mkF m 96 #[oI p1, oI p2, oI p3, oI p4, oI p5, oI b11, oI b17, oI b23, oI b29, oI (p1.toUInt32.toUInt16.toUInt32.toInt32), oR b35, oR b47, oU, oU, oU, oU, oU, oU] [])) rfl (hb hby at_96) (by decide) (by decide)
  obtain ⟨b64, g64⟩ : ∃ z, z = T56.heap.size := ⟨_, rfl⟩
  rw [← g64] at A64 D64 st64
  have ne65 : b35 ≠ b64 := Nat.ne_of_lt (Nat.lt_of_lt_of_le f59.lt (Nat.le_of_eq g64.symm))
  have ne66 : b47 ≠ b64 := Nat.ne_of_lt (Nat.lt_of_lt_of_le f60.lt (Nat.le_of_eq g64.symm))
  have ne67 : tt56 ≠ b64 := Nat.ne_of_lt (Nat.lt_of_lt_of_le Vb56.lt (Nat.le_of_eq g64.symm))
  have ge_b64 : n0 ≤ b64 := Nat.le_trans (OL61.1 ▸ OL61.2.1) (Nat.le_of_eq g64.symm)
  have sz_b64 : h0.size ≤ b64 := Nat.le_trans K62.1 (Nat.le_of_eq g64.symm)
  have f68 := f59.ext E64
  have f69 := f60.ext E64
  have f70 := Fc56.ext E64
  have f71 := Fv56.ext E64
  have f72 := Vb56.ext E64
  have OL73 := OL61.ext E64
  have K74 : Keep h0 h64 [] := K62.ext E64
  have f75 : Fld Z h64 b64 "com/example/vedette/vedette/definition/PositionDefinition" "name" "Ljava/lang/String;" .null := D64 (Or.inr (oW hw 57 rfl)) (ty := (.object "java/lang/String")) (by decide)
  have f76 : Fld Z h64 b64 "com/example/vedette/vedette/definition/PositionDefinition" "values" "Ljava/lang/String;" .null := D64 (Or.inr (oW hw 59 rfl)) (ty := (.object "java/lang/String")) (by decide)
  have f77 : Fld Z h64 b64 "com/example/vedette/vedette/definition/PositionDefinition" "labels" "Ljava/util/Map;" .null := D64 (Or.inr (oW hw 61 rfl)) (ty := (.object "java/util/Map")) (by decide)
  have pre78 : oL p e below T64 (mkF m 103 #[oI p1, oI p2, oI p3, oI p4, oI p5, oI b11, oI b17, oI b23, oI b29, oI (p1.toUInt32.toUInt16.toUInt32.toInt32), oR b35, oR b47, oU, oU, oU, oU, oU, oU] [.null, ow b47, ow b64, ow b64]) s₁ (entryFrame m #[(.int p1), (.int p2), (.int p3), (.int p4), (.int p5)] maxLocals) := fun t k => pre63 t (by
    refine st64 _ ?_
    show oS p e below T64 (mkF m 99 #[oI p1, oI p2, oI p3, oI p4, oI p5, oI b11, oI b17, oI b23, oI b29, oI (p1.toUInt32.toUInt16.toUInt32.toInt32), oR b35, oR b47, oU, oU, oU, oU, oU, oU] [ow b64]) _
    refine XS.dup X64.here hx rfl (hb hby at_99) rfl rfl ?_
    refine XS.aload X64.here hx rfl (hb hby at_100) rfl rfl ?_
    refine XS.aconstNull X64.here hx rfl (hb hby at_102) ?_
    exact k)
  obtain ⟨_, _, ⟨T79, L79, k79, n79⟩, -, X79, ⟨Lc79, hQ79, l79, y79, z79⟩, st79⟩ := X64.specialBack hx (y := (⟨"com/example/vedette/vedette/definition/PositionDefinition", "<init>", "(Ljava/lang/String;Ljava/lang/String;)V"⟩ : MethodName)) rfl hown (mvT hZ (oW hw 33 rfl)) (mvT hZ (oW hw 34 rfl)) (mvT hZ (oW hw 35 rfl)) (by decide) (backOf (W := 1) (rm_pd2 l Z a0 hw [] b64 b47 .null wM h64 n0 OL73 ge_b64 A64 f75 f76 f77 rfl sM eM) hZ (oW hw 35 rfl) (oW hw 32 rfl) (by decide) (by decide)) (g := (mkF m 103 #[oI p1, oI p2, oI p3, oI p4, oI p5, oI b11, oI b17, oI b23, oI b29, oI (p1.toUInt32.toUInt16.toUInt32.toInt32), oR b35, oR b47, oU, oU, oU, oU, oU, oU] [.null, ow b47, ow b64, ow b64])) rfl (by rw [hml]; rfl) (Steps.refl _) (a := b64) (argsL := [(.ref b47), .null]) (rest := [(.ref b64)]) (lenOf pd__Ljava_lang_String_Ljava_lang_String__V rfl) rfl (by show 2 * 0 + _ ≤ _; exact Nat.le_of_eq rfl) (hb hby at_103) (fun _ _ => ⟨rfl, e64, (by decide : 4 + 0 ≤ _), (by decide : 11 + 0 ≤ _)⟩)
  dsimp only [Pt.U, Pt.locs, Pt.cells, Pt.slots] at X79 l79 y79 z79 st79 hQ79
  subst l79 y79 z79
  obtain ⟨rfl, N79q, Kq79, Eq79, F0_79, F1_79, F2_79⟩ := hQ79
  have N79 := Fr.app N56 N79q
  have f80 := f68.keep Kq79 (ninS ne65 nin0)
  have f81 := f69.keep Kq79
  have f82 := f70.keep Kq79 (ninS ne66 nin0)
  have f83 := f71.keep Kq79 (ninS ne66 nin0)
  have f84 := f72.keep Kq79 (ninS ne67 nin0)
  have f85 := A64.keep Kq79
  have OL86 := OL73.keep Kq79 (allS ge_b64 all0)
  have K87 : Keep h0 T79.heap [] := K74.trans Kq79 (allS (Or.inr sz_b64) all0)
  have pre88 : oL p e below T79 (mkF m 108 #[oI p1, oI p2, oI p3, oI p4, oI p5, oI b11, oI b17, oI b23, oI b29, oI (p1.toUInt32.toUInt16.toUInt32.toInt32), oR b35, oR b47, oR b64, oU, oU, oU, oU, oU] []) s₁ (entryFrame m #[(.int p1), (.int p2), (.int p3), (.int p4), (.int p5)] maxLocals) := fun t k => pre78 t (by
    refine st79.trans ?_
    show oS p e below T79 (mkF m 106 #[oI p1, oI p2, oI p3, oI p4, oI p5, oI b11, oI b17, oI b23, oI b29, oI (p1.toUInt32.toUInt16.toUInt32.toInt32), oR b35, oR b47, oU, oU, oU, oU, oU, oU] [ow b64]) _
    refine XS.astore X79.here hx rfl (hb hby at_106) rfl rfl (l' := #[oI p1, oI p2, oI p3, oI p4, oI p5, oI b11, oI b17, oI b23, oI b29, oI (p1.toUInt32.toUInt16.toUInt32.toInt32), oR b35, oR b47, oR b64, oU, oU, oU, oU, oU]) rfl ?_
    exact k)
  obtain ⟨T89, h89, X89, e89, E89, A89, D89, -, st89⟩ := newO X79 hx hZ hown (oW hw 62 rfl) (oW hw 63 rfl) (oW hw 64 rfl) rfl (g := (mkF m 108 #[oI p1, oI p2, oI p3, oI p4, oI p5, oI b11, oI b17, oI b23, oI b29, oI (p1.toUInt32.toUInt16.toUInt32.toInt32), oR b35, oR b47, oR b64, oU, oU, oU, oU, oU] [])) rfl (hb hby at_108) (by decide) (by decide)
  obtain ⟨b89, g89⟩ : ∃ z, z = T79.heap.size := ⟨_, rfl⟩
  rw [← g89] at A89 D89 st89
  have ne90 : b35 ≠ b89 := Nat.ne_of_lt (Nat.lt_of_lt_of_le f80.lt (Nat.le_of_eq g89.symm))
  have ne91 : b47 ≠ b89 := Nat.ne_of_lt (Nat.lt_of_lt_of_le f81.lt (Nat.le_of_eq g89.symm))
  have ne92 : b64 ≠ b89 := Nat.ne_of_lt (Nat.lt_of_lt_of_le Eq79.lt (Nat.le_of_eq g89.symm))
  have ne93 : tt56 ≠ b89 := Nat.ne_of_lt (Nat.lt_of_lt_of_le f84.lt (Nat.le_of_eq g89.symm))
  have ge_b89 : n0 ≤ b89 := Nat.le_trans (OL86.1 ▸ OL86.2.1) (Nat.le_of_eq g89.symm)
  have sz_b89 : h0.size ≤ b89 := Nat.le_trans K87.1 (Nat.le_of_eq g89.symm)
  have f94 := f80.ext E89
  have f95 := f81.ext E89
  have f96 := f82.ext E89
  have f97 := f83.ext E89
  have f98 := f84.ext E89
  have f99 := Eq79.ext E89
  have f100 := F0_79.ext E89
  have f101 := F1_79.ext E89
  have f102 := F2_79.ext E89
  have OL103 := OL86.ext E89
  have K104 : Keep h0 h89 [] := K87.ext E89
  have f105 : Fld Z h89 b89 "com/example/vedette/vedette/definition/ControlValueDefinition" "minLength" "I" (.int (0 : Int32)) := D89 (Or.inr (oW hw 82 rfl)) (ty := .int) (by decide)
  have f106 : Fld Z h89 b89 "com/example/vedette/vedette/definition/ControlValueDefinition" "maxLength" "I" (.int (0 : Int32)) := D89 (Or.inr (oW hw 84 rfl)) (ty := .int) (by decide)
  have f107 : Fld Z h89 b89 "com/example/vedette/vedette/definition/ControlValueDefinition" "positions" "Ljava/util/Map;" .null := D89 (Or.inr (oW hw 86 rfl)) (ty := (.object "java/util/Map")) (by decide)
  have pre108 : oL p e below T89 (mkF m 117 #[oI p1, oI p2, oI p3, oI p4, oI p5, oI b11, oI b17, oI b23, oI b29, oI (p1.toUInt32.toUInt16.toUInt32.toInt32), oR b35, oR b47, oR b64, oU, oU, oU, oU, oU] [ow b64, oi p5, oi p4, ow b89, ow b89]) s₁ (entryFrame m #[(.int p1), (.int p2), (.int p3), (.int p4), (.int p5)] maxLocals) := fun t k => pre88 t (by
    refine st89 _ ?_
    refine XS.dup X89.here hx rfl (hb hby at_111) rfl rfl ?_
    refine XS.iloadN X89.here hx rfl (hb hby at_112) rfl ?_
    show oS p e below T89 (mkF m 113 #[oI p1, oI p2, oI p3, oI p4, oI p5, oI b11, oI b17, oI b23, oI b29, oI (p1.toUInt32.toUInt16.toUInt32.toInt32), oR b35, oR b47, oR b64, oU, oU, oU, oU, oU] [oi p4, ow b89, ow b89]) _
    refine XS.iload X89.here hx rfl (hb hby at_113) rfl ?_
    refine XS.aload X89.here hx rfl (hb hby at_115) rfl rfl ?_
    exact k)
  obtain ⟨cq109, kq109, q109a, q109b, q109c⟩ := isOf hZ e89 f99
  obtain ⟨_, _, ⟨T109, L109, k109, n109⟩, -, X109, ⟨Lc109, hQ109, l109, y109, z109⟩, st109⟩ := X89.virtualBack hx (y := (⟨"com/example/vedette/vedette/definition/PositionDefinition", "labels", "()Ljava/util/Map;"⟩ : MethodName)) (z := (⟨"com/example/vedette/vedette/definition/PositionDefinition", "labels", "()Ljava/util/Map;"⟩ : MethodName)) hown (mvT hZ (oW hw 65 rfl)) (mvT hZ (oW hw 66 rfl)) (notFace_of_selects (args := #[]) (mvT hZ (oW hw 68 rfl))) (mvT hZ (oW hw 68 rfl)) (mvT hZ (oW hw 67 rfl)) (by decide) (backOf (W := 4) (rm_g_labels l Z a0 hw [] b64 (.ref wM) h89 n0 OL103 f102 rfl) hZ (oW hw 69 rfl) (oW hw 32 rfl) (by decide) (by decide)) q109a q109c (g := (mkF m 117 #[oI p1, oI p2, oI p3, oI p4, oI p5, oI b11, oI b17, oI b23, oI b29, oI (p1.toUInt32.toUInt16.toUInt32.toInt32), oR b35, oR b47, oR b64, oU, oU, oU, oU, oU] [ow b64, oi p5, oi p4, ow b89, ow b89])) rfl (by rw [hml]; rfl) (Steps.refl _) (argsL := []) (rest := [(.int p5), (.int p4), (.ref b89), (.ref b89)]) (lenOf pd___Ljava_util_Map_ rfl) rfl (by show 2 * 0 + _ ≤ _; exact Nat.le_of_eq rfl) (hb hby at_117) (fun _ _ => ⟨rfl, e89, (by decide : 5 + 0 ≤ _), (by decide : 14 + 0 ≤ _)⟩)
  dsimp only [Pt.U, Pt.locs, Pt.cells, Pt.slots] at X109 l109 y109 z109 st109 hQ109
  subst l109 y109 z109
  obtain ⟨rfl, N109q, e109⟩ := hQ109
  have N109 := Fr.app N79 N109q
  have pre110 : oL p e below T109 (mkF m 120 #[oI p1, oI p2, oI p3, oI p4, oI p5, oI b11, oI b17, oI b23, oI b29, oI (p1.toUInt32.toUInt16.toUInt32.toInt32), oR b35, oR b47, oR b64, oU, oU, oU, oU, oU] [ow wM, oi p5, oi p4, ow b89, ow b89]) s₁ (entryFrame m #[(.int p1), (.int p2), (.int p3), (.int p4), (.int p5)] maxLocals) := fun t k => pre108 t (by
    refine st109.trans ?_
    exact k)
  obtain ⟨_, _, ⟨T111, L111, k111, n111⟩, -, X111, ⟨Lc111, hQ111, l111, y111, z111⟩, st111⟩ := Jvm.LawKit.callS X109 hx (y := (⟨"com/example/vedette/vedette/definition/SubfieldDefinitionWithControlValuePinLaw", "emptyPositions", "(Ljava/lang/Object;)Ljava/lang/Object;"⟩ : MethodName)) hown (mvT hZ (oW hw 70 rfl)) (mvT hZ (oW hw 71 rfl)) (mvT hZ (oW hw 72 rfl)) (mvT hZ (oW hw 73 rfl)) (by decide) (backOf (W := 4) (rm_emp l Z a0 hw [] wM h89 n0 OL103 ) hZ (oW hw 73 rfl) (oW hw 72 rfl) (by decide) (by decide)) (g := (mkF m 120 #[oI p1, oI p2, oI p3, oI p4, oI p5, oI b11, oI b17, oI b23, oI b29, oI (p1.toUInt32.toUInt16.toUInt32.toInt32), oR b35, oR b47, oR b64, oU, oU, oU, oU, oU] [ow wM, oi p5, oi p4, ow b89, ow b89])) rfl (by rw [hml]; rfl) (argsL := [(.ref wM)]) (rest := [(.int p5), (.int p4), (.ref b89), (.ref b89)]) (lenOf pd__Ljava_lang_Object__Ljava_lang_Object_ rfl) rfl (by show 2 * 0 + _ ≤ _; exact Nat.le_of_eq rfl) (hb hby at_120) (fun _ _ => ⟨rfl, e109, (by decide : 5 + 0 ≤ _), (by decide : 14 + 0 ≤ _)⟩)
  dsimp only [Pt.U, Pt.locs, Pt.cells, Pt.slots] at X111 l111 y111 z111 st111 hQ111
  subst l111 y111 z111
  obtain ⟨rfl, N111q, e111⟩ := hQ111
  have N111 := Fr.app N109 N111q
  have pre112 : oL p e below T111 (mkF m 123 #[oI p1, oI p2, oI p3, oI p4, oI p5, oI b11, oI b17, oI b23, oI b29, oI (p1.toUInt32.toUInt16.toUInt32.toInt32), oR b35, oR b47, oR b64, oU, oU, oU, oU, oU] [ow wM, oi p5, oi p4, ow b89, ow b89]) s₁ (entryFrame m #[(.int p1), (.int p2), (.int p3), (.int p4), (.int p5)] maxLocals) := fun t k => pre110 t (by
    refine st111 _ ?_
    show oS p e below T111 (mkF m 123 #[oI p1, oI p2, oI p3, oI p4, oI p5, oI b11, oI b17, oI b23, oI b29, oI (p1.toUInt32.toUInt16.toUInt32.toInt32), oR b35, oR b47, oR b64, oU, oU, oU, oU, oU] [ow wM, oi p5, oi p4, ow b89, ow b89]) _
    exact k)
  obtain ⟨T113, X113, e113, st113⟩ := castY X111 hx hZ hown (oW hw 74 rfl) e111 (Ins.of_exa (eM.ext OL103.2) (oW hw 75 rfl)) (g := (mkF m 123 #[oI p1, oI p2, oI p3, oI p4, oI p5, oI b11, oI b17, oI b23, oI b29, oI (p1.toUInt32.toUInt16.toUInt32.toInt32), oR b35, oR b47, oR b64, oU, oU, oU, oU, oU] [ow wM, oi p5, oi p4, ow b89, ow b89])) rfl rfl (hb hby at_123)
  have pre114 : oL p e below T113 (mkF m 126 #[oI p1, oI p2, oI p3, oI p4, oI p5, oI b11, oI b17, oI b23, oI b29, oI (p1.toUInt32.toUInt16.toUInt32.toInt32), oR b35, oR b47, oR b64, oU, oU, oU, oU, oU] [ow wM, oi p5, oi p4, ow b89, ow b89]) s₁ (entryFrame m #[(.int p1), (.int p2), (.int p3), (.int p4), (.int p5)] maxLocals) := fun t k => pre112 t (by
    refine st113 _ ?_
    exact k)
  obtain ⟨_, _, ⟨T115, L115, k115, n115⟩, -, X115, ⟨Lc115, hQ115, l115, y115, z115⟩, st115⟩ := X113.specialBack hx (y := (⟨"com/example/vedette/vedette/definition/ControlValueDefinition", "<init>", "(IILjava/util/Map;)V"⟩ : MethodName)) rfl hown (mvT hZ (oW hw 76 rfl)) (mvT hZ (oW hw 77 rfl)) (mvT hZ (oW hw 78 rfl)) (by decide) (backOf (W := 1) (rm_cvd l Z a0 hw [] b89 p4 p5 wM h89 n0 OL103 ge_b89 A89 f105 f106 f107 eM) hZ (oW hw 78 rfl) (oW hw 64 rfl) (by decide) (by decide)) (g := (mkF m 126 #[oI p1, oI p2, oI p3, oI p4, oI p5, oI b11, oI b17, oI b23, oI b29, oI (p1.toUInt32.toUInt16.toUInt32.toInt32), oR b35, oR b47, oR b64, oU, oU, oU, oU, oU] [ow wM, oi p5, oi p4, ow b89, ow b89])) rfl (by rw [hml]; rfl) (Steps.refl _) (a := b89) (argsL := [(.int p4), (.int p5), (.ref wM)]) (rest := [(.ref b89)]) (lenOf pd__IILjava_util_Map__V rfl) rfl (by show 2 * 0 + _ ≤ _; exact Nat.le_of_eq rfl) (hb hby at_126) (fun _ _ => ⟨rfl, e113, (by decide : 5 + 0 ≤ _), (by decide : 14 + 0 ≤ _)⟩)
  dsimp only [Pt.U, Pt.locs, Pt.cells, Pt.slots] at X115 l115 y115 z115 st115 hQ115
  subst l115 y115 z115
  obtain ⟨rfl, N115q, Kq115⟩ := hQ115
  have N115 := Fr.app N111 N115q
  have f116 := f94.keep Kq115 (ninS ne90 nin0)
  have f117 := f95.keep Kq115
  have f118 := f96.keep Kq115 (ninS ne91 nin0)
  have f119 := f97.keep Kq115 (ninS ne91 nin0)
  have f120 := f98.keep Kq115 (ninS ne93 nin0)
  have f121 := f99.keep Kq115
  have f122 := f100.keep Kq115 (ninS ne92 nin0)
  have f123 := f101.keep Kq115 (ninS ne92 nin0)
  have f124 := f102.keep Kq115 (ninS ne92 nin0)
  have f125 := A89.keep Kq115
  have OL126 := OL103.keep Kq115 (allS ge_b89 all0)
  have K127 : Keep h0 T115.heap [] := K104.trans Kq115 (allS (Or.inr sz_b89) all0)
  have pre128 : oL p e below T115 (mkF m 131 #[oI p1, oI p2, oI p3, oI p4, oI p5, oI b11, oI b17, oI b23, oI b29, oI (p1.toUInt32.toUInt16.toUInt32.toInt32), oR b35, oR b47, oR b64, oR b89, oU, oU, oU, oU] []) s₁ (entryFrame m #[(.int p1), (.int p2), (.int p3), (.int p4), (.int p5)] maxLocals) := fun t k => pre114 t (by
    refine st115.trans ?_
    refine XS.astore X115.here hx rfl (hb hby at_129) rfl rfl (l' := #[oI p1, oI p2, oI p3, oI p4, oI p5, oI b11, oI b17, oI b23, oI b29, oI (p1.toUInt32.toUInt16.toUInt32.toInt32), oR b35, oR b47, oR b64, oR b89, oU, oU, oU, oU]) rfl ?_
    exact k)
  obtain ⟨cv129, hj129, pre129⟩ : ∃ cv129 : Value, cv129.isRef = true ∧ oL p e below T115 (mkF m 142 #[oI p1, oI p2, oI p3, oI p4, oI p5, oI b11, oI b17, oI b23, oI b29, oI (p1.toUInt32.toUInt16.toUInt32.toInt32), oR b35, oR b47, oR b64, oR b89, oU, oU, oU, oU] [cv129]) s₁ (entryFrame m #[(.int p1), (.int p2), (.int p3), (.int p4), (.int p5)] maxLocals) := by
    have pre130 : oL p e below T115 (mkF m 133 #[oI p1, oI p2, oI p3, oI p4, oI p5, oI b11, oI b17, oI b23, oI b29, oI (p1.toUInt32.toUInt16.toUInt32.toInt32), oR b35, oR b47, oR b64, oR b89, oU, oU, oU, oU] [oi b23]) s₁ (entryFrame m #[(.int p1), (.int p2), (.int p3), (.int p4), (.int p5)] maxLocals) := fun t k => pre128 t (by
      refine XS.iload X115.here hx rfl (hb hby at_131) rfl ?_
      show oS p e below T115 (mkF m 133 #[oI p1, oI p2, oI p3, oI p4, oI p5, oI b11, oI b17, oI b23, oI b29, oI (p1.toUInt32.toUInt16.toUInt32.toInt32), oR b35, oR b47, oR b64, oR b89, oU, oU, oU, oU] [oi b23]) _
      exact k)
    by_cases hc131 : b23 = (0 : Int32)
    ·
      have pre132 : oL p e below T115 (mkF m 142 #[oI p1, oI p2, oI p3, oI p4, oI p5, oI b11, oI b17, oI b23, oI b29, oI (p1.toUInt32.toUInt16.toUInt32.toInt32), oR b35, oR b47, oR b64, oR b89, oU, oU, oU, oU] [.null]) s₁ (entryFrame m #[(.int p1), (.int p2), (.int p3), (.int p4), (.int p5)] maxLocals) := fun t k => pre130 t (by
        refine XS.ifYes X115.here hx rfl (pc0 := 133) (pc' := 141) rfl (hb hby at_133) rfl ((if0 _ _).trans (teq hc131).1) (by decide) (by decide) ?_
        refine XS.aconstNull X115.here hx rfl (hb hby at_141) ?_
        exact k)
      exact ⟨.null, rfl, pre132⟩
    ·
      have pre133 : oL p e below T115 (mkF m 142 #[oI p1, oI p2, oI p3, oI p4, oI p5, oI b11, oI b17, oI b23, oI b29, oI (p1.toUInt32.toUInt16.toUInt32.toInt32), oR b35, oR b47, oR b64, oR b89, oU, oU, oU, oU] [ow b89]) s₁ (entryFrame m #[(.int p1), (.int p2), (.int p3), (.int p4), (.int p5)] maxLocals) := fun t k => pre130 t (by
        refine XS.ifNo X115.here hx rfl (hb hby at_133) rfl ((if0 _ _).trans (feq hc131).1) ?_
        refine XS.aload X115.here hx rfl (hb hby at_136) rfl rfl ?_
        refine XS.goto X115.here hx rfl (pc0 := 138) (pc' := 142) rfl (hb hby at_138) (by decide) (by decide) ?_
        exact k)
      exact ⟨(.ref b89), rfl, pre133⟩
  have pre134 : oL p e below T115 (mkF m 144 #[oI p1, oI p2, oI p3, oI p4, oI p5, oI b11, oI b17, oI b23, oI b29, oI (p1.toUInt32.toUInt16.toUInt32.toInt32), oR b35, oR b47, oR b64, oR b89, oV cv129, oU, oU, oU] []) s₁ (entryFrame m #[(.int p1), (.int p2), (.int p3), (.int p4), (.int p5)] maxLocals) := fun t k => pre129 t (by
    refine XS.astore X115.here hx rfl (hb hby at_142) rfl hj129 (l' := #[oI p1, oI p2, oI p3, oI p4, oI p5, oI b11, oI b17, oI b23, oI b29, oI (p1.toUInt32.toUInt16.toUInt32.toInt32), oR b35, oR b47, oR b64, oR b89, oV cv129, oU, oU, oU]) (own_st1 hj129 rfl rfl) ?_
    show oS p e below T115 (mkF m 144 #[oI p1, oI p2, oI p3, oI p4, oI p5, oI b11, oI b17, oI b23, oI b29, oI (p1.toUInt32.toUInt16.toUInt32.toInt32), oR b35, oR b47, oR b64, oR b89, oV cv129, oU, oU, oU] []) _
    exact k)
  obtain ⟨cv135, hj135, pre135⟩ : ∃ cv135 : Value, cv135.isRef = true ∧ oL p e below T115 (mkF m 155 #[oI p1, oI p2, oI p3, oI p4, oI p5, oI b11, oI b17, oI b23, oI b29, oI (p1.toUInt32.toUInt16.toUInt32.toInt32), oR b35, oR b47, oR b64, oR b89, oV cv129, oU, oU, oU] [cv135]) s₁ (entryFrame m #[(.int p1), (.int p2), (.int p3), (.int p4), (.int p5)] maxLocals) := by
    have pre136 : oL p e below T115 (mkF m 146 #[oI p1, oI p2, oI p3, oI p4, oI p5, oI b11, oI b17, oI b23, oI b29, oI (p1.toUInt32.toUInt16.toUInt32.toInt32), oR b35, oR b47, oR b64, oR b89, oV cv129, oU, oU, oU] [oi b29]) s₁ (entryFrame m #[(.int p1), (.int p2), (.int p3), (.int p4), (.int p5)] maxLocals) := fun t k => pre134 t (by
      refine XS.iload X115.here hx rfl (hb hby at_144) rfl ?_
      exact k)
    by_cases hc137 : b29 = (0 : Int32)
    ·
      have pre138 : oL p e below T115 (mkF m 155 #[oI p1, oI p2, oI p3, oI p4, oI p5, oI b11, oI b17, oI b23, oI b29, oI (p1.toUInt32.toUInt16.toUInt32.toInt32), oR b35, oR b47, oR b64, oR b89, oV cv129, oU, oU, oU] [.null]) s₁ (entryFrame m #[(.int p1), (.int p2), (.int p3), (.int p4), (.int p5)] maxLocals) := fun t k => pre136 t (by
        refine XS.ifYes X115.here hx rfl (pc0 := 146) (pc' := 154) rfl (hb hby at_146) rfl ((if0 _ _).trans (teq hc137).1) (by decide) (by decide) ?_
        refine XS.aconstNull X115.here hx rfl (hb hby at_154) ?_
        exact k)
      exact ⟨.null, rfl, pre138⟩
    ·
      have pre139 : oL p e below T115 (mkF m 155 #[oI p1, oI p2, oI p3, oI p4, oI p5, oI b11, oI b17, oI b23, oI b29, oI (p1.toUInt32.toUInt16.toUInt32.toInt32), oR b35, oR b47, oR b64, oR b89, oV cv129, oU, oU, oU] [ow b89]) s₁ (entryFrame m #[(.int p1), (.int p2), (.int p3), (.int p4), (.int p5)] maxLocals) := fun t k => pre136 t (by
        refine XS.ifNo X115.here hx rfl (hb hby at_146) rfl ((if0 _ _).trans (feq hc137).1) ?_
        refine XS.aload X115.here hx rfl (hb hby at_149) rfl rfl ?_
        refine XS.goto X115.here hx rfl (pc0 := 151) (pc' := 155) rfl (hb hby at_151) (by decide) (by decide) ?_
        show oS p e below T115 (mkF m 155 #[oI p1, oI p2, oI p3, oI p4, oI p5, oI b11, oI b17, oI b23, oI b29, oI (p1.toUInt32.toUInt16.toUInt32.toInt32), oR b35, oR b47, oR b64, oR b89, oV cv129, oU, oU, oU] [ow b89]) _
        exact k)
      exact ⟨(.ref b89), rfl, pre139⟩
  have pre140 : oL p e below T115 (mkF m 157 #[oI p1, oI p2, oI p3, oI p4, oI p5, oI b11, oI b17, oI b23, oI b29, oI (p1.toUInt32.toUInt16.toUInt32.toInt32), oR b35, oR b47, oR b64, oR b89, oV cv129, oV cv135, oU, oU] []) s₁ (entryFrame m #[(.int p1), (.int p2), (.int p3), (.int p4), (.int p5)] maxLocals) := fun t k => pre135 t (by
    refine XS.astore X115.here hx rfl (hb hby at_155) rfl hj135 (l' := #[oI p1, oI p2, oI p3, oI p4, oI p5, oI b11, oI b17, oI b23, oI b29, oI (p1.toUInt32.toUInt16.toUInt32.toInt32), oR b35, oR b47, oR b64, oR b89, oV cv129, oV cv135, oU, oU]) (own_st1 hj135 rfl rfl) ?_
    exact k)
  obtain ⟨T141, h141, X141, e141, E141, A141, D141, -, st141⟩ := newO X115 hx hZ hown (oW hw 87 rfl) (oW hw 88 rfl) (oW hw 89 rfl) rfl (g := (mkF m 157 #[oI p1, oI p2, oI p3, oI p4, oI p5, oI b11, oI b17, oI b23, oI b29, oI (p1.toUInt32.toUInt16.toUInt32.toInt32), oR b35, oR b47, oR b64, oR b89, oV cv129, oV cv135, oU, oU] [])) rfl (hb hby at_157) (by decide) (by decide)
  obtain ⟨b141, g141⟩ : ∃ z, z = T115.heap.size := ⟨_, rfl⟩
  rw [← g141] at A141 D141 st141
  have ne142 : b35 ≠ b141 := Nat.ne_of_lt (Nat.lt_of_lt_of_le f116.lt (Nat.le_of_eq g141.symm))
  have ne143 : b47 ≠ b141 := Nat.ne_of_lt (Nat.lt_of_lt_of_le f117.lt (Nat.le_of_eq g141.symm))
  have ne144 : b64 ≠ b141 := Nat.ne_of_lt (Nat.lt_of_lt_of_le f121.lt (Nat.le_of_eq g141.symm))
  have ne145 : b89 ≠ b141 := Nat.ne_of_lt (Nat.lt_of_lt_of_le f125.lt (Nat.le_of_eq g141.symm))
  have ne146 : tt56 ≠ b141 := Nat.ne_of_lt (Nat.lt_of_lt_of_le f120.lt (Nat.le_of_eq g141.symm))
  have ge_b141 : n0 ≤ b141 := Nat.le_trans (OL126.1 ▸ OL126.2.1) (Nat.le_of_eq g141.symm)
  have sz_b141 : h0.size ≤ b141 := Nat.le_trans K127.1 (Nat.le_of_eq g141.symm)
  have f147 := f116.ext E141
  have f148 := f117.ext E141
  have f149 := f118.ext E141
  have f150 := f119.ext E141
  have f151 := f120.ext E141
  have f152 := f121.ext E141
  have f153 := f122.ext E141
  have f154 := f123.ext E141
  have f155 := f124.ext E141
  have f156 := f125.ext E141
  have OL157 := OL126.ext E141
  have K158 : Keep h0 h141 [] := K127.ext E141
  have f159 : Fld Z h141 b141 "com/example/vedette/vedette/definition/SubfieldDefinition" "code" "C" (.int (0 : Int32)) := D141 (Or.inr (oW hw 95 rfl)) (ty := .char) (by decide)
  have f160 : Fld Z h141 b141 "com/example/vedette/vedette/definition/SubfieldDefinition" "name" "Ljava/lang/String;" .null := D141 (Or.inr (oW hw 97 rfl)) (ty := (.object "java/lang/String")) (by decide)
  have f161 : Fld Z h141 b141 "com/example/vedette/vedette/definition/SubfieldDefinition" "repeatable" "Z" (.int (0 : Int32)) := D141 (Or.inr (oW hw 99 rfl)) (ty := .boolean) (by decide)
  have f162 : Fld Z h141 b141 "com/example/vedette/vedette/definition/SubfieldDefinition" "mandatory" "Z" (.int (0 : Int32)) := D141 (Or.inr (oW hw 101 rfl)) (ty := .boolean) (by decide)
  have f163 : Fld Z h141 b141 "com/example/vedette/vedette/definition/SubfieldDefinition" "controlValue" "Lcom/example/vedette/vedette/definition/ControlValueDefinition;" .null := D141 (Or.inr (oW hw 103 rfl)) (ty := (.object "com/example/vedette/vedette/definition/ControlValueDefinition")) (by decide)
  have pre164 : oL p e below T141 (mkF m 171 #[oI p1, oI p2, oI p3, oI p4, oI p5, oI b11, oI b17, oI b23, oI b29, oI (p1.toUInt32.toUInt16.toUInt32.toInt32), oR b35, oR b47, oR b64, oR b89, oV cv129, oV cv135, oU, oU] [cv129, oi b17, oi b11, ow b47, oi (p1.toUInt32.toUInt16.toUInt32.toInt32), ow b141, ow b141]) s₁ (entryFrame m #[(.int p1), (.int p2), (.int p3), (.int p4), (.int p5)] maxLocals) := fun t k => pre140 t (by
    refine st141 _ ?_
    refine XS.dup X141.here hx rfl (hb hby at_160) rfl rfl ?_
    refine XS.iload X141.here hx rfl (hb hby at_161) rfl ?_
    show oS p e below T141 (mkF m 163 #[oI p1, oI p2, oI p3, oI p4, oI p5, oI b11, oI b17, oI b23, oI b29, oI (p1.toUInt32.toUInt16.toUInt32.toInt32), oR b35, oR b47, oR b64, oR b89, oV cv129, oV cv135, oU, oU] [oi (p1.toUInt32.toUInt16.toUInt32.toInt32), ow b141, ow b141]) _
    refine XS.aload X141.here hx rfl (hb hby at_163) rfl rfl ?_
    refine XS.iload X141.here hx rfl (hb hby at_165) rfl ?_
    refine XS.iload X141.here hx rfl (hb hby at_167) rfl ?_
    refine XS.aload X141.here hx rfl (hb hby at_169) rfl hj129 ?_
    show oS p e below T141 (mkF m 171 #[oI p1, oI p2, oI p3, oI p4, oI p5, oI b11, oI b17, oI b23, oI b29, oI (p1.toUInt32.toUInt16.toUInt32.toInt32), oR b35, oR b47, oR b64, oR b89, oV cv129, oV cv135, oU, oU] [cv129, oi b17, oi b11, ow b47, oi (p1.toUInt32.toUInt16.toUInt32.toInt32), ow b141, ow b141]) _
    exact k)
  obtain ⟨_, _, ⟨T165, L165, k165, n165⟩, -, X165, ⟨Lc165, hQ165, l165, y165, z165⟩, st165⟩ := X141.specialBack hx (y := (⟨"com/example/vedette/vedette/definition/SubfieldDefinition", "<init>", "(CLjava/lang/String;ZZLcom/example/vedette/vedette/definition/ControlValueDefinition;)V"⟩ : MethodName)) rfl hown (mvT hZ (oW hw 90 rfl)) (mvT hZ (oW hw 91 rfl)) (mvT hZ (oW hw 92 rfl)) (by decide) (backOf (W := 1) (rm_sd l Z a0 hw [] b141 (p1.toUInt32.toUInt16.toUInt32.toInt32) b47 b11 b17 cv129 h141 n0 OL157 ge_b141 A141 f159 f160 f161 f162 f163 (own_i2c p1) hn11 hn17 hj129) hZ (oW hw 92 rfl) (oW hw 89 rfl) (by decide) (by decide)) (g := (mkF m 171 #[oI p1, oI p2, oI p3, oI p4, oI p5, oI b11, oI b17, oI b23, oI b29, oI (p1.toUInt32.toUInt16.toUInt32.toInt32), oR b35, oR b47, oR b64, oR b89, oV cv129, oV cv135, oU, oU] [cv129, oi b17, oi b11, ow b47, oi (p1.toUInt32.toUInt16.toUInt32.toInt32), ow b141, ow b141])) rfl (by rw [hml]; rfl) (Steps.refl _) (a := b141) (argsL := [(.int (p1.toUInt32.toUInt16.toUInt32.toInt32)), (.ref b47), (.int b11), (.int b17), cv129]) (rest := [(.ref b141)]) (lenOf pd__CLjava_lang_String_ZZLcom_example_vedette_vedette_definition_ControlValueDefinition__V rfl) rfl (by show 2 * 0 + _ ≤ _; exact Nat.le_of_eq rfl) (hb hby at_171) (fun _ _ => ⟨rfl, e141, (by decide : 6 + 0 ≤ _), (by decide : 19 + 0 ≤ _)⟩)
  dsimp only [Pt.U, Pt.locs, Pt.cells, Pt.slots] at X165 l165 y165 z165 st165 hQ165
  subst l165 y165 z165
  obtain ⟨rfl, N165q, Kq165, Eq165, F0_165, F1_165, F2_165, F3_165, F4_165⟩ := hQ165
  have N165 := Fr.app N115 N165q
  have f166 := f147.keep Kq165 (ninS ne142 nin0)
  have f167 := f148.keep Kq165
  have f168 := f149.keep Kq165 (ninS ne143 nin0)
  have f169 := f150.keep Kq165 (ninS ne143 nin0)
  have f170 := f151.keep Kq165 (ninS ne146 nin0)
  have f171 := f152.keep Kq165
  have f172 := f153.keep Kq165 (ninS ne144 nin0)
  have f173 := f154.keep Kq165 (ninS ne144 nin0)
  have f174 := f155.keep Kq165 (ninS ne144 nin0)
  have f175 := f156.keep Kq165
  have f176 := A141.keep Kq165
  have OL177 := OL157.keep Kq165 (allS ge_b141 all0)
  have K178 : Keep h0 T165.heap [] := K158.trans Kq165 (allS (Or.inr sz_b141) all0)
  have pre179 : oL p e below T165 (mkF m 180 #[oI p1, oI p2, oI p3, oI p4, oI p5, oI b11, oI b17, oI b23, oI b29, oI (p1.toUInt32.toUInt16.toUInt32.toInt32), oR b35, oR b47, oR b64, oR b89, oV cv129, oV cv135, oR b141, oU] [cv135, ow b141]) s₁ (entryFrame m #[(.int p1), (.int p2), (.int p3), (.int p4), (.int p5)] maxLocals) := fun t k => pre164 t (by
    refine st165.trans ?_
    refine XS.astore X165.here hx rfl (hb hby at_174) rfl rfl (l' := #[oI p1, oI p2, oI p3, oI p4, oI p5, oI b11, oI b17, oI b23, oI b29, oI (p1.toUInt32.toUInt16.toUInt32.toInt32), oR b35, oR b47, oR b64, oR b89, oV cv129, oV cv135, oR b141, oU]) rfl ?_
    refine XS.aload X165.here hx rfl (hb hby at_176) rfl rfl ?_
    refine XS.aload X165.here hx rfl (hb hby at_178) rfl hj135 ?_
    show oS p e below T165 (mkF m 180 #[oI p1, oI p2, oI p3, oI p4, oI p5, oI b11, oI b17, oI b23, oI b29, oI (p1.toUInt32.toUInt16.toUInt32.toInt32), oR b35, oR b47, oR b64, oR b89, oV cv129, oV cv135, oR b141, oU] [cv135, ow b141]) _
    exact k)
  obtain ⟨cq180, kq180, q180a, q180b, q180c⟩ := isOf hZ rfl Eq165
  obtain ⟨_, _, ⟨T180, L180, k180, n180⟩, -, X180, ⟨Lc180, hQ180, l180, y180, z180⟩, st180⟩ := X165.virtualBack hx (y := (⟨"com/example/vedette/vedette/definition/SubfieldDefinition", "withControlValue", "(Lcom/example/vedette/vedette/definition/ControlValueDefinition;)Lcom/example/vedette/vedette/definition/SubfieldDefinition;"⟩ : MethodName)) (z := (⟨"com/example/vedette/vedette/definition/SubfieldDefinition", "withControlValue", "(Lcom/example/vedette/vedette/definition/ControlValueDefinition;)Lcom/example/vedette/vedette/definition/SubfieldDefinition;"⟩ : MethodName)) hown (mvT hZ (oW hw 104 rfl)) (mvT hZ (oW hw 105 rfl)) (notFace_of_selects (args := #[]) (mvT hZ (oW hw 107 rfl))) (mvT hZ (oW hw 107 rfl)) (mvT hZ (oW hw 106 rfl)) (by decide) (backOf (W := 0) (rm_wcv l Z a0 hw [] b141 (p1.toUInt32.toUInt16.toUInt32.toInt32) b47 b11 b17 cv135 T165.heap n0 OL177 Eq165 F0_165 F1_165 F2_165 F3_165 (own_i2c p1) hn11 hn17 hj135) hZ (oW hw 108 rfl) (oW hw 89 rfl) (by decide) (by decide)) q180a q180c (g := (mkF m 180 #[oI p1, oI p2, oI p3, oI p4, oI p5, oI b11, oI b17, oI b23, oI b29, oI (p1.toUInt32.toUInt16.toUInt32.toInt32), oR b35, oR b47, oR b64, oR b89, oV cv129, oV cv135, oR b141, oU] [cv135, ow b141])) rfl (by rw [hml]; rfl) (Steps.refl _) (argsL := [cv135]) (rest := []) (lenOf pd__Lcom_example_vedette_vedette_definition_ControlValueDefinition__Lcom_example_vedette_vedette_definition_SubfieldDefinition_ rfl) rfl (by show 2 * 0 + _ ≤ _; exact Nat.le_of_eq rfl) (hb hby at_180) (fun _ _ => ⟨rfl, rfl, (by decide : 6 + 1 ≤ _), (by decide : 19 + 5 ≤ _)⟩)
  dsimp only [Pt.U, Pt.locs, Pt.cells, Pt.slots] at X180 l180 y180 z180 st180 hQ180
  subst l180 y180 z180
  obtain ⟨r180, rfl, N180q, Kq180, sq180, Eq180, F0_180, F1_180, F2_180, F3_180, F4_180⟩ := hQ180
  have N180 := Fr.app N165 N180q
  have ne181 : b141 ≠ r180 := Nat.ne_of_lt (Nat.lt_of_lt_of_le Eq165.lt sq180)
  have ne182 : b35 ≠ r180 := Nat.ne_of_lt (Nat.lt_of_lt_of_le f166.lt sq180)
  have ne183 : b47 ≠ r180 := Nat.ne_of_lt (Nat.lt_of_lt_of_le f167.lt sq180)
  have ne184 : b64 ≠ r180 := Nat.ne_of_lt (Nat.lt_of_lt_of_le f171.lt sq180)
  have ne185 : b89 ≠ r180 := Nat.ne_of_lt (Nat.lt_of_lt_of_le f175.lt sq180)
  have ne186 : tt56 ≠ r180 := Nat.ne_of_lt (Nat.lt_of_lt_of_le f170.lt sq180)
  have ge_r180 : n0 ≤ r180 := Nat.le_trans (OL177.1 ▸ OL177.2.1) sq180
  have sz_r180 : h0.size ≤ r180 := Nat.le_trans K178.1 sq180
  have f187 := f166.keep Kq180 nin0
  have f188 := f167.keep Kq180
  have f189 := f168.keep Kq180 nin0
  have f190 := f169.keep Kq180 nin0
  have f191 := f170.keep Kq180 nin0
  have f192 := f171.keep Kq180
  have f193 := f172.keep Kq180 nin0
  have f194 := f173.keep Kq180 nin0
  have f195 := f174.keep Kq180 nin0
  have f196 := f175.keep Kq180
  have f197 := Eq165.keep Kq180
  have f198 := F0_165.keep Kq180 nin0
  have f199 := F1_165.keep Kq180 nin0
  have f200 := F2_165.keep Kq180 nin0
  have f201 := F3_165.keep Kq180 nin0
  have f202 := F4_165.keep Kq180 nin0
  have OL203 := OL177.keep Kq180 all0
  have K204 : Keep h0 T180.heap [] := K178.trans Kq180 all0
  have pre205 : oL p e below T180 (mkF m 187 #[oI p1, oI p2, oI p3, oI p4, oI p5, oI b11, oI b17, oI b23, oI b29, oI (p1.toUInt32.toUInt16.toUInt32.toInt32), oR b35, oR b47, oR b64, oR b89, oV cv129, oV cv135, oR b141, oR r180] [ow r180]) s₁ (entryFrame m #[(.int p1), (.int p2), (.int p3), (.int p4), (.int p5)] maxLocals) := fun t k => pre179 t (by
    refine st180.trans ?_
    refine XS.astore X180.here hx rfl (hb hby at_183) rfl rfl (l' := #[oI p1, oI p2, oI p3, oI p4, oI p5, oI b11, oI b17, oI b23, oI b29, oI (p1.toUInt32.toUInt16.toUInt32.toInt32), oR b35, oR b47, oR b64, oR b89, oV cv129, oV cv135, oR b141, oR r180]) rfl ?_
    refine XS.aload X180.here hx rfl (hb hby at_185) rfl rfl ?_
    exact k)
  obtain ⟨cq206, kq206, q206a, q206b, q206c⟩ := isOf hZ rfl Eq180
  obtain ⟨_, _, ⟨T206, L206, k206, n206⟩, -, X206, ⟨Lc206, hQ206, l206, y206, z206⟩, st206⟩ := X180.virtualBack hx (y := (⟨"com/example/vedette/vedette/definition/SubfieldDefinition", "code", "()C"⟩ : MethodName)) (z := (⟨"com/example/vedette/vedette/definition/SubfieldDefinition", "code", "()C"⟩ : MethodName)) hown (mvT hZ (oW hw 111 rfl)) (mvT hZ (oW hw 112 rfl)) (notFace_of_selects (args := #[]) (mvT hZ (oW hw 114 rfl))) (mvT hZ (oW hw 114 rfl)) (mvT hZ (oW hw 113 rfl)) (by decide) (backOf (W := 0) (rm_g_code l Z a0 hw [] r180 (p1.toUInt32.toUInt16.toUInt32.toInt32) T180.heap n0 OL203 F0_180 (own_i2c p1)) hZ (oW hw 115 rfl) (oW hw 89 rfl) (by decide) (by decide)) q206a q206c (g := (mkF m 187 #[oI p1, oI p2, oI p3, oI p4, oI p5, oI b11, oI b17, oI b23, oI b29, oI (p1.toUInt32.toUInt16.toUInt32.toInt32), oR b35, oR b47, oR b64, oR b89, oV cv129, oV cv135, oR b141, oR r180] [ow r180])) rfl (by rw [hml]; rfl) (Steps.refl _) (argsL := []) (rest := []) (lenOf pd___C rfl) rfl (by show 2 * 0 + _ ≤ _; exact Nat.le_of_eq rfl) (hb hby at_187) (fun _ _ => ⟨rfl, rfl, (by decide : 7 + 0 ≤ _), (by decide : 24 + 0 ≤ _)⟩)
  dsimp only [Pt.U, Pt.locs, Pt.cells, Pt.slots] at X206 l206 y206 z206 st206 hQ206
  subst l206 y206 z206
  obtain ⟨rfl, N206q, e206⟩ := hQ206
  have N206 := Fr.app N180 N206q
  have pre207 : oL p e below T206 (mkF m 199 #[oI p1, oI p2, oI p3, oI p4, oI p5, oI b11, oI b17, oI b23, oI b29, oI (p1.toUInt32.toUInt16.toUInt32.toInt32), oR b35, oR b47, oR b64, oR b89, oV cv129, oV cv135, oR b141, oR r180] [ow r180, ow b47]) s₁ (entryFrame m #[(.int p1), (.int p2), (.int p3), (.int p4), (.int p5)] maxLocals) := fun t k => pre205 t (by
    refine st206.trans ?_
    show oS p e below T206 (mkF m 190 #[oI p1, oI p2, oI p3, oI p4, oI p5, oI b11, oI b17, oI b23, oI b29, oI (p1.toUInt32.toUInt16.toUInt32.toInt32), oR b35, oR b47, oR b64, oR b89, oV cv129, oV cv135, oR b141, oR r180] [oi (p1.toUInt32.toUInt16.toUInt32.toInt32)]) _
    refine XS.iload X206.here hx rfl (hb hby at_190) rfl ?_
    refine XS.icmpNo X206.here hx rfl (hb hby at_192) rfl (teq (rfl : (p1.toUInt32.toUInt16.toUInt32.toInt32) = (p1.toUInt32.toUInt16.toUInt32.toInt32))).2 ?_
    refine XS.aload X206.here hx rfl (hb hby at_195) rfl rfl ?_
    refine XS.aload X206.here hx rfl (hb hby at_197) rfl rfl ?_
    show oS p e below T206 (mkF m 199 #[oI p1, oI p2, oI p3, oI p4, oI p5, oI b11, oI b17, oI b23, oI b29, oI (p1.toUInt32.toUInt16.toUInt32.toInt32), oR b35, oR b47, oR b64, oR b89, oV cv129, oV cv135, oR b141, oR r180] [ow r180, ow b47]) _
    exact k)
  obtain ⟨cq208, kq208, q208a, q208b, q208c⟩ := isOf hZ e206 Eq180
  obtain ⟨_, _, ⟨T208, L208, k208, n208⟩, -, X208, ⟨Lc208, hQ208, l208, y208, z208⟩, st208⟩ := X206.virtualBack hx (y := (⟨"com/example/vedette/vedette/definition/SubfieldDefinition", "name", "()Ljava/lang/String;"⟩ : MethodName)) (z := (⟨"com/example/vedette/vedette/definition/SubfieldDefinition", "name", "()Ljava/lang/String;"⟩ : MethodName)) hown (mvT hZ (oW hw 116 rfl)) (mvT hZ (oW hw 117 rfl)) (notFace_of_selects (args := #[]) (mvT hZ (oW hw 119 rfl))) (mvT hZ (oW hw 119 rfl)) (mvT hZ (oW hw 118 rfl)) (by decide) (backOf (W := 1) (rm_g_name l Z a0 hw [] r180 (.ref b47) T180.heap n0 OL203 F1_180 rfl) hZ (oW hw 120 rfl) (oW hw 89 rfl) (by decide) (by decide)) q208a q208c (g := (mkF m 199 #[oI p1, oI p2, oI p3, oI p4, oI p5, oI b11, oI b17, oI b23, oI b29, oI (p1.toUInt32.toUInt16.toUInt32.toInt32), oR b35, oR b47, oR b64, oR b89, oV cv129, oV cv135, oR b141, oR r180] [ow r180, ow b47])) rfl (by rw [hml]; rfl) (Steps.refl _) (argsL := []) (rest := [(.ref b47)]) (lenOf pd___Ljava_lang_String_ rfl) rfl (by show 2 * 0 + _ ≤ _; exact Nat.le_of_eq rfl) (hb hby at_199) (fun _ _ => ⟨rfl, e206, (by decide : 7 + 0 ≤ _), (by decide : 24 + 0 ≤ _)⟩)
  dsimp only [Pt.U, Pt.locs, Pt.cells, Pt.slots] at X208 l208 y208 z208 st208 hQ208
  subst l208 y208 z208
  obtain ⟨rfl, N208q, e208⟩ := hQ208
  have N208 := Fr.app N206 N208q
  have pre209 : oL p e below T208 (mkF m 202 #[oI p1, oI p2, oI p3, oI p4, oI p5, oI b11, oI b17, oI b23, oI b29, oI (p1.toUInt32.toUInt16.toUInt32.toInt32), oR b35, oR b47, oR b64, oR b89, oV cv129, oV cv135, oR b141, oR r180] [ow b47, ow b47]) s₁ (entryFrame m #[(.int p1), (.int p2), (.int p3), (.int p4), (.int p5)] maxLocals) := fun t k => pre207 t (by
    refine st208.trans ?_
    exact k)
  obtain ⟨cq210, kq210, q210a, q210b, q210c⟩ := isOf hZ e208 f188
  obtain ⟨_, _, ⟨T210, L210, k210, n210⟩, -, X210, ⟨Lc210, hQ210, l210, y210, z210⟩, st210⟩ := X208.virtualBack hx (y := (⟨"java/lang/String", "equals", "(Ljava/lang/Object;)Z"⟩ : MethodName)) (z := (⟨"java/lang/String", "equals", "(Ljava/lang/Object;)Z"⟩ : MethodName)) hown (mvT hZ (oW hw 121 rfl)) (mvT hZ (oW hw 122 rfl)) (notFace_of_selects (args := #[]) (mvT hZ (oW hw 124 rfl))) (mvT hZ (oW hw 124 rfl)) (mvT hZ (oW hw 123 rfl)) (by decide) (backOf (W := 0) (rm_eqs l Z a0 hw [] b47 T180.heap n0 OL203 ) hZ (oW hw 125 rfl) (oW hw 3 rfl) (by decide) (by decide)) q210a q210c (g := (mkF m 202 #[oI p1, oI p2, oI p3, oI p4, oI p5, oI b11, oI b17, oI b23, oI b29, oI (p1.toUInt32.toUInt16.toUInt32.toInt32), oR b35, oR b47, oR b64, oR b89, oV cv129, oV cv135, oR b141, oR r180] [ow b47, ow b47])) rfl (by rw [hml]; rfl) (Steps.refl _) (argsL := [(.ref b47)]) (rest := []) (lenOf pd__Ljava_lang_Object__Z rfl) rfl (by show 2 * 0 + _ ≤ _; exact Nat.le_of_eq rfl) (hb hby at_202) (fun _ _ => ⟨rfl, e208, (by decide : 7 + 0 ≤ _), (by decide : 24 + 0 ≤ _)⟩)
  dsimp only [Pt.U, Pt.locs, Pt.cells, Pt.slots] at X210 l210 y210 z210 st210 hQ210
  subst l210 y210 z210
  obtain ⟨rfl, N210q, e210⟩ := hQ210
  have N210 := Fr.app N208 N210q
  have pre211 : oL p e below T210 (mkF m 210 #[oI p1, oI p2, oI p3, oI p4, oI p5, oI b11, oI b17, oI b23, oI b29, oI (p1.toUInt32.toUInt16.toUInt32.toInt32), oR b35, oR b47, oR b64, oR b89, oV cv129, oV cv135, oR b141, oR r180] [ow r180]) s₁ (entryFrame m #[(.int p1), (.int p2), (.int p3), (.int p4), (.int p5)] maxLocals) := fun t k => pre209 t (by
    refine st210.trans ?_
    refine XS.ifNo X210.here hx rfl (hb hby at_205) rfl ((if0 _ _).trans (feq (by decide : ¬ ((1 : Int32) = (0 : Int32)))).1) ?_
    refine XS.aload X210.here hx rfl (hb hby at_208) rfl rfl ?_
    show oS p e below T210 (mkF m 210 #[oI p1, oI p2, oI p3, oI p4, oI p5, oI b11, oI b17, oI b23, oI b29, oI (p1.toUInt32.toUInt16.toUInt32.toInt32), oR b35, oR b47, oR b64, oR b89, oV cv129, oV cv135, oR b141, oR r180] [ow r180]) _
    exact k)
  obtain ⟨cq212, kq212, q212a, q212b, q212c⟩ := isOf hZ e210 Eq180
  obtain ⟨_, _, ⟨T212, L212, k212, n212⟩, -, X212, ⟨Lc212, hQ212, l212, y212, z212⟩, st212⟩ := X210.virtualBack hx (y := (⟨"com/example/vedette/vedette/definition/SubfieldDefinition", "repeatable", "()Z"⟩ : MethodName)) (z := (⟨"com/example/vedette/vedette/definition/SubfieldDefinition", "repeatable", "()Z"⟩ : MethodName)) hown (mvT hZ (oW hw 126 rfl)) (mvT hZ (oW hw 127 rfl)) (notFace_of_selects (args := #[]) (mvT hZ (oW hw 129 rfl))) (mvT hZ (oW hw 129 rfl)) (mvT hZ (oW hw 128 rfl)) (by decide) (backOf (W := 0) (rm_g_repeatable l Z a0 hw [] r180 b11 T180.heap n0 OL203 F2_180 hn11) hZ (oW hw 130 rfl) (oW hw 89 rfl) (by decide) (by decide)) q212a q212c (g := (mkF m 210 #[oI p1, oI p2, oI p3, oI p4, oI p5, oI b11, oI b17, oI b23, oI b29, oI (p1.toUInt32.toUInt16.toUInt32.toInt32), oR b35, oR b47, oR b64, oR b89, oV cv129, oV cv135, oR b141, oR r180] [ow r180])) rfl (by rw [hml]; rfl) (Steps.refl _) (argsL := []) (rest := []) (lenOf pd___Z rfl) rfl (by show 2 * 0 + _ ≤ _; exact Nat.le_of_eq rfl) (hb hby at_210) (fun _ _ => ⟨rfl, e210, (by decide : 7 + 0 ≤ _), (by decide : 24 + 0 ≤ _)⟩)
  dsimp only [Pt.U, Pt.locs, Pt.cells, Pt.slots] at X212 l212 y212 z212 st212 hQ212
  subst l212 y212 z212
  obtain ⟨rfl, N212q, e212⟩ := hQ212
  have N212 := Fr.app N210 N212q
  have pre213 : oL p e below T212 (mkF m 220 #[oI p1, oI p2, oI p3, oI p4, oI p5, oI b11, oI b17, oI b23, oI b29, oI (p1.toUInt32.toUInt16.toUInt32.toInt32), oR b35, oR b47, oR b64, oR b89, oV cv129, oV cv135, oR b141, oR r180] [ow r180]) s₁ (entryFrame m #[(.int p1), (.int p2), (.int p3), (.int p4), (.int p5)] maxLocals) := fun t k => pre211 t (by
    refine st212.trans ?_
    refine XS.iload X212.here hx rfl (hb hby at_213) rfl ?_
    refine XS.icmpNo X212.here hx rfl (hb hby at_215) rfl (teq (rfl : b11 = b11)).2 ?_
    refine XS.aload X212.here hx rfl (hb hby at_218) rfl rfl ?_
    show oS p e below T212 (mkF m 220 #[oI p1, oI p2, oI p3, oI p4, oI p5, oI b11, oI b17, oI b23, oI b29, oI (p1.toUInt32.toUInt16.toUInt32.toInt32), oR b35, oR b47, oR b64, oR b89, oV cv129, oV cv135, oR b141, oR r180] [ow r180]) _
    exact k)
  obtain ⟨cq214, kq214, q214a, q214b, q214c⟩ := isOf hZ e212 Eq180
  obtain ⟨_, _, ⟨T214, L214, k214, n214⟩, -, X214, ⟨Lc214, hQ214, l214, y214, z214⟩, st214⟩ := X212.virtualBack hx (y := (⟨"com/example/vedette/vedette/definition/SubfieldDefinition", "mandatory", "()Z"⟩ : MethodName)) (z := (⟨"com/example/vedette/vedette/definition/SubfieldDefinition", "mandatory", "()Z"⟩ : MethodName)) hown (mvT hZ (oW hw 131 rfl)) (mvT hZ (oW hw 132 rfl)) (notFace_of_selects (args := #[]) (mvT hZ (oW hw 134 rfl))) (mvT hZ (oW hw 134 rfl)) (mvT hZ (oW hw 133 rfl)) (by decide) (backOf (W := 0) (rm_g_mandatory l Z a0 hw [] r180 b17 T180.heap n0 OL203 F3_180 hn17) hZ (oW hw 135 rfl) (oW hw 89 rfl) (by decide) (by decide)) q214a q214c (g := (mkF m 220 #[oI p1, oI p2, oI p3, oI p4, oI p5, oI b11, oI b17, oI b23, oI b29, oI (p1.toUInt32.toUInt16.toUInt32.toInt32), oR b35, oR b47, oR b64, oR b89, oV cv129, oV cv135, oR b141, oR r180] [ow r180])) rfl (by rw [hml]; rfl) (Steps.refl _) (argsL := []) (rest := []) (lenOf pd___Z rfl) rfl (by show 2 * 0 + _ ≤ _; exact Nat.le_of_eq rfl) (hb hby at_220) (fun _ _ => ⟨rfl, e212, (by decide : 7 + 0 ≤ _), (by decide : 24 + 0 ≤ _)⟩)
  dsimp only [Pt.U, Pt.locs, Pt.cells, Pt.slots] at X214 l214 y214 z214 st214 hQ214
  subst l214 y214 z214
  obtain ⟨rfl, N214q, e214⟩ := hQ214
  have N214 := Fr.app N212 N214q
  have pre215 : oL p e below T214 (mkF m 230 #[oI p1, oI p2, oI p3, oI p4, oI p5, oI b11, oI b17, oI b23, oI b29, oI (p1.toUInt32.toUInt16.toUInt32.toInt32), oR b35, oR b47, oR b64, oR b89, oV cv129, oV cv135, oR b141, oR r180] [ow r180]) s₁ (entryFrame m #[(.int p1), (.int p2), (.int p3), (.int p4), (.int p5)] maxLocals) := fun t k => pre213 t (by
    refine st214.trans ?_
    refine XS.iload X214.here hx rfl (hb hby at_223) rfl ?_
    refine XS.icmpNo X214.here hx rfl (hb hby at_225) rfl (teq (rfl : b17 = b17)).2 ?_
    refine XS.aload X214.here hx rfl (hb hby at_228) rfl rfl ?_
    show oS p e below T214 (mkF m 230 #[oI p1, oI p2, oI p3, oI p4, oI p5, oI b11, oI b17, oI b23, oI b29, oI (p1.toUInt32.toUInt16.toUInt32.toInt32), oR b35, oR b47, oR b64, oR b89, oV cv129, oV cv135, oR b141, oR r180] [ow r180]) _
    exact k)
  obtain ⟨cq216, kq216, q216a, q216b, q216c⟩ := isOf hZ e214 Eq180
  obtain ⟨_, _, ⟨T216, L216, k216, n216⟩, -, X216, ⟨Lc216, hQ216, l216, y216, z216⟩, st216⟩ := X214.virtualBack hx (y := (⟨"com/example/vedette/vedette/definition/SubfieldDefinition", "controlValue", "()Lcom/example/vedette/vedette/definition/ControlValueDefinition;"⟩ : MethodName)) (z := (⟨"com/example/vedette/vedette/definition/SubfieldDefinition", "controlValue", "()Lcom/example/vedette/vedette/definition/ControlValueDefinition;"⟩ : MethodName)) hown (mvT hZ (oW hw 136 rfl)) (mvT hZ (oW hw 137 rfl)) (notFace_of_selects (args := #[]) (mvT hZ (oW hw 139 rfl))) (mvT hZ (oW hw 139 rfl)) (mvT hZ (oW hw 138 rfl)) (by decide) (backOf (W := 0) (rm_g_controlValue l Z a0 hw [] r180 cv135 T180.heap n0 OL203 F4_180 hj135) hZ (oW hw 140 rfl) (oW hw 89 rfl) (by decide) (by decide)) q216a q216c (g := (mkF m 230 #[oI p1, oI p2, oI p3, oI p4, oI p5, oI b11, oI b17, oI b23, oI b29, oI (p1.toUInt32.toUInt16.toUInt32.toInt32), oR b35, oR b47, oR b64, oR b89, oV cv129, oV cv135, oR b141, oR r180] [ow r180])) rfl (by rw [hml]; rfl) (Steps.refl _) (argsL := []) (rest := []) (lenOf pd___Lcom_example_vedette_vedette_definition_ControlValueDefinition_ rfl) rfl (by show 2 * 0 + _ ≤ _; exact Nat.le_of_eq rfl) (hb hby at_230) (fun _ _ => ⟨rfl, e214, (by decide : 7 + 0 ≤ _), (by decide : 24 + 0 ≤ _)⟩)
  dsimp only [Pt.U, Pt.locs, Pt.cells, Pt.slots] at X216 l216 y216 z216 st216 hQ216
  subst l216 y216 z216
  obtain ⟨rfl, N216q, e216⟩ := hQ216
  have N216 := Fr.app N214 N216q
  have pre217 : oL p e below T216 (mkF m 240 #[oI p1, oI p2, oI p3, oI p4, oI p5, oI b11, oI b17, oI b23, oI b29, oI (p1.toUInt32.toUInt16.toUInt32.toInt32), oR b35, oR b47, oR b64, oR b89, oV cv129, oV cv135, oR b141, oR r180] [ow b141]) s₁ (entryFrame m #[(.int p1), (.int p2), (.int p3), (.int p4), (.int p5)] maxLocals) := fun t k => pre215 t (by
    refine st216.trans ?_
    refine XS.aload X216.here hx rfl (hb hby at_233) rfl hj135 ?_
    refine Jvm.RoadKit.acmp (g := (mkF m 235 #[oI p1, oI p2, oI p3, oI p4, oI p5, oI b11, oI b17, oI b23, oI b29, oI (p1.toUInt32.toUInt16.toUInt32.toInt32), oR b35, oR b47, oR b64, oR b89, oV cv129, oV cv135, oR b141, oR r180] [cv135, cv135])) X216 hx rfl hj135 hj135 (pc0 := 235) (pc' := 238) (same := true) rfl (hb hby at_235) rfl (decide_eq_true rfl) (by decide) (by decide) ?_
    refine XS.aload X216.here hx rfl (hb hby at_238) rfl rfl ?_
    show oS p e below T216 (mkF m 240 #[oI p1, oI p2, oI p3, oI p4, oI p5, oI b11, oI b17, oI b23, oI b29, oI (p1.toUInt32.toUInt16.toUInt32.toInt32), oR b35, oR b47, oR b64, oR b89, oV cv129, oV cv135, oR b141, oR r180] [ow b141]) _
    exact k)
  obtain ⟨cq218, kq218, q218a, q218b, q218c⟩ := isOf hZ e216 f197
  obtain ⟨_, _, ⟨T218, L218, k218, n218⟩, -, X218, ⟨Lc218, hQ218, l218, y218, z218⟩, st218⟩ := X216.virtualBack hx (y := (⟨"com/example/vedette/vedette/definition/SubfieldDefinition", "controlValue", "()Lcom/example/vedette/vedette/definition/ControlValueDefinition;"⟩ : MethodName)) (z := (⟨"com/example/vedette/vedette/definition/SubfieldDefinition", "controlValue", "()Lcom/example/vedette/vedette/definition/ControlValueDefinition;"⟩ : MethodName)) hown (mvT hZ (oW hw 136 rfl)) (mvT hZ (oW hw 137 rfl)) (notFace_of_selects (args := #[]) (mvT hZ (oW hw 139 rfl))) (mvT hZ (oW hw 139 rfl)) (mvT hZ (oW hw 138 rfl)) (by decide) (backOf (W := 0) (rm_g_controlValue l Z a0 hw [] b141 cv129 T180.heap n0 OL203 f202 hj129) hZ (oW hw 140 rfl) (oW hw 89 rfl) (by decide) (by decide)) q218a q218c (g := (mkF m 240 #[oI p1, oI p2, oI p3, oI p4, oI p5, oI b11, oI b17, oI b23, oI b29, oI (p1.toUInt32.toUInt16.toUInt32.toInt32), oR b35, oR b47, oR b64, oR b89, oV cv129, oV cv135, oR b141, oR r180] [ow b141])) rfl (by rw [hml]; rfl) (Steps.refl _) (argsL := []) (rest := []) (lenOf pd___Lcom_example_vedette_vedette_definition_ControlValueDefinition_ rfl) rfl (by show 2 * 0 + _ ≤ _; exact Nat.le_of_eq rfl) (hb hby at_240) (fun _ _ => ⟨rfl, e216, (by decide : 7 + 0 ≤ _), (by decide : 24 + 0 ≤ _)⟩)
  dsimp only [Pt.U, Pt.locs, Pt.cells, Pt.slots] at X218 l218 y218 z218 st218 hQ218
  subst l218 y218 z218
  obtain ⟨rfl, N218q, e218⟩ := hQ218
  have N218 := Fr.app N216 N218q
  have pre219 : oL p e below T218 (mkF m 253 #[oI p1, oI p2, oI p3, oI p4, oI p5, oI b11, oI b17, oI b23, oI b29, oI (p1.toUInt32.toUInt16.toUInt32.toInt32), oR b35, oR b47, oR b64, oR b89, oV cv129, oV cv135, oR b141, oR r180] [oi 1]) s₁ (entryFrame m #[(.int p1), (.int p2), (.int p3), (.int p4), (.int p5)] maxLocals) := fun t k => pre217 t (by
    refine st218.trans ?_
    refine XS.aload X218.here hx rfl (hb hby at_243) rfl hj129 ?_
    refine Jvm.RoadKit.acmp (g := (mkF m 245 #[oI p1, oI p2, oI p3, oI p4, oI p5, oI b11, oI b17, oI b23, oI b29, oI (p1.toUInt32.toUInt16.toUInt32.toInt32), oR b35, oR b47, oR b64, oR b89, oV cv129, oV cv135, oR b141, oR r180] [cv129, cv129])) X218 hx rfl hj129 hj129 (pc0 := 245) (pc' := 248) (same := true) rfl (hb hby at_245) rfl (decide_eq_true rfl) (by decide) (by decide) ?_
    refine XS.iconst X218.here hx rfl (hb hby at_248) ?_
    show oS p e below T218 (mkF m 249 #[oI p1, oI p2, oI p3, oI p4, oI p5, oI b11, oI b17, oI b23, oI b29, oI (p1.toUInt32.toUInt16.toUInt32.toInt32), oR b35, oR b47, oR b64, oR b89, oV cv129, oV cv135, oR b141, oR r180] [oi 1]) _
    refine XS.goto X218.here hx rfl (pc0 := 249) (pc' := 253) rfl (hb hby at_249) (by decide) (by decide) ?_
    exact k)
  obtain ⟨fs, hr, hrun, hended, hW, hsame⟩ := X218.leave (v := some (.int (1 : Int32))) (fun h => by rw [Bd.returns] at h; cases h)
  refine ⟨_, _, pre219 _ ?_, hrun, hended, _, _, rfl, ?_, ⟨_, rfl⟩, hW, hsame.mono (by decide) (by decide)⟩
  ·
    show oS p e below T218 (mkF m 253 #[oI p1, oI p2, oI p3, oI p4, oI p5, oI b11, oI b17, oI b23, oI b29, oI (p1.toUInt32.toUInt16.toUInt32.toInt32), oR b35, oR b47, oR b64, oR b89, oV cv129, oV cv135, oR b141, oR r180] [oi 1]) _
    exact retN X218 hx (t := .boolean) Bd.returns (by simp) (hb hby at_253) hr
  ·
    show Q_rm0 Z p1 p2 p3 p4 p5 G1 wM h0 n0 _ T218.heap _
    rw [e218]
    exact ⟨rfl, N218⟩
set_option maxRecDepth 65536 in
set_option maxHeartbeats 40000000 in
theorem comes_1 {Post : Tables → Env → Array Value → State → Outcome → State → Prop} (hpost : ∀ tb e args s v u, (limb_1_1.after args s (.returned v) u = true ∧ limb_1_2.after args s (.returned v) u = true ∧ True) → FrameEnd s (.returned v) u (Jvm.fieldLocs frame_1_writes args s ++ Jvm.arrayLocs frame_1_arrays args s ++ Jvm.staticLocs frame_1_statics s) 24 128 → Post tb e args s (.returned v) u) :
    ArmFor flags0 classFile x code maxLocals ret World_1 tables_1 room_1 Calls_1 rest_1 Pre_1 Post := by
  intro l hfl _ _ p e ha hc hk s m args below hf hA hF happ hP
  obtain ⟨hcalls, hrest, hpre⟩ := hP
  obtain ⟨-, -, -, hnamed, -, -, -, hat⟩ := (Spec.applies_iff hf).mp happ
  obtain ⟨hg, hn⟩ := and_e (Cond.before_iff.mp (show (Jvm.Cond.and given_1 narrow_1).before args s = true from hpre))
  obtain ⟨hgl, hgr⟩ := and_e hg
  obtain ⟨hgrl, hgrr⟩ := and_e hgr
  obtain ⟨hgrrl, hgrrr⟩ := and_e hgrr
  obtain ⟨hgrrrl, hgrrrr⟩ := and_e hgrrr
  obtain ⟨hgrrrrl, hgrrrrr⟩ := and_e hgrrrr
  obtain ⟨w0, w1, w2, w3, w4, rfl⟩ : ∃ w0 w1 w2 w3 w4 : Value, args = #[w0, w1, w2, w3, w4] := by
    have hs : args.size = 5 := by simpa [Cond.value, given_1] using hgl
    obtain ⟨L⟩ := args
    match L, hs with
    | [w0, w1, w2, w3, w4], _ => exact ⟨w0, w1, w2, w3, w4, rfl⟩
  have hw := fun d (hd : d ∈ tables_1) => atoms_spec (ws := Jvm.Cond.code x code maxLocals ret :: tables_1) hat d (List.mem_cons_of_mem _ hd)
  have hfit : Fit s := fun {y c} hc i hi => by
    obtain ⟨ha, rfl⟩ := Array.getElem?_eq_some_iff.mp hc
    have q := List.all_eq_true.mp ((Array.all_eq_true_iff_forall_mem.mp hF) _ (Array.getElem_mem ha)) i (List.mem_range.mpr hi)
    simpa [Array.getElem?_eq_getElem hi] using q
  obtain ⟨hsets, hown0⟩ := atoms_of _ (rest_1_c_eq ▸ (show rest_1_c.before _ s = true from hrest))
  have hr0 := Cond.before_iff.mp hown0
  obtain ⟨i0, ei0⟩ := is_v hgrl
  obtain rfl : w0 = (.int i0) := Option.some.inj ei0
  obtain ⟨i1, ei1⟩ := is_v hgrrl
  obtain rfl : w1 = (.int i1) := Option.some.inj ei1
  obtain ⟨i2, ei2⟩ := is_v hgrrrl
  obtain rfl : w2 = (.int i2) := Option.some.inj ei2
  obtain ⟨i3, ei3⟩ := is_v hgrrrrl
  obtain rfl : w3 = (.int i3) := Option.some.inj ei3
  obtain ⟨i4, ei4⟩ := is_v hgrrrrr
  obtain rfl : w4 = (.int i4) := Option.some.inj ei4
  obtain ⟨G1, eG1⟩ := is_v (Cond.before_iff.mp (hsets _ (List.mem_of_getElem? (i := 1) rfl)))
  have O2 : Sta s s.heap "java/lang/String" "COMPACT_STRINGS" "Z" (.int G1) := Sta.start eG1 (Or.inl (hsets _ (List.mem_of_getElem? (i := 0) rfl)))
  have P5 : ¬ (G1 = (0 : Int32)) := gotF (Cond.eq_ints eG1 (Term.int_eval (0))) (not_v (Cond.before_iff.mp (hsets _ (List.mem_of_getElem? (i := 2) rfl))))
  obtain ⟨wM, evM⟩ := exa_v (Cond.before_iff.mp (hsets _ (List.mem_of_getElem? (i := 11) rfl)))
  have eM := Exa.start evM (Cond.before_iff.mp (hsets _ (List.mem_of_getElem? (i := 11) rfl)))
  have sM := Sta.start evM (Or.inl (hsets _ (List.mem_of_getElem? (i := 10) rfl)))
  obtain ⟨n, o, h1, h2, h3, _, L, rfl, ⟨rfl, N⟩, hq⟩ := rm0 l s _ hw tables_1 i0 i1 i2 i3 i4 G1 wM s.heap s.heap.size (Old.start s) O2 P5 sM eM p e ha hc hk s m _ below hf ((Spec.applies_iff_loose hf).mp happ).1 ⟨rfl, State.Warmed39.refl s, rfl⟩ trivial
  refine ⟨n, _, h1, h2, h3, hpost _ _ _ _ _ _ ⟨Cond.after_iff.mpr rfl, Cond.after_iff.mpr (eq_i res_at (Term.int_eval (1)) rfl), trivial⟩ ⟨hq.1, hq.2.1, (hq.2.2.sift fun y hy => Or.inr (N y hy)).mono (by decide) (by decide)⟩⟩
theorem main_1_1 : Claimed_1_1 := comes_1 fun _ _ _ _ _ _ h hF => ⟨h.1, hF⟩
theorem main_1_2 : Claimed_1_2 := comes_1 fun _ _ _ _ _ _ h hF => ⟨h.2.1, hF⟩
end Jvm.Pilot.@@N@@
namespace Jvm.Pilot.@@N@@
open Jvm Jvm.ClassFile Sem Op Lib Jvm.Free Jvm.Stand Jvm.Pilot.@@N@@.Jvm.D
/-! MADE BY PROGRAM (witnessworld.py) out of the Statement's table words and the real class files: 29 classes; the members and pool entries that the words name. The judged class is class 1, her method 1. -/
namespace start1
open Jvm.ClassFile
def u (s : String) : CpInfo := .utf8 (stringToUtf16 s)
/-- a pool by its gaps: so many unusable entries, then the entry; so many at the end -/
def gap : Nat → List CpInfo → List CpInfo
  | 0, r => r
  | n + 1, r => .unusable :: gap n r
def poolList (es : List (Nat × CpInfo)) (last : Nat) : List CpInfo := es.foldr (fun e r => gap e.1 (e.2 :: r)) (gap last [])
def pool (es : List (Nat × CpInfo)) (last : Nat) : Array CpInfo := ⟨poolList es last⟩
def fileOf (pool : Array CpInfo) (this : Nat) (attrs : Array Attribute := #[]) (ms : Array MethodInfo := #[]) (fl : Nat := 33) (sup : Nat := 0) (ifs : Array Nat := #[]) (fds : Array FieldInfo := #[]) : ClassFile where
  minorVersion := 0
  majorVersion := 65
  constantPool := pool
  accessFlags := fl
  thisClass := this
  superClass := sup
  interfaces := ifs
  fields := fds
  methods := ms
  attributes := attrs
def plain (name : String) (sup : Option ClassId) : Class where
  name := name
  kind := .ordinary
  loader := none
  accessFlags := 33
  super := sup
  interfaces := #[]
  cf := none
  fields := #[]
  methods := #[]
  instanceTypes := #[]
  staticTypes := #[]
  resolved := #[]
  callSites := []
  init := .initialized
  statics := none
  mirror := none

def pool0 : Array CpInfo := pool [(5, u "<init>"), (0, u "()V"), (1, .class_ 10), (1, u "java/lang/Object")] 113

def k0c0 : Code := { maxStack := 0, maxLocals := 1, code := object_method_1_code, exceptionTable := #[], attributes := #[] }
def k0m0 : Method := { name := "<init>", desc := "()V", sig := { parameters := [], returnType := none }, accessFlags := 1, code := some k0c0 }
/-- java/lang/Object -/
def k0 : Class := { plain "java/lang/Object" none with
  accessFlags := 33
  interfaces := #[]
  cf := some (fileOf pool0 8 #[] #[{ accessFlags := 1, nameIndex := 5, descriptorIndex := 6, attributes := #[] }] 33 0 #[] #[])
  fields := #[]
  methods := #[k0m0]
  instanceTypes := #[]
  staticTypes := #[]
  resolved := Array.replicate 124 none
  statics := none }

def pool1 : Array CpInfo := pool [(2, .class_ 4), (1, u "java/lang/Object"), (0, u "<init>"), (0, u "()V"), (0, .class_ 8), (0, u "java/lang/String"), (0, .methodref 7 10), (0, .nameAndType 5 11), (0, u "([C)V"), (0, .class_ 13), (0, u "com/example/vedette/vedette/definition/PositionDefinition"), (0, .methodref 12 15), (0, .nameAndType 5 16), (0, u "(Ljava/lang/String;Ljava/lang/String;)V"), (0, .class_ 18), (0, u "com/example/vedette/vedette/definition/ControlValueDefinition"), (0, .methodref 12 20), (0, .nameAndType 21 22), (0, u "labels"), (0, u "()Ljava/util/Map;"), (0, .methodref 24 25), (0, .class_ 26), (0, .nameAndType 27 28), (0, u "com/example/vedette/vedette/definition/SubfieldDefinitionWithControlValuePinLaw"), (0, u "emptyPositions"), (0, u "(Ljava/lang/Object;)Ljava/lang/Object;"), (0, .class_ 30), (0, u "java/util/Map"), (0, .methodref 17 32), (0, .nameAndType 5 33), (0, u "(IILjava/util/Map;)V"), (0, .class_ 35), (0, u "com/example/vedette/vedette/definition/SubfieldDefinition"), (0, .methodref 34 37), (0, .nameAndType 5 38), (0, u "(CLjava/lang/String;ZZLcom/example/vedette/vedette/definition/ControlValueDefinition;)V"), (0, .methodref 34 40), (0, .nameAndType 41 42), (0, u "withControlValue"), (0, u "(Lcom/example/vedette/vedette/definition/ControlValueDefinition;)Lcom/example/vedette/vedette/definition/SubfieldDefinition;"), (0, .methodref 34 44), (0, .nameAndType 45 46), (0, u "code"), (0, u "()C"), (0, .methodref 34 48), (0, .nameAndType 49 50), (0, u "name"), (0, u "()Ljava/lang/String;"), (0, .methodref 7 52), (0, .nameAndType 53 54), (0, u "equals"), (0, u "(Ljava/lang/Object;)Z"), (0, .methodref 34 56), (0, .nameAndType 57 58), (0, u "repeatable"), (0, u "()Z"), (0, .methodref 34 60), (0, .nameAndType 61 58), (0, u "mandatory"), (0, .methodref 34 63), (0, .nameAndType 64 65), (0, u "controlValue"), (0, u "()Lcom/example/vedette/vedette/definition/ControlValueDefinition;"), (2, u "law"), (0, u "(IIIII)Z")] 7

def k1m0 : Method := { name := "<init>", desc := "()V", sig := { parameters := [], returnType := none }, accessFlags := 1, code := none }
def k1c1 : Code := { maxStack := 7, maxLocals := 18, code := code, exceptionTable := #[], attributes := #[] }
def k1m1 : Method := { name := "law", desc := "(IIIII)Z", sig := { parameters := [.int, .int, .int, .int, .int], returnType := some .boolean }, accessFlags := 9, code := some k1c1 }
def k1c2 : Code := { maxStack := 1, maxLocals := 1, code := method_3_code, exceptionTable := #[], attributes := #[] }
def k1m2 : Method := { name := "emptyPositions", desc := "(Ljava/lang/Object;)Ljava/lang/Object;", sig := { parameters := [(.object "java/lang/Object")], returnType := some (.object "java/lang/Object") }, accessFlags := 10, code := some k1c2 }
/-- com/example/vedette/vedette/definition/SubfieldDefinitionWithControlValuePinLaw -/
def k1 : Class := { plain "com/example/vedette/vedette/definition/SubfieldDefinitionWithControlValuePinLaw" (some 0) with
  accessFlags := 49
  interfaces := #[]
  cf := some (fileOf pool1 24 #[] #[{ accessFlags := 1, nameIndex := 5, descriptorIndex := 6, attributes := #[] }, { accessFlags := 9, nameIndex := 68, descriptorIndex := 69, attributes := #[] }, { accessFlags := 10, nameIndex := 27, descriptorIndex := 28, attributes := #[] }] 49 2 #[] #[])
  fields := #[]
  methods := #[k1m0, k1m1, k1m2]
  instanceTypes := #[]
  staticTypes := #[]
  resolved := Array.replicate 77 none
  statics := none }

def pool2 : Array CpInfo := pool [(1, .class_ 2), (0, u "java/io/Serializable"), (0, .class_ 4), (0, u "java/lang/Object")] 2

/-- java/io/Serializable -/
def k2 : Class := { plain "java/io/Serializable" (some 0) with
  accessFlags := 1537
  interfaces := #[]
  cf := some (fileOf pool2 1 #[] #[] 1537 3 #[] #[])
  fields := #[]
  methods := #[]
  instanceTypes := #[]
  staticTypes := #[]
  resolved := Array.replicate 7 none
  statics := none }

def pool3 : Array CpInfo := pool [(1, .class_ 2), (0, u "java/lang/Comparable"), (0, .class_ 4), (0, u "java/lang/Object")] 7

/-- java/lang/Comparable -/
def k3 : Class := { plain "java/lang/Comparable" (some 0) with
  accessFlags := 1537
  interfaces := #[]
  cf := some (fileOf pool3 1 #[] #[] 1537 3 #[] #[])
  fields := #[]
  methods := #[]
  instanceTypes := #[]
  staticTypes := #[]
  resolved := Array.replicate 12 none
  statics := none }

def pool4 : Array CpInfo := pool [(2, .class_ 4), (1, u "java/lang/CharSequence"), (42, .class_ 48), (0, u "java/lang/CharSequence$1CodePointIterator"), (10, .class_ 60), (0, u "java/lang/CharSequence$1CharIterator"), (5, .class_ 67), (0, u "java/lang/Object")] 63

/-- java/lang/CharSequence -/
def k4 : Class := { plain "java/lang/CharSequence" (some 0) with
  accessFlags := 1537
  interfaces := #[]
  cf := some (fileOf pool4 2 #[.nestMembers #[47, 59]] #[] 1537 66 #[] #[])
  fields := #[]
  methods := #[]
  instanceTypes := #[]
  staticTypes := #[]
  resolved := Array.replicate 131 none
  statics := none }

def pool5 : Array CpInfo := pool [(1, .class_ 2), (0, u "java/lang/constant/Constable"), (0, .class_ 4), (0, u "java/lang/Object")] 6

/-- java/lang/constant/Constable -/
def k5 : Class := { plain "java/lang/constant/Constable" (some 0) with
  accessFlags := 1537
  interfaces := #[]
  cf := some (fileOf pool5 1 #[] #[] 1537 3 #[] #[])
  fields := #[]
  methods := #[]
  instanceTypes := #[]
  staticTypes := #[]
  resolved := Array.replicate 11 none
  statics := none }

def pool6 : Array CpInfo := pool [(1, .class_ 2), (0, u "java/lang/constant/ConstantDesc"), (0, .class_ 4), (0, u "java/lang/Object")] 32

/-- java/lang/constant/ConstantDesc -/
def k6 : Class := { plain "java/lang/constant/ConstantDesc" (some 0) with
  accessFlags := 1537
  interfaces := #[]
  cf := some (fileOf pool6 1 #[] #[] 1537 3 #[] #[])
  fields := #[]
  methods := #[]
  instanceTypes := #[]
  staticTypes := #[]
  resolved := Array.replicate 37 none
  statics := none }

def pool7 : Array CpInfo := pool [(1, .methodref 2 3), (0, .class_ 4), (0, .nameAndType 5 6), (0, u "java/lang/Object"), (0, u "<init>"), (0, u "()V"), (2, .fieldref 10 11), (0, .class_ 12), (0, .nameAndType 13 14), (0, u "java/lang/String"), (0, u "value"), (0, u "[B"), (0, .fieldref 10 16), (0, .nameAndType 17 18), (0, u "coder"), (0, u "B"), (2, u "hash"), (0, u "I"), (2, u "hashIsZero"), (0, u "Z"), (0, .methodref 10 28), (0, .nameAndType 5 29), (0, u "([CIILjava/lang/Void;)V"), (8, .fieldref 10 39), (0, .nameAndType 40 26), (0, u "COMPACT_STRINGS"), (1, .class_ 44), (1, u "java/lang/StringUTF16"), (0, u "compress"), (1, .methodref 42 48), (0, .nameAndType 49 50), (0, u "coderFromArrayLen"), (0, u "([BI)B"), (126, .methodref 42 178), (0, .nameAndType 45 179), (0, u "([CII)[B"), (363, u "equals"), (29, u "(Ljava/lang/Object;)Z"), (1, .class_ 576), (0, u "java/lang/CharSequence"), (22, u "CASE_INSENSITIVE_ORDER"), (0, u "Ljava/util/Comparator;"), (409, u "([C)V"), (90, u "serialPersistentFields"), (0, u "[Ljava/io/ObjectStreamField;"), (0, .class_ 1104), (0, u "java/lang/String$CaseInsensitiveComparator"), (1, .class_ 1107), (0, u "java/io/Serializable"), (0, .class_ 1109), (0, u "java/lang/Comparable"), (0, .class_ 1111), (0, u "java/lang/constant/Constable"), (0, .class_ 1113), (0, u "java/lang/constant/ConstantDesc"), (2, u "serialVersionUID"), (0, u "J"), (3, u "REPL"), (0, u "C"), (2, u "LATIN1"), (1, u "UTF16")] 323

def k7m0 : Method := { name := "<init>", desc := "()V", sig := { parameters := [], returnType := none }, accessFlags := 1, code := none }
def k7c1 : Code := { maxStack := 5, maxLocals := 2, code := jdk_42_method_3_code, exceptionTable := #[], attributes := #[] }
def k7m1 : Method := { name := "<init>", desc := "([C)V", sig := { parameters := [(.array .char)], returnType := none }, accessFlags := 1, code := some k7c1 }
def k7c2 : Code := { maxStack := 2, maxLocals := 3, code := jdk_42_method_66_code, exceptionTable := #[], attributes := #[] }
def k7m2 : Method := { name := "equals", desc := "(Ljava/lang/Object;)Z", sig := { parameters := [(.object "java/lang/Object")], returnType := some .boolean }, accessFlags := 1, code := some k7c2 }
def k7c3 : Code := { maxStack := 4, maxLocals := 6, code := jdk_42_method_149_code, exceptionTable := #[], attributes := #[] }
def k7m3 : Method := { name := "<init>", desc := "([CIILjava/lang/Void;)V", sig := { parameters := [(.array .char), .int, .int, (.object "java/lang/Void")], returnType := none }, accessFlags := 2, code := some k7c3 }
/-- java/lang/String -/
def k7 : Class := { plain "java/lang/String" (some 0) with
  accessFlags := 49
  interfaces := #[2, 3, 4, 5, 6]
  cf := some (fileOf pool7 10 #[.nestMembers #[1103]] #[{ accessFlags := 1, nameIndex := 5, descriptorIndex := 6, attributes := #[] }, { accessFlags := 1, nameIndex := 5, descriptorIndex := 1010, attributes := #[] }, { accessFlags := 1, nameIndex := 543, descriptorIndex := 573, attributes := #[] }, { accessFlags := 2, nameIndex := 5, descriptorIndex := 29, attributes := #[] }] 49 2 #[1106, 1108, 575, 1110, 1112] #[{ accessFlags := 18, nameIndex := 13, descriptorIndex := 14, attributes := #[] }, { accessFlags := 18, nameIndex := 17, descriptorIndex := 18, attributes := #[] }, { accessFlags := 2, nameIndex := 21, descriptorIndex := 22, attributes := #[] }, { accessFlags := 2, nameIndex := 25, descriptorIndex := 26, attributes := #[] }, { accessFlags := 26, nameIndex := 1116, descriptorIndex := 1117, attributes := #[] }, { accessFlags := 24, nameIndex := 40, descriptorIndex := 26, attributes := #[] }, { accessFlags := 26, nameIndex := 1101, descriptorIndex := 1102, attributes := #[] }, { accessFlags := 26, nameIndex := 1121, descriptorIndex := 1122, attributes := #[] }, { accessFlags := 25, nameIndex := 599, descriptorIndex := 600, attributes := #[] }, { accessFlags := 24, nameIndex := 1125, descriptorIndex := 18, attributes := #[] }, { accessFlags := 24, nameIndex := 1127, descriptorIndex := 18, attributes := #[] }])
  fields := #[{ name := "value", type := (.array .byte), accessFlags := 18, slot := 0, constantValue := 0 }, { name := "coder", type := .byte, accessFlags := 18, slot := 1, constantValue := 0 }, { name := "hash", type := .int, accessFlags := 2, slot := 2, constantValue := 0 }, { name := "hashIsZero", type := .boolean, accessFlags := 2, slot := 3, constantValue := 0 }, { name := "serialVersionUID", type := .long, accessFlags := 26, slot := 0, constantValue := 0 }, { name := "COMPACT_STRINGS", type := .boolean, accessFlags := 24, slot := 1, constantValue := 0 }, { name := "serialPersistentFields", type := (.array (.object "java/io/ObjectStreamField")), accessFlags := 26, slot := 2, constantValue := 0 }, { name := "REPL", type := .char, accessFlags := 26, slot := 3, constantValue := 0 }, { name := "CASE_INSENSITIVE_ORDER", type := (.object "java/util/Comparator"), accessFlags := 25, slot := 4, constantValue := 0 }, { name := "LATIN1", type := .byte, accessFlags := 24, slot := 5, constantValue := 0 }, { name := "UTF16", type := .byte, accessFlags := 24, slot := 6, constantValue := 0 }]
  methods := #[k7m0, k7m1, k7m2, k7m3]
  instanceTypes := #[(.array .byte), .byte, .int, .boolean]
  staticTypes := #[.long, .boolean, (.array (.object "java/io/ObjectStreamField")), .char, (.object "java/util/Comparator"), .byte, .byte]
  resolved := Array.replicate 1451 none
  statics := some 0 }

def pool8 : Array CpInfo := pool [(6, .class_ 8), (1, u "java/lang/Object"), (0, u "<init>"), (0, u "()V"), (1, .class_ 14), (1, u "java/lang/StringUTF16"), (31, u "$assertionsDisabled"), (0, u "Z"), (13, u "HI_BYTE_SHIFT"), (0, u "I"), (2, u "LO_BYTE_SHIFT"), (49, .methodref 12 116), (0, .nameAndType 117 118), (0, u "compress"), (0, u "([CI[BII)I"), (3, u "([CII)[B"), (138, u "coderFromArrayLen"), (0, u "([BI)B"), (106, .class_ 371), (1, u "java/lang/StringUTF16$LinesSpliterator"), (58, u "MAX_LENGTH"), (196, .class_ 628), (0, u "java/lang/StringUTF16$CodePointsSpliterator"), (0, .class_ 630), (0, u "java/lang/StringUTF16$CharsSpliterator")] 4

def k8m0 : Method := { name := "<init>", desc := "()V", sig := { parameters := [], returnType := none }, accessFlags := 0, code := none }
def k8c1 : Code := { maxStack := 2, maxLocals := 2, code := jdk_52_method_15_code, exceptionTable := #[], attributes := #[] }
def k8m1 : Method := { name := "coderFromArrayLen", desc := "([BI)B", sig := { parameters := [(.array .byte), .int], returnType := some .byte }, accessFlags := 8, code := some k8c1 }
def k8c2 : Code := { maxStack := 5, maxLocals := 6, code := jdk_52_method_16_code, exceptionTable := #[], attributes := #[] }
def k8m2 : Method := { name := "compress", desc := "([CII)[B", sig := { parameters := [(.array .char), .int, .int], returnType := some (.array .byte) }, accessFlags := 9, code := some k8c2 }
def k8c3 : Code := { maxStack := 3, maxLocals := 7, code := jdk_52_method_21_code, exceptionTable := #[], attributes := #[] }
def k8m3 : Method := { name := "compress", desc := "([CI[BII)I", sig := { parameters := [(.array .char), .int, (.array .byte), .int, .int], returnType := some .int }, accessFlags := 9, code := some k8c3 }
/-- java/lang/StringUTF16 -/
def k8 : Class := { plain "java/lang/StringUTF16" (some 0) with
  accessFlags := 48
  interfaces := #[]
  cf := some (fileOf pool8 12 #[.nestMembers #[627, 629, 369]] #[{ accessFlags := 0, nameIndex := 9, descriptorIndex := 10, attributes := #[] }, { accessFlags := 8, nameIndex := 261, descriptorIndex := 262, attributes := #[] }, { accessFlags := 9, nameIndex := 117, descriptorIndex := 122, attributes := #[] }, { accessFlags := 9, nameIndex := 117, descriptorIndex := 118, attributes := #[] }] 48 6 #[] #[{ accessFlags := 26, nameIndex := 61, descriptorIndex := 62, attributes := #[] }, { accessFlags := 26, nameIndex := 65, descriptorIndex := 62, attributes := #[] }, { accessFlags := 24, nameIndex := 430, descriptorIndex := 62, attributes := #[] }, { accessFlags := 4120, nameIndex := 46, descriptorIndex := 47, attributes := #[] }])
  fields := #[{ name := "HI_BYTE_SHIFT", type := .int, accessFlags := 26, slot := 0, constantValue := 0 }, { name := "LO_BYTE_SHIFT", type := .int, accessFlags := 26, slot := 1, constantValue := 0 }, { name := "MAX_LENGTH", type := .int, accessFlags := 24, slot := 2, constantValue := 0 }, { name := "$assertionsDisabled", type := .boolean, accessFlags := 4120, slot := 3, constantValue := 0 }]
  methods := #[k8m0, k8m1, k8m2, k8m3]
  instanceTypes := #[]
  staticTypes := #[.int, .int, .int, .boolean]
  resolved := Array.replicate 635 none
  statics := none }

def pool9 : Array CpInfo := pool [(1, .methodref 2 3), (0, .class_ 4), (0, .nameAndType 5 6), (0, u "java/lang/Object"), (0, u "<init>"), (0, u "()V"), (0, .class_ 8), (0, u "java/lang/Record")] 13

def k9c0 : Code := { maxStack := 1, maxLocals := 1, code := jdk_30_method_1_code, exceptionTable := #[], attributes := #[] }
def k9m0 : Method := { name := "<init>", desc := "()V", sig := { parameters := [], returnType := none }, accessFlags := 4, code := some k9c0 }
/-- java/lang/Record -/
def k9 : Class := { plain "java/lang/Record" (some 0) with
  accessFlags := 1057
  interfaces := #[]
  cf := some (fileOf pool9 7 #[] #[{ accessFlags := 4, nameIndex := 5, descriptorIndex := 6, attributes := #[] }] 1057 2 #[] #[])
  fields := #[]
  methods := #[k9m0]
  instanceTypes := #[]
  staticTypes := #[]
  resolved := Array.replicate 22 none
  statics := none }

def pool10 : Array CpInfo := pool [(1, .methodref 2 3), (0, .class_ 4), (0, .nameAndType 5 6), (0, u "java/lang/Record"), (0, u "<init>"), (0, u "()V"), (0, .interfaceMethodref 8 9), (0, .class_ 10), (0, .nameAndType 11 12), (0, u "java/util/Map"), (0, u "copyOf"), (0, u "(Ljava/util/Map;)Ljava/util/Map;"), (0, .fieldref 14 15), (0, .class_ 16), (0, .nameAndType 17 18), (0, u "com/example/vedette/vedette/definition/PositionDefinition"), (0, u "name"), (0, u "Ljava/lang/String;"), (0, .fieldref 14 20), (0, .nameAndType 21 18), (0, u "values"), (0, .fieldref 14 23), (0, .nameAndType 24 25), (0, u "labels"), (0, u "Ljava/util/Map;"), (0, .interfaceMethodref 8 27), (0, .nameAndType 28 29), (0, u "of"), (0, u "()Ljava/util/Map;"), (0, .methodref 14 31), (0, .nameAndType 5 32), (0, u "(Ljava/lang/String;Ljava/lang/String;Ljava/util/Map;)V"), (82, u "(Ljava/lang/String;Ljava/lang/String;)V")] 56

def k10c0 : Code := { maxStack := 2, maxLocals := 4, code := prog_8_method_1_code, exceptionTable := #[], attributes := #[] }
def k10m0 : Method := { name := "<init>", desc := "(Ljava/lang/String;Ljava/lang/String;Ljava/util/Map;)V", sig := { parameters := [(.object "java/lang/String"), (.object "java/lang/String"), (.object "java/util/Map")], returnType := none }, accessFlags := 1, code := some k10c0 }
def k10c1 : Code := { maxStack := 4, maxLocals := 3, code := prog_8_method_2_code, exceptionTable := #[], attributes := #[] }
def k10m1 : Method := { name := "<init>", desc := "(Ljava/lang/String;Ljava/lang/String;)V", sig := { parameters := [(.object "java/lang/String"), (.object "java/lang/String")], returnType := none }, accessFlags := 1, code := some k10c1 }
def k10c2 : Code := { maxStack := 1, maxLocals := 1, code := prog_8_method_11_code, exceptionTable := #[], attributes := #[] }
def k10m2 : Method := { name := "labels", desc := "()Ljava/util/Map;", sig := { parameters := [], returnType := some (.object "java/util/Map") }, accessFlags := 1, code := some k10c2 }
/-- com/example/vedette/vedette/definition/PositionDefinition -/
def k10 : Class := { plain "com/example/vedette/vedette/definition/PositionDefinition" (some 9) with
  accessFlags := 49
  interfaces := #[]
  cf := some (fileOf pool10 14 #[] #[{ accessFlags := 1, nameIndex := 5, descriptorIndex := 32, attributes := #[] }, { accessFlags := 1, nameIndex := 5, descriptorIndex := 115, attributes := #[] }, { accessFlags := 1, nameIndex := 24, descriptorIndex := 29, attributes := #[] }] 49 2 #[] #[{ accessFlags := 18, nameIndex := 17, descriptorIndex := 18, attributes := #[] }, { accessFlags := 18, nameIndex := 21, descriptorIndex := 18, attributes := #[] }, { accessFlags := 18, nameIndex := 24, descriptorIndex := 25, attributes := #[] }])
  fields := #[{ name := "name", type := (.object "java/lang/String"), accessFlags := 18, slot := 0, constantValue := 0 }, { name := "values", type := (.object "java/lang/String"), accessFlags := 18, slot := 1, constantValue := 0 }, { name := "labels", type := (.object "java/util/Map"), accessFlags := 18, slot := 2, constantValue := 0 }]
  methods := #[k10m0, k10m1, k10m2]
  instanceTypes := #[(.object "java/lang/String"), (.object "java/lang/String"), (.object "java/util/Map")]
  staticTypes := #[]
  resolved := Array.replicate 172 none
  statics := none }

def pool11 : Array CpInfo := pool [(2, .class_ 4), (1, u "java/util/Map"), (31, .class_ 37), (0, u "java/util/Map$Entry"), (43, .fieldref 82 83), (0, .class_ 84), (0, .nameAndType 85 86), (0, u "java/util/ImmutableCollections"), (0, u "EMPTY_MAP"), (0, u "Ljava/util/ImmutableCollections$MapN;"), (6, .class_ 94), (0, u "java/lang/Object"), (6, .class_ 102), (0, u "java/util/ImmutableCollections$AbstractImmutableMap"), (5, u "of"), (0, u "()Ljava/util/Map;"), (140, u "copyOf"), (0, u "(Ljava/util/Map;)Ljava/util/Map;")] 11

def k11c0 : Code := { maxStack := 1, maxLocals := 0, code := jdk_72_method_26_code, exceptionTable := #[], attributes := #[] }
def k11m0 : Method := { name := "of", desc := "()Ljava/util/Map;", sig := { parameters := [], returnType := some (.object "java/util/Map") }, accessFlags := 9, code := some k11c0 }
def k11c1 : Code := { maxStack := 2, maxLocals := 1, code := jdk_72_method_39_code, exceptionTable := #[], attributes := #[] }
def k11m1 : Method := { name := "copyOf", desc := "(Ljava/util/Map;)Ljava/util/Map;", sig := { parameters := [(.object "java/util/Map")], returnType := some (.object "java/util/Map") }, accessFlags := 9, code := some k11c1 }
/-- java/util/Map -/
def k11 : Class := { plain "java/util/Map" (some 0) with
  accessFlags := 1537
  interfaces := #[]
  cf := some (fileOf pool11 2 #[.nestMembers #[36]] #[{ accessFlags := 9, nameIndex := 108, descriptorIndex := 109, attributes := #[] }, { accessFlags := 9, nameIndex := 250, descriptorIndex := 251, attributes := #[] }] 1537 93 #[] #[])
  fields := #[]
  methods := #[k11m0, k11m1]
  instanceTypes := #[]
  staticTypes := #[]
  resolved := Array.replicate 263 none
  statics := none }

def pool12 : Array CpInfo := pool [(2, .class_ 4), (1, u "java/lang/Object"), (0, u "<init>"), (0, u "()V"), (3, .class_ 11), (0, u "java/util/ImmutableCollections$List12"), (0, .class_ 13), (0, u "java/util/ImmutableCollections$ListN"), (3, u "Z"), (29, .class_ 49), (1, u "java/util/ImmutableCollections"), (0, u "$assertionsDisabled"), (5, u "[Ljava/lang/Object;"), (5, u "EMPTY_LIST"), (0, u "Ljava/util/ImmutableCollections$ListN;"), (8, u "EMPTY_LIST_NULLS"), (22, u "SALT32L"), (0, u "J"), (2, u "REVERSE"), (6, u "archivedObjects"), (2, u "EMPTY"), (0, u "Ljava/lang/Object;"), (0, .class_ 112), (0, u "java/util/ImmutableCollections$SetN"), (5, u "EMPTY_SET"), (0, u "Ljava/util/ImmutableCollections$SetN;"), (0, .class_ 121), (0, u "java/util/ImmutableCollections$MapN"), (3, u "EMPTY_MAP"), (0, u "Ljava/util/ImmutableCollections$MapN;"), (4, u "EXPAND_FACTOR"), (0, u "I"), (36, .class_ 170), (0, u "java/util/ImmutableCollections$MapN$MapNIterator"), (0, .class_ 172), (0, u "java/util/ImmutableCollections$MapN$1"), (0, .class_ 174), (0, u "java/util/ImmutableCollections$Map1"), (0, .class_ 176), (0, u "java/util/ImmutableCollections$AbstractImmutableMap"), (0, .class_ 178), (0, u "java/util/ImmutableCollections$SetN$SetNIterator"), (0, .class_ 180), (0, u "java/util/ImmutableCollections$Set12"), (0, .class_ 182), (0, u "java/util/ImmutableCollections$Set12$1"), (0, .class_ 184), (0, u "java/util/ImmutableCollections$AbstractImmutableSet"), (0, .class_ 186), (0, u "java/util/ImmutableCollections$SubList"), (0, .class_ 188), (0, u "java/util/ImmutableCollections$ListItr"), (0, .class_ 190), (0, u "java/util/ImmutableCollections$AbstractImmutableList"), (0, .class_ 192), (0, u "java/util/ImmutableCollections$AbstractImmutableCollection"), (0, .class_ 194), (0, u "java/util/ImmutableCollections$Access"), (0, .class_ 196), (0, u "java/util/ImmutableCollections$Access$1")] 16

def k12m0 : Method := { name := "<init>", desc := "()V", sig := { parameters := [], returnType := none }, accessFlags := 2, code := none }
/-- java/util/ImmutableCollections -/
def k12 : Class := { plain "java/util/ImmutableCollections" (some 0) with
  accessFlags := 32
  interfaces := #[]
  cf := some (fileOf pool12 47 #[.nestMembers #[120, 169, 171, 173, 175, 111, 177, 179, 181, 183, 12, 10, 185, 187, 189, 191, 193, 195]] #[{ accessFlags := 2, nameIndex := 5, descriptorIndex := 6, attributes := #[] }] 32 2 #[] #[{ accessFlags := 26, nameIndex := 95, descriptorIndex := 96, attributes := #[] }, { accessFlags := 26, nameIndex := 99, descriptorIndex := 17, attributes := #[] }, { accessFlags := 10, nameIndex := 106, descriptorIndex := 56, attributes := #[] }, { accessFlags := 26, nameIndex := 109, descriptorIndex := 110, attributes := #[] }, { accessFlags := 24, nameIndex := 62, descriptorIndex := 63, attributes := #[] }, { accessFlags := 24, nameIndex := 72, descriptorIndex := 63, attributes := #[] }, { accessFlags := 24, nameIndex := 118, descriptorIndex := 119, attributes := #[] }, { accessFlags := 24, nameIndex := 125, descriptorIndex := 126, attributes := #[] }, { accessFlags := 24, nameIndex := 131, descriptorIndex := 132, attributes := #[] }, { accessFlags := 4120, nameIndex := 50, descriptorIndex := 17, attributes := #[] }])
  fields := #[{ name := "SALT32L", type := .long, accessFlags := 26, slot := 0, constantValue := 0 }, { name := "REVERSE", type := .boolean, accessFlags := 26, slot := 1, constantValue := 0 }, { name := "archivedObjects", type := (.array (.object "java/lang/Object")), accessFlags := 10, slot := 2, constantValue := 0 }, { name := "EMPTY", type := (.object "java/lang/Object"), accessFlags := 26, slot := 3, constantValue := 0 }, { name := "EMPTY_LIST", type := (.object "java/util/ImmutableCollections$ListN"), accessFlags := 24, slot := 4, constantValue := 0 }, { name := "EMPTY_LIST_NULLS", type := (.object "java/util/ImmutableCollections$ListN"), accessFlags := 24, slot := 5, constantValue := 0 }, { name := "EMPTY_SET", type := (.object "java/util/ImmutableCollections$SetN"), accessFlags := 24, slot := 6, constantValue := 0 }, { name := "EMPTY_MAP", type := (.object "java/util/ImmutableCollections$MapN"), accessFlags := 24, slot := 7, constantValue := 0 }, { name := "EXPAND_FACTOR", type := .int, accessFlags := 24, slot := 8, constantValue := 0 }, { name := "$assertionsDisabled", type := .boolean, accessFlags := 4120, slot := 9, constantValue := 0 }]
  methods := #[k12m0]
  instanceTypes := #[]
  staticTypes := #[.long, .boolean, (.array (.object "java/lang/Object")), (.object "java/lang/Object"), (.object "java/util/ImmutableCollections$ListN"), (.object "java/util/ImmutableCollections$ListN"), (.object "java/util/ImmutableCollections$SetN"), (.object "java/util/ImmutableCollections$MapN"), .int, .boolean]
  resolved := Array.replicate 213 none
  statics := some 1 }

def pool13 : Array CpInfo := pool [(2, .class_ 4), (1, u "java/lang/Object"), (0, u "<init>"), (0, u "()V"), (1, .class_ 10), (1, u "java/util/AbstractMap"), (42, .class_ 54), (0, u "java/util/Map"), (9, u "keySet"), (0, u "Ljava/util/Set;"), (0, .class_ 67), (0, u "java/util/AbstractMap$1"), (5, u "values"), (0, u "Ljava/util/Collection;"), (0, .class_ 76), (0, u "java/util/AbstractMap$2"), (104, .class_ 182), (0, u "java/util/AbstractMap$ViewCollection"), (0, .class_ 184), (0, u "java/util/AbstractMap$SimpleImmutableEntry"), (0, .class_ 186), (0, u "java/util/AbstractMap$SimpleEntry"), (0, .class_ 188), (0, u "java/util/AbstractMap$2$1"), (0, .class_ 190), (0, u "java/util/AbstractMap$1$1")] 5

def k13m0 : Method := { name := "<init>", desc := "()V", sig := { parameters := [], returnType := none }, accessFlags := 4, code := none }
/-- java/util/AbstractMap -/
def k13 : Class := { plain "java/util/AbstractMap" (some 0) with
  accessFlags := 1057
  interfaces := #[11]
  cf := some (fileOf pool13 8 #[.nestMembers #[181, 183, 185, 75, 187, 66, 189]] #[{ accessFlags := 4, nameIndex := 5, descriptorIndex := 6, attributes := #[] }] 1057 2 #[53] #[{ accessFlags := 128, nameIndex := 64, descriptorIndex := 65, attributes := #[] }, { accessFlags := 128, nameIndex := 73, descriptorIndex := 74, attributes := #[] }])
  fields := #[{ name := "keySet", type := (.object "java/util/Set"), accessFlags := 128, slot := 0, constantValue := 0 }, { name := "values", type := (.object "java/util/Collection"), accessFlags := 128, slot := 1, constantValue := 0 }]
  methods := #[k13m0]
  instanceTypes := #[(.object "java/util/Set"), (.object "java/util/Collection")]
  staticTypes := #[]
  resolved := Array.replicate 196 none
  statics := none }

def pool14 : Array CpInfo := pool [(2, .class_ 4), (1, u "java/util/AbstractMap"), (0, u "<init>"), (0, u "()V"), (1, .class_ 10), (1, u "java/util/ImmutableCollections"), (3, .class_ 16), (1, u "java/util/ImmutableCollections$AbstractImmutableMap"), (2, .class_ 20), (0, u "java/io/Serializable")] 66

def k14m0 : Method := { name := "<init>", desc := "()V", sig := { parameters := [], returnType := none }, accessFlags := 0, code := none }
/-- java/util/ImmutableCollections$AbstractImmutableMap -/
def k14 : Class := { plain "java/util/ImmutableCollections$AbstractImmutableMap" (some 13) with
  accessFlags := 1056
  interfaces := #[2]
  cf := some (fileOf pool14 14 #[.nestHost 8] #[{ accessFlags := 0, nameIndex := 5, descriptorIndex := 6, attributes := #[] }] 1056 2 #[19] #[])
  fields := #[]
  methods := #[k14m0]
  instanceTypes := #[(.object "java/util/Set"), (.object "java/util/Collection")]
  staticTypes := #[]
  resolved := Array.replicate 87 none
  statics := none }

def pool15 : Array CpInfo := pool [(1, .class_ 2), (0, u "java/util/ImmutableCollections"), (1, .class_ 6), (1, u "java/util/ImmutableCollections$AbstractImmutableMap"), (10, .class_ 19), (1, u "java/util/ImmutableCollections$MapN"), (0, u "size"), (0, u "I"), (4, u "table"), (0, u "[Ljava/lang/Object;")] 121

/-- java/util/ImmutableCollections$MapN -/
def k15 : Class := { plain "java/util/ImmutableCollections$MapN" (some 14) with
  accessFlags := 48
  interfaces := #[]
  cf := some (fileOf pool15 17 #[.nestHost 1] #[] 48 4 #[] #[{ accessFlags := 16, nameIndex := 26, descriptorIndex := 27, attributes := #[] }, { accessFlags := 16, nameIndex := 20, descriptorIndex := 21, attributes := #[] }])
  fields := #[{ name := "table", type := (.array (.object "java/lang/Object")), accessFlags := 16, slot := 2, constantValue := 0 }, { name := "size", type := .int, accessFlags := 16, slot := 3, constantValue := 0 }]
  methods := #[]
  instanceTypes := #[(.object "java/util/Set"), (.object "java/util/Collection"), (.array (.object "java/lang/Object")), .int]
  staticTypes := #[]
  resolved := Array.replicate 149 none
  statics := none }

def pool16 : Array CpInfo := pool [(1, .methodref 2 3), (0, .class_ 4), (0, .nameAndType 5 6), (0, u "java/lang/Record"), (0, u "<init>"), (0, u "()V"), (0, .interfaceMethodref 8 9), (0, .class_ 10), (0, .nameAndType 11 12), (0, u "java/util/Map"), (0, u "copyOf"), (0, u "(Ljava/util/Map;)Ljava/util/Map;"), (0, .fieldref 14 15), (0, .class_ 16), (0, .nameAndType 17 18), (0, u "com/example/vedette/vedette/definition/ControlValueDefinition"), (0, u "minLength"), (0, u "I"), (0, .fieldref 14 20), (0, .nameAndType 21 18), (0, u "maxLength"), (0, .fieldref 14 23), (0, .nameAndType 24 25), (0, u "positions"), (0, u "Ljava/util/Map;"), (23, u "(IILjava/util/Map;)V")] 49

def k16c0 : Code := { maxStack := 2, maxLocals := 4, code := prog_3_method_1_code, exceptionTable := #[], attributes := #[] }
def k16m0 : Method := { name := "<init>", desc := "(IILjava/util/Map;)V", sig := { parameters := [.int, .int, (.object "java/util/Map")], returnType := none }, accessFlags := 1, code := some k16c0 }
/-- com/example/vedette/vedette/definition/ControlValueDefinition -/
def k16 : Class := { plain "com/example/vedette/vedette/definition/ControlValueDefinition" (some 9) with
  accessFlags := 49
  interfaces := #[]
  cf := some (fileOf pool16 14 #[] #[{ accessFlags := 1, nameIndex := 5, descriptorIndex := 49, attributes := #[] }] 49 2 #[] #[{ accessFlags := 18, nameIndex := 17, descriptorIndex := 18, attributes := #[] }, { accessFlags := 18, nameIndex := 21, descriptorIndex := 18, attributes := #[] }, { accessFlags := 18, nameIndex := 24, descriptorIndex := 25, attributes := #[] }])
  fields := #[{ name := "minLength", type := .int, accessFlags := 18, slot := 0, constantValue := 0 }, { name := "maxLength", type := .int, accessFlags := 18, slot := 1, constantValue := 0 }, { name := "positions", type := (.object "java/util/Map"), accessFlags := 18, slot := 2, constantValue := 0 }]
  methods := #[k16m0]
  instanceTypes := #[.int, .int, (.object "java/util/Map")]
  staticTypes := #[]
  resolved := Array.replicate 99 none
  statics := none }

def pool17 : Array CpInfo := pool [(1, .methodref 2 3), (0, .class_ 4), (0, .nameAndType 5 6), (0, u "java/lang/Record"), (0, u "<init>"), (0, u "()V"), (0, .fieldref 8 9), (0, .class_ 10), (0, .nameAndType 11 12), (0, u "com/example/vedette/vedette/definition/SubfieldDefinition"), (0, u "code"), (0, u "C"), (0, .fieldref 8 14), (0, .nameAndType 15 16), (0, u "name"), (0, u "Ljava/lang/String;"), (0, .fieldref 8 18), (0, .nameAndType 19 20), (0, u "repeatable"), (0, u "Z"), (0, .fieldref 8 22), (0, .nameAndType 23 20), (0, u "mandatory"), (0, .fieldref 8 25), (0, .nameAndType 26 27), (0, u "controlValue"), (0, u "Lcom/example/vedette/vedette/definition/ControlValueDefinition;"), (0, .methodref 8 29), (0, .nameAndType 5 30), (0, u "(CLjava/lang/String;ZZLcom/example/vedette/vedette/definition/ControlValueDefinition;)V"), (16, u "withControlValue"), (0, u "(Lcom/example/vedette/vedette/definition/ControlValueDefinition;)Lcom/example/vedette/vedette/definition/SubfieldDefinition;"), (2, u "()Ljava/lang/String;"), (2, u "()C"), (0, u "()Z"), (0, u "()Lcom/example/vedette/vedette/definition/ControlValueDefinition;")] 24

def k17c0 : Code := { maxStack := 2, maxLocals := 6, code := prog_9_method_2_code, exceptionTable := #[], attributes := #[] }
def k17m0 : Method := { name := "<init>", desc := "(CLjava/lang/String;ZZLcom/example/vedette/vedette/definition/ControlValueDefinition;)V", sig := { parameters := [.char, (.object "java/lang/String"), .boolean, .boolean, (.object "com/example/vedette/vedette/definition/ControlValueDefinition")], returnType := none }, accessFlags := 1, code := some k17c0 }
def k17c1 : Code := { maxStack := 7, maxLocals := 2, code := prog_9_method_3_code, exceptionTable := #[], attributes := #[] }
def k17m1 : Method := { name := "withControlValue", desc := "(Lcom/example/vedette/vedette/definition/ControlValueDefinition;)Lcom/example/vedette/vedette/definition/SubfieldDefinition;", sig := { parameters := [(.object "com/example/vedette/vedette/definition/ControlValueDefinition")], returnType := some (.object "com/example/vedette/vedette/definition/SubfieldDefinition") }, accessFlags := 0, code := some k17c1 }
def k17c2 : Code := { maxStack := 1, maxLocals := 1, code := prog_9_method_8_code, exceptionTable := #[], attributes := #[] }
def k17m2 : Method := { name := "code", desc := "()C", sig := { parameters := [], returnType := some .char }, accessFlags := 1, code := some k17c2 }
def k17c3 : Code := { maxStack := 1, maxLocals := 1, code := prog_9_method_9_code, exceptionTable := #[], attributes := #[] }
def k17m3 : Method := { name := "name", desc := "()Ljava/lang/String;", sig := { parameters := [], returnType := some (.object "java/lang/String") }, accessFlags := 1, code := some k17c3 }
def k17c4 : Code := { maxStack := 1, maxLocals := 1, code := prog_9_method_10_code, exceptionTable := #[], attributes := #[] }
def k17m4 : Method := { name := "repeatable", desc := "()Z", sig := { parameters := [], returnType := some .boolean }, accessFlags := 1, code := some k17c4 }
def k17c5 : Code := { maxStack := 1, maxLocals := 1, code := prog_9_method_11_code, exceptionTable := #[], attributes := #[] }
def k17m5 : Method := { name := "mandatory", desc := "()Z", sig := { parameters := [], returnType := some .boolean }, accessFlags := 1, code := some k17c5 }
def k17c6 : Code := { maxStack := 1, maxLocals := 1, code := prog_9_method_12_code, exceptionTable := #[], attributes := #[] }
def k17m6 : Method := { name := "controlValue", desc := "()Lcom/example/vedette/vedette/definition/ControlValueDefinition;", sig := { parameters := [], returnType := some (.object "com/example/vedette/vedette/definition/ControlValueDefinition") }, accessFlags := 1, code := some k17c6 }
/-- com/example/vedette/vedette/definition/SubfieldDefinition -/
def k17 : Class := { plain "com/example/vedette/vedette/definition/SubfieldDefinition" (some 9) with
  accessFlags := 49
  interfaces := #[]
  cf := some (fileOf pool17 8 #[] #[{ accessFlags := 1, nameIndex := 5, descriptorIndex := 30, attributes := #[] }, { accessFlags := 0, nameIndex := 47, descriptorIndex := 48, attributes := #[] }, { accessFlags := 1, nameIndex := 11, descriptorIndex := 54, attributes := #[] }, { accessFlags := 1, nameIndex := 15, descriptorIndex := 51, attributes := #[] }, { accessFlags := 1, nameIndex := 19, descriptorIndex := 55, attributes := #[] }, { accessFlags := 1, nameIndex := 23, descriptorIndex := 55, attributes := #[] }, { accessFlags := 1, nameIndex := 26, descriptorIndex := 56, attributes := #[] }] 49 2 #[] #[{ accessFlags := 18, nameIndex := 11, descriptorIndex := 12, attributes := #[] }, { accessFlags := 18, nameIndex := 15, descriptorIndex := 16, attributes := #[] }, { accessFlags := 18, nameIndex := 19, descriptorIndex := 20, attributes := #[] }, { accessFlags := 18, nameIndex := 23, descriptorIndex := 20, attributes := #[] }, { accessFlags := 18, nameIndex := 26, descriptorIndex := 27, attributes := #[] }])
  fields := #[{ name := "code", type := .char, accessFlags := 18, slot := 0, constantValue := 0 }, { name := "name", type := (.object "java/lang/String"), accessFlags := 18, slot := 1, constantValue := 0 }, { name := "repeatable", type := .boolean, accessFlags := 18, slot := 2, constantValue := 0 }, { name := "mandatory", type := .boolean, accessFlags := 18, slot := 3, constantValue := 0 }, { name := "controlValue", type := (.object "com/example/vedette/vedette/definition/ControlValueDefinition"), accessFlags := 18, slot := 4, constantValue := 0 }]
  methods := #[k17m0, k17m1, k17m2, k17m3, k17m4, k17m5, k17m6]
  instanceTypes := #[.char, (.object "java/lang/String"), .boolean, .boolean, (.object "com/example/vedette/vedette/definition/ControlValueDefinition")]
  staticTypes := #[]
  resolved := Array.replicate 81 none
  statics := none }

def pool18 : Array CpInfo := pool [(4, .class_ 6), (1, u "java/lang/Object"), (0, u "<init>"), (0, u "()V"), (5, .class_ 16), (1, u "java/lang/StringLatin1"), (104, u "$assertionsDisabled"), (0, u "Z"), (98, .class_ 223), (1, u "java/lang/StringLatin1$LinesSpliterator"), (166, .class_ 391), (0, u "java/lang/StringLatin1$CharsSpliterator")] 3

def k18m0 : Method := { name := "<init>", desc := "()V", sig := { parameters := [], returnType := none }, accessFlags := 0, code := none }
/-- java/lang/StringLatin1 -/
def k18 : Class := { plain "java/lang/StringLatin1" (some 0) with
  accessFlags := 48
  interfaces := #[]
  cf := some (fileOf pool18 14 #[.nestMembers #[390, 221]] #[{ accessFlags := 0, nameIndex := 7, descriptorIndex := 8, attributes := #[] }] 48 4 #[] #[{ accessFlags := 4120, nameIndex := 121, descriptorIndex := 122, attributes := #[] }])
  fields := #[{ name := "$assertionsDisabled", type := .boolean, accessFlags := 4120, slot := 0, constantValue := 0 }]
  methods := #[k18m0]
  instanceTypes := #[]
  staticTypes := #[.boolean]
  resolved := Array.replicate 395 none
  statics := none }

def pool19 : Array CpInfo := pool [(2, .class_ 4), (1, u "java/lang/Object"), (0, u "<init>"), (0, u "()V"), (17, .class_ 26), (1, u "jdk/internal/util/Preconditions"), (28, .class_ 56), (0, u "jdk/internal/util/Preconditions$4"), (57, .class_ 115), (0, u "jdk/internal/util/Preconditions$1"), (7, u "SIOOBE_FORMATTER"), (0, u "Ljava/util/function/BiFunction;"), (0, .class_ 126), (0, u "jdk/internal/util/Preconditions$2"), (3, u "AIOOBE_FORMATTER"), (0, .class_ 132), (0, u "jdk/internal/util/Preconditions$3"), (3, u "IOOBE_FORMATTER")] 57

def k19m0 : Method := { name := "<init>", desc := "()V", sig := { parameters := [], returnType := none }, accessFlags := 1, code := none }
/-- jdk/internal/util/Preconditions -/
def k19 : Class := { plain "jdk/internal/util/Preconditions" (some 0) with
  accessFlags := 33
  interfaces := #[]
  cf := some (fileOf pool19 24 #[.nestMembers #[55, 131, 125, 114]] #[{ accessFlags := 1, nameIndex := 5, descriptorIndex := 6, attributes := #[] }] 33 2 #[] #[{ accessFlags := 25, nameIndex := 123, descriptorIndex := 124, attributes := #[] }, { accessFlags := 25, nameIndex := 130, descriptorIndex := 124, attributes := #[] }, { accessFlags := 25, nameIndex := 136, descriptorIndex := 124, attributes := #[] }])
  fields := #[{ name := "SIOOBE_FORMATTER", type := (.object "java/util/function/BiFunction"), accessFlags := 25, slot := 0, constantValue := 0 }, { name := "AIOOBE_FORMATTER", type := (.object "java/util/function/BiFunction"), accessFlags := 25, slot := 1, constantValue := 0 }, { name := "IOOBE_FORMATTER", type := (.object "java/util/function/BiFunction"), accessFlags := 25, slot := 2, constantValue := 0 }]
  methods := #[k19m0]
  instanceTypes := #[]
  staticTypes := #[(.object "java/util/function/BiFunction"), (.object "java/util/function/BiFunction"), (.object "java/util/function/BiFunction")]
  resolved := Array.replicate 194 none
  statics := some 2 }

def pool20 : Array CpInfo := pool [(9, u "<init>"), (6, .class_ 18), (1, u "java/lang/Object"), (0, u "()V"), (1, .class_ 23), (1, u "jdk/internal/util/ArraysSupport"), (0, u "LOG2_ARRAY_LONG_INDEX_SCALE"), (0, u "I"), (2, u "U"), (0, u "Ljdk/internal/misc/Unsafe;"), (8, u "BIG_ENDIAN"), (0, u "Z"), (8, u "LOG2_BYTE_BIT_SIZE"), (4, u "LOG2_ARRAY_INT_INDEX_SCALE"), (54, u "JLA"), (0, u "Ljdk/internal/access/JavaLangAccess;"), (11, u "LOG2_ARRAY_BOOLEAN_INDEX_SCALE"), (9, u "LOG2_ARRAY_BYTE_INDEX_SCALE"), (5, u "LOG2_ARRAY_CHAR_INDEX_SCALE"), (5, u "LOG2_ARRAY_SHORT_INDEX_SCALE"), (18, u "LOG2_ARRAY_FLOAT_INDEX_SCALE"), (24, u "LOG2_ARRAY_DOUBLE_INDEX_SCALE"), (89, u "T_BOOLEAN"), (2, u "T_CHAR"), (1, u "T_FLOAT"), (1, u "T_DOUBLE"), (1, u "T_BYTE"), (1, u "T_SHORT"), (1, u "T_INT"), (1, u "T_LONG"), (1, u "SOFT_MAX_ARRAY_LENGTH")] 83

def k20m0 : Method := { name := "<init>", desc := "()V", sig := { parameters := [], returnType := none }, accessFlags := 2, code := none }
/-- jdk/internal/util/ArraysSupport -/
def k20 : Class := { plain "jdk/internal/util/ArraysSupport" (some 0) with
  accessFlags := 33
  interfaces := #[]
  cf := some (fileOf pool20 21 #[] #[{ accessFlags := 2, nameIndex := 9, descriptorIndex := 19, attributes := #[] }] 33 16 #[] #[{ accessFlags := 24, nameIndex := 28, descriptorIndex := 29, attributes := #[] }, { accessFlags := 26, nameIndex := 38, descriptorIndex := 39, attributes := #[] }, { accessFlags := 25, nameIndex := 121, descriptorIndex := 25, attributes := #[] }, { accessFlags := 25, nameIndex := 131, descriptorIndex := 25, attributes := #[] }, { accessFlags := 25, nameIndex := 137, descriptorIndex := 25, attributes := #[] }, { accessFlags := 25, nameIndex := 143, descriptorIndex := 25, attributes := #[] }, { accessFlags := 25, nameIndex := 53, descriptorIndex := 25, attributes := #[] }, { accessFlags := 25, nameIndex := 24, descriptorIndex := 25, attributes := #[] }, { accessFlags := 25, nameIndex := 162, descriptorIndex := 25, attributes := #[] }, { accessFlags := 25, nameIndex := 187, descriptorIndex := 25, attributes := #[] }, { accessFlags := 26, nameIndex := 48, descriptorIndex := 25, attributes := #[] }, { accessFlags := 25, nameIndex := 277, descriptorIndex := 25, attributes := #[] }, { accessFlags := 25, nameIndex := 280, descriptorIndex := 25, attributes := #[] }, { accessFlags := 25, nameIndex := 282, descriptorIndex := 25, attributes := #[] }, { accessFlags := 25, nameIndex := 284, descriptorIndex := 25, attributes := #[] }, { accessFlags := 25, nameIndex := 286, descriptorIndex := 25, attributes := #[] }, { accessFlags := 25, nameIndex := 288, descriptorIndex := 25, attributes := #[] }, { accessFlags := 25, nameIndex := 290, descriptorIndex := 25, attributes := #[] }, { accessFlags := 25, nameIndex := 292, descriptorIndex := 25, attributes := #[] }, { accessFlags := 26, nameIndex := 108, descriptorIndex := 109, attributes := #[] }, { accessFlags := 25, nameIndex := 294, descriptorIndex := 25, attributes := #[] }])
  fields := #[{ name := "U", type := (.object "jdk/internal/misc/Unsafe"), accessFlags := 24, slot := 0, constantValue := 0 }, { name := "BIG_ENDIAN", type := .boolean, accessFlags := 26, slot := 1, constantValue := 0 }, { name := "LOG2_ARRAY_BOOLEAN_INDEX_SCALE", type := .int, accessFlags := 25, slot := 2, constantValue := 0 }, { name := "LOG2_ARRAY_BYTE_INDEX_SCALE", type := .int, accessFlags := 25, slot := 3, constantValue := 0 }, { name := "LOG2_ARRAY_CHAR_INDEX_SCALE", type := .int, accessFlags := 25, slot := 4, constantValue := 0 }, { name := "LOG2_ARRAY_SHORT_INDEX_SCALE", type := .int, accessFlags := 25, slot := 5, constantValue := 0 }, { name := "LOG2_ARRAY_INT_INDEX_SCALE", type := .int, accessFlags := 25, slot := 6, constantValue := 0 }, { name := "LOG2_ARRAY_LONG_INDEX_SCALE", type := .int, accessFlags := 25, slot := 7, constantValue := 0 }, { name := "LOG2_ARRAY_FLOAT_INDEX_SCALE", type := .int, accessFlags := 25, slot := 8, constantValue := 0 }, { name := "LOG2_ARRAY_DOUBLE_INDEX_SCALE", type := .int, accessFlags := 25, slot := 9, constantValue := 0 }, { name := "LOG2_BYTE_BIT_SIZE", type := .int, accessFlags := 26, slot := 10, constantValue := 0 }, { name := "T_BOOLEAN", type := .int, accessFlags := 25, slot := 11, constantValue := 0 }, { name := "T_CHAR", type := .int, accessFlags := 25, slot := 12, constantValue := 0 }, { name := "T_FLOAT", type := .int, accessFlags := 25, slot := 13, constantValue := 0 }, { name := "T_DOUBLE", type := .int, accessFlags := 25, slot := 14, constantValue := 0 }, { name := "T_BYTE", type := .int, accessFlags := 25, slot := 15, constantValue := 0 }, { name := "T_SHORT", type := .int, accessFlags := 25, slot := 16, constantValue := 0 }, { name := "T_INT", type := .int, accessFlags := 25, slot := 17, constantValue := 0 }, { name := "T_LONG", type := .int, accessFlags := 25, slot := 18, constantValue := 0 }, { name := "JLA", type := (.object "jdk/internal/access/JavaLangAccess"), accessFlags := 26, slot := 19, constantValue := 0 }, { name := "SOFT_MAX_ARRAY_LENGTH", type := .int, accessFlags := 25, slot := 20, constantValue := 0 }]
  methods := #[k20m0]
  instanceTypes := #[]
  staticTypes := #[(.object "jdk/internal/misc/Unsafe"), .boolean, .int, .int, .int, .int, .int, .int, .int, .int, .int, .int, .int, .int, .int, .int, .int, .int, .int, (.object "jdk/internal/access/JavaLangAccess"), .int]
  resolved := Array.replicate 378 none
  statics := none }

def pool21 : Array CpInfo := pool [(1, u "java/lang/Cloneable"), (0, .class_ 1), (0, u "java/lang/Object"), (0, .class_ 3)] 3

/-- java/lang/Cloneable -/
def k21 : Class := { plain "java/lang/Cloneable" (some 0) with
  accessFlags := 1537
  interfaces := #[]
  cf := some (fileOf pool21 2 #[] #[] 1537 4 #[] #[])
  fields := #[]
  methods := #[]
  instanceTypes := #[]
  staticTypes := #[]
  resolved := Array.replicate 8 none
  statics := none }

/-- the primitive byte -/
def k22 : Class := { plain "byte" none with kind := .primitive 'B', accessFlags := 0x411 }
/-- [B -/
def k23 : Class := { plain "[B" (some 0) with kind := .array 22 .byte, interfaces := #[21, 2], accessFlags := 1041 }

/-- the primitive char -/
def k24 : Class := { plain "char" none with kind := .primitive 'C', accessFlags := 0x411 }
/-- [C -/
def k25 : Class := { plain "[C" (some 0) with kind := .array 24 .char, interfaces := #[21, 2], accessFlags := 1041 }

/-- the primitive int -/
def k26 : Class := { plain "int" none with kind := .primitive 'I', accessFlags := 0x411 }
/-- [I -/
def k27 : Class := { plain "[I" (some 0) with kind := .array 26 .int, interfaces := #[21, 2], accessFlags := 1041 }

/-- [Ljava/lang/Object; -/
def k28 : Class := { plain "[Ljava/lang/Object;" (some 0) with kind := .array 0 (.object "java/lang/Object"), interfaces := #[21, 2], accessFlags := 1041 }

def heap : Heap := #[{ cls := 7, slots := #[.long 0, .int 1, .null, .int 0, .null, .int 0, .int 0], vm := .statics 7 },
  { cls := 12, slots := #[.long 0, .int 0, .null, .null, .null, .null, .null, .ref 4, .int 0, .int 0], vm := .statics 12 },
  { cls := 19, slots := #[.null, .null, .null], vm := .statics 19 },
  { cls := 28, slots := #[], vm := .none },
  { cls := 15, slots := #[.null, .null, .ref 3, .int 0], vm := .none }]
def classes : Array Class := #[k0, k1, k2, k3, k4, k5, k6, k7, k8, k9, k10, k11, k12, k13, k14, k15, k16, k17, k18, k19, k20, k21, k22, k23, k24, k25, k26, k27, k28]
def interned : List (Array UInt16 × Addr) := []
def slotsUsed : Nat := 24
def theMethod : MethodId := ⟨1, 1⟩
def args0 : Array Value := #[.int 65, .int 16961, .int 15, .int 1, .int 9]
def aboutOver (below : List Frame) : State where
  vm := { classes := classes, interned := interned.toArray }
  heap := heap
  slotsUsed := slotsUsed
  threads := #[{ frames := .invoking theMethod args0 :: below }]
def below0 : List Frame := [.native { method := ⟨0, 0⟩, args := #[] }]
def about1 : State := aboutOver below0
def p0 : Program := .bare "" "" ""
def e0 : Env := launch0.env 0 0 0
theorem w_frames : about1.frames = Frame.invoking theMethod args0 :: below0 := rfl
set_option maxRecDepth 65536 in
theorem w_args : argsFit about1.vm theMethod args0 = true := by decide +kernel
set_option maxRecDepth 65536 in
theorem w_heap : heapFits about1 = true := by decide +kernel
set_option maxRecDepth 65536 in
theorem w_runnable : about1.curStatus? = some .runnable := by decide +kernel
set_option maxRecDepth 65536 in
theorem w_alone : about1.alone = true := by decide +kernel
set_option maxRecDepth 65536 in
theorem w_named : about1.methodNamed? x = some theMethod := by decide +kernel
set_option maxRecDepth 65536 in
theorem w_hears : about1.hears theMethod below0 = true := by decide +kernel
set_option maxRecDepth 65536 in
theorem w_ripe : about1.ripe theMethod args0 below0 = true := by decide +kernel
theorem w_running : about1.status = .running := rfl
set_option maxRecDepth 65536 in
theorem w_room : about1.hasRoom e0.platform room_1 = true :=
  launch0.hasRoom_least _ room_1 (by decide +kernel) (by decide +kernel) (by decide +kernel) (by decide +kernel) (by decide +kernel) (by decide +kernel)
theorem allAtoms_all (ts : List Jvm.Cond) (a : Array Jvm.Value) (st : Jvm.State) : (allAtoms ts).before a st = ts.all (fun c => c.before a st) := by
  induction ts with
  | nil => rfl
  | cons c t ih =>
    show (Jvm.Cond.and c (allAtoms t)).before a st = _
    rw [Jvm.Cond.before_and, ih, List.all_cons]
def words1 : List Jvm.Cond := Jvm.Cond.code x code maxLocals ret :: tables_1
/-- a 'code' word, met by the world's own term for the bytes: nothing is compared byte by byte -/
theorem code_word {y : MethodName} {bytes : ByteArray} {mx : Nat} {rt : Option FieldType} {a : Array Value} {s : State} {m : MethodId} {meth : Method} {c : Code} (h1 : s.methodNamed? y = some m) (h2 : s.vm.method? m = some meth) (h3 : meth.code = some c) (h4 : c.code = bytes)
    (h5 : (c.maxLocals == mx && c.exceptionTable.isEmpty && decide (c.maxStack ≤ mostOperands) && decide (meth.sig.returnType = rt) && !meth.locks && decide (parseMethodDescriptor y.desc = some meth.sig)) = true) : (Jvm.Cond.code y bytes mx rt).before a s = true := by
  simp only [Bool.and_eq_true, beq_iff_eq, Bool.not_eq_true', decide_eq_true_eq] at h5
  obtain ⟨⟨⟨⟨⟨g1, g2⟩, g3⟩, g4⟩, g5⟩, g6⟩ := h5
  simp [Cond.before, Cond.holds, Cond.value, h1, h2, h3, h4, g1, g2, g3, g4, g5, g6]
def isCode : Jvm.Cond → Bool
  | .code _ _ _ _ => true
  | _ => false
theorem all_split {L : List Jvm.Cond} {P : Jvm.Cond → Bool} (h1 : L.all (fun c => isCode c || P c) = true) (h2 : ∀ c ∈ L.filter isCode, P c = true) : L.all P = true := by
  refine List.all_eq_true.mpr fun c hc => ?_
  have h := List.all_eq_true.mp h1 c hc
  rcases Bool.eq_false_or_eq_true (isCode c) with hi | hi
  · exact h2 c (List.mem_filter.mpr ⟨hc, hi⟩)
  · simpa [hi] using h
set_option maxRecDepth 65536 in
theorem w_c0 : (Jvm.Cond.code x code maxLocals ret).before args0 about1 = true := code_word (m := ⟨1, 1⟩) (meth := k1m1) (c := k1c1) (by decide +kernel) rfl rfl rfl (by decide +kernel)
set_option maxRecDepth 65536 in
theorem w_c1 : (Jvm.Cond.code ({ cls := "java/lang/String", name := "<init>", desc := "([C)V" } : Jvm.MethodName) jdk_42_method_3_code (2 : Nat) (Option.none : Option Jvm.ClassFile.FieldType)).before args0 about1 = true := code_word (m := ⟨7, 1⟩) (meth := k7m1) (c := k7c1) (by decide +kernel) rfl rfl rfl (by decide +kernel)
set_option maxRecDepth 65536 in
theorem w_c2 : (Jvm.Cond.code ({ cls := "java/lang/String", name := "<init>", desc := "([CIILjava/lang/Void;)V" } : Jvm.MethodName) jdk_42_method_149_code (6 : Nat) (Option.none : Option Jvm.ClassFile.FieldType)).before args0 about1 = true := code_word (m := ⟨7, 3⟩) (meth := k7m3) (c := k7c3) (by decide +kernel) rfl rfl rfl (by decide +kernel)
set_option maxRecDepth 65536 in
theorem w_c3 : (Jvm.Cond.code ({ cls := "java/lang/Object", name := "<init>", desc := "()V" } : Jvm.MethodName) object_method_1_code (1 : Nat) (Option.none : Option Jvm.ClassFile.FieldType)).before args0 about1 = true := code_word (m := ⟨0, 0⟩) (meth := k0m0) (c := k0c0) (by decide +kernel) rfl rfl rfl (by decide +kernel)
set_option maxRecDepth 65536 in
theorem w_c4 : (Jvm.Cond.code ({ cls := "java/lang/StringUTF16", name := "compress", desc := "([CII)[B" } : Jvm.MethodName) jdk_52_method_16_code (6 : Nat) (Option.some (Jvm.ClassFile.FieldType.array Jvm.ClassFile.FieldType.byte))).before args0 about1 = true := code_word (m := ⟨8, 2⟩) (meth := k8m2) (c := k8c2) (by decide +kernel) rfl rfl rfl (by decide +kernel)
set_option maxRecDepth 65536 in
theorem w_c5 : (Jvm.Cond.code ({ cls := "java/lang/StringUTF16", name := "compress", desc := "([CI[BII)I" } : Jvm.MethodName) jdk_52_method_21_code (7 : Nat) (Option.some Jvm.ClassFile.FieldType.int)).before args0 about1 = true := code_word (m := ⟨8, 3⟩) (meth := k8m3) (c := k8c3) (by decide +kernel) rfl rfl rfl (by decide +kernel)
set_option maxRecDepth 65536 in
theorem w_c6 : (Jvm.Cond.code ({ cls := "java/lang/StringUTF16", name := "coderFromArrayLen", desc := "([BI)B" } : Jvm.MethodName) jdk_52_method_15_code (2 : Nat) (Option.some Jvm.ClassFile.FieldType.byte)).before args0 about1 = true := code_word (m := ⟨8, 1⟩) (meth := k8m1) (c := k8c1) (by decide +kernel) rfl rfl rfl (by decide +kernel)
set_option maxRecDepth 65536 in
theorem w_c7 : (Jvm.Cond.code ({ cls := "com/example/vedette/vedette/definition/PositionDefinition", name := "<init>", desc := "(Ljava/lang/String;Ljava/lang/String;)V" } : Jvm.MethodName) prog_8_method_2_code (3 : Nat) (Option.none : Option Jvm.ClassFile.FieldType)).before args0 about1 = true := code_word (m := ⟨10, 1⟩) (meth := k10m1) (c := k10c1) (by decide +kernel) rfl rfl rfl (by decide +kernel)
set_option maxRecDepth 65536 in
theorem w_c8 : (Jvm.Cond.code ({ cls := "java/util/Map", name := "of", desc := "()Ljava/util/Map;" } : Jvm.MethodName) jdk_72_method_26_code (0 : Nat) (Option.some (Jvm.ClassFile.FieldType.object "java/util/Map"))).before args0 about1 = true := code_word (m := ⟨11, 0⟩) (meth := k11m0) (c := k11c0) (by decide +kernel) rfl rfl rfl (by decide +kernel)
set_option maxRecDepth 65536 in
theorem w_c9 : (Jvm.Cond.code ({ cls := "com/example/vedette/vedette/definition/PositionDefinition", name := "<init>", desc := "(Ljava/lang/String;Ljava/lang/String;Ljava/util/Map;)V" } : Jvm.MethodName) prog_8_method_1_code (4 : Nat) (Option.none : Option Jvm.ClassFile.FieldType)).before args0 about1 = true := code_word (m := ⟨10, 0⟩) (meth := k10m0) (c := k10c0) (by decide +kernel) rfl rfl rfl (by decide +kernel)
set_option maxRecDepth 65536 in
theorem w_c10 : (Jvm.Cond.code ({ cls := "java/lang/Record", name := "<init>", desc := "()V" } : Jvm.MethodName) jdk_30_method_1_code (1 : Nat) (Option.none : Option Jvm.ClassFile.FieldType)).before args0 about1 = true := code_word (m := ⟨9, 0⟩) (meth := k9m0) (c := k9c0) (by decide +kernel) rfl rfl rfl (by decide +kernel)
set_option maxRecDepth 65536 in
theorem w_c11 : (Jvm.Cond.code ({ cls := "java/util/Map", name := "copyOf", desc := "(Ljava/util/Map;)Ljava/util/Map;" } : Jvm.MethodName) jdk_72_method_39_code (1 : Nat) (Option.some (Jvm.ClassFile.FieldType.object "java/util/Map"))).before args0 about1 = true := code_word (m := ⟨11, 1⟩) (meth := k11m1) (c := k11c1) (by decide +kernel) rfl rfl rfl (by decide +kernel)
set_option maxRecDepth 65536 in
theorem w_c12 : (Jvm.Cond.code ({ cls := "com/example/vedette/vedette/definition/PositionDefinition", name := "labels", desc := "()Ljava/util/Map;" } : Jvm.MethodName) prog_8_method_11_code (1 : Nat) (Option.some (Jvm.ClassFile.FieldType.object "java/util/Map"))).before args0 about1 = true := code_word (m := ⟨10, 2⟩) (meth := k10m2) (c := k10c2) (by decide +kernel) rfl rfl rfl (by decide +kernel)
set_option maxRecDepth 65536 in
theorem w_c13 : (Jvm.Cond.code ({ cls := "com/example/vedette/vedette/definition/SubfieldDefinitionWithControlValuePinLaw", name := "emptyPositions", desc := "(Ljava/lang/Object;)Ljava/lang/Object;" } : Jvm.MethodName) method_3_code (1 : Nat) (Option.some (Jvm.ClassFile.FieldType.object "java/lang/Object"))).before args0 about1 = true := code_word (m := ⟨1, 2⟩) (meth := k1m2) (c := k1c2) (by decide +kernel) rfl rfl rfl (by decide +kernel)
set_option maxRecDepth 65536 in
theorem w_c14 : (Jvm.Cond.code ({ cls := "com/example/vedette/vedette/definition/ControlValueDefinition", name := "<init>", desc := "(IILjava/util/Map;)V" } : Jvm.MethodName) prog_3_method_1_code (4 : Nat) (Option.none : Option Jvm.ClassFile.FieldType)).before args0 about1 = true := code_word (m := ⟨16, 0⟩) (meth := k16m0) (c := k16c0) (by decide +kernel) rfl rfl rfl (by decide +kernel)
set_option maxRecDepth 65536 in
theorem w_c15 : (Jvm.Cond.code ({ cls := "com/example/vedette/vedette/definition/SubfieldDefinition", name := "<init>", desc := "(CLjava/lang/String;ZZLcom/example/vedette/vedette/definition/ControlValueDefinition;)V" } : Jvm.MethodName) prog_9_method_2_code (6 : Nat) (Option.none : Option Jvm.ClassFile.FieldType)).before args0 about1 = true := code_word (m := ⟨17, 0⟩) (meth := k17m0) (c := k17c0) (by decide +kernel) rfl rfl rfl (by decide +kernel)
set_option maxRecDepth 65536 in
theorem w_c16 : (Jvm.Cond.code ({ cls := "com/example/vedette/vedette/definition/SubfieldDefinition", name := "withControlValue", desc := "(Lcom/example/vedette/vedette/definition/ControlValueDefinition;)Lcom/example/vedette/vedette/definition/SubfieldDefinition;" } : Jvm.MethodName) prog_9_method_3_code (2 : Nat) (Option.some (Jvm.ClassFile.FieldType.object "com/example/vedette/vedette/definition/SubfieldDefinition"))).before args0 about1 = true := code_word (m := ⟨17, 1⟩) (meth := k17m1) (c := k17c1) (by decide +kernel) rfl rfl rfl (by decide +kernel)
set_option maxRecDepth 65536 in
theorem w_c17 : (Jvm.Cond.code ({ cls := "com/example/vedette/vedette/definition/SubfieldDefinition", name := "code", desc := "()C" } : Jvm.MethodName) prog_9_method_8_code (1 : Nat) (Option.some Jvm.ClassFile.FieldType.char)).before args0 about1 = true := code_word (m := ⟨17, 2⟩) (meth := k17m2) (c := k17c2) (by decide +kernel) rfl rfl rfl (by decide +kernel)
set_option maxRecDepth 65536 in
theorem w_c18 : (Jvm.Cond.code ({ cls := "com/example/vedette/vedette/definition/SubfieldDefinition", name := "name", desc := "()Ljava/lang/String;" } : Jvm.MethodName) prog_9_method_9_code (1 : Nat) (Option.some (Jvm.ClassFile.FieldType.object "java/lang/String"))).before args0 about1 = true := code_word (m := ⟨17, 3⟩) (meth := k17m3) (c := k17c3) (by decide +kernel) rfl rfl rfl (by decide +kernel)
set_option maxRecDepth 65536 in
theorem w_c19 : (Jvm.Cond.code ({ cls := "java/lang/String", name := "equals", desc := "(Ljava/lang/Object;)Z" } : Jvm.MethodName) jdk_42_method_66_code (3 : Nat) (Option.some Jvm.ClassFile.FieldType.boolean)).before args0 about1 = true := code_word (m := ⟨7, 2⟩) (meth := k7m2) (c := k7c2) (by decide +kernel) rfl rfl rfl (by decide +kernel)
set_option maxRecDepth 65536 in
theorem w_c20 : (Jvm.Cond.code ({ cls := "com/example/vedette/vedette/definition/SubfieldDefinition", name := "repeatable", desc := "()Z" } : Jvm.MethodName) prog_9_method_10_code (1 : Nat) (Option.some Jvm.ClassFile.FieldType.boolean)).before args0 about1 = true := code_word (m := ⟨17, 4⟩) (meth := k17m4) (c := k17c4) (by decide +kernel) rfl rfl rfl (by decide +kernel)
set_option maxRecDepth 65536 in
theorem w_c21 : (Jvm.Cond.code ({ cls := "com/example/vedette/vedette/definition/SubfieldDefinition", name := "mandatory", desc := "()Z" } : Jvm.MethodName) prog_9_method_11_code (1 : Nat) (Option.some Jvm.ClassFile.FieldType.boolean)).before args0 about1 = true := code_word (m := ⟨17, 5⟩) (meth := k17m5) (c := k17c5) (by decide +kernel) rfl rfl rfl (by decide +kernel)
set_option maxRecDepth 65536 in
theorem w_c22 : (Jvm.Cond.code ({ cls := "com/example/vedette/vedette/definition/SubfieldDefinition", name := "controlValue", desc := "()Lcom/example/vedette/vedette/definition/ControlValueDefinition;" } : Jvm.MethodName) prog_9_method_12_code (1 : Nat) (Option.some (Jvm.ClassFile.FieldType.object "com/example/vedette/vedette/definition/ControlValueDefinition"))).before args0 about1 = true := code_word (m := ⟨17, 6⟩) (meth := k17m6) (c := k17c6) (by decide +kernel) rfl rfl rfl (by decide +kernel)
def codes1 : List Jvm.Cond := [Jvm.Cond.code x code maxLocals ret, Jvm.Cond.code ({ cls := "java/lang/String", name := "<init>", desc := "([C)V" } : Jvm.MethodName) jdk_42_method_3_code (2 : Nat) (Option.none : Option Jvm.ClassFile.FieldType), Jvm.Cond.code ({ cls := "java/lang/String", name := "<init>", desc := "([CIILjava/lang/Void;)V" } : Jvm.MethodName) jdk_42_method_149_code (6 : Nat) (Option.none : Option Jvm.ClassFile.FieldType), Jvm.Cond.code ({ cls := "java/lang/Object", name := "<init>", desc := "()V" } : Jvm.MethodName) object_method_1_code (1 : Nat) (Option.none : Option Jvm.ClassFile.FieldType), Jvm.Cond.code ({ cls := "java/lang/StringUTF16", name := "compress", desc := "([CII)[B" } : Jvm.MethodName) jdk_52_method_16_code (6 : Nat) (Option.some (Jvm.ClassFile.FieldType.array Jvm.ClassFile.FieldType.byte)), Jvm.Cond.code ({ cls := "java/lang/StringUTF16", name := "compress", desc := "([CI[BII)I" } : Jvm.MethodName) jdk_52_method_21_code (7 : Nat) (Option.some Jvm.ClassFile.FieldType.int), Jvm.Cond.code ({ cls := "java/lang/StringUTF16", name := "coderFromArrayLen", desc := "([BI)B" } : Jvm.MethodName) jdk_52_method_15_code (2 : Nat) (Option.some Jvm.ClassFile.FieldType.byte), Jvm.Cond.code ({ cls := "com/example/vedette/vedette/definition/PositionDefinition", name := "<init>", desc := "(Ljava/lang/String;Ljava/lang/String;)V" } : Jvm.MethodName) prog_8_method_2_code (3 : Nat) (Option.none : Option Jvm.ClassFile.FieldType), Jvm.Cond.code ({ cls := "java/util/Map", name := "of", desc := "()Ljava/util/Map;" } : Jvm.MethodName) jdk_72_method_26_code (0 : Nat) (Option.some (Jvm.ClassFile.FieldType.object "java/util/Map")), Jvm.Cond.code ({ cls := "com/example/vedette/vedette/definition/PositionDefinition", name := "<init>", desc := "(Ljava/lang/String;Ljava/lang/String;Ljava/util/Map;)V" } : Jvm.MethodName) prog_8_method_1_code (4 : Nat) (Option.none : Option Jvm.ClassFile.FieldType), Jvm.Cond.code ({ cls := "java/lang/Record", name := "<init>", desc := "()V" } : Jvm.MethodName) jdk_30_method_1_code (1 : Nat) (Option.none : Option Jvm.ClassFile.FieldType), Jvm.Cond.code ({ cls := "java/util/Map", name := "copyOf", desc := "(Ljava/util/Map;)Ljava/util/Map;" } : Jvm.MethodName) jdk_72_method_39_code (1 : Nat) (Option.some (Jvm.ClassFile.FieldType.object "java/util/Map")), Jvm.Cond.code ({ cls := "com/example/vedette/vedette/definition/PositionDefinition", name := "labels", desc := "()Ljava/util/Map;" } : Jvm.MethodName) prog_8_method_11_code (1 : Nat) (Option.some (Jvm.ClassFile.FieldType.object "java/util/Map")), Jvm.Cond.code ({ cls := "com/example/vedette/vedette/definition/SubfieldDefinitionWithControlValuePinLaw", name := "emptyPositions", desc := "(Ljava/lang/Object;)Ljava/lang/Object;" } : Jvm.MethodName) method_3_code (1 : Nat) (Option.some (Jvm.ClassFile.FieldType.object "java/lang/Object")), Jvm.Cond.code ({ cls := "com/example/vedette/vedette/definition/ControlValueDefinition", name := "<init>", desc := "(IILjava/util/Map;)V" } : Jvm.MethodName) prog_3_method_1_code (4 : Nat) (Option.none : Option Jvm.ClassFile.FieldType), Jvm.Cond.code ({ cls := "com/example/vedette/vedette/definition/SubfieldDefinition", name := "<init>", desc := "(CLjava/lang/String;ZZLcom/example/vedette/vedette/definition/ControlValueDefinition;)V" } : Jvm.MethodName) prog_9_method_2_code (6 : Nat) (Option.none : Option Jvm.ClassFile.FieldType), Jvm.Cond.code ({ cls := "com/example/vedette/vedette/definition/SubfieldDefinition", name := "withControlValue", desc := "(Lcom/example/vedette/vedette/definition/ControlValueDefinition;)Lcom/example/vedette/vedette/definition/SubfieldDefinition;" } : Jvm.MethodName) prog_9_method_3_code (2 : Nat) (Option.some (Jvm.ClassFile.FieldType.object "com/example/vedette/vedette/definition/SubfieldDefinition")), Jvm.Cond.code ({ cls := "com/example/vedette/vedette/definition/SubfieldDefinition", name := "code", desc := "()C" } : Jvm.MethodName) prog_9_method_8_code (1 : Nat) (Option.some Jvm.ClassFile.FieldType.char), Jvm.Cond.code ({ cls := "com/example/vedette/vedette/definition/SubfieldDefinition", name := "name", desc := "()Ljava/lang/String;" } : Jvm.MethodName) prog_9_method_9_code (1 : Nat) (Option.some (Jvm.ClassFile.FieldType.object "java/lang/String")), Jvm.Cond.code ({ cls := "java/lang/String", name := "equals", desc := "(Ljava/lang/Object;)Z" } : Jvm.MethodName) jdk_42_method_66_code (3 : Nat) (Option.some Jvm.ClassFile.FieldType.boolean), Jvm.Cond.code ({ cls := "com/example/vedette/vedette/definition/SubfieldDefinition", name := "repeatable", desc := "()Z" } : Jvm.MethodName) prog_9_method_10_code (1 : Nat) (Option.some Jvm.ClassFile.FieldType.boolean), Jvm.Cond.code ({ cls := "com/example/vedette/vedette/definition/SubfieldDefinition", name := "mandatory", desc := "()Z" } : Jvm.MethodName) prog_9_method_11_code (1 : Nat) (Option.some Jvm.ClassFile.FieldType.boolean), Jvm.Cond.code ({ cls := "com/example/vedette/vedette/definition/SubfieldDefinition", name := "controlValue", desc := "()Lcom/example/vedette/vedette/definition/ControlValueDefinition;" } : Jvm.MethodName) prog_9_method_12_code (1 : Nat) (Option.some (Jvm.ClassFile.FieldType.object "com/example/vedette/vedette/definition/ControlValueDefinition"))]
set_option maxRecDepth 65536 in
theorem codes_eq : words1.filter isCode = codes1 := rfl
theorem w_codes : ∀ c ∈ words1.filter isCode, c.before args0 about1 = true := by
  rw [codes_eq]
  intro c hc
  simp only [codes1, List.mem_cons, List.not_mem_nil, or_false] at hc
  rcases hc with rfl | rfl | rfl | rfl | rfl | rfl | rfl | rfl | rfl | rfl | rfl | rfl | rfl | rfl | rfl | rfl | rfl | rfl | rfl | rfl | rfl | rfl | rfl
  · exact w_c0
  · exact w_c1
  · exact w_c2
  · exact w_c3
  · exact w_c4
  · exact w_c5
  · exact w_c6
  · exact w_c7
  · exact w_c8
  · exact w_c9
  · exact w_c10
  · exact w_c11
  · exact w_c12
  · exact w_c13
  · exact w_c14
  · exact w_c15
  · exact w_c16
  · exact w_c17
  · exact w_c18
  · exact w_c19
  · exact w_c20
  · exact w_c21
  · exact w_c22
set_option maxRecDepth 65536 in
theorem w_t1 : (words1.take 24).all (fun c => isCode c || c.before args0 about1) = true := by decide +kernel
set_option maxRecDepth 65536 in
theorem w_t2 : ((words1.drop 24).take 24).all (fun c => isCode c || c.before args0 about1) = true := by decide +kernel
set_option maxRecDepth 65536 in
theorem w_t3 : (((words1.drop 24).drop 24).take 24).all (fun c => isCode c || c.before args0 about1) = true := by decide +kernel
set_option maxRecDepth 65536 in
theorem w_t4 : ((((words1.drop 24).drop 24).drop 24).take 24).all (fun c => isCode c || c.before args0 about1) = true := by decide +kernel
set_option maxRecDepth 65536 in
theorem w_t5 : (((((words1.drop 24).drop 24).drop 24).drop 24).take 24).all (fun c => isCode c || c.before args0 about1) = true := by decide +kernel
set_option maxRecDepth 65536 in
theorem w_t6 : (((((words1.drop 24).drop 24).drop 24).drop 24).drop 24).all (fun c => isCode c || c.before args0 about1) = true := by decide +kernel
theorem w_tables : (allAtoms (Jvm.Cond.code x code maxLocals ret :: tables_1)).before args0 about1 = true := by
  rw [allAtoms_all]
  show words1.all (fun c => c.before args0 about1) = true
  refine all_split ?_ w_codes
  rw [← List.take_append_drop 24 words1, List.all_append, w_t1, ← List.take_append_drop 24 (words1.drop 24), List.all_append, w_t2, ← List.take_append_drop 24 ((words1.drop 24).drop 24), List.all_append, w_t3, ← List.take_append_drop 24 (((words1.drop 24).drop 24).drop 24), List.all_append, w_t4, ← List.take_append_drop 24 ((((words1.drop 24).drop 24).drop 24).drop 24), List.all_append, w_t5, w_t6]
  rfl
set_option maxRecDepth 65536 in
theorem w_rest : rest_1_c.before args0 about1 = true := by decide +kernel
set_option maxRecDepth 65536 in
theorem w_case : (Jvm.Cond.and given_1 narrow_1).before args0 about1 = true := by decide +kernel
theorem w_applies : (headSpec (Jvm.Cond.code x code maxLocals ret :: tables_1) room_1).applies x e0.platform about1 = true :=
  (Spec.applies_iff w_frames).mpr ⟨w_running, w_runnable, w_alone, w_named, w_hears, w_ripe, w_room, w_tables⟩
theorem atStart : AtStart classFile x code maxLocals ret World_1 tables_1 room_1 Calls_1 rest_1 Pre_1 launch0 p0 e0 about1 theMethod args0 below0 :=
  ⟨lists_1, trivial, launch0.admits_env _ _ _, launch0.least_env, fairChoices_fair.cas, fairChoices_fair.clock, w_frames, w_args, w_heap, w_applies, trivial, w_rest, w_case⟩
end start1
theorem witness_1 : WitnessClaimed_1 := ⟨start1.p0, start1.e0, start1.about1, start1.theMethod, start1.args0, start1.below0, start1.atStart⟩
end Jvm.Pilot.@@N@@
