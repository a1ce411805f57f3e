import JvmDerived
import JvmDerived.Pilot.@@N@@Statement
import JvmDerived.Pilot.@@N@@Code
set_option linter.unusedVariables false
set_option linter.unusedSimpArgs false
@@BLOCK:NumsL.lean.txt@@
namespace Jvm.RoadKit
open Sem ClassFile Op Lib Jvm.Stand Jvm.Free Jvm.LawKit
section New
variable {p : Program} {l : Launch} {e : Env} {R : Room} {s : State} {m : MethodId} {args : Array Value} {below : List Frame} {meth : Method} {c : Code} {T : State} {locs : List Loc} {cells slots : Nat}
theorem retI (X : Stand p l e R s m args below meth c T locs cells slots) (hx : p.tables.exec = Jvm.exec) {pc : Nat} {Ls : Array Slot} {z : Int32} {rest : List Value} (hret : meth.sig.returnType = some .int) (hd : decode c.code pc = .ok (.ireturn, 1)) {fs : List Frame}
    (hl : ∀ (f : JFrame) (acts : List Action), f.method = m → f.locked = none → f.entered = [] → (doReturn e (T.setTop f) acts (some (.int z))).1 = T.setFrames fs) : Steps p.tables e below (T.setTop (mkF m pc Ls (.int z :: rest))) (T.setFrames fs) := by
  have hm' : T.vm.method? m = some meth := X.method'
  have hn : narrow .int (.int z) = .int z := rfl
  show Steps p.tables e below (T.setTop { method := m, pc := pc, locals := Ls, stack := _ :: rest, locked := none }) _
  jvm_step X.here [X.here.top, hx, hd, hm', hret, hn]
  first | (intro acts; rw [hl _ acts rfl rfl rfl]) | rw [hl _ _ rfl rfl rfl]
  exact Steps.refl _
end New
end Jvm.RoadKit
/- laws to paste: Road.backV (cut by pick.py; bodies as the Statement names them) -/
namespace Jvm.Pilot.@@N@@
namespace StrChars
open Jvm Sem ClassFile Op Lib Jvm.Stand Jvm.Free.XT Jvm.Free.ALB Jvm.Free.JM Jvm.Free
open Jvm.Lib.Cold (StaticIs)
/-- a char array whose places are chars -/
def Ch (a : Addr) (A : Cell) (U : State) : Prop := Arr .char a A U ∧ Typed .char A
theorem Ch.mv {a : Addr} {A : Cell} {U U' : State} (h : Ch a A U) (hal : U.vm.Alike U'.vm) (hh : U'.heap = U.heap) : Ch a A U' := ⟨h.1.mv hal hh, h.2⟩
theorem Ch.keep {a : Addr} {A : Cell} {U U' : State} (h : Ch a A U) (hal : U.vm.Alike U'.vm) (hk : U'.heap[a]? = some A) : Ch a A U' := ⟨h.1.keep hal hk, h.2⟩
/-- what place i of a char[]'s cell holds -/
def cv (A : Cell) (i : Nat) : Int32 := match A.slots[i]? with | some (.int x) => x | _ => 0
theorem Ch.get {a : Addr} {A : Cell} {U : State} (h : Ch a A U) {i : Nat} (hi : i < A.slots.size) : A.slots[i]? = some (.int (cv A i)) := by
  have e := Array.getElem?_eq_getElem hi
  have f := h.2 i _ e
  unfold cv; rw [e]
  generalize A.slots[i] = v at f
  cases v <;> simp [fits] at f ⊢
/-- the byte that i2b leaves of a char -/
def lo8 (x : Int32) : Int32 := x.toInt8.toInt32
theorem fits_lo8 (y : Int32) : fits .byte (.int (lo8 y)) = true := by
  have h1 := y.toInt8.le_toInt
  have h2 := y.toInt8.toInt_lt
  simp only [lo8, fits, Bool.and_eq_true, decide_eq_true_eq, Int32.le_iff_toInt_le, Int8.toInt_toInt32, show (-128 : Int32).toInt = -128 from by decide, show (127 : Int32).toInt = 127 from by decide]
  omega
/-- A' is A but that each place j of lo .. hi - 1 holds f j -/
def Laid (A A' : Cell) (lo hi : Nat) (f : Nat → Value) : Prop := A'.cls = A.cls ∧ A'.vm = A.vm ∧ A'.slots.size = A.slots.size ∧ ∀ i, A'.slots[i]? = if lo ≤ i ∧ i < hi then some (f i) else A.slots[i]?
theorem Laid.zero (A : Cell) (lo : Nat) (f : Nat → Value) : Laid A A lo (lo + 0) f := ⟨rfl, rfl, rfl, fun i => by rw [if_neg (by omega)]⟩
theorem Laid.step {A Ak : Cell} {lo k : Nat} {f : Nat → Value} {v : Value} (h : Laid A Ak lo k f) (hlo : lo ≤ k) (hk : k < Ak.slots.size) (hv : v = f k) : Laid A (Ak.setSlot k v) lo (k + 1) f := by
  refine ⟨h.1, h.2.1, by simpa [Cell.setSlot] using h.2.2.1, fun i => ?_⟩
  by_cases e : k = i
  · subst e; rw [Cell.slots_setSlot_self v hk, if_pos (by omega), hv]
  · rw [Cell.slots_setSlot_ne v e, h.2.2.2 i]
    by_cases q : lo ≤ i ∧ i < k
    · rw [if_pos q, if_pos (by omega)]
    · rw [if_neg q, if_neg (by omega)]
def U16 : String := "java/lang/StringUTF16"
namespace Cmp5
def yN : MethodName := ⟨"java/lang/StringUTF16", "compress", "([CI[BII)I"⟩
abbrev yB : ByteArray := jdk_52_method_21_code
theorem d0 : decode yB 0 = .ok (.iconst 0, 1) := by decide +kernel
theorem d1 : decode yB 1 = .ok (.istore 5, 2) := by decide +kernel
theorem d3 : decode yB 3 = .ok (.iload 5, 2) := by decide +kernel
theorem d5 : decode yB 5 = .ok (.iload 4, 2) := by decide +kernel
theorem d7 : decode yB 7 = .ok (.if_icmp (.ge) 37, 3) := by decide +kernel
theorem d10 : decode yB 10 = .ok (.aload_n 0, 1) := by decide +kernel
theorem d11 : decode yB 11 = .ok (.iload_n 1, 1) := by decide +kernel
theorem d12 : decode yB 12 = .ok (.caload, 1) := by decide +kernel
theorem d13 : decode yB 13 = .ok (.istore 6, 2) := by decide +kernel
theorem d15 : decode yB 15 = .ok (.iload 6, 2) := by decide +kernel
theorem d17 : decode yB 17 = .ok (.sipush 255, 3) := by decide +kernel
theorem d20 : decode yB 20 = .ok (.if_icmp (.le) 6, 3) := by decide +kernel
theorem d26 : decode yB 26 = .ok (.aload_n 2, 1) := by decide +kernel
theorem d27 : decode yB 27 = .ok (.iload_n 3, 1) := by decide +kernel
theorem d28 : decode yB 28 = .ok (.iload 6, 2) := by decide +kernel
theorem d30 : decode yB 30 = .ok (.i2b, 1) := by decide +kernel
theorem d31 : decode yB 31 = .ok (.bastore, 1) := by decide +kernel
theorem d32 : decode yB 32 = .ok (.iinc 1 1, 3) := by decide +kernel
theorem d35 : decode yB 35 = .ok (.iinc 3 1, 3) := by decide +kernel
theorem d38 : decode yB 38 = .ok (.iinc 5 1, 3) := by decide +kernel
theorem d41 : decode yB 41 = .ok (.goto (-38), 3) := by decide +kernel
theorem d44 : decode yB 44 = .ok (.iload 4, 2) := by decide +kernel
theorem d46 : decode yB 46 = .ok (.ireturn, 1) := by decide +kernel
def site : List Cond := []
def tab : Cond := tabOf yN yB 7 (some .int) site
def P (b : Addr) (A : Cell) (d : Addr) (B : Cell) (o q len : Nat) (args : Array Value) (s : State) : Prop := args = #[.ref b, .int (Int32.ofNat o), .ref d, .int (Int32.ofNat q), .int (Int32.ofNat len)] ∧ Ch b A s ∧ Arr .byte d B s ∧ b ≠ d ∧ o + len ≤ A.slots.size ∧ q + len ≤ B.slots.size ∧ ∀ i, i < len → ¬ 255 < cv A (o + i)
def E (b : Addr) (A : Cell) (d : Addr) (B : Cell) (o q len : Nat) (r : Option Value) (s u : State) : Prop := r = some (.int (Int32.ofNat len)) ∧ ∃ B', Put d B' s u ∧ Laid B B' q (q + len) (fun j => Value.int (lo8 (cv A (o + (j - q)))))
/-- no char of the range above 255: len; the places written hold each char's low byte -/
theorem law (l : Launch) (b : Addr) (A : Cell) (d : Addr) (B : Cell) (o q len : Nat) : Law l yN 5 5 0 0 yB 7 (some .int) site (P b A d B o q len) (E b A d B o q len) (copyLocs d q len) 0 0 := by
  refine Law.of_walk (plainFor_of_name (by decide +kernel)) (by decide +kernel) (by decide +kernel) (by decide) (fun _ _ h => by rw [h.1]; rfl) (fun _ U U' hal hh h => ⟨h.1, h.2.1.mv hal hh, h.2.2.1.mv hal hh, h.2.2.2⟩) (fun r U U' V V' h1 hal h2 h => ⟨h.1, h.2.elim fun B' q => ⟨B', q.1.mv h1 h2, q.2⟩⟩) ?_
  intro p e s m args below meth c s₁ X0 hexec hbytes hml hret hlk hnm hown hh0 W hP
  obtain ⟨rfl, hA, hB, hne, l1, l2, hp⟩ := hP
  have c1 : Steps p.tables e below (s₁.setTop (entryFrame m #[.ref b, .int (Int32.ofNat o), .ref d, .int (Int32.ofNat q), .int (Int32.ofNat len)] 7)) (s₁.setTop (mkF m 0 #[.val (.ref b), .val (.int (Int32.ofNat o)), .val (.ref d), .val (.int (Int32.ofNat q)), .val (.int (Int32.ofNat len)), .unset, .unset] [])) := entry rfl
  have hA0 := hA.1.mv X0.warmed.alike hh0
  have hB0 := hB.mv X0.warmed.alike hh0
  have a31 := hA.1.2.2.2
  have c2 : Steps p.tables e below (s₁.setTop (entryFrame m #[.ref b, .int (Int32.ofNat o), .ref d, .int (Int32.ofNat q), .int (Int32.ofNat len)] 7)) (s₁.setTop (mkF m 3 #[.val (.ref b), .val (.int (Int32.ofNat o)), .val (.ref d), .val (.int (Int32.ofNat q)), .val (.int (Int32.ofNat len)), .val (.int 0), .unset] [])) := c1.trans (by
    refine iconstV X0.here hexec rfl 0 (hb hbytes d0) (by decide) ?_
    refine XS.istore X0.here hexec rfl (hb hbytes d1) rfl rfl ?_
    exact Steps.refl _)
  have loop : ∀ (r i : Nat), i + r = len → ∀ (z : Slot), (z = .unset ∨ ∃ w, z = .val w ∧ w.category = 1) → ∀ (Tl : State) (Bk : Cell), Stand p l e { frames := 0, locals := 0, cells := 0, slots := 0 } s m #[.ref b, .int (Int32.ofNat o), .ref d, .int (Int32.ofNat q), .int (Int32.ofNat len)] below meth c Tl ([] ++ copyLocs d q i) 0 0 → Put d Bk s₁ Tl → Laid B Bk q (q + i) (fun j => Value.int (lo8 (cv A (o + (j - q))))) →
      Steps p.tables e below (s₁.setTop (entryFrame m #[.ref b, .int (Int32.ofNat o), .ref d, .int (Int32.ofNat q), .int (Int32.ofNat len)] 7)) (Tl.setTop (mkF m 3 #[.val (.ref b), .val (.int (Int32.ofNat (o + i))), .val (.ref d), .val (.int (Int32.ofNat (q + i))), .val (.int (Int32.ofNat len)), .val (.int (Int32.ofNat i)), z] [])) → ∃ (T' : State) (B' : Cell) (z' : Slot), Stand p l e { frames := 0, locals := 0, cells := 0, slots := 0 } s m #[.ref b, .int (Int32.ofNat o), .ref d, .int (Int32.ofNat q), .int (Int32.ofNat len)] below meth c T' ([] ++ copyLocs d q len) 0 0 ∧ Put d B' s₁ T' ∧ Laid B B' q (q + len) (fun j => Value.int (lo8 (cv A (o + (j - q))))) ∧
      Steps p.tables e below (s₁.setTop (entryFrame m #[.ref b, .int (Int32.ofNat o), .ref d, .int (Int32.ofNat q), .int (Int32.ofNat len)] 7)) (T'.setTop (mkF m 3 #[.val (.ref b), .val (.int (Int32.ofNat (o + len))), .val (.ref d), .val (.int (Int32.ofNat (q + len))), .val (.int (Int32.ofNat len)), .val (.int (Int32.ofNat len)), z'] [])) := by
    intro r
    induction r with
    | zero =>
      intro i hi z hz Tl Bk Xl pl fl cl
      have hil : i = len := by omega
      rw [hil] at Xl fl cl
      exact ⟨Tl, Bk, z, Xl, pl, fl, cl⟩
    | succ r ih =>
      intro i hi z hz Tl Bk Xl pl fl cl
      have all := X0.warmed.alike.symm.trans Xl.warmed.alike
      have hAl := hA0.keep all (pl.other hne hA0.1)
      have hBk := hB0.like all pl.1 fl.1 fl.2.1 fl.2.2.1
      have hlt : q + i < Bk.slots.size := by rw [fl.2.2.1]; omega
      have c3 : Steps p.tables e below (s₁.setTop (entryFrame m #[.ref b, .int (Int32.ofNat o), .ref d, .int (Int32.ofNat q), .int (Int32.ofNat len)] 7)) (Tl.setTop (mkF m 12 #[.val (.ref b), .val (.int (Int32.ofNat (o + i))), .val (.ref d), .val (.int (Int32.ofNat (q + i))), .val (.int (Int32.ofNat len)), .val (.int (Int32.ofNat i)), z] [.int (Int32.ofNat (o + i)), .ref b])) := cl.trans (by
        refine XS.iload Xl.here hexec rfl (hb hbytes d3) rfl ?_
        refine XS.iload Xl.here hexec rfl (hb hbytes d5) rfl ?_
        refine XS.icmpNo Xl.here hexec rfl (hb hbytes d7) rfl (ii_ge_f (lt32 (by omega) (by omega))) ?_
        refine XS.aloadN Xl.here hexec rfl (hb hbytes d10) rfl rfl ?_
        refine XS.iloadN Xl.here hexec rfl (hb hbytes d11) rfl ?_
        exact Steps.refl _)
      have c4 : Steps p.tables e below (s₁.setTop (entryFrame m #[.ref b, .int (Int32.ofNat o), .ref d, .int (Int32.ofNat q), .int (Int32.ofNat len)] 7)) (Tl.setTop (mkF m 13 #[.val (.ref b), .val (.int (Int32.ofNat (o + i))), .val (.ref d), .val (.int (Int32.ofNat (q + i))), .val (.int (Int32.ofNat len)), .val (.int (Int32.ofNat i)), z] [.int (cv A (o + i))])) := c3.trans (by
        refine Xl.aget hexec hAl rfl (hA.get (i := o + i) (by omega)) rfl rfl (hb hbytes d12) ?_
        exact Steps.refl _)
      have c5 : Steps p.tables e below (s₁.setTop (entryFrame m #[.ref b, .int (Int32.ofNat o), .ref d, .int (Int32.ofNat q), .int (Int32.ofNat len)] 7)) (Tl.setTop (mkF m 15 #[.val (.ref b), .val (.int (Int32.ofNat (o + i))), .val (.ref d), .val (.int (Int32.ofNat (q + i))), .val (.int (Int32.ofNat len)), .val (.int (Int32.ofNat i)), .val (.int (cv A (o + i)))] [])) := c4.trans (by
        refine XS.istoreS Xl.here hexec rfl (hb hbytes d13) rfl rfl hz ?_
        exact Steps.refl _)
      have c6 : Steps p.tables e below (s₁.setTop (entryFrame m #[.ref b, .int (Int32.ofNat o), .ref d, .int (Int32.ofNat q), .int (Int32.ofNat len)] 7)) (Tl.setTop (mkF m 31 #[.val (.ref b), .val (.int (Int32.ofNat (o + i))), .val (.ref d), .val (.int (Int32.ofNat (q + i))), .val (.int (Int32.ofNat len)), .val (.int (Int32.ofNat i)), .val (.int (cv A (o + i)))] [.int (lo8 (cv A (o + i))), .int (Int32.ofNat (q + i)), .ref d])) := c5.trans (by
        refine XS.iload Xl.here hexec rfl (hb hbytes d15) rfl ?_
        refine sipushV Xl.here hexec rfl 255 (hb hbytes d17) (by decide) ?_
        refine XS.icmpYes Xl.here hexec rfl (pc0 := 20) rfl (hb hbytes d20) rfl (ii_le_t (hp i (by omega))) (by decide) rfl ?_
        refine XS.aloadN Xl.here hexec rfl (hb hbytes d26) rfl rfl ?_
        refine XS.iloadN Xl.here hexec rfl (hb hbytes d27) rfl ?_
        refine XS.iload Xl.here hexec rfl (hb hbytes d28) rfl ?_
        refine i2b Xl.here hexec rfl (hb hbytes d30) rfl ?_
        exact Steps.refl _)
      obtain ⟨T7, X7, p7, st7⟩ := Xl.aput hexec hBk rfl hlt rfl (fits_lo8 (cv A (o + i))) (g := (mkF m 31 #[.val (.ref b), .val (.int (Int32.ofNat (o + i))), .val (.ref d), .val (.int (Int32.ofNat (q + i))), .val (.int (Int32.ofNat len)), .val (.int (Int32.ofNat i)), .val (.int (cv A (o + i)))] [.int (lo8 (cv A (o + i))), .int (Int32.ofNat (q + i)), .ref d])) rfl (rest := []) rfl (hb hbytes d31)
      have c8 : Steps p.tables e below (s₁.setTop (entryFrame m #[.ref b, .int (Int32.ofNat o), .ref d, .int (Int32.ofNat q), .int (Int32.ofNat len)] 7)) (T7.setTop (mkF m 32 #[.val (.ref b), .val (.int (Int32.ofNat (o + i))), .val (.ref d), .val (.int (Int32.ofNat (q + i))), .val (.int (Int32.ofNat len)), .val (.int (Int32.ofNat i)), .val (.int (cv A (o + i)))] [])) := c6.trans (st7 _ (Steps.refl _))
      have c9 : Steps p.tables e below (s₁.setTop (entryFrame m #[.ref b, .int (Int32.ofNat o), .ref d, .int (Int32.ofNat q), .int (Int32.ofNat len)] 7)) (T7.setTop (mkF m 3 #[.val (.ref b), .val (.int (Int32.ofNat (o + i) + 1)), .val (.ref d), .val (.int (Int32.ofNat (q + i) + 1)), .val (.int (Int32.ofNat len)), .val (.int (Int32.ofNat i + 1)), .val (.int (cv A (o + i)))] [])) := c8.trans (by
        refine iincV X7.here hexec rfl 1 (hb hbytes d32) (by decide) rfl rfl ?_
        refine iincV X7.here hexec rfl 1 (hb hbytes d35) (by decide) rfl rfl ?_
        refine iincV X7.here hexec rfl 1 (hb hbytes d38) (by decide) rfl rfl ?_
        refine XS.goto X7.here hexec rfl (pc0 := 41) rfl (hb hbytes d41) (by decide) rfl ?_
        exact Steps.refl _)
      have c10 : Steps p.tables e below (s₁.setTop (entryFrame m #[.ref b, .int (Int32.ofNat o), .ref d, .int (Int32.ofNat q), .int (Int32.ofNat len)] 7)) (T7.setTop (mkF m 3 #[.val (.ref b), .val (.int (Int32.ofNat (o + (i + 1)))), .val (.ref d), .val (.int (Int32.ofNat (q + (i + 1)))), .val (.int (Int32.ofNat len)), .val (.int (Int32.ofNat (i + 1))), .val (.int (cv A (o + i)))] [])) := by
        have := c9
        rw [succ32, succ32, succ32] at this
        exact this
      exact ih (i + 1) (by omega) _ (Or.inr ⟨_, rfl, rfl⟩) T7 _ (by rw [copyLocs_step, ← List.append_assoc]; exact X7) (pl.trans p7) (fl.step (by omega) hlt (by simp)) c10
  obtain ⟨T9, B9, z9, X9, p9, f9, g9⟩ := loop len 0 (by omega) .unset (Or.inl rfl) s₁ B (by simpa [copyLocs] using X0) ⟨hB0.1, fun _ _ => rfl, rfl⟩ (Laid.zero _ _ _) c2
  have c11 : Steps p.tables e below (s₁.setTop (entryFrame m #[.ref b, .int (Int32.ofNat o), .ref d, .int (Int32.ofNat q), .int (Int32.ofNat len)] 7)) (T9.setTop (mkF m 46 #[.val (.ref b), .val (.int (Int32.ofNat (o + len))), .val (.ref d), .val (.int (Int32.ofNat (q + len))), .val (.int (Int32.ofNat len)), .val (.int (Int32.ofNat len)), z9] [.int (Int32.ofNat len)])) := g9.trans (by
    refine XS.iload X9.here hexec rfl (hb hbytes d3) rfl ?_
    refine XS.iload X9.here hexec rfl (hb hbytes d5) rfl ?_
    refine XS.icmpYes X9.here hexec rfl (pc0 := 7) rfl (hb hbytes d7) rfl (ii_ge_t (nlt32 (by omega) (Nat.le_refl _))) (by decide) rfl ?_
    refine XS.iload X9.here hexec rfl (hb hbytes d44) rfl ?_
    exact Steps.refl _)
  exact ⟨T9, some (.int (Int32.ofNat len)), _, _, _, X9, by simp, rfl, rfl, (fun h => by cases h), ⟨rfl, B9, p9.from hh0, f9⟩, fun fs hl => c11.trans (X9.ireturnOut hexec hret rfl (Or.inl rfl) (hb hbytes d46) hl)⟩
end Cmp5
namespace Cmp3
def yN : MethodName := ⟨"java/lang/StringUTF16", "compress", "([CII)[B"⟩
abbrev yB : ByteArray := jdk_52_method_16_code
theorem d0 : decode yB 0 = .ok (.iload_n 2, 1) := by decide +kernel
theorem d1 : decode yB 1 = .ok (.newarray .byte, 2) := by decide +kernel
theorem d3 : decode yB 3 = .ok (.astore_n 3, 1) := by decide +kernel
theorem d4 : decode yB 4 = .ok (.aload_n 0, 1) := by decide +kernel
theorem d5 : decode yB 5 = .ok (.iload_n 1, 1) := by decide +kernel
theorem d6 : decode yB 6 = .ok (.aload_n 3, 1) := by decide +kernel
theorem d7 : decode yB 7 = .ok (.iconst 0, 1) := by decide +kernel
theorem d8 : decode yB 8 = .ok (.iload_n 2, 1) := by decide +kernel
theorem d9 : decode yB 9 = .ok (.invokestatic 115, 3) := by decide +kernel
theorem d12 : decode yB 12 = .ok (.istore 4, 2) := by decide +kernel
theorem d14 : decode yB 14 = .ok (.iload 4, 2) := by decide +kernel
theorem d16 : decode yB 16 = .ok (.iload_n 2, 1) := by decide +kernel
theorem d17 : decode yB 17 = .ok (.if_icmp (.eq) 40, 3) := by decide +kernel
theorem d57 : decode yB 57 = .ok (.aload_n 3, 1) := by decide +kernel
theorem d58 : decode yB 58 = .ok (.areturn, 1) := by decide +kernel
def site : List Cond := [.arrayClass .byte, Cmp5.tab] ++ staticW U16 115 Cmp5.yN
def tab : Cond := tabOf yN yB 6 (some (.array .byte)) site
def P (b : Addr) (A : Cell) (o len : Nat) (args : Array Value) (s : State) : Prop := args = #[.ref b, .int (Int32.ofNat o), .int (Int32.ofNat len)] ∧ Ch b A s ∧ o + len ≤ A.slots.size ∧ len ≤ 536870912 ∧ ∀ i, i < len → ¬ 255 < cv A (o + i)
def E (b : Addr) (A : Cell) (o len : Nat) (r : Option Value) (s u : State) : Prop := NewArr .byte "[B" len (fun j => .int (lo8 (cv A (o + j)))) r s u ∧ u.heap.size = s.heap.size + 1
/-- no char of the range above 255: a new byte[] of their low bytes -/
theorem law (l : Launch) (b : Addr) (A : Cell) (o len : Nat) : Law l yN 3 3 1 18 yB 6 (some (.array .byte)) site (P b A o len) (E b A o len) [] 1 len := by
  refine Law.of_walk (plainFor_of_name (by decide +kernel)) (by decide +kernel) (by decide +kernel) (by decide) (fun _ _ h => by rw [h.1]; rfl) (fun _ U U' hal hh h => ⟨h.1, h.2.1.mv hal hh, h.2.2⟩) (fun r U U' V V' h1 hal h2 h => ⟨NewArr.mv r U U' V V' h1 hal h2 h.1, by rw [h1, h2]; exact h.2⟩) ?_
  intro p e s m args below meth c s₁ X0 hexec hbytes hml hret hlk hnm hown hh0 W hP
  obtain ⟨rfl, hA, l1, l2, hp⟩ := hP
  have a31 := hA.1.2.2.2
  have c1 : Steps p.tables e below (s₁.setTop (entryFrame m #[.ref b, .int (Int32.ofNat o), .int (Int32.ofNat len)] 6)) (s₁.setTop (mkF m 0 #[.val (.ref b), .val (.int (Int32.ofNat o)), .val (.int (Int32.ofNat len)), .unset, .unset, .unset] [])) := entry rfl
  have c2 : Steps p.tables e below (s₁.setTop (entryFrame m #[.ref b, .int (Int32.ofNat o), .int (Int32.ofNat len)] 6)) (s₁.setTop (mkF m 1 #[.val (.ref b), .val (.int (Int32.ofNat o)), .val (.int (Int32.ofNat len)), .unset, .unset, .unset] [.int (Int32.ofNat len)])) := c1.trans (by
    refine XS.iloadN X0.here hexec rfl (hb hbytes d0) rfl ?_
    exact Steps.refl _)
  obtain ⟨T3, B3, X3, ba3, bs3, bv3, bh3, bf3, st3⟩ := X0.anew hexec (atype := .byte) (wk W (.arrayClass .byte)) rfl (by show len * 1 ≤ _; omega) (by omega) (g := (mkF m 1 #[.val (.ref b), .val (.int (Int32.ofNat o)), .val (.int (Int32.ofNat len)), .unset, .unset, .unset] [.int (Int32.ofNat len)])) rfl (hb hbytes d1) (rest := []) rfl (Nat.le_refl _) (by show 0 + len ≤ len; omega)
  rw [hh0] at ba3 st3
  have kp3 : XT.Kept s T3 := (XT.Kept.of_eq hh0).push bh3
  have hA3 := hA.keep X3.warmed.alike (kp3 _ _ hA.1.1)
  have hne : b ≠ s.heap.size := hA.1.ne
  have c4 : Steps p.tables e below (s₁.setTop (entryFrame m #[.ref b, .int (Int32.ofNat o), .int (Int32.ofNat len)] 6)) (T3.setTop (mkF m 3 #[.val (.ref b), .val (.int (Int32.ofNat o)), .val (.int (Int32.ofNat len)), .unset, .unset, .unset] [.ref s.heap.size])) := c2.trans (st3 _ (Steps.refl _))
  have c5 : Steps p.tables e below (s₁.setTop (entryFrame m #[.ref b, .int (Int32.ofNat o), .int (Int32.ofNat len)] 6)) (T3.setTop (mkF m 9 #[.val (.ref b), .val (.int (Int32.ofNat o)), .val (.int (Int32.ofNat len)), .val (.ref s.heap.size), .unset, .unset] [.int (Int32.ofNat len), .int 0, .ref s.heap.size, .int (Int32.ofNat o), .ref b])) := c4.trans (by
    refine XS.astoreN X3.here hexec rfl (hb hbytes d3) rfl rfl rfl ?_
    refine XS.aloadN X3.here hexec rfl (hb hbytes d4) rfl rfl ?_
    refine XS.iloadN X3.here hexec rfl (hb hbytes d5) rfl ?_
    refine XS.aloadN X3.here hexec rfl (hb hbytes d6) rfl rfl ?_
    refine iconstV X3.here hexec rfl 0 (hb hbytes d7) (by decide) ?_
    refine XS.iloadN X3.here hexec rfl (hb hbytes d8) rfl ?_
    exact Steps.refl _)
  obtain ⟨v6, T6, X6, E6, g6⟩ := X3.callS hexec (Cmp5.law l b A s.heap.size B3 o 0 len) hown (wks W (staticW U16 115 Cmp5.yN)) (wk W Cmp5.tab) (W := 0) (Nat.le_of_ble_eq_true rfl) (Nat.le_of_ble_eq_true rfl) (Nat.le_refl _) (by show 0 + len + 0 ≤ len; omega) (g := (mkF m 9 #[.val (.ref b), .val (.int (Int32.ofNat o)), .val (.int (Int32.ofNat len)), .val (.ref s.heap.size), .unset, .unset] [.int (Int32.ofNat len), .int (Int32.ofNat 0), .ref s.heap.size, .int (Int32.ofNat o), .ref b])) rfl (by rw [hml]; rfl) c5 (argsL := [.ref b, .int (Int32.ofNat o), .ref s.heap.size, .int (Int32.ofNat 0), .int (Int32.ofNat len)]) (rest := []) rfl rfl (by show 2 * 0 + 0 ≤ _; decide) (hb hbytes d9) (⟨rfl, hA3, ba3, hne, l1, by rw [bs3]; simp, hp⟩)
  obtain ⟨rfl, B6, p6, f6⟩ := E6
  have c7 : Steps p.tables e below (s₁.setTop (entryFrame m #[.ref b, .int (Int32.ofNat o), .int (Int32.ofNat len)] 6)) (T6.setTop (mkF m 12 #[.val (.ref b), .val (.int (Int32.ofNat o)), .val (.int (Int32.ofNat len)), .val (.ref s.heap.size), .unset, .unset] [.int (Int32.ofNat len)])) := g6
  have c8 : Steps p.tables e below (s₁.setTop (entryFrame m #[.ref b, .int (Int32.ofNat o), .int (Int32.ofNat len)] 6)) (T6.setTop (mkF m 58 #[.val (.ref b), .val (.int (Int32.ofNat o)), .val (.int (Int32.ofNat len)), .val (.ref s.heap.size), .val (.int (Int32.ofNat len)), .unset] [.ref s.heap.size])) := c7.trans (by
    refine XS.istore X6.here hexec rfl (hb hbytes d12) rfl rfl ?_
    refine XS.iload X6.here hexec rfl (hb hbytes d14) rfl ?_
    refine XS.iloadN X6.here hexec rfl (hb hbytes d16) rfl ?_
    refine XS.icmpYes X6.here hexec rfl (pc0 := 17) rfl (hb hbytes d17) rfl (ii_eq_t rfl) (by decide) rfl ?_
    refine XS.aloadN X6.here hexec rfl (hb hbytes d57) rfl rfl ?_
    exact Steps.refl _)
  have X8 := X6.wide (L' := []) (cells' := 1) (slots' := len) (fun x hx hlt => by
    simp only [List.nil_append, copyLocs, List.mem_map, List.mem_range] at hx
    obtain ⟨i, -, rfl⟩ := hx
    exact absurd hlt (Nat.lt_irrefl _)) (Nat.le_refl _) (by omega)
  exact ⟨T6, some (.ref s.heap.size), _, _, _, X8, rfl, rfl, rfl, (fun h => by cases h), ⟨⟨rfl, B6, ba3.like (X3.warmed.alike.symm.trans X6.warmed.alike) p6.1 f6.1 f6.2.1 f6.2.2.1, f6.2.1.trans bv3, by rw [X6.warmed.alike.findClass, f6.1]; exact bf3, by rw [f6.2.2.1, bs3]; simp, fun j hj => by rw [f6.2.2.2 j, if_pos (by omega)]; rfl, kp3.put p6 (Nat.le_refl _)⟩, by rw [p6.2.2, bh3, hh0]; simp⟩, fun fs hl => c8.trans (X8.areturnOut hexec rfl hret rfl (hb hbytes d58) hl)⟩
end Cmp3
namespace CodL
def yN : MethodName := ⟨"java/lang/StringUTF16", "coderFromArrayLen", "([BI)B"⟩
abbrev yB : ByteArray := jdk_52_method_15_code
theorem d0 : decode yB 0 = .ok (.iload_n 1, 1) := by decide +kernel
theorem d1 : decode yB 1 = .ok (.aload_n 0, 1) := by decide +kernel
theorem d2 : decode yB 2 = .ok (.arraylength, 1) := by decide +kernel
theorem d3 : decode yB 3 = .ok (.isub, 1) := by decide +kernel
theorem d4 : decode yB 4 = .ok (.bipush 31, 2) := by decide +kernel
theorem d6 : decode yB 6 = .ok (.iushr, 1) := by decide +kernel
theorem d7 : decode yB 7 = .ok (.i2b, 1) := by decide +kernel
theorem d8 : decode yB 8 = .ok (.ireturn, 1) := by decide +kernel
def site : List Cond := []
def tab : Cond := tabOf yN yB 2 (some .byte) site
def P (d : Addr) (B : Cell) (args : Array Value) (s : State) : Prop := args = #[.ref d, .int (Int32.ofNat B.slots.size)] ∧ Arr .byte d B s
def E (r : Option Value) (s u : State) : Prop := XT.PureE (some (.int 0)) r s u
/-- an array as long as the number of chars: LATIN1 -/
theorem law (l : Launch) (d : Addr) (B : Cell) : Law l yN 2 2 0 0 yB 2 (some .byte) site (P d B) E [] 0 0 := by
  refine Law.of_walk (plainFor_of_name (by decide +kernel)) (by decide +kernel) (by decide +kernel) (by decide) (fun _ _ h => by rw [h.1]; rfl) (fun _ U U' hal hh h => ⟨h.1, h.2.mv hal hh⟩) (fun r U U' V V' h1 hal h2 h => XT.PureE.mv r U U' V V' h1 hal h2 h) ?_
  intro p e s m args below meth c s₁ X0 hexec hbytes hml hret hlk hnm hown hh0 W hP
  obtain ⟨rfl, hB⟩ := hP
  have hB0 := hB.mv X0.warmed.alike hh0
  have c1 : Steps p.tables e below (s₁.setTop (entryFrame m #[.ref d, .int (Int32.ofNat B.slots.size)] 2)) (s₁.setTop (mkF m 0 #[.val (.ref d), .val (.int (Int32.ofNat B.slots.size))] [])) := entry rfl
  have c2 : Steps p.tables e below (s₁.setTop (entryFrame m #[.ref d, .int (Int32.ofNat B.slots.size)] 2)) (s₁.setTop (mkF m 2 #[.val (.ref d), .val (.int (Int32.ofNat B.slots.size))] [.ref d, .int (Int32.ofNat B.slots.size)])) := c1.trans (by
    refine XS.iloadN X0.here hexec rfl (hb hbytes d0) rfl ?_
    refine XS.aloadN X0.here hexec rfl (hb hbytes d1) rfl rfl ?_
    exact Steps.refl _)
  have c3 : Steps p.tables e below (s₁.setTop (entryFrame m #[.ref d, .int (Int32.ofNat B.slots.size)] 2)) (s₁.setTop (mkF m 8 #[.val (.ref d), .val (.int (Int32.ofNat B.slots.size))] [.int (lo8 (ushr (Int32.ofNat B.slots.size - Int32.ofNat B.slots.size) 31))])) := c2.trans (by
    refine X0.alen hexec hB0 rfl rfl (hb hbytes d2) ?_
    refine XS.isub X0.here hexec rfl (hb hbytes d3) rfl ?_
    refine bipushV X0.here hexec rfl 31 (hb hbytes d4) (by decide) ?_
    refine iushr X0.here hexec rfl (hb hbytes d6) rfl ?_
    refine i2b X0.here hexec rfl (hb hbytes d7) rfl ?_
    exact Steps.refl _)
  have e0 : lo8 (ushr (Int32.ofNat B.slots.size - Int32.ofNat B.slots.size) 31) = 0 := by rw [Int32.sub_self]; decide
  rw [e0] at c3
  exact ⟨s₁, some (.int 0), _, _, _, X0, rfl, rfl, rfl, (fun h => by cases h), ⟨rfl, hh0⟩, fun fs hl => c3.trans (X0.ireturnOut hexec hret rfl (Or.inr (Or.inr (Or.inl rfl))) (hb hbytes d8) hl)⟩
end CodL
/-- the String at a is Latin-1 over a new byte[] (the heap's one new cell): the low bytes of the len chars of A from o on; every cell but a is kept -/
def Got (a : Addr) (D : Cell) (fV fC : Field) (A : Cell) (o len : Nat) (r : Option Value) (s u : State) : Prop := r = none ∧ ∃ D' V : Cell, Blank "java/lang/String" a D' u ∧ Same D D' [fV.slot, fC.slot] ∧ D'.slots[fV.slot]? = some (.ref s.heap.size) ∧ D'.slots[fC.slot]? = some (.int 0) ∧ Arr .byte s.heap.size V u ∧ V.vm = .none ∧ u.vm.findClass "[B" = some V.cls ∧ V.slots.size = len ∧ (∀ j, j < len → V.slots[j]? = some (.int (lo8 (cv A (o + j))))) ∧ (∀ (y : Addr) (c : Cell), y ≠ a → s.heap[y]? = some c → u.heap[y]? = some c) ∧ u.heap.size = s.heap.size + 1
theorem Got.mv {a : Addr} {D A : Cell} {fV fC : Field} {o len : Nat} : ∀ r (U U' V V' : State), U'.heap = U.heap → V.vm.Alike V'.vm → V'.heap = V.heap → Got a D fV fC A o len r U V → Got a D fV fC A o len r U' V' :=
  fun r U U' V V' h1 hal h2 ⟨e0, D', X, a1, a2, a3, a4, a5, a6, a7, a8, a9, a10, a11⟩ => ⟨e0, D', X, a1.mv hal h2, a2, by rw [h1]; exact a3, a4, by rw [h1]; exact a5.mv hal h2, a6, by rw [hal.findClass]; exact a7, a8, a9, by rw [h1, h2]; exact a10, by rw [h1, h2]; exact a11⟩
namespace New4
def yN : MethodName := ⟨"java/lang/String", "<init>", "([CIILjava/lang/Void;)V"⟩
abbrev yB : ByteArray := jdk_42_method_149_code
theorem d0 : decode yB 0 = .ok (.aload_n 0, 1) := by decide +kernel
theorem d1 : decode yB 1 = .ok (.invokespecial 1, 3) := by decide +kernel
theorem d4 : decode yB 4 = .ok (.iload_n 3, 1) := by decide +kernel
theorem d5 : decode yB 5 = .ok (.ifCond (.ne) 22, 3) := by decide +kernel
theorem d27 : decode yB 27 = .ok (.getstatic 38, 3) := by decide +kernel
theorem d30 : decode yB 30 = .ok (.ifCond (.eq) 28, 3) := by decide +kernel
theorem d33 : decode yB 33 = .ok (.aload_n 1, 1) := by decide +kernel
theorem d34 : decode yB 34 = .ok (.iload_n 2, 1) := by decide +kernel
theorem d35 : decode yB 35 = .ok (.iload_n 3, 1) := by decide +kernel
theorem d36 : decode yB 36 = .ok (.invokestatic 177, 3) := by decide +kernel
theorem d39 : decode yB 39 = .ok (.astore 5, 2) := by decide +kernel
theorem d41 : decode yB 41 = .ok (.aload_n 0, 1) := by decide +kernel
theorem d42 : decode yB 42 = .ok (.aload 5, 2) := by decide +kernel
theorem d44 : decode yB 44 = .ok (.iload_n 3, 1) := by decide +kernel
theorem d45 : decode yB 45 = .ok (.invokestatic 47, 3) := by decide +kernel
theorem d48 : decode yB 48 = .ok (.putfield 15, 3) := by decide +kernel
theorem d51 : decode yB 51 = .ok (.aload_n 0, 1) := by decide +kernel
theorem d52 : decode yB 52 = .ok (.aload 5, 2) := by decide +kernel
theorem d54 : decode yB 54 = .ok (.putfield 9, 3) := by decide +kernel
theorem d57 : decode yB 57 = .ok (.return_, 1) := by decide +kernel
def site : List Cond := [.fieldLink "java/lang/String" 38 "java/lang/String" "COMPACT_STRINGS" "Z", Cmp3.tab, CodL.tab, .laysFinal "java/lang/String" "java/lang/String" "value" "[B", .fieldLink "java/lang/String" 9 "java/lang/String" "value" "[B", .laysFinal "java/lang/String" "java/lang/String" "coder" "B", .fieldLink "java/lang/String" 15 "java/lang/String" "coder" "B"] ++ objW "java/lang/String" 1 ++ staticW "java/lang/String" 177 Cmp3.yN ++ staticW "java/lang/String" 47 CodL.yN
def tab : Cond := tabOf yN yB 6 none site
def P (a : Addr) (D : Cell) (fV fC : Field) (b : Addr) (A : Cell) (z : Int32) (o len : Nat) (args : Array Value) (s : State) : Prop := args = #[.ref a, .ref b, .int (Int32.ofNat o), .int (Int32.ofNat len), .null] ∧ Blank "java/lang/String" a D s ∧ Found "java/lang/String" "value" "[B" fV s ∧ Found "java/lang/String" "coder" "B" fC s ∧ Ch b A s ∧ StaticIs s "java/lang/String" "COMPACT_STRINGS" "Z" (.int z) ∧ ¬ z = 0 ∧ 0 < len ∧ o + len ≤ A.slots.size ∧ len ≤ 536870912 ∧ ∀ i, i < len → ¬ 255 < cv A (o + i)
def E (a : Addr) (D : Cell) (fV fC : Field) (A : Cell) (o len : Nat) (r : Option Value) (s u : State) : Prop := Got a D fV fC A o len r s u
/-- len > 0, no char of the range above 255: a Latin-1 String of their low bytes -/
theorem law (l : Launch) (a : Addr) (D : Cell) (fV fC : Field) (b : Addr) (A : Cell) (z : Int32) (o len : Nat) : Law l yN 5 4 2 35 yB 6 none site (P a D fV fC b A z o len) (E a D fV fC A o len) [⟨a, fC.slot⟩, ⟨a, fV.slot⟩] 1 len := by
  refine Law.of_walk (plainFor_of_name (by decide +kernel)) (by decide +kernel) (by decide +kernel) (by decide) (fun _ _ h => by rw [h.1]; rfl) (fun _ U U' hal hh h => ⟨h.1, h.2.1.mv hal hh, h.2.2.1.al hal, h.2.2.2.1.al hal, h.2.2.2.2.1.mv hal hh, h.2.2.2.2.2.1.there hal hh, h.2.2.2.2.2.2⟩) (fun r U U' V V' h1 hal h2 h => Got.mv r U U' V V' h1 hal h2 h) ?_
  intro p e s m args below meth c s₁ X0 hexec hbytes hml hret hlk hnm hown hh0 W hP
  obtain ⟨rfl, hB, f1, f2, hA, s1, hz, l0, l1, l2, hp⟩ := hP
  have a31 := hA.1.2.2.2
  have c1 : Steps p.tables e below (s₁.setTop (entryFrame m #[.ref a, .ref b, .int (Int32.ofNat o), .int (Int32.ofNat len), .null] 6)) (s₁.setTop (mkF m 0 #[.val (.ref a), .val (.ref b), .val (.int (Int32.ofNat o)), .val (.int (Int32.ofNat len)), .val .null, .unset] [])) := entry rfl
  have c2 : Steps p.tables e below (s₁.setTop (entryFrame m #[.ref a, .ref b, .int (Int32.ofNat o), .int (Int32.ofNat len), .null] 6)) (s₁.setTop (mkF m 1 #[.val (.ref a), .val (.ref b), .val (.int (Int32.ofNat o)), .val (.int (Int32.ofNat len)), .val .null, .unset] [.ref a])) := c1.trans (by
    refine XS.aloadN X0.here hexec rfl (hb hbytes d0) rfl rfl ?_
    exact Steps.refl _)
  obtain ⟨T3, X3, q3, st3⟩ := X0.oinit hexec hown (wks W (objW "java/lang/String" 1)) (g := (mkF m 1 #[.val (.ref a), .val (.ref b), .val (.int (Int32.ofNat o)), .val (.int (Int32.ofNat len)), .val .null, .unset] [.ref a])) rfl (by rw [hml]; rfl) (rest := []) rfl (hb hbytes d1) (W := 0) (by show 2 * 0 + 0 ≤ _; decide) (Nat.le_of_ble_eq_true rfl) (Nat.le_of_ble_eq_true rfl)
  have hh3 := q3.trans hh0
  have c4 : Steps p.tables e below (s₁.setTop (entryFrame m #[.ref a, .ref b, .int (Int32.ofNat o), .int (Int32.ofNat len), .null] 6)) (T3.setTop (mkF m 27 #[.val (.ref a), .val (.ref b), .val (.int (Int32.ofNat o)), .val (.int (Int32.ofNat len)), .val .null, .unset] [])) := (c2.trans (st3 _ (Steps.refl _))).trans (by
    refine XS.iloadN X3.here hexec rfl (hb hbytes d4) rfl ?_
    refine XS.ifYes X3.here hexec rfl (pc0 := 5) rfl (hb hbytes d5) rfl (i0_ne_t (nz32 (by omega) l0)) (by decide) rfl ?_
    exact Steps.refl _)
  obtain ⟨T5, X5, q5, st5⟩ := X3.sget hexec hown (wk W (.fieldLink "java/lang/String" 38 "java/lang/String" "COMPACT_STRINGS" "Z")) s1 (fun _ _ h => by rw [hh3]; exact h) (g := (mkF m 27 #[.val (.ref a), .val (.ref b), .val (.int (Int32.ofNat o)), .val (.int (Int32.ofNat len)), .val .null, .unset] [])) rfl (hb hbytes d27)
  have hh5 := q5.trans hh3
  have c6 : Steps p.tables e below (s₁.setTop (entryFrame m #[.ref a, .ref b, .int (Int32.ofNat o), .int (Int32.ofNat len), .null] 6)) (T5.setTop (mkF m 30 #[.val (.ref a), .val (.ref b), .val (.int (Int32.ofNat o)), .val (.int (Int32.ofNat len)), .val .null, .unset] [.int z])) := c4.trans (st5 _ (Steps.refl _))
  have c7 : Steps p.tables e below (s₁.setTop (entryFrame m #[.ref a, .ref b, .int (Int32.ofNat o), .int (Int32.ofNat len), .null] 6)) (T5.setTop (mkF m 36 #[.val (.ref a), .val (.ref b), .val (.int (Int32.ofNat o)), .val (.int (Int32.ofNat len)), .val .null, .unset] [.int (Int32.ofNat len), .int (Int32.ofNat o), .ref b])) := c6.trans (by
    refine XS.ifNo X5.here hexec rfl (hb hbytes d30) rfl (i0_eq_f hz) ?_
    refine XS.aloadN X5.here hexec rfl (hb hbytes d33) rfl rfl ?_
    refine XS.iloadN X5.here hexec rfl (hb hbytes d34) rfl ?_
    refine XS.iloadN X5.here hexec rfl (hb hbytes d35) rfl ?_
    exact Steps.refl _)
  obtain ⟨v8, T8, X8, E8, g8⟩ := X5.callS hexec (Cmp3.law l b A o len) hown (wks W (staticW "java/lang/String" 177 Cmp3.yN)) (wk W Cmp3.tab) (W := 0) (Nat.le_of_ble_eq_true rfl) (Nat.le_of_ble_eq_true rfl) (Nat.le_refl _) (by show 0 + len ≤ len; omega) (g := (mkF m 36 #[.val (.ref a), .val (.ref b), .val (.int (Int32.ofNat o)), .val (.int (Int32.ofNat len)), .val .null, .unset] [.int (Int32.ofNat len), .int (Int32.ofNat o), .ref b])) rfl (by rw [hml]; rfl) c7 (argsL := [.ref b, .int (Int32.ofNat o), .int (Int32.ofNat len)]) (rest := []) rfl rfl (by show 2 * 0 + 0 ≤ _; decide) (hb hbytes d36) (⟨rfl, hA.mv X5.warmed.alike hh5, l1, l2, hp⟩)
  obtain ⟨e8, z8⟩ := E8
  obtain ⟨rfl, N, n1, n2, n3, n4, n5, n6⟩ := NewArr.mv _ T5 s _ _ hh5.symm (Vm.Alike.refl _) rfl e8
  rw [hh5] at z8
  have hB1 := hB.keep X8.warmed.alike (n6 _ _ hB.1)
  have hne : s.heap.size ≠ a := (Nat.ne_of_lt (Array.getElem?_eq_some_iff.mp hB.1).1).symm
  have c9 : Steps p.tables e below (s₁.setTop (entryFrame m #[.ref a, .ref b, .int (Int32.ofNat o), .int (Int32.ofNat len), .null] 6)) (T8.setTop (mkF m 39 #[.val (.ref a), .val (.ref b), .val (.int (Int32.ofNat o)), .val (.int (Int32.ofNat len)), .val .null, .unset] [.ref s.heap.size])) := g8
  have c10 : Steps p.tables e below (s₁.setTop (entryFrame m #[.ref a, .ref b, .int (Int32.ofNat o), .int (Int32.ofNat len), .null] 6)) (T8.setTop (mkF m 45 #[.val (.ref a), .val (.ref b), .val (.int (Int32.ofNat o)), .val (.int (Int32.ofNat len)), .val .null, .val (.ref s.heap.size)] [.int (Int32.ofNat N.slots.size), .ref s.heap.size, .ref a])) := by
    have hc : Steps p.tables e below (s₁.setTop (entryFrame m #[.ref a, .ref b, .int (Int32.ofNat o), .int (Int32.ofNat len), .null] 6)) (T8.setTop (mkF m 45 #[.val (.ref a), .val (.ref b), .val (.int (Int32.ofNat o)), .val (.int (Int32.ofNat len)), .val .null, .val (.ref s.heap.size)] [.int (Int32.ofNat len), .ref s.heap.size, .ref a])) := c9.trans (by
      refine XS.astore X8.here hexec rfl (hb hbytes d39) rfl rfl rfl ?_
      refine XS.aloadN X8.here hexec rfl (hb hbytes d41) rfl rfl ?_
      refine XS.aload X8.here hexec rfl (hb hbytes d42) rfl rfl ?_
      refine XS.iloadN X8.here hexec rfl (hb hbytes d44) rfl ?_
      exact Steps.refl _)
    rw [n4]; exact hc
  obtain ⟨v11, T11, X11, E11, g11⟩ := X8.callS hexec (CodL.law l s.heap.size N) hown (wks W (staticW "java/lang/String" 47 CodL.yN)) (wk W CodL.tab) (W := 1) (Nat.le_of_ble_eq_true rfl) (Nat.le_of_ble_eq_true rfl) (Nat.le_refl _) (by show 0 + len + 0 ≤ len; omega) (g := (mkF m 45 #[.val (.ref a), .val (.ref b), .val (.int (Int32.ofNat o)), .val (.int (Int32.ofNat len)), .val .null, .val (.ref s.heap.size)] [.int (Int32.ofNat N.slots.size), .ref s.heap.size, .ref a])) rfl (by rw [hml]; rfl) c10 (argsL := [.ref s.heap.size, .int (Int32.ofNat N.slots.size)]) (rest := [.ref a]) rfl rfl (by show 2 * 0 + (1 + 0) ≤ _; decide) (hb hbytes d45) (⟨rfl, n1⟩)
  obtain ⟨rfl, q11⟩ := E11
  have hB11 := hB1.mv (X8.warmed.alike.symm.trans X11.warmed.alike) q11
  have c12 : Steps p.tables e below (s₁.setTop (entryFrame m #[.ref a, .ref b, .int (Int32.ofNat o), .int (Int32.ofNat len), .null] 6)) (T11.setTop (mkF m 48 #[.val (.ref a), .val (.ref b), .val (.int (Int32.ofNat o)), .val (.int (Int32.ofNat len)), .val .null, .val (.ref s.heap.size)] [.int 0, .ref a])) := g11
  obtain ⟨T13, X13, p13, bl13, sl13, st13⟩ := X11.finit hexec hown (wk W (.fieldLink "java/lang/String" 15 "java/lang/String" "coder" "B")) (Or.inr ⟨_, (wk W (.laysFinal "java/lang/String" "java/lang/String" "coder" "B"))⟩) (Or.inl ⟨rfl, hnm⟩) f2 (Or.inl rfl) hB11 (t := .byte) (by decide +kernel) rfl (g := (mkF m 48 #[.val (.ref a), .val (.ref b), .val (.int (Int32.ofNat o)), .val (.int (Int32.ofNat len)), .val .null, .val (.ref s.heap.size)] [.int 0, .ref a])) rfl (rest := []) rfl (hb hbytes d48)
  have c14 : Steps p.tables e below (s₁.setTop (entryFrame m #[.ref a, .ref b, .int (Int32.ofNat o), .int (Int32.ofNat len), .null] 6)) (T13.setTop (mkF m 54 #[.val (.ref a), .val (.ref b), .val (.int (Int32.ofNat o)), .val (.int (Int32.ofNat len)), .val .null, .val (.ref s.heap.size)] [.ref s.heap.size, .ref a])) := (c12.trans (st13 _ (Steps.refl _))).trans (by
    refine XS.aloadN X13.here hexec rfl (hb hbytes d51) rfl rfl ?_
    refine XS.aload X13.here hexec rfl (hb hbytes d52) rfl rfl ?_
    exact Steps.refl _)
  obtain ⟨T15, X15, p15, bl15, sl15, st15⟩ := X13.finit hexec hown (wk W (.fieldLink "java/lang/String" 9 "java/lang/String" "value" "[B")) (Or.inr ⟨_, (wk W (.laysFinal "java/lang/String" "java/lang/String" "value" "[B"))⟩) (Or.inl ⟨rfl, hnm⟩) f1 (Or.inl rfl) bl13 (t := (.array .byte)) (by decide +kernel) rfl (g := (mkF m 54 #[.val (.ref a), .val (.ref b), .val (.int (Int32.ofNat o)), .val (.int (Int32.ofNat len)), .val .null, .val (.ref s.heap.size)] [.ref s.heap.size, .ref a])) rfl (rest := []) rfl (hb hbytes d54)
  have c16 : Steps p.tables e below (s₁.setTop (entryFrame m #[.ref a, .ref b, .int (Int32.ofNat o), .int (Int32.ofNat len), .null] 6)) (T15.setTop (mkF m 57 #[.val (.ref a), .val (.ref b), .val (.int (Int32.ofNat o)), .val (.int (Int32.ofNat len)), .val .null, .val (.ref s.heap.size)] [])) := c14.trans (st15 _ (Steps.refl _))
  have ap := apart (Or.inr ⟨_, (wk W (.laysFinal "java/lang/String" "java/lang/String" "value" "[B"))⟩) (Or.inr ⟨_, (wk W (.laysFinal "java/lang/String" "java/lang/String" "coder" "B"))⟩) f1 f2 (t₁ := .array .byte) (t₂ := .byte) (by decide +kernel) (by decide +kernel) (by decide)
  have al := X8.warmed.alike.symm.trans X15.warmed.alike
  have n7 : T11.heap[s.heap.size]? = some N := by rw [q11]; exact n1.1
  exact ⟨T15, none, _, _, _, X15, by simp, rfl, by omega, (fun _ => rfl), ⟨rfl, _, N, bl15, ((Same.refl D _).set _ (by simp)).set _ (by simp), sl15, (Cell.slots_setSlot_ne _ ap).trans sl13, n1.keep al (p15.other hne (p13.other hne n7)), n2, by rw [al.findClass]; exact n3, n4, n5, fun y c h1 h2 => p15.other h1 (p13.other h1 (by rw [q11]; exact n6 y c h2)), by rw [p15.2.2, p13.2.2, q11]; exact z8⟩, fun fs hl => c16.trans (X15.returnOut hexec hret (hb hbytes d57) hl)⟩
end New4
namespace New1
def yN : MethodName := ⟨"java/lang/String", "<init>", "([C)V"⟩
abbrev yB : ByteArray := jdk_42_method_3_code
theorem d0 : decode yB 0 = .ok (.aload_n 0, 1) := by decide +kernel
theorem d1 : decode yB 1 = .ok (.aload_n 1, 1) := by decide +kernel
theorem d2 : decode yB 2 = .ok (.iconst 0, 1) := by decide +kernel
theorem d3 : decode yB 3 = .ok (.aload_n 1, 1) := by decide +kernel
theorem d4 : decode yB 4 = .ok (.arraylength, 1) := by decide +kernel
theorem d5 : decode yB 5 = .ok (.aconst_null, 1) := by decide +kernel
theorem d6 : decode yB 6 = .ok (.invokespecial 27, 3) := by decide +kernel
theorem d9 : decode yB 9 = .ok (.return_, 1) := by decide +kernel
def site : List Cond := [New4.tab] ++ initW "java/lang/String" 27 New4.yN
def tab : Cond := tabOf yN yB 2 none site
def P (a : Addr) (D : Cell) (fV fC : Field) (b : Addr) (A : Cell) (z : Int32) (args : Array Value) (s : State) : Prop := args = #[.ref a, .ref b] ∧ Blank "java/lang/String" a D s ∧ Found "java/lang/String" "value" "[B" fV s ∧ Found "java/lang/String" "coder" "B" fC s ∧ Ch b A s ∧ StaticIs s "java/lang/String" "COMPACT_STRINGS" "Z" (.int z) ∧ ¬ z = 0 ∧ 0 < A.slots.size ∧ A.slots.size ≤ 536870912 ∧ ∀ i, i < A.slots.size → ¬ 255 < cv A i
def E (a : Addr) (D : Cell) (fV fC : Field) (A : Cell) (r : Option Value) (s u : State) : Prop := Got a D fV fC A 0 A.slots.size r s u
/-- new String(chars), not empty, no char above 255: a Latin-1 String of their low bytes -/
theorem law (l : Launch) (a : Addr) (D : Cell) (fV fC : Field) (b : Addr) (A : Cell) (z : Int32) : Law l yN 2 1 3 52 yB 2 none site (P a D fV fC b A z) (E a D fV fC A) [⟨a, fC.slot⟩, ⟨a, fV.slot⟩] 1 A.slots.size := by
  refine Law.of_walk (plainFor_of_name (by decide +kernel)) (by decide +kernel) (by decide +kernel) (by decide) (fun _ _ h => by rw [h.1]; rfl) (fun _ U U' hal hh h => ⟨h.1, h.2.1.mv hal hh, h.2.2.1.al hal, h.2.2.2.1.al hal, h.2.2.2.2.1.mv hal hh, h.2.2.2.2.2.1.there hal hh, h.2.2.2.2.2.2⟩) (fun r U U' V V' h1 hal h2 h => Got.mv r U U' V V' h1 hal h2 h) ?_
  intro p e s m args below meth c s₁ X0 hexec hbytes hml hret hlk hnm hown hh0 W hP
  obtain ⟨rfl, hB, f1, f2, hA, s1, hz, l0, l2, hp⟩ := hP
  have c1 : Steps p.tables e below (s₁.setTop (entryFrame m #[.ref a, .ref b] 2)) (s₁.setTop (mkF m 0 #[.val (.ref a), .val (.ref b)] [])) := entry rfl
  have c2 : Steps p.tables e below (s₁.setTop (entryFrame m #[.ref a, .ref b] 2)) (s₁.setTop (mkF m 6 #[.val (.ref a), .val (.ref b)] [.null, .int (Int32.ofNat A.slots.size), .int 0, .ref b, .ref a])) := c1.trans (by
    refine XS.aloadN X0.here hexec rfl (hb hbytes d0) rfl rfl ?_
    refine XS.aloadN X0.here hexec rfl (hb hbytes d1) rfl rfl ?_
    refine iconstV X0.here hexec rfl 0 (hb hbytes d2) (by decide) ?_
    refine XS.aloadN X0.here hexec rfl (hb hbytes d3) rfl rfl ?_
    refine X0.alen hexec (hA.1.mv X0.warmed.alike hh0) rfl rfl (hb hbytes d4) ?_
    refine XS.aconstNull X0.here hexec rfl (hb hbytes d5) ?_
    exact Steps.refl _)
  obtain ⟨v3, T3, X3, E3, g3⟩ := X0.callN hexec (New4.law l a D fV fC b A z 0 A.slots.size) rfl hown (wks W (initW "java/lang/String" 27 New4.yN)) (W New4.tab (by simp only [site, List.mem_cons, List.mem_append, true_or, or_true])) (W := 0) (Nat.le_of_ble_eq_true rfl) (Nat.le_of_ble_eq_true rfl) (Nat.le_refl _) (by show 0 + A.slots.size ≤ A.slots.size; omega) (g := (mkF m 6 #[.val (.ref a), .val (.ref b)] [.null, .int (Int32.ofNat A.slots.size), .int (Int32.ofNat 0), .ref b, .ref a])) rfl (by rw [hml]; rfl) c2 (argsL := [.ref b, .int (Int32.ofNat 0), .int (Int32.ofNat A.slots.size), .null]) (rest := []) rfl rfl (by show 2 * 0 + 0 ≤ _; decide) (hb hbytes d6) (⟨rfl, hB.mv X0.warmed.alike hh0, f1.al X0.warmed.alike, f2.al X0.warmed.alike, hA.mv X0.warmed.alike hh0, s1.there X0.warmed.alike hh0, hz, l0, by omega, l2, fun i hi => by rw [Nat.zero_add]; exact hp i hi⟩)
  have e0 := Got.mv _ s₁ s _ _ hh0.symm (Vm.Alike.refl _) rfl E3
  obtain rfl := e0.1
  have c4 : Steps p.tables e below (s₁.setTop (entryFrame m #[.ref a, .ref b] 2)) (T3.setTop (mkF m 9 #[.val (.ref a), .val (.ref b)] [])) := g3
  exact ⟨T3, none, _, _, _, X3, by simp, rfl, by omega, (fun _ => rfl), e0, fun fs hl => c4.trans (X3.returnOut hexec hret (hb hbytes d9) hl)⟩
theorem pays {l : Launch} {R : Room} {p : Program} {e : Env} {below : List Frame} {s : State} {sargs : Array Value} {len W : Nat} (a : Addr) (D : Cell) (fV fC : Field) (b : Addr) (A : Cell) (z : Int32) (htab : tab.before sargs s = true) (hfr : 4 ≤ R.frames) (hlo : W + 65 ≤ R.locals) :
    Back l R p e below s sargs yN len W (fun A₁ a₁ => A₁.cells + 1 ≤ R.cells ∧ A₁.slots + A.slots.size ≤ R.slots ∧ P a D fV fC b A z a₁ A₁.U) (fun A₁ _ v₁ B₁ => E a D fV fC A v₁ A₁.U B₁.U ∧ B₁.locs = A₁.locs ++ [⟨a, fC.slot⟩, ⟨a, fV.slot⟩] ∧ B₁.cells = A₁.cells + 1 ∧ B₁.slots = A₁.slots + A.slots.size) :=
  (law l a D fV fC b A z).pays htab hfr (by omega)
end New1
end StrChars
namespace StrChars.Road
open Jvm Sem ClassFile Op Lib Jvm.Stand Jvm.Free Jvm.Free.XT
open Jvm.Lib.Cold (StaticIs)
abbrev ST : String := "java/lang/String"
/-- every table word that New1's law asks, flat -/
abbrev words : List Jvm.Cond := [.code New1.yN New1.yB 2 none, .initialized ST, .methodLink ST 27 New4.yN, .instanceMethod New4.yN,
  .code New4.yN New4.yB 6 none, .fieldLink ST 38 ST "COMPACT_STRINGS" "Z", .laysFinal ST ST "value" "[B", .fieldLink ST 9 ST "value" "[B", .laysFinal ST ST "coder" "B", .fieldLink ST 15 ST "coder" "B",
  .methodLink ST 1 Lib.objectInit, .instanceMethod Lib.objectInit, .code Lib.objectInit ⟨#[0xb1]⟩ 1 none, .methodLink ST 177 Cmp3.yN, .static Cmp3.yN, .methodLink ST 47 CodL.yN, .static CodL.yN,
  .code Cmp3.yN Cmp3.yB 6 (some (.array .byte)), .initialized U16, .arrayClass .byte, .methodLink U16 115 Cmp5.yN, .static Cmp5.yN, .code Cmp5.yN Cmp5.yB 7 (some .int), .code CodL.yN CodL.yB 2 (some .byte)]
theorem tab_of {a : Array Value} {s : State} (h : ∀ w ∈ words, w.before a s = true) : New1.tab.before a s = true := by
  have h5 : Cmp5.tab.before a s = true := unparts (wk h (.code Cmp5.yN Cmp5.yB 7 (some .int))) (wks h (.initialized Cmp5.yN.cls :: Cmp5.site))
  have hc : CodL.tab.before a s = true := unparts (wk h (.code CodL.yN CodL.yB 2 (some .byte))) (wks h (.initialized CodL.yN.cls :: CodL.site))
  have q5 : ∀ w ∈ Cmp5.tab :: words, w.before a s = true := fun w hw => (List.mem_cons.mp hw).elim (fun e => e ▸ h5) (h w)
  have h3 : Cmp3.tab.before a s = true := unparts (wk q5 (.code Cmp3.yN Cmp3.yB 6 (some (.array .byte)))) (wks q5 (.initialized Cmp3.yN.cls :: Cmp3.site))
  have q3 : ∀ w ∈ Cmp3.tab :: CodL.tab :: words, w.before a s = true := fun w hw => (List.mem_cons.mp hw).elim (fun e => e ▸ h3) fun hw => (List.mem_cons.mp hw).elim (fun e => e ▸ hc) (h w)
  have h4 : New4.tab.before a s = true := unparts (wk q3 (.code New4.yN New4.yB 6 none)) (wks q3 (.initialized New4.yN.cls :: New4.site))
  have q4 : ∀ w ∈ New4.tab :: words, w.before a s = true := fun w hw => (List.mem_cons.mp hw).elim (fun e => e ▸ h4) (h w)
  exact unparts (wk q4 (.code New1.yN New1.yB 2 none)) (wks q4 (.initialized New1.yN.cls :: New1.site))
/-- the words ride from the start Z to the walk's own state -/
theorem moved {Z s : State} {a0 args : Array Value} (hZ : Z.Warmed39 s.vm) (hw : ∀ d ∈ words, d.before a0 Z = true) : ∀ d ∈ words, d.before args s = true := fun d hd => by
  have q := hw d hd
  have t : ∀ d ∈ words, d = .arrayClass .byte ∨ (d.onTables && d.keepsFace) = true := by decide +kernel
  rcases t d hd with rfl | t
  · exact RoadKit.mvA hZ q
  · exact RoadKit.mv hZ q t
/-- WHAT COMES BACK, over the tables of the start Z: h the heap at the call, h' behind it -/
def Q (Z : State) (x : Addr) (A : Cell) (h : Heap) (v : Option Value) (h' : Heap) (L : List Loc) : Prop := v = none ∧ (∀ y ∈ L, y.base = x) ∧ RoadKit.Keep h h' [x] ∧ h'.size = h.size + 1 ∧ RoadKit.Exa Z h' x ST ∧ RoadKit.Fld Z h' x ST "value" "[B" (.ref h.size) ∧ RoadKit.Fld Z h' x ST "coder" "B" (.int 0) ∧
  (∃ V : Cell, RoadKit.Arr Z h' h.size V .byte ∧ V.vm = .none ∧ Z.vm.findClass "[B" = some V.cls ∧ V.slots.size = A.slots.size ∧ ∀ j, j < A.slots.size → V.slots[j]? = some (.int (lo8 (cv A j)))) ∧
  ∀ (O n d : String) (w : Value), RoadKit.Fld Z h x O n d w → RoadKit.slotOf Z O n d ≠ RoadKit.slotOf Z ST "value" "[B" → RoadKit.slotOf Z O n d ≠ RoadKit.slotOf Z ST "coder" "B" → RoadKit.Fld Z h' x O n d w
/-- **new String(chars) AT A CALL, IN THE ROAD'S FORM**: for specialBack behind newO: x the fresh String, b the char[] with the cell A -/
theorem back {p : Program} {l : Launch} {e : Env} {R : Room} {s : State} {args : Array Value} {below : List Frame} {len W : Nat} {Z : State} {a0 : Array Value} {h : Heap} (hZ : Z.Warmed39 s.vm) (hw : ∀ d ∈ words, d.before a0 Z = true) {kI : Nat} (wi : (Jvm.Cond.instantiable ST kI).before a0 Z = true)
    {x b : Addr} {A : Cell} {z : Int32} {v0 c0 : Value} (E : RoadKit.Exa Z h x ST) (V : RoadKit.Fld Z h x ST "value" "[B" v0) (C : RoadKit.Fld Z h x ST "coder" "B" c0) (K : RoadKit.Arr Z h b A .char) (hty : Typed .char A) (S : RoadKit.Sta Z h ST "COMPACT_STRINGS" "Z" (.int z)) (hz : ¬ z = 0)
    (l0 : 0 < A.slots.size) (l2 : A.slots.size ≤ 536870912) (hp : ∀ i, i < A.slots.size → ¬ 255 < cv A i) (hfr : 4 ≤ R.frames) (hlo : W + 65 ≤ R.locals) :
    Back l R p e below s args New1.yN len W (fun P a => a = #[.ref x, .ref b] ∧ P.U.heap = h ∧ P.cells + 1 ≤ R.cells ∧ P.slots + A.slots.size ≤ R.slots)
      (fun P _ v B => ∃ L, Q Z x A h v B.U.heap L ∧ B.locs = P.locs ++ L ∧ B.cells = P.cells + 1 ∧ B.slots = P.slots + A.slots.size) := by
  intro m meth c P g ig mk a X hg hsize hdg hW hn hp'
  obtain ⟨rfl, rfl, r1, r2⟩ := hp'
  have al : Z.vm.Alike P.U.vm := hZ.alike.trans X.warmed.alike
  obtain ⟨D, cfV, kV, iV, fV, hD, gV, stV, knV, obV, asV, slV⟩ := id V
  obtain ⟨D', cfC, kC, iC, fC, hD', gC, stC, -, -, asC, slC⟩ := id C
  cases hD.symm.trans hD'
  obtain ⟨D2, kD, e1, e2, e3, e4, e5⟩ := id E
  cases hD.symm.trans e1
  obtain ⟨c2, k2, i1, i2, i3, -⟩ := Cond.instantiable_spec wi
  cases e2.symm.trans i1
  cases e3.symm.trans i2
  obtain ⟨kU, u1, u2⟩ := al.2.2 _ _ e3
  have hB : Blank ST x D P.U := ⟨hD, ⟨knV, fun q hq => by rw [hq] at obV; cases obV⟩, by rw [al.findClass]; exact e2, kU, u1, by rw [u2]; exact i3, by rw [u2]; exact e5 i3⟩
  have F1 : Found ST "value" "[B" fV P.U := ⟨SBG.found_only al ⟨cfV, kV, iV, gV⟩, stV⟩
  have F2 : Found ST "coder" "B" fC P.U := ⟨SBG.found_only al ⟨cfC, kC, iC, gC⟩, stC⟩
  have hA : Ch b A P.U := ⟨⟨K.1, State.isArrayOf_alike al K.2.1, K.2.2, by omega⟩, hty⟩
  have hS : StaticIs P.U ST "COMPACT_STRINGS" "Z" (.int z) := by
    obtain ⟨cfS, iS, kS, fS, st, cS, t1, t2, t3, t4, t5, t6, t7⟩ := S
    exact StaticIs.there (s := { Z with heap := P.U.heap }) ⟨cfS, iS, kS, fS, st, cS, t1, t2, t3, t4, t5, (fun q => by rw [q] at t6; cases t6), t7⟩ al rfl
  obtain ⟨v, B, X', ⟨⟨hv, E', V', q1, q2, q3, q4, q5, q6, q7, q8, q9, q10, q11⟩, hl, hc, hs⟩, st⟩ := New1.pays x D fV fC b A z (tab_of (moved hZ hw)) hfr hlo m meth c P g ig mk _ X hg hsize hdg hW hn ⟨r1, r2, rfl, hB, F1, F2, hA, hS, hz, l0, l2, hp⟩
  have al' : Z.vm.Alike B.U.vm := hZ.alike.trans X'.warmed.alike
  have hsz : E'.slots.size = D.slots.size := by
    obtain ⟨-, -, -, kB, w1, w2, w3⟩ := q1
    obtain ⟨kB', y1, y2⟩ := al'.2.2 _ _ e3
    rw [q2.2.1] at w1
    cases w1.symm.trans y1
    rw [w3, e5 i3, y2]
  refine ⟨v, B, X', ⟨_, ⟨hv, ?_, ⟨by omega, fun y cy hy hn' => q10 y cy (by simpa using hn') hy, fun y cy hy => ?_⟩, q11, ⟨E', _, q1.1, by rw [q2.2.1]; exact e2, by rw [q2.2.1]; exact e3, by rw [q2.1]; exact obV, fun _ => by rw [hsz]; exact e5 i3⟩,
    ⟨E', cfV, kV, iV, fV, q1.1, gV, stV, by rw [q2.1]; exact knV, by rw [q2.1]; exact obV, by rw [q2.2.1]; exact asV, q3⟩, ⟨E', cfC, kC, iC, fC, q1.1, gC, stC, by rw [q2.1]; exact knV, by rw [q2.1]; exact obV, by rw [q2.2.1]; exact asC, q4⟩,
    ⟨V', ⟨q5.1, State.isArrayOf_alike al'.symm q5.2.1, q5.2.2.1⟩, q6, by rw [← al'.findClass]; exact q7, q8, fun j hj => by have := q9 j hj; rwa [Nat.zero_add] at this⟩, fun O n d w F n1 n2 => ?_⟩, hl, hc, hs⟩, st⟩
  · intro y hy
    simp only [List.mem_cons, List.not_mem_nil, or_false] at hy
    rcases hy with rfl | rfl <;> rfl
  · by_cases q : y = x
    · subst q
      cases hD.symm.trans hy
      exact ⟨E', q1.1, q2.2.1, q2.1, hsz⟩
    · exact ⟨cy, q10 y cy q hy, rfl, rfl, rfl⟩
  · obtain ⟨D3, cf, k, i, f, g1, g2, g3, g4, g5, g6, g7⟩ := F
    cases hD.symm.trans g1
    simp only [RoadKit.slotOf, g2, gV, gC, Option.map_some, Option.getD_some] at n1 n2
    exact ⟨E', cf, k, i, f, q1.1, g2, g3, by rw [q2.1]; exact g4, by rw [q2.1]; exact g5, by rw [q2.2.1]; exact g6, by rw [q2.2.2 f.slot (by simp [n1, n2])]; exact g7⟩
end StrChars.Road
namespace StrChars.Road
open Jvm Sem ClassFile Op Lib Jvm.Stand Jvm.Free Jvm.Free.XT
/-- WHAT COMES BACK, the byte[] as a list of values -/
def QA (Z : State) (x : Addr) (zn : Int32) (cs : List Int32) (h : Heap) (v : Option Value) (h' : Heap) (L : List Loc) : Prop := v = none ∧ (∀ y ∈ L, y.base = x) ∧ RoadKit.Keep h h' [x] ∧ h'.size = h.size + 1 ∧ RoadKit.Exa Z h' x ST ∧ RoadKit.Fld Z h' x ST "value" "[B" (.ref h.size) ∧ RoadKit.Fld Z h' x ST "coder" "B" (.int 0) ∧
  (∃ kb, Z.vm.findClass "[B" = some kb ∧ RoadKit.Arv Z h' h.size kb .byte zn (cs.map fun c => .int (lo8 c)) (.int 0)) ∧
  ∀ (O n d : String) (w : Value), RoadKit.Fld Z h x O n d w → RoadKit.slotOf Z O n d ≠ RoadKit.slotOf Z ST "value" "[B" → RoadKit.slotOf Z O n d ≠ RoadKit.slotOf Z ST "coder" "B" → RoadKit.Fld Z h' x O n d w
/-- **new String(chars) AT A CALL, THE ARRAYS AS LISTS**: the char[] at b holds cs, not empty, no char above 255 -/
theorem backArv {p : Program} {l : Launch} {e : Env} {R : Room} {s : State} {args : Array Value} {below : List Frame} {len W : Nat} {Z : State} {a0 : Array Value} {h : Heap} (hZ : Z.Warmed39 s.vm) (hw : ∀ d ∈ words, d.before a0 Z = true) {kI : Nat} (wi : (Jvm.Cond.instantiable ST kI).before a0 Z = true)
    {x b : Addr} {k : ClassId} {zn z : Int32} {cs : List Int32} {dv v0 c0 : Value} (E : RoadKit.Exa Z h x ST) (V : RoadKit.Fld Z h x ST "value" "[B" v0) (C : RoadKit.Fld Z h x ST "coder" "B" c0) (K : RoadKit.Arv Z h b k .char zn (cs.map Value.int) dv) (S : RoadKit.Sta Z h ST "COMPACT_STRINGS" "Z" (.int z)) (hz : ¬ z = 0)
    (hlen : zn.toNatClampNeg = cs.length) (h0 : 0 < cs.length) (hbig : cs.length ≤ 536870912) (hall : ∀ c ∈ cs, ¬ 255 < c) (hfr : 4 ≤ R.frames) (hlo : W + 65 ≤ R.locals) :
    Back l R p e below s args New1.yN len W (fun P a => a = #[.ref x, .ref b] ∧ P.U.heap = h ∧ P.cells + 1 ≤ R.cells ∧ P.slots + cs.length ≤ R.slots)
      (fun P _ v B => ∃ L, QA Z x zn cs h v B.U.heap L ∧ B.locs = P.locs ++ L ∧ B.cells = P.cells + 1 ∧ B.slots = P.slots + cs.length) := by
  obtain ⟨A, K1, K2, K3, K4, K5, K6⟩ := K
  have e : A.slots.size = cs.length := K3.trans hlen
  have hat : ∀ (i : Nat) (hi : i < cs.length), A.slots[i]? = some (.int cs[i]) := fun i hi => by rw [K5 i (by omega)]; simp [List.getD_eq_getElem?_getD, hi]
  have hcv : ∀ (i : Nat) (hi : i < cs.length), cv A i = cs[i] := fun i hi => by unfold cv; rw [hat i hi]
  have hty : Typed .char A := fun i v hv => by
    have hi : i < A.slots.size := (Array.getElem?_eq_some_iff.mp hv).1
    have q := K5 i hi
    rw [hv] at q
    rw [Option.some.inj q]
    exact K6 i hi
  refine Back.mono (back hZ hw wi E V C K1 hty S hz (by omega) (by omega) (fun i hi => by rw [hcv i (by omega)]; exact hall _ (List.getElem_mem _)) hfr hlo) (fun P a hp => ⟨hp.1, hp.2.1, hp.2.2.1, by rw [e]; exact hp.2.2.2⟩) (fun P a v B hp hq => ?_)
  obtain ⟨L, ⟨q1, q2, q3, q4, q5, q6, q7, ⟨V', v1, v2, v3, v4, v5⟩, q9⟩, hl, hc, hs⟩ := hq
  refine ⟨L, ⟨q1, q2, q3, q4, q5, q6, q7, ⟨V'.cls, v3, V', v1, rfl, by rw [v4, e, hlen], K4, fun i hi => ?_, fun i hi => ?_⟩, q9⟩, hl, hc, by rw [hs, e]⟩
  · have hi' : i < cs.length := by omega
    rw [v5 i (by omega), hcv i hi']; simp [List.getD_eq_getElem?_getD, hi']
  · have hi' : i < cs.length := by omega
    simp only [List.getD_eq_getElem?_getD, List.getElem?_map, List.getElem?_eq_getElem hi', Option.map_some, Option.getD_some]
    exact fits_lo8 _
end StrChars.Road
namespace StrChars.Road
open Jvm Sem ClassFile Op Lib Jvm.Stand Jvm.Free Jvm.Free.XT
/-- WHAT COMES BACK, in the writer's own shape -/
def QV (Z : State) (x : Addr) (N : Int32) (bs : List Int32) (h : Heap) (n0 : Nat) (v : Option Value) (h' : Heap) (L : List Loc) : Prop := v = none ∧ RoadKit.Fr n0 L ∧ RoadKit.Keep h h' [x] ∧ RoadKit.Exa Z h' x ST ∧ RoadKit.Fld Z h' x ST "coder" "B" (.int 0) ∧
  ∃ (t : Addr) (kb : ClassId), n0 ≤ t ∧ h.size ≤ t ∧ ¬ t = x ∧ RoadKit.Fld Z h' x ST "value" "[B" (.ref t) ∧ RoadKit.Arv Z h' t kb .byte N (bs.map Value.int) (.int 0)
/-- **new String(chars) AT A CALL, FOR THE WRITER**: a char[] of n known ints, each 0 to 255 -/
theorem backV {p : Program} {l : Launch} {e : Env} {R : Room} {s : State} {args : Array Value} {below : List Frame} {len W : Nat} {Z : State} {a0 : Array Value} {h : Heap} (hZ : Z.Warmed39 s.vm) (hw : ∀ d ∈ words, d.before a0 Z = true) {kI : Nat} (wi : (Jvm.Cond.instantiable ST kI).before a0 Z = true)
    {x b : Addr} {kC : ClassId} {cs bs : List Int32} {d v0 c0 : Value} {z N : Int32} {n n0 : Nat} (hx0 : n0 ≤ x) (hh0 : n0 ≤ h.size) (E : RoadKit.Exa Z h x ST) (V : RoadKit.Fld Z h x ST "value" "[B" v0) (C : RoadKit.Fld Z h x ST "coder" "B" c0) (K : RoadKit.Arv Z h b kC .char N (cs.map Value.int) d) (S : RoadKit.Sta Z h ST "COMPACT_STRINGS" "Z" (.int z)) (hz : ¬ z = 0)
    (hn : cs.length = n) (hN : N = Int32.ofNat n) (l0 : 0 < n) (l2 : n ≤ 4000) (hp : ∀ c ∈ cs, ¬ c < 0 ∧ ¬ (255 : Int32) < c) (hb : bs = cs.map (fun c => c.toInt8.toInt32)) (hfr : 4 ≤ R.frames) (hlo : W + 65 ≤ R.locals) :
    Back l R p e below s args (⟨"java/lang/String", "<init>", "([C)V"⟩ : MethodName) len W (fun P a => a = #[.ref x, .ref b] ∧ P.U.heap = h ∧ P.cells + 1 ≤ R.cells ∧ P.slots + n ≤ R.slots)
      (fun P _ v B => ∃ L, QV Z x N bs h n0 v B.U.heap L ∧ B.locs = P.locs ++ L ∧ B.cells = P.cells + 1 ∧ B.slots = P.slots + n) := by
  subst hn hN hb
  refine Back.mono (backArv hZ hw wi E V C K S hz (n32 (by omega)) l0 (by omega) (fun c hc => (hp c hc).2) hfr hlo) (fun P a hp => hp) (fun P a v B hp hq => ?_)
  obtain ⟨L, ⟨q1, q2, q3, q4, q5, q6, q7, ⟨kb, v1, v2⟩, q9⟩, hl, hc, hs⟩ := hq
  exact ⟨L, ⟨q1, fun y hy => by rw [q2 y hy]; exact hx0, q3, q5, q7, h.size, kb, hh0, Nat.le_refl _, Nat.ne_of_gt E.lt, q6, by rw [List.map_map]; exact v2⟩, hl, hc, hs⟩
end StrChars.Road
end Jvm.Pilot.@@N@@
namespace Jvm.Pilot.@@N@@
open Jvm Jvm.ClassFile Sem Op Lib Jvm.Free Jvm.Stand Jvm.LawKit Jvm.RoadKit Bundle Jvm.Pilot.@@N@@.Jvm.D
theorem oW {Z : State} {a0 : Array Value} (hw : ∀ d ∈ tables_1, d.before a0 Z = true) (i : Nat) {d : Jvm.Cond} (h : tables_1[i]? = some d) : d.before a0 Z = true := hw d (List.mem_of_getElem? h)
abbrev oI (x : Int32) : Slot := .val (.int x)
abbrev oR (x : Addr) : Slot := .val (.ref x)
abbrev oV (x : Value) : Slot := .val x
abbrev oN : Slot := .val .null
abbrev oU : Slot := .unset
abbrev oi (x : Int32) : Value := .int x
abbrev ow (x : Addr) : Value := .ref x
abbrev oS (p : Program) (e : Env) (below : List Frame) (T : State) (g : JFrame) (t : State) : Prop := Steps p.tables e below (T.setTop g) t
abbrev oL (p : Program) (e : Env) (below : List Frame) (T : State) (g : JFrame) (T' : State) (g' : JFrame) : Prop := ∀ t, Steps p.tables e below (T.setTop g) t → Steps p.tables e below (T'.setTop g') t
theorem own_fldI {args : Array Value} {Z : State} {t : Term} {C n d : String} {k : Int32} {a : Addr} (ev : t.eval args Z none [] Z = some (.ref a)) (h : (Jvm.Cond.eq (.field t C n d) (.int k)).value args Z none Z [] = some true) : Fld Z Z.heap a C n d (.int k) := by
  obtain ⟨x, y, h1, h2, hk, hk'⟩ := cmp_v (Or.inl h)
  have h2' : y = .int k := by simpa [Term.eval] using h2.symm
  subst h2'
  obtain ⟨z, rfl⟩ : ∃ z, x = .int z := hk'
  have : z = k := by simpa [Cond.value, h1, h2] using h
  subst this
  exact Fld.start ((fld_at ev).symm.trans h1)
theorem own_nb {b : Int32} (h : b = 0 ∨ b = 1) : nar .boolean b = b := by rcases h with rfl | rfl <;> rfl
theorem own_st1 {v : Value} (h : v.isRef = true) {l l' : Array Slot} {i : Nat} (hold : l[i]? = some .unset) (h2 : l.setIfInBounds i (.val v) = l') : storeLocals l i v = some l' := by
  subst h2
  exact XS.store1 hold (Or.inl rfl) (by rcases ref_cases h with rfl | ⟨a, rfl⟩ <;> rfl)
theorem own_narw_bool {x : Int32} (h : nar .boolean x = x) : narrow .boolean (.int x) = .int x := by show Value.int (nar .boolean x) = _; rw [h]
theorem own_fitw_bool {x : Int32} (h : nar .boolean x = x) : fits .boolean (.int x) = true := by rw [← h]; exact fits_nar_bool x
theorem own_narw_char {x : Int32} (h : nar .char x = x) : narrow .char (.int x) = .int x := by show Value.int (nar .char x) = _; rw [h]
theorem own_fitw_char {x : Int32} (h : nar .char x = x) : fits .char (.int x) = true := by rw [← h]; exact fits_nar_char x
theorem own_fitsR {C : String} {v : Value} (h : v.isRef = true) : fits (.object C) v = true := by rcases ref_cases h with rfl | ⟨a, rfl⟩ <;> rfl
theorem own_charN (x : Int32) : (x.toUInt32.toUInt16.toUInt32.toInt32).toBitVec.toNat = x.toBitVec.toNat % 65536 := by
  show ((x.toBitVec.setWidth 16).setWidth 32).toNat = _
  simp
  omega
theorem own_narc {x : Int32} (h : x.toBitVec.toNat < 65536) : x.toUInt32.toUInt16.toUInt32.toInt32 = x := by
  apply Int32.toBitVec_inj.mp
  apply BitVec.eq_of_toNat_eq
  rw [own_charN, Nat.mod_eq_of_lt h]
theorem own_i2c (x : Int32) : nar .char (x.toUInt32.toUInt16.toUInt32.toInt32) = x.toUInt32.toUInt16.toUInt32.toInt32 := by
  show (x.toUInt32.toUInt16.toUInt32.toInt32).toUInt32.toUInt16.toUInt32.toInt32 = _
  exact own_narc (by rw [own_charN]; exact Nat.mod_lt _ (by decide))
theorem own_c255 (x : Int32) : ¬ nar .char ((x &&& (255 : Int32)).toUInt32.toUInt16.toUInt32.toInt32) < 0 ∧ ¬ (255 : Int32) < nar .char ((x &&& (255 : Int32)).toUInt32.toUInt16.toUInt32.toInt32) := by
  have t : ∀ k : Fin 256, ¬ nar .char ((Int32.ofNat k.val).toUInt32.toUInt16.toUInt32.toInt32) < 0 ∧ ¬ (255 : Int32) < nar .char ((Int32.ofNat k.val).toUInt32.toUInt16.toUInt32.toInt32) := by decide +kernel
  have h : (x &&& 255).toBitVec.toNat < 256 := by
    simp only [Int32.toBitVec_and, BitVec.toNat_and]
    exact Nat.lt_succ_of_le Nat.and_le_right
  have e : (x &&& 255) = Int32.ofNat (x &&& 255).toBitVec.toNat := by
    apply Int32.toBitVec_inj.mp
    show _ = BitVec.ofNat 32 _
    rw [BitVec.ofNat_toNat]; simp
  rw [e]
  exact t ⟨_, h⟩
theorem own_hws : ∀ d ∈ StrChars.Road.words, d ∈ tables_1 := by decide +kernel
theorem own_and3 (x : Int32) : x &&& 3 = 0 ∨ x &&& 3 = 1 ∨ x &&& 3 = 2 ∨ x &&& 3 = 3 := by
  have e := Jvm.Kit.i32_mask x 3 (k := 2) (by decide) (by decide)
  have q : (x &&& 3).toInt = 0 ∨ (x &&& 3).toInt = 1 ∨ (x &&& 3).toInt = 2 ∨ (x &&& 3).toInt = 3 := by omega
  rcases q with q | q | q | q
  · exact Or.inl (Int32.toInt_inj.mp (q.trans (by decide)))
  · exact Or.inr (Or.inl (Int32.toInt_inj.mp (q.trans (by decide))))
  · exact Or.inr (Or.inr (Or.inl (Int32.toInt_inj.mp (q.trans (by decide)))))
  · exact Or.inr (Or.inr (Or.inr (Int32.toInt_inj.mp (q.trans (by decide)))))
theorem own_EW (Z : State) (a0 : Array Value) (hw : ∀ d ∈ tables_1, d.before a0 Z = true) : EW Z a0 consts_1 := (EW.cons (oW hw 33 rfl) (by decide) (EW.cons (oW hw 112 rfl) (by decide) EW.nil))
theorem own_wS (Z : State) (a0 : Array Value) (hw : ∀ d ∈ tables_1, d.before a0 Z = true) : ∀ d ∈ Bundle.stringAtoms, d.before a0 Z = true := fun d hd => hw d ((by decide +kernel : ∀ d ∈ Bundle.stringAtoms, d ∈ tables_1) d hd)
theorem own_safe_null {Z : State} {EL : List (String × Nat)} {vm : Vm} {h : Heap} {x : Addr} (hal : Z.vm.Alike vm) (E : Exa Z h x "java/lang/String") (F : Fld Z h x "java/lang/String" "value" "[B" .null) (a0 : Array Value) (wi : (Jvm.Cond.instantiable "java/lang/String" 4).before a0 Z = true) : Safe Z EL vm h x := fun B => by
  obtain ⟨p, -, u, a, -, q, rfl, ⟨cS, ⟨⟨s1, s2, s3, ⟨cv, kv, iv, s4, s4'⟩, s5, s6, s7, s8, s9, s10, s11, s12, s13, s14, s15, s16⟩, hfS, hcS⟩, -, hB, -⟩, hy⟩ := B
  rcases hy with rfl | rfl
  · obtain ⟨cell, cf, k, i, f, g1, g2, g3, g4, g5, g6, g7⟩ := F
    obtain ⟨k', z4⟩ := ff_back (Z := Z) (U := Wst Z vm h) hal s4
    cases g2.symm.trans z4
    cases g1.symm.trans s1
    cases g7.symm.trans s8
  · obtain ⟨c1, k1, e1, f1, g1, -⟩ := E
    cases e1.symm.trans s10
    obtain ⟨-, kk, hk, comp, hkind⟩ := s11
    obtain ⟨cI, kI, i1, i2, i3, -⟩ := Cond.instantiable_spec wi
    cases f1.symm.trans i1
    obtain ⟨k', q1, q2⟩ := hal.2.2 _ _ i2
    cases q1.symm.trans hk
    rw [q2, i3] at hkind; cases hkind
theorem own_ch (x : Int32) : ¬ ((x &&& (255 : Int32)).toUInt32.toUInt16.toUInt32.toInt32) < 0 ∧ ¬ (255 : Int32) < ((x &&& (255 : Int32)).toUInt32.toUInt16.toUInt32.toInt32) := by
  have h := own_c255 x
  rwa [own_i2c] at h
theorem own_can0 {p : Int32} {z : Int32} (h : (if p < 0 then 0 else if (255 : Int32) < p then 0 else 1) = (0 : Int32)) : (if p < 0 then -1 else if (255 : Int32) < p then -1 else z) = -1 := by
  split
  · rfl
  · rename_i h1
    rw [if_neg h1] at h
    split
    · rfl
    · rename_i h2
      rw [if_neg h2] at h; exact absurd h (by decide)
theorem own_can1 {p : Int32} {z : Int32} (h : ¬ (if p < 0 then 0 else if (255 : Int32) < p then 0 else 1) = (0 : Int32)) : (if p < 0 then -1 else if (255 : Int32) < p then -1 else z) = z := by
  split
  · rename_i h1; rw [if_pos h1] at h; exact absurd rfl h
  · rename_i h1
    rw [if_neg h1] at h
    split
    · rename_i h2; rw [if_pos h2] at h; exact absurd rfl h
    · rfl
theorem own_b8 {x y : Int32} (hx : ¬ x < 0 ∧ ¬ (255 : Int32) < x) (hy : ¬ y < 0 ∧ ¬ (255 : Int32) < y) (h : x.toInt8.toInt32 = y.toInt8.toInt32) : x = y := by
  have e0 : (0 : Int32).toInt = 0 := rfl
  have e1 : (255 : Int32).toInt = 255 := rfl
  simp only [Int32.lt_iff_toInt_lt, e0, e1] at hx hy
  have h' := congrArg Int32.toInt h
  simp only [Int8.toInt_toInt32, Int32.toInt_toInt8] at h'
  apply Int32.toInt_inj.mp
  rw [Int.bmod_def, Int.bmod_def] at h'
  split at h' <;> split at h' <;> omega
theorem own_al0 (p : Int32) : (0 : Int32) = if (if p < 0 then -1 else if (255 : Int32) < p then -1 else (-1 : Int32)) < 0 then 0 else 1 := by split <;> (try split) <;> simp_all
theorem own_al1_no {p x0 : Int32} (h0 : ¬ x0 < 0 ∧ ¬ (255 : Int32) < x0) (q0 : ¬ p = x0) : (0 : Int32) = if (if p < 0 then -1 else if (255 : Int32) < p then -1 else (if x0.toInt8.toInt32 = p.toInt8.toInt32 then 0 else -1 : Int32)) < 0 then 0 else 1 := by
  by_cases a : p < 0
  · rw [if_pos a]; decide
  · by_cases b : (255 : Int32) < p
    · rw [if_neg a, if_pos b]; decide
    · have e : (if x0.toInt8.toInt32 = p.toInt8.toInt32 then 0 else -1 : Int32) = -1 := by
        rw [if_neg (fun e => q0 (own_b8 ⟨a, b⟩ h0 e.symm))]
      rw [if_neg a, if_neg b, e]; decide
theorem own_al1_yes0 {p x0 : Int32} (h0 : ¬ x0 < 0 ∧ ¬ (255 : Int32) < x0) (q : p = x0) : (1 : Int32) = if (if p < 0 then -1 else if (255 : Int32) < p then -1 else (if x0.toInt8.toInt32 = p.toInt8.toInt32 then 0 else -1 : Int32)) < 0 then 0 else 1 := by
  rw [if_neg (q ▸ h0.1 : ¬ p < 0), if_neg (q ▸ h0.2 : ¬ (255 : Int32) < p)]
  have e : ¬ (if x0.toInt8.toInt32 = p.toInt8.toInt32 then 0 else -1 : Int32) < 0 := by
    rw [q]
    repeat' split
    all_goals first | decide | exact absurd rfl ‹¬ x0.toInt8.toInt32 = x0.toInt8.toInt32›
  rw [if_neg e]
theorem own_al2_no {p x0 x1 : Int32} (h0 : ¬ x0 < 0 ∧ ¬ (255 : Int32) < x0) (h1 : ¬ x1 < 0 ∧ ¬ (255 : Int32) < x1) (q0 : ¬ p = x0) (q1 : ¬ p = x1) : (0 : Int32) = if (if p < 0 then -1 else if (255 : Int32) < p then -1 else (if x0.toInt8.toInt32 = p.toInt8.toInt32 then 0 else if x1.toInt8.toInt32 = p.toInt8.toInt32 then 1 else -1 : Int32)) < 0 then 0 else 1 := by
  by_cases a : p < 0
  · rw [if_pos a]; decide
  · by_cases b : (255 : Int32) < p
    · rw [if_neg a, if_pos b]; decide
    · have e : (if x0.toInt8.toInt32 = p.toInt8.toInt32 then 0 else if x1.toInt8.toInt32 = p.toInt8.toInt32 then 1 else -1 : Int32) = -1 := by
        rw [if_neg (fun e => q0 (own_b8 ⟨a, b⟩ h0 e.symm)), if_neg (fun e => q1 (own_b8 ⟨a, b⟩ h1 e.symm))]
      rw [if_neg a, if_neg b, e]; decide
theorem own_al2_yes0 {p x0 x1 : Int32} (h0 : ¬ x0 < 0 ∧ ¬ (255 : Int32) < x0) (h1 : ¬ x1 < 0 ∧ ¬ (255 : Int32) < x1) (q : p = x0) : (1 : Int32) = if (if p < 0 then -1 else if (255 : Int32) < p then -1 else (if x0.toInt8.toInt32 = p.toInt8.toInt32 then 0 else if x1.toInt8.toInt32 = p.toInt8.toInt32 then 1 else -1 : Int32)) < 0 then 0 else 1 := by
  rw [if_neg (q ▸ h0.1 : ¬ p < 0), if_neg (q ▸ h0.2 : ¬ (255 : Int32) < p)]
  have e : ¬ (if x0.toInt8.toInt32 = p.toInt8.toInt32 then 0 else if x1.toInt8.toInt32 = p.toInt8.toInt32 then 1 else -1 : Int32) < 0 := by
    rw [q]
    repeat' split
    all_goals first | decide | exact absurd rfl ‹¬ x0.toInt8.toInt32 = x0.toInt8.toInt32›
  rw [if_neg e]
theorem own_al2_yes1 {p x0 x1 : Int32} (h0 : ¬ x0 < 0 ∧ ¬ (255 : Int32) < x0) (h1 : ¬ x1 < 0 ∧ ¬ (255 : Int32) < x1) (q : p = x1) : (1 : Int32) = if (if p < 0 then -1 else if (255 : Int32) < p then -1 else (if x0.toInt8.toInt32 = p.toInt8.toInt32 then 0 else if x1.toInt8.toInt32 = p.toInt8.toInt32 then 1 else -1 : Int32)) < 0 then 0 else 1 := by
  rw [if_neg (q ▸ h1.1 : ¬ p < 0), if_neg (q ▸ h1.2 : ¬ (255 : Int32) < p)]
  have e : ¬ (if x0.toInt8.toInt32 = p.toInt8.toInt32 then 0 else if x1.toInt8.toInt32 = p.toInt8.toInt32 then 1 else -1 : Int32) < 0 := by
    rw [q]
    repeat' split
    all_goals first | decide | exact absurd rfl ‹¬ x1.toInt8.toInt32 = x1.toInt8.toInt32›
  rw [if_neg e]
theorem own_al3_no {p x0 x1 x2 : Int32} (h0 : ¬ x0 < 0 ∧ ¬ (255 : Int32) < x0) (h1 : ¬ x1 < 0 ∧ ¬ (255 : Int32) < x1) (h2 : ¬ x2 < 0 ∧ ¬ (255 : Int32) < x2) (q0 : ¬ p = x0) (q1 : ¬ p = x1) (q2 : ¬ p = x2) : (0 : Int32) = if (if p < 0 then -1 else if (255 : Int32) < p then -1 else (if x0.toInt8.toInt32 = p.toInt8.toInt32 then 0 else if x1.toInt8.toInt32 = p.toInt8.toInt32 then 1 else if x2.toInt8.toInt32 = p.toInt8.toInt32 then 2 else -1 : Int32)) < 0 then 0 else 1 := by
  by_cases a : p < 0
  · rw [if_pos a]; decide
  · by_cases b : (255 : Int32) < p
    · rw [if_neg a, if_pos b]; decide
    · have e : (if x0.toInt8.toInt32 = p.toInt8.toInt32 then 0 else if x1.toInt8.toInt32 = p.toInt8.toInt32 then 1 else if x2.toInt8.toInt32 = p.toInt8.toInt32 then 2 else -1 : Int32) = -1 := by
        rw [if_neg (fun e => q0 (own_b8 ⟨a, b⟩ h0 e.symm)), if_neg (fun e => q1 (own_b8 ⟨a, b⟩ h1 e.symm)), if_neg (fun e => q2 (own_b8 ⟨a, b⟩ h2 e.symm))]
      rw [if_neg a, if_neg b, e]; decide
theorem own_al3_yes0 {p x0 x1 x2 : Int32} (h0 : ¬ x0 < 0 ∧ ¬ (255 : Int32) < x0) (h1 : ¬ x1 < 0 ∧ ¬ (255 : Int32) < x1) (h2 : ¬ x2 < 0 ∧ ¬ (255 : Int32) < x2) (q : p = x0) : (1 : Int32) = if (if p < 0 then -1 else if (255 : Int32) < p then -1 else (if x0.toInt8.toInt32 = p.toInt8.toInt32 then 0 else if x1.toInt8.toInt32 = p.toInt8.toInt32 then 1 else if x2.toInt8.toInt32 = p.toInt8.toInt32 then 2 else -1 : Int32)) < 0 then 0 else 1 := by
  rw [if_neg (q ▸ h0.1 : ¬ p < 0), if_neg (q ▸ h0.2 : ¬ (255 : Int32) < p)]
  have e : ¬ (if x0.toInt8.toInt32 = p.toInt8.toInt32 then 0 else if x1.toInt8.toInt32 = p.toInt8.toInt32 then 1 else if x2.toInt8.toInt32 = p.toInt8.toInt32 then 2 else -1 : Int32) < 0 := by
    rw [q]
    repeat' split
    all_goals first | decide | exact absurd rfl ‹¬ x0.toInt8.toInt32 = x0.toInt8.toInt32›
  rw [if_neg e]
theorem own_al3_yes1 {p x0 x1 x2 : Int32} (h0 : ¬ x0 < 0 ∧ ¬ (255 : Int32) < x0) (h1 : ¬ x1 < 0 ∧ ¬ (255 : Int32) < x1) (h2 : ¬ x2 < 0 ∧ ¬ (255 : Int32) < x2) (q : p = x1) : (1 : Int32) = if (if p < 0 then -1 else if (255 : Int32) < p then -1 else (if x0.toInt8.toInt32 = p.toInt8.toInt32 then 0 else if x1.toInt8.toInt32 = p.toInt8.toInt32 then 1 else if x2.toInt8.toInt32 = p.toInt8.toInt32 then 2 else -1 : Int32)) < 0 then 0 else 1 := by
  rw [if_neg (q ▸ h1.1 : ¬ p < 0), if_neg (q ▸ h1.2 : ¬ (255 : Int32) < p)]
  have e : ¬ (if x0.toInt8.toInt32 = p.toInt8.toInt32 then 0 else if x1.toInt8.toInt32 = p.toInt8.toInt32 then 1 else if x2.toInt8.toInt32 = p.toInt8.toInt32 then 2 else -1 : Int32) < 0 := by
    rw [q]
    repeat' split
    all_goals first | decide | exact absurd rfl ‹¬ x1.toInt8.toInt32 = x1.toInt8.toInt32›
  rw [if_neg e]
theorem own_al3_yes2 {p x0 x1 x2 : Int32} (h0 : ¬ x0 < 0 ∧ ¬ (255 : Int32) < x0) (h1 : ¬ x1 < 0 ∧ ¬ (255 : Int32) < x1) (h2 : ¬ x2 < 0 ∧ ¬ (255 : Int32) < x2) (q : p = x2) : (1 : Int32) = if (if p < 0 then -1 else if (255 : Int32) < p then -1 else (if x0.toInt8.toInt32 = p.toInt8.toInt32 then 0 else if x1.toInt8.toInt32 = p.toInt8.toInt32 then 1 else if x2.toInt8.toInt32 = p.toInt8.toInt32 then 2 else -1 : Int32)) < 0 then 0 else 1 := by
  rw [if_neg (q ▸ h2.1 : ¬ p < 0), if_neg (q ▸ h2.2 : ¬ (255 : Int32) < p)]
  have e : ¬ (if x0.toInt8.toInt32 = p.toInt8.toInt32 then 0 else if x1.toInt8.toInt32 = p.toInt8.toInt32 then 1 else if x2.toInt8.toInt32 = p.toInt8.toInt32 then 2 else -1 : Int32) < 0 := by
    rw [q]
    repeat' split
    all_goals first | decide | exact absurd rfl ‹¬ x2.toInt8.toInt32 = x2.toInt8.toInt32›
  rw [if_neg e]
theorem pn_java_lang_Record : plainName "java/lang/Record" = true := by first | (simp [plainName, overriddenIn]; done) | decide +kernel
theorem d10_0 : decode jdk_30_method_1_code 0 = .ok (.aload_n 0, 1) := by decide +kernel
theorem d10_1 : decode jdk_30_method_1_code 1 = .ok (.invokespecial 1, 3) := by decide +kernel
theorem d10_4 : decode jdk_30_method_1_code 4 = .ok (.return_, 1) := by decide +kernel
def Q_rm_rec (Z : State) (a1 : Addr) (h0 : Heap) (n0 : Nat) (v : Option Value) (h : Heap) (L : List Loc) : Prop := v = none ∧ Fr n0 L ∧ h = h0
set_option maxRecDepth 65536 in
set_option maxHeartbeats 40000000 in
theorem rm_rec (l : Launch) (Z : State) (a0 : Array Value) (hw : ∀ d ∈ tables_1, d.before a0 Z = true) (ws : List Jvm.Cond) (a1 : Addr) (h0 : Heap) (n0 : Nat) (OL : Old Z n0 h0) :
    MetFree l (⟨"java/lang/Record", "<init>", "()V"⟩ : MethodName) (head1 (Jvm.Cond.code (⟨"java/lang/Record", "<init>", "()V"⟩ : MethodName) jdk_30_method_1_code 1 none :: ws) ({ frames := 1, cells := 0, slots := 0, locals := 12 } : Room)) (fun a U => a = #[(.ref a1)] ∧ Z.Warmed39 U.vm ∧ U.heap = h0) (fun _ _ _ _ _ => True) (fun _ U o U' => ∃ v L, o = .returned v ∧ Q_rm_rec Z a1 h0 n0 v U'.heap L ∧ FrameEnd U o U' L ({ frames := 1, cells := 0, slots := 0, locals := 12 } : Room).cells ({ frames := 1, cells := 0, slots := 0, locals := 12 } : Room).slots) := by
  refine MetFree.of_bodySF (plainFor_of_name pn_java_lang_Record) hisR ?_
  intro p e s m args below meth c s₁ Bd hml0 hP hK
  obtain ⟨rfl, hZ, hh⟩ := hP
  have hx := Bd.exec
  have hby := Bd.bytes
  have hml : c.maxLocals = 1 := hml0
  have hown : s.vm.findClass "java/lang/Record" = some m.cls := findClass_of_methodNamed Bd.named
  have hnm := (name_of_methodNamed Bd.named Bd.method).1
  have X0 : Stand p l e ({ frames := 1, cells := 0, slots := 0, locals := 12 } : Room) s m #[(.ref a1)] below meth c s₁ [] 0 0 := Stand.of_body Bd
  have e0 : s₁.heap = h0 := by rw [← hh, Bd.state]; rfl
  have N0 := Fr.nil n0
  have pre0 : oL p e below s₁ (mkF m 0 #[oR a1] []) s₁ (entryFrame m #[(.ref a1)] 1) := fun t k => castTop (by first | (simp [entryFrame, mkF, argsToLocals, Value.category]; done) | rfl) k
  have pre11 : oL p e below s₁ (mkF m 1 #[oR a1] [ow a1]) s₁ (entryFrame m #[(.ref a1)] 1) := fun t k => pre0 t (by
    refine XS.aloadN X0.here hx rfl (hb hby d10_0) rfl rfl ?_
    exact k)
  obtain ⟨T12, X12, e12, st12⟩ := initO X0 hx hZ hown (oW hw 53 rfl) (oW hw 12 rfl) (oW hw 13 rfl) e0 (g := (mkF m 1 #[oR a1] [ow a1])) rfl (by rw [hml]; rfl) rfl (hb hby d10_1) (by decide) (W := 0) (by show 2 * 0 + _ ≤ _; exact Nat.le_of_eq rfl) (by decide)
  have pre13 : oL p e below T12 (mkF m 4 #[oR a1] []) s₁ (entryFrame m #[(.ref a1)] 1) := fun t k => pre11 t (by
    refine st12 _ ?_
    exact k)
  obtain ⟨fs, hr, hrun, hended, hW, hsame⟩ := X12.leave (v := none) (fun _ => rfl)
  refine ⟨_, _, pre13 _ ?_, hrun, hended, _, _, rfl, ?_, ⟨_, rfl⟩, hW, hsame.mono (by decide) (by decide)⟩
  ·
    show oS p e below T12 (mkF m 4 #[oR a1] []) _
    exact X12.returnOut hx Bd.returns (hb hby d10_4) hr
  ·
    show Q_rm_rec Z a1 h0 n0 _ T12.heap _
    rw [e12]
    exact ⟨rfl, N0, rfl⟩
theorem pn_java_lang_String : plainName "java/lang/String" = true := by first | (simp [plainName, overriddenIn]; done) | decide +kernel
theorem d2_0 : decode jdk_42_method_149_code 0 = .ok (.aload_n 0, 1) := by decide +kernel
theorem d2_1 : decode jdk_42_method_149_code 1 = .ok (.invokespecial 1, 3) := by decide +kernel
theorem d2_4 : decode jdk_42_method_149_code 4 = .ok (.iload_n 3, 1) := by decide +kernel
theorem d2_5 : decode jdk_42_method_149_code 5 = .ok (.ifCond .ne 22, 3) := by decide +kernel
theorem d2_8 : decode jdk_42_method_149_code 8 = .ok (.aload_n 0, 1) := by decide +kernel
theorem d2_9 : decode jdk_42_method_149_code 9 = .ok (.ldc 7, 2) := by decide +kernel
theorem d2_11 : decode jdk_42_method_149_code 11 = .ok (.getfield 9, 3) := by decide +kernel
theorem d2_14 : decode jdk_42_method_149_code 14 = .ok (.putfield 9, 3) := by decide +kernel
theorem d2_17 : decode jdk_42_method_149_code 17 = .ok (.aload_n 0, 1) := by decide +kernel
theorem d2_18 : decode jdk_42_method_149_code 18 = .ok (.ldc 7, 2) := by decide +kernel
theorem d2_20 : decode jdk_42_method_149_code 20 = .ok (.getfield 15, 3) := by decide +kernel
theorem d2_23 : decode jdk_42_method_149_code 23 = .ok (.putfield 15, 3) := by decide +kernel
theorem d2_26 : decode jdk_42_method_149_code 26 = .ok (.return_, 1) := by decide +kernel
def Q_rm_si0 (Z : State) (a1 : Addr) (a2 : Addr) (h0 : Heap) (n0 : Nat) (v : Option Value) (h : Heap) (L : List Loc) : Prop := v = none ∧ Fr n0 L ∧ Keep h0 h [a1] ∧ Exa Z h a1 "java/lang/String" ∧ Fld Z h a1 "java/lang/String" "coder" "B" (.int (0 : Int32)) ∧ ∃ (b : Addr) (kb : ClassId), ¬ b = a1 ∧ b < h.size ∧ Fld Z h a1 "java/lang/String" "value" "[B" (.ref b) ∧ Arv Z h b kb .byte (0 : Int32) [] (.int (0 : Int32))
set_option maxRecDepth 65536 in
set_option maxHeartbeats 40000000 in
theorem rm_si0 (l : Launch) (Z : State) (a0 : Array Value) (hw : ∀ d ∈ tables_1, d.before a0 Z = true) (ws : List Jvm.Cond) (a1 : Addr) (a2 : Addr) (h0 : Heap) (n0 : Nat) (OL : Old Z n0 h0) (ge1 : n0 ≤ a1) (E1 : Exa Z h0 a1 "java/lang/String") (F1 : Fld Z h0 a1 "java/lang/String" "value" "[B" .null) (F2 : Fld Z h0 a1 "java/lang/String" "coder" "B" (.int (0 : Int32))) :
    MetFree l (⟨"java/lang/String", "<init>", "([CIILjava/lang/Void;)V"⟩ : MethodName) (head1 (Jvm.Cond.code (⟨"java/lang/String", "<init>", "([CIILjava/lang/Void;)V"⟩ : MethodName) jdk_42_method_149_code 6 none :: ws) ({ frames := 1, cells := 2, slots := 4, locals := 12 } : Room)) (fun a U => a = #[(.ref a1), (.ref a2), (.int (0 : Int32)), (.int (0 : Int32)), .null] ∧ Z.Warmed39 U.vm ∧ U.heap = h0 ∧ CHv Z consts_1 U.vm h0) (fun _ _ _ _ _ => True) (fun _ U o U' => ∃ v L, o = .returned v ∧ Q_rm_si0 Z a1 a2 h0 n0 v U'.heap L ∧ CHr Z consts_1 U.vm U.heap U'.vm U'.heap ∧ ReturnedEndW U o U' L ({ frames := 1, cells := 2, slots := 4, locals := 12 } : Room).cells ({ frames := 1, cells := 2, slots := 4, locals := 12 } : Room).slots) := by
  refine MetFree.of_bodySF (plainFor_of_name pn_java_lang_String) hisR ?_
  intro p e s m args below meth c s₁ Bd hml0 hP hK
  obtain ⟨rfl, hZ, hh, CH0⟩ := hP
  have hx := Bd.exec
  have hby := Bd.bytes
  have hml : c.maxLocals = 6 := hml0
  have hown : s.vm.findClass "java/lang/String" = some m.cls := findClass_of_methodNamed Bd.named
  have hnm := (name_of_methodNamed Bd.named Bd.method).1
  have X0 : Stand p l e ({ frames := 1, cells := 2, slots := 4, locals := 12 } : Room) (s.setVm s.vm) m #[(.ref a1), (.ref a2), (.int (0 : Int32)), (.int (0 : Int32)), .null] below meth c s₁ [] 0 0 := Stand.of_body Bd
  have hZ : Z.Warmed39 (s.setVm s.vm).vm := hZ
  have hown : (s.setVm s.vm).vm.findClass "java/lang/String" = some m.cls := hown
  have hS : s.Since s.vm h0.size := (State.WarmedH.refl s).since _
  have hk : h0.size ≤ h0.size := Nat.le_refl _
  have CR0 : CHr Z consts_1 s.vm h0 s.vm h0 := CHr.refl CH0
  have hEL := own_EW Z a0 hw
  have wS := own_wS Z a0 hw
  have sf_a1 : Safe Z consts_1 s.vm h0 a1 := own_safe_null hZ.alike E1 F1 a0 (oW hw 1 rfl)
  have e0 : s₁.heap = h0 := by rw [← hh, Bd.state]; rfl
  have N0 := Fr.nil n0
  have pre0 : oL p e below s₁ (mkF m 0 #[oR a1, oR a2, oI 0, oI 0, oN, oU] []) s₁ (entryFrame m #[(.ref a1), (.ref a2), (.int (0 : Int32)), (.int (0 : Int32)), .null] 6) := fun t k => castTop (by first | (simp [entryFrame, mkF, argsToLocals, Value.category]; done) | rfl) k
  have pre11 : oL p e below s₁ (mkF m 1 #[oR a1, oR a2, oI 0, oI 0, oN, oU] [ow a1]) s₁ (entryFrame m #[(.ref a1), (.ref a2), (.int (0 : Int32)), (.int (0 : Int32)), .null] 6) := fun t k => pre0 t (by
    refine XS.aloadN X0.here hx rfl (hb hby d2_0) rfl rfl ?_
    exact k)
  obtain ⟨T12, X12, e12, st12⟩ := initO X0 hx hZ hown (oW hw 11 rfl) (oW hw 12 rfl) (oW hw 13 rfl) e0 (g := (mkF m 1 #[oR a1, oR a2, oI 0, oI 0, oN, oU] [ow a1])) rfl (by rw [hml]; rfl) rfl (hb hby d2_1) (by decide) (W := 0) (by show 2 * 0 + _ ≤ _; exact Nat.le_of_eq rfl) (by decide)
  have pre13 : oL p e below T12 (mkF m 9 #[oR a1, oR a2, oI 0, oI 0, oN, oU] [ow a1]) s₁ (entryFrame m #[(.ref a1), (.ref a2), (.int (0 : Int32)), (.int (0 : Int32)), .null] 6) := fun t k => pre11 t (by
    refine st12 _ ?_
    refine XS.iloadN X12.here hx rfl (hb hby d2_4) rfl ?_
    refine XS.ifNo X12.here hx rfl (hb hby d2_5) rfl ((if0 _ _).trans (teq (by decide : (0 : Int32) = (0 : Int32))).2) ?_
    show oS p e below T12 (mkF m 8 #[oR a1, oR a2, oI 0, oI 0, oN, oU] []) _
    refine XS.aloadN X12.here hx rfl (hb hby d2_8) rfl rfl ?_
    exact k)
  obtain ⟨la14, T14, h14, kx14, lb14, kb14, X14, e14, E14, hS, hkn14, hZ, hown, Ea14, Fc14, Fv14, Va14, lta14, ltb14, cr14, Lt14, sep14, st14⟩ := ldcCH X12 hx hZ hown (oW hw 112 rfl) wS e12 hS hk hEL (List.mem_of_getElem? (i := 1) rfl) CH0 (vs := []) (z := (0 : Int32)) ⟨by decide, rfl⟩ (by decide) rfl (g := (mkF m 9 #[oR a1, oR a2, oI 0, oI 0, oN, oU] [ow a1])) rfl (hb hby d2_9) (n := 0) (by decide) (by decide) (by decide) (by decide)
  have f15 := E1.ext E14
  have f16 := F1.ext E14
  have f17 := F2.ext E14
  have OL18 := OL.ext E14
  have K19 : Keep h0 h14 [a1] := (Keep.refl h0 [a1]).ext E14
  have sf20 := cr14.safe E1.lt sf_a1
  have sp21 := sep14 _ sf20
  have CH14 := cr14.1
  have CR14 := CR0.trans cr14
  have hk := hkn14
  have pre22 : oL p e below T14 (mkF m 11 #[oR a1, oR a2, oI 0, oI 0, oN, oU] [ow la14, ow a1]) s₁ (entryFrame m #[(.ref a1), (.ref a2), (.int (0 : Int32)), (.int (0 : Int32)), .null] 6) := fun t k => pre13 t (by
    refine st14 _ ?_
    exact k)
  obtain ⟨T23, X23, e23, st23⟩ := getF X14 hx hZ hown (host := "") (Or.inl (oW hw 28 rfl)) Via.refl e14 Fv14 (g := (mkF m 11 #[oR a1, oR a2, oI 0, oI 0, oN, oU] [ow la14, ow a1])) rfl rfl (hb hby d2_11)
  have pre24 : oL p e below T23 (mkF m 14 #[oR a1, oR a2, oI 0, oI 0, oN, oU] [ow lb14, ow a1]) s₁ (entryFrame m #[(.ref a1), (.ref a2), (.int (0 : Int32)), (.int (0 : Int32)), .null] 6) := fun t k => pre22 t (by
    refine st23 _ ?_
    exact k)
  obtain ⟨T25, h25, X25, e25, W25, st25⟩ := putF X23 hx hZ hown (host := "") (Or.inl (oW hw 28 rfl)) Via.refl e23 f16 f15 (Or.inr ⟨(oW hw 29 rfl), rfl, hnm⟩) (oW hw 1 rfl) (ty := (.array .byte)) (by decide) rfl rfl (g := (mkF m 14 #[oR a1, oR a2, oI 0, oI 0, oN, oU] [ow lb14, ow a1])) rfl rfl (hb hby d2_14)
  have f26 := f16.same W25
  have N25 := Fr.snoc X25 N0 ge1
  have sf27 := Safe.wr W25 sf20 CH14 sf20
  have cr28 := CHr.wr W25 sf20 CH14
  have CH28 := cr28.1
  have CR28 := CR14.trans cr28
  have hk := Nat.le_trans hk (Keep.of_wr W25).1
  have f29 := f15.wr W25
  have f30 := f17.other W25 (Or.inr (slot_ne (Or.inr (oW hw 27 rfl)) (Or.inr (oW hw 29 rfl)) (by decide) (t := .byte) (t' := (.array .byte)) (by decide) (by decide)))
  have f31 := Ea14.wr W25
  have f32 := Fc14.other W25 (Or.inl (Ne.symm sp21.1))
  have f33 := Fv14.other W25 (Or.inl (Ne.symm sp21.1))
  have f34 := Va14.other W25 (Ne.symm sp21.2)
  have OL35 := OL18.wr W25 ge1
  have K36 : Keep h0 h25 [a1] := K19.wr W25 (Or.inl (List.mem_of_getElem? (i := 0) rfl))
  have pre37 : oL p e below T25 (mkF m 18 #[oR a1, oR a2, oI 0, oI 0, oN, oU] [ow a1]) s₁ (entryFrame m #[(.ref a1), (.ref a2), (.int (0 : Int32)), (.int (0 : Int32)), .null] 6) := fun t k => pre24 t (by
    refine st25 _ ?_
    show oS p e below T25 (mkF m 17 #[oR a1, oR a2, oI 0, oI 0, oN, oU] []) _
    refine XS.aloadN X25.here hx rfl (hb hby d2_17) rfl rfl ?_
    exact k)
  have pre38 : oL p e below T25 (mkF m 20 #[oR a1, oR a2, oI 0, oI 0, oN, oU] [ow la14, ow a1]) s₁ (entryFrame m #[(.ref a1), (.ref a2), (.int (0 : Int32)), (.int (0 : Int32)), .null] 6) := fun t k => pre37 t (by
    refine ldcAgain X25 hx hZ hown (oW hw 112 rfl) Lt14 (g := (mkF m 18 #[oR a1, oR a2, oI 0, oI 0, oN, oU] [ow a1])) rfl (hb hby d2_18) _ ?_
    exact k)
  obtain ⟨T39, X39, e39, st39⟩ := getF X25 hx hZ hown (host := "") (Or.inl (oW hw 26 rfl)) Via.refl e25 f32 (g := (mkF m 20 #[oR a1, oR a2, oI 0, oI 0, oN, oU] [ow la14, ow a1])) rfl rfl (hb hby d2_20)
  have pre40 : oL p e below T39 (mkF m 23 #[oR a1, oR a2, oI 0, oI 0, oN, oU] [oi 0, ow a1]) s₁ (entryFrame m #[(.ref a1), (.ref a2), (.int (0 : Int32)), (.int (0 : Int32)), .null] 6) := fun t k => pre38 t (by
    refine st39 _ ?_
    exact k)
  obtain ⟨T41, h41, X41, e41, W41, st41⟩ := putFN X39 hx hZ hown (oW hw 26 rfl) Via.refl e39 f30 f29 (Or.inr ⟨(oW hw 27 rfl), rfl, hnm⟩) (oW hw 1 rfl) (ty := .byte) (v' := (.int (0 : Int32))) (by decide) rfl rfl (g := (mkF m 23 #[oR a1, oR a2, oI 0, oI 0, oN, oU] [oi 0, ow a1])) rfl rfl (hb hby d2_23)
  have f42 := f30.same W41
  have N41 := Fr.snoc X41 N25 ge1
  have sf43 := Safe.wr W41 sf27 CH28 sf27
  have cr44 := CHr.wr W41 sf27 CH28
  have CH44 := cr44.1
  have CR44 := CR28.trans cr44
  have hk := Nat.le_trans hk (Keep.of_wr W41).1
  have f45 := f29.wr W41
  have f46 := f26.other W41 (Or.inr (slot_ne (Or.inr (oW hw 29 rfl)) (Or.inr (oW hw 27 rfl)) (by decide) (t := (.array .byte)) (t' := .byte) (by decide) (by decide)))
  have f47 := f31.wr W41
  have f48 := f32.other W41 (Or.inl (Ne.symm sp21.1))
  have f49 := f33.other W41 (Or.inl (Ne.symm sp21.1))
  have f50 := f34.other W41 (Ne.symm sp21.2)
  have OL51 := OL35.wr W41 ge1
  have K52 : Keep h0 h41 [a1] := K36.wr W41 (Or.inl (List.mem_of_getElem? (i := 0) rfl))
  have pre53 : oL p e below T41 (mkF m 26 #[oR a1, oR a2, oI 0, oI 0, oN, oU] []) s₁ (entryFrame m #[(.ref a1), (.ref a2), (.int (0 : Int32)), (.int (0 : Int32)), .null] 6) := fun t k => pre40 t (by
    refine st41 _ ?_
    show oS p e below T41 (mkF m 26 #[oR a1, oR a2, oI 0, oI 0, oN, oU] []) _
    exact k)
  obtain ⟨fs, hr, hrun, hended, hEnd⟩ := X41.leaveW hS (by rw [e41]; exact hk) (v := none) (fun _ => rfl)
  refine ⟨_, _, pre53 _ ?_, hrun, hended, _, _, rfl, ?_, (by show CHr Z consts_1 s.vm s.heap T41.vm T41.heap; rw [hh, e41]; exact CR44.trans (CHv.at X41 hZ hEL CH44)), hEnd.1, hEnd.2.1, hEnd.2.2.1, hEnd.2.2.2.mono (by decide) (by decide)⟩
  ·
    show oS p e below T41 (mkF m 26 #[oR a1, oR a2, oI 0, oI 0, oN, oU] []) _
    exact X41.returnOut hx Bd.returns (hb hby d2_26) hr
  ·
    show Q_rm_si0 Z a1 a2 h0 n0 _ T41.heap _
    rw [e41]
    exact ⟨rfl, N41, K52, f45, f42, lb14, kb14, fun q => sp21.2 q.symm, f50.lt, f46, f50⟩
theorem d1_0 : decode jdk_42_method_3_code 0 = .ok (.aload_n 0, 1) := by decide +kernel
theorem d1_1 : decode jdk_42_method_3_code 1 = .ok (.aload_n 1, 1) := by decide +kernel
theorem d1_2 : decode jdk_42_method_3_code 2 = .ok (.iconst 0, 1) := by decide +kernel
theorem d1_3 : decode jdk_42_method_3_code 3 = .ok (.aload_n 1, 1) := by decide +kernel
theorem d1_4 : decode jdk_42_method_3_code 4 = .ok (.arraylength, 1) := by decide +kernel
theorem d1_5 : decode jdk_42_method_3_code 5 = .ok (.aconst_null, 1) := by decide +kernel
theorem d1_6 : decode jdk_42_method_3_code 6 = .ok (.invokespecial 27, 3) := by decide +kernel
theorem pd___CIILjava_lang_Void__V : parseMethodDescriptor "([CIILjava/lang/Void;)V" = some ⟨[(.array .char), .int, .int, (.object "java/lang/Void")], none⟩ := by decide +kernel
theorem d1_9 : decode jdk_42_method_3_code 9 = .ok (.return_, 1) := by decide +kernel
def Q_rm_s0 (Z : State) (a1 : Addr) (a2 : Addr) (k2 : ClassId) (h0 : Heap) (n0 : Nat) (v : Option Value) (h : Heap) (L : List Loc) : Prop := v = none ∧ Fr n0 L ∧ Keep h0 h [a1] ∧ Exa Z h a1 "java/lang/String" ∧ Fld Z h a1 "java/lang/String" "coder" "B" (.int (0 : Int32)) ∧ ∃ (b : Addr) (kb : ClassId), ¬ b = a1 ∧ b < h.size ∧ Fld Z h a1 "java/lang/String" "value" "[B" (.ref b) ∧ Arv Z h b kb .byte (0 : Int32) [] (.int (0 : Int32))
set_option maxRecDepth 65536 in
set_option maxHeartbeats 40000000 in
theorem rm_s0 (l : Launch) (Z : State) (a0 : Array Value) (hw : ∀ d ∈ tables_1, d.before a0 Z = true) (ws : List Jvm.Cond) (a1 : Addr) (a2 : Addr) (k2 : ClassId) (h0 : Heap) (n0 : Nat) (OL : Old Z n0 h0) (ge1 : n0 ≤ a1) (E1 : Exa Z h0 a1 "java/lang/String") (F1 : Fld Z h0 a1 "java/lang/String" "value" "[B" .null) (F2 : Fld Z h0 a1 "java/lang/String" "coder" "B" (.int (0 : Int32))) (V2 : Arv Z h0 a2 k2 .char (0 : Int32) [] (.int (0 : Int32))) :
    MetFree l (⟨"java/lang/String", "<init>", "([C)V"⟩ : MethodName) (head1 (Jvm.Cond.code (⟨"java/lang/String", "<init>", "([C)V"⟩ : MethodName) jdk_42_method_3_code 2 none :: ws) ({ frames := 2, cells := 2, slots := 4, locals := 29 } : Room)) (fun a U => a = #[(.ref a1), (.ref a2)] ∧ Z.Warmed39 U.vm ∧ U.heap = h0 ∧ CHv Z consts_1 U.vm h0) (fun _ _ _ _ _ => True) (fun _ U o U' => ∃ v L, o = .returned v ∧ Q_rm_s0 Z a1 a2 k2 h0 n0 v U'.heap L ∧ CHr Z consts_1 U.vm U.heap U'.vm U'.heap ∧ ReturnedEndW U o U' L ({ frames := 2, cells := 2, slots := 4, locals := 29 } : Room).cells ({ frames := 2, cells := 2, slots := 4, locals := 29 } : Room).slots) := by
  refine MetFree.of_bodySF (plainFor_of_name pn_java_lang_String) hisR ?_
  intro p e s m args below meth c s₁ Bd hml0 hP hK
  obtain ⟨rfl, hZ, hh, CH0⟩ := hP
  have hx := Bd.exec
  have hby := Bd.bytes
  have hml : c.maxLocals = 2 := hml0
  have hown : s.vm.findClass "java/lang/String" = some m.cls := findClass_of_methodNamed Bd.named
  have hnm := (name_of_methodNamed Bd.named Bd.method).1
  have X0 : Stand p l e ({ frames := 2, cells := 2, slots := 4, locals := 29 } : Room) (s.setVm s.vm) m #[(.ref a1), (.ref a2)] below meth c s₁ [] 0 0 := Stand.of_body Bd
  have hZ : Z.Warmed39 (s.setVm s.vm).vm := hZ
  have hown : (s.setVm s.vm).vm.findClass "java/lang/String" = some m.cls := hown
  have hS : s.Since s.vm h0.size := (State.WarmedH.refl s).since _
  have hk : h0.size ≤ h0.size := Nat.le_refl _
  have CR0 : CHr Z consts_1 s.vm h0 s.vm h0 := CHr.refl CH0
  have hEL := own_EW Z a0 hw
  have wS := own_wS Z a0 hw
  have sf_a1 : Safe Z consts_1 s.vm h0 a1 := own_safe_null hZ.alike E1 F1 a0 (oW hw 1 rfl)
  have e0 : s₁.heap = h0 := by rw [← hh, Bd.state]; rfl
  have N0 := Fr.nil n0
  have pre0 : oL p e below s₁ (mkF m 0 #[oR a1, oR a2] []) s₁ (entryFrame m #[(.ref a1), (.ref a2)] 2) := fun t k => castTop (by first | (simp [entryFrame, mkF, argsToLocals, Value.category]; done) | rfl) k
  have own_ne : a2 ≠ a1 := (Exa.neArv E1 V2 (oW hw 1 rfl)).symm
  have pre12 : oL p e below s₁ (mkF m 4 #[oR a1, oR a2] [ow a2, oi 0, ow a2, ow a1]) s₁ (entryFrame m #[(.ref a1), (.ref a2)] 2) := fun t k => pre0 t (by
    refine XS.aloadN X0.here hx rfl (hb hby d1_0) rfl rfl ?_
    refine XS.aloadN X0.here hx rfl (hb hby d1_1) rfl rfl ?_
    refine XS.iconst X0.here hx rfl (hb hby d1_2) ?_
    refine XS.aloadN X0.here hx rfl (hb hby d1_3) rfl rfl ?_
    show oS p e below s₁ (mkF m 4 #[oR a1, oR a2] [ow a2, oi 0, ow a2, ow a1]) _
    exact k)
  obtain ⟨cl11, Ar11, -, Sz11, Nn11, -, -⟩ := id V2
  have pre13 : oL p e below s₁ (mkF m 6 #[oR a1, oR a2] [.null, oi 0, oi 0, ow a2, ow a1]) s₁ (entryFrame m #[(.ref a1), (.ref a2)] 2) := fun t k => pre12 t (by
    refine X0.arraylength hx (by rw [e0]; exact Ar11.1) (State.isArrayOf_alike hZ.alike Ar11.2.1) (g := (mkF m 4 #[oR a1, oR a2] [ow a2, oi 0, ow a2, ow a1])) rfl rfl (hb hby d1_4) _ ?_
    rw [len_of Sz11 Nn11]
    refine XS.aconstNull X0.here hx rfl (hb hby d1_5) ?_
    exact k)
  obtain ⟨_, _, ⟨T14, L14, k14, n14⟩, -, X14, hS14, hgr14, ⟨Lc14, hQ14, l14, y14, z14, cr14⟩, st14⟩ := X0.specialBackS hx (y := (⟨"java/lang/String", "<init>", "([CIILjava/lang/Void;)V"⟩ : MethodName)) rfl hown (mvT hZ (oW hw 7 rfl)) (mvT hZ (oW hw 8 rfl)) (mvT hZ (oW hw 10 rfl)) (by decide) (backOfSH (W := 0) (rm_si0 l Z a0 hw [] a1 a2 h0 n0 OL ge1 E1 F1 F2) hZ (oW hw 10 rfl) (oW hw 2 rfl) (by decide) (by decide) hEL CH0) (g := (mkF m 6 #[oR a1, oR a2] [.null, oi 0, oi 0, ow a2, ow a1])) rfl (by rw [hml]; rfl) (Steps.refl _) (a := a1) (argsL := [(.ref a2), (.int (0 : Int32)), (.int (0 : Int32)), .null]) (rest := []) (lenOf pd___CIILjava_lang_Void__V rfl) rfl (by show 2 * 0 + _ ≤ _; exact Nat.le_of_eq rfl) (hb hby d1_6) (fun _ _ => ⟨rfl, e0, (by decide : 0 + 2 ≤ _), (by decide : 0 + 4 ≤ _)⟩)
  dsimp only [Pt.U, Pt.locs, Pt.cells, Pt.slots] at X14 l14 y14 z14 st14 hQ14 hS14 hgr14 cr14
  subst l14 y14 z14
  obtain ⟨X14, hS, hZ, hown⟩ := rebS hS (by rw [e0]; exact hk : _ ≤ s₁.heap.size) X14 hS14 hgr14 hZ hown
  have hk : T14.heap.size ≤ T14.heap.size := Nat.le_refl _
  obtain ⟨rfl, N14q, Kq14, Eq14, Fc14, tt14, kb14, nx14, lt14, Fv14, Va14⟩ := hQ14
  have N14 := Fr.app N0 N14q
  have sf15 := cr14.safe E1.lt sf_a1
  have CH16 := cr14.1
  have CR16 := CR0.trans cr14
  have f17 := E1.keep Kq14
  have f18 := V2.keep Kq14 (ninS own_ne nin0)
  have OL19 := OL.keep Kq14 (allS ge1 all0)
  have K20 : Keep h0 T14.heap [a1] := (Keep.refl h0 [a1]).trans Kq14 (allS (Or.inl (List.mem_of_getElem? (i := 0) rfl)) all0)
  have pre21 : oL p e below T14 (mkF m 9 #[oR a1, oR a2] []) s₁ (entryFrame m #[(.ref a1), (.ref a2)] 2) := fun t k => pre13 t (by
    refine st14.trans ?_
    exact k)
  obtain ⟨fs, hr, hrun, hended, hEnd⟩ := X14.leaveW hS hk (v := none) (fun _ => rfl)
  refine ⟨_, _, pre21 _ ?_, hrun, hended, _, _, rfl, ?_, (by show CHr Z consts_1 s.vm s.heap T14.vm T14.heap; rw [hh]; exact CR16.trans (CHv.at X14 hZ hEL CH16)), hEnd.1, hEnd.2.1, hEnd.2.2.1, hEnd.2.2.2.mono (by decide) (by decide)⟩
  ·
    show oS p e below T14 (mkF m 9 #[oR a1, oR a2] []) _
    exact X14.returnOut hx Bd.returns (hb hby d1_9) hr
  ·
    show Q_rm_s0 Z a1 a2 k2 h0 n0 _ T14.heap _
    exact ⟨rfl, N14, K20, Eq14, Fc14, tt14, kb14, fun q => (Ne.symm nx14) q.symm, Va14.lt, Fv14, Va14⟩
theorem pn_java_util_Map : plainName "java/util/Map" = true := by first | (simp [plainName, overriddenIn]; done) | decide +kernel
theorem d8_0 : decode jdk_72_method_26_code 0 = .ok (.getstatic 81, 3) := by decide +kernel
theorem d8_3 : decode jdk_72_method_26_code 3 = .ok (.areturn, 1) := by decide +kernel
def Q_rm_mapof (Z : State) (wM : Addr) (h0 : Heap) (n0 : Nat) (v : Option Value) (h : Heap) (L : List Loc) : Prop := v = some (.ref wM) ∧ Fr n0 L ∧ h = h0
set_option maxRecDepth 65536 in
set_option maxHeartbeats 40000000 in
theorem rm_mapof (l : Launch) (Z : State) (a0 : Array Value) (hw : ∀ d ∈ tables_1, d.before a0 Z = true) (ws : List Jvm.Cond) (wM : Addr) (h0 : Heap) (n0 : Nat) (OL : Old Z n0 h0) (sM : Sta Z Z.heap "java/util/ImmutableCollections" "EMPTY_MAP" "Ljava/util/ImmutableCollections$MapN;" (.ref wM)) :
    MetFree l (⟨"java/util/Map", "of", "()Ljava/util/Map;"⟩ : MethodName) (head1 (Jvm.Cond.code (⟨"java/util/Map", "of", "()Ljava/util/Map;"⟩ : MethodName) jdk_72_method_26_code 0 (some (.object "java/util/Map")) :: ws) ({ frames := 0, cells := 0, slots := 0, locals := 0 } : Room)) (fun a U => a = #[] ∧ Z.Warmed39 U.vm ∧ U.heap = h0) (fun _ _ _ _ _ => True) (fun _ U o U' => ∃ v L, o = .returned v ∧ Q_rm_mapof Z wM h0 n0 v U'.heap L ∧ FrameEnd U o U' L ({ frames := 0, cells := 0, slots := 0, locals := 0 } : Room).cells ({ frames := 0, cells := 0, slots := 0, locals := 0 } : Room).slots) := by
  refine MetFree.of_bodySF (plainFor_of_name pn_java_util_Map) hisR ?_
  intro p e s m args below meth c s₁ Bd hml0 hP hK
  obtain ⟨rfl, hZ, hh⟩ := hP
  have hx := Bd.exec
  have hby := Bd.bytes
  have hml : c.maxLocals = 0 := hml0
  have hown : s.vm.findClass "java/util/Map" = some m.cls := findClass_of_methodNamed Bd.named
  have hnm := (name_of_methodNamed Bd.named Bd.method).1
  have X0 : Stand p l e ({ frames := 0, cells := 0, slots := 0, locals := 0 } : Room) s m #[] below meth c s₁ [] 0 0 := Stand.of_body Bd
  have e0 : s₁.heap = h0 := by rw [← hh, Bd.state]; rfl
  have N0 := Fr.nil n0
  have pre0 : oL p e below s₁ (mkF m 0 #[] []) s₁ (entryFrame m #[] 0) := fun t k => castTop (by first | (simp [entryFrame, mkF, argsToLocals, Value.category]; done) | rfl) k
  obtain ⟨T11, X11, e11, st11⟩ := getS2 X0 hx hZ hown (host := "") (Or.inl (oW hw 43 rfl)) Via.refl e0 (sM.ext OL.2) (g := (mkF m 0 #[] [])) rfl (hb hby d8_0)
  have pre12 : oL p e below T11 (mkF m 3 #[] [ow wM]) s₁ (entryFrame m #[] 0) := fun t k => pre0 t (by
    refine st11 _ ?_
    exact k)
  obtain ⟨fs, hr, hrun, hended, hW, hsame⟩ := X11.leave (v := some (.ref wM)) (fun h => by rw [Bd.returns] at h; cases h)
  refine ⟨_, _, pre12 _ ?_, hrun, hended, _, _, rfl, ?_, ⟨_, rfl⟩, hW, hsame.mono (by decide) (by decide)⟩
  ·
    show oS p e below T11 (mkF m 3 #[] [ow wM]) _
    jvm_step X11.here [X11.here.top, hx, (hb hby d8_3), X11.method', Bd.returns, Value.isRef, FieldType.isReference]
    first | (intro acts; rw [hr _ acts rfl rfl rfl]) | rw [hr _ _ rfl rfl rfl]
    exact Steps.refl _
  ·
    show Q_rm_mapof Z wM h0 n0 _ T11.heap _
    rw [e11]
    exact ⟨rfl, N0, rfl⟩
theorem d11_0 : decode jdk_72_method_39_code 0 = .ok (.aload_n 0, 1) := by decide +kernel
theorem d11_1 : decode jdk_72_method_39_code 1 = .ok (.instanceof 101, 3) := by decide +kernel
theorem d11_4 : decode jdk_72_method_39_code 4 = .ok (.ifCond .eq 5, 3) := by decide +kernel
theorem d11_7 : decode jdk_72_method_39_code 7 = .ok (.aload_n 0, 1) := by decide +kernel
theorem d11_8 : decode jdk_72_method_39_code 8 = .ok (.areturn, 1) := by decide +kernel
def Q_rm_copy (Z : State) (a1 : Addr) (h0 : Heap) (n0 : Nat) (v : Option Value) (h : Heap) (L : List Loc) : Prop := v = some (.ref a1) ∧ Fr n0 L ∧ h = h0
set_option maxRecDepth 65536 in
set_option maxHeartbeats 40000000 in
theorem rm_copy (l : Launch) (Z : State) (a0 : Array Value) (hw : ∀ d ∈ tables_1, d.before a0 Z = true) (ws : List Jvm.Cond) (a1 : Addr) (h0 : Heap) (n0 : Nat) (OL : Old Z n0 h0) (EM : Exa Z Z.heap a1 "java/util/ImmutableCollections$MapN") :
    MetFree l (⟨"java/util/Map", "copyOf", "(Ljava/util/Map;)Ljava/util/Map;"⟩ : MethodName) (head1 (Jvm.Cond.code (⟨"java/util/Map", "copyOf", "(Ljava/util/Map;)Ljava/util/Map;"⟩ : MethodName) jdk_72_method_39_code 1 (some (.object "java/util/Map")) :: ws) ({ frames := 0, cells := 0, slots := 0, locals := 0 } : Room)) (fun a U => a = #[(.ref a1)] ∧ Z.Warmed39 U.vm ∧ U.heap = h0) (fun _ _ _ _ _ => True) (fun _ U o U' => ∃ v L, o = .returned v ∧ Q_rm_copy Z a1 h0 n0 v U'.heap L ∧ FrameEnd U o U' L ({ frames := 0, cells := 0, slots := 0, locals := 0 } : Room).cells ({ frames := 0, cells := 0, slots := 0, locals := 0 } : Room).slots) := by
  refine MetFree.of_bodySF (plainFor_of_name pn_java_util_Map) hisR ?_
  intro p e s m args below meth c s₁ Bd hml0 hP hK
  obtain ⟨rfl, hZ, hh⟩ := hP
  have hx := Bd.exec
  have hby := Bd.bytes
  have hml : c.maxLocals = 1 := hml0
  have hown : s.vm.findClass "java/util/Map" = some m.cls := findClass_of_methodNamed Bd.named
  have hnm := (name_of_methodNamed Bd.named Bd.method).1
  have X0 : Stand p l e ({ frames := 0, cells := 0, slots := 0, locals := 0 } : Room) s m #[(.ref a1)] below meth c s₁ [] 0 0 := Stand.of_body Bd
  have e0 : s₁.heap = h0 := by rw [← hh, Bd.state]; rfl
  have N0 := Fr.nil n0
  have pre0 : oL p e below s₁ (mkF m 0 #[oR a1] []) s₁ (entryFrame m #[(.ref a1)] 1) := fun t k => castTop (by first | (simp [entryFrame, mkF, argsToLocals, Value.category]; done) | rfl) k
  have pre11 : oL p e below s₁ (mkF m 1 #[oR a1] [ow a1]) s₁ (entryFrame m #[(.ref a1)] 1) := fun t k => pre0 t (by
    refine XS.aloadN X0.here hx rfl (hb hby d11_0) rfl rfl ?_
    exact k)
  obtain ⟨T12, X12, e12, st12⟩ := instY X0 hx hZ hown (oW hw 57 rfl) e0 (Ins.of_exa (EM.ext OL.2) (oW hw 58 rfl)) (g := (mkF m 1 #[oR a1] [ow a1])) rfl rfl (hb hby d11_1)
  have pre13 : oL p e below T12 (mkF m 8 #[oR a1] [ow a1]) s₁ (entryFrame m #[(.ref a1)] 1) := fun t k => pre11 t (by
    refine st12 _ ?_
    refine XS.ifNo X12.here hx rfl (hb hby d11_4) rfl ((if0 _ _).trans (feq (by decide : ¬ ((1 : Int32) = (0 : Int32)))).1) ?_
    refine XS.aloadN X12.here hx rfl (hb hby d11_7) rfl rfl ?_
    show oS p e below T12 (mkF m 8 #[oR a1] [ow a1]) _
    exact k)
  obtain ⟨fs, hr, hrun, hended, hW, hsame⟩ := X12.leave (v := some (.ref a1)) (fun h => by rw [Bd.returns] at h; cases h)
  refine ⟨_, _, pre13 _ ?_, hrun, hended, _, _, rfl, ?_, ⟨_, rfl⟩, hW, hsame.mono (by decide) (by decide)⟩
  ·
    show oS p e below T12 (mkF m 8 #[oR a1] [ow a1]) _
    jvm_step X12.here [X12.here.top, hx, (hb hby d11_8), X12.method', Bd.returns, Value.isRef, FieldType.isReference]
    first | (intro acts; rw [hr _ acts rfl rfl rfl]) | rw [hr _ _ rfl rfl rfl]
    exact Steps.refl _
  ·
    show Q_rm_copy Z a1 h0 n0 _ T12.heap _
    rw [e12]
    exact ⟨rfl, N0, rfl⟩
theorem pn_com_example_vedette_vedette_definition_PositionDefinition : plainName "com/example/vedette/vedette/definition/PositionDefinition" = true := by first | (simp [plainName, overriddenIn]; done) | decide +kernel
theorem d9_0 : decode prog_8_method_1_code 0 = .ok (.aload_n 0, 1) := by decide +kernel
theorem d9_1 : decode prog_8_method_1_code 1 = .ok (.invokespecial 1, 3) := by decide +kernel
theorem pd___V : parseMethodDescriptor "()V" = some ⟨[], none⟩ := by decide +kernel
theorem d9_4 : decode prog_8_method_1_code 4 = .ok (.aload_n 3, 1) := by decide +kernel
theorem d9_5 : decode prog_8_method_1_code 5 = .ok (.invokestatic 7, 3) := by decide +kernel
theorem pd__Ljava_util_Map__Ljava_util_Map_ : parseMethodDescriptor "(Ljava/util/Map;)Ljava/util/Map;" = some ⟨[(.object "java/util/Map")], some (.object "java/util/Map")⟩ := by decide +kernel
theorem d9_8 : decode prog_8_method_1_code 8 = .ok (.astore_n 3, 1) := by decide +kernel
theorem d9_9 : decode prog_8_method_1_code 9 = .ok (.aload_n 0, 1) := by decide +kernel
theorem d9_10 : decode prog_8_method_1_code 10 = .ok (.aload_n 1, 1) := by decide +kernel
theorem d9_11 : decode prog_8_method_1_code 11 = .ok (.putfield 13, 3) := by decide +kernel
theorem d9_14 : decode prog_8_method_1_code 14 = .ok (.aload_n 0, 1) := by decide +kernel
theorem d9_15 : decode prog_8_method_1_code 15 = .ok (.aload_n 2, 1) := by decide +kernel
theorem d9_16 : decode prog_8_method_1_code 16 = .ok (.putfield 19, 3) := by decide +kernel
theorem d9_19 : decode prog_8_method_1_code 19 = .ok (.aload_n 0, 1) := by decide +kernel
theorem d9_20 : decode prog_8_method_1_code 20 = .ok (.aload_n 3, 1) := by decide +kernel
theorem d9_21 : decode prog_8_method_1_code 21 = .ok (.putfield 22, 3) := by decide +kernel
theorem d9_24 : decode prog_8_method_1_code 24 = .ok (.return_, 1) := by decide +kernel
def Q_rm_pd3 (Z : State) (a1 : Addr) (a2 : Addr) (vv : Value) (a4 : Addr) (h0 : Heap) (n0 : Nat) (v : Option Value) (h : Heap) (L : List Loc) : Prop := v = none ∧ Fr n0 L ∧ Keep h0 h [a1] ∧ Exa Z h a1 "com/example/vedette/vedette/definition/PositionDefinition" ∧ Fld Z h a1 "com/example/vedette/vedette/definition/PositionDefinition" "name" "Ljava/lang/String;" (.ref a2) ∧ Fld Z h a1 "com/example/vedette/vedette/definition/PositionDefinition" "values" "Ljava/lang/String;" vv ∧ Fld Z h a1 "com/example/vedette/vedette/definition/PositionDefinition" "labels" "Ljava/util/Map;" (.ref a4)
set_option maxRecDepth 65536 in
set_option maxHeartbeats 40000000 in
theorem rm_pd3 (l : Launch) (Z : State) (a0 : Array Value) (hw : ∀ d ∈ tables_1, d.before a0 Z = true) (ws : List Jvm.Cond) (a1 : Addr) (a2 : Addr) (vv : Value) (a4 : Addr) (h0 : Heap) (n0 : Nat) (OL : Old Z n0 h0) (ge1 : n0 ≤ a1) (E1 : Exa Z h0 a1 "com/example/vedette/vedette/definition/PositionDefinition") (F_name : Fld Z h0 a1 "com/example/vedette/vedette/definition/PositionDefinition" "name" "Ljava/lang/String;" .null) (F_values : Fld Z h0 a1 "com/example/vedette/vedette/definition/PositionDefinition" "values" "Ljava/lang/String;" .null) (F_labels : Fld Z h0 a1 "com/example/vedette/vedette/definition/PositionDefinition" "labels" "Ljava/util/Map;" .null) (hvv : vv.isRef = true) (EM : Exa Z Z.heap a4 "java/util/ImmutableCollections$MapN") :
    MetFree l (⟨"com/example/vedette/vedette/definition/PositionDefinition", "<init>", "(Ljava/lang/String;Ljava/lang/String;Ljava/util/Map;)V"⟩ : MethodName) (head1 (Jvm.Cond.code (⟨"com/example/vedette/vedette/definition/PositionDefinition", "<init>", "(Ljava/lang/String;Ljava/lang/String;Ljava/util/Map;)V"⟩ : MethodName) prog_8_method_1_code 4 none :: ws) ({ frames := 2, cells := 0, slots := 0, locals := 24 } : Room)) (fun a U => a = #[(.ref a1), (.ref a2), vv, (.ref a4)] ∧ Z.Warmed39 U.vm ∧ U.heap = h0) (fun _ _ _ _ _ => True) (fun _ U o U' => ∃ v L, o = .returned v ∧ Q_rm_pd3 Z a1 a2 vv a4 h0 n0 v U'.heap L ∧ FrameEnd U o U' L ({ frames := 2, cells := 0, slots := 0, locals := 24 } : Room).cells ({ frames := 2, cells := 0, slots := 0, locals := 24 } : Room).slots) := by
  refine MetFree.of_bodySF (plainFor_of_name pn_com_example_vedette_vedette_definition_PositionDefinition) hisR ?_
  intro p e s m args below meth c s₁ Bd hml0 hP hK
  obtain ⟨rfl, hZ, hh⟩ := hP
  have hx := Bd.exec
  have hby := Bd.bytes
  have hml : c.maxLocals = 4 := hml0
  have hown : s.vm.findClass "com/example/vedette/vedette/definition/PositionDefinition" = some m.cls := findClass_of_methodNamed Bd.named
  have hnm := (name_of_methodNamed Bd.named Bd.method).1
  have X0 : Stand p l e ({ frames := 2, cells := 0, slots := 0, locals := 24 } : Room) s m #[(.ref a1), (.ref a2), vv, (.ref a4)] below meth c s₁ [] 0 0 := Stand.of_body Bd
  have e0 : s₁.heap = h0 := by rw [← hh, Bd.state]; rfl
  have N0 := Fr.nil n0
  have pre0 : oL p e below s₁ (mkF m 0 #[oR a1, oR a2, oV vv, oR a4] []) s₁ (entryFrame m #[(.ref a1), (.ref a2), vv, (.ref a4)] 4) := fun t k => castTop (by rcases ref_cases hvv with rfl | ⟨_, rfl⟩ <;> first | (simp [entryFrame, mkF, argsToLocals, Value.category]; done) | rfl) k
  have pre11 : oL p e below s₁ (mkF m 1 #[oR a1, oR a2, oV vv, oR a4] [ow a1]) s₁ (entryFrame m #[(.ref a1), (.ref a2), vv, (.ref a4)] 4) := fun t k => pre0 t (by
    refine XS.aloadN X0.here hx rfl (hb hby d9_0) rfl rfl ?_
    exact k)
  obtain ⟨_, _, ⟨T12, L12, k12, n12⟩, -, X12, ⟨Lc12, hQ12, l12, y12, z12⟩, st12⟩ := X0.specialBack hx (y := (⟨"java/lang/Record", "<init>", "()V"⟩ : MethodName)) rfl hown (mvT hZ (oW hw 48 rfl)) (mvT hZ (oW hw 49 rfl)) (mvT hZ (oW hw 52 rfl)) (by decide) (backOf (W := 0) (rm_rec l Z a0 hw [] a1 h0 n0 OL ) hZ (oW hw 52 rfl) (oW hw 51 rfl) (by decide) (by decide)) (g := (mkF m 1 #[oR a1, oR a2, oV vv, oR a4] [ow a1])) rfl (by rw [hml]; rfl) (Steps.refl _) (a := a1) (argsL := []) (rest := []) (lenOf pd___V rfl) rfl (by show 2 * 0 + _ ≤ _; exact Nat.le_of_eq rfl) (hb hby d9_1) (fun _ _ => ⟨rfl, e0, (by decide : 0 + 0 ≤ _), (by decide : 0 + 0 ≤ _)⟩)
  dsimp only [Pt.U, Pt.locs, Pt.cells, Pt.slots] at X12 l12 y12 z12 st12 hQ12
  subst l12 y12 z12
  obtain ⟨rfl, N12q, e12⟩ := hQ12
  have N12 := Fr.app N0 N12q
  have pre13 : oL p e below T12 (mkF m 5 #[oR a1, oR a2, oV vv, oR a4] [ow a4]) s₁ (entryFrame m #[(.ref a1), (.ref a2), vv, (.ref a4)] 4) := fun t k => pre11 t (by
    refine st12.trans ?_
    refine XS.aloadN X12.here hx rfl (hb hby d9_4) rfl rfl ?_
    exact k)
  obtain ⟨_, _, ⟨T14, L14, k14, n14⟩, -, X14, ⟨Lc14, hQ14, l14, y14, z14⟩, st14⟩ := Jvm.LawKit.callS X12 hx (y := (⟨"java/util/Map", "copyOf", "(Ljava/util/Map;)Ljava/util/Map;"⟩ : MethodName)) hown (mvT hZ (oW hw 54 rfl)) (mvT hZ (oW hw 55 rfl)) (mvT hZ (oW hw 41 rfl)) (mvT hZ (oW hw 56 rfl)) (by decide) (backOf (W := 0) (rm_copy l Z a0 hw [] a4 h0 n0 OL EM) hZ (oW hw 56 rfl) (oW hw 41 rfl) (by decide) (by decide)) (g := (mkF m 5 #[oR a1, oR a2, oV vv, oR a4] [ow a4])) rfl (by rw [hml]; rfl) (argsL := [(.ref a4)]) (rest := []) (lenOf pd__Ljava_util_Map__Ljava_util_Map_ rfl) rfl (by show 2 * 0 + _ ≤ _; exact Nat.le_of_eq rfl) (hb hby d9_5) (fun _ _ => ⟨rfl, e12, (by decide : 0 + 0 ≤ _), (by decide : 0 + 0 ≤ _)⟩)
  dsimp only [Pt.U, Pt.locs, Pt.cells, Pt.slots] at X14 l14 y14 z14 st14 hQ14
  subst l14 y14 z14
  obtain ⟨rfl, N14q, e14⟩ := hQ14
  have N14 := Fr.app N12 N14q
  have pre15 : oL p e below T14 (mkF m 11 #[oR a1, oR a2, oV vv, oR a4] [ow a2, ow a1]) s₁ (entryFrame m #[(.ref a1), (.ref a2), vv, (.ref a4)] 4) := fun t k => pre13 t (by
    refine st14 _ ?_
    show oS p e below T14 (mkF m 8 #[oR a1, oR a2, oV vv, oR a4] [ow a4]) _
    refine XS.astoreN X14.here hx rfl (hb hby d9_8) rfl rfl (l' := #[oR a1, oR a2, oV vv, oR a4]) rfl ?_
    refine XS.aloadN X14.here hx rfl (hb hby d9_9) rfl rfl ?_
    refine XS.aloadN X14.here hx rfl (hb hby d9_10) rfl rfl ?_
    exact k)
  obtain ⟨T16, h16, X16, e16, W16, st16⟩ := putF X14 hx hZ hown (host := "") (Or.inl (oW hw 59 rfl)) Via.refl e14 F_name E1 (Or.inr ⟨(oW hw 60 rfl), rfl, hnm⟩) (oW hw 31 rfl) (ty := (.object "java/lang/String")) (by decide) rfl rfl (g := (mkF m 11 #[oR a1, oR a2, oV vv, oR a4] [ow a2, ow a1])) rfl rfl (hb hby d9_11)
  have f17 := F_name.same W16
  have N16 := Fr.snoc X16 N14 ge1
  have f18 := E1.wr W16
  have f19 := F_values.other W16 (Or.inr (slot_ne (Or.inr (oW hw 62 rfl)) (Or.inr (oW hw 60 rfl)) (by decide) (t := (.object "java/lang/String")) (t' := (.object "java/lang/String")) (by decide) (by decide)))
  have f20 := F_labels.other W16 (Or.inr (slot_ne (Or.inr (oW hw 64 rfl)) (Or.inr (oW hw 60 rfl)) (by decide) (t := (.object "java/util/Map")) (t' := (.object "java/lang/String")) (by decide) (by decide)))
  have OL21 := OL.wr W16 ge1
  have K22 : Keep h0 h16 [a1] := (Keep.refl h0 [a1]).wr W16 (Or.inl (List.mem_of_getElem? (i := 0) rfl))
  have pre23 : oL p e below T16 (mkF m 16 #[oR a1, oR a2, oV vv, oR a4] [vv, ow a1]) s₁ (entryFrame m #[(.ref a1), (.ref a2), vv, (.ref a4)] 4) := fun t k => pre15 t (by
    refine st16 _ ?_
    show oS p e below T16 (mkF m 14 #[oR a1, oR a2, oV vv, oR a4] []) _
    refine XS.aloadN X16.here hx rfl (hb hby d9_14) rfl rfl ?_
    refine XS.aloadN X16.here hx rfl (hb hby d9_15) rfl hvv ?_
    exact k)
  obtain ⟨T24, h24, X24, e24, W24, st24⟩ := putF X16 hx hZ hown (host := "") (Or.inl (oW hw 61 rfl)) Via.refl e16 f19 f18 (Or.inr ⟨(oW hw 62 rfl), rfl, hnm⟩) (oW hw 31 rfl) (ty := (.object "java/lang/String")) (by decide) rfl (own_fitsR hvv) (g := (mkF m 16 #[oR a1, oR a2, oV vv, oR a4] [vv, ow a1])) rfl rfl (hb hby d9_16)
  have f25 := f19.same W24
  have N24 := Fr.snoc X24 N16 ge1
  have f26 := f18.wr W24
  have f27 := f17.other W24 (Or.inr (slot_ne (Or.inr (oW hw 60 rfl)) (Or.inr (oW hw 62 rfl)) (by decide) (t := (.object "java/lang/String")) (t' := (.object "java/lang/String")) (by decide) (by decide)))
  have f28 := f20.other W24 (Or.inr (slot_ne (Or.inr (oW hw 64 rfl)) (Or.inr (oW hw 62 rfl)) (by decide) (t := (.object "java/util/Map")) (t' := (.object "java/lang/String")) (by decide) (by decide)))
  have OL29 := OL21.wr W24 ge1
  have K30 : Keep h0 h24 [a1] := K22.wr W24 (Or.inl (List.mem_of_getElem? (i := 0) rfl))
  have pre31 : oL p e below T24 (mkF m 21 #[oR a1, oR a2, oV vv, oR a4] [ow a4, ow a1]) s₁ (entryFrame m #[(.ref a1), (.ref a2), vv, (.ref a4)] 4) := fun t k => pre23 t (by
    refine st24 _ ?_
    refine XS.aloadN X24.here hx rfl (hb hby d9_19) rfl rfl ?_
    show oS p e below T24 (mkF m 20 #[oR a1, oR a2, oV vv, oR a4] [ow a1]) _
    refine XS.aloadN X24.here hx rfl (hb hby d9_20) rfl rfl ?_
    exact k)
  obtain ⟨T32, h32, X32, e32, W32, st32⟩ := putF X24 hx hZ hown (host := "") (Or.inl (oW hw 63 rfl)) Via.refl e24 f28 f26 (Or.inr ⟨(oW hw 64 rfl), rfl, hnm⟩) (oW hw 31 rfl) (ty := (.object "java/util/Map")) (by decide) rfl rfl (g := (mkF m 21 #[oR a1, oR a2, oV vv, oR a4] [ow a4, ow a1])) rfl rfl (hb hby d9_21)
  have f33 := f28.same W32
  have N32 := Fr.snoc X32 N24 ge1
  have f34 := f26.wr W32
  have f35 := f27.other W32 (Or.inr (slot_ne (Or.inr (oW hw 60 rfl)) (Or.inr (oW hw 64 rfl)) (by decide) (t := (.object "java/lang/String")) (t' := (.object "java/util/Map")) (by decide) (by decide)))
  have f36 := f25.other W32 (Or.inr (slot_ne (Or.inr (oW hw 62 rfl)) (Or.inr (oW hw 64 rfl)) (by decide) (t := (.object "java/lang/String")) (t' := (.object "java/util/Map")) (by decide) (by decide)))
  have OL37 := OL29.wr W32 ge1
  have K38 : Keep h0 h32 [a1] := K30.wr W32 (Or.inl (List.mem_of_getElem? (i := 0) rfl))
  have pre39 : oL p e below T32 (mkF m 24 #[oR a1, oR a2, oV vv, oR a4] []) s₁ (entryFrame m #[(.ref a1), (.ref a2), vv, (.ref a4)] 4) := fun t k => pre31 t (by
    refine st32 _ ?_
    exact k)
  obtain ⟨fs, hr, hrun, hended, hW, hsame⟩ := X32.leave (v := none) (fun _ => rfl)
  refine ⟨_, _, pre39 _ ?_, hrun, hended, _, _, rfl, ?_, ⟨_, rfl⟩, hW, hsame.mono (by decide) (by decide)⟩
  ·
    show oS p e below T32 (mkF m 24 #[oR a1, oR a2, oV vv, oR a4] []) _
    exact X32.returnOut hx Bd.returns (hb hby d9_24) hr
  ·
    show Q_rm_pd3 Z a1 a2 vv a4 h0 n0 _ T32.heap _
    rw [e32]
    exact ⟨rfl, N32, K38, f34, f35, f36, f33⟩
theorem d7_0 : decode prog_8_method_2_code 0 = .ok (.aload_n 0, 1) := by decide +kernel
theorem d7_1 : decode prog_8_method_2_code 1 = .ok (.aload_n 1, 1) := by decide +kernel
theorem d7_2 : decode prog_8_method_2_code 2 = .ok (.aload_n 2, 1) := by decide +kernel
theorem d7_3 : decode prog_8_method_2_code 3 = .ok (.invokestatic 26, 3) := by decide +kernel
theorem pd___Ljava_util_Map_ : parseMethodDescriptor "()Ljava/util/Map;" = some ⟨[], some (.object "java/util/Map")⟩ := by decide +kernel
theorem d7_6 : decode prog_8_method_2_code 6 = .ok (.invokespecial 30, 3) := by decide +kernel
theorem pd__Ljava_lang_String_Ljava_lang_String_Ljava_util_Map__V : parseMethodDescriptor "(Ljava/lang/String;Ljava/lang/String;Ljava/util/Map;)V" = some ⟨[(.object "java/lang/String"), (.object "java/lang/String"), (.object "java/util/Map")], none⟩ := by decide +kernel
theorem d7_9 : decode prog_8_method_2_code 9 = .ok (.return_, 1) := by decide +kernel
def Q_rm_pd2 (Z : State) (a1 : Addr) (a2 : Addr) (vv : Value) (wM : Addr) (h0 : Heap) (n0 : Nat) (v : Option Value) (h : Heap) (L : List Loc) : Prop := v = none ∧ Fr n0 L ∧ Keep h0 h [a1] ∧ Exa Z h a1 "com/example/vedette/vedette/definition/PositionDefinition" ∧ Fld Z h a1 "com/example/vedette/vedette/definition/PositionDefinition" "name" "Ljava/lang/String;" (.ref a2) ∧ Fld Z h a1 "com/example/vedette/vedette/definition/PositionDefinition" "values" "Ljava/lang/String;" vv ∧ Fld Z h a1 "com/example/vedette/vedette/definition/PositionDefinition" "labels" "Ljava/util/Map;" (.ref wM)
set_option maxRecDepth 65536 in
set_option maxHeartbeats 40000000 in
theorem rm_pd2 (l : Launch) (Z : State) (a0 : Array Value) (hw : ∀ d ∈ tables_1, d.before a0 Z = true) (ws : List Jvm.Cond) (a1 : Addr) (a2 : Addr) (vv : Value) (wM : Addr) (h0 : Heap) (n0 : Nat) (OL : Old Z n0 h0) (ge1 : n0 ≤ a1) (E1 : Exa Z h0 a1 "com/example/vedette/vedette/definition/PositionDefinition") (F_name : Fld Z h0 a1 "com/example/vedette/vedette/definition/PositionDefinition" "name" "Ljava/lang/String;" .null) (F_values : Fld Z h0 a1 "com/example/vedette/vedette/definition/PositionDefinition" "values" "Ljava/lang/String;" .null) (F_labels : Fld Z h0 a1 "com/example/vedette/vedette/definition/PositionDefinition" "labels" "Ljava/util/Map;" .null) (hvv : vv.isRef = true) (sM : Sta Z Z.heap "java/util/ImmutableCollections" "EMPTY_MAP" "Ljava/util/ImmutableCollections$MapN;" (.ref wM)) (EM : Exa Z Z.heap wM "java/util/ImmutableCollections$MapN") :
    MetFree l (⟨"com/example/vedette/vedette/definition/PositionDefinition", "<init>", "(Ljava/lang/String;Ljava/lang/String;)V"⟩ : MethodName) (head1 (Jvm.Cond.code (⟨"com/example/vedette/vedette/definition/PositionDefinition", "<init>", "(Ljava/lang/String;Ljava/lang/String;)V"⟩ : MethodName) prog_8_method_2_code 3 none :: ws) ({ frames := 3, cells := 0, slots := 0, locals := 39 } : Room)) (fun a U => a = #[(.ref a1), (.ref a2), vv] ∧ Z.Warmed39 U.vm ∧ U.heap = h0) (fun _ _ _ _ _ => True) (fun _ U o U' => ∃ v L, o = .returned v ∧ Q_rm_pd2 Z a1 a2 vv wM h0 n0 v U'.heap L ∧ FrameEnd U o U' L ({ frames := 3, cells := 0, slots := 0, locals := 39 } : Room).cells ({ frames := 3, cells := 0, slots := 0, locals := 39 } : Room).slots) := by
  refine MetFree.of_bodySF (plainFor_of_name pn_com_example_vedette_vedette_definition_PositionDefinition) hisR ?_
  intro p e s m args below meth c s₁ Bd hml0 hP hK
  obtain ⟨rfl, hZ, hh⟩ := hP
  have hx := Bd.exec
  have hby := Bd.bytes
  have hml : c.maxLocals = 3 := hml0
  have hown : s.vm.findClass "com/example/vedette/vedette/definition/PositionDefinition" = some m.cls := findClass_of_methodNamed Bd.named
  have hnm := (name_of_methodNamed Bd.named Bd.method).1
  have X0 : Stand p l e ({ frames := 3, cells := 0, slots := 0, locals := 39 } : Room) s m #[(.ref a1), (.ref a2), vv] below meth c s₁ [] 0 0 := Stand.of_body Bd
  have e0 : s₁.heap = h0 := by rw [← hh, Bd.state]; rfl
  have N0 := Fr.nil n0
  have pre0 : oL p e below s₁ (mkF m 0 #[oR a1, oR a2, oV vv] []) s₁ (entryFrame m #[(.ref a1), (.ref a2), vv] 3) := fun t k => castTop (by rcases ref_cases hvv with rfl | ⟨_, rfl⟩ <;> first | (simp [entryFrame, mkF, argsToLocals, Value.category]; done) | rfl) k
  have pre11 : oL p e below s₁ (mkF m 3 #[oR a1, oR a2, oV vv] [vv, ow a2, ow a1]) s₁ (entryFrame m #[(.ref a1), (.ref a2), vv] 3) := fun t k => pre0 t (by
    refine XS.aloadN X0.here hx rfl (hb hby d7_0) rfl rfl ?_
    refine XS.aloadN X0.here hx rfl (hb hby d7_1) rfl rfl ?_
    refine XS.aloadN X0.here hx rfl (hb hby d7_2) rfl hvv ?_
    exact k)
  obtain ⟨_, _, ⟨T12, L12, k12, n12⟩, -, X12, ⟨Lc12, hQ12, l12, y12, z12⟩, st12⟩ := Jvm.LawKit.callS X0 hx (y := (⟨"java/util/Map", "of", "()Ljava/util/Map;"⟩ : MethodName)) hown (mvT hZ (oW hw 39 rfl)) (mvT hZ (oW hw 40 rfl)) (mvT hZ (oW hw 41 rfl)) (mvT hZ (oW hw 42 rfl)) (by decide) (backOf (W := 3) (rm_mapof l Z a0 hw [] wM h0 n0 OL sM) hZ (oW hw 42 rfl) (oW hw 41 rfl) (by decide) (by decide)) (g := (mkF m 3 #[oR a1, oR a2, oV vv] [vv, ow a2, ow a1])) rfl (by rw [hml]; rfl) (argsL := []) (rest := [vv, (.ref a2), (.ref a1)]) (lenOf pd___Ljava_util_Map_ rfl) rfl (by rcases ref_cases hvv with rfl | ⟨_, rfl⟩ <;> (show 2 * 0 + _ ≤ _; exact Nat.le_of_eq rfl)) (hb hby d7_3) (fun _ _ => ⟨rfl, e0, (by decide : 0 + 0 ≤ _), (by decide : 0 + 0 ≤ _)⟩)
  dsimp only [Pt.U, Pt.locs, Pt.cells, Pt.slots] at X12 l12 y12 z12 st12 hQ12
  subst l12 y12 z12
  obtain ⟨rfl, N12q, e12⟩ := hQ12
  have N12 := Fr.app N0 N12q
  have pre13 : oL p e below T12 (mkF m 6 #[oR a1, oR a2, oV vv] [ow wM, vv, ow a2, ow a1]) s₁ (entryFrame m #[(.ref a1), (.ref a2), vv] 3) := fun t k => pre11 t (by
    refine st12 _ ?_
    show oS p e below T12 (mkF m 6 #[oR a1, oR a2, oV vv] [ow wM, vv, ow a2, ow a1]) _
    exact k)
  obtain ⟨_, _, ⟨T14, L14, k14, n14⟩, -, X14, ⟨Lc14, hQ14, l14, y14, z14⟩, st14⟩ := X12.specialBack hx (y := (⟨"com/example/vedette/vedette/definition/PositionDefinition", "<init>", "(Ljava/lang/String;Ljava/lang/String;Ljava/util/Map;)V"⟩ : MethodName)) rfl hown (mvT hZ (oW hw 45 rfl)) (mvT hZ (oW hw 46 rfl)) (mvT hZ (oW hw 47 rfl)) (by decide) (backOf (W := 0) (rm_pd3 l Z a0 hw [] a1 a2 vv wM h0 n0 OL ge1 E1 F_name F_values F_labels hvv EM) hZ (oW hw 47 rfl) (oW hw 32 rfl) (by decide) (by decide)) (g := (mkF m 6 #[oR a1, oR a2, oV vv] [ow wM, vv, ow a2, ow a1])) rfl (by rw [hml]; rfl) (Steps.refl _) (a := a1) (argsL := [(.ref a2), vv, (.ref wM)]) (rest := []) (lenOf pd__Ljava_lang_String_Ljava_lang_String_Ljava_util_Map__V rfl) rfl (by show 2 * 0 + _ ≤ _; exact Nat.le_of_eq rfl) (hb hby d7_6) (fun _ _ => ⟨rfl, e12, (by decide : 0 + 0 ≤ _), (by decide : 0 + 0 ≤ _)⟩)
  dsimp only [Pt.U, Pt.locs, Pt.cells, Pt.slots] at X14 l14 y14 z14 st14 hQ14
  subst l14 y14 z14
  obtain ⟨rfl, N14q, Kq14, Eq14, F0_14, F1_14, F2_14⟩ := hQ14
  have N14 := Fr.app N12 N14q
  have f15 := E1.keep Kq14
  have OL16 := OL.keep Kq14 (allS ge1 all0)
  have K17 : Keep h0 T14.heap [a1] := (Keep.refl h0 [a1]).trans Kq14 (allS (Or.inl (List.mem_of_getElem? (i := 0) rfl)) all0)
  have pre18 : oL p e below T14 (mkF m 9 #[oR a1, oR a2, oV vv] []) s₁ (entryFrame m #[(.ref a1), (.ref a2), vv] 3) := fun t k => pre13 t (by
    refine st14.trans ?_
    exact k)
  obtain ⟨fs, hr, hrun, hended, hW, hsame⟩ := X14.leave (v := none) (fun _ => rfl)
  refine ⟨_, _, pre18 _ ?_, hrun, hended, _, _, rfl, ?_, ⟨_, rfl⟩, hW, hsame.mono (by decide) (by decide)⟩
  ·
    show oS p e below T14 (mkF m 9 #[oR a1, oR a2, oV vv] []) _
    exact X14.returnOut hx Bd.returns (hb hby d7_9) hr
  ·
    show Q_rm_pd2 Z a1 a2 vv wM h0 n0 _ T14.heap _
    exact ⟨rfl, N14, K17, Eq14, F0_14, F1_14, F2_14⟩
theorem pn_java_lang_StringLatin1 : plainName "java/lang/StringLatin1" = true := by first | (simp [plainName, overriddenIn]; done) | decide +kernel
theorem d19_0 : decode jdk_43_method_4_code 0 = .ok (.iload_n 0, 1) := by decide +kernel
theorem d19_1 : decode jdk_43_method_4_code 1 = .ok (.ifCond .lt 14, 3) := by decide +kernel
theorem d19_15 : decode jdk_43_method_4_code 15 = .ok (.iconst 0, 1) := by decide +kernel
theorem d19_16 : decode jdk_43_method_4_code 16 = .ok (.ireturn, 1) := by decide +kernel
theorem d19_4 : decode jdk_43_method_4_code 4 = .ok (.iload_n 0, 1) := by decide +kernel
theorem d19_5 : decode jdk_43_method_4_code 5 = .ok (.sipush 255, 3) := by decide +kernel
theorem d19_8 : decode jdk_43_method_4_code 8 = .ok (.if_icmp .gt 7, 3) := by decide +kernel
theorem d19_11 : decode jdk_43_method_4_code 11 = .ok (.iconst 1, 1) := by decide +kernel
theorem d19_12 : decode jdk_43_method_4_code 12 = .ok (.goto 4, 3) := by decide +kernel
def Q_rm_can (Z : State) (p1 : Int32) (r : Int32) (h0 : Heap) (n0 : Nat) (v : Option Value) (h : Heap) (L : List Loc) : Prop := v = some (.int r) ∧ Fr n0 L ∧ h = h0
set_option maxRecDepth 65536 in
set_option maxHeartbeats 40000000 in
theorem rm_can (l : Launch) (Z : State) (a0 : Array Value) (hw : ∀ d ∈ tables_1, d.before a0 Z = true) (ws : List Jvm.Cond) (p1 : Int32) (r : Int32) (h0 : Heap) (n0 : Nat) (OL : Old Z n0 h0) (hr' : r = if p1 < 0 then 0 else if (255 : Int32) < p1 then 0 else 1) :
    MetFree l (⟨"java/lang/StringLatin1", "canEncode", "(I)Z"⟩ : MethodName) (head1 (Jvm.Cond.code (⟨"java/lang/StringLatin1", "canEncode", "(I)Z"⟩ : MethodName) jdk_43_method_4_code 1 (some .boolean) :: ws) ({ frames := 0, cells := 0, slots := 0, locals := 0 } : Room)) (fun a U => a = #[(.int p1)] ∧ Z.Warmed39 U.vm ∧ U.heap = h0) (fun _ _ _ _ _ => True) (fun _ U o U' => ∃ v L, o = .returned v ∧ Q_rm_can Z p1 r h0 n0 v U'.heap L ∧ FrameEnd U o U' L ({ frames := 0, cells := 0, slots := 0, locals := 0 } : Room).cells ({ frames := 0, cells := 0, slots := 0, locals := 0 } : Room).slots) := by
  refine MetFree.of_bodySF (plainFor_of_name pn_java_lang_StringLatin1) hisR ?_
  intro p e s m args below meth c s₁ Bd hml0 hP hK
  obtain ⟨rfl, hZ, hh⟩ := hP
  have hx := Bd.exec
  have hby := Bd.bytes
  have hml : c.maxLocals = 1 := hml0
  have hown : s.vm.findClass "java/lang/StringLatin1" = some m.cls := findClass_of_methodNamed Bd.named
  have hnm := (name_of_methodNamed Bd.named Bd.method).1
  have X0 : Stand p l e ({ frames := 0, cells := 0, slots := 0, locals := 0 } : Room) s m #[(.int p1)] below meth c s₁ [] 0 0 := Stand.of_body Bd
  have e0 : s₁.heap = h0 := by rw [← hh, Bd.state]; rfl
  have N0 := Fr.nil n0
  have pre0 : oL p e below s₁ (mkF m 0 #[oI p1] []) s₁ (entryFrame m #[(.int p1)] 1) := fun t k => castTop (by first | (simp [entryFrame, mkF, argsToLocals, Value.category]; done) | rfl) k
  have pre11 : oL p e below s₁ (mkF m 1 #[oI p1] [oi p1]) s₁ (entryFrame m #[(.int p1)] 1) := fun t k => pre0 t (by
    refine XS.iloadN X0.here hx rfl (hb hby d19_0) rfl ?_
    exact k)
  by_cases hc12 : p1 < (0 : Int32)
  ·
    have pre13 : oL p e below s₁ (mkF m 16 #[oI p1] [oi 0]) s₁ (entryFrame m #[(.int p1)] 1) := fun t k => pre11 t (by
      refine XS.ifYes X0.here hx rfl (pc0 := 1) (pc' := 15) rfl (hb hby d19_1) rfl ((if0 _ _).trans (tlt hc12).1) (by decide) (by decide) ?_
      refine XS.iconst X0.here hx rfl (hb hby d19_15) ?_
      exact k)
    obtain ⟨fs, hr, hrun, hended, hW, hsame⟩ := X0.leave (v := some (.int (0 : Int32))) (fun h => by rw [Bd.returns] at h; cases h)
    refine ⟨_, _, pre13 _ ?_, hrun, hended, _, _, rfl, ?_, ⟨_, rfl⟩, hW, hsame.mono (by decide) (by decide)⟩
    ·
      show oS p e below s₁ (mkF m 16 #[oI p1] [oi 0]) _
      exact retN X0 hx (t := .boolean) Bd.returns (by simp) (hb hby d19_16) hr
    ·
      show Q_rm_can Z p1 r h0 n0 _ s₁.heap _
      rw [e0]
      exact ⟨by rw [hr']; simp [hc12], N0, rfl⟩
  ·
    have pre14 : oL p e below s₁ (mkF m 8 #[oI p1] [oi 255, oi p1]) s₁ (entryFrame m #[(.int p1)] 1) := fun t k => pre11 t (by
      refine XS.ifNo X0.here hx rfl (hb hby d19_1) rfl ((if0 _ _).trans (flt hc12).1) ?_
      refine XS.iloadN X0.here hx rfl (hb hby d19_4) rfl ?_
      refine XS.sipush X0.here hx rfl (hb hby d19_5) ?_
      show oS p e below s₁ (mkF m 8 #[oI p1] [oi 255, oi p1]) _
      exact k)
    by_cases hc15 : (255 : Int32) < p1
    ·
      have pre16 : oL p e below s₁ (mkF m 16 #[oI p1] [oi 0]) s₁ (entryFrame m #[(.int p1)] 1) := fun t k => pre14 t (by
        refine XS.icmpYes X0.here hx rfl (pc0 := 8) (pc' := 15) rfl (hb hby d19_8) rfl (tlt hc15).2.2.1 (by decide) (by decide) ?_
        refine XS.iconst X0.here hx rfl (hb hby d19_15) ?_
        exact k)
      obtain ⟨fs, hr, hrun, hended, hW, hsame⟩ := X0.leave (v := some (.int (0 : Int32))) (fun h => by rw [Bd.returns] at h; cases h)
      refine ⟨_, _, pre16 _ ?_, hrun, hended, _, _, rfl, ?_, ⟨_, rfl⟩, hW, hsame.mono (by decide) (by decide)⟩
      ·
        show oS p e below s₁ (mkF m 16 #[oI p1] [oi 0]) _
        exact retN X0 hx (t := .boolean) Bd.returns (by simp) (hb hby d19_16) hr
      ·
        show Q_rm_can Z p1 r h0 n0 _ s₁.heap _
        rw [e0]
        exact ⟨by rw [hr']; simp [hc12, hc15], N0, rfl⟩
    ·
      have pre17 : oL p e below s₁ (mkF m 16 #[oI p1] [oi 1]) s₁ (entryFrame m #[(.int p1)] 1) := fun t k => pre14 t (by
        refine XS.icmpNo X0.here hx rfl (hb hby d19_8) rfl (flt hc15).2.2.1 ?_
        refine XS.iconst X0.here hx rfl (hb hby d19_11) ?_
        refine XS.goto X0.here hx rfl (pc0 := 12) (pc' := 16) rfl (hb hby d19_12) (by decide) (by decide) ?_
        exact k)
      obtain ⟨fs, hr, hrun, hended, hW, hsame⟩ := X0.leave (v := some (.int (1 : Int32))) (fun h => by rw [Bd.returns] at h; cases h)
      refine ⟨_, _, pre17 _ ?_, hrun, hended, _, _, rfl, ?_, ⟨_, rfl⟩, hW, hsame.mono (by decide) (by decide)⟩
      ·
        show oS p e below s₁ (mkF m 16 #[oI p1] [oi 1]) _
        exact retN X0 hx (t := .boolean) Bd.returns (by simp) (hb hby d19_16) hr
      ·
        show Q_rm_can Z p1 r h0 n0 _ s₁.heap _
        rw [e0]
        exact ⟨by rw [hr']; simp [hc12, hc15], N0, rfl⟩
theorem d20_0 : decode jdk_29_method_65_code 0 = .ok (.iload_n 0, 1) := by decide +kernel
theorem d20_1 : decode jdk_29_method_65_code 1 = .ok (.iload_n 1, 1) := by decide +kernel
theorem d20_2 : decode jdk_29_method_65_code 2 = .ok (.if_icmp .lt 7, 3) := by decide +kernel
theorem d20_5 : decode jdk_29_method_65_code 5 = .ok (.iload_n 0, 1) := by decide +kernel
theorem d20_6 : decode jdk_29_method_65_code 6 = .ok (.goto 4, 3) := by decide +kernel
theorem d20_10 : decode jdk_29_method_65_code 10 = .ok (.ireturn, 1) := by decide +kernel
def Q_rm_max (Z : State)  (h0 : Heap) (n0 : Nat) (v : Option Value) (h : Heap) (L : List Loc) : Prop := v = some (.int (0 : Int32)) ∧ Fr n0 L ∧ h = h0
set_option maxRecDepth 65536 in
set_option maxHeartbeats 40000000 in
theorem rm_max (l : Launch) (Z : State) (a0 : Array Value) (hw : ∀ d ∈ tables_1, d.before a0 Z = true) (ws : List Jvm.Cond)  (h0 : Heap) (n0 : Nat) (OL : Old Z n0 h0) :
    MetFree l (⟨"java/lang/Math", "max", "(II)I"⟩ : MethodName) (head1 (Jvm.Cond.code (⟨"java/lang/Math", "max", "(II)I"⟩ : MethodName) jdk_29_method_65_code 2 (some .int) :: ws) ({ frames := 0, cells := 0, slots := 0, locals := 0 } : Room)) (fun a U => a = #[(.int (0 : Int32)), (.int (0 : Int32))] ∧ Z.Warmed39 U.vm ∧ U.heap = h0) (fun _ _ _ _ _ => True) (fun _ U o U' => ∃ v L, o = .returned v ∧ Q_rm_max Z  h0 n0 v U'.heap L ∧ FrameEnd U o U' L ({ frames := 0, cells := 0, slots := 0, locals := 0 } : Room).cells ({ frames := 0, cells := 0, slots := 0, locals := 0 } : Room).slots) := by
  refine MetFree.of_bodySF (Jvm.Free.JP.mathPlain rfl (by decide +kernel)) hisR ?_
  intro p e s m args below meth c s₁ Bd hml0 hP hK
  obtain ⟨rfl, hZ, hh⟩ := hP
  have hx := Bd.exec
  have hby := Bd.bytes
  have hml : c.maxLocals = 2 := hml0
  have hown : s.vm.findClass "java/lang/Math" = some m.cls := findClass_of_methodNamed Bd.named
  have hnm := (name_of_methodNamed Bd.named Bd.method).1
  have X0 : Stand p l e ({ frames := 0, cells := 0, slots := 0, locals := 0 } : Room) s m #[(.int (0 : Int32)), (.int (0 : Int32))] below meth c s₁ [] 0 0 := Stand.of_body Bd
  have e0 : s₁.heap = h0 := by rw [← hh, Bd.state]; rfl
  have N0 := Fr.nil n0
  have pre0 : oL p e below s₁ (mkF m 0 #[oI 0, oI 0] []) s₁ (entryFrame m #[(.int (0 : Int32)), (.int (0 : Int32))] 2) := fun t k => castTop (by first | (simp [entryFrame, mkF, argsToLocals, Value.category]; done) | rfl) k
  have pre11 : oL p e below s₁ (mkF m 10 #[oI 0, oI 0] [oi 0]) s₁ (entryFrame m #[(.int (0 : Int32)), (.int (0 : Int32))] 2) := fun t k => pre0 t (by
    refine XS.iloadN X0.here hx rfl (hb hby d20_0) rfl ?_
    refine XS.iloadN X0.here hx rfl (hb hby d20_1) rfl ?_
    refine XS.icmpNo X0.here hx rfl (hb hby d20_2) rfl (flt (by decide : ¬ ((0 : Int32) < (0 : Int32)))).1 ?_
    refine XS.iloadN X0.here hx rfl (hb hby d20_5) rfl ?_
    show oS p e below s₁ (mkF m 6 #[oI 0, oI 0] [oi 0]) _
    refine XS.goto X0.here hx rfl (pc0 := 6) (pc' := 10) rfl (hb hby d20_6) (by decide) (by decide) ?_
    exact k)
  obtain ⟨fs, hr, hrun, hended, hW, hsame⟩ := X0.leave (v := some (.int (0 : Int32))) (fun h => by rw [Bd.returns] at h; cases h)
  refine ⟨_, _, pre11 _ ?_, hrun, hended, _, _, rfl, ?_, ⟨_, rfl⟩, hW, hsame.mono (by decide) (by decide)⟩
  ·
    show oS p e below s₁ (mkF m 10 #[oI 0, oI 0] [oi 0]) _
    exact retI X0 hx Bd.returns (hb hby d20_10) hr
  ·
    show Q_rm_max Z  h0 n0 _ s₁.heap _
    rw [e0]
    exact ⟨rfl, N0, rfl⟩
theorem d15_0 : decode jdk_42_method_154_code 0 = .ok (.getstatic 38, 3) := by decide +kernel
theorem d15_3 : decode jdk_42_method_154_code 3 = .ok (.ifCond .eq 14, 3) := by decide +kernel
theorem d15_6 : decode jdk_42_method_154_code 6 = .ok (.aload_n 0, 1) := by decide +kernel
theorem d15_7 : decode jdk_42_method_154_code 7 = .ok (.getfield 15, 3) := by decide +kernel
theorem d15_10 : decode jdk_42_method_154_code 10 = .ok (.ifCond .ne 7, 3) := by decide +kernel
theorem d15_13 : decode jdk_42_method_154_code 13 = .ok (.iconst 1, 1) := by decide +kernel
theorem d15_14 : decode jdk_42_method_154_code 14 = .ok (.goto 4, 3) := by decide +kernel
theorem d15_18 : decode jdk_42_method_154_code 18 = .ok (.ireturn, 1) := by decide +kernel
def Q_rm_isLatin1 (Z : State) (a1 : Addr) (t1 : Addr) (G1 : Int32) (h0 : Heap) (n0 : Nat) (v : Option Value) (h : Heap) (L : List Loc) : Prop := v = some (.int (1 : Int32)) ∧ Fr n0 L ∧ h = h0
set_option maxRecDepth 65536 in
set_option maxHeartbeats 40000000 in
theorem rm_isLatin1 (l : Launch) (Z : State) (a0 : Array Value) (hw : ∀ d ∈ tables_1, d.before a0 Z = true) (ws : List Jvm.Cond) (a1 : Addr) (t1 : Addr) (G1 : Int32) (h0 : Heap) (n0 : Nat) (OL : Old Z n0 h0) (O2 : Sta Z Z.heap "java/lang/String" "COMPACT_STRINGS" "Z" (.int G1)) (P5 : ¬ (G1 = (0 : Int32))) (E1 : Exa Z h0 a1 "java/lang/String") (F1 : Fld Z h0 a1 "java/lang/String" "value" "[B" (.ref t1)) (F2 : Fld Z h0 a1 "java/lang/String" "coder" "B" (.int (0 : Int32))) :
    MetFree l (⟨"java/lang/String", "isLatin1", "()Z"⟩ : MethodName) (head1 (Jvm.Cond.code (⟨"java/lang/String", "isLatin1", "()Z"⟩ : MethodName) jdk_42_method_154_code 1 (some .boolean) :: ws) ({ frames := 0, cells := 0, slots := 0, locals := 0 } : Room)) (fun a U => a = #[(.ref a1)] ∧ Z.Warmed39 U.vm ∧ U.heap = h0) (fun _ _ _ _ _ => True) (fun _ U o U' => ∃ v L, o = .returned v ∧ Q_rm_isLatin1 Z a1 t1 G1 h0 n0 v U'.heap L ∧ FrameEnd U o U' L ({ frames := 0, cells := 0, slots := 0, locals := 0 } : Room).cells ({ frames := 0, cells := 0, slots := 0, locals := 0 } : Room).slots) := by
  refine MetFree.of_bodySF (plainFor_of_name pn_java_lang_String) hisR ?_
  intro p e s m args below meth c s₁ Bd hml0 hP hK
  obtain ⟨rfl, hZ, hh⟩ := hP
  have hx := Bd.exec
  have hby := Bd.bytes
  have hml : c.maxLocals = 1 := hml0
  have hown : s.vm.findClass "java/lang/String" = some m.cls := findClass_of_methodNamed Bd.named
  have hnm := (name_of_methodNamed Bd.named Bd.method).1
  have X0 : Stand p l e ({ frames := 0, cells := 0, slots := 0, locals := 0 } : Room) s m #[(.ref a1)] below meth c s₁ [] 0 0 := Stand.of_body Bd
  have e0 : s₁.heap = h0 := by rw [← hh, Bd.state]; rfl
  have N0 := Fr.nil n0
  have pre0 : oL p e below s₁ (mkF m 0 #[oR a1] []) s₁ (entryFrame m #[(.ref a1)] 1) := fun t k => castTop (by first | (simp [entryFrame, mkF, argsToLocals, Value.category]; done) | rfl) k
  obtain ⟨T11, X11, e11, st11⟩ := getS2 X0 hx hZ hown (host := "") (Or.inl (oW hw 14 rfl)) Via.refl e0 (O2.ext OL.2) (g := (mkF m 0 #[oR a1] [])) rfl (hb hby d15_0)
  have pre12 : oL p e below T11 (mkF m 7 #[oR a1] [ow a1]) s₁ (entryFrame m #[(.ref a1)] 1) := fun t k => pre0 t (by
    refine st11 _ ?_
    refine XS.ifNo X11.here hx rfl (hb hby d15_3) rfl ((if0 _ _).trans (feq P5).1) ?_
    refine XS.aloadN X11.here hx rfl (hb hby d15_6) rfl rfl ?_
    exact k)
  obtain ⟨T13, X13, e13, st13⟩ := getF X11 hx hZ hown (host := "") (Or.inl (oW hw 26 rfl)) Via.refl e11 F2 (g := (mkF m 7 #[oR a1] [ow a1])) rfl rfl (hb hby d15_7)
  have pre14 : oL p e below T13 (mkF m 18 #[oR a1] [oi 1]) s₁ (entryFrame m #[(.ref a1)] 1) := fun t k => pre12 t (by
    refine st13 _ ?_
    show oS p e below T13 (mkF m 10 #[oR a1] [oi 0]) _
    refine XS.ifNo X13.here hx rfl (hb hby d15_10) rfl ((if0 _ _).trans (teq (by decide : (0 : Int32) = (0 : Int32))).2) ?_
    refine XS.iconst X13.here hx rfl (hb hby d15_13) ?_
    refine XS.goto X13.here hx rfl (pc0 := 14) (pc' := 18) rfl (hb hby d15_14) (by decide) (by decide) ?_
    exact k)
  obtain ⟨fs, hr, hrun, hended, hW, hsame⟩ := X13.leave (v := some (.int (1 : Int32))) (fun h => by rw [Bd.returns] at h; cases h)
  refine ⟨_, _, pre14 _ ?_, hrun, hended, _, _, rfl, ?_, ⟨_, rfl⟩, hW, hsame.mono (by decide) (by decide)⟩
  ·
    show oS p e below T13 (mkF m 18 #[oR a1] [oi 1]) _
    exact retN X13 hx (t := .boolean) Bd.returns (by simp) (hb hby d15_18) hr
  ·
    show Q_rm_isLatin1 Z a1 t1 G1 h0 n0 _ T13.heap _
    rw [e13]
    exact ⟨rfl, N0, rfl⟩
theorem d17_0 : decode jdk_42_method_152_code 0 = .ok (.getstatic 38, 3) := by decide +kernel
theorem d17_3 : decode jdk_42_method_152_code 3 = .ok (.ifCond .eq 10, 3) := by decide +kernel
theorem d17_6 : decode jdk_42_method_152_code 6 = .ok (.aload_n 0, 1) := by decide +kernel
theorem d17_7 : decode jdk_42_method_152_code 7 = .ok (.getfield 15, 3) := by decide +kernel
theorem d17_10 : decode jdk_42_method_152_code 10 = .ok (.goto 4, 3) := by decide +kernel
theorem d17_14 : decode jdk_42_method_152_code 14 = .ok (.ireturn, 1) := by decide +kernel
def Q_rm_coder (Z : State) (a1 : Addr) (t1 : Addr) (G1 : Int32) (h0 : Heap) (n0 : Nat) (v : Option Value) (h : Heap) (L : List Loc) : Prop := v = some (.int (0 : Int32)) ∧ Fr n0 L ∧ h = h0
set_option maxRecDepth 65536 in
set_option maxHeartbeats 40000000 in
theorem rm_coder (l : Launch) (Z : State) (a0 : Array Value) (hw : ∀ d ∈ tables_1, d.before a0 Z = true) (ws : List Jvm.Cond) (a1 : Addr) (t1 : Addr) (G1 : Int32) (h0 : Heap) (n0 : Nat) (OL : Old Z n0 h0) (O2 : Sta Z Z.heap "java/lang/String" "COMPACT_STRINGS" "Z" (.int G1)) (P5 : ¬ (G1 = (0 : Int32))) (E1 : Exa Z h0 a1 "java/lang/String") (F1 : Fld Z h0 a1 "java/lang/String" "value" "[B" (.ref t1)) (F2 : Fld Z h0 a1 "java/lang/String" "coder" "B" (.int (0 : Int32))) :
    MetFree l (⟨"java/lang/String", "coder", "()B"⟩ : MethodName) (head1 (Jvm.Cond.code (⟨"java/lang/String", "coder", "()B"⟩ : MethodName) jdk_42_method_152_code 1 (some .byte) :: ws) ({ frames := 0, cells := 0, slots := 0, locals := 0 } : Room)) (fun a U => a = #[(.ref a1)] ∧ Z.Warmed39 U.vm ∧ U.heap = h0) (fun _ _ _ _ _ => True) (fun _ U o U' => ∃ v L, o = .returned v ∧ Q_rm_coder Z a1 t1 G1 h0 n0 v U'.heap L ∧ FrameEnd U o U' L ({ frames := 0, cells := 0, slots := 0, locals := 0 } : Room).cells ({ frames := 0, cells := 0, slots := 0, locals := 0 } : Room).slots) := by
  refine MetFree.of_bodySF (plainFor_of_name pn_java_lang_String) hisR ?_
  intro p e s m args below meth c s₁ Bd hml0 hP hK
  obtain ⟨rfl, hZ, hh⟩ := hP
  have hx := Bd.exec
  have hby := Bd.bytes
  have hml : c.maxLocals = 1 := hml0
  have hown : s.vm.findClass "java/lang/String" = some m.cls := findClass_of_methodNamed Bd.named
  have hnm := (name_of_methodNamed Bd.named Bd.method).1
  have X0 : Stand p l e ({ frames := 0, cells := 0, slots := 0, locals := 0 } : Room) s m #[(.ref a1)] below meth c s₁ [] 0 0 := Stand.of_body Bd
  have e0 : s₁.heap = h0 := by rw [← hh, Bd.state]; rfl
  have N0 := Fr.nil n0
  have pre0 : oL p e below s₁ (mkF m 0 #[oR a1] []) s₁ (entryFrame m #[(.ref a1)] 1) := fun t k => castTop (by first | (simp [entryFrame, mkF, argsToLocals, Value.category]; done) | rfl) k
  obtain ⟨T11, X11, e11, st11⟩ := getS2 X0 hx hZ hown (host := "") (Or.inl (oW hw 14 rfl)) Via.refl e0 (O2.ext OL.2) (g := (mkF m 0 #[oR a1] [])) rfl (hb hby d17_0)
  have pre12 : oL p e below T11 (mkF m 7 #[oR a1] [ow a1]) s₁ (entryFrame m #[(.ref a1)] 1) := fun t k => pre0 t (by
    refine st11 _ ?_
    refine XS.ifNo X11.here hx rfl (hb hby d17_3) rfl ((if0 _ _).trans (feq P5).1) ?_
    refine XS.aloadN X11.here hx rfl (hb hby d17_6) rfl rfl ?_
    exact k)
  obtain ⟨T13, X13, e13, st13⟩ := getF X11 hx hZ hown (host := "") (Or.inl (oW hw 26 rfl)) Via.refl e11 F2 (g := (mkF m 7 #[oR a1] [ow a1])) rfl rfl (hb hby d17_7)
  have pre14 : oL p e below T13 (mkF m 14 #[oR a1] [oi 0]) s₁ (entryFrame m #[(.ref a1)] 1) := fun t k => pre12 t (by
    refine st13 _ ?_
    show oS p e below T13 (mkF m 10 #[oR a1] [oi 0]) _
    refine XS.goto X13.here hx rfl (pc0 := 10) (pc' := 14) rfl (hb hby d17_10) (by decide) (by decide) ?_
    exact k)
  obtain ⟨fs, hr, hrun, hended, hW, hsame⟩ := X13.leave (v := some (.int (0 : Int32))) (fun h => by rw [Bd.returns] at h; cases h)
  refine ⟨_, _, pre14 _ ?_, hrun, hended, _, _, rfl, ?_, ⟨_, rfl⟩, hW, hsame.mono (by decide) (by decide)⟩
  ·
    show oS p e below T13 (mkF m 14 #[oR a1] [oi 0]) _
    exact retN X13 hx (t := .byte) Bd.returns (by simp) (hb hby d17_14) hr
  ·
    show Q_rm_coder Z a1 t1 G1 h0 n0 _ T13.heap _
    rw [e13]
    exact ⟨rfl, N0, rfl⟩
theorem d21_0 : decode jdk_29_method_69_code 0 = .ok (.iload_n 0, 1) := by decide +kernel
theorem d21_1 : decode jdk_29_method_69_code 1 = .ok (.iload_n 1, 1) := by decide +kernel
theorem d21_2 : decode jdk_29_method_69_code 2 = .ok (.if_icmp .gt 7, 3) := by decide +kernel
theorem d21_5 : decode jdk_29_method_69_code 5 = .ok (.iload_n 0, 1) := by decide +kernel
theorem d21_6 : decode jdk_29_method_69_code 6 = .ok (.goto 4, 3) := by decide +kernel
theorem d21_10 : decode jdk_29_method_69_code 10 = .ok (.ireturn, 1) := by decide +kernel
def Q_rm_min0 (Z : State)  (h0 : Heap) (n0 : Nat) (v : Option Value) (h : Heap) (L : List Loc) : Prop := v = some (.int (0 : Int32)) ∧ Fr n0 L ∧ h = h0
set_option maxRecDepth 65536 in
set_option maxHeartbeats 40000000 in
theorem rm_min0 (l : Launch) (Z : State) (a0 : Array Value) (hw : ∀ d ∈ tables_1, d.before a0 Z = true) (ws : List Jvm.Cond)  (h0 : Heap) (n0 : Nat) (OL : Old Z n0 h0) :
    MetFree l (⟨"java/lang/Math", "min", "(II)I"⟩ : MethodName) (head1 (Jvm.Cond.code (⟨"java/lang/Math", "min", "(II)I"⟩ : MethodName) jdk_29_method_69_code 2 (some .int) :: ws) ({ frames := 0, cells := 0, slots := 0, locals := 0 } : Room)) (fun a U => a = #[(.int (0 : Int32)), (.int (0 : Int32))] ∧ Z.Warmed39 U.vm ∧ U.heap = h0) (fun _ _ _ _ _ => True) (fun _ U o U' => ∃ v L, o = .returned v ∧ Q_rm_min0 Z  h0 n0 v U'.heap L ∧ FrameEnd U o U' L ({ frames := 0, cells := 0, slots := 0, locals := 0 } : Room).cells ({ frames := 0, cells := 0, slots := 0, locals := 0 } : Room).slots) := by
  refine MetFree.of_bodySF (Jvm.Free.JP.mathPlain rfl (by decide +kernel)) hisR ?_
  intro p e s m args below meth c s₁ Bd hml0 hP hK
  obtain ⟨rfl, hZ, hh⟩ := hP
  have hx := Bd.exec
  have hby := Bd.bytes
  have hml : c.maxLocals = 2 := hml0
  have hown : s.vm.findClass "java/lang/Math" = some m.cls := findClass_of_methodNamed Bd.named
  have hnm := (name_of_methodNamed Bd.named Bd.method).1
  have X0 : Stand p l e ({ frames := 0, cells := 0, slots := 0, locals := 0 } : Room) s m #[(.int (0 : Int32)), (.int (0 : Int32))] below meth c s₁ [] 0 0 := Stand.of_body Bd
  have e0 : s₁.heap = h0 := by rw [← hh, Bd.state]; rfl
  have N0 := Fr.nil n0
  have pre0 : oL p e below s₁ (mkF m 0 #[oI 0, oI 0] []) s₁ (entryFrame m #[(.int (0 : Int32)), (.int (0 : Int32))] 2) := fun t k => castTop (by first | (simp [entryFrame, mkF, argsToLocals, Value.category]; done) | rfl) k
  have pre11 : oL p e below s₁ (mkF m 10 #[oI 0, oI 0] [oi 0]) s₁ (entryFrame m #[(.int (0 : Int32)), (.int (0 : Int32))] 2) := fun t k => pre0 t (by
    refine XS.iloadN X0.here hx rfl (hb hby d21_0) rfl ?_
    refine XS.iloadN X0.here hx rfl (hb hby d21_1) rfl ?_
    refine XS.icmpNo X0.here hx rfl (hb hby d21_2) rfl (flt (by decide : ¬ ((0 : Int32) < (0 : Int32)))).2.2.1 ?_
    refine XS.iloadN X0.here hx rfl (hb hby d21_5) rfl ?_
    show oS p e below s₁ (mkF m 6 #[oI 0, oI 0] [oi 0]) _
    refine XS.goto X0.here hx rfl (pc0 := 6) (pc' := 10) rfl (hb hby d21_6) (by decide) (by decide) ?_
    exact k)
  obtain ⟨fs, hr, hrun, hended, hW, hsame⟩ := X0.leave (v := some (.int (0 : Int32))) (fun h => by rw [Bd.returns] at h; cases h)
  refine ⟨_, _, pre11 _ ?_, hrun, hended, _, _, rfl, ?_, ⟨_, rfl⟩, hW, hsame.mono (by decide) (by decide)⟩
  ·
    show oS p e below s₁ (mkF m 10 #[oI 0, oI 0] [oi 0]) _
    exact retI X0 hx Bd.returns (hb hby d21_10) hr
  ·
    show Q_rm_min0 Z  h0 n0 _ s₁.heap _
    rw [e0]
    exact ⟨rfl, N0, rfl⟩
theorem d18_0 : decode jdk_43_method_22_code 0 = .ok (.iload_n 1, 1) := by decide +kernel
theorem d18_1 : decode jdk_43_method_22_code 1 = .ok (.invokestatic 88, 3) := by decide +kernel
theorem pd__I_Z : parseMethodDescriptor "(I)Z" = some ⟨[.int], some .boolean⟩ := by decide +kernel
theorem d18_4 : decode jdk_43_method_22_code 4 = .ok (.ifCond .ne 5, 3) := by decide +kernel
theorem d18_7 : decode jdk_43_method_22_code 7 = .ok (.iconst (-1), 1) := by decide +kernel
theorem d18_8 : decode jdk_43_method_22_code 8 = .ok (.ireturn, 1) := by decide +kernel
theorem d18_9 : decode jdk_43_method_22_code 9 = .ok (.iload_n 2, 1) := by decide +kernel
theorem d18_10 : decode jdk_43_method_22_code 10 = .ok (.iconst 0, 1) := by decide +kernel
theorem d18_11 : decode jdk_43_method_22_code 11 = .ok (.invokestatic 92, 3) := by decide +kernel
theorem pd__II_I : parseMethodDescriptor "(II)I" = some ⟨[.int, .int], some .int⟩ := by decide +kernel
theorem d18_14 : decode jdk_43_method_22_code 14 = .ok (.istore_n 2, 1) := by decide +kernel
theorem d18_15 : decode jdk_43_method_22_code 15 = .ok (.iload_n 3, 1) := by decide +kernel
theorem d18_16 : decode jdk_43_method_22_code 16 = .ok (.aload_n 0, 1) := by decide +kernel
theorem d18_17 : decode jdk_43_method_22_code 17 = .ok (.arraylength, 1) := by decide +kernel
theorem d18_18 : decode jdk_43_method_22_code 18 = .ok (.invokestatic 38, 3) := by decide +kernel
theorem d18_21 : decode jdk_43_method_22_code 21 = .ok (.istore_n 3, 1) := by decide +kernel
theorem d18_22 : decode jdk_43_method_22_code 22 = .ok (.iload_n 2, 1) := by decide +kernel
theorem d18_23 : decode jdk_43_method_22_code 23 = .ok (.iload_n 3, 1) := by decide +kernel
theorem d18_24 : decode jdk_43_method_22_code 24 = .ok (.if_icmp .lt 5, 3) := by decide +kernel
theorem d18_27 : decode jdk_43_method_22_code 27 = .ok (.iconst (-1), 1) := by decide +kernel
theorem d18_28 : decode jdk_43_method_22_code 28 = .ok (.ireturn, 1) := by decide +kernel
def Q_rm_io0 (Z : State) (t1 : Addr) (k1 : ClassId) (p2 : Int32) (r : Int32) (h0 : Heap) (n0 : Nat) (v : Option Value) (h : Heap) (L : List Loc) : Prop := v = some (.int r) ∧ Fr n0 L ∧ h = h0
set_option maxRecDepth 65536 in
set_option maxHeartbeats 40000000 in
theorem rm_io0 (l : Launch) (Z : State) (a0 : Array Value) (hw : ∀ d ∈ tables_1, d.before a0 Z = true) (ws : List Jvm.Cond) (t1 : Addr) (k1 : ClassId) (p2 : Int32) (r : Int32) (h0 : Heap) (n0 : Nat) (OL : Old Z n0 h0) (V1 : Arv Z h0 t1 k1 .byte (0 : Int32) [] (.int (0 : Int32))) (hr' : r = if p2 < 0 then -1 else if (255 : Int32) < p2 then -1 else (-1 : Int32)) :
    MetFree l (⟨"java/lang/StringLatin1", "indexOf", "([BIII)I"⟩ : MethodName) (head1 (Jvm.Cond.code (⟨"java/lang/StringLatin1", "indexOf", "([BIII)I"⟩ : MethodName) jdk_43_method_22_code 4 (some .int) :: ws) ({ frames := 1, cells := 0, slots := 0, locals := 13 } : Room)) (fun a U => a = #[(.ref t1), (.int p2), (.int (0 : Int32)), (.int (0 : Int32))] ∧ Z.Warmed39 U.vm ∧ U.heap = h0) (fun _ _ _ _ _ => True) (fun _ U o U' => ∃ v L, o = .returned v ∧ Q_rm_io0 Z t1 k1 p2 r h0 n0 v U'.heap L ∧ FrameEnd U o U' L ({ frames := 1, cells := 0, slots := 0, locals := 13 } : Room).cells ({ frames := 1, cells := 0, slots := 0, locals := 13 } : Room).slots) := by
  refine MetFree.of_bodySF (plainFor_of_name pn_java_lang_StringLatin1) hisR ?_
  intro p e s m args below meth c s₁ Bd hml0 hP hK
  obtain ⟨rfl, hZ, hh⟩ := hP
  have hx := Bd.exec
  have hby := Bd.bytes
  have hml : c.maxLocals = 4 := hml0
  have hown : s.vm.findClass "java/lang/StringLatin1" = some m.cls := findClass_of_methodNamed Bd.named
  have hnm := (name_of_methodNamed Bd.named Bd.method).1
  have X0 : Stand p l e ({ frames := 1, cells := 0, slots := 0, locals := 13 } : Room) s m #[(.ref t1), (.int p2), (.int (0 : Int32)), (.int (0 : Int32))] below meth c s₁ [] 0 0 := Stand.of_body Bd
  have e0 : s₁.heap = h0 := by rw [← hh, Bd.state]; rfl
  have N0 := Fr.nil n0
  have pre0 : oL p e below s₁ (mkF m 0 #[oR t1, oI p2, oI 0, oI 0] []) s₁ (entryFrame m #[(.ref t1), (.int p2), (.int (0 : Int32)), (.int (0 : Int32))] 4) := fun t k => castTop (by first | (simp [entryFrame, mkF, argsToLocals, Value.category]; done) | rfl) k
  have pre11 : oL p e below s₁ (mkF m 1 #[oR t1, oI p2, oI 0, oI 0] [oi p2]) s₁ (entryFrame m #[(.ref t1), (.int p2), (.int (0 : Int32)), (.int (0 : Int32))] 4) := fun t k => pre0 t (by
    refine XS.iloadN X0.here hx rfl (hb hby d18_0) rfl ?_
    exact k)
  obtain ⟨_, _, ⟨T12, L12, k12, n12⟩, -, X12, ⟨Lc12, hQ12, l12, y12, z12⟩, st12⟩ := Jvm.LawKit.callS X0 hx (y := (⟨"java/lang/StringLatin1", "canEncode", "(I)Z"⟩ : MethodName)) hown (mvT hZ (oW hw 99 rfl)) (mvT hZ (oW hw 100 rfl)) (mvT hZ (oW hw 97 rfl)) (mvT hZ (oW hw 101 rfl)) (by decide) (backOf (W := 0) (rm_can l Z a0 hw [] p2 (if p2 < 0 then 0 else if (255 : Int32) < p2 then 0 else 1) h0 n0 OL rfl) hZ (oW hw 101 rfl) (oW hw 97 rfl) (by decide) (by decide)) (g := (mkF m 1 #[oR t1, oI p2, oI 0, oI 0] [oi p2])) rfl (by rw [hml]; rfl) (argsL := [(.int p2)]) (rest := []) (lenOf pd__I_Z rfl) rfl (by show 2 * 0 + _ ≤ _; exact Nat.le_of_eq rfl) (hb hby d18_1) (fun _ _ => ⟨rfl, e0, (by decide : 0 + 0 ≤ _), (by decide : 0 + 0 ≤ _)⟩)
  dsimp only [Pt.U, Pt.locs, Pt.cells, Pt.slots] at X12 l12 y12 z12 st12 hQ12
  subst l12 y12 z12
  obtain ⟨rfl, N12q, e12⟩ := hQ12
  have N12 := Fr.app N0 N12q
  have pre13 : oL p e below T12 (mkF m 4 #[oR t1, oI p2, oI 0, oI 0] [oi (if p2 < 0 then 0 else if (255 : Int32) < p2 then 0 else 1)]) s₁ (entryFrame m #[(.ref t1), (.int p2), (.int (0 : Int32)), (.int (0 : Int32))] 4) := fun t k => pre11 t (by
    refine st12 _ ?_
    exact k)
  by_cases hc14 : (if p2 < 0 then 0 else if (255 : Int32) < p2 then 0 else 1) = (0 : Int32)
  ·
    have pre15 : oL p e below T12 (mkF m 8 #[oR t1, oI p2, oI 0, oI 0] [oi (-1)]) s₁ (entryFrame m #[(.ref t1), (.int p2), (.int (0 : Int32)), (.int (0 : Int32))] 4) := fun t k => pre13 t (by
      refine XS.ifNo X12.here hx rfl (hb hby d18_4) rfl ((if0 _ _).trans (teq hc14).2) ?_
      refine XS.iconst X12.here hx rfl (hb hby d18_7) ?_
      show oS p e below T12 (mkF m 8 #[oR t1, oI p2, oI 0, oI 0] [oi (-1)]) _
      exact k)
    obtain ⟨fs, hr, hrun, hended, hW, hsame⟩ := X12.leave (v := some (.int (-1 : Int32))) (fun h => by rw [Bd.returns] at h; cases h)
    refine ⟨_, _, pre15 _ ?_, hrun, hended, _, _, rfl, ?_, ⟨_, rfl⟩, hW, hsame.mono (by decide) (by decide)⟩
    ·
      show oS p e below T12 (mkF m 8 #[oR t1, oI p2, oI 0, oI 0] [oi (-1)]) _
      exact retI X12 hx Bd.returns (hb hby d18_8) hr
    ·
      show Q_rm_io0 Z t1 k1 p2 r h0 n0 _ T12.heap _
      rw [e12]
      exact ⟨by rw [hr', own_can0 hc14], N12, rfl⟩
  ·
    have pre16 : oL p e below T12 (mkF m 11 #[oR t1, oI p2, oI 0, oI 0] [oi 0, oi 0]) s₁ (entryFrame m #[(.ref t1), (.int p2), (.int (0 : Int32)), (.int (0 : Int32))] 4) := fun t k => pre13 t (by
      refine XS.ifYes X12.here hx rfl (pc0 := 4) (pc' := 9) rfl (hb hby d18_4) rfl ((if0 _ _).trans (feq hc14).2) (by decide) (by decide) ?_
      refine XS.iloadN X12.here hx rfl (hb hby d18_9) rfl ?_
      show oS p e below T12 (mkF m 10 #[oR t1, oI p2, oI 0, oI 0] [oi 0]) _
      refine XS.iconst X12.here hx rfl (hb hby d18_10) ?_
      exact k)
    obtain ⟨_, _, ⟨T17, L17, k17, n17⟩, -, X17, ⟨Lc17, hQ17, l17, y17, z17⟩, st17⟩ := Jvm.LawKit.callS X12 hx (y := (⟨"java/lang/Math", "max", "(II)I"⟩ : MethodName)) hown (mvT hZ (oW hw 102 rfl)) (mvT hZ (oW hw 103 rfl)) (mvT hZ (oW hw 104 rfl)) (mvT hZ (oW hw 105 rfl)) (by decide) (backOf (W := 0) (rm_max l Z a0 hw []  h0 n0 OL ) hZ (oW hw 105 rfl) (oW hw 104 rfl) (by decide) (by decide)) (g := (mkF m 11 #[oR t1, oI p2, oI 0, oI 0] [oi 0, oi 0])) rfl (by rw [hml]; rfl) (argsL := [(.int (0 : Int32)), (.int (0 : Int32))]) (rest := []) (lenOf pd__II_I rfl) rfl (by show 2 * 0 + _ ≤ _; exact Nat.le_of_eq rfl) (hb hby d18_11) (fun _ _ => ⟨rfl, e12, (by decide : 0 + 0 ≤ _), (by decide : 0 + 0 ≤ _)⟩)
    dsimp only [Pt.U, Pt.locs, Pt.cells, Pt.slots] at X17 l17 y17 z17 st17 hQ17
    subst l17 y17 z17
    obtain ⟨rfl, N17q, e17⟩ := hQ17
    have N17 := Fr.app N12 N17q
    have pre19 : oL p e below T17 (mkF m 17 #[oR t1, oI p2, oI 0, oI 0] [ow t1, oi 0]) s₁ (entryFrame m #[(.ref t1), (.int p2), (.int (0 : Int32)), (.int (0 : Int32))] 4) := fun t k => pre16 t (by
      refine st17 _ ?_
      refine XS.istoreN X17.here hx rfl (hb hby d18_14) rfl (l' := #[oR t1, oI p2, oI 0, oI 0]) rfl ?_
      refine XS.iloadN X17.here hx rfl (hb hby d18_15) rfl ?_
      show oS p e below T17 (mkF m 16 #[oR t1, oI p2, oI 0, oI 0] [oi 0]) _
      refine XS.aloadN X17.here hx rfl (hb hby d18_16) rfl rfl ?_
      exact k)
    obtain ⟨cl18, Ar18, -, Sz18, Nn18, -, -⟩ := id V1
    have pre20 : oL p e below T17 (mkF m 18 #[oR t1, oI p2, oI 0, oI 0] [oi 0, oi 0]) s₁ (entryFrame m #[(.ref t1), (.int p2), (.int (0 : Int32)), (.int (0 : Int32))] 4) := fun t k => pre19 t (by
      refine X17.arraylength hx (by rw [e17]; exact Ar18.1) (State.isArrayOf_alike hZ.alike Ar18.2.1) (g := (mkF m 17 #[oR t1, oI p2, oI 0, oI 0] [ow t1, oi 0])) rfl rfl (hb hby d18_17) _ ?_
      rw [len_of Sz18 Nn18]
      exact k)
    obtain ⟨_, _, ⟨T21, L21, k21, n21⟩, -, X21, ⟨Lc21, hQ21, l21, y21, z21⟩, st21⟩ := Jvm.LawKit.callS X17 hx (y := (⟨"java/lang/Math", "min", "(II)I"⟩ : MethodName)) hown (mvT hZ (oW hw 106 rfl)) (mvT hZ (oW hw 107 rfl)) (mvT hZ (oW hw 104 rfl)) (mvT hZ (oW hw 108 rfl)) (by decide) (backOf (W := 0) (rm_min0 l Z a0 hw []  h0 n0 OL ) hZ (oW hw 108 rfl) (oW hw 104 rfl) (by decide) (by decide)) (g := (mkF m 18 #[oR t1, oI p2, oI 0, oI 0] [oi 0, oi 0])) rfl (by rw [hml]; rfl) (argsL := [(.int (0 : Int32)), (.int (0 : Int32))]) (rest := []) (lenOf pd__II_I rfl) rfl (by show 2 * 0 + _ ≤ _; exact Nat.le_of_eq rfl) (hb hby d18_18) (fun _ _ => ⟨rfl, e17, (by decide : 0 + 0 ≤ _), (by decide : 0 + 0 ≤ _)⟩)
    dsimp only [Pt.U, Pt.locs, Pt.cells, Pt.slots] at X21 l21 y21 z21 st21 hQ21
    subst l21 y21 z21
    obtain ⟨rfl, N21q, e21⟩ := hQ21
    have N21 := Fr.app N17 N21q
    have pre22 : oL p e below T21 (mkF m 28 #[oR t1, oI p2, oI 0, oI 0] [oi (-1)]) s₁ (entryFrame m #[(.ref t1), (.int p2), (.int (0 : Int32)), (.int (0 : Int32))] 4) := fun t k => pre20 t (by
      refine st21 _ ?_
      refine XS.istoreN X21.here hx rfl (hb hby d18_21) rfl (l' := #[oR t1, oI p2, oI 0, oI 0]) rfl ?_
      show oS p e below T21 (mkF m 22 #[oR t1, oI p2, oI 0, oI 0] []) _
      refine XS.iloadN X21.here hx rfl (hb hby d18_22) rfl ?_
      refine XS.iloadN X21.here hx rfl (hb hby d18_23) rfl ?_
      refine XS.icmpNo X21.here hx rfl (hb hby d18_24) rfl (flt (by decide : ¬ ((0 : Int32) < (0 : Int32)))).1 ?_
      refine XS.iconst X21.here hx rfl (hb hby d18_27) ?_
      show oS p e below T21 (mkF m 28 #[oR t1, oI p2, oI 0, oI 0] [oi (-1)]) _
      exact k)
    obtain ⟨fs, hr, hrun, hended, hW, hsame⟩ := X21.leave (v := some (.int (-1 : Int32))) (fun h => by rw [Bd.returns] at h; cases h)
    refine ⟨_, _, pre22 _ ?_, hrun, hended, _, _, rfl, ?_, ⟨_, rfl⟩, hW, hsame.mono (by decide) (by decide)⟩
    ·
      show oS p e below T21 (mkF m 28 #[oR t1, oI p2, oI 0, oI 0] [oi (-1)]) _
      exact retI X21 hx Bd.returns (hb hby d18_28) hr
    ·
      show Q_rm_io0 Z t1 k1 p2 r h0 n0 _ T21.heap _
      rw [e21]
      exact ⟨by rw [hr', own_can1 hc14], N21, rfl⟩
theorem d16_0 : decode jdk_42_method_54_code 0 = .ok (.aload_n 0, 1) := by decide +kernel
theorem d16_1 : decode jdk_42_method_54_code 1 = .ok (.getfield 9, 3) := by decide +kernel
theorem d16_4 : decode jdk_42_method_54_code 4 = .ok (.arraylength, 1) := by decide +kernel
theorem d16_5 : decode jdk_42_method_54_code 5 = .ok (.aload_n 0, 1) := by decide +kernel
theorem d16_6 : decode jdk_42_method_54_code 6 = .ok (.invokevirtual 335, 3) := by decide +kernel
theorem pd___B : parseMethodDescriptor "()B" = some ⟨[], some .byte⟩ := by decide +kernel
theorem d16_9 : decode jdk_42_method_54_code 9 = .ok (.ishr, 1) := by decide +kernel
theorem d16_10 : decode jdk_42_method_54_code 10 = .ok (.ireturn, 1) := by decide +kernel
def Q_rm_len0 (Z : State) (a1 : Addr) (t1 : Addr) (k1 : ClassId) (G1 : Int32) (h0 : Heap) (n0 : Nat) (v : Option Value) (h : Heap) (L : List Loc) : Prop := v = some (.int (0 : Int32)) ∧ Fr n0 L ∧ h = h0
set_option maxRecDepth 65536 in
set_option maxHeartbeats 40000000 in
theorem rm_len0 (l : Launch) (Z : State) (a0 : Array Value) (hw : ∀ d ∈ tables_1, d.before a0 Z = true) (ws : List Jvm.Cond) (a1 : Addr) (t1 : Addr) (k1 : ClassId) (G1 : Int32) (h0 : Heap) (n0 : Nat) (OL : Old Z n0 h0) (O2 : Sta Z Z.heap "java/lang/String" "COMPACT_STRINGS" "Z" (.int G1)) (P5 : ¬ (G1 = (0 : Int32))) (E1 : Exa Z h0 a1 "java/lang/String") (F1 : Fld Z h0 a1 "java/lang/String" "value" "[B" (.ref t1)) (F2 : Fld Z h0 a1 "java/lang/String" "coder" "B" (.int (0 : Int32))) (V1 : Arv Z h0 t1 k1 .byte (0 : Int32) [] (.int (0 : Int32))) :
    MetFree l (⟨"java/lang/String", "length", "()I"⟩ : MethodName) (head1 (Jvm.Cond.code (⟨"java/lang/String", "length", "()I"⟩ : MethodName) jdk_42_method_54_code 1 (some .int) :: ws) ({ frames := 1, cells := 0, slots := 0, locals := 13 } : Room)) (fun a U => a = #[(.ref a1)] ∧ Z.Warmed39 U.vm ∧ U.heap = h0) (fun _ _ _ _ _ => True) (fun _ U o U' => ∃ v L, o = .returned v ∧ Q_rm_len0 Z a1 t1 k1 G1 h0 n0 v U'.heap L ∧ FrameEnd U o U' L ({ frames := 1, cells := 0, slots := 0, locals := 13 } : Room).cells ({ frames := 1, cells := 0, slots := 0, locals := 13 } : Room).slots) := by
  refine MetFree.of_bodySF (plainFor_of_name pn_java_lang_String) hisR ?_
  intro p e s m args below meth c s₁ Bd hml0 hP hK
  obtain ⟨rfl, hZ, hh⟩ := hP
  have hx := Bd.exec
  have hby := Bd.bytes
  have hml : c.maxLocals = 1 := hml0
  have hown : s.vm.findClass "java/lang/String" = some m.cls := findClass_of_methodNamed Bd.named
  have hnm := (name_of_methodNamed Bd.named Bd.method).1
  have X0 : Stand p l e ({ frames := 1, cells := 0, slots := 0, locals := 13 } : Room) s m #[(.ref a1)] below meth c s₁ [] 0 0 := Stand.of_body Bd
  have e0 : s₁.heap = h0 := by rw [← hh, Bd.state]; rfl
  have N0 := Fr.nil n0
  have pre0 : oL p e below s₁ (mkF m 0 #[oR a1] []) s₁ (entryFrame m #[(.ref a1)] 1) := fun t k => castTop (by first | (simp [entryFrame, mkF, argsToLocals, Value.category]; done) | rfl) k
  have pre11 : oL p e below s₁ (mkF m 1 #[oR a1] [ow a1]) s₁ (entryFrame m #[(.ref a1)] 1) := fun t k => pre0 t (by
    refine XS.aloadN X0.here hx rfl (hb hby d16_0) rfl rfl ?_
    exact k)
  obtain ⟨T12, X12, e12, st12⟩ := getF X0 hx hZ hown (host := "") (Or.inl (oW hw 28 rfl)) Via.refl e0 F1 (g := (mkF m 1 #[oR a1] [ow a1])) rfl rfl (hb hby d16_1)
  have pre14 : oL p e below T12 (mkF m 4 #[oR a1] [ow t1]) s₁ (entryFrame m #[(.ref a1)] 1) := fun t k => pre11 t (by
    refine st12 _ ?_
    exact k)
  obtain ⟨cl13, Ar13, -, Sz13, Nn13, -, -⟩ := id V1
  have pre15 : oL p e below T12 (mkF m 6 #[oR a1] [ow a1, oi 0]) s₁ (entryFrame m #[(.ref a1)] 1) := fun t k => pre14 t (by
    refine X12.arraylength hx (by rw [e12]; exact Ar13.1) (State.isArrayOf_alike hZ.alike Ar13.2.1) (g := (mkF m 4 #[oR a1] [ow t1])) rfl rfl (hb hby d16_4) _ ?_
    rw [len_of Sz13 Nn13]
    refine XS.aloadN X12.here hx rfl (hb hby d16_5) rfl rfl ?_
    show oS p e below T12 (mkF m 6 #[oR a1] [ow a1, oi 0]) _
    exact k)
  obtain ⟨cq16, kq16, q16a, q16b, q16c⟩ := isOf hZ e12 E1
  obtain ⟨_, _, ⟨T16, L16, k16, n16⟩, -, X16, ⟨Lc16, hQ16, l16, y16, z16⟩, st16⟩ := X12.virtualBack hx (y := (⟨"java/lang/String", "coder", "()B"⟩ : MethodName)) (z := (⟨"java/lang/String", "coder", "()B"⟩ : MethodName)) hown (mvT hZ (oW hw 90 rfl)) (mvT hZ (oW hw 91 rfl)) (notFace_of_selects (args := #[]) (mvT hZ (oW hw 93 rfl))) (mvT hZ (oW hw 93 rfl)) (mvT hZ (oW hw 92 rfl)) (by decide) (backOf (W := 1) (rm_coder l Z a0 hw [] a1 t1 G1 h0 n0 OL O2 P5 E1 F1 F2) hZ (oW hw 94 rfl) (oW hw 2 rfl) (by decide) (by decide)) q16a q16c (g := (mkF m 6 #[oR a1] [ow a1, oi 0])) rfl (by rw [hml]; rfl) (Steps.refl _) (argsL := []) (rest := [(.int (0 : Int32))]) (lenOf pd___B rfl) rfl (by show 2 * 0 + _ ≤ _; exact Nat.le_of_eq rfl) (hb hby d16_6) (fun _ _ => ⟨rfl, e12, (by decide : 0 + 0 ≤ _), (by decide : 0 + 0 ≤ _)⟩)
  dsimp only [Pt.U, Pt.locs, Pt.cells, Pt.slots] at X16 l16 y16 z16 st16 hQ16
  subst l16 y16 z16
  obtain ⟨rfl, N16q, e16⟩ := hQ16
  have N16 := Fr.app N0 N16q
  have pre17 : oL p e below T16 (mkF m 10 #[oR a1] [oi 0]) s₁ (entryFrame m #[(.ref a1)] 1) := fun t k => pre15 t (by
    refine st16.trans ?_
    refine XS.ishr X16.here hx rfl (hb hby d16_9) rfl ?_
    exact k)
  obtain ⟨fs, hr, hrun, hended, hW, hsame⟩ := X16.leave (v := some (.int (0 : Int32))) (fun h => by rw [Bd.returns] at h; cases h)
  refine ⟨_, _, pre17 _ ?_, hrun, hended, _, _, rfl, ?_, ⟨_, rfl⟩, hW, hsame.mono (by decide) (by decide)⟩
  ·
    show oS p e below T16 (mkF m 10 #[oR a1] [oi 0]) _
    exact retI X16 hx Bd.returns (hb hby d16_10) hr
  ·
    show Q_rm_len0 Z a1 t1 k1 G1 h0 n0 _ T16.heap _
    rw [e16]
    exact ⟨rfl, N16, rfl⟩
theorem d14_0 : decode jdk_42_method_80_code 0 = .ok (.aload_n 0, 1) := by decide +kernel
theorem d14_1 : decode jdk_42_method_80_code 1 = .ok (.invokevirtual 492, 3) := by decide +kernel
theorem pd___Z : parseMethodDescriptor "()Z" = some ⟨[], some .boolean⟩ := by decide +kernel
theorem d14_4 : decode jdk_42_method_80_code 4 = .ok (.ifCond .eq 19, 3) := by decide +kernel
theorem d14_7 : decode jdk_42_method_80_code 7 = .ok (.aload_n 0, 1) := by decide +kernel
theorem d14_8 : decode jdk_42_method_80_code 8 = .ok (.getfield 9, 3) := by decide +kernel
theorem d14_11 : decode jdk_42_method_80_code 11 = .ok (.iload_n 1, 1) := by decide +kernel
theorem d14_12 : decode jdk_42_method_80_code 12 = .ok (.iload_n 2, 1) := by decide +kernel
theorem d14_13 : decode jdk_42_method_80_code 13 = .ok (.aload_n 0, 1) := by decide +kernel
theorem d14_14 : decode jdk_42_method_80_code 14 = .ok (.invokevirtual 505, 3) := by decide +kernel
theorem pd___I : parseMethodDescriptor "()I" = some ⟨[], some .int⟩ := by decide +kernel
theorem d14_17 : decode jdk_42_method_80_code 17 = .ok (.invokestatic 637, 3) := by decide +kernel
theorem pd___BIII_I : parseMethodDescriptor "([BIII)I" = some ⟨[(.array .byte), .int, .int, .int], some .int⟩ := by decide +kernel
theorem d14_20 : decode jdk_42_method_80_code 20 = .ok (.goto 16, 3) := by decide +kernel
theorem d14_36 : decode jdk_42_method_80_code 36 = .ok (.ireturn, 1) := by decide +kernel
def Q_rm_s2_0 (Z : State) (a1 : Addr) (t1 : Addr) (k1 : ClassId) (G1 : Int32) (p2 : Int32) (r : Int32) (h0 : Heap) (n0 : Nat) (v : Option Value) (h : Heap) (L : List Loc) : Prop := v = some (.int r) ∧ Fr n0 L ∧ h = h0
set_option maxRecDepth 65536 in
set_option maxHeartbeats 40000000 in
theorem rm_s2_0 (l : Launch) (Z : State) (a0 : Array Value) (hw : ∀ d ∈ tables_1, d.before a0 Z = true) (ws : List Jvm.Cond) (a1 : Addr) (t1 : Addr) (k1 : ClassId) (G1 : Int32) (p2 : Int32) (r : Int32) (h0 : Heap) (n0 : Nat) (OL : Old Z n0 h0) (O2 : Sta Z Z.heap "java/lang/String" "COMPACT_STRINGS" "Z" (.int G1)) (P5 : ¬ (G1 = (0 : Int32))) (E1 : Exa Z h0 a1 "java/lang/String") (F1 : Fld Z h0 a1 "java/lang/String" "value" "[B" (.ref t1)) (F2 : Fld Z h0 a1 "java/lang/String" "coder" "B" (.int (0 : Int32))) (V1 : Arv Z h0 t1 k1 .byte (0 : Int32) [] (.int (0 : Int32))) (hr' : r = if p2 < 0 then -1 else if (255 : Int32) < p2 then -1 else (-1 : Int32)) :
    MetFree l (⟨"java/lang/String", "indexOf", "(II)I"⟩ : MethodName) (head1 (Jvm.Cond.code (⟨"java/lang/String", "indexOf", "(II)I"⟩ : MethodName) jdk_42_method_80_code 3 (some .int) :: ws) ({ frames := 2, cells := 0, slots := 0, locals := 28 } : Room)) (fun a U => a = #[(.ref a1), (.int p2), (.int (0 : Int32))] ∧ Z.Warmed39 U.vm ∧ U.heap = h0) (fun _ _ _ _ _ => True) (fun _ U o U' => ∃ v L, o = .returned v ∧ Q_rm_s2_0 Z a1 t1 k1 G1 p2 r h0 n0 v U'.heap L ∧ FrameEnd U o U' L ({ frames := 2, cells := 0, slots := 0, locals := 28 } : Room).cells ({ frames := 2, cells := 0, slots := 0, locals := 28 } : Room).slots) := by
  refine MetFree.of_bodySF (plainFor_of_name pn_java_lang_String) hisR ?_
  intro p e s m args below meth c s₁ Bd hml0 hP hK
  obtain ⟨rfl, hZ, hh⟩ := hP
  have hx := Bd.exec
  have hby := Bd.bytes
  have hml : c.maxLocals = 3 := hml0
  have hown : s.vm.findClass "java/lang/String" = some m.cls := findClass_of_methodNamed Bd.named
  have hnm := (name_of_methodNamed Bd.named Bd.method).1
  have X0 : Stand p l e ({ frames := 2, cells := 0, slots := 0, locals := 28 } : Room) s m #[(.ref a1), (.int p2), (.int (0 : Int32))] below meth c s₁ [] 0 0 := Stand.of_body Bd
  have e0 : s₁.heap = h0 := by rw [← hh, Bd.state]; rfl
  have N0 := Fr.nil n0
  have pre0 : oL p e below s₁ (mkF m 0 #[oR a1, oI p2, oI 0] []) s₁ (entryFrame m #[(.ref a1), (.int p2), (.int (0 : Int32))] 3) := fun t k => castTop (by first | (simp [entryFrame, mkF, argsToLocals, Value.category]; done) | rfl) k
  have pre11 : oL p e below s₁ (mkF m 1 #[oR a1, oI p2, oI 0] [ow a1]) s₁ (entryFrame m #[(.ref a1), (.int p2), (.int (0 : Int32))] 3) := fun t k => pre0 t (by
    refine XS.aloadN X0.here hx rfl (hb hby d14_0) rfl rfl ?_
    exact k)
  obtain ⟨cq12, kq12, q12a, q12b, q12c⟩ := isOf hZ e0 E1
  obtain ⟨_, _, ⟨T12, L12, k12, n12⟩, -, X12, ⟨Lc12, hQ12, l12, y12, z12⟩, st12⟩ := X0.virtualBack hx (y := (⟨"java/lang/String", "isLatin1", "()Z"⟩ : MethodName)) (z := (⟨"java/lang/String", "isLatin1", "()Z"⟩ : MethodName)) hown (mvT hZ (oW hw 80 rfl)) (mvT hZ (oW hw 81 rfl)) (notFace_of_selects (args := #[]) (mvT hZ (oW hw 83 rfl))) (mvT hZ (oW hw 83 rfl)) (mvT hZ (oW hw 82 rfl)) (by decide) (backOf (W := 0) (rm_isLatin1 l Z a0 hw [] a1 t1 G1 h0 n0 OL O2 P5 E1 F1 F2) hZ (oW hw 84 rfl) (oW hw 2 rfl) (by decide) (by decide)) q12a q12c (g := (mkF m 1 #[oR a1, oI p2, oI 0] [ow a1])) rfl (by rw [hml]; rfl) (Steps.refl _) (argsL := []) (rest := []) (lenOf pd___Z rfl) rfl (by show 2 * 0 + _ ≤ _; exact Nat.le_of_eq rfl) (hb hby d14_1) (fun _ _ => ⟨rfl, e0, (by decide : 0 + 0 ≤ _), (by decide : 0 + 0 ≤ _)⟩)
  dsimp only [Pt.U, Pt.locs, Pt.cells, Pt.slots] at X12 l12 y12 z12 st12 hQ12
  subst l12 y12 z12
  obtain ⟨rfl, N12q, e12⟩ := hQ12
  have N12 := Fr.app N0 N12q
  have pre13 : oL p e below T12 (mkF m 8 #[oR a1, oI p2, oI 0] [ow a1]) s₁ (entryFrame m #[(.ref a1), (.int p2), (.int (0 : Int32))] 3) := fun t k => pre11 t (by
    refine st12.trans ?_
    refine XS.ifNo X12.here hx rfl (hb hby d14_4) rfl ((if0 _ _).trans (feq (by decide : ¬ ((1 : Int32) = (0 : Int32)))).1) ?_
    refine XS.aloadN X12.here hx rfl (hb hby d14_7) rfl rfl ?_
    show oS p e below T12 (mkF m 8 #[oR a1, oI p2, oI 0] [ow a1]) _
    exact k)
  obtain ⟨T14, X14, e14, st14⟩ := getF X12 hx hZ hown (host := "") (Or.inl (oW hw 28 rfl)) Via.refl e12 F1 (g := (mkF m 8 #[oR a1, oI p2, oI 0] [ow a1])) rfl rfl (hb hby d14_8)
  have pre15 : oL p e below T14 (mkF m 14 #[oR a1, oI p2, oI 0] [ow a1, oi 0, oi p2, ow t1]) s₁ (entryFrame m #[(.ref a1), (.int p2), (.int (0 : Int32))] 3) := fun t k => pre13 t (by
    refine st14 _ ?_
    refine XS.iloadN X14.here hx rfl (hb hby d14_11) rfl ?_
    refine XS.iloadN X14.here hx rfl (hb hby d14_12) rfl ?_
    refine XS.aloadN X14.here hx rfl (hb hby d14_13) rfl rfl ?_
    show oS p e below T14 (mkF m 14 #[oR a1, oI p2, oI 0] [ow a1, oi 0, oi p2, ow t1]) _
    exact k)
  obtain ⟨cq16, kq16, q16a, q16b, q16c⟩ := isOf hZ e14 E1
  obtain ⟨_, _, ⟨T16, L16, k16, n16⟩, -, X16, ⟨Lc16, hQ16, l16, y16, z16⟩, st16⟩ := X14.virtualBack hx (y := (⟨"java/lang/String", "length", "()I"⟩ : MethodName)) (z := (⟨"java/lang/String", "length", "()I"⟩ : MethodName)) hown (mvT hZ (oW hw 85 rfl)) (mvT hZ (oW hw 86 rfl)) (notFace_of_selects (args := #[]) (mvT hZ (oW hw 88 rfl))) (mvT hZ (oW hw 88 rfl)) (mvT hZ (oW hw 87 rfl)) (by decide) (backOf (W := 3) (rm_len0 l Z a0 hw [] a1 t1 k1 G1  h0 n0 OL O2 P5 E1 F1 F2 V1) hZ (oW hw 89 rfl) (oW hw 2 rfl) (by decide) (by decide)) q16a q16c (g := (mkF m 14 #[oR a1, oI p2, oI 0] [ow a1, oi 0, oi p2, ow t1])) rfl (by rw [hml]; rfl) (Steps.refl _) (argsL := []) (rest := [(.int (0 : Int32)), (.int p2), (.ref t1)]) (lenOf pd___I rfl) rfl (by show 2 * 0 + _ ≤ _; exact Nat.le_of_eq rfl) (hb hby d14_14) (fun _ _ => ⟨rfl, e14, (by decide : 0 + 0 ≤ _), (by decide : 0 + 0 ≤ _)⟩)
  dsimp only [Pt.U, Pt.locs, Pt.cells, Pt.slots] at X16 l16 y16 z16 st16 hQ16
  subst l16 y16 z16
  obtain ⟨rfl, N16q, e16⟩ := hQ16
  have N16 := Fr.app N12 N16q
  have pre17 : oL p e below T16 (mkF m 17 #[oR a1, oI p2, oI 0] [oi 0, oi 0, oi p2, ow t1]) s₁ (entryFrame m #[(.ref a1), (.int p2), (.int (0 : Int32))] 3) := fun t k => pre15 t (by
    refine st16.trans ?_
    exact k)
  obtain ⟨_, _, ⟨T18, L18, k18, n18⟩, -, X18, ⟨Lc18, hQ18, l18, y18, z18⟩, st18⟩ := Jvm.LawKit.callS X16 hx (y := (⟨"java/lang/StringLatin1", "indexOf", "([BIII)I"⟩ : MethodName)) hown (mvT hZ (oW hw 95 rfl)) (mvT hZ (oW hw 96 rfl)) (mvT hZ (oW hw 97 rfl)) (mvT hZ (oW hw 98 rfl)) (by decide) (backOf (W := 0) (rm_io0 l Z a0 hw [] t1 k1 p2  r h0 n0 OL V1 hr') hZ (oW hw 98 rfl) (oW hw 97 rfl) (by decide) (by decide)) (g := (mkF m 17 #[oR a1, oI p2, oI 0] [oi 0, oi 0, oi p2, ow t1])) rfl (by rw [hml]; rfl) (argsL := [(.ref t1), (.int p2), (.int (0 : Int32)), (.int (0 : Int32))]) (rest := []) (lenOf pd___BIII_I rfl) rfl (by show 2 * 0 + _ ≤ _; exact Nat.le_of_eq rfl) (hb hby d14_17) (fun _ _ => ⟨rfl, e16, (by decide : 0 + 0 ≤ _), (by decide : 0 + 0 ≤ _)⟩)
  dsimp only [Pt.U, Pt.locs, Pt.cells, Pt.slots] at X18 l18 y18 z18 st18 hQ18
  subst l18 y18 z18
  obtain ⟨rfl, N18q, e18⟩ := hQ18
  have N18 := Fr.app N16 N18q
  have pre19 : oL p e below T18 (mkF m 36 #[oR a1, oI p2, oI 0] [oi r]) s₁ (entryFrame m #[(.ref a1), (.int p2), (.int (0 : Int32))] 3) := fun t k => pre17 t (by
    refine st18 _ ?_
    refine XS.goto X18.here hx rfl (pc0 := 20) (pc' := 36) rfl (hb hby d14_20) (by decide) (by decide) ?_
    exact k)
  obtain ⟨fs, hr, hrun, hended, hW, hsame⟩ := X18.leave (v := some (.int r)) (fun h => by rw [Bd.returns] at h; cases h)
  refine ⟨_, _, pre19 _ ?_, hrun, hended, _, _, rfl, ?_, ⟨_, rfl⟩, hW, hsame.mono (by decide) (by decide)⟩
  ·
    show oS p e below T18 (mkF m 36 #[oR a1, oI p2, oI 0] [oi r]) _
    exact retI X18 hx Bd.returns (hb hby d14_36) hr
  ·
    show Q_rm_s2_0 Z a1 t1 k1 G1 p2 r h0 n0 _ T18.heap _
    rw [e18]
    exact ⟨rfl, N18, rfl⟩
theorem d13_0 : decode jdk_42_method_79_code 0 = .ok (.aload_n 0, 1) := by decide +kernel
theorem d13_1 : decode jdk_42_method_79_code 1 = .ok (.iload_n 1, 1) := by decide +kernel
theorem d13_2 : decode jdk_42_method_79_code 2 = .ok (.iconst 0, 1) := by decide +kernel
theorem d13_3 : decode jdk_42_method_79_code 3 = .ok (.invokevirtual 633, 3) := by decide +kernel
theorem d13_6 : decode jdk_42_method_79_code 6 = .ok (.ireturn, 1) := by decide +kernel
def Q_rm_s1_0 (Z : State) (a1 : Addr) (t1 : Addr) (k1 : ClassId) (G1 : Int32) (p2 : Int32) (r : Int32) (h0 : Heap) (n0 : Nat) (v : Option Value) (h : Heap) (L : List Loc) : Prop := v = some (.int r) ∧ Fr n0 L ∧ h = h0
set_option maxRecDepth 65536 in
set_option maxHeartbeats 40000000 in
theorem rm_s1_0 (l : Launch) (Z : State) (a0 : Array Value) (hw : ∀ d ∈ tables_1, d.before a0 Z = true) (ws : List Jvm.Cond) (a1 : Addr) (t1 : Addr) (k1 : ClassId) (G1 : Int32) (p2 : Int32) (r : Int32) (h0 : Heap) (n0 : Nat) (OL : Old Z n0 h0) (O2 : Sta Z Z.heap "java/lang/String" "COMPACT_STRINGS" "Z" (.int G1)) (P5 : ¬ (G1 = (0 : Int32))) (E1 : Exa Z h0 a1 "java/lang/String") (F1 : Fld Z h0 a1 "java/lang/String" "value" "[B" (.ref t1)) (F2 : Fld Z h0 a1 "java/lang/String" "coder" "B" (.int (0 : Int32))) (V1 : Arv Z h0 t1 k1 .byte (0 : Int32) [] (.int (0 : Int32))) (hr' : r = if p2 < 0 then -1 else if (255 : Int32) < p2 then -1 else (-1 : Int32)) :
    MetFree l (⟨"java/lang/String", "indexOf", "(I)I"⟩ : MethodName) (head1 (Jvm.Cond.code (⟨"java/lang/String", "indexOf", "(I)I"⟩ : MethodName) jdk_42_method_79_code 2 (some .int) :: ws) ({ frames := 3, cells := 0, slots := 0, locals := 42 } : Room)) (fun a U => a = #[(.ref a1), (.int p2)] ∧ Z.Warmed39 U.vm ∧ U.heap = h0) (fun _ _ _ _ _ => True) (fun _ U o U' => ∃ v L, o = .returned v ∧ Q_rm_s1_0 Z a1 t1 k1 G1 p2 r h0 n0 v U'.heap L ∧ FrameEnd U o U' L ({ frames := 3, cells := 0, slots := 0, locals := 42 } : Room).cells ({ frames := 3, cells := 0, slots := 0, locals := 42 } : Room).slots) := by
  refine MetFree.of_bodySF (plainFor_of_name pn_java_lang_String) hisR ?_
  intro p e s m args below meth c s₁ Bd hml0 hP hK
  obtain ⟨rfl, hZ, hh⟩ := hP
  have hx := Bd.exec
  have hby := Bd.bytes
  have hml : c.maxLocals = 2 := hml0
  have hown : s.vm.findClass "java/lang/String" = some m.cls := findClass_of_methodNamed Bd.named
  have hnm := (name_of_methodNamed Bd.named Bd.method).1
  have X0 : Stand p l e ({ frames := 3, cells := 0, slots := 0, locals := 42 } : Room) s m #[(.ref a1), (.int p2)] below meth c s₁ [] 0 0 := Stand.of_body Bd
  have e0 : s₁.heap = h0 := by rw [← hh, Bd.state]; rfl
  have N0 := Fr.nil n0
  have pre0 : oL p e below s₁ (mkF m 0 #[oR a1, oI p2] []) s₁ (entryFrame m #[(.ref a1), (.int p2)] 2) := fun t k => castTop (by first | (simp [entryFrame, mkF, argsToLocals, Value.category]; done) | rfl) k
  have pre11 : oL p e below s₁ (mkF m 3 #[oR a1, oI p2] [oi 0, oi p2, ow a1]) s₁ (entryFrame m #[(.ref a1), (.int p2)] 2) := fun t k => pre0 t (by
    refine XS.aloadN X0.here hx rfl (hb hby d13_0) rfl rfl ?_
    refine XS.iloadN X0.here hx rfl (hb hby d13_1) rfl ?_
    refine XS.iconst X0.here hx rfl (hb hby d13_2) ?_
    exact k)
  obtain ⟨cq12, kq12, q12a, q12b, q12c⟩ := isOf hZ e0 E1
  obtain ⟨_, _, ⟨T12, L12, k12, n12⟩, -, X12, ⟨Lc12, hQ12, l12, y12, z12⟩, st12⟩ := X0.virtualBack hx (y := (⟨"java/lang/String", "indexOf", "(II)I"⟩ : MethodName)) (z := (⟨"java/lang/String", "indexOf", "(II)I"⟩ : MethodName)) hown (mvT hZ (oW hw 75 rfl)) (mvT hZ (oW hw 76 rfl)) (notFace_of_selects (args := #[]) (mvT hZ (oW hw 78 rfl))) (mvT hZ (oW hw 78 rfl)) (mvT hZ (oW hw 77 rfl)) (by decide) (backOf (W := 0) (rm_s2_0 l Z a0 hw [] a1 t1 k1 G1 p2  r h0 n0 OL O2 P5 E1 F1 F2 V1 hr') hZ (oW hw 79 rfl) (oW hw 2 rfl) (by decide) (by decide)) q12a q12c (g := (mkF m 3 #[oR a1, oI p2] [oi 0, oi p2, ow a1])) rfl (by rw [hml]; rfl) (Steps.refl _) (argsL := [(.int p2), (.int (0 : Int32))]) (rest := []) (lenOf pd__II_I rfl) rfl (by show 2 * 0 + _ ≤ _; exact Nat.le_of_eq rfl) (hb hby d13_3) (fun _ _ => ⟨rfl, e0, (by decide : 0 + 0 ≤ _), (by decide : 0 + 0 ≤ _)⟩)
  dsimp only [Pt.U, Pt.locs, Pt.cells, Pt.slots] at X12 l12 y12 z12 st12 hQ12
  subst l12 y12 z12
  obtain ⟨rfl, N12q, e12⟩ := hQ12
  have N12 := Fr.app N0 N12q
  have pre13 : oL p e below T12 (mkF m 6 #[oR a1, oI p2] [oi r]) s₁ (entryFrame m #[(.ref a1), (.int p2)] 2) := fun t k => pre11 t (by
    refine st12.trans ?_
    show oS p e below T12 (mkF m 6 #[oR a1, oI p2] [oi r]) _
    exact k)
  obtain ⟨fs, hr, hrun, hended, hW, hsame⟩ := X12.leave (v := some (.int r)) (fun h => by rw [Bd.returns] at h; cases h)
  refine ⟨_, _, pre13 _ ?_, hrun, hended, _, _, rfl, ?_, ⟨_, rfl⟩, hW, hsame.mono (by decide) (by decide)⟩
  ·
    show oS p e below T12 (mkF m 6 #[oR a1, oI p2] [oi r]) _
    exact retI X12 hx Bd.returns (hb hby d13_6) hr
  ·
    show Q_rm_s1_0 Z a1 t1 k1 G1 p2 r h0 n0 _ T12.heap _
    rw [e12]
    exact ⟨rfl, N12, rfl⟩
theorem d12_0 : decode prog_8_method_3_code 0 = .ok (.aload_n 0, 1) := by decide +kernel
theorem d12_1 : decode prog_8_method_3_code 1 = .ok (.getfield 19, 3) := by decide +kernel
theorem d12_4 : decode prog_8_method_3_code 4 = .ok (.ifnull 14, 3) := by decide +kernel
theorem d12_7 : decode prog_8_method_3_code 7 = .ok (.aload_n 0, 1) := by decide +kernel
theorem d12_8 : decode prog_8_method_3_code 8 = .ok (.getfield 19, 3) := by decide +kernel
theorem d12_11 : decode prog_8_method_3_code 11 = .ok (.iload_n 1, 1) := by decide +kernel
theorem d12_12 : decode prog_8_method_3_code 12 = .ok (.invokevirtual 33, 3) := by decide +kernel
theorem pd__I_I : parseMethodDescriptor "(I)I" = some ⟨[.int], some .int⟩ := by decide +kernel
theorem d12_15 : decode prog_8_method_3_code 15 = .ok (.ifCond .lt 7, 3) := by decide +kernel
theorem d12_22 : decode prog_8_method_3_code 22 = .ok (.iconst 0, 1) := by decide +kernel
theorem d12_23 : decode prog_8_method_3_code 23 = .ok (.ireturn, 1) := by decide +kernel
theorem d12_18 : decode prog_8_method_3_code 18 = .ok (.iconst 1, 1) := by decide +kernel
theorem d12_19 : decode prog_8_method_3_code 19 = .ok (.goto 4, 3) := by decide +kernel
def Q_rm_al0 (Z : State) (o1 : Addr) (a1 : Addr) (t1 : Addr) (k1 : ClassId) (G1 : Int32) (p2 : Int32) (r : Int32) (r2 : Int32) (h0 : Heap) (n0 : Nat) (v : Option Value) (h : Heap) (L : List Loc) : Prop := v = some (.int r2) ∧ Fr n0 L ∧ h = h0
set_option maxRecDepth 65536 in
set_option maxHeartbeats 40000000 in
theorem rm_al0 (l : Launch) (Z : State) (a0 : Array Value) (hw : ∀ d ∈ tables_1, d.before a0 Z = true) (ws : List Jvm.Cond) (o1 : Addr) (a1 : Addr) (t1 : Addr) (k1 : ClassId) (G1 : Int32) (p2 : Int32) (r : Int32) (r2 : Int32) (h0 : Heap) (n0 : Nat) (OL : Old Z n0 h0) (O2 : Sta Z Z.heap "java/lang/String" "COMPACT_STRINGS" "Z" (.int G1)) (P5 : ¬ (G1 = (0 : Int32))) (E1 : Exa Z h0 a1 "java/lang/String") (F1 : Fld Z h0 a1 "java/lang/String" "value" "[B" (.ref t1)) (F2 : Fld Z h0 a1 "java/lang/String" "coder" "B" (.int (0 : Int32))) (V1 : Arv Z h0 t1 k1 .byte (0 : Int32) [] (.int (0 : Int32))) (hr' : r = if p2 < 0 then -1 else if (255 : Int32) < p2 then -1 else (-1 : Int32)) (FV : Fld Z h0 o1 "com/example/vedette/vedette/definition/PositionDefinition" "values" "Ljava/lang/String;" (.ref a1)) (hr2 : r2 = if r < 0 then 0 else 1) :
    MetFree l (⟨"com/example/vedette/vedette/definition/PositionDefinition", "allows", "(I)Z"⟩ : MethodName) (head1 (Jvm.Cond.code (⟨"com/example/vedette/vedette/definition/PositionDefinition", "allows", "(I)Z"⟩ : MethodName) prog_8_method_3_code 2 (some .boolean) :: ws) ({ frames := 4, cells := 0, slots := 0, locals := 55 } : Room)) (fun a U => a = #[(.ref o1), (.int p2)] ∧ Z.Warmed39 U.vm ∧ U.heap = h0) (fun _ _ _ _ _ => True) (fun _ U o U' => ∃ v L, o = .returned v ∧ Q_rm_al0 Z o1 a1 t1 k1 G1 p2 r r2 h0 n0 v U'.heap L ∧ FrameEnd U o U' L ({ frames := 4, cells := 0, slots := 0, locals := 55 } : Room).cells ({ frames := 4, cells := 0, slots := 0, locals := 55 } : Room).slots) := by
  refine MetFree.of_bodySF (plainFor_of_name pn_com_example_vedette_vedette_definition_PositionDefinition) hisR ?_
  intro p e s m args below meth c s₁ Bd hml0 hP hK
  obtain ⟨rfl, hZ, hh⟩ := hP
  have hx := Bd.exec
  have hby := Bd.bytes
  have hml : c.maxLocals = 2 := hml0
  have hown : s.vm.findClass "com/example/vedette/vedette/definition/PositionDefinition" = some m.cls := findClass_of_methodNamed Bd.named
  have hnm := (name_of_methodNamed Bd.named Bd.method).1
  have X0 : Stand p l e ({ frames := 4, cells := 0, slots := 0, locals := 55 } : Room) s m #[(.ref o1), (.int p2)] below meth c s₁ [] 0 0 := Stand.of_body Bd
  have e0 : s₁.heap = h0 := by rw [← hh, Bd.state]; rfl
  have N0 := Fr.nil n0
  have pre0 : oL p e below s₁ (mkF m 0 #[oR o1, oI p2] []) s₁ (entryFrame m #[(.ref o1), (.int p2)] 2) := fun t k => castTop (by first | (simp [entryFrame, mkF, argsToLocals, Value.category]; done) | rfl) k
  have pre11 : oL p e below s₁ (mkF m 1 #[oR o1, oI p2] [ow o1]) s₁ (entryFrame m #[(.ref o1), (.int p2)] 2) := fun t k => pre0 t (by
    refine XS.aloadN X0.here hx rfl (hb hby d12_0) rfl rfl ?_
    exact k)
  obtain ⟨T12, X12, e12, st12⟩ := getF X0 hx hZ hown (host := "") (Or.inl (oW hw 61 rfl)) Via.refl e0 FV (g := (mkF m 1 #[oR o1, oI p2] [ow o1])) rfl rfl (hb hby d12_1)
  have pre13 : oL p e below T12 (mkF m 8 #[oR o1, oI p2] [ow o1]) s₁ (entryFrame m #[(.ref o1), (.int p2)] 2) := fun t k => pre11 t (by
    refine st12 _ ?_
    refine XS.ifnullNo X12.here hx rfl (hb hby d12_4) rfl ?_
    refine XS.aloadN X12.here hx rfl (hb hby d12_7) rfl rfl ?_
    show oS p e below T12 (mkF m 8 #[oR o1, oI p2] [ow o1]) _
    exact k)
  obtain ⟨T14, X14, e14, st14⟩ := getF X12 hx hZ hown (host := "") (Or.inl (oW hw 61 rfl)) Via.refl e12 FV (g := (mkF m 8 #[oR o1, oI p2] [ow o1])) rfl rfl (hb hby d12_8)
  have pre15 : oL p e below T14 (mkF m 12 #[oR o1, oI p2] [oi p2, ow a1]) s₁ (entryFrame m #[(.ref o1), (.int p2)] 2) := fun t k => pre13 t (by
    refine st14 _ ?_
    refine XS.iloadN X14.here hx rfl (hb hby d12_11) rfl ?_
    exact k)
  obtain ⟨cq16, kq16, q16a, q16b, q16c⟩ := isOf hZ e14 E1
  obtain ⟨_, _, ⟨T16, L16, k16, n16⟩, -, X16, ⟨Lc16, hQ16, l16, y16, z16⟩, st16⟩ := X14.virtualBack hx (y := (⟨"java/lang/String", "indexOf", "(I)I"⟩ : MethodName)) (z := (⟨"java/lang/String", "indexOf", "(I)I"⟩ : MethodName)) hown (mvT hZ (oW hw 70 rfl)) (mvT hZ (oW hw 71 rfl)) (notFace_of_selects (args := #[]) (mvT hZ (oW hw 73 rfl))) (mvT hZ (oW hw 73 rfl)) (mvT hZ (oW hw 72 rfl)) (by decide) (backOf (W := 0) (rm_s1_0 l Z a0 hw [] a1 t1 k1 G1 p2  r h0 n0 OL O2 P5 E1 F1 F2 V1 hr') hZ (oW hw 74 rfl) (oW hw 2 rfl) (by decide) (by decide)) q16a q16c (g := (mkF m 12 #[oR o1, oI p2] [oi p2, ow a1])) rfl (by rw [hml]; rfl) (Steps.refl _) (argsL := [(.int p2)]) (rest := []) (lenOf pd__I_I rfl) rfl (by show 2 * 0 + _ ≤ _; exact Nat.le_of_eq rfl) (hb hby d12_12) (fun _ _ => ⟨rfl, e14, (by decide : 0 + 0 ≤ _), (by decide : 0 + 0 ≤ _)⟩)
  dsimp only [Pt.U, Pt.locs, Pt.cells, Pt.slots] at X16 l16 y16 z16 st16 hQ16
  subst l16 y16 z16
  obtain ⟨rfl, N16q, e16⟩ := hQ16
  have N16 := Fr.app N0 N16q
  have pre17 : oL p e below T16 (mkF m 15 #[oR o1, oI p2] [oi r]) s₁ (entryFrame m #[(.ref o1), (.int p2)] 2) := fun t k => pre15 t (by
    refine st16.trans ?_
    exact k)
  by_cases hc18 : r < (0 : Int32)
  ·
    have pre19 : oL p e below T16 (mkF m 23 #[oR o1, oI p2] [oi 0]) s₁ (entryFrame m #[(.ref o1), (.int p2)] 2) := fun t k => pre17 t (by
      refine XS.ifYes X16.here hx rfl (pc0 := 15) (pc' := 22) rfl (hb hby d12_15) rfl ((if0 _ _).trans (tlt hc18).1) (by decide) (by decide) ?_
      show oS p e below T16 (mkF m 22 #[oR o1, oI p2] []) _
      refine XS.iconst X16.here hx rfl (hb hby d12_22) ?_
      exact k)
    obtain ⟨fs, hr, hrun, hended, hW, hsame⟩ := X16.leave (v := some (.int (0 : Int32))) (fun h => by rw [Bd.returns] at h; cases h)
    refine ⟨_, _, pre19 _ ?_, hrun, hended, _, _, rfl, ?_, ⟨_, rfl⟩, hW, hsame.mono (by decide) (by decide)⟩
    ·
      show oS p e below T16 (mkF m 23 #[oR o1, oI p2] [oi 0]) _
      exact retN X16 hx (t := .boolean) Bd.returns (by simp) (hb hby d12_23) hr
    ·
      show Q_rm_al0 Z o1 a1 t1 k1 G1 p2 r r2 h0 n0 _ T16.heap _
      rw [e16]
      exact ⟨by rw [hr2]; simp [hc18], N16, rfl⟩
  ·
    have pre20 : oL p e below T16 (mkF m 23 #[oR o1, oI p2] [oi 1]) s₁ (entryFrame m #[(.ref o1), (.int p2)] 2) := fun t k => pre17 t (by
      refine XS.ifNo X16.here hx rfl (hb hby d12_15) rfl ((if0 _ _).trans (flt hc18).1) ?_
      show oS p e below T16 (mkF m 18 #[oR o1, oI p2] []) _
      refine XS.iconst X16.here hx rfl (hb hby d12_18) ?_
      refine XS.goto X16.here hx rfl (pc0 := 19) (pc' := 23) rfl (hb hby d12_19) (by decide) (by decide) ?_
      exact k)
    obtain ⟨fs, hr, hrun, hended, hW, hsame⟩ := X16.leave (v := some (.int (1 : Int32))) (fun h => by rw [Bd.returns] at h; cases h)
    refine ⟨_, _, pre20 _ ?_, hrun, hended, _, _, rfl, ?_, ⟨_, rfl⟩, hW, hsame.mono (by decide) (by decide)⟩
    ·
      show oS p e below T16 (mkF m 23 #[oR o1, oI p2] [oi 1]) _
      exact retN X16 hx (t := .boolean) Bd.returns (by simp) (hb hby d12_23) hr
    ·
      show Q_rm_al0 Z o1 a1 t1 k1 G1 p2 r r2 h0 n0 _ T16.heap _
      rw [e16]
      exact ⟨by rw [hr2]; simp [hc18], N16, rfl⟩
def Q_rm_min1 (Z : State)  (h0 : Heap) (n0 : Nat) (v : Option Value) (h : Heap) (L : List Loc) : Prop := v = some (.int (1 : Int32)) ∧ Fr n0 L ∧ h = h0
set_option maxRecDepth 65536 in
set_option maxHeartbeats 40000000 in
theorem rm_min1 (l : Launch) (Z : State) (a0 : Array Value) (hw : ∀ d ∈ tables_1, d.before a0 Z = true) (ws : List Jvm.Cond)  (h0 : Heap) (n0 : Nat) (OL : Old Z n0 h0) :
    MetFree l (⟨"java/lang/Math", "min", "(II)I"⟩ : MethodName) (head1 (Jvm.Cond.code (⟨"java/lang/Math", "min", "(II)I"⟩ : MethodName) jdk_29_method_69_code 2 (some .int) :: ws) ({ frames := 0, cells := 0, slots := 0, locals := 0 } : Room)) (fun a U => a = #[(.int (1 : Int32)), (.int (1 : Int32))] ∧ Z.Warmed39 U.vm ∧ U.heap = h0) (fun _ _ _ _ _ => True) (fun _ U o U' => ∃ v L, o = .returned v ∧ Q_rm_min1 Z  h0 n0 v U'.heap L ∧ FrameEnd U o U' L ({ frames := 0, cells := 0, slots := 0, locals := 0 } : Room).cells ({ frames := 0, cells := 0, slots := 0, locals := 0 } : Room).slots) := by
  refine MetFree.of_bodySF (Jvm.Free.JP.mathPlain rfl (by decide +kernel)) hisR ?_
  intro p e s m args below meth c s₁ Bd hml0 hP hK
  obtain ⟨rfl, hZ, hh⟩ := hP
  have hx := Bd.exec
  have hby := Bd.bytes
  have hml : c.maxLocals = 2 := hml0
  have hown : s.vm.findClass "java/lang/Math" = some m.cls := findClass_of_methodNamed Bd.named
  have hnm := (name_of_methodNamed Bd.named Bd.method).1
  have X0 : Stand p l e ({ frames := 0, cells := 0, slots := 0, locals := 0 } : Room) s m #[(.int (1 : Int32)), (.int (1 : Int32))] below meth c s₁ [] 0 0 := Stand.of_body Bd
  have e0 : s₁.heap = h0 := by rw [← hh, Bd.state]; rfl
  have N0 := Fr.nil n0
  have pre0 : oL p e below s₁ (mkF m 0 #[oI 1, oI 1] []) s₁ (entryFrame m #[(.int (1 : Int32)), (.int (1 : Int32))] 2) := fun t k => castTop (by first | (simp [entryFrame, mkF, argsToLocals, Value.category]; done) | rfl) k
  have pre11 : oL p e below s₁ (mkF m 10 #[oI 1, oI 1] [oi 1]) s₁ (entryFrame m #[(.int (1 : Int32)), (.int (1 : Int32))] 2) := fun t k => pre0 t (by
    refine XS.iloadN X0.here hx rfl (hb hby d21_0) rfl ?_
    refine XS.iloadN X0.here hx rfl (hb hby d21_1) rfl ?_
    refine XS.icmpNo X0.here hx rfl (hb hby d21_2) rfl (flt (by decide : ¬ ((1 : Int32) < (1 : Int32)))).2.2.1 ?_
    refine XS.iloadN X0.here hx rfl (hb hby d21_5) rfl ?_
    show oS p e below s₁ (mkF m 6 #[oI 1, oI 1] [oi 1]) _
    refine XS.goto X0.here hx rfl (pc0 := 6) (pc' := 10) rfl (hb hby d21_6) (by decide) (by decide) ?_
    exact k)
  obtain ⟨fs, hr, hrun, hended, hW, hsame⟩ := X0.leave (v := some (.int (1 : Int32))) (fun h => by rw [Bd.returns] at h; cases h)
  refine ⟨_, _, pre11 _ ?_, hrun, hended, _, _, rfl, ?_, ⟨_, rfl⟩, hW, hsame.mono (by decide) (by decide)⟩
  ·
    show oS p e below s₁ (mkF m 10 #[oI 1, oI 1] [oi 1]) _
    exact retI X0 hx Bd.returns (hb hby d21_10) hr
  ·
    show Q_rm_min1 Z  h0 n0 _ s₁.heap _
    rw [e0]
    exact ⟨rfl, N0, rfl⟩
theorem d22_0 : decode jdk_43_method_23_code 0 = .ok (.iload_n 1, 1) := by decide +kernel
theorem d22_1 : decode jdk_43_method_23_code 1 = .ok (.i2b, 1) := by decide +kernel
theorem d22_2 : decode jdk_43_method_23_code 2 = .ok (.istore 4, 2) := by decide +kernel
theorem d22_4 : decode jdk_43_method_23_code 4 = .ok (.iload_n 2, 1) := by decide +kernel
theorem d22_5 : decode jdk_43_method_23_code 5 = .ok (.istore 5, 2) := by decide +kernel
theorem d22_7 : decode jdk_43_method_23_code 7 = .ok (.iload 5, 2) := by decide +kernel
theorem d22_9 : decode jdk_43_method_23_code 9 = .ok (.iload_n 3, 1) := by decide +kernel
theorem d22_10 : decode jdk_43_method_23_code 10 = .ok (.if_icmp .ge 21, 3) := by decide +kernel
theorem d22_13 : decode jdk_43_method_23_code 13 = .ok (.aload_n 0, 1) := by decide +kernel
theorem d22_14 : decode jdk_43_method_23_code 14 = .ok (.iload 5, 2) := by decide +kernel
theorem d22_16 : decode jdk_43_method_23_code 16 = .ok (.baload, 1) := by decide +kernel
theorem d22_17 : decode jdk_43_method_23_code 17 = .ok (.iload 4, 2) := by decide +kernel
theorem d22_19 : decode jdk_43_method_23_code 19 = .ok (.if_icmp .ne 6, 3) := by decide +kernel
theorem d22_22 : decode jdk_43_method_23_code 22 = .ok (.iload 5, 2) := by decide +kernel
theorem d22_24 : decode jdk_43_method_23_code 24 = .ok (.ireturn, 1) := by decide +kernel
theorem d22_25 : decode jdk_43_method_23_code 25 = .ok (.iinc 5 1, 3) := by decide +kernel
theorem d22_28 : decode jdk_43_method_23_code 28 = .ok (.goto (-21), 3) := by decide +kernel
theorem d22_31 : decode jdk_43_method_23_code 31 = .ok (.iconst (-1), 1) := by decide +kernel
theorem d22_32 : decode jdk_43_method_23_code 32 = .ok (.ireturn, 1) := by decide +kernel
def Q_rm_ioc1 (Z : State) (t1 : Addr) (k1 : ClassId) (p2 : Int32) (x0 : Int32) (r : Int32) (h0 : Heap) (n0 : Nat) (v : Option Value) (h : Heap) (L : List Loc) : Prop := v = some (.int r) ∧ Fr n0 L ∧ h = h0
set_option maxRecDepth 65536 in
set_option maxHeartbeats 40000000 in
theorem rm_ioc1 (l : Launch) (Z : State) (a0 : Array Value) (hw : ∀ d ∈ tables_1, d.before a0 Z = true) (ws : List Jvm.Cond) (t1 : Addr) (k1 : ClassId) (p2 : Int32) (x0 : Int32) (r : Int32) (h0 : Heap) (n0 : Nat) (OL : Old Z n0 h0) (V1 : Arv Z h0 t1 k1 .byte (1 : Int32) [(.int x0)] (.int (0 : Int32))) (hr' : r = if x0 = (p2.toInt8.toInt32) then 0 else -1) :
    MetFree l (⟨"java/lang/StringLatin1", "indexOfChar", "([BIII)I"⟩ : MethodName) (head1 (Jvm.Cond.code (⟨"java/lang/StringLatin1", "indexOfChar", "([BIII)I"⟩ : MethodName) jdk_43_method_23_code 6 (some .int) :: ws) ({ frames := 0, cells := 0, slots := 0, locals := 0 } : Room)) (fun a U => a = #[(.ref t1), (.int p2), (.int (0 : Int32)), (.int (1 : Int32))] ∧ Z.Warmed39 U.vm ∧ U.heap = h0) (fun _ _ _ _ _ => True) (fun _ U o U' => ∃ v L, o = .returned v ∧ Q_rm_ioc1 Z t1 k1 p2 x0 r h0 n0 v U'.heap L ∧ FrameEnd U o U' L ({ frames := 0, cells := 0, slots := 0, locals := 0 } : Room).cells ({ frames := 0, cells := 0, slots := 0, locals := 0 } : Room).slots) := by
  refine MetFree.of_bodySF (plainFor_of_name pn_java_lang_StringLatin1) hisR ?_
  intro p e s m args below meth c s₁ Bd hml0 hP hK
  obtain ⟨rfl, hZ, hh⟩ := hP
  have hx := Bd.exec
  have hby := Bd.bytes
  have hml : c.maxLocals = 6 := hml0
  have hown : s.vm.findClass "java/lang/StringLatin1" = some m.cls := findClass_of_methodNamed Bd.named
  have hnm := (name_of_methodNamed Bd.named Bd.method).1
  have X0 : Stand p l e ({ frames := 0, cells := 0, slots := 0, locals := 0 } : Room) s m #[(.ref t1), (.int p2), (.int (0 : Int32)), (.int (1 : Int32))] below meth c s₁ [] 0 0 := Stand.of_body Bd
  have e0 : s₁.heap = h0 := by rw [← hh, Bd.state]; rfl
  have N0 := Fr.nil n0
  have pre0 : oL p e below s₁ (mkF m 0 #[oR t1, oI p2, oI 0, oI 1, oU, oU] []) s₁ (entryFrame m #[(.ref t1), (.int p2), (.int (0 : Int32)), (.int (1 : Int32))] 6) := fun t k => castTop (by first | (simp [entryFrame, mkF, argsToLocals, Value.category]; done) | rfl) k
  have pre11 : oL p e below s₁ (mkF m 16 #[oR t1, oI p2, oI 0, oI 1, oI (p2.toInt8.toInt32), oI 0] [oi 0, ow t1]) s₁ (entryFrame m #[(.ref t1), (.int p2), (.int (0 : Int32)), (.int (1 : Int32))] 6) := fun t k => pre0 t (by
    refine XS.iloadN X0.here hx rfl (hb hby d22_0) rfl ?_
    refine XS.i2b X0.here hx rfl (hb hby d22_1) rfl ?_
    refine XS.istore X0.here hx rfl (hb hby d22_2) rfl (l' := #[oR t1, oI p2, oI 0, oI 1, oI (p2.toInt8.toInt32), oU]) rfl ?_
    refine XS.iloadN X0.here hx rfl (hb hby d22_4) rfl ?_
    show oS p e below s₁ (mkF m 5 #[oR t1, oI p2, oI 0, oI 1, oI (p2.toInt8.toInt32), oU] [oi 0]) _
    refine XS.istore X0.here hx rfl (hb hby d22_5) rfl (l' := #[oR t1, oI p2, oI 0, oI 1, oI (p2.toInt8.toInt32), oI 0]) rfl ?_
    refine XS.iload X0.here hx rfl (hb hby d22_7) rfl ?_
    refine XS.iloadN X0.here hx rfl (hb hby d22_9) rfl ?_
    refine XS.icmpNo X0.here hx rfl (hb hby d22_10) rfl (tlt (by decide : (0 : Int32) < (1 : Int32))).2.1 ?_
    show oS p e below s₁ (mkF m 13 #[oR t1, oI p2, oI 0, oI 1, oI (p2.toInt8.toInt32), oI 0] []) _
    refine XS.aloadN X0.here hx rfl (hb hby d22_13) rfl rfl ?_
    refine XS.iload X0.here hx rfl (hb hby d22_14) rfl ?_
    exact k)
  obtain ⟨cl12, Ar12, qc12, Sz12, Nn12, Hs12, Gs12⟩ := id V1
  have hin12 := inb_of (j := (0 : Int32)) Sz12 ⟨by decide, by decide⟩
  have pre13 : oL p e below s₁ (mkF m 19 #[oR t1, oI p2, oI 0, oI 1, oI (p2.toInt8.toInt32), oI 0] [oi (p2.toInt8.toInt32), oi x0]) s₁ (entryFrame m #[(.ref t1), (.int p2), (.int (0 : Int32)), (.int (1 : Int32))] 6) := fun t k => pre11 t (by
    refine X0.baloadBytes hx (j := (0 : Int32)) (v := (.int x0)) (by rw [e0]; exact Ar12.1) (State.isArrayOf_alike hZ.alike Ar12.2.1) Ar12.2.2 hin12 (Hs12.at hin12 rfl) (g := (mkF m 16 #[oR t1, oI p2, oI 0, oI 1, oI (p2.toInt8.toInt32), oI 0] [oi 0, ow t1])) rfl rfl (hb hby d22_16) _ ?_
    refine XS.iload X0.here hx rfl (hb hby d22_17) rfl ?_
    show oS p e below s₁ (mkF m 19 #[oR t1, oI p2, oI 0, oI 1, oI (p2.toInt8.toInt32), oI 0] [oi (p2.toInt8.toInt32), oi x0]) _
    exact k)
  by_cases hc14 : x0 = (p2.toInt8.toInt32)
  ·
    have pre15 : oL p e below s₁ (mkF m 24 #[oR t1, oI p2, oI 0, oI 1, oI (p2.toInt8.toInt32), oI 0] [oi 0]) s₁ (entryFrame m #[(.ref t1), (.int p2), (.int (0 : Int32)), (.int (1 : Int32))] 6) := fun t k => pre13 t (by
      refine XS.icmpNo X0.here hx rfl (hb hby d22_19) rfl (teq hc14).2 ?_
      refine XS.iload X0.here hx rfl (hb hby d22_22) rfl ?_
      exact k)
    obtain ⟨fs, hr, hrun, hended, hW, hsame⟩ := X0.leave (v := some (.int (0 : Int32))) (fun h => by rw [Bd.returns] at h; cases h)
    refine ⟨_, _, pre15 _ ?_, hrun, hended, _, _, rfl, ?_, ⟨_, rfl⟩, hW, hsame.mono (by decide) (by decide)⟩
    ·
      show oS p e below s₁ (mkF m 24 #[oR t1, oI p2, oI 0, oI 1, oI (p2.toInt8.toInt32), oI 0] [oi 0]) _
      exact retI X0 hx Bd.returns (hb hby d22_24) hr
    ·
      show Q_rm_ioc1 Z t1 k1 p2 x0 r h0 n0 _ s₁.heap _
      rw [e0]
      exact ⟨by rw [hr']; simp [hc14], N0, rfl⟩
  ·
    have pre16 : oL p e below s₁ (mkF m 32 #[oR t1, oI p2, oI 0, oI 1, oI (p2.toInt8.toInt32), oI 1] [oi (-1)]) s₁ (entryFrame m #[(.ref t1), (.int p2), (.int (0 : Int32)), (.int (1 : Int32))] 6) := fun t k => pre13 t (by
      refine XS.icmpYes X0.here hx rfl (pc0 := 19) (pc' := 25) rfl (hb hby d22_19) rfl (feq hc14).2 (by decide) (by decide) ?_
      refine XS.iinc X0.here hx rfl (hb hby d22_25) rfl (l' := #[oR t1, oI p2, oI 0, oI 1, oI (p2.toInt8.toInt32), oI 1]) rfl ?_
      refine XS.goto X0.here hx rfl (pc0 := 28) (pc' := 7) rfl (hb hby d22_28) (by decide) (by decide) ?_
      refine XS.iload X0.here hx rfl (hb hby d22_7) rfl ?_
      show oS p e below s₁ (mkF m 9 #[oR t1, oI p2, oI 0, oI 1, oI (p2.toInt8.toInt32), oI 1] [oi 1]) _
      refine XS.iloadN X0.here hx rfl (hb hby d22_9) rfl ?_
      refine XS.icmpYes X0.here hx rfl (pc0 := 10) (pc' := 31) rfl (hb hby d22_10) rfl (flt (by decide : ¬ ((1 : Int32) < (1 : Int32)))).2.1 (by decide) (by decide) ?_
      refine XS.iconst X0.here hx rfl (hb hby d22_31) ?_
      exact k)
    obtain ⟨fs, hr, hrun, hended, hW, hsame⟩ := X0.leave (v := some (.int (-1 : Int32))) (fun h => by rw [Bd.returns] at h; cases h)
    refine ⟨_, _, pre16 _ ?_, hrun, hended, _, _, rfl, ?_, ⟨_, rfl⟩, hW, hsame.mono (by decide) (by decide)⟩
    ·
      show oS p e below s₁ (mkF m 32 #[oR t1, oI p2, oI 0, oI 1, oI (p2.toInt8.toInt32), oI 1] [oi (-1)]) _
      exact retI X0 hx Bd.returns (hb hby d22_32) hr
    ·
      show Q_rm_ioc1 Z t1 k1 p2 x0 r h0 n0 _ s₁.heap _
      rw [e0]
      exact ⟨by rw [hr']; simp [hc14], N0, rfl⟩
theorem d18_29 : decode jdk_43_method_22_code 29 = .ok (.aload_n 0, 1) := by decide +kernel
theorem d18_30 : decode jdk_43_method_22_code 30 = .ok (.iload_n 1, 1) := by decide +kernel
theorem d18_31 : decode jdk_43_method_22_code 31 = .ok (.iload_n 2, 1) := by decide +kernel
theorem d18_32 : decode jdk_43_method_22_code 32 = .ok (.iload_n 3, 1) := by decide +kernel
theorem d18_33 : decode jdk_43_method_22_code 33 = .ok (.invokestatic 95, 3) := by decide +kernel
theorem d18_36 : decode jdk_43_method_22_code 36 = .ok (.ireturn, 1) := by decide +kernel
def Q_rm_io1 (Z : State) (t1 : Addr) (k1 : ClassId) (p2 : Int32) (x0 : Int32) (r : Int32) (h0 : Heap) (n0 : Nat) (v : Option Value) (h : Heap) (L : List Loc) : Prop := v = some (.int r) ∧ Fr n0 L ∧ h = h0
set_option maxRecDepth 65536 in
set_option maxHeartbeats 40000000 in
theorem rm_io1 (l : Launch) (Z : State) (a0 : Array Value) (hw : ∀ d ∈ tables_1, d.before a0 Z = true) (ws : List Jvm.Cond) (t1 : Addr) (k1 : ClassId) (p2 : Int32) (x0 : Int32) (r : Int32) (h0 : Heap) (n0 : Nat) (OL : Old Z n0 h0) (V1 : Arv Z h0 t1 k1 .byte (1 : Int32) [(.int x0)] (.int (0 : Int32))) (hr' : r = if p2 < 0 then -1 else if (255 : Int32) < p2 then -1 else (if x0 = (p2.toInt8.toInt32) then 0 else -1 : Int32)) :
    MetFree l (⟨"java/lang/StringLatin1", "indexOf", "([BIII)I"⟩ : MethodName) (head1 (Jvm.Cond.code (⟨"java/lang/StringLatin1", "indexOf", "([BIII)I"⟩ : MethodName) jdk_43_method_22_code 4 (some .int) :: ws) ({ frames := 1, cells := 0, slots := 0, locals := 17 } : Room)) (fun a U => a = #[(.ref t1), (.int p2), (.int (0 : Int32)), (.int (1 : Int32))] ∧ Z.Warmed39 U.vm ∧ U.heap = h0) (fun _ _ _ _ _ => True) (fun _ U o U' => ∃ v L, o = .returned v ∧ Q_rm_io1 Z t1 k1 p2 x0 r h0 n0 v U'.heap L ∧ FrameEnd U o U' L ({ frames := 1, cells := 0, slots := 0, locals := 17 } : Room).cells ({ frames := 1, cells := 0, slots := 0, locals := 17 } : Room).slots) := by
  refine MetFree.of_bodySF (plainFor_of_name pn_java_lang_StringLatin1) hisR ?_
  intro p e s m args below meth c s₁ Bd hml0 hP hK
  obtain ⟨rfl, hZ, hh⟩ := hP
  have hx := Bd.exec
  have hby := Bd.bytes
  have hml : c.maxLocals = 4 := hml0
  have hown : s.vm.findClass "java/lang/StringLatin1" = some m.cls := findClass_of_methodNamed Bd.named
  have hnm := (name_of_methodNamed Bd.named Bd.method).1
  have X0 : Stand p l e ({ frames := 1, cells := 0, slots := 0, locals := 17 } : Room) s m #[(.ref t1), (.int p2), (.int (0 : Int32)), (.int (1 : Int32))] below meth c s₁ [] 0 0 := Stand.of_body Bd
  have e0 : s₁.heap = h0 := by rw [← hh, Bd.state]; rfl
  have N0 := Fr.nil n0
  have pre0 : oL p e below s₁ (mkF m 0 #[oR t1, oI p2, oI 0, oI 1] []) s₁ (entryFrame m #[(.ref t1), (.int p2), (.int (0 : Int32)), (.int (1 : Int32))] 4) := fun t k => castTop (by first | (simp [entryFrame, mkF, argsToLocals, Value.category]; done) | rfl) k
  have pre11 : oL p e below s₁ (mkF m 1 #[oR t1, oI p2, oI 0, oI 1] [oi p2]) s₁ (entryFrame m #[(.ref t1), (.int p2), (.int (0 : Int32)), (.int (1 : Int32))] 4) := fun t k => pre0 t (by
    refine XS.iloadN X0.here hx rfl (hb hby d18_0) rfl ?_
    exact k)
  obtain ⟨_, _, ⟨T12, L12, k12, n12⟩, -, X12, ⟨Lc12, hQ12, l12, y12, z12⟩, st12⟩ := Jvm.LawKit.callS X0 hx (y := (⟨"java/lang/StringLatin1", "canEncode", "(I)Z"⟩ : MethodName)) hown (mvT hZ (oW hw 99 rfl)) (mvT hZ (oW hw 100 rfl)) (mvT hZ (oW hw 97 rfl)) (mvT hZ (oW hw 101 rfl)) (by decide) (backOf (W := 0) (rm_can l Z a0 hw [] p2 (if p2 < 0 then 0 else if (255 : Int32) < p2 then 0 else 1) h0 n0 OL rfl) hZ (oW hw 101 rfl) (oW hw 97 rfl) (by decide) (by decide)) (g := (mkF m 1 #[oR t1, oI p2, oI 0, oI 1] [oi p2])) rfl (by rw [hml]; rfl) (argsL := [(.int p2)]) (rest := []) (lenOf pd__I_Z rfl) rfl (by show 2 * 0 + _ ≤ _; exact Nat.le_of_eq rfl) (hb hby d18_1) (fun _ _ => ⟨rfl, e0, (by decide : 0 + 0 ≤ _), (by decide : 0 + 0 ≤ _)⟩)
  dsimp only [Pt.U, Pt.locs, Pt.cells, Pt.slots] at X12 l12 y12 z12 st12 hQ12
  subst l12 y12 z12
  obtain ⟨rfl, N12q, e12⟩ := hQ12
  have N12 := Fr.app N0 N12q
  have pre13 : oL p e below T12 (mkF m 4 #[oR t1, oI p2, oI 0, oI 1] [oi (if p2 < 0 then 0 else if (255 : Int32) < p2 then 0 else 1)]) s₁ (entryFrame m #[(.ref t1), (.int p2), (.int (0 : Int32)), (.int (1 : Int32))] 4) := fun t k => pre11 t (by
    refine st12 _ ?_
    exact k)
  by_cases hc14 : (if p2 < 0 then 0 else if (255 : Int32) < p2 then 0 else 1) = (0 : Int32)
  ·
    have pre15 : oL p e below T12 (mkF m 8 #[oR t1, oI p2, oI 0, oI 1] [oi (-1)]) s₁ (entryFrame m #[(.ref t1), (.int p2), (.int (0 : Int32)), (.int (1 : Int32))] 4) := fun t k => pre13 t (by
      refine XS.ifNo X12.here hx rfl (hb hby d18_4) rfl ((if0 _ _).trans (teq hc14).2) ?_
      refine XS.iconst X12.here hx rfl (hb hby d18_7) ?_
      show oS p e below T12 (mkF m 8 #[oR t1, oI p2, oI 0, oI 1] [oi (-1)]) _
      exact k)
    obtain ⟨fs, hr, hrun, hended, hW, hsame⟩ := X12.leave (v := some (.int (-1 : Int32))) (fun h => by rw [Bd.returns] at h; cases h)
    refine ⟨_, _, pre15 _ ?_, hrun, hended, _, _, rfl, ?_, ⟨_, rfl⟩, hW, hsame.mono (by decide) (by decide)⟩
    ·
      show oS p e below T12 (mkF m 8 #[oR t1, oI p2, oI 0, oI 1] [oi (-1)]) _
      exact retI X12 hx Bd.returns (hb hby d18_8) hr
    ·
      show Q_rm_io1 Z t1 k1 p2 x0 r h0 n0 _ T12.heap _
      rw [e12]
      exact ⟨by rw [hr', own_can0 hc14], N12, rfl⟩
  ·
    have pre16 : oL p e below T12 (mkF m 11 #[oR t1, oI p2, oI 0, oI 1] [oi 0, oi 0]) s₁ (entryFrame m #[(.ref t1), (.int p2), (.int (0 : Int32)), (.int (1 : Int32))] 4) := fun t k => pre13 t (by
      refine XS.ifYes X12.here hx rfl (pc0 := 4) (pc' := 9) rfl (hb hby d18_4) rfl ((if0 _ _).trans (feq hc14).2) (by decide) (by decide) ?_
      refine XS.iloadN X12.here hx rfl (hb hby d18_9) rfl ?_
      show oS p e below T12 (mkF m 10 #[oR t1, oI p2, oI 0, oI 1] [oi 0]) _
      refine XS.iconst X12.here hx rfl (hb hby d18_10) ?_
      exact k)
    obtain ⟨_, _, ⟨T17, L17, k17, n17⟩, -, X17, ⟨Lc17, hQ17, l17, y17, z17⟩, st17⟩ := Jvm.LawKit.callS X12 hx (y := (⟨"java/lang/Math", "max", "(II)I"⟩ : MethodName)) hown (mvT hZ (oW hw 102 rfl)) (mvT hZ (oW hw 103 rfl)) (mvT hZ (oW hw 104 rfl)) (mvT hZ (oW hw 105 rfl)) (by decide) (backOf (W := 0) (rm_max l Z a0 hw []  h0 n0 OL ) hZ (oW hw 105 rfl) (oW hw 104 rfl) (by decide) (by decide)) (g := (mkF m 11 #[oR t1, oI p2, oI 0, oI 1] [oi 0, oi 0])) rfl (by rw [hml]; rfl) (argsL := [(.int (0 : Int32)), (.int (0 : Int32))]) (rest := []) (lenOf pd__II_I rfl) rfl (by show 2 * 0 + _ ≤ _; exact Nat.le_of_eq rfl) (hb hby d18_11) (fun _ _ => ⟨rfl, e12, (by decide : 0 + 0 ≤ _), (by decide : 0 + 0 ≤ _)⟩)
    dsimp only [Pt.U, Pt.locs, Pt.cells, Pt.slots] at X17 l17 y17 z17 st17 hQ17
    subst l17 y17 z17
    obtain ⟨rfl, N17q, e17⟩ := hQ17
    have N17 := Fr.app N12 N17q
    have pre19 : oL p e below T17 (mkF m 17 #[oR t1, oI p2, oI 0, oI 1] [ow t1, oi 1]) s₁ (entryFrame m #[(.ref t1), (.int p2), (.int (0 : Int32)), (.int (1 : Int32))] 4) := fun t k => pre16 t (by
      refine st17 _ ?_
      refine XS.istoreN X17.here hx rfl (hb hby d18_14) rfl (l' := #[oR t1, oI p2, oI 0, oI 1]) rfl ?_
      refine XS.iloadN X17.here hx rfl (hb hby d18_15) rfl ?_
      show oS p e below T17 (mkF m 16 #[oR t1, oI p2, oI 0, oI 1] [oi 1]) _
      refine XS.aloadN X17.here hx rfl (hb hby d18_16) rfl rfl ?_
      exact k)
    obtain ⟨cl18, Ar18, -, Sz18, Nn18, -, -⟩ := id V1
    have pre20 : oL p e below T17 (mkF m 18 #[oR t1, oI p2, oI 0, oI 1] [oi 1, oi 1]) s₁ (entryFrame m #[(.ref t1), (.int p2), (.int (0 : Int32)), (.int (1 : Int32))] 4) := fun t k => pre19 t (by
      refine X17.arraylength hx (by rw [e17]; exact Ar18.1) (State.isArrayOf_alike hZ.alike Ar18.2.1) (g := (mkF m 17 #[oR t1, oI p2, oI 0, oI 1] [ow t1, oi 1])) rfl rfl (hb hby d18_17) _ ?_
      rw [len_of Sz18 Nn18]
      exact k)
    obtain ⟨_, _, ⟨T21, L21, k21, n21⟩, -, X21, ⟨Lc21, hQ21, l21, y21, z21⟩, st21⟩ := Jvm.LawKit.callS X17 hx (y := (⟨"java/lang/Math", "min", "(II)I"⟩ : MethodName)) hown (mvT hZ (oW hw 106 rfl)) (mvT hZ (oW hw 107 rfl)) (mvT hZ (oW hw 104 rfl)) (mvT hZ (oW hw 108 rfl)) (by decide) (backOf (W := 0) (rm_min1 l Z a0 hw []  h0 n0 OL ) hZ (oW hw 108 rfl) (oW hw 104 rfl) (by decide) (by decide)) (g := (mkF m 18 #[oR t1, oI p2, oI 0, oI 1] [oi 1, oi 1])) rfl (by rw [hml]; rfl) (argsL := [(.int (1 : Int32)), (.int (1 : Int32))]) (rest := []) (lenOf pd__II_I rfl) rfl (by show 2 * 0 + _ ≤ _; exact Nat.le_of_eq rfl) (hb hby d18_18) (fun _ _ => ⟨rfl, e17, (by decide : 0 + 0 ≤ _), (by decide : 0 + 0 ≤ _)⟩)
    dsimp only [Pt.U, Pt.locs, Pt.cells, Pt.slots] at X21 l21 y21 z21 st21 hQ21
    subst l21 y21 z21
    obtain ⟨rfl, N21q, e21⟩ := hQ21
    have N21 := Fr.app N17 N21q
    have pre22 : oL p e below T21 (mkF m 33 #[oR t1, oI p2, oI 0, oI 1] [oi 1, oi 0, oi p2, ow t1]) s₁ (entryFrame m #[(.ref t1), (.int p2), (.int (0 : Int32)), (.int (1 : Int32))] 4) := fun t k => pre20 t (by
      refine st21 _ ?_
      refine XS.istoreN X21.here hx rfl (hb hby d18_21) rfl (l' := #[oR t1, oI p2, oI 0, oI 1]) rfl ?_
      show oS p e below T21 (mkF m 22 #[oR t1, oI p2, oI 0, oI 1] []) _
      refine XS.iloadN X21.here hx rfl (hb hby d18_22) rfl ?_
      refine XS.iloadN X21.here hx rfl (hb hby d18_23) rfl ?_
      refine XS.icmpYes X21.here hx rfl (pc0 := 24) (pc' := 29) rfl (hb hby d18_24) rfl (tlt (by decide : (0 : Int32) < (1 : Int32))).1 (by decide) (by decide) ?_
      refine XS.aloadN X21.here hx rfl (hb hby d18_29) rfl rfl ?_
      show oS p e below T21 (mkF m 30 #[oR t1, oI p2, oI 0, oI 1] [ow t1]) _
      refine XS.iloadN X21.here hx rfl (hb hby d18_30) rfl ?_
      refine XS.iloadN X21.here hx rfl (hb hby d18_31) rfl ?_
      refine XS.iloadN X21.here hx rfl (hb hby d18_32) rfl ?_
      exact k)
    obtain ⟨_, _, ⟨T23, L23, k23, n23⟩, -, X23, ⟨Lc23, hQ23, l23, y23, z23⟩, st23⟩ := Jvm.LawKit.callS X21 hx (y := (⟨"java/lang/StringLatin1", "indexOfChar", "([BIII)I"⟩ : MethodName)) hown (mvT hZ (oW hw 109 rfl)) (mvT hZ (oW hw 110 rfl)) (mvT hZ (oW hw 97 rfl)) (mvT hZ (oW hw 111 rfl)) (by decide) (backOf (W := 0) (rm_ioc1 l Z a0 hw [] t1 k1 p2 x0 (if x0 = (p2.toInt8.toInt32) then 0 else -1) h0 n0 OL V1 rfl) hZ (oW hw 111 rfl) (oW hw 97 rfl) (by decide) (by decide)) (g := (mkF m 33 #[oR t1, oI p2, oI 0, oI 1] [oi 1, oi 0, oi p2, ow t1])) rfl (by rw [hml]; rfl) (argsL := [(.ref t1), (.int p2), (.int (0 : Int32)), (.int (1 : Int32))]) (rest := []) (lenOf pd___BIII_I rfl) rfl (by show 2 * 0 + _ ≤ _; exact Nat.le_of_eq rfl) (hb hby d18_33) (fun _ _ => ⟨rfl, e21, (by decide : 0 + 0 ≤ _), (by decide : 0 + 0 ≤ _)⟩)
    dsimp only [Pt.U, Pt.locs, Pt.cells, Pt.slots] at X23 l23 y23 z23 st23 hQ23
    subst l23 y23 z23
    obtain ⟨rfl, N23q, e23⟩ := hQ23
    have N23 := Fr.app N21 N23q
    have pre24 : oL p e below T23 (mkF m 36 #[oR t1, oI p2, oI 0, oI 1] [oi (if x0 = (p2.toInt8.toInt32) then 0 else -1 : Int32)]) s₁ (entryFrame m #[(.ref t1), (.int p2), (.int (0 : Int32)), (.int (1 : Int32))] 4) := fun t k => pre22 t (by
      refine st23 _ ?_
      show oS p e below T23 (mkF m 36 #[oR t1, oI p2, oI 0, oI 1] [oi (if x0 = (p2.toInt8.toInt32) then 0 else -1 : Int32)]) _
      exact k)
    obtain ⟨fs, hr, hrun, hended, hW, hsame⟩ := X23.leave (v := some (.int (if x0 = (p2.toInt8.toInt32) then 0 else -1 : Int32))) (fun h => by rw [Bd.returns] at h; cases h)
    refine ⟨_, _, pre24 _ ?_, hrun, hended, _, _, rfl, ?_, ⟨_, rfl⟩, hW, hsame.mono (by decide) (by decide)⟩
    ·
      show oS p e below T23 (mkF m 36 #[oR t1, oI p2, oI 0, oI 1] [oi (if x0 = (p2.toInt8.toInt32) then 0 else -1 : Int32)]) _
      exact retI X23 hx Bd.returns (hb hby d18_36) hr
    ·
      show Q_rm_io1 Z t1 k1 p2 x0 r h0 n0 _ T23.heap _
      rw [e23]
      exact ⟨by rw [hr', own_can1 hc14], N23, rfl⟩
def Q_rm_len1 (Z : State) (a1 : Addr) (t1 : Addr) (k1 : ClassId) (G1 : Int32) (x0 : Int32) (h0 : Heap) (n0 : Nat) (v : Option Value) (h : Heap) (L : List Loc) : Prop := v = some (.int (1 : Int32)) ∧ Fr n0 L ∧ h = h0
set_option maxRecDepth 65536 in
set_option maxHeartbeats 40000000 in
theorem rm_len1 (l : Launch) (Z : State) (a0 : Array Value) (hw : ∀ d ∈ tables_1, d.before a0 Z = true) (ws : List Jvm.Cond) (a1 : Addr) (t1 : Addr) (k1 : ClassId) (G1 : Int32) (x0 : Int32) (h0 : Heap) (n0 : Nat) (OL : Old Z n0 h0) (O2 : Sta Z Z.heap "java/lang/String" "COMPACT_STRINGS" "Z" (.int G1)) (P5 : ¬ (G1 = (0 : Int32))) (E1 : Exa Z h0 a1 "java/lang/String") (F1 : Fld Z h0 a1 "java/lang/String" "value" "[B" (.ref t1)) (F2 : Fld Z h0 a1 "java/lang/String" "coder" "B" (.int (0 : Int32))) (V1 : Arv Z h0 t1 k1 .byte (1 : Int32) [(.int x0)] (.int (0 : Int32))) :
    MetFree l (⟨"java/lang/String", "length", "()I"⟩ : MethodName) (head1 (Jvm.Cond.code (⟨"java/lang/String", "length", "()I"⟩ : MethodName) jdk_42_method_54_code 1 (some .int) :: ws) ({ frames := 1, cells := 0, slots := 0, locals := 13 } : Room)) (fun a U => a = #[(.ref a1)] ∧ Z.Warmed39 U.vm ∧ U.heap = h0) (fun _ _ _ _ _ => True) (fun _ U o U' => ∃ v L, o = .returned v ∧ Q_rm_len1 Z a1 t1 k1 G1 x0 h0 n0 v U'.heap L ∧ FrameEnd U o U' L ({ frames := 1, cells := 0, slots := 0, locals := 13 } : Room).cells ({ frames := 1, cells := 0, slots := 0, locals := 13 } : Room).slots) := by
  refine MetFree.of_bodySF (plainFor_of_name pn_java_lang_String) hisR ?_
  intro p e s m args below meth c s₁ Bd hml0 hP hK
  obtain ⟨rfl, hZ, hh⟩ := hP
  have hx := Bd.exec
  have hby := Bd.bytes
  have hml : c.maxLocals = 1 := hml0
  have hown : s.vm.findClass "java/lang/String" = some m.cls := findClass_of_methodNamed Bd.named
  have hnm := (name_of_methodNamed Bd.named Bd.method).1
  have X0 : Stand p l e ({ frames := 1, cells := 0, slots := 0, locals := 13 } : Room) s m #[(.ref a1)] below meth c s₁ [] 0 0 := Stand.of_body Bd
  have e0 : s₁.heap = h0 := by rw [← hh, Bd.state]; rfl
  have N0 := Fr.nil n0
  have pre0 : oL p e below s₁ (mkF m 0 #[oR a1] []) s₁ (entryFrame m #[(.ref a1)] 1) := fun t k => castTop (by first | (simp [entryFrame, mkF, argsToLocals, Value.category]; done) | rfl) k
  have pre11 : oL p e below s₁ (mkF m 1 #[oR a1] [ow a1]) s₁ (entryFrame m #[(.ref a1)] 1) := fun t k => pre0 t (by
    refine XS.aloadN X0.here hx rfl (hb hby d16_0) rfl rfl ?_
    exact k)
  obtain ⟨T12, X12, e12, st12⟩ := getF X0 hx hZ hown (host := "") (Or.inl (oW hw 28 rfl)) Via.refl e0 F1 (g := (mkF m 1 #[oR a1] [ow a1])) rfl rfl (hb hby d16_1)
  have pre14 : oL p e below T12 (mkF m 4 #[oR a1] [ow t1]) s₁ (entryFrame m #[(.ref a1)] 1) := fun t k => pre11 t (by
    refine st12 _ ?_
    exact k)
  obtain ⟨cl13, Ar13, -, Sz13, Nn13, -, -⟩ := id V1
  have pre15 : oL p e below T12 (mkF m 6 #[oR a1] [ow a1, oi 1]) s₁ (entryFrame m #[(.ref a1)] 1) := fun t k => pre14 t (by
    refine X12.arraylength hx (by rw [e12]; exact Ar13.1) (State.isArrayOf_alike hZ.alike Ar13.2.1) (g := (mkF m 4 #[oR a1] [ow t1])) rfl rfl (hb hby d16_4) _ ?_
    rw [len_of Sz13 Nn13]
    refine XS.aloadN X12.here hx rfl (hb hby d16_5) rfl rfl ?_
    show oS p e below T12 (mkF m 6 #[oR a1] [ow a1, oi 1]) _
    exact k)
  obtain ⟨cq16, kq16, q16a, q16b, q16c⟩ := isOf hZ e12 E1
  obtain ⟨_, _, ⟨T16, L16, k16, n16⟩, -, X16, ⟨Lc16, hQ16, l16, y16, z16⟩, st16⟩ := X12.virtualBack hx (y := (⟨"java/lang/String", "coder", "()B"⟩ : MethodName)) (z := (⟨"java/lang/String", "coder", "()B"⟩ : MethodName)) hown (mvT hZ (oW hw 90 rfl)) (mvT hZ (oW hw 91 rfl)) (notFace_of_selects (args := #[]) (mvT hZ (oW hw 93 rfl))) (mvT hZ (oW hw 93 rfl)) (mvT hZ (oW hw 92 rfl)) (by decide) (backOf (W := 1) (rm_coder l Z a0 hw [] a1 t1 G1 h0 n0 OL O2 P5 E1 F1 F2) hZ (oW hw 94 rfl) (oW hw 2 rfl) (by decide) (by decide)) q16a q16c (g := (mkF m 6 #[oR a1] [ow a1, oi 1])) rfl (by rw [hml]; rfl) (Steps.refl _) (argsL := []) (rest := [(.int (1 : Int32))]) (lenOf pd___B rfl) rfl (by show 2 * 0 + _ ≤ _; exact Nat.le_of_eq rfl) (hb hby d16_6) (fun _ _ => ⟨rfl, e12, (by decide : 0 + 0 ≤ _), (by decide : 0 + 0 ≤ _)⟩)
  dsimp only [Pt.U, Pt.locs, Pt.cells, Pt.slots] at X16 l16 y16 z16 st16 hQ16
  subst l16 y16 z16
  obtain ⟨rfl, N16q, e16⟩ := hQ16
  have N16 := Fr.app N0 N16q
  have pre17 : oL p e below T16 (mkF m 10 #[oR a1] [oi 1]) s₁ (entryFrame m #[(.ref a1)] 1) := fun t k => pre15 t (by
    refine st16.trans ?_
    refine XS.ishr X16.here hx rfl (hb hby d16_9) rfl ?_
    exact k)
  obtain ⟨fs, hr, hrun, hended, hW, hsame⟩ := X16.leave (v := some (.int (1 : Int32))) (fun h => by rw [Bd.returns] at h; cases h)
  refine ⟨_, _, pre17 _ ?_, hrun, hended, _, _, rfl, ?_, ⟨_, rfl⟩, hW, hsame.mono (by decide) (by decide)⟩
  ·
    show oS p e below T16 (mkF m 10 #[oR a1] [oi 1]) _
    exact retI X16 hx Bd.returns (hb hby d16_10) hr
  ·
    show Q_rm_len1 Z a1 t1 k1 G1 x0 h0 n0 _ T16.heap _
    rw [e16]
    exact ⟨rfl, N16, rfl⟩
def Q_rm_s2_1 (Z : State) (a1 : Addr) (t1 : Addr) (k1 : ClassId) (G1 : Int32) (p2 : Int32) (x0 : Int32) (r : Int32) (h0 : Heap) (n0 : Nat) (v : Option Value) (h : Heap) (L : List Loc) : Prop := v = some (.int r) ∧ Fr n0 L ∧ h = h0
set_option maxRecDepth 65536 in
set_option maxHeartbeats 40000000 in
theorem rm_s2_1 (l : Launch) (Z : State) (a0 : Array Value) (hw : ∀ d ∈ tables_1, d.before a0 Z = true) (ws : List Jvm.Cond) (a1 : Addr) (t1 : Addr) (k1 : ClassId) (G1 : Int32) (p2 : Int32) (x0 : Int32) (r : Int32) (h0 : Heap) (n0 : Nat) (OL : Old Z n0 h0) (O2 : Sta Z Z.heap "java/lang/String" "COMPACT_STRINGS" "Z" (.int G1)) (P5 : ¬ (G1 = (0 : Int32))) (E1 : Exa Z h0 a1 "java/lang/String") (F1 : Fld Z h0 a1 "java/lang/String" "value" "[B" (.ref t1)) (F2 : Fld Z h0 a1 "java/lang/String" "coder" "B" (.int (0 : Int32))) (V1 : Arv Z h0 t1 k1 .byte (1 : Int32) [(.int x0)] (.int (0 : Int32))) (hr' : r = if p2 < 0 then -1 else if (255 : Int32) < p2 then -1 else (if x0 = (p2.toInt8.toInt32) then 0 else -1 : Int32)) :
    MetFree l (⟨"java/lang/String", "indexOf", "(II)I"⟩ : MethodName) (head1 (Jvm.Cond.code (⟨"java/lang/String", "indexOf", "(II)I"⟩ : MethodName) jdk_42_method_80_code 3 (some .int) :: ws) ({ frames := 2, cells := 0, slots := 0, locals := 32 } : Room)) (fun a U => a = #[(.ref a1), (.int p2), (.int (0 : Int32))] ∧ Z.Warmed39 U.vm ∧ U.heap = h0) (fun _ _ _ _ _ => True) (fun _ U o U' => ∃ v L, o = .returned v ∧ Q_rm_s2_1 Z a1 t1 k1 G1 p2 x0 r h0 n0 v U'.heap L ∧ FrameEnd U o U' L ({ frames := 2, cells := 0, slots := 0, locals := 32 } : Room).cells ({ frames := 2, cells := 0, slots := 0, locals := 32 } : Room).slots) := by
  refine MetFree.of_bodySF (plainFor_of_name pn_java_lang_String) hisR ?_
  intro p e s m args below meth c s₁ Bd hml0 hP hK
  obtain ⟨rfl, hZ, hh⟩ := hP
  have hx := Bd.exec
  have hby := Bd.bytes
  have hml : c.maxLocals = 3 := hml0
  have hown : s.vm.findClass "java/lang/String" = some m.cls := findClass_of_methodNamed Bd.named
  have hnm := (name_of_methodNamed Bd.named Bd.method).1
  have X0 : Stand p l e ({ frames := 2, cells := 0, slots := 0, locals := 32 } : Room) s m #[(.ref a1), (.int p2), (.int (0 : Int32))] below meth c s₁ [] 0 0 := Stand.of_body Bd
  have e0 : s₁.heap = h0 := by rw [← hh, Bd.state]; rfl
  have N0 := Fr.nil n0
  have pre0 : oL p e below s₁ (mkF m 0 #[oR a1, oI p2, oI 0] []) s₁ (entryFrame m #[(.ref a1), (.int p2), (.int (0 : Int32))] 3) := fun t k => castTop (by first | (simp [entryFrame, mkF, argsToLocals, Value.category]; done) | rfl) k
  have pre11 : oL p e below s₁ (mkF m 1 #[oR a1, oI p2, oI 0] [ow a1]) s₁ (entryFrame m #[(.ref a1), (.int p2), (.int (0 : Int32))] 3) := fun t k => pre0 t (by
    refine XS.aloadN X0.here hx rfl (hb hby d14_0) rfl rfl ?_
    exact k)
  obtain ⟨cq12, kq12, q12a, q12b, q12c⟩ := isOf hZ e0 E1
  obtain ⟨_, _, ⟨T12, L12, k12, n12⟩, -, X12, ⟨Lc12, hQ12, l12, y12, z12⟩, st12⟩ := X0.virtualBack hx (y := (⟨"java/lang/String", "isLatin1", "()Z"⟩ : MethodName)) (z := (⟨"java/lang/String", "isLatin1", "()Z"⟩ : MethodName)) hown (mvT hZ (oW hw 80 rfl)) (mvT hZ (oW hw 81 rfl)) (notFace_of_selects (args := #[]) (mvT hZ (oW hw 83 rfl))) (mvT hZ (oW hw 83 rfl)) (mvT hZ (oW hw 82 rfl)) (by decide) (backOf (W := 0) (rm_isLatin1 l Z a0 hw [] a1 t1 G1 h0 n0 OL O2 P5 E1 F1 F2) hZ (oW hw 84 rfl) (oW hw 2 rfl) (by decide) (by decide)) q12a q12c (g := (mkF m 1 #[oR a1, oI p2, oI 0] [ow a1])) rfl (by rw [hml]; rfl) (Steps.refl _) (argsL := []) (rest := []) (lenOf pd___Z rfl) rfl (by show 2 * 0 + _ ≤ _; exact Nat.le_of_eq rfl) (hb hby d14_1) (fun _ _ => ⟨rfl, e0, (by decide : 0 + 0 ≤ _), (by decide : 0 + 0 ≤ _)⟩)
  dsimp only [Pt.U, Pt.locs, Pt.cells, Pt.slots] at X12 l12 y12 z12 st12 hQ12
  subst l12 y12 z12
  obtain ⟨rfl, N12q, e12⟩ := hQ12
  have N12 := Fr.app N0 N12q
  have pre13 : oL p e below T12 (mkF m 8 #[oR a1, oI p2, oI 0] [ow a1]) s₁ (entryFrame m #[(.ref a1), (.int p2), (.int (0 : Int32))] 3) := fun t k => pre11 t (by
    refine st12.trans ?_
    refine XS.ifNo X12.here hx rfl (hb hby d14_4) rfl ((if0 _ _).trans (feq (by decide : ¬ ((1 : Int32) = (0 : Int32)))).1) ?_
    refine XS.aloadN X12.here hx rfl (hb hby d14_7) rfl rfl ?_
    show oS p e below T12 (mkF m 8 #[oR a1, oI p2, oI 0] [ow a1]) _
    exact k)
  obtain ⟨T14, X14, e14, st14⟩ := getF X12 hx hZ hown (host := "") (Or.inl (oW hw 28 rfl)) Via.refl e12 F1 (g := (mkF m 8 #[oR a1, oI p2, oI 0] [ow a1])) rfl rfl (hb hby d14_8)
  have pre15 : oL p e below T14 (mkF m 14 #[oR a1, oI p2, oI 0] [ow a1, oi 0, oi p2, ow t1]) s₁ (entryFrame m #[(.ref a1), (.int p2), (.int (0 : Int32))] 3) := fun t k => pre13 t (by
    refine st14 _ ?_
    refine XS.iloadN X14.here hx rfl (hb hby d14_11) rfl ?_
    refine XS.iloadN X14.here hx rfl (hb hby d14_12) rfl ?_
    refine XS.aloadN X14.here hx rfl (hb hby d14_13) rfl rfl ?_
    show oS p e below T14 (mkF m 14 #[oR a1, oI p2, oI 0] [ow a1, oi 0, oi p2, ow t1]) _
    exact k)
  obtain ⟨cq16, kq16, q16a, q16b, q16c⟩ := isOf hZ e14 E1
  obtain ⟨_, _, ⟨T16, L16, k16, n16⟩, -, X16, ⟨Lc16, hQ16, l16, y16, z16⟩, st16⟩ := X14.virtualBack hx (y := (⟨"java/lang/String", "length", "()I"⟩ : MethodName)) (z := (⟨"java/lang/String", "length", "()I"⟩ : MethodName)) hown (mvT hZ (oW hw 85 rfl)) (mvT hZ (oW hw 86 rfl)) (notFace_of_selects (args := #[]) (mvT hZ (oW hw 88 rfl))) (mvT hZ (oW hw 88 rfl)) (mvT hZ (oW hw 87 rfl)) (by decide) (backOf (W := 3) (rm_len1 l Z a0 hw [] a1 t1 k1 G1 x0 h0 n0 OL O2 P5 E1 F1 F2 V1) hZ (oW hw 89 rfl) (oW hw 2 rfl) (by decide) (by decide)) q16a q16c (g := (mkF m 14 #[oR a1, oI p2, oI 0] [ow a1, oi 0, oi p2, ow t1])) rfl (by rw [hml]; rfl) (Steps.refl _) (argsL := []) (rest := [(.int (0 : Int32)), (.int p2), (.ref t1)]) (lenOf pd___I rfl) rfl (by show 2 * 0 + _ ≤ _; exact Nat.le_of_eq rfl) (hb hby d14_14) (fun _ _ => ⟨rfl, e14, (by decide : 0 + 0 ≤ _), (by decide : 0 + 0 ≤ _)⟩)
  dsimp only [Pt.U, Pt.locs, Pt.cells, Pt.slots] at X16 l16 y16 z16 st16 hQ16
  subst l16 y16 z16
  obtain ⟨rfl, N16q, e16⟩ := hQ16
  have N16 := Fr.app N12 N16q
  have pre17 : oL p e below T16 (mkF m 17 #[oR a1, oI p2, oI 0] [oi 1, oi 0, oi p2, ow t1]) s₁ (entryFrame m #[(.ref a1), (.int p2), (.int (0 : Int32))] 3) := fun t k => pre15 t (by
    refine st16.trans ?_
    exact k)
  obtain ⟨_, _, ⟨T18, L18, k18, n18⟩, -, X18, ⟨Lc18, hQ18, l18, y18, z18⟩, st18⟩ := Jvm.LawKit.callS X16 hx (y := (⟨"java/lang/StringLatin1", "indexOf", "([BIII)I"⟩ : MethodName)) hown (mvT hZ (oW hw 95 rfl)) (mvT hZ (oW hw 96 rfl)) (mvT hZ (oW hw 97 rfl)) (mvT hZ (oW hw 98 rfl)) (by decide) (backOf (W := 0) (rm_io1 l Z a0 hw [] t1 k1 p2 x0 r h0 n0 OL V1 hr') hZ (oW hw 98 rfl) (oW hw 97 rfl) (by decide) (by decide)) (g := (mkF m 17 #[oR a1, oI p2, oI 0] [oi 1, oi 0, oi p2, ow t1])) rfl (by rw [hml]; rfl) (argsL := [(.ref t1), (.int p2), (.int (0 : Int32)), (.int (1 : Int32))]) (rest := []) (lenOf pd___BIII_I rfl) rfl (by show 2 * 0 + _ ≤ _; exact Nat.le_of_eq rfl) (hb hby d14_17) (fun _ _ => ⟨rfl, e16, (by decide : 0 + 0 ≤ _), (by decide : 0 + 0 ≤ _)⟩)
  dsimp only [Pt.U, Pt.locs, Pt.cells, Pt.slots] at X18 l18 y18 z18 st18 hQ18
  subst l18 y18 z18
  obtain ⟨rfl, N18q, e18⟩ := hQ18
  have N18 := Fr.app N16 N18q
  have pre19 : oL p e below T18 (mkF m 36 #[oR a1, oI p2, oI 0] [oi r]) s₁ (entryFrame m #[(.ref a1), (.int p2), (.int (0 : Int32))] 3) := fun t k => pre17 t (by
    refine st18 _ ?_
    refine XS.goto X18.here hx rfl (pc0 := 20) (pc' := 36) rfl (hb hby d14_20) (by decide) (by decide) ?_
    exact k)
  obtain ⟨fs, hr, hrun, hended, hW, hsame⟩ := X18.leave (v := some (.int r)) (fun h => by rw [Bd.returns] at h; cases h)
  refine ⟨_, _, pre19 _ ?_, hrun, hended, _, _, rfl, ?_, ⟨_, rfl⟩, hW, hsame.mono (by decide) (by decide)⟩
  ·
    show oS p e below T18 (mkF m 36 #[oR a1, oI p2, oI 0] [oi r]) _
    exact retI X18 hx Bd.returns (hb hby d14_36) hr
  ·
    show Q_rm_s2_1 Z a1 t1 k1 G1 p2 x0 r h0 n0 _ T18.heap _
    rw [e18]
    exact ⟨rfl, N18, rfl⟩
def Q_rm_s1_1 (Z : State) (a1 : Addr) (t1 : Addr) (k1 : ClassId) (G1 : Int32) (p2 : Int32) (x0 : Int32) (r : Int32) (h0 : Heap) (n0 : Nat) (v : Option Value) (h : Heap) (L : List Loc) : Prop := v = some (.int r) ∧ Fr n0 L ∧ h = h0
set_option maxRecDepth 65536 in
set_option maxHeartbeats 40000000 in
theorem rm_s1_1 (l : Launch) (Z : State) (a0 : Array Value) (hw : ∀ d ∈ tables_1, d.before a0 Z = true) (ws : List Jvm.Cond) (a1 : Addr) (t1 : Addr) (k1 : ClassId) (G1 : Int32) (p2 : Int32) (x0 : Int32) (r : Int32) (h0 : Heap) (n0 : Nat) (OL : Old Z n0 h0) (O2 : Sta Z Z.heap "java/lang/String" "COMPACT_STRINGS" "Z" (.int G1)) (P5 : ¬ (G1 = (0 : Int32))) (E1 : Exa Z h0 a1 "java/lang/String") (F1 : Fld Z h0 a1 "java/lang/String" "value" "[B" (.ref t1)) (F2 : Fld Z h0 a1 "java/lang/String" "coder" "B" (.int (0 : Int32))) (V1 : Arv Z h0 t1 k1 .byte (1 : Int32) [(.int x0)] (.int (0 : Int32))) (hr' : r = if p2 < 0 then -1 else if (255 : Int32) < p2 then -1 else (if x0 = (p2.toInt8.toInt32) then 0 else -1 : Int32)) :
    MetFree l (⟨"java/lang/String", "indexOf", "(I)I"⟩ : MethodName) (head1 (Jvm.Cond.code (⟨"java/lang/String", "indexOf", "(I)I"⟩ : MethodName) jdk_42_method_79_code 2 (some .int) :: ws) ({ frames := 3, cells := 0, slots := 0, locals := 46 } : Room)) (fun a U => a = #[(.ref a1), (.int p2)] ∧ Z.Warmed39 U.vm ∧ U.heap = h0) (fun _ _ _ _ _ => True) (fun _ U o U' => ∃ v L, o = .returned v ∧ Q_rm_s1_1 Z a1 t1 k1 G1 p2 x0 r h0 n0 v U'.heap L ∧ FrameEnd U o U' L ({ frames := 3, cells := 0, slots := 0, locals := 46 } : Room).cells ({ frames := 3, cells := 0, slots := 0, locals := 46 } : Room).slots) := by
  refine MetFree.of_bodySF (plainFor_of_name pn_java_lang_String) hisR ?_
  intro p e s m args below meth c s₁ Bd hml0 hP hK
  obtain ⟨rfl, hZ, hh⟩ := hP
  have hx := Bd.exec
  have hby := Bd.bytes
  have hml : c.maxLocals = 2 := hml0
  have hown : s.vm.findClass "java/lang/String" = some m.cls := findClass_of_methodNamed Bd.named
  have hnm := (name_of_methodNamed Bd.named Bd.method).1
  have X0 : Stand p l e ({ frames := 3, cells := 0, slots := 0, locals := 46 } : Room) s m #[(.ref a1), (.int p2)] below meth c s₁ [] 0 0 := Stand.of_body Bd
  have e0 : s₁.heap = h0 := by rw [← hh, Bd.state]; rfl
  have N0 := Fr.nil n0
  have pre0 : oL p e below s₁ (mkF m 0 #[oR a1, oI p2] []) s₁ (entryFrame m #[(.ref a1), (.int p2)] 2) := fun t k => castTop (by first | (simp [entryFrame, mkF, argsToLocals, Value.category]; done) | rfl) k
  have pre11 : oL p e below s₁ (mkF m 3 #[oR a1, oI p2] [oi 0, oi p2, ow a1]) s₁ (entryFrame m #[(.ref a1), (.int p2)] 2) := fun t k => pre0 t (by
    refine XS.aloadN X0.here hx rfl (hb hby d13_0) rfl rfl ?_
    refine XS.iloadN X0.here hx rfl (hb hby d13_1) rfl ?_
    refine XS.iconst X0.here hx rfl (hb hby d13_2) ?_
    exact k)
  obtain ⟨cq12, kq12, q12a, q12b, q12c⟩ := isOf hZ e0 E1
  obtain ⟨_, _, ⟨T12, L12, k12, n12⟩, -, X12, ⟨Lc12, hQ12, l12, y12, z12⟩, st12⟩ := X0.virtualBack hx (y := (⟨"java/lang/String", "indexOf", "(II)I"⟩ : MethodName)) (z := (⟨"java/lang/String", "indexOf", "(II)I"⟩ : MethodName)) hown (mvT hZ (oW hw 75 rfl)) (mvT hZ (oW hw 76 rfl)) (notFace_of_selects (args := #[]) (mvT hZ (oW hw 78 rfl))) (mvT hZ (oW hw 78 rfl)) (mvT hZ (oW hw 77 rfl)) (by decide) (backOf (W := 0) (rm_s2_1 l Z a0 hw [] a1 t1 k1 G1 p2 x0 r h0 n0 OL O2 P5 E1 F1 F2 V1 hr') hZ (oW hw 79 rfl) (oW hw 2 rfl) (by decide) (by decide)) q12a q12c (g := (mkF m 3 #[oR a1, oI p2] [oi 0, oi p2, ow a1])) rfl (by rw [hml]; rfl) (Steps.refl _) (argsL := [(.int p2), (.int (0 : Int32))]) (rest := []) (lenOf pd__II_I rfl) rfl (by show 2 * 0 + _ ≤ _; exact Nat.le_of_eq rfl) (hb hby d13_3) (fun _ _ => ⟨rfl, e0, (by decide : 0 + 0 ≤ _), (by decide : 0 + 0 ≤ _)⟩)
  dsimp only [Pt.U, Pt.locs, Pt.cells, Pt.slots] at X12 l12 y12 z12 st12 hQ12
  subst l12 y12 z12
  obtain ⟨rfl, N12q, e12⟩ := hQ12
  have N12 := Fr.app N0 N12q
  have pre13 : oL p e below T12 (mkF m 6 #[oR a1, oI p2] [oi r]) s₁ (entryFrame m #[(.ref a1), (.int p2)] 2) := fun t k => pre11 t (by
    refine st12.trans ?_
    show oS p e below T12 (mkF m 6 #[oR a1, oI p2] [oi r]) _
    exact k)
  obtain ⟨fs, hr, hrun, hended, hW, hsame⟩ := X12.leave (v := some (.int r)) (fun h => by rw [Bd.returns] at h; cases h)
  refine ⟨_, _, pre13 _ ?_, hrun, hended, _, _, rfl, ?_, ⟨_, rfl⟩, hW, hsame.mono (by decide) (by decide)⟩
  ·
    show oS p e below T12 (mkF m 6 #[oR a1, oI p2] [oi r]) _
    exact retI X12 hx Bd.returns (hb hby d13_6) hr
  ·
    show Q_rm_s1_1 Z a1 t1 k1 G1 p2 x0 r h0 n0 _ T12.heap _
    rw [e12]
    exact ⟨rfl, N12, rfl⟩
def Q_rm_al1 (Z : State) (o1 : Addr) (a1 : Addr) (t1 : Addr) (k1 : ClassId) (G1 : Int32) (p2 : Int32) (x0 : Int32) (r : Int32) (r2 : Int32) (h0 : Heap) (n0 : Nat) (v : Option Value) (h : Heap) (L : List Loc) : Prop := v = some (.int r2) ∧ Fr n0 L ∧ h = h0
set_option maxRecDepth 65536 in
set_option maxHeartbeats 40000000 in
theorem rm_al1 (l : Launch) (Z : State) (a0 : Array Value) (hw : ∀ d ∈ tables_1, d.before a0 Z = true) (ws : List Jvm.Cond) (o1 : Addr) (a1 : Addr) (t1 : Addr) (k1 : ClassId) (G1 : Int32) (p2 : Int32) (x0 : Int32) (r : Int32) (r2 : Int32) (h0 : Heap) (n0 : Nat) (OL : Old Z n0 h0) (O2 : Sta Z Z.heap "java/lang/String" "COMPACT_STRINGS" "Z" (.int G1)) (P5 : ¬ (G1 = (0 : Int32))) (E1 : Exa Z h0 a1 "java/lang/String") (F1 : Fld Z h0 a1 "java/lang/String" "value" "[B" (.ref t1)) (F2 : Fld Z h0 a1 "java/lang/String" "coder" "B" (.int (0 : Int32))) (V1 : Arv Z h0 t1 k1 .byte (1 : Int32) [(.int x0)] (.int (0 : Int32))) (hr' : r = if p2 < 0 then -1 else if (255 : Int32) < p2 then -1 else (if x0 = (p2.toInt8.toInt32) then 0 else -1 : Int32)) (FV : Fld Z h0 o1 "com/example/vedette/vedette/definition/PositionDefinition" "values" "Ljava/lang/String;" (.ref a1)) (hr2 : r2 = if r < 0 then 0 else 1) :
    MetFree l (⟨"com/example/vedette/vedette/definition/PositionDefinition", "allows", "(I)Z"⟩ : MethodName) (head1 (Jvm.Cond.code (⟨"com/example/vedette/vedette/definition/PositionDefinition", "allows", "(I)Z"⟩ : MethodName) prog_8_method_3_code 2 (some .boolean) :: ws) ({ frames := 4, cells := 0, slots := 0, locals := 59 } : Room)) (fun a U => a = #[(.ref o1), (.int p2)] ∧ Z.Warmed39 U.vm ∧ U.heap = h0) (fun _ _ _ _ _ => True) (fun _ U o U' => ∃ v L, o = .returned v ∧ Q_rm_al1 Z o1 a1 t1 k1 G1 p2 x0 r r2 h0 n0 v U'.heap L ∧ FrameEnd U o U' L ({ frames := 4, cells := 0, slots := 0, locals := 59 } : Room).cells ({ frames := 4, cells := 0, slots := 0, locals := 59 } : Room).slots) := by
  refine MetFree.of_bodySF (plainFor_of_name pn_com_example_vedette_vedette_definition_PositionDefinition) hisR ?_
  intro p e s m args below meth c s₁ Bd hml0 hP hK
  obtain ⟨rfl, hZ, hh⟩ := hP
  have hx := Bd.exec
  have hby := Bd.bytes
  have hml : c.maxLocals = 2 := hml0
  have hown : s.vm.findClass "com/example/vedette/vedette/definition/PositionDefinition" = some m.cls := findClass_of_methodNamed Bd.named
  have hnm := (name_of_methodNamed Bd.named Bd.method).1
  have X0 : Stand p l e ({ frames := 4, cells := 0, slots := 0, locals := 59 } : Room) s m #[(.ref o1), (.int p2)] below meth c s₁ [] 0 0 := Stand.of_body Bd
  have e0 : s₁.heap = h0 := by rw [← hh, Bd.state]; rfl
  have N0 := Fr.nil n0
  have pre0 : oL p e below s₁ (mkF m 0 #[oR o1, oI p2] []) s₁ (entryFrame m #[(.ref o1), (.int p2)] 2) := fun t k => castTop (by first | (simp [entryFrame, mkF, argsToLocals, Value.category]; done) | rfl) k
  have pre11 : oL p e below s₁ (mkF m 1 #[oR o1, oI p2] [ow o1]) s₁ (entryFrame m #[(.ref o1), (.int p2)] 2) := fun t k => pre0 t (by
    refine XS.aloadN X0.here hx rfl (hb hby d12_0) rfl rfl ?_
    exact k)
  obtain ⟨T12, X12, e12, st12⟩ := getF X0 hx hZ hown (host := "") (Or.inl (oW hw 61 rfl)) Via.refl e0 FV (g := (mkF m 1 #[oR o1, oI p2] [ow o1])) rfl rfl (hb hby d12_1)
  have pre13 : oL p e below T12 (mkF m 8 #[oR o1, oI p2] [ow o1]) s₁ (entryFrame m #[(.ref o1), (.int p2)] 2) := fun t k => pre11 t (by
    refine st12 _ ?_
    refine XS.ifnullNo X12.here hx rfl (hb hby d12_4) rfl ?_
    refine XS.aloadN X12.here hx rfl (hb hby d12_7) rfl rfl ?_
    show oS p e below T12 (mkF m 8 #[oR o1, oI p2] [ow o1]) _
    exact k)
  obtain ⟨T14, X14, e14, st14⟩ := getF X12 hx hZ hown (host := "") (Or.inl (oW hw 61 rfl)) Via.refl e12 FV (g := (mkF m 8 #[oR o1, oI p2] [ow o1])) rfl rfl (hb hby d12_8)
  have pre15 : oL p e below T14 (mkF m 12 #[oR o1, oI p2] [oi p2, ow a1]) s₁ (entryFrame m #[(.ref o1), (.int p2)] 2) := fun t k => pre13 t (by
    refine st14 _ ?_
    refine XS.iloadN X14.here hx rfl (hb hby d12_11) rfl ?_
    exact k)
  obtain ⟨cq16, kq16, q16a, q16b, q16c⟩ := isOf hZ e14 E1
  obtain ⟨_, _, ⟨T16, L16, k16, n16⟩, -, X16, ⟨Lc16, hQ16, l16, y16, z16⟩, st16⟩ := X14.virtualBack hx (y := (⟨"java/lang/String", "indexOf", "(I)I"⟩ : MethodName)) (z := (⟨"java/lang/String", "indexOf", "(I)I"⟩ : MethodName)) hown (mvT hZ (oW hw 70 rfl)) (mvT hZ (oW hw 71 rfl)) (notFace_of_selects (args := #[]) (mvT hZ (oW hw 73 rfl))) (mvT hZ (oW hw 73 rfl)) (mvT hZ (oW hw 72 rfl)) (by decide) (backOf (W := 0) (rm_s1_1 l Z a0 hw [] a1 t1 k1 G1 p2 x0 r h0 n0 OL O2 P5 E1 F1 F2 V1 hr') hZ (oW hw 74 rfl) (oW hw 2 rfl) (by decide) (by decide)) q16a q16c (g := (mkF m 12 #[oR o1, oI p2] [oi p2, ow a1])) rfl (by rw [hml]; rfl) (Steps.refl _) (argsL := [(.int p2)]) (rest := []) (lenOf pd__I_I rfl) rfl (by show 2 * 0 + _ ≤ _; exact Nat.le_of_eq rfl) (hb hby d12_12) (fun _ _ => ⟨rfl, e14, (by decide : 0 + 0 ≤ _), (by decide : 0 + 0 ≤ _)⟩)
  dsimp only [Pt.U, Pt.locs, Pt.cells, Pt.slots] at X16 l16 y16 z16 st16 hQ16
  subst l16 y16 z16
  obtain ⟨rfl, N16q, e16⟩ := hQ16
  have N16 := Fr.app N0 N16q
  have pre17 : oL p e below T16 (mkF m 15 #[oR o1, oI p2] [oi r]) s₁ (entryFrame m #[(.ref o1), (.int p2)] 2) := fun t k => pre15 t (by
    refine st16.trans ?_
    exact k)
  by_cases hc18 : r < (0 : Int32)
  ·
    have pre19 : oL p e below T16 (mkF m 23 #[oR o1, oI p2] [oi 0]) s₁ (entryFrame m #[(.ref o1), (.int p2)] 2) := fun t k => pre17 t (by
      refine XS.ifYes X16.here hx rfl (pc0 := 15) (pc' := 22) rfl (hb hby d12_15) rfl ((if0 _ _).trans (tlt hc18).1) (by decide) (by decide) ?_
      show oS p e below T16 (mkF m 22 #[oR o1, oI p2] []) _
      refine XS.iconst X16.here hx rfl (hb hby d12_22) ?_
      exact k)
    obtain ⟨fs, hr, hrun, hended, hW, hsame⟩ := X16.leave (v := some (.int (0 : Int32))) (fun h => by rw [Bd.returns] at h; cases h)
    refine ⟨_, _, pre19 _ ?_, hrun, hended, _, _, rfl, ?_, ⟨_, rfl⟩, hW, hsame.mono (by decide) (by decide)⟩
    ·
      show oS p e below T16 (mkF m 23 #[oR o1, oI p2] [oi 0]) _
      exact retN X16 hx (t := .boolean) Bd.returns (by simp) (hb hby d12_23) hr
    ·
      show Q_rm_al1 Z o1 a1 t1 k1 G1 p2 x0 r r2 h0 n0 _ T16.heap _
      rw [e16]
      exact ⟨by rw [hr2]; simp [hc18], N16, rfl⟩
  ·
    have pre20 : oL p e below T16 (mkF m 23 #[oR o1, oI p2] [oi 1]) s₁ (entryFrame m #[(.ref o1), (.int p2)] 2) := fun t k => pre17 t (by
      refine XS.ifNo X16.here hx rfl (hb hby d12_15) rfl ((if0 _ _).trans (flt hc18).1) ?_
      show oS p e below T16 (mkF m 18 #[oR o1, oI p2] []) _
      refine XS.iconst X16.here hx rfl (hb hby d12_18) ?_
      refine XS.goto X16.here hx rfl (pc0 := 19) (pc' := 23) rfl (hb hby d12_19) (by decide) (by decide) ?_
      exact k)
    obtain ⟨fs, hr, hrun, hended, hW, hsame⟩ := X16.leave (v := some (.int (1 : Int32))) (fun h => by rw [Bd.returns] at h; cases h)
    refine ⟨_, _, pre20 _ ?_, hrun, hended, _, _, rfl, ?_, ⟨_, rfl⟩, hW, hsame.mono (by decide) (by decide)⟩
    ·
      show oS p e below T16 (mkF m 23 #[oR o1, oI p2] [oi 1]) _
      exact retN X16 hx (t := .boolean) Bd.returns (by simp) (hb hby d12_23) hr
    ·
      show Q_rm_al1 Z o1 a1 t1 k1 G1 p2 x0 r r2 h0 n0 _ T16.heap _
      rw [e16]
      exact ⟨by rw [hr2]; simp [hc18], N16, rfl⟩
def Q_rm_min2 (Z : State)  (h0 : Heap) (n0 : Nat) (v : Option Value) (h : Heap) (L : List Loc) : Prop := v = some (.int (2 : Int32)) ∧ Fr n0 L ∧ h = h0
set_option maxRecDepth 65536 in
set_option maxHeartbeats 40000000 in
theorem rm_min2 (l : Launch) (Z : State) (a0 : Array Value) (hw : ∀ d ∈ tables_1, d.before a0 Z = true) (ws : List Jvm.Cond)  (h0 : Heap) (n0 : Nat) (OL : Old Z n0 h0) :
    MetFree l (⟨"java/lang/Math", "min", "(II)I"⟩ : MethodName) (head1 (Jvm.Cond.code (⟨"java/lang/Math", "min", "(II)I"⟩ : MethodName) jdk_29_method_69_code 2 (some .int) :: ws) ({ frames := 0, cells := 0, slots := 0, locals := 0 } : Room)) (fun a U => a = #[(.int (2 : Int32)), (.int (2 : Int32))] ∧ Z.Warmed39 U.vm ∧ U.heap = h0) (fun _ _ _ _ _ => True) (fun _ U o U' => ∃ v L, o = .returned v ∧ Q_rm_min2 Z  h0 n0 v U'.heap L ∧ FrameEnd U o U' L ({ frames := 0, cells := 0, slots := 0, locals := 0 } : Room).cells ({ frames := 0, cells := 0, slots := 0, locals := 0 } : Room).slots) := by
  refine MetFree.of_bodySF (Jvm.Free.JP.mathPlain rfl (by decide +kernel)) hisR ?_
  intro p e s m args below meth c s₁ Bd hml0 hP hK
  obtain ⟨rfl, hZ, hh⟩ := hP
  have hx := Bd.exec
  have hby := Bd.bytes
  have hml : c.maxLocals = 2 := hml0
  have hown : s.vm.findClass "java/lang/Math" = some m.cls := findClass_of_methodNamed Bd.named
  have hnm := (name_of_methodNamed Bd.named Bd.method).1
  have X0 : Stand p l e ({ frames := 0, cells := 0, slots := 0, locals := 0 } : Room) s m #[(.int (2 : Int32)), (.int (2 : Int32))] below meth c s₁ [] 0 0 := Stand.of_body Bd
  have e0 : s₁.heap = h0 := by rw [← hh, Bd.state]; rfl
  have N0 := Fr.nil n0
  have pre0 : oL p e below s₁ (mkF m 0 #[oI 2, oI 2] []) s₁ (entryFrame m #[(.int (2 : Int32)), (.int (2 : Int32))] 2) := fun t k => castTop (by first | (simp [entryFrame, mkF, argsToLocals, Value.category]; done) | rfl) k
  have pre11 : oL p e below s₁ (mkF m 10 #[oI 2, oI 2] [oi 2]) s₁ (entryFrame m #[(.int (2 : Int32)), (.int (2 : Int32))] 2) := fun t k => pre0 t (by
    refine XS.iloadN X0.here hx rfl (hb hby d21_0) rfl ?_
    refine XS.iloadN X0.here hx rfl (hb hby d21_1) rfl ?_
    refine XS.icmpNo X0.here hx rfl (hb hby d21_2) rfl (flt (by decide : ¬ ((2 : Int32) < (2 : Int32)))).2.2.1 ?_
    refine XS.iloadN X0.here hx rfl (hb hby d21_5) rfl ?_
    show oS p e below s₁ (mkF m 6 #[oI 2, oI 2] [oi 2]) _
    refine XS.goto X0.here hx rfl (pc0 := 6) (pc' := 10) rfl (hb hby d21_6) (by decide) (by decide) ?_
    exact k)
  obtain ⟨fs, hr, hrun, hended, hW, hsame⟩ := X0.leave (v := some (.int (2 : Int32))) (fun h => by rw [Bd.returns] at h; cases h)
  refine ⟨_, _, pre11 _ ?_, hrun, hended, _, _, rfl, ?_, ⟨_, rfl⟩, hW, hsame.mono (by decide) (by decide)⟩
  ·
    show oS p e below s₁ (mkF m 10 #[oI 2, oI 2] [oi 2]) _
    exact retI X0 hx Bd.returns (hb hby d21_10) hr
  ·
    show Q_rm_min2 Z  h0 n0 _ s₁.heap _
    rw [e0]
    exact ⟨rfl, N0, rfl⟩
def Q_rm_ioc2 (Z : State) (t1 : Addr) (k1 : ClassId) (p2 : Int32) (x0 : Int32) (x1 : Int32) (r : Int32) (h0 : Heap) (n0 : Nat) (v : Option Value) (h : Heap) (L : List Loc) : Prop := v = some (.int r) ∧ Fr n0 L ∧ h = h0
set_option maxRecDepth 65536 in
set_option maxHeartbeats 40000000 in
theorem rm_ioc2 (l : Launch) (Z : State) (a0 : Array Value) (hw : ∀ d ∈ tables_1, d.before a0 Z = true) (ws : List Jvm.Cond) (t1 : Addr) (k1 : ClassId) (p2 : Int32) (x0 : Int32) (x1 : Int32) (r : Int32) (h0 : Heap) (n0 : Nat) (OL : Old Z n0 h0) (V1 : Arv Z h0 t1 k1 .byte (2 : Int32) [(.int x0), (.int x1)] (.int (0 : Int32))) (hr' : r = if x0 = (p2.toInt8.toInt32) then 0 else if x1 = (p2.toInt8.toInt32) then 1 else -1) :
    MetFree l (⟨"java/lang/StringLatin1", "indexOfChar", "([BIII)I"⟩ : MethodName) (head1 (Jvm.Cond.code (⟨"java/lang/StringLatin1", "indexOfChar", "([BIII)I"⟩ : MethodName) jdk_43_method_23_code 6 (some .int) :: ws) ({ frames := 0, cells := 0, slots := 0, locals := 0 } : Room)) (fun a U => a = #[(.ref t1), (.int p2), (.int (0 : Int32)), (.int (2 : Int32))] ∧ Z.Warmed39 U.vm ∧ U.heap = h0) (fun _ _ _ _ _ => True) (fun _ U o U' => ∃ v L, o = .returned v ∧ Q_rm_ioc2 Z t1 k1 p2 x0 x1 r h0 n0 v U'.heap L ∧ FrameEnd U o U' L ({ frames := 0, cells := 0, slots := 0, locals := 0 } : Room).cells ({ frames := 0, cells := 0, slots := 0, locals := 0 } : Room).slots) := by
  refine MetFree.of_bodySF (plainFor_of_name pn_java_lang_StringLatin1) hisR ?_
  intro p e s m args below meth c s₁ Bd hml0 hP hK
  obtain ⟨rfl, hZ, hh⟩ := hP
  have hx := Bd.exec
  have hby := Bd.bytes
  have hml : c.maxLocals = 6 := hml0
  have hown : s.vm.findClass "java/lang/StringLatin1" = some m.cls := findClass_of_methodNamed Bd.named
  have hnm := (name_of_methodNamed Bd.named Bd.method).1
  have X0 : Stand p l e ({ frames := 0, cells := 0, slots := 0, locals := 0 } : Room) s m #[(.ref t1), (.int p2), (.int (0 : Int32)), (.int (2 : Int32))] below meth c s₁ [] 0 0 := Stand.of_body Bd
  have e0 : s₁.heap = h0 := by rw [← hh, Bd.state]; rfl
  have N0 := Fr.nil n0
  have pre0 : oL p e below s₁ (mkF m 0 #[oR t1, oI p2, oI 0, oI 2, oU, oU] []) s₁ (entryFrame m #[(.ref t1), (.int p2), (.int (0 : Int32)), (.int (2 : Int32))] 6) := fun t k => castTop (by first | (simp [entryFrame, mkF, argsToLocals, Value.category]; done) | rfl) k
  have pre11 : oL p e below s₁ (mkF m 16 #[oR t1, oI p2, oI 0, oI 2, oI (p2.toInt8.toInt32), oI 0] [oi 0, ow t1]) s₁ (entryFrame m #[(.ref t1), (.int p2), (.int (0 : Int32)), (.int (2 : Int32))] 6) := fun t k => pre0 t (by
    refine XS.iloadN X0.here hx rfl (hb hby d22_0) rfl ?_
    refine XS.i2b X0.here hx rfl (hb hby d22_1) rfl ?_
    refine XS.istore X0.here hx rfl (hb hby d22_2) rfl (l' := #[oR t1, oI p2, oI 0, oI 2, oI (p2.toInt8.toInt32), oU]) rfl ?_
    refine XS.iloadN X0.here hx rfl (hb hby d22_4) rfl ?_
    show oS p e below s₁ (mkF m 5 #[oR t1, oI p2, oI 0, oI 2, oI (p2.toInt8.toInt32), oU] [oi 0]) _
    refine XS.istore X0.here hx rfl (hb hby d22_5) rfl (l' := #[oR t1, oI p2, oI 0, oI 2, oI (p2.toInt8.toInt32), oI 0]) rfl ?_
    refine XS.iload X0.here hx rfl (hb hby d22_7) rfl ?_
    refine XS.iloadN X0.here hx rfl (hb hby d22_9) rfl ?_
    refine XS.icmpNo X0.here hx rfl (hb hby d22_10) rfl (tlt (by decide : (0 : Int32) < (2 : Int32))).2.1 ?_
    show oS p e below s₁ (mkF m 13 #[oR t1, oI p2, oI 0, oI 2, oI (p2.toInt8.toInt32), oI 0] []) _
    refine XS.aloadN X0.here hx rfl (hb hby d22_13) rfl rfl ?_
    refine XS.iload X0.here hx rfl (hb hby d22_14) rfl ?_
    exact k)
  obtain ⟨cl12, Ar12, qc12, Sz12, Nn12, Hs12, Gs12⟩ := id V1
  have hin12 := inb_of (j := (0 : Int32)) Sz12 ⟨by decide, by decide⟩
  have pre13 : oL p e below s₁ (mkF m 19 #[oR t1, oI p2, oI 0, oI 2, oI (p2.toInt8.toInt32), oI 0] [oi (p2.toInt8.toInt32), oi x0]) s₁ (entryFrame m #[(.ref t1), (.int p2), (.int (0 : Int32)), (.int (2 : Int32))] 6) := fun t k => pre11 t (by
    refine X0.baloadBytes hx (j := (0 : Int32)) (v := (.int x0)) (by rw [e0]; exact Ar12.1) (State.isArrayOf_alike hZ.alike Ar12.2.1) Ar12.2.2 hin12 (Hs12.at hin12 rfl) (g := (mkF m 16 #[oR t1, oI p2, oI 0, oI 2, oI (p2.toInt8.toInt32), oI 0] [oi 0, ow t1])) rfl rfl (hb hby d22_16) _ ?_
    refine XS.iload X0.here hx rfl (hb hby d22_17) rfl ?_
    show oS p e below s₁ (mkF m 19 #[oR t1, oI p2, oI 0, oI 2, oI (p2.toInt8.toInt32), oI 0] [oi (p2.toInt8.toInt32), oi x0]) _
    exact k)
  by_cases hc14 : x0 = (p2.toInt8.toInt32)
  ·
    have pre15 : oL p e below s₁ (mkF m 24 #[oR t1, oI p2, oI 0, oI 2, oI (p2.toInt8.toInt32), oI 0] [oi 0]) s₁ (entryFrame m #[(.ref t1), (.int p2), (.int (0 : Int32)), (.int (2 : Int32))] 6) := fun t k => pre13 t (by
      refine XS.icmpNo X0.here hx rfl (hb hby d22_19) rfl (teq hc14).2 ?_
      refine XS.iload X0.here hx rfl (hb hby d22_22) rfl ?_
      exact k)
    obtain ⟨fs, hr, hrun, hended, hW, hsame⟩ := X0.leave (v := some (.int (0 : Int32))) (fun h => by rw [Bd.returns] at h; cases h)
    refine ⟨_, _, pre15 _ ?_, hrun, hended, _, _, rfl, ?_, ⟨_, rfl⟩, hW, hsame.mono (by decide) (by decide)⟩
    ·
      show oS p e below s₁ (mkF m 24 #[oR t1, oI p2, oI 0, oI 2, oI (p2.toInt8.toInt32), oI 0] [oi 0]) _
      exact retI X0 hx Bd.returns (hb hby d22_24) hr
    ·
      show Q_rm_ioc2 Z t1 k1 p2 x0 x1 r h0 n0 _ s₁.heap _
      rw [e0]
      exact ⟨by rw [hr']; simp [hc14], N0, rfl⟩
  ·
    have pre16 : oL p e below s₁ (mkF m 16 #[oR t1, oI p2, oI 0, oI 2, oI (p2.toInt8.toInt32), oI 1] [oi 1, ow t1]) s₁ (entryFrame m #[(.ref t1), (.int p2), (.int (0 : Int32)), (.int (2 : Int32))] 6) := fun t k => pre13 t (by
      refine XS.icmpYes X0.here hx rfl (pc0 := 19) (pc' := 25) rfl (hb hby d22_19) rfl (feq hc14).2 (by decide) (by decide) ?_
      refine XS.iinc X0.here hx rfl (hb hby d22_25) rfl (l' := #[oR t1, oI p2, oI 0, oI 2, oI (p2.toInt8.toInt32), oI 1]) rfl ?_
      refine XS.goto X0.here hx rfl (pc0 := 28) (pc' := 7) rfl (hb hby d22_28) (by decide) (by decide) ?_
      refine XS.iload X0.here hx rfl (hb hby d22_7) rfl ?_
      show oS p e below s₁ (mkF m 9 #[oR t1, oI p2, oI 0, oI 2, oI (p2.toInt8.toInt32), oI 1] [oi 1]) _
      refine XS.iloadN X0.here hx rfl (hb hby d22_9) rfl ?_
      refine XS.icmpNo X0.here hx rfl (hb hby d22_10) rfl (tlt (by decide : (1 : Int32) < (2 : Int32))).2.1 ?_
      refine XS.aloadN X0.here hx rfl (hb hby d22_13) rfl rfl ?_
      refine XS.iload X0.here hx rfl (hb hby d22_14) rfl ?_
      show oS p e below s₁ (mkF m 16 #[oR t1, oI p2, oI 0, oI 2, oI (p2.toInt8.toInt32), oI 1] [oi 1, ow t1]) _
      exact k)
    obtain ⟨cl17, Ar17, qc17, Sz17, Nn17, Hs17, Gs17⟩ := id V1
    have hin17 := inb_of (j := (1 : Int32)) Sz17 ⟨by decide, by decide⟩
    have pre18 : oL p e below s₁ (mkF m 19 #[oR t1, oI p2, oI 0, oI 2, oI (p2.toInt8.toInt32), oI 1] [oi (p2.toInt8.toInt32), oi x1]) s₁ (entryFrame m #[(.ref t1), (.int p2), (.int (0 : Int32)), (.int (2 : Int32))] 6) := fun t k => pre16 t (by
      refine X0.baloadBytes hx (j := (1 : Int32)) (v := (.int x1)) (by rw [e0]; exact Ar17.1) (State.isArrayOf_alike hZ.alike Ar17.2.1) Ar17.2.2 hin17 (Hs17.at hin17 rfl) (g := (mkF m 16 #[oR t1, oI p2, oI 0, oI 2, oI (p2.toInt8.toInt32), oI 1] [oi 1, ow t1])) rfl rfl (hb hby d22_16) _ ?_
      refine XS.iload X0.here hx rfl (hb hby d22_17) rfl ?_
      exact k)
    by_cases hc19 : x1 = (p2.toInt8.toInt32)
    ·
      have pre20 : oL p e below s₁ (mkF m 24 #[oR t1, oI p2, oI 0, oI 2, oI (p2.toInt8.toInt32), oI 1] [oi 1]) s₁ (entryFrame m #[(.ref t1), (.int p2), (.int (0 : Int32)), (.int (2 : Int32))] 6) := fun t k => pre18 t (by
        refine XS.icmpNo X0.here hx rfl (hb hby d22_19) rfl (teq hc19).2 ?_
        refine XS.iload X0.here hx rfl (hb hby d22_22) rfl ?_
        show oS p e below s₁ (mkF m 24 #[oR t1, oI p2, oI 0, oI 2, oI (p2.toInt8.toInt32), oI 1] [oi 1]) _
        exact k)
      obtain ⟨fs, hr, hrun, hended, hW, hsame⟩ := X0.leave (v := some (.int (1 : Int32))) (fun h => by rw [Bd.returns] at h; cases h)
      refine ⟨_, _, pre20 _ ?_, hrun, hended, _, _, rfl, ?_, ⟨_, rfl⟩, hW, hsame.mono (by decide) (by decide)⟩
      ·
        show oS p e below s₁ (mkF m 24 #[oR t1, oI p2, oI 0, oI 2, oI (p2.toInt8.toInt32), oI 1] [oi 1]) _
        exact retI X0 hx Bd.returns (hb hby d22_24) hr
      ·
        show Q_rm_ioc2 Z t1 k1 p2 x0 x1 r h0 n0 _ s₁.heap _
        rw [e0]
        exact ⟨by rw [hr']; simp [hc14, hc19], N0, rfl⟩
    ·
      have pre21 : oL p e below s₁ (mkF m 32 #[oR t1, oI p2, oI 0, oI 2, oI (p2.toInt8.toInt32), oI 2] [oi (-1)]) s₁ (entryFrame m #[(.ref t1), (.int p2), (.int (0 : Int32)), (.int (2 : Int32))] 6) := fun t k => pre18 t (by
        refine XS.icmpYes X0.here hx rfl (pc0 := 19) (pc' := 25) rfl (hb hby d22_19) rfl (feq hc19).2 (by decide) (by decide) ?_
        refine XS.iinc X0.here hx rfl (hb hby d22_25) rfl (l' := #[oR t1, oI p2, oI 0, oI 2, oI (p2.toInt8.toInt32), oI 2]) rfl ?_
        show oS p e below s₁ (mkF m 28 #[oR t1, oI p2, oI 0, oI 2, oI (p2.toInt8.toInt32), oI 2] []) _
        refine XS.goto X0.here hx rfl (pc0 := 28) (pc' := 7) rfl (hb hby d22_28) (by decide) (by decide) ?_
        refine XS.iload X0.here hx rfl (hb hby d22_7) rfl ?_
        refine XS.iloadN X0.here hx rfl (hb hby d22_9) rfl ?_
        refine XS.icmpYes X0.here hx rfl (pc0 := 10) (pc' := 31) rfl (hb hby d22_10) rfl (flt (by decide : ¬ ((2 : Int32) < (2 : Int32)))).2.1 (by decide) (by decide) ?_
        show oS p e below s₁ (mkF m 31 #[oR t1, oI p2, oI 0, oI 2, oI (p2.toInt8.toInt32), oI 2] []) _
        refine XS.iconst X0.here hx rfl (hb hby d22_31) ?_
        exact k)
      obtain ⟨fs, hr, hrun, hended, hW, hsame⟩ := X0.leave (v := some (.int (-1 : Int32))) (fun h => by rw [Bd.returns] at h; cases h)
      refine ⟨_, _, pre21 _ ?_, hrun, hended, _, _, rfl, ?_, ⟨_, rfl⟩, hW, hsame.mono (by decide) (by decide)⟩
      ·
        show oS p e below s₁ (mkF m 32 #[oR t1, oI p2, oI 0, oI 2, oI (p2.toInt8.toInt32), oI 2] [oi (-1)]) _
        exact retI X0 hx Bd.returns (hb hby d22_32) hr
      ·
        show Q_rm_ioc2 Z t1 k1 p2 x0 x1 r h0 n0 _ s₁.heap _
        rw [e0]
        exact ⟨by rw [hr']; simp [hc14, hc19], N0, rfl⟩
def Q_rm_io2 (Z : State) (t1 : Addr) (k1 : ClassId) (p2 : Int32) (x0 : Int32) (x1 : Int32) (r : Int32) (h0 : Heap) (n0 : Nat) (v : Option Value) (h : Heap) (L : List Loc) : Prop := v = some (.int r) ∧ Fr n0 L ∧ h = h0
set_option maxRecDepth 65536 in
set_option maxHeartbeats 40000000 in
theorem rm_io2 (l : Launch) (Z : State) (a0 : Array Value) (hw : ∀ d ∈ tables_1, d.before a0 Z = true) (ws : List Jvm.Cond) (t1 : Addr) (k1 : ClassId) (p2 : Int32) (x0 : Int32) (x1 : Int32) (r : Int32) (h0 : Heap) (n0 : Nat) (OL : Old Z n0 h0) (V1 : Arv Z h0 t1 k1 .byte (2 : Int32) [(.int x0), (.int x1)] (.int (0 : Int32))) (hr' : r = if p2 < 0 then -1 else if (255 : Int32) < p2 then -1 else (if x0 = (p2.toInt8.toInt32) then 0 else if x1 = (p2.toInt8.toInt32) then 1 else -1 : Int32)) :
    MetFree l (⟨"java/lang/StringLatin1", "indexOf", "([BIII)I"⟩ : MethodName) (head1 (Jvm.Cond.code (⟨"java/lang/StringLatin1", "indexOf", "([BIII)I"⟩ : MethodName) jdk_43_method_22_code 4 (some .int) :: ws) ({ frames := 1, cells := 0, slots := 0, locals := 17 } : Room)) (fun a U => a = #[(.ref t1), (.int p2), (.int (0 : Int32)), (.int (2 : Int32))] ∧ Z.Warmed39 U.vm ∧ U.heap = h0) (fun _ _ _ _ _ => True) (fun _ U o U' => ∃ v L, o = .returned v ∧ Q_rm_io2 Z t1 k1 p2 x0 x1 r h0 n0 v U'.heap L ∧ FrameEnd U o U' L ({ frames := 1, cells := 0, slots := 0, locals := 17 } : Room).cells ({ frames := 1, cells := 0, slots := 0, locals := 17 } : Room).slots) := by
  refine MetFree.of_bodySF (plainFor_of_name pn_java_lang_StringLatin1) hisR ?_
  intro p e s m args below meth c s₁ Bd hml0 hP hK
  obtain ⟨rfl, hZ, hh⟩ := hP
  have hx := Bd.exec
  have hby := Bd.bytes
  have hml : c.maxLocals = 4 := hml0
  have hown : s.vm.findClass "java/lang/StringLatin1" = some m.cls := findClass_of_methodNamed Bd.named
  have hnm := (name_of_methodNamed Bd.named Bd.method).1
  have X0 : Stand p l e ({ frames := 1, cells := 0, slots := 0, locals := 17 } : Room) s m #[(.ref t1), (.int p2), (.int (0 : Int32)), (.int (2 : Int32))] below meth c s₁ [] 0 0 := Stand.of_body Bd
  have e0 : s₁.heap = h0 := by rw [← hh, Bd.state]; rfl
  have N0 := Fr.nil n0
  have pre0 : oL p e below s₁ (mkF m 0 #[oR t1, oI p2, oI 0, oI 2] []) s₁ (entryFrame m #[(.ref t1), (.int p2), (.int (0 : Int32)), (.int (2 : Int32))] 4) := fun t k => castTop (by first | (simp [entryFrame, mkF, argsToLocals, Value.category]; done) | rfl) k
  have pre11 : oL p e below s₁ (mkF m 1 #[oR t1, oI p2, oI 0, oI 2] [oi p2]) s₁ (entryFrame m #[(.ref t1), (.int p2), (.int (0 : Int32)), (.int (2 : Int32))] 4) := fun t k => pre0 t (by
    refine XS.iloadN X0.here hx rfl (hb hby d18_0) rfl ?_
    exact k)
  obtain ⟨_, _, ⟨T12, L12, k12, n12⟩, -, X12, ⟨Lc12, hQ12, l12, y12, z12⟩, st12⟩ := Jvm.LawKit.callS X0 hx (y := (⟨"java/lang/StringLatin1", "canEncode", "(I)Z"⟩ : MethodName)) hown (mvT hZ (oW hw 99 rfl)) (mvT hZ (oW hw 100 rfl)) (mvT hZ (oW hw 97 rfl)) (mvT hZ (oW hw 101 rfl)) (by decide) (backOf (W := 0) (rm_can l Z a0 hw [] p2 (if p2 < 0 then 0 else if (255 : Int32) < p2 then 0 else 1) h0 n0 OL rfl) hZ (oW hw 101 rfl) (oW hw 97 rfl) (by decide) (by decide)) (g := (mkF m 1 #[oR t1, oI p2, oI 0, oI 2] [oi p2])) rfl (by rw [hml]; rfl) (argsL := [(.int p2)]) (rest := []) (lenOf pd__I_Z rfl) rfl (by show 2 * 0 + _ ≤ _; exact Nat.le_of_eq rfl) (hb hby d18_1) (fun _ _ => ⟨rfl, e0, (by decide : 0 + 0 ≤ _), (by decide : 0 + 0 ≤ _)⟩)
  dsimp only [Pt.U, Pt.locs, Pt.cells, Pt.slots] at X12 l12 y12 z12 st12 hQ12
  subst l12 y12 z12
  obtain ⟨rfl, N12q, e12⟩ := hQ12
  have N12 := Fr.app N0 N12q
  have pre13 : oL p e below T12 (mkF m 4 #[oR t1, oI p2, oI 0, oI 2] [oi (if p2 < 0 then 0 else if (255 : Int32) < p2 then 0 else 1)]) s₁ (entryFrame m #[(.ref t1), (.int p2), (.int (0 : Int32)), (.int (2 : Int32))] 4) := fun t k => pre11 t (by
    refine st12 _ ?_
    exact k)
  by_cases hc14 : (if p2 < 0 then 0 else if (255 : Int32) < p2 then 0 else 1) = (0 : Int32)
  ·
    have pre15 : oL p e below T12 (mkF m 8 #[oR t1, oI p2, oI 0, oI 2] [oi (-1)]) s₁ (entryFrame m #[(.ref t1), (.int p2), (.int (0 : Int32)), (.int (2 : Int32))] 4) := fun t k => pre13 t (by
      refine XS.ifNo X12.here hx rfl (hb hby d18_4) rfl ((if0 _ _).trans (teq hc14).2) ?_
      refine XS.iconst X12.here hx rfl (hb hby d18_7) ?_
      show oS p e below T12 (mkF m 8 #[oR t1, oI p2, oI 0, oI 2] [oi (-1)]) _
      exact k)
    obtain ⟨fs, hr, hrun, hended, hW, hsame⟩ := X12.leave (v := some (.int (-1 : Int32))) (fun h => by rw [Bd.returns] at h; cases h)
    refine ⟨_, _, pre15 _ ?_, hrun, hended, _, _, rfl, ?_, ⟨_, rfl⟩, hW, hsame.mono (by decide) (by decide)⟩
    ·
      show oS p e below T12 (mkF m 8 #[oR t1, oI p2, oI 0, oI 2] [oi (-1)]) _
      exact retI X12 hx Bd.returns (hb hby d18_8) hr
    ·
      show Q_rm_io2 Z t1 k1 p2 x0 x1 r h0 n0 _ T12.heap _
      rw [e12]
      exact ⟨by rw [hr', own_can0 hc14], N12, rfl⟩
  ·
    have pre16 : oL p e below T12 (mkF m 11 #[oR t1, oI p2, oI 0, oI 2] [oi 0, oi 0]) s₁ (entryFrame m #[(.ref t1), (.int p2), (.int (0 : Int32)), (.int (2 : Int32))] 4) := fun t k => pre13 t (by
      refine XS.ifYes X12.here hx rfl (pc0 := 4) (pc' := 9) rfl (hb hby d18_4) rfl ((if0 _ _).trans (feq hc14).2) (by decide) (by decide) ?_
      refine XS.iloadN X12.here hx rfl (hb hby d18_9) rfl ?_
      show oS p e below T12 (mkF m 10 #[oR t1, oI p2, oI 0, oI 2] [oi 0]) _
      refine XS.iconst X12.here hx rfl (hb hby d18_10) ?_
      exact k)
    obtain ⟨_, _, ⟨T17, L17, k17, n17⟩, -, X17, ⟨Lc17, hQ17, l17, y17, z17⟩, st17⟩ := Jvm.LawKit.callS X12 hx (y := (⟨"java/lang/Math", "max", "(II)I"⟩ : MethodName)) hown (mvT hZ (oW hw 102 rfl)) (mvT hZ (oW hw 103 rfl)) (mvT hZ (oW hw 104 rfl)) (mvT hZ (oW hw 105 rfl)) (by decide) (backOf (W := 0) (rm_max l Z a0 hw []  h0 n0 OL ) hZ (oW hw 105 rfl) (oW hw 104 rfl) (by decide) (by decide)) (g := (mkF m 11 #[oR t1, oI p2, oI 0, oI 2] [oi 0, oi 0])) rfl (by rw [hml]; rfl) (argsL := [(.int (0 : Int32)), (.int (0 : Int32))]) (rest := []) (lenOf pd__II_I rfl) rfl (by show 2 * 0 + _ ≤ _; exact Nat.le_of_eq rfl) (hb hby d18_11) (fun _ _ => ⟨rfl, e12, (by decide : 0 + 0 ≤ _), (by decide : 0 + 0 ≤ _)⟩)
    dsimp only [Pt.U, Pt.locs, Pt.cells, Pt.slots] at X17 l17 y17 z17 st17 hQ17
    subst l17 y17 z17
    obtain ⟨rfl, N17q, e17⟩ := hQ17
    have N17 := Fr.app N12 N17q
    have pre19 : oL p e below T17 (mkF m 17 #[oR t1, oI p2, oI 0, oI 2] [ow t1, oi 2]) s₁ (entryFrame m #[(.ref t1), (.int p2), (.int (0 : Int32)), (.int (2 : Int32))] 4) := fun t k => pre16 t (by
      refine st17 _ ?_
      refine XS.istoreN X17.here hx rfl (hb hby d18_14) rfl (l' := #[oR t1, oI p2, oI 0, oI 2]) rfl ?_
      refine XS.iloadN X17.here hx rfl (hb hby d18_15) rfl ?_
      show oS p e below T17 (mkF m 16 #[oR t1, oI p2, oI 0, oI 2] [oi 2]) _
      refine XS.aloadN X17.here hx rfl (hb hby d18_16) rfl rfl ?_
      exact k)
    obtain ⟨cl18, Ar18, -, Sz18, Nn18, -, -⟩ := id V1
    have pre20 : oL p e below T17 (mkF m 18 #[oR t1, oI p2, oI 0, oI 2] [oi 2, oi 2]) s₁ (entryFrame m #[(.ref t1), (.int p2), (.int (0 : Int32)), (.int (2 : Int32))] 4) := fun t k => pre19 t (by
      refine X17.arraylength hx (by rw [e17]; exact Ar18.1) (State.isArrayOf_alike hZ.alike Ar18.2.1) (g := (mkF m 17 #[oR t1, oI p2, oI 0, oI 2] [ow t1, oi 2])) rfl rfl (hb hby d18_17) _ ?_
      rw [len_of Sz18 Nn18]
      exact k)
    obtain ⟨_, _, ⟨T21, L21, k21, n21⟩, -, X21, ⟨Lc21, hQ21, l21, y21, z21⟩, st21⟩ := Jvm.LawKit.callS X17 hx (y := (⟨"java/lang/Math", "min", "(II)I"⟩ : MethodName)) hown (mvT hZ (oW hw 106 rfl)) (mvT hZ (oW hw 107 rfl)) (mvT hZ (oW hw 104 rfl)) (mvT hZ (oW hw 108 rfl)) (by decide) (backOf (W := 0) (rm_min2 l Z a0 hw []  h0 n0 OL ) hZ (oW hw 108 rfl) (oW hw 104 rfl) (by decide) (by decide)) (g := (mkF m 18 #[oR t1, oI p2, oI 0, oI 2] [oi 2, oi 2])) rfl (by rw [hml]; rfl) (argsL := [(.int (2 : Int32)), (.int (2 : Int32))]) (rest := []) (lenOf pd__II_I rfl) rfl (by show 2 * 0 + _ ≤ _; exact Nat.le_of_eq rfl) (hb hby d18_18) (fun _ _ => ⟨rfl, e17, (by decide : 0 + 0 ≤ _), (by decide : 0 + 0 ≤ _)⟩)
    dsimp only [Pt.U, Pt.locs, Pt.cells, Pt.slots] at X21 l21 y21 z21 st21 hQ21
    subst l21 y21 z21
    obtain ⟨rfl, N21q, e21⟩ := hQ21
    have N21 := Fr.app N17 N21q
    have pre22 : oL p e below T21 (mkF m 33 #[oR t1, oI p2, oI 0, oI 2] [oi 2, oi 0, oi p2, ow t1]) s₁ (entryFrame m #[(.ref t1), (.int p2), (.int (0 : Int32)), (.int (2 : Int32))] 4) := fun t k => pre20 t (by
      refine st21 _ ?_
      refine XS.istoreN X21.here hx rfl (hb hby d18_21) rfl (l' := #[oR t1, oI p2, oI 0, oI 2]) rfl ?_
      show oS p e below T21 (mkF m 22 #[oR t1, oI p2, oI 0, oI 2] []) _
      refine XS.iloadN X21.here hx rfl (hb hby d18_22) rfl ?_
      refine XS.iloadN X21.here hx rfl (hb hby d18_23) rfl ?_
      refine XS.icmpYes X21.here hx rfl (pc0 := 24) (pc' := 29) rfl (hb hby d18_24) rfl (tlt (by decide : (0 : Int32) < (2 : Int32))).1 (by decide) (by decide) ?_
      refine XS.aloadN X21.here hx rfl (hb hby d18_29) rfl rfl ?_
      show oS p e below T21 (mkF m 30 #[oR t1, oI p2, oI 0, oI 2] [ow t1]) _
      refine XS.iloadN X21.here hx rfl (hb hby d18_30) rfl ?_
      refine XS.iloadN X21.here hx rfl (hb hby d18_31) rfl ?_
      refine XS.iloadN X21.here hx rfl (hb hby d18_32) rfl ?_
      exact k)
    obtain ⟨_, _, ⟨T23, L23, k23, n23⟩, -, X23, ⟨Lc23, hQ23, l23, y23, z23⟩, st23⟩ := Jvm.LawKit.callS X21 hx (y := (⟨"java/lang/StringLatin1", "indexOfChar", "([BIII)I"⟩ : MethodName)) hown (mvT hZ (oW hw 109 rfl)) (mvT hZ (oW hw 110 rfl)) (mvT hZ (oW hw 97 rfl)) (mvT hZ (oW hw 111 rfl)) (by decide) (backOf (W := 0) (rm_ioc2 l Z a0 hw [] t1 k1 p2 x0 x1 (if x0 = (p2.toInt8.toInt32) then 0 else if x1 = (p2.toInt8.toInt32) then 1 else -1) h0 n0 OL V1 rfl) hZ (oW hw 111 rfl) (oW hw 97 rfl) (by decide) (by decide)) (g := (mkF m 33 #[oR t1, oI p2, oI 0, oI 2] [oi 2, oi 0, oi p2, ow t1])) rfl (by rw [hml]; rfl) (argsL := [(.ref t1), (.int p2), (.int (0 : Int32)), (.int (2 : Int32))]) (rest := []) (lenOf pd___BIII_I rfl) rfl (by show 2 * 0 + _ ≤ _; exact Nat.le_of_eq rfl) (hb hby d18_33) (fun _ _ => ⟨rfl, e21, (by decide : 0 + 0 ≤ _), (by decide : 0 + 0 ≤ _)⟩)
    dsimp only [Pt.U, Pt.locs, Pt.cells, Pt.slots] at X23 l23 y23 z23 st23 hQ23
    subst l23 y23 z23
    obtain ⟨rfl, N23q, e23⟩ := hQ23
    have N23 := Fr.app N21 N23q
    have pre24 : oL p e below T23 (mkF m 36 #[oR t1, oI p2, oI 0, oI 2] [oi (if x0 = (p2.toInt8.toInt32) then 0 else if x1 = (p2.toInt8.toInt32) then 1 else -1 : Int32)]) s₁ (entryFrame m #[(.ref t1), (.int p2), (.int (0 : Int32)), (.int (2 : Int32))] 4) := fun t k => pre22 t (by
      refine st23 _ ?_
      show oS p e below T23 (mkF m 36 #[oR t1, oI p2, oI 0, oI 2] [oi (if x0 = (p2.toInt8.toInt32) then 0 else if x1 = (p2.toInt8.toInt32) then 1 else -1 : Int32)]) _
      exact k)
    obtain ⟨fs, hr, hrun, hended, hW, hsame⟩ := X23.leave (v := some (.int (if x0 = (p2.toInt8.toInt32) then 0 else if x1 = (p2.toInt8.toInt32) then 1 else -1 : Int32))) (fun h => by rw [Bd.returns] at h; cases h)
    refine ⟨_, _, pre24 _ ?_, hrun, hended, _, _, rfl, ?_, ⟨_, rfl⟩, hW, hsame.mono (by decide) (by decide)⟩
    ·
      show oS p e below T23 (mkF m 36 #[oR t1, oI p2, oI 0, oI 2] [oi (if x0 = (p2.toInt8.toInt32) then 0 else if x1 = (p2.toInt8.toInt32) then 1 else -1 : Int32)]) _
      exact retI X23 hx Bd.returns (hb hby d18_36) hr
    ·
      show Q_rm_io2 Z t1 k1 p2 x0 x1 r h0 n0 _ T23.heap _
      rw [e23]
      exact ⟨by rw [hr', own_can1 hc14], N23, rfl⟩
def Q_rm_len2 (Z : State) (a1 : Addr) (t1 : Addr) (k1 : ClassId) (G1 : Int32) (x0 : Int32) (x1 : Int32) (h0 : Heap) (n0 : Nat) (v : Option Value) (h : Heap) (L : List Loc) : Prop := v = some (.int (2 : Int32)) ∧ Fr n0 L ∧ h = h0
set_option maxRecDepth 65536 in
set_option maxHeartbeats 40000000 in
theorem rm_len2 (l : Launch) (Z : State) (a0 : Array Value) (hw : ∀ d ∈ tables_1, d.before a0 Z = true) (ws : List Jvm.Cond) (a1 : Addr) (t1 : Addr) (k1 : ClassId) (G1 : Int32) (x0 : Int32) (x1 : Int32) (h0 : Heap) (n0 : Nat) (OL : Old Z n0 h0) (O2 : Sta Z Z.heap "java/lang/String" "COMPACT_STRINGS" "Z" (.int G1)) (P5 : ¬ (G1 = (0 : Int32))) (E1 : Exa Z h0 a1 "java/lang/String") (F1 : Fld Z h0 a1 "java/lang/String" "value" "[B" (.ref t1)) (F2 : Fld Z h0 a1 "java/lang/String" "coder" "B" (.int (0 : Int32))) (V1 : Arv Z h0 t1 k1 .byte (2 : Int32) [(.int x0), (.int x1)] (.int (0 : Int32))) :
    MetFree l (⟨"java/lang/String", "length", "()I"⟩ : MethodName) (head1 (Jvm.Cond.code (⟨"java/lang/String", "length", "()I"⟩ : MethodName) jdk_42_method_54_code 1 (some .int) :: ws) ({ frames := 1, cells := 0, slots := 0, locals := 13 } : Room)) (fun a U => a = #[(.ref a1)] ∧ Z.Warmed39 U.vm ∧ U.heap = h0) (fun _ _ _ _ _ => True) (fun _ U o U' => ∃ v L, o = .returned v ∧ Q_rm_len2 Z a1 t1 k1 G1 x0 x1 h0 n0 v U'.heap L ∧ FrameEnd U o U' L ({ frames := 1, cells := 0, slots := 0, locals := 13 } : Room).cells ({ frames := 1, cells := 0, slots := 0, locals := 13 } : Room).slots) := by
  refine MetFree.of_bodySF (plainFor_of_name pn_java_lang_String) hisR ?_
  intro p e s m args below meth c s₁ Bd hml0 hP hK
  obtain ⟨rfl, hZ, hh⟩ := hP
  have hx := Bd.exec
  have hby := Bd.bytes
  have hml : c.maxLocals = 1 := hml0
  have hown : s.vm.findClass "java/lang/String" = some m.cls := findClass_of_methodNamed Bd.named
  have hnm := (name_of_methodNamed Bd.named Bd.method).1
  have X0 : Stand p l e ({ frames := 1, cells := 0, slots := 0, locals := 13 } : Room) s m #[(.ref a1)] below meth c s₁ [] 0 0 := Stand.of_body Bd
  have e0 : s₁.heap = h0 := by rw [← hh, Bd.state]; rfl
  have N0 := Fr.nil n0
  have pre0 : oL p e below s₁ (mkF m 0 #[oR a1] []) s₁ (entryFrame m #[(.ref a1)] 1) := fun t k => castTop (by first | (simp [entryFrame, mkF, argsToLocals, Value.category]; done) | rfl) k
  have pre11 : oL p e below s₁ (mkF m 1 #[oR a1] [ow a1]) s₁ (entryFrame m #[(.ref a1)] 1) := fun t k => pre0 t (by
    refine XS.aloadN X0.here hx rfl (hb hby d16_0) rfl rfl ?_
    exact k)
  obtain ⟨T12, X12, e12, st12⟩ := getF X0 hx hZ hown (host := "") (Or.inl (oW hw 28 rfl)) Via.refl e0 F1 (g := (mkF m 1 #[oR a1] [ow a1])) rfl rfl (hb hby d16_1)
  have pre14 : oL p e below T12 (mkF m 4 #[oR a1] [ow t1]) s₁ (entryFrame m #[(.ref a1)] 1) := fun t k => pre11 t (by
    refine st12 _ ?_
    exact k)
  obtain ⟨cl13, Ar13, -, Sz13, Nn13, -, -⟩ := id V1
  have pre15 : oL p e below T12 (mkF m 6 #[oR a1] [ow a1, oi 2]) s₁ (entryFrame m #[(.ref a1)] 1) := fun t k => pre14 t (by
    refine X12.arraylength hx (by rw [e12]; exact Ar13.1) (State.isArrayOf_alike hZ.alike Ar13.2.1) (g := (mkF m 4 #[oR a1] [ow t1])) rfl rfl (hb hby d16_4) _ ?_
    rw [len_of Sz13 Nn13]
    refine XS.aloadN X12.here hx rfl (hb hby d16_5) rfl rfl ?_
    show oS p e below T12 (mkF m 6 #[oR a1] [ow a1, oi 2]) _
    exact k)
  obtain ⟨cq16, kq16, q16a, q16b, q16c⟩ := isOf hZ e12 E1
  obtain ⟨_, _, ⟨T16, L16, k16, n16⟩, -, X16, ⟨Lc16, hQ16, l16, y16, z16⟩, st16⟩ := X12.virtualBack hx (y := (⟨"java/lang/String", "coder", "()B"⟩ : MethodName)) (z := (⟨"java/lang/String", "coder", "()B"⟩ : MethodName)) hown (mvT hZ (oW hw 90 rfl)) (mvT hZ (oW hw 91 rfl)) (notFace_of_selects (args := #[]) (mvT hZ (oW hw 93 rfl))) (mvT hZ (oW hw 93 rfl)) (mvT hZ (oW hw 92 rfl)) (by decide) (backOf (W := 1) (rm_coder l Z a0 hw [] a1 t1 G1 h0 n0 OL O2 P5 E1 F1 F2) hZ (oW hw 94 rfl) (oW hw 2 rfl) (by decide) (by decide)) q16a q16c (g := (mkF m 6 #[oR a1] [ow a1, oi 2])) rfl (by rw [hml]; rfl) (Steps.refl _) (argsL := []) (rest := [(.int (2 : Int32))]) (lenOf pd___B rfl) rfl (by show 2 * 0 + _ ≤ _; exact Nat.le_of_eq rfl) (hb hby d16_6) (fun _ _ => ⟨rfl, e12, (by decide : 0 + 0 ≤ _), (by decide : 0 + 0 ≤ _)⟩)
  dsimp only [Pt.U, Pt.locs, Pt.cells, Pt.slots] at X16 l16 y16 z16 st16 hQ16
  subst l16 y16 z16
  obtain ⟨rfl, N16q, e16⟩ := hQ16
  have N16 := Fr.app N0 N16q
  have pre17 : oL p e below T16 (mkF m 10 #[oR a1] [oi 2]) s₁ (entryFrame m #[(.ref a1)] 1) := fun t k => pre15 t (by
    refine st16.trans ?_
    refine XS.ishr X16.here hx rfl (hb hby d16_9) rfl ?_
    exact k)
  obtain ⟨fs, hr, hrun, hended, hW, hsame⟩ := X16.leave (v := some (.int (2 : Int32))) (fun h => by rw [Bd.returns] at h; cases h)
  refine ⟨_, _, pre17 _ ?_, hrun, hended, _, _, rfl, ?_, ⟨_, rfl⟩, hW, hsame.mono (by decide) (by decide)⟩
  ·
    show oS p e below T16 (mkF m 10 #[oR a1] [oi 2]) _
    exact retI X16 hx Bd.returns (hb hby d16_10) hr
  ·
    show Q_rm_len2 Z a1 t1 k1 G1 x0 x1 h0 n0 _ T16.heap _
    rw [e16]
    exact ⟨rfl, N16, rfl⟩
def Q_rm_s2_2 (Z : State) (a1 : Addr) (t1 : Addr) (k1 : ClassId) (G1 : Int32) (p2 : Int32) (x0 : Int32) (x1 : Int32) (r : Int32) (h0 : Heap) (n0 : Nat) (v : Option Value) (h : Heap) (L : List Loc) : Prop := v = some (.int r) ∧ Fr n0 L ∧ h = h0
set_option maxRecDepth 65536 in
set_option maxHeartbeats 40000000 in
theorem rm_s2_2 (l : Launch) (Z : State) (a0 : Array Value) (hw : ∀ d ∈ tables_1, d.before a0 Z = true) (ws : List Jvm.Cond) (a1 : Addr) (t1 : Addr) (k1 : ClassId) (G1 : Int32) (p2 : Int32) (x0 : Int32) (x1 : Int32) (r : Int32) (h0 : Heap) (n0 : Nat) (OL : Old Z n0 h0) (O2 : Sta Z Z.heap "java/lang/String" "COMPACT_STRINGS" "Z" (.int G1)) (P5 : ¬ (G1 = (0 : Int32))) (E1 : Exa Z h0 a1 "java/lang/String") (F1 : Fld Z h0 a1 "java/lang/String" "value" "[B" (.ref t1)) (F2 : Fld Z h0 a1 "java/lang/String" "coder" "B" (.int (0 : Int32))) (V1 : Arv Z h0 t1 k1 .byte (2 : Int32) [(.int x0), (.int x1)] (.int (0 : Int32))) (hr' : r = if p2 < 0 then -1 else if (255 : Int32) < p2 then -1 else (if x0 = (p2.toInt8.toInt32) then 0 else if x1 = (p2.toInt8.toInt32) then 1 else -1 : Int32)) :
    MetFree l (⟨"java/lang/String", "indexOf", "(II)I"⟩ : MethodName) (head1 (Jvm.Cond.code (⟨"java/lang/String", "indexOf", "(II)I"⟩ : MethodName) jdk_42_method_80_code 3 (some .int) :: ws) ({ frames := 2, cells := 0, slots := 0, locals := 32 } : Room)) (fun a U => a = #[(.ref a1), (.int p2), (.int (0 : Int32))] ∧ Z.Warmed39 U.vm ∧ U.heap = h0) (fun _ _ _ _ _ => True) (fun _ U o U' => ∃ v L, o = .returned v ∧ Q_rm_s2_2 Z a1 t1 k1 G1 p2 x0 x1 r h0 n0 v U'.heap L ∧ FrameEnd U o U' L ({ frames := 2, cells := 0, slots := 0, locals := 32 } : Room).cells ({ frames := 2, cells := 0, slots := 0, locals := 32 } : Room).slots) := by
  refine MetFree.of_bodySF (plainFor_of_name pn_java_lang_String) hisR ?_
  intro p e s m args below meth c s₁ Bd hml0 hP hK
  obtain ⟨rfl, hZ, hh⟩ := hP
  have hx := Bd.exec
  have hby := Bd.bytes
  have hml : c.maxLocals = 3 := hml0
  have hown : s.vm.findClass "java/lang/String" = some m.cls := findClass_of_methodNamed Bd.named
  have hnm := (name_of_methodNamed Bd.named Bd.method).1
  have X0 : Stand p l e ({ frames := 2, cells := 0, slots := 0, locals := 32 } : Room) s m #[(.ref a1), (.int p2), (.int (0 : Int32))] below meth c s₁ [] 0 0 := Stand.of_body Bd
  have e0 : s₁.heap = h0 := by rw [← hh, Bd.state]; rfl
  have N0 := Fr.nil n0
  have pre0 : oL p e below s₁ (mkF m 0 #[oR a1, oI p2, oI 0] []) s₁ (entryFrame m #[(.ref a1), (.int p2), (.int (0 : Int32))] 3) := fun t k => castTop (by first | (simp [entryFrame, mkF, argsToLocals, Value.category]; done) | rfl) k
  have pre11 : oL p e below s₁ (mkF m 1 #[oR a1, oI p2, oI 0] [ow a1]) s₁ (entryFrame m #[(.ref a1), (.int p2), (.int (0 : Int32))] 3) := fun t k => pre0 t (by
    refine XS.aloadN X0.here hx rfl (hb hby d14_0) rfl rfl ?_
    exact k)
  obtain ⟨cq12, kq12, q12a, q12b, q12c⟩ := isOf hZ e0 E1
  obtain ⟨_, _, ⟨T12, L12, k12, n12⟩, -, X12, ⟨Lc12, hQ12, l12, y12, z12⟩, st12⟩ := X0.virtualBack hx (y := (⟨"java/lang/String", "isLatin1", "()Z"⟩ : MethodName)) (z := (⟨"java/lang/String", "isLatin1", "()Z"⟩ : MethodName)) hown (mvT hZ (oW hw 80 rfl)) (mvT hZ (oW hw 81 rfl)) (notFace_of_selects (args := #[]) (mvT hZ (oW hw 83 rfl))) (mvT hZ (oW hw 83 rfl)) (mvT hZ (oW hw 82 rfl)) (by decide) (backOf (W := 0) (rm_isLatin1 l Z a0 hw [] a1 t1 G1 h0 n0 OL O2 P5 E1 F1 F2) hZ (oW hw 84 rfl) (oW hw 2 rfl) (by decide) (by decide)) q12a q12c (g := (mkF m 1 #[oR a1, oI p2, oI 0] [ow a1])) rfl (by rw [hml]; rfl) (Steps.refl _) (argsL := []) (rest := []) (lenOf pd___Z rfl) rfl (by show 2 * 0 + _ ≤ _; exact Nat.le_of_eq rfl) (hb hby d14_1) (fun _ _ => ⟨rfl, e0, (by decide : 0 + 0 ≤ _), (by decide : 0 + 0 ≤ _)⟩)
  dsimp only [Pt.U, Pt.locs, Pt.cells, Pt.slots] at X12 l12 y12 z12 st12 hQ12
  subst l12 y12 z12
  obtain ⟨rfl, N12q, e12⟩ := hQ12
  have N12 := Fr.app N0 N12q
  have pre13 : oL p e below T12 (mkF m 8 #[oR a1, oI p2, oI 0] [ow a1]) s₁ (entryFrame m #[(.ref a1), (.int p2), (.int (0 : Int32))] 3) := fun t k => pre11 t (by
    refine st12.trans ?_
    refine XS.ifNo X12.here hx rfl (hb hby d14_4) rfl ((if0 _ _).trans (feq (by decide : ¬ ((1 : Int32) = (0 : Int32)))).1) ?_
    refine XS.aloadN X12.here hx rfl (hb hby d14_7) rfl rfl ?_
    show oS p e below T12 (mkF m 8 #[oR a1, oI p2, oI 0] [ow a1]) _
    exact k)
  obtain ⟨T14, X14, e14, st14⟩ := getF X12 hx hZ hown (host := "") (Or.inl (oW hw 28 rfl)) Via.refl e12 F1 (g := (mkF m 8 #[oR a1, oI p2, oI 0] [ow a1])) rfl rfl (hb hby d14_8)
  have pre15 : oL p e below T14 (mkF m 14 #[oR a1, oI p2, oI 0] [ow a1, oi 0, oi p2, ow t1]) s₁ (entryFrame m #[(.ref a1), (.int p2), (.int (0 : Int32))] 3) := fun t k => pre13 t (by
    refine st14 _ ?_
    refine XS.iloadN X14.here hx rfl (hb hby d14_11) rfl ?_
    refine XS.iloadN X14.here hx rfl (hb hby d14_12) rfl ?_
    refine XS.aloadN X14.here hx rfl (hb hby d14_13) rfl rfl ?_
    show oS p e below T14 (mkF m 14 #[oR a1, oI p2, oI 0] [ow a1, oi 0, oi p2, ow t1]) _
    exact k)
  obtain ⟨cq16, kq16, q16a, q16b, q16c⟩ := isOf hZ e14 E1
  obtain ⟨_, _, ⟨T16, L16, k16, n16⟩, -, X16, ⟨Lc16, hQ16, l16, y16, z16⟩, st16⟩ := X14.virtualBack hx (y := (⟨"java/lang/String", "length", "()I"⟩ : MethodName)) (z := (⟨"java/lang/String", "length", "()I"⟩ : MethodName)) hown (mvT hZ (oW hw 85 rfl)) (mvT hZ (oW hw 86 rfl)) (notFace_of_selects (args := #[]) (mvT hZ (oW hw 88 rfl))) (mvT hZ (oW hw 88 rfl)) (mvT hZ (oW hw 87 rfl)) (by decide) (backOf (W := 3) (rm_len2 l Z a0 hw [] a1 t1 k1 G1 x0 x1 h0 n0 OL O2 P5 E1 F1 F2 V1) hZ (oW hw 89 rfl) (oW hw 2 rfl) (by decide) (by decide)) q16a q16c (g := (mkF m 14 #[oR a1, oI p2, oI 0] [ow a1, oi 0, oi p2, ow t1])) rfl (by rw [hml]; rfl) (Steps.refl _) (argsL := []) (rest := [(.int (0 : Int32)), (.int p2), (.ref t1)]) (lenOf pd___I rfl) rfl (by show 2 * 0 + _ ≤ _; exact Nat.le_of_eq rfl) (hb hby d14_14) (fun _ _ => ⟨rfl, e14, (by decide : 0 + 0 ≤ _), (by decide : 0 + 0 ≤ _)⟩)
  dsimp only [Pt.U, Pt.locs, Pt.cells, Pt.slots] at X16 l16 y16 z16 st16 hQ16
  subst l16 y16 z16
  obtain ⟨rfl, N16q, e16⟩ := hQ16
  have N16 := Fr.app N12 N16q
  have pre17 : oL p e below T16 (mkF m 17 #[oR a1, oI p2, oI 0] [oi 2, oi 0, oi p2, ow t1]) s₁ (entryFrame m #[(.ref a1), (.int p2), (.int (0 : Int32))] 3) := fun t k => pre15 t (by
    refine st16.trans ?_
    exact k)
  obtain ⟨_, _, ⟨T18, L18, k18, n18⟩, -, X18, ⟨Lc18, hQ18, l18, y18, z18⟩, st18⟩ := Jvm.LawKit.callS X16 hx (y := (⟨"java/lang/StringLatin1", "indexOf", "([BIII)I"⟩ : MethodName)) hown (mvT hZ (oW hw 95 rfl)) (mvT hZ (oW hw 96 rfl)) (mvT hZ (oW hw 97 rfl)) (mvT hZ (oW hw 98 rfl)) (by decide) (backOf (W := 0) (rm_io2 l Z a0 hw [] t1 k1 p2 x0 x1 r h0 n0 OL V1 hr') hZ (oW hw 98 rfl) (oW hw 97 rfl) (by decide) (by decide)) (g := (mkF m 17 #[oR a1, oI p2, oI 0] [oi 2, oi 0, oi p2, ow t1])) rfl (by rw [hml]; rfl) (argsL := [(.ref t1), (.int p2), (.int (0 : Int32)), (.int (2 : Int32))]) (rest := []) (lenOf pd___BIII_I rfl) rfl (by show 2 * 0 + _ ≤ _; exact Nat.le_of_eq rfl) (hb hby d14_17) (fun _ _ => ⟨rfl, e16, (by decide : 0 + 0 ≤ _), (by decide : 0 + 0 ≤ _)⟩)
  dsimp only [Pt.U, Pt.locs, Pt.cells, Pt.slots] at X18 l18 y18 z18 st18 hQ18
  subst l18 y18 z18
  obtain ⟨rfl, N18q, e18⟩ := hQ18
  have N18 := Fr.app N16 N18q
  have pre19 : oL p e below T18 (mkF m 36 #[oR a1, oI p2, oI 0] [oi r]) s₁ (entryFrame m #[(.ref a1), (.int p2), (.int (0 : Int32))] 3) := fun t k => pre17 t (by
    refine st18 _ ?_
    refine XS.goto X18.here hx rfl (pc0 := 20) (pc' := 36) rfl (hb hby d14_20) (by decide) (by decide) ?_
    exact k)
  obtain ⟨fs, hr, hrun, hended, hW, hsame⟩ := X18.leave (v := some (.int r)) (fun h => by rw [Bd.returns] at h; cases h)
  refine ⟨_, _, pre19 _ ?_, hrun, hended, _, _, rfl, ?_, ⟨_, rfl⟩, hW, hsame.mono (by decide) (by decide)⟩
  ·
    show oS p e below T18 (mkF m 36 #[oR a1, oI p2, oI 0] [oi r]) _
    exact retI X18 hx Bd.returns (hb hby d14_36) hr
  ·
    show Q_rm_s2_2 Z a1 t1 k1 G1 p2 x0 x1 r h0 n0 _ T18.heap _
    rw [e18]
    exact ⟨rfl, N18, rfl⟩
def Q_rm_s1_2 (Z : State) (a1 : Addr) (t1 : Addr) (k1 : ClassId) (G1 : Int32) (p2 : Int32) (x0 : Int32) (x1 : Int32) (r : Int32) (h0 : Heap) (n0 : Nat) (v : Option Value) (h : Heap) (L : List Loc) : Prop := v = some (.int r) ∧ Fr n0 L ∧ h = h0
set_option maxRecDepth 65536 in
set_option maxHeartbeats 40000000 in
theorem rm_s1_2 (l : Launch) (Z : State) (a0 : Array Value) (hw : ∀ d ∈ tables_1, d.before a0 Z = true) (ws : List Jvm.Cond) (a1 : Addr) (t1 : Addr) (k1 : ClassId) (G1 : Int32) (p2 : Int32) (x0 : Int32) (x1 : Int32) (r : Int32) (h0 : Heap) (n0 : Nat) (OL : Old Z n0 h0) (O2 : Sta Z Z.heap "java/lang/String" "COMPACT_STRINGS" "Z" (.int G1)) (P5 : ¬ (G1 = (0 : Int32))) (E1 : Exa Z h0 a1 "java/lang/String") (F1 : Fld Z h0 a1 "java/lang/String" "value" "[B" (.ref t1)) (F2 : Fld Z h0 a1 "java/lang/String" "coder" "B" (.int (0 : Int32))) (V1 : Arv Z h0 t1 k1 .byte (2 : Int32) [(.int x0), (.int x1)] (.int (0 : Int32))) (hr' : r = if p2 < 0 then -1 else if (255 : Int32) < p2 then -1 else (if x0 = (p2.toInt8.toInt32) then 0 else if x1 = (p2.toInt8.toInt32) then 1 else -1 : Int32)) :
    MetFree l (⟨"java/lang/String", "indexOf", "(I)I"⟩ : MethodName) (head1 (Jvm.Cond.code (⟨"java/lang/String", "indexOf", "(I)I"⟩ : MethodName) jdk_42_method_79_code 2 (some .int) :: ws) ({ frames := 3, cells := 0, slots := 0, locals := 46 } : Room)) (fun a U => a = #[(.ref a1), (.int p2)] ∧ Z.Warmed39 U.vm ∧ U.heap = h0) (fun _ _ _ _ _ => True) (fun _ U o U' => ∃ v L, o = .returned v ∧ Q_rm_s1_2 Z a1 t1 k1 G1 p2 x0 x1 r h0 n0 v U'.heap L ∧ FrameEnd U o U' L ({ frames := 3, cells := 0, slots := 0, locals := 46 } : Room).cells ({ frames := 3, cells := 0, slots := 0, locals := 46 } : Room).slots) := by
  refine MetFree.of_bodySF (plainFor_of_name pn_java_lang_String) hisR ?_
  intro p e s m args below meth c s₁ Bd hml0 hP hK
  obtain ⟨rfl, hZ, hh⟩ := hP
  have hx := Bd.exec
  have hby := Bd.bytes
  have hml : c.maxLocals = 2 := hml0
  have hown : s.vm.findClass "java/lang/String" = some m.cls := findClass_of_methodNamed Bd.named
  have hnm := (name_of_methodNamed Bd.named Bd.method).1
  have X0 : Stand p l e ({ frames := 3, cells := 0, slots := 0, locals := 46 } : Room) s m #[(.ref a1), (.int p2)] below meth c s₁ [] 0 0 := Stand.of_body Bd
  have e0 : s₁.heap = h0 := by rw [← hh, Bd.state]; rfl
  have N0 := Fr.nil n0
  have pre0 : oL p e below s₁ (mkF m 0 #[oR a1, oI p2] []) s₁ (entryFrame m #[(.ref a1), (.int p2)] 2) := fun t k => castTop (by first | (simp [entryFrame, mkF, argsToLocals, Value.category]; done) | rfl) k
  have pre11 : oL p e below s₁ (mkF m 3 #[oR a1, oI p2] [oi 0, oi p2, ow a1]) s₁ (entryFrame m #[(.ref a1), (.int p2)] 2) := fun t k => pre0 t (by
    refine XS.aloadN X0.here hx rfl (hb hby d13_0) rfl rfl ?_
    refine XS.iloadN X0.here hx rfl (hb hby d13_1) rfl ?_
    refine XS.iconst X0.here hx rfl (hb hby d13_2) ?_
    exact k)
  obtain ⟨cq12, kq12, q12a, q12b, q12c⟩ := isOf hZ e0 E1
  obtain ⟨_, _, ⟨T12, L12, k12, n12⟩, -, X12, ⟨Lc12, hQ12, l12, y12, z12⟩, st12⟩ := X0.virtualBack hx (y := (⟨"java/lang/String", "indexOf", "(II)I"⟩ : MethodName)) (z := (⟨"java/lang/String", "indexOf", "(II)I"⟩ : MethodName)) hown (mvT hZ (oW hw 75 rfl)) (mvT hZ (oW hw 76 rfl)) (notFace_of_selects (args := #[]) (mvT hZ (oW hw 78 rfl))) (mvT hZ (oW hw 78 rfl)) (mvT hZ (oW hw 77 rfl)) (by decide) (backOf (W := 0) (rm_s2_2 l Z a0 hw [] a1 t1 k1 G1 p2 x0 x1 r h0 n0 OL O2 P5 E1 F1 F2 V1 hr') hZ (oW hw 79 rfl) (oW hw 2 rfl) (by decide) (by decide)) q12a q12c (g := (mkF m 3 #[oR a1, oI p2] [oi 0, oi p2, ow a1])) rfl (by rw [hml]; rfl) (Steps.refl _) (argsL := [(.int p2), (.int (0 : Int32))]) (rest := []) (lenOf pd__II_I rfl) rfl (by show 2 * 0 + _ ≤ _; exact Nat.le_of_eq rfl) (hb hby d13_3) (fun _ _ => ⟨rfl, e0, (by decide : 0 + 0 ≤ _), (by decide : 0 + 0 ≤ _)⟩)
  dsimp only [Pt.U, Pt.locs, Pt.cells, Pt.slots] at X12 l12 y12 z12 st12 hQ12
  subst l12 y12 z12
  obtain ⟨rfl, N12q, e12⟩ := hQ12
  have N12 := Fr.app N0 N12q
  have pre13 : oL p e below T12 (mkF m 6 #[oR a1, oI p2] [oi r]) s₁ (entryFrame m #[(.ref a1), (.int p2)] 2) := fun t k => pre11 t (by
    refine st12.trans ?_
    show oS p e below T12 (mkF m 6 #[oR a1, oI p2] [oi r]) _
    exact k)
  obtain ⟨fs, hr, hrun, hended, hW, hsame⟩ := X12.leave (v := some (.int r)) (fun h => by rw [Bd.returns] at h; cases h)
  refine ⟨_, _, pre13 _ ?_, hrun, hended, _, _, rfl, ?_, ⟨_, rfl⟩, hW, hsame.mono (by decide) (by decide)⟩
  ·
    show oS p e below T12 (mkF m 6 #[oR a1, oI p2] [oi r]) _
    exact retI X12 hx Bd.returns (hb hby d13_6) hr
  ·
    show Q_rm_s1_2 Z a1 t1 k1 G1 p2 x0 x1 r h0 n0 _ T12.heap _
    rw [e12]
    exact ⟨rfl, N12, rfl⟩
def Q_rm_al2 (Z : State) (o1 : Addr) (a1 : Addr) (t1 : Addr) (k1 : ClassId) (G1 : Int32) (p2 : Int32) (x0 : Int32) (x1 : Int32) (r : Int32) (r2 : Int32) (h0 : Heap) (n0 : Nat) (v : Option Value) (h : Heap) (L : List Loc) : Prop := v = some (.int r2) ∧ Fr n0 L ∧ h = h0
set_option maxRecDepth 65536 in
set_option maxHeartbeats 40000000 in
theorem rm_al2 (l : Launch) (Z : State) (a0 : Array Value) (hw : ∀ d ∈ tables_1, d.before a0 Z = true) (ws : List Jvm.Cond) (o1 : Addr) (a1 : Addr) (t1 : Addr) (k1 : ClassId) (G1 : Int32) (p2 : Int32) (x0 : Int32) (x1 : Int32) (r : Int32) (r2 : Int32) (h0 : Heap) (n0 : Nat) (OL : Old Z n0 h0) (O2 : Sta Z Z.heap "java/lang/String" "COMPACT_STRINGS" "Z" (.int G1)) (P5 : ¬ (G1 = (0 : Int32))) (E1 : Exa Z h0 a1 "java/lang/String") (F1 : Fld Z h0 a1 "java/lang/String" "value" "[B" (.ref t1)) (F2 : Fld Z h0 a1 "java/lang/String" "coder" "B" (.int (0 : Int32))) (V1 : Arv Z h0 t1 k1 .byte (2 : Int32) [(.int x0), (.int x1)] (.int (0 : Int32))) (hr' : r = if p2 < 0 then -1 else if (255 : Int32) < p2 then -1 else (if x0 = (p2.toInt8.toInt32) then 0 else if x1 = (p2.toInt8.toInt32) then 1 else -1 : Int32)) (FV : Fld Z h0 o1 "com/example/vedette/vedette/definition/PositionDefinition" "values" "Ljava/lang/String;" (.ref a1)) (hr2 : r2 = if r < 0 then 0 else 1) :
    MetFree l (⟨"com/example/vedette/vedette/definition/PositionDefinition", "allows", "(I)Z"⟩ : MethodName) (head1 (Jvm.Cond.code (⟨"com/example/vedette/vedette/definition/PositionDefinition", "allows", "(I)Z"⟩ : MethodName) prog_8_method_3_code 2 (some .boolean) :: ws) ({ frames := 4, cells := 0, slots := 0, locals := 59 } : Room)) (fun a U => a = #[(.ref o1), (.int p2)] ∧ Z.Warmed39 U.vm ∧ U.heap = h0) (fun _ _ _ _ _ => True) (fun _ U o U' => ∃ v L, o = .returned v ∧ Q_rm_al2 Z o1 a1 t1 k1 G1 p2 x0 x1 r r2 h0 n0 v U'.heap L ∧ FrameEnd U o U' L ({ frames := 4, cells := 0, slots := 0, locals := 59 } : Room).cells ({ frames := 4, cells := 0, slots := 0, locals := 59 } : Room).slots) := by
  refine MetFree.of_bodySF (plainFor_of_name pn_com_example_vedette_vedette_definition_PositionDefinition) hisR ?_
  intro p e s m args below meth c s₁ Bd hml0 hP hK
  obtain ⟨rfl, hZ, hh⟩ := hP
  have hx := Bd.exec
  have hby := Bd.bytes
  have hml : c.maxLocals = 2 := hml0
  have hown : s.vm.findClass "com/example/vedette/vedette/definition/PositionDefinition" = some m.cls := findClass_of_methodNamed Bd.named
  have hnm := (name_of_methodNamed Bd.named Bd.method).1
  have X0 : Stand p l e ({ frames := 4, cells := 0, slots := 0, locals := 59 } : Room) s m #[(.ref o1), (.int p2)] below meth c s₁ [] 0 0 := Stand.of_body Bd
  have e0 : s₁.heap = h0 := by rw [← hh, Bd.state]; rfl
  have N0 := Fr.nil n0
  have pre0 : oL p e below s₁ (mkF m 0 #[oR o1, oI p2] []) s₁ (entryFrame m #[(.ref o1), (.int p2)] 2) := fun t k => castTop (by first | (simp [entryFrame, mkF, argsToLocals, Value.category]; done) | rfl) k
  have pre11 : oL p e below s₁ (mkF m 1 #[oR o1, oI p2] [ow o1]) s₁ (entryFrame m #[(.ref o1), (.int p2)] 2) := fun t k => pre0 t (by
    refine XS.aloadN X0.here hx rfl (hb hby d12_0) rfl rfl ?_
    exact k)
  obtain ⟨T12, X12, e12, st12⟩ := getF X0 hx hZ hown (host := "") (Or.inl (oW hw 61 rfl)) Via.refl e0 FV (g := (mkF m 1 #[oR o1, oI p2] [ow o1])) rfl rfl (hb hby d12_1)
  have pre13 : oL p e below T12 (mkF m 8 #[oR o1, oI p2] [ow o1]) s₁ (entryFrame m #[(.ref o1), (.int p2)] 2) := fun t k => pre11 t (by
    refine st12 _ ?_
    refine XS.ifnullNo X12.here hx rfl (hb hby d12_4) rfl ?_
    refine XS.aloadN X12.here hx rfl (hb hby d12_7) rfl rfl ?_
    show oS p e below T12 (mkF m 8 #[oR o1, oI p2] [ow o1]) _
    exact k)
  obtain ⟨T14, X14, e14, st14⟩ := getF X12 hx hZ hown (host := "") (Or.inl (oW hw 61 rfl)) Via.refl e12 FV (g := (mkF m 8 #[oR o1, oI p2] [ow o1])) rfl rfl (hb hby d12_8)
  have pre15 : oL p e below T14 (mkF m 12 #[oR o1, oI p2] [oi p2, ow a1]) s₁ (entryFrame m #[(.ref o1), (.int p2)] 2) := fun t k => pre13 t (by
    refine st14 _ ?_
    refine XS.iloadN X14.here hx rfl (hb hby d12_11) rfl ?_
    exact k)
  obtain ⟨cq16, kq16, q16a, q16b, q16c⟩ := isOf hZ e14 E1
  obtain ⟨_, _, ⟨T16, L16, k16, n16⟩, -, X16, ⟨Lc16, hQ16, l16, y16, z16⟩, st16⟩ := X14.virtualBack hx (y := (⟨"java/lang/String", "indexOf", "(I)I"⟩ : MethodName)) (z := (⟨"java/lang/String", "indexOf", "(I)I"⟩ : MethodName)) hown (mvT hZ (oW hw 70 rfl)) (mvT hZ (oW hw 71 rfl)) (notFace_of_selects (args := #[]) (mvT hZ (oW hw 73 rfl))) (mvT hZ (oW hw 73 rfl)) (mvT hZ (oW hw 72 rfl)) (by decide) (backOf (W := 0) (rm_s1_2 l Z a0 hw [] a1 t1 k1 G1 p2 x0 x1 r h0 n0 OL O2 P5 E1 F1 F2 V1 hr') hZ (oW hw 74 rfl) (oW hw 2 rfl) (by decide) (by decide)) q16a q16c (g := (mkF m 12 #[oR o1, oI p2] [oi p2, ow a1])) rfl (by rw [hml]; rfl) (Steps.refl _) (argsL := [(.int p2)]) (rest := []) (lenOf pd__I_I rfl) rfl (by show 2 * 0 + _ ≤ _; exact Nat.le_of_eq rfl) (hb hby d12_12) (fun _ _ => ⟨rfl, e14, (by decide : 0 + 0 ≤ _), (by decide : 0 + 0 ≤ _)⟩)
  dsimp only [Pt.U, Pt.locs, Pt.cells, Pt.slots] at X16 l16 y16 z16 st16 hQ16
  subst l16 y16 z16
  obtain ⟨rfl, N16q, e16⟩ := hQ16
  have N16 := Fr.app N0 N16q
  have pre17 : oL p e below T16 (mkF m 15 #[oR o1, oI p2] [oi r]) s₁ (entryFrame m #[(.ref o1), (.int p2)] 2) := fun t k => pre15 t (by
    refine st16.trans ?_
    exact k)
  by_cases hc18 : r < (0 : Int32)
  ·
    have pre19 : oL p e below T16 (mkF m 23 #[oR o1, oI p2] [oi 0]) s₁ (entryFrame m #[(.ref o1), (.int p2)] 2) := fun t k => pre17 t (by
      refine XS.ifYes X16.here hx rfl (pc0 := 15) (pc' := 22) rfl (hb hby d12_15) rfl ((if0 _ _).trans (tlt hc18).1) (by decide) (by decide) ?_
      show oS p e below T16 (mkF m 22 #[oR o1, oI p2] []) _
      refine XS.iconst X16.here hx rfl (hb hby d12_22) ?_
      exact k)
    obtain ⟨fs, hr, hrun, hended, hW, hsame⟩ := X16.leave (v := some (.int (0 : Int32))) (fun h => by rw [Bd.returns] at h; cases h)
    refine ⟨_, _, pre19 _ ?_, hrun, hended, _, _, rfl, ?_, ⟨_, rfl⟩, hW, hsame.mono (by decide) (by decide)⟩
    ·
      show oS p e below T16 (mkF m 23 #[oR o1, oI p2] [oi 0]) _
      exact retN X16 hx (t := .boolean) Bd.returns (by simp) (hb hby d12_23) hr
    ·
      show Q_rm_al2 Z o1 a1 t1 k1 G1 p2 x0 x1 r r2 h0 n0 _ T16.heap _
      rw [e16]
      exact ⟨by rw [hr2]; simp [hc18], N16, rfl⟩
  ·
    have pre20 : oL p e below T16 (mkF m 23 #[oR o1, oI p2] [oi 1]) s₁ (entryFrame m #[(.ref o1), (.int p2)] 2) := fun t k => pre17 t (by
      refine XS.ifNo X16.here hx rfl (hb hby d12_15) rfl ((if0 _ _).trans (flt hc18).1) ?_
      show oS p e below T16 (mkF m 18 #[oR o1, oI p2] []) _
      refine XS.iconst X16.here hx rfl (hb hby d12_18) ?_
      refine XS.goto X16.here hx rfl (pc0 := 19) (pc' := 23) rfl (hb hby d12_19) (by decide) (by decide) ?_
      exact k)
    obtain ⟨fs, hr, hrun, hended, hW, hsame⟩ := X16.leave (v := some (.int (1 : Int32))) (fun h => by rw [Bd.returns] at h; cases h)
    refine ⟨_, _, pre20 _ ?_, hrun, hended, _, _, rfl, ?_, ⟨_, rfl⟩, hW, hsame.mono (by decide) (by decide)⟩
    ·
      show oS p e below T16 (mkF m 23 #[oR o1, oI p2] [oi 1]) _
      exact retN X16 hx (t := .boolean) Bd.returns (by simp) (hb hby d12_23) hr
    ·
      show Q_rm_al2 Z o1 a1 t1 k1 G1 p2 x0 x1 r r2 h0 n0 _ T16.heap _
      rw [e16]
      exact ⟨by rw [hr2]; simp [hc18], N16, rfl⟩
def Q_rm_min3 (Z : State)  (h0 : Heap) (n0 : Nat) (v : Option Value) (h : Heap) (L : List Loc) : Prop := v = some (.int (3 : Int32)) ∧ Fr n0 L ∧ h = h0
set_option maxRecDepth 65536 in
set_option maxHeartbeats 40000000 in
theorem rm_min3 (l : Launch) (Z : State) (a0 : Array Value) (hw : ∀ d ∈ tables_1, d.before a0 Z = true) (ws : List Jvm.Cond)  (h0 : Heap) (n0 : Nat) (OL : Old Z n0 h0) :
    MetFree l (⟨"java/lang/Math", "min", "(II)I"⟩ : MethodName) (head1 (Jvm.Cond.code (⟨"java/lang/Math", "min", "(II)I"⟩ : MethodName) jdk_29_method_69_code 2 (some .int) :: ws) ({ frames := 0, cells := 0, slots := 0, locals := 0 } : Room)) (fun a U => a = #[(.int (3 : Int32)), (.int (3 : Int32))] ∧ Z.Warmed39 U.vm ∧ U.heap = h0) (fun _ _ _ _ _ => True) (fun _ U o U' => ∃ v L, o = .returned v ∧ Q_rm_min3 Z  h0 n0 v U'.heap L ∧ FrameEnd U o U' L ({ frames := 0, cells := 0, slots := 0, locals := 0 } : Room).cells ({ frames := 0, cells := 0, slots := 0, locals := 0 } : Room).slots) := by
  refine MetFree.of_bodySF (Jvm.Free.JP.mathPlain rfl (by decide +kernel)) hisR ?_
  intro p e s m args below meth c s₁ Bd hml0 hP hK
  obtain ⟨rfl, hZ, hh⟩ := hP
  have hx := Bd.exec
  have hby := Bd.bytes
  have hml : c.maxLocals = 2 := hml0
  have hown : s.vm.findClass "java/lang/Math" = some m.cls := findClass_of_methodNamed Bd.named
  have hnm := (name_of_methodNamed Bd.named Bd.method).1
  have X0 : Stand p l e ({ frames := 0, cells := 0, slots := 0, locals := 0 } : Room) s m #[(.int (3 : Int32)), (.int (3 : Int32))] below meth c s₁ [] 0 0 := Stand.of_body Bd
  have e0 : s₁.heap = h0 := by rw [← hh, Bd.state]; rfl
  have N0 := Fr.nil n0
  have pre0 : oL p e below s₁ (mkF m 0 #[oI 3, oI 3] []) s₁ (entryFrame m #[(.int (3 : Int32)), (.int (3 : Int32))] 2) := fun t k => castTop (by first | (simp [entryFrame, mkF, argsToLocals, Value.category]; done) | rfl) k
  have pre11 : oL p e below s₁ (mkF m 10 #[oI 3, oI 3] [oi 3]) s₁ (entryFrame m #[(.int (3 : Int32)), (.int (3 : Int32))] 2) := fun t k => pre0 t (by
    refine XS.iloadN X0.here hx rfl (hb hby d21_0) rfl ?_
    refine XS.iloadN X0.here hx rfl (hb hby d21_1) rfl ?_
    refine XS.icmpNo X0.here hx rfl (hb hby d21_2) rfl (flt (by decide : ¬ ((3 : Int32) < (3 : Int32)))).2.2.1 ?_
    refine XS.iloadN X0.here hx rfl (hb hby d21_5) rfl ?_
    show oS p e below s₁ (mkF m 6 #[oI 3, oI 3] [oi 3]) _
    refine XS.goto X0.here hx rfl (pc0 := 6) (pc' := 10) rfl (hb hby d21_6) (by decide) (by decide) ?_
    exact k)
  obtain ⟨fs, hr, hrun, hended, hW, hsame⟩ := X0.leave (v := some (.int (3 : Int32))) (fun h => by rw [Bd.returns] at h; cases h)
  refine ⟨_, _, pre11 _ ?_, hrun, hended, _, _, rfl, ?_, ⟨_, rfl⟩, hW, hsame.mono (by decide) (by decide)⟩
  ·
    show oS p e below s₁ (mkF m 10 #[oI 3, oI 3] [oi 3]) _
    exact retI X0 hx Bd.returns (hb hby d21_10) hr
  ·
    show Q_rm_min3 Z  h0 n0 _ s₁.heap _
    rw [e0]
    exact ⟨rfl, N0, rfl⟩
def Q_rm_ioc3 (Z : State) (t1 : Addr) (k1 : ClassId) (p2 : Int32) (x0 : Int32) (x1 : Int32) (x2 : Int32) (r : Int32) (h0 : Heap) (n0 : Nat) (v : Option Value) (h : Heap) (L : List Loc) : Prop := v = some (.int r) ∧ Fr n0 L ∧ h = h0
set_option maxRecDepth 65536 in
set_option maxHeartbeats 40000000 in
theorem rm_ioc3 (l : Launch) (Z : State) (a0 : Array Value) (hw : ∀ d ∈ tables_1, d.before a0 Z = true) (ws : List Jvm.Cond) (t1 : Addr) (k1 : ClassId) (p2 : Int32) (x0 : Int32) (x1 : Int32) (x2 : Int32) (r : Int32) (h0 : Heap) (n0 : Nat) (OL : Old Z n0 h0) (V1 : Arv Z h0 t1 k1 .byte (3 : Int32) [(.int x0), (.int x1), (.int x2)] (.int (0 : Int32))) (hr' : r = if x0 = (p2.toInt8.toInt32) then 0 else if x1 = (p2.toInt8.toInt32) then 1 else if x2 = (p2.toInt8.toInt32) then 2 else -1) :
    MetFree l (⟨"java/lang/StringLatin1", "indexOfChar", "([BIII)I"⟩ : MethodName) (head1 (Jvm.Cond.code (⟨"java/lang/StringLatin1", "indexOfChar", "([BIII)I"⟩ : MethodName) jdk_43_method_23_code 6 (some .int) :: ws) ({ frames := 0, cells := 0, slots := 0, locals := 0 } : Room)) (fun a U => a = #[(.ref t1), (.int p2), (.int (0 : Int32)), (.int (3 : Int32))] ∧ Z.Warmed39 U.vm ∧ U.heap = h0) (fun _ _ _ _ _ => True) (fun _ U o U' => ∃ v L, o = .returned v ∧ Q_rm_ioc3 Z t1 k1 p2 x0 x1 x2 r h0 n0 v U'.heap L ∧ FrameEnd U o U' L ({ frames := 0, cells := 0, slots := 0, locals := 0 } : Room).cells ({ frames := 0, cells := 0, slots := 0, locals := 0 } : Room).slots) := by
  refine MetFree.of_bodySF (plainFor_of_name pn_java_lang_StringLatin1) hisR ?_
  intro p e s m args below meth c s₁ Bd hml0 hP hK
  obtain ⟨rfl, hZ, hh⟩ := hP
  have hx := Bd.exec
  have hby := Bd.bytes
  have hml : c.maxLocals = 6 := hml0
  have hown : s.vm.findClass "java/lang/StringLatin1" = some m.cls := findClass_of_methodNamed Bd.named
  have hnm := (name_of_methodNamed Bd.named Bd.method).1
  have X0 : Stand p l e ({ frames := 0, cells := 0, slots := 0, locals := 0 } : Room) s m #[(.ref t1), (.int p2), (.int (0 : Int32)), (.int (3 : Int32))] below meth c s₁ [] 0 0 := Stand.of_body Bd
  have e0 : s₁.heap = h0 := by rw [← hh, Bd.state]; rfl
  have N0 := Fr.nil n0
  have pre0 : oL p e below s₁ (mkF m 0 #[oR t1, oI p2, oI 0, oI 3, oU, oU] []) s₁ (entryFrame m #[(.ref t1), (.int p2), (.int (0 : Int32)), (.int (3 : Int32))] 6) := fun t k => castTop (by first | (simp [entryFrame, mkF, argsToLocals, Value.category]; done) | rfl) k
  have pre11 : oL p e below s₁ (mkF m 16 #[oR t1, oI p2, oI 0, oI 3, oI (p2.toInt8.toInt32), oI 0] [oi 0, ow t1]) s₁ (entryFrame m #[(.ref t1), (.int p2), (.int (0 : Int32)), (.int (3 : Int32))] 6) := fun t k => pre0 t (by
    refine XS.iloadN X0.here hx rfl (hb hby d22_0) rfl ?_
    refine XS.i2b X0.here hx rfl (hb hby d22_1) rfl ?_
    refine XS.istore X0.here hx rfl (hb hby d22_2) rfl (l' := #[oR t1, oI p2, oI 0, oI 3, oI (p2.toInt8.toInt32), oU]) rfl ?_
    refine XS.iloadN X0.here hx rfl (hb hby d22_4) rfl ?_
    show oS p e below s₁ (mkF m 5 #[oR t1, oI p2, oI 0, oI 3, oI (p2.toInt8.toInt32), oU] [oi 0]) _
    refine XS.istore X0.here hx rfl (hb hby d22_5) rfl (l' := #[oR t1, oI p2, oI 0, oI 3, oI (p2.toInt8.toInt32), oI 0]) rfl ?_
    refine XS.iload X0.here hx rfl (hb hby d22_7) rfl ?_
    refine XS.iloadN X0.here hx rfl (hb hby d22_9) rfl ?_
    refine XS.icmpNo X0.here hx rfl (hb hby d22_10) rfl (tlt (by decide : (0 : Int32) < (3 : Int32))).2.1 ?_
    show oS p e below s₁ (mkF m 13 #[oR t1, oI p2, oI 0, oI 3, oI (p2.toInt8.toInt32), oI 0] []) _
    refine XS.aloadN X0.here hx rfl (hb hby d22_13) rfl rfl ?_
    refine XS.iload X0.here hx rfl (hb hby d22_14) rfl ?_
    exact k)
  obtain ⟨cl12, Ar12, qc12, Sz12, Nn12, Hs12, Gs12⟩ := id V1
  have hin12 := inb_of (j := (0 : Int32)) Sz12 ⟨by decide, by decide⟩
  have pre13 : oL p e below s₁ (mkF m 19 #[oR t1, oI p2, oI 0, oI 3, oI (p2.toInt8.toInt32), oI 0] [oi (p2.toInt8.toInt32), oi x0]) s₁ (entryFrame m #[(.ref t1), (.int p2), (.int (0 : Int32)), (.int (3 : Int32))] 6) := fun t k => pre11 t (by
    refine X0.baloadBytes hx (j := (0 : Int32)) (v := (.int x0)) (by rw [e0]; exact Ar12.1) (State.isArrayOf_alike hZ.alike Ar12.2.1) Ar12.2.2 hin12 (Hs12.at hin12 rfl) (g := (mkF m 16 #[oR t1, oI p2, oI 0, oI 3, oI (p2.toInt8.toInt32), oI 0] [oi 0, ow t1])) rfl rfl (hb hby d22_16) _ ?_
    refine XS.iload X0.here hx rfl (hb hby d22_17) rfl ?_
    show oS p e below s₁ (mkF m 19 #[oR t1, oI p2, oI 0, oI 3, oI (p2.toInt8.toInt32), oI 0] [oi (p2.toInt8.toInt32), oi x0]) _
    exact k)
  by_cases hc14 : x0 = (p2.toInt8.toInt32)
  ·
    have pre15 : oL p e below s₁ (mkF m 24 #[oR t1, oI p2, oI 0, oI 3, oI (p2.toInt8.toInt32), oI 0] [oi 0]) s₁ (entryFrame m #[(.ref t1), (.int p2), (.int (0 : Int32)), (.int (3 : Int32))] 6) := fun t k => pre13 t (by
      refine XS.icmpNo X0.here hx rfl (hb hby d22_19) rfl (teq hc14).2 ?_
      refine XS.iload X0.here hx rfl (hb hby d22_22) rfl ?_
      exact k)
    obtain ⟨fs, hr, hrun, hended, hW, hsame⟩ := X0.leave (v := some (.int (0 : Int32))) (fun h => by rw [Bd.returns] at h; cases h)
    refine ⟨_, _, pre15 _ ?_, hrun, hended, _, _, rfl, ?_, ⟨_, rfl⟩, hW, hsame.mono (by decide) (by decide)⟩
    ·
      show oS p e below s₁ (mkF m 24 #[oR t1, oI p2, oI 0, oI 3, oI (p2.toInt8.toInt32), oI 0] [oi 0]) _
      exact retI X0 hx Bd.returns (hb hby d22_24) hr
    ·
      show Q_rm_ioc3 Z t1 k1 p2 x0 x1 x2 r h0 n0 _ s₁.heap _
      rw [e0]
      exact ⟨by rw [hr']; simp [hc14], N0, rfl⟩
  ·
    have pre16 : oL p e below s₁ (mkF m 16 #[oR t1, oI p2, oI 0, oI 3, oI (p2.toInt8.toInt32), oI 1] [oi 1, ow t1]) s₁ (entryFrame m #[(.ref t1), (.int p2), (.int (0 : Int32)), (.int (3 : Int32))] 6) := fun t k => pre13 t (by
      refine XS.icmpYes X0.here hx rfl (pc0 := 19) (pc' := 25) rfl (hb hby d22_19) rfl (feq hc14).2 (by decide) (by decide) ?_
      refine XS.iinc X0.here hx rfl (hb hby d22_25) rfl (l' := #[oR t1, oI p2, oI 0, oI 3, oI (p2.toInt8.toInt32), oI 1]) rfl ?_
      refine XS.goto X0.here hx rfl (pc0 := 28) (pc' := 7) rfl (hb hby d22_28) (by decide) (by decide) ?_
      refine XS.iload X0.here hx rfl (hb hby d22_7) rfl ?_
      show oS p e below s₁ (mkF m 9 #[oR t1, oI p2, oI 0, oI 3, oI (p2.toInt8.toInt32), oI 1] [oi 1]) _
      refine XS.iloadN X0.here hx rfl (hb hby d22_9) rfl ?_
      refine XS.icmpNo X0.here hx rfl (hb hby d22_10) rfl (tlt (by decide : (1 : Int32) < (3 : Int32))).2.1 ?_
      refine XS.aloadN X0.here hx rfl (hb hby d22_13) rfl rfl ?_
      refine XS.iload X0.here hx rfl (hb hby d22_14) rfl ?_
      show oS p e below s₁ (mkF m 16 #[oR t1, oI p2, oI 0, oI 3, oI (p2.toInt8.toInt32), oI 1] [oi 1, ow t1]) _
      exact k)
    obtain ⟨cl17, Ar17, qc17, Sz17, Nn17, Hs17, Gs17⟩ := id V1
    have hin17 := inb_of (j := (1 : Int32)) Sz17 ⟨by decide, by decide⟩
    have pre18 : oL p e below s₁ (mkF m 19 #[oR t1, oI p2, oI 0, oI 3, oI (p2.toInt8.toInt32), oI 1] [oi (p2.toInt8.toInt32), oi x1]) s₁ (entryFrame m #[(.ref t1), (.int p2), (.int (0 : Int32)), (.int (3 : Int32))] 6) := fun t k => pre16 t (by
      refine X0.baloadBytes hx (j := (1 : Int32)) (v := (.int x1)) (by rw [e0]; exact Ar17.1) (State.isArrayOf_alike hZ.alike Ar17.2.1) Ar17.2.2 hin17 (Hs17.at hin17 rfl) (g := (mkF m 16 #[oR t1, oI p2, oI 0, oI 3, oI (p2.toInt8.toInt32), oI 1] [oi 1, ow t1])) rfl rfl (hb hby d22_16) _ ?_
      refine XS.iload X0.here hx rfl (hb hby d22_17) rfl ?_
      exact k)
    by_cases hc19 : x1 = (p2.toInt8.toInt32)
    ·
      have pre20 : oL p e below s₁ (mkF m 24 #[oR t1, oI p2, oI 0, oI 3, oI (p2.toInt8.toInt32), oI 1] [oi 1]) s₁ (entryFrame m #[(.ref t1), (.int p2), (.int (0 : Int32)), (.int (3 : Int32))] 6) := fun t k => pre18 t (by
        refine XS.icmpNo X0.here hx rfl (hb hby d22_19) rfl (teq hc19).2 ?_
        refine XS.iload X0.here hx rfl (hb hby d22_22) rfl ?_
        show oS p e below s₁ (mkF m 24 #[oR t1, oI p2, oI 0, oI 3, oI (p2.toInt8.toInt32), oI 1] [oi 1]) _
        exact k)
      obtain ⟨fs, hr, hrun, hended, hW, hsame⟩ := X0.leave (v := some (.int (1 : Int32))) (fun h => by rw [Bd.returns] at h; cases h)
      refine ⟨_, _, pre20 _ ?_, hrun, hended, _, _, rfl, ?_, ⟨_, rfl⟩, hW, hsame.mono (by decide) (by decide)⟩
      ·
        show oS p e below s₁ (mkF m 24 #[oR t1, oI p2, oI 0, oI 3, oI (p2.toInt8.toInt32), oI 1] [oi 1]) _
        exact retI X0 hx Bd.returns (hb hby d22_24) hr
      ·
        show Q_rm_ioc3 Z t1 k1 p2 x0 x1 x2 r h0 n0 _ s₁.heap _
        rw [e0]
        exact ⟨by rw [hr']; simp [hc14, hc19], N0, rfl⟩
    ·
      have pre21 : oL p e below s₁ (mkF m 16 #[oR t1, oI p2, oI 0, oI 3, oI (p2.toInt8.toInt32), oI 2] [oi 2, ow t1]) s₁ (entryFrame m #[(.ref t1), (.int p2), (.int (0 : Int32)), (.int (3 : Int32))] 6) := fun t k => pre18 t (by
        refine XS.icmpYes X0.here hx rfl (pc0 := 19) (pc' := 25) rfl (hb hby d22_19) rfl (feq hc19).2 (by decide) (by decide) ?_
        refine XS.iinc X0.here hx rfl (hb hby d22_25) rfl (l' := #[oR t1, oI p2, oI 0, oI 3, oI (p2.toInt8.toInt32), oI 2]) rfl ?_
        show oS p e below s₁ (mkF m 28 #[oR t1, oI p2, oI 0, oI 3, oI (p2.toInt8.toInt32), oI 2] []) _
        refine XS.goto X0.here hx rfl (pc0 := 28) (pc' := 7) rfl (hb hby d22_28) (by decide) (by decide) ?_
        refine XS.iload X0.here hx rfl (hb hby d22_7) rfl ?_
        refine XS.iloadN X0.here hx rfl (hb hby d22_9) rfl ?_
        refine XS.icmpNo X0.here hx rfl (hb hby d22_10) rfl (tlt (by decide : (2 : Int32) < (3 : Int32))).2.1 ?_
        show oS p e below s₁ (mkF m 13 #[oR t1, oI p2, oI 0, oI 3, oI (p2.toInt8.toInt32), oI 2] []) _
        refine XS.aloadN X0.here hx rfl (hb hby d22_13) rfl rfl ?_
        refine XS.iload X0.here hx rfl (hb hby d22_14) rfl ?_
        exact k)
      obtain ⟨cl22, Ar22, qc22, Sz22, Nn22, Hs22, Gs22⟩ := id V1
      have hin22 := inb_of (j := (2 : Int32)) Sz22 ⟨by decide, by decide⟩
      have pre23 : oL p e below s₁ (mkF m 19 #[oR t1, oI p2, oI 0, oI 3, oI (p2.toInt8.toInt32), oI 2] [oi (p2.toInt8.toInt32), oi x2]) s₁ (entryFrame m #[(.ref t1), (.int p2), (.int (0 : Int32)), (.int (3 : Int32))] 6) := fun t k => pre21 t (by
        refine X0.baloadBytes hx (j := (2 : Int32)) (v := (.int x2)) (by rw [e0]; exact Ar22.1) (State.isArrayOf_alike hZ.alike Ar22.2.1) Ar22.2.2 hin22 (Hs22.at hin22 rfl) (g := (mkF m 16 #[oR t1, oI p2, oI 0, oI 3, oI (p2.toInt8.toInt32), oI 2] [oi 2, ow t1])) rfl rfl (hb hby d22_16) _ ?_
        refine XS.iload X0.here hx rfl (hb hby d22_17) rfl ?_
        show oS p e below s₁ (mkF m 19 #[oR t1, oI p2, oI 0, oI 3, oI (p2.toInt8.toInt32), oI 2] [oi (p2.toInt8.toInt32), oi x2]) _
        exact k)
      by_cases hc24 : x2 = (p2.toInt8.toInt32)
      ·
        have pre25 : oL p e below s₁ (mkF m 24 #[oR t1, oI p2, oI 0, oI 3, oI (p2.toInt8.toInt32), oI 2] [oi 2]) s₁ (entryFrame m #[(.ref t1), (.int p2), (.int (0 : Int32)), (.int (3 : Int32))] 6) := fun t k => pre23 t (by
          refine XS.icmpNo X0.here hx rfl (hb hby d22_19) rfl (teq hc24).2 ?_
          refine XS.iload X0.here hx rfl (hb hby d22_22) rfl ?_
          exact k)
        obtain ⟨fs, hr, hrun, hended, hW, hsame⟩ := X0.leave (v := some (.int (2 : Int32))) (fun h => by rw [Bd.returns] at h; cases h)
        refine ⟨_, _, pre25 _ ?_, hrun, hended, _, _, rfl, ?_, ⟨_, rfl⟩, hW, hsame.mono (by decide) (by decide)⟩
        ·
          show oS p e below s₁ (mkF m 24 #[oR t1, oI p2, oI 0, oI 3, oI (p2.toInt8.toInt32), oI 2] [oi 2]) _
          exact retI X0 hx Bd.returns (hb hby d22_24) hr
        ·
          show Q_rm_ioc3 Z t1 k1 p2 x0 x1 x2 r h0 n0 _ s₁.heap _
          rw [e0]
          exact ⟨by rw [hr']; simp [hc14, hc19, hc24], N0, rfl⟩
      ·
        have pre26 : oL p e below s₁ (mkF m 32 #[oR t1, oI p2, oI 0, oI 3, oI (p2.toInt8.toInt32), oI 3] [oi (-1)]) s₁ (entryFrame m #[(.ref t1), (.int p2), (.int (0 : Int32)), (.int (3 : Int32))] 6) := fun t k => pre23 t (by
          refine XS.icmpYes X0.here hx rfl (pc0 := 19) (pc' := 25) rfl (hb hby d22_19) rfl (feq hc24).2 (by decide) (by decide) ?_
          refine XS.iinc X0.here hx rfl (hb hby d22_25) rfl (l' := #[oR t1, oI p2, oI 0, oI 3, oI (p2.toInt8.toInt32), oI 3]) rfl ?_
          refine XS.goto X0.here hx rfl (pc0 := 28) (pc' := 7) rfl (hb hby d22_28) (by decide) (by decide) ?_
          refine XS.iload X0.here hx rfl (hb hby d22_7) rfl ?_
          show oS p e below s₁ (mkF m 9 #[oR t1, oI p2, oI 0, oI 3, oI (p2.toInt8.toInt32), oI 3] [oi 3]) _
          refine XS.iloadN X0.here hx rfl (hb hby d22_9) rfl ?_
          refine XS.icmpYes X0.here hx rfl (pc0 := 10) (pc' := 31) rfl (hb hby d22_10) rfl (flt (by decide : ¬ ((3 : Int32) < (3 : Int32)))).2.1 (by decide) (by decide) ?_
          refine XS.iconst X0.here hx rfl (hb hby d22_31) ?_
          exact k)
        obtain ⟨fs, hr, hrun, hended, hW, hsame⟩ := X0.leave (v := some (.int (-1 : Int32))) (fun h => by rw [Bd.returns] at h; cases h)
        refine ⟨_, _, pre26 _ ?_, hrun, hended, _, _, rfl, ?_, ⟨_, rfl⟩, hW, hsame.mono (by decide) (by decide)⟩
        ·
          show oS p e below s₁ (mkF m 32 #[oR t1, oI p2, oI 0, oI 3, oI (p2.toInt8.toInt32), oI 3] [oi (-1)]) _
          exact retI X0 hx Bd.returns (hb hby d22_32) hr
        ·
          show Q_rm_ioc3 Z t1 k1 p2 x0 x1 x2 r h0 n0 _ s₁.heap _
          rw [e0]
          exact ⟨by rw [hr']; simp [hc14, hc19, hc24], N0, rfl⟩
def Q_rm_io3 (Z : State) (t1 : Addr) (k1 : ClassId) (p2 : Int32) (x0 : Int32) (x1 : Int32) (x2 : Int32) (r : Int32) (h0 : Heap) (n0 : Nat) (v : Option Value) (h : Heap) (L : List Loc) : Prop := v = some (.int r) ∧ Fr n0 L ∧ h = h0
set_option maxRecDepth 65536 in
set_option maxHeartbeats 40000000 in
theorem rm_io3 (l : Launch) (Z : State) (a0 : Array Value) (hw : ∀ d ∈ tables_1, d.before a0 Z = true) (ws : List Jvm.Cond) (t1 : Addr) (k1 : ClassId) (p2 : Int32) (x0 : Int32) (x1 : Int32) (x2 : Int32) (r : Int32) (h0 : Heap) (n0 : Nat) (OL : Old Z n0 h0) (V1 : Arv Z h0 t1 k1 .byte (3 : Int32) [(.int x0), (.int x1), (.int x2)] (.int (0 : Int32))) (hr' : r = if p2 < 0 then -1 else if (255 : Int32) < p2 then -1 else (if x0 = (p2.toInt8.toInt32) then 0 else if x1 = (p2.toInt8.toInt32) then 1 else if x2 = (p2.toInt8.toInt32) then 2 else -1 : Int32)) :
    MetFree l (⟨"java/lang/StringLatin1", "indexOf", "([BIII)I"⟩ : MethodName) (head1 (Jvm.Cond.code (⟨"java/lang/StringLatin1", "indexOf", "([BIII)I"⟩ : MethodName) jdk_43_method_22_code 4 (some .int) :: ws) ({ frames := 1, cells := 0, slots := 0, locals := 17 } : Room)) (fun a U => a = #[(.ref t1), (.int p2), (.int (0 : Int32)), (.int (3 : Int32))] ∧ Z.Warmed39 U.vm ∧ U.heap = h0) (fun _ _ _ _ _ => True) (fun _ U o U' => ∃ v L, o = .returned v ∧ Q_rm_io3 Z t1 k1 p2 x0 x1 x2 r h0 n0 v U'.heap L ∧ FrameEnd U o U' L ({ frames := 1, cells := 0, slots := 0, locals := 17 } : Room).cells ({ frames := 1, cells := 0, slots := 0, locals := 17 } : Room).slots) := by
  refine MetFree.of_bodySF (plainFor_of_name pn_java_lang_StringLatin1) hisR ?_
  intro p e s m args below meth c s₁ Bd hml0 hP hK
  obtain ⟨rfl, hZ, hh⟩ := hP
  have hx := Bd.exec
  have hby := Bd.bytes
  have hml : c.maxLocals = 4 := hml0
  have hown : s.vm.findClass "java/lang/StringLatin1" = some m.cls := findClass_of_methodNamed Bd.named
  have hnm := (name_of_methodNamed Bd.named Bd.method).1
  have X0 : Stand p l e ({ frames := 1, cells := 0, slots := 0, locals := 17 } : Room) s m #[(.ref t1), (.int p2), (.int (0 : Int32)), (.int (3 : Int32))] below meth c s₁ [] 0 0 := Stand.of_body Bd
  have e0 : s₁.heap = h0 := by rw [← hh, Bd.state]; rfl
  have N0 := Fr.nil n0
  have pre0 : oL p e below s₁ (mkF m 0 #[oR t1, oI p2, oI 0, oI 3] []) s₁ (entryFrame m #[(.ref t1), (.int p2), (.int (0 : Int32)), (.int (3 : Int32))] 4) := fun t k => castTop (by first | (simp [entryFrame, mkF, argsToLocals, Value.category]; done) | rfl) k
  have pre11 : oL p e below s₁ (mkF m 1 #[oR t1, oI p2, oI 0, oI 3] [oi p2]) s₁ (entryFrame m #[(.ref t1), (.int p2), (.int (0 : Int32)), (.int (3 : Int32))] 4) := fun t k => pre0 t (by
    refine XS.iloadN X0.here hx rfl (hb hby d18_0) rfl ?_
    exact k)
  obtain ⟨_, _, ⟨T12, L12, k12, n12⟩, -, X12, ⟨Lc12, hQ12, l12, y12, z12⟩, st12⟩ := Jvm.LawKit.callS X0 hx (y := (⟨"java/lang/StringLatin1", "canEncode", "(I)Z"⟩ : MethodName)) hown (mvT hZ (oW hw 99 rfl)) (mvT hZ (oW hw 100 rfl)) (mvT hZ (oW hw 97 rfl)) (mvT hZ (oW hw 101 rfl)) (by decide) (backOf (W := 0) (rm_can l Z a0 hw [] p2 (if p2 < 0 then 0 else if (255 : Int32) < p2 then 0 else 1) h0 n0 OL rfl) hZ (oW hw 101 rfl) (oW hw 97 rfl) (by decide) (by decide)) (g := (mkF m 1 #[oR t1, oI p2, oI 0, oI 3] [oi p2])) rfl (by rw [hml]; rfl) (argsL := [(.int p2)]) (rest := []) (lenOf pd__I_Z rfl) rfl (by show 2 * 0 + _ ≤ _; exact Nat.le_of_eq rfl) (hb hby d18_1) (fun _ _ => ⟨rfl, e0, (by decide : 0 + 0 ≤ _), (by decide : 0 + 0 ≤ _)⟩)
  dsimp only [Pt.U, Pt.locs, Pt.cells, Pt.slots] at X12 l12 y12 z12 st12 hQ12
  subst l12 y12 z12
  obtain ⟨rfl, N12q, e12⟩ := hQ12
  have N12 := Fr.app N0 N12q
  have pre13 : oL p e below T12 (mkF m 4 #[oR t1, oI p2, oI 0, oI 3] [oi (if p2 < 0 then 0 else if (255 : Int32) < p2 then 0 else 1)]) s₁ (entryFrame m #[(.ref t1), (.int p2), (.int (0 : Int32)), (.int (3 : Int32))] 4) := fun t k => pre11 t (by
    refine st12 _ ?_
    exact k)
  by_cases hc14 : (if p2 < 0 then 0 else if (255 : Int32) < p2 then 0 else 1) = (0 : Int32)
  ·
    have pre15 : oL p e below T12 (mkF m 8 #[oR t1, oI p2, oI 0, oI 3] [oi (-1)]) s₁ (entryFrame m #[(.ref t1), (.int p2), (.int (0 : Int32)), (.int (3 : Int32))] 4) := fun t k => pre13 t (by
      refine XS.ifNo X12.here hx rfl (hb hby d18_4) rfl ((if0 _ _).trans (teq hc14).2) ?_
      refine XS.iconst X12.here hx rfl (hb hby d18_7) ?_
      show oS p e below T12 (mkF m 8 #[oR t1, oI p2, oI 0, oI 3] [oi (-1)]) _
      exact k)
    obtain ⟨fs, hr, hrun, hended, hW, hsame⟩ := X12.leave (v := some (.int (-1 : Int32))) (fun h => by rw [Bd.returns] at h; cases h)
    refine ⟨_, _, pre15 _ ?_, hrun, hended, _, _, rfl, ?_, ⟨_, rfl⟩, hW, hsame.mono (by decide) (by decide)⟩
    ·
      show oS p e below T12 (mkF m 8 #[oR t1, oI p2, oI 0, oI 3] [oi (-1)]) _
      exact retI X12 hx Bd.returns (hb hby d18_8) hr
    ·
      show Q_rm_io3 Z t1 k1 p2 x0 x1 x2 r h0 n0 _ T12.heap _
      rw [e12]
      exact ⟨by rw [hr', own_can0 hc14], N12, rfl⟩
  ·
    have pre16 : oL p e below T12 (mkF m 11 #[oR t1, oI p2, oI 0, oI 3] [oi 0, oi 0]) s₁ (entryFrame m #[(.ref t1), (.int p2), (.int (0 : Int32)), (.int (3 : Int32))] 4) := fun t k => pre13 t (by
      refine XS.ifYes X12.here hx rfl (pc0 := 4) (pc' := 9) rfl (hb hby d18_4) rfl ((if0 _ _).trans (feq hc14).2) (by decide) (by decide) ?_
      refine XS.iloadN X12.here hx rfl (hb hby d18_9) rfl ?_
      show oS p e below T12 (mkF m 10 #[oR t1, oI p2, oI 0, oI 3] [oi 0]) _
      refine XS.iconst X12.here hx rfl (hb hby d18_10) ?_
      exact k)
    obtain ⟨_, _, ⟨T17, L17, k17, n17⟩, -, X17, ⟨Lc17, hQ17, l17, y17, z17⟩, st17⟩ := Jvm.LawKit.callS X12 hx (y := (⟨"java/lang/Math", "max", "(II)I"⟩ : MethodName)) hown (mvT hZ (oW hw 102 rfl)) (mvT hZ (oW hw 103 rfl)) (mvT hZ (oW hw 104 rfl)) (mvT hZ (oW hw 105 rfl)) (by decide) (backOf (W := 0) (rm_max l Z a0 hw []  h0 n0 OL ) hZ (oW hw 105 rfl) (oW hw 104 rfl) (by decide) (by decide)) (g := (mkF m 11 #[oR t1, oI p2, oI 0, oI 3] [oi 0, oi 0])) rfl (by rw [hml]; rfl) (argsL := [(.int (0 : Int32)), (.int (0 : Int32))]) (rest := []) (lenOf pd__II_I rfl) rfl (by show 2 * 0 + _ ≤ _; exact Nat.le_of_eq rfl) (hb hby d18_11) (fun _ _ => ⟨rfl, e12, (by decide : 0 + 0 ≤ _), (by decide : 0 + 0 ≤ _)⟩)
    dsimp only [Pt.U, Pt.locs, Pt.cells, Pt.slots] at X17 l17 y17 z17 st17 hQ17
    subst l17 y17 z17
    obtain ⟨rfl, N17q, e17⟩ := hQ17
    have N17 := Fr.app N12 N17q
    have pre19 : oL p e below T17 (mkF m 17 #[oR t1, oI p2, oI 0, oI 3] [ow t1, oi 3]) s₁ (entryFrame m #[(.ref t1), (.int p2), (.int (0 : Int32)), (.int (3 : Int32))] 4) := fun t k => pre16 t (by
      refine st17 _ ?_
      refine XS.istoreN X17.here hx rfl (hb hby d18_14) rfl (l' := #[oR t1, oI p2, oI 0, oI 3]) rfl ?_
      refine XS.iloadN X17.here hx rfl (hb hby d18_15) rfl ?_
      show oS p e below T17 (mkF m 16 #[oR t1, oI p2, oI 0, oI 3] [oi 3]) _
      refine XS.aloadN X17.here hx rfl (hb hby d18_16) rfl rfl ?_
      exact k)
    obtain ⟨cl18, Ar18, -, Sz18, Nn18, -, -⟩ := id V1
    have pre20 : oL p e below T17 (mkF m 18 #[oR t1, oI p2, oI 0, oI 3] [oi 3, oi 3]) s₁ (entryFrame m #[(.ref t1), (.int p2), (.int (0 : Int32)), (.int (3 : Int32))] 4) := fun t k => pre19 t (by
      refine X17.arraylength hx (by rw [e17]; exact Ar18.1) (State.isArrayOf_alike hZ.alike Ar18.2.1) (g := (mkF m 17 #[oR t1, oI p2, oI 0, oI 3] [ow t1, oi 3])) rfl rfl (hb hby d18_17) _ ?_
      rw [len_of Sz18 Nn18]
      exact k)
    obtain ⟨_, _, ⟨T21, L21, k21, n21⟩, -, X21, ⟨Lc21, hQ21, l21, y21, z21⟩, st21⟩ := Jvm.LawKit.callS X17 hx (y := (⟨"java/lang/Math", "min", "(II)I"⟩ : MethodName)) hown (mvT hZ (oW hw 106 rfl)) (mvT hZ (oW hw 107 rfl)) (mvT hZ (oW hw 104 rfl)) (mvT hZ (oW hw 108 rfl)) (by decide) (backOf (W := 0) (rm_min3 l Z a0 hw []  h0 n0 OL ) hZ (oW hw 108 rfl) (oW hw 104 rfl) (by decide) (by decide)) (g := (mkF m 18 #[oR t1, oI p2, oI 0, oI 3] [oi 3, oi 3])) rfl (by rw [hml]; rfl) (argsL := [(.int (3 : Int32)), (.int (3 : Int32))]) (rest := []) (lenOf pd__II_I rfl) rfl (by show 2 * 0 + _ ≤ _; exact Nat.le_of_eq rfl) (hb hby d18_18) (fun _ _ => ⟨rfl, e17, (by decide : 0 + 0 ≤ _), (by decide : 0 + 0 ≤ _)⟩)
    dsimp only [Pt.U, Pt.locs, Pt.cells, Pt.slots] at X21 l21 y21 z21 st21 hQ21
    subst l21 y21 z21
    obtain ⟨rfl, N21q, e21⟩ := hQ21
    have N21 := Fr.app N17 N21q
    have pre22 : oL p e below T21 (mkF m 33 #[oR t1, oI p2, oI 0, oI 3] [oi 3, oi 0, oi p2, ow t1]) s₁ (entryFrame m #[(.ref t1), (.int p2), (.int (0 : Int32)), (.int (3 : Int32))] 4) := fun t k => pre20 t (by
      refine st21 _ ?_
      refine XS.istoreN X21.here hx rfl (hb hby d18_21) rfl (l' := #[oR t1, oI p2, oI 0, oI 3]) rfl ?_
      show oS p e below T21 (mkF m 22 #[oR t1, oI p2, oI 0, oI 3] []) _
      refine XS.iloadN X21.here hx rfl (hb hby d18_22) rfl ?_
      refine XS.iloadN X21.here hx rfl (hb hby d18_23) rfl ?_
      refine XS.icmpYes X21.here hx rfl (pc0 := 24) (pc' := 29) rfl (hb hby d18_24) rfl (tlt (by decide : (0 : Int32) < (3 : Int32))).1 (by decide) (by decide) ?_
      refine XS.aloadN X21.here hx rfl (hb hby d18_29) rfl rfl ?_
      show oS p e below T21 (mkF m 30 #[oR t1, oI p2, oI 0, oI 3] [ow t1]) _
      refine XS.iloadN X21.here hx rfl (hb hby d18_30) rfl ?_
      refine XS.iloadN X21.here hx rfl (hb hby d18_31) rfl ?_
      refine XS.iloadN X21.here hx rfl (hb hby d18_32) rfl ?_
      exact k)
    obtain ⟨_, _, ⟨T23, L23, k23, n23⟩, -, X23, ⟨Lc23, hQ23, l23, y23, z23⟩, st23⟩ := Jvm.LawKit.callS X21 hx (y := (⟨"java/lang/StringLatin1", "indexOfChar", "([BIII)I"⟩ : MethodName)) hown (mvT hZ (oW hw 109 rfl)) (mvT hZ (oW hw 110 rfl)) (mvT hZ (oW hw 97 rfl)) (mvT hZ (oW hw 111 rfl)) (by decide) (backOf (W := 0) (rm_ioc3 l Z a0 hw [] t1 k1 p2 x0 x1 x2 (if x0 = (p2.toInt8.toInt32) then 0 else if x1 = (p2.toInt8.toInt32) then 1 else if x2 = (p2.toInt8.toInt32) then 2 else -1) h0 n0 OL V1 rfl) hZ (oW hw 111 rfl) (oW hw 97 rfl) (by decide) (by decide)) (g := (mkF m 33 #[oR t1, oI p2, oI 0, oI 3] [oi 3, oi 0, oi p2, ow t1])) rfl (by rw [hml]; rfl) (argsL := [(.ref t1), (.int p2), (.int (0 : Int32)), (.int (3 : Int32))]) (rest := []) (lenOf pd___BIII_I rfl) rfl (by show 2 * 0 + _ ≤ _; exact Nat.le_of_eq rfl) (hb hby d18_33) (fun _ _ => ⟨rfl, e21, (by decide : 0 + 0 ≤ _), (by decide : 0 + 0 ≤ _)⟩)
    dsimp only [Pt.U, Pt.locs, Pt.cells, Pt.slots] at X23 l23 y23 z23 st23 hQ23
    subst l23 y23 z23
    obtain ⟨rfl, N23q, e23⟩ := hQ23
    have N23 := Fr.app N21 N23q
    have pre24 : oL p e below T23 (mkF m 36 #[oR t1, oI p2, oI 0, oI 3] [oi (if x0 = (p2.toInt8.toInt32) then 0 else if x1 = (p2.toInt8.toInt32) then 1 else if x2 = (p2.toInt8.toInt32) then 2 else -1 : Int32)]) s₁ (entryFrame m #[(.ref t1), (.int p2), (.int (0 : Int32)), (.int (3 : Int32))] 4) := fun t k => pre22 t (by
      refine st23 _ ?_
      show oS p e below T23 (mkF m 36 #[oR t1, oI p2, oI 0, oI 3] [oi (if x0 = (p2.toInt8.toInt32) then 0 else if x1 = (p2.toInt8.toInt32) then 1 else if x2 = (p2.toInt8.toInt32) then 2 else -1 : Int32)]) _
      exact k)
    obtain ⟨fs, hr, hrun, hended, hW, hsame⟩ := X23.leave (v := some (.int (if x0 = (p2.toInt8.toInt32) then 0 else if x1 = (p2.toInt8.toInt32) then 1 else if x2 = (p2.toInt8.toInt32) then 2 else -1 : Int32))) (fun h => by rw [Bd.returns] at h; cases h)
    refine ⟨_, _, pre24 _ ?_, hrun, hended, _, _, rfl, ?_, ⟨_, rfl⟩, hW, hsame.mono (by decide) (by decide)⟩
    ·
      show oS p e below T23 (mkF m 36 #[oR t1, oI p2, oI 0, oI 3] [oi (if x0 = (p2.toInt8.toInt32) then 0 else if x1 = (p2.toInt8.toInt32) then 1 else if x2 = (p2.toInt8.toInt32) then 2 else -1 : Int32)]) _
      exact retI X23 hx Bd.returns (hb hby d18_36) hr
    ·
      show Q_rm_io3 Z t1 k1 p2 x0 x1 x2 r h0 n0 _ T23.heap _
      rw [e23]
      exact ⟨by rw [hr', own_can1 hc14], N23, rfl⟩
def Q_rm_len3 (Z : State) (a1 : Addr) (t1 : Addr) (k1 : ClassId) (G1 : Int32) (x0 : Int32) (x1 : Int32) (x2 : Int32) (h0 : Heap) (n0 : Nat) (v : Option Value) (h : Heap) (L : List Loc) : Prop := v = some (.int (3 : Int32)) ∧ Fr n0 L ∧ h = h0
set_option maxRecDepth 65536 in
set_option maxHeartbeats 40000000 in
theorem rm_len3 (l : Launch) (Z : State) (a0 : Array Value) (hw : ∀ d ∈ tables_1, d.before a0 Z = true) (ws : List Jvm.Cond) (a1 : Addr) (t1 : Addr) (k1 : ClassId) (G1 : Int32) (x0 : Int32) (x1 : Int32) (x2 : Int32) (h0 : Heap) (n0 : Nat) (OL : Old Z n0 h0) (O2 : Sta Z Z.heap "java/lang/String" "COMPACT_STRINGS" "Z" (.int G1)) (P5 : ¬ (G1 = (0 : Int32))) (E1 : Exa Z h0 a1 "java/lang/String") (F1 : Fld Z h0 a1 "java/lang/String" "value" "[B" (.ref t1)) (F2 : Fld Z h0 a1 "java/lang/String" "coder" "B" (.int (0 : Int32))) (V1 : Arv Z h0 t1 k1 .byte (3 : Int32) [(.int x0), (.int x1), (.int x2)] (.int (0 : Int32))) :
    MetFree l (⟨"java/lang/String", "length", "()I"⟩ : MethodName) (head1 (Jvm.Cond.code (⟨"java/lang/String", "length", "()I"⟩ : MethodName) jdk_42_method_54_code 1 (some .int) :: ws) ({ frames := 1, cells := 0, slots := 0, locals := 13 } : Room)) (fun a U => a = #[(.ref a1)] ∧ Z.Warmed39 U.vm ∧ U.heap = h0) (fun _ _ _ _ _ => True) (fun _ U o U' => ∃ v L, o = .returned v ∧ Q_rm_len3 Z a1 t1 k1 G1 x0 x1 x2 h0 n0 v U'.heap L ∧ FrameEnd U o U' L ({ frames := 1, cells := 0, slots := 0, locals := 13 } : Room).cells ({ frames := 1, cells := 0, slots := 0, locals := 13 } : Room).slots) := by
  refine MetFree.of_bodySF (plainFor_of_name pn_java_lang_String) hisR ?_
  intro p e s m args below meth c s₁ Bd hml0 hP hK
  obtain ⟨rfl, hZ, hh⟩ := hP
  have hx := Bd.exec
  have hby := Bd.bytes
  have hml : c.maxLocals = 1 := hml0
  have hown : s.vm.findClass "java/lang/String" = some m.cls := findClass_of_methodNamed Bd.named
  have hnm := (name_of_methodNamed Bd.named Bd.method).1
  have X0 : Stand p l e ({ frames := 1, cells := 0, slots := 0, locals := 13 } : Room) s m #[(.ref a1)] below meth c s₁ [] 0 0 := Stand.of_body Bd
  have e0 : s₁.heap = h0 := by rw [← hh, Bd.state]; rfl
  have N0 := Fr.nil n0
  have pre0 : oL p e below s₁ (mkF m 0 #[oR a1] []) s₁ (entryFrame m #[(.ref a1)] 1) := fun t k => castTop (by first | (simp [entryFrame, mkF, argsToLocals, Value.category]; done) | rfl) k
  have pre11 : oL p e below s₁ (mkF m 1 #[oR a1] [ow a1]) s₁ (entryFrame m #[(.ref a1)] 1) := fun t k => pre0 t (by
    refine XS.aloadN X0.here hx rfl (hb hby d16_0) rfl rfl ?_
    exact k)
  obtain ⟨T12, X12, e12, st12⟩ := getF X0 hx hZ hown (host := "") (Or.inl (oW hw 28 rfl)) Via.refl e0 F1 (g := (mkF m 1 #[oR a1] [ow a1])) rfl rfl (hb hby d16_1)
  have pre14 : oL p e below T12 (mkF m 4 #[oR a1] [ow t1]) s₁ (entryFrame m #[(.ref a1)] 1) := fun t k => pre11 t (by
    refine st12 _ ?_
    exact k)
  obtain ⟨cl13, Ar13, -, Sz13, Nn13, -, -⟩ := id V1
  have pre15 : oL p e below T12 (mkF m 6 #[oR a1] [ow a1, oi 3]) s₁ (entryFrame m #[(.ref a1)] 1) := fun t k => pre14 t (by
    refine X12.arraylength hx (by rw [e12]; exact Ar13.1) (State.isArrayOf_alike hZ.alike Ar13.2.1) (g := (mkF m 4 #[oR a1] [ow t1])) rfl rfl (hb hby d16_4) _ ?_
    rw [len_of Sz13 Nn13]
    refine XS.aloadN X12.here hx rfl (hb hby d16_5) rfl rfl ?_
    show oS p e below T12 (mkF m 6 #[oR a1] [ow a1, oi 3]) _
    exact k)
  obtain ⟨cq16, kq16, q16a, q16b, q16c⟩ := isOf hZ e12 E1
  obtain ⟨_, _, ⟨T16, L16, k16, n16⟩, -, X16, ⟨Lc16, hQ16, l16, y16, z16⟩, st16⟩ := X12.virtualBack hx (y := (⟨"java/lang/String", "coder", "()B"⟩ : MethodName)) (z := (⟨"java/lang/String", "coder", "()B"⟩ : MethodName)) hown (mvT hZ (oW hw 90 rfl)) (mvT hZ (oW hw 91 rfl)) (notFace_of_selects (args := #[]) (mvT hZ (oW hw 93 rfl))) (mvT hZ (oW hw 93 rfl)) (mvT hZ (oW hw 92 rfl)) (by decide) (backOf (W := 1) (rm_coder l Z a0 hw [] a1 t1 G1 h0 n0 OL O2 P5 E1 F1 F2) hZ (oW hw 94 rfl) (oW hw 2 rfl) (by decide) (by decide)) q16a q16c (g := (mkF m 6 #[oR a1] [ow a1, oi 3])) rfl (by rw [hml]; rfl) (Steps.refl _) (argsL := []) (rest := [(.int (3 : Int32))]) (lenOf pd___B rfl) rfl (by show 2 * 0 + _ ≤ _; exact Nat.le_of_eq rfl) (hb hby d16_6) (fun _ _ => ⟨rfl, e12, (by decide : 0 + 0 ≤ _), (by decide : 0 + 0 ≤ _)⟩)
  dsimp only [Pt.U, Pt.locs, Pt.cells, Pt.slots] at X16 l16 y16 z16 st16 hQ16
  subst l16 y16 z16
  obtain ⟨rfl, N16q, e16⟩ := hQ16
  have N16 := Fr.app N0 N16q
  have pre17 : oL p e below T16 (mkF m 10 #[oR a1] [oi 3]) s₁ (entryFrame m #[(.ref a1)] 1) := fun t k => pre15 t (by
    refine st16.trans ?_
    refine XS.ishr X16.here hx rfl (hb hby d16_9) rfl ?_
    exact k)
  obtain ⟨fs, hr, hrun, hended, hW, hsame⟩ := X16.leave (v := some (.int (3 : Int32))) (fun h => by rw [Bd.returns] at h; cases h)
  refine ⟨_, _, pre17 _ ?_, hrun, hended, _, _, rfl, ?_, ⟨_, rfl⟩, hW, hsame.mono (by decide) (by decide)⟩
  ·
    show oS p e below T16 (mkF m 10 #[oR a1] [oi 3]) _
    exact retI X16 hx Bd.returns (hb hby d16_10) hr
  ·
    show Q_rm_len3 Z a1 t1 k1 G1 x0 x1 x2 h0 n0 _ T16.heap _
    rw [e16]
    exact ⟨rfl, N16, rfl⟩
def Q_rm_s2_3 (Z : State) (a1 : Addr) (t1 : Addr) (k1 : ClassId) (G1 : Int32) (p2 : Int32) (x0 : Int32) (x1 : Int32) (x2 : Int32) (r : Int32) (h0 : Heap) (n0 : Nat) (v : Option Value) (h : Heap) (L : List Loc) : Prop := v = some (.int r) ∧ Fr n0 L ∧ h = h0
set_option maxRecDepth 65536 in
set_option maxHeartbeats 40000000 in
theorem rm_s2_3 (l : Launch) (Z : State) (a0 : Array Value) (hw : ∀ d ∈ tables_1, d.before a0 Z = true) (ws : List Jvm.Cond) (a1 : Addr) (t1 : Addr) (k1 : ClassId) (G1 : Int32) (p2 : Int32) (x0 : Int32) (x1 : Int32) (x2 : Int32) (r : Int32) (h0 : Heap) (n0 : Nat) (OL : Old Z n0 h0) (O2 : Sta Z Z.heap "java/lang/String" "COMPACT_STRINGS" "Z" (.int G1)) (P5 : ¬ (G1 = (0 : Int32))) (E1 : Exa Z h0 a1 "java/lang/String") (F1 : Fld Z h0 a1 "java/lang/String" "value" "[B" (.ref t1)) (F2 : Fld Z h0 a1 "java/lang/String" "coder" "B" (.int (0 : Int32))) (V1 : Arv Z h0 t1 k1 .byte (3 : Int32) [(.int x0), (.int x1), (.int x2)] (.int (0 : Int32))) (hr' : r = if p2 < 0 then -1 else if (255 : Int32) < p2 then -1 else (if x0 = (p2.toInt8.toInt32) then 0 else if x1 = (p2.toInt8.toInt32) then 1 else if x2 = (p2.toInt8.toInt32) then 2 else -1 : Int32)) :
    MetFree l (⟨"java/lang/String", "indexOf", "(II)I"⟩ : MethodName) (head1 (Jvm.Cond.code (⟨"java/lang/String", "indexOf", "(II)I"⟩ : MethodName) jdk_42_method_80_code 3 (some .int) :: ws) ({ frames := 2, cells := 0, slots := 0, locals := 32 } : Room)) (fun a U => a = #[(.ref a1), (.int p2), (.int (0 : Int32))] ∧ Z.Warmed39 U.vm ∧ U.heap = h0) (fun _ _ _ _ _ => True) (fun _ U o U' => ∃ v L, o = .returned v ∧ Q_rm_s2_3 Z a1 t1 k1 G1 p2 x0 x1 x2 r h0 n0 v U'.heap L ∧ FrameEnd U o U' L ({ frames := 2, cells := 0, slots := 0, locals := 32 } : Room).cells ({ frames := 2, cells := 0, slots := 0, locals := 32 } : Room).slots) := by
  refine MetFree.of_bodySF (plainFor_of_name pn_java_lang_String) hisR ?_
  intro p e s m args below meth c s₁ Bd hml0 hP hK
  obtain ⟨rfl, hZ, hh⟩ := hP
  have hx := Bd.exec
  have hby := Bd.bytes
  have hml : c.maxLocals = 3 := hml0
  have hown : s.vm.findClass "java/lang/String" = some m.cls := findClass_of_methodNamed Bd.named
  have hnm := (name_of_methodNamed Bd.named Bd.method).1
  have X0 : Stand p l e ({ frames := 2, cells := 0, slots := 0, locals := 32 } : Room) s m #[(.ref a1), (.int p2), (.int (0 : Int32))] below meth c s₁ [] 0 0 := Stand.of_body Bd
  have e0 : s₁.heap = h0 := by rw [← hh, Bd.state]; rfl
  have N0 := Fr.nil n0
  have pre0 : oL p e below s₁ (mkF m 0 #[oR a1, oI p2, oI 0] []) s₁ (entryFrame m #[(.ref a1), (.int p2), (.int (0 : Int32))] 3) := fun t k => castTop (by first | (simp [entryFrame, mkF, argsToLocals, Value.category]; done) | rfl) k
  have pre11 : oL p e below s₁ (mkF m 1 #[oR a1, oI p2, oI 0] [ow a1]) s₁ (entryFrame m #[(.ref a1), (.int p2), (.int (0 : Int32))] 3) := fun t k => pre0 t (by
    refine XS.aloadN X0.here hx rfl (hb hby d14_0) rfl rfl ?_
    exact k)
  obtain ⟨cq12, kq12, q12a, q12b, q12c⟩ := isOf hZ e0 E1
  obtain ⟨_, _, ⟨T12, L12, k12, n12⟩, -, X12, ⟨Lc12, hQ12, l12, y12, z12⟩, st12⟩ := X0.virtualBack hx (y := (⟨"java/lang/String", "isLatin1", "()Z"⟩ : MethodName)) (z := (⟨"java/lang/String", "isLatin1", "()Z"⟩ : MethodName)) hown (mvT hZ (oW hw 80 rfl)) (mvT hZ (oW hw 81 rfl)) (notFace_of_selects (args := #[]) (mvT hZ (oW hw 83 rfl))) (mvT hZ (oW hw 83 rfl)) (mvT hZ (oW hw 82 rfl)) (by decide) (backOf (W := 0) (rm_isLatin1 l Z a0 hw [] a1 t1 G1 h0 n0 OL O2 P5 E1 F1 F2) hZ (oW hw 84 rfl) (oW hw 2 rfl) (by decide) (by decide)) q12a q12c (g := (mkF m 1 #[oR a1, oI p2, oI 0] [ow a1])) rfl (by rw [hml]; rfl) (Steps.refl _) (argsL := []) (rest := []) (lenOf pd___Z rfl) rfl (by show 2 * 0 + _ ≤ _; exact Nat.le_of_eq rfl) (hb hby d14_1) (fun _ _ => ⟨rfl, e0, (by decide : 0 + 0 ≤ _), (by decide : 0 + 0 ≤ _)⟩)
  dsimp only [Pt.U, Pt.locs, Pt.cells, Pt.slots] at X12 l12 y12 z12 st12 hQ12
  subst l12 y12 z12
  obtain ⟨rfl, N12q, e12⟩ := hQ12
  have N12 := Fr.app N0 N12q
  have pre13 : oL p e below T12 (mkF m 8 #[oR a1, oI p2, oI 0] [ow a1]) s₁ (entryFrame m #[(.ref a1), (.int p2), (.int (0 : Int32))] 3) := fun t k => pre11 t (by
    refine st12.trans ?_
    refine XS.ifNo X12.here hx rfl (hb hby d14_4) rfl ((if0 _ _).trans (feq (by decide : ¬ ((1 : Int32) = (0 : Int32)))).1) ?_
    refine XS.aloadN X12.here hx rfl (hb hby d14_7) rfl rfl ?_
    show oS p e below T12 (mkF m 8 #[oR a1, oI p2, oI 0] [ow a1]) _
    exact k)
  obtain ⟨T14, X14, e14, st14⟩ := getF X12 hx hZ hown (host := "") (Or.inl (oW hw 28 rfl)) Via.refl e12 F1 (g := (mkF m 8 #[oR a1, oI p2, oI 0] [ow a1])) rfl rfl (hb hby d14_8)
  have pre15 : oL p e below T14 (mkF m 14 #[oR a1, oI p2, oI 0] [ow a1, oi 0, oi p2, ow t1]) s₁ (entryFrame m #[(.ref a1), (.int p2), (.int (0 : Int32))] 3) := fun t k => pre13 t (by
    refine st14 _ ?_
    refine XS.iloadN X14.here hx rfl (hb hby d14_11) rfl ?_
    refine XS.iloadN X14.here hx rfl (hb hby d14_12) rfl ?_
    refine XS.aloadN X14.here hx rfl (hb hby d14_13) rfl rfl ?_
    show oS p e below T14 (mkF m 14 #[oR a1, oI p2, oI 0] [ow a1, oi 0, oi p2, ow t1]) _
    exact k)
  obtain ⟨cq16, kq16, q16a, q16b, q16c⟩ := isOf hZ e14 E1
  obtain ⟨_, _, ⟨T16, L16, k16, n16⟩, -, X16, ⟨Lc16, hQ16, l16, y16, z16⟩, st16⟩ := X14.virtualBack hx (y := (⟨"java/lang/String", "length", "()I"⟩ : MethodName)) (z := (⟨"java/lang/String", "length", "()I"⟩ : MethodName)) hown (mvT hZ (oW hw 85 rfl)) (mvT hZ (oW hw 86 rfl)) (notFace_of_selects (args := #[]) (mvT hZ (oW hw 88 rfl))) (mvT hZ (oW hw 88 rfl)) (mvT hZ (oW hw 87 rfl)) (by decide) (backOf (W := 3) (rm_len3 l Z a0 hw [] a1 t1 k1 G1 x0 x1 x2 h0 n0 OL O2 P5 E1 F1 F2 V1) hZ (oW hw 89 rfl) (oW hw 2 rfl) (by decide) (by decide)) q16a q16c (g := (mkF m 14 #[oR a1, oI p2, oI 0] [ow a1, oi 0, oi p2, ow t1])) rfl (by rw [hml]; rfl) (Steps.refl _) (argsL := []) (rest := [(.int (0 : Int32)), (.int p2), (.ref t1)]) (lenOf pd___I rfl) rfl (by show 2 * 0 + _ ≤ _; exact Nat.le_of_eq rfl) (hb hby d14_14) (fun _ _ => ⟨rfl, e14, (by decide : 0 + 0 ≤ _), (by decide : 0 + 0 ≤ _)⟩)
  dsimp only [Pt.U, Pt.locs, Pt.cells, Pt.slots] at X16 l16 y16 z16 st16 hQ16
  subst l16 y16 z16
  obtain ⟨rfl, N16q, e16⟩ := hQ16
  have N16 := Fr.app N12 N16q
  have pre17 : oL p e below T16 (mkF m 17 #[oR a1, oI p2, oI 0] [oi 3, oi 0, oi p2, ow t1]) s₁ (entryFrame m #[(.ref a1), (.int p2), (.int (0 : Int32))] 3) := fun t k => pre15 t (by
    refine st16.trans ?_
    exact k)
  obtain ⟨_, _, ⟨T18, L18, k18, n18⟩, -, X18, ⟨Lc18, hQ18, l18, y18, z18⟩, st18⟩ := Jvm.LawKit.callS X16 hx (y := (⟨"java/lang/StringLatin1", "indexOf", "([BIII)I"⟩ : MethodName)) hown (mvT hZ (oW hw 95 rfl)) (mvT hZ (oW hw 96 rfl)) (mvT hZ (oW hw 97 rfl)) (mvT hZ (oW hw 98 rfl)) (by decide) (backOf (W := 0) (rm_io3 l Z a0 hw [] t1 k1 p2 x0 x1 x2 r h0 n0 OL V1 hr') hZ (oW hw 98 rfl) (oW hw 97 rfl) (by decide) (by decide)) (g := (mkF m 17 #[oR a1, oI p2, oI 0] [oi 3, oi 0, oi p2, ow t1])) rfl (by rw [hml]; rfl) (argsL := [(.ref t1), (.int p2), (.int (0 : Int32)), (.int (3 : Int32))]) (rest := []) (lenOf pd___BIII_I rfl) rfl (by show 2 * 0 + _ ≤ _; exact Nat.le_of_eq rfl) (hb hby d14_17) (fun _ _ => ⟨rfl, e16, (by decide : 0 + 0 ≤ _), (by decide : 0 + 0 ≤ _)⟩)
  dsimp only [Pt.U, Pt.locs, Pt.cells, Pt.slots] at X18 l18 y18 z18 st18 hQ18
  subst l18 y18 z18
  obtain ⟨rfl, N18q, e18⟩ := hQ18
  have N18 := Fr.app N16 N18q
  have pre19 : oL p e below T18 (mkF m 36 #[oR a1, oI p2, oI 0] [oi r]) s₁ (entryFrame m #[(.ref a1), (.int p2), (.int (0 : Int32))] 3) := fun t k => pre17 t (by
    refine st18 _ ?_
    refine XS.goto X18.here hx rfl (pc0 := 20) (pc' := 36) rfl (hb hby d14_20) (by decide) (by decide) ?_
    exact k)
  obtain ⟨fs, hr, hrun, hended, hW, hsame⟩ := X18.leave (v := some (.int r)) (fun h => by rw [Bd.returns] at h; cases h)
  refine ⟨_, _, pre19 _ ?_, hrun, hended, _, _, rfl, ?_, ⟨_, rfl⟩, hW, hsame.mono (by decide) (by decide)⟩
  ·
    show oS p e below T18 (mkF m 36 #[oR a1, oI p2, oI 0] [oi r]) _
    exact retI X18 hx Bd.returns (hb hby d14_36) hr
  ·
    show Q_rm_s2_3 Z a1 t1 k1 G1 p2 x0 x1 x2 r h0 n0 _ T18.heap _
    rw [e18]
    exact ⟨rfl, N18, rfl⟩
def Q_rm_s1_3 (Z : State) (a1 : Addr) (t1 : Addr) (k1 : ClassId) (G1 : Int32) (p2 : Int32) (x0 : Int32) (x1 : Int32) (x2 : Int32) (r : Int32) (h0 : Heap) (n0 : Nat) (v : Option Value) (h : Heap) (L : List Loc) : Prop := v = some (.int r) ∧ Fr n0 L ∧ h = h0
set_option maxRecDepth 65536 in
set_option maxHeartbeats 40000000 in
theorem rm_s1_3 (l : Launch) (Z : State) (a0 : Array Value) (hw : ∀ d ∈ tables_1, d.before a0 Z = true) (ws : List Jvm.Cond) (a1 : Addr) (t1 : Addr) (k1 : ClassId) (G1 : Int32) (p2 : Int32) (x0 : Int32) (x1 : Int32) (x2 : Int32) (r : Int32) (h0 : Heap) (n0 : Nat) (OL : Old Z n0 h0) (O2 : Sta Z Z.heap "java/lang/String" "COMPACT_STRINGS" "Z" (.int G1)) (P5 : ¬ (G1 = (0 : Int32))) (E1 : Exa Z h0 a1 "java/lang/String") (F1 : Fld Z h0 a1 "java/lang/String" "value" "[B" (.ref t1)) (F2 : Fld Z h0 a1 "java/lang/String" "coder" "B" (.int (0 : Int32))) (V1 : Arv Z h0 t1 k1 .byte (3 : Int32) [(.int x0), (.int x1), (.int x2)] (.int (0 : Int32))) (hr' : r = if p2 < 0 then -1 else if (255 : Int32) < p2 then -1 else (if x0 = (p2.toInt8.toInt32) then 0 else if x1 = (p2.toInt8.toInt32) then 1 else if x2 = (p2.toInt8.toInt32) then 2 else -1 : Int32)) :
    MetFree l (⟨"java/lang/String", "indexOf", "(I)I"⟩ : MethodName) (head1 (Jvm.Cond.code (⟨"java/lang/String", "indexOf", "(I)I"⟩ : MethodName) jdk_42_method_79_code 2 (some .int) :: ws) ({ frames := 3, cells := 0, slots := 0, locals := 46 } : Room)) (fun a U => a = #[(.ref a1), (.int p2)] ∧ Z.Warmed39 U.vm ∧ U.heap = h0) (fun _ _ _ _ _ => True) (fun _ U o U' => ∃ v L, o = .returned v ∧ Q_rm_s1_3 Z a1 t1 k1 G1 p2 x0 x1 x2 r h0 n0 v U'.heap L ∧ FrameEnd U o U' L ({ frames := 3, cells := 0, slots := 0, locals := 46 } : Room).cells ({ frames := 3, cells := 0, slots := 0, locals := 46 } : Room).slots) := by
  refine MetFree.of_bodySF (plainFor_of_name pn_java_lang_String) hisR ?_
  intro p e s m args below meth c s₁ Bd hml0 hP hK
  obtain ⟨rfl, hZ, hh⟩ := hP
  have hx := Bd.exec
  have hby := Bd.bytes
  have hml : c.maxLocals = 2 := hml0
  have hown : s.vm.findClass "java/lang/String" = some m.cls := findClass_of_methodNamed Bd.named
  have hnm := (name_of_methodNamed Bd.named Bd.method).1
  have X0 : Stand p l e ({ frames := 3, cells := 0, slots := 0, locals := 46 } : Room) s m #[(.ref a1), (.int p2)] below meth c s₁ [] 0 0 := Stand.of_body Bd
  have e0 : s₁.heap = h0 := by rw [← hh, Bd.state]; rfl
  have N0 := Fr.nil n0
  have pre0 : oL p e below s₁ (mkF m 0 #[oR a1, oI p2] []) s₁ (entryFrame m #[(.ref a1), (.int p2)] 2) := fun t k => castTop (by first | (simp [entryFrame, mkF, argsToLocals, Value.category]; done) | rfl) k
  have pre11 : oL p e below s₁ (mkF m 3 #[oR a1, oI p2] [oi 0, oi p2, ow a1]) s₁ (entryFrame m #[(.ref a1), (.int p2)] 2) := fun t k => pre0 t (by
    refine XS.aloadN X0.here hx rfl (hb hby d13_0) rfl rfl ?_
    refine XS.iloadN X0.here hx rfl (hb hby d13_1) rfl ?_
    refine XS.iconst X0.here hx rfl (hb hby d13_2) ?_
    exact k)
  obtain ⟨cq12, kq12, q12a, q12b, q12c⟩ := isOf hZ e0 E1
  obtain ⟨_, _, ⟨T12, L12, k12, n12⟩, -, X12, ⟨Lc12, hQ12, l12, y12, z12⟩, st12⟩ := X0.virtualBack hx (y := (⟨"java/lang/String", "indexOf", "(II)I"⟩ : MethodName)) (z := (⟨"java/lang/String", "indexOf", "(II)I"⟩ : MethodName)) hown (mvT hZ (oW hw 75 rfl)) (mvT hZ (oW hw 76 rfl)) (notFace_of_selects (args := #[]) (mvT hZ (oW hw 78 rfl))) (mvT hZ (oW hw 78 rfl)) (mvT hZ (oW hw 77 rfl)) (by decide) (backOf (W := 0) (rm_s2_3 l Z a0 hw [] a1 t1 k1 G1 p2 x0 x1 x2 r h0 n0 OL O2 P5 E1 F1 F2 V1 hr') hZ (oW hw 79 rfl) (oW hw 2 rfl) (by decide) (by decide)) q12a q12c (g := (mkF m 3 #[oR a1, oI p2] [oi 0, oi p2, ow a1])) rfl (by rw [hml]; rfl) (Steps.refl _) (argsL := [(.int p2), (.int (0 : Int32))]) (rest := []) (lenOf pd__II_I rfl) rfl (by show 2 * 0 + _ ≤ _; exact Nat.le_of_eq rfl) (hb hby d13_3) (fun _ _ => ⟨rfl, e0, (by decide : 0 + 0 ≤ _), (by decide : 0 + 0 ≤ _)⟩)
  dsimp only [Pt.U, Pt.locs, Pt.cells, Pt.slots] at X12 l12 y12 z12 st12 hQ12
  subst l12 y12 z12
  obtain ⟨rfl, N12q, e12⟩ := hQ12
  have N12 := Fr.app N0 N12q
  have pre13 : oL p e below T12 (mkF m 6 #[oR a1, oI p2] [oi r]) s₁ (entryFrame m #[(.ref a1), (.int p2)] 2) := fun t k => pre11 t (by
    refine st12.trans ?_
    show oS p e below T12 (mkF m 6 #[oR a1, oI p2] [oi r]) _
    exact k)
  obtain ⟨fs, hr, hrun, hended, hW, hsame⟩ := X12.leave (v := some (.int r)) (fun h => by rw [Bd.returns] at h; cases h)
  refine ⟨_, _, pre13 _ ?_, hrun, hended, _, _, rfl, ?_, ⟨_, rfl⟩, hW, hsame.mono (by decide) (by decide)⟩
  ·
    show oS p e below T12 (mkF m 6 #[oR a1, oI p2] [oi r]) _
    exact retI X12 hx Bd.returns (hb hby d13_6) hr
  ·
    show Q_rm_s1_3 Z a1 t1 k1 G1 p2 x0 x1 x2 r h0 n0 _ T12.heap _
    rw [e12]
    exact ⟨rfl, N12, rfl⟩
def Q_rm_al3 (Z : State) (o1 : Addr) (a1 : Addr) (t1 : Addr) (k1 : ClassId) (G1 : Int32) (p2 : Int32) (x0 : Int32) (x1 : Int32) (x2 : Int32) (r : Int32) (r2 : Int32) (h0 : Heap) (n0 : Nat) (v : Option Value) (h : Heap) (L : List Loc) : Prop := v = some (.int r2) ∧ Fr n0 L ∧ h = h0
set_option maxRecDepth 65536 in
set_option maxHeartbeats 40000000 in
theorem rm_al3 (l : Launch) (Z : State) (a0 : Array Value) (hw : ∀ d ∈ tables_1, d.before a0 Z = true) (ws : List Jvm.Cond) (o1 : Addr) (a1 : Addr) (t1 : Addr) (k1 : ClassId) (G1 : Int32) (p2 : Int32) (x0 : Int32) (x1 : Int32) (x2 : Int32) (r : Int32) (r2 : Int32) (h0 : Heap) (n0 : Nat) (OL : Old Z n0 h0) (O2 : Sta Z Z.heap "java/lang/String" "COMPACT_STRINGS" "Z" (.int G1)) (P5 : ¬ (G1 = (0 : Int32))) (E1 : Exa Z h0 a1 "java/lang/String") (F1 : Fld Z h0 a1 "java/lang/String" "value" "[B" (.ref t1)) (F2 : Fld Z h0 a1 "java/lang/String" "coder" "B" (.int (0 : Int32))) (V1 : Arv Z h0 t1 k1 .byte (3 : Int32) [(.int x0), (.int x1), (.int x2)] (.int (0 : Int32))) (hr' : r = if p2 < 0 then -1 else if (255 : Int32) < p2 then -1 else (if x0 = (p2.toInt8.toInt32) then 0 else if x1 = (p2.toInt8.toInt32) then 1 else if x2 = (p2.toInt8.toInt32) then 2 else -1 : Int32)) (FV : Fld Z h0 o1 "com/example/vedette/vedette/definition/PositionDefinition" "values" "Ljava/lang/String;" (.ref a1)) (hr2 : r2 = if r < 0 then 0 else 1) :
    MetFree l (⟨"com/example/vedette/vedette/definition/PositionDefinition", "allows", "(I)Z"⟩ : MethodName) (head1 (Jvm.Cond.code (⟨"com/example/vedette/vedette/definition/PositionDefinition", "allows", "(I)Z"⟩ : MethodName) prog_8_method_3_code 2 (some .boolean) :: ws) ({ frames := 4, cells := 0, slots := 0, locals := 59 } : Room)) (fun a U => a = #[(.ref o1), (.int p2)] ∧ Z.Warmed39 U.vm ∧ U.heap = h0) (fun _ _ _ _ _ => True) (fun _ U o U' => ∃ v L, o = .returned v ∧ Q_rm_al3 Z o1 a1 t1 k1 G1 p2 x0 x1 x2 r r2 h0 n0 v U'.heap L ∧ FrameEnd U o U' L ({ frames := 4, cells := 0, slots := 0, locals := 59 } : Room).cells ({ frames := 4, cells := 0, slots := 0, locals := 59 } : Room).slots) := by
  refine MetFree.of_bodySF (plainFor_of_name pn_com_example_vedette_vedette_definition_PositionDefinition) hisR ?_
  intro p e s m args below meth c s₁ Bd hml0 hP hK
  obtain ⟨rfl, hZ, hh⟩ := hP
  have hx := Bd.exec
  have hby := Bd.bytes
  have hml : c.maxLocals = 2 := hml0
  have hown : s.vm.findClass "com/example/vedette/vedette/definition/PositionDefinition" = some m.cls := findClass_of_methodNamed Bd.named
  have hnm := (name_of_methodNamed Bd.named Bd.method).1
  have X0 : Stand p l e ({ frames := 4, cells := 0, slots := 0, locals := 59 } : Room) s m #[(.ref o1), (.int p2)] below meth c s₁ [] 0 0 := Stand.of_body Bd
  have e0 : s₁.heap = h0 := by rw [← hh, Bd.state]; rfl
  have N0 := Fr.nil n0
  have pre0 : oL p e below s₁ (mkF m 0 #[oR o1, oI p2] []) s₁ (entryFrame m #[(.ref o1), (.int p2)] 2) := fun t k => castTop (by first | (simp [entryFrame, mkF, argsToLocals, Value.category]; done) | rfl) k
  have pre11 : oL p e below s₁ (mkF m 1 #[oR o1, oI p2] [ow o1]) s₁ (entryFrame m #[(.ref o1), (.int p2)] 2) := fun t k => pre0 t (by
    refine XS.aloadN X0.here hx rfl (hb hby d12_0) rfl rfl ?_
    exact k)
  obtain ⟨T12, X12, e12, st12⟩ := getF X0 hx hZ hown (host := "") (Or.inl (oW hw 61 rfl)) Via.refl e0 FV (g := (mkF m 1 #[oR o1, oI p2] [ow o1])) rfl rfl (hb hby d12_1)
  have pre13 : oL p e below T12 (mkF m 8 #[oR o1, oI p2] [ow o1]) s₁ (entryFrame m #[(.ref o1), (.int p2)] 2) := fun t k => pre11 t (by
    refine st12 _ ?_
    refine XS.ifnullNo X12.here hx rfl (hb hby d12_4) rfl ?_
    refine XS.aloadN X12.here hx rfl (hb hby d12_7) rfl rfl ?_
    show oS p e below T12 (mkF m 8 #[oR o1, oI p2] [ow o1]) _
    exact k)
  obtain ⟨T14, X14, e14, st14⟩ := getF X12 hx hZ hown (host := "") (Or.inl (oW hw 61 rfl)) Via.refl e12 FV (g := (mkF m 8 #[oR o1, oI p2] [ow o1])) rfl rfl (hb hby d12_8)
  have pre15 : oL p e below T14 (mkF m 12 #[oR o1, oI p2] [oi p2, ow a1]) s₁ (entryFrame m #[(.ref o1), (.int p2)] 2) := fun t k => pre13 t (by
    refine st14 _ ?_
    refine XS.iloadN X14.here hx rfl (hb hby d12_11) rfl ?_
    exact k)
  obtain ⟨cq16, kq16, q16a, q16b, q16c⟩ := isOf hZ e14 E1
  obtain ⟨_, _, ⟨T16, L16, k16, n16⟩, -, X16, ⟨Lc16, hQ16, l16, y16, z16⟩, st16⟩ := X14.virtualBack hx (y := (⟨"java/lang/String", "indexOf", "(I)I"⟩ : MethodName)) (z := (⟨"java/lang/String", "indexOf", "(I)I"⟩ : MethodName)) hown (mvT hZ (oW hw 70 rfl)) (mvT hZ (oW hw 71 rfl)) (notFace_of_selects (args := #[]) (mvT hZ (oW hw 73 rfl))) (mvT hZ (oW hw 73 rfl)) (mvT hZ (oW hw 72 rfl)) (by decide) (backOf (W := 0) (rm_s1_3 l Z a0 hw [] a1 t1 k1 G1 p2 x0 x1 x2 r h0 n0 OL O2 P5 E1 F1 F2 V1 hr') hZ (oW hw 74 rfl) (oW hw 2 rfl) (by decide) (by decide)) q16a q16c (g := (mkF m 12 #[oR o1, oI p2] [oi p2, ow a1])) rfl (by rw [hml]; rfl) (Steps.refl _) (argsL := [(.int p2)]) (rest := []) (lenOf pd__I_I rfl) rfl (by show 2 * 0 + _ ≤ _; exact Nat.le_of_eq rfl) (hb hby d12_12) (fun _ _ => ⟨rfl, e14, (by decide : 0 + 0 ≤ _), (by decide : 0 + 0 ≤ _)⟩)
  dsimp only [Pt.U, Pt.locs, Pt.cells, Pt.slots] at X16 l16 y16 z16 st16 hQ16
  subst l16 y16 z16
  obtain ⟨rfl, N16q, e16⟩ := hQ16
  have N16 := Fr.app N0 N16q
  have pre17 : oL p e below T16 (mkF m 15 #[oR o1, oI p2] [oi r]) s₁ (entryFrame m #[(.ref o1), (.int p2)] 2) := fun t k => pre15 t (by
    refine st16.trans ?_
    exact k)
  by_cases hc18 : r < (0 : Int32)
  ·
    have pre19 : oL p e below T16 (mkF m 23 #[oR o1, oI p2] [oi 0]) s₁ (entryFrame m #[(.ref o1), (.int p2)] 2) := fun t k => pre17 t (by
      refine XS.ifYes X16.here hx rfl (pc0 := 15) (pc' := 22) rfl (hb hby d12_15) rfl ((if0 _ _).trans (tlt hc18).1) (by decide) (by decide) ?_
      show oS p e below T16 (mkF m 22 #[oR o1, oI p2] []) _
      refine XS.iconst X16.here hx rfl (hb hby d12_22) ?_
      exact k)
    obtain ⟨fs, hr, hrun, hended, hW, hsame⟩ := X16.leave (v := some (.int (0 : Int32))) (fun h => by rw [Bd.returns] at h; cases h)
    refine ⟨_, _, pre19 _ ?_, hrun, hended, _, _, rfl, ?_, ⟨_, rfl⟩, hW, hsame.mono (by decide) (by decide)⟩
    ·
      show oS p e below T16 (mkF m 23 #[oR o1, oI p2] [oi 0]) _
      exact retN X16 hx (t := .boolean) Bd.returns (by simp) (hb hby d12_23) hr
    ·
      show Q_rm_al3 Z o1 a1 t1 k1 G1 p2 x0 x1 x2 r r2 h0 n0 _ T16.heap _
      rw [e16]
      exact ⟨by rw [hr2]; simp [hc18], N16, rfl⟩
  ·
    have pre20 : oL p e below T16 (mkF m 23 #[oR o1, oI p2] [oi 1]) s₁ (entryFrame m #[(.ref o1), (.int p2)] 2) := fun t k => pre17 t (by
      refine XS.ifNo X16.here hx rfl (hb hby d12_15) rfl ((if0 _ _).trans (flt hc18).1) ?_
      show oS p e below T16 (mkF m 18 #[oR o1, oI p2] []) _
      refine XS.iconst X16.here hx rfl (hb hby d12_18) ?_
      refine XS.goto X16.here hx rfl (pc0 := 19) (pc' := 23) rfl (hb hby d12_19) (by decide) (by decide) ?_
      exact k)
    obtain ⟨fs, hr, hrun, hended, hW, hsame⟩ := X16.leave (v := some (.int (1 : Int32))) (fun h => by rw [Bd.returns] at h; cases h)
    refine ⟨_, _, pre20 _ ?_, hrun, hended, _, _, rfl, ?_, ⟨_, rfl⟩, hW, hsame.mono (by decide) (by decide)⟩
    ·
      show oS p e below T16 (mkF m 23 #[oR o1, oI p2] [oi 1]) _
      exact retN X16 hx (t := .boolean) Bd.returns (by simp) (hb hby d12_23) hr
    ·
      show Q_rm_al3 Z o1 a1 t1 k1 G1 p2 x0 x1 x2 r r2 h0 n0 _ T16.heap _
      rw [e16]
      exact ⟨by rw [hr2]; simp [hc18], N16, rfl⟩
def Q_rm_alN (Z : State) (o1 : Addr) (p2 : Int32) (h0 : Heap) (n0 : Nat) (v : Option Value) (h : Heap) (L : List Loc) : Prop := v = some (.int (1 : Int32)) ∧ Fr n0 L ∧ h = h0
set_option maxRecDepth 65536 in
set_option maxHeartbeats 40000000 in
theorem rm_alN (l : Launch) (Z : State) (a0 : Array Value) (hw : ∀ d ∈ tables_1, d.before a0 Z = true) (ws : List Jvm.Cond) (o1 : Addr) (p2 : Int32) (h0 : Heap) (n0 : Nat) (OL : Old Z n0 h0) (FV : Fld Z h0 o1 "com/example/vedette/vedette/definition/PositionDefinition" "values" "Ljava/lang/String;" .null) :
    MetFree l (⟨"com/example/vedette/vedette/definition/PositionDefinition", "allows", "(I)Z"⟩ : MethodName) (head1 (Jvm.Cond.code (⟨"com/example/vedette/vedette/definition/PositionDefinition", "allows", "(I)Z"⟩ : MethodName) prog_8_method_3_code 2 (some .boolean) :: ws) ({ frames := 0, cells := 0, slots := 0, locals := 0 } : Room)) (fun a U => a = #[(.ref o1), (.int p2)] ∧ Z.Warmed39 U.vm ∧ U.heap = h0) (fun _ _ _ _ _ => True) (fun _ U o U' => ∃ v L, o = .returned v ∧ Q_rm_alN Z o1 p2 h0 n0 v U'.heap L ∧ FrameEnd U o U' L ({ frames := 0, cells := 0, slots := 0, locals := 0 } : Room).cells ({ frames := 0, cells := 0, slots := 0, locals := 0 } : Room).slots) := by
  refine MetFree.of_bodySF (plainFor_of_name pn_com_example_vedette_vedette_definition_PositionDefinition) hisR ?_
  intro p e s m args below meth c s₁ Bd hml0 hP hK
  obtain ⟨rfl, hZ, hh⟩ := hP
  have hx := Bd.exec
  have hby := Bd.bytes
  have hml : c.maxLocals = 2 := hml0
  have hown : s.vm.findClass "com/example/vedette/vedette/definition/PositionDefinition" = some m.cls := findClass_of_methodNamed Bd.named
  have hnm := (name_of_methodNamed Bd.named Bd.method).1
  have X0 : Stand p l e ({ frames := 0, cells := 0, slots := 0, locals := 0 } : Room) s m #[(.ref o1), (.int p2)] below meth c s₁ [] 0 0 := Stand.of_body Bd
  have e0 : s₁.heap = h0 := by rw [← hh, Bd.state]; rfl
  have N0 := Fr.nil n0
  have pre0 : oL p e below s₁ (mkF m 0 #[oR o1, oI p2] []) s₁ (entryFrame m #[(.ref o1), (.int p2)] 2) := fun t k => castTop (by first | (simp [entryFrame, mkF, argsToLocals, Value.category]; done) | rfl) k
  have pre11 : oL p e below s₁ (mkF m 1 #[oR o1, oI p2] [ow o1]) s₁ (entryFrame m #[(.ref o1), (.int p2)] 2) := fun t k => pre0 t (by
    refine XS.aloadN X0.here hx rfl (hb hby d12_0) rfl rfl ?_
    exact k)
  obtain ⟨T12, X12, e12, st12⟩ := getF X0 hx hZ hown (host := "") (Or.inl (oW hw 61 rfl)) Via.refl e0 FV (g := (mkF m 1 #[oR o1, oI p2] [ow o1])) rfl rfl (hb hby d12_1)
  have pre13 : oL p e below T12 (mkF m 23 #[oR o1, oI p2] [oi 1]) s₁ (entryFrame m #[(.ref o1), (.int p2)] 2) := fun t k => pre11 t (by
    refine st12 _ ?_
    refine XS.ifnullYes X12.here hx rfl (pc0 := 4) (pc' := 18) rfl (hb hby d12_4) rfl (by decide) (by decide) ?_
    refine XS.iconst X12.here hx rfl (hb hby d12_18) ?_
    show oS p e below T12 (mkF m 19 #[oR o1, oI p2] [oi 1]) _
    refine XS.goto X12.here hx rfl (pc0 := 19) (pc' := 23) rfl (hb hby d12_19) (by decide) (by decide) ?_
    exact k)
  obtain ⟨fs, hr, hrun, hended, hW, hsame⟩ := X12.leave (v := some (.int (1 : Int32))) (fun h => by rw [Bd.returns] at h; cases h)
  refine ⟨_, _, pre13 _ ?_, hrun, hended, _, _, rfl, ?_, ⟨_, rfl⟩, hW, hsame.mono (by decide) (by decide)⟩
  ·
    show oS p e below T12 (mkF m 23 #[oR o1, oI p2] [oi 1]) _
    exact retN X12 hx (t := .boolean) Bd.returns (by simp) (hb hby d12_23) hr
  ·
    show Q_rm_alN Z o1 p2 h0 n0 _ T12.heap _
    rw [e12]
    exact ⟨rfl, N0, rfl⟩
theorem pn_com_example_vedette_vedette_definition_PositionDefinitionAllowsPinLaw : plainName "com/example/vedette/vedette/definition/PositionDefinitionAllowsPinLaw" = true := by first | (simp [plainName, overriddenIn]; done) | decide +kernel
theorem pd___C_V : parseMethodDescriptor "([C)V" = some ⟨[(.array .char)], none⟩ := by decide +kernel
theorem pd__Ljava_lang_String_Ljava_lang_String__V : parseMethodDescriptor "(Ljava/lang/String;Ljava/lang/String;)V" = some ⟨[(.object "java/lang/String"), (.object "java/lang/String")], none⟩ := by decide +kernel
def Q_rm0 (Z : State) (p1 : Int32) (p2 : Int32) (p3 : Int32) (G1 : Int32) (wM : Addr) (h0 : Heap) (n0 : Nat) (v : Option Value) (h : Heap) (L : List Loc) : Prop := v = some (.int (1 : Int32)) ∧ Fr n0 L
set_option maxRecDepth 65536 in
set_option maxHeartbeats 40000000 in
theorem rm0 (l : Launch) (Z : State) (a0 : Array Value) (hw : ∀ d ∈ tables_1, d.before a0 Z = true) (ws : List Jvm.Cond) (p1 : Int32) (p2 : Int32) (p3 : Int32) (G1 : Int32) (wM : Addr) (h0 : Heap) (n0 : Nat) (OL : Old Z n0 h0) (O2 : Sta Z Z.heap "java/lang/String" "COMPACT_STRINGS" "Z" (.int G1)) (P5 : ¬ (G1 = (0 : Int32))) (sM : Sta Z Z.heap "java/util/ImmutableCollections" "EMPTY_MAP" "Ljava/util/ImmutableCollections$MapN;" (.ref wM)) (eM : Exa Z Z.heap wM "java/util/ImmutableCollections$MapN") :
    MetFree l x (head1 (Jvm.Cond.code x code maxLocals ret :: ws) room_1) (fun a U => a = #[(.int p1), (.int p2), (.int p3)] ∧ Z.Warmed39 U.vm ∧ U.heap = h0 ∧ CHv Z consts_1 U.vm h0) (fun _ _ _ _ _ => True) (fun _ U o U' => ∃ v L, o = .returned v ∧ Q_rm0 Z p1 p2 p3 G1 wM h0 n0 v U'.heap L ∧ CHr Z consts_1 U.vm U.heap U'.vm U'.heap ∧ ReturnedEndW U o U' L room_1.cells room_1.slots) := by
  refine MetFree.of_bodySF (plainFor_of_name pn_com_example_vedette_vedette_definition_PositionDefinitionAllowsPinLaw) hisR ?_
  intro p e s m args below meth c s₁ Bd hml0 hP hK
  obtain ⟨rfl, hZ, hh, CH0⟩ := hP
  have hx := Bd.exec
  have hby := Bd.bytes
  have hml : c.maxLocals = 13 := hml0
  have hown : s.vm.findClass "com/example/vedette/vedette/definition/PositionDefinitionAllowsPinLaw" = some m.cls := findClass_of_methodNamed Bd.named
  have hnm := (name_of_methodNamed Bd.named Bd.method).1
  have X0 : Stand p l e room_1 (s.setVm s.vm) m #[(.int p1), (.int p2), (.int p3)] below meth c s₁ [] 0 0 := Stand.of_body Bd
  have hZ : Z.Warmed39 (s.setVm s.vm).vm := hZ
  have hown : (s.setVm s.vm).vm.findClass "com/example/vedette/vedette/definition/PositionDefinitionAllowsPinLaw" = some m.cls := hown
  have hS : s.Since s.vm h0.size := (State.WarmedH.refl s).since _
  have hk : h0.size ≤ h0.size := Nat.le_refl _
  have CR0 : CHr Z consts_1 s.vm h0 s.vm h0 := CHr.refl CH0
  have hEL := own_EW Z a0 hw
  have wS := own_wS Z a0 hw
  have e0 : s₁.heap = h0 := by rw [← hh, Bd.state]; rfl
  have N0 := Fr.nil n0
  have pre0 : oL p e below s₁ (mkF m 0 #[oI p1, oI p2, oI p3, oU, oU, oU, oU, oU, oU, oU, oU, oU, oU] []) s₁ (entryFrame m #[(.int p1), (.int p2), (.int p3)] maxLocals) := fun t k => castTop (by first | (simp [entryFrame, mkF, argsToLocals, Value.category, maxLocals]; done) | rfl) k
  obtain ⟨b11, hj11, pre11⟩ : ∃ b11 : Int32, ((b11 = 0 ∨ b11 = 1)) ∧ oL p e below s₁ (mkF m 11 #[oI p1, oI p2, oI p3, oU, oU, oU, oU, oU, oU, oU, oU, oU, oU] [oi b11]) s₁ (entryFrame m #[(.int p1), (.int p2), (.int p3)] maxLocals) := by
    have pre12 : oL p e below s₁ (mkF m 3 #[oI p1, oI p2, oI p3, oU, oU, oU, oU, oU, oU, oU, oU, oU, oU] [oi (p3 &&& (1 : Int32))]) s₁ (entryFrame m #[(.int p1), (.int p2), (.int p3)] maxLocals) := fun t k => pre0 t (by
      refine XS.iloadN X0.here hx rfl (hb hby at_0) rfl ?_
      refine XS.iconst X0.here hx rfl (hb hby at_1) ?_
      refine XS.iand X0.here hx rfl (hb hby at_2) rfl ?_
      exact k)
    by_cases hc13 : (p3 &&& (1 : Int32)) = (0 : Int32)
    ·
      have pre14 : oL p e below s₁ (mkF m 11 #[oI p1, oI p2, oI p3, oU, oU, oU, oU, oU, oU, oU, oU, oU, oU] [oi 0]) s₁ (entryFrame m #[(.int p1), (.int p2), (.int p3)] maxLocals) := fun t k => pre12 t (by
        refine XS.ifYes X0.here hx rfl (pc0 := 3) (pc' := 10) rfl (hb hby at_3) rfl ((if0 _ _).trans (teq hc13).1) (by decide) (by decide) ?_
        show oS p e below s₁ (mkF m 10 #[oI p1, oI p2, oI p3, oU, oU, oU, oU, oU, oU, oU, oU, oU, oU] []) _
        refine XS.iconst X0.here hx rfl (hb hby at_10) ?_
        exact k)
      exact ⟨(0 : Int32), Or.inl rfl, pre14⟩
    ·
      have pre15 : oL p e below s₁ (mkF m 11 #[oI p1, oI p2, oI p3, oU, oU, oU, oU, oU, oU, oU, oU, oU, oU] [oi 1]) s₁ (entryFrame m #[(.int p1), (.int p2), (.int p3)] maxLocals) := fun t k => pre12 t (by
        refine XS.ifNo X0.here hx rfl (hb hby at_3) rfl ((if0 _ _).trans (feq hc13).1) ?_
        show oS p e below s₁ (mkF m 6 #[oI p1, oI p2, oI p3, oU, oU, oU, oU, oU, oU, oU, oU, oU, oU] []) _
        refine XS.iconst X0.here hx rfl (hb hby at_6) ?_
        refine XS.goto X0.here hx rfl (pc0 := 7) (pc' := 11) rfl (hb hby at_7) (by decide) (by decide) ?_
        exact k)
      exact ⟨(1 : Int32), Or.inr rfl, pre15⟩
  have hn11 : nar .boolean b11 = b11 := own_nb hj11
  have pre16 : oL p e below s₁ (mkF m 19 #[oI p1, oI p2, oI p3, oI b11, oI (((p3.toUInt32 >>> ((1 : Int32) &&& 31).toUInt32).toInt32) &&& (3 : Int32)), oU, oU, oU, oU, oU, oU, oU, oU] []) s₁ (entryFrame m #[(.int p1), (.int p2), (.int p3)] maxLocals) := fun t k => pre11 t (by
    refine XS.istoreN X0.here hx rfl (hb hby at_11) rfl (l' := #[oI p1, oI p2, oI p3, oI b11, oU, oU, oU, oU, oU, oU, oU, oU, oU]) rfl ?_
    refine XS.iloadN X0.here hx rfl (hb hby at_12) rfl ?_
    refine XS.iconst X0.here hx rfl (hb hby at_13) ?_
    refine XS.iushr X0.here hx rfl (hb hby at_14) rfl ?_
    show oS p e below s₁ (mkF m 15 #[oI p1, oI p2, oI p3, oI b11, oU, oU, oU, oU, oU, oU, oU, oU, oU] [oi ((p3.toUInt32 >>> ((1 : Int32) &&& 31).toUInt32).toInt32)]) _
    refine XS.iconst X0.here hx rfl (hb hby at_15) ?_
    refine XS.iand X0.here hx rfl (hb hby at_16) rfl ?_
    refine XS.istore X0.here hx rfl (hb hby at_17) rfl (l' := #[oI p1, oI p2, oI p3, oI b11, oI (((p3.toUInt32 >>> ((1 : Int32) &&& 31).toUInt32).toInt32) &&& (3 : Int32)), oU, oU, oU, oU, oU, oU, oU, oU]) rfl ?_
    exact k)
  obtain ⟨b17, hj17, pre17⟩ : ∃ b17 : Int32, ((b17 = 0 ∨ b17 = 1)) ∧ oL p e below s₁ (mkF m 32 #[oI p1, oI p2, oI p3, oI b11, oI (((p3.toUInt32 >>> ((1 : Int32) &&& 31).toUInt32).toInt32) &&& (3 : Int32)), oU, oU, oU, oU, oU, oU, oU, oU] [oi b17]) s₁ (entryFrame m #[(.int p1), (.int p2), (.int p3)] maxLocals) := by
    have pre18 : oL p e below s₁ (mkF m 24 #[oI p1, oI p2, oI p3, oI b11, oI (((p3.toUInt32 >>> ((1 : Int32) &&& 31).toUInt32).toInt32) &&& (3 : Int32)), oU, oU, oU, oU, oU, oU, oU, oU] [oi (((p3.toUInt32 >>> ((3 : Int32) &&& 31).toUInt32).toInt32) &&& (1 : Int32))]) s₁ (entryFrame m #[(.int p1), (.int p2), (.int p3)] maxLocals) := fun t k => pre16 t (by
      refine XS.iloadN X0.here hx rfl (hb hby at_19) rfl ?_
      show oS p e below s₁ (mkF m 20 #[oI p1, oI p2, oI p3, oI b11, oI (((p3.toUInt32 >>> ((1 : Int32) &&& 31).toUInt32).toInt32) &&& (3 : Int32)), oU, oU, oU, oU, oU, oU, oU, oU] [oi p3]) _
      refine XS.iconst X0.here hx rfl (hb hby at_20) ?_
      refine XS.iushr X0.here hx rfl (hb hby at_21) rfl ?_
      refine XS.iconst X0.here hx rfl (hb hby at_22) ?_
      refine XS.iand X0.here hx rfl (hb hby at_23) rfl ?_
      show oS p e below s₁ (mkF m 24 #[oI p1, oI p2, oI p3, oI b11, oI (((p3.toUInt32 >>> ((1 : Int32) &&& 31).toUInt32).toInt32) &&& (3 : Int32)), oU, oU, oU, oU, oU, oU, oU, oU] [oi (((p3.toUInt32 >>> ((3 : Int32) &&& 31).toUInt32).toInt32) &&& (1 : Int32))]) _
      exact k)
    by_cases hc19 : (((p3.toUInt32 >>> ((3 : Int32) &&& 31).toUInt32).toInt32) &&& (1 : Int32)) = (0 : Int32)
    ·
      have pre20 : oL p e below s₁ (mkF m 32 #[oI p1, oI p2, oI p3, oI b11, oI (((p3.toUInt32 >>> ((1 : Int32) &&& 31).toUInt32).toInt32) &&& (3 : Int32)), oU, oU, oU, oU, oU, oU, oU, oU] [oi 0]) s₁ (entryFrame m #[(.int p1), (.int p2), (.int p3)] maxLocals) := fun t k => pre18 t (by
        refine XS.ifYes X0.here hx rfl (pc0 := 24) (pc' := 31) rfl (hb hby at_24) rfl ((if0 _ _).trans (teq hc19).1) (by decide) (by decide) ?_
        refine XS.iconst X0.here hx rfl (hb hby at_31) ?_
        exact k)
      exact ⟨(0 : Int32), Or.inl rfl, pre20⟩
    ·
      have pre21 : oL p e below s₁ (mkF m 32 #[oI p1, oI p2, oI p3, oI b11, oI (((p3.toUInt32 >>> ((1 : Int32) &&& 31).toUInt32).toInt32) &&& (3 : Int32)), oU, oU, oU, oU, oU, oU, oU, oU] [oi 1]) s₁ (entryFrame m #[(.int p1), (.int p2), (.int p3)] maxLocals) := fun t k => pre18 t (by
        refine XS.ifNo X0.here hx rfl (hb hby at_24) rfl ((if0 _ _).trans (feq hc19).1) ?_
        refine XS.iconst X0.here hx rfl (hb hby at_27) ?_
        refine XS.goto X0.here hx rfl (pc0 := 28) (pc' := 32) rfl (hb hby at_28) (by decide) (by decide) ?_
        exact k)
      exact ⟨(1 : Int32), Or.inr rfl, pre21⟩
  have hn17 : nar .boolean b17 = b17 := own_nb hj17
  have pre22 : oL p e below s₁ (mkF m 34 #[oI p1, oI p2, oI p3, oI b11, oI (((p3.toUInt32 >>> ((1 : Int32) &&& 31).toUInt32).toInt32) &&& (3 : Int32)), oI b17, oU, oU, oU, oU, oU, oU, oU] []) s₁ (entryFrame m #[(.int p1), (.int p2), (.int p3)] maxLocals) := fun t k => pre17 t (by
    refine XS.istore X0.here hx rfl (hb hby at_32) rfl (l' := #[oI p1, oI p2, oI p3, oI b11, oI (((p3.toUInt32 >>> ((1 : Int32) &&& 31).toUInt32).toInt32) &&& (3 : Int32)), oI b17, oU, oU, oU, oU, oU, oU, oU]) rfl ?_
    show oS p e below s₁ (mkF m 34 #[oI p1, oI p2, oI p3, oI b11, oI (((p3.toUInt32 >>> ((1 : Int32) &&& 31).toUInt32).toInt32) &&& (3 : Int32)), oI b17, oU, oU, oU, oU, oU, oU, oU] []) _
    exact k)
  obtain ⟨vi23, hj23, pre23⟩ : ∃ vi23 : Int32, (((¬ vi23 < 0 ∧ ¬ (255 : Int32) < vi23) ∧ nar .char vi23 = vi23)) ∧ oL p e below s₁ (mkF m 40 #[oI p1, oI p2, oI p3, oI b11, oI (((p3.toUInt32 >>> ((1 : Int32) &&& 31).toUInt32).toInt32) &&& (3 : Int32)), oI b17, oU, oU, oU, oU, oU, oU, oU] [oi vi23]) s₁ (entryFrame m #[(.int p1), (.int p2), (.int p3)] maxLocals) := by
    have pre24 : oL p e below s₁ (mkF m 40 #[oI p1, oI p2, oI p3, oI b11, oI (((p3.toUInt32 >>> ((1 : Int32) &&& 31).toUInt32).toInt32) &&& (3 : Int32)), oI b17, oU, oU, oU, oU, oU, oU, oU] [oi ((p1 &&& (255 : Int32)).toUInt32.toUInt16.toUInt32.toInt32)]) s₁ (entryFrame m #[(.int p1), (.int p2), (.int p3)] maxLocals) := fun t k => pre22 t (by
      refine XS.iloadN X0.here hx rfl (hb hby at_34) rfl ?_
      refine XS.sipush X0.here hx rfl (hb hby at_35) ?_
      refine XS.iand X0.here hx rfl (hb hby at_38) rfl ?_
      refine XS.i2c X0.here hx rfl (hb hby at_39) rfl ?_
      show oS p e below s₁ (mkF m 40 #[oI p1, oI p2, oI p3, oI b11, oI (((p3.toUInt32 >>> ((1 : Int32) &&& 31).toUInt32).toInt32) &&& (3 : Int32)), oI b17, oU, oU, oU, oU, oU, oU, oU] [oi ((p1 &&& (255 : Int32)).toUInt32.toUInt16.toUInt32.toInt32)]) _
      exact k)
    exact ⟨((p1 &&& (255 : Int32)).toUInt32.toUInt16.toUInt32.toInt32), ⟨own_ch _, own_i2c _⟩, pre24⟩
  have pre25 : oL p e below s₁ (mkF m 42 #[oI p1, oI p2, oI p3, oI b11, oI (((p3.toUInt32 >>> ((1 : Int32) &&& 31).toUInt32).toInt32) &&& (3 : Int32)), oI b17, oI vi23, oU, oU, oU, oU, oU, oU] []) s₁ (entryFrame m #[(.int p1), (.int p2), (.int p3)] maxLocals) := fun t k => pre23 t (by
    refine XS.istore X0.here hx rfl (hb hby at_40) rfl (l' := #[oI p1, oI p2, oI p3, oI b11, oI (((p3.toUInt32 >>> ((1 : Int32) &&& 31).toUInt32).toInt32) &&& (3 : Int32)), oI b17, oI vi23, oU, oU, oU, oU, oU, oU]) rfl ?_
    exact k)
  obtain ⟨vi26, hj26, pre26⟩ : ∃ vi26 : Int32, (((¬ vi26 < 0 ∧ ¬ (255 : Int32) < vi26) ∧ nar .char vi26 = vi26)) ∧ oL p e below s₁ (mkF m 51 #[oI p1, oI p2, oI p3, oI b11, oI (((p3.toUInt32 >>> ((1 : Int32) &&& 31).toUInt32).toInt32) &&& (3 : Int32)), oI b17, oI vi23, oU, oU, oU, oU, oU, oU] [oi vi26]) s₁ (entryFrame m #[(.int p1), (.int p2), (.int p3)] maxLocals) := by
    have pre27 : oL p e below s₁ (mkF m 51 #[oI p1, oI p2, oI p3, oI b11, oI (((p3.toUInt32 >>> ((1 : Int32) &&& 31).toUInt32).toInt32) &&& (3 : Int32)), oI b17, oI vi23, oU, oU, oU, oU, oU, oU] [oi ((((p1.toUInt32 >>> ((8 : Int32) &&& 31).toUInt32).toInt32) &&& (255 : Int32)).toUInt32.toUInt16.toUInt32.toInt32)]) s₁ (entryFrame m #[(.int p1), (.int p2), (.int p3)] maxLocals) := fun t k => pre25 t (by
      refine XS.iloadN X0.here hx rfl (hb hby at_42) rfl ?_
      refine XS.bipush X0.here hx rfl (hb hby at_43) ?_
      refine XS.iushr X0.here hx rfl (hb hby at_45) rfl ?_
      show oS p e below s₁ (mkF m 46 #[oI p1, oI p2, oI p3, oI b11, oI (((p3.toUInt32 >>> ((1 : Int32) &&& 31).toUInt32).toInt32) &&& (3 : Int32)), oI b17, oI vi23, oU, oU, oU, oU, oU, oU] [oi ((p1.toUInt32 >>> ((8 : Int32) &&& 31).toUInt32).toInt32)]) _
      refine XS.sipush X0.here hx rfl (hb hby at_46) ?_
      refine XS.iand X0.here hx rfl (hb hby at_49) rfl ?_
      refine XS.i2c X0.here hx rfl (hb hby at_50) rfl ?_
      exact k)
    exact ⟨((((p1.toUInt32 >>> ((8 : Int32) &&& 31).toUInt32).toInt32) &&& (255 : Int32)).toUInt32.toUInt16.toUInt32.toInt32), ⟨own_ch _, own_i2c _⟩, pre27⟩
  have pre28 : oL p e below s₁ (mkF m 53 #[oI p1, oI p2, oI p3, oI b11, oI (((p3.toUInt32 >>> ((1 : Int32) &&& 31).toUInt32).toInt32) &&& (3 : Int32)), oI b17, oI vi23, oI vi26, oU, oU, oU, oU, oU] []) s₁ (entryFrame m #[(.int p1), (.int p2), (.int p3)] maxLocals) := fun t k => pre26 t (by
    refine XS.istore X0.here hx rfl (hb hby at_51) rfl (l' := #[oI p1, oI p2, oI p3, oI b11, oI (((p3.toUInt32 >>> ((1 : Int32) &&& 31).toUInt32).toInt32) &&& (3 : Int32)), oI b17, oI vi23, oI vi26, oU, oU, oU, oU, oU]) rfl ?_
    exact k)
  obtain ⟨vi29, hj29, pre29⟩ : ∃ vi29 : Int32, (((¬ vi29 < 0 ∧ ¬ (255 : Int32) < vi29) ∧ nar .char vi29 = vi29)) ∧ oL p e below s₁ (mkF m 62 #[oI p1, oI p2, oI p3, oI b11, oI (((p3.toUInt32 >>> ((1 : Int32) &&& 31).toUInt32).toInt32) &&& (3 : Int32)), oI b17, oI vi23, oI vi26, oU, oU, oU, oU, oU] [oi vi29]) s₁ (entryFrame m #[(.int p1), (.int p2), (.int p3)] maxLocals) := by
    have pre30 : oL p e below s₁ (mkF m 62 #[oI p1, oI p2, oI p3, oI b11, oI (((p3.toUInt32 >>> ((1 : Int32) &&& 31).toUInt32).toInt32) &&& (3 : Int32)), oI b17, oI vi23, oI vi26, oU, oU, oU, oU, oU] [oi ((((p1.toUInt32 >>> ((16 : Int32) &&& 31).toUInt32).toInt32) &&& (255 : Int32)).toUInt32.toUInt16.toUInt32.toInt32)]) s₁ (entryFrame m #[(.int p1), (.int p2), (.int p3)] maxLocals) := fun t k => pre28 t (by
      refine XS.iloadN X0.here hx rfl (hb hby at_53) rfl ?_
      refine XS.bipush X0.here hx rfl (hb hby at_54) ?_
      show oS p e below s₁ (mkF m 56 #[oI p1, oI p2, oI p3, oI b11, oI (((p3.toUInt32 >>> ((1 : Int32) &&& 31).toUInt32).toInt32) &&& (3 : Int32)), oI b17, oI vi23, oI vi26, oU, oU, oU, oU, oU] [oi 16, oi p1]) _
      refine XS.iushr X0.here hx rfl (hb hby at_56) rfl ?_
      refine XS.sipush X0.here hx rfl (hb hby at_57) ?_
      refine XS.iand X0.here hx rfl (hb hby at_60) rfl ?_
      refine XS.i2c X0.here hx rfl (hb hby at_61) rfl ?_
      show oS p e below s₁ (mkF m 62 #[oI p1, oI p2, oI p3, oI b11, oI (((p3.toUInt32 >>> ((1 : Int32) &&& 31).toUInt32).toInt32) &&& (3 : Int32)), oI b17, oI vi23, oI vi26, oU, oU, oU, oU, oU] [oi ((((p1.toUInt32 >>> ((16 : Int32) &&& 31).toUInt32).toInt32) &&& (255 : Int32)).toUInt32.toUInt16.toUInt32.toInt32)]) _
      exact k)
    exact ⟨((((p1.toUInt32 >>> ((16 : Int32) &&& 31).toUInt32).toInt32) &&& (255 : Int32)).toUInt32.toUInt16.toUInt32.toInt32), ⟨own_ch _, own_i2c _⟩, pre30⟩
  have pre31 : oL p e below s₁ (mkF m 64 #[oI p1, oI p2, oI p3, oI b11, oI (((p3.toUInt32 >>> ((1 : Int32) &&& 31).toUInt32).toInt32) &&& (3 : Int32)), oI b17, oI vi23, oI vi26, oI vi29, oU, oU, oU, oU] []) s₁ (entryFrame m #[(.int p1), (.int p2), (.int p3)] maxLocals) := fun t k => pre29 t (by
    refine XS.istore X0.here hx rfl (hb hby at_62) rfl (l' := #[oI p1, oI p2, oI p3, oI b11, oI (((p3.toUInt32 >>> ((1 : Int32) &&& 31).toUInt32).toInt32) &&& (3 : Int32)), oI b17, oI vi23, oI vi26, oI vi29, oU, oU, oU, oU]) rfl ?_
    exact k)
  obtain ⟨vi32, hj32, pre32⟩ : ∃ vi32 : Int32, (True) ∧ oL p e below s₁ (mkF m 78 #[oI p1, oI p2, oI p3, oI b11, oI (((p3.toUInt32 >>> ((1 : Int32) &&& 31).toUInt32).toInt32) &&& (3 : Int32)), oI b17, oI vi23, oI vi26, oI vi29, oU, oU, oU, oU] [oi vi32]) s₁ (entryFrame m #[(.int p1), (.int p2), (.int p3)] maxLocals) := by
    have pre33 : oL p e below s₁ (mkF m 66 #[oI p1, oI p2, oI p3, oI b11, oI (((p3.toUInt32 >>> ((1 : Int32) &&& 31).toUInt32).toInt32) &&& (3 : Int32)), oI b17, oI vi23, oI vi26, oI vi29, oU, oU, oU, oU] [oi b17]) s₁ (entryFrame m #[(.int p1), (.int p2), (.int p3)] maxLocals) := fun t k => pre31 t (by
      refine XS.iload X0.here hx rfl (hb hby at_64) rfl ?_
      show oS p e below s₁ (mkF m 66 #[oI p1, oI p2, oI p3, oI b11, oI (((p3.toUInt32 >>> ((1 : Int32) &&& 31).toUInt32).toInt32) &&& (3 : Int32)), oI b17, oI vi23, oI vi26, oI vi29, oU, oU, oU, oU] [oi b17]) _
      exact k)
    by_cases hc34 : b17 = (0 : Int32)
    ·
      have pre35 : oL p e below s₁ (mkF m 78 #[oI p1, oI p2, oI p3, oI b11, oI (((p3.toUInt32 >>> ((1 : Int32) &&& 31).toUInt32).toInt32) &&& (3 : Int32)), oI b17, oI vi23, oI vi26, oI vi29, oU, oU, oU, oU] [oi (p2 &&& (255 : Int32))]) s₁ (entryFrame m #[(.int p1), (.int p2), (.int p3)] maxLocals) := fun t k => pre33 t (by
        refine XS.ifYes X0.here hx rfl (pc0 := 66) (pc' := 73) rfl (hb hby at_66) rfl ((if0 _ _).trans (teq hc34).1) (by decide) (by decide) ?_
        refine XS.iloadN X0.here hx rfl (hb hby at_73) rfl ?_
        refine XS.sipush X0.here hx rfl (hb hby at_74) ?_
        refine XS.iand X0.here hx rfl (hb hby at_77) rfl ?_
        show oS p e below s₁ (mkF m 78 #[oI p1, oI p2, oI p3, oI b11, oI (((p3.toUInt32 >>> ((1 : Int32) &&& 31).toUInt32).toInt32) &&& (3 : Int32)), oI b17, oI vi23, oI vi26, oI vi29, oU, oU, oU, oU] [oi (p2 &&& (255 : Int32))]) _
        exact k)
      exact ⟨(p2 &&& (255 : Int32)), trivial, pre35⟩
    ·
      have pre36 : oL p e below s₁ (mkF m 78 #[oI p1, oI p2, oI p3, oI b11, oI (((p3.toUInt32 >>> ((1 : Int32) &&& 31).toUInt32).toInt32) &&& (3 : Int32)), oI b17, oI vi23, oI vi26, oI vi29, oU, oU, oU, oU] [oi p2]) s₁ (entryFrame m #[(.int p1), (.int p2), (.int p3)] maxLocals) := fun t k => pre33 t (by
        refine XS.ifNo X0.here hx rfl (hb hby at_66) rfl ((if0 _ _).trans (feq hc34).1) ?_
        refine XS.iloadN X0.here hx rfl (hb hby at_69) rfl ?_
        refine XS.goto X0.here hx rfl (pc0 := 70) (pc' := 78) rfl (hb hby at_70) (by decide) (by decide) ?_
        exact k)
      exact ⟨p2, trivial, pre36⟩
  have pre37 : oL p e below s₁ (mkF m 81 #[oI p1, oI p2, oI p3, oI b11, oI (((p3.toUInt32 >>> ((1 : Int32) &&& 31).toUInt32).toInt32) &&& (3 : Int32)), oI b17, oI vi23, oI vi26, oI vi29, oI vi32, oU, oU, oU] [oi b11]) s₁ (entryFrame m #[(.int p1), (.int p2), (.int p3)] maxLocals) := fun t k => pre32 t (by
    refine XS.istore X0.here hx rfl (hb hby at_78) rfl (l' := #[oI p1, oI p2, oI p3, oI b11, oI (((p3.toUInt32 >>> ((1 : Int32) &&& 31).toUInt32).toInt32) &&& (3 : Int32)), oI b17, oI vi23, oI vi26, oI vi29, oI vi32, oU, oU, oU]) rfl ?_
    show oS p e below s₁ (mkF m 80 #[oI p1, oI p2, oI p3, oI b11, oI (((p3.toUInt32 >>> ((1 : Int32) &&& 31).toUInt32).toInt32) &&& (3 : Int32)), oI b17, oI vi23, oI vi26, oI vi29, oI vi32, oU, oU, oU] []) _
    refine XS.iloadN X0.here hx rfl (hb hby at_80) rfl ?_
    exact k)
  by_cases hc38 : b11 = (0 : Int32)
  ·
    have pre39 : oL p e below s₁ (mkF m 92 #[oI p1, oI p2, oI p3, oI b11, oI (((p3.toUInt32 >>> ((1 : Int32) &&& 31).toUInt32).toInt32) &&& (3 : Int32)), oI b17, oI vi23, oI vi26, oI vi29, oI vi32, oU, oU, oU] [oi (((p3.toUInt32 >>> ((1 : Int32) &&& 31).toUInt32).toInt32) &&& (3 : Int32))]) s₁ (entryFrame m #[(.int p1), (.int p2), (.int p3)] maxLocals) := fun t k => pre37 t (by
      refine XS.ifYes X0.here hx rfl (pc0 := 81) (pc' := 90) rfl (hb hby at_81) rfl ((if0 _ _).trans (teq hc38).1) (by decide) (by decide) ?_
      refine XS.iload X0.here hx rfl (hb hby at_90) rfl ?_
      exact k)
    rcases own_and3 _ with hl40 | hl40 | hl40 | hl40
    ·
      rw [hl40] at pre39
      have pre41 : oL p e below s₁ (mkF m 95 #[oI p1, oI p2, oI p3, oI b11, oI 0, oI b17, oI vi23, oI vi26, oI vi29, oI vi32, oU, oU, oU] []) s₁ (entryFrame m #[(.int p1), (.int p2), (.int p3)] maxLocals) := fun t k => pre39 t (by
        refine XS.ifNo X0.here hx rfl (hb hby at_92) rfl ((if0 _ _).trans (teq (by decide : (0 : Int32) = (0 : Int32))).2) ?_
        show oS p e below s₁ (mkF m 95 #[oI p1, oI p2, oI p3, oI b11, oI 0, oI b17, oI vi23, oI vi26, oI vi29, oI vi32, oU, oU, oU] []) _
        exact k)
      obtain ⟨T42, h42, X42, e42, E42, A42, D42, -, st42⟩ := newO X0 hx hZ hown (oW hw 0 rfl) (oW hw 1 rfl) (oW hw 2 rfl) e0 (g := (mkF m 95 #[oI p1, oI p2, oI p3, oI b11, oI 0, oI b17, oI vi23, oI vi26, oI vi29, oI vi32, oU, oU, oU] [])) rfl (hb hby at_95) (by decide) (by decide)
      obtain ⟨b42, g42⟩ : ∃ z, z = h0.size := ⟨_, rfl⟩
      rw [← g42] at A42 D42 st42
      have sf43 : Safe Z consts_1 s.vm h0 b42 := Safe.new (Nat.le_of_eq g42.symm)
      have ge_b42 : n0 ≤ b42 := Nat.le_trans (OL.1 ▸ OL.2.1) (Nat.le_of_eq g42.symm)
      have sz_b42 : h0.size ≤ b42 := Nat.le_trans (Keep.refl h0 []).1 (Nat.le_of_eq g42.symm)
      have sf44 := Safe.ext E42 CH0 sf43
      have cr45 := CHr.ext E42 CH0
      have CH45 := cr45.1
      have CR45 := CR0.trans cr45
      have OL46 := OL.ext E42
      have K47 : Keep h0 h42 [] := (Keep.refl h0 []).ext E42
      have hk := Nat.le_trans hk E42.1
      have f48 : Fld Z h42 b42 "java/lang/String" "coder" "B" (.int (0 : Int32)) := D42 (Or.inr (oW hw 27 rfl)) (ty := .byte) (by decide)
      have f49 : Fld Z h42 b42 "java/lang/String" "value" "[B" .null := D42 (Or.inr (oW hw 29 rfl)) (ty := (.array .byte)) (by decide)
      have pre50 : oL p e below T42 (mkF m 100 #[oI p1, oI p2, oI p3, oI b11, oI 0, oI b17, oI vi23, oI vi26, oI vi29, oI vi32, oU, oU, oU] [oi 0, ow b42, ow b42]) s₁ (entryFrame m #[(.int p1), (.int p2), (.int p3)] maxLocals) := fun t k => pre41 t (by
        refine st42 _ ?_
        refine XS.dup X42.here hx rfl (hb hby at_98) rfl rfl ?_
        refine XS.iconst X42.here hx rfl (hb hby at_99) ?_
        exact k)
      obtain ⟨T51, h51, k51, X51, e51, E51, A51, st51⟩ := newP X42 hx hZ (oW hw 3 rfl) e42 (g := (mkF m 100 #[oI p1, oI p2, oI p3, oI b11, oI 0, oI b17, oI vi23, oI vi26, oI vi29, oI vi32, oU, oU, oU] [oi 0, ow b42, ow b42])) rfl (hb hby at_100) rfl (by decide) (cap := 0) (by decide) (by decide) (by decide) (by decide)
      obtain ⟨b51, g51⟩ : ∃ z, z = h42.size := ⟨_, rfl⟩
      rw [← g51] at A51 st51
      have sf52 : Safe Z consts_1 s.vm h42 b51 := Safe.new (Nat.le_of_eq g51.symm)
      have ne53 : b42 ≠ b51 := Nat.ne_of_lt (Nat.lt_of_lt_of_le A42.lt (Nat.le_of_eq g51.symm))
      have ge_b51 : n0 ≤ b51 := Nat.le_trans (OL46.1 ▸ OL46.2.1) (Nat.le_of_eq g51.symm)
      have sz_b51 : h0.size ≤ b51 := Nat.le_trans K47.1 (Nat.le_of_eq g51.symm)
      have sf54 := Safe.ext E51 CH45 sf44
      have sf55 := Safe.ext E51 CH45 sf52
      have cr56 := CHr.ext E51 CH45
      have CH56 := cr56.1
      have CR56 := CR45.trans cr56
      have f57 := A42.ext E51
      have f58 := f48.ext E51
      have f59 := f49.ext E51
      have OL60 := OL46.ext E51
      have K61 : Keep h0 h51 [] := K47.ext E51
      have hk := Nat.le_trans hk E51.1
      have V51 : Arv Z h51 b51 k51 .char (0 : Int32) [] (.int (0 : Int32)) := Arv.new A51 (by decide)
      have pre62 : oL p e below T51 (mkF m 102 #[oI p1, oI p2, oI p3, oI b11, oI 0, oI b17, oI vi23, oI vi26, oI vi29, oI vi32, oU, oU, oU] [ow b51, ow b42, ow b42]) s₁ (entryFrame m #[(.int p1), (.int p2), (.int p3)] maxLocals) := fun t k => pre50 t (by
        refine st51 _ ?_
        show oS p e below T51 (mkF m 102 #[oI p1, oI p2, oI p3, oI b11, oI 0, oI b17, oI vi23, oI vi26, oI vi29, oI vi32, oU, oU, oU] [ow b51, ow b42, ow b42]) _
        exact k)
      obtain ⟨_, _, ⟨T63, L63, k63, n63⟩, -, X63, hS63, hgr63, ⟨Lc63, hQ63, l63, y63, z63, cr63⟩, st63⟩ := X51.specialBackS hx (y := (⟨"java/lang/String", "<init>", "([C)V"⟩ : MethodName)) rfl hown (mvT hZ (oW hw 4 rfl)) (mvT hZ (oW hw 5 rfl)) (mvT hZ (oW hw 6 rfl)) (by decide) (backOfSH (W := 1) (rm_s0 l Z a0 hw [] b42 b51 k51 h51 n0 OL60 ge_b42 f57 f59 f58 V51) hZ (oW hw 6 rfl) (oW hw 2 rfl) (by decide) (by decide) hEL CH56) (g := (mkF m 102 #[oI p1, oI p2, oI p3, oI b11, oI 0, oI b17, oI vi23, oI vi26, oI vi29, oI vi32, oU, oU, oU] [ow b51, ow b42, ow b42])) rfl (by rw [hml]; rfl) (Steps.refl _) (a := b42) (argsL := [(.ref b51)]) (rest := [(.ref b42)]) (lenOf pd___C_V rfl) rfl (by show 2 * 0 + _ ≤ _; exact Nat.le_of_eq rfl) (hb hby at_102) (fun _ _ => ⟨rfl, e51, (by decide : 2 + 2 ≤ _), (by decide : 4 + 4 ≤ _)⟩)
      dsimp only [Pt.U, Pt.locs, Pt.cells, Pt.slots] at X63 l63 y63 z63 st63 hQ63 hS63 hgr63 cr63
      subst l63 y63 z63
      obtain ⟨X63, hS, hZ, hown⟩ := rebS hS (by rw [e51]; exact hk : _ ≤ T51.heap.size) X63 hS63 hgr63 hZ hown
      have hk : T63.heap.size ≤ T63.heap.size := Nat.le_refl _
      obtain ⟨rfl, N63q, Kq63, Eq63, Fc63, tt63, kb63, nx63, lt63, Fv63, Va63⟩ := hQ63
      have N63 := Fr.app N0 N63q
      have sf64 := cr63.safe f57.lt sf54
      have sf65 := cr63.safe V51.lt sf55
      have CH66 := cr63.1
      have CR66 := CR56.trans cr63
      have f67 := f57.keep Kq63
      have f68 := V51.keep Kq63 (ninS (Ne.symm ne53) nin0)
      have OL69 := OL60.keep Kq63 (allS ge_b42 all0)
      have K70 : Keep h0 T63.heap [] := K61.trans Kq63 (allS (Or.inr sz_b42) all0)
      have pre71 : oL p e below T63 (mkF m 194 #[oI p1, oI p2, oI p3, oI b11, oI 0, oI b17, oI vi23, oI vi26, oI vi29, oI vi32, oR b42, oU, oU] []) s₁ (entryFrame m #[(.int p1), (.int p2), (.int p3)] maxLocals) := fun t k => pre62 t (by
        refine st63.trans ?_
        refine XS.astore X63.here hx rfl (hb hby at_105) rfl rfl (l' := #[oI p1, oI p2, oI p3, oI b11, oI 0, oI b17, oI vi23, oI vi26, oI vi29, oI vi32, oR b42, oU, oU]) rfl ?_
        refine XS.goto X63.here hx rfl (pc0 := 107) (pc' := 194) rfl (hb hby at_107) (by decide) (by decide) ?_
        exact k)
      obtain ⟨T72, h72, X72, e72, E72, A72, D72, -, st72⟩ := newO X63 hx hZ hown (oW hw 30 rfl) (oW hw 31 rfl) (oW hw 32 rfl) rfl (g := (mkF m 194 #[oI p1, oI p2, oI p3, oI b11, oI 0, oI b17, oI vi23, oI vi26, oI vi29, oI vi32, oR b42, oU, oU] [])) rfl (hb hby at_194) (by decide) (by decide)
      obtain ⟨b72, g72⟩ : ∃ z, z = T63.heap.size := ⟨_, rfl⟩
      rw [← g72] at A72 D72 st72
      have sf73 : Safe Z consts_1 T63.vm T63.heap b72 := Safe.new (Nat.le_of_eq g72.symm)
      have ne74 : b42 ≠ b72 := Nat.ne_of_lt (Nat.lt_of_lt_of_le Eq63.lt (Nat.le_of_eq g72.symm))
      have ne75 : b51 ≠ b72 := Nat.ne_of_lt (Nat.lt_of_lt_of_le f68.lt (Nat.le_of_eq g72.symm))
      have ne76 : tt63 ≠ b72 := Nat.ne_of_lt (Nat.lt_of_lt_of_le Va63.lt (Nat.le_of_eq g72.symm))
      have ge_b72 : n0 ≤ b72 := Nat.le_trans (OL69.1 ▸ OL69.2.1) (Nat.le_of_eq g72.symm)
      have sz_b72 : h0.size ≤ b72 := Nat.le_trans K70.1 (Nat.le_of_eq g72.symm)
      have sf77 := Safe.ext E72 CH66 sf64
      have sf78 := Safe.ext E72 CH66 sf65
      have sf79 := Safe.ext E72 CH66 sf73
      have cr80 := CHr.ext E72 CH66
      have CH80 := cr80.1
      have CR80 := CR66.trans cr80
      have f81 := Eq63.ext E72
      have f82 := f68.ext E72
      have f83 := Fc63.ext E72
      have f84 := Fv63.ext E72
      have f85 := Va63.ext E72
      have OL86 := OL69.ext E72
      have K87 : Keep h0 h72 [] := K70.ext E72
      have hk := Nat.le_trans hk E72.1
      have f88 : Fld Z h72 b72 "com/example/vedette/vedette/definition/PositionDefinition" "name" "Ljava/lang/String;" .null := D72 (Or.inr (oW hw 60 rfl)) (ty := (.object "java/lang/String")) (by decide)
      have f89 : Fld Z h72 b72 "com/example/vedette/vedette/definition/PositionDefinition" "values" "Ljava/lang/String;" .null := D72 (Or.inr (oW hw 62 rfl)) (ty := (.object "java/lang/String")) (by decide)
      have f90 : Fld Z h72 b72 "com/example/vedette/vedette/definition/PositionDefinition" "labels" "Ljava/util/Map;" .null := D72 (Or.inr (oW hw 64 rfl)) (ty := (.object "java/util/Map")) (by decide)
      have pre91 : oL p e below T72 (mkF m 198 #[oI p1, oI p2, oI p3, oI b11, oI 0, oI b17, oI vi23, oI vi26, oI vi29, oI vi32, oR b42, oU, oU] [ow b72, ow b72]) s₁ (entryFrame m #[(.int p1), (.int p2), (.int p3)] maxLocals) := fun t k => pre71 t (by
        refine st72 _ ?_
        show oS p e below T72 (mkF m 197 #[oI p1, oI p2, oI p3, oI b11, oI 0, oI b17, oI vi23, oI vi26, oI vi29, oI vi32, oR b42, oU, oU] [ow b72]) _
        refine XS.dup X72.here hx rfl (hb hby at_197) rfl rfl ?_
        exact k)
      obtain ⟨la92, T92, h92, kx92, lb92, kb92, X92, e92, E92, hS, hkn92, hZ, hown, Ea92, Fc92, Fv92, Va92, lta92, ltb92, cr92, Lt92, sep92, st92⟩ := ldcCH X72 hx hZ hown (oW hw 33 rfl) wS e72 hS hk hEL (List.mem_of_getElem? (i := 0) rfl) CH80 (vs := [(.int (112 : Int32))]) (z := (1 : Int32)) ⟨by decide, rfl⟩ (by decide) rfl (g := (mkF m 198 #[oI p1, oI p2, oI p3, oI b11, oI 0, oI b17, oI vi23, oI vi26, oI vi29, oI vi32, oR b42, oU, oU] [ow b72, ow b72])) rfl (hb hby at_198) (n := 4) (by decide) (by decide) (by decide) (by decide)
      have f93 := f81.ext E92
      have f94 := f82.ext E92
      have f95 := f83.ext E92
      have f96 := f84.ext E92
      have f97 := f85.ext E92
      have f98 := A72.ext E92
      have f99 := f88.ext E92
      have f100 := f89.ext E92
      have f101 := f90.ext E92
      have OL102 := OL86.ext E92
      have K103 : Keep h0 h92 [] := K87.ext E92
      have sf104 := cr92.safe f81.lt sf77
      have sp105 := sep92 _ sf104
      have sf106 := cr92.safe f82.lt sf78
      have sp107 := sep92 _ sf106
      have sf108 := cr92.safe A72.lt sf79
      have sp109 := sep92 _ sf108
      have CH92 := cr92.1
      have CR92 := CR80.trans cr92
      have hk := hkn92
      have pre110 : oL p e below T92 (mkF m 202 #[oI p1, oI p2, oI p3, oI b11, oI 0, oI b17, oI vi23, oI vi26, oI vi29, oI vi32, oR b42, oU, oU] [ow b42, ow la92, ow b72, ow b72]) s₁ (entryFrame m #[(.int p1), (.int p2), (.int p3)] maxLocals) := fun t k => pre91 t (by
        refine st92 _ ?_
        refine XS.aload X92.here hx rfl (hb hby at_200) rfl rfl ?_
        exact k)
      obtain ⟨_, _, ⟨T111, L111, k111, n111⟩, -, X111, ⟨Lc111, hQ111, l111, y111, z111⟩, st111⟩ := X92.specialBack hx (y := (⟨"com/example/vedette/vedette/definition/PositionDefinition", "<init>", "(Ljava/lang/String;Ljava/lang/String;)V"⟩ : MethodName)) rfl hown (mvT hZ (oW hw 36 rfl)) (mvT hZ (oW hw 37 rfl)) (mvT hZ (oW hw 38 rfl)) (by decide) (backOf (W := 1) (rm_pd2 l Z a0 hw [] b72 la92 (.ref b42) wM h92 n0 OL102 ge_b72 f98 f99 f100 f101 rfl sM eM) hZ (oW hw 38 rfl) (oW hw 32 rfl) (by decide) (by decide)) (g := (mkF m 202 #[oI p1, oI p2, oI p3, oI b11, oI 0, oI b17, oI vi23, oI vi26, oI vi29, oI vi32, oR b42, oU, oU] [ow b42, ow la92, ow b72, ow b72])) rfl (by rw [hml]; rfl) (Steps.refl _) (a := b72) (argsL := [(.ref la92), (.ref b42)]) (rest := [(.ref b72)]) (lenOf pd__Ljava_lang_String_Ljava_lang_String__V rfl) rfl (by show 2 * 0 + _ ≤ _; exact Nat.le_of_eq rfl) (hb hby at_202) (fun _ _ => ⟨rfl, e92, (by decide : 7 + 0 ≤ _), (by decide : 19 + 0 ≤ _)⟩)
      dsimp only [Pt.U, Pt.locs, Pt.cells, Pt.slots] at X111 l111 y111 z111 st111 hQ111
      subst l111 y111 z111
      obtain ⟨rfl, N111q, Kq111, Eq111, F0_111, F1_111, F2_111⟩ := hQ111
      have N111 := Fr.app N63 N111q
      have sf112 := Safe.keep Kq111 ((allS sf108 all0) : ∀ x ∈ [b72], Safe Z consts_1 T92.vm h92 x) CH92 sf104
      have sf113 := Safe.keep Kq111 ((allS sf108 all0) : ∀ x ∈ [b72], Safe Z consts_1 T92.vm h92 x) CH92 sf106
      have sf114 := Safe.keep Kq111 ((allS sf108 all0) : ∀ x ∈ [b72], Safe Z consts_1 T92.vm h92 x) CH92 sf108
      have cr115 := CHr.keep Kq111 ((allS sf108 all0) : ∀ x ∈ [b72], Safe Z consts_1 T92.vm h92 x) CH92
      have CH115 := cr115.1
      have CR115 := CR92.trans cr115
      have hk := Nat.le_trans hk Kq111.1
      have f116 := f93.keep Kq111
      have f117 := f94.keep Kq111 (ninS ne75 nin0)
      have f118 := f95.keep Kq111 (ninS ne74 nin0)
      have f119 := f96.keep Kq111 (ninS ne74 nin0)
      have f120 := f97.keep Kq111 (ninS ne76 nin0)
      have f121 := f98.keep Kq111
      have f122 := Ea92.keep Kq111
      have f123 := Fc92.keep Kq111 (ninS (Ne.symm sp109.1) nin0)
      have f124 := Fv92.keep Kq111 (ninS (Ne.symm sp109.1) nin0)
      have f125 := Va92.keep Kq111 (ninS (Ne.symm sp109.2) nin0)
      have OL126 := OL102.keep Kq111 (allS ge_b72 all0)
      have K127 : Keep h0 T111.heap [] := K103.trans Kq111 (allS (Or.inr sz_b72) all0)
      have pre128 : oL p e below T111 (mkF m 207 #[oI p1, oI p2, oI p3, oI b11, oI 0, oI b17, oI vi23, oI vi26, oI vi29, oI vi32, oR b42, oR b72, oU] []) s₁ (entryFrame m #[(.int p1), (.int p2), (.int p3)] maxLocals) := fun t k => pre110 t (by
        refine st111.trans ?_
        show oS p e below T111 (mkF m 205 #[oI p1, oI p2, oI p3, oI b11, oI 0, oI b17, oI vi23, oI vi26, oI vi29, oI vi32, oR b42, oU, oU] [ow b72]) _
        refine XS.astore X111.here hx rfl (hb hby at_205) rfl rfl (l' := #[oI p1, oI p2, oI p3, oI b11, oI 0, oI b17, oI vi23, oI vi26, oI vi29, oI vi32, oR b42, oR b72, oU]) rfl ?_
        exact k)
      obtain ⟨vi129, hj129, pre129⟩ : ∃ vi129 : Int32, (vi129 = if (if vi32 < 0 then -1 else if (255 : Int32) < vi32 then -1 else (-1 : Int32)) < 0 then 0 else 1) ∧ oL p e below T111 (mkF m 263 #[oI p1, oI p2, oI p3, oI b11, oI 0, oI b17, oI vi23, oI vi26, oI vi29, oI vi32, oR b42, oR b72, oI vi129] []) s₁ (entryFrame m #[(.int p1), (.int p2), (.int p3)] maxLocals) := by
        have pre130 : oL p e below T111 (mkF m 263 #[oI p1, oI p2, oI p3, oI b11, oI 0, oI b17, oI vi23, oI vi26, oI vi29, oI vi32, oR b42, oR b72, oI 0] []) s₁ (entryFrame m #[(.int p1), (.int p2), (.int p3)] maxLocals) := fun t k => pre128 t (by
          refine XS.iloadN X111.here hx rfl (hb hby at_207) rfl ?_
          refine XS.ifYes X111.here hx rfl (pc0 := 208) (pc' := 217) rfl (hb hby at_208) rfl ((if0 _ _).trans (teq hc38).1) (by decide) (by decide) ?_
          refine XS.iload X111.here hx rfl (hb hby at_217) rfl ?_
          show oS p e below T111 (mkF m 219 #[oI p1, oI p2, oI p3, oI b11, oI 0, oI b17, oI vi23, oI vi26, oI vi29, oI vi32, oR b42, oR b72, oU] [oi 0]) _
          refine XS.iconst X111.here hx rfl (hb hby at_219) ?_
          refine XS.icmpYes X111.here hx rfl (pc0 := 220) (pc' := 230) rfl (hb hby at_220) rfl (tlt (by decide : (0 : Int32) < (1 : Int32))).1 (by decide) (by decide) ?_
          refine XS.iload X111.here hx rfl (hb hby at_230) rfl ?_
          refine XS.iconst X111.here hx rfl (hb hby at_232) ?_
          show oS p e below T111 (mkF m 233 #[oI p1, oI p2, oI p3, oI b11, oI 0, oI b17, oI vi23, oI vi26, oI vi29, oI vi32, oR b42, oR b72, oU] [oi 2, oi 0]) _
          refine XS.icmpYes X111.here hx rfl (pc0 := 233) (pc' := 243) rfl (hb hby at_233) rfl (tlt (by decide : (0 : Int32) < (2 : Int32))).1 (by decide) (by decide) ?_
          refine XS.iload X111.here hx rfl (hb hby at_243) rfl ?_
          refine XS.iconst X111.here hx rfl (hb hby at_245) ?_
          refine XS.icmpYes X111.here hx rfl (pc0 := 246) (pc' := 260) rfl (hb hby at_246) rfl (tlt (by decide : (0 : Int32) < (3 : Int32))).1 (by decide) (by decide) ?_
          show oS p e below T111 (mkF m 260 #[oI p1, oI p2, oI p3, oI b11, oI 0, oI b17, oI vi23, oI vi26, oI vi29, oI vi32, oR b42, oR b72, oU] []) _
          refine XS.iconst X111.here hx rfl (hb hby at_260) ?_
          refine XS.istore X111.here hx rfl (hb hby at_261) rfl (l' := #[oI p1, oI p2, oI p3, oI b11, oI 0, oI b17, oI vi23, oI vi26, oI vi29, oI vi32, oR b42, oR b72, oI 0]) rfl ?_
          exact k)
        exact ⟨(0 : Int32), (own_al0 vi32), pre130⟩
      have pre131 : oL p e below T111 (mkF m 267 #[oI p1, oI p2, oI p3, oI b11, oI 0, oI b17, oI vi23, oI vi26, oI vi29, oI vi32, oR b42, oR b72, oI vi129] [oi vi32, ow b72]) s₁ (entryFrame m #[(.int p1), (.int p2), (.int p3)] maxLocals) := fun t k => pre129 t (by
        refine XS.aload X111.here hx rfl (hb hby at_263) rfl rfl ?_
        refine XS.iload X111.here hx rfl (hb hby at_265) rfl ?_
        exact k)
      obtain ⟨cq132, kq132, q132a, q132b, q132c⟩ := isOf hZ rfl Eq111
      obtain ⟨_, _, ⟨T132, L132, k132, n132⟩, -, X132, ⟨Lc132, hQ132, l132, y132, z132⟩, st132⟩ := X111.virtualBack hx (y := (⟨"com/example/vedette/vedette/definition/PositionDefinition", "allows", "(I)Z"⟩ : MethodName)) (z := (⟨"com/example/vedette/vedette/definition/PositionDefinition", "allows", "(I)Z"⟩ : MethodName)) hown (mvT hZ (oW hw 65 rfl)) (mvT hZ (oW hw 66 rfl)) (notFace_of_selects (args := #[]) (mvT hZ (oW hw 68 rfl))) (mvT hZ (oW hw 68 rfl)) (mvT hZ (oW hw 67 rfl)) (by decide) (backOf (W := 0) (rm_al0 l Z a0 hw [] b72 b42 tt63 kb63 G1 vi32  (if vi32 < 0 then -1 else if (255 : Int32) < vi32 then -1 else (-1 : Int32)) vi129 T111.heap n0 OL126 O2 P5 f116 f119 f118 f120 rfl F1_111 hj129) hZ (oW hw 69 rfl) (oW hw 32 rfl) (by decide) (by decide)) q132a q132c (g := (mkF m 267 #[oI p1, oI p2, oI p3, oI b11, oI 0, oI b17, oI vi23, oI vi26, oI vi29, oI vi32, oR b42, oR b72, oI vi129] [oi vi32, ow b72])) rfl (by rw [hml]; rfl) (Steps.refl _) (argsL := [(.int vi32)]) (rest := []) (lenOf pd__I_Z rfl) rfl (by show 2 * 0 + _ ≤ _; exact Nat.le_of_eq rfl) (hb hby at_267) (fun _ _ => ⟨rfl, rfl, (by decide : 7 + 0 ≤ _), (by decide : 19 + 0 ≤ _)⟩)
      dsimp only [Pt.U, Pt.locs, Pt.cells, Pt.slots] at X132 l132 y132 z132 st132 hQ132
      subst l132 y132 z132
      obtain ⟨rfl, N132q, e132⟩ := hQ132
      have N132 := Fr.app N111 N132q
      have pre133 : oL p e below T132 (mkF m 280 #[oI p1, oI p2, oI p3, oI b11, oI 0, oI b17, oI vi23, oI vi26, oI vi29, oI vi32, oR b42, oR b72, oI vi129] [oi 1]) s₁ (entryFrame m #[(.int p1), (.int p2), (.int p3)] maxLocals) := fun t k => pre131 t (by
        refine st132.trans ?_
        show oS p e below T132 (mkF m 270 #[oI p1, oI p2, oI p3, oI b11, oI 0, oI b17, oI vi23, oI vi26, oI vi29, oI vi32, oR b42, oR b72, oI vi129] [oi vi129]) _
        refine XS.iload X132.here hx rfl (hb hby at_270) rfl ?_
        refine XS.icmpNo X132.here hx rfl (hb hby at_272) rfl (teq (rfl : vi129 = vi129)).2 ?_
        refine XS.iconst X132.here hx rfl (hb hby at_275) ?_
        refine XS.goto X132.here hx rfl (pc0 := 276) (pc' := 280) rfl (hb hby at_276) (by decide) (by decide) ?_
        show oS p e below T132 (mkF m 280 #[oI p1, oI p2, oI p3, oI b11, oI 0, oI b17, oI vi23, oI vi26, oI vi29, oI vi32, oR b42, oR b72, oI vi129] [oi 1]) _
        exact k)
      obtain ⟨fs, hr, hrun, hended, hEnd⟩ := X132.leaveW hS (by rw [e132]; exact hk) (v := some (.int (1 : Int32))) (fun h => by rw [Bd.returns] at h; cases h)
      refine ⟨_, _, pre133 _ ?_, hrun, hended, _, _, rfl, ?_, (by show CHr Z consts_1 s.vm s.heap T132.vm T132.heap; rw [hh, e132]; exact CR115.trans (CHv.at X132 hZ hEL CH115)), hEnd.1, hEnd.2.1, hEnd.2.2.1, hEnd.2.2.2.mono (by decide) (by decide)⟩
      ·
        show oS p e below T132 (mkF m 280 #[oI p1, oI p2, oI p3, oI b11, oI 0, oI b17, oI vi23, oI vi26, oI vi29, oI vi32, oR b42, oR b72, oI vi129] [oi 1]) _
        exact retN X132 hx (t := .boolean) Bd.returns (by simp) (hb hby at_280) hr
      ·
        show Q_rm0 Z p1 p2 p3 G1 wM h0 n0 _ T132.heap _
        rw [e132]
        exact ⟨rfl, N132⟩
    ·
      rw [hl40] at pre39
      have pre134 : oL p e below s₁ (mkF m 116 #[oI p1, oI p2, oI p3, oI b11, oI 1, oI b17, oI vi23, oI vi26, oI vi29, oI vi32, oU, oU, oU] []) s₁ (entryFrame m #[(.int p1), (.int p2), (.int p3)] maxLocals) := fun t k => pre39 t (by
        refine XS.ifYes X0.here hx rfl (pc0 := 92) (pc' := 110) rfl (hb hby at_92) rfl ((if0 _ _).trans (feq (by decide : ¬ ((1 : Int32) = (0 : Int32)))).2) (by decide) (by decide) ?_
        show oS p e below s₁ (mkF m 110 #[oI p1, oI p2, oI p3, oI b11, oI 1, oI b17, oI vi23, oI vi26, oI vi29, oI vi32, oU, oU, oU] []) _
        refine XS.iload X0.here hx rfl (hb hby at_110) rfl ?_
        refine XS.iconst X0.here hx rfl (hb hby at_112) ?_
        refine XS.icmpNo X0.here hx rfl (hb hby at_113) rfl (teq (by decide : (1 : Int32) = (1 : Int32))).2 ?_
        exact k)
      obtain ⟨T135, h135, X135, e135, E135, A135, D135, -, st135⟩ := newO X0 hx hZ hown (oW hw 0 rfl) (oW hw 1 rfl) (oW hw 2 rfl) e0 (g := (mkF m 116 #[oI p1, oI p2, oI p3, oI b11, oI 1, oI b17, oI vi23, oI vi26, oI vi29, oI vi32, oU, oU, oU] [])) rfl (hb hby at_116) (by decide) (by decide)
      obtain ⟨b135, g135⟩ : ∃ z, z = h0.size := ⟨_, rfl⟩
      rw [← g135] at A135 D135 st135
      have sf136 : Safe Z consts_1 s.vm h0 b135 := Safe.new (Nat.le_of_eq g135.symm)
      have ge_b135 : n0 ≤ b135 := Nat.le_trans (OL.1 ▸ OL.2.1) (Nat.le_of_eq g135.symm)
      have sz_b135 : h0.size ≤ b135 := Nat.le_trans (Keep.refl h0 []).1 (Nat.le_of_eq g135.symm)
      have sf137 := Safe.ext E135 CH0 sf136
      have cr138 := CHr.ext E135 CH0
      have CH138 := cr138.1
      have CR138 := CR0.trans cr138
      have OL139 := OL.ext E135
      have K140 : Keep h0 h135 [] := (Keep.refl h0 []).ext E135
      have hk := Nat.le_trans hk E135.1
      have f141 : Fld Z h135 b135 "java/lang/String" "coder" "B" (.int (0 : Int32)) := D135 (Or.inr (oW hw 27 rfl)) (ty := .byte) (by decide)
      have f142 : Fld Z h135 b135 "java/lang/String" "value" "[B" .null := D135 (Or.inr (oW hw 29 rfl)) (ty := (.array .byte)) (by decide)
      have pre143 : oL p e below T135 (mkF m 121 #[oI p1, oI p2, oI p3, oI b11, oI 1, oI b17, oI vi23, oI vi26, oI vi29, oI vi32, oU, oU, oU] [oi 1, ow b135, ow b135]) s₁ (entryFrame m #[(.int p1), (.int p2), (.int p3)] maxLocals) := fun t k => pre134 t (by
        refine st135 _ ?_
        show oS p e below T135 (mkF m 119 #[oI p1, oI p2, oI p3, oI b11, oI 1, oI b17, oI vi23, oI vi26, oI vi29, oI vi32, oU, oU, oU] [ow b135]) _
        refine XS.dup X135.here hx rfl (hb hby at_119) rfl rfl ?_
        refine XS.iconst X135.here hx rfl (hb hby at_120) ?_
        exact k)
      obtain ⟨T144, h144, k144, X144, e144, E144, A144, st144⟩ := newP X135 hx hZ (oW hw 3 rfl) e135 (g := (mkF m 121 #[oI p1, oI p2, oI p3, oI b11, oI 1, oI b17, oI vi23, oI vi26, oI vi29, oI vi32, oU, oU, oU] [oi 1, ow b135, ow b135])) rfl (hb hby at_121) rfl (by decide) (cap := 1) (by decide) (by decide) (by decide) (by decide)
      obtain ⟨b144, g144⟩ : ∃ z, z = h135.size := ⟨_, rfl⟩
      rw [← g144] at A144 st144
      have sf145 : Safe Z consts_1 s.vm h135 b144 := Safe.new (Nat.le_of_eq g144.symm)
      have ne146 : b135 ≠ b144 := Nat.ne_of_lt (Nat.lt_of_lt_of_le A135.lt (Nat.le_of_eq g144.symm))
      have ge_b144 : n0 ≤ b144 := Nat.le_trans (OL139.1 ▸ OL139.2.1) (Nat.le_of_eq g144.symm)
      have sz_b144 : h0.size ≤ b144 := Nat.le_trans K140.1 (Nat.le_of_eq g144.symm)
      have sf147 := Safe.ext E144 CH138 sf137
      have sf148 := Safe.ext E144 CH138 sf145
      have cr149 := CHr.ext E144 CH138
      have CH149 := cr149.1
      have CR149 := CR138.trans cr149
      have f150 := A135.ext E144
      have f151 := f141.ext E144
      have f152 := f142.ext E144
      have OL153 := OL139.ext E144
      have K154 : Keep h0 h144 [] := K140.ext E144
      have hk := Nat.le_trans hk E144.1
      have V144 : Arv Z h144 b144 k144 .char (1 : Int32) [(.int (0 : Int32))] (.int (0 : Int32)) := (Arv.new A144 (by decide)).pad (pad_rep [] (.int (0 : Int32)) 1)
      have pre155 : oL p e below T144 (mkF m 127 #[oI p1, oI p2, oI p3, oI b11, oI 1, oI b17, oI vi23, oI vi26, oI vi29, oI vi32, oU, oU, oU] [oi vi23, oi 0, ow b144, ow b144, ow b135, ow b135]) s₁ (entryFrame m #[(.int p1), (.int p2), (.int p3)] maxLocals) := fun t k => pre143 t (by
        refine st144 _ ?_
        refine XS.dup X144.here hx rfl (hb hby at_123) rfl rfl ?_
        show oS p e below T144 (mkF m 124 #[oI p1, oI p2, oI p3, oI b11, oI 1, oI b17, oI vi23, oI vi26, oI vi29, oI vi32, oU, oU, oU] [ow b144, ow b144, ow b135, ow b135]) _
        refine XS.iconst X144.here hx rfl (hb hby at_124) ?_
        refine XS.iload X144.here hx rfl (hb hby at_125) rfl ?_
        exact k)
      obtain ⟨cl156, Ar156, qc156, Sz156, Nn156, Hs156, Gs156⟩ := id V144
      obtain ⟨T156, h156, X156, e156, W156, st156⟩ := stC X144 hx hZ e144 Ar156 (j := (0 : Int32)) (inb_of Sz156 ⟨by decide, by decide⟩) (g := (mkF m 127 #[oI p1, oI p2, oI p3, oI b11, oI 1, oI b17, oI vi23, oI vi26, oI vi29, oI vi32, oU, oU, oU] [oi vi23, oi 0, ow b144, ow b144, ow b135, ow b135])) rfl rfl (hb hby at_127)
      rw [hj23.2] at W156
      have V156 : Arv Z h156 b144 k144 .char (1 : Int32) [(.int vi23)] (.int (0 : Int32)) := Arv.set Ar156 qc156 Sz156 Nn156 Hs156 Gs156 (own_fitw_char hj23.2) W156 0 rfl (Nat.le_of_ble_eq_true rfl)
      have N156 := Fr.snoc X156 N0 ge_b144
      have sf157 := Safe.wr W156 sf148 CH149 sf147
      have sf158 := Safe.wr W156 sf148 CH149 sf148
      have cr159 := CHr.wr W156 sf148 CH149
      have CH159 := cr159.1
      have CR159 := CR149.trans cr159
      have hk := Nat.le_trans hk (Keep.of_wr W156).1
      have f160 := f150.wr W156
      have f161 := f151.other W156 (Or.inl ne146)
      have f162 := f152.other W156 (Or.inl ne146)
      have OL163 := OL153.wr W156 ge_b144
      have K164 : Keep h0 h156 [] := K154.wr W156 (Or.inr sz_b144)
      have hp165 : ∀ c ∈ ([vi23] : List Int32), ¬ c < 0 ∧ ¬ (255 : Int32) < c := by
        intro c hc
        simp only [List.mem_cons, List.not_mem_nil, or_false] at hc
        rcases hc with rfl
        · exact hj23.1
      have pre166 : oL p e below T156 (mkF m 128 #[oI p1, oI p2, oI p3, oI b11, oI 1, oI b17, oI vi23, oI vi26, oI vi29, oI vi32, oU, oU, oU] [ow b144, ow b135, ow b135]) s₁ (entryFrame m #[(.int p1), (.int p2), (.int p3)] maxLocals) := fun t k => pre155 t (by
        refine st156 _ ?_
        exact k)
      obtain ⟨_, _, ⟨T167, L167, k167, n167⟩, -, X167, ⟨Lc167, hQ167, l167, y167, z167⟩, st167⟩ := X156.specialBack hx (y := (⟨"java/lang/String", "<init>", "([C)V"⟩ : MethodName)) rfl hown (mvT hZ (oW hw 4 rfl)) (mvT hZ (oW hw 5 rfl)) (mvT hZ (oW hw 6 rfl)) (by decide) (StrChars.Road.backV (W := 1) hZ (fun d hd => hw d (own_hws d hd)) (kI := 4) (oW hw 1 rfl) (cs := ([vi23] : List Int32)) (bs := (([vi23] : List Int32)).map (fun c => c.toInt8.toInt32)) (n := 1) ge_b135 (OL163.1 ▸ OL163.2.1) f160 f162 f161 V156 (O2.ext OL163.2) P5 rfl rfl (by decide) (by decide) hp165 rfl (by decide) (by decide)) (g := (mkF m 128 #[oI p1, oI p2, oI p3, oI b11, oI 1, oI b17, oI vi23, oI vi26, oI vi29, oI vi32, oU, oU, oU] [ow b144, ow b135, ow b135])) rfl (by rw [hml]; rfl) (Steps.refl _) (a := b135) (argsL := [(.ref b144)]) (rest := [(.ref b135)]) (lenOf pd___C_V rfl) rfl (by show 2 * 0 + _ ≤ _; exact Nat.le_of_eq rfl) (hb hby at_128) (fun _ _ => ⟨rfl, e156, (by decide : 2 + 1 ≤ _), (by decide : 5 + 1 ≤ _)⟩)
      dsimp only [Pt.U, Pt.locs, Pt.cells, Pt.slots] at X167 l167 y167 z167 st167 hQ167
      subst l167 y167 z167
      obtain ⟨rfl, N167q, Kq167, Eq167, Fc167, tt167, kb167, gt167, sq167, nx167, Fv167, Va167⟩ := hQ167
      have N167 := Fr.app N156 N167q
      have sf168 : Safe Z consts_1 s.vm h156 tt167 := Safe.new sq167
      have ne169 : b135 ≠ tt167 := Nat.ne_of_lt (Nat.lt_of_lt_of_le f160.lt sq167)
      have ne170 : b144 ≠ tt167 := Nat.ne_of_lt (Nat.lt_of_lt_of_le V156.lt sq167)
      have ge_tt167 : n0 ≤ tt167 := Nat.le_trans (OL163.1 ▸ OL163.2.1) sq167
      have sz_tt167 : h0.size ≤ tt167 := Nat.le_trans K164.1 sq167
      have sf171 := Safe.keep Kq167 ((allS sf157 all0) : ∀ x ∈ [b135], Safe Z consts_1 s.vm h156 x) CH159 sf157
      have sf172 := Safe.keep Kq167 ((allS sf157 all0) : ∀ x ∈ [b135], Safe Z consts_1 s.vm h156 x) CH159 sf158
      have sf173 := Safe.keep Kq167 ((allS sf157 all0) : ∀ x ∈ [b135], Safe Z consts_1 s.vm h156 x) CH159 sf168
      have cr174 := CHr.keep Kq167 ((allS sf157 all0) : ∀ x ∈ [b135], Safe Z consts_1 s.vm h156 x) CH159
      have CH174 := cr174.1
      have CR174 := CR159.trans cr174
      have hk := Nat.le_trans hk Kq167.1
      have f175 := f160.keep Kq167
      have f176 := V156.keep Kq167 (ninS (Ne.symm ne146) nin0)
      have OL177 := OL163.keep Kq167 (allS ge_b135 all0)
      have K178 : Keep h0 T167.heap [] := K164.trans Kq167 (allS (Or.inr sz_b135) all0)
      have Vb167 : Arv Z T167.heap tt167 kb167 .byte (1 : Int32) [(.int (vi23.toInt8.toInt32))] (.int (0 : Int32)) := Va167
      have pre179 : oL p e below T167 (mkF m 194 #[oI p1, oI p2, oI p3, oI b11, oI 1, oI b17, oI vi23, oI vi26, oI vi29, oI vi32, oR b135, oU, oU] []) s₁ (entryFrame m #[(.int p1), (.int p2), (.int p3)] maxLocals) := fun t k => pre166 t (by
        refine st167.trans ?_
        show oS p e below T167 (mkF m 131 #[oI p1, oI p2, oI p3, oI b11, oI 1, oI b17, oI vi23, oI vi26, oI vi29, oI vi32, oU, oU, oU] [ow b135]) _
        refine XS.astore X167.here hx rfl (hb hby at_131) rfl rfl (l' := #[oI p1, oI p2, oI p3, oI b11, oI 1, oI b17, oI vi23, oI vi26, oI vi29, oI vi32, oR b135, oU, oU]) rfl ?_
        refine XS.goto X167.here hx rfl (pc0 := 133) (pc' := 194) rfl (hb hby at_133) (by decide) (by decide) ?_
        exact k)
      obtain ⟨T180, h180, X180, e180, E180, A180, D180, -, st180⟩ := newO X167 hx hZ hown (oW hw 30 rfl) (oW hw 31 rfl) (oW hw 32 rfl) rfl (g := (mkF m 194 #[oI p1, oI p2, oI p3, oI b11, oI 1, oI b17, oI vi23, oI vi26, oI vi29, oI vi32, oR b135, oU, oU] [])) rfl (hb hby at_194) (by decide) (by decide)
      obtain ⟨b180, g180⟩ : ∃ z, z = T167.heap.size := ⟨_, rfl⟩
      rw [← g180] at A180 D180 st180
      have sf181 : Safe Z consts_1 s.vm T167.heap b180 := Safe.new (Nat.le_of_eq g180.symm)
      have ne182 : b135 ≠ b180 := Nat.ne_of_lt (Nat.lt_of_lt_of_le f175.lt (Nat.le_of_eq g180.symm))
      have ne183 : b144 ≠ b180 := Nat.ne_of_lt (Nat.lt_of_lt_of_le f176.lt (Nat.le_of_eq g180.symm))
      have ne184 : tt167 ≠ b180 := Nat.ne_of_lt (Nat.lt_of_lt_of_le Vb167.lt (Nat.le_of_eq g180.symm))
      have ge_b180 : n0 ≤ b180 := Nat.le_trans (OL177.1 ▸ OL177.2.1) (Nat.le_of_eq g180.symm)
      have sz_b180 : h0.size ≤ b180 := Nat.le_trans K178.1 (Nat.le_of_eq g180.symm)
      have sf185 := Safe.ext E180 CH174 sf171
      have sf186 := Safe.ext E180 CH174 sf172
      have sf187 := Safe.ext E180 CH174 sf173
      have sf188 := Safe.ext E180 CH174 sf181
      have cr189 := CHr.ext E180 CH174
      have CH189 := cr189.1
      have CR189 := CR174.trans cr189
      have f190 := f175.ext E180
      have f191 := f176.ext E180
      have f192 := Fc167.ext E180
      have f193 := Fv167.ext E180
      have f194 := Vb167.ext E180
      have OL195 := OL177.ext E180
      have K196 : Keep h0 h180 [] := K178.ext E180
      have hk := Nat.le_trans hk E180.1
      have f197 : Fld Z h180 b180 "com/example/vedette/vedette/definition/PositionDefinition" "name" "Ljava/lang/String;" .null := D180 (Or.inr (oW hw 60 rfl)) (ty := (.object "java/lang/String")) (by decide)
      have f198 : Fld Z h180 b180 "com/example/vedette/vedette/definition/PositionDefinition" "values" "Ljava/lang/String;" .null := D180 (Or.inr (oW hw 62 rfl)) (ty := (.object "java/lang/String")) (by decide)
      have f199 : Fld Z h180 b180 "com/example/vedette/vedette/definition/PositionDefinition" "labels" "Ljava/util/Map;" .null := D180 (Or.inr (oW hw 64 rfl)) (ty := (.object "java/util/Map")) (by decide)
      have pre200 : oL p e below T180 (mkF m 198 #[oI p1, oI p2, oI p3, oI b11, oI 1, oI b17, oI vi23, oI vi26, oI vi29, oI vi32, oR b135, oU, oU] [ow b180, ow b180]) s₁ (entryFrame m #[(.int p1), (.int p2), (.int p3)] maxLocals) := fun t k => pre179 t (by
        refine st180 _ ?_
        refine XS.dup X180.here hx rfl (hb hby at_197) rfl rfl ?_
        show oS p e below T180 (mkF m 198 #[oI p1, oI p2, oI p3, oI b11, oI 1, oI b17, oI vi23, oI vi26, oI vi29, oI vi32, oR b135, oU, oU] [ow b180, ow b180]) _
        exact k)
      obtain ⟨la201, T201, h201, kx201, lb201, kb201, X201, e201, E201, hS, hkn201, hZ, hown, Ea201, Fc201, Fv201, Va201, lta201, ltb201, cr201, Lt201, sep201, st201⟩ := ldcCH X180 hx hZ hown (oW hw 33 rfl) wS e180 hS hk hEL (List.mem_of_getElem? (i := 0) rfl) CH189 (vs := [(.int (112 : Int32))]) (z := (1 : Int32)) ⟨by decide, rfl⟩ (by decide) rfl (g := (mkF m 198 #[oI p1, oI p2, oI p3, oI b11, oI 1, oI b17, oI vi23, oI vi26, oI vi29, oI vi32, oR b135, oU, oU] [ow b180, ow b180])) rfl (hb hby at_198) (n := 4) (by decide) (by decide) (by decide) (by decide)
      have f202 := f190.ext E201
      have f203 := f191.ext E201
      have f204 := f192.ext E201
      have f205 := f193.ext E201
      have f206 := f194.ext E201
      have f207 := A180.ext E201
      have f208 := f197.ext E201
      have f209 := f198.ext E201
      have f210 := f199.ext E201
      have OL211 := OL195.ext E201
      have K212 : Keep h0 h201 [] := K196.ext E201
      have sf213 := cr201.safe f190.lt sf185
      have sp214 := sep201 _ sf213
      have sf215 := cr201.safe f191.lt sf186
      have sp216 := sep201 _ sf215
      have sf217 := cr201.safe f194.lt sf187
      have sp218 := sep201 _ sf217
      have sf219 := cr201.safe A180.lt sf188
      have sp220 := sep201 _ sf219
      have CH201 := cr201.1
      have CR201 := CR189.trans cr201
      have hk := hkn201
      have pre221 : oL p e below T201 (mkF m 202 #[oI p1, oI p2, oI p3, oI b11, oI 1, oI b17, oI vi23, oI vi26, oI vi29, oI vi32, oR b135, oU, oU] [ow b135, ow la201, ow b180, ow b180]) s₁ (entryFrame m #[(.int p1), (.int p2), (.int p3)] maxLocals) := fun t k => pre200 t (by
        refine st201 _ ?_
        refine XS.aload X201.here hx rfl (hb hby at_200) rfl rfl ?_
        exact k)
      obtain ⟨_, _, ⟨T222, L222, k222, n222⟩, -, X222, ⟨Lc222, hQ222, l222, y222, z222⟩, st222⟩ := X201.specialBack hx (y := (⟨"com/example/vedette/vedette/definition/PositionDefinition", "<init>", "(Ljava/lang/String;Ljava/lang/String;)V"⟩ : MethodName)) rfl hown (mvT hZ (oW hw 36 rfl)) (mvT hZ (oW hw 37 rfl)) (mvT hZ (oW hw 38 rfl)) (by decide) (backOf (W := 1) (rm_pd2 l Z a0 hw [] b180 la201 (.ref b135) wM h201 n0 OL211 ge_b180 f207 f208 f209 f210 rfl sM eM) hZ (oW hw 38 rfl) (oW hw 32 rfl) (by decide) (by decide)) (g := (mkF m 202 #[oI p1, oI p2, oI p3, oI b11, oI 1, oI b17, oI vi23, oI vi26, oI vi29, oI vi32, oR b135, oU, oU] [ow b135, ow la201, ow b180, ow b180])) rfl (by rw [hml]; rfl) (Steps.refl _) (a := b180) (argsL := [(.ref la201), (.ref b135)]) (rest := [(.ref b180)]) (lenOf pd__Ljava_lang_String_Ljava_lang_String__V rfl) rfl (by show 2 * 0 + _ ≤ _; exact Nat.le_of_eq rfl) (hb hby at_202) (fun _ _ => ⟨rfl, e201, (by decide : 6 + 0 ≤ _), (by decide : 17 + 0 ≤ _)⟩)
      dsimp only [Pt.U, Pt.locs, Pt.cells, Pt.slots] at X222 l222 y222 z222 st222 hQ222
      subst l222 y222 z222
      obtain ⟨rfl, N222q, Kq222, Eq222, F0_222, F1_222, F2_222⟩ := hQ222
      have N222 := Fr.app N167 N222q
      have sf223 := Safe.keep Kq222 ((allS sf219 all0) : ∀ x ∈ [b180], Safe Z consts_1 T201.vm h201 x) CH201 sf213
      have sf224 := Safe.keep Kq222 ((allS sf219 all0) : ∀ x ∈ [b180], Safe Z consts_1 T201.vm h201 x) CH201 sf215
      have sf225 := Safe.keep Kq222 ((allS sf219 all0) : ∀ x ∈ [b180], Safe Z consts_1 T201.vm h201 x) CH201 sf217
      have sf226 := Safe.keep Kq222 ((allS sf219 all0) : ∀ x ∈ [b180], Safe Z consts_1 T201.vm h201 x) CH201 sf219
      have cr227 := CHr.keep Kq222 ((allS sf219 all0) : ∀ x ∈ [b180], Safe Z consts_1 T201.vm h201 x) CH201
      have CH227 := cr227.1
      have CR227 := CR201.trans cr227
      have hk := Nat.le_trans hk Kq222.1
      have f228 := f202.keep Kq222
      have f229 := f203.keep Kq222 (ninS ne183 nin0)
      have f230 := f204.keep Kq222 (ninS ne182 nin0)
      have f231 := f205.keep Kq222 (ninS ne182 nin0)
      have f232 := f206.keep Kq222 (ninS ne184 nin0)
      have f233 := f207.keep Kq222
      have f234 := Ea201.keep Kq222
      have f235 := Fc201.keep Kq222 (ninS (Ne.symm sp220.1) nin0)
      have f236 := Fv201.keep Kq222 (ninS (Ne.symm sp220.1) nin0)
      have f237 := Va201.keep Kq222 (ninS (Ne.symm sp220.2) nin0)
      have OL238 := OL211.keep Kq222 (allS ge_b180 all0)
      have K239 : Keep h0 T222.heap [] := K212.trans Kq222 (allS (Or.inr sz_b180) all0)
      have pre240 : oL p e below T222 (mkF m 207 #[oI p1, oI p2, oI p3, oI b11, oI 1, oI b17, oI vi23, oI vi26, oI vi29, oI vi32, oR b135, oR b180, oU] []) s₁ (entryFrame m #[(.int p1), (.int p2), (.int p3)] maxLocals) := fun t k => pre221 t (by
        refine st222.trans ?_
        refine XS.astore X222.here hx rfl (hb hby at_205) rfl rfl (l' := #[oI p1, oI p2, oI p3, oI b11, oI 1, oI b17, oI vi23, oI vi26, oI vi29, oI vi32, oR b135, oR b180, oU]) rfl ?_
        show oS p e below T222 (mkF m 207 #[oI p1, oI p2, oI p3, oI b11, oI 1, oI b17, oI vi23, oI vi26, oI vi29, oI vi32, oR b135, oR b180, oU] []) _
        exact k)
      obtain ⟨vi241, hj241, pre241⟩ : ∃ vi241 : Int32, (vi241 = if (if vi32 < 0 then -1 else if (255 : Int32) < vi32 then -1 else (if (vi23.toInt8.toInt32) = (vi32.toInt8.toInt32) then 0 else -1 : Int32)) < 0 then 0 else 1) ∧ oL p e below T222 (mkF m 263 #[oI p1, oI p2, oI p3, oI b11, oI 1, oI b17, oI vi23, oI vi26, oI vi29, oI vi32, oR b135, oR b180, oI vi241] []) s₁ (entryFrame m #[(.int p1), (.int p2), (.int p3)] maxLocals) := by
        have pre242 : oL p e below T222 (mkF m 227 #[oI p1, oI p2, oI p3, oI b11, oI 1, oI b17, oI vi23, oI vi26, oI vi29, oI vi32, oR b135, oR b180, oU] [oi vi23, oi vi32]) s₁ (entryFrame m #[(.int p1), (.int p2), (.int p3)] maxLocals) := fun t k => pre240 t (by
          refine XS.iloadN X222.here hx rfl (hb hby at_207) rfl ?_
          refine XS.ifYes X222.here hx rfl (pc0 := 208) (pc' := 217) rfl (hb hby at_208) rfl ((if0 _ _).trans (teq hc38).1) (by decide) (by decide) ?_
          refine XS.iload X222.here hx rfl (hb hby at_217) rfl ?_
          refine XS.iconst X222.here hx rfl (hb hby at_219) ?_
          show oS p e below T222 (mkF m 220 #[oI p1, oI p2, oI p3, oI b11, oI 1, oI b17, oI vi23, oI vi26, oI vi29, oI vi32, oR b135, oR b180, oU] [oi 1, oi 1]) _
          refine XS.icmpNo X222.here hx rfl (hb hby at_220) rfl (flt (by decide : ¬ ((1 : Int32) < (1 : Int32)))).1 ?_
          refine XS.iload X222.here hx rfl (hb hby at_223) rfl ?_
          refine XS.iload X222.here hx rfl (hb hby at_225) rfl ?_
          exact k)
        by_cases hc243 : vi32 = vi23
        ·
          have pre244 : oL p e below T222 (mkF m 263 #[oI p1, oI p2, oI p3, oI b11, oI 1, oI b17, oI vi23, oI vi26, oI vi29, oI vi32, oR b135, oR b180, oI 1] []) s₁ (entryFrame m #[(.int p1), (.int p2), (.int p3)] maxLocals) := fun t k => pre242 t (by
            refine XS.icmpYes X222.here hx rfl (pc0 := 227) (pc' := 256) rfl (hb hby at_227) rfl (teq hc243).1 (by decide) (by decide) ?_
            show oS p e below T222 (mkF m 256 #[oI p1, oI p2, oI p3, oI b11, oI 1, oI b17, oI vi23, oI vi26, oI vi29, oI vi32, oR b135, oR b180, oU] []) _
            refine XS.iconst X222.here hx rfl (hb hby at_256) ?_
            refine XS.goto X222.here hx rfl (pc0 := 257) (pc' := 261) rfl (hb hby at_257) (by decide) (by decide) ?_
            refine XS.istore X222.here hx rfl (hb hby at_261) rfl (l' := #[oI p1, oI p2, oI p3, oI b11, oI 1, oI b17, oI vi23, oI vi26, oI vi29, oI vi32, oR b135, oR b180, oI 1]) rfl ?_
            exact k)
          exact ⟨(1 : Int32), (own_al1_yes0 hj23.1 hc243), pre244⟩
        ·
          have pre245 : oL p e below T222 (mkF m 263 #[oI p1, oI p2, oI p3, oI b11, oI 1, oI b17, oI vi23, oI vi26, oI vi29, oI vi32, oR b135, oR b180, oI 0] []) s₁ (entryFrame m #[(.int p1), (.int p2), (.int p3)] maxLocals) := fun t k => pre242 t (by
            refine XS.icmpNo X222.here hx rfl (hb hby at_227) rfl (feq hc243).1 ?_
            show oS p e below T222 (mkF m 230 #[oI p1, oI p2, oI p3, oI b11, oI 1, oI b17, oI vi23, oI vi26, oI vi29, oI vi32, oR b135, oR b180, oU] []) _
            refine XS.iload X222.here hx rfl (hb hby at_230) rfl ?_
            refine XS.iconst X222.here hx rfl (hb hby at_232) ?_
            refine XS.icmpYes X222.here hx rfl (pc0 := 233) (pc' := 243) rfl (hb hby at_233) rfl (tlt (by decide : (1 : Int32) < (2 : Int32))).1 (by decide) (by decide) ?_
            refine XS.iload X222.here hx rfl (hb hby at_243) rfl ?_
            show oS p e below T222 (mkF m 245 #[oI p1, oI p2, oI p3, oI b11, oI 1, oI b17, oI vi23, oI vi26, oI vi29, oI vi32, oR b135, oR b180, oU] [oi 1]) _
            refine XS.iconst X222.here hx rfl (hb hby at_245) ?_
            refine XS.icmpYes X222.here hx rfl (pc0 := 246) (pc' := 260) rfl (hb hby at_246) rfl (tlt (by decide : (1 : Int32) < (3 : Int32))).1 (by decide) (by decide) ?_
            refine XS.iconst X222.here hx rfl (hb hby at_260) ?_
            refine XS.istore X222.here hx rfl (hb hby at_261) rfl (l' := #[oI p1, oI p2, oI p3, oI b11, oI 1, oI b17, oI vi23, oI vi26, oI vi29, oI vi32, oR b135, oR b180, oI 0]) rfl ?_
            show oS p e below T222 (mkF m 263 #[oI p1, oI p2, oI p3, oI b11, oI 1, oI b17, oI vi23, oI vi26, oI vi29, oI vi32, oR b135, oR b180, oI 0] []) _
            exact k)
          exact ⟨(0 : Int32), (own_al1_no hj23.1 hc243), pre245⟩
      have pre246 : oL p e below T222 (mkF m 267 #[oI p1, oI p2, oI p3, oI b11, oI 1, oI b17, oI vi23, oI vi26, oI vi29, oI vi32, oR b135, oR b180, oI vi241] [oi vi32, ow b180]) s₁ (entryFrame m #[(.int p1), (.int p2), (.int p3)] maxLocals) := fun t k => pre241 t (by
        refine XS.aload X222.here hx rfl (hb hby at_263) rfl rfl ?_
        refine XS.iload X222.here hx rfl (hb hby at_265) rfl ?_
        exact k)
      obtain ⟨cq247, kq247, q247a, q247b, q247c⟩ := isOf hZ rfl Eq222
      obtain ⟨_, _, ⟨T247, L247, k247, n247⟩, -, X247, ⟨Lc247, hQ247, l247, y247, z247⟩, st247⟩ := X222.virtualBack hx (y := (⟨"com/example/vedette/vedette/definition/PositionDefinition", "allows", "(I)Z"⟩ : MethodName)) (z := (⟨"com/example/vedette/vedette/definition/PositionDefinition", "allows", "(I)Z"⟩ : MethodName)) hown (mvT hZ (oW hw 65 rfl)) (mvT hZ (oW hw 66 rfl)) (notFace_of_selects (args := #[]) (mvT hZ (oW hw 68 rfl))) (mvT hZ (oW hw 68 rfl)) (mvT hZ (oW hw 67 rfl)) (by decide) (backOf (W := 0) (rm_al1 l Z a0 hw [] b180 b135 tt167 kb167 G1 vi32 (vi23.toInt8.toInt32) (if vi32 < 0 then -1 else if (255 : Int32) < vi32 then -1 else (if (vi23.toInt8.toInt32) = (vi32.toInt8.toInt32) then 0 else -1 : Int32)) vi241 T222.heap n0 OL238 O2 P5 f228 f231 f230 f232 rfl F1_222 hj241) hZ (oW hw 69 rfl) (oW hw 32 rfl) (by decide) (by decide)) q247a q247c (g := (mkF m 267 #[oI p1, oI p2, oI p3, oI b11, oI 1, oI b17, oI vi23, oI vi26, oI vi29, oI vi32, oR b135, oR b180, oI vi241] [oi vi32, ow b180])) rfl (by rw [hml]; rfl) (Steps.refl _) (argsL := [(.int vi32)]) (rest := []) (lenOf pd__I_Z rfl) rfl (by show 2 * 0 + _ ≤ _; exact Nat.le_of_eq rfl) (hb hby at_267) (fun _ _ => ⟨rfl, rfl, (by decide : 6 + 0 ≤ _), (by decide : 17 + 0 ≤ _)⟩)
      dsimp only [Pt.U, Pt.locs, Pt.cells, Pt.slots] at X247 l247 y247 z247 st247 hQ247
      subst l247 y247 z247
      obtain ⟨rfl, N247q, e247⟩ := hQ247
      have N247 := Fr.app N222 N247q
      have pre248 : oL p e below T247 (mkF m 280 #[oI p1, oI p2, oI p3, oI b11, oI 1, oI b17, oI vi23, oI vi26, oI vi29, oI vi32, oR b135, oR b180, oI vi241] [oi 1]) s₁ (entryFrame m #[(.int p1), (.int p2), (.int p3)] maxLocals) := fun t k => pre246 t (by
        refine st247.trans ?_
        refine XS.iload X247.here hx rfl (hb hby at_270) rfl ?_
        show oS p e below T247 (mkF m 272 #[oI p1, oI p2, oI p3, oI b11, oI 1, oI b17, oI vi23, oI vi26, oI vi29, oI vi32, oR b135, oR b180, oI vi241] [oi vi241, oi vi241]) _
        refine XS.icmpNo X247.here hx rfl (hb hby at_272) rfl (teq (rfl : vi241 = vi241)).2 ?_
        refine XS.iconst X247.here hx rfl (hb hby at_275) ?_
        refine XS.goto X247.here hx rfl (pc0 := 276) (pc' := 280) rfl (hb hby at_276) (by decide) (by decide) ?_
        exact k)
      obtain ⟨fs, hr, hrun, hended, hEnd⟩ := X247.leaveW hS (by rw [e247]; exact hk) (v := some (.int (1 : Int32))) (fun h => by rw [Bd.returns] at h; cases h)
      refine ⟨_, _, pre248 _ ?_, hrun, hended, _, _, rfl, ?_, (by show CHr Z consts_1 s.vm s.heap T247.vm T247.heap; rw [hh, e247]; exact CR227.trans (CHv.at X247 hZ hEL CH227)), hEnd.1, hEnd.2.1, hEnd.2.2.1, hEnd.2.2.2.mono (by decide) (by decide)⟩
      ·
        show oS p e below T247 (mkF m 280 #[oI p1, oI p2, oI p3, oI b11, oI 1, oI b17, oI vi23, oI vi26, oI vi29, oI vi32, oR b135, oR b180, oI vi241] [oi 1]) _
        exact retN X247 hx (t := .boolean) Bd.returns (by simp) (hb hby at_280) hr
      ·
        show Q_rm0 Z p1 p2 p3 G1 wM h0 n0 _ T247.heap _
        rw [e247]
        exact ⟨rfl, N247⟩
    ·
      rw [hl40] at pre39
      have pre249 : oL p e below s₁ (mkF m 142 #[oI p1, oI p2, oI p3, oI b11, oI 2, oI b17, oI vi23, oI vi26, oI vi29, oI vi32, oU, oU, oU] []) s₁ (entryFrame m #[(.int p1), (.int p2), (.int p3)] maxLocals) := fun t k => pre39 t (by
        refine XS.ifYes X0.here hx rfl (pc0 := 92) (pc' := 110) rfl (hb hby at_92) rfl ((if0 _ _).trans (feq (by decide : ¬ ((2 : Int32) = (0 : Int32)))).2) (by decide) (by decide) ?_
        show oS p e below s₁ (mkF m 110 #[oI p1, oI p2, oI p3, oI b11, oI 2, oI b17, oI vi23, oI vi26, oI vi29, oI vi32, oU, oU, oU] []) _
        refine XS.iload X0.here hx rfl (hb hby at_110) rfl ?_
        refine XS.iconst X0.here hx rfl (hb hby at_112) ?_
        refine XS.icmpYes X0.here hx rfl (pc0 := 113) (pc' := 136) rfl (hb hby at_113) rfl (feq (by decide : ¬ ((2 : Int32) = (1 : Int32)))).2 (by decide) (by decide) ?_
        refine XS.iload X0.here hx rfl (hb hby at_136) rfl ?_
        show oS p e below s₁ (mkF m 138 #[oI p1, oI p2, oI p3, oI b11, oI 2, oI b17, oI vi23, oI vi26, oI vi29, oI vi32, oU, oU, oU] [oi 2]) _
        refine XS.iconst X0.here hx rfl (hb hby at_138) ?_
        refine XS.icmpNo X0.here hx rfl (hb hby at_139) rfl (teq (by decide : (2 : Int32) = (2 : Int32))).2 ?_
        exact k)
      obtain ⟨T250, h250, X250, e250, E250, A250, D250, -, st250⟩ := newO X0 hx hZ hown (oW hw 0 rfl) (oW hw 1 rfl) (oW hw 2 rfl) e0 (g := (mkF m 142 #[oI p1, oI p2, oI p3, oI b11, oI 2, oI b17, oI vi23, oI vi26, oI vi29, oI vi32, oU, oU, oU] [])) rfl (hb hby at_142) (by decide) (by decide)
      obtain ⟨b250, g250⟩ : ∃ z, z = h0.size := ⟨_, rfl⟩
      rw [← g250] at A250 D250 st250
      have sf251 : Safe Z consts_1 s.vm h0 b250 := Safe.new (Nat.le_of_eq g250.symm)
      have ge_b250 : n0 ≤ b250 := Nat.le_trans (OL.1 ▸ OL.2.1) (Nat.le_of_eq g250.symm)
      have sz_b250 : h0.size ≤ b250 := Nat.le_trans (Keep.refl h0 []).1 (Nat.le_of_eq g250.symm)
      have sf252 := Safe.ext E250 CH0 sf251
      have cr253 := CHr.ext E250 CH0
      have CH253 := cr253.1
      have CR253 := CR0.trans cr253
      have OL254 := OL.ext E250
      have K255 : Keep h0 h250 [] := (Keep.refl h0 []).ext E250
      have hk := Nat.le_trans hk E250.1
      have f256 : Fld Z h250 b250 "java/lang/String" "coder" "B" (.int (0 : Int32)) := D250 (Or.inr (oW hw 27 rfl)) (ty := .byte) (by decide)
      have f257 : Fld Z h250 b250 "java/lang/String" "value" "[B" .null := D250 (Or.inr (oW hw 29 rfl)) (ty := (.array .byte)) (by decide)
      have pre258 : oL p e below T250 (mkF m 147 #[oI p1, oI p2, oI p3, oI b11, oI 2, oI b17, oI vi23, oI vi26, oI vi29, oI vi32, oU, oU, oU] [oi 2, ow b250, ow b250]) s₁ (entryFrame m #[(.int p1), (.int p2), (.int p3)] maxLocals) := fun t k => pre249 t (by
        refine st250 _ ?_
        refine XS.dup X250.here hx rfl (hb hby at_145) rfl rfl ?_
        show oS p e below T250 (mkF m 146 #[oI p1, oI p2, oI p3, oI b11, oI 2, oI b17, oI vi23, oI vi26, oI vi29, oI vi32, oU, oU, oU] [ow b250, ow b250]) _
        refine XS.iconst X250.here hx rfl (hb hby at_146) ?_
        exact k)
      obtain ⟨T259, h259, k259, X259, e259, E259, A259, st259⟩ := newP X250 hx hZ (oW hw 3 rfl) e250 (g := (mkF m 147 #[oI p1, oI p2, oI p3, oI b11, oI 2, oI b17, oI vi23, oI vi26, oI vi29, oI vi32, oU, oU, oU] [oi 2, ow b250, ow b250])) rfl (hb hby at_147) rfl (by decide) (cap := 2) (by decide) (by decide) (by decide) (by decide)
      obtain ⟨b259, g259⟩ : ∃ z, z = h250.size := ⟨_, rfl⟩
      rw [← g259] at A259 st259
      have sf260 : Safe Z consts_1 s.vm h250 b259 := Safe.new (Nat.le_of_eq g259.symm)
      have ne261 : b250 ≠ b259 := Nat.ne_of_lt (Nat.lt_of_lt_of_le A250.lt (Nat.le_of_eq g259.symm))
      have ge_b259 : n0 ≤ b259 := Nat.le_trans (OL254.1 ▸ OL254.2.1) (Nat.le_of_eq g259.symm)
      have sz_b259 : h0.size ≤ b259 := Nat.le_trans K255.1 (Nat.le_of_eq g259.symm)
      have sf262 := Safe.ext E259 CH253 sf252
      have sf263 := Safe.ext E259 CH253 sf260
      have cr264 := CHr.ext E259 CH253
      have CH264 := cr264.1
      have CR264 := CR253.trans cr264
      have f265 := A250.ext E259
      have f266 := f256.ext E259
      have f267 := f257.ext E259
      have OL268 := OL254.ext E259
      have K269 : Keep h0 h259 [] := K255.ext E259
      have hk := Nat.le_trans hk E259.1
      have V259 : Arv Z h259 b259 k259 .char (2 : Int32) [(.int (0 : Int32)), (.int (0 : Int32))] (.int (0 : Int32)) := (Arv.new A259 (by decide)).pad (pad_rep [] (.int (0 : Int32)) 2)
      have pre270 : oL p e below T259 (mkF m 153 #[oI p1, oI p2, oI p3, oI b11, oI 2, oI b17, oI vi23, oI vi26, oI vi29, oI vi32, oU, oU, oU] [oi vi23, oi 0, ow b259, ow b259, ow b250, ow b250]) s₁ (entryFrame m #[(.int p1), (.int p2), (.int p3)] maxLocals) := fun t k => pre258 t (by
        refine st259 _ ?_
        refine XS.dup X259.here hx rfl (hb hby at_149) rfl rfl ?_
        refine XS.iconst X259.here hx rfl (hb hby at_150) ?_
        show oS p e below T259 (mkF m 151 #[oI p1, oI p2, oI p3, oI b11, oI 2, oI b17, oI vi23, oI vi26, oI vi29, oI vi32, oU, oU, oU] [oi 0, ow b259, ow b259, ow b250, ow b250]) _
        refine XS.iload X259.here hx rfl (hb hby at_151) rfl ?_
        exact k)
      obtain ⟨cl271, Ar271, qc271, Sz271, Nn271, Hs271, Gs271⟩ := id V259
      obtain ⟨T271, h271, X271, e271, W271, st271⟩ := stC X259 hx hZ e259 Ar271 (j := (0 : Int32)) (inb_of Sz271 ⟨by decide, by decide⟩) (g := (mkF m 153 #[oI p1, oI p2, oI p3, oI b11, oI 2, oI b17, oI vi23, oI vi26, oI vi29, oI vi32, oU, oU, oU] [oi vi23, oi 0, ow b259, ow b259, ow b250, ow b250])) rfl rfl (hb hby at_153)
      rw [hj23.2] at W271
      have V271 : Arv Z h271 b259 k259 .char (2 : Int32) [(.int vi23), (.int (0 : Int32))] (.int (0 : Int32)) := Arv.set Ar271 qc271 Sz271 Nn271 Hs271 Gs271 (own_fitw_char hj23.2) W271 0 rfl (Nat.le_of_ble_eq_true rfl)
      have N271 := Fr.snoc X271 N0 ge_b259
      have sf272 := Safe.wr W271 sf263 CH264 sf262
      have sf273 := Safe.wr W271 sf263 CH264 sf263
      have cr274 := CHr.wr W271 sf263 CH264
      have CH274 := cr274.1
      have CR274 := CR264.trans cr274
      have hk := Nat.le_trans hk (Keep.of_wr W271).1
      have f275 := f265.wr W271
      have f276 := f266.other W271 (Or.inl ne261)
      have f277 := f267.other W271 (Or.inl ne261)
      have OL278 := OL268.wr W271 ge_b259
      have K279 : Keep h0 h271 [] := K269.wr W271 (Or.inr sz_b259)
      have pre280 : oL p e below T271 (mkF m 158 #[oI p1, oI p2, oI p3, oI b11, oI 2, oI b17, oI vi23, oI vi26, oI vi29, oI vi32, oU, oU, oU] [oi vi26, oi 1, ow b259, ow b259, ow b250, ow b250]) s₁ (entryFrame m #[(.int p1), (.int p2), (.int p3)] maxLocals) := fun t k => pre270 t (by
        refine st271 _ ?_
        refine XS.dup X271.here hx rfl (hb hby at_154) rfl rfl ?_
        refine XS.iconst X271.here hx rfl (hb hby at_155) ?_
        show oS p e below T271 (mkF m 156 #[oI p1, oI p2, oI p3, oI b11, oI 2, oI b17, oI vi23, oI vi26, oI vi29, oI vi32, oU, oU, oU] [oi 1, ow b259, ow b259, ow b250, ow b250]) _
        refine XS.iload X271.here hx rfl (hb hby at_156) rfl ?_
        exact k)
      obtain ⟨cl281, Ar281, qc281, Sz281, Nn281, Hs281, Gs281⟩ := id V271
      obtain ⟨T281, h281, X281, e281, W281, st281⟩ := stC X271 hx hZ e271 Ar281 (j := (1 : Int32)) (inb_of Sz281 ⟨by decide, by decide⟩) (g := (mkF m 158 #[oI p1, oI p2, oI p3, oI b11, oI 2, oI b17, oI vi23, oI vi26, oI vi29, oI vi32, oU, oU, oU] [oi vi26, oi 1, ow b259, ow b259, ow b250, ow b250])) rfl rfl (hb hby at_158)
      rw [hj26.2] at W281
      have V281 : Arv Z h281 b259 k259 .char (2 : Int32) [(.int vi23), (.int vi26)] (.int (0 : Int32)) := Arv.set Ar281 qc281 Sz281 Nn281 Hs281 Gs281 (own_fitw_char hj26.2) W281 1 rfl (Nat.le_of_ble_eq_true rfl)
      have N281 := Fr.snoc X281 N271 ge_b259
      have sf282 := Safe.wr W281 sf273 CH274 sf272
      have sf283 := Safe.wr W281 sf273 CH274 sf273
      have cr284 := CHr.wr W281 sf273 CH274
      have CH284 := cr284.1
      have CR284 := CR274.trans cr284
      have hk := Nat.le_trans hk (Keep.of_wr W281).1
      have f285 := f275.wr W281
      have f286 := f276.other W281 (Or.inl ne261)
      have f287 := f277.other W281 (Or.inl ne261)
      have OL288 := OL278.wr W281 ge_b259
      have K289 : Keep h0 h281 [] := K279.wr W281 (Or.inr sz_b259)
      have hp290 : ∀ c ∈ ([vi23, vi26] : List Int32), ¬ c < 0 ∧ ¬ (255 : Int32) < c := by
        intro c hc
        simp only [List.mem_cons, List.not_mem_nil, or_false] at hc
        rcases hc with rfl | rfl
        · exact hj23.1
        · exact hj26.1
      have pre291 : oL p e below T281 (mkF m 159 #[oI p1, oI p2, oI p3, oI b11, oI 2, oI b17, oI vi23, oI vi26, oI vi29, oI vi32, oU, oU, oU] [ow b259, ow b250, ow b250]) s₁ (entryFrame m #[(.int p1), (.int p2), (.int p3)] maxLocals) := fun t k => pre280 t (by
        refine st281 _ ?_
        exact k)
      obtain ⟨_, _, ⟨T292, L292, k292, n292⟩, -, X292, ⟨Lc292, hQ292, l292, y292, z292⟩, st292⟩ := X281.specialBack hx (y := (⟨"java/lang/String", "<init>", "([C)V"⟩ : MethodName)) rfl hown (mvT hZ (oW hw 4 rfl)) (mvT hZ (oW hw 5 rfl)) (mvT hZ (oW hw 6 rfl)) (by decide) (StrChars.Road.backV (W := 1) hZ (fun d hd => hw d (own_hws d hd)) (kI := 4) (oW hw 1 rfl) (cs := ([vi23, vi26] : List Int32)) (bs := (([vi23, vi26] : List Int32)).map (fun c => c.toInt8.toInt32)) (n := 2) ge_b250 (OL288.1 ▸ OL288.2.1) f285 f287 f286 V281 (O2.ext OL288.2) P5 rfl rfl (by decide) (by decide) hp290 rfl (by decide) (by decide)) (g := (mkF m 159 #[oI p1, oI p2, oI p3, oI b11, oI 2, oI b17, oI vi23, oI vi26, oI vi29, oI vi32, oU, oU, oU] [ow b259, ow b250, ow b250])) rfl (by rw [hml]; rfl) (Steps.refl _) (a := b250) (argsL := [(.ref b259)]) (rest := [(.ref b250)]) (lenOf pd___C_V rfl) rfl (by show 2 * 0 + _ ≤ _; exact Nat.le_of_eq rfl) (hb hby at_159) (fun _ _ => ⟨rfl, e281, (by decide : 2 + 1 ≤ _), (by decide : 6 + 2 ≤ _)⟩)
      dsimp only [Pt.U, Pt.locs, Pt.cells, Pt.slots] at X292 l292 y292 z292 st292 hQ292
      subst l292 y292 z292
      obtain ⟨rfl, N292q, Kq292, Eq292, Fc292, tt292, kb292, gt292, sq292, nx292, Fv292, Va292⟩ := hQ292
      have N292 := Fr.app N281 N292q
      have sf293 : Safe Z consts_1 s.vm h281 tt292 := Safe.new sq292
      have ne294 : b250 ≠ tt292 := Nat.ne_of_lt (Nat.lt_of_lt_of_le f285.lt sq292)
      have ne295 : b259 ≠ tt292 := Nat.ne_of_lt (Nat.lt_of_lt_of_le V281.lt sq292)
      have ge_tt292 : n0 ≤ tt292 := Nat.le_trans (OL288.1 ▸ OL288.2.1) sq292
      have sz_tt292 : h0.size ≤ tt292 := Nat.le_trans K289.1 sq292
      have sf296 := Safe.keep Kq292 ((allS sf282 all0) : ∀ x ∈ [b250], Safe Z consts_1 s.vm h281 x) CH284 sf282
      have sf297 := Safe.keep Kq292 ((allS sf282 all0) : ∀ x ∈ [b250], Safe Z consts_1 s.vm h281 x) CH284 sf283
      have sf298 := Safe.keep Kq292 ((allS sf282 all0) : ∀ x ∈ [b250], Safe Z consts_1 s.vm h281 x) CH284 sf293
      have cr299 := CHr.keep Kq292 ((allS sf282 all0) : ∀ x ∈ [b250], Safe Z consts_1 s.vm h281 x) CH284
      have CH299 := cr299.1
      have CR299 := CR284.trans cr299
      have hk := Nat.le_trans hk Kq292.1
      have f300 := f285.keep Kq292
      have f301 := V281.keep Kq292 (ninS (Ne.symm ne261) nin0)
      have OL302 := OL288.keep Kq292 (allS ge_b250 all0)
      have K303 : Keep h0 T292.heap [] := K289.trans Kq292 (allS (Or.inr sz_b250) all0)
      have Vb292 : Arv Z T292.heap tt292 kb292 .byte (2 : Int32) [(.int (vi23.toInt8.toInt32)), (.int (vi26.toInt8.toInt32))] (.int (0 : Int32)) := Va292
      have pre304 : oL p e below T292 (mkF m 194 #[oI p1, oI p2, oI p3, oI b11, oI 2, oI b17, oI vi23, oI vi26, oI vi29, oI vi32, oR b250, oU, oU] []) s₁ (entryFrame m #[(.int p1), (.int p2), (.int p3)] maxLocals) := fun t k => pre291 t (by
        refine st292.trans ?_
        refine XS.astore X292.here hx rfl (hb hby at_162) rfl rfl (l' := #[oI p1, oI p2, oI p3, oI b11, oI 2, oI b17, oI vi23, oI vi26, oI vi29, oI vi32, oR b250, oU, oU]) rfl ?_
        show oS p e below T292 (mkF m 164 #[oI p1, oI p2, oI p3, oI b11, oI 2, oI b17, oI vi23, oI vi26, oI vi29, oI vi32, oR b250, oU, oU] []) _
        refine XS.goto X292.here hx rfl (pc0 := 164) (pc' := 194) rfl (hb hby at_164) (by decide) (by decide) ?_
        exact k)
      obtain ⟨T305, h305, X305, e305, E305, A305, D305, -, st305⟩ := newO X292 hx hZ hown (oW hw 30 rfl) (oW hw 31 rfl) (oW hw 32 rfl) rfl (g := (mkF m 194 #[oI p1, oI p2, oI p3, oI b11, oI 2, oI b17, oI vi23, oI vi26, oI vi29, oI vi32, oR b250, oU, oU] [])) rfl (hb hby at_194) (by decide) (by decide)
      obtain ⟨b305, g305⟩ : ∃ z, z = T292.heap.size := ⟨_, rfl⟩
      rw [← g305] at A305 D305 st305
      have sf306 : Safe Z consts_1 s.vm T292.heap b305 := Safe.new (Nat.le_of_eq g305.symm)
      have ne307 : b250 ≠ b305 := Nat.ne_of_lt (Nat.lt_of_lt_of_le f300.lt (Nat.le_of_eq g305.symm))
      have ne308 : b259 ≠ b305 := Nat.ne_of_lt (Nat.lt_of_lt_of_le f301.lt (Nat.le_of_eq g305.symm))
      have ne309 : tt292 ≠ b305 := Nat.ne_of_lt (Nat.lt_of_lt_of_le Vb292.lt (Nat.le_of_eq g305.symm))
      have ge_b305 : n0 ≤ b305 := Nat.le_trans (OL302.1 ▸ OL302.2.1) (Nat.le_of_eq g305.symm)
      have sz_b305 : h0.size ≤ b305 := Nat.le_trans K303.1 (Nat.le_of_eq g305.symm)
      have sf310 := Safe.ext E305 CH299 sf296
      have sf311 := Safe.ext E305 CH299 sf297
      have sf312 := Safe.ext E305 CH299 sf298
      have sf313 := Safe.ext E305 CH299 sf306
      have cr314 := CHr.ext E305 CH299
      have CH314 := cr314.1
      have CR314 := CR299.trans cr314
      have f315 := f300.ext E305
      have f316 := f301.ext E305
      have f317 := Fc292.ext E305
      have f318 := Fv292.ext E305
      have f319 := Vb292.ext E305
      have OL320 := OL302.ext E305
      have K321 : Keep h0 h305 [] := K303.ext E305
      have hk := Nat.le_trans hk E305.1
      have f322 : Fld Z h305 b305 "com/example/vedette/vedette/definition/PositionDefinition" "name" "Ljava/lang/String;" .null := D305 (Or.inr (oW hw 60 rfl)) (ty := (.object "java/lang/String")) (by decide)
      have f323 : Fld Z h305 b305 "com/example/vedette/vedette/definition/PositionDefinition" "values" "Ljava/lang/String;" .null := D305 (Or.inr (oW hw 62 rfl)) (ty := (.object "java/lang/String")) (by decide)
      have f324 : Fld Z h305 b305 "com/example/vedette/vedette/definition/PositionDefinition" "labels" "Ljava/util/Map;" .null := D305 (Or.inr (oW hw 64 rfl)) (ty := (.object "java/util/Map")) (by decide)
      have pre325 : oL p e below T305 (mkF m 198 #[oI p1, oI p2, oI p3, oI b11, oI 2, oI b17, oI vi23, oI vi26, oI vi29, oI vi32, oR b250, oU, oU] [ow b305, ow b305]) s₁ (entryFrame m #[(.int p1), (.int p2), (.int p3)] maxLocals) := fun t k => pre304 t (by
        refine st305 _ ?_
        refine XS.dup X305.here hx rfl (hb hby at_197) rfl rfl ?_
        exact k)
      obtain ⟨la326, T326, h326, kx326, lb326, kb326, X326, e326, E326, hS, hkn326, hZ, hown, Ea326, Fc326, Fv326, Va326, lta326, ltb326, cr326, Lt326, sep326, st326⟩ := ldcCH X305 hx hZ hown (oW hw 33 rfl) wS e305 hS hk hEL (List.mem_of_getElem? (i := 0) rfl) CH314 (vs := [(.int (112 : Int32))]) (z := (1 : Int32)) ⟨by decide, rfl⟩ (by decide) rfl (g := (mkF m 198 #[oI p1, oI p2, oI p3, oI b11, oI 2, oI b17, oI vi23, oI vi26, oI vi29, oI vi32, oR b250, oU, oU] [ow b305, ow b305])) rfl (hb hby at_198) (n := 4) (by decide) (by decide) (by decide) (by decide)
      have f327 := f315.ext E326
      have f328 := f316.ext E326
      have f329 := f317.ext E326
      have f330 := f318.ext E326
      have f331 := f319.ext E326
      have f332 := A305.ext E326
      have f333 := f322.ext E326
      have f334 := f323.ext E326
      have f335 := f324.ext E326
      have OL336 := OL320.ext E326
      have K337 : Keep h0 h326 [] := K321.ext E326
      have sf338 := cr326.safe f315.lt sf310
      have sp339 := sep326 _ sf338
      have sf340 := cr326.safe f316.lt sf311
      have sp341 := sep326 _ sf340
      have sf342 := cr326.safe f319.lt sf312
      have sp343 := sep326 _ sf342
      have sf344 := cr326.safe A305.lt sf313
      have sp345 := sep326 _ sf344
      have CH326 := cr326.1
      have CR326 := CR314.trans cr326
      have hk := hkn326
      have pre346 : oL p e below T326 (mkF m 202 #[oI p1, oI p2, oI p3, oI b11, oI 2, oI b17, oI vi23, oI vi26, oI vi29, oI vi32, oR b250, oU, oU] [ow b250, ow la326, ow b305, ow b305]) s₁ (entryFrame m #[(.int p1), (.int p2), (.int p3)] maxLocals) := fun t k => pre325 t (by
        refine st326 _ ?_
        show oS p e below T326 (mkF m 200 #[oI p1, oI p2, oI p3, oI b11, oI 2, oI b17, oI vi23, oI vi26, oI vi29, oI vi32, oR b250, oU, oU] [ow la326, ow b305, ow b305]) _
        refine XS.aload X326.here hx rfl (hb hby at_200) rfl rfl ?_
        exact k)
      obtain ⟨_, _, ⟨T347, L347, k347, n347⟩, -, X347, ⟨Lc347, hQ347, l347, y347, z347⟩, st347⟩ := X326.specialBack hx (y := (⟨"com/example/vedette/vedette/definition/PositionDefinition", "<init>", "(Ljava/lang/String;Ljava/lang/String;)V"⟩ : MethodName)) rfl hown (mvT hZ (oW hw 36 rfl)) (mvT hZ (oW hw 37 rfl)) (mvT hZ (oW hw 38 rfl)) (by decide) (backOf (W := 1) (rm_pd2 l Z a0 hw [] b305 la326 (.ref b250) wM h326 n0 OL336 ge_b305 f332 f333 f334 f335 rfl sM eM) hZ (oW hw 38 rfl) (oW hw 32 rfl) (by decide) (by decide)) (g := (mkF m 202 #[oI p1, oI p2, oI p3, oI b11, oI 2, oI b17, oI vi23, oI vi26, oI vi29, oI vi32, oR b250, oU, oU] [ow b250, ow la326, ow b305, ow b305])) rfl (by rw [hml]; rfl) (Steps.refl _) (a := b305) (argsL := [(.ref la326), (.ref b250)]) (rest := [(.ref b305)]) (lenOf pd__Ljava_lang_String_Ljava_lang_String__V rfl) rfl (by show 2 * 0 + _ ≤ _; exact Nat.le_of_eq rfl) (hb hby at_202) (fun _ _ => ⟨rfl, e326, (by decide : 6 + 0 ≤ _), (by decide : 19 + 0 ≤ _)⟩)
      dsimp only [Pt.U, Pt.locs, Pt.cells, Pt.slots] at X347 l347 y347 z347 st347 hQ347
      subst l347 y347 z347
      obtain ⟨rfl, N347q, Kq347, Eq347, F0_347, F1_347, F2_347⟩ := hQ347
      have N347 := Fr.app N292 N347q
      have sf348 := Safe.keep Kq347 ((allS sf344 all0) : ∀ x ∈ [b305], Safe Z consts_1 T326.vm h326 x) CH326 sf338
      have sf349 := Safe.keep Kq347 ((allS sf344 all0) : ∀ x ∈ [b305], Safe Z consts_1 T326.vm h326 x) CH326 sf340
      have sf350 := Safe.keep Kq347 ((allS sf344 all0) : ∀ x ∈ [b305], Safe Z consts_1 T326.vm h326 x) CH326 sf342
      have sf351 := Safe.keep Kq347 ((allS sf344 all0) : ∀ x ∈ [b305], Safe Z consts_1 T326.vm h326 x) CH326 sf344
      have cr352 := CHr.keep Kq347 ((allS sf344 all0) : ∀ x ∈ [b305], Safe Z consts_1 T326.vm h326 x) CH326
      have CH352 := cr352.1
      have CR352 := CR326.trans cr352
      have hk := Nat.le_trans hk Kq347.1
      have f353 := f327.keep Kq347
      have f354 := f328.keep Kq347 (ninS ne308 nin0)
      have f355 := f329.keep Kq347 (ninS ne307 nin0)
      have f356 := f330.keep Kq347 (ninS ne307 nin0)
      have f357 := f331.keep Kq347 (ninS ne309 nin0)
      have f358 := f332.keep Kq347
      have f359 := Ea326.keep Kq347
      have f360 := Fc326.keep Kq347 (ninS (Ne.symm sp345.1) nin0)
      have f361 := Fv326.keep Kq347 (ninS (Ne.symm sp345.1) nin0)
      have f362 := Va326.keep Kq347 (ninS (Ne.symm sp345.2) nin0)
      have OL363 := OL336.keep Kq347 (allS ge_b305 all0)
      have K364 : Keep h0 T347.heap [] := K337.trans Kq347 (allS (Or.inr sz_b305) all0)
      have pre365 : oL p e below T347 (mkF m 207 #[oI p1, oI p2, oI p3, oI b11, oI 2, oI b17, oI vi23, oI vi26, oI vi29, oI vi32, oR b250, oR b305, oU] []) s₁ (entryFrame m #[(.int p1), (.int p2), (.int p3)] maxLocals) := fun t k => pre346 t (by
        refine st347.trans ?_
        refine XS.astore X347.here hx rfl (hb hby at_205) rfl rfl (l' := #[oI p1, oI p2, oI p3, oI b11, oI 2, oI b17, oI vi23, oI vi26, oI vi29, oI vi32, oR b250, oR b305, oU]) rfl ?_
        exact k)
      obtain ⟨vi366, hj366, pre366⟩ : ∃ vi366 : Int32, (vi366 = if (if vi32 < 0 then -1 else if (255 : Int32) < vi32 then -1 else (if (vi23.toInt8.toInt32) = (vi32.toInt8.toInt32) then 0 else if (vi26.toInt8.toInt32) = (vi32.toInt8.toInt32) then 1 else -1 : Int32)) < 0 then 0 else 1) ∧ oL p e below T347 (mkF m 263 #[oI p1, oI p2, oI p3, oI b11, oI 2, oI b17, oI vi23, oI vi26, oI vi29, oI vi32, oR b250, oR b305, oI vi366] []) s₁ (entryFrame m #[(.int p1), (.int p2), (.int p3)] maxLocals) := by
        have pre367 : oL p e below T347 (mkF m 227 #[oI p1, oI p2, oI p3, oI b11, oI 2, oI b17, oI vi23, oI vi26, oI vi29, oI vi32, oR b250, oR b305, oU] [oi vi23, oi vi32]) s₁ (entryFrame m #[(.int p1), (.int p2), (.int p3)] maxLocals) := fun t k => pre365 t (by
          refine XS.iloadN X347.here hx rfl (hb hby at_207) rfl ?_
          show oS p e below T347 (mkF m 208 #[oI p1, oI p2, oI p3, oI b11, oI 2, oI b17, oI vi23, oI vi26, oI vi29, oI vi32, oR b250, oR b305, oU] [oi b11]) _
          refine XS.ifYes X347.here hx rfl (pc0 := 208) (pc' := 217) rfl (hb hby at_208) rfl ((if0 _ _).trans (teq hc38).1) (by decide) (by decide) ?_
          refine XS.iload X347.here hx rfl (hb hby at_217) rfl ?_
          refine XS.iconst X347.here hx rfl (hb hby at_219) ?_
          refine XS.icmpNo X347.here hx rfl (hb hby at_220) rfl (flt (by decide : ¬ ((2 : Int32) < (1 : Int32)))).1 ?_
          show oS p e below T347 (mkF m 223 #[oI p1, oI p2, oI p3, oI b11, oI 2, oI b17, oI vi23, oI vi26, oI vi29, oI vi32, oR b250, oR b305, oU] []) _
          refine XS.iload X347.here hx rfl (hb hby at_223) rfl ?_
          refine XS.iload X347.here hx rfl (hb hby at_225) rfl ?_
          exact k)
        by_cases hc368 : vi32 = vi23
        ·
          have pre369 : oL p e below T347 (mkF m 263 #[oI p1, oI p2, oI p3, oI b11, oI 2, oI b17, oI vi23, oI vi26, oI vi29, oI vi32, oR b250, oR b305, oI 1] []) s₁ (entryFrame m #[(.int p1), (.int p2), (.int p3)] maxLocals) := fun t k => pre367 t (by
            refine XS.icmpYes X347.here hx rfl (pc0 := 227) (pc' := 256) rfl (hb hby at_227) rfl (teq hc368).1 (by decide) (by decide) ?_
            refine XS.iconst X347.here hx rfl (hb hby at_256) ?_
            show oS p e below T347 (mkF m 257 #[oI p1, oI p2, oI p3, oI b11, oI 2, oI b17, oI vi23, oI vi26, oI vi29, oI vi32, oR b250, oR b305, oU] [oi 1]) _
            refine XS.goto X347.here hx rfl (pc0 := 257) (pc' := 261) rfl (hb hby at_257) (by decide) (by decide) ?_
            refine XS.istore X347.here hx rfl (hb hby at_261) rfl (l' := #[oI p1, oI p2, oI p3, oI b11, oI 2, oI b17, oI vi23, oI vi26, oI vi29, oI vi32, oR b250, oR b305, oI 1]) rfl ?_
            exact k)
          exact ⟨(1 : Int32), (own_al2_yes0 hj23.1 hj26.1 hc368), pre369⟩
        ·
          have pre370 : oL p e below T347 (mkF m 240 #[oI p1, oI p2, oI p3, oI b11, oI 2, oI b17, oI vi23, oI vi26, oI vi29, oI vi32, oR b250, oR b305, oU] [oi vi26, oi vi32]) s₁ (entryFrame m #[(.int p1), (.int p2), (.int p3)] maxLocals) := fun t k => pre367 t (by
            refine XS.icmpNo X347.here hx rfl (hb hby at_227) rfl (feq hc368).1 ?_
            refine XS.iload X347.here hx rfl (hb hby at_230) rfl ?_
            show oS p e below T347 (mkF m 232 #[oI p1, oI p2, oI p3, oI b11, oI 2, oI b17, oI vi23, oI vi26, oI vi29, oI vi32, oR b250, oR b305, oU] [oi 2]) _
            refine XS.iconst X347.here hx rfl (hb hby at_232) ?_
            refine XS.icmpNo X347.here hx rfl (hb hby at_233) rfl (flt (by decide : ¬ ((2 : Int32) < (2 : Int32)))).1 ?_
            refine XS.iload X347.here hx rfl (hb hby at_236) rfl ?_
            refine XS.iload X347.here hx rfl (hb hby at_238) rfl ?_
            show oS p e below T347 (mkF m 240 #[oI p1, oI p2, oI p3, oI b11, oI 2, oI b17, oI vi23, oI vi26, oI vi29, oI vi32, oR b250, oR b305, oU] [oi vi26, oi vi32]) _
            exact k)
          by_cases hc371 : vi32 = vi26
          ·
            have pre372 : oL p e below T347 (mkF m 263 #[oI p1, oI p2, oI p3, oI b11, oI 2, oI b17, oI vi23, oI vi26, oI vi29, oI vi32, oR b250, oR b305, oI 1] []) s₁ (entryFrame m #[(.int p1), (.int p2), (.int p3)] maxLocals) := fun t k => pre370 t (by
              refine XS.icmpYes X347.here hx rfl (pc0 := 240) (pc' := 256) rfl (hb hby at_240) rfl (teq hc371).1 (by decide) (by decide) ?_
              refine XS.iconst X347.here hx rfl (hb hby at_256) ?_
              refine XS.goto X347.here hx rfl (pc0 := 257) (pc' := 261) rfl (hb hby at_257) (by decide) (by decide) ?_
              refine XS.istore X347.here hx rfl (hb hby at_261) rfl (l' := #[oI p1, oI p2, oI p3, oI b11, oI 2, oI b17, oI vi23, oI vi26, oI vi29, oI vi32, oR b250, oR b305, oI 1]) rfl ?_
              show oS p e below T347 (mkF m 263 #[oI p1, oI p2, oI p3, oI b11, oI 2, oI b17, oI vi23, oI vi26, oI vi29, oI vi32, oR b250, oR b305, oI 1] []) _
              exact k)
            exact ⟨(1 : Int32), (own_al2_yes1 hj23.1 hj26.1 hc371), pre372⟩
          ·
            have pre373 : oL p e below T347 (mkF m 263 #[oI p1, oI p2, oI p3, oI b11, oI 2, oI b17, oI vi23, oI vi26, oI vi29, oI vi32, oR b250, oR b305, oI 0] []) s₁ (entryFrame m #[(.int p1), (.int p2), (.int p3)] maxLocals) := fun t k => pre370 t (by
              refine XS.icmpNo X347.here hx rfl (hb hby at_240) rfl (feq hc371).1 ?_
              refine XS.iload X347.here hx rfl (hb hby at_243) rfl ?_
              refine XS.iconst X347.here hx rfl (hb hby at_245) ?_
              refine XS.icmpYes X347.here hx rfl (pc0 := 246) (pc' := 260) rfl (hb hby at_246) rfl (tlt (by decide : (2 : Int32) < (3 : Int32))).1 (by decide) (by decide) ?_
              show oS p e below T347 (mkF m 260 #[oI p1, oI p2, oI p3, oI b11, oI 2, oI b17, oI vi23, oI vi26, oI vi29, oI vi32, oR b250, oR b305, oU] []) _
              refine XS.iconst X347.here hx rfl (hb hby at_260) ?_
              refine XS.istore X347.here hx rfl (hb hby at_261) rfl (l' := #[oI p1, oI p2, oI p3, oI b11, oI 2, oI b17, oI vi23, oI vi26, oI vi29, oI vi32, oR b250, oR b305, oI 0]) rfl ?_
              exact k)
            exact ⟨(0 : Int32), (own_al2_no hj23.1 hj26.1 hc368 hc371), pre373⟩
      have pre374 : oL p e below T347 (mkF m 267 #[oI p1, oI p2, oI p3, oI b11, oI 2, oI b17, oI vi23, oI vi26, oI vi29, oI vi32, oR b250, oR b305, oI vi366] [oi vi32, ow b305]) s₁ (entryFrame m #[(.int p1), (.int p2), (.int p3)] maxLocals) := fun t k => pre366 t (by
        refine XS.aload X347.here hx rfl (hb hby at_263) rfl rfl ?_
        show oS p e below T347 (mkF m 265 #[oI p1, oI p2, oI p3, oI b11, oI 2, oI b17, oI vi23, oI vi26, oI vi29, oI vi32, oR b250, oR b305, oI vi366] [ow b305]) _
        refine XS.iload X347.here hx rfl (hb hby at_265) rfl ?_
        exact k)
      obtain ⟨cq375, kq375, q375a, q375b, q375c⟩ := isOf hZ rfl Eq347
      obtain ⟨_, _, ⟨T375, L375, k375, n375⟩, -, X375, ⟨Lc375, hQ375, l375, y375, z375⟩, st375⟩ := X347.virtualBack hx (y := (⟨"com/example/vedette/vedette/definition/PositionDefinition", "allows", "(I)Z"⟩ : MethodName)) (z := (⟨"com/example/vedette/vedette/definition/PositionDefinition", "allows", "(I)Z"⟩ : MethodName)) hown (mvT hZ (oW hw 65 rfl)) (mvT hZ (oW hw 66 rfl)) (notFace_of_selects (args := #[]) (mvT hZ (oW hw 68 rfl))) (mvT hZ (oW hw 68 rfl)) (mvT hZ (oW hw 67 rfl)) (by decide) (backOf (W := 0) (rm_al2 l Z a0 hw [] b305 b250 tt292 kb292 G1 vi32 (vi23.toInt8.toInt32) (vi26.toInt8.toInt32) (if vi32 < 0 then -1 else if (255 : Int32) < vi32 then -1 else (if (vi23.toInt8.toInt32) = (vi32.toInt8.toInt32) then 0 else if (vi26.toInt8.toInt32) = (vi32.toInt8.toInt32) then 1 else -1 : Int32)) vi366 T347.heap n0 OL363 O2 P5 f353 f356 f355 f357 rfl F1_347 hj366) hZ (oW hw 69 rfl) (oW hw 32 rfl) (by decide) (by decide)) q375a q375c (g := (mkF m 267 #[oI p1, oI p2, oI p3, oI b11, oI 2, oI b17, oI vi23, oI vi26, oI vi29, oI vi32, oR b250, oR b305, oI vi366] [oi vi32, ow b305])) rfl (by rw [hml]; rfl) (Steps.refl _) (argsL := [(.int vi32)]) (rest := []) (lenOf pd__I_Z rfl) rfl (by show 2 * 0 + _ ≤ _; exact Nat.le_of_eq rfl) (hb hby at_267) (fun _ _ => ⟨rfl, rfl, (by decide : 6 + 0 ≤ _), (by decide : 19 + 0 ≤ _)⟩)
      dsimp only [Pt.U, Pt.locs, Pt.cells, Pt.slots] at X375 l375 y375 z375 st375 hQ375
      subst l375 y375 z375
      obtain ⟨rfl, N375q, e375⟩ := hQ375
      have N375 := Fr.app N347 N375q
      have pre376 : oL p e below T375 (mkF m 280 #[oI p1, oI p2, oI p3, oI b11, oI 2, oI b17, oI vi23, oI vi26, oI vi29, oI vi32, oR b250, oR b305, oI vi366] [oi 1]) s₁ (entryFrame m #[(.int p1), (.int p2), (.int p3)] maxLocals) := fun t k => pre374 t (by
        refine st375.trans ?_
        refine XS.iload X375.here hx rfl (hb hby at_270) rfl ?_
        refine XS.icmpNo X375.here hx rfl (hb hby at_272) rfl (teq (rfl : vi366 = vi366)).2 ?_
        show oS p e below T375 (mkF m 275 #[oI p1, oI p2, oI p3, oI b11, oI 2, oI b17, oI vi23, oI vi26, oI vi29, oI vi32, oR b250, oR b305, oI vi366] []) _
        refine XS.iconst X375.here hx rfl (hb hby at_275) ?_
        refine XS.goto X375.here hx rfl (pc0 := 276) (pc' := 280) rfl (hb hby at_276) (by decide) (by decide) ?_
        exact k)
      obtain ⟨fs, hr, hrun, hended, hEnd⟩ := X375.leaveW hS (by rw [e375]; exact hk) (v := some (.int (1 : Int32))) (fun h => by rw [Bd.returns] at h; cases h)
      refine ⟨_, _, pre376 _ ?_, hrun, hended, _, _, rfl, ?_, (by show CHr Z consts_1 s.vm s.heap T375.vm T375.heap; rw [hh, e375]; exact CR352.trans (CHv.at X375 hZ hEL CH352)), hEnd.1, hEnd.2.1, hEnd.2.2.1, hEnd.2.2.2.mono (by decide) (by decide)⟩
      ·
        show oS p e below T375 (mkF m 280 #[oI p1, oI p2, oI p3, oI b11, oI 2, oI b17, oI vi23, oI vi26, oI vi29, oI vi32, oR b250, oR b305, oI vi366] [oi 1]) _
        exact retN X375 hx (t := .boolean) Bd.returns (by simp) (hb hby at_280) hr
      ·
        show Q_rm0 Z p1 p2 p3 G1 wM h0 n0 _ T375.heap _
        rw [e375]
        exact ⟨rfl, N375⟩
    ·
      rw [hl40] at pre39
      have pre377 : oL p e below s₁ (mkF m 167 #[oI p1, oI p2, oI p3, oI b11, oI 3, oI b17, oI vi23, oI vi26, oI vi29, oI vi32, oU, oU, oU] []) s₁ (entryFrame m #[(.int p1), (.int p2), (.int p3)] maxLocals) := fun t k => pre39 t (by
        refine XS.ifYes X0.here hx rfl (pc0 := 92) (pc' := 110) rfl (hb hby at_92) rfl ((if0 _ _).trans (feq (by decide : ¬ ((3 : Int32) = (0 : Int32)))).2) (by decide) (by decide) ?_
        show oS p e below s₁ (mkF m 110 #[oI p1, oI p2, oI p3, oI b11, oI 3, oI b17, oI vi23, oI vi26, oI vi29, oI vi32, oU, oU, oU] []) _
        refine XS.iload X0.here hx rfl (hb hby at_110) rfl ?_
        refine XS.iconst X0.here hx rfl (hb hby at_112) ?_
        refine XS.icmpYes X0.here hx rfl (pc0 := 113) (pc' := 136) rfl (hb hby at_113) rfl (feq (by decide : ¬ ((3 : Int32) = (1 : Int32)))).2 (by decide) (by decide) ?_
        refine XS.iload X0.here hx rfl (hb hby at_136) rfl ?_
        show oS p e below s₁ (mkF m 138 #[oI p1, oI p2, oI p3, oI b11, oI 3, oI b17, oI vi23, oI vi26, oI vi29, oI vi32, oU, oU, oU] [oi 3]) _
        refine XS.iconst X0.here hx rfl (hb hby at_138) ?_
        refine XS.icmpYes X0.here hx rfl (pc0 := 139) (pc' := 167) rfl (hb hby at_139) rfl (feq (by decide : ¬ ((3 : Int32) = (2 : Int32)))).2 (by decide) (by decide) ?_
        exact k)
      obtain ⟨T378, h378, X378, e378, E378, A378, D378, -, st378⟩ := newO X0 hx hZ hown (oW hw 0 rfl) (oW hw 1 rfl) (oW hw 2 rfl) e0 (g := (mkF m 167 #[oI p1, oI p2, oI p3, oI b11, oI 3, oI b17, oI vi23, oI vi26, oI vi29, oI vi32, oU, oU, oU] [])) rfl (hb hby at_167) (by decide) (by decide)
      obtain ⟨b378, g378⟩ : ∃ z, z = h0.size := ⟨_, rfl⟩
      rw [← g378] at A378 D378 st378
      have sf379 : Safe Z consts_1 s.vm h0 b378 := Safe.new (Nat.le_of_eq g378.symm)
      have ge_b378 : n0 ≤ b378 := Nat.le_trans (OL.1 ▸ OL.2.1) (Nat.le_of_eq g378.symm)
      have sz_b378 : h0.size ≤ b378 := Nat.le_trans (Keep.refl h0 []).1 (Nat.le_of_eq g378.symm)
      have sf380 := Safe.ext E378 CH0 sf379
      have cr381 := CHr.ext E378 CH0
      have CH381 := cr381.1
      have CR381 := CR0.trans cr381
      have OL382 := OL.ext E378
      have K383 : Keep h0 h378 [] := (Keep.refl h0 []).ext E378
      have hk := Nat.le_trans hk E378.1
      have f384 : Fld Z h378 b378 "java/lang/String" "coder" "B" (.int (0 : Int32)) := D378 (Or.inr (oW hw 27 rfl)) (ty := .byte) (by decide)
      have f385 : Fld Z h378 b378 "java/lang/String" "value" "[B" .null := D378 (Or.inr (oW hw 29 rfl)) (ty := (.array .byte)) (by decide)
      have pre386 : oL p e below T378 (mkF m 172 #[oI p1, oI p2, oI p3, oI b11, oI 3, oI b17, oI vi23, oI vi26, oI vi29, oI vi32, oU, oU, oU] [oi 3, ow b378, ow b378]) s₁ (entryFrame m #[(.int p1), (.int p2), (.int p3)] maxLocals) := fun t k => pre377 t (by
        refine st378 _ ?_
        refine XS.dup X378.here hx rfl (hb hby at_170) rfl rfl ?_
        show oS p e below T378 (mkF m 171 #[oI p1, oI p2, oI p3, oI b11, oI 3, oI b17, oI vi23, oI vi26, oI vi29, oI vi32, oU, oU, oU] [ow b378, ow b378]) _
        refine XS.iconst X378.here hx rfl (hb hby at_171) ?_
        exact k)
      obtain ⟨T387, h387, k387, X387, e387, E387, A387, st387⟩ := newP X378 hx hZ (oW hw 3 rfl) e378 (g := (mkF m 172 #[oI p1, oI p2, oI p3, oI b11, oI 3, oI b17, oI vi23, oI vi26, oI vi29, oI vi32, oU, oU, oU] [oi 3, ow b378, ow b378])) rfl (hb hby at_172) rfl (by decide) (cap := 3) (by decide) (by decide) (by decide) (by decide)
      obtain ⟨b387, g387⟩ : ∃ z, z = h378.size := ⟨_, rfl⟩
      rw [← g387] at A387 st387
      have sf388 : Safe Z consts_1 s.vm h378 b387 := Safe.new (Nat.le_of_eq g387.symm)
      have ne389 : b378 ≠ b387 := Nat.ne_of_lt (Nat.lt_of_lt_of_le A378.lt (Nat.le_of_eq g387.symm))
      have ge_b387 : n0 ≤ b387 := Nat.le_trans (OL382.1 ▸ OL382.2.1) (Nat.le_of_eq g387.symm)
      have sz_b387 : h0.size ≤ b387 := Nat.le_trans K383.1 (Nat.le_of_eq g387.symm)
      have sf390 := Safe.ext E387 CH381 sf380
      have sf391 := Safe.ext E387 CH381 sf388
      have cr392 := CHr.ext E387 CH381
      have CH392 := cr392.1
      have CR392 := CR381.trans cr392
      have f393 := A378.ext E387
      have f394 := f384.ext E387
      have f395 := f385.ext E387
      have OL396 := OL382.ext E387
      have K397 : Keep h0 h387 [] := K383.ext E387
      have hk := Nat.le_trans hk E387.1
      have V387 : Arv Z h387 b387 k387 .char (3 : Int32) [(.int (0 : Int32)), (.int (0 : Int32)), (.int (0 : Int32))] (.int (0 : Int32)) := (Arv.new A387 (by decide)).pad (pad_rep [] (.int (0 : Int32)) 3)
      have pre398 : oL p e below T387 (mkF m 178 #[oI p1, oI p2, oI p3, oI b11, oI 3, oI b17, oI vi23, oI vi26, oI vi29, oI vi32, oU, oU, oU] [oi vi23, oi 0, ow b387, ow b387, ow b378, ow b378]) s₁ (entryFrame m #[(.int p1), (.int p2), (.int p3)] maxLocals) := fun t k => pre386 t (by
        refine st387 _ ?_
        refine XS.dup X387.here hx rfl (hb hby at_174) rfl rfl ?_
        refine XS.iconst X387.here hx rfl (hb hby at_175) ?_
        show oS p e below T387 (mkF m 176 #[oI p1, oI p2, oI p3, oI b11, oI 3, oI b17, oI vi23, oI vi26, oI vi29, oI vi32, oU, oU, oU] [oi 0, ow b387, ow b387, ow b378, ow b378]) _
        refine XS.iload X387.here hx rfl (hb hby at_176) rfl ?_
        exact k)
      obtain ⟨cl399, Ar399, qc399, Sz399, Nn399, Hs399, Gs399⟩ := id V387
      obtain ⟨T399, h399, X399, e399, W399, st399⟩ := stC X387 hx hZ e387 Ar399 (j := (0 : Int32)) (inb_of Sz399 ⟨by decide, by decide⟩) (g := (mkF m 178 #[oI p1, oI p2, oI p3, oI b11, oI 3, oI b17, oI vi23, oI vi26, oI vi29, oI vi32, oU, oU, oU] [oi vi23, oi 0, ow b387, ow b387, ow b378, ow b378])) rfl rfl (hb hby at_178)
      rw [hj23.2] at W399
      have V399 : Arv Z h399 b387 k387 .char (3 : Int32) [(.int vi23), (.int (0 : Int32)), (.int (0 : Int32))] (.int (0 : Int32)) := Arv.set Ar399 qc399 Sz399 Nn399 Hs399 Gs399 (own_fitw_char hj23.2) W399 0 rfl (Nat.le_of_ble_eq_true rfl)
      have N399 := Fr.snoc X399 N0 ge_b387
      have sf400 := Safe.wr W399 sf391 CH392 sf390
      have sf401 := Safe.wr W399 sf391 CH392 sf391
      have cr402 := CHr.wr W399 sf391 CH392
      have CH402 := cr402.1
      have CR402 := CR392.trans cr402
      have hk := Nat.le_trans hk (Keep.of_wr W399).1
      have f403 := f393.wr W399
      have f404 := f394.other W399 (Or.inl ne389)
      have f405 := f395.other W399 (Or.inl ne389)
      have OL406 := OL396.wr W399 ge_b387
      have K407 : Keep h0 h399 [] := K397.wr W399 (Or.inr sz_b387)
      have pre408 : oL p e below T399 (mkF m 183 #[oI p1, oI p2, oI p3, oI b11, oI 3, oI b17, oI vi23, oI vi26, oI vi29, oI vi32, oU, oU, oU] [oi vi26, oi 1, ow b387, ow b387, ow b378, ow b378]) s₁ (entryFrame m #[(.int p1), (.int p2), (.int p3)] maxLocals) := fun t k => pre398 t (by
        refine st399 _ ?_
        refine XS.dup X399.here hx rfl (hb hby at_179) rfl rfl ?_
        refine XS.iconst X399.here hx rfl (hb hby at_180) ?_
        show oS p e below T399 (mkF m 181 #[oI p1, oI p2, oI p3, oI b11, oI 3, oI b17, oI vi23, oI vi26, oI vi29, oI vi32, oU, oU, oU] [oi 1, ow b387, ow b387, ow b378, ow b378]) _
        refine XS.iload X399.here hx rfl (hb hby at_181) rfl ?_
        exact k)
      obtain ⟨cl409, Ar409, qc409, Sz409, Nn409, Hs409, Gs409⟩ := id V399
      obtain ⟨T409, h409, X409, e409, W409, st409⟩ := stC X399 hx hZ e399 Ar409 (j := (1 : Int32)) (inb_of Sz409 ⟨by decide, by decide⟩) (g := (mkF m 183 #[oI p1, oI p2, oI p3, oI b11, oI 3, oI b17, oI vi23, oI vi26, oI vi29, oI vi32, oU, oU, oU] [oi vi26, oi 1, ow b387, ow b387, ow b378, ow b378])) rfl rfl (hb hby at_183)
      rw [hj26.2] at W409
      have V409 : Arv Z h409 b387 k387 .char (3 : Int32) [(.int vi23), (.int vi26), (.int (0 : Int32))] (.int (0 : Int32)) := Arv.set Ar409 qc409 Sz409 Nn409 Hs409 Gs409 (own_fitw_char hj26.2) W409 1 rfl (Nat.le_of_ble_eq_true rfl)
      have N409 := Fr.snoc X409 N399 ge_b387
      have sf410 := Safe.wr W409 sf401 CH402 sf400
      have sf411 := Safe.wr W409 sf401 CH402 sf401
      have cr412 := CHr.wr W409 sf401 CH402
      have CH412 := cr412.1
      have CR412 := CR402.trans cr412
      have hk := Nat.le_trans hk (Keep.of_wr W409).1
      have f413 := f403.wr W409
      have f414 := f404.other W409 (Or.inl ne389)
      have f415 := f405.other W409 (Or.inl ne389)
      have OL416 := OL406.wr W409 ge_b387
      have K417 : Keep h0 h409 [] := K407.wr W409 (Or.inr sz_b387)
      have pre418 : oL p e below T409 (mkF m 188 #[oI p1, oI p2, oI p3, oI b11, oI 3, oI b17, oI vi23, oI vi26, oI vi29, oI vi32, oU, oU, oU] [oi vi29, oi 2, ow b387, ow b387, ow b378, ow b378]) s₁ (entryFrame m #[(.int p1), (.int p2), (.int p3)] maxLocals) := fun t k => pre408 t (by
        refine st409 _ ?_
        refine XS.dup X409.here hx rfl (hb hby at_184) rfl rfl ?_
        refine XS.iconst X409.here hx rfl (hb hby at_185) ?_
        show oS p e below T409 (mkF m 186 #[oI p1, oI p2, oI p3, oI b11, oI 3, oI b17, oI vi23, oI vi26, oI vi29, oI vi32, oU, oU, oU] [oi 2, ow b387, ow b387, ow b378, ow b378]) _
        refine XS.iload X409.here hx rfl (hb hby at_186) rfl ?_
        exact k)
      obtain ⟨cl419, Ar419, qc419, Sz419, Nn419, Hs419, Gs419⟩ := id V409
      obtain ⟨T419, h419, X419, e419, W419, st419⟩ := stC X409 hx hZ e409 Ar419 (j := (2 : Int32)) (inb_of Sz419 ⟨by decide, by decide⟩) (g := (mkF m 188 #[oI p1, oI p2, oI p3, oI b11, oI 3, oI b17, oI vi23, oI vi26, oI vi29, oI vi32, oU, oU, oU] [oi vi29, oi 2, ow b387, ow b387, ow b378, ow b378])) rfl rfl (hb hby at_188)
      rw [hj29.2] at W419
      have V419 : Arv Z h419 b387 k387 .char (3 : Int32) [(.int vi23), (.int vi26), (.int vi29)] (.int (0 : Int32)) := Arv.set Ar419 qc419 Sz419 Nn419 Hs419 Gs419 (own_fitw_char hj29.2) W419 2 rfl (Nat.le_of_ble_eq_true rfl)
      have N419 := Fr.snoc X419 N409 ge_b387
      have sf420 := Safe.wr W419 sf411 CH412 sf410
      have sf421 := Safe.wr W419 sf411 CH412 sf411
      have cr422 := CHr.wr W419 sf411 CH412
      have CH422 := cr422.1
      have CR422 := CR412.trans cr422
      have hk := Nat.le_trans hk (Keep.of_wr W419).1
      have f423 := f413.wr W419
      have f424 := f414.other W419 (Or.inl ne389)
      have f425 := f415.other W419 (Or.inl ne389)
      have OL426 := OL416.wr W419 ge_b387
      have K427 : Keep h0 h419 [] := K417.wr W419 (Or.inr sz_b387)
      have hp428 : ∀ c ∈ ([vi23, vi26, vi29] : List Int32), ¬ c < 0 ∧ ¬ (255 : Int32) < c := by
        intro c hc
        simp only [List.mem_cons, List.not_mem_nil, or_false] at hc
        rcases hc with rfl | rfl | rfl
        · exact hj23.1
        · exact hj26.1
        · exact hj29.1
      have pre429 : oL p e below T419 (mkF m 189 #[oI p1, oI p2, oI p3, oI b11, oI 3, oI b17, oI vi23, oI vi26, oI vi29, oI vi32, oU, oU, oU] [ow b387, ow b378, ow b378]) s₁ (entryFrame m #[(.int p1), (.int p2), (.int p3)] maxLocals) := fun t k => pre418 t (by
        refine st419 _ ?_
        exact k)
      obtain ⟨_, _, ⟨T430, L430, k430, n430⟩, -, X430, ⟨Lc430, hQ430, l430, y430, z430⟩, st430⟩ := X419.specialBack hx (y := (⟨"java/lang/String", "<init>", "([C)V"⟩ : MethodName)) rfl hown (mvT hZ (oW hw 4 rfl)) (mvT hZ (oW hw 5 rfl)) (mvT hZ (oW hw 6 rfl)) (by decide) (StrChars.Road.backV (W := 1) hZ (fun d hd => hw d (own_hws d hd)) (kI := 4) (oW hw 1 rfl) (cs := ([vi23, vi26, vi29] : List Int32)) (bs := (([vi23, vi26, vi29] : List Int32)).map (fun c => c.toInt8.toInt32)) (n := 3) ge_b378 (OL426.1 ▸ OL426.2.1) f423 f425 f424 V419 (O2.ext OL426.2) P5 rfl rfl (by decide) (by decide) hp428 rfl (by decide) (by decide)) (g := (mkF m 189 #[oI p1, oI p2, oI p3, oI b11, oI 3, oI b17, oI vi23, oI vi26, oI vi29, oI vi32, oU, oU, oU] [ow b387, ow b378, ow b378])) rfl (by rw [hml]; rfl) (Steps.refl _) (a := b378) (argsL := [(.ref b387)]) (rest := [(.ref b378)]) (lenOf pd___C_V rfl) rfl (by show 2 * 0 + _ ≤ _; exact Nat.le_of_eq rfl) (hb hby at_189) (fun _ _ => ⟨rfl, e419, (by decide : 2 + 1 ≤ _), (by decide : 7 + 3 ≤ _)⟩)
      dsimp only [Pt.U, Pt.locs, Pt.cells, Pt.slots] at X430 l430 y430 z430 st430 hQ430
      subst l430 y430 z430
      obtain ⟨rfl, N430q, Kq430, Eq430, Fc430, tt430, kb430, gt430, sq430, nx430, Fv430, Va430⟩ := hQ430
      have N430 := Fr.app N419 N430q
      have sf431 : Safe Z consts_1 s.vm h419 tt430 := Safe.new sq430
      have ne432 : b378 ≠ tt430 := Nat.ne_of_lt (Nat.lt_of_lt_of_le f423.lt sq430)
      have ne433 : b387 ≠ tt430 := Nat.ne_of_lt (Nat.lt_of_lt_of_le V419.lt sq430)
      have ge_tt430 : n0 ≤ tt430 := Nat.le_trans (OL426.1 ▸ OL426.2.1) sq430
      have sz_tt430 : h0.size ≤ tt430 := Nat.le_trans K427.1 sq430
      have sf434 := Safe.keep Kq430 ((allS sf420 all0) : ∀ x ∈ [b378], Safe Z consts_1 s.vm h419 x) CH422 sf420
      have sf435 := Safe.keep Kq430 ((allS sf420 all0) : ∀ x ∈ [b378], Safe Z consts_1 s.vm h419 x) CH422 sf421
      have sf436 := Safe.keep Kq430 ((allS sf420 all0) : ∀ x ∈ [b378], Safe Z consts_1 s.vm h419 x) CH422 sf431
      have cr437 := CHr.keep Kq430 ((allS sf420 all0) : ∀ x ∈ [b378], Safe Z consts_1 s.vm h419 x) CH422
      have CH437 := cr437.1
      have CR437 := CR422.trans cr437
      have hk := Nat.le_trans hk Kq430.1
      have f438 := f423.keep Kq430
      have f439 := V419.keep Kq430 (ninS (Ne.symm ne389) nin0)
      have OL440 := OL426.keep Kq430 (allS ge_b378 all0)
      have K441 : Keep h0 T430.heap [] := K427.trans Kq430 (allS (Or.inr sz_b378) all0)
      have Vb430 : Arv Z T430.heap tt430 kb430 .byte (3 : Int32) [(.int (vi23.toInt8.toInt32)), (.int (vi26.toInt8.toInt32)), (.int (vi29.toInt8.toInt32))] (.int (0 : Int32)) := Va430
      have pre442 : oL p e below T430 (mkF m 194 #[oI p1, oI p2, oI p3, oI b11, oI 3, oI b17, oI vi23, oI vi26, oI vi29, oI vi32, oR b378, oU, oU] []) s₁ (entryFrame m #[(.int p1), (.int p2), (.int p3)] maxLocals) := fun t k => pre429 t (by
        refine st430.trans ?_
        refine XS.astore X430.here hx rfl (hb hby at_192) rfl rfl (l' := #[oI p1, oI p2, oI p3, oI b11, oI 3, oI b17, oI vi23, oI vi26, oI vi29, oI vi32, oR b378, oU, oU]) rfl ?_
        show oS p e below T430 (mkF m 194 #[oI p1, oI p2, oI p3, oI b11, oI 3, oI b17, oI vi23, oI vi26, oI vi29, oI vi32, oR b378, oU, oU] []) _
        exact k)
      obtain ⟨T443, h443, X443, e443, E443, A443, D443, -, st443⟩ := newO X430 hx hZ hown (oW hw 30 rfl) (oW hw 31 rfl) (oW hw 32 rfl) rfl (g := (mkF m 194 #[oI p1, oI p2, oI p3, oI b11, oI 3, oI b17, oI vi23, oI vi26, oI vi29, oI vi32, oR b378, oU, oU] [])) rfl (hb hby at_194) (by decide) (by decide)
      obtain ⟨b443, g443⟩ : ∃ z, z = T430.heap.size := ⟨_, rfl⟩
      rw [← g443] at A443 D443 st443
      have sf444 : Safe Z consts_1 s.vm T430.heap b443 := Safe.new (Nat.le_of_eq g443.symm)
      have ne445 : b378 ≠ b443 := Nat.ne_of_lt (Nat.lt_of_lt_of_le f438.lt (Nat.le_of_eq g443.symm))
      have ne446 : b387 ≠ b443 := Nat.ne_of_lt (Nat.lt_of_lt_of_le f439.lt (Nat.le_of_eq g443.symm))
      have ne447 : tt430 ≠ b443 := Nat.ne_of_lt (Nat.lt_of_lt_of_le Vb430.lt (Nat.le_of_eq g443.symm))
      have ge_b443 : n0 ≤ b443 := Nat.le_trans (OL440.1 ▸ OL440.2.1) (Nat.le_of_eq g443.symm)
      have sz_b443 : h0.size ≤ b443 := Nat.le_trans K441.1 (Nat.le_of_eq g443.symm)
      have sf448 := Safe.ext E443 CH437 sf434
      have sf449 := Safe.ext E443 CH437 sf435
      have sf450 := Safe.ext E443 CH437 sf436
      have sf451 := Safe.ext E443 CH437 sf444
      have cr452 := CHr.ext E443 CH437
      have CH452 := cr452.1
      have CR452 := CR437.trans cr452
      have f453 := f438.ext E443
      have f454 := f439.ext E443
      have f455 := Fc430.ext E443
      have f456 := Fv430.ext E443
      have f457 := Vb430.ext E443
      have OL458 := OL440.ext E443
      have K459 : Keep h0 h443 [] := K441.ext E443
      have hk := Nat.le_trans hk E443.1
      have f460 : Fld Z h443 b443 "com/example/vedette/vedette/definition/PositionDefinition" "name" "Ljava/lang/String;" .null := D443 (Or.inr (oW hw 60 rfl)) (ty := (.object "java/lang/String")) (by decide)
      have f461 : Fld Z h443 b443 "com/example/vedette/vedette/definition/PositionDefinition" "values" "Ljava/lang/String;" .null := D443 (Or.inr (oW hw 62 rfl)) (ty := (.object "java/lang/String")) (by decide)
      have f462 : Fld Z h443 b443 "com/example/vedette/vedette/definition/PositionDefinition" "labels" "Ljava/util/Map;" .null := D443 (Or.inr (oW hw 64 rfl)) (ty := (.object "java/util/Map")) (by decide)
      have pre463 : oL p e below T443 (mkF m 198 #[oI p1, oI p2, oI p3, oI b11, oI 3, oI b17, oI vi23, oI vi26, oI vi29, oI vi32, oR b378, oU, oU] [ow b443, ow b443]) s₁ (entryFrame m #[(.int p1), (.int p2), (.int p3)] maxLocals) := fun t k => pre442 t (by
        refine st443 _ ?_
        refine XS.dup X443.here hx rfl (hb hby at_197) rfl rfl ?_
        exact k)
      obtain ⟨la464, T464, h464, kx464, lb464, kb464, X464, e464, E464, hS, hkn464, hZ, hown, Ea464, Fc464, Fv464, Va464, lta464, ltb464, cr464, Lt464, sep464, st464⟩ := ldcCH X443 hx hZ hown (oW hw 33 rfl) wS e443 hS hk hEL (List.mem_of_getElem? (i := 0) rfl) CH452 (vs := [(.int (112 : Int32))]) (z := (1 : Int32)) ⟨by decide, rfl⟩ (by decide) rfl (g := (mkF m 198 #[oI p1, oI p2, oI p3, oI b11, oI 3, oI b17, oI vi23, oI vi26, oI vi29, oI vi32, oR b378, oU, oU] [ow b443, ow b443])) rfl (hb hby at_198) (n := 4) (by decide) (by decide) (by decide) (by decide)
      have f465 := f453.ext E464
      have f466 := f454.ext E464
      have f467 := f455.ext E464
      have f468 := f456.ext E464
      have f469 := f457.ext E464
      have f470 := A443.ext E464
      have f471 := f460.ext E464
      have f472 := f461.ext E464
      have f473 := f462.ext E464
      have OL474 := OL458.ext E464
      have K475 : Keep h0 h464 [] := K459.ext E464
      have sf476 := cr464.safe f453.lt sf448
      have sp477 := sep464 _ sf476
      have sf478 := cr464.safe f454.lt sf449
      have sp479 := sep464 _ sf478
      have sf480 := cr464.safe f457.lt sf450
      have sp481 := sep464 _ sf480
      have sf482 := cr464.safe A443.lt sf451
      have sp483 := sep464 _ sf482
      have CH464 := cr464.1
      have CR464 := CR452.trans cr464
      have hk := hkn464
      have pre484 : oL p e below T464 (mkF m 202 #[oI p1, oI p2, oI p3, oI b11, oI 3, oI b17, oI vi23, oI vi26, oI vi29, oI vi32, oR b378, oU, oU] [ow b378, ow la464, ow b443, ow b443]) s₁ (entryFrame m #[(.int p1), (.int p2), (.int p3)] maxLocals) := fun t k => pre463 t (by
        refine st464 _ ?_
        refine XS.aload X464.here hx rfl (hb hby at_200) rfl rfl ?_
        show oS p e below T464 (mkF m 202 #[oI p1, oI p2, oI p3, oI b11, oI 3, oI b17, oI vi23, oI vi26, oI vi29, oI vi32, oR b378, oU, oU] [ow b378, ow la464, ow b443, ow b443]) _
        exact k)
      obtain ⟨_, _, ⟨T485, L485, k485, n485⟩, -, X485, ⟨Lc485, hQ485, l485, y485, z485⟩, st485⟩ := X464.specialBack hx (y := (⟨"com/example/vedette/vedette/definition/PositionDefinition", "<init>", "(Ljava/lang/String;Ljava/lang/String;)V"⟩ : MethodName)) rfl hown (mvT hZ (oW hw 36 rfl)) (mvT hZ (oW hw 37 rfl)) (mvT hZ (oW hw 38 rfl)) (by decide) (backOf (W := 1) (rm_pd2 l Z a0 hw [] b443 la464 (.ref b378) wM h464 n0 OL474 ge_b443 f470 f471 f472 f473 rfl sM eM) hZ (oW hw 38 rfl) (oW hw 32 rfl) (by decide) (by decide)) (g := (mkF m 202 #[oI p1, oI p2, oI p3, oI b11, oI 3, oI b17, oI vi23, oI vi26, oI vi29, oI vi32, oR b378, oU, oU] [ow b378, ow la464, ow b443, ow b443])) rfl (by rw [hml]; rfl) (Steps.refl _) (a := b443) (argsL := [(.ref la464), (.ref b378)]) (rest := [(.ref b443)]) (lenOf pd__Ljava_lang_String_Ljava_lang_String__V rfl) rfl (by show 2 * 0 + _ ≤ _; exact Nat.le_of_eq rfl) (hb hby at_202) (fun _ _ => ⟨rfl, e464, (by decide : 6 + 0 ≤ _), (by decide : 21 + 0 ≤ _)⟩)
      dsimp only [Pt.U, Pt.locs, Pt.cells, Pt.slots] at X485 l485 y485 z485 st485 hQ485
      subst l485 y485 z485
      obtain ⟨rfl, N485q, Kq485, Eq485, F0_485, F1_485, F2_485⟩ := hQ485
      have N485 := Fr.app N430 N485q
      have sf486 := Safe.keep Kq485 ((allS sf482 all0) : ∀ x ∈ [b443], Safe Z consts_1 T464.vm h464 x) CH464 sf476
      have sf487 := Safe.keep Kq485 ((allS sf482 all0) : ∀ x ∈ [b443], Safe Z consts_1 T464.vm h464 x) CH464 sf478
      have sf488 := Safe.keep Kq485 ((allS sf482 all0) : ∀ x ∈ [b443], Safe Z consts_1 T464.vm h464 x) CH464 sf480
      have sf489 := Safe.keep Kq485 ((allS sf482 all0) : ∀ x ∈ [b443], Safe Z consts_1 T464.vm h464 x) CH464 sf482
      have cr490 := CHr.keep Kq485 ((allS sf482 all0) : ∀ x ∈ [b443], Safe Z consts_1 T464.vm h464 x) CH464
      have CH490 := cr490.1
      have CR490 := CR464.trans cr490
      have hk := Nat.le_trans hk Kq485.1
      have f491 := f465.keep Kq485
      have f492 := f466.keep Kq485 (ninS ne446 nin0)
      have f493 := f467.keep Kq485 (ninS ne445 nin0)
      have f494 := f468.keep Kq485 (ninS ne445 nin0)
      have f495 := f469.keep Kq485 (ninS ne447 nin0)
      have f496 := f470.keep Kq485
      have f497 := Ea464.keep Kq485
      have f498 := Fc464.keep Kq485 (ninS (Ne.symm sp483.1) nin0)
      have f499 := Fv464.keep Kq485 (ninS (Ne.symm sp483.1) nin0)
      have f500 := Va464.keep Kq485 (ninS (Ne.symm sp483.2) nin0)
      have OL501 := OL474.keep Kq485 (allS ge_b443 all0)
      have K502 : Keep h0 T485.heap [] := K475.trans Kq485 (allS (Or.inr sz_b443) all0)
      have pre503 : oL p e below T485 (mkF m 207 #[oI p1, oI p2, oI p3, oI b11, oI 3, oI b17, oI vi23, oI vi26, oI vi29, oI vi32, oR b378, oR b443, oU] []) s₁ (entryFrame m #[(.int p1), (.int p2), (.int p3)] maxLocals) := fun t k => pre484 t (by
        refine st485.trans ?_
        refine XS.astore X485.here hx rfl (hb hby at_205) rfl rfl (l' := #[oI p1, oI p2, oI p3, oI b11, oI 3, oI b17, oI vi23, oI vi26, oI vi29, oI vi32, oR b378, oR b443, oU]) rfl ?_
        exact k)
      obtain ⟨vi504, hj504, pre504⟩ : ∃ vi504 : Int32, (vi504 = if (if vi32 < 0 then -1 else if (255 : Int32) < vi32 then -1 else (if (vi23.toInt8.toInt32) = (vi32.toInt8.toInt32) then 0 else if (vi26.toInt8.toInt32) = (vi32.toInt8.toInt32) then 1 else if (vi29.toInt8.toInt32) = (vi32.toInt8.toInt32) then 2 else -1 : Int32)) < 0 then 0 else 1) ∧ oL p e below T485 (mkF m 263 #[oI p1, oI p2, oI p3, oI b11, oI 3, oI b17, oI vi23, oI vi26, oI vi29, oI vi32, oR b378, oR b443, oI vi504] []) s₁ (entryFrame m #[(.int p1), (.int p2), (.int p3)] maxLocals) := by
        have pre505 : oL p e below T485 (mkF m 227 #[oI p1, oI p2, oI p3, oI b11, oI 3, oI b17, oI vi23, oI vi26, oI vi29, oI vi32, oR b378, oR b443, oU] [oi vi23, oi vi32]) s₁ (entryFrame m #[(.int p1), (.int p2), (.int p3)] maxLocals) := fun t k => pre503 t (by
          refine XS.iloadN X485.here hx rfl (hb hby at_207) rfl ?_
          refine XS.ifYes X485.here hx rfl (pc0 := 208) (pc' := 217) rfl (hb hby at_208) rfl ((if0 _ _).trans (teq hc38).1) (by decide) (by decide) ?_
          show oS p e below T485 (mkF m 217 #[oI p1, oI p2, oI p3, oI b11, oI 3, oI b17, oI vi23, oI vi26, oI vi29, oI vi32, oR b378, oR b443, oU] []) _
          refine XS.iload X485.here hx rfl (hb hby at_217) rfl ?_
          refine XS.iconst X485.here hx rfl (hb hby at_219) ?_
          refine XS.icmpNo X485.here hx rfl (hb hby at_220) rfl (flt (by decide : ¬ ((3 : Int32) < (1 : Int32)))).1 ?_
          refine XS.iload X485.here hx rfl (hb hby at_223) rfl ?_
          show oS p e below T485 (mkF m 225 #[oI p1, oI p2, oI p3, oI b11, oI 3, oI b17, oI vi23, oI vi26, oI vi29, oI vi32, oR b378, oR b443, oU] [oi vi32]) _
          refine XS.iload X485.here hx rfl (hb hby at_225) rfl ?_
          exact k)
        by_cases hc506 : vi32 = vi23
        ·
          have pre507 : oL p e below T485 (mkF m 263 #[oI p1, oI p2, oI p3, oI b11, oI 3, oI b17, oI vi23, oI vi26, oI vi29, oI vi32, oR b378, oR b443, oI 1] []) s₁ (entryFrame m #[(.int p1), (.int p2), (.int p3)] maxLocals) := fun t k => pre505 t (by
            refine XS.icmpYes X485.here hx rfl (pc0 := 227) (pc' := 256) rfl (hb hby at_227) rfl (teq hc506).1 (by decide) (by decide) ?_
            refine XS.iconst X485.here hx rfl (hb hby at_256) ?_
            refine XS.goto X485.here hx rfl (pc0 := 257) (pc' := 261) rfl (hb hby at_257) (by decide) (by decide) ?_
            show oS p e below T485 (mkF m 261 #[oI p1, oI p2, oI p3, oI b11, oI 3, oI b17, oI vi23, oI vi26, oI vi29, oI vi32, oR b378, oR b443, oU] [oi 1]) _
            refine XS.istore X485.here hx rfl (hb hby at_261) rfl (l' := #[oI p1, oI p2, oI p3, oI b11, oI 3, oI b17, oI vi23, oI vi26, oI vi29, oI vi32, oR b378, oR b443, oI 1]) rfl ?_
            exact k)
          exact ⟨(1 : Int32), (own_al3_yes0 hj23.1 hj26.1 hj29.1 hc506), pre507⟩
        ·
          have pre508 : oL p e below T485 (mkF m 240 #[oI p1, oI p2, oI p3, oI b11, oI 3, oI b17, oI vi23, oI vi26, oI vi29, oI vi32, oR b378, oR b443, oU] [oi vi26, oi vi32]) s₁ (entryFrame m #[(.int p1), (.int p2), (.int p3)] maxLocals) := fun t k => pre505 t (by
            refine XS.icmpNo X485.here hx rfl (hb hby at_227) rfl (feq hc506).1 ?_
            refine XS.iload X485.here hx rfl (hb hby at_230) rfl ?_
            refine XS.iconst X485.here hx rfl (hb hby at_232) ?_
            show oS p e below T485 (mkF m 233 #[oI p1, oI p2, oI p3, oI b11, oI 3, oI b17, oI vi23, oI vi26, oI vi29, oI vi32, oR b378, oR b443, oU] [oi 2, oi 3]) _
            refine XS.icmpNo X485.here hx rfl (hb hby at_233) rfl (flt (by decide : ¬ ((3 : Int32) < (2 : Int32)))).1 ?_
            refine XS.iload X485.here hx rfl (hb hby at_236) rfl ?_
            refine XS.iload X485.here hx rfl (hb hby at_238) rfl ?_
            exact k)
          by_cases hc509 : vi32 = vi26
          ·
            have pre510 : oL p e below T485 (mkF m 263 #[oI p1, oI p2, oI p3, oI b11, oI 3, oI b17, oI vi23, oI vi26, oI vi29, oI vi32, oR b378, oR b443, oI 1] []) s₁ (entryFrame m #[(.int p1), (.int p2), (.int p3)] maxLocals) := fun t k => pre508 t (by
              refine XS.icmpYes X485.here hx rfl (pc0 := 240) (pc' := 256) rfl (hb hby at_240) rfl (teq hc509).1 (by decide) (by decide) ?_
              show oS p e below T485 (mkF m 256 #[oI p1, oI p2, oI p3, oI b11, oI 3, oI b17, oI vi23, oI vi26, oI vi29, oI vi32, oR b378, oR b443, oU] []) _
              refine XS.iconst X485.here hx rfl (hb hby at_256) ?_
              refine XS.goto X485.here hx rfl (pc0 := 257) (pc' := 261) rfl (hb hby at_257) (by decide) (by decide) ?_
              refine XS.istore X485.here hx rfl (hb hby at_261) rfl (l' := #[oI p1, oI p2, oI p3, oI b11, oI 3, oI b17, oI vi23, oI vi26, oI vi29, oI vi32, oR b378, oR b443, oI 1]) rfl ?_
              exact k)
            exact ⟨(1 : Int32), (own_al3_yes1 hj23.1 hj26.1 hj29.1 hc509), pre510⟩
          ·
            have pre511 : oL p e below T485 (mkF m 253 #[oI p1, oI p2, oI p3, oI b11, oI 3, oI b17, oI vi23, oI vi26, oI vi29, oI vi32, oR b378, oR b443, oU] [oi vi29, oi vi32]) s₁ (entryFrame m #[(.int p1), (.int p2), (.int p3)] maxLocals) := fun t k => pre508 t (by
              refine XS.icmpNo X485.here hx rfl (hb hby at_240) rfl (feq hc509).1 ?_
              show oS p e below T485 (mkF m 243 #[oI p1, oI p2, oI p3, oI b11, oI 3, oI b17, oI vi23, oI vi26, oI vi29, oI vi32, oR b378, oR b443, oU] []) _
              refine XS.iload X485.here hx rfl (hb hby at_243) rfl ?_
              refine XS.iconst X485.here hx rfl (hb hby at_245) ?_
              refine XS.icmpNo X485.here hx rfl (hb hby at_246) rfl (flt (by decide : ¬ ((3 : Int32) < (3 : Int32)))).1 ?_
              refine XS.iload X485.here hx rfl (hb hby at_249) rfl ?_
              show oS p e below T485 (mkF m 251 #[oI p1, oI p2, oI p3, oI b11, oI 3, oI b17, oI vi23, oI vi26, oI vi29, oI vi32, oR b378, oR b443, oU] [oi vi32]) _
              refine XS.iload X485.here hx rfl (hb hby at_251) rfl ?_
              exact k)
            by_cases hc512 : vi32 = vi29
            ·
              have pre513 : oL p e below T485 (mkF m 263 #[oI p1, oI p2, oI p3, oI b11, oI 3, oI b17, oI vi23, oI vi26, oI vi29, oI vi32, oR b378, oR b443, oI 1] []) s₁ (entryFrame m #[(.int p1), (.int p2), (.int p3)] maxLocals) := fun t k => pre511 t (by
                refine XS.icmpNo X485.here hx rfl (hb hby at_253) rfl (teq hc512).2 ?_
                refine XS.iconst X485.here hx rfl (hb hby at_256) ?_
                refine XS.goto X485.here hx rfl (pc0 := 257) (pc' := 261) rfl (hb hby at_257) (by decide) (by decide) ?_
                show oS p e below T485 (mkF m 261 #[oI p1, oI p2, oI p3, oI b11, oI 3, oI b17, oI vi23, oI vi26, oI vi29, oI vi32, oR b378, oR b443, oU] [oi 1]) _
                refine XS.istore X485.here hx rfl (hb hby at_261) rfl (l' := #[oI p1, oI p2, oI p3, oI b11, oI 3, oI b17, oI vi23, oI vi26, oI vi29, oI vi32, oR b378, oR b443, oI 1]) rfl ?_
                exact k)
              exact ⟨(1 : Int32), (own_al3_yes2 hj23.1 hj26.1 hj29.1 hc512), pre513⟩
            ·
              have pre514 : oL p e below T485 (mkF m 263 #[oI p1, oI p2, oI p3, oI b11, oI 3, oI b17, oI vi23, oI vi26, oI vi29, oI vi32, oR b378, oR b443, oI 0] []) s₁ (entryFrame m #[(.int p1), (.int p2), (.int p3)] maxLocals) := fun t k => pre511 t (by
                refine XS.icmpYes X485.here hx rfl (pc0 := 253) (pc' := 260) rfl (hb hby at_253) rfl (feq hc512).2 (by decide) (by decide) ?_
                refine XS.iconst X485.here hx rfl (hb hby at_260) ?_
                refine XS.istore X485.here hx rfl (hb hby at_261) rfl (l' := #[oI p1, oI p2, oI p3, oI b11, oI 3, oI b17, oI vi23, oI vi26, oI vi29, oI vi32, oR b378, oR b443, oI 0]) rfl ?_
                show oS p e below T485 (mkF m 263 #[oI p1, oI p2, oI p3, oI b11, oI 3, oI b17, oI vi23, oI vi26, oI vi29, oI vi32, oR b378, oR b443, oI 0] []) _
                exact k)
              exact ⟨(0 : Int32), (own_al3_no hj23.1 hj26.1 hj29.1 hc506 hc509 hc512), pre514⟩
      have pre515 : oL p e below T485 (mkF m 267 #[oI p1, oI p2, oI p3, oI b11, oI 3, oI b17, oI vi23, oI vi26, oI vi29, oI vi32, oR b378, oR b443, oI vi504] [oi vi32, ow b443]) s₁ (entryFrame m #[(.int p1), (.int p2), (.int p3)] maxLocals) := fun t k => pre504 t (by
        refine XS.aload X485.here hx rfl (hb hby at_263) rfl rfl ?_
        refine XS.iload X485.here hx rfl (hb hby at_265) rfl ?_
        show oS p e below T485 (mkF m 267 #[oI p1, oI p2, oI p3, oI b11, oI 3, oI b17, oI vi23, oI vi26, oI vi29, oI vi32, oR b378, oR b443, oI vi504] [oi vi32, ow b443]) _
        exact k)
      obtain ⟨cq516, kq516, q516a, q516b, q516c⟩ := isOf hZ rfl Eq485
      obtain ⟨_, _, ⟨T516, L516, k516, n516⟩, -, X516, ⟨Lc516, hQ516, l516, y516, z516⟩, st516⟩ := X485.virtualBack hx (y := (⟨"com/example/vedette/vedette/definition/PositionDefinition", "allows", "(I)Z"⟩ : MethodName)) (z := (⟨"com/example/vedette/vedette/definition/PositionDefinition", "allows", "(I)Z"⟩ : MethodName)) hown (mvT hZ (oW hw 65 rfl)) (mvT hZ (oW hw 66 rfl)) (notFace_of_selects (args := #[]) (mvT hZ (oW hw 68 rfl))) (mvT hZ (oW hw 68 rfl)) (mvT hZ (oW hw 67 rfl)) (by decide) (backOf (W := 0) (rm_al3 l Z a0 hw [] b443 b378 tt430 kb430 G1 vi32 (vi23.toInt8.toInt32) (vi26.toInt8.toInt32) (vi29.toInt8.toInt32) (if vi32 < 0 then -1 else if (255 : Int32) < vi32 then -1 else (if (vi23.toInt8.toInt32) = (vi32.toInt8.toInt32) then 0 else if (vi26.toInt8.toInt32) = (vi32.toInt8.toInt32) then 1 else if (vi29.toInt8.toInt32) = (vi32.toInt8.toInt32) then 2 else -1 : Int32)) vi504 T485.heap n0 OL501 O2 P5 f491 f494 f493 f495 rfl F1_485 hj504) hZ (oW hw 69 rfl) (oW hw 32 rfl) (by decide) (by decide)) q516a q516c (g := (mkF m 267 #[oI p1, oI p2, oI p3, oI b11, oI 3, oI b17, oI vi23, oI vi26, oI vi29, oI vi32, oR b378, oR b443, oI vi504] [oi vi32, ow b443])) rfl (by rw [hml]; rfl) (Steps.refl _) (argsL := [(.int vi32)]) (rest := []) (lenOf pd__I_Z rfl) rfl (by show 2 * 0 + _ ≤ _; exact Nat.le_of_eq rfl) (hb hby at_267) (fun _ _ => ⟨rfl, rfl, (by decide : 6 + 0 ≤ _), (by decide : 21 + 0 ≤ _)⟩)
      dsimp only [Pt.U, Pt.locs, Pt.cells, Pt.slots] at X516 l516 y516 z516 st516 hQ516
      subst l516 y516 z516
      obtain ⟨rfl, N516q, e516⟩ := hQ516
      have N516 := Fr.app N485 N516q
      have pre517 : oL p e below T516 (mkF m 280 #[oI p1, oI p2, oI p3, oI b11, oI 3, oI b17, oI vi23, oI vi26, oI vi29, oI vi32, oR b378, oR b443, oI vi504] [oi 1]) s₁ (entryFrame m #[(.int p1), (.int p2), (.int p3)] maxLocals) := fun t k => pre515 t (by
        refine st516.trans ?_
        refine XS.iload X516.here hx rfl (hb hby at_270) rfl ?_
        refine XS.icmpNo X516.here hx rfl (hb hby at_272) rfl (teq (rfl : vi504 = vi504)).2 ?_
        refine XS.iconst X516.here hx rfl (hb hby at_275) ?_
        show oS p e below T516 (mkF m 276 #[oI p1, oI p2, oI p3, oI b11, oI 3, oI b17, oI vi23, oI vi26, oI vi29, oI vi32, oR b378, oR b443, oI vi504] [oi 1]) _
        refine XS.goto X516.here hx rfl (pc0 := 276) (pc' := 280) rfl (hb hby at_276) (by decide) (by decide) ?_
        exact k)
      obtain ⟨fs, hr, hrun, hended, hEnd⟩ := X516.leaveW hS (by rw [e516]; exact hk) (v := some (.int (1 : Int32))) (fun h => by rw [Bd.returns] at h; cases h)
      refine ⟨_, _, pre517 _ ?_, hrun, hended, _, _, rfl, ?_, (by show CHr Z consts_1 s.vm s.heap T516.vm T516.heap; rw [hh, e516]; exact CR490.trans (CHv.at X516 hZ hEL CH490)), hEnd.1, hEnd.2.1, hEnd.2.2.1, hEnd.2.2.2.mono (by decide) (by decide)⟩
      ·
        show oS p e below T516 (mkF m 280 #[oI p1, oI p2, oI p3, oI b11, oI 3, oI b17, oI vi23, oI vi26, oI vi29, oI vi32, oR b378, oR b443, oI vi504] [oi 1]) _
        exact retN X516 hx (t := .boolean) Bd.returns (by simp) (hb hby at_280) hr
      ·
        show Q_rm0 Z p1 p2 p3 G1 wM h0 n0 _ T516.heap _
        rw [e516]
        exact ⟨rfl, N516⟩
  ·
    have pre518 : oL p e below s₁ (mkF m 194 #[oI p1, oI p2, oI p3, oI b11, oI (((p3.toUInt32 >>> ((1 : Int32) &&& 31).toUInt32).toInt32) &&& (3 : Int32)), oI b17, oI vi23, oI vi26, oI vi29, oI vi32, oN, oU, oU] []) s₁ (entryFrame m #[(.int p1), (.int p2), (.int p3)] maxLocals) := fun t k => pre37 t (by
      refine XS.ifNo X0.here hx rfl (hb hby at_81) rfl ((if0 _ _).trans (feq hc38).1) ?_
      refine XS.aconstNull X0.here hx rfl (hb hby at_84) ?_
      refine XS.astore X0.here hx rfl (hb hby at_85) rfl rfl (l' := #[oI p1, oI p2, oI p3, oI b11, oI (((p3.toUInt32 >>> ((1 : Int32) &&& 31).toUInt32).toInt32) &&& (3 : Int32)), oI b17, oI vi23, oI vi26, oI vi29, oI vi32, oN, oU, oU]) rfl ?_
      show oS p e below s₁ (mkF m 87 #[oI p1, oI p2, oI p3, oI b11, oI (((p3.toUInt32 >>> ((1 : Int32) &&& 31).toUInt32).toInt32) &&& (3 : Int32)), oI b17, oI vi23, oI vi26, oI vi29, oI vi32, oN, oU, oU] []) _
      refine XS.goto X0.here hx rfl (pc0 := 87) (pc' := 194) rfl (hb hby at_87) (by decide) (by decide) ?_
      exact k)
    obtain ⟨T519, h519, X519, e519, E519, A519, D519, -, st519⟩ := newO X0 hx hZ hown (oW hw 30 rfl) (oW hw 31 rfl) (oW hw 32 rfl) e0 (g := (mkF m 194 #[oI p1, oI p2, oI p3, oI b11, oI (((p3.toUInt32 >>> ((1 : Int32) &&& 31).toUInt32).toInt32) &&& (3 : Int32)), oI b17, oI vi23, oI vi26, oI vi29, oI vi32, oN, oU, oU] [])) rfl (hb hby at_194) (by decide) (by decide)
    obtain ⟨b519, g519⟩ : ∃ z, z = h0.size := ⟨_, rfl⟩
    rw [← g519] at A519 D519 st519
    have sf520 : Safe Z consts_1 s.vm h0 b519 := Safe.new (Nat.le_of_eq g519.symm)
    have ge_b519 : n0 ≤ b519 := Nat.le_trans (OL.1 ▸ OL.2.1) (Nat.le_of_eq g519.symm)
    have sz_b519 : h0.size ≤ b519 := Nat.le_trans (Keep.refl h0 []).1 (Nat.le_of_eq g519.symm)
    have sf521 := Safe.ext E519 CH0 sf520
    have cr522 := CHr.ext E519 CH0
    have CH522 := cr522.1
    have CR522 := CR0.trans cr522
    have OL523 := OL.ext E519
    have K524 : Keep h0 h519 [] := (Keep.refl h0 []).ext E519
    have hk := Nat.le_trans hk E519.1
    have f525 : Fld Z h519 b519 "com/example/vedette/vedette/definition/PositionDefinition" "name" "Ljava/lang/String;" .null := D519 (Or.inr (oW hw 60 rfl)) (ty := (.object "java/lang/String")) (by decide)
    have f526 : Fld Z h519 b519 "com/example/vedette/vedette/definition/PositionDefinition" "values" "Ljava/lang/String;" .null := D519 (Or.inr (oW hw 62 rfl)) (ty := (.object "java/lang/String")) (by decide)
    have f527 : Fld Z h519 b519 "com/example/vedette/vedette/definition/PositionDefinition" "labels" "Ljava/util/Map;" .null := D519 (Or.inr (oW hw 64 rfl)) (ty := (.object "java/util/Map")) (by decide)
    have pre528 : oL p e below T519 (mkF m 198 #[oI p1, oI p2, oI p3, oI b11, oI (((p3.toUInt32 >>> ((1 : Int32) &&& 31).toUInt32).toInt32) &&& (3 : Int32)), oI b17, oI vi23, oI vi26, oI vi29, oI vi32, oN, oU, oU] [ow b519, ow b519]) s₁ (entryFrame m #[(.int p1), (.int p2), (.int p3)] maxLocals) := fun t k => pre518 t (by
      refine st519 _ ?_
      refine XS.dup X519.here hx rfl (hb hby at_197) rfl rfl ?_
      exact k)
    obtain ⟨la529, T529, h529, kx529, lb529, kb529, X529, e529, E529, hS, hkn529, hZ, hown, Ea529, Fc529, Fv529, Va529, lta529, ltb529, cr529, Lt529, sep529, st529⟩ := ldcCH X519 hx hZ hown (oW hw 33 rfl) wS e519 hS hk hEL (List.mem_of_getElem? (i := 0) rfl) CH522 (vs := [(.int (112 : Int32))]) (z := (1 : Int32)) ⟨by decide, rfl⟩ (by decide) rfl (g := (mkF m 198 #[oI p1, oI p2, oI p3, oI b11, oI (((p3.toUInt32 >>> ((1 : Int32) &&& 31).toUInt32).toInt32) &&& (3 : Int32)), oI b17, oI vi23, oI vi26, oI vi29, oI vi32, oN, oU, oU] [ow b519, ow b519])) rfl (hb hby at_198) (n := 4) (by decide) (by decide) (by decide) (by decide)
    have f530 := A519.ext E529
    have f531 := f525.ext E529
    have f532 := f526.ext E529
    have f533 := f527.ext E529
    have OL534 := OL523.ext E529
    have K535 : Keep h0 h529 [] := K524.ext E529
    have sf536 := cr529.safe A519.lt sf521
    have sp537 := sep529 _ sf536
    have CH529 := cr529.1
    have CR529 := CR522.trans cr529
    have hk := hkn529
    have pre538 : oL p e below T529 (mkF m 202 #[oI p1, oI p2, oI p3, oI b11, oI (((p3.toUInt32 >>> ((1 : Int32) &&& 31).toUInt32).toInt32) &&& (3 : Int32)), oI b17, oI vi23, oI vi26, oI vi29, oI vi32, oN, oU, oU] [.null, ow la529, ow b519, ow b519]) s₁ (entryFrame m #[(.int p1), (.int p2), (.int p3)] maxLocals) := fun t k => pre528 t (by
      refine st529 _ ?_
      show oS p e below T529 (mkF m 200 #[oI p1, oI p2, oI p3, oI b11, oI (((p3.toUInt32 >>> ((1 : Int32) &&& 31).toUInt32).toInt32) &&& (3 : Int32)), oI b17, oI vi23, oI vi26, oI vi29, oI vi32, oN, oU, oU] [ow la529, ow b519, ow b519]) _
      refine XS.aload X529.here hx rfl (hb hby at_200) rfl rfl ?_
      exact k)
    obtain ⟨_, _, ⟨T539, L539, k539, n539⟩, -, X539, ⟨Lc539, hQ539, l539, y539, z539⟩, st539⟩ := X529.specialBack hx (y := (⟨"com/example/vedette/vedette/definition/PositionDefinition", "<init>", "(Ljava/lang/String;Ljava/lang/String;)V"⟩ : MethodName)) rfl hown (mvT hZ (oW hw 36 rfl)) (mvT hZ (oW hw 37 rfl)) (mvT hZ (oW hw 38 rfl)) (by decide) (backOf (W := 1) (rm_pd2 l Z a0 hw [] b519 la529 .null wM h529 n0 OL534 ge_b519 f530 f531 f532 f533 rfl sM eM) hZ (oW hw 38 rfl) (oW hw 32 rfl) (by decide) (by decide)) (g := (mkF m 202 #[oI p1, oI p2, oI p3, oI b11, oI (((p3.toUInt32 >>> ((1 : Int32) &&& 31).toUInt32).toInt32) &&& (3 : Int32)), oI b17, oI vi23, oI vi26, oI vi29, oI vi32, oN, oU, oU] [.null, ow la529, ow b519, ow b519])) rfl (by rw [hml]; rfl) (Steps.refl _) (a := b519) (argsL := [(.ref la529), .null]) (rest := [(.ref b519)]) (lenOf pd__Ljava_lang_String_Ljava_lang_String__V rfl) rfl (by show 2 * 0 + _ ≤ _; exact Nat.le_of_eq rfl) (hb hby at_202) (fun _ _ => ⟨rfl, e529, (by decide : 3 + 0 ≤ _), (by decide : 11 + 0 ≤ _)⟩)
    dsimp only [Pt.U, Pt.locs, Pt.cells, Pt.slots] at X539 l539 y539 z539 st539 hQ539
    subst l539 y539 z539
    obtain ⟨rfl, N539q, Kq539, Eq539, F0_539, F1_539, F2_539⟩ := hQ539
    have N539 := Fr.app N0 N539q
    have sf540 := Safe.keep Kq539 ((allS sf536 all0) : ∀ x ∈ [b519], Safe Z consts_1 T529.vm h529 x) CH529 sf536
    have cr541 := CHr.keep Kq539 ((allS sf536 all0) : ∀ x ∈ [b519], Safe Z consts_1 T529.vm h529 x) CH529
    have CH541 := cr541.1
    have CR541 := CR529.trans cr541
    have hk := Nat.le_trans hk Kq539.1
    have f542 := f530.keep Kq539
    have f543 := Ea529.keep Kq539
    have f544 := Fc529.keep Kq539 (ninS (Ne.symm sp537.1) nin0)
    have f545 := Fv529.keep Kq539 (ninS (Ne.symm sp537.1) nin0)
    have f546 := Va529.keep Kq539 (ninS (Ne.symm sp537.2) nin0)
    have OL547 := OL534.keep Kq539 (allS ge_b519 all0)
    have K548 : Keep h0 T539.heap [] := K535.trans Kq539 (allS (Or.inr sz_b519) all0)
    have pre549 : oL p e below T539 (mkF m 267 #[oI p1, oI p2, oI p3, oI b11, oI (((p3.toUInt32 >>> ((1 : Int32) &&& 31).toUInt32).toInt32) &&& (3 : Int32)), oI b17, oI vi23, oI vi26, oI vi29, oI vi32, oN, oR b519, oI 1] [oi vi32, ow b519]) s₁ (entryFrame m #[(.int p1), (.int p2), (.int p3)] maxLocals) := fun t k => pre538 t (by
      refine st539.trans ?_
      refine XS.astore X539.here hx rfl (hb hby at_205) rfl rfl (l' := #[oI p1, oI p2, oI p3, oI b11, oI (((p3.toUInt32 >>> ((1 : Int32) &&& 31).toUInt32).toInt32) &&& (3 : Int32)), oI b17, oI vi23, oI vi26, oI vi29, oI vi32, oN, oR b519, oU]) rfl ?_
      refine XS.iloadN X539.here hx rfl (hb hby at_207) rfl ?_
      show oS p e below T539 (mkF m 208 #[oI p1, oI p2, oI p3, oI b11, oI (((p3.toUInt32 >>> ((1 : Int32) &&& 31).toUInt32).toInt32) &&& (3 : Int32)), oI b17, oI vi23, oI vi26, oI vi29, oI vi32, oN, oR b519, oU] [oi b11]) _
      refine XS.ifNo X539.here hx rfl (hb hby at_208) rfl ((if0 _ _).trans (feq hc38).1) ?_
      refine XS.iconst X539.here hx rfl (hb hby at_211) ?_
      refine XS.istore X539.here hx rfl (hb hby at_212) rfl (l' := #[oI p1, oI p2, oI p3, oI b11, oI (((p3.toUInt32 >>> ((1 : Int32) &&& 31).toUInt32).toInt32) &&& (3 : Int32)), oI b17, oI vi23, oI vi26, oI vi29, oI vi32, oN, oR b519, oI 1]) rfl ?_
      refine XS.goto X539.here hx rfl (pc0 := 214) (pc' := 263) rfl (hb hby at_214) (by decide) (by decide) ?_
      show oS p e below T539 (mkF m 263 #[oI p1, oI p2, oI p3, oI b11, oI (((p3.toUInt32 >>> ((1 : Int32) &&& 31).toUInt32).toInt32) &&& (3 : Int32)), oI b17, oI vi23, oI vi26, oI vi29, oI vi32, oN, oR b519, oI 1] []) _
      refine XS.aload X539.here hx rfl (hb hby at_263) rfl rfl ?_
      refine XS.iload X539.here hx rfl (hb hby at_265) rfl ?_
      exact k)
    obtain ⟨cq550, kq550, q550a, q550b, q550c⟩ := isOf hZ rfl Eq539
    obtain ⟨_, _, ⟨T550, L550, k550, n550⟩, -, X550, ⟨Lc550, hQ550, l550, y550, z550⟩, st550⟩ := X539.virtualBack hx (y := (⟨"com/example/vedette/vedette/definition/PositionDefinition", "allows", "(I)Z"⟩ : MethodName)) (z := (⟨"com/example/vedette/vedette/definition/PositionDefinition", "allows", "(I)Z"⟩ : MethodName)) hown (mvT hZ (oW hw 65 rfl)) (mvT hZ (oW hw 66 rfl)) (notFace_of_selects (args := #[]) (mvT hZ (oW hw 68 rfl))) (mvT hZ (oW hw 68 rfl)) (mvT hZ (oW hw 67 rfl)) (by decide) (backOf (W := 0) (rm_alN l Z a0 hw [] b519 vi32 T539.heap n0 OL547 F1_539) hZ (oW hw 69 rfl) (oW hw 32 rfl) (by decide) (by decide)) q550a q550c (g := (mkF m 267 #[oI p1, oI p2, oI p3, oI b11, oI (((p3.toUInt32 >>> ((1 : Int32) &&& 31).toUInt32).toInt32) &&& (3 : Int32)), oI b17, oI vi23, oI vi26, oI vi29, oI vi32, oN, oR b519, oI 1] [oi vi32, ow b519])) rfl (by rw [hml]; rfl) (Steps.refl _) (argsL := [(.int vi32)]) (rest := []) (lenOf pd__I_Z rfl) rfl (by show 2 * 0 + _ ≤ _; exact Nat.le_of_eq rfl) (hb hby at_267) (fun _ _ => ⟨rfl, rfl, (by decide : 3 + 0 ≤ _), (by decide : 11 + 0 ≤ _)⟩)
    dsimp only [Pt.U, Pt.locs, Pt.cells, Pt.slots] at X550 l550 y550 z550 st550 hQ550
    subst l550 y550 z550
    obtain ⟨rfl, N550q, e550⟩ := hQ550
    have N550 := Fr.app N539 N550q
    have pre551 : oL p e below T550 (mkF m 280 #[oI p1, oI p2, oI p3, oI b11, oI (((p3.toUInt32 >>> ((1 : Int32) &&& 31).toUInt32).toInt32) &&& (3 : Int32)), oI b17, oI vi23, oI vi26, oI vi29, oI vi32, oN, oR b519, oI 1] [oi 1]) s₁ (entryFrame m #[(.int p1), (.int p2), (.int p3)] maxLocals) := fun t k => pre549 t (by
      refine st550.trans ?_
      refine XS.iload X550.here hx rfl (hb hby at_270) rfl ?_
      show oS p e below T550 (mkF m 272 #[oI p1, oI p2, oI p3, oI b11, oI (((p3.toUInt32 >>> ((1 : Int32) &&& 31).toUInt32).toInt32) &&& (3 : Int32)), oI b17, oI vi23, oI vi26, oI vi29, oI vi32, oN, oR b519, oI 1] [oi 1, oi 1]) _
      refine XS.icmpNo X550.here hx rfl (hb hby at_272) rfl (teq (by decide : (1 : Int32) = (1 : Int32))).2 ?_
      refine XS.iconst X550.here hx rfl (hb hby at_275) ?_
      refine XS.goto X550.here hx rfl (pc0 := 276) (pc' := 280) rfl (hb hby at_276) (by decide) (by decide) ?_
      exact k)
    obtain ⟨fs, hr, hrun, hended, hEnd⟩ := X550.leaveW hS (by rw [e550]; exact hk) (v := some (.int (1 : Int32))) (fun h => by rw [Bd.returns] at h; cases h)
    refine ⟨_, _, pre551 _ ?_, hrun, hended, _, _, rfl, ?_, (by show CHr Z consts_1 s.vm s.heap T550.vm T550.heap; rw [hh, e550]; exact CR541.trans (CHv.at X550 hZ hEL CH541)), hEnd.1, hEnd.2.1, hEnd.2.2.1, hEnd.2.2.2.mono (by decide) (by decide)⟩
    ·
      show oS p e below T550 (mkF m 280 #[oI p1, oI p2, oI p3, oI b11, oI (((p3.toUInt32 >>> ((1 : Int32) &&& 31).toUInt32).toInt32) &&& (3 : Int32)), oI b17, oI vi23, oI vi26, oI vi29, oI vi32, oN, oR b519, oI 1] [oi 1]) _
      exact retN X550 hx (t := .boolean) Bd.returns (by simp) (hb hby at_280) hr
    ·
      show Q_rm0 Z p1 p2 p3 G1 wM h0 n0 _ T550.heap _
      rw [e550]
      exact ⟨rfl, N550⟩
set_option maxRecDepth 65536 in
set_option maxHeartbeats 40000000 in
theorem comes_1 {Post : Tables → Env → Array Value → State → Outcome → State → Prop} (hpost : ∀ tb e args s v u, (limb_1_1.after args s (.returned v) u = true ∧ limb_1_2.after args s (.returned v) u = true ∧ True) → ReturnedEndW s (.returned v) u (Jvm.fieldLocs frame_1_writes args s ++ Jvm.arrayLocs frame_1_arrays args s ++ Jvm.staticLocs frame_1_statics s) 24 2176 → Post tb e args s (.returned v) u) :
    ArmFor flags0 classFile x code maxLocals ret World_1 tables_1 room_1 Calls_1 rest_1 Pre_1 Post := by
  intro l hfl _ _ p e ha hc hk s m args below hf hA hF happ hP
  obtain ⟨hcalls, hrest, hpre⟩ := hP
  obtain ⟨-, -, -, hnamed, -, -, -, hat⟩ := (Spec.applies_iff hf).mp happ
  obtain ⟨hg, hn⟩ := and_e (Cond.before_iff.mp (show (Jvm.Cond.and given_1 narrow_1).before args s = true from hpre))
  obtain ⟨hgl, hgr⟩ := and_e hg
  obtain ⟨hgrl, hgrr⟩ := and_e hgr
  obtain ⟨hgrrl, hgrrr⟩ := and_e hgrr
  obtain ⟨w0, w1, w2, rfl⟩ : ∃ w0 w1 w2 : Value, args = #[w0, w1, w2] := by
    have hs : args.size = 3 := by simpa [Cond.value, given_1] using hgl
    obtain ⟨L⟩ := args
    match L, hs with
    | [w0, w1, w2], _ => exact ⟨w0, w1, w2, rfl⟩
  have hw := fun d (hd : d ∈ tables_1) => atoms_spec (ws := Jvm.Cond.code x code maxLocals ret :: tables_1) hat d (List.mem_cons_of_mem _ hd)
  have hfit : Fit s := fun {y c} hc i hi => by
    obtain ⟨ha, rfl⟩ := Array.getElem?_eq_some_iff.mp hc
    have q := List.all_eq_true.mp ((Array.all_eq_true_iff_forall_mem.mp hF) _ (Array.getElem_mem ha)) i (List.mem_range.mpr hi)
    simpa [Array.getElem?_eq_getElem hi] using q
  obtain ⟨hsets, hown0⟩ := atoms_of _ (rest_1_c_eq ▸ (show rest_1_c.before _ s = true from hrest))
  have hr0 := Cond.before_iff.mp hown0
  obtain ⟨i0, ei0⟩ := is_v hgrl
  obtain rfl : w0 = (.int i0) := Option.some.inj ei0
  obtain ⟨i1, ei1⟩ := is_v hgrrl
  obtain rfl : w1 = (.int i1) := Option.some.inj ei1
  obtain ⟨i2, ei2⟩ := is_v hgrrr
  obtain rfl : w2 = (.int i2) := Option.some.inj ei2
  obtain ⟨G1, eG1⟩ := is_v (Cond.before_iff.mp (hsets _ (List.mem_of_getElem? (i := 1) rfl)))
  have O2 : Sta s s.heap "java/lang/String" "COMPACT_STRINGS" "Z" (.int G1) := Sta.start eG1 (Or.inl (hsets _ (List.mem_of_getElem? (i := 0) rfl)))
  have P5 : ¬ (G1 = (0 : Int32)) := gotF (Cond.eq_ints eG1 (Term.int_eval (0))) (not_v (Cond.before_iff.mp (hsets _ (List.mem_of_getElem? (i := 2) rfl))))
  obtain ⟨wM, evM⟩ := exa_v (Cond.before_iff.mp (hsets _ (List.mem_of_getElem? (i := 11) rfl)))
  have eM := Exa.start evM (Cond.before_iff.mp (hsets _ (List.mem_of_getElem? (i := 11) rfl)))
  have sM := Sta.start evM (Or.inl (hsets _ (List.mem_of_getElem? (i := 10) rfl)))
  have CH0 : CHv s consts_1 s.vm s.heap := CHv.start (own_EW s _ hw) (fun q hq => hcalls.1 q hq) (hsets _ (List.mem_of_getElem? (i := 2) rfl)) (oW hw 19 rfl) (oW hw 1 rfl)
  obtain ⟨n, o, h1, h2, h3, _, L, rfl, ⟨rfl, N⟩, -, hq⟩ := rm0 l s _ hw tables_1 i0 i1 i2 G1 wM s.heap s.heap.size (Old.start s) O2 P5 sM eM p e ha hc hk s m _ below hf ((Spec.applies_iff_loose hf).mp happ).1 ⟨rfl, State.Warmed39.refl s, rfl, CH0⟩ trivial
  refine ⟨n, _, h1, h2, h3, hpost _ _ _ _ _ _ ⟨Cond.after_iff.mpr rfl, Cond.after_iff.mpr (eq_i res_at (Term.int_eval (1)) rfl), trivial⟩ ⟨hq.1, hq.2.1, hq.2.2.1, (hq.2.2.2.sift fun y hy => Or.inr (N y hy)).mono (by decide) (by decide)⟩⟩
theorem main_1_1 : Claimed_1_1 := comes_1 fun _ _ _ _ _ _ h hF => ⟨h.1, hF⟩
theorem main_1_2 : Claimed_1_2 := comes_1 fun _ _ _ _ _ _ h hF => ⟨h.2.1, hF⟩
end Jvm.Pilot.@@N@@
namespace Jvm.Pilot.@@N@@
open Jvm Jvm.ClassFile Sem Op Lib Jvm.Free Jvm.Stand Jvm.Pilot.@@N@@.Jvm.D
/-! MADE BY PROGRAM (witnessworld.py) out of the Statement's table words and the real class files: 28 classes; the members and pool entries that the words name. The judged class is class 1, her method 1. -/
namespace start1
open Jvm.ClassFile
def u (s : String) : CpInfo := .utf8 (stringToUtf16 s)
/-- a pool by its gaps: so many unusable entries, then the entry; so many at the end -/
def gap : Nat → List CpInfo → List CpInfo
  | 0, r => r
  | n + 1, r => .unusable :: gap n r
def poolList (es : List (Nat × CpInfo)) (last : Nat) : List CpInfo := es.foldr (fun e r => gap e.1 (e.2 :: r)) (gap last [])
def pool (es : List (Nat × CpInfo)) (last : Nat) : Array CpInfo := ⟨poolList es last⟩
def fileOf (pool : Array CpInfo) (this : Nat) (attrs : Array Attribute := #[]) (ms : Array MethodInfo := #[]) (fl : Nat := 33) (sup : Nat := 0) (ifs : Array Nat := #[]) (fds : Array FieldInfo := #[]) : ClassFile where
  minorVersion := 0
  majorVersion := 65
  constantPool := pool
  accessFlags := fl
  thisClass := this
  superClass := sup
  interfaces := ifs
  fields := fds
  methods := ms
  attributes := attrs
def plain (name : String) (sup : Option ClassId) : Class where
  name := name
  kind := .ordinary
  loader := none
  accessFlags := 33
  super := sup
  interfaces := #[]
  cf := none
  fields := #[]
  methods := #[]
  instanceTypes := #[]
  staticTypes := #[]
  resolved := #[]
  callSites := []
  init := .initialized
  statics := none
  mirror := none

def pool0 : Array CpInfo := pool [(5, u "<init>"), (0, u "()V"), (1, .class_ 10), (1, u "java/lang/Object")] 113

def k0c0 : Code := { maxStack := 0, maxLocals := 1, code := object_method_1_code, exceptionTable := #[], attributes := #[] }
def k0m0 : Method := { name := "<init>", desc := "()V", sig := { parameters := [], returnType := none }, accessFlags := 1, code := some k0c0 }
/-- java/lang/Object -/
def k0 : Class := { plain "java/lang/Object" none with
  accessFlags := 33
  interfaces := #[]
  cf := some (fileOf pool0 8 #[] #[{ accessFlags := 1, nameIndex := 5, descriptorIndex := 6, attributes := #[] }] 33 0 #[] #[])
  fields := #[]
  methods := #[k0m0]
  instanceTypes := #[]
  staticTypes := #[]
  resolved := Array.replicate 124 none
  statics := none }

def pool1 : Array CpInfo := pool [(2, .class_ 4), (1, u "java/lang/Object"), (0, u "<init>"), (0, u "()V"), (0, .class_ 8), (0, u "java/lang/String"), (0, .methodref 7 10), (0, .nameAndType 5 11), (0, u "([C)V"), (0, .class_ 13), (0, u "com/example/vedette/vedette/definition/PositionDefinition"), (0, .string 15), (0, u "p"), (0, .methodref 12 17), (0, .nameAndType 5 18), (0, u "(Ljava/lang/String;Ljava/lang/String;)V"), (0, .methodref 12 20), (0, .nameAndType 21 22), (0, u "allows"), (0, u "(I)Z"), (0, .class_ 24), (0, u "com/example/vedette/vedette/definition/PositionDefinitionAllowsPinLaw"), (2, u "law"), (0, u "(III)Z")] 3

def k1m0 : Method := { name := "<init>", desc := "()V", sig := { parameters := [], returnType := none }, accessFlags := 1, code := none }
def k1c1 : Code := { maxStack := 6, maxLocals := 13, code := code, exceptionTable := #[], attributes := #[] }
def k1m1 : Method := { name := "law", desc := "(III)Z", sig := { parameters := [.int, .int, .int], returnType := some .boolean }, accessFlags := 9, code := some k1c1 }
/-- com/example/vedette/vedette/definition/PositionDefinitionAllowsPinLaw -/
def k1 : Class := { plain "com/example/vedette/vedette/definition/PositionDefinitionAllowsPinLaw" (some 0) with
  accessFlags := 49
  interfaces := #[]
  cf := some (fileOf pool1 23 #[] #[{ accessFlags := 1, nameIndex := 5, descriptorIndex := 6, attributes := #[] }, { accessFlags := 9, nameIndex := 27, descriptorIndex := 28, attributes := #[] }] 49 2 #[] #[])
  fields := #[]
  methods := #[k1m0, k1m1]
  instanceTypes := #[]
  staticTypes := #[]
  resolved := Array.replicate 32 none
  statics := none }

def pool2 : Array CpInfo := pool [(1, .class_ 2), (0, u "java/io/Serializable"), (0, .class_ 4), (0, u "java/lang/Object")] 2

/-- java/io/Serializable -/
def k2 : Class := { plain "java/io/Serializable" (some 0) with
  accessFlags := 1537
  interfaces := #[]
  cf := some (fileOf pool2 1 #[] #[] 1537 3 #[] #[])
  fields := #[]
  methods := #[]
  instanceTypes := #[]
  staticTypes := #[]
  resolved := Array.replicate 7 none
  statics := none }

def pool3 : Array CpInfo := pool [(1, .class_ 2), (0, u "java/lang/Comparable"), (0, .class_ 4), (0, u "java/lang/Object")] 7

/-- java/lang/Comparable -/
def k3 : Class := { plain "java/lang/Comparable" (some 0) with
  accessFlags := 1537
  interfaces := #[]
  cf := some (fileOf pool3 1 #[] #[] 1537 3 #[] #[])
  fields := #[]
  methods := #[]
  instanceTypes := #[]
  staticTypes := #[]
  resolved := Array.replicate 12 none
  statics := none }

def pool4 : Array CpInfo := pool [(2, .class_ 4), (1, u "java/lang/CharSequence"), (42, .class_ 48), (0, u "java/lang/CharSequence$1CodePointIterator"), (10, .class_ 60), (0, u "java/lang/CharSequence$1CharIterator"), (5, .class_ 67), (0, u "java/lang/Object")] 63

/-- java/lang/CharSequence -/
def k4 : Class := { plain "java/lang/CharSequence" (some 0) with
  accessFlags := 1537
  interfaces := #[]
  cf := some (fileOf pool4 2 #[.nestMembers #[47, 59]] #[] 1537 66 #[] #[])
  fields := #[]
  methods := #[]
  instanceTypes := #[]
  staticTypes := #[]
  resolved := Array.replicate 131 none
  statics := none }

def pool5 : Array CpInfo := pool [(1, .class_ 2), (0, u "java/lang/constant/Constable"), (0, .class_ 4), (0, u "java/lang/Object")] 6

/-- java/lang/constant/Constable -/
def k5 : Class := { plain "java/lang/constant/Constable" (some 0) with
  accessFlags := 1537
  interfaces := #[]
  cf := some (fileOf pool5 1 #[] #[] 1537 3 #[] #[])
  fields := #[]
  methods := #[]
  instanceTypes := #[]
  staticTypes := #[]
  resolved := Array.replicate 11 none
  statics := none }

def pool6 : Array CpInfo := pool [(1, .class_ 2), (0, u "java/lang/constant/ConstantDesc"), (0, .class_ 4), (0, u "java/lang/Object")] 32

/-- java/lang/constant/ConstantDesc -/
def k6 : Class := { plain "java/lang/constant/ConstantDesc" (some 0) with
  accessFlags := 1537
  interfaces := #[]
  cf := some (fileOf pool6 1 #[] #[] 1537 3 #[] #[])
  fields := #[]
  methods := #[]
  instanceTypes := #[]
  staticTypes := #[]
  resolved := Array.replicate 37 none
  statics := none }

def pool7 : Array CpInfo := pool [(1, .methodref 2 3), (0, .class_ 4), (0, .nameAndType 5 6), (0, u "java/lang/Object"), (0, u "<init>"), (0, u "()V"), (0, .string 8), (0, u ""), (0, .fieldref 10 11), (0, .class_ 12), (0, .nameAndType 13 14), (0, u "java/lang/String"), (0, u "value"), (0, u "[B"), (0, .fieldref 10 16), (0, .nameAndType 17 18), (0, u "coder"), (0, u "B"), (2, u "hash"), (0, u "I"), (2, u "hashIsZero"), (0, u "Z"), (0, .methodref 10 28), (0, .nameAndType 5 29), (0, u "([CIILjava/lang/Void;)V"), (8, .fieldref 10 39), (0, .nameAndType 40 26), (0, u "COMPACT_STRINGS"), (1, .class_ 44), (1, u "java/lang/StringUTF16"), (0, u "compress"), (1, .methodref 42 48), (0, .nameAndType 49 50), (0, u "coderFromArrayLen"), (0, u "([BI)B"), (56, .class_ 109), (1, u "java/lang/StringLatin1"), (32, u "()Z"), (34, .methodref 42 178), (0, .nameAndType 45 179), (0, u "([CII)[B"), (154, u "()I"), (0, .methodref 10 336), (0, .nameAndType 17 337), (0, u "()B"), (154, .methodref 10 493), (0, .nameAndType 494 142), (0, u "isLatin1"), (10, .methodref 10 506), (0, .nameAndType 507 334), (0, u "length"), (67, .class_ 576), (0, u "java/lang/CharSequence"), (22, u "CASE_INSENSITIVE_ORDER"), (0, u "Ljava/util/Comparator;"), (32, .methodref 10 634), (0, .nameAndType 635 636), (0, u "indexOf"), (0, u "(II)I"), (0, .methodref 107 638), (0, .nameAndType 635 639), (0, u "([BIII)I"), (125, u "(I)I"), (244, u "([C)V"), (90, u "serialPersistentFields"), (0, u "[Ljava/io/ObjectStreamField;"), (0, .class_ 1104), (0, u "java/lang/String$CaseInsensitiveComparator"), (1, .class_ 1107), (0, u "java/io/Serializable"), (0, .class_ 1109), (0, u "java/lang/Comparable"), (0, .class_ 1111), (0, u "java/lang/constant/Constable"), (0, .class_ 1113), (0, u "java/lang/constant/ConstantDesc"), (2, u "serialVersionUID"), (0, u "J"), (3, u "REPL"), (0, u "C"), (2, u "LATIN1"), (1, u "UTF16")] 323

def k7m0 : Method := { name := "<init>", desc := "()V", sig := { parameters := [], returnType := none }, accessFlags := 1, code := none }
def k7c1 : Code := { maxStack := 5, maxLocals := 2, code := jdk_42_method_3_code, exceptionTable := #[], attributes := #[] }
def k7m1 : Method := { name := "<init>", desc := "([C)V", sig := { parameters := [(.array .char)], returnType := none }, accessFlags := 1, code := some k7c1 }
def k7c2 : Code := { maxStack := 2, maxLocals := 1, code := jdk_42_method_54_code, exceptionTable := #[], attributes := #[] }
def k7m2 : Method := { name := "length", desc := "()I", sig := { parameters := [], returnType := some .int }, accessFlags := 1, code := some k7c2 }
def k7c3 : Code := { maxStack := 3, maxLocals := 2, code := jdk_42_method_79_code, exceptionTable := #[], attributes := #[] }
def k7m3 : Method := { name := "indexOf", desc := "(I)I", sig := { parameters := [.int], returnType := some .int }, accessFlags := 1, code := some k7c3 }
def k7c4 : Code := { maxStack := 4, maxLocals := 3, code := jdk_42_method_80_code, exceptionTable := #[], attributes := #[] }
def k7m4 : Method := { name := "indexOf", desc := "(II)I", sig := { parameters := [.int, .int], returnType := some .int }, accessFlags := 1, code := some k7c4 }
def k7c5 : Code := { maxStack := 4, maxLocals := 6, code := jdk_42_method_149_code, exceptionTable := #[], attributes := #[] }
def k7m5 : Method := { name := "<init>", desc := "([CIILjava/lang/Void;)V", sig := { parameters := [(.array .char), .int, .int, (.object "java/lang/Void")], returnType := none }, accessFlags := 2, code := some k7c5 }
def k7c6 : Code := { maxStack := 1, maxLocals := 1, code := jdk_42_method_152_code, exceptionTable := #[], attributes := #[] }
def k7m6 : Method := { name := "coder", desc := "()B", sig := { parameters := [], returnType := some .byte }, accessFlags := 0, code := some k7c6 }
def k7c7 : Code := { maxStack := 1, maxLocals := 1, code := jdk_42_method_154_code, exceptionTable := #[], attributes := #[] }
def k7m7 : Method := { name := "isLatin1", desc := "()Z", sig := { parameters := [], returnType := some .boolean }, accessFlags := 0, code := some k7c7 }
/-- java/lang/String -/
def k7 : Class := { plain "java/lang/String" (some 0) with
  accessFlags := 49
  interfaces := #[2, 3, 4, 5, 6]
  cf := some (fileOf pool7 10 #[.nestMembers #[1103]] #[{ accessFlags := 1, nameIndex := 5, descriptorIndex := 6, attributes := #[] }, { accessFlags := 1, nameIndex := 5, descriptorIndex := 1010, attributes := #[] }, { accessFlags := 1, nameIndex := 507, descriptorIndex := 334, attributes := #[] }, { accessFlags := 1, nameIndex := 635, descriptorIndex := 765, attributes := #[] }, { accessFlags := 1, nameIndex := 635, descriptorIndex := 636, attributes := #[] }, { accessFlags := 2, nameIndex := 5, descriptorIndex := 29, attributes := #[] }, { accessFlags := 0, nameIndex := 17, descriptorIndex := 337, attributes := #[] }, { accessFlags := 0, nameIndex := 494, descriptorIndex := 142, attributes := #[] }] 49 2 #[1106, 1108, 575, 1110, 1112] #[{ accessFlags := 18, nameIndex := 13, descriptorIndex := 14, attributes := #[] }, { accessFlags := 18, nameIndex := 17, descriptorIndex := 18, attributes := #[] }, { accessFlags := 2, nameIndex := 21, descriptorIndex := 22, attributes := #[] }, { accessFlags := 2, nameIndex := 25, descriptorIndex := 26, attributes := #[] }, { accessFlags := 26, nameIndex := 1116, descriptorIndex := 1117, attributes := #[] }, { accessFlags := 24, nameIndex := 40, descriptorIndex := 26, attributes := #[] }, { accessFlags := 26, nameIndex := 1101, descriptorIndex := 1102, attributes := #[] }, { accessFlags := 26, nameIndex := 1121, descriptorIndex := 1122, attributes := #[] }, { accessFlags := 25, nameIndex := 599, descriptorIndex := 600, attributes := #[] }, { accessFlags := 24, nameIndex := 1125, descriptorIndex := 18, attributes := #[] }, { accessFlags := 24, nameIndex := 1127, descriptorIndex := 18, attributes := #[] }])
  fields := #[{ name := "value", type := (.array .byte), accessFlags := 18, slot := 0, constantValue := 0 }, { name := "coder", type := .byte, accessFlags := 18, slot := 1, constantValue := 0 }, { name := "hash", type := .int, accessFlags := 2, slot := 2, constantValue := 0 }, { name := "hashIsZero", type := .boolean, accessFlags := 2, slot := 3, constantValue := 0 }, { name := "serialVersionUID", type := .long, accessFlags := 26, slot := 0, constantValue := 0 }, { name := "COMPACT_STRINGS", type := .boolean, accessFlags := 24, slot := 1, constantValue := 0 }, { name := "serialPersistentFields", type := (.array (.object "java/io/ObjectStreamField")), accessFlags := 26, slot := 2, constantValue := 0 }, { name := "REPL", type := .char, accessFlags := 26, slot := 3, constantValue := 0 }, { name := "CASE_INSENSITIVE_ORDER", type := (.object "java/util/Comparator"), accessFlags := 25, slot := 4, constantValue := 0 }, { name := "LATIN1", type := .byte, accessFlags := 24, slot := 5, constantValue := 0 }, { name := "UTF16", type := .byte, accessFlags := 24, slot := 6, constantValue := 0 }]
  methods := #[k7m0, k7m1, k7m2, k7m3, k7m4, k7m5, k7m6, k7m7]
  instanceTypes := #[(.array .byte), .byte, .int, .boolean]
  staticTypes := #[.long, .boolean, (.array (.object "java/io/ObjectStreamField")), .char, (.object "java/util/Comparator"), .byte, .byte]
  resolved := Array.replicate 1451 none
  statics := some 0 }

def pool8 : Array CpInfo := pool [(6, .class_ 8), (1, u "java/lang/Object"), (0, u "<init>"), (0, u "()V"), (1, .class_ 14), (1, u "java/lang/StringUTF16"), (31, u "$assertionsDisabled"), (0, u "Z"), (13, u "HI_BYTE_SHIFT"), (0, u "I"), (2, u "LO_BYTE_SHIFT"), (49, .methodref 12 116), (0, .nameAndType 117 118), (0, u "compress"), (0, u "([CI[BII)I"), (3, u "([CII)[B"), (138, u "coderFromArrayLen"), (0, u "([BI)B"), (106, .class_ 371), (1, u "java/lang/StringUTF16$LinesSpliterator"), (58, u "MAX_LENGTH"), (196, .class_ 628), (0, u "java/lang/StringUTF16$CodePointsSpliterator"), (0, .class_ 630), (0, u "java/lang/StringUTF16$CharsSpliterator")] 4

def k8m0 : Method := { name := "<init>", desc := "()V", sig := { parameters := [], returnType := none }, accessFlags := 0, code := none }
def k8c1 : Code := { maxStack := 2, maxLocals := 2, code := jdk_52_method_15_code, exceptionTable := #[], attributes := #[] }
def k8m1 : Method := { name := "coderFromArrayLen", desc := "([BI)B", sig := { parameters := [(.array .byte), .int], returnType := some .byte }, accessFlags := 8, code := some k8c1 }
def k8c2 : Code := { maxStack := 5, maxLocals := 6, code := jdk_52_method_16_code, exceptionTable := #[], attributes := #[] }
def k8m2 : Method := { name := "compress", desc := "([CII)[B", sig := { parameters := [(.array .char), .int, .int], returnType := some (.array .byte) }, accessFlags := 9, code := some k8c2 }
def k8c3 : Code := { maxStack := 3, maxLocals := 7, code := jdk_52_method_21_code, exceptionTable := #[], attributes := #[] }
def k8m3 : Method := { name := "compress", desc := "([CI[BII)I", sig := { parameters := [(.array .char), .int, (.array .byte), .int, .int], returnType := some .int }, accessFlags := 9, code := some k8c3 }
/-- java/lang/StringUTF16 -/
def k8 : Class := { plain "java/lang/StringUTF16" (some 0) with
  accessFlags := 48
  interfaces := #[]
  cf := some (fileOf pool8 12 #[.nestMembers #[627, 629, 369]] #[{ accessFlags := 0, nameIndex := 9, descriptorIndex := 10, attributes := #[] }, { accessFlags := 8, nameIndex := 261, descriptorIndex := 262, attributes := #[] }, { accessFlags := 9, nameIndex := 117, descriptorIndex := 122, attributes := #[] }, { accessFlags := 9, nameIndex := 117, descriptorIndex := 118, attributes := #[] }] 48 6 #[] #[{ accessFlags := 26, nameIndex := 61, descriptorIndex := 62, attributes := #[] }, { accessFlags := 26, nameIndex := 65, descriptorIndex := 62, attributes := #[] }, { accessFlags := 24, nameIndex := 430, descriptorIndex := 62, attributes := #[] }, { accessFlags := 4120, nameIndex := 46, descriptorIndex := 47, attributes := #[] }])
  fields := #[{ name := "HI_BYTE_SHIFT", type := .int, accessFlags := 26, slot := 0, constantValue := 0 }, { name := "LO_BYTE_SHIFT", type := .int, accessFlags := 26, slot := 1, constantValue := 0 }, { name := "MAX_LENGTH", type := .int, accessFlags := 24, slot := 2, constantValue := 0 }, { name := "$assertionsDisabled", type := .boolean, accessFlags := 4120, slot := 3, constantValue := 0 }]
  methods := #[k8m0, k8m1, k8m2, k8m3]
  instanceTypes := #[]
  staticTypes := #[.int, .int, .int, .boolean]
  resolved := Array.replicate 635 none
  statics := none }

def pool9 : Array CpInfo := pool [(1, .methodref 2 3), (0, .class_ 4), (0, .nameAndType 5 6), (0, u "java/lang/Object"), (0, u "<init>"), (0, u "()V"), (0, .class_ 8), (0, u "java/lang/Record")] 13

def k9c0 : Code := { maxStack := 1, maxLocals := 1, code := jdk_30_method_1_code, exceptionTable := #[], attributes := #[] }
def k9m0 : Method := { name := "<init>", desc := "()V", sig := { parameters := [], returnType := none }, accessFlags := 4, code := some k9c0 }
/-- java/lang/Record -/
def k9 : Class := { plain "java/lang/Record" (some 0) with
  accessFlags := 1057
  interfaces := #[]
  cf := some (fileOf pool9 7 #[] #[{ accessFlags := 4, nameIndex := 5, descriptorIndex := 6, attributes := #[] }] 1057 2 #[] #[])
  fields := #[]
  methods := #[k9m0]
  instanceTypes := #[]
  staticTypes := #[]
  resolved := Array.replicate 22 none
  statics := none }

def pool10 : Array CpInfo := pool [(1, .methodref 2 3), (0, .class_ 4), (0, .nameAndType 5 6), (0, u "java/lang/Record"), (0, u "<init>"), (0, u "()V"), (0, .interfaceMethodref 8 9), (0, .class_ 10), (0, .nameAndType 11 12), (0, u "java/util/Map"), (0, u "copyOf"), (0, u "(Ljava/util/Map;)Ljava/util/Map;"), (0, .fieldref 14 15), (0, .class_ 16), (0, .nameAndType 17 18), (0, u "com/example/vedette/vedette/definition/PositionDefinition"), (0, u "name"), (0, u "Ljava/lang/String;"), (0, .fieldref 14 20), (0, .nameAndType 21 18), (0, u "values"), (0, .fieldref 14 23), (0, .nameAndType 24 25), (0, u "labels"), (0, u "Ljava/util/Map;"), (0, .interfaceMethodref 8 27), (0, .nameAndType 28 29), (0, u "of"), (0, u "()Ljava/util/Map;"), (0, .methodref 14 31), (0, .nameAndType 5 32), (0, u "(Ljava/lang/String;Ljava/lang/String;Ljava/util/Map;)V"), (0, .methodref 34 35), (0, .class_ 36), (0, .nameAndType 37 38), (0, u "java/lang/String"), (0, u "indexOf"), (0, u "(I)I"), (76, u "(Ljava/lang/String;Ljava/lang/String;)V"), (0, u "allows"), (0, u "(I)Z")] 54

def k10c0 : Code := { maxStack := 2, maxLocals := 4, code := prog_8_method_1_code, exceptionTable := #[], attributes := #[] }
def k10m0 : Method := { name := "<init>", desc := "(Ljava/lang/String;Ljava/lang/String;Ljava/util/Map;)V", sig := { parameters := [(.object "java/lang/String"), (.object "java/lang/String"), (.object "java/util/Map")], returnType := none }, accessFlags := 1, code := some k10c0 }
def k10c1 : Code := { maxStack := 4, maxLocals := 3, code := prog_8_method_2_code, exceptionTable := #[], attributes := #[] }
def k10m1 : Method := { name := "<init>", desc := "(Ljava/lang/String;Ljava/lang/String;)V", sig := { parameters := [(.object "java/lang/String"), (.object "java/lang/String")], returnType := none }, accessFlags := 1, code := some k10c1 }
def k10c2 : Code := { maxStack := 2, maxLocals := 2, code := prog_8_method_3_code, exceptionTable := #[], attributes := #[] }
def k10m2 : Method := { name := "allows", desc := "(I)Z", sig := { parameters := [.int], returnType := some .boolean }, accessFlags := 1, code := some k10c2 }
/-- com/example/vedette/vedette/definition/PositionDefinition -/
def k10 : Class := { plain "com/example/vedette/vedette/definition/PositionDefinition" (some 9) with
  accessFlags := 49
  interfaces := #[]
  cf := some (fileOf pool10 14 #[] #[{ accessFlags := 1, nameIndex := 5, descriptorIndex := 32, attributes := #[] }, { accessFlags := 1, nameIndex := 5, descriptorIndex := 115, attributes := #[] }, { accessFlags := 1, nameIndex := 116, descriptorIndex := 117, attributes := #[] }] 49 2 #[] #[{ accessFlags := 18, nameIndex := 17, descriptorIndex := 18, attributes := #[] }, { accessFlags := 18, nameIndex := 21, descriptorIndex := 18, attributes := #[] }, { accessFlags := 18, nameIndex := 24, descriptorIndex := 25, attributes := #[] }])
  fields := #[{ name := "name", type := (.object "java/lang/String"), accessFlags := 18, slot := 0, constantValue := 0 }, { name := "values", type := (.object "java/lang/String"), accessFlags := 18, slot := 1, constantValue := 0 }, { name := "labels", type := (.object "java/util/Map"), accessFlags := 18, slot := 2, constantValue := 0 }]
  methods := #[k10m0, k10m1, k10m2]
  instanceTypes := #[(.object "java/lang/String"), (.object "java/lang/String"), (.object "java/util/Map")]
  staticTypes := #[]
  resolved := Array.replicate 172 none
  statics := none }

def pool11 : Array CpInfo := pool [(2, .class_ 4), (1, u "java/util/Map"), (31, .class_ 37), (0, u "java/util/Map$Entry"), (43, .fieldref 82 83), (0, .class_ 84), (0, .nameAndType 85 86), (0, u "java/util/ImmutableCollections"), (0, u "EMPTY_MAP"), (0, u "Ljava/util/ImmutableCollections$MapN;"), (6, .class_ 94), (0, u "java/lang/Object"), (6, .class_ 102), (0, u "java/util/ImmutableCollections$AbstractImmutableMap"), (5, u "of"), (0, u "()Ljava/util/Map;"), (140, u "copyOf"), (0, u "(Ljava/util/Map;)Ljava/util/Map;")] 11

def k11c0 : Code := { maxStack := 1, maxLocals := 0, code := jdk_72_method_26_code, exceptionTable := #[], attributes := #[] }
def k11m0 : Method := { name := "of", desc := "()Ljava/util/Map;", sig := { parameters := [], returnType := some (.object "java/util/Map") }, accessFlags := 9, code := some k11c0 }
def k11c1 : Code := { maxStack := 2, maxLocals := 1, code := jdk_72_method_39_code, exceptionTable := #[], attributes := #[] }
def k11m1 : Method := { name := "copyOf", desc := "(Ljava/util/Map;)Ljava/util/Map;", sig := { parameters := [(.object "java/util/Map")], returnType := some (.object "java/util/Map") }, accessFlags := 9, code := some k11c1 }
/-- java/util/Map -/
def k11 : Class := { plain "java/util/Map" (some 0) with
  accessFlags := 1537
  interfaces := #[]
  cf := some (fileOf pool11 2 #[.nestMembers #[36]] #[{ accessFlags := 9, nameIndex := 108, descriptorIndex := 109, attributes := #[] }, { accessFlags := 9, nameIndex := 250, descriptorIndex := 251, attributes := #[] }] 1537 93 #[] #[])
  fields := #[]
  methods := #[k11m0, k11m1]
  instanceTypes := #[]
  staticTypes := #[]
  resolved := Array.replicate 263 none
  statics := none }

def pool12 : Array CpInfo := pool [(2, .class_ 4), (1, u "java/lang/Object"), (0, u "<init>"), (0, u "()V"), (3, .class_ 11), (0, u "java/util/ImmutableCollections$List12"), (0, .class_ 13), (0, u "java/util/ImmutableCollections$ListN"), (3, u "Z"), (29, .class_ 49), (1, u "java/util/ImmutableCollections"), (0, u "$assertionsDisabled"), (5, u "[Ljava/lang/Object;"), (5, u "EMPTY_LIST"), (0, u "Ljava/util/ImmutableCollections$ListN;"), (8, u "EMPTY_LIST_NULLS"), (22, u "SALT32L"), (0, u "J"), (2, u "REVERSE"), (6, u "archivedObjects"), (2, u "EMPTY"), (0, u "Ljava/lang/Object;"), (0, .class_ 112), (0, u "java/util/ImmutableCollections$SetN"), (5, u "EMPTY_SET"), (0, u "Ljava/util/ImmutableCollections$SetN;"), (0, .class_ 121), (0, u "java/util/ImmutableCollections$MapN"), (3, u "EMPTY_MAP"), (0, u "Ljava/util/ImmutableCollections$MapN;"), (4, u "EXPAND_FACTOR"), (0, u "I"), (36, .class_ 170), (0, u "java/util/ImmutableCollections$MapN$MapNIterator"), (0, .class_ 172), (0, u "java/util/ImmutableCollections$MapN$1"), (0, .class_ 174), (0, u "java/util/ImmutableCollections$Map1"), (0, .class_ 176), (0, u "java/util/ImmutableCollections$AbstractImmutableMap"), (0, .class_ 178), (0, u "java/util/ImmutableCollections$SetN$SetNIterator"), (0, .class_ 180), (0, u "java/util/ImmutableCollections$Set12"), (0, .class_ 182), (0, u "java/util/ImmutableCollections$Set12$1"), (0, .class_ 184), (0, u "java/util/ImmutableCollections$AbstractImmutableSet"), (0, .class_ 186), (0, u "java/util/ImmutableCollections$SubList"), (0, .class_ 188), (0, u "java/util/ImmutableCollections$ListItr"), (0, .class_ 190), (0, u "java/util/ImmutableCollections$AbstractImmutableList"), (0, .class_ 192), (0, u "java/util/ImmutableCollections$AbstractImmutableCollection"), (0, .class_ 194), (0, u "java/util/ImmutableCollections$Access"), (0, .class_ 196), (0, u "java/util/ImmutableCollections$Access$1")] 16

def k12m0 : Method := { name := "<init>", desc := "()V", sig := { parameters := [], returnType := none }, accessFlags := 2, code := none }
/-- java/util/ImmutableCollections -/
def k12 : Class := { plain "java/util/ImmutableCollections" (some 0) with
  accessFlags := 32
  interfaces := #[]
  cf := some (fileOf pool12 47 #[.nestMembers #[120, 169, 171, 173, 175, 111, 177, 179, 181, 183, 12, 10, 185, 187, 189, 191, 193, 195]] #[{ accessFlags := 2, nameIndex := 5, descriptorIndex := 6, attributes := #[] }] 32 2 #[] #[{ accessFlags := 26, nameIndex := 95, descriptorIndex := 96, attributes := #[] }, { accessFlags := 26, nameIndex := 99, descriptorIndex := 17, attributes := #[] }, { accessFlags := 10, nameIndex := 106, descriptorIndex := 56, attributes := #[] }, { accessFlags := 26, nameIndex := 109, descriptorIndex := 110, attributes := #[] }, { accessFlags := 24, nameIndex := 62, descriptorIndex := 63, attributes := #[] }, { accessFlags := 24, nameIndex := 72, descriptorIndex := 63, attributes := #[] }, { accessFlags := 24, nameIndex := 118, descriptorIndex := 119, attributes := #[] }, { accessFlags := 24, nameIndex := 125, descriptorIndex := 126, attributes := #[] }, { accessFlags := 24, nameIndex := 131, descriptorIndex := 132, attributes := #[] }, { accessFlags := 4120, nameIndex := 50, descriptorIndex := 17, attributes := #[] }])
  fields := #[{ name := "SALT32L", type := .long, accessFlags := 26, slot := 0, constantValue := 0 }, { name := "REVERSE", type := .boolean, accessFlags := 26, slot := 1, constantValue := 0 }, { name := "archivedObjects", type := (.array (.object "java/lang/Object")), accessFlags := 10, slot := 2, constantValue := 0 }, { name := "EMPTY", type := (.object "java/lang/Object"), accessFlags := 26, slot := 3, constantValue := 0 }, { name := "EMPTY_LIST", type := (.object "java/util/ImmutableCollections$ListN"), accessFlags := 24, slot := 4, constantValue := 0 }, { name := "EMPTY_LIST_NULLS", type := (.object "java/util/ImmutableCollections$ListN"), accessFlags := 24, slot := 5, constantValue := 0 }, { name := "EMPTY_SET", type := (.object "java/util/ImmutableCollections$SetN"), accessFlags := 24, slot := 6, constantValue := 0 }, { name := "EMPTY_MAP", type := (.object "java/util/ImmutableCollections$MapN"), accessFlags := 24, slot := 7, constantValue := 0 }, { name := "EXPAND_FACTOR", type := .int, accessFlags := 24, slot := 8, constantValue := 0 }, { name := "$assertionsDisabled", type := .boolean, accessFlags := 4120, slot := 9, constantValue := 0 }]
  methods := #[k12m0]
  instanceTypes := #[]
  staticTypes := #[.long, .boolean, (.array (.object "java/lang/Object")), (.object "java/lang/Object"), (.object "java/util/ImmutableCollections$ListN"), (.object "java/util/ImmutableCollections$ListN"), (.object "java/util/ImmutableCollections$SetN"), (.object "java/util/ImmutableCollections$MapN"), .int, .boolean]
  resolved := Array.replicate 213 none
  statics := some 1 }

def pool13 : Array CpInfo := pool [(2, .class_ 4), (1, u "java/lang/Object"), (0, u "<init>"), (0, u "()V"), (1, .class_ 10), (1, u "java/util/AbstractMap"), (42, .class_ 54), (0, u "java/util/Map"), (9, u "keySet"), (0, u "Ljava/util/Set;"), (0, .class_ 67), (0, u "java/util/AbstractMap$1"), (5, u "values"), (0, u "Ljava/util/Collection;"), (0, .class_ 76), (0, u "java/util/AbstractMap$2"), (104, .class_ 182), (0, u "java/util/AbstractMap$ViewCollection"), (0, .class_ 184), (0, u "java/util/AbstractMap$SimpleImmutableEntry"), (0, .class_ 186), (0, u "java/util/AbstractMap$SimpleEntry"), (0, .class_ 188), (0, u "java/util/AbstractMap$2$1"), (0, .class_ 190), (0, u "java/util/AbstractMap$1$1")] 5

def k13m0 : Method := { name := "<init>", desc := "()V", sig := { parameters := [], returnType := none }, accessFlags := 4, code := none }
/-- java/util/AbstractMap -/
def k13 : Class := { plain "java/util/AbstractMap" (some 0) with
  accessFlags := 1057
  interfaces := #[11]
  cf := some (fileOf pool13 8 #[.nestMembers #[181, 183, 185, 75, 187, 66, 189]] #[{ accessFlags := 4, nameIndex := 5, descriptorIndex := 6, attributes := #[] }] 1057 2 #[53] #[{ accessFlags := 128, nameIndex := 64, descriptorIndex := 65, attributes := #[] }, { accessFlags := 128, nameIndex := 73, descriptorIndex := 74, attributes := #[] }])
  fields := #[{ name := "keySet", type := (.object "java/util/Set"), accessFlags := 128, slot := 0, constantValue := 0 }, { name := "values", type := (.object "java/util/Collection"), accessFlags := 128, slot := 1, constantValue := 0 }]
  methods := #[k13m0]
  instanceTypes := #[(.object "java/util/Set"), (.object "java/util/Collection")]
  staticTypes := #[]
  resolved := Array.replicate 196 none
  statics := none }

def pool14 : Array CpInfo := pool [(2, .class_ 4), (1, u "java/util/AbstractMap"), (0, u "<init>"), (0, u "()V"), (1, .class_ 10), (1, u "java/util/ImmutableCollections"), (3, .class_ 16), (1, u "java/util/ImmutableCollections$AbstractImmutableMap"), (2, .class_ 20), (0, u "java/io/Serializable")] 66

def k14m0 : Method := { name := "<init>", desc := "()V", sig := { parameters := [], returnType := none }, accessFlags := 0, code := none }
/-- java/util/ImmutableCollections$AbstractImmutableMap -/
def k14 : Class := { plain "java/util/ImmutableCollections$AbstractImmutableMap" (some 13) with
  accessFlags := 1056
  interfaces := #[2]
  cf := some (fileOf pool14 14 #[.nestHost 8] #[{ accessFlags := 0, nameIndex := 5, descriptorIndex := 6, attributes := #[] }] 1056 2 #[19] #[])
  fields := #[]
  methods := #[k14m0]
  instanceTypes := #[(.object "java/util/Set"), (.object "java/util/Collection")]
  staticTypes := #[]
  resolved := Array.replicate 87 none
  statics := none }

def pool15 : Array CpInfo := pool [(1, .class_ 2), (0, u "java/util/ImmutableCollections"), (1, .class_ 6), (1, u "java/util/ImmutableCollections$AbstractImmutableMap"), (10, .class_ 19), (1, u "java/util/ImmutableCollections$MapN"), (0, u "size"), (0, u "I"), (4, u "table"), (0, u "[Ljava/lang/Object;")] 121

/-- java/util/ImmutableCollections$MapN -/
def k15 : Class := { plain "java/util/ImmutableCollections$MapN" (some 14) with
  accessFlags := 48
  interfaces := #[]
  cf := some (fileOf pool15 17 #[.nestHost 1] #[] 48 4 #[] #[{ accessFlags := 16, nameIndex := 26, descriptorIndex := 27, attributes := #[] }, { accessFlags := 16, nameIndex := 20, descriptorIndex := 21, attributes := #[] }])
  fields := #[{ name := "table", type := (.array (.object "java/lang/Object")), accessFlags := 16, slot := 2, constantValue := 0 }, { name := "size", type := .int, accessFlags := 16, slot := 3, constantValue := 0 }]
  methods := #[]
  instanceTypes := #[(.object "java/util/Set"), (.object "java/util/Collection"), (.array (.object "java/lang/Object")), .int]
  staticTypes := #[]
  resolved := Array.replicate 149 none
  statics := none }

def pool16 : Array CpInfo := pool [(4, .class_ 6), (1, u "java/lang/Object"), (0, u "<init>"), (0, u "()V"), (5, .class_ 16), (1, u "java/lang/StringLatin1"), (21, .methodref 39 40), (0, .class_ 41), (0, .nameAndType 42 43), (0, u "java/lang/Math"), (0, u "min"), (0, u "(II)I"), (44, .methodref 14 89), (0, .nameAndType 90 91), (0, u "canEncode"), (0, u "(I)Z"), (0, .methodref 39 93), (0, .nameAndType 94 43), (0, u "max"), (0, .methodref 14 96), (0, .nameAndType 97 98), (0, u "indexOfChar"), (0, u "([BIII)I"), (2, u "indexOf"), (19, u "$assertionsDisabled"), (0, u "Z"), (98, .class_ 223), (1, u "java/lang/StringLatin1$LinesSpliterator"), (166, .class_ 391), (0, u "java/lang/StringLatin1$CharsSpliterator")] 3

def k16m0 : Method := { name := "<init>", desc := "()V", sig := { parameters := [], returnType := none }, accessFlags := 0, code := none }
def k16c1 : Code := { maxStack := 2, maxLocals := 1, code := jdk_43_method_4_code, exceptionTable := #[], attributes := #[] }
def k16m1 : Method := { name := "canEncode", desc := "(I)Z", sig := { parameters := [.int], returnType := some .boolean }, accessFlags := 9, code := some k16c1 }
def k16c2 : Code := { maxStack := 4, maxLocals := 4, code := jdk_43_method_22_code, exceptionTable := #[], attributes := #[] }
def k16m2 : Method := { name := "indexOf", desc := "([BIII)I", sig := { parameters := [(.array .byte), .int, .int, .int], returnType := some .int }, accessFlags := 9, code := some k16c2 }
def k16c3 : Code := { maxStack := 2, maxLocals := 6, code := jdk_43_method_23_code, exceptionTable := #[], attributes := #[] }
def k16m3 : Method := { name := "indexOfChar", desc := "([BIII)I", sig := { parameters := [(.array .byte), .int, .int, .int], returnType := some .int }, accessFlags := 10, code := some k16c3 }
/-- java/lang/StringLatin1 -/
def k16 : Class := { plain "java/lang/StringLatin1" (some 0) with
  accessFlags := 48
  interfaces := #[]
  cf := some (fileOf pool16 14 #[.nestMembers #[390, 221]] #[{ accessFlags := 0, nameIndex := 7, descriptorIndex := 8, attributes := #[] }, { accessFlags := 9, nameIndex := 90, descriptorIndex := 91, attributes := #[] }, { accessFlags := 9, nameIndex := 101, descriptorIndex := 98, attributes := #[] }, { accessFlags := 10, nameIndex := 97, descriptorIndex := 98, attributes := #[] }] 48 4 #[] #[{ accessFlags := 4120, nameIndex := 121, descriptorIndex := 122, attributes := #[] }])
  fields := #[{ name := "$assertionsDisabled", type := .boolean, accessFlags := 4120, slot := 0, constantValue := 0 }]
  methods := #[k16m0, k16m1, k16m2, k16m3]
  instanceTypes := #[]
  staticTypes := #[.boolean]
  resolved := Array.replicate 395 none
  statics := none }

def pool17 : Array CpInfo := pool [(1, .class_ 2), (0, u "java/lang/Math"), (1, .class_ 6), (1, u "java/lang/Object"), (0, u "<init>"), (0, u "()V"), (89, .class_ 100), (1, u "java/lang/Math$RandomNumberGeneratorHolder"), (71, u "negativeZeroFloatBits"), (0, u "J"), (2, u "negativeZeroDoubleBits"), (21, u "max"), (2, u "min"), (43, u "$assertionsDisabled"), (0, u "Z"), (88, u "(II)I"), (2, u "twoToTheDoubleScaleDown"), (0, u "D"), (4, u "twoToTheDoubleScaleUp"), (9, u "E"), (3, u "PI"), (2, u "TAU"), (2, u "DEGREES_TO_RADIANS"), (0, u "RADIANS_TO_DEGREES")] 94

def k17m0 : Method := { name := "<init>", desc := "()V", sig := { parameters := [], returnType := none }, accessFlags := 2, code := none }
def k17c1 : Code := { maxStack := 2, maxLocals := 2, code := jdk_29_method_65_code, exceptionTable := #[], attributes := #[] }
def k17m1 : Method := { name := "max", desc := "(II)I", sig := { parameters := [.int, .int], returnType := some .int }, accessFlags := 9, code := some k17c1 }
def k17c2 : Code := { maxStack := 2, maxLocals := 2, code := jdk_29_method_69_code, exceptionTable := #[], attributes := #[] }
def k17m2 : Method := { name := "min", desc := "(II)I", sig := { parameters := [.int, .int], returnType := some .int }, accessFlags := 9, code := some k17c2 }
/-- java/lang/Math -/
def k17 : Class := { plain "java/lang/Math" (some 0) with
  accessFlags := 49
  interfaces := #[]
  cf := some (fileOf pool17 1 #[.nestMembers #[98]] #[{ accessFlags := 2, nameIndex := 7, descriptorIndex := 8, attributes := #[] }, { accessFlags := 9, nameIndex := 198, descriptorIndex := 335, attributes := #[] }, { accessFlags := 9, nameIndex := 201, descriptorIndex := 335, attributes := #[] }] 49 4 #[] #[{ accessFlags := 25, nameIndex := 354, descriptorIndex := 339, attributes := #[] }, { accessFlags := 25, nameIndex := 358, descriptorIndex := 339, attributes := #[] }, { accessFlags := 25, nameIndex := 361, descriptorIndex := 339, attributes := #[] }, { accessFlags := 26, nameIndex := 364, descriptorIndex := 339, attributes := #[] }, { accessFlags := 26, nameIndex := 365, descriptorIndex := 339, attributes := #[] }, { accessFlags := 26, nameIndex := 172, descriptorIndex := 173, attributes := #[] }, { accessFlags := 26, nameIndex := 176, descriptorIndex := 173, attributes := #[] }, { accessFlags := 8, nameIndex := 344, descriptorIndex := 339, attributes := #[] }, { accessFlags := 8, nameIndex := 338, descriptorIndex := 339, attributes := #[] }, { accessFlags := 4120, nameIndex := 245, descriptorIndex := 246, attributes := #[] }])
  fields := #[{ name := "E", type := .double, accessFlags := 25, slot := 0, constantValue := 0 }, { name := "PI", type := .double, accessFlags := 25, slot := 1, constantValue := 0 }, { name := "TAU", type := .double, accessFlags := 25, slot := 2, constantValue := 0 }, { name := "DEGREES_TO_RADIANS", type := .double, accessFlags := 26, slot := 3, constantValue := 0 }, { name := "RADIANS_TO_DEGREES", type := .double, accessFlags := 26, slot := 4, constantValue := 0 }, { name := "negativeZeroFloatBits", type := .long, accessFlags := 26, slot := 5, constantValue := 0 }, { name := "negativeZeroDoubleBits", type := .long, accessFlags := 26, slot := 6, constantValue := 0 }, { name := "twoToTheDoubleScaleUp", type := .double, accessFlags := 8, slot := 7, constantValue := 0 }, { name := "twoToTheDoubleScaleDown", type := .double, accessFlags := 8, slot := 8, constantValue := 0 }, { name := "$assertionsDisabled", type := .boolean, accessFlags := 4120, slot := 9, constantValue := 0 }]
  methods := #[k17m0, k17m1, k17m2]
  instanceTypes := #[]
  staticTypes := #[.double, .double, .double, .double, .double, .long, .long, .double, .double, .boolean]
  resolved := Array.replicate 460 none
  statics := none }

def pool18 : Array CpInfo := pool [(2, .class_ 4), (1, u "java/lang/Object"), (0, u "<init>"), (0, u "()V"), (17, .class_ 26), (1, u "jdk/internal/util/Preconditions"), (28, .class_ 56), (0, u "jdk/internal/util/Preconditions$4"), (57, .class_ 115), (0, u "jdk/internal/util/Preconditions$1"), (7, u "SIOOBE_FORMATTER"), (0, u "Ljava/util/function/BiFunction;"), (0, .class_ 126), (0, u "jdk/internal/util/Preconditions$2"), (3, u "AIOOBE_FORMATTER"), (0, .class_ 132), (0, u "jdk/internal/util/Preconditions$3"), (3, u "IOOBE_FORMATTER")] 57

def k18m0 : Method := { name := "<init>", desc := "()V", sig := { parameters := [], returnType := none }, accessFlags := 1, code := none }
/-- jdk/internal/util/Preconditions -/
def k18 : Class := { plain "jdk/internal/util/Preconditions" (some 0) with
  accessFlags := 33
  interfaces := #[]
  cf := some (fileOf pool18 24 #[.nestMembers #[55, 131, 125, 114]] #[{ accessFlags := 1, nameIndex := 5, descriptorIndex := 6, attributes := #[] }] 33 2 #[] #[{ accessFlags := 25, nameIndex := 123, descriptorIndex := 124, attributes := #[] }, { accessFlags := 25, nameIndex := 130, descriptorIndex := 124, attributes := #[] }, { accessFlags := 25, nameIndex := 136, descriptorIndex := 124, attributes := #[] }])
  fields := #[{ name := "SIOOBE_FORMATTER", type := (.object "java/util/function/BiFunction"), accessFlags := 25, slot := 0, constantValue := 0 }, { name := "AIOOBE_FORMATTER", type := (.object "java/util/function/BiFunction"), accessFlags := 25, slot := 1, constantValue := 0 }, { name := "IOOBE_FORMATTER", type := (.object "java/util/function/BiFunction"), accessFlags := 25, slot := 2, constantValue := 0 }]
  methods := #[k18m0]
  instanceTypes := #[]
  staticTypes := #[(.object "java/util/function/BiFunction"), (.object "java/util/function/BiFunction"), (.object "java/util/function/BiFunction")]
  resolved := Array.replicate 194 none
  statics := some 2 }

def pool19 : Array CpInfo := pool [(9, u "<init>"), (6, .class_ 18), (1, u "java/lang/Object"), (0, u "()V"), (1, .class_ 23), (1, u "jdk/internal/util/ArraysSupport"), (0, u "LOG2_ARRAY_LONG_INDEX_SCALE"), (0, u "I"), (2, u "U"), (0, u "Ljdk/internal/misc/Unsafe;"), (8, u "BIG_ENDIAN"), (0, u "Z"), (8, u "LOG2_BYTE_BIT_SIZE"), (4, u "LOG2_ARRAY_INT_INDEX_SCALE"), (54, u "JLA"), (0, u "Ljdk/internal/access/JavaLangAccess;"), (11, u "LOG2_ARRAY_BOOLEAN_INDEX_SCALE"), (9, u "LOG2_ARRAY_BYTE_INDEX_SCALE"), (5, u "LOG2_ARRAY_CHAR_INDEX_SCALE"), (5, u "LOG2_ARRAY_SHORT_INDEX_SCALE"), (18, u "LOG2_ARRAY_FLOAT_INDEX_SCALE"), (24, u "LOG2_ARRAY_DOUBLE_INDEX_SCALE"), (89, u "T_BOOLEAN"), (2, u "T_CHAR"), (1, u "T_FLOAT"), (1, u "T_DOUBLE"), (1, u "T_BYTE"), (1, u "T_SHORT"), (1, u "T_INT"), (1, u "T_LONG"), (1, u "SOFT_MAX_ARRAY_LENGTH")] 83

def k19m0 : Method := { name := "<init>", desc := "()V", sig := { parameters := [], returnType := none }, accessFlags := 2, code := none }
/-- jdk/internal/util/ArraysSupport -/
def k19 : Class := { plain "jdk/internal/util/ArraysSupport" (some 0) with
  accessFlags := 33
  interfaces := #[]
  cf := some (fileOf pool19 21 #[] #[{ accessFlags := 2, nameIndex := 9, descriptorIndex := 19, attributes := #[] }] 33 16 #[] #[{ accessFlags := 24, nameIndex := 28, descriptorIndex := 29, attributes := #[] }, { accessFlags := 26, nameIndex := 38, descriptorIndex := 39, attributes := #[] }, { accessFlags := 25, nameIndex := 121, descriptorIndex := 25, attributes := #[] }, { accessFlags := 25, nameIndex := 131, descriptorIndex := 25, attributes := #[] }, { accessFlags := 25, nameIndex := 137, descriptorIndex := 25, attributes := #[] }, { accessFlags := 25, nameIndex := 143, descriptorIndex := 25, attributes := #[] }, { accessFlags := 25, nameIndex := 53, descriptorIndex := 25, attributes := #[] }, { accessFlags := 25, nameIndex := 24, descriptorIndex := 25, attributes := #[] }, { accessFlags := 25, nameIndex := 162, descriptorIndex := 25, attributes := #[] }, { accessFlags := 25, nameIndex := 187, descriptorIndex := 25, attributes := #[] }, { accessFlags := 26, nameIndex := 48, descriptorIndex := 25, attributes := #[] }, { accessFlags := 25, nameIndex := 277, descriptorIndex := 25, attributes := #[] }, { accessFlags := 25, nameIndex := 280, descriptorIndex := 25, attributes := #[] }, { accessFlags := 25, nameIndex := 282, descriptorIndex := 25, attributes := #[] }, { accessFlags := 25, nameIndex := 284, descriptorIndex := 25, attributes := #[] }, { accessFlags := 25, nameIndex := 286, descriptorIndex := 25, attributes := #[] }, { accessFlags := 25, nameIndex := 288, descriptorIndex := 25, attributes := #[] }, { accessFlags := 25, nameIndex := 290, descriptorIndex := 25, attributes := #[] }, { accessFlags := 25, nameIndex := 292, descriptorIndex := 25, attributes := #[] }, { accessFlags := 26, nameIndex := 108, descriptorIndex := 109, attributes := #[] }, { accessFlags := 25, nameIndex := 294, descriptorIndex := 25, attributes := #[] }])
  fields := #[{ name := "U", type := (.object "jdk/internal/misc/Unsafe"), accessFlags := 24, slot := 0, constantValue := 0 }, { name := "BIG_ENDIAN", type := .boolean, accessFlags := 26, slot := 1, constantValue := 0 }, { name := "LOG2_ARRAY_BOOLEAN_INDEX_SCALE", type := .int, accessFlags := 25, slot := 2, constantValue := 0 }, { name := "LOG2_ARRAY_BYTE_INDEX_SCALE", type := .int, accessFlags := 25, slot := 3, constantValue := 0 }, { name := "LOG2_ARRAY_CHAR_INDEX_SCALE", type := .int, accessFlags := 25, slot := 4, constantValue := 0 }, { name := "LOG2_ARRAY_SHORT_INDEX_SCALE", type := .int, accessFlags := 25, slot := 5, constantValue := 0 }, { name := "LOG2_ARRAY_INT_INDEX_SCALE", type := .int, accessFlags := 25, slot := 6, constantValue := 0 }, { name := "LOG2_ARRAY_LONG_INDEX_SCALE", type := .int, accessFlags := 25, slot := 7, constantValue := 0 }, { name := "LOG2_ARRAY_FLOAT_INDEX_SCALE", type := .int, accessFlags := 25, slot := 8, constantValue := 0 }, { name := "LOG2_ARRAY_DOUBLE_INDEX_SCALE", type := .int, accessFlags := 25, slot := 9, constantValue := 0 }, { name := "LOG2_BYTE_BIT_SIZE", type := .int, accessFlags := 26, slot := 10, constantValue := 0 }, { name := "T_BOOLEAN", type := .int, accessFlags := 25, slot := 11, constantValue := 0 }, { name := "T_CHAR", type := .int, accessFlags := 25, slot := 12, constantValue := 0 }, { name := "T_FLOAT", type := .int, accessFlags := 25, slot := 13, constantValue := 0 }, { name := "T_DOUBLE", type := .int, accessFlags := 25, slot := 14, constantValue := 0 }, { name := "T_BYTE", type := .int, accessFlags := 25, slot := 15, constantValue := 0 }, { name := "T_SHORT", type := .int, accessFlags := 25, slot := 16, constantValue := 0 }, { name := "T_INT", type := .int, accessFlags := 25, slot := 17, constantValue := 0 }, { name := "T_LONG", type := .int, accessFlags := 25, slot := 18, constantValue := 0 }, { name := "JLA", type := (.object "jdk/internal/access/JavaLangAccess"), accessFlags := 26, slot := 19, constantValue := 0 }, { name := "SOFT_MAX_ARRAY_LENGTH", type := .int, accessFlags := 25, slot := 20, constantValue := 0 }]
  methods := #[k19m0]
  instanceTypes := #[]
  staticTypes := #[(.object "jdk/internal/misc/Unsafe"), .boolean, .int, .int, .int, .int, .int, .int, .int, .int, .int, .int, .int, .int, .int, .int, .int, .int, .int, (.object "jdk/internal/access/JavaLangAccess"), .int]
  resolved := Array.replicate 378 none
  statics := none }

def pool20 : Array CpInfo := pool [(1, u "java/lang/Cloneable"), (0, .class_ 1), (0, u "java/lang/Object"), (0, .class_ 3)] 3

/-- java/lang/Cloneable -/
def k20 : Class := { plain "java/lang/Cloneable" (some 0) with
  accessFlags := 1537
  interfaces := #[]
  cf := some (fileOf pool20 2 #[] #[] 1537 4 #[] #[])
  fields := #[]
  methods := #[]
  instanceTypes := #[]
  staticTypes := #[]
  resolved := Array.replicate 8 none
  statics := none }

/-- the primitive byte -/
def k21 : Class := { plain "byte" none with kind := .primitive 'B', accessFlags := 0x411 }
/-- [B -/
def k22 : Class := { plain "[B" (some 0) with kind := .array 21 .byte, interfaces := #[20, 2], accessFlags := 1041 }

/-- the primitive char -/
def k23 : Class := { plain "char" none with kind := .primitive 'C', accessFlags := 0x411 }
/-- [C -/
def k24 : Class := { plain "[C" (some 0) with kind := .array 23 .char, interfaces := #[20, 2], accessFlags := 1041 }

/-- the primitive int -/
def k25 : Class := { plain "int" none with kind := .primitive 'I', accessFlags := 0x411 }
/-- [I -/
def k26 : Class := { plain "[I" (some 0) with kind := .array 25 .int, interfaces := #[20, 2], accessFlags := 1041 }

/-- [Ljava/lang/Object; -/
def k27 : Class := { plain "[Ljava/lang/Object;" (some 0) with kind := .array 0 (.object "java/lang/Object"), interfaces := #[20, 2], accessFlags := 1041 }

def heap : Heap := #[{ cls := 7, slots := #[.long 0, .int 1, .null, .int 0, .null, .int 0, .int 0], vm := .statics 7 },
  { cls := 12, slots := #[.long 0, .int 0, .null, .null, .null, .null, .null, .ref 4, .int 0, .int 0], vm := .statics 12 },
  { cls := 18, slots := #[.null, .null, .null], vm := .statics 18 },
  { cls := 27, slots := #[], vm := .none },
  { cls := 15, slots := #[.null, .null, .ref 3, .int 0], vm := .none }]
def classes : Array Class := #[k0, k1, k2, k3, k4, k5, k6, k7, k8, k9, k10, k11, k12, k13, k14, k15, k16, k17, k18, k19, k20, k21, k22, k23, k24, k25, k26, k27]
def interned : List (Array UInt16 × Addr) := []
def slotsUsed : Nat := 24
def theMethod : MethodId := ⟨1, 1⟩
def args0 : Array Value := #[.int 16961, .int 66, .int 12]
def aboutOver (below : List Frame) : State where
  vm := { classes := classes, interned := interned.toArray }
  heap := heap
  slotsUsed := slotsUsed
  threads := #[{ frames := .invoking theMethod args0 :: below }]
def below0 : List Frame := [.native { method := ⟨0, 0⟩, args := #[] }]
def about1 : State := aboutOver below0
def p0 : Program := .bare "" "" ""
def e0 : Env := launch0.env 0 0 0
theorem w_frames : about1.frames = Frame.invoking theMethod args0 :: below0 := rfl
set_option maxRecDepth 65536 in
theorem w_args : argsFit about1.vm theMethod args0 = true := by decide +kernel
set_option maxRecDepth 65536 in
theorem w_heap : heapFits about1 = true := by decide +kernel
set_option maxRecDepth 65536 in
theorem w_runnable : about1.curStatus? = some .runnable := by decide +kernel
set_option maxRecDepth 65536 in
theorem w_alone : about1.alone = true := by decide +kernel
set_option maxRecDepth 65536 in
theorem w_named : about1.methodNamed? x = some theMethod := by decide +kernel
set_option maxRecDepth 65536 in
theorem w_hears : about1.hears theMethod below0 = true := by decide +kernel
set_option maxRecDepth 65536 in
theorem w_ripe : about1.ripe theMethod args0 below0 = true := by decide +kernel
theorem w_running : about1.status = .running := rfl
set_option maxRecDepth 65536 in
theorem w_room : about1.hasRoom e0.platform room_1 = true :=
  launch0.hasRoom_least _ room_1 (by decide +kernel) (by decide +kernel) (by decide +kernel) (by decide +kernel) (by decide +kernel) (by decide +kernel)
theorem allAtoms_all (ts : List Jvm.Cond) (a : Array Jvm.Value) (st : Jvm.State) : (allAtoms ts).before a st = ts.all (fun c => c.before a st) := by
  induction ts with
  | nil => rfl
  | cons c t ih =>
    show (Jvm.Cond.and c (allAtoms t)).before a st = _
    rw [Jvm.Cond.before_and, ih, List.all_cons]
def words1 : List Jvm.Cond := Jvm.Cond.code x code maxLocals ret :: tables_1
/-- a 'code' word, met by the world's own term for the bytes: nothing is compared byte by byte -/
theorem code_word {y : MethodName} {bytes : ByteArray} {mx : Nat} {rt : Option FieldType} {a : Array Value} {s : State} {m : MethodId} {meth : Method} {c : Code} (h1 : s.methodNamed? y = some m) (h2 : s.vm.method? m = some meth) (h3 : meth.code = some c) (h4 : c.code = bytes)
    (h5 : (c.maxLocals == mx && c.exceptionTable.isEmpty && decide (c.maxStack ≤ mostOperands) && decide (meth.sig.returnType = rt) && !meth.locks && decide (parseMethodDescriptor y.desc = some meth.sig)) = true) : (Jvm.Cond.code y bytes mx rt).before a s = true := by
  simp only [Bool.and_eq_true, beq_iff_eq, Bool.not_eq_true', decide_eq_true_eq] at h5
  obtain ⟨⟨⟨⟨⟨g1, g2⟩, g3⟩, g4⟩, g5⟩, g6⟩ := h5
  simp [Cond.before, Cond.holds, Cond.value, h1, h2, h3, h4, g1, g2, g3, g4, g5, g6]
def isCode : Jvm.Cond → Bool
  | .code _ _ _ _ => true
  | _ => false
theorem all_split {L : List Jvm.Cond} {P : Jvm.Cond → Bool} (h1 : L.all (fun c => isCode c || P c) = true) (h2 : ∀ c ∈ L.filter isCode, P c = true) : L.all P = true := by
  refine List.all_eq_true.mpr fun c hc => ?_
  have h := List.all_eq_true.mp h1 c hc
  rcases Bool.eq_false_or_eq_true (isCode c) with hi | hi
  · exact h2 c (List.mem_filter.mpr ⟨hc, hi⟩)
  · simpa [hi] using h
set_option maxRecDepth 65536 in
theorem w_c0 : (Jvm.Cond.code x code maxLocals ret).before args0 about1 = true := code_word (m := ⟨1, 1⟩) (meth := k1m1) (c := k1c1) (by decide +kernel) rfl rfl rfl (by decide +kernel)
set_option maxRecDepth 65536 in
theorem w_c1 : (Jvm.Cond.code ({ cls := "java/lang/String", name := "<init>", desc := "([C)V" } : Jvm.MethodName) jdk_42_method_3_code (2 : Nat) (Option.none : Option Jvm.ClassFile.FieldType)).before args0 about1 = true := code_word (m := ⟨7, 1⟩) (meth := k7m1) (c := k7c1) (by decide +kernel) rfl rfl rfl (by decide +kernel)
set_option maxRecDepth 65536 in
theorem w_c2 : (Jvm.Cond.code ({ cls := "java/lang/String", name := "<init>", desc := "([CIILjava/lang/Void;)V" } : Jvm.MethodName) jdk_42_method_149_code (6 : Nat) (Option.none : Option Jvm.ClassFile.FieldType)).before args0 about1 = true := code_word (m := ⟨7, 5⟩) (meth := k7m5) (c := k7c5) (by decide +kernel) rfl rfl rfl (by decide +kernel)
set_option maxRecDepth 65536 in
theorem w_c3 : (Jvm.Cond.code ({ cls := "java/lang/Object", name := "<init>", desc := "()V" } : Jvm.MethodName) object_method_1_code (1 : Nat) (Option.none : Option Jvm.ClassFile.FieldType)).before args0 about1 = true := code_word (m := ⟨0, 0⟩) (meth := k0m0) (c := k0c0) (by decide +kernel) rfl rfl rfl (by decide +kernel)
set_option maxRecDepth 65536 in
theorem w_c4 : (Jvm.Cond.code ({ cls := "java/lang/StringUTF16", name := "compress", desc := "([CII)[B" } : Jvm.MethodName) jdk_52_method_16_code (6 : Nat) (Option.some (Jvm.ClassFile.FieldType.array Jvm.ClassFile.FieldType.byte))).before args0 about1 = true := code_word (m := ⟨8, 2⟩) (meth := k8m2) (c := k8c2) (by decide +kernel) rfl rfl rfl (by decide +kernel)
set_option maxRecDepth 65536 in
theorem w_c5 : (Jvm.Cond.code ({ cls := "java/lang/StringUTF16", name := "compress", desc := "([CI[BII)I" } : Jvm.MethodName) jdk_52_method_21_code (7 : Nat) (Option.some Jvm.ClassFile.FieldType.int)).before args0 about1 = true := code_word (m := ⟨8, 3⟩) (meth := k8m3) (c := k8c3) (by decide +kernel) rfl rfl rfl (by decide +kernel)
set_option maxRecDepth 65536 in
theorem w_c6 : (Jvm.Cond.code ({ cls := "java/lang/StringUTF16", name := "coderFromArrayLen", desc := "([BI)B" } : Jvm.MethodName) jdk_52_method_15_code (2 : Nat) (Option.some Jvm.ClassFile.FieldType.byte)).before args0 about1 = true := code_word (m := ⟨8, 1⟩) (meth := k8m1) (c := k8c1) (by decide +kernel) rfl rfl rfl (by decide +kernel)
set_option maxRecDepth 65536 in
theorem w_c7 : (Jvm.Cond.code ({ cls := "com/example/vedette/vedette/definition/PositionDefinition", name := "<init>", desc := "(Ljava/lang/String;Ljava/lang/String;)V" } : Jvm.MethodName) prog_8_method_2_code (3 : Nat) (Option.none : Option Jvm.ClassFile.FieldType)).before args0 about1 = true := code_word (m := ⟨10, 1⟩) (meth := k10m1) (c := k10c1) (by decide +kernel) rfl rfl rfl (by decide +kernel)
set_option maxRecDepth 65536 in
theorem w_c8 : (Jvm.Cond.code ({ cls := "java/util/Map", name := "of", desc := "()Ljava/util/Map;" } : Jvm.MethodName) jdk_72_method_26_code (0 : Nat) (Option.some (Jvm.ClassFile.FieldType.object "java/util/Map"))).before args0 about1 = true := code_word (m := ⟨11, 0⟩) (meth := k11m0) (c := k11c0) (by decide +kernel) rfl rfl rfl (by decide +kernel)
set_option maxRecDepth 65536 in
theorem w_c9 : (Jvm.Cond.code ({ cls := "com/example/vedette/vedette/definition/PositionDefinition", name := "<init>", desc := "(Ljava/lang/String;Ljava/lang/String;Ljava/util/Map;)V" } : Jvm.MethodName) prog_8_method_1_code (4 : Nat) (Option.none : Option Jvm.ClassFile.FieldType)).before args0 about1 = true := code_word (m := ⟨10, 0⟩) (meth := k10m0) (c := k10c0) (by decide +kernel) rfl rfl rfl (by decide +kernel)
set_option maxRecDepth 65536 in
theorem w_c10 : (Jvm.Cond.code ({ cls := "java/lang/Record", name := "<init>", desc := "()V" } : Jvm.MethodName) jdk_30_method_1_code (1 : Nat) (Option.none : Option Jvm.ClassFile.FieldType)).before args0 about1 = true := code_word (m := ⟨9, 0⟩) (meth := k9m0) (c := k9c0) (by decide +kernel) rfl rfl rfl (by decide +kernel)
set_option maxRecDepth 65536 in
theorem w_c11 : (Jvm.Cond.code ({ cls := "java/util/Map", name := "copyOf", desc := "(Ljava/util/Map;)Ljava/util/Map;" } : Jvm.MethodName) jdk_72_method_39_code (1 : Nat) (Option.some (Jvm.ClassFile.FieldType.object "java/util/Map"))).before args0 about1 = true := code_word (m := ⟨11, 1⟩) (meth := k11m1) (c := k11c1) (by decide +kernel) rfl rfl rfl (by decide +kernel)
set_option maxRecDepth 65536 in
theorem w_c12 : (Jvm.Cond.code ({ cls := "com/example/vedette/vedette/definition/PositionDefinition", name := "allows", desc := "(I)Z" } : Jvm.MethodName) prog_8_method_3_code (2 : Nat) (Option.some Jvm.ClassFile.FieldType.boolean)).before args0 about1 = true := code_word (m := ⟨10, 2⟩) (meth := k10m2) (c := k10c2) (by decide +kernel) rfl rfl rfl (by decide +kernel)
set_option maxRecDepth 65536 in
theorem w_c13 : (Jvm.Cond.code ({ cls := "java/lang/String", name := "indexOf", desc := "(I)I" } : Jvm.MethodName) jdk_42_method_79_code (2 : Nat) (Option.some Jvm.ClassFile.FieldType.int)).before args0 about1 = true := code_word (m := ⟨7, 3⟩) (meth := k7m3) (c := k7c3) (by decide +kernel) rfl rfl rfl (by decide +kernel)
set_option maxRecDepth 65536 in
theorem w_c14 : (Jvm.Cond.code ({ cls := "java/lang/String", name := "indexOf", desc := "(II)I" } : Jvm.MethodName) jdk_42_method_80_code (3 : Nat) (Option.some Jvm.ClassFile.FieldType.int)).before args0 about1 = true := code_word (m := ⟨7, 4⟩) (meth := k7m4) (c := k7c4) (by decide +kernel) rfl rfl rfl (by decide +kernel)
set_option maxRecDepth 65536 in
theorem w_c15 : (Jvm.Cond.code ({ cls := "java/lang/String", name := "isLatin1", desc := "()Z" } : Jvm.MethodName) jdk_42_method_154_code (1 : Nat) (Option.some Jvm.ClassFile.FieldType.boolean)).before args0 about1 = true := code_word (m := ⟨7, 7⟩) (meth := k7m7) (c := k7c7) (by decide +kernel) rfl rfl rfl (by decide +kernel)
set_option maxRecDepth 65536 in
theorem w_c16 : (Jvm.Cond.code ({ cls := "java/lang/String", name := "length", desc := "()I" } : Jvm.MethodName) jdk_42_method_54_code (1 : Nat) (Option.some Jvm.ClassFile.FieldType.int)).before args0 about1 = true := code_word (m := ⟨7, 2⟩) (meth := k7m2) (c := k7c2) (by decide +kernel) rfl rfl rfl (by decide +kernel)
set_option maxRecDepth 65536 in
theorem w_c17 : (Jvm.Cond.code ({ cls := "java/lang/String", name := "coder", desc := "()B" } : Jvm.MethodName) jdk_42_method_152_code (1 : Nat) (Option.some Jvm.ClassFile.FieldType.byte)).before args0 about1 = true := code_word (m := ⟨7, 6⟩) (meth := k7m6) (c := k7c6) (by decide +kernel) rfl rfl rfl (by decide +kernel)
set_option maxRecDepth 65536 in
theorem w_c18 : (Jvm.Cond.code ({ cls := "java/lang/StringLatin1", name := "indexOf", desc := "([BIII)I" } : Jvm.MethodName) jdk_43_method_22_code (4 : Nat) (Option.some Jvm.ClassFile.FieldType.int)).before args0 about1 = true := code_word (m := ⟨16, 2⟩) (meth := k16m2) (c := k16c2) (by decide +kernel) rfl rfl rfl (by decide +kernel)
set_option maxRecDepth 65536 in
theorem w_c19 : (Jvm.Cond.code ({ cls := "java/lang/StringLatin1", name := "canEncode", desc := "(I)Z" } : Jvm.MethodName) jdk_43_method_4_code (1 : Nat) (Option.some Jvm.ClassFile.FieldType.boolean)).before args0 about1 = true := code_word (m := ⟨16, 1⟩) (meth := k16m1) (c := k16c1) (by decide +kernel) rfl rfl rfl (by decide +kernel)
set_option maxRecDepth 65536 in
theorem w_c20 : (Jvm.Cond.code ({ cls := "java/lang/Math", name := "max", desc := "(II)I" } : Jvm.MethodName) jdk_29_method_65_code (2 : Nat) (Option.some Jvm.ClassFile.FieldType.int)).before args0 about1 = true := code_word (m := ⟨17, 1⟩) (meth := k17m1) (c := k17c1) (by decide +kernel) rfl rfl rfl (by decide +kernel)
set_option maxRecDepth 65536 in
theorem w_c21 : (Jvm.Cond.code ({ cls := "java/lang/Math", name := "min", desc := "(II)I" } : Jvm.MethodName) jdk_29_method_69_code (2 : Nat) (Option.some Jvm.ClassFile.FieldType.int)).before args0 about1 = true := code_word (m := ⟨17, 2⟩) (meth := k17m2) (c := k17c2) (by decide +kernel) rfl rfl rfl (by decide +kernel)
set_option maxRecDepth 65536 in
theorem w_c22 : (Jvm.Cond.code ({ cls := "java/lang/StringLatin1", name := "indexOfChar", desc := "([BIII)I" } : Jvm.MethodName) jdk_43_method_23_code (6 : Nat) (Option.some Jvm.ClassFile.FieldType.int)).before args0 about1 = true := code_word (m := ⟨16, 3⟩) (meth := k16m3) (c := k16c3) (by decide +kernel) rfl rfl rfl (by decide +kernel)
def codes1 : List Jvm.Cond := [Jvm.Cond.code x code maxLocals ret, Jvm.Cond.code ({ cls := "java/lang/String", name := "<init>", desc := "([C)V" } : Jvm.MethodName) jdk_42_method_3_code (2 : Nat) (Option.none : Option Jvm.ClassFile.FieldType), Jvm.Cond.code ({ cls := "java/lang/String", name := "<init>", desc := "([CIILjava/lang/Void;)V" } : Jvm.MethodName) jdk_42_method_149_code (6 : Nat) (Option.none : Option Jvm.ClassFile.FieldType), Jvm.Cond.code ({ cls := "java/lang/Object", name := "<init>", desc := "()V" } : Jvm.MethodName) object_method_1_code (1 : Nat) (Option.none : Option Jvm.ClassFile.FieldType), Jvm.Cond.code ({ cls := "java/lang/StringUTF16", name := "compress", desc := "([CII)[B" } : Jvm.MethodName) jdk_52_method_16_code (6 : Nat) (Option.some (Jvm.ClassFile.FieldType.array Jvm.ClassFile.FieldType.byte)), Jvm.Cond.code ({ cls := "java/lang/StringUTF16", name := "compress", desc := "([CI[BII)I" } : Jvm.MethodName) jdk_52_method_21_code (7 : Nat) (Option.some Jvm.ClassFile.FieldType.int), Jvm.Cond.code ({ cls := "java/lang/StringUTF16", name := "coderFromArrayLen", desc := "([BI)B" } : Jvm.MethodName) jdk_52_method_15_code (2 : Nat) (Option.some Jvm.ClassFile.FieldType.byte), Jvm.Cond.code ({ cls := "com/example/vedette/vedette/definition/PositionDefinition", name := "<init>", desc := "(Ljava/lang/String;Ljava/lang/String;)V" } : Jvm.MethodName) prog_8_method_2_code (3 : Nat) (Option.none : Option Jvm.ClassFile.FieldType), Jvm.Cond.code ({ cls := "java/util/Map", name := "of", desc := "()Ljava/util/Map;" } : Jvm.MethodName) jdk_72_method_26_code (0 : Nat) (Option.some (Jvm.ClassFile.FieldType.object "java/util/Map")), Jvm.Cond.code ({ cls := "com/example/vedette/vedette/definition/PositionDefinition", name := "<init>", desc := "(Ljava/lang/String;Ljava/lang/String;Ljava/util/Map;)V" } : Jvm.MethodName) prog_8_method_1_code (4 : Nat) (Option.none : Option Jvm.ClassFile.FieldType), Jvm.Cond.code ({ cls := "java/lang/Record", name := "<init>", desc := "()V" } : Jvm.MethodName) jdk_30_method_1_code (1 : Nat) (Option.none : Option Jvm.ClassFile.FieldType), Jvm.Cond.code ({ cls := "java/util/Map", name := "copyOf", desc := "(Ljava/util/Map;)Ljava/util/Map;" } : Jvm.MethodName) jdk_72_method_39_code (1 : Nat) (Option.some (Jvm.ClassFile.FieldType.object "java/util/Map")), Jvm.Cond.code ({ cls := "com/example/vedette/vedette/definition/PositionDefinition", name := "allows", desc := "(I)Z" } : Jvm.MethodName) prog_8_method_3_code (2 : Nat) (Option.some Jvm.ClassFile.FieldType.boolean), Jvm.Cond.code ({ cls := "java/lang/String", name := "indexOf", desc := "(I)I" } : Jvm.MethodName) jdk_42_method_79_code (2 : Nat) (Option.some Jvm.ClassFile.FieldType.int), Jvm.Cond.code ({ cls := "java/lang/String", name := "indexOf", desc := "(II)I" } : Jvm.MethodName) jdk_42_method_80_code (3 : Nat) (Option.some Jvm.ClassFile.FieldType.int), Jvm.Cond.code ({ cls := "java/lang/String", name := "isLatin1", desc := "()Z" } : Jvm.MethodName) jdk_42_method_154_code (1 : Nat) (Option.some Jvm.ClassFile.FieldType.boolean), Jvm.Cond.code ({ cls := "java/lang/String", name := "length", desc := "()I" } : Jvm.MethodName) jdk_42_method_54_code (1 : Nat) (Option.some Jvm.ClassFile.FieldType.int), Jvm.Cond.code ({ cls := "java/lang/String", name := "coder", desc := "()B" } : Jvm.MethodName) jdk_42_method_152_code (1 : Nat) (Option.some Jvm.ClassFile.FieldType.byte), Jvm.Cond.code ({ cls := "java/lang/StringLatin1", name := "indexOf", desc := "([BIII)I" } : Jvm.MethodName) jdk_43_method_22_code (4 : Nat) (Option.some Jvm.ClassFile.FieldType.int), Jvm.Cond.code ({ cls := "java/lang/StringLatin1", name := "canEncode", desc := "(I)Z" } : Jvm.MethodName) jdk_43_method_4_code (1 : Nat) (Option.some Jvm.ClassFile.FieldType.boolean), Jvm.Cond.code ({ cls := "java/lang/Math", name := "max", desc := "(II)I" } : Jvm.MethodName) jdk_29_method_65_code (2 : Nat) (Option.some Jvm.ClassFile.FieldType.int), Jvm.Cond.code ({ cls := "java/lang/Math", name := "min", desc := "(II)I" } : Jvm.MethodName) jdk_29_method_69_code (2 : Nat) (Option.some Jvm.ClassFile.FieldType.int), Jvm.Cond.code ({ cls := "java/lang/StringLatin1", name := "indexOfChar", desc := "([BIII)I" } : Jvm.MethodName) jdk_43_method_23_code (6 : Nat) (Option.some Jvm.ClassFile.FieldType.int)]
set_option maxRecDepth 65536 in
theorem codes_eq : words1.filter isCode = codes1 := rfl
theorem w_codes : ∀ c ∈ words1.filter isCode, c.before args0 about1 = true := by
  rw [codes_eq]
  intro c hc
  simp only [codes1, List.mem_cons, List.not_mem_nil, or_false] at hc
  rcases hc with rfl | rfl | rfl | rfl | rfl | rfl | rfl | rfl | rfl | rfl | rfl | rfl | rfl | rfl | rfl | rfl | rfl | rfl | rfl | rfl | rfl | rfl | rfl
  · exact w_c0
  · exact w_c1
  · exact w_c2
  · exact w_c3
  · exact w_c4
  · exact w_c5
  · exact w_c6
  · exact w_c7
  · exact w_c8
  · exact w_c9
  · exact w_c10
  · exact w_c11
  · exact w_c12
  · exact w_c13
  · exact w_c14
  · exact w_c15
  · exact w_c16
  · exact w_c17
  · exact w_c18
  · exact w_c19
  · exact w_c20
  · exact w_c21
  · exact w_c22
set_option maxRecDepth 65536 in
theorem w_t1 : (words1.take 24).all (fun c => isCode c || c.before args0 about1) = true := by decide +kernel
set_option maxRecDepth 65536 in
theorem w_t2 : ((words1.drop 24).take 24).all (fun c => isCode c || c.before args0 about1) = true := by decide +kernel
set_option maxRecDepth 65536 in
theorem w_t3 : (((words1.drop 24).drop 24).take 24).all (fun c => isCode c || c.before args0 about1) = true := by decide +kernel
set_option maxRecDepth 65536 in
theorem w_t4 : ((((words1.drop 24).drop 24).drop 24).take 24).all (fun c => isCode c || c.before args0 about1) = true := by decide +kernel
set_option maxRecDepth 65536 in
theorem w_t5 : ((((words1.drop 24).drop 24).drop 24).drop 24).all (fun c => isCode c || c.before args0 about1) = true := by decide +kernel
theorem w_tables : (allAtoms (Jvm.Cond.code x code maxLocals ret :: tables_1)).before args0 about1 = true := by
  rw [allAtoms_all]
  show words1.all (fun c => c.before args0 about1) = true
  refine all_split ?_ w_codes
  rw [← List.take_append_drop 24 words1, List.all_append, w_t1, ← List.take_append_drop 24 (words1.drop 24), List.all_append, w_t2, ← List.take_append_drop 24 ((words1.drop 24).drop 24), List.all_append, w_t3, ← List.take_append_drop 24 (((words1.drop 24).drop 24).drop 24), List.all_append, w_t4, w_t5]
  rfl
set_option maxRecDepth 65536 in
theorem w_rest : rest_1_c.before args0 about1 = true := by decide +kernel
set_option maxRecDepth 65536 in
theorem w_case : (Jvm.Cond.and given_1 narrow_1).before args0 about1 = true := by decide +kernel
set_option maxRecDepth 65536 in
theorem w_consts : constsHeld consts_1 about1 := Jvm.Lit.constsHeldB_iff.mp (by decide +kernel)
theorem w_applies : (headSpec (Jvm.Cond.code x code maxLocals ret :: tables_1) room_1).applies x e0.platform about1 = true :=
  (Spec.applies_iff w_frames).mpr ⟨w_running, w_runnable, w_alone, w_named, w_hears, w_ripe, w_room, w_tables⟩
theorem atStart : AtStart classFile x code maxLocals ret World_1 tables_1 room_1 Calls_1 rest_1 Pre_1 launch0 p0 e0 about1 theMethod args0 below0 :=
  ⟨lists_1, trivial, launch0.admits_env _ _ _, launch0.least_env, fairChoices_fair.cas, fairChoices_fair.clock, w_frames, w_args, w_heap, w_applies, ⟨w_consts, trivial⟩, w_rest, w_case⟩
end start1
theorem witness_1 : WitnessClaimed_1 := ⟨start1.p0, start1.e0, start1.about1, start1.theMethod, start1.args0, start1.below0, start1.atStart⟩
end Jvm.Pilot.@@N@@
