import JvmDerived
import JvmDerived.Pilot.@@N@@Statement
import JvmDerived.Pilot.@@N@@Code
set_option linter.unusedVariables false
set_option linter.unusedSimpArgs false
namespace Jvm.RoadKit
open Sem ClassFile Op Lib Jvm.Stand Jvm.Free Jvm.LawKit
section New
variable {p : Program} {l : Launch} {e : Env} {R : Room} {s : State} {m : MethodId} {args : Array Value} {below : List Frame} {meth : Method} {c : Code} {T : State} {locs : List Loc} {cells slots : Nat}
theorem retI (X : Stand p l e R s m args below meth c T locs cells slots) (hx : p.tables.exec = Jvm.exec) {pc : Nat} {Ls : Array Slot} {z : Int32} {rest : List Value} (hret : meth.sig.returnType = some .int) (hd : decode c.code pc = .ok (.ireturn, 1)) {fs : List Frame}
    (hl : ∀ (f : JFrame) (acts : List Action), f.method = m → f.locked = none → f.entered = [] → (doReturn e (T.setTop f) acts (some (.int z))).1 = T.setFrames fs) : Steps p.tables e below (T.setTop (mkF m pc Ls (.int z :: rest))) (T.setFrames fs) := by
  have hm' : T.vm.method? m = some meth := X.method'
  have hn : narrow .int (.int z) = .int z := rfl
  show Steps p.tables e below (T.setTop { method := m, pc := pc, locals := Ls, stack := _ :: rest, locked := none }) _
  jvm_step X.here [X.here.top, hx, hd, hm', hret, hn]
  first | (intro acts; rw [hl _ acts rfl rfl rfl]) | rw [hl _ _ rfl rfl rfl]
  exact Steps.refl _
end New
end Jvm.RoadKit
@@BLOCK:TracedD.lean.txt@@
/- laws to paste: Road.backV, Road.chN (cut by pick.py; bodies as the Statement names them) -/
namespace Jvm.Pilot.@@N@@
namespace StrChars
open Jvm Sem ClassFile Op Lib Jvm.Stand Jvm.Free.XT Jvm.Free.ALB Jvm.Free.JM Jvm.Free
open Jvm.Lib.Cold (StaticIs)
/-- a char array whose places are chars -/
def Ch (a : Addr) (A : Cell) (U : State) : Prop := Arr .char a A U ∧ Typed .char A
theorem Ch.mv {a : Addr} {A : Cell} {U U' : State} (h : Ch a A U) (hal : U.vm.Alike U'.vm) (hh : U'.heap = U.heap) : Ch a A U' := ⟨h.1.mv hal hh, h.2⟩
theorem Ch.keep {a : Addr} {A : Cell} {U U' : State} (h : Ch a A U) (hal : U.vm.Alike U'.vm) (hk : U'.heap[a]? = some A) : Ch a A U' := ⟨h.1.keep hal hk, h.2⟩
/-- what place i of a char[]'s cell holds -/
def cv (A : Cell) (i : Nat) : Int32 := match A.slots[i]? with | some (.int x) => x | _ => 0
theorem Ch.get {a : Addr} {A : Cell} {U : State} (h : Ch a A U) {i : Nat} (hi : i < A.slots.size) : A.slots[i]? = some (.int (cv A i)) := by
  have e := Array.getElem?_eq_getElem hi
  have f := h.2 i _ e
  unfold cv; rw [e]
  generalize A.slots[i] = v at f
  cases v <;> simp [fits] at f ⊢
/-- the byte that i2b leaves of a char -/
def lo8 (x : Int32) : Int32 := x.toInt8.toInt32
theorem fits_lo8 (y : Int32) : fits .byte (.int (lo8 y)) = true := by
  have h1 := y.toInt8.le_toInt
  have h2 := y.toInt8.toInt_lt
  simp only [lo8, fits, Bool.and_eq_true, decide_eq_true_eq, Int32.le_iff_toInt_le, Int8.toInt_toInt32, show (-128 : Int32).toInt = -128 from by decide, show (127 : Int32).toInt = 127 from by decide]
  omega
/-- A' is A but that each place j of lo .. hi - 1 holds f j -/
def Laid (A A' : Cell) (lo hi : Nat) (f : Nat → Value) : Prop := A'.cls = A.cls ∧ A'.vm = A.vm ∧ A'.slots.size = A.slots.size ∧ ∀ i, A'.slots[i]? = if lo ≤ i ∧ i < hi then some (f i) else A.slots[i]?
theorem Laid.zero (A : Cell) (lo : Nat) (f : Nat → Value) : Laid A A lo (lo + 0) f := ⟨rfl, rfl, rfl, fun i => by rw [if_neg (by omega)]⟩
theorem Laid.step {A Ak : Cell} {lo k : Nat} {f : Nat → Value} {v : Value} (h : Laid A Ak lo k f) (hlo : lo ≤ k) (hk : k < Ak.slots.size) (hv : v = f k) : Laid A (Ak.setSlot k v) lo (k + 1) f := by
  refine ⟨h.1, h.2.1, by simpa [Cell.setSlot] using h.2.2.1, fun i => ?_⟩
  by_cases e : k = i
  · subst e; rw [Cell.slots_setSlot_self v hk, if_pos (by omega), hv]
  · rw [Cell.slots_setSlot_ne v e, h.2.2.2 i]
    by_cases q : lo ≤ i ∧ i < k
    · rw [if_pos q, if_pos (by omega)]
    · rw [if_neg q, if_neg (by omega)]
def U16 : String := "java/lang/StringUTF16"
namespace Cmp5
def yN : MethodName := ⟨"java/lang/StringUTF16", "compress", "([CI[BII)I"⟩
abbrev yB : ByteArray := jdk_52_method_21_code
theorem d0 : decode yB 0 = .ok (.iconst 0, 1) := by decide +kernel
theorem d1 : decode yB 1 = .ok (.istore 5, 2) := by decide +kernel
theorem d3 : decode yB 3 = .ok (.iload 5, 2) := by decide +kernel
theorem d5 : decode yB 5 = .ok (.iload 4, 2) := by decide +kernel
theorem d7 : decode yB 7 = .ok (.if_icmp (.ge) 37, 3) := by decide +kernel
theorem d10 : decode yB 10 = .ok (.aload_n 0, 1) := by decide +kernel
theorem d11 : decode yB 11 = .ok (.iload_n 1, 1) := by decide +kernel
theorem d12 : decode yB 12 = .ok (.caload, 1) := by decide +kernel
theorem d13 : decode yB 13 = .ok (.istore 6, 2) := by decide +kernel
theorem d15 : decode yB 15 = .ok (.iload 6, 2) := by decide +kernel
theorem d17 : decode yB 17 = .ok (.sipush 255, 3) := by decide +kernel
theorem d20 : decode yB 20 = .ok (.if_icmp (.le) 6, 3) := by decide +kernel
theorem d26 : decode yB 26 = .ok (.aload_n 2, 1) := by decide +kernel
theorem d27 : decode yB 27 = .ok (.iload_n 3, 1) := by decide +kernel
theorem d28 : decode yB 28 = .ok (.iload 6, 2) := by decide +kernel
theorem d30 : decode yB 30 = .ok (.i2b, 1) := by decide +kernel
theorem d31 : decode yB 31 = .ok (.bastore, 1) := by decide +kernel
theorem d32 : decode yB 32 = .ok (.iinc 1 1, 3) := by decide +kernel
theorem d35 : decode yB 35 = .ok (.iinc 3 1, 3) := by decide +kernel
theorem d38 : decode yB 38 = .ok (.iinc 5 1, 3) := by decide +kernel
theorem d41 : decode yB 41 = .ok (.goto (-38), 3) := by decide +kernel
theorem d44 : decode yB 44 = .ok (.iload 4, 2) := by decide +kernel
theorem d46 : decode yB 46 = .ok (.ireturn, 1) := by decide +kernel
def site : List Cond := []
def tab : Cond := tabOf yN yB 7 (some .int) site
def P (b : Addr) (A : Cell) (d : Addr) (B : Cell) (o q len : Nat) (args : Array Value) (s : State) : Prop := args = #[.ref b, .int (Int32.ofNat o), .ref d, .int (Int32.ofNat q), .int (Int32.ofNat len)] ∧ Ch b A s ∧ Arr .byte d B s ∧ b ≠ d ∧ o + len ≤ A.slots.size ∧ q + len ≤ B.slots.size ∧ ∀ i, i < len → ¬ 255 < cv A (o + i)
def E (b : Addr) (A : Cell) (d : Addr) (B : Cell) (o q len : Nat) (r : Option Value) (s u : State) : Prop := r = some (.int (Int32.ofNat len)) ∧ ∃ B', Put d B' s u ∧ Laid B B' q (q + len) (fun j => Value.int (lo8 (cv A (o + (j - q)))))
/-- no char of the range above 255: len; the places written hold each char's low byte -/
theorem law (l : Launch) (b : Addr) (A : Cell) (d : Addr) (B : Cell) (o q len : Nat) : Law l yN 5 5 0 0 yB 7 (some .int) site (P b A d B o q len) (E b A d B o q len) (copyLocs d q len) 0 0 := by
  refine Law.of_walk (plainFor_of_name (by decide +kernel)) (by decide +kernel) (by decide +kernel) (by decide) (fun _ _ h => by rw [h.1]; rfl) (fun _ U U' hal hh h => ⟨h.1, h.2.1.mv hal hh, h.2.2.1.mv hal hh, h.2.2.2⟩) (fun r U U' V V' h1 hal h2 h => ⟨h.1, h.2.elim fun B' q => ⟨B', q.1.mv h1 h2, q.2⟩⟩) ?_
  intro p e s m args below meth c s₁ X0 hexec hbytes hml hret hlk hnm hown hh0 W hP
  obtain ⟨rfl, hA, hB, hne, l1, l2, hp⟩ := hP
  have c1 : Steps p.tables e below (s₁.setTop (entryFrame m #[.ref b, .int (Int32.ofNat o), .ref d, .int (Int32.ofNat q), .int (Int32.ofNat len)] 7)) (s₁.setTop (mkF m 0 #[.val (.ref b), .val (.int (Int32.ofNat o)), .val (.ref d), .val (.int (Int32.ofNat q)), .val (.int (Int32.ofNat len)), .unset, .unset] [])) := entry rfl
  have hA0 := hA.1.mv X0.warmed.alike hh0
  have hB0 := hB.mv X0.warmed.alike hh0
  have a31 := hA.1.2.2.2
  have c2 : Steps p.tables e below (s₁.setTop (entryFrame m #[.ref b, .int (Int32.ofNat o), .ref d, .int (Int32.ofNat q), .int (Int32.ofNat len)] 7)) (s₁.setTop (mkF m 3 #[.val (.ref b), .val (.int (Int32.ofNat o)), .val (.ref d), .val (.int (Int32.ofNat q)), .val (.int (Int32.ofNat len)), .val (.int 0), .unset] [])) := c1.trans (by
    refine iconstV X0.here hexec rfl 0 (hb hbytes d0) (by decide) ?_
    refine XS.istore X0.here hexec rfl (hb hbytes d1) rfl rfl ?_
    exact Steps.refl _)
  have loop : ∀ (r i : Nat), i + r = len → ∀ (z : Slot), (z = .unset ∨ ∃ w, z = .val w ∧ w.category = 1) → ∀ (Tl : State) (Bk : Cell), Stand p l e { frames := 0, locals := 0, cells := 0, slots := 0 } s m #[.ref b, .int (Int32.ofNat o), .ref d, .int (Int32.ofNat q), .int (Int32.ofNat len)] below meth c Tl ([] ++ copyLocs d q i) 0 0 → Put d Bk s₁ Tl → Laid B Bk q (q + i) (fun j => Value.int (lo8 (cv A (o + (j - q))))) →
      Steps p.tables e below (s₁.setTop (entryFrame m #[.ref b, .int (Int32.ofNat o), .ref d, .int (Int32.ofNat q), .int (Int32.ofNat len)] 7)) (Tl.setTop (mkF m 3 #[.val (.ref b), .val (.int (Int32.ofNat (o + i))), .val (.ref d), .val (.int (Int32.ofNat (q + i))), .val (.int (Int32.ofNat len)), .val (.int (Int32.ofNat i)), z] [])) → ∃ (T' : State) (B' : Cell) (z' : Slot), Stand p l e { frames := 0, locals := 0, cells := 0, slots := 0 } s m #[.ref b, .int (Int32.ofNat o), .ref d, .int (Int32.ofNat q), .int (Int32.ofNat len)] below meth c T' ([] ++ copyLocs d q len) 0 0 ∧ Put d B' s₁ T' ∧ Laid B B' q (q + len) (fun j => Value.int (lo8 (cv A (o + (j - q))))) ∧
      Steps p.tables e below (s₁.setTop (entryFrame m #[.ref b, .int (Int32.ofNat o), .ref d, .int (Int32.ofNat q), .int (Int32.ofNat len)] 7)) (T'.setTop (mkF m 3 #[.val (.ref b), .val (.int (Int32.ofNat (o + len))), .val (.ref d), .val (.int (Int32.ofNat (q + len))), .val (.int (Int32.ofNat len)), .val (.int (Int32.ofNat len)), z'] [])) := by
    intro r
    induction r with
    | zero =>
      intro i hi z hz Tl Bk Xl pl fl cl
      have hil : i = len := by omega
      rw [hil] at Xl fl cl
      exact ⟨Tl, Bk, z, Xl, pl, fl, cl⟩
    | succ r ih =>
      intro i hi z hz Tl Bk Xl pl fl cl
      have all := X0.warmed.alike.symm.trans Xl.warmed.alike
      have hAl := hA0.keep all (pl.other hne hA0.1)
      have hBk := hB0.like all pl.1 fl.1 fl.2.1 fl.2.2.1
      have hlt : q + i < Bk.slots.size := by rw [fl.2.2.1]; omega
      have c3 : Steps p.tables e below (s₁.setTop (entryFrame m #[.ref b, .int (Int32.ofNat o), .ref d, .int (Int32.ofNat q), .int (Int32.ofNat len)] 7)) (Tl.setTop (mkF m 12 #[.val (.ref b), .val (.int (Int32.ofNat (o + i))), .val (.ref d), .val (.int (Int32.ofNat (q + i))), .val (.int (Int32.ofNat len)), .val (.int (Int32.ofNat i)), z] [.int (Int32.ofNat (o + i)), .ref b])) := cl.trans (by
        refine XS.iload Xl.here hexec rfl (hb hbytes d3) rfl ?_
        refine XS.iload Xl.here hexec rfl (hb hbytes d5) rfl ?_
        refine XS.icmpNo Xl.here hexec rfl (hb hbytes d7) rfl (ii_ge_f (lt32 (by omega) (by omega))) ?_
        refine XS.aloadN Xl.here hexec rfl (hb hbytes d10) rfl rfl ?_
        refine XS.iloadN Xl.here hexec rfl (hb hbytes d11) rfl ?_
        exact Steps.refl _)
      have c4 : Steps p.tables e below (s₁.setTop (entryFrame m #[.ref b, .int (Int32.ofNat o), .ref d, .int (Int32.ofNat q), .int (Int32.ofNat len)] 7)) (Tl.setTop (mkF m 13 #[.val (.ref b), .val (.int (Int32.ofNat (o + i))), .val (.ref d), .val (.int (Int32.ofNat (q + i))), .val (.int (Int32.ofNat len)), .val (.int (Int32.ofNat i)), z] [.int (cv A (o + i))])) := c3.trans (by
        refine Xl.aget hexec hAl rfl (hA.get (i := o + i) (by omega)) rfl rfl (hb hbytes d12) ?_
        exact Steps.refl _)
      have c5 : Steps p.tables e below (s₁.setTop (entryFrame m #[.ref b, .int (Int32.ofNat o), .ref d, .int (Int32.ofNat q), .int (Int32.ofNat len)] 7)) (Tl.setTop (mkF m 15 #[.val (.ref b), .val (.int (Int32.ofNat (o + i))), .val (.ref d), .val (.int (Int32.ofNat (q + i))), .val (.int (Int32.ofNat len)), .val (.int (Int32.ofNat i)), .val (.int (cv A (o + i)))] [])) := c4.trans (by
        refine XS.istoreS Xl.here hexec rfl (hb hbytes d13) rfl rfl hz ?_
        exact Steps.refl _)
      have c6 : Steps p.tables e below (s₁.setTop (entryFrame m #[.ref b, .int (Int32.ofNat o), .ref d, .int (Int32.ofNat q), .int (Int32.ofNat len)] 7)) (Tl.setTop (mkF m 31 #[.val (.ref b), .val (.int (Int32.ofNat (o + i))), .val (.ref d), .val (.int (Int32.ofNat (q + i))), .val (.int (Int32.ofNat len)), .val (.int (Int32.ofNat i)), .val (.int (cv A (o + i)))] [.int (lo8 (cv A (o + i))), .int (Int32.ofNat (q + i)), .ref d])) := c5.trans (by
        refine XS.iload Xl.here hexec rfl (hb hbytes d15) rfl ?_
        refine sipushV Xl.here hexec rfl 255 (hb hbytes d17) (by decide) ?_
        refine XS.icmpYes Xl.here hexec rfl (pc0 := 20) rfl (hb hbytes d20) rfl (ii_le_t (hp i (by omega))) (by decide) rfl ?_
        refine XS.aloadN Xl.here hexec rfl (hb hbytes d26) rfl rfl ?_
        refine XS.iloadN Xl.here hexec rfl (hb hbytes d27) rfl ?_
        refine XS.iload Xl.here hexec rfl (hb hbytes d28) rfl ?_
        refine i2b Xl.here hexec rfl (hb hbytes d30) rfl ?_
        exact Steps.refl _)
      obtain ⟨T7, X7, p7, st7⟩ := Xl.aput hexec hBk rfl hlt rfl (fits_lo8 (cv A (o + i))) (g := (mkF m 31 #[.val (.ref b), .val (.int (Int32.ofNat (o + i))), .val (.ref d), .val (.int (Int32.ofNat (q + i))), .val (.int (Int32.ofNat len)), .val (.int (Int32.ofNat i)), .val (.int (cv A (o + i)))] [.int (lo8 (cv A (o + i))), .int (Int32.ofNat (q + i)), .ref d])) rfl (rest := []) rfl (hb hbytes d31)
      have c8 : Steps p.tables e below (s₁.setTop (entryFrame m #[.ref b, .int (Int32.ofNat o), .ref d, .int (Int32.ofNat q), .int (Int32.ofNat len)] 7)) (T7.setTop (mkF m 32 #[.val (.ref b), .val (.int (Int32.ofNat (o + i))), .val (.ref d), .val (.int (Int32.ofNat (q + i))), .val (.int (Int32.ofNat len)), .val (.int (Int32.ofNat i)), .val (.int (cv A (o + i)))] [])) := c6.trans (st7 _ (Steps.refl _))
      have c9 : Steps p.tables e below (s₁.setTop (entryFrame m #[.ref b, .int (Int32.ofNat o), .ref d, .int (Int32.ofNat q), .int (Int32.ofNat len)] 7)) (T7.setTop (mkF m 3 #[.val (.ref b), .val (.int (Int32.ofNat (o + i) + 1)), .val (.ref d), .val (.int (Int32.ofNat (q + i) + 1)), .val (.int (Int32.ofNat len)), .val (.int (Int32.ofNat i + 1)), .val (.int (cv A (o + i)))] [])) := c8.trans (by
        refine iincV X7.here hexec rfl 1 (hb hbytes d32) (by decide) rfl rfl ?_
        refine iincV X7.here hexec rfl 1 (hb hbytes d35) (by decide) rfl rfl ?_
        refine iincV X7.here hexec rfl 1 (hb hbytes d38) (by decide) rfl rfl ?_
        refine XS.goto X7.here hexec rfl (pc0 := 41) rfl (hb hbytes d41) (by decide) rfl ?_
        exact Steps.refl _)
      have c10 : Steps p.tables e below (s₁.setTop (entryFrame m #[.ref b, .int (Int32.ofNat o), .ref d, .int (Int32.ofNat q), .int (Int32.ofNat len)] 7)) (T7.setTop (mkF m 3 #[.val (.ref b), .val (.int (Int32.ofNat (o + (i + 1)))), .val (.ref d), .val (.int (Int32.ofNat (q + (i + 1)))), .val (.int (Int32.ofNat len)), .val (.int (Int32.ofNat (i + 1))), .val (.int (cv A (o + i)))] [])) := by
        have := c9
        rw [succ32, succ32, succ32] at this
        exact this
      exact ih (i + 1) (by omega) _ (Or.inr ⟨_, rfl, rfl⟩) T7 _ (by rw [copyLocs_step, ← List.append_assoc]; exact X7) (pl.trans p7) (fl.step (by omega) hlt (by simp)) c10
  obtain ⟨T9, B9, z9, X9, p9, f9, g9⟩ := loop len 0 (by omega) .unset (Or.inl rfl) s₁ B (by simpa [copyLocs] using X0) ⟨hB0.1, fun _ _ => rfl, rfl⟩ (Laid.zero _ _ _) c2
  have c11 : Steps p.tables e below (s₁.setTop (entryFrame m #[.ref b, .int (Int32.ofNat o), .ref d, .int (Int32.ofNat q), .int (Int32.ofNat len)] 7)) (T9.setTop (mkF m 46 #[.val (.ref b), .val (.int (Int32.ofNat (o + len))), .val (.ref d), .val (.int (Int32.ofNat (q + len))), .val (.int (Int32.ofNat len)), .val (.int (Int32.ofNat len)), z9] [.int (Int32.ofNat len)])) := g9.trans (by
    refine XS.iload X9.here hexec rfl (hb hbytes d3) rfl ?_
    refine XS.iload X9.here hexec rfl (hb hbytes d5) rfl ?_
    refine XS.icmpYes X9.here hexec rfl (pc0 := 7) rfl (hb hbytes d7) rfl (ii_ge_t (nlt32 (by omega) (Nat.le_refl _))) (by decide) rfl ?_
    refine XS.iload X9.here hexec rfl (hb hbytes d44) rfl ?_
    exact Steps.refl _)
  exact ⟨T9, some (.int (Int32.ofNat len)), _, _, _, X9, by simp, rfl, rfl, (fun h => by cases h), ⟨rfl, B9, p9.from hh0, f9⟩, fun fs hl => c11.trans (X9.ireturnOut hexec hret rfl (Or.inl rfl) (hb hbytes d46) hl)⟩
end Cmp5
namespace Cmp3
def yN : MethodName := ⟨"java/lang/StringUTF16", "compress", "([CII)[B"⟩
abbrev yB : ByteArray := jdk_52_method_16_code
theorem d0 : decode yB 0 = .ok (.iload_n 2, 1) := by decide +kernel
theorem d1 : decode yB 1 = .ok (.newarray .byte, 2) := by decide +kernel
theorem d3 : decode yB 3 = .ok (.astore_n 3, 1) := by decide +kernel
theorem d4 : decode yB 4 = .ok (.aload_n 0, 1) := by decide +kernel
theorem d5 : decode yB 5 = .ok (.iload_n 1, 1) := by decide +kernel
theorem d6 : decode yB 6 = .ok (.aload_n 3, 1) := by decide +kernel
theorem d7 : decode yB 7 = .ok (.iconst 0, 1) := by decide +kernel
theorem d8 : decode yB 8 = .ok (.iload_n 2, 1) := by decide +kernel
theorem d9 : decode yB 9 = .ok (.invokestatic 115, 3) := by decide +kernel
theorem d12 : decode yB 12 = .ok (.istore 4, 2) := by decide +kernel
theorem d14 : decode yB 14 = .ok (.iload 4, 2) := by decide +kernel
theorem d16 : decode yB 16 = .ok (.iload_n 2, 1) := by decide +kernel
theorem d17 : decode yB 17 = .ok (.if_icmp (.eq) 40, 3) := by decide +kernel
theorem d57 : decode yB 57 = .ok (.aload_n 3, 1) := by decide +kernel
theorem d58 : decode yB 58 = .ok (.areturn, 1) := by decide +kernel
def site : List Cond := [.arrayClass .byte, Cmp5.tab] ++ staticW U16 115 Cmp5.yN
def tab : Cond := tabOf yN yB 6 (some (.array .byte)) site
def P (b : Addr) (A : Cell) (o len : Nat) (args : Array Value) (s : State) : Prop := args = #[.ref b, .int (Int32.ofNat o), .int (Int32.ofNat len)] ∧ Ch b A s ∧ o + len ≤ A.slots.size ∧ len ≤ 536870912 ∧ ∀ i, i < len → ¬ 255 < cv A (o + i)
def E (b : Addr) (A : Cell) (o len : Nat) (r : Option Value) (s u : State) : Prop := NewArr .byte "[B" len (fun j => .int (lo8 (cv A (o + j)))) r s u ∧ u.heap.size = s.heap.size + 1
/-- no char of the range above 255: a new byte[] of their low bytes -/
theorem law (l : Launch) (b : Addr) (A : Cell) (o len : Nat) : Law l yN 3 3 1 18 yB 6 (some (.array .byte)) site (P b A o len) (E b A o len) [] 1 len := by
  refine Law.of_walk (plainFor_of_name (by decide +kernel)) (by decide +kernel) (by decide +kernel) (by decide) (fun _ _ h => by rw [h.1]; rfl) (fun _ U U' hal hh h => ⟨h.1, h.2.1.mv hal hh, h.2.2⟩) (fun r U U' V V' h1 hal h2 h => ⟨NewArr.mv r U U' V V' h1 hal h2 h.1, by rw [h1, h2]; exact h.2⟩) ?_
  intro p e s m args below meth c s₁ X0 hexec hbytes hml hret hlk hnm hown hh0 W hP
  obtain ⟨rfl, hA, l1, l2, hp⟩ := hP
  have a31 := hA.1.2.2.2
  have c1 : Steps p.tables e below (s₁.setTop (entryFrame m #[.ref b, .int (Int32.ofNat o), .int (Int32.ofNat len)] 6)) (s₁.setTop (mkF m 0 #[.val (.ref b), .val (.int (Int32.ofNat o)), .val (.int (Int32.ofNat len)), .unset, .unset, .unset] [])) := entry rfl
  have c2 : Steps p.tables e below (s₁.setTop (entryFrame m #[.ref b, .int (Int32.ofNat o), .int (Int32.ofNat len)] 6)) (s₁.setTop (mkF m 1 #[.val (.ref b), .val (.int (Int32.ofNat o)), .val (.int (Int32.ofNat len)), .unset, .unset, .unset] [.int (Int32.ofNat len)])) := c1.trans (by
    refine XS.iloadN X0.here hexec rfl (hb hbytes d0) rfl ?_
    exact Steps.refl _)
  obtain ⟨T3, B3, X3, ba3, bs3, bv3, bh3, bf3, st3⟩ := X0.anew hexec (atype := .byte) (wk W (.arrayClass .byte)) rfl (by show len * 1 ≤ _; omega) (by omega) (g := (mkF m 1 #[.val (.ref b), .val (.int (Int32.ofNat o)), .val (.int (Int32.ofNat len)), .unset, .unset, .unset] [.int (Int32.ofNat len)])) rfl (hb hbytes d1) (rest := []) rfl (Nat.le_refl _) (by show 0 + len ≤ len; omega)
  rw [hh0] at ba3 st3
  have kp3 : XT.Kept s T3 := (XT.Kept.of_eq hh0).push bh3
  have hA3 := hA.keep X3.warmed.alike (kp3 _ _ hA.1.1)
  have hne : b ≠ s.heap.size := hA.1.ne
  have c4 : Steps p.tables e below (s₁.setTop (entryFrame m #[.ref b, .int (Int32.ofNat o), .int (Int32.ofNat len)] 6)) (T3.setTop (mkF m 3 #[.val (.ref b), .val (.int (Int32.ofNat o)), .val (.int (Int32.ofNat len)), .unset, .unset, .unset] [.ref s.heap.size])) := c2.trans (st3 _ (Steps.refl _))
  have c5 : Steps p.tables e below (s₁.setTop (entryFrame m #[.ref b, .int (Int32.ofNat o), .int (Int32.ofNat len)] 6)) (T3.setTop (mkF m 9 #[.val (.ref b), .val (.int (Int32.ofNat o)), .val (.int (Int32.ofNat len)), .val (.ref s.heap.size), .unset, .unset] [.int (Int32.ofNat len), .int 0, .ref s.heap.size, .int (Int32.ofNat o), .ref b])) := c4.trans (by
    refine XS.astoreN X3.here hexec rfl (hb hbytes d3) rfl rfl rfl ?_
    refine XS.aloadN X3.here hexec rfl (hb hbytes d4) rfl rfl ?_
    refine XS.iloadN X3.here hexec rfl (hb hbytes d5) rfl ?_
    refine XS.aloadN X3.here hexec rfl (hb hbytes d6) rfl rfl ?_
    refine iconstV X3.here hexec rfl 0 (hb hbytes d7) (by decide) ?_
    refine XS.iloadN X3.here hexec rfl (hb hbytes d8) rfl ?_
    exact Steps.refl _)
  obtain ⟨v6, T6, X6, E6, g6⟩ := X3.callS hexec (Cmp5.law l b A s.heap.size B3 o 0 len) hown (wks W (staticW U16 115 Cmp5.yN)) (wk W Cmp5.tab) (W := 0) (Nat.le_of_ble_eq_true rfl) (Nat.le_of_ble_eq_true rfl) (Nat.le_refl _) (by show 0 + len + 0 ≤ len; omega) (g := (mkF m 9 #[.val (.ref b), .val (.int (Int32.ofNat o)), .val (.int (Int32.ofNat len)), .val (.ref s.heap.size), .unset, .unset] [.int (Int32.ofNat len), .int (Int32.ofNat 0), .ref s.heap.size, .int (Int32.ofNat o), .ref b])) rfl (by rw [hml]; rfl) c5 (argsL := [.ref b, .int (Int32.ofNat o), .ref s.heap.size, .int (Int32.ofNat 0), .int (Int32.ofNat len)]) (rest := []) rfl rfl (by show 2 * 0 + 0 ≤ _; decide) (hb hbytes d9) (⟨rfl, hA3, ba3, hne, l1, by rw [bs3]; simp, hp⟩)
  obtain ⟨rfl, B6, p6, f6⟩ := E6
  have c7 : Steps p.tables e below (s₁.setTop (entryFrame m #[.ref b, .int (Int32.ofNat o), .int (Int32.ofNat len)] 6)) (T6.setTop (mkF m 12 #[.val (.ref b), .val (.int (Int32.ofNat o)), .val (.int (Int32.ofNat len)), .val (.ref s.heap.size), .unset, .unset] [.int (Int32.ofNat len)])) := g6
  have c8 : Steps p.tables e below (s₁.setTop (entryFrame m #[.ref b, .int (Int32.ofNat o), .int (Int32.ofNat len)] 6)) (T6.setTop (mkF m 58 #[.val (.ref b), .val (.int (Int32.ofNat o)), .val (.int (Int32.ofNat len)), .val (.ref s.heap.size), .val (.int (Int32.ofNat len)), .unset] [.ref s.heap.size])) := c7.trans (by
    refine XS.istore X6.here hexec rfl (hb hbytes d12) rfl rfl ?_
    refine XS.iload X6.here hexec rfl (hb hbytes d14) rfl ?_
    refine XS.iloadN X6.here hexec rfl (hb hbytes d16) rfl ?_
    refine XS.icmpYes X6.here hexec rfl (pc0 := 17) rfl (hb hbytes d17) rfl (ii_eq_t rfl) (by decide) rfl ?_
    refine XS.aloadN X6.here hexec rfl (hb hbytes d57) rfl rfl ?_
    exact Steps.refl _)
  have X8 := X6.wide (L' := []) (cells' := 1) (slots' := len) (fun x hx hlt => by
    simp only [List.nil_append, copyLocs, List.mem_map, List.mem_range] at hx
    obtain ⟨i, -, rfl⟩ := hx
    exact absurd hlt (Nat.lt_irrefl _)) (Nat.le_refl _) (by omega)
  exact ⟨T6, some (.ref s.heap.size), _, _, _, X8, rfl, rfl, rfl, (fun h => by cases h), ⟨⟨rfl, B6, ba3.like (X3.warmed.alike.symm.trans X6.warmed.alike) p6.1 f6.1 f6.2.1 f6.2.2.1, f6.2.1.trans bv3, by rw [X6.warmed.alike.findClass, f6.1]; exact bf3, by rw [f6.2.2.1, bs3]; simp, fun j hj => by rw [f6.2.2.2 j, if_pos (by omega)]; rfl, kp3.put p6 (Nat.le_refl _)⟩, by rw [p6.2.2, bh3, hh0]; simp⟩, fun fs hl => c8.trans (X8.areturnOut hexec rfl hret rfl (hb hbytes d58) hl)⟩
end Cmp3
namespace CodL
def yN : MethodName := ⟨"java/lang/StringUTF16", "coderFromArrayLen", "([BI)B"⟩
abbrev yB : ByteArray := jdk_52_method_15_code
theorem d0 : decode yB 0 = .ok (.iload_n 1, 1) := by decide +kernel
theorem d1 : decode yB 1 = .ok (.aload_n 0, 1) := by decide +kernel
theorem d2 : decode yB 2 = .ok (.arraylength, 1) := by decide +kernel
theorem d3 : decode yB 3 = .ok (.isub, 1) := by decide +kernel
theorem d4 : decode yB 4 = .ok (.bipush 31, 2) := by decide +kernel
theorem d6 : decode yB 6 = .ok (.iushr, 1) := by decide +kernel
theorem d7 : decode yB 7 = .ok (.i2b, 1) := by decide +kernel
theorem d8 : decode yB 8 = .ok (.ireturn, 1) := by decide +kernel
def site : List Cond := []
def tab : Cond := tabOf yN yB 2 (some .byte) site
def P (d : Addr) (B : Cell) (args : Array Value) (s : State) : Prop := args = #[.ref d, .int (Int32.ofNat B.slots.size)] ∧ Arr .byte d B s
def E (r : Option Value) (s u : State) : Prop := XT.PureE (some (.int 0)) r s u
/-- an array as long as the number of chars: LATIN1 -/
theorem law (l : Launch) (d : Addr) (B : Cell) : Law l yN 2 2 0 0 yB 2 (some .byte) site (P d B) E [] 0 0 := by
  refine Law.of_walk (plainFor_of_name (by decide +kernel)) (by decide +kernel) (by decide +kernel) (by decide) (fun _ _ h => by rw [h.1]; rfl) (fun _ U U' hal hh h => ⟨h.1, h.2.mv hal hh⟩) (fun r U U' V V' h1 hal h2 h => XT.PureE.mv r U U' V V' h1 hal h2 h) ?_
  intro p e s m args below meth c s₁ X0 hexec hbytes hml hret hlk hnm hown hh0 W hP
  obtain ⟨rfl, hB⟩ := hP
  have hB0 := hB.mv X0.warmed.alike hh0
  have c1 : Steps p.tables e below (s₁.setTop (entryFrame m #[.ref d, .int (Int32.ofNat B.slots.size)] 2)) (s₁.setTop (mkF m 0 #[.val (.ref d), .val (.int (Int32.ofNat B.slots.size))] [])) := entry rfl
  have c2 : Steps p.tables e below (s₁.setTop (entryFrame m #[.ref d, .int (Int32.ofNat B.slots.size)] 2)) (s₁.setTop (mkF m 2 #[.val (.ref d), .val (.int (Int32.ofNat B.slots.size))] [.ref d, .int (Int32.ofNat B.slots.size)])) := c1.trans (by
    refine XS.iloadN X0.here hexec rfl (hb hbytes d0) rfl ?_
    refine XS.aloadN X0.here hexec rfl (hb hbytes d1) rfl rfl ?_
    exact Steps.refl _)
  have c3 : Steps p.tables e below (s₁.setTop (entryFrame m #[.ref d, .int (Int32.ofNat B.slots.size)] 2)) (s₁.setTop (mkF m 8 #[.val (.ref d), .val (.int (Int32.ofNat B.slots.size))] [.int (lo8 (ushr (Int32.ofNat B.slots.size - Int32.ofNat B.slots.size) 31))])) := c2.trans (by
    refine X0.alen hexec hB0 rfl rfl (hb hbytes d2) ?_
    refine XS.isub X0.here hexec rfl (hb hbytes d3) rfl ?_
    refine bipushV X0.here hexec rfl 31 (hb hbytes d4) (by decide) ?_
    refine iushr X0.here hexec rfl (hb hbytes d6) rfl ?_
    refine i2b X0.here hexec rfl (hb hbytes d7) rfl ?_
    exact Steps.refl _)
  have e0 : lo8 (ushr (Int32.ofNat B.slots.size - Int32.ofNat B.slots.size) 31) = 0 := by rw [Int32.sub_self]; decide
  rw [e0] at c3
  exact ⟨s₁, some (.int 0), _, _, _, X0, rfl, rfl, rfl, (fun h => by cases h), ⟨rfl, hh0⟩, fun fs hl => c3.trans (X0.ireturnOut hexec hret rfl (Or.inr (Or.inr (Or.inl rfl))) (hb hbytes d8) hl)⟩
end CodL
/-- the String at a is Latin-1 over a new byte[] (the heap's one new cell): the low bytes of the len chars of A from o on; every cell but a is kept -/
def Got (a : Addr) (D : Cell) (fV fC : Field) (A : Cell) (o len : Nat) (r : Option Value) (s u : State) : Prop := r = none ∧ ∃ D' V : Cell, Blank "java/lang/String" a D' u ∧ Same D D' [fV.slot, fC.slot] ∧ D'.slots[fV.slot]? = some (.ref s.heap.size) ∧ D'.slots[fC.slot]? = some (.int 0) ∧ Arr .byte s.heap.size V u ∧ V.vm = .none ∧ u.vm.findClass "[B" = some V.cls ∧ V.slots.size = len ∧ (∀ j, j < len → V.slots[j]? = some (.int (lo8 (cv A (o + j))))) ∧ (∀ (y : Addr) (c : Cell), y ≠ a → s.heap[y]? = some c → u.heap[y]? = some c) ∧ u.heap.size = s.heap.size + 1
theorem Got.mv {a : Addr} {D A : Cell} {fV fC : Field} {o len : Nat} : ∀ r (U U' V V' : State), U'.heap = U.heap → V.vm.Alike V'.vm → V'.heap = V.heap → Got a D fV fC A o len r U V → Got a D fV fC A o len r U' V' :=
  fun r U U' V V' h1 hal h2 ⟨e0, D', X, a1, a2, a3, a4, a5, a6, a7, a8, a9, a10, a11⟩ => ⟨e0, D', X, a1.mv hal h2, a2, by rw [h1]; exact a3, a4, by rw [h1]; exact a5.mv hal h2, a6, by rw [hal.findClass]; exact a7, a8, a9, by rw [h1, h2]; exact a10, by rw [h1, h2]; exact a11⟩
namespace New4
def yN : MethodName := ⟨"java/lang/String", "<init>", "([CIILjava/lang/Void;)V"⟩
abbrev yB : ByteArray := jdk_42_method_149_code
theorem d0 : decode yB 0 = .ok (.aload_n 0, 1) := by decide +kernel
theorem d1 : decode yB 1 = .ok (.invokespecial 1, 3) := by decide +kernel
theorem d4 : decode yB 4 = .ok (.iload_n 3, 1) := by decide +kernel
theorem d5 : decode yB 5 = .ok (.ifCond (.ne) 22, 3) := by decide +kernel
theorem d27 : decode yB 27 = .ok (.getstatic 38, 3) := by decide +kernel
theorem d30 : decode yB 30 = .ok (.ifCond (.eq) 28, 3) := by decide +kernel
theorem d33 : decode yB 33 = .ok (.aload_n 1, 1) := by decide +kernel
theorem d34 : decode yB 34 = .ok (.iload_n 2, 1) := by decide +kernel
theorem d35 : decode yB 35 = .ok (.iload_n 3, 1) := by decide +kernel
theorem d36 : decode yB 36 = .ok (.invokestatic 177, 3) := by decide +kernel
theorem d39 : decode yB 39 = .ok (.astore 5, 2) := by decide +kernel
theorem d41 : decode yB 41 = .ok (.aload_n 0, 1) := by decide +kernel
theorem d42 : decode yB 42 = .ok (.aload 5, 2) := by decide +kernel
theorem d44 : decode yB 44 = .ok (.iload_n 3, 1) := by decide +kernel
theorem d45 : decode yB 45 = .ok (.invokestatic 47, 3) := by decide +kernel
theorem d48 : decode yB 48 = .ok (.putfield 15, 3) := by decide +kernel
theorem d51 : decode yB 51 = .ok (.aload_n 0, 1) := by decide +kernel
theorem d52 : decode yB 52 = .ok (.aload 5, 2) := by decide +kernel
theorem d54 : decode yB 54 = .ok (.putfield 9, 3) := by decide +kernel
theorem d57 : decode yB 57 = .ok (.return_, 1) := by decide +kernel
def site : List Cond := [.fieldLink "java/lang/String" 38 "java/lang/String" "COMPACT_STRINGS" "Z", Cmp3.tab, CodL.tab, .laysFinal "java/lang/String" "java/lang/String" "value" "[B", .fieldLink "java/lang/String" 9 "java/lang/String" "value" "[B", .laysFinal "java/lang/String" "java/lang/String" "coder" "B", .fieldLink "java/lang/String" 15 "java/lang/String" "coder" "B"] ++ objW "java/lang/String" 1 ++ staticW "java/lang/String" 177 Cmp3.yN ++ staticW "java/lang/String" 47 CodL.yN
def tab : Cond := tabOf yN yB 6 none site
def P (a : Addr) (D : Cell) (fV fC : Field) (b : Addr) (A : Cell) (z : Int32) (o len : Nat) (args : Array Value) (s : State) : Prop := args = #[.ref a, .ref b, .int (Int32.ofNat o), .int (Int32.ofNat len), .null] ∧ Blank "java/lang/String" a D s ∧ Found "java/lang/String" "value" "[B" fV s ∧ Found "java/lang/String" "coder" "B" fC s ∧ Ch b A s ∧ StaticIs s "java/lang/String" "COMPACT_STRINGS" "Z" (.int z) ∧ ¬ z = 0 ∧ 0 < len ∧ o + len ≤ A.slots.size ∧ len ≤ 536870912 ∧ ∀ i, i < len → ¬ 255 < cv A (o + i)
def E (a : Addr) (D : Cell) (fV fC : Field) (A : Cell) (o len : Nat) (r : Option Value) (s u : State) : Prop := Got a D fV fC A o len r s u
/-- len > 0, no char of the range above 255: a Latin-1 String of their low bytes -/
theorem law (l : Launch) (a : Addr) (D : Cell) (fV fC : Field) (b : Addr) (A : Cell) (z : Int32) (o len : Nat) : Law l yN 5 4 2 35 yB 6 none site (P a D fV fC b A z o len) (E a D fV fC A o len) [⟨a, fC.slot⟩, ⟨a, fV.slot⟩] 1 len := by
  refine Law.of_walk (plainFor_of_name (by decide +kernel)) (by decide +kernel) (by decide +kernel) (by decide) (fun _ _ h => by rw [h.1]; rfl) (fun _ U U' hal hh h => ⟨h.1, h.2.1.mv hal hh, h.2.2.1.al hal, h.2.2.2.1.al hal, h.2.2.2.2.1.mv hal hh, h.2.2.2.2.2.1.there hal hh, h.2.2.2.2.2.2⟩) (fun r U U' V V' h1 hal h2 h => Got.mv r U U' V V' h1 hal h2 h) ?_
  intro p e s m args below meth c s₁ X0 hexec hbytes hml hret hlk hnm hown hh0 W hP
  obtain ⟨rfl, hB, f1, f2, hA, s1, hz, l0, l1, l2, hp⟩ := hP
  have a31 := hA.1.2.2.2
  have c1 : Steps p.tables e below (s₁.setTop (entryFrame m #[.ref a, .ref b, .int (Int32.ofNat o), .int (Int32.ofNat len), .null] 6)) (s₁.setTop (mkF m 0 #[.val (.ref a), .val (.ref b), .val (.int (Int32.ofNat o)), .val (.int (Int32.ofNat len)), .val .null, .unset] [])) := entry rfl
  have c2 : Steps p.tables e below (s₁.setTop (entryFrame m #[.ref a, .ref b, .int (Int32.ofNat o), .int (Int32.ofNat len), .null] 6)) (s₁.setTop (mkF m 1 #[.val (.ref a), .val (.ref b), .val (.int (Int32.ofNat o)), .val (.int (Int32.ofNat len)), .val .null, .unset] [.ref a])) := c1.trans (by
    refine XS.aloadN X0.here hexec rfl (hb hbytes d0) rfl rfl ?_
    exact Steps.refl _)
  obtain ⟨T3, X3, q3, st3⟩ := X0.oinit hexec hown (wks W (objW "java/lang/String" 1)) (g := (mkF m 1 #[.val (.ref a), .val (.ref b), .val (.int (Int32.ofNat o)), .val (.int (Int32.ofNat len)), .val .null, .unset] [.ref a])) rfl (by rw [hml]; rfl) (rest := []) rfl (hb hbytes d1) (W := 0) (by show 2 * 0 + 0 ≤ _; decide) (Nat.le_of_ble_eq_true rfl) (Nat.le_of_ble_eq_true rfl)
  have hh3 := q3.trans hh0
  have c4 : Steps p.tables e below (s₁.setTop (entryFrame m #[.ref a, .ref b, .int (Int32.ofNat o), .int (Int32.ofNat len), .null] 6)) (T3.setTop (mkF m 27 #[.val (.ref a), .val (.ref b), .val (.int (Int32.ofNat o)), .val (.int (Int32.ofNat len)), .val .null, .unset] [])) := (c2.trans (st3 _ (Steps.refl _))).trans (by
    refine XS.iloadN X3.here hexec rfl (hb hbytes d4) rfl ?_
    refine XS.ifYes X3.here hexec rfl (pc0 := 5) rfl (hb hbytes d5) rfl (i0_ne_t (nz32 (by omega) l0)) (by decide) rfl ?_
    exact Steps.refl _)
  obtain ⟨T5, X5, q5, st5⟩ := X3.sget hexec hown (wk W (.fieldLink "java/lang/String" 38 "java/lang/String" "COMPACT_STRINGS" "Z")) s1 (fun _ _ h => by rw [hh3]; exact h) (g := (mkF m 27 #[.val (.ref a), .val (.ref b), .val (.int (Int32.ofNat o)), .val (.int (Int32.ofNat len)), .val .null, .unset] [])) rfl (hb hbytes d27)
  have hh5 := q5.trans hh3
  have c6 : Steps p.tables e below (s₁.setTop (entryFrame m #[.ref a, .ref b, .int (Int32.ofNat o), .int (Int32.ofNat len), .null] 6)) (T5.setTop (mkF m 30 #[.val (.ref a), .val (.ref b), .val (.int (Int32.ofNat o)), .val (.int (Int32.ofNat len)), .val .null, .unset] [.int z])) := c4.trans (st5 _ (Steps.refl _))
  have c7 : Steps p.tables e below (s₁.setTop (entryFrame m #[.ref a, .ref b, .int (Int32.ofNat o), .int (Int32.ofNat len), .null] 6)) (T5.setTop (mkF m 36 #[.val (.ref a), .val (.ref b), .val (.int (Int32.ofNat o)), .val (.int (Int32.ofNat len)), .val .null, .unset] [.int (Int32.ofNat len), .int (Int32.ofNat o), .ref b])) := c6.trans (by
    refine XS.ifNo X5.here hexec rfl (hb hbytes d30) rfl (i0_eq_f hz) ?_
    refine XS.aloadN X5.here hexec rfl (hb hbytes d33) rfl rfl ?_
    refine XS.iloadN X5.here hexec rfl (hb hbytes d34) rfl ?_
    refine XS.iloadN X5.here hexec rfl (hb hbytes d35) rfl ?_
    exact Steps.refl _)
  obtain ⟨v8, T8, X8, E8, g8⟩ := X5.callS hexec (Cmp3.law l b A o len) hown (wks W (staticW "java/lang/String" 177 Cmp3.yN)) (wk W Cmp3.tab) (W := 0) (Nat.le_of_ble_eq_true rfl) (Nat.le_of_ble_eq_true rfl) (Nat.le_refl _) (by show 0 + len ≤ len; omega) (g := (mkF m 36 #[.val (.ref a), .val (.ref b), .val (.int (Int32.ofNat o)), .val (.int (Int32.ofNat len)), .val .null, .unset] [.int (Int32.ofNat len), .int (Int32.ofNat o), .ref b])) rfl (by rw [hml]; rfl) c7 (argsL := [.ref b, .int (Int32.ofNat o), .int (Int32.ofNat len)]) (rest := []) rfl rfl (by show 2 * 0 + 0 ≤ _; decide) (hb hbytes d36) (⟨rfl, hA.mv X5.warmed.alike hh5, l1, l2, hp⟩)
  obtain ⟨e8, z8⟩ := E8
  obtain ⟨rfl, N, n1, n2, n3, n4, n5, n6⟩ := NewArr.mv _ T5 s _ _ hh5.symm (Vm.Alike.refl _) rfl e8
  rw [hh5] at z8
  have hB1 := hB.keep X8.warmed.alike (n6 _ _ hB.1)
  have hne : s.heap.size ≠ a := (Nat.ne_of_lt (Array.getElem?_eq_some_iff.mp hB.1).1).symm
  have c9 : Steps p.tables e below (s₁.setTop (entryFrame m #[.ref a, .ref b, .int (Int32.ofNat o), .int (Int32.ofNat len), .null] 6)) (T8.setTop (mkF m 39 #[.val (.ref a), .val (.ref b), .val (.int (Int32.ofNat o)), .val (.int (Int32.ofNat len)), .val .null, .unset] [.ref s.heap.size])) := g8
  have c10 : Steps p.tables e below (s₁.setTop (entryFrame m #[.ref a, .ref b, .int (Int32.ofNat o), .int (Int32.ofNat len), .null] 6)) (T8.setTop (mkF m 45 #[.val (.ref a), .val (.ref b), .val (.int (Int32.ofNat o)), .val (.int (Int32.ofNat len)), .val .null, .val (.ref s.heap.size)] [.int (Int32.ofNat N.slots.size), .ref s.heap.size, .ref a])) := by
    have hc : Steps p.tables e below (s₁.setTop (entryFrame m #[.ref a, .ref b, .int (Int32.ofNat o), .int (Int32.ofNat len), .null] 6)) (T8.setTop (mkF m 45 #[.val (.ref a), .val (.ref b), .val (.int (Int32.ofNat o)), .val (.int (Int32.ofNat len)), .val .null, .val (.ref s.heap.size)] [.int (Int32.ofNat len), .ref s.heap.size, .ref a])) := c9.trans (by
      refine XS.astore X8.here hexec rfl (hb hbytes d39) rfl rfl rfl ?_
      refine XS.aloadN X8.here hexec rfl (hb hbytes d41) rfl rfl ?_
      refine XS.aload X8.here hexec rfl (hb hbytes d42) rfl rfl ?_
      refine XS.iloadN X8.here hexec rfl (hb hbytes d44) rfl ?_
      exact Steps.refl _)
    rw [n4]; exact hc
  obtain ⟨v11, T11, X11, E11, g11⟩ := X8.callS hexec (CodL.law l s.heap.size N) hown (wks W (staticW "java/lang/String" 47 CodL.yN)) (wk W CodL.tab) (W := 1) (Nat.le_of_ble_eq_true rfl) (Nat.le_of_ble_eq_true rfl) (Nat.le_refl _) (by show 0 + len + 0 ≤ len; omega) (g := (mkF m 45 #[.val (.ref a), .val (.ref b), .val (.int (Int32.ofNat o)), .val (.int (Int32.ofNat len)), .val .null, .val (.ref s.heap.size)] [.int (Int32.ofNat N.slots.size), .ref s.heap.size, .ref a])) rfl (by rw [hml]; rfl) c10 (argsL := [.ref s.heap.size, .int (Int32.ofNat N.slots.size)]) (rest := [.ref a]) rfl rfl (by show 2 * 0 + (1 + 0) ≤ _; decide) (hb hbytes d45) (⟨rfl, n1⟩)
  obtain ⟨rfl, q11⟩ := E11
  have hB11 := hB1.mv (X8.warmed.alike.symm.trans X11.warmed.alike) q11
  have c12 : Steps p.tables e below (s₁.setTop (entryFrame m #[.ref a, .ref b, .int (Int32.ofNat o), .int (Int32.ofNat len), .null] 6)) (T11.setTop (mkF m 48 #[.val (.ref a), .val (.ref b), .val (.int (Int32.ofNat o)), .val (.int (Int32.ofNat len)), .val .null, .val (.ref s.heap.size)] [.int 0, .ref a])) := g11
  obtain ⟨T13, X13, p13, bl13, sl13, st13⟩ := X11.finit hexec hown (wk W (.fieldLink "java/lang/String" 15 "java/lang/String" "coder" "B")) (Or.inr ⟨_, (wk W (.laysFinal "java/lang/String" "java/lang/String" "coder" "B"))⟩) (Or.inl ⟨rfl, hnm⟩) f2 (Or.inl rfl) hB11 (t := .byte) (by decide +kernel) rfl (g := (mkF m 48 #[.val (.ref a), .val (.ref b), .val (.int (Int32.ofNat o)), .val (.int (Int32.ofNat len)), .val .null, .val (.ref s.heap.size)] [.int 0, .ref a])) rfl (rest := []) rfl (hb hbytes d48)
  have c14 : Steps p.tables e below (s₁.setTop (entryFrame m #[.ref a, .ref b, .int (Int32.ofNat o), .int (Int32.ofNat len), .null] 6)) (T13.setTop (mkF m 54 #[.val (.ref a), .val (.ref b), .val (.int (Int32.ofNat o)), .val (.int (Int32.ofNat len)), .val .null, .val (.ref s.heap.size)] [.ref s.heap.size, .ref a])) := (c12.trans (st13 _ (Steps.refl _))).trans (by
    refine XS.aloadN X13.here hexec rfl (hb hbytes d51) rfl rfl ?_
    refine XS.aload X13.here hexec rfl (hb hbytes d52) rfl rfl ?_
    exact Steps.refl _)
  obtain ⟨T15, X15, p15, bl15, sl15, st15⟩ := X13.finit hexec hown (wk W (.fieldLink "java/lang/String" 9 "java/lang/String" "value" "[B")) (Or.inr ⟨_, (wk W (.laysFinal "java/lang/String" "java/lang/String" "value" "[B"))⟩) (Or.inl ⟨rfl, hnm⟩) f1 (Or.inl rfl) bl13 (t := (.array .byte)) (by decide +kernel) rfl (g := (mkF m 54 #[.val (.ref a), .val (.ref b), .val (.int (Int32.ofNat o)), .val (.int (Int32.ofNat len)), .val .null, .val (.ref s.heap.size)] [.ref s.heap.size, .ref a])) rfl (rest := []) rfl (hb hbytes d54)
  have c16 : Steps p.tables e below (s₁.setTop (entryFrame m #[.ref a, .ref b, .int (Int32.ofNat o), .int (Int32.ofNat len), .null] 6)) (T15.setTop (mkF m 57 #[.val (.ref a), .val (.ref b), .val (.int (Int32.ofNat o)), .val (.int (Int32.ofNat len)), .val .null, .val (.ref s.heap.size)] [])) := c14.trans (st15 _ (Steps.refl _))
  have ap := apart (Or.inr ⟨_, (wk W (.laysFinal "java/lang/String" "java/lang/String" "value" "[B"))⟩) (Or.inr ⟨_, (wk W (.laysFinal "java/lang/String" "java/lang/String" "coder" "B"))⟩) f1 f2 (t₁ := .array .byte) (t₂ := .byte) (by decide +kernel) (by decide +kernel) (by decide)
  have al := X8.warmed.alike.symm.trans X15.warmed.alike
  have n7 : T11.heap[s.heap.size]? = some N := by rw [q11]; exact n1.1
  exact ⟨T15, none, _, _, _, X15, by simp, rfl, by omega, (fun _ => rfl), ⟨rfl, _, N, bl15, ((Same.refl D _).set _ (by simp)).set _ (by simp), sl15, (Cell.slots_setSlot_ne _ ap).trans sl13, n1.keep al (p15.other hne (p13.other hne n7)), n2, by rw [al.findClass]; exact n3, n4, n5, fun y c h1 h2 => p15.other h1 (p13.other h1 (by rw [q11]; exact n6 y c h2)), by rw [p15.2.2, p13.2.2, q11]; exact z8⟩, fun fs hl => c16.trans (X15.returnOut hexec hret (hb hbytes d57) hl)⟩
end New4
namespace New1
def yN : MethodName := ⟨"java/lang/String", "<init>", "([C)V"⟩
abbrev yB : ByteArray := jdk_42_method_3_code
theorem d0 : decode yB 0 = .ok (.aload_n 0, 1) := by decide +kernel
theorem d1 : decode yB 1 = .ok (.aload_n 1, 1) := by decide +kernel
theorem d2 : decode yB 2 = .ok (.iconst 0, 1) := by decide +kernel
theorem d3 : decode yB 3 = .ok (.aload_n 1, 1) := by decide +kernel
theorem d4 : decode yB 4 = .ok (.arraylength, 1) := by decide +kernel
theorem d5 : decode yB 5 = .ok (.aconst_null, 1) := by decide +kernel
theorem d6 : decode yB 6 = .ok (.invokespecial 27, 3) := by decide +kernel
theorem d9 : decode yB 9 = .ok (.return_, 1) := by decide +kernel
def site : List Cond := [New4.tab] ++ initW "java/lang/String" 27 New4.yN
def tab : Cond := tabOf yN yB 2 none site
def P (a : Addr) (D : Cell) (fV fC : Field) (b : Addr) (A : Cell) (z : Int32) (args : Array Value) (s : State) : Prop := args = #[.ref a, .ref b] ∧ Blank "java/lang/String" a D s ∧ Found "java/lang/String" "value" "[B" fV s ∧ Found "java/lang/String" "coder" "B" fC s ∧ Ch b A s ∧ StaticIs s "java/lang/String" "COMPACT_STRINGS" "Z" (.int z) ∧ ¬ z = 0 ∧ 0 < A.slots.size ∧ A.slots.size ≤ 536870912 ∧ ∀ i, i < A.slots.size → ¬ 255 < cv A i
def E (a : Addr) (D : Cell) (fV fC : Field) (A : Cell) (r : Option Value) (s u : State) : Prop := Got a D fV fC A 0 A.slots.size r s u
/-- new String(chars), not empty, no char above 255: a Latin-1 String of their low bytes -/
theorem law (l : Launch) (a : Addr) (D : Cell) (fV fC : Field) (b : Addr) (A : Cell) (z : Int32) : Law l yN 2 1 3 52 yB 2 none site (P a D fV fC b A z) (E a D fV fC A) [⟨a, fC.slot⟩, ⟨a, fV.slot⟩] 1 A.slots.size := by
  refine Law.of_walk (plainFor_of_name (by decide +kernel)) (by decide +kernel) (by decide +kernel) (by decide) (fun _ _ h => by rw [h.1]; rfl) (fun _ U U' hal hh h => ⟨h.1, h.2.1.mv hal hh, h.2.2.1.al hal, h.2.2.2.1.al hal, h.2.2.2.2.1.mv hal hh, h.2.2.2.2.2.1.there hal hh, h.2.2.2.2.2.2⟩) (fun r U U' V V' h1 hal h2 h => Got.mv r U U' V V' h1 hal h2 h) ?_
  intro p e s m args below meth c s₁ X0 hexec hbytes hml hret hlk hnm hown hh0 W hP
  obtain ⟨rfl, hB, f1, f2, hA, s1, hz, l0, l2, hp⟩ := hP
  have c1 : Steps p.tables e below (s₁.setTop (entryFrame m #[.ref a, .ref b] 2)) (s₁.setTop (mkF m 0 #[.val (.ref a), .val (.ref b)] [])) := entry rfl
  have c2 : Steps p.tables e below (s₁.setTop (entryFrame m #[.ref a, .ref b] 2)) (s₁.setTop (mkF m 6 #[.val (.ref a), .val (.ref b)] [.null, .int (Int32.ofNat A.slots.size), .int 0, .ref b, .ref a])) := c1.trans (by
    refine XS.aloadN X0.here hexec rfl (hb hbytes d0) rfl rfl ?_
    refine XS.aloadN X0.here hexec rfl (hb hbytes d1) rfl rfl ?_
    refine iconstV X0.here hexec rfl 0 (hb hbytes d2) (by decide) ?_
    refine XS.aloadN X0.here hexec rfl (hb hbytes d3) rfl rfl ?_
    refine X0.alen hexec (hA.1.mv X0.warmed.alike hh0) rfl rfl (hb hbytes d4) ?_
    refine XS.aconstNull X0.here hexec rfl (hb hbytes d5) ?_
    exact Steps.refl _)
  obtain ⟨v3, T3, X3, E3, g3⟩ := X0.callN hexec (New4.law l a D fV fC b A z 0 A.slots.size) rfl hown (wks W (initW "java/lang/String" 27 New4.yN)) (W New4.tab (by simp only [site, List.mem_cons, List.mem_append, true_or, or_true])) (W := 0) (Nat.le_of_ble_eq_true rfl) (Nat.le_of_ble_eq_true rfl) (Nat.le_refl _) (by show 0 + A.slots.size ≤ A.slots.size; omega) (g := (mkF m 6 #[.val (.ref a), .val (.ref b)] [.null, .int (Int32.ofNat A.slots.size), .int (Int32.ofNat 0), .ref b, .ref a])) rfl (by rw [hml]; rfl) c2 (argsL := [.ref b, .int (Int32.ofNat 0), .int (Int32.ofNat A.slots.size), .null]) (rest := []) rfl rfl (by show 2 * 0 + 0 ≤ _; decide) (hb hbytes d6) (⟨rfl, hB.mv X0.warmed.alike hh0, f1.al X0.warmed.alike, f2.al X0.warmed.alike, hA.mv X0.warmed.alike hh0, s1.there X0.warmed.alike hh0, hz, l0, by omega, l2, fun i hi => by rw [Nat.zero_add]; exact hp i hi⟩)
  have e0 := Got.mv _ s₁ s _ _ hh0.symm (Vm.Alike.refl _) rfl E3
  obtain rfl := e0.1
  have c4 : Steps p.tables e below (s₁.setTop (entryFrame m #[.ref a, .ref b] 2)) (T3.setTop (mkF m 9 #[.val (.ref a), .val (.ref b)] [])) := g3
  exact ⟨T3, none, _, _, _, X3, by simp, rfl, by omega, (fun _ => rfl), e0, fun fs hl => c4.trans (X3.returnOut hexec hret (hb hbytes d9) hl)⟩
theorem pays {l : Launch} {R : Room} {p : Program} {e : Env} {below : List Frame} {s : State} {sargs : Array Value} {len W : Nat} (a : Addr) (D : Cell) (fV fC : Field) (b : Addr) (A : Cell) (z : Int32) (htab : tab.before sargs s = true) (hfr : 4 ≤ R.frames) (hlo : W + 65 ≤ R.locals) :
    Back l R p e below s sargs yN len W (fun A₁ a₁ => A₁.cells + 1 ≤ R.cells ∧ A₁.slots + A.slots.size ≤ R.slots ∧ P a D fV fC b A z a₁ A₁.U) (fun A₁ _ v₁ B₁ => E a D fV fC A v₁ A₁.U B₁.U ∧ B₁.locs = A₁.locs ++ [⟨a, fC.slot⟩, ⟨a, fV.slot⟩] ∧ B₁.cells = A₁.cells + 1 ∧ B₁.slots = A₁.slots + A.slots.size) :=
  (law l a D fV fC b A z).pays htab hfr (by omega)
end New1
/-- the byte, read back as charAt reads it, is the char -/
theorem lo8_mask {x : Int32} (h0 : ¬ x < 0) (h1 : ¬ 255 < x) : lo8 x &&& 255 = x := by
  have t : ∀ k : Fin 256, lo8 (Int32.ofNat k.val) &&& 255 = Int32.ofNat k.val := by decide +kernel
  rw [Int32.lt_iff_toInt_lt] at h0 h1
  have e0 : (0 : Int32).toInt = 0 := rfl
  have e1 : (255 : Int32).toInt = 255 := rfl
  obtain ⟨k, hk⟩ : ∃ k : Nat, x.toInt = k := ⟨x.toInt.toNat, by omega⟩
  have hx : x = Int32.ofNat k := Int32.toInt_inj.mp (by rw [hk, Int32.toInt_ofNat_small (by omega)])
  rw [hx]
  exact t ⟨k, by omega⟩
end StrChars
namespace StrChars.Road
open Jvm Sem ClassFile Op Lib Jvm.Stand Jvm.Free Jvm.Free.XT
open Jvm.Lib.Cold (StaticIs)
abbrev ST : String := "java/lang/String"
/-- every table word that New1's law asks, flat -/
abbrev words : List Jvm.Cond := [.code New1.yN New1.yB 2 none, .initialized ST, .methodLink ST 27 New4.yN, .instanceMethod New4.yN,
  .code New4.yN New4.yB 6 none, .fieldLink ST 38 ST "COMPACT_STRINGS" "Z", .laysFinal ST ST "value" "[B", .fieldLink ST 9 ST "value" "[B", .laysFinal ST ST "coder" "B", .fieldLink ST 15 ST "coder" "B",
  .methodLink ST 1 Lib.objectInit, .instanceMethod Lib.objectInit, .code Lib.objectInit ⟨#[0xb1]⟩ 1 none, .methodLink ST 177 Cmp3.yN, .static Cmp3.yN, .methodLink ST 47 CodL.yN, .static CodL.yN,
  .code Cmp3.yN Cmp3.yB 6 (some (.array .byte)), .initialized U16, .arrayClass .byte, .methodLink U16 115 Cmp5.yN, .static Cmp5.yN, .code Cmp5.yN Cmp5.yB 7 (some .int), .code CodL.yN CodL.yB 2 (some .byte)]
theorem tab_of {a : Array Value} {s : State} (h : ∀ w ∈ words, w.before a s = true) : New1.tab.before a s = true := by
  have h5 : Cmp5.tab.before a s = true := unparts (wk h (.code Cmp5.yN Cmp5.yB 7 (some .int))) (wks h (.initialized Cmp5.yN.cls :: Cmp5.site))
  have hc : CodL.tab.before a s = true := unparts (wk h (.code CodL.yN CodL.yB 2 (some .byte))) (wks h (.initialized CodL.yN.cls :: CodL.site))
  have q5 : ∀ w ∈ Cmp5.tab :: words, w.before a s = true := fun w hw => (List.mem_cons.mp hw).elim (fun e => e ▸ h5) (h w)
  have h3 : Cmp3.tab.before a s = true := unparts (wk q5 (.code Cmp3.yN Cmp3.yB 6 (some (.array .byte)))) (wks q5 (.initialized Cmp3.yN.cls :: Cmp3.site))
  have q3 : ∀ w ∈ Cmp3.tab :: CodL.tab :: words, w.before a s = true := fun w hw => (List.mem_cons.mp hw).elim (fun e => e ▸ h3) fun hw => (List.mem_cons.mp hw).elim (fun e => e ▸ hc) (h w)
  have h4 : New4.tab.before a s = true := unparts (wk q3 (.code New4.yN New4.yB 6 none)) (wks q3 (.initialized New4.yN.cls :: New4.site))
  have q4 : ∀ w ∈ New4.tab :: words, w.before a s = true := fun w hw => (List.mem_cons.mp hw).elim (fun e => e ▸ h4) (h w)
  exact unparts (wk q4 (.code New1.yN New1.yB 2 none)) (wks q4 (.initialized New1.yN.cls :: New1.site))
/-- the words ride from the start Z to the walk's own state -/
theorem moved {Z s : State} {a0 args : Array Value} (hZ : Z.Warmed39 s.vm) (hw : ∀ d ∈ words, d.before a0 Z = true) : ∀ d ∈ words, d.before args s = true := fun d hd => by
  have q := hw d hd
  have t : ∀ d ∈ words, d = .arrayClass .byte ∨ (d.onTables && d.keepsFace) = true := by decide +kernel
  rcases t d hd with rfl | t
  · exact RoadKit.mvA hZ q
  · exact RoadKit.mv hZ q t
/-- WHAT COMES BACK, over the tables of the start Z: h the heap at the call, h' behind it -/
def Q (Z : State) (x : Addr) (A : Cell) (h : Heap) (v : Option Value) (h' : Heap) (L : List Loc) : Prop := v = none ∧ (∀ y ∈ L, y.base = x) ∧ RoadKit.Keep h h' [x] ∧ h'.size = h.size + 1 ∧ RoadKit.Exa Z h' x ST ∧ RoadKit.Fld Z h' x ST "value" "[B" (.ref h.size) ∧ RoadKit.Fld Z h' x ST "coder" "B" (.int 0) ∧
  (∃ V : Cell, RoadKit.Arr Z h' h.size V .byte ∧ V.vm = .none ∧ Z.vm.findClass "[B" = some V.cls ∧ V.slots.size = A.slots.size ∧ ∀ j, j < A.slots.size → V.slots[j]? = some (.int (lo8 (cv A j)))) ∧
  ∀ (O n d : String) (w : Value), RoadKit.Fld Z h x O n d w → RoadKit.slotOf Z O n d ≠ RoadKit.slotOf Z ST "value" "[B" → RoadKit.slotOf Z O n d ≠ RoadKit.slotOf Z ST "coder" "B" → RoadKit.Fld Z h' x O n d w
/-- **new String(chars) AT A CALL, IN THE ROAD'S FORM**: for specialBack behind newO: x the fresh String, b the char[] with the cell A -/
theorem back {p : Program} {l : Launch} {e : Env} {R : Room} {s : State} {args : Array Value} {below : List Frame} {len W : Nat} {Z : State} {a0 : Array Value} {h : Heap} (hZ : Z.Warmed39 s.vm) (hw : ∀ d ∈ words, d.before a0 Z = true) {kI : Nat} (wi : (Jvm.Cond.instantiable ST kI).before a0 Z = true)
    {x b : Addr} {A : Cell} {z : Int32} {v0 c0 : Value} (E : RoadKit.Exa Z h x ST) (V : RoadKit.Fld Z h x ST "value" "[B" v0) (C : RoadKit.Fld Z h x ST "coder" "B" c0) (K : RoadKit.Arr Z h b A .char) (hty : Typed .char A) (S : RoadKit.Sta Z h ST "COMPACT_STRINGS" "Z" (.int z)) (hz : ¬ z = 0)
    (l0 : 0 < A.slots.size) (l2 : A.slots.size ≤ 536870912) (hp : ∀ i, i < A.slots.size → ¬ 255 < cv A i) (hfr : 4 ≤ R.frames) (hlo : W + 65 ≤ R.locals) :
    Back l R p e below s args New1.yN len W (fun P a => a = #[.ref x, .ref b] ∧ P.U.heap = h ∧ P.cells + 1 ≤ R.cells ∧ P.slots + A.slots.size ≤ R.slots)
      (fun P _ v B => ∃ L, Q Z x A h v B.U.heap L ∧ B.locs = P.locs ++ L ∧ B.cells = P.cells + 1 ∧ B.slots = P.slots + A.slots.size) := by
  intro m meth c P g ig mk a X hg hsize hdg hW hn hp'
  obtain ⟨rfl, rfl, r1, r2⟩ := hp'
  have al : Z.vm.Alike P.U.vm := hZ.alike.trans X.warmed.alike
  obtain ⟨D, cfV, kV, iV, fV, hD, gV, stV, knV, obV, asV, slV⟩ := id V
  obtain ⟨D', cfC, kC, iC, fC, hD', gC, stC, -, -, asC, slC⟩ := id C
  cases hD.symm.trans hD'
  obtain ⟨D2, kD, e1, e2, e3, e4, e5⟩ := id E
  cases hD.symm.trans e1
  obtain ⟨c2, k2, i1, i2, i3, -⟩ := Cond.instantiable_spec wi
  cases e2.symm.trans i1
  cases e3.symm.trans i2
  obtain ⟨kU, u1, u2⟩ := al.2.2 _ _ e3
  have hB : Blank ST x D P.U := ⟨hD, ⟨knV, fun q hq => by rw [hq] at obV; cases obV⟩, by rw [al.findClass]; exact e2, kU, u1, by rw [u2]; exact i3, by rw [u2]; exact e5 i3⟩
  have F1 : Found ST "value" "[B" fV P.U := ⟨SBG.found_only al ⟨cfV, kV, iV, gV⟩, stV⟩
  have F2 : Found ST "coder" "B" fC P.U := ⟨SBG.found_only al ⟨cfC, kC, iC, gC⟩, stC⟩
  have hA : Ch b A P.U := ⟨⟨K.1, State.isArrayOf_alike al K.2.1, K.2.2, by omega⟩, hty⟩
  have hS : StaticIs P.U ST "COMPACT_STRINGS" "Z" (.int z) := by
    obtain ⟨cfS, iS, kS, fS, st, cS, t1, t2, t3, t4, t5, t6, t7⟩ := S
    exact StaticIs.there (s := { Z with heap := P.U.heap }) ⟨cfS, iS, kS, fS, st, cS, t1, t2, t3, t4, t5, (fun q => by rw [q] at t6; cases t6), t7⟩ al rfl
  obtain ⟨v, B, X', ⟨⟨hv, E', V', q1, q2, q3, q4, q5, q6, q7, q8, q9, q10, q11⟩, hl, hc, hs⟩, st⟩ := New1.pays x D fV fC b A z (tab_of (moved hZ hw)) hfr hlo m meth c P g ig mk _ X hg hsize hdg hW hn ⟨r1, r2, rfl, hB, F1, F2, hA, hS, hz, l0, l2, hp⟩
  have al' : Z.vm.Alike B.U.vm := hZ.alike.trans X'.warmed.alike
  have hsz : E'.slots.size = D.slots.size := by
    obtain ⟨-, -, -, kB, w1, w2, w3⟩ := q1
    obtain ⟨kB', y1, y2⟩ := al'.2.2 _ _ e3
    rw [q2.2.1] at w1
    cases w1.symm.trans y1
    rw [w3, e5 i3, y2]
  refine ⟨v, B, X', ⟨_, ⟨hv, ?_, ⟨by omega, fun y cy hy hn' => q10 y cy (by simpa using hn') hy, fun y cy hy => ?_⟩, q11, ⟨E', _, q1.1, by rw [q2.2.1]; exact e2, by rw [q2.2.1]; exact e3, by rw [q2.1]; exact obV, fun _ => by rw [hsz]; exact e5 i3⟩,
    ⟨E', cfV, kV, iV, fV, q1.1, gV, stV, by rw [q2.1]; exact knV, by rw [q2.1]; exact obV, by rw [q2.2.1]; exact asV, q3⟩, ⟨E', cfC, kC, iC, fC, q1.1, gC, stC, by rw [q2.1]; exact knV, by rw [q2.1]; exact obV, by rw [q2.2.1]; exact asC, q4⟩,
    ⟨V', ⟨q5.1, State.isArrayOf_alike al'.symm q5.2.1, q5.2.2.1⟩, q6, by rw [← al'.findClass]; exact q7, q8, fun j hj => by have := q9 j hj; rwa [Nat.zero_add] at this⟩, fun O n d w F n1 n2 => ?_⟩, hl, hc, hs⟩, st⟩
  · intro y hy
    simp only [List.mem_cons, List.not_mem_nil, or_false] at hy
    rcases hy with rfl | rfl <;> rfl
  · by_cases q : y = x
    · subst q
      cases hD.symm.trans hy
      exact ⟨E', q1.1, q2.2.1, q2.1, hsz⟩
    · exact ⟨cy, q10 y cy q hy, rfl, rfl, rfl⟩
  · obtain ⟨D3, cf, k, i, f, g1, g2, g3, g4, g5, g6, g7⟩ := F
    cases hD.symm.trans g1
    simp only [RoadKit.slotOf, g2, gV, gC, Option.map_some, Option.getD_some] at n1 n2
    exact ⟨E', cf, k, i, f, q1.1, g2, g3, by rw [q2.1]; exact g4, by rw [q2.1]; exact g5, by rw [q2.2.1]; exact g6, by rw [q2.2.2 f.slot (by simp [n1, n2])]; exact g7⟩
end StrChars.Road
namespace StrChars.Road
open Jvm Sem ClassFile Op Lib Jvm.Stand Jvm.Free Jvm.Free.XT
/-- WHAT COMES BACK, the byte[] as a list of values -/
def QA (Z : State) (x : Addr) (zn : Int32) (cs : List Int32) (h : Heap) (v : Option Value) (h' : Heap) (L : List Loc) : Prop := v = none ∧ (∀ y ∈ L, y.base = x) ∧ RoadKit.Keep h h' [x] ∧ h'.size = h.size + 1 ∧ RoadKit.Exa Z h' x ST ∧ RoadKit.Fld Z h' x ST "value" "[B" (.ref h.size) ∧ RoadKit.Fld Z h' x ST "coder" "B" (.int 0) ∧
  (∃ kb, Z.vm.findClass "[B" = some kb ∧ RoadKit.Arv Z h' h.size kb .byte zn (cs.map fun c => .int (lo8 c)) (.int 0)) ∧
  ∀ (O n d : String) (w : Value), RoadKit.Fld Z h x O n d w → RoadKit.slotOf Z O n d ≠ RoadKit.slotOf Z ST "value" "[B" → RoadKit.slotOf Z O n d ≠ RoadKit.slotOf Z ST "coder" "B" → RoadKit.Fld Z h' x O n d w
/-- **new String(chars) AT A CALL, THE ARRAYS AS LISTS**: the char[] at b holds cs, not empty, no char above 255 -/
theorem backArv {p : Program} {l : Launch} {e : Env} {R : Room} {s : State} {args : Array Value} {below : List Frame} {len W : Nat} {Z : State} {a0 : Array Value} {h : Heap} (hZ : Z.Warmed39 s.vm) (hw : ∀ d ∈ words, d.before a0 Z = true) {kI : Nat} (wi : (Jvm.Cond.instantiable ST kI).before a0 Z = true)
    {x b : Addr} {k : ClassId} {zn z : Int32} {cs : List Int32} {dv v0 c0 : Value} (E : RoadKit.Exa Z h x ST) (V : RoadKit.Fld Z h x ST "value" "[B" v0) (C : RoadKit.Fld Z h x ST "coder" "B" c0) (K : RoadKit.Arv Z h b k .char zn (cs.map Value.int) dv) (S : RoadKit.Sta Z h ST "COMPACT_STRINGS" "Z" (.int z)) (hz : ¬ z = 0)
    (hlen : zn.toNatClampNeg = cs.length) (h0 : 0 < cs.length) (hbig : cs.length ≤ 536870912) (hall : ∀ c ∈ cs, ¬ 255 < c) (hfr : 4 ≤ R.frames) (hlo : W + 65 ≤ R.locals) :
    Back l R p e below s args New1.yN len W (fun P a => a = #[.ref x, .ref b] ∧ P.U.heap = h ∧ P.cells + 1 ≤ R.cells ∧ P.slots + cs.length ≤ R.slots)
      (fun P _ v B => ∃ L, QA Z x zn cs h v B.U.heap L ∧ B.locs = P.locs ++ L ∧ B.cells = P.cells + 1 ∧ B.slots = P.slots + cs.length) := by
  obtain ⟨A, K1, K2, K3, K4, K5, K6⟩ := K
  have e : A.slots.size = cs.length := K3.trans hlen
  have hat : ∀ (i : Nat) (hi : i < cs.length), A.slots[i]? = some (.int cs[i]) := fun i hi => by rw [K5 i (by omega)]; simp [List.getD_eq_getElem?_getD, hi]
  have hcv : ∀ (i : Nat) (hi : i < cs.length), cv A i = cs[i] := fun i hi => by unfold cv; rw [hat i hi]
  have hty : Typed .char A := fun i v hv => by
    have hi : i < A.slots.size := (Array.getElem?_eq_some_iff.mp hv).1
    have q := K5 i hi
    rw [hv] at q
    rw [Option.some.inj q]
    exact K6 i hi
  refine Back.mono (back hZ hw wi E V C K1 hty S hz (by omega) (by omega) (fun i hi => by rw [hcv i (by omega)]; exact hall _ (List.getElem_mem _)) hfr hlo) (fun P a hp => ⟨hp.1, hp.2.1, hp.2.2.1, by rw [e]; exact hp.2.2.2⟩) (fun P a v B hp hq => ?_)
  obtain ⟨L, ⟨q1, q2, q3, q4, q5, q6, q7, ⟨V', v1, v2, v3, v4, v5⟩, q9⟩, hl, hc, hs⟩ := hq
  refine ⟨L, ⟨q1, q2, q3, q4, q5, q6, q7, ⟨V'.cls, v3, V', v1, rfl, by rw [v4, e, hlen], K4, fun i hi => ?_, fun i hi => ?_⟩, q9⟩, hl, hc, by rw [hs, e]⟩
  · have hi' : i < cs.length := by omega
    rw [v5 i (by omega), hcv i hi']; simp [List.getD_eq_getElem?_getD, hi']
  · have hi' : i < cs.length := by omega
    simp only [List.getD_eq_getElem?_getD, List.getElem?_map, List.getElem?_eq_getElem hi', Option.map_some, Option.getD_some]
    exact fits_lo8 _
end StrChars.Road
namespace StrChars.Road
open Jvm Sem ClassFile Op Lib Jvm.Stand Jvm.Free Jvm.Free.XT
/-- WHAT COMES BACK, in the writer's own shape -/
def QV (Z : State) (x : Addr) (N : Int32) (bs : List Int32) (h : Heap) (n0 : Nat) (v : Option Value) (h' : Heap) (L : List Loc) : Prop := v = none ∧ RoadKit.Fr n0 L ∧ RoadKit.Keep h h' [x] ∧ RoadKit.Exa Z h' x ST ∧ RoadKit.Fld Z h' x ST "coder" "B" (.int 0) ∧
  ∃ (t : Addr) (kb : ClassId), n0 ≤ t ∧ h.size ≤ t ∧ ¬ t = x ∧ RoadKit.Fld Z h' x ST "value" "[B" (.ref t) ∧ RoadKit.Arv Z h' t kb .byte N (bs.map Value.int) (.int 0)
/-- **new String(chars) AT A CALL, FOR THE WRITER**: a char[] of n known ints, each 0 to 255 -/
theorem backV {p : Program} {l : Launch} {e : Env} {R : Room} {s : State} {args : Array Value} {below : List Frame} {len W : Nat} {Z : State} {a0 : Array Value} {h : Heap} (hZ : Z.Warmed39 s.vm) (hw : ∀ d ∈ words, d.before a0 Z = true) {kI : Nat} (wi : (Jvm.Cond.instantiable ST kI).before a0 Z = true)
    {x b : Addr} {kC : ClassId} {cs bs : List Int32} {d v0 c0 : Value} {z N : Int32} {n n0 : Nat} (hx0 : n0 ≤ x) (hh0 : n0 ≤ h.size) (E : RoadKit.Exa Z h x ST) (V : RoadKit.Fld Z h x ST "value" "[B" v0) (C : RoadKit.Fld Z h x ST "coder" "B" c0) (K : RoadKit.Arv Z h b kC .char N (cs.map Value.int) d) (S : RoadKit.Sta Z h ST "COMPACT_STRINGS" "Z" (.int z)) (hz : ¬ z = 0)
    (hn : cs.length = n) (hN : N = Int32.ofNat n) (l0 : 0 < n) (l2 : n ≤ 4000) (hp : ∀ c ∈ cs, ¬ c < 0 ∧ ¬ (255 : Int32) < c) (hb : bs = cs.map (fun c => c.toInt8.toInt32)) (hfr : 4 ≤ R.frames) (hlo : W + 65 ≤ R.locals) :
    Back l R p e below s args (⟨"java/lang/String", "<init>", "([C)V"⟩ : MethodName) len W (fun P a => a = #[.ref x, .ref b] ∧ P.U.heap = h ∧ P.cells + 1 ≤ R.cells ∧ P.slots + n ≤ R.slots)
      (fun P _ v B => ∃ L, QV Z x N bs h n0 v B.U.heap L ∧ B.locs = P.locs ++ L ∧ B.cells = P.cells + 1 ∧ B.slots = P.slots + n) := by
  subst hn hN hb
  refine Back.mono (backArv hZ hw wi E V C K S hz (n32 (by omega)) l0 (by omega) (fun c hc => (hp c hc).2) hfr hlo) (fun P a hp => hp) (fun P a v B hp hq => ?_)
  obtain ⟨L, ⟨q1, q2, q3, q4, q5, q6, q7, ⟨kb, v1, v2⟩, q9⟩, hl, hc, hs⟩ := hq
  exact ⟨L, ⟨q1, fun y hy => by rw [q2 y hy]; exact hx0, q3, q5, q7, h.size, kb, hh0, Nat.le_refl _, Nat.ne_of_gt E.lt, q6, by rw [List.map_map]; exact v2⟩, hl, hc, hs⟩
end StrChars.Road
namespace StrChars
open Jvm Sem ClassFile Op Lib Jvm.Stand Jvm.Free.XT Jvm.Free.ALB Jvm.Free.JM Jvm.Free
open Jvm.Lib.Cold (StaticIs)
def hi8 (x : Int32) : Int32 := lo8 (x >>> ((8 : Int32) &&& 31))
/-- what StringUTF16.getChar makes of two bytes -/
def pairCh (u v : Int32) : Int32 := (((u &&& 255) <<< ((0 : Int32) &&& 31)) ||| ((v &&& 255) <<< ((8 : Int32) &&& 31))).toUInt32.toUInt16.toUInt32.toInt32
theorem lo8_and (x : Int32) : (lo8 x &&& 255).toBitVec.toNat = x.toBitVec.toNat % 256 := by
  have h : (lo8 x).toBitVec = (x.toBitVec.signExtend 8).signExtend 32 := by rw [lo8, Int8.toBitVec_toInt32, Int32.toBitVec_toInt8]
  rw [Int32.toBitVec_and, BitVec.toNat_and, h]
  have e : ((x.toBitVec.signExtend 8).signExtend 32).toNat % 256 = x.toBitVec.toNat % 256 := by
    rw [BitVec.toNat_signExtend]
    have hlt := x.toBitVec.isLt
    simp only [BitVec.toNat_setWidth, BitVec.toNat_signExtend]
    split <;> split <;> omega
  rw [← e]
  exact Nat.and_two_pow_sub_one_eq_mod _ 8
theorem pair_says {c : Int32} (h0 : ¬ c < 0) (h1 : ¬ 65535 < c) : pairCh (lo8 c) (hi8 c) = c := by
  rw [Int32.lt_iff_toInt_lt] at h0 h1
  have e0 : (0 : Int32).toInt = 0 := rfl
  have e1 : (65535 : Int32).toInt = 65535 := rfl
  have hc : c.toInt = c.toBitVec.toNat := by
    have := c.toBitVec.isLt
    have e : c.toInt = c.toBitVec.toInt := rfl
    rw [e] at h0 h1
    rw [e]
    rw [BitVec.toInt_eq_toNat_cond] at h0 h1 ⊢
    split at h0 <;> split <;> omega
  have hn : c.toBitVec.toNat < 65536 := by omega
  have a1 := lo8_and c
  have a2 : (hi8 c &&& 255).toBitVec.toNat = c.toBitVec.toNat / 256 := by
    rw [hi8, lo8_and]
    have e : ((8 : Int32) &&& 31) = 8 := by decide
    rw [e, Int32.toBitVec_shiftRight]
    have e2 : ((8 : Int32).toBitVec.smod 32) = 8#32 := by decide
    rw [e2, BitVec.sshiftRight_eq', BitVec.toNat_sshiftRight_of_msb_false (by rw [BitVec.msb_eq_false_iff_two_mul_lt]; omega)]
    show c.toBitVec.toNat >>> 8 % 256 = _
    rw [Nat.shiftRight_eq_div_pow]
    omega
  unfold pairCh
  apply Int32.toBitVec_inj.mp
  apply BitVec.eq_of_toNat_eq
  have f0 : ((0 : Int32) &&& 31) = 0 := by decide
  have f8 : ((8 : Int32) &&& 31) = 8 := by decide
  rw [f0, f8]
  have g : (((lo8 c &&& 255) <<< (0 : Int32)) ||| ((hi8 c &&& 255) <<< (8 : Int32))).toBitVec.toNat = c.toBitVec.toNat := by
    rw [Int32.toBitVec_or, Int32.toBitVec_shiftLeft, Int32.toBitVec_shiftLeft]
    have s0 : ((0 : Int32).toBitVec.smod 32) = 0#32 := by decide
    have s8 : ((8 : Int32).toBitVec.smod 32) = 8#32 := by decide
    rw [s0, s8, BitVec.toNat_or]
    simp only [BitVec.shiftLeft_eq', BitVec.toNat_shiftLeft, a1, a2]
    show (c.toBitVec.toNat % 256) <<< 0 % 2 ^ 32 ||| (c.toBitVec.toNat / 256) <<< 8 % 2 ^ 32 = _
    rw [Nat.shiftLeft_zero, Nat.mod_eq_of_lt (show c.toBitVec.toNat % 256 < 2 ^ 32 by omega), Nat.mod_eq_of_lt (show (c.toBitVec.toNat / 256) <<< 8 < 2 ^ 32 by rw [Nat.shiftLeft_eq]; omega), Nat.or_comm, ← Nat.shiftLeft_add_eq_or_of_lt (by omega), Nat.shiftLeft_eq]
    omega
  show BitVec.toNat (((((lo8 c &&& 255) <<< (0 : Int32)) ||| ((hi8 c &&& 255) <<< (8 : Int32))).toBitVec.setWidth 16).setWidth 32) = _
  rw [BitVec.toNat_setWidth, BitVec.toNat_setWidth, g]
  omega
end StrChars
namespace StrChars
open Jvm Sem ClassFile Op Lib Jvm.Stand Jvm.Free.XT Jvm.Free.ALB Jvm.Free.JM Jvm.Free
open Jvm.Lib.Cold (StaticIs)
/-- charAt's cast of a byte read back -/
def chr8 (u : Int32) : Int32 := (u &&& 255).toUInt32.toUInt16.toUInt32.toInt32
theorem chr8_lo8 {c : Int32} (h0 : ¬ c < 0) (h1 : ¬ 255 < c) : chr8 (lo8 c) = c := by
  have t : ∀ k : Fin 256, (Int32.ofNat k.val).toUInt32.toUInt16.toUInt32.toInt32 = Int32.ofNat k.val := by decide +kernel
  unfold chr8
  rw [lo8_mask h0 h1]
  rw [Int32.lt_iff_toInt_lt] at h0 h1
  have e0 : (0 : Int32).toInt = 0 := rfl
  have e1 : (255 : Int32).toInt = 255 := rfl
  obtain ⟨k, hk⟩ : ∃ k : Nat, c.toInt = k := ⟨c.toInt.toNat, by omega⟩
  have hx : c = Int32.ofNat k := Int32.toInt_inj.mp (by rw [hk, Int32.toInt_ofNat_small (by omega)])
  rw [hx]
  exact t ⟨k, by omega⟩
theorem narrow_ch {c : Int32} (h0 : ¬ c < 0) (h1 : ¬ 65535 < c) : narrow .char (.int c) = .int c := by
  have q : narrow .char (.int (pairCh (lo8 c) (hi8 c))) = .int (pairCh (lo8 c) (hi8 c)) := narrow_c _
  rwa [pair_says h0 h1] at q
/-- the array's cell V codes the n chars f 0 .. f (n - 1) by the coder cd, as the JDK does: coder 1 just where some char is above 255 -/
def Cod (cd : Int32) (n : Nat) (f : Nat → Int32) (V : Cell) : Prop := (cd = 0 ∧ V.slots.size = n ∧ ∀ j, j < n → V.slots[j]? = some (.int (lo8 (f j))) ∧ ¬ 255 < f j) ∨ (cd = 1 ∧ V.slots.size = 2 * n ∧ (∀ j, j < n → V.slots[2 * j]? = some (.int (lo8 (f j))) ∧ V.slots[2 * j + 1]? = some (.int (hi8 (f j)))) ∧ ∃ j, j < n ∧ 255 < f j)
theorem Cod.cd {cd : Int32} {n : Nat} {f : Nat → Int32} {V : Cell} (h : Cod cd n f V) : cd = 0 ∨ cd = 1 := h.imp (fun q => q.1) fun q => q.1
/-- **x is a String of the n chars f 0 .. f (n - 1)**, Latin-1 or UTF-16; its array at t has the cell V -/
def Txt (x t : Addr) (V : Cell) (cd : Int32) (n : Nat) (f : Nat → Int32) (U : State) : Prop := Exact "java/lang/String" x U ∧ Has x "java/lang/String" "value" "[B" (.ref t) U ∧ Has x "java/lang/String" "coder" "B" (.int cd) U ∧ XT.Arr .byte t V U ∧ Cod cd n f V ∧ ∀ j, j < n → ¬ f j < 0 ∧ ¬ 65535 < f j
theorem Txt.mv {x t : Addr} {V : Cell} {cd : Int32} {n : Nat} {f : Nat → Int32} {U U' : State} (h : Txt x t V cd n f U) (hal : U.vm.Alike U'.vm) (hh : U'.heap = U.heap) : Txt x t V cd n f U' := ⟨h.1.mv hal hh, h.2.1.mv hal hh, h.2.2.1.mv hal hh, h.2.2.2.1.mv hal hh, h.2.2.2.2⟩
namespace IsL
def yN : MethodName := ⟨"java/lang/String", "isLatin1", "()Z"⟩
abbrev yB : ByteArray := jdk_42_method_154_code
theorem d0 : decode yB 0 = .ok (.getstatic 38, 3) := by decide +kernel
theorem d3 : decode yB 3 = .ok (.ifCond (.eq) 14, 3) := by decide +kernel
theorem d6 : decode yB 6 = .ok (.aload_n 0, 1) := by decide +kernel
theorem d7 : decode yB 7 = .ok (.getfield 15, 3) := by decide +kernel
theorem d10 : decode yB 10 = .ok (.ifCond (.ne) 7, 3) := by decide +kernel
theorem d13 : decode yB 13 = .ok (.iconst 1, 1) := by decide +kernel
theorem d14 : decode yB 14 = .ok (.goto 4, 3) := by decide +kernel
theorem d17 : decode yB 17 = .ok (.iconst 0, 1) := by decide +kernel
theorem d18 : decode yB 18 = .ok (.ireturn, 1) := by decide +kernel
def site : List Cond := [.fieldLink "java/lang/String" 38 "java/lang/String" "COMPACT_STRINGS" "Z", .fieldLink "java/lang/String" 15 "java/lang/String" "coder" "B"]
def tab : Cond := tabOf yN yB 1 (some .boolean) site
def P (x : Addr) (cd z : Int32) (args : Array Value) (s : State) : Prop := args = #[.ref x] ∧ Has x "java/lang/String" "coder" "B" (.int cd) s ∧ (cd = 0 ∨ cd = 1) ∧ StaticIs s "java/lang/String" "COMPACT_STRINGS" "Z" (.int z) ∧ ¬ z = 0
def E (cd : Int32) (r : Option Value) (s u : State) : Prop := XT.PureE (some (.int (1 - cd))) r s u
theorem law (l : Launch) (x : Addr) (cd z : Int32) : Law l yN 1 0 0 0 yB 1 (some .boolean) site (P x cd z) (E cd) [] 0 0 := by
  refine Law.of_walk (plainFor_of_name (by decide +kernel)) (by decide +kernel) (by decide +kernel) (by decide) (fun _ _ h => by rw [h.1]; rfl) (fun _ U U' hal hh h => ⟨h.1, h.2.1.mv hal hh, h.2.2.1, h.2.2.2.1.there hal hh, h.2.2.2.2⟩) (fun r U U' V V' h1 hal h2 h => XT.PureE.mv r U U' V V' h1 hal h2 h) ?_
  intro p e s m args below meth c s₁ X0 hexec hbytes hml hret hlk hnm hown hh0 W hP
  obtain ⟨rfl, hx, hc, s1, hz⟩ := hP
  have c1 : Steps p.tables e below (s₁.setTop (entryFrame m #[.ref x] 1)) (s₁.setTop (mkF m 0 #[.val (.ref x)] [])) := entry rfl
  obtain ⟨T2, X2, q2, st2⟩ := X0.sget hexec hown (wk W (.fieldLink "java/lang/String" 38 "java/lang/String" "COMPACT_STRINGS" "Z")) s1 (fun _ _ h => by rw [hh0]; exact h) (g := (mkF m 0 #[.val (.ref x)] [])) rfl (hb hbytes d0)
  have hh2 := q2.trans hh0
  have c3 : Steps p.tables e below (s₁.setTop (entryFrame m #[.ref x] 1)) (T2.setTop (mkF m 7 #[.val (.ref x)] [.ref x])) := (c1.trans (st2 _ (Steps.refl _))).trans (by
    refine XS.ifNo X2.here hexec rfl (hb hbytes d3) rfl (i0_eq_f hz) ?_
    refine XS.aloadN X2.here hexec rfl (hb hbytes d6) rfl rfl ?_
    exact Steps.refl _)
  obtain ⟨T4, X4, q4, st4⟩ := X2.hget hexec hown (wk W (.fieldLink "java/lang/String" 15 "java/lang/String" "coder" "B")) (hx.mv X2.warmed.alike hh2) (g := (mkF m 7 #[.val (.ref x)] [.ref x])) rfl (rest := []) rfl (hb hbytes d7)
  have c5 : Steps p.tables e below (s₁.setTop (entryFrame m #[.ref x] 1)) (T4.setTop (mkF m 10 #[.val (.ref x)] [.int cd])) := c3.trans (st4 _ (Steps.refl _))
  have c6 : Steps p.tables e below (s₁.setTop (entryFrame m #[.ref x] 1)) (T4.setTop (mkF m 18 #[.val (.ref x)] [.int (1 - cd)])) := by
    rcases hc with rfl | rfl
    · exact c5.trans (by
        refine XS.ifNo X4.here hexec rfl (hb hbytes d10) rfl (i0_ne_f rfl) ?_
        refine iconstV X4.here hexec rfl 1 (hb hbytes d13) (by decide) ?_
        refine XS.goto X4.here hexec rfl (pc0 := 14) rfl (hb hbytes d14) (by decide) rfl ?_
        exact Steps.refl _)
    · exact c5.trans (by
        refine XS.ifYes X4.here hexec rfl (pc0 := 10) rfl (hb hbytes d10) rfl (i0_ne_t (by decide)) (by decide) rfl ?_
        refine iconstV X4.here hexec rfl 0 (hb hbytes d17) (by decide) ?_
        exact Steps.refl _)
  exact ⟨T4, some (.int (1 - cd)), _, _, _, X4, rfl, rfl, rfl, (fun h => by cases h), ⟨rfl, q4.trans hh2⟩, fun fs hl => c6.trans (X4.ireturnOut hexec hret (by rcases hc with rfl | rfl <;> rfl) (Or.inr (Or.inl rfl)) (hb hbytes d18) hl)⟩
end IsL
namespace LChA
def yN : MethodName := ⟨"java/lang/StringLatin1", "charAt", "([BI)C"⟩
abbrev yB : ByteArray := jdk_43_method_2_code
theorem d0 : decode yB 0 = .ok (.iload_n 1, 1) := by decide +kernel
theorem d1 : decode yB 1 = .ok (.aload_n 0, 1) := by decide +kernel
theorem d2 : decode yB 2 = .ok (.arraylength, 1) := by decide +kernel
theorem d3 : decode yB 3 = .ok (.invokestatic 9, 3) := by decide +kernel
theorem d6 : decode yB 6 = .ok (.aload_n 0, 1) := by decide +kernel
theorem d7 : decode yB 7 = .ok (.iload_n 1, 1) := by decide +kernel
theorem d8 : decode yB 8 = .ok (.baload, 1) := by decide +kernel
theorem d9 : decode yB 9 = .ok (.sipush 255, 3) := by decide +kernel
theorem d12 : decode yB 12 = .ok (.iand, 1) := by decide +kernel
theorem d13 : decode yB 13 = .ok (.i2c, 1) := by decide +kernel
theorem d14 : decode yB 14 = .ok (.ireturn, 1) := by decide +kernel
def site : List Cond := [JO.Str_checkIndex.tab] ++ staticW "java/lang/StringLatin1" 9 JO.Str_checkIndex.yN
def tab : Cond := tabOf yN yB 2 (some .char) site
def P (t : Addr) (V : Cell) (i : Nat) (u : Int32) (fm : Value) (args : Array Value) (s : State) : Prop := args = #[.ref t, .int (Int32.ofNat i)] ∧ XT.Arr .byte t V s ∧ V.slots[i]? = some (.int u) ∧ (StaticIs s "jdk/internal/util/Preconditions" "SIOOBE_FORMATTER" "Ljava/util/function/BiFunction;" fm ∧ fm.isRef = true)
def E (u : Int32) (r : Option Value) (s w : State) : Prop := XT.PureE (some (.int (chr8 u))) r s w
theorem law (l : Launch) (t : Addr) (V : Cell) (i : Nat) (u : Int32) (fm : Value) : Law l yN 2 2 2 27 yB 2 (some .char) site (P t V i u fm) (E u) [] 0 0 := by
  refine Law.of_walk (plainFor_of_name (by decide +kernel)) (by decide +kernel) (by decide +kernel) (by decide) (fun _ _ h => by rw [h.1]; rfl) (fun _ U U' hal hh h => ⟨h.1, h.2.1.mv hal hh, h.2.2.1, h.2.2.2.1.there hal hh, h.2.2.2.2⟩) (fun r U U' V V' h1 hal h2 h => XT.PureE.mv r U U' V V' h1 hal h2 h) ?_
  intro p e s m args below meth c s₁ X0 hexec hbytes hml hret hlk hnm hown hh0 W hP
  obtain ⟨rfl, hV, hu, s1, rf⟩ := hP
  have v31 := hV.2.2.2
  have hi : i < V.slots.size := (Array.getElem?_eq_some_iff.mp hu).1
  have c1 : Steps p.tables e below (s₁.setTop (entryFrame m #[.ref t, .int (Int32.ofNat i)] 2)) (s₁.setTop (mkF m 0 #[.val (.ref t), .val (.int (Int32.ofNat i))] [])) := entry rfl
  have c2 : Steps p.tables e below (s₁.setTop (entryFrame m #[.ref t, .int (Int32.ofNat i)] 2)) (s₁.setTop (mkF m 3 #[.val (.ref t), .val (.int (Int32.ofNat i))] [.int (Int32.ofNat V.slots.size), .int (Int32.ofNat i)])) := c1.trans (by
    refine XS.iloadN X0.here hexec rfl (hb hbytes d0) rfl ?_
    refine XS.aloadN X0.here hexec rfl (hb hbytes d1) rfl rfl ?_
    refine X0.alen hexec (hV.mv X0.warmed.alike hh0) rfl rfl (hb hbytes d2) ?_
    exact Steps.refl _)
  obtain ⟨v3, T3, X3, E3, g3⟩ := X0.callS hexec (JO.Str_checkIndex.law l (Int32.ofNat i) (Int32.ofNat V.slots.size) fm) hown (wks W (staticW "java/lang/StringLatin1" 9 JO.Str_checkIndex.yN)) (wk W JO.Str_checkIndex.tab) (W := 0) (Nat.le_of_ble_eq_true rfl) (Nat.le_of_ble_eq_true rfl) (Nat.le_refl _) (Nat.le_refl _) (g := (mkF m 3 #[.val (.ref t), .val (.int (Int32.ofNat i))] [.int (Int32.ofNat V.slots.size), .int (Int32.ofNat i)])) rfl (by rw [hml]; rfl) c2 (argsL := [.int (Int32.ofNat i), .int (Int32.ofNat V.slots.size)]) (rest := []) rfl rfl (by show 2 * 0 + 0 ≤ _; decide) (hb hbytes d3) (⟨rfl, rf, s1.there X0.warmed.alike hh0, Int32.ofNat_not_neg (by omega), lt32 v31 hi⟩)
  obtain ⟨rfl, q3⟩ := E3
  have hh3 := q3.trans hh0
  have c4 : Steps p.tables e below (s₁.setTop (entryFrame m #[.ref t, .int (Int32.ofNat i)] 2)) (T3.setTop (mkF m 14 #[.val (.ref t), .val (.int (Int32.ofNat i))] [.int (chr8 u)])) := Steps.trans g3 (by
    refine XS.aloadN X3.here hexec rfl (hb hbytes d6) rfl rfl ?_
    refine XS.iloadN X3.here hexec rfl (hb hbytes d7) rfl ?_
    refine X3.aget hexec (hV.mv X3.warmed.alike hh3) rfl hu rfl rfl (hb hbytes d8) ?_
    refine sipushV X3.here hexec rfl 255 (hb hbytes d9) (by decide) ?_
    refine XS.iand X3.here hexec rfl (hb hbytes d12) rfl ?_
    refine i2c X3.here hexec rfl (hb hbytes d13) rfl ?_
    exact Steps.refl _)
  exact ⟨T3, some (.int (chr8 u)), _, _, _, X3, rfl, rfl, rfl, (fun h => by cases h), ⟨rfl, hh3⟩, fun fs hl => c4.trans (X3.ireturnOut hexec hret (narrow_c _) (Or.inr (Or.inr (Or.inr (Or.inl rfl)))) (hb hbytes d14) hl)⟩
end LChA
end StrChars
namespace StrChars.Road
open Jvm Sem ClassFile Op Lib Jvm.Stand Jvm.Free Jvm.Free.XT
open Jvm.Lib.Cold (StaticIs)
theorem consq {a : Array Value} {s : State} {c : Jvm.Cond} {L : List Jvm.Cond} (h0 : c.before a s = true) (h : ∀ w ∈ L, w.before a s = true) : ∀ w ∈ c :: L, w.before a s = true := fun w hw => (List.mem_cons.mp hw).elim (fun e => e ▸ h0) (h w)
/-- the bytes of the chars cs, low before high -/
def wideBytes : List Int32 → List Value
  | [] => []
  | c :: cs => .int (lo8 c) :: .int (hi8 c) :: wideBytes cs
theorem wide_lo (d : Value) : ∀ (cs : List Int32) (j : Nat), j < cs.length → (wideBytes cs).getD (2 * j) d = .int (lo8 (cs.getD j 0))
  | [], j, h => absurd h (Nat.not_lt_zero j)
  | c :: cs, 0, _ => rfl
  | c :: cs, j + 1, h => by
    have q := wide_lo d cs j (by simpa using h)
    rw [show 2 * (j + 1) = 2 * j + 1 + 1 from by omega]
    simpa [wideBytes] using q
theorem wide_hi (d : Value) : ∀ (cs : List Int32) (j : Nat), j < cs.length → (wideBytes cs).getD (2 * j + 1) d = .int (hi8 (cs.getD j 0))
  | [], j, h => absurd h (Nat.not_lt_zero j)
  | c :: cs, 0, _ => rfl
  | c :: cs, j + 1, h => by
    have q := wide_hi d cs j (by simpa using h)
    rw [show 2 * (j + 1) + 1 = 2 * j + 1 + 1 + 1 from by omega]
    simpa [wideBytes] using q
theorem low_at (d : Value) (cs : List Int32) (j : Nat) (h : j < cs.length) : (cs.map fun c => Value.int (lo8 c)).getD j d = .int (lo8 (cs.getD j 0)) := by
  simp [List.getD_eq_getElem?_getD, h]
/-- an array of N2 bytes vs codes the chars cs by the coder cd -/
def CodA (cs : List Int32) (cd N2 : Int32) (vs : List Value) : Prop := (cd = 0 ∧ N2 = Int32.ofNat cs.length ∧ vs = (cs.map fun c => Value.int (lo8 c)) ∧ ∀ c ∈ cs, ¬ 255 < c) ∨ (cd = 1 ∧ N2 = Int32.ofNat (2 * cs.length) ∧ vs = wideBytes cs ∧ ∃ c ∈ cs, 255 < c)
theorem CodA.cod {cs : List Int32} {cd N2 : Int32} {vs : List Value} {V : Cell} (h : CodA cs cd N2 vs) (hn : 2 * cs.length < 2 ^ 31) (hs : V.slots.size = N2.toNatClampNeg) (hv : RoadKit.Has V vs (.int 0)) : Cod cd cs.length (fun j => cs.getD j 0) V := by
  rcases h with ⟨rfl, rfl, rfl, h⟩ | ⟨rfl, rfl, rfl, c, hc, hw⟩
  · rw [n32 (by omega)] at hs
    exact Or.inl ⟨rfl, hs, fun j hj => ⟨by rw [hv j (by omega), low_at _ _ _ hj], by
      have e : cs.getD j 0 = cs[j] := by simp [List.getD_eq_getElem?_getD, hj]
      show ¬ 255 < cs.getD j 0
      rw [e]; exact h _ (List.getElem_mem _)⟩⟩
  · rw [n32 (by omega)] at hs
    obtain ⟨j, hj, rfl⟩ := List.getElem_of_mem hc
    exact Or.inr ⟨rfl, hs, fun j hj => ⟨by rw [hv _ (by omega), wide_lo _ _ _ hj], by rw [hv _ (by omega), wide_hi _ _ _ hj]⟩, j, hj, by
      have e : cs.getD j 0 = cs[j] := by simp [List.getD_eq_getElem?_getD, hj]
      show 255 < cs.getD j 0
      rw [e]; exact hw⟩
/-- an object of exactly java/lang/String, its two fields found: as the laws ask it -/
theorem strObj {Z U : State} {a0 : Array Value} {kI : Nat} (wi : (Jvm.Cond.instantiable ST kI).before a0 Z = true) (al : Z.vm.Alike U.vm) {x : Addr} {v0 c0 : Value} (E : RoadKit.Exa Z U.heap x ST) (V : RoadKit.Fld Z U.heap x ST "value" "[B" v0) (C : RoadKit.Fld Z U.heap x ST "coder" "B" c0) :
    ∃ (D : Cell) (fV fC : Field), Blank ST x D U ∧ Found ST "value" "[B" fV U ∧ Found ST "coder" "B" fC U ∧ D.slots[fV.slot]? = some v0 ∧ D.slots[fC.slot]? = some c0 ∧ RoadKit.slotOf Z ST "value" "[B" = fV.slot ∧ RoadKit.slotOf Z ST "coder" "B" = fC.slot := by
  obtain ⟨D, cfV, kV, iV, fV, hD, gV, stV, knV, obV, asV, slV⟩ := V
  obtain ⟨D', cfC, kC, iC, fC, hD', gC, stC, -, -, asC, slC⟩ := C
  cases hD.symm.trans hD'
  obtain ⟨D2, kD, e1, e2, e3, e4, e5⟩ := E
  cases hD.symm.trans e1
  obtain ⟨c2, k2, i1, i2, i3, -⟩ := Cond.instantiable_spec wi
  cases e2.symm.trans i1
  cases e3.symm.trans i2
  obtain ⟨kU, u1, u2⟩ := al.2.2 _ _ e3
  exact ⟨D, fV, fC, ⟨hD, ⟨knV, fun q hq => by rw [hq] at obV; cases obV⟩, by rw [al.findClass]; exact e2, kU, u1, by rw [u2]; exact i3, by rw [u2]; exact e5 i3⟩, ⟨SBG.found_only al ⟨cfV, kV, iV, gV⟩, stV⟩, ⟨SBG.found_only al ⟨cfC, kC, iC, gC⟩, stC⟩, slV, slC, by simp [RoadKit.slotOf, gV], by simp [RoadKit.slotOf, gC]⟩
theorem sta_is {Z U : State} (al : Z.vm.Alike U.vm) {C n d : String} {v : Value} (S : RoadKit.Sta Z U.heap C n d v) : StaticIs U C n d v := by
  obtain ⟨cfS, iS, kS, fS, st, cS, t1, t2, t3, t4, t5, t6, t7⟩ := S
  exact StaticIs.there (s := { Z with heap := U.heap }) ⟨cfS, iS, kS, fS, st, cS, t1, t2, t3, t4, t5, (fun q => by rw [q] at t6; cases t6), t7⟩ al rfl
end StrChars.Road
namespace StrChars.Road
open Jvm Sem ClassFile Op Lib Jvm.Stand Jvm.Free Jvm.Free.XT
open Jvm.Lib.Cold (StaticIs)
/-- the road's facts of a String, as the laws ask it -/
theorem txt_of {Z U : State} {a0 : Array Value} {kI : Nat} (wi : (Jvm.Cond.instantiable ST kI).before a0 Z = true) (al : Z.vm.Alike U.vm) {x t : Addr} {kb : ClassId} {cs : List Int32} {cd N2 : Int32} {vs : List Value} (E : RoadKit.Exa Z U.heap x ST) (V : RoadKit.Fld Z U.heap x ST "value" "[B" (.ref t)) (C : RoadKit.Fld Z U.heap x ST "coder" "B" (.int cd)) (K : RoadKit.Arv Z U.heap t kb .byte N2 vs (.int 0)) (hc : CodA cs cd N2 vs) (hb : ∀ c ∈ cs, ¬ c < 0 ∧ ¬ (65535 : Int32) < c) (l2 : cs.length ≤ 4000) :
    ∃ A, Txt x t A cd cs.length (fun j => cs.getD j 0) U := by
  obtain ⟨A, K1, K2, K3, K4, K5, K6⟩ := K
  have hcod := hc.cod (by omega) K3 K5
  obtain ⟨D, fV, fC, hB, F1, F2, g1, g2, -, -⟩ := strObj wi al E V C
  exact ⟨A, ⟨_, hB.2.2.1, D, hB.1, rfl, by cases q : D.vm <;> first | rfl | exact absurd q (hB.2.1.2 _)⟩, Has.of hB F1 g1, Has.of hB F2 g2, ⟨K1.1, State.isArrayOf_alike al K1.2.1, K1.2.2, by rcases hcod with ⟨-, q, -⟩ | ⟨-, q, -⟩ <;> omega⟩, hcod, fun j hj => by
    have e : cs.getD j 0 = cs[j] := by simp [List.getD_eq_getElem?_getD, hj]
    show ¬ cs.getD j 0 < 0 ∧ ¬ 65535 < cs.getD j 0
    rw [e]; exact hb _ (List.getElem_mem _)⟩
end StrChars.Road
namespace StrChars
open Jvm Sem ClassFile Op Lib Jvm.Stand Jvm.Free.XT Jvm.Free.ALB Jvm.Free.JM Jvm.Free
open Jvm.Lib.Cold (StaticIs)
namespace ChN
def yN : MethodName := ⟨"java/lang/String", "charAt", "(I)C"⟩
abbrev yB : ByteArray := jdk_42_method_56_code
theorem d0 : decode yB 0 = .ok (.aload_n 0, 1) := by decide +kernel
theorem d1 : decode yB 1 = .ok (.invokevirtual 492, 3) := by decide +kernel
theorem d4 : decode yB 4 = .ok (.ifCond (.eq) 12, 3) := by decide +kernel
theorem d7 : decode yB 7 = .ok (.aload_n 0, 1) := by decide +kernel
theorem d8 : decode yB 8 = .ok (.getfield 9, 3) := by decide +kernel
theorem d11 : decode yB 11 = .ok (.iload_n 1, 1) := by decide +kernel
theorem d12 : decode yB 12 = .ok (.invokestatic 495, 3) := by decide +kernel
theorem d15 : decode yB 15 = .ok (.ireturn, 1) := by decide +kernel
def site : List Cond := [.fieldLink "java/lang/String" 9 "java/lang/String" "value" "[B", IsL.tab, LChA.tab] ++ virtW "java/lang/String" 492 "java/lang/String" IsL.yN IsL.yN ++ staticW "java/lang/String" 495 LChA.yN
def tab : Cond := tabOf yN yB 2 (some .char) site
def P (x t : Addr) (V : Cell) (n : Nat) (f : Nat → Int32) (z : Int32) (fm : Value) (i : Nat) (args : Array Value) (s : State) : Prop := args = #[.ref x, .int (Int32.ofNat i)] ∧ Txt x t V 0 n f s ∧ i < n ∧ StaticIs s "java/lang/String" "COMPACT_STRINGS" "Z" (.int z) ∧ ¬ z = 0 ∧ StaticIs s "jdk/internal/util/Preconditions" "SIOOBE_FORMATTER" "Ljava/util/function/BiFunction;" fm ∧ fm.isRef = true
def E (f : Nat → Int32) (i : Nat) (r : Option Value) (s u : State) : Prop := XT.PureE (some (.int (f i))) r s u
/-- charAt(i) of a Latin-1 String of n chars, i < n: f i -/
theorem law (l : Launch) (x t : Addr) (V : Cell) (n : Nat) (f : Nat → Int32) (z : Int32) (fm : Value) (i : Nat) : Law l yN 2 1 3 40 yB 2 (some .char) site (P x t V n f z fm i) (E f i) [] 0 0 := by
  refine Law.of_walk (plainFor_of_name (by decide +kernel)) (by decide +kernel) (by decide +kernel) (by decide) (fun _ _ h => by rw [h.1]; rfl) (fun _ U U' hal hh h => ⟨h.1, h.2.1.mv hal hh, h.2.2.1, h.2.2.2.1.there hal hh, h.2.2.2.2.1, h.2.2.2.2.2.1.there hal hh, h.2.2.2.2.2.2⟩) (fun r U U' V V' h1 hal h2 h => XT.PureE.mv r U U' V V' h1 hal h2 h) ?_
  intro p e s m args below meth c s₁ X0 hexec hbytes hml hret hlk hnm hown hh0 W hP
  obtain ⟨rfl, hx, hi, s1, hz, s3, rf⟩ := hP
  have v31 := hx.2.2.2.1.2.2.2
  have hr := hx.2.2.2.2.2 i hi
  have hx0 := hx.mv X0.warmed.alike hh0
  have c1 : Steps p.tables e below (s₁.setTop (entryFrame m #[.ref x, .int (Int32.ofNat i)] 2)) (s₁.setTop (mkF m 1 #[.val (.ref x), .val (.int (Int32.ofNat i))] [.ref x])) := Steps.trans (entry rfl) (by
    show Steps p.tables e below (s₁.setTop (mkF m 0 #[.val (.ref x), .val (.int (Int32.ofNat i))] [])) _
    refine XS.aloadN X0.here hexec rfl (hb hbytes d0) rfl rfl ?_
    exact Steps.refl _)
  obtain ⟨v2, T2, X2, E2, g2⟩ := X0.callV hexec (IsL.law l x 0 z) hown (wks W (virtW "java/lang/String" 492 "java/lang/String" IsL.yN IsL.yN)) rfl (by decide) (wk W IsL.tab) (W := 0) (Nat.le_of_ble_eq_true rfl) (Nat.le_of_ble_eq_true rfl) (Nat.le_refl _) (Nat.le_refl _) (hx0.1.fc X0.warmed.alike) hx0.1.is (g := (mkF m 1 #[.val (.ref x), .val (.int (Int32.ofNat i))] [.ref x])) rfl (by rw [hml]; rfl) c1 (argsL := []) (rest := []) rfl rfl (by show 2 * 0 + 0 ≤ _; decide) (hb hbytes d1) (⟨rfl, hx0.2.2.1, hx.2.2.2.2.1.cd, s1.there X0.warmed.alike hh0, hz⟩)
  obtain ⟨rfl, q2⟩ := E2
  have hh2 := q2.trans hh0
  have hx2 := hx.mv X2.warmed.alike hh2
  obtain ⟨-, k1, k2⟩ | ⟨k0, -⟩ := hx.2.2.2.2.1
  · have c3 : Steps p.tables e below (s₁.setTop (entryFrame m #[.ref x, .int (Int32.ofNat i)] 2)) (T2.setTop (mkF m 8 #[.val (.ref x), .val (.int (Int32.ofNat i))] [.ref x])) := Steps.trans g2 (by
      refine XS.ifNo X2.here hexec rfl (hb hbytes d4) rfl (i0_eq_f (by decide)) ?_
      refine XS.aloadN X2.here hexec rfl (hb hbytes d7) rfl rfl ?_
      exact Steps.refl _)
    obtain ⟨T4, X4, q4, st4⟩ := X2.hget hexec hown (wk W (.fieldLink "java/lang/String" 9 "java/lang/String" "value" "[B")) hx2.2.1 (g := (mkF m 8 #[.val (.ref x), .val (.int (Int32.ofNat i))] [.ref x])) rfl (rest := []) rfl (hb hbytes d8)
    have hh4 := q4.trans hh2
    have c5 : Steps p.tables e below (s₁.setTop (entryFrame m #[.ref x, .int (Int32.ofNat i)] 2)) (T4.setTop (mkF m 12 #[.val (.ref x), .val (.int (Int32.ofNat i))] [.int (Int32.ofNat i), .ref t])) := (c3.trans (st4 _ (Steps.refl _))).trans (by
      refine XS.iloadN X4.here hexec rfl (hb hbytes d11) rfl ?_
      exact Steps.refl _)
    obtain ⟨v6, T6, X6, E6, g6⟩ := X4.callS hexec (LChA.law l t V i (lo8 (f i)) fm) hown (wks W (staticW "java/lang/String" 495 LChA.yN)) (wk W LChA.tab) (W := 0) (Nat.le_of_ble_eq_true rfl) (Nat.le_of_ble_eq_true rfl) (Nat.le_refl _) (Nat.le_refl _) (g := (mkF m 12 #[.val (.ref x), .val (.int (Int32.ofNat i))] [.int (Int32.ofNat i), .ref t])) rfl (by rw [hml]; rfl) c5 (argsL := [.ref t, .int (Int32.ofNat i)]) (rest := []) rfl rfl (by show 2 * 0 + 0 ≤ _; decide) (hb hbytes d12) (⟨rfl, hx.2.2.2.1.mv X4.warmed.alike hh4, (k2 i hi).1, s3.there X4.warmed.alike hh4, rf⟩)
    obtain ⟨rfl, q6⟩ := E6
    rw [chr8_lo8 hr.1 (k2 i hi).2] at g6
    exact ⟨T6, some (.int (f i)), _, _, _, X6, rfl, rfl, rfl, (fun h => by cases h), ⟨rfl, q6.trans hh4⟩, fun fs hl => Steps.trans g6 (X6.ireturnOut hexec hret (narrow_ch hr.1 hr.2) (Or.inr (Or.inr (Or.inr (Or.inl rfl)))) (hb hbytes d15) hl)⟩
  · exact absurd k0 (by decide)
theorem pays {l : Launch} {R : Room} {p : Program} {e : Env} {below : List Frame} {s : State} {sargs : Array Value} {len W : Nat} (x t : Addr) (V : Cell) (n : Nat) (f : Nat → Int32) (z : Int32) (fm : Value) (i : Nat) (htab : tab.before sargs s = true) (hfr : 4 ≤ R.frames) (hlo : W + 53 ≤ R.locals) :
    Back l R p e below s sargs yN len W (fun A₁ a₁ => A₁.cells + 0 ≤ R.cells ∧ A₁.slots + 0 ≤ R.slots ∧ P x t V n f z fm i a₁ A₁.U) (fun A₁ _ v₁ B₁ => E f i v₁ A₁.U B₁.U ∧ B₁.locs = A₁.locs ++ [] ∧ B₁.cells = A₁.cells + 0 ∧ B₁.slots = A₁.slots + 0) :=
  (law l x t V n f z fm i).pays htab hfr (by omega)
end ChN
end StrChars
namespace StrChars.Road
open Jvm Sem ClassFile Op Lib Jvm.Stand Jvm.Free Jvm.Free.XT
open Jvm.Lib.Cold (StaticIs)
/-- the words of String.charAt(int), the Latin-1 road alone -/
abbrev wordsChN : List Jvm.Cond := [.code ChN.yN ChN.yB 2 (some .char), .initialized ST, .fieldLink ST 9 ST "value" "[B", .fieldLink ST 38 ST "COMPACT_STRINGS" "Z", .fieldLink ST 15 ST "coder" "B", .code IsL.yN IsL.yB 1 (some .boolean), .methodLink ST 492 IsL.yN, .declares IsL.yN, .selects ST IsL.yN IsL.yN, .instanceMethod IsL.yN,
  .methodLink ST 495 LChA.yN, .static LChA.yN, .code LChA.yN LChA.yB 2 (some .char), .initialized "java/lang/StringLatin1", .methodLink "java/lang/StringLatin1" 9 JO.Str_checkIndex.yN, .static JO.Str_checkIndex.yN, .code JO.Str_checkIndex.yN JO.Str_checkIndex.yB 2 none,
  .fieldLink ST 1053 "jdk/internal/util/Preconditions" "SIOOBE_FORMATTER" "Ljava/util/function/BiFunction;", .methodLink ST 1059 JC.PreCheck.yN, .static JC.PreCheck.yN, .code JC.PreCheck.yN JC.PreCheck.yB 3 (some .int), .initialized "jdk/internal/util/Preconditions"]
theorem tabChN_of {a : Array Value} {s : State} (h : ∀ w ∈ wordsChN, w.before a s = true) : ChN.tab.before a s = true := by
  have hp : JC.PreCheck.tab.before a s = true := unparts (wk h (.code JC.PreCheck.yN JC.PreCheck.yB 3 (some .int))) (wks h (.initialized JC.PreCheck.yN.cls :: JC.PreCheck.site))
  have qk := consq hp h
  have hk : JO.Str_checkIndex.tab.before a s = true := unparts (wk qk (.code JO.Str_checkIndex.yN JO.Str_checkIndex.yB 2 none)) (wks qk (.initialized JO.Str_checkIndex.yN.cls :: JO.Str_checkIndex.site))
  have ql := consq hk h
  have hl : LChA.tab.before a s = true := unparts (wk ql (.code LChA.yN LChA.yB 2 (some .char))) (wks ql (.initialized LChA.yN.cls :: LChA.site))
  have hi : IsL.tab.before a s = true := unparts (wk h (.code IsL.yN IsL.yB 1 (some .boolean))) (wks h (.initialized IsL.yN.cls :: IsL.site))
  have q := consq hi (consq hl h)
  exact unparts (wk q (.code ChN.yN ChN.yB 2 (some .char))) (wks q (.initialized ChN.yN.cls :: ChN.site))
theorem movedChN {Z s : State} {a0 args : Array Value} (hZ : Z.Warmed39 s.vm) (hw : ∀ d ∈ wordsChN, d.before a0 Z = true) : ∀ d ∈ wordsChN, d.before args s = true := fun d hd => by
  have t : ∀ d ∈ wordsChN, (d.onTables && d.keepsFace) = true := by decide +kernel
  exact RoadKit.mv hZ (hw d hd) (t d hd)
/-- **charAt(i) OF A LATIN-1 STRING**, i < n: the char -/
theorem chN {p : Program} {l : Launch} {e : Env} {R : Room} {s : State} {args : Array Value} {below : List Frame} {len W : Nat} {Z : State} {a0 : Array Value} {h : Heap} (hZ : Z.Warmed39 s.vm) (hw : ∀ d ∈ wordsChN, d.before a0 Z = true) {kI : Nat} (wi : (Jvm.Cond.instantiable ST kI).before a0 Z = true)
    {x t : Addr} {kb : ClassId} {cs : List Int32} {N2 z : Int32} {vs : List Value} {fm : Value} {i : Nat} {j : Int32} (E : RoadKit.Exa Z h x ST) (V : RoadKit.Fld Z h x ST "value" "[B" (.ref t)) (C : RoadKit.Fld Z h x ST "coder" "B" (.int 0)) (K : RoadKit.Arv Z h t kb .byte N2 vs (.int 0)) (hc : CodA cs 0 N2 vs) (hb : ∀ c ∈ cs, ¬ c < 0 ∧ ¬ (65535 : Int32) < c)
    (S : RoadKit.Sta Z h ST "COMPACT_STRINGS" "Z" (.int z)) (hz : ¬ z = 0) (F : RoadKit.Sta Z h "jdk/internal/util/Preconditions" "SIOOBE_FORMATTER" "Ljava/util/function/BiFunction;" fm) (rf : fm.isRef = true) (l2 : cs.length ≤ 4000) (hi : i < cs.length) (hj : j = Int32.ofNat i) (hfr : 4 ≤ R.frames) (hlo : W + 53 ≤ R.locals) :
    Back l R p e below s args (⟨"java/lang/String", "charAt", "(I)C"⟩ : MethodName) len W (fun P a => a = #[.ref x, .int j] ∧ P.U.heap = h ∧ P.cells + 0 ≤ R.cells ∧ P.slots + 0 ≤ R.slots)
      (fun P _ v B => ∃ L, (v = some (.int (cs.getD i 0)) ∧ L = [] ∧ B.U.heap = h) ∧ B.locs = P.locs ++ L ∧ B.cells = P.cells + 0 ∧ B.slots = P.slots + 0) := by
  subst hj
  intro m meth c P g ig mk a X hg hsize hdg hW hn hp'
  obtain ⟨rfl, rfl, r1, r2⟩ := hp'
  have al : Z.vm.Alike P.U.vm := hZ.alike.trans X.warmed.alike
  obtain ⟨A, hx⟩ := txt_of wi al E V C K hc hb l2
  obtain ⟨v, B, X', ⟨⟨hv, hh⟩, hl, hk, hs⟩, st⟩ := ChN.pays x t A cs.length (fun j => cs.getD j 0) z fm i (tabChN_of (movedChN hZ hw)) hfr hlo m meth c P g ig mk _ X hg hsize hdg hW hn ⟨r1, r2, rfl, hx, hi, sta_is al S, hz, sta_is al F, rf⟩
  exact ⟨v, B, X', ⟨[], ⟨hv, rfl, hh⟩, hl, hk, hs⟩, st⟩
end StrChars.Road
end Jvm.Pilot.@@N@@
namespace Jvm.Pilot.@@N@@
open Jvm Jvm.ClassFile Sem Op Lib Jvm.Free Jvm.Stand Jvm.LawKit Jvm.RoadKit Bundle Jvm.Pilot.@@N@@.Jvm.D
/-! Throwable.fillInStackTrace() on an object of the class rc, from words on rc's own layout (the word that Throwable itself lays 'suppressedExceptions' is not asked). -/
section OwnFill
open Jvm.Free.Exc Bundle
def fillW (rc : String) : List Cond := [.initialized tN, .superclass tN "java/lang/Object", .instanceMethod tFill, .codeSync tFill LibCode.Throwable.Fill.code 1 (some (.object tN)), .instanceMethod tFill0, .native tFill0,
  .instanceMethod oInit, .code oInit ⟨#[0xb1]⟩ 1 none, .methodLink tN 1 oInit, .methodLink tN 27 tFill, .methodLink tN 202 tFill0, .fieldLink tN 7 tN "cause" thD, .fieldLink tN 17 tN "stackTrace" steD, .fieldLink tN 24 tN "suppressedExceptions" listD,
  .fieldLink tN 13 tN "UNASSIGNED_STACK" steD, .laysStatic tN "UNASSIGNED_STACK" steD, .fieldLink tN 20 tN "SUPPRESSED_SENTINEL" listD, .laysStatic tN "SUPPRESSED_SENTINEL" listD, .fieldLink tN 198 tN "backtrace" obD,
  .declares tFill, .selects rc tFill0 tFill0, .selects rc tFill tFill, .arrayOver (.object "java/lang/Object"), .soleField tN "backtrace", .soleField tN "depth",
  .lays rc tN "cause" thD, .lays rc tN "stackTrace" steD, .lays rc tN "suppressedExceptions" listD, .lays rc tN "detailMessage" msgD, .lays rc tN "backtrace" obD, .lays rc tN "depth" "I"]
theorem fillW_ok {rc : String} : (fillW rc).all xOk = true := rfl
def FillT (T : ThrowableC) (s : State) : Prop := s.vm.findClass tN = some T.cT ∧ s.methodNamed? tFill = some T.fill ∧ s.methodNamed? tFill0 = some T.fill0 ∧ s.fieldFound? tN "stackTrace" steD = some (T.cT, T.kT, T.i17, T.fStack) ∧
  s.fieldFound? tN "UNASSIGNED_STACK" steD = some (T.cT, T.kT, T.i13, T.fUnassigned) ∧ T.fStack.type = .array (.object "java/lang/StackTraceElement")
set_option maxHeartbeats 4000000 in
theorem own_fillT {args : Array Value} {s : State} {pl : Platform} (ho : pl.frameOwnsMonitors = true) (hf : pl.finalization = false) (hp : pl.magicAccessors = ({} : Platform).magicAccessors) {rc : String} (w : ∀ d ∈ fillW rc, d.before args s = true) :
    ∃ T : ThrowableC, T.Links pl s ∧ FillT T s := by
  have b : ∀ d, d ∈ fillW rc → d.holds args s none s [] = true := fun d hd => w d hd
  obtain ⟨⟨cl, j0⟩, mN, nN, gN, nat, noc, nol, sgN⟩ := Cond.native_spec (b (.native tFill0) (by simp [fillW]))
  have fc : s.vm.findClass tN = some cl := findClass_of_methodNamed nN
  obtain ⟨kl, gk, nk⟩ := Vm.findClass_spec fc
  obtain ⟨_, kl', _, _, gk', _, _, _, _, nface⟩ := Cond.superclass_spec fc (b (.superclass tN "java/lang/Object") (by simp [fillW]))
  obtain rfl : kl = kl' := Option.some.inj (gk.symm.trans gk')
  obtain ⟨jF, mF, nF, gF, aF, sF, abF, -, -⟩ := Cond.ownMethod (x := tFill) fc gk (b (.instanceMethod tFill) (by simp [fillW]))
  obtain ⟨mF', cF, gF', eF, byF, loF, reF, lkF, -, sgF⟩ := Cond.codeSync_spec nF (b (.codeSync tFill LibCode.Throwable.Fill.code 1 (some (.object tN))) (by simp [fillW]))
  obtain rfl : mF = mF' := Option.some.inj (gF.symm.trans gF')
  obtain ⟨j0', mN', nN', gN', aN, sN, abN, nmN, dsN⟩ := Cond.ownMethod (x := tFill0) fc gk (b (.instanceMethod tFill0) (by simp [fillW]))
  obtain rfl : j0 = j0' := by simpa using Option.some.inj (nN.symm.trans nN')
  obtain rfl : mN = mN' := Option.some.inj (gN.symm.trans gN')
  obtain ⟨iO, mO, nO, gO, sO, abO⟩ := Cond.instanceMethod_spec (b (.instanceMethod oInit) (by simp [fillW]))
  obtain ⟨mO', cO, gO', eO, byO, -, -, lkO, -, sgO⟩ := Cond.code_spec nO (b (.code oInit ⟨#[0xb1]⟩ 1 none) (by simp [fillW]))
  obtain rfl : mO = mO' := Option.some.inj (gO.symm.trans gO')
  obtain ⟨kO, gkO, nkO⟩ := Vm.findClass_spec (findClass_of_methodNamed nO)
  obtain ⟨nmO, dsO⟩ := name_of_methodNamed nO gO
  obtain ⟨c1, n1, cf, l1, r1, hcf, p1⟩ := Cond.linkedMethod fc gk nO (b (.methodLink tN 1 oInit) (by simp [fillW])) pl hp
  obtain ⟨c27, n27, cf', l27, r27, hcf', p27⟩ := Cond.linkedMethod fc gk nF (b (.methodLink tN 27 tFill) (by simp [fillW])) pl hp
  obtain rfl : cf = cf' := Option.some.inj (hcf.symm.trans hcf')
  obtain ⟨c202, n202, cf'', l202, r202, hcf'', p202⟩ := Cond.linkedMethod fc gk nN (b (.methodLink tN 202 tFill0) (by simp [fillW])) pl hp
  obtain rfl : cf = cf'' := Option.some.inj (hcf.symm.trans hcf'')
  obtain ⟨c7, i7, f7, l7, r7, a7, s7, t7, -, -, -⟩ := Cond.ownField (t := .object tN) fc gk (by decide +kernel) (b (.fieldLink tN 7 tN "cause" thD) (by simp [fillW])) (b (.lays rc tN "cause" thD) (by simp [fillW])) pl hp
  obtain ⟨c17, i17, f17, l17, r17, a17, s17, t17, m17, y17, q17⟩ := Cond.ownField (t := .array (.object "java/lang/StackTraceElement")) fc gk (by decide +kernel) (b (.fieldLink tN 17 tN "stackTrace" steD) (by simp [fillW])) (b (.lays rc tN "stackTrace" steD) (by simp [fillW])) pl hp
  obtain ⟨c24, i24, f24, l24, r24, a24, s24, t24, m24, -, q24⟩ := Cond.ownField (t := .object "java/util/List") fc gk (by decide +kernel) (b (.fieldLink tN 24 tN "suppressedExceptions" listD) (by simp [fillW])) (b (.lays rc tN "suppressedExceptions" listD) (by simp [fillW])) pl hp
  obtain ⟨c13, i13, f13, st, ce, l13, r13, a13, s13, -, -, hst, -, -, -, -, q13⟩ := Cond.ownStatic (t := .array (.object "java/lang/StackTraceElement")) fc gk (by decide +kernel) (b (.fieldLink tN 13 tN "UNASSIGNED_STACK" steD) (by simp [fillW])) (b (.laysStatic tN "UNASSIGNED_STACK" steD) (by simp [fillW])) pl hp
  obtain ⟨c20, i20, f20, _, _, l20, r20, a20, s20, -, -, -, -, -, -, -, -⟩ := Cond.ownStatic (t := .object "java/util/List") fc gk (by decide +kernel) (b (.fieldLink tN 20 tN "SUPPRESSED_SENTINEL" listD) (by simp [fillW])) (b (.laysStatic tN "SUPPRESSED_SENTINEL" listD) (by simp [fillW])) pl hp
  have ap : f17.slot ≠ f24.slot := by
    have q := Jvm.RoadKit.slot_ne (Z := s) (a0 := args) (Or.inl (w (.lays rc tN "stackTrace" steD) (by simp [fillW]))) (Or.inl (w (.lays rc tN "suppressedExceptions" listD) (by simp [fillW]))) (by decide) (t := .array (.object "java/lang/StackTraceElement")) (t' := .object "java/util/List") (by decide +kernel) (by decide +kernel)
    unfold Jvm.RoadKit.slotOf at q; rw [q17, q24] at q; exact q
  have par : ∀ {y : MethodName} {mm : Method} {ps : List FieldType}, (parseMethodDescriptor y.desc).map (·.parameters) = some ps → parseMethodDescriptor y.desc = some mm.sig → mm.sig.parameters = ps := fun h1 h2 => by rw [h2] at h1; simpa using h1
  refine ⟨{ cT := cl, kT := kl, cO := cl, aS := st, fillIdx := jF, fill0Idx := j0, initSIdx := jF, obj := iO, kObj := kO, methFill := mF, methFill0 := mN, methInitS := mF, methObj := mO, codeFill := cF, codeInitS := cF, codeObj := cO, fBack := f7, fDepth := f7, fStack := f17, fCause := f7, fSupp := f24, fMsg := f7, fUnassigned := f13, fSentinel := f20, cfT := cf, ci1 := c1, n1 := n1, ci27 := c27, n27 := n27, ci202 := c202, n202 := n202, ci7 := c7, i7 := i7, ci13 := c13, i13 := i13, ci17 := c17, i17 := i17, ci20 := c20, i20 := i20, ci24 := c24, i24 := i24 }, ?_, ⟨fc, nF, nN, q17, q13, y17⟩⟩
  constructor
  case objFound => rw [dsO]; exact lookupSpecial_of_named nO gO sO
  case objParams => rw [par (y := oInit) (ps := []) (by decide +kernel) sgO]; rfl
  case fillParams => exact par (y := tFill) (ps := []) (by decide +kernel) sgF
  case fill0Params => exact par (y := tFill0) (ps := [.int]) (by decide +kernel) sgN
  case boot => exact Vm.findClass_boot fc gk
  case initialized => exact Cond.initialized_spec fc gk (b (.initialized tN) (by simp [fillW]))
  all_goals assumption

theorem own_arrE {A B : Array Value} (h : ∀ i : Nat, A[i]? = B[i]?) : A = B := Array.ext_getElem? h
theorem own_keepS {p : Program} {l : Launch} {e : Env} {R : Room} {s : State} {m : MethodId} {args : Array Value} {below : List Frame} {meth : Method} {c : Code} {T U : State} {L L' : List Loc} {sl sl' k : Nat} {a : Addr}
    (X : Stand p l e R s m args below meth c T L 0 sl) (Y : Stand p l e R s m args below meth c U L' k sl') (h : ∀ x ∈ L, x.base = a) (h' : ∀ x ∈ L', x.base = a) : Keep T.heap U.heap [a] := by
  obtain ⟨-, x1, x2, -, -, x3⟩ := X.same
  obtain ⟨-, y1, -, -, -, y3⟩ := Y.same
  change T.heap.size ≤ s.heap.size + 0 at x2
  have two : ∀ (x : Addr) (c : Cell), T.heap[x]? = some c → ∃ c0, s.heap[x]? = some c0 ∧ c = { c0 with slots := c.slots } ∧ c.slots.size = c0.slots.size ∧ (x ≠ a → c = c0) ∧ ∃ c', U.heap[x]? = some c' ∧ c' = { c0 with slots := c'.slots } ∧ c'.slots.size = c0.slots.size ∧ (x ≠ a → c' = c0) := fun x c q => by
    have lt := (Array.getElem?_eq_some_iff.mp q).1
    have g := Array.getElem?_eq_getElem (xs := s.heap) (i := x) (by omega)
    obtain ⟨d, d1, d2, d3, d4⟩ := x3 x _ g
    obtain ⟨f, f1, f2, f3, f4⟩ := y3 x _ g
    obtain rfl : d = c := Option.some.inj (Eq.trans (Eq.symm d1) q)
    refine ⟨_, g, d2, d3, fun ne => ?_, f, f1, f2, f3, fun ne => ?_⟩
    · rw [d2, own_arrE fun i => d4 i fun z => ne (h _ z)]
    · rw [f2, own_arrE fun i => f4 i fun z => ne (h' _ z)]
  refine ⟨Nat.le_trans x2 y1, fun x c q ne => ?_, fun x c q => ?_⟩
  · obtain ⟨c0, -, -, -, e1, c', e2, -, -, e3⟩ := two x c q
    have ne' : x ≠ a := fun z => ne (by rw [z]; exact List.mem_singleton.mpr rfl)
    rw [e2, e3 ne', e1 ne']
  · obtain ⟨c0, -, e1, e2, -, c', e3, e4, e5, -⟩ := two x c q
    exact ⟨c', e3, by rw [e4, e1], by rw [e4, e1], by rw [e5, e2]⟩
set_option maxHeartbeats 8000000 in
theorem own_fill {p : Program} {l : Launch} {e : Env} {R : Room} {s : State} {m : MethodId} {args : Array Value} {below : List Frame} {meth : Method} {c : Code} {T : State} {locs : List Loc} {slots : Nat} {Z : State} {a0 : Array Value} {h : Heap}
    (X : Stand p l e R s m args below meth c T locs 0 slots) (hx : p.tables.exec = Jvm.exec) (hl : l.stackTraces = true) (hZ : Z.Warmed39 s.vm) (hown : s.vm.findClass tN = some m.cls) {rc : String} (w : ∀ d ∈ fillW rc, d.before a0 Z = true) {kI : Nat} (wi : (Cond.instantiable rc kI).before a0 Z = true)
    (hT0 : ThS Z s.heap) (hTK : s.vm.MethodsKnown) (hBelow : s.vm.FramesKnown below) (eT : T.heap = h) {a : Addr} (hb : ∀ x ∈ locs, x.base = a) (E : Exa Z h a rc) (N : Unt h a) (B : Fld Z h a tN "backtrace" obD .null) {v : Value} (hv : v.isRef = true)
    (S : Sta Z h tN "UNASSIGNED_STACK" steD v) (F : Fld Z h a tN "stackTrace" steD v)
    {g : JFrame} (hg : g.method = m) (hsize : g.locals.size = c.maxLocals) {rest : List Value} (hs : g.stack = .ref a :: rest) (hd : decode c.code g.pc = .ok (.invokevirtual 27, 3))
    (hf : 3 ≤ R.frames) (hlo : 2 * g.monitorRoom + (rest.map fun v => v.category).sum + 42 ≤ R.locals) (hc : 1 ≤ R.cells) (hsl : slots + 2752 ≤ R.slots) :
    ∃ (T' : State) (h' : Heap), Stand p l e R s m args below meth c T' (locs ++ sixLocs Z a) 1 (slots + 2752) ∧ T'.heap = h' ∧ Keep h h' [a] ∧ Exa Z h' a rc ∧
      (∀ {O n d : String} {t : FieldType} {u : Value}, Laid Z a0 rc O n d → parseFieldDescriptor d = some t → n ≠ "backtrace" → n ≠ "depth" → n ≠ "stackTrace" → Fld Z h a O n d u → Fld Z h' a O n d u) ∧
      ∀ target, Steps p.tables e below (T'.setTop { g with pc := g.pc + 3, stack := .ref a :: rest }) target → Steps p.tables e below (T.setTop g) target := by
  subst eT
  have hal : Z.vm.Alike s.vm := hZ.alike
  have ws : ∀ d ∈ fillW rc, d.before args s = true := fun d hd => mvX hT0 hZ (List.all_eq_true.mp fillW_ok d hd) (w d hd)
  have b : ∀ d, d ∈ fillW rc → d.holds args s none s [] = true := fun d hd => ws d hd
  have htr : e.platform.stackTraces = true := by rw [X.admits.platform]; exact hl
  have hpl : e.platform.magicAccessors = ({} : Platform).magicAccessors := by rw [X.admits.platform]
  obtain ⟨Y, L, kfound, kfill, kfill0, kstack, kunas, kstype⟩ := own_fillT (pl := e.platform) (by rw [X.admits.platform]) (by rw [X.admits.platform]) hpl ws
  obtain ⟨cell, kc, e1, e2, e3, e4, e5⟩ := id E
  obtain ⟨_, u1, u2, u3⟩ := id N
  cases e1.symm.trans u1
  obtain ⟨_, _, _, _, fb', b1, b2, -, -, -, -, b7⟩ := id B
  cases e1.symm.trans b1
  obtain ⟨_, _, _, _, fs', s1, s2, -, -, -, -, s7⟩ := id F
  cases e1.symm.trans s1
  obtain ⟨_, _, i1, i2, i3, -⟩ := Cond.instantiable_spec wi
  cases e2.symm.trans i1
  cases e3.symm.trans i2
  obtain ⟨kX, q1, q2⟩ := hal.2.2 _ _ e3
  have found : s.vm.findClass rc = some cell.cls := by rw [hal.findClass]; exact e2
  have hord : kX.kind = .ordinary := by rw [q2]; exact i3
  have hsz : cell.slots.size = kX.instanceTypes.size := by rw [q2]; exact e5 i3
  obtain ⟨k5, q5, -⟩ := State.fieldFound?_setVm (s := Z) hal s2
  cases (show s.fieldFound? tN "stackTrace" steD = _ from q5).symm.trans kstack
  obtain ⟨cU, iU, kU, fU, st, cS, t1, t2, t3, t4, t5, t6, t7⟩ := S
  obtain ⟨k', r', hek⟩ := State.fieldFound?_setVm (s := Z) hal t1
  cases (show s.fieldFound? tN "UNASSIGNED_STACK" steD = _ from r').symm.trans kunas
  have hst : Y.aS = st := Option.some.inj (L.statics.symm.trans (by rw [hek]; exact t4))
  subst hst
  have hneS : Y.aS ≠ a := fun z => by rw [z] at t5; cases e1.symm.trans t5; rw [u2] at t6; cases t6
  have hknS : cS.vm ≠ .unknown := fun z => by rw [z] at t6; cases t6
  obtain ⟨c198, i198, fB, l198, r198, a198, sB, -, nB, tB, qB⟩ := Cond.ownField (t := .object "java/lang/Object") kfound L.cls (by decide +kernel) (b (.fieldLink tN 198 tN "backtrace" obD) (by simp [fillW])) (b (.lays rc tN "backtrace" obD) (by simp [fillW])) e.platform hpl
  obtain ⟨k4, q4, -⟩ := State.fieldFound?_setVm (s := Z) hal b2
  cases (show s.fieldFound? tN "backtrace" obD = _ from q4).symm.trans qB
  obtain ⟨_, _, cD, kD, iD, fD, -, -, qD, sD, -, -, -, -⟩ := Cond.lays_spec (b (.lays rc tN "depth" "I") (by simp [fillW]))
  cases Option.some.inj ((Cond.lays_declared (b (.lays rc tN "depth" "I") (by simp [fillW])) qD).symm.trans kfound)
  obtain ⟨gD, aD⟩ := State.fieldFound?_spec qD
  cases Option.some.inj (gD.symm.trans L.cls)
  obtain ⟨nD, tD⟩ := State.fieldFound?_type qD (t := .int) (by decide +kernel)
  have hfb := Cond.soleField_find kfound L.cls (b (.soleField tN "backtrace") (by simp [fillW])) a198 nB sB
  have hfd := Cond.soleField_find kfound L.cls (b (.soleField tN "depth") (by simp [fillW])) aD nD sD
  obtain ⟨comp, cO, kO, -, -, hkO, hkindO, hO⟩ := Cond.arrayOver_spec (ws (.arrayOver (.object "java/lang/Object")) (by simp [fillW]))
  obtain ⟨tyS, -⟩ := Cond.laysAt found q1 kstack (b (.lays rc tN "stackTrace" steD) (by simp [fillW]))
  obtain ⟨tyB, -⟩ := Cond.laysAt found q1 qB (b (.lays rc tN "backtrace" obD) (by simp [fillW]))
  obtain ⟨tyD, -⟩ := Cond.laysAt found q1 qD (b (.lays rc tN "depth" "I") (by simp [fillW]))
  have tk : ∀ {f : Field} {x : Value}, kX.instanceTypes[f.slot]? = some f.type → fits f.type x = true → Jvm.Takes s cell f x := fun {f x} h1 h2 => by
    obtain ⟨z1, z2⟩ := Takes.of_laid (v := x) q1 hord h1 h2
    exact ⟨by rw [hsz]; simpa using z1, by rw [u2]; exact z2⟩
  have hsel0 : selectMethod e.platform s.vm cell.cls Y.fill0 = .method Y.fill0 := by
    obtain ⟨_, _, _, z1, z2, z3, z4, -⟩ := Cond.selects_spec (b (.selects rc tFill0 tFill0) (by simp [fillW]))
    cases Option.some.inj (z1.symm.trans found)
    cases Option.some.inj (z2.symm.trans (State.methodFound?_of_named kfill0 (by decide)))
    cases Option.some.inj (z3.symm.trans kfill0)
    rw [Launch.admits_selectMethod X.admits]; exact z4
  have hSE := ws (.selects rc tFill tFill) (by simp [fillW])
  obtain ⟨v6, vm6, ⟨T6, L6, c6, n6⟩, -, X6, ⟨hv6, C6, n, hn, hC6, d1, d2, d3, d4, hL6, hc6, hn6⟩, come⟩ := X.virtualBack hx (own := tN) (C := rc) (index := 27) (y := tFill) (z := tFill) hown (ws (.methodLink tN 27 tFill) (by simp [fillW])) (ws (.declares tFill) (by simp [fillW])) (notFace_of_selects hSE) hSE (ws (.instanceMethod tFill) (by simp [fillW])) (by decide)
    (fillPaysAny (l := l) (W := 2 * g.monitorRoom + (rest.map fun v => v.category).sum) hx htr Y L kfill (u0 := ⟨v, hv⟩) (self := a) (cell := cell) (cellS := cS) (fun _ => by rw [u2]; simp) (by rw [u2]; simp) (by rw [u3]) (by rw [u3]) s7 hsel0 hneS hknS t7 (tk tyS (by rw [kstype]; exact fits_refV_array _ ⟨v, hv⟩))
      ⟨{ ci198 := c198, i198 := _, fBack := fb' }, ⟨l198, r198, a198, sB⟩, b7⟩ hTK hBelow kfound hO hkO hkindO hfb hfd (fun x => tk tyB (by rw [tB]; rfl)) (fun x => tk tyD (by rw [tD]; rfl)) (by omega) hlo)
    (b := a) (cB := cell.cls) found ⟨cell, e1, rfl, e4⟩ hg hsize (Steps.refl _) (argsL := []) (rest := rest)
    (fun sig h => by rw [show parseMethodDescriptor tFill.desc = some ⟨[], some (.object tN)⟩ from by decide +kernel] at h; rw [← Option.some.inj h]; rfl) hs (Nat.le_refl _) hd
    (fun vmx hWx => ⟨rfl, by show 0 + 1 ≤ R.cells; omega, hsl, e1, t5⟩)
  dsimp only [Pt.U, Pt.locs, Pt.cells, Pt.slots] at X6 hC6 hL6 hc6 hn6 come
  subst hv6 hL6 hc6 hn6
  have three : ∀ x ∈ [(⟨a, fb'.slot⟩ : Loc), ⟨a, fD.slot⟩, ⟨a, Y.fStack.slot⟩], Six s a x := fun x hx => by
    simp only [List.mem_cons, List.not_mem_nil, or_false] at hx
    rcases hx with rfl | rfl | rfl
    · exact ⟨("backtrace", obD), _, by simp [sixNames], ⟨_, _, _, qB⟩, rfl⟩
    · exact ⟨("depth", "I"), _, by simp [sixNames], ⟨_, _, _, qD⟩, rfl⟩
    · exact ⟨("stackTrace", steD), _, by simp [sixNames], ⟨_, _, _, kstack⟩, rfl⟩
  have hk := own_keepS X X6 hb fun x hx => (List.mem_append.mp hx).elim (hb x) fun z => (three x z).base
  refine ⟨T6, T6.heap, (wider X6 hZ three).more (Nat.le_refl _) (Nat.add_le_add_left hn _), rfl, hk, ⟨C6, kc, hC6, by rw [d1]; exact e2, by rw [d1]; exact e3, by rw [d2]; exact e4, fun q => by rw [d3]; exact e5 q⟩, ?_, fun target q => come.trans q⟩
  intro O nn d t u Lf ht n1 n2 n3 Ff
  obtain ⟨_, cf, k, i, f, f1, f2, f3, f4, f5, f6, f7⟩ := Ff
  cases e1.symm.trans f1
  have ap : ∀ {O' n' d' : String} {t' : FieldType} {f' : Field} {c' k' i'}, (Cond.lays rc O' n' d').before a0 Z = true → parseFieldDescriptor d' = some t' → nn ≠ n' → s.fieldFound? O' n' d' = some (c', k', i', f') → f.slot ≠ f'.slot := fun {O' n' d' t' f' c' k' i'} h1 h2 h3 h4 => by
    have z := Jvm.RoadKit.slot_ne Lf (Or.inl h1) h3 ht h2
    obtain ⟨_, _, _, z4⟩ := Jvm.Free.BdW.found_ride (U := s) (U' := Z) hal.symm ⟨_, _, _, h4⟩
    unfold Jvm.RoadKit.slotOf at z; rw [f2, z4] at z; exact z
  refine ⟨C6, cf, k, i, f, hC6, f2, f3, by rw [d2]; exact f4, by rw [d2]; exact f5, by rw [d1]; exact f6, ?_⟩
  rw [d4 _ (ap (w (.lays rc tN "backtrace" obD) (by simp [fillW])) (t' := .object "java/lang/Object") (by decide +kernel) n1 qB) (ap (w (.lays rc tN "depth" "I") (by simp [fillW])) (t' := .int) (by decide +kernel) n2 qD) (ap (w (.lays rc tN "stackTrace" steD) (by simp [fillW])) (t' := .array (.object "java/lang/StackTraceElement")) (by decide +kernel) n3 kstack)]
  exact f7
theorem own_stat {Z : State} {a0 : Array Value} {n d : String} (hi : (Cond.initialized tN).before a0 Z = true) (hl : (Cond.laysStatic tN n d).before a0 Z = true) (hr : (Cond.isRef (.static tN n d)).before a0 Z = true) : ∃ v : Value, v.isRef = true ∧ Sta Z Z.heap tN n d v := by
  obtain ⟨c, k, i, f, a, cell, hc, hf, hst, hsta, hcell, hiss, -, -, -⟩ := Cond.laysStatic_spec hl
  obtain ⟨u, hu⟩ := Cond.staticRefV hf hst hsta hcell hiss hr
  exact ⟨u.1, u.2, c, i, k, f, a, cell, hf, hst, Cond.initialized_spec hc (State.fieldFound?_spec hf).1 hi, hsta, hcell, hiss, hu⟩
theorem own_ths {Z : State} {n0 : Nat} {h : Heap} (X : Old Z n0 h) : ThS Z h := ThS.ext X.2 ThS.start
theorem own_ths' {Z s : State} {n0 : Nat} {h : Heap} (hh : s.heap = h) (X : Old Z n0 h) : ThS Z s.heap := by rw [hh]; exact own_ths X
theorem own_b3 {a : Addr} {x1 x2 x3 : Nat} : ∀ x ∈ ([] ++ [(⟨a, x1⟩ : Loc)] ++ [⟨a, x2⟩] ++ [⟨a, x3⟩]), x.base = a := fun x hx => by
  simp only [List.mem_append, List.mem_singleton, List.not_mem_nil, false_or] at hx
  rcases hx with (rfl | rfl) | rfl <;> rfl
end OwnFill
open Jvm.Free.Exc in
theorem own_face {Z : State} {a0 : Array Value} {C : String} {y : MethodName} (w : (Cond.selects C y y).before a0 Z = true) : ∃ c k, Z.vm.findClass y.cls = some c ∧ Z.vm.classes[c]? = some k ∧ k.isInterface = false := by
  obtain ⟨c, r, m, h1, h2, h3, h4, k, h5, h6⟩ := Cond.selects_spec w
  exact ⟨m.cls, k, findClass_of_methodNamed h3, h5, h6⟩
theorem own_nface {args : Array Value} {s : State} {C : String} {y y' : MethodName} (e : y'.cls = y.cls) (w : (Cond.selects C y' y').before args s = true) : NotFace s y := fun r0 h0 => by
  obtain ⟨c, k, h1, h2, h3⟩ := own_face w
  rw [e] at h1
  cases (findClass_of_methodNamed h0).symm.trans h1
  exact ⟨k, h2, h3⟩
theorem own_selP {Z : State} {a0 : Array Value} {C : String} {y : MethodName} (w : (Cond.selects C y y).before a0 Z = true) (wi : (Cond.instanceMethod y).before a0 Z = true) (wp : (Cond.privateMethod y).before a0 Z = true) (hy : y.cls ≠ "java/lang/invoke/MethodHandle" ∧ y.cls ≠ "java/lang/invoke/VarHandle") : (Cond.selects y.cls y y).before a0 Z = true := by
  obtain ⟨c, k, h1, h2, h3⟩ := own_face w
  exact selects_self_of_private h1 h2 h3 (Cond.privateMethod_at wp) wi hy
theorem own_sameM {Z : State} {a0 : Array Value} {C : String} {y y' : MethodName} (e : y'.cls = y.cls) (w : (Cond.selects C y' y').before a0 Z = true) (wi : (Cond.instanceMethod y).before a0 Z = true) (hy : y.cls ≠ "java/lang/invoke/MethodHandle" ∧ y.cls ≠ "java/lang/invoke/VarHandle") : (Cond.sameMethod y.cls y.cls y.name y.desc).before a0 Z = true := by
  obtain ⟨c, k, h1, h2, h3⟩ := own_face w
  rw [e] at h1
  obtain ⟨mk, methM, hn, hm, -, -⟩ := Cond.instanceMethod_spec wi
  have hf := State.methodFound?_of_named hn hy
  have hn' : Z.methodNamed? ⟨y.cls, y.name, y.desc⟩ = some mk := hn
  simp only [Cond.before, Cond.holds, Cond.value, h1, hf, hn', h2]; simp [h3]
theorem own_backSHK {p : Program} {l : Launch} {e : Env} {R : Room} {s : State} {args : Array Value} {below : List Frame} {Z : State} {a0 : Array Value} {EL : List (String × Nat)} {h : Heap} {vm0 : Vm} {y : MethodName} {bytes : ByteArray} {maxL : Nat} {ret : Option FieldType} {rm : Room} {len W : Nat} {as' : Array Value} {Q : Option Value → Heap → List Loc → Prop}
    (hM : MetFree l y (head1 [Cond.code y bytes maxL ret] rm) (fun a U => a = as' ∧ Z.Warmed39 U.vm ∧ U.heap = h ∧ CHv Z EL U.vm h) (fun _ _ bl s _ => s.vm.MethodsKnown ∧ s.vm.FramesKnown bl) (fun _ U o U' => ∃ v L, o = .returned v ∧ Q v U'.heap L ∧ CHr Z EL U.vm U.heap U'.vm U'.heap ∧ ReturnedEndW U o U' L rm.cells rm.slots))
    (hZ : Z.Warmed39 vm0) (wc : (Cond.code y bytes maxL ret).before a0 Z = true) (wz : (Cond.initialized y.cls).before a0 Z = true) (hf : rm.frames + 1 ≤ R.frames) (hl : W + (maxL + 11) + rm.locals ≤ R.locals) (hEL : EW Z a0 EL) (H : CHv Z EL vm0 h) (hTK : (s.setVm vm0).vm.MethodsKnown) (hBelow : (s.setVm vm0).vm.FramesKnown below) :
    BackS l R p e below (s.setVm vm0) args y len W (fun A a => a = as' ∧ A.U.heap = h ∧ A.cells + rm.cells ≤ R.cells ∧ A.slots + rm.slots ≤ R.slots)
      (fun A _ v B => ∃ L, Q v B.U.heap L ∧ B.locs = A.locs ++ L ∧ B.cells = A.cells + rm.cells ∧ B.slots = A.slots + rm.slots ∧ CHr Z EL vm0 h B.U.vm B.U.heap) :=
  BackS.of_freeWG (bytes := bytes) (maxL := maxL) (ret := ret) (E := fun _ first o t L k n => k = rm.cells ∧ n = rm.slots ∧ (∃ v, o = .returned v ∧ Q v t.heap L) ∧ CHr Z EL first.vm first.heap t.vm t.heap) hM hf hl
    (fun m meth c A a Y hp => have hU : Z.Warmed39 A.U.vm := wtrans (s := s.setVm vm0) hZ Y.warmed
      ⟨by show (Cond.and _ .tt).before a A.U = true; rw [Cond.before_and, mv hU wc]; rfl, mv hU wc, mv hU wz, hp.2.2.1, hp.2.2.2⟩)
    (fun m meth c A a g mk Y hp => ⟨hp.1, wtrans (s := s.setVm vm0) hZ Y.warmed, hp.2.1, (CHv.at Y hZ hEL H).1⟩)
    (fun m meth c A a g mk Y _ hg => known_frames Y hg hTK hBelow)
    (fun _ _ _ _ ⟨v, L, h1, h2, h3, h4⟩ => ⟨L, _, _, h4, rfl, rfl, ⟨v, h1, h2⟩, h3⟩)
    (fun m meth c A a g mk v t L k n Y hp _ _ ⟨e1, e2, ⟨v', e3, e4⟩, e5⟩ => by
      cases e3; subst e1 e2
      refine ⟨L, e4, rfl, rfl, rfl, (CHv.at Y hZ hEL H).trans ?_⟩
      rw [← hp.2.1]; exact e5)
abbrev mn_0 : MethodName := ⟨"com/example/queryloom/queryloom/translation/TranslationException", "<init>", "(Ljava/lang/String;)V"⟩
abbrev mn_1 : MethodName := ⟨"com/example/queryloom/queryloom/translation/TranslationException", "getMessage", "()Ljava/lang/String;"⟩
abbrev mn_2 : MethodName := ⟨"com/example/queryloom/queryloom/translation/TranslationException", "unsupported", "(Ljava/lang/String;)Lcom/example/queryloom/queryloom/translation/TranslationException;"⟩
abbrev mn_3 : MethodName := ⟨"com/example/queryloom/queryloom/translation/TranslationExceptionUnsupportedPinLaw", "suffixAt", "(Ljava/lang/String;I)Z"⟩
abbrev mn_4 : MethodName := ⟨"java/lang/AbstractStringBuilder", "<init>", "(I)V"⟩
abbrev mn_5 : MethodName := ⟨"java/lang/AbstractStringBuilder", "append", "(Ljava/lang/String;)Ljava/lang/AbstractStringBuilder;"⟩
abbrev mn_6 : MethodName := ⟨"java/lang/AbstractStringBuilder", "ensureCapacityInternal", "(I)V"⟩
abbrev mn_7 : MethodName := ⟨"java/lang/AbstractStringBuilder", "getValue", "()[B"⟩
abbrev mn_8 : MethodName := ⟨"java/lang/AbstractStringBuilder", "inflateIfNeededFor", "(Ljava/lang/String;)V"⟩
abbrev mn_9 : MethodName := ⟨"java/lang/AbstractStringBuilder", "isLatin1", "()Z"⟩
abbrev mn_10 : MethodName := ⟨"java/lang/AbstractStringBuilder", "length", "()I"⟩
abbrev mn_11 : MethodName := ⟨"java/lang/AbstractStringBuilder", "newCapacity", "(I)I"⟩
abbrev mn_12 : MethodName := ⟨"java/lang/AbstractStringBuilder", "putStringAt", "(ILjava/lang/String;)V"⟩
abbrev mn_13 : MethodName := ⟨"java/lang/Exception", "<init>", "(Ljava/lang/String;)V"⟩
abbrev mn_14 : MethodName := ⟨"java/lang/Math", "max", "(II)I"⟩
abbrev mn_15 : MethodName := ⟨"java/lang/Math", "min", "(II)I"⟩
abbrev mn_17 : MethodName := ⟨"java/lang/String", "<init>", "(Ljava/lang/AbstractStringBuilder;Ljava/lang/Void;)V"⟩
abbrev mn_18 : MethodName := ⟨"java/lang/String", "<init>", "(Ljava/lang/StringBuilder;)V"⟩
abbrev mn_19 : MethodName := ⟨"java/lang/String", "<init>", "([C)V"⟩
abbrev mn_20 : MethodName := ⟨"java/lang/String", "<init>", "([CIILjava/lang/Void;)V"⟩
abbrev mn_21 : MethodName := ⟨"java/lang/String", "charAt", "(I)C"⟩
abbrev mn_23 : MethodName := ⟨"java/lang/String", "coder", "()B"⟩
abbrev mn_24 : MethodName := ⟨"java/lang/String", "getBytes", "([BIB)V"⟩
abbrev mn_26 : MethodName := ⟨"java/lang/String", "length", "()I"⟩
abbrev mn_27 : MethodName := ⟨"java/lang/StringBuilder", "<init>", "()V"⟩
abbrev mn_28 : MethodName := ⟨"java/lang/StringBuilder", "append", "(Ljava/lang/String;)Ljava/lang/StringBuilder;"⟩
abbrev mn_29 : MethodName := ⟨"java/lang/StringBuilder", "length", "()I"⟩
abbrev mn_30 : MethodName := ⟨"java/lang/StringBuilder", "toString", "()Ljava/lang/String;"⟩
abbrev mn_37 : MethodName := ⟨"java/lang/Throwable", "<init>", "(Ljava/lang/String;)V"⟩
abbrev mn_40 : MethodName := ⟨"java/lang/Throwable", "getMessage", "()Ljava/lang/String;"⟩
abbrev mn_41 : MethodName := ⟨"java/util/Arrays", "checkLength", "(II)V"⟩
abbrev mn_42 : MethodName := ⟨"java/util/Arrays", "copyOf", "([BI)[B"⟩
abbrev mn_43 : MethodName := ⟨"java/util/Arrays", "copyOfRange", "([BII)[B"⟩
abbrev mn_44 : MethodName := ⟨"java/util/Arrays", "copyOfRangeByte", "([BII)[B"⟩
abbrev mn_45 : MethodName := ⟨"jdk/internal/util/ArraysSupport", "newLength", "(III)I"⟩
abbrev Go (p : Program) (e : Env) (below : List Frame) (T : State) (g : JFrame) (u : State) : Prop := Steps p.tables e below (T.setTop g) u
abbrev vi (x : Int32) : Slot := .val (.int x)
abbrev vj (x : Int64) : Slot := .val (.long x)
abbrev vr (x : Addr) : Slot := .val (.ref x)
abbrev wi (x : Int32) : Value := .int x
abbrev wj (x : Int64) : Value := .long x
abbrev wr (x : Addr) : Value := .ref x
theorem tw {a0 : Array Value} {Z : State} (hw : ∀ d ∈ tables_1, d.before a0 Z = true) (i : Nat) {d : Cond} (h : tables_1[i]? = some d) : d.before a0 Z = true := hw d (List.mem_of_getElem? h)
theorem own_le {Z : State} {n0 : Nat} {h : Heap} (X : Old Z n0 h) : n0 ≤ h.size := X.1 ▸ X.2.1
theorem own_nm0 {a : Addr} : a ∉ ([] : List Addr) := List.not_mem_nil
theorem own_nmc {a x : Addr} {L : List Addr} (h : a ≠ x) (k : a ∉ L) : a ∉ x :: L := fun q => (List.mem_cons.mp q).elim h k
theorem own_arrK {Z : State} {h h' : Heap} {a : Addr} {c : Cell} {ty : FieldType} {ws : List Addr} (A : Arr Z h a c ty) (K : Keep h h' ws) (q : a ∉ ws) : Arr Z h' a c ty := ⟨K.2.1 _ _ A.1 q, A.2⟩
theorem own_since (s : State) : s.Since s.vm s.heap.size := ⟨State.Warmed39.refl s, by first | exact State.Booked.refl s | (intro j p h1 h2; exact absurd (Array.getElem?_eq_some_iff.mp h2).1 (Nat.not_lt.mpr h1))⟩
theorem own_str {a0 : Array Value} {Z : State} (hw : ∀ d ∈ tables_1, d.before a0 Z = true) : ∀ a ∈ Bundle.stringAtoms, a.before a0 Z = true := fun d hd => hw d ((by decide +kernel : ∀ d ∈ Bundle.stringAtoms, d ∈ tables_1) d hd)

abbrev STF (Z : State) (h : Heap) (x t : Addr) (k : ClassId) (n : Int32) (vs : List Value) : Prop := Exa Z h x "java/lang/String" ∧ Fld Z h x "java/lang/String" "value" "[B" (.ref t) ∧ Fld Z h x "java/lang/String" "coder" "B" (.int (0 : Int32)) ∧ Arv Z h t k .byte n vs (.int (0 : Int32))
abbrev SBF (Z : State) (h : Heap) (a b : Addr) (k : ClassId) (cap cnt : Int32) (vs : List Value) : Prop := Exa Z h a "java/lang/StringBuilder" ∧ Fld Z h a "java/lang/AbstractStringBuilder" "value" "[B" (.ref b) ∧ Fld Z h a "java/lang/AbstractStringBuilder" "coder" "B" (.int (0 : Int32)) ∧ Fld Z h a "java/lang/AbstractStringBuilder" "count" "I" (.int cnt) ∧ Arv Z h b k .byte cap vs (.int (0 : Int32))
def Qs (r : Option Value) (h0 : Heap) (n0 : Nat) (v : Option Value) (h : Heap) (L : List Loc) : Prop := v = r ∧ Fr n0 L ∧ h = h0
def QSI (Z : State) (a : Addr) (cap cnt : Int32) (vs : List Value) (r : Option Value) (h0 : Heap) (n0 : Nat) (v : Option Value) (h : Heap) (L : List Loc) : Prop := v = r ∧ Fr n0 L ∧ Keep h0 h [a] ∧ ∃ (b : Addr) (k : ClassId), n0 ≤ b ∧ h0.size ≤ b ∧ SBF Z h a b k cap cnt vs
def QSA (Z : State) (a b : Addr) (k : ClassId) (cap cnt : Int32) (vs : List Value) (r : Option Value) (h0 : Heap) (n0 : Nat) (v : Option Value) (h : Heap) (L : List Loc) : Prop := v = r ∧ Fr n0 L ∧ Keep h0 h [a, b] ∧ SBF Z h a b k cap cnt vs
def QGB (Z : State) (b : Addr) (k : ClassId) (cap : Int32) (vs : List Value) (h0 : Heap) (n0 : Nat) (v : Option Value) (h : Heap) (L : List Loc) : Prop := v = none ∧ Fr n0 L ∧ Keep h0 h [b] ∧ Arv Z h b k .byte cap vs (.int (0 : Int32))
def QAr (Z : State) (n : Int32) (vs : List Value) (h0 : Heap) (n0 : Nat) (v : Option Value) (h : Heap) (L : List Loc) : Prop := ∃ (r : Addr) (k : ClassId), v = some (.ref r) ∧ Fr n0 L ∧ Keep h0 h [] ∧ n0 ≤ r ∧ h0.size ≤ r ∧ Arv Z h r k .byte n vs (.int (0 : Int32))
def QSN (Z : State) (x : Addr) (n : Int32) (vs : List Value) (h0 : Heap) (n0 : Nat) (v : Option Value) (h : Heap) (L : List Loc) : Prop := v = none ∧ Fr n0 L ∧ Keep h0 h [x] ∧ ∃ (t : Addr) (k : ClassId), n0 ≤ t ∧ h0.size ≤ t ∧ STF Z h x t k n vs
def QTS (Z : State) (n : Int32) (vs : List Value) (h0 : Heap) (n0 : Nat) (v : Option Value) (h : Heap) (L : List Loc) : Prop := ∃ (x t : Addr) (k : ClassId), v = some (.ref x) ∧ Fr n0 L ∧ Keep h0 h [] ∧ n0 ≤ x ∧ h0.size ≤ x ∧ n0 ≤ t ∧ h0.size ≤ t ∧ STF Z h x t k n vs
theorem own_shr0 (z : Int32) : z >>> ((0 : Int32) &&& 31) = z := by
  show z >>> (0 : Int32) = z
  simp
theorem own_some {a b : Int32} (h : a = b) : some (Value.int a) = some (Value.int b) := by rw [h]

theorem own_4 {n : Int32} {P : Int32 → Prop} (hn : n = (0 : Int32) ∨ n = (1 : Int32) ∨ n = (2 : Int32) ∨ n = (3 : Int32)) (h : P 0 ∧ P 1 ∧ P 2 ∧ P 3) : P n := by
  rcases hn with rfl | rfl | rfl | rfl
  · exact h.1
  · exact h.2.1
  · exact h.2.2.1
  · exact h.2.2.2
def cpy (vs : List Value) (sp nn : Int32) : List Value := (List.range nn.toNatClampNeg).map fun i => vs.getD (sp.toNatClampNeg + i) (.int (0 : Int32))
def put (vd us : List Value) (dp nn : Int32) : List Value := vd.take dp.toNatClampNeg ++ us ++ vd.drop (dp.toNatClampNeg + nn.toNatClampNeg)

abbrev ST : String := "java/lang/String"
theorem own_al {s : State} {vm : Vm} {n : Nat} (h : s.Since vm n) : s.vm.Alike vm := h.1.alike
theorem own_chr {Z s T : State} {EL : List (String × Nat)} {h0 H : Heap} (hh : s.heap = h0) (e : T.heap = H) (R : CHr Z EL s.vm h0 T.vm H) : CHr Z EL s.vm s.heap T.vm T.heap := by rw [hh, e]; exact R
theorem own_EL {a0 : Array Value} {Z : State} (hw : ∀ d ∈ tables_1, d.before a0 Z = true) : EW Z a0 consts_1 := EW.cons (hw _ (List.mem_of_getElem? (i := 94) rfl)) (by decide) (EW.cons (hw _ (List.mem_of_getElem? (i := 14) rfl)) (by decide) EW.nil)
theorem own_safeNull {Z : State} {EL : List (String × Nat)} {vm : Vm} {h : Heap} {x : Addr} (hal : Z.vm.Alike vm) (E : Exa Z h x ST) (F : Fld Z h x ST "value" "[B" .null) : Safe Z EL vm h x := fun B => by
  obtain ⟨cell, k, e1, e2, e3, -, -⟩ := E
  have nm : ∀ {n : String} {c : ClassId}, vm.findClass n = some c → c = cell.cls → n = ST := fun {n c} f e => by
    subst e
    rw [hal.findClass] at f
    obtain ⟨k1, q1, q2⟩ := Vm.findClass_spec f
    obtain ⟨k2, q3, q4⟩ := Vm.findClass_spec e2
    cases q1.symm.trans q3
    exact q2.symm.trans q4
  obtain ⟨p, -, u, a, -, q, -, G, rfl | rfl⟩ := B
  · obtain ⟨cell', cf, kf, i, f, h1, h2, -, -, -, -, h7⟩ := F
    cases (show h[q.sa]? = some q.sC from G.ha).symm.trans h1
    obtain ⟨cS, ⟨⟨-, -, -, ⟨c1, k1, i1, f1, -⟩, -, -, -, v1, -⟩, -⟩, -⟩ := G
    obtain ⟨k3, e4⟩ := ff_back (U := Wst Z vm h) hal f1
    have e5 := h2.symm.trans e4
    simp only [Option.some.injEq, Prod.mk.injEq] at e5
    rw [← e5.2.2.2, h7] at v1
    cases v1
  · cases (show h[q.sd]? = some q.SA from G.hd).symm.trans e1
    obtain ⟨cS, -, -, f, -⟩ := G
    exact absurd (nm f rfl) (by decide)
theorem own_k256 (x : Int32) : ∃ k : Fin 256, (x &&& 255) = Int32.ofNat k.val := by
  have h : (x &&& 255).toBitVec.toNat < 256 := by
    simp only [Int32.toBitVec_and, BitVec.toNat_and]
    exact Nat.lt_succ_of_le Nat.and_le_right
  refine ⟨⟨_, h⟩, ?_⟩
  apply Int32.toBitVec_inj.mp
  show _ = BitVec.ofNat 32 _
  rw [BitVec.ofNat_toNat]; simp
theorem own_and255 (x : Int32) : ¬ nar .char ((x &&& (255 : Int32)).toUInt32.toUInt16.toUInt32.toInt32) < 0 ∧ ¬ (255 : Int32) < nar .char ((x &&& (255 : Int32)).toUInt32.toUInt16.toUInt32.toInt32) := by
  have t : ∀ k : Fin 256, ¬ nar .char ((Int32.ofNat k.val).toUInt32.toUInt16.toUInt32.toInt32) < 0 ∧ ¬ (255 : Int32) < nar .char ((Int32.ofNat k.val).toUInt32.toUInt16.toUInt32.toInt32) := by decide +kernel
  obtain ⟨k, e⟩ := own_k256 x
  rw [e]; exact t k
theorem own_and255b (x : Int32) : ¬ ((x &&& (255 : Int32)).toUInt32.toUInt16.toUInt32.toInt32) < 0 ∧ ¬ (255 : Int32) < ((x &&& (255 : Int32)).toUInt32.toUInt16.toUInt32.toInt32) := by
  have t : ∀ k : Fin 256, ¬ ((Int32.ofNat k.val).toUInt32.toUInt16.toUInt32.toInt32) < 0 ∧ ¬ (255 : Int32) < ((Int32.ofNat k.val).toUInt32.toUInt16.toUInt32.toInt32) := by decide +kernel
  obtain ⟨k, e⟩ := own_k256 x
  rw [e]; exact t k
theorem own_two {P : Int32 → Prop} {a b : Int32} (h : P a) (k : P b) : ∀ c ∈ ([a, b] : List Int32), P c := fun c hc => by
  simp only [List.mem_cons, List.not_mem_nil, or_false] at hc
  rcases hc with rfl | rfl
  · exact h
  · exact k
theorem own_and3 (x : Int32) : x &&& 3 = 0 ∨ x &&& 3 = 1 ∨ x &&& 3 = 2 ∨ x &&& 3 = 3 := by
  have h := c_mask x 3 2 (by decide) (by decide)
  have h' : (x &&& 3).toInt = 0 ∨ (x &&& 3).toInt = 1 ∨ (x &&& 3).toInt = 2 ∨ (x &&& 3).toInt = 3 := by rw [h]; omega
  rcases h' with h' | h' | h' | h'
  · exact Or.inl (Int32.toInt_inj.mp h')
  · exact Or.inr (Or.inl (Int32.toInt_inj.mp h'))
  · exact Or.inr (Or.inr (Or.inl (Int32.toInt_inj.mp h')))
  · exact Or.inr (Or.inr (Or.inr (Int32.toInt_inj.mp h')))

theorem own_narc (x : Int32) : nar .char ((x &&& (255 : Int32)).toUInt32.toUInt16.toUInt32.toInt32) = ((x &&& (255 : Int32)).toUInt32.toUInt16.toUInt32.toInt32) := by
  have t : ∀ k : Fin 256, nar .char ((Int32.ofNat k.val).toUInt32.toUInt16.toUInt32.toInt32) = ((Int32.ofNat k.val).toUInt32.toUInt16.toUInt32.toInt32) := by decide +kernel
  obtain ⟨k, e⟩ := own_k256 x
  rw [e]; exact t k
theorem own_no65 {L : List Int32} (h : ∀ c ∈ L, ¬ c < 0 ∧ ¬ (255 : Int32) < c) : ∀ c ∈ L, ¬ c < 0 ∧ ¬ (65535 : Int32) < c := fun c hc => ⟨(h c hc).1, fun q => (h c hc).2 (by
  rw [Int32.lt_iff_toInt_lt] at q ⊢
  have e1 : (65535 : Int32).toInt = 65535 := rfl
  have e2 : (255 : Int32).toInt = 255 := rfl
  omega)⟩
theorem own_alli {P : Int32 → Prop} {a : Int32} {L : List Int32} (h : P a) (k : ∀ c ∈ L, P c) : ∀ c ∈ a :: L, P c := fun c hc => (List.mem_cons.mp hc).elim (fun e => e ▸ h) (k c)
theorem own_no255 {L : List Int32} (h : ∀ c ∈ L, ¬ c < 0 ∧ ¬ (255 : Int32) < c) : ∀ c ∈ L, ¬ (255 : Int32) < c := fun c hc => (h c hc).2
def QS0 (Z : State) (x : Addr) (h0 : Heap) (n0 : Nat) (v : Option Value) (h : Heap) (L : List Loc) : Prop := v = none ∧ Fr n0 L ∧ Keep h0 h [x] ∧ ∃ (t : Addr) (k : ClassId), STF Z h x t k (0 : Int32) []
def QUn (Z : State) (n : Int32) (vs : List Value) (h0 : Heap) (n0 : Nat) (v : Option Value) (h : Heap) (L : List Loc) : Prop := ∃ (r x t : Addr) (k : ClassId), v = some (.ref r) ∧ Fr n0 L ∧ Keep h0 h [] ∧ Exa Z h r "com/example/queryloom/queryloom/translation/TranslationException" ∧ Fld Z h r "java/lang/Throwable" "detailMessage" "Ljava/lang/String;" (.ref x) ∧ STF Z h x t k n vs
def Q0 (h0 : Heap) (n0 : Nat) (v : Option Value) (h : Heap) (L : List Loc) : Prop := v = some (.int (1 : Int32)) ∧ Fr n0 L
theorem own_untK {h h' : Heap} {a : Addr} {ws : List Addr} (N : Unt h a) (K : Keep h h' ws) (q : a ∉ ws) : Unt h' a := by
  obtain ⟨c, h1, r⟩ := N; exact ⟨c, K.2.1 _ _ h1 q, r⟩
abbrev cv_0 : List Value := [.int (0 : Int32), .int (0 : Int32), .int (0 : Int32), .int (0 : Int32), .int (0 : Int32), .int (0 : Int32), .int (0 : Int32), .int (0 : Int32), .int (0 : Int32), .int (0 : Int32), .int (0 : Int32), .int (0 : Int32), .int (0 : Int32), .int (0 : Int32), .int (0 : Int32), .int (0 : Int32)]
abbrev cv_1 : List Value := [.int (0 : Int32), .int (0 : Int32), .int (0 : Int32), .int (0 : Int32), .int (0 : Int32), .int (0 : Int32), .int (0 : Int32), .int (0 : Int32), .int (0 : Int32), .int (0 : Int32), .int (0 : Int32), .int (0 : Int32), .int (0 : Int32), .int (0 : Int32), .int (0 : Int32), .int (0 : Int32), .int (0 : Int32), .int (0 : Int32), .int (0 : Int32), .int (0 : Int32), .int (0 : Int32), .int (0 : Int32), .int (0 : Int32), .int (0 : Int32), .int (0 : Int32), .int (0 : Int32), .int (0 : Int32), .int (0 : Int32), .int (0 : Int32), .int (0 : Int32), .int (0 : Int32), .int (0 : Int32), .int (0 : Int32), .int (0 : Int32)]
abbrev cv_2 : List Value := [.int (32 : Int32), .int (105 : Int32), .int (115 : Int32), .int (32 : Int32), .int (110 : Int32), .int (111 : Int32), .int (116 : Int32), .int (32 : Int32), .int (115 : Int32), .int (117 : Int32), .int (112 : Int32), .int (112 : Int32), .int (111 : Int32), .int (114 : Int32), .int (116 : Int32), .int (101 : Int32), .int (100 : Int32), .int (32 : Int32), .int (121 : Int32), .int (101 : Int32), .int (116 : Int32)]
abbrev ci_3 : List Int32 := [(32 : Int32), (105 : Int32), (115 : Int32), (32 : Int32), (110 : Int32), (111 : Int32), (116 : Int32), (32 : Int32), (115 : Int32), (117 : Int32), (112 : Int32), (112 : Int32), (111 : Int32), (114 : Int32), (116 : Int32), (101 : Int32), (100 : Int32), (32 : Int32), (121 : Int32), (101 : Int32), (116 : Int32)]
theorem own_lit : ∀ c ∈ (ci_3 : List Int32), ¬ c < 0 ∧ ¬ (255 : Int32) < c := by decide

def QTh (Z : State) (a : Addr) (msg : Value) (h0 : Heap) (n0 : Nat) (v : Option Value) (h : Heap) (L : List Loc) : Prop := v = none ∧ Fr n0 L ∧ Keep h0 h [a] ∧ Exa Z h a "com/example/queryloom/queryloom/translation/TranslationException" ∧ Fld Z h a "java/lang/Throwable" "detailMessage" "Ljava/lang/String;" msg
theorem own_fw {a0 : Array Value} {Z : State} (hw : ∀ d ∈ tables_1, d.before a0 Z = true) : ∀ d ∈ fillW "com/example/queryloom/queryloom/translation/TranslationException", d.before a0 Z = true := fun d hd => hw d ((by decide +kernel : ∀ d ∈ fillW "com/example/queryloom/queryloom/translation/TranslationException", d ∈ tables_1) d hd)
theorem d32_0 : decode jdk_78_method_2_code 0 = .ok (.aload_n 0, 1) := by decide +kernel
theorem d32_1 : decode jdk_78_method_2_code 1 = .ok (.invokespecial 1, 3) := by decide +kernel
theorem d32_4 : decode jdk_78_method_2_code 4 = .ok (.aload_n 0, 1) := by decide +kernel
theorem d32_5 : decode jdk_78_method_2_code 5 = .ok (.aload_n 0, 1) := by decide +kernel
theorem d32_6 : decode jdk_78_method_2_code 6 = .ok (.putfield 7, 3) := by decide +kernel
theorem d32_9 : decode jdk_78_method_2_code 9 = .ok (.aload_n 0, 1) := by decide +kernel
theorem d32_10 : decode jdk_78_method_2_code 10 = .ok (.getstatic 13, 3) := by decide +kernel
theorem d32_13 : decode jdk_78_method_2_code 13 = .ok (.putfield 17, 3) := by decide +kernel
theorem d32_16 : decode jdk_78_method_2_code 16 = .ok (.aload_n 0, 1) := by decide +kernel
theorem d32_17 : decode jdk_78_method_2_code 17 = .ok (.getstatic 20, 3) := by decide +kernel
theorem d32_20 : decode jdk_78_method_2_code 20 = .ok (.putfield 24, 3) := by decide +kernel
theorem d32_23 : decode jdk_78_method_2_code 23 = .ok (.aload_n 0, 1) := by decide +kernel
theorem d32_24 : decode jdk_78_method_2_code 24 = .ok (.invokevirtual 27, 3) := by decide +kernel
theorem d32_27 : decode jdk_78_method_2_code 27 = .ok (.pop, 1) := by decide +kernel
theorem d32_28 : decode jdk_78_method_2_code 28 = .ok (.aload_n 0, 1) := by decide +kernel
theorem d32_29 : decode jdk_78_method_2_code 29 = .ok (.aload_n 1, 1) := by decide +kernel
theorem d32_30 : decode jdk_78_method_2_code 30 = .ok (.putfield 31, 3) := by decide +kernel
theorem d32_33 : decode jdk_78_method_2_code 33 = .ok (.return_, 1) := by decide +kernel
theorem pn_32 : plainName "java/lang/Throwable" = true := by first | (simp [plainName, overriddenIn]; done) | decide +kernel
theorem ef_32 (m : MethodId) (x0 : Addr) (x1 : Addr) : entryFrame m #[(.ref x0), (.ref x1)] 2 = mkF m 0 #[.val (.ref x0), .val (.ref x1)] [] := by first | (simp [entryFrame, mkF, argsToLocals, Value.category]; done) | rfl
theorem d31_0 : decode jdk_59_method_2_code 0 = .ok (.aload_n 0, 1) := by decide +kernel
theorem d31_1 : decode jdk_59_method_2_code 1 = .ok (.aload_n 1, 1) := by decide +kernel
theorem d31_2 : decode jdk_59_method_2_code 2 = .ok (.invokespecial 7, 3) := by decide +kernel
theorem pd_Ljava_lang_String__V : parseMethodDescriptor "(Ljava/lang/String;)V" = some ⟨[(.object "java/lang/String")], none⟩ := by decide +kernel
theorem d31_5 : decode jdk_59_method_2_code 5 = .ok (.return_, 1) := by decide +kernel
theorem pn_31 : plainName "java/lang/Exception" = true := by first | (simp [plainName, overriddenIn]; done) | decide +kernel
theorem ef_31 (m : MethodId) (x0 : Addr) (x1 : Addr) : entryFrame m #[(.ref x0), (.ref x1)] 2 = mkF m 0 #[.val (.ref x0), .val (.ref x1)] [] := by first | (simp [entryFrame, mkF, argsToLocals, Value.category]; done) | rfl
theorem d30_0 : decode prog_15_method_1_code 0 = .ok (.aload_n 0, 1) := by decide +kernel
theorem d30_1 : decode prog_15_method_1_code 1 = .ok (.aload_n 1, 1) := by decide +kernel
theorem d30_2 : decode prog_15_method_1_code 2 = .ok (.invokespecial 1, 3) := by decide +kernel
theorem d30_5 : decode prog_15_method_1_code 5 = .ok (.return_, 1) := by decide +kernel
theorem pn_30 : plainName "com/example/queryloom/queryloom/translation/TranslationException" = true := by first | (simp [plainName, overriddenIn]; done) | decide +kernel
theorem ef_30 (m : MethodId) (x0 : Addr) (x1 : Addr) : entryFrame m #[(.ref x0), (.ref x1)] 2 = mkF m 0 #[.val (.ref x0), .val (.ref x1)] [] := by first | (simp [entryFrame, mkF, argsToLocals, Value.category]; done) | rfl
theorem d35_0 : decode jdk_78_method_6_code 0 = .ok (.aload_n 0, 1) := by decide +kernel
theorem d35_1 : decode jdk_78_method_6_code 1 = .ok (.getfield 31, 3) := by decide +kernel
theorem d35_4 : decode jdk_78_method_6_code 4 = .ok (.areturn, 1) := by decide +kernel
theorem pn_35 : plainName "java/lang/Throwable" = true := by first | (simp [plainName, overriddenIn]; done) | decide +kernel
theorem ef_35 (m : MethodId) (x0 : Addr) : entryFrame m #[(.ref x0)] 1 = mkF m 0 #[.val (.ref x0)] [] := by first | (simp [entryFrame, mkF, argsToLocals, Value.category]; done) | rfl
theorem d2_0 : decode jdk_42_method_149_code 0 = .ok (.aload_n 0, 1) := by decide +kernel
theorem d2_1 : decode jdk_42_method_149_code 1 = .ok (.invokespecial 1, 3) := by decide +kernel
theorem d2_4 : decode jdk_42_method_149_code 4 = .ok (.iload_n 3, 1) := by decide +kernel
theorem d2_5 : decode jdk_42_method_149_code 5 = .ok (.ifCond .ne 22, 3) := by decide +kernel
theorem d2_8 : decode jdk_42_method_149_code 8 = .ok (.aload_n 0, 1) := by decide +kernel
theorem d2_9 : decode jdk_42_method_149_code 9 = .ok (.ldc 7, 2) := by decide +kernel
theorem d2_11 : decode jdk_42_method_149_code 11 = .ok (.getfield 9, 3) := by decide +kernel
theorem d2_14 : decode jdk_42_method_149_code 14 = .ok (.putfield 9, 3) := by decide +kernel
theorem d2_17 : decode jdk_42_method_149_code 17 = .ok (.aload_n 0, 1) := by decide +kernel
theorem d2_18 : decode jdk_42_method_149_code 18 = .ok (.ldc 7, 2) := by decide +kernel
theorem d2_20 : decode jdk_42_method_149_code 20 = .ok (.getfield 15, 3) := by decide +kernel
theorem d2_23 : decode jdk_42_method_149_code 23 = .ok (.putfield 15, 3) := by decide +kernel
theorem d2_26 : decode jdk_42_method_149_code 26 = .ok (.return_, 1) := by decide +kernel
theorem pn_2 : plainName "java/lang/String" = true := by first | (simp [plainName, overriddenIn]; done) | decide +kernel
theorem ef_2vvvvn (m : MethodId) (x0 : Addr) (x1 : Addr) (x2 : Int32) (x3 : Int32) : entryFrame m #[(.ref x0), (.ref x1), (.int x2), (.int x3), .null] 6 = mkF m 0 #[.val (.ref x0), .val (.ref x1), .val (.int x2), .val (.int x3), .val .null, .unset] [] := by first | (simp [entryFrame, mkF, argsToLocals, Value.category]; done) | rfl
theorem d1_0 : decode jdk_42_method_3_code 0 = .ok (.aload_n 0, 1) := by decide +kernel
theorem d1_1 : decode jdk_42_method_3_code 1 = .ok (.aload_n 1, 1) := by decide +kernel
theorem d1_2 : decode jdk_42_method_3_code 2 = .ok (.iconst 0, 1) := by decide +kernel
theorem d1_3 : decode jdk_42_method_3_code 3 = .ok (.aload_n 1, 1) := by decide +kernel
theorem d1_4 : decode jdk_42_method_3_code 4 = .ok (.arraylength, 1) := by decide +kernel
theorem d1_5 : decode jdk_42_method_3_code 5 = .ok (.aconst_null, 1) := by decide +kernel
theorem d1_6 : decode jdk_42_method_3_code 6 = .ok (.invokespecial 27, 3) := by decide +kernel
theorem pd_ACIILjava_lang_Void__V : parseMethodDescriptor "([CIILjava/lang/Void;)V" = some ⟨[(.array .char), .int, .int, (.object "java/lang/Void")], none⟩ := by decide +kernel
theorem d1_9 : decode jdk_42_method_3_code 9 = .ok (.return_, 1) := by decide +kernel
theorem pn_1 : plainName "java/lang/String" = true := by first | (simp [plainName, overriddenIn]; done) | decide +kernel
theorem ef_1 (m : MethodId) (x0 : Addr) (x1 : Addr) : entryFrame m #[(.ref x0), (.ref x1)] 2 = mkF m 0 #[.val (.ref x0), .val (.ref x1)] [] := by first | (simp [entryFrame, mkF, argsToLocals, Value.category]; done) | rfl
theorem d4_0 : decode prog_15_method_2_code 0 = .ok (.new 7, 3) := by decide +kernel
theorem d4_3 : decode prog_15_method_2_code 3 = .ok (.dup, 1) := by decide +kernel
theorem d4_4 : decode prog_15_method_2_code 4 = .ok (.new 9, 3) := by decide +kernel
theorem d4_7 : decode prog_15_method_2_code 7 = .ok (.dup, 1) := by decide +kernel
theorem d4_8 : decode prog_15_method_2_code 8 = .ok (.invokespecial 11, 3) := by decide +kernel
theorem d5_0 : decode jdk_67_method_1_code 0 = .ok (.aload_n 0, 1) := by decide +kernel
theorem d5_1 : decode jdk_67_method_1_code 1 = .ok (.bipush 16, 2) := by decide +kernel
theorem d5_3 : decode jdk_67_method_1_code 3 = .ok (.invokespecial 1, 3) := by decide +kernel
theorem d6_0 : decode jdk_68_method_2_code 0 = .ok (.aload_n 0, 1) := by decide +kernel
theorem d6_1 : decode jdk_68_method_2_code 1 = .ok (.invokespecial 3, 3) := by decide +kernel
theorem d6_4 : decode jdk_68_method_2_code 4 = .ok (.getstatic 18, 3) := by decide +kernel
theorem d6_7 : decode jdk_68_method_2_code 7 = .ok (.ifCond .eq 18, 3) := by decide +kernel
theorem d6_10 : decode jdk_68_method_2_code 10 = .ok (.aload_n 0, 1) := by decide +kernel
theorem d6_11 : decode jdk_68_method_2_code 11 = .ok (.iload_n 1, 1) := by decide +kernel
theorem d6_12 : decode jdk_68_method_2_code 12 = .ok (.newarray .byte, 2) := by decide +kernel
theorem d6_14 : decode jdk_68_method_2_code 14 = .ok (.putfield 15, 3) := by decide +kernel
theorem d6_17 : decode jdk_68_method_2_code 17 = .ok (.aload_n 0, 1) := by decide +kernel
theorem d6_18 : decode jdk_68_method_2_code 18 = .ok (.iconst 0, 1) := by decide +kernel
theorem d6_19 : decode jdk_68_method_2_code 19 = .ok (.putfield 22, 3) := by decide +kernel
theorem d6_22 : decode jdk_68_method_2_code 22 = .ok (.goto 16, 3) := by decide +kernel
theorem d6_38 : decode jdk_68_method_2_code 38 = .ok (.return_, 1) := by decide +kernel
theorem pn_6 : plainName "java/lang/AbstractStringBuilder" = true := by first | (simp [plainName, overriddenIn]; done) | decide +kernel
theorem ef_6 (m : MethodId) (x0 : Addr) (x1 : Int32) : entryFrame m #[(.ref x0), (.int x1)] 2 = mkF m 0 #[.val (.ref x0), .val (.int x1)] [] := by first | (simp [entryFrame, mkF, argsToLocals, Value.category]; done) | rfl
theorem pd_I_V : parseMethodDescriptor "(I)V" = some ⟨[.int], none⟩ := by decide +kernel
theorem d5_6 : decode jdk_67_method_1_code 6 = .ok (.return_, 1) := by decide +kernel
theorem pn_5 : plainName "java/lang/StringBuilder" = true := by first | (simp [plainName, overriddenIn]; done) | decide +kernel
theorem ef_5 (m : MethodId) (x0 : Addr) : entryFrame m #[(.ref x0)] 1 = mkF m 0 #[.val (.ref x0)] [] := by first | (simp [entryFrame, mkF, argsToLocals, Value.category]; done) | rfl
theorem pd__V : parseMethodDescriptor "()V" = some ⟨[], none⟩ := by decide +kernel
theorem d4_11 : decode prog_15_method_2_code 11 = .ok (.aload_n 0, 1) := by decide +kernel
theorem d4_12 : decode prog_15_method_2_code 12 = .ok (.invokevirtual 14, 3) := by decide +kernel
theorem d7_0 : decode jdk_67_method_7_code 0 = .ok (.aload_n 0, 1) := by decide +kernel
theorem d7_1 : decode jdk_67_method_7_code 1 = .ok (.aload_n 1, 1) := by decide +kernel
theorem d7_2 : decode jdk_67_method_7_code 2 = .ok (.invokespecial 29, 3) := by decide +kernel
theorem d8_0 : decode jdk_68_method_22_code 0 = .ok (.aload_n 1, 1) := by decide +kernel
theorem d8_1 : decode jdk_68_method_22_code 1 = .ok (.ifnonnull 8, 3) := by decide +kernel
theorem d8_9 : decode jdk_68_method_22_code 9 = .ok (.aload_n 1, 1) := by decide +kernel
theorem d8_10 : decode jdk_68_method_22_code 10 = .ok (.invokevirtual 32, 3) := by decide +kernel
theorem d9_0 : decode jdk_42_method_54_code 0 = .ok (.aload_n 0, 1) := by decide +kernel
theorem d9_1 : decode jdk_42_method_54_code 1 = .ok (.getfield 9, 3) := by decide +kernel
theorem d9_4 : decode jdk_42_method_54_code 4 = .ok (.arraylength, 1) := by decide +kernel
theorem d9_5 : decode jdk_42_method_54_code 5 = .ok (.aload_n 0, 1) := by decide +kernel
theorem d9_6 : decode jdk_42_method_54_code 6 = .ok (.invokevirtual 335, 3) := by decide +kernel
theorem d10_0 : decode jdk_42_method_152_code 0 = .ok (.getstatic 38, 3) := by decide +kernel
theorem d10_3 : decode jdk_42_method_152_code 3 = .ok (.ifCond .eq 10, 3) := by decide +kernel
theorem d10_6 : decode jdk_42_method_152_code 6 = .ok (.aload_n 0, 1) := by decide +kernel
theorem d10_7 : decode jdk_42_method_152_code 7 = .ok (.getfield 15, 3) := by decide +kernel
theorem d10_10 : decode jdk_42_method_152_code 10 = .ok (.goto 4, 3) := by decide +kernel
theorem d10_14 : decode jdk_42_method_152_code 14 = .ok (.ireturn, 1) := by decide +kernel
theorem pn_10 : plainName "java/lang/String" = true := by first | (simp [plainName, overriddenIn]; done) | decide +kernel
theorem ef_10 (m : MethodId) (x0 : Addr) : entryFrame m #[(.ref x0)] 1 = mkF m 0 #[.val (.ref x0)] [] := by first | (simp [entryFrame, mkF, argsToLocals, Value.category]; done) | rfl
theorem pd__B : parseMethodDescriptor "()B" = some ⟨[], some .byte⟩ := by decide +kernel
theorem d9_9 : decode jdk_42_method_54_code 9 = .ok (.ishr, 1) := by decide +kernel
theorem d9_10 : decode jdk_42_method_54_code 10 = .ok (.ireturn, 1) := by decide +kernel
theorem pn_9 : plainName "java/lang/String" = true := by first | (simp [plainName, overriddenIn]; done) | decide +kernel
theorem ef_9 (m : MethodId) (x0 : Addr) : entryFrame m #[(.ref x0)] 1 = mkF m 0 #[.val (.ref x0)] [] := by first | (simp [entryFrame, mkF, argsToLocals, Value.category]; done) | rfl
theorem pd__I : parseMethodDescriptor "()I" = some ⟨[], some .int⟩ := by decide +kernel
theorem d8_13 : decode jdk_68_method_22_code 13 = .ok (.istore_n 2, 1) := by decide +kernel
theorem d8_14 : decode jdk_68_method_22_code 14 = .ok (.aload_n 0, 1) := by decide +kernel
theorem d8_15 : decode jdk_68_method_22_code 15 = .ok (.aload_n 0, 1) := by decide +kernel
theorem d8_16 : decode jdk_68_method_22_code 16 = .ok (.getfield 79, 3) := by decide +kernel
theorem d8_19 : decode jdk_68_method_22_code 19 = .ok (.iload_n 2, 1) := by decide +kernel
theorem d8_20 : decode jdk_68_method_22_code 20 = .ok (.iadd, 1) := by decide +kernel
theorem d8_21 : decode jdk_68_method_22_code 21 = .ok (.invokevirtual 100, 3) := by decide +kernel
theorem d11_0 : decode jdk_68_method_9_code 0 = .ok (.aload_n 0, 1) := by decide +kernel
theorem d11_1 : decode jdk_68_method_9_code 1 = .ok (.getfield 15, 3) := by decide +kernel
theorem d11_4 : decode jdk_68_method_9_code 4 = .ok (.arraylength, 1) := by decide +kernel
theorem d11_5 : decode jdk_68_method_9_code 5 = .ok (.aload_n 0, 1) := by decide +kernel
theorem d11_6 : decode jdk_68_method_9_code 6 = .ok (.getfield 22, 3) := by decide +kernel
theorem d11_9 : decode jdk_68_method_9_code 9 = .ok (.ishr, 1) := by decide +kernel
theorem d11_10 : decode jdk_68_method_9_code 10 = .ok (.istore_n 2, 1) := by decide +kernel
theorem d11_11 : decode jdk_68_method_9_code 11 = .ok (.iload_n 1, 1) := by decide +kernel
theorem d11_12 : decode jdk_68_method_9_code 12 = .ok (.iload_n 2, 1) := by decide +kernel
theorem d11_13 : decode jdk_68_method_9_code 13 = .ok (.isub, 1) := by decide +kernel
theorem d11_14 : decode jdk_68_method_9_code 14 = .ok (.ifCond .le 24, 3) := by decide +kernel
theorem d11_38 : decode jdk_68_method_9_code 38 = .ok (.return_, 1) := by decide +kernel
theorem pn_11 : plainName "java/lang/AbstractStringBuilder" = true := by first | (simp [plainName, overriddenIn]; done) | decide +kernel
theorem ef_11 (m : MethodId) (x0 : Addr) (x1 : Int32) : entryFrame m #[(.ref x0), (.int x1)] 3 = mkF m 0 #[.val (.ref x0), .val (.int x1), .unset] [] := by first | (simp [entryFrame, mkF, argsToLocals, Value.category]; done) | rfl
theorem d8_24 : decode jdk_68_method_22_code 24 = .ok (.aload_n 0, 1) := by decide +kernel
theorem d8_25 : decode jdk_68_method_22_code 25 = .ok (.aload_n 0, 1) := by decide +kernel
theorem d8_26 : decode jdk_68_method_22_code 26 = .ok (.getfield 79, 3) := by decide +kernel
theorem d8_29 : decode jdk_68_method_22_code 29 = .ok (.aload_n 1, 1) := by decide +kernel
theorem d8_30 : decode jdk_68_method_22_code 30 = .ok (.invokevirtual 208, 3) := by decide +kernel
theorem d12_0 : decode jdk_68_method_73_code 0 = .ok (.aload_n 0, 1) := by decide +kernel
theorem d12_1 : decode jdk_68_method_73_code 1 = .ok (.aload_n 2, 1) := by decide +kernel
theorem d12_2 : decode jdk_68_method_73_code 2 = .ok (.invokevirtual 397, 3) := by decide +kernel
theorem d13_0 : decode jdk_68_method_71_code 0 = .ok (.getstatic 18, 3) := by decide +kernel
theorem d13_3 : decode jdk_68_method_71_code 3 = .ok (.ifCond .eq 18, 3) := by decide +kernel
theorem d13_6 : decode jdk_68_method_71_code 6 = .ok (.aload_n 0, 1) := by decide +kernel
theorem d13_7 : decode jdk_68_method_71_code 7 = .ok (.getfield 22, 3) := by decide +kernel
theorem d13_10 : decode jdk_68_method_71_code 10 = .ok (.aload_n 1, 1) := by decide +kernel
theorem d13_11 : decode jdk_68_method_71_code 11 = .ok (.invokevirtual 40, 3) := by decide +kernel
theorem d13_14 : decode jdk_68_method_71_code 14 = .ok (.if_icmp .eq 7, 3) := by decide +kernel
theorem d13_21 : decode jdk_68_method_71_code 21 = .ok (.return_, 1) := by decide +kernel
theorem pn_13 : plainName "java/lang/AbstractStringBuilder" = true := by first | (simp [plainName, overriddenIn]; done) | decide +kernel
theorem ef_13 (m : MethodId) (x0 : Addr) (x1 : Addr) : entryFrame m #[(.ref x0), (.ref x1)] 2 = mkF m 0 #[.val (.ref x0), .val (.ref x1)] [] := by first | (simp [entryFrame, mkF, argsToLocals, Value.category]; done) | rfl
theorem d12_5 : decode jdk_68_method_73_code 5 = .ok (.aload_n 2, 1) := by decide +kernel
theorem d12_6 : decode jdk_68_method_73_code 6 = .ok (.aload_n 0, 1) := by decide +kernel
theorem d12_7 : decode jdk_68_method_73_code 7 = .ok (.getfield 15, 3) := by decide +kernel
theorem d12_10 : decode jdk_68_method_73_code 10 = .ok (.iload_n 1, 1) := by decide +kernel
theorem d12_11 : decode jdk_68_method_73_code 11 = .ok (.aload_n 0, 1) := by decide +kernel
theorem d12_12 : decode jdk_68_method_73_code 12 = .ok (.getfield 22, 3) := by decide +kernel
theorem d12_15 : decode jdk_68_method_73_code 15 = .ok (.invokevirtual 399, 3) := by decide +kernel
theorem d14_0 : decode jdk_42_method_147_code 0 = .ok (.aload_n 0, 1) := by decide +kernel
theorem d14_1 : decode jdk_42_method_147_code 1 = .ok (.invokevirtual 335, 3) := by decide +kernel
theorem d14_4 : decode jdk_42_method_147_code 4 = .ok (.iload_n 3, 1) := by decide +kernel
theorem d14_5 : decode jdk_42_method_147_code 5 = .ok (.if_icmp .ne 23, 3) := by decide +kernel
theorem d14_8 : decode jdk_42_method_147_code 8 = .ok (.aload_n 0, 1) := by decide +kernel
theorem d14_9 : decode jdk_42_method_147_code 9 = .ok (.getfield 9, 3) := by decide +kernel
theorem d14_12 : decode jdk_42_method_147_code 12 = .ok (.iconst 0, 1) := by decide +kernel
theorem d14_13 : decode jdk_42_method_147_code 13 = .ok (.aload_n 1, 1) := by decide +kernel
theorem d14_14 : decode jdk_42_method_147_code 14 = .ok (.iload_n 2, 1) := by decide +kernel
theorem d14_15 : decode jdk_42_method_147_code 15 = .ok (.iload_n 3, 1) := by decide +kernel
theorem d14_16 : decode jdk_42_method_147_code 16 = .ok (.ishl, 1) := by decide +kernel
theorem d14_17 : decode jdk_42_method_147_code 17 = .ok (.aload_n 0, 1) := by decide +kernel
theorem d14_18 : decode jdk_42_method_147_code 18 = .ok (.getfield 9, 3) := by decide +kernel
theorem d14_21 : decode jdk_42_method_147_code 21 = .ok (.arraylength, 1) := by decide +kernel
theorem d14_22 : decode jdk_42_method_147_code 22 = .ok (.invokestatic 212, 3) := by decide +kernel
theorem d14_25 : decode jdk_42_method_147_code 25 = .ok (.goto 18, 3) := by decide +kernel
theorem d14_43 : decode jdk_42_method_147_code 43 = .ok (.return_, 1) := by decide +kernel
theorem pn_14 : plainName "java/lang/String" = true := by first | (simp [plainName, overriddenIn]; done) | decide +kernel
theorem ef_14 (m : MethodId) (x0 : Addr) (x1 : Addr) (x2 : Int32) (x3 : Int32) : entryFrame m #[(.ref x0), (.ref x1), (.int x2), (.int x3)] 4 = mkF m 0 #[.val (.ref x0), .val (.ref x1), .val (.int x2), .val (.int x3)] [] := by first | (simp [entryFrame, mkF, argsToLocals, Value.category]; done) | rfl
theorem pd_ABIB_V : parseMethodDescriptor "([BIB)V" = some ⟨[(.array .byte), .int, .byte], none⟩ := by decide +kernel
theorem d12_18 : decode jdk_68_method_73_code 18 = .ok (.return_, 1) := by decide +kernel
theorem pn_12 : plainName "java/lang/AbstractStringBuilder" = true := by first | (simp [plainName, overriddenIn]; done) | decide +kernel
theorem ef_12 (m : MethodId) (x0 : Addr) (x1 : Int32) (x2 : Addr) : entryFrame m #[(.ref x0), (.int x1), (.ref x2)] 3 = mkF m 0 #[.val (.ref x0), .val (.int x1), .val (.ref x2)] [] := by first | (simp [entryFrame, mkF, argsToLocals, Value.category]; done) | rfl
theorem pd_ILjava_lang_String__V : parseMethodDescriptor "(ILjava/lang/String;)V" = some ⟨[.int, (.object "java/lang/String")], none⟩ := by decide +kernel
theorem d8_33 : decode jdk_68_method_22_code 33 = .ok (.aload_n 0, 1) := by decide +kernel
theorem d8_34 : decode jdk_68_method_22_code 34 = .ok (.dup, 1) := by decide +kernel
theorem d8_35 : decode jdk_68_method_22_code 35 = .ok (.getfield 79, 3) := by decide +kernel
theorem d8_38 : decode jdk_68_method_22_code 38 = .ok (.iload_n 2, 1) := by decide +kernel
theorem d8_39 : decode jdk_68_method_22_code 39 = .ok (.iadd, 1) := by decide +kernel
theorem d8_40 : decode jdk_68_method_22_code 40 = .ok (.putfield 79, 3) := by decide +kernel
theorem d8_43 : decode jdk_68_method_22_code 43 = .ok (.aload_n 0, 1) := by decide +kernel
theorem d8_44 : decode jdk_68_method_22_code 44 = .ok (.areturn, 1) := by decide +kernel
theorem pn_8 : plainName "java/lang/AbstractStringBuilder" = true := by first | (simp [plainName, overriddenIn]; done) | decide +kernel
theorem ef_8 (m : MethodId) (x0 : Addr) (x1 : Addr) : entryFrame m #[(.ref x0), (.ref x1)] 3 = mkF m 0 #[.val (.ref x0), .val (.ref x1), .unset] [] := by first | (simp [entryFrame, mkF, argsToLocals, Value.category]; done) | rfl
theorem pd_Ljava_lang_String__Ljava_lang_AbstractStringBuilder_ : parseMethodDescriptor "(Ljava/lang/String;)Ljava/lang/AbstractStringBuilder;" = some ⟨[(.object "java/lang/String")], some (.object "java/lang/AbstractStringBuilder")⟩ := by decide +kernel
theorem d7_5 : decode jdk_67_method_7_code 5 = .ok (.pop, 1) := by decide +kernel
theorem d7_6 : decode jdk_67_method_7_code 6 = .ok (.aload_n 0, 1) := by decide +kernel
theorem d7_7 : decode jdk_67_method_7_code 7 = .ok (.areturn, 1) := by decide +kernel
theorem pn_7 : plainName "java/lang/StringBuilder" = true := by first | (simp [plainName, overriddenIn]; done) | decide +kernel
theorem ef_7 (m : MethodId) (x0 : Addr) (x1 : Addr) : entryFrame m #[(.ref x0), (.ref x1)] 2 = mkF m 0 #[.val (.ref x0), .val (.ref x1)] [] := by first | (simp [entryFrame, mkF, argsToLocals, Value.category]; done) | rfl
theorem pd_Ljava_lang_String__Ljava_lang_StringBuilder_ : parseMethodDescriptor "(Ljava/lang/String;)Ljava/lang/StringBuilder;" = some ⟨[(.object "java/lang/String")], some (.object "java/lang/StringBuilder")⟩ := by decide +kernel
theorem d4_15 : decode prog_15_method_2_code 15 = .ok (.ldc 18, 2) := by decide +kernel
theorem d4_17 : decode prog_15_method_2_code 17 = .ok (.invokevirtual 14, 3) := by decide +kernel
theorem d11_17 : decode jdk_68_method_9_code 17 = .ok (.aload_n 0, 1) := by decide +kernel
theorem d11_18 : decode jdk_68_method_9_code 18 = .ok (.aload_n 0, 1) := by decide +kernel
theorem d11_19 : decode jdk_68_method_9_code 19 = .ok (.getfield 15, 3) := by decide +kernel
theorem d11_22 : decode jdk_68_method_9_code 22 = .ok (.aload_n 0, 1) := by decide +kernel
theorem d11_23 : decode jdk_68_method_9_code 23 = .ok (.iload_n 1, 1) := by decide +kernel
theorem d11_24 : decode jdk_68_method_9_code 24 = .ok (.invokevirtual 104, 3) := by decide +kernel
theorem d15_0 : decode jdk_68_method_10_code 0 = .ok (.aload_n 0, 1) := by decide +kernel
theorem d15_1 : decode jdk_68_method_10_code 1 = .ok (.getfield 15, 3) := by decide +kernel
theorem d15_4 : decode jdk_68_method_10_code 4 = .ok (.arraylength, 1) := by decide +kernel
theorem d15_5 : decode jdk_68_method_10_code 5 = .ok (.istore_n 2, 1) := by decide +kernel
theorem d15_6 : decode jdk_68_method_10_code 6 = .ok (.iload_n 1, 1) := by decide +kernel
theorem d15_7 : decode jdk_68_method_10_code 7 = .ok (.aload_n 0, 1) := by decide +kernel
theorem d15_8 : decode jdk_68_method_10_code 8 = .ok (.getfield 22, 3) := by decide +kernel
theorem d15_11 : decode jdk_68_method_10_code 11 = .ok (.ishl, 1) := by decide +kernel
theorem d15_12 : decode jdk_68_method_10_code 12 = .ok (.istore_n 3, 1) := by decide +kernel
theorem d15_13 : decode jdk_68_method_10_code 13 = .ok (.iload_n 3, 1) := by decide +kernel
theorem d15_14 : decode jdk_68_method_10_code 14 = .ok (.iload_n 2, 1) := by decide +kernel
theorem d15_15 : decode jdk_68_method_10_code 15 = .ok (.isub, 1) := by decide +kernel
theorem d15_16 : decode jdk_68_method_10_code 16 = .ok (.istore 4, 2) := by decide +kernel
theorem d15_18 : decode jdk_68_method_10_code 18 = .ok (.iload_n 2, 1) := by decide +kernel
theorem d15_19 : decode jdk_68_method_10_code 19 = .ok (.iload 4, 2) := by decide +kernel
theorem d15_21 : decode jdk_68_method_10_code 21 = .ok (.iload_n 2, 1) := by decide +kernel
theorem d15_22 : decode jdk_68_method_10_code 22 = .ok (.iconst 2, 1) := by decide +kernel
theorem d15_23 : decode jdk_68_method_10_code 23 = .ok (.aload_n 0, 1) := by decide +kernel
theorem d15_24 : decode jdk_68_method_10_code 24 = .ok (.getfield 22, 3) := by decide +kernel
theorem d15_27 : decode jdk_68_method_10_code 27 = .ok (.ishl, 1) := by decide +kernel
theorem d15_28 : decode jdk_68_method_10_code 28 = .ok (.iadd, 1) := by decide +kernel
theorem d15_29 : decode jdk_68_method_10_code 29 = .ok (.invokestatic 114, 3) := by decide +kernel
theorem d16_0 : decode jdk_48_method_27_code 0 = .ok (.iload_n 0, 1) := by decide +kernel
theorem d16_1 : decode jdk_48_method_27_code 1 = .ok (.iload_n 1, 1) := by decide +kernel
theorem d16_2 : decode jdk_48_method_27_code 2 = .ok (.iload_n 2, 1) := by decide +kernel
theorem d16_3 : decode jdk_48_method_27_code 3 = .ok (.invokestatic 194, 3) := by decide +kernel
theorem d17_0 : decode jdk_29_method_65_code 0 = .ok (.iload_n 0, 1) := by decide +kernel
theorem d17_1 : decode jdk_29_method_65_code 1 = .ok (.iload_n 1, 1) := by decide +kernel
theorem d17_2 : decode jdk_29_method_65_code 2 = .ok (.if_icmp .lt 7, 3) := by decide +kernel
theorem d17_9 : decode jdk_29_method_65_code 9 = .ok (.iload_n 1, 1) := by decide +kernel
theorem d17_10 : decode jdk_29_method_65_code 10 = .ok (.ireturn, 1) := by decide +kernel
theorem ef_17 (m : MethodId) (x0 : Int32) (x1 : Int32) : entryFrame m #[(.int x0), (.int x1)] 2 = mkF m 0 #[.val (.int x0), .val (.int x1)] [] := by first | (simp [entryFrame, mkF, argsToLocals, Value.category]; done) | rfl
theorem pd_II_I : parseMethodDescriptor "(II)I" = some ⟨[.int, .int], some .int⟩ := by decide +kernel
theorem d16_6 : decode jdk_48_method_27_code 6 = .ok (.iadd, 1) := by decide +kernel
theorem d16_7 : decode jdk_48_method_27_code 7 = .ok (.istore_n 3, 1) := by decide +kernel
theorem d16_8 : decode jdk_48_method_27_code 8 = .ok (.iconst 0, 1) := by decide +kernel
theorem d16_9 : decode jdk_48_method_27_code 9 = .ok (.iload_n 3, 1) := by decide +kernel
theorem d16_10 : decode jdk_48_method_27_code 10 = .ok (.if_icmp .ge 11, 3) := by decide +kernel
theorem d16_13 : decode jdk_48_method_27_code 13 = .ok (.iload_n 3, 1) := by decide +kernel
theorem d16_14 : decode jdk_48_method_27_code 14 = .ok (.ldc 200, 2) := by decide +kernel
theorem d16_16 : decode jdk_48_method_27_code 16 = .ok (.if_icmp .gt 5, 3) := by decide +kernel
theorem d16_19 : decode jdk_48_method_27_code 19 = .ok (.iload_n 3, 1) := by decide +kernel
theorem d16_20 : decode jdk_48_method_27_code 20 = .ok (.ireturn, 1) := by decide +kernel
theorem pn_16 : plainName "jdk/internal/util/ArraysSupport" = true := by first | (simp [plainName, overriddenIn]; done) | decide +kernel
theorem ef_16 (m : MethodId) (x0 : Int32) (x1 : Int32) (x2 : Int32) : entryFrame m #[(.int x0), (.int x1), (.int x2)] 4 = mkF m 0 #[.val (.int x0), .val (.int x1), .val (.int x2), .unset] [] := by first | (simp [entryFrame, mkF, argsToLocals, Value.category]; done) | rfl
theorem pd_III_I : parseMethodDescriptor "(III)I" = some ⟨[.int, .int, .int], some .int⟩ := by decide +kernel
theorem d15_32 : decode jdk_68_method_10_code 32 = .ok (.istore 5, 2) := by decide +kernel
theorem d15_34 : decode jdk_68_method_10_code 34 = .ok (.iload 5, 2) := by decide +kernel
theorem d15_36 : decode jdk_68_method_10_code 36 = .ok (.ldc 39, 2) := by decide +kernel
theorem d15_38 : decode jdk_68_method_10_code 38 = .ok (.if_icmp .ne 13, 3) := by decide +kernel
theorem d15_51 : decode jdk_68_method_10_code 51 = .ok (.iload 5, 2) := by decide +kernel
theorem d15_53 : decode jdk_68_method_10_code 53 = .ok (.aload_n 0, 1) := by decide +kernel
theorem d15_54 : decode jdk_68_method_10_code 54 = .ok (.getfield 22, 3) := by decide +kernel
theorem d15_57 : decode jdk_68_method_10_code 57 = .ok (.ishr, 1) := by decide +kernel
theorem d15_58 : decode jdk_68_method_10_code 58 = .ok (.ireturn, 1) := by decide +kernel
theorem pn_15 : plainName "java/lang/AbstractStringBuilder" = true := by first | (simp [plainName, overriddenIn]; done) | decide +kernel
theorem ef_15 (m : MethodId) (x0 : Addr) (x1 : Int32) : entryFrame m #[(.ref x0), (.int x1)] 6 = mkF m 0 #[.val (.ref x0), .val (.int x1), .unset, .unset, .unset, .unset] [] := by first | (simp [entryFrame, mkF, argsToLocals, Value.category]; done) | rfl
theorem pd_I_I : parseMethodDescriptor "(I)I" = some ⟨[.int], some .int⟩ := by decide +kernel
theorem d11_27 : decode jdk_68_method_9_code 27 = .ok (.aload_n 0, 1) := by decide +kernel
theorem d11_28 : decode jdk_68_method_9_code 28 = .ok (.getfield 22, 3) := by decide +kernel
theorem d11_31 : decode jdk_68_method_9_code 31 = .ok (.ishl, 1) := by decide +kernel
theorem d11_32 : decode jdk_68_method_9_code 32 = .ok (.invokestatic 108, 3) := by decide +kernel
theorem d18_0 : decode jdk_65_method_121_code 0 = .ok (.iload_n 1, 1) := by decide +kernel
theorem d18_1 : decode jdk_65_method_121_code 1 = .ok (.aload_n 0, 1) := by decide +kernel
theorem d18_2 : decode jdk_65_method_121_code 2 = .ok (.arraylength, 1) := by decide +kernel
theorem d18_3 : decode jdk_65_method_121_code 3 = .ok (.if_icmp .ne 11, 3) := by decide +kernel
theorem d18_14 : decode jdk_65_method_121_code 14 = .ok (.iload_n 1, 1) := by decide +kernel
theorem d18_15 : decode jdk_65_method_121_code 15 = .ok (.newarray .byte, 2) := by decide +kernel
theorem d18_17 : decode jdk_65_method_121_code 17 = .ok (.astore_n 2, 1) := by decide +kernel
theorem d18_18 : decode jdk_65_method_121_code 18 = .ok (.aload_n 0, 1) := by decide +kernel
theorem d18_19 : decode jdk_65_method_121_code 19 = .ok (.iconst 0, 1) := by decide +kernel
theorem d18_20 : decode jdk_65_method_121_code 20 = .ok (.aload_n 2, 1) := by decide +kernel
theorem d18_21 : decode jdk_65_method_121_code 21 = .ok (.iconst 0, 1) := by decide +kernel
theorem d18_22 : decode jdk_65_method_121_code 22 = .ok (.aload_n 0, 1) := by decide +kernel
theorem d18_23 : decode jdk_65_method_121_code 23 = .ok (.arraylength, 1) := by decide +kernel
theorem d18_24 : decode jdk_65_method_121_code 24 = .ok (.iload_n 1, 1) := by decide +kernel
theorem d18_25 : decode jdk_65_method_121_code 25 = .ok (.invokestatic 304, 3) := by decide +kernel
theorem d19_0 : decode jdk_29_method_69_code 0 = .ok (.iload_n 0, 1) := by decide +kernel
theorem d19_1 : decode jdk_29_method_69_code 1 = .ok (.iload_n 1, 1) := by decide +kernel
theorem d19_2 : decode jdk_29_method_69_code 2 = .ok (.if_icmp .gt 7, 3) := by decide +kernel
theorem d19_5 : decode jdk_29_method_69_code 5 = .ok (.iload_n 0, 1) := by decide +kernel
theorem d19_6 : decode jdk_29_method_69_code 6 = .ok (.goto 4, 3) := by decide +kernel
theorem d19_10 : decode jdk_29_method_69_code 10 = .ok (.ireturn, 1) := by decide +kernel
theorem ef_19 (m : MethodId) (x0 : Int32) (x1 : Int32) : entryFrame m #[(.int x0), (.int x1)] 2 = mkF m 0 #[.val (.int x0), .val (.int x1)] [] := by first | (simp [entryFrame, mkF, argsToLocals, Value.category]; done) | rfl
theorem d18_28 : decode jdk_65_method_121_code 28 = .ok (.invokestatic 150, 3) := by decide +kernel
theorem d18_31 : decode jdk_65_method_121_code 31 = .ok (.aload_n 2, 1) := by decide +kernel
theorem d18_32 : decode jdk_65_method_121_code 32 = .ok (.areturn, 1) := by decide +kernel
theorem pn_18 : plainName "java/util/Arrays" = true := by first | (simp [plainName, overriddenIn]; done) | decide +kernel
theorem ef_18 (m : MethodId) (x0 : Addr) (x1 : Int32) : entryFrame m #[(.ref x0), (.int x1)] 3 = mkF m 0 #[.val (.ref x0), .val (.int x1), .unset] [] := by first | (simp [entryFrame, mkF, argsToLocals, Value.category]; done) | rfl
theorem pd_ABI_AB : parseMethodDescriptor "([BI)[B" = some ⟨[(.array .byte), .int], some (.array .byte)⟩ := by decide +kernel
theorem d11_35 : decode jdk_68_method_9_code 35 = .ok (.putfield 15, 3) := by decide +kernel
theorem d4_20 : decode prog_15_method_2_code 20 = .ok (.invokevirtual 20, 3) := by decide +kernel
theorem d20_0 : decode jdk_67_method_42_code 0 = .ok (.new 18, 3) := by decide +kernel
theorem d20_3 : decode jdk_67_method_42_code 3 = .ok (.dup, 1) := by decide +kernel
theorem d20_4 : decode jdk_67_method_42_code 4 = .ok (.aload_n 0, 1) := by decide +kernel
theorem d20_5 : decode jdk_67_method_42_code 5 = .ok (.invokespecial 137, 3) := by decide +kernel
theorem d21_0 : decode jdk_42_method_53_code 0 = .ok (.aload_n 0, 1) := by decide +kernel
theorem d21_1 : decode jdk_42_method_53_code 1 = .ok (.aload_n 1, 1) := by decide +kernel
theorem d21_2 : decode jdk_42_method_53_code 2 = .ok (.aconst_null, 1) := by decide +kernel
theorem d21_3 : decode jdk_42_method_53_code 3 = .ok (.invokespecial 489, 3) := by decide +kernel
theorem d22_0 : decode jdk_42_method_150_code 0 = .ok (.aload_n 0, 1) := by decide +kernel
theorem d22_1 : decode jdk_42_method_150_code 1 = .ok (.invokespecial 1, 3) := by decide +kernel
theorem d22_4 : decode jdk_42_method_150_code 4 = .ok (.aload_n 1, 1) := by decide +kernel
theorem d22_5 : decode jdk_42_method_150_code 5 = .ok (.invokevirtual 552, 3) := by decide +kernel
theorem d23_0 : decode jdk_68_method_64_code 0 = .ok (.aload_n 0, 1) := by decide +kernel
theorem d23_1 : decode jdk_68_method_64_code 1 = .ok (.getfield 15, 3) := by decide +kernel
theorem d23_4 : decode jdk_68_method_64_code 4 = .ok (.areturn, 1) := by decide +kernel
theorem pn_23 : plainName "java/lang/AbstractStringBuilder" = true := by first | (simp [plainName, overriddenIn]; done) | decide +kernel
theorem ef_23 (m : MethodId) (x0 : Addr) : entryFrame m #[(.ref x0)] 1 = mkF m 0 #[.val (.ref x0)] [] := by first | (simp [entryFrame, mkF, argsToLocals, Value.category]; done) | rfl
theorem pd__AB : parseMethodDescriptor "()[B" = some ⟨[], some (.array .byte)⟩ := by decide +kernel
theorem d22_8 : decode jdk_42_method_150_code 8 = .ok (.astore_n 3, 1) := by decide +kernel
theorem d22_9 : decode jdk_42_method_150_code 9 = .ok (.aload_n 1, 1) := by decide +kernel
theorem d22_10 : decode jdk_42_method_150_code 10 = .ok (.invokevirtual 549, 3) := by decide +kernel
theorem d24_0 : decode jdk_67_method_93_code 0 = .ok (.aload_n 0, 1) := by decide +kernel
theorem d24_1 : decode jdk_67_method_93_code 1 = .ok (.invokespecial 343, 3) := by decide +kernel
theorem d25_0 : decode jdk_68_method_6_code 0 = .ok (.aload_n 0, 1) := by decide +kernel
theorem d25_1 : decode jdk_68_method_6_code 1 = .ok (.getfield 79, 3) := by decide +kernel
theorem d25_4 : decode jdk_68_method_6_code 4 = .ok (.ireturn, 1) := by decide +kernel
theorem pn_25 : plainName "java/lang/AbstractStringBuilder" = true := by first | (simp [plainName, overriddenIn]; done) | decide +kernel
theorem ef_25 (m : MethodId) (x0 : Addr) : entryFrame m #[(.ref x0)] 1 = mkF m 0 #[.val (.ref x0)] [] := by first | (simp [entryFrame, mkF, argsToLocals, Value.category]; done) | rfl
theorem d24_4 : decode jdk_67_method_93_code 4 = .ok (.ireturn, 1) := by decide +kernel
theorem pn_24 : plainName "java/lang/StringBuilder" = true := by first | (simp [plainName, overriddenIn]; done) | decide +kernel
theorem ef_24 (m : MethodId) (x0 : Addr) : entryFrame m #[(.ref x0)] 1 = mkF m 0 #[.val (.ref x0)] [] := by first | (simp [entryFrame, mkF, argsToLocals, Value.category]; done) | rfl
theorem d22_13 : decode jdk_42_method_150_code 13 = .ok (.istore 4, 2) := by decide +kernel
theorem d22_15 : decode jdk_42_method_150_code 15 = .ok (.aload_n 1, 1) := by decide +kernel
theorem d22_16 : decode jdk_42_method_150_code 16 = .ok (.invokevirtual 1047, 3) := by decide +kernel
theorem d26_0 : decode jdk_68_method_68_code 0 = .ok (.getstatic 18, 3) := by decide +kernel
theorem d26_3 : decode jdk_68_method_68_code 3 = .ok (.ifCond .eq 14, 3) := by decide +kernel
theorem d26_6 : decode jdk_68_method_68_code 6 = .ok (.aload_n 0, 1) := by decide +kernel
theorem d26_7 : decode jdk_68_method_68_code 7 = .ok (.getfield 22, 3) := by decide +kernel
theorem d26_10 : decode jdk_68_method_68_code 10 = .ok (.ifCond .ne 7, 3) := by decide +kernel
theorem d26_13 : decode jdk_68_method_68_code 13 = .ok (.iconst 1, 1) := by decide +kernel
theorem d26_14 : decode jdk_68_method_68_code 14 = .ok (.goto 4, 3) := by decide +kernel
theorem d26_18 : decode jdk_68_method_68_code 18 = .ok (.ireturn, 1) := by decide +kernel
theorem pn_26 : plainName "java/lang/AbstractStringBuilder" = true := by first | (simp [plainName, overriddenIn]; done) | decide +kernel
theorem ef_26 (m : MethodId) (x0 : Addr) : entryFrame m #[(.ref x0)] 1 = mkF m 0 #[.val (.ref x0)] [] := by first | (simp [entryFrame, mkF, argsToLocals, Value.category]; done) | rfl
theorem pd__Z : parseMethodDescriptor "()Z" = some ⟨[], some .boolean⟩ := by decide +kernel
theorem d22_19 : decode jdk_42_method_150_code 19 = .ok (.ifCond .eq 22, 3) := by decide +kernel
theorem d22_22 : decode jdk_42_method_150_code 22 = .ok (.aload_n 0, 1) := by decide +kernel
theorem d22_23 : decode jdk_42_method_150_code 23 = .ok (.iconst 0, 1) := by decide +kernel
theorem d22_24 : decode jdk_42_method_150_code 24 = .ok (.putfield 15, 3) := by decide +kernel
theorem d22_27 : decode jdk_42_method_150_code 27 = .ok (.aload_n 0, 1) := by decide +kernel
theorem d22_28 : decode jdk_42_method_150_code 28 = .ok (.aload_n 3, 1) := by decide +kernel
theorem d22_29 : decode jdk_42_method_150_code 29 = .ok (.iconst 0, 1) := by decide +kernel
theorem d22_30 : decode jdk_42_method_150_code 30 = .ok (.iload 4, 2) := by decide +kernel
theorem d22_32 : decode jdk_42_method_150_code 32 = .ok (.invokestatic 54, 3) := by decide +kernel
theorem d27_0 : decode jdk_65_method_132_code 0 = .ok (.iload_n 1, 1) := by decide +kernel
theorem d27_1 : decode jdk_65_method_132_code 1 = .ok (.ifCond .ne 9, 3) := by decide +kernel
theorem d27_4 : decode jdk_65_method_132_code 4 = .ok (.iload_n 2, 1) := by decide +kernel
theorem d27_5 : decode jdk_65_method_132_code 5 = .ok (.aload_n 0, 1) := by decide +kernel
theorem d27_6 : decode jdk_65_method_132_code 6 = .ok (.arraylength, 1) := by decide +kernel
theorem d27_7 : decode jdk_65_method_132_code 7 = .ok (.if_icmp .eq 10, 3) := by decide +kernel
theorem d27_10 : decode jdk_65_method_132_code 10 = .ok (.aload_n 0, 1) := by decide +kernel
theorem d27_11 : decode jdk_65_method_132_code 11 = .ok (.iload_n 1, 1) := by decide +kernel
theorem d27_12 : decode jdk_65_method_132_code 12 = .ok (.iload_n 2, 1) := by decide +kernel
theorem d27_13 : decode jdk_65_method_132_code 13 = .ok (.invokestatic 339, 3) := by decide +kernel
theorem d28_0 : decode jdk_65_method_133_code 0 = .ok (.iload_n 1, 1) := by decide +kernel
theorem d28_1 : decode jdk_65_method_133_code 1 = .ok (.iload_n 2, 1) := by decide +kernel
theorem d28_2 : decode jdk_65_method_133_code 2 = .ok (.invokestatic 343, 3) := by decide +kernel
theorem d29_0 : decode jdk_65_method_131_code 0 = .ok (.iload_n 1, 1) := by decide +kernel
theorem d29_1 : decode jdk_65_method_131_code 1 = .ok (.iload_n 0, 1) := by decide +kernel
theorem d29_2 : decode jdk_65_method_131_code 2 = .ok (.if_icmp .ge 35, 3) := by decide +kernel
theorem d29_37 : decode jdk_65_method_131_code 37 = .ok (.return_, 1) := by decide +kernel
theorem pn_29 : plainName "java/util/Arrays" = true := by first | (simp [plainName, overriddenIn]; done) | decide +kernel
theorem ef_29 (m : MethodId) (x0 : Int32) (x1 : Int32) : entryFrame m #[(.int x0), (.int x1)] 2 = mkF m 0 #[.val (.int x0), .val (.int x1)] [] := by first | (simp [entryFrame, mkF, argsToLocals, Value.category]; done) | rfl
theorem pd_II_V : parseMethodDescriptor "(II)V" = some ⟨[.int, .int], none⟩ := by decide +kernel
theorem d28_5 : decode jdk_65_method_133_code 5 = .ok (.iload_n 2, 1) := by decide +kernel
theorem d28_6 : decode jdk_65_method_133_code 6 = .ok (.iload_n 1, 1) := by decide +kernel
theorem d28_7 : decode jdk_65_method_133_code 7 = .ok (.isub, 1) := by decide +kernel
theorem d28_8 : decode jdk_65_method_133_code 8 = .ok (.istore_n 3, 1) := by decide +kernel
theorem d28_9 : decode jdk_65_method_133_code 9 = .ok (.iload_n 3, 1) := by decide +kernel
theorem d28_10 : decode jdk_65_method_133_code 10 = .ok (.newarray .byte, 2) := by decide +kernel
theorem d28_12 : decode jdk_65_method_133_code 12 = .ok (.astore 4, 2) := by decide +kernel
theorem d28_14 : decode jdk_65_method_133_code 14 = .ok (.aload_n 0, 1) := by decide +kernel
theorem d28_15 : decode jdk_65_method_133_code 15 = .ok (.iload_n 1, 1) := by decide +kernel
theorem d28_16 : decode jdk_65_method_133_code 16 = .ok (.aload 4, 2) := by decide +kernel
theorem d28_18 : decode jdk_65_method_133_code 18 = .ok (.iconst 0, 1) := by decide +kernel
theorem d28_19 : decode jdk_65_method_133_code 19 = .ok (.aload_n 0, 1) := by decide +kernel
theorem d28_20 : decode jdk_65_method_133_code 20 = .ok (.arraylength, 1) := by decide +kernel
theorem d28_21 : decode jdk_65_method_133_code 21 = .ok (.iload_n 1, 1) := by decide +kernel
theorem d28_22 : decode jdk_65_method_133_code 22 = .ok (.isub, 1) := by decide +kernel
theorem d28_23 : decode jdk_65_method_133_code 23 = .ok (.iload_n 3, 1) := by decide +kernel
theorem d28_24 : decode jdk_65_method_133_code 24 = .ok (.invokestatic 304, 3) := by decide +kernel
theorem d19_9 : decode jdk_29_method_69_code 9 = .ok (.iload_n 1, 1) := by decide +kernel
theorem d28_27 : decode jdk_65_method_133_code 27 = .ok (.invokestatic 150, 3) := by decide +kernel
theorem d28_30 : decode jdk_65_method_133_code 30 = .ok (.aload 4, 2) := by decide +kernel
theorem d28_32 : decode jdk_65_method_133_code 32 = .ok (.areturn, 1) := by decide +kernel
theorem pn_28 : plainName "java/util/Arrays" = true := by first | (simp [plainName, overriddenIn]; done) | decide +kernel
theorem ef_28 (m : MethodId) (x0 : Addr) (x1 : Int32) (x2 : Int32) : entryFrame m #[(.ref x0), (.int x1), (.int x2)] 5 = mkF m 0 #[.val (.ref x0), .val (.int x1), .val (.int x2), .unset, .unset] [] := by first | (simp [entryFrame, mkF, argsToLocals, Value.category]; done) | rfl
theorem pd_ABII_AB : parseMethodDescriptor "([BII)[B" = some ⟨[(.array .byte), .int, .int], some (.array .byte)⟩ := by decide +kernel
theorem d27_16 : decode jdk_65_method_132_code 16 = .ok (.areturn, 1) := by decide +kernel
theorem pn_27 : plainName "java/util/Arrays" = true := by first | (simp [plainName, overriddenIn]; done) | decide +kernel
theorem ef_27 (m : MethodId) (x0 : Addr) (x1 : Int32) (x2 : Int32) : entryFrame m #[(.ref x0), (.int x1), (.int x2)] 3 = mkF m 0 #[.val (.ref x0), .val (.int x1), .val (.int x2)] [] := by first | (simp [entryFrame, mkF, argsToLocals, Value.category]; done) | rfl
theorem d22_35 : decode jdk_42_method_150_code 35 = .ok (.putfield 9, 3) := by decide +kernel
theorem d22_38 : decode jdk_42_method_150_code 38 = .ok (.goto 59, 3) := by decide +kernel
theorem d22_97 : decode jdk_42_method_150_code 97 = .ok (.return_, 1) := by decide +kernel
theorem pn_22 : plainName "java/lang/String" = true := by first | (simp [plainName, overriddenIn]; done) | decide +kernel
theorem ef_22vvn (m : MethodId) (x0 : Addr) (x1 : Addr) : entryFrame m #[(.ref x0), (.ref x1), .null] 5 = mkF m 0 #[.val (.ref x0), .val (.ref x1), .val .null, .unset, .unset] [] := by first | (simp [entryFrame, mkF, argsToLocals, Value.category]; done) | rfl
theorem pd_Ljava_lang_AbstractStringBuilder_Ljava_lang_Void__V : parseMethodDescriptor "(Ljava/lang/AbstractStringBuilder;Ljava/lang/Void;)V" = some ⟨[(.object "java/lang/AbstractStringBuilder"), (.object "java/lang/Void")], none⟩ := by decide +kernel
theorem d21_6 : decode jdk_42_method_53_code 6 = .ok (.return_, 1) := by decide +kernel
theorem pn_21 : plainName "java/lang/String" = true := by first | (simp [plainName, overriddenIn]; done) | decide +kernel
theorem ef_21 (m : MethodId) (x0 : Addr) (x1 : Addr) : entryFrame m #[(.ref x0), (.ref x1)] 2 = mkF m 0 #[.val (.ref x0), .val (.ref x1)] [] := by first | (simp [entryFrame, mkF, argsToLocals, Value.category]; done) | rfl
theorem pd_Ljava_lang_StringBuilder__V : parseMethodDescriptor "(Ljava/lang/StringBuilder;)V" = some ⟨[(.object "java/lang/StringBuilder")], none⟩ := by decide +kernel
theorem d20_8 : decode jdk_67_method_42_code 8 = .ok (.areturn, 1) := by decide +kernel
theorem pn_20 : plainName "java/lang/StringBuilder" = true := by first | (simp [plainName, overriddenIn]; done) | decide +kernel
theorem ef_20 (m : MethodId) (x0 : Addr) : entryFrame m #[(.ref x0)] 1 = mkF m 0 #[.val (.ref x0)] [] := by first | (simp [entryFrame, mkF, argsToLocals, Value.category]; done) | rfl
theorem pd__Ljava_lang_String_ : parseMethodDescriptor "()Ljava/lang/String;" = some ⟨[], some (.object "java/lang/String")⟩ := by decide +kernel
theorem d4_23 : decode prog_15_method_2_code 23 = .ok (.invokespecial 24, 3) := by decide +kernel
theorem d4_26 : decode prog_15_method_2_code 26 = .ok (.areturn, 1) := by decide +kernel
theorem pn_4 : plainName "com/example/queryloom/queryloom/translation/TranslationException" = true := by first | (simp [plainName, overriddenIn]; done) | decide +kernel
theorem ef_4 (m : MethodId) (x0 : Addr) : entryFrame m #[(.ref x0)] 1 = mkF m 0 #[.val (.ref x0)] [] := by first | (simp [entryFrame, mkF, argsToLocals, Value.category]; done) | rfl
theorem d36_0 : decode method_2_code 0 = .ok (.aload_n 0, 1) := by decide +kernel
theorem d36_1 : decode method_2_code 1 = .ok (.iload_n 1, 1) := by decide +kernel
theorem d36_2 : decode method_2_code 2 = .ok (.invokevirtual 7, 3) := by decide +kernel
theorem pd_I_C : parseMethodDescriptor "(I)C" = some ⟨[.int], some .char⟩ := by decide +kernel
theorem d36_5 : decode method_2_code 5 = .ok (.bipush 32, 2) := by decide +kernel
theorem d36_7 : decode method_2_code 7 = .ok (.if_icmp .ne 262, 3) := by decide +kernel
theorem d36_10 : decode method_2_code 10 = .ok (.aload_n 0, 1) := by decide +kernel
theorem d36_11 : decode method_2_code 11 = .ok (.iload_n 1, 1) := by decide +kernel
theorem d36_12 : decode method_2_code 12 = .ok (.iconst 1, 1) := by decide +kernel
theorem d36_13 : decode method_2_code 13 = .ok (.iadd, 1) := by decide +kernel
theorem d36_14 : decode method_2_code 14 = .ok (.invokevirtual 7, 3) := by decide +kernel
theorem d36_17 : decode method_2_code 17 = .ok (.bipush 105, 2) := by decide +kernel
theorem d36_19 : decode method_2_code 19 = .ok (.if_icmp .ne 250, 3) := by decide +kernel
theorem d36_22 : decode method_2_code 22 = .ok (.aload_n 0, 1) := by decide +kernel
theorem d36_23 : decode method_2_code 23 = .ok (.iload_n 1, 1) := by decide +kernel
theorem d36_24 : decode method_2_code 24 = .ok (.iconst 2, 1) := by decide +kernel
theorem d36_25 : decode method_2_code 25 = .ok (.iadd, 1) := by decide +kernel
theorem d36_26 : decode method_2_code 26 = .ok (.invokevirtual 7, 3) := by decide +kernel
theorem d36_29 : decode method_2_code 29 = .ok (.bipush 115, 2) := by decide +kernel
theorem d36_31 : decode method_2_code 31 = .ok (.if_icmp .ne 238, 3) := by decide +kernel
theorem d36_34 : decode method_2_code 34 = .ok (.aload_n 0, 1) := by decide +kernel
theorem d36_35 : decode method_2_code 35 = .ok (.iload_n 1, 1) := by decide +kernel
theorem d36_36 : decode method_2_code 36 = .ok (.iconst 3, 1) := by decide +kernel
theorem d36_37 : decode method_2_code 37 = .ok (.iadd, 1) := by decide +kernel
theorem d36_38 : decode method_2_code 38 = .ok (.invokevirtual 7, 3) := by decide +kernel
theorem d36_41 : decode method_2_code 41 = .ok (.bipush 32, 2) := by decide +kernel
theorem d36_43 : decode method_2_code 43 = .ok (.if_icmp .ne 226, 3) := by decide +kernel
theorem d36_46 : decode method_2_code 46 = .ok (.aload_n 0, 1) := by decide +kernel
theorem d36_47 : decode method_2_code 47 = .ok (.iload_n 1, 1) := by decide +kernel
theorem d36_48 : decode method_2_code 48 = .ok (.iconst 4, 1) := by decide +kernel
theorem d36_49 : decode method_2_code 49 = .ok (.iadd, 1) := by decide +kernel
theorem d36_50 : decode method_2_code 50 = .ok (.invokevirtual 7, 3) := by decide +kernel
theorem d36_53 : decode method_2_code 53 = .ok (.bipush 110, 2) := by decide +kernel
theorem d36_55 : decode method_2_code 55 = .ok (.if_icmp .ne 214, 3) := by decide +kernel
theorem d36_58 : decode method_2_code 58 = .ok (.aload_n 0, 1) := by decide +kernel
theorem d36_59 : decode method_2_code 59 = .ok (.iload_n 1, 1) := by decide +kernel
theorem d36_60 : decode method_2_code 60 = .ok (.iconst 5, 1) := by decide +kernel
theorem d36_61 : decode method_2_code 61 = .ok (.iadd, 1) := by decide +kernel
theorem d36_62 : decode method_2_code 62 = .ok (.invokevirtual 7, 3) := by decide +kernel
theorem d36_65 : decode method_2_code 65 = .ok (.bipush 111, 2) := by decide +kernel
theorem d36_67 : decode method_2_code 67 = .ok (.if_icmp .ne 202, 3) := by decide +kernel
theorem d36_70 : decode method_2_code 70 = .ok (.aload_n 0, 1) := by decide +kernel
theorem d36_71 : decode method_2_code 71 = .ok (.iload_n 1, 1) := by decide +kernel
theorem d36_72 : decode method_2_code 72 = .ok (.bipush 6, 2) := by decide +kernel
theorem d36_74 : decode method_2_code 74 = .ok (.iadd, 1) := by decide +kernel
theorem d36_75 : decode method_2_code 75 = .ok (.invokevirtual 7, 3) := by decide +kernel
theorem d36_78 : decode method_2_code 78 = .ok (.bipush 116, 2) := by decide +kernel
theorem d36_80 : decode method_2_code 80 = .ok (.if_icmp .ne 189, 3) := by decide +kernel
theorem d36_83 : decode method_2_code 83 = .ok (.aload_n 0, 1) := by decide +kernel
theorem d36_84 : decode method_2_code 84 = .ok (.iload_n 1, 1) := by decide +kernel
theorem d36_85 : decode method_2_code 85 = .ok (.bipush 7, 2) := by decide +kernel
theorem d36_87 : decode method_2_code 87 = .ok (.iadd, 1) := by decide +kernel
theorem d36_88 : decode method_2_code 88 = .ok (.invokevirtual 7, 3) := by decide +kernel
theorem d36_91 : decode method_2_code 91 = .ok (.bipush 32, 2) := by decide +kernel
theorem d36_93 : decode method_2_code 93 = .ok (.if_icmp .ne 176, 3) := by decide +kernel
theorem d36_96 : decode method_2_code 96 = .ok (.aload_n 0, 1) := by decide +kernel
theorem d36_97 : decode method_2_code 97 = .ok (.iload_n 1, 1) := by decide +kernel
theorem d36_98 : decode method_2_code 98 = .ok (.bipush 8, 2) := by decide +kernel
theorem d36_100 : decode method_2_code 100 = .ok (.iadd, 1) := by decide +kernel
theorem d36_101 : decode method_2_code 101 = .ok (.invokevirtual 7, 3) := by decide +kernel
theorem d36_104 : decode method_2_code 104 = .ok (.bipush 115, 2) := by decide +kernel
theorem d36_106 : decode method_2_code 106 = .ok (.if_icmp .ne 163, 3) := by decide +kernel
theorem d36_109 : decode method_2_code 109 = .ok (.aload_n 0, 1) := by decide +kernel
theorem d36_110 : decode method_2_code 110 = .ok (.iload_n 1, 1) := by decide +kernel
theorem d36_111 : decode method_2_code 111 = .ok (.bipush 9, 2) := by decide +kernel
theorem d36_113 : decode method_2_code 113 = .ok (.iadd, 1) := by decide +kernel
theorem d36_114 : decode method_2_code 114 = .ok (.invokevirtual 7, 3) := by decide +kernel
theorem d36_117 : decode method_2_code 117 = .ok (.bipush 117, 2) := by decide +kernel
theorem d36_119 : decode method_2_code 119 = .ok (.if_icmp .ne 150, 3) := by decide +kernel
theorem d36_122 : decode method_2_code 122 = .ok (.aload_n 0, 1) := by decide +kernel
theorem d36_123 : decode method_2_code 123 = .ok (.iload_n 1, 1) := by decide +kernel
theorem d36_124 : decode method_2_code 124 = .ok (.bipush 10, 2) := by decide +kernel
theorem d36_126 : decode method_2_code 126 = .ok (.iadd, 1) := by decide +kernel
theorem d36_127 : decode method_2_code 127 = .ok (.invokevirtual 7, 3) := by decide +kernel
theorem d36_130 : decode method_2_code 130 = .ok (.bipush 112, 2) := by decide +kernel
theorem d36_132 : decode method_2_code 132 = .ok (.if_icmp .ne 137, 3) := by decide +kernel
theorem d36_135 : decode method_2_code 135 = .ok (.aload_n 0, 1) := by decide +kernel
theorem d36_136 : decode method_2_code 136 = .ok (.iload_n 1, 1) := by decide +kernel
theorem d36_137 : decode method_2_code 137 = .ok (.bipush 11, 2) := by decide +kernel
theorem d36_139 : decode method_2_code 139 = .ok (.iadd, 1) := by decide +kernel
theorem d36_140 : decode method_2_code 140 = .ok (.invokevirtual 7, 3) := by decide +kernel
theorem d36_143 : decode method_2_code 143 = .ok (.bipush 112, 2) := by decide +kernel
theorem d36_145 : decode method_2_code 145 = .ok (.if_icmp .ne 124, 3) := by decide +kernel
theorem d36_148 : decode method_2_code 148 = .ok (.aload_n 0, 1) := by decide +kernel
theorem d36_149 : decode method_2_code 149 = .ok (.iload_n 1, 1) := by decide +kernel
theorem d36_150 : decode method_2_code 150 = .ok (.bipush 12, 2) := by decide +kernel
theorem d36_152 : decode method_2_code 152 = .ok (.iadd, 1) := by decide +kernel
theorem d36_153 : decode method_2_code 153 = .ok (.invokevirtual 7, 3) := by decide +kernel
theorem d36_156 : decode method_2_code 156 = .ok (.bipush 111, 2) := by decide +kernel
theorem d36_158 : decode method_2_code 158 = .ok (.if_icmp .ne 111, 3) := by decide +kernel
theorem d36_161 : decode method_2_code 161 = .ok (.aload_n 0, 1) := by decide +kernel
theorem d36_162 : decode method_2_code 162 = .ok (.iload_n 1, 1) := by decide +kernel
theorem d36_163 : decode method_2_code 163 = .ok (.bipush 13, 2) := by decide +kernel
theorem d36_165 : decode method_2_code 165 = .ok (.iadd, 1) := by decide +kernel
theorem d36_166 : decode method_2_code 166 = .ok (.invokevirtual 7, 3) := by decide +kernel
theorem d36_169 : decode method_2_code 169 = .ok (.bipush 114, 2) := by decide +kernel
theorem d36_171 : decode method_2_code 171 = .ok (.if_icmp .ne 98, 3) := by decide +kernel
theorem d36_174 : decode method_2_code 174 = .ok (.aload_n 0, 1) := by decide +kernel
theorem d36_175 : decode method_2_code 175 = .ok (.iload_n 1, 1) := by decide +kernel
theorem d36_176 : decode method_2_code 176 = .ok (.bipush 14, 2) := by decide +kernel
theorem d36_178 : decode method_2_code 178 = .ok (.iadd, 1) := by decide +kernel
theorem d36_179 : decode method_2_code 179 = .ok (.invokevirtual 7, 3) := by decide +kernel
theorem d36_182 : decode method_2_code 182 = .ok (.bipush 116, 2) := by decide +kernel
theorem d36_184 : decode method_2_code 184 = .ok (.if_icmp .ne 85, 3) := by decide +kernel
theorem d36_187 : decode method_2_code 187 = .ok (.aload_n 0, 1) := by decide +kernel
theorem d36_188 : decode method_2_code 188 = .ok (.iload_n 1, 1) := by decide +kernel
theorem d36_189 : decode method_2_code 189 = .ok (.bipush 15, 2) := by decide +kernel
theorem d36_191 : decode method_2_code 191 = .ok (.iadd, 1) := by decide +kernel
theorem d36_192 : decode method_2_code 192 = .ok (.invokevirtual 7, 3) := by decide +kernel
theorem d36_195 : decode method_2_code 195 = .ok (.bipush 101, 2) := by decide +kernel
theorem d36_197 : decode method_2_code 197 = .ok (.if_icmp .ne 72, 3) := by decide +kernel
theorem d36_200 : decode method_2_code 200 = .ok (.aload_n 0, 1) := by decide +kernel
theorem d36_201 : decode method_2_code 201 = .ok (.iload_n 1, 1) := by decide +kernel
theorem d36_202 : decode method_2_code 202 = .ok (.bipush 16, 2) := by decide +kernel
theorem d36_204 : decode method_2_code 204 = .ok (.iadd, 1) := by decide +kernel
theorem d36_205 : decode method_2_code 205 = .ok (.invokevirtual 7, 3) := by decide +kernel
theorem d36_208 : decode method_2_code 208 = .ok (.bipush 100, 2) := by decide +kernel
theorem d36_210 : decode method_2_code 210 = .ok (.if_icmp .ne 59, 3) := by decide +kernel
theorem d36_213 : decode method_2_code 213 = .ok (.aload_n 0, 1) := by decide +kernel
theorem d36_214 : decode method_2_code 214 = .ok (.iload_n 1, 1) := by decide +kernel
theorem d36_215 : decode method_2_code 215 = .ok (.bipush 17, 2) := by decide +kernel
theorem d36_217 : decode method_2_code 217 = .ok (.iadd, 1) := by decide +kernel
theorem d36_218 : decode method_2_code 218 = .ok (.invokevirtual 7, 3) := by decide +kernel
theorem d36_221 : decode method_2_code 221 = .ok (.bipush 32, 2) := by decide +kernel
theorem d36_223 : decode method_2_code 223 = .ok (.if_icmp .ne 46, 3) := by decide +kernel
theorem d36_226 : decode method_2_code 226 = .ok (.aload_n 0, 1) := by decide +kernel
theorem d36_227 : decode method_2_code 227 = .ok (.iload_n 1, 1) := by decide +kernel
theorem d36_228 : decode method_2_code 228 = .ok (.bipush 18, 2) := by decide +kernel
theorem d36_230 : decode method_2_code 230 = .ok (.iadd, 1) := by decide +kernel
theorem d36_231 : decode method_2_code 231 = .ok (.invokevirtual 7, 3) := by decide +kernel
theorem d36_234 : decode method_2_code 234 = .ok (.bipush 121, 2) := by decide +kernel
theorem d36_236 : decode method_2_code 236 = .ok (.if_icmp .ne 33, 3) := by decide +kernel
theorem d36_239 : decode method_2_code 239 = .ok (.aload_n 0, 1) := by decide +kernel
theorem d36_240 : decode method_2_code 240 = .ok (.iload_n 1, 1) := by decide +kernel
theorem d36_241 : decode method_2_code 241 = .ok (.bipush 19, 2) := by decide +kernel
theorem d36_243 : decode method_2_code 243 = .ok (.iadd, 1) := by decide +kernel
theorem d36_244 : decode method_2_code 244 = .ok (.invokevirtual 7, 3) := by decide +kernel
theorem d36_247 : decode method_2_code 247 = .ok (.bipush 101, 2) := by decide +kernel
theorem d36_249 : decode method_2_code 249 = .ok (.if_icmp .ne 20, 3) := by decide +kernel
theorem d36_252 : decode method_2_code 252 = .ok (.aload_n 0, 1) := by decide +kernel
theorem d36_253 : decode method_2_code 253 = .ok (.iload_n 1, 1) := by decide +kernel
theorem d36_254 : decode method_2_code 254 = .ok (.bipush 20, 2) := by decide +kernel
theorem d36_256 : decode method_2_code 256 = .ok (.iadd, 1) := by decide +kernel
theorem d36_257 : decode method_2_code 257 = .ok (.invokevirtual 7, 3) := by decide +kernel
theorem d36_260 : decode method_2_code 260 = .ok (.bipush 116, 2) := by decide +kernel
theorem d36_262 : decode method_2_code 262 = .ok (.if_icmp .ne 7, 3) := by decide +kernel
theorem d36_265 : decode method_2_code 265 = .ok (.iconst 1, 1) := by decide +kernel
theorem d36_266 : decode method_2_code 266 = .ok (.goto 4, 3) := by decide +kernel
theorem d36_270 : decode method_2_code 270 = .ok (.ireturn, 1) := by decide +kernel
theorem pn_36 : plainName "com/example/queryloom/queryloom/translation/TranslationExceptionUnsupportedPinLaw" = true := by first | (simp [plainName, overriddenIn]; done) | decide +kernel
theorem ef_36 (m : MethodId) (x0 : Addr) (x1 : Int32) : entryFrame m #[(.ref x0), (.int x1)] 2 = mkF m 0 #[.val (.ref x0), .val (.int x1)] [] := by first | (simp [entryFrame, mkF, argsToLocals, Value.category]; done) | rfl
theorem pd_AC_V : parseMethodDescriptor "([C)V" = some ⟨[(.array .char)], none⟩ := by decide +kernel
theorem pd_Ljava_lang_String__Lcom_example_queryloom_queryloom_translation_TranslationException_ : parseMethodDescriptor "(Ljava/lang/String;)Lcom/example/queryloom/queryloom/translation/TranslationException;" = some ⟨[(.object "java/lang/String")], some (.object "com/example/queryloom/queryloom/translation/TranslationException")⟩ := by decide +kernel
theorem pd_Ljava_lang_String_I_Z : parseMethodDescriptor "(Ljava/lang/String;I)Z" = some ⟨[(.object "java/lang/String"), .int], some .boolean⟩ := by decide +kernel
theorem pn_0 : plainName "com/example/queryloom/queryloom/translation/TranslationExceptionUnsupportedPinLaw" = true := by first | (simp [plainName, overriddenIn]; done) | decide +kernel
theorem ef_0 (m : MethodId) (x0 : Int32) (x1 : Int32) (x2 : Int32) (x3 : Int32) : entryFrame m #[(.int x0), (.int x1), (.int x2), (.int x3)] maxLocals = mkF m 0 #[.val (.int x0), .val (.int x1), .val (.int x2), .val (.int x3), .unset, .unset, .unset, .unset, .unset, .unset, .unset, .unset, .unset, .unset, .unset, .unset] [] := by first | (simp [entryFrame, mkF, argsToLocals, Value.category, maxLocals]; done) | rfl
set_option maxRecDepth 65536 in
set_option maxHeartbeats 40000000 in
theorem rmX0u_r (l : Launch) (Z : State) (a0 : Array Value) (hw : ∀ d ∈ tables_1, d.before a0 Z = true) (ws : List Jvm.Cond) (a1 : Addr) (mz : Addr) (us : Value) (ss : Value) (h0 : Heap) (n0 : Nat) (X00 : Old Z n0 h0) (hl : l.stackTraces = true) (hr2 : ∀ d ∈ twoRefs, d.before a0 Z = true) (hus : us.isRef = true) (hss : ss.isRef = true) (S_u : Sta Z Z.heap "java/lang/Throwable" "UNASSIGNED_STACK" "[Ljava/lang/StackTraceElement;" us) (S_s : Sta Z Z.heap "java/lang/Throwable" "SUPPRESSED_SENTINEL" "Ljava/util/List;" ss) (E_a1 : Exa Z h0 a1 "com/example/queryloom/queryloom/translation/TranslationException") (U_a1 : Unt h0 a1) (F_b : Fld Z h0 a1 "java/lang/Throwable" "backtrace" "Ljava/lang/Object;" .null) (F_m : Fld Z h0 a1 "java/lang/Throwable" "detailMessage" "Ljava/lang/String;" .null) (F_ca : Fld Z h0 a1 "java/lang/Throwable" "cause" "Ljava/lang/Throwable;" .null) (F_st : Fld Z h0 a1 "java/lang/Throwable" "stackTrace" "[Ljava/lang/StackTraceElement;" .null) (F_su : Fld Z h0 a1 "java/lang/Throwable" "suppressedExceptions" "Ljava/util/List;" .null) (g_a1 : n0 ≤ a1) :
    MetFree l mn_37 (head1 (Jvm.Cond.code mn_37 jdk_78_method_2_code 2 none :: ws) ({ frames := 3, cells := 1, slots := 2752, locals := 42 } : Room)) (fun a U => a = #[(.ref a1), (.ref mz)] ∧ Z.Warmed39 U.vm ∧ U.heap = h0) (fun _ _ bl s _ => s.vm.MethodsKnown ∧ s.vm.FramesKnown bl) (fun _ U o U' => ∃ rv rL, o = .returned rv ∧ QTh Z a1 (.ref mz) h0 n0 rv U'.heap rL ∧ FrameEnd U o U' rL ({ frames := 3, cells := 1, slots := 2752, locals := 42 } : Room).cells ({ frames := 3, cells := 1, slots := 2752, locals := 42 } : Room).slots) := by
  refine MetFree.of_bodySF (plainFor_of_name pn_32) hisR ?_
  intro p e s m args below meth c s₁ Bd hml0 hP hK
  obtain ⟨rfl, hZ, hh⟩ := hP
  have hx := Bd.exec
  have hby := Bd.bytes
  have hml : c.maxLocals = 2 := hml0
  have hown : s.vm.findClass "java/lang/Throwable" = some m.cls := findClass_of_methodNamed Bd.named
  have hnm := (name_of_methodNamed Bd.named Bd.method).1
  have X0 : Stand p l e ({ frames := 3, cells := 1, slots := 2752, locals := 42 } : Room) s m #[(.ref a1), (.ref mz)] below meth c s₁ [] 0 0 := Stand.of_body Bd
  have e0 : s₁.heap = h0 := by rw [← hh, Bd.state]; rfl
  have N0 := Fr.nil n0
  have pre0 : ∀ t, Steps p.tables e below (s₁.setTop (mkF m 0 #[.val (.ref a1), .val (.ref mz)] [])) t → Steps p.tables e below (s₁.setTop (entryFrame m #[(.ref a1), (.ref mz)] 2)) t := fun t k => castTop (ef_32 m a1 mz) k
  obtain ⟨T101, X101, e101, st101⟩ := initO X0 hx hZ hown (tw hw 171 rfl) (tw hw 12 rfl) (tw hw 13 rfl) e0 (g := (mkF m 1 #[vr a1, vr mz] [wr a1])) rfl (by rw [hml]; rfl) rfl (hb hby d32_1) (by decide) (W := 0) (by show 2 * 0 + _ ≤ _; exact Nat.le_of_eq rfl) (by decide)
  obtain ⟨T102, h102, X102, e102, W102, st102⟩ := putF X101 hx hZ hown (host := "") (Or.inl (tw hw 172 rfl)) Via.refl e101 F_ca E_a1 (Or.inl (tw hw 173 rfl)) (tw hw 27 rfl) (ty := (.object "java/lang/Throwable")) (by decide) rfl rfl (g := (mkF m 6 #[vr a1, vr mz] [wr a1, wr a1])) rfl rfl (hb hby d32_6)
  have Fw102 := F_ca.same W102
  have N102 := Fr.snoc X102 N0 g_a1
  have y104 := (X00.wr W102 g_a1)
  obtain ⟨T103, X103, e103, st103⟩ := getS2 X102 hx hZ hown (host := "") (Or.inl (tw hw 174 rfl)) Via.refl e102 (S_u.ext y104.2) (g := (mkF m 10 #[vr a1, vr mz] [wr a1])) rfl (hb hby d32_10)
  have y105 := (F_st.other W102 (Or.inr (slot_ne (Or.inl (tw hw 176 rfl)) (Or.inl (tw hw 173 rfl)) (by decide) (t := (.array (.object "java/lang/StackTraceElement"))) (t' := (.object "java/lang/Throwable")) (by decide) (by decide))))
  have y106 := (E_a1.wr W102)
  obtain ⟨T107, h107, X107, e107, W107, st107⟩ := putF X103 hx hZ hown (host := "") (Or.inl (tw hw 175 rfl)) Via.refl e103 y105 y106 (Or.inl (tw hw 176 rfl)) (tw hw 27 rfl) (ty := (.array (.object "java/lang/StackTraceElement"))) (by decide) (narrow_isRef _ hus) (fits_refV_array _ ⟨us, hus⟩) (g := (mkF m 13 #[vr a1, vr mz] [us, wr a1])) rfl rfl (hb hby d32_13)
  have Fw107 := y105.same W107
  have N107 := Fr.snoc X107 N102 g_a1
  have y109 := (y104.wr W107 g_a1)
  obtain ⟨T108, X108, e108, st108⟩ := getS2 X107 hx hZ hown (host := "") (Or.inl (tw hw 177 rfl)) Via.refl e107 (S_s.ext y109.2) (g := (mkF m 17 #[vr a1, vr mz] [wr a1])) rfl (hb hby d32_17)
  have y110 := ((F_su.other W102 (Or.inr (slot_ne (Or.inl (tw hw 179 rfl)) (Or.inl (tw hw 173 rfl)) (by decide) (t := (.object "java/util/List")) (t' := (.object "java/lang/Throwable")) (by decide) (by decide)))).other W107 (Or.inr (slot_ne (Or.inl (tw hw 179 rfl)) (Or.inl (tw hw 176 rfl)) (by decide) (t := (.object "java/util/List")) (t' := (.array (.object "java/lang/StackTraceElement"))) (by decide) (by decide))))
  have y111 := (y106.wr W107)
  obtain ⟨T112, h112, X112, e112, W112, st112⟩ := putF X108 hx hZ hown (host := "") (Or.inl (tw hw 178 rfl)) Via.refl e108 y110 y111 (Or.inl (tw hw 179 rfl)) (tw hw 27 rfl) (ty := (.object "java/util/List")) (by decide) (narrow_isRef _ hss) (fits_refV_object _ ⟨ss, hss⟩) (g := (mkF m 20 #[vr a1, vr mz] [ss, wr a1])) rfl rfl (hb hby d32_20)
  have Fw112 := y110.same W112
  have N112 := Fr.snoc X112 N107 g_a1
  have y114 := (((F_b.other W102 (Or.inr (slot_ne (Or.inl (tw hw 204 rfl)) (Or.inl (tw hw 173 rfl)) (by decide) (t := (.object "java/lang/Object")) (t' := (.object "java/lang/Throwable")) (by decide) (by decide)))).other W107 (Or.inr (slot_ne (Or.inl (tw hw 204 rfl)) (Or.inl (tw hw 176 rfl)) (by decide) (t := (.object "java/lang/Object")) (t' := (.array (.object "java/lang/StackTraceElement"))) (by decide) (by decide)))).other W112 (Or.inr (slot_ne (Or.inl (tw hw 204 rfl)) (Or.inl (tw hw 179 rfl)) (by decide) (t := (.object "java/lang/Object")) (t' := (.object "java/util/List")) (by decide) (by decide))))
  have y115 := (Fw107.other W112 (Or.inr (slot_ne (Or.inl (tw hw 176 rfl)) (Or.inl (tw hw 179 rfl)) (by decide) (t := (.array (.object "java/lang/StackTraceElement"))) (t' := (.object "java/util/List")) (by decide) (by decide))))
  have y116 := (y111.wr W112)
  have y117 := (Unt.wr W112 (Unt.wr W107 (Unt.wr W102 U_a1)))
  have y118 := (((F_m.other W102 (Or.inr (slot_ne (Or.inl (tw hw 203 rfl)) (Or.inl (tw hw 173 rfl)) (by decide) (t := (.object "java/lang/String")) (t' := (.object "java/lang/Throwable")) (by decide) (by decide)))).other W107 (Or.inr (slot_ne (Or.inl (tw hw 203 rfl)) (Or.inl (tw hw 176 rfl)) (by decide) (t := (.object "java/lang/String")) (t' := (.array (.object "java/lang/StackTraceElement"))) (by decide) (by decide)))).other W112 (Or.inr (slot_ne (Or.inl (tw hw 203 rfl)) (Or.inl (tw hw 179 rfl)) (by decide) (t := (.object "java/lang/String")) (t' := (.object "java/util/List")) (by decide) (by decide))))
  have y119 := (y109.wr W112 g_a1)
  obtain ⟨T113, h113, X113, e113, Kc113, A113, Fk113, st113⟩ := own_fill X112 hx hl hZ hown (own_fw hw) (tw hw 27 rfl) (own_ths' hh X00) hK.1 hK.2 e112 own_b3 y116 y117 y114 hus (S_u.ext y119.2) y115 (g := (mkF m 24 #[vr a1, vr mz] [wr a1])) rfl (by rw [hml]; rfl) rfl (hb hby d32_24) (by decide) (by show 2 * 0 + 0 + 42 ≤ _; decide) (by decide) (by decide)
  have Fk113_0 := Fk113 (Or.inl (tw hw 203 rfl)) (t := (.object "java/lang/String")) (by decide) (by decide) (by decide) (by decide) y118
  have N113 : Fr n0 _ := Fr.six (Z := Z) N112 g_a1
  obtain ⟨T120, h120, X120, e120, W120, st120⟩ := putF X113 hx hZ hown (host := "") (Or.inl (tw hw 207 rfl)) Via.refl e113 Fk113_0 A113 (Or.inl (tw hw 203 rfl)) (tw hw 27 rfl) (ty := (.object "java/lang/String")) (by decide) rfl rfl (g := (mkF m 30 #[vr a1, vr mz] [wr mz, wr a1])) rfl rfl (hb hby d32_30)
  have Fw120 := Fk113_0.same W120
  have N120 := Fr.snoc X120 N113 g_a1
  have y121 := ((((((Keep.refl h0 [a1]).wr W102 (Or.inl (List.mem_of_getElem? (i := 0) rfl))).wr W107 (Or.inl (List.mem_of_getElem? (i := 0) rfl))).wr W112 (Or.inl (List.mem_of_getElem? (i := 0) rfl))).trans Kc113 (allS (Or.inl (List.mem_of_getElem? (i := 0) rfl)) all0)).wr W120 (Or.inl (List.mem_of_getElem? (i := 0) rfl)))
  have y122 := (A113.wr W120)
  obtain ⟨fs, hr, hrun, hended, hW, hsame⟩ := X120.leave (v := none) (fun _ => rfl)
  refine ⟨_, _, pre0 _ ?_, hrun, hended, _, _, rfl, ?_, ⟨_, rfl⟩, hW, hsame.mono (by decide) (by decide)⟩
  · show Go p e below s₁ (mkF m 0 #[vr a1, vr mz] []) _
    refine XS.aloadN X0.here hx rfl (hb hby d32_0) rfl rfl ?_
    show Go p e below s₁ (mkF m 1 #[vr a1, vr mz] [wr a1]) _
    refine st101 _ ?_
    show Go p e below T101 (mkF m 4 #[vr a1, vr mz] []) _
    refine XS.aloadN X101.here hx rfl (hb hby d32_4) rfl rfl ?_
    show Go p e below T101 (mkF m 5 #[vr a1, vr mz] [wr a1]) _
    refine XS.aloadN X101.here hx rfl (hb hby d32_5) rfl rfl ?_
    show Go p e below T101 (mkF m 6 #[vr a1, vr mz] [wr a1, wr a1]) _
    refine st102 _ ?_
    show Go p e below T102 (mkF m 9 #[vr a1, vr mz] []) _
    refine XS.aloadN X102.here hx rfl (hb hby d32_9) rfl rfl ?_
    show Go p e below T102 (mkF m 10 #[vr a1, vr mz] [wr a1]) _
    refine st103 _ ?_
    show Go p e below T103 (mkF m 13 #[vr a1, vr mz] [us, wr a1]) _
    refine st107 _ ?_
    show Go p e below T107 (mkF m 16 #[vr a1, vr mz] []) _
    refine XS.aloadN X107.here hx rfl (hb hby d32_16) rfl rfl ?_
    show Go p e below T107 (mkF m 17 #[vr a1, vr mz] [wr a1]) _
    refine st108 _ ?_
    show Go p e below T108 (mkF m 20 #[vr a1, vr mz] [ss, wr a1]) _
    refine st112 _ ?_
    show Go p e below T112 (mkF m 23 #[vr a1, vr mz] []) _
    refine XS.aloadN X112.here hx rfl (hb hby d32_23) rfl rfl ?_
    show Go p e below T112 (mkF m 24 #[vr a1, vr mz] [wr a1]) _
    refine st113 _ ?_
    show Go p e below T113 (mkF m 27 #[vr a1, vr mz] [wr a1]) _
    refine XS.pop X113.here hx rfl (hb hby d32_27) rfl rfl ?_
    show Go p e below T113 (mkF m 28 #[vr a1, vr mz] []) _
    refine XS.aloadN X113.here hx rfl (hb hby d32_28) rfl rfl ?_
    show Go p e below T113 (mkF m 29 #[vr a1, vr mz] [wr a1]) _
    refine XS.aloadN X113.here hx rfl (hb hby d32_29) rfl rfl ?_
    show Go p e below T113 (mkF m 30 #[vr a1, vr mz] [wr mz, wr a1]) _
    refine st120 _ ?_
    show Go p e below T120 (mkF m 33 #[vr a1, vr mz] []) _
    exact X120.returnOut hx Bd.returns (hb hby d32_33) hr
  · show QTh Z a1 (.ref mz) h0 n0 _ T120.heap _
    rw [e120]
    exact ⟨rfl, N120, y121, y122, Fw120⟩
theorem rmX0_r (l : Launch) (Z : State) (a0 : Array Value) (hw : ∀ d ∈ tables_1, d.before a0 Z = true) (ws : List Jvm.Cond) (a1 : Addr) (mz : Addr) (h0 : Heap) (n0 : Nat) (X00 : Old Z n0 h0) (hl : l.stackTraces = true) (hr2 : ∀ d ∈ twoRefs, d.before a0 Z = true) (E_a1 : Exa Z h0 a1 "com/example/queryloom/queryloom/translation/TranslationException") (U_a1 : Unt h0 a1) (F_b : Fld Z h0 a1 "java/lang/Throwable" "backtrace" "Ljava/lang/Object;" .null) (F_m : Fld Z h0 a1 "java/lang/Throwable" "detailMessage" "Ljava/lang/String;" .null) (F_ca : Fld Z h0 a1 "java/lang/Throwable" "cause" "Ljava/lang/Throwable;" .null) (F_st : Fld Z h0 a1 "java/lang/Throwable" "stackTrace" "[Ljava/lang/StackTraceElement;" .null) (F_su : Fld Z h0 a1 "java/lang/Throwable" "suppressedExceptions" "Ljava/util/List;" .null) (g_a1 : n0 ≤ a1) :
    MetFree l mn_37 (head1 (Jvm.Cond.code mn_37 jdk_78_method_2_code 2 none :: ws) ({ frames := 3, cells := 1, slots := 2752, locals := 42 } : Room)) (fun a U => a = #[(.ref a1), (.ref mz)] ∧ Z.Warmed39 U.vm ∧ U.heap = h0) (fun _ _ bl s _ => s.vm.MethodsKnown ∧ s.vm.FramesKnown bl) (fun _ U o U' => ∃ rv rL, o = .returned rv ∧ QTh Z a1 (.ref mz) h0 n0 rv U'.heap rL ∧ FrameEnd U o U' rL ({ frames := 3, cells := 1, slots := 2752, locals := 42 } : Room).cells ({ frames := 3, cells := 1, slots := 2752, locals := 42 } : Room).slots) := by
  obtain ⟨us, hus, S_u⟩ := own_stat (tw hw 169 rfl) (tw hw 200 rfl) (hr2 _ (List.mem_of_getElem? (i := 0) rfl))
  obtain ⟨ss, hss, S_s⟩ := own_stat (tw hw 169 rfl) (tw hw 201 rfl) (hr2 _ (List.mem_of_getElem? (i := 1) rfl))
  exact rmX0u_r l Z a0 hw ws a1 mz us ss h0 n0 X00 hl hr2 hus hss S_u S_s E_a1 U_a1 F_b F_m F_ca F_st F_su g_a1
set_option maxRecDepth 65536 in
set_option maxHeartbeats 40000000 in
theorem rmX1_r (l : Launch) (Z : State) (a0 : Array Value) (hw : ∀ d ∈ tables_1, d.before a0 Z = true) (ws : List Jvm.Cond) (a1 : Addr) (mz : Addr) (h0 : Heap) (n0 : Nat) (X00 : Old Z n0 h0) (hl : l.stackTraces = true) (hr2 : ∀ d ∈ twoRefs, d.before a0 Z = true) (E_a1 : Exa Z h0 a1 "com/example/queryloom/queryloom/translation/TranslationException") (U_a1 : Unt h0 a1) (F_b : Fld Z h0 a1 "java/lang/Throwable" "backtrace" "Ljava/lang/Object;" .null) (F_m : Fld Z h0 a1 "java/lang/Throwable" "detailMessage" "Ljava/lang/String;" .null) (F_ca : Fld Z h0 a1 "java/lang/Throwable" "cause" "Ljava/lang/Throwable;" .null) (F_st : Fld Z h0 a1 "java/lang/Throwable" "stackTrace" "[Ljava/lang/StackTraceElement;" .null) (F_su : Fld Z h0 a1 "java/lang/Throwable" "suppressedExceptions" "Ljava/util/List;" .null) (g_a1 : n0 ≤ a1) :
    MetFree l mn_13 (head1 (Jvm.Cond.code mn_13 jdk_59_method_2_code 2 none :: ws) ({ frames := 4, cells := 1, slots := 2752, locals := 56 } : Room)) (fun a U => a = #[(.ref a1), (.ref mz)] ∧ Z.Warmed39 U.vm ∧ U.heap = h0) (fun _ _ bl s _ => s.vm.MethodsKnown ∧ s.vm.FramesKnown bl) (fun _ U o U' => ∃ rv rL, o = .returned rv ∧ QTh Z a1 (.ref mz) h0 n0 rv U'.heap rL ∧ FrameEnd U o U' rL ({ frames := 4, cells := 1, slots := 2752, locals := 56 } : Room).cells ({ frames := 4, cells := 1, slots := 2752, locals := 56 } : Room).slots) := by
  refine MetFree.of_bodySF (plainFor_of_name pn_31) hisR ?_
  intro p e s m args below meth c s₁ Bd hml0 hP hK
  obtain ⟨rfl, hZ, hh⟩ := hP
  have hx := Bd.exec
  have hby := Bd.bytes
  have hml : c.maxLocals = 2 := hml0
  have hown : s.vm.findClass "java/lang/Exception" = some m.cls := findClass_of_methodNamed Bd.named
  have hnm := (name_of_methodNamed Bd.named Bd.method).1
  have X0 : Stand p l e ({ frames := 4, cells := 1, slots := 2752, locals := 56 } : Room) s m #[(.ref a1), (.ref mz)] below meth c s₁ [] 0 0 := Stand.of_body Bd
  have e0 : s₁.heap = h0 := by rw [← hh, Bd.state]; rfl
  have N0 := Fr.nil n0
  have pre0 : ∀ t, Steps p.tables e below (s₁.setTop (mkF m 0 #[.val (.ref a1), .val (.ref mz)] [])) t → Steps p.tables e below (s₁.setTop (entryFrame m #[(.ref a1), (.ref mz)] 2)) t := fun t k => castTop (ef_31 m a1 mz) k
  obtain ⟨_, _, ⟨T101, L101, k101, n101⟩, -, X101, ⟨Lc101, hQ101, l101, y101, z101⟩, st101⟩ := X0.specialBack hx (y := mn_37) rfl hown (mvT hZ (tw hw 165 rfl)) (mvT hZ (tw hw 166 rfl)) (mvT hZ (tw hw 170 rfl)) (by decide) (backOfKL (W := 0) (rmX0_r l Z a0 hw [] a1 mz h0 n0 X00 hl hr2 E_a1 U_a1 F_b F_m F_ca F_st F_su g_a1) hZ (tw hw 170 rfl) (tw hw 169 rfl) (by decide) (by decide) hK.1 hK.2) (g := (mkF m 2 #[vr a1, vr mz] [wr mz, wr a1])) rfl (by rw [hml]; rfl) (Steps.refl _) (a := a1) (argsL := [wr mz]) (rest := []) (lenOf pd_Ljava_lang_String__V rfl) rfl (Nat.le_refl _) (hb hby d31_2) (fun _ _ => ⟨rfl, e0, (by decide : 0 + 1 ≤ _), (by decide : 0 + 2752 ≤ _)⟩)
  dsimp only [Pt.U, Pt.locs, Pt.cells, Pt.slots] at X101 l101 y101 z101 st101 hQ101
  subst l101 y101 z101
  obtain ⟨rfl, N101q, Kc101, E101x, Fm101x⟩ := hQ101
  have N101 := Fr.app N0 N101q
  have y102 := ((Keep.refl h0 [a1]).trans Kc101 (allS (Or.inl (List.mem_of_getElem? (i := 0) rfl)) all0))
  obtain ⟨fs, hr, hrun, hended, hW, hsame⟩ := X101.leave (v := none) (fun _ => rfl)
  refine ⟨_, _, pre0 _ ?_, hrun, hended, _, _, rfl, ?_, ⟨_, rfl⟩, hW, hsame.mono (by decide) (by decide)⟩
  · show Go p e below s₁ (mkF m 0 #[vr a1, vr mz] []) _
    refine XS.aloadN X0.here hx rfl (hb hby d31_0) rfl rfl ?_
    show Go p e below s₁ (mkF m 1 #[vr a1, vr mz] [wr a1]) _
    refine XS.aloadN X0.here hx rfl (hb hby d31_1) rfl rfl ?_
    show Go p e below s₁ (mkF m 2 #[vr a1, vr mz] [wr mz, wr a1]) _
    refine st101.trans ?_
    show Go p e below T101 (mkF m 5 #[vr a1, vr mz] []) _
    exact X101.returnOut hx Bd.returns (hb hby d31_5) hr
  · show QTh Z a1 (.ref mz) h0 n0 _ T101.heap _
    exact ⟨rfl, N101, y102, E101x, Fm101x⟩
set_option maxRecDepth 65536 in
set_option maxHeartbeats 40000000 in
theorem rmTE (l : Launch) (Z : State) (a0 : Array Value) (hw : ∀ d ∈ tables_1, d.before a0 Z = true) (ws : List Jvm.Cond) (a1 : Addr) (mz : Addr) (h0 : Heap) (n0 : Nat) (X00 : Old Z n0 h0) (hl : l.stackTraces = true) (hr2 : ∀ d ∈ twoRefs, d.before a0 Z = true) (E_a1 : Exa Z h0 a1 "com/example/queryloom/queryloom/translation/TranslationException") (U_a1 : Unt h0 a1) (F_b : Fld Z h0 a1 "java/lang/Throwable" "backtrace" "Ljava/lang/Object;" .null) (F_m : Fld Z h0 a1 "java/lang/Throwable" "detailMessage" "Ljava/lang/String;" .null) (F_ca : Fld Z h0 a1 "java/lang/Throwable" "cause" "Ljava/lang/Throwable;" .null) (F_st : Fld Z h0 a1 "java/lang/Throwable" "stackTrace" "[Ljava/lang/StackTraceElement;" .null) (F_su : Fld Z h0 a1 "java/lang/Throwable" "suppressedExceptions" "Ljava/util/List;" .null) (g_a1 : n0 ≤ a1) :
    MetFree l mn_0 (head1 (Jvm.Cond.code mn_0 prog_15_method_1_code 2 none :: ws) ({ frames := 5, cells := 1, slots := 2752, locals := 70 } : Room)) (fun a U => a = #[(.ref a1), (.ref mz)] ∧ Z.Warmed39 U.vm ∧ U.heap = h0) (fun _ _ bl s _ => s.vm.MethodsKnown ∧ s.vm.FramesKnown bl) (fun _ U o U' => ∃ rv rL, o = .returned rv ∧ QTh Z a1 (.ref mz) h0 n0 rv U'.heap rL ∧ FrameEnd U o U' rL ({ frames := 5, cells := 1, slots := 2752, locals := 70 } : Room).cells ({ frames := 5, cells := 1, slots := 2752, locals := 70 } : Room).slots) := by
  refine MetFree.of_bodySF (plainFor_of_name pn_30) hisR ?_
  intro p e s m args below meth c s₁ Bd hml0 hP hK
  obtain ⟨rfl, hZ, hh⟩ := hP
  have hx := Bd.exec
  have hby := Bd.bytes
  have hml : c.maxLocals = 2 := hml0
  have hown : s.vm.findClass "com/example/queryloom/queryloom/translation/TranslationException" = some m.cls := findClass_of_methodNamed Bd.named
  have hnm := (name_of_methodNamed Bd.named Bd.method).1
  have X0 : Stand p l e ({ frames := 5, cells := 1, slots := 2752, locals := 70 } : Room) s m #[(.ref a1), (.ref mz)] below meth c s₁ [] 0 0 := Stand.of_body Bd
  have e0 : s₁.heap = h0 := by rw [← hh, Bd.state]; rfl
  have N0 := Fr.nil n0
  have pre0 : ∀ t, Steps p.tables e below (s₁.setTop (mkF m 0 #[.val (.ref a1), .val (.ref mz)] [])) t → Steps p.tables e below (s₁.setTop (entryFrame m #[(.ref a1), (.ref mz)] 2)) t := fun t k => castTop (ef_30 m a1 mz) k
  obtain ⟨_, _, ⟨T101, L101, k101, n101⟩, -, X101, ⟨Lc101, hQ101, l101, y101, z101⟩, st101⟩ := X0.specialBack hx (y := mn_13) rfl hown (mvT hZ (tw hw 160 rfl)) (mvT hZ (tw hw 161 rfl)) (mvT hZ (tw hw 164 rfl)) (by decide) (backOfKL (W := 0) (rmX1_r l Z a0 hw [] a1 mz h0 n0 X00 hl hr2 E_a1 U_a1 F_b F_m F_ca F_st F_su g_a1) hZ (tw hw 164 rfl) (tw hw 163 rfl) (by decide) (by decide) hK.1 hK.2) (g := (mkF m 2 #[vr a1, vr mz] [wr mz, wr a1])) rfl (by rw [hml]; rfl) (Steps.refl _) (a := a1) (argsL := [wr mz]) (rest := []) (lenOf pd_Ljava_lang_String__V rfl) rfl (Nat.le_refl _) (hb hby d30_2) (fun _ _ => ⟨rfl, e0, (by decide : 0 + 1 ≤ _), (by decide : 0 + 2752 ≤ _)⟩)
  dsimp only [Pt.U, Pt.locs, Pt.cells, Pt.slots] at X101 l101 y101 z101 st101 hQ101
  subst l101 y101 z101
  obtain ⟨rfl, N101q, Kc101, E101x, Fm101x⟩ := hQ101
  have N101 := Fr.app N0 N101q
  have y102 := ((Keep.refl h0 [a1]).trans Kc101 (allS (Or.inl (List.mem_of_getElem? (i := 0) rfl)) all0))
  obtain ⟨fs, hr, hrun, hended, hW, hsame⟩ := X101.leave (v := none) (fun _ => rfl)
  refine ⟨_, _, pre0 _ ?_, hrun, hended, _, _, rfl, ?_, ⟨_, rfl⟩, hW, hsame.mono (by decide) (by decide)⟩
  · show Go p e below s₁ (mkF m 0 #[vr a1, vr mz] []) _
    refine XS.aloadN X0.here hx rfl (hb hby d30_0) rfl rfl ?_
    show Go p e below s₁ (mkF m 1 #[vr a1, vr mz] [wr a1]) _
    refine XS.aloadN X0.here hx rfl (hb hby d30_1) rfl rfl ?_
    show Go p e below s₁ (mkF m 2 #[vr a1, vr mz] [wr mz, wr a1]) _
    refine st101.trans ?_
    show Go p e below T101 (mkF m 5 #[vr a1, vr mz] []) _
    exact X101.returnOut hx Bd.returns (hb hby d30_5) hr
  · show QTh Z a1 (.ref mz) h0 n0 _ T101.heap _
    exact ⟨rfl, N101, y102, E101x, Fm101x⟩
set_option maxRecDepth 65536 in
set_option maxHeartbeats 40000000 in
theorem rmGM (l : Launch) (Z : State) (a0 : Array Value) (hw : ∀ d ∈ tables_1, d.before a0 Z = true) (ws : List Jvm.Cond) (a1 : Addr) (w : Addr) (h0 : Heap) (n0 : Nat) (X00 : Old Z n0 h0) (F : Fld Z h0 a1 "java/lang/Throwable" "detailMessage" "Ljava/lang/String;" (.ref w)) :
    MetFree l mn_40 (head1 (Jvm.Cond.code mn_40 jdk_78_method_6_code 1 (some (.object "java/lang/String")) :: ws) ({ frames := 0, cells := 0, slots := 0, locals := 0 } : Room)) (fun a U => a = #[(.ref a1)] ∧ Z.Warmed39 U.vm ∧ U.heap = h0) (fun _ _ _ _ _ => True) (fun _ U o U' => ∃ rv rL, o = .returned rv ∧ Qs (some (.ref w)) h0 n0 rv U'.heap rL ∧ FrameEnd U o U' rL ({ frames := 0, cells := 0, slots := 0, locals := 0 } : Room).cells ({ frames := 0, cells := 0, slots := 0, locals := 0 } : Room).slots) := by
  refine MetFree.of_bodySF (plainFor_of_name pn_35) hisR ?_
  intro p e s m args below meth c s₁ Bd hml0 hP hK
  obtain ⟨rfl, hZ, hh⟩ := hP
  have hx := Bd.exec
  have hby := Bd.bytes
  have hml : c.maxLocals = 1 := hml0
  have hown : s.vm.findClass "java/lang/Throwable" = some m.cls := findClass_of_methodNamed Bd.named
  have hnm := (name_of_methodNamed Bd.named Bd.method).1
  have X0 : Stand p l e ({ frames := 0, cells := 0, slots := 0, locals := 0 } : Room) s m #[(.ref a1)] below meth c s₁ [] 0 0 := Stand.of_body Bd
  have e0 : s₁.heap = h0 := by rw [← hh, Bd.state]; rfl
  have N0 := Fr.nil n0
  have pre0 : ∀ t, Steps p.tables e below (s₁.setTop (mkF m 0 #[.val (.ref a1)] [])) t → Steps p.tables e below (s₁.setTop (entryFrame m #[(.ref a1)] 1)) t := fun t k => castTop (ef_35 m a1) k
  obtain ⟨T101, X101, e101, st101⟩ := getF X0 hx hZ hown (host := "") (Or.inl (tw hw 207 rfl)) Via.refl e0 F (g := (mkF m 1 #[vr a1] [wr a1])) rfl rfl (hb hby d35_1)
  obtain ⟨fs, hr, hrun, hended, hW, hsame⟩ := X101.leave (v := some (.ref w)) (fun h => by rw [Bd.returns] at h; cases h)
  refine ⟨_, _, pre0 _ ?_, hrun, hended, _, _, rfl, ?_, ⟨_, rfl⟩, hW, hsame.mono (by decide) (by decide)⟩
  · show Go p e below s₁ (mkF m 0 #[vr a1] []) _
    refine XS.aloadN X0.here hx rfl (hb hby d35_0) rfl rfl ?_
    show Go p e below s₁ (mkF m 1 #[vr a1] [wr a1]) _
    refine st101 _ ?_
    show Go p e below T101 (mkF m 4 #[vr a1] [wr w]) _
    jvm_step X101.here [X101.here.top, hx, (hb hby d35_4), X101.method', Bd.returns, Value.isRef, FieldType.isReference]
    first | (intro acts; rw [hr _ acts rfl rfl rfl]) | rw [hr _ _ rfl rfl rfl]
    exact Steps.refl _
  · show Qs (some (.ref w)) h0 n0 _ T101.heap _
    rw [e101]
    exact ⟨rfl, N0, rfl⟩
set_option maxRecDepth 65536 in
set_option maxHeartbeats 40000000 in
theorem rmS0b (l : Launch) (Z : State) (a0 : Array Value) (hw : ∀ d ∈ tables_1, d.before a0 Z = true) (ws : List Jvm.Cond) (a1 : Addr) (a2 : Addr) (uk : Value) (h0 : Heap) (n0 : Nat) (X00 : Old Z n0 h0) (E_a1 : Exa Z h0 a1 ST) (F_v : Fld Z h0 a1 ST "value" "[B" .null) (F_k : Fld Z h0 a1 ST "coder" "B" uk) (g_a1 : n0 ≤ a1) :
    MetFree l mn_20 (head1 (Jvm.Cond.code mn_20 jdk_42_method_149_code 6 none :: ws) ({ frames := 1, cells := 4, slots := 8, locals := 12 } : Room)) (fun a U => a = #[(.ref a1), (.ref a2), (.int (0 : Int32)), (.int (0 : Int32)), .null] ∧ Z.Warmed39 U.vm ∧ U.heap = h0 ∧ CHv Z consts_1 U.vm h0) (fun _ _ _ _ _ => True) (fun _ U o U' => ∃ rv rL, o = .returned rv ∧ QS0 Z a1 h0 n0 rv U'.heap rL ∧ CHr Z consts_1 U.vm U.heap U'.vm U'.heap ∧ ReturnedEndW U o U' rL ({ frames := 1, cells := 4, slots := 8, locals := 12 } : Room).cells ({ frames := 1, cells := 4, slots := 8, locals := 12 } : Room).slots) := by
  refine MetFree.of_bodySF (plainFor_of_name pn_2) hisR ?_
  intro p e s m args below meth c s₁ Bd hml0 hP hK
  obtain ⟨rfl, hZ, hh, hCH⟩ := hP
  have hx := Bd.exec
  have hby := Bd.bytes
  have hml : c.maxLocals = 6 := hml0
  have hown : s.vm.findClass "java/lang/String" = some m.cls := findClass_of_methodNamed Bd.named
  have hnm := (name_of_methodNamed Bd.named Bd.method).1
  have X0 : Stand p l e ({ frames := 1, cells := 4, slots := 8, locals := 12 } : Room) (s.setVm s.vm) m #[(.ref a1), (.ref a2), (.int (0 : Int32)), (.int (0 : Int32)), .null] below meth c s₁ [] 0 0 := Stand.of_body Bd
  have e0 : s₁.heap = h0 := by rw [← hh, Bd.state]; rfl
  have N0 := Fr.nil n0
  have hS0 : s.Since s.vm s.heap.size := own_since s
  have hk0 : s.heap.size ≤ h0.size := by rw [hh]; exact Nat.le_refl _
  have hstr := own_str hw
  have hEL := own_EL hw
  have pre0 : ∀ t, Steps p.tables e below (s₁.setTop (mkF m 0 #[.val (.ref a1), .val (.ref a2), .val (.int (0 : Int32)), .val (.int (0 : Int32)), .val .null, .unset] [])) t → Steps p.tables e below (s₁.setTop (entryFrame m #[(.ref a1), (.ref a2), (.int (0 : Int32)), (.int (0 : Int32)), .null] 6)) t := fun t k => castTop (ef_2vvvvn m a1 a2 (0 : Int32) (0 : Int32)) k
  have sf0 : Safe Z consts_1 s.vm h0 a1 := own_safeNull hZ.alike E_a1 F_v
  obtain ⟨T101, X101, e101, st101⟩ := initO X0 hx hZ hown (tw hw 11 rfl) (tw hw 12 rfl) (tw hw 13 rfl) e0 (g := (mkF m 1 #[vr a1, vr a2, vi 0, vi 0, .val .null, .unset] [wr a1])) rfl (by rw [hml]; rfl) rfl (hb hby d2_1) (by decide) (W := 0) (by show 2 * 0 + _ ≤ _; exact Nat.le_of_eq rfl) (by decide)
  have lz102_a1 := E_a1.lt
  obtain ⟨a102, T102, h102, k102, c102, kc102, X102, e102, E102, hS102, hk102, hZ102, hown102, A102, Fc102, Fv102, V102, la102, lc102, R102, -, ns102, st102⟩ := ldcCH (z := (0 : Int32)) (vs := []) X101 hx hZ hown (tw hw 14 rfl) hstr e101 hS0 hk0 hEL (by decide) hCH ⟨by decide, by decide⟩ (by decide) (by decide) (g := (mkF m 9 #[vr a1, vr a2, vi 0, vi 0, .val .null, .unset] [wr a1])) rfl (hb hby d2_9) (n := 0) (by decide) (by decide) (by decide) (by decide)
  have sf103_a1 := R102.safe lz102_a1 sf0
  have cr103 := (CHr.refl hCH).trans R102
  have ch103 := R102.1
  obtain ⟨T104, X104, e104, st104⟩ := getF X102 hx hZ102 hown102 (host := "") (Or.inl (tw hw 20 rfl)) Via.refl e102 Fv102 (g := (mkF m 11 #[vr a1, vr a2, vi 0, vi 0, .val .null, .unset] [wr a102, wr a1])) rfl rfl (hb hby d2_11)
  have y105 := (F_v.ext E102)
  have y106 := (E_a1.ext E102)
  obtain ⟨T107, h107, X107, e107, W107, st107⟩ := putF X104 hx hZ102 hown102 (host := "") (Or.inl (tw hw 20 rfl)) Via.refl e104 y105 y106 (Or.inr ⟨(tw hw 16 rfl), rfl, hnm⟩) (tw hw 2 rfl) (ty := (.array .byte)) (by decide) rfl rfl (g := (mkF m 14 #[vr a1, vr a2, vi 0, vi 0, .val .null, .unset] [wr c102, wr a1])) rfl rfl (hb hby d2_14)
  have Fw107 := y105.same W107
  have sf108_a1 := Safe.wr W107 sf103_a1 ch103 sf103_a1
  have cr108 := cr103.trans (CHr.wr W107 sf103_a1 ch103)
  have ch108 := CHv.wr W107 sf103_a1 ch103
  have N107 := Fr.snoc X107 N0 g_a1
  have y110 := (y106.wr W107)
  have lz109_a1 := y110.lt
  have y111 := (A102.wr W107)
  have lz109_a102 := y111.lt
  have y112 := (V102.other W107 (Ne.symm (ns102 _ sf103_a1).2))
  have lz109_c102 := y112.lt
  have y113 := (Nat.le_trans hk102 (Keep.of_wr W107).1)
  obtain ⟨a109, T109, h109, k109, c109, kc109, X109, e109, E109, hS109, hk109, hZ109, hown109, A109, Fc109, Fv109, V109, la109, lc109, R109, -, ns109, st109⟩ := ldcCH (z := (0 : Int32)) (vs := []) X107 hx hZ102 hown102 (tw hw 14 rfl) hstr e107 hS102 y113 hEL (by decide) ch108 ⟨by decide, by decide⟩ (by decide) (by decide) (g := (mkF m 18 #[vr a1, vr a2, vi 0, vi 0, .val .null, .unset] [wr a1])) rfl (hb hby d2_18) (n := 0) (by decide) (by decide) (by decide) (by decide)
  have sf114_a1 := R109.safe lz109_a1 sf108_a1
  have cr114 := cr108.trans R109
  have ch114 := R109.1
  obtain ⟨T115, X115, e115, st115⟩ := getF X109 hx hZ109 hown109 (host := "") (Or.inl (tw hw 21 rfl)) Via.refl e109 Fc109 (g := (mkF m 20 #[vr a1, vr a2, vi 0, vi 0, .val .null, .unset] [wr a109, wr a1])) rfl rfl (hb hby d2_20)
  have y116 := (((F_k.ext E102).other W107 (Or.inr (slot_ne (Or.inr (tw hw 17 rfl)) (Or.inr (tw hw 16 rfl)) (by decide) (t := .byte) (t' := (.array .byte)) (by decide) (by decide)))).ext E109)
  have y117 := (y110.ext E109)
  obtain ⟨T118, h118, X118, e118, W118, st118⟩ := putFN X115 hx hZ109 hown109 (tw hw 21 rfl) Via.refl e115 y116 y117 (Or.inr ⟨(tw hw 17 rfl), rfl, hnm⟩) (tw hw 2 rfl) (ty := .byte) (v' := (.int (0 : Int32))) (by decide) (by decide) (by decide) (g := (mkF m 23 #[vr a1, vr a2, vi 0, vi 0, .val .null, .unset] [wi 0, wr a1])) rfl rfl (hb hby d2_23)
  have Fw118 := y116.same W118
  have sf119_a1 := Safe.wr W118 sf114_a1 ch114 sf114_a1
  have cr119 := cr114.trans (CHr.wr W118 sf114_a1 ch114)
  have ch119 := CHv.wr W118 sf114_a1 ch114
  have N118 := Fr.snoc X118 N107 g_a1
  have y120 := (((((Keep.refl h0 [a1]).ext E102).wr W107 (Or.inl (List.mem_of_getElem? (i := 0) rfl))).ext E109).wr W118 (Or.inl (List.mem_of_getElem? (i := 0) rfl)))
  have y121 := (y117.wr W118)
  have y122 := ((Fw107.ext E109).other W118 (Or.inr (slot_ne (Or.inr (tw hw 16 rfl)) (Or.inr (tw hw 17 rfl)) (by decide) (t := (.array .byte)) (t' := .byte) (by decide) (by decide))))
  have y123 := ((y112.ext E109).other W118 (Ne.symm (ns102 _ sf103_a1).2))
  have y124 := (Nat.le_trans hk109 (Keep.of_wr W118).1)
  obtain ⟨fs, hr, hrun, hended, hRW⟩ := X118.leaveW hS109 (by rw [e118]; exact y124) (v := none) (fun _ => rfl)
  have crE : CHr Z consts_1 s.vm s.heap T118.vm T118.heap := own_chr hh e118 (cr119.trans (CHv.at X118 hZ109 hEL ch119))
  refine ⟨_, _, pre0 _ ?_, hrun, hended, _, _, rfl, ?_, crE, hRW.1, hRW.2.1, hRW.2.2.1, hRW.2.2.2.mono (by decide) (by decide)⟩
  · show Go p e below s₁ (mkF m 0 #[vr a1, vr a2, vi 0, vi 0, .val .null, .unset] []) _
    refine XS.aloadN X0.here hx rfl (hb hby d2_0) rfl rfl ?_
    show Go p e below s₁ (mkF m 1 #[vr a1, vr a2, vi 0, vi 0, .val .null, .unset] [wr a1]) _
    refine st101 _ ?_
    show Go p e below T101 (mkF m 4 #[vr a1, vr a2, vi 0, vi 0, .val .null, .unset] []) _
    refine XS.iloadN X101.here hx rfl (hb hby d2_4) rfl ?_
    show Go p e below T101 (mkF m 5 #[vr a1, vr a2, vi 0, vi 0, .val .null, .unset] [wi 0]) _
    refine XS.ifNo X101.here hx rfl (hb hby d2_5) rfl ((if0 _ _).trans (teq (rfl : (0 : Int32) = (0 : Int32))).2) ?_
    show Go p e below T101 (mkF m 8 #[vr a1, vr a2, vi 0, vi 0, .val .null, .unset] []) _
    refine XS.aloadN X101.here hx rfl (hb hby d2_8) rfl rfl ?_
    show Go p e below T101 (mkF m 9 #[vr a1, vr a2, vi 0, vi 0, .val .null, .unset] [wr a1]) _
    refine st102 _ ?_
    show Go p e below T102 (mkF m 11 #[vr a1, vr a2, vi 0, vi 0, .val .null, .unset] [wr a102, wr a1]) _
    refine st104 _ ?_
    show Go p e below T104 (mkF m 14 #[vr a1, vr a2, vi 0, vi 0, .val .null, .unset] [wr c102, wr a1]) _
    refine st107 _ ?_
    show Go p e below T107 (mkF m 17 #[vr a1, vr a2, vi 0, vi 0, .val .null, .unset] []) _
    refine XS.aloadN X107.here hx rfl (hb hby d2_17) rfl rfl ?_
    show Go p e below T107 (mkF m 18 #[vr a1, vr a2, vi 0, vi 0, .val .null, .unset] [wr a1]) _
    refine st109 _ ?_
    show Go p e below T109 (mkF m 20 #[vr a1, vr a2, vi 0, vi 0, .val .null, .unset] [wr a109, wr a1]) _
    refine st115 _ ?_
    show Go p e below T115 (mkF m 23 #[vr a1, vr a2, vi 0, vi 0, .val .null, .unset] [wi 0, wr a1]) _
    refine st118 _ ?_
    show Go p e below T118 (mkF m 26 #[vr a1, vr a2, vi 0, vi 0, .val .null, .unset] []) _
    exact X118.returnOut hx Bd.returns (hb hby d2_26) hr
  · show QS0 Z a1 h0 n0 _ T118.heap _
    rw [e118]
    exact ⟨rfl, N118, y120, c102, kc102, y121, y122, Fw118, y123⟩
set_option maxRecDepth 65536 in
set_option maxHeartbeats 40000000 in
theorem rmS0 (l : Launch) (Z : State) (a0 : Array Value) (hw : ∀ d ∈ tables_1, d.before a0 Z = true) (ws : List Jvm.Cond) (a1 : Addr) (a2 : Addr) (ka : ClassId) (uk : Value) (h0 : Heap) (n0 : Nat) (X00 : Old Z n0 h0) (E_a1 : Exa Z h0 a1 ST) (F_v : Fld Z h0 a1 ST "value" "[B" .null) (F_k : Fld Z h0 a1 ST "coder" "B" uk) (g_a1 : n0 ≤ a1) (V_2 : Arv Z h0 a2 ka .char (0 : Int32) [] (.int (0 : Int32))) :
    MetFree l mn_19 (head1 (Jvm.Cond.code mn_19 jdk_42_method_3_code 2 none :: ws) ({ frames := 2, cells := 4, slots := 8, locals := 29 } : Room)) (fun a U => a = #[(.ref a1), (.ref a2)] ∧ Z.Warmed39 U.vm ∧ U.heap = h0 ∧ CHv Z consts_1 U.vm h0) (fun _ _ _ _ _ => True) (fun _ U o U' => ∃ rv rL, o = .returned rv ∧ QS0 Z a1 h0 n0 rv U'.heap rL ∧ CHr Z consts_1 U.vm U.heap U'.vm U'.heap ∧ ReturnedEndW U o U' rL ({ frames := 2, cells := 4, slots := 8, locals := 29 } : Room).cells ({ frames := 2, cells := 4, slots := 8, locals := 29 } : Room).slots) := by
  refine MetFree.of_bodySF (plainFor_of_name pn_1) hisR ?_
  intro p e s m args below meth c s₁ Bd hml0 hP hK
  obtain ⟨rfl, hZ, hh, hCH⟩ := hP
  have hx := Bd.exec
  have hby := Bd.bytes
  have hml : c.maxLocals = 2 := hml0
  have hown : s.vm.findClass "java/lang/String" = some m.cls := findClass_of_methodNamed Bd.named
  have hnm := (name_of_methodNamed Bd.named Bd.method).1
  have X0 : Stand p l e ({ frames := 2, cells := 4, slots := 8, locals := 29 } : Room) (s.setVm s.vm) m #[(.ref a1), (.ref a2)] below meth c s₁ [] 0 0 := Stand.of_body Bd
  have e0 : s₁.heap = h0 := by rw [← hh, Bd.state]; rfl
  have N0 := Fr.nil n0
  have hS0 : s.Since s.vm s.heap.size := own_since s
  have hk0 : s.heap.size ≤ h0.size := by rw [hh]; exact Nat.le_refl _
  have hstr := own_str hw
  have hEL := own_EL hw
  have pre0 : ∀ t, Steps p.tables e below (s₁.setTop (mkF m 0 #[.val (.ref a1), .val (.ref a2)] [])) t → Steps p.tables e below (s₁.setTop (entryFrame m #[(.ref a1), (.ref a2)] 2)) t := fun t k => castTop (ef_1 m a1 a2) k
  obtain ⟨cl101, Ar101, q101, S101, M101, H101, G101⟩ := id V_2
  have lz102_a1 := E_a1.lt
  have lz102_a2 := V_2.lt
  obtain ⟨_, _, ⟨T102, L102, k102, n102⟩, -, X102, hs102, hg102, ⟨Lc102, hQ102, l102, y102, z102, R102⟩, st102⟩ := X0.specialBackS hx (y := mn_20) rfl hown (mvT hZ (tw hw 7 rfl)) (mvT hZ (tw hw 8 rfl)) (mvT hZ (tw hw 10 rfl)) (by decide) (backOfSH (W := 0) (rmS0b l Z a0 hw [] a1 a2 (uk) h0 n0 X00 E_a1 F_v F_k g_a1) hZ (tw hw 10 rfl) (tw hw 3 rfl) (by decide) (by decide) hEL hCH) (g := (mkF m 6 #[vr a1, vr a2] [.null, wi 0, wi 0, wr a2, wr a1])) rfl (by rw [hml]; rfl) (Steps.refl _) (a := a1) (argsL := [wr a2, wi 0, wi 0, .null]) (rest := []) (lenOf pd_ACIILjava_lang_Void__V rfl) rfl (Nat.le_refl _) (hb hby d1_6) (fun _ _ => ⟨rfl, e0, (by decide : 0 + 4 ≤ _), (by decide : 0 + 8 ≤ _)⟩)
  dsimp only [Pt.U, Pt.locs, Pt.cells, Pt.slots] at X102 l102 y102 z102 st102 hQ102 hs102 hg102 R102
  subst l102 y102 z102
  obtain ⟨rfl, N102q, Kc102, ut102, uq102, uE102, uv102, uk102, uV102⟩ := hQ102
  have N102 := Fr.app N0 N102q
  obtain ⟨X102r, hS102, hZ102, hown102⟩ := rebS hS0 (by rw [e0]; exact hk0) X102 hs102 hg102 hZ hown
  have cr103 := (CHr.refl hCH).trans R102
  have ch103 := R102.1
  have y104 := ((Keep.refl h0 [a1]).trans Kc102 (allS (Or.inl (List.mem_of_getElem? (i := 0) rfl)) all0))
  obtain ⟨fs, hr, hrun, hended, hRW⟩ := X102r.leaveW hS102 (Nat.le_refl _) (v := none) (fun _ => rfl)
  have crE : CHr Z consts_1 s.vm s.heap T102.vm T102.heap := own_chr hh rfl (cr103.trans (CHv.at X102r hZ102 hEL ch103))
  refine ⟨_, _, pre0 _ ?_, hrun, hended, _, _, rfl, ?_, crE, hRW.1, hRW.2.1, hRW.2.2.1, hRW.2.2.2.mono (by decide) (by decide)⟩
  · show Go p e below s₁ (mkF m 0 #[vr a1, vr a2] []) _
    refine XS.aloadN X0.here hx rfl (hb hby d1_0) rfl rfl ?_
    show Go p e below s₁ (mkF m 1 #[vr a1, vr a2] [wr a1]) _
    refine XS.aloadN X0.here hx rfl (hb hby d1_1) rfl rfl ?_
    show Go p e below s₁ (mkF m 2 #[vr a1, vr a2] [wr a2, wr a1]) _
    refine XS.iconst X0.here hx rfl (hb hby d1_2) ?_
    show Go p e below s₁ (mkF m 3 #[vr a1, vr a2] [wi 0, wr a2, wr a1]) _
    refine XS.aloadN X0.here hx rfl (hb hby d1_3) rfl rfl ?_
    show Go p e below s₁ (mkF m 4 #[vr a1, vr a2] [wr a2, wi 0, wr a2, wr a1]) _
    refine X0.arraylength hx (by rw [e0]; exact Ar101.1) (State.isArrayOf_alike hZ.alike Ar101.2.1) (g := (mkF m 4 #[vr a1, vr a2] [wr a2, wi 0, wr a2, wr a1])) rfl rfl (hb hby d1_4) _ ?_
    rw [len_of S101 M101]
    show Go p e below s₁ (mkF m 5 #[vr a1, vr a2] [wi 0, wi 0, wr a2, wr a1]) _
    refine XS.aconstNull X0.here hx rfl (hb hby d1_5) ?_
    show Go p e below s₁ (mkF m 6 #[vr a1, vr a2] [.null, wi 0, wi 0, wr a2, wr a1]) _
    refine st102.trans ?_
    show Go p e below T102 (mkF m 9 #[vr a1, vr a2] []) _
    exact X102r.returnOut hx Bd.returns (hb hby d1_9) hr
  · show QS0 Z a1 h0 n0 _ T102.heap _
    exact ⟨rfl, N102, y104, ut102, uq102, uE102, uv102, uk102, uV102⟩
set_option maxRecDepth 65536 in
set_option maxHeartbeats 40000000 in
theorem rmI_A (l : Launch) (Z : State) (a0 : Array Value) (hw : ∀ d ∈ tables_1, d.before a0 Z = true) (ws : List Jvm.Cond) (a1 : Addr) (n : Int32) (G1 : Int32) (h0 : Heap) (n0 : Nat) (X00 : Old Z n0 h0) (hn : n = (0 : Int32) ∨ n = (1 : Int32) ∨ n = (2 : Int32) ∨ n = (3 : Int32)) (O2 : Sta Z Z.heap "java/lang/String" "COMPACT_STRINGS" "Z" (.int G1)) (P5 : ¬ (G1 = (0 : Int32))) (E_a1 : Exa Z h0 a1 "java/lang/StringBuilder") (F_v : Fld Z h0 a1 "java/lang/AbstractStringBuilder" "value" "[B" .null) (F_k : Fld Z h0 a1 "java/lang/AbstractStringBuilder" "coder" "B" (.int (0 : Int32))) (F_c : Fld Z h0 a1 "java/lang/AbstractStringBuilder" "count" "I" (.int (0 : Int32))) (g_a1 : n0 ≤ a1) :
    MetFree l mn_4 (head1 (Jvm.Cond.code mn_4 jdk_68_method_2_code 2 none :: ws) ({ frames := 1, cells := 1, slots := 16, locals := 12 } : Room)) (fun a U => a = #[(.ref a1), (.int (16 : Int32))] ∧ Z.Warmed39 U.vm ∧ U.heap = h0) (fun _ _ _ _ _ => True) (fun _ U o U' => ∃ rv rL, o = .returned rv ∧ QSI Z a1 (16 : Int32) (0 : Int32) cv_0 none h0 n0 rv U'.heap rL ∧ FrameEnd U o U' rL ({ frames := 1, cells := 1, slots := 16, locals := 12 } : Room).cells ({ frames := 1, cells := 1, slots := 16, locals := 12 } : Room).slots) := by
  refine MetFree.of_bodySF (plainFor_of_name pn_6) hisR ?_
  intro p e s m args below meth c s₁ Bd hml0 hP hK
  obtain ⟨rfl, hZ, hh⟩ := hP
  have hx := Bd.exec
  have hby := Bd.bytes
  have hml : c.maxLocals = 2 := hml0
  have hown : s.vm.findClass "java/lang/AbstractStringBuilder" = some m.cls := findClass_of_methodNamed Bd.named
  have hnm := (name_of_methodNamed Bd.named Bd.method).1
  have X0 : Stand p l e ({ frames := 1, cells := 1, slots := 16, locals := 12 } : Room) s m #[(.ref a1), (.int (16 : Int32))] below meth c s₁ [] 0 0 := Stand.of_body Bd
  have e0 : s₁.heap = h0 := by rw [← hh, Bd.state]; rfl
  have N0 := Fr.nil n0
  have pre0 : ∀ t, Steps p.tables e below (s₁.setTop (mkF m 0 #[.val (.ref a1), .val (.int (16 : Int32))] [])) t → Steps p.tables e below (s₁.setTop (entryFrame m #[(.ref a1), (.int (16 : Int32))] 2)) t := fun t k => castTop (ef_6 m a1 (16 : Int32)) k
  obtain ⟨T101, X101, e101, st101⟩ := initO X0 hx hZ hown (tw hw 40 rfl) (tw hw 12 rfl) (tw hw 13 rfl) e0 (g := (mkF m 1 #[vr a1, vi 16] [wr a1])) rfl (by rw [hml]; rfl) rfl (hb hby d6_1) (by decide) (W := 0) (by show 2 * 0 + _ ≤ _; exact Nat.le_of_eq rfl) (by decide)
  obtain ⟨T102, X102, e102, st102⟩ := getS2 X101 hx hZ hown (host := "") (Or.inl (tw hw 41 rfl)) Via.refl e101 (O2.ext X00.2) (g := (mkF m 4 #[vr a1, vi 16] [])) rfl (hb hby d6_4)
  have hc7 : ¬ (G1 = (0 : Int32)) := P5
  have lz103_a1 := E_a1.lt
  obtain ⟨T103, h103, k103, X103, e103, E103, A103, st103⟩ := newP X102 hx hZ (tw hw 15 rfl) e102 (g := (mkF m 12 #[vr a1, vi 16] [wi 16, wr a1])) rfl (hb hby d6_12) rfl (by decide) (cap := 16) (by decide) (by decide) (by decide) (by decide)
  obtain ⟨b103, g103⟩ : ∃ z, z = h0.size := ⟨_, rfl⟩
  rw [← g103] at A103 st103
  have g_b103 : n0 ≤ b103 := Nat.le_trans (own_le X00) (Nat.le_of_eq g103.symm)
  have lt_a1_b103 : a1 < b103 := Nat.lt_of_lt_of_le lz103_a1 (Nat.le_of_eq g103.symm)
  have sz_b103 : h0.size ≤ b103 := Nat.le_trans (Keep.refl h0 [a1]).1 (Nat.le_of_eq g103.symm)
  have V103 : Arv Z h103 b103 k103 .byte (16 : Int32) [(.int (0 : Int32)), (.int (0 : Int32)), (.int (0 : Int32)), (.int (0 : Int32)), (.int (0 : Int32)), (.int (0 : Int32)), (.int (0 : Int32)), (.int (0 : Int32)), (.int (0 : Int32)), (.int (0 : Int32)), (.int (0 : Int32)), (.int (0 : Int32)), (.int (0 : Int32)), (.int (0 : Int32)), (.int (0 : Int32)), (.int (0 : Int32))] (.int (0 : Int32)) := (Arv.new A103 (by decide)).pad (pad_rep [] (.int (0 : Int32)) 16)
  have y104 := (F_v.ext E103)
  have y105 := (E_a1.ext E103)
  obtain ⟨T106, h106, X106, e106, W106, st106⟩ := putF X103 hx hZ hown (host := "") (Or.inl (tw hw 42 rfl)) Via.refl e103 y104 y105 (Or.inl (tw hw 43 rfl)) (tw hw 29 rfl) (ty := (.array .byte)) (by decide) rfl rfl (g := (mkF m 14 #[vr a1, vi 16] [wr b103, wr a1])) rfl rfl (hb hby d6_14)
  have Fw106 := y104.same W106
  have N106 := Fr.snoc X106 N0 g_a1
  have y107 := ((F_k.ext E103).other W106 (Or.inr (slot_ne (Or.inl (tw hw 45 rfl)) (Or.inl (tw hw 43 rfl)) (by decide) (t := .byte) (t' := (.array .byte)) (by decide) (by decide))))
  have y108 := (y105.wr W106)
  obtain ⟨T109, h109, X109, e109, W109, st109⟩ := putFN X106 hx hZ hown (tw hw 44 rfl) Via.refl e106 y107 y108 (Or.inl (tw hw 45 rfl)) (tw hw 29 rfl) (ty := .byte) (v' := (.int (0 : Int32))) (by decide) (by decide) (by decide) (g := (mkF m 19 #[vr a1, vi 16] [wi 0, wr a1])) rfl rfl (hb hby d6_19)
  have Fw109 := y107.same W109
  have N109 := Fr.snoc X109 N106 g_a1
  have y110 := ((((Keep.refl h0 [a1]).ext E103).wr W106 (Or.inl (List.mem_of_getElem? (i := 0) rfl))).wr W109 (Or.inl (List.mem_of_getElem? (i := 0) rfl)))
  have y111 := (y108.wr W109)
  have y112 := (Fw106.other W109 (Or.inr (slot_ne (Or.inl (tw hw 43 rfl)) (Or.inl (tw hw 45 rfl)) (by decide) (t := (.array .byte)) (t' := .byte) (by decide) (by decide))))
  have y113 := (((F_c.ext E103).other W106 (Or.inr (slot_ne (Or.inl (tw hw 68 rfl)) (Or.inl (tw hw 43 rfl)) (by decide) (t := .int) (t' := (.array .byte)) (by decide) (by decide)))).other W109 (Or.inr (slot_ne (Or.inl (tw hw 68 rfl)) (Or.inl (tw hw 45 rfl)) (by decide) (t := .int) (t' := .byte) (by decide) (by decide))))
  have y114 := ((V103.other W106 (Ne.symm (Nat.ne_of_lt lt_a1_b103))).other W109 (Ne.symm (Nat.ne_of_lt lt_a1_b103)))
  obtain ⟨fs, hr, hrun, hended, hW, hsame⟩ := X109.leave (v := none) (fun _ => rfl)
  refine ⟨_, _, pre0 _ ?_, hrun, hended, _, _, rfl, ?_, ⟨_, rfl⟩, hW, hsame.mono (by decide) (by decide)⟩
  · show Go p e below s₁ (mkF m 0 #[vr a1, vi 16] []) _
    refine XS.aloadN X0.here hx rfl (hb hby d6_0) rfl rfl ?_
    show Go p e below s₁ (mkF m 1 #[vr a1, vi 16] [wr a1]) _
    refine st101 _ ?_
    show Go p e below T101 (mkF m 4 #[vr a1, vi 16] []) _
    refine st102 _ ?_
    show Go p e below T102 (mkF m 7 #[vr a1, vi 16] [wi G1]) _
    refine XS.ifNo X102.here hx rfl (hb hby d6_7) rfl ((if0 _ _).trans (feq hc7).1) ?_
    show Go p e below T102 (mkF m 10 #[vr a1, vi 16] []) _
    refine XS.aloadN X102.here hx rfl (hb hby d6_10) rfl rfl ?_
    show Go p e below T102 (mkF m 11 #[vr a1, vi 16] [wr a1]) _
    refine XS.iloadN X102.here hx rfl (hb hby d6_11) rfl ?_
    show Go p e below T102 (mkF m 12 #[vr a1, vi 16] [wi 16, wr a1]) _
    refine st103 _ ?_
    show Go p e below T103 (mkF m 14 #[vr a1, vi 16] [wr b103, wr a1]) _
    refine st106 _ ?_
    show Go p e below T106 (mkF m 17 #[vr a1, vi 16] []) _
    refine XS.aloadN X106.here hx rfl (hb hby d6_17) rfl rfl ?_
    show Go p e below T106 (mkF m 18 #[vr a1, vi 16] [wr a1]) _
    refine XS.iconst X106.here hx rfl (hb hby d6_18) ?_
    show Go p e below T106 (mkF m 19 #[vr a1, vi 16] [wi 0, wr a1]) _
    refine st109 _ ?_
    show Go p e below T109 (mkF m 22 #[vr a1, vi 16] []) _
    refine XS.goto X109.here hx rfl (pc0 := 22) (pc' := 38) rfl (hb hby d6_22) (by decide) (by decide) ?_
    show Go p e below T109 (mkF m 38 #[vr a1, vi 16] []) _
    exact X109.returnOut hx Bd.returns (hb hby d6_38) hr
  · show QSI Z a1 (16 : Int32) (0 : Int32) cv_0 none h0 n0 _ T109.heap _
    rw [e109]
    exact ⟨rfl, N109, y110, b103, k103, g_b103, sz_b103, y111, y112, Fw109, y113, y114⟩
set_option maxRecDepth 65536 in
set_option maxHeartbeats 40000000 in
theorem rmI_B (l : Launch) (Z : State) (a0 : Array Value) (hw : ∀ d ∈ tables_1, d.before a0 Z = true) (ws : List Jvm.Cond) (a1 : Addr) (n : Int32) (G1 : Int32) (h0 : Heap) (n0 : Nat) (X00 : Old Z n0 h0) (hn : n = (0 : Int32) ∨ n = (1 : Int32) ∨ n = (2 : Int32) ∨ n = (3 : Int32)) (O2 : Sta Z Z.heap "java/lang/String" "COMPACT_STRINGS" "Z" (.int G1)) (P5 : ¬ (G1 = (0 : Int32))) (E_a1 : Exa Z h0 a1 "java/lang/StringBuilder") (F_v : Fld Z h0 a1 "java/lang/AbstractStringBuilder" "value" "[B" .null) (F_k : Fld Z h0 a1 "java/lang/AbstractStringBuilder" "coder" "B" (.int (0 : Int32))) (F_c : Fld Z h0 a1 "java/lang/AbstractStringBuilder" "count" "I" (.int (0 : Int32))) (g_a1 : n0 ≤ a1) :
    MetFree l mn_27 (head1 (Jvm.Cond.code mn_27 jdk_67_method_1_code 1 none :: ws) ({ frames := 2, cells := 1, slots := 16, locals := 25 } : Room)) (fun a U => a = #[(.ref a1)] ∧ Z.Warmed39 U.vm ∧ U.heap = h0) (fun _ _ _ _ _ => True) (fun _ U o U' => ∃ rv rL, o = .returned rv ∧ QSI Z a1 (16 : Int32) (0 : Int32) cv_0 none h0 n0 rv U'.heap rL ∧ FrameEnd U o U' rL ({ frames := 2, cells := 1, slots := 16, locals := 25 } : Room).cells ({ frames := 2, cells := 1, slots := 16, locals := 25 } : Room).slots) := by
  refine MetFree.of_bodySF (plainFor_of_name pn_5) hisR ?_
  intro p e s m args below meth c s₁ Bd hml0 hP hK
  obtain ⟨rfl, hZ, hh⟩ := hP
  have hx := Bd.exec
  have hby := Bd.bytes
  have hml : c.maxLocals = 1 := hml0
  have hown : s.vm.findClass "java/lang/StringBuilder" = some m.cls := findClass_of_methodNamed Bd.named
  have hnm := (name_of_methodNamed Bd.named Bd.method).1
  have X0 : Stand p l e ({ frames := 2, cells := 1, slots := 16, locals := 25 } : Room) s m #[(.ref a1)] below meth c s₁ [] 0 0 := Stand.of_body Bd
  have e0 : s₁.heap = h0 := by rw [← hh, Bd.state]; rfl
  have N0 := Fr.nil n0
  have pre0 : ∀ t, Steps p.tables e below (s₁.setTop (mkF m 0 #[.val (.ref a1)] [])) t → Steps p.tables e below (s₁.setTop (entryFrame m #[(.ref a1)] 1)) t := fun t k => castTop (ef_5 m a1) k
  have lz101_a1 := E_a1.lt
  obtain ⟨_, _, ⟨T101, L101, k101, n101⟩, -, X101, ⟨Lc101, hQ101, l101, y101, z101⟩, st101⟩ := X0.specialBack hx (y := mn_4) rfl hown (mvT hZ (tw hw 34 rfl)) (mvT hZ (tw hw 35 rfl)) (mvT hZ (tw hw 39 rfl)) (by decide) (backOf (W := 0) (rmI_A l Z a0 hw [] a1 n G1 h0 n0 X00 hn O2 P5 E_a1 F_v F_k F_c g_a1) hZ (tw hw 39 rfl) (tw hw 38 rfl) (by decide) (by decide)) (g := (mkF m 3 #[vr a1] [wi 16, wr a1])) rfl (by rw [hml]; rfl) (Steps.refl _) (a := a1) (argsL := [wi 16]) (rest := []) (lenOf pd_I_V rfl) rfl (Nat.le_refl _) (hb hby d5_3) (fun _ _ => ⟨rfl, e0, (by decide : 0 + 1 ≤ _), (by decide : 0 + 16 ≤ _)⟩)
  dsimp only [Pt.U, Pt.locs, Pt.cells, Pt.slots] at X101 l101 y101 z101 st101 hQ101
  subst l101 y101 z101
  obtain ⟨rfl, N101q, Kc101, ub101, uq101, ug101, us101, uE101, uv101, uk101, uc101, uV101⟩ := hQ101
  have N101 := Fr.app N0 N101q
  have lt_a1_ub101 : a1 < ub101 := Nat.lt_of_lt_of_le lz101_a1 us101
  have sz_ub101 : h0.size ≤ ub101 := Nat.le_trans (Keep.refl h0 [a1]).1 us101
  have y102 := ((Keep.refl h0 [a1]).trans Kc101 (allS (Or.inl (List.mem_of_getElem? (i := 0) rfl)) all0))
  obtain ⟨fs, hr, hrun, hended, hW, hsame⟩ := X101.leave (v := none) (fun _ => rfl)
  refine ⟨_, _, pre0 _ ?_, hrun, hended, _, _, rfl, ?_, ⟨_, rfl⟩, hW, hsame.mono (by decide) (by decide)⟩
  · show Go p e below s₁ (mkF m 0 #[vr a1] []) _
    refine XS.aloadN X0.here hx rfl (hb hby d5_0) rfl rfl ?_
    show Go p e below s₁ (mkF m 1 #[vr a1] [wr a1]) _
    refine XS.bipush X0.here hx rfl (hb hby d5_1) ?_
    show Go p e below s₁ (mkF m 3 #[vr a1] [wi 16, wr a1]) _
    refine st101.trans ?_
    show Go p e below T101 (mkF m 6 #[vr a1] []) _
    exact X101.returnOut hx Bd.returns (hb hby d5_6) hr
  · show QSI Z a1 (16 : Int32) (0 : Int32) cv_0 none h0 n0 _ T101.heap _
    exact ⟨rfl, N101, y102, ub101, uq101, ug101, sz_ub101, uE101, uv101, uk101, uc101, uV101⟩
set_option maxRecDepth 65536 in
set_option maxHeartbeats 40000000 in
theorem rmCod (l : Launch) (Z : State) (a0 : Array Value) (hw : ∀ d ∈ tables_1, d.before a0 Z = true) (ws : List Jvm.Cond) (a1 : Addr) (n : Int32) (G1 : Int32) (h0 : Heap) (n0 : Nat) (X00 : Old Z n0 h0) (hn : n = (0 : Int32) ∨ n = (1 : Int32) ∨ n = (2 : Int32) ∨ n = (3 : Int32)) (O2 : Sta Z Z.heap "java/lang/String" "COMPACT_STRINGS" "Z" (.int G1)) (P5 : ¬ (G1 = (0 : Int32))) (F_k : Fld Z h0 a1 "java/lang/String" "coder" "B" (.int (0 : Int32))) :
    MetFree l mn_23 (head1 (Jvm.Cond.code mn_23 jdk_42_method_152_code 1 (some .byte) :: ws) ({ frames := 0, cells := 0, slots := 0, locals := 0 } : Room)) (fun a U => a = #[(.ref a1)] ∧ Z.Warmed39 U.vm ∧ U.heap = h0) (fun _ _ _ _ _ => True) (fun _ U o U' => ∃ rv rL, o = .returned rv ∧ Qs (some (.int (0 : Int32))) h0 n0 rv U'.heap rL ∧ FrameEnd U o U' rL ({ frames := 0, cells := 0, slots := 0, locals := 0 } : Room).cells ({ frames := 0, cells := 0, slots := 0, locals := 0 } : Room).slots) := by
  refine MetFree.of_bodySF (plainFor_of_name pn_10) hisR ?_
  intro p e s m args below meth c s₁ Bd hml0 hP hK
  obtain ⟨rfl, hZ, hh⟩ := hP
  have hx := Bd.exec
  have hby := Bd.bytes
  have hml : c.maxLocals = 1 := hml0
  have hown : s.vm.findClass "java/lang/String" = some m.cls := findClass_of_methodNamed Bd.named
  have hnm := (name_of_methodNamed Bd.named Bd.method).1
  have X0 : Stand p l e ({ frames := 0, cells := 0, slots := 0, locals := 0 } : Room) s m #[(.ref a1)] below meth c s₁ [] 0 0 := Stand.of_body Bd
  have e0 : s₁.heap = h0 := by rw [← hh, Bd.state]; rfl
  have N0 := Fr.nil n0
  have pre0 : ∀ t, Steps p.tables e below (s₁.setTop (mkF m 0 #[.val (.ref a1)] [])) t → Steps p.tables e below (s₁.setTop (entryFrame m #[(.ref a1)] 1)) t := fun t k => castTop (ef_10 m a1) k
  obtain ⟨T101, X101, e101, st101⟩ := getS2 X0 hx hZ hown (host := "") (Or.inl (tw hw 66 rfl)) Via.refl e0 (O2.ext X00.2) (g := (mkF m 0 #[vr a1] [])) rfl (hb hby d10_0)
  have hc3 : ¬ (G1 = (0 : Int32)) := P5
  obtain ⟨T102, X102, e102, st102⟩ := getF X101 hx hZ hown (host := "") (Or.inl (tw hw 21 rfl)) Via.refl e101 F_k (g := (mkF m 7 #[vr a1] [wr a1])) rfl rfl (hb hby d10_7)
  obtain ⟨fs, hr, hrun, hended, hW, hsame⟩ := X102.leave (v := some (.int (0 : Int32))) (fun h => by rw [Bd.returns] at h; cases h)
  refine ⟨_, _, pre0 _ ?_, hrun, hended, _, _, rfl, ?_, ⟨_, rfl⟩, hW, hsame.mono (by decide) (by decide)⟩
  · show Go p e below s₁ (mkF m 0 #[vr a1] []) _
    refine st101 _ ?_
    show Go p e below T101 (mkF m 3 #[vr a1] [wi G1]) _
    refine XS.ifNo X101.here hx rfl (hb hby d10_3) rfl ((if0 _ _).trans (feq hc3).1) ?_
    show Go p e below T101 (mkF m 6 #[vr a1] []) _
    refine XS.aloadN X101.here hx rfl (hb hby d10_6) rfl rfl ?_
    show Go p e below T101 (mkF m 7 #[vr a1] [wr a1]) _
    refine st102 _ ?_
    show Go p e below T102 (mkF m 10 #[vr a1] [wi 0]) _
    refine XS.goto X102.here hx rfl (pc0 := 10) (pc' := 14) rfl (hb hby d10_10) (by decide) (by decide) ?_
    show Go p e below T102 (mkF m 14 #[vr a1] [wi 0]) _
    exact retN X102 hx (t := .byte) Bd.returns (by simp) (hb hby d10_14) hr
  · show Qs (some (.int (0 : Int32))) h0 n0 _ T102.heap _
    rw [e102]
    exact ⟨rfl, N0, rfl⟩
set_option maxRecDepth 65536 in
set_option maxHeartbeats 40000000 in
theorem rmLen (l : Launch) (Z : State) (a0 : Array Value) (hw : ∀ d ∈ tables_1, d.before a0 Z = true) (ws : List Jvm.Cond) (a1 : Addr) (n : Int32) (t : Addr) (kt : ClassId) (z : Int32) (vs : List Value) (G1 : Int32) (h0 : Heap) (n0 : Nat) (X00 : Old Z n0 h0) (hn : n = (0 : Int32) ∨ n = (1 : Int32) ∨ n = (2 : Int32) ∨ n = (3 : Int32)) (O2 : Sta Z Z.heap "java/lang/String" "COMPACT_STRINGS" "Z" (.int G1)) (P5 : ¬ (G1 = (0 : Int32))) (E_a1 : Exa Z h0 a1 "java/lang/String") (S_v : Fld Z h0 a1 "java/lang/String" "value" "[B" (.ref t)) (S_k : Fld Z h0 a1 "java/lang/String" "coder" "B" (.int (0 : Int32))) (V_t : Arv Z h0 t kt .byte z vs (.int (0 : Int32))) :
    MetFree l mn_26 (head1 (Jvm.Cond.code mn_26 jdk_42_method_54_code 1 (some .int) :: ws) ({ frames := 1, cells := 0, slots := 0, locals := 13 } : Room)) (fun a U => a = #[(.ref a1)] ∧ Z.Warmed39 U.vm ∧ U.heap = h0) (fun _ _ _ _ _ => True) (fun _ U o U' => ∃ rv rL, o = .returned rv ∧ Qs (some (.int z)) h0 n0 rv U'.heap rL ∧ FrameEnd U o U' rL ({ frames := 1, cells := 0, slots := 0, locals := 13 } : Room).cells ({ frames := 1, cells := 0, slots := 0, locals := 13 } : Room).slots) := by
  refine MetFree.of_bodySF (plainFor_of_name pn_9) hisR ?_
  intro p e s m args below meth c s₁ Bd hml0 hP hK
  obtain ⟨rfl, hZ, hh⟩ := hP
  have hx := Bd.exec
  have hby := Bd.bytes
  have hml : c.maxLocals = 1 := hml0
  have hown : s.vm.findClass "java/lang/String" = some m.cls := findClass_of_methodNamed Bd.named
  have hnm := (name_of_methodNamed Bd.named Bd.method).1
  have X0 : Stand p l e ({ frames := 1, cells := 0, slots := 0, locals := 13 } : Room) s m #[(.ref a1)] below meth c s₁ [] 0 0 := Stand.of_body Bd
  have e0 : s₁.heap = h0 := by rw [← hh, Bd.state]; rfl
  have N0 := Fr.nil n0
  have pre0 : ∀ t, Steps p.tables e below (s₁.setTop (mkF m 0 #[.val (.ref a1)] [])) t → Steps p.tables e below (s₁.setTop (entryFrame m #[(.ref a1)] 1)) t := fun t k => castTop (ef_9 m a1) k
  obtain ⟨T101, X101, e101, st101⟩ := getF X0 hx hZ hown (host := "") (Or.inl (tw hw 20 rfl)) Via.refl e0 S_v (g := (mkF m 1 #[vr a1] [wr a1])) rfl rfl (hb hby d9_1)
  obtain ⟨cl102, Ar102, q102, S102, M102, H102, G102⟩ := id V_t
  obtain ⟨cq103, kq103, q103a, q103b, q103c⟩ := isOf hZ e101 E_a1
  obtain ⟨_, _, ⟨T103, L103, k103, n103⟩, -, X103, ⟨Lc103, hQ103, l103, y103, z103⟩, st103⟩ := X101.virtualBack hx (y := mn_23) (z := mn_23) hown (mvT hZ (tw hw 61 rfl)) (mvT hZ (tw hw 62 rfl)) (notFace_of_selects (args := #[]) (mvT hZ (tw hw 64 rfl))) (mvT hZ (tw hw 64 rfl)) (mvT hZ (tw hw 63 rfl)) (by decide) (backOf (W := 1) (rmCod l Z a0 hw [] a1 n G1 h0 n0 X00 hn O2 P5 S_k) hZ (tw hw 65 rfl) (tw hw 3 rfl) (by decide) (by decide)) q103a q103c (g := (mkF m 6 #[vr a1] [wr a1, wi z])) rfl (by rw [hml]; rfl) (Steps.refl _) (argsL := []) (rest := [wi z]) (lenOf pd__B rfl) rfl (Nat.le_refl _) (hb hby d9_6) (fun _ _ => ⟨rfl, e101, (by decide : 0 + 0 ≤ _), (by decide : 0 + 0 ≤ _)⟩)
  dsimp only [Pt.U, Pt.locs, Pt.cells, Pt.slots] at X103 l103 y103 z103 st103 hQ103
  subst l103 y103 z103
  obtain ⟨rfl, N103q, eq103⟩ := hQ103
  have N103 := Fr.app N0 N103q
  obtain ⟨fs, hr, hrun, hended, hW, hsame⟩ := X103.leave (v := some (.int (z >>> ((0 : Int32) &&& 31)))) (fun h => by rw [Bd.returns] at h; cases h)
  refine ⟨_, _, pre0 _ ?_, hrun, hended, _, _, rfl, ?_, ⟨_, rfl⟩, hW, hsame.mono (by decide) (by decide)⟩
  · show Go p e below s₁ (mkF m 0 #[vr a1] []) _
    refine XS.aloadN X0.here hx rfl (hb hby d9_0) rfl rfl ?_
    show Go p e below s₁ (mkF m 1 #[vr a1] [wr a1]) _
    refine st101 _ ?_
    show Go p e below T101 (mkF m 4 #[vr a1] [wr t]) _
    refine X101.arraylength hx (by rw [e101]; exact Ar102.1) (State.isArrayOf_alike hZ.alike Ar102.2.1) (g := (mkF m 4 #[vr a1] [wr t])) rfl rfl (hb hby d9_4) _ ?_
    rw [len_of S102 M102]
    show Go p e below T101 (mkF m 5 #[vr a1] [wi z]) _
    refine XS.aloadN X101.here hx rfl (hb hby d9_5) rfl rfl ?_
    show Go p e below T101 (mkF m 6 #[vr a1] [wr a1, wi z]) _
    refine st103.trans ?_
    show Go p e below T103 (mkF m 9 #[vr a1] [wi 0, wi z]) _
    refine XS.ishr X103.here hx rfl (hb hby d9_9) rfl ?_
    show Go p e below T103 (mkF m 10 #[vr a1] [wi (z >>> ((0 : Int32) &&& 31))]) _
    exact retI X103 hx Bd.returns (hb hby d9_10) hr
  · show Qs (some (.int z)) h0 n0 _ T103.heap _
    rw [eq103]
    exact ⟨own_some (own_shr0 z), N103, rfl⟩
set_option maxRecDepth 65536 in
set_option maxHeartbeats 40000000 in
theorem rmEC_84270a (l : Launch) (Z : State) (a0 : Array Value) (hw : ∀ d ∈ tables_1, d.before a0 Z = true) (ws : List Jvm.Cond) (a1 : Addr) (n : Int32) (sb : Addr) (kb : ClassId) (cn : Int32) (vs2 : List Value) (h0 : Heap) (n0 : Nat) (X00 : Old Z n0 h0) (hn : n = (0 : Int32) ∨ n = (1 : Int32) ∨ n = (2 : Int32) ∨ n = (3 : Int32)) (E_a1 : Exa Z h0 a1 "java/lang/StringBuilder") (F_v : Fld Z h0 a1 "java/lang/AbstractStringBuilder" "value" "[B" (.ref sb)) (F_k : Fld Z h0 a1 "java/lang/AbstractStringBuilder" "coder" "B" (.int (0 : Int32))) (F_c : Fld Z h0 a1 "java/lang/AbstractStringBuilder" "count" "I" (.int cn)) (V_b : Arv Z h0 sb kb .byte (16 : Int32) vs2 (.int (0 : Int32))) (g_a1 : n0 ≤ a1) (g_sb : n0 ≤ sb) (n_as : a1 ≠ sb) :
    MetFree l mn_6 (head1 (Jvm.Cond.code mn_6 jdk_68_method_9_code 3 none :: ws) ({ frames := 0, cells := 0, slots := 0, locals := 0 } : Room)) (fun a U => a = #[(.ref a1), (.int ((0 : Int32) + n))] ∧ Z.Warmed39 U.vm ∧ U.heap = h0) (fun _ _ _ _ _ => True) (fun _ U o U' => ∃ rv rL, o = .returned rv ∧ Qs none h0 n0 rv U'.heap rL ∧ FrameEnd U o U' rL ({ frames := 0, cells := 0, slots := 0, locals := 0 } : Room).cells ({ frames := 0, cells := 0, slots := 0, locals := 0 } : Room).slots) := by
  refine MetFree.of_bodySF (plainFor_of_name pn_11) hisR ?_
  intro p e s m args below meth c s₁ Bd hml0 hP hK
  obtain ⟨rfl, hZ, hh⟩ := hP
  have hx := Bd.exec
  have hby := Bd.bytes
  have hml : c.maxLocals = 3 := hml0
  have hown : s.vm.findClass "java/lang/AbstractStringBuilder" = some m.cls := findClass_of_methodNamed Bd.named
  have hnm := (name_of_methodNamed Bd.named Bd.method).1
  have X0 : Stand p l e ({ frames := 0, cells := 0, slots := 0, locals := 0 } : Room) s m #[(.ref a1), (.int ((0 : Int32) + n))] below meth c s₁ [] 0 0 := Stand.of_body Bd
  have e0 : s₁.heap = h0 := by rw [← hh, Bd.state]; rfl
  have N0 := Fr.nil n0
  have pre0 : ∀ t, Steps p.tables e below (s₁.setTop (mkF m 0 #[.val (.ref a1), .val (.int ((0 : Int32) + n)), .unset] [])) t → Steps p.tables e below (s₁.setTop (entryFrame m #[(.ref a1), (.int ((0 : Int32) + n))] 3)) t := fun t k => castTop (ef_11 m a1 ((0 : Int32) + n)) k
  obtain ⟨T101, X101, e101, st101⟩ := getF X0 hx hZ hown (host := "") (Or.inl (tw hw 42 rfl)) Via.refl e0 F_v (g := (mkF m 1 #[vr a1, vi ((0 : Int32) + n), .unset] [wr a1])) rfl rfl (hb hby d11_1)
  obtain ⟨cl102, Ar102, q102, S102, M102, H102, G102⟩ := id V_b
  obtain ⟨T103, X103, e103, st103⟩ := getF X101 hx hZ hown (host := "") (Or.inl (tw hw 44 rfl)) Via.refl e101 F_k (g := (mkF m 6 #[vr a1, vi ((0 : Int32) + n), .unset] [wr a1, wi 16])) rfl rfl (hb hby d11_6)
  obtain ⟨fs, hr, hrun, hended, hW, hsame⟩ := X103.leave (v := none) (fun _ => rfl)
  refine ⟨_, _, pre0 _ ?_, hrun, hended, _, _, rfl, ?_, ⟨_, rfl⟩, hW, hsame.mono (by decide) (by decide)⟩
  · show Go p e below s₁ (mkF m 0 #[vr a1, vi ((0 : Int32) + n), .unset] []) _
    refine XS.aloadN X0.here hx rfl (hb hby d11_0) rfl rfl ?_
    show Go p e below s₁ (mkF m 1 #[vr a1, vi ((0 : Int32) + n), .unset] [wr a1]) _
    refine st101 _ ?_
    show Go p e below T101 (mkF m 4 #[vr a1, vi ((0 : Int32) + n), .unset] [wr sb]) _
    refine X101.arraylength hx (by rw [e101]; exact Ar102.1) (State.isArrayOf_alike hZ.alike Ar102.2.1) (g := (mkF m 4 #[vr a1, vi ((0 : Int32) + n), .unset] [wr sb])) rfl rfl (hb hby d11_4) _ ?_
    rw [len_of S102 M102]
    show Go p e below T101 (mkF m 5 #[vr a1, vi ((0 : Int32) + n), .unset] [wi 16]) _
    refine XS.aloadN X101.here hx rfl (hb hby d11_5) rfl rfl ?_
    show Go p e below T101 (mkF m 6 #[vr a1, vi ((0 : Int32) + n), .unset] [wr a1, wi 16]) _
    refine st103 _ ?_
    show Go p e below T103 (mkF m 9 #[vr a1, vi ((0 : Int32) + n), .unset] [wi 0, wi 16]) _
    refine XS.ishr X103.here hx rfl (hb hby d11_9) rfl ?_
    show Go p e below T103 (mkF m 10 #[vr a1, vi ((0 : Int32) + n), .unset] [wi 16]) _
    refine XS.istoreN X103.here hx rfl (hb hby d11_10) rfl (l' := #[.val (.ref a1), .val (.int ((0 : Int32) + n)), .val (.int (16 : Int32))]) rfl ?_
    show Go p e below T103 (mkF m 11 #[vr a1, vi ((0 : Int32) + n), vi 16] []) _
    refine XS.iloadN X103.here hx rfl (hb hby d11_11) rfl ?_
    show Go p e below T103 (mkF m 12 #[vr a1, vi ((0 : Int32) + n), vi 16] [wi ((0 : Int32) + n)]) _
    refine XS.iloadN X103.here hx rfl (hb hby d11_12) rfl ?_
    show Go p e below T103 (mkF m 13 #[vr a1, vi ((0 : Int32) + n), vi 16] [wi 16, wi ((0 : Int32) + n)]) _
    refine XS.isub X103.here hx rfl (hb hby d11_13) rfl ?_
    show Go p e below T103 (mkF m 14 #[vr a1, vi ((0 : Int32) + n), vi 16] [wi (((0 : Int32) + n) - (16 : Int32))]) _
    refine XS.ifYes X103.here hx rfl (pc0 := 14) (pc' := 38) rfl (hb hby d11_14) rfl ((if0 _ _).trans (flt (own_4 (P := fun n => ¬ ((0 : Int32) < (((0 : Int32) + n) - (16 : Int32)))) hn (by decide) : ¬ ((0 : Int32) < (((0 : Int32) + n) - (16 : Int32))))).2.2.2) (by decide) (by decide) ?_
    show Go p e below T103 (mkF m 38 #[vr a1, vi ((0 : Int32) + n), vi 16] []) _
    exact X103.returnOut hx Bd.returns (hb hby d11_38) hr
  · show Qs none h0 n0 _ T103.heap _
    rw [e103]
    exact ⟨rfl, N0, rfl⟩
set_option maxRecDepth 65536 in
set_option maxHeartbeats 40000000 in
theorem rmINF (l : Launch) (Z : State) (a0 : Array Value) (hw : ∀ d ∈ tables_1, d.before a0 Z = true) (ws : List Jvm.Cond) (a1 : Addr) (a2 : Addr) (n : Int32) (G1 : Int32) (h0 : Heap) (n0 : Nat) (X00 : Old Z n0 h0) (hn : n = (0 : Int32) ∨ n = (1 : Int32) ∨ n = (2 : Int32) ∨ n = (3 : Int32)) (O2 : Sta Z Z.heap "java/lang/String" "COMPACT_STRINGS" "Z" (.int G1)) (P5 : ¬ (G1 = (0 : Int32))) (E_a2 : Exa Z h0 a2 "java/lang/String") (F_k : Fld Z h0 a1 "java/lang/AbstractStringBuilder" "coder" "B" (.int (0 : Int32))) (S_k : Fld Z h0 a2 "java/lang/String" "coder" "B" (.int (0 : Int32))) :
    MetFree l mn_8 (head1 (Jvm.Cond.code mn_8 jdk_68_method_71_code 2 none :: ws) ({ frames := 1, cells := 0, slots := 0, locals := 13 } : Room)) (fun a U => a = #[(.ref a1), (.ref a2)] ∧ Z.Warmed39 U.vm ∧ U.heap = h0) (fun _ _ _ _ _ => True) (fun _ U o U' => ∃ rv rL, o = .returned rv ∧ Qs none h0 n0 rv U'.heap rL ∧ FrameEnd U o U' rL ({ frames := 1, cells := 0, slots := 0, locals := 13 } : Room).cells ({ frames := 1, cells := 0, slots := 0, locals := 13 } : Room).slots) := by
  refine MetFree.of_bodySF (plainFor_of_name pn_13) hisR ?_
  intro p e s m args below meth c s₁ Bd hml0 hP hK
  obtain ⟨rfl, hZ, hh⟩ := hP
  have hx := Bd.exec
  have hby := Bd.bytes
  have hml : c.maxLocals = 2 := hml0
  have hown : s.vm.findClass "java/lang/AbstractStringBuilder" = some m.cls := findClass_of_methodNamed Bd.named
  have hnm := (name_of_methodNamed Bd.named Bd.method).1
  have X0 : Stand p l e ({ frames := 1, cells := 0, slots := 0, locals := 13 } : Room) s m #[(.ref a1), (.ref a2)] below meth c s₁ [] 0 0 := Stand.of_body Bd
  have e0 : s₁.heap = h0 := by rw [← hh, Bd.state]; rfl
  have N0 := Fr.nil n0
  have pre0 : ∀ t, Steps p.tables e below (s₁.setTop (mkF m 0 #[.val (.ref a1), .val (.ref a2)] [])) t → Steps p.tables e below (s₁.setTop (entryFrame m #[(.ref a1), (.ref a2)] 2)) t := fun t k => castTop (ef_13 m a1 a2) k
  obtain ⟨T101, X101, e101, st101⟩ := getS2 X0 hx hZ hown (host := "") (Or.inl (tw hw 41 rfl)) Via.refl e0 (O2.ext X00.2) (g := (mkF m 0 #[vr a1, vr a2] [])) rfl (hb hby d13_0)
  have hc3 : ¬ (G1 = (0 : Int32)) := P5
  obtain ⟨T102, X102, e102, st102⟩ := getF X101 hx hZ hown (host := "") (Or.inl (tw hw 44 rfl)) Via.refl e101 F_k (g := (mkF m 7 #[vr a1, vr a2] [wr a1])) rfl rfl (hb hby d13_7)
  obtain ⟨cq103, kq103, q103a, q103b, q103c⟩ := isOf hZ e102 E_a2
  obtain ⟨_, _, ⟨T103, L103, k103, n103⟩, -, X103, ⟨Lc103, hQ103, l103, y103, z103⟩, st103⟩ := X102.virtualBack hx (y := mn_23) (z := mn_23) hown (mvT hZ (tw hw 84 rfl)) (mvT hZ (tw hw 62 rfl)) (notFace_of_selects (args := #[]) (mvT hZ (tw hw 64 rfl))) (mvT hZ (tw hw 64 rfl)) (mvT hZ (tw hw 63 rfl)) (by decide) (backOf (W := 1) (rmCod l Z a0 hw [] a2 n G1 h0 n0 X00 hn O2 P5 S_k) hZ (tw hw 65 rfl) (tw hw 3 rfl) (by decide) (by decide)) q103a q103c (g := (mkF m 11 #[vr a1, vr a2] [wr a2, wi 0])) rfl (by rw [hml]; rfl) (Steps.refl _) (argsL := []) (rest := [wi 0]) (lenOf pd__B rfl) rfl (Nat.le_refl _) (hb hby d13_11) (fun _ _ => ⟨rfl, e102, (by decide : 0 + 0 ≤ _), (by decide : 0 + 0 ≤ _)⟩)
  dsimp only [Pt.U, Pt.locs, Pt.cells, Pt.slots] at X103 l103 y103 z103 st103 hQ103
  subst l103 y103 z103
  obtain ⟨rfl, N103q, eq103⟩ := hQ103
  have N103 := Fr.app N0 N103q
  obtain ⟨fs, hr, hrun, hended, hW, hsame⟩ := X103.leave (v := none) (fun _ => rfl)
  refine ⟨_, _, pre0 _ ?_, hrun, hended, _, _, rfl, ?_, ⟨_, rfl⟩, hW, hsame.mono (by decide) (by decide)⟩
  · show Go p e below s₁ (mkF m 0 #[vr a1, vr a2] []) _
    refine st101 _ ?_
    show Go p e below T101 (mkF m 3 #[vr a1, vr a2] [wi G1]) _
    refine XS.ifNo X101.here hx rfl (hb hby d13_3) rfl ((if0 _ _).trans (feq hc3).1) ?_
    show Go p e below T101 (mkF m 6 #[vr a1, vr a2] []) _
    refine XS.aloadN X101.here hx rfl (hb hby d13_6) rfl rfl ?_
    show Go p e below T101 (mkF m 7 #[vr a1, vr a2] [wr a1]) _
    refine st102 _ ?_
    show Go p e below T102 (mkF m 10 #[vr a1, vr a2] [wi 0]) _
    refine XS.aloadN X102.here hx rfl (hb hby d13_10) rfl rfl ?_
    show Go p e below T102 (mkF m 11 #[vr a1, vr a2] [wr a2, wi 0]) _
    refine st103.trans ?_
    show Go p e below T103 (mkF m 14 #[vr a1, vr a2] [wi 0, wi 0]) _
    refine XS.icmpYes X103.here hx rfl (pc0 := 14) (pc' := 21) rfl (hb hby d13_14) rfl (teq (rfl : (0 : Int32) = (0 : Int32))).1 (by decide) (by decide) ?_
    show Go p e below T103 (mkF m 21 #[vr a1, vr a2] []) _
    exact X103.returnOut hx Bd.returns (hb hby d13_21) hr
  · show Qs none h0 n0 _ T103.heap _
    rw [eq103]
    exact ⟨rfl, N103, rfl⟩
set_option maxRecDepth 65536 in
set_option maxHeartbeats 40000000 in
theorem rmGB_09195b (l : Launch) (Z : State) (a0 : Array Value) (hw : ∀ d ∈ tables_1, d.before a0 Z = true) (ws : List Jvm.Cond) (a1 : Addr) (a2 : Addr) (n : Int32) (t : Addr) (kt : ClassId) (kd : ClassId) (vs1 : List Value) (vs2 : List Value) (G1 : Int32) (h0 : Heap) (n0 : Nat) (X00 : Old Z n0 h0) (hn : n = (0 : Int32) ∨ n = (1 : Int32) ∨ n = (2 : Int32) ∨ n = (3 : Int32)) (O2 : Sta Z Z.heap "java/lang/String" "COMPACT_STRINGS" "Z" (.int G1)) (P5 : ¬ (G1 = (0 : Int32))) (E_a1 : Exa Z h0 a1 "java/lang/String") (S_v : Fld Z h0 a1 "java/lang/String" "value" "[B" (.ref t)) (S_k : Fld Z h0 a1 "java/lang/String" "coder" "B" (.int (0 : Int32))) (V_t : Arv Z h0 t kt .byte n vs1 (.int (0 : Int32))) (V_d : Arv Z h0 a2 kd .byte (16 : Int32) vs2 (.int (0 : Int32))) (g_a2 : n0 ≤ a2) (lv : vs2.length = 16) :
    MetFree l mn_24 (head1 (Jvm.Cond.code mn_24 jdk_42_method_147_code 4 none :: ws) ({ frames := 1, cells := 0, slots := 0, locals := 18 } : Room)) (fun a U => a = #[(.ref a1), (.ref a2), (.int (0 : Int32)), (.int (0 : Int32))] ∧ Z.Warmed39 U.vm ∧ U.heap = h0) (fun _ _ _ _ _ => True) (fun _ U o U' => ∃ rv rL, o = .returned rv ∧ QGB Z a2 kd (16 : Int32) (put vs2 (cpy vs1 (0 : Int32) n) (0 : Int32) n) h0 n0 rv U'.heap rL ∧ FrameEnd U o U' rL ({ frames := 1, cells := 0, slots := 0, locals := 18 } : Room).cells ({ frames := 1, cells := 0, slots := 0, locals := 18 } : Room).slots) := by
  refine MetFree.of_bodySF (plainFor_of_name pn_14) hisR ?_
  intro p e s m args below meth c s₁ Bd hml0 hP hK
  obtain ⟨rfl, hZ, hh⟩ := hP
  have hx := Bd.exec
  have hby := Bd.bytes
  have hml : c.maxLocals = 4 := hml0
  have hown : s.vm.findClass "java/lang/String" = some m.cls := findClass_of_methodNamed Bd.named
  have hnm := (name_of_methodNamed Bd.named Bd.method).1
  have X0 : Stand p l e ({ frames := 1, cells := 0, slots := 0, locals := 18 } : Room) s m #[(.ref a1), (.ref a2), (.int (0 : Int32)), (.int (0 : Int32))] below meth c s₁ [] 0 0 := Stand.of_body Bd
  have e0 : s₁.heap = h0 := by rw [← hh, Bd.state]; rfl
  have N0 := Fr.nil n0
  have pre0 : ∀ t, Steps p.tables e below (s₁.setTop (mkF m 0 #[.val (.ref a1), .val (.ref a2), .val (.int (0 : Int32)), .val (.int (0 : Int32))] [])) t → Steps p.tables e below (s₁.setTop (entryFrame m #[(.ref a1), (.ref a2), (.int (0 : Int32)), (.int (0 : Int32))] 4)) t := fun t k => castTop (ef_14 m a1 a2 (0 : Int32) (0 : Int32)) k
  obtain ⟨cq101, kq101, q101a, q101b, q101c⟩ := isOf hZ e0 E_a1
  obtain ⟨_, _, ⟨T101, L101, k101, n101⟩, -, X101, ⟨Lc101, hQ101, l101, y101, z101⟩, st101⟩ := X0.virtualBack hx (y := mn_23) (z := mn_23) hown (mvT hZ (tw hw 61 rfl)) (mvT hZ (tw hw 62 rfl)) (notFace_of_selects (args := #[]) (mvT hZ (tw hw 64 rfl))) (mvT hZ (tw hw 64 rfl)) (mvT hZ (tw hw 63 rfl)) (by decide) (backOf (W := 0) (rmCod l Z a0 hw [] a1 n G1 h0 n0 X00 hn O2 P5 S_k) hZ (tw hw 65 rfl) (tw hw 3 rfl) (by decide) (by decide)) q101a q101c (g := (mkF m 1 #[vr a1, vr a2, vi 0, vi 0] [wr a1])) rfl (by rw [hml]; rfl) (Steps.refl _) (argsL := []) (rest := []) (lenOf pd__B rfl) rfl (Nat.le_refl _) (hb hby d14_1) (fun _ _ => ⟨rfl, e0, (by decide : 0 + 0 ≤ _), (by decide : 0 + 0 ≤ _)⟩)
  dsimp only [Pt.U, Pt.locs, Pt.cells, Pt.slots] at X101 l101 y101 z101 st101 hQ101
  subst l101 y101 z101
  obtain ⟨rfl, N101q, eq101⟩ := hQ101
  have N101 := Fr.app N0 N101q
  obtain ⟨T102, X102, e102, st102⟩ := getF X101 hx hZ hown (host := "") (Or.inl (tw hw 20 rfl)) Via.refl eq101 S_v (g := (mkF m 9 #[vr a1, vr a2, vi 0, vi 0] [wr a1])) rfl rfl (hb hby d14_9)
  obtain ⟨T103, X103, e103, st103⟩ := getF X102 hx hZ hown (host := "") (Or.inl (tw hw 20 rfl)) Via.refl e102 S_v (g := (mkF m 18 #[vr a1, vr a2, vi 0, vi 0] [wr a1, wi 0, wr a2, wi 0, wr t])) rfl rfl (hb hby d14_18)
  obtain ⟨cl104, Ar104, q104, S104, M104, H104, G104⟩ := id V_t
  obtain ⟨T105, h105, L105, X105, e105, N105, Kc105, V105q, st105⟩ := cpA (us := (cpy vs1 (0 : Int32) n)) X103 hx hZ hown (tw hw 90 rfl) (tw hw 93 rfl) (tw hw 91 rfl) (tw hw 92 rfl) e103 V_t V_d (Or.inl ⟨rfl, rfl⟩) (by decide : ¬ (0 : Int32) < 0) (by decide : ¬ (0 : Int32) < 0) (own_4 (P := fun n => ¬ n < 0) hn (by decide) : ¬ n < 0) (own_4 (P := fun n => (0 : Int32).toNatClampNeg + n.toNatClampNeg ≤ n.toNatClampNeg) hn (by decide) : (0 : Int32).toNatClampNeg + n.toNatClampNeg ≤ n.toNatClampNeg) (own_4 (P := fun n => (0 : Int32).toNatClampNeg + n.toNatClampNeg ≤ (16 : Int32).toNatClampNeg) hn (by decide) : (0 : Int32).toNatClampNeg + n.toNatClampNeg ≤ (16 : Int32).toNatClampNeg) rfl (Nat.le_trans (own_4 (P := fun n => (0 : Int32).toNatClampNeg + n.toNatClampNeg ≤ 16) hn (by decide) : (0 : Int32).toNatClampNeg + n.toNatClampNeg ≤ 16) (Nat.le_of_eq (lv : List.length vs2 = 16).symm)) N101 g_a2 (g := (mkF m 22 #[vr a1, vr a2, vi 0, vi 0] [wi n, wi 0, wr a2, wi 0, wr t])) rfl (by rw [hml]; rfl) rfl (hb hby d14_22) (by decide) (W := 0) (Nat.le_refl _) (by decide)
  have V105 : Arv Z h105 a2 kd .byte (16 : Int32) (put vs2 (cpy vs1 (0 : Int32) n) (0 : Int32) n) (.int (0 : Int32)) := V105q
  have y106 := ((Keep.refl h0 [a2]).trans Kc105 (allS (Or.inl (List.mem_of_getElem? (i := 0) rfl)) all0))
  obtain ⟨fs, hr, hrun, hended, hW, hsame⟩ := X105.leave (v := none) (fun _ => rfl)
  refine ⟨_, _, pre0 _ ?_, hrun, hended, _, _, rfl, ?_, ⟨_, rfl⟩, hW, hsame.mono (by decide) (by decide)⟩
  · show Go p e below s₁ (mkF m 0 #[vr a1, vr a2, vi 0, vi 0] []) _
    refine XS.aloadN X0.here hx rfl (hb hby d14_0) rfl rfl ?_
    show Go p e below s₁ (mkF m 1 #[vr a1, vr a2, vi 0, vi 0] [wr a1]) _
    refine st101.trans ?_
    show Go p e below T101 (mkF m 4 #[vr a1, vr a2, vi 0, vi 0] [wi 0]) _
    refine XS.iloadN X101.here hx rfl (hb hby d14_4) rfl ?_
    show Go p e below T101 (mkF m 5 #[vr a1, vr a2, vi 0, vi 0] [wi 0, wi 0]) _
    refine XS.icmpNo X101.here hx rfl (hb hby d14_5) rfl (teq (rfl : (0 : Int32) = (0 : Int32))).2 ?_
    show Go p e below T101 (mkF m 8 #[vr a1, vr a2, vi 0, vi 0] []) _
    refine XS.aloadN X101.here hx rfl (hb hby d14_8) rfl rfl ?_
    show Go p e below T101 (mkF m 9 #[vr a1, vr a2, vi 0, vi 0] [wr a1]) _
    refine st102 _ ?_
    show Go p e below T102 (mkF m 12 #[vr a1, vr a2, vi 0, vi 0] [wr t]) _
    refine XS.iconst X102.here hx rfl (hb hby d14_12) ?_
    show Go p e below T102 (mkF m 13 #[vr a1, vr a2, vi 0, vi 0] [wi 0, wr t]) _
    refine XS.aloadN X102.here hx rfl (hb hby d14_13) rfl rfl ?_
    show Go p e below T102 (mkF m 14 #[vr a1, vr a2, vi 0, vi 0] [wr a2, wi 0, wr t]) _
    refine XS.iloadN X102.here hx rfl (hb hby d14_14) rfl ?_
    show Go p e below T102 (mkF m 15 #[vr a1, vr a2, vi 0, vi 0] [wi 0, wr a2, wi 0, wr t]) _
    refine XS.iloadN X102.here hx rfl (hb hby d14_15) rfl ?_
    show Go p e below T102 (mkF m 16 #[vr a1, vr a2, vi 0, vi 0] [wi 0, wi 0, wr a2, wi 0, wr t]) _
    refine XS.ishl X102.here hx rfl (hb hby d14_16) rfl ?_
    show Go p e below T102 (mkF m 17 #[vr a1, vr a2, vi 0, vi 0] [wi 0, wr a2, wi 0, wr t]) _
    refine XS.aloadN X102.here hx rfl (hb hby d14_17) rfl rfl ?_
    show Go p e below T102 (mkF m 18 #[vr a1, vr a2, vi 0, vi 0] [wr a1, wi 0, wr a2, wi 0, wr t]) _
    refine st103 _ ?_
    show Go p e below T103 (mkF m 21 #[vr a1, vr a2, vi 0, vi 0] [wr t, wi 0, wr a2, wi 0, wr t]) _
    refine X103.arraylength hx (by rw [e103]; exact Ar104.1) (State.isArrayOf_alike hZ.alike Ar104.2.1) (g := (mkF m 21 #[vr a1, vr a2, vi 0, vi 0] [wr t, wi 0, wr a2, wi 0, wr t])) rfl rfl (hb hby d14_21) _ ?_
    rw [len_of S104 M104]
    show Go p e below T103 (mkF m 22 #[vr a1, vr a2, vi 0, vi 0] [wi n, wi 0, wr a2, wi 0, wr t]) _
    refine st105 _ ?_
    show Go p e below T105 (mkF m 25 #[vr a1, vr a2, vi 0, vi 0] []) _
    refine XS.goto X105.here hx rfl (pc0 := 25) (pc' := 43) rfl (hb hby d14_25) (by decide) (by decide) ?_
    show Go p e below T105 (mkF m 43 #[vr a1, vr a2, vi 0, vi 0] []) _
    exact X105.returnOut hx Bd.returns (hb hby d14_43) hr
  · show QGB Z a2 kd (16 : Int32) (put vs2 (cpy vs1 (0 : Int32) n) (0 : Int32) n) h0 n0 _ T105.heap _
    rw [e105]
    exact ⟨rfl, N105, y106, V105⟩
set_option maxRecDepth 65536 in
set_option maxHeartbeats 40000000 in
theorem rmPS_09195b (l : Launch) (Z : State) (a0 : Array Value) (hw : ∀ d ∈ tables_1, d.before a0 Z = true) (ws : List Jvm.Cond) (a1 : Addr) (a3 : Addr) (n : Int32) (t : Addr) (kt : ClassId) (sb : Addr) (kb : ClassId) (cn : Int32) (vs1 : List Value) (vs2 : List Value) (G1 : Int32) (h0 : Heap) (n0 : Nat) (X00 : Old Z n0 h0) (hn : n = (0 : Int32) ∨ n = (1 : Int32) ∨ n = (2 : Int32) ∨ n = (3 : Int32)) (O2 : Sta Z Z.heap "java/lang/String" "COMPACT_STRINGS" "Z" (.int G1)) (P5 : ¬ (G1 = (0 : Int32))) (E_a3 : Exa Z h0 a3 "java/lang/String") (S_v : Fld Z h0 a3 "java/lang/String" "value" "[B" (.ref t)) (S_k : Fld Z h0 a3 "java/lang/String" "coder" "B" (.int (0 : Int32))) (V_t : Arv Z h0 t kt .byte n vs1 (.int (0 : Int32))) (E_a1 : Exa Z h0 a1 "java/lang/StringBuilder") (F_v : Fld Z h0 a1 "java/lang/AbstractStringBuilder" "value" "[B" (.ref sb)) (F_k : Fld Z h0 a1 "java/lang/AbstractStringBuilder" "coder" "B" (.int (0 : Int32))) (F_c : Fld Z h0 a1 "java/lang/AbstractStringBuilder" "count" "I" (.int cn)) (V_b : Arv Z h0 sb kb .byte (16 : Int32) vs2 (.int (0 : Int32))) (g_a1 : n0 ≤ a1) (g_sb : n0 ≤ sb) (n_as : a1 ≠ sb) (lv : vs2.length = 16) :
    MetFree l mn_12 (head1 (Jvm.Cond.code mn_12 jdk_68_method_73_code 3 none :: ws) ({ frames := 2, cells := 0, slots := 0, locals := 33 } : Room)) (fun a U => a = #[(.ref a1), (.int (0 : Int32)), (.ref a3)] ∧ Z.Warmed39 U.vm ∧ U.heap = h0) (fun _ _ _ _ _ => True) (fun _ U o U' => ∃ rv rL, o = .returned rv ∧ QGB Z sb kb (16 : Int32) (put vs2 (cpy vs1 (0 : Int32) n) (0 : Int32) n) h0 n0 rv U'.heap rL ∧ FrameEnd U o U' rL ({ frames := 2, cells := 0, slots := 0, locals := 33 } : Room).cells ({ frames := 2, cells := 0, slots := 0, locals := 33 } : Room).slots) := by
  refine MetFree.of_bodySF (plainFor_of_name pn_12) hisR ?_
  intro p e s m args below meth c s₁ Bd hml0 hP hK
  obtain ⟨rfl, hZ, hh⟩ := hP
  have hx := Bd.exec
  have hby := Bd.bytes
  have hml : c.maxLocals = 3 := hml0
  have hown : s.vm.findClass "java/lang/AbstractStringBuilder" = some m.cls := findClass_of_methodNamed Bd.named
  have hnm := (name_of_methodNamed Bd.named Bd.method).1
  have X0 : Stand p l e ({ frames := 2, cells := 0, slots := 0, locals := 33 } : Room) s m #[(.ref a1), (.int (0 : Int32)), (.ref a3)] below meth c s₁ [] 0 0 := Stand.of_body Bd
  have e0 : s₁.heap = h0 := by rw [← hh, Bd.state]; rfl
  have N0 := Fr.nil n0
  have pre0 : ∀ t, Steps p.tables e below (s₁.setTop (mkF m 0 #[.val (.ref a1), .val (.int (0 : Int32)), .val (.ref a3)] [])) t → Steps p.tables e below (s₁.setTop (entryFrame m #[(.ref a1), (.int (0 : Int32)), (.ref a3)] 3)) t := fun t k => castTop (ef_12 m a1 (0 : Int32) a3) k
  obtain ⟨cq101, q101a, q101b⟩ := E_a1.cell
  obtain ⟨_, _, ⟨T101, L101, k101, n101⟩, -, X101, ⟨Lc101, hQ101, l101, y101, z101⟩, st101⟩ := X0.privateBack hx (y := mn_8) hown (mvT hZ (tw hw 79 rfl)) (mvT hZ (tw hw 80 rfl)) (mvT hZ (own_selP (tw hw 82 rfl) (tw hw 80 rfl) (tw hw 81 rfl) (by decide))) (Cond.privateMethod_at (mvP hZ (tw hw 81 rfl) (args := #[]))) (mvT hZ (tw hw 83 rfl)) (by decide) (backOf (W := 0) (rmINF l Z a0 hw [] a1 a3 n G1 h0 n0 X00 hn O2 P5 E_a3 F_k S_k) hZ (tw hw 83 rfl) (tw hw 38 rfl) (by decide) (by decide)) (g := (mkF m 2 #[vr a1, vi 0, vr a3] [wr a3, wr a1])) rfl (by rw [hml]; rfl) (Steps.refl _) (a := a1) (by rw [e0]; exact q101a) q101b (argsL := [wr a3]) (rest := []) (lenOf pd_Ljava_lang_String__V rfl) rfl (Nat.le_refl _) (hb hby d12_2) (fun _ _ => ⟨rfl, e0, (by decide : 0 + 0 ≤ _), (by decide : 0 + 0 ≤ _)⟩)
  dsimp only [Pt.U, Pt.locs, Pt.cells, Pt.slots] at X101 l101 y101 z101 st101 hQ101
  subst l101 y101 z101
  obtain ⟨rfl, N101q, eq101⟩ := hQ101
  have N101 := Fr.app N0 N101q
  obtain ⟨T102, X102, e102, st102⟩ := getF X101 hx hZ hown (host := "") (Or.inl (tw hw 42 rfl)) Via.refl eq101 F_v (g := (mkF m 7 #[vr a1, vi 0, vr a3] [wr a1, wr a3])) rfl rfl (hb hby d12_7)
  obtain ⟨T103, X103, e103, st103⟩ := getF X102 hx hZ hown (host := "") (Or.inl (tw hw 44 rfl)) Via.refl e102 F_k (g := (mkF m 12 #[vr a1, vi 0, vr a3] [wr a1, wi 0, wr sb, wr a3])) rfl rfl (hb hby d12_12)
  obtain ⟨cq104, kq104, q104a, q104b, q104c⟩ := isOf hZ e103 E_a3
  obtain ⟨_, _, ⟨T104, L104, k104, n104⟩, -, X104, ⟨Lc104, hQ104, l104, y104, z104⟩, st104⟩ := X103.virtualBack hx (y := mn_24) (z := mn_24) hown (mvT hZ (tw hw 85 rfl)) (mvT hZ (tw hw 86 rfl)) (notFace_of_selects (args := #[]) (mvT hZ (tw hw 88 rfl))) (mvT hZ (tw hw 88 rfl)) (mvT hZ (tw hw 87 rfl)) (by decide) (backOf (W := 0) (rmGB_09195b l Z a0 hw [] a3 sb n t kt kb vs1 vs2 G1 h0 n0 X00 hn O2 P5 E_a3 S_v S_k V_t V_b g_sb lv) hZ (tw hw 89 rfl) (tw hw 3 rfl) (by decide) (by decide)) q104a q104c (g := (mkF m 15 #[vr a1, vi 0, vr a3] [wi 0, wi 0, wr sb, wr a3])) rfl (by rw [hml]; rfl) (Steps.refl _) (argsL := [wr sb, wi 0, wi 0]) (rest := []) (lenOf pd_ABIB_V rfl) rfl (Nat.le_refl _) (hb hby d12_15) (fun _ _ => ⟨rfl, e103, (by decide : 0 + 0 ≤ _), (by decide : 0 + 0 ≤ _)⟩)
  dsimp only [Pt.U, Pt.locs, Pt.cells, Pt.slots] at X104 l104 y104 z104 st104 hQ104
  subst l104 y104 z104
  obtain ⟨rfl, N104q, Kc104, uV104⟩ := hQ104
  have N104 := Fr.app N101 N104q
  have y105 := ((Keep.refl h0 [sb]).trans Kc104 (allS (Or.inl (List.mem_of_getElem? (i := 0) rfl)) all0))
  obtain ⟨fs, hr, hrun, hended, hW, hsame⟩ := X104.leave (v := none) (fun _ => rfl)
  refine ⟨_, _, pre0 _ ?_, hrun, hended, _, _, rfl, ?_, ⟨_, rfl⟩, hW, hsame.mono (by decide) (by decide)⟩
  · show Go p e below s₁ (mkF m 0 #[vr a1, vi 0, vr a3] []) _
    refine XS.aloadN X0.here hx rfl (hb hby d12_0) rfl rfl ?_
    show Go p e below s₁ (mkF m 1 #[vr a1, vi 0, vr a3] [wr a1]) _
    refine XS.aloadN X0.here hx rfl (hb hby d12_1) rfl rfl ?_
    show Go p e below s₁ (mkF m 2 #[vr a1, vi 0, vr a3] [wr a3, wr a1]) _
    refine st101.trans ?_
    show Go p e below T101 (mkF m 5 #[vr a1, vi 0, vr a3] []) _
    refine XS.aloadN X101.here hx rfl (hb hby d12_5) rfl rfl ?_
    show Go p e below T101 (mkF m 6 #[vr a1, vi 0, vr a3] [wr a3]) _
    refine XS.aloadN X101.here hx rfl (hb hby d12_6) rfl rfl ?_
    show Go p e below T101 (mkF m 7 #[vr a1, vi 0, vr a3] [wr a1, wr a3]) _
    refine st102 _ ?_
    show Go p e below T102 (mkF m 10 #[vr a1, vi 0, vr a3] [wr sb, wr a3]) _
    refine XS.iloadN X102.here hx rfl (hb hby d12_10) rfl ?_
    show Go p e below T102 (mkF m 11 #[vr a1, vi 0, vr a3] [wi 0, wr sb, wr a3]) _
    refine XS.aloadN X102.here hx rfl (hb hby d12_11) rfl rfl ?_
    show Go p e below T102 (mkF m 12 #[vr a1, vi 0, vr a3] [wr a1, wi 0, wr sb, wr a3]) _
    refine st103 _ ?_
    show Go p e below T103 (mkF m 15 #[vr a1, vi 0, vr a3] [wi 0, wi 0, wr sb, wr a3]) _
    refine st104.trans ?_
    show Go p e below T104 (mkF m 18 #[vr a1, vi 0, vr a3] []) _
    exact X104.returnOut hx Bd.returns (hb hby d12_18) hr
  · show QGB Z sb kb (16 : Int32) (put vs2 (cpy vs1 (0 : Int32) n) (0 : Int32) n) h0 n0 _ T104.heap _
    exact ⟨rfl, N104, y105, uV104⟩
set_option maxRecDepth 65536 in
set_option maxHeartbeats 40000000 in
theorem rmAPa_09195b (l : Launch) (Z : State) (a0 : Array Value) (hw : ∀ d ∈ tables_1, d.before a0 Z = true) (ws : List Jvm.Cond) (a1 : Addr) (a2 : Addr) (n : Int32) (t : Addr) (kt : ClassId) (sb : Addr) (kb : ClassId) (vs1 : List Value) (vs2 : List Value) (G1 : Int32) (h0 : Heap) (n0 : Nat) (X00 : Old Z n0 h0) (hn : n = (0 : Int32) ∨ n = (1 : Int32) ∨ n = (2 : Int32) ∨ n = (3 : Int32)) (O2 : Sta Z Z.heap "java/lang/String" "COMPACT_STRINGS" "Z" (.int G1)) (P5 : ¬ (G1 = (0 : Int32))) (E_a2 : Exa Z h0 a2 "java/lang/String") (S_v : Fld Z h0 a2 "java/lang/String" "value" "[B" (.ref t)) (S_k : Fld Z h0 a2 "java/lang/String" "coder" "B" (.int (0 : Int32))) (V_t : Arv Z h0 t kt .byte n vs1 (.int (0 : Int32))) (E_a1 : Exa Z h0 a1 "java/lang/StringBuilder") (F_v : Fld Z h0 a1 "java/lang/AbstractStringBuilder" "value" "[B" (.ref sb)) (F_k : Fld Z h0 a1 "java/lang/AbstractStringBuilder" "coder" "B" (.int (0 : Int32))) (F_c : Fld Z h0 a1 "java/lang/AbstractStringBuilder" "count" "I" (.int (0 : Int32))) (V_b : Arv Z h0 sb kb .byte (16 : Int32) vs2 (.int (0 : Int32))) (g_a1 : n0 ≤ a1) (g_sb : n0 ≤ sb) (n_as : a1 ≠ sb) (n_xa : a2 ≠ a1) (n_xs : a2 ≠ sb) (n_ta : t ≠ a1) (n_ts : t ≠ sb) (lv : vs2.length = 16) :
    MetFree l mn_5 (head1 (Jvm.Cond.code mn_5 jdk_68_method_22_code 3 (some (.object "java/lang/AbstractStringBuilder")) :: ws) ({ frames := 3, cells := 0, slots := 0, locals := 47 } : Room)) (fun a U => a = #[(.ref a1), (.ref a2)] ∧ Z.Warmed39 U.vm ∧ U.heap = h0) (fun _ _ _ _ _ => True) (fun _ U o U' => ∃ rv rL, o = .returned rv ∧ QSA Z a1 sb kb (16 : Int32) ((0 : Int32) + n) (put vs2 (cpy vs1 (0 : Int32) n) (0 : Int32) n) (some (.ref a1)) h0 n0 rv U'.heap rL ∧ FrameEnd U o U' rL ({ frames := 3, cells := 0, slots := 0, locals := 47 } : Room).cells ({ frames := 3, cells := 0, slots := 0, locals := 47 } : Room).slots) := by
  refine MetFree.of_bodySF (plainFor_of_name pn_8) hisR ?_
  intro p e s m args below meth c s₁ Bd hml0 hP hK
  obtain ⟨rfl, hZ, hh⟩ := hP
  have hx := Bd.exec
  have hby := Bd.bytes
  have hml : c.maxLocals = 3 := hml0
  have hown : s.vm.findClass "java/lang/AbstractStringBuilder" = some m.cls := findClass_of_methodNamed Bd.named
  have hnm := (name_of_methodNamed Bd.named Bd.method).1
  have X0 : Stand p l e ({ frames := 3, cells := 0, slots := 0, locals := 47 } : Room) s m #[(.ref a1), (.ref a2)] below meth c s₁ [] 0 0 := Stand.of_body Bd
  have e0 : s₁.heap = h0 := by rw [← hh, Bd.state]; rfl
  have N0 := Fr.nil n0
  have pre0 : ∀ t, Steps p.tables e below (s₁.setTop (mkF m 0 #[.val (.ref a1), .val (.ref a2), .unset] [])) t → Steps p.tables e below (s₁.setTop (entryFrame m #[(.ref a1), (.ref a2)] 3)) t := fun t k => castTop (ef_8 m a1 a2) k
  obtain ⟨cq101, kq101, q101a, q101b, q101c⟩ := isOf hZ e0 E_a2
  obtain ⟨_, _, ⟨T101, L101, k101, n101⟩, -, X101, ⟨Lc101, hQ101, l101, y101, z101⟩, st101⟩ := X0.virtualBack hx (y := mn_26) (z := mn_26) hown (mvT hZ (tw hw 56 rfl)) (mvT hZ (tw hw 57 rfl)) (notFace_of_selects (args := #[]) (mvT hZ (tw hw 59 rfl))) (mvT hZ (tw hw 59 rfl)) (mvT hZ (tw hw 58 rfl)) (by decide) (backOf (W := 0) (rmLen l Z a0 hw [] a2 n t kt n vs1 G1 h0 n0 X00 hn O2 P5 E_a2 S_v S_k V_t) hZ (tw hw 60 rfl) (tw hw 3 rfl) (by decide) (by decide)) q101a q101c (g := (mkF m 10 #[vr a1, vr a2, .unset] [wr a2])) rfl (by rw [hml]; rfl) (Steps.refl _) (argsL := []) (rest := []) (lenOf pd__I rfl) rfl (Nat.le_refl _) (hb hby d8_10) (fun _ _ => ⟨rfl, e0, (by decide : 0 + 0 ≤ _), (by decide : 0 + 0 ≤ _)⟩)
  dsimp only [Pt.U, Pt.locs, Pt.cells, Pt.slots] at X101 l101 y101 z101 st101 hQ101
  subst l101 y101 z101
  obtain ⟨rfl, N101q, eq101⟩ := hQ101
  have N101 := Fr.app N0 N101q
  obtain ⟨T102, X102, e102, st102⟩ := getF X101 hx hZ hown (host := "") (Or.inl (tw hw 67 rfl)) Via.refl eq101 F_c (g := (mkF m 16 #[vr a1, vr a2, vi n] [wr a1, wr a1])) rfl rfl (hb hby d8_16)
  obtain ⟨cq103, q103a, q103b⟩ := E_a1.cell
  obtain ⟨_, _, ⟨T103, L103, k103, n103⟩, -, X103, ⟨Lc103, hQ103, l103, y103, z103⟩, st103⟩ := X102.privateBack hx (y := mn_6) hown (mvT hZ (tw hw 69 rfl)) (mvT hZ (tw hw 70 rfl)) (mvT hZ (own_selP (tw hw 72 rfl) (tw hw 70 rfl) (tw hw 71 rfl) (by decide))) (Cond.privateMethod_at (mvP hZ (tw hw 71 rfl) (args := #[]))) (mvT hZ (tw hw 73 rfl)) (by decide) (backOf (W := 0) (rmEC_84270a l Z a0 hw [] a1 n sb kb (0 : Int32) vs2 h0 n0 X00 hn E_a1 F_v F_k F_c V_b g_a1 g_sb n_as) hZ (tw hw 73 rfl) (tw hw 38 rfl) (by decide) (by decide)) (g := (mkF m 21 #[vr a1, vr a2, vi n] [wi ((0 : Int32) + n), wr a1])) rfl (by rw [hml]; rfl) (Steps.refl _) (a := a1) (by rw [e102]; exact q103a) q103b (argsL := [wi ((0 : Int32) + n)]) (rest := []) (lenOf pd_I_V rfl) rfl (Nat.le_refl _) (hb hby d8_21) (fun _ _ => ⟨rfl, e102, (by decide : 0 + 0 ≤ _), (by decide : 0 + 0 ≤ _)⟩)
  dsimp only [Pt.U, Pt.locs, Pt.cells, Pt.slots] at X103 l103 y103 z103 st103 hQ103
  subst l103 y103 z103
  obtain ⟨rfl, N103q, eq103⟩ := hQ103
  have N103 := Fr.app N101 N103q
  obtain ⟨T104, X104, e104, st104⟩ := getF X103 hx hZ hown (host := "") (Or.inl (tw hw 67 rfl)) Via.refl eq103 F_c (g := (mkF m 26 #[vr a1, vr a2, vi n] [wr a1, wr a1])) rfl rfl (hb hby d8_26)
  obtain ⟨cq105, q105a, q105b⟩ := E_a1.cell
  obtain ⟨_, _, ⟨T105, L105, k105, n105⟩, -, X105, ⟨Lc105, hQ105, l105, y105, z105⟩, st105⟩ := X104.privateBack hx (y := mn_12) hown (mvT hZ (tw hw 74 rfl)) (mvT hZ (tw hw 75 rfl)) (mvT hZ (own_selP (tw hw 77 rfl) (tw hw 75 rfl) (tw hw 76 rfl) (by decide))) (Cond.privateMethod_at (mvP hZ (tw hw 76 rfl) (args := #[]))) (mvT hZ (tw hw 78 rfl)) (by decide) (backOf (W := 0) (rmPS_09195b l Z a0 hw [] a1 a2 n t kt sb kb (0 : Int32) vs1 vs2 G1 h0 n0 X00 hn O2 P5 E_a2 S_v S_k V_t E_a1 F_v F_k F_c V_b g_a1 g_sb n_as lv) hZ (tw hw 78 rfl) (tw hw 38 rfl) (by decide) (by decide)) (g := (mkF m 30 #[vr a1, vr a2, vi n] [wr a2, wi 0, wr a1])) rfl (by rw [hml]; rfl) (Steps.refl _) (a := a1) (by rw [e104]; exact q105a) q105b (argsL := [wi 0, wr a2]) (rest := []) (lenOf pd_ILjava_lang_String__V rfl) rfl (Nat.le_refl _) (hb hby d8_30) (fun _ _ => ⟨rfl, e104, (by decide : 0 + 0 ≤ _), (by decide : 0 + 0 ≤ _)⟩)
  dsimp only [Pt.U, Pt.locs, Pt.cells, Pt.slots] at X105 l105 y105 z105 st105 hQ105
  subst l105 y105 z105
  obtain ⟨rfl, N105q, Kc105, uV105⟩ := hQ105
  have N105 := Fr.app N103 N105q
  have y107 := (F_c.keep Kc105 (own_nmc n_as own_nm0))
  obtain ⟨T106, X106, e106, st106⟩ := getF X105 hx hZ hown (host := "") (Or.inl (tw hw 67 rfl)) Via.refl rfl y107 (g := (mkF m 35 #[vr a1, vr a2, vi n] [wr a1, wr a1])) rfl rfl (hb hby d8_35)
  have y108 := (E_a1.keep Kc105)
  obtain ⟨T109, h109, X109, e109, W109, st109⟩ := putF X106 hx hZ hown (host := "") (Or.inl (tw hw 67 rfl)) Via.refl e106 y107 y108 (Or.inl (tw hw 68 rfl)) (tw hw 29 rfl) (ty := .int) (by decide) rfl rfl (g := (mkF m 40 #[vr a1, vr a2, vi n] [wi ((0 : Int32) + n), wr a1])) rfl rfl (hb hby d8_40)
  have Fw109 := y107.same W109
  have N109 := Fr.snoc X109 N105 g_a1
  have y110 := (((Keep.refl h0 [a1, sb]).trans Kc105 (allS (Or.inl (List.mem_of_getElem? (i := 1) rfl)) all0)).wr W109 (Or.inl (List.mem_of_getElem? (i := 0) rfl)))
  have y111 := (y108.wr W109)
  have y112 := ((F_v.keep Kc105 (own_nmc n_as own_nm0)).other W109 (Or.inr (slot_ne (Or.inl (tw hw 43 rfl)) (Or.inl (tw hw 68 rfl)) (by decide) (t := (.array .byte)) (t' := .int) (by decide) (by decide))))
  have y113 := ((F_k.keep Kc105 (own_nmc n_as own_nm0)).other W109 (Or.inr (slot_ne (Or.inl (tw hw 45 rfl)) (Or.inl (tw hw 68 rfl)) (by decide) (t := .byte) (t' := .int) (by decide) (by decide))))
  have y114 := (uV105.other W109 (Ne.symm n_as))
  obtain ⟨fs, hr, hrun, hended, hW, hsame⟩ := X109.leave (v := some (.ref a1)) (fun h => by rw [Bd.returns] at h; cases h)
  refine ⟨_, _, pre0 _ ?_, hrun, hended, _, _, rfl, ?_, ⟨_, rfl⟩, hW, hsame.mono (by decide) (by decide)⟩
  · show Go p e below s₁ (mkF m 0 #[vr a1, vr a2, .unset] []) _
    refine XS.aloadN X0.here hx rfl (hb hby d8_0) rfl rfl ?_
    show Go p e below s₁ (mkF m 1 #[vr a1, vr a2, .unset] [wr a2]) _
    refine XS.ifnonnullYes X0.here hx rfl (pc0 := 1) (pc' := 9) rfl (hb hby d8_1) rfl (by decide) (by decide) ?_
    show Go p e below s₁ (mkF m 9 #[vr a1, vr a2, .unset] []) _
    refine XS.aloadN X0.here hx rfl (hb hby d8_9) rfl rfl ?_
    show Go p e below s₁ (mkF m 10 #[vr a1, vr a2, .unset] [wr a2]) _
    refine st101.trans ?_
    show Go p e below T101 (mkF m 13 #[vr a1, vr a2, .unset] [wi n]) _
    refine XS.istoreN X101.here hx rfl (hb hby d8_13) rfl (l' := #[.val (.ref a1), .val (.ref a2), .val (.int n)]) rfl ?_
    show Go p e below T101 (mkF m 14 #[vr a1, vr a2, vi n] []) _
    refine XS.aloadN X101.here hx rfl (hb hby d8_14) rfl rfl ?_
    show Go p e below T101 (mkF m 15 #[vr a1, vr a2, vi n] [wr a1]) _
    refine XS.aloadN X101.here hx rfl (hb hby d8_15) rfl rfl ?_
    show Go p e below T101 (mkF m 16 #[vr a1, vr a2, vi n] [wr a1, wr a1]) _
    refine st102 _ ?_
    show Go p e below T102 (mkF m 19 #[vr a1, vr a2, vi n] [wi 0, wr a1]) _
    refine XS.iloadN X102.here hx rfl (hb hby d8_19) rfl ?_
    show Go p e below T102 (mkF m 20 #[vr a1, vr a2, vi n] [wi n, wi 0, wr a1]) _
    refine XS.iadd X102.here hx rfl (hb hby d8_20) rfl ?_
    show Go p e below T102 (mkF m 21 #[vr a1, vr a2, vi n] [wi ((0 : Int32) + n), wr a1]) _
    refine st103.trans ?_
    show Go p e below T103 (mkF m 24 #[vr a1, vr a2, vi n] []) _
    refine XS.aloadN X103.here hx rfl (hb hby d8_24) rfl rfl ?_
    show Go p e below T103 (mkF m 25 #[vr a1, vr a2, vi n] [wr a1]) _
    refine XS.aloadN X103.here hx rfl (hb hby d8_25) rfl rfl ?_
    show Go p e below T103 (mkF m 26 #[vr a1, vr a2, vi n] [wr a1, wr a1]) _
    refine st104 _ ?_
    show Go p e below T104 (mkF m 29 #[vr a1, vr a2, vi n] [wi 0, wr a1]) _
    refine XS.aloadN X104.here hx rfl (hb hby d8_29) rfl rfl ?_
    show Go p e below T104 (mkF m 30 #[vr a1, vr a2, vi n] [wr a2, wi 0, wr a1]) _
    refine st105.trans ?_
    show Go p e below T105 (mkF m 33 #[vr a1, vr a2, vi n] []) _
    refine XS.aloadN X105.here hx rfl (hb hby d8_33) rfl rfl ?_
    show Go p e below T105 (mkF m 34 #[vr a1, vr a2, vi n] [wr a1]) _
    refine XS.dup X105.here hx rfl (hb hby d8_34) rfl rfl ?_
    show Go p e below T105 (mkF m 35 #[vr a1, vr a2, vi n] [wr a1, wr a1]) _
    refine st106 _ ?_
    show Go p e below T106 (mkF m 38 #[vr a1, vr a2, vi n] [wi 0, wr a1]) _
    refine XS.iloadN X106.here hx rfl (hb hby d8_38) rfl ?_
    show Go p e below T106 (mkF m 39 #[vr a1, vr a2, vi n] [wi n, wi 0, wr a1]) _
    refine XS.iadd X106.here hx rfl (hb hby d8_39) rfl ?_
    show Go p e below T106 (mkF m 40 #[vr a1, vr a2, vi n] [wi ((0 : Int32) + n), wr a1]) _
    refine st109 _ ?_
    show Go p e below T109 (mkF m 43 #[vr a1, vr a2, vi n] []) _
    refine XS.aloadN X109.here hx rfl (hb hby d8_43) rfl rfl ?_
    show Go p e below T109 (mkF m 44 #[vr a1, vr a2, vi n] [wr a1]) _
    jvm_step X109.here [X109.here.top, hx, (hb hby d8_44), X109.method', Bd.returns, Value.isRef, FieldType.isReference]
    first | (intro acts; rw [hr _ acts rfl rfl rfl]) | rw [hr _ _ rfl rfl rfl]
    exact Steps.refl _
  · show QSA Z a1 sb kb (16 : Int32) ((0 : Int32) + n) (put vs2 (cpy vs1 (0 : Int32) n) (0 : Int32) n) (some (.ref a1)) h0 n0 _ T109.heap _
    rw [e109]
    exact ⟨rfl, N109, y110, y111, y112, y113, Fw109, y114⟩
set_option maxRecDepth 65536 in
set_option maxHeartbeats 40000000 in
theorem rmAPb_09195b (l : Launch) (Z : State) (a0 : Array Value) (hw : ∀ d ∈ tables_1, d.before a0 Z = true) (ws : List Jvm.Cond) (a1 : Addr) (a2 : Addr) (n : Int32) (t : Addr) (kt : ClassId) (sb : Addr) (kb : ClassId) (vs1 : List Value) (vs2 : List Value) (G1 : Int32) (h0 : Heap) (n0 : Nat) (X00 : Old Z n0 h0) (hn : n = (0 : Int32) ∨ n = (1 : Int32) ∨ n = (2 : Int32) ∨ n = (3 : Int32)) (O2 : Sta Z Z.heap "java/lang/String" "COMPACT_STRINGS" "Z" (.int G1)) (P5 : ¬ (G1 = (0 : Int32))) (E_a2 : Exa Z h0 a2 "java/lang/String") (S_v : Fld Z h0 a2 "java/lang/String" "value" "[B" (.ref t)) (S_k : Fld Z h0 a2 "java/lang/String" "coder" "B" (.int (0 : Int32))) (V_t : Arv Z h0 t kt .byte n vs1 (.int (0 : Int32))) (E_a1 : Exa Z h0 a1 "java/lang/StringBuilder") (F_v : Fld Z h0 a1 "java/lang/AbstractStringBuilder" "value" "[B" (.ref sb)) (F_k : Fld Z h0 a1 "java/lang/AbstractStringBuilder" "coder" "B" (.int (0 : Int32))) (F_c : Fld Z h0 a1 "java/lang/AbstractStringBuilder" "count" "I" (.int (0 : Int32))) (V_b : Arv Z h0 sb kb .byte (16 : Int32) vs2 (.int (0 : Int32))) (g_a1 : n0 ≤ a1) (g_sb : n0 ≤ sb) (n_as : a1 ≠ sb) (n_xa : a2 ≠ a1) (n_xs : a2 ≠ sb) (n_ta : t ≠ a1) (n_ts : t ≠ sb) (lv : vs2.length = 16) :
    MetFree l mn_28 (head1 (Jvm.Cond.code mn_28 jdk_67_method_7_code 2 (some (.object "java/lang/StringBuilder")) :: ws) ({ frames := 4, cells := 0, slots := 0, locals := 61 } : Room)) (fun a U => a = #[(.ref a1), (.ref a2)] ∧ Z.Warmed39 U.vm ∧ U.heap = h0) (fun _ _ _ _ _ => True) (fun _ U o U' => ∃ rv rL, o = .returned rv ∧ QSA Z a1 sb kb (16 : Int32) ((0 : Int32) + n) (put vs2 (cpy vs1 (0 : Int32) n) (0 : Int32) n) (some (.ref a1)) h0 n0 rv U'.heap rL ∧ FrameEnd U o U' rL ({ frames := 4, cells := 0, slots := 0, locals := 61 } : Room).cells ({ frames := 4, cells := 0, slots := 0, locals := 61 } : Room).slots) := by
  refine MetFree.of_bodySF (plainFor_of_name pn_7) hisR ?_
  intro p e s m args below meth c s₁ Bd hml0 hP hK
  obtain ⟨rfl, hZ, hh⟩ := hP
  have hx := Bd.exec
  have hby := Bd.bytes
  have hml : c.maxLocals = 2 := hml0
  have hown : s.vm.findClass "java/lang/StringBuilder" = some m.cls := findClass_of_methodNamed Bd.named
  have hnm := (name_of_methodNamed Bd.named Bd.method).1
  have X0 : Stand p l e ({ frames := 4, cells := 0, slots := 0, locals := 61 } : Room) s m #[(.ref a1), (.ref a2)] below meth c s₁ [] 0 0 := Stand.of_body Bd
  have e0 : s₁.heap = h0 := by rw [← hh, Bd.state]; rfl
  have N0 := Fr.nil n0
  have pre0 : ∀ t, Steps p.tables e below (s₁.setTop (mkF m 0 #[.val (.ref a1), .val (.ref a2)] [])) t → Steps p.tables e below (s₁.setTop (entryFrame m #[(.ref a1), (.ref a2)] 2)) t := fun t k => castTop (ef_7 m a1 a2) k
  obtain ⟨_, _, ⟨T101, L101, k101, n101⟩, -, X101, ⟨Lc101, hQ101, l101, y101, z101⟩, st101⟩ := superBack X0 hx hZ (y := mn_5) hown (tw hw 51 rfl) (own_sameM (y := mn_5) (y' := mn_6) rfl (tw hw 72 rfl) (tw hw 52 rfl) (by decide)) (tw hw 52 rfl) (tw hw 53 rfl) (by decide) (backOf (W := 0) (rmAPa_09195b l Z a0 hw [] a1 a2 n t kt sb kb vs1 vs2 G1 h0 n0 X00 hn O2 P5 E_a2 S_v S_k V_t E_a1 F_v F_k F_c V_b g_a1 g_sb n_as n_xa n_xs n_ta n_ts lv) hZ (tw hw 55 rfl) (tw hw 38 rfl) (by decide) (by decide)) e0 (Ins.self E_a1) (g := (mkF m 2 #[vr a1, vr a2] [wr a2, wr a1])) rfl (by rw [hml]; rfl) (tw hw 55 rfl) (argsL := [wr a2]) (rest := []) (lenOf pd_Ljava_lang_String__Ljava_lang_AbstractStringBuilder_ rfl) rfl (Nat.le_refl _) (hb hby d7_2) (fun _ _ => ⟨rfl, e0, (by decide : 0 + 0 ≤ _), (by decide : 0 + 0 ≤ _)⟩)
  dsimp only [Pt.U, Pt.locs, Pt.cells, Pt.slots] at X101 l101 y101 z101 st101 hQ101
  subst l101 y101 z101
  obtain ⟨rfl, N101q, Kc101, uE101, uv101, uk101, uc101, uV101⟩ := hQ101
  have N101 := Fr.app N0 N101q
  have y102 := ((Keep.refl h0 [a1, sb]).trans Kc101 (allS (Or.inl (List.mem_of_getElem? (i := 0) rfl)) (allS (Or.inl (List.mem_of_getElem? (i := 1) rfl)) all0)))
  obtain ⟨fs, hr, hrun, hended, hW, hsame⟩ := X101.leave (v := some (.ref a1)) (fun h => by rw [Bd.returns] at h; cases h)
  refine ⟨_, _, pre0 _ ?_, hrun, hended, _, _, rfl, ?_, ⟨_, rfl⟩, hW, hsame.mono (by decide) (by decide)⟩
  · show Go p e below s₁ (mkF m 0 #[vr a1, vr a2] []) _
    refine XS.aloadN X0.here hx rfl (hb hby d7_0) rfl rfl ?_
    show Go p e below s₁ (mkF m 1 #[vr a1, vr a2] [wr a1]) _
    refine XS.aloadN X0.here hx rfl (hb hby d7_1) rfl rfl ?_
    show Go p e below s₁ (mkF m 2 #[vr a1, vr a2] [wr a2, wr a1]) _
    refine st101.trans ?_
    show Go p e below T101 (mkF m 5 #[vr a1, vr a2] [wr a1]) _
    refine XS.pop X101.here hx rfl (hb hby d7_5) rfl rfl ?_
    show Go p e below T101 (mkF m 6 #[vr a1, vr a2] []) _
    refine XS.aloadN X101.here hx rfl (hb hby d7_6) rfl rfl ?_
    show Go p e below T101 (mkF m 7 #[vr a1, vr a2] [wr a1]) _
    jvm_step X101.here [X101.here.top, hx, (hb hby d7_7), X101.method', Bd.returns, Value.isRef, FieldType.isReference]
    first | (intro acts; rw [hr _ acts rfl rfl rfl]) | rw [hr _ _ rfl rfl rfl]
    exact Steps.refl _
  · show QSA Z a1 sb kb (16 : Int32) ((0 : Int32) + n) (put vs2 (cpy vs1 (0 : Int32) n) (0 : Int32) n) (some (.ref a1)) h0 n0 _ T101.heap _
    exact ⟨rfl, N101, y102, uE101, uv101, uk101, uc101, uV101⟩
set_option maxRecDepth 65536 in
set_option maxHeartbeats 40000000 in
theorem rm_max_d959ab (l : Launch) (Z : State) (a0 : Array Value) (hw : ∀ d ∈ tables_1, d.before a0 Z = true) (ws : List Jvm.Cond) (n : Int32) (h0 : Heap) (n0 : Nat) (X00 : Old Z n0 h0) (hn : n = (0 : Int32) ∨ n = (1 : Int32) ∨ n = (2 : Int32) ∨ n = (3 : Int32)) :
    MetFree l mn_14 (head1 (Jvm.Cond.code mn_14 jdk_29_method_65_code 2 (some .int) :: ws) ({ frames := 0, cells := 0, slots := 0, locals := 0 } : Room)) (fun a U => a = #[(.int (((((0 : Int32) + n) + (21 : Int32)) <<< ((0 : Int32) &&& 31)) - (16 : Int32))), (.int (18 : Int32))] ∧ Z.Warmed39 U.vm ∧ U.heap = h0) (fun _ _ _ _ _ => True) (fun _ U o U' => ∃ rv rL, o = .returned rv ∧ Qs (some (.int (18 : Int32))) h0 n0 rv U'.heap rL ∧ FrameEnd U o U' rL ({ frames := 0, cells := 0, slots := 0, locals := 0 } : Room).cells ({ frames := 0, cells := 0, slots := 0, locals := 0 } : Room).slots) := by
  refine MetFree.of_bodySF (Jvm.Free.JP.mathPlain rfl (by decide +kernel)) hisR ?_
  intro p e s m args below meth c s₁ Bd hml0 hP hK
  obtain ⟨rfl, hZ, hh⟩ := hP
  have hx := Bd.exec
  have hby := Bd.bytes
  have hml : c.maxLocals = 2 := hml0
  have hown : s.vm.findClass "java/lang/Math" = some m.cls := findClass_of_methodNamed Bd.named
  have hnm := (name_of_methodNamed Bd.named Bd.method).1
  have X0 : Stand p l e ({ frames := 0, cells := 0, slots := 0, locals := 0 } : Room) s m #[(.int (((((0 : Int32) + n) + (21 : Int32)) <<< ((0 : Int32) &&& 31)) - (16 : Int32))), (.int (18 : Int32))] below meth c s₁ [] 0 0 := Stand.of_body Bd
  have e0 : s₁.heap = h0 := by rw [← hh, Bd.state]; rfl
  have N0 := Fr.nil n0
  have pre0 : ∀ t, Steps p.tables e below (s₁.setTop (mkF m 0 #[.val (.int (((((0 : Int32) + n) + (21 : Int32)) <<< ((0 : Int32) &&& 31)) - (16 : Int32))), .val (.int (18 : Int32))] [])) t → Steps p.tables e below (s₁.setTop (entryFrame m #[(.int (((((0 : Int32) + n) + (21 : Int32)) <<< ((0 : Int32) &&& 31)) - (16 : Int32))), (.int (18 : Int32))] 2)) t := fun t k => castTop (ef_17 m (((((0 : Int32) + n) + (21 : Int32)) <<< ((0 : Int32) &&& 31)) - (16 : Int32)) (18 : Int32)) k
  obtain ⟨fs, hr, hrun, hended, hW, hsame⟩ := X0.leave (v := some (.int (18 : Int32))) (fun h => by rw [Bd.returns] at h; cases h)
  refine ⟨_, _, pre0 _ ?_, hrun, hended, _, _, rfl, ?_, ⟨_, rfl⟩, hW, hsame.mono (by decide) (by decide)⟩
  · show Go p e below s₁ (mkF m 0 #[vi (((((0 : Int32) + n) + (21 : Int32)) <<< ((0 : Int32) &&& 31)) - (16 : Int32)), vi 18] []) _
    refine XS.iloadN X0.here hx rfl (hb hby d17_0) rfl ?_
    show Go p e below s₁ (mkF m 1 #[vi (((((0 : Int32) + n) + (21 : Int32)) <<< ((0 : Int32) &&& 31)) - (16 : Int32)), vi 18] [wi (((((0 : Int32) + n) + (21 : Int32)) <<< ((0 : Int32) &&& 31)) - (16 : Int32))]) _
    refine XS.iloadN X0.here hx rfl (hb hby d17_1) rfl ?_
    show Go p e below s₁ (mkF m 2 #[vi (((((0 : Int32) + n) + (21 : Int32)) <<< ((0 : Int32) &&& 31)) - (16 : Int32)), vi 18] [wi 18, wi (((((0 : Int32) + n) + (21 : Int32)) <<< ((0 : Int32) &&& 31)) - (16 : Int32))]) _
    refine XS.icmpYes X0.here hx rfl (pc0 := 2) (pc' := 9) rfl (hb hby d17_2) rfl (tlt (own_4 (P := fun n => (((((0 : Int32) + n) + (21 : Int32)) <<< ((0 : Int32) &&& 31)) - (16 : Int32)) < (18 : Int32)) hn (by decide) : (((((0 : Int32) + n) + (21 : Int32)) <<< ((0 : Int32) &&& 31)) - (16 : Int32)) < (18 : Int32))).1 (by decide) (by decide) ?_
    show Go p e below s₁ (mkF m 9 #[vi (((((0 : Int32) + n) + (21 : Int32)) <<< ((0 : Int32) &&& 31)) - (16 : Int32)), vi 18] []) _
    refine XS.iloadN X0.here hx rfl (hb hby d17_9) rfl ?_
    show Go p e below s₁ (mkF m 10 #[vi (((((0 : Int32) + n) + (21 : Int32)) <<< ((0 : Int32) &&& 31)) - (16 : Int32)), vi 18] [wi 18]) _
    exact retI X0 hx Bd.returns (hb hby d17_10) hr
  · show Qs (some (.int (18 : Int32))) h0 n0 _ s₁.heap _
    rw [e0]
    exact ⟨rfl, N0, rfl⟩
set_option maxRecDepth 65536 in
set_option maxHeartbeats 40000000 in
theorem rm_newLength_7514ca (l : Launch) (Z : State) (a0 : Array Value) (hw : ∀ d ∈ tables_1, d.before a0 Z = true) (ws : List Jvm.Cond) (n : Int32) (h0 : Heap) (n0 : Nat) (X00 : Old Z n0 h0) (hn : n = (0 : Int32) ∨ n = (1 : Int32) ∨ n = (2 : Int32) ∨ n = (3 : Int32)) :
    MetFree l mn_45 (head1 (Jvm.Cond.code mn_45 jdk_48_method_27_code 4 (some .int) :: ws) ({ frames := 1, cells := 0, slots := 0, locals := 14 } : Room)) (fun a U => a = #[(.int (16 : Int32)), (.int (((((0 : Int32) + n) + (21 : Int32)) <<< ((0 : Int32) &&& 31)) - (16 : Int32))), (.int (18 : Int32))] ∧ Z.Warmed39 U.vm ∧ U.heap = h0) (fun _ _ _ _ _ => True) (fun _ U o U' => ∃ rv rL, o = .returned rv ∧ Qs (some (.int (34 : Int32))) h0 n0 rv U'.heap rL ∧ FrameEnd U o U' rL ({ frames := 1, cells := 0, slots := 0, locals := 14 } : Room).cells ({ frames := 1, cells := 0, slots := 0, locals := 14 } : Room).slots) := by
  refine MetFree.of_bodySF (plainFor_of_name pn_16) hisR ?_
  intro p e s m args below meth c s₁ Bd hml0 hP hK
  obtain ⟨rfl, hZ, hh⟩ := hP
  have hx := Bd.exec
  have hby := Bd.bytes
  have hml : c.maxLocals = 4 := hml0
  have hown : s.vm.findClass "jdk/internal/util/ArraysSupport" = some m.cls := findClass_of_methodNamed Bd.named
  have hnm := (name_of_methodNamed Bd.named Bd.method).1
  have X0 : Stand p l e ({ frames := 1, cells := 0, slots := 0, locals := 14 } : Room) s m #[(.int (16 : Int32)), (.int (((((0 : Int32) + n) + (21 : Int32)) <<< ((0 : Int32) &&& 31)) - (16 : Int32))), (.int (18 : Int32))] below meth c s₁ [] 0 0 := Stand.of_body Bd
  have e0 : s₁.heap = h0 := by rw [← hh, Bd.state]; rfl
  have N0 := Fr.nil n0
  have pre0 : ∀ t, Steps p.tables e below (s₁.setTop (mkF m 0 #[.val (.int (16 : Int32)), .val (.int (((((0 : Int32) + n) + (21 : Int32)) <<< ((0 : Int32) &&& 31)) - (16 : Int32))), .val (.int (18 : Int32)), .unset] [])) t → Steps p.tables e below (s₁.setTop (entryFrame m #[(.int (16 : Int32)), (.int (((((0 : Int32) + n) + (21 : Int32)) <<< ((0 : Int32) &&& 31)) - (16 : Int32))), (.int (18 : Int32))] 4)) t := fun t k => castTop (ef_16 m (16 : Int32) (((((0 : Int32) + n) + (21 : Int32)) <<< ((0 : Int32) &&& 31)) - (16 : Int32)) (18 : Int32)) k
  obtain ⟨_, _, ⟨T101, L101, k101, n101⟩, -, X101, ⟨Lc101, hQ101, l101, y101, z101⟩, st101⟩ := Jvm.LawKit.callS X0 hx (y := mn_14) hown (mvT hZ (tw hw 104 rfl)) (mvT hZ (tw hw 105 rfl)) (mvT hZ (tw hw 106 rfl)) (mvT hZ (tw hw 107 rfl)) (by decide) (backOf (W := 1) (rm_max_d959ab l Z a0 hw []  n  h0 n0 X00 hn ) hZ (tw hw 107 rfl) (tw hw 106 rfl) (by decide) (by decide)) (g := (mkF m 3 #[vi 16, vi (((((0 : Int32) + n) + (21 : Int32)) <<< ((0 : Int32) &&& 31)) - (16 : Int32)), vi 18, .unset] [wi 18, wi (((((0 : Int32) + n) + (21 : Int32)) <<< ((0 : Int32) &&& 31)) - (16 : Int32)), wi 16])) rfl (by rw [hml]; rfl) (argsL := [wi (((((0 : Int32) + n) + (21 : Int32)) <<< ((0 : Int32) &&& 31)) - (16 : Int32)), wi 18]) (rest := [wi 16]) (lenOf pd_II_I rfl) rfl (Nat.le_refl _) (hb hby d16_3) (fun _ _ => ⟨rfl, e0, (by decide : 0 + 0 ≤ _), (by decide : 0 + 0 ≤ _)⟩)
  dsimp only [Pt.U, Pt.locs, Pt.cells, Pt.slots] at X101 l101 y101 z101 st101 hQ101
  subst l101 y101 z101
  obtain ⟨rfl, N101q, eq101⟩ := hQ101
  have N101 := Fr.app N0 N101q
  obtain ⟨fs, hr, hrun, hended, hW, hsame⟩ := X101.leave (v := some (.int (34 : Int32))) (fun h => by rw [Bd.returns] at h; cases h)
  refine ⟨_, _, pre0 _ ?_, hrun, hended, _, _, rfl, ?_, ⟨_, rfl⟩, hW, hsame.mono (by decide) (by decide)⟩
  · show Go p e below s₁ (mkF m 0 #[vi 16, vi (((((0 : Int32) + n) + (21 : Int32)) <<< ((0 : Int32) &&& 31)) - (16 : Int32)), vi 18, .unset] []) _
    refine XS.iloadN X0.here hx rfl (hb hby d16_0) rfl ?_
    show Go p e below s₁ (mkF m 1 #[vi 16, vi (((((0 : Int32) + n) + (21 : Int32)) <<< ((0 : Int32) &&& 31)) - (16 : Int32)), vi 18, .unset] [wi 16]) _
    refine XS.iloadN X0.here hx rfl (hb hby d16_1) rfl ?_
    show Go p e below s₁ (mkF m 2 #[vi 16, vi (((((0 : Int32) + n) + (21 : Int32)) <<< ((0 : Int32) &&& 31)) - (16 : Int32)), vi 18, .unset] [wi (((((0 : Int32) + n) + (21 : Int32)) <<< ((0 : Int32) &&& 31)) - (16 : Int32)), wi 16]) _
    refine XS.iloadN X0.here hx rfl (hb hby d16_2) rfl ?_
    show Go p e below s₁ (mkF m 3 #[vi 16, vi (((((0 : Int32) + n) + (21 : Int32)) <<< ((0 : Int32) &&& 31)) - (16 : Int32)), vi 18, .unset] [wi 18, wi (((((0 : Int32) + n) + (21 : Int32)) <<< ((0 : Int32) &&& 31)) - (16 : Int32)), wi 16]) _
    refine st101 _ ?_
    show Go p e below T101 (mkF m 6 #[vi 16, vi (((((0 : Int32) + n) + (21 : Int32)) <<< ((0 : Int32) &&& 31)) - (16 : Int32)), vi 18, .unset] [wi 18, wi 16]) _
    refine XS.iadd X101.here hx rfl (hb hby d16_6) rfl ?_
    show Go p e below T101 (mkF m 7 #[vi 16, vi (((((0 : Int32) + n) + (21 : Int32)) <<< ((0 : Int32) &&& 31)) - (16 : Int32)), vi 18, .unset] [wi 34]) _
    refine XS.istoreN X101.here hx rfl (hb hby d16_7) rfl (l' := #[.val (.int (16 : Int32)), .val (.int (((((0 : Int32) + n) + (21 : Int32)) <<< ((0 : Int32) &&& 31)) - (16 : Int32))), .val (.int (18 : Int32)), .val (.int (34 : Int32))]) rfl ?_
    show Go p e below T101 (mkF m 8 #[vi 16, vi (((((0 : Int32) + n) + (21 : Int32)) <<< ((0 : Int32) &&& 31)) - (16 : Int32)), vi 18, vi 34] []) _
    refine XS.iconst X101.here hx rfl (hb hby d16_8) ?_
    show Go p e below T101 (mkF m 9 #[vi 16, vi (((((0 : Int32) + n) + (21 : Int32)) <<< ((0 : Int32) &&& 31)) - (16 : Int32)), vi 18, vi 34] [wi 0]) _
    refine XS.iloadN X101.here hx rfl (hb hby d16_9) rfl ?_
    show Go p e below T101 (mkF m 10 #[vi 16, vi (((((0 : Int32) + n) + (21 : Int32)) <<< ((0 : Int32) &&& 31)) - (16 : Int32)), vi 18, vi 34] [wi 34, wi 0]) _
    refine XS.icmpNo X101.here hx rfl (hb hby d16_10) rfl (tlt (by decide : (0 : Int32) < (34 : Int32))).2.1 ?_
    show Go p e below T101 (mkF m 13 #[vi 16, vi (((((0 : Int32) + n) + (21 : Int32)) <<< ((0 : Int32) &&& 31)) - (16 : Int32)), vi 18, vi 34] []) _
    refine XS.iloadN X101.here hx rfl (hb hby d16_13) rfl ?_
    show Go p e below T101 (mkF m 14 #[vi 16, vi (((((0 : Int32) + n) + (21 : Int32)) <<< ((0 : Int32) &&& 31)) - (16 : Int32)), vi 18, vi 34] [wi 34]) _
    refine X101.ldcInt hx hown (mvT hZ (tw hw 108 rfl)) (g := (mkF m 14 #[vi 16, vi (((((0 : Int32) + n) + (21 : Int32)) <<< ((0 : Int32) &&& 31)) - (16 : Int32)), vi 18, vi 34] [wi 34])) rfl (hb hby d16_14) _ ?_
    show Go p e below T101 (mkF m 16 #[vi 16, vi (((((0 : Int32) + n) + (21 : Int32)) <<< ((0 : Int32) &&& 31)) - (16 : Int32)), vi 18, vi 34] [wi 2147483639, wi 34]) _
    refine XS.icmpNo X101.here hx rfl (hb hby d16_16) rfl (flt (by decide : ¬ ((2147483639 : Int32) < (34 : Int32)))).2.2.1 ?_
    show Go p e below T101 (mkF m 19 #[vi 16, vi (((((0 : Int32) + n) + (21 : Int32)) <<< ((0 : Int32) &&& 31)) - (16 : Int32)), vi 18, vi 34] []) _
    refine XS.iloadN X101.here hx rfl (hb hby d16_19) rfl ?_
    show Go p e below T101 (mkF m 20 #[vi 16, vi (((((0 : Int32) + n) + (21 : Int32)) <<< ((0 : Int32) &&& 31)) - (16 : Int32)), vi 18, vi 34] [wi 34]) _
    exact retI X101 hx Bd.returns (hb hby d16_20) hr
  · show Qs (some (.int (34 : Int32))) h0 n0 _ T101.heap _
    rw [eq101]
    exact ⟨rfl, N101, rfl⟩
set_option maxRecDepth 65536 in
set_option maxHeartbeats 40000000 in
theorem rmNC_bab1a7 (l : Launch) (Z : State) (a0 : Array Value) (hw : ∀ d ∈ tables_1, d.before a0 Z = true) (ws : List Jvm.Cond) (a1 : Addr) (n : Int32) (sb : Addr) (kb : ClassId) (cn : Int32) (vs2 : List Value) (h0 : Heap) (n0 : Nat) (X00 : Old Z n0 h0) (hn : n = (0 : Int32) ∨ n = (1 : Int32) ∨ n = (2 : Int32) ∨ n = (3 : Int32)) (E_a1 : Exa Z h0 a1 "java/lang/StringBuilder") (F_v : Fld Z h0 a1 "java/lang/AbstractStringBuilder" "value" "[B" (.ref sb)) (F_k : Fld Z h0 a1 "java/lang/AbstractStringBuilder" "coder" "B" (.int (0 : Int32))) (F_c : Fld Z h0 a1 "java/lang/AbstractStringBuilder" "count" "I" (.int cn)) (V_b : Arv Z h0 sb kb .byte (16 : Int32) vs2 (.int (0 : Int32))) (g_a1 : n0 ≤ a1) (g_sb : n0 ≤ sb) (n_as : a1 ≠ sb) :
    MetFree l mn_11 (head1 (Jvm.Cond.code mn_11 jdk_68_method_10_code 6 (some .int) :: ws) ({ frames := 2, cells := 0, slots := 0, locals := 29 } : Room)) (fun a U => a = #[(.ref a1), (.int (((0 : Int32) + n) + (21 : Int32)))] ∧ Z.Warmed39 U.vm ∧ U.heap = h0) (fun _ _ _ _ _ => True) (fun _ U o U' => ∃ rv rL, o = .returned rv ∧ Qs (some (.int (34 : Int32))) h0 n0 rv U'.heap rL ∧ FrameEnd U o U' rL ({ frames := 2, cells := 0, slots := 0, locals := 29 } : Room).cells ({ frames := 2, cells := 0, slots := 0, locals := 29 } : Room).slots) := by
  refine MetFree.of_bodySF (plainFor_of_name pn_15) hisR ?_
  intro p e s m args below meth c s₁ Bd hml0 hP hK
  obtain ⟨rfl, hZ, hh⟩ := hP
  have hx := Bd.exec
  have hby := Bd.bytes
  have hml : c.maxLocals = 6 := hml0
  have hown : s.vm.findClass "java/lang/AbstractStringBuilder" = some m.cls := findClass_of_methodNamed Bd.named
  have hnm := (name_of_methodNamed Bd.named Bd.method).1
  have X0 : Stand p l e ({ frames := 2, cells := 0, slots := 0, locals := 29 } : Room) s m #[(.ref a1), (.int (((0 : Int32) + n) + (21 : Int32)))] below meth c s₁ [] 0 0 := Stand.of_body Bd
  have e0 : s₁.heap = h0 := by rw [← hh, Bd.state]; rfl
  have N0 := Fr.nil n0
  have pre0 : ∀ t, Steps p.tables e below (s₁.setTop (mkF m 0 #[.val (.ref a1), .val (.int (((0 : Int32) + n) + (21 : Int32))), .unset, .unset, .unset, .unset] [])) t → Steps p.tables e below (s₁.setTop (entryFrame m #[(.ref a1), (.int (((0 : Int32) + n) + (21 : Int32)))] 6)) t := fun t k => castTop (ef_15 m a1 (((0 : Int32) + n) + (21 : Int32))) k
  obtain ⟨T101, X101, e101, st101⟩ := getF X0 hx hZ hown (host := "") (Or.inl (tw hw 42 rfl)) Via.refl e0 F_v (g := (mkF m 1 #[vr a1, vi (((0 : Int32) + n) + (21 : Int32)), .unset, .unset, .unset, .unset] [wr a1])) rfl rfl (hb hby d15_1)
  obtain ⟨cl102, Ar102, q102, S102, M102, H102, G102⟩ := id V_b
  obtain ⟨T103, X103, e103, st103⟩ := getF X101 hx hZ hown (host := "") (Or.inl (tw hw 44 rfl)) Via.refl e101 F_k (g := (mkF m 8 #[vr a1, vi (((0 : Int32) + n) + (21 : Int32)), vi 16, .unset, .unset, .unset] [wr a1, wi (((0 : Int32) + n) + (21 : Int32))])) rfl rfl (hb hby d15_8)
  obtain ⟨T104, X104, e104, st104⟩ := getF X103 hx hZ hown (host := "") (Or.inl (tw hw 44 rfl)) Via.refl e103 F_k (g := (mkF m 24 #[vr a1, vi (((0 : Int32) + n) + (21 : Int32)), vi 16, vi ((((0 : Int32) + n) + (21 : Int32)) <<< ((0 : Int32) &&& 31)), vi (((((0 : Int32) + n) + (21 : Int32)) <<< ((0 : Int32) &&& 31)) - (16 : Int32)), .unset] [wr a1, wi 2, wi 16, wi (((((0 : Int32) + n) + (21 : Int32)) <<< ((0 : Int32) &&& 31)) - (16 : Int32)), wi 16])) rfl rfl (hb hby d15_24)
  obtain ⟨_, _, ⟨T105, L105, k105, n105⟩, -, X105, ⟨Lc105, hQ105, l105, y105, z105⟩, st105⟩ := Jvm.LawKit.callS X104 hx (y := mn_45) hown (mvT hZ (tw hw 100 rfl)) (mvT hZ (tw hw 101 rfl)) (mvT hZ (tw hw 102 rfl)) (mvT hZ (tw hw 103 rfl)) (by decide) (backOf (W := 0) (rm_newLength_7514ca l Z a0 hw []  n  h0 n0 X00 hn ) hZ (tw hw 103 rfl) (tw hw 102 rfl) (by decide) (by decide)) (g := (mkF m 29 #[vr a1, vi (((0 : Int32) + n) + (21 : Int32)), vi 16, vi ((((0 : Int32) + n) + (21 : Int32)) <<< ((0 : Int32) &&& 31)), vi (((((0 : Int32) + n) + (21 : Int32)) <<< ((0 : Int32) &&& 31)) - (16 : Int32)), .unset] [wi 18, wi (((((0 : Int32) + n) + (21 : Int32)) <<< ((0 : Int32) &&& 31)) - (16 : Int32)), wi 16])) rfl (by rw [hml]; rfl) (argsL := [wi 16, wi (((((0 : Int32) + n) + (21 : Int32)) <<< ((0 : Int32) &&& 31)) - (16 : Int32)), wi 18]) (rest := []) (lenOf pd_III_I rfl) rfl (Nat.le_refl _) (hb hby d15_29) (fun _ _ => ⟨rfl, e104, (by decide : 0 + 0 ≤ _), (by decide : 0 + 0 ≤ _)⟩)
  dsimp only [Pt.U, Pt.locs, Pt.cells, Pt.slots] at X105 l105 y105 z105 st105 hQ105
  subst l105 y105 z105
  obtain ⟨rfl, N105q, eq105⟩ := hQ105
  have N105 := Fr.app N0 N105q
  obtain ⟨T106, X106, e106, st106⟩ := getF X105 hx hZ hown (host := "") (Or.inl (tw hw 44 rfl)) Via.refl eq105 F_k (g := (mkF m 54 #[vr a1, vi (((0 : Int32) + n) + (21 : Int32)), vi 16, vi ((((0 : Int32) + n) + (21 : Int32)) <<< ((0 : Int32) &&& 31)), vi (((((0 : Int32) + n) + (21 : Int32)) <<< ((0 : Int32) &&& 31)) - (16 : Int32)), vi 34] [wr a1, wi 34])) rfl rfl (hb hby d15_54)
  obtain ⟨fs, hr, hrun, hended, hW, hsame⟩ := X106.leave (v := some (.int (34 : Int32))) (fun h => by rw [Bd.returns] at h; cases h)
  refine ⟨_, _, pre0 _ ?_, hrun, hended, _, _, rfl, ?_, ⟨_, rfl⟩, hW, hsame.mono (by decide) (by decide)⟩
  · show Go p e below s₁ (mkF m 0 #[vr a1, vi (((0 : Int32) + n) + (21 : Int32)), .unset, .unset, .unset, .unset] []) _
    refine XS.aloadN X0.here hx rfl (hb hby d15_0) rfl rfl ?_
    show Go p e below s₁ (mkF m 1 #[vr a1, vi (((0 : Int32) + n) + (21 : Int32)), .unset, .unset, .unset, .unset] [wr a1]) _
    refine st101 _ ?_
    show Go p e below T101 (mkF m 4 #[vr a1, vi (((0 : Int32) + n) + (21 : Int32)), .unset, .unset, .unset, .unset] [wr sb]) _
    refine X101.arraylength hx (by rw [e101]; exact Ar102.1) (State.isArrayOf_alike hZ.alike Ar102.2.1) (g := (mkF m 4 #[vr a1, vi (((0 : Int32) + n) + (21 : Int32)), .unset, .unset, .unset, .unset] [wr sb])) rfl rfl (hb hby d15_4) _ ?_
    rw [len_of S102 M102]
    show Go p e below T101 (mkF m 5 #[vr a1, vi (((0 : Int32) + n) + (21 : Int32)), .unset, .unset, .unset, .unset] [wi 16]) _
    refine XS.istoreN X101.here hx rfl (hb hby d15_5) rfl (l' := #[.val (.ref a1), .val (.int (((0 : Int32) + n) + (21 : Int32))), .val (.int (16 : Int32)), .unset, .unset, .unset]) rfl ?_
    show Go p e below T101 (mkF m 6 #[vr a1, vi (((0 : Int32) + n) + (21 : Int32)), vi 16, .unset, .unset, .unset] []) _
    refine XS.iloadN X101.here hx rfl (hb hby d15_6) rfl ?_
    show Go p e below T101 (mkF m 7 #[vr a1, vi (((0 : Int32) + n) + (21 : Int32)), vi 16, .unset, .unset, .unset] [wi (((0 : Int32) + n) + (21 : Int32))]) _
    refine XS.aloadN X101.here hx rfl (hb hby d15_7) rfl rfl ?_
    show Go p e below T101 (mkF m 8 #[vr a1, vi (((0 : Int32) + n) + (21 : Int32)), vi 16, .unset, .unset, .unset] [wr a1, wi (((0 : Int32) + n) + (21 : Int32))]) _
    refine st103 _ ?_
    show Go p e below T103 (mkF m 11 #[vr a1, vi (((0 : Int32) + n) + (21 : Int32)), vi 16, .unset, .unset, .unset] [wi 0, wi (((0 : Int32) + n) + (21 : Int32))]) _
    refine XS.ishl X103.here hx rfl (hb hby d15_11) rfl ?_
    show Go p e below T103 (mkF m 12 #[vr a1, vi (((0 : Int32) + n) + (21 : Int32)), vi 16, .unset, .unset, .unset] [wi ((((0 : Int32) + n) + (21 : Int32)) <<< ((0 : Int32) &&& 31))]) _
    refine XS.istoreN X103.here hx rfl (hb hby d15_12) rfl (l' := #[.val (.ref a1), .val (.int (((0 : Int32) + n) + (21 : Int32))), .val (.int (16 : Int32)), .val (.int ((((0 : Int32) + n) + (21 : Int32)) <<< ((0 : Int32) &&& 31))), .unset, .unset]) rfl ?_
    show Go p e below T103 (mkF m 13 #[vr a1, vi (((0 : Int32) + n) + (21 : Int32)), vi 16, vi ((((0 : Int32) + n) + (21 : Int32)) <<< ((0 : Int32) &&& 31)), .unset, .unset] []) _
    refine XS.iloadN X103.here hx rfl (hb hby d15_13) rfl ?_
    show Go p e below T103 (mkF m 14 #[vr a1, vi (((0 : Int32) + n) + (21 : Int32)), vi 16, vi ((((0 : Int32) + n) + (21 : Int32)) <<< ((0 : Int32) &&& 31)), .unset, .unset] [wi ((((0 : Int32) + n) + (21 : Int32)) <<< ((0 : Int32) &&& 31))]) _
    refine XS.iloadN X103.here hx rfl (hb hby d15_14) rfl ?_
    show Go p e below T103 (mkF m 15 #[vr a1, vi (((0 : Int32) + n) + (21 : Int32)), vi 16, vi ((((0 : Int32) + n) + (21 : Int32)) <<< ((0 : Int32) &&& 31)), .unset, .unset] [wi 16, wi ((((0 : Int32) + n) + (21 : Int32)) <<< ((0 : Int32) &&& 31))]) _
    refine XS.isub X103.here hx rfl (hb hby d15_15) rfl ?_
    show Go p e below T103 (mkF m 16 #[vr a1, vi (((0 : Int32) + n) + (21 : Int32)), vi 16, vi ((((0 : Int32) + n) + (21 : Int32)) <<< ((0 : Int32) &&& 31)), .unset, .unset] [wi (((((0 : Int32) + n) + (21 : Int32)) <<< ((0 : Int32) &&& 31)) - (16 : Int32))]) _
    refine XS.istore X103.here hx rfl (hb hby d15_16) rfl (l' := #[.val (.ref a1), .val (.int (((0 : Int32) + n) + (21 : Int32))), .val (.int (16 : Int32)), .val (.int ((((0 : Int32) + n) + (21 : Int32)) <<< ((0 : Int32) &&& 31))), .val (.int (((((0 : Int32) + n) + (21 : Int32)) <<< ((0 : Int32) &&& 31)) - (16 : Int32))), .unset]) rfl ?_
    show Go p e below T103 (mkF m 18 #[vr a1, vi (((0 : Int32) + n) + (21 : Int32)), vi 16, vi ((((0 : Int32) + n) + (21 : Int32)) <<< ((0 : Int32) &&& 31)), vi (((((0 : Int32) + n) + (21 : Int32)) <<< ((0 : Int32) &&& 31)) - (16 : Int32)), .unset] []) _
    refine XS.iloadN X103.here hx rfl (hb hby d15_18) rfl ?_
    show Go p e below T103 (mkF m 19 #[vr a1, vi (((0 : Int32) + n) + (21 : Int32)), vi 16, vi ((((0 : Int32) + n) + (21 : Int32)) <<< ((0 : Int32) &&& 31)), vi (((((0 : Int32) + n) + (21 : Int32)) <<< ((0 : Int32) &&& 31)) - (16 : Int32)), .unset] [wi 16]) _
    refine XS.iload X103.here hx rfl (hb hby d15_19) rfl ?_
    show Go p e below T103 (mkF m 21 #[vr a1, vi (((0 : Int32) + n) + (21 : Int32)), vi 16, vi ((((0 : Int32) + n) + (21 : Int32)) <<< ((0 : Int32) &&& 31)), vi (((((0 : Int32) + n) + (21 : Int32)) <<< ((0 : Int32) &&& 31)) - (16 : Int32)), .unset] [wi (((((0 : Int32) + n) + (21 : Int32)) <<< ((0 : Int32) &&& 31)) - (16 : Int32)), wi 16]) _
    refine XS.iloadN X103.here hx rfl (hb hby d15_21) rfl ?_
    show Go p e below T103 (mkF m 22 #[vr a1, vi (((0 : Int32) + n) + (21 : Int32)), vi 16, vi ((((0 : Int32) + n) + (21 : Int32)) <<< ((0 : Int32) &&& 31)), vi (((((0 : Int32) + n) + (21 : Int32)) <<< ((0 : Int32) &&& 31)) - (16 : Int32)), .unset] [wi 16, wi (((((0 : Int32) + n) + (21 : Int32)) <<< ((0 : Int32) &&& 31)) - (16 : Int32)), wi 16]) _
    refine XS.iconst X103.here hx rfl (hb hby d15_22) ?_
    show Go p e below T103 (mkF m 23 #[vr a1, vi (((0 : Int32) + n) + (21 : Int32)), vi 16, vi ((((0 : Int32) + n) + (21 : Int32)) <<< ((0 : Int32) &&& 31)), vi (((((0 : Int32) + n) + (21 : Int32)) <<< ((0 : Int32) &&& 31)) - (16 : Int32)), .unset] [wi 2, wi 16, wi (((((0 : Int32) + n) + (21 : Int32)) <<< ((0 : Int32) &&& 31)) - (16 : Int32)), wi 16]) _
    refine XS.aloadN X103.here hx rfl (hb hby d15_23) rfl rfl ?_
    show Go p e below T103 (mkF m 24 #[vr a1, vi (((0 : Int32) + n) + (21 : Int32)), vi 16, vi ((((0 : Int32) + n) + (21 : Int32)) <<< ((0 : Int32) &&& 31)), vi (((((0 : Int32) + n) + (21 : Int32)) <<< ((0 : Int32) &&& 31)) - (16 : Int32)), .unset] [wr a1, wi 2, wi 16, wi (((((0 : Int32) + n) + (21 : Int32)) <<< ((0 : Int32) &&& 31)) - (16 : Int32)), wi 16]) _
    refine st104 _ ?_
    show Go p e below T104 (mkF m 27 #[vr a1, vi (((0 : Int32) + n) + (21 : Int32)), vi 16, vi ((((0 : Int32) + n) + (21 : Int32)) <<< ((0 : Int32) &&& 31)), vi (((((0 : Int32) + n) + (21 : Int32)) <<< ((0 : Int32) &&& 31)) - (16 : Int32)), .unset] [wi 0, wi 2, wi 16, wi (((((0 : Int32) + n) + (21 : Int32)) <<< ((0 : Int32) &&& 31)) - (16 : Int32)), wi 16]) _
    refine XS.ishl X104.here hx rfl (hb hby d15_27) rfl ?_
    show Go p e below T104 (mkF m 28 #[vr a1, vi (((0 : Int32) + n) + (21 : Int32)), vi 16, vi ((((0 : Int32) + n) + (21 : Int32)) <<< ((0 : Int32) &&& 31)), vi (((((0 : Int32) + n) + (21 : Int32)) <<< ((0 : Int32) &&& 31)) - (16 : Int32)), .unset] [wi 2, wi 16, wi (((((0 : Int32) + n) + (21 : Int32)) <<< ((0 : Int32) &&& 31)) - (16 : Int32)), wi 16]) _
    refine XS.iadd X104.here hx rfl (hb hby d15_28) rfl ?_
    show Go p e below T104 (mkF m 29 #[vr a1, vi (((0 : Int32) + n) + (21 : Int32)), vi 16, vi ((((0 : Int32) + n) + (21 : Int32)) <<< ((0 : Int32) &&& 31)), vi (((((0 : Int32) + n) + (21 : Int32)) <<< ((0 : Int32) &&& 31)) - (16 : Int32)), .unset] [wi 18, wi (((((0 : Int32) + n) + (21 : Int32)) <<< ((0 : Int32) &&& 31)) - (16 : Int32)), wi 16]) _
    refine st105 _ ?_
    show Go p e below T105 (mkF m 32 #[vr a1, vi (((0 : Int32) + n) + (21 : Int32)), vi 16, vi ((((0 : Int32) + n) + (21 : Int32)) <<< ((0 : Int32) &&& 31)), vi (((((0 : Int32) + n) + (21 : Int32)) <<< ((0 : Int32) &&& 31)) - (16 : Int32)), .unset] [wi 34]) _
    refine XS.istore X105.here hx rfl (hb hby d15_32) rfl (l' := #[.val (.ref a1), .val (.int (((0 : Int32) + n) + (21 : Int32))), .val (.int (16 : Int32)), .val (.int ((((0 : Int32) + n) + (21 : Int32)) <<< ((0 : Int32) &&& 31))), .val (.int (((((0 : Int32) + n) + (21 : Int32)) <<< ((0 : Int32) &&& 31)) - (16 : Int32))), .val (.int (34 : Int32))]) rfl ?_
    show Go p e below T105 (mkF m 34 #[vr a1, vi (((0 : Int32) + n) + (21 : Int32)), vi 16, vi ((((0 : Int32) + n) + (21 : Int32)) <<< ((0 : Int32) &&& 31)), vi (((((0 : Int32) + n) + (21 : Int32)) <<< ((0 : Int32) &&& 31)) - (16 : Int32)), vi 34] []) _
    refine XS.iload X105.here hx rfl (hb hby d15_34) rfl ?_
    show Go p e below T105 (mkF m 36 #[vr a1, vi (((0 : Int32) + n) + (21 : Int32)), vi 16, vi ((((0 : Int32) + n) + (21 : Int32)) <<< ((0 : Int32) &&& 31)), vi (((((0 : Int32) + n) + (21 : Int32)) <<< ((0 : Int32) &&& 31)) - (16 : Int32)), vi 34] [wi 34]) _
    refine X105.ldcInt hx hown (mvT hZ (tw hw 109 rfl)) (g := (mkF m 36 #[vr a1, vi (((0 : Int32) + n) + (21 : Int32)), vi 16, vi ((((0 : Int32) + n) + (21 : Int32)) <<< ((0 : Int32) &&& 31)), vi (((((0 : Int32) + n) + (21 : Int32)) <<< ((0 : Int32) &&& 31)) - (16 : Int32)), vi 34] [wi 34])) rfl (hb hby d15_36) _ ?_
    show Go p e below T105 (mkF m 38 #[vr a1, vi (((0 : Int32) + n) + (21 : Int32)), vi 16, vi ((((0 : Int32) + n) + (21 : Int32)) <<< ((0 : Int32) &&& 31)), vi (((((0 : Int32) + n) + (21 : Int32)) <<< ((0 : Int32) &&& 31)) - (16 : Int32)), vi 34] [wi 2147483647, wi 34]) _
    refine XS.icmpYes X105.here hx rfl (pc0 := 38) (pc' := 51) rfl (hb hby d15_38) rfl (feq (by decide : ¬ ((34 : Int32) = (2147483647 : Int32)))).2 (by decide) (by decide) ?_
    show Go p e below T105 (mkF m 51 #[vr a1, vi (((0 : Int32) + n) + (21 : Int32)), vi 16, vi ((((0 : Int32) + n) + (21 : Int32)) <<< ((0 : Int32) &&& 31)), vi (((((0 : Int32) + n) + (21 : Int32)) <<< ((0 : Int32) &&& 31)) - (16 : Int32)), vi 34] []) _
    refine XS.iload X105.here hx rfl (hb hby d15_51) rfl ?_
    show Go p e below T105 (mkF m 53 #[vr a1, vi (((0 : Int32) + n) + (21 : Int32)), vi 16, vi ((((0 : Int32) + n) + (21 : Int32)) <<< ((0 : Int32) &&& 31)), vi (((((0 : Int32) + n) + (21 : Int32)) <<< ((0 : Int32) &&& 31)) - (16 : Int32)), vi 34] [wi 34]) _
    refine XS.aloadN X105.here hx rfl (hb hby d15_53) rfl rfl ?_
    show Go p e below T105 (mkF m 54 #[vr a1, vi (((0 : Int32) + n) + (21 : Int32)), vi 16, vi ((((0 : Int32) + n) + (21 : Int32)) <<< ((0 : Int32) &&& 31)), vi (((((0 : Int32) + n) + (21 : Int32)) <<< ((0 : Int32) &&& 31)) - (16 : Int32)), vi 34] [wr a1, wi 34]) _
    refine st106 _ ?_
    show Go p e below T106 (mkF m 57 #[vr a1, vi (((0 : Int32) + n) + (21 : Int32)), vi 16, vi ((((0 : Int32) + n) + (21 : Int32)) <<< ((0 : Int32) &&& 31)), vi (((((0 : Int32) + n) + (21 : Int32)) <<< ((0 : Int32) &&& 31)) - (16 : Int32)), vi 34] [wi 0, wi 34]) _
    refine XS.ishr X106.here hx rfl (hb hby d15_57) rfl ?_
    show Go p e below T106 (mkF m 58 #[vr a1, vi (((0 : Int32) + n) + (21 : Int32)), vi 16, vi ((((0 : Int32) + n) + (21 : Int32)) <<< ((0 : Int32) &&& 31)), vi (((((0 : Int32) + n) + (21 : Int32)) <<< ((0 : Int32) &&& 31)) - (16 : Int32)), vi 34] [wi 34]) _
    exact retI X106 hx Bd.returns (hb hby d15_58) hr
  · show Qs (some (.int (34 : Int32))) h0 n0 _ T106.heap _
    rw [e106]
    exact ⟨rfl, N105, rfl⟩
set_option maxRecDepth 65536 in
set_option maxHeartbeats 40000000 in
theorem rm_min_338e92 (l : Launch) (Z : State) (a0 : Array Value) (hw : ∀ d ∈ tables_1, d.before a0 Z = true) (ws : List Jvm.Cond) (n : Int32) (h0 : Heap) (n0 : Nat) (X00 : Old Z n0 h0) (hn : n = (0 : Int32) ∨ n = (1 : Int32) ∨ n = (2 : Int32) ∨ n = (3 : Int32)) :
    MetFree l mn_15 (head1 (Jvm.Cond.code mn_15 jdk_29_method_69_code 2 (some .int) :: ws) ({ frames := 0, cells := 0, slots := 0, locals := 0 } : Room)) (fun a U => a = #[(.int (16 : Int32)), (.int (34 : Int32))] ∧ Z.Warmed39 U.vm ∧ U.heap = h0) (fun _ _ _ _ _ => True) (fun _ U o U' => ∃ rv rL, o = .returned rv ∧ Qs (some (.int (16 : Int32))) h0 n0 rv U'.heap rL ∧ FrameEnd U o U' rL ({ frames := 0, cells := 0, slots := 0, locals := 0 } : Room).cells ({ frames := 0, cells := 0, slots := 0, locals := 0 } : Room).slots) := by
  refine MetFree.of_bodySF (Jvm.Free.JP.mathPlain rfl (by decide +kernel)) hisR ?_
  intro p e s m args below meth c s₁ Bd hml0 hP hK
  obtain ⟨rfl, hZ, hh⟩ := hP
  have hx := Bd.exec
  have hby := Bd.bytes
  have hml : c.maxLocals = 2 := hml0
  have hown : s.vm.findClass "java/lang/Math" = some m.cls := findClass_of_methodNamed Bd.named
  have hnm := (name_of_methodNamed Bd.named Bd.method).1
  have X0 : Stand p l e ({ frames := 0, cells := 0, slots := 0, locals := 0 } : Room) s m #[(.int (16 : Int32)), (.int (34 : Int32))] below meth c s₁ [] 0 0 := Stand.of_body Bd
  have e0 : s₁.heap = h0 := by rw [← hh, Bd.state]; rfl
  have N0 := Fr.nil n0
  have pre0 : ∀ t, Steps p.tables e below (s₁.setTop (mkF m 0 #[.val (.int (16 : Int32)), .val (.int (34 : Int32))] [])) t → Steps p.tables e below (s₁.setTop (entryFrame m #[(.int (16 : Int32)), (.int (34 : Int32))] 2)) t := fun t k => castTop (ef_19 m (16 : Int32) (34 : Int32)) k
  obtain ⟨fs, hr, hrun, hended, hW, hsame⟩ := X0.leave (v := some (.int (16 : Int32))) (fun h => by rw [Bd.returns] at h; cases h)
  refine ⟨_, _, pre0 _ ?_, hrun, hended, _, _, rfl, ?_, ⟨_, rfl⟩, hW, hsame.mono (by decide) (by decide)⟩
  · show Go p e below s₁ (mkF m 0 #[vi 16, vi 34] []) _
    refine XS.iloadN X0.here hx rfl (hb hby d19_0) rfl ?_
    show Go p e below s₁ (mkF m 1 #[vi 16, vi 34] [wi 16]) _
    refine XS.iloadN X0.here hx rfl (hb hby d19_1) rfl ?_
    show Go p e below s₁ (mkF m 2 #[vi 16, vi 34] [wi 34, wi 16]) _
    refine XS.icmpNo X0.here hx rfl (hb hby d19_2) rfl (flt (by decide : ¬ ((34 : Int32) < (16 : Int32)))).2.2.1 ?_
    show Go p e below s₁ (mkF m 5 #[vi 16, vi 34] []) _
    refine XS.iloadN X0.here hx rfl (hb hby d19_5) rfl ?_
    show Go p e below s₁ (mkF m 6 #[vi 16, vi 34] [wi 16]) _
    refine XS.goto X0.here hx rfl (pc0 := 6) (pc' := 10) rfl (hb hby d19_6) (by decide) (by decide) ?_
    show Go p e below s₁ (mkF m 10 #[vi 16, vi 34] [wi 16]) _
    exact retI X0 hx Bd.returns (hb hby d19_10) hr
  · show Qs (some (.int (16 : Int32))) h0 n0 _ s₁.heap _
    rw [e0]
    exact ⟨rfl, N0, rfl⟩
set_option maxRecDepth 65536 in
set_option maxHeartbeats 40000000 in
theorem rm_copyOf_338e92 (l : Launch) (Z : State) (a0 : Array Value) (hw : ∀ d ∈ tables_1, d.before a0 Z = true) (ws : List Jvm.Cond) (a1 : Addr) (n : Int32) (ka : ClassId) (vs2 : List Value) (h0 : Heap) (n0 : Nat) (X00 : Old Z n0 h0) (hn : n = (0 : Int32) ∨ n = (1 : Int32) ∨ n = (2 : Int32) ∨ n = (3 : Int32)) (V_a : Arv Z h0 a1 ka .byte (16 : Int32) vs2 (.int (0 : Int32))) :
    MetFree l mn_42 (head1 (Jvm.Cond.code mn_42 jdk_65_method_121_code 3 (some (.array .byte)) :: ws) ({ frames := 1, cells := 1, slots := 34, locals := 18 } : Room)) (fun a U => a = #[(.ref a1), (.int (34 : Int32))] ∧ Z.Warmed39 U.vm ∧ U.heap = h0) (fun _ _ _ _ _ => True) (fun _ U o U' => ∃ rv rL, o = .returned rv ∧ QAr Z (34 : Int32) (put cv_1 (cpy vs2 (0 : Int32) (16 : Int32)) (0 : Int32) (16 : Int32)) h0 n0 rv U'.heap rL ∧ FrameEnd U o U' rL ({ frames := 1, cells := 1, slots := 34, locals := 18 } : Room).cells ({ frames := 1, cells := 1, slots := 34, locals := 18 } : Room).slots) := by
  refine MetFree.of_bodySF (plainFor_of_name pn_18) hisR ?_
  intro p e s m args below meth c s₁ Bd hml0 hP hK
  obtain ⟨rfl, hZ, hh⟩ := hP
  have hx := Bd.exec
  have hby := Bd.bytes
  have hml : c.maxLocals = 3 := hml0
  have hown : s.vm.findClass "java/util/Arrays" = some m.cls := findClass_of_methodNamed Bd.named
  have hnm := (name_of_methodNamed Bd.named Bd.method).1
  have X0 : Stand p l e ({ frames := 1, cells := 1, slots := 34, locals := 18 } : Room) s m #[(.ref a1), (.int (34 : Int32))] below meth c s₁ [] 0 0 := Stand.of_body Bd
  have e0 : s₁.heap = h0 := by rw [← hh, Bd.state]; rfl
  have N0 := Fr.nil n0
  have pre0 : ∀ t, Steps p.tables e below (s₁.setTop (mkF m 0 #[.val (.ref a1), .val (.int (34 : Int32)), .unset] [])) t → Steps p.tables e below (s₁.setTop (entryFrame m #[(.ref a1), (.int (34 : Int32))] 3)) t := fun t k => castTop (ef_18 m a1 (34 : Int32)) k
  obtain ⟨cl101, Ar101, q101, S101, M101, H101, G101⟩ := id V_a
  have lz102_a1 := V_a.lt
  obtain ⟨T102, h102, k102, X102, e102, E102, A102, st102⟩ := newP X0 hx hZ (tw hw 15 rfl) e0 (g := (mkF m 15 #[vr a1, vi 34, .unset] [wi 34])) rfl (hb hby d18_15) rfl (by decide) (cap := 34) (by decide) (by decide) (by decide) (by decide)
  obtain ⟨b102, g102⟩ : ∃ z, z = h0.size := ⟨_, rfl⟩
  rw [← g102] at A102 st102
  have g_b102 : n0 ≤ b102 := Nat.le_trans (own_le X00) (Nat.le_of_eq g102.symm)
  have lt_a1_b102 : a1 < b102 := Nat.lt_of_lt_of_le lz102_a1 (Nat.le_of_eq g102.symm)
  have sz_b102 : h0.size ≤ b102 := Nat.le_trans (Keep.refl h0 []).1 (Nat.le_of_eq g102.symm)
  have V102 : Arv Z h102 b102 k102 .byte (34 : Int32) [(.int (0 : Int32)), (.int (0 : Int32)), (.int (0 : Int32)), (.int (0 : Int32)), (.int (0 : Int32)), (.int (0 : Int32)), (.int (0 : Int32)), (.int (0 : Int32)), (.int (0 : Int32)), (.int (0 : Int32)), (.int (0 : Int32)), (.int (0 : Int32)), (.int (0 : Int32)), (.int (0 : Int32)), (.int (0 : Int32)), (.int (0 : Int32)), (.int (0 : Int32)), (.int (0 : Int32)), (.int (0 : Int32)), (.int (0 : Int32)), (.int (0 : Int32)), (.int (0 : Int32)), (.int (0 : Int32)), (.int (0 : Int32)), (.int (0 : Int32)), (.int (0 : Int32)), (.int (0 : Int32)), (.int (0 : Int32)), (.int (0 : Int32)), (.int (0 : Int32)), (.int (0 : Int32)), (.int (0 : Int32)), (.int (0 : Int32)), (.int (0 : Int32))] (.int (0 : Int32)) := (Arv.new A102 (by decide)).pad (pad_rep [] (.int (0 : Int32)) 34)
  have y103 := (V_a.ext E102)
  obtain ⟨cl104, Ar104, q104, S104, M104, H104, G104⟩ := id y103
  have y105 := ((Keep.refl h0 []).ext E102)
  have y106 := (X00.ext E102)
  obtain ⟨_, _, ⟨T107, L107, k107, n107⟩, -, X107, ⟨Lc107, hQ107, l107, y107, z107⟩, st107⟩ := Jvm.LawKit.callS X102 hx (y := mn_15) hown (mvT hZ (tw hw 114 rfl)) (mvT hZ (tw hw 115 rfl)) (mvT hZ (tw hw 106 rfl)) (mvT hZ (tw hw 116 rfl)) (by decide) (backOf (W := 4) (rm_min_338e92 l Z a0 hw []  n  h102 n0 y106 hn ) hZ (tw hw 116 rfl) (tw hw 106 rfl) (by decide) (by decide)) (g := (mkF m 25 #[vr a1, vi 34, vr b102] [wi 34, wi 16, wi 0, wr b102, wi 0, wr a1])) rfl (by rw [hml]; rfl) (argsL := [wi 16, wi 34]) (rest := [wi 0, wr b102, wi 0, wr a1]) (lenOf pd_II_I rfl) rfl (Nat.le_refl _) (hb hby d18_25) (fun _ _ => ⟨rfl, e102, (by decide : 1 + 0 ≤ _), (by decide : 34 + 0 ≤ _)⟩)
  dsimp only [Pt.U, Pt.locs, Pt.cells, Pt.slots] at X107 l107 y107 z107 st107 hQ107
  subst l107 y107 z107
  obtain ⟨rfl, N107q, eq107⟩ := hQ107
  have N107 := Fr.app N0 N107q
  obtain ⟨T108, h108, L108, X108, e108, N108, Kc108, V108q, st108⟩ := cpA (us := (cpy vs2 (0 : Int32) (16 : Int32))) X107 hx hZ hown (tw hw 117 rfl) (tw hw 93 rfl) (tw hw 91 rfl) (tw hw 92 rfl) eq107 y103 V102 (Or.inl ⟨rfl, rfl⟩) (by decide : ¬ (0 : Int32) < 0) (by decide : ¬ (0 : Int32) < 0) (by decide : ¬ (16 : Int32) < 0) (by decide : (0 : Int32).toNatClampNeg + (16 : Int32).toNatClampNeg ≤ (16 : Int32).toNatClampNeg) (by decide : (0 : Int32).toNatClampNeg + (16 : Int32).toNatClampNeg ≤ (34 : Int32).toNatClampNeg) rfl (Nat.le_trans (by decide : (0 : Int32).toNatClampNeg + (16 : Int32).toNatClampNeg ≤ 34) (Nat.le_of_eq (rfl : List.length cv_1 = 34).symm)) N107 g_b102 (g := (mkF m 28 #[vr a1, vi 34, vr b102] [wi 16, wi 0, wr b102, wi 0, wr a1])) rfl (by rw [hml]; rfl) rfl (hb hby d18_28) (by decide) (W := 0) (Nat.le_refl _) (by decide)
  have V108 : Arv Z h108 b102 k102 .byte (34 : Int32) (put cv_1 (cpy vs2 (0 : Int32) (16 : Int32)) (0 : Int32) (16 : Int32)) (.int (0 : Int32)) := V108q
  have y109 := (y105.trans Kc108 (allS (Or.inr sz_b102) all0))
  obtain ⟨fs, hr, hrun, hended, hW, hsame⟩ := X108.leave (v := some (.ref b102)) (fun h => by rw [Bd.returns] at h; cases h)
  refine ⟨_, _, pre0 _ ?_, hrun, hended, _, _, rfl, ?_, ⟨_, rfl⟩, hW, hsame.mono (by decide) (by decide)⟩
  · show Go p e below s₁ (mkF m 0 #[vr a1, vi 34, .unset] []) _
    refine XS.iloadN X0.here hx rfl (hb hby d18_0) rfl ?_
    show Go p e below s₁ (mkF m 1 #[vr a1, vi 34, .unset] [wi 34]) _
    refine XS.aloadN X0.here hx rfl (hb hby d18_1) rfl rfl ?_
    show Go p e below s₁ (mkF m 2 #[vr a1, vi 34, .unset] [wr a1, wi 34]) _
    refine X0.arraylength hx (by rw [e0]; exact Ar101.1) (State.isArrayOf_alike hZ.alike Ar101.2.1) (g := (mkF m 2 #[vr a1, vi 34, .unset] [wr a1, wi 34])) rfl rfl (hb hby d18_2) _ ?_
    rw [len_of S101 M101]
    show Go p e below s₁ (mkF m 3 #[vr a1, vi 34, .unset] [wi 16, wi 34]) _
    refine XS.icmpYes X0.here hx rfl (pc0 := 3) (pc' := 14) rfl (hb hby d18_3) rfl (feq (by decide : ¬ ((34 : Int32) = (16 : Int32)))).2 (by decide) (by decide) ?_
    show Go p e below s₁ (mkF m 14 #[vr a1, vi 34, .unset] []) _
    refine XS.iloadN X0.here hx rfl (hb hby d18_14) rfl ?_
    show Go p e below s₁ (mkF m 15 #[vr a1, vi 34, .unset] [wi 34]) _
    refine st102 _ ?_
    show Go p e below T102 (mkF m 17 #[vr a1, vi 34, .unset] [wr b102]) _
    refine XS.astoreN X102.here hx rfl (hb hby d18_17) rfl rfl (l' := #[.val (.ref a1), .val (.int (34 : Int32)), .val (.ref b102)]) rfl ?_
    show Go p e below T102 (mkF m 18 #[vr a1, vi 34, vr b102] []) _
    refine XS.aloadN X102.here hx rfl (hb hby d18_18) rfl rfl ?_
    show Go p e below T102 (mkF m 19 #[vr a1, vi 34, vr b102] [wr a1]) _
    refine XS.iconst X102.here hx rfl (hb hby d18_19) ?_
    show Go p e below T102 (mkF m 20 #[vr a1, vi 34, vr b102] [wi 0, wr a1]) _
    refine XS.aloadN X102.here hx rfl (hb hby d18_20) rfl rfl ?_
    show Go p e below T102 (mkF m 21 #[vr a1, vi 34, vr b102] [wr b102, wi 0, wr a1]) _
    refine XS.iconst X102.here hx rfl (hb hby d18_21) ?_
    show Go p e below T102 (mkF m 22 #[vr a1, vi 34, vr b102] [wi 0, wr b102, wi 0, wr a1]) _
    refine XS.aloadN X102.here hx rfl (hb hby d18_22) rfl rfl ?_
    show Go p e below T102 (mkF m 23 #[vr a1, vi 34, vr b102] [wr a1, wi 0, wr b102, wi 0, wr a1]) _
    refine X102.arraylength hx (by rw [e102]; exact Ar104.1) (State.isArrayOf_alike hZ.alike Ar104.2.1) (g := (mkF m 23 #[vr a1, vi 34, vr b102] [wr a1, wi 0, wr b102, wi 0, wr a1])) rfl rfl (hb hby d18_23) _ ?_
    rw [len_of S104 M104]
    show Go p e below T102 (mkF m 24 #[vr a1, vi 34, vr b102] [wi 16, wi 0, wr b102, wi 0, wr a1]) _
    refine XS.iloadN X102.here hx rfl (hb hby d18_24) rfl ?_
    show Go p e below T102 (mkF m 25 #[vr a1, vi 34, vr b102] [wi 34, wi 16, wi 0, wr b102, wi 0, wr a1]) _
    refine st107 _ ?_
    show Go p e below T107 (mkF m 28 #[vr a1, vi 34, vr b102] [wi 16, wi 0, wr b102, wi 0, wr a1]) _
    refine st108 _ ?_
    show Go p e below T108 (mkF m 31 #[vr a1, vi 34, vr b102] []) _
    refine XS.aloadN X108.here hx rfl (hb hby d18_31) rfl rfl ?_
    show Go p e below T108 (mkF m 32 #[vr a1, vi 34, vr b102] [wr b102]) _
    jvm_step X108.here [X108.here.top, hx, (hb hby d18_32), X108.method', Bd.returns, Value.isRef, FieldType.isReference]
    first | (intro acts; rw [hr _ acts rfl rfl rfl]) | rw [hr _ _ rfl rfl rfl]
    exact Steps.refl _
  · show QAr Z (34 : Int32) (put cv_1 (cpy vs2 (0 : Int32) (16 : Int32)) (0 : Int32) (16 : Int32)) h0 n0 _ T108.heap _
    rw [e108]
    exact ⟨_, _, rfl, N108, y109, g_b102, sz_b102, V108⟩
set_option maxRecDepth 65536 in
set_option maxHeartbeats 40000000 in
theorem rmEC_bab1a7 (l : Launch) (Z : State) (a0 : Array Value) (hw : ∀ d ∈ tables_1, d.before a0 Z = true) (ws : List Jvm.Cond) (a1 : Addr) (n : Int32) (sb : Addr) (kb : ClassId) (cn : Int32) (vs2 : List Value) (h0 : Heap) (n0 : Nat) (X00 : Old Z n0 h0) (hn : n = (0 : Int32) ∨ n = (1 : Int32) ∨ n = (2 : Int32) ∨ n = (3 : Int32)) (E_a1 : Exa Z h0 a1 "java/lang/StringBuilder") (F_v : Fld Z h0 a1 "java/lang/AbstractStringBuilder" "value" "[B" (.ref sb)) (F_k : Fld Z h0 a1 "java/lang/AbstractStringBuilder" "coder" "B" (.int (0 : Int32))) (F_c : Fld Z h0 a1 "java/lang/AbstractStringBuilder" "count" "I" (.int cn)) (V_b : Arv Z h0 sb kb .byte (16 : Int32) vs2 (.int (0 : Int32))) (g_a1 : n0 ≤ a1) (g_sb : n0 ≤ sb) (n_as : a1 ≠ sb) :
    MetFree l mn_6 (head1 (Jvm.Cond.code mn_6 jdk_68_method_9_code 3 none :: ws) ({ frames := 3, cells := 1, slots := 34, locals := 48 } : Room)) (fun a U => a = #[(.ref a1), (.int (((0 : Int32) + n) + (21 : Int32)))] ∧ Z.Warmed39 U.vm ∧ U.heap = h0) (fun _ _ _ _ _ => True) (fun _ U o U' => ∃ rv rL, o = .returned rv ∧ QSI Z a1 (34 : Int32) cn (put cv_1 (cpy vs2 (0 : Int32) (16 : Int32)) (0 : Int32) (16 : Int32)) none h0 n0 rv U'.heap rL ∧ FrameEnd U o U' rL ({ frames := 3, cells := 1, slots := 34, locals := 48 } : Room).cells ({ frames := 3, cells := 1, slots := 34, locals := 48 } : Room).slots) := by
  refine MetFree.of_bodySF (plainFor_of_name pn_11) hisR ?_
  intro p e s m args below meth c s₁ Bd hml0 hP hK
  obtain ⟨rfl, hZ, hh⟩ := hP
  have hx := Bd.exec
  have hby := Bd.bytes
  have hml : c.maxLocals = 3 := hml0
  have hown : s.vm.findClass "java/lang/AbstractStringBuilder" = some m.cls := findClass_of_methodNamed Bd.named
  have hnm := (name_of_methodNamed Bd.named Bd.method).1
  have X0 : Stand p l e ({ frames := 3, cells := 1, slots := 34, locals := 48 } : Room) s m #[(.ref a1), (.int (((0 : Int32) + n) + (21 : Int32)))] below meth c s₁ [] 0 0 := Stand.of_body Bd
  have e0 : s₁.heap = h0 := by rw [← hh, Bd.state]; rfl
  have N0 := Fr.nil n0
  have pre0 : ∀ t, Steps p.tables e below (s₁.setTop (mkF m 0 #[.val (.ref a1), .val (.int (((0 : Int32) + n) + (21 : Int32))), .unset] [])) t → Steps p.tables e below (s₁.setTop (entryFrame m #[(.ref a1), (.int (((0 : Int32) + n) + (21 : Int32)))] 3)) t := fun t k => castTop (ef_11 m a1 (((0 : Int32) + n) + (21 : Int32))) k
  obtain ⟨T101, X101, e101, st101⟩ := getF X0 hx hZ hown (host := "") (Or.inl (tw hw 42 rfl)) Via.refl e0 F_v (g := (mkF m 1 #[vr a1, vi (((0 : Int32) + n) + (21 : Int32)), .unset] [wr a1])) rfl rfl (hb hby d11_1)
  obtain ⟨cl102, Ar102, q102, S102, M102, H102, G102⟩ := id V_b
  obtain ⟨T103, X103, e103, st103⟩ := getF X101 hx hZ hown (host := "") (Or.inl (tw hw 44 rfl)) Via.refl e101 F_k (g := (mkF m 6 #[vr a1, vi (((0 : Int32) + n) + (21 : Int32)), .unset] [wr a1, wi 16])) rfl rfl (hb hby d11_6)
  obtain ⟨T104, X104, e104, st104⟩ := getF X103 hx hZ hown (host := "") (Or.inl (tw hw 42 rfl)) Via.refl e103 F_v (g := (mkF m 19 #[vr a1, vi (((0 : Int32) + n) + (21 : Int32)), vi 16] [wr a1, wr a1])) rfl rfl (hb hby d11_19)
  obtain ⟨cq105, q105a, q105b⟩ := E_a1.cell
  obtain ⟨_, _, ⟨T105, L105, k105, n105⟩, -, X105, ⟨Lc105, hQ105, l105, y105, z105⟩, st105⟩ := X104.privateBack hx (y := mn_11) hown (mvT hZ (tw hw 95 rfl)) (mvT hZ (tw hw 96 rfl)) (mvT hZ (own_selP (tw hw 98 rfl) (tw hw 96 rfl) (tw hw 97 rfl) (by decide))) (Cond.privateMethod_at (mvP hZ (tw hw 97 rfl) (args := #[]))) (mvT hZ (tw hw 99 rfl)) (by decide) (backOf (W := 2) (rmNC_bab1a7 l Z a0 hw [] a1 n sb kb cn vs2 h0 n0 X00 hn E_a1 F_v F_k F_c V_b g_a1 g_sb n_as) hZ (tw hw 99 rfl) (tw hw 38 rfl) (by decide) (by decide)) (g := (mkF m 24 #[vr a1, vi (((0 : Int32) + n) + (21 : Int32)), vi 16] [wi (((0 : Int32) + n) + (21 : Int32)), wr a1, wr sb, wr a1])) rfl (by rw [hml]; rfl) (Steps.refl _) (a := a1) (by rw [e104]; exact q105a) q105b (argsL := [wi (((0 : Int32) + n) + (21 : Int32))]) (rest := [wr sb, wr a1]) (lenOf pd_I_I rfl) rfl (Nat.le_refl _) (hb hby d11_24) (fun _ _ => ⟨rfl, e104, (by decide : 0 + 0 ≤ _), (by decide : 0 + 0 ≤ _)⟩)
  dsimp only [Pt.U, Pt.locs, Pt.cells, Pt.slots] at X105 l105 y105 z105 st105 hQ105
  subst l105 y105 z105
  obtain ⟨rfl, N105q, eq105⟩ := hQ105
  have N105 := Fr.app N0 N105q
  obtain ⟨T106, X106, e106, st106⟩ := getF X105 hx hZ hown (host := "") (Or.inl (tw hw 44 rfl)) Via.refl eq105 F_k (g := (mkF m 28 #[vr a1, vi (((0 : Int32) + n) + (21 : Int32)), vi 16] [wr a1, wi 34, wr sb, wr a1])) rfl rfl (hb hby d11_28)
  have lz107_a1 := E_a1.lt
  have lz107_sb := V_b.lt
  obtain ⟨_, _, ⟨T107, L107, k107, n107⟩, -, X107, ⟨Lc107, hQ107, l107, y107, z107⟩, st107⟩ := Jvm.LawKit.callS X106 hx (y := mn_42) hown (mvT hZ (tw hw 110 rfl)) (mvT hZ (tw hw 111 rfl)) (mvT hZ (tw hw 112 rfl)) (mvT hZ (tw hw 113 rfl)) (by decide) (backOf (W := 1) (rm_copyOf_338e92 l Z a0 hw [] sb n kb vs2 h0 n0 X00 hn V_b) hZ (tw hw 113 rfl) (tw hw 112 rfl) (by decide) (by decide)) (g := (mkF m 32 #[vr a1, vi (((0 : Int32) + n) + (21 : Int32)), vi 16] [wi 34, wr sb, wr a1])) rfl (by rw [hml]; rfl) (argsL := [wr sb, wi 34]) (rest := [wr a1]) (lenOf pd_ABI_AB rfl) rfl (Nat.le_refl _) (hb hby d11_32) (fun _ _ => ⟨rfl, e106, (by decide : 0 + 1 ≤ _), (by decide : 0 + 34 ≤ _)⟩)
  dsimp only [Pt.U, Pt.locs, Pt.cells, Pt.slots] at X107 l107 y107 z107 st107 hQ107
  subst l107 y107 z107
  obtain ⟨ur107, uq107, rfl, N107q, Kc107, ug107, us107, uV107⟩ := hQ107
  have N107 := Fr.app N105 N107q
  have lt_a1_ur107 : a1 < ur107 := Nat.lt_of_lt_of_le lz107_a1 us107
  have lt_sb_ur107 : sb < ur107 := Nat.lt_of_lt_of_le lz107_sb us107
  have sz_ur107 : h0.size ≤ ur107 := Nat.le_trans (Keep.refl h0 [a1]).1 us107
  have y108 := (F_v.keep Kc107 own_nm0)
  have y109 := (E_a1.keep Kc107)
  obtain ⟨T110, h110, X110, e110, W110, st110⟩ := putF X107 hx hZ hown (host := "") (Or.inl (tw hw 42 rfl)) Via.refl rfl y108 y109 (Or.inl (tw hw 43 rfl)) (tw hw 29 rfl) (ty := (.array .byte)) (by decide) rfl rfl (g := (mkF m 35 #[vr a1, vi (((0 : Int32) + n) + (21 : Int32)), vi 16] [wr ur107, wr a1])) rfl rfl (hb hby d11_35)
  have Fw110 := y108.same W110
  have N110 := Fr.snoc X110 N107 g_a1
  have y111 := (((Keep.refl h0 [a1]).trans Kc107 all0).wr W110 (Or.inl (List.mem_of_getElem? (i := 0) rfl)))
  have y112 := (y109.wr W110)
  have y113 := ((F_k.keep Kc107 own_nm0).other W110 (Or.inr (slot_ne (Or.inl (tw hw 45 rfl)) (Or.inl (tw hw 43 rfl)) (by decide) (t := .byte) (t' := (.array .byte)) (by decide) (by decide))))
  have y114 := ((F_c.keep Kc107 own_nm0).other W110 (Or.inr (slot_ne (Or.inl (tw hw 68 rfl)) (Or.inl (tw hw 43 rfl)) (by decide) (t := .int) (t' := (.array .byte)) (by decide) (by decide))))
  have y115 := (uV107.other W110 (Ne.symm (Nat.ne_of_lt lt_a1_ur107)))
  obtain ⟨fs, hr, hrun, hended, hW, hsame⟩ := X110.leave (v := none) (fun _ => rfl)
  refine ⟨_, _, pre0 _ ?_, hrun, hended, _, _, rfl, ?_, ⟨_, rfl⟩, hW, hsame.mono (by decide) (by decide)⟩
  · show Go p e below s₁ (mkF m 0 #[vr a1, vi (((0 : Int32) + n) + (21 : Int32)), .unset] []) _
    refine XS.aloadN X0.here hx rfl (hb hby d11_0) rfl rfl ?_
    show Go p e below s₁ (mkF m 1 #[vr a1, vi (((0 : Int32) + n) + (21 : Int32)), .unset] [wr a1]) _
    refine st101 _ ?_
    show Go p e below T101 (mkF m 4 #[vr a1, vi (((0 : Int32) + n) + (21 : Int32)), .unset] [wr sb]) _
    refine X101.arraylength hx (by rw [e101]; exact Ar102.1) (State.isArrayOf_alike hZ.alike Ar102.2.1) (g := (mkF m 4 #[vr a1, vi (((0 : Int32) + n) + (21 : Int32)), .unset] [wr sb])) rfl rfl (hb hby d11_4) _ ?_
    rw [len_of S102 M102]
    show Go p e below T101 (mkF m 5 #[vr a1, vi (((0 : Int32) + n) + (21 : Int32)), .unset] [wi 16]) _
    refine XS.aloadN X101.here hx rfl (hb hby d11_5) rfl rfl ?_
    show Go p e below T101 (mkF m 6 #[vr a1, vi (((0 : Int32) + n) + (21 : Int32)), .unset] [wr a1, wi 16]) _
    refine st103 _ ?_
    show Go p e below T103 (mkF m 9 #[vr a1, vi (((0 : Int32) + n) + (21 : Int32)), .unset] [wi 0, wi 16]) _
    refine XS.ishr X103.here hx rfl (hb hby d11_9) rfl ?_
    show Go p e below T103 (mkF m 10 #[vr a1, vi (((0 : Int32) + n) + (21 : Int32)), .unset] [wi 16]) _
    refine XS.istoreN X103.here hx rfl (hb hby d11_10) rfl (l' := #[.val (.ref a1), .val (.int (((0 : Int32) + n) + (21 : Int32))), .val (.int (16 : Int32))]) rfl ?_
    show Go p e below T103 (mkF m 11 #[vr a1, vi (((0 : Int32) + n) + (21 : Int32)), vi 16] []) _
    refine XS.iloadN X103.here hx rfl (hb hby d11_11) rfl ?_
    show Go p e below T103 (mkF m 12 #[vr a1, vi (((0 : Int32) + n) + (21 : Int32)), vi 16] [wi (((0 : Int32) + n) + (21 : Int32))]) _
    refine XS.iloadN X103.here hx rfl (hb hby d11_12) rfl ?_
    show Go p e below T103 (mkF m 13 #[vr a1, vi (((0 : Int32) + n) + (21 : Int32)), vi 16] [wi 16, wi (((0 : Int32) + n) + (21 : Int32))]) _
    refine XS.isub X103.here hx rfl (hb hby d11_13) rfl ?_
    show Go p e below T103 (mkF m 14 #[vr a1, vi (((0 : Int32) + n) + (21 : Int32)), vi 16] [wi ((((0 : Int32) + n) + (21 : Int32)) - (16 : Int32))]) _
    refine XS.ifNo X103.here hx rfl (hb hby d11_14) rfl ((if0 _ _).trans (tlt (own_4 (P := fun n => (0 : Int32) < ((((0 : Int32) + n) + (21 : Int32)) - (16 : Int32))) hn (by decide) : (0 : Int32) < ((((0 : Int32) + n) + (21 : Int32)) - (16 : Int32)))).2.2.2) ?_
    show Go p e below T103 (mkF m 17 #[vr a1, vi (((0 : Int32) + n) + (21 : Int32)), vi 16] []) _
    refine XS.aloadN X103.here hx rfl (hb hby d11_17) rfl rfl ?_
    show Go p e below T103 (mkF m 18 #[vr a1, vi (((0 : Int32) + n) + (21 : Int32)), vi 16] [wr a1]) _
    refine XS.aloadN X103.here hx rfl (hb hby d11_18) rfl rfl ?_
    show Go p e below T103 (mkF m 19 #[vr a1, vi (((0 : Int32) + n) + (21 : Int32)), vi 16] [wr a1, wr a1]) _
    refine st104 _ ?_
    show Go p e below T104 (mkF m 22 #[vr a1, vi (((0 : Int32) + n) + (21 : Int32)), vi 16] [wr sb, wr a1]) _
    refine XS.aloadN X104.here hx rfl (hb hby d11_22) rfl rfl ?_
    show Go p e below T104 (mkF m 23 #[vr a1, vi (((0 : Int32) + n) + (21 : Int32)), vi 16] [wr a1, wr sb, wr a1]) _
    refine XS.iloadN X104.here hx rfl (hb hby d11_23) rfl ?_
    show Go p e below T104 (mkF m 24 #[vr a1, vi (((0 : Int32) + n) + (21 : Int32)), vi 16] [wi (((0 : Int32) + n) + (21 : Int32)), wr a1, wr sb, wr a1]) _
    refine st105.trans ?_
    show Go p e below T105 (mkF m 27 #[vr a1, vi (((0 : Int32) + n) + (21 : Int32)), vi 16] [wi 34, wr sb, wr a1]) _
    refine XS.aloadN X105.here hx rfl (hb hby d11_27) rfl rfl ?_
    show Go p e below T105 (mkF m 28 #[vr a1, vi (((0 : Int32) + n) + (21 : Int32)), vi 16] [wr a1, wi 34, wr sb, wr a1]) _
    refine st106 _ ?_
    show Go p e below T106 (mkF m 31 #[vr a1, vi (((0 : Int32) + n) + (21 : Int32)), vi 16] [wi 0, wi 34, wr sb, wr a1]) _
    refine XS.ishl X106.here hx rfl (hb hby d11_31) rfl ?_
    show Go p e below T106 (mkF m 32 #[vr a1, vi (((0 : Int32) + n) + (21 : Int32)), vi 16] [wi 34, wr sb, wr a1]) _
    refine st107 _ ?_
    show Go p e below T107 (mkF m 35 #[vr a1, vi (((0 : Int32) + n) + (21 : Int32)), vi 16] [wr ur107, wr a1]) _
    refine st110 _ ?_
    show Go p e below T110 (mkF m 38 #[vr a1, vi (((0 : Int32) + n) + (21 : Int32)), vi 16] []) _
    exact X110.returnOut hx Bd.returns (hb hby d11_38) hr
  · show QSI Z a1 (34 : Int32) cn (put cv_1 (cpy vs2 (0 : Int32) (16 : Int32)) (0 : Int32) (16 : Int32)) none h0 n0 _ T110.heap _
    rw [e110]
    exact ⟨rfl, N110, y111, ur107, uq107, ug107, sz_ur107, y112, Fw110, y113, y114, y115⟩
set_option maxRecDepth 65536 in
set_option maxHeartbeats 40000000 in
theorem rmGB_eae8bc (l : Launch) (Z : State) (a0 : Array Value) (hw : ∀ d ∈ tables_1, d.before a0 Z = true) (ws : List Jvm.Cond) (a1 : Addr) (a2 : Addr) (n : Int32) (t : Addr) (kt : ClassId) (kd : ClassId) (vs1 : List Value) (vs2 : List Value) (G1 : Int32) (h0 : Heap) (n0 : Nat) (X00 : Old Z n0 h0) (hn : n = (0 : Int32) ∨ n = (1 : Int32) ∨ n = (2 : Int32) ∨ n = (3 : Int32)) (O2 : Sta Z Z.heap "java/lang/String" "COMPACT_STRINGS" "Z" (.int G1)) (P5 : ¬ (G1 = (0 : Int32))) (E_a1 : Exa Z h0 a1 "java/lang/String") (S_v : Fld Z h0 a1 "java/lang/String" "value" "[B" (.ref t)) (S_k : Fld Z h0 a1 "java/lang/String" "coder" "B" (.int (0 : Int32))) (V_t : Arv Z h0 t kt .byte (21 : Int32) vs1 (.int (0 : Int32))) (V_d : Arv Z h0 a2 kd .byte (34 : Int32) vs2 (.int (0 : Int32))) (g_a2 : n0 ≤ a2) (lv : vs2.length = 34) :
    MetFree l mn_24 (head1 (Jvm.Cond.code mn_24 jdk_42_method_147_code 4 none :: ws) ({ frames := 1, cells := 0, slots := 0, locals := 18 } : Room)) (fun a U => a = #[(.ref a1), (.ref a2), (.int ((0 : Int32) + n)), (.int (0 : Int32))] ∧ Z.Warmed39 U.vm ∧ U.heap = h0) (fun _ _ _ _ _ => True) (fun _ U o U' => ∃ rv rL, o = .returned rv ∧ QGB Z a2 kd (34 : Int32) (put vs2 (cpy vs1 (0 : Int32) (21 : Int32)) (((0 : Int32) + n) <<< ((0 : Int32) &&& 31)) (21 : Int32)) h0 n0 rv U'.heap rL ∧ FrameEnd U o U' rL ({ frames := 1, cells := 0, slots := 0, locals := 18 } : Room).cells ({ frames := 1, cells := 0, slots := 0, locals := 18 } : Room).slots) := by
  refine MetFree.of_bodySF (plainFor_of_name pn_14) hisR ?_
  intro p e s m args below meth c s₁ Bd hml0 hP hK
  obtain ⟨rfl, hZ, hh⟩ := hP
  have hx := Bd.exec
  have hby := Bd.bytes
  have hml : c.maxLocals = 4 := hml0
  have hown : s.vm.findClass "java/lang/String" = some m.cls := findClass_of_methodNamed Bd.named
  have hnm := (name_of_methodNamed Bd.named Bd.method).1
  have X0 : Stand p l e ({ frames := 1, cells := 0, slots := 0, locals := 18 } : Room) s m #[(.ref a1), (.ref a2), (.int ((0 : Int32) + n)), (.int (0 : Int32))] below meth c s₁ [] 0 0 := Stand.of_body Bd
  have e0 : s₁.heap = h0 := by rw [← hh, Bd.state]; rfl
  have N0 := Fr.nil n0
  have pre0 : ∀ t, Steps p.tables e below (s₁.setTop (mkF m 0 #[.val (.ref a1), .val (.ref a2), .val (.int ((0 : Int32) + n)), .val (.int (0 : Int32))] [])) t → Steps p.tables e below (s₁.setTop (entryFrame m #[(.ref a1), (.ref a2), (.int ((0 : Int32) + n)), (.int (0 : Int32))] 4)) t := fun t k => castTop (ef_14 m a1 a2 ((0 : Int32) + n) (0 : Int32)) k
  obtain ⟨cq101, kq101, q101a, q101b, q101c⟩ := isOf hZ e0 E_a1
  obtain ⟨_, _, ⟨T101, L101, k101, n101⟩, -, X101, ⟨Lc101, hQ101, l101, y101, z101⟩, st101⟩ := X0.virtualBack hx (y := mn_23) (z := mn_23) hown (mvT hZ (tw hw 61 rfl)) (mvT hZ (tw hw 62 rfl)) (notFace_of_selects (args := #[]) (mvT hZ (tw hw 64 rfl))) (mvT hZ (tw hw 64 rfl)) (mvT hZ (tw hw 63 rfl)) (by decide) (backOf (W := 0) (rmCod l Z a0 hw [] a1 n G1 h0 n0 X00 hn O2 P5 S_k) hZ (tw hw 65 rfl) (tw hw 3 rfl) (by decide) (by decide)) q101a q101c (g := (mkF m 1 #[vr a1, vr a2, vi ((0 : Int32) + n), vi 0] [wr a1])) rfl (by rw [hml]; rfl) (Steps.refl _) (argsL := []) (rest := []) (lenOf pd__B rfl) rfl (Nat.le_refl _) (hb hby d14_1) (fun _ _ => ⟨rfl, e0, (by decide : 0 + 0 ≤ _), (by decide : 0 + 0 ≤ _)⟩)
  dsimp only [Pt.U, Pt.locs, Pt.cells, Pt.slots] at X101 l101 y101 z101 st101 hQ101
  subst l101 y101 z101
  obtain ⟨rfl, N101q, eq101⟩ := hQ101
  have N101 := Fr.app N0 N101q
  obtain ⟨T102, X102, e102, st102⟩ := getF X101 hx hZ hown (host := "") (Or.inl (tw hw 20 rfl)) Via.refl eq101 S_v (g := (mkF m 9 #[vr a1, vr a2, vi ((0 : Int32) + n), vi 0] [wr a1])) rfl rfl (hb hby d14_9)
  obtain ⟨T103, X103, e103, st103⟩ := getF X102 hx hZ hown (host := "") (Or.inl (tw hw 20 rfl)) Via.refl e102 S_v (g := (mkF m 18 #[vr a1, vr a2, vi ((0 : Int32) + n), vi 0] [wr a1, wi (((0 : Int32) + n) <<< ((0 : Int32) &&& 31)), wr a2, wi 0, wr t])) rfl rfl (hb hby d14_18)
  obtain ⟨cl104, Ar104, q104, S104, M104, H104, G104⟩ := id V_t
  obtain ⟨T105, h105, L105, X105, e105, N105, Kc105, V105q, st105⟩ := cpA (us := (cpy vs1 (0 : Int32) (21 : Int32))) X103 hx hZ hown (tw hw 90 rfl) (tw hw 93 rfl) (tw hw 91 rfl) (tw hw 92 rfl) e103 V_t V_d (Or.inl ⟨rfl, rfl⟩) (by decide : ¬ (0 : Int32) < 0) (own_4 (P := fun n => ¬ (((0 : Int32) + n) <<< ((0 : Int32) &&& 31)) < 0) hn (by decide) : ¬ (((0 : Int32) + n) <<< ((0 : Int32) &&& 31)) < 0) (by decide : ¬ (21 : Int32) < 0) (by decide : (0 : Int32).toNatClampNeg + (21 : Int32).toNatClampNeg ≤ (21 : Int32).toNatClampNeg) (own_4 (P := fun n => (((0 : Int32) + n) <<< ((0 : Int32) &&& 31)).toNatClampNeg + (21 : Int32).toNatClampNeg ≤ (34 : Int32).toNatClampNeg) hn (by decide) : (((0 : Int32) + n) <<< ((0 : Int32) &&& 31)).toNatClampNeg + (21 : Int32).toNatClampNeg ≤ (34 : Int32).toNatClampNeg) rfl (Nat.le_trans (own_4 (P := fun n => (((0 : Int32) + n) <<< ((0 : Int32) &&& 31)).toNatClampNeg + (21 : Int32).toNatClampNeg ≤ 34) hn (by decide) : (((0 : Int32) + n) <<< ((0 : Int32) &&& 31)).toNatClampNeg + (21 : Int32).toNatClampNeg ≤ 34) (Nat.le_of_eq (lv : List.length vs2 = 34).symm)) N101 g_a2 (g := (mkF m 22 #[vr a1, vr a2, vi ((0 : Int32) + n), vi 0] [wi 21, wi (((0 : Int32) + n) <<< ((0 : Int32) &&& 31)), wr a2, wi 0, wr t])) rfl (by rw [hml]; rfl) rfl (hb hby d14_22) (by decide) (W := 0) (Nat.le_refl _) (by decide)
  have V105 : Arv Z h105 a2 kd .byte (34 : Int32) (put vs2 (cpy vs1 (0 : Int32) (21 : Int32)) (((0 : Int32) + n) <<< ((0 : Int32) &&& 31)) (21 : Int32)) (.int (0 : Int32)) := V105q
  have y106 := ((Keep.refl h0 [a2]).trans Kc105 (allS (Or.inl (List.mem_of_getElem? (i := 0) rfl)) all0))
  obtain ⟨fs, hr, hrun, hended, hW, hsame⟩ := X105.leave (v := none) (fun _ => rfl)
  refine ⟨_, _, pre0 _ ?_, hrun, hended, _, _, rfl, ?_, ⟨_, rfl⟩, hW, hsame.mono (by decide) (by decide)⟩
  · show Go p e below s₁ (mkF m 0 #[vr a1, vr a2, vi ((0 : Int32) + n), vi 0] []) _
    refine XS.aloadN X0.here hx rfl (hb hby d14_0) rfl rfl ?_
    show Go p e below s₁ (mkF m 1 #[vr a1, vr a2, vi ((0 : Int32) + n), vi 0] [wr a1]) _
    refine st101.trans ?_
    show Go p e below T101 (mkF m 4 #[vr a1, vr a2, vi ((0 : Int32) + n), vi 0] [wi 0]) _
    refine XS.iloadN X101.here hx rfl (hb hby d14_4) rfl ?_
    show Go p e below T101 (mkF m 5 #[vr a1, vr a2, vi ((0 : Int32) + n), vi 0] [wi 0, wi 0]) _
    refine XS.icmpNo X101.here hx rfl (hb hby d14_5) rfl (teq (rfl : (0 : Int32) = (0 : Int32))).2 ?_
    show Go p e below T101 (mkF m 8 #[vr a1, vr a2, vi ((0 : Int32) + n), vi 0] []) _
    refine XS.aloadN X101.here hx rfl (hb hby d14_8) rfl rfl ?_
    show Go p e below T101 (mkF m 9 #[vr a1, vr a2, vi ((0 : Int32) + n), vi 0] [wr a1]) _
    refine st102 _ ?_
    show Go p e below T102 (mkF m 12 #[vr a1, vr a2, vi ((0 : Int32) + n), vi 0] [wr t]) _
    refine XS.iconst X102.here hx rfl (hb hby d14_12) ?_
    show Go p e below T102 (mkF m 13 #[vr a1, vr a2, vi ((0 : Int32) + n), vi 0] [wi 0, wr t]) _
    refine XS.aloadN X102.here hx rfl (hb hby d14_13) rfl rfl ?_
    show Go p e below T102 (mkF m 14 #[vr a1, vr a2, vi ((0 : Int32) + n), vi 0] [wr a2, wi 0, wr t]) _
    refine XS.iloadN X102.here hx rfl (hb hby d14_14) rfl ?_
    show Go p e below T102 (mkF m 15 #[vr a1, vr a2, vi ((0 : Int32) + n), vi 0] [wi ((0 : Int32) + n), wr a2, wi 0, wr t]) _
    refine XS.iloadN X102.here hx rfl (hb hby d14_15) rfl ?_
    show Go p e below T102 (mkF m 16 #[vr a1, vr a2, vi ((0 : Int32) + n), vi 0] [wi 0, wi ((0 : Int32) + n), wr a2, wi 0, wr t]) _
    refine XS.ishl X102.here hx rfl (hb hby d14_16) rfl ?_
    show Go p e below T102 (mkF m 17 #[vr a1, vr a2, vi ((0 : Int32) + n), vi 0] [wi (((0 : Int32) + n) <<< ((0 : Int32) &&& 31)), wr a2, wi 0, wr t]) _
    refine XS.aloadN X102.here hx rfl (hb hby d14_17) rfl rfl ?_
    show Go p e below T102 (mkF m 18 #[vr a1, vr a2, vi ((0 : Int32) + n), vi 0] [wr a1, wi (((0 : Int32) + n) <<< ((0 : Int32) &&& 31)), wr a2, wi 0, wr t]) _
    refine st103 _ ?_
    show Go p e below T103 (mkF m 21 #[vr a1, vr a2, vi ((0 : Int32) + n), vi 0] [wr t, wi (((0 : Int32) + n) <<< ((0 : Int32) &&& 31)), wr a2, wi 0, wr t]) _
    refine X103.arraylength hx (by rw [e103]; exact Ar104.1) (State.isArrayOf_alike hZ.alike Ar104.2.1) (g := (mkF m 21 #[vr a1, vr a2, vi ((0 : Int32) + n), vi 0] [wr t, wi (((0 : Int32) + n) <<< ((0 : Int32) &&& 31)), wr a2, wi 0, wr t])) rfl rfl (hb hby d14_21) _ ?_
    rw [len_of S104 M104]
    show Go p e below T103 (mkF m 22 #[vr a1, vr a2, vi ((0 : Int32) + n), vi 0] [wi 21, wi (((0 : Int32) + n) <<< ((0 : Int32) &&& 31)), wr a2, wi 0, wr t]) _
    refine st105 _ ?_
    show Go p e below T105 (mkF m 25 #[vr a1, vr a2, vi ((0 : Int32) + n), vi 0] []) _
    refine XS.goto X105.here hx rfl (pc0 := 25) (pc' := 43) rfl (hb hby d14_25) (by decide) (by decide) ?_
    show Go p e below T105 (mkF m 43 #[vr a1, vr a2, vi ((0 : Int32) + n), vi 0] []) _
    exact X105.returnOut hx Bd.returns (hb hby d14_43) hr
  · show QGB Z a2 kd (34 : Int32) (put vs2 (cpy vs1 (0 : Int32) (21 : Int32)) (((0 : Int32) + n) <<< ((0 : Int32) &&& 31)) (21 : Int32)) h0 n0 _ T105.heap _
    rw [e105]
    exact ⟨rfl, N105, y106, V105⟩
set_option maxRecDepth 65536 in
set_option maxHeartbeats 40000000 in
theorem rmPS_eae8bc (l : Launch) (Z : State) (a0 : Array Value) (hw : ∀ d ∈ tables_1, d.before a0 Z = true) (ws : List Jvm.Cond) (a1 : Addr) (a3 : Addr) (n : Int32) (t : Addr) (kt : ClassId) (sb : Addr) (kb : ClassId) (cn : Int32) (vs1 : List Value) (vs2 : List Value) (G1 : Int32) (h0 : Heap) (n0 : Nat) (X00 : Old Z n0 h0) (hn : n = (0 : Int32) ∨ n = (1 : Int32) ∨ n = (2 : Int32) ∨ n = (3 : Int32)) (O2 : Sta Z Z.heap "java/lang/String" "COMPACT_STRINGS" "Z" (.int G1)) (P5 : ¬ (G1 = (0 : Int32))) (E_a3 : Exa Z h0 a3 "java/lang/String") (S_v : Fld Z h0 a3 "java/lang/String" "value" "[B" (.ref t)) (S_k : Fld Z h0 a3 "java/lang/String" "coder" "B" (.int (0 : Int32))) (V_t : Arv Z h0 t kt .byte (21 : Int32) vs1 (.int (0 : Int32))) (E_a1 : Exa Z h0 a1 "java/lang/StringBuilder") (F_v : Fld Z h0 a1 "java/lang/AbstractStringBuilder" "value" "[B" (.ref sb)) (F_k : Fld Z h0 a1 "java/lang/AbstractStringBuilder" "coder" "B" (.int (0 : Int32))) (F_c : Fld Z h0 a1 "java/lang/AbstractStringBuilder" "count" "I" (.int cn)) (V_b : Arv Z h0 sb kb .byte (34 : Int32) vs2 (.int (0 : Int32))) (g_a1 : n0 ≤ a1) (g_sb : n0 ≤ sb) (n_as : a1 ≠ sb) (lv : vs2.length = 34) :
    MetFree l mn_12 (head1 (Jvm.Cond.code mn_12 jdk_68_method_73_code 3 none :: ws) ({ frames := 2, cells := 0, slots := 0, locals := 33 } : Room)) (fun a U => a = #[(.ref a1), (.int ((0 : Int32) + n)), (.ref a3)] ∧ Z.Warmed39 U.vm ∧ U.heap = h0) (fun _ _ _ _ _ => True) (fun _ U o U' => ∃ rv rL, o = .returned rv ∧ QGB Z sb kb (34 : Int32) (put vs2 (cpy vs1 (0 : Int32) (21 : Int32)) (((0 : Int32) + n) <<< ((0 : Int32) &&& 31)) (21 : Int32)) h0 n0 rv U'.heap rL ∧ FrameEnd U o U' rL ({ frames := 2, cells := 0, slots := 0, locals := 33 } : Room).cells ({ frames := 2, cells := 0, slots := 0, locals := 33 } : Room).slots) := by
  refine MetFree.of_bodySF (plainFor_of_name pn_12) hisR ?_
  intro p e s m args below meth c s₁ Bd hml0 hP hK
  obtain ⟨rfl, hZ, hh⟩ := hP
  have hx := Bd.exec
  have hby := Bd.bytes
  have hml : c.maxLocals = 3 := hml0
  have hown : s.vm.findClass "java/lang/AbstractStringBuilder" = some m.cls := findClass_of_methodNamed Bd.named
  have hnm := (name_of_methodNamed Bd.named Bd.method).1
  have X0 : Stand p l e ({ frames := 2, cells := 0, slots := 0, locals := 33 } : Room) s m #[(.ref a1), (.int ((0 : Int32) + n)), (.ref a3)] below meth c s₁ [] 0 0 := Stand.of_body Bd
  have e0 : s₁.heap = h0 := by rw [← hh, Bd.state]; rfl
  have N0 := Fr.nil n0
  have pre0 : ∀ t, Steps p.tables e below (s₁.setTop (mkF m 0 #[.val (.ref a1), .val (.int ((0 : Int32) + n)), .val (.ref a3)] [])) t → Steps p.tables e below (s₁.setTop (entryFrame m #[(.ref a1), (.int ((0 : Int32) + n)), (.ref a3)] 3)) t := fun t k => castTop (ef_12 m a1 ((0 : Int32) + n) a3) k
  obtain ⟨cq101, q101a, q101b⟩ := E_a1.cell
  obtain ⟨_, _, ⟨T101, L101, k101, n101⟩, -, X101, ⟨Lc101, hQ101, l101, y101, z101⟩, st101⟩ := X0.privateBack hx (y := mn_8) hown (mvT hZ (tw hw 79 rfl)) (mvT hZ (tw hw 80 rfl)) (mvT hZ (own_selP (tw hw 82 rfl) (tw hw 80 rfl) (tw hw 81 rfl) (by decide))) (Cond.privateMethod_at (mvP hZ (tw hw 81 rfl) (args := #[]))) (mvT hZ (tw hw 83 rfl)) (by decide) (backOf (W := 0) (rmINF l Z a0 hw [] a1 a3 n G1 h0 n0 X00 hn O2 P5 E_a3 F_k S_k) hZ (tw hw 83 rfl) (tw hw 38 rfl) (by decide) (by decide)) (g := (mkF m 2 #[vr a1, vi ((0 : Int32) + n), vr a3] [wr a3, wr a1])) rfl (by rw [hml]; rfl) (Steps.refl _) (a := a1) (by rw [e0]; exact q101a) q101b (argsL := [wr a3]) (rest := []) (lenOf pd_Ljava_lang_String__V rfl) rfl (Nat.le_refl _) (hb hby d12_2) (fun _ _ => ⟨rfl, e0, (by decide : 0 + 0 ≤ _), (by decide : 0 + 0 ≤ _)⟩)
  dsimp only [Pt.U, Pt.locs, Pt.cells, Pt.slots] at X101 l101 y101 z101 st101 hQ101
  subst l101 y101 z101
  obtain ⟨rfl, N101q, eq101⟩ := hQ101
  have N101 := Fr.app N0 N101q
  obtain ⟨T102, X102, e102, st102⟩ := getF X101 hx hZ hown (host := "") (Or.inl (tw hw 42 rfl)) Via.refl eq101 F_v (g := (mkF m 7 #[vr a1, vi ((0 : Int32) + n), vr a3] [wr a1, wr a3])) rfl rfl (hb hby d12_7)
  obtain ⟨T103, X103, e103, st103⟩ := getF X102 hx hZ hown (host := "") (Or.inl (tw hw 44 rfl)) Via.refl e102 F_k (g := (mkF m 12 #[vr a1, vi ((0 : Int32) + n), vr a3] [wr a1, wi ((0 : Int32) + n), wr sb, wr a3])) rfl rfl (hb hby d12_12)
  obtain ⟨cq104, kq104, q104a, q104b, q104c⟩ := isOf hZ e103 E_a3
  obtain ⟨_, _, ⟨T104, L104, k104, n104⟩, -, X104, ⟨Lc104, hQ104, l104, y104, z104⟩, st104⟩ := X103.virtualBack hx (y := mn_24) (z := mn_24) hown (mvT hZ (tw hw 85 rfl)) (mvT hZ (tw hw 86 rfl)) (notFace_of_selects (args := #[]) (mvT hZ (tw hw 88 rfl))) (mvT hZ (tw hw 88 rfl)) (mvT hZ (tw hw 87 rfl)) (by decide) (backOf (W := 0) (rmGB_eae8bc l Z a0 hw [] a3 sb n t kt kb vs1 vs2 G1 h0 n0 X00 hn O2 P5 E_a3 S_v S_k V_t V_b g_sb lv) hZ (tw hw 89 rfl) (tw hw 3 rfl) (by decide) (by decide)) q104a q104c (g := (mkF m 15 #[vr a1, vi ((0 : Int32) + n), vr a3] [wi 0, wi ((0 : Int32) + n), wr sb, wr a3])) rfl (by rw [hml]; rfl) (Steps.refl _) (argsL := [wr sb, wi ((0 : Int32) + n), wi 0]) (rest := []) (lenOf pd_ABIB_V rfl) rfl (Nat.le_refl _) (hb hby d12_15) (fun _ _ => ⟨rfl, e103, (by decide : 0 + 0 ≤ _), (by decide : 0 + 0 ≤ _)⟩)
  dsimp only [Pt.U, Pt.locs, Pt.cells, Pt.slots] at X104 l104 y104 z104 st104 hQ104
  subst l104 y104 z104
  obtain ⟨rfl, N104q, Kc104, uV104⟩ := hQ104
  have N104 := Fr.app N101 N104q
  have y105 := ((Keep.refl h0 [sb]).trans Kc104 (allS (Or.inl (List.mem_of_getElem? (i := 0) rfl)) all0))
  obtain ⟨fs, hr, hrun, hended, hW, hsame⟩ := X104.leave (v := none) (fun _ => rfl)
  refine ⟨_, _, pre0 _ ?_, hrun, hended, _, _, rfl, ?_, ⟨_, rfl⟩, hW, hsame.mono (by decide) (by decide)⟩
  · show Go p e below s₁ (mkF m 0 #[vr a1, vi ((0 : Int32) + n), vr a3] []) _
    refine XS.aloadN X0.here hx rfl (hb hby d12_0) rfl rfl ?_
    show Go p e below s₁ (mkF m 1 #[vr a1, vi ((0 : Int32) + n), vr a3] [wr a1]) _
    refine XS.aloadN X0.here hx rfl (hb hby d12_1) rfl rfl ?_
    show Go p e below s₁ (mkF m 2 #[vr a1, vi ((0 : Int32) + n), vr a3] [wr a3, wr a1]) _
    refine st101.trans ?_
    show Go p e below T101 (mkF m 5 #[vr a1, vi ((0 : Int32) + n), vr a3] []) _
    refine XS.aloadN X101.here hx rfl (hb hby d12_5) rfl rfl ?_
    show Go p e below T101 (mkF m 6 #[vr a1, vi ((0 : Int32) + n), vr a3] [wr a3]) _
    refine XS.aloadN X101.here hx rfl (hb hby d12_6) rfl rfl ?_
    show Go p e below T101 (mkF m 7 #[vr a1, vi ((0 : Int32) + n), vr a3] [wr a1, wr a3]) _
    refine st102 _ ?_
    show Go p e below T102 (mkF m 10 #[vr a1, vi ((0 : Int32) + n), vr a3] [wr sb, wr a3]) _
    refine XS.iloadN X102.here hx rfl (hb hby d12_10) rfl ?_
    show Go p e below T102 (mkF m 11 #[vr a1, vi ((0 : Int32) + n), vr a3] [wi ((0 : Int32) + n), wr sb, wr a3]) _
    refine XS.aloadN X102.here hx rfl (hb hby d12_11) rfl rfl ?_
    show Go p e below T102 (mkF m 12 #[vr a1, vi ((0 : Int32) + n), vr a3] [wr a1, wi ((0 : Int32) + n), wr sb, wr a3]) _
    refine st103 _ ?_
    show Go p e below T103 (mkF m 15 #[vr a1, vi ((0 : Int32) + n), vr a3] [wi 0, wi ((0 : Int32) + n), wr sb, wr a3]) _
    refine st104.trans ?_
    show Go p e below T104 (mkF m 18 #[vr a1, vi ((0 : Int32) + n), vr a3] []) _
    exact X104.returnOut hx Bd.returns (hb hby d12_18) hr
  · show QGB Z sb kb (34 : Int32) (put vs2 (cpy vs1 (0 : Int32) (21 : Int32)) (((0 : Int32) + n) <<< ((0 : Int32) &&& 31)) (21 : Int32)) h0 n0 _ T104.heap _
    exact ⟨rfl, N104, y105, uV104⟩
set_option maxRecDepth 65536 in
set_option maxHeartbeats 40000000 in
theorem rmAPa_3e4f49 (l : Launch) (Z : State) (a0 : Array Value) (hw : ∀ d ∈ tables_1, d.before a0 Z = true) (ws : List Jvm.Cond) (a1 : Addr) (a2 : Addr) (n : Int32) (t : Addr) (kt : ClassId) (sb : Addr) (kb : ClassId) (vs1 : List Value) (vs2 : List Value) (G1 : Int32) (h0 : Heap) (n0 : Nat) (X00 : Old Z n0 h0) (hn : n = (0 : Int32) ∨ n = (1 : Int32) ∨ n = (2 : Int32) ∨ n = (3 : Int32)) (O2 : Sta Z Z.heap "java/lang/String" "COMPACT_STRINGS" "Z" (.int G1)) (P5 : ¬ (G1 = (0 : Int32))) (E_a2 : Exa Z h0 a2 "java/lang/String") (S_v : Fld Z h0 a2 "java/lang/String" "value" "[B" (.ref t)) (S_k : Fld Z h0 a2 "java/lang/String" "coder" "B" (.int (0 : Int32))) (V_t : Arv Z h0 t kt .byte (21 : Int32) vs1 (.int (0 : Int32))) (E_a1 : Exa Z h0 a1 "java/lang/StringBuilder") (F_v : Fld Z h0 a1 "java/lang/AbstractStringBuilder" "value" "[B" (.ref sb)) (F_k : Fld Z h0 a1 "java/lang/AbstractStringBuilder" "coder" "B" (.int (0 : Int32))) (F_c : Fld Z h0 a1 "java/lang/AbstractStringBuilder" "count" "I" (.int ((0 : Int32) + n))) (V_b : Arv Z h0 sb kb .byte (16 : Int32) vs2 (.int (0 : Int32))) (g_a1 : n0 ≤ a1) (g_sb : n0 ≤ sb) (n_as : a1 ≠ sb) (n_xa : a2 ≠ a1) (n_xs : a2 ≠ sb) (n_ta : t ≠ a1) (n_ts : t ≠ sb) :
    MetFree l mn_5 (head1 (Jvm.Cond.code mn_5 jdk_68_method_22_code 3 (some (.object "java/lang/AbstractStringBuilder")) :: ws) ({ frames := 4, cells := 1, slots := 34, locals := 62 } : Room)) (fun a U => a = #[(.ref a1), (.ref a2)] ∧ Z.Warmed39 U.vm ∧ U.heap = h0) (fun _ _ _ _ _ => True) (fun _ U o U' => ∃ rv rL, o = .returned rv ∧ QSI Z a1 (34 : Int32) (((0 : Int32) + n) + (21 : Int32)) (put (put cv_1 (cpy vs2 (0 : Int32) (16 : Int32)) (0 : Int32) (16 : Int32)) (cpy vs1 (0 : Int32) (21 : Int32)) (((0 : Int32) + n) <<< ((0 : Int32) &&& 31)) (21 : Int32)) (some (.ref a1)) h0 n0 rv U'.heap rL ∧ FrameEnd U o U' rL ({ frames := 4, cells := 1, slots := 34, locals := 62 } : Room).cells ({ frames := 4, cells := 1, slots := 34, locals := 62 } : Room).slots) := by
  refine MetFree.of_bodySF (plainFor_of_name pn_8) hisR ?_
  intro p e s m args below meth c s₁ Bd hml0 hP hK
  obtain ⟨rfl, hZ, hh⟩ := hP
  have hx := Bd.exec
  have hby := Bd.bytes
  have hml : c.maxLocals = 3 := hml0
  have hown : s.vm.findClass "java/lang/AbstractStringBuilder" = some m.cls := findClass_of_methodNamed Bd.named
  have hnm := (name_of_methodNamed Bd.named Bd.method).1
  have X0 : Stand p l e ({ frames := 4, cells := 1, slots := 34, locals := 62 } : Room) s m #[(.ref a1), (.ref a2)] below meth c s₁ [] 0 0 := Stand.of_body Bd
  have e0 : s₁.heap = h0 := by rw [← hh, Bd.state]; rfl
  have N0 := Fr.nil n0
  have pre0 : ∀ t, Steps p.tables e below (s₁.setTop (mkF m 0 #[.val (.ref a1), .val (.ref a2), .unset] [])) t → Steps p.tables e below (s₁.setTop (entryFrame m #[(.ref a1), (.ref a2)] 3)) t := fun t k => castTop (ef_8 m a1 a2) k
  obtain ⟨cq101, kq101, q101a, q101b, q101c⟩ := isOf hZ e0 E_a2
  obtain ⟨_, _, ⟨T101, L101, k101, n101⟩, -, X101, ⟨Lc101, hQ101, l101, y101, z101⟩, st101⟩ := X0.virtualBack hx (y := mn_26) (z := mn_26) hown (mvT hZ (tw hw 56 rfl)) (mvT hZ (tw hw 57 rfl)) (notFace_of_selects (args := #[]) (mvT hZ (tw hw 59 rfl))) (mvT hZ (tw hw 59 rfl)) (mvT hZ (tw hw 58 rfl)) (by decide) (backOf (W := 0) (rmLen l Z a0 hw [] a2 n t kt (21 : Int32) vs1 G1 h0 n0 X00 hn O2 P5 E_a2 S_v S_k V_t) hZ (tw hw 60 rfl) (tw hw 3 rfl) (by decide) (by decide)) q101a q101c (g := (mkF m 10 #[vr a1, vr a2, .unset] [wr a2])) rfl (by rw [hml]; rfl) (Steps.refl _) (argsL := []) (rest := []) (lenOf pd__I rfl) rfl (Nat.le_refl _) (hb hby d8_10) (fun _ _ => ⟨rfl, e0, (by decide : 0 + 0 ≤ _), (by decide : 0 + 0 ≤ _)⟩)
  dsimp only [Pt.U, Pt.locs, Pt.cells, Pt.slots] at X101 l101 y101 z101 st101 hQ101
  subst l101 y101 z101
  obtain ⟨rfl, N101q, eq101⟩ := hQ101
  have N101 := Fr.app N0 N101q
  obtain ⟨T102, X102, e102, st102⟩ := getF X101 hx hZ hown (host := "") (Or.inl (tw hw 67 rfl)) Via.refl eq101 F_c (g := (mkF m 16 #[vr a1, vr a2, vi 21] [wr a1, wr a1])) rfl rfl (hb hby d8_16)
  have lz103_a2 := E_a2.lt
  have lz103_t := V_t.lt
  have lz103_a1 := E_a1.lt
  have lz103_sb := V_b.lt
  obtain ⟨cq103, q103a, q103b⟩ := E_a1.cell
  obtain ⟨_, _, ⟨T103, L103, k103, n103⟩, -, X103, ⟨Lc103, hQ103, l103, y103, z103⟩, st103⟩ := X102.privateBack hx (y := mn_6) hown (mvT hZ (tw hw 69 rfl)) (mvT hZ (tw hw 70 rfl)) (mvT hZ (own_selP (tw hw 72 rfl) (tw hw 70 rfl) (tw hw 71 rfl) (by decide))) (Cond.privateMethod_at (mvP hZ (tw hw 71 rfl) (args := #[]))) (mvT hZ (tw hw 73 rfl)) (by decide) (backOf (W := 0) (rmEC_bab1a7 l Z a0 hw [] a1 n sb kb ((0 : Int32) + n) vs2 h0 n0 X00 hn E_a1 F_v F_k F_c V_b g_a1 g_sb n_as) hZ (tw hw 73 rfl) (tw hw 38 rfl) (by decide) (by decide)) (g := (mkF m 21 #[vr a1, vr a2, vi 21] [wi (((0 : Int32) + n) + (21 : Int32)), wr a1])) rfl (by rw [hml]; rfl) (Steps.refl _) (a := a1) (by rw [e102]; exact q103a) q103b (argsL := [wi (((0 : Int32) + n) + (21 : Int32))]) (rest := []) (lenOf pd_I_V rfl) rfl (Nat.le_refl _) (hb hby d8_21) (fun _ _ => ⟨rfl, e102, (by decide : 0 + 1 ≤ _), (by decide : 0 + 34 ≤ _)⟩)
  dsimp only [Pt.U, Pt.locs, Pt.cells, Pt.slots] at X103 l103 y103 z103 st103 hQ103
  subst l103 y103 z103
  obtain ⟨rfl, N103q, Kc103, ub103, uq103, ug103, us103, uE103, uv103, uk103, uc103, uV103⟩ := hQ103
  have N103 := Fr.app N101 N103q
  have lt_a2_ub103 : a2 < ub103 := Nat.lt_of_lt_of_le lz103_a2 us103
  have lt_t_ub103 : t < ub103 := Nat.lt_of_lt_of_le lz103_t us103
  have lt_a1_ub103 : a1 < ub103 := Nat.lt_of_lt_of_le lz103_a1 us103
  have lt_sb_ub103 : sb < ub103 := Nat.lt_of_lt_of_le lz103_sb us103
  have sz_ub103 : h0.size ≤ ub103 := Nat.le_trans (Keep.refl h0 [a1]).1 us103
  obtain ⟨T104, X104, e104, st104⟩ := getF X103 hx hZ hown (host := "") (Or.inl (tw hw 67 rfl)) Via.refl rfl uc103 (g := (mkF m 26 #[vr a1, vr a2, vi 21] [wr a1, wr a1])) rfl rfl (hb hby d8_26)
  have y105 := (E_a2.keep Kc103)
  have y106 := (S_v.keep Kc103 (own_nmc n_xa own_nm0))
  have y107 := (S_k.keep Kc103 (own_nmc n_xa own_nm0))
  have y108 := (V_t.keep Kc103 (own_nmc n_ta own_nm0))
  have y109 := ((Keep.refl h0 [a1]).trans Kc103 (allS (Or.inl (List.mem_of_getElem? (i := 0) rfl)) all0))
  have y110 := (X00.keep Kc103 (allS g_a1 all0))
  obtain ⟨cq111, q111a, q111b⟩ := uE103.cell
  obtain ⟨_, _, ⟨T111, L111, k111, n111⟩, -, X111, ⟨Lc111, hQ111, l111, y111, z111⟩, st111⟩ := X104.privateBack hx (y := mn_12) hown (mvT hZ (tw hw 74 rfl)) (mvT hZ (tw hw 75 rfl)) (mvT hZ (own_selP (tw hw 77 rfl) (tw hw 75 rfl) (tw hw 76 rfl) (by decide))) (Cond.privateMethod_at (mvP hZ (tw hw 76 rfl) (args := #[]))) (mvT hZ (tw hw 78 rfl)) (by decide) (backOf (W := 0) (rmPS_eae8bc l Z a0 hw [] a1 a2 n t kt ub103 uq103 ((0 : Int32) + n) vs1 (put cv_1 (cpy vs2 (0 : Int32) (16 : Int32)) (0 : Int32) (16 : Int32)) G1 T103.heap n0 y110 hn O2 P5 y105 y106 y107 y108 uE103 uv103 uk103 uc103 uV103 g_a1 ug103 (Nat.ne_of_lt lt_a1_ub103) rfl) hZ (tw hw 78 rfl) (tw hw 38 rfl) (by decide) (by decide)) (g := (mkF m 30 #[vr a1, vr a2, vi 21] [wr a2, wi ((0 : Int32) + n), wr a1])) rfl (by rw [hml]; rfl) (Steps.refl _) (a := a1) (by rw [e104]; exact q111a) q111b (argsL := [wi ((0 : Int32) + n), wr a2]) (rest := []) (lenOf pd_ILjava_lang_String__V rfl) rfl (Nat.le_refl _) (hb hby d8_30) (fun _ _ => ⟨rfl, e104, (by decide : 1 + 0 ≤ _), (by decide : 34 + 0 ≤ _)⟩)
  dsimp only [Pt.U, Pt.locs, Pt.cells, Pt.slots] at X111 l111 y111 z111 st111 hQ111
  subst l111 y111 z111
  obtain ⟨rfl, N111q, Kc111, uV111⟩ := hQ111
  have N111 := Fr.app N103 N111q
  have y113 := (uc103.keep Kc111 (own_nmc (Nat.ne_of_lt lt_a1_ub103) own_nm0))
  obtain ⟨T112, X112, e112, st112⟩ := getF X111 hx hZ hown (host := "") (Or.inl (tw hw 67 rfl)) Via.refl rfl y113 (g := (mkF m 35 #[vr a1, vr a2, vi 21] [wr a1, wr a1])) rfl rfl (hb hby d8_35)
  have y114 := (uE103.keep Kc111)
  obtain ⟨T115, h115, X115, e115, W115, st115⟩ := putF X112 hx hZ hown (host := "") (Or.inl (tw hw 67 rfl)) Via.refl e112 y113 y114 (Or.inl (tw hw 68 rfl)) (tw hw 29 rfl) (ty := .int) (by decide) rfl rfl (g := (mkF m 40 #[vr a1, vr a2, vi 21] [wi (((0 : Int32) + n) + (21 : Int32)), wr a1])) rfl rfl (hb hby d8_40)
  have Fw115 := y113.same W115
  have N115 := Fr.snoc X115 N111 g_a1
  have y116 := ((y109.trans Kc111 (allS (Or.inr sz_ub103) all0)).wr W115 (Or.inl (List.mem_of_getElem? (i := 0) rfl)))
  have y117 := (y114.wr W115)
  have y118 := ((uv103.keep Kc111 (own_nmc (Nat.ne_of_lt lt_a1_ub103) own_nm0)).other W115 (Or.inr (slot_ne (Or.inl (tw hw 43 rfl)) (Or.inl (tw hw 68 rfl)) (by decide) (t := (.array .byte)) (t' := .int) (by decide) (by decide))))
  have y119 := ((uk103.keep Kc111 (own_nmc (Nat.ne_of_lt lt_a1_ub103) own_nm0)).other W115 (Or.inr (slot_ne (Or.inl (tw hw 45 rfl)) (Or.inl (tw hw 68 rfl)) (by decide) (t := .byte) (t' := .int) (by decide) (by decide))))
  have y120 := (uV111.other W115 (Ne.symm (Nat.ne_of_lt lt_a1_ub103)))
  obtain ⟨fs, hr, hrun, hended, hW, hsame⟩ := X115.leave (v := some (.ref a1)) (fun h => by rw [Bd.returns] at h; cases h)
  refine ⟨_, _, pre0 _ ?_, hrun, hended, _, _, rfl, ?_, ⟨_, rfl⟩, hW, hsame.mono (by decide) (by decide)⟩
  · show Go p e below s₁ (mkF m 0 #[vr a1, vr a2, .unset] []) _
    refine XS.aloadN X0.here hx rfl (hb hby d8_0) rfl rfl ?_
    show Go p e below s₁ (mkF m 1 #[vr a1, vr a2, .unset] [wr a2]) _
    refine XS.ifnonnullYes X0.here hx rfl (pc0 := 1) (pc' := 9) rfl (hb hby d8_1) rfl (by decide) (by decide) ?_
    show Go p e below s₁ (mkF m 9 #[vr a1, vr a2, .unset] []) _
    refine XS.aloadN X0.here hx rfl (hb hby d8_9) rfl rfl ?_
    show Go p e below s₁ (mkF m 10 #[vr a1, vr a2, .unset] [wr a2]) _
    refine st101.trans ?_
    show Go p e below T101 (mkF m 13 #[vr a1, vr a2, .unset] [wi 21]) _
    refine XS.istoreN X101.here hx rfl (hb hby d8_13) rfl (l' := #[.val (.ref a1), .val (.ref a2), .val (.int (21 : Int32))]) rfl ?_
    show Go p e below T101 (mkF m 14 #[vr a1, vr a2, vi 21] []) _
    refine XS.aloadN X101.here hx rfl (hb hby d8_14) rfl rfl ?_
    show Go p e below T101 (mkF m 15 #[vr a1, vr a2, vi 21] [wr a1]) _
    refine XS.aloadN X101.here hx rfl (hb hby d8_15) rfl rfl ?_
    show Go p e below T101 (mkF m 16 #[vr a1, vr a2, vi 21] [wr a1, wr a1]) _
    refine st102 _ ?_
    show Go p e below T102 (mkF m 19 #[vr a1, vr a2, vi 21] [wi ((0 : Int32) + n), wr a1]) _
    refine XS.iloadN X102.here hx rfl (hb hby d8_19) rfl ?_
    show Go p e below T102 (mkF m 20 #[vr a1, vr a2, vi 21] [wi 21, wi ((0 : Int32) + n), wr a1]) _
    refine XS.iadd X102.here hx rfl (hb hby d8_20) rfl ?_
    show Go p e below T102 (mkF m 21 #[vr a1, vr a2, vi 21] [wi (((0 : Int32) + n) + (21 : Int32)), wr a1]) _
    refine st103.trans ?_
    show Go p e below T103 (mkF m 24 #[vr a1, vr a2, vi 21] []) _
    refine XS.aloadN X103.here hx rfl (hb hby d8_24) rfl rfl ?_
    show Go p e below T103 (mkF m 25 #[vr a1, vr a2, vi 21] [wr a1]) _
    refine XS.aloadN X103.here hx rfl (hb hby d8_25) rfl rfl ?_
    show Go p e below T103 (mkF m 26 #[vr a1, vr a2, vi 21] [wr a1, wr a1]) _
    refine st104 _ ?_
    show Go p e below T104 (mkF m 29 #[vr a1, vr a2, vi 21] [wi ((0 : Int32) + n), wr a1]) _
    refine XS.aloadN X104.here hx rfl (hb hby d8_29) rfl rfl ?_
    show Go p e below T104 (mkF m 30 #[vr a1, vr a2, vi 21] [wr a2, wi ((0 : Int32) + n), wr a1]) _
    refine st111.trans ?_
    show Go p e below T111 (mkF m 33 #[vr a1, vr a2, vi 21] []) _
    refine XS.aloadN X111.here hx rfl (hb hby d8_33) rfl rfl ?_
    show Go p e below T111 (mkF m 34 #[vr a1, vr a2, vi 21] [wr a1]) _
    refine XS.dup X111.here hx rfl (hb hby d8_34) rfl rfl ?_
    show Go p e below T111 (mkF m 35 #[vr a1, vr a2, vi 21] [wr a1, wr a1]) _
    refine st112 _ ?_
    show Go p e below T112 (mkF m 38 #[vr a1, vr a2, vi 21] [wi ((0 : Int32) + n), wr a1]) _
    refine XS.iloadN X112.here hx rfl (hb hby d8_38) rfl ?_
    show Go p e below T112 (mkF m 39 #[vr a1, vr a2, vi 21] [wi 21, wi ((0 : Int32) + n), wr a1]) _
    refine XS.iadd X112.here hx rfl (hb hby d8_39) rfl ?_
    show Go p e below T112 (mkF m 40 #[vr a1, vr a2, vi 21] [wi (((0 : Int32) + n) + (21 : Int32)), wr a1]) _
    refine st115 _ ?_
    show Go p e below T115 (mkF m 43 #[vr a1, vr a2, vi 21] []) _
    refine XS.aloadN X115.here hx rfl (hb hby d8_43) rfl rfl ?_
    show Go p e below T115 (mkF m 44 #[vr a1, vr a2, vi 21] [wr a1]) _
    jvm_step X115.here [X115.here.top, hx, (hb hby d8_44), X115.method', Bd.returns, Value.isRef, FieldType.isReference]
    first | (intro acts; rw [hr _ acts rfl rfl rfl]) | rw [hr _ _ rfl rfl rfl]
    exact Steps.refl _
  · show QSI Z a1 (34 : Int32) (((0 : Int32) + n) + (21 : Int32)) (put (put cv_1 (cpy vs2 (0 : Int32) (16 : Int32)) (0 : Int32) (16 : Int32)) (cpy vs1 (0 : Int32) (21 : Int32)) (((0 : Int32) + n) <<< ((0 : Int32) &&& 31)) (21 : Int32)) (some (.ref a1)) h0 n0 _ T115.heap _
    rw [e115]
    exact ⟨rfl, N115, y116, ub103, uq103, ug103, sz_ub103, y117, y118, y119, Fw115, y120⟩
set_option maxRecDepth 65536 in
set_option maxHeartbeats 40000000 in
theorem rmAPb_3e4f49 (l : Launch) (Z : State) (a0 : Array Value) (hw : ∀ d ∈ tables_1, d.before a0 Z = true) (ws : List Jvm.Cond) (a1 : Addr) (a2 : Addr) (n : Int32) (t : Addr) (kt : ClassId) (sb : Addr) (kb : ClassId) (vs1 : List Value) (vs2 : List Value) (G1 : Int32) (h0 : Heap) (n0 : Nat) (X00 : Old Z n0 h0) (hn : n = (0 : Int32) ∨ n = (1 : Int32) ∨ n = (2 : Int32) ∨ n = (3 : Int32)) (O2 : Sta Z Z.heap "java/lang/String" "COMPACT_STRINGS" "Z" (.int G1)) (P5 : ¬ (G1 = (0 : Int32))) (E_a2 : Exa Z h0 a2 "java/lang/String") (S_v : Fld Z h0 a2 "java/lang/String" "value" "[B" (.ref t)) (S_k : Fld Z h0 a2 "java/lang/String" "coder" "B" (.int (0 : Int32))) (V_t : Arv Z h0 t kt .byte (21 : Int32) vs1 (.int (0 : Int32))) (E_a1 : Exa Z h0 a1 "java/lang/StringBuilder") (F_v : Fld Z h0 a1 "java/lang/AbstractStringBuilder" "value" "[B" (.ref sb)) (F_k : Fld Z h0 a1 "java/lang/AbstractStringBuilder" "coder" "B" (.int (0 : Int32))) (F_c : Fld Z h0 a1 "java/lang/AbstractStringBuilder" "count" "I" (.int ((0 : Int32) + n))) (V_b : Arv Z h0 sb kb .byte (16 : Int32) vs2 (.int (0 : Int32))) (g_a1 : n0 ≤ a1) (g_sb : n0 ≤ sb) (n_as : a1 ≠ sb) (n_xa : a2 ≠ a1) (n_xs : a2 ≠ sb) (n_ta : t ≠ a1) (n_ts : t ≠ sb) :
    MetFree l mn_28 (head1 (Jvm.Cond.code mn_28 jdk_67_method_7_code 2 (some (.object "java/lang/StringBuilder")) :: ws) ({ frames := 5, cells := 1, slots := 34, locals := 76 } : Room)) (fun a U => a = #[(.ref a1), (.ref a2)] ∧ Z.Warmed39 U.vm ∧ U.heap = h0) (fun _ _ _ _ _ => True) (fun _ U o U' => ∃ rv rL, o = .returned rv ∧ QSI Z a1 (34 : Int32) (((0 : Int32) + n) + (21 : Int32)) (put (put cv_1 (cpy vs2 (0 : Int32) (16 : Int32)) (0 : Int32) (16 : Int32)) (cpy vs1 (0 : Int32) (21 : Int32)) (((0 : Int32) + n) <<< ((0 : Int32) &&& 31)) (21 : Int32)) (some (.ref a1)) h0 n0 rv U'.heap rL ∧ FrameEnd U o U' rL ({ frames := 5, cells := 1, slots := 34, locals := 76 } : Room).cells ({ frames := 5, cells := 1, slots := 34, locals := 76 } : Room).slots) := by
  refine MetFree.of_bodySF (plainFor_of_name pn_7) hisR ?_
  intro p e s m args below meth c s₁ Bd hml0 hP hK
  obtain ⟨rfl, hZ, hh⟩ := hP
  have hx := Bd.exec
  have hby := Bd.bytes
  have hml : c.maxLocals = 2 := hml0
  have hown : s.vm.findClass "java/lang/StringBuilder" = some m.cls := findClass_of_methodNamed Bd.named
  have hnm := (name_of_methodNamed Bd.named Bd.method).1
  have X0 : Stand p l e ({ frames := 5, cells := 1, slots := 34, locals := 76 } : Room) s m #[(.ref a1), (.ref a2)] below meth c s₁ [] 0 0 := Stand.of_body Bd
  have e0 : s₁.heap = h0 := by rw [← hh, Bd.state]; rfl
  have N0 := Fr.nil n0
  have pre0 : ∀ t, Steps p.tables e below (s₁.setTop (mkF m 0 #[.val (.ref a1), .val (.ref a2)] [])) t → Steps p.tables e below (s₁.setTop (entryFrame m #[(.ref a1), (.ref a2)] 2)) t := fun t k => castTop (ef_7 m a1 a2) k
  have lz101_a2 := E_a2.lt
  have lz101_t := V_t.lt
  have lz101_a1 := E_a1.lt
  have lz101_sb := V_b.lt
  obtain ⟨_, _, ⟨T101, L101, k101, n101⟩, -, X101, ⟨Lc101, hQ101, l101, y101, z101⟩, st101⟩ := superBack X0 hx hZ (y := mn_5) hown (tw hw 51 rfl) (own_sameM (y := mn_5) (y' := mn_6) rfl (tw hw 72 rfl) (tw hw 52 rfl) (by decide)) (tw hw 52 rfl) (tw hw 53 rfl) (by decide) (backOf (W := 0) (rmAPa_3e4f49 l Z a0 hw [] a1 a2 n t kt sb kb vs1 vs2 G1 h0 n0 X00 hn O2 P5 E_a2 S_v S_k V_t E_a1 F_v F_k F_c V_b g_a1 g_sb n_as n_xa n_xs n_ta n_ts ) hZ (tw hw 55 rfl) (tw hw 38 rfl) (by decide) (by decide)) e0 (Ins.self E_a1) (g := (mkF m 2 #[vr a1, vr a2] [wr a2, wr a1])) rfl (by rw [hml]; rfl) (tw hw 55 rfl) (argsL := [wr a2]) (rest := []) (lenOf pd_Ljava_lang_String__Ljava_lang_AbstractStringBuilder_ rfl) rfl (Nat.le_refl _) (hb hby d7_2) (fun _ _ => ⟨rfl, e0, (by decide : 0 + 1 ≤ _), (by decide : 0 + 34 ≤ _)⟩)
  dsimp only [Pt.U, Pt.locs, Pt.cells, Pt.slots] at X101 l101 y101 z101 st101 hQ101
  subst l101 y101 z101
  obtain ⟨rfl, N101q, Kc101, ub101, uq101, ug101, us101, uE101, uv101, uk101, uc101, uV101⟩ := hQ101
  have N101 := Fr.app N0 N101q
  have lt_a2_ub101 : a2 < ub101 := Nat.lt_of_lt_of_le lz101_a2 us101
  have lt_t_ub101 : t < ub101 := Nat.lt_of_lt_of_le lz101_t us101
  have lt_a1_ub101 : a1 < ub101 := Nat.lt_of_lt_of_le lz101_a1 us101
  have lt_sb_ub101 : sb < ub101 := Nat.lt_of_lt_of_le lz101_sb us101
  have sz_ub101 : h0.size ≤ ub101 := Nat.le_trans (Keep.refl h0 [a1]).1 us101
  have y102 := ((Keep.refl h0 [a1]).trans Kc101 (allS (Or.inl (List.mem_of_getElem? (i := 0) rfl)) all0))
  obtain ⟨fs, hr, hrun, hended, hW, hsame⟩ := X101.leave (v := some (.ref a1)) (fun h => by rw [Bd.returns] at h; cases h)
  refine ⟨_, _, pre0 _ ?_, hrun, hended, _, _, rfl, ?_, ⟨_, rfl⟩, hW, hsame.mono (by decide) (by decide)⟩
  · show Go p e below s₁ (mkF m 0 #[vr a1, vr a2] []) _
    refine XS.aloadN X0.here hx rfl (hb hby d7_0) rfl rfl ?_
    show Go p e below s₁ (mkF m 1 #[vr a1, vr a2] [wr a1]) _
    refine XS.aloadN X0.here hx rfl (hb hby d7_1) rfl rfl ?_
    show Go p e below s₁ (mkF m 2 #[vr a1, vr a2] [wr a2, wr a1]) _
    refine st101.trans ?_
    show Go p e below T101 (mkF m 5 #[vr a1, vr a2] [wr a1]) _
    refine XS.pop X101.here hx rfl (hb hby d7_5) rfl rfl ?_
    show Go p e below T101 (mkF m 6 #[vr a1, vr a2] []) _
    refine XS.aloadN X101.here hx rfl (hb hby d7_6) rfl rfl ?_
    show Go p e below T101 (mkF m 7 #[vr a1, vr a2] [wr a1]) _
    jvm_step X101.here [X101.here.top, hx, (hb hby d7_7), X101.method', Bd.returns, Value.isRef, FieldType.isReference]
    first | (intro acts; rw [hr _ acts rfl rfl rfl]) | rw [hr _ _ rfl rfl rfl]
    exact Steps.refl _
  · show QSI Z a1 (34 : Int32) (((0 : Int32) + n) + (21 : Int32)) (put (put cv_1 (cpy vs2 (0 : Int32) (16 : Int32)) (0 : Int32) (16 : Int32)) (cpy vs1 (0 : Int32) (21 : Int32)) (((0 : Int32) + n) <<< ((0 : Int32) &&& 31)) (21 : Int32)) (some (.ref a1)) h0 n0 _ T101.heap _
    exact ⟨rfl, N101, y102, ub101, uq101, ug101, sz_ub101, uE101, uv101, uk101, uc101, uV101⟩
set_option maxRecDepth 65536 in
set_option maxHeartbeats 40000000 in
theorem rmG_value (l : Launch) (Z : State) (a0 : Array Value) (hw : ∀ d ∈ tables_1, d.before a0 Z = true) (ws : List Jvm.Cond) (a1 : Addr) (n : Int32) (w : Addr) (h0 : Heap) (n0 : Nat) (X00 : Old Z n0 h0) (hn : n = (0 : Int32) ∨ n = (1 : Int32) ∨ n = (2 : Int32) ∨ n = (3 : Int32)) (E_a1 : Exa Z h0 a1 "java/lang/StringBuilder") (F : Fld Z h0 a1 "java/lang/AbstractStringBuilder" "value" "[B" (.ref w)) :
    MetFree l mn_7 (head1 (Jvm.Cond.code mn_7 jdk_68_method_64_code 1 (some (.array .byte)) :: ws) ({ frames := 0, cells := 0, slots := 0, locals := 0 } : Room)) (fun a U => a = #[(.ref a1)] ∧ Z.Warmed39 U.vm ∧ U.heap = h0) (fun _ _ _ _ _ => True) (fun _ U o U' => ∃ rv rL, o = .returned rv ∧ Qs (some (.ref w)) h0 n0 rv U'.heap rL ∧ FrameEnd U o U' rL ({ frames := 0, cells := 0, slots := 0, locals := 0 } : Room).cells ({ frames := 0, cells := 0, slots := 0, locals := 0 } : Room).slots) := by
  refine MetFree.of_bodySF (plainFor_of_name pn_23) hisR ?_
  intro p e s m args below meth c s₁ Bd hml0 hP hK
  obtain ⟨rfl, hZ, hh⟩ := hP
  have hx := Bd.exec
  have hby := Bd.bytes
  have hml : c.maxLocals = 1 := hml0
  have hown : s.vm.findClass "java/lang/AbstractStringBuilder" = some m.cls := findClass_of_methodNamed Bd.named
  have hnm := (name_of_methodNamed Bd.named Bd.method).1
  have X0 : Stand p l e ({ frames := 0, cells := 0, slots := 0, locals := 0 } : Room) s m #[(.ref a1)] below meth c s₁ [] 0 0 := Stand.of_body Bd
  have e0 : s₁.heap = h0 := by rw [← hh, Bd.state]; rfl
  have N0 := Fr.nil n0
  have pre0 : ∀ t, Steps p.tables e below (s₁.setTop (mkF m 0 #[.val (.ref a1)] [])) t → Steps p.tables e below (s₁.setTop (entryFrame m #[(.ref a1)] 1)) t := fun t k => castTop (ef_23 m a1) k
  obtain ⟨T101, X101, e101, st101⟩ := getF X0 hx hZ hown (host := "") (Or.inl (tw hw 42 rfl)) Via.refl e0 F (g := (mkF m 1 #[vr a1] [wr a1])) rfl rfl (hb hby d23_1)
  obtain ⟨fs, hr, hrun, hended, hW, hsame⟩ := X101.leave (v := some (.ref w)) (fun h => by rw [Bd.returns] at h; cases h)
  refine ⟨_, _, pre0 _ ?_, hrun, hended, _, _, rfl, ?_, ⟨_, rfl⟩, hW, hsame.mono (by decide) (by decide)⟩
  · show Go p e below s₁ (mkF m 0 #[vr a1] []) _
    refine XS.aloadN X0.here hx rfl (hb hby d23_0) rfl rfl ?_
    show Go p e below s₁ (mkF m 1 #[vr a1] [wr a1]) _
    refine st101 _ ?_
    show Go p e below T101 (mkF m 4 #[vr a1] [wr w]) _
    jvm_step X101.here [X101.here.top, hx, (hb hby d23_4), X101.method', Bd.returns, Value.isRef, FieldType.isReference]
    first | (intro acts; rw [hr _ acts rfl rfl rfl]) | rw [hr _ _ rfl rfl rfl]
    exact Steps.refl _
  · show Qs (some (.ref w)) h0 n0 _ T101.heap _
    rw [e101]
    exact ⟨rfl, N0, rfl⟩
set_option maxRecDepth 65536 in
set_option maxHeartbeats 40000000 in
theorem rmG_count (l : Launch) (Z : State) (a0 : Array Value) (hw : ∀ d ∈ tables_1, d.before a0 Z = true) (ws : List Jvm.Cond) (a1 : Addr) (n : Int32) (w : Int32) (h0 : Heap) (n0 : Nat) (X00 : Old Z n0 h0) (hn : n = (0 : Int32) ∨ n = (1 : Int32) ∨ n = (2 : Int32) ∨ n = (3 : Int32)) (E_a1 : Exa Z h0 a1 "java/lang/StringBuilder") (F : Fld Z h0 a1 "java/lang/AbstractStringBuilder" "count" "I" (.int w)) :
    MetFree l mn_10 (head1 (Jvm.Cond.code mn_10 jdk_68_method_6_code 1 (some .int) :: ws) ({ frames := 0, cells := 0, slots := 0, locals := 0 } : Room)) (fun a U => a = #[(.ref a1)] ∧ Z.Warmed39 U.vm ∧ U.heap = h0) (fun _ _ _ _ _ => True) (fun _ U o U' => ∃ rv rL, o = .returned rv ∧ Qs (some (.int w)) h0 n0 rv U'.heap rL ∧ FrameEnd U o U' rL ({ frames := 0, cells := 0, slots := 0, locals := 0 } : Room).cells ({ frames := 0, cells := 0, slots := 0, locals := 0 } : Room).slots) := by
  refine MetFree.of_bodySF (plainFor_of_name pn_25) hisR ?_
  intro p e s m args below meth c s₁ Bd hml0 hP hK
  obtain ⟨rfl, hZ, hh⟩ := hP
  have hx := Bd.exec
  have hby := Bd.bytes
  have hml : c.maxLocals = 1 := hml0
  have hown : s.vm.findClass "java/lang/AbstractStringBuilder" = some m.cls := findClass_of_methodNamed Bd.named
  have hnm := (name_of_methodNamed Bd.named Bd.method).1
  have X0 : Stand p l e ({ frames := 0, cells := 0, slots := 0, locals := 0 } : Room) s m #[(.ref a1)] below meth c s₁ [] 0 0 := Stand.of_body Bd
  have e0 : s₁.heap = h0 := by rw [← hh, Bd.state]; rfl
  have N0 := Fr.nil n0
  have pre0 : ∀ t, Steps p.tables e below (s₁.setTop (mkF m 0 #[.val (.ref a1)] [])) t → Steps p.tables e below (s₁.setTop (entryFrame m #[(.ref a1)] 1)) t := fun t k => castTop (ef_25 m a1) k
  obtain ⟨T101, X101, e101, st101⟩ := getF X0 hx hZ hown (host := "") (Or.inl (tw hw 67 rfl)) Via.refl e0 F (g := (mkF m 1 #[vr a1] [wr a1])) rfl rfl (hb hby d25_1)
  obtain ⟨fs, hr, hrun, hended, hW, hsame⟩ := X101.leave (v := some (.int w)) (fun h => by rw [Bd.returns] at h; cases h)
  refine ⟨_, _, pre0 _ ?_, hrun, hended, _, _, rfl, ?_, ⟨_, rfl⟩, hW, hsame.mono (by decide) (by decide)⟩
  · show Go p e below s₁ (mkF m 0 #[vr a1] []) _
    refine XS.aloadN X0.here hx rfl (hb hby d25_0) rfl rfl ?_
    show Go p e below s₁ (mkF m 1 #[vr a1] [wr a1]) _
    refine st101 _ ?_
    show Go p e below T101 (mkF m 4 #[vr a1] [wi w]) _
    exact retI X101 hx Bd.returns (hb hby d25_4) hr
  · show Qs (some (.int w)) h0 n0 _ T101.heap _
    rw [e101]
    exact ⟨rfl, N0, rfl⟩
set_option maxRecDepth 65536 in
set_option maxHeartbeats 40000000 in
theorem rmG_count_B (l : Launch) (Z : State) (a0 : Array Value) (hw : ∀ d ∈ tables_1, d.before a0 Z = true) (ws : List Jvm.Cond) (a1 : Addr) (n : Int32) (w : Int32) (h0 : Heap) (n0 : Nat) (X00 : Old Z n0 h0) (hn : n = (0 : Int32) ∨ n = (1 : Int32) ∨ n = (2 : Int32) ∨ n = (3 : Int32)) (E_a1 : Exa Z h0 a1 "java/lang/StringBuilder") (F : Fld Z h0 a1 "java/lang/AbstractStringBuilder" "count" "I" (.int w)) :
    MetFree l mn_29 (head1 (Jvm.Cond.code mn_29 jdk_67_method_93_code 1 (some .int) :: ws) ({ frames := 1, cells := 0, slots := 0, locals := 12 } : Room)) (fun a U => a = #[(.ref a1)] ∧ Z.Warmed39 U.vm ∧ U.heap = h0) (fun _ _ _ _ _ => True) (fun _ U o U' => ∃ rv rL, o = .returned rv ∧ Qs (some (.int w)) h0 n0 rv U'.heap rL ∧ FrameEnd U o U' rL ({ frames := 1, cells := 0, slots := 0, locals := 12 } : Room).cells ({ frames := 1, cells := 0, slots := 0, locals := 12 } : Room).slots) := by
  refine MetFree.of_bodySF (plainFor_of_name pn_24) hisR ?_
  intro p e s m args below meth c s₁ Bd hml0 hP hK
  obtain ⟨rfl, hZ, hh⟩ := hP
  have hx := Bd.exec
  have hby := Bd.bytes
  have hml : c.maxLocals = 1 := hml0
  have hown : s.vm.findClass "java/lang/StringBuilder" = some m.cls := findClass_of_methodNamed Bd.named
  have hnm := (name_of_methodNamed Bd.named Bd.method).1
  have X0 : Stand p l e ({ frames := 1, cells := 0, slots := 0, locals := 12 } : Room) s m #[(.ref a1)] below meth c s₁ [] 0 0 := Stand.of_body Bd
  have e0 : s₁.heap = h0 := by rw [← hh, Bd.state]; rfl
  have N0 := Fr.nil n0
  have pre0 : ∀ t, Steps p.tables e below (s₁.setTop (mkF m 0 #[.val (.ref a1)] [])) t → Steps p.tables e below (s₁.setTop (entryFrame m #[(.ref a1)] 1)) t := fun t k => castTop (ef_24 m a1) k
  obtain ⟨_, _, ⟨T101, L101, k101, n101⟩, -, X101, ⟨Lc101, hQ101, l101, y101, z101⟩, st101⟩ := superBack X0 hx hZ (y := mn_10) hown (tw hw 141 rfl) (own_sameM (y := mn_10) (y' := mn_6) rfl (tw hw 72 rfl) (tw hw 137 rfl) (by decide)) (tw hw 137 rfl) (tw hw 53 rfl) (by decide) (backOf (W := 0) (rmG_count l Z a0 hw [] a1 n w h0 n0 X00 hn E_a1 F) hZ (tw hw 142 rfl) (tw hw 38 rfl) (by decide) (by decide)) e0 (Ins.self E_a1) (g := (mkF m 1 #[vr a1] [wr a1])) rfl (by rw [hml]; rfl) (tw hw 142 rfl) (argsL := []) (rest := []) (lenOf pd__I rfl) rfl (Nat.le_refl _) (hb hby d24_1) (fun _ _ => ⟨rfl, e0, (by decide : 0 + 0 ≤ _), (by decide : 0 + 0 ≤ _)⟩)
  dsimp only [Pt.U, Pt.locs, Pt.cells, Pt.slots] at X101 l101 y101 z101 st101 hQ101
  subst l101 y101 z101
  obtain ⟨rfl, N101q, eq101⟩ := hQ101
  have N101 := Fr.app N0 N101q
  obtain ⟨fs, hr, hrun, hended, hW, hsame⟩ := X101.leave (v := some (.int w)) (fun h => by rw [Bd.returns] at h; cases h)
  refine ⟨_, _, pre0 _ ?_, hrun, hended, _, _, rfl, ?_, ⟨_, rfl⟩, hW, hsame.mono (by decide) (by decide)⟩
  · show Go p e below s₁ (mkF m 0 #[vr a1] []) _
    refine XS.aloadN X0.here hx rfl (hb hby d24_0) rfl rfl ?_
    show Go p e below s₁ (mkF m 1 #[vr a1] [wr a1]) _
    refine st101.trans ?_
    show Go p e below T101 (mkF m 4 #[vr a1] [wi w]) _
    exact retI X101 hx Bd.returns (hb hby d24_4) hr
  · show Qs (some (.int w)) h0 n0 _ T101.heap _
    rw [eq101]
    exact ⟨rfl, N101, rfl⟩
set_option maxRecDepth 65536 in
set_option maxHeartbeats 40000000 in
theorem rmISL (l : Launch) (Z : State) (a0 : Array Value) (hw : ∀ d ∈ tables_1, d.before a0 Z = true) (ws : List Jvm.Cond) (a1 : Addr) (n : Int32) (G1 : Int32) (h0 : Heap) (n0 : Nat) (X00 : Old Z n0 h0) (hn : n = (0 : Int32) ∨ n = (1 : Int32) ∨ n = (2 : Int32) ∨ n = (3 : Int32)) (O2 : Sta Z Z.heap "java/lang/String" "COMPACT_STRINGS" "Z" (.int G1)) (P5 : ¬ (G1 = (0 : Int32))) (F_k : Fld Z h0 a1 "java/lang/AbstractStringBuilder" "coder" "B" (.int (0 : Int32))) :
    MetFree l mn_9 (head1 (Jvm.Cond.code mn_9 jdk_68_method_68_code 1 (some .boolean) :: ws) ({ frames := 0, cells := 0, slots := 0, locals := 0 } : Room)) (fun a U => a = #[(.ref a1)] ∧ Z.Warmed39 U.vm ∧ U.heap = h0) (fun _ _ _ _ _ => True) (fun _ U o U' => ∃ rv rL, o = .returned rv ∧ Qs (some (.int (1 : Int32))) h0 n0 rv U'.heap rL ∧ FrameEnd U o U' rL ({ frames := 0, cells := 0, slots := 0, locals := 0 } : Room).cells ({ frames := 0, cells := 0, slots := 0, locals := 0 } : Room).slots) := by
  refine MetFree.of_bodySF (plainFor_of_name pn_26) hisR ?_
  intro p e s m args below meth c s₁ Bd hml0 hP hK
  obtain ⟨rfl, hZ, hh⟩ := hP
  have hx := Bd.exec
  have hby := Bd.bytes
  have hml : c.maxLocals = 1 := hml0
  have hown : s.vm.findClass "java/lang/AbstractStringBuilder" = some m.cls := findClass_of_methodNamed Bd.named
  have hnm := (name_of_methodNamed Bd.named Bd.method).1
  have X0 : Stand p l e ({ frames := 0, cells := 0, slots := 0, locals := 0 } : Room) s m #[(.ref a1)] below meth c s₁ [] 0 0 := Stand.of_body Bd
  have e0 : s₁.heap = h0 := by rw [← hh, Bd.state]; rfl
  have N0 := Fr.nil n0
  have pre0 : ∀ t, Steps p.tables e below (s₁.setTop (mkF m 0 #[.val (.ref a1)] [])) t → Steps p.tables e below (s₁.setTop (entryFrame m #[(.ref a1)] 1)) t := fun t k => castTop (ef_26 m a1) k
  obtain ⟨T101, X101, e101, st101⟩ := getS2 X0 hx hZ hown (host := "") (Or.inl (tw hw 41 rfl)) Via.refl e0 (O2.ext X00.2) (g := (mkF m 0 #[vr a1] [])) rfl (hb hby d26_0)
  have hc3 : ¬ (G1 = (0 : Int32)) := P5
  obtain ⟨T102, X102, e102, st102⟩ := getF X101 hx hZ hown (host := "") (Or.inl (tw hw 44 rfl)) Via.refl e101 F_k (g := (mkF m 7 #[vr a1] [wr a1])) rfl rfl (hb hby d26_7)
  obtain ⟨fs, hr, hrun, hended, hW, hsame⟩ := X102.leave (v := some (.int (1 : Int32))) (fun h => by rw [Bd.returns] at h; cases h)
  refine ⟨_, _, pre0 _ ?_, hrun, hended, _, _, rfl, ?_, ⟨_, rfl⟩, hW, hsame.mono (by decide) (by decide)⟩
  · show Go p e below s₁ (mkF m 0 #[vr a1] []) _
    refine st101 _ ?_
    show Go p e below T101 (mkF m 3 #[vr a1] [wi G1]) _
    refine XS.ifNo X101.here hx rfl (hb hby d26_3) rfl ((if0 _ _).trans (feq hc3).1) ?_
    show Go p e below T101 (mkF m 6 #[vr a1] []) _
    refine XS.aloadN X101.here hx rfl (hb hby d26_6) rfl rfl ?_
    show Go p e below T101 (mkF m 7 #[vr a1] [wr a1]) _
    refine st102 _ ?_
    show Go p e below T102 (mkF m 10 #[vr a1] [wi 0]) _
    refine XS.ifNo X102.here hx rfl (hb hby d26_10) rfl ((if0 _ _).trans (teq (rfl : (0 : Int32) = (0 : Int32))).2) ?_
    show Go p e below T102 (mkF m 13 #[vr a1] []) _
    refine XS.iconst X102.here hx rfl (hb hby d26_13) ?_
    show Go p e below T102 (mkF m 14 #[vr a1] [wi 1]) _
    refine XS.goto X102.here hx rfl (pc0 := 14) (pc' := 18) rfl (hb hby d26_14) (by decide) (by decide) ?_
    show Go p e below T102 (mkF m 18 #[vr a1] [wi 1]) _
    exact retN X102 hx (t := .boolean) Bd.returns (by simp) (hb hby d26_18) hr
  · show Qs (some (.int (1 : Int32))) h0 n0 _ T102.heap _
    rw [e102]
    exact ⟨rfl, N0, rfl⟩
set_option maxRecDepth 65536 in
set_option maxHeartbeats 40000000 in
theorem rm_checkLength_14faa6 (l : Launch) (Z : State) (a0 : Array Value) (hw : ∀ d ∈ tables_1, d.before a0 Z = true) (ws : List Jvm.Cond) (n : Int32) (h0 : Heap) (n0 : Nat) (X00 : Old Z n0 h0) (hn : n = (0 : Int32) ∨ n = (1 : Int32) ∨ n = (2 : Int32) ∨ n = (3 : Int32)) :
    MetFree l mn_41 (head1 (Jvm.Cond.code mn_41 jdk_65_method_131_code 2 none :: ws) ({ frames := 0, cells := 0, slots := 0, locals := 0 } : Room)) (fun a U => a = #[(.int (0 : Int32)), (.int (((0 : Int32) + n) + (21 : Int32)))] ∧ Z.Warmed39 U.vm ∧ U.heap = h0) (fun _ _ _ _ _ => True) (fun _ U o U' => ∃ rv rL, o = .returned rv ∧ Qs none h0 n0 rv U'.heap rL ∧ FrameEnd U o U' rL ({ frames := 0, cells := 0, slots := 0, locals := 0 } : Room).cells ({ frames := 0, cells := 0, slots := 0, locals := 0 } : Room).slots) := by
  refine MetFree.of_bodySF (plainFor_of_name pn_29) hisR ?_
  intro p e s m args below meth c s₁ Bd hml0 hP hK
  obtain ⟨rfl, hZ, hh⟩ := hP
  have hx := Bd.exec
  have hby := Bd.bytes
  have hml : c.maxLocals = 2 := hml0
  have hown : s.vm.findClass "java/util/Arrays" = some m.cls := findClass_of_methodNamed Bd.named
  have hnm := (name_of_methodNamed Bd.named Bd.method).1
  have X0 : Stand p l e ({ frames := 0, cells := 0, slots := 0, locals := 0 } : Room) s m #[(.int (0 : Int32)), (.int (((0 : Int32) + n) + (21 : Int32)))] below meth c s₁ [] 0 0 := Stand.of_body Bd
  have e0 : s₁.heap = h0 := by rw [← hh, Bd.state]; rfl
  have N0 := Fr.nil n0
  have pre0 : ∀ t, Steps p.tables e below (s₁.setTop (mkF m 0 #[.val (.int (0 : Int32)), .val (.int (((0 : Int32) + n) + (21 : Int32)))] [])) t → Steps p.tables e below (s₁.setTop (entryFrame m #[(.int (0 : Int32)), (.int (((0 : Int32) + n) + (21 : Int32)))] 2)) t := fun t k => castTop (ef_29 m (0 : Int32) (((0 : Int32) + n) + (21 : Int32))) k
  obtain ⟨fs, hr, hrun, hended, hW, hsame⟩ := X0.leave (v := none) (fun _ => rfl)
  refine ⟨_, _, pre0 _ ?_, hrun, hended, _, _, rfl, ?_, ⟨_, rfl⟩, hW, hsame.mono (by decide) (by decide)⟩
  · show Go p e below s₁ (mkF m 0 #[vi 0, vi (((0 : Int32) + n) + (21 : Int32))] []) _
    refine XS.iloadN X0.here hx rfl (hb hby d29_0) rfl ?_
    show Go p e below s₁ (mkF m 1 #[vi 0, vi (((0 : Int32) + n) + (21 : Int32))] [wi (((0 : Int32) + n) + (21 : Int32))]) _
    refine XS.iloadN X0.here hx rfl (hb hby d29_1) rfl ?_
    show Go p e below s₁ (mkF m 2 #[vi 0, vi (((0 : Int32) + n) + (21 : Int32))] [wi 0, wi (((0 : Int32) + n) + (21 : Int32))]) _
    refine XS.icmpYes X0.here hx rfl (pc0 := 2) (pc' := 37) rfl (hb hby d29_2) rfl (flt (own_4 (P := fun n => ¬ ((((0 : Int32) + n) + (21 : Int32)) < (0 : Int32))) hn (by decide) : ¬ ((((0 : Int32) + n) + (21 : Int32)) < (0 : Int32)))).2.1 (by decide) (by decide) ?_
    show Go p e below s₁ (mkF m 37 #[vi 0, vi (((0 : Int32) + n) + (21 : Int32))] []) _
    exact X0.returnOut hx Bd.returns (hb hby d29_37) hr
  · show Qs none h0 n0 _ s₁.heap _
    rw [e0]
    exact ⟨rfl, N0, rfl⟩
set_option maxRecDepth 65536 in
set_option maxHeartbeats 40000000 in
theorem rm_min_d418ac (l : Launch) (Z : State) (a0 : Array Value) (hw : ∀ d ∈ tables_1, d.before a0 Z = true) (ws : List Jvm.Cond) (n : Int32) (h0 : Heap) (n0 : Nat) (X00 : Old Z n0 h0) (hn : n = (0 : Int32) ∨ n = (1 : Int32) ∨ n = (2 : Int32) ∨ n = (3 : Int32)) :
    MetFree l mn_15 (head1 (Jvm.Cond.code mn_15 jdk_29_method_69_code 2 (some .int) :: ws) ({ frames := 0, cells := 0, slots := 0, locals := 0 } : Room)) (fun a U => a = #[(.int (34 : Int32)), (.int ((((0 : Int32) + n) + (21 : Int32)) - (0 : Int32)))] ∧ Z.Warmed39 U.vm ∧ U.heap = h0) (fun _ _ _ _ _ => True) (fun _ U o U' => ∃ rv rL, o = .returned rv ∧ Qs (some (.int ((((0 : Int32) + n) + (21 : Int32)) - (0 : Int32)))) h0 n0 rv U'.heap rL ∧ FrameEnd U o U' rL ({ frames := 0, cells := 0, slots := 0, locals := 0 } : Room).cells ({ frames := 0, cells := 0, slots := 0, locals := 0 } : Room).slots) := by
  refine MetFree.of_bodySF (Jvm.Free.JP.mathPlain rfl (by decide +kernel)) hisR ?_
  intro p e s m args below meth c s₁ Bd hml0 hP hK
  obtain ⟨rfl, hZ, hh⟩ := hP
  have hx := Bd.exec
  have hby := Bd.bytes
  have hml : c.maxLocals = 2 := hml0
  have hown : s.vm.findClass "java/lang/Math" = some m.cls := findClass_of_methodNamed Bd.named
  have hnm := (name_of_methodNamed Bd.named Bd.method).1
  have X0 : Stand p l e ({ frames := 0, cells := 0, slots := 0, locals := 0 } : Room) s m #[(.int (34 : Int32)), (.int ((((0 : Int32) + n) + (21 : Int32)) - (0 : Int32)))] below meth c s₁ [] 0 0 := Stand.of_body Bd
  have e0 : s₁.heap = h0 := by rw [← hh, Bd.state]; rfl
  have N0 := Fr.nil n0
  have pre0 : ∀ t, Steps p.tables e below (s₁.setTop (mkF m 0 #[.val (.int (34 : Int32)), .val (.int ((((0 : Int32) + n) + (21 : Int32)) - (0 : Int32)))] [])) t → Steps p.tables e below (s₁.setTop (entryFrame m #[(.int (34 : Int32)), (.int ((((0 : Int32) + n) + (21 : Int32)) - (0 : Int32)))] 2)) t := fun t k => castTop (ef_19 m (34 : Int32) ((((0 : Int32) + n) + (21 : Int32)) - (0 : Int32))) k
  obtain ⟨fs, hr, hrun, hended, hW, hsame⟩ := X0.leave (v := some (.int ((((0 : Int32) + n) + (21 : Int32)) - (0 : Int32)))) (fun h => by rw [Bd.returns] at h; cases h)
  refine ⟨_, _, pre0 _ ?_, hrun, hended, _, _, rfl, ?_, ⟨_, rfl⟩, hW, hsame.mono (by decide) (by decide)⟩
  · show Go p e below s₁ (mkF m 0 #[vi 34, vi ((((0 : Int32) + n) + (21 : Int32)) - (0 : Int32))] []) _
    refine XS.iloadN X0.here hx rfl (hb hby d19_0) rfl ?_
    show Go p e below s₁ (mkF m 1 #[vi 34, vi ((((0 : Int32) + n) + (21 : Int32)) - (0 : Int32))] [wi 34]) _
    refine XS.iloadN X0.here hx rfl (hb hby d19_1) rfl ?_
    show Go p e below s₁ (mkF m 2 #[vi 34, vi ((((0 : Int32) + n) + (21 : Int32)) - (0 : Int32))] [wi ((((0 : Int32) + n) + (21 : Int32)) - (0 : Int32)), wi 34]) _
    refine XS.icmpYes X0.here hx rfl (pc0 := 2) (pc' := 9) rfl (hb hby d19_2) rfl (tlt (own_4 (P := fun n => ((((0 : Int32) + n) + (21 : Int32)) - (0 : Int32)) < (34 : Int32)) hn (by decide) : ((((0 : Int32) + n) + (21 : Int32)) - (0 : Int32)) < (34 : Int32))).2.2.1 (by decide) (by decide) ?_
    show Go p e below s₁ (mkF m 9 #[vi 34, vi ((((0 : Int32) + n) + (21 : Int32)) - (0 : Int32))] []) _
    refine XS.iloadN X0.here hx rfl (hb hby d19_9) rfl ?_
    show Go p e below s₁ (mkF m 10 #[vi 34, vi ((((0 : Int32) + n) + (21 : Int32)) - (0 : Int32))] [wi ((((0 : Int32) + n) + (21 : Int32)) - (0 : Int32))]) _
    exact retI X0 hx Bd.returns (hb hby d19_10) hr
  · show Qs (some (.int ((((0 : Int32) + n) + (21 : Int32)) - (0 : Int32)))) h0 n0 _ s₁.heap _
    rw [e0]
    exact ⟨rfl, N0, rfl⟩
set_option maxRecDepth 65536 in
set_option maxHeartbeats 40000000 in
theorem rm_copyOfRangeByte_54a8f9 (l : Launch) (Z : State) (a0 : Array Value) (hw : ∀ d ∈ tables_1, d.before a0 Z = true) (ws : List Jvm.Cond) (a1 : Addr) (n : Int32) (ka : ClassId) (vs2 : List Value) (h0 : Heap) (n0 : Nat) (X00 : Old Z n0 h0) (hn : n = (0 : Int32) ∨ n = (1 : Int32) ∨ n = (2 : Int32) ∨ n = (3 : Int32)) (V_a : Arv Z h0 a1 ka .byte (34 : Int32) vs2 (.int (0 : Int32))) :
    MetFree l mn_44 (head1 (Jvm.Cond.code mn_44 jdk_65_method_133_code 5 (some (.array .byte)) :: ws) ({ frames := 1, cells := 1, slots := 24, locals := 18 } : Room)) (fun a U => a = #[(.ref a1), (.int (0 : Int32)), (.int (((0 : Int32) + n) + (21 : Int32)))] ∧ Z.Warmed39 U.vm ∧ U.heap = h0) (fun _ _ _ _ _ => True) (fun _ U o U' => ∃ rv rL, o = .returned rv ∧ QAr Z ((((0 : Int32) + n) + (21 : Int32)) - (0 : Int32)) (put (List.replicate ((((0 : Int32) + n) + (21 : Int32)) - (0 : Int32)).toNatClampNeg (Value.int (0 : Int32))) (cpy vs2 (0 : Int32) ((((0 : Int32) + n) + (21 : Int32)) - (0 : Int32))) (0 : Int32) ((((0 : Int32) + n) + (21 : Int32)) - (0 : Int32))) h0 n0 rv U'.heap rL ∧ FrameEnd U o U' rL ({ frames := 1, cells := 1, slots := 24, locals := 18 } : Room).cells ({ frames := 1, cells := 1, slots := 24, locals := 18 } : Room).slots) := by
  refine MetFree.of_bodySF (plainFor_of_name pn_28) hisR ?_
  intro p e s m args below meth c s₁ Bd hml0 hP hK
  obtain ⟨rfl, hZ, hh⟩ := hP
  have hx := Bd.exec
  have hby := Bd.bytes
  have hml : c.maxLocals = 5 := hml0
  have hown : s.vm.findClass "java/util/Arrays" = some m.cls := findClass_of_methodNamed Bd.named
  have hnm := (name_of_methodNamed Bd.named Bd.method).1
  have X0 : Stand p l e ({ frames := 1, cells := 1, slots := 24, locals := 18 } : Room) s m #[(.ref a1), (.int (0 : Int32)), (.int (((0 : Int32) + n) + (21 : Int32)))] below meth c s₁ [] 0 0 := Stand.of_body Bd
  have e0 : s₁.heap = h0 := by rw [← hh, Bd.state]; rfl
  have N0 := Fr.nil n0
  have pre0 : ∀ t, Steps p.tables e below (s₁.setTop (mkF m 0 #[.val (.ref a1), .val (.int (0 : Int32)), .val (.int (((0 : Int32) + n) + (21 : Int32))), .unset, .unset] [])) t → Steps p.tables e below (s₁.setTop (entryFrame m #[(.ref a1), (.int (0 : Int32)), (.int (((0 : Int32) + n) + (21 : Int32)))] 5)) t := fun t k => castTop (ef_28 m a1 (0 : Int32) (((0 : Int32) + n) + (21 : Int32))) k
  obtain ⟨_, _, ⟨T101, L101, k101, n101⟩, -, X101, ⟨Lc101, hQ101, l101, y101, z101⟩, st101⟩ := Jvm.LawKit.callS X0 hx (y := mn_41) hown (mvT hZ (tw hw 154 rfl)) (mvT hZ (tw hw 155 rfl)) (mvT hZ (tw hw 112 rfl)) (mvT hZ (tw hw 156 rfl)) (by decide) (backOf (W := 0) (rm_checkLength_14faa6 l Z a0 hw []  n  h0 n0 X00 hn ) hZ (tw hw 156 rfl) (tw hw 112 rfl) (by decide) (by decide)) (g := (mkF m 2 #[vr a1, vi 0, vi (((0 : Int32) + n) + (21 : Int32)), .unset, .unset] [wi (((0 : Int32) + n) + (21 : Int32)), wi 0])) rfl (by rw [hml]; rfl) (argsL := [wi 0, wi (((0 : Int32) + n) + (21 : Int32))]) (rest := []) (lenOf pd_II_V rfl) rfl (Nat.le_refl _) (hb hby d28_2) (fun _ _ => ⟨rfl, e0, (by decide : 0 + 0 ≤ _), (by decide : 0 + 0 ≤ _)⟩)
  dsimp only [Pt.U, Pt.locs, Pt.cells, Pt.slots] at X101 l101 y101 z101 st101 hQ101
  subst l101 y101 z101
  obtain ⟨rfl, N101q, eq101⟩ := hQ101
  have N101 := Fr.app N0 N101q
  have lz102_a1 := V_a.lt
  obtain ⟨T102, h102, k102, X102, e102, E102, A102, st102⟩ := newP X101 hx hZ (tw hw 15 rfl) eq101 (g := (mkF m 10 #[vr a1, vi 0, vi (((0 : Int32) + n) + (21 : Int32)), vi ((((0 : Int32) + n) + (21 : Int32)) - (0 : Int32)), .unset] [wi ((((0 : Int32) + n) + (21 : Int32)) - (0 : Int32))])) rfl (hb hby d28_10) rfl (own_4 (P := fun n => ¬ ((((0 : Int32) + n) + (21 : Int32)) - (0 : Int32)) < 0) hn (by decide) : ¬ ((((0 : Int32) + n) + (21 : Int32)) - (0 : Int32)) < 0) (cap := 24) (own_4 (P := fun n => ((((0 : Int32) + n) + (21 : Int32)) - (0 : Int32)).toNatClampNeg ≤ 24) hn (by decide) : ((((0 : Int32) + n) + (21 : Int32)) - (0 : Int32)).toNatClampNeg ≤ 24) (by decide) (by decide) (by decide)
  obtain ⟨b102, g102⟩ : ∃ z, z = h0.size := ⟨_, rfl⟩
  rw [← g102] at A102 st102
  have g_b102 : n0 ≤ b102 := Nat.le_trans (own_le X00) (Nat.le_of_eq g102.symm)
  have lt_a1_b102 : a1 < b102 := Nat.lt_of_lt_of_le lz102_a1 (Nat.le_of_eq g102.symm)
  have sz_b102 : h0.size ≤ b102 := Nat.le_trans (Keep.refl h0 []).1 (Nat.le_of_eq g102.symm)
  have V102 : Arv Z h102 b102 k102 .byte ((((0 : Int32) + n) + (21 : Int32)) - (0 : Int32)) (List.replicate ((((0 : Int32) + n) + (21 : Int32)) - (0 : Int32)).toNatClampNeg (Value.int (0 : Int32))) (Value.int (0 : Int32)) := (Arv.new A102 (own_4 (P := fun n => ¬ ((((0 : Int32) + n) + (21 : Int32)) - (0 : Int32)) < 0) hn (by decide) : ¬ ((((0 : Int32) + n) + (21 : Int32)) - (0 : Int32)) < 0)).pad (pad_rep [] (Value.int (0 : Int32)) _)
  have y103 := (V_a.ext E102)
  obtain ⟨cl104, Ar104, q104, S104, M104, H104, G104⟩ := id y103
  have y105 := ((Keep.refl h0 []).ext E102)
  have y106 := (X00.ext E102)
  obtain ⟨_, _, ⟨T107, L107, k107, n107⟩, -, X107, ⟨Lc107, hQ107, l107, y107, z107⟩, st107⟩ := Jvm.LawKit.callS X102 hx (y := mn_15) hown (mvT hZ (tw hw 114 rfl)) (mvT hZ (tw hw 115 rfl)) (mvT hZ (tw hw 106 rfl)) (mvT hZ (tw hw 116 rfl)) (by decide) (backOf (W := 4) (rm_min_d418ac l Z a0 hw []  n  h102 n0 y106 hn ) hZ (tw hw 116 rfl) (tw hw 106 rfl) (by decide) (by decide)) (g := (mkF m 24 #[vr a1, vi 0, vi (((0 : Int32) + n) + (21 : Int32)), vi ((((0 : Int32) + n) + (21 : Int32)) - (0 : Int32)), vr b102] [wi ((((0 : Int32) + n) + (21 : Int32)) - (0 : Int32)), wi 34, wi 0, wr b102, wi 0, wr a1])) rfl (by rw [hml]; rfl) (argsL := [wi 34, wi ((((0 : Int32) + n) + (21 : Int32)) - (0 : Int32))]) (rest := [wi 0, wr b102, wi 0, wr a1]) (lenOf pd_II_I rfl) rfl (Nat.le_refl _) (hb hby d28_24) (fun _ _ => ⟨rfl, e102, (by decide : 1 + 0 ≤ _), (by decide : 24 + 0 ≤ _)⟩)
  dsimp only [Pt.U, Pt.locs, Pt.cells, Pt.slots] at X107 l107 y107 z107 st107 hQ107
  subst l107 y107 z107
  obtain ⟨rfl, N107q, eq107⟩ := hQ107
  have N107 := Fr.app N101 N107q
  obtain ⟨T108, h108, L108, X108, e108, N108, Kc108, V108q, st108⟩ := cpA (us := (cpy vs2 (0 : Int32) ((((0 : Int32) + n) + (21 : Int32)) - (0 : Int32)))) X107 hx hZ hown (tw hw 117 rfl) (tw hw 93 rfl) (tw hw 91 rfl) (tw hw 92 rfl) eq107 y103 V102 (Or.inl ⟨rfl, rfl⟩) (by decide : ¬ (0 : Int32) < 0) (by decide : ¬ (0 : Int32) < 0) (own_4 (P := fun n => ¬ ((((0 : Int32) + n) + (21 : Int32)) - (0 : Int32)) < 0) hn (by decide) : ¬ ((((0 : Int32) + n) + (21 : Int32)) - (0 : Int32)) < 0) (own_4 (P := fun n => (0 : Int32).toNatClampNeg + ((((0 : Int32) + n) + (21 : Int32)) - (0 : Int32)).toNatClampNeg ≤ (34 : Int32).toNatClampNeg) hn (by decide) : (0 : Int32).toNatClampNeg + ((((0 : Int32) + n) + (21 : Int32)) - (0 : Int32)).toNatClampNeg ≤ (34 : Int32).toNatClampNeg) (own_4 (P := fun n => (0 : Int32).toNatClampNeg + ((((0 : Int32) + n) + (21 : Int32)) - (0 : Int32)).toNatClampNeg ≤ ((((0 : Int32) + n) + (21 : Int32)) - (0 : Int32)).toNatClampNeg) hn (by decide) : (0 : Int32).toNatClampNeg + ((((0 : Int32) + n) + (21 : Int32)) - (0 : Int32)).toNatClampNeg ≤ ((((0 : Int32) + n) + (21 : Int32)) - (0 : Int32)).toNatClampNeg) rfl (Nat.le_trans (own_4 (P := fun n => (0 : Int32).toNatClampNeg + ((((0 : Int32) + n) + (21 : Int32)) - (0 : Int32)).toNatClampNeg ≤ ((((0 : Int32) + n) + (21 : Int32)) - (0 : Int32)).toNatClampNeg) hn (by decide) : (0 : Int32).toNatClampNeg + ((((0 : Int32) + n) + (21 : Int32)) - (0 : Int32)).toNatClampNeg ≤ ((((0 : Int32) + n) + (21 : Int32)) - (0 : Int32)).toNatClampNeg) (Nat.le_of_eq (List.length_replicate : List.length (List.replicate ((((0 : Int32) + n) + (21 : Int32)) - (0 : Int32)).toNatClampNeg (Value.int (0 : Int32))) = ((((0 : Int32) + n) + (21 : Int32)) - (0 : Int32)).toNatClampNeg).symm)) N107 g_b102 (g := (mkF m 27 #[vr a1, vi 0, vi (((0 : Int32) + n) + (21 : Int32)), vi ((((0 : Int32) + n) + (21 : Int32)) - (0 : Int32)), vr b102] [wi ((((0 : Int32) + n) + (21 : Int32)) - (0 : Int32)), wi 0, wr b102, wi 0, wr a1])) rfl (by rw [hml]; rfl) rfl (hb hby d28_27) (by decide) (W := 0) (Nat.le_refl _) (by decide)
  have V108 : Arv Z h108 b102 k102 .byte ((((0 : Int32) + n) + (21 : Int32)) - (0 : Int32)) (put (List.replicate ((((0 : Int32) + n) + (21 : Int32)) - (0 : Int32)).toNatClampNeg (Value.int (0 : Int32))) (cpy vs2 (0 : Int32) ((((0 : Int32) + n) + (21 : Int32)) - (0 : Int32))) (0 : Int32) ((((0 : Int32) + n) + (21 : Int32)) - (0 : Int32))) (.int (0 : Int32)) := V108q
  have y109 := (y105.trans Kc108 (allS (Or.inr sz_b102) all0))
  obtain ⟨fs, hr, hrun, hended, hW, hsame⟩ := X108.leave (v := some (.ref b102)) (fun h => by rw [Bd.returns] at h; cases h)
  refine ⟨_, _, pre0 _ ?_, hrun, hended, _, _, rfl, ?_, ⟨_, rfl⟩, hW, hsame.mono (by decide) (by decide)⟩
  · show Go p e below s₁ (mkF m 0 #[vr a1, vi 0, vi (((0 : Int32) + n) + (21 : Int32)), .unset, .unset] []) _
    refine XS.iloadN X0.here hx rfl (hb hby d28_0) rfl ?_
    show Go p e below s₁ (mkF m 1 #[vr a1, vi 0, vi (((0 : Int32) + n) + (21 : Int32)), .unset, .unset] [wi 0]) _
    refine XS.iloadN X0.here hx rfl (hb hby d28_1) rfl ?_
    show Go p e below s₁ (mkF m 2 #[vr a1, vi 0, vi (((0 : Int32) + n) + (21 : Int32)), .unset, .unset] [wi (((0 : Int32) + n) + (21 : Int32)), wi 0]) _
    refine st101 _ ?_
    show Go p e below T101 (mkF m 5 #[vr a1, vi 0, vi (((0 : Int32) + n) + (21 : Int32)), .unset, .unset] []) _
    refine XS.iloadN X101.here hx rfl (hb hby d28_5) rfl ?_
    show Go p e below T101 (mkF m 6 #[vr a1, vi 0, vi (((0 : Int32) + n) + (21 : Int32)), .unset, .unset] [wi (((0 : Int32) + n) + (21 : Int32))]) _
    refine XS.iloadN X101.here hx rfl (hb hby d28_6) rfl ?_
    show Go p e below T101 (mkF m 7 #[vr a1, vi 0, vi (((0 : Int32) + n) + (21 : Int32)), .unset, .unset] [wi 0, wi (((0 : Int32) + n) + (21 : Int32))]) _
    refine XS.isub X101.here hx rfl (hb hby d28_7) rfl ?_
    show Go p e below T101 (mkF m 8 #[vr a1, vi 0, vi (((0 : Int32) + n) + (21 : Int32)), .unset, .unset] [wi ((((0 : Int32) + n) + (21 : Int32)) - (0 : Int32))]) _
    refine XS.istoreN X101.here hx rfl (hb hby d28_8) rfl (l' := #[.val (.ref a1), .val (.int (0 : Int32)), .val (.int (((0 : Int32) + n) + (21 : Int32))), .val (.int ((((0 : Int32) + n) + (21 : Int32)) - (0 : Int32))), .unset]) rfl ?_
    show Go p e below T101 (mkF m 9 #[vr a1, vi 0, vi (((0 : Int32) + n) + (21 : Int32)), vi ((((0 : Int32) + n) + (21 : Int32)) - (0 : Int32)), .unset] []) _
    refine XS.iloadN X101.here hx rfl (hb hby d28_9) rfl ?_
    show Go p e below T101 (mkF m 10 #[vr a1, vi 0, vi (((0 : Int32) + n) + (21 : Int32)), vi ((((0 : Int32) + n) + (21 : Int32)) - (0 : Int32)), .unset] [wi ((((0 : Int32) + n) + (21 : Int32)) - (0 : Int32))]) _
    refine st102 _ ?_
    show Go p e below T102 (mkF m 12 #[vr a1, vi 0, vi (((0 : Int32) + n) + (21 : Int32)), vi ((((0 : Int32) + n) + (21 : Int32)) - (0 : Int32)), .unset] [wr b102]) _
    refine XS.astore X102.here hx rfl (hb hby d28_12) rfl rfl (l' := #[.val (.ref a1), .val (.int (0 : Int32)), .val (.int (((0 : Int32) + n) + (21 : Int32))), .val (.int ((((0 : Int32) + n) + (21 : Int32)) - (0 : Int32))), .val (.ref b102)]) rfl ?_
    show Go p e below T102 (mkF m 14 #[vr a1, vi 0, vi (((0 : Int32) + n) + (21 : Int32)), vi ((((0 : Int32) + n) + (21 : Int32)) - (0 : Int32)), vr b102] []) _
    refine XS.aloadN X102.here hx rfl (hb hby d28_14) rfl rfl ?_
    show Go p e below T102 (mkF m 15 #[vr a1, vi 0, vi (((0 : Int32) + n) + (21 : Int32)), vi ((((0 : Int32) + n) + (21 : Int32)) - (0 : Int32)), vr b102] [wr a1]) _
    refine XS.iloadN X102.here hx rfl (hb hby d28_15) rfl ?_
    show Go p e below T102 (mkF m 16 #[vr a1, vi 0, vi (((0 : Int32) + n) + (21 : Int32)), vi ((((0 : Int32) + n) + (21 : Int32)) - (0 : Int32)), vr b102] [wi 0, wr a1]) _
    refine XS.aload X102.here hx rfl (hb hby d28_16) rfl rfl ?_
    show Go p e below T102 (mkF m 18 #[vr a1, vi 0, vi (((0 : Int32) + n) + (21 : Int32)), vi ((((0 : Int32) + n) + (21 : Int32)) - (0 : Int32)), vr b102] [wr b102, wi 0, wr a1]) _
    refine XS.iconst X102.here hx rfl (hb hby d28_18) ?_
    show Go p e below T102 (mkF m 19 #[vr a1, vi 0, vi (((0 : Int32) + n) + (21 : Int32)), vi ((((0 : Int32) + n) + (21 : Int32)) - (0 : Int32)), vr b102] [wi 0, wr b102, wi 0, wr a1]) _
    refine XS.aloadN X102.here hx rfl (hb hby d28_19) rfl rfl ?_
    show Go p e below T102 (mkF m 20 #[vr a1, vi 0, vi (((0 : Int32) + n) + (21 : Int32)), vi ((((0 : Int32) + n) + (21 : Int32)) - (0 : Int32)), vr b102] [wr a1, wi 0, wr b102, wi 0, wr a1]) _
    refine X102.arraylength hx (by rw [e102]; exact Ar104.1) (State.isArrayOf_alike hZ.alike Ar104.2.1) (g := (mkF m 20 #[vr a1, vi 0, vi (((0 : Int32) + n) + (21 : Int32)), vi ((((0 : Int32) + n) + (21 : Int32)) - (0 : Int32)), vr b102] [wr a1, wi 0, wr b102, wi 0, wr a1])) rfl rfl (hb hby d28_20) _ ?_
    rw [len_of S104 M104]
    show Go p e below T102 (mkF m 21 #[vr a1, vi 0, vi (((0 : Int32) + n) + (21 : Int32)), vi ((((0 : Int32) + n) + (21 : Int32)) - (0 : Int32)), vr b102] [wi 34, wi 0, wr b102, wi 0, wr a1]) _
    refine XS.iloadN X102.here hx rfl (hb hby d28_21) rfl ?_
    show Go p e below T102 (mkF m 22 #[vr a1, vi 0, vi (((0 : Int32) + n) + (21 : Int32)), vi ((((0 : Int32) + n) + (21 : Int32)) - (0 : Int32)), vr b102] [wi 0, wi 34, wi 0, wr b102, wi 0, wr a1]) _
    refine XS.isub X102.here hx rfl (hb hby d28_22) rfl ?_
    show Go p e below T102 (mkF m 23 #[vr a1, vi 0, vi (((0 : Int32) + n) + (21 : Int32)), vi ((((0 : Int32) + n) + (21 : Int32)) - (0 : Int32)), vr b102] [wi 34, wi 0, wr b102, wi 0, wr a1]) _
    refine XS.iloadN X102.here hx rfl (hb hby d28_23) rfl ?_
    show Go p e below T102 (mkF m 24 #[vr a1, vi 0, vi (((0 : Int32) + n) + (21 : Int32)), vi ((((0 : Int32) + n) + (21 : Int32)) - (0 : Int32)), vr b102] [wi ((((0 : Int32) + n) + (21 : Int32)) - (0 : Int32)), wi 34, wi 0, wr b102, wi 0, wr a1]) _
    refine st107 _ ?_
    show Go p e below T107 (mkF m 27 #[vr a1, vi 0, vi (((0 : Int32) + n) + (21 : Int32)), vi ((((0 : Int32) + n) + (21 : Int32)) - (0 : Int32)), vr b102] [wi ((((0 : Int32) + n) + (21 : Int32)) - (0 : Int32)), wi 0, wr b102, wi 0, wr a1]) _
    refine st108 _ ?_
    show Go p e below T108 (mkF m 30 #[vr a1, vi 0, vi (((0 : Int32) + n) + (21 : Int32)), vi ((((0 : Int32) + n) + (21 : Int32)) - (0 : Int32)), vr b102] []) _
    refine XS.aload X108.here hx rfl (hb hby d28_30) rfl rfl ?_
    show Go p e below T108 (mkF m 32 #[vr a1, vi 0, vi (((0 : Int32) + n) + (21 : Int32)), vi ((((0 : Int32) + n) + (21 : Int32)) - (0 : Int32)), vr b102] [wr b102]) _
    jvm_step X108.here [X108.here.top, hx, (hb hby d28_32), X108.method', Bd.returns, Value.isRef, FieldType.isReference]
    first | (intro acts; rw [hr _ acts rfl rfl rfl]) | rw [hr _ _ rfl rfl rfl]
    exact Steps.refl _
  · show QAr Z ((((0 : Int32) + n) + (21 : Int32)) - (0 : Int32)) (put (List.replicate ((((0 : Int32) + n) + (21 : Int32)) - (0 : Int32)).toNatClampNeg (Value.int (0 : Int32))) (cpy vs2 (0 : Int32) ((((0 : Int32) + n) + (21 : Int32)) - (0 : Int32))) (0 : Int32) ((((0 : Int32) + n) + (21 : Int32)) - (0 : Int32))) h0 n0 _ T108.heap _
    rw [e108]
    exact ⟨_, _, rfl, N108, y109, g_b102, sz_b102, V108⟩
set_option maxRecDepth 65536 in
set_option maxHeartbeats 40000000 in
theorem rm_copyOfRange_54a8f9 (l : Launch) (Z : State) (a0 : Array Value) (hw : ∀ d ∈ tables_1, d.before a0 Z = true) (ws : List Jvm.Cond) (a1 : Addr) (n : Int32) (ka : ClassId) (vs2 : List Value) (h0 : Heap) (n0 : Nat) (X00 : Old Z n0 h0) (hn : n = (0 : Int32) ∨ n = (1 : Int32) ∨ n = (2 : Int32) ∨ n = (3 : Int32)) (V_a : Arv Z h0 a1 ka .byte (34 : Int32) vs2 (.int (0 : Int32))) :
    MetFree l mn_43 (head1 (Jvm.Cond.code mn_43 jdk_65_method_132_code 3 (some (.array .byte)) :: ws) ({ frames := 2, cells := 1, slots := 24, locals := 34 } : Room)) (fun a U => a = #[(.ref a1), (.int (0 : Int32)), (.int (((0 : Int32) + n) + (21 : Int32)))] ∧ Z.Warmed39 U.vm ∧ U.heap = h0) (fun _ _ _ _ _ => True) (fun _ U o U' => ∃ rv rL, o = .returned rv ∧ QAr Z ((((0 : Int32) + n) + (21 : Int32)) - (0 : Int32)) (put (List.replicate ((((0 : Int32) + n) + (21 : Int32)) - (0 : Int32)).toNatClampNeg (Value.int (0 : Int32))) (cpy vs2 (0 : Int32) ((((0 : Int32) + n) + (21 : Int32)) - (0 : Int32))) (0 : Int32) ((((0 : Int32) + n) + (21 : Int32)) - (0 : Int32))) h0 n0 rv U'.heap rL ∧ FrameEnd U o U' rL ({ frames := 2, cells := 1, slots := 24, locals := 34 } : Room).cells ({ frames := 2, cells := 1, slots := 24, locals := 34 } : Room).slots) := by
  refine MetFree.of_bodySF (plainFor_of_name pn_27) hisR ?_
  intro p e s m args below meth c s₁ Bd hml0 hP hK
  obtain ⟨rfl, hZ, hh⟩ := hP
  have hx := Bd.exec
  have hby := Bd.bytes
  have hml : c.maxLocals = 3 := hml0
  have hown : s.vm.findClass "java/util/Arrays" = some m.cls := findClass_of_methodNamed Bd.named
  have hnm := (name_of_methodNamed Bd.named Bd.method).1
  have X0 : Stand p l e ({ frames := 2, cells := 1, slots := 24, locals := 34 } : Room) s m #[(.ref a1), (.int (0 : Int32)), (.int (((0 : Int32) + n) + (21 : Int32)))] below meth c s₁ [] 0 0 := Stand.of_body Bd
  have e0 : s₁.heap = h0 := by rw [← hh, Bd.state]; rfl
  have N0 := Fr.nil n0
  have pre0 : ∀ t, Steps p.tables e below (s₁.setTop (mkF m 0 #[.val (.ref a1), .val (.int (0 : Int32)), .val (.int (((0 : Int32) + n) + (21 : Int32)))] [])) t → Steps p.tables e below (s₁.setTop (entryFrame m #[(.ref a1), (.int (0 : Int32)), (.int (((0 : Int32) + n) + (21 : Int32)))] 3)) t := fun t k => castTop (ef_27 m a1 (0 : Int32) (((0 : Int32) + n) + (21 : Int32))) k
  obtain ⟨cl101, Ar101, q101, S101, M101, H101, G101⟩ := id V_a
  have lz102_a1 := V_a.lt
  obtain ⟨_, _, ⟨T102, L102, k102, n102⟩, -, X102, ⟨Lc102, hQ102, l102, y102, z102⟩, st102⟩ := Jvm.LawKit.callS X0 hx (y := mn_44) hown (mvT hZ (tw hw 151 rfl)) (mvT hZ (tw hw 152 rfl)) (mvT hZ (tw hw 112 rfl)) (mvT hZ (tw hw 153 rfl)) (by decide) (backOf (W := 0) (rm_copyOfRangeByte_54a8f9 l Z a0 hw [] a1 n ka vs2 h0 n0 X00 hn V_a) hZ (tw hw 153 rfl) (tw hw 112 rfl) (by decide) (by decide)) (g := (mkF m 13 #[vr a1, vi 0, vi (((0 : Int32) + n) + (21 : Int32))] [wi (((0 : Int32) + n) + (21 : Int32)), wi 0, wr a1])) rfl (by rw [hml]; rfl) (argsL := [wr a1, wi 0, wi (((0 : Int32) + n) + (21 : Int32))]) (rest := []) (lenOf pd_ABII_AB rfl) rfl (Nat.le_refl _) (hb hby d27_13) (fun _ _ => ⟨rfl, e0, (by decide : 0 + 1 ≤ _), (by decide : 0 + 24 ≤ _)⟩)
  dsimp only [Pt.U, Pt.locs, Pt.cells, Pt.slots] at X102 l102 y102 z102 st102 hQ102
  subst l102 y102 z102
  obtain ⟨ur102, uq102, rfl, N102q, Kc102, ug102, us102, uV102⟩ := hQ102
  have N102 := Fr.app N0 N102q
  have lt_a1_ur102 : a1 < ur102 := Nat.lt_of_lt_of_le lz102_a1 us102
  have sz_ur102 : h0.size ≤ ur102 := Nat.le_trans (Keep.refl h0 []).1 us102
  have y103 := ((Keep.refl h0 []).trans Kc102 all0)
  obtain ⟨fs, hr, hrun, hended, hW, hsame⟩ := X102.leave (v := some (.ref ur102)) (fun h => by rw [Bd.returns] at h; cases h)
  refine ⟨_, _, pre0 _ ?_, hrun, hended, _, _, rfl, ?_, ⟨_, rfl⟩, hW, hsame.mono (by decide) (by decide)⟩
  · show Go p e below s₁ (mkF m 0 #[vr a1, vi 0, vi (((0 : Int32) + n) + (21 : Int32))] []) _
    refine XS.iloadN X0.here hx rfl (hb hby d27_0) rfl ?_
    show Go p e below s₁ (mkF m 1 #[vr a1, vi 0, vi (((0 : Int32) + n) + (21 : Int32))] [wi 0]) _
    refine XS.ifNo X0.here hx rfl (hb hby d27_1) rfl ((if0 _ _).trans (teq (rfl : (0 : Int32) = (0 : Int32))).2) ?_
    show Go p e below s₁ (mkF m 4 #[vr a1, vi 0, vi (((0 : Int32) + n) + (21 : Int32))] []) _
    refine XS.iloadN X0.here hx rfl (hb hby d27_4) rfl ?_
    show Go p e below s₁ (mkF m 5 #[vr a1, vi 0, vi (((0 : Int32) + n) + (21 : Int32))] [wi (((0 : Int32) + n) + (21 : Int32))]) _
    refine XS.aloadN X0.here hx rfl (hb hby d27_5) rfl rfl ?_
    show Go p e below s₁ (mkF m 6 #[vr a1, vi 0, vi (((0 : Int32) + n) + (21 : Int32))] [wr a1, wi (((0 : Int32) + n) + (21 : Int32))]) _
    refine X0.arraylength hx (by rw [e0]; exact Ar101.1) (State.isArrayOf_alike hZ.alike Ar101.2.1) (g := (mkF m 6 #[vr a1, vi 0, vi (((0 : Int32) + n) + (21 : Int32))] [wr a1, wi (((0 : Int32) + n) + (21 : Int32))])) rfl rfl (hb hby d27_6) _ ?_
    rw [len_of S101 M101]
    show Go p e below s₁ (mkF m 7 #[vr a1, vi 0, vi (((0 : Int32) + n) + (21 : Int32))] [wi 34, wi (((0 : Int32) + n) + (21 : Int32))]) _
    refine XS.icmpNo X0.here hx rfl (hb hby d27_7) rfl (feq (own_4 (P := fun n => ¬ ((((0 : Int32) + n) + (21 : Int32)) = (34 : Int32))) hn (by decide) : ¬ ((((0 : Int32) + n) + (21 : Int32)) = (34 : Int32)))).1 ?_
    show Go p e below s₁ (mkF m 10 #[vr a1, vi 0, vi (((0 : Int32) + n) + (21 : Int32))] []) _
    refine XS.aloadN X0.here hx rfl (hb hby d27_10) rfl rfl ?_
    show Go p e below s₁ (mkF m 11 #[vr a1, vi 0, vi (((0 : Int32) + n) + (21 : Int32))] [wr a1]) _
    refine XS.iloadN X0.here hx rfl (hb hby d27_11) rfl ?_
    show Go p e below s₁ (mkF m 12 #[vr a1, vi 0, vi (((0 : Int32) + n) + (21 : Int32))] [wi 0, wr a1]) _
    refine XS.iloadN X0.here hx rfl (hb hby d27_12) rfl ?_
    show Go p e below s₁ (mkF m 13 #[vr a1, vi 0, vi (((0 : Int32) + n) + (21 : Int32))] [wi (((0 : Int32) + n) + (21 : Int32)), wi 0, wr a1]) _
    refine st102 _ ?_
    show Go p e below T102 (mkF m 16 #[vr a1, vi 0, vi (((0 : Int32) + n) + (21 : Int32))] [wr ur102]) _
    jvm_step X102.here [X102.here.top, hx, (hb hby d27_16), X102.method', Bd.returns, Value.isRef, FieldType.isReference]
    first | (intro acts; rw [hr _ acts rfl rfl rfl]) | rw [hr _ _ rfl rfl rfl]
    exact Steps.refl _
  · show QAr Z ((((0 : Int32) + n) + (21 : Int32)) - (0 : Int32)) (put (List.replicate ((((0 : Int32) + n) + (21 : Int32)) - (0 : Int32)).toNatClampNeg (Value.int (0 : Int32))) (cpy vs2 (0 : Int32) ((((0 : Int32) + n) + (21 : Int32)) - (0 : Int32))) (0 : Int32) ((((0 : Int32) + n) + (21 : Int32)) - (0 : Int32))) h0 n0 _ T102.heap _
    exact ⟨_, _, rfl, N102, y103, ug102, sz_ur102, uV102⟩
set_option maxRecDepth 65536 in
set_option maxHeartbeats 40000000 in
theorem rmSNa_370336 (l : Launch) (Z : State) (a0 : Array Value) (hw : ∀ d ∈ tables_1, d.before a0 Z = true) (ws : List Jvm.Cond) (a1 : Addr) (a2 : Addr) (n : Int32) (uv : Value) (uk : Value) (sb : Addr) (kb : ClassId) (vs2 : List Value) (G1 : Int32) (h0 : Heap) (n0 : Nat) (X00 : Old Z n0 h0) (hn : n = (0 : Int32) ∨ n = (1 : Int32) ∨ n = (2 : Int32) ∨ n = (3 : Int32)) (O2 : Sta Z Z.heap "java/lang/String" "COMPACT_STRINGS" "Z" (.int G1)) (P5 : ¬ (G1 = (0 : Int32))) (E_a1 : Exa Z h0 a1 "java/lang/String") (S_v : Fld Z h0 a1 "java/lang/String" "value" "[B" uv) (S_k : Fld Z h0 a1 "java/lang/String" "coder" "B" uk) (g_a1 : n0 ≤ a1) (E_a2 : Exa Z h0 a2 "java/lang/StringBuilder") (F_v : Fld Z h0 a2 "java/lang/AbstractStringBuilder" "value" "[B" (.ref sb)) (F_k : Fld Z h0 a2 "java/lang/AbstractStringBuilder" "coder" "B" (.int (0 : Int32))) (F_c : Fld Z h0 a2 "java/lang/AbstractStringBuilder" "count" "I" (.int (((0 : Int32) + n) + (21 : Int32)))) (V_b : Arv Z h0 sb kb .byte (34 : Int32) vs2 (.int (0 : Int32))) (g_a2 : n0 ≤ a2) (g_sb : n0 ≤ sb) (n_as : a2 ≠ sb) (n_12 : a1 ≠ a2) (n_1s : a1 ≠ sb) :
    MetFree l mn_17 (head1 (Jvm.Cond.code mn_17 jdk_42_method_150_code 5 none :: ws) ({ frames := 3, cells := 1, slots := 24, locals := 49 } : Room)) (fun a U => a = #[(.ref a1), (.ref a2), .null] ∧ Z.Warmed39 U.vm ∧ U.heap = h0) (fun _ _ _ _ _ => True) (fun _ U o U' => ∃ rv rL, o = .returned rv ∧ QSN Z a1 ((((0 : Int32) + n) + (21 : Int32)) - (0 : Int32)) (put (List.replicate ((((0 : Int32) + n) + (21 : Int32)) - (0 : Int32)).toNatClampNeg (Value.int (0 : Int32))) (cpy vs2 (0 : Int32) ((((0 : Int32) + n) + (21 : Int32)) - (0 : Int32))) (0 : Int32) ((((0 : Int32) + n) + (21 : Int32)) - (0 : Int32))) h0 n0 rv U'.heap rL ∧ FrameEnd U o U' rL ({ frames := 3, cells := 1, slots := 24, locals := 49 } : Room).cells ({ frames := 3, cells := 1, slots := 24, locals := 49 } : Room).slots) := by
  refine MetFree.of_bodySF (plainFor_of_name pn_22) hisR ?_
  intro p e s m args below meth c s₁ Bd hml0 hP hK
  obtain ⟨rfl, hZ, hh⟩ := hP
  have hx := Bd.exec
  have hby := Bd.bytes
  have hml : c.maxLocals = 5 := hml0
  have hown : s.vm.findClass "java/lang/String" = some m.cls := findClass_of_methodNamed Bd.named
  have hnm := (name_of_methodNamed Bd.named Bd.method).1
  have X0 : Stand p l e ({ frames := 3, cells := 1, slots := 24, locals := 49 } : Room) s m #[(.ref a1), (.ref a2), .null] below meth c s₁ [] 0 0 := Stand.of_body Bd
  have e0 : s₁.heap = h0 := by rw [← hh, Bd.state]; rfl
  have N0 := Fr.nil n0
  have pre0 : ∀ t, Steps p.tables e below (s₁.setTop (mkF m 0 #[.val (.ref a1), .val (.ref a2), .val .null, .unset, .unset] [])) t → Steps p.tables e below (s₁.setTop (entryFrame m #[(.ref a1), (.ref a2), .null] 5)) t := fun t k => castTop (ef_22vvn m a1 a2) k
  obtain ⟨T101, X101, e101, st101⟩ := initO X0 hx hZ hown (tw hw 11 rfl) (tw hw 12 rfl) (tw hw 13 rfl) e0 (g := (mkF m 1 #[vr a1, vr a2, .val .null, .unset, .unset] [wr a1])) rfl (by rw [hml]; rfl) rfl (hb hby d22_1) (by decide) (W := 0) (by show 2 * 0 + _ ≤ _; exact Nat.le_of_eq rfl) (by decide)
  obtain ⟨cq102, kq102, q102a, q102b, q102c⟩ := isOf hZ e101 E_a2
  obtain ⟨_, _, ⟨T102, L102, k102, n102⟩, -, X102, ⟨Lc102, hQ102, l102, y102, z102⟩, st102⟩ := X101.virtualBack hx (y := mn_7) (z := mn_7) hown (mvT hZ (tw hw 130 rfl)) (mvT hZ (tw hw 131 rfl)) (notFace_of_selects (args := #[]) (mvT hZ (tw hw 133 rfl))) (mvT hZ (tw hw 133 rfl)) (mvT hZ (tw hw 132 rfl)) (by decide) (backOf (W := 0) (rmG_value l Z a0 hw [] a2 n sb h0 n0 X00 hn E_a2 F_v) hZ (tw hw 134 rfl) (tw hw 38 rfl) (by decide) (by decide)) q102a q102c (g := (mkF m 5 #[vr a1, vr a2, .val .null, .unset, .unset] [wr a2])) rfl (by rw [hml]; rfl) (Steps.refl _) (argsL := []) (rest := []) (lenOf pd__AB rfl) rfl (Nat.le_refl _) (hb hby d22_5) (fun _ _ => ⟨rfl, e101, (by decide : 0 + 0 ≤ _), (by decide : 0 + 0 ≤ _)⟩)
  dsimp only [Pt.U, Pt.locs, Pt.cells, Pt.slots] at X102 l102 y102 z102 st102 hQ102
  subst l102 y102 z102
  obtain ⟨rfl, N102q, eq102⟩ := hQ102
  have N102 := Fr.app N0 N102q
  obtain ⟨cq103, kq103, q103a, q103b, q103c⟩ := isOf hZ eq102 E_a2
  obtain ⟨_, _, ⟨T103, L103, k103, n103⟩, -, X103, ⟨Lc103, hQ103, l103, y103, z103⟩, st103⟩ := X102.virtualBack hx (y := mn_10) (z := mn_29) hown (mvT hZ (tw hw 135 rfl)) (mvT hZ (tw hw 136 rfl)) (own_nface (y := mn_10) (y' := mn_6) (args := #[]) rfl (mvT hZ (tw hw 72 rfl))) (mvT hZ (tw hw 138 rfl)) (mvT hZ (tw hw 139 rfl)) (by decide) (backOf (W := 0) (rmG_count_B l Z a0 hw [] a2 n (((0 : Int32) + n) + (21 : Int32)) h0 n0 X00 hn E_a2 F_c) hZ (tw hw 140 rfl) (tw hw 30 rfl) (by decide) (by decide)) q103a q103c (g := (mkF m 10 #[vr a1, vr a2, .val .null, vr sb, .unset] [wr a2])) rfl (by rw [hml]; rfl) (Steps.refl _) (argsL := []) (rest := []) (lenOf pd__I rfl) rfl (Nat.le_refl _) (hb hby d22_10) (fun _ _ => ⟨rfl, eq102, (by decide : 0 + 0 ≤ _), (by decide : 0 + 0 ≤ _)⟩)
  dsimp only [Pt.U, Pt.locs, Pt.cells, Pt.slots] at X103 l103 y103 z103 st103 hQ103
  subst l103 y103 z103
  obtain ⟨rfl, N103q, eq103⟩ := hQ103
  have N103 := Fr.app N102 N103q
  obtain ⟨cq104, kq104, q104a, q104b, q104c⟩ := isOf hZ eq103 E_a2
  obtain ⟨_, _, ⟨T104, L104, k104, n104⟩, -, X104, ⟨Lc104, hQ104, l104, y104, z104⟩, st104⟩ := X103.virtualBack hx (y := mn_9) (z := mn_9) hown (mvT hZ (tw hw 143 rfl)) (mvT hZ (tw hw 144 rfl)) (notFace_of_selects (args := #[]) (mvT hZ (tw hw 146 rfl))) (mvT hZ (tw hw 146 rfl)) (mvT hZ (tw hw 145 rfl)) (by decide) (backOf (W := 0) (rmISL l Z a0 hw [] a2 n G1 h0 n0 X00 hn O2 P5 F_k) hZ (tw hw 147 rfl) (tw hw 38 rfl) (by decide) (by decide)) q104a q104c (g := (mkF m 16 #[vr a1, vr a2, .val .null, vr sb, vi (((0 : Int32) + n) + (21 : Int32))] [wr a2])) rfl (by rw [hml]; rfl) (Steps.refl _) (argsL := []) (rest := []) (lenOf pd__Z rfl) rfl (Nat.le_refl _) (hb hby d22_16) (fun _ _ => ⟨rfl, eq103, (by decide : 0 + 0 ≤ _), (by decide : 0 + 0 ≤ _)⟩)
  dsimp only [Pt.U, Pt.locs, Pt.cells, Pt.slots] at X104 l104 y104 z104 st104 hQ104
  subst l104 y104 z104
  obtain ⟨rfl, N104q, eq104⟩ := hQ104
  have N104 := Fr.app N103 N104q
  obtain ⟨T105, h105, X105, e105, W105, st105⟩ := putFN X104 hx hZ hown (tw hw 21 rfl) Via.refl eq104 S_k E_a1 (Or.inr ⟨(tw hw 17 rfl), rfl, hnm⟩) (tw hw 2 rfl) (ty := .byte) (v' := (.int (0 : Int32))) (by decide) (by decide) (by decide) (g := (mkF m 24 #[vr a1, vr a2, .val .null, vr sb, vi (((0 : Int32) + n) + (21 : Int32))] [wi 0, wr a1])) rfl rfl (hb hby d22_24)
  have Fw105 := S_k.same W105
  have N105 := Fr.snoc X105 N104 g_a1
  have y106 := (V_b.other W105 (Ne.symm n_1s))
  have y107 := ((Keep.refl h0 [a1]).wr W105 (Or.inl (List.mem_of_getElem? (i := 0) rfl)))
  have y108 := (X00.wr W105 g_a1)
  have y110 := (E_a1.wr W105)
  have lz109_a1 := y110.lt
  have y111 := (E_a2.wr W105)
  have lz109_a2 := y111.lt
  have lz109_sb := y106.lt
  obtain ⟨_, _, ⟨T109, L109, k109, n109⟩, -, X109, ⟨Lc109, hQ109, l109, y109, z109⟩, st109⟩ := Jvm.LawKit.callS X105 hx (y := mn_43) hown (mvT hZ (tw hw 148 rfl)) (mvT hZ (tw hw 149 rfl)) (mvT hZ (tw hw 112 rfl)) (mvT hZ (tw hw 150 rfl)) (by decide) (backOf (W := 1) (rm_copyOfRange_54a8f9 l Z a0 hw [] sb n kb vs2 h105 n0 y108 hn y106) hZ (tw hw 150 rfl) (tw hw 112 rfl) (by decide) (by decide)) (g := (mkF m 32 #[vr a1, vr a2, .val .null, vr sb, vi (((0 : Int32) + n) + (21 : Int32))] [wi (((0 : Int32) + n) + (21 : Int32)), wi 0, wr sb, wr a1])) rfl (by rw [hml]; rfl) (argsL := [wr sb, wi 0, wi (((0 : Int32) + n) + (21 : Int32))]) (rest := [wr a1]) (lenOf pd_ABII_AB rfl) rfl (Nat.le_refl _) (hb hby d22_32) (fun _ _ => ⟨rfl, e105, (by decide : 0 + 1 ≤ _), (by decide : 0 + 24 ≤ _)⟩)
  dsimp only [Pt.U, Pt.locs, Pt.cells, Pt.slots] at X109 l109 y109 z109 st109 hQ109
  subst l109 y109 z109
  obtain ⟨ur109, uq109, rfl, N109q, Kc109, ug109, us109, uV109⟩ := hQ109
  have N109 := Fr.app N105 N109q
  have lt_a1_ur109 : a1 < ur109 := Nat.lt_of_lt_of_le lz109_a1 us109
  have lt_a2_ur109 : a2 < ur109 := Nat.lt_of_lt_of_le lz109_a2 us109
  have lt_sb_ur109 : sb < ur109 := Nat.lt_of_lt_of_le lz109_sb us109
  have sz_ur109 : h0.size ≤ ur109 := Nat.le_trans y107.1 us109
  have y112 := ((S_v.other W105 (Or.inr (slot_ne (Or.inr (tw hw 16 rfl)) (Or.inr (tw hw 17 rfl)) (by decide) (t := (.array .byte)) (t' := .byte) (by decide) (by decide)))).keep Kc109 own_nm0)
  have y113 := (y110.keep Kc109)
  obtain ⟨T114, h114, X114, e114, W114, st114⟩ := putF X109 hx hZ hown (host := "") (Or.inl (tw hw 20 rfl)) Via.refl rfl y112 y113 (Or.inr ⟨(tw hw 16 rfl), rfl, hnm⟩) (tw hw 2 rfl) (ty := (.array .byte)) (by decide) rfl rfl (g := (mkF m 35 #[vr a1, vr a2, .val .null, vr sb, vi (((0 : Int32) + n) + (21 : Int32))] [wr ur109, wr a1])) rfl rfl (hb hby d22_35)
  have Fw114 := y112.same W114
  have N114 := Fr.snoc X114 N109 g_a1
  have y115 := ((y107.trans Kc109 all0).wr W114 (Or.inl (List.mem_of_getElem? (i := 0) rfl)))
  have y116 := (y113.wr W114)
  have y117 := ((Fw105.keep Kc109 own_nm0).other W114 (Or.inr (slot_ne (Or.inr (tw hw 17 rfl)) (Or.inr (tw hw 16 rfl)) (by decide) (t := .byte) (t' := (.array .byte)) (by decide) (by decide))))
  have y118 := (uV109.other W114 (Ne.symm (Nat.ne_of_lt lt_a1_ur109)))
  obtain ⟨fs, hr, hrun, hended, hW, hsame⟩ := X114.leave (v := none) (fun _ => rfl)
  refine ⟨_, _, pre0 _ ?_, hrun, hended, _, _, rfl, ?_, ⟨_, rfl⟩, hW, hsame.mono (by decide) (by decide)⟩
  · show Go p e below s₁ (mkF m 0 #[vr a1, vr a2, .val .null, .unset, .unset] []) _
    refine XS.aloadN X0.here hx rfl (hb hby d22_0) rfl rfl ?_
    show Go p e below s₁ (mkF m 1 #[vr a1, vr a2, .val .null, .unset, .unset] [wr a1]) _
    refine st101 _ ?_
    show Go p e below T101 (mkF m 4 #[vr a1, vr a2, .val .null, .unset, .unset] []) _
    refine XS.aloadN X101.here hx rfl (hb hby d22_4) rfl rfl ?_
    show Go p e below T101 (mkF m 5 #[vr a1, vr a2, .val .null, .unset, .unset] [wr a2]) _
    refine st102.trans ?_
    show Go p e below T102 (mkF m 8 #[vr a1, vr a2, .val .null, .unset, .unset] [wr sb]) _
    refine XS.astoreN X102.here hx rfl (hb hby d22_8) rfl rfl (l' := #[.val (.ref a1), .val (.ref a2), .val .null, .val (.ref sb), .unset]) rfl ?_
    show Go p e below T102 (mkF m 9 #[vr a1, vr a2, .val .null, vr sb, .unset] []) _
    refine XS.aloadN X102.here hx rfl (hb hby d22_9) rfl rfl ?_
    show Go p e below T102 (mkF m 10 #[vr a1, vr a2, .val .null, vr sb, .unset] [wr a2]) _
    refine st103.trans ?_
    show Go p e below T103 (mkF m 13 #[vr a1, vr a2, .val .null, vr sb, .unset] [wi (((0 : Int32) + n) + (21 : Int32))]) _
    refine XS.istore X103.here hx rfl (hb hby d22_13) rfl (l' := #[.val (.ref a1), .val (.ref a2), .val .null, .val (.ref sb), .val (.int (((0 : Int32) + n) + (21 : Int32)))]) rfl ?_
    show Go p e below T103 (mkF m 15 #[vr a1, vr a2, .val .null, vr sb, vi (((0 : Int32) + n) + (21 : Int32))] []) _
    refine XS.aloadN X103.here hx rfl (hb hby d22_15) rfl rfl ?_
    show Go p e below T103 (mkF m 16 #[vr a1, vr a2, .val .null, vr sb, vi (((0 : Int32) + n) + (21 : Int32))] [wr a2]) _
    refine st104.trans ?_
    show Go p e below T104 (mkF m 19 #[vr a1, vr a2, .val .null, vr sb, vi (((0 : Int32) + n) + (21 : Int32))] [wi 1]) _
    refine XS.ifNo X104.here hx rfl (hb hby d22_19) rfl ((if0 _ _).trans (feq (by decide : ¬ ((1 : Int32) = (0 : Int32)))).1) ?_
    show Go p e below T104 (mkF m 22 #[vr a1, vr a2, .val .null, vr sb, vi (((0 : Int32) + n) + (21 : Int32))] []) _
    refine XS.aloadN X104.here hx rfl (hb hby d22_22) rfl rfl ?_
    show Go p e below T104 (mkF m 23 #[vr a1, vr a2, .val .null, vr sb, vi (((0 : Int32) + n) + (21 : Int32))] [wr a1]) _
    refine XS.iconst X104.here hx rfl (hb hby d22_23) ?_
    show Go p e below T104 (mkF m 24 #[vr a1, vr a2, .val .null, vr sb, vi (((0 : Int32) + n) + (21 : Int32))] [wi 0, wr a1]) _
    refine st105 _ ?_
    show Go p e below T105 (mkF m 27 #[vr a1, vr a2, .val .null, vr sb, vi (((0 : Int32) + n) + (21 : Int32))] []) _
    refine XS.aloadN X105.here hx rfl (hb hby d22_27) rfl rfl ?_
    show Go p e below T105 (mkF m 28 #[vr a1, vr a2, .val .null, vr sb, vi (((0 : Int32) + n) + (21 : Int32))] [wr a1]) _
    refine XS.aloadN X105.here hx rfl (hb hby d22_28) rfl rfl ?_
    show Go p e below T105 (mkF m 29 #[vr a1, vr a2, .val .null, vr sb, vi (((0 : Int32) + n) + (21 : Int32))] [wr sb, wr a1]) _
    refine XS.iconst X105.here hx rfl (hb hby d22_29) ?_
    show Go p e below T105 (mkF m 30 #[vr a1, vr a2, .val .null, vr sb, vi (((0 : Int32) + n) + (21 : Int32))] [wi 0, wr sb, wr a1]) _
    refine XS.iload X105.here hx rfl (hb hby d22_30) rfl ?_
    show Go p e below T105 (mkF m 32 #[vr a1, vr a2, .val .null, vr sb, vi (((0 : Int32) + n) + (21 : Int32))] [wi (((0 : Int32) + n) + (21 : Int32)), wi 0, wr sb, wr a1]) _
    refine st109 _ ?_
    show Go p e below T109 (mkF m 35 #[vr a1, vr a2, .val .null, vr sb, vi (((0 : Int32) + n) + (21 : Int32))] [wr ur109, wr a1]) _
    refine st114 _ ?_
    show Go p e below T114 (mkF m 38 #[vr a1, vr a2, .val .null, vr sb, vi (((0 : Int32) + n) + (21 : Int32))] []) _
    refine XS.goto X114.here hx rfl (pc0 := 38) (pc' := 97) rfl (hb hby d22_38) (by decide) (by decide) ?_
    show Go p e below T114 (mkF m 97 #[vr a1, vr a2, .val .null, vr sb, vi (((0 : Int32) + n) + (21 : Int32))] []) _
    exact X114.returnOut hx Bd.returns (hb hby d22_97) hr
  · show QSN Z a1 ((((0 : Int32) + n) + (21 : Int32)) - (0 : Int32)) (put (List.replicate ((((0 : Int32) + n) + (21 : Int32)) - (0 : Int32)).toNatClampNeg (Value.int (0 : Int32))) (cpy vs2 (0 : Int32) ((((0 : Int32) + n) + (21 : Int32)) - (0 : Int32))) (0 : Int32) ((((0 : Int32) + n) + (21 : Int32)) - (0 : Int32))) h0 n0 _ T114.heap _
    rw [e114]
    exact ⟨rfl, N114, y115, ur109, uq109, ug109, sz_ur109, y116, Fw114, y117, y118⟩
set_option maxRecDepth 65536 in
set_option maxHeartbeats 40000000 in
theorem rmSNb_370336 (l : Launch) (Z : State) (a0 : Array Value) (hw : ∀ d ∈ tables_1, d.before a0 Z = true) (ws : List Jvm.Cond) (a1 : Addr) (a2 : Addr) (n : Int32) (uv : Value) (uk : Value) (sb : Addr) (kb : ClassId) (vs2 : List Value) (G1 : Int32) (h0 : Heap) (n0 : Nat) (X00 : Old Z n0 h0) (hn : n = (0 : Int32) ∨ n = (1 : Int32) ∨ n = (2 : Int32) ∨ n = (3 : Int32)) (O2 : Sta Z Z.heap "java/lang/String" "COMPACT_STRINGS" "Z" (.int G1)) (P5 : ¬ (G1 = (0 : Int32))) (E_a1 : Exa Z h0 a1 "java/lang/String") (S_v : Fld Z h0 a1 "java/lang/String" "value" "[B" uv) (S_k : Fld Z h0 a1 "java/lang/String" "coder" "B" uk) (g_a1 : n0 ≤ a1) (E_a2 : Exa Z h0 a2 "java/lang/StringBuilder") (F_v : Fld Z h0 a2 "java/lang/AbstractStringBuilder" "value" "[B" (.ref sb)) (F_k : Fld Z h0 a2 "java/lang/AbstractStringBuilder" "coder" "B" (.int (0 : Int32))) (F_c : Fld Z h0 a2 "java/lang/AbstractStringBuilder" "count" "I" (.int (((0 : Int32) + n) + (21 : Int32)))) (V_b : Arv Z h0 sb kb .byte (34 : Int32) vs2 (.int (0 : Int32))) (g_a2 : n0 ≤ a2) (g_sb : n0 ≤ sb) (n_as : a2 ≠ sb) (n_12 : a1 ≠ a2) (n_1s : a1 ≠ sb) :
    MetFree l mn_18 (head1 (Jvm.Cond.code mn_18 jdk_42_method_53_code 2 none :: ws) ({ frames := 4, cells := 1, slots := 24, locals := 65 } : Room)) (fun a U => a = #[(.ref a1), (.ref a2)] ∧ Z.Warmed39 U.vm ∧ U.heap = h0) (fun _ _ _ _ _ => True) (fun _ U o U' => ∃ rv rL, o = .returned rv ∧ QSN Z a1 ((((0 : Int32) + n) + (21 : Int32)) - (0 : Int32)) (put (List.replicate ((((0 : Int32) + n) + (21 : Int32)) - (0 : Int32)).toNatClampNeg (Value.int (0 : Int32))) (cpy vs2 (0 : Int32) ((((0 : Int32) + n) + (21 : Int32)) - (0 : Int32))) (0 : Int32) ((((0 : Int32) + n) + (21 : Int32)) - (0 : Int32))) h0 n0 rv U'.heap rL ∧ FrameEnd U o U' rL ({ frames := 4, cells := 1, slots := 24, locals := 65 } : Room).cells ({ frames := 4, cells := 1, slots := 24, locals := 65 } : Room).slots) := by
  refine MetFree.of_bodySF (plainFor_of_name pn_21) hisR ?_
  intro p e s m args below meth c s₁ Bd hml0 hP hK
  obtain ⟨rfl, hZ, hh⟩ := hP
  have hx := Bd.exec
  have hby := Bd.bytes
  have hml : c.maxLocals = 2 := hml0
  have hown : s.vm.findClass "java/lang/String" = some m.cls := findClass_of_methodNamed Bd.named
  have hnm := (name_of_methodNamed Bd.named Bd.method).1
  have X0 : Stand p l e ({ frames := 4, cells := 1, slots := 24, locals := 65 } : Room) s m #[(.ref a1), (.ref a2)] below meth c s₁ [] 0 0 := Stand.of_body Bd
  have e0 : s₁.heap = h0 := by rw [← hh, Bd.state]; rfl
  have N0 := Fr.nil n0
  have pre0 : ∀ t, Steps p.tables e below (s₁.setTop (mkF m 0 #[.val (.ref a1), .val (.ref a2)] [])) t → Steps p.tables e below (s₁.setTop (entryFrame m #[(.ref a1), (.ref a2)] 2)) t := fun t k => castTop (ef_21 m a1 a2) k
  have lz101_a1 := E_a1.lt
  have lz101_a2 := E_a2.lt
  have lz101_sb := V_b.lt
  obtain ⟨_, _, ⟨T101, L101, k101, n101⟩, -, X101, ⟨Lc101, hQ101, l101, y101, z101⟩, st101⟩ := X0.specialBack hx (y := mn_17) rfl hown (mvT hZ (tw hw 127 rfl)) (mvT hZ (tw hw 128 rfl)) (mvT hZ (tw hw 129 rfl)) (by decide) (backOf (W := 0) (rmSNa_370336 l Z a0 hw [] a1 a2 n (uv) (uk) sb kb vs2 G1 h0 n0 X00 hn O2 P5 E_a1 S_v S_k g_a1 E_a2 F_v F_k F_c V_b g_a2 g_sb n_as n_12 n_1s) hZ (tw hw 129 rfl) (tw hw 3 rfl) (by decide) (by decide)) (g := (mkF m 3 #[vr a1, vr a2] [.null, wr a2, wr a1])) rfl (by rw [hml]; rfl) (Steps.refl _) (a := a1) (argsL := [wr a2, .null]) (rest := []) (lenOf pd_Ljava_lang_AbstractStringBuilder_Ljava_lang_Void__V rfl) rfl (Nat.le_refl _) (hb hby d21_3) (fun _ _ => ⟨rfl, e0, (by decide : 0 + 1 ≤ _), (by decide : 0 + 24 ≤ _)⟩)
  dsimp only [Pt.U, Pt.locs, Pt.cells, Pt.slots] at X101 l101 y101 z101 st101 hQ101
  subst l101 y101 z101
  obtain ⟨rfl, N101q, Kc101, ut101, uq101, ug101, us101, uE101, uv101, uk101, uV101⟩ := hQ101
  have N101 := Fr.app N0 N101q
  have lt_a1_ut101 : a1 < ut101 := Nat.lt_of_lt_of_le lz101_a1 us101
  have lt_a2_ut101 : a2 < ut101 := Nat.lt_of_lt_of_le lz101_a2 us101
  have lt_sb_ut101 : sb < ut101 := Nat.lt_of_lt_of_le lz101_sb us101
  have sz_ut101 : h0.size ≤ ut101 := Nat.le_trans (Keep.refl h0 [a1]).1 us101
  have y102 := ((Keep.refl h0 [a1]).trans Kc101 (allS (Or.inl (List.mem_of_getElem? (i := 0) rfl)) all0))
  obtain ⟨fs, hr, hrun, hended, hW, hsame⟩ := X101.leave (v := none) (fun _ => rfl)
  refine ⟨_, _, pre0 _ ?_, hrun, hended, _, _, rfl, ?_, ⟨_, rfl⟩, hW, hsame.mono (by decide) (by decide)⟩
  · show Go p e below s₁ (mkF m 0 #[vr a1, vr a2] []) _
    refine XS.aloadN X0.here hx rfl (hb hby d21_0) rfl rfl ?_
    show Go p e below s₁ (mkF m 1 #[vr a1, vr a2] [wr a1]) _
    refine XS.aloadN X0.here hx rfl (hb hby d21_1) rfl rfl ?_
    show Go p e below s₁ (mkF m 2 #[vr a1, vr a2] [wr a2, wr a1]) _
    refine XS.aconstNull X0.here hx rfl (hb hby d21_2) ?_
    show Go p e below s₁ (mkF m 3 #[vr a1, vr a2] [.null, wr a2, wr a1]) _
    refine st101.trans ?_
    show Go p e below T101 (mkF m 6 #[vr a1, vr a2] []) _
    exact X101.returnOut hx Bd.returns (hb hby d21_6) hr
  · show QSN Z a1 ((((0 : Int32) + n) + (21 : Int32)) - (0 : Int32)) (put (List.replicate ((((0 : Int32) + n) + (21 : Int32)) - (0 : Int32)).toNatClampNeg (Value.int (0 : Int32))) (cpy vs2 (0 : Int32) ((((0 : Int32) + n) + (21 : Int32)) - (0 : Int32))) (0 : Int32) ((((0 : Int32) + n) + (21 : Int32)) - (0 : Int32))) h0 n0 _ T101.heap _
    exact ⟨rfl, N101, y102, ut101, uq101, ug101, sz_ut101, uE101, uv101, uk101, uV101⟩
set_option maxRecDepth 65536 in
set_option maxHeartbeats 40000000 in
theorem rmTS_370336 (l : Launch) (Z : State) (a0 : Array Value) (hw : ∀ d ∈ tables_1, d.before a0 Z = true) (ws : List Jvm.Cond) (a1 : Addr) (n : Int32) (sb : Addr) (kb : ClassId) (vs2 : List Value) (G1 : Int32) (h0 : Heap) (n0 : Nat) (X00 : Old Z n0 h0) (hn : n = (0 : Int32) ∨ n = (1 : Int32) ∨ n = (2 : Int32) ∨ n = (3 : Int32)) (O2 : Sta Z Z.heap "java/lang/String" "COMPACT_STRINGS" "Z" (.int G1)) (P5 : ¬ (G1 = (0 : Int32))) (E_a1 : Exa Z h0 a1 "java/lang/StringBuilder") (F_v : Fld Z h0 a1 "java/lang/AbstractStringBuilder" "value" "[B" (.ref sb)) (F_k : Fld Z h0 a1 "java/lang/AbstractStringBuilder" "coder" "B" (.int (0 : Int32))) (F_c : Fld Z h0 a1 "java/lang/AbstractStringBuilder" "count" "I" (.int (((0 : Int32) + n) + (21 : Int32)))) (V_b : Arv Z h0 sb kb .byte (34 : Int32) vs2 (.int (0 : Int32))) (g_a1 : n0 ≤ a1) (g_sb : n0 ≤ sb) (n_as : a1 ≠ sb) :
    MetFree l mn_30 (head1 (Jvm.Cond.code mn_30 jdk_67_method_42_code 1 (some (.object "java/lang/String")) :: ws) ({ frames := 5, cells := 2, slots := 28, locals := 79 } : Room)) (fun a U => a = #[(.ref a1)] ∧ Z.Warmed39 U.vm ∧ U.heap = h0) (fun _ _ _ _ _ => True) (fun _ U o U' => ∃ rv rL, o = .returned rv ∧ QTS Z ((((0 : Int32) + n) + (21 : Int32)) - (0 : Int32)) (put (List.replicate ((((0 : Int32) + n) + (21 : Int32)) - (0 : Int32)).toNatClampNeg (Value.int (0 : Int32))) (cpy vs2 (0 : Int32) ((((0 : Int32) + n) + (21 : Int32)) - (0 : Int32))) (0 : Int32) ((((0 : Int32) + n) + (21 : Int32)) - (0 : Int32))) h0 n0 rv U'.heap rL ∧ FrameEnd U o U' rL ({ frames := 5, cells := 2, slots := 28, locals := 79 } : Room).cells ({ frames := 5, cells := 2, slots := 28, locals := 79 } : Room).slots) := by
  refine MetFree.of_bodySF (plainFor_of_name pn_20) hisR ?_
  intro p e s m args below meth c s₁ Bd hml0 hP hK
  obtain ⟨rfl, hZ, hh⟩ := hP
  have hx := Bd.exec
  have hby := Bd.bytes
  have hml : c.maxLocals = 1 := hml0
  have hown : s.vm.findClass "java/lang/StringBuilder" = some m.cls := findClass_of_methodNamed Bd.named
  have hnm := (name_of_methodNamed Bd.named Bd.method).1
  have X0 : Stand p l e ({ frames := 5, cells := 2, slots := 28, locals := 79 } : Room) s m #[(.ref a1)] below meth c s₁ [] 0 0 := Stand.of_body Bd
  have e0 : s₁.heap = h0 := by rw [← hh, Bd.state]; rfl
  have N0 := Fr.nil n0
  have pre0 : ∀ t, Steps p.tables e below (s₁.setTop (mkF m 0 #[.val (.ref a1)] [])) t → Steps p.tables e below (s₁.setTop (entryFrame m #[(.ref a1)] 1)) t := fun t k => castTop (ef_20 m a1) k
  have lz101_a1 := E_a1.lt
  have lz101_sb := V_b.lt
  obtain ⟨T101, h101, X101, e101, E101, A101, D101, U101, st101⟩ := newO X0 hx hZ hown (tw hw 123 rfl) (tw hw 2 rfl) (tw hw 3 rfl) e0 (g := (mkF m 0 #[vr a1] [])) rfl (hb hby d20_0) (by decide) (by decide)
  obtain ⟨b101, g101⟩ : ∃ z, z = h0.size := ⟨_, rfl⟩
  rw [← g101] at A101 D101 U101 st101
  have g_b101 : n0 ≤ b101 := Nat.le_trans (own_le X00) (Nat.le_of_eq g101.symm)
  have lt_a1_b101 : a1 < b101 := Nat.lt_of_lt_of_le lz101_a1 (Nat.le_of_eq g101.symm)
  have lt_sb_b101 : sb < b101 := Nat.lt_of_lt_of_le lz101_sb (Nat.le_of_eq g101.symm)
  have sz_b101 : h0.size ≤ b101 := Nat.le_trans (Keep.refl h0 []).1 (Nat.le_of_eq g101.symm)
  have F101_value : Fld Z h101 b101 "java/lang/String" "value" "[B" .null := D101 (Or.inr (tw hw 16 rfl)) (ty := (.array .byte)) (by decide)
  have F101_coder : Fld Z h101 b101 "java/lang/String" "coder" "B" (.int (0 : Int32)) := D101 (Or.inr (tw hw 17 rfl)) (ty := .byte) (by decide)
  have y102 := (E_a1.ext E101)
  have y103 := (F_v.ext E101)
  have y104 := (F_k.ext E101)
  have y105 := (F_c.ext E101)
  have y106 := (V_b.ext E101)
  have y107 := ((Keep.refl h0 []).ext E101)
  have y108 := (X00.ext E101)
  have lz109_a1 := y102.lt
  have lz109_sb := y106.lt
  have lz109_b101 := A101.lt
  obtain ⟨_, _, ⟨T109, L109, k109, n109⟩, -, X109, ⟨Lc109, hQ109, l109, y109, z109⟩, st109⟩ := X101.specialBack hx (y := mn_18) rfl hown (mvT hZ (tw hw 124 rfl)) (mvT hZ (tw hw 125 rfl)) (mvT hZ (tw hw 126 rfl)) (by decide) (backOf (W := 1) (rmSNb_370336 l Z a0 hw [] b101 a1 n (.null) ((.int (0 : Int32))) sb kb vs2 G1 h101 n0 y108 hn O2 P5 A101 F101_value F101_coder g_b101 y102 y103 y104 y105 y106 g_a1 g_sb n_as (Ne.symm (Nat.ne_of_lt lt_a1_b101)) (Ne.symm (Nat.ne_of_lt lt_sb_b101))) hZ (tw hw 126 rfl) (tw hw 3 rfl) (by decide) (by decide)) (g := (mkF m 5 #[vr a1] [wr a1, wr b101, wr b101])) rfl (by rw [hml]; rfl) (Steps.refl _) (a := b101) (argsL := [wr a1]) (rest := [wr b101]) (lenOf pd_Ljava_lang_StringBuilder__V rfl) rfl (Nat.le_refl _) (hb hby d20_5) (fun _ _ => ⟨rfl, e101, (by decide : 1 + 1 ≤ _), (by decide : 4 + 24 ≤ _)⟩)
  dsimp only [Pt.U, Pt.locs, Pt.cells, Pt.slots] at X109 l109 y109 z109 st109 hQ109
  subst l109 y109 z109
  obtain ⟨rfl, N109q, Kc109, ut109, uq109, ug109, us109, uE109, uv109, uk109, uV109⟩ := hQ109
  have N109 := Fr.app N0 N109q
  have lt_a1_ut109 : a1 < ut109 := Nat.lt_of_lt_of_le lz109_a1 us109
  have lt_sb_ut109 : sb < ut109 := Nat.lt_of_lt_of_le lz109_sb us109
  have lt_b101_ut109 : b101 < ut109 := Nat.lt_of_lt_of_le lz109_b101 us109
  have sz_ut109 : h0.size ≤ ut109 := Nat.le_trans y107.1 us109
  have y110 := (y107.trans Kc109 (allS (Or.inr sz_b101) all0))
  obtain ⟨fs, hr, hrun, hended, hW, hsame⟩ := X109.leave (v := some (.ref b101)) (fun h => by rw [Bd.returns] at h; cases h)
  refine ⟨_, _, pre0 _ ?_, hrun, hended, _, _, rfl, ?_, ⟨_, rfl⟩, hW, hsame.mono (by decide) (by decide)⟩
  · show Go p e below s₁ (mkF m 0 #[vr a1] []) _
    refine st101 _ ?_
    show Go p e below T101 (mkF m 3 #[vr a1] [wr b101]) _
    refine XS.dup X101.here hx rfl (hb hby d20_3) rfl rfl ?_
    show Go p e below T101 (mkF m 4 #[vr a1] [wr b101, wr b101]) _
    refine XS.aloadN X101.here hx rfl (hb hby d20_4) rfl rfl ?_
    show Go p e below T101 (mkF m 5 #[vr a1] [wr a1, wr b101, wr b101]) _
    refine st109.trans ?_
    show Go p e below T109 (mkF m 8 #[vr a1] [wr b101]) _
    jvm_step X109.here [X109.here.top, hx, (hb hby d20_8), X109.method', Bd.returns, Value.isRef, FieldType.isReference]
    first | (intro acts; rw [hr _ acts rfl rfl rfl]) | rw [hr _ _ rfl rfl rfl]
    exact Steps.refl _
  · show QTS Z ((((0 : Int32) + n) + (21 : Int32)) - (0 : Int32)) (put (List.replicate ((((0 : Int32) + n) + (21 : Int32)) - (0 : Int32)).toNatClampNeg (Value.int (0 : Int32))) (cpy vs2 (0 : Int32) ((((0 : Int32) + n) + (21 : Int32)) - (0 : Int32))) (0 : Int32) ((((0 : Int32) + n) + (21 : Int32)) - (0 : Int32))) h0 n0 _ T109.heap _
    exact ⟨_, _, _, rfl, N109, y110, g_b101, sz_b101, ug109, sz_ut109, uE109, uv109, uk109, uV109⟩
set_option maxRecDepth 65536 in
set_option maxHeartbeats 40000000 in
theorem rmU (l : Launch) (Z : State) (a0 : Array Value) (hw : ∀ d ∈ tables_1, d.before a0 Z = true) (ws : List Jvm.Cond) (a1 : Addr) (n : Int32) (t : Addr) (kt : ClassId) (vs1 : List Value) (G1 : Int32) (h0 : Heap) (n0 : Nat) (X00 : Old Z n0 h0) (hn : n = (0 : Int32) ∨ n = (1 : Int32) ∨ n = (2 : Int32) ∨ n = (3 : Int32)) (hl : l.stackTraces = true) (hr2 : ∀ d ∈ twoRefs, d.before a0 Z = true) (O2 : Sta Z Z.heap "java/lang/String" "COMPACT_STRINGS" "Z" (.int G1)) (P5 : ¬ (G1 = (0 : Int32))) (E_a1 : Exa Z h0 a1 "java/lang/String") (S_v : Fld Z h0 a1 "java/lang/String" "value" "[B" (.ref t)) (S_k : Fld Z h0 a1 "java/lang/String" "coder" "B" (.int (0 : Int32))) (V_t : Arv Z h0 t kt .byte n vs1 (.int (0 : Int32))) :
    MetFree l mn_2 (head1 (Jvm.Cond.code mn_2 prog_15_method_2_code 1 (some (.object "com/example/queryloom/queryloom/translation/TranslationException")) :: ws) ({ frames := 6, cells := 9, slots := 2928, locals := 93 } : Room)) (fun a U => a = #[(.ref a1)] ∧ Z.Warmed39 U.vm ∧ U.heap = h0 ∧ CHv Z consts_1 U.vm h0) (fun _ _ bl s _ => s.vm.MethodsKnown ∧ s.vm.FramesKnown bl) (fun _ U o U' => ∃ rv rL, o = .returned rv ∧ QUn Z ((((0 : Int32) + n) + (21 : Int32)) - (0 : Int32)) (put (List.replicate ((((0 : Int32) + n) + (21 : Int32)) - (0 : Int32)).toNatClampNeg (Value.int (0 : Int32))) (cpy (put (put cv_1 (cpy (put cv_0 (cpy vs1 (0 : Int32) n) (0 : Int32) n) (0 : Int32) (16 : Int32)) (0 : Int32) (16 : Int32)) (cpy cv_2 (0 : Int32) (21 : Int32)) (((0 : Int32) + n) <<< ((0 : Int32) &&& 31)) (21 : Int32)) (0 : Int32) ((((0 : Int32) + n) + (21 : Int32)) - (0 : Int32))) (0 : Int32) ((((0 : Int32) + n) + (21 : Int32)) - (0 : Int32))) h0 n0 rv U'.heap rL ∧ CHr Z consts_1 U.vm U.heap U'.vm U'.heap ∧ ReturnedEndW U o U' rL ({ frames := 6, cells := 9, slots := 2928, locals := 93 } : Room).cells ({ frames := 6, cells := 9, slots := 2928, locals := 93 } : Room).slots) := by
  refine MetFree.of_bodySF (plainFor_of_name pn_4) hisR ?_
  intro p e s m args below meth c s₁ Bd hml0 hP hK
  obtain ⟨rfl, hZ, hh, hCH⟩ := hP
  have hx := Bd.exec
  have hby := Bd.bytes
  have hml : c.maxLocals = 1 := hml0
  have hown : s.vm.findClass "com/example/queryloom/queryloom/translation/TranslationException" = some m.cls := findClass_of_methodNamed Bd.named
  have hnm := (name_of_methodNamed Bd.named Bd.method).1
  have X0 : Stand p l e ({ frames := 6, cells := 9, slots := 2928, locals := 93 } : Room) (s.setVm s.vm) m #[(.ref a1)] below meth c s₁ [] 0 0 := Stand.of_body Bd
  have e0 : s₁.heap = h0 := by rw [← hh, Bd.state]; rfl
  have N0 := Fr.nil n0
  have hS0 : s.Since s.vm s.heap.size := own_since s
  have hk0 : s.heap.size ≤ h0.size := by rw [hh]; exact Nat.le_refl _
  have hstr := own_str hw
  have hEL := own_EL hw
  have pre0 : ∀ t, Steps p.tables e below (s₁.setTop (mkF m 0 #[.val (.ref a1)] [])) t → Steps p.tables e below (s₁.setTop (entryFrame m #[(.ref a1)] 1)) t := fun t k => castTop (ef_4 m a1) k
  have lz101_a1 := E_a1.lt
  have lz101_t := V_t.lt
  obtain ⟨T101, h101, X101, e101, E101, A101, D101, U101, st101⟩ := newO X0 hx hZ hown (tw hw 26 rfl) (tw hw 27 rfl) (tw hw 24 rfl) e0 (g := (mkF m 0 #[vr a1] [])) rfl (hb hby d4_0) (by decide) (by decide)
  obtain ⟨b101, g101⟩ : ∃ z, z = h0.size := ⟨_, rfl⟩
  rw [← g101] at A101 D101 U101 st101
  have g_b101 : n0 ≤ b101 := Nat.le_trans (own_le X00) (Nat.le_of_eq g101.symm)
  have lt_a1_b101 : a1 < b101 := Nat.lt_of_lt_of_le lz101_a1 (Nat.le_of_eq g101.symm)
  have lt_t_b101 : t < b101 := Nat.lt_of_lt_of_le lz101_t (Nat.le_of_eq g101.symm)
  have sn101 : Safe Z consts_1 s.vm h0 b101 := Safe.new (Nat.le_of_eq g101.symm)
  have sz_b101 : h0.size ≤ b101 := Nat.le_trans (Keep.refl h0 []).1 (Nat.le_of_eq g101.symm)
  have sf102_b101 := Safe.ext E101 hCH sn101
  have cr102 := (CHr.refl hCH).trans (CHr.ext E101 hCH)
  have ch102 := CHv.ext E101 hCH
  have F101_cause : Fld Z h101 b101 "java/lang/Throwable" "cause" "Ljava/lang/Throwable;" .null := D101 (Or.inl (tw hw 173 rfl)) (ty := (.object "java/lang/Throwable")) (by decide)
  have F101_stackTrace : Fld Z h101 b101 "java/lang/Throwable" "stackTrace" "[Ljava/lang/StackTraceElement;" .null := D101 (Or.inl (tw hw 176 rfl)) (ty := (.array (.object "java/lang/StackTraceElement"))) (by decide)
  have F101_suppressedExceptions : Fld Z h101 b101 "java/lang/Throwable" "suppressedExceptions" "Ljava/util/List;" .null := D101 (Or.inl (tw hw 179 rfl)) (ty := (.object "java/util/List")) (by decide)
  have F101_detailMessage : Fld Z h101 b101 "java/lang/Throwable" "detailMessage" "Ljava/lang/String;" .null := D101 (Or.inl (tw hw 203 rfl)) (ty := (.object "java/lang/String")) (by decide)
  have F101_backtrace : Fld Z h101 b101 "java/lang/Throwable" "backtrace" "Ljava/lang/Object;" .null := D101 (Or.inl (tw hw 204 rfl)) (ty := (.object "java/lang/Object")) (by decide)
  have F101_depth : Fld Z h101 b101 "java/lang/Throwable" "depth" "I" (.int (0 : Int32)) := D101 (Or.inl (tw hw 205 rfl)) (ty := .int) (by decide)
  have y104 := (E_a1.ext E101)
  have lz103_a1 := y104.lt
  have y105 := (V_t.ext E101)
  have lz103_t := y105.lt
  have lz103_b101 := A101.lt
  obtain ⟨T103, h103, X103, e103, E103, A103, D103, U103, st103⟩ := newO X101 hx hZ hown (tw hw 28 rfl) (tw hw 29 rfl) (tw hw 30 rfl) e101 (g := (mkF m 4 #[vr a1] [wr b101, wr b101])) rfl (hb hby d4_4) (by decide) (by decide)
  obtain ⟨b103, g103⟩ : ∃ z, z = h101.size := ⟨_, rfl⟩
  rw [← g103] at A103 D103 U103 st103
  have y106 := (X00.ext E101)
  have g_b103 : n0 ≤ b103 := Nat.le_trans (own_le y106) (Nat.le_of_eq g103.symm)
  have lt_a1_b103 : a1 < b103 := Nat.lt_of_lt_of_le lz103_a1 (Nat.le_of_eq g103.symm)
  have lt_t_b103 : t < b103 := Nat.lt_of_lt_of_le lz103_t (Nat.le_of_eq g103.symm)
  have lt_b101_b103 : b101 < b103 := Nat.lt_of_lt_of_le lz103_b101 (Nat.le_of_eq g103.symm)
  have sn103 : Safe Z consts_1 s.vm h101 b103 := Safe.new (Nat.le_of_eq g103.symm)
  have y107 := ((Keep.refl h0 []).ext E101)
  have sz_b103 : h0.size ≤ b103 := Nat.le_trans y107.1 (Nat.le_of_eq g103.symm)
  have sf108_b101 := Safe.ext E103 ch102 sf102_b101
  have sf108_b103 := Safe.ext E103 ch102 sn103
  have cr108 := cr102.trans (CHr.ext E103 ch102)
  have ch108 := CHv.ext E103 ch102
  have F103_value : Fld Z h103 b103 "java/lang/AbstractStringBuilder" "value" "[B" .null := D103 (Or.inl (tw hw 43 rfl)) (ty := (.array .byte)) (by decide)
  have F103_coder : Fld Z h103 b103 "java/lang/AbstractStringBuilder" "coder" "B" (.int (0 : Int32)) := D103 (Or.inl (tw hw 45 rfl)) (ty := .byte) (by decide)
  have F103_count : Fld Z h103 b103 "java/lang/AbstractStringBuilder" "count" "I" (.int (0 : Int32)) := D103 (Or.inl (tw hw 68 rfl)) (ty := .int) (by decide)
  have y109 := (y107.ext E103)
  have y110 := (y106.ext E103)
  have y112 := (y104.ext E103)
  have lz111_a1 := y112.lt
  have y113 := (y105.ext E103)
  have lz111_t := y113.lt
  have y114 := (A101.ext E103)
  have lz111_b101 := y114.lt
  have lz111_b103 := A103.lt
  obtain ⟨_, _, ⟨T111, L111, k111, n111⟩, -, X111, ⟨Lc111, hQ111, l111, y111, z111⟩, st111⟩ := X103.specialBack hx (y := mn_27) rfl hown (mvT hZ (tw hw 31 rfl)) (mvT hZ (tw hw 32 rfl)) (mvT hZ (tw hw 33 rfl)) (by decide) (backOf (W := 3) (rmI_B l Z a0 hw [] b103 n G1 h103 n0 y110 hn O2 P5 A103 F103_value F103_coder F103_count g_b103) hZ (tw hw 33 rfl) (tw hw 30 rfl) (by decide) (by decide)) (g := (mkF m 8 #[vr a1] [wr b103, wr b103, wr b101, wr b101])) rfl (by rw [hml]; rfl) (Steps.refl _) (a := b103) (argsL := []) (rest := [wr b103, wr b101, wr b101]) (lenOf pd__V rfl) rfl (Nat.le_refl _) (hb hby d4_8) (fun _ _ => ⟨rfl, e103, (by decide : 2 + 1 ≤ _), (by decide : 10 + 16 ≤ _)⟩)
  dsimp only [Pt.U, Pt.locs, Pt.cells, Pt.slots] at X111 l111 y111 z111 st111 hQ111
  subst l111 y111 z111
  obtain ⟨rfl, N111q, Kc111, ub111, uq111, ug111, us111, uE111, uv111, uk111, uc111, uV111⟩ := hQ111
  have N111 := Fr.app N0 N111q
  have sn111_ub111 : Safe Z consts_1 s.vm h103 ub111 := Safe.new us111
  have hs115_ : ∀ x ∈ ([b103] : List Addr), Safe Z consts_1 s.vm h103 x := (allS sf108_b103 all0)
  have sf115_b101 := Safe.keep Kc111 hs115_ ch108 sf108_b101
  have sf115_b103 := Safe.keep Kc111 hs115_ ch108 sf108_b103
  have sf115_ub111 := Safe.keep Kc111 hs115_ ch108 sn111_ub111
  have cr115 := cr108.trans (CHr.keep Kc111 hs115_ ch108)
  have ch115 := CHv.keep Kc111 hs115_ ch108
  have lt_a1_ub111 : a1 < ub111 := Nat.lt_of_lt_of_le lz111_a1 us111
  have lt_t_ub111 : t < ub111 := Nat.lt_of_lt_of_le lz111_t us111
  have lt_b101_ub111 : b101 < ub111 := Nat.lt_of_lt_of_le lz111_b101 us111
  have lt_b103_ub111 : b103 < ub111 := Nat.lt_of_lt_of_le lz111_b103 us111
  have sz_ub111 : h0.size ≤ ub111 := Nat.le_trans y109.1 us111
  have y116 := (y112.keep Kc111)
  have y117 := (((S_v.ext E101).ext E103).keep Kc111 (own_nmc (Nat.ne_of_lt lt_a1_b103) own_nm0))
  have y118 := (((S_k.ext E101).ext E103).keep Kc111 (own_nmc (Nat.ne_of_lt lt_a1_b103) own_nm0))
  have y119 := (y113.keep Kc111 (own_nmc (Nat.ne_of_lt lt_t_b103) own_nm0))
  have y120 := (y109.trans Kc111 (allS (Or.inr sz_b103) all0))
  have y121 := (y110.keep Kc111 (allS g_b103 all0))
  obtain ⟨cq122, kq122, q122a, q122b, q122c⟩ := isOf hZ rfl uE111
  obtain ⟨_, _, ⟨T122, L122, k122, n122⟩, -, X122, ⟨Lc122, hQ122, l122, y122, z122⟩, st122⟩ := X111.virtualBack hx (y := mn_28) (z := mn_28) hown (mvT hZ (tw hw 46 rfl)) (mvT hZ (tw hw 47 rfl)) (notFace_of_selects (args := #[]) (mvT hZ (tw hw 49 rfl))) (mvT hZ (tw hw 49 rfl)) (mvT hZ (tw hw 48 rfl)) (by decide) (backOf (W := 2) (rmAPb_09195b l Z a0 hw [] b103 a1 n t kt ub111 uq111 vs1 cv_0 G1 T111.heap n0 y121 hn O2 P5 y116 y117 y118 y119 uE111 uv111 uk111 uc111 uV111 g_b103 ug111 (Nat.ne_of_lt lt_b103_ub111) (Nat.ne_of_lt lt_a1_b103) (Nat.ne_of_lt lt_a1_ub111) (Nat.ne_of_lt lt_t_b103) (Nat.ne_of_lt lt_t_ub111) rfl) hZ (tw hw 50 rfl) (tw hw 30 rfl) (by decide) (by decide)) q122a q122c (g := (mkF m 12 #[vr a1] [wr a1, wr b103, wr b101, wr b101])) rfl (by rw [hml]; rfl) (Steps.refl _) (argsL := [wr a1]) (rest := [wr b101, wr b101]) (lenOf pd_Ljava_lang_String__Ljava_lang_StringBuilder_ rfl) rfl (Nat.le_refl _) (hb hby d4_12) (fun _ _ => ⟨rfl, rfl, (by decide : 3 + 0 ≤ _), (by decide : 26 + 0 ≤ _)⟩)
  dsimp only [Pt.U, Pt.locs, Pt.cells, Pt.slots] at X122 l122 y122 z122 st122 hQ122
  subst l122 y122 z122
  obtain ⟨rfl, N122q, Kc122, uE122, uv122, uk122, uc122, uV122⟩ := hQ122
  have N122 := Fr.app N111 N122q
  have hs123_ : ∀ x ∈ ([b103, ub111] : List Addr), Safe Z consts_1 s.vm T111.heap x := (allS sf115_b103 (allS sf115_ub111 all0))
  have sf123_b101 := Safe.keep Kc122 hs123_ ch115 sf115_b101
  have sf123_b103 := Safe.keep Kc122 hs123_ ch115 sf115_b103
  have sf123_ub111 := Safe.keep Kc122 hs123_ ch115 sf115_ub111
  have cr123 := cr115.trans (CHr.keep Kc122 hs123_ ch115)
  have ch123 := CHv.keep Kc122 hs123_ ch115
  have y125 := (y116.keep Kc122)
  have lz124_a1 := y125.lt
  have y126 := (y119.keep Kc122 (own_nmc (Nat.ne_of_lt lt_t_b103) (own_nmc (Nat.ne_of_lt lt_t_ub111) own_nm0)))
  have lz124_t := y126.lt
  have y127 := ((y114.keep Kc111).keep Kc122)
  have lz124_b101 := y127.lt
  have lz124_b103 := uE122.lt
  have lz124_ub111 := uV122.lt
  have y128 := (Nat.le_trans (Nat.le_trans (Nat.le_trans (Nat.le_trans hk0 E101.1) E103.1) Kc111.1) Kc122.1)
  obtain ⟨a124, T124, h124, k124, c124, kc124, X124, e124, E124, hS124, hk124, hZ124, hown124, A124, Fc124, Fv124, V124, la124, lc124, R124, -, ns124, st124⟩ := ldcCH (z := (21 : Int32)) (vs := [(.int (32 : Int32)), (.int (105 : Int32)), (.int (115 : Int32)), (.int (32 : Int32)), (.int (110 : Int32)), (.int (111 : Int32)), (.int (116 : Int32)), (.int (32 : Int32)), (.int (115 : Int32)), (.int (117 : Int32)), (.int (112 : Int32)), (.int (112 : Int32)), (.int (111 : Int32)), (.int (114 : Int32)), (.int (116 : Int32)), (.int (101 : Int32)), (.int (100 : Int32)), (.int (32 : Int32)), (.int (121 : Int32)), (.int (101 : Int32)), (.int (116 : Int32))]) X122 hx hZ hown (tw hw 94 rfl) hstr rfl hS0 y128 hEL (by decide) ch123 ⟨by decide, by decide⟩ (by decide) (by decide) (g := (mkF m 15 #[vr a1] [wr b103, wr b101, wr b101])) rfl (hb hby d4_15) (n := 84) (by decide) (by decide) (by decide) (by decide)
  have sf129_b101 := R124.safe lz124_b101 sf123_b101
  have sf129_b103 := R124.safe lz124_b103 sf123_b103
  have sf129_ub111 := R124.safe lz124_ub111 sf123_ub111
  have cr129 := cr123.trans R124
  have ch129 := R124.1
  have tk130 := Vm.MethodsKnown.alikeC (own_al hS124) hK.1
  have bk130 := Vm.FramesKnown.alikeC (own_al hS124) hK.2
  have y131 := (uE122.ext E124)
  have y132 := (uv122.ext E124)
  have y133 := (uk122.ext E124)
  have y134 := (uc122.ext E124)
  have y135 := (uV122.ext E124)
  have y136 := ((y120.trans Kc122 (allS (Or.inr sz_b103) (allS (Or.inr sz_ub111) all0))).ext E124)
  have y137 := ((y121.keep Kc122 (allS g_b103 (allS ug111 all0))).ext E124)
  have y139 := (y125.ext E124)
  have lz138_a1 := y139.lt
  have y140 := (y126.ext E124)
  have lz138_t := y140.lt
  have y141 := (y127.ext E124)
  have lz138_b101 := y141.lt
  have lz138_b103 := y131.lt
  have lz138_ub111 := y135.lt
  have lz138_a124 := A124.lt
  have lz138_c124 := V124.lt
  obtain ⟨cq138, kq138, q138a, q138b, q138c⟩ := isOf hZ124 e124 y131
  obtain ⟨_, _, ⟨T138, L138, k138, n138⟩, -, X138, ⟨Lc138, hQ138, l138, y138, z138⟩, st138⟩ := X124.virtualBack hx (y := mn_28) (z := mn_28) hown124 (mvT hZ124 (tw hw 46 rfl)) (mvT hZ124 (tw hw 47 rfl)) (notFace_of_selects (args := #[]) (mvT hZ124 (tw hw 49 rfl))) (mvT hZ124 (tw hw 49 rfl)) (mvT hZ124 (tw hw 48 rfl)) (by decide) (backOf (W := 2) (rmAPb_3e4f49 l Z a0 hw [] b103 a124 n c124 kc124 ub111 uq111 cv_2 (put cv_0 (cpy vs1 (0 : Int32) n) (0 : Int32) n) G1 h124 n0 y137 hn O2 P5 A124 Fv124 Fc124 V124 y131 y132 y133 y134 y135 g_b103 ug111 (Nat.ne_of_lt lt_b103_ub111) (Ne.symm (ns124 _ sf129_b103).1) (Ne.symm (ns124 _ sf129_ub111).1) (Ne.symm (ns124 _ sf129_b103).2) (Ne.symm (ns124 _ sf129_ub111).2) ) hZ124 (tw hw 50 rfl) (tw hw 30 rfl) (by decide) (by decide)) q138a q138c (g := (mkF m 17 #[vr a1] [wr a124, wr b103, wr b101, wr b101])) rfl (by rw [hml]; rfl) (Steps.refl _) (argsL := [wr a124]) (rest := [wr b101, wr b101]) (lenOf pd_Ljava_lang_String__Ljava_lang_StringBuilder_ rfl) rfl (Nat.le_refl _) (hb hby d4_17) (fun _ _ => ⟨rfl, e124, (by decide : 5 + 1 ≤ _), (by decide : 114 + 34 ≤ _)⟩)
  dsimp only [Pt.U, Pt.locs, Pt.cells, Pt.slots] at X138 l138 y138 z138 st138 hQ138
  subst l138 y138 z138
  obtain ⟨rfl, N138q, Kc138, ub138, uq138, ug138, us138, uE138, uv138, uk138, uc138, uV138⟩ := hQ138
  have N138 := Fr.app N122 N138q
  have sn138_ub138 : Safe Z consts_1 T124.vm h124 ub138 := Safe.new us138
  have hs142_ : ∀ x ∈ ([b103] : List Addr), Safe Z consts_1 T124.vm h124 x := (allS sf129_b103 all0)
  have sf142_b101 := Safe.keep Kc138 hs142_ ch129 sf129_b101
  have sf142_b103 := Safe.keep Kc138 hs142_ ch129 sf129_b103
  have sf142_ub111 := Safe.keep Kc138 hs142_ ch129 sf129_ub111
  have sf142_ub138 := Safe.keep Kc138 hs142_ ch129 sn138_ub138
  have cr142 := cr129.trans (CHr.keep Kc138 hs142_ ch129)
  have ch142 := CHv.keep Kc138 hs142_ ch129
  have lt_a1_ub138 : a1 < ub138 := Nat.lt_of_lt_of_le lz138_a1 us138
  have lt_t_ub138 : t < ub138 := Nat.lt_of_lt_of_le lz138_t us138
  have lt_b101_ub138 : b101 < ub138 := Nat.lt_of_lt_of_le lz138_b101 us138
  have lt_b103_ub138 : b103 < ub138 := Nat.lt_of_lt_of_le lz138_b103 us138
  have lt_ub111_ub138 : ub111 < ub138 := Nat.lt_of_lt_of_le lz138_ub111 us138
  have lt_a124_ub138 : a124 < ub138 := Nat.lt_of_lt_of_le lz138_a124 us138
  have lt_c124_ub138 : c124 < ub138 := Nat.lt_of_lt_of_le lz138_c124 us138
  have sz_ub138 : h0.size ≤ ub138 := Nat.le_trans y136.1 us138
  have y143 := (y136.trans Kc138 (allS (Or.inr sz_b103) all0))
  have y144 := (y137.keep Kc138 (allS g_b103 all0))
  have y146 := (y139.keep Kc138)
  have lz145_a1 := y146.lt
  have y147 := (y140.keep Kc138 (own_nmc (Nat.ne_of_lt lt_t_b103) own_nm0))
  have lz145_t := y147.lt
  have y148 := (y141.keep Kc138)
  have lz145_b101 := y148.lt
  have lz145_b103 := uE138.lt
  have y149 := (y135.keep Kc138 (own_nmc (Ne.symm (Nat.ne_of_lt lt_b103_ub111)) own_nm0))
  have lz145_ub111 := y149.lt
  have y150 := (A124.keep Kc138)
  have lz145_a124 := y150.lt
  have y151 := (V124.keep Kc138 (own_nmc (Ne.symm (ns124 _ sf129_b103).2) own_nm0))
  have lz145_c124 := y151.lt
  have lz145_ub138 := uV138.lt
  obtain ⟨cq145, kq145, q145a, q145b, q145c⟩ := isOf hZ124 rfl uE138
  obtain ⟨_, _, ⟨T145, L145, k145, n145⟩, -, X145, ⟨Lc145, hQ145, l145, y145, z145⟩, st145⟩ := X138.virtualBack hx (y := mn_30) (z := mn_30) hown124 (mvT hZ124 (tw hw 118 rfl)) (mvT hZ124 (tw hw 119 rfl)) (notFace_of_selects (args := #[]) (mvT hZ124 (tw hw 121 rfl))) (mvT hZ124 (tw hw 121 rfl)) (mvT hZ124 (tw hw 120 rfl)) (by decide) (backOf (W := 2) (rmTS_370336 l Z a0 hw [] b103 n ub138 uq138 (put (put cv_1 (cpy (put cv_0 (cpy vs1 (0 : Int32) n) (0 : Int32) n) (0 : Int32) (16 : Int32)) (0 : Int32) (16 : Int32)) (cpy cv_2 (0 : Int32) (21 : Int32)) (((0 : Int32) + n) <<< ((0 : Int32) &&& 31)) (21 : Int32)) G1 T138.heap n0 y144 hn O2 P5 uE138 uv138 uk138 uc138 uV138 g_b103 ug138 (Nat.ne_of_lt lt_b103_ub138)) hZ124 (tw hw 122 rfl) (tw hw 30 rfl) (by decide) (by decide)) q145a q145c (g := (mkF m 20 #[vr a1] [wr b103, wr b101, wr b101])) rfl (by rw [hml]; rfl) (Steps.refl _) (argsL := []) (rest := [wr b101, wr b101]) (lenOf pd__Ljava_lang_String_ rfl) rfl (Nat.le_refl _) (hb hby d4_20) (fun _ _ => ⟨rfl, rfl, (by decide : 6 + 2 ≤ _), (by decide : 148 + 28 ≤ _)⟩)
  dsimp only [Pt.U, Pt.locs, Pt.cells, Pt.slots] at X145 l145 y145 z145 st145 hQ145
  subst l145 y145 z145
  obtain ⟨ux145, ut145, uq145, rfl, N145q, Kc145, ug145, us145, uh145, ui145, uE145, uv145, uk145, uV145⟩ := hQ145
  have N145 := Fr.app N138 N145q
  have sn145_ux145 : Safe Z consts_1 T124.vm T138.heap ux145 := Safe.new us145
  have sn145_ut145 : Safe Z consts_1 T124.vm T138.heap ut145 := Safe.new ui145
  have hs152_ : ∀ x ∈ ([] : List Addr), Safe Z consts_1 T124.vm T138.heap x := all0
  have sf152_b101 := Safe.keep Kc145 hs152_ ch142 sf142_b101
  have sf152_b103 := Safe.keep Kc145 hs152_ ch142 sf142_b103
  have sf152_ub111 := Safe.keep Kc145 hs152_ ch142 sf142_ub111
  have sf152_ub138 := Safe.keep Kc145 hs152_ ch142 sf142_ub138
  have sf152_ux145 := Safe.keep Kc145 hs152_ ch142 sn145_ux145
  have sf152_ut145 := Safe.keep Kc145 hs152_ ch142 sn145_ut145
  have cr152 := cr142.trans (CHr.keep Kc145 hs152_ ch142)
  have ch152 := CHv.keep Kc145 hs152_ ch142
  have lt_a1_ux145 : a1 < ux145 := Nat.lt_of_lt_of_le lz145_a1 us145
  have lt_t_ux145 : t < ux145 := Nat.lt_of_lt_of_le lz145_t us145
  have lt_b101_ux145 : b101 < ux145 := Nat.lt_of_lt_of_le lz145_b101 us145
  have lt_b103_ux145 : b103 < ux145 := Nat.lt_of_lt_of_le lz145_b103 us145
  have lt_ub111_ux145 : ub111 < ux145 := Nat.lt_of_lt_of_le lz145_ub111 us145
  have lt_a124_ux145 : a124 < ux145 := Nat.lt_of_lt_of_le lz145_a124 us145
  have lt_c124_ux145 : c124 < ux145 := Nat.lt_of_lt_of_le lz145_c124 us145
  have lt_ub138_ux145 : ub138 < ux145 := Nat.lt_of_lt_of_le lz145_ub138 us145
  have lt_a1_ut145 : a1 < ut145 := Nat.lt_of_lt_of_le lz145_a1 ui145
  have lt_t_ut145 : t < ut145 := Nat.lt_of_lt_of_le lz145_t ui145
  have lt_b101_ut145 : b101 < ut145 := Nat.lt_of_lt_of_le lz145_b101 ui145
  have lt_b103_ut145 : b103 < ut145 := Nat.lt_of_lt_of_le lz145_b103 ui145
  have lt_ub111_ut145 : ub111 < ut145 := Nat.lt_of_lt_of_le lz145_ub111 ui145
  have lt_a124_ut145 : a124 < ut145 := Nat.lt_of_lt_of_le lz145_a124 ui145
  have lt_c124_ut145 : c124 < ut145 := Nat.lt_of_lt_of_le lz145_c124 ui145
  have lt_ub138_ut145 : ub138 < ut145 := Nat.lt_of_lt_of_le lz145_ub138 ui145
  have sz_ux145 : h0.size ≤ ux145 := Nat.le_trans y143.1 us145
  have sz_ut145 : h0.size ≤ ut145 := Nat.le_trans y143.1 ui145
  have y153 := (y148.keep Kc145)
  have y154 := (own_untK (own_untK (Unt.ext E124 (own_untK (own_untK (Unt.ext E103 U101) Kc111 (own_nmc (Nat.ne_of_lt lt_b101_b103) own_nm0)) Kc122 (own_nmc (Nat.ne_of_lt lt_b101_b103) (own_nmc (Nat.ne_of_lt lt_b101_ub111) own_nm0)))) Kc138 (own_nmc (Nat.ne_of_lt lt_b101_b103) own_nm0)) Kc145 own_nm0)
  have y155 := ((((((F101_backtrace.ext E103).keep Kc111 (own_nmc (Nat.ne_of_lt lt_b101_b103) own_nm0)).keep Kc122 (own_nmc (Nat.ne_of_lt lt_b101_b103) (own_nmc (Nat.ne_of_lt lt_b101_ub111) own_nm0))).ext E124).keep Kc138 (own_nmc (Nat.ne_of_lt lt_b101_b103) own_nm0)).keep Kc145 own_nm0)
  have y156 := ((((((F101_detailMessage.ext E103).keep Kc111 (own_nmc (Nat.ne_of_lt lt_b101_b103) own_nm0)).keep Kc122 (own_nmc (Nat.ne_of_lt lt_b101_b103) (own_nmc (Nat.ne_of_lt lt_b101_ub111) own_nm0))).ext E124).keep Kc138 (own_nmc (Nat.ne_of_lt lt_b101_b103) own_nm0)).keep Kc145 own_nm0)
  have y157 := ((((((F101_cause.ext E103).keep Kc111 (own_nmc (Nat.ne_of_lt lt_b101_b103) own_nm0)).keep Kc122 (own_nmc (Nat.ne_of_lt lt_b101_b103) (own_nmc (Nat.ne_of_lt lt_b101_ub111) own_nm0))).ext E124).keep Kc138 (own_nmc (Nat.ne_of_lt lt_b101_b103) own_nm0)).keep Kc145 own_nm0)
  have y158 := ((((((F101_stackTrace.ext E103).keep Kc111 (own_nmc (Nat.ne_of_lt lt_b101_b103) own_nm0)).keep Kc122 (own_nmc (Nat.ne_of_lt lt_b101_b103) (own_nmc (Nat.ne_of_lt lt_b101_ub111) own_nm0))).ext E124).keep Kc138 (own_nmc (Nat.ne_of_lt lt_b101_b103) own_nm0)).keep Kc145 own_nm0)
  have y159 := ((((((F101_suppressedExceptions.ext E103).keep Kc111 (own_nmc (Nat.ne_of_lt lt_b101_b103) own_nm0)).keep Kc122 (own_nmc (Nat.ne_of_lt lt_b101_b103) (own_nmc (Nat.ne_of_lt lt_b101_ub111) own_nm0))).ext E124).keep Kc138 (own_nmc (Nat.ne_of_lt lt_b101_b103) own_nm0)).keep Kc145 own_nm0)
  have y160 := (y143.trans Kc145 all0)
  have y161 := (y144.keep Kc145 all0)
  obtain ⟨_, _, ⟨T162, L162, k162, n162⟩, -, X162, ⟨Lc162, hQ162, l162, y162, z162⟩, st162⟩ := X145.specialBack hx (y := mn_0) rfl hown124 (mvT hZ124 (tw hw 157 rfl)) (mvT hZ124 (tw hw 158 rfl)) (mvT hZ124 (tw hw 159 rfl)) (by decide) (backOfKL (W := 1) (rmTE l Z a0 hw [] b101 ux145 T145.heap n0 y161 hl hr2 y153 y154 y155 y156 y157 y158 y159 g_b101) hZ124 (tw hw 159 rfl) (tw hw 24 rfl) (by decide) (by decide) tk130 bk130) (g := (mkF m 23 #[vr a1] [wr ux145, wr b101, wr b101])) rfl (by rw [hml]; rfl) (Steps.refl _) (a := b101) (argsL := [wr ux145]) (rest := [wr b101]) (lenOf pd_Ljava_lang_String__V rfl) rfl (Nat.le_refl _) (hb hby d4_23) (fun _ _ => ⟨rfl, rfl, (by decide : 8 + 1 ≤ _), (by decide : 176 + 2752 ≤ _)⟩)
  dsimp only [Pt.U, Pt.locs, Pt.cells, Pt.slots] at X162 l162 y162 z162 st162 hQ162
  subst l162 y162 z162
  obtain ⟨rfl, N162q, Kc162, uE162, um162⟩ := hQ162
  have N162 := Fr.app N145 N162q
  have hs163_ : ∀ x ∈ ([b101] : List Addr), Safe Z consts_1 T124.vm T145.heap x := (allS sf152_b101 all0)
  have sf163_b101 := Safe.keep Kc162 hs163_ ch152 sf152_b101
  have sf163_b103 := Safe.keep Kc162 hs163_ ch152 sf152_b103
  have sf163_ub111 := Safe.keep Kc162 hs163_ ch152 sf152_ub111
  have sf163_ub138 := Safe.keep Kc162 hs163_ ch152 sf152_ub138
  have sf163_ux145 := Safe.keep Kc162 hs163_ ch152 sf152_ux145
  have sf163_ut145 := Safe.keep Kc162 hs163_ ch152 sf152_ut145
  have cr163 := cr152.trans (CHr.keep Kc162 hs163_ ch152)
  have ch163 := CHv.keep Kc162 hs163_ ch152
  have y164 := (y160.trans Kc162 (allS (Or.inr sz_b101) all0))
  have y165 := (uE145.keep Kc162)
  have y166 := (uv145.keep Kc162 (own_nmc (Ne.symm (Nat.ne_of_lt lt_b101_ux145)) own_nm0))
  have y167 := (uk145.keep Kc162 (own_nmc (Ne.symm (Nat.ne_of_lt lt_b101_ux145)) own_nm0))
  have y168 := (uV145.keep Kc162 (own_nmc (Ne.symm (Nat.ne_of_lt lt_b101_ut145)) own_nm0))
  have y169 := (Nat.le_trans (Nat.le_trans (Nat.le_trans hk124 Kc138.1) Kc145.1) Kc162.1)
  obtain ⟨fs, hr, hrun, hended, hRW⟩ := X162.leaveW hS124 y169 (v := some (.ref b101)) (fun h => by rw [Bd.returns] at h; cases h)
  have crE : CHr Z consts_1 s.vm s.heap T162.vm T162.heap := own_chr hh rfl (cr163.trans (CHv.at X162 hZ124 hEL ch163))
  refine ⟨_, _, pre0 _ ?_, hrun, hended, _, _, rfl, ?_, crE, hRW.1, hRW.2.1, hRW.2.2.1, hRW.2.2.2.mono (by decide) (by decide)⟩
  · show Go p e below s₁ (mkF m 0 #[vr a1] []) _
    refine st101 _ ?_
    show Go p e below T101 (mkF m 3 #[vr a1] [wr b101]) _
    refine XS.dup X101.here hx rfl (hb hby d4_3) rfl rfl ?_
    show Go p e below T101 (mkF m 4 #[vr a1] [wr b101, wr b101]) _
    refine st103 _ ?_
    show Go p e below T103 (mkF m 7 #[vr a1] [wr b103, wr b101, wr b101]) _
    refine XS.dup X103.here hx rfl (hb hby d4_7) rfl rfl ?_
    show Go p e below T103 (mkF m 8 #[vr a1] [wr b103, wr b103, wr b101, wr b101]) _
    refine st111.trans ?_
    show Go p e below T111 (mkF m 11 #[vr a1] [wr b103, wr b101, wr b101]) _
    refine XS.aloadN X111.here hx rfl (hb hby d4_11) rfl rfl ?_
    show Go p e below T111 (mkF m 12 #[vr a1] [wr a1, wr b103, wr b101, wr b101]) _
    refine st122.trans ?_
    show Go p e below T122 (mkF m 15 #[vr a1] [wr b103, wr b101, wr b101]) _
    refine st124 _ ?_
    show Go p e below T124 (mkF m 17 #[vr a1] [wr a124, wr b103, wr b101, wr b101]) _
    refine st138.trans ?_
    show Go p e below T138 (mkF m 20 #[vr a1] [wr b103, wr b101, wr b101]) _
    refine st145.trans ?_
    show Go p e below T145 (mkF m 23 #[vr a1] [wr ux145, wr b101, wr b101]) _
    refine st162.trans ?_
    show Go p e below T162 (mkF m 26 #[vr a1] [wr b101]) _
    jvm_step X162.here [X162.here.top, hx, (hb hby d4_26), X162.method', Bd.returns, Value.isRef, FieldType.isReference]
    first | (intro acts; rw [hr _ acts rfl rfl rfl]) | rw [hr _ _ rfl rfl rfl]
    exact Steps.refl _
  · show QUn Z ((((0 : Int32) + n) + (21 : Int32)) - (0 : Int32)) (put (List.replicate ((((0 : Int32) + n) + (21 : Int32)) - (0 : Int32)).toNatClampNeg (Value.int (0 : Int32))) (cpy (put (put cv_1 (cpy (put cv_0 (cpy vs1 (0 : Int32) n) (0 : Int32) n) (0 : Int32) (16 : Int32)) (0 : Int32) (16 : Int32)) (cpy cv_2 (0 : Int32) (21 : Int32)) (((0 : Int32) + n) <<< ((0 : Int32) &&& 31)) (21 : Int32)) (0 : Int32) ((((0 : Int32) + n) + (21 : Int32)) - (0 : Int32))) (0 : Int32) ((((0 : Int32) + n) + (21 : Int32)) - (0 : Int32))) h0 n0 _ T162.heap _
    exact ⟨_, _, _, _, rfl, N162, y164, uE162, um162, y165, y166, y167, y168⟩
set_option maxRecDepth 65536 in
set_option maxHeartbeats 40000000 in
theorem rmSuf (l : Launch) (Z : State) (a0 : Array Value) (hw : ∀ d ∈ tables_1, d.before a0 Z = true) (ws : List Jvm.Cond) (a1 : Addr) (n : Int32) (t : Addr) (kt : ClassId) (fm : Value) (z : Int32) (vs1 : List Value) (cs : List Int32) (G1 : Int32) (h0 : Heap) (n0 : Nat) (X00 : Old Z n0 h0) (hn : n = (0 : Int32) ∨ n = (1 : Int32) ∨ n = (2 : Int32) ∨ n = (3 : Int32)) (O2 : Sta Z Z.heap "java/lang/String" "COMPACT_STRINGS" "Z" (.int G1)) (P5 : ¬ (G1 = (0 : Int32))) (FM : Sta Z Z.heap "jdk/internal/util/Preconditions" "SIOOBE_FORMATTER" "Ljava/util/function/BiFunction;" fm) (rf : fm.isRef = true) (E_a1 : Exa Z h0 a1 "java/lang/String") (S_v : Fld Z h0 a1 "java/lang/String" "value" "[B" (.ref t)) (S_k : Fld Z h0 a1 "java/lang/String" "coder" "B" (.int (0 : Int32))) (V_t : Arv Z h0 t kt .byte z vs1 (.int (0 : Int32))) (hcd : StrChars.Road.CodA cs 0 z vs1) (hcs : ∀ c ∈ cs, ¬ c < 0 ∧ ¬ (255 : Int32) < c) (hln : cs.length = n.toNatClampNeg + 21) (hch : ∀ i, i < 21 → cs.getD (n.toNatClampNeg + i) 0 = (ci_3 : List Int32).getD i 0) :
    MetFree l mn_3 (head1 (Jvm.Cond.code mn_3 method_2_code 2 (some .boolean) :: ws) ({ frames := 4, cells := 0, slots := 0, locals := 53 } : Room)) (fun a U => a = #[(.ref a1), (.int n)] ∧ Z.Warmed39 U.vm ∧ U.heap = h0) (fun _ _ _ _ _ => True) (fun _ U o U' => ∃ rv rL, o = .returned rv ∧ Qs (some (.int (1 : Int32))) h0 n0 rv U'.heap rL ∧ FrameEnd U o U' rL ({ frames := 4, cells := 0, slots := 0, locals := 53 } : Room).cells ({ frames := 4, cells := 0, slots := 0, locals := 53 } : Room).slots) := by
  refine MetFree.of_bodySF (plainFor_of_name pn_36) hisR ?_
  intro p e s m args below meth c s₁ Bd hml0 hP hK
  obtain ⟨rfl, hZ, hh⟩ := hP
  have hx := Bd.exec
  have hby := Bd.bytes
  have hml : c.maxLocals = 2 := hml0
  have hown : s.vm.findClass "com/example/queryloom/queryloom/translation/TranslationExceptionUnsupportedPinLaw" = some m.cls := findClass_of_methodNamed Bd.named
  have hnm := (name_of_methodNamed Bd.named Bd.method).1
  have X0 : Stand p l e ({ frames := 4, cells := 0, slots := 0, locals := 53 } : Room) s m #[(.ref a1), (.int n)] below meth c s₁ [] 0 0 := Stand.of_body Bd
  have e0 : s₁.heap = h0 := by rw [← hh, Bd.state]; rfl
  have N0 := Fr.nil n0
  have pre0 : ∀ t, Steps p.tables e below (s₁.setTop (mkF m 0 #[.val (.ref a1), .val (.int n)] [])) t → Steps p.tables e below (s₁.setTop (entryFrame m #[(.ref a1), (.int n)] 2)) t := fun t k => castTop (ef_36 m a1 n) k
  have hwc : ∀ d ∈ StrChars.Road.wordsChN, d.before a0 Z = true := fun d hd => hw d ((by decide +kernel : ∀ d ∈ StrChars.Road.wordsChN, d ∈ tables_1) d hd)
  have hl4 : cs.length ≤ 4000 := by rw [hln]; exact (own_4 (P := fun n => n.toNatClampNeg + 21 ≤ 4000) hn (by decide))
  obtain ⟨cq101, kq101, q101a, q101b, q101c⟩ := isOf hZ e0 E_a1
  obtain ⟨_, _, ⟨T101, L101, k101, n101⟩, -, X101, ⟨Lc101, hQ101, l101, y101, z101⟩, st101⟩ := X0.virtualBack hx (y := mn_21) (z := mn_21) hown (mvT hZ (tw hw 219 rfl)) (mvT hZ (tw hw 220 rfl)) (notFace_of_selects (args := #[]) (mvT hZ (tw hw 222 rfl))) (mvT hZ (tw hw 222 rfl)) (mvT hZ (tw hw 221 rfl)) (by decide) (StrChars.Road.chN (W := 0) hZ hwc (kI := 4) (tw hw 2 rfl) (cs := cs) (i := n.toNatClampNeg + 0) E_a1 S_v S_k V_t hcd (own_no65 hcs) (O2.ext X00.2) P5 (FM.ext X00.2) rf hl4 (by rw [hln]; exact Nat.add_lt_add_left (by decide) _) (own_4 (P := fun n => n = Int32.ofNat (n.toNatClampNeg + 0)) hn (by decide) : n = Int32.ofNat (n.toNatClampNeg + 0)) (by decide) (by decide)) q101a q101c (g := (mkF m 2 #[vr a1, vi n] [wi n, wr a1])) rfl (by rw [hml]; rfl) (Steps.refl _) (argsL := [wi n]) (rest := []) (lenOf pd_I_C rfl) rfl (Nat.le_refl _) (hb hby d36_2) (fun _ _ => ⟨rfl, e0, (by decide : 0 + 0 ≤ _), (by decide : 0 + 0 ≤ _)⟩)
  dsimp only [Pt.U, Pt.locs, Pt.cells, Pt.slots] at X101 l101 y101 z101 st101 hQ101
  subst l101 y101 z101
  obtain ⟨hv101, rfl, eq101⟩ := hQ101
  obtain rfl : _ = some (Value.int (32 : Int32)) := hv101.trans (own_some (hch 0 (by decide)))
  have N101 := Fr.app N0 (Fr.nil n0)
  obtain ⟨cq102, kq102, q102a, q102b, q102c⟩ := isOf hZ eq101 E_a1
  obtain ⟨_, _, ⟨T102, L102, k102, n102⟩, -, X102, ⟨Lc102, hQ102, l102, y102, z102⟩, st102⟩ := X101.virtualBack hx (y := mn_21) (z := mn_21) hown (mvT hZ (tw hw 219 rfl)) (mvT hZ (tw hw 220 rfl)) (notFace_of_selects (args := #[]) (mvT hZ (tw hw 222 rfl))) (mvT hZ (tw hw 222 rfl)) (mvT hZ (tw hw 221 rfl)) (by decide) (StrChars.Road.chN (W := 0) hZ hwc (kI := 4) (tw hw 2 rfl) (cs := cs) (i := n.toNatClampNeg + 1) E_a1 S_v S_k V_t hcd (own_no65 hcs) (O2.ext X00.2) P5 (FM.ext X00.2) rf hl4 (by rw [hln]; exact Nat.add_lt_add_left (by decide) _) (own_4 (P := fun n => (n + (1 : Int32)) = Int32.ofNat (n.toNatClampNeg + 1)) hn (by decide) : (n + (1 : Int32)) = Int32.ofNat (n.toNatClampNeg + 1)) (by decide) (by decide)) q102a q102c (g := (mkF m 14 #[vr a1, vi n] [wi (n + (1 : Int32)), wr a1])) rfl (by rw [hml]; rfl) (Steps.refl _) (argsL := [wi (n + (1 : Int32))]) (rest := []) (lenOf pd_I_C rfl) rfl (Nat.le_refl _) (hb hby d36_14) (fun _ _ => ⟨rfl, eq101, (by decide : 0 + 0 ≤ _), (by decide : 0 + 0 ≤ _)⟩)
  dsimp only [Pt.U, Pt.locs, Pt.cells, Pt.slots] at X102 l102 y102 z102 st102 hQ102
  subst l102 y102 z102
  obtain ⟨hv102, rfl, eq102⟩ := hQ102
  obtain rfl : _ = some (Value.int (105 : Int32)) := hv102.trans (own_some (hch 1 (by decide)))
  have N102 := Fr.app N101 (Fr.nil n0)
  obtain ⟨cq103, kq103, q103a, q103b, q103c⟩ := isOf hZ eq102 E_a1
  obtain ⟨_, _, ⟨T103, L103, k103, n103⟩, -, X103, ⟨Lc103, hQ103, l103, y103, z103⟩, st103⟩ := X102.virtualBack hx (y := mn_21) (z := mn_21) hown (mvT hZ (tw hw 219 rfl)) (mvT hZ (tw hw 220 rfl)) (notFace_of_selects (args := #[]) (mvT hZ (tw hw 222 rfl))) (mvT hZ (tw hw 222 rfl)) (mvT hZ (tw hw 221 rfl)) (by decide) (StrChars.Road.chN (W := 0) hZ hwc (kI := 4) (tw hw 2 rfl) (cs := cs) (i := n.toNatClampNeg + 2) E_a1 S_v S_k V_t hcd (own_no65 hcs) (O2.ext X00.2) P5 (FM.ext X00.2) rf hl4 (by rw [hln]; exact Nat.add_lt_add_left (by decide) _) (own_4 (P := fun n => (n + (2 : Int32)) = Int32.ofNat (n.toNatClampNeg + 2)) hn (by decide) : (n + (2 : Int32)) = Int32.ofNat (n.toNatClampNeg + 2)) (by decide) (by decide)) q103a q103c (g := (mkF m 26 #[vr a1, vi n] [wi (n + (2 : Int32)), wr a1])) rfl (by rw [hml]; rfl) (Steps.refl _) (argsL := [wi (n + (2 : Int32))]) (rest := []) (lenOf pd_I_C rfl) rfl (Nat.le_refl _) (hb hby d36_26) (fun _ _ => ⟨rfl, eq102, (by decide : 0 + 0 ≤ _), (by decide : 0 + 0 ≤ _)⟩)
  dsimp only [Pt.U, Pt.locs, Pt.cells, Pt.slots] at X103 l103 y103 z103 st103 hQ103
  subst l103 y103 z103
  obtain ⟨hv103, rfl, eq103⟩ := hQ103
  obtain rfl : _ = some (Value.int (115 : Int32)) := hv103.trans (own_some (hch 2 (by decide)))
  have N103 := Fr.app N102 (Fr.nil n0)
  obtain ⟨cq104, kq104, q104a, q104b, q104c⟩ := isOf hZ eq103 E_a1
  obtain ⟨_, _, ⟨T104, L104, k104, n104⟩, -, X104, ⟨Lc104, hQ104, l104, y104, z104⟩, st104⟩ := X103.virtualBack hx (y := mn_21) (z := mn_21) hown (mvT hZ (tw hw 219 rfl)) (mvT hZ (tw hw 220 rfl)) (notFace_of_selects (args := #[]) (mvT hZ (tw hw 222 rfl))) (mvT hZ (tw hw 222 rfl)) (mvT hZ (tw hw 221 rfl)) (by decide) (StrChars.Road.chN (W := 0) hZ hwc (kI := 4) (tw hw 2 rfl) (cs := cs) (i := n.toNatClampNeg + 3) E_a1 S_v S_k V_t hcd (own_no65 hcs) (O2.ext X00.2) P5 (FM.ext X00.2) rf hl4 (by rw [hln]; exact Nat.add_lt_add_left (by decide) _) (own_4 (P := fun n => (n + (3 : Int32)) = Int32.ofNat (n.toNatClampNeg + 3)) hn (by decide) : (n + (3 : Int32)) = Int32.ofNat (n.toNatClampNeg + 3)) (by decide) (by decide)) q104a q104c (g := (mkF m 38 #[vr a1, vi n] [wi (n + (3 : Int32)), wr a1])) rfl (by rw [hml]; rfl) (Steps.refl _) (argsL := [wi (n + (3 : Int32))]) (rest := []) (lenOf pd_I_C rfl) rfl (Nat.le_refl _) (hb hby d36_38) (fun _ _ => ⟨rfl, eq103, (by decide : 0 + 0 ≤ _), (by decide : 0 + 0 ≤ _)⟩)
  dsimp only [Pt.U, Pt.locs, Pt.cells, Pt.slots] at X104 l104 y104 z104 st104 hQ104
  subst l104 y104 z104
  obtain ⟨hv104, rfl, eq104⟩ := hQ104
  obtain rfl : _ = some (Value.int (32 : Int32)) := hv104.trans (own_some (hch 3 (by decide)))
  have N104 := Fr.app N103 (Fr.nil n0)
  obtain ⟨cq105, kq105, q105a, q105b, q105c⟩ := isOf hZ eq104 E_a1
  obtain ⟨_, _, ⟨T105, L105, k105, n105⟩, -, X105, ⟨Lc105, hQ105, l105, y105, z105⟩, st105⟩ := X104.virtualBack hx (y := mn_21) (z := mn_21) hown (mvT hZ (tw hw 219 rfl)) (mvT hZ (tw hw 220 rfl)) (notFace_of_selects (args := #[]) (mvT hZ (tw hw 222 rfl))) (mvT hZ (tw hw 222 rfl)) (mvT hZ (tw hw 221 rfl)) (by decide) (StrChars.Road.chN (W := 0) hZ hwc (kI := 4) (tw hw 2 rfl) (cs := cs) (i := n.toNatClampNeg + 4) E_a1 S_v S_k V_t hcd (own_no65 hcs) (O2.ext X00.2) P5 (FM.ext X00.2) rf hl4 (by rw [hln]; exact Nat.add_lt_add_left (by decide) _) (own_4 (P := fun n => (n + (4 : Int32)) = Int32.ofNat (n.toNatClampNeg + 4)) hn (by decide) : (n + (4 : Int32)) = Int32.ofNat (n.toNatClampNeg + 4)) (by decide) (by decide)) q105a q105c (g := (mkF m 50 #[vr a1, vi n] [wi (n + (4 : Int32)), wr a1])) rfl (by rw [hml]; rfl) (Steps.refl _) (argsL := [wi (n + (4 : Int32))]) (rest := []) (lenOf pd_I_C rfl) rfl (Nat.le_refl _) (hb hby d36_50) (fun _ _ => ⟨rfl, eq104, (by decide : 0 + 0 ≤ _), (by decide : 0 + 0 ≤ _)⟩)
  dsimp only [Pt.U, Pt.locs, Pt.cells, Pt.slots] at X105 l105 y105 z105 st105 hQ105
  subst l105 y105 z105
  obtain ⟨hv105, rfl, eq105⟩ := hQ105
  obtain rfl : _ = some (Value.int (110 : Int32)) := hv105.trans (own_some (hch 4 (by decide)))
  have N105 := Fr.app N104 (Fr.nil n0)
  obtain ⟨cq106, kq106, q106a, q106b, q106c⟩ := isOf hZ eq105 E_a1
  obtain ⟨_, _, ⟨T106, L106, k106, n106⟩, -, X106, ⟨Lc106, hQ106, l106, y106, z106⟩, st106⟩ := X105.virtualBack hx (y := mn_21) (z := mn_21) hown (mvT hZ (tw hw 219 rfl)) (mvT hZ (tw hw 220 rfl)) (notFace_of_selects (args := #[]) (mvT hZ (tw hw 222 rfl))) (mvT hZ (tw hw 222 rfl)) (mvT hZ (tw hw 221 rfl)) (by decide) (StrChars.Road.chN (W := 0) hZ hwc (kI := 4) (tw hw 2 rfl) (cs := cs) (i := n.toNatClampNeg + 5) E_a1 S_v S_k V_t hcd (own_no65 hcs) (O2.ext X00.2) P5 (FM.ext X00.2) rf hl4 (by rw [hln]; exact Nat.add_lt_add_left (by decide) _) (own_4 (P := fun n => (n + (5 : Int32)) = Int32.ofNat (n.toNatClampNeg + 5)) hn (by decide) : (n + (5 : Int32)) = Int32.ofNat (n.toNatClampNeg + 5)) (by decide) (by decide)) q106a q106c (g := (mkF m 62 #[vr a1, vi n] [wi (n + (5 : Int32)), wr a1])) rfl (by rw [hml]; rfl) (Steps.refl _) (argsL := [wi (n + (5 : Int32))]) (rest := []) (lenOf pd_I_C rfl) rfl (Nat.le_refl _) (hb hby d36_62) (fun _ _ => ⟨rfl, eq105, (by decide : 0 + 0 ≤ _), (by decide : 0 + 0 ≤ _)⟩)
  dsimp only [Pt.U, Pt.locs, Pt.cells, Pt.slots] at X106 l106 y106 z106 st106 hQ106
  subst l106 y106 z106
  obtain ⟨hv106, rfl, eq106⟩ := hQ106
  obtain rfl : _ = some (Value.int (111 : Int32)) := hv106.trans (own_some (hch 5 (by decide)))
  have N106 := Fr.app N105 (Fr.nil n0)
  obtain ⟨cq107, kq107, q107a, q107b, q107c⟩ := isOf hZ eq106 E_a1
  obtain ⟨_, _, ⟨T107, L107, k107, n107⟩, -, X107, ⟨Lc107, hQ107, l107, y107, z107⟩, st107⟩ := X106.virtualBack hx (y := mn_21) (z := mn_21) hown (mvT hZ (tw hw 219 rfl)) (mvT hZ (tw hw 220 rfl)) (notFace_of_selects (args := #[]) (mvT hZ (tw hw 222 rfl))) (mvT hZ (tw hw 222 rfl)) (mvT hZ (tw hw 221 rfl)) (by decide) (StrChars.Road.chN (W := 0) hZ hwc (kI := 4) (tw hw 2 rfl) (cs := cs) (i := n.toNatClampNeg + 6) E_a1 S_v S_k V_t hcd (own_no65 hcs) (O2.ext X00.2) P5 (FM.ext X00.2) rf hl4 (by rw [hln]; exact Nat.add_lt_add_left (by decide) _) (own_4 (P := fun n => (n + (6 : Int32)) = Int32.ofNat (n.toNatClampNeg + 6)) hn (by decide) : (n + (6 : Int32)) = Int32.ofNat (n.toNatClampNeg + 6)) (by decide) (by decide)) q107a q107c (g := (mkF m 75 #[vr a1, vi n] [wi (n + (6 : Int32)), wr a1])) rfl (by rw [hml]; rfl) (Steps.refl _) (argsL := [wi (n + (6 : Int32))]) (rest := []) (lenOf pd_I_C rfl) rfl (Nat.le_refl _) (hb hby d36_75) (fun _ _ => ⟨rfl, eq106, (by decide : 0 + 0 ≤ _), (by decide : 0 + 0 ≤ _)⟩)
  dsimp only [Pt.U, Pt.locs, Pt.cells, Pt.slots] at X107 l107 y107 z107 st107 hQ107
  subst l107 y107 z107
  obtain ⟨hv107, rfl, eq107⟩ := hQ107
  obtain rfl : _ = some (Value.int (116 : Int32)) := hv107.trans (own_some (hch 6 (by decide)))
  have N107 := Fr.app N106 (Fr.nil n0)
  obtain ⟨cq108, kq108, q108a, q108b, q108c⟩ := isOf hZ eq107 E_a1
  obtain ⟨_, _, ⟨T108, L108, k108, n108⟩, -, X108, ⟨Lc108, hQ108, l108, y108, z108⟩, st108⟩ := X107.virtualBack hx (y := mn_21) (z := mn_21) hown (mvT hZ (tw hw 219 rfl)) (mvT hZ (tw hw 220 rfl)) (notFace_of_selects (args := #[]) (mvT hZ (tw hw 222 rfl))) (mvT hZ (tw hw 222 rfl)) (mvT hZ (tw hw 221 rfl)) (by decide) (StrChars.Road.chN (W := 0) hZ hwc (kI := 4) (tw hw 2 rfl) (cs := cs) (i := n.toNatClampNeg + 7) E_a1 S_v S_k V_t hcd (own_no65 hcs) (O2.ext X00.2) P5 (FM.ext X00.2) rf hl4 (by rw [hln]; exact Nat.add_lt_add_left (by decide) _) (own_4 (P := fun n => (n + (7 : Int32)) = Int32.ofNat (n.toNatClampNeg + 7)) hn (by decide) : (n + (7 : Int32)) = Int32.ofNat (n.toNatClampNeg + 7)) (by decide) (by decide)) q108a q108c (g := (mkF m 88 #[vr a1, vi n] [wi (n + (7 : Int32)), wr a1])) rfl (by rw [hml]; rfl) (Steps.refl _) (argsL := [wi (n + (7 : Int32))]) (rest := []) (lenOf pd_I_C rfl) rfl (Nat.le_refl _) (hb hby d36_88) (fun _ _ => ⟨rfl, eq107, (by decide : 0 + 0 ≤ _), (by decide : 0 + 0 ≤ _)⟩)
  dsimp only [Pt.U, Pt.locs, Pt.cells, Pt.slots] at X108 l108 y108 z108 st108 hQ108
  subst l108 y108 z108
  obtain ⟨hv108, rfl, eq108⟩ := hQ108
  obtain rfl : _ = some (Value.int (32 : Int32)) := hv108.trans (own_some (hch 7 (by decide)))
  have N108 := Fr.app N107 (Fr.nil n0)
  obtain ⟨cq109, kq109, q109a, q109b, q109c⟩ := isOf hZ eq108 E_a1
  obtain ⟨_, _, ⟨T109, L109, k109, n109⟩, -, X109, ⟨Lc109, hQ109, l109, y109, z109⟩, st109⟩ := X108.virtualBack hx (y := mn_21) (z := mn_21) hown (mvT hZ (tw hw 219 rfl)) (mvT hZ (tw hw 220 rfl)) (notFace_of_selects (args := #[]) (mvT hZ (tw hw 222 rfl))) (mvT hZ (tw hw 222 rfl)) (mvT hZ (tw hw 221 rfl)) (by decide) (StrChars.Road.chN (W := 0) hZ hwc (kI := 4) (tw hw 2 rfl) (cs := cs) (i := n.toNatClampNeg + 8) E_a1 S_v S_k V_t hcd (own_no65 hcs) (O2.ext X00.2) P5 (FM.ext X00.2) rf hl4 (by rw [hln]; exact Nat.add_lt_add_left (by decide) _) (own_4 (P := fun n => (n + (8 : Int32)) = Int32.ofNat (n.toNatClampNeg + 8)) hn (by decide) : (n + (8 : Int32)) = Int32.ofNat (n.toNatClampNeg + 8)) (by decide) (by decide)) q109a q109c (g := (mkF m 101 #[vr a1, vi n] [wi (n + (8 : Int32)), wr a1])) rfl (by rw [hml]; rfl) (Steps.refl _) (argsL := [wi (n + (8 : Int32))]) (rest := []) (lenOf pd_I_C rfl) rfl (Nat.le_refl _) (hb hby d36_101) (fun _ _ => ⟨rfl, eq108, (by decide : 0 + 0 ≤ _), (by decide : 0 + 0 ≤ _)⟩)
  dsimp only [Pt.U, Pt.locs, Pt.cells, Pt.slots] at X109 l109 y109 z109 st109 hQ109
  subst l109 y109 z109
  obtain ⟨hv109, rfl, eq109⟩ := hQ109
  obtain rfl : _ = some (Value.int (115 : Int32)) := hv109.trans (own_some (hch 8 (by decide)))
  have N109 := Fr.app N108 (Fr.nil n0)
  obtain ⟨cq110, kq110, q110a, q110b, q110c⟩ := isOf hZ eq109 E_a1
  obtain ⟨_, _, ⟨T110, L110, k110, n110⟩, -, X110, ⟨Lc110, hQ110, l110, y110, z110⟩, st110⟩ := X109.virtualBack hx (y := mn_21) (z := mn_21) hown (mvT hZ (tw hw 219 rfl)) (mvT hZ (tw hw 220 rfl)) (notFace_of_selects (args := #[]) (mvT hZ (tw hw 222 rfl))) (mvT hZ (tw hw 222 rfl)) (mvT hZ (tw hw 221 rfl)) (by decide) (StrChars.Road.chN (W := 0) hZ hwc (kI := 4) (tw hw 2 rfl) (cs := cs) (i := n.toNatClampNeg + 9) E_a1 S_v S_k V_t hcd (own_no65 hcs) (O2.ext X00.2) P5 (FM.ext X00.2) rf hl4 (by rw [hln]; exact Nat.add_lt_add_left (by decide) _) (own_4 (P := fun n => (n + (9 : Int32)) = Int32.ofNat (n.toNatClampNeg + 9)) hn (by decide) : (n + (9 : Int32)) = Int32.ofNat (n.toNatClampNeg + 9)) (by decide) (by decide)) q110a q110c (g := (mkF m 114 #[vr a1, vi n] [wi (n + (9 : Int32)), wr a1])) rfl (by rw [hml]; rfl) (Steps.refl _) (argsL := [wi (n + (9 : Int32))]) (rest := []) (lenOf pd_I_C rfl) rfl (Nat.le_refl _) (hb hby d36_114) (fun _ _ => ⟨rfl, eq109, (by decide : 0 + 0 ≤ _), (by decide : 0 + 0 ≤ _)⟩)
  dsimp only [Pt.U, Pt.locs, Pt.cells, Pt.slots] at X110 l110 y110 z110 st110 hQ110
  subst l110 y110 z110
  obtain ⟨hv110, rfl, eq110⟩ := hQ110
  obtain rfl : _ = some (Value.int (117 : Int32)) := hv110.trans (own_some (hch 9 (by decide)))
  have N110 := Fr.app N109 (Fr.nil n0)
  obtain ⟨cq111, kq111, q111a, q111b, q111c⟩ := isOf hZ eq110 E_a1
  obtain ⟨_, _, ⟨T111, L111, k111, n111⟩, -, X111, ⟨Lc111, hQ111, l111, y111, z111⟩, st111⟩ := X110.virtualBack hx (y := mn_21) (z := mn_21) hown (mvT hZ (tw hw 219 rfl)) (mvT hZ (tw hw 220 rfl)) (notFace_of_selects (args := #[]) (mvT hZ (tw hw 222 rfl))) (mvT hZ (tw hw 222 rfl)) (mvT hZ (tw hw 221 rfl)) (by decide) (StrChars.Road.chN (W := 0) hZ hwc (kI := 4) (tw hw 2 rfl) (cs := cs) (i := n.toNatClampNeg + 10) E_a1 S_v S_k V_t hcd (own_no65 hcs) (O2.ext X00.2) P5 (FM.ext X00.2) rf hl4 (by rw [hln]; exact Nat.add_lt_add_left (by decide) _) (own_4 (P := fun n => (n + (10 : Int32)) = Int32.ofNat (n.toNatClampNeg + 10)) hn (by decide) : (n + (10 : Int32)) = Int32.ofNat (n.toNatClampNeg + 10)) (by decide) (by decide)) q111a q111c (g := (mkF m 127 #[vr a1, vi n] [wi (n + (10 : Int32)), wr a1])) rfl (by rw [hml]; rfl) (Steps.refl _) (argsL := [wi (n + (10 : Int32))]) (rest := []) (lenOf pd_I_C rfl) rfl (Nat.le_refl _) (hb hby d36_127) (fun _ _ => ⟨rfl, eq110, (by decide : 0 + 0 ≤ _), (by decide : 0 + 0 ≤ _)⟩)
  dsimp only [Pt.U, Pt.locs, Pt.cells, Pt.slots] at X111 l111 y111 z111 st111 hQ111
  subst l111 y111 z111
  obtain ⟨hv111, rfl, eq111⟩ := hQ111
  obtain rfl : _ = some (Value.int (112 : Int32)) := hv111.trans (own_some (hch 10 (by decide)))
  have N111 := Fr.app N110 (Fr.nil n0)
  obtain ⟨cq112, kq112, q112a, q112b, q112c⟩ := isOf hZ eq111 E_a1
  obtain ⟨_, _, ⟨T112, L112, k112, n112⟩, -, X112, ⟨Lc112, hQ112, l112, y112, z112⟩, st112⟩ := X111.virtualBack hx (y := mn_21) (z := mn_21) hown (mvT hZ (tw hw 219 rfl)) (mvT hZ (tw hw 220 rfl)) (notFace_of_selects (args := #[]) (mvT hZ (tw hw 222 rfl))) (mvT hZ (tw hw 222 rfl)) (mvT hZ (tw hw 221 rfl)) (by decide) (StrChars.Road.chN (W := 0) hZ hwc (kI := 4) (tw hw 2 rfl) (cs := cs) (i := n.toNatClampNeg + 11) E_a1 S_v S_k V_t hcd (own_no65 hcs) (O2.ext X00.2) P5 (FM.ext X00.2) rf hl4 (by rw [hln]; exact Nat.add_lt_add_left (by decide) _) (own_4 (P := fun n => (n + (11 : Int32)) = Int32.ofNat (n.toNatClampNeg + 11)) hn (by decide) : (n + (11 : Int32)) = Int32.ofNat (n.toNatClampNeg + 11)) (by decide) (by decide)) q112a q112c (g := (mkF m 140 #[vr a1, vi n] [wi (n + (11 : Int32)), wr a1])) rfl (by rw [hml]; rfl) (Steps.refl _) (argsL := [wi (n + (11 : Int32))]) (rest := []) (lenOf pd_I_C rfl) rfl (Nat.le_refl _) (hb hby d36_140) (fun _ _ => ⟨rfl, eq111, (by decide : 0 + 0 ≤ _), (by decide : 0 + 0 ≤ _)⟩)
  dsimp only [Pt.U, Pt.locs, Pt.cells, Pt.slots] at X112 l112 y112 z112 st112 hQ112
  subst l112 y112 z112
  obtain ⟨hv112, rfl, eq112⟩ := hQ112
  obtain rfl : _ = some (Value.int (112 : Int32)) := hv112.trans (own_some (hch 11 (by decide)))
  have N112 := Fr.app N111 (Fr.nil n0)
  obtain ⟨cq113, kq113, q113a, q113b, q113c⟩ := isOf hZ eq112 E_a1
  obtain ⟨_, _, ⟨T113, L113, k113, n113⟩, -, X113, ⟨Lc113, hQ113, l113, y113, z113⟩, st113⟩ := X112.virtualBack hx (y := mn_21) (z := mn_21) hown (mvT hZ (tw hw 219 rfl)) (mvT hZ (tw hw 220 rfl)) (notFace_of_selects (args := #[]) (mvT hZ (tw hw 222 rfl))) (mvT hZ (tw hw 222 rfl)) (mvT hZ (tw hw 221 rfl)) (by decide) (StrChars.Road.chN (W := 0) hZ hwc (kI := 4) (tw hw 2 rfl) (cs := cs) (i := n.toNatClampNeg + 12) E_a1 S_v S_k V_t hcd (own_no65 hcs) (O2.ext X00.2) P5 (FM.ext X00.2) rf hl4 (by rw [hln]; exact Nat.add_lt_add_left (by decide) _) (own_4 (P := fun n => (n + (12 : Int32)) = Int32.ofNat (n.toNatClampNeg + 12)) hn (by decide) : (n + (12 : Int32)) = Int32.ofNat (n.toNatClampNeg + 12)) (by decide) (by decide)) q113a q113c (g := (mkF m 153 #[vr a1, vi n] [wi (n + (12 : Int32)), wr a1])) rfl (by rw [hml]; rfl) (Steps.refl _) (argsL := [wi (n + (12 : Int32))]) (rest := []) (lenOf pd_I_C rfl) rfl (Nat.le_refl _) (hb hby d36_153) (fun _ _ => ⟨rfl, eq112, (by decide : 0 + 0 ≤ _), (by decide : 0 + 0 ≤ _)⟩)
  dsimp only [Pt.U, Pt.locs, Pt.cells, Pt.slots] at X113 l113 y113 z113 st113 hQ113
  subst l113 y113 z113
  obtain ⟨hv113, rfl, eq113⟩ := hQ113
  obtain rfl : _ = some (Value.int (111 : Int32)) := hv113.trans (own_some (hch 12 (by decide)))
  have N113 := Fr.app N112 (Fr.nil n0)
  obtain ⟨cq114, kq114, q114a, q114b, q114c⟩ := isOf hZ eq113 E_a1
  obtain ⟨_, _, ⟨T114, L114, k114, n114⟩, -, X114, ⟨Lc114, hQ114, l114, y114, z114⟩, st114⟩ := X113.virtualBack hx (y := mn_21) (z := mn_21) hown (mvT hZ (tw hw 219 rfl)) (mvT hZ (tw hw 220 rfl)) (notFace_of_selects (args := #[]) (mvT hZ (tw hw 222 rfl))) (mvT hZ (tw hw 222 rfl)) (mvT hZ (tw hw 221 rfl)) (by decide) (StrChars.Road.chN (W := 0) hZ hwc (kI := 4) (tw hw 2 rfl) (cs := cs) (i := n.toNatClampNeg + 13) E_a1 S_v S_k V_t hcd (own_no65 hcs) (O2.ext X00.2) P5 (FM.ext X00.2) rf hl4 (by rw [hln]; exact Nat.add_lt_add_left (by decide) _) (own_4 (P := fun n => (n + (13 : Int32)) = Int32.ofNat (n.toNatClampNeg + 13)) hn (by decide) : (n + (13 : Int32)) = Int32.ofNat (n.toNatClampNeg + 13)) (by decide) (by decide)) q114a q114c (g := (mkF m 166 #[vr a1, vi n] [wi (n + (13 : Int32)), wr a1])) rfl (by rw [hml]; rfl) (Steps.refl _) (argsL := [wi (n + (13 : Int32))]) (rest := []) (lenOf pd_I_C rfl) rfl (Nat.le_refl _) (hb hby d36_166) (fun _ _ => ⟨rfl, eq113, (by decide : 0 + 0 ≤ _), (by decide : 0 + 0 ≤ _)⟩)
  dsimp only [Pt.U, Pt.locs, Pt.cells, Pt.slots] at X114 l114 y114 z114 st114 hQ114
  subst l114 y114 z114
  obtain ⟨hv114, rfl, eq114⟩ := hQ114
  obtain rfl : _ = some (Value.int (114 : Int32)) := hv114.trans (own_some (hch 13 (by decide)))
  have N114 := Fr.app N113 (Fr.nil n0)
  obtain ⟨cq115, kq115, q115a, q115b, q115c⟩ := isOf hZ eq114 E_a1
  obtain ⟨_, _, ⟨T115, L115, k115, n115⟩, -, X115, ⟨Lc115, hQ115, l115, y115, z115⟩, st115⟩ := X114.virtualBack hx (y := mn_21) (z := mn_21) hown (mvT hZ (tw hw 219 rfl)) (mvT hZ (tw hw 220 rfl)) (notFace_of_selects (args := #[]) (mvT hZ (tw hw 222 rfl))) (mvT hZ (tw hw 222 rfl)) (mvT hZ (tw hw 221 rfl)) (by decide) (StrChars.Road.chN (W := 0) hZ hwc (kI := 4) (tw hw 2 rfl) (cs := cs) (i := n.toNatClampNeg + 14) E_a1 S_v S_k V_t hcd (own_no65 hcs) (O2.ext X00.2) P5 (FM.ext X00.2) rf hl4 (by rw [hln]; exact Nat.add_lt_add_left (by decide) _) (own_4 (P := fun n => (n + (14 : Int32)) = Int32.ofNat (n.toNatClampNeg + 14)) hn (by decide) : (n + (14 : Int32)) = Int32.ofNat (n.toNatClampNeg + 14)) (by decide) (by decide)) q115a q115c (g := (mkF m 179 #[vr a1, vi n] [wi (n + (14 : Int32)), wr a1])) rfl (by rw [hml]; rfl) (Steps.refl _) (argsL := [wi (n + (14 : Int32))]) (rest := []) (lenOf pd_I_C rfl) rfl (Nat.le_refl _) (hb hby d36_179) (fun _ _ => ⟨rfl, eq114, (by decide : 0 + 0 ≤ _), (by decide : 0 + 0 ≤ _)⟩)
  dsimp only [Pt.U, Pt.locs, Pt.cells, Pt.slots] at X115 l115 y115 z115 st115 hQ115
  subst l115 y115 z115
  obtain ⟨hv115, rfl, eq115⟩ := hQ115
  obtain rfl : _ = some (Value.int (116 : Int32)) := hv115.trans (own_some (hch 14 (by decide)))
  have N115 := Fr.app N114 (Fr.nil n0)
  obtain ⟨cq116, kq116, q116a, q116b, q116c⟩ := isOf hZ eq115 E_a1
  obtain ⟨_, _, ⟨T116, L116, k116, n116⟩, -, X116, ⟨Lc116, hQ116, l116, y116, z116⟩, st116⟩ := X115.virtualBack hx (y := mn_21) (z := mn_21) hown (mvT hZ (tw hw 219 rfl)) (mvT hZ (tw hw 220 rfl)) (notFace_of_selects (args := #[]) (mvT hZ (tw hw 222 rfl))) (mvT hZ (tw hw 222 rfl)) (mvT hZ (tw hw 221 rfl)) (by decide) (StrChars.Road.chN (W := 0) hZ hwc (kI := 4) (tw hw 2 rfl) (cs := cs) (i := n.toNatClampNeg + 15) E_a1 S_v S_k V_t hcd (own_no65 hcs) (O2.ext X00.2) P5 (FM.ext X00.2) rf hl4 (by rw [hln]; exact Nat.add_lt_add_left (by decide) _) (own_4 (P := fun n => (n + (15 : Int32)) = Int32.ofNat (n.toNatClampNeg + 15)) hn (by decide) : (n + (15 : Int32)) = Int32.ofNat (n.toNatClampNeg + 15)) (by decide) (by decide)) q116a q116c (g := (mkF m 192 #[vr a1, vi n] [wi (n + (15 : Int32)), wr a1])) rfl (by rw [hml]; rfl) (Steps.refl _) (argsL := [wi (n + (15 : Int32))]) (rest := []) (lenOf pd_I_C rfl) rfl (Nat.le_refl _) (hb hby d36_192) (fun _ _ => ⟨rfl, eq115, (by decide : 0 + 0 ≤ _), (by decide : 0 + 0 ≤ _)⟩)
  dsimp only [Pt.U, Pt.locs, Pt.cells, Pt.slots] at X116 l116 y116 z116 st116 hQ116
  subst l116 y116 z116
  obtain ⟨hv116, rfl, eq116⟩ := hQ116
  obtain rfl : _ = some (Value.int (101 : Int32)) := hv116.trans (own_some (hch 15 (by decide)))
  have N116 := Fr.app N115 (Fr.nil n0)
  obtain ⟨cq117, kq117, q117a, q117b, q117c⟩ := isOf hZ eq116 E_a1
  obtain ⟨_, _, ⟨T117, L117, k117, n117⟩, -, X117, ⟨Lc117, hQ117, l117, y117, z117⟩, st117⟩ := X116.virtualBack hx (y := mn_21) (z := mn_21) hown (mvT hZ (tw hw 219 rfl)) (mvT hZ (tw hw 220 rfl)) (notFace_of_selects (args := #[]) (mvT hZ (tw hw 222 rfl))) (mvT hZ (tw hw 222 rfl)) (mvT hZ (tw hw 221 rfl)) (by decide) (StrChars.Road.chN (W := 0) hZ hwc (kI := 4) (tw hw 2 rfl) (cs := cs) (i := n.toNatClampNeg + 16) E_a1 S_v S_k V_t hcd (own_no65 hcs) (O2.ext X00.2) P5 (FM.ext X00.2) rf hl4 (by rw [hln]; exact Nat.add_lt_add_left (by decide) _) (own_4 (P := fun n => (n + (16 : Int32)) = Int32.ofNat (n.toNatClampNeg + 16)) hn (by decide) : (n + (16 : Int32)) = Int32.ofNat (n.toNatClampNeg + 16)) (by decide) (by decide)) q117a q117c (g := (mkF m 205 #[vr a1, vi n] [wi (n + (16 : Int32)), wr a1])) rfl (by rw [hml]; rfl) (Steps.refl _) (argsL := [wi (n + (16 : Int32))]) (rest := []) (lenOf pd_I_C rfl) rfl (Nat.le_refl _) (hb hby d36_205) (fun _ _ => ⟨rfl, eq116, (by decide : 0 + 0 ≤ _), (by decide : 0 + 0 ≤ _)⟩)
  dsimp only [Pt.U, Pt.locs, Pt.cells, Pt.slots] at X117 l117 y117 z117 st117 hQ117
  subst l117 y117 z117
  obtain ⟨hv117, rfl, eq117⟩ := hQ117
  obtain rfl : _ = some (Value.int (100 : Int32)) := hv117.trans (own_some (hch 16 (by decide)))
  have N117 := Fr.app N116 (Fr.nil n0)
  obtain ⟨cq118, kq118, q118a, q118b, q118c⟩ := isOf hZ eq117 E_a1
  obtain ⟨_, _, ⟨T118, L118, k118, n118⟩, -, X118, ⟨Lc118, hQ118, l118, y118, z118⟩, st118⟩ := X117.virtualBack hx (y := mn_21) (z := mn_21) hown (mvT hZ (tw hw 219 rfl)) (mvT hZ (tw hw 220 rfl)) (notFace_of_selects (args := #[]) (mvT hZ (tw hw 222 rfl))) (mvT hZ (tw hw 222 rfl)) (mvT hZ (tw hw 221 rfl)) (by decide) (StrChars.Road.chN (W := 0) hZ hwc (kI := 4) (tw hw 2 rfl) (cs := cs) (i := n.toNatClampNeg + 17) E_a1 S_v S_k V_t hcd (own_no65 hcs) (O2.ext X00.2) P5 (FM.ext X00.2) rf hl4 (by rw [hln]; exact Nat.add_lt_add_left (by decide) _) (own_4 (P := fun n => (n + (17 : Int32)) = Int32.ofNat (n.toNatClampNeg + 17)) hn (by decide) : (n + (17 : Int32)) = Int32.ofNat (n.toNatClampNeg + 17)) (by decide) (by decide)) q118a q118c (g := (mkF m 218 #[vr a1, vi n] [wi (n + (17 : Int32)), wr a1])) rfl (by rw [hml]; rfl) (Steps.refl _) (argsL := [wi (n + (17 : Int32))]) (rest := []) (lenOf pd_I_C rfl) rfl (Nat.le_refl _) (hb hby d36_218) (fun _ _ => ⟨rfl, eq117, (by decide : 0 + 0 ≤ _), (by decide : 0 + 0 ≤ _)⟩)
  dsimp only [Pt.U, Pt.locs, Pt.cells, Pt.slots] at X118 l118 y118 z118 st118 hQ118
  subst l118 y118 z118
  obtain ⟨hv118, rfl, eq118⟩ := hQ118
  obtain rfl : _ = some (Value.int (32 : Int32)) := hv118.trans (own_some (hch 17 (by decide)))
  have N118 := Fr.app N117 (Fr.nil n0)
  obtain ⟨cq119, kq119, q119a, q119b, q119c⟩ := isOf hZ eq118 E_a1
  obtain ⟨_, _, ⟨T119, L119, k119, n119⟩, -, X119, ⟨Lc119, hQ119, l119, y119, z119⟩, st119⟩ := X118.virtualBack hx (y := mn_21) (z := mn_21) hown (mvT hZ (tw hw 219 rfl)) (mvT hZ (tw hw 220 rfl)) (notFace_of_selects (args := #[]) (mvT hZ (tw hw 222 rfl))) (mvT hZ (tw hw 222 rfl)) (mvT hZ (tw hw 221 rfl)) (by decide) (StrChars.Road.chN (W := 0) hZ hwc (kI := 4) (tw hw 2 rfl) (cs := cs) (i := n.toNatClampNeg + 18) E_a1 S_v S_k V_t hcd (own_no65 hcs) (O2.ext X00.2) P5 (FM.ext X00.2) rf hl4 (by rw [hln]; exact Nat.add_lt_add_left (by decide) _) (own_4 (P := fun n => (n + (18 : Int32)) = Int32.ofNat (n.toNatClampNeg + 18)) hn (by decide) : (n + (18 : Int32)) = Int32.ofNat (n.toNatClampNeg + 18)) (by decide) (by decide)) q119a q119c (g := (mkF m 231 #[vr a1, vi n] [wi (n + (18 : Int32)), wr a1])) rfl (by rw [hml]; rfl) (Steps.refl _) (argsL := [wi (n + (18 : Int32))]) (rest := []) (lenOf pd_I_C rfl) rfl (Nat.le_refl _) (hb hby d36_231) (fun _ _ => ⟨rfl, eq118, (by decide : 0 + 0 ≤ _), (by decide : 0 + 0 ≤ _)⟩)
  dsimp only [Pt.U, Pt.locs, Pt.cells, Pt.slots] at X119 l119 y119 z119 st119 hQ119
  subst l119 y119 z119
  obtain ⟨hv119, rfl, eq119⟩ := hQ119
  obtain rfl : _ = some (Value.int (121 : Int32)) := hv119.trans (own_some (hch 18 (by decide)))
  have N119 := Fr.app N118 (Fr.nil n0)
  obtain ⟨cq120, kq120, q120a, q120b, q120c⟩ := isOf hZ eq119 E_a1
  obtain ⟨_, _, ⟨T120, L120, k120, n120⟩, -, X120, ⟨Lc120, hQ120, l120, y120, z120⟩, st120⟩ := X119.virtualBack hx (y := mn_21) (z := mn_21) hown (mvT hZ (tw hw 219 rfl)) (mvT hZ (tw hw 220 rfl)) (notFace_of_selects (args := #[]) (mvT hZ (tw hw 222 rfl))) (mvT hZ (tw hw 222 rfl)) (mvT hZ (tw hw 221 rfl)) (by decide) (StrChars.Road.chN (W := 0) hZ hwc (kI := 4) (tw hw 2 rfl) (cs := cs) (i := n.toNatClampNeg + 19) E_a1 S_v S_k V_t hcd (own_no65 hcs) (O2.ext X00.2) P5 (FM.ext X00.2) rf hl4 (by rw [hln]; exact Nat.add_lt_add_left (by decide) _) (own_4 (P := fun n => (n + (19 : Int32)) = Int32.ofNat (n.toNatClampNeg + 19)) hn (by decide) : (n + (19 : Int32)) = Int32.ofNat (n.toNatClampNeg + 19)) (by decide) (by decide)) q120a q120c (g := (mkF m 244 #[vr a1, vi n] [wi (n + (19 : Int32)), wr a1])) rfl (by rw [hml]; rfl) (Steps.refl _) (argsL := [wi (n + (19 : Int32))]) (rest := []) (lenOf pd_I_C rfl) rfl (Nat.le_refl _) (hb hby d36_244) (fun _ _ => ⟨rfl, eq119, (by decide : 0 + 0 ≤ _), (by decide : 0 + 0 ≤ _)⟩)
  dsimp only [Pt.U, Pt.locs, Pt.cells, Pt.slots] at X120 l120 y120 z120 st120 hQ120
  subst l120 y120 z120
  obtain ⟨hv120, rfl, eq120⟩ := hQ120
  obtain rfl : _ = some (Value.int (101 : Int32)) := hv120.trans (own_some (hch 19 (by decide)))
  have N120 := Fr.app N119 (Fr.nil n0)
  obtain ⟨cq121, kq121, q121a, q121b, q121c⟩ := isOf hZ eq120 E_a1
  obtain ⟨_, _, ⟨T121, L121, k121, n121⟩, -, X121, ⟨Lc121, hQ121, l121, y121, z121⟩, st121⟩ := X120.virtualBack hx (y := mn_21) (z := mn_21) hown (mvT hZ (tw hw 219 rfl)) (mvT hZ (tw hw 220 rfl)) (notFace_of_selects (args := #[]) (mvT hZ (tw hw 222 rfl))) (mvT hZ (tw hw 222 rfl)) (mvT hZ (tw hw 221 rfl)) (by decide) (StrChars.Road.chN (W := 0) hZ hwc (kI := 4) (tw hw 2 rfl) (cs := cs) (i := n.toNatClampNeg + 20) E_a1 S_v S_k V_t hcd (own_no65 hcs) (O2.ext X00.2) P5 (FM.ext X00.2) rf hl4 (by rw [hln]; exact Nat.add_lt_add_left (by decide) _) (own_4 (P := fun n => (n + (20 : Int32)) = Int32.ofNat (n.toNatClampNeg + 20)) hn (by decide) : (n + (20 : Int32)) = Int32.ofNat (n.toNatClampNeg + 20)) (by decide) (by decide)) q121a q121c (g := (mkF m 257 #[vr a1, vi n] [wi (n + (20 : Int32)), wr a1])) rfl (by rw [hml]; rfl) (Steps.refl _) (argsL := [wi (n + (20 : Int32))]) (rest := []) (lenOf pd_I_C rfl) rfl (Nat.le_refl _) (hb hby d36_257) (fun _ _ => ⟨rfl, eq120, (by decide : 0 + 0 ≤ _), (by decide : 0 + 0 ≤ _)⟩)
  dsimp only [Pt.U, Pt.locs, Pt.cells, Pt.slots] at X121 l121 y121 z121 st121 hQ121
  subst l121 y121 z121
  obtain ⟨hv121, rfl, eq121⟩ := hQ121
  obtain rfl : _ = some (Value.int (116 : Int32)) := hv121.trans (own_some (hch 20 (by decide)))
  have N121 := Fr.app N120 (Fr.nil n0)
  obtain ⟨fs, hr, hrun, hended, hW, hsame⟩ := X121.leave (v := some (.int (1 : Int32))) (fun h => by rw [Bd.returns] at h; cases h)
  refine ⟨_, _, pre0 _ ?_, hrun, hended, _, _, rfl, ?_, ⟨_, rfl⟩, hW, hsame.mono (by decide) (by decide)⟩
  · show Go p e below s₁ (mkF m 0 #[vr a1, vi n] []) _
    refine XS.aloadN X0.here hx rfl (hb hby d36_0) rfl rfl ?_
    show Go p e below s₁ (mkF m 1 #[vr a1, vi n] [wr a1]) _
    refine XS.iloadN X0.here hx rfl (hb hby d36_1) rfl ?_
    show Go p e below s₁ (mkF m 2 #[vr a1, vi n] [wi n, wr a1]) _
    refine st101.trans ?_
    show Go p e below T101 (mkF m 5 #[vr a1, vi n] [wi 32]) _
    refine XS.bipush X101.here hx rfl (hb hby d36_5) ?_
    show Go p e below T101 (mkF m 7 #[vr a1, vi n] [wi 32, wi 32]) _
    refine XS.icmpNo X101.here hx rfl (hb hby d36_7) rfl (teq (rfl : (32 : Int32) = (32 : Int32))).2 ?_
    show Go p e below T101 (mkF m 10 #[vr a1, vi n] []) _
    refine XS.aloadN X101.here hx rfl (hb hby d36_10) rfl rfl ?_
    show Go p e below T101 (mkF m 11 #[vr a1, vi n] [wr a1]) _
    refine XS.iloadN X101.here hx rfl (hb hby d36_11) rfl ?_
    show Go p e below T101 (mkF m 12 #[vr a1, vi n] [wi n, wr a1]) _
    refine XS.iconst X101.here hx rfl (hb hby d36_12) ?_
    show Go p e below T101 (mkF m 13 #[vr a1, vi n] [wi 1, wi n, wr a1]) _
    refine XS.iadd X101.here hx rfl (hb hby d36_13) rfl ?_
    show Go p e below T101 (mkF m 14 #[vr a1, vi n] [wi (n + (1 : Int32)), wr a1]) _
    refine st102.trans ?_
    show Go p e below T102 (mkF m 17 #[vr a1, vi n] [wi 105]) _
    refine XS.bipush X102.here hx rfl (hb hby d36_17) ?_
    show Go p e below T102 (mkF m 19 #[vr a1, vi n] [wi 105, wi 105]) _
    refine XS.icmpNo X102.here hx rfl (hb hby d36_19) rfl (teq (rfl : (105 : Int32) = (105 : Int32))).2 ?_
    show Go p e below T102 (mkF m 22 #[vr a1, vi n] []) _
    refine XS.aloadN X102.here hx rfl (hb hby d36_22) rfl rfl ?_
    show Go p e below T102 (mkF m 23 #[vr a1, vi n] [wr a1]) _
    refine XS.iloadN X102.here hx rfl (hb hby d36_23) rfl ?_
    show Go p e below T102 (mkF m 24 #[vr a1, vi n] [wi n, wr a1]) _
    refine XS.iconst X102.here hx rfl (hb hby d36_24) ?_
    show Go p e below T102 (mkF m 25 #[vr a1, vi n] [wi 2, wi n, wr a1]) _
    refine XS.iadd X102.here hx rfl (hb hby d36_25) rfl ?_
    show Go p e below T102 (mkF m 26 #[vr a1, vi n] [wi (n + (2 : Int32)), wr a1]) _
    refine st103.trans ?_
    show Go p e below T103 (mkF m 29 #[vr a1, vi n] [wi 115]) _
    refine XS.bipush X103.here hx rfl (hb hby d36_29) ?_
    show Go p e below T103 (mkF m 31 #[vr a1, vi n] [wi 115, wi 115]) _
    refine XS.icmpNo X103.here hx rfl (hb hby d36_31) rfl (teq (rfl : (115 : Int32) = (115 : Int32))).2 ?_
    show Go p e below T103 (mkF m 34 #[vr a1, vi n] []) _
    refine XS.aloadN X103.here hx rfl (hb hby d36_34) rfl rfl ?_
    show Go p e below T103 (mkF m 35 #[vr a1, vi n] [wr a1]) _
    refine XS.iloadN X103.here hx rfl (hb hby d36_35) rfl ?_
    show Go p e below T103 (mkF m 36 #[vr a1, vi n] [wi n, wr a1]) _
    refine XS.iconst X103.here hx rfl (hb hby d36_36) ?_
    show Go p e below T103 (mkF m 37 #[vr a1, vi n] [wi 3, wi n, wr a1]) _
    refine XS.iadd X103.here hx rfl (hb hby d36_37) rfl ?_
    show Go p e below T103 (mkF m 38 #[vr a1, vi n] [wi (n + (3 : Int32)), wr a1]) _
    refine st104.trans ?_
    show Go p e below T104 (mkF m 41 #[vr a1, vi n] [wi 32]) _
    refine XS.bipush X104.here hx rfl (hb hby d36_41) ?_
    show Go p e below T104 (mkF m 43 #[vr a1, vi n] [wi 32, wi 32]) _
    refine XS.icmpNo X104.here hx rfl (hb hby d36_43) rfl (teq (rfl : (32 : Int32) = (32 : Int32))).2 ?_
    show Go p e below T104 (mkF m 46 #[vr a1, vi n] []) _
    refine XS.aloadN X104.here hx rfl (hb hby d36_46) rfl rfl ?_
    show Go p e below T104 (mkF m 47 #[vr a1, vi n] [wr a1]) _
    refine XS.iloadN X104.here hx rfl (hb hby d36_47) rfl ?_
    show Go p e below T104 (mkF m 48 #[vr a1, vi n] [wi n, wr a1]) _
    refine XS.iconst X104.here hx rfl (hb hby d36_48) ?_
    show Go p e below T104 (mkF m 49 #[vr a1, vi n] [wi 4, wi n, wr a1]) _
    refine XS.iadd X104.here hx rfl (hb hby d36_49) rfl ?_
    show Go p e below T104 (mkF m 50 #[vr a1, vi n] [wi (n + (4 : Int32)), wr a1]) _
    refine st105.trans ?_
    show Go p e below T105 (mkF m 53 #[vr a1, vi n] [wi 110]) _
    refine XS.bipush X105.here hx rfl (hb hby d36_53) ?_
    show Go p e below T105 (mkF m 55 #[vr a1, vi n] [wi 110, wi 110]) _
    refine XS.icmpNo X105.here hx rfl (hb hby d36_55) rfl (teq (rfl : (110 : Int32) = (110 : Int32))).2 ?_
    show Go p e below T105 (mkF m 58 #[vr a1, vi n] []) _
    refine XS.aloadN X105.here hx rfl (hb hby d36_58) rfl rfl ?_
    show Go p e below T105 (mkF m 59 #[vr a1, vi n] [wr a1]) _
    refine XS.iloadN X105.here hx rfl (hb hby d36_59) rfl ?_
    show Go p e below T105 (mkF m 60 #[vr a1, vi n] [wi n, wr a1]) _
    refine XS.iconst X105.here hx rfl (hb hby d36_60) ?_
    show Go p e below T105 (mkF m 61 #[vr a1, vi n] [wi 5, wi n, wr a1]) _
    refine XS.iadd X105.here hx rfl (hb hby d36_61) rfl ?_
    show Go p e below T105 (mkF m 62 #[vr a1, vi n] [wi (n + (5 : Int32)), wr a1]) _
    refine st106.trans ?_
    show Go p e below T106 (mkF m 65 #[vr a1, vi n] [wi 111]) _
    refine XS.bipush X106.here hx rfl (hb hby d36_65) ?_
    show Go p e below T106 (mkF m 67 #[vr a1, vi n] [wi 111, wi 111]) _
    refine XS.icmpNo X106.here hx rfl (hb hby d36_67) rfl (teq (rfl : (111 : Int32) = (111 : Int32))).2 ?_
    show Go p e below T106 (mkF m 70 #[vr a1, vi n] []) _
    refine XS.aloadN X106.here hx rfl (hb hby d36_70) rfl rfl ?_
    show Go p e below T106 (mkF m 71 #[vr a1, vi n] [wr a1]) _
    refine XS.iloadN X106.here hx rfl (hb hby d36_71) rfl ?_
    show Go p e below T106 (mkF m 72 #[vr a1, vi n] [wi n, wr a1]) _
    refine XS.bipush X106.here hx rfl (hb hby d36_72) ?_
    show Go p e below T106 (mkF m 74 #[vr a1, vi n] [wi 6, wi n, wr a1]) _
    refine XS.iadd X106.here hx rfl (hb hby d36_74) rfl ?_
    show Go p e below T106 (mkF m 75 #[vr a1, vi n] [wi (n + (6 : Int32)), wr a1]) _
    refine st107.trans ?_
    show Go p e below T107 (mkF m 78 #[vr a1, vi n] [wi 116]) _
    refine XS.bipush X107.here hx rfl (hb hby d36_78) ?_
    show Go p e below T107 (mkF m 80 #[vr a1, vi n] [wi 116, wi 116]) _
    refine XS.icmpNo X107.here hx rfl (hb hby d36_80) rfl (teq (rfl : (116 : Int32) = (116 : Int32))).2 ?_
    show Go p e below T107 (mkF m 83 #[vr a1, vi n] []) _
    refine XS.aloadN X107.here hx rfl (hb hby d36_83) rfl rfl ?_
    show Go p e below T107 (mkF m 84 #[vr a1, vi n] [wr a1]) _
    refine XS.iloadN X107.here hx rfl (hb hby d36_84) rfl ?_
    show Go p e below T107 (mkF m 85 #[vr a1, vi n] [wi n, wr a1]) _
    refine XS.bipush X107.here hx rfl (hb hby d36_85) ?_
    show Go p e below T107 (mkF m 87 #[vr a1, vi n] [wi 7, wi n, wr a1]) _
    refine XS.iadd X107.here hx rfl (hb hby d36_87) rfl ?_
    show Go p e below T107 (mkF m 88 #[vr a1, vi n] [wi (n + (7 : Int32)), wr a1]) _
    refine st108.trans ?_
    show Go p e below T108 (mkF m 91 #[vr a1, vi n] [wi 32]) _
    refine XS.bipush X108.here hx rfl (hb hby d36_91) ?_
    show Go p e below T108 (mkF m 93 #[vr a1, vi n] [wi 32, wi 32]) _
    refine XS.icmpNo X108.here hx rfl (hb hby d36_93) rfl (teq (rfl : (32 : Int32) = (32 : Int32))).2 ?_
    show Go p e below T108 (mkF m 96 #[vr a1, vi n] []) _
    refine XS.aloadN X108.here hx rfl (hb hby d36_96) rfl rfl ?_
    show Go p e below T108 (mkF m 97 #[vr a1, vi n] [wr a1]) _
    refine XS.iloadN X108.here hx rfl (hb hby d36_97) rfl ?_
    show Go p e below T108 (mkF m 98 #[vr a1, vi n] [wi n, wr a1]) _
    refine XS.bipush X108.here hx rfl (hb hby d36_98) ?_
    show Go p e below T108 (mkF m 100 #[vr a1, vi n] [wi 8, wi n, wr a1]) _
    refine XS.iadd X108.here hx rfl (hb hby d36_100) rfl ?_
    show Go p e below T108 (mkF m 101 #[vr a1, vi n] [wi (n + (8 : Int32)), wr a1]) _
    refine st109.trans ?_
    show Go p e below T109 (mkF m 104 #[vr a1, vi n] [wi 115]) _
    refine XS.bipush X109.here hx rfl (hb hby d36_104) ?_
    show Go p e below T109 (mkF m 106 #[vr a1, vi n] [wi 115, wi 115]) _
    refine XS.icmpNo X109.here hx rfl (hb hby d36_106) rfl (teq (rfl : (115 : Int32) = (115 : Int32))).2 ?_
    show Go p e below T109 (mkF m 109 #[vr a1, vi n] []) _
    refine XS.aloadN X109.here hx rfl (hb hby d36_109) rfl rfl ?_
    show Go p e below T109 (mkF m 110 #[vr a1, vi n] [wr a1]) _
    refine XS.iloadN X109.here hx rfl (hb hby d36_110) rfl ?_
    show Go p e below T109 (mkF m 111 #[vr a1, vi n] [wi n, wr a1]) _
    refine XS.bipush X109.here hx rfl (hb hby d36_111) ?_
    show Go p e below T109 (mkF m 113 #[vr a1, vi n] [wi 9, wi n, wr a1]) _
    refine XS.iadd X109.here hx rfl (hb hby d36_113) rfl ?_
    show Go p e below T109 (mkF m 114 #[vr a1, vi n] [wi (n + (9 : Int32)), wr a1]) _
    refine st110.trans ?_
    show Go p e below T110 (mkF m 117 #[vr a1, vi n] [wi 117]) _
    refine XS.bipush X110.here hx rfl (hb hby d36_117) ?_
    show Go p e below T110 (mkF m 119 #[vr a1, vi n] [wi 117, wi 117]) _
    refine XS.icmpNo X110.here hx rfl (hb hby d36_119) rfl (teq (rfl : (117 : Int32) = (117 : Int32))).2 ?_
    show Go p e below T110 (mkF m 122 #[vr a1, vi n] []) _
    refine XS.aloadN X110.here hx rfl (hb hby d36_122) rfl rfl ?_
    show Go p e below T110 (mkF m 123 #[vr a1, vi n] [wr a1]) _
    refine XS.iloadN X110.here hx rfl (hb hby d36_123) rfl ?_
    show Go p e below T110 (mkF m 124 #[vr a1, vi n] [wi n, wr a1]) _
    refine XS.bipush X110.here hx rfl (hb hby d36_124) ?_
    show Go p e below T110 (mkF m 126 #[vr a1, vi n] [wi 10, wi n, wr a1]) _
    refine XS.iadd X110.here hx rfl (hb hby d36_126) rfl ?_
    show Go p e below T110 (mkF m 127 #[vr a1, vi n] [wi (n + (10 : Int32)), wr a1]) _
    refine st111.trans ?_
    show Go p e below T111 (mkF m 130 #[vr a1, vi n] [wi 112]) _
    refine XS.bipush X111.here hx rfl (hb hby d36_130) ?_
    show Go p e below T111 (mkF m 132 #[vr a1, vi n] [wi 112, wi 112]) _
    refine XS.icmpNo X111.here hx rfl (hb hby d36_132) rfl (teq (rfl : (112 : Int32) = (112 : Int32))).2 ?_
    show Go p e below T111 (mkF m 135 #[vr a1, vi n] []) _
    refine XS.aloadN X111.here hx rfl (hb hby d36_135) rfl rfl ?_
    show Go p e below T111 (mkF m 136 #[vr a1, vi n] [wr a1]) _
    refine XS.iloadN X111.here hx rfl (hb hby d36_136) rfl ?_
    show Go p e below T111 (mkF m 137 #[vr a1, vi n] [wi n, wr a1]) _
    refine XS.bipush X111.here hx rfl (hb hby d36_137) ?_
    show Go p e below T111 (mkF m 139 #[vr a1, vi n] [wi 11, wi n, wr a1]) _
    refine XS.iadd X111.here hx rfl (hb hby d36_139) rfl ?_
    show Go p e below T111 (mkF m 140 #[vr a1, vi n] [wi (n + (11 : Int32)), wr a1]) _
    refine st112.trans ?_
    show Go p e below T112 (mkF m 143 #[vr a1, vi n] [wi 112]) _
    refine XS.bipush X112.here hx rfl (hb hby d36_143) ?_
    show Go p e below T112 (mkF m 145 #[vr a1, vi n] [wi 112, wi 112]) _
    refine XS.icmpNo X112.here hx rfl (hb hby d36_145) rfl (teq (rfl : (112 : Int32) = (112 : Int32))).2 ?_
    show Go p e below T112 (mkF m 148 #[vr a1, vi n] []) _
    refine XS.aloadN X112.here hx rfl (hb hby d36_148) rfl rfl ?_
    show Go p e below T112 (mkF m 149 #[vr a1, vi n] [wr a1]) _
    refine XS.iloadN X112.here hx rfl (hb hby d36_149) rfl ?_
    show Go p e below T112 (mkF m 150 #[vr a1, vi n] [wi n, wr a1]) _
    refine XS.bipush X112.here hx rfl (hb hby d36_150) ?_
    show Go p e below T112 (mkF m 152 #[vr a1, vi n] [wi 12, wi n, wr a1]) _
    refine XS.iadd X112.here hx rfl (hb hby d36_152) rfl ?_
    show Go p e below T112 (mkF m 153 #[vr a1, vi n] [wi (n + (12 : Int32)), wr a1]) _
    refine st113.trans ?_
    show Go p e below T113 (mkF m 156 #[vr a1, vi n] [wi 111]) _
    refine XS.bipush X113.here hx rfl (hb hby d36_156) ?_
    show Go p e below T113 (mkF m 158 #[vr a1, vi n] [wi 111, wi 111]) _
    refine XS.icmpNo X113.here hx rfl (hb hby d36_158) rfl (teq (rfl : (111 : Int32) = (111 : Int32))).2 ?_
    show Go p e below T113 (mkF m 161 #[vr a1, vi n] []) _
    refine XS.aloadN X113.here hx rfl (hb hby d36_161) rfl rfl ?_
    show Go p e below T113 (mkF m 162 #[vr a1, vi n] [wr a1]) _
    refine XS.iloadN X113.here hx rfl (hb hby d36_162) rfl ?_
    show Go p e below T113 (mkF m 163 #[vr a1, vi n] [wi n, wr a1]) _
    refine XS.bipush X113.here hx rfl (hb hby d36_163) ?_
    show Go p e below T113 (mkF m 165 #[vr a1, vi n] [wi 13, wi n, wr a1]) _
    refine XS.iadd X113.here hx rfl (hb hby d36_165) rfl ?_
    show Go p e below T113 (mkF m 166 #[vr a1, vi n] [wi (n + (13 : Int32)), wr a1]) _
    refine st114.trans ?_
    show Go p e below T114 (mkF m 169 #[vr a1, vi n] [wi 114]) _
    refine XS.bipush X114.here hx rfl (hb hby d36_169) ?_
    show Go p e below T114 (mkF m 171 #[vr a1, vi n] [wi 114, wi 114]) _
    refine XS.icmpNo X114.here hx rfl (hb hby d36_171) rfl (teq (rfl : (114 : Int32) = (114 : Int32))).2 ?_
    show Go p e below T114 (mkF m 174 #[vr a1, vi n] []) _
    refine XS.aloadN X114.here hx rfl (hb hby d36_174) rfl rfl ?_
    show Go p e below T114 (mkF m 175 #[vr a1, vi n] [wr a1]) _
    refine XS.iloadN X114.here hx rfl (hb hby d36_175) rfl ?_
    show Go p e below T114 (mkF m 176 #[vr a1, vi n] [wi n, wr a1]) _
    refine XS.bipush X114.here hx rfl (hb hby d36_176) ?_
    show Go p e below T114 (mkF m 178 #[vr a1, vi n] [wi 14, wi n, wr a1]) _
    refine XS.iadd X114.here hx rfl (hb hby d36_178) rfl ?_
    show Go p e below T114 (mkF m 179 #[vr a1, vi n] [wi (n + (14 : Int32)), wr a1]) _
    refine st115.trans ?_
    show Go p e below T115 (mkF m 182 #[vr a1, vi n] [wi 116]) _
    refine XS.bipush X115.here hx rfl (hb hby d36_182) ?_
    show Go p e below T115 (mkF m 184 #[vr a1, vi n] [wi 116, wi 116]) _
    refine XS.icmpNo X115.here hx rfl (hb hby d36_184) rfl (teq (rfl : (116 : Int32) = (116 : Int32))).2 ?_
    show Go p e below T115 (mkF m 187 #[vr a1, vi n] []) _
    refine XS.aloadN X115.here hx rfl (hb hby d36_187) rfl rfl ?_
    show Go p e below T115 (mkF m 188 #[vr a1, vi n] [wr a1]) _
    refine XS.iloadN X115.here hx rfl (hb hby d36_188) rfl ?_
    show Go p e below T115 (mkF m 189 #[vr a1, vi n] [wi n, wr a1]) _
    refine XS.bipush X115.here hx rfl (hb hby d36_189) ?_
    show Go p e below T115 (mkF m 191 #[vr a1, vi n] [wi 15, wi n, wr a1]) _
    refine XS.iadd X115.here hx rfl (hb hby d36_191) rfl ?_
    show Go p e below T115 (mkF m 192 #[vr a1, vi n] [wi (n + (15 : Int32)), wr a1]) _
    refine st116.trans ?_
    show Go p e below T116 (mkF m 195 #[vr a1, vi n] [wi 101]) _
    refine XS.bipush X116.here hx rfl (hb hby d36_195) ?_
    show Go p e below T116 (mkF m 197 #[vr a1, vi n] [wi 101, wi 101]) _
    refine XS.icmpNo X116.here hx rfl (hb hby d36_197) rfl (teq (rfl : (101 : Int32) = (101 : Int32))).2 ?_
    show Go p e below T116 (mkF m 200 #[vr a1, vi n] []) _
    refine XS.aloadN X116.here hx rfl (hb hby d36_200) rfl rfl ?_
    show Go p e below T116 (mkF m 201 #[vr a1, vi n] [wr a1]) _
    refine XS.iloadN X116.here hx rfl (hb hby d36_201) rfl ?_
    show Go p e below T116 (mkF m 202 #[vr a1, vi n] [wi n, wr a1]) _
    refine XS.bipush X116.here hx rfl (hb hby d36_202) ?_
    show Go p e below T116 (mkF m 204 #[vr a1, vi n] [wi 16, wi n, wr a1]) _
    refine XS.iadd X116.here hx rfl (hb hby d36_204) rfl ?_
    show Go p e below T116 (mkF m 205 #[vr a1, vi n] [wi (n + (16 : Int32)), wr a1]) _
    refine st117.trans ?_
    show Go p e below T117 (mkF m 208 #[vr a1, vi n] [wi 100]) _
    refine XS.bipush X117.here hx rfl (hb hby d36_208) ?_
    show Go p e below T117 (mkF m 210 #[vr a1, vi n] [wi 100, wi 100]) _
    refine XS.icmpNo X117.here hx rfl (hb hby d36_210) rfl (teq (rfl : (100 : Int32) = (100 : Int32))).2 ?_
    show Go p e below T117 (mkF m 213 #[vr a1, vi n] []) _
    refine XS.aloadN X117.here hx rfl (hb hby d36_213) rfl rfl ?_
    show Go p e below T117 (mkF m 214 #[vr a1, vi n] [wr a1]) _
    refine XS.iloadN X117.here hx rfl (hb hby d36_214) rfl ?_
    show Go p e below T117 (mkF m 215 #[vr a1, vi n] [wi n, wr a1]) _
    refine XS.bipush X117.here hx rfl (hb hby d36_215) ?_
    show Go p e below T117 (mkF m 217 #[vr a1, vi n] [wi 17, wi n, wr a1]) _
    refine XS.iadd X117.here hx rfl (hb hby d36_217) rfl ?_
    show Go p e below T117 (mkF m 218 #[vr a1, vi n] [wi (n + (17 : Int32)), wr a1]) _
    refine st118.trans ?_
    show Go p e below T118 (mkF m 221 #[vr a1, vi n] [wi 32]) _
    refine XS.bipush X118.here hx rfl (hb hby d36_221) ?_
    show Go p e below T118 (mkF m 223 #[vr a1, vi n] [wi 32, wi 32]) _
    refine XS.icmpNo X118.here hx rfl (hb hby d36_223) rfl (teq (rfl : (32 : Int32) = (32 : Int32))).2 ?_
    show Go p e below T118 (mkF m 226 #[vr a1, vi n] []) _
    refine XS.aloadN X118.here hx rfl (hb hby d36_226) rfl rfl ?_
    show Go p e below T118 (mkF m 227 #[vr a1, vi n] [wr a1]) _
    refine XS.iloadN X118.here hx rfl (hb hby d36_227) rfl ?_
    show Go p e below T118 (mkF m 228 #[vr a1, vi n] [wi n, wr a1]) _
    refine XS.bipush X118.here hx rfl (hb hby d36_228) ?_
    show Go p e below T118 (mkF m 230 #[vr a1, vi n] [wi 18, wi n, wr a1]) _
    refine XS.iadd X118.here hx rfl (hb hby d36_230) rfl ?_
    show Go p e below T118 (mkF m 231 #[vr a1, vi n] [wi (n + (18 : Int32)), wr a1]) _
    refine st119.trans ?_
    show Go p e below T119 (mkF m 234 #[vr a1, vi n] [wi 121]) _
    refine XS.bipush X119.here hx rfl (hb hby d36_234) ?_
    show Go p e below T119 (mkF m 236 #[vr a1, vi n] [wi 121, wi 121]) _
    refine XS.icmpNo X119.here hx rfl (hb hby d36_236) rfl (teq (rfl : (121 : Int32) = (121 : Int32))).2 ?_
    show Go p e below T119 (mkF m 239 #[vr a1, vi n] []) _
    refine XS.aloadN X119.here hx rfl (hb hby d36_239) rfl rfl ?_
    show Go p e below T119 (mkF m 240 #[vr a1, vi n] [wr a1]) _
    refine XS.iloadN X119.here hx rfl (hb hby d36_240) rfl ?_
    show Go p e below T119 (mkF m 241 #[vr a1, vi n] [wi n, wr a1]) _
    refine XS.bipush X119.here hx rfl (hb hby d36_241) ?_
    show Go p e below T119 (mkF m 243 #[vr a1, vi n] [wi 19, wi n, wr a1]) _
    refine XS.iadd X119.here hx rfl (hb hby d36_243) rfl ?_
    show Go p e below T119 (mkF m 244 #[vr a1, vi n] [wi (n + (19 : Int32)), wr a1]) _
    refine st120.trans ?_
    show Go p e below T120 (mkF m 247 #[vr a1, vi n] [wi 101]) _
    refine XS.bipush X120.here hx rfl (hb hby d36_247) ?_
    show Go p e below T120 (mkF m 249 #[vr a1, vi n] [wi 101, wi 101]) _
    refine XS.icmpNo X120.here hx rfl (hb hby d36_249) rfl (teq (rfl : (101 : Int32) = (101 : Int32))).2 ?_
    show Go p e below T120 (mkF m 252 #[vr a1, vi n] []) _
    refine XS.aloadN X120.here hx rfl (hb hby d36_252) rfl rfl ?_
    show Go p e below T120 (mkF m 253 #[vr a1, vi n] [wr a1]) _
    refine XS.iloadN X120.here hx rfl (hb hby d36_253) rfl ?_
    show Go p e below T120 (mkF m 254 #[vr a1, vi n] [wi n, wr a1]) _
    refine XS.bipush X120.here hx rfl (hb hby d36_254) ?_
    show Go p e below T120 (mkF m 256 #[vr a1, vi n] [wi 20, wi n, wr a1]) _
    refine XS.iadd X120.here hx rfl (hb hby d36_256) rfl ?_
    show Go p e below T120 (mkF m 257 #[vr a1, vi n] [wi (n + (20 : Int32)), wr a1]) _
    refine st121.trans ?_
    show Go p e below T121 (mkF m 260 #[vr a1, vi n] [wi 116]) _
    refine XS.bipush X121.here hx rfl (hb hby d36_260) ?_
    show Go p e below T121 (mkF m 262 #[vr a1, vi n] [wi 116, wi 116]) _
    refine XS.icmpNo X121.here hx rfl (hb hby d36_262) rfl (teq (rfl : (116 : Int32) = (116 : Int32))).2 ?_
    show Go p e below T121 (mkF m 265 #[vr a1, vi n] []) _
    refine XS.iconst X121.here hx rfl (hb hby d36_265) ?_
    show Go p e below T121 (mkF m 266 #[vr a1, vi n] [wi 1]) _
    refine XS.goto X121.here hx rfl (pc0 := 266) (pc' := 270) rfl (hb hby d36_266) (by decide) (by decide) ?_
    show Go p e below T121 (mkF m 270 #[vr a1, vi n] [wi 1]) _
    exact retN X121 hx (t := .boolean) Bd.returns (by simp) (hb hby d36_270) hr
  · show Qs (some (.int (1 : Int32))) h0 n0 _ T121.heap _
    rw [eq121]
    exact ⟨rfl, N121, rfl⟩
set_option maxRecDepth 65536 in
set_option maxHeartbeats 40000000 in
theorem rm0_0 (l : Launch) (Z : State) (a0 : Array Value) (hw : ∀ d ∈ tables_1, d.before a0 Z = true) (ws : List Jvm.Cond) (p1 : Int32) (p2 : Int32) (p3 : Int32) (p4 : Int32) (fm : Value) (G1 : Int32) (h0 : Heap) (n0 : Nat) (X00 : Old Z n0 h0) (hl : l.stackTraces = true) (hr2 : ∀ d ∈ twoRefs, d.before a0 Z = true) (O2 : Sta Z Z.heap "java/lang/String" "COMPACT_STRINGS" "Z" (.int G1)) (P5 : ¬ (G1 = (0 : Int32))) (FM : Sta Z Z.heap "jdk/internal/util/Preconditions" "SIOOBE_FORMATTER" "Ljava/util/function/BiFunction;" fm) (rf : fm.isRef = true) (hk_ : (p1 &&& (3 : Int32)) = (0 : Int32)) :
    MetFree l x (head1 (Jvm.Cond.code x code maxLocals ret :: ws) room_1) (fun a U => a = #[(.int p1), (.int p2), (.int p3), (.int p4)] ∧ Z.Warmed39 U.vm ∧ U.heap = h0 ∧ CHv Z consts_1 U.vm h0) (fun _ _ bl s _ => s.vm.MethodsKnown ∧ s.vm.FramesKnown bl) (fun _ U o U' => ∃ rv rL, o = .returned rv ∧ Q0 h0 n0 rv U'.heap rL ∧ ReturnedEndW U o U' rL room_1.cells room_1.slots) := by
  refine MetFree.of_bodySF (plainFor_of_name pn_0) hisR ?_
  intro p e s m args below meth c s₁ Bd hml0 hP hK
  obtain ⟨rfl, hZ, hh, hCH⟩ := hP
  have hx := Bd.exec
  have hby := Bd.bytes
  have hml : c.maxLocals = 16 := hml0
  have hown : s.vm.findClass "com/example/queryloom/queryloom/translation/TranslationExceptionUnsupportedPinLaw" = some m.cls := findClass_of_methodNamed Bd.named
  have hnm := (name_of_methodNamed Bd.named Bd.method).1
  have X0 : Stand p l e room_1 (s.setVm s.vm) m #[(.int p1), (.int p2), (.int p3), (.int p4)] below meth c s₁ [] 0 0 := Stand.of_body Bd
  have e0 : s₁.heap = h0 := by rw [← hh, Bd.state]; rfl
  have N0 := Fr.nil n0
  have hS0 : s.Since s.vm s.heap.size := own_since s
  have hk0 : s.heap.size ≤ h0.size := by rw [hh]; exact Nat.le_refl _
  have hstr := own_str hw
  have hEL := own_EL hw
  have pre0 : ∀ t, Steps p.tables e below (s₁.setTop (mkF m 0 #[.val (.int p1), .val (.int p2), .val (.int p3), .val (.int p4), .unset, .unset, .unset, .unset, .unset, .unset, .unset, .unset, .unset, .unset, .unset, .unset] [])) t → Steps p.tables e below (s₁.setTop (entryFrame m #[(.int p1), (.int p2), (.int p3), (.int p4)] maxLocals)) t := fun t k => castTop (ef_0 m p1 p2 p3 p4) k
  obtain ⟨c0, hc0⟩ : ∃ c : Int32, c = ((p2 &&& (255 : Int32)).toUInt32.toUInt16.toUInt32.toInt32) := ⟨_, rfl⟩
  obtain ⟨c1, hc1⟩ : ∃ c : Int32, c = ((p3 &&& (255 : Int32)).toUInt32.toUInt16.toUInt32.toInt32) := ⟨_, rfl⟩
  obtain ⟨c2, hc2⟩ : ∃ c : Int32, c = ((p4 &&& (255 : Int32)).toUInt32.toUInt16.toUInt32.toInt32) := ⟨_, rfl⟩
  have hwc : ∀ d ∈ StrChars.Road.wordsChN, d.before a0 Z = true := fun d hd => hw d ((by decide +kernel : ∀ d ∈ StrChars.Road.wordsChN, d ∈ tables_1) d hd)
  have hcs : ∀ c ∈ (ci_3 : List Int32), ¬ c < 0 ∧ ¬ (255 : Int32) < c := own_lit
  obtain ⟨T101, h101, k101, X101, e101, E101, A101, st101⟩ := newP X0 hx hZ (tw hw 0 rfl) e0 (g := (mkF m 30 #[vi p1, vi p2, vi p3, vi p4, vi 0, vi c0, vi c1, vi c2, .unset, .unset, .unset, .unset, .unset, .unset, .unset, .unset] [wi 0])) rfl (hb hby at_30) rfl (by decide) (cap := 0) (by decide) (by decide) (by decide) (by decide)
  obtain ⟨b101, g101⟩ : ∃ z, z = h0.size := ⟨_, rfl⟩
  rw [← g101] at A101 st101
  have g_b101 : n0 ≤ b101 := Nat.le_trans (own_le X00) (Nat.le_of_eq g101.symm)
  have sn101 : Safe Z consts_1 s.vm h0 b101 := Safe.new (Nat.le_of_eq g101.symm)
  have V101 : Arv Z h101 b101 k101 .char (0 : Int32) [] (.int (0 : Int32)) := Arv.new A101 (by decide)
  have sf102_b101 := Safe.ext E101 hCH sn101
  have cr102 := (CHr.refl hCH).trans (CHr.ext E101 hCH)
  have ch102 := CHv.ext E101 hCH
  have lz103_b101 := V101.lt
  obtain ⟨T103, h103, k103, X103, e103, E103, A103, st103⟩ := newP X101 hx hZ (tw hw 0 rfl) e101 (g := (mkF m 35 #[vi p1, vi p2, vi p3, vi p4, vi 0, vi c0, vi c1, vi c2, vr b101, .unset, .unset, .unset, .unset, .unset, .unset, .unset] [wi 1])) rfl (hb hby at_35) rfl (by decide) (cap := 1) (by decide) (by decide) (by decide) (by decide)
  obtain ⟨b103, g103⟩ : ∃ z, z = h101.size := ⟨_, rfl⟩
  rw [← g103] at A103 st103
  have y104 := (X00.ext E101)
  have g_b103 : n0 ≤ b103 := Nat.le_trans (own_le y104) (Nat.le_of_eq g103.symm)
  have lt_b101_b103 : b101 < b103 := Nat.lt_of_lt_of_le lz103_b101 (Nat.le_of_eq g103.symm)
  have sn103 : Safe Z consts_1 s.vm h101 b103 := Safe.new (Nat.le_of_eq g103.symm)
  have V103 : Arv Z h103 b103 k103 .char (1 : Int32) [(.int (0 : Int32))] (.int (0 : Int32)) := (Arv.new A103 (by decide)).pad (pad_rep [] (.int (0 : Int32)) 1)
  have sf105_b101 := Safe.ext E103 ch102 sf102_b101
  have sf105_b103 := Safe.ext E103 ch102 sn103
  have cr105 := cr102.trans (CHr.ext E103 ch102)
  have ch105 := CHv.ext E103 ch102
  obtain ⟨cl106, Ar106, q106, S106, M106, H106, G106⟩ := id V103
  obtain ⟨T106, h106, X106, e106, W106, st106⟩ := stC X103 hx hZ e103 Ar106 (j := (0 : Int32)) (inb_of S106 ⟨by decide, by decide⟩) (g := (mkF m 41 #[vi p1, vi p2, vi p3, vi p4, vi 0, vi c0, vi c1, vi c2, vr b101, .unset, .unset, .unset, .unset, .unset, .unset, .unset] [wi c0, wi 0, wr b103, wr b103])) rfl rfl (hb hby at_41)
  have V106 : Arv Z h106 b103 k103 .char (1 : Int32) [(.int (nar .char c0))] (.int (0 : Int32)) := Arv.set Ar106 q106 S106 M106 H106 G106 (fits_nar_char _) W106 0 rfl (Nat.le_of_ble_eq_true rfl)
  have sf107_b101 := Safe.wr W106 sf105_b103 ch105 sf105_b101
  have sf107_b103 := Safe.wr W106 sf105_b103 ch105 sf105_b103
  have cr107 := cr105.trans (CHr.wr W106 sf105_b103 ch105)
  have ch107 := CHv.wr W106 sf105_b103 ch105
  have N106 := Fr.snoc X106 N0 g_b103
  have y109 := ((V101.ext E103).other W106 (Nat.ne_of_lt lt_b101_b103))
  have lz108_b101 := y109.lt
  have lz108_b103 := V106.lt
  obtain ⟨T108, h108, k108, X108, e108, E108, A108, st108⟩ := newP X106 hx hZ (tw hw 0 rfl) e106 (g := (mkF m 45 #[vi p1, vi p2, vi p3, vi p4, vi 0, vi c0, vi c1, vi c2, vr b101, vr b103, .unset, .unset, .unset, .unset, .unset, .unset] [wi 2])) rfl (hb hby at_45) rfl (by decide) (cap := 2) (by decide) (by decide) (by decide) (by decide)
  obtain ⟨b108, g108⟩ : ∃ z, z = h106.size := ⟨_, rfl⟩
  rw [← g108] at A108 st108
  have y110 := ((y104.ext E103).wr W106 g_b103)
  have g_b108 : n0 ≤ b108 := Nat.le_trans (own_le y110) (Nat.le_of_eq g108.symm)
  have lt_b101_b108 : b101 < b108 := Nat.lt_of_lt_of_le lz108_b101 (Nat.le_of_eq g108.symm)
  have lt_b103_b108 : b103 < b108 := Nat.lt_of_lt_of_le lz108_b103 (Nat.le_of_eq g108.symm)
  have sn108 : Safe Z consts_1 s.vm h106 b108 := Safe.new (Nat.le_of_eq g108.symm)
  have V108 : Arv Z h108 b108 k108 .char (2 : Int32) [(.int (0 : Int32)), (.int (0 : Int32))] (.int (0 : Int32)) := (Arv.new A108 (by decide)).pad (pad_rep [] (.int (0 : Int32)) 2)
  have sf111_b101 := Safe.ext E108 ch107 sf107_b101
  have sf111_b103 := Safe.ext E108 ch107 sf107_b103
  have sf111_b108 := Safe.ext E108 ch107 sn108
  have cr111 := cr107.trans (CHr.ext E108 ch107)
  have ch111 := CHv.ext E108 ch107
  obtain ⟨cl112, Ar112, q112, S112, M112, H112, G112⟩ := id V108
  obtain ⟨T112, h112, X112, e112, W112, st112⟩ := stC X108 hx hZ e108 Ar112 (j := (0 : Int32)) (inb_of S112 ⟨by decide, by decide⟩) (g := (mkF m 51 #[vi p1, vi p2, vi p3, vi p4, vi 0, vi c0, vi c1, vi c2, vr b101, vr b103, .unset, .unset, .unset, .unset, .unset, .unset] [wi c0, wi 0, wr b108, wr b108])) rfl rfl (hb hby at_51)
  have V112 : Arv Z h112 b108 k108 .char (2 : Int32) [(.int (nar .char c0)), (.int (0 : Int32))] (.int (0 : Int32)) := Arv.set Ar112 q112 S112 M112 H112 G112 (fits_nar_char _) W112 0 rfl (Nat.le_of_ble_eq_true rfl)
  have sf113_b101 := Safe.wr W112 sf111_b108 ch111 sf111_b101
  have sf113_b103 := Safe.wr W112 sf111_b108 ch111 sf111_b103
  have sf113_b108 := Safe.wr W112 sf111_b108 ch111 sf111_b108
  have cr113 := cr111.trans (CHr.wr W112 sf111_b108 ch111)
  have ch113 := CHv.wr W112 sf111_b108 ch111
  have N112 := Fr.snoc X112 N106 g_b108
  obtain ⟨cl114, Ar114, q114, S114, M114, H114, G114⟩ := id V112
  obtain ⟨T114, h114, X114, e114, W114, st114⟩ := stC X112 hx hZ e112 Ar114 (j := (1 : Int32)) (inb_of S114 ⟨by decide, by decide⟩) (g := (mkF m 56 #[vi p1, vi p2, vi p3, vi p4, vi 0, vi c0, vi c1, vi c2, vr b101, vr b103, .unset, .unset, .unset, .unset, .unset, .unset] [wi c1, wi 1, wr b108, wr b108])) rfl rfl (hb hby at_56)
  have V114 : Arv Z h114 b108 k108 .char (2 : Int32) [(.int (nar .char c0)), (.int (nar .char c1))] (.int (0 : Int32)) := Arv.set Ar114 q114 S114 M114 H114 G114 (fits_nar_char _) W114 1 rfl (Nat.le_of_ble_eq_true rfl)
  have sf115_b101 := Safe.wr W114 sf113_b108 ch113 sf113_b101
  have sf115_b103 := Safe.wr W114 sf113_b108 ch113 sf113_b103
  have sf115_b108 := Safe.wr W114 sf113_b108 ch113 sf113_b108
  have cr115 := cr113.trans (CHr.wr W114 sf113_b108 ch113)
  have ch115 := CHv.wr W114 sf113_b108 ch113
  have N114 := Fr.snoc X114 N112 g_b108
  have y117 := (((y109.ext E108).other W112 (Nat.ne_of_lt lt_b101_b108)).other W114 (Nat.ne_of_lt lt_b101_b108))
  have lz116_b101 := y117.lt
  have y118 := (((V106.ext E108).other W112 (Nat.ne_of_lt lt_b103_b108)).other W114 (Nat.ne_of_lt lt_b103_b108))
  have lz116_b103 := y118.lt
  have lz116_b108 := V114.lt
  obtain ⟨T116, h116, k116, X116, e116, E116, A116, st116⟩ := newP X114 hx hZ (tw hw 0 rfl) e114 (g := (mkF m 60 #[vi p1, vi p2, vi p3, vi p4, vi 0, vi c0, vi c1, vi c2, vr b101, vr b103, vr b108, .unset, .unset, .unset, .unset, .unset] [wi 3])) rfl (hb hby at_60) rfl (by decide) (cap := 3) (by decide) (by decide) (by decide) (by decide)
  obtain ⟨b116, g116⟩ : ∃ z, z = h114.size := ⟨_, rfl⟩
  rw [← g116] at A116 st116
  have y119 := (((y110.ext E108).wr W112 g_b108).wr W114 g_b108)
  have g_b116 : n0 ≤ b116 := Nat.le_trans (own_le y119) (Nat.le_of_eq g116.symm)
  have lt_b101_b116 : b101 < b116 := Nat.lt_of_lt_of_le lz116_b101 (Nat.le_of_eq g116.symm)
  have lt_b103_b116 : b103 < b116 := Nat.lt_of_lt_of_le lz116_b103 (Nat.le_of_eq g116.symm)
  have lt_b108_b116 : b108 < b116 := Nat.lt_of_lt_of_le lz116_b108 (Nat.le_of_eq g116.symm)
  have sn116 : Safe Z consts_1 s.vm h114 b116 := Safe.new (Nat.le_of_eq g116.symm)
  have V116 : Arv Z h116 b116 k116 .char (3 : Int32) [(.int (0 : Int32)), (.int (0 : Int32)), (.int (0 : Int32))] (.int (0 : Int32)) := (Arv.new A116 (by decide)).pad (pad_rep [] (.int (0 : Int32)) 3)
  have sf120_b101 := Safe.ext E116 ch115 sf115_b101
  have sf120_b103 := Safe.ext E116 ch115 sf115_b103
  have sf120_b108 := Safe.ext E116 ch115 sf115_b108
  have sf120_b116 := Safe.ext E116 ch115 sn116
  have cr120 := cr115.trans (CHr.ext E116 ch115)
  have ch120 := CHv.ext E116 ch115
  obtain ⟨cl121, Ar121, q121, S121, M121, H121, G121⟩ := id V116
  obtain ⟨T121, h121, X121, e121, W121, st121⟩ := stC X116 hx hZ e116 Ar121 (j := (0 : Int32)) (inb_of S121 ⟨by decide, by decide⟩) (g := (mkF m 66 #[vi p1, vi p2, vi p3, vi p4, vi 0, vi c0, vi c1, vi c2, vr b101, vr b103, vr b108, .unset, .unset, .unset, .unset, .unset] [wi c0, wi 0, wr b116, wr b116])) rfl rfl (hb hby at_66)
  have V121 : Arv Z h121 b116 k116 .char (3 : Int32) [(.int (nar .char c0)), (.int (0 : Int32)), (.int (0 : Int32))] (.int (0 : Int32)) := Arv.set Ar121 q121 S121 M121 H121 G121 (fits_nar_char _) W121 0 rfl (Nat.le_of_ble_eq_true rfl)
  have sf122_b101 := Safe.wr W121 sf120_b116 ch120 sf120_b101
  have sf122_b103 := Safe.wr W121 sf120_b116 ch120 sf120_b103
  have sf122_b108 := Safe.wr W121 sf120_b116 ch120 sf120_b108
  have sf122_b116 := Safe.wr W121 sf120_b116 ch120 sf120_b116
  have cr122 := cr120.trans (CHr.wr W121 sf120_b116 ch120)
  have ch122 := CHv.wr W121 sf120_b116 ch120
  have N121 := Fr.snoc X121 N114 g_b116
  obtain ⟨cl123, Ar123, q123, S123, M123, H123, G123⟩ := id V121
  obtain ⟨T123, h123, X123, e123, W123, st123⟩ := stC X121 hx hZ e121 Ar123 (j := (1 : Int32)) (inb_of S123 ⟨by decide, by decide⟩) (g := (mkF m 71 #[vi p1, vi p2, vi p3, vi p4, vi 0, vi c0, vi c1, vi c2, vr b101, vr b103, vr b108, .unset, .unset, .unset, .unset, .unset] [wi c1, wi 1, wr b116, wr b116])) rfl rfl (hb hby at_71)
  have V123 : Arv Z h123 b116 k116 .char (3 : Int32) [(.int (nar .char c0)), (.int (nar .char c1)), (.int (0 : Int32))] (.int (0 : Int32)) := Arv.set Ar123 q123 S123 M123 H123 G123 (fits_nar_char _) W123 1 rfl (Nat.le_of_ble_eq_true rfl)
  have sf124_b101 := Safe.wr W123 sf122_b116 ch122 sf122_b101
  have sf124_b103 := Safe.wr W123 sf122_b116 ch122 sf122_b103
  have sf124_b108 := Safe.wr W123 sf122_b116 ch122 sf122_b108
  have sf124_b116 := Safe.wr W123 sf122_b116 ch122 sf122_b116
  have cr124 := cr122.trans (CHr.wr W123 sf122_b116 ch122)
  have ch124 := CHv.wr W123 sf122_b116 ch122
  have N123 := Fr.snoc X123 N121 g_b116
  obtain ⟨cl125, Ar125, q125, S125, M125, H125, G125⟩ := id V123
  obtain ⟨T125, h125, X125, e125, W125, st125⟩ := stC X123 hx hZ e123 Ar125 (j := (2 : Int32)) (inb_of S125 ⟨by decide, by decide⟩) (g := (mkF m 76 #[vi p1, vi p2, vi p3, vi p4, vi 0, vi c0, vi c1, vi c2, vr b101, vr b103, vr b108, .unset, .unset, .unset, .unset, .unset] [wi c2, wi 2, wr b116, wr b116])) rfl rfl (hb hby at_76)
  have V125 : Arv Z h125 b116 k116 .char (3 : Int32) [(.int (nar .char c0)), (.int (nar .char c1)), (.int (nar .char c2))] (.int (0 : Int32)) := Arv.set Ar125 q125 S125 M125 H125 G125 (fits_nar_char _) W125 2 rfl (Nat.le_of_ble_eq_true rfl)
  have sf126_b101 := Safe.wr W125 sf124_b116 ch124 sf124_b101
  have sf126_b103 := Safe.wr W125 sf124_b116 ch124 sf124_b103
  have sf126_b108 := Safe.wr W125 sf124_b116 ch124 sf124_b108
  have sf126_b116 := Safe.wr W125 sf124_b116 ch124 sf124_b116
  have cr126 := cr124.trans (CHr.wr W125 sf124_b116 ch124)
  have ch126 := CHv.wr W125 sf124_b116 ch124
  have N125 := Fr.snoc X125 N123 g_b116
  have y128 := ((((y117.ext E116).other W121 (Nat.ne_of_lt lt_b101_b116)).other W123 (Nat.ne_of_lt lt_b101_b116)).other W125 (Nat.ne_of_lt lt_b101_b116))
  have lz127_b101 := y128.lt
  have y129 := ((((y118.ext E116).other W121 (Nat.ne_of_lt lt_b103_b116)).other W123 (Nat.ne_of_lt lt_b103_b116)).other W125 (Nat.ne_of_lt lt_b103_b116))
  have lz127_b103 := y129.lt
  have y130 := ((((V114.ext E116).other W121 (Nat.ne_of_lt lt_b108_b116)).other W123 (Nat.ne_of_lt lt_b108_b116)).other W125 (Nat.ne_of_lt lt_b108_b116))
  have lz127_b108 := y130.lt
  have lz127_b116 := V125.lt
  obtain ⟨T127, h127, X127, e127, E127, A127, D127, U127, st127⟩ := newO X125 hx hZ hown (tw hw 1 rfl) (tw hw 2 rfl) (tw hw 3 rfl) e125 (g := (mkF m 119 #[vi p1, vi p2, vi p3, vi p4, vi 0, vi c0, vi c1, vi c2, vr b101, vr b103, vr b108, vr b116, vr b101, .unset, .unset, .unset] [])) rfl (hb hby at_119) (by decide) (by decide)
  obtain ⟨b127, g127⟩ : ∃ z, z = h125.size := ⟨_, rfl⟩
  rw [← g127] at A127 D127 U127 st127
  have y131 := ((((y119.ext E116).wr W121 g_b116).wr W123 g_b116).wr W125 g_b116)
  have g_b127 : n0 ≤ b127 := Nat.le_trans (own_le y131) (Nat.le_of_eq g127.symm)
  have lt_b101_b127 : b101 < b127 := Nat.lt_of_lt_of_le lz127_b101 (Nat.le_of_eq g127.symm)
  have lt_b103_b127 : b103 < b127 := Nat.lt_of_lt_of_le lz127_b103 (Nat.le_of_eq g127.symm)
  have lt_b108_b127 : b108 < b127 := Nat.lt_of_lt_of_le lz127_b108 (Nat.le_of_eq g127.symm)
  have lt_b116_b127 : b116 < b127 := Nat.lt_of_lt_of_le lz127_b116 (Nat.le_of_eq g127.symm)
  have sn127 : Safe Z consts_1 s.vm h125 b127 := Safe.new (Nat.le_of_eq g127.symm)
  have sf132_b101 := Safe.ext E127 ch126 sf126_b101
  have sf132_b103 := Safe.ext E127 ch126 sf126_b103
  have sf132_b108 := Safe.ext E127 ch126 sf126_b108
  have sf132_b116 := Safe.ext E127 ch126 sf126_b116
  have sf132_b127 := Safe.ext E127 ch126 sn127
  have cr132 := cr126.trans (CHr.ext E127 ch126)
  have ch132 := CHv.ext E127 ch126
  have F127_value : Fld Z h127 b127 "java/lang/String" "value" "[B" .null := D127 (Or.inr (tw hw 16 rfl)) (ty := (.array .byte)) (by decide)
  have F127_coder : Fld Z h127 b127 "java/lang/String" "coder" "B" (.int (0 : Int32)) := D127 (Or.inr (tw hw 17 rfl)) (ty := .byte) (by decide)
  have y133 := (y128.ext E127)
  have y134 := (y131.ext E127)
  have lz135_b101 := y133.lt
  have y136 := (y129.ext E127)
  have lz135_b103 := y136.lt
  have y137 := (y130.ext E127)
  have lz135_b108 := y137.lt
  have y138 := (V125.ext E127)
  have lz135_b116 := y138.lt
  have lz135_b127 := A127.lt
  obtain ⟨_, _, ⟨T135, L135, k135, n135⟩, -, X135, hs135, hg135, ⟨Lc135, hQ135, l135, y135, z135, R135⟩, st135⟩ := X127.specialBackS hx (y := mn_19) rfl hown (mvT hZ (tw hw 4 rfl)) (mvT hZ (tw hw 5 rfl)) (mvT hZ (tw hw 6 rfl)) (by decide) (backOfSH (W := 1) (rmS0 l Z a0 hw [] b127 b101 k101 ((.int (0 : Int32))) h127 n0 y134 A127 F127_value F127_coder g_b127 y133) hZ (tw hw 6 rfl) (tw hw 3 rfl) (by decide) (by decide) hEL ch132) (g := (mkF m 125 #[vi p1, vi p2, vi p3, vi p4, vi 0, vi c0, vi c1, vi c2, vr b101, vr b103, vr b108, vr b116, vr b101, .unset, .unset, .unset] [wr b101, wr b127, wr b127])) rfl (by rw [hml]; rfl) (Steps.refl _) (a := b127) (argsL := [wr b101]) (rest := [wr b127]) (lenOf pd_AC_V rfl) rfl (Nat.le_refl _) (hb hby at_125) (fun _ _ => ⟨rfl, e127, (by decide : 5 + 4 ≤ _), (by decide : 10 + 8 ≤ _)⟩)
  dsimp only [Pt.U, Pt.locs, Pt.cells, Pt.slots] at X135 l135 y135 z135 st135 hQ135 hs135 hg135 R135
  subst l135 y135 z135
  obtain ⟨rfl, N135q, Kc135, ut135, uq135, uE135, uv135, uk135, uV135⟩ := hQ135
  have N135 := Fr.app N125 N135q
  have y139 := (Nat.le_trans (Nat.le_trans (Nat.le_trans (Nat.le_trans (Nat.le_trans (Nat.le_trans (Nat.le_trans (Nat.le_trans (Nat.le_trans (Nat.le_trans (Nat.le_trans hk0 E101.1) E103.1) (Keep.of_wr W106).1) E108.1) (Keep.of_wr W112).1) (Keep.of_wr W114).1) E116.1) (Keep.of_wr W121).1) (Keep.of_wr W123).1) (Keep.of_wr W125).1) E127.1)
  obtain ⟨X135r, hS135, hZ135, hown135⟩ := rebS hS0 (by rw [e127]; exact y139) X135 hs135 hg135 hZ hown
  have tk140 := Vm.MethodsKnown.alikeC (own_al hS135) hK.1
  have bk140 := Vm.FramesKnown.alikeC (own_al hS135) hK.2
  have sf141_b101 := R135.safe lz135_b101 sf132_b101
  have sf141_b103 := R135.safe lz135_b103 sf132_b103
  have sf141_b108 := R135.safe lz135_b108 sf132_b108
  have sf141_b116 := R135.safe lz135_b116 sf132_b116
  have sf141_b127 := R135.safe lz135_b127 sf132_b127
  have cr141 := cr132.trans R135
  have ch141 := R135.1
  have y142 := (y134.keep Kc135 (allS g_b127 all0))
  have y144 := (y133.keep Kc135 (own_nmc (Nat.ne_of_lt lt_b101_b127) own_nm0))
  have lz143_b101 := y144.lt
  have y145 := (y136.keep Kc135 (own_nmc (Nat.ne_of_lt lt_b103_b127) own_nm0))
  have lz143_b103 := y145.lt
  have y146 := (y137.keep Kc135 (own_nmc (Nat.ne_of_lt lt_b108_b127) own_nm0))
  have lz143_b108 := y146.lt
  have y147 := (y138.keep Kc135 (own_nmc (Nat.ne_of_lt lt_b116_b127) own_nm0))
  have lz143_b116 := y147.lt
  have lz143_b127 := uE135.lt
  have lz143_ut135 := uV135.lt
  obtain ⟨_, _, ⟨T143, L143, k143, n143⟩, -, X143, hs143, hg143, ⟨Lc143, hQ143, l143, y143, z143, R143⟩, st143⟩ := callSS X135r hx (y := mn_2) hown135 (mvT hZ135 (tw hw 22 rfl)) (mvT hZ135 (tw hw 23 rfl)) (mvT hZ135 (tw hw 24 rfl)) (mvT hZ135 (tw hw 25 rfl)) (by decide) (own_backSHK (W := 0) (rmU l Z a0 hw [] b127 (0 : Int32) ut135 uq135 [] G1 T135.heap n0 y142 (Or.inl rfl) hl hr2 O2 P5 uE135 uv135 uk135 uV135) hZ135 (tw hw 25 rfl) (tw hw 24 rfl) (by decide) (by decide) hEL ch141 tk140 bk140) (g := (mkF m 132 #[vi p1, vi p2, vi p3, vi p4, vi 0, vi c0, vi c1, vi c2, vr b101, vr b103, vr b108, vr b116, vr b101, vr b127, .unset, .unset] [wr b127])) rfl (by rw [hml]; rfl) (argsL := [wr b127]) (rest := []) (lenOf pd_Ljava_lang_String__Lcom_example_queryloom_queryloom_translation_TranslationException_ rfl) rfl (Nat.le_refl _) (hb hby at_132) (fun _ _ => ⟨rfl, rfl, (by decide : 9 + 9 ≤ _), (by decide : 18 + 2928 ≤ _)⟩)
  dsimp only [Pt.U, Pt.locs, Pt.cells, Pt.slots] at X143 l143 y143 z143 st143 hQ143 hs143 hg143 R143
  subst l143 y143 z143
  obtain ⟨ur143, ux143, ut143, uq143, rfl, N143q, Kc143, uE143, um143, uF143, uv143, uk143, uW143⟩ := hQ143
  have N143 := Fr.app N135 N143q
  obtain ⟨X143r, hS143, hZ143, hown143⟩ := rebS hS135 (Nat.le_refl _) X143 hs143 hg143 hZ135 hown135
  have tk148 := Vm.MethodsKnown.alikeC (own_al hS143) hK.1
  have bk148 := Vm.FramesKnown.alikeC (own_al hS143) hK.2
  have sf149_b101 := R143.safe lz143_b101 sf141_b101
  have sf149_b103 := R143.safe lz143_b103 sf141_b103
  have sf149_b108 := R143.safe lz143_b108 sf141_b108
  have sf149_b116 := R143.safe lz143_b116 sf141_b116
  have sf149_b127 := R143.safe lz143_b127 sf141_b127
  have cr149 := cr141.trans R143
  have ch149 := R143.1
  have uV143 : Arv Z T143.heap ut143 uq143 .byte (21 : Int32) cv_2 (.int (0 : Int32)) := uW143
  have y150 := (y142.keep Kc143 all0)
  obtain ⟨cq151, kq151, q151a, q151b, q151c⟩ := isOf hZ143 rfl uE143
  obtain ⟨_, _, ⟨T151, L151, k151, n151⟩, -, X151, ⟨Lc151, hQ151, l151, y151, z151⟩, st151⟩ := X143r.virtualBackUp hx (x := mn_1) (y := mn_40) hown143 (mvT hZ143 (tw hw 208 rfl)) (mvT hZ143 (tw hw 209 rfl)) (mvT hZ143 (tw hw 210 rfl)) (by decide) (mvT hZ143 (tw hw 212 rfl)) (mvT hZ143 (tw hw 211 rfl)) (backOf (W := 0) (rmGM l Z a0 hw [] ur143 ux143 T143.heap n0 y150 um143) hZ143 (tw hw 213 rfl) (tw hw 169 rfl) (by decide) (by decide)) q151a q151c (g := (mkF m 146 #[vi p1, vi p2, vi p3, vi p4, vi 0, vi c0, vi c1, vi c2, vr b101, vr b103, vr b108, vr b116, vr b101, vr b127, vr ur143, .unset] [wr ur143])) rfl (by rw [hml]; rfl) (Steps.refl _) (argsL := []) (rest := []) (lenOf pd__Ljava_lang_String_ rfl) rfl (Nat.le_refl _) (hb hby at_146) (fun _ _ => ⟨rfl, rfl, (by decide : 18 + 0 ≤ _), (by decide : 2946 + 0 ≤ _)⟩)
  dsimp only [Pt.U, Pt.locs, Pt.cells, Pt.slots] at X151 l151 y151 z151 st151 hQ151
  subst l151 y151 z151
  obtain ⟨rfl, N151q, eq151⟩ := hQ151
  have N151 := Fr.app N143 N151q
  obtain ⟨cq152, kq152, q152a, q152b, q152c⟩ := isOf hZ143 eq151 uF143
  obtain ⟨_, _, ⟨T152, L152, k152, n152⟩, -, X152, ⟨Lc152, hQ152, l152, y152, z152⟩, st152⟩ := X151.virtualBack hx (y := mn_26) (z := mn_26) hown143 (mvT hZ143 (tw hw 214 rfl)) (mvT hZ143 (tw hw 57 rfl)) (notFace_of_selects (args := #[]) (mvT hZ143 (tw hw 59 rfl))) (mvT hZ143 (tw hw 59 rfl)) (mvT hZ143 (tw hw 58 rfl)) (by decide) (backOf (W := 0) (rmLen l Z a0 hw [] ux143 (0 : Int32) ut143 uq143 (21 : Int32) cv_2 G1 T143.heap n0 y150 (Or.inl rfl) O2 P5 uF143 uv143 uk143 uV143) hZ143 (tw hw 60 rfl) (tw hw 3 rfl) (by decide) (by decide)) q152a q152c (g := (mkF m 160 #[vi p1, vi p2, vi p3, vi p4, vi 0, vi c0, vi c1, vi c2, vr b101, vr b103, vr b108, vr b116, vr b101, vr b127, vr ur143, vr ux143] [wr ux143])) rfl (by rw [hml]; rfl) (Steps.refl _) (argsL := []) (rest := []) (lenOf pd__I rfl) rfl (Nat.le_refl _) (hb hby at_160) (fun _ _ => ⟨rfl, eq151, (by decide : 18 + 0 ≤ _), (by decide : 2946 + 0 ≤ _)⟩)
  dsimp only [Pt.U, Pt.locs, Pt.cells, Pt.slots] at X152 l152 y152 z152 st152 hQ152
  subst l152 y152 z152
  obtain ⟨rfl, N152q, eq152⟩ := hQ152
  have N152 := Fr.app N151 N152q
  have hch_ : ∀ i, i < 21 → ((ci_3 : List Int32)).getD (((0 : Int32)).toNatClampNeg + i) 0 = (ci_3 : List Int32).getD i 0 := fun i _ => by show ((ci_3 : List Int32)).getD (0 + i) 0 = _; rw [Nat.add_comm]; rfl
  obtain ⟨_, _, ⟨T153, L153, k153, n153⟩, -, X153, ⟨Lc153, hQ153, l153, y153, z153⟩, st153⟩ := Jvm.LawKit.callS X152 hx (y := mn_3) hown143 (mvT hZ143 (tw hw 215 rfl)) (mvT hZ143 (tw hw 216 rfl)) (mvT hZ143 (tw hw 217 rfl)) (mvT hZ143 (tw hw 218 rfl)) (by decide) (backOf (W := 0) (rmSuf l Z a0 hw [] ux143 (0 : Int32) ut143 uq143 fm (21 : Int32) cv_2 (ci_3 : List Int32) G1 T143.heap n0 y150 (Or.inl rfl) O2 P5 FM rf uF143 uv143 uk143 uV143 (Or.inl ⟨rfl, rfl, rfl, own_no255 hcs⟩) hcs rfl hch_) hZ143 (tw hw 218 rfl) (tw hw 217 rfl) (by decide) (by decide)) (g := (mkF m 234 #[vi p1, vi p2, vi p3, vi p4, vi 0, vi c0, vi c1, vi c2, vr b101, vr b103, vr b108, vr b116, vr b101, vr b127, vr ur143, vr ux143] [wi 0, wr ux143])) rfl (by rw [hml]; rfl) (argsL := [wr ux143, wi 0]) (rest := []) (lenOf pd_Ljava_lang_String_I_Z rfl) rfl (Nat.le_refl _) (hb hby at_234) (fun _ _ => ⟨rfl, eq152, (by decide : 18 + 0 ≤ _), (by decide : 2946 + 0 ≤ _)⟩)
  dsimp only [Pt.U, Pt.locs, Pt.cells, Pt.slots] at X153 l153 y153 z153 st153 hQ153
  subst l153 y153 z153
  obtain ⟨rfl, N153q, eq153⟩ := hQ153
  have N153 := Fr.app N152 N153q
  obtain ⟨fs, hr, hrun, hended, hRW⟩ := X153.leaveW hS143 (by rw [eq153]; exact (Nat.le_refl _)) (v := some (.int (1 : Int32))) (fun h => by rw [Bd.returns] at h; cases h)
  refine ⟨_, _, pre0 _ ?_, hrun, hended, _, _, rfl, ?_, hRW.1, hRW.2.1, hRW.2.2.1, hRW.2.2.2.mono (by decide) (by decide)⟩
  · show Go p e below s₁ (mkF m 0 #[vi p1, vi p2, vi p3, vi p4, .unset, .unset, .unset, .unset, .unset, .unset, .unset, .unset, .unset, .unset, .unset, .unset] []) _
    refine XS.iloadN X0.here hx rfl (hb hby at_0) rfl ?_
    show Go p e below s₁ (mkF m 1 #[vi p1, vi p2, vi p3, vi p4, .unset, .unset, .unset, .unset, .unset, .unset, .unset, .unset, .unset, .unset, .unset, .unset] [wi p1]) _
    refine XS.iconst X0.here hx rfl (hb hby at_1) ?_
    show Go p e below s₁ (mkF m 2 #[vi p1, vi p2, vi p3, vi p4, .unset, .unset, .unset, .unset, .unset, .unset, .unset, .unset, .unset, .unset, .unset, .unset] [wi 3, wi p1]) _
    refine XS.iand X0.here hx rfl (hb hby at_2) rfl ?_
    show Go p e below s₁ (mkF m 3 #[vi p1, vi p2, vi p3, vi p4, .unset, .unset, .unset, .unset, .unset, .unset, .unset, .unset, .unset, .unset, .unset, .unset] [wi (p1 &&& (3 : Int32))]) _
    refine XS.istore X0.here hx rfl (hb hby at_3) rfl (l' := #[.val (.int p1), .val (.int p2), .val (.int p3), .val (.int p4), .val (.int (p1 &&& (3 : Int32))), .unset, .unset, .unset, .unset, .unset, .unset, .unset, .unset, .unset, .unset, .unset]) rfl ?_
    rw [hk_]
    show Go p e below s₁ (mkF m 5 #[vi p1, vi p2, vi p3, vi p4, vi 0, .unset, .unset, .unset, .unset, .unset, .unset, .unset, .unset, .unset, .unset, .unset] []) _
    refine XS.iloadN X0.here hx rfl (hb hby at_5) rfl ?_
    show Go p e below s₁ (mkF m 6 #[vi p1, vi p2, vi p3, vi p4, vi 0, .unset, .unset, .unset, .unset, .unset, .unset, .unset, .unset, .unset, .unset, .unset] [wi p2]) _
    refine XS.sipush X0.here hx rfl (hb hby at_6) ?_
    show Go p e below s₁ (mkF m 9 #[vi p1, vi p2, vi p3, vi p4, vi 0, .unset, .unset, .unset, .unset, .unset, .unset, .unset, .unset, .unset, .unset, .unset] [wi 255, wi p2]) _
    refine XS.iand X0.here hx rfl (hb hby at_9) rfl ?_
    show Go p e below s₁ (mkF m 10 #[vi p1, vi p2, vi p3, vi p4, vi 0, .unset, .unset, .unset, .unset, .unset, .unset, .unset, .unset, .unset, .unset, .unset] [wi (p2 &&& (255 : Int32))]) _
    refine XS.i2c X0.here hx rfl (hb hby at_10) rfl ?_
    show Go p e below s₁ (mkF m 11 #[vi p1, vi p2, vi p3, vi p4, vi 0, .unset, .unset, .unset, .unset, .unset, .unset, .unset, .unset, .unset, .unset, .unset] [wi ((p2 &&& (255 : Int32)).toUInt32.toUInt16.toUInt32.toInt32)]) _
    refine XS.istore X0.here hx rfl (hb hby at_11) rfl (l' := #[.val (.int p1), .val (.int p2), .val (.int p3), .val (.int p4), .val (.int (0 : Int32)), .val (.int ((p2 &&& (255 : Int32)).toUInt32.toUInt16.toUInt32.toInt32)), .unset, .unset, .unset, .unset, .unset, .unset, .unset, .unset, .unset, .unset]) rfl ?_
    rw [← hc0]
    show Go p e below s₁ (mkF m 13 #[vi p1, vi p2, vi p3, vi p4, vi 0, vi c0, .unset, .unset, .unset, .unset, .unset, .unset, .unset, .unset, .unset, .unset] []) _
    refine XS.iloadN X0.here hx rfl (hb hby at_13) rfl ?_
    show Go p e below s₁ (mkF m 14 #[vi p1, vi p2, vi p3, vi p4, vi 0, vi c0, .unset, .unset, .unset, .unset, .unset, .unset, .unset, .unset, .unset, .unset] [wi p3]) _
    refine XS.sipush X0.here hx rfl (hb hby at_14) ?_
    show Go p e below s₁ (mkF m 17 #[vi p1, vi p2, vi p3, vi p4, vi 0, vi c0, .unset, .unset, .unset, .unset, .unset, .unset, .unset, .unset, .unset, .unset] [wi 255, wi p3]) _
    refine XS.iand X0.here hx rfl (hb hby at_17) rfl ?_
    show Go p e below s₁ (mkF m 18 #[vi p1, vi p2, vi p3, vi p4, vi 0, vi c0, .unset, .unset, .unset, .unset, .unset, .unset, .unset, .unset, .unset, .unset] [wi (p3 &&& (255 : Int32))]) _
    refine XS.i2c X0.here hx rfl (hb hby at_18) rfl ?_
    show Go p e below s₁ (mkF m 19 #[vi p1, vi p2, vi p3, vi p4, vi 0, vi c0, .unset, .unset, .unset, .unset, .unset, .unset, .unset, .unset, .unset, .unset] [wi ((p3 &&& (255 : Int32)).toUInt32.toUInt16.toUInt32.toInt32)]) _
    refine XS.istore X0.here hx rfl (hb hby at_19) rfl (l' := #[.val (.int p1), .val (.int p2), .val (.int p3), .val (.int p4), .val (.int (0 : Int32)), .val (.int c0), .val (.int ((p3 &&& (255 : Int32)).toUInt32.toUInt16.toUInt32.toInt32)), .unset, .unset, .unset, .unset, .unset, .unset, .unset, .unset, .unset]) rfl ?_
    rw [← hc1]
    show Go p e below s₁ (mkF m 21 #[vi p1, vi p2, vi p3, vi p4, vi 0, vi c0, vi c1, .unset, .unset, .unset, .unset, .unset, .unset, .unset, .unset, .unset] []) _
    refine XS.iloadN X0.here hx rfl (hb hby at_21) rfl ?_
    show Go p e below s₁ (mkF m 22 #[vi p1, vi p2, vi p3, vi p4, vi 0, vi c0, vi c1, .unset, .unset, .unset, .unset, .unset, .unset, .unset, .unset, .unset] [wi p4]) _
    refine XS.sipush X0.here hx rfl (hb hby at_22) ?_
    show Go p e below s₁ (mkF m 25 #[vi p1, vi p2, vi p3, vi p4, vi 0, vi c0, vi c1, .unset, .unset, .unset, .unset, .unset, .unset, .unset, .unset, .unset] [wi 255, wi p4]) _
    refine XS.iand X0.here hx rfl (hb hby at_25) rfl ?_
    show Go p e below s₁ (mkF m 26 #[vi p1, vi p2, vi p3, vi p4, vi 0, vi c0, vi c1, .unset, .unset, .unset, .unset, .unset, .unset, .unset, .unset, .unset] [wi (p4 &&& (255 : Int32))]) _
    refine XS.i2c X0.here hx rfl (hb hby at_26) rfl ?_
    show Go p e below s₁ (mkF m 27 #[vi p1, vi p2, vi p3, vi p4, vi 0, vi c0, vi c1, .unset, .unset, .unset, .unset, .unset, .unset, .unset, .unset, .unset] [wi ((p4 &&& (255 : Int32)).toUInt32.toUInt16.toUInt32.toInt32)]) _
    refine XS.istore X0.here hx rfl (hb hby at_27) rfl (l' := #[.val (.int p1), .val (.int p2), .val (.int p3), .val (.int p4), .val (.int (0 : Int32)), .val (.int c0), .val (.int c1), .val (.int ((p4 &&& (255 : Int32)).toUInt32.toUInt16.toUInt32.toInt32)), .unset, .unset, .unset, .unset, .unset, .unset, .unset, .unset]) rfl ?_
    rw [← hc2]
    show Go p e below s₁ (mkF m 29 #[vi p1, vi p2, vi p3, vi p4, vi 0, vi c0, vi c1, vi c2, .unset, .unset, .unset, .unset, .unset, .unset, .unset, .unset] []) _
    refine XS.iconst X0.here hx rfl (hb hby at_29) ?_
    show Go p e below s₁ (mkF m 30 #[vi p1, vi p2, vi p3, vi p4, vi 0, vi c0, vi c1, vi c2, .unset, .unset, .unset, .unset, .unset, .unset, .unset, .unset] [wi 0]) _
    refine st101 _ ?_
    show Go p e below T101 (mkF m 32 #[vi p1, vi p2, vi p3, vi p4, vi 0, vi c0, vi c1, vi c2, .unset, .unset, .unset, .unset, .unset, .unset, .unset, .unset] [wr b101]) _
    refine XS.astore X101.here hx rfl (hb hby at_32) rfl rfl (l' := #[.val (.int p1), .val (.int p2), .val (.int p3), .val (.int p4), .val (.int (0 : Int32)), .val (.int c0), .val (.int c1), .val (.int c2), .val (.ref b101), .unset, .unset, .unset, .unset, .unset, .unset, .unset]) rfl ?_
    show Go p e below T101 (mkF m 34 #[vi p1, vi p2, vi p3, vi p4, vi 0, vi c0, vi c1, vi c2, vr b101, .unset, .unset, .unset, .unset, .unset, .unset, .unset] []) _
    refine XS.iconst X101.here hx rfl (hb hby at_34) ?_
    show Go p e below T101 (mkF m 35 #[vi p1, vi p2, vi p3, vi p4, vi 0, vi c0, vi c1, vi c2, vr b101, .unset, .unset, .unset, .unset, .unset, .unset, .unset] [wi 1]) _
    refine st103 _ ?_
    show Go p e below T103 (mkF m 37 #[vi p1, vi p2, vi p3, vi p4, vi 0, vi c0, vi c1, vi c2, vr b101, .unset, .unset, .unset, .unset, .unset, .unset, .unset] [wr b103]) _
    refine XS.dup X103.here hx rfl (hb hby at_37) rfl rfl ?_
    show Go p e below T103 (mkF m 38 #[vi p1, vi p2, vi p3, vi p4, vi 0, vi c0, vi c1, vi c2, vr b101, .unset, .unset, .unset, .unset, .unset, .unset, .unset] [wr b103, wr b103]) _
    refine XS.iconst X103.here hx rfl (hb hby at_38) ?_
    show Go p e below T103 (mkF m 39 #[vi p1, vi p2, vi p3, vi p4, vi 0, vi c0, vi c1, vi c2, vr b101, .unset, .unset, .unset, .unset, .unset, .unset, .unset] [wi 0, wr b103, wr b103]) _
    refine XS.iload X103.here hx rfl (hb hby at_39) rfl ?_
    show Go p e below T103 (mkF m 41 #[vi p1, vi p2, vi p3, vi p4, vi 0, vi c0, vi c1, vi c2, vr b101, .unset, .unset, .unset, .unset, .unset, .unset, .unset] [wi c0, wi 0, wr b103, wr b103]) _
    refine st106 _ ?_
    show Go p e below T106 (mkF m 42 #[vi p1, vi p2, vi p3, vi p4, vi 0, vi c0, vi c1, vi c2, vr b101, .unset, .unset, .unset, .unset, .unset, .unset, .unset] [wr b103]) _
    refine XS.astore X106.here hx rfl (hb hby at_42) rfl rfl (l' := #[.val (.int p1), .val (.int p2), .val (.int p3), .val (.int p4), .val (.int (0 : Int32)), .val (.int c0), .val (.int c1), .val (.int c2), .val (.ref b101), .val (.ref b103), .unset, .unset, .unset, .unset, .unset, .unset]) rfl ?_
    show Go p e below T106 (mkF m 44 #[vi p1, vi p2, vi p3, vi p4, vi 0, vi c0, vi c1, vi c2, vr b101, vr b103, .unset, .unset, .unset, .unset, .unset, .unset] []) _
    refine XS.iconst X106.here hx rfl (hb hby at_44) ?_
    show Go p e below T106 (mkF m 45 #[vi p1, vi p2, vi p3, vi p4, vi 0, vi c0, vi c1, vi c2, vr b101, vr b103, .unset, .unset, .unset, .unset, .unset, .unset] [wi 2]) _
    refine st108 _ ?_
    show Go p e below T108 (mkF m 47 #[vi p1, vi p2, vi p3, vi p4, vi 0, vi c0, vi c1, vi c2, vr b101, vr b103, .unset, .unset, .unset, .unset, .unset, .unset] [wr b108]) _
    refine XS.dup X108.here hx rfl (hb hby at_47) rfl rfl ?_
    show Go p e below T108 (mkF m 48 #[vi p1, vi p2, vi p3, vi p4, vi 0, vi c0, vi c1, vi c2, vr b101, vr b103, .unset, .unset, .unset, .unset, .unset, .unset] [wr b108, wr b108]) _
    refine XS.iconst X108.here hx rfl (hb hby at_48) ?_
    show Go p e below T108 (mkF m 49 #[vi p1, vi p2, vi p3, vi p4, vi 0, vi c0, vi c1, vi c2, vr b101, vr b103, .unset, .unset, .unset, .unset, .unset, .unset] [wi 0, wr b108, wr b108]) _
    refine XS.iload X108.here hx rfl (hb hby at_49) rfl ?_
    show Go p e below T108 (mkF m 51 #[vi p1, vi p2, vi p3, vi p4, vi 0, vi c0, vi c1, vi c2, vr b101, vr b103, .unset, .unset, .unset, .unset, .unset, .unset] [wi c0, wi 0, wr b108, wr b108]) _
    refine st112 _ ?_
    show Go p e below T112 (mkF m 52 #[vi p1, vi p2, vi p3, vi p4, vi 0, vi c0, vi c1, vi c2, vr b101, vr b103, .unset, .unset, .unset, .unset, .unset, .unset] [wr b108]) _
    refine XS.dup X112.here hx rfl (hb hby at_52) rfl rfl ?_
    show Go p e below T112 (mkF m 53 #[vi p1, vi p2, vi p3, vi p4, vi 0, vi c0, vi c1, vi c2, vr b101, vr b103, .unset, .unset, .unset, .unset, .unset, .unset] [wr b108, wr b108]) _
    refine XS.iconst X112.here hx rfl (hb hby at_53) ?_
    show Go p e below T112 (mkF m 54 #[vi p1, vi p2, vi p3, vi p4, vi 0, vi c0, vi c1, vi c2, vr b101, vr b103, .unset, .unset, .unset, .unset, .unset, .unset] [wi 1, wr b108, wr b108]) _
    refine XS.iload X112.here hx rfl (hb hby at_54) rfl ?_
    show Go p e below T112 (mkF m 56 #[vi p1, vi p2, vi p3, vi p4, vi 0, vi c0, vi c1, vi c2, vr b101, vr b103, .unset, .unset, .unset, .unset, .unset, .unset] [wi c1, wi 1, wr b108, wr b108]) _
    refine st114 _ ?_
    show Go p e below T114 (mkF m 57 #[vi p1, vi p2, vi p3, vi p4, vi 0, vi c0, vi c1, vi c2, vr b101, vr b103, .unset, .unset, .unset, .unset, .unset, .unset] [wr b108]) _
    refine XS.astore X114.here hx rfl (hb hby at_57) rfl rfl (l' := #[.val (.int p1), .val (.int p2), .val (.int p3), .val (.int p4), .val (.int (0 : Int32)), .val (.int c0), .val (.int c1), .val (.int c2), .val (.ref b101), .val (.ref b103), .val (.ref b108), .unset, .unset, .unset, .unset, .unset]) rfl ?_
    show Go p e below T114 (mkF m 59 #[vi p1, vi p2, vi p3, vi p4, vi 0, vi c0, vi c1, vi c2, vr b101, vr b103, vr b108, .unset, .unset, .unset, .unset, .unset] []) _
    refine XS.iconst X114.here hx rfl (hb hby at_59) ?_
    show Go p e below T114 (mkF m 60 #[vi p1, vi p2, vi p3, vi p4, vi 0, vi c0, vi c1, vi c2, vr b101, vr b103, vr b108, .unset, .unset, .unset, .unset, .unset] [wi 3]) _
    refine st116 _ ?_
    show Go p e below T116 (mkF m 62 #[vi p1, vi p2, vi p3, vi p4, vi 0, vi c0, vi c1, vi c2, vr b101, vr b103, vr b108, .unset, .unset, .unset, .unset, .unset] [wr b116]) _
    refine XS.dup X116.here hx rfl (hb hby at_62) rfl rfl ?_
    show Go p e below T116 (mkF m 63 #[vi p1, vi p2, vi p3, vi p4, vi 0, vi c0, vi c1, vi c2, vr b101, vr b103, vr b108, .unset, .unset, .unset, .unset, .unset] [wr b116, wr b116]) _
    refine XS.iconst X116.here hx rfl (hb hby at_63) ?_
    show Go p e below T116 (mkF m 64 #[vi p1, vi p2, vi p3, vi p4, vi 0, vi c0, vi c1, vi c2, vr b101, vr b103, vr b108, .unset, .unset, .unset, .unset, .unset] [wi 0, wr b116, wr b116]) _
    refine XS.iload X116.here hx rfl (hb hby at_64) rfl ?_
    show Go p e below T116 (mkF m 66 #[vi p1, vi p2, vi p3, vi p4, vi 0, vi c0, vi c1, vi c2, vr b101, vr b103, vr b108, .unset, .unset, .unset, .unset, .unset] [wi c0, wi 0, wr b116, wr b116]) _
    refine st121 _ ?_
    show Go p e below T121 (mkF m 67 #[vi p1, vi p2, vi p3, vi p4, vi 0, vi c0, vi c1, vi c2, vr b101, vr b103, vr b108, .unset, .unset, .unset, .unset, .unset] [wr b116]) _
    refine XS.dup X121.here hx rfl (hb hby at_67) rfl rfl ?_
    show Go p e below T121 (mkF m 68 #[vi p1, vi p2, vi p3, vi p4, vi 0, vi c0, vi c1, vi c2, vr b101, vr b103, vr b108, .unset, .unset, .unset, .unset, .unset] [wr b116, wr b116]) _
    refine XS.iconst X121.here hx rfl (hb hby at_68) ?_
    show Go p e below T121 (mkF m 69 #[vi p1, vi p2, vi p3, vi p4, vi 0, vi c0, vi c1, vi c2, vr b101, vr b103, vr b108, .unset, .unset, .unset, .unset, .unset] [wi 1, wr b116, wr b116]) _
    refine XS.iload X121.here hx rfl (hb hby at_69) rfl ?_
    show Go p e below T121 (mkF m 71 #[vi p1, vi p2, vi p3, vi p4, vi 0, vi c0, vi c1, vi c2, vr b101, vr b103, vr b108, .unset, .unset, .unset, .unset, .unset] [wi c1, wi 1, wr b116, wr b116]) _
    refine st123 _ ?_
    show Go p e below T123 (mkF m 72 #[vi p1, vi p2, vi p3, vi p4, vi 0, vi c0, vi c1, vi c2, vr b101, vr b103, vr b108, .unset, .unset, .unset, .unset, .unset] [wr b116]) _
    refine XS.dup X123.here hx rfl (hb hby at_72) rfl rfl ?_
    show Go p e below T123 (mkF m 73 #[vi p1, vi p2, vi p3, vi p4, vi 0, vi c0, vi c1, vi c2, vr b101, vr b103, vr b108, .unset, .unset, .unset, .unset, .unset] [wr b116, wr b116]) _
    refine XS.iconst X123.here hx rfl (hb hby at_73) ?_
    show Go p e below T123 (mkF m 74 #[vi p1, vi p2, vi p3, vi p4, vi 0, vi c0, vi c1, vi c2, vr b101, vr b103, vr b108, .unset, .unset, .unset, .unset, .unset] [wi 2, wr b116, wr b116]) _
    refine XS.iload X123.here hx rfl (hb hby at_74) rfl ?_
    show Go p e below T123 (mkF m 76 #[vi p1, vi p2, vi p3, vi p4, vi 0, vi c0, vi c1, vi c2, vr b101, vr b103, vr b108, .unset, .unset, .unset, .unset, .unset] [wi c2, wi 2, wr b116, wr b116]) _
    refine st125 _ ?_
    show Go p e below T125 (mkF m 77 #[vi p1, vi p2, vi p3, vi p4, vi 0, vi c0, vi c1, vi c2, vr b101, vr b103, vr b108, .unset, .unset, .unset, .unset, .unset] [wr b116]) _
    refine XS.astore X125.here hx rfl (hb hby at_77) rfl rfl (l' := #[.val (.int p1), .val (.int p2), .val (.int p3), .val (.int p4), .val (.int (0 : Int32)), .val (.int c0), .val (.int c1), .val (.int c2), .val (.ref b101), .val (.ref b103), .val (.ref b108), .val (.ref b116), .unset, .unset, .unset, .unset]) rfl ?_
    show Go p e below T125 (mkF m 79 #[vi p1, vi p2, vi p3, vi p4, vi 0, vi c0, vi c1, vi c2, vr b101, vr b103, vr b108, vr b116, .unset, .unset, .unset, .unset] []) _
    refine XS.aload X125.here hx rfl (hb hby at_79) rfl rfl ?_
    show Go p e below T125 (mkF m 81 #[vi p1, vi p2, vi p3, vi p4, vi 0, vi c0, vi c1, vi c2, vr b101, vr b103, vr b108, vr b116, .unset, .unset, .unset, .unset] [wr b101]) _
    refine XS.astore X125.here hx rfl (hb hby at_81) rfl rfl (l' := #[.val (.int p1), .val (.int p2), .val (.int p3), .val (.int p4), .val (.int (0 : Int32)), .val (.int c0), .val (.int c1), .val (.int c2), .val (.ref b101), .val (.ref b103), .val (.ref b108), .val (.ref b116), .val (.ref b101), .unset, .unset, .unset]) rfl ?_
    show Go p e below T125 (mkF m 83 #[vi p1, vi p2, vi p3, vi p4, vi 0, vi c0, vi c1, vi c2, vr b101, vr b103, vr b108, vr b116, vr b101, .unset, .unset, .unset] []) _
    refine XS.iload X125.here hx rfl (hb hby at_83) rfl ?_
    show Go p e below T125 (mkF m 85 #[vi p1, vi p2, vi p3, vi p4, vi 0, vi c0, vi c1, vi c2, vr b101, vr b103, vr b108, vr b116, vr b101, .unset, .unset, .unset] [wi 0]) _
    refine XS.iconst X125.here hx rfl (hb hby at_85) ?_
    show Go p e below T125 (mkF m 86 #[vi p1, vi p2, vi p3, vi p4, vi 0, vi c0, vi c1, vi c2, vr b101, vr b103, vr b108, vr b116, vr b101, .unset, .unset, .unset] [wi 1, wi 0]) _
    refine XS.icmpYes X125.here hx rfl (pc0 := 86) (pc' := 96) rfl (hb hby at_86) rfl (feq (by decide : ¬ ((0 : Int32) = (1 : Int32)))).2 (by decide) (by decide) ?_
    show Go p e below T125 (mkF m 96 #[vi p1, vi p2, vi p3, vi p4, vi 0, vi c0, vi c1, vi c2, vr b101, vr b103, vr b108, vr b116, vr b101, .unset, .unset, .unset] []) _
    refine XS.iload X125.here hx rfl (hb hby at_96) rfl ?_
    show Go p e below T125 (mkF m 98 #[vi p1, vi p2, vi p3, vi p4, vi 0, vi c0, vi c1, vi c2, vr b101, vr b103, vr b108, vr b116, vr b101, .unset, .unset, .unset] [wi 0]) _
    refine XS.iconst X125.here hx rfl (hb hby at_98) ?_
    show Go p e below T125 (mkF m 99 #[vi p1, vi p2, vi p3, vi p4, vi 0, vi c0, vi c1, vi c2, vr b101, vr b103, vr b108, vr b116, vr b101, .unset, .unset, .unset] [wi 2, wi 0]) _
    refine XS.icmpYes X125.here hx rfl (pc0 := 99) (pc' := 109) rfl (hb hby at_99) rfl (feq (by decide : ¬ ((0 : Int32) = (2 : Int32)))).2 (by decide) (by decide) ?_
    show Go p e below T125 (mkF m 109 #[vi p1, vi p2, vi p3, vi p4, vi 0, vi c0, vi c1, vi c2, vr b101, vr b103, vr b108, vr b116, vr b101, .unset, .unset, .unset] []) _
    refine XS.iload X125.here hx rfl (hb hby at_109) rfl ?_
    show Go p e below T125 (mkF m 111 #[vi p1, vi p2, vi p3, vi p4, vi 0, vi c0, vi c1, vi c2, vr b101, vr b103, vr b108, vr b116, vr b101, .unset, .unset, .unset] [wi 0]) _
    refine XS.iconst X125.here hx rfl (hb hby at_111) ?_
    show Go p e below T125 (mkF m 112 #[vi p1, vi p2, vi p3, vi p4, vi 0, vi c0, vi c1, vi c2, vr b101, vr b103, vr b108, vr b116, vr b101, .unset, .unset, .unset] [wi 3, wi 0]) _
    refine XS.icmpYes X125.here hx rfl (pc0 := 112) (pc' := 119) rfl (hb hby at_112) rfl (feq (by decide : ¬ ((0 : Int32) = (3 : Int32)))).2 (by decide) (by decide) ?_
    show Go p e below T125 (mkF m 119 #[vi p1, vi p2, vi p3, vi p4, vi 0, vi c0, vi c1, vi c2, vr b101, vr b103, vr b108, vr b116, vr b101, .unset, .unset, .unset] []) _
    refine st127 _ ?_
    show Go p e below T127 (mkF m 122 #[vi p1, vi p2, vi p3, vi p4, vi 0, vi c0, vi c1, vi c2, vr b101, vr b103, vr b108, vr b116, vr b101, .unset, .unset, .unset] [wr b127]) _
    refine XS.dup X127.here hx rfl (hb hby at_122) rfl rfl ?_
    show Go p e below T127 (mkF m 123 #[vi p1, vi p2, vi p3, vi p4, vi 0, vi c0, vi c1, vi c2, vr b101, vr b103, vr b108, vr b116, vr b101, .unset, .unset, .unset] [wr b127, wr b127]) _
    refine XS.aload X127.here hx rfl (hb hby at_123) rfl rfl ?_
    show Go p e below T127 (mkF m 125 #[vi p1, vi p2, vi p3, vi p4, vi 0, vi c0, vi c1, vi c2, vr b101, vr b103, vr b108, vr b116, vr b101, .unset, .unset, .unset] [wr b101, wr b127, wr b127]) _
    refine st135.trans ?_
    show Go p e below T135 (mkF m 128 #[vi p1, vi p2, vi p3, vi p4, vi 0, vi c0, vi c1, vi c2, vr b101, vr b103, vr b108, vr b116, vr b101, .unset, .unset, .unset] [wr b127]) _
    refine XS.astore X135r.here hx rfl (hb hby at_128) rfl rfl (l' := #[.val (.int p1), .val (.int p2), .val (.int p3), .val (.int p4), .val (.int (0 : Int32)), .val (.int c0), .val (.int c1), .val (.int c2), .val (.ref b101), .val (.ref b103), .val (.ref b108), .val (.ref b116), .val (.ref b101), .val (.ref b127), .unset, .unset]) rfl ?_
    show Go p e below T135 (mkF m 130 #[vi p1, vi p2, vi p3, vi p4, vi 0, vi c0, vi c1, vi c2, vr b101, vr b103, vr b108, vr b116, vr b101, vr b127, .unset, .unset] []) _
    refine XS.aload X135r.here hx rfl (hb hby at_130) rfl rfl ?_
    show Go p e below T135 (mkF m 132 #[vi p1, vi p2, vi p3, vi p4, vi 0, vi c0, vi c1, vi c2, vr b101, vr b103, vr b108, vr b116, vr b101, vr b127, .unset, .unset] [wr b127]) _
    refine st143.trans ?_
    show Go p e below T143 (mkF m 135 #[vi p1, vi p2, vi p3, vi p4, vi 0, vi c0, vi c1, vi c2, vr b101, vr b103, vr b108, vr b116, vr b101, vr b127, .unset, .unset] [wr ur143]) _
    refine XS.astore X143r.here hx rfl (hb hby at_135) rfl rfl (l' := #[.val (.int p1), .val (.int p2), .val (.int p3), .val (.int p4), .val (.int (0 : Int32)), .val (.int c0), .val (.int c1), .val (.int c2), .val (.ref b101), .val (.ref b103), .val (.ref b108), .val (.ref b116), .val (.ref b101), .val (.ref b127), .val (.ref ur143), .unset]) rfl ?_
    show Go p e below T143 (mkF m 137 #[vi p1, vi p2, vi p3, vi p4, vi 0, vi c0, vi c1, vi c2, vr b101, vr b103, vr b108, vr b116, vr b101, vr b127, vr ur143, .unset] []) _
    refine XS.aload X143r.here hx rfl (hb hby at_137) rfl rfl ?_
    show Go p e below T143 (mkF m 139 #[vi p1, vi p2, vi p3, vi p4, vi 0, vi c0, vi c1, vi c2, vr b101, vr b103, vr b108, vr b116, vr b101, vr b127, vr ur143, .unset] [wr ur143]) _
    refine XS.ifnonnullYes X143r.here hx rfl (pc0 := 139) (pc' := 144) rfl (hb hby at_139) rfl (by decide) (by decide) ?_
    show Go p e below T143 (mkF m 144 #[vi p1, vi p2, vi p3, vi p4, vi 0, vi c0, vi c1, vi c2, vr b101, vr b103, vr b108, vr b116, vr b101, vr b127, vr ur143, .unset] []) _
    refine XS.aload X143r.here hx rfl (hb hby at_144) rfl rfl ?_
    show Go p e below T143 (mkF m 146 #[vi p1, vi p2, vi p3, vi p4, vi 0, vi c0, vi c1, vi c2, vr b101, vr b103, vr b108, vr b116, vr b101, vr b127, vr ur143, .unset] [wr ur143]) _
    refine st151.trans ?_
    show Go p e below T151 (mkF m 149 #[vi p1, vi p2, vi p3, vi p4, vi 0, vi c0, vi c1, vi c2, vr b101, vr b103, vr b108, vr b116, vr b101, vr b127, vr ur143, .unset] [wr ux143]) _
    refine XS.astore X151.here hx rfl (hb hby at_149) rfl rfl (l' := #[.val (.int p1), .val (.int p2), .val (.int p3), .val (.int p4), .val (.int (0 : Int32)), .val (.int c0), .val (.int c1), .val (.int c2), .val (.ref b101), .val (.ref b103), .val (.ref b108), .val (.ref b116), .val (.ref b101), .val (.ref b127), .val (.ref ur143), .val (.ref ux143)]) rfl ?_
    show Go p e below T151 (mkF m 151 #[vi p1, vi p2, vi p3, vi p4, vi 0, vi c0, vi c1, vi c2, vr b101, vr b103, vr b108, vr b116, vr b101, vr b127, vr ur143, vr ux143] []) _
    refine XS.aload X151.here hx rfl (hb hby at_151) rfl rfl ?_
    show Go p e below T151 (mkF m 153 #[vi p1, vi p2, vi p3, vi p4, vi 0, vi c0, vi c1, vi c2, vr b101, vr b103, vr b108, vr b116, vr b101, vr b127, vr ur143, vr ux143] [wr ux143]) _
    refine XS.ifnonnullYes X151.here hx rfl (pc0 := 153) (pc' := 158) rfl (hb hby at_153) rfl (by decide) (by decide) ?_
    show Go p e below T151 (mkF m 158 #[vi p1, vi p2, vi p3, vi p4, vi 0, vi c0, vi c1, vi c2, vr b101, vr b103, vr b108, vr b116, vr b101, vr b127, vr ur143, vr ux143] []) _
    refine XS.aload X151.here hx rfl (hb hby at_158) rfl rfl ?_
    show Go p e below T151 (mkF m 160 #[vi p1, vi p2, vi p3, vi p4, vi 0, vi c0, vi c1, vi c2, vr b101, vr b103, vr b108, vr b116, vr b101, vr b127, vr ur143, vr ux143] [wr ux143]) _
    refine st152.trans ?_
    show Go p e below T152 (mkF m 163 #[vi p1, vi p2, vi p3, vi p4, vi 0, vi c0, vi c1, vi c2, vr b101, vr b103, vr b108, vr b116, vr b101, vr b127, vr ur143, vr ux143] [wi 21]) _
    refine XS.iload X152.here hx rfl (hb hby at_163) rfl ?_
    show Go p e below T152 (mkF m 165 #[vi p1, vi p2, vi p3, vi p4, vi 0, vi c0, vi c1, vi c2, vr b101, vr b103, vr b108, vr b116, vr b101, vr b127, vr ur143, vr ux143] [wi 0, wi 21]) _
    refine XS.bipush X152.here hx rfl (hb hby at_165) ?_
    show Go p e below T152 (mkF m 167 #[vi p1, vi p2, vi p3, vi p4, vi 0, vi c0, vi c1, vi c2, vr b101, vr b103, vr b108, vr b116, vr b101, vr b127, vr ur143, vr ux143] [wi 21, wi 0, wi 21]) _
    refine XS.iadd X152.here hx rfl (hb hby at_167) rfl ?_
    show Go p e below T152 (mkF m 168 #[vi p1, vi p2, vi p3, vi p4, vi 0, vi c0, vi c1, vi c2, vr b101, vr b103, vr b108, vr b116, vr b101, vr b127, vr ur143, vr ux143] [wi 21, wi 21]) _
    refine XS.icmpYes X152.here hx rfl (pc0 := 168) (pc' := 173) rfl (hb hby at_168) rfl (teq (rfl : (21 : Int32) = (21 : Int32))).1 (by decide) (by decide) ?_
    show Go p e below T152 (mkF m 173 #[vi p1, vi p2, vi p3, vi p4, vi 0, vi c0, vi c1, vi c2, vr b101, vr b103, vr b108, vr b116, vr b101, vr b127, vr ur143, vr ux143] []) _
    refine XS.iload X152.here hx rfl (hb hby at_173) rfl ?_
    show Go p e below T152 (mkF m 175 #[vi p1, vi p2, vi p3, vi p4, vi 0, vi c0, vi c1, vi c2, vr b101, vr b103, vr b108, vr b116, vr b101, vr b127, vr ur143, vr ux143] [wi 0]) _
    refine XS.iconst X152.here hx rfl (hb hby at_175) ?_
    show Go p e below T152 (mkF m 176 #[vi p1, vi p2, vi p3, vi p4, vi 0, vi c0, vi c1, vi c2, vr b101, vr b103, vr b108, vr b116, vr b101, vr b127, vr ur143, vr ux143] [wi 1, wi 0]) _
    refine XS.icmpYes X152.here hx rfl (pc0 := 176) (pc' := 192) rfl (hb hby at_176) rfl (tlt (by decide : (0 : Int32) < (1 : Int32))).1 (by decide) (by decide) ?_
    show Go p e below T152 (mkF m 192 #[vi p1, vi p2, vi p3, vi p4, vi 0, vi c0, vi c1, vi c2, vr b101, vr b103, vr b108, vr b116, vr b101, vr b127, vr ur143, vr ux143] []) _
    refine XS.iload X152.here hx rfl (hb hby at_192) rfl ?_
    show Go p e below T152 (mkF m 194 #[vi p1, vi p2, vi p3, vi p4, vi 0, vi c0, vi c1, vi c2, vr b101, vr b103, vr b108, vr b116, vr b101, vr b127, vr ur143, vr ux143] [wi 0]) _
    refine XS.iconst X152.here hx rfl (hb hby at_194) ?_
    show Go p e below T152 (mkF m 195 #[vi p1, vi p2, vi p3, vi p4, vi 0, vi c0, vi c1, vi c2, vr b101, vr b103, vr b108, vr b116, vr b101, vr b127, vr ur143, vr ux143] [wi 2, wi 0]) _
    refine XS.icmpYes X152.here hx rfl (pc0 := 195) (pc' := 211) rfl (hb hby at_195) rfl (tlt (by decide : (0 : Int32) < (2 : Int32))).1 (by decide) (by decide) ?_
    show Go p e below T152 (mkF m 211 #[vi p1, vi p2, vi p3, vi p4, vi 0, vi c0, vi c1, vi c2, vr b101, vr b103, vr b108, vr b116, vr b101, vr b127, vr ur143, vr ux143] []) _
    refine XS.iload X152.here hx rfl (hb hby at_211) rfl ?_
    show Go p e below T152 (mkF m 213 #[vi p1, vi p2, vi p3, vi p4, vi 0, vi c0, vi c1, vi c2, vr b101, vr b103, vr b108, vr b116, vr b101, vr b127, vr ur143, vr ux143] [wi 0]) _
    refine XS.iconst X152.here hx rfl (hb hby at_213) ?_
    show Go p e below T152 (mkF m 214 #[vi p1, vi p2, vi p3, vi p4, vi 0, vi c0, vi c1, vi c2, vr b101, vr b103, vr b108, vr b116, vr b101, vr b127, vr ur143, vr ux143] [wi 3, wi 0]) _
    refine XS.icmpYes X152.here hx rfl (pc0 := 214) (pc' := 230) rfl (hb hby at_214) rfl (tlt (by decide : (0 : Int32) < (3 : Int32))).1 (by decide) (by decide) ?_
    show Go p e below T152 (mkF m 230 #[vi p1, vi p2, vi p3, vi p4, vi 0, vi c0, vi c1, vi c2, vr b101, vr b103, vr b108, vr b116, vr b101, vr b127, vr ur143, vr ux143] []) _
    refine XS.aload X152.here hx rfl (hb hby at_230) rfl rfl ?_
    show Go p e below T152 (mkF m 232 #[vi p1, vi p2, vi p3, vi p4, vi 0, vi c0, vi c1, vi c2, vr b101, vr b103, vr b108, vr b116, vr b101, vr b127, vr ur143, vr ux143] [wr ux143]) _
    refine XS.iload X152.here hx rfl (hb hby at_232) rfl ?_
    show Go p e below T152 (mkF m 234 #[vi p1, vi p2, vi p3, vi p4, vi 0, vi c0, vi c1, vi c2, vr b101, vr b103, vr b108, vr b116, vr b101, vr b127, vr ur143, vr ux143] [wi 0, wr ux143]) _
    refine st153 _ ?_
    show Go p e below T153 (mkF m 237 #[vi p1, vi p2, vi p3, vi p4, vi 0, vi c0, vi c1, vi c2, vr b101, vr b103, vr b108, vr b116, vr b101, vr b127, vr ur143, vr ux143] [wi 1]) _
    exact retN X153 hx (t := .boolean) Bd.returns (by simp) (hb hby at_237) hr
  · show Q0 h0 n0 _ T153.heap _
    rw [eq153]
    exact ⟨rfl, N153⟩
set_option maxRecDepth 65536 in
set_option maxHeartbeats 40000000 in
theorem rm0_1 (l : Launch) (Z : State) (a0 : Array Value) (hw : ∀ d ∈ tables_1, d.before a0 Z = true) (ws : List Jvm.Cond) (p1 : Int32) (p2 : Int32) (p3 : Int32) (p4 : Int32) (fm : Value) (G1 : Int32) (h0 : Heap) (n0 : Nat) (X00 : Old Z n0 h0) (hl : l.stackTraces = true) (hr2 : ∀ d ∈ twoRefs, d.before a0 Z = true) (O2 : Sta Z Z.heap "java/lang/String" "COMPACT_STRINGS" "Z" (.int G1)) (P5 : ¬ (G1 = (0 : Int32))) (FM : Sta Z Z.heap "jdk/internal/util/Preconditions" "SIOOBE_FORMATTER" "Ljava/util/function/BiFunction;" fm) (rf : fm.isRef = true) (hk_ : (p1 &&& (3 : Int32)) = (1 : Int32)) :
    MetFree l x (head1 (Jvm.Cond.code x code maxLocals ret :: ws) room_1) (fun a U => a = #[(.int p1), (.int p2), (.int p3), (.int p4)] ∧ Z.Warmed39 U.vm ∧ U.heap = h0 ∧ CHv Z consts_1 U.vm h0) (fun _ _ bl s _ => s.vm.MethodsKnown ∧ s.vm.FramesKnown bl) (fun _ U o U' => ∃ rv rL, o = .returned rv ∧ Q0 h0 n0 rv U'.heap rL ∧ ReturnedEndW U o U' rL room_1.cells room_1.slots) := by
  refine MetFree.of_bodySF (plainFor_of_name pn_0) hisR ?_
  intro p e s m args below meth c s₁ Bd hml0 hP hK
  obtain ⟨rfl, hZ, hh, hCH⟩ := hP
  have hx := Bd.exec
  have hby := Bd.bytes
  have hml : c.maxLocals = 16 := hml0
  have hown : s.vm.findClass "com/example/queryloom/queryloom/translation/TranslationExceptionUnsupportedPinLaw" = some m.cls := findClass_of_methodNamed Bd.named
  have hnm := (name_of_methodNamed Bd.named Bd.method).1
  have X0 : Stand p l e room_1 (s.setVm s.vm) m #[(.int p1), (.int p2), (.int p3), (.int p4)] below meth c s₁ [] 0 0 := Stand.of_body Bd
  have e0 : s₁.heap = h0 := by rw [← hh, Bd.state]; rfl
  have N0 := Fr.nil n0
  have hS0 : s.Since s.vm s.heap.size := own_since s
  have hk0 : s.heap.size ≤ h0.size := by rw [hh]; exact Nat.le_refl _
  have hstr := own_str hw
  have hEL := own_EL hw
  have pre0 : ∀ t, Steps p.tables e below (s₁.setTop (mkF m 0 #[.val (.int p1), .val (.int p2), .val (.int p3), .val (.int p4), .unset, .unset, .unset, .unset, .unset, .unset, .unset, .unset, .unset, .unset, .unset, .unset] [])) t → Steps p.tables e below (s₁.setTop (entryFrame m #[(.int p1), (.int p2), (.int p3), (.int p4)] maxLocals)) t := fun t k => castTop (ef_0 m p1 p2 p3 p4) k
  obtain ⟨c0, hc0⟩ : ∃ c : Int32, c = ((p2 &&& (255 : Int32)).toUInt32.toUInt16.toUInt32.toInt32) := ⟨_, rfl⟩
  obtain ⟨c1, hc1⟩ : ∃ c : Int32, c = ((p3 &&& (255 : Int32)).toUInt32.toUInt16.toUInt32.toInt32) := ⟨_, rfl⟩
  obtain ⟨c2, hc2⟩ : ∃ c : Int32, c = ((p4 &&& (255 : Int32)).toUInt32.toUInt16.toUInt32.toInt32) := ⟨_, rfl⟩
  have hb0 : ¬ nar .char c0 < 0 ∧ ¬ (255 : Int32) < nar .char c0 := by rw [hc0]; exact own_and255 _
  have he0 : nar .char c0 = c0 := by rw [hc0]; exact own_narc _
  have hwc : ∀ d ∈ StrChars.Road.wordsChN, d.before a0 Z = true := fun d hd => hw d ((by decide +kernel : ∀ d ∈ StrChars.Road.wordsChN, d ∈ tables_1) d hd)
  have hcs : ∀ c ∈ (((nar .char c0) :: ci_3) : List Int32), ¬ c < 0 ∧ ¬ (255 : Int32) < c := (own_alli hb0 own_lit)
  have hws : ∀ d ∈ StrChars.Road.words, d.before a0 Z = true := fun d hd => hw d ((by decide +kernel : ∀ d ∈ StrChars.Road.words, d ∈ tables_1) d hd)
  have hpc : ∀ c ∈ ([(nar .char c0)] : List Int32), ¬ c < 0 ∧ ¬ (255 : Int32) < c := (own_alli hb0 (fun _ q => absurd q List.not_mem_nil))
  obtain ⟨T101, h101, k101, X101, e101, E101, A101, st101⟩ := newP X0 hx hZ (tw hw 0 rfl) e0 (g := (mkF m 30 #[vi p1, vi p2, vi p3, vi p4, vi 1, vi c0, vi c1, vi c2, .unset, .unset, .unset, .unset, .unset, .unset, .unset, .unset] [wi 0])) rfl (hb hby at_30) rfl (by decide) (cap := 0) (by decide) (by decide) (by decide) (by decide)
  obtain ⟨b101, g101⟩ : ∃ z, z = h0.size := ⟨_, rfl⟩
  rw [← g101] at A101 st101
  have g_b101 : n0 ≤ b101 := Nat.le_trans (own_le X00) (Nat.le_of_eq g101.symm)
  have sn101 : Safe Z consts_1 s.vm h0 b101 := Safe.new (Nat.le_of_eq g101.symm)
  have V101 : Arv Z h101 b101 k101 .char (0 : Int32) [] (.int (0 : Int32)) := Arv.new A101 (by decide)
  have sf102_b101 := Safe.ext E101 hCH sn101
  have cr102 := (CHr.refl hCH).trans (CHr.ext E101 hCH)
  have ch102 := CHv.ext E101 hCH
  have lz103_b101 := V101.lt
  obtain ⟨T103, h103, k103, X103, e103, E103, A103, st103⟩ := newP X101 hx hZ (tw hw 0 rfl) e101 (g := (mkF m 35 #[vi p1, vi p2, vi p3, vi p4, vi 1, vi c0, vi c1, vi c2, vr b101, .unset, .unset, .unset, .unset, .unset, .unset, .unset] [wi 1])) rfl (hb hby at_35) rfl (by decide) (cap := 1) (by decide) (by decide) (by decide) (by decide)
  obtain ⟨b103, g103⟩ : ∃ z, z = h101.size := ⟨_, rfl⟩
  rw [← g103] at A103 st103
  have y104 := (X00.ext E101)
  have g_b103 : n0 ≤ b103 := Nat.le_trans (own_le y104) (Nat.le_of_eq g103.symm)
  have lt_b101_b103 : b101 < b103 := Nat.lt_of_lt_of_le lz103_b101 (Nat.le_of_eq g103.symm)
  have sn103 : Safe Z consts_1 s.vm h101 b103 := Safe.new (Nat.le_of_eq g103.symm)
  have V103 : Arv Z h103 b103 k103 .char (1 : Int32) [(.int (0 : Int32))] (.int (0 : Int32)) := (Arv.new A103 (by decide)).pad (pad_rep [] (.int (0 : Int32)) 1)
  have sf105_b101 := Safe.ext E103 ch102 sf102_b101
  have sf105_b103 := Safe.ext E103 ch102 sn103
  have cr105 := cr102.trans (CHr.ext E103 ch102)
  have ch105 := CHv.ext E103 ch102
  obtain ⟨cl106, Ar106, q106, S106, M106, H106, G106⟩ := id V103
  obtain ⟨T106, h106, X106, e106, W106, st106⟩ := stC X103 hx hZ e103 Ar106 (j := (0 : Int32)) (inb_of S106 ⟨by decide, by decide⟩) (g := (mkF m 41 #[vi p1, vi p2, vi p3, vi p4, vi 1, vi c0, vi c1, vi c2, vr b101, .unset, .unset, .unset, .unset, .unset, .unset, .unset] [wi c0, wi 0, wr b103, wr b103])) rfl rfl (hb hby at_41)
  have V106 : Arv Z h106 b103 k103 .char (1 : Int32) [(.int (nar .char c0))] (.int (0 : Int32)) := Arv.set Ar106 q106 S106 M106 H106 G106 (fits_nar_char _) W106 0 rfl (Nat.le_of_ble_eq_true rfl)
  have sf107_b101 := Safe.wr W106 sf105_b103 ch105 sf105_b101
  have sf107_b103 := Safe.wr W106 sf105_b103 ch105 sf105_b103
  have cr107 := cr105.trans (CHr.wr W106 sf105_b103 ch105)
  have ch107 := CHv.wr W106 sf105_b103 ch105
  have N106 := Fr.snoc X106 N0 g_b103
  have y109 := ((V101.ext E103).other W106 (Nat.ne_of_lt lt_b101_b103))
  have lz108_b101 := y109.lt
  have lz108_b103 := V106.lt
  obtain ⟨T108, h108, k108, X108, e108, E108, A108, st108⟩ := newP X106 hx hZ (tw hw 0 rfl) e106 (g := (mkF m 45 #[vi p1, vi p2, vi p3, vi p4, vi 1, vi c0, vi c1, vi c2, vr b101, vr b103, .unset, .unset, .unset, .unset, .unset, .unset] [wi 2])) rfl (hb hby at_45) rfl (by decide) (cap := 2) (by decide) (by decide) (by decide) (by decide)
  obtain ⟨b108, g108⟩ : ∃ z, z = h106.size := ⟨_, rfl⟩
  rw [← g108] at A108 st108
  have y110 := ((y104.ext E103).wr W106 g_b103)
  have g_b108 : n0 ≤ b108 := Nat.le_trans (own_le y110) (Nat.le_of_eq g108.symm)
  have lt_b101_b108 : b101 < b108 := Nat.lt_of_lt_of_le lz108_b101 (Nat.le_of_eq g108.symm)
  have lt_b103_b108 : b103 < b108 := Nat.lt_of_lt_of_le lz108_b103 (Nat.le_of_eq g108.symm)
  have sn108 : Safe Z consts_1 s.vm h106 b108 := Safe.new (Nat.le_of_eq g108.symm)
  have V108 : Arv Z h108 b108 k108 .char (2 : Int32) [(.int (0 : Int32)), (.int (0 : Int32))] (.int (0 : Int32)) := (Arv.new A108 (by decide)).pad (pad_rep [] (.int (0 : Int32)) 2)
  have sf111_b101 := Safe.ext E108 ch107 sf107_b101
  have sf111_b103 := Safe.ext E108 ch107 sf107_b103
  have sf111_b108 := Safe.ext E108 ch107 sn108
  have cr111 := cr107.trans (CHr.ext E108 ch107)
  have ch111 := CHv.ext E108 ch107
  obtain ⟨cl112, Ar112, q112, S112, M112, H112, G112⟩ := id V108
  obtain ⟨T112, h112, X112, e112, W112, st112⟩ := stC X108 hx hZ e108 Ar112 (j := (0 : Int32)) (inb_of S112 ⟨by decide, by decide⟩) (g := (mkF m 51 #[vi p1, vi p2, vi p3, vi p4, vi 1, vi c0, vi c1, vi c2, vr b101, vr b103, .unset, .unset, .unset, .unset, .unset, .unset] [wi c0, wi 0, wr b108, wr b108])) rfl rfl (hb hby at_51)
  have V112 : Arv Z h112 b108 k108 .char (2 : Int32) [(.int (nar .char c0)), (.int (0 : Int32))] (.int (0 : Int32)) := Arv.set Ar112 q112 S112 M112 H112 G112 (fits_nar_char _) W112 0 rfl (Nat.le_of_ble_eq_true rfl)
  have sf113_b101 := Safe.wr W112 sf111_b108 ch111 sf111_b101
  have sf113_b103 := Safe.wr W112 sf111_b108 ch111 sf111_b103
  have sf113_b108 := Safe.wr W112 sf111_b108 ch111 sf111_b108
  have cr113 := cr111.trans (CHr.wr W112 sf111_b108 ch111)
  have ch113 := CHv.wr W112 sf111_b108 ch111
  have N112 := Fr.snoc X112 N106 g_b108
  obtain ⟨cl114, Ar114, q114, S114, M114, H114, G114⟩ := id V112
  obtain ⟨T114, h114, X114, e114, W114, st114⟩ := stC X112 hx hZ e112 Ar114 (j := (1 : Int32)) (inb_of S114 ⟨by decide, by decide⟩) (g := (mkF m 56 #[vi p1, vi p2, vi p3, vi p4, vi 1, vi c0, vi c1, vi c2, vr b101, vr b103, .unset, .unset, .unset, .unset, .unset, .unset] [wi c1, wi 1, wr b108, wr b108])) rfl rfl (hb hby at_56)
  have V114 : Arv Z h114 b108 k108 .char (2 : Int32) [(.int (nar .char c0)), (.int (nar .char c1))] (.int (0 : Int32)) := Arv.set Ar114 q114 S114 M114 H114 G114 (fits_nar_char _) W114 1 rfl (Nat.le_of_ble_eq_true rfl)
  have sf115_b101 := Safe.wr W114 sf113_b108 ch113 sf113_b101
  have sf115_b103 := Safe.wr W114 sf113_b108 ch113 sf113_b103
  have sf115_b108 := Safe.wr W114 sf113_b108 ch113 sf113_b108
  have cr115 := cr113.trans (CHr.wr W114 sf113_b108 ch113)
  have ch115 := CHv.wr W114 sf113_b108 ch113
  have N114 := Fr.snoc X114 N112 g_b108
  have y117 := (((y109.ext E108).other W112 (Nat.ne_of_lt lt_b101_b108)).other W114 (Nat.ne_of_lt lt_b101_b108))
  have lz116_b101 := y117.lt
  have y118 := (((V106.ext E108).other W112 (Nat.ne_of_lt lt_b103_b108)).other W114 (Nat.ne_of_lt lt_b103_b108))
  have lz116_b103 := y118.lt
  have lz116_b108 := V114.lt
  obtain ⟨T116, h116, k116, X116, e116, E116, A116, st116⟩ := newP X114 hx hZ (tw hw 0 rfl) e114 (g := (mkF m 60 #[vi p1, vi p2, vi p3, vi p4, vi 1, vi c0, vi c1, vi c2, vr b101, vr b103, vr b108, .unset, .unset, .unset, .unset, .unset] [wi 3])) rfl (hb hby at_60) rfl (by decide) (cap := 3) (by decide) (by decide) (by decide) (by decide)
  obtain ⟨b116, g116⟩ : ∃ z, z = h114.size := ⟨_, rfl⟩
  rw [← g116] at A116 st116
  have y119 := (((y110.ext E108).wr W112 g_b108).wr W114 g_b108)
  have g_b116 : n0 ≤ b116 := Nat.le_trans (own_le y119) (Nat.le_of_eq g116.symm)
  have lt_b101_b116 : b101 < b116 := Nat.lt_of_lt_of_le lz116_b101 (Nat.le_of_eq g116.symm)
  have lt_b103_b116 : b103 < b116 := Nat.lt_of_lt_of_le lz116_b103 (Nat.le_of_eq g116.symm)
  have lt_b108_b116 : b108 < b116 := Nat.lt_of_lt_of_le lz116_b108 (Nat.le_of_eq g116.symm)
  have sn116 : Safe Z consts_1 s.vm h114 b116 := Safe.new (Nat.le_of_eq g116.symm)
  have V116 : Arv Z h116 b116 k116 .char (3 : Int32) [(.int (0 : Int32)), (.int (0 : Int32)), (.int (0 : Int32))] (.int (0 : Int32)) := (Arv.new A116 (by decide)).pad (pad_rep [] (.int (0 : Int32)) 3)
  have sf120_b101 := Safe.ext E116 ch115 sf115_b101
  have sf120_b103 := Safe.ext E116 ch115 sf115_b103
  have sf120_b108 := Safe.ext E116 ch115 sf115_b108
  have sf120_b116 := Safe.ext E116 ch115 sn116
  have cr120 := cr115.trans (CHr.ext E116 ch115)
  have ch120 := CHv.ext E116 ch115
  obtain ⟨cl121, Ar121, q121, S121, M121, H121, G121⟩ := id V116
  obtain ⟨T121, h121, X121, e121, W121, st121⟩ := stC X116 hx hZ e116 Ar121 (j := (0 : Int32)) (inb_of S121 ⟨by decide, by decide⟩) (g := (mkF m 66 #[vi p1, vi p2, vi p3, vi p4, vi 1, vi c0, vi c1, vi c2, vr b101, vr b103, vr b108, .unset, .unset, .unset, .unset, .unset] [wi c0, wi 0, wr b116, wr b116])) rfl rfl (hb hby at_66)
  have V121 : Arv Z h121 b116 k116 .char (3 : Int32) [(.int (nar .char c0)), (.int (0 : Int32)), (.int (0 : Int32))] (.int (0 : Int32)) := Arv.set Ar121 q121 S121 M121 H121 G121 (fits_nar_char _) W121 0 rfl (Nat.le_of_ble_eq_true rfl)
  have sf122_b101 := Safe.wr W121 sf120_b116 ch120 sf120_b101
  have sf122_b103 := Safe.wr W121 sf120_b116 ch120 sf120_b103
  have sf122_b108 := Safe.wr W121 sf120_b116 ch120 sf120_b108
  have sf122_b116 := Safe.wr W121 sf120_b116 ch120 sf120_b116
  have cr122 := cr120.trans (CHr.wr W121 sf120_b116 ch120)
  have ch122 := CHv.wr W121 sf120_b116 ch120
  have N121 := Fr.snoc X121 N114 g_b116
  obtain ⟨cl123, Ar123, q123, S123, M123, H123, G123⟩ := id V121
  obtain ⟨T123, h123, X123, e123, W123, st123⟩ := stC X121 hx hZ e121 Ar123 (j := (1 : Int32)) (inb_of S123 ⟨by decide, by decide⟩) (g := (mkF m 71 #[vi p1, vi p2, vi p3, vi p4, vi 1, vi c0, vi c1, vi c2, vr b101, vr b103, vr b108, .unset, .unset, .unset, .unset, .unset] [wi c1, wi 1, wr b116, wr b116])) rfl rfl (hb hby at_71)
  have V123 : Arv Z h123 b116 k116 .char (3 : Int32) [(.int (nar .char c0)), (.int (nar .char c1)), (.int (0 : Int32))] (.int (0 : Int32)) := Arv.set Ar123 q123 S123 M123 H123 G123 (fits_nar_char _) W123 1 rfl (Nat.le_of_ble_eq_true rfl)
  have sf124_b101 := Safe.wr W123 sf122_b116 ch122 sf122_b101
  have sf124_b103 := Safe.wr W123 sf122_b116 ch122 sf122_b103
  have sf124_b108 := Safe.wr W123 sf122_b116 ch122 sf122_b108
  have sf124_b116 := Safe.wr W123 sf122_b116 ch122 sf122_b116
  have cr124 := cr122.trans (CHr.wr W123 sf122_b116 ch122)
  have ch124 := CHv.wr W123 sf122_b116 ch122
  have N123 := Fr.snoc X123 N121 g_b116
  obtain ⟨cl125, Ar125, q125, S125, M125, H125, G125⟩ := id V123
  obtain ⟨T125, h125, X125, e125, W125, st125⟩ := stC X123 hx hZ e123 Ar125 (j := (2 : Int32)) (inb_of S125 ⟨by decide, by decide⟩) (g := (mkF m 76 #[vi p1, vi p2, vi p3, vi p4, vi 1, vi c0, vi c1, vi c2, vr b101, vr b103, vr b108, .unset, .unset, .unset, .unset, .unset] [wi c2, wi 2, wr b116, wr b116])) rfl rfl (hb hby at_76)
  have V125 : Arv Z h125 b116 k116 .char (3 : Int32) [(.int (nar .char c0)), (.int (nar .char c1)), (.int (nar .char c2))] (.int (0 : Int32)) := Arv.set Ar125 q125 S125 M125 H125 G125 (fits_nar_char _) W125 2 rfl (Nat.le_of_ble_eq_true rfl)
  have sf126_b101 := Safe.wr W125 sf124_b116 ch124 sf124_b101
  have sf126_b103 := Safe.wr W125 sf124_b116 ch124 sf124_b103
  have sf126_b108 := Safe.wr W125 sf124_b116 ch124 sf124_b108
  have sf126_b116 := Safe.wr W125 sf124_b116 ch124 sf124_b116
  have cr126 := cr124.trans (CHr.wr W125 sf124_b116 ch124)
  have ch126 := CHv.wr W125 sf124_b116 ch124
  have N125 := Fr.snoc X125 N123 g_b116
  have y128 := ((((y117.ext E116).other W121 (Nat.ne_of_lt lt_b101_b116)).other W123 (Nat.ne_of_lt lt_b101_b116)).other W125 (Nat.ne_of_lt lt_b101_b116))
  have lz127_b101 := y128.lt
  have y129 := ((((y118.ext E116).other W121 (Nat.ne_of_lt lt_b103_b116)).other W123 (Nat.ne_of_lt lt_b103_b116)).other W125 (Nat.ne_of_lt lt_b103_b116))
  have lz127_b103 := y129.lt
  have y130 := ((((V114.ext E116).other W121 (Nat.ne_of_lt lt_b108_b116)).other W123 (Nat.ne_of_lt lt_b108_b116)).other W125 (Nat.ne_of_lt lt_b108_b116))
  have lz127_b108 := y130.lt
  have lz127_b116 := V125.lt
  obtain ⟨T127, h127, X127, e127, E127, A127, D127, U127, st127⟩ := newO X125 hx hZ hown (tw hw 1 rfl) (tw hw 2 rfl) (tw hw 3 rfl) e125 (g := (mkF m 119 #[vi p1, vi p2, vi p3, vi p4, vi 1, vi c0, vi c1, vi c2, vr b101, vr b103, vr b108, vr b116, vr b103, .unset, .unset, .unset] [])) rfl (hb hby at_119) (by decide) (by decide)
  obtain ⟨b127, g127⟩ : ∃ z, z = h125.size := ⟨_, rfl⟩
  rw [← g127] at A127 D127 U127 st127
  have y131 := ((((y119.ext E116).wr W121 g_b116).wr W123 g_b116).wr W125 g_b116)
  have g_b127 : n0 ≤ b127 := Nat.le_trans (own_le y131) (Nat.le_of_eq g127.symm)
  have lt_b101_b127 : b101 < b127 := Nat.lt_of_lt_of_le lz127_b101 (Nat.le_of_eq g127.symm)
  have lt_b103_b127 : b103 < b127 := Nat.lt_of_lt_of_le lz127_b103 (Nat.le_of_eq g127.symm)
  have lt_b108_b127 : b108 < b127 := Nat.lt_of_lt_of_le lz127_b108 (Nat.le_of_eq g127.symm)
  have lt_b116_b127 : b116 < b127 := Nat.lt_of_lt_of_le lz127_b116 (Nat.le_of_eq g127.symm)
  have sn127 : Safe Z consts_1 s.vm h125 b127 := Safe.new (Nat.le_of_eq g127.symm)
  have sf132_b101 := Safe.ext E127 ch126 sf126_b101
  have sf132_b103 := Safe.ext E127 ch126 sf126_b103
  have sf132_b108 := Safe.ext E127 ch126 sf126_b108
  have sf132_b116 := Safe.ext E127 ch126 sf126_b116
  have sf132_b127 := Safe.ext E127 ch126 sn127
  have cr132 := cr126.trans (CHr.ext E127 ch126)
  have ch132 := CHv.ext E127 ch126
  have F127_value : Fld Z h127 b127 "java/lang/String" "value" "[B" .null := D127 (Or.inr (tw hw 16 rfl)) (ty := (.array .byte)) (by decide)
  have F127_coder : Fld Z h127 b127 "java/lang/String" "coder" "B" (.int (0 : Int32)) := D127 (Or.inr (tw hw 17 rfl)) (ty := .byte) (by decide)
  have y133 := (y129.ext E127)
  have hV_ : Arv Z h127 b103 k103 .char (1 : Int32) (([(nar .char c0)] : List Int32).map Value.int) (.int (0 : Int32)) := y133
  have y134 := (y131.ext E127)
  have y136 := (y128.ext E127)
  have lz135_b101 := y136.lt
  have lz135_b103 := y133.lt
  have y137 := (y130.ext E127)
  have lz135_b108 := y137.lt
  have y138 := (V125.ext E127)
  have lz135_b116 := y138.lt
  have lz135_b127 := A127.lt
  obtain ⟨_, _, ⟨T135, L135, k135, n135⟩, -, X135, ⟨Lc135, hQ135, l135, y135, z135⟩, st135⟩ := X127.specialBack hx (y := mn_19) rfl hown (mvT hZ (tw hw 4 rfl)) (mvT hZ (tw hw 5 rfl)) (mvT hZ (tw hw 6 rfl)) (by decide) (StrChars.Road.backV (W := 1) hZ hws (kI := 4) (tw hw 2 rfl) (cs := ([(nar .char c0)] : List Int32)) (bs := ([(nar .char c0)] : List Int32).map (fun c => c.toInt8.toInt32)) (n := 1) g_b127 (own_le y134) A127 F127_value F127_coder hV_ (O2.ext y134.2) P5 rfl rfl (by decide) (by decide) hpc rfl (by decide) (by decide)) (g := (mkF m 125 #[vi p1, vi p2, vi p3, vi p4, vi 1, vi c0, vi c1, vi c2, vr b101, vr b103, vr b108, vr b116, vr b103, .unset, .unset, .unset] [wr b103, wr b127, wr b127])) rfl (by rw [hml]; rfl) (Steps.refl _) (a := b127) (argsL := [wr b103]) (rest := [wr b127]) (lenOf pd_AC_V rfl) rfl (Nat.le_refl _) (hb hby at_125) (fun _ _ => ⟨rfl, e127, (by decide : 5 + 1 ≤ _), (by decide : 10 + 1 ≤ _)⟩)
  dsimp only [Pt.U, Pt.locs, Pt.cells, Pt.slots] at X135 l135 y135 z135 st135 hQ135
  subst l135 y135 z135
  obtain ⟨rfl, N135q, Kc135, uE135, uk135, ut135, uq135, ug135, us135, un135, uv135, uW135⟩ := hQ135
  have N135 := Fr.app N125 N135q
  have sn135_ut135 : Safe Z consts_1 s.vm h127 ut135 := Safe.new us135
  have hs139_ : ∀ x ∈ ([b127] : List Addr), Safe Z consts_1 s.vm h127 x := (allS sf132_b127 all0)
  have sf139_b101 := Safe.keep Kc135 hs139_ ch132 sf132_b101
  have sf139_b103 := Safe.keep Kc135 hs139_ ch132 sf132_b103
  have sf139_b108 := Safe.keep Kc135 hs139_ ch132 sf132_b108
  have sf139_b116 := Safe.keep Kc135 hs139_ ch132 sf132_b116
  have sf139_b127 := Safe.keep Kc135 hs139_ ch132 sf132_b127
  have sf139_ut135 := Safe.keep Kc135 hs139_ ch132 sn135_ut135
  have cr139 := cr132.trans (CHr.keep Kc135 hs139_ ch132)
  have ch139 := CHv.keep Kc135 hs139_ ch132
  have lt_b101_ut135 : b101 < ut135 := Nat.lt_of_lt_of_le lz135_b101 us135
  have lt_b103_ut135 : b103 < ut135 := Nat.lt_of_lt_of_le lz135_b103 us135
  have lt_b108_ut135 : b108 < ut135 := Nat.lt_of_lt_of_le lz135_b108 us135
  have lt_b116_ut135 : b116 < ut135 := Nat.lt_of_lt_of_le lz135_b116 us135
  have lt_b127_ut135 : b127 < ut135 := Nat.lt_of_lt_of_le lz135_b127 us135
  have uV135 : Arv Z T135.heap ut135 uq135 .byte (1 : Int32) [.int ((nar .char c0).toInt8.toInt32)] (.int (0 : Int32)) := uW135
  have y140 := (y134.keep Kc135 (allS g_b127 all0))
  have y142 := (y136.keep Kc135 (own_nmc (Nat.ne_of_lt lt_b101_b127) own_nm0))
  have lz141_b101 := y142.lt
  have y143 := (y133.keep Kc135 (own_nmc (Nat.ne_of_lt lt_b103_b127) own_nm0))
  have lz141_b103 := y143.lt
  have y144 := (y137.keep Kc135 (own_nmc (Nat.ne_of_lt lt_b108_b127) own_nm0))
  have lz141_b108 := y144.lt
  have y145 := (y138.keep Kc135 (own_nmc (Nat.ne_of_lt lt_b116_b127) own_nm0))
  have lz141_b116 := y145.lt
  have lz141_b127 := uE135.lt
  have lz141_ut135 := uV135.lt
  obtain ⟨_, _, ⟨T141, L141, k141, n141⟩, -, X141, hs141, hg141, ⟨Lc141, hQ141, l141, y141, z141, R141⟩, st141⟩ := callSS X135 hx (y := mn_2) hown (mvT hZ (tw hw 22 rfl)) (mvT hZ (tw hw 23 rfl)) (mvT hZ (tw hw 24 rfl)) (mvT hZ (tw hw 25 rfl)) (by decide) (own_backSHK (W := 0) (rmU l Z a0 hw [] b127 (1 : Int32) ut135 uq135 [.int ((nar .char c0).toInt8.toInt32)] G1 T135.heap n0 y140 (Or.inr (Or.inl rfl)) hl hr2 O2 P5 uE135 uv135 uk135 uV135) hZ (tw hw 25 rfl) (tw hw 24 rfl) (by decide) (by decide) hEL ch139 hK.1 hK.2) (g := (mkF m 132 #[vi p1, vi p2, vi p3, vi p4, vi 1, vi c0, vi c1, vi c2, vr b101, vr b103, vr b108, vr b116, vr b103, vr b127, .unset, .unset] [wr b127])) rfl (by rw [hml]; rfl) (argsL := [wr b127]) (rest := []) (lenOf pd_Ljava_lang_String__Lcom_example_queryloom_queryloom_translation_TranslationException_ rfl) rfl (Nat.le_refl _) (hb hby at_132) (fun _ _ => ⟨rfl, rfl, (by decide : 6 + 9 ≤ _), (by decide : 11 + 2928 ≤ _)⟩)
  dsimp only [Pt.U, Pt.locs, Pt.cells, Pt.slots] at X141 l141 y141 z141 st141 hQ141 hs141 hg141 R141
  subst l141 y141 z141
  obtain ⟨ur141, ux141, ut141, uq141, rfl, N141q, Kc141, uE141, um141, uF141, uv141, uk141, uW141⟩ := hQ141
  have N141 := Fr.app N135 N141q
  have y146 := (Nat.le_trans (Nat.le_trans (Nat.le_trans (Nat.le_trans (Nat.le_trans (Nat.le_trans (Nat.le_trans (Nat.le_trans (Nat.le_trans (Nat.le_trans (Nat.le_trans (Nat.le_trans hk0 E101.1) E103.1) (Keep.of_wr W106).1) E108.1) (Keep.of_wr W112).1) (Keep.of_wr W114).1) E116.1) (Keep.of_wr W121).1) (Keep.of_wr W123).1) (Keep.of_wr W125).1) E127.1) Kc135.1)
  obtain ⟨X141r, hS141, hZ141, hown141⟩ := rebS hS0 y146 X141 hs141 hg141 hZ hown
  have tk147 := Vm.MethodsKnown.alikeC (own_al hS141) hK.1
  have bk147 := Vm.FramesKnown.alikeC (own_al hS141) hK.2
  have sf148_b101 := R141.safe lz141_b101 sf139_b101
  have sf148_b103 := R141.safe lz141_b103 sf139_b103
  have sf148_b108 := R141.safe lz141_b108 sf139_b108
  have sf148_b116 := R141.safe lz141_b116 sf139_b116
  have sf148_b127 := R141.safe lz141_b127 sf139_b127
  have sf148_ut135 := R141.safe lz141_ut135 sf139_ut135
  have cr148 := cr139.trans R141
  have ch148 := R141.1
  have uV141 : Arv Z T141.heap ut141 uq141 .byte (22 : Int32) (.int ((nar .char c0).toInt8.toInt32) :: cv_2) (.int (0 : Int32)) := uW141
  have y149 := (y140.keep Kc141 all0)
  obtain ⟨cq150, kq150, q150a, q150b, q150c⟩ := isOf hZ141 rfl uE141
  obtain ⟨_, _, ⟨T150, L150, k150, n150⟩, -, X150, ⟨Lc150, hQ150, l150, y150, z150⟩, st150⟩ := X141r.virtualBackUp hx (x := mn_1) (y := mn_40) hown141 (mvT hZ141 (tw hw 208 rfl)) (mvT hZ141 (tw hw 209 rfl)) (mvT hZ141 (tw hw 210 rfl)) (by decide) (mvT hZ141 (tw hw 212 rfl)) (mvT hZ141 (tw hw 211 rfl)) (backOf (W := 0) (rmGM l Z a0 hw [] ur141 ux141 T141.heap n0 y149 um141) hZ141 (tw hw 213 rfl) (tw hw 169 rfl) (by decide) (by decide)) q150a q150c (g := (mkF m 146 #[vi p1, vi p2, vi p3, vi p4, vi 1, vi c0, vi c1, vi c2, vr b101, vr b103, vr b108, vr b116, vr b103, vr b127, vr ur141, .unset] [wr ur141])) rfl (by rw [hml]; rfl) (Steps.refl _) (argsL := []) (rest := []) (lenOf pd__Ljava_lang_String_ rfl) rfl (Nat.le_refl _) (hb hby at_146) (fun _ _ => ⟨rfl, rfl, (by decide : 15 + 0 ≤ _), (by decide : 2939 + 0 ≤ _)⟩)
  dsimp only [Pt.U, Pt.locs, Pt.cells, Pt.slots] at X150 l150 y150 z150 st150 hQ150
  subst l150 y150 z150
  obtain ⟨rfl, N150q, eq150⟩ := hQ150
  have N150 := Fr.app N141 N150q
  obtain ⟨cq151, kq151, q151a, q151b, q151c⟩ := isOf hZ141 eq150 uF141
  obtain ⟨_, _, ⟨T151, L151, k151, n151⟩, -, X151, ⟨Lc151, hQ151, l151, y151, z151⟩, st151⟩ := X150.virtualBack hx (y := mn_26) (z := mn_26) hown141 (mvT hZ141 (tw hw 214 rfl)) (mvT hZ141 (tw hw 57 rfl)) (notFace_of_selects (args := #[]) (mvT hZ141 (tw hw 59 rfl))) (mvT hZ141 (tw hw 59 rfl)) (mvT hZ141 (tw hw 58 rfl)) (by decide) (backOf (W := 0) (rmLen l Z a0 hw [] ux141 (1 : Int32) ut141 uq141 (22 : Int32) (.int ((nar .char c0).toInt8.toInt32) :: cv_2) G1 T141.heap n0 y149 (Or.inr (Or.inl rfl)) O2 P5 uF141 uv141 uk141 uV141) hZ141 (tw hw 60 rfl) (tw hw 3 rfl) (by decide) (by decide)) q151a q151c (g := (mkF m 160 #[vi p1, vi p2, vi p3, vi p4, vi 1, vi c0, vi c1, vi c2, vr b101, vr b103, vr b108, vr b116, vr b103, vr b127, vr ur141, vr ux141] [wr ux141])) rfl (by rw [hml]; rfl) (Steps.refl _) (argsL := []) (rest := []) (lenOf pd__I rfl) rfl (Nat.le_refl _) (hb hby at_160) (fun _ _ => ⟨rfl, eq150, (by decide : 15 + 0 ≤ _), (by decide : 2939 + 0 ≤ _)⟩)
  dsimp only [Pt.U, Pt.locs, Pt.cells, Pt.slots] at X151 l151 y151 z151 st151 hQ151
  subst l151 y151 z151
  obtain ⟨rfl, N151q, eq151⟩ := hQ151
  have N151 := Fr.app N150 N151q
  obtain ⟨cq152, kq152, q152a, q152b, q152c⟩ := isOf hZ141 eq151 uF141
  obtain ⟨_, _, ⟨T152, L152, k152, n152⟩, -, X152, ⟨Lc152, hQ152, l152, y152, z152⟩, st152⟩ := X151.virtualBack hx (y := mn_21) (z := mn_21) hown141 (mvT hZ141 (tw hw 219 rfl)) (mvT hZ141 (tw hw 220 rfl)) (notFace_of_selects (args := #[]) (mvT hZ141 (tw hw 222 rfl))) (mvT hZ141 (tw hw 222 rfl)) (mvT hZ141 (tw hw 221 rfl)) (by decide) (StrChars.Road.chN (W := 0) hZ141 hwc (kI := 4) (tw hw 2 rfl) (cs := (((nar .char c0) :: ci_3) : List Int32)) (i := 0) uF141 uv141 uk141 uV141 (Or.inl ⟨rfl, rfl, rfl, own_no255 hcs⟩) (own_no65 hcs) (O2.ext y149.2) P5 (FM.ext y149.2) rf (Nat.le_of_ble_eq_true rfl) (Nat.le_of_ble_eq_true rfl) (by decide) (by decide) (by decide)) q152a q152c (g := (mkF m 182 #[vi p1, vi p2, vi p3, vi p4, vi 1, vi c0, vi c1, vi c2, vr b101, vr b103, vr b108, vr b116, vr b103, vr b127, vr ur141, vr ux141] [wi 0, wr ux141])) rfl (by rw [hml]; rfl) (Steps.refl _) (argsL := [wi 0]) (rest := []) (lenOf pd_I_C rfl) rfl (Nat.le_refl _) (hb hby at_182) (fun _ _ => ⟨rfl, eq151, (by decide : 15 + 0 ≤ _), (by decide : 2939 + 0 ≤ _)⟩)
  dsimp only [Pt.U, Pt.locs, Pt.cells, Pt.slots] at X152 l152 y152 z152 st152 hQ152
  subst l152 y152 z152
  obtain ⟨hv152, rfl, eq152⟩ := hQ152
  obtain rfl : _ = some (Value.int (nar .char c0)) := hv152
  have N152 := Fr.app N151 (Fr.nil n0)
  have hc187 : (nar .char c0) = c0 := he0
  have hch_ : ∀ i, i < 21 → ((((nar .char c0) :: ci_3) : List Int32)).getD (((1 : Int32)).toNatClampNeg + i) 0 = (ci_3 : List Int32).getD i 0 := fun i _ => by show ((((nar .char c0) :: ci_3) : List Int32)).getD (1 + i) 0 = _; rw [Nat.add_comm]; rfl
  obtain ⟨_, _, ⟨T153, L153, k153, n153⟩, -, X153, ⟨Lc153, hQ153, l153, y153, z153⟩, st153⟩ := Jvm.LawKit.callS X152 hx (y := mn_3) hown141 (mvT hZ141 (tw hw 215 rfl)) (mvT hZ141 (tw hw 216 rfl)) (mvT hZ141 (tw hw 217 rfl)) (mvT hZ141 (tw hw 218 rfl)) (by decide) (backOf (W := 0) (rmSuf l Z a0 hw [] ux141 (1 : Int32) ut141 uq141 fm (22 : Int32) (.int ((nar .char c0).toInt8.toInt32) :: cv_2) (((nar .char c0) :: ci_3) : List Int32) G1 T141.heap n0 y149 (Or.inr (Or.inl rfl)) O2 P5 FM rf uF141 uv141 uk141 uV141 (Or.inl ⟨rfl, rfl, rfl, own_no255 hcs⟩) hcs rfl hch_) hZ141 (tw hw 218 rfl) (tw hw 217 rfl) (by decide) (by decide)) (g := (mkF m 234 #[vi p1, vi p2, vi p3, vi p4, vi 1, vi c0, vi c1, vi c2, vr b101, vr b103, vr b108, vr b116, vr b103, vr b127, vr ur141, vr ux141] [wi 1, wr ux141])) rfl (by rw [hml]; rfl) (argsL := [wr ux141, wi 1]) (rest := []) (lenOf pd_Ljava_lang_String_I_Z rfl) rfl (Nat.le_refl _) (hb hby at_234) (fun _ _ => ⟨rfl, eq152, (by decide : 15 + 0 ≤ _), (by decide : 2939 + 0 ≤ _)⟩)
  dsimp only [Pt.U, Pt.locs, Pt.cells, Pt.slots] at X153 l153 y153 z153 st153 hQ153
  subst l153 y153 z153
  obtain ⟨rfl, N153q, eq153⟩ := hQ153
  have N153 := Fr.app N152 N153q
  obtain ⟨fs, hr, hrun, hended, hRW⟩ := X153.leaveW hS141 (by rw [eq153]; exact (Nat.le_refl _)) (v := some (.int (1 : Int32))) (fun h => by rw [Bd.returns] at h; cases h)
  refine ⟨_, _, pre0 _ ?_, hrun, hended, _, _, rfl, ?_, hRW.1, hRW.2.1, hRW.2.2.1, hRW.2.2.2.mono (by decide) (by decide)⟩
  · show Go p e below s₁ (mkF m 0 #[vi p1, vi p2, vi p3, vi p4, .unset, .unset, .unset, .unset, .unset, .unset, .unset, .unset, .unset, .unset, .unset, .unset] []) _
    refine XS.iloadN X0.here hx rfl (hb hby at_0) rfl ?_
    show Go p e below s₁ (mkF m 1 #[vi p1, vi p2, vi p3, vi p4, .unset, .unset, .unset, .unset, .unset, .unset, .unset, .unset, .unset, .unset, .unset, .unset] [wi p1]) _
    refine XS.iconst X0.here hx rfl (hb hby at_1) ?_
    show Go p e below s₁ (mkF m 2 #[vi p1, vi p2, vi p3, vi p4, .unset, .unset, .unset, .unset, .unset, .unset, .unset, .unset, .unset, .unset, .unset, .unset] [wi 3, wi p1]) _
    refine XS.iand X0.here hx rfl (hb hby at_2) rfl ?_
    show Go p e below s₁ (mkF m 3 #[vi p1, vi p2, vi p3, vi p4, .unset, .unset, .unset, .unset, .unset, .unset, .unset, .unset, .unset, .unset, .unset, .unset] [wi (p1 &&& (3 : Int32))]) _
    refine XS.istore X0.here hx rfl (hb hby at_3) rfl (l' := #[.val (.int p1), .val (.int p2), .val (.int p3), .val (.int p4), .val (.int (p1 &&& (3 : Int32))), .unset, .unset, .unset, .unset, .unset, .unset, .unset, .unset, .unset, .unset, .unset]) rfl ?_
    rw [hk_]
    show Go p e below s₁ (mkF m 5 #[vi p1, vi p2, vi p3, vi p4, vi 1, .unset, .unset, .unset, .unset, .unset, .unset, .unset, .unset, .unset, .unset, .unset] []) _
    refine XS.iloadN X0.here hx rfl (hb hby at_5) rfl ?_
    show Go p e below s₁ (mkF m 6 #[vi p1, vi p2, vi p3, vi p4, vi 1, .unset, .unset, .unset, .unset, .unset, .unset, .unset, .unset, .unset, .unset, .unset] [wi p2]) _
    refine XS.sipush X0.here hx rfl (hb hby at_6) ?_
    show Go p e below s₁ (mkF m 9 #[vi p1, vi p2, vi p3, vi p4, vi 1, .unset, .unset, .unset, .unset, .unset, .unset, .unset, .unset, .unset, .unset, .unset] [wi 255, wi p2]) _
    refine XS.iand X0.here hx rfl (hb hby at_9) rfl ?_
    show Go p e below s₁ (mkF m 10 #[vi p1, vi p2, vi p3, vi p4, vi 1, .unset, .unset, .unset, .unset, .unset, .unset, .unset, .unset, .unset, .unset, .unset] [wi (p2 &&& (255 : Int32))]) _
    refine XS.i2c X0.here hx rfl (hb hby at_10) rfl ?_
    show Go p e below s₁ (mkF m 11 #[vi p1, vi p2, vi p3, vi p4, vi 1, .unset, .unset, .unset, .unset, .unset, .unset, .unset, .unset, .unset, .unset, .unset] [wi ((p2 &&& (255 : Int32)).toUInt32.toUInt16.toUInt32.toInt32)]) _
    refine XS.istore X0.here hx rfl (hb hby at_11) rfl (l' := #[.val (.int p1), .val (.int p2), .val (.int p3), .val (.int p4), .val (.int (1 : Int32)), .val (.int ((p2 &&& (255 : Int32)).toUInt32.toUInt16.toUInt32.toInt32)), .unset, .unset, .unset, .unset, .unset, .unset, .unset, .unset, .unset, .unset]) rfl ?_
    rw [← hc0]
    show Go p e below s₁ (mkF m 13 #[vi p1, vi p2, vi p3, vi p4, vi 1, vi c0, .unset, .unset, .unset, .unset, .unset, .unset, .unset, .unset, .unset, .unset] []) _
    refine XS.iloadN X0.here hx rfl (hb hby at_13) rfl ?_
    show Go p e below s₁ (mkF m 14 #[vi p1, vi p2, vi p3, vi p4, vi 1, vi c0, .unset, .unset, .unset, .unset, .unset, .unset, .unset, .unset, .unset, .unset] [wi p3]) _
    refine XS.sipush X0.here hx rfl (hb hby at_14) ?_
    show Go p e below s₁ (mkF m 17 #[vi p1, vi p2, vi p3, vi p4, vi 1, vi c0, .unset, .unset, .unset, .unset, .unset, .unset, .unset, .unset, .unset, .unset] [wi 255, wi p3]) _
    refine XS.iand X0.here hx rfl (hb hby at_17) rfl ?_
    show Go p e below s₁ (mkF m 18 #[vi p1, vi p2, vi p3, vi p4, vi 1, vi c0, .unset, .unset, .unset, .unset, .unset, .unset, .unset, .unset, .unset, .unset] [wi (p3 &&& (255 : Int32))]) _
    refine XS.i2c X0.here hx rfl (hb hby at_18) rfl ?_
    show Go p e below s₁ (mkF m 19 #[vi p1, vi p2, vi p3, vi p4, vi 1, vi c0, .unset, .unset, .unset, .unset, .unset, .unset, .unset, .unset, .unset, .unset] [wi ((p3 &&& (255 : Int32)).toUInt32.toUInt16.toUInt32.toInt32)]) _
    refine XS.istore X0.here hx rfl (hb hby at_19) rfl (l' := #[.val (.int p1), .val (.int p2), .val (.int p3), .val (.int p4), .val (.int (1 : Int32)), .val (.int c0), .val (.int ((p3 &&& (255 : Int32)).toUInt32.toUInt16.toUInt32.toInt32)), .unset, .unset, .unset, .unset, .unset, .unset, .unset, .unset, .unset]) rfl ?_
    rw [← hc1]
    show Go p e below s₁ (mkF m 21 #[vi p1, vi p2, vi p3, vi p4, vi 1, vi c0, vi c1, .unset, .unset, .unset, .unset, .unset, .unset, .unset, .unset, .unset] []) _
    refine XS.iloadN X0.here hx rfl (hb hby at_21) rfl ?_
    show Go p e below s₁ (mkF m 22 #[vi p1, vi p2, vi p3, vi p4, vi 1, vi c0, vi c1, .unset, .unset, .unset, .unset, .unset, .unset, .unset, .unset, .unset] [wi p4]) _
    refine XS.sipush X0.here hx rfl (hb hby at_22) ?_
    show Go p e below s₁ (mkF m 25 #[vi p1, vi p2, vi p3, vi p4, vi 1, vi c0, vi c1, .unset, .unset, .unset, .unset, .unset, .unset, .unset, .unset, .unset] [wi 255, wi p4]) _
    refine XS.iand X0.here hx rfl (hb hby at_25) rfl ?_
    show Go p e below s₁ (mkF m 26 #[vi p1, vi p2, vi p3, vi p4, vi 1, vi c0, vi c1, .unset, .unset, .unset, .unset, .unset, .unset, .unset, .unset, .unset] [wi (p4 &&& (255 : Int32))]) _
    refine XS.i2c X0.here hx rfl (hb hby at_26) rfl ?_
    show Go p e below s₁ (mkF m 27 #[vi p1, vi p2, vi p3, vi p4, vi 1, vi c0, vi c1, .unset, .unset, .unset, .unset, .unset, .unset, .unset, .unset, .unset] [wi ((p4 &&& (255 : Int32)).toUInt32.toUInt16.toUInt32.toInt32)]) _
    refine XS.istore X0.here hx rfl (hb hby at_27) rfl (l' := #[.val (.int p1), .val (.int p2), .val (.int p3), .val (.int p4), .val (.int (1 : Int32)), .val (.int c0), .val (.int c1), .val (.int ((p4 &&& (255 : Int32)).toUInt32.toUInt16.toUInt32.toInt32)), .unset, .unset, .unset, .unset, .unset, .unset, .unset, .unset]) rfl ?_
    rw [← hc2]
    show Go p e below s₁ (mkF m 29 #[vi p1, vi p2, vi p3, vi p4, vi 1, vi c0, vi c1, vi c2, .unset, .unset, .unset, .unset, .unset, .unset, .unset, .unset] []) _
    refine XS.iconst X0.here hx rfl (hb hby at_29) ?_
    show Go p e below s₁ (mkF m 30 #[vi p1, vi p2, vi p3, vi p4, vi 1, vi c0, vi c1, vi c2, .unset, .unset, .unset, .unset, .unset, .unset, .unset, .unset] [wi 0]) _
    refine st101 _ ?_
    show Go p e below T101 (mkF m 32 #[vi p1, vi p2, vi p3, vi p4, vi 1, vi c0, vi c1, vi c2, .unset, .unset, .unset, .unset, .unset, .unset, .unset, .unset] [wr b101]) _
    refine XS.astore X101.here hx rfl (hb hby at_32) rfl rfl (l' := #[.val (.int p1), .val (.int p2), .val (.int p3), .val (.int p4), .val (.int (1 : Int32)), .val (.int c0), .val (.int c1), .val (.int c2), .val (.ref b101), .unset, .unset, .unset, .unset, .unset, .unset, .unset]) rfl ?_
    show Go p e below T101 (mkF m 34 #[vi p1, vi p2, vi p3, vi p4, vi 1, vi c0, vi c1, vi c2, vr b101, .unset, .unset, .unset, .unset, .unset, .unset, .unset] []) _
    refine XS.iconst X101.here hx rfl (hb hby at_34) ?_
    show Go p e below T101 (mkF m 35 #[vi p1, vi p2, vi p3, vi p4, vi 1, vi c0, vi c1, vi c2, vr b101, .unset, .unset, .unset, .unset, .unset, .unset, .unset] [wi 1]) _
    refine st103 _ ?_
    show Go p e below T103 (mkF m 37 #[vi p1, vi p2, vi p3, vi p4, vi 1, vi c0, vi c1, vi c2, vr b101, .unset, .unset, .unset, .unset, .unset, .unset, .unset] [wr b103]) _
    refine XS.dup X103.here hx rfl (hb hby at_37) rfl rfl ?_
    show Go p e below T103 (mkF m 38 #[vi p1, vi p2, vi p3, vi p4, vi 1, vi c0, vi c1, vi c2, vr b101, .unset, .unset, .unset, .unset, .unset, .unset, .unset] [wr b103, wr b103]) _
    refine XS.iconst X103.here hx rfl (hb hby at_38) ?_
    show Go p e below T103 (mkF m 39 #[vi p1, vi p2, vi p3, vi p4, vi 1, vi c0, vi c1, vi c2, vr b101, .unset, .unset, .unset, .unset, .unset, .unset, .unset] [wi 0, wr b103, wr b103]) _
    refine XS.iload X103.here hx rfl (hb hby at_39) rfl ?_
    show Go p e below T103 (mkF m 41 #[vi p1, vi p2, vi p3, vi p4, vi 1, vi c0, vi c1, vi c2, vr b101, .unset, .unset, .unset, .unset, .unset, .unset, .unset] [wi c0, wi 0, wr b103, wr b103]) _
    refine st106 _ ?_
    show Go p e below T106 (mkF m 42 #[vi p1, vi p2, vi p3, vi p4, vi 1, vi c0, vi c1, vi c2, vr b101, .unset, .unset, .unset, .unset, .unset, .unset, .unset] [wr b103]) _
    refine XS.astore X106.here hx rfl (hb hby at_42) rfl rfl (l' := #[.val (.int p1), .val (.int p2), .val (.int p3), .val (.int p4), .val (.int (1 : Int32)), .val (.int c0), .val (.int c1), .val (.int c2), .val (.ref b101), .val (.ref b103), .unset, .unset, .unset, .unset, .unset, .unset]) rfl ?_
    show Go p e below T106 (mkF m 44 #[vi p1, vi p2, vi p3, vi p4, vi 1, vi c0, vi c1, vi c2, vr b101, vr b103, .unset, .unset, .unset, .unset, .unset, .unset] []) _
    refine XS.iconst X106.here hx rfl (hb hby at_44) ?_
    show Go p e below T106 (mkF m 45 #[vi p1, vi p2, vi p3, vi p4, vi 1, vi c0, vi c1, vi c2, vr b101, vr b103, .unset, .unset, .unset, .unset, .unset, .unset] [wi 2]) _
    refine st108 _ ?_
    show Go p e below T108 (mkF m 47 #[vi p1, vi p2, vi p3, vi p4, vi 1, vi c0, vi c1, vi c2, vr b101, vr b103, .unset, .unset, .unset, .unset, .unset, .unset] [wr b108]) _
    refine XS.dup X108.here hx rfl (hb hby at_47) rfl rfl ?_
    show Go p e below T108 (mkF m 48 #[vi p1, vi p2, vi p3, vi p4, vi 1, vi c0, vi c1, vi c2, vr b101, vr b103, .unset, .unset, .unset, .unset, .unset, .unset] [wr b108, wr b108]) _
    refine XS.iconst X108.here hx rfl (hb hby at_48) ?_
    show Go p e below T108 (mkF m 49 #[vi p1, vi p2, vi p3, vi p4, vi 1, vi c0, vi c1, vi c2, vr b101, vr b103, .unset, .unset, .unset, .unset, .unset, .unset] [wi 0, wr b108, wr b108]) _
    refine XS.iload X108.here hx rfl (hb hby at_49) rfl ?_
    show Go p e below T108 (mkF m 51 #[vi p1, vi p2, vi p3, vi p4, vi 1, vi c0, vi c1, vi c2, vr b101, vr b103, .unset, .unset, .unset, .unset, .unset, .unset] [wi c0, wi 0, wr b108, wr b108]) _
    refine st112 _ ?_
    show Go p e below T112 (mkF m 52 #[vi p1, vi p2, vi p3, vi p4, vi 1, vi c0, vi c1, vi c2, vr b101, vr b103, .unset, .unset, .unset, .unset, .unset, .unset] [wr b108]) _
    refine XS.dup X112.here hx rfl (hb hby at_52) rfl rfl ?_
    show Go p e below T112 (mkF m 53 #[vi p1, vi p2, vi p3, vi p4, vi 1, vi c0, vi c1, vi c2, vr b101, vr b103, .unset, .unset, .unset, .unset, .unset, .unset] [wr b108, wr b108]) _
    refine XS.iconst X112.here hx rfl (hb hby at_53) ?_
    show Go p e below T112 (mkF m 54 #[vi p1, vi p2, vi p3, vi p4, vi 1, vi c0, vi c1, vi c2, vr b101, vr b103, .unset, .unset, .unset, .unset, .unset, .unset] [wi 1, wr b108, wr b108]) _
    refine XS.iload X112.here hx rfl (hb hby at_54) rfl ?_
    show Go p e below T112 (mkF m 56 #[vi p1, vi p2, vi p3, vi p4, vi 1, vi c0, vi c1, vi c2, vr b101, vr b103, .unset, .unset, .unset, .unset, .unset, .unset] [wi c1, wi 1, wr b108, wr b108]) _
    refine st114 _ ?_
    show Go p e below T114 (mkF m 57 #[vi p1, vi p2, vi p3, vi p4, vi 1, vi c0, vi c1, vi c2, vr b101, vr b103, .unset, .unset, .unset, .unset, .unset, .unset] [wr b108]) _
    refine XS.astore X114.here hx rfl (hb hby at_57) rfl rfl (l' := #[.val (.int p1), .val (.int p2), .val (.int p3), .val (.int p4), .val (.int (1 : Int32)), .val (.int c0), .val (.int c1), .val (.int c2), .val (.ref b101), .val (.ref b103), .val (.ref b108), .unset, .unset, .unset, .unset, .unset]) rfl ?_
    show Go p e below T114 (mkF m 59 #[vi p1, vi p2, vi p3, vi p4, vi 1, vi c0, vi c1, vi c2, vr b101, vr b103, vr b108, .unset, .unset, .unset, .unset, .unset] []) _
    refine XS.iconst X114.here hx rfl (hb hby at_59) ?_
    show Go p e below T114 (mkF m 60 #[vi p1, vi p2, vi p3, vi p4, vi 1, vi c0, vi c1, vi c2, vr b101, vr b103, vr b108, .unset, .unset, .unset, .unset, .unset] [wi 3]) _
    refine st116 _ ?_
    show Go p e below T116 (mkF m 62 #[vi p1, vi p2, vi p3, vi p4, vi 1, vi c0, vi c1, vi c2, vr b101, vr b103, vr b108, .unset, .unset, .unset, .unset, .unset] [wr b116]) _
    refine XS.dup X116.here hx rfl (hb hby at_62) rfl rfl ?_
    show Go p e below T116 (mkF m 63 #[vi p1, vi p2, vi p3, vi p4, vi 1, vi c0, vi c1, vi c2, vr b101, vr b103, vr b108, .unset, .unset, .unset, .unset, .unset] [wr b116, wr b116]) _
    refine XS.iconst X116.here hx rfl (hb hby at_63) ?_
    show Go p e below T116 (mkF m 64 #[vi p1, vi p2, vi p3, vi p4, vi 1, vi c0, vi c1, vi c2, vr b101, vr b103, vr b108, .unset, .unset, .unset, .unset, .unset] [wi 0, wr b116, wr b116]) _
    refine XS.iload X116.here hx rfl (hb hby at_64) rfl ?_
    show Go p e below T116 (mkF m 66 #[vi p1, vi p2, vi p3, vi p4, vi 1, vi c0, vi c1, vi c2, vr b101, vr b103, vr b108, .unset, .unset, .unset, .unset, .unset] [wi c0, wi 0, wr b116, wr b116]) _
    refine st121 _ ?_
    show Go p e below T121 (mkF m 67 #[vi p1, vi p2, vi p3, vi p4, vi 1, vi c0, vi c1, vi c2, vr b101, vr b103, vr b108, .unset, .unset, .unset, .unset, .unset] [wr b116]) _
    refine XS.dup X121.here hx rfl (hb hby at_67) rfl rfl ?_
    show Go p e below T121 (mkF m 68 #[vi p1, vi p2, vi p3, vi p4, vi 1, vi c0, vi c1, vi c2, vr b101, vr b103, vr b108, .unset, .unset, .unset, .unset, .unset] [wr b116, wr b116]) _
    refine XS.iconst X121.here hx rfl (hb hby at_68) ?_
    show Go p e below T121 (mkF m 69 #[vi p1, vi p2, vi p3, vi p4, vi 1, vi c0, vi c1, vi c2, vr b101, vr b103, vr b108, .unset, .unset, .unset, .unset, .unset] [wi 1, wr b116, wr b116]) _
    refine XS.iload X121.here hx rfl (hb hby at_69) rfl ?_
    show Go p e below T121 (mkF m 71 #[vi p1, vi p2, vi p3, vi p4, vi 1, vi c0, vi c1, vi c2, vr b101, vr b103, vr b108, .unset, .unset, .unset, .unset, .unset] [wi c1, wi 1, wr b116, wr b116]) _
    refine st123 _ ?_
    show Go p e below T123 (mkF m 72 #[vi p1, vi p2, vi p3, vi p4, vi 1, vi c0, vi c1, vi c2, vr b101, vr b103, vr b108, .unset, .unset, .unset, .unset, .unset] [wr b116]) _
    refine XS.dup X123.here hx rfl (hb hby at_72) rfl rfl ?_
    show Go p e below T123 (mkF m 73 #[vi p1, vi p2, vi p3, vi p4, vi 1, vi c0, vi c1, vi c2, vr b101, vr b103, vr b108, .unset, .unset, .unset, .unset, .unset] [wr b116, wr b116]) _
    refine XS.iconst X123.here hx rfl (hb hby at_73) ?_
    show Go p e below T123 (mkF m 74 #[vi p1, vi p2, vi p3, vi p4, vi 1, vi c0, vi c1, vi c2, vr b101, vr b103, vr b108, .unset, .unset, .unset, .unset, .unset] [wi 2, wr b116, wr b116]) _
    refine XS.iload X123.here hx rfl (hb hby at_74) rfl ?_
    show Go p e below T123 (mkF m 76 #[vi p1, vi p2, vi p3, vi p4, vi 1, vi c0, vi c1, vi c2, vr b101, vr b103, vr b108, .unset, .unset, .unset, .unset, .unset] [wi c2, wi 2, wr b116, wr b116]) _
    refine st125 _ ?_
    show Go p e below T125 (mkF m 77 #[vi p1, vi p2, vi p3, vi p4, vi 1, vi c0, vi c1, vi c2, vr b101, vr b103, vr b108, .unset, .unset, .unset, .unset, .unset] [wr b116]) _
    refine XS.astore X125.here hx rfl (hb hby at_77) rfl rfl (l' := #[.val (.int p1), .val (.int p2), .val (.int p3), .val (.int p4), .val (.int (1 : Int32)), .val (.int c0), .val (.int c1), .val (.int c2), .val (.ref b101), .val (.ref b103), .val (.ref b108), .val (.ref b116), .unset, .unset, .unset, .unset]) rfl ?_
    show Go p e below T125 (mkF m 79 #[vi p1, vi p2, vi p3, vi p4, vi 1, vi c0, vi c1, vi c2, vr b101, vr b103, vr b108, vr b116, .unset, .unset, .unset, .unset] []) _
    refine XS.aload X125.here hx rfl (hb hby at_79) rfl rfl ?_
    show Go p e below T125 (mkF m 81 #[vi p1, vi p2, vi p3, vi p4, vi 1, vi c0, vi c1, vi c2, vr b101, vr b103, vr b108, vr b116, .unset, .unset, .unset, .unset] [wr b101]) _
    refine XS.astore X125.here hx rfl (hb hby at_81) rfl rfl (l' := #[.val (.int p1), .val (.int p2), .val (.int p3), .val (.int p4), .val (.int (1 : Int32)), .val (.int c0), .val (.int c1), .val (.int c2), .val (.ref b101), .val (.ref b103), .val (.ref b108), .val (.ref b116), .val (.ref b101), .unset, .unset, .unset]) rfl ?_
    show Go p e below T125 (mkF m 83 #[vi p1, vi p2, vi p3, vi p4, vi 1, vi c0, vi c1, vi c2, vr b101, vr b103, vr b108, vr b116, vr b101, .unset, .unset, .unset] []) _
    refine XS.iload X125.here hx rfl (hb hby at_83) rfl ?_
    show Go p e below T125 (mkF m 85 #[vi p1, vi p2, vi p3, vi p4, vi 1, vi c0, vi c1, vi c2, vr b101, vr b103, vr b108, vr b116, vr b101, .unset, .unset, .unset] [wi 1]) _
    refine XS.iconst X125.here hx rfl (hb hby at_85) ?_
    show Go p e below T125 (mkF m 86 #[vi p1, vi p2, vi p3, vi p4, vi 1, vi c0, vi c1, vi c2, vr b101, vr b103, vr b108, vr b116, vr b101, .unset, .unset, .unset] [wi 1, wi 1]) _
    refine XS.icmpNo X125.here hx rfl (hb hby at_86) rfl (teq (rfl : (1 : Int32) = (1 : Int32))).2 ?_
    show Go p e below T125 (mkF m 89 #[vi p1, vi p2, vi p3, vi p4, vi 1, vi c0, vi c1, vi c2, vr b101, vr b103, vr b108, vr b116, vr b101, .unset, .unset, .unset] []) _
    refine XS.aload X125.here hx rfl (hb hby at_89) rfl rfl ?_
    show Go p e below T125 (mkF m 91 #[vi p1, vi p2, vi p3, vi p4, vi 1, vi c0, vi c1, vi c2, vr b101, vr b103, vr b108, vr b116, vr b101, .unset, .unset, .unset] [wr b103]) _
    refine XS.astore X125.here hx rfl (hb hby at_91) rfl rfl (l' := #[.val (.int p1), .val (.int p2), .val (.int p3), .val (.int p4), .val (.int (1 : Int32)), .val (.int c0), .val (.int c1), .val (.int c2), .val (.ref b101), .val (.ref b103), .val (.ref b108), .val (.ref b116), .val (.ref b103), .unset, .unset, .unset]) rfl ?_
    show Go p e below T125 (mkF m 93 #[vi p1, vi p2, vi p3, vi p4, vi 1, vi c0, vi c1, vi c2, vr b101, vr b103, vr b108, vr b116, vr b103, .unset, .unset, .unset] []) _
    refine XS.goto X125.here hx rfl (pc0 := 93) (pc' := 119) rfl (hb hby at_93) (by decide) (by decide) ?_
    show Go p e below T125 (mkF m 119 #[vi p1, vi p2, vi p3, vi p4, vi 1, vi c0, vi c1, vi c2, vr b101, vr b103, vr b108, vr b116, vr b103, .unset, .unset, .unset] []) _
    refine st127 _ ?_
    show Go p e below T127 (mkF m 122 #[vi p1, vi p2, vi p3, vi p4, vi 1, vi c0, vi c1, vi c2, vr b101, vr b103, vr b108, vr b116, vr b103, .unset, .unset, .unset] [wr b127]) _
    refine XS.dup X127.here hx rfl (hb hby at_122) rfl rfl ?_
    show Go p e below T127 (mkF m 123 #[vi p1, vi p2, vi p3, vi p4, vi 1, vi c0, vi c1, vi c2, vr b101, vr b103, vr b108, vr b116, vr b103, .unset, .unset, .unset] [wr b127, wr b127]) _
    refine XS.aload X127.here hx rfl (hb hby at_123) rfl rfl ?_
    show Go p e below T127 (mkF m 125 #[vi p1, vi p2, vi p3, vi p4, vi 1, vi c0, vi c1, vi c2, vr b101, vr b103, vr b108, vr b116, vr b103, .unset, .unset, .unset] [wr b103, wr b127, wr b127]) _
    refine st135.trans ?_
    show Go p e below T135 (mkF m 128 #[vi p1, vi p2, vi p3, vi p4, vi 1, vi c0, vi c1, vi c2, vr b101, vr b103, vr b108, vr b116, vr b103, .unset, .unset, .unset] [wr b127]) _
    refine XS.astore X135.here hx rfl (hb hby at_128) rfl rfl (l' := #[.val (.int p1), .val (.int p2), .val (.int p3), .val (.int p4), .val (.int (1 : Int32)), .val (.int c0), .val (.int c1), .val (.int c2), .val (.ref b101), .val (.ref b103), .val (.ref b108), .val (.ref b116), .val (.ref b103), .val (.ref b127), .unset, .unset]) rfl ?_
    show Go p e below T135 (mkF m 130 #[vi p1, vi p2, vi p3, vi p4, vi 1, vi c0, vi c1, vi c2, vr b101, vr b103, vr b108, vr b116, vr b103, vr b127, .unset, .unset] []) _
    refine XS.aload X135.here hx rfl (hb hby at_130) rfl rfl ?_
    show Go p e below T135 (mkF m 132 #[vi p1, vi p2, vi p3, vi p4, vi 1, vi c0, vi c1, vi c2, vr b101, vr b103, vr b108, vr b116, vr b103, vr b127, .unset, .unset] [wr b127]) _
    refine st141.trans ?_
    show Go p e below T141 (mkF m 135 #[vi p1, vi p2, vi p3, vi p4, vi 1, vi c0, vi c1, vi c2, vr b101, vr b103, vr b108, vr b116, vr b103, vr b127, .unset, .unset] [wr ur141]) _
    refine XS.astore X141r.here hx rfl (hb hby at_135) rfl rfl (l' := #[.val (.int p1), .val (.int p2), .val (.int p3), .val (.int p4), .val (.int (1 : Int32)), .val (.int c0), .val (.int c1), .val (.int c2), .val (.ref b101), .val (.ref b103), .val (.ref b108), .val (.ref b116), .val (.ref b103), .val (.ref b127), .val (.ref ur141), .unset]) rfl ?_
    show Go p e below T141 (mkF m 137 #[vi p1, vi p2, vi p3, vi p4, vi 1, vi c0, vi c1, vi c2, vr b101, vr b103, vr b108, vr b116, vr b103, vr b127, vr ur141, .unset] []) _
    refine XS.aload X141r.here hx rfl (hb hby at_137) rfl rfl ?_
    show Go p e below T141 (mkF m 139 #[vi p1, vi p2, vi p3, vi p4, vi 1, vi c0, vi c1, vi c2, vr b101, vr b103, vr b108, vr b116, vr b103, vr b127, vr ur141, .unset] [wr ur141]) _
    refine XS.ifnonnullYes X141r.here hx rfl (pc0 := 139) (pc' := 144) rfl (hb hby at_139) rfl (by decide) (by decide) ?_
    show Go p e below T141 (mkF m 144 #[vi p1, vi p2, vi p3, vi p4, vi 1, vi c0, vi c1, vi c2, vr b101, vr b103, vr b108, vr b116, vr b103, vr b127, vr ur141, .unset] []) _
    refine XS.aload X141r.here hx rfl (hb hby at_144) rfl rfl ?_
    show Go p e below T141 (mkF m 146 #[vi p1, vi p2, vi p3, vi p4, vi 1, vi c0, vi c1, vi c2, vr b101, vr b103, vr b108, vr b116, vr b103, vr b127, vr ur141, .unset] [wr ur141]) _
    refine st150.trans ?_
    show Go p e below T150 (mkF m 149 #[vi p1, vi p2, vi p3, vi p4, vi 1, vi c0, vi c1, vi c2, vr b101, vr b103, vr b108, vr b116, vr b103, vr b127, vr ur141, .unset] [wr ux141]) _
    refine XS.astore X150.here hx rfl (hb hby at_149) rfl rfl (l' := #[.val (.int p1), .val (.int p2), .val (.int p3), .val (.int p4), .val (.int (1 : Int32)), .val (.int c0), .val (.int c1), .val (.int c2), .val (.ref b101), .val (.ref b103), .val (.ref b108), .val (.ref b116), .val (.ref b103), .val (.ref b127), .val (.ref ur141), .val (.ref ux141)]) rfl ?_
    show Go p e below T150 (mkF m 151 #[vi p1, vi p2, vi p3, vi p4, vi 1, vi c0, vi c1, vi c2, vr b101, vr b103, vr b108, vr b116, vr b103, vr b127, vr ur141, vr ux141] []) _
    refine XS.aload X150.here hx rfl (hb hby at_151) rfl rfl ?_
    show Go p e below T150 (mkF m 153 #[vi p1, vi p2, vi p3, vi p4, vi 1, vi c0, vi c1, vi c2, vr b101, vr b103, vr b108, vr b116, vr b103, vr b127, vr ur141, vr ux141] [wr ux141]) _
    refine XS.ifnonnullYes X150.here hx rfl (pc0 := 153) (pc' := 158) rfl (hb hby at_153) rfl (by decide) (by decide) ?_
    show Go p e below T150 (mkF m 158 #[vi p1, vi p2, vi p3, vi p4, vi 1, vi c0, vi c1, vi c2, vr b101, vr b103, vr b108, vr b116, vr b103, vr b127, vr ur141, vr ux141] []) _
    refine XS.aload X150.here hx rfl (hb hby at_158) rfl rfl ?_
    show Go p e below T150 (mkF m 160 #[vi p1, vi p2, vi p3, vi p4, vi 1, vi c0, vi c1, vi c2, vr b101, vr b103, vr b108, vr b116, vr b103, vr b127, vr ur141, vr ux141] [wr ux141]) _
    refine st151.trans ?_
    show Go p e below T151 (mkF m 163 #[vi p1, vi p2, vi p3, vi p4, vi 1, vi c0, vi c1, vi c2, vr b101, vr b103, vr b108, vr b116, vr b103, vr b127, vr ur141, vr ux141] [wi 22]) _
    refine XS.iload X151.here hx rfl (hb hby at_163) rfl ?_
    show Go p e below T151 (mkF m 165 #[vi p1, vi p2, vi p3, vi p4, vi 1, vi c0, vi c1, vi c2, vr b101, vr b103, vr b108, vr b116, vr b103, vr b127, vr ur141, vr ux141] [wi 1, wi 22]) _
    refine XS.bipush X151.here hx rfl (hb hby at_165) ?_
    show Go p e below T151 (mkF m 167 #[vi p1, vi p2, vi p3, vi p4, vi 1, vi c0, vi c1, vi c2, vr b101, vr b103, vr b108, vr b116, vr b103, vr b127, vr ur141, vr ux141] [wi 21, wi 1, wi 22]) _
    refine XS.iadd X151.here hx rfl (hb hby at_167) rfl ?_
    show Go p e below T151 (mkF m 168 #[vi p1, vi p2, vi p3, vi p4, vi 1, vi c0, vi c1, vi c2, vr b101, vr b103, vr b108, vr b116, vr b103, vr b127, vr ur141, vr ux141] [wi 22, wi 22]) _
    refine XS.icmpYes X151.here hx rfl (pc0 := 168) (pc' := 173) rfl (hb hby at_168) rfl (teq (rfl : (22 : Int32) = (22 : Int32))).1 (by decide) (by decide) ?_
    show Go p e below T151 (mkF m 173 #[vi p1, vi p2, vi p3, vi p4, vi 1, vi c0, vi c1, vi c2, vr b101, vr b103, vr b108, vr b116, vr b103, vr b127, vr ur141, vr ux141] []) _
    refine XS.iload X151.here hx rfl (hb hby at_173) rfl ?_
    show Go p e below T151 (mkF m 175 #[vi p1, vi p2, vi p3, vi p4, vi 1, vi c0, vi c1, vi c2, vr b101, vr b103, vr b108, vr b116, vr b103, vr b127, vr ur141, vr ux141] [wi 1]) _
    refine XS.iconst X151.here hx rfl (hb hby at_175) ?_
    show Go p e below T151 (mkF m 176 #[vi p1, vi p2, vi p3, vi p4, vi 1, vi c0, vi c1, vi c2, vr b101, vr b103, vr b108, vr b116, vr b103, vr b127, vr ur141, vr ux141] [wi 1, wi 1]) _
    refine XS.icmpNo X151.here hx rfl (hb hby at_176) rfl (flt (by decide : ¬ ((1 : Int32) < (1 : Int32)))).1 ?_
    show Go p e below T151 (mkF m 179 #[vi p1, vi p2, vi p3, vi p4, vi 1, vi c0, vi c1, vi c2, vr b101, vr b103, vr b108, vr b116, vr b103, vr b127, vr ur141, vr ux141] []) _
    refine XS.aload X151.here hx rfl (hb hby at_179) rfl rfl ?_
    show Go p e below T151 (mkF m 181 #[vi p1, vi p2, vi p3, vi p4, vi 1, vi c0, vi c1, vi c2, vr b101, vr b103, vr b108, vr b116, vr b103, vr b127, vr ur141, vr ux141] [wr ux141]) _
    refine XS.iconst X151.here hx rfl (hb hby at_181) ?_
    show Go p e below T151 (mkF m 182 #[vi p1, vi p2, vi p3, vi p4, vi 1, vi c0, vi c1, vi c2, vr b101, vr b103, vr b108, vr b116, vr b103, vr b127, vr ur141, vr ux141] [wi 0, wr ux141]) _
    refine st152.trans ?_
    show Go p e below T152 (mkF m 185 #[vi p1, vi p2, vi p3, vi p4, vi 1, vi c0, vi c1, vi c2, vr b101, vr b103, vr b108, vr b116, vr b103, vr b127, vr ur141, vr ux141] [wi (nar .char c0)]) _
    refine XS.iload X152.here hx rfl (hb hby at_185) rfl ?_
    show Go p e below T152 (mkF m 187 #[vi p1, vi p2, vi p3, vi p4, vi 1, vi c0, vi c1, vi c2, vr b101, vr b103, vr b108, vr b116, vr b103, vr b127, vr ur141, vr ux141] [wi c0, wi (nar .char c0)]) _
    refine XS.icmpYes X152.here hx rfl (pc0 := 187) (pc' := 192) rfl (hb hby at_187) rfl (teq hc187).1 (by decide) (by decide) ?_
    show Go p e below T152 (mkF m 192 #[vi p1, vi p2, vi p3, vi p4, vi 1, vi c0, vi c1, vi c2, vr b101, vr b103, vr b108, vr b116, vr b103, vr b127, vr ur141, vr ux141] []) _
    refine XS.iload X152.here hx rfl (hb hby at_192) rfl ?_
    show Go p e below T152 (mkF m 194 #[vi p1, vi p2, vi p3, vi p4, vi 1, vi c0, vi c1, vi c2, vr b101, vr b103, vr b108, vr b116, vr b103, vr b127, vr ur141, vr ux141] [wi 1]) _
    refine XS.iconst X152.here hx rfl (hb hby at_194) ?_
    show Go p e below T152 (mkF m 195 #[vi p1, vi p2, vi p3, vi p4, vi 1, vi c0, vi c1, vi c2, vr b101, vr b103, vr b108, vr b116, vr b103, vr b127, vr ur141, vr ux141] [wi 2, wi 1]) _
    refine XS.icmpYes X152.here hx rfl (pc0 := 195) (pc' := 211) rfl (hb hby at_195) rfl (tlt (by decide : (1 : Int32) < (2 : Int32))).1 (by decide) (by decide) ?_
    show Go p e below T152 (mkF m 211 #[vi p1, vi p2, vi p3, vi p4, vi 1, vi c0, vi c1, vi c2, vr b101, vr b103, vr b108, vr b116, vr b103, vr b127, vr ur141, vr ux141] []) _
    refine XS.iload X152.here hx rfl (hb hby at_211) rfl ?_
    show Go p e below T152 (mkF m 213 #[vi p1, vi p2, vi p3, vi p4, vi 1, vi c0, vi c1, vi c2, vr b101, vr b103, vr b108, vr b116, vr b103, vr b127, vr ur141, vr ux141] [wi 1]) _
    refine XS.iconst X152.here hx rfl (hb hby at_213) ?_
    show Go p e below T152 (mkF m 214 #[vi p1, vi p2, vi p3, vi p4, vi 1, vi c0, vi c1, vi c2, vr b101, vr b103, vr b108, vr b116, vr b103, vr b127, vr ur141, vr ux141] [wi 3, wi 1]) _
    refine XS.icmpYes X152.here hx rfl (pc0 := 214) (pc' := 230) rfl (hb hby at_214) rfl (tlt (by decide : (1 : Int32) < (3 : Int32))).1 (by decide) (by decide) ?_
    show Go p e below T152 (mkF m 230 #[vi p1, vi p2, vi p3, vi p4, vi 1, vi c0, vi c1, vi c2, vr b101, vr b103, vr b108, vr b116, vr b103, vr b127, vr ur141, vr ux141] []) _
    refine XS.aload X152.here hx rfl (hb hby at_230) rfl rfl ?_
    show Go p e below T152 (mkF m 232 #[vi p1, vi p2, vi p3, vi p4, vi 1, vi c0, vi c1, vi c2, vr b101, vr b103, vr b108, vr b116, vr b103, vr b127, vr ur141, vr ux141] [wr ux141]) _
    refine XS.iload X152.here hx rfl (hb hby at_232) rfl ?_
    show Go p e below T152 (mkF m 234 #[vi p1, vi p2, vi p3, vi p4, vi 1, vi c0, vi c1, vi c2, vr b101, vr b103, vr b108, vr b116, vr b103, vr b127, vr ur141, vr ux141] [wi 1, wr ux141]) _
    refine st153 _ ?_
    show Go p e below T153 (mkF m 237 #[vi p1, vi p2, vi p3, vi p4, vi 1, vi c0, vi c1, vi c2, vr b101, vr b103, vr b108, vr b116, vr b103, vr b127, vr ur141, vr ux141] [wi 1]) _
    exact retN X153 hx (t := .boolean) Bd.returns (by simp) (hb hby at_237) hr
  · show Q0 h0 n0 _ T153.heap _
    rw [eq153]
    exact ⟨rfl, N153⟩
set_option maxRecDepth 65536 in
set_option maxHeartbeats 40000000 in
theorem rm0_2 (l : Launch) (Z : State) (a0 : Array Value) (hw : ∀ d ∈ tables_1, d.before a0 Z = true) (ws : List Jvm.Cond) (p1 : Int32) (p2 : Int32) (p3 : Int32) (p4 : Int32) (fm : Value) (G1 : Int32) (h0 : Heap) (n0 : Nat) (X00 : Old Z n0 h0) (hl : l.stackTraces = true) (hr2 : ∀ d ∈ twoRefs, d.before a0 Z = true) (O2 : Sta Z Z.heap "java/lang/String" "COMPACT_STRINGS" "Z" (.int G1)) (P5 : ¬ (G1 = (0 : Int32))) (FM : Sta Z Z.heap "jdk/internal/util/Preconditions" "SIOOBE_FORMATTER" "Ljava/util/function/BiFunction;" fm) (rf : fm.isRef = true) (hk_ : (p1 &&& (3 : Int32)) = (2 : Int32)) :
    MetFree l x (head1 (Jvm.Cond.code x code maxLocals ret :: ws) room_1) (fun a U => a = #[(.int p1), (.int p2), (.int p3), (.int p4)] ∧ Z.Warmed39 U.vm ∧ U.heap = h0 ∧ CHv Z consts_1 U.vm h0) (fun _ _ bl s _ => s.vm.MethodsKnown ∧ s.vm.FramesKnown bl) (fun _ U o U' => ∃ rv rL, o = .returned rv ∧ Q0 h0 n0 rv U'.heap rL ∧ ReturnedEndW U o U' rL room_1.cells room_1.slots) := by
  refine MetFree.of_bodySF (plainFor_of_name pn_0) hisR ?_
  intro p e s m args below meth c s₁ Bd hml0 hP hK
  obtain ⟨rfl, hZ, hh, hCH⟩ := hP
  have hx := Bd.exec
  have hby := Bd.bytes
  have hml : c.maxLocals = 16 := hml0
  have hown : s.vm.findClass "com/example/queryloom/queryloom/translation/TranslationExceptionUnsupportedPinLaw" = some m.cls := findClass_of_methodNamed Bd.named
  have hnm := (name_of_methodNamed Bd.named Bd.method).1
  have X0 : Stand p l e room_1 (s.setVm s.vm) m #[(.int p1), (.int p2), (.int p3), (.int p4)] below meth c s₁ [] 0 0 := Stand.of_body Bd
  have e0 : s₁.heap = h0 := by rw [← hh, Bd.state]; rfl
  have N0 := Fr.nil n0
  have hS0 : s.Since s.vm s.heap.size := own_since s
  have hk0 : s.heap.size ≤ h0.size := by rw [hh]; exact Nat.le_refl _
  have hstr := own_str hw
  have hEL := own_EL hw
  have pre0 : ∀ t, Steps p.tables e below (s₁.setTop (mkF m 0 #[.val (.int p1), .val (.int p2), .val (.int p3), .val (.int p4), .unset, .unset, .unset, .unset, .unset, .unset, .unset, .unset, .unset, .unset, .unset, .unset] [])) t → Steps p.tables e below (s₁.setTop (entryFrame m #[(.int p1), (.int p2), (.int p3), (.int p4)] maxLocals)) t := fun t k => castTop (ef_0 m p1 p2 p3 p4) k
  obtain ⟨c0, hc0⟩ : ∃ c : Int32, c = ((p2 &&& (255 : Int32)).toUInt32.toUInt16.toUInt32.toInt32) := ⟨_, rfl⟩
  obtain ⟨c1, hc1⟩ : ∃ c : Int32, c = ((p3 &&& (255 : Int32)).toUInt32.toUInt16.toUInt32.toInt32) := ⟨_, rfl⟩
  obtain ⟨c2, hc2⟩ : ∃ c : Int32, c = ((p4 &&& (255 : Int32)).toUInt32.toUInt16.toUInt32.toInt32) := ⟨_, rfl⟩
  have hb0 : ¬ nar .char c0 < 0 ∧ ¬ (255 : Int32) < nar .char c0 := by rw [hc0]; exact own_and255 _
  have he0 : nar .char c0 = c0 := by rw [hc0]; exact own_narc _
  have hb1 : ¬ nar .char c1 < 0 ∧ ¬ (255 : Int32) < nar .char c1 := by rw [hc1]; exact own_and255 _
  have he1 : nar .char c1 = c1 := by rw [hc1]; exact own_narc _
  have hwc : ∀ d ∈ StrChars.Road.wordsChN, d.before a0 Z = true := fun d hd => hw d ((by decide +kernel : ∀ d ∈ StrChars.Road.wordsChN, d ∈ tables_1) d hd)
  have hcs : ∀ c ∈ (((nar .char c0) :: (nar .char c1) :: ci_3) : List Int32), ¬ c < 0 ∧ ¬ (255 : Int32) < c := (own_alli hb0 (own_alli hb1 own_lit))
  have hws : ∀ d ∈ StrChars.Road.words, d.before a0 Z = true := fun d hd => hw d ((by decide +kernel : ∀ d ∈ StrChars.Road.words, d ∈ tables_1) d hd)
  have hpc : ∀ c ∈ ([(nar .char c0), (nar .char c1)] : List Int32), ¬ c < 0 ∧ ¬ (255 : Int32) < c := (own_alli hb0 (own_alli hb1 (fun _ q => absurd q List.not_mem_nil)))
  obtain ⟨T101, h101, k101, X101, e101, E101, A101, st101⟩ := newP X0 hx hZ (tw hw 0 rfl) e0 (g := (mkF m 30 #[vi p1, vi p2, vi p3, vi p4, vi 2, vi c0, vi c1, vi c2, .unset, .unset, .unset, .unset, .unset, .unset, .unset, .unset] [wi 0])) rfl (hb hby at_30) rfl (by decide) (cap := 0) (by decide) (by decide) (by decide) (by decide)
  obtain ⟨b101, g101⟩ : ∃ z, z = h0.size := ⟨_, rfl⟩
  rw [← g101] at A101 st101
  have g_b101 : n0 ≤ b101 := Nat.le_trans (own_le X00) (Nat.le_of_eq g101.symm)
  have sn101 : Safe Z consts_1 s.vm h0 b101 := Safe.new (Nat.le_of_eq g101.symm)
  have V101 : Arv Z h101 b101 k101 .char (0 : Int32) [] (.int (0 : Int32)) := Arv.new A101 (by decide)
  have sf102_b101 := Safe.ext E101 hCH sn101
  have cr102 := (CHr.refl hCH).trans (CHr.ext E101 hCH)
  have ch102 := CHv.ext E101 hCH
  have lz103_b101 := V101.lt
  obtain ⟨T103, h103, k103, X103, e103, E103, A103, st103⟩ := newP X101 hx hZ (tw hw 0 rfl) e101 (g := (mkF m 35 #[vi p1, vi p2, vi p3, vi p4, vi 2, vi c0, vi c1, vi c2, vr b101, .unset, .unset, .unset, .unset, .unset, .unset, .unset] [wi 1])) rfl (hb hby at_35) rfl (by decide) (cap := 1) (by decide) (by decide) (by decide) (by decide)
  obtain ⟨b103, g103⟩ : ∃ z, z = h101.size := ⟨_, rfl⟩
  rw [← g103] at A103 st103
  have y104 := (X00.ext E101)
  have g_b103 : n0 ≤ b103 := Nat.le_trans (own_le y104) (Nat.le_of_eq g103.symm)
  have lt_b101_b103 : b101 < b103 := Nat.lt_of_lt_of_le lz103_b101 (Nat.le_of_eq g103.symm)
  have sn103 : Safe Z consts_1 s.vm h101 b103 := Safe.new (Nat.le_of_eq g103.symm)
  have V103 : Arv Z h103 b103 k103 .char (1 : Int32) [(.int (0 : Int32))] (.int (0 : Int32)) := (Arv.new A103 (by decide)).pad (pad_rep [] (.int (0 : Int32)) 1)
  have sf105_b101 := Safe.ext E103 ch102 sf102_b101
  have sf105_b103 := Safe.ext E103 ch102 sn103
  have cr105 := cr102.trans (CHr.ext E103 ch102)
  have ch105 := CHv.ext E103 ch102
  obtain ⟨cl106, Ar106, q106, S106, M106, H106, G106⟩ := id V103
  obtain ⟨T106, h106, X106, e106, W106, st106⟩ := stC X103 hx hZ e103 Ar106 (j := (0 : Int32)) (inb_of S106 ⟨by decide, by decide⟩) (g := (mkF m 41 #[vi p1, vi p2, vi p3, vi p4, vi 2, vi c0, vi c1, vi c2, vr b101, .unset, .unset, .unset, .unset, .unset, .unset, .unset] [wi c0, wi 0, wr b103, wr b103])) rfl rfl (hb hby at_41)
  have V106 : Arv Z h106 b103 k103 .char (1 : Int32) [(.int (nar .char c0))] (.int (0 : Int32)) := Arv.set Ar106 q106 S106 M106 H106 G106 (fits_nar_char _) W106 0 rfl (Nat.le_of_ble_eq_true rfl)
  have sf107_b101 := Safe.wr W106 sf105_b103 ch105 sf105_b101
  have sf107_b103 := Safe.wr W106 sf105_b103 ch105 sf105_b103
  have cr107 := cr105.trans (CHr.wr W106 sf105_b103 ch105)
  have ch107 := CHv.wr W106 sf105_b103 ch105
  have N106 := Fr.snoc X106 N0 g_b103
  have y109 := ((V101.ext E103).other W106 (Nat.ne_of_lt lt_b101_b103))
  have lz108_b101 := y109.lt
  have lz108_b103 := V106.lt
  obtain ⟨T108, h108, k108, X108, e108, E108, A108, st108⟩ := newP X106 hx hZ (tw hw 0 rfl) e106 (g := (mkF m 45 #[vi p1, vi p2, vi p3, vi p4, vi 2, vi c0, vi c1, vi c2, vr b101, vr b103, .unset, .unset, .unset, .unset, .unset, .unset] [wi 2])) rfl (hb hby at_45) rfl (by decide) (cap := 2) (by decide) (by decide) (by decide) (by decide)
  obtain ⟨b108, g108⟩ : ∃ z, z = h106.size := ⟨_, rfl⟩
  rw [← g108] at A108 st108
  have y110 := ((y104.ext E103).wr W106 g_b103)
  have g_b108 : n0 ≤ b108 := Nat.le_trans (own_le y110) (Nat.le_of_eq g108.symm)
  have lt_b101_b108 : b101 < b108 := Nat.lt_of_lt_of_le lz108_b101 (Nat.le_of_eq g108.symm)
  have lt_b103_b108 : b103 < b108 := Nat.lt_of_lt_of_le lz108_b103 (Nat.le_of_eq g108.symm)
  have sn108 : Safe Z consts_1 s.vm h106 b108 := Safe.new (Nat.le_of_eq g108.symm)
  have V108 : Arv Z h108 b108 k108 .char (2 : Int32) [(.int (0 : Int32)), (.int (0 : Int32))] (.int (0 : Int32)) := (Arv.new A108 (by decide)).pad (pad_rep [] (.int (0 : Int32)) 2)
  have sf111_b101 := Safe.ext E108 ch107 sf107_b101
  have sf111_b103 := Safe.ext E108 ch107 sf107_b103
  have sf111_b108 := Safe.ext E108 ch107 sn108
  have cr111 := cr107.trans (CHr.ext E108 ch107)
  have ch111 := CHv.ext E108 ch107
  obtain ⟨cl112, Ar112, q112, S112, M112, H112, G112⟩ := id V108
  obtain ⟨T112, h112, X112, e112, W112, st112⟩ := stC X108 hx hZ e108 Ar112 (j := (0 : Int32)) (inb_of S112 ⟨by decide, by decide⟩) (g := (mkF m 51 #[vi p1, vi p2, vi p3, vi p4, vi 2, vi c0, vi c1, vi c2, vr b101, vr b103, .unset, .unset, .unset, .unset, .unset, .unset] [wi c0, wi 0, wr b108, wr b108])) rfl rfl (hb hby at_51)
  have V112 : Arv Z h112 b108 k108 .char (2 : Int32) [(.int (nar .char c0)), (.int (0 : Int32))] (.int (0 : Int32)) := Arv.set Ar112 q112 S112 M112 H112 G112 (fits_nar_char _) W112 0 rfl (Nat.le_of_ble_eq_true rfl)
  have sf113_b101 := Safe.wr W112 sf111_b108 ch111 sf111_b101
  have sf113_b103 := Safe.wr W112 sf111_b108 ch111 sf111_b103
  have sf113_b108 := Safe.wr W112 sf111_b108 ch111 sf111_b108
  have cr113 := cr111.trans (CHr.wr W112 sf111_b108 ch111)
  have ch113 := CHv.wr W112 sf111_b108 ch111
  have N112 := Fr.snoc X112 N106 g_b108
  obtain ⟨cl114, Ar114, q114, S114, M114, H114, G114⟩ := id V112
  obtain ⟨T114, h114, X114, e114, W114, st114⟩ := stC X112 hx hZ e112 Ar114 (j := (1 : Int32)) (inb_of S114 ⟨by decide, by decide⟩) (g := (mkF m 56 #[vi p1, vi p2, vi p3, vi p4, vi 2, vi c0, vi c1, vi c2, vr b101, vr b103, .unset, .unset, .unset, .unset, .unset, .unset] [wi c1, wi 1, wr b108, wr b108])) rfl rfl (hb hby at_56)
  have V114 : Arv Z h114 b108 k108 .char (2 : Int32) [(.int (nar .char c0)), (.int (nar .char c1))] (.int (0 : Int32)) := Arv.set Ar114 q114 S114 M114 H114 G114 (fits_nar_char _) W114 1 rfl (Nat.le_of_ble_eq_true rfl)
  have sf115_b101 := Safe.wr W114 sf113_b108 ch113 sf113_b101
  have sf115_b103 := Safe.wr W114 sf113_b108 ch113 sf113_b103
  have sf115_b108 := Safe.wr W114 sf113_b108 ch113 sf113_b108
  have cr115 := cr113.trans (CHr.wr W114 sf113_b108 ch113)
  have ch115 := CHv.wr W114 sf113_b108 ch113
  have N114 := Fr.snoc X114 N112 g_b108
  have y117 := (((y109.ext E108).other W112 (Nat.ne_of_lt lt_b101_b108)).other W114 (Nat.ne_of_lt lt_b101_b108))
  have lz116_b101 := y117.lt
  have y118 := (((V106.ext E108).other W112 (Nat.ne_of_lt lt_b103_b108)).other W114 (Nat.ne_of_lt lt_b103_b108))
  have lz116_b103 := y118.lt
  have lz116_b108 := V114.lt
  obtain ⟨T116, h116, k116, X116, e116, E116, A116, st116⟩ := newP X114 hx hZ (tw hw 0 rfl) e114 (g := (mkF m 60 #[vi p1, vi p2, vi p3, vi p4, vi 2, vi c0, vi c1, vi c2, vr b101, vr b103, vr b108, .unset, .unset, .unset, .unset, .unset] [wi 3])) rfl (hb hby at_60) rfl (by decide) (cap := 3) (by decide) (by decide) (by decide) (by decide)
  obtain ⟨b116, g116⟩ : ∃ z, z = h114.size := ⟨_, rfl⟩
  rw [← g116] at A116 st116
  have y119 := (((y110.ext E108).wr W112 g_b108).wr W114 g_b108)
  have g_b116 : n0 ≤ b116 := Nat.le_trans (own_le y119) (Nat.le_of_eq g116.symm)
  have lt_b101_b116 : b101 < b116 := Nat.lt_of_lt_of_le lz116_b101 (Nat.le_of_eq g116.symm)
  have lt_b103_b116 : b103 < b116 := Nat.lt_of_lt_of_le lz116_b103 (Nat.le_of_eq g116.symm)
  have lt_b108_b116 : b108 < b116 := Nat.lt_of_lt_of_le lz116_b108 (Nat.le_of_eq g116.symm)
  have sn116 : Safe Z consts_1 s.vm h114 b116 := Safe.new (Nat.le_of_eq g116.symm)
  have V116 : Arv Z h116 b116 k116 .char (3 : Int32) [(.int (0 : Int32)), (.int (0 : Int32)), (.int (0 : Int32))] (.int (0 : Int32)) := (Arv.new A116 (by decide)).pad (pad_rep [] (.int (0 : Int32)) 3)
  have sf120_b101 := Safe.ext E116 ch115 sf115_b101
  have sf120_b103 := Safe.ext E116 ch115 sf115_b103
  have sf120_b108 := Safe.ext E116 ch115 sf115_b108
  have sf120_b116 := Safe.ext E116 ch115 sn116
  have cr120 := cr115.trans (CHr.ext E116 ch115)
  have ch120 := CHv.ext E116 ch115
  obtain ⟨cl121, Ar121, q121, S121, M121, H121, G121⟩ := id V116
  obtain ⟨T121, h121, X121, e121, W121, st121⟩ := stC X116 hx hZ e116 Ar121 (j := (0 : Int32)) (inb_of S121 ⟨by decide, by decide⟩) (g := (mkF m 66 #[vi p1, vi p2, vi p3, vi p4, vi 2, vi c0, vi c1, vi c2, vr b101, vr b103, vr b108, .unset, .unset, .unset, .unset, .unset] [wi c0, wi 0, wr b116, wr b116])) rfl rfl (hb hby at_66)
  have V121 : Arv Z h121 b116 k116 .char (3 : Int32) [(.int (nar .char c0)), (.int (0 : Int32)), (.int (0 : Int32))] (.int (0 : Int32)) := Arv.set Ar121 q121 S121 M121 H121 G121 (fits_nar_char _) W121 0 rfl (Nat.le_of_ble_eq_true rfl)
  have sf122_b101 := Safe.wr W121 sf120_b116 ch120 sf120_b101
  have sf122_b103 := Safe.wr W121 sf120_b116 ch120 sf120_b103
  have sf122_b108 := Safe.wr W121 sf120_b116 ch120 sf120_b108
  have sf122_b116 := Safe.wr W121 sf120_b116 ch120 sf120_b116
  have cr122 := cr120.trans (CHr.wr W121 sf120_b116 ch120)
  have ch122 := CHv.wr W121 sf120_b116 ch120
  have N121 := Fr.snoc X121 N114 g_b116
  obtain ⟨cl123, Ar123, q123, S123, M123, H123, G123⟩ := id V121
  obtain ⟨T123, h123, X123, e123, W123, st123⟩ := stC X121 hx hZ e121 Ar123 (j := (1 : Int32)) (inb_of S123 ⟨by decide, by decide⟩) (g := (mkF m 71 #[vi p1, vi p2, vi p3, vi p4, vi 2, vi c0, vi c1, vi c2, vr b101, vr b103, vr b108, .unset, .unset, .unset, .unset, .unset] [wi c1, wi 1, wr b116, wr b116])) rfl rfl (hb hby at_71)
  have V123 : Arv Z h123 b116 k116 .char (3 : Int32) [(.int (nar .char c0)), (.int (nar .char c1)), (.int (0 : Int32))] (.int (0 : Int32)) := Arv.set Ar123 q123 S123 M123 H123 G123 (fits_nar_char _) W123 1 rfl (Nat.le_of_ble_eq_true rfl)
  have sf124_b101 := Safe.wr W123 sf122_b116 ch122 sf122_b101
  have sf124_b103 := Safe.wr W123 sf122_b116 ch122 sf122_b103
  have sf124_b108 := Safe.wr W123 sf122_b116 ch122 sf122_b108
  have sf124_b116 := Safe.wr W123 sf122_b116 ch122 sf122_b116
  have cr124 := cr122.trans (CHr.wr W123 sf122_b116 ch122)
  have ch124 := CHv.wr W123 sf122_b116 ch122
  have N123 := Fr.snoc X123 N121 g_b116
  obtain ⟨cl125, Ar125, q125, S125, M125, H125, G125⟩ := id V123
  obtain ⟨T125, h125, X125, e125, W125, st125⟩ := stC X123 hx hZ e123 Ar125 (j := (2 : Int32)) (inb_of S125 ⟨by decide, by decide⟩) (g := (mkF m 76 #[vi p1, vi p2, vi p3, vi p4, vi 2, vi c0, vi c1, vi c2, vr b101, vr b103, vr b108, .unset, .unset, .unset, .unset, .unset] [wi c2, wi 2, wr b116, wr b116])) rfl rfl (hb hby at_76)
  have V125 : Arv Z h125 b116 k116 .char (3 : Int32) [(.int (nar .char c0)), (.int (nar .char c1)), (.int (nar .char c2))] (.int (0 : Int32)) := Arv.set Ar125 q125 S125 M125 H125 G125 (fits_nar_char _) W125 2 rfl (Nat.le_of_ble_eq_true rfl)
  have sf126_b101 := Safe.wr W125 sf124_b116 ch124 sf124_b101
  have sf126_b103 := Safe.wr W125 sf124_b116 ch124 sf124_b103
  have sf126_b108 := Safe.wr W125 sf124_b116 ch124 sf124_b108
  have sf126_b116 := Safe.wr W125 sf124_b116 ch124 sf124_b116
  have cr126 := cr124.trans (CHr.wr W125 sf124_b116 ch124)
  have ch126 := CHv.wr W125 sf124_b116 ch124
  have N125 := Fr.snoc X125 N123 g_b116
  have y128 := ((((y117.ext E116).other W121 (Nat.ne_of_lt lt_b101_b116)).other W123 (Nat.ne_of_lt lt_b101_b116)).other W125 (Nat.ne_of_lt lt_b101_b116))
  have lz127_b101 := y128.lt
  have y129 := ((((y118.ext E116).other W121 (Nat.ne_of_lt lt_b103_b116)).other W123 (Nat.ne_of_lt lt_b103_b116)).other W125 (Nat.ne_of_lt lt_b103_b116))
  have lz127_b103 := y129.lt
  have y130 := ((((V114.ext E116).other W121 (Nat.ne_of_lt lt_b108_b116)).other W123 (Nat.ne_of_lt lt_b108_b116)).other W125 (Nat.ne_of_lt lt_b108_b116))
  have lz127_b108 := y130.lt
  have lz127_b116 := V125.lt
  obtain ⟨T127, h127, X127, e127, E127, A127, D127, U127, st127⟩ := newO X125 hx hZ hown (tw hw 1 rfl) (tw hw 2 rfl) (tw hw 3 rfl) e125 (g := (mkF m 119 #[vi p1, vi p2, vi p3, vi p4, vi 2, vi c0, vi c1, vi c2, vr b101, vr b103, vr b108, vr b116, vr b108, .unset, .unset, .unset] [])) rfl (hb hby at_119) (by decide) (by decide)
  obtain ⟨b127, g127⟩ : ∃ z, z = h125.size := ⟨_, rfl⟩
  rw [← g127] at A127 D127 U127 st127
  have y131 := ((((y119.ext E116).wr W121 g_b116).wr W123 g_b116).wr W125 g_b116)
  have g_b127 : n0 ≤ b127 := Nat.le_trans (own_le y131) (Nat.le_of_eq g127.symm)
  have lt_b101_b127 : b101 < b127 := Nat.lt_of_lt_of_le lz127_b101 (Nat.le_of_eq g127.symm)
  have lt_b103_b127 : b103 < b127 := Nat.lt_of_lt_of_le lz127_b103 (Nat.le_of_eq g127.symm)
  have lt_b108_b127 : b108 < b127 := Nat.lt_of_lt_of_le lz127_b108 (Nat.le_of_eq g127.symm)
  have lt_b116_b127 : b116 < b127 := Nat.lt_of_lt_of_le lz127_b116 (Nat.le_of_eq g127.symm)
  have sn127 : Safe Z consts_1 s.vm h125 b127 := Safe.new (Nat.le_of_eq g127.symm)
  have sf132_b101 := Safe.ext E127 ch126 sf126_b101
  have sf132_b103 := Safe.ext E127 ch126 sf126_b103
  have sf132_b108 := Safe.ext E127 ch126 sf126_b108
  have sf132_b116 := Safe.ext E127 ch126 sf126_b116
  have sf132_b127 := Safe.ext E127 ch126 sn127
  have cr132 := cr126.trans (CHr.ext E127 ch126)
  have ch132 := CHv.ext E127 ch126
  have F127_value : Fld Z h127 b127 "java/lang/String" "value" "[B" .null := D127 (Or.inr (tw hw 16 rfl)) (ty := (.array .byte)) (by decide)
  have F127_coder : Fld Z h127 b127 "java/lang/String" "coder" "B" (.int (0 : Int32)) := D127 (Or.inr (tw hw 17 rfl)) (ty := .byte) (by decide)
  have y133 := (y130.ext E127)
  have hV_ : Arv Z h127 b108 k108 .char (2 : Int32) (([(nar .char c0), (nar .char c1)] : List Int32).map Value.int) (.int (0 : Int32)) := y133
  have y134 := (y131.ext E127)
  have y136 := (y128.ext E127)
  have lz135_b101 := y136.lt
  have y137 := (y129.ext E127)
  have lz135_b103 := y137.lt
  have lz135_b108 := y133.lt
  have y138 := (V125.ext E127)
  have lz135_b116 := y138.lt
  have lz135_b127 := A127.lt
  obtain ⟨_, _, ⟨T135, L135, k135, n135⟩, -, X135, ⟨Lc135, hQ135, l135, y135, z135⟩, st135⟩ := X127.specialBack hx (y := mn_19) rfl hown (mvT hZ (tw hw 4 rfl)) (mvT hZ (tw hw 5 rfl)) (mvT hZ (tw hw 6 rfl)) (by decide) (StrChars.Road.backV (W := 1) hZ hws (kI := 4) (tw hw 2 rfl) (cs := ([(nar .char c0), (nar .char c1)] : List Int32)) (bs := ([(nar .char c0), (nar .char c1)] : List Int32).map (fun c => c.toInt8.toInt32)) (n := 2) g_b127 (own_le y134) A127 F127_value F127_coder hV_ (O2.ext y134.2) P5 rfl rfl (by decide) (by decide) hpc rfl (by decide) (by decide)) (g := (mkF m 125 #[vi p1, vi p2, vi p3, vi p4, vi 2, vi c0, vi c1, vi c2, vr b101, vr b103, vr b108, vr b116, vr b108, .unset, .unset, .unset] [wr b108, wr b127, wr b127])) rfl (by rw [hml]; rfl) (Steps.refl _) (a := b127) (argsL := [wr b108]) (rest := [wr b127]) (lenOf pd_AC_V rfl) rfl (Nat.le_refl _) (hb hby at_125) (fun _ _ => ⟨rfl, e127, (by decide : 5 + 1 ≤ _), (by decide : 10 + 2 ≤ _)⟩)
  dsimp only [Pt.U, Pt.locs, Pt.cells, Pt.slots] at X135 l135 y135 z135 st135 hQ135
  subst l135 y135 z135
  obtain ⟨rfl, N135q, Kc135, uE135, uk135, ut135, uq135, ug135, us135, un135, uv135, uW135⟩ := hQ135
  have N135 := Fr.app N125 N135q
  have sn135_ut135 : Safe Z consts_1 s.vm h127 ut135 := Safe.new us135
  have hs139_ : ∀ x ∈ ([b127] : List Addr), Safe Z consts_1 s.vm h127 x := (allS sf132_b127 all0)
  have sf139_b101 := Safe.keep Kc135 hs139_ ch132 sf132_b101
  have sf139_b103 := Safe.keep Kc135 hs139_ ch132 sf132_b103
  have sf139_b108 := Safe.keep Kc135 hs139_ ch132 sf132_b108
  have sf139_b116 := Safe.keep Kc135 hs139_ ch132 sf132_b116
  have sf139_b127 := Safe.keep Kc135 hs139_ ch132 sf132_b127
  have sf139_ut135 := Safe.keep Kc135 hs139_ ch132 sn135_ut135
  have cr139 := cr132.trans (CHr.keep Kc135 hs139_ ch132)
  have ch139 := CHv.keep Kc135 hs139_ ch132
  have lt_b101_ut135 : b101 < ut135 := Nat.lt_of_lt_of_le lz135_b101 us135
  have lt_b103_ut135 : b103 < ut135 := Nat.lt_of_lt_of_le lz135_b103 us135
  have lt_b108_ut135 : b108 < ut135 := Nat.lt_of_lt_of_le lz135_b108 us135
  have lt_b116_ut135 : b116 < ut135 := Nat.lt_of_lt_of_le lz135_b116 us135
  have lt_b127_ut135 : b127 < ut135 := Nat.lt_of_lt_of_le lz135_b127 us135
  have uV135 : Arv Z T135.heap ut135 uq135 .byte (2 : Int32) [.int ((nar .char c0).toInt8.toInt32), .int ((nar .char c1).toInt8.toInt32)] (.int (0 : Int32)) := uW135
  have y140 := (y134.keep Kc135 (allS g_b127 all0))
  have y142 := (y136.keep Kc135 (own_nmc (Nat.ne_of_lt lt_b101_b127) own_nm0))
  have lz141_b101 := y142.lt
  have y143 := (y137.keep Kc135 (own_nmc (Nat.ne_of_lt lt_b103_b127) own_nm0))
  have lz141_b103 := y143.lt
  have y144 := (y133.keep Kc135 (own_nmc (Nat.ne_of_lt lt_b108_b127) own_nm0))
  have lz141_b108 := y144.lt
  have y145 := (y138.keep Kc135 (own_nmc (Nat.ne_of_lt lt_b116_b127) own_nm0))
  have lz141_b116 := y145.lt
  have lz141_b127 := uE135.lt
  have lz141_ut135 := uV135.lt
  obtain ⟨_, _, ⟨T141, L141, k141, n141⟩, -, X141, hs141, hg141, ⟨Lc141, hQ141, l141, y141, z141, R141⟩, st141⟩ := callSS X135 hx (y := mn_2) hown (mvT hZ (tw hw 22 rfl)) (mvT hZ (tw hw 23 rfl)) (mvT hZ (tw hw 24 rfl)) (mvT hZ (tw hw 25 rfl)) (by decide) (own_backSHK (W := 0) (rmU l Z a0 hw [] b127 (2 : Int32) ut135 uq135 [.int ((nar .char c0).toInt8.toInt32), .int ((nar .char c1).toInt8.toInt32)] G1 T135.heap n0 y140 (Or.inr (Or.inr (Or.inl rfl))) hl hr2 O2 P5 uE135 uv135 uk135 uV135) hZ (tw hw 25 rfl) (tw hw 24 rfl) (by decide) (by decide) hEL ch139 hK.1 hK.2) (g := (mkF m 132 #[vi p1, vi p2, vi p3, vi p4, vi 2, vi c0, vi c1, vi c2, vr b101, vr b103, vr b108, vr b116, vr b108, vr b127, .unset, .unset] [wr b127])) rfl (by rw [hml]; rfl) (argsL := [wr b127]) (rest := []) (lenOf pd_Ljava_lang_String__Lcom_example_queryloom_queryloom_translation_TranslationException_ rfl) rfl (Nat.le_refl _) (hb hby at_132) (fun _ _ => ⟨rfl, rfl, (by decide : 6 + 9 ≤ _), (by decide : 12 + 2928 ≤ _)⟩)
  dsimp only [Pt.U, Pt.locs, Pt.cells, Pt.slots] at X141 l141 y141 z141 st141 hQ141 hs141 hg141 R141
  subst l141 y141 z141
  obtain ⟨ur141, ux141, ut141, uq141, rfl, N141q, Kc141, uE141, um141, uF141, uv141, uk141, uW141⟩ := hQ141
  have N141 := Fr.app N135 N141q
  have y146 := (Nat.le_trans (Nat.le_trans (Nat.le_trans (Nat.le_trans (Nat.le_trans (Nat.le_trans (Nat.le_trans (Nat.le_trans (Nat.le_trans (Nat.le_trans (Nat.le_trans (Nat.le_trans hk0 E101.1) E103.1) (Keep.of_wr W106).1) E108.1) (Keep.of_wr W112).1) (Keep.of_wr W114).1) E116.1) (Keep.of_wr W121).1) (Keep.of_wr W123).1) (Keep.of_wr W125).1) E127.1) Kc135.1)
  obtain ⟨X141r, hS141, hZ141, hown141⟩ := rebS hS0 y146 X141 hs141 hg141 hZ hown
  have tk147 := Vm.MethodsKnown.alikeC (own_al hS141) hK.1
  have bk147 := Vm.FramesKnown.alikeC (own_al hS141) hK.2
  have sf148_b101 := R141.safe lz141_b101 sf139_b101
  have sf148_b103 := R141.safe lz141_b103 sf139_b103
  have sf148_b108 := R141.safe lz141_b108 sf139_b108
  have sf148_b116 := R141.safe lz141_b116 sf139_b116
  have sf148_b127 := R141.safe lz141_b127 sf139_b127
  have sf148_ut135 := R141.safe lz141_ut135 sf139_ut135
  have cr148 := cr139.trans R141
  have ch148 := R141.1
  have uV141 : Arv Z T141.heap ut141 uq141 .byte (23 : Int32) (.int ((nar .char c0).toInt8.toInt32) :: .int ((nar .char c1).toInt8.toInt32) :: cv_2) (.int (0 : Int32)) := uW141
  have y149 := (y140.keep Kc141 all0)
  obtain ⟨cq150, kq150, q150a, q150b, q150c⟩ := isOf hZ141 rfl uE141
  obtain ⟨_, _, ⟨T150, L150, k150, n150⟩, -, X150, ⟨Lc150, hQ150, l150, y150, z150⟩, st150⟩ := X141r.virtualBackUp hx (x := mn_1) (y := mn_40) hown141 (mvT hZ141 (tw hw 208 rfl)) (mvT hZ141 (tw hw 209 rfl)) (mvT hZ141 (tw hw 210 rfl)) (by decide) (mvT hZ141 (tw hw 212 rfl)) (mvT hZ141 (tw hw 211 rfl)) (backOf (W := 0) (rmGM l Z a0 hw [] ur141 ux141 T141.heap n0 y149 um141) hZ141 (tw hw 213 rfl) (tw hw 169 rfl) (by decide) (by decide)) q150a q150c (g := (mkF m 146 #[vi p1, vi p2, vi p3, vi p4, vi 2, vi c0, vi c1, vi c2, vr b101, vr b103, vr b108, vr b116, vr b108, vr b127, vr ur141, .unset] [wr ur141])) rfl (by rw [hml]; rfl) (Steps.refl _) (argsL := []) (rest := []) (lenOf pd__Ljava_lang_String_ rfl) rfl (Nat.le_refl _) (hb hby at_146) (fun _ _ => ⟨rfl, rfl, (by decide : 15 + 0 ≤ _), (by decide : 2940 + 0 ≤ _)⟩)
  dsimp only [Pt.U, Pt.locs, Pt.cells, Pt.slots] at X150 l150 y150 z150 st150 hQ150
  subst l150 y150 z150
  obtain ⟨rfl, N150q, eq150⟩ := hQ150
  have N150 := Fr.app N141 N150q
  obtain ⟨cq151, kq151, q151a, q151b, q151c⟩ := isOf hZ141 eq150 uF141
  obtain ⟨_, _, ⟨T151, L151, k151, n151⟩, -, X151, ⟨Lc151, hQ151, l151, y151, z151⟩, st151⟩ := X150.virtualBack hx (y := mn_26) (z := mn_26) hown141 (mvT hZ141 (tw hw 214 rfl)) (mvT hZ141 (tw hw 57 rfl)) (notFace_of_selects (args := #[]) (mvT hZ141 (tw hw 59 rfl))) (mvT hZ141 (tw hw 59 rfl)) (mvT hZ141 (tw hw 58 rfl)) (by decide) (backOf (W := 0) (rmLen l Z a0 hw [] ux141 (2 : Int32) ut141 uq141 (23 : Int32) (.int ((nar .char c0).toInt8.toInt32) :: .int ((nar .char c1).toInt8.toInt32) :: cv_2) G1 T141.heap n0 y149 (Or.inr (Or.inr (Or.inl rfl))) O2 P5 uF141 uv141 uk141 uV141) hZ141 (tw hw 60 rfl) (tw hw 3 rfl) (by decide) (by decide)) q151a q151c (g := (mkF m 160 #[vi p1, vi p2, vi p3, vi p4, vi 2, vi c0, vi c1, vi c2, vr b101, vr b103, vr b108, vr b116, vr b108, vr b127, vr ur141, vr ux141] [wr ux141])) rfl (by rw [hml]; rfl) (Steps.refl _) (argsL := []) (rest := []) (lenOf pd__I rfl) rfl (Nat.le_refl _) (hb hby at_160) (fun _ _ => ⟨rfl, eq150, (by decide : 15 + 0 ≤ _), (by decide : 2940 + 0 ≤ _)⟩)
  dsimp only [Pt.U, Pt.locs, Pt.cells, Pt.slots] at X151 l151 y151 z151 st151 hQ151
  subst l151 y151 z151
  obtain ⟨rfl, N151q, eq151⟩ := hQ151
  have N151 := Fr.app N150 N151q
  obtain ⟨cq152, kq152, q152a, q152b, q152c⟩ := isOf hZ141 eq151 uF141
  obtain ⟨_, _, ⟨T152, L152, k152, n152⟩, -, X152, ⟨Lc152, hQ152, l152, y152, z152⟩, st152⟩ := X151.virtualBack hx (y := mn_21) (z := mn_21) hown141 (mvT hZ141 (tw hw 219 rfl)) (mvT hZ141 (tw hw 220 rfl)) (notFace_of_selects (args := #[]) (mvT hZ141 (tw hw 222 rfl))) (mvT hZ141 (tw hw 222 rfl)) (mvT hZ141 (tw hw 221 rfl)) (by decide) (StrChars.Road.chN (W := 0) hZ141 hwc (kI := 4) (tw hw 2 rfl) (cs := (((nar .char c0) :: (nar .char c1) :: ci_3) : List Int32)) (i := 0) uF141 uv141 uk141 uV141 (Or.inl ⟨rfl, rfl, rfl, own_no255 hcs⟩) (own_no65 hcs) (O2.ext y149.2) P5 (FM.ext y149.2) rf (Nat.le_of_ble_eq_true rfl) (Nat.le_of_ble_eq_true rfl) (by decide) (by decide) (by decide)) q152a q152c (g := (mkF m 182 #[vi p1, vi p2, vi p3, vi p4, vi 2, vi c0, vi c1, vi c2, vr b101, vr b103, vr b108, vr b116, vr b108, vr b127, vr ur141, vr ux141] [wi 0, wr ux141])) rfl (by rw [hml]; rfl) (Steps.refl _) (argsL := [wi 0]) (rest := []) (lenOf pd_I_C rfl) rfl (Nat.le_refl _) (hb hby at_182) (fun _ _ => ⟨rfl, eq151, (by decide : 15 + 0 ≤ _), (by decide : 2940 + 0 ≤ _)⟩)
  dsimp only [Pt.U, Pt.locs, Pt.cells, Pt.slots] at X152 l152 y152 z152 st152 hQ152
  subst l152 y152 z152
  obtain ⟨hv152, rfl, eq152⟩ := hQ152
  obtain rfl : _ = some (Value.int (nar .char c0)) := hv152
  have N152 := Fr.app N151 (Fr.nil n0)
  have hc187 : (nar .char c0) = c0 := he0
  obtain ⟨cq153, kq153, q153a, q153b, q153c⟩ := isOf hZ141 eq152 uF141
  obtain ⟨_, _, ⟨T153, L153, k153, n153⟩, -, X153, ⟨Lc153, hQ153, l153, y153, z153⟩, st153⟩ := X152.virtualBack hx (y := mn_21) (z := mn_21) hown141 (mvT hZ141 (tw hw 219 rfl)) (mvT hZ141 (tw hw 220 rfl)) (notFace_of_selects (args := #[]) (mvT hZ141 (tw hw 222 rfl))) (mvT hZ141 (tw hw 222 rfl)) (mvT hZ141 (tw hw 221 rfl)) (by decide) (StrChars.Road.chN (W := 0) hZ141 hwc (kI := 4) (tw hw 2 rfl) (cs := (((nar .char c0) :: (nar .char c1) :: ci_3) : List Int32)) (i := 1) uF141 uv141 uk141 uV141 (Or.inl ⟨rfl, rfl, rfl, own_no255 hcs⟩) (own_no65 hcs) (O2.ext y149.2) P5 (FM.ext y149.2) rf (Nat.le_of_ble_eq_true rfl) (Nat.le_of_ble_eq_true rfl) (by decide) (by decide) (by decide)) q153a q153c (g := (mkF m 201 #[vi p1, vi p2, vi p3, vi p4, vi 2, vi c0, vi c1, vi c2, vr b101, vr b103, vr b108, vr b116, vr b108, vr b127, vr ur141, vr ux141] [wi 1, wr ux141])) rfl (by rw [hml]; rfl) (Steps.refl _) (argsL := [wi 1]) (rest := []) (lenOf pd_I_C rfl) rfl (Nat.le_refl _) (hb hby at_201) (fun _ _ => ⟨rfl, eq152, (by decide : 15 + 0 ≤ _), (by decide : 2940 + 0 ≤ _)⟩)
  dsimp only [Pt.U, Pt.locs, Pt.cells, Pt.slots] at X153 l153 y153 z153 st153 hQ153
  subst l153 y153 z153
  obtain ⟨hv153, rfl, eq153⟩ := hQ153
  obtain rfl : _ = some (Value.int (nar .char c1)) := hv153
  have N153 := Fr.app N152 (Fr.nil n0)
  have hc206 : (nar .char c1) = c1 := he1
  have hch_ : ∀ i, i < 21 → ((((nar .char c0) :: (nar .char c1) :: ci_3) : List Int32)).getD (((2 : Int32)).toNatClampNeg + i) 0 = (ci_3 : List Int32).getD i 0 := fun i _ => by show ((((nar .char c0) :: (nar .char c1) :: ci_3) : List Int32)).getD (2 + i) 0 = _; rw [Nat.add_comm]; rfl
  obtain ⟨_, _, ⟨T154, L154, k154, n154⟩, -, X154, ⟨Lc154, hQ154, l154, y154, z154⟩, st154⟩ := Jvm.LawKit.callS X153 hx (y := mn_3) hown141 (mvT hZ141 (tw hw 215 rfl)) (mvT hZ141 (tw hw 216 rfl)) (mvT hZ141 (tw hw 217 rfl)) (mvT hZ141 (tw hw 218 rfl)) (by decide) (backOf (W := 0) (rmSuf l Z a0 hw [] ux141 (2 : Int32) ut141 uq141 fm (23 : Int32) (.int ((nar .char c0).toInt8.toInt32) :: .int ((nar .char c1).toInt8.toInt32) :: cv_2) (((nar .char c0) :: (nar .char c1) :: ci_3) : List Int32) G1 T141.heap n0 y149 (Or.inr (Or.inr (Or.inl rfl))) O2 P5 FM rf uF141 uv141 uk141 uV141 (Or.inl ⟨rfl, rfl, rfl, own_no255 hcs⟩) hcs rfl hch_) hZ141 (tw hw 218 rfl) (tw hw 217 rfl) (by decide) (by decide)) (g := (mkF m 234 #[vi p1, vi p2, vi p3, vi p4, vi 2, vi c0, vi c1, vi c2, vr b101, vr b103, vr b108, vr b116, vr b108, vr b127, vr ur141, vr ux141] [wi 2, wr ux141])) rfl (by rw [hml]; rfl) (argsL := [wr ux141, wi 2]) (rest := []) (lenOf pd_Ljava_lang_String_I_Z rfl) rfl (Nat.le_refl _) (hb hby at_234) (fun _ _ => ⟨rfl, eq153, (by decide : 15 + 0 ≤ _), (by decide : 2940 + 0 ≤ _)⟩)
  dsimp only [Pt.U, Pt.locs, Pt.cells, Pt.slots] at X154 l154 y154 z154 st154 hQ154
  subst l154 y154 z154
  obtain ⟨rfl, N154q, eq154⟩ := hQ154
  have N154 := Fr.app N153 N154q
  obtain ⟨fs, hr, hrun, hended, hRW⟩ := X154.leaveW hS141 (by rw [eq154]; exact (Nat.le_refl _)) (v := some (.int (1 : Int32))) (fun h => by rw [Bd.returns] at h; cases h)
  refine ⟨_, _, pre0 _ ?_, hrun, hended, _, _, rfl, ?_, hRW.1, hRW.2.1, hRW.2.2.1, hRW.2.2.2.mono (by decide) (by decide)⟩
  · show Go p e below s₁ (mkF m 0 #[vi p1, vi p2, vi p3, vi p4, .unset, .unset, .unset, .unset, .unset, .unset, .unset, .unset, .unset, .unset, .unset, .unset] []) _
    refine XS.iloadN X0.here hx rfl (hb hby at_0) rfl ?_
    show Go p e below s₁ (mkF m 1 #[vi p1, vi p2, vi p3, vi p4, .unset, .unset, .unset, .unset, .unset, .unset, .unset, .unset, .unset, .unset, .unset, .unset] [wi p1]) _
    refine XS.iconst X0.here hx rfl (hb hby at_1) ?_
    show Go p e below s₁ (mkF m 2 #[vi p1, vi p2, vi p3, vi p4, .unset, .unset, .unset, .unset, .unset, .unset, .unset, .unset, .unset, .unset, .unset, .unset] [wi 3, wi p1]) _
    refine XS.iand X0.here hx rfl (hb hby at_2) rfl ?_
    show Go p e below s₁ (mkF m 3 #[vi p1, vi p2, vi p3, vi p4, .unset, .unset, .unset, .unset, .unset, .unset, .unset, .unset, .unset, .unset, .unset, .unset] [wi (p1 &&& (3 : Int32))]) _
    refine XS.istore X0.here hx rfl (hb hby at_3) rfl (l' := #[.val (.int p1), .val (.int p2), .val (.int p3), .val (.int p4), .val (.int (p1 &&& (3 : Int32))), .unset, .unset, .unset, .unset, .unset, .unset, .unset, .unset, .unset, .unset, .unset]) rfl ?_
    rw [hk_]
    show Go p e below s₁ (mkF m 5 #[vi p1, vi p2, vi p3, vi p4, vi 2, .unset, .unset, .unset, .unset, .unset, .unset, .unset, .unset, .unset, .unset, .unset] []) _
    refine XS.iloadN X0.here hx rfl (hb hby at_5) rfl ?_
    show Go p e below s₁ (mkF m 6 #[vi p1, vi p2, vi p3, vi p4, vi 2, .unset, .unset, .unset, .unset, .unset, .unset, .unset, .unset, .unset, .unset, .unset] [wi p2]) _
    refine XS.sipush X0.here hx rfl (hb hby at_6) ?_
    show Go p e below s₁ (mkF m 9 #[vi p1, vi p2, vi p3, vi p4, vi 2, .unset, .unset, .unset, .unset, .unset, .unset, .unset, .unset, .unset, .unset, .unset] [wi 255, wi p2]) _
    refine XS.iand X0.here hx rfl (hb hby at_9) rfl ?_
    show Go p e below s₁ (mkF m 10 #[vi p1, vi p2, vi p3, vi p4, vi 2, .unset, .unset, .unset, .unset, .unset, .unset, .unset, .unset, .unset, .unset, .unset] [wi (p2 &&& (255 : Int32))]) _
    refine XS.i2c X0.here hx rfl (hb hby at_10) rfl ?_
    show Go p e below s₁ (mkF m 11 #[vi p1, vi p2, vi p3, vi p4, vi 2, .unset, .unset, .unset, .unset, .unset, .unset, .unset, .unset, .unset, .unset, .unset] [wi ((p2 &&& (255 : Int32)).toUInt32.toUInt16.toUInt32.toInt32)]) _
    refine XS.istore X0.here hx rfl (hb hby at_11) rfl (l' := #[.val (.int p1), .val (.int p2), .val (.int p3), .val (.int p4), .val (.int (2 : Int32)), .val (.int ((p2 &&& (255 : Int32)).toUInt32.toUInt16.toUInt32.toInt32)), .unset, .unset, .unset, .unset, .unset, .unset, .unset, .unset, .unset, .unset]) rfl ?_
    rw [← hc0]
    show Go p e below s₁ (mkF m 13 #[vi p1, vi p2, vi p3, vi p4, vi 2, vi c0, .unset, .unset, .unset, .unset, .unset, .unset, .unset, .unset, .unset, .unset] []) _
    refine XS.iloadN X0.here hx rfl (hb hby at_13) rfl ?_
    show Go p e below s₁ (mkF m 14 #[vi p1, vi p2, vi p3, vi p4, vi 2, vi c0, .unset, .unset, .unset, .unset, .unset, .unset, .unset, .unset, .unset, .unset] [wi p3]) _
    refine XS.sipush X0.here hx rfl (hb hby at_14) ?_
    show Go p e below s₁ (mkF m 17 #[vi p1, vi p2, vi p3, vi p4, vi 2, vi c0, .unset, .unset, .unset, .unset, .unset, .unset, .unset, .unset, .unset, .unset] [wi 255, wi p3]) _
    refine XS.iand X0.here hx rfl (hb hby at_17) rfl ?_
    show Go p e below s₁ (mkF m 18 #[vi p1, vi p2, vi p3, vi p4, vi 2, vi c0, .unset, .unset, .unset, .unset, .unset, .unset, .unset, .unset, .unset, .unset] [wi (p3 &&& (255 : Int32))]) _
    refine XS.i2c X0.here hx rfl (hb hby at_18) rfl ?_
    show Go p e below s₁ (mkF m 19 #[vi p1, vi p2, vi p3, vi p4, vi 2, vi c0, .unset, .unset, .unset, .unset, .unset, .unset, .unset, .unset, .unset, .unset] [wi ((p3 &&& (255 : Int32)).toUInt32.toUInt16.toUInt32.toInt32)]) _
    refine XS.istore X0.here hx rfl (hb hby at_19) rfl (l' := #[.val (.int p1), .val (.int p2), .val (.int p3), .val (.int p4), .val (.int (2 : Int32)), .val (.int c0), .val (.int ((p3 &&& (255 : Int32)).toUInt32.toUInt16.toUInt32.toInt32)), .unset, .unset, .unset, .unset, .unset, .unset, .unset, .unset, .unset]) rfl ?_
    rw [← hc1]
    show Go p e below s₁ (mkF m 21 #[vi p1, vi p2, vi p3, vi p4, vi 2, vi c0, vi c1, .unset, .unset, .unset, .unset, .unset, .unset, .unset, .unset, .unset] []) _
    refine XS.iloadN X0.here hx rfl (hb hby at_21) rfl ?_
    show Go p e below s₁ (mkF m 22 #[vi p1, vi p2, vi p3, vi p4, vi 2, vi c0, vi c1, .unset, .unset, .unset, .unset, .unset, .unset, .unset, .unset, .unset] [wi p4]) _
    refine XS.sipush X0.here hx rfl (hb hby at_22) ?_
    show Go p e below s₁ (mkF m 25 #[vi p1, vi p2, vi p3, vi p4, vi 2, vi c0, vi c1, .unset, .unset, .unset, .unset, .unset, .unset, .unset, .unset, .unset] [wi 255, wi p4]) _
    refine XS.iand X0.here hx rfl (hb hby at_25) rfl ?_
    show Go p e below s₁ (mkF m 26 #[vi p1, vi p2, vi p3, vi p4, vi 2, vi c0, vi c1, .unset, .unset, .unset, .unset, .unset, .unset, .unset, .unset, .unset] [wi (p4 &&& (255 : Int32))]) _
    refine XS.i2c X0.here hx rfl (hb hby at_26) rfl ?_
    show Go p e below s₁ (mkF m 27 #[vi p1, vi p2, vi p3, vi p4, vi 2, vi c0, vi c1, .unset, .unset, .unset, .unset, .unset, .unset, .unset, .unset, .unset] [wi ((p4 &&& (255 : Int32)).toUInt32.toUInt16.toUInt32.toInt32)]) _
    refine XS.istore X0.here hx rfl (hb hby at_27) rfl (l' := #[.val (.int p1), .val (.int p2), .val (.int p3), .val (.int p4), .val (.int (2 : Int32)), .val (.int c0), .val (.int c1), .val (.int ((p4 &&& (255 : Int32)).toUInt32.toUInt16.toUInt32.toInt32)), .unset, .unset, .unset, .unset, .unset, .unset, .unset, .unset]) rfl ?_
    rw [← hc2]
    show Go p e below s₁ (mkF m 29 #[vi p1, vi p2, vi p3, vi p4, vi 2, vi c0, vi c1, vi c2, .unset, .unset, .unset, .unset, .unset, .unset, .unset, .unset] []) _
    refine XS.iconst X0.here hx rfl (hb hby at_29) ?_
    show Go p e below s₁ (mkF m 30 #[vi p1, vi p2, vi p3, vi p4, vi 2, vi c0, vi c1, vi c2, .unset, .unset, .unset, .unset, .unset, .unset, .unset, .unset] [wi 0]) _
    refine st101 _ ?_
    show Go p e below T101 (mkF m 32 #[vi p1, vi p2, vi p3, vi p4, vi 2, vi c0, vi c1, vi c2, .unset, .unset, .unset, .unset, .unset, .unset, .unset, .unset] [wr b101]) _
    refine XS.astore X101.here hx rfl (hb hby at_32) rfl rfl (l' := #[.val (.int p1), .val (.int p2), .val (.int p3), .val (.int p4), .val (.int (2 : Int32)), .val (.int c0), .val (.int c1), .val (.int c2), .val (.ref b101), .unset, .unset, .unset, .unset, .unset, .unset, .unset]) rfl ?_
    show Go p e below T101 (mkF m 34 #[vi p1, vi p2, vi p3, vi p4, vi 2, vi c0, vi c1, vi c2, vr b101, .unset, .unset, .unset, .unset, .unset, .unset, .unset] []) _
    refine XS.iconst X101.here hx rfl (hb hby at_34) ?_
    show Go p e below T101 (mkF m 35 #[vi p1, vi p2, vi p3, vi p4, vi 2, vi c0, vi c1, vi c2, vr b101, .unset, .unset, .unset, .unset, .unset, .unset, .unset] [wi 1]) _
    refine st103 _ ?_
    show Go p e below T103 (mkF m 37 #[vi p1, vi p2, vi p3, vi p4, vi 2, vi c0, vi c1, vi c2, vr b101, .unset, .unset, .unset, .unset, .unset, .unset, .unset] [wr b103]) _
    refine XS.dup X103.here hx rfl (hb hby at_37) rfl rfl ?_
    show Go p e below T103 (mkF m 38 #[vi p1, vi p2, vi p3, vi p4, vi 2, vi c0, vi c1, vi c2, vr b101, .unset, .unset, .unset, .unset, .unset, .unset, .unset] [wr b103, wr b103]) _
    refine XS.iconst X103.here hx rfl (hb hby at_38) ?_
    show Go p e below T103 (mkF m 39 #[vi p1, vi p2, vi p3, vi p4, vi 2, vi c0, vi c1, vi c2, vr b101, .unset, .unset, .unset, .unset, .unset, .unset, .unset] [wi 0, wr b103, wr b103]) _
    refine XS.iload X103.here hx rfl (hb hby at_39) rfl ?_
    show Go p e below T103 (mkF m 41 #[vi p1, vi p2, vi p3, vi p4, vi 2, vi c0, vi c1, vi c2, vr b101, .unset, .unset, .unset, .unset, .unset, .unset, .unset] [wi c0, wi 0, wr b103, wr b103]) _
    refine st106 _ ?_
    show Go p e below T106 (mkF m 42 #[vi p1, vi p2, vi p3, vi p4, vi 2, vi c0, vi c1, vi c2, vr b101, .unset, .unset, .unset, .unset, .unset, .unset, .unset] [wr b103]) _
    refine XS.astore X106.here hx rfl (hb hby at_42) rfl rfl (l' := #[.val (.int p1), .val (.int p2), .val (.int p3), .val (.int p4), .val (.int (2 : Int32)), .val (.int c0), .val (.int c1), .val (.int c2), .val (.ref b101), .val (.ref b103), .unset, .unset, .unset, .unset, .unset, .unset]) rfl ?_
    show Go p e below T106 (mkF m 44 #[vi p1, vi p2, vi p3, vi p4, vi 2, vi c0, vi c1, vi c2, vr b101, vr b103, .unset, .unset, .unset, .unset, .unset, .unset] []) _
    refine XS.iconst X106.here hx rfl (hb hby at_44) ?_
    show Go p e below T106 (mkF m 45 #[vi p1, vi p2, vi p3, vi p4, vi 2, vi c0, vi c1, vi c2, vr b101, vr b103, .unset, .unset, .unset, .unset, .unset, .unset] [wi 2]) _
    refine st108 _ ?_
    show Go p e below T108 (mkF m 47 #[vi p1, vi p2, vi p3, vi p4, vi 2, vi c0, vi c1, vi c2, vr b101, vr b103, .unset, .unset, .unset, .unset, .unset, .unset] [wr b108]) _
    refine XS.dup X108.here hx rfl (hb hby at_47) rfl rfl ?_
    show Go p e below T108 (mkF m 48 #[vi p1, vi p2, vi p3, vi p4, vi 2, vi c0, vi c1, vi c2, vr b101, vr b103, .unset, .unset, .unset, .unset, .unset, .unset] [wr b108, wr b108]) _
    refine XS.iconst X108.here hx rfl (hb hby at_48) ?_
    show Go p e below T108 (mkF m 49 #[vi p1, vi p2, vi p3, vi p4, vi 2, vi c0, vi c1, vi c2, vr b101, vr b103, .unset, .unset, .unset, .unset, .unset, .unset] [wi 0, wr b108, wr b108]) _
    refine XS.iload X108.here hx rfl (hb hby at_49) rfl ?_
    show Go p e below T108 (mkF m 51 #[vi p1, vi p2, vi p3, vi p4, vi 2, vi c0, vi c1, vi c2, vr b101, vr b103, .unset, .unset, .unset, .unset, .unset, .unset] [wi c0, wi 0, wr b108, wr b108]) _
    refine st112 _ ?_
    show Go p e below T112 (mkF m 52 #[vi p1, vi p2, vi p3, vi p4, vi 2, vi c0, vi c1, vi c2, vr b101, vr b103, .unset, .unset, .unset, .unset, .unset, .unset] [wr b108]) _
    refine XS.dup X112.here hx rfl (hb hby at_52) rfl rfl ?_
    show Go p e below T112 (mkF m 53 #[vi p1, vi p2, vi p3, vi p4, vi 2, vi c0, vi c1, vi c2, vr b101, vr b103, .unset, .unset, .unset, .unset, .unset, .unset] [wr b108, wr b108]) _
    refine XS.iconst X112.here hx rfl (hb hby at_53) ?_
    show Go p e below T112 (mkF m 54 #[vi p1, vi p2, vi p3, vi p4, vi 2, vi c0, vi c1, vi c2, vr b101, vr b103, .unset, .unset, .unset, .unset, .unset, .unset] [wi 1, wr b108, wr b108]) _
    refine XS.iload X112.here hx rfl (hb hby at_54) rfl ?_
    show Go p e below T112 (mkF m 56 #[vi p1, vi p2, vi p3, vi p4, vi 2, vi c0, vi c1, vi c2, vr b101, vr b103, .unset, .unset, .unset, .unset, .unset, .unset] [wi c1, wi 1, wr b108, wr b108]) _
    refine st114 _ ?_
    show Go p e below T114 (mkF m 57 #[vi p1, vi p2, vi p3, vi p4, vi 2, vi c0, vi c1, vi c2, vr b101, vr b103, .unset, .unset, .unset, .unset, .unset, .unset] [wr b108]) _
    refine XS.astore X114.here hx rfl (hb hby at_57) rfl rfl (l' := #[.val (.int p1), .val (.int p2), .val (.int p3), .val (.int p4), .val (.int (2 : Int32)), .val (.int c0), .val (.int c1), .val (.int c2), .val (.ref b101), .val (.ref b103), .val (.ref b108), .unset, .unset, .unset, .unset, .unset]) rfl ?_
    show Go p e below T114 (mkF m 59 #[vi p1, vi p2, vi p3, vi p4, vi 2, vi c0, vi c1, vi c2, vr b101, vr b103, vr b108, .unset, .unset, .unset, .unset, .unset] []) _
    refine XS.iconst X114.here hx rfl (hb hby at_59) ?_
    show Go p e below T114 (mkF m 60 #[vi p1, vi p2, vi p3, vi p4, vi 2, vi c0, vi c1, vi c2, vr b101, vr b103, vr b108, .unset, .unset, .unset, .unset, .unset] [wi 3]) _
    refine st116 _ ?_
    show Go p e below T116 (mkF m 62 #[vi p1, vi p2, vi p3, vi p4, vi 2, vi c0, vi c1, vi c2, vr b101, vr b103, vr b108, .unset, .unset, .unset, .unset, .unset] [wr b116]) _
    refine XS.dup X116.here hx rfl (hb hby at_62) rfl rfl ?_
    show Go p e below T116 (mkF m 63 #[vi p1, vi p2, vi p3, vi p4, vi 2, vi c0, vi c1, vi c2, vr b101, vr b103, vr b108, .unset, .unset, .unset, .unset, .unset] [wr b116, wr b116]) _
    refine XS.iconst X116.here hx rfl (hb hby at_63) ?_
    show Go p e below T116 (mkF m 64 #[vi p1, vi p2, vi p3, vi p4, vi 2, vi c0, vi c1, vi c2, vr b101, vr b103, vr b108, .unset, .unset, .unset, .unset, .unset] [wi 0, wr b116, wr b116]) _
    refine XS.iload X116.here hx rfl (hb hby at_64) rfl ?_
    show Go p e below T116 (mkF m 66 #[vi p1, vi p2, vi p3, vi p4, vi 2, vi c0, vi c1, vi c2, vr b101, vr b103, vr b108, .unset, .unset, .unset, .unset, .unset] [wi c0, wi 0, wr b116, wr b116]) _
    refine st121 _ ?_
    show Go p e below T121 (mkF m 67 #[vi p1, vi p2, vi p3, vi p4, vi 2, vi c0, vi c1, vi c2, vr b101, vr b103, vr b108, .unset, .unset, .unset, .unset, .unset] [wr b116]) _
    refine XS.dup X121.here hx rfl (hb hby at_67) rfl rfl ?_
    show Go p e below T121 (mkF m 68 #[vi p1, vi p2, vi p3, vi p4, vi 2, vi c0, vi c1, vi c2, vr b101, vr b103, vr b108, .unset, .unset, .unset, .unset, .unset] [wr b116, wr b116]) _
    refine XS.iconst X121.here hx rfl (hb hby at_68) ?_
    show Go p e below T121 (mkF m 69 #[vi p1, vi p2, vi p3, vi p4, vi 2, vi c0, vi c1, vi c2, vr b101, vr b103, vr b108, .unset, .unset, .unset, .unset, .unset] [wi 1, wr b116, wr b116]) _
    refine XS.iload X121.here hx rfl (hb hby at_69) rfl ?_
    show Go p e below T121 (mkF m 71 #[vi p1, vi p2, vi p3, vi p4, vi 2, vi c0, vi c1, vi c2, vr b101, vr b103, vr b108, .unset, .unset, .unset, .unset, .unset] [wi c1, wi 1, wr b116, wr b116]) _
    refine st123 _ ?_
    show Go p e below T123 (mkF m 72 #[vi p1, vi p2, vi p3, vi p4, vi 2, vi c0, vi c1, vi c2, vr b101, vr b103, vr b108, .unset, .unset, .unset, .unset, .unset] [wr b116]) _
    refine XS.dup X123.here hx rfl (hb hby at_72) rfl rfl ?_
    show Go p e below T123 (mkF m 73 #[vi p1, vi p2, vi p3, vi p4, vi 2, vi c0, vi c1, vi c2, vr b101, vr b103, vr b108, .unset, .unset, .unset, .unset, .unset] [wr b116, wr b116]) _
    refine XS.iconst X123.here hx rfl (hb hby at_73) ?_
    show Go p e below T123 (mkF m 74 #[vi p1, vi p2, vi p3, vi p4, vi 2, vi c0, vi c1, vi c2, vr b101, vr b103, vr b108, .unset, .unset, .unset, .unset, .unset] [wi 2, wr b116, wr b116]) _
    refine XS.iload X123.here hx rfl (hb hby at_74) rfl ?_
    show Go p e below T123 (mkF m 76 #[vi p1, vi p2, vi p3, vi p4, vi 2, vi c0, vi c1, vi c2, vr b101, vr b103, vr b108, .unset, .unset, .unset, .unset, .unset] [wi c2, wi 2, wr b116, wr b116]) _
    refine st125 _ ?_
    show Go p e below T125 (mkF m 77 #[vi p1, vi p2, vi p3, vi p4, vi 2, vi c0, vi c1, vi c2, vr b101, vr b103, vr b108, .unset, .unset, .unset, .unset, .unset] [wr b116]) _
    refine XS.astore X125.here hx rfl (hb hby at_77) rfl rfl (l' := #[.val (.int p1), .val (.int p2), .val (.int p3), .val (.int p4), .val (.int (2 : Int32)), .val (.int c0), .val (.int c1), .val (.int c2), .val (.ref b101), .val (.ref b103), .val (.ref b108), .val (.ref b116), .unset, .unset, .unset, .unset]) rfl ?_
    show Go p e below T125 (mkF m 79 #[vi p1, vi p2, vi p3, vi p4, vi 2, vi c0, vi c1, vi c2, vr b101, vr b103, vr b108, vr b116, .unset, .unset, .unset, .unset] []) _
    refine XS.aload X125.here hx rfl (hb hby at_79) rfl rfl ?_
    show Go p e below T125 (mkF m 81 #[vi p1, vi p2, vi p3, vi p4, vi 2, vi c0, vi c1, vi c2, vr b101, vr b103, vr b108, vr b116, .unset, .unset, .unset, .unset] [wr b101]) _
    refine XS.astore X125.here hx rfl (hb hby at_81) rfl rfl (l' := #[.val (.int p1), .val (.int p2), .val (.int p3), .val (.int p4), .val (.int (2 : Int32)), .val (.int c0), .val (.int c1), .val (.int c2), .val (.ref b101), .val (.ref b103), .val (.ref b108), .val (.ref b116), .val (.ref b101), .unset, .unset, .unset]) rfl ?_
    show Go p e below T125 (mkF m 83 #[vi p1, vi p2, vi p3, vi p4, vi 2, vi c0, vi c1, vi c2, vr b101, vr b103, vr b108, vr b116, vr b101, .unset, .unset, .unset] []) _
    refine XS.iload X125.here hx rfl (hb hby at_83) rfl ?_
    show Go p e below T125 (mkF m 85 #[vi p1, vi p2, vi p3, vi p4, vi 2, vi c0, vi c1, vi c2, vr b101, vr b103, vr b108, vr b116, vr b101, .unset, .unset, .unset] [wi 2]) _
    refine XS.iconst X125.here hx rfl (hb hby at_85) ?_
    show Go p e below T125 (mkF m 86 #[vi p1, vi p2, vi p3, vi p4, vi 2, vi c0, vi c1, vi c2, vr b101, vr b103, vr b108, vr b116, vr b101, .unset, .unset, .unset] [wi 1, wi 2]) _
    refine XS.icmpYes X125.here hx rfl (pc0 := 86) (pc' := 96) rfl (hb hby at_86) rfl (feq (by decide : ¬ ((2 : Int32) = (1 : Int32)))).2 (by decide) (by decide) ?_
    show Go p e below T125 (mkF m 96 #[vi p1, vi p2, vi p3, vi p4, vi 2, vi c0, vi c1, vi c2, vr b101, vr b103, vr b108, vr b116, vr b101, .unset, .unset, .unset] []) _
    refine XS.iload X125.here hx rfl (hb hby at_96) rfl ?_
    show Go p e below T125 (mkF m 98 #[vi p1, vi p2, vi p3, vi p4, vi 2, vi c0, vi c1, vi c2, vr b101, vr b103, vr b108, vr b116, vr b101, .unset, .unset, .unset] [wi 2]) _
    refine XS.iconst X125.here hx rfl (hb hby at_98) ?_
    show Go p e below T125 (mkF m 99 #[vi p1, vi p2, vi p3, vi p4, vi 2, vi c0, vi c1, vi c2, vr b101, vr b103, vr b108, vr b116, vr b101, .unset, .unset, .unset] [wi 2, wi 2]) _
    refine XS.icmpNo X125.here hx rfl (hb hby at_99) rfl (teq (rfl : (2 : Int32) = (2 : Int32))).2 ?_
    show Go p e below T125 (mkF m 102 #[vi p1, vi p2, vi p3, vi p4, vi 2, vi c0, vi c1, vi c2, vr b101, vr b103, vr b108, vr b116, vr b101, .unset, .unset, .unset] []) _
    refine XS.aload X125.here hx rfl (hb hby at_102) rfl rfl ?_
    show Go p e below T125 (mkF m 104 #[vi p1, vi p2, vi p3, vi p4, vi 2, vi c0, vi c1, vi c2, vr b101, vr b103, vr b108, vr b116, vr b101, .unset, .unset, .unset] [wr b108]) _
    refine XS.astore X125.here hx rfl (hb hby at_104) rfl rfl (l' := #[.val (.int p1), .val (.int p2), .val (.int p3), .val (.int p4), .val (.int (2 : Int32)), .val (.int c0), .val (.int c1), .val (.int c2), .val (.ref b101), .val (.ref b103), .val (.ref b108), .val (.ref b116), .val (.ref b108), .unset, .unset, .unset]) rfl ?_
    show Go p e below T125 (mkF m 106 #[vi p1, vi p2, vi p3, vi p4, vi 2, vi c0, vi c1, vi c2, vr b101, vr b103, vr b108, vr b116, vr b108, .unset, .unset, .unset] []) _
    refine XS.goto X125.here hx rfl (pc0 := 106) (pc' := 119) rfl (hb hby at_106) (by decide) (by decide) ?_
    show Go p e below T125 (mkF m 119 #[vi p1, vi p2, vi p3, vi p4, vi 2, vi c0, vi c1, vi c2, vr b101, vr b103, vr b108, vr b116, vr b108, .unset, .unset, .unset] []) _
    refine st127 _ ?_
    show Go p e below T127 (mkF m 122 #[vi p1, vi p2, vi p3, vi p4, vi 2, vi c0, vi c1, vi c2, vr b101, vr b103, vr b108, vr b116, vr b108, .unset, .unset, .unset] [wr b127]) _
    refine XS.dup X127.here hx rfl (hb hby at_122) rfl rfl ?_
    show Go p e below T127 (mkF m 123 #[vi p1, vi p2, vi p3, vi p4, vi 2, vi c0, vi c1, vi c2, vr b101, vr b103, vr b108, vr b116, vr b108, .unset, .unset, .unset] [wr b127, wr b127]) _
    refine XS.aload X127.here hx rfl (hb hby at_123) rfl rfl ?_
    show Go p e below T127 (mkF m 125 #[vi p1, vi p2, vi p3, vi p4, vi 2, vi c0, vi c1, vi c2, vr b101, vr b103, vr b108, vr b116, vr b108, .unset, .unset, .unset] [wr b108, wr b127, wr b127]) _
    refine st135.trans ?_
    show Go p e below T135 (mkF m 128 #[vi p1, vi p2, vi p3, vi p4, vi 2, vi c0, vi c1, vi c2, vr b101, vr b103, vr b108, vr b116, vr b108, .unset, .unset, .unset] [wr b127]) _
    refine XS.astore X135.here hx rfl (hb hby at_128) rfl rfl (l' := #[.val (.int p1), .val (.int p2), .val (.int p3), .val (.int p4), .val (.int (2 : Int32)), .val (.int c0), .val (.int c1), .val (.int c2), .val (.ref b101), .val (.ref b103), .val (.ref b108), .val (.ref b116), .val (.ref b108), .val (.ref b127), .unset, .unset]) rfl ?_
    show Go p e below T135 (mkF m 130 #[vi p1, vi p2, vi p3, vi p4, vi 2, vi c0, vi c1, vi c2, vr b101, vr b103, vr b108, vr b116, vr b108, vr b127, .unset, .unset] []) _
    refine XS.aload X135.here hx rfl (hb hby at_130) rfl rfl ?_
    show Go p e below T135 (mkF m 132 #[vi p1, vi p2, vi p3, vi p4, vi 2, vi c0, vi c1, vi c2, vr b101, vr b103, vr b108, vr b116, vr b108, vr b127, .unset, .unset] [wr b127]) _
    refine st141.trans ?_
    show Go p e below T141 (mkF m 135 #[vi p1, vi p2, vi p3, vi p4, vi 2, vi c0, vi c1, vi c2, vr b101, vr b103, vr b108, vr b116, vr b108, vr b127, .unset, .unset] [wr ur141]) _
    refine XS.astore X141r.here hx rfl (hb hby at_135) rfl rfl (l' := #[.val (.int p1), .val (.int p2), .val (.int p3), .val (.int p4), .val (.int (2 : Int32)), .val (.int c0), .val (.int c1), .val (.int c2), .val (.ref b101), .val (.ref b103), .val (.ref b108), .val (.ref b116), .val (.ref b108), .val (.ref b127), .val (.ref ur141), .unset]) rfl ?_
    show Go p e below T141 (mkF m 137 #[vi p1, vi p2, vi p3, vi p4, vi 2, vi c0, vi c1, vi c2, vr b101, vr b103, vr b108, vr b116, vr b108, vr b127, vr ur141, .unset] []) _
    refine XS.aload X141r.here hx rfl (hb hby at_137) rfl rfl ?_
    show Go p e below T141 (mkF m 139 #[vi p1, vi p2, vi p3, vi p4, vi 2, vi c0, vi c1, vi c2, vr b101, vr b103, vr b108, vr b116, vr b108, vr b127, vr ur141, .unset] [wr ur141]) _
    refine XS.ifnonnullYes X141r.here hx rfl (pc0 := 139) (pc' := 144) rfl (hb hby at_139) rfl (by decide) (by decide) ?_
    show Go p e below T141 (mkF m 144 #[vi p1, vi p2, vi p3, vi p4, vi 2, vi c0, vi c1, vi c2, vr b101, vr b103, vr b108, vr b116, vr b108, vr b127, vr ur141, .unset] []) _
    refine XS.aload X141r.here hx rfl (hb hby at_144) rfl rfl ?_
    show Go p e below T141 (mkF m 146 #[vi p1, vi p2, vi p3, vi p4, vi 2, vi c0, vi c1, vi c2, vr b101, vr b103, vr b108, vr b116, vr b108, vr b127, vr ur141, .unset] [wr ur141]) _
    refine st150.trans ?_
    show Go p e below T150 (mkF m 149 #[vi p1, vi p2, vi p3, vi p4, vi 2, vi c0, vi c1, vi c2, vr b101, vr b103, vr b108, vr b116, vr b108, vr b127, vr ur141, .unset] [wr ux141]) _
    refine XS.astore X150.here hx rfl (hb hby at_149) rfl rfl (l' := #[.val (.int p1), .val (.int p2), .val (.int p3), .val (.int p4), .val (.int (2 : Int32)), .val (.int c0), .val (.int c1), .val (.int c2), .val (.ref b101), .val (.ref b103), .val (.ref b108), .val (.ref b116), .val (.ref b108), .val (.ref b127), .val (.ref ur141), .val (.ref ux141)]) rfl ?_
    show Go p e below T150 (mkF m 151 #[vi p1, vi p2, vi p3, vi p4, vi 2, vi c0, vi c1, vi c2, vr b101, vr b103, vr b108, vr b116, vr b108, vr b127, vr ur141, vr ux141] []) _
    refine XS.aload X150.here hx rfl (hb hby at_151) rfl rfl ?_
    show Go p e below T150 (mkF m 153 #[vi p1, vi p2, vi p3, vi p4, vi 2, vi c0, vi c1, vi c2, vr b101, vr b103, vr b108, vr b116, vr b108, vr b127, vr ur141, vr ux141] [wr ux141]) _
    refine XS.ifnonnullYes X150.here hx rfl (pc0 := 153) (pc' := 158) rfl (hb hby at_153) rfl (by decide) (by decide) ?_
    show Go p e below T150 (mkF m 158 #[vi p1, vi p2, vi p3, vi p4, vi 2, vi c0, vi c1, vi c2, vr b101, vr b103, vr b108, vr b116, vr b108, vr b127, vr ur141, vr ux141] []) _
    refine XS.aload X150.here hx rfl (hb hby at_158) rfl rfl ?_
    show Go p e below T150 (mkF m 160 #[vi p1, vi p2, vi p3, vi p4, vi 2, vi c0, vi c1, vi c2, vr b101, vr b103, vr b108, vr b116, vr b108, vr b127, vr ur141, vr ux141] [wr ux141]) _
    refine st151.trans ?_
    show Go p e below T151 (mkF m 163 #[vi p1, vi p2, vi p3, vi p4, vi 2, vi c0, vi c1, vi c2, vr b101, vr b103, vr b108, vr b116, vr b108, vr b127, vr ur141, vr ux141] [wi 23]) _
    refine XS.iload X151.here hx rfl (hb hby at_163) rfl ?_
    show Go p e below T151 (mkF m 165 #[vi p1, vi p2, vi p3, vi p4, vi 2, vi c0, vi c1, vi c2, vr b101, vr b103, vr b108, vr b116, vr b108, vr b127, vr ur141, vr ux141] [wi 2, wi 23]) _
    refine XS.bipush X151.here hx rfl (hb hby at_165) ?_
    show Go p e below T151 (mkF m 167 #[vi p1, vi p2, vi p3, vi p4, vi 2, vi c0, vi c1, vi c2, vr b101, vr b103, vr b108, vr b116, vr b108, vr b127, vr ur141, vr ux141] [wi 21, wi 2, wi 23]) _
    refine XS.iadd X151.here hx rfl (hb hby at_167) rfl ?_
    show Go p e below T151 (mkF m 168 #[vi p1, vi p2, vi p3, vi p4, vi 2, vi c0, vi c1, vi c2, vr b101, vr b103, vr b108, vr b116, vr b108, vr b127, vr ur141, vr ux141] [wi 23, wi 23]) _
    refine XS.icmpYes X151.here hx rfl (pc0 := 168) (pc' := 173) rfl (hb hby at_168) rfl (teq (rfl : (23 : Int32) = (23 : Int32))).1 (by decide) (by decide) ?_
    show Go p e below T151 (mkF m 173 #[vi p1, vi p2, vi p3, vi p4, vi 2, vi c0, vi c1, vi c2, vr b101, vr b103, vr b108, vr b116, vr b108, vr b127, vr ur141, vr ux141] []) _
    refine XS.iload X151.here hx rfl (hb hby at_173) rfl ?_
    show Go p e below T151 (mkF m 175 #[vi p1, vi p2, vi p3, vi p4, vi 2, vi c0, vi c1, vi c2, vr b101, vr b103, vr b108, vr b116, vr b108, vr b127, vr ur141, vr ux141] [wi 2]) _
    refine XS.iconst X151.here hx rfl (hb hby at_175) ?_
    show Go p e below T151 (mkF m 176 #[vi p1, vi p2, vi p3, vi p4, vi 2, vi c0, vi c1, vi c2, vr b101, vr b103, vr b108, vr b116, vr b108, vr b127, vr ur141, vr ux141] [wi 1, wi 2]) _
    refine XS.icmpNo X151.here hx rfl (hb hby at_176) rfl (flt (by decide : ¬ ((2 : Int32) < (1 : Int32)))).1 ?_
    show Go p e below T151 (mkF m 179 #[vi p1, vi p2, vi p3, vi p4, vi 2, vi c0, vi c1, vi c2, vr b101, vr b103, vr b108, vr b116, vr b108, vr b127, vr ur141, vr ux141] []) _
    refine XS.aload X151.here hx rfl (hb hby at_179) rfl rfl ?_
    show Go p e below T151 (mkF m 181 #[vi p1, vi p2, vi p3, vi p4, vi 2, vi c0, vi c1, vi c2, vr b101, vr b103, vr b108, vr b116, vr b108, vr b127, vr ur141, vr ux141] [wr ux141]) _
    refine XS.iconst X151.here hx rfl (hb hby at_181) ?_
    show Go p e below T151 (mkF m 182 #[vi p1, vi p2, vi p3, vi p4, vi 2, vi c0, vi c1, vi c2, vr b101, vr b103, vr b108, vr b116, vr b108, vr b127, vr ur141, vr ux141] [wi 0, wr ux141]) _
    refine st152.trans ?_
    show Go p e below T152 (mkF m 185 #[vi p1, vi p2, vi p3, vi p4, vi 2, vi c0, vi c1, vi c2, vr b101, vr b103, vr b108, vr b116, vr b108, vr b127, vr ur141, vr ux141] [wi (nar .char c0)]) _
    refine XS.iload X152.here hx rfl (hb hby at_185) rfl ?_
    show Go p e below T152 (mkF m 187 #[vi p1, vi p2, vi p3, vi p4, vi 2, vi c0, vi c1, vi c2, vr b101, vr b103, vr b108, vr b116, vr b108, vr b127, vr ur141, vr ux141] [wi c0, wi (nar .char c0)]) _
    refine XS.icmpYes X152.here hx rfl (pc0 := 187) (pc' := 192) rfl (hb hby at_187) rfl (teq hc187).1 (by decide) (by decide) ?_
    show Go p e below T152 (mkF m 192 #[vi p1, vi p2, vi p3, vi p4, vi 2, vi c0, vi c1, vi c2, vr b101, vr b103, vr b108, vr b116, vr b108, vr b127, vr ur141, vr ux141] []) _
    refine XS.iload X152.here hx rfl (hb hby at_192) rfl ?_
    show Go p e below T152 (mkF m 194 #[vi p1, vi p2, vi p3, vi p4, vi 2, vi c0, vi c1, vi c2, vr b101, vr b103, vr b108, vr b116, vr b108, vr b127, vr ur141, vr ux141] [wi 2]) _
    refine XS.iconst X152.here hx rfl (hb hby at_194) ?_
    show Go p e below T152 (mkF m 195 #[vi p1, vi p2, vi p3, vi p4, vi 2, vi c0, vi c1, vi c2, vr b101, vr b103, vr b108, vr b116, vr b108, vr b127, vr ur141, vr ux141] [wi 2, wi 2]) _
    refine XS.icmpNo X152.here hx rfl (hb hby at_195) rfl (flt (by decide : ¬ ((2 : Int32) < (2 : Int32)))).1 ?_
    show Go p e below T152 (mkF m 198 #[vi p1, vi p2, vi p3, vi p4, vi 2, vi c0, vi c1, vi c2, vr b101, vr b103, vr b108, vr b116, vr b108, vr b127, vr ur141, vr ux141] []) _
    refine XS.aload X152.here hx rfl (hb hby at_198) rfl rfl ?_
    show Go p e below T152 (mkF m 200 #[vi p1, vi p2, vi p3, vi p4, vi 2, vi c0, vi c1, vi c2, vr b101, vr b103, vr b108, vr b116, vr b108, vr b127, vr ur141, vr ux141] [wr ux141]) _
    refine XS.iconst X152.here hx rfl (hb hby at_200) ?_
    show Go p e below T152 (mkF m 201 #[vi p1, vi p2, vi p3, vi p4, vi 2, vi c0, vi c1, vi c2, vr b101, vr b103, vr b108, vr b116, vr b108, vr b127, vr ur141, vr ux141] [wi 1, wr ux141]) _
    refine st153.trans ?_
    show Go p e below T153 (mkF m 204 #[vi p1, vi p2, vi p3, vi p4, vi 2, vi c0, vi c1, vi c2, vr b101, vr b103, vr b108, vr b116, vr b108, vr b127, vr ur141, vr ux141] [wi (nar .char c1)]) _
    refine XS.iload X153.here hx rfl (hb hby at_204) rfl ?_
    show Go p e below T153 (mkF m 206 #[vi p1, vi p2, vi p3, vi p4, vi 2, vi c0, vi c1, vi c2, vr b101, vr b103, vr b108, vr b116, vr b108, vr b127, vr ur141, vr ux141] [wi c1, wi (nar .char c1)]) _
    refine XS.icmpYes X153.here hx rfl (pc0 := 206) (pc' := 211) rfl (hb hby at_206) rfl (teq hc206).1 (by decide) (by decide) ?_
    show Go p e below T153 (mkF m 211 #[vi p1, vi p2, vi p3, vi p4, vi 2, vi c0, vi c1, vi c2, vr b101, vr b103, vr b108, vr b116, vr b108, vr b127, vr ur141, vr ux141] []) _
    refine XS.iload X153.here hx rfl (hb hby at_211) rfl ?_
    show Go p e below T153 (mkF m 213 #[vi p1, vi p2, vi p3, vi p4, vi 2, vi c0, vi c1, vi c2, vr b101, vr b103, vr b108, vr b116, vr b108, vr b127, vr ur141, vr ux141] [wi 2]) _
    refine XS.iconst X153.here hx rfl (hb hby at_213) ?_
    show Go p e below T153 (mkF m 214 #[vi p1, vi p2, vi p3, vi p4, vi 2, vi c0, vi c1, vi c2, vr b101, vr b103, vr b108, vr b116, vr b108, vr b127, vr ur141, vr ux141] [wi 3, wi 2]) _
    refine XS.icmpYes X153.here hx rfl (pc0 := 214) (pc' := 230) rfl (hb hby at_214) rfl (tlt (by decide : (2 : Int32) < (3 : Int32))).1 (by decide) (by decide) ?_
    show Go p e below T153 (mkF m 230 #[vi p1, vi p2, vi p3, vi p4, vi 2, vi c0, vi c1, vi c2, vr b101, vr b103, vr b108, vr b116, vr b108, vr b127, vr ur141, vr ux141] []) _
    refine XS.aload X153.here hx rfl (hb hby at_230) rfl rfl ?_
    show Go p e below T153 (mkF m 232 #[vi p1, vi p2, vi p3, vi p4, vi 2, vi c0, vi c1, vi c2, vr b101, vr b103, vr b108, vr b116, vr b108, vr b127, vr ur141, vr ux141] [wr ux141]) _
    refine XS.iload X153.here hx rfl (hb hby at_232) rfl ?_
    show Go p e below T153 (mkF m 234 #[vi p1, vi p2, vi p3, vi p4, vi 2, vi c0, vi c1, vi c2, vr b101, vr b103, vr b108, vr b116, vr b108, vr b127, vr ur141, vr ux141] [wi 2, wr ux141]) _
    refine st154 _ ?_
    show Go p e below T154 (mkF m 237 #[vi p1, vi p2, vi p3, vi p4, vi 2, vi c0, vi c1, vi c2, vr b101, vr b103, vr b108, vr b116, vr b108, vr b127, vr ur141, vr ux141] [wi 1]) _
    exact retN X154 hx (t := .boolean) Bd.returns (by simp) (hb hby at_237) hr
  · show Q0 h0 n0 _ T154.heap _
    rw [eq154]
    exact ⟨rfl, N154⟩
set_option maxRecDepth 65536 in
set_option maxHeartbeats 40000000 in
theorem rm0_3 (l : Launch) (Z : State) (a0 : Array Value) (hw : ∀ d ∈ tables_1, d.before a0 Z = true) (ws : List Jvm.Cond) (p1 : Int32) (p2 : Int32) (p3 : Int32) (p4 : Int32) (fm : Value) (G1 : Int32) (h0 : Heap) (n0 : Nat) (X00 : Old Z n0 h0) (hl : l.stackTraces = true) (hr2 : ∀ d ∈ twoRefs, d.before a0 Z = true) (O2 : Sta Z Z.heap "java/lang/String" "COMPACT_STRINGS" "Z" (.int G1)) (P5 : ¬ (G1 = (0 : Int32))) (FM : Sta Z Z.heap "jdk/internal/util/Preconditions" "SIOOBE_FORMATTER" "Ljava/util/function/BiFunction;" fm) (rf : fm.isRef = true) (hk_ : (p1 &&& (3 : Int32)) = (3 : Int32)) :
    MetFree l x (head1 (Jvm.Cond.code x code maxLocals ret :: ws) room_1) (fun a U => a = #[(.int p1), (.int p2), (.int p3), (.int p4)] ∧ Z.Warmed39 U.vm ∧ U.heap = h0 ∧ CHv Z consts_1 U.vm h0) (fun _ _ bl s _ => s.vm.MethodsKnown ∧ s.vm.FramesKnown bl) (fun _ U o U' => ∃ rv rL, o = .returned rv ∧ Q0 h0 n0 rv U'.heap rL ∧ ReturnedEndW U o U' rL room_1.cells room_1.slots) := by
  refine MetFree.of_bodySF (plainFor_of_name pn_0) hisR ?_
  intro p e s m args below meth c s₁ Bd hml0 hP hK
  obtain ⟨rfl, hZ, hh, hCH⟩ := hP
  have hx := Bd.exec
  have hby := Bd.bytes
  have hml : c.maxLocals = 16 := hml0
  have hown : s.vm.findClass "com/example/queryloom/queryloom/translation/TranslationExceptionUnsupportedPinLaw" = some m.cls := findClass_of_methodNamed Bd.named
  have hnm := (name_of_methodNamed Bd.named Bd.method).1
  have X0 : Stand p l e room_1 (s.setVm s.vm) m #[(.int p1), (.int p2), (.int p3), (.int p4)] below meth c s₁ [] 0 0 := Stand.of_body Bd
  have e0 : s₁.heap = h0 := by rw [← hh, Bd.state]; rfl
  have N0 := Fr.nil n0
  have hS0 : s.Since s.vm s.heap.size := own_since s
  have hk0 : s.heap.size ≤ h0.size := by rw [hh]; exact Nat.le_refl _
  have hstr := own_str hw
  have hEL := own_EL hw
  have pre0 : ∀ t, Steps p.tables e below (s₁.setTop (mkF m 0 #[.val (.int p1), .val (.int p2), .val (.int p3), .val (.int p4), .unset, .unset, .unset, .unset, .unset, .unset, .unset, .unset, .unset, .unset, .unset, .unset] [])) t → Steps p.tables e below (s₁.setTop (entryFrame m #[(.int p1), (.int p2), (.int p3), (.int p4)] maxLocals)) t := fun t k => castTop (ef_0 m p1 p2 p3 p4) k
  obtain ⟨c0, hc0⟩ : ∃ c : Int32, c = ((p2 &&& (255 : Int32)).toUInt32.toUInt16.toUInt32.toInt32) := ⟨_, rfl⟩
  obtain ⟨c1, hc1⟩ : ∃ c : Int32, c = ((p3 &&& (255 : Int32)).toUInt32.toUInt16.toUInt32.toInt32) := ⟨_, rfl⟩
  obtain ⟨c2, hc2⟩ : ∃ c : Int32, c = ((p4 &&& (255 : Int32)).toUInt32.toUInt16.toUInt32.toInt32) := ⟨_, rfl⟩
  have hb0 : ¬ nar .char c0 < 0 ∧ ¬ (255 : Int32) < nar .char c0 := by rw [hc0]; exact own_and255 _
  have he0 : nar .char c0 = c0 := by rw [hc0]; exact own_narc _
  have hb1 : ¬ nar .char c1 < 0 ∧ ¬ (255 : Int32) < nar .char c1 := by rw [hc1]; exact own_and255 _
  have he1 : nar .char c1 = c1 := by rw [hc1]; exact own_narc _
  have hb2 : ¬ nar .char c2 < 0 ∧ ¬ (255 : Int32) < nar .char c2 := by rw [hc2]; exact own_and255 _
  have he2 : nar .char c2 = c2 := by rw [hc2]; exact own_narc _
  have hwc : ∀ d ∈ StrChars.Road.wordsChN, d.before a0 Z = true := fun d hd => hw d ((by decide +kernel : ∀ d ∈ StrChars.Road.wordsChN, d ∈ tables_1) d hd)
  have hcs : ∀ c ∈ (((nar .char c0) :: (nar .char c1) :: (nar .char c2) :: ci_3) : List Int32), ¬ c < 0 ∧ ¬ (255 : Int32) < c := (own_alli hb0 (own_alli hb1 (own_alli hb2 own_lit)))
  have hws : ∀ d ∈ StrChars.Road.words, d.before a0 Z = true := fun d hd => hw d ((by decide +kernel : ∀ d ∈ StrChars.Road.words, d ∈ tables_1) d hd)
  have hpc : ∀ c ∈ ([(nar .char c0), (nar .char c1), (nar .char c2)] : List Int32), ¬ c < 0 ∧ ¬ (255 : Int32) < c := (own_alli hb0 (own_alli hb1 (own_alli hb2 (fun _ q => absurd q List.not_mem_nil))))
  obtain ⟨T101, h101, k101, X101, e101, E101, A101, st101⟩ := newP X0 hx hZ (tw hw 0 rfl) e0 (g := (mkF m 30 #[vi p1, vi p2, vi p3, vi p4, vi 3, vi c0, vi c1, vi c2, .unset, .unset, .unset, .unset, .unset, .unset, .unset, .unset] [wi 0])) rfl (hb hby at_30) rfl (by decide) (cap := 0) (by decide) (by decide) (by decide) (by decide)
  obtain ⟨b101, g101⟩ : ∃ z, z = h0.size := ⟨_, rfl⟩
  rw [← g101] at A101 st101
  have g_b101 : n0 ≤ b101 := Nat.le_trans (own_le X00) (Nat.le_of_eq g101.symm)
  have sn101 : Safe Z consts_1 s.vm h0 b101 := Safe.new (Nat.le_of_eq g101.symm)
  have V101 : Arv Z h101 b101 k101 .char (0 : Int32) [] (.int (0 : Int32)) := Arv.new A101 (by decide)
  have sf102_b101 := Safe.ext E101 hCH sn101
  have cr102 := (CHr.refl hCH).trans (CHr.ext E101 hCH)
  have ch102 := CHv.ext E101 hCH
  have lz103_b101 := V101.lt
  obtain ⟨T103, h103, k103, X103, e103, E103, A103, st103⟩ := newP X101 hx hZ (tw hw 0 rfl) e101 (g := (mkF m 35 #[vi p1, vi p2, vi p3, vi p4, vi 3, vi c0, vi c1, vi c2, vr b101, .unset, .unset, .unset, .unset, .unset, .unset, .unset] [wi 1])) rfl (hb hby at_35) rfl (by decide) (cap := 1) (by decide) (by decide) (by decide) (by decide)
  obtain ⟨b103, g103⟩ : ∃ z, z = h101.size := ⟨_, rfl⟩
  rw [← g103] at A103 st103
  have y104 := (X00.ext E101)
  have g_b103 : n0 ≤ b103 := Nat.le_trans (own_le y104) (Nat.le_of_eq g103.symm)
  have lt_b101_b103 : b101 < b103 := Nat.lt_of_lt_of_le lz103_b101 (Nat.le_of_eq g103.symm)
  have sn103 : Safe Z consts_1 s.vm h101 b103 := Safe.new (Nat.le_of_eq g103.symm)
  have V103 : Arv Z h103 b103 k103 .char (1 : Int32) [(.int (0 : Int32))] (.int (0 : Int32)) := (Arv.new A103 (by decide)).pad (pad_rep [] (.int (0 : Int32)) 1)
  have sf105_b101 := Safe.ext E103 ch102 sf102_b101
  have sf105_b103 := Safe.ext E103 ch102 sn103
  have cr105 := cr102.trans (CHr.ext E103 ch102)
  have ch105 := CHv.ext E103 ch102
  obtain ⟨cl106, Ar106, q106, S106, M106, H106, G106⟩ := id V103
  obtain ⟨T106, h106, X106, e106, W106, st106⟩ := stC X103 hx hZ e103 Ar106 (j := (0 : Int32)) (inb_of S106 ⟨by decide, by decide⟩) (g := (mkF m 41 #[vi p1, vi p2, vi p3, vi p4, vi 3, vi c0, vi c1, vi c2, vr b101, .unset, .unset, .unset, .unset, .unset, .unset, .unset] [wi c0, wi 0, wr b103, wr b103])) rfl rfl (hb hby at_41)
  have V106 : Arv Z h106 b103 k103 .char (1 : Int32) [(.int (nar .char c0))] (.int (0 : Int32)) := Arv.set Ar106 q106 S106 M106 H106 G106 (fits_nar_char _) W106 0 rfl (Nat.le_of_ble_eq_true rfl)
  have sf107_b101 := Safe.wr W106 sf105_b103 ch105 sf105_b101
  have sf107_b103 := Safe.wr W106 sf105_b103 ch105 sf105_b103
  have cr107 := cr105.trans (CHr.wr W106 sf105_b103 ch105)
  have ch107 := CHv.wr W106 sf105_b103 ch105
  have N106 := Fr.snoc X106 N0 g_b103
  have y109 := ((V101.ext E103).other W106 (Nat.ne_of_lt lt_b101_b103))
  have lz108_b101 := y109.lt
  have lz108_b103 := V106.lt
  obtain ⟨T108, h108, k108, X108, e108, E108, A108, st108⟩ := newP X106 hx hZ (tw hw 0 rfl) e106 (g := (mkF m 45 #[vi p1, vi p2, vi p3, vi p4, vi 3, vi c0, vi c1, vi c2, vr b101, vr b103, .unset, .unset, .unset, .unset, .unset, .unset] [wi 2])) rfl (hb hby at_45) rfl (by decide) (cap := 2) (by decide) (by decide) (by decide) (by decide)
  obtain ⟨b108, g108⟩ : ∃ z, z = h106.size := ⟨_, rfl⟩
  rw [← g108] at A108 st108
  have y110 := ((y104.ext E103).wr W106 g_b103)
  have g_b108 : n0 ≤ b108 := Nat.le_trans (own_le y110) (Nat.le_of_eq g108.symm)
  have lt_b101_b108 : b101 < b108 := Nat.lt_of_lt_of_le lz108_b101 (Nat.le_of_eq g108.symm)
  have lt_b103_b108 : b103 < b108 := Nat.lt_of_lt_of_le lz108_b103 (Nat.le_of_eq g108.symm)
  have sn108 : Safe Z consts_1 s.vm h106 b108 := Safe.new (Nat.le_of_eq g108.symm)
  have V108 : Arv Z h108 b108 k108 .char (2 : Int32) [(.int (0 : Int32)), (.int (0 : Int32))] (.int (0 : Int32)) := (Arv.new A108 (by decide)).pad (pad_rep [] (.int (0 : Int32)) 2)
  have sf111_b101 := Safe.ext E108 ch107 sf107_b101
  have sf111_b103 := Safe.ext E108 ch107 sf107_b103
  have sf111_b108 := Safe.ext E108 ch107 sn108
  have cr111 := cr107.trans (CHr.ext E108 ch107)
  have ch111 := CHv.ext E108 ch107
  obtain ⟨cl112, Ar112, q112, S112, M112, H112, G112⟩ := id V108
  obtain ⟨T112, h112, X112, e112, W112, st112⟩ := stC X108 hx hZ e108 Ar112 (j := (0 : Int32)) (inb_of S112 ⟨by decide, by decide⟩) (g := (mkF m 51 #[vi p1, vi p2, vi p3, vi p4, vi 3, vi c0, vi c1, vi c2, vr b101, vr b103, .unset, .unset, .unset, .unset, .unset, .unset] [wi c0, wi 0, wr b108, wr b108])) rfl rfl (hb hby at_51)
  have V112 : Arv Z h112 b108 k108 .char (2 : Int32) [(.int (nar .char c0)), (.int (0 : Int32))] (.int (0 : Int32)) := Arv.set Ar112 q112 S112 M112 H112 G112 (fits_nar_char _) W112 0 rfl (Nat.le_of_ble_eq_true rfl)
  have sf113_b101 := Safe.wr W112 sf111_b108 ch111 sf111_b101
  have sf113_b103 := Safe.wr W112 sf111_b108 ch111 sf111_b103
  have sf113_b108 := Safe.wr W112 sf111_b108 ch111 sf111_b108
  have cr113 := cr111.trans (CHr.wr W112 sf111_b108 ch111)
  have ch113 := CHv.wr W112 sf111_b108 ch111
  have N112 := Fr.snoc X112 N106 g_b108
  obtain ⟨cl114, Ar114, q114, S114, M114, H114, G114⟩ := id V112
  obtain ⟨T114, h114, X114, e114, W114, st114⟩ := stC X112 hx hZ e112 Ar114 (j := (1 : Int32)) (inb_of S114 ⟨by decide, by decide⟩) (g := (mkF m 56 #[vi p1, vi p2, vi p3, vi p4, vi 3, vi c0, vi c1, vi c2, vr b101, vr b103, .unset, .unset, .unset, .unset, .unset, .unset] [wi c1, wi 1, wr b108, wr b108])) rfl rfl (hb hby at_56)
  have V114 : Arv Z h114 b108 k108 .char (2 : Int32) [(.int (nar .char c0)), (.int (nar .char c1))] (.int (0 : Int32)) := Arv.set Ar114 q114 S114 M114 H114 G114 (fits_nar_char _) W114 1 rfl (Nat.le_of_ble_eq_true rfl)
  have sf115_b101 := Safe.wr W114 sf113_b108 ch113 sf113_b101
  have sf115_b103 := Safe.wr W114 sf113_b108 ch113 sf113_b103
  have sf115_b108 := Safe.wr W114 sf113_b108 ch113 sf113_b108
  have cr115 := cr113.trans (CHr.wr W114 sf113_b108 ch113)
  have ch115 := CHv.wr W114 sf113_b108 ch113
  have N114 := Fr.snoc X114 N112 g_b108
  have y117 := (((y109.ext E108).other W112 (Nat.ne_of_lt lt_b101_b108)).other W114 (Nat.ne_of_lt lt_b101_b108))
  have lz116_b101 := y117.lt
  have y118 := (((V106.ext E108).other W112 (Nat.ne_of_lt lt_b103_b108)).other W114 (Nat.ne_of_lt lt_b103_b108))
  have lz116_b103 := y118.lt
  have lz116_b108 := V114.lt
  obtain ⟨T116, h116, k116, X116, e116, E116, A116, st116⟩ := newP X114 hx hZ (tw hw 0 rfl) e114 (g := (mkF m 60 #[vi p1, vi p2, vi p3, vi p4, vi 3, vi c0, vi c1, vi c2, vr b101, vr b103, vr b108, .unset, .unset, .unset, .unset, .unset] [wi 3])) rfl (hb hby at_60) rfl (by decide) (cap := 3) (by decide) (by decide) (by decide) (by decide)
  obtain ⟨b116, g116⟩ : ∃ z, z = h114.size := ⟨_, rfl⟩
  rw [← g116] at A116 st116
  have y119 := (((y110.ext E108).wr W112 g_b108).wr W114 g_b108)
  have g_b116 : n0 ≤ b116 := Nat.le_trans (own_le y119) (Nat.le_of_eq g116.symm)
  have lt_b101_b116 : b101 < b116 := Nat.lt_of_lt_of_le lz116_b101 (Nat.le_of_eq g116.symm)
  have lt_b103_b116 : b103 < b116 := Nat.lt_of_lt_of_le lz116_b103 (Nat.le_of_eq g116.symm)
  have lt_b108_b116 : b108 < b116 := Nat.lt_of_lt_of_le lz116_b108 (Nat.le_of_eq g116.symm)
  have sn116 : Safe Z consts_1 s.vm h114 b116 := Safe.new (Nat.le_of_eq g116.symm)
  have V116 : Arv Z h116 b116 k116 .char (3 : Int32) [(.int (0 : Int32)), (.int (0 : Int32)), (.int (0 : Int32))] (.int (0 : Int32)) := (Arv.new A116 (by decide)).pad (pad_rep [] (.int (0 : Int32)) 3)
  have sf120_b101 := Safe.ext E116 ch115 sf115_b101
  have sf120_b103 := Safe.ext E116 ch115 sf115_b103
  have sf120_b108 := Safe.ext E116 ch115 sf115_b108
  have sf120_b116 := Safe.ext E116 ch115 sn116
  have cr120 := cr115.trans (CHr.ext E116 ch115)
  have ch120 := CHv.ext E116 ch115
  obtain ⟨cl121, Ar121, q121, S121, M121, H121, G121⟩ := id V116
  obtain ⟨T121, h121, X121, e121, W121, st121⟩ := stC X116 hx hZ e116 Ar121 (j := (0 : Int32)) (inb_of S121 ⟨by decide, by decide⟩) (g := (mkF m 66 #[vi p1, vi p2, vi p3, vi p4, vi 3, vi c0, vi c1, vi c2, vr b101, vr b103, vr b108, .unset, .unset, .unset, .unset, .unset] [wi c0, wi 0, wr b116, wr b116])) rfl rfl (hb hby at_66)
  have V121 : Arv Z h121 b116 k116 .char (3 : Int32) [(.int (nar .char c0)), (.int (0 : Int32)), (.int (0 : Int32))] (.int (0 : Int32)) := Arv.set Ar121 q121 S121 M121 H121 G121 (fits_nar_char _) W121 0 rfl (Nat.le_of_ble_eq_true rfl)
  have sf122_b101 := Safe.wr W121 sf120_b116 ch120 sf120_b101
  have sf122_b103 := Safe.wr W121 sf120_b116 ch120 sf120_b103
  have sf122_b108 := Safe.wr W121 sf120_b116 ch120 sf120_b108
  have sf122_b116 := Safe.wr W121 sf120_b116 ch120 sf120_b116
  have cr122 := cr120.trans (CHr.wr W121 sf120_b116 ch120)
  have ch122 := CHv.wr W121 sf120_b116 ch120
  have N121 := Fr.snoc X121 N114 g_b116
  obtain ⟨cl123, Ar123, q123, S123, M123, H123, G123⟩ := id V121
  obtain ⟨T123, h123, X123, e123, W123, st123⟩ := stC X121 hx hZ e121 Ar123 (j := (1 : Int32)) (inb_of S123 ⟨by decide, by decide⟩) (g := (mkF m 71 #[vi p1, vi p2, vi p3, vi p4, vi 3, vi c0, vi c1, vi c2, vr b101, vr b103, vr b108, .unset, .unset, .unset, .unset, .unset] [wi c1, wi 1, wr b116, wr b116])) rfl rfl (hb hby at_71)
  have V123 : Arv Z h123 b116 k116 .char (3 : Int32) [(.int (nar .char c0)), (.int (nar .char c1)), (.int (0 : Int32))] (.int (0 : Int32)) := Arv.set Ar123 q123 S123 M123 H123 G123 (fits_nar_char _) W123 1 rfl (Nat.le_of_ble_eq_true rfl)
  have sf124_b101 := Safe.wr W123 sf122_b116 ch122 sf122_b101
  have sf124_b103 := Safe.wr W123 sf122_b116 ch122 sf122_b103
  have sf124_b108 := Safe.wr W123 sf122_b116 ch122 sf122_b108
  have sf124_b116 := Safe.wr W123 sf122_b116 ch122 sf122_b116
  have cr124 := cr122.trans (CHr.wr W123 sf122_b116 ch122)
  have ch124 := CHv.wr W123 sf122_b116 ch122
  have N123 := Fr.snoc X123 N121 g_b116
  obtain ⟨cl125, Ar125, q125, S125, M125, H125, G125⟩ := id V123
  obtain ⟨T125, h125, X125, e125, W125, st125⟩ := stC X123 hx hZ e123 Ar125 (j := (2 : Int32)) (inb_of S125 ⟨by decide, by decide⟩) (g := (mkF m 76 #[vi p1, vi p2, vi p3, vi p4, vi 3, vi c0, vi c1, vi c2, vr b101, vr b103, vr b108, .unset, .unset, .unset, .unset, .unset] [wi c2, wi 2, wr b116, wr b116])) rfl rfl (hb hby at_76)
  have V125 : Arv Z h125 b116 k116 .char (3 : Int32) [(.int (nar .char c0)), (.int (nar .char c1)), (.int (nar .char c2))] (.int (0 : Int32)) := Arv.set Ar125 q125 S125 M125 H125 G125 (fits_nar_char _) W125 2 rfl (Nat.le_of_ble_eq_true rfl)
  have sf126_b101 := Safe.wr W125 sf124_b116 ch124 sf124_b101
  have sf126_b103 := Safe.wr W125 sf124_b116 ch124 sf124_b103
  have sf126_b108 := Safe.wr W125 sf124_b116 ch124 sf124_b108
  have sf126_b116 := Safe.wr W125 sf124_b116 ch124 sf124_b116
  have cr126 := cr124.trans (CHr.wr W125 sf124_b116 ch124)
  have ch126 := CHv.wr W125 sf124_b116 ch124
  have N125 := Fr.snoc X125 N123 g_b116
  have y128 := ((((y117.ext E116).other W121 (Nat.ne_of_lt lt_b101_b116)).other W123 (Nat.ne_of_lt lt_b101_b116)).other W125 (Nat.ne_of_lt lt_b101_b116))
  have lz127_b101 := y128.lt
  have y129 := ((((y118.ext E116).other W121 (Nat.ne_of_lt lt_b103_b116)).other W123 (Nat.ne_of_lt lt_b103_b116)).other W125 (Nat.ne_of_lt lt_b103_b116))
  have lz127_b103 := y129.lt
  have y130 := ((((V114.ext E116).other W121 (Nat.ne_of_lt lt_b108_b116)).other W123 (Nat.ne_of_lt lt_b108_b116)).other W125 (Nat.ne_of_lt lt_b108_b116))
  have lz127_b108 := y130.lt
  have lz127_b116 := V125.lt
  obtain ⟨T127, h127, X127, e127, E127, A127, D127, U127, st127⟩ := newO X125 hx hZ hown (tw hw 1 rfl) (tw hw 2 rfl) (tw hw 3 rfl) e125 (g := (mkF m 119 #[vi p1, vi p2, vi p3, vi p4, vi 3, vi c0, vi c1, vi c2, vr b101, vr b103, vr b108, vr b116, vr b116, .unset, .unset, .unset] [])) rfl (hb hby at_119) (by decide) (by decide)
  obtain ⟨b127, g127⟩ : ∃ z, z = h125.size := ⟨_, rfl⟩
  rw [← g127] at A127 D127 U127 st127
  have y131 := ((((y119.ext E116).wr W121 g_b116).wr W123 g_b116).wr W125 g_b116)
  have g_b127 : n0 ≤ b127 := Nat.le_trans (own_le y131) (Nat.le_of_eq g127.symm)
  have lt_b101_b127 : b101 < b127 := Nat.lt_of_lt_of_le lz127_b101 (Nat.le_of_eq g127.symm)
  have lt_b103_b127 : b103 < b127 := Nat.lt_of_lt_of_le lz127_b103 (Nat.le_of_eq g127.symm)
  have lt_b108_b127 : b108 < b127 := Nat.lt_of_lt_of_le lz127_b108 (Nat.le_of_eq g127.symm)
  have lt_b116_b127 : b116 < b127 := Nat.lt_of_lt_of_le lz127_b116 (Nat.le_of_eq g127.symm)
  have sn127 : Safe Z consts_1 s.vm h125 b127 := Safe.new (Nat.le_of_eq g127.symm)
  have sf132_b101 := Safe.ext E127 ch126 sf126_b101
  have sf132_b103 := Safe.ext E127 ch126 sf126_b103
  have sf132_b108 := Safe.ext E127 ch126 sf126_b108
  have sf132_b116 := Safe.ext E127 ch126 sf126_b116
  have sf132_b127 := Safe.ext E127 ch126 sn127
  have cr132 := cr126.trans (CHr.ext E127 ch126)
  have ch132 := CHv.ext E127 ch126
  have F127_value : Fld Z h127 b127 "java/lang/String" "value" "[B" .null := D127 (Or.inr (tw hw 16 rfl)) (ty := (.array .byte)) (by decide)
  have F127_coder : Fld Z h127 b127 "java/lang/String" "coder" "B" (.int (0 : Int32)) := D127 (Or.inr (tw hw 17 rfl)) (ty := .byte) (by decide)
  have y133 := (V125.ext E127)
  have hV_ : Arv Z h127 b116 k116 .char (3 : Int32) (([(nar .char c0), (nar .char c1), (nar .char c2)] : List Int32).map Value.int) (.int (0 : Int32)) := y133
  have y134 := (y131.ext E127)
  have y136 := (y128.ext E127)
  have lz135_b101 := y136.lt
  have y137 := (y129.ext E127)
  have lz135_b103 := y137.lt
  have y138 := (y130.ext E127)
  have lz135_b108 := y138.lt
  have lz135_b116 := y133.lt
  have lz135_b127 := A127.lt
  obtain ⟨_, _, ⟨T135, L135, k135, n135⟩, -, X135, ⟨Lc135, hQ135, l135, y135, z135⟩, st135⟩ := X127.specialBack hx (y := mn_19) rfl hown (mvT hZ (tw hw 4 rfl)) (mvT hZ (tw hw 5 rfl)) (mvT hZ (tw hw 6 rfl)) (by decide) (StrChars.Road.backV (W := 1) hZ hws (kI := 4) (tw hw 2 rfl) (cs := ([(nar .char c0), (nar .char c1), (nar .char c2)] : List Int32)) (bs := ([(nar .char c0), (nar .char c1), (nar .char c2)] : List Int32).map (fun c => c.toInt8.toInt32)) (n := 3) g_b127 (own_le y134) A127 F127_value F127_coder hV_ (O2.ext y134.2) P5 rfl rfl (by decide) (by decide) hpc rfl (by decide) (by decide)) (g := (mkF m 125 #[vi p1, vi p2, vi p3, vi p4, vi 3, vi c0, vi c1, vi c2, vr b101, vr b103, vr b108, vr b116, vr b116, .unset, .unset, .unset] [wr b116, wr b127, wr b127])) rfl (by rw [hml]; rfl) (Steps.refl _) (a := b127) (argsL := [wr b116]) (rest := [wr b127]) (lenOf pd_AC_V rfl) rfl (Nat.le_refl _) (hb hby at_125) (fun _ _ => ⟨rfl, e127, (by decide : 5 + 1 ≤ _), (by decide : 10 + 3 ≤ _)⟩)
  dsimp only [Pt.U, Pt.locs, Pt.cells, Pt.slots] at X135 l135 y135 z135 st135 hQ135
  subst l135 y135 z135
  obtain ⟨rfl, N135q, Kc135, uE135, uk135, ut135, uq135, ug135, us135, un135, uv135, uW135⟩ := hQ135
  have N135 := Fr.app N125 N135q
  have sn135_ut135 : Safe Z consts_1 s.vm h127 ut135 := Safe.new us135
  have hs139_ : ∀ x ∈ ([b127] : List Addr), Safe Z consts_1 s.vm h127 x := (allS sf132_b127 all0)
  have sf139_b101 := Safe.keep Kc135 hs139_ ch132 sf132_b101
  have sf139_b103 := Safe.keep Kc135 hs139_ ch132 sf132_b103
  have sf139_b108 := Safe.keep Kc135 hs139_ ch132 sf132_b108
  have sf139_b116 := Safe.keep Kc135 hs139_ ch132 sf132_b116
  have sf139_b127 := Safe.keep Kc135 hs139_ ch132 sf132_b127
  have sf139_ut135 := Safe.keep Kc135 hs139_ ch132 sn135_ut135
  have cr139 := cr132.trans (CHr.keep Kc135 hs139_ ch132)
  have ch139 := CHv.keep Kc135 hs139_ ch132
  have lt_b101_ut135 : b101 < ut135 := Nat.lt_of_lt_of_le lz135_b101 us135
  have lt_b103_ut135 : b103 < ut135 := Nat.lt_of_lt_of_le lz135_b103 us135
  have lt_b108_ut135 : b108 < ut135 := Nat.lt_of_lt_of_le lz135_b108 us135
  have lt_b116_ut135 : b116 < ut135 := Nat.lt_of_lt_of_le lz135_b116 us135
  have lt_b127_ut135 : b127 < ut135 := Nat.lt_of_lt_of_le lz135_b127 us135
  have uV135 : Arv Z T135.heap ut135 uq135 .byte (3 : Int32) [.int ((nar .char c0).toInt8.toInt32), .int ((nar .char c1).toInt8.toInt32), .int ((nar .char c2).toInt8.toInt32)] (.int (0 : Int32)) := uW135
  have y140 := (y134.keep Kc135 (allS g_b127 all0))
  have y142 := (y136.keep Kc135 (own_nmc (Nat.ne_of_lt lt_b101_b127) own_nm0))
  have lz141_b101 := y142.lt
  have y143 := (y137.keep Kc135 (own_nmc (Nat.ne_of_lt lt_b103_b127) own_nm0))
  have lz141_b103 := y143.lt
  have y144 := (y138.keep Kc135 (own_nmc (Nat.ne_of_lt lt_b108_b127) own_nm0))
  have lz141_b108 := y144.lt
  have y145 := (y133.keep Kc135 (own_nmc (Nat.ne_of_lt lt_b116_b127) own_nm0))
  have lz141_b116 := y145.lt
  have lz141_b127 := uE135.lt
  have lz141_ut135 := uV135.lt
  obtain ⟨_, _, ⟨T141, L141, k141, n141⟩, -, X141, hs141, hg141, ⟨Lc141, hQ141, l141, y141, z141, R141⟩, st141⟩ := callSS X135 hx (y := mn_2) hown (mvT hZ (tw hw 22 rfl)) (mvT hZ (tw hw 23 rfl)) (mvT hZ (tw hw 24 rfl)) (mvT hZ (tw hw 25 rfl)) (by decide) (own_backSHK (W := 0) (rmU l Z a0 hw [] b127 (3 : Int32) ut135 uq135 [.int ((nar .char c0).toInt8.toInt32), .int ((nar .char c1).toInt8.toInt32), .int ((nar .char c2).toInt8.toInt32)] G1 T135.heap n0 y140 (Or.inr (Or.inr (Or.inr rfl))) hl hr2 O2 P5 uE135 uv135 uk135 uV135) hZ (tw hw 25 rfl) (tw hw 24 rfl) (by decide) (by decide) hEL ch139 hK.1 hK.2) (g := (mkF m 132 #[vi p1, vi p2, vi p3, vi p4, vi 3, vi c0, vi c1, vi c2, vr b101, vr b103, vr b108, vr b116, vr b116, vr b127, .unset, .unset] [wr b127])) rfl (by rw [hml]; rfl) (argsL := [wr b127]) (rest := []) (lenOf pd_Ljava_lang_String__Lcom_example_queryloom_queryloom_translation_TranslationException_ rfl) rfl (Nat.le_refl _) (hb hby at_132) (fun _ _ => ⟨rfl, rfl, (by decide : 6 + 9 ≤ _), (by decide : 13 + 2928 ≤ _)⟩)
  dsimp only [Pt.U, Pt.locs, Pt.cells, Pt.slots] at X141 l141 y141 z141 st141 hQ141 hs141 hg141 R141
  subst l141 y141 z141
  obtain ⟨ur141, ux141, ut141, uq141, rfl, N141q, Kc141, uE141, um141, uF141, uv141, uk141, uW141⟩ := hQ141
  have N141 := Fr.app N135 N141q
  have y146 := (Nat.le_trans (Nat.le_trans (Nat.le_trans (Nat.le_trans (Nat.le_trans (Nat.le_trans (Nat.le_trans (Nat.le_trans (Nat.le_trans (Nat.le_trans (Nat.le_trans (Nat.le_trans hk0 E101.1) E103.1) (Keep.of_wr W106).1) E108.1) (Keep.of_wr W112).1) (Keep.of_wr W114).1) E116.1) (Keep.of_wr W121).1) (Keep.of_wr W123).1) (Keep.of_wr W125).1) E127.1) Kc135.1)
  obtain ⟨X141r, hS141, hZ141, hown141⟩ := rebS hS0 y146 X141 hs141 hg141 hZ hown
  have tk147 := Vm.MethodsKnown.alikeC (own_al hS141) hK.1
  have bk147 := Vm.FramesKnown.alikeC (own_al hS141) hK.2
  have sf148_b101 := R141.safe lz141_b101 sf139_b101
  have sf148_b103 := R141.safe lz141_b103 sf139_b103
  have sf148_b108 := R141.safe lz141_b108 sf139_b108
  have sf148_b116 := R141.safe lz141_b116 sf139_b116
  have sf148_b127 := R141.safe lz141_b127 sf139_b127
  have sf148_ut135 := R141.safe lz141_ut135 sf139_ut135
  have cr148 := cr139.trans R141
  have ch148 := R141.1
  have uV141 : Arv Z T141.heap ut141 uq141 .byte (24 : Int32) (.int ((nar .char c0).toInt8.toInt32) :: .int ((nar .char c1).toInt8.toInt32) :: .int ((nar .char c2).toInt8.toInt32) :: cv_2) (.int (0 : Int32)) := uW141
  have y149 := (y140.keep Kc141 all0)
  obtain ⟨cq150, kq150, q150a, q150b, q150c⟩ := isOf hZ141 rfl uE141
  obtain ⟨_, _, ⟨T150, L150, k150, n150⟩, -, X150, ⟨Lc150, hQ150, l150, y150, z150⟩, st150⟩ := X141r.virtualBackUp hx (x := mn_1) (y := mn_40) hown141 (mvT hZ141 (tw hw 208 rfl)) (mvT hZ141 (tw hw 209 rfl)) (mvT hZ141 (tw hw 210 rfl)) (by decide) (mvT hZ141 (tw hw 212 rfl)) (mvT hZ141 (tw hw 211 rfl)) (backOf (W := 0) (rmGM l Z a0 hw [] ur141 ux141 T141.heap n0 y149 um141) hZ141 (tw hw 213 rfl) (tw hw 169 rfl) (by decide) (by decide)) q150a q150c (g := (mkF m 146 #[vi p1, vi p2, vi p3, vi p4, vi 3, vi c0, vi c1, vi c2, vr b101, vr b103, vr b108, vr b116, vr b116, vr b127, vr ur141, .unset] [wr ur141])) rfl (by rw [hml]; rfl) (Steps.refl _) (argsL := []) (rest := []) (lenOf pd__Ljava_lang_String_ rfl) rfl (Nat.le_refl _) (hb hby at_146) (fun _ _ => ⟨rfl, rfl, (by decide : 15 + 0 ≤ _), (by decide : 2941 + 0 ≤ _)⟩)
  dsimp only [Pt.U, Pt.locs, Pt.cells, Pt.slots] at X150 l150 y150 z150 st150 hQ150
  subst l150 y150 z150
  obtain ⟨rfl, N150q, eq150⟩ := hQ150
  have N150 := Fr.app N141 N150q
  obtain ⟨cq151, kq151, q151a, q151b, q151c⟩ := isOf hZ141 eq150 uF141
  obtain ⟨_, _, ⟨T151, L151, k151, n151⟩, -, X151, ⟨Lc151, hQ151, l151, y151, z151⟩, st151⟩ := X150.virtualBack hx (y := mn_26) (z := mn_26) hown141 (mvT hZ141 (tw hw 214 rfl)) (mvT hZ141 (tw hw 57 rfl)) (notFace_of_selects (args := #[]) (mvT hZ141 (tw hw 59 rfl))) (mvT hZ141 (tw hw 59 rfl)) (mvT hZ141 (tw hw 58 rfl)) (by decide) (backOf (W := 0) (rmLen l Z a0 hw [] ux141 (3 : Int32) ut141 uq141 (24 : Int32) (.int ((nar .char c0).toInt8.toInt32) :: .int ((nar .char c1).toInt8.toInt32) :: .int ((nar .char c2).toInt8.toInt32) :: cv_2) G1 T141.heap n0 y149 (Or.inr (Or.inr (Or.inr rfl))) O2 P5 uF141 uv141 uk141 uV141) hZ141 (tw hw 60 rfl) (tw hw 3 rfl) (by decide) (by decide)) q151a q151c (g := (mkF m 160 #[vi p1, vi p2, vi p3, vi p4, vi 3, vi c0, vi c1, vi c2, vr b101, vr b103, vr b108, vr b116, vr b116, vr b127, vr ur141, vr ux141] [wr ux141])) rfl (by rw [hml]; rfl) (Steps.refl _) (argsL := []) (rest := []) (lenOf pd__I rfl) rfl (Nat.le_refl _) (hb hby at_160) (fun _ _ => ⟨rfl, eq150, (by decide : 15 + 0 ≤ _), (by decide : 2941 + 0 ≤ _)⟩)
  dsimp only [Pt.U, Pt.locs, Pt.cells, Pt.slots] at X151 l151 y151 z151 st151 hQ151
  subst l151 y151 z151
  obtain ⟨rfl, N151q, eq151⟩ := hQ151
  have N151 := Fr.app N150 N151q
  obtain ⟨cq152, kq152, q152a, q152b, q152c⟩ := isOf hZ141 eq151 uF141
  obtain ⟨_, _, ⟨T152, L152, k152, n152⟩, -, X152, ⟨Lc152, hQ152, l152, y152, z152⟩, st152⟩ := X151.virtualBack hx (y := mn_21) (z := mn_21) hown141 (mvT hZ141 (tw hw 219 rfl)) (mvT hZ141 (tw hw 220 rfl)) (notFace_of_selects (args := #[]) (mvT hZ141 (tw hw 222 rfl))) (mvT hZ141 (tw hw 222 rfl)) (mvT hZ141 (tw hw 221 rfl)) (by decide) (StrChars.Road.chN (W := 0) hZ141 hwc (kI := 4) (tw hw 2 rfl) (cs := (((nar .char c0) :: (nar .char c1) :: (nar .char c2) :: ci_3) : List Int32)) (i := 0) uF141 uv141 uk141 uV141 (Or.inl ⟨rfl, rfl, rfl, own_no255 hcs⟩) (own_no65 hcs) (O2.ext y149.2) P5 (FM.ext y149.2) rf (Nat.le_of_ble_eq_true rfl) (Nat.le_of_ble_eq_true rfl) (by decide) (by decide) (by decide)) q152a q152c (g := (mkF m 182 #[vi p1, vi p2, vi p3, vi p4, vi 3, vi c0, vi c1, vi c2, vr b101, vr b103, vr b108, vr b116, vr b116, vr b127, vr ur141, vr ux141] [wi 0, wr ux141])) rfl (by rw [hml]; rfl) (Steps.refl _) (argsL := [wi 0]) (rest := []) (lenOf pd_I_C rfl) rfl (Nat.le_refl _) (hb hby at_182) (fun _ _ => ⟨rfl, eq151, (by decide : 15 + 0 ≤ _), (by decide : 2941 + 0 ≤ _)⟩)
  dsimp only [Pt.U, Pt.locs, Pt.cells, Pt.slots] at X152 l152 y152 z152 st152 hQ152
  subst l152 y152 z152
  obtain ⟨hv152, rfl, eq152⟩ := hQ152
  obtain rfl : _ = some (Value.int (nar .char c0)) := hv152
  have N152 := Fr.app N151 (Fr.nil n0)
  have hc187 : (nar .char c0) = c0 := he0
  obtain ⟨cq153, kq153, q153a, q153b, q153c⟩ := isOf hZ141 eq152 uF141
  obtain ⟨_, _, ⟨T153, L153, k153, n153⟩, -, X153, ⟨Lc153, hQ153, l153, y153, z153⟩, st153⟩ := X152.virtualBack hx (y := mn_21) (z := mn_21) hown141 (mvT hZ141 (tw hw 219 rfl)) (mvT hZ141 (tw hw 220 rfl)) (notFace_of_selects (args := #[]) (mvT hZ141 (tw hw 222 rfl))) (mvT hZ141 (tw hw 222 rfl)) (mvT hZ141 (tw hw 221 rfl)) (by decide) (StrChars.Road.chN (W := 0) hZ141 hwc (kI := 4) (tw hw 2 rfl) (cs := (((nar .char c0) :: (nar .char c1) :: (nar .char c2) :: ci_3) : List Int32)) (i := 1) uF141 uv141 uk141 uV141 (Or.inl ⟨rfl, rfl, rfl, own_no255 hcs⟩) (own_no65 hcs) (O2.ext y149.2) P5 (FM.ext y149.2) rf (Nat.le_of_ble_eq_true rfl) (Nat.le_of_ble_eq_true rfl) (by decide) (by decide) (by decide)) q153a q153c (g := (mkF m 201 #[vi p1, vi p2, vi p3, vi p4, vi 3, vi c0, vi c1, vi c2, vr b101, vr b103, vr b108, vr b116, vr b116, vr b127, vr ur141, vr ux141] [wi 1, wr ux141])) rfl (by rw [hml]; rfl) (Steps.refl _) (argsL := [wi 1]) (rest := []) (lenOf pd_I_C rfl) rfl (Nat.le_refl _) (hb hby at_201) (fun _ _ => ⟨rfl, eq152, (by decide : 15 + 0 ≤ _), (by decide : 2941 + 0 ≤ _)⟩)
  dsimp only [Pt.U, Pt.locs, Pt.cells, Pt.slots] at X153 l153 y153 z153 st153 hQ153
  subst l153 y153 z153
  obtain ⟨hv153, rfl, eq153⟩ := hQ153
  obtain rfl : _ = some (Value.int (nar .char c1)) := hv153
  have N153 := Fr.app N152 (Fr.nil n0)
  have hc206 : (nar .char c1) = c1 := he1
  obtain ⟨cq154, kq154, q154a, q154b, q154c⟩ := isOf hZ141 eq153 uF141
  obtain ⟨_, _, ⟨T154, L154, k154, n154⟩, -, X154, ⟨Lc154, hQ154, l154, y154, z154⟩, st154⟩ := X153.virtualBack hx (y := mn_21) (z := mn_21) hown141 (mvT hZ141 (tw hw 219 rfl)) (mvT hZ141 (tw hw 220 rfl)) (notFace_of_selects (args := #[]) (mvT hZ141 (tw hw 222 rfl))) (mvT hZ141 (tw hw 222 rfl)) (mvT hZ141 (tw hw 221 rfl)) (by decide) (StrChars.Road.chN (W := 0) hZ141 hwc (kI := 4) (tw hw 2 rfl) (cs := (((nar .char c0) :: (nar .char c1) :: (nar .char c2) :: ci_3) : List Int32)) (i := 2) uF141 uv141 uk141 uV141 (Or.inl ⟨rfl, rfl, rfl, own_no255 hcs⟩) (own_no65 hcs) (O2.ext y149.2) P5 (FM.ext y149.2) rf (Nat.le_of_ble_eq_true rfl) (Nat.le_of_ble_eq_true rfl) (by decide) (by decide) (by decide)) q154a q154c (g := (mkF m 220 #[vi p1, vi p2, vi p3, vi p4, vi 3, vi c0, vi c1, vi c2, vr b101, vr b103, vr b108, vr b116, vr b116, vr b127, vr ur141, vr ux141] [wi 2, wr ux141])) rfl (by rw [hml]; rfl) (Steps.refl _) (argsL := [wi 2]) (rest := []) (lenOf pd_I_C rfl) rfl (Nat.le_refl _) (hb hby at_220) (fun _ _ => ⟨rfl, eq153, (by decide : 15 + 0 ≤ _), (by decide : 2941 + 0 ≤ _)⟩)
  dsimp only [Pt.U, Pt.locs, Pt.cells, Pt.slots] at X154 l154 y154 z154 st154 hQ154
  subst l154 y154 z154
  obtain ⟨hv154, rfl, eq154⟩ := hQ154
  obtain rfl : _ = some (Value.int (nar .char c2)) := hv154
  have N154 := Fr.app N153 (Fr.nil n0)
  have hc225 : (nar .char c2) = c2 := he2
  have hch_ : ∀ i, i < 21 → ((((nar .char c0) :: (nar .char c1) :: (nar .char c2) :: ci_3) : List Int32)).getD (((3 : Int32)).toNatClampNeg + i) 0 = (ci_3 : List Int32).getD i 0 := fun i _ => by show ((((nar .char c0) :: (nar .char c1) :: (nar .char c2) :: ci_3) : List Int32)).getD (3 + i) 0 = _; rw [Nat.add_comm]; rfl
  obtain ⟨_, _, ⟨T155, L155, k155, n155⟩, -, X155, ⟨Lc155, hQ155, l155, y155, z155⟩, st155⟩ := Jvm.LawKit.callS X154 hx (y := mn_3) hown141 (mvT hZ141 (tw hw 215 rfl)) (mvT hZ141 (tw hw 216 rfl)) (mvT hZ141 (tw hw 217 rfl)) (mvT hZ141 (tw hw 218 rfl)) (by decide) (backOf (W := 0) (rmSuf l Z a0 hw [] ux141 (3 : Int32) ut141 uq141 fm (24 : Int32) (.int ((nar .char c0).toInt8.toInt32) :: .int ((nar .char c1).toInt8.toInt32) :: .int ((nar .char c2).toInt8.toInt32) :: cv_2) (((nar .char c0) :: (nar .char c1) :: (nar .char c2) :: ci_3) : List Int32) G1 T141.heap n0 y149 (Or.inr (Or.inr (Or.inr rfl))) O2 P5 FM rf uF141 uv141 uk141 uV141 (Or.inl ⟨rfl, rfl, rfl, own_no255 hcs⟩) hcs rfl hch_) hZ141 (tw hw 218 rfl) (tw hw 217 rfl) (by decide) (by decide)) (g := (mkF m 234 #[vi p1, vi p2, vi p3, vi p4, vi 3, vi c0, vi c1, vi c2, vr b101, vr b103, vr b108, vr b116, vr b116, vr b127, vr ur141, vr ux141] [wi 3, wr ux141])) rfl (by rw [hml]; rfl) (argsL := [wr ux141, wi 3]) (rest := []) (lenOf pd_Ljava_lang_String_I_Z rfl) rfl (Nat.le_refl _) (hb hby at_234) (fun _ _ => ⟨rfl, eq154, (by decide : 15 + 0 ≤ _), (by decide : 2941 + 0 ≤ _)⟩)
  dsimp only [Pt.U, Pt.locs, Pt.cells, Pt.slots] at X155 l155 y155 z155 st155 hQ155
  subst l155 y155 z155
  obtain ⟨rfl, N155q, eq155⟩ := hQ155
  have N155 := Fr.app N154 N155q
  obtain ⟨fs, hr, hrun, hended, hRW⟩ := X155.leaveW hS141 (by rw [eq155]; exact (Nat.le_refl _)) (v := some (.int (1 : Int32))) (fun h => by rw [Bd.returns] at h; cases h)
  refine ⟨_, _, pre0 _ ?_, hrun, hended, _, _, rfl, ?_, hRW.1, hRW.2.1, hRW.2.2.1, hRW.2.2.2.mono (by decide) (by decide)⟩
  · show Go p e below s₁ (mkF m 0 #[vi p1, vi p2, vi p3, vi p4, .unset, .unset, .unset, .unset, .unset, .unset, .unset, .unset, .unset, .unset, .unset, .unset] []) _
    refine XS.iloadN X0.here hx rfl (hb hby at_0) rfl ?_
    show Go p e below s₁ (mkF m 1 #[vi p1, vi p2, vi p3, vi p4, .unset, .unset, .unset, .unset, .unset, .unset, .unset, .unset, .unset, .unset, .unset, .unset] [wi p1]) _
    refine XS.iconst X0.here hx rfl (hb hby at_1) ?_
    show Go p e below s₁ (mkF m 2 #[vi p1, vi p2, vi p3, vi p4, .unset, .unset, .unset, .unset, .unset, .unset, .unset, .unset, .unset, .unset, .unset, .unset] [wi 3, wi p1]) _
    refine XS.iand X0.here hx rfl (hb hby at_2) rfl ?_
    show Go p e below s₁ (mkF m 3 #[vi p1, vi p2, vi p3, vi p4, .unset, .unset, .unset, .unset, .unset, .unset, .unset, .unset, .unset, .unset, .unset, .unset] [wi (p1 &&& (3 : Int32))]) _
    refine XS.istore X0.here hx rfl (hb hby at_3) rfl (l' := #[.val (.int p1), .val (.int p2), .val (.int p3), .val (.int p4), .val (.int (p1 &&& (3 : Int32))), .unset, .unset, .unset, .unset, .unset, .unset, .unset, .unset, .unset, .unset, .unset]) rfl ?_
    rw [hk_]
    show Go p e below s₁ (mkF m 5 #[vi p1, vi p2, vi p3, vi p4, vi 3, .unset, .unset, .unset, .unset, .unset, .unset, .unset, .unset, .unset, .unset, .unset] []) _
    refine XS.iloadN X0.here hx rfl (hb hby at_5) rfl ?_
    show Go p e below s₁ (mkF m 6 #[vi p1, vi p2, vi p3, vi p4, vi 3, .unset, .unset, .unset, .unset, .unset, .unset, .unset, .unset, .unset, .unset, .unset] [wi p2]) _
    refine XS.sipush X0.here hx rfl (hb hby at_6) ?_
    show Go p e below s₁ (mkF m 9 #[vi p1, vi p2, vi p3, vi p4, vi 3, .unset, .unset, .unset, .unset, .unset, .unset, .unset, .unset, .unset, .unset, .unset] [wi 255, wi p2]) _
    refine XS.iand X0.here hx rfl (hb hby at_9) rfl ?_
    show Go p e below s₁ (mkF m 10 #[vi p1, vi p2, vi p3, vi p4, vi 3, .unset, .unset, .unset, .unset, .unset, .unset, .unset, .unset, .unset, .unset, .unset] [wi (p2 &&& (255 : Int32))]) _
    refine XS.i2c X0.here hx rfl (hb hby at_10) rfl ?_
    show Go p e below s₁ (mkF m 11 #[vi p1, vi p2, vi p3, vi p4, vi 3, .unset, .unset, .unset, .unset, .unset, .unset, .unset, .unset, .unset, .unset, .unset] [wi ((p2 &&& (255 : Int32)).toUInt32.toUInt16.toUInt32.toInt32)]) _
    refine XS.istore X0.here hx rfl (hb hby at_11) rfl (l' := #[.val (.int p1), .val (.int p2), .val (.int p3), .val (.int p4), .val (.int (3 : Int32)), .val (.int ((p2 &&& (255 : Int32)).toUInt32.toUInt16.toUInt32.toInt32)), .unset, .unset, .unset, .unset, .unset, .unset, .unset, .unset, .unset, .unset]) rfl ?_
    rw [← hc0]
    show Go p e below s₁ (mkF m 13 #[vi p1, vi p2, vi p3, vi p4, vi 3, vi c0, .unset, .unset, .unset, .unset, .unset, .unset, .unset, .unset, .unset, .unset] []) _
    refine XS.iloadN X0.here hx rfl (hb hby at_13) rfl ?_
    show Go p e below s₁ (mkF m 14 #[vi p1, vi p2, vi p3, vi p4, vi 3, vi c0, .unset, .unset, .unset, .unset, .unset, .unset, .unset, .unset, .unset, .unset] [wi p3]) _
    refine XS.sipush X0.here hx rfl (hb hby at_14) ?_
    show Go p e below s₁ (mkF m 17 #[vi p1, vi p2, vi p3, vi p4, vi 3, vi c0, .unset, .unset, .unset, .unset, .unset, .unset, .unset, .unset, .unset, .unset] [wi 255, wi p3]) _
    refine XS.iand X0.here hx rfl (hb hby at_17) rfl ?_
    show Go p e below s₁ (mkF m 18 #[vi p1, vi p2, vi p3, vi p4, vi 3, vi c0, .unset, .unset, .unset, .unset, .unset, .unset, .unset, .unset, .unset, .unset] [wi (p3 &&& (255 : Int32))]) _
    refine XS.i2c X0.here hx rfl (hb hby at_18) rfl ?_
    show Go p e below s₁ (mkF m 19 #[vi p1, vi p2, vi p3, vi p4, vi 3, vi c0, .unset, .unset, .unset, .unset, .unset, .unset, .unset, .unset, .unset, .unset] [wi ((p3 &&& (255 : Int32)).toUInt32.toUInt16.toUInt32.toInt32)]) _
    refine XS.istore X0.here hx rfl (hb hby at_19) rfl (l' := #[.val (.int p1), .val (.int p2), .val (.int p3), .val (.int p4), .val (.int (3 : Int32)), .val (.int c0), .val (.int ((p3 &&& (255 : Int32)).toUInt32.toUInt16.toUInt32.toInt32)), .unset, .unset, .unset, .unset, .unset, .unset, .unset, .unset, .unset]) rfl ?_
    rw [← hc1]
    show Go p e below s₁ (mkF m 21 #[vi p1, vi p2, vi p3, vi p4, vi 3, vi c0, vi c1, .unset, .unset, .unset, .unset, .unset, .unset, .unset, .unset, .unset] []) _
    refine XS.iloadN X0.here hx rfl (hb hby at_21) rfl ?_
    show Go p e below s₁ (mkF m 22 #[vi p1, vi p2, vi p3, vi p4, vi 3, vi c0, vi c1, .unset, .unset, .unset, .unset, .unset, .unset, .unset, .unset, .unset] [wi p4]) _
    refine XS.sipush X0.here hx rfl (hb hby at_22) ?_
    show Go p e below s₁ (mkF m 25 #[vi p1, vi p2, vi p3, vi p4, vi 3, vi c0, vi c1, .unset, .unset, .unset, .unset, .unset, .unset, .unset, .unset, .unset] [wi 255, wi p4]) _
    refine XS.iand X0.here hx rfl (hb hby at_25) rfl ?_
    show Go p e below s₁ (mkF m 26 #[vi p1, vi p2, vi p3, vi p4, vi 3, vi c0, vi c1, .unset, .unset, .unset, .unset, .unset, .unset, .unset, .unset, .unset] [wi (p4 &&& (255 : Int32))]) _
    refine XS.i2c X0.here hx rfl (hb hby at_26) rfl ?_
    show Go p e below s₁ (mkF m 27 #[vi p1, vi p2, vi p3, vi p4, vi 3, vi c0, vi c1, .unset, .unset, .unset, .unset, .unset, .unset, .unset, .unset, .unset] [wi ((p4 &&& (255 : Int32)).toUInt32.toUInt16.toUInt32.toInt32)]) _
    refine XS.istore X0.here hx rfl (hb hby at_27) rfl (l' := #[.val (.int p1), .val (.int p2), .val (.int p3), .val (.int p4), .val (.int (3 : Int32)), .val (.int c0), .val (.int c1), .val (.int ((p4 &&& (255 : Int32)).toUInt32.toUInt16.toUInt32.toInt32)), .unset, .unset, .unset, .unset, .unset, .unset, .unset, .unset]) rfl ?_
    rw [← hc2]
    show Go p e below s₁ (mkF m 29 #[vi p1, vi p2, vi p3, vi p4, vi 3, vi c0, vi c1, vi c2, .unset, .unset, .unset, .unset, .unset, .unset, .unset, .unset] []) _
    refine XS.iconst X0.here hx rfl (hb hby at_29) ?_
    show Go p e below s₁ (mkF m 30 #[vi p1, vi p2, vi p3, vi p4, vi 3, vi c0, vi c1, vi c2, .unset, .unset, .unset, .unset, .unset, .unset, .unset, .unset] [wi 0]) _
    refine st101 _ ?_
    show Go p e below T101 (mkF m 32 #[vi p1, vi p2, vi p3, vi p4, vi 3, vi c0, vi c1, vi c2, .unset, .unset, .unset, .unset, .unset, .unset, .unset, .unset] [wr b101]) _
    refine XS.astore X101.here hx rfl (hb hby at_32) rfl rfl (l' := #[.val (.int p1), .val (.int p2), .val (.int p3), .val (.int p4), .val (.int (3 : Int32)), .val (.int c0), .val (.int c1), .val (.int c2), .val (.ref b101), .unset, .unset, .unset, .unset, .unset, .unset, .unset]) rfl ?_
    show Go p e below T101 (mkF m 34 #[vi p1, vi p2, vi p3, vi p4, vi 3, vi c0, vi c1, vi c2, vr b101, .unset, .unset, .unset, .unset, .unset, .unset, .unset] []) _
    refine XS.iconst X101.here hx rfl (hb hby at_34) ?_
    show Go p e below T101 (mkF m 35 #[vi p1, vi p2, vi p3, vi p4, vi 3, vi c0, vi c1, vi c2, vr b101, .unset, .unset, .unset, .unset, .unset, .unset, .unset] [wi 1]) _
    refine st103 _ ?_
    show Go p e below T103 (mkF m 37 #[vi p1, vi p2, vi p3, vi p4, vi 3, vi c0, vi c1, vi c2, vr b101, .unset, .unset, .unset, .unset, .unset, .unset, .unset] [wr b103]) _
    refine XS.dup X103.here hx rfl (hb hby at_37) rfl rfl ?_
    show Go p e below T103 (mkF m 38 #[vi p1, vi p2, vi p3, vi p4, vi 3, vi c0, vi c1, vi c2, vr b101, .unset, .unset, .unset, .unset, .unset, .unset, .unset] [wr b103, wr b103]) _
    refine XS.iconst X103.here hx rfl (hb hby at_38) ?_
    show Go p e below T103 (mkF m 39 #[vi p1, vi p2, vi p3, vi p4, vi 3, vi c0, vi c1, vi c2, vr b101, .unset, .unset, .unset, .unset, .unset, .unset, .unset] [wi 0, wr b103, wr b103]) _
    refine XS.iload X103.here hx rfl (hb hby at_39) rfl ?_
    show Go p e below T103 (mkF m 41 #[vi p1, vi p2, vi p3, vi p4, vi 3, vi c0, vi c1, vi c2, vr b101, .unset, .unset, .unset, .unset, .unset, .unset, .unset] [wi c0, wi 0, wr b103, wr b103]) _
    refine st106 _ ?_
    show Go p e below T106 (mkF m 42 #[vi p1, vi p2, vi p3, vi p4, vi 3, vi c0, vi c1, vi c2, vr b101, .unset, .unset, .unset, .unset, .unset, .unset, .unset] [wr b103]) _
    refine XS.astore X106.here hx rfl (hb hby at_42) rfl rfl (l' := #[.val (.int p1), .val (.int p2), .val (.int p3), .val (.int p4), .val (.int (3 : Int32)), .val (.int c0), .val (.int c1), .val (.int c2), .val (.ref b101), .val (.ref b103), .unset, .unset, .unset, .unset, .unset, .unset]) rfl ?_
    show Go p e below T106 (mkF m 44 #[vi p1, vi p2, vi p3, vi p4, vi 3, vi c0, vi c1, vi c2, vr b101, vr b103, .unset, .unset, .unset, .unset, .unset, .unset] []) _
    refine XS.iconst X106.here hx rfl (hb hby at_44) ?_
    show Go p e below T106 (mkF m 45 #[vi p1, vi p2, vi p3, vi p4, vi 3, vi c0, vi c1, vi c2, vr b101, vr b103, .unset, .unset, .unset, .unset, .unset, .unset] [wi 2]) _
    refine st108 _ ?_
    show Go p e below T108 (mkF m 47 #[vi p1, vi p2, vi p3, vi p4, vi 3, vi c0, vi c1, vi c2, vr b101, vr b103, .unset, .unset, .unset, .unset, .unset, .unset] [wr b108]) _
    refine XS.dup X108.here hx rfl (hb hby at_47) rfl rfl ?_
    show Go p e below T108 (mkF m 48 #[vi p1, vi p2, vi p3, vi p4, vi 3, vi c0, vi c1, vi c2, vr b101, vr b103, .unset, .unset, .unset, .unset, .unset, .unset] [wr b108, wr b108]) _
    refine XS.iconst X108.here hx rfl (hb hby at_48) ?_
    show Go p e below T108 (mkF m 49 #[vi p1, vi p2, vi p3, vi p4, vi 3, vi c0, vi c1, vi c2, vr b101, vr b103, .unset, .unset, .unset, .unset, .unset, .unset] [wi 0, wr b108, wr b108]) _
    refine XS.iload X108.here hx rfl (hb hby at_49) rfl ?_
    show Go p e below T108 (mkF m 51 #[vi p1, vi p2, vi p3, vi p4, vi 3, vi c0, vi c1, vi c2, vr b101, vr b103, .unset, .unset, .unset, .unset, .unset, .unset] [wi c0, wi 0, wr b108, wr b108]) _
    refine st112 _ ?_
    show Go p e below T112 (mkF m 52 #[vi p1, vi p2, vi p3, vi p4, vi 3, vi c0, vi c1, vi c2, vr b101, vr b103, .unset, .unset, .unset, .unset, .unset, .unset] [wr b108]) _
    refine XS.dup X112.here hx rfl (hb hby at_52) rfl rfl ?_
    show Go p e below T112 (mkF m 53 #[vi p1, vi p2, vi p3, vi p4, vi 3, vi c0, vi c1, vi c2, vr b101, vr b103, .unset, .unset, .unset, .unset, .unset, .unset] [wr b108, wr b108]) _
    refine XS.iconst X112.here hx rfl (hb hby at_53) ?_
    show Go p e below T112 (mkF m 54 #[vi p1, vi p2, vi p3, vi p4, vi 3, vi c0, vi c1, vi c2, vr b101, vr b103, .unset, .unset, .unset, .unset, .unset, .unset] [wi 1, wr b108, wr b108]) _
    refine XS.iload X112.here hx rfl (hb hby at_54) rfl ?_
    show Go p e below T112 (mkF m 56 #[vi p1, vi p2, vi p3, vi p4, vi 3, vi c0, vi c1, vi c2, vr b101, vr b103, .unset, .unset, .unset, .unset, .unset, .unset] [wi c1, wi 1, wr b108, wr b108]) _
    refine st114 _ ?_
    show Go p e below T114 (mkF m 57 #[vi p1, vi p2, vi p3, vi p4, vi 3, vi c0, vi c1, vi c2, vr b101, vr b103, .unset, .unset, .unset, .unset, .unset, .unset] [wr b108]) _
    refine XS.astore X114.here hx rfl (hb hby at_57) rfl rfl (l' := #[.val (.int p1), .val (.int p2), .val (.int p3), .val (.int p4), .val (.int (3 : Int32)), .val (.int c0), .val (.int c1), .val (.int c2), .val (.ref b101), .val (.ref b103), .val (.ref b108), .unset, .unset, .unset, .unset, .unset]) rfl ?_
    show Go p e below T114 (mkF m 59 #[vi p1, vi p2, vi p3, vi p4, vi 3, vi c0, vi c1, vi c2, vr b101, vr b103, vr b108, .unset, .unset, .unset, .unset, .unset] []) _
    refine XS.iconst X114.here hx rfl (hb hby at_59) ?_
    show Go p e below T114 (mkF m 60 #[vi p1, vi p2, vi p3, vi p4, vi 3, vi c0, vi c1, vi c2, vr b101, vr b103, vr b108, .unset, .unset, .unset, .unset, .unset] [wi 3]) _
    refine st116 _ ?_
    show Go p e below T116 (mkF m 62 #[vi p1, vi p2, vi p3, vi p4, vi 3, vi c0, vi c1, vi c2, vr b101, vr b103, vr b108, .unset, .unset, .unset, .unset, .unset] [wr b116]) _
    refine XS.dup X116.here hx rfl (hb hby at_62) rfl rfl ?_
    show Go p e below T116 (mkF m 63 #[vi p1, vi p2, vi p3, vi p4, vi 3, vi c0, vi c1, vi c2, vr b101, vr b103, vr b108, .unset, .unset, .unset, .unset, .unset] [wr b116, wr b116]) _
    refine XS.iconst X116.here hx rfl (hb hby at_63) ?_
    show Go p e below T116 (mkF m 64 #[vi p1, vi p2, vi p3, vi p4, vi 3, vi c0, vi c1, vi c2, vr b101, vr b103, vr b108, .unset, .unset, .unset, .unset, .unset] [wi 0, wr b116, wr b116]) _
    refine XS.iload X116.here hx rfl (hb hby at_64) rfl ?_
    show Go p e below T116 (mkF m 66 #[vi p1, vi p2, vi p3, vi p4, vi 3, vi c0, vi c1, vi c2, vr b101, vr b103, vr b108, .unset, .unset, .unset, .unset, .unset] [wi c0, wi 0, wr b116, wr b116]) _
    refine st121 _ ?_
    show Go p e below T121 (mkF m 67 #[vi p1, vi p2, vi p3, vi p4, vi 3, vi c0, vi c1, vi c2, vr b101, vr b103, vr b108, .unset, .unset, .unset, .unset, .unset] [wr b116]) _
    refine XS.dup X121.here hx rfl (hb hby at_67) rfl rfl ?_
    show Go p e below T121 (mkF m 68 #[vi p1, vi p2, vi p3, vi p4, vi 3, vi c0, vi c1, vi c2, vr b101, vr b103, vr b108, .unset, .unset, .unset, .unset, .unset] [wr b116, wr b116]) _
    refine XS.iconst X121.here hx rfl (hb hby at_68) ?_
    show Go p e below T121 (mkF m 69 #[vi p1, vi p2, vi p3, vi p4, vi 3, vi c0, vi c1, vi c2, vr b101, vr b103, vr b108, .unset, .unset, .unset, .unset, .unset] [wi 1, wr b116, wr b116]) _
    refine XS.iload X121.here hx rfl (hb hby at_69) rfl ?_
    show Go p e below T121 (mkF m 71 #[vi p1, vi p2, vi p3, vi p4, vi 3, vi c0, vi c1, vi c2, vr b101, vr b103, vr b108, .unset, .unset, .unset, .unset, .unset] [wi c1, wi 1, wr b116, wr b116]) _
    refine st123 _ ?_
    show Go p e below T123 (mkF m 72 #[vi p1, vi p2, vi p3, vi p4, vi 3, vi c0, vi c1, vi c2, vr b101, vr b103, vr b108, .unset, .unset, .unset, .unset, .unset] [wr b116]) _
    refine XS.dup X123.here hx rfl (hb hby at_72) rfl rfl ?_
    show Go p e below T123 (mkF m 73 #[vi p1, vi p2, vi p3, vi p4, vi 3, vi c0, vi c1, vi c2, vr b101, vr b103, vr b108, .unset, .unset, .unset, .unset, .unset] [wr b116, wr b116]) _
    refine XS.iconst X123.here hx rfl (hb hby at_73) ?_
    show Go p e below T123 (mkF m 74 #[vi p1, vi p2, vi p3, vi p4, vi 3, vi c0, vi c1, vi c2, vr b101, vr b103, vr b108, .unset, .unset, .unset, .unset, .unset] [wi 2, wr b116, wr b116]) _
    refine XS.iload X123.here hx rfl (hb hby at_74) rfl ?_
    show Go p e below T123 (mkF m 76 #[vi p1, vi p2, vi p3, vi p4, vi 3, vi c0, vi c1, vi c2, vr b101, vr b103, vr b108, .unset, .unset, .unset, .unset, .unset] [wi c2, wi 2, wr b116, wr b116]) _
    refine st125 _ ?_
    show Go p e below T125 (mkF m 77 #[vi p1, vi p2, vi p3, vi p4, vi 3, vi c0, vi c1, vi c2, vr b101, vr b103, vr b108, .unset, .unset, .unset, .unset, .unset] [wr b116]) _
    refine XS.astore X125.here hx rfl (hb hby at_77) rfl rfl (l' := #[.val (.int p1), .val (.int p2), .val (.int p3), .val (.int p4), .val (.int (3 : Int32)), .val (.int c0), .val (.int c1), .val (.int c2), .val (.ref b101), .val (.ref b103), .val (.ref b108), .val (.ref b116), .unset, .unset, .unset, .unset]) rfl ?_
    show Go p e below T125 (mkF m 79 #[vi p1, vi p2, vi p3, vi p4, vi 3, vi c0, vi c1, vi c2, vr b101, vr b103, vr b108, vr b116, .unset, .unset, .unset, .unset] []) _
    refine XS.aload X125.here hx rfl (hb hby at_79) rfl rfl ?_
    show Go p e below T125 (mkF m 81 #[vi p1, vi p2, vi p3, vi p4, vi 3, vi c0, vi c1, vi c2, vr b101, vr b103, vr b108, vr b116, .unset, .unset, .unset, .unset] [wr b101]) _
    refine XS.astore X125.here hx rfl (hb hby at_81) rfl rfl (l' := #[.val (.int p1), .val (.int p2), .val (.int p3), .val (.int p4), .val (.int (3 : Int32)), .val (.int c0), .val (.int c1), .val (.int c2), .val (.ref b101), .val (.ref b103), .val (.ref b108), .val (.ref b116), .val (.ref b101), .unset, .unset, .unset]) rfl ?_
    show Go p e below T125 (mkF m 83 #[vi p1, vi p2, vi p3, vi p4, vi 3, vi c0, vi c1, vi c2, vr b101, vr b103, vr b108, vr b116, vr b101, .unset, .unset, .unset] []) _
    refine XS.iload X125.here hx rfl (hb hby at_83) rfl ?_
    show Go p e below T125 (mkF m 85 #[vi p1, vi p2, vi p3, vi p4, vi 3, vi c0, vi c1, vi c2, vr b101, vr b103, vr b108, vr b116, vr b101, .unset, .unset, .unset] [wi 3]) _
    refine XS.iconst X125.here hx rfl (hb hby at_85) ?_
    show Go p e below T125 (mkF m 86 #[vi p1, vi p2, vi p3, vi p4, vi 3, vi c0, vi c1, vi c2, vr b101, vr b103, vr b108, vr b116, vr b101, .unset, .unset, .unset] [wi 1, wi 3]) _
    refine XS.icmpYes X125.here hx rfl (pc0 := 86) (pc' := 96) rfl (hb hby at_86) rfl (feq (by decide : ¬ ((3 : Int32) = (1 : Int32)))).2 (by decide) (by decide) ?_
    show Go p e below T125 (mkF m 96 #[vi p1, vi p2, vi p3, vi p4, vi 3, vi c0, vi c1, vi c2, vr b101, vr b103, vr b108, vr b116, vr b101, .unset, .unset, .unset] []) _
    refine XS.iload X125.here hx rfl (hb hby at_96) rfl ?_
    show Go p e below T125 (mkF m 98 #[vi p1, vi p2, vi p3, vi p4, vi 3, vi c0, vi c1, vi c2, vr b101, vr b103, vr b108, vr b116, vr b101, .unset, .unset, .unset] [wi 3]) _
    refine XS.iconst X125.here hx rfl (hb hby at_98) ?_
    show Go p e below T125 (mkF m 99 #[vi p1, vi p2, vi p3, vi p4, vi 3, vi c0, vi c1, vi c2, vr b101, vr b103, vr b108, vr b116, vr b101, .unset, .unset, .unset] [wi 2, wi 3]) _
    refine XS.icmpYes X125.here hx rfl (pc0 := 99) (pc' := 109) rfl (hb hby at_99) rfl (feq (by decide : ¬ ((3 : Int32) = (2 : Int32)))).2 (by decide) (by decide) ?_
    show Go p e below T125 (mkF m 109 #[vi p1, vi p2, vi p3, vi p4, vi 3, vi c0, vi c1, vi c2, vr b101, vr b103, vr b108, vr b116, vr b101, .unset, .unset, .unset] []) _
    refine XS.iload X125.here hx rfl (hb hby at_109) rfl ?_
    show Go p e below T125 (mkF m 111 #[vi p1, vi p2, vi p3, vi p4, vi 3, vi c0, vi c1, vi c2, vr b101, vr b103, vr b108, vr b116, vr b101, .unset, .unset, .unset] [wi 3]) _
    refine XS.iconst X125.here hx rfl (hb hby at_111) ?_
    show Go p e below T125 (mkF m 112 #[vi p1, vi p2, vi p3, vi p4, vi 3, vi c0, vi c1, vi c2, vr b101, vr b103, vr b108, vr b116, vr b101, .unset, .unset, .unset] [wi 3, wi 3]) _
    refine XS.icmpNo X125.here hx rfl (hb hby at_112) rfl (teq (rfl : (3 : Int32) = (3 : Int32))).2 ?_
    show Go p e below T125 (mkF m 115 #[vi p1, vi p2, vi p3, vi p4, vi 3, vi c0, vi c1, vi c2, vr b101, vr b103, vr b108, vr b116, vr b101, .unset, .unset, .unset] []) _
    refine XS.aload X125.here hx rfl (hb hby at_115) rfl rfl ?_
    show Go p e below T125 (mkF m 117 #[vi p1, vi p2, vi p3, vi p4, vi 3, vi c0, vi c1, vi c2, vr b101, vr b103, vr b108, vr b116, vr b101, .unset, .unset, .unset] [wr b116]) _
    refine XS.astore X125.here hx rfl (hb hby at_117) rfl rfl (l' := #[.val (.int p1), .val (.int p2), .val (.int p3), .val (.int p4), .val (.int (3 : Int32)), .val (.int c0), .val (.int c1), .val (.int c2), .val (.ref b101), .val (.ref b103), .val (.ref b108), .val (.ref b116), .val (.ref b116), .unset, .unset, .unset]) rfl ?_
    show Go p e below T125 (mkF m 119 #[vi p1, vi p2, vi p3, vi p4, vi 3, vi c0, vi c1, vi c2, vr b101, vr b103, vr b108, vr b116, vr b116, .unset, .unset, .unset] []) _
    refine st127 _ ?_
    show Go p e below T127 (mkF m 122 #[vi p1, vi p2, vi p3, vi p4, vi 3, vi c0, vi c1, vi c2, vr b101, vr b103, vr b108, vr b116, vr b116, .unset, .unset, .unset] [wr b127]) _
    refine XS.dup X127.here hx rfl (hb hby at_122) rfl rfl ?_
    show Go p e below T127 (mkF m 123 #[vi p1, vi p2, vi p3, vi p4, vi 3, vi c0, vi c1, vi c2, vr b101, vr b103, vr b108, vr b116, vr b116, .unset, .unset, .unset] [wr b127, wr b127]) _
    refine XS.aload X127.here hx rfl (hb hby at_123) rfl rfl ?_
    show Go p e below T127 (mkF m 125 #[vi p1, vi p2, vi p3, vi p4, vi 3, vi c0, vi c1, vi c2, vr b101, vr b103, vr b108, vr b116, vr b116, .unset, .unset, .unset] [wr b116, wr b127, wr b127]) _
    refine st135.trans ?_
    show Go p e below T135 (mkF m 128 #[vi p1, vi p2, vi p3, vi p4, vi 3, vi c0, vi c1, vi c2, vr b101, vr b103, vr b108, vr b116, vr b116, .unset, .unset, .unset] [wr b127]) _
    refine XS.astore X135.here hx rfl (hb hby at_128) rfl rfl (l' := #[.val (.int p1), .val (.int p2), .val (.int p3), .val (.int p4), .val (.int (3 : Int32)), .val (.int c0), .val (.int c1), .val (.int c2), .val (.ref b101), .val (.ref b103), .val (.ref b108), .val (.ref b116), .val (.ref b116), .val (.ref b127), .unset, .unset]) rfl ?_
    show Go p e below T135 (mkF m 130 #[vi p1, vi p2, vi p3, vi p4, vi 3, vi c0, vi c1, vi c2, vr b101, vr b103, vr b108, vr b116, vr b116, vr b127, .unset, .unset] []) _
    refine XS.aload X135.here hx rfl (hb hby at_130) rfl rfl ?_
    show Go p e below T135 (mkF m 132 #[vi p1, vi p2, vi p3, vi p4, vi 3, vi c0, vi c1, vi c2, vr b101, vr b103, vr b108, vr b116, vr b116, vr b127, .unset, .unset] [wr b127]) _
    refine st141.trans ?_
    show Go p e below T141 (mkF m 135 #[vi p1, vi p2, vi p3, vi p4, vi 3, vi c0, vi c1, vi c2, vr b101, vr b103, vr b108, vr b116, vr b116, vr b127, .unset, .unset] [wr ur141]) _
    refine XS.astore X141r.here hx rfl (hb hby at_135) rfl rfl (l' := #[.val (.int p1), .val (.int p2), .val (.int p3), .val (.int p4), .val (.int (3 : Int32)), .val (.int c0), .val (.int c1), .val (.int c2), .val (.ref b101), .val (.ref b103), .val (.ref b108), .val (.ref b116), .val (.ref b116), .val (.ref b127), .val (.ref ur141), .unset]) rfl ?_
    show Go p e below T141 (mkF m 137 #[vi p1, vi p2, vi p3, vi p4, vi 3, vi c0, vi c1, vi c2, vr b101, vr b103, vr b108, vr b116, vr b116, vr b127, vr ur141, .unset] []) _
    refine XS.aload X141r.here hx rfl (hb hby at_137) rfl rfl ?_
    show Go p e below T141 (mkF m 139 #[vi p1, vi p2, vi p3, vi p4, vi 3, vi c0, vi c1, vi c2, vr b101, vr b103, vr b108, vr b116, vr b116, vr b127, vr ur141, .unset] [wr ur141]) _
    refine XS.ifnonnullYes X141r.here hx rfl (pc0 := 139) (pc' := 144) rfl (hb hby at_139) rfl (by decide) (by decide) ?_
    show Go p e below T141 (mkF m 144 #[vi p1, vi p2, vi p3, vi p4, vi 3, vi c0, vi c1, vi c2, vr b101, vr b103, vr b108, vr b116, vr b116, vr b127, vr ur141, .unset] []) _
    refine XS.aload X141r.here hx rfl (hb hby at_144) rfl rfl ?_
    show Go p e below T141 (mkF m 146 #[vi p1, vi p2, vi p3, vi p4, vi 3, vi c0, vi c1, vi c2, vr b101, vr b103, vr b108, vr b116, vr b116, vr b127, vr ur141, .unset] [wr ur141]) _
    refine st150.trans ?_
    show Go p e below T150 (mkF m 149 #[vi p1, vi p2, vi p3, vi p4, vi 3, vi c0, vi c1, vi c2, vr b101, vr b103, vr b108, vr b116, vr b116, vr b127, vr ur141, .unset] [wr ux141]) _
    refine XS.astore X150.here hx rfl (hb hby at_149) rfl rfl (l' := #[.val (.int p1), .val (.int p2), .val (.int p3), .val (.int p4), .val (.int (3 : Int32)), .val (.int c0), .val (.int c1), .val (.int c2), .val (.ref b101), .val (.ref b103), .val (.ref b108), .val (.ref b116), .val (.ref b116), .val (.ref b127), .val (.ref ur141), .val (.ref ux141)]) rfl ?_
    show Go p e below T150 (mkF m 151 #[vi p1, vi p2, vi p3, vi p4, vi 3, vi c0, vi c1, vi c2, vr b101, vr b103, vr b108, vr b116, vr b116, vr b127, vr ur141, vr ux141] []) _
    refine XS.aload X150.here hx rfl (hb hby at_151) rfl rfl ?_
    show Go p e below T150 (mkF m 153 #[vi p1, vi p2, vi p3, vi p4, vi 3, vi c0, vi c1, vi c2, vr b101, vr b103, vr b108, vr b116, vr b116, vr b127, vr ur141, vr ux141] [wr ux141]) _
    refine XS.ifnonnullYes X150.here hx rfl (pc0 := 153) (pc' := 158) rfl (hb hby at_153) rfl (by decide) (by decide) ?_
    show Go p e below T150 (mkF m 158 #[vi p1, vi p2, vi p3, vi p4, vi 3, vi c0, vi c1, vi c2, vr b101, vr b103, vr b108, vr b116, vr b116, vr b127, vr ur141, vr ux141] []) _
    refine XS.aload X150.here hx rfl (hb hby at_158) rfl rfl ?_
    show Go p e below T150 (mkF m 160 #[vi p1, vi p2, vi p3, vi p4, vi 3, vi c0, vi c1, vi c2, vr b101, vr b103, vr b108, vr b116, vr b116, vr b127, vr ur141, vr ux141] [wr ux141]) _
    refine st151.trans ?_
    show Go p e below T151 (mkF m 163 #[vi p1, vi p2, vi p3, vi p4, vi 3, vi c0, vi c1, vi c2, vr b101, vr b103, vr b108, vr b116, vr b116, vr b127, vr ur141, vr ux141] [wi 24]) _
    refine XS.iload X151.here hx rfl (hb hby at_163) rfl ?_
    show Go p e below T151 (mkF m 165 #[vi p1, vi p2, vi p3, vi p4, vi 3, vi c0, vi c1, vi c2, vr b101, vr b103, vr b108, vr b116, vr b116, vr b127, vr ur141, vr ux141] [wi 3, wi 24]) _
    refine XS.bipush X151.here hx rfl (hb hby at_165) ?_
    show Go p e below T151 (mkF m 167 #[vi p1, vi p2, vi p3, vi p4, vi 3, vi c0, vi c1, vi c2, vr b101, vr b103, vr b108, vr b116, vr b116, vr b127, vr ur141, vr ux141] [wi 21, wi 3, wi 24]) _
    refine XS.iadd X151.here hx rfl (hb hby at_167) rfl ?_
    show Go p e below T151 (mkF m 168 #[vi p1, vi p2, vi p3, vi p4, vi 3, vi c0, vi c1, vi c2, vr b101, vr b103, vr b108, vr b116, vr b116, vr b127, vr ur141, vr ux141] [wi 24, wi 24]) _
    refine XS.icmpYes X151.here hx rfl (pc0 := 168) (pc' := 173) rfl (hb hby at_168) rfl (teq (rfl : (24 : Int32) = (24 : Int32))).1 (by decide) (by decide) ?_
    show Go p e below T151 (mkF m 173 #[vi p1, vi p2, vi p3, vi p4, vi 3, vi c0, vi c1, vi c2, vr b101, vr b103, vr b108, vr b116, vr b116, vr b127, vr ur141, vr ux141] []) _
    refine XS.iload X151.here hx rfl (hb hby at_173) rfl ?_
    show Go p e below T151 (mkF m 175 #[vi p1, vi p2, vi p3, vi p4, vi 3, vi c0, vi c1, vi c2, vr b101, vr b103, vr b108, vr b116, vr b116, vr b127, vr ur141, vr ux141] [wi 3]) _
    refine XS.iconst X151.here hx rfl (hb hby at_175) ?_
    show Go p e below T151 (mkF m 176 #[vi p1, vi p2, vi p3, vi p4, vi 3, vi c0, vi c1, vi c2, vr b101, vr b103, vr b108, vr b116, vr b116, vr b127, vr ur141, vr ux141] [wi 1, wi 3]) _
    refine XS.icmpNo X151.here hx rfl (hb hby at_176) rfl (flt (by decide : ¬ ((3 : Int32) < (1 : Int32)))).1 ?_
    show Go p e below T151 (mkF m 179 #[vi p1, vi p2, vi p3, vi p4, vi 3, vi c0, vi c1, vi c2, vr b101, vr b103, vr b108, vr b116, vr b116, vr b127, vr ur141, vr ux141] []) _
    refine XS.aload X151.here hx rfl (hb hby at_179) rfl rfl ?_
    show Go p e below T151 (mkF m 181 #[vi p1, vi p2, vi p3, vi p4, vi 3, vi c0, vi c1, vi c2, vr b101, vr b103, vr b108, vr b116, vr b116, vr b127, vr ur141, vr ux141] [wr ux141]) _
    refine XS.iconst X151.here hx rfl (hb hby at_181) ?_
    show Go p e below T151 (mkF m 182 #[vi p1, vi p2, vi p3, vi p4, vi 3, vi c0, vi c1, vi c2, vr b101, vr b103, vr b108, vr b116, vr b116, vr b127, vr ur141, vr ux141] [wi 0, wr ux141]) _
    refine st152.trans ?_
    show Go p e below T152 (mkF m 185 #[vi p1, vi p2, vi p3, vi p4, vi 3, vi c0, vi c1, vi c2, vr b101, vr b103, vr b108, vr b116, vr b116, vr b127, vr ur141, vr ux141] [wi (nar .char c0)]) _
    refine XS.iload X152.here hx rfl (hb hby at_185) rfl ?_
    show Go p e below T152 (mkF m 187 #[vi p1, vi p2, vi p3, vi p4, vi 3, vi c0, vi c1, vi c2, vr b101, vr b103, vr b108, vr b116, vr b116, vr b127, vr ur141, vr ux141] [wi c0, wi (nar .char c0)]) _
    refine XS.icmpYes X152.here hx rfl (pc0 := 187) (pc' := 192) rfl (hb hby at_187) rfl (teq hc187).1 (by decide) (by decide) ?_
    show Go p e below T152 (mkF m 192 #[vi p1, vi p2, vi p3, vi p4, vi 3, vi c0, vi c1, vi c2, vr b101, vr b103, vr b108, vr b116, vr b116, vr b127, vr ur141, vr ux141] []) _
    refine XS.iload X152.here hx rfl (hb hby at_192) rfl ?_
    show Go p e below T152 (mkF m 194 #[vi p1, vi p2, vi p3, vi p4, vi 3, vi c0, vi c1, vi c2, vr b101, vr b103, vr b108, vr b116, vr b116, vr b127, vr ur141, vr ux141] [wi 3]) _
    refine XS.iconst X152.here hx rfl (hb hby at_194) ?_
    show Go p e below T152 (mkF m 195 #[vi p1, vi p2, vi p3, vi p4, vi 3, vi c0, vi c1, vi c2, vr b101, vr b103, vr b108, vr b116, vr b116, vr b127, vr ur141, vr ux141] [wi 2, wi 3]) _
    refine XS.icmpNo X152.here hx rfl (hb hby at_195) rfl (flt (by decide : ¬ ((3 : Int32) < (2 : Int32)))).1 ?_
    show Go p e below T152 (mkF m 198 #[vi p1, vi p2, vi p3, vi p4, vi 3, vi c0, vi c1, vi c2, vr b101, vr b103, vr b108, vr b116, vr b116, vr b127, vr ur141, vr ux141] []) _
    refine XS.aload X152.here hx rfl (hb hby at_198) rfl rfl ?_
    show Go p e below T152 (mkF m 200 #[vi p1, vi p2, vi p3, vi p4, vi 3, vi c0, vi c1, vi c2, vr b101, vr b103, vr b108, vr b116, vr b116, vr b127, vr ur141, vr ux141] [wr ux141]) _
    refine XS.iconst X152.here hx rfl (hb hby at_200) ?_
    show Go p e below T152 (mkF m 201 #[vi p1, vi p2, vi p3, vi p4, vi 3, vi c0, vi c1, vi c2, vr b101, vr b103, vr b108, vr b116, vr b116, vr b127, vr ur141, vr ux141] [wi 1, wr ux141]) _
    refine st153.trans ?_
    show Go p e below T153 (mkF m 204 #[vi p1, vi p2, vi p3, vi p4, vi 3, vi c0, vi c1, vi c2, vr b101, vr b103, vr b108, vr b116, vr b116, vr b127, vr ur141, vr ux141] [wi (nar .char c1)]) _
    refine XS.iload X153.here hx rfl (hb hby at_204) rfl ?_
    show Go p e below T153 (mkF m 206 #[vi p1, vi p2, vi p3, vi p4, vi 3, vi c0, vi c1, vi c2, vr b101, vr b103, vr b108, vr b116, vr b116, vr b127, vr ur141, vr ux141] [wi c1, wi (nar .char c1)]) _
    refine XS.icmpYes X153.here hx rfl (pc0 := 206) (pc' := 211) rfl (hb hby at_206) rfl (teq hc206).1 (by decide) (by decide) ?_
    show Go p e below T153 (mkF m 211 #[vi p1, vi p2, vi p3, vi p4, vi 3, vi c0, vi c1, vi c2, vr b101, vr b103, vr b108, vr b116, vr b116, vr b127, vr ur141, vr ux141] []) _
    refine XS.iload X153.here hx rfl (hb hby at_211) rfl ?_
    show Go p e below T153 (mkF m 213 #[vi p1, vi p2, vi p3, vi p4, vi 3, vi c0, vi c1, vi c2, vr b101, vr b103, vr b108, vr b116, vr b116, vr b127, vr ur141, vr ux141] [wi 3]) _
    refine XS.iconst X153.here hx rfl (hb hby at_213) ?_
    show Go p e below T153 (mkF m 214 #[vi p1, vi p2, vi p3, vi p4, vi 3, vi c0, vi c1, vi c2, vr b101, vr b103, vr b108, vr b116, vr b116, vr b127, vr ur141, vr ux141] [wi 3, wi 3]) _
    refine XS.icmpNo X153.here hx rfl (hb hby at_214) rfl (flt (by decide : ¬ ((3 : Int32) < (3 : Int32)))).1 ?_
    show Go p e below T153 (mkF m 217 #[vi p1, vi p2, vi p3, vi p4, vi 3, vi c0, vi c1, vi c2, vr b101, vr b103, vr b108, vr b116, vr b116, vr b127, vr ur141, vr ux141] []) _
    refine XS.aload X153.here hx rfl (hb hby at_217) rfl rfl ?_
    show Go p e below T153 (mkF m 219 #[vi p1, vi p2, vi p3, vi p4, vi 3, vi c0, vi c1, vi c2, vr b101, vr b103, vr b108, vr b116, vr b116, vr b127, vr ur141, vr ux141] [wr ux141]) _
    refine XS.iconst X153.here hx rfl (hb hby at_219) ?_
    show Go p e below T153 (mkF m 220 #[vi p1, vi p2, vi p3, vi p4, vi 3, vi c0, vi c1, vi c2, vr b101, vr b103, vr b108, vr b116, vr b116, vr b127, vr ur141, vr ux141] [wi 2, wr ux141]) _
    refine st154.trans ?_
    show Go p e below T154 (mkF m 223 #[vi p1, vi p2, vi p3, vi p4, vi 3, vi c0, vi c1, vi c2, vr b101, vr b103, vr b108, vr b116, vr b116, vr b127, vr ur141, vr ux141] [wi (nar .char c2)]) _
    refine XS.iload X154.here hx rfl (hb hby at_223) rfl ?_
    show Go p e below T154 (mkF m 225 #[vi p1, vi p2, vi p3, vi p4, vi 3, vi c0, vi c1, vi c2, vr b101, vr b103, vr b108, vr b116, vr b116, vr b127, vr ur141, vr ux141] [wi c2, wi (nar .char c2)]) _
    refine XS.icmpYes X154.here hx rfl (pc0 := 225) (pc' := 230) rfl (hb hby at_225) rfl (teq hc225).1 (by decide) (by decide) ?_
    show Go p e below T154 (mkF m 230 #[vi p1, vi p2, vi p3, vi p4, vi 3, vi c0, vi c1, vi c2, vr b101, vr b103, vr b108, vr b116, vr b116, vr b127, vr ur141, vr ux141] []) _
    refine XS.aload X154.here hx rfl (hb hby at_230) rfl rfl ?_
    show Go p e below T154 (mkF m 232 #[vi p1, vi p2, vi p3, vi p4, vi 3, vi c0, vi c1, vi c2, vr b101, vr b103, vr b108, vr b116, vr b116, vr b127, vr ur141, vr ux141] [wr ux141]) _
    refine XS.iload X154.here hx rfl (hb hby at_232) rfl ?_
    show Go p e below T154 (mkF m 234 #[vi p1, vi p2, vi p3, vi p4, vi 3, vi c0, vi c1, vi c2, vr b101, vr b103, vr b108, vr b116, vr b116, vr b127, vr ur141, vr ux141] [wi 3, wr ux141]) _
    refine st155 _ ?_
    show Go p e below T155 (mkF m 237 #[vi p1, vi p2, vi p3, vi p4, vi 3, vi c0, vi c1, vi c2, vr b101, vr b103, vr b108, vr b116, vr b116, vr b127, vr ur141, vr ux141] [wi 1]) _
    exact retN X155 hx (t := .boolean) Bd.returns (by simp) (hb hby at_237) hr
  · show Q0 h0 n0 _ T155.heap _
    rw [eq155]
    exact ⟨rfl, N155⟩
set_option maxRecDepth 65536 in
set_option maxHeartbeats 40000000 in
theorem rm0 (l : Launch) (Z : State) (a0 : Array Value) (hw : ∀ d ∈ tables_1, d.before a0 Z = true) (ws : List Jvm.Cond) (p1 : Int32) (p2 : Int32) (p3 : Int32) (p4 : Int32) (fm : Value) (G1 : Int32) (h0 : Heap) (n0 : Nat) (X00 : Old Z n0 h0) (hl : l.stackTraces = true) (hr2 : ∀ d ∈ twoRefs, d.before a0 Z = true) (O2 : Sta Z Z.heap "java/lang/String" "COMPACT_STRINGS" "Z" (.int G1)) (P5 : ¬ (G1 = (0 : Int32))) (FM : Sta Z Z.heap "jdk/internal/util/Preconditions" "SIOOBE_FORMATTER" "Ljava/util/function/BiFunction;" fm) (rf : fm.isRef = true) :
    MetFree l x (head1 (Jvm.Cond.code x code maxLocals ret :: ws) room_1) (fun a U => a = #[(.int p1), (.int p2), (.int p3), (.int p4)] ∧ Z.Warmed39 U.vm ∧ U.heap = h0 ∧ CHv Z consts_1 U.vm h0) (fun _ _ bl s _ => s.vm.MethodsKnown ∧ s.vm.FramesKnown bl) (fun _ U o U' => ∃ rv rL, o = .returned rv ∧ Q0 h0 n0 rv U'.heap rL ∧ ReturnedEndW U o U' rL room_1.cells room_1.slots) := by
  rcases own_and3 p1 with c | c | c | c
  · exact rm0_0 l Z a0 hw ws p1 p2 p3 p4 fm G1 h0 n0 X00 hl hr2 O2 P5 FM rf c
  · exact rm0_1 l Z a0 hw ws p1 p2 p3 p4 fm G1 h0 n0 X00 hl hr2 O2 P5 FM rf c
  · exact rm0_2 l Z a0 hw ws p1 p2 p3 p4 fm G1 h0 n0 X00 hl hr2 O2 P5 FM rf c
  · exact rm0_3 l Z a0 hw ws p1 p2 p3 p4 fm G1 h0 n0 X00 hl hr2 O2 P5 FM rf c
theorem own_len {s : State} {args : Array Value} {t : Term} {b : Addr} {c : Cell} {ty : FieldType} {z : Int32} (et : t.eval args s none [] s = some (.ref b)) (A : Arr s s.heap b c ty) (h : (Term.length t).eval args s none [] s = some (.int z)) : c.slots.size < 2 ^ 31 ∧ c.slots.size.toInt32 = z := by
  have ha : s.arrayAt? b = some c := Arr.fin (Vm.Alike.refl _) A
  by_cases q : c.slots.size < 2 ^ 31
  · refine ⟨q, ?_⟩
    have := (len_f et ha q).symm.trans h
    simpa using this
  · simp [Term.eval, et, ha, q] at h
theorem own_isref {s : State} {args : Array Value} {t : Term} (h : (Cond.isRef t).value args s none s [] = some true) : ∃ v : Value, t.eval args s none [] s = some v ∧ v.isRef = true := by
  simp only [Cond.value] at h
  cases e : t.eval args s none [] s with
  | none => simp [e] at h
  | some v => exact ⟨v, rfl, by cases v <;> simp_all [Value.isRef]⟩
set_option maxRecDepth 65536 in
set_option maxHeartbeats 40000000 in
theorem comes_1 {Post : Tables → Env → Array Value → State → Outcome → State → Prop} (hpost : ∀ tb e args s v u, (limb_1_1.after args s (.returned v) u = true ∧ limb_1_2.after args s (.returned v) u = true ∧ True) → ReturnedEndW s (.returned v) u (Jvm.fieldLocs frame_1_writes args s ++ Jvm.arrayLocs frame_1_arrays args s ++ Jvm.staticLocs frame_1_statics s) 40 7872 → Post tb e args s (.returned v) u) :
    ArmFor flags0 classFile x code maxLocals ret World_1 tables_1 room_1 Calls_1 rest_1 Pre_1 Post := by
  intro l hfl _ _ p e ha hc hk s m args below hf hA hF happ hP
  obtain ⟨hcalls, hrest, hpre⟩ := hP
  obtain ⟨-, -, -, hnamed, -, -, -, hat⟩ := (Spec.applies_iff hf).mp happ
  obtain ⟨hg, hn⟩ := and_e (Cond.before_iff.mp (show (Jvm.Cond.and given_1 narrow_1).before args s = true from hpre))
  obtain ⟨hcount, hg0⟩ := and_e hg
  obtain ⟨ga0, hg1⟩ := and_e hg0
  obtain ⟨ga1, hg2⟩ := and_e hg1
  obtain ⟨ga2, hg3⟩ := and_e hg2
  have ga3 := hg3
  obtain ⟨w0, w1, w2, w3, rfl⟩ : ∃ w0 w1 w2 w3 : Value, args = #[w0, w1, w2, w3] := by
    have hs : args.size = 4 := by simpa [Cond.value, given_1] using hcount
    obtain ⟨L⟩ := args
    match L, hs with
    | [w0, w1, w2, w3], _ => exact ⟨w0, w1, w2, w3, rfl⟩
  have hw := fun d (hd : d ∈ tables_1) => atoms_spec (ws := Jvm.Cond.code x code maxLocals ret :: tables_1) hat d (List.mem_cons_of_mem _ hd)
  have hfit : Fit s := fun {y c} hc i hi => by
    obtain ⟨ha, rfl⟩ := Array.getElem?_eq_some_iff.mp hc
    have q := List.all_eq_true.mp ((Array.all_eq_true_iff_forall_mem.mp hF) _ (Array.getElem_mem ha)) i (List.mem_range.mpr hi)
    simpa [Array.getElem?_eq_getElem hi] using q
  obtain ⟨hsets, hown0⟩ := atoms_of _ (rest_1_c_eq ▸ (show rest_1_c.before _ s = true from hrest))
  obtain ⟨i0, ei0⟩ := is_v ga0
  obtain rfl : w0 = (.int i0) := Option.some.inj ei0
  obtain ⟨i1, ei1⟩ := is_v ga1
  obtain rfl : w1 = (.int i1) := Option.some.inj ei1
  obtain ⟨i2, ei2⟩ := is_v ga2
  obtain rfl : w2 = (.int i2) := Option.some.inj ei2
  obtain ⟨i3, ei3⟩ := is_v ga3
  obtain rfl : w3 = (.int i3) := Option.some.inj ei3
  have n5 := not_v (Cond.before_iff.mp (hsets _ (List.mem_of_getElem? (i := 2) rfl)))
  obtain ⟨gc, ec⟩ := is_v (Cond.before_iff.mp (hsets _ (List.mem_of_getElem? (i := 1) rfl)))
  have Sc : Sta s s.heap "java/lang/String" "COMPACT_STRINGS" "Z" (.int gc) := Sta.start ec (Or.inl (hsets _ (List.mem_of_getElem? (i := 0) rfl)))
  have c17 : ¬ (gc = (0 : Int32)) := gotF (Cond.eq_ints ec (Term.int_eval (0))) n5
  obtain ⟨fm, efm, rf⟩ := own_isref (Cond.before_iff.mp (hsets _ (List.mem_of_getElem? (i := 8) rfl)))
  have FM : Sta s s.heap "jdk/internal/util/Preconditions" "SIOOBE_FORMATTER" "Ljava/util/function/BiFunction;" fm := Sta.start efm (Or.inl (hsets _ (List.mem_of_getElem? (i := 7) rfl)))
  have hl : l.stackTraces = true := by unfold Launch.stackTraces; rw [hfl]; decide
  have hr2 := two_refs hfit (tw hw 200 rfl) (tw hw 201 rfl)
  have hCH : CHv s consts_1 s.vm s.heap := CHv.start (own_EL hw) hcalls.2.2.1 (hsets _ (List.mem_of_getElem? (i := 2) rfl)) (tw hw 15 rfl) (tw hw 2 rfl)
  have hTK := MethodsKnown_of_tablesKnown hcalls.2.1
  have hBel := FramesKnown_of_framesKnown hcalls.1 hf
  obtain ⟨n, o, h1, h2, h3, _, L, rfl, ⟨rfl, N⟩, hq⟩ := rm0 l s _ hw tables_1 i0 i1 i2 i3 fm gc s.heap s.heap.size (Old.start s) hl hr2 Sc c17 FM rf p e ha hc hk s m _ below hf ((Spec.applies_iff_loose hf).mp happ).1 ⟨rfl, State.Warmed39.refl s, rfl, hCH⟩ ⟨hTK, hBel⟩
  refine ⟨n, _, h1, h2, h3, hpost _ _ _ _ _ _ ⟨Cond.after_iff.mpr rfl, Cond.after_iff.mpr (eq_i res_at (Term.int_eval (1)) rfl), trivial⟩ ⟨hq.1, hq.2.1, hq.2.2.1, (hq.2.2.2.sift fun y hy => Or.inr (N y hy)).mono (by decide) (by decide)⟩⟩
theorem main_1_1 : Claimed_1_1 := comes_1 fun _ _ _ _ _ _ h hF => ⟨h.1, hF⟩
theorem main_1_2 : Claimed_1_2 := comes_1 fun _ _ _ _ _ _ h hF => ⟨h.2.1, hF⟩
end Jvm.Pilot.@@N@@
namespace Jvm.Pilot.@@N@@
open Jvm Jvm.ClassFile Sem Op Lib Jvm.Free Jvm.Stand Jvm.Pilot.@@N@@.Jvm.D
/-! MADE BY PROGRAM (witnessworld.py) out of the Statement's table words and the real class files: 41 classes; the members and pool entries that the words name. The judged class is class 1, her method 2. -/
namespace start1
open Jvm.ClassFile
def u (s : String) : CpInfo := .utf8 (stringToUtf16 s)
/-- a pool by its gaps: so many unusable entries, then the entry; so many at the end -/
def gap : Nat → List CpInfo → List CpInfo
  | 0, r => r
  | n + 1, r => .unusable :: gap n r
def poolList (es : List (Nat × CpInfo)) (last : Nat) : List CpInfo := es.foldr (fun e r => gap e.1 (e.2 :: r)) (gap last [])
def pool (es : List (Nat × CpInfo)) (last : Nat) : Array CpInfo := ⟨poolList es last⟩
def fileOf (pool : Array CpInfo) (this : Nat) (attrs : Array Attribute := #[]) (ms : Array MethodInfo := #[]) (fl : Nat := 33) (sup : Nat := 0) (ifs : Array Nat := #[]) (fds : Array FieldInfo := #[]) : ClassFile where
  minorVersion := 0
  majorVersion := 65
  constantPool := pool
  accessFlags := fl
  thisClass := this
  superClass := sup
  interfaces := ifs
  fields := fds
  methods := ms
  attributes := attrs
def plain (name : String) (sup : Option ClassId) : Class where
  name := name
  kind := .ordinary
  loader := none
  accessFlags := 33
  super := sup
  interfaces := #[]
  cf := none
  fields := #[]
  methods := #[]
  instanceTypes := #[]
  staticTypes := #[]
  resolved := #[]
  callSites := []
  init := .initialized
  statics := none
  mirror := none

def pool0 : Array CpInfo := pool [(5, u "<init>"), (0, u "()V"), (1, .class_ 10), (1, u "java/lang/Object")] 113

def k0c0 : Code := { maxStack := 0, maxLocals := 1, code := object_method_1_code, exceptionTable := #[], attributes := #[] }
def k0m0 : Method := { name := "<init>", desc := "()V", sig := { parameters := [], returnType := none }, accessFlags := 1, code := some k0c0 }
/-- java/lang/Object -/
def k0 : Class := { plain "java/lang/Object" none with
  accessFlags := 33
  interfaces := #[]
  cf := some (fileOf pool0 8 #[] #[{ accessFlags := 1, nameIndex := 5, descriptorIndex := 6, attributes := #[] }] 33 0 #[] #[])
  fields := #[]
  methods := #[k0m0]
  instanceTypes := #[]
  staticTypes := #[]
  resolved := Array.replicate 124 none
  statics := none }

def pool1 : Array CpInfo := pool [(2, .class_ 4), (1, u "java/lang/Object"), (0, u "<init>"), (0, u "()V"), (0, .methodref 8 9), (0, .class_ 10), (0, .nameAndType 11 12), (0, u "java/lang/String"), (0, u "charAt"), (0, u "(I)C"), (0, .methodref 8 14), (0, .nameAndType 5 15), (0, u "([C)V"), (0, .methodref 17 18), (0, .class_ 19), (0, .nameAndType 20 21), (0, u "com/example/queryloom/queryloom/translation/TranslationException"), (0, u "unsupported"), (0, u "(Ljava/lang/String;)Lcom/example/queryloom/queryloom/translation/TranslationException;"), (0, .methodref 17 23), (0, .nameAndType 24 25), (0, u "getMessage"), (0, u "()Ljava/lang/String;"), (0, .methodref 8 27), (0, .nameAndType 28 29), (0, u "length"), (0, u "()I"), (0, .methodref 31 32), (0, .class_ 33), (0, .nameAndType 34 35), (0, u "com/example/queryloom/queryloom/translation/TranslationExceptionUnsupportedPinLaw"), (0, u "suffixAt"), (0, u "(Ljava/lang/String;I)Z"), (3, u "law"), (0, u "(IIII)Z")] 4

def k1m0 : Method := { name := "<init>", desc := "()V", sig := { parameters := [], returnType := none }, accessFlags := 1, code := none }
def k1c1 : Code := { maxStack := 3, maxLocals := 2, code := method_2_code, exceptionTable := #[], attributes := #[] }
def k1m1 : Method := { name := "suffixAt", desc := "(Ljava/lang/String;I)Z", sig := { parameters := [(.object "java/lang/String"), .int], returnType := some .boolean }, accessFlags := 10, code := some k1c1 }
def k1c2 : Code := { maxStack := 4, maxLocals := 16, code := code, exceptionTable := #[], attributes := #[] }
def k1m2 : Method := { name := "law", desc := "(IIII)Z", sig := { parameters := [.int, .int, .int, .int], returnType := some .boolean }, accessFlags := 9, code := some k1c2 }
/-- com/example/queryloom/queryloom/translation/TranslationExceptionUnsupportedPinLaw -/
def k1 : Class := { plain "com/example/queryloom/queryloom/translation/TranslationExceptionUnsupportedPinLaw" (some 0) with
  accessFlags := 49
  interfaces := #[]
  cf := some (fileOf pool1 31 #[] #[{ accessFlags := 1, nameIndex := 5, descriptorIndex := 6, attributes := #[] }, { accessFlags := 10, nameIndex := 34, descriptorIndex := 35, attributes := #[] }, { accessFlags := 9, nameIndex := 39, descriptorIndex := 40, attributes := #[] }] 49 2 #[] #[])
  fields := #[]
  methods := #[k1m0, k1m1, k1m2]
  instanceTypes := #[]
  staticTypes := #[]
  resolved := Array.replicate 45 none
  statics := none }

def pool2 : Array CpInfo := pool [(1, .class_ 2), (0, u "java/io/Serializable"), (0, .class_ 4), (0, u "java/lang/Object")] 2

/-- java/io/Serializable -/
def k2 : Class := { plain "java/io/Serializable" (some 0) with
  accessFlags := 1537
  interfaces := #[]
  cf := some (fileOf pool2 1 #[] #[] 1537 3 #[] #[])
  fields := #[]
  methods := #[]
  instanceTypes := #[]
  staticTypes := #[]
  resolved := Array.replicate 7 none
  statics := none }

def pool3 : Array CpInfo := pool [(1, .class_ 2), (0, u "java/lang/Comparable"), (0, .class_ 4), (0, u "java/lang/Object")] 7

/-- java/lang/Comparable -/
def k3 : Class := { plain "java/lang/Comparable" (some 0) with
  accessFlags := 1537
  interfaces := #[]
  cf := some (fileOf pool3 1 #[] #[] 1537 3 #[] #[])
  fields := #[]
  methods := #[]
  instanceTypes := #[]
  staticTypes := #[]
  resolved := Array.replicate 12 none
  statics := none }

def pool4 : Array CpInfo := pool [(2, .class_ 4), (1, u "java/lang/CharSequence"), (42, .class_ 48), (0, u "java/lang/CharSequence$1CodePointIterator"), (10, .class_ 60), (0, u "java/lang/CharSequence$1CharIterator"), (5, .class_ 67), (0, u "java/lang/Object")] 63

/-- java/lang/CharSequence -/
def k4 : Class := { plain "java/lang/CharSequence" (some 0) with
  accessFlags := 1537
  interfaces := #[]
  cf := some (fileOf pool4 2 #[.nestMembers #[47, 59]] #[] 1537 66 #[] #[])
  fields := #[]
  methods := #[]
  instanceTypes := #[]
  staticTypes := #[]
  resolved := Array.replicate 131 none
  statics := none }

def pool5 : Array CpInfo := pool [(1, .class_ 2), (0, u "java/lang/constant/Constable"), (0, .class_ 4), (0, u "java/lang/Object")] 6

/-- java/lang/constant/Constable -/
def k5 : Class := { plain "java/lang/constant/Constable" (some 0) with
  accessFlags := 1537
  interfaces := #[]
  cf := some (fileOf pool5 1 #[] #[] 1537 3 #[] #[])
  fields := #[]
  methods := #[]
  instanceTypes := #[]
  staticTypes := #[]
  resolved := Array.replicate 11 none
  statics := none }

def pool6 : Array CpInfo := pool [(1, .class_ 2), (0, u "java/lang/constant/ConstantDesc"), (0, .class_ 4), (0, u "java/lang/Object")] 32

/-- java/lang/constant/ConstantDesc -/
def k6 : Class := { plain "java/lang/constant/ConstantDesc" (some 0) with
  accessFlags := 1537
  interfaces := #[]
  cf := some (fileOf pool6 1 #[] #[] 1537 3 #[] #[])
  fields := #[]
  methods := #[]
  instanceTypes := #[]
  staticTypes := #[]
  resolved := Array.replicate 37 none
  statics := none }

def pool7 : Array CpInfo := pool [(1, .methodref 2 3), (0, .class_ 4), (0, .nameAndType 5 6), (0, u "java/lang/Object"), (0, u "<init>"), (0, u "()V"), (0, .string 8), (0, u ""), (0, .fieldref 10 11), (0, .class_ 12), (0, .nameAndType 13 14), (0, u "java/lang/String"), (0, u "value"), (0, u "[B"), (0, .fieldref 10 16), (0, .nameAndType 17 18), (0, u "coder"), (0, u "B"), (2, u "hash"), (0, u "I"), (2, u "hashIsZero"), (0, u "Z"), (0, .methodref 10 28), (0, .nameAndType 5 29), (0, u "([CIILjava/lang/Void;)V"), (8, .fieldref 10 39), (0, .nameAndType 40 26), (0, u "COMPACT_STRINGS"), (1, .class_ 44), (1, u "java/lang/StringUTF16"), (0, u "compress"), (1, .methodref 42 48), (0, .nameAndType 49 50), (0, u "coderFromArrayLen"), (0, u "([BI)B"), (3, .methodref 55 56), (0, .class_ 57), (0, .nameAndType 58 59), (0, u "java/util/Arrays"), (0, u "copyOfRange"), (0, u "([BII)[B"), (47, .class_ 109), (1, u "java/lang/StringLatin1"), (32, u "()Z"), (34, .methodref 42 178), (0, .nameAndType 45 179), (0, u "([CII)[B"), (13, .class_ 195), (1, u "java/lang/System"), (16, .methodref 193 213), (0, .nameAndType 214 215), (0, u "arraycopy"), (0, u "(Ljava/lang/Object;ILjava/lang/Object;II)V"), (118, u "()I"), (0, .methodref 10 336), (0, .nameAndType 17 337), (0, u "()B"), (2, u "()[B"), (22, u "([BI)C"), (27, u "(II)V"), (35, u "(I)C"), (61, .methodref 10 490), (0, .nameAndType 5 491), (0, u "(Ljava/lang/AbstractStringBuilder;Ljava/lang/Void;)V"), (0, .methodref 10 493), (0, .nameAndType 494 142), (0, u "isLatin1"), (0, .methodref 107 496), (0, .nameAndType 497 363), (0, u "charAt"), (3, u "checkIndex"), (4, .nameAndType 507 334), (0, u "length"), (24, u "getBytes"), (16, .methodref 550 506), (0, .class_ 551), (0, u "java/lang/AbstractStringBuilder"), (0, .methodref 550 553), (0, .nameAndType 554 340), (0, u "getValue"), (20, .class_ 576), (0, u "java/lang/CharSequence"), (22, u "CASE_INSENSITIVE_ORDER"), (0, u "Ljava/util/Comparator;"), (220, u "([BIB)V"), (188, u "([C)V"), (36, .methodref 550 493), (5, .fieldref 1054 1055), (0, .class_ 1056), (0, .nameAndType 1057 1058), (0, u "jdk/internal/util/Preconditions"), (0, u "SIOOBE_FORMATTER"), (0, u "Ljava/util/function/BiFunction;"), (0, .methodref 1054 1060), (0, .nameAndType 501 1061), (0, u "(IILjava/util/function/BiFunction;)I"), (39, u "serialPersistentFields"), (0, u "[Ljava/io/ObjectStreamField;"), (0, .class_ 1104), (0, u "java/lang/String$CaseInsensitiveComparator"), (1, .class_ 1107), (0, u "java/io/Serializable"), (0, .class_ 1109), (0, u "java/lang/Comparable"), (0, .class_ 1111), (0, u "java/lang/constant/Constable"), (0, .class_ 1113), (0, u "java/lang/constant/ConstantDesc"), (2, u "serialVersionUID"), (0, u "J"), (3, u "REPL"), (0, u "C"), (2, u "LATIN1"), (1, u "UTF16"), (105, u "(Ljava/lang/StringBuilder;)V")] 217

def k7m0 : Method := { name := "<init>", desc := "()V", sig := { parameters := [], returnType := none }, accessFlags := 1, code := none }
def k7c1 : Code := { maxStack := 5, maxLocals := 2, code := jdk_42_method_3_code, exceptionTable := #[], attributes := #[] }
def k7m1 : Method := { name := "<init>", desc := "([C)V", sig := { parameters := [(.array .char)], returnType := none }, accessFlags := 1, code := some k7c1 }
def k7c2 : Code := { maxStack := 3, maxLocals := 2, code := jdk_42_method_53_code, exceptionTable := #[], attributes := #[] }
def k7m2 : Method := { name := "<init>", desc := "(Ljava/lang/StringBuilder;)V", sig := { parameters := [(.object "java/lang/StringBuilder")], returnType := none }, accessFlags := 1, code := some k7c2 }
def k7c3 : Code := { maxStack := 2, maxLocals := 1, code := jdk_42_method_54_code, exceptionTable := #[], attributes := #[] }
def k7m3 : Method := { name := "length", desc := "()I", sig := { parameters := [], returnType := some .int }, accessFlags := 1, code := some k7c3 }
def k7c4 : Code := { maxStack := 2, maxLocals := 2, code := jdk_42_method_56_code, exceptionTable := #[], attributes := #[] }
def k7m4 : Method := { name := "charAt", desc := "(I)C", sig := { parameters := [.int], returnType := some .char }, accessFlags := 1, code := some k7c4 }
def k7c5 : Code := { maxStack := 5, maxLocals := 4, code := jdk_42_method_147_code, exceptionTable := #[], attributes := #[] }
def k7m5 : Method := { name := "getBytes", desc := "([BIB)V", sig := { parameters := [(.array .byte), .int, .byte], returnType := none }, accessFlags := 0, code := some k7c5 }
def k7c6 : Code := { maxStack := 4, maxLocals := 6, code := jdk_42_method_149_code, exceptionTable := #[], attributes := #[] }
def k7m6 : Method := { name := "<init>", desc := "([CIILjava/lang/Void;)V", sig := { parameters := [(.array .char), .int, .int, (.object "java/lang/Void")], returnType := none }, accessFlags := 2, code := some k7c6 }
def k7c7 : Code := { maxStack := 5, maxLocals := 5, code := jdk_42_method_150_code, exceptionTable := #[], attributes := #[] }
def k7m7 : Method := { name := "<init>", desc := "(Ljava/lang/AbstractStringBuilder;Ljava/lang/Void;)V", sig := { parameters := [(.object "java/lang/AbstractStringBuilder"), (.object "java/lang/Void")], returnType := none }, accessFlags := 0, code := some k7c7 }
def k7c8 : Code := { maxStack := 1, maxLocals := 1, code := jdk_42_method_152_code, exceptionTable := #[], attributes := #[] }
def k7m8 : Method := { name := "coder", desc := "()B", sig := { parameters := [], returnType := some .byte }, accessFlags := 0, code := some k7c8 }
def k7c9 : Code := { maxStack := 1, maxLocals := 1, code := jdk_42_method_154_code, exceptionTable := #[], attributes := #[] }
def k7m9 : Method := { name := "isLatin1", desc := "()Z", sig := { parameters := [], returnType := some .boolean }, accessFlags := 0, code := some k7c9 }
def k7c10 : Code := { maxStack := 3, maxLocals := 2, code := jdk_42_method_155_code, exceptionTable := #[], attributes := #[] }
def k7m10 : Method := { name := "checkIndex", desc := "(II)V", sig := { parameters := [.int, .int], returnType := none }, accessFlags := 8, code := some k7c10 }
/-- java/lang/String -/
def k7 : Class := { plain "java/lang/String" (some 0) with
  accessFlags := 49
  interfaces := #[2, 3, 4, 5, 6]
  cf := some (fileOf pool7 10 #[.nestMembers #[1103]] #[{ accessFlags := 1, nameIndex := 5, descriptorIndex := 6, attributes := #[] }, { accessFlags := 1, nameIndex := 5, descriptorIndex := 1010, attributes := #[] }, { accessFlags := 1, nameIndex := 5, descriptorIndex := 1233, attributes := #[] }, { accessFlags := 1, nameIndex := 507, descriptorIndex := 334, attributes := #[] }, { accessFlags := 1, nameIndex := 497, descriptorIndex := 427, attributes := #[] }, { accessFlags := 0, nameIndex := 532, descriptorIndex := 821, attributes := #[] }, { accessFlags := 2, nameIndex := 5, descriptorIndex := 29, attributes := #[] }, { accessFlags := 0, nameIndex := 5, descriptorIndex := 491, attributes := #[] }, { accessFlags := 0, nameIndex := 17, descriptorIndex := 337, attributes := #[] }, { accessFlags := 0, nameIndex := 494, descriptorIndex := 142, attributes := #[] }, { accessFlags := 8, nameIndex := 501, descriptorIndex := 391, attributes := #[] }] 49 2 #[1106, 1108, 575, 1110, 1112] #[{ accessFlags := 18, nameIndex := 13, descriptorIndex := 14, attributes := #[] }, { accessFlags := 18, nameIndex := 17, descriptorIndex := 18, attributes := #[] }, { accessFlags := 2, nameIndex := 21, descriptorIndex := 22, attributes := #[] }, { accessFlags := 2, nameIndex := 25, descriptorIndex := 26, attributes := #[] }, { accessFlags := 26, nameIndex := 1116, descriptorIndex := 1117, attributes := #[] }, { accessFlags := 24, nameIndex := 40, descriptorIndex := 26, attributes := #[] }, { accessFlags := 26, nameIndex := 1101, descriptorIndex := 1102, attributes := #[] }, { accessFlags := 26, nameIndex := 1121, descriptorIndex := 1122, attributes := #[] }, { accessFlags := 25, nameIndex := 599, descriptorIndex := 600, attributes := #[] }, { accessFlags := 24, nameIndex := 1125, descriptorIndex := 18, attributes := #[] }, { accessFlags := 24, nameIndex := 1127, descriptorIndex := 18, attributes := #[] }])
  fields := #[{ name := "value", type := (.array .byte), accessFlags := 18, slot := 0, constantValue := 0 }, { name := "coder", type := .byte, accessFlags := 18, slot := 1, constantValue := 0 }, { name := "hash", type := .int, accessFlags := 2, slot := 2, constantValue := 0 }, { name := "hashIsZero", type := .boolean, accessFlags := 2, slot := 3, constantValue := 0 }, { name := "serialVersionUID", type := .long, accessFlags := 26, slot := 0, constantValue := 0 }, { name := "COMPACT_STRINGS", type := .boolean, accessFlags := 24, slot := 1, constantValue := 0 }, { name := "serialPersistentFields", type := (.array (.object "java/io/ObjectStreamField")), accessFlags := 26, slot := 2, constantValue := 0 }, { name := "REPL", type := .char, accessFlags := 26, slot := 3, constantValue := 0 }, { name := "CASE_INSENSITIVE_ORDER", type := (.object "java/util/Comparator"), accessFlags := 25, slot := 4, constantValue := 0 }, { name := "LATIN1", type := .byte, accessFlags := 24, slot := 5, constantValue := 0 }, { name := "UTF16", type := .byte, accessFlags := 24, slot := 6, constantValue := 0 }]
  methods := #[k7m0, k7m1, k7m2, k7m3, k7m4, k7m5, k7m6, k7m7, k7m8, k7m9, k7m10]
  instanceTypes := #[(.array .byte), .byte, .int, .boolean]
  staticTypes := #[.long, .boolean, (.array (.object "java/io/ObjectStreamField")), .char, (.object "java/util/Comparator"), .byte, .byte]
  resolved := Array.replicate 1451 none
  statics := some 0 }

def pool8 : Array CpInfo := pool [(1, .methodref 2 3), (0, .class_ 4), (0, .nameAndType 5 6), (0, u "java/lang/Object"), (0, u "<init>"), (0, u "()V"), (0, .fieldref 8 9), (0, .class_ 10), (0, .nameAndType 11 12), (0, u "java/lang/Throwable"), (0, u "cause"), (0, u "Ljava/lang/Throwable;"), (0, .fieldref 8 14), (0, .nameAndType 15 16), (0, u "UNASSIGNED_STACK"), (0, u "[Ljava/lang/StackTraceElement;"), (0, .fieldref 8 18), (0, .nameAndType 19 16), (0, u "stackTrace"), (0, .fieldref 8 21), (0, .nameAndType 22 23), (0, u "SUPPRESSED_SENTINEL"), (0, u "Ljava/util/List;"), (0, .fieldref 8 25), (0, .nameAndType 26 23), (0, u "suppressedExceptions"), (0, .methodref 8 28), (0, .nameAndType 29 30), (0, u "fillInStackTrace"), (0, u "()Ljava/lang/Throwable;"), (0, .fieldref 8 32), (0, .nameAndType 33 34), (0, u "detailMessage"), (0, u "Ljava/lang/String;"), (3, u "()Ljava/lang/String;"), (2, u "getMessage"), (51, .class_ 94), (0, u "java/lang/Throwable$WrappedPrintStream"), (6, .class_ 103), (1, u "java/lang/Throwable$PrintStreamOrWriter"), (61, u "$assertionsDisabled"), (0, u "Z"), (26, .class_ 194), (0, u "java/lang/Throwable$WrappedPrintWriter"), (3, .fieldref 8 199), (0, .nameAndType 200 201), (0, u "backtrace"), (0, u "Ljava/lang/Object;"), (0, .methodref 8 203), (0, .nameAndType 29 204), (0, u "(I)Ljava/lang/Throwable;"), (6, u "depth"), (0, u "I"), (10, u "(Ljava/lang/String;)V"), (45, .class_ 271), (1, u "java/lang/Throwable$SentinelHolder"), (32, u "EMPTY_THROWABLE_ARRAY"), (0, u "[Ljava/lang/Throwable;"), (12, .class_ 319), (0, u "java/io/Serializable"), (0, u "serialVersionUID"), (0, u "J"), (5, u "NULL_CAUSE_MESSAGE"), (0, u "SELF_SUPPRESSION_MESSAGE"), (0, u "CAUSE_CAPTION"), (0, u "SUPPRESSED_CAPTION")] 73

def k8c0 : Code := { maxStack := 2, maxLocals := 1, code := jdk_78_method_1_code, exceptionTable := #[], attributes := #[] }
def k8m0 : Method := { name := "<init>", desc := "()V", sig := { parameters := [], returnType := none }, accessFlags := 1, code := some k8c0 }
def k8c1 : Code := { maxStack := 2, maxLocals := 2, code := jdk_78_method_2_code, exceptionTable := #[], attributes := #[] }
def k8m1 : Method := { name := "<init>", desc := "(Ljava/lang/String;)V", sig := { parameters := [(.object "java/lang/String")], returnType := none }, accessFlags := 1, code := some k8c1 }
def k8c2 : Code := { maxStack := 1, maxLocals := 1, code := jdk_78_method_6_code, exceptionTable := #[], attributes := #[] }
def k8m2 : Method := { name := "getMessage", desc := "()Ljava/lang/String;", sig := { parameters := [], returnType := some (.object "java/lang/String") }, accessFlags := 1, code := some k8c2 }
def k8c3 : Code := { maxStack := 2, maxLocals := 1, code := ⟨#[0x2a, 0xb4, 0x00, 0x11, 0xc7, 0x00, 0x0a, 0x2a, 0xb4, 0x00, 0xc6, 0xc6, 0x00, 0x10, 0x2a, 0x03, 0xb6, 0x00, 0xca, 0x57, 0x2a, 0xb2, 0x00, 0x0d, 0xb5, 0x00, 0x11, 0x2a, 0xb0]⟩, exceptionTable := #[], attributes := #[] }
def k8m3 : Method := { name := "fillInStackTrace", desc := "()Ljava/lang/Throwable;", sig := { parameters := [], returnType := some (.object "java/lang/Throwable") }, accessFlags := 33, code := some k8c3 }
def k8m4 : Method := { name := "fillInStackTrace", desc := "(I)Ljava/lang/Throwable;", sig := { parameters := [.int], returnType := some (.object "java/lang/Throwable") }, accessFlags := 258, code := none }
/-- java/lang/Throwable -/
def k8 : Class := { plain "java/lang/Throwable" (some 0) with
  accessFlags := 33
  interfaces := #[2]
  cf := some (fileOf pool8 8 #[.nestMembers #[193, 93, 101, 269]] #[{ accessFlags := 1, nameIndex := 5, descriptorIndex := 6, attributes := #[] }, { accessFlags := 1, nameIndex := 5, descriptorIndex := 223, attributes := #[] }, { accessFlags := 1, nameIndex := 41, descriptorIndex := 38, attributes := #[] }, { accessFlags := 33, nameIndex := 29, descriptorIndex := 30, attributes := #[] }, { accessFlags := 258, nameIndex := 29, descriptorIndex := 204, attributes := #[] }] 33 2 #[318] #[{ accessFlags := 26, nameIndex := 320, descriptorIndex := 321, attributes := #[] }, { accessFlags := 130, nameIndex := 200, descriptorIndex := 201, attributes := #[] }, { accessFlags := 2, nameIndex := 33, descriptorIndex := 34, attributes := #[] }, { accessFlags := 26, nameIndex := 15, descriptorIndex := 16, attributes := #[] }, { accessFlags := 2, nameIndex := 11, descriptorIndex := 12, attributes := #[] }, { accessFlags := 2, nameIndex := 19, descriptorIndex := 16, attributes := #[] }, { accessFlags := 130, nameIndex := 211, descriptorIndex := 212, attributes := #[] }, { accessFlags := 26, nameIndex := 22, descriptorIndex := 23, attributes := #[] }, { accessFlags := 2, nameIndex := 26, descriptorIndex := 23, attributes := #[] }, { accessFlags := 26, nameIndex := 327, descriptorIndex := 34, attributes := #[] }, { accessFlags := 26, nameIndex := 328, descriptorIndex := 34, attributes := #[] }, { accessFlags := 26, nameIndex := 329, descriptorIndex := 34, attributes := #[] }, { accessFlags := 26, nameIndex := 330, descriptorIndex := 34, attributes := #[] }, { accessFlags := 26, nameIndex := 304, descriptorIndex := 305, attributes := #[] }, { accessFlags := 4120, nameIndex := 165, descriptorIndex := 166, attributes := #[] }])
  fields := #[{ name := "serialVersionUID", type := .long, accessFlags := 26, slot := 0, constantValue := 0 }, { name := "backtrace", type := (.object "java/lang/Object"), accessFlags := 130, slot := 0, constantValue := 0 }, { name := "detailMessage", type := (.object "java/lang/String"), accessFlags := 2, slot := 1, constantValue := 0 }, { name := "UNASSIGNED_STACK", type := (.array (.object "java/lang/StackTraceElement")), accessFlags := 26, slot := 1, constantValue := 0 }, { name := "cause", type := (.object "java/lang/Throwable"), accessFlags := 2, slot := 2, constantValue := 0 }, { name := "stackTrace", type := (.array (.object "java/lang/StackTraceElement")), accessFlags := 2, slot := 3, constantValue := 0 }, { name := "depth", type := .int, accessFlags := 130, slot := 4, constantValue := 0 }, { name := "SUPPRESSED_SENTINEL", type := (.object "java/util/List"), accessFlags := 26, slot := 2, constantValue := 0 }, { name := "suppressedExceptions", type := (.object "java/util/List"), accessFlags := 2, slot := 5, constantValue := 0 }, { name := "NULL_CAUSE_MESSAGE", type := (.object "java/lang/String"), accessFlags := 26, slot := 3, constantValue := 0 }, { name := "SELF_SUPPRESSION_MESSAGE", type := (.object "java/lang/String"), accessFlags := 26, slot := 4, constantValue := 0 }, { name := "CAUSE_CAPTION", type := (.object "java/lang/String"), accessFlags := 26, slot := 5, constantValue := 0 }, { name := "SUPPRESSED_CAPTION", type := (.object "java/lang/String"), accessFlags := 26, slot := 6, constantValue := 0 }, { name := "EMPTY_THROWABLE_ARRAY", type := (.array (.object "java/lang/Throwable")), accessFlags := 26, slot := 7, constantValue := 0 }, { name := "$assertionsDisabled", type := .boolean, accessFlags := 4120, slot := 8, constantValue := 0 }]
  methods := #[k8m0, k8m1, k8m2, k8m3, k8m4]
  instanceTypes := #[(.object "java/lang/Object"), (.object "java/lang/String"), (.object "java/lang/Throwable"), (.array (.object "java/lang/StackTraceElement")), .int, (.object "java/util/List")]
  staticTypes := #[.long, (.array (.object "java/lang/StackTraceElement")), (.object "java/util/List"), (.object "java/lang/String"), (.object "java/lang/String"), (.object "java/lang/String"), (.object "java/lang/String"), (.array (.object "java/lang/Throwable")), .boolean]
  resolved := Array.replicate 404 none
  statics := some 1 }

def pool9 : Array CpInfo := pool [(2, .class_ 4), (1, u "java/lang/Throwable"), (0, u "<init>"), (0, u "()V"), (0, .methodref 2 8), (0, .nameAndType 5 9), (0, u "(Ljava/lang/String;)V"), (9, .class_ 20), (0, u "java/lang/Exception"), (0, u "serialVersionUID"), (0, u "J")] 17

def k9m0 : Method := { name := "<init>", desc := "()V", sig := { parameters := [], returnType := none }, accessFlags := 1, code := none }
def k9c1 : Code := { maxStack := 2, maxLocals := 2, code := jdk_59_method_2_code, exceptionTable := #[], attributes := #[] }
def k9m1 : Method := { name := "<init>", desc := "(Ljava/lang/String;)V", sig := { parameters := [(.object "java/lang/String")], returnType := none }, accessFlags := 1, code := some k9c1 }
/-- java/lang/Exception -/
def k9 : Class := { plain "java/lang/Exception" (some 8) with
  accessFlags := 33
  interfaces := #[]
  cf := some (fileOf pool9 19 #[] #[{ accessFlags := 1, nameIndex := 5, descriptorIndex := 6, attributes := #[] }, { accessFlags := 1, nameIndex := 5, descriptorIndex := 9, attributes := #[] }] 33 2 #[] #[{ accessFlags := 24, nameIndex := 21, descriptorIndex := 22, attributes := #[] }])
  fields := #[{ name := "serialVersionUID", type := .long, accessFlags := 24, slot := 0, constantValue := 0 }]
  methods := #[k9m0, k9m1]
  instanceTypes := #[(.object "java/lang/Object"), (.object "java/lang/String"), (.object "java/lang/Throwable"), (.array (.object "java/lang/StackTraceElement")), .int, (.object "java/util/List")]
  staticTypes := #[.long]
  resolved := Array.replicate 40 none
  statics := none }

def pool10 : Array CpInfo := pool [(1, .methodref 2 3), (0, .class_ 4), (0, .nameAndType 5 6), (0, u "java/lang/Exception"), (0, u "<init>"), (0, u "(Ljava/lang/String;)V"), (0, .class_ 8), (0, u "com/example/queryloom/queryloom/translation/TranslationException"), (0, .class_ 10), (0, u "java/lang/StringBuilder"), (0, .methodref 9 12), (0, .nameAndType 5 13), (0, u "()V"), (0, .methodref 9 15), (0, .nameAndType 16 17), (0, u "append"), (0, u "(Ljava/lang/String;)Ljava/lang/StringBuilder;"), (0, .string 19), (0, u " is not supported yet"), (0, .methodref 9 21), (0, .nameAndType 22 23), (0, u "toString"), (0, u "()Ljava/lang/String;"), (0, .methodref 7 3), (0, u "serialVersionUID"), (0, u "J"), (5, u "unsupported"), (0, u "(Ljava/lang/String;)Lcom/example/queryloom/queryloom/translation/TranslationException;")] 2

def k10c0 : Code := { maxStack := 2, maxLocals := 2, code := prog_15_method_1_code, exceptionTable := #[], attributes := #[] }
def k10m0 : Method := { name := "<init>", desc := "(Ljava/lang/String;)V", sig := { parameters := [(.object "java/lang/String")], returnType := none }, accessFlags := 1, code := some k10c0 }
def k10c1 : Code := { maxStack := 4, maxLocals := 1, code := prog_15_method_2_code, exceptionTable := #[], attributes := #[] }
def k10m1 : Method := { name := "unsupported", desc := "(Ljava/lang/String;)Lcom/example/queryloom/queryloom/translation/TranslationException;", sig := { parameters := [(.object "java/lang/String")], returnType := some (.object "com/example/queryloom/queryloom/translation/TranslationException") }, accessFlags := 8, code := some k10c1 }
/-- com/example/queryloom/queryloom/translation/TranslationException -/
def k10 : Class := { plain "com/example/queryloom/queryloom/translation/TranslationException" (some 9) with
  accessFlags := 49
  interfaces := #[]
  cf := some (fileOf pool10 7 #[] #[{ accessFlags := 1, nameIndex := 5, descriptorIndex := 6, attributes := #[] }, { accessFlags := 8, nameIndex := 32, descriptorIndex := 33, attributes := #[] }] 49 2 #[] #[{ accessFlags := 26, nameIndex := 25, descriptorIndex := 26, attributes := #[] }])
  fields := #[{ name := "serialVersionUID", type := .long, accessFlags := 26, slot := 0, constantValue := 0 }]
  methods := #[k10m0, k10m1]
  instanceTypes := #[(.object "java/lang/Object"), (.object "java/lang/String"), (.object "java/lang/Throwable"), (.array (.object "java/lang/StackTraceElement")), .int, (.object "java/util/List")]
  staticTypes := #[.long]
  resolved := Array.replicate 36 none
  statics := none }

def pool11 : Array CpInfo := pool [(1, .class_ 2), (0, u "java/lang/Appendable"), (0, .class_ 4), (0, u "java/lang/Object")] 9

/-- java/lang/Appendable -/
def k11 : Class := { plain "java/lang/Appendable" (some 0) with
  accessFlags := 1537
  interfaces := #[]
  cf := some (fileOf pool11 1 #[] #[] 1537 3 #[] #[])
  fields := #[]
  methods := #[]
  instanceTypes := #[]
  staticTypes := #[]
  resolved := Array.replicate 14 none
  statics := none }

def pool12 : Array CpInfo := pool [(1, .class_ 2), (0, u "java/lang/String"), (0, .methodref 4 5), (0, .class_ 6), (0, .nameAndType 7 8), (0, u "java/lang/Object"), (0, u "<init>"), (0, u "()V"), (1, .class_ 12), (1, u "java/lang/AbstractStringBuilder"), (0, u "EMPTYVALUE"), (0, u "[B"), (0, .fieldref 10 16), (0, .nameAndType 17 14), (0, u "value"), (0, .fieldref 1 19), (0, .nameAndType 20 21), (0, u "COMPACT_STRINGS"), (0, u "Z"), (0, .fieldref 10 23), (0, .nameAndType 24 25), (0, u "coder"), (0, u "B"), (6, .methodref 1 33), (0, .nameAndType 34 35), (0, u "length"), (0, u "()I"), (3, .integer 2147483647), (0, .methodref 1 41), (0, .nameAndType 24 42), (0, u "()B"), (2, u "append"), (0, u "(Ljava/lang/String;)Ljava/lang/AbstractStringBuilder;"), (1, .class_ 49), (0, u "java/lang/CharSequence"), (19, u "(Ljava/lang/String;)V"), (5, u "maybeLatin1"), (3, .fieldref 10 80), (0, .nameAndType 81 82), (0, u "count"), (0, u "I"), (2, u "isLatin1"), (0, u "()Z"), (13, .methodref 10 101), (0, .nameAndType 102 103), (0, u "ensureCapacityInternal"), (0, u "(I)V"), (0, .methodref 10 105), (0, .nameAndType 106 107), (0, u "newCapacity"), (0, u "(I)I"), (0, .methodref 109 110), (0, .class_ 111), (0, .nameAndType 112 113), (0, u "java/util/Arrays"), (0, u "copyOf"), (0, u "([BI)[B"), (0, .methodref 115 116), (0, .class_ 117), (0, .nameAndType 118 119), (0, u "jdk/internal/util/ArraysSupport"), (0, u "newLength"), (0, u "(III)I"), (88, .methodref 10 209), (0, .nameAndType 210 211), (0, u "putStringAt"), (0, u "(ILjava/lang/String;)V"), (5, u "inflateIfNeededFor"), (2, .nameAndType 221 222), (0, u "getBytes"), (0, u "([BIB)V"), (174, .methodref 10 398), (0, .nameAndType 217 69), (0, .methodref 1 220), (3, u "()[B"), (40, .class_ 445), (0, u "java/lang/Appendable"), (106, u "getValue")] 56

def k12m0 : Method := { name := "<init>", desc := "()V", sig := { parameters := [], returnType := none }, accessFlags := 0, code := none }
def k12c1 : Code := { maxStack := 2, maxLocals := 2, code := jdk_68_method_2_code, exceptionTable := #[], attributes := #[] }
def k12m1 : Method := { name := "<init>", desc := "(I)V", sig := { parameters := [.int], returnType := none }, accessFlags := 0, code := some k12c1 }
def k12c2 : Code := { maxStack := 1, maxLocals := 1, code := jdk_68_method_6_code, exceptionTable := #[], attributes := #[] }
def k12m2 : Method := { name := "length", desc := "()I", sig := { parameters := [], returnType := some .int }, accessFlags := 1, code := some k12c2 }
def k12c3 : Code := { maxStack := 4, maxLocals := 3, code := jdk_68_method_9_code, exceptionTable := #[], attributes := #[] }
def k12m3 : Method := { name := "ensureCapacityInternal", desc := "(I)V", sig := { parameters := [.int], returnType := none }, accessFlags := 2, code := some k12c3 }
def k12c4 : Code := { maxStack := 5, maxLocals := 6, code := jdk_68_method_10_code, exceptionTable := #[], attributes := #[] }
def k12m4 : Method := { name := "newCapacity", desc := "(I)I", sig := { parameters := [.int], returnType := some .int }, accessFlags := 2, code := some k12c4 }
def k12c5 : Code := { maxStack := 3, maxLocals := 3, code := jdk_68_method_22_code, exceptionTable := #[], attributes := #[] }
def k12m5 : Method := { name := "append", desc := "(Ljava/lang/String;)Ljava/lang/AbstractStringBuilder;", sig := { parameters := [(.object "java/lang/String")], returnType := some (.object "java/lang/AbstractStringBuilder") }, accessFlags := 1, code := some k12c5 }
def k12c6 : Code := { maxStack := 1, maxLocals := 1, code := jdk_68_method_64_code, exceptionTable := #[], attributes := #[] }
def k12m6 : Method := { name := "getValue", desc := "()[B", sig := { parameters := [], returnType := some (.array .byte) }, accessFlags := 16, code := some k12c6 }
def k12c7 : Code := { maxStack := 1, maxLocals := 1, code := jdk_68_method_68_code, exceptionTable := #[], attributes := #[] }
def k12m7 : Method := { name := "isLatin1", desc := "()Z", sig := { parameters := [], returnType := some .boolean }, accessFlags := 16, code := some k12c7 }
def k12c8 : Code := { maxStack := 2, maxLocals := 2, code := jdk_68_method_71_code, exceptionTable := #[], attributes := #[] }
def k12m8 : Method := { name := "inflateIfNeededFor", desc := "(Ljava/lang/String;)V", sig := { parameters := [(.object "java/lang/String")], returnType := none }, accessFlags := 2, code := some k12c8 }
def k12c9 : Code := { maxStack := 4, maxLocals := 3, code := jdk_68_method_73_code, exceptionTable := #[], attributes := #[] }
def k12m9 : Method := { name := "putStringAt", desc := "(ILjava/lang/String;)V", sig := { parameters := [.int, (.object "java/lang/String")], returnType := none }, accessFlags := 2, code := some k12c9 }
/-- java/lang/AbstractStringBuilder -/
def k12 : Class := { plain "java/lang/AbstractStringBuilder" (some 0) with
  accessFlags := 1056
  interfaces := #[11, 4]
  cf := some (fileOf pool12 10 #[] #[{ accessFlags := 0, nameIndex := 7, descriptorIndex := 8, attributes := #[] }, { accessFlags := 0, nameIndex := 7, descriptorIndex := 103, attributes := #[] }, { accessFlags := 1, nameIndex := 34, descriptorIndex := 35, attributes := #[] }, { accessFlags := 2, nameIndex := 102, descriptorIndex := 103, attributes := #[] }, { accessFlags := 2, nameIndex := 106, descriptorIndex := 107, attributes := #[] }, { accessFlags := 1, nameIndex := 45, descriptorIndex := 46, attributes := #[] }, { accessFlags := 16, nameIndex := 552, descriptorIndex := 403, attributes := #[] }, { accessFlags := 16, nameIndex := 85, descriptorIndex := 86, attributes := #[] }, { accessFlags := 2, nameIndex := 217, descriptorIndex := 69, attributes := #[] }, { accessFlags := 2, nameIndex := 210, descriptorIndex := 211, attributes := #[] }] 1056 4 #[444, 48] #[{ accessFlags := 0, nameIndex := 17, descriptorIndex := 14, attributes := #[] }, { accessFlags := 0, nameIndex := 24, descriptorIndex := 25, attributes := #[] }, { accessFlags := 0, nameIndex := 75, descriptorIndex := 21, attributes := #[] }, { accessFlags := 0, nameIndex := 81, descriptorIndex := 82, attributes := #[] }, { accessFlags := 26, nameIndex := 13, descriptorIndex := 14, attributes := #[] }])
  fields := #[{ name := "value", type := (.array .byte), accessFlags := 0, slot := 0, constantValue := 0 }, { name := "coder", type := .byte, accessFlags := 0, slot := 1, constantValue := 0 }, { name := "maybeLatin1", type := .boolean, accessFlags := 0, slot := 2, constantValue := 0 }, { name := "count", type := .int, accessFlags := 0, slot := 3, constantValue := 0 }, { name := "EMPTYVALUE", type := (.array .byte), accessFlags := 26, slot := 0, constantValue := 0 }]
  methods := #[k12m0, k12m1, k12m2, k12m3, k12m4, k12m5, k12m6, k12m7, k12m8, k12m9]
  instanceTypes := #[(.array .byte), .byte, .boolean, .int]
  staticTypes := #[(.array .byte)]
  resolved := Array.replicate 609 none
  statics := none }

def pool13 : Array CpInfo := pool [(1, .methodref 2 3), (0, .class_ 4), (0, .nameAndType 5 6), (0, u "java/lang/AbstractStringBuilder"), (0, u "<init>"), (0, u "(I)V"), (11, .class_ 20), (1, u "java/lang/String"), (3, .class_ 26), (1, u "java/lang/StringBuilder"), (0, u "append"), (0, u "(Ljava/lang/String;)Ljava/lang/StringBuilder;"), (0, .methodref 2 30), (0, .nameAndType 27 31), (0, u "(Ljava/lang/String;)Ljava/lang/AbstractStringBuilder;"), (105, .methodref 18 138), (0, .nameAndType 5 139), (0, u "(Ljava/lang/StringBuilder;)V"), (5, u "()V"), (10, u "()I"), (186, .methodref 2 344), (0, .nameAndType 345 156), (0, u "length"), (3, .class_ 350), (0, u "java/lang/Appendable"), (0, .class_ 352), (0, u "java/io/Serializable"), (0, .class_ 354), (0, u "java/lang/Comparable"), (0, .class_ 356), (0, u "java/lang/CharSequence"), (0, u "serialVersionUID"), (0, u "J"), (40, u "toString"), (0, u "()Ljava/lang/String;")] 21

def k13c0 : Code := { maxStack := 2, maxLocals := 1, code := jdk_67_method_1_code, exceptionTable := #[], attributes := #[] }
def k13m0 : Method := { name := "<init>", desc := "()V", sig := { parameters := [], returnType := none }, accessFlags := 1, code := some k13c0 }
def k13c1 : Code := { maxStack := 2, maxLocals := 2, code := jdk_67_method_7_code, exceptionTable := #[], attributes := #[] }
def k13m1 : Method := { name := "append", desc := "(Ljava/lang/String;)Ljava/lang/StringBuilder;", sig := { parameters := [(.object "java/lang/String")], returnType := some (.object "java/lang/StringBuilder") }, accessFlags := 1, code := some k13c1 }
def k13c2 : Code := { maxStack := 3, maxLocals := 1, code := jdk_67_method_42_code, exceptionTable := #[], attributes := #[] }
def k13m2 : Method := { name := "toString", desc := "()Ljava/lang/String;", sig := { parameters := [], returnType := some (.object "java/lang/String") }, accessFlags := 1, code := some k13c2 }
def k13c3 : Code := { maxStack := 1, maxLocals := 1, code := jdk_67_method_93_code, exceptionTable := #[], attributes := #[] }
def k13m3 : Method := { name := "length", desc := "()I", sig := { parameters := [], returnType := some .int }, accessFlags := 4161, code := some k13c3 }
/-- java/lang/StringBuilder -/
def k13 : Class := { plain "java/lang/StringBuilder" (some 12) with
  accessFlags := 49
  interfaces := #[11, 2, 3, 4]
  cf := some (fileOf pool13 24 #[] #[{ accessFlags := 1, nameIndex := 5, descriptorIndex := 145, attributes := #[] }, { accessFlags := 1, nameIndex := 27, descriptorIndex := 28, attributes := #[] }, { accessFlags := 1, nameIndex := 399, descriptorIndex := 400, attributes := #[] }, { accessFlags := 4161, nameIndex := 345, descriptorIndex := 156, attributes := #[] }] 49 2 #[349, 351, 353, 355] #[{ accessFlags := 24, nameIndex := 357, descriptorIndex := 358, attributes := #[] }])
  fields := #[{ name := "serialVersionUID", type := .long, accessFlags := 24, slot := 0, constantValue := 0 }]
  methods := #[k13m0, k13m1, k13m2, k13m3]
  instanceTypes := #[(.array .byte), .byte, .boolean, .int]
  staticTypes := #[.long]
  resolved := Array.replicate 422 none
  statics := none }

def pool14 : Array CpInfo := pool [(2, .class_ 4), (1, u "java/lang/Object"), (0, u "<init>"), (0, u "()V"), (1, .class_ 10), (1, u "java/lang/System"), (0, u "allowSecurityManager"), (0, u "I"), (16, u "cons"), (0, u "Ljava/io/Console;"), (77, .class_ 110), (1, u "java/lang/System$CallersHolder"), (43, u "initialErrStream"), (0, u "Ljava/io/PrintStream;"), (19, u "security"), (0, u "Ljava/lang/SecurityManager;"), (31, .class_ 209), (0, u "java/lang/System$1"), (7, u "props"), (0, u "Ljava/util/Properties;"), (2, u "lineSeparator"), (0, u "Ljava/lang/String;"), (96, .class_ 321), (1, u "java/lang/System$LoggerFinder"), (5, .class_ 328), (0, u "java/lang/System$Logger"), (67, u "err"), (2, u "out"), (91, u "notSupportedJnuEncoding"), (15, u "in"), (17, u "initialIn"), (0, u "Ljava/io/InputStream;"), (35, u "bootLayer"), (0, u "Ljava/lang/ModuleLayer;"), (99, .class_ 664), (0, u "java/lang/System$2"), (9, u "NEVER"), (2, u "MAYBE"), (49, u "arraycopy"), (0, u "(Ljava/lang/Object;ILjava/lang/Object;II)V"), (72, .class_ 802), (0, u "java/lang/System$Logger$Level")] 31

def k14m0 : Method := { name := "<init>", desc := "()V", sig := { parameters := [], returnType := none }, accessFlags := 2, code := none }
def k14m1 : Method := { name := "arraycopy", desc := "(Ljava/lang/Object;ILjava/lang/Object;II)V", sig := { parameters := [(.object "java/lang/Object"), .int, (.object "java/lang/Object"), .int, .int], returnType := none }, accessFlags := 265, code := none }
/-- java/lang/System -/
def k14 : Class := { plain "java/lang/System" (some 0) with
  accessFlags := 49
  interfaces := #[]
  cf := some (fileOf pool14 8 #[.nestMembers #[319, 327, 801, 108, 663, 208]] #[{ accessFlags := 2, nameIndex := 5, descriptorIndex := 6, attributes := #[] }, { accessFlags := 265, nameIndex := 727, descriptorIndex := 728, attributes := #[] }] 49 2 #[] #[{ accessFlags := 25, nameIndex := 507, descriptorIndex := 526, attributes := #[] }, { accessFlags := 25, nameIndex := 399, descriptorIndex := 155, attributes := #[] }, { accessFlags := 25, nameIndex := 396, descriptorIndex := 155, attributes := #[] }, { accessFlags := 10, nameIndex := 525, descriptorIndex := 526, attributes := #[] }, { accessFlags := 26, nameIndex := 674, descriptorIndex := 12, attributes := #[] }, { accessFlags := 26, nameIndex := 677, descriptorIndex := 12, attributes := #[] }, { accessFlags := 10, nameIndex := 11, descriptorIndex := 12, attributes := #[] }, { accessFlags := 74, nameIndex := 175, descriptorIndex := 176, attributes := #[] }, { accessFlags := 10, nameIndex := 491, descriptorIndex := 222, attributes := #[] }, { accessFlags := 74, nameIndex := 29, descriptorIndex := 30, attributes := #[] }, { accessFlags := 74, nameIndex := 154, descriptorIndex := 155, attributes := #[] }, { accessFlags := 10, nameIndex := 217, descriptorIndex := 218, attributes := #[] }, { accessFlags := 10, nameIndex := 221, descriptorIndex := 222, attributes := #[] }, { accessFlags := 8, nameIndex := 562, descriptorIndex := 563, attributes := #[] }])
  fields := #[{ name := "in", type := (.object "java/io/InputStream"), accessFlags := 25, slot := 0, constantValue := 0 }, { name := "out", type := (.object "java/io/PrintStream"), accessFlags := 25, slot := 1, constantValue := 0 }, { name := "err", type := (.object "java/io/PrintStream"), accessFlags := 25, slot := 2, constantValue := 0 }, { name := "initialIn", type := (.object "java/io/InputStream"), accessFlags := 10, slot := 3, constantValue := 0 }, { name := "NEVER", type := .int, accessFlags := 26, slot := 4, constantValue := 0 }, { name := "MAYBE", type := .int, accessFlags := 26, slot := 5, constantValue := 0 }, { name := "allowSecurityManager", type := .int, accessFlags := 10, slot := 6, constantValue := 0 }, { name := "security", type := (.object "java/lang/SecurityManager"), accessFlags := 74, slot := 7, constantValue := 0 }, { name := "notSupportedJnuEncoding", type := (.object "java/lang/String"), accessFlags := 10, slot := 8, constantValue := 0 }, { name := "cons", type := (.object "java/io/Console"), accessFlags := 74, slot := 9, constantValue := 0 }, { name := "initialErrStream", type := (.object "java/io/PrintStream"), accessFlags := 74, slot := 10, constantValue := 0 }, { name := "props", type := (.object "java/util/Properties"), accessFlags := 10, slot := 11, constantValue := 0 }, { name := "lineSeparator", type := (.object "java/lang/String"), accessFlags := 10, slot := 12, constantValue := 0 }, { name := "bootLayer", type := (.object "java/lang/ModuleLayer"), accessFlags := 8, slot := 13, constantValue := 0 }]
  methods := #[k14m0, k14m1]
  instanceTypes := #[]
  staticTypes := #[(.object "java/io/InputStream"), (.object "java/io/PrintStream"), (.object "java/io/PrintStream"), (.object "java/io/InputStream"), .int, .int, .int, (.object "java/lang/SecurityManager"), (.object "java/lang/String"), (.object "java/io/Console"), (.object "java/io/PrintStream"), (.object "java/util/Properties"), (.object "java/lang/String"), (.object "java/lang/ModuleLayer")]
  resolved := Array.replicate 834 none
  statics := none }

def pool15 : Array CpInfo := pool [(9, u "<init>"), (6, .class_ 18), (1, u "java/lang/Object"), (0, u "()V"), (1, .class_ 23), (1, u "jdk/internal/util/ArraysSupport"), (0, u "LOG2_ARRAY_LONG_INDEX_SCALE"), (0, u "I"), (2, u "U"), (0, u "Ljdk/internal/misc/Unsafe;"), (8, u "BIG_ENDIAN"), (0, u "Z"), (8, u "LOG2_BYTE_BIT_SIZE"), (4, u "LOG2_ARRAY_INT_INDEX_SCALE"), (54, u "JLA"), (0, u "Ljdk/internal/access/JavaLangAccess;"), (11, u "LOG2_ARRAY_BOOLEAN_INDEX_SCALE"), (9, u "LOG2_ARRAY_BYTE_INDEX_SCALE"), (5, u "LOG2_ARRAY_CHAR_INDEX_SCALE"), (5, u "LOG2_ARRAY_SHORT_INDEX_SCALE"), (18, u "LOG2_ARRAY_FLOAT_INDEX_SCALE"), (24, u "LOG2_ARRAY_DOUBLE_INDEX_SCALE"), (6, .methodref 195 196), (0, .class_ 197), (0, .nameAndType 198 199), (0, u "java/lang/Math"), (0, u "max"), (0, u "(II)I"), (0, .integer 2147483639), (76, u "T_BOOLEAN"), (2, u "T_CHAR"), (1, u "T_FLOAT"), (1, u "T_DOUBLE"), (1, u "T_BYTE"), (1, u "T_SHORT"), (1, u "T_INT"), (1, u "T_LONG"), (1, u "SOFT_MAX_ARRAY_LENGTH"), (56, u "newLength"), (0, u "(III)I")] 25

def k15m0 : Method := { name := "<init>", desc := "()V", sig := { parameters := [], returnType := none }, accessFlags := 2, code := none }
def k15c1 : Code := { maxStack := 3, maxLocals := 4, code := jdk_48_method_27_code, exceptionTable := #[], attributes := #[] }
def k15m1 : Method := { name := "newLength", desc := "(III)I", sig := { parameters := [.int, .int, .int], returnType := some .int }, accessFlags := 9, code := some k15c1 }
/-- jdk/internal/util/ArraysSupport -/
def k15 : Class := { plain "jdk/internal/util/ArraysSupport" (some 0) with
  accessFlags := 33
  interfaces := #[]
  cf := some (fileOf pool15 21 #[] #[{ accessFlags := 2, nameIndex := 9, descriptorIndex := 19, attributes := #[] }, { accessFlags := 9, nameIndex := 351, descriptorIndex := 352, attributes := #[] }] 33 16 #[] #[{ accessFlags := 24, nameIndex := 28, descriptorIndex := 29, attributes := #[] }, { accessFlags := 26, nameIndex := 38, descriptorIndex := 39, attributes := #[] }, { accessFlags := 25, nameIndex := 121, descriptorIndex := 25, attributes := #[] }, { accessFlags := 25, nameIndex := 131, descriptorIndex := 25, attributes := #[] }, { accessFlags := 25, nameIndex := 137, descriptorIndex := 25, attributes := #[] }, { accessFlags := 25, nameIndex := 143, descriptorIndex := 25, attributes := #[] }, { accessFlags := 25, nameIndex := 53, descriptorIndex := 25, attributes := #[] }, { accessFlags := 25, nameIndex := 24, descriptorIndex := 25, attributes := #[] }, { accessFlags := 25, nameIndex := 162, descriptorIndex := 25, attributes := #[] }, { accessFlags := 25, nameIndex := 187, descriptorIndex := 25, attributes := #[] }, { accessFlags := 26, nameIndex := 48, descriptorIndex := 25, attributes := #[] }, { accessFlags := 25, nameIndex := 277, descriptorIndex := 25, attributes := #[] }, { accessFlags := 25, nameIndex := 280, descriptorIndex := 25, attributes := #[] }, { accessFlags := 25, nameIndex := 282, descriptorIndex := 25, attributes := #[] }, { accessFlags := 25, nameIndex := 284, descriptorIndex := 25, attributes := #[] }, { accessFlags := 25, nameIndex := 286, descriptorIndex := 25, attributes := #[] }, { accessFlags := 25, nameIndex := 288, descriptorIndex := 25, attributes := #[] }, { accessFlags := 25, nameIndex := 290, descriptorIndex := 25, attributes := #[] }, { accessFlags := 25, nameIndex := 292, descriptorIndex := 25, attributes := #[] }, { accessFlags := 26, nameIndex := 108, descriptorIndex := 109, attributes := #[] }, { accessFlags := 25, nameIndex := 294, descriptorIndex := 25, attributes := #[] }])
  fields := #[{ name := "U", type := (.object "jdk/internal/misc/Unsafe"), accessFlags := 24, slot := 0, constantValue := 0 }, { name := "BIG_ENDIAN", type := .boolean, accessFlags := 26, slot := 1, constantValue := 0 }, { name := "LOG2_ARRAY_BOOLEAN_INDEX_SCALE", type := .int, accessFlags := 25, slot := 2, constantValue := 0 }, { name := "LOG2_ARRAY_BYTE_INDEX_SCALE", type := .int, accessFlags := 25, slot := 3, constantValue := 0 }, { name := "LOG2_ARRAY_CHAR_INDEX_SCALE", type := .int, accessFlags := 25, slot := 4, constantValue := 0 }, { name := "LOG2_ARRAY_SHORT_INDEX_SCALE", type := .int, accessFlags := 25, slot := 5, constantValue := 0 }, { name := "LOG2_ARRAY_INT_INDEX_SCALE", type := .int, accessFlags := 25, slot := 6, constantValue := 0 }, { name := "LOG2_ARRAY_LONG_INDEX_SCALE", type := .int, accessFlags := 25, slot := 7, constantValue := 0 }, { name := "LOG2_ARRAY_FLOAT_INDEX_SCALE", type := .int, accessFlags := 25, slot := 8, constantValue := 0 }, { name := "LOG2_ARRAY_DOUBLE_INDEX_SCALE", type := .int, accessFlags := 25, slot := 9, constantValue := 0 }, { name := "LOG2_BYTE_BIT_SIZE", type := .int, accessFlags := 26, slot := 10, constantValue := 0 }, { name := "T_BOOLEAN", type := .int, accessFlags := 25, slot := 11, constantValue := 0 }, { name := "T_CHAR", type := .int, accessFlags := 25, slot := 12, constantValue := 0 }, { name := "T_FLOAT", type := .int, accessFlags := 25, slot := 13, constantValue := 0 }, { name := "T_DOUBLE", type := .int, accessFlags := 25, slot := 14, constantValue := 0 }, { name := "T_BYTE", type := .int, accessFlags := 25, slot := 15, constantValue := 0 }, { name := "T_SHORT", type := .int, accessFlags := 25, slot := 16, constantValue := 0 }, { name := "T_INT", type := .int, accessFlags := 25, slot := 17, constantValue := 0 }, { name := "T_LONG", type := .int, accessFlags := 25, slot := 18, constantValue := 0 }, { name := "JLA", type := (.object "jdk/internal/access/JavaLangAccess"), accessFlags := 26, slot := 19, constantValue := 0 }, { name := "SOFT_MAX_ARRAY_LENGTH", type := .int, accessFlags := 25, slot := 20, constantValue := 0 }]
  methods := #[k15m0, k15m1]
  instanceTypes := #[]
  staticTypes := #[(.object "jdk/internal/misc/Unsafe"), .boolean, .int, .int, .int, .int, .int, .int, .int, .int, .int, .int, .int, .int, .int, .int, .int, .int, .int, (.object "jdk/internal/access/JavaLangAccess"), .int]
  resolved := Array.replicate 378 none
  statics := none }

def pool16 : Array CpInfo := pool [(1, .class_ 2), (0, u "java/lang/Math"), (1, .class_ 6), (1, u "java/lang/Object"), (0, u "<init>"), (0, u "()V"), (89, .class_ 100), (1, u "java/lang/Math$RandomNumberGeneratorHolder"), (71, u "negativeZeroFloatBits"), (0, u "J"), (2, u "negativeZeroDoubleBits"), (21, u "max"), (2, u "min"), (43, u "$assertionsDisabled"), (0, u "Z"), (88, u "(II)I"), (2, u "twoToTheDoubleScaleDown"), (0, u "D"), (4, u "twoToTheDoubleScaleUp"), (9, u "E"), (3, u "PI"), (2, u "TAU"), (2, u "DEGREES_TO_RADIANS"), (0, u "RADIANS_TO_DEGREES")] 94

def k16m0 : Method := { name := "<init>", desc := "()V", sig := { parameters := [], returnType := none }, accessFlags := 2, code := none }
def k16c1 : Code := { maxStack := 2, maxLocals := 2, code := jdk_29_method_65_code, exceptionTable := #[], attributes := #[] }
def k16m1 : Method := { name := "max", desc := "(II)I", sig := { parameters := [.int, .int], returnType := some .int }, accessFlags := 9, code := some k16c1 }
def k16c2 : Code := { maxStack := 2, maxLocals := 2, code := jdk_29_method_69_code, exceptionTable := #[], attributes := #[] }
def k16m2 : Method := { name := "min", desc := "(II)I", sig := { parameters := [.int, .int], returnType := some .int }, accessFlags := 9, code := some k16c2 }
/-- java/lang/Math -/
def k16 : Class := { plain "java/lang/Math" (some 0) with
  accessFlags := 49
  interfaces := #[]
  cf := some (fileOf pool16 1 #[.nestMembers #[98]] #[{ accessFlags := 2, nameIndex := 7, descriptorIndex := 8, attributes := #[] }, { accessFlags := 9, nameIndex := 198, descriptorIndex := 335, attributes := #[] }, { accessFlags := 9, nameIndex := 201, descriptorIndex := 335, attributes := #[] }] 49 4 #[] #[{ accessFlags := 25, nameIndex := 354, descriptorIndex := 339, attributes := #[] }, { accessFlags := 25, nameIndex := 358, descriptorIndex := 339, attributes := #[] }, { accessFlags := 25, nameIndex := 361, descriptorIndex := 339, attributes := #[] }, { accessFlags := 26, nameIndex := 364, descriptorIndex := 339, attributes := #[] }, { accessFlags := 26, nameIndex := 365, descriptorIndex := 339, attributes := #[] }, { accessFlags := 26, nameIndex := 172, descriptorIndex := 173, attributes := #[] }, { accessFlags := 26, nameIndex := 176, descriptorIndex := 173, attributes := #[] }, { accessFlags := 8, nameIndex := 344, descriptorIndex := 339, attributes := #[] }, { accessFlags := 8, nameIndex := 338, descriptorIndex := 339, attributes := #[] }, { accessFlags := 4120, nameIndex := 245, descriptorIndex := 246, attributes := #[] }])
  fields := #[{ name := "E", type := .double, accessFlags := 25, slot := 0, constantValue := 0 }, { name := "PI", type := .double, accessFlags := 25, slot := 1, constantValue := 0 }, { name := "TAU", type := .double, accessFlags := 25, slot := 2, constantValue := 0 }, { name := "DEGREES_TO_RADIANS", type := .double, accessFlags := 26, slot := 3, constantValue := 0 }, { name := "RADIANS_TO_DEGREES", type := .double, accessFlags := 26, slot := 4, constantValue := 0 }, { name := "negativeZeroFloatBits", type := .long, accessFlags := 26, slot := 5, constantValue := 0 }, { name := "negativeZeroDoubleBits", type := .long, accessFlags := 26, slot := 6, constantValue := 0 }, { name := "twoToTheDoubleScaleUp", type := .double, accessFlags := 8, slot := 7, constantValue := 0 }, { name := "twoToTheDoubleScaleDown", type := .double, accessFlags := 8, slot := 8, constantValue := 0 }, { name := "$assertionsDisabled", type := .boolean, accessFlags := 4120, slot := 9, constantValue := 0 }]
  methods := #[k16m0, k16m1, k16m2]
  instanceTypes := #[]
  staticTypes := #[.double, .double, .double, .double, .double, .long, .long, .double, .double, .boolean]
  resolved := Array.replicate 460 none
  statics := none }

def pool17 : Array CpInfo := pool [(2, .class_ 4), (1, u "java/lang/Object"), (0, u "<init>"), (0, u "()V"), (7, .class_ 16), (1, u "java/util/Arrays"), (57, .class_ 76), (1, u "java/util/Arrays$NaturalOrder"), (36, .class_ 115), (1, u "java/util/Arrays$LegacyMergeSort"), (1, u "Z"), (21, u "copyOfRange"), (10, .methodref 151 152), (0, .class_ 153), (0, .nameAndType 154 155), (0, u "java/lang/System"), (0, u "arraycopy"), (0, u "(Ljava/lang/Object;ILjava/lang/Object;II)V"), (146, u "copyOf"), (1, .methodref 305 306), (0, .class_ 307), (0, .nameAndType 308 309), (0, u "java/lang/Math"), (0, u "min"), (0, u "(II)I"), (29, .methodref 14 340), (0, .nameAndType 341 342), (0, u "copyOfRangeByte"), (0, u "([BII)[B"), (0, .methodref 14 344), (0, .nameAndType 345 346), (0, u "checkLength"), (0, u "(II)V"), (28, .class_ 376), (0, u "java/util/Arrays$ArrayList"), (68, u "$assertionsDisabled"), (269, u "MIN_ARRAY_SORT_GRAN"), (0, u "I"), (2, u "INSERTIONSORT_THRESHOLD"), (149, u "([BI)[B"), (105, .class_ 976), (0, u "java/util/Arrays$ArrayItr")] 52

def k17m0 : Method := { name := "<init>", desc := "()V", sig := { parameters := [], returnType := none }, accessFlags := 2, code := none }
def k17c1 : Code := { maxStack := 6, maxLocals := 3, code := jdk_65_method_121_code, exceptionTable := #[], attributes := #[] }
def k17m1 : Method := { name := "copyOf", desc := "([BI)[B", sig := { parameters := [(.array .byte), .int], returnType := some (.array .byte) }, accessFlags := 9, code := some k17c1 }
def k17c2 : Code := { maxStack := 4, maxLocals := 2, code := jdk_65_method_131_code, exceptionTable := #[], attributes := #[] }
def k17m2 : Method := { name := "checkLength", desc := "(II)V", sig := { parameters := [.int, .int], returnType := none }, accessFlags := 10, code := some k17c2 }
def k17c3 : Code := { maxStack := 3, maxLocals := 3, code := jdk_65_method_132_code, exceptionTable := #[], attributes := #[] }
def k17m3 : Method := { name := "copyOfRange", desc := "([BII)[B", sig := { parameters := [(.array .byte), .int, .int], returnType := some (.array .byte) }, accessFlags := 9, code := some k17c3 }
def k17c4 : Code := { maxStack := 6, maxLocals := 5, code := jdk_65_method_133_code, exceptionTable := #[], attributes := #[] }
def k17m4 : Method := { name := "copyOfRangeByte", desc := "([BII)[B", sig := { parameters := [(.array .byte), .int, .int], returnType := some (.array .byte) }, accessFlags := 10, code := some k17c4 }
/-- java/util/Arrays -/
def k17 : Class := { plain "java/util/Arrays" (some 0) with
  accessFlags := 49
  interfaces := #[]
  cf := some (fileOf pool17 14 #[.nestMembers #[975, 375, 113, 74]] #[{ accessFlags := 2, nameIndex := 5, descriptorIndex := 6, attributes := #[] }, { accessFlags := 9, nameIndex := 302, descriptorIndex := 869, attributes := #[] }, { accessFlags := 10, nameIndex := 345, descriptorIndex := 346, attributes := #[] }, { accessFlags := 9, nameIndex := 139, descriptorIndex := 342, attributes := #[] }, { accessFlags := 10, nameIndex := 341, descriptorIndex := 342, attributes := #[] }] 49 2 #[] #[{ accessFlags := 26, nameIndex := 715, descriptorIndex := 716, attributes := #[] }, { accessFlags := 26, nameIndex := 719, descriptorIndex := 716, attributes := #[] }, { accessFlags := 4120, nameIndex := 445, descriptorIndex := 117, attributes := #[] }])
  fields := #[{ name := "MIN_ARRAY_SORT_GRAN", type := .int, accessFlags := 26, slot := 0, constantValue := 0 }, { name := "INSERTIONSORT_THRESHOLD", type := .int, accessFlags := 26, slot := 1, constantValue := 0 }, { name := "$assertionsDisabled", type := .boolean, accessFlags := 4120, slot := 2, constantValue := 0 }]
  methods := #[k17m0, k17m1, k17m2, k17m3, k17m4]
  instanceTypes := #[]
  staticTypes := #[.int, .int, .boolean]
  resolved := Array.replicate 1029 none
  statics := none }

def pool18 : Array CpInfo := pool [(1, .class_ 2), (0, u "java/lang/String"), (1, .class_ 6), (1, u "java/lang/Object"), (0, u "<init>"), (0, u "()V"), (0, .methodref 1 10), (0, .nameAndType 11 12), (0, u "checkIndex"), (0, u "(II)V"), (1, .class_ 16), (1, u "java/lang/StringLatin1"), (36, u "([BI)C"), (67, u "$assertionsDisabled"), (0, u "Z"), (98, .class_ 223), (1, u "java/lang/StringLatin1$LinesSpliterator"), (28, u "charAt"), (137, .class_ 391), (0, u "java/lang/StringLatin1$CharsSpliterator")] 3

def k18m0 : Method := { name := "<init>", desc := "()V", sig := { parameters := [], returnType := none }, accessFlags := 0, code := none }
def k18c1 : Code := { maxStack := 2, maxLocals := 2, code := jdk_43_method_2_code, exceptionTable := #[], attributes := #[] }
def k18m1 : Method := { name := "charAt", desc := "([BI)C", sig := { parameters := [(.array .byte), .int], returnType := some .char }, accessFlags := 9, code := some k18c1 }
/-- java/lang/StringLatin1 -/
def k18 : Class := { plain "java/lang/StringLatin1" (some 0) with
  accessFlags := 48
  interfaces := #[]
  cf := some (fileOf pool18 14 #[.nestMembers #[390, 221]] #[{ accessFlags := 0, nameIndex := 7, descriptorIndex := 8, attributes := #[] }, { accessFlags := 9, nameIndex := 252, descriptorIndex := 53, attributes := #[] }] 48 4 #[] #[{ accessFlags := 4120, nameIndex := 121, descriptorIndex := 122, attributes := #[] }])
  fields := #[{ name := "$assertionsDisabled", type := .boolean, accessFlags := 4120, slot := 0, constantValue := 0 }]
  methods := #[k18m0, k18m1]
  instanceTypes := #[]
  staticTypes := #[.boolean]
  resolved := Array.replicate 395 none
  statics := none }

def pool19 : Array CpInfo := pool [(2, .class_ 4), (1, u "java/lang/Object"), (0, u "<init>"), (0, u "()V"), (17, .class_ 26), (1, u "jdk/internal/util/Preconditions"), (6, u "checkIndex"), (21, .class_ 56), (0, u "jdk/internal/util/Preconditions$4"), (57, .class_ 115), (0, u "jdk/internal/util/Preconditions$1"), (7, u "SIOOBE_FORMATTER"), (0, u "Ljava/util/function/BiFunction;"), (0, .class_ 126), (0, u "jdk/internal/util/Preconditions$2"), (3, u "AIOOBE_FORMATTER"), (0, .class_ 132), (0, u "jdk/internal/util/Preconditions$3"), (3, u "IOOBE_FORMATTER"), (41, u "(IILjava/util/function/BiFunction;)I")] 15

def k19m0 : Method := { name := "<init>", desc := "()V", sig := { parameters := [], returnType := none }, accessFlags := 1, code := none }
def k19c1 : Code := { maxStack := 3, maxLocals := 3, code := jdk_41_method_11_code, exceptionTable := #[], attributes := #[] }
def k19m1 : Method := { name := "checkIndex", desc := "(IILjava/util/function/BiFunction;)I", sig := { parameters := [.int, .int, (.object "java/util/function/BiFunction")], returnType := some .int }, accessFlags := 9, code := some k19c1 }
/-- jdk/internal/util/Preconditions -/
def k19 : Class := { plain "jdk/internal/util/Preconditions" (some 0) with
  accessFlags := 33
  interfaces := #[]
  cf := some (fileOf pool19 24 #[.nestMembers #[55, 131, 125, 114]] #[{ accessFlags := 1, nameIndex := 5, descriptorIndex := 6, attributes := #[] }, { accessFlags := 9, nameIndex := 33, descriptorIndex := 178, attributes := #[] }] 33 2 #[] #[{ accessFlags := 25, nameIndex := 123, descriptorIndex := 124, attributes := #[] }, { accessFlags := 25, nameIndex := 130, descriptorIndex := 124, attributes := #[] }, { accessFlags := 25, nameIndex := 136, descriptorIndex := 124, attributes := #[] }])
  fields := #[{ name := "SIOOBE_FORMATTER", type := (.object "java/util/function/BiFunction"), accessFlags := 25, slot := 0, constantValue := 0 }, { name := "AIOOBE_FORMATTER", type := (.object "java/util/function/BiFunction"), accessFlags := 25, slot := 1, constantValue := 0 }, { name := "IOOBE_FORMATTER", type := (.object "java/util/function/BiFunction"), accessFlags := 25, slot := 2, constantValue := 0 }]
  methods := #[k19m0, k19m1]
  instanceTypes := #[]
  staticTypes := #[(.object "java/util/function/BiFunction"), (.object "java/util/function/BiFunction"), (.object "java/util/function/BiFunction")]
  resolved := Array.replicate 194 none
  statics := some 2 }

def pool20 : Array CpInfo := pool [(6, .class_ 8), (1, u "java/lang/Object"), (0, u "<init>"), (0, u "()V"), (1, .class_ 14), (1, u "java/lang/StringUTF16"), (31, u "$assertionsDisabled"), (0, u "Z"), (13, u "HI_BYTE_SHIFT"), (0, u "I"), (2, u "LO_BYTE_SHIFT"), (49, .methodref 12 116), (0, .nameAndType 117 118), (0, u "compress"), (0, u "([CI[BII)I"), (3, u "([CII)[B"), (138, u "coderFromArrayLen"), (0, u "([BI)B"), (106, .class_ 371), (1, u "java/lang/StringUTF16$LinesSpliterator"), (58, u "MAX_LENGTH"), (196, .class_ 628), (0, u "java/lang/StringUTF16$CodePointsSpliterator"), (0, .class_ 630), (0, u "java/lang/StringUTF16$CharsSpliterator")] 4

def k20m0 : Method := { name := "<init>", desc := "()V", sig := { parameters := [], returnType := none }, accessFlags := 0, code := none }
def k20c1 : Code := { maxStack := 2, maxLocals := 2, code := jdk_52_method_15_code, exceptionTable := #[], attributes := #[] }
def k20m1 : Method := { name := "coderFromArrayLen", desc := "([BI)B", sig := { parameters := [(.array .byte), .int], returnType := some .byte }, accessFlags := 8, code := some k20c1 }
def k20c2 : Code := { maxStack := 5, maxLocals := 6, code := jdk_52_method_16_code, exceptionTable := #[], attributes := #[] }
def k20m2 : Method := { name := "compress", desc := "([CII)[B", sig := { parameters := [(.array .char), .int, .int], returnType := some (.array .byte) }, accessFlags := 9, code := some k20c2 }
def k20c3 : Code := { maxStack := 3, maxLocals := 7, code := jdk_52_method_21_code, exceptionTable := #[], attributes := #[] }
def k20m3 : Method := { name := "compress", desc := "([CI[BII)I", sig := { parameters := [(.array .char), .int, (.array .byte), .int, .int], returnType := some .int }, accessFlags := 9, code := some k20c3 }
/-- java/lang/StringUTF16 -/
def k20 : Class := { plain "java/lang/StringUTF16" (some 0) with
  accessFlags := 48
  interfaces := #[]
  cf := some (fileOf pool20 12 #[.nestMembers #[627, 629, 369]] #[{ accessFlags := 0, nameIndex := 9, descriptorIndex := 10, attributes := #[] }, { accessFlags := 8, nameIndex := 261, descriptorIndex := 262, attributes := #[] }, { accessFlags := 9, nameIndex := 117, descriptorIndex := 122, attributes := #[] }, { accessFlags := 9, nameIndex := 117, descriptorIndex := 118, attributes := #[] }] 48 6 #[] #[{ accessFlags := 26, nameIndex := 61, descriptorIndex := 62, attributes := #[] }, { accessFlags := 26, nameIndex := 65, descriptorIndex := 62, attributes := #[] }, { accessFlags := 24, nameIndex := 430, descriptorIndex := 62, attributes := #[] }, { accessFlags := 4120, nameIndex := 46, descriptorIndex := 47, attributes := #[] }])
  fields := #[{ name := "HI_BYTE_SHIFT", type := .int, accessFlags := 26, slot := 0, constantValue := 0 }, { name := "LO_BYTE_SHIFT", type := .int, accessFlags := 26, slot := 1, constantValue := 0 }, { name := "MAX_LENGTH", type := .int, accessFlags := 24, slot := 2, constantValue := 0 }, { name := "$assertionsDisabled", type := .boolean, accessFlags := 4120, slot := 3, constantValue := 0 }]
  methods := #[k20m0, k20m1, k20m2, k20m3]
  instanceTypes := #[]
  staticTypes := #[.int, .int, .int, .boolean]
  resolved := Array.replicate 635 none
  statics := none }

def pool21 : Array CpInfo := pool [(2, .class_ 4), (1, u "java/lang/Object"), (0, u "<init>"), (0, u "()V"), (12, .class_ 20), (0, u "java/util/Collections"), (63, u "r"), (0, u "Ljava/util/Random;"), (80, .class_ 167), (0, u "java/util/Collections$UnmodifiableCollection"), (6, .class_ 175), (0, u "java/util/Collections$UnmodifiableSequencedCollection"), (6, .class_ 183), (0, u "java/util/Collections$UnmodifiableSet"), (6, .class_ 191), (0, u "java/util/Collections$UnmodifiableSequencedSet"), (6, .class_ 199), (0, u "java/util/Collections$UnmodifiableSortedSet"), (6, .class_ 207), (0, u "java/util/Collections$UnmodifiableNavigableSet"), (4, .class_ 213), (0, u "java/util/Collections$UnmodifiableList"), (1, .class_ 216), (0, u "java/util/Collections$UnmodifiableRandomAccessList"), (6, .class_ 224), (0, u "java/util/Collections$UnmodifiableMap"), (6, .class_ 232), (0, u "java/util/Collections$UnmodifiableSequencedMap"), (4, .class_ 238), (0, u "java/util/Collections$UnmodifiableSortedMap"), (6, .class_ 246), (0, u "java/util/Collections$UnmodifiableNavigableMap"), (3, .class_ 251), (0, u "java/util/Collections$SynchronizedCollection"), (4, .class_ 257), (0, u "java/util/Collections$SynchronizedSet"), (4, .class_ 263), (0, u "java/util/Collections$SynchronizedSortedSet"), (1, .class_ 266), (0, u "java/util/Collections$SynchronizedNavigableSet"), (1, .class_ 269), (0, u "java/util/Collections$SynchronizedRandomAccessList"), (1, .class_ 272), (0, u "java/util/Collections$SynchronizedList"), (5, .class_ 279), (0, u "java/util/Collections$SynchronizedMap"), (1, .class_ 282), (0, u "java/util/Collections$SynchronizedSortedMap"), (1, .class_ 285), (0, u "java/util/Collections$SynchronizedNavigableMap"), (1, .class_ 288), (0, u "java/util/Collections$CheckedCollection"), (11, .class_ 301), (0, u "java/util/Collections$CheckedQueue"), (3, .class_ 306), (0, u "java/util/Collections$CheckedSet"), (3, .class_ 311), (0, u "java/util/Collections$CheckedSortedSet"), (3, .class_ 316), (0, u "java/util/Collections$CheckedNavigableSet"), (3, .class_ 321), (0, u "java/util/Collections$CheckedRandomAccessList"), (3, .class_ 326), (0, u "java/util/Collections$CheckedList"), (1, .class_ 329), (0, u "java/util/Collections$CheckedMap"), (3, .class_ 334), (0, u "java/util/Collections$CheckedSortedMap"), (3, .class_ 339), (0, u "java/util/Collections$CheckedNavigableMap"), (4, .class_ 346), (1, u "java/util/Collections$EmptyIterator"), (3, .class_ 352), (1, u "java/util/Collections$EmptyListIterator"), (2, .class_ 357), (1, u "java/util/Collections$EmptyEnumeration"), (4, u "EMPTY_SET"), (0, u "Ljava/util/Set;"), (6, u "EMPTY_LIST"), (0, u "Ljava/util/List;"), (2, u "EMPTY_MAP"), (0, u "Ljava/util/Map;"), (4, .class_ 381), (0, u "java/util/Collections$SingletonSet"), (2, .class_ 385), (0, u "java/util/Collections$1"), (1, .class_ 388), (0, u "java/util/Collections$2"), (1, .class_ 391), (0, u "java/util/Collections$SingletonList"), (1, .class_ 394), (0, u "java/util/Collections$SingletonMap"), (22, .class_ 418), (0, u "java/util/Collections$CopiesList"), (4, .class_ 425), (1, u "java/util/Collections$ReverseComparator"), (8, .class_ 435), (0, u "java/util/Collections$ReverseComparator2"), (6, .class_ 443), (0, u "java/util/Collections$3"), (25, .class_ 470), (0, u "java/util/Collections$SetFromMap"), (2, .class_ 474), (0, u "java/util/Collections$SequencedSetFromMap"), (3, .class_ 479), (0, u "java/util/Collections$AsLIFOQueue"), (11, .class_ 492), (0, u "java/util/Collections$EmptySet"), (1, .class_ 495), (0, u "java/util/Collections$EmptyList"), (1, .class_ 498), (0, u "java/util/Collections$EmptyMap"), (1, u "BINARYSEARCH_THRESHOLD"), (0, u "I"), (2, u "REVERSE_THRESHOLD"), (1, u "SHUFFLE_THRESHOLD"), (1, u "FILL_THRESHOLD"), (1, u "ROTATE_THRESHOLD"), (1, u "COPY_THRESHOLD"), (1, u "REPLACEALL_THRESHOLD"), (1, u "INDEXOFSUBLIST_THRESHOLD"), (333, .class_ 851), (0, u "java/util/Collections$CheckedMap$CheckedEntrySet"), (0, .class_ 853), (0, u "java/util/Collections$CheckedMap$CheckedEntrySet$CheckedEntry"), (0, .class_ 855), (0, u "java/util/Collections$CheckedMap$CheckedEntrySet$1"), (0, .class_ 857), (0, u "java/util/Collections$CheckedList$1"), (0, .class_ 859), (0, u "java/util/Collections$CheckedCollection$1"), (0, .class_ 861), (0, u "java/util/Collections$UnmodifiableNavigableMap$EmptyNavigableMap"), (0, .class_ 863), (0, u "java/util/Collections$UnmodifiableMap$UnmodifiableEntrySet"), (0, .class_ 865), (0, u "java/util/Collections$UnmodifiableMap$UnmodifiableEntrySet$UnmodifiableEntry"), (0, .class_ 867), (0, u "java/util/Collections$UnmodifiableMap$UnmodifiableEntrySet$UnmodifiableEntrySetSpliterator"), (0, .class_ 869), (0, u "java/util/Collections$UnmodifiableMap$UnmodifiableEntrySet$1"), (0, .class_ 871), (0, u "java/util/Collections$UnmodifiableList$1"), (0, .class_ 873), (0, u "java/util/Collections$UnmodifiableNavigableSet$EmptyNavigableSet"), (0, .class_ 875), (0, u "java/util/Collections$UnmodifiableCollection$1")] 57

def k21m0 : Method := { name := "<init>", desc := "()V", sig := { parameters := [], returnType := none }, accessFlags := 2, code := none }
/-- java/util/Collections -/
def k21 : Class := { plain "java/util/Collections" (some 0) with
  accessFlags := 33
  interfaces := #[]
  cf := some (fileOf pool21 19 #[.nestMembers #[478, 473, 469, 434, 423, 417, 393, 390, 380, 497, 494, 491, 355, 350, 344, 338, 333, 328, 850, 852, 854, 320, 325, 856, 315, 310, 305, 300, 287, 858, 284, 281, 278, 268, 271, 265, 262, 256, 250, 245, 860, 237, 231, 223, 862, 864, 866, 868, 215, 212, 870, 206, 872, 198, 190, 182, 174, 166, 874, 442, 387, 384]] #[{ accessFlags := 2, nameIndex := 5, descriptorIndex := 6, attributes := #[] }] 33 2 #[] #[{ accessFlags := 26, nameIndex := 500, descriptorIndex := 501, attributes := #[] }, { accessFlags := 26, nameIndex := 504, descriptorIndex := 501, attributes := #[] }, { accessFlags := 26, nameIndex := 506, descriptorIndex := 501, attributes := #[] }, { accessFlags := 26, nameIndex := 508, descriptorIndex := 501, attributes := #[] }, { accessFlags := 26, nameIndex := 510, descriptorIndex := 501, attributes := #[] }, { accessFlags := 26, nameIndex := 512, descriptorIndex := 501, attributes := #[] }, { accessFlags := 26, nameIndex := 514, descriptorIndex := 501, attributes := #[] }, { accessFlags := 26, nameIndex := 516, descriptorIndex := 501, attributes := #[] }, { accessFlags := 10, nameIndex := 84, descriptorIndex := 85, attributes := #[] }, { accessFlags := 25, nameIndex := 362, descriptorIndex := 363, attributes := #[] }, { accessFlags := 25, nameIndex := 370, descriptorIndex := 371, attributes := #[] }, { accessFlags := 25, nameIndex := 374, descriptorIndex := 375, attributes := #[] }])
  fields := #[{ name := "BINARYSEARCH_THRESHOLD", type := .int, accessFlags := 26, slot := 0, constantValue := 0 }, { name := "REVERSE_THRESHOLD", type := .int, accessFlags := 26, slot := 1, constantValue := 0 }, { name := "SHUFFLE_THRESHOLD", type := .int, accessFlags := 26, slot := 2, constantValue := 0 }, { name := "FILL_THRESHOLD", type := .int, accessFlags := 26, slot := 3, constantValue := 0 }, { name := "ROTATE_THRESHOLD", type := .int, accessFlags := 26, slot := 4, constantValue := 0 }, { name := "COPY_THRESHOLD", type := .int, accessFlags := 26, slot := 5, constantValue := 0 }, { name := "REPLACEALL_THRESHOLD", type := .int, accessFlags := 26, slot := 6, constantValue := 0 }, { name := "INDEXOFSUBLIST_THRESHOLD", type := .int, accessFlags := 26, slot := 7, constantValue := 0 }, { name := "r", type := (.object "java/util/Random"), accessFlags := 10, slot := 8, constantValue := 0 }, { name := "EMPTY_SET", type := (.object "java/util/Set"), accessFlags := 25, slot := 9, constantValue := 0 }, { name := "EMPTY_LIST", type := (.object "java/util/List"), accessFlags := 25, slot := 10, constantValue := 0 }, { name := "EMPTY_MAP", type := (.object "java/util/Map"), accessFlags := 25, slot := 11, constantValue := 0 }]
  methods := #[k21m0]
  instanceTypes := #[]
  staticTypes := #[.int, .int, .int, .int, .int, .int, .int, .int, (.object "java/util/Random"), (.object "java/util/Set"), (.object "java/util/List"), (.object "java/util/Map")]
  resolved := Array.replicate 933 none
  statics := some 3 }

def pool22 : Array CpInfo := pool [(8, .class_ 10), (1, u "java/lang/Iterable"), (24, .class_ 36), (0, u "java/lang/Object")] 25

/-- java/lang/Iterable -/
def k22 : Class := { plain "java/lang/Iterable" (some 0) with
  accessFlags := 1537
  interfaces := #[]
  cf := some (fileOf pool22 8 #[] #[] 1537 35 #[] #[])
  fields := #[]
  methods := #[]
  instanceTypes := #[]
  staticTypes := #[]
  resolved := Array.replicate 62 none
  statics := none }

def pool23 : Array CpInfo := pool [(10, .class_ 12), (1, u "java/util/Collection"), (47, .class_ 61), (0, u "java/lang/Object"), (0, .class_ 63), (0, u "java/lang/Iterable")] 51

/-- java/util/Collection -/
def k23 : Class := { plain "java/util/Collection" (some 0) with
  accessFlags := 1537
  interfaces := #[22]
  cf := some (fileOf pool23 10 #[] #[] 1537 60 #[62] #[])
  fields := #[]
  methods := #[]
  instanceTypes := #[]
  staticTypes := #[]
  resolved := Array.replicate 115 none
  statics := none }

def pool24 : Array CpInfo := pool [(2, .class_ 4), (1, u "java/lang/Object"), (0, u "<init>"), (0, u "()V"), (1, .class_ 10), (1, u "java/util/AbstractCollection"), (66, .class_ 78), (0, u "java/util/Collection")] 81

def k24m0 : Method := { name := "<init>", desc := "()V", sig := { parameters := [], returnType := none }, accessFlags := 4, code := none }
/-- java/util/AbstractCollection -/
def k24 : Class := { plain "java/util/AbstractCollection" (some 0) with
  accessFlags := 1057
  interfaces := #[23]
  cf := some (fileOf pool24 8 #[] #[{ accessFlags := 4, nameIndex := 5, descriptorIndex := 6, attributes := #[] }] 1057 2 #[77] #[])
  fields := #[]
  methods := #[k24m0]
  instanceTypes := #[]
  staticTypes := #[]
  resolved := Array.replicate 160 none
  statics := none }

def pool25 : Array CpInfo := pool [(8, .class_ 10), (1, u "java/util/SequencedCollection"), (15, .class_ 27), (0, u "java/lang/Object"), (0, .class_ 29), (0, u "java/util/Collection")] 27

/-- java/util/SequencedCollection -/
def k25 : Class := { plain "java/util/SequencedCollection" (some 0) with
  accessFlags := 1537
  interfaces := #[23]
  cf := some (fileOf pool25 8 #[] #[] 1537 26 #[28] #[])
  fields := #[]
  methods := #[]
  instanceTypes := #[]
  staticTypes := #[]
  resolved := Array.replicate 57 none
  statics := none }

def pool26 : Array CpInfo := pool [(8, .class_ 10), (1, u "java/util/List"), (92, .class_ 104), (0, u "java/lang/Object"), (15, .class_ 121), (0, u "java/util/SequencedCollection")] 129

/-- java/util/List -/
def k26 : Class := { plain "java/util/List" (some 0) with
  accessFlags := 1537
  interfaces := #[25]
  cf := some (fileOf pool26 8 #[] #[] 1537 103 #[120] #[])
  fields := #[]
  methods := #[]
  instanceTypes := #[]
  staticTypes := #[]
  resolved := Array.replicate 251 none
  statics := none }

def pool27 : Array CpInfo := pool [(2, .class_ 4), (1, u "java/util/AbstractCollection"), (0, u "<init>"), (0, u "()V"), (1, .class_ 10), (1, u "java/util/AbstractList"), (0, u "modCount"), (0, u "I"), (64, .class_ 78), (0, u "java/util/AbstractList$Itr"), (3, .class_ 83), (0, u "java/util/AbstractList$ListItr"), (9, .class_ 94), (0, u "java/util/AbstractList$RandomAccessSubList"), (3, .class_ 99), (0, u "java/util/AbstractList$SubList"), (33, .class_ 134), (0, u "java/util/List"), (73, .class_ 209), (0, u "java/util/AbstractList$SubList$1"), (0, .class_ 211), (0, u "java/util/AbstractList$RandomAccessSpliterator")] 6

def k27m0 : Method := { name := "<init>", desc := "()V", sig := { parameters := [], returnType := none }, accessFlags := 4, code := none }
/-- java/util/AbstractList -/
def k27 : Class := { plain "java/util/AbstractList" (some 24) with
  accessFlags := 1057
  interfaces := #[26]
  cf := some (fileOf pool27 8 #[.nestMembers #[93, 98, 208, 210, 82, 77]] #[{ accessFlags := 4, nameIndex := 5, descriptorIndex := 6, attributes := #[] }] 1057 2 #[133] #[{ accessFlags := 132, nameIndex := 11, descriptorIndex := 12, attributes := #[] }])
  fields := #[{ name := "modCount", type := .int, accessFlags := 132, slot := 0, constantValue := 0 }]
  methods := #[k27m0]
  instanceTypes := #[.int]
  staticTypes := #[]
  resolved := Array.replicate 218 none
  statics := none }

def pool28 : Array CpInfo := pool [(1, .class_ 2), (0, u "java/util/RandomAccess"), (0, .class_ 4), (0, u "java/lang/Object")] 2

/-- java/util/RandomAccess -/
def k28 : Class := { plain "java/util/RandomAccess" (some 0) with
  accessFlags := 1537
  interfaces := #[]
  cf := some (fileOf pool28 1 #[] #[] 1537 3 #[] #[])
  fields := #[]
  methods := #[]
  instanceTypes := #[]
  staticTypes := #[]
  resolved := Array.replicate 7 none
  statics := none }

def pool29 : Array CpInfo := pool [(2, .class_ 4), (1, u "java/util/AbstractList"), (0, u "<init>"), (0, u "()V"), (1, .class_ 10), (1, u "java/util/Collections"), (54, .class_ 66), (0, u "java/util/Collections$EmptyList"), (0, .class_ 68), (0, u "java/util/RandomAccess"), (0, .class_ 70), (0, u "java/io/Serializable"), (0, u "serialVersionUID"), (0, u "J")] 77

def k29m0 : Method := { name := "<init>", desc := "()V", sig := { parameters := [], returnType := none }, accessFlags := 2, code := none }
/-- java/util/Collections$EmptyList -/
def k29 : Class := { plain "java/util/Collections$EmptyList" (some 27) with
  accessFlags := 32
  interfaces := #[28, 2]
  cf := some (fileOf pool29 65 #[.nestHost 8] #[{ accessFlags := 2, nameIndex := 5, descriptorIndex := 6, attributes := #[] }] 32 2 #[67, 69] #[{ accessFlags := 26, nameIndex := 71, descriptorIndex := 72, attributes := #[] }])
  fields := #[{ name := "serialVersionUID", type := .long, accessFlags := 26, slot := 0, constantValue := 0 }]
  methods := #[k29m0]
  instanceTypes := #[.int]
  staticTypes := #[.long]
  resolved := Array.replicate 150 none
  statics := none }

def pool30 : Array CpInfo := pool [(2, .class_ 4), (1, u "java/lang/StackTraceElement"), (0, u "<init>"), (2, .class_ 10), (1, u "java/lang/Object"), (0, u "()V"), (2, u "format"), (0, u "B"), (2, u "classLoaderName"), (0, u "Ljava/lang/String;"), (2, u "moduleName"), (2, u "moduleVersion"), (12, u "declaringClass"), (4, u "methodName"), (2, u "fileName"), (2, u "lineNumber"), (0, u "I"), (65, u "declaringClassObject"), (0, u "Ljava/lang/Class;"), (33, .class_ 153), (1, u "java/lang/StackTraceElement$HashedModules"), (17, .class_ 172), (0, u "java/io/Serializable"), (0, u "NATIVE_METHOD"), (1, u "UNKNOWN_SOURCE"), (2, u "BUILTIN_CLASS_LOADER"), (1, u "JDK_NON_UPGRADEABLE_MODULE"), (1, u "serialVersionUID"), (0, u "J")] 51

def k30m0 : Method := { name := "<init>", desc := "()V", sig := { parameters := [], returnType := none }, accessFlags := 2, code := none }
/-- java/lang/StackTraceElement -/
def k30 : Class := { plain "java/lang/StackTraceElement" (some 0) with
  accessFlags := 49
  interfaces := #[2]
  cf := some (fileOf pool30 2 #[.nestMembers #[151]] #[{ accessFlags := 2, nameIndex := 5, descriptorIndex := 11, attributes := #[] }] 49 8 #[171] #[{ accessFlags := 26, nameIndex := 173, descriptorIndex := 19, attributes := #[] }, { accessFlags := 26, nameIndex := 175, descriptorIndex := 19, attributes := #[] }, { accessFlags := 130, nameIndex := 116, descriptorIndex := 117, attributes := #[] }, { accessFlags := 2, nameIndex := 18, descriptorIndex := 19, attributes := #[] }, { accessFlags := 2, nameIndex := 22, descriptorIndex := 19, attributes := #[] }, { accessFlags := 2, nameIndex := 25, descriptorIndex := 19, attributes := #[] }, { accessFlags := 2, nameIndex := 38, descriptorIndex := 19, attributes := #[] }, { accessFlags := 2, nameIndex := 43, descriptorIndex := 19, attributes := #[] }, { accessFlags := 2, nameIndex := 46, descriptorIndex := 19, attributes := #[] }, { accessFlags := 2, nameIndex := 49, descriptorIndex := 50, attributes := #[] }, { accessFlags := 2, nameIndex := 14, descriptorIndex := 15, attributes := #[] }, { accessFlags := 26, nameIndex := 178, descriptorIndex := 15, attributes := #[] }, { accessFlags := 26, nameIndex := 180, descriptorIndex := 15, attributes := #[] }, { accessFlags := 26, nameIndex := 182, descriptorIndex := 183, attributes := #[] }])
  fields := #[{ name := "NATIVE_METHOD", type := (.object "java/lang/String"), accessFlags := 26, slot := 0, constantValue := 0 }, { name := "UNKNOWN_SOURCE", type := (.object "java/lang/String"), accessFlags := 26, slot := 1, constantValue := 0 }, { name := "declaringClassObject", type := (.object "java/lang/Class"), accessFlags := 130, slot := 0, constantValue := 0 }, { name := "classLoaderName", type := (.object "java/lang/String"), accessFlags := 2, slot := 1, constantValue := 0 }, { name := "moduleName", type := (.object "java/lang/String"), accessFlags := 2, slot := 2, constantValue := 0 }, { name := "moduleVersion", type := (.object "java/lang/String"), accessFlags := 2, slot := 3, constantValue := 0 }, { name := "declaringClass", type := (.object "java/lang/String"), accessFlags := 2, slot := 4, constantValue := 0 }, { name := "methodName", type := (.object "java/lang/String"), accessFlags := 2, slot := 5, constantValue := 0 }, { name := "fileName", type := (.object "java/lang/String"), accessFlags := 2, slot := 6, constantValue := 0 }, { name := "lineNumber", type := .int, accessFlags := 2, slot := 7, constantValue := 0 }, { name := "format", type := .byte, accessFlags := 2, slot := 8, constantValue := 0 }, { name := "BUILTIN_CLASS_LOADER", type := .byte, accessFlags := 26, slot := 2, constantValue := 0 }, { name := "JDK_NON_UPGRADEABLE_MODULE", type := .byte, accessFlags := 26, slot := 3, constantValue := 0 }, { name := "serialVersionUID", type := .long, accessFlags := 26, slot := 4, constantValue := 0 }]
  methods := #[k30m0]
  instanceTypes := #[(.object "java/lang/Class"), (.object "java/lang/String"), (.object "java/lang/String"), (.object "java/lang/String"), (.object "java/lang/String"), (.object "java/lang/String"), (.object "java/lang/String"), .int, .byte]
  staticTypes := #[(.object "java/lang/String"), (.object "java/lang/String"), .byte, .byte, .long]
  resolved := Array.replicate 235 none
  statics := none }

def pool31 : Array CpInfo := pool [(1, u "java/lang/Cloneable"), (0, .class_ 1), (0, u "java/lang/Object"), (0, .class_ 3)] 3

/-- java/lang/Cloneable -/
def k31 : Class := { plain "java/lang/Cloneable" (some 0) with
  accessFlags := 1537
  interfaces := #[]
  cf := some (fileOf pool31 2 #[] #[] 1537 4 #[] #[])
  fields := #[]
  methods := #[]
  instanceTypes := #[]
  staticTypes := #[]
  resolved := Array.replicate 8 none
  statics := none }

/-- the primitive byte -/
def k32 : Class := { plain "byte" none with kind := .primitive 'B', accessFlags := 0x411 }
/-- [B -/
def k33 : Class := { plain "[B" (some 0) with kind := .array 32 .byte, interfaces := #[31, 2], accessFlags := 1041 }

/-- the primitive char -/
def k34 : Class := { plain "char" none with kind := .primitive 'C', accessFlags := 0x411 }
/-- [C -/
def k35 : Class := { plain "[C" (some 0) with kind := .array 34 .char, interfaces := #[31, 2], accessFlags := 1041 }

/-- the primitive int -/
def k36 : Class := { plain "int" none with kind := .primitive 'I', accessFlags := 0x411 }
/-- [I -/
def k37 : Class := { plain "[I" (some 0) with kind := .array 36 .int, interfaces := #[31, 2], accessFlags := 1041 }

/-- [Ljava/lang/Object; -/
def k38 : Class := { plain "[Ljava/lang/Object;" (some 0) with kind := .array 0 (.object "java/lang/Object"), interfaces := #[31, 2], accessFlags := 1041 }

/-- [Ljava/lang/StackTraceElement; -/
def k39 : Class := { plain "[Ljava/lang/StackTraceElement;" (some 0) with kind := .array 30 (.object "java/lang/StackTraceElement"), interfaces := #[31, 2], accessFlags := 1041 }

/-- [Ljava/lang/Throwable; -/
def k40 : Class := { plain "[Ljava/lang/Throwable;" (some 0) with kind := .array 8 (.object "java/lang/Throwable"), interfaces := #[31, 2], accessFlags := 1041 }

def heap : Heap := #[{ cls := 7, slots := #[.long 0, .int 1, .null, .int 0, .null, .int 0, .int 0], vm := .statics 7 },
  { cls := 8, slots := #[.long 0, .ref 4, .ref 5, .null, .null, .null, .null, .ref 6, .int 1], vm := .statics 8 },
  { cls := 19, slots := #[.null, .null, .null], vm := .statics 19 },
  { cls := 21, slots := #[.int 0, .int 0, .int 0, .int 0, .int 0, .int 0, .int 0, .int 0, .null, .null, .ref 5, .null], vm := .statics 21 },
  { cls := 39, slots := #[], vm := .none },
  { cls := 29, slots := #[.int 0], vm := .none },
  { cls := 40, slots := #[], vm := .none }]
def classes : Array Class := #[k0, k1, k2, k3, k4, k5, k6, k7, k8, k9, k10, k11, k12, k13, k14, k15, k16, k17, k18, k19, k20, k21, k22, k23, k24, k25, k26, k27, k28, k29, k30, k31, k32, k33, k34, k35, k36, k37, k38, k39, k40]
def interned : List (Array UInt16 × Addr) := []
def slotsUsed : Nat := 32
def theMethod : MethodId := ⟨1, 2⟩
def args0 : Array Value := #[.int 3, .int 65, .int 66, .int 200]
def aboutOver (below : List Frame) : State where
  vm := { classes := classes, interned := interned.toArray }
  heap := heap
  slotsUsed := slotsUsed
  threads := #[{ frames := .invoking theMethod args0 :: below }]
def below0 : List Frame := [.native { method := ⟨0, 0⟩, args := #[] }]
def about1 : State := aboutOver below0
def p0 : Program := .bare "" "" ""
def e0 : Env := launch0.env 0 0 0
theorem w_frames : about1.frames = Frame.invoking theMethod args0 :: below0 := rfl
set_option maxRecDepth 65536 in
theorem w_args : argsFit about1.vm theMethod args0 = true := by decide +kernel
set_option maxRecDepth 65536 in
theorem w_heap : heapFits about1 = true := by decide +kernel
set_option maxRecDepth 65536 in
theorem w_runnable : about1.curStatus? = some .runnable := by decide +kernel
set_option maxRecDepth 65536 in
theorem w_alone : about1.alone = true := by decide +kernel
set_option maxRecDepth 65536 in
theorem w_named : about1.methodNamed? x = some theMethod := by decide +kernel
set_option maxRecDepth 65536 in
theorem w_hears : about1.hears theMethod below0 = true := by decide +kernel
set_option maxRecDepth 65536 in
theorem w_ripe : about1.ripe theMethod args0 below0 = true := by decide +kernel
theorem w_running : about1.status = .running := rfl
set_option maxRecDepth 65536 in
theorem w_room : about1.hasRoom e0.platform room_1 = true :=
  launch0.hasRoom_least _ room_1 (by decide +kernel) (by decide +kernel) (by decide +kernel) (by decide +kernel) (by decide +kernel) (by decide +kernel)
theorem allAtoms_all (ts : List Jvm.Cond) (a : Array Jvm.Value) (st : Jvm.State) : (allAtoms ts).before a st = ts.all (fun c => c.before a st) := by
  induction ts with
  | nil => rfl
  | cons c t ih =>
    show (Jvm.Cond.and c (allAtoms t)).before a st = _
    rw [Jvm.Cond.before_and, ih, List.all_cons]
def words1 : List Jvm.Cond := Jvm.Cond.code x code maxLocals ret :: tables_1
/-- a 'code' word, met by the world's own term for the bytes: nothing is compared byte by byte -/
theorem code_word {y : MethodName} {bytes : ByteArray} {mx : Nat} {rt : Option FieldType} {a : Array Value} {s : State} {m : MethodId} {meth : Method} {c : Code} (h1 : s.methodNamed? y = some m) (h2 : s.vm.method? m = some meth) (h3 : meth.code = some c) (h4 : c.code = bytes)
    (h5 : (c.maxLocals == mx && c.exceptionTable.isEmpty && decide (c.maxStack ≤ mostOperands) && decide (meth.sig.returnType = rt) && !meth.locks && decide (parseMethodDescriptor y.desc = some meth.sig)) = true) : (Jvm.Cond.code y bytes mx rt).before a s = true := by
  simp only [Bool.and_eq_true, beq_iff_eq, Bool.not_eq_true', decide_eq_true_eq] at h5
  obtain ⟨⟨⟨⟨⟨g1, g2⟩, g3⟩, g4⟩, g5⟩, g6⟩ := h5
  simp [Cond.before, Cond.holds, Cond.value, h1, h2, h3, h4, g1, g2, g3, g4, g5, g6]
def isCode : Jvm.Cond → Bool
  | .code _ _ _ _ => true
  | _ => false
theorem all_split {L : List Jvm.Cond} {P : Jvm.Cond → Bool} (h1 : L.all (fun c => isCode c || P c) = true) (h2 : ∀ c ∈ L.filter isCode, P c = true) : L.all P = true := by
  refine List.all_eq_true.mpr fun c hc => ?_
  have h := List.all_eq_true.mp h1 c hc
  rcases Bool.eq_false_or_eq_true (isCode c) with hi | hi
  · exact h2 c (List.mem_filter.mpr ⟨hc, hi⟩)
  · simpa [hi] using h
set_option maxRecDepth 65536 in
theorem w_c0 : (Jvm.Cond.code x code maxLocals ret).before args0 about1 = true := code_word (m := ⟨1, 2⟩) (meth := k1m2) (c := k1c2) (by decide +kernel) rfl rfl rfl (by decide +kernel)
set_option maxRecDepth 65536 in
theorem w_c1 : (Jvm.Cond.code ({ cls := "java/lang/String", name := "<init>", desc := "([C)V" } : Jvm.MethodName) jdk_42_method_3_code (2 : Nat) (Option.none : Option Jvm.ClassFile.FieldType)).before args0 about1 = true := code_word (m := ⟨7, 1⟩) (meth := k7m1) (c := k7c1) (by decide +kernel) rfl rfl rfl (by decide +kernel)
set_option maxRecDepth 65536 in
theorem w_c2 : (Jvm.Cond.code ({ cls := "java/lang/String", name := "<init>", desc := "([CIILjava/lang/Void;)V" } : Jvm.MethodName) jdk_42_method_149_code (6 : Nat) (Option.none : Option Jvm.ClassFile.FieldType)).before args0 about1 = true := code_word (m := ⟨7, 6⟩) (meth := k7m6) (c := k7c6) (by decide +kernel) rfl rfl rfl (by decide +kernel)
set_option maxRecDepth 65536 in
theorem w_c3 : (Jvm.Cond.code ({ cls := "java/lang/Object", name := "<init>", desc := "()V" } : Jvm.MethodName) object_method_1_code (1 : Nat) (Option.none : Option Jvm.ClassFile.FieldType)).before args0 about1 = true := code_word (m := ⟨0, 0⟩) (meth := k0m0) (c := k0c0) (by decide +kernel) rfl rfl rfl (by decide +kernel)
set_option maxRecDepth 65536 in
theorem w_c4 : (Jvm.Cond.code ({ cls := "com/example/queryloom/queryloom/translation/TranslationException", name := "unsupported", desc := "(Ljava/lang/String;)Lcom/example/queryloom/queryloom/translation/TranslationException;" } : Jvm.MethodName) prog_15_method_2_code (1 : Nat) (Option.some (Jvm.ClassFile.FieldType.object "com/example/queryloom/queryloom/translation/TranslationException"))).before args0 about1 = true := code_word (m := ⟨10, 1⟩) (meth := k10m1) (c := k10c1) (by decide +kernel) rfl rfl rfl (by decide +kernel)
set_option maxRecDepth 65536 in
theorem w_c5 : (Jvm.Cond.code ({ cls := "java/lang/StringBuilder", name := "<init>", desc := "()V" } : Jvm.MethodName) jdk_67_method_1_code (1 : Nat) (Option.none : Option Jvm.ClassFile.FieldType)).before args0 about1 = true := code_word (m := ⟨13, 0⟩) (meth := k13m0) (c := k13c0) (by decide +kernel) rfl rfl rfl (by decide +kernel)
set_option maxRecDepth 65536 in
theorem w_c6 : (Jvm.Cond.code ({ cls := "java/lang/AbstractStringBuilder", name := "<init>", desc := "(I)V" } : Jvm.MethodName) jdk_68_method_2_code (2 : Nat) (Option.none : Option Jvm.ClassFile.FieldType)).before args0 about1 = true := code_word (m := ⟨12, 1⟩) (meth := k12m1) (c := k12c1) (by decide +kernel) rfl rfl rfl (by decide +kernel)
set_option maxRecDepth 65536 in
theorem w_c7 : (Jvm.Cond.code ({ cls := "java/lang/StringBuilder", name := "append", desc := "(Ljava/lang/String;)Ljava/lang/StringBuilder;" } : Jvm.MethodName) jdk_67_method_7_code (2 : Nat) (Option.some (Jvm.ClassFile.FieldType.object "java/lang/StringBuilder"))).before args0 about1 = true := code_word (m := ⟨13, 1⟩) (meth := k13m1) (c := k13c1) (by decide +kernel) rfl rfl rfl (by decide +kernel)
set_option maxRecDepth 65536 in
theorem w_c8 : (Jvm.Cond.code ({ cls := "java/lang/AbstractStringBuilder", name := "append", desc := "(Ljava/lang/String;)Ljava/lang/AbstractStringBuilder;" } : Jvm.MethodName) jdk_68_method_22_code (3 : Nat) (Option.some (Jvm.ClassFile.FieldType.object "java/lang/AbstractStringBuilder"))).before args0 about1 = true := code_word (m := ⟨12, 5⟩) (meth := k12m5) (c := k12c5) (by decide +kernel) rfl rfl rfl (by decide +kernel)
set_option maxRecDepth 65536 in
theorem w_c9 : (Jvm.Cond.code ({ cls := "java/lang/String", name := "length", desc := "()I" } : Jvm.MethodName) jdk_42_method_54_code (1 : Nat) (Option.some Jvm.ClassFile.FieldType.int)).before args0 about1 = true := code_word (m := ⟨7, 3⟩) (meth := k7m3) (c := k7c3) (by decide +kernel) rfl rfl rfl (by decide +kernel)
set_option maxRecDepth 65536 in
theorem w_c10 : (Jvm.Cond.code ({ cls := "java/lang/String", name := "coder", desc := "()B" } : Jvm.MethodName) jdk_42_method_152_code (1 : Nat) (Option.some Jvm.ClassFile.FieldType.byte)).before args0 about1 = true := code_word (m := ⟨7, 8⟩) (meth := k7m8) (c := k7c8) (by decide +kernel) rfl rfl rfl (by decide +kernel)
set_option maxRecDepth 65536 in
theorem w_c11 : (Jvm.Cond.code ({ cls := "java/lang/AbstractStringBuilder", name := "ensureCapacityInternal", desc := "(I)V" } : Jvm.MethodName) jdk_68_method_9_code (3 : Nat) (Option.none : Option Jvm.ClassFile.FieldType)).before args0 about1 = true := code_word (m := ⟨12, 3⟩) (meth := k12m3) (c := k12c3) (by decide +kernel) rfl rfl rfl (by decide +kernel)
set_option maxRecDepth 65536 in
theorem w_c12 : (Jvm.Cond.code ({ cls := "java/lang/AbstractStringBuilder", name := "putStringAt", desc := "(ILjava/lang/String;)V" } : Jvm.MethodName) jdk_68_method_73_code (3 : Nat) (Option.none : Option Jvm.ClassFile.FieldType)).before args0 about1 = true := code_word (m := ⟨12, 9⟩) (meth := k12m9) (c := k12c9) (by decide +kernel) rfl rfl rfl (by decide +kernel)
set_option maxRecDepth 65536 in
theorem w_c13 : (Jvm.Cond.code ({ cls := "java/lang/AbstractStringBuilder", name := "inflateIfNeededFor", desc := "(Ljava/lang/String;)V" } : Jvm.MethodName) jdk_68_method_71_code (2 : Nat) (Option.none : Option Jvm.ClassFile.FieldType)).before args0 about1 = true := code_word (m := ⟨12, 8⟩) (meth := k12m8) (c := k12c8) (by decide +kernel) rfl rfl rfl (by decide +kernel)
set_option maxRecDepth 65536 in
theorem w_c14 : (Jvm.Cond.code ({ cls := "java/lang/String", name := "getBytes", desc := "([BIB)V" } : Jvm.MethodName) jdk_42_method_147_code (4 : Nat) (Option.none : Option Jvm.ClassFile.FieldType)).before args0 about1 = true := code_word (m := ⟨7, 5⟩) (meth := k7m5) (c := k7c5) (by decide +kernel) rfl rfl rfl (by decide +kernel)
set_option maxRecDepth 65536 in
theorem w_c15 : (Jvm.Cond.code ({ cls := "java/lang/AbstractStringBuilder", name := "newCapacity", desc := "(I)I" } : Jvm.MethodName) jdk_68_method_10_code (6 : Nat) (Option.some Jvm.ClassFile.FieldType.int)).before args0 about1 = true := code_word (m := ⟨12, 4⟩) (meth := k12m4) (c := k12c4) (by decide +kernel) rfl rfl rfl (by decide +kernel)
set_option maxRecDepth 65536 in
theorem w_c16 : (Jvm.Cond.code ({ cls := "jdk/internal/util/ArraysSupport", name := "newLength", desc := "(III)I" } : Jvm.MethodName) jdk_48_method_27_code (4 : Nat) (Option.some Jvm.ClassFile.FieldType.int)).before args0 about1 = true := code_word (m := ⟨15, 1⟩) (meth := k15m1) (c := k15c1) (by decide +kernel) rfl rfl rfl (by decide +kernel)
set_option maxRecDepth 65536 in
theorem w_c17 : (Jvm.Cond.code ({ cls := "java/lang/Math", name := "max", desc := "(II)I" } : Jvm.MethodName) jdk_29_method_65_code (2 : Nat) (Option.some Jvm.ClassFile.FieldType.int)).before args0 about1 = true := code_word (m := ⟨16, 1⟩) (meth := k16m1) (c := k16c1) (by decide +kernel) rfl rfl rfl (by decide +kernel)
set_option maxRecDepth 65536 in
theorem w_c18 : (Jvm.Cond.code ({ cls := "java/util/Arrays", name := "copyOf", desc := "([BI)[B" } : Jvm.MethodName) jdk_65_method_121_code (3 : Nat) (Option.some (Jvm.ClassFile.FieldType.array Jvm.ClassFile.FieldType.byte))).before args0 about1 = true := code_word (m := ⟨17, 1⟩) (meth := k17m1) (c := k17c1) (by decide +kernel) rfl rfl rfl (by decide +kernel)
set_option maxRecDepth 65536 in
theorem w_c19 : (Jvm.Cond.code ({ cls := "java/lang/Math", name := "min", desc := "(II)I" } : Jvm.MethodName) jdk_29_method_69_code (2 : Nat) (Option.some Jvm.ClassFile.FieldType.int)).before args0 about1 = true := code_word (m := ⟨16, 2⟩) (meth := k16m2) (c := k16c2) (by decide +kernel) rfl rfl rfl (by decide +kernel)
set_option maxRecDepth 65536 in
theorem w_c20 : (Jvm.Cond.code ({ cls := "java/lang/StringBuilder", name := "toString", desc := "()Ljava/lang/String;" } : Jvm.MethodName) jdk_67_method_42_code (1 : Nat) (Option.some (Jvm.ClassFile.FieldType.object "java/lang/String"))).before args0 about1 = true := code_word (m := ⟨13, 2⟩) (meth := k13m2) (c := k13c2) (by decide +kernel) rfl rfl rfl (by decide +kernel)
set_option maxRecDepth 65536 in
theorem w_c21 : (Jvm.Cond.code ({ cls := "java/lang/String", name := "<init>", desc := "(Ljava/lang/StringBuilder;)V" } : Jvm.MethodName) jdk_42_method_53_code (2 : Nat) (Option.none : Option Jvm.ClassFile.FieldType)).before args0 about1 = true := code_word (m := ⟨7, 2⟩) (meth := k7m2) (c := k7c2) (by decide +kernel) rfl rfl rfl (by decide +kernel)
set_option maxRecDepth 65536 in
theorem w_c22 : (Jvm.Cond.code ({ cls := "java/lang/String", name := "<init>", desc := "(Ljava/lang/AbstractStringBuilder;Ljava/lang/Void;)V" } : Jvm.MethodName) jdk_42_method_150_code (5 : Nat) (Option.none : Option Jvm.ClassFile.FieldType)).before args0 about1 = true := code_word (m := ⟨7, 7⟩) (meth := k7m7) (c := k7c7) (by decide +kernel) rfl rfl rfl (by decide +kernel)
set_option maxRecDepth 65536 in
theorem w_c23 : (Jvm.Cond.code ({ cls := "java/lang/AbstractStringBuilder", name := "getValue", desc := "()[B" } : Jvm.MethodName) jdk_68_method_64_code (1 : Nat) (Option.some (Jvm.ClassFile.FieldType.array Jvm.ClassFile.FieldType.byte))).before args0 about1 = true := code_word (m := ⟨12, 6⟩) (meth := k12m6) (c := k12c6) (by decide +kernel) rfl rfl rfl (by decide +kernel)
set_option maxRecDepth 65536 in
theorem w_c24 : (Jvm.Cond.code ({ cls := "java/lang/StringBuilder", name := "length", desc := "()I" } : Jvm.MethodName) jdk_67_method_93_code (1 : Nat) (Option.some Jvm.ClassFile.FieldType.int)).before args0 about1 = true := code_word (m := ⟨13, 3⟩) (meth := k13m3) (c := k13c3) (by decide +kernel) rfl rfl rfl (by decide +kernel)
set_option maxRecDepth 65536 in
theorem w_c25 : (Jvm.Cond.code ({ cls := "java/lang/AbstractStringBuilder", name := "length", desc := "()I" } : Jvm.MethodName) jdk_68_method_6_code (1 : Nat) (Option.some Jvm.ClassFile.FieldType.int)).before args0 about1 = true := code_word (m := ⟨12, 2⟩) (meth := k12m2) (c := k12c2) (by decide +kernel) rfl rfl rfl (by decide +kernel)
set_option maxRecDepth 65536 in
theorem w_c26 : (Jvm.Cond.code ({ cls := "java/lang/AbstractStringBuilder", name := "isLatin1", desc := "()Z" } : Jvm.MethodName) jdk_68_method_68_code (1 : Nat) (Option.some Jvm.ClassFile.FieldType.boolean)).before args0 about1 = true := code_word (m := ⟨12, 7⟩) (meth := k12m7) (c := k12c7) (by decide +kernel) rfl rfl rfl (by decide +kernel)
set_option maxRecDepth 65536 in
theorem w_c27 : (Jvm.Cond.code ({ cls := "java/util/Arrays", name := "copyOfRange", desc := "([BII)[B" } : Jvm.MethodName) jdk_65_method_132_code (3 : Nat) (Option.some (Jvm.ClassFile.FieldType.array Jvm.ClassFile.FieldType.byte))).before args0 about1 = true := code_word (m := ⟨17, 3⟩) (meth := k17m3) (c := k17c3) (by decide +kernel) rfl rfl rfl (by decide +kernel)
set_option maxRecDepth 65536 in
theorem w_c28 : (Jvm.Cond.code ({ cls := "java/util/Arrays", name := "copyOfRangeByte", desc := "([BII)[B" } : Jvm.MethodName) jdk_65_method_133_code (5 : Nat) (Option.some (Jvm.ClassFile.FieldType.array Jvm.ClassFile.FieldType.byte))).before args0 about1 = true := code_word (m := ⟨17, 4⟩) (meth := k17m4) (c := k17c4) (by decide +kernel) rfl rfl rfl (by decide +kernel)
set_option maxRecDepth 65536 in
theorem w_c29 : (Jvm.Cond.code ({ cls := "java/util/Arrays", name := "checkLength", desc := "(II)V" } : Jvm.MethodName) jdk_65_method_131_code (2 : Nat) (Option.none : Option Jvm.ClassFile.FieldType)).before args0 about1 = true := code_word (m := ⟨17, 2⟩) (meth := k17m2) (c := k17c2) (by decide +kernel) rfl rfl rfl (by decide +kernel)
set_option maxRecDepth 65536 in
theorem w_c30 : (Jvm.Cond.code ({ cls := "com/example/queryloom/queryloom/translation/TranslationException", name := "<init>", desc := "(Ljava/lang/String;)V" } : Jvm.MethodName) prog_15_method_1_code (2 : Nat) (Option.none : Option Jvm.ClassFile.FieldType)).before args0 about1 = true := code_word (m := ⟨10, 0⟩) (meth := k10m0) (c := k10c0) (by decide +kernel) rfl rfl rfl (by decide +kernel)
set_option maxRecDepth 65536 in
theorem w_c31 : (Jvm.Cond.code ({ cls := "java/lang/Exception", name := "<init>", desc := "(Ljava/lang/String;)V" } : Jvm.MethodName) jdk_59_method_2_code (2 : Nat) (Option.none : Option Jvm.ClassFile.FieldType)).before args0 about1 = true := code_word (m := ⟨9, 1⟩) (meth := k9m1) (c := k9c1) (by decide +kernel) rfl rfl rfl (by decide +kernel)
set_option maxRecDepth 65536 in
theorem w_c32 : (Jvm.Cond.code ({ cls := "java/lang/Throwable", name := "<init>", desc := "(Ljava/lang/String;)V" } : Jvm.MethodName) jdk_78_method_2_code (2 : Nat) (Option.none : Option Jvm.ClassFile.FieldType)).before args0 about1 = true := code_word (m := ⟨8, 1⟩) (meth := k8m1) (c := k8c1) (by decide +kernel) rfl rfl rfl (by decide +kernel)
set_option maxRecDepth 65536 in
theorem w_c33 : (Jvm.Cond.code ({ cls := "java/lang/Throwable", name := "<init>", desc := "()V" } : Jvm.MethodName) jdk_78_method_1_code (1 : Nat) (Option.none : Option Jvm.ClassFile.FieldType)).before args0 about1 = true := code_word (m := ⟨8, 0⟩) (meth := k8m0) (c := k8c0) (by decide +kernel) rfl rfl rfl (by decide +kernel)
set_option maxRecDepth 65536 in
theorem w_c34 : (Jvm.Cond.code ({ cls := "java/lang/Throwable", name := "getMessage", desc := "()Ljava/lang/String;" } : Jvm.MethodName) jdk_78_method_6_code (1 : Nat) (Option.some (Jvm.ClassFile.FieldType.object "java/lang/String"))).before args0 about1 = true := code_word (m := ⟨8, 2⟩) (meth := k8m2) (c := k8c2) (by decide +kernel) rfl rfl rfl (by decide +kernel)
set_option maxRecDepth 65536 in
theorem w_c35 : (Jvm.Cond.code ({ cls := "com/example/queryloom/queryloom/translation/TranslationExceptionUnsupportedPinLaw", name := "suffixAt", desc := "(Ljava/lang/String;I)Z" } : Jvm.MethodName) method_2_code (2 : Nat) (Option.some Jvm.ClassFile.FieldType.boolean)).before args0 about1 = true := code_word (m := ⟨1, 1⟩) (meth := k1m1) (c := k1c1) (by decide +kernel) rfl rfl rfl (by decide +kernel)
set_option maxRecDepth 65536 in
theorem w_c36 : (Jvm.Cond.code ({ cls := "java/lang/String", name := "charAt", desc := "(I)C" } : Jvm.MethodName) jdk_42_method_56_code (2 : Nat) (Option.some Jvm.ClassFile.FieldType.char)).before args0 about1 = true := code_word (m := ⟨7, 4⟩) (meth := k7m4) (c := k7c4) (by decide +kernel) rfl rfl rfl (by decide +kernel)
set_option maxRecDepth 65536 in
theorem w_c37 : (Jvm.Cond.code ({ cls := "java/lang/String", name := "isLatin1", desc := "()Z" } : Jvm.MethodName) jdk_42_method_154_code (1 : Nat) (Option.some Jvm.ClassFile.FieldType.boolean)).before args0 about1 = true := code_word (m := ⟨7, 9⟩) (meth := k7m9) (c := k7c9) (by decide +kernel) rfl rfl rfl (by decide +kernel)
set_option maxRecDepth 65536 in
theorem w_c38 : (Jvm.Cond.code ({ cls := "java/lang/StringLatin1", name := "charAt", desc := "([BI)C" } : Jvm.MethodName) jdk_43_method_2_code (2 : Nat) (Option.some Jvm.ClassFile.FieldType.char)).before args0 about1 = true := code_word (m := ⟨18, 1⟩) (meth := k18m1) (c := k18c1) (by decide +kernel) rfl rfl rfl (by decide +kernel)
set_option maxRecDepth 65536 in
theorem w_c39 : (Jvm.Cond.code ({ cls := "java/lang/String", name := "checkIndex", desc := "(II)V" } : Jvm.MethodName) jdk_42_method_155_code (2 : Nat) (Option.none : Option Jvm.ClassFile.FieldType)).before args0 about1 = true := code_word (m := ⟨7, 10⟩) (meth := k7m10) (c := k7c10) (by decide +kernel) rfl rfl rfl (by decide +kernel)
set_option maxRecDepth 65536 in
theorem w_c40 : (Jvm.Cond.code ({ cls := "jdk/internal/util/Preconditions", name := "checkIndex", desc := "(IILjava/util/function/BiFunction;)I" } : Jvm.MethodName) jdk_41_method_11_code (3 : Nat) (Option.some Jvm.ClassFile.FieldType.int)).before args0 about1 = true := code_word (m := ⟨19, 1⟩) (meth := k19m1) (c := k19c1) (by decide +kernel) rfl rfl rfl (by decide +kernel)
set_option maxRecDepth 65536 in
theorem w_c41 : (Jvm.Cond.code ({ cls := "java/lang/StringUTF16", name := "compress", desc := "([CII)[B" } : Jvm.MethodName) jdk_52_method_16_code (6 : Nat) (Option.some (Jvm.ClassFile.FieldType.array Jvm.ClassFile.FieldType.byte))).before args0 about1 = true := code_word (m := ⟨20, 2⟩) (meth := k20m2) (c := k20c2) (by decide +kernel) rfl rfl rfl (by decide +kernel)
set_option maxRecDepth 65536 in
theorem w_c42 : (Jvm.Cond.code ({ cls := "java/lang/StringUTF16", name := "compress", desc := "([CI[BII)I" } : Jvm.MethodName) jdk_52_method_21_code (7 : Nat) (Option.some Jvm.ClassFile.FieldType.int)).before args0 about1 = true := code_word (m := ⟨20, 3⟩) (meth := k20m3) (c := k20c3) (by decide +kernel) rfl rfl rfl (by decide +kernel)
set_option maxRecDepth 65536 in
theorem w_c43 : (Jvm.Cond.code ({ cls := "java/lang/StringUTF16", name := "coderFromArrayLen", desc := "([BI)B" } : Jvm.MethodName) jdk_52_method_15_code (2 : Nat) (Option.some Jvm.ClassFile.FieldType.byte)).before args0 about1 = true := code_word (m := ⟨20, 1⟩) (meth := k20m1) (c := k20c1) (by decide +kernel) rfl rfl rfl (by decide +kernel)
def codes1 : List Jvm.Cond := [Jvm.Cond.code x code maxLocals ret, Jvm.Cond.code ({ cls := "java/lang/String", name := "<init>", desc := "([C)V" } : Jvm.MethodName) jdk_42_method_3_code (2 : Nat) (Option.none : Option Jvm.ClassFile.FieldType), Jvm.Cond.code ({ cls := "java/lang/String", name := "<init>", desc := "([CIILjava/lang/Void;)V" } : Jvm.MethodName) jdk_42_method_149_code (6 : Nat) (Option.none : Option Jvm.ClassFile.FieldType), Jvm.Cond.code ({ cls := "java/lang/Object", name := "<init>", desc := "()V" } : Jvm.MethodName) object_method_1_code (1 : Nat) (Option.none : Option Jvm.ClassFile.FieldType), Jvm.Cond.code ({ cls := "com/example/queryloom/queryloom/translation/TranslationException", name := "unsupported", desc := "(Ljava/lang/String;)Lcom/example/queryloom/queryloom/translation/TranslationException;" } : Jvm.MethodName) prog_15_method_2_code (1 : Nat) (Option.some (Jvm.ClassFile.FieldType.object "com/example/queryloom/queryloom/translation/TranslationException")), Jvm.Cond.code ({ cls := "java/lang/StringBuilder", name := "<init>", desc := "()V" } : Jvm.MethodName) jdk_67_method_1_code (1 : Nat) (Option.none : Option Jvm.ClassFile.FieldType), Jvm.Cond.code ({ cls := "java/lang/AbstractStringBuilder", name := "<init>", desc := "(I)V" } : Jvm.MethodName) jdk_68_method_2_code (2 : Nat) (Option.none : Option Jvm.ClassFile.FieldType), Jvm.Cond.code ({ cls := "java/lang/StringBuilder", name := "append", desc := "(Ljava/lang/String;)Ljava/lang/StringBuilder;" } : Jvm.MethodName) jdk_67_method_7_code (2 : Nat) (Option.some (Jvm.ClassFile.FieldType.object "java/lang/StringBuilder")), Jvm.Cond.code ({ cls := "java/lang/AbstractStringBuilder", name := "append", desc := "(Ljava/lang/String;)Ljava/lang/AbstractStringBuilder;" } : Jvm.MethodName) jdk_68_method_22_code (3 : Nat) (Option.some (Jvm.ClassFile.FieldType.object "java/lang/AbstractStringBuilder")), Jvm.Cond.code ({ cls := "java/lang/String", name := "length", desc := "()I" } : Jvm.MethodName) jdk_42_method_54_code (1 : Nat) (Option.some Jvm.ClassFile.FieldType.int), Jvm.Cond.code ({ cls := "java/lang/String", name := "coder", desc := "()B" } : Jvm.MethodName) jdk_42_method_152_code (1 : Nat) (Option.some Jvm.ClassFile.FieldType.byte), Jvm.Cond.code ({ cls := "java/lang/AbstractStringBuilder", name := "ensureCapacityInternal", desc := "(I)V" } : Jvm.MethodName) jdk_68_method_9_code (3 : Nat) (Option.none : Option Jvm.ClassFile.FieldType), Jvm.Cond.code ({ cls := "java/lang/AbstractStringBuilder", name := "putStringAt", desc := "(ILjava/lang/String;)V" } : Jvm.MethodName) jdk_68_method_73_code (3 : Nat) (Option.none : Option Jvm.ClassFile.FieldType), Jvm.Cond.code ({ cls := "java/lang/AbstractStringBuilder", name := "inflateIfNeededFor", desc := "(Ljava/lang/String;)V" } : Jvm.MethodName) jdk_68_method_71_code (2 : Nat) (Option.none : Option Jvm.ClassFile.FieldType), Jvm.Cond.code ({ cls := "java/lang/String", name := "getBytes", desc := "([BIB)V" } : Jvm.MethodName) jdk_42_method_147_code (4 : Nat) (Option.none : Option Jvm.ClassFile.FieldType), Jvm.Cond.code ({ cls := "java/lang/AbstractStringBuilder", name := "newCapacity", desc := "(I)I" } : Jvm.MethodName) jdk_68_method_10_code (6 : Nat) (Option.some Jvm.ClassFile.FieldType.int), Jvm.Cond.code ({ cls := "jdk/internal/util/ArraysSupport", name := "newLength", desc := "(III)I" } : Jvm.MethodName) jdk_48_method_27_code (4 : Nat) (Option.some Jvm.ClassFile.FieldType.int), Jvm.Cond.code ({ cls := "java/lang/Math", name := "max", desc := "(II)I" } : Jvm.MethodName) jdk_29_method_65_code (2 : Nat) (Option.some Jvm.ClassFile.FieldType.int), Jvm.Cond.code ({ cls := "java/util/Arrays", name := "copyOf", desc := "([BI)[B" } : Jvm.MethodName) jdk_65_method_121_code (3 : Nat) (Option.some (Jvm.ClassFile.FieldType.array Jvm.ClassFile.FieldType.byte)), Jvm.Cond.code ({ cls := "java/lang/Math", name := "min", desc := "(II)I" } : Jvm.MethodName) jdk_29_method_69_code (2 : Nat) (Option.some Jvm.ClassFile.FieldType.int), Jvm.Cond.code ({ cls := "java/lang/StringBuilder", name := "toString", desc := "()Ljava/lang/String;" } : Jvm.MethodName) jdk_67_method_42_code (1 : Nat) (Option.some (Jvm.ClassFile.FieldType.object "java/lang/String")), Jvm.Cond.code ({ cls := "java/lang/String", name := "<init>", desc := "(Ljava/lang/StringBuilder;)V" } : Jvm.MethodName) jdk_42_method_53_code (2 : Nat) (Option.none : Option Jvm.ClassFile.FieldType), Jvm.Cond.code ({ cls := "java/lang/String", name := "<init>", desc := "(Ljava/lang/AbstractStringBuilder;Ljava/lang/Void;)V" } : Jvm.MethodName) jdk_42_method_150_code (5 : Nat) (Option.none : Option Jvm.ClassFile.FieldType), Jvm.Cond.code ({ cls := "java/lang/AbstractStringBuilder", name := "getValue", desc := "()[B" } : Jvm.MethodName) jdk_68_method_64_code (1 : Nat) (Option.some (Jvm.ClassFile.FieldType.array Jvm.ClassFile.FieldType.byte)), Jvm.Cond.code ({ cls := "java/lang/StringBuilder", name := "length", desc := "()I" } : Jvm.MethodName) jdk_67_method_93_code (1 : Nat) (Option.some Jvm.ClassFile.FieldType.int), Jvm.Cond.code ({ cls := "java/lang/AbstractStringBuilder", name := "length", desc := "()I" } : Jvm.MethodName) jdk_68_method_6_code (1 : Nat) (Option.some Jvm.ClassFile.FieldType.int), Jvm.Cond.code ({ cls := "java/lang/AbstractStringBuilder", name := "isLatin1", desc := "()Z" } : Jvm.MethodName) jdk_68_method_68_code (1 : Nat) (Option.some Jvm.ClassFile.FieldType.boolean), Jvm.Cond.code ({ cls := "java/util/Arrays", name := "copyOfRange", desc := "([BII)[B" } : Jvm.MethodName) jdk_65_method_132_code (3 : Nat) (Option.some (Jvm.ClassFile.FieldType.array Jvm.ClassFile.FieldType.byte)), Jvm.Cond.code ({ cls := "java/util/Arrays", name := "copyOfRangeByte", desc := "([BII)[B" } : Jvm.MethodName) jdk_65_method_133_code (5 : Nat) (Option.some (Jvm.ClassFile.FieldType.array Jvm.ClassFile.FieldType.byte)), Jvm.Cond.code ({ cls := "java/util/Arrays", name := "checkLength", desc := "(II)V" } : Jvm.MethodName) jdk_65_method_131_code (2 : Nat) (Option.none : Option Jvm.ClassFile.FieldType), Jvm.Cond.code ({ cls := "com/example/queryloom/queryloom/translation/TranslationException", name := "<init>", desc := "(Ljava/lang/String;)V" } : Jvm.MethodName) prog_15_method_1_code (2 : Nat) (Option.none : Option Jvm.ClassFile.FieldType), Jvm.Cond.code ({ cls := "java/lang/Exception", name := "<init>", desc := "(Ljava/lang/String;)V" } : Jvm.MethodName) jdk_59_method_2_code (2 : Nat) (Option.none : Option Jvm.ClassFile.FieldType), Jvm.Cond.code ({ cls := "java/lang/Throwable", name := "<init>", desc := "(Ljava/lang/String;)V" } : Jvm.MethodName) jdk_78_method_2_code (2 : Nat) (Option.none : Option Jvm.ClassFile.FieldType), Jvm.Cond.code ({ cls := "java/lang/Throwable", name := "<init>", desc := "()V" } : Jvm.MethodName) jdk_78_method_1_code (1 : Nat) (Option.none : Option Jvm.ClassFile.FieldType), Jvm.Cond.code ({ cls := "java/lang/Throwable", name := "getMessage", desc := "()Ljava/lang/String;" } : Jvm.MethodName) jdk_78_method_6_code (1 : Nat) (Option.some (Jvm.ClassFile.FieldType.object "java/lang/String")), Jvm.Cond.code ({ cls := "com/example/queryloom/queryloom/translation/TranslationExceptionUnsupportedPinLaw", name := "suffixAt", desc := "(Ljava/lang/String;I)Z" } : Jvm.MethodName) method_2_code (2 : Nat) (Option.some Jvm.ClassFile.FieldType.boolean), Jvm.Cond.code ({ cls := "java/lang/String", name := "charAt", desc := "(I)C" } : Jvm.MethodName) jdk_42_method_56_code (2 : Nat) (Option.some Jvm.ClassFile.FieldType.char), Jvm.Cond.code ({ cls := "java/lang/String", name := "isLatin1", desc := "()Z" } : Jvm.MethodName) jdk_42_method_154_code (1 : Nat) (Option.some Jvm.ClassFile.FieldType.boolean), Jvm.Cond.code ({ cls := "java/lang/StringLatin1", name := "charAt", desc := "([BI)C" } : Jvm.MethodName) jdk_43_method_2_code (2 : Nat) (Option.some Jvm.ClassFile.FieldType.char), Jvm.Cond.code ({ cls := "java/lang/String", name := "checkIndex", desc := "(II)V" } : Jvm.MethodName) jdk_42_method_155_code (2 : Nat) (Option.none : Option Jvm.ClassFile.FieldType), Jvm.Cond.code ({ cls := "jdk/internal/util/Preconditions", name := "checkIndex", desc := "(IILjava/util/function/BiFunction;)I" } : Jvm.MethodName) jdk_41_method_11_code (3 : Nat) (Option.some Jvm.ClassFile.FieldType.int), Jvm.Cond.code ({ cls := "java/lang/StringUTF16", name := "compress", desc := "([CII)[B" } : Jvm.MethodName) jdk_52_method_16_code (6 : Nat) (Option.some (Jvm.ClassFile.FieldType.array Jvm.ClassFile.FieldType.byte)), Jvm.Cond.code ({ cls := "java/lang/StringUTF16", name := "compress", desc := "([CI[BII)I" } : Jvm.MethodName) jdk_52_method_21_code (7 : Nat) (Option.some Jvm.ClassFile.FieldType.int), Jvm.Cond.code ({ cls := "java/lang/StringUTF16", name := "coderFromArrayLen", desc := "([BI)B" } : Jvm.MethodName) jdk_52_method_15_code (2 : Nat) (Option.some Jvm.ClassFile.FieldType.byte)]
set_option maxRecDepth 65536 in
theorem codes_eq : words1.filter isCode = codes1 := rfl
theorem w_codes : ∀ c ∈ words1.filter isCode, c.before args0 about1 = true := by
  rw [codes_eq]
  intro c hc
  simp only [codes1, List.mem_cons, List.not_mem_nil, or_false] at hc
  rcases hc with rfl | rfl | rfl | rfl | rfl | rfl | rfl | rfl | rfl | rfl | rfl | rfl | rfl | rfl | rfl | rfl | rfl | rfl | rfl | rfl | rfl | rfl | rfl | rfl | rfl | rfl | rfl | rfl | rfl | rfl | rfl | rfl | rfl | rfl | rfl | rfl | rfl | rfl | rfl | rfl | rfl | rfl | rfl | rfl
  · exact w_c0
  · exact w_c1
  · exact w_c2
  · exact w_c3
  · exact w_c4
  · exact w_c5
  · exact w_c6
  · exact w_c7
  · exact w_c8
  · exact w_c9
  · exact w_c10
  · exact w_c11
  · exact w_c12
  · exact w_c13
  · exact w_c14
  · exact w_c15
  · exact w_c16
  · exact w_c17
  · exact w_c18
  · exact w_c19
  · exact w_c20
  · exact w_c21
  · exact w_c22
  · exact w_c23
  · exact w_c24
  · exact w_c25
  · exact w_c26
  · exact w_c27
  · exact w_c28
  · exact w_c29
  · exact w_c30
  · exact w_c31
  · exact w_c32
  · exact w_c33
  · exact w_c34
  · exact w_c35
  · exact w_c36
  · exact w_c37
  · exact w_c38
  · exact w_c39
  · exact w_c40
  · exact w_c41
  · exact w_c42
  · exact w_c43
set_option maxRecDepth 65536 in
theorem w_t1 : (words1.take 24).all (fun c => isCode c || c.before args0 about1) = true := by decide +kernel
set_option maxRecDepth 65536 in
theorem w_t2 : ((words1.drop 24).take 24).all (fun c => isCode c || c.before args0 about1) = true := by decide +kernel
set_option maxRecDepth 65536 in
theorem w_t3 : (((words1.drop 24).drop 24).take 24).all (fun c => isCode c || c.before args0 about1) = true := by decide +kernel
set_option maxRecDepth 65536 in
theorem w_t4 : ((((words1.drop 24).drop 24).drop 24).take 24).all (fun c => isCode c || c.before args0 about1) = true := by decide +kernel
set_option maxRecDepth 65536 in
theorem w_t5 : (((((words1.drop 24).drop 24).drop 24).drop 24).take 24).all (fun c => isCode c || c.before args0 about1) = true := by decide +kernel
set_option maxRecDepth 65536 in
theorem w_t6 : ((((((words1.drop 24).drop 24).drop 24).drop 24).drop 24).take 24).all (fun c => isCode c || c.before args0 about1) = true := by decide +kernel
set_option maxRecDepth 65536 in
theorem w_t7 : (((((((words1.drop 24).drop 24).drop 24).drop 24).drop 24).drop 24).take 24).all (fun c => isCode c || c.before args0 about1) = true := by decide +kernel
set_option maxRecDepth 65536 in
theorem w_t8 : ((((((((words1.drop 24).drop 24).drop 24).drop 24).drop 24).drop 24).drop 24).take 24).all (fun c => isCode c || c.before args0 about1) = true := by decide +kernel
set_option maxRecDepth 65536 in
theorem w_t9 : (((((((((words1.drop 24).drop 24).drop 24).drop 24).drop 24).drop 24).drop 24).drop 24).take 24).all (fun c => isCode c || c.before args0 about1) = true := by decide +kernel
set_option maxRecDepth 65536 in
theorem w_t10 : ((((((((((words1.drop 24).drop 24).drop 24).drop 24).drop 24).drop 24).drop 24).drop 24).drop 24).take 24).all (fun c => isCode c || c.before args0 about1) = true := by decide +kernel
set_option maxRecDepth 65536 in
theorem w_t11 : ((((((((((words1.drop 24).drop 24).drop 24).drop 24).drop 24).drop 24).drop 24).drop 24).drop 24).drop 24).all (fun c => isCode c || c.before args0 about1) = true := by decide +kernel
theorem w_tables : (allAtoms (Jvm.Cond.code x code maxLocals ret :: tables_1)).before args0 about1 = true := by
  rw [allAtoms_all]
  show words1.all (fun c => c.before args0 about1) = true
  refine all_split ?_ w_codes
  rw [← List.take_append_drop 24 words1, List.all_append, w_t1, ← List.take_append_drop 24 (words1.drop 24), List.all_append, w_t2, ← List.take_append_drop 24 ((words1.drop 24).drop 24), List.all_append, w_t3, ← List.take_append_drop 24 (((words1.drop 24).drop 24).drop 24), List.all_append, w_t4, ← List.take_append_drop 24 ((((words1.drop 24).drop 24).drop 24).drop 24), List.all_append, w_t5, ← List.take_append_drop 24 (((((words1.drop 24).drop 24).drop 24).drop 24).drop 24), List.all_append, w_t6, ← List.take_append_drop 24 ((((((words1.drop 24).drop 24).drop 24).drop 24).drop 24).drop 24), List.all_append, w_t7, ← List.take_append_drop 24 (((((((words1.drop 24).drop 24).drop 24).drop 24).drop 24).drop 24).drop 24), List.all_append, w_t8, ← List.take_append_drop 24 ((((((((words1.drop 24).drop 24).drop 24).drop 24).drop 24).drop 24).drop 24).drop 24), List.all_append, w_t9, ← List.take_append_drop 24 (((((((((words1.drop 24).drop 24).drop 24).drop 24).drop 24).drop 24).drop 24).drop 24).drop 24), List.all_append, w_t10, w_t11]
  rfl
set_option maxRecDepth 65536 in
theorem w_rest : rest_1_c.before args0 about1 = true := by decide +kernel
set_option maxRecDepth 65536 in
theorem w_case : (Jvm.Cond.and given_1 narrow_1).before args0 about1 = true := by decide +kernel
set_option maxRecDepth 65536 in
theorem w_consts : constsHeld consts_1 about1 := Jvm.Lit.constsHeldB_iff.mp (by decide +kernel)
theorem w_applies : (headSpec (Jvm.Cond.code x code maxLocals ret :: tables_1) room_1).applies x e0.platform about1 = true :=
  (Spec.applies_iff w_frames).mpr ⟨w_running, w_runnable, w_alone, w_named, w_hears, w_ripe, w_room, w_tables⟩
theorem atStart : AtStart classFile x code maxLocals ret World_1 tables_1 room_1 Calls_1 rest_1 Pre_1 launch0 p0 e0 about1 theMethod args0 below0 :=
  ⟨lists_1, trivial, launch0.admits_env _ _ _, launch0.least_env, fairChoices_fair.cas, fairChoices_fair.clock, w_frames, w_args, w_heap, w_applies, ⟨(by decide +kernel : framesKnown about1 = true), ⟨(by decide +kernel : tablesKnown about1 = true), ⟨w_consts, trivial⟩⟩⟩, w_rest, w_case⟩
end start1
theorem witness_1 : WitnessClaimed_1 := ⟨start1.p0, start1.e0, start1.about1, start1.theMethod, start1.args0, start1.below0, start1.atStart⟩
end Jvm.Pilot.@@N@@
