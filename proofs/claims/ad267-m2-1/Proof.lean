import JvmDerived
import JvmDerived.Pilot.@@N@@Statement
import JvmDerived.Pilot.@@N@@Code
set_option linter.unusedVariables false
set_option linter.unusedSimpArgs false
namespace Jvm.RoadKit
open Sem ClassFile Op Lib Jvm.Stand Jvm.Free Jvm.LawKit
section New
variable {p : Program} {l : Launch} {e : Env} {R : Room} {s : State} {m : MethodId} {args : Array Value} {below : List Frame} {meth : Method} {c : Code} {T : State} {locs : List Loc} {cells slots : Nat}
theorem retI (X : Stand p l e R s m args below meth c T locs cells slots) (hx : p.tables.exec = Jvm.exec) {pc : Nat} {Ls : Array Slot} {z : Int32} {rest : List Value} (hret : meth.sig.returnType = some .int) (hd : decode c.code pc = .ok (.ireturn, 1)) {fs : List Frame}
    (hl : ∀ (f : JFrame) (acts : List Action), f.method = m → f.locked = none → f.entered = [] → (doReturn e (T.setTop f) acts (some (.int z))).1 = T.setFrames fs) : Steps p.tables e below (T.setTop (mkF m pc Ls (.int z :: rest))) (T.setFrames fs) := by
  have hm' : T.vm.method? m = some meth := X.method'
  have hn : narrow .int (.int z) = .int z := rfl
  show Steps p.tables e below (T.setTop { method := m, pc := pc, locals := Ls, stack := _ :: rest, locked := none }) _
  jvm_step X.here [X.here.top, hx, hd, hm', hret, hn]
  first | (intro acts; rw [hl _ acts rfl rfl rfl]) | rw [hl _ _ rfl rfl rfl]
  exact Steps.refl _
end New
end Jvm.RoadKit
@@BLOCK:TracedD.lean.txt@@
/- laws to paste: Road.backV, Road.eqW, Road.codOf (cut by pick.py; bodies as the Statement names them) -/
namespace Jvm.Pilot.@@N@@
namespace StrChars
open Jvm Sem ClassFile Op Lib Jvm.Stand Jvm.Free.XT Jvm.Free.ALB Jvm.Free.JM Jvm.Free
open Jvm.Lib.Cold (StaticIs)
/-- a char array whose places are chars -/
def Ch (a : Addr) (A : Cell) (U : State) : Prop := Arr .char a A U ∧ Typed .char A
theorem Ch.mv {a : Addr} {A : Cell} {U U' : State} (h : Ch a A U) (hal : U.vm.Alike U'.vm) (hh : U'.heap = U.heap) : Ch a A U' := ⟨h.1.mv hal hh, h.2⟩
theorem Ch.keep {a : Addr} {A : Cell} {U U' : State} (h : Ch a A U) (hal : U.vm.Alike U'.vm) (hk : U'.heap[a]? = some A) : Ch a A U' := ⟨h.1.keep hal hk, h.2⟩
/-- what place i of a char[]'s cell holds -/
def cv (A : Cell) (i : Nat) : Int32 := match A.slots[i]? with | some (.int x) => x | _ => 0
theorem Ch.get {a : Addr} {A : Cell} {U : State} (h : Ch a A U) {i : Nat} (hi : i < A.slots.size) : A.slots[i]? = some (.int (cv A i)) := by
  have e := Array.getElem?_eq_getElem hi
  have f := h.2 i _ e
  unfold cv; rw [e]
  generalize A.slots[i] = v at f
  cases v <;> simp [fits] at f ⊢
/-- the byte that i2b leaves of a char -/
def lo8 (x : Int32) : Int32 := x.toInt8.toInt32
theorem fits_lo8 (y : Int32) : fits .byte (.int (lo8 y)) = true := by
  have h1 := y.toInt8.le_toInt
  have h2 := y.toInt8.toInt_lt
  simp only [lo8, fits, Bool.and_eq_true, decide_eq_true_eq, Int32.le_iff_toInt_le, Int8.toInt_toInt32, show (-128 : Int32).toInt = -128 from by decide, show (127 : Int32).toInt = 127 from by decide]
  omega
/-- A' is A but that each place j of lo .. hi - 1 holds f j -/
def Laid (A A' : Cell) (lo hi : Nat) (f : Nat → Value) : Prop := A'.cls = A.cls ∧ A'.vm = A.vm ∧ A'.slots.size = A.slots.size ∧ ∀ i, A'.slots[i]? = if lo ≤ i ∧ i < hi then some (f i) else A.slots[i]?
theorem Laid.zero (A : Cell) (lo : Nat) (f : Nat → Value) : Laid A A lo (lo + 0) f := ⟨rfl, rfl, rfl, fun i => by rw [if_neg (by omega)]⟩
theorem Laid.step {A Ak : Cell} {lo k : Nat} {f : Nat → Value} {v : Value} (h : Laid A Ak lo k f) (hlo : lo ≤ k) (hk : k < Ak.slots.size) (hv : v = f k) : Laid A (Ak.setSlot k v) lo (k + 1) f := by
  refine ⟨h.1, h.2.1, by simpa [Cell.setSlot] using h.2.2.1, fun i => ?_⟩
  by_cases e : k = i
  · subst e; rw [Cell.slots_setSlot_self v hk, if_pos (by omega), hv]
  · rw [Cell.slots_setSlot_ne v e, h.2.2.2 i]
    by_cases q : lo ≤ i ∧ i < k
    · rw [if_pos q, if_pos (by omega)]
    · rw [if_neg q, if_neg (by omega)]
def U16 : String := "java/lang/StringUTF16"
namespace Cmp5
def yN : MethodName := ⟨"java/lang/StringUTF16", "compress", "([CI[BII)I"⟩
abbrev yB : ByteArray := jdk_52_method_21_code
theorem d0 : decode yB 0 = .ok (.iconst 0, 1) := by decide +kernel
theorem d1 : decode yB 1 = .ok (.istore 5, 2) := by decide +kernel
theorem d3 : decode yB 3 = .ok (.iload 5, 2) := by decide +kernel
theorem d5 : decode yB 5 = .ok (.iload 4, 2) := by decide +kernel
theorem d7 : decode yB 7 = .ok (.if_icmp (.ge) 37, 3) := by decide +kernel
theorem d10 : decode yB 10 = .ok (.aload_n 0, 1) := by decide +kernel
theorem d11 : decode yB 11 = .ok (.iload_n 1, 1) := by decide +kernel
theorem d12 : decode yB 12 = .ok (.caload, 1) := by decide +kernel
theorem d13 : decode yB 13 = .ok (.istore 6, 2) := by decide +kernel
theorem d15 : decode yB 15 = .ok (.iload 6, 2) := by decide +kernel
theorem d17 : decode yB 17 = .ok (.sipush 255, 3) := by decide +kernel
theorem d20 : decode yB 20 = .ok (.if_icmp (.le) 6, 3) := by decide +kernel
theorem d26 : decode yB 26 = .ok (.aload_n 2, 1) := by decide +kernel
theorem d27 : decode yB 27 = .ok (.iload_n 3, 1) := by decide +kernel
theorem d28 : decode yB 28 = .ok (.iload 6, 2) := by decide +kernel
theorem d30 : decode yB 30 = .ok (.i2b, 1) := by decide +kernel
theorem d31 : decode yB 31 = .ok (.bastore, 1) := by decide +kernel
theorem d32 : decode yB 32 = .ok (.iinc 1 1, 3) := by decide +kernel
theorem d35 : decode yB 35 = .ok (.iinc 3 1, 3) := by decide +kernel
theorem d38 : decode yB 38 = .ok (.iinc 5 1, 3) := by decide +kernel
theorem d41 : decode yB 41 = .ok (.goto (-38), 3) := by decide +kernel
theorem d44 : decode yB 44 = .ok (.iload 4, 2) := by decide +kernel
theorem d46 : decode yB 46 = .ok (.ireturn, 1) := by decide +kernel
def site : List Cond := []
def tab : Cond := tabOf yN yB 7 (some .int) site
def P (b : Addr) (A : Cell) (d : Addr) (B : Cell) (o q len : Nat) (args : Array Value) (s : State) : Prop := args = #[.ref b, .int (Int32.ofNat o), .ref d, .int (Int32.ofNat q), .int (Int32.ofNat len)] ∧ Ch b A s ∧ Arr .byte d B s ∧ b ≠ d ∧ o + len ≤ A.slots.size ∧ q + len ≤ B.slots.size ∧ ∀ i, i < len → ¬ 255 < cv A (o + i)
def E (b : Addr) (A : Cell) (d : Addr) (B : Cell) (o q len : Nat) (r : Option Value) (s u : State) : Prop := r = some (.int (Int32.ofNat len)) ∧ ∃ B', Put d B' s u ∧ Laid B B' q (q + len) (fun j => Value.int (lo8 (cv A (o + (j - q)))))
/-- no char of the range above 255: len; the places written hold each char's low byte -/
theorem law (l : Launch) (b : Addr) (A : Cell) (d : Addr) (B : Cell) (o q len : Nat) : Law l yN 5 5 0 0 yB 7 (some .int) site (P b A d B o q len) (E b A d B o q len) (copyLocs d q len) 0 0 := by
  refine Law.of_walk (plainFor_of_name (by decide +kernel)) (by decide +kernel) (by decide +kernel) (by decide) (fun _ _ h => by rw [h.1]; rfl) (fun _ U U' hal hh h => ⟨h.1, h.2.1.mv hal hh, h.2.2.1.mv hal hh, h.2.2.2⟩) (fun r U U' V V' h1 hal h2 h => ⟨h.1, h.2.elim fun B' q => ⟨B', q.1.mv h1 h2, q.2⟩⟩) ?_
  intro p e s m args below meth c s₁ X0 hexec hbytes hml hret hlk hnm hown hh0 W hP
  obtain ⟨rfl, hA, hB, hne, l1, l2, hp⟩ := hP
  have c1 : Steps p.tables e below (s₁.setTop (entryFrame m #[.ref b, .int (Int32.ofNat o), .ref d, .int (Int32.ofNat q), .int (Int32.ofNat len)] 7)) (s₁.setTop (mkF m 0 #[.val (.ref b), .val (.int (Int32.ofNat o)), .val (.ref d), .val (.int (Int32.ofNat q)), .val (.int (Int32.ofNat len)), .unset, .unset] [])) := entry rfl
  have hA0 := hA.1.mv X0.warmed.alike hh0
  have hB0 := hB.mv X0.warmed.alike hh0
  have a31 := hA.1.2.2.2
  have c2 : Steps p.tables e below (s₁.setTop (entryFrame m #[.ref b, .int (Int32.ofNat o), .ref d, .int (Int32.ofNat q), .int (Int32.ofNat len)] 7)) (s₁.setTop (mkF m 3 #[.val (.ref b), .val (.int (Int32.ofNat o)), .val (.ref d), .val (.int (Int32.ofNat q)), .val (.int (Int32.ofNat len)), .val (.int 0), .unset] [])) := c1.trans (by
    refine iconstV X0.here hexec rfl 0 (hb hbytes d0) (by decide) ?_
    refine XS.istore X0.here hexec rfl (hb hbytes d1) rfl rfl ?_
    exact Steps.refl _)
  have loop : ∀ (r i : Nat), i + r = len → ∀ (z : Slot), (z = .unset ∨ ∃ w, z = .val w ∧ w.category = 1) → ∀ (Tl : State) (Bk : Cell), Stand p l e { frames := 0, locals := 0, cells := 0, slots := 0 } s m #[.ref b, .int (Int32.ofNat o), .ref d, .int (Int32.ofNat q), .int (Int32.ofNat len)] below meth c Tl ([] ++ copyLocs d q i) 0 0 → Put d Bk s₁ Tl → Laid B Bk q (q + i) (fun j => Value.int (lo8 (cv A (o + (j - q))))) →
      Steps p.tables e below (s₁.setTop (entryFrame m #[.ref b, .int (Int32.ofNat o), .ref d, .int (Int32.ofNat q), .int (Int32.ofNat len)] 7)) (Tl.setTop (mkF m 3 #[.val (.ref b), .val (.int (Int32.ofNat (o + i))), .val (.ref d), .val (.int (Int32.ofNat (q + i))), .val (.int (Int32.ofNat len)), .val (.int (Int32.ofNat i)), z] [])) → ∃ (T' : State) (B' : Cell) (z' : Slot), Stand p l e { frames := 0, locals := 0, cells := 0, slots := 0 } s m #[.ref b, .int (Int32.ofNat o), .ref d, .int (Int32.ofNat q), .int (Int32.ofNat len)] below meth c T' ([] ++ copyLocs d q len) 0 0 ∧ Put d B' s₁ T' ∧ Laid B B' q (q + len) (fun j => Value.int (lo8 (cv A (o + (j - q))))) ∧
      Steps p.tables e below (s₁.setTop (entryFrame m #[.ref b, .int (Int32.ofNat o), .ref d, .int (Int32.ofNat q), .int (Int32.ofNat len)] 7)) (T'.setTop (mkF m 3 #[.val (.ref b), .val (.int (Int32.ofNat (o + len))), .val (.ref d), .val (.int (Int32.ofNat (q + len))), .val (.int (Int32.ofNat len)), .val (.int (Int32.ofNat len)), z'] [])) := by
    intro r
    induction r with
    | zero =>
      intro i hi z hz Tl Bk Xl pl fl cl
      have hil : i = len := by omega
      rw [hil] at Xl fl cl
      exact ⟨Tl, Bk, z, Xl, pl, fl, cl⟩
    | succ r ih =>
      intro i hi z hz Tl Bk Xl pl fl cl
      have all := X0.warmed.alike.symm.trans Xl.warmed.alike
      have hAl := hA0.keep all (pl.other hne hA0.1)
      have hBk := hB0.like all pl.1 fl.1 fl.2.1 fl.2.2.1
      have hlt : q + i < Bk.slots.size := by rw [fl.2.2.1]; omega
      have c3 : Steps p.tables e below (s₁.setTop (entryFrame m #[.ref b, .int (Int32.ofNat o), .ref d, .int (Int32.ofNat q), .int (Int32.ofNat len)] 7)) (Tl.setTop (mkF m 12 #[.val (.ref b), .val (.int (Int32.ofNat (o + i))), .val (.ref d), .val (.int (Int32.ofNat (q + i))), .val (.int (Int32.ofNat len)), .val (.int (Int32.ofNat i)), z] [.int (Int32.ofNat (o + i)), .ref b])) := cl.trans (by
        refine XS.iload Xl.here hexec rfl (hb hbytes d3) rfl ?_
        refine XS.iload Xl.here hexec rfl (hb hbytes d5) rfl ?_
        refine XS.icmpNo Xl.here hexec rfl (hb hbytes d7) rfl (ii_ge_f (lt32 (by omega) (by omega))) ?_
        refine XS.aloadN Xl.here hexec rfl (hb hbytes d10) rfl rfl ?_
        refine XS.iloadN Xl.here hexec rfl (hb hbytes d11) rfl ?_
        exact Steps.refl _)
      have c4 : Steps p.tables e below (s₁.setTop (entryFrame m #[.ref b, .int (Int32.ofNat o), .ref d, .int (Int32.ofNat q), .int (Int32.ofNat len)] 7)) (Tl.setTop (mkF m 13 #[.val (.ref b), .val (.int (Int32.ofNat (o + i))), .val (.ref d), .val (.int (Int32.ofNat (q + i))), .val (.int (Int32.ofNat len)), .val (.int (Int32.ofNat i)), z] [.int (cv A (o + i))])) := c3.trans (by
        refine Xl.aget hexec hAl rfl (hA.get (i := o + i) (by omega)) rfl rfl (hb hbytes d12) ?_
        exact Steps.refl _)
      have c5 : Steps p.tables e below (s₁.setTop (entryFrame m #[.ref b, .int (Int32.ofNat o), .ref d, .int (Int32.ofNat q), .int (Int32.ofNat len)] 7)) (Tl.setTop (mkF m 15 #[.val (.ref b), .val (.int (Int32.ofNat (o + i))), .val (.ref d), .val (.int (Int32.ofNat (q + i))), .val (.int (Int32.ofNat len)), .val (.int (Int32.ofNat i)), .val (.int (cv A (o + i)))] [])) := c4.trans (by
        refine XS.istoreS Xl.here hexec rfl (hb hbytes d13) rfl rfl hz ?_
        exact Steps.refl _)
      have c6 : Steps p.tables e below (s₁.setTop (entryFrame m #[.ref b, .int (Int32.ofNat o), .ref d, .int (Int32.ofNat q), .int (Int32.ofNat len)] 7)) (Tl.setTop (mkF m 31 #[.val (.ref b), .val (.int (Int32.ofNat (o + i))), .val (.ref d), .val (.int (Int32.ofNat (q + i))), .val (.int (Int32.ofNat len)), .val (.int (Int32.ofNat i)), .val (.int (cv A (o + i)))] [.int (lo8 (cv A (o + i))), .int (Int32.ofNat (q + i)), .ref d])) := c5.trans (by
        refine XS.iload Xl.here hexec rfl (hb hbytes d15) rfl ?_
        refine sipushV Xl.here hexec rfl 255 (hb hbytes d17) (by decide) ?_
        refine XS.icmpYes Xl.here hexec rfl (pc0 := 20) rfl (hb hbytes d20) rfl (ii_le_t (hp i (by omega))) (by decide) rfl ?_
        refine XS.aloadN Xl.here hexec rfl (hb hbytes d26) rfl rfl ?_
        refine XS.iloadN Xl.here hexec rfl (hb hbytes d27) rfl ?_
        refine XS.iload Xl.here hexec rfl (hb hbytes d28) rfl ?_
        refine i2b Xl.here hexec rfl (hb hbytes d30) rfl ?_
        exact Steps.refl _)
      obtain ⟨T7, X7, p7, st7⟩ := Xl.aput hexec hBk rfl hlt rfl (fits_lo8 (cv A (o + i))) (g := (mkF m 31 #[.val (.ref b), .val (.int (Int32.ofNat (o + i))), .val (.ref d), .val (.int (Int32.ofNat (q + i))), .val (.int (Int32.ofNat len)), .val (.int (Int32.ofNat i)), .val (.int (cv A (o + i)))] [.int (lo8 (cv A (o + i))), .int (Int32.ofNat (q + i)), .ref d])) rfl (rest := []) rfl (hb hbytes d31)
      have c8 : Steps p.tables e below (s₁.setTop (entryFrame m #[.ref b, .int (Int32.ofNat o), .ref d, .int (Int32.ofNat q), .int (Int32.ofNat len)] 7)) (T7.setTop (mkF m 32 #[.val (.ref b), .val (.int (Int32.ofNat (o + i))), .val (.ref d), .val (.int (Int32.ofNat (q + i))), .val (.int (Int32.ofNat len)), .val (.int (Int32.ofNat i)), .val (.int (cv A (o + i)))] [])) := c6.trans (st7 _ (Steps.refl _))
      have c9 : Steps p.tables e below (s₁.setTop (entryFrame m #[.ref b, .int (Int32.ofNat o), .ref d, .int (Int32.ofNat q), .int (Int32.ofNat len)] 7)) (T7.setTop (mkF m 3 #[.val (.ref b), .val (.int (Int32.ofNat (o + i) + 1)), .val (.ref d), .val (.int (Int32.ofNat (q + i) + 1)), .val (.int (Int32.ofNat len)), .val (.int (Int32.ofNat i + 1)), .val (.int (cv A (o + i)))] [])) := c8.trans (by
        refine iincV X7.here hexec rfl 1 (hb hbytes d32) (by decide) rfl rfl ?_
        refine iincV X7.here hexec rfl 1 (hb hbytes d35) (by decide) rfl rfl ?_
        refine iincV X7.here hexec rfl 1 (hb hbytes d38) (by decide) rfl rfl ?_
        refine XS.goto X7.here hexec rfl (pc0 := 41) rfl (hb hbytes d41) (by decide) rfl ?_
        exact Steps.refl _)
      have c10 : Steps p.tables e below (s₁.setTop (entryFrame m #[.ref b, .int (Int32.ofNat o), .ref d, .int (Int32.ofNat q), .int (Int32.ofNat len)] 7)) (T7.setTop (mkF m 3 #[.val (.ref b), .val (.int (Int32.ofNat (o + (i + 1)))), .val (.ref d), .val (.int (Int32.ofNat (q + (i + 1)))), .val (.int (Int32.ofNat len)), .val (.int (Int32.ofNat (i + 1))), .val (.int (cv A (o + i)))] [])) := by
        have := c9
        rw [succ32, succ32, succ32] at this
        exact this
      exact ih (i + 1) (by omega) _ (Or.inr ⟨_, rfl, rfl⟩) T7 _ (by rw [copyLocs_step, ← List.append_assoc]; exact X7) (pl.trans p7) (fl.step (by omega) hlt (by simp)) c10
  obtain ⟨T9, B9, z9, X9, p9, f9, g9⟩ := loop len 0 (by omega) .unset (Or.inl rfl) s₁ B (by simpa [copyLocs] using X0) ⟨hB0.1, fun _ _ => rfl, rfl⟩ (Laid.zero _ _ _) c2
  have c11 : Steps p.tables e below (s₁.setTop (entryFrame m #[.ref b, .int (Int32.ofNat o), .ref d, .int (Int32.ofNat q), .int (Int32.ofNat len)] 7)) (T9.setTop (mkF m 46 #[.val (.ref b), .val (.int (Int32.ofNat (o + len))), .val (.ref d), .val (.int (Int32.ofNat (q + len))), .val (.int (Int32.ofNat len)), .val (.int (Int32.ofNat len)), z9] [.int (Int32.ofNat len)])) := g9.trans (by
    refine XS.iload X9.here hexec rfl (hb hbytes d3) rfl ?_
    refine XS.iload X9.here hexec rfl (hb hbytes d5) rfl ?_
    refine XS.icmpYes X9.here hexec rfl (pc0 := 7) rfl (hb hbytes d7) rfl (ii_ge_t (nlt32 (by omega) (Nat.le_refl _))) (by decide) rfl ?_
    refine XS.iload X9.here hexec rfl (hb hbytes d44) rfl ?_
    exact Steps.refl _)
  exact ⟨T9, some (.int (Int32.ofNat len)), _, _, _, X9, by simp, rfl, rfl, (fun h => by cases h), ⟨rfl, B9, p9.from hh0, f9⟩, fun fs hl => c11.trans (X9.ireturnOut hexec hret rfl (Or.inl rfl) (hb hbytes d46) hl)⟩
end Cmp5
namespace Cmp3
def yN : MethodName := ⟨"java/lang/StringUTF16", "compress", "([CII)[B"⟩
abbrev yB : ByteArray := jdk_52_method_16_code
theorem d0 : decode yB 0 = .ok (.iload_n 2, 1) := by decide +kernel
theorem d1 : decode yB 1 = .ok (.newarray .byte, 2) := by decide +kernel
theorem d3 : decode yB 3 = .ok (.astore_n 3, 1) := by decide +kernel
theorem d4 : decode yB 4 = .ok (.aload_n 0, 1) := by decide +kernel
theorem d5 : decode yB 5 = .ok (.iload_n 1, 1) := by decide +kernel
theorem d6 : decode yB 6 = .ok (.aload_n 3, 1) := by decide +kernel
theorem d7 : decode yB 7 = .ok (.iconst 0, 1) := by decide +kernel
theorem d8 : decode yB 8 = .ok (.iload_n 2, 1) := by decide +kernel
theorem d9 : decode yB 9 = .ok (.invokestatic 115, 3) := by decide +kernel
theorem d12 : decode yB 12 = .ok (.istore 4, 2) := by decide +kernel
theorem d14 : decode yB 14 = .ok (.iload 4, 2) := by decide +kernel
theorem d16 : decode yB 16 = .ok (.iload_n 2, 1) := by decide +kernel
theorem d17 : decode yB 17 = .ok (.if_icmp (.eq) 40, 3) := by decide +kernel
theorem d57 : decode yB 57 = .ok (.aload_n 3, 1) := by decide +kernel
theorem d58 : decode yB 58 = .ok (.areturn, 1) := by decide +kernel
def site : List Cond := [.arrayClass .byte, Cmp5.tab] ++ staticW U16 115 Cmp5.yN
def tab : Cond := tabOf yN yB 6 (some (.array .byte)) site
def P (b : Addr) (A : Cell) (o len : Nat) (args : Array Value) (s : State) : Prop := args = #[.ref b, .int (Int32.ofNat o), .int (Int32.ofNat len)] ∧ Ch b A s ∧ o + len ≤ A.slots.size ∧ len ≤ 536870912 ∧ ∀ i, i < len → ¬ 255 < cv A (o + i)
def E (b : Addr) (A : Cell) (o len : Nat) (r : Option Value) (s u : State) : Prop := NewArr .byte "[B" len (fun j => .int (lo8 (cv A (o + j)))) r s u ∧ u.heap.size = s.heap.size + 1
/-- no char of the range above 255: a new byte[] of their low bytes -/
theorem law (l : Launch) (b : Addr) (A : Cell) (o len : Nat) : Law l yN 3 3 1 18 yB 6 (some (.array .byte)) site (P b A o len) (E b A o len) [] 1 len := by
  refine Law.of_walk (plainFor_of_name (by decide +kernel)) (by decide +kernel) (by decide +kernel) (by decide) (fun _ _ h => by rw [h.1]; rfl) (fun _ U U' hal hh h => ⟨h.1, h.2.1.mv hal hh, h.2.2⟩) (fun r U U' V V' h1 hal h2 h => ⟨NewArr.mv r U U' V V' h1 hal h2 h.1, by rw [h1, h2]; exact h.2⟩) ?_
  intro p e s m args below meth c s₁ X0 hexec hbytes hml hret hlk hnm hown hh0 W hP
  obtain ⟨rfl, hA, l1, l2, hp⟩ := hP
  have a31 := hA.1.2.2.2
  have c1 : Steps p.tables e below (s₁.setTop (entryFrame m #[.ref b, .int (Int32.ofNat o), .int (Int32.ofNat len)] 6)) (s₁.setTop (mkF m 0 #[.val (.ref b), .val (.int (Int32.ofNat o)), .val (.int (Int32.ofNat len)), .unset, .unset, .unset] [])) := entry rfl
  have c2 : Steps p.tables e below (s₁.setTop (entryFrame m #[.ref b, .int (Int32.ofNat o), .int (Int32.ofNat len)] 6)) (s₁.setTop (mkF m 1 #[.val (.ref b), .val (.int (Int32.ofNat o)), .val (.int (Int32.ofNat len)), .unset, .unset, .unset] [.int (Int32.ofNat len)])) := c1.trans (by
    refine XS.iloadN X0.here hexec rfl (hb hbytes d0) rfl ?_
    exact Steps.refl _)
  obtain ⟨T3, B3, X3, ba3, bs3, bv3, bh3, bf3, st3⟩ := X0.anew hexec (atype := .byte) (wk W (.arrayClass .byte)) rfl (by show len * 1 ≤ _; omega) (by omega) (g := (mkF m 1 #[.val (.ref b), .val (.int (Int32.ofNat o)), .val (.int (Int32.ofNat len)), .unset, .unset, .unset] [.int (Int32.ofNat len)])) rfl (hb hbytes d1) (rest := []) rfl (Nat.le_refl _) (by show 0 + len ≤ len; omega)
  rw [hh0] at ba3 st3
  have kp3 : XT.Kept s T3 := (XT.Kept.of_eq hh0).push bh3
  have hA3 := hA.keep X3.warmed.alike (kp3 _ _ hA.1.1)
  have hne : b ≠ s.heap.size := hA.1.ne
  have c4 : Steps p.tables e below (s₁.setTop (entryFrame m #[.ref b, .int (Int32.ofNat o), .int (Int32.ofNat len)] 6)) (T3.setTop (mkF m 3 #[.val (.ref b), .val (.int (Int32.ofNat o)), .val (.int (Int32.ofNat len)), .unset, .unset, .unset] [.ref s.heap.size])) := c2.trans (st3 _ (Steps.refl _))
  have c5 : Steps p.tables e below (s₁.setTop (entryFrame m #[.ref b, .int (Int32.ofNat o), .int (Int32.ofNat len)] 6)) (T3.setTop (mkF m 9 #[.val (.ref b), .val (.int (Int32.ofNat o)), .val (.int (Int32.ofNat len)), .val (.ref s.heap.size), .unset, .unset] [.int (Int32.ofNat len), .int 0, .ref s.heap.size, .int (Int32.ofNat o), .ref b])) := c4.trans (by
    refine XS.astoreN X3.here hexec rfl (hb hbytes d3) rfl rfl rfl ?_
    refine XS.aloadN X3.here hexec rfl (hb hbytes d4) rfl rfl ?_
    refine XS.iloadN X3.here hexec rfl (hb hbytes d5) rfl ?_
    refine XS.aloadN X3.here hexec rfl (hb hbytes d6) rfl rfl ?_
    refine iconstV X3.here hexec rfl 0 (hb hbytes d7) (by decide) ?_
    refine XS.iloadN X3.here hexec rfl (hb hbytes d8) rfl ?_
    exact Steps.refl _)
  obtain ⟨v6, T6, X6, E6, g6⟩ := X3.callS hexec (Cmp5.law l b A s.heap.size B3 o 0 len) hown (wks W (staticW U16 115 Cmp5.yN)) (wk W Cmp5.tab) (W := 0) (Nat.le_of_ble_eq_true rfl) (Nat.le_of_ble_eq_true rfl) (Nat.le_refl _) (by show 0 + len + 0 ≤ len; omega) (g := (mkF m 9 #[.val (.ref b), .val (.int (Int32.ofNat o)), .val (.int (Int32.ofNat len)), .val (.ref s.heap.size), .unset, .unset] [.int (Int32.ofNat len), .int (Int32.ofNat 0), .ref s.heap.size, .int (Int32.ofNat o), .ref b])) rfl (by rw [hml]; rfl) c5 (argsL := [.ref b, .int (Int32.ofNat o), .ref s.heap.size, .int (Int32.ofNat 0), .int (Int32.ofNat len)]) (rest := []) rfl rfl (by show 2 * 0 + 0 ≤ _; decide) (hb hbytes d9) (⟨rfl, hA3, ba3, hne, l1, by rw [bs3]; simp, hp⟩)
  obtain ⟨rfl, B6, p6, f6⟩ := E6
  have c7 : Steps p.tables e below (s₁.setTop (entryFrame m #[.ref b, .int (Int32.ofNat o), .int (Int32.ofNat len)] 6)) (T6.setTop (mkF m 12 #[.val (.ref b), .val (.int (Int32.ofNat o)), .val (.int (Int32.ofNat len)), .val (.ref s.heap.size), .unset, .unset] [.int (Int32.ofNat len)])) := g6
  have c8 : Steps p.tables e below (s₁.setTop (entryFrame m #[.ref b, .int (Int32.ofNat o), .int (Int32.ofNat len)] 6)) (T6.setTop (mkF m 58 #[.val (.ref b), .val (.int (Int32.ofNat o)), .val (.int (Int32.ofNat len)), .val (.ref s.heap.size), .val (.int (Int32.ofNat len)), .unset] [.ref s.heap.size])) := c7.trans (by
    refine XS.istore X6.here hexec rfl (hb hbytes d12) rfl rfl ?_
    refine XS.iload X6.here hexec rfl (hb hbytes d14) rfl ?_
    refine XS.iloadN X6.here hexec rfl (hb hbytes d16) rfl ?_
    refine XS.icmpYes X6.here hexec rfl (pc0 := 17) rfl (hb hbytes d17) rfl (ii_eq_t rfl) (by decide) rfl ?_
    refine XS.aloadN X6.here hexec rfl (hb hbytes d57) rfl rfl ?_
    exact Steps.refl _)
  have X8 := X6.wide (L' := []) (cells' := 1) (slots' := len) (fun x hx hlt => by
    simp only [List.nil_append, copyLocs, List.mem_map, List.mem_range] at hx
    obtain ⟨i, -, rfl⟩ := hx
    exact absurd hlt (Nat.lt_irrefl _)) (Nat.le_refl _) (by omega)
  exact ⟨T6, some (.ref s.heap.size), _, _, _, X8, rfl, rfl, rfl, (fun h => by cases h), ⟨⟨rfl, B6, ba3.like (X3.warmed.alike.symm.trans X6.warmed.alike) p6.1 f6.1 f6.2.1 f6.2.2.1, f6.2.1.trans bv3, by rw [X6.warmed.alike.findClass, f6.1]; exact bf3, by rw [f6.2.2.1, bs3]; simp, fun j hj => by rw [f6.2.2.2 j, if_pos (by omega)]; rfl, kp3.put p6 (Nat.le_refl _)⟩, by rw [p6.2.2, bh3, hh0]; simp⟩, fun fs hl => c8.trans (X8.areturnOut hexec rfl hret rfl (hb hbytes d58) hl)⟩
end Cmp3
namespace CodL
def yN : MethodName := ⟨"java/lang/StringUTF16", "coderFromArrayLen", "([BI)B"⟩
abbrev yB : ByteArray := jdk_52_method_15_code
theorem d0 : decode yB 0 = .ok (.iload_n 1, 1) := by decide +kernel
theorem d1 : decode yB 1 = .ok (.aload_n 0, 1) := by decide +kernel
theorem d2 : decode yB 2 = .ok (.arraylength, 1) := by decide +kernel
theorem d3 : decode yB 3 = .ok (.isub, 1) := by decide +kernel
theorem d4 : decode yB 4 = .ok (.bipush 31, 2) := by decide +kernel
theorem d6 : decode yB 6 = .ok (.iushr, 1) := by decide +kernel
theorem d7 : decode yB 7 = .ok (.i2b, 1) := by decide +kernel
theorem d8 : decode yB 8 = .ok (.ireturn, 1) := by decide +kernel
def site : List Cond := []
def tab : Cond := tabOf yN yB 2 (some .byte) site
def P (d : Addr) (B : Cell) (args : Array Value) (s : State) : Prop := args = #[.ref d, .int (Int32.ofNat B.slots.size)] ∧ Arr .byte d B s
def E (r : Option Value) (s u : State) : Prop := XT.PureE (some (.int 0)) r s u
/-- an array as long as the number of chars: LATIN1 -/
theorem law (l : Launch) (d : Addr) (B : Cell) : Law l yN 2 2 0 0 yB 2 (some .byte) site (P d B) E [] 0 0 := by
  refine Law.of_walk (plainFor_of_name (by decide +kernel)) (by decide +kernel) (by decide +kernel) (by decide) (fun _ _ h => by rw [h.1]; rfl) (fun _ U U' hal hh h => ⟨h.1, h.2.mv hal hh⟩) (fun r U U' V V' h1 hal h2 h => XT.PureE.mv r U U' V V' h1 hal h2 h) ?_
  intro p e s m args below meth c s₁ X0 hexec hbytes hml hret hlk hnm hown hh0 W hP
  obtain ⟨rfl, hB⟩ := hP
  have hB0 := hB.mv X0.warmed.alike hh0
  have c1 : Steps p.tables e below (s₁.setTop (entryFrame m #[.ref d, .int (Int32.ofNat B.slots.size)] 2)) (s₁.setTop (mkF m 0 #[.val (.ref d), .val (.int (Int32.ofNat B.slots.size))] [])) := entry rfl
  have c2 : Steps p.tables e below (s₁.setTop (entryFrame m #[.ref d, .int (Int32.ofNat B.slots.size)] 2)) (s₁.setTop (mkF m 2 #[.val (.ref d), .val (.int (Int32.ofNat B.slots.size))] [.ref d, .int (Int32.ofNat B.slots.size)])) := c1.trans (by
    refine XS.iloadN X0.here hexec rfl (hb hbytes d0) rfl ?_
    refine XS.aloadN X0.here hexec rfl (hb hbytes d1) rfl rfl ?_
    exact Steps.refl _)
  have c3 : Steps p.tables e below (s₁.setTop (entryFrame m #[.ref d, .int (Int32.ofNat B.slots.size)] 2)) (s₁.setTop (mkF m 8 #[.val (.ref d), .val (.int (Int32.ofNat B.slots.size))] [.int (lo8 (ushr (Int32.ofNat B.slots.size - Int32.ofNat B.slots.size) 31))])) := c2.trans (by
    refine X0.alen hexec hB0 rfl rfl (hb hbytes d2) ?_
    refine XS.isub X0.here hexec rfl (hb hbytes d3) rfl ?_
    refine bipushV X0.here hexec rfl 31 (hb hbytes d4) (by decide) ?_
    refine iushr X0.here hexec rfl (hb hbytes d6) rfl ?_
    refine i2b X0.here hexec rfl (hb hbytes d7) rfl ?_
    exact Steps.refl _)
  have e0 : lo8 (ushr (Int32.ofNat B.slots.size - Int32.ofNat B.slots.size) 31) = 0 := by rw [Int32.sub_self]; decide
  rw [e0] at c3
  exact ⟨s₁, some (.int 0), _, _, _, X0, rfl, rfl, rfl, (fun h => by cases h), ⟨rfl, hh0⟩, fun fs hl => c3.trans (X0.ireturnOut hexec hret rfl (Or.inr (Or.inr (Or.inl rfl))) (hb hbytes d8) hl)⟩
end CodL
/-- the String at a is Latin-1 over a new byte[] (the heap's one new cell): the low bytes of the len chars of A from o on; every cell but a is kept -/
def Got (a : Addr) (D : Cell) (fV fC : Field) (A : Cell) (o len : Nat) (r : Option Value) (s u : State) : Prop := r = none ∧ ∃ D' V : Cell, Blank "java/lang/String" a D' u ∧ Same D D' [fV.slot, fC.slot] ∧ D'.slots[fV.slot]? = some (.ref s.heap.size) ∧ D'.slots[fC.slot]? = some (.int 0) ∧ Arr .byte s.heap.size V u ∧ V.vm = .none ∧ u.vm.findClass "[B" = some V.cls ∧ V.slots.size = len ∧ (∀ j, j < len → V.slots[j]? = some (.int (lo8 (cv A (o + j))))) ∧ (∀ (y : Addr) (c : Cell), y ≠ a → s.heap[y]? = some c → u.heap[y]? = some c) ∧ u.heap.size = s.heap.size + 1
theorem Got.mv {a : Addr} {D A : Cell} {fV fC : Field} {o len : Nat} : ∀ r (U U' V V' : State), U'.heap = U.heap → V.vm.Alike V'.vm → V'.heap = V.heap → Got a D fV fC A o len r U V → Got a D fV fC A o len r U' V' :=
  fun r U U' V V' h1 hal h2 ⟨e0, D', X, a1, a2, a3, a4, a5, a6, a7, a8, a9, a10, a11⟩ => ⟨e0, D', X, a1.mv hal h2, a2, by rw [h1]; exact a3, a4, by rw [h1]; exact a5.mv hal h2, a6, by rw [hal.findClass]; exact a7, a8, a9, by rw [h1, h2]; exact a10, by rw [h1, h2]; exact a11⟩
namespace New4
def yN : MethodName := ⟨"java/lang/String", "<init>", "([CIILjava/lang/Void;)V"⟩
abbrev yB : ByteArray := jdk_42_method_149_code
theorem d0 : decode yB 0 = .ok (.aload_n 0, 1) := by decide +kernel
theorem d1 : decode yB 1 = .ok (.invokespecial 1, 3) := by decide +kernel
theorem d4 : decode yB 4 = .ok (.iload_n 3, 1) := by decide +kernel
theorem d5 : decode yB 5 = .ok (.ifCond (.ne) 22, 3) := by decide +kernel
theorem d27 : decode yB 27 = .ok (.getstatic 38, 3) := by decide +kernel
theorem d30 : decode yB 30 = .ok (.ifCond (.eq) 28, 3) := by decide +kernel
theorem d33 : decode yB 33 = .ok (.aload_n 1, 1) := by decide +kernel
theorem d34 : decode yB 34 = .ok (.iload_n 2, 1) := by decide +kernel
theorem d35 : decode yB 35 = .ok (.iload_n 3, 1) := by decide +kernel
theorem d36 : decode yB 36 = .ok (.invokestatic 177, 3) := by decide +kernel
theorem d39 : decode yB 39 = .ok (.astore 5, 2) := by decide +kernel
theorem d41 : decode yB 41 = .ok (.aload_n 0, 1) := by decide +kernel
theorem d42 : decode yB 42 = .ok (.aload 5, 2) := by decide +kernel
theorem d44 : decode yB 44 = .ok (.iload_n 3, 1) := by decide +kernel
theorem d45 : decode yB 45 = .ok (.invokestatic 47, 3) := by decide +kernel
theorem d48 : decode yB 48 = .ok (.putfield 15, 3) := by decide +kernel
theorem d51 : decode yB 51 = .ok (.aload_n 0, 1) := by decide +kernel
theorem d52 : decode yB 52 = .ok (.aload 5, 2) := by decide +kernel
theorem d54 : decode yB 54 = .ok (.putfield 9, 3) := by decide +kernel
theorem d57 : decode yB 57 = .ok (.return_, 1) := by decide +kernel
def site : List Cond := [.fieldLink "java/lang/String" 38 "java/lang/String" "COMPACT_STRINGS" "Z", Cmp3.tab, CodL.tab, .laysFinal "java/lang/String" "java/lang/String" "value" "[B", .fieldLink "java/lang/String" 9 "java/lang/String" "value" "[B", .laysFinal "java/lang/String" "java/lang/String" "coder" "B", .fieldLink "java/lang/String" 15 "java/lang/String" "coder" "B"] ++ objW "java/lang/String" 1 ++ staticW "java/lang/String" 177 Cmp3.yN ++ staticW "java/lang/String" 47 CodL.yN
def tab : Cond := tabOf yN yB 6 none site
def P (a : Addr) (D : Cell) (fV fC : Field) (b : Addr) (A : Cell) (z : Int32) (o len : Nat) (args : Array Value) (s : State) : Prop := args = #[.ref a, .ref b, .int (Int32.ofNat o), .int (Int32.ofNat len), .null] ∧ Blank "java/lang/String" a D s ∧ Found "java/lang/String" "value" "[B" fV s ∧ Found "java/lang/String" "coder" "B" fC s ∧ Ch b A s ∧ StaticIs s "java/lang/String" "COMPACT_STRINGS" "Z" (.int z) ∧ ¬ z = 0 ∧ 0 < len ∧ o + len ≤ A.slots.size ∧ len ≤ 536870912 ∧ ∀ i, i < len → ¬ 255 < cv A (o + i)
def E (a : Addr) (D : Cell) (fV fC : Field) (A : Cell) (o len : Nat) (r : Option Value) (s u : State) : Prop := Got a D fV fC A o len r s u
/-- len > 0, no char of the range above 255: a Latin-1 String of their low bytes -/
theorem law (l : Launch) (a : Addr) (D : Cell) (fV fC : Field) (b : Addr) (A : Cell) (z : Int32) (o len : Nat) : Law l yN 5 4 2 35 yB 6 none site (P a D fV fC b A z o len) (E a D fV fC A o len) [⟨a, fC.slot⟩, ⟨a, fV.slot⟩] 1 len := by
  refine Law.of_walk (plainFor_of_name (by decide +kernel)) (by decide +kernel) (by decide +kernel) (by decide) (fun _ _ h => by rw [h.1]; rfl) (fun _ U U' hal hh h => ⟨h.1, h.2.1.mv hal hh, h.2.2.1.al hal, h.2.2.2.1.al hal, h.2.2.2.2.1.mv hal hh, h.2.2.2.2.2.1.there hal hh, h.2.2.2.2.2.2⟩) (fun r U U' V V' h1 hal h2 h => Got.mv r U U' V V' h1 hal h2 h) ?_
  intro p e s m args below meth c s₁ X0 hexec hbytes hml hret hlk hnm hown hh0 W hP
  obtain ⟨rfl, hB, f1, f2, hA, s1, hz, l0, l1, l2, hp⟩ := hP
  have a31 := hA.1.2.2.2
  have c1 : Steps p.tables e below (s₁.setTop (entryFrame m #[.ref a, .ref b, .int (Int32.ofNat o), .int (Int32.ofNat len), .null] 6)) (s₁.setTop (mkF m 0 #[.val (.ref a), .val (.ref b), .val (.int (Int32.ofNat o)), .val (.int (Int32.ofNat len)), .val .null, .unset] [])) := entry rfl
  have c2 : Steps p.tables e below (s₁.setTop (entryFrame m #[.ref a, .ref b, .int (Int32.ofNat o), .int (Int32.ofNat len), .null] 6)) (s₁.setTop (mkF m 1 #[.val (.ref a), .val (.ref b), .val (.int (Int32.ofNat o)), .val (.int (Int32.ofNat len)), .val .null, .unset] [.ref a])) := c1.trans (by
    refine XS.aloadN X0.here hexec rfl (hb hbytes d0) rfl rfl ?_
    exact Steps.refl _)
  obtain ⟨T3, X3, q3, st3⟩ := X0.oinit hexec hown (wks W (objW "java/lang/String" 1)) (g := (mkF m 1 #[.val (.ref a), .val (.ref b), .val (.int (Int32.ofNat o)), .val (.int (Int32.ofNat len)), .val .null, .unset] [.ref a])) rfl (by rw [hml]; rfl) (rest := []) rfl (hb hbytes d1) (W := 0) (by show 2 * 0 + 0 ≤ _; decide) (Nat.le_of_ble_eq_true rfl) (Nat.le_of_ble_eq_true rfl)
  have hh3 := q3.trans hh0
  have c4 : Steps p.tables e below (s₁.setTop (entryFrame m #[.ref a, .ref b, .int (Int32.ofNat o), .int (Int32.ofNat len), .null] 6)) (T3.setTop (mkF m 27 #[.val (.ref a), .val (.ref b), .val (.int (Int32.ofNat o)), .val (.int (Int32.ofNat len)), .val .null, .unset] [])) := (c2.trans (st3 _ (Steps.refl _))).trans (by
    refine XS.iloadN X3.here hexec rfl (hb hbytes d4) rfl ?_
    refine XS.ifYes X3.here hexec rfl (pc0 := 5) rfl (hb hbytes d5) rfl (i0_ne_t (nz32 (by omega) l0)) (by decide) rfl ?_
    exact Steps.refl _)
  obtain ⟨T5, X5, q5, st5⟩ := X3.sget hexec hown (wk W (.fieldLink "java/lang/String" 38 "java/lang/String" "COMPACT_STRINGS" "Z")) s1 (fun _ _ h => by rw [hh3]; exact h) (g := (mkF m 27 #[.val (.ref a), .val (.ref b), .val (.int (Int32.ofNat o)), .val (.int (Int32.ofNat len)), .val .null, .unset] [])) rfl (hb hbytes d27)
  have hh5 := q5.trans hh3
  have c6 : Steps p.tables e below (s₁.setTop (entryFrame m #[.ref a, .ref b, .int (Int32.ofNat o), .int (Int32.ofNat len), .null] 6)) (T5.setTop (mkF m 30 #[.val (.ref a), .val (.ref b), .val (.int (Int32.ofNat o)), .val (.int (Int32.ofNat len)), .val .null, .unset] [.int z])) := c4.trans (st5 _ (Steps.refl _))
  have c7 : Steps p.tables e below (s₁.setTop (entryFrame m #[.ref a, .ref b, .int (Int32.ofNat o), .int (Int32.ofNat len), .null] 6)) (T5.setTop (mkF m 36 #[.val (.ref a), .val (.ref b), .val (.int (Int32.ofNat o)), .val (.int (Int32.ofNat len)), .val .null, .unset] [.int (Int32.ofNat len), .int (Int32.ofNat o), .ref b])) := c6.trans (by
    refine XS.ifNo X5.here hexec rfl (hb hbytes d30) rfl (i0_eq_f hz) ?_
    refine XS.aloadN X5.here hexec rfl (hb hbytes d33) rfl rfl ?_
    refine XS.iloadN X5.here hexec rfl (hb hbytes d34) rfl ?_
    refine XS.iloadN X5.here hexec rfl (hb hbytes d35) rfl ?_
    exact Steps.refl _)
  obtain ⟨v8, T8, X8, E8, g8⟩ := X5.callS hexec (Cmp3.law l b A o len) hown (wks W (staticW "java/lang/String" 177 Cmp3.yN)) (wk W Cmp3.tab) (W := 0) (Nat.le_of_ble_eq_true rfl) (Nat.le_of_ble_eq_true rfl) (Nat.le_refl _) (by show 0 + len ≤ len; omega) (g := (mkF m 36 #[.val (.ref a), .val (.ref b), .val (.int (Int32.ofNat o)), .val (.int (Int32.ofNat len)), .val .null, .unset] [.int (Int32.ofNat len), .int (Int32.ofNat o), .ref b])) rfl (by rw [hml]; rfl) c7 (argsL := [.ref b, .int (Int32.ofNat o), .int (Int32.ofNat len)]) (rest := []) rfl rfl (by show 2 * 0 + 0 ≤ _; decide) (hb hbytes d36) (⟨rfl, hA.mv X5.warmed.alike hh5, l1, l2, hp⟩)
  obtain ⟨e8, z8⟩ := E8
  obtain ⟨rfl, N, n1, n2, n3, n4, n5, n6⟩ := NewArr.mv _ T5 s _ _ hh5.symm (Vm.Alike.refl _) rfl e8
  rw [hh5] at z8
  have hB1 := hB.keep X8.warmed.alike (n6 _ _ hB.1)
  have hne : s.heap.size ≠ a := (Nat.ne_of_lt (Array.getElem?_eq_some_iff.mp hB.1).1).symm
  have c9 : Steps p.tables e below (s₁.setTop (entryFrame m #[.ref a, .ref b, .int (Int32.ofNat o), .int (Int32.ofNat len), .null] 6)) (T8.setTop (mkF m 39 #[.val (.ref a), .val (.ref b), .val (.int (Int32.ofNat o)), .val (.int (Int32.ofNat len)), .val .null, .unset] [.ref s.heap.size])) := g8
  have c10 : Steps p.tables e below (s₁.setTop (entryFrame m #[.ref a, .ref b, .int (Int32.ofNat o), .int (Int32.ofNat len), .null] 6)) (T8.setTop (mkF m 45 #[.val (.ref a), .val (.ref b), .val (.int (Int32.ofNat o)), .val (.int (Int32.ofNat len)), .val .null, .val (.ref s.heap.size)] [.int (Int32.ofNat N.slots.size), .ref s.heap.size, .ref a])) := by
    have hc : Steps p.tables e below (s₁.setTop (entryFrame m #[.ref a, .ref b, .int (Int32.ofNat o), .int (Int32.ofNat len), .null] 6)) (T8.setTop (mkF m 45 #[.val (.ref a), .val (.ref b), .val (.int (Int32.ofNat o)), .val (.int (Int32.ofNat len)), .val .null, .val (.ref s.heap.size)] [.int (Int32.ofNat len), .ref s.heap.size, .ref a])) := c9.trans (by
      refine XS.astore X8.here hexec rfl (hb hbytes d39) rfl rfl rfl ?_
      refine XS.aloadN X8.here hexec rfl (hb hbytes d41) rfl rfl ?_
      refine XS.aload X8.here hexec rfl (hb hbytes d42) rfl rfl ?_
      refine XS.iloadN X8.here hexec rfl (hb hbytes d44) rfl ?_
      exact Steps.refl _)
    rw [n4]; exact hc
  obtain ⟨v11, T11, X11, E11, g11⟩ := X8.callS hexec (CodL.law l s.heap.size N) hown (wks W (staticW "java/lang/String" 47 CodL.yN)) (wk W CodL.tab) (W := 1) (Nat.le_of_ble_eq_true rfl) (Nat.le_of_ble_eq_true rfl) (Nat.le_refl _) (by show 0 + len + 0 ≤ len; omega) (g := (mkF m 45 #[.val (.ref a), .val (.ref b), .val (.int (Int32.ofNat o)), .val (.int (Int32.ofNat len)), .val .null, .val (.ref s.heap.size)] [.int (Int32.ofNat N.slots.size), .ref s.heap.size, .ref a])) rfl (by rw [hml]; rfl) c10 (argsL := [.ref s.heap.size, .int (Int32.ofNat N.slots.size)]) (rest := [.ref a]) rfl rfl (by show 2 * 0 + (1 + 0) ≤ _; decide) (hb hbytes d45) (⟨rfl, n1⟩)
  obtain ⟨rfl, q11⟩ := E11
  have hB11 := hB1.mv (X8.warmed.alike.symm.trans X11.warmed.alike) q11
  have c12 : Steps p.tables e below (s₁.setTop (entryFrame m #[.ref a, .ref b, .int (Int32.ofNat o), .int (Int32.ofNat len), .null] 6)) (T11.setTop (mkF m 48 #[.val (.ref a), .val (.ref b), .val (.int (Int32.ofNat o)), .val (.int (Int32.ofNat len)), .val .null, .val (.ref s.heap.size)] [.int 0, .ref a])) := g11
  obtain ⟨T13, X13, p13, bl13, sl13, st13⟩ := X11.finit hexec hown (wk W (.fieldLink "java/lang/String" 15 "java/lang/String" "coder" "B")) (Or.inr ⟨_, (wk W (.laysFinal "java/lang/String" "java/lang/String" "coder" "B"))⟩) (Or.inl ⟨rfl, hnm⟩) f2 (Or.inl rfl) hB11 (t := .byte) (by decide +kernel) rfl (g := (mkF m 48 #[.val (.ref a), .val (.ref b), .val (.int (Int32.ofNat o)), .val (.int (Int32.ofNat len)), .val .null, .val (.ref s.heap.size)] [.int 0, .ref a])) rfl (rest := []) rfl (hb hbytes d48)
  have c14 : Steps p.tables e below (s₁.setTop (entryFrame m #[.ref a, .ref b, .int (Int32.ofNat o), .int (Int32.ofNat len), .null] 6)) (T13.setTop (mkF m 54 #[.val (.ref a), .val (.ref b), .val (.int (Int32.ofNat o)), .val (.int (Int32.ofNat len)), .val .null, .val (.ref s.heap.size)] [.ref s.heap.size, .ref a])) := (c12.trans (st13 _ (Steps.refl _))).trans (by
    refine XS.aloadN X13.here hexec rfl (hb hbytes d51) rfl rfl ?_
    refine XS.aload X13.here hexec rfl (hb hbytes d52) rfl rfl ?_
    exact Steps.refl _)
  obtain ⟨T15, X15, p15, bl15, sl15, st15⟩ := X13.finit hexec hown (wk W (.fieldLink "java/lang/String" 9 "java/lang/String" "value" "[B")) (Or.inr ⟨_, (wk W (.laysFinal "java/lang/String" "java/lang/String" "value" "[B"))⟩) (Or.inl ⟨rfl, hnm⟩) f1 (Or.inl rfl) bl13 (t := (.array .byte)) (by decide +kernel) rfl (g := (mkF m 54 #[.val (.ref a), .val (.ref b), .val (.int (Int32.ofNat o)), .val (.int (Int32.ofNat len)), .val .null, .val (.ref s.heap.size)] [.ref s.heap.size, .ref a])) rfl (rest := []) rfl (hb hbytes d54)
  have c16 : Steps p.tables e below (s₁.setTop (entryFrame m #[.ref a, .ref b, .int (Int32.ofNat o), .int (Int32.ofNat len), .null] 6)) (T15.setTop (mkF m 57 #[.val (.ref a), .val (.ref b), .val (.int (Int32.ofNat o)), .val (.int (Int32.ofNat len)), .val .null, .val (.ref s.heap.size)] [])) := c14.trans (st15 _ (Steps.refl _))
  have ap := apart (Or.inr ⟨_, (wk W (.laysFinal "java/lang/String" "java/lang/String" "value" "[B"))⟩) (Or.inr ⟨_, (wk W (.laysFinal "java/lang/String" "java/lang/String" "coder" "B"))⟩) f1 f2 (t₁ := .array .byte) (t₂ := .byte) (by decide +kernel) (by decide +kernel) (by decide)
  have al := X8.warmed.alike.symm.trans X15.warmed.alike
  have n7 : T11.heap[s.heap.size]? = some N := by rw [q11]; exact n1.1
  exact ⟨T15, none, _, _, _, X15, by simp, rfl, by omega, (fun _ => rfl), ⟨rfl, _, N, bl15, ((Same.refl D _).set _ (by simp)).set _ (by simp), sl15, (Cell.slots_setSlot_ne _ ap).trans sl13, n1.keep al (p15.other hne (p13.other hne n7)), n2, by rw [al.findClass]; exact n3, n4, n5, fun y c h1 h2 => p15.other h1 (p13.other h1 (by rw [q11]; exact n6 y c h2)), by rw [p15.2.2, p13.2.2, q11]; exact z8⟩, fun fs hl => c16.trans (X15.returnOut hexec hret (hb hbytes d57) hl)⟩
end New4
namespace New1
def yN : MethodName := ⟨"java/lang/String", "<init>", "([C)V"⟩
abbrev yB : ByteArray := jdk_42_method_3_code
theorem d0 : decode yB 0 = .ok (.aload_n 0, 1) := by decide +kernel
theorem d1 : decode yB 1 = .ok (.aload_n 1, 1) := by decide +kernel
theorem d2 : decode yB 2 = .ok (.iconst 0, 1) := by decide +kernel
theorem d3 : decode yB 3 = .ok (.aload_n 1, 1) := by decide +kernel
theorem d4 : decode yB 4 = .ok (.arraylength, 1) := by decide +kernel
theorem d5 : decode yB 5 = .ok (.aconst_null, 1) := by decide +kernel
theorem d6 : decode yB 6 = .ok (.invokespecial 27, 3) := by decide +kernel
theorem d9 : decode yB 9 = .ok (.return_, 1) := by decide +kernel
def site : List Cond := [New4.tab] ++ initW "java/lang/String" 27 New4.yN
def tab : Cond := tabOf yN yB 2 none site
def P (a : Addr) (D : Cell) (fV fC : Field) (b : Addr) (A : Cell) (z : Int32) (args : Array Value) (s : State) : Prop := args = #[.ref a, .ref b] ∧ Blank "java/lang/String" a D s ∧ Found "java/lang/String" "value" "[B" fV s ∧ Found "java/lang/String" "coder" "B" fC s ∧ Ch b A s ∧ StaticIs s "java/lang/String" "COMPACT_STRINGS" "Z" (.int z) ∧ ¬ z = 0 ∧ 0 < A.slots.size ∧ A.slots.size ≤ 536870912 ∧ ∀ i, i < A.slots.size → ¬ 255 < cv A i
def E (a : Addr) (D : Cell) (fV fC : Field) (A : Cell) (r : Option Value) (s u : State) : Prop := Got a D fV fC A 0 A.slots.size r s u
/-- new String(chars), not empty, no char above 255: a Latin-1 String of their low bytes -/
theorem law (l : Launch) (a : Addr) (D : Cell) (fV fC : Field) (b : Addr) (A : Cell) (z : Int32) : Law l yN 2 1 3 52 yB 2 none site (P a D fV fC b A z) (E a D fV fC A) [⟨a, fC.slot⟩, ⟨a, fV.slot⟩] 1 A.slots.size := by
  refine Law.of_walk (plainFor_of_name (by decide +kernel)) (by decide +kernel) (by decide +kernel) (by decide) (fun _ _ h => by rw [h.1]; rfl) (fun _ U U' hal hh h => ⟨h.1, h.2.1.mv hal hh, h.2.2.1.al hal, h.2.2.2.1.al hal, h.2.2.2.2.1.mv hal hh, h.2.2.2.2.2.1.there hal hh, h.2.2.2.2.2.2⟩) (fun r U U' V V' h1 hal h2 h => Got.mv r U U' V V' h1 hal h2 h) ?_
  intro p e s m args below meth c s₁ X0 hexec hbytes hml hret hlk hnm hown hh0 W hP
  obtain ⟨rfl, hB, f1, f2, hA, s1, hz, l0, l2, hp⟩ := hP
  have c1 : Steps p.tables e below (s₁.setTop (entryFrame m #[.ref a, .ref b] 2)) (s₁.setTop (mkF m 0 #[.val (.ref a), .val (.ref b)] [])) := entry rfl
  have c2 : Steps p.tables e below (s₁.setTop (entryFrame m #[.ref a, .ref b] 2)) (s₁.setTop (mkF m 6 #[.val (.ref a), .val (.ref b)] [.null, .int (Int32.ofNat A.slots.size), .int 0, .ref b, .ref a])) := c1.trans (by
    refine XS.aloadN X0.here hexec rfl (hb hbytes d0) rfl rfl ?_
    refine XS.aloadN X0.here hexec rfl (hb hbytes d1) rfl rfl ?_
    refine iconstV X0.here hexec rfl 0 (hb hbytes d2) (by decide) ?_
    refine XS.aloadN X0.here hexec rfl (hb hbytes d3) rfl rfl ?_
    refine X0.alen hexec (hA.1.mv X0.warmed.alike hh0) rfl rfl (hb hbytes d4) ?_
    refine XS.aconstNull X0.here hexec rfl (hb hbytes d5) ?_
    exact Steps.refl _)
  obtain ⟨v3, T3, X3, E3, g3⟩ := X0.callN hexec (New4.law l a D fV fC b A z 0 A.slots.size) rfl hown (wks W (initW "java/lang/String" 27 New4.yN)) (W New4.tab (by simp only [site, List.mem_cons, List.mem_append, true_or, or_true])) (W := 0) (Nat.le_of_ble_eq_true rfl) (Nat.le_of_ble_eq_true rfl) (Nat.le_refl _) (by show 0 + A.slots.size ≤ A.slots.size; omega) (g := (mkF m 6 #[.val (.ref a), .val (.ref b)] [.null, .int (Int32.ofNat A.slots.size), .int (Int32.ofNat 0), .ref b, .ref a])) rfl (by rw [hml]; rfl) c2 (argsL := [.ref b, .int (Int32.ofNat 0), .int (Int32.ofNat A.slots.size), .null]) (rest := []) rfl rfl (by show 2 * 0 + 0 ≤ _; decide) (hb hbytes d6) (⟨rfl, hB.mv X0.warmed.alike hh0, f1.al X0.warmed.alike, f2.al X0.warmed.alike, hA.mv X0.warmed.alike hh0, s1.there X0.warmed.alike hh0, hz, l0, by omega, l2, fun i hi => by rw [Nat.zero_add]; exact hp i hi⟩)
  have e0 := Got.mv _ s₁ s _ _ hh0.symm (Vm.Alike.refl _) rfl E3
  obtain rfl := e0.1
  have c4 : Steps p.tables e below (s₁.setTop (entryFrame m #[.ref a, .ref b] 2)) (T3.setTop (mkF m 9 #[.val (.ref a), .val (.ref b)] [])) := g3
  exact ⟨T3, none, _, _, _, X3, by simp, rfl, by omega, (fun _ => rfl), e0, fun fs hl => c4.trans (X3.returnOut hexec hret (hb hbytes d9) hl)⟩
theorem pays {l : Launch} {R : Room} {p : Program} {e : Env} {below : List Frame} {s : State} {sargs : Array Value} {len W : Nat} (a : Addr) (D : Cell) (fV fC : Field) (b : Addr) (A : Cell) (z : Int32) (htab : tab.before sargs s = true) (hfr : 4 ≤ R.frames) (hlo : W + 65 ≤ R.locals) :
    Back l R p e below s sargs yN len W (fun A₁ a₁ => A₁.cells + 1 ≤ R.cells ∧ A₁.slots + A.slots.size ≤ R.slots ∧ P a D fV fC b A z a₁ A₁.U) (fun A₁ _ v₁ B₁ => E a D fV fC A v₁ A₁.U B₁.U ∧ B₁.locs = A₁.locs ++ [⟨a, fC.slot⟩, ⟨a, fV.slot⟩] ∧ B₁.cells = A₁.cells + 1 ∧ B₁.slots = A₁.slots + A.slots.size) :=
  (law l a D fV fC b A z).pays htab hfr (by omega)
end New1
/-- the byte, read back as charAt reads it, is the char -/
theorem lo8_mask {x : Int32} (h0 : ¬ x < 0) (h1 : ¬ 255 < x) : lo8 x &&& 255 = x := by
  have t : ∀ k : Fin 256, lo8 (Int32.ofNat k.val) &&& 255 = Int32.ofNat k.val := by decide +kernel
  rw [Int32.lt_iff_toInt_lt] at h0 h1
  have e0 : (0 : Int32).toInt = 0 := rfl
  have e1 : (255 : Int32).toInt = 255 := rfl
  obtain ⟨k, hk⟩ : ∃ k : Nat, x.toInt = k := ⟨x.toInt.toNat, by omega⟩
  have hx : x = Int32.ofNat k := Int32.toInt_inj.mp (by rw [hk, Int32.toInt_ofNat_small (by omega)])
  rw [hx]
  exact t ⟨k, by omega⟩
end StrChars
namespace StrChars.Road
open Jvm Sem ClassFile Op Lib Jvm.Stand Jvm.Free Jvm.Free.XT
open Jvm.Lib.Cold (StaticIs)
abbrev ST : String := "java/lang/String"
/-- every table word that New1's law asks, flat -/
abbrev words : List Jvm.Cond := [.code New1.yN New1.yB 2 none, .initialized ST, .methodLink ST 27 New4.yN, .instanceMethod New4.yN,
  .code New4.yN New4.yB 6 none, .fieldLink ST 38 ST "COMPACT_STRINGS" "Z", .laysFinal ST ST "value" "[B", .fieldLink ST 9 ST "value" "[B", .laysFinal ST ST "coder" "B", .fieldLink ST 15 ST "coder" "B",
  .methodLink ST 1 Lib.objectInit, .instanceMethod Lib.objectInit, .code Lib.objectInit ⟨#[0xb1]⟩ 1 none, .methodLink ST 177 Cmp3.yN, .static Cmp3.yN, .methodLink ST 47 CodL.yN, .static CodL.yN,
  .code Cmp3.yN Cmp3.yB 6 (some (.array .byte)), .initialized U16, .arrayClass .byte, .methodLink U16 115 Cmp5.yN, .static Cmp5.yN, .code Cmp5.yN Cmp5.yB 7 (some .int), .code CodL.yN CodL.yB 2 (some .byte)]
theorem tab_of {a : Array Value} {s : State} (h : ∀ w ∈ words, w.before a s = true) : New1.tab.before a s = true := by
  have h5 : Cmp5.tab.before a s = true := unparts (wk h (.code Cmp5.yN Cmp5.yB 7 (some .int))) (wks h (.initialized Cmp5.yN.cls :: Cmp5.site))
  have hc : CodL.tab.before a s = true := unparts (wk h (.code CodL.yN CodL.yB 2 (some .byte))) (wks h (.initialized CodL.yN.cls :: CodL.site))
  have q5 : ∀ w ∈ Cmp5.tab :: words, w.before a s = true := fun w hw => (List.mem_cons.mp hw).elim (fun e => e ▸ h5) (h w)
  have h3 : Cmp3.tab.before a s = true := unparts (wk q5 (.code Cmp3.yN Cmp3.yB 6 (some (.array .byte)))) (wks q5 (.initialized Cmp3.yN.cls :: Cmp3.site))
  have q3 : ∀ w ∈ Cmp3.tab :: CodL.tab :: words, w.before a s = true := fun w hw => (List.mem_cons.mp hw).elim (fun e => e ▸ h3) fun hw => (List.mem_cons.mp hw).elim (fun e => e ▸ hc) (h w)
  have h4 : New4.tab.before a s = true := unparts (wk q3 (.code New4.yN New4.yB 6 none)) (wks q3 (.initialized New4.yN.cls :: New4.site))
  have q4 : ∀ w ∈ New4.tab :: words, w.before a s = true := fun w hw => (List.mem_cons.mp hw).elim (fun e => e ▸ h4) (h w)
  exact unparts (wk q4 (.code New1.yN New1.yB 2 none)) (wks q4 (.initialized New1.yN.cls :: New1.site))
/-- the words ride from the start Z to the walk's own state -/
theorem moved {Z s : State} {a0 args : Array Value} (hZ : Z.Warmed39 s.vm) (hw : ∀ d ∈ words, d.before a0 Z = true) : ∀ d ∈ words, d.before args s = true := fun d hd => by
  have q := hw d hd
  have t : ∀ d ∈ words, d = .arrayClass .byte ∨ (d.onTables && d.keepsFace) = true := by decide +kernel
  rcases t d hd with rfl | t
  · exact RoadKit.mvA hZ q
  · exact RoadKit.mv hZ q t
/-- WHAT COMES BACK, over the tables of the start Z: h the heap at the call, h' behind it -/
def Q (Z : State) (x : Addr) (A : Cell) (h : Heap) (v : Option Value) (h' : Heap) (L : List Loc) : Prop := v = none ∧ (∀ y ∈ L, y.base = x) ∧ RoadKit.Keep h h' [x] ∧ h'.size = h.size + 1 ∧ RoadKit.Exa Z h' x ST ∧ RoadKit.Fld Z h' x ST "value" "[B" (.ref h.size) ∧ RoadKit.Fld Z h' x ST "coder" "B" (.int 0) ∧
  (∃ V : Cell, RoadKit.Arr Z h' h.size V .byte ∧ V.vm = .none ∧ Z.vm.findClass "[B" = some V.cls ∧ V.slots.size = A.slots.size ∧ ∀ j, j < A.slots.size → V.slots[j]? = some (.int (lo8 (cv A j)))) ∧
  ∀ (O n d : String) (w : Value), RoadKit.Fld Z h x O n d w → RoadKit.slotOf Z O n d ≠ RoadKit.slotOf Z ST "value" "[B" → RoadKit.slotOf Z O n d ≠ RoadKit.slotOf Z ST "coder" "B" → RoadKit.Fld Z h' x O n d w
/-- **new String(chars) AT A CALL, IN THE ROAD'S FORM**: for specialBack behind newO: x the fresh String, b the char[] with the cell A -/
theorem back {p : Program} {l : Launch} {e : Env} {R : Room} {s : State} {args : Array Value} {below : List Frame} {len W : Nat} {Z : State} {a0 : Array Value} {h : Heap} (hZ : Z.Warmed39 s.vm) (hw : ∀ d ∈ words, d.before a0 Z = true) {kI : Nat} (wi : (Jvm.Cond.instantiable ST kI).before a0 Z = true)
    {x b : Addr} {A : Cell} {z : Int32} {v0 c0 : Value} (E : RoadKit.Exa Z h x ST) (V : RoadKit.Fld Z h x ST "value" "[B" v0) (C : RoadKit.Fld Z h x ST "coder" "B" c0) (K : RoadKit.Arr Z h b A .char) (hty : Typed .char A) (S : RoadKit.Sta Z h ST "COMPACT_STRINGS" "Z" (.int z)) (hz : ¬ z = 0)
    (l0 : 0 < A.slots.size) (l2 : A.slots.size ≤ 536870912) (hp : ∀ i, i < A.slots.size → ¬ 255 < cv A i) (hfr : 4 ≤ R.frames) (hlo : W + 65 ≤ R.locals) :
    Back l R p e below s args New1.yN len W (fun P a => a = #[.ref x, .ref b] ∧ P.U.heap = h ∧ P.cells + 1 ≤ R.cells ∧ P.slots + A.slots.size ≤ R.slots)
      (fun P _ v B => ∃ L, Q Z x A h v B.U.heap L ∧ B.locs = P.locs ++ L ∧ B.cells = P.cells + 1 ∧ B.slots = P.slots + A.slots.size) := by
  intro m meth c P g ig mk a X hg hsize hdg hW hn hp'
  obtain ⟨rfl, rfl, r1, r2⟩ := hp'
  have al : Z.vm.Alike P.U.vm := hZ.alike.trans X.warmed.alike
  obtain ⟨D, cfV, kV, iV, fV, hD, gV, stV, knV, obV, asV, slV⟩ := id V
  obtain ⟨D', cfC, kC, iC, fC, hD', gC, stC, -, -, asC, slC⟩ := id C
  cases hD.symm.trans hD'
  obtain ⟨D2, kD, e1, e2, e3, e4, e5⟩ := id E
  cases hD.symm.trans e1
  obtain ⟨c2, k2, i1, i2, i3, -⟩ := Cond.instantiable_spec wi
  cases e2.symm.trans i1
  cases e3.symm.trans i2
  obtain ⟨kU, u1, u2⟩ := al.2.2 _ _ e3
  have hB : Blank ST x D P.U := ⟨hD, ⟨knV, fun q hq => by rw [hq] at obV; cases obV⟩, by rw [al.findClass]; exact e2, kU, u1, by rw [u2]; exact i3, by rw [u2]; exact e5 i3⟩
  have F1 : Found ST "value" "[B" fV P.U := ⟨SBG.found_only al ⟨cfV, kV, iV, gV⟩, stV⟩
  have F2 : Found ST "coder" "B" fC P.U := ⟨SBG.found_only al ⟨cfC, kC, iC, gC⟩, stC⟩
  have hA : Ch b A P.U := ⟨⟨K.1, State.isArrayOf_alike al K.2.1, K.2.2, by omega⟩, hty⟩
  have hS : StaticIs P.U ST "COMPACT_STRINGS" "Z" (.int z) := by
    obtain ⟨cfS, iS, kS, fS, st, cS, t1, t2, t3, t4, t5, t6, t7⟩ := S
    exact StaticIs.there (s := { Z with heap := P.U.heap }) ⟨cfS, iS, kS, fS, st, cS, t1, t2, t3, t4, t5, (fun q => by rw [q] at t6; cases t6), t7⟩ al rfl
  obtain ⟨v, B, X', ⟨⟨hv, E', V', q1, q2, q3, q4, q5, q6, q7, q8, q9, q10, q11⟩, hl, hc, hs⟩, st⟩ := New1.pays x D fV fC b A z (tab_of (moved hZ hw)) hfr hlo m meth c P g ig mk _ X hg hsize hdg hW hn ⟨r1, r2, rfl, hB, F1, F2, hA, hS, hz, l0, l2, hp⟩
  have al' : Z.vm.Alike B.U.vm := hZ.alike.trans X'.warmed.alike
  have hsz : E'.slots.size = D.slots.size := by
    obtain ⟨-, -, -, kB, w1, w2, w3⟩ := q1
    obtain ⟨kB', y1, y2⟩ := al'.2.2 _ _ e3
    rw [q2.2.1] at w1
    cases w1.symm.trans y1
    rw [w3, e5 i3, y2]
  refine ⟨v, B, X', ⟨_, ⟨hv, ?_, ⟨by omega, fun y cy hy hn' => q10 y cy (by simpa using hn') hy, fun y cy hy => ?_⟩, q11, ⟨E', _, q1.1, by rw [q2.2.1]; exact e2, by rw [q2.2.1]; exact e3, by rw [q2.1]; exact obV, fun _ => by rw [hsz]; exact e5 i3⟩,
    ⟨E', cfV, kV, iV, fV, q1.1, gV, stV, by rw [q2.1]; exact knV, by rw [q2.1]; exact obV, by rw [q2.2.1]; exact asV, q3⟩, ⟨E', cfC, kC, iC, fC, q1.1, gC, stC, by rw [q2.1]; exact knV, by rw [q2.1]; exact obV, by rw [q2.2.1]; exact asC, q4⟩,
    ⟨V', ⟨q5.1, State.isArrayOf_alike al'.symm q5.2.1, q5.2.2.1⟩, q6, by rw [← al'.findClass]; exact q7, q8, fun j hj => by have := q9 j hj; rwa [Nat.zero_add] at this⟩, fun O n d w F n1 n2 => ?_⟩, hl, hc, hs⟩, st⟩
  · intro y hy
    simp only [List.mem_cons, List.not_mem_nil, or_false] at hy
    rcases hy with rfl | rfl <;> rfl
  · by_cases q : y = x
    · subst q
      cases hD.symm.trans hy
      exact ⟨E', q1.1, q2.2.1, q2.1, hsz⟩
    · exact ⟨cy, q10 y cy q hy, rfl, rfl, rfl⟩
  · obtain ⟨D3, cf, k, i, f, g1, g2, g3, g4, g5, g6, g7⟩ := F
    cases hD.symm.trans g1
    simp only [RoadKit.slotOf, g2, gV, gC, Option.map_some, Option.getD_some] at n1 n2
    exact ⟨E', cf, k, i, f, q1.1, g2, g3, by rw [q2.1]; exact g4, by rw [q2.1]; exact g5, by rw [q2.2.1]; exact g6, by rw [q2.2.2 f.slot (by simp [n1, n2])]; exact g7⟩
end StrChars.Road
namespace StrChars.Road
open Jvm Sem ClassFile Op Lib Jvm.Stand Jvm.Free Jvm.Free.XT
/-- WHAT COMES BACK, the byte[] as a list of values -/
def QA (Z : State) (x : Addr) (zn : Int32) (cs : List Int32) (h : Heap) (v : Option Value) (h' : Heap) (L : List Loc) : Prop := v = none ∧ (∀ y ∈ L, y.base = x) ∧ RoadKit.Keep h h' [x] ∧ h'.size = h.size + 1 ∧ RoadKit.Exa Z h' x ST ∧ RoadKit.Fld Z h' x ST "value" "[B" (.ref h.size) ∧ RoadKit.Fld Z h' x ST "coder" "B" (.int 0) ∧
  (∃ kb, Z.vm.findClass "[B" = some kb ∧ RoadKit.Arv Z h' h.size kb .byte zn (cs.map fun c => .int (lo8 c)) (.int 0)) ∧
  ∀ (O n d : String) (w : Value), RoadKit.Fld Z h x O n d w → RoadKit.slotOf Z O n d ≠ RoadKit.slotOf Z ST "value" "[B" → RoadKit.slotOf Z O n d ≠ RoadKit.slotOf Z ST "coder" "B" → RoadKit.Fld Z h' x O n d w
/-- **new String(chars) AT A CALL, THE ARRAYS AS LISTS**: the char[] at b holds cs, not empty, no char above 255 -/
theorem backArv {p : Program} {l : Launch} {e : Env} {R : Room} {s : State} {args : Array Value} {below : List Frame} {len W : Nat} {Z : State} {a0 : Array Value} {h : Heap} (hZ : Z.Warmed39 s.vm) (hw : ∀ d ∈ words, d.before a0 Z = true) {kI : Nat} (wi : (Jvm.Cond.instantiable ST kI).before a0 Z = true)
    {x b : Addr} {k : ClassId} {zn z : Int32} {cs : List Int32} {dv v0 c0 : Value} (E : RoadKit.Exa Z h x ST) (V : RoadKit.Fld Z h x ST "value" "[B" v0) (C : RoadKit.Fld Z h x ST "coder" "B" c0) (K : RoadKit.Arv Z h b k .char zn (cs.map Value.int) dv) (S : RoadKit.Sta Z h ST "COMPACT_STRINGS" "Z" (.int z)) (hz : ¬ z = 0)
    (hlen : zn.toNatClampNeg = cs.length) (h0 : 0 < cs.length) (hbig : cs.length ≤ 536870912) (hall : ∀ c ∈ cs, ¬ 255 < c) (hfr : 4 ≤ R.frames) (hlo : W + 65 ≤ R.locals) :
    Back l R p e below s args New1.yN len W (fun P a => a = #[.ref x, .ref b] ∧ P.U.heap = h ∧ P.cells + 1 ≤ R.cells ∧ P.slots + cs.length ≤ R.slots)
      (fun P _ v B => ∃ L, QA Z x zn cs h v B.U.heap L ∧ B.locs = P.locs ++ L ∧ B.cells = P.cells + 1 ∧ B.slots = P.slots + cs.length) := by
  obtain ⟨A, K1, K2, K3, K4, K5, K6⟩ := K
  have e : A.slots.size = cs.length := K3.trans hlen
  have hat : ∀ (i : Nat) (hi : i < cs.length), A.slots[i]? = some (.int cs[i]) := fun i hi => by rw [K5 i (by omega)]; simp [List.getD_eq_getElem?_getD, hi]
  have hcv : ∀ (i : Nat) (hi : i < cs.length), cv A i = cs[i] := fun i hi => by unfold cv; rw [hat i hi]
  have hty : Typed .char A := fun i v hv => by
    have hi : i < A.slots.size := (Array.getElem?_eq_some_iff.mp hv).1
    have q := K5 i hi
    rw [hv] at q
    rw [Option.some.inj q]
    exact K6 i hi
  refine Back.mono (back hZ hw wi E V C K1 hty S hz (by omega) (by omega) (fun i hi => by rw [hcv i (by omega)]; exact hall _ (List.getElem_mem _)) hfr hlo) (fun P a hp => ⟨hp.1, hp.2.1, hp.2.2.1, by rw [e]; exact hp.2.2.2⟩) (fun P a v B hp hq => ?_)
  obtain ⟨L, ⟨q1, q2, q3, q4, q5, q6, q7, ⟨V', v1, v2, v3, v4, v5⟩, q9⟩, hl, hc, hs⟩ := hq
  refine ⟨L, ⟨q1, q2, q3, q4, q5, q6, q7, ⟨V'.cls, v3, V', v1, rfl, by rw [v4, e, hlen], K4, fun i hi => ?_, fun i hi => ?_⟩, q9⟩, hl, hc, by rw [hs, e]⟩
  · have hi' : i < cs.length := by omega
    rw [v5 i (by omega), hcv i hi']; simp [List.getD_eq_getElem?_getD, hi']
  · have hi' : i < cs.length := by omega
    simp only [List.getD_eq_getElem?_getD, List.getElem?_map, List.getElem?_eq_getElem hi', Option.map_some, Option.getD_some]
    exact fits_lo8 _
end StrChars.Road
namespace StrChars.Road
open Jvm Sem ClassFile Op Lib Jvm.Stand Jvm.Free Jvm.Free.XT
/-- WHAT COMES BACK, in the writer's own shape -/
def QV (Z : State) (x : Addr) (N : Int32) (bs : List Int32) (h : Heap) (n0 : Nat) (v : Option Value) (h' : Heap) (L : List Loc) : Prop := v = none ∧ RoadKit.Fr n0 L ∧ RoadKit.Keep h h' [x] ∧ RoadKit.Exa Z h' x ST ∧ RoadKit.Fld Z h' x ST "coder" "B" (.int 0) ∧
  ∃ (t : Addr) (kb : ClassId), n0 ≤ t ∧ h.size ≤ t ∧ ¬ t = x ∧ RoadKit.Fld Z h' x ST "value" "[B" (.ref t) ∧ RoadKit.Arv Z h' t kb .byte N (bs.map Value.int) (.int 0)
/-- **new String(chars) AT A CALL, FOR THE WRITER**: a char[] of n known ints, each 0 to 255 -/
theorem backV {p : Program} {l : Launch} {e : Env} {R : Room} {s : State} {args : Array Value} {below : List Frame} {len W : Nat} {Z : State} {a0 : Array Value} {h : Heap} (hZ : Z.Warmed39 s.vm) (hw : ∀ d ∈ words, d.before a0 Z = true) {kI : Nat} (wi : (Jvm.Cond.instantiable ST kI).before a0 Z = true)
    {x b : Addr} {kC : ClassId} {cs bs : List Int32} {d v0 c0 : Value} {z N : Int32} {n n0 : Nat} (hx0 : n0 ≤ x) (hh0 : n0 ≤ h.size) (E : RoadKit.Exa Z h x ST) (V : RoadKit.Fld Z h x ST "value" "[B" v0) (C : RoadKit.Fld Z h x ST "coder" "B" c0) (K : RoadKit.Arv Z h b kC .char N (cs.map Value.int) d) (S : RoadKit.Sta Z h ST "COMPACT_STRINGS" "Z" (.int z)) (hz : ¬ z = 0)
    (hn : cs.length = n) (hN : N = Int32.ofNat n) (l0 : 0 < n) (l2 : n ≤ 4000) (hp : ∀ c ∈ cs, ¬ c < 0 ∧ ¬ (255 : Int32) < c) (hb : bs = cs.map (fun c => c.toInt8.toInt32)) (hfr : 4 ≤ R.frames) (hlo : W + 65 ≤ R.locals) :
    Back l R p e below s args (⟨"java/lang/String", "<init>", "([C)V"⟩ : MethodName) len W (fun P a => a = #[.ref x, .ref b] ∧ P.U.heap = h ∧ P.cells + 1 ≤ R.cells ∧ P.slots + n ≤ R.slots)
      (fun P _ v B => ∃ L, QV Z x N bs h n0 v B.U.heap L ∧ B.locs = P.locs ++ L ∧ B.cells = P.cells + 1 ∧ B.slots = P.slots + n) := by
  subst hn hN hb
  refine Back.mono (backArv hZ hw wi E V C K S hz (n32 (by omega)) l0 (by omega) (fun c hc => (hp c hc).2) hfr hlo) (fun P a hp => hp) (fun P a v B hp hq => ?_)
  obtain ⟨L, ⟨q1, q2, q3, q4, q5, q6, q7, ⟨kb, v1, v2⟩, q9⟩, hl, hc, hs⟩ := hq
  exact ⟨L, ⟨q1, fun y hy => by rw [q2 y hy]; exact hx0, q3, q5, q7, h.size, kb, hh0, Nat.le_refl _, Nat.ne_of_gt E.lt, q6, by rw [List.map_map]; exact v2⟩, hl, hc, hs⟩
end StrChars.Road
namespace StrChars
open Jvm Sem ClassFile Op Lib Jvm.Stand Jvm.Free.XT Jvm.Free.ALB Jvm.Free.JM Jvm.Free
open Jvm.Lib.Cold (StaticIs)
def hi8 (x : Int32) : Int32 := lo8 (x >>> ((8 : Int32) &&& 31))
/-- what StringUTF16.getChar makes of two bytes -/
def pairCh (u v : Int32) : Int32 := (((u &&& 255) <<< ((0 : Int32) &&& 31)) ||| ((v &&& 255) <<< ((8 : Int32) &&& 31))).toUInt32.toUInt16.toUInt32.toInt32
theorem lo8_and (x : Int32) : (lo8 x &&& 255).toBitVec.toNat = x.toBitVec.toNat % 256 := by
  have h : (lo8 x).toBitVec = (x.toBitVec.signExtend 8).signExtend 32 := by rw [lo8, Int8.toBitVec_toInt32, Int32.toBitVec_toInt8]
  rw [Int32.toBitVec_and, BitVec.toNat_and, h]
  have e : ((x.toBitVec.signExtend 8).signExtend 32).toNat % 256 = x.toBitVec.toNat % 256 := by
    rw [BitVec.toNat_signExtend]
    have hlt := x.toBitVec.isLt
    simp only [BitVec.toNat_setWidth, BitVec.toNat_signExtend]
    split <;> split <;> omega
  rw [← e]
  exact Nat.and_two_pow_sub_one_eq_mod _ 8
theorem pair_says {c : Int32} (h0 : ¬ c < 0) (h1 : ¬ 65535 < c) : pairCh (lo8 c) (hi8 c) = c := by
  rw [Int32.lt_iff_toInt_lt] at h0 h1
  have e0 : (0 : Int32).toInt = 0 := rfl
  have e1 : (65535 : Int32).toInt = 65535 := rfl
  have hc : c.toInt = c.toBitVec.toNat := by
    have := c.toBitVec.isLt
    have e : c.toInt = c.toBitVec.toInt := rfl
    rw [e] at h0 h1
    rw [e]
    rw [BitVec.toInt_eq_toNat_cond] at h0 h1 ⊢
    split at h0 <;> split <;> omega
  have hn : c.toBitVec.toNat < 65536 := by omega
  have a1 := lo8_and c
  have a2 : (hi8 c &&& 255).toBitVec.toNat = c.toBitVec.toNat / 256 := by
    rw [hi8, lo8_and]
    have e : ((8 : Int32) &&& 31) = 8 := by decide
    rw [e, Int32.toBitVec_shiftRight]
    have e2 : ((8 : Int32).toBitVec.smod 32) = 8#32 := by decide
    rw [e2, BitVec.sshiftRight_eq', BitVec.toNat_sshiftRight_of_msb_false (by rw [BitVec.msb_eq_false_iff_two_mul_lt]; omega)]
    show c.toBitVec.toNat >>> 8 % 256 = _
    rw [Nat.shiftRight_eq_div_pow]
    omega
  unfold pairCh
  apply Int32.toBitVec_inj.mp
  apply BitVec.eq_of_toNat_eq
  have f0 : ((0 : Int32) &&& 31) = 0 := by decide
  have f8 : ((8 : Int32) &&& 31) = 8 := by decide
  rw [f0, f8]
  have g : (((lo8 c &&& 255) <<< (0 : Int32)) ||| ((hi8 c &&& 255) <<< (8 : Int32))).toBitVec.toNat = c.toBitVec.toNat := by
    rw [Int32.toBitVec_or, Int32.toBitVec_shiftLeft, Int32.toBitVec_shiftLeft]
    have s0 : ((0 : Int32).toBitVec.smod 32) = 0#32 := by decide
    have s8 : ((8 : Int32).toBitVec.smod 32) = 8#32 := by decide
    rw [s0, s8, BitVec.toNat_or]
    simp only [BitVec.shiftLeft_eq', BitVec.toNat_shiftLeft, a1, a2]
    show (c.toBitVec.toNat % 256) <<< 0 % 2 ^ 32 ||| (c.toBitVec.toNat / 256) <<< 8 % 2 ^ 32 = _
    rw [Nat.shiftLeft_zero, Nat.mod_eq_of_lt (show c.toBitVec.toNat % 256 < 2 ^ 32 by omega), Nat.mod_eq_of_lt (show (c.toBitVec.toNat / 256) <<< 8 < 2 ^ 32 by rw [Nat.shiftLeft_eq]; omega), Nat.or_comm, ← Nat.shiftLeft_add_eq_or_of_lt (by omega), Nat.shiftLeft_eq]
    omega
  show BitVec.toNat (((((lo8 c &&& 255) <<< (0 : Int32)) ||| ((hi8 c &&& 255) <<< (8 : Int32))).toBitVec.setWidth 16).setWidth 32) = _
  rw [BitVec.toNat_setWidth, BitVec.toNat_setWidth, g]
  omega
end StrChars
namespace StrChars
open Jvm Sem ClassFile Op Lib Jvm.Stand Jvm.Free.XT Jvm.Free.ALB Jvm.Free.JM Jvm.Free
open Jvm.Lib.Cold (StaticIs)
/-- the array's cell V codes the n chars f 0 .. f (n - 1) by the coder cd, as the JDK does: coder 1 just where some char is above 255 -/
def Cod (cd : Int32) (n : Nat) (f : Nat → Int32) (V : Cell) : Prop := (cd = 0 ∧ V.slots.size = n ∧ ∀ j, j < n → V.slots[j]? = some (.int (lo8 (f j))) ∧ ¬ 255 < f j) ∨ (cd = 1 ∧ V.slots.size = 2 * n ∧ (∀ j, j < n → V.slots[2 * j]? = some (.int (lo8 (f j))) ∧ V.slots[2 * j + 1]? = some (.int (hi8 (f j)))) ∧ ∃ j, j < n ∧ 255 < f j)
/-- **x is a String of the n chars f 0 .. f (n - 1)**, Latin-1 or UTF-16; its array at t has the cell V -/
def Txt (x t : Addr) (V : Cell) (cd : Int32) (n : Nat) (f : Nat → Int32) (U : State) : Prop := Exact "java/lang/String" x U ∧ Has x "java/lang/String" "value" "[B" (.ref t) U ∧ Has x "java/lang/String" "coder" "B" (.int cd) U ∧ XT.Arr .byte t V U ∧ Cod cd n f V ∧ ∀ j, j < n → ¬ f j < 0 ∧ ¬ 65535 < f j
theorem Txt.mv {x t : Addr} {V : Cell} {cd : Int32} {n : Nat} {f : Nat → Int32} {U U' : State} (h : Txt x t V cd n f U) (hal : U.vm.Alike U'.vm) (hh : U'.heap = U.heap) : Txt x t V cd n f U' := ⟨h.1.mv hal hh, h.2.1.mv hal hh, h.2.2.1.mv hal hh, h.2.2.2.1.mv hal hh, h.2.2.2.2⟩
end StrChars
namespace StrChars.Road
open Jvm Sem ClassFile Op Lib Jvm.Stand Jvm.Free Jvm.Free.XT
open Jvm.Lib.Cold (StaticIs)
theorem consq {a : Array Value} {s : State} {c : Jvm.Cond} {L : List Jvm.Cond} (h0 : c.before a s = true) (h : ∀ w ∈ L, w.before a s = true) : ∀ w ∈ c :: L, w.before a s = true := fun w hw => (List.mem_cons.mp hw).elim (fun e => e ▸ h0) (h w)
/-- the bytes of the chars cs, low before high -/
def wideBytes : List Int32 → List Value
  | [] => []
  | c :: cs => .int (lo8 c) :: .int (hi8 c) :: wideBytes cs
theorem wide_lo (d : Value) : ∀ (cs : List Int32) (j : Nat), j < cs.length → (wideBytes cs).getD (2 * j) d = .int (lo8 (cs.getD j 0))
  | [], j, h => absurd h (Nat.not_lt_zero j)
  | c :: cs, 0, _ => rfl
  | c :: cs, j + 1, h => by
    have q := wide_lo d cs j (by simpa using h)
    rw [show 2 * (j + 1) = 2 * j + 1 + 1 from by omega]
    simpa [wideBytes] using q
theorem wide_hi (d : Value) : ∀ (cs : List Int32) (j : Nat), j < cs.length → (wideBytes cs).getD (2 * j + 1) d = .int (hi8 (cs.getD j 0))
  | [], j, h => absurd h (Nat.not_lt_zero j)
  | c :: cs, 0, _ => rfl
  | c :: cs, j + 1, h => by
    have q := wide_hi d cs j (by simpa using h)
    rw [show 2 * (j + 1) + 1 = 2 * j + 1 + 1 + 1 from by omega]
    simpa [wideBytes] using q
theorem low_at (d : Value) (cs : List Int32) (j : Nat) (h : j < cs.length) : (cs.map fun c => Value.int (lo8 c)).getD j d = .int (lo8 (cs.getD j 0)) := by
  simp [List.getD_eq_getElem?_getD, h]
/-- an array of N2 bytes vs codes the chars cs by the coder cd -/
def CodA (cs : List Int32) (cd N2 : Int32) (vs : List Value) : Prop := (cd = 0 ∧ N2 = Int32.ofNat cs.length ∧ vs = (cs.map fun c => Value.int (lo8 c)) ∧ ∀ c ∈ cs, ¬ 255 < c) ∨ (cd = 1 ∧ N2 = Int32.ofNat (2 * cs.length) ∧ vs = wideBytes cs ∧ ∃ c ∈ cs, 255 < c)
theorem CodA.cod {cs : List Int32} {cd N2 : Int32} {vs : List Value} {V : Cell} (h : CodA cs cd N2 vs) (hn : 2 * cs.length < 2 ^ 31) (hs : V.slots.size = N2.toNatClampNeg) (hv : RoadKit.Has V vs (.int 0)) : Cod cd cs.length (fun j => cs.getD j 0) V := by
  rcases h with ⟨rfl, rfl, rfl, h⟩ | ⟨rfl, rfl, rfl, c, hc, hw⟩
  · rw [n32 (by omega)] at hs
    exact Or.inl ⟨rfl, hs, fun j hj => ⟨by rw [hv j (by omega), low_at _ _ _ hj], by
      have e : cs.getD j 0 = cs[j] := by simp [List.getD_eq_getElem?_getD, hj]
      show ¬ 255 < cs.getD j 0
      rw [e]; exact h _ (List.getElem_mem _)⟩⟩
  · rw [n32 (by omega)] at hs
    obtain ⟨j, hj, rfl⟩ := List.getElem_of_mem hc
    exact Or.inr ⟨rfl, hs, fun j hj => ⟨by rw [hv _ (by omega), wide_lo _ _ _ hj], by rw [hv _ (by omega), wide_hi _ _ _ hj]⟩, j, hj, by
      have e : cs.getD j 0 = cs[j] := by simp [List.getD_eq_getElem?_getD, hj]
      show 255 < cs.getD j 0
      rw [e]; exact hw⟩
/-- an object of exactly java/lang/String, its two fields found: as the laws ask it -/
theorem strObj {Z U : State} {a0 : Array Value} {kI : Nat} (wi : (Jvm.Cond.instantiable ST kI).before a0 Z = true) (al : Z.vm.Alike U.vm) {x : Addr} {v0 c0 : Value} (E : RoadKit.Exa Z U.heap x ST) (V : RoadKit.Fld Z U.heap x ST "value" "[B" v0) (C : RoadKit.Fld Z U.heap x ST "coder" "B" c0) :
    ∃ (D : Cell) (fV fC : Field), Blank ST x D U ∧ Found ST "value" "[B" fV U ∧ Found ST "coder" "B" fC U ∧ D.slots[fV.slot]? = some v0 ∧ D.slots[fC.slot]? = some c0 ∧ RoadKit.slotOf Z ST "value" "[B" = fV.slot ∧ RoadKit.slotOf Z ST "coder" "B" = fC.slot := by
  obtain ⟨D, cfV, kV, iV, fV, hD, gV, stV, knV, obV, asV, slV⟩ := V
  obtain ⟨D', cfC, kC, iC, fC, hD', gC, stC, -, -, asC, slC⟩ := C
  cases hD.symm.trans hD'
  obtain ⟨D2, kD, e1, e2, e3, e4, e5⟩ := E
  cases hD.symm.trans e1
  obtain ⟨c2, k2, i1, i2, i3, -⟩ := Cond.instantiable_spec wi
  cases e2.symm.trans i1
  cases e3.symm.trans i2
  obtain ⟨kU, u1, u2⟩ := al.2.2 _ _ e3
  exact ⟨D, fV, fC, ⟨hD, ⟨knV, fun q hq => by rw [hq] at obV; cases obV⟩, by rw [al.findClass]; exact e2, kU, u1, by rw [u2]; exact i3, by rw [u2]; exact e5 i3⟩, ⟨SBG.found_only al ⟨cfV, kV, iV, gV⟩, stV⟩, ⟨SBG.found_only al ⟨cfC, kC, iC, gC⟩, stC⟩, slV, slC, by simp [RoadKit.slotOf, gV], by simp [RoadKit.slotOf, gC]⟩
theorem sta_is {Z U : State} (al : Z.vm.Alike U.vm) {C n d : String} {v : Value} (S : RoadKit.Sta Z U.heap C n d v) : StaticIs U C n d v := by
  obtain ⟨cfS, iS, kS, fS, st, cS, t1, t2, t3, t4, t5, t6, t7⟩ := S
  exact StaticIs.there (s := { Z with heap := U.heap }) ⟨cfS, iS, kS, fS, st, cS, t1, t2, t3, t4, t5, (fun q => by rw [q] at t6; cases t6), t7⟩ al rfl
end StrChars.Road
namespace StrChars
open Jvm Sem ClassFile Op Lib Jvm.Stand Jvm.Free.XT Jvm.Free.ALB Jvm.Free.JM Jvm.Free
open Jvm.Lib.Cold (StaticIs)
/-- what place i of a byte[]'s cell holds -/
def yv (A : Cell) (i : Nat) : Int32 := match A.slots[i]? with | some (.int x) => x | _ => 0
theorem yv_get {a : Addr} {A : Cell} {U : State} (h : XT.Arr .byte a A U) (ht : Typed .byte A) {i : Nat} (hi : i < A.slots.size) : A.slots[i]? = some (.int (yv A i)) := by
  have e := Array.getElem?_eq_getElem hi
  have f := ht i _ e
  unfold yv; rw [e]
  generalize A.slots[i] = v at f
  cases v <;> simp [fits] at f ⊢
/-- the two arrays are equal, place for place -/
def EqC (A B : Cell) : Prop := A.slots.size = B.slots.size ∧ ∀ i, i < A.slots.size → yv A i = yv B i
/-- a boolean that says whether p -/
def Says01 (q : Prop) (r : Option Value) (s u : State) : Prop := ∃ v : Int32, r = some (.int v) ∧ u.heap = s.heap ∧ ((v = 1 ∧ q) ∨ (v = 0 ∧ ¬ q))
theorem Says01.mv {q : Prop} : ∀ r (U U' V V' : State), U'.heap = U.heap → V.vm.Alike V'.vm → V'.heap = V.heap → Says01 q r U V → Says01 q r U' V' :=
  fun r U U' V V' h1 _ h2 ⟨v, a, b, c⟩ => ⟨v, a, by rw [h1, h2]; exact b, c⟩
namespace LEq
def yN : MethodName := ⟨"java/lang/StringLatin1", "equals", "([B[B)Z"⟩
abbrev yB : ByteArray := jdk_43_method_13_code
theorem d0 : decode yB 0 = .ok (.aload_n 0, 1) := by decide +kernel
theorem d1 : decode yB 1 = .ok (.arraylength, 1) := by decide +kernel
theorem d2 : decode yB 2 = .ok (.aload_n 1, 1) := by decide +kernel
theorem d3 : decode yB 3 = .ok (.arraylength, 1) := by decide +kernel
theorem d4 : decode yB 4 = .ok (.if_icmp (.ne) 30, 3) := by decide +kernel
theorem d7 : decode yB 7 = .ok (.iconst 0, 1) := by decide +kernel
theorem d8 : decode yB 8 = .ok (.istore_n 2, 1) := by decide +kernel
theorem d9 : decode yB 9 = .ok (.iload_n 2, 1) := by decide +kernel
theorem d10 : decode yB 10 = .ok (.aload_n 0, 1) := by decide +kernel
theorem d11 : decode yB 11 = .ok (.arraylength, 1) := by decide +kernel
theorem d12 : decode yB 12 = .ok (.if_icmp (.ge) 20, 3) := by decide +kernel
theorem d15 : decode yB 15 = .ok (.aload_n 0, 1) := by decide +kernel
theorem d16 : decode yB 16 = .ok (.iload_n 2, 1) := by decide +kernel
theorem d17 : decode yB 17 = .ok (.baload, 1) := by decide +kernel
theorem d18 : decode yB 18 = .ok (.aload_n 1, 1) := by decide +kernel
theorem d19 : decode yB 19 = .ok (.iload_n 2, 1) := by decide +kernel
theorem d20 : decode yB 20 = .ok (.baload, 1) := by decide +kernel
theorem d21 : decode yB 21 = .ok (.if_icmp (.eq) 5, 3) := by decide +kernel
theorem d24 : decode yB 24 = .ok (.iconst 0, 1) := by decide +kernel
theorem d25 : decode yB 25 = .ok (.ireturn, 1) := by decide +kernel
theorem d26 : decode yB 26 = .ok (.iinc 2 1, 3) := by decide +kernel
theorem d29 : decode yB 29 = .ok (.goto (-20), 3) := by decide +kernel
theorem d32 : decode yB 32 = .ok (.iconst 1, 1) := by decide +kernel
theorem d33 : decode yB 33 = .ok (.ireturn, 1) := by decide +kernel
theorem d34 : decode yB 34 = .ok (.iconst 0, 1) := by decide +kernel
theorem d35 : decode yB 35 = .ok (.ireturn, 1) := by decide +kernel
def site : List Cond := []
def tab : Cond := tabOf yN yB 3 (some .boolean) site
def P (a : Addr) (A : Cell) (b : Addr) (B : Cell) (args : Array Value) (s : State) : Prop := args = #[.ref a, .ref b] ∧ XT.Arr .byte a A s ∧ Typed .byte A ∧ XT.Arr .byte b B s ∧ Typed .byte B
/-- whether two byte[] are equal, place for place -/
theorem law (l : Launch) (a : Addr) (A : Cell) (b : Addr) (B : Cell) : Law l yN 2 2 0 0 yB 3 (some .boolean) site (P a A b B) (Says01 (EqC A B)) [] 0 0 := by
  refine Law.of_walk (plainFor_of_name (by decide +kernel)) (by decide +kernel) (by decide +kernel) (by decide) (fun _ _ h => by rw [h.1]; rfl) (fun _ U U' hal hh h => ⟨h.1, h.2.1.mv hal hh, h.2.2.1, h.2.2.2.1.mv hal hh, h.2.2.2.2⟩) (fun r U U' V V' h1 hal h2 h => Says01.mv r U U' V V' h1 hal h2 h) ?_
  intro p e s m args below meth c s₁ X0 hexec hbytes hml hret hlk hnm hown hh0 W hP
  obtain ⟨rfl, hA, tA, hB, tB⟩ := hP
  have a31 := hA.2.2.2
  have b31 := hB.2.2.2
  have hA0 := hA.mv X0.warmed.alike hh0
  have hB0 := hB.mv X0.warmed.alike hh0
  have c1 : Steps p.tables e below (s₁.setTop (entryFrame m #[.ref a, .ref b] 3)) (s₁.setTop (mkF m 0 #[.val (.ref a), .val (.ref b), .unset] [])) := entry rfl
  have c2 : Steps p.tables e below (s₁.setTop (entryFrame m #[.ref a, .ref b] 3)) (s₁.setTop (mkF m 4 #[.val (.ref a), .val (.ref b), .unset] [.int (Int32.ofNat B.slots.size), .int (Int32.ofNat A.slots.size)])) := c1.trans (by
    refine XS.aloadN X0.here hexec rfl (hb hbytes d0) rfl rfl ?_
    refine X0.alen hexec hA0 rfl rfl (hb hbytes d1) ?_
    refine XS.aloadN X0.here hexec rfl (hb hbytes d2) rfl rfl ?_
    refine X0.alen hexec hB0 rfl rfl (hb hbytes d3) ?_
    exact Steps.refl _)
  by_cases hs : A.slots.size = B.slots.size
  · have c3 : Steps p.tables e below (s₁.setTop (entryFrame m #[.ref a, .ref b] 3)) (s₁.setTop (mkF m 9 #[.val (.ref a), .val (.ref b), .val (.int 0)] [])) := c2.trans (by
      refine XS.icmpNo X0.here hexec rfl (hb hbytes d4) rfl (ii_ne_f (by rw [hs])) ?_
      refine iconstV X0.here hexec rfl 0 (hb hbytes d7) (by decide) ?_
      refine XS.istoreN X0.here hexec rfl (hb hbytes d8) rfl rfl ?_
      exact Steps.refl _)
    have loop : ∀ (r i : Nat), i + r = A.slots.size → (∀ j, j < i → yv A j = yv B j) → Steps p.tables e below (s₁.setTop (entryFrame m #[.ref a, .ref b] 3)) (s₁.setTop (mkF m 9 #[.val (.ref a), .val (.ref b), .val (.int (Int32.ofNat i))] [])) → ∃ (pc : Nat) (Ls : Array Slot) (v : Int32), (pc = 25 ∨ pc = 33) ∧ ((v = 1 ∧ EqC A B) ∨ (v = 0 ∧ ¬ EqC A B)) ∧ Steps p.tables e below (s₁.setTop (entryFrame m #[.ref a, .ref b] 3)) (s₁.setTop (mkF m pc Ls [.int v])) := by
      intro r
      induction r with
      | zero =>
        intro i hi he cl
        exact ⟨33, _, 1, Or.inr rfl, Or.inl ⟨rfl, hs, fun j hj => he j (by omega)⟩, cl.trans (by
          refine XS.iloadN X0.here hexec rfl (hb hbytes d9) rfl ?_
          refine XS.aloadN X0.here hexec rfl (hb hbytes d10) rfl rfl ?_
          refine X0.alen hexec hA0 rfl rfl (hb hbytes d11) ?_
          refine XS.icmpYes X0.here hexec rfl (pc0 := 12) rfl (hb hbytes d12) rfl (ii_ge_t (nlt32 (by omega) (by omega))) (by decide) rfl ?_
          refine iconstV X0.here hexec rfl 1 (hb hbytes d32) (by decide) ?_
          exact Steps.refl _)⟩
      | succ r ih =>
        intro i hi he cl
        have c4 : Steps p.tables e below (s₁.setTop (entryFrame m #[.ref a, .ref b] 3)) (s₁.setTop (mkF m 21 #[.val (.ref a), .val (.ref b), .val (.int (Int32.ofNat i))] [.int (yv B i), .int (yv A i)])) := cl.trans (by
          refine XS.iloadN X0.here hexec rfl (hb hbytes d9) rfl ?_
          refine XS.aloadN X0.here hexec rfl (hb hbytes d10) rfl rfl ?_
          refine X0.alen hexec hA0 rfl rfl (hb hbytes d11) ?_
          refine XS.icmpNo X0.here hexec rfl (hb hbytes d12) rfl (ii_ge_f (lt32 (by omega) (by omega))) ?_
          refine XS.aloadN X0.here hexec rfl (hb hbytes d15) rfl rfl ?_
          refine XS.iloadN X0.here hexec rfl (hb hbytes d16) rfl ?_
          refine X0.aget hexec hA0 rfl (yv_get hA tA (i := i) (by omega)) rfl rfl (hb hbytes d17) ?_
          refine XS.aloadN X0.here hexec rfl (hb hbytes d18) rfl rfl ?_
          refine XS.iloadN X0.here hexec rfl (hb hbytes d19) rfl ?_
          refine X0.aget hexec hB0 rfl (yv_get hB tB (i := i) (by omega)) rfl rfl (hb hbytes d20) ?_
          exact Steps.refl _)
        by_cases hv : yv A i = yv B i
        · have c5 : Steps p.tables e below (s₁.setTop (entryFrame m #[.ref a, .ref b] 3)) (s₁.setTop (mkF m 9 #[.val (.ref a), .val (.ref b), .val (.int (Int32.ofNat i + 1))] [])) := c4.trans (by
            refine XS.icmpYes X0.here hexec rfl (pc0 := 21) rfl (hb hbytes d21) rfl (ii_eq_t hv) (by decide) rfl ?_
            refine iincV X0.here hexec rfl 1 (hb hbytes d26) (by decide) rfl rfl ?_
            refine XS.goto X0.here hexec rfl (pc0 := 29) rfl (hb hbytes d29) (by decide) rfl ?_
            exact Steps.refl _)
          rw [succ32] at c5
          exact ih (i + 1) (by omega) (fun j hj => by
            by_cases e : j = i
            · rw [e]; exact hv
            · exact he j (by omega)) c5
        · exact ⟨25, _, 0, Or.inl rfl, Or.inr ⟨rfl, fun q => hv (q.2 i (by omega))⟩, c4.trans (by
            refine XS.icmpNo X0.here hexec rfl (hb hbytes d21) rfl (ii_eq_f hv) ?_
            refine iconstV X0.here hexec rfl 0 (hb hbytes d24) (by decide) ?_
            exact Steps.refl _)⟩
    obtain ⟨pc, Ls, v, hpc, hv, cz⟩ := loop A.slots.size 0 (by omega) (fun j hj => absurd hj (Nat.not_lt_zero j)) c3
    have nv : narrow .boolean (.int v) = .int v := by rcases hv with ⟨rfl, -⟩ | ⟨rfl, -⟩ <;> rfl
    rcases hpc with rfl | rfl
    · exact ⟨s₁, some (.int v), _, _, _, X0, rfl, rfl, rfl, (fun h => by cases h), ⟨v, rfl, hh0, hv⟩, fun fs hl => cz.trans (X0.ireturnOut hexec hret nv (Or.inr (Or.inl rfl)) (hb hbytes d25) hl)⟩
    · exact ⟨s₁, some (.int v), _, _, _, X0, rfl, rfl, rfl, (fun h => by cases h), ⟨v, rfl, hh0, hv⟩, fun fs hl => cz.trans (X0.ireturnOut hexec hret nv (Or.inr (Or.inl rfl)) (hb hbytes d33) hl)⟩
  · have c3 : Steps p.tables e below (s₁.setTop (entryFrame m #[.ref a, .ref b] 3)) (s₁.setTop (mkF m 35 #[.val (.ref a), .val (.ref b), .unset] [.int 0])) := c2.trans (by
      refine XS.icmpYes X0.here hexec rfl (pc0 := 4) rfl (hb hbytes d4) rfl (ii_ne_t (ne32 a31 b31 hs)) (by decide) rfl ?_
      refine iconstV X0.here hexec rfl 0 (hb hbytes d34) (by decide) ?_
      exact Steps.refl _)
    exact ⟨s₁, some (.int 0), _, _, _, X0, rfl, rfl, rfl, (fun h => by cases h), ⟨0, rfl, hh0, Or.inr ⟨rfl, fun q => hs q.1⟩⟩, fun fs hl => c3.trans (X0.ireturnOut hexec hret rfl (Or.inr (Or.inl rfl)) (hb hbytes d35) hl)⟩
end LEq
theorem Cod.ty {cd : Int32} {n : Nat} {f : Nat → Int32} {V : Cell} (h : Cod cd n f V) : Typed .byte V := fun i v hv => by
  have hi : i < V.slots.size := (Array.getElem?_eq_some_iff.mp hv).1
  rcases h with ⟨-, k1, k2⟩ | ⟨-, k1, k2, -⟩
  · rw [(k2 i (by omega)).1] at hv; cases hv; exact fits_lo8 _
  · rcases Nat.mod_two_eq_zero_or_one i with e | e
    · obtain ⟨j, rfl⟩ : ∃ j, i = 2 * j := ⟨i / 2, by omega⟩
      rw [(k2 j (by omega)).1] at hv; cases hv; exact fits_lo8 _
    · obtain ⟨j, rfl⟩ : ∃ j, i = 2 * j + 1 := ⟨i / 2, by omega⟩
      rw [(k2 j (by omega)).2] at hv; cases hv; exact fits_lo8 _
/-- the same text -/
def SameT (n : Nat) (f : Nat → Int32) (k : Nat) (g : Nat → Int32) : Prop := n = k ∧ ∀ j, j < n → f j = g j
theorem lo8_inj {x y : Int32} (h0 : ¬ x < 0) (h1 : ¬ 255 < x) (k0 : ¬ y < 0) (k1 : ¬ 255 < y) (h : lo8 x = lo8 y) : x = y := by
  rw [← lo8_mask h0 h1, ← lo8_mask k0 k1, h]
/-- arrays coded by one coder are equal just where the texts are -/
theorem Cod.eqv {cd : Int32} {n k : Nat} {f g : Nat → Int32} {V V' : Cell} (h : Cod cd n f V) (h' : Cod cd k g V') (hf : ∀ j, j < n → ¬ f j < 0 ∧ ¬ 65535 < f j) (hg : ∀ j, j < k → ¬ g j < 0 ∧ ¬ 65535 < g j) : EqC V V' ↔ SameT n f k g := by
  have yvv : ∀ {W : Cell} {i : Nat} {x : Int32}, W.slots[i]? = some (.int x) → yv W i = x := fun q => by unfold yv; rw [q]
  rcases h with ⟨rfl, k1, k2⟩ | ⟨rfl, k1, k2, -⟩
  · rcases h' with ⟨-, m1, m2⟩ | ⟨e, -⟩
    · constructor
      · rintro ⟨e1, e2⟩
        refine ⟨by omega, fun j hj => ?_⟩
        have q := e2 j (by omega)
        rw [yvv (k2 j hj).1, yvv (m2 j (by omega)).1] at q
        exact lo8_inj (hf j hj).1 (k2 j hj).2 (hg j (by omega)).1 (m2 j (by omega)).2 q
      · rintro ⟨rfl, e2⟩
        refine ⟨by omega, fun j hj => ?_⟩
        rw [yvv (k2 j (by omega)).1, yvv (m2 j (by omega)).1, e2 j (by omega)]
    · exact absurd e (by decide)
  · rcases h' with ⟨e, -⟩ | ⟨-, m1, m2, -⟩
    · exact absurd e (by decide)
    · constructor
      · rintro ⟨e1, e2⟩
        refine ⟨by omega, fun j hj => ?_⟩
        have q1 := e2 (2 * j) (by omega)
        have q2 := e2 (2 * j + 1) (by omega)
        rw [yvv (k2 j hj).1, yvv (m2 j (by omega)).1] at q1
        rw [yvv (k2 j hj).2, yvv (m2 j (by omega)).2] at q2
        rw [← pair_says (hf j hj).1 (hf j hj).2, ← pair_says (hg j (by omega)).1 (hg j (by omega)).2, q1, q2]
      · rintro ⟨rfl, e2⟩
        refine ⟨by omega, fun i hi => ?_⟩
        rcases Nat.mod_two_eq_zero_or_one i with e | e
        · obtain ⟨j, rfl⟩ : ∃ j, i = 2 * j := ⟨i / 2, by omega⟩
          rw [yvv (k2 j (by omega)).1, yvv (m2 j (by omega)).1, e2 j (by omega)]
        · obtain ⟨j, rfl⟩ : ∃ j, i = 2 * j + 1 := ⟨i / 2, by omega⟩
          rw [yvv (k2 j (by omega)).2, yvv (m2 j (by omega)).2, e2 j (by omega)]
/-- two codings differ: so do the texts -/
theorem Cod.dif {cd cd' : Int32} {n k : Nat} {f g : Nat → Int32} {V V' : Cell} (h : Cod cd n f V) (h' : Cod cd' k g V') (hne : ¬ cd = cd') : ¬ SameT n f k g := by
  rintro ⟨rfl, e⟩
  rcases h with ⟨rfl, -, k2⟩ | ⟨rfl, -, -, j, hj, hw⟩
  · rcases h' with ⟨rfl, -⟩ | ⟨-, -, -, j, hj, hw⟩
    · exact hne rfl
    · exact (k2 j hj).2 (by rw [e j hj]; exact hw)
  · rcases h' with ⟨-, -, m2⟩ | ⟨rfl, -⟩
    · exact (m2 j hj).2 (by rw [← e j hj]; exact hw)
    · exact hne rfl
/-- an object of exactly C is an instance of C -/
theorem cinst {p : Program} {l : Launch} {e : Env} {R : Room} {s : State} {m : MethodId} {args : Array Value} {below : List Frame} {meth : Method} {c : Code} {T : State} {locs : List Loc} {cells slots : Nat} (X : Stand p l e R s m args below meth c T locs cells slots) (hexec : p.tables.exec = Jvm.exec) {own C : String} {index : Nat} (hown : s.vm.findClass own = some m.cls) (hlink : (Cond.classLink own index C).before args s = true) {a : Addr} (hE : Exact C a T)
    {g : JFrame} (hg : g.method = m) {rest : List Value} (hstack : g.stack = .ref a :: rest) (hdg : decode c.code g.pc = .ok (.instanceof index, 3)) :
    ∃ T', Stand p l e R s m args below meth c T' locs cells slots ∧ T'.heap = T.heap ∧ ∀ target, Steps p.tables e below (T'.setTop { g with pc := g.pc + 3, stack := .int 1 :: rest }) target → Steps p.tables e below (T.setTop g) target := by
  obtain ⟨cB, h1, D, h2, h3, h4⟩ := hE
  have h1' : s.vm.findClass C = some cB := by rw [← X.warmed.alike.findClass]; exact h1
  obtain ⟨vm', X', st⟩ := X.instanceofYes hexec hown hlink h2 h4 h1' (by rw [h3]; exact Jvm.Free.SB.assignable_self _ _) hg hstack hdg
  exact ⟨_, X', rfl, st⟩
theorem cself {p : Program} {l : Launch} {e : Env} {R : Room} {s : State} {m : MethodId} {args : Array Value} {below : List Frame} {meth : Method} {c : Code} {T : State} {locs : List Loc} {cells slots : Nat} (X : Stand p l e R s m args below meth c T locs cells slots) (hexec : p.tables.exec = Jvm.exec) {own C : String} {index : Nat} (hown : s.vm.findClass own = some m.cls) (hlink : (Cond.classLink own index C).before args s = true) {a : Addr} (hE : Exact C a T)
    {g : JFrame} (hg : g.method = m) {rest : List Value} (hstack : g.stack = .ref a :: rest) (hdg : decode c.code g.pc = .ok (.checkcast index, 3)) :
    ∃ T', Stand p l e R s m args below meth c T' locs cells slots ∧ T'.heap = T.heap ∧ ∀ target, Steps p.tables e below (T'.setTop { g with pc := g.pc + 3, stack := .ref a :: rest }) target → Steps p.tables e below (T.setTop g) target := by
  obtain ⟨cB, h1, D, h2, h3, h4⟩ := hE
  have h1' : s.vm.findClass C = some cB := by rw [← X.warmed.alike.findClass]; exact h1
  obtain ⟨vm', X', st⟩ := X.checkcastYes hexec hown hlink h2 h4 h1' (by rw [h3]; exact Jvm.Free.SB.assignable_self _ _) hg hstack hdg
  exact ⟨_, X', rfl, fun t h => st t (by rw [← hstack] at h; exact h)⟩
namespace SEq
def yN : MethodName := ⟨"java/lang/String", "equals", "(Ljava/lang/Object;)Z"⟩
abbrev yB : ByteArray := jdk_42_method_66_code
theorem d0 : decode yB 0 = .ok (.aload_n 0, 1) := by decide +kernel
theorem d1 : decode yB 1 = .ok (.aload_n 1, 1) := by decide +kernel
theorem d2 : decode yB 2 = .ok (.if_acmp (.ne) 5, 3) := by decide +kernel
theorem d5 : decode yB 5 = .ok (.iconst 1, 1) := by decide +kernel
theorem d6 : decode yB 6 = .ok (.ireturn, 1) := by decide +kernel
theorem d7 : decode yB 7 = .ok (.aload_n 1, 1) := by decide +kernel
theorem d8 : decode yB 8 = .ok (.instanceof 10, 3) := by decide +kernel
theorem d11 : decode yB 11 = .ok (.ifCond (.eq) 43, 3) := by decide +kernel
theorem d14 : decode yB 14 = .ok (.aload_n 1, 1) := by decide +kernel
theorem d15 : decode yB 15 = .ok (.checkcast 10, 3) := by decide +kernel
theorem d18 : decode yB 18 = .ok (.astore_n 2, 1) := by decide +kernel
theorem d19 : decode yB 19 = .ok (.getstatic 38, 3) := by decide +kernel
theorem d22 : decode yB 22 = .ok (.ifCond (.eq) 14, 3) := by decide +kernel
theorem d25 : decode yB 25 = .ok (.aload_n 0, 1) := by decide +kernel
theorem d26 : decode yB 26 = .ok (.getfield 15, 3) := by decide +kernel
theorem d29 : decode yB 29 = .ok (.aload_n 2, 1) := by decide +kernel
theorem d30 : decode yB 30 = .ok (.getfield 15, 3) := by decide +kernel
theorem d33 : decode yB 33 = .ok (.if_icmp (.ne) 21, 3) := by decide +kernel
theorem d36 : decode yB 36 = .ok (.aload_n 0, 1) := by decide +kernel
theorem d37 : decode yB 37 = .ok (.getfield 9, 3) := by decide +kernel
theorem d40 : decode yB 40 = .ok (.aload_n 2, 1) := by decide +kernel
theorem d41 : decode yB 41 = .ok (.getfield 9, 3) := by decide +kernel
theorem d44 : decode yB 44 = .ok (.invokestatic 541, 3) := by decide +kernel
theorem d47 : decode yB 47 = .ok (.ifCond (.eq) 7, 3) := by decide +kernel
theorem d50 : decode yB 50 = .ok (.iconst 1, 1) := by decide +kernel
theorem d51 : decode yB 51 = .ok (.goto 4, 3) := by decide +kernel
theorem d54 : decode yB 54 = .ok (.iconst 0, 1) := by decide +kernel
theorem d55 : decode yB 55 = .ok (.ireturn, 1) := by decide +kernel
def site : List Cond := [.classLink "java/lang/String" 10 "java/lang/String", .fieldLink "java/lang/String" 38 "java/lang/String" "COMPACT_STRINGS" "Z", .fieldLink "java/lang/String" 15 "java/lang/String" "coder" "B", .fieldLink "java/lang/String" 9 "java/lang/String" "value" "[B", LEq.tab] ++ staticW "java/lang/String" 541 LEq.yN
def tab : Cond := tabOf yN yB 3 (some .boolean) site
def P (x t : Addr) (V : Cell) (cd : Int32) (n : Nat) (f : Nat → Int32) (y t' : Addr) (V' : Cell) (cd' : Int32) (k : Nat) (g : Nat → Int32) (z : Int32) (args : Array Value) (s : State) : Prop := args = #[.ref x, .ref y] ∧ Txt x t V cd n f s ∧ Txt y t' V' cd' k g s ∧ StaticIs s "java/lang/String" "COMPACT_STRINGS" "Z" (.int z) ∧ ¬ z = 0
/-- equals(Object) of two Strings: whether the texts are the same -/
theorem law (l : Launch) (x t : Addr) (V : Cell) (cd : Int32) (n : Nat) (f : Nat → Int32) (y t' : Addr) (V' : Cell) (cd' : Int32) (k : Nat) (g : Nat → Int32) (z : Int32) : Law l yN 2 1 1 14 yB 3 (some .boolean) site (P x t V cd n f y t' V' cd' k g z) (Says01 (SameT n f k g)) [] 0 0 := by
  refine Law.of_walk (plainFor_of_name (by decide +kernel)) (by decide +kernel) (by decide +kernel) (by decide) (fun _ _ h => by rw [h.1]; rfl) (fun _ U U' hal hh h => ⟨h.1, h.2.1.mv hal hh, h.2.2.1.mv hal hh, h.2.2.2.1.there hal hh, h.2.2.2.2⟩) (fun r U U' V V' h1 hal h2 h => Says01.mv r U U' V V' h1 hal h2 h) ?_
  intro p e s m args below meth c s₁ X0 hexec hbytes hml hret hlk hnm hown hh0 W hP
  obtain ⟨rfl, hx, hy, s1, hz⟩ := hP
  have c1 : Steps p.tables e below (s₁.setTop (entryFrame m #[.ref x, .ref y] 3)) (s₁.setTop (mkF m 2 #[.val (.ref x), .val (.ref y), .unset] [.ref y, .ref x])) := Steps.trans (entry rfl) (by
    show Steps p.tables e below (s₁.setTop (mkF m 0 #[.val (.ref x), .val (.ref y), .unset] [])) _
    refine XS.aloadN X0.here hexec rfl (hb hbytes d0) rfl rfl ?_
    refine XS.aloadN X0.here hexec rfl (hb hbytes d1) rfl rfl ?_
    exact Steps.refl _)
  by_cases hxy : x = y
  · have c2 : Steps p.tables e below (s₁.setTop (entryFrame m #[.ref x, .ref y] 3)) (s₁.setTop (mkF m 6 #[.val (.ref x), .val (.ref y), .unset] [.int 1])) := c1.trans (by
      refine acmpNo X0.here hexec rfl (hb hbytes d2) rfl rfl rfl (by simp [acmp, hxy]) ?_
      refine iconstV X0.here hexec rfl 1 (hb hbytes d5) (by decide) ?_
      exact Steps.refl _)
    subst hxy
    have ec : cd = cd' := by
      obtain ⟨D, fd, a1, a2, a3⟩ := hx.2.2.1
      obtain ⟨D', fd', b1, b2, b3⟩ := hy.2.2.1
      cases a1.symm.trans b1
      obtain ⟨q1, q2, q3, q4⟩ := a2.1
      obtain ⟨r1, r2, r3, r4⟩ := b2.1
      cases q4.symm.trans r4
      cases a3.symm.trans b3; rfl
    have et : t = t' := by
      obtain ⟨D, fd, a1, a2, a3⟩ := hx.2.1
      obtain ⟨D', fd', b1, b2, b3⟩ := hy.2.1
      cases a1.symm.trans b1
      obtain ⟨q1, q2, q3, q4⟩ := a2.1
      obtain ⟨r1, r2, r3, r4⟩ := b2.1
      cases q4.symm.trans r4
      cases a3.symm.trans b3; rfl
    subst ec et
    have ev : V = V' := by cases hx.2.2.2.1.1.symm.trans hy.2.2.2.1.1; rfl
    subst ev
    have hs : SameT n f k g := (Cod.eqv hx.2.2.2.2.1 hy.2.2.2.2.1 hx.2.2.2.2.2 hy.2.2.2.2.2).mp ⟨rfl, fun _ _ => rfl⟩
    exact ⟨s₁, some (.int 1), _, _, _, X0, rfl, rfl, rfl, (fun h => by cases h), ⟨1, rfl, hh0, Or.inl ⟨rfl, hs⟩⟩, fun fs hl => c2.trans (X0.ireturnOut hexec hret rfl (Or.inr (Or.inl rfl)) (hb hbytes d6) hl)⟩
  · have c2 : Steps p.tables e below (s₁.setTop (entryFrame m #[.ref x, .ref y] 3)) (s₁.setTop (mkF m 8 #[.val (.ref x), .val (.ref y), .unset] [.ref y])) := c1.trans (by
      refine acmpYes X0.here hexec rfl (pc0 := 2) rfl (hb hbytes d2) rfl rfl rfl (by simp [acmp, hxy]) (by decide) rfl ?_
      refine XS.aloadN X0.here hexec rfl (hb hbytes d7) rfl rfl ?_
      exact Steps.refl _)
    obtain ⟨T3, X3, q3, st3⟩ := cinst X0 hexec hown (wk W (.classLink "java/lang/String" 10 "java/lang/String")) (hy.mv X0.warmed.alike hh0).1 (g := (mkF m 8 #[.val (.ref x), .val (.ref y), .unset] [.ref y])) rfl (rest := []) rfl (hb hbytes d8)
    have hh3 := q3.trans hh0
    have c4 : Steps p.tables e below (s₁.setTop (entryFrame m #[.ref x, .ref y] 3)) (T3.setTop (mkF m 15 #[.val (.ref x), .val (.ref y), .unset] [.ref y])) := (c2.trans (st3 _ (Steps.refl _))).trans (by
      refine XS.ifNo X3.here hexec rfl (hb hbytes d11) rfl (i0_eq_f (by decide)) ?_
      refine XS.aloadN X3.here hexec rfl (hb hbytes d14) rfl rfl ?_
      exact Steps.refl _)
    obtain ⟨T5, X5, q5, st5⟩ := cself X3 hexec hown (wk W (.classLink "java/lang/String" 10 "java/lang/String")) (hy.mv X3.warmed.alike hh3).1 (g := (mkF m 15 #[.val (.ref x), .val (.ref y), .unset] [.ref y])) rfl (rest := []) rfl (hb hbytes d15)
    have hh5 := q5.trans hh3
    have c6 : Steps p.tables e below (s₁.setTop (entryFrame m #[.ref x, .ref y] 3)) (T5.setTop (mkF m 19 #[.val (.ref x), .val (.ref y), .val (.ref y)] [])) := (c4.trans (st5 _ (Steps.refl _))).trans (by
      refine XS.astoreN X5.here hexec rfl (hb hbytes d18) rfl rfl rfl ?_
      exact Steps.refl _)
    obtain ⟨T7, X7, q7, st7⟩ := X5.sget hexec hown (wk W (.fieldLink "java/lang/String" 38 "java/lang/String" "COMPACT_STRINGS" "Z")) s1 (fun _ _ h => by rw [hh5]; exact h) (g := (mkF m 19 #[.val (.ref x), .val (.ref y), .val (.ref y)] [])) rfl (hb hbytes d19)
    have hh7 := q7.trans hh5
    have c8 : Steps p.tables e below (s₁.setTop (entryFrame m #[.ref x, .ref y] 3)) (T7.setTop (mkF m 26 #[.val (.ref x), .val (.ref y), .val (.ref y)] [.ref x])) := (c6.trans (st7 _ (Steps.refl _))).trans (by
      refine XS.ifNo X7.here hexec rfl (hb hbytes d22) rfl (i0_eq_f hz) ?_
      refine XS.aloadN X7.here hexec rfl (hb hbytes d25) rfl rfl ?_
      exact Steps.refl _)
    obtain ⟨T9, X9, q9, st9⟩ := X7.hget hexec hown (wk W (.fieldLink "java/lang/String" 15 "java/lang/String" "coder" "B")) (hx.mv X7.warmed.alike hh7).2.2.1 (g := (mkF m 26 #[.val (.ref x), .val (.ref y), .val (.ref y)] [.ref x])) rfl (rest := []) rfl (hb hbytes d26)
    have hh9 := q9.trans hh7
    have c10 : Steps p.tables e below (s₁.setTop (entryFrame m #[.ref x, .ref y] 3)) (T9.setTop (mkF m 30 #[.val (.ref x), .val (.ref y), .val (.ref y)] [.ref y, .int cd])) := (c8.trans (st9 _ (Steps.refl _))).trans (by
      refine XS.aloadN X9.here hexec rfl (hb hbytes d29) rfl rfl ?_
      exact Steps.refl _)
    obtain ⟨T11, X11, q11, st11⟩ := X9.hget hexec hown (wk W (.fieldLink "java/lang/String" 15 "java/lang/String" "coder" "B")) (hy.mv X9.warmed.alike hh9).2.2.1 (g := (mkF m 30 #[.val (.ref x), .val (.ref y), .val (.ref y)] [.ref y, .int cd])) rfl (rest := [.int cd]) rfl (hb hbytes d30)
    have hh11 := q11.trans hh9
    have c12 : Steps p.tables e below (s₁.setTop (entryFrame m #[.ref x, .ref y] 3)) (T11.setTop (mkF m 33 #[.val (.ref x), .val (.ref y), .val (.ref y)] [.int cd', .int cd])) := c10.trans (st11 _ (Steps.refl _))
    by_cases hcd : cd = cd'
    · subst hcd
      have c13 : Steps p.tables e below (s₁.setTop (entryFrame m #[.ref x, .ref y] 3)) (T11.setTop (mkF m 37 #[.val (.ref x), .val (.ref y), .val (.ref y)] [.ref x])) := c12.trans (by
        refine XS.icmpNo X11.here hexec rfl (hb hbytes d33) rfl (ii_ne_f rfl) ?_
        refine XS.aloadN X11.here hexec rfl (hb hbytes d36) rfl rfl ?_
        exact Steps.refl _)
      obtain ⟨T14, X14, q14, st14⟩ := X11.hget hexec hown (wk W (.fieldLink "java/lang/String" 9 "java/lang/String" "value" "[B")) (hx.mv X11.warmed.alike hh11).2.1 (g := (mkF m 37 #[.val (.ref x), .val (.ref y), .val (.ref y)] [.ref x])) rfl (rest := []) rfl (hb hbytes d37)
      have hh14 := q14.trans hh11
      have c15 : Steps p.tables e below (s₁.setTop (entryFrame m #[.ref x, .ref y] 3)) (T14.setTop (mkF m 41 #[.val (.ref x), .val (.ref y), .val (.ref y)] [.ref y, .ref t])) := (c13.trans (st14 _ (Steps.refl _))).trans (by
        refine XS.aloadN X14.here hexec rfl (hb hbytes d40) rfl rfl ?_
        exact Steps.refl _)
      obtain ⟨T16, X16, q16, st16⟩ := X14.hget hexec hown (wk W (.fieldLink "java/lang/String" 9 "java/lang/String" "value" "[B")) (hy.mv X14.warmed.alike hh14).2.1 (g := (mkF m 41 #[.val (.ref x), .val (.ref y), .val (.ref y)] [.ref y, .ref t])) rfl (rest := [.ref t]) rfl (hb hbytes d41)
      have hh16 := q16.trans hh14
      have c17 : Steps p.tables e below (s₁.setTop (entryFrame m #[.ref x, .ref y] 3)) (T16.setTop (mkF m 44 #[.val (.ref x), .val (.ref y), .val (.ref y)] [.ref t', .ref t])) := c15.trans (st16 _ (Steps.refl _))
      obtain ⟨v18, T18, X18, E18, g18⟩ := X16.callS hexec (LEq.law l t V t' V') hown (wks W (staticW "java/lang/String" 541 LEq.yN)) (wk W LEq.tab) (W := 0) (Nat.le_of_ble_eq_true rfl) (Nat.le_of_ble_eq_true rfl) (Nat.le_refl _) (Nat.le_refl _) (g := (mkF m 44 #[.val (.ref x), .val (.ref y), .val (.ref y)] [.ref t', .ref t])) rfl (by rw [hml]; rfl) c17 (argsL := [.ref t, .ref t']) (rest := []) rfl rfl (by show 2 * 0 + 0 ≤ _; decide) (hb hbytes d44) (⟨rfl, hx.2.2.2.1.mv X16.warmed.alike hh16, hx.2.2.2.2.1.ty, hy.2.2.2.1.mv X16.warmed.alike hh16, hy.2.2.2.2.1.ty⟩)
      obtain ⟨v, rfl, q18, hv⟩ := E18
      have iff := Cod.eqv hx.2.2.2.2.1 hy.2.2.2.2.1 hx.2.2.2.2.2 hy.2.2.2.2.2
      rcases hv with ⟨rfl, he⟩ | ⟨rfl, he⟩
      · have c19 : Steps p.tables e below (s₁.setTop (entryFrame m #[.ref x, .ref y] 3)) (T18.setTop (mkF m 55 #[.val (.ref x), .val (.ref y), .val (.ref y)] [.int 1])) := Steps.trans g18 (by
          refine XS.ifNo X18.here hexec rfl (hb hbytes d47) rfl (i0_eq_f (by decide)) ?_
          refine iconstV X18.here hexec rfl 1 (hb hbytes d50) (by decide) ?_
          refine XS.goto X18.here hexec rfl (pc0 := 51) rfl (hb hbytes d51) (by decide) rfl ?_
          exact Steps.refl _)
        exact ⟨T18, some (.int 1), _, _, _, X18, rfl, rfl, rfl, (fun h => by cases h), ⟨1, rfl, q18.trans hh16, Or.inl ⟨rfl, iff.mp he⟩⟩, fun fs hl => c19.trans (X18.ireturnOut hexec hret rfl (Or.inr (Or.inl rfl)) (hb hbytes d55) hl)⟩
      · have c19 : Steps p.tables e below (s₁.setTop (entryFrame m #[.ref x, .ref y] 3)) (T18.setTop (mkF m 55 #[.val (.ref x), .val (.ref y), .val (.ref y)] [.int 0])) := Steps.trans g18 (by
          refine XS.ifYes X18.here hexec rfl (pc0 := 47) rfl (hb hbytes d47) rfl (i0_eq_t rfl) (by decide) rfl ?_
          refine iconstV X18.here hexec rfl 0 (hb hbytes d54) (by decide) ?_
          exact Steps.refl _)
        exact ⟨T18, some (.int 0), _, _, _, X18, rfl, rfl, rfl, (fun h => by cases h), ⟨0, rfl, q18.trans hh16, Or.inr ⟨rfl, fun q => he (iff.mpr q)⟩⟩, fun fs hl => c19.trans (X18.ireturnOut hexec hret rfl (Or.inr (Or.inl rfl)) (hb hbytes d55) hl)⟩
    · have c13 : Steps p.tables e below (s₁.setTop (entryFrame m #[.ref x, .ref y] 3)) (T11.setTop (mkF m 55 #[.val (.ref x), .val (.ref y), .val (.ref y)] [.int 0])) := c12.trans (by
        refine XS.icmpYes X11.here hexec rfl (pc0 := 33) rfl (hb hbytes d33) rfl (ii_ne_t hcd) (by decide) rfl ?_
        refine iconstV X11.here hexec rfl 0 (hb hbytes d54) (by decide) ?_
        exact Steps.refl _)
      exact ⟨T11, some (.int 0), _, _, _, X11, rfl, rfl, rfl, (fun h => by cases h), ⟨0, rfl, hh11, Or.inr ⟨rfl, Cod.dif hx.2.2.2.2.1 hy.2.2.2.2.1 hcd⟩⟩, fun fs hl => c13.trans (X11.ireturnOut hexec hret rfl (Or.inr (Or.inl rfl)) (hb hbytes d55) hl)⟩
theorem pays {l : Launch} {R : Room} {p : Program} {e : Env} {below : List Frame} {s : State} {sargs : Array Value} {len W : Nat} (x t : Addr) (V : Cell) (cd : Int32) (n : Nat) (f : Nat → Int32) (y t' : Addr) (V' : Cell) (cd' : Int32) (k : Nat) (g : Nat → Int32) (z : Int32) (htab : tab.before sargs s = true) (hfr : 2 ≤ R.frames) (hlo : W + 28 ≤ R.locals) :
    Back l R p e below s sargs yN len W (fun A₁ a₁ => A₁.cells + 0 ≤ R.cells ∧ A₁.slots + 0 ≤ R.slots ∧ P x t V cd n f y t' V' cd' k g z a₁ A₁.U) (fun A₁ _ v₁ B₁ => Says01 (SameT n f k g) v₁ A₁.U B₁.U ∧ B₁.locs = A₁.locs ++ [] ∧ B₁.cells = A₁.cells + 0 ∧ B₁.slots = A₁.slots + 0) :=
  (law l x t V cd n f y t' V' cd' k g z).pays htab hfr (by omega)
end SEq
end StrChars
namespace StrChars.Road
open Jvm Sem ClassFile Op Lib Jvm.Stand Jvm.Free Jvm.Free.XT
open Jvm.Lib.Cold (StaticIs)
/-- the words of String.equals(Object) -/
abbrev wordsEq : List Jvm.Cond := [.code SEq.yN SEq.yB 3 (some .boolean), .initialized ST, .classLink ST 10 ST, .fieldLink ST 38 ST "COMPACT_STRINGS" "Z", .fieldLink ST 15 ST "coder" "B", .fieldLink ST 9 ST "value" "[B", .methodLink ST 541 LEq.yN, .static LEq.yN, .code LEq.yN LEq.yB 3 (some .boolean), .initialized "java/lang/StringLatin1"]
theorem tabEq_of {a : Array Value} {s : State} (h : ∀ w ∈ wordsEq, w.before a s = true) : SEq.tab.before a s = true := by
  have hl : LEq.tab.before a s = true := unparts (wk h (.code LEq.yN LEq.yB 3 (some .boolean))) (wks h (.initialized LEq.yN.cls :: LEq.site))
  have q := consq hl h
  exact unparts (wk q (.code SEq.yN SEq.yB 3 (some .boolean))) (wks q (.initialized SEq.yN.cls :: SEq.site))
theorem movedEq {Z s : State} {a0 args : Array Value} (hZ : Z.Warmed39 s.vm) (hw : ∀ d ∈ wordsEq, d.before a0 Z = true) : ∀ d ∈ wordsEq, d.before args s = true := fun d hd => by
  have t : ∀ d ∈ wordsEq, (d.onTables && d.keepsFace) = true := by decide +kernel
  exact RoadKit.mv hZ (hw d hd) (t d hd)
/-- the road's facts of a String, as the laws ask it -/
theorem txt_of {Z U : State} {a0 : Array Value} {kI : Nat} (wi : (Jvm.Cond.instantiable ST kI).before a0 Z = true) (al : Z.vm.Alike U.vm) {x t : Addr} {kb : ClassId} {cs : List Int32} {cd N2 : Int32} {vs : List Value} (E : RoadKit.Exa Z U.heap x ST) (V : RoadKit.Fld Z U.heap x ST "value" "[B" (.ref t)) (C : RoadKit.Fld Z U.heap x ST "coder" "B" (.int cd)) (K : RoadKit.Arv Z U.heap t kb .byte N2 vs (.int 0)) (hc : CodA cs cd N2 vs) (hb : ∀ c ∈ cs, ¬ c < 0 ∧ ¬ (65535 : Int32) < c) (l2 : cs.length ≤ 4000) :
    ∃ A, Txt x t A cd cs.length (fun j => cs.getD j 0) U := by
  obtain ⟨A, K1, K2, K3, K4, K5, K6⟩ := K
  have hcod := hc.cod (by omega) K3 K5
  obtain ⟨D, fV, fC, hB, F1, F2, g1, g2, -, -⟩ := strObj wi al E V C
  exact ⟨A, ⟨_, hB.2.2.1, D, hB.1, rfl, by cases q : D.vm <;> first | rfl | exact absurd q (hB.2.1.2 _)⟩, Has.of hB F1 g1, Has.of hB F2 g2, ⟨K1.1, State.isArrayOf_alike al K1.2.1, K1.2.2, by rcases hcod with ⟨-, q, -⟩ | ⟨-, q, -⟩ <;> omega⟩, hcod, fun j hj => by
    have e : cs.getD j 0 = cs[j] := by simp [List.getD_eq_getElem?_getD, hj]
    show ¬ cs.getD j 0 < 0 ∧ ¬ 65535 < cs.getD j 0
    rw [e]; exact hb _ (List.getElem_mem _)⟩
theorem same_list (cs ds : List Int32) : SameT cs.length (fun j => cs.getD j 0) ds.length (fun j => ds.getD j 0) ↔ cs = ds := by
  constructor
  · rintro ⟨e, q⟩
    refine List.ext_getElem e fun j h1 h2 => ?_
    have := q j h1
    simpa [List.getD_eq_getElem?_getD, h1, h2] using this
  · rintro rfl
    exact ⟨rfl, fun _ _ => rfl⟩
/-- **equals(Object) OF TWO SUCH STRINGS**: 1 just where the chars are the same -/
theorem eqW {p : Program} {l : Launch} {e : Env} {R : Room} {s : State} {args : Array Value} {below : List Frame} {len W : Nat} {Z : State} {a0 : Array Value} {h : Heap} (hZ : Z.Warmed39 s.vm) (hw : ∀ d ∈ wordsEq, d.before a0 Z = true) {kI : Nat} (wi : (Jvm.Cond.instantiable ST kI).before a0 Z = true)
    {x t : Addr} {kb : ClassId} {cs : List Int32} {cd N2 : Int32} {vs : List Value} (E : RoadKit.Exa Z h x ST) (V : RoadKit.Fld Z h x ST "value" "[B" (.ref t)) (C : RoadKit.Fld Z h x ST "coder" "B" (.int cd)) (K : RoadKit.Arv Z h t kb .byte N2 vs (.int 0)) (hc : CodA cs cd N2 vs) (hb : ∀ c ∈ cs, ¬ c < 0 ∧ ¬ (65535 : Int32) < c) (l2 : cs.length ≤ 4000)
    {y t' : Addr} {kb' : ClassId} {ds : List Int32} {cd' N2' : Int32} {vs' : List Value} (E' : RoadKit.Exa Z h y ST) (V' : RoadKit.Fld Z h y ST "value" "[B" (.ref t')) (C' : RoadKit.Fld Z h y ST "coder" "B" (.int cd')) (K' : RoadKit.Arv Z h t' kb' .byte N2' vs' (.int 0)) (hc' : CodA ds cd' N2' vs') (hb' : ∀ c ∈ ds, ¬ c < 0 ∧ ¬ (65535 : Int32) < c) (l2' : ds.length ≤ 4000)
    {z : Int32} (S : RoadKit.Sta Z h ST "COMPACT_STRINGS" "Z" (.int z)) (hz : ¬ z = 0) (hfr : 2 ≤ R.frames) (hlo : W + 28 ≤ R.locals) :
    Back l R p e below s args (⟨"java/lang/String", "equals", "(Ljava/lang/Object;)Z"⟩ : MethodName) len W (fun P a => a = #[.ref x, .ref y] ∧ P.U.heap = h ∧ P.cells + 0 ≤ R.cells ∧ P.slots + 0 ≤ R.slots)
      (fun P _ v B => ∃ L, (((v = some (.int 1) ∧ cs = ds) ∨ (v = some (.int 0) ∧ ¬ cs = ds)) ∧ L = [] ∧ B.U.heap = h) ∧ B.locs = P.locs ++ L ∧ B.cells = P.cells + 0 ∧ B.slots = P.slots + 0) := by
  intro m meth c P g ig mk a X hg hsize hdg hW hn hp'
  obtain ⟨rfl, rfl, r1, r2⟩ := hp'
  have al : Z.vm.Alike P.U.vm := hZ.alike.trans X.warmed.alike
  obtain ⟨A, hx⟩ := txt_of wi al E V C K hc hb l2
  obtain ⟨A', hy⟩ := txt_of wi al E' V' C' K' hc' hb' l2'
  obtain ⟨v, B, X', ⟨⟨w, hv, hh, hq⟩, hl, hk, hs⟩, st⟩ := SEq.pays x t A cd cs.length (fun j => cs.getD j 0) y t' A' cd' ds.length (fun j => ds.getD j 0) z (tabEq_of (movedEq hZ hw)) hfr hlo m meth c P g ig mk _ X hg hsize hdg hW hn ⟨r1, r2, rfl, hx, hy, sta_is al S, hz⟩
  refine ⟨v, B, X', ⟨[], ⟨?_, rfl, hh⟩, hl, hk, hs⟩, st⟩
  rcases hq with ⟨rfl, q⟩ | ⟨rfl, q⟩
  · exact Or.inl ⟨hv, (same_list cs ds).mp q⟩
  · exact Or.inr ⟨hv, fun e => q ((same_list cs ds).mpr e)⟩
end StrChars.Road
namespace StrChars.Road
open Jvm Sem ClassFile Op Lib Jvm.Stand Jvm.Free Jvm.Free.XT
open Jvm.Lib.Cold (StaticIs)
/-- what backV says of its String, as the contracts of this text ask it: cs's low bytes, coder 0 -/
theorem codOf {cs : List Int32} {n : Nat} (hn : cs.length = n) (hb : ∀ c ∈ cs, ¬ 255 < c) : CodA cs 0 (Int32.ofNat n) ((cs.map lo8).map Value.int) := Or.inl ⟨rfl, by rw [hn], by simp [List.map_map, Function.comp_def], hb⟩
end StrChars.Road
end Jvm.Pilot.@@N@@
namespace Jvm.Pilot.@@N@@
open Jvm Jvm.ClassFile Sem Op Lib Jvm.Free Jvm.Stand Jvm.LawKit Jvm.RoadKit Bundle Jvm.Pilot.@@N@@.Jvm.D
/-! Throwable.fillInStackTrace() on an object of the class rc, from words on rc's own layout (the word that Throwable itself lays 'suppressedExceptions' is not asked). -/
section OwnFill
open Jvm.Free.Exc Bundle
def fillW (rc : String) : List Cond := [.initialized tN, .superclass tN "java/lang/Object", .instanceMethod tFill, .codeSync tFill LibCode.Throwable.Fill.code 1 (some (.object tN)), .instanceMethod tFill0, .native tFill0,
  .instanceMethod oInit, .code oInit ⟨#[0xb1]⟩ 1 none, .methodLink tN 1 oInit, .methodLink tN 27 tFill, .methodLink tN 202 tFill0, .fieldLink tN 7 tN "cause" thD, .fieldLink tN 17 tN "stackTrace" steD, .fieldLink tN 24 tN "suppressedExceptions" listD,
  .fieldLink tN 13 tN "UNASSIGNED_STACK" steD, .laysStatic tN "UNASSIGNED_STACK" steD, .fieldLink tN 20 tN "SUPPRESSED_SENTINEL" listD, .laysStatic tN "SUPPRESSED_SENTINEL" listD, .fieldLink tN 198 tN "backtrace" obD,
  .declares tFill, .selects rc tFill0 tFill0, .selects rc tFill tFill, .arrayOver (.object "java/lang/Object"), .soleField tN "backtrace", .soleField tN "depth",
  .lays rc tN "cause" thD, .lays rc tN "stackTrace" steD, .lays rc tN "suppressedExceptions" listD, .lays rc tN "detailMessage" msgD, .lays rc tN "backtrace" obD, .lays rc tN "depth" "I"]
theorem fillW_ok {rc : String} : (fillW rc).all xOk = true := rfl
def FillT (T : ThrowableC) (s : State) : Prop := s.vm.findClass tN = some T.cT ∧ s.methodNamed? tFill = some T.fill ∧ s.methodNamed? tFill0 = some T.fill0 ∧ s.fieldFound? tN "stackTrace" steD = some (T.cT, T.kT, T.i17, T.fStack) ∧
  s.fieldFound? tN "UNASSIGNED_STACK" steD = some (T.cT, T.kT, T.i13, T.fUnassigned) ∧ T.fStack.type = .array (.object "java/lang/StackTraceElement")
set_option maxHeartbeats 4000000 in
theorem own_fillT {args : Array Value} {s : State} {pl : Platform} (ho : pl.frameOwnsMonitors = true) (hf : pl.finalization = false) (hp : pl.magicAccessors = ({} : Platform).magicAccessors) {rc : String} (w : ∀ d ∈ fillW rc, d.before args s = true) :
    ∃ T : ThrowableC, T.Links pl s ∧ FillT T s := by
  have b : ∀ d, d ∈ fillW rc → d.holds args s none s [] = true := fun d hd => w d hd
  obtain ⟨⟨cl, j0⟩, mN, nN, gN, nat, noc, nol, sgN⟩ := Cond.native_spec (b (.native tFill0) (by simp [fillW]))
  have fc : s.vm.findClass tN = some cl := findClass_of_methodNamed nN
  obtain ⟨kl, gk, nk⟩ := Vm.findClass_spec fc
  obtain ⟨_, kl', _, _, gk', _, _, _, _, nface⟩ := Cond.superclass_spec fc (b (.superclass tN "java/lang/Object") (by simp [fillW]))
  obtain rfl : kl = kl' := Option.some.inj (gk.symm.trans gk')
  obtain ⟨jF, mF, nF, gF, aF, sF, abF, -, -⟩ := Cond.ownMethod (x := tFill) fc gk (b (.instanceMethod tFill) (by simp [fillW]))
  obtain ⟨mF', cF, gF', eF, byF, loF, reF, lkF, -, sgF⟩ := Cond.codeSync_spec nF (b (.codeSync tFill LibCode.Throwable.Fill.code 1 (some (.object tN))) (by simp [fillW]))
  obtain rfl : mF = mF' := Option.some.inj (gF.symm.trans gF')
  obtain ⟨j0', mN', nN', gN', aN, sN, abN, nmN, dsN⟩ := Cond.ownMethod (x := tFill0) fc gk (b (.instanceMethod tFill0) (by simp [fillW]))
  obtain rfl : j0 = j0' := by simpa using Option.some.inj (nN.symm.trans nN')
  obtain rfl : mN = mN' := Option.some.inj (gN.symm.trans gN')
  obtain ⟨iO, mO, nO, gO, sO, abO⟩ := Cond.instanceMethod_spec (b (.instanceMethod oInit) (by simp [fillW]))
  obtain ⟨mO', cO, gO', eO, byO, -, -, lkO, -, sgO⟩ := Cond.code_spec nO (b (.code oInit ⟨#[0xb1]⟩ 1 none) (by simp [fillW]))
  obtain rfl : mO = mO' := Option.some.inj (gO.symm.trans gO')
  obtain ⟨kO, gkO, nkO⟩ := Vm.findClass_spec (findClass_of_methodNamed nO)
  obtain ⟨nmO, dsO⟩ := name_of_methodNamed nO gO
  obtain ⟨c1, n1, cf, l1, r1, hcf, p1⟩ := Cond.linkedMethod fc gk nO (b (.methodLink tN 1 oInit) (by simp [fillW])) pl hp
  obtain ⟨c27, n27, cf', l27, r27, hcf', p27⟩ := Cond.linkedMethod fc gk nF (b (.methodLink tN 27 tFill) (by simp [fillW])) pl hp
  obtain rfl : cf = cf' := Option.some.inj (hcf.symm.trans hcf')
  obtain ⟨c202, n202, cf'', l202, r202, hcf'', p202⟩ := Cond.linkedMethod fc gk nN (b (.methodLink tN 202 tFill0) (by simp [fillW])) pl hp
  obtain rfl : cf = cf'' := Option.some.inj (hcf.symm.trans hcf'')
  obtain ⟨c7, i7, f7, l7, r7, a7, s7, t7, -, -, -⟩ := Cond.ownField (t := .object tN) fc gk (by decide +kernel) (b (.fieldLink tN 7 tN "cause" thD) (by simp [fillW])) (b (.lays rc tN "cause" thD) (by simp [fillW])) pl hp
  obtain ⟨c17, i17, f17, l17, r17, a17, s17, t17, m17, y17, q17⟩ := Cond.ownField (t := .array (.object "java/lang/StackTraceElement")) fc gk (by decide +kernel) (b (.fieldLink tN 17 tN "stackTrace" steD) (by simp [fillW])) (b (.lays rc tN "stackTrace" steD) (by simp [fillW])) pl hp
  obtain ⟨c24, i24, f24, l24, r24, a24, s24, t24, m24, -, q24⟩ := Cond.ownField (t := .object "java/util/List") fc gk (by decide +kernel) (b (.fieldLink tN 24 tN "suppressedExceptions" listD) (by simp [fillW])) (b (.lays rc tN "suppressedExceptions" listD) (by simp [fillW])) pl hp
  obtain ⟨c13, i13, f13, st, ce, l13, r13, a13, s13, -, -, hst, -, -, -, -, q13⟩ := Cond.ownStatic (t := .array (.object "java/lang/StackTraceElement")) fc gk (by decide +kernel) (b (.fieldLink tN 13 tN "UNASSIGNED_STACK" steD) (by simp [fillW])) (b (.laysStatic tN "UNASSIGNED_STACK" steD) (by simp [fillW])) pl hp
  obtain ⟨c20, i20, f20, _, _, l20, r20, a20, s20, -, -, -, -, -, -, -, -⟩ := Cond.ownStatic (t := .object "java/util/List") fc gk (by decide +kernel) (b (.fieldLink tN 20 tN "SUPPRESSED_SENTINEL" listD) (by simp [fillW])) (b (.laysStatic tN "SUPPRESSED_SENTINEL" listD) (by simp [fillW])) pl hp
  have ap : f17.slot ≠ f24.slot := by
    have q := Jvm.RoadKit.slot_ne (Z := s) (a0 := args) (Or.inl (w (.lays rc tN "stackTrace" steD) (by simp [fillW]))) (Or.inl (w (.lays rc tN "suppressedExceptions" listD) (by simp [fillW]))) (by decide) (t := .array (.object "java/lang/StackTraceElement")) (t' := .object "java/util/List") (by decide +kernel) (by decide +kernel)
    unfold Jvm.RoadKit.slotOf at q; rw [q17, q24] at q; exact q
  have par : ∀ {y : MethodName} {mm : Method} {ps : List FieldType}, (parseMethodDescriptor y.desc).map (·.parameters) = some ps → parseMethodDescriptor y.desc = some mm.sig → mm.sig.parameters = ps := fun h1 h2 => by rw [h2] at h1; simpa using h1
  refine ⟨{ cT := cl, kT := kl, cO := cl, aS := st, fillIdx := jF, fill0Idx := j0, initSIdx := jF, obj := iO, kObj := kO, methFill := mF, methFill0 := mN, methInitS := mF, methObj := mO, codeFill := cF, codeInitS := cF, codeObj := cO, fBack := f7, fDepth := f7, fStack := f17, fCause := f7, fSupp := f24, fMsg := f7, fUnassigned := f13, fSentinel := f20, cfT := cf, ci1 := c1, n1 := n1, ci27 := c27, n27 := n27, ci202 := c202, n202 := n202, ci7 := c7, i7 := i7, ci13 := c13, i13 := i13, ci17 := c17, i17 := i17, ci20 := c20, i20 := i20, ci24 := c24, i24 := i24 }, ?_, ⟨fc, nF, nN, q17, q13, y17⟩⟩
  constructor
  case objFound => rw [dsO]; exact lookupSpecial_of_named nO gO sO
  case objParams => rw [par (y := oInit) (ps := []) (by decide +kernel) sgO]; rfl
  case fillParams => exact par (y := tFill) (ps := []) (by decide +kernel) sgF
  case fill0Params => exact par (y := tFill0) (ps := [.int]) (by decide +kernel) sgN
  case boot => exact Vm.findClass_boot fc gk
  case initialized => exact Cond.initialized_spec fc gk (b (.initialized tN) (by simp [fillW]))
  all_goals assumption

theorem own_arrE {A B : Array Value} (h : ∀ i : Nat, A[i]? = B[i]?) : A = B := Array.ext_getElem? h
theorem own_keepS {p : Program} {l : Launch} {e : Env} {R : Room} {s : State} {m : MethodId} {args : Array Value} {below : List Frame} {meth : Method} {c : Code} {T U : State} {L L' : List Loc} {sl sl' k : Nat} {a : Addr}
    (X : Stand p l e R s m args below meth c T L 0 sl) (Y : Stand p l e R s m args below meth c U L' k sl') (h : ∀ x ∈ L, x.base = a) (h' : ∀ x ∈ L', x.base = a) : Keep T.heap U.heap [a] := by
  obtain ⟨-, x1, x2, -, -, x3⟩ := X.same
  obtain ⟨-, y1, -, -, -, y3⟩ := Y.same
  change T.heap.size ≤ s.heap.size + 0 at x2
  have two : ∀ (x : Addr) (c : Cell), T.heap[x]? = some c → ∃ c0, s.heap[x]? = some c0 ∧ c = { c0 with slots := c.slots } ∧ c.slots.size = c0.slots.size ∧ (x ≠ a → c = c0) ∧ ∃ c', U.heap[x]? = some c' ∧ c' = { c0 with slots := c'.slots } ∧ c'.slots.size = c0.slots.size ∧ (x ≠ a → c' = c0) := fun x c q => by
    have lt := (Array.getElem?_eq_some_iff.mp q).1
    have g := Array.getElem?_eq_getElem (xs := s.heap) (i := x) (by omega)
    obtain ⟨d, d1, d2, d3, d4⟩ := x3 x _ g
    obtain ⟨f, f1, f2, f3, f4⟩ := y3 x _ g
    obtain rfl : d = c := Option.some.inj (Eq.trans (Eq.symm d1) q)
    refine ⟨_, g, d2, d3, fun ne => ?_, f, f1, f2, f3, fun ne => ?_⟩
    · rw [d2, own_arrE fun i => d4 i fun z => ne (h _ z)]
    · rw [f2, own_arrE fun i => f4 i fun z => ne (h' _ z)]
  refine ⟨Nat.le_trans x2 y1, fun x c q ne => ?_, fun x c q => ?_⟩
  · obtain ⟨c0, -, -, -, e1, c', e2, -, -, e3⟩ := two x c q
    have ne' : x ≠ a := fun z => ne (by rw [z]; exact List.mem_singleton.mpr rfl)
    rw [e2, e3 ne', e1 ne']
  · obtain ⟨c0, -, e1, e2, -, c', e3, e4, e5, -⟩ := two x c q
    exact ⟨c', e3, by rw [e4, e1], by rw [e4, e1], by rw [e5, e2]⟩
set_option maxHeartbeats 8000000 in
theorem own_fill {p : Program} {l : Launch} {e : Env} {R : Room} {s : State} {m : MethodId} {args : Array Value} {below : List Frame} {meth : Method} {c : Code} {T : State} {locs : List Loc} {slots : Nat} {Z : State} {a0 : Array Value} {h : Heap}
    (X : Stand p l e R s m args below meth c T locs 0 slots) (hx : p.tables.exec = Jvm.exec) (hl : l.stackTraces = true) (hZ : Z.Warmed39 s.vm) (hown : s.vm.findClass tN = some m.cls) {rc : String} (w : ∀ d ∈ fillW rc, d.before a0 Z = true) {kI : Nat} (wi : (Cond.instantiable rc kI).before a0 Z = true)
    (hT0 : ThS Z s.heap) (hTK : s.vm.MethodsKnown) (hBelow : s.vm.FramesKnown below) (eT : T.heap = h) {a : Addr} (hb : ∀ x ∈ locs, x.base = a) (E : Exa Z h a rc) (N : Unt h a) (B : Fld Z h a tN "backtrace" obD .null) {v : Value} (hv : v.isRef = true)
    (S : Sta Z h tN "UNASSIGNED_STACK" steD v) (F : Fld Z h a tN "stackTrace" steD v)
    {g : JFrame} (hg : g.method = m) (hsize : g.locals.size = c.maxLocals) {rest : List Value} (hs : g.stack = .ref a :: rest) (hd : decode c.code g.pc = .ok (.invokevirtual 27, 3))
    (hf : 3 ≤ R.frames) (hlo : 2 * g.monitorRoom + (rest.map fun v => v.category).sum + 42 ≤ R.locals) (hc : 1 ≤ R.cells) (hsl : slots + 2752 ≤ R.slots) :
    ∃ (T' : State) (h' : Heap), Stand p l e R s m args below meth c T' (locs ++ sixLocs Z a) 1 (slots + 2752) ∧ T'.heap = h' ∧ Keep h h' [a] ∧ Exa Z h' a rc ∧
      (∀ {O n d : String} {t : FieldType} {u : Value}, Laid Z a0 rc O n d → parseFieldDescriptor d = some t → n ≠ "backtrace" → n ≠ "depth" → n ≠ "stackTrace" → Fld Z h a O n d u → Fld Z h' a O n d u) ∧
      ∀ target, Steps p.tables e below (T'.setTop { g with pc := g.pc + 3, stack := .ref a :: rest }) target → Steps p.tables e below (T.setTop g) target := by
  subst eT
  have hal : Z.vm.Alike s.vm := hZ.alike
  have ws : ∀ d ∈ fillW rc, d.before args s = true := fun d hd => mvX hT0 hZ (List.all_eq_true.mp fillW_ok d hd) (w d hd)
  have b : ∀ d, d ∈ fillW rc → d.holds args s none s [] = true := fun d hd => ws d hd
  have htr : e.platform.stackTraces = true := by rw [X.admits.platform]; exact hl
  have hpl : e.platform.magicAccessors = ({} : Platform).magicAccessors := by rw [X.admits.platform]
  obtain ⟨Y, L, kfound, kfill, kfill0, kstack, kunas, kstype⟩ := own_fillT (pl := e.platform) (by rw [X.admits.platform]) (by rw [X.admits.platform]) hpl ws
  obtain ⟨cell, kc, e1, e2, e3, e4, e5⟩ := id E
  obtain ⟨_, u1, u2, u3⟩ := id N
  cases e1.symm.trans u1
  obtain ⟨_, _, _, _, fb', b1, b2, -, -, -, -, b7⟩ := id B
  cases e1.symm.trans b1
  obtain ⟨_, _, _, _, fs', s1, s2, -, -, -, -, s7⟩ := id F
  cases e1.symm.trans s1
  obtain ⟨_, _, i1, i2, i3, -⟩ := Cond.instantiable_spec wi
  cases e2.symm.trans i1
  cases e3.symm.trans i2
  obtain ⟨kX, q1, q2⟩ := hal.2.2 _ _ e3
  have found : s.vm.findClass rc = some cell.cls := by rw [hal.findClass]; exact e2
  have hord : kX.kind = .ordinary := by rw [q2]; exact i3
  have hsz : cell.slots.size = kX.instanceTypes.size := by rw [q2]; exact e5 i3
  obtain ⟨k5, q5, -⟩ := State.fieldFound?_setVm (s := Z) hal s2
  cases (show s.fieldFound? tN "stackTrace" steD = _ from q5).symm.trans kstack
  obtain ⟨cU, iU, kU, fU, st, cS, t1, t2, t3, t4, t5, t6, t7⟩ := S
  obtain ⟨k', r', hek⟩ := State.fieldFound?_setVm (s := Z) hal t1
  cases (show s.fieldFound? tN "UNASSIGNED_STACK" steD = _ from r').symm.trans kunas
  have hst : Y.aS = st := Option.some.inj (L.statics.symm.trans (by rw [hek]; exact t4))
  subst hst
  have hneS : Y.aS ≠ a := fun z => by rw [z] at t5; cases e1.symm.trans t5; rw [u2] at t6; cases t6
  have hknS : cS.vm ≠ .unknown := fun z => by rw [z] at t6; cases t6
  obtain ⟨c198, i198, fB, l198, r198, a198, sB, -, nB, tB, qB⟩ := Cond.ownField (t := .object "java/lang/Object") kfound L.cls (by decide +kernel) (b (.fieldLink tN 198 tN "backtrace" obD) (by simp [fillW])) (b (.lays rc tN "backtrace" obD) (by simp [fillW])) e.platform hpl
  obtain ⟨k4, q4, -⟩ := State.fieldFound?_setVm (s := Z) hal b2
  cases (show s.fieldFound? tN "backtrace" obD = _ from q4).symm.trans qB
  obtain ⟨_, _, cD, kD, iD, fD, -, -, qD, sD, -, -, -, -⟩ := Cond.lays_spec (b (.lays rc tN "depth" "I") (by simp [fillW]))
  cases Option.some.inj ((Cond.lays_declared (b (.lays rc tN "depth" "I") (by simp [fillW])) qD).symm.trans kfound)
  obtain ⟨gD, aD⟩ := State.fieldFound?_spec qD
  cases Option.some.inj (gD.symm.trans L.cls)
  obtain ⟨nD, tD⟩ := State.fieldFound?_type qD (t := .int) (by decide +kernel)
  have hfb := Cond.soleField_find kfound L.cls (b (.soleField tN "backtrace") (by simp [fillW])) a198 nB sB
  have hfd := Cond.soleField_find kfound L.cls (b (.soleField tN "depth") (by simp [fillW])) aD nD sD
  obtain ⟨comp, cO, kO, -, -, hkO, hkindO, hO⟩ := Cond.arrayOver_spec (ws (.arrayOver (.object "java/lang/Object")) (by simp [fillW]))
  obtain ⟨tyS, -⟩ := Cond.laysAt found q1 kstack (b (.lays rc tN "stackTrace" steD) (by simp [fillW]))
  obtain ⟨tyB, -⟩ := Cond.laysAt found q1 qB (b (.lays rc tN "backtrace" obD) (by simp [fillW]))
  obtain ⟨tyD, -⟩ := Cond.laysAt found q1 qD (b (.lays rc tN "depth" "I") (by simp [fillW]))
  have tk : ∀ {f : Field} {x : Value}, kX.instanceTypes[f.slot]? = some f.type → fits f.type x = true → Jvm.Takes s cell f x := fun {f x} h1 h2 => by
    obtain ⟨z1, z2⟩ := Takes.of_laid (v := x) q1 hord h1 h2
    exact ⟨by rw [hsz]; simpa using z1, by rw [u2]; exact z2⟩
  have hsel0 : selectMethod e.platform s.vm cell.cls Y.fill0 = .method Y.fill0 := by
    obtain ⟨_, _, _, z1, z2, z3, z4, -⟩ := Cond.selects_spec (b (.selects rc tFill0 tFill0) (by simp [fillW]))
    cases Option.some.inj (z1.symm.trans found)
    cases Option.some.inj (z2.symm.trans (State.methodFound?_of_named kfill0 (by decide)))
    cases Option.some.inj (z3.symm.trans kfill0)
    rw [Launch.admits_selectMethod X.admits]; exact z4
  have hSE := ws (.selects rc tFill tFill) (by simp [fillW])
  obtain ⟨v6, vm6, ⟨T6, L6, c6, n6⟩, -, X6, ⟨hv6, C6, n, hn, hC6, d1, d2, d3, d4, hL6, hc6, hn6⟩, come⟩ := X.virtualBack hx (own := tN) (C := rc) (index := 27) (y := tFill) (z := tFill) hown (ws (.methodLink tN 27 tFill) (by simp [fillW])) (ws (.declares tFill) (by simp [fillW])) (notFace_of_selects hSE) hSE (ws (.instanceMethod tFill) (by simp [fillW])) (by decide)
    (fillPaysAny (l := l) (W := 2 * g.monitorRoom + (rest.map fun v => v.category).sum) hx htr Y L kfill (u0 := ⟨v, hv⟩) (self := a) (cell := cell) (cellS := cS) (fun _ => by rw [u2]; simp) (by rw [u2]; simp) (by rw [u3]) (by rw [u3]) s7 hsel0 hneS hknS t7 (tk tyS (by rw [kstype]; exact fits_refV_array _ ⟨v, hv⟩))
      ⟨{ ci198 := c198, i198 := _, fBack := fb' }, ⟨l198, r198, a198, sB⟩, b7⟩ hTK hBelow kfound hO hkO hkindO hfb hfd (fun x => tk tyB (by rw [tB]; rfl)) (fun x => tk tyD (by rw [tD]; rfl)) (by omega) hlo)
    (b := a) (cB := cell.cls) found ⟨cell, e1, rfl, e4⟩ hg hsize (Steps.refl _) (argsL := []) (rest := rest)
    (fun sig h => by rw [show parseMethodDescriptor tFill.desc = some ⟨[], some (.object tN)⟩ from by decide +kernel] at h; rw [← Option.some.inj h]; rfl) hs (Nat.le_refl _) hd
    (fun vmx hWx => ⟨rfl, by show 0 + 1 ≤ R.cells; omega, hsl, e1, t5⟩)
  dsimp only [Pt.U, Pt.locs, Pt.cells, Pt.slots] at X6 hC6 hL6 hc6 hn6 come
  subst hv6 hL6 hc6 hn6
  have three : ∀ x ∈ [(⟨a, fb'.slot⟩ : Loc), ⟨a, fD.slot⟩, ⟨a, Y.fStack.slot⟩], Six s a x := fun x hx => by
    simp only [List.mem_cons, List.not_mem_nil, or_false] at hx
    rcases hx with rfl | rfl | rfl
    · exact ⟨("backtrace", obD), _, by simp [sixNames], ⟨_, _, _, qB⟩, rfl⟩
    · exact ⟨("depth", "I"), _, by simp [sixNames], ⟨_, _, _, qD⟩, rfl⟩
    · exact ⟨("stackTrace", steD), _, by simp [sixNames], ⟨_, _, _, kstack⟩, rfl⟩
  have hk := own_keepS X X6 hb fun x hx => (List.mem_append.mp hx).elim (hb x) fun z => (three x z).base
  refine ⟨T6, T6.heap, (wider X6 hZ three).more (Nat.le_refl _) (Nat.add_le_add_left hn _), rfl, hk, ⟨C6, kc, hC6, by rw [d1]; exact e2, by rw [d1]; exact e3, by rw [d2]; exact e4, fun q => by rw [d3]; exact e5 q⟩, ?_, fun target q => come.trans q⟩
  intro O nn d t u Lf ht n1 n2 n3 Ff
  obtain ⟨_, cf, k, i, f, f1, f2, f3, f4, f5, f6, f7⟩ := Ff
  cases e1.symm.trans f1
  have ap : ∀ {O' n' d' : String} {t' : FieldType} {f' : Field} {c' k' i'}, (Cond.lays rc O' n' d').before a0 Z = true → parseFieldDescriptor d' = some t' → nn ≠ n' → s.fieldFound? O' n' d' = some (c', k', i', f') → f.slot ≠ f'.slot := fun {O' n' d' t' f' c' k' i'} h1 h2 h3 h4 => by
    have z := Jvm.RoadKit.slot_ne Lf (Or.inl h1) h3 ht h2
    obtain ⟨_, _, _, z4⟩ := Jvm.Free.BdW.found_ride (U := s) (U' := Z) hal.symm ⟨_, _, _, h4⟩
    unfold Jvm.RoadKit.slotOf at z; rw [f2, z4] at z; exact z
  refine ⟨C6, cf, k, i, f, hC6, f2, f3, by rw [d2]; exact f4, by rw [d2]; exact f5, by rw [d1]; exact f6, ?_⟩
  rw [d4 _ (ap (w (.lays rc tN "backtrace" obD) (by simp [fillW])) (t' := .object "java/lang/Object") (by decide +kernel) n1 qB) (ap (w (.lays rc tN "depth" "I") (by simp [fillW])) (t' := .int) (by decide +kernel) n2 qD) (ap (w (.lays rc tN "stackTrace" steD) (by simp [fillW])) (t' := .array (.object "java/lang/StackTraceElement")) (by decide +kernel) n3 kstack)]
  exact f7
theorem own_stat {Z : State} {a0 : Array Value} {n d : String} (hi : (Cond.initialized tN).before a0 Z = true) (hl : (Cond.laysStatic tN n d).before a0 Z = true) (hr : (Cond.isRef (.static tN n d)).before a0 Z = true) : ∃ v : Value, v.isRef = true ∧ Sta Z Z.heap tN n d v := by
  obtain ⟨c, k, i, f, a, cell, hc, hf, hst, hsta, hcell, hiss, -, -, -⟩ := Cond.laysStatic_spec hl
  obtain ⟨u, hu⟩ := Cond.staticRefV hf hst hsta hcell hiss hr
  exact ⟨u.1, u.2, c, i, k, f, a, cell, hf, hst, Cond.initialized_spec hc (State.fieldFound?_spec hf).1 hi, hsta, hcell, hiss, hu⟩
theorem own_ths {Z : State} {n0 : Nat} {h : Heap} (X : Old Z n0 h) : ThS Z h := ThS.ext X.2 ThS.start
theorem own_ths' {Z s : State} {n0 : Nat} {h : Heap} (hh : s.heap = h) (X : Old Z n0 h) : ThS Z s.heap := by rw [hh]; exact own_ths X
theorem own_b3 {a : Addr} {x1 x2 x3 : Nat} : ∀ x ∈ ([] ++ [(⟨a, x1⟩ : Loc)] ++ [⟨a, x2⟩] ++ [⟨a, x3⟩]), x.base = a := fun x hx => by
  simp only [List.mem_append, List.mem_singleton, List.not_mem_nil, false_or] at hx
  rcases hx with (rfl | rfl) | rfl <;> rfl
end OwnFill
theorem own_le {Z : State} {n0 : Nat} {h : Heap} (X : Old Z n0 h) : n0 ≤ h.size := X.1 ▸ X.2.1
theorem own_nm0 {a : Addr} : a ∉ ([] : List Addr) := List.not_mem_nil
theorem own_nmc {a x : Addr} {L : List Addr} (h : a ≠ x) (k : a ∉ L) : a ∉ x :: L := fun q => (List.mem_cons.mp q).elim h k
theorem own_arrK {Z : State} {h h' : Heap} {a : Addr} {c : Cell} {ty : FieldType} {ws : List Addr} (A : Arr Z h a c ty) (K : Keep h h' ws) (q : a ∉ ws) : Arr Z h' a c ty := ⟨K.2.1 _ _ A.1 q, A.2⟩
theorem own_since (s : State) : s.Since s.vm s.heap.size := ⟨State.Warmed39.refl s, by first | exact State.Booked.refl s | (intro j p h1 h2; exact absurd (Array.getElem?_eq_some_iff.mp h2).1 (Nat.not_lt.mpr h1))⟩
theorem own_str {a0 : Array Value} {Z : State} (hw : ∀ d ∈ tables_1, d.before a0 Z = true) : ∀ a ∈ Bundle.stringAtoms, a.before a0 Z = true := fun d hd => hw d ((by decide +kernel : ∀ d ∈ Bundle.stringAtoms, d ∈ tables_1) d hd)

abbrev ST : String := "java/lang/String"
abbrev RE : String := "com/example/bill_per_call/billpercall/RequestException"
abbrev EC : String := "com/example/bill_per_call/billpercall/ErrorCode"
abbrev TH : String := "java/lang/Throwable"
abbrev ECD : String := "Lcom/example/bill_per_call/billpercall/ErrorCode;"
theorem own_al {s : State} {vm : Vm} {n : Nat} (h : s.Since vm n) : s.vm.Alike vm := h.1.alike
theorem own_chr {Z s T : State} {EL : List (String × Nat)} {h0 H : Heap} (hh : s.heap = h0) (e : T.heap = H) (R : CHr Z EL s.vm h0 T.vm H) : CHr Z EL s.vm s.heap T.vm T.heap := by rw [hh, e]; exact R
theorem own_EL {a0 : Array Value} {Z : State} (hw : ∀ d ∈ tables_1, d.before a0 Z = true) : EW Z a0 consts_1 := EW.cons (hw _ (List.mem_of_getElem? (i := 107) rfl)) (by decide) (EW.cons (hw _ (List.mem_of_getElem? (i := 149) rfl)) (by decide) EW.nil)
theorem own_safeNull {Z : State} {EL : List (String × Nat)} {vm : Vm} {h : Heap} {x : Addr} (hal : Z.vm.Alike vm) (E : Exa Z h x ST) (F : Fld Z h x ST "value" "[B" .null) : Safe Z EL vm h x := fun B => by
  obtain ⟨cell, k, e1, e2, e3, -, -⟩ := E
  have nm : ∀ {n : String} {c : ClassId}, vm.findClass n = some c → c = cell.cls → n = ST := fun {n c} f e => by
    subst e
    rw [hal.findClass] at f
    obtain ⟨k1, q1, q2⟩ := Vm.findClass_spec f
    obtain ⟨k2, q3, q4⟩ := Vm.findClass_spec e2
    cases q1.symm.trans q3
    exact q2.symm.trans q4
  obtain ⟨p, -, u, a, -, q, -, G, rfl | rfl⟩ := B
  · obtain ⟨cell', cf, kf, i, f, h1, h2, -, -, -, -, h7⟩ := F
    cases (show h[q.sa]? = some q.sC from G.ha).symm.trans h1
    obtain ⟨cS, ⟨⟨-, -, -, ⟨c1, k1, i1, f1, -⟩, -, -, -, v1, -⟩, -⟩, -⟩ := G
    obtain ⟨k3, e4⟩ := ff_back (U := Wst Z vm h) hal f1
    have e5 := h2.symm.trans e4
    simp only [Option.some.injEq, Prod.mk.injEq] at e5
    rw [← e5.2.2.2, h7] at v1
    cases v1
  · cases (show h[q.sd]? = some q.SA from G.hd).symm.trans e1
    obtain ⟨cS, -, -, f, -⟩ := G
    exact absurd (nm f rfl) (by decide)
def ExcF (Z : State) (h : Heap) (r w : Addr) (msg : Value) : Prop := Exa Z h r RE ∧ Fld Z h r RE "code" ECD (.ref w) ∧ Fld Z h r TH "detailMessage" "Ljava/lang/String;" msg
theorem own_excE {Z : State} {h h' : Heap} {r w : Addr} {msg : Value} (F : ExcF Z h r w msg) (E : Ext h h') : ExcF Z h' r w msg := ⟨F.1.ext E, F.2.1.ext E, F.2.2.ext E⟩
theorem own_excK {Z : State} {h h' : Heap} {r w : Addr} {msg : Value} (F : ExcF Z h r w msg) (K : Keep h h' []) : ExcF Z h' r w msg := ⟨F.1.keep K, F.2.1.keep K own_nm0, F.2.2.keep K own_nm0⟩
def Qs (r : Option Value) (h0 : Heap) (n0 : Nat) (v : Option Value) (h : Heap) (L : List Loc) : Prop := v = r ∧ Fr n0 L ∧ h = h0
def QRE (Z : State) (a w : Addr) (msg : Value) (h0 : Heap) (n0 : Nat) (v : Option Value) (h : Heap) (L : List Loc) : Prop := v = none ∧ Fr n0 L ∧ Keep h0 h [a] ∧ ExcF Z h a w msg
def QCf (Z : State) (w : Addr) (msg : Value) (h0 : Heap) (n0 : Nat) (v : Option Value) (h : Heap) (L : List Loc) : Prop := ∃ r : Addr, v = some (.ref r) ∧ Fr n0 L ∧ Keep h0 h [] ∧ ExcF Z h r w msg
def QK1 (a : Addr) (h0 : Heap) (n0 : Nat) (v : Option Value) (h : Heap) (L : List Loc) : Prop := v = none ∧ Fr n0 L ∧ Keep h0 h [a]
def QR0 (h0 : Heap) (n0 : Nat) (v : Option Value) (h : Heap) (L : List Loc) : Prop := ∃ r : Addr, v = some (.ref r) ∧ Fr n0 L ∧ Keep h0 h []
def Q0 (h0 : Heap) (n0 : Nat) (v : Option Value) (h : Heap) (L : List Loc) : Prop := v = some (.int (1 : Int32)) ∧ Fr n0 L

def QTh (Z : State) (a : Addr) (msg : Value) (uc : Value) (h0 : Heap) (n0 : Nat) (v : Option Value) (h : Heap) (L : List Loc) : Prop := v = none ∧ Fr n0 L ∧ Keep h0 h [a] ∧ Exa Z h a "com/example/bill_per_call/billpercall/RequestException" ∧ Fld Z h a "java/lang/Throwable" "detailMessage" "Ljava/lang/String;" msg ∧ Fld Z h a "com/example/bill_per_call/billpercall/RequestException" "code" "Lcom/example/bill_per_call/billpercall/ErrorCode;" uc
theorem own_fw {a0 : Array Value} {Z : State} (hw : ∀ d ∈ tables_1, d.before a0 Z = true) : ∀ d ∈ fillW "com/example/bill_per_call/billpercall/RequestException", d.before a0 Z = true := fun d hd => hw d ((by decide +kernel : ∀ d ∈ fillW "com/example/bill_per_call/billpercall/RequestException", d ∈ tables_1) d hd)

theorem own_and3 (x : Int32) : x &&& 3 = 0 ∨ x &&& 3 = 1 ∨ x &&& 3 = 2 ∨ x &&& 3 = 3 := by
  have h := c_mask x 3 2 (by decide) (by decide)
  have h' : (x &&& 3).toInt = 0 ∨ (x &&& 3).toInt = 1 ∨ (x &&& 3).toInt = 2 ∨ (x &&& 3).toInt = 3 := by rw [h]; omega
  rcases h' with h' | h' | h' | h'
  · exact Or.inl (Int32.toInt_inj.mp h')
  · exact Or.inr (Or.inl (Int32.toInt_inj.mp h'))
  · exact Or.inr (Or.inr (Or.inl (Int32.toInt_inj.mp h')))
  · exact Or.inr (Or.inr (Or.inr (Int32.toInt_inj.mp h')))
theorem own_k256 (x : Int32) : ∃ k : Fin 256, (x &&& 255) = Int32.ofNat k.val := by
  have h : (x &&& 255).toBitVec.toNat < 256 := by
    simp only [Int32.toBitVec_and, BitVec.toNat_and]
    exact Nat.lt_succ_of_le Nat.and_le_right
  refine ⟨⟨_, h⟩, ?_⟩
  apply Int32.toBitVec_inj.mp
  show _ = BitVec.ofNat 32 _
  rw [BitVec.ofNat_toNat]; simp
theorem own_and255 (x : Int32) : ¬ nar .char ((x &&& (255 : Int32)).toUInt32.toUInt16.toUInt32.toInt32) < 0 ∧ ¬ (255 : Int32) < nar .char ((x &&& (255 : Int32)).toUInt32.toUInt16.toUInt32.toInt32) := by
  have t : ∀ k : Fin 256, ¬ nar .char ((Int32.ofNat k.val).toUInt32.toUInt16.toUInt32.toInt32) < 0 ∧ ¬ (255 : Int32) < nar .char ((Int32.ofNat k.val).toUInt32.toUInt16.toUInt32.toInt32) := by decide +kernel
  obtain ⟨k, e⟩ := own_k256 x
  rw [e]; exact t k
theorem own_and255b (x : Int32) : ¬ ((x &&& (255 : Int32)).toUInt32.toUInt16.toUInt32.toInt32) < 0 ∧ ¬ (255 : Int32) < ((x &&& (255 : Int32)).toUInt32.toUInt16.toUInt32.toInt32) := by
  have t : ∀ k : Fin 256, ¬ ((Int32.ofNat k.val).toUInt32.toUInt16.toUInt32.toInt32) < 0 ∧ ¬ (255 : Int32) < ((Int32.ofNat k.val).toUInt32.toUInt16.toUInt32.toInt32) := by decide +kernel
  obtain ⟨k, e⟩ := own_k256 x
  rw [e]; exact t k
theorem own_two {P : Int32 → Prop} {a b : Int32} (h : P a) (k : P b) : ∀ c ∈ ([a, b] : List Int32), P c := fun c hc => by
  simp only [List.mem_cons, List.not_mem_nil, or_false] at hc
  rcases hc with rfl | rfl
  · exact h
  · exact k
theorem own_or1 {v : Option Value} {A B : List Int32} (h : (v = some (.int 1) ∧ A = B) ∨ (v = some (.int 0) ∧ ¬ A = B)) (e : A = B) : v = some (.int (1 : Int32)) := h.elim (fun q => q.1) (fun q => absurd e q.2)
theorem d10_0 : decode jdk_78_method_2_code 0 = .ok (.aload_n 0, 1) := by decide +kernel
theorem d10_1 : decode jdk_78_method_2_code 1 = .ok (.invokespecial 1, 3) := by decide +kernel
theorem d10_4 : decode jdk_78_method_2_code 4 = .ok (.aload_n 0, 1) := by decide +kernel
theorem d10_5 : decode jdk_78_method_2_code 5 = .ok (.aload_n 0, 1) := by decide +kernel
theorem d10_6 : decode jdk_78_method_2_code 6 = .ok (.putfield 7, 3) := by decide +kernel
theorem d10_9 : decode jdk_78_method_2_code 9 = .ok (.aload_n 0, 1) := by decide +kernel
theorem d10_10 : decode jdk_78_method_2_code 10 = .ok (.getstatic 13, 3) := by decide +kernel
theorem d10_13 : decode jdk_78_method_2_code 13 = .ok (.putfield 17, 3) := by decide +kernel
theorem d10_16 : decode jdk_78_method_2_code 16 = .ok (.aload_n 0, 1) := by decide +kernel
theorem d10_17 : decode jdk_78_method_2_code 17 = .ok (.getstatic 20, 3) := by decide +kernel
theorem d10_20 : decode jdk_78_method_2_code 20 = .ok (.putfield 24, 3) := by decide +kernel
theorem d10_23 : decode jdk_78_method_2_code 23 = .ok (.aload_n 0, 1) := by decide +kernel
theorem d10_24 : decode jdk_78_method_2_code 24 = .ok (.invokevirtual 27, 3) := by decide +kernel
theorem d10_27 : decode jdk_78_method_2_code 27 = .ok (.pop, 1) := by decide +kernel
theorem d10_28 : decode jdk_78_method_2_code 28 = .ok (.aload_n 0, 1) := by decide +kernel
theorem d10_29 : decode jdk_78_method_2_code 29 = .ok (.aload_n 1, 1) := by decide +kernel
theorem d10_30 : decode jdk_78_method_2_code 30 = .ok (.putfield 31, 3) := by decide +kernel
theorem d10_33 : decode jdk_78_method_2_code 33 = .ok (.return_, 1) := by decide +kernel
theorem pn_10 : plainName "java/lang/Throwable" = true := by first | (simp [plainName, overriddenIn]; done) | decide +kernel
theorem ef_10vn (m : MethodId) (x0 : Addr) : entryFrame m #[(.ref x0), .null] 2 = mkF m 0 #[.val (.ref x0), .val .null] [] := by first | (simp [entryFrame, mkF, argsToLocals, Value.category]; done) | rfl
theorem d9_0 : decode jdk_59_method_2_code 0 = .ok (.aload_n 0, 1) := by decide +kernel
theorem d9_1 : decode jdk_59_method_2_code 1 = .ok (.aload_n 1, 1) := by decide +kernel
theorem d9_2 : decode jdk_59_method_2_code 2 = .ok (.invokespecial 7, 3) := by decide +kernel
theorem pd_Ljava_lang_String__V : parseMethodDescriptor "(Ljava/lang/String;)V" = some ⟨[(.object "java/lang/String")], none⟩ := by decide +kernel
theorem d9_5 : decode jdk_59_method_2_code 5 = .ok (.return_, 1) := by decide +kernel
theorem pn_9 : plainName "java/lang/Exception" = true := by first | (simp [plainName, overriddenIn]; done) | decide +kernel
theorem ef_9vn (m : MethodId) (x0 : Addr) : entryFrame m #[(.ref x0), .null] 2 = mkF m 0 #[.val (.ref x0), .val .null] [] := by first | (simp [entryFrame, mkF, argsToLocals, Value.category]; done) | rfl
theorem d8_0 : decode jdk_58_method_2_code 0 = .ok (.aload_n 0, 1) := by decide +kernel
theorem d8_1 : decode jdk_58_method_2_code 1 = .ok (.aload_n 1, 1) := by decide +kernel
theorem d8_2 : decode jdk_58_method_2_code 2 = .ok (.invokespecial 7, 3) := by decide +kernel
theorem d8_5 : decode jdk_58_method_2_code 5 = .ok (.return_, 1) := by decide +kernel
theorem pn_8 : plainName "java/lang/RuntimeException" = true := by first | (simp [plainName, overriddenIn]; done) | decide +kernel
theorem ef_8vn (m : MethodId) (x0 : Addr) : entryFrame m #[(.ref x0), .null] 2 = mkF m 0 #[.val (.ref x0), .val .null] [] := by first | (simp [entryFrame, mkF, argsToLocals, Value.category]; done) | rfl
theorem ef_10 (m : MethodId) (x0 : Addr) (x1 : Addr) : entryFrame m #[(.ref x0), (.ref x1)] 2 = mkF m 0 #[.val (.ref x0), .val (.ref x1)] [] := by first | (simp [entryFrame, mkF, argsToLocals, Value.category]; done) | rfl
theorem ef_9 (m : MethodId) (x0 : Addr) (x1 : Addr) : entryFrame m #[(.ref x0), (.ref x1)] 2 = mkF m 0 #[.val (.ref x0), .val (.ref x1)] [] := by first | (simp [entryFrame, mkF, argsToLocals, Value.category]; done) | rfl
theorem ef_8 (m : MethodId) (x0 : Addr) (x1 : Addr) : entryFrame m #[(.ref x0), (.ref x1)] 2 = mkF m 0 #[.val (.ref x0), .val (.ref x1)] [] := by first | (simp [entryFrame, mkF, argsToLocals, Value.category]; done) | rfl
theorem d7_0 : decode prog_7_method_1_code 0 = .ok (.aload_n 0, 1) := by decide +kernel
theorem d7_1 : decode prog_7_method_1_code 1 = .ok (.aload_n 2, 1) := by decide +kernel
theorem d7_2 : decode prog_7_method_1_code 2 = .ok (.invokespecial 1, 3) := by decide +kernel
theorem d7_5 : decode prog_7_method_1_code 5 = .ok (.aload_n 0, 1) := by decide +kernel
theorem d7_6 : decode prog_7_method_1_code 6 = .ok (.aload_n 1, 1) := by decide +kernel
theorem d7_7 : decode prog_7_method_1_code 7 = .ok (.putfield 7, 3) := by decide +kernel
theorem d7_10 : decode prog_7_method_1_code 10 = .ok (.return_, 1) := by decide +kernel
theorem pn_7 : plainName "com/example/bill_per_call/billpercall/RequestException" = true := by first | (simp [plainName, overriddenIn]; done) | decide +kernel
theorem ef_7vvn (m : MethodId) (x0 : Addr) (x1 : Addr) : entryFrame m #[(.ref x0), (.ref x1), .null] 3 = mkF m 0 #[.val (.ref x0), .val (.ref x1), .val .null] [] := by first | (simp [entryFrame, mkF, argsToLocals, Value.category]; done) | rfl
theorem ef_7 (m : MethodId) (x0 : Addr) (x1 : Addr) (x2 : Addr) : entryFrame m #[(.ref x0), (.ref x1), (.ref x2)] 3 = mkF m 0 #[.val (.ref x0), .val (.ref x1), .val (.ref x2)] [] := by first | (simp [entryFrame, mkF, argsToLocals, Value.category]; done) | rfl
theorem d6_0 : decode prog_7_method_4_code 0 = .ok (.new 8, 3) := by decide +kernel
theorem d6_3 : decode prog_7_method_4_code 3 = .ok (.dup, 1) := by decide +kernel
theorem d6_4 : decode prog_7_method_4_code 4 = .ok (.getstatic 24, 3) := by decide +kernel
theorem d6_7 : decode prog_7_method_4_code 7 = .ok (.aload_n 0, 1) := by decide +kernel
theorem d6_8 : decode prog_7_method_4_code 8 = .ok (.invokespecial 18, 3) := by decide +kernel
theorem pd_Lcom_example_bill_per_call_billpercall_ErrorCode_Ljava_lang_String__V : parseMethodDescriptor "(Lcom/example/bill_per_call/billpercall/ErrorCode;Ljava/lang/String;)V" = some ⟨[(.object "com/example/bill_per_call/billpercall/ErrorCode"), (.object "java/lang/String")], none⟩ := by decide +kernel
theorem d6_11 : decode prog_7_method_4_code 11 = .ok (.areturn, 1) := by decide +kernel
theorem pn_6 : plainName "com/example/bill_per_call/billpercall/RequestException" = true := by first | (simp [plainName, overriddenIn]; done) | decide +kernel
theorem ef_6n (m : MethodId)  : entryFrame m #[.null] 1 = mkF m 0 #[.val .null] [] := by first | (simp [entryFrame, mkF, argsToLocals, Value.category]; done) | rfl
theorem ef_6 (m : MethodId) (x0 : Addr) : entryFrame m #[(.ref x0)] 1 = mkF m 0 #[.val (.ref x0)] [] := by first | (simp [entryFrame, mkF, argsToLocals, Value.category]; done) | rfl
theorem d13_0 : decode prog_7_method_7_code 0 = .ok (.aload_n 0, 1) := by decide +kernel
theorem d13_1 : decode prog_7_method_7_code 1 = .ok (.getfield 7, 3) := by decide +kernel
theorem d13_4 : decode prog_7_method_7_code 4 = .ok (.areturn, 1) := by decide +kernel
theorem pn_13 : plainName "com/example/bill_per_call/billpercall/RequestException" = true := by first | (simp [plainName, overriddenIn]; done) | decide +kernel
theorem ef_13 (m : MethodId) (x0 : Addr) : entryFrame m #[(.ref x0)] 1 = mkF m 0 #[.val (.ref x0)] [] := by first | (simp [entryFrame, mkF, argsToLocals, Value.category]; done) | rfl
theorem d14_0 : decode prog_3_method_4_code 0 = .ok (.aload_n 0, 1) := by decide +kernel
theorem d14_1 : decode prog_3_method_4_code 1 = .ok (.getfield 41, 3) := by decide +kernel
theorem d14_4 : decode prog_3_method_4_code 4 = .ok (.ireturn, 1) := by decide +kernel
theorem pn_14 : plainName "com/example/bill_per_call/billpercall/ErrorCode" = true := by first | (simp [plainName, overriddenIn]; done) | decide +kernel
theorem ef_14 (m : MethodId) (x0 : Addr) : entryFrame m #[(.ref x0)] 1 = mkF m 0 #[.val (.ref x0)] [] := by first | (simp [entryFrame, mkF, argsToLocals, Value.category]; done) | rfl
theorem d15_0 : decode prog_3_method_5_code 0 = .ok (.aload_n 0, 1) := by decide +kernel
theorem d15_1 : decode prog_3_method_5_code 1 = .ok (.getfield 45, 3) := by decide +kernel
theorem d15_4 : decode prog_3_method_5_code 4 = .ok (.areturn, 1) := by decide +kernel
theorem pn_15 : plainName "com/example/bill_per_call/billpercall/ErrorCode" = true := by first | (simp [plainName, overriddenIn]; done) | decide +kernel
theorem ef_15 (m : MethodId) (x0 : Addr) : entryFrame m #[(.ref x0)] 1 = mkF m 0 #[.val (.ref x0)] [] := by first | (simp [entryFrame, mkF, argsToLocals, Value.category]; done) | rfl
theorem d18_0 : decode jdk_78_method_6_code 0 = .ok (.aload_n 0, 1) := by decide +kernel
theorem d18_1 : decode jdk_78_method_6_code 1 = .ok (.getfield 31, 3) := by decide +kernel
theorem d18_4 : decode jdk_78_method_6_code 4 = .ok (.areturn, 1) := by decide +kernel
theorem pn_18 : plainName "java/lang/Throwable" = true := by first | (simp [plainName, overriddenIn]; done) | decide +kernel
theorem ef_18 (m : MethodId) (x0 : Addr) : entryFrame m #[(.ref x0)] 1 = mkF m 0 #[.val (.ref x0)] [] := by first | (simp [entryFrame, mkF, argsToLocals, Value.category]; done) | rfl
theorem d2_0 : decode jdk_43_method_3_code 0 = .ok (.iload_n 0, 1) := by decide +kernel
theorem d2_1 : decode jdk_43_method_3_code 1 = .ok (.sipush 255, 3) := by decide +kernel
theorem d2_4 : decode jdk_43_method_3_code 4 = .ok (.if_icmp .gt 7, 3) := by decide +kernel
theorem d2_7 : decode jdk_43_method_3_code 7 = .ok (.iconst 1, 1) := by decide +kernel
theorem d2_8 : decode jdk_43_method_3_code 8 = .ok (.goto 4, 3) := by decide +kernel
theorem d2_12 : decode jdk_43_method_3_code 12 = .ok (.ireturn, 1) := by decide +kernel
theorem pn_2 : plainName "java/lang/StringLatin1" = true := by first | (simp [plainName, overriddenIn]; done) | decide +kernel
theorem ef_2 (m : MethodId) (x0 : Int32) : entryFrame m #[(.int x0)] 1 = mkF m 0 #[.val (.int x0)] [] := by first | (simp [entryFrame, mkF, argsToLocals, Value.category]; done) | rfl
theorem d3_0 : decode jdk_43_method_46_code 0 = .ok (.iconst 1, 1) := by decide +kernel
theorem d3_1 : decode jdk_43_method_46_code 1 = .ok (.newarray .byte, 2) := by decide +kernel
theorem d3_3 : decode jdk_43_method_46_code 3 = .ok (.dup, 1) := by decide +kernel
theorem d3_4 : decode jdk_43_method_46_code 4 = .ok (.iconst 0, 1) := by decide +kernel
theorem d3_5 : decode jdk_43_method_46_code 5 = .ok (.iload_n 0, 1) := by decide +kernel
theorem d3_6 : decode jdk_43_method_46_code 6 = .ok (.i2b, 1) := by decide +kernel
theorem d3_7 : decode jdk_43_method_46_code 7 = .ok (.bastore, 1) := by decide +kernel
theorem d3_8 : decode jdk_43_method_46_code 8 = .ok (.areturn, 1) := by decide +kernel
theorem pn_3 : plainName "java/lang/StringLatin1" = true := by first | (simp [plainName, overriddenIn]; done) | decide +kernel
theorem ef_3 (m : MethodId) (x0 : Int32) : entryFrame m #[(.int x0)] 1 = mkF m 0 #[.val (.int x0)] [] := by first | (simp [entryFrame, mkF, argsToLocals, Value.category]; done) | rfl
theorem d4_0 : decode jdk_42_method_151_code 0 = .ok (.aload_n 0, 1) := by decide +kernel
theorem d4_1 : decode jdk_42_method_151_code 1 = .ok (.invokespecial 1, 3) := by decide +kernel
theorem d4_4 : decode jdk_42_method_151_code 4 = .ok (.aload_n 0, 1) := by decide +kernel
theorem d4_5 : decode jdk_42_method_151_code 5 = .ok (.aload_n 1, 1) := by decide +kernel
theorem d4_6 : decode jdk_42_method_151_code 6 = .ok (.putfield 9, 3) := by decide +kernel
theorem d4_9 : decode jdk_42_method_151_code 9 = .ok (.aload_n 0, 1) := by decide +kernel
theorem d4_10 : decode jdk_42_method_151_code 10 = .ok (.iload_n 2, 1) := by decide +kernel
theorem d4_11 : decode jdk_42_method_151_code 11 = .ok (.putfield 15, 3) := by decide +kernel
theorem d4_14 : decode jdk_42_method_151_code 14 = .ok (.return_, 1) := by decide +kernel
theorem pn_4 : plainName "java/lang/String" = true := by first | (simp [plainName, overriddenIn]; done) | decide +kernel
theorem ef_4 (m : MethodId) (x0 : Addr) (x1 : Addr) (x2 : Int32) : entryFrame m #[(.ref x0), (.ref x1), (.int x2)] 3 = mkF m 0 #[.val (.ref x0), .val (.ref x1), .val (.int x2)] [] := by first | (simp [entryFrame, mkF, argsToLocals, Value.category]; done) | rfl
theorem d1_0 : decode jdk_42_method_139_code 0 = .ok (.getstatic 38, 3) := by decide +kernel
theorem d1_3 : decode jdk_42_method_139_code 3 = .ok (.ifCond .eq 23, 3) := by decide +kernel
theorem d1_6 : decode jdk_42_method_139_code 6 = .ok (.iload_n 0, 1) := by decide +kernel
theorem d1_7 : decode jdk_42_method_139_code 7 = .ok (.invokestatic 1015, 3) := by decide +kernel
theorem pd_C_Z : parseMethodDescriptor "(C)Z" = some ⟨[.char], some .boolean⟩ := by decide +kernel
theorem d1_10 : decode jdk_42_method_139_code 10 = .ok (.ifCond .eq 16, 3) := by decide +kernel
theorem d1_13 : decode jdk_42_method_139_code 13 = .ok (.new 10, 3) := by decide +kernel
theorem d1_16 : decode jdk_42_method_139_code 16 = .ok (.dup, 1) := by decide +kernel
theorem d1_17 : decode jdk_42_method_139_code 17 = .ok (.iload_n 0, 1) := by decide +kernel
theorem d1_18 : decode jdk_42_method_139_code 18 = .ok (.invokestatic 1018, 3) := by decide +kernel
theorem pd_C_AB : parseMethodDescriptor "(C)[B" = some ⟨[.char], some (.array .byte)⟩ := by decide +kernel
theorem d1_21 : decode jdk_42_method_139_code 21 = .ok (.iconst 0, 1) := by decide +kernel
theorem d1_22 : decode jdk_42_method_139_code 22 = .ok (.invokespecial 209, 3) := by decide +kernel
theorem pd_ABB_V : parseMethodDescriptor "([BB)V" = some ⟨[(.array .byte), .byte], none⟩ := by decide +kernel
theorem d1_25 : decode jdk_42_method_139_code 25 = .ok (.areturn, 1) := by decide +kernel
theorem pn_1 : plainName "java/lang/String" = true := by first | (simp [plainName, overriddenIn]; done) | decide +kernel
theorem ef_1 (m : MethodId) (x0 : Int32) : entryFrame m #[(.int x0)] 1 = mkF m 0 #[.val (.int x0)] [] := by first | (simp [entryFrame, mkF, argsToLocals, Value.category]; done) | rfl
theorem d20_0 : decode jdk_42_method_149_code 0 = .ok (.aload_n 0, 1) := by decide +kernel
theorem d20_1 : decode jdk_42_method_149_code 1 = .ok (.invokespecial 1, 3) := by decide +kernel
theorem d20_4 : decode jdk_42_method_149_code 4 = .ok (.iload_n 3, 1) := by decide +kernel
theorem d20_5 : decode jdk_42_method_149_code 5 = .ok (.ifCond .ne 22, 3) := by decide +kernel
theorem d20_8 : decode jdk_42_method_149_code 8 = .ok (.aload_n 0, 1) := by decide +kernel
theorem d20_9 : decode jdk_42_method_149_code 9 = .ok (.ldc 7, 2) := by decide +kernel
theorem d20_11 : decode jdk_42_method_149_code 11 = .ok (.getfield 9, 3) := by decide +kernel
theorem d20_14 : decode jdk_42_method_149_code 14 = .ok (.putfield 9, 3) := by decide +kernel
theorem d20_17 : decode jdk_42_method_149_code 17 = .ok (.aload_n 0, 1) := by decide +kernel
theorem d20_18 : decode jdk_42_method_149_code 18 = .ok (.ldc 7, 2) := by decide +kernel
theorem d20_20 : decode jdk_42_method_149_code 20 = .ok (.getfield 15, 3) := by decide +kernel
theorem d20_23 : decode jdk_42_method_149_code 23 = .ok (.putfield 15, 3) := by decide +kernel
theorem d20_26 : decode jdk_42_method_149_code 26 = .ok (.return_, 1) := by decide +kernel
theorem pn_20 : plainName "java/lang/String" = true := by first | (simp [plainName, overriddenIn]; done) | decide +kernel
theorem ef_20vvvvn (m : MethodId) (x0 : Addr) (x1 : Addr) (x2 : Int32) (x3 : Int32) : entryFrame m #[(.ref x0), (.ref x1), (.int x2), (.int x3), .null] 6 = mkF m 0 #[.val (.ref x0), .val (.ref x1), .val (.int x2), .val (.int x3), .val .null, .unset] [] := by first | (simp [entryFrame, mkF, argsToLocals, Value.category]; done) | rfl
theorem d19_0 : decode jdk_42_method_3_code 0 = .ok (.aload_n 0, 1) := by decide +kernel
theorem d19_1 : decode jdk_42_method_3_code 1 = .ok (.aload_n 1, 1) := by decide +kernel
theorem d19_2 : decode jdk_42_method_3_code 2 = .ok (.iconst 0, 1) := by decide +kernel
theorem d19_3 : decode jdk_42_method_3_code 3 = .ok (.aload_n 1, 1) := by decide +kernel
theorem d19_4 : decode jdk_42_method_3_code 4 = .ok (.arraylength, 1) := by decide +kernel
theorem d19_5 : decode jdk_42_method_3_code 5 = .ok (.aconst_null, 1) := by decide +kernel
theorem d19_6 : decode jdk_42_method_3_code 6 = .ok (.invokespecial 27, 3) := by decide +kernel
theorem pd_ACIILjava_lang_Void__V : parseMethodDescriptor "([CIILjava/lang/Void;)V" = some ⟨[(.array .char), .int, .int, (.object "java/lang/Void")], none⟩ := by decide +kernel
theorem d19_9 : decode jdk_42_method_3_code 9 = .ok (.return_, 1) := by decide +kernel
theorem pn_19 : plainName "java/lang/String" = true := by first | (simp [plainName, overriddenIn]; done) | decide +kernel
theorem ef_19 (m : MethodId) (x0 : Addr) (x1 : Addr) : entryFrame m #[(.ref x0), (.ref x1)] 2 = mkF m 0 #[.val (.ref x0), .val (.ref x1)] [] := by first | (simp [entryFrame, mkF, argsToLocals, Value.category]; done) | rfl
theorem pd_Ljava_lang_String__Lcom_example_bill_per_call_billpercall_RequestException_ : parseMethodDescriptor "(Ljava/lang/String;)Lcom/example/bill_per_call/billpercall/RequestException;" = some ⟨[(.object "java/lang/String")], some (.object "com/example/bill_per_call/billpercall/RequestException")⟩ := by decide +kernel
theorem pd__Lcom_example_bill_per_call_billpercall_ErrorCode_ : parseMethodDescriptor "()Lcom/example/bill_per_call/billpercall/ErrorCode;" = some ⟨[], some (.object "com/example/bill_per_call/billpercall/ErrorCode")⟩ := by decide +kernel
theorem pd__I : parseMethodDescriptor "()I" = some ⟨[], some .int⟩ := by decide +kernel
theorem pd__Ljava_lang_String_ : parseMethodDescriptor "()Ljava/lang/String;" = some ⟨[], some (.object "java/lang/String")⟩ := by decide +kernel
theorem pd_Ljava_lang_Object__Z : parseMethodDescriptor "(Ljava/lang/Object;)Z" = some ⟨[(.object "java/lang/Object")], some .boolean⟩ := by decide +kernel
theorem pn_0 : plainName "com/example/bill_per_call/billpercall/RequestExceptionConflictPinLaw" = true := by first | (simp [plainName, overriddenIn]; done) | decide +kernel
theorem ef_0 (m : MethodId) (x0 : Int32) (x1 : Int32) (x2 : Int32) : entryFrame m #[(.int x0), (.int x1), (.int x2)] maxLocals = mkF m 0 #[.val (.int x0), .val (.int x1), .val (.int x2), .unset, .unset, .unset, .unset, .unset, .unset] [] := by first | (simp [entryFrame, mkF, argsToLocals, Value.category, maxLocals]; done) | rfl
theorem pd_AC_V : parseMethodDescriptor "([C)V" = some ⟨[(.array .char)], none⟩ := by decide +kernel
theorem pd_C_Ljava_lang_String_ : parseMethodDescriptor "(C)Ljava/lang/String;" = some ⟨[.char], some (.object "java/lang/String")⟩ := by decide +kernel
set_option maxRecDepth 65536 in
set_option maxHeartbeats 40000000 in
theorem rmX0u_n (l : Launch) (Z : State) (a0 : Array Value) (hw : ∀ d ∈ tables_1, d.before a0 Z = true) (ws : List Jvm.Cond) (a1 : Addr) (us : Value) (ss : Value) (uc : Value) (h0 : Heap) (n0 : Nat) (X00 : Old Z n0 h0) (hl : l.stackTraces = true) (hr2 : ∀ d ∈ twoRefs, d.before a0 Z = true) (hus : us.isRef = true) (hss : ss.isRef = true) (S_u : Sta Z Z.heap "java/lang/Throwable" "UNASSIGNED_STACK" "[Ljava/lang/StackTraceElement;" us) (S_s : Sta Z Z.heap "java/lang/Throwable" "SUPPRESSED_SENTINEL" "Ljava/util/List;" ss) (E_a1 : Exa Z h0 a1 "com/example/bill_per_call/billpercall/RequestException") (U_a1 : Unt h0 a1) (F_b : Fld Z h0 a1 "java/lang/Throwable" "backtrace" "Ljava/lang/Object;" .null) (F_m : Fld Z h0 a1 "java/lang/Throwable" "detailMessage" "Ljava/lang/String;" .null) (F_ca : Fld Z h0 a1 "java/lang/Throwable" "cause" "Ljava/lang/Throwable;" .null) (F_st : Fld Z h0 a1 "java/lang/Throwable" "stackTrace" "[Ljava/lang/StackTraceElement;" .null) (F_su : Fld Z h0 a1 "java/lang/Throwable" "suppressedExceptions" "Ljava/util/List;" .null) (F_uc : Fld Z h0 a1 "com/example/bill_per_call/billpercall/RequestException" "code" "Lcom/example/bill_per_call/billpercall/ErrorCode;" uc) (g_a1 : n0 ≤ a1) :
    MetFree l (⟨"java/lang/Throwable", "<init>", "(Ljava/lang/String;)V"⟩ : MethodName) (head1 (Jvm.Cond.code (⟨"java/lang/Throwable", "<init>", "(Ljava/lang/String;)V"⟩ : MethodName) jdk_78_method_2_code 2 none :: ws) ({ frames := 3, cells := 1, slots := 2752, locals := 42 } : Room)) (fun a U => a = #[(.ref a1), .null] ∧ Z.Warmed39 U.vm ∧ U.heap = h0) (fun _ _ bl s _ => s.vm.MethodsKnown ∧ s.vm.FramesKnown bl) (fun _ U o U' => ∃ rv rL, o = .returned rv ∧ QTh Z a1 .null uc h0 n0 rv U'.heap rL ∧ FrameEnd U o U' rL ({ frames := 3, cells := 1, slots := 2752, locals := 42 } : Room).cells ({ frames := 3, cells := 1, slots := 2752, locals := 42 } : Room).slots) := by
  refine MetFree.of_bodySF (plainFor_of_name pn_10) hisR ?_
  intro p e s m args below meth c s₁ Bd hml0 hP hK
  obtain ⟨rfl, hZ, hh⟩ := hP
  have hx := Bd.exec
  have hby := Bd.bytes
  have hml : c.maxLocals = 2 := hml0
  have hown : s.vm.findClass "java/lang/Throwable" = some m.cls := findClass_of_methodNamed Bd.named
  have hnm := (name_of_methodNamed Bd.named Bd.method).1
  have X0 : Stand p l e ({ frames := 3, cells := 1, slots := 2752, locals := 42 } : Room) s m #[(.ref a1), .null] below meth c s₁ [] 0 0 := Stand.of_body Bd
  have e0 : s₁.heap = h0 := by rw [← hh, Bd.state]; rfl
  have N0 := Fr.nil n0
  have pre0 : ∀ t, Steps p.tables e below (s₁.setTop (mkF m 0 #[.val (.ref a1), .val .null] [])) t → Steps p.tables e below (s₁.setTop (entryFrame m #[(.ref a1), .null] 2)) t := fun t k => castTop (ef_10vn m a1) k
  obtain ⟨T101, X101, e101, st101⟩ := initO X0 hx hZ hown (hw _ (List.mem_of_getElem? (i := 55) rfl)) (hw _ (List.mem_of_getElem? (i := 20) rfl)) (hw _ (List.mem_of_getElem? (i := 21) rfl)) e0 (g := (mkF m 1 #[.val (.ref a1), .val .null] [(.ref a1)])) rfl (by rw [hml]; rfl) rfl (hb hby d10_1) (by decide) (W := 0) (by show 2 * 0 + _ ≤ _; exact Nat.le_of_eq rfl) (by decide)
  obtain ⟨T102, h102, X102, e102, W102, st102⟩ := putF X101 hx hZ hown (host := "") (Or.inl (hw _ (List.mem_of_getElem? (i := 56) rfl))) Via.refl e101 F_ca E_a1 (Or.inl (hw _ (List.mem_of_getElem? (i := 57) rfl))) (hw _ (List.mem_of_getElem? (i := 31) rfl)) (ty := (.object "java/lang/Throwable")) (by decide) rfl rfl (g := (mkF m 6 #[.val (.ref a1), .val .null] [(.ref a1), (.ref a1)])) rfl rfl (hb hby d10_6)
  have Fw102 := F_ca.same W102
  have N102 := Fr.snoc X102 N0 g_a1
  have y104 := (X00.wr W102 g_a1)
  obtain ⟨T103, X103, e103, st103⟩ := getS2 X102 hx hZ hown (host := "") (Or.inl (hw _ (List.mem_of_getElem? (i := 58) rfl))) Via.refl e102 (S_u.ext y104.2) (g := (mkF m 10 #[.val (.ref a1), .val .null] [(.ref a1)])) rfl (hb hby d10_10)
  have y105 := (F_st.other W102 (Or.inr (slot_ne (Or.inl (hw _ (List.mem_of_getElem? (i := 60) rfl))) (Or.inl (hw _ (List.mem_of_getElem? (i := 57) rfl))) (by decide) (t := (.array (.object "java/lang/StackTraceElement"))) (t' := (.object "java/lang/Throwable")) (by decide) (by decide))))
  have y106 := (E_a1.wr W102)
  obtain ⟨T107, h107, X107, e107, W107, st107⟩ := putF X103 hx hZ hown (host := "") (Or.inl (hw _ (List.mem_of_getElem? (i := 59) rfl))) Via.refl e103 y105 y106 (Or.inl (hw _ (List.mem_of_getElem? (i := 60) rfl))) (hw _ (List.mem_of_getElem? (i := 31) rfl)) (ty := (.array (.object "java/lang/StackTraceElement"))) (by decide) (narrow_isRef _ hus) (fits_refV_array _ ⟨us, hus⟩) (g := (mkF m 13 #[.val (.ref a1), .val .null] [us, (.ref a1)])) rfl rfl (hb hby d10_13)
  have Fw107 := y105.same W107
  have N107 := Fr.snoc X107 N102 g_a1
  have y109 := (y104.wr W107 g_a1)
  obtain ⟨T108, X108, e108, st108⟩ := getS2 X107 hx hZ hown (host := "") (Or.inl (hw _ (List.mem_of_getElem? (i := 61) rfl))) Via.refl e107 (S_s.ext y109.2) (g := (mkF m 17 #[.val (.ref a1), .val .null] [(.ref a1)])) rfl (hb hby d10_17)
  have y110 := ((F_su.other W102 (Or.inr (slot_ne (Or.inl (hw _ (List.mem_of_getElem? (i := 63) rfl))) (Or.inl (hw _ (List.mem_of_getElem? (i := 57) rfl))) (by decide) (t := (.object "java/util/List")) (t' := (.object "java/lang/Throwable")) (by decide) (by decide)))).other W107 (Or.inr (slot_ne (Or.inl (hw _ (List.mem_of_getElem? (i := 63) rfl))) (Or.inl (hw _ (List.mem_of_getElem? (i := 60) rfl))) (by decide) (t := (.object "java/util/List")) (t' := (.array (.object "java/lang/StackTraceElement"))) (by decide) (by decide))))
  have y111 := (y106.wr W107)
  obtain ⟨T112, h112, X112, e112, W112, st112⟩ := putF X108 hx hZ hown (host := "") (Or.inl (hw _ (List.mem_of_getElem? (i := 62) rfl))) Via.refl e108 y110 y111 (Or.inl (hw _ (List.mem_of_getElem? (i := 63) rfl))) (hw _ (List.mem_of_getElem? (i := 31) rfl)) (ty := (.object "java/util/List")) (by decide) (narrow_isRef _ hss) (fits_refV_object _ ⟨ss, hss⟩) (g := (mkF m 20 #[.val (.ref a1), .val .null] [ss, (.ref a1)])) rfl rfl (hb hby d10_20)
  have Fw112 := y110.same W112
  have N112 := Fr.snoc X112 N107 g_a1
  have y114 := (((F_b.other W102 (Or.inr (slot_ne (Or.inl (hw _ (List.mem_of_getElem? (i := 88) rfl))) (Or.inl (hw _ (List.mem_of_getElem? (i := 57) rfl))) (by decide) (t := (.object "java/lang/Object")) (t' := (.object "java/lang/Throwable")) (by decide) (by decide)))).other W107 (Or.inr (slot_ne (Or.inl (hw _ (List.mem_of_getElem? (i := 88) rfl))) (Or.inl (hw _ (List.mem_of_getElem? (i := 60) rfl))) (by decide) (t := (.object "java/lang/Object")) (t' := (.array (.object "java/lang/StackTraceElement"))) (by decide) (by decide)))).other W112 (Or.inr (slot_ne (Or.inl (hw _ (List.mem_of_getElem? (i := 88) rfl))) (Or.inl (hw _ (List.mem_of_getElem? (i := 63) rfl))) (by decide) (t := (.object "java/lang/Object")) (t' := (.object "java/util/List")) (by decide) (by decide))))
  have y115 := (Fw107.other W112 (Or.inr (slot_ne (Or.inl (hw _ (List.mem_of_getElem? (i := 60) rfl))) (Or.inl (hw _ (List.mem_of_getElem? (i := 63) rfl))) (by decide) (t := (.array (.object "java/lang/StackTraceElement"))) (t' := (.object "java/util/List")) (by decide) (by decide))))
  have y116 := (y111.wr W112)
  have y117 := (Unt.wr W112 (Unt.wr W107 (Unt.wr W102 U_a1)))
  have y118 := (((F_m.other W102 (Or.inr (slot_ne (Or.inl (hw _ (List.mem_of_getElem? (i := 87) rfl))) (Or.inl (hw _ (List.mem_of_getElem? (i := 57) rfl))) (by decide) (t := (.object "java/lang/String")) (t' := (.object "java/lang/Throwable")) (by decide) (by decide)))).other W107 (Or.inr (slot_ne (Or.inl (hw _ (List.mem_of_getElem? (i := 87) rfl))) (Or.inl (hw _ (List.mem_of_getElem? (i := 60) rfl))) (by decide) (t := (.object "java/lang/String")) (t' := (.array (.object "java/lang/StackTraceElement"))) (by decide) (by decide)))).other W112 (Or.inr (slot_ne (Or.inl (hw _ (List.mem_of_getElem? (i := 87) rfl))) (Or.inl (hw _ (List.mem_of_getElem? (i := 63) rfl))) (by decide) (t := (.object "java/lang/String")) (t' := (.object "java/util/List")) (by decide) (by decide))))
  have y119 := (((F_uc.other W102 (Or.inr (slot_ne (Or.inr (hw _ (List.mem_of_getElem? (i := 93) rfl))) (Or.inl (hw _ (List.mem_of_getElem? (i := 57) rfl))) (by decide) (t := (.object "com/example/bill_per_call/billpercall/ErrorCode")) (t' := (.object "java/lang/Throwable")) (by decide) (by decide)))).other W107 (Or.inr (slot_ne (Or.inr (hw _ (List.mem_of_getElem? (i := 93) rfl))) (Or.inl (hw _ (List.mem_of_getElem? (i := 60) rfl))) (by decide) (t := (.object "com/example/bill_per_call/billpercall/ErrorCode")) (t' := (.array (.object "java/lang/StackTraceElement"))) (by decide) (by decide)))).other W112 (Or.inr (slot_ne (Or.inr (hw _ (List.mem_of_getElem? (i := 93) rfl))) (Or.inl (hw _ (List.mem_of_getElem? (i := 63) rfl))) (by decide) (t := (.object "com/example/bill_per_call/billpercall/ErrorCode")) (t' := (.object "java/util/List")) (by decide) (by decide))))
  have y120 := (y109.wr W112 g_a1)
  obtain ⟨T113, h113, X113, e113, Kc113, A113, Fk113, st113⟩ := own_fill X112 hx hl hZ hown (own_fw hw) (hw _ (List.mem_of_getElem? (i := 31) rfl)) (own_ths' hh X00) hK.1 hK.2 e112 own_b3 y116 y117 y114 hus (S_u.ext y120.2) y115 (g := (mkF m 24 #[.val (.ref a1), .val .null] [(.ref a1)])) rfl (by rw [hml]; rfl) rfl (hb hby d10_24) (by decide) (by show 2 * 0 + 0 + 42 ≤ _; decide) (by decide) (by decide)
  have Fk113_0 := Fk113 (Or.inl (hw _ (List.mem_of_getElem? (i := 87) rfl))) (t := (.object "java/lang/String")) (by decide) (by decide) (by decide) (by decide) y118
  have Fk113_1 := Fk113 (Or.inr (hw _ (List.mem_of_getElem? (i := 93) rfl))) (t := (.object "com/example/bill_per_call/billpercall/ErrorCode")) (by decide) (by decide) (by decide) (by decide) y119
  have N113 : Fr n0 _ := Fr.six (Z := Z) N112 g_a1
  obtain ⟨T121, h121, X121, e121, W121, st121⟩ := putF X113 hx hZ hown (host := "") (Or.inl (hw _ (List.mem_of_getElem? (i := 91) rfl))) Via.refl e113 Fk113_0 A113 (Or.inl (hw _ (List.mem_of_getElem? (i := 87) rfl))) (hw _ (List.mem_of_getElem? (i := 31) rfl)) (ty := (.object "java/lang/String")) (by decide) rfl rfl (g := (mkF m 30 #[.val (.ref a1), .val .null] [.null, (.ref a1)])) rfl rfl (hb hby d10_30)
  have Fw121 := Fk113_0.same W121
  have N121 := Fr.snoc X121 N113 g_a1
  have y122 := ((((((Keep.refl h0 [a1]).wr W102 (Or.inl (List.mem_of_getElem? (i := 0) rfl))).wr W107 (Or.inl (List.mem_of_getElem? (i := 0) rfl))).wr W112 (Or.inl (List.mem_of_getElem? (i := 0) rfl))).trans Kc113 (allS (Or.inl (List.mem_of_getElem? (i := 0) rfl)) all0)).wr W121 (Or.inl (List.mem_of_getElem? (i := 0) rfl)))
  have y123 := (A113.wr W121)
  have y124 := (Fk113_1.other W121 (Or.inr (slot_ne (Or.inr (hw _ (List.mem_of_getElem? (i := 93) rfl))) (Or.inl (hw _ (List.mem_of_getElem? (i := 87) rfl))) (by decide) (t := (.object "com/example/bill_per_call/billpercall/ErrorCode")) (t' := (.object "java/lang/String")) (by decide) (by decide))))
  obtain ⟨fs, hr, hrun, hended, hW, hsame⟩ := X121.leave (v := none) (fun _ => rfl)
  refine ⟨_, _, pre0 _ ?_, hrun, hended, _, _, rfl, ?_, ⟨_, rfl⟩, hW, hsame.mono (by decide) (by decide)⟩
  · show Steps p.tables e below (s₁.setTop (mkF m 0 #[.val (.ref a1), .val .null] [])) _
    refine XS.aloadN X0.here hx rfl (hb hby d10_0) rfl rfl ?_
    show Steps p.tables e below (s₁.setTop (mkF m 1 #[.val (.ref a1), .val .null] [(.ref a1)])) _
    refine st101 _ ?_
    show Steps p.tables e below (T101.setTop (mkF m 4 #[.val (.ref a1), .val .null] [])) _
    refine XS.aloadN X101.here hx rfl (hb hby d10_4) rfl rfl ?_
    show Steps p.tables e below (T101.setTop (mkF m 5 #[.val (.ref a1), .val .null] [(.ref a1)])) _
    refine XS.aloadN X101.here hx rfl (hb hby d10_5) rfl rfl ?_
    show Steps p.tables e below (T101.setTop (mkF m 6 #[.val (.ref a1), .val .null] [(.ref a1), (.ref a1)])) _
    refine st102 _ ?_
    show Steps p.tables e below (T102.setTop (mkF m 9 #[.val (.ref a1), .val .null] [])) _
    refine XS.aloadN X102.here hx rfl (hb hby d10_9) rfl rfl ?_
    show Steps p.tables e below (T102.setTop (mkF m 10 #[.val (.ref a1), .val .null] [(.ref a1)])) _
    refine st103 _ ?_
    show Steps p.tables e below (T103.setTop (mkF m 13 #[.val (.ref a1), .val .null] [us, (.ref a1)])) _
    refine st107 _ ?_
    show Steps p.tables e below (T107.setTop (mkF m 16 #[.val (.ref a1), .val .null] [])) _
    refine XS.aloadN X107.here hx rfl (hb hby d10_16) rfl rfl ?_
    show Steps p.tables e below (T107.setTop (mkF m 17 #[.val (.ref a1), .val .null] [(.ref a1)])) _
    refine st108 _ ?_
    show Steps p.tables e below (T108.setTop (mkF m 20 #[.val (.ref a1), .val .null] [ss, (.ref a1)])) _
    refine st112 _ ?_
    show Steps p.tables e below (T112.setTop (mkF m 23 #[.val (.ref a1), .val .null] [])) _
    refine XS.aloadN X112.here hx rfl (hb hby d10_23) rfl rfl ?_
    show Steps p.tables e below (T112.setTop (mkF m 24 #[.val (.ref a1), .val .null] [(.ref a1)])) _
    refine st113 _ ?_
    show Steps p.tables e below (T113.setTop (mkF m 27 #[.val (.ref a1), .val .null] [(.ref a1)])) _
    refine XS.pop X113.here hx rfl (hb hby d10_27) rfl rfl ?_
    show Steps p.tables e below (T113.setTop (mkF m 28 #[.val (.ref a1), .val .null] [])) _
    refine XS.aloadN X113.here hx rfl (hb hby d10_28) rfl rfl ?_
    show Steps p.tables e below (T113.setTop (mkF m 29 #[.val (.ref a1), .val .null] [(.ref a1)])) _
    refine XS.aloadN X113.here hx rfl (hb hby d10_29) rfl rfl ?_
    show Steps p.tables e below (T113.setTop (mkF m 30 #[.val (.ref a1), .val .null] [.null, (.ref a1)])) _
    refine st121 _ ?_
    show Steps p.tables e below (T121.setTop (mkF m 33 #[.val (.ref a1), .val .null] [])) _
    exact X121.returnOut hx Bd.returns (hb hby d10_33) hr
  · show QTh Z a1 .null uc h0 n0 _ T121.heap _
    rw [e121]
    exact ⟨rfl, N121, y122, y123, Fw121, y124⟩
theorem rmX0_n (l : Launch) (Z : State) (a0 : Array Value) (hw : ∀ d ∈ tables_1, d.before a0 Z = true) (ws : List Jvm.Cond) (a1 : Addr) (uc : Value) (h0 : Heap) (n0 : Nat) (X00 : Old Z n0 h0) (hl : l.stackTraces = true) (hr2 : ∀ d ∈ twoRefs, d.before a0 Z = true) (E_a1 : Exa Z h0 a1 "com/example/bill_per_call/billpercall/RequestException") (U_a1 : Unt h0 a1) (F_b : Fld Z h0 a1 "java/lang/Throwable" "backtrace" "Ljava/lang/Object;" .null) (F_m : Fld Z h0 a1 "java/lang/Throwable" "detailMessage" "Ljava/lang/String;" .null) (F_ca : Fld Z h0 a1 "java/lang/Throwable" "cause" "Ljava/lang/Throwable;" .null) (F_st : Fld Z h0 a1 "java/lang/Throwable" "stackTrace" "[Ljava/lang/StackTraceElement;" .null) (F_su : Fld Z h0 a1 "java/lang/Throwable" "suppressedExceptions" "Ljava/util/List;" .null) (F_uc : Fld Z h0 a1 "com/example/bill_per_call/billpercall/RequestException" "code" "Lcom/example/bill_per_call/billpercall/ErrorCode;" uc) (g_a1 : n0 ≤ a1) :
    MetFree l (⟨"java/lang/Throwable", "<init>", "(Ljava/lang/String;)V"⟩ : MethodName) (head1 (Jvm.Cond.code (⟨"java/lang/Throwable", "<init>", "(Ljava/lang/String;)V"⟩ : MethodName) jdk_78_method_2_code 2 none :: ws) ({ frames := 3, cells := 1, slots := 2752, locals := 42 } : Room)) (fun a U => a = #[(.ref a1), .null] ∧ Z.Warmed39 U.vm ∧ U.heap = h0) (fun _ _ bl s _ => s.vm.MethodsKnown ∧ s.vm.FramesKnown bl) (fun _ U o U' => ∃ rv rL, o = .returned rv ∧ QTh Z a1 .null uc h0 n0 rv U'.heap rL ∧ FrameEnd U o U' rL ({ frames := 3, cells := 1, slots := 2752, locals := 42 } : Room).cells ({ frames := 3, cells := 1, slots := 2752, locals := 42 } : Room).slots) := by
  obtain ⟨us, hus, S_u⟩ := own_stat (hw _ (List.mem_of_getElem? (i := 53) rfl)) (hw _ (List.mem_of_getElem? (i := 84) rfl)) (hr2 _ (List.mem_of_getElem? (i := 0) rfl))
  obtain ⟨ss, hss, S_s⟩ := own_stat (hw _ (List.mem_of_getElem? (i := 53) rfl)) (hw _ (List.mem_of_getElem? (i := 85) rfl)) (hr2 _ (List.mem_of_getElem? (i := 1) rfl))
  exact rmX0u_n l Z a0 hw ws a1 us ss uc h0 n0 X00 hl hr2 hus hss S_u S_s E_a1 U_a1 F_b F_m F_ca F_st F_su F_uc g_a1
set_option maxRecDepth 65536 in
set_option maxHeartbeats 40000000 in
theorem rmX1_n (l : Launch) (Z : State) (a0 : Array Value) (hw : ∀ d ∈ tables_1, d.before a0 Z = true) (ws : List Jvm.Cond) (a1 : Addr) (uc : Value) (h0 : Heap) (n0 : Nat) (X00 : Old Z n0 h0) (hl : l.stackTraces = true) (hr2 : ∀ d ∈ twoRefs, d.before a0 Z = true) (E_a1 : Exa Z h0 a1 "com/example/bill_per_call/billpercall/RequestException") (U_a1 : Unt h0 a1) (F_b : Fld Z h0 a1 "java/lang/Throwable" "backtrace" "Ljava/lang/Object;" .null) (F_m : Fld Z h0 a1 "java/lang/Throwable" "detailMessage" "Ljava/lang/String;" .null) (F_ca : Fld Z h0 a1 "java/lang/Throwable" "cause" "Ljava/lang/Throwable;" .null) (F_st : Fld Z h0 a1 "java/lang/Throwable" "stackTrace" "[Ljava/lang/StackTraceElement;" .null) (F_su : Fld Z h0 a1 "java/lang/Throwable" "suppressedExceptions" "Ljava/util/List;" .null) (F_uc : Fld Z h0 a1 "com/example/bill_per_call/billpercall/RequestException" "code" "Lcom/example/bill_per_call/billpercall/ErrorCode;" uc) (g_a1 : n0 ≤ a1) :
    MetFree l (⟨"java/lang/Exception", "<init>", "(Ljava/lang/String;)V"⟩ : MethodName) (head1 (Jvm.Cond.code (⟨"java/lang/Exception", "<init>", "(Ljava/lang/String;)V"⟩ : MethodName) jdk_59_method_2_code 2 none :: ws) ({ frames := 4, cells := 1, slots := 2752, locals := 56 } : Room)) (fun a U => a = #[(.ref a1), .null] ∧ Z.Warmed39 U.vm ∧ U.heap = h0) (fun _ _ bl s _ => s.vm.MethodsKnown ∧ s.vm.FramesKnown bl) (fun _ U o U' => ∃ rv rL, o = .returned rv ∧ QTh Z a1 .null uc h0 n0 rv U'.heap rL ∧ FrameEnd U o U' rL ({ frames := 4, cells := 1, slots := 2752, locals := 56 } : Room).cells ({ frames := 4, cells := 1, slots := 2752, locals := 56 } : Room).slots) := by
  refine MetFree.of_bodySF (plainFor_of_name pn_9) hisR ?_
  intro p e s m args below meth c s₁ Bd hml0 hP hK
  obtain ⟨rfl, hZ, hh⟩ := hP
  have hx := Bd.exec
  have hby := Bd.bytes
  have hml : c.maxLocals = 2 := hml0
  have hown : s.vm.findClass "java/lang/Exception" = some m.cls := findClass_of_methodNamed Bd.named
  have hnm := (name_of_methodNamed Bd.named Bd.method).1
  have X0 : Stand p l e ({ frames := 4, cells := 1, slots := 2752, locals := 56 } : Room) s m #[(.ref a1), .null] below meth c s₁ [] 0 0 := Stand.of_body Bd
  have e0 : s₁.heap = h0 := by rw [← hh, Bd.state]; rfl
  have N0 := Fr.nil n0
  have pre0 : ∀ t, Steps p.tables e below (s₁.setTop (mkF m 0 #[.val (.ref a1), .val .null] [])) t → Steps p.tables e below (s₁.setTop (entryFrame m #[(.ref a1), .null] 2)) t := fun t k => castTop (ef_9vn m a1) k
  obtain ⟨_, _, ⟨T101, L101, k101, n101⟩, -, X101, ⟨Lc101, hQ101, l101, y101, z101⟩, st101⟩ := X0.specialBack hx (y := (⟨"java/lang/Throwable", "<init>", "(Ljava/lang/String;)V"⟩ : MethodName)) rfl hown (mvT hZ (hw _ (List.mem_of_getElem? (i := 49) rfl))) (mvT hZ (hw _ (List.mem_of_getElem? (i := 50) rfl))) (mvT hZ (hw _ (List.mem_of_getElem? (i := 54) rfl))) (by decide) (backOfKL (W := 0) (rmX0_n l Z a0 hw [] a1 (uc) h0 n0 X00 hl hr2 E_a1 U_a1 F_b F_m F_ca F_st F_su F_uc g_a1) hZ (hw _ (List.mem_of_getElem? (i := 54) rfl)) (hw _ (List.mem_of_getElem? (i := 53) rfl)) (by decide) (by decide) hK.1 hK.2) (g := (mkF m 2 #[.val (.ref a1), .val .null] [.null, (.ref a1)])) rfl (by rw [hml]; rfl) (Steps.refl _) (a := a1) (argsL := [.null]) (rest := []) (lenOf pd_Ljava_lang_String__V rfl) rfl (by show 2 * 0 + _ ≤ _; exact Nat.le_of_eq rfl) (hb hby d9_2) (fun _ _ => ⟨rfl, e0, (by decide : 0 + 1 ≤ _), (by decide : 0 + 2752 ≤ _)⟩)
  dsimp only [Pt.U, Pt.locs, Pt.cells, Pt.slots] at X101 l101 y101 z101 st101 hQ101
  subst l101 y101 z101
  obtain ⟨rfl, N101q, Kc101, E101x, Fm101x, Fo101x0⟩ := hQ101
  have N101 := Fr.app N0 N101q
  have y102 := ((Keep.refl h0 [a1]).trans Kc101 (allS (Or.inl (List.mem_of_getElem? (i := 0) rfl)) all0))
  obtain ⟨fs, hr, hrun, hended, hW, hsame⟩ := X101.leave (v := none) (fun _ => rfl)
  refine ⟨_, _, pre0 _ ?_, hrun, hended, _, _, rfl, ?_, ⟨_, rfl⟩, hW, hsame.mono (by decide) (by decide)⟩
  · show Steps p.tables e below (s₁.setTop (mkF m 0 #[.val (.ref a1), .val .null] [])) _
    refine XS.aloadN X0.here hx rfl (hb hby d9_0) rfl rfl ?_
    show Steps p.tables e below (s₁.setTop (mkF m 1 #[.val (.ref a1), .val .null] [(.ref a1)])) _
    refine XS.aloadN X0.here hx rfl (hb hby d9_1) rfl rfl ?_
    show Steps p.tables e below (s₁.setTop (mkF m 2 #[.val (.ref a1), .val .null] [.null, (.ref a1)])) _
    refine st101.trans ?_
    show Steps p.tables e below (T101.setTop (mkF m 5 #[.val (.ref a1), .val .null] [])) _
    exact X101.returnOut hx Bd.returns (hb hby d9_5) hr
  · show QTh Z a1 .null uc h0 n0 _ T101.heap _
    exact ⟨rfl, N101, y102, E101x, Fm101x, Fo101x0⟩
set_option maxRecDepth 65536 in
set_option maxHeartbeats 40000000 in
theorem rmX2_n (l : Launch) (Z : State) (a0 : Array Value) (hw : ∀ d ∈ tables_1, d.before a0 Z = true) (ws : List Jvm.Cond) (a1 : Addr) (uc : Value) (h0 : Heap) (n0 : Nat) (X00 : Old Z n0 h0) (hl : l.stackTraces = true) (hr2 : ∀ d ∈ twoRefs, d.before a0 Z = true) (E_a1 : Exa Z h0 a1 "com/example/bill_per_call/billpercall/RequestException") (U_a1 : Unt h0 a1) (F_b : Fld Z h0 a1 "java/lang/Throwable" "backtrace" "Ljava/lang/Object;" .null) (F_m : Fld Z h0 a1 "java/lang/Throwable" "detailMessage" "Ljava/lang/String;" .null) (F_ca : Fld Z h0 a1 "java/lang/Throwable" "cause" "Ljava/lang/Throwable;" .null) (F_st : Fld Z h0 a1 "java/lang/Throwable" "stackTrace" "[Ljava/lang/StackTraceElement;" .null) (F_su : Fld Z h0 a1 "java/lang/Throwable" "suppressedExceptions" "Ljava/util/List;" .null) (F_uc : Fld Z h0 a1 "com/example/bill_per_call/billpercall/RequestException" "code" "Lcom/example/bill_per_call/billpercall/ErrorCode;" uc) (g_a1 : n0 ≤ a1) :
    MetFree l (⟨"java/lang/RuntimeException", "<init>", "(Ljava/lang/String;)V"⟩ : MethodName) (head1 (Jvm.Cond.code (⟨"java/lang/RuntimeException", "<init>", "(Ljava/lang/String;)V"⟩ : MethodName) jdk_58_method_2_code 2 none :: ws) ({ frames := 5, cells := 1, slots := 2752, locals := 70 } : Room)) (fun a U => a = #[(.ref a1), .null] ∧ Z.Warmed39 U.vm ∧ U.heap = h0) (fun _ _ bl s _ => s.vm.MethodsKnown ∧ s.vm.FramesKnown bl) (fun _ U o U' => ∃ rv rL, o = .returned rv ∧ QTh Z a1 .null uc h0 n0 rv U'.heap rL ∧ FrameEnd U o U' rL ({ frames := 5, cells := 1, slots := 2752, locals := 70 } : Room).cells ({ frames := 5, cells := 1, slots := 2752, locals := 70 } : Room).slots) := by
  refine MetFree.of_bodySF (plainFor_of_name pn_8) hisR ?_
  intro p e s m args below meth c s₁ Bd hml0 hP hK
  obtain ⟨rfl, hZ, hh⟩ := hP
  have hx := Bd.exec
  have hby := Bd.bytes
  have hml : c.maxLocals = 2 := hml0
  have hown : s.vm.findClass "java/lang/RuntimeException" = some m.cls := findClass_of_methodNamed Bd.named
  have hnm := (name_of_methodNamed Bd.named Bd.method).1
  have X0 : Stand p l e ({ frames := 5, cells := 1, slots := 2752, locals := 70 } : Room) s m #[(.ref a1), .null] below meth c s₁ [] 0 0 := Stand.of_body Bd
  have e0 : s₁.heap = h0 := by rw [← hh, Bd.state]; rfl
  have N0 := Fr.nil n0
  have pre0 : ∀ t, Steps p.tables e below (s₁.setTop (mkF m 0 #[.val (.ref a1), .val .null] [])) t → Steps p.tables e below (s₁.setTop (entryFrame m #[(.ref a1), .null] 2)) t := fun t k => castTop (ef_8vn m a1) k
  obtain ⟨_, _, ⟨T101, L101, k101, n101⟩, -, X101, ⟨Lc101, hQ101, l101, y101, z101⟩, st101⟩ := X0.specialBack hx (y := (⟨"java/lang/Exception", "<init>", "(Ljava/lang/String;)V"⟩ : MethodName)) rfl hown (mvT hZ (hw _ (List.mem_of_getElem? (i := 43) rfl))) (mvT hZ (hw _ (List.mem_of_getElem? (i := 44) rfl))) (mvT hZ (hw _ (List.mem_of_getElem? (i := 48) rfl))) (by decide) (backOfKL (W := 0) (rmX1_n l Z a0 hw [] a1 (uc) h0 n0 X00 hl hr2 E_a1 U_a1 F_b F_m F_ca F_st F_su F_uc g_a1) hZ (hw _ (List.mem_of_getElem? (i := 48) rfl)) (hw _ (List.mem_of_getElem? (i := 47) rfl)) (by decide) (by decide) hK.1 hK.2) (g := (mkF m 2 #[.val (.ref a1), .val .null] [.null, (.ref a1)])) rfl (by rw [hml]; rfl) (Steps.refl _) (a := a1) (argsL := [.null]) (rest := []) (lenOf pd_Ljava_lang_String__V rfl) rfl (by show 2 * 0 + _ ≤ _; exact Nat.le_of_eq rfl) (hb hby d8_2) (fun _ _ => ⟨rfl, e0, (by decide : 0 + 1 ≤ _), (by decide : 0 + 2752 ≤ _)⟩)
  dsimp only [Pt.U, Pt.locs, Pt.cells, Pt.slots] at X101 l101 y101 z101 st101 hQ101
  subst l101 y101 z101
  obtain ⟨rfl, N101q, Kc101, E101x, Fm101x, Fo101x0⟩ := hQ101
  have N101 := Fr.app N0 N101q
  have y102 := ((Keep.refl h0 [a1]).trans Kc101 (allS (Or.inl (List.mem_of_getElem? (i := 0) rfl)) all0))
  obtain ⟨fs, hr, hrun, hended, hW, hsame⟩ := X101.leave (v := none) (fun _ => rfl)
  refine ⟨_, _, pre0 _ ?_, hrun, hended, _, _, rfl, ?_, ⟨_, rfl⟩, hW, hsame.mono (by decide) (by decide)⟩
  · show Steps p.tables e below (s₁.setTop (mkF m 0 #[.val (.ref a1), .val .null] [])) _
    refine XS.aloadN X0.here hx rfl (hb hby d8_0) rfl rfl ?_
    show Steps p.tables e below (s₁.setTop (mkF m 1 #[.val (.ref a1), .val .null] [(.ref a1)])) _
    refine XS.aloadN X0.here hx rfl (hb hby d8_1) rfl rfl ?_
    show Steps p.tables e below (s₁.setTop (mkF m 2 #[.val (.ref a1), .val .null] [.null, (.ref a1)])) _
    refine st101.trans ?_
    show Steps p.tables e below (T101.setTop (mkF m 5 #[.val (.ref a1), .val .null] [])) _
    exact X101.returnOut hx Bd.returns (hb hby d8_5) hr
  · show QTh Z a1 .null uc h0 n0 _ T101.heap _
    exact ⟨rfl, N101, y102, E101x, Fm101x, Fo101x0⟩
set_option maxRecDepth 65536 in
set_option maxHeartbeats 40000000 in
theorem rmX0u_r (l : Launch) (Z : State) (a0 : Array Value) (hw : ∀ d ∈ tables_1, d.before a0 Z = true) (ws : List Jvm.Cond) (a1 : Addr) (mz : Addr) (us : Value) (ss : Value) (uc : Value) (h0 : Heap) (n0 : Nat) (X00 : Old Z n0 h0) (hl : l.stackTraces = true) (hr2 : ∀ d ∈ twoRefs, d.before a0 Z = true) (hus : us.isRef = true) (hss : ss.isRef = true) (S_u : Sta Z Z.heap "java/lang/Throwable" "UNASSIGNED_STACK" "[Ljava/lang/StackTraceElement;" us) (S_s : Sta Z Z.heap "java/lang/Throwable" "SUPPRESSED_SENTINEL" "Ljava/util/List;" ss) (E_a1 : Exa Z h0 a1 "com/example/bill_per_call/billpercall/RequestException") (U_a1 : Unt h0 a1) (F_b : Fld Z h0 a1 "java/lang/Throwable" "backtrace" "Ljava/lang/Object;" .null) (F_m : Fld Z h0 a1 "java/lang/Throwable" "detailMessage" "Ljava/lang/String;" .null) (F_ca : Fld Z h0 a1 "java/lang/Throwable" "cause" "Ljava/lang/Throwable;" .null) (F_st : Fld Z h0 a1 "java/lang/Throwable" "stackTrace" "[Ljava/lang/StackTraceElement;" .null) (F_su : Fld Z h0 a1 "java/lang/Throwable" "suppressedExceptions" "Ljava/util/List;" .null) (F_uc : Fld Z h0 a1 "com/example/bill_per_call/billpercall/RequestException" "code" "Lcom/example/bill_per_call/billpercall/ErrorCode;" uc) (g_a1 : n0 ≤ a1) :
    MetFree l (⟨"java/lang/Throwable", "<init>", "(Ljava/lang/String;)V"⟩ : MethodName) (head1 (Jvm.Cond.code (⟨"java/lang/Throwable", "<init>", "(Ljava/lang/String;)V"⟩ : MethodName) jdk_78_method_2_code 2 none :: ws) ({ frames := 3, cells := 1, slots := 2752, locals := 42 } : Room)) (fun a U => a = #[(.ref a1), (.ref mz)] ∧ Z.Warmed39 U.vm ∧ U.heap = h0) (fun _ _ bl s _ => s.vm.MethodsKnown ∧ s.vm.FramesKnown bl) (fun _ U o U' => ∃ rv rL, o = .returned rv ∧ QTh Z a1 (.ref mz) uc h0 n0 rv U'.heap rL ∧ FrameEnd U o U' rL ({ frames := 3, cells := 1, slots := 2752, locals := 42 } : Room).cells ({ frames := 3, cells := 1, slots := 2752, locals := 42 } : Room).slots) := by
  refine MetFree.of_bodySF (plainFor_of_name pn_10) hisR ?_
  intro p e s m args below meth c s₁ Bd hml0 hP hK
  obtain ⟨rfl, hZ, hh⟩ := hP
  have hx := Bd.exec
  have hby := Bd.bytes
  have hml : c.maxLocals = 2 := hml0
  have hown : s.vm.findClass "java/lang/Throwable" = some m.cls := findClass_of_methodNamed Bd.named
  have hnm := (name_of_methodNamed Bd.named Bd.method).1
  have X0 : Stand p l e ({ frames := 3, cells := 1, slots := 2752, locals := 42 } : Room) s m #[(.ref a1), (.ref mz)] below meth c s₁ [] 0 0 := Stand.of_body Bd
  have e0 : s₁.heap = h0 := by rw [← hh, Bd.state]; rfl
  have N0 := Fr.nil n0
  have pre0 : ∀ t, Steps p.tables e below (s₁.setTop (mkF m 0 #[.val (.ref a1), .val (.ref mz)] [])) t → Steps p.tables e below (s₁.setTop (entryFrame m #[(.ref a1), (.ref mz)] 2)) t := fun t k => castTop (ef_10 m a1 mz) k
  obtain ⟨T101, X101, e101, st101⟩ := initO X0 hx hZ hown (hw _ (List.mem_of_getElem? (i := 55) rfl)) (hw _ (List.mem_of_getElem? (i := 20) rfl)) (hw _ (List.mem_of_getElem? (i := 21) rfl)) e0 (g := (mkF m 1 #[.val (.ref a1), .val (.ref mz)] [(.ref a1)])) rfl (by rw [hml]; rfl) rfl (hb hby d10_1) (by decide) (W := 0) (by show 2 * 0 + _ ≤ _; exact Nat.le_of_eq rfl) (by decide)
  obtain ⟨T102, h102, X102, e102, W102, st102⟩ := putF X101 hx hZ hown (host := "") (Or.inl (hw _ (List.mem_of_getElem? (i := 56) rfl))) Via.refl e101 F_ca E_a1 (Or.inl (hw _ (List.mem_of_getElem? (i := 57) rfl))) (hw _ (List.mem_of_getElem? (i := 31) rfl)) (ty := (.object "java/lang/Throwable")) (by decide) rfl rfl (g := (mkF m 6 #[.val (.ref a1), .val (.ref mz)] [(.ref a1), (.ref a1)])) rfl rfl (hb hby d10_6)
  have Fw102 := F_ca.same W102
  have N102 := Fr.snoc X102 N0 g_a1
  have y104 := (X00.wr W102 g_a1)
  obtain ⟨T103, X103, e103, st103⟩ := getS2 X102 hx hZ hown (host := "") (Or.inl (hw _ (List.mem_of_getElem? (i := 58) rfl))) Via.refl e102 (S_u.ext y104.2) (g := (mkF m 10 #[.val (.ref a1), .val (.ref mz)] [(.ref a1)])) rfl (hb hby d10_10)
  have y105 := (F_st.other W102 (Or.inr (slot_ne (Or.inl (hw _ (List.mem_of_getElem? (i := 60) rfl))) (Or.inl (hw _ (List.mem_of_getElem? (i := 57) rfl))) (by decide) (t := (.array (.object "java/lang/StackTraceElement"))) (t' := (.object "java/lang/Throwable")) (by decide) (by decide))))
  have y106 := (E_a1.wr W102)
  obtain ⟨T107, h107, X107, e107, W107, st107⟩ := putF X103 hx hZ hown (host := "") (Or.inl (hw _ (List.mem_of_getElem? (i := 59) rfl))) Via.refl e103 y105 y106 (Or.inl (hw _ (List.mem_of_getElem? (i := 60) rfl))) (hw _ (List.mem_of_getElem? (i := 31) rfl)) (ty := (.array (.object "java/lang/StackTraceElement"))) (by decide) (narrow_isRef _ hus) (fits_refV_array _ ⟨us, hus⟩) (g := (mkF m 13 #[.val (.ref a1), .val (.ref mz)] [us, (.ref a1)])) rfl rfl (hb hby d10_13)
  have Fw107 := y105.same W107
  have N107 := Fr.snoc X107 N102 g_a1
  have y109 := (y104.wr W107 g_a1)
  obtain ⟨T108, X108, e108, st108⟩ := getS2 X107 hx hZ hown (host := "") (Or.inl (hw _ (List.mem_of_getElem? (i := 61) rfl))) Via.refl e107 (S_s.ext y109.2) (g := (mkF m 17 #[.val (.ref a1), .val (.ref mz)] [(.ref a1)])) rfl (hb hby d10_17)
  have y110 := ((F_su.other W102 (Or.inr (slot_ne (Or.inl (hw _ (List.mem_of_getElem? (i := 63) rfl))) (Or.inl (hw _ (List.mem_of_getElem? (i := 57) rfl))) (by decide) (t := (.object "java/util/List")) (t' := (.object "java/lang/Throwable")) (by decide) (by decide)))).other W107 (Or.inr (slot_ne (Or.inl (hw _ (List.mem_of_getElem? (i := 63) rfl))) (Or.inl (hw _ (List.mem_of_getElem? (i := 60) rfl))) (by decide) (t := (.object "java/util/List")) (t' := (.array (.object "java/lang/StackTraceElement"))) (by decide) (by decide))))
  have y111 := (y106.wr W107)
  obtain ⟨T112, h112, X112, e112, W112, st112⟩ := putF X108 hx hZ hown (host := "") (Or.inl (hw _ (List.mem_of_getElem? (i := 62) rfl))) Via.refl e108 y110 y111 (Or.inl (hw _ (List.mem_of_getElem? (i := 63) rfl))) (hw _ (List.mem_of_getElem? (i := 31) rfl)) (ty := (.object "java/util/List")) (by decide) (narrow_isRef _ hss) (fits_refV_object _ ⟨ss, hss⟩) (g := (mkF m 20 #[.val (.ref a1), .val (.ref mz)] [ss, (.ref a1)])) rfl rfl (hb hby d10_20)
  have Fw112 := y110.same W112
  have N112 := Fr.snoc X112 N107 g_a1
  have y114 := (((F_b.other W102 (Or.inr (slot_ne (Or.inl (hw _ (List.mem_of_getElem? (i := 88) rfl))) (Or.inl (hw _ (List.mem_of_getElem? (i := 57) rfl))) (by decide) (t := (.object "java/lang/Object")) (t' := (.object "java/lang/Throwable")) (by decide) (by decide)))).other W107 (Or.inr (slot_ne (Or.inl (hw _ (List.mem_of_getElem? (i := 88) rfl))) (Or.inl (hw _ (List.mem_of_getElem? (i := 60) rfl))) (by decide) (t := (.object "java/lang/Object")) (t' := (.array (.object "java/lang/StackTraceElement"))) (by decide) (by decide)))).other W112 (Or.inr (slot_ne (Or.inl (hw _ (List.mem_of_getElem? (i := 88) rfl))) (Or.inl (hw _ (List.mem_of_getElem? (i := 63) rfl))) (by decide) (t := (.object "java/lang/Object")) (t' := (.object "java/util/List")) (by decide) (by decide))))
  have y115 := (Fw107.other W112 (Or.inr (slot_ne (Or.inl (hw _ (List.mem_of_getElem? (i := 60) rfl))) (Or.inl (hw _ (List.mem_of_getElem? (i := 63) rfl))) (by decide) (t := (.array (.object "java/lang/StackTraceElement"))) (t' := (.object "java/util/List")) (by decide) (by decide))))
  have y116 := (y111.wr W112)
  have y117 := (Unt.wr W112 (Unt.wr W107 (Unt.wr W102 U_a1)))
  have y118 := (((F_m.other W102 (Or.inr (slot_ne (Or.inl (hw _ (List.mem_of_getElem? (i := 87) rfl))) (Or.inl (hw _ (List.mem_of_getElem? (i := 57) rfl))) (by decide) (t := (.object "java/lang/String")) (t' := (.object "java/lang/Throwable")) (by decide) (by decide)))).other W107 (Or.inr (slot_ne (Or.inl (hw _ (List.mem_of_getElem? (i := 87) rfl))) (Or.inl (hw _ (List.mem_of_getElem? (i := 60) rfl))) (by decide) (t := (.object "java/lang/String")) (t' := (.array (.object "java/lang/StackTraceElement"))) (by decide) (by decide)))).other W112 (Or.inr (slot_ne (Or.inl (hw _ (List.mem_of_getElem? (i := 87) rfl))) (Or.inl (hw _ (List.mem_of_getElem? (i := 63) rfl))) (by decide) (t := (.object "java/lang/String")) (t' := (.object "java/util/List")) (by decide) (by decide))))
  have y119 := (((F_uc.other W102 (Or.inr (slot_ne (Or.inr (hw _ (List.mem_of_getElem? (i := 93) rfl))) (Or.inl (hw _ (List.mem_of_getElem? (i := 57) rfl))) (by decide) (t := (.object "com/example/bill_per_call/billpercall/ErrorCode")) (t' := (.object "java/lang/Throwable")) (by decide) (by decide)))).other W107 (Or.inr (slot_ne (Or.inr (hw _ (List.mem_of_getElem? (i := 93) rfl))) (Or.inl (hw _ (List.mem_of_getElem? (i := 60) rfl))) (by decide) (t := (.object "com/example/bill_per_call/billpercall/ErrorCode")) (t' := (.array (.object "java/lang/StackTraceElement"))) (by decide) (by decide)))).other W112 (Or.inr (slot_ne (Or.inr (hw _ (List.mem_of_getElem? (i := 93) rfl))) (Or.inl (hw _ (List.mem_of_getElem? (i := 63) rfl))) (by decide) (t := (.object "com/example/bill_per_call/billpercall/ErrorCode")) (t' := (.object "java/util/List")) (by decide) (by decide))))
  have y120 := (y109.wr W112 g_a1)
  obtain ⟨T113, h113, X113, e113, Kc113, A113, Fk113, st113⟩ := own_fill X112 hx hl hZ hown (own_fw hw) (hw _ (List.mem_of_getElem? (i := 31) rfl)) (own_ths' hh X00) hK.1 hK.2 e112 own_b3 y116 y117 y114 hus (S_u.ext y120.2) y115 (g := (mkF m 24 #[.val (.ref a1), .val (.ref mz)] [(.ref a1)])) rfl (by rw [hml]; rfl) rfl (hb hby d10_24) (by decide) (by show 2 * 0 + 0 + 42 ≤ _; decide) (by decide) (by decide)
  have Fk113_0 := Fk113 (Or.inl (hw _ (List.mem_of_getElem? (i := 87) rfl))) (t := (.object "java/lang/String")) (by decide) (by decide) (by decide) (by decide) y118
  have Fk113_1 := Fk113 (Or.inr (hw _ (List.mem_of_getElem? (i := 93) rfl))) (t := (.object "com/example/bill_per_call/billpercall/ErrorCode")) (by decide) (by decide) (by decide) (by decide) y119
  have N113 : Fr n0 _ := Fr.six (Z := Z) N112 g_a1
  obtain ⟨T121, h121, X121, e121, W121, st121⟩ := putF X113 hx hZ hown (host := "") (Or.inl (hw _ (List.mem_of_getElem? (i := 91) rfl))) Via.refl e113 Fk113_0 A113 (Or.inl (hw _ (List.mem_of_getElem? (i := 87) rfl))) (hw _ (List.mem_of_getElem? (i := 31) rfl)) (ty := (.object "java/lang/String")) (by decide) rfl rfl (g := (mkF m 30 #[.val (.ref a1), .val (.ref mz)] [(.ref mz), (.ref a1)])) rfl rfl (hb hby d10_30)
  have Fw121 := Fk113_0.same W121
  have N121 := Fr.snoc X121 N113 g_a1
  have y122 := ((((((Keep.refl h0 [a1]).wr W102 (Or.inl (List.mem_of_getElem? (i := 0) rfl))).wr W107 (Or.inl (List.mem_of_getElem? (i := 0) rfl))).wr W112 (Or.inl (List.mem_of_getElem? (i := 0) rfl))).trans Kc113 (allS (Or.inl (List.mem_of_getElem? (i := 0) rfl)) all0)).wr W121 (Or.inl (List.mem_of_getElem? (i := 0) rfl)))
  have y123 := (A113.wr W121)
  have y124 := (Fk113_1.other W121 (Or.inr (slot_ne (Or.inr (hw _ (List.mem_of_getElem? (i := 93) rfl))) (Or.inl (hw _ (List.mem_of_getElem? (i := 87) rfl))) (by decide) (t := (.object "com/example/bill_per_call/billpercall/ErrorCode")) (t' := (.object "java/lang/String")) (by decide) (by decide))))
  obtain ⟨fs, hr, hrun, hended, hW, hsame⟩ := X121.leave (v := none) (fun _ => rfl)
  refine ⟨_, _, pre0 _ ?_, hrun, hended, _, _, rfl, ?_, ⟨_, rfl⟩, hW, hsame.mono (by decide) (by decide)⟩
  · show Steps p.tables e below (s₁.setTop (mkF m 0 #[.val (.ref a1), .val (.ref mz)] [])) _
    refine XS.aloadN X0.here hx rfl (hb hby d10_0) rfl rfl ?_
    show Steps p.tables e below (s₁.setTop (mkF m 1 #[.val (.ref a1), .val (.ref mz)] [(.ref a1)])) _
    refine st101 _ ?_
    show Steps p.tables e below (T101.setTop (mkF m 4 #[.val (.ref a1), .val (.ref mz)] [])) _
    refine XS.aloadN X101.here hx rfl (hb hby d10_4) rfl rfl ?_
    show Steps p.tables e below (T101.setTop (mkF m 5 #[.val (.ref a1), .val (.ref mz)] [(.ref a1)])) _
    refine XS.aloadN X101.here hx rfl (hb hby d10_5) rfl rfl ?_
    show Steps p.tables e below (T101.setTop (mkF m 6 #[.val (.ref a1), .val (.ref mz)] [(.ref a1), (.ref a1)])) _
    refine st102 _ ?_
    show Steps p.tables e below (T102.setTop (mkF m 9 #[.val (.ref a1), .val (.ref mz)] [])) _
    refine XS.aloadN X102.here hx rfl (hb hby d10_9) rfl rfl ?_
    show Steps p.tables e below (T102.setTop (mkF m 10 #[.val (.ref a1), .val (.ref mz)] [(.ref a1)])) _
    refine st103 _ ?_
    show Steps p.tables e below (T103.setTop (mkF m 13 #[.val (.ref a1), .val (.ref mz)] [us, (.ref a1)])) _
    refine st107 _ ?_
    show Steps p.tables e below (T107.setTop (mkF m 16 #[.val (.ref a1), .val (.ref mz)] [])) _
    refine XS.aloadN X107.here hx rfl (hb hby d10_16) rfl rfl ?_
    show Steps p.tables e below (T107.setTop (mkF m 17 #[.val (.ref a1), .val (.ref mz)] [(.ref a1)])) _
    refine st108 _ ?_
    show Steps p.tables e below (T108.setTop (mkF m 20 #[.val (.ref a1), .val (.ref mz)] [ss, (.ref a1)])) _
    refine st112 _ ?_
    show Steps p.tables e below (T112.setTop (mkF m 23 #[.val (.ref a1), .val (.ref mz)] [])) _
    refine XS.aloadN X112.here hx rfl (hb hby d10_23) rfl rfl ?_
    show Steps p.tables e below (T112.setTop (mkF m 24 #[.val (.ref a1), .val (.ref mz)] [(.ref a1)])) _
    refine st113 _ ?_
    show Steps p.tables e below (T113.setTop (mkF m 27 #[.val (.ref a1), .val (.ref mz)] [(.ref a1)])) _
    refine XS.pop X113.here hx rfl (hb hby d10_27) rfl rfl ?_
    show Steps p.tables e below (T113.setTop (mkF m 28 #[.val (.ref a1), .val (.ref mz)] [])) _
    refine XS.aloadN X113.here hx rfl (hb hby d10_28) rfl rfl ?_
    show Steps p.tables e below (T113.setTop (mkF m 29 #[.val (.ref a1), .val (.ref mz)] [(.ref a1)])) _
    refine XS.aloadN X113.here hx rfl (hb hby d10_29) rfl rfl ?_
    show Steps p.tables e below (T113.setTop (mkF m 30 #[.val (.ref a1), .val (.ref mz)] [(.ref mz), (.ref a1)])) _
    refine st121 _ ?_
    show Steps p.tables e below (T121.setTop (mkF m 33 #[.val (.ref a1), .val (.ref mz)] [])) _
    exact X121.returnOut hx Bd.returns (hb hby d10_33) hr
  · show QTh Z a1 (.ref mz) uc h0 n0 _ T121.heap _
    rw [e121]
    exact ⟨rfl, N121, y122, y123, Fw121, y124⟩
theorem rmX0_r (l : Launch) (Z : State) (a0 : Array Value) (hw : ∀ d ∈ tables_1, d.before a0 Z = true) (ws : List Jvm.Cond) (a1 : Addr) (mz : Addr) (uc : Value) (h0 : Heap) (n0 : Nat) (X00 : Old Z n0 h0) (hl : l.stackTraces = true) (hr2 : ∀ d ∈ twoRefs, d.before a0 Z = true) (E_a1 : Exa Z h0 a1 "com/example/bill_per_call/billpercall/RequestException") (U_a1 : Unt h0 a1) (F_b : Fld Z h0 a1 "java/lang/Throwable" "backtrace" "Ljava/lang/Object;" .null) (F_m : Fld Z h0 a1 "java/lang/Throwable" "detailMessage" "Ljava/lang/String;" .null) (F_ca : Fld Z h0 a1 "java/lang/Throwable" "cause" "Ljava/lang/Throwable;" .null) (F_st : Fld Z h0 a1 "java/lang/Throwable" "stackTrace" "[Ljava/lang/StackTraceElement;" .null) (F_su : Fld Z h0 a1 "java/lang/Throwable" "suppressedExceptions" "Ljava/util/List;" .null) (F_uc : Fld Z h0 a1 "com/example/bill_per_call/billpercall/RequestException" "code" "Lcom/example/bill_per_call/billpercall/ErrorCode;" uc) (g_a1 : n0 ≤ a1) :
    MetFree l (⟨"java/lang/Throwable", "<init>", "(Ljava/lang/String;)V"⟩ : MethodName) (head1 (Jvm.Cond.code (⟨"java/lang/Throwable", "<init>", "(Ljava/lang/String;)V"⟩ : MethodName) jdk_78_method_2_code 2 none :: ws) ({ frames := 3, cells := 1, slots := 2752, locals := 42 } : Room)) (fun a U => a = #[(.ref a1), (.ref mz)] ∧ Z.Warmed39 U.vm ∧ U.heap = h0) (fun _ _ bl s _ => s.vm.MethodsKnown ∧ s.vm.FramesKnown bl) (fun _ U o U' => ∃ rv rL, o = .returned rv ∧ QTh Z a1 (.ref mz) uc h0 n0 rv U'.heap rL ∧ FrameEnd U o U' rL ({ frames := 3, cells := 1, slots := 2752, locals := 42 } : Room).cells ({ frames := 3, cells := 1, slots := 2752, locals := 42 } : Room).slots) := by
  obtain ⟨us, hus, S_u⟩ := own_stat (hw _ (List.mem_of_getElem? (i := 53) rfl)) (hw _ (List.mem_of_getElem? (i := 84) rfl)) (hr2 _ (List.mem_of_getElem? (i := 0) rfl))
  obtain ⟨ss, hss, S_s⟩ := own_stat (hw _ (List.mem_of_getElem? (i := 53) rfl)) (hw _ (List.mem_of_getElem? (i := 85) rfl)) (hr2 _ (List.mem_of_getElem? (i := 1) rfl))
  exact rmX0u_r l Z a0 hw ws a1 mz us ss uc h0 n0 X00 hl hr2 hus hss S_u S_s E_a1 U_a1 F_b F_m F_ca F_st F_su F_uc g_a1
set_option maxRecDepth 65536 in
set_option maxHeartbeats 40000000 in
theorem rmX1_r (l : Launch) (Z : State) (a0 : Array Value) (hw : ∀ d ∈ tables_1, d.before a0 Z = true) (ws : List Jvm.Cond) (a1 : Addr) (mz : Addr) (uc : Value) (h0 : Heap) (n0 : Nat) (X00 : Old Z n0 h0) (hl : l.stackTraces = true) (hr2 : ∀ d ∈ twoRefs, d.before a0 Z = true) (E_a1 : Exa Z h0 a1 "com/example/bill_per_call/billpercall/RequestException") (U_a1 : Unt h0 a1) (F_b : Fld Z h0 a1 "java/lang/Throwable" "backtrace" "Ljava/lang/Object;" .null) (F_m : Fld Z h0 a1 "java/lang/Throwable" "detailMessage" "Ljava/lang/String;" .null) (F_ca : Fld Z h0 a1 "java/lang/Throwable" "cause" "Ljava/lang/Throwable;" .null) (F_st : Fld Z h0 a1 "java/lang/Throwable" "stackTrace" "[Ljava/lang/StackTraceElement;" .null) (F_su : Fld Z h0 a1 "java/lang/Throwable" "suppressedExceptions" "Ljava/util/List;" .null) (F_uc : Fld Z h0 a1 "com/example/bill_per_call/billpercall/RequestException" "code" "Lcom/example/bill_per_call/billpercall/ErrorCode;" uc) (g_a1 : n0 ≤ a1) :
    MetFree l (⟨"java/lang/Exception", "<init>", "(Ljava/lang/String;)V"⟩ : MethodName) (head1 (Jvm.Cond.code (⟨"java/lang/Exception", "<init>", "(Ljava/lang/String;)V"⟩ : MethodName) jdk_59_method_2_code 2 none :: ws) ({ frames := 4, cells := 1, slots := 2752, locals := 56 } : Room)) (fun a U => a = #[(.ref a1), (.ref mz)] ∧ Z.Warmed39 U.vm ∧ U.heap = h0) (fun _ _ bl s _ => s.vm.MethodsKnown ∧ s.vm.FramesKnown bl) (fun _ U o U' => ∃ rv rL, o = .returned rv ∧ QTh Z a1 (.ref mz) uc h0 n0 rv U'.heap rL ∧ FrameEnd U o U' rL ({ frames := 4, cells := 1, slots := 2752, locals := 56 } : Room).cells ({ frames := 4, cells := 1, slots := 2752, locals := 56 } : Room).slots) := by
  refine MetFree.of_bodySF (plainFor_of_name pn_9) hisR ?_
  intro p e s m args below meth c s₁ Bd hml0 hP hK
  obtain ⟨rfl, hZ, hh⟩ := hP
  have hx := Bd.exec
  have hby := Bd.bytes
  have hml : c.maxLocals = 2 := hml0
  have hown : s.vm.findClass "java/lang/Exception" = some m.cls := findClass_of_methodNamed Bd.named
  have hnm := (name_of_methodNamed Bd.named Bd.method).1
  have X0 : Stand p l e ({ frames := 4, cells := 1, slots := 2752, locals := 56 } : Room) s m #[(.ref a1), (.ref mz)] below meth c s₁ [] 0 0 := Stand.of_body Bd
  have e0 : s₁.heap = h0 := by rw [← hh, Bd.state]; rfl
  have N0 := Fr.nil n0
  have pre0 : ∀ t, Steps p.tables e below (s₁.setTop (mkF m 0 #[.val (.ref a1), .val (.ref mz)] [])) t → Steps p.tables e below (s₁.setTop (entryFrame m #[(.ref a1), (.ref mz)] 2)) t := fun t k => castTop (ef_9 m a1 mz) k
  obtain ⟨_, _, ⟨T101, L101, k101, n101⟩, -, X101, ⟨Lc101, hQ101, l101, y101, z101⟩, st101⟩ := X0.specialBack hx (y := (⟨"java/lang/Throwable", "<init>", "(Ljava/lang/String;)V"⟩ : MethodName)) rfl hown (mvT hZ (hw _ (List.mem_of_getElem? (i := 49) rfl))) (mvT hZ (hw _ (List.mem_of_getElem? (i := 50) rfl))) (mvT hZ (hw _ (List.mem_of_getElem? (i := 54) rfl))) (by decide) (backOfKL (W := 0) (rmX0_r l Z a0 hw [] a1 mz (uc) h0 n0 X00 hl hr2 E_a1 U_a1 F_b F_m F_ca F_st F_su F_uc g_a1) hZ (hw _ (List.mem_of_getElem? (i := 54) rfl)) (hw _ (List.mem_of_getElem? (i := 53) rfl)) (by decide) (by decide) hK.1 hK.2) (g := (mkF m 2 #[.val (.ref a1), .val (.ref mz)] [(.ref mz), (.ref a1)])) rfl (by rw [hml]; rfl) (Steps.refl _) (a := a1) (argsL := [(.ref mz)]) (rest := []) (lenOf pd_Ljava_lang_String__V rfl) rfl (by show 2 * 0 + _ ≤ _; exact Nat.le_of_eq rfl) (hb hby d9_2) (fun _ _ => ⟨rfl, e0, (by decide : 0 + 1 ≤ _), (by decide : 0 + 2752 ≤ _)⟩)
  dsimp only [Pt.U, Pt.locs, Pt.cells, Pt.slots] at X101 l101 y101 z101 st101 hQ101
  subst l101 y101 z101
  obtain ⟨rfl, N101q, Kc101, E101x, Fm101x, Fo101x0⟩ := hQ101
  have N101 := Fr.app N0 N101q
  have y102 := ((Keep.refl h0 [a1]).trans Kc101 (allS (Or.inl (List.mem_of_getElem? (i := 0) rfl)) all0))
  obtain ⟨fs, hr, hrun, hended, hW, hsame⟩ := X101.leave (v := none) (fun _ => rfl)
  refine ⟨_, _, pre0 _ ?_, hrun, hended, _, _, rfl, ?_, ⟨_, rfl⟩, hW, hsame.mono (by decide) (by decide)⟩
  · show Steps p.tables e below (s₁.setTop (mkF m 0 #[.val (.ref a1), .val (.ref mz)] [])) _
    refine XS.aloadN X0.here hx rfl (hb hby d9_0) rfl rfl ?_
    show Steps p.tables e below (s₁.setTop (mkF m 1 #[.val (.ref a1), .val (.ref mz)] [(.ref a1)])) _
    refine XS.aloadN X0.here hx rfl (hb hby d9_1) rfl rfl ?_
    show Steps p.tables e below (s₁.setTop (mkF m 2 #[.val (.ref a1), .val (.ref mz)] [(.ref mz), (.ref a1)])) _
    refine st101.trans ?_
    show Steps p.tables e below (T101.setTop (mkF m 5 #[.val (.ref a1), .val (.ref mz)] [])) _
    exact X101.returnOut hx Bd.returns (hb hby d9_5) hr
  · show QTh Z a1 (.ref mz) uc h0 n0 _ T101.heap _
    exact ⟨rfl, N101, y102, E101x, Fm101x, Fo101x0⟩
set_option maxRecDepth 65536 in
set_option maxHeartbeats 40000000 in
theorem rmX2_r (l : Launch) (Z : State) (a0 : Array Value) (hw : ∀ d ∈ tables_1, d.before a0 Z = true) (ws : List Jvm.Cond) (a1 : Addr) (mz : Addr) (uc : Value) (h0 : Heap) (n0 : Nat) (X00 : Old Z n0 h0) (hl : l.stackTraces = true) (hr2 : ∀ d ∈ twoRefs, d.before a0 Z = true) (E_a1 : Exa Z h0 a1 "com/example/bill_per_call/billpercall/RequestException") (U_a1 : Unt h0 a1) (F_b : Fld Z h0 a1 "java/lang/Throwable" "backtrace" "Ljava/lang/Object;" .null) (F_m : Fld Z h0 a1 "java/lang/Throwable" "detailMessage" "Ljava/lang/String;" .null) (F_ca : Fld Z h0 a1 "java/lang/Throwable" "cause" "Ljava/lang/Throwable;" .null) (F_st : Fld Z h0 a1 "java/lang/Throwable" "stackTrace" "[Ljava/lang/StackTraceElement;" .null) (F_su : Fld Z h0 a1 "java/lang/Throwable" "suppressedExceptions" "Ljava/util/List;" .null) (F_uc : Fld Z h0 a1 "com/example/bill_per_call/billpercall/RequestException" "code" "Lcom/example/bill_per_call/billpercall/ErrorCode;" uc) (g_a1 : n0 ≤ a1) :
    MetFree l (⟨"java/lang/RuntimeException", "<init>", "(Ljava/lang/String;)V"⟩ : MethodName) (head1 (Jvm.Cond.code (⟨"java/lang/RuntimeException", "<init>", "(Ljava/lang/String;)V"⟩ : MethodName) jdk_58_method_2_code 2 none :: ws) ({ frames := 5, cells := 1, slots := 2752, locals := 70 } : Room)) (fun a U => a = #[(.ref a1), (.ref mz)] ∧ Z.Warmed39 U.vm ∧ U.heap = h0) (fun _ _ bl s _ => s.vm.MethodsKnown ∧ s.vm.FramesKnown bl) (fun _ U o U' => ∃ rv rL, o = .returned rv ∧ QTh Z a1 (.ref mz) uc h0 n0 rv U'.heap rL ∧ FrameEnd U o U' rL ({ frames := 5, cells := 1, slots := 2752, locals := 70 } : Room).cells ({ frames := 5, cells := 1, slots := 2752, locals := 70 } : Room).slots) := by
  refine MetFree.of_bodySF (plainFor_of_name pn_8) hisR ?_
  intro p e s m args below meth c s₁ Bd hml0 hP hK
  obtain ⟨rfl, hZ, hh⟩ := hP
  have hx := Bd.exec
  have hby := Bd.bytes
  have hml : c.maxLocals = 2 := hml0
  have hown : s.vm.findClass "java/lang/RuntimeException" = some m.cls := findClass_of_methodNamed Bd.named
  have hnm := (name_of_methodNamed Bd.named Bd.method).1
  have X0 : Stand p l e ({ frames := 5, cells := 1, slots := 2752, locals := 70 } : Room) s m #[(.ref a1), (.ref mz)] below meth c s₁ [] 0 0 := Stand.of_body Bd
  have e0 : s₁.heap = h0 := by rw [← hh, Bd.state]; rfl
  have N0 := Fr.nil n0
  have pre0 : ∀ t, Steps p.tables e below (s₁.setTop (mkF m 0 #[.val (.ref a1), .val (.ref mz)] [])) t → Steps p.tables e below (s₁.setTop (entryFrame m #[(.ref a1), (.ref mz)] 2)) t := fun t k => castTop (ef_8 m a1 mz) k
  obtain ⟨_, _, ⟨T101, L101, k101, n101⟩, -, X101, ⟨Lc101, hQ101, l101, y101, z101⟩, st101⟩ := X0.specialBack hx (y := (⟨"java/lang/Exception", "<init>", "(Ljava/lang/String;)V"⟩ : MethodName)) rfl hown (mvT hZ (hw _ (List.mem_of_getElem? (i := 43) rfl))) (mvT hZ (hw _ (List.mem_of_getElem? (i := 44) rfl))) (mvT hZ (hw _ (List.mem_of_getElem? (i := 48) rfl))) (by decide) (backOfKL (W := 0) (rmX1_r l Z a0 hw [] a1 mz (uc) h0 n0 X00 hl hr2 E_a1 U_a1 F_b F_m F_ca F_st F_su F_uc g_a1) hZ (hw _ (List.mem_of_getElem? (i := 48) rfl)) (hw _ (List.mem_of_getElem? (i := 47) rfl)) (by decide) (by decide) hK.1 hK.2) (g := (mkF m 2 #[.val (.ref a1), .val (.ref mz)] [(.ref mz), (.ref a1)])) rfl (by rw [hml]; rfl) (Steps.refl _) (a := a1) (argsL := [(.ref mz)]) (rest := []) (lenOf pd_Ljava_lang_String__V rfl) rfl (by show 2 * 0 + _ ≤ _; exact Nat.le_of_eq rfl) (hb hby d8_2) (fun _ _ => ⟨rfl, e0, (by decide : 0 + 1 ≤ _), (by decide : 0 + 2752 ≤ _)⟩)
  dsimp only [Pt.U, Pt.locs, Pt.cells, Pt.slots] at X101 l101 y101 z101 st101 hQ101
  subst l101 y101 z101
  obtain ⟨rfl, N101q, Kc101, E101x, Fm101x, Fo101x0⟩ := hQ101
  have N101 := Fr.app N0 N101q
  have y102 := ((Keep.refl h0 [a1]).trans Kc101 (allS (Or.inl (List.mem_of_getElem? (i := 0) rfl)) all0))
  obtain ⟨fs, hr, hrun, hended, hW, hsame⟩ := X101.leave (v := none) (fun _ => rfl)
  refine ⟨_, _, pre0 _ ?_, hrun, hended, _, _, rfl, ?_, ⟨_, rfl⟩, hW, hsame.mono (by decide) (by decide)⟩
  · show Steps p.tables e below (s₁.setTop (mkF m 0 #[.val (.ref a1), .val (.ref mz)] [])) _
    refine XS.aloadN X0.here hx rfl (hb hby d8_0) rfl rfl ?_
    show Steps p.tables e below (s₁.setTop (mkF m 1 #[.val (.ref a1), .val (.ref mz)] [(.ref a1)])) _
    refine XS.aloadN X0.here hx rfl (hb hby d8_1) rfl rfl ?_
    show Steps p.tables e below (s₁.setTop (mkF m 2 #[.val (.ref a1), .val (.ref mz)] [(.ref mz), (.ref a1)])) _
    refine st101.trans ?_
    show Steps p.tables e below (T101.setTop (mkF m 5 #[.val (.ref a1), .val (.ref mz)] [])) _
    exact X101.returnOut hx Bd.returns (hb hby d8_5) hr
  · show QTh Z a1 (.ref mz) uc h0 n0 _ T101.heap _
    exact ⟨rfl, N101, y102, E101x, Fm101x, Fo101x0⟩
set_option maxRecDepth 65536 in
set_option maxHeartbeats 40000000 in
theorem rmRE_n (l : Launch) (Z : State) (a0 : Array Value) (hw : ∀ d ∈ tables_1, d.before a0 Z = true) (ws : List Jvm.Cond) (a1 : Addr) (a2 : Addr) (uc : Value) (h0 : Heap) (n0 : Nat) (X00 : Old Z n0 h0) (hl : l.stackTraces = true) (hr2 : ∀ d ∈ twoRefs, d.before a0 Z = true) (E_a1 : Exa Z h0 a1 "com/example/bill_per_call/billpercall/RequestException") (U_a1 : Unt h0 a1) (F_b : Fld Z h0 a1 "java/lang/Throwable" "backtrace" "Ljava/lang/Object;" .null) (F_m : Fld Z h0 a1 "java/lang/Throwable" "detailMessage" "Ljava/lang/String;" .null) (F_ca : Fld Z h0 a1 "java/lang/Throwable" "cause" "Ljava/lang/Throwable;" .null) (F_st : Fld Z h0 a1 "java/lang/Throwable" "stackTrace" "[Ljava/lang/StackTraceElement;" .null) (F_su : Fld Z h0 a1 "java/lang/Throwable" "suppressedExceptions" "Ljava/util/List;" .null) (F_uc : Fld Z h0 a1 "com/example/bill_per_call/billpercall/RequestException" "code" "Lcom/example/bill_per_call/billpercall/ErrorCode;" uc) (g_a1 : n0 ≤ a1) :
    MetFree l (⟨"com/example/bill_per_call/billpercall/RequestException", "<init>", "(Lcom/example/bill_per_call/billpercall/ErrorCode;Ljava/lang/String;)V"⟩ : MethodName) (head1 (Jvm.Cond.code (⟨"com/example/bill_per_call/billpercall/RequestException", "<init>", "(Lcom/example/bill_per_call/billpercall/ErrorCode;Ljava/lang/String;)V"⟩ : MethodName) prog_7_method_1_code 3 none :: ws) ({ frames := 6, cells := 1, slots := 2752, locals := 84 } : Room)) (fun a U => a = #[(.ref a1), (.ref a2), .null] ∧ Z.Warmed39 U.vm ∧ U.heap = h0) (fun _ _ bl s _ => s.vm.MethodsKnown ∧ s.vm.FramesKnown bl) (fun _ U o U' => ∃ rv rL, o = .returned rv ∧ QRE Z a1 a2 .null h0 n0 rv U'.heap rL ∧ FrameEnd U o U' rL ({ frames := 6, cells := 1, slots := 2752, locals := 84 } : Room).cells ({ frames := 6, cells := 1, slots := 2752, locals := 84 } : Room).slots) := by
  refine MetFree.of_bodySF (plainFor_of_name pn_7) hisR ?_
  intro p e s m args below meth c s₁ Bd hml0 hP hK
  obtain ⟨rfl, hZ, hh⟩ := hP
  have hx := Bd.exec
  have hby := Bd.bytes
  have hml : c.maxLocals = 3 := hml0
  have hown : s.vm.findClass "com/example/bill_per_call/billpercall/RequestException" = some m.cls := findClass_of_methodNamed Bd.named
  have hnm := (name_of_methodNamed Bd.named Bd.method).1
  have X0 : Stand p l e ({ frames := 6, cells := 1, slots := 2752, locals := 84 } : Room) s m #[(.ref a1), (.ref a2), .null] below meth c s₁ [] 0 0 := Stand.of_body Bd
  have e0 : s₁.heap = h0 := by rw [← hh, Bd.state]; rfl
  have N0 := Fr.nil n0
  have pre0 : ∀ t, Steps p.tables e below (s₁.setTop (mkF m 0 #[.val (.ref a1), .val (.ref a2), .val .null] [])) t → Steps p.tables e below (s₁.setTop (entryFrame m #[(.ref a1), (.ref a2), .null] 3)) t := fun t k => castTop (ef_7vvn m a1 a2) k
  obtain ⟨_, _, ⟨T101, L101, k101, n101⟩, -, X101, ⟨Lc101, hQ101, l101, y101, z101⟩, st101⟩ := X0.specialBack hx (y := (⟨"java/lang/RuntimeException", "<init>", "(Ljava/lang/String;)V"⟩ : MethodName)) rfl hown (mvT hZ (hw _ (List.mem_of_getElem? (i := 38) rfl))) (mvT hZ (hw _ (List.mem_of_getElem? (i := 39) rfl))) (mvT hZ (hw _ (List.mem_of_getElem? (i := 42) rfl))) (by decide) (backOfKL (W := 0) (rmX2_n l Z a0 hw [] a1 (uc) h0 n0 X00 hl hr2 E_a1 U_a1 F_b F_m F_ca F_st F_su F_uc g_a1) hZ (hw _ (List.mem_of_getElem? (i := 42) rfl)) (hw _ (List.mem_of_getElem? (i := 41) rfl)) (by decide) (by decide) hK.1 hK.2) (g := (mkF m 2 #[.val (.ref a1), .val (.ref a2), .val .null] [.null, (.ref a1)])) rfl (by rw [hml]; rfl) (Steps.refl _) (a := a1) (argsL := [.null]) (rest := []) (lenOf pd_Ljava_lang_String__V rfl) rfl (by show 2 * 0 + _ ≤ _; exact Nat.le_of_eq rfl) (hb hby d7_2) (fun _ _ => ⟨rfl, e0, (by decide : 0 + 1 ≤ _), (by decide : 0 + 2752 ≤ _)⟩)
  dsimp only [Pt.U, Pt.locs, Pt.cells, Pt.slots] at X101 l101 y101 z101 st101 hQ101
  subst l101 y101 z101
  obtain ⟨rfl, N101q, Kc101, E101x, Fm101x, Fo101x0⟩ := hQ101
  have N101 := Fr.app N0 N101q
  obtain ⟨T102, h102, X102, e102, W102, st102⟩ := putF X101 hx hZ hown (host := "") (Or.inl (hw _ (List.mem_of_getElem? (i := 92) rfl))) Via.refl rfl Fo101x0 E101x (Or.inr ⟨(hw _ (List.mem_of_getElem? (i := 93) rfl)), rfl, hnm⟩) (hw _ (List.mem_of_getElem? (i := 31) rfl)) (ty := (.object "com/example/bill_per_call/billpercall/ErrorCode")) (by decide) rfl rfl (g := (mkF m 7 #[.val (.ref a1), .val (.ref a2), .val .null] [(.ref a2), (.ref a1)])) rfl rfl (hb hby d7_7)
  have Fw102 := Fo101x0.same W102
  have N102 := Fr.snoc X102 N101 g_a1
  have y103 := (((Keep.refl h0 [a1]).trans Kc101 (allS (Or.inl (List.mem_of_getElem? (i := 0) rfl)) all0)).wr W102 (Or.inl (List.mem_of_getElem? (i := 0) rfl)))
  have y104 := (E101x.wr W102)
  have y105 := (Fm101x.other W102 (Or.inr (slot_ne (Or.inl (hw _ (List.mem_of_getElem? (i := 87) rfl))) (Or.inr (hw _ (List.mem_of_getElem? (i := 93) rfl))) (by decide) (t := (.object "java/lang/String")) (t' := (.object "com/example/bill_per_call/billpercall/ErrorCode")) (by decide) (by decide))))
  obtain ⟨fs, hr, hrun, hended, hW, hsame⟩ := X102.leave (v := none) (fun _ => rfl)
  refine ⟨_, _, pre0 _ ?_, hrun, hended, _, _, rfl, ?_, ⟨_, rfl⟩, hW, hsame.mono (by decide) (by decide)⟩
  · show Steps p.tables e below (s₁.setTop (mkF m 0 #[.val (.ref a1), .val (.ref a2), .val .null] [])) _
    refine XS.aloadN X0.here hx rfl (hb hby d7_0) rfl rfl ?_
    show Steps p.tables e below (s₁.setTop (mkF m 1 #[.val (.ref a1), .val (.ref a2), .val .null] [(.ref a1)])) _
    refine XS.aloadN X0.here hx rfl (hb hby d7_1) rfl rfl ?_
    show Steps p.tables e below (s₁.setTop (mkF m 2 #[.val (.ref a1), .val (.ref a2), .val .null] [.null, (.ref a1)])) _
    refine st101.trans ?_
    show Steps p.tables e below (T101.setTop (mkF m 5 #[.val (.ref a1), .val (.ref a2), .val .null] [])) _
    refine XS.aloadN X101.here hx rfl (hb hby d7_5) rfl rfl ?_
    show Steps p.tables e below (T101.setTop (mkF m 6 #[.val (.ref a1), .val (.ref a2), .val .null] [(.ref a1)])) _
    refine XS.aloadN X101.here hx rfl (hb hby d7_6) rfl rfl ?_
    show Steps p.tables e below (T101.setTop (mkF m 7 #[.val (.ref a1), .val (.ref a2), .val .null] [(.ref a2), (.ref a1)])) _
    refine st102 _ ?_
    show Steps p.tables e below (T102.setTop (mkF m 10 #[.val (.ref a1), .val (.ref a2), .val .null] [])) _
    exact X102.returnOut hx Bd.returns (hb hby d7_10) hr
  · show QRE Z a1 a2 .null h0 n0 _ T102.heap _
    rw [e102]
    exact ⟨rfl, N102, y103, y104, Fw102, y105⟩
set_option maxRecDepth 65536 in
set_option maxHeartbeats 40000000 in
theorem rmRE_r (l : Launch) (Z : State) (a0 : Array Value) (hw : ∀ d ∈ tables_1, d.before a0 Z = true) (ws : List Jvm.Cond) (a1 : Addr) (a2 : Addr) (mz : Addr) (uc : Value) (h0 : Heap) (n0 : Nat) (X00 : Old Z n0 h0) (hl : l.stackTraces = true) (hr2 : ∀ d ∈ twoRefs, d.before a0 Z = true) (E_a1 : Exa Z h0 a1 "com/example/bill_per_call/billpercall/RequestException") (U_a1 : Unt h0 a1) (F_b : Fld Z h0 a1 "java/lang/Throwable" "backtrace" "Ljava/lang/Object;" .null) (F_m : Fld Z h0 a1 "java/lang/Throwable" "detailMessage" "Ljava/lang/String;" .null) (F_ca : Fld Z h0 a1 "java/lang/Throwable" "cause" "Ljava/lang/Throwable;" .null) (F_st : Fld Z h0 a1 "java/lang/Throwable" "stackTrace" "[Ljava/lang/StackTraceElement;" .null) (F_su : Fld Z h0 a1 "java/lang/Throwable" "suppressedExceptions" "Ljava/util/List;" .null) (F_uc : Fld Z h0 a1 "com/example/bill_per_call/billpercall/RequestException" "code" "Lcom/example/bill_per_call/billpercall/ErrorCode;" uc) (g_a1 : n0 ≤ a1) :
    MetFree l (⟨"com/example/bill_per_call/billpercall/RequestException", "<init>", "(Lcom/example/bill_per_call/billpercall/ErrorCode;Ljava/lang/String;)V"⟩ : MethodName) (head1 (Jvm.Cond.code (⟨"com/example/bill_per_call/billpercall/RequestException", "<init>", "(Lcom/example/bill_per_call/billpercall/ErrorCode;Ljava/lang/String;)V"⟩ : MethodName) prog_7_method_1_code 3 none :: ws) ({ frames := 6, cells := 1, slots := 2752, locals := 84 } : Room)) (fun a U => a = #[(.ref a1), (.ref a2), (.ref mz)] ∧ Z.Warmed39 U.vm ∧ U.heap = h0) (fun _ _ bl s _ => s.vm.MethodsKnown ∧ s.vm.FramesKnown bl) (fun _ U o U' => ∃ rv rL, o = .returned rv ∧ QRE Z a1 a2 (.ref mz) h0 n0 rv U'.heap rL ∧ FrameEnd U o U' rL ({ frames := 6, cells := 1, slots := 2752, locals := 84 } : Room).cells ({ frames := 6, cells := 1, slots := 2752, locals := 84 } : Room).slots) := by
  refine MetFree.of_bodySF (plainFor_of_name pn_7) hisR ?_
  intro p e s m args below meth c s₁ Bd hml0 hP hK
  obtain ⟨rfl, hZ, hh⟩ := hP
  have hx := Bd.exec
  have hby := Bd.bytes
  have hml : c.maxLocals = 3 := hml0
  have hown : s.vm.findClass "com/example/bill_per_call/billpercall/RequestException" = some m.cls := findClass_of_methodNamed Bd.named
  have hnm := (name_of_methodNamed Bd.named Bd.method).1
  have X0 : Stand p l e ({ frames := 6, cells := 1, slots := 2752, locals := 84 } : Room) s m #[(.ref a1), (.ref a2), (.ref mz)] below meth c s₁ [] 0 0 := Stand.of_body Bd
  have e0 : s₁.heap = h0 := by rw [← hh, Bd.state]; rfl
  have N0 := Fr.nil n0
  have pre0 : ∀ t, Steps p.tables e below (s₁.setTop (mkF m 0 #[.val (.ref a1), .val (.ref a2), .val (.ref mz)] [])) t → Steps p.tables e below (s₁.setTop (entryFrame m #[(.ref a1), (.ref a2), (.ref mz)] 3)) t := fun t k => castTop (ef_7 m a1 a2 mz) k
  obtain ⟨_, _, ⟨T101, L101, k101, n101⟩, -, X101, ⟨Lc101, hQ101, l101, y101, z101⟩, st101⟩ := X0.specialBack hx (y := (⟨"java/lang/RuntimeException", "<init>", "(Ljava/lang/String;)V"⟩ : MethodName)) rfl hown (mvT hZ (hw _ (List.mem_of_getElem? (i := 38) rfl))) (mvT hZ (hw _ (List.mem_of_getElem? (i := 39) rfl))) (mvT hZ (hw _ (List.mem_of_getElem? (i := 42) rfl))) (by decide) (backOfKL (W := 0) (rmX2_r l Z a0 hw [] a1 mz (uc) h0 n0 X00 hl hr2 E_a1 U_a1 F_b F_m F_ca F_st F_su F_uc g_a1) hZ (hw _ (List.mem_of_getElem? (i := 42) rfl)) (hw _ (List.mem_of_getElem? (i := 41) rfl)) (by decide) (by decide) hK.1 hK.2) (g := (mkF m 2 #[.val (.ref a1), .val (.ref a2), .val (.ref mz)] [(.ref mz), (.ref a1)])) rfl (by rw [hml]; rfl) (Steps.refl _) (a := a1) (argsL := [(.ref mz)]) (rest := []) (lenOf pd_Ljava_lang_String__V rfl) rfl (by show 2 * 0 + _ ≤ _; exact Nat.le_of_eq rfl) (hb hby d7_2) (fun _ _ => ⟨rfl, e0, (by decide : 0 + 1 ≤ _), (by decide : 0 + 2752 ≤ _)⟩)
  dsimp only [Pt.U, Pt.locs, Pt.cells, Pt.slots] at X101 l101 y101 z101 st101 hQ101
  subst l101 y101 z101
  obtain ⟨rfl, N101q, Kc101, E101x, Fm101x, Fo101x0⟩ := hQ101
  have N101 := Fr.app N0 N101q
  obtain ⟨T102, h102, X102, e102, W102, st102⟩ := putF X101 hx hZ hown (host := "") (Or.inl (hw _ (List.mem_of_getElem? (i := 92) rfl))) Via.refl rfl Fo101x0 E101x (Or.inr ⟨(hw _ (List.mem_of_getElem? (i := 93) rfl)), rfl, hnm⟩) (hw _ (List.mem_of_getElem? (i := 31) rfl)) (ty := (.object "com/example/bill_per_call/billpercall/ErrorCode")) (by decide) rfl rfl (g := (mkF m 7 #[.val (.ref a1), .val (.ref a2), .val (.ref mz)] [(.ref a2), (.ref a1)])) rfl rfl (hb hby d7_7)
  have Fw102 := Fo101x0.same W102
  have N102 := Fr.snoc X102 N101 g_a1
  have y103 := (((Keep.refl h0 [a1]).trans Kc101 (allS (Or.inl (List.mem_of_getElem? (i := 0) rfl)) all0)).wr W102 (Or.inl (List.mem_of_getElem? (i := 0) rfl)))
  have y104 := (E101x.wr W102)
  have y105 := (Fm101x.other W102 (Or.inr (slot_ne (Or.inl (hw _ (List.mem_of_getElem? (i := 87) rfl))) (Or.inr (hw _ (List.mem_of_getElem? (i := 93) rfl))) (by decide) (t := (.object "java/lang/String")) (t' := (.object "com/example/bill_per_call/billpercall/ErrorCode")) (by decide) (by decide))))
  obtain ⟨fs, hr, hrun, hended, hW, hsame⟩ := X102.leave (v := none) (fun _ => rfl)
  refine ⟨_, _, pre0 _ ?_, hrun, hended, _, _, rfl, ?_, ⟨_, rfl⟩, hW, hsame.mono (by decide) (by decide)⟩
  · show Steps p.tables e below (s₁.setTop (mkF m 0 #[.val (.ref a1), .val (.ref a2), .val (.ref mz)] [])) _
    refine XS.aloadN X0.here hx rfl (hb hby d7_0) rfl rfl ?_
    show Steps p.tables e below (s₁.setTop (mkF m 1 #[.val (.ref a1), .val (.ref a2), .val (.ref mz)] [(.ref a1)])) _
    refine XS.aloadN X0.here hx rfl (hb hby d7_1) rfl rfl ?_
    show Steps p.tables e below (s₁.setTop (mkF m 2 #[.val (.ref a1), .val (.ref a2), .val (.ref mz)] [(.ref mz), (.ref a1)])) _
    refine st101.trans ?_
    show Steps p.tables e below (T101.setTop (mkF m 5 #[.val (.ref a1), .val (.ref a2), .val (.ref mz)] [])) _
    refine XS.aloadN X101.here hx rfl (hb hby d7_5) rfl rfl ?_
    show Steps p.tables e below (T101.setTop (mkF m 6 #[.val (.ref a1), .val (.ref a2), .val (.ref mz)] [(.ref a1)])) _
    refine XS.aloadN X101.here hx rfl (hb hby d7_6) rfl rfl ?_
    show Steps p.tables e below (T101.setTop (mkF m 7 #[.val (.ref a1), .val (.ref a2), .val (.ref mz)] [(.ref a2), (.ref a1)])) _
    refine st102 _ ?_
    show Steps p.tables e below (T102.setTop (mkF m 10 #[.val (.ref a1), .val (.ref a2), .val (.ref mz)] [])) _
    exact X102.returnOut hx Bd.returns (hb hby d7_10) hr
  · show QRE Z a1 a2 (.ref mz) h0 n0 _ T102.heap _
    rw [e102]
    exact ⟨rfl, N102, y103, y104, Fw102, y105⟩
set_option maxRecDepth 65536 in
set_option maxHeartbeats 40000000 in
theorem rmCf_n (l : Launch) (Z : State) (a0 : Array Value) (hw : ∀ d ∈ tables_1, d.before a0 Z = true) (ws : List Jvm.Cond) (wc : Addr) (h0 : Heap) (n0 : Nat) (X00 : Old Z n0 h0) (hl : l.stackTraces = true) (hr2 : ∀ d ∈ twoRefs, d.before a0 Z = true) (S_c : Sta Z Z.heap EC "CONFLICT" ECD (.ref wc)) :
    MetFree l (⟨"com/example/bill_per_call/billpercall/RequestException", "conflict", "(Ljava/lang/String;)Lcom/example/bill_per_call/billpercall/RequestException;"⟩ : MethodName) (head1 (Jvm.Cond.code (⟨"com/example/bill_per_call/billpercall/RequestException", "conflict", "(Ljava/lang/String;)Lcom/example/bill_per_call/billpercall/RequestException;"⟩ : MethodName) prog_7_method_4_code 1 (some (.object "com/example/bill_per_call/billpercall/RequestException")) :: ws) ({ frames := 7, cells := 2, slots := 2759, locals := 99 } : Room)) (fun a U => a = #[.null] ∧ Z.Warmed39 U.vm ∧ U.heap = h0) (fun _ _ bl s _ => s.vm.MethodsKnown ∧ s.vm.FramesKnown bl) (fun _ U o U' => ∃ rv rL, o = .returned rv ∧ QCf Z wc .null h0 n0 rv U'.heap rL ∧ FrameEnd U o U' rL ({ frames := 7, cells := 2, slots := 2759, locals := 99 } : Room).cells ({ frames := 7, cells := 2, slots := 2759, locals := 99 } : Room).slots) := by
  refine MetFree.of_bodySF (plainFor_of_name pn_6) hisR ?_
  intro p e s m args below meth c s₁ Bd hml0 hP hK
  obtain ⟨rfl, hZ, hh⟩ := hP
  have hx := Bd.exec
  have hby := Bd.bytes
  have hml : c.maxLocals = 1 := hml0
  have hown : s.vm.findClass "com/example/bill_per_call/billpercall/RequestException" = some m.cls := findClass_of_methodNamed Bd.named
  have hnm := (name_of_methodNamed Bd.named Bd.method).1
  have X0 : Stand p l e ({ frames := 7, cells := 2, slots := 2759, locals := 99 } : Room) s m #[.null] below meth c s₁ [] 0 0 := Stand.of_body Bd
  have e0 : s₁.heap = h0 := by rw [← hh, Bd.state]; rfl
  have N0 := Fr.nil n0
  have pre0 : ∀ t, Steps p.tables e below (s₁.setTop (mkF m 0 #[.val .null] [])) t → Steps p.tables e below (s₁.setTop (entryFrame m #[.null] 1)) t := fun t k => castTop (ef_6n m ) k
  obtain ⟨T101, h101, X101, e101, E101, A101, D101, U101, st101⟩ := newO X0 hx hZ hown (hw _ (List.mem_of_getElem? (i := 30) rfl)) (hw _ (List.mem_of_getElem? (i := 31) rfl)) (hw _ (List.mem_of_getElem? (i := 28) rfl)) e0 (g := (mkF m 0 #[.val .null] [])) rfl (hb hby d6_0) (by decide) (by decide)
  obtain ⟨b101, g101⟩ : ∃ z, z = h0.size := ⟨_, rfl⟩
  rw [← g101] at A101 D101 U101 st101
  have g_b101 : n0 ≤ b101 := Nat.le_trans (own_le X00) (Nat.le_of_eq g101.symm)
  have sz_b101 : h0.size ≤ b101 := Nat.le_trans (Keep.refl h0 []).1 (Nat.le_of_eq g101.symm)
  have F101_cause : Fld Z h101 b101 "java/lang/Throwable" "cause" "Ljava/lang/Throwable;" .null := D101 (Or.inl (hw _ (List.mem_of_getElem? (i := 57) rfl))) (ty := (.object "java/lang/Throwable")) (by decide)
  have F101_stackTrace : Fld Z h101 b101 "java/lang/Throwable" "stackTrace" "[Ljava/lang/StackTraceElement;" .null := D101 (Or.inl (hw _ (List.mem_of_getElem? (i := 60) rfl))) (ty := (.array (.object "java/lang/StackTraceElement"))) (by decide)
  have F101_suppressedExceptions : Fld Z h101 b101 "java/lang/Throwable" "suppressedExceptions" "Ljava/util/List;" .null := D101 (Or.inl (hw _ (List.mem_of_getElem? (i := 63) rfl))) (ty := (.object "java/util/List")) (by decide)
  have F101_detailMessage : Fld Z h101 b101 "java/lang/Throwable" "detailMessage" "Ljava/lang/String;" .null := D101 (Or.inl (hw _ (List.mem_of_getElem? (i := 87) rfl))) (ty := (.object "java/lang/String")) (by decide)
  have F101_backtrace : Fld Z h101 b101 "java/lang/Throwable" "backtrace" "Ljava/lang/Object;" .null := D101 (Or.inl (hw _ (List.mem_of_getElem? (i := 88) rfl))) (ty := (.object "java/lang/Object")) (by decide)
  have F101_depth : Fld Z h101 b101 "java/lang/Throwable" "depth" "I" (.int (0 : Int32)) := D101 (Or.inl (hw _ (List.mem_of_getElem? (i := 89) rfl))) (ty := .int) (by decide)
  have F101_code : Fld Z h101 b101 "com/example/bill_per_call/billpercall/RequestException" "code" "Lcom/example/bill_per_call/billpercall/ErrorCode;" .null := D101 (Or.inr (hw _ (List.mem_of_getElem? (i := 93) rfl))) (ty := (.object "com/example/bill_per_call/billpercall/ErrorCode")) (by decide)
  have y103 := (X00.ext E101)
  obtain ⟨T102, X102, e102, st102⟩ := getS2 X101 hx hZ hown (host := "") (Or.inl (hw _ (List.mem_of_getElem? (i := 32) rfl))) Via.refl e101 (S_c.ext y103.2) (g := (mkF m 4 #[.val .null] [(.ref b101), (.ref b101)])) rfl (hb hby d6_4)
  obtain ⟨_, _, ⟨T104, L104, k104, n104⟩, -, X104, ⟨Lc104, hQ104, l104, y104, z104⟩, st104⟩ := X102.specialBack hx (y := (⟨"com/example/bill_per_call/billpercall/RequestException", "<init>", "(Lcom/example/bill_per_call/billpercall/ErrorCode;Ljava/lang/String;)V"⟩ : MethodName)) rfl hown (mvT hZ (hw _ (List.mem_of_getElem? (i := 35) rfl))) (mvT hZ (hw _ (List.mem_of_getElem? (i := 36) rfl))) (mvT hZ (hw _ (List.mem_of_getElem? (i := 37) rfl))) (by decide) (backOfKL (W := 1) (rmRE_n l Z a0 hw [] b101 wc  .null h101 n0 y103 hl hr2 A101 U101 F101_backtrace F101_detailMessage F101_cause F101_stackTrace F101_suppressedExceptions F101_code g_b101) hZ (hw _ (List.mem_of_getElem? (i := 37) rfl)) (hw _ (List.mem_of_getElem? (i := 28) rfl)) (by decide) (by decide) hK.1 hK.2) (g := (mkF m 8 #[.val .null] [.null, (.ref wc), (.ref b101), (.ref b101)])) rfl (by rw [hml]; rfl) (Steps.refl _) (a := b101) (argsL := [(.ref wc), .null]) (rest := [(.ref b101)]) (lenOf pd_Lcom_example_bill_per_call_billpercall_ErrorCode_Ljava_lang_String__V rfl) rfl (by show 2 * 0 + _ ≤ _; exact Nat.le_of_eq rfl) (hb hby d6_8) (fun _ _ => ⟨rfl, e102, (by decide : 1 + 1 ≤ _), (by decide : 7 + 2752 ≤ _)⟩)
  dsimp only [Pt.U, Pt.locs, Pt.cells, Pt.slots] at X104 l104 y104 z104 st104 hQ104
  subst l104 y104 z104
  obtain ⟨rfl, N104q, Kc104, B104⟩ := hQ104
  have N104 := Fr.app N0 N104q
  have y105 := (((Keep.refl h0 []).ext E101).trans Kc104 (allS (Or.inr sz_b101) all0))
  obtain ⟨fs, hr, hrun, hended, hW, hsame⟩ := X104.leave (v := some (.ref b101)) (fun h => by rw [Bd.returns] at h; cases h)
  refine ⟨_, _, pre0 _ ?_, hrun, hended, _, _, rfl, ?_, ⟨_, rfl⟩, hW, hsame.mono (by decide) (by decide)⟩
  · show Steps p.tables e below (s₁.setTop (mkF m 0 #[.val .null] [])) _
    refine st101 _ ?_
    show Steps p.tables e below (T101.setTop (mkF m 3 #[.val .null] [(.ref b101)])) _
    refine XS.dup X101.here hx rfl (hb hby d6_3) rfl rfl ?_
    show Steps p.tables e below (T101.setTop (mkF m 4 #[.val .null] [(.ref b101), (.ref b101)])) _
    refine st102 _ ?_
    show Steps p.tables e below (T102.setTop (mkF m 7 #[.val .null] [(.ref wc), (.ref b101), (.ref b101)])) _
    refine XS.aloadN X102.here hx rfl (hb hby d6_7) rfl rfl ?_
    show Steps p.tables e below (T102.setTop (mkF m 8 #[.val .null] [.null, (.ref wc), (.ref b101), (.ref b101)])) _
    refine st104.trans ?_
    show Steps p.tables e below (T104.setTop (mkF m 11 #[.val .null] [(.ref b101)])) _
    jvm_step X104.here [X104.here.top, hx, (hb hby d6_11), X104.method', Bd.returns, Value.isRef, FieldType.isReference]
    first | (intro acts; rw [hr _ acts rfl rfl rfl]) | rw [hr _ _ rfl rfl rfl]
    exact Steps.refl _
  · show QCf Z wc .null h0 n0 _ T104.heap _
    exact ⟨_, rfl, N104, y105, B104⟩
set_option maxRecDepth 65536 in
set_option maxHeartbeats 40000000 in
theorem rmCf_r (l : Launch) (Z : State) (a0 : Array Value) (hw : ∀ d ∈ tables_1, d.before a0 Z = true) (ws : List Jvm.Cond) (mz : Addr) (wc : Addr) (h0 : Heap) (n0 : Nat) (X00 : Old Z n0 h0) (hl : l.stackTraces = true) (hr2 : ∀ d ∈ twoRefs, d.before a0 Z = true) (S_c : Sta Z Z.heap EC "CONFLICT" ECD (.ref wc)) :
    MetFree l (⟨"com/example/bill_per_call/billpercall/RequestException", "conflict", "(Ljava/lang/String;)Lcom/example/bill_per_call/billpercall/RequestException;"⟩ : MethodName) (head1 (Jvm.Cond.code (⟨"com/example/bill_per_call/billpercall/RequestException", "conflict", "(Ljava/lang/String;)Lcom/example/bill_per_call/billpercall/RequestException;"⟩ : MethodName) prog_7_method_4_code 1 (some (.object "com/example/bill_per_call/billpercall/RequestException")) :: ws) ({ frames := 7, cells := 2, slots := 2759, locals := 99 } : Room)) (fun a U => a = #[(.ref mz)] ∧ Z.Warmed39 U.vm ∧ U.heap = h0) (fun _ _ bl s _ => s.vm.MethodsKnown ∧ s.vm.FramesKnown bl) (fun _ U o U' => ∃ rv rL, o = .returned rv ∧ QCf Z wc (.ref mz) h0 n0 rv U'.heap rL ∧ FrameEnd U o U' rL ({ frames := 7, cells := 2, slots := 2759, locals := 99 } : Room).cells ({ frames := 7, cells := 2, slots := 2759, locals := 99 } : Room).slots) := by
  refine MetFree.of_bodySF (plainFor_of_name pn_6) hisR ?_
  intro p e s m args below meth c s₁ Bd hml0 hP hK
  obtain ⟨rfl, hZ, hh⟩ := hP
  have hx := Bd.exec
  have hby := Bd.bytes
  have hml : c.maxLocals = 1 := hml0
  have hown : s.vm.findClass "com/example/bill_per_call/billpercall/RequestException" = some m.cls := findClass_of_methodNamed Bd.named
  have hnm := (name_of_methodNamed Bd.named Bd.method).1
  have X0 : Stand p l e ({ frames := 7, cells := 2, slots := 2759, locals := 99 } : Room) s m #[(.ref mz)] below meth c s₁ [] 0 0 := Stand.of_body Bd
  have e0 : s₁.heap = h0 := by rw [← hh, Bd.state]; rfl
  have N0 := Fr.nil n0
  have pre0 : ∀ t, Steps p.tables e below (s₁.setTop (mkF m 0 #[.val (.ref mz)] [])) t → Steps p.tables e below (s₁.setTop (entryFrame m #[(.ref mz)] 1)) t := fun t k => castTop (ef_6 m mz) k
  obtain ⟨T101, h101, X101, e101, E101, A101, D101, U101, st101⟩ := newO X0 hx hZ hown (hw _ (List.mem_of_getElem? (i := 30) rfl)) (hw _ (List.mem_of_getElem? (i := 31) rfl)) (hw _ (List.mem_of_getElem? (i := 28) rfl)) e0 (g := (mkF m 0 #[.val (.ref mz)] [])) rfl (hb hby d6_0) (by decide) (by decide)
  obtain ⟨b101, g101⟩ : ∃ z, z = h0.size := ⟨_, rfl⟩
  rw [← g101] at A101 D101 U101 st101
  have g_b101 : n0 ≤ b101 := Nat.le_trans (own_le X00) (Nat.le_of_eq g101.symm)
  have sz_b101 : h0.size ≤ b101 := Nat.le_trans (Keep.refl h0 []).1 (Nat.le_of_eq g101.symm)
  have F101_cause : Fld Z h101 b101 "java/lang/Throwable" "cause" "Ljava/lang/Throwable;" .null := D101 (Or.inl (hw _ (List.mem_of_getElem? (i := 57) rfl))) (ty := (.object "java/lang/Throwable")) (by decide)
  have F101_stackTrace : Fld Z h101 b101 "java/lang/Throwable" "stackTrace" "[Ljava/lang/StackTraceElement;" .null := D101 (Or.inl (hw _ (List.mem_of_getElem? (i := 60) rfl))) (ty := (.array (.object "java/lang/StackTraceElement"))) (by decide)
  have F101_suppressedExceptions : Fld Z h101 b101 "java/lang/Throwable" "suppressedExceptions" "Ljava/util/List;" .null := D101 (Or.inl (hw _ (List.mem_of_getElem? (i := 63) rfl))) (ty := (.object "java/util/List")) (by decide)
  have F101_detailMessage : Fld Z h101 b101 "java/lang/Throwable" "detailMessage" "Ljava/lang/String;" .null := D101 (Or.inl (hw _ (List.mem_of_getElem? (i := 87) rfl))) (ty := (.object "java/lang/String")) (by decide)
  have F101_backtrace : Fld Z h101 b101 "java/lang/Throwable" "backtrace" "Ljava/lang/Object;" .null := D101 (Or.inl (hw _ (List.mem_of_getElem? (i := 88) rfl))) (ty := (.object "java/lang/Object")) (by decide)
  have F101_depth : Fld Z h101 b101 "java/lang/Throwable" "depth" "I" (.int (0 : Int32)) := D101 (Or.inl (hw _ (List.mem_of_getElem? (i := 89) rfl))) (ty := .int) (by decide)
  have F101_code : Fld Z h101 b101 "com/example/bill_per_call/billpercall/RequestException" "code" "Lcom/example/bill_per_call/billpercall/ErrorCode;" .null := D101 (Or.inr (hw _ (List.mem_of_getElem? (i := 93) rfl))) (ty := (.object "com/example/bill_per_call/billpercall/ErrorCode")) (by decide)
  have y103 := (X00.ext E101)
  obtain ⟨T102, X102, e102, st102⟩ := getS2 X101 hx hZ hown (host := "") (Or.inl (hw _ (List.mem_of_getElem? (i := 32) rfl))) Via.refl e101 (S_c.ext y103.2) (g := (mkF m 4 #[.val (.ref mz)] [(.ref b101), (.ref b101)])) rfl (hb hby d6_4)
  obtain ⟨_, _, ⟨T104, L104, k104, n104⟩, -, X104, ⟨Lc104, hQ104, l104, y104, z104⟩, st104⟩ := X102.specialBack hx (y := (⟨"com/example/bill_per_call/billpercall/RequestException", "<init>", "(Lcom/example/bill_per_call/billpercall/ErrorCode;Ljava/lang/String;)V"⟩ : MethodName)) rfl hown (mvT hZ (hw _ (List.mem_of_getElem? (i := 35) rfl))) (mvT hZ (hw _ (List.mem_of_getElem? (i := 36) rfl))) (mvT hZ (hw _ (List.mem_of_getElem? (i := 37) rfl))) (by decide) (backOfKL (W := 1) (rmRE_r l Z a0 hw [] b101 wc mz .null h101 n0 y103 hl hr2 A101 U101 F101_backtrace F101_detailMessage F101_cause F101_stackTrace F101_suppressedExceptions F101_code g_b101) hZ (hw _ (List.mem_of_getElem? (i := 37) rfl)) (hw _ (List.mem_of_getElem? (i := 28) rfl)) (by decide) (by decide) hK.1 hK.2) (g := (mkF m 8 #[.val (.ref mz)] [(.ref mz), (.ref wc), (.ref b101), (.ref b101)])) rfl (by rw [hml]; rfl) (Steps.refl _) (a := b101) (argsL := [(.ref wc), (.ref mz)]) (rest := [(.ref b101)]) (lenOf pd_Lcom_example_bill_per_call_billpercall_ErrorCode_Ljava_lang_String__V rfl) rfl (by show 2 * 0 + _ ≤ _; exact Nat.le_of_eq rfl) (hb hby d6_8) (fun _ _ => ⟨rfl, e102, (by decide : 1 + 1 ≤ _), (by decide : 7 + 2752 ≤ _)⟩)
  dsimp only [Pt.U, Pt.locs, Pt.cells, Pt.slots] at X104 l104 y104 z104 st104 hQ104
  subst l104 y104 z104
  obtain ⟨rfl, N104q, Kc104, B104⟩ := hQ104
  have N104 := Fr.app N0 N104q
  have y105 := (((Keep.refl h0 []).ext E101).trans Kc104 (allS (Or.inr sz_b101) all0))
  obtain ⟨fs, hr, hrun, hended, hW, hsame⟩ := X104.leave (v := some (.ref b101)) (fun h => by rw [Bd.returns] at h; cases h)
  refine ⟨_, _, pre0 _ ?_, hrun, hended, _, _, rfl, ?_, ⟨_, rfl⟩, hW, hsame.mono (by decide) (by decide)⟩
  · show Steps p.tables e below (s₁.setTop (mkF m 0 #[.val (.ref mz)] [])) _
    refine st101 _ ?_
    show Steps p.tables e below (T101.setTop (mkF m 3 #[.val (.ref mz)] [(.ref b101)])) _
    refine XS.dup X101.here hx rfl (hb hby d6_3) rfl rfl ?_
    show Steps p.tables e below (T101.setTop (mkF m 4 #[.val (.ref mz)] [(.ref b101), (.ref b101)])) _
    refine st102 _ ?_
    show Steps p.tables e below (T102.setTop (mkF m 7 #[.val (.ref mz)] [(.ref wc), (.ref b101), (.ref b101)])) _
    refine XS.aloadN X102.here hx rfl (hb hby d6_7) rfl rfl ?_
    show Steps p.tables e below (T102.setTop (mkF m 8 #[.val (.ref mz)] [(.ref mz), (.ref wc), (.ref b101), (.ref b101)])) _
    refine st104.trans ?_
    show Steps p.tables e below (T104.setTop (mkF m 11 #[.val (.ref mz)] [(.ref b101)])) _
    jvm_step X104.here [X104.here.top, hx, (hb hby d6_11), X104.method', Bd.returns, Value.isRef, FieldType.isReference]
    first | (intro acts; rw [hr _ acts rfl rfl rfl]) | rw [hr _ _ rfl rfl rfl]
    exact Steps.refl _
  · show QCf Z wc (.ref mz) h0 n0 _ T104.heap _
    exact ⟨_, rfl, N104, y105, B104⟩
set_option maxRecDepth 65536 in
set_option maxHeartbeats 40000000 in
theorem rmCo (l : Launch) (Z : State) (a0 : Array Value) (hw : ∀ d ∈ tables_1, d.before a0 Z = true) (ws : List Jvm.Cond) (a1 : Addr) (w : Addr) (h0 : Heap) (n0 : Nat) (X00 : Old Z n0 h0) (F : Fld Z h0 a1 RE "code" ECD (.ref w)) :
    MetFree l (⟨"com/example/bill_per_call/billpercall/RequestException", "code", "()Lcom/example/bill_per_call/billpercall/ErrorCode;"⟩ : MethodName) (head1 (Jvm.Cond.code (⟨"com/example/bill_per_call/billpercall/RequestException", "code", "()Lcom/example/bill_per_call/billpercall/ErrorCode;"⟩ : MethodName) prog_7_method_7_code 1 (some (.object "com/example/bill_per_call/billpercall/ErrorCode")) :: ws) ({ frames := 0, cells := 0, slots := 0, locals := 0 } : Room)) (fun a U => a = #[(.ref a1)] ∧ Z.Warmed39 U.vm ∧ U.heap = h0) (fun _ _ _ _ _ => True) (fun _ U o U' => ∃ rv rL, o = .returned rv ∧ Qs (some (.ref w)) h0 n0 rv U'.heap rL ∧ FrameEnd U o U' rL ({ frames := 0, cells := 0, slots := 0, locals := 0 } : Room).cells ({ frames := 0, cells := 0, slots := 0, locals := 0 } : Room).slots) := by
  refine MetFree.of_bodySF (plainFor_of_name pn_13) hisR ?_
  intro p e s m args below meth c s₁ Bd hml0 hP hK
  obtain ⟨rfl, hZ, hh⟩ := hP
  have hx := Bd.exec
  have hby := Bd.bytes
  have hml : c.maxLocals = 1 := hml0
  have hown : s.vm.findClass "com/example/bill_per_call/billpercall/RequestException" = some m.cls := findClass_of_methodNamed Bd.named
  have hnm := (name_of_methodNamed Bd.named Bd.method).1
  have X0 : Stand p l e ({ frames := 0, cells := 0, slots := 0, locals := 0 } : Room) s m #[(.ref a1)] below meth c s₁ [] 0 0 := Stand.of_body Bd
  have e0 : s₁.heap = h0 := by rw [← hh, Bd.state]; rfl
  have N0 := Fr.nil n0
  have pre0 : ∀ t, Steps p.tables e below (s₁.setTop (mkF m 0 #[.val (.ref a1)] [])) t → Steps p.tables e below (s₁.setTop (entryFrame m #[(.ref a1)] 1)) t := fun t k => castTop (ef_13 m a1) k
  obtain ⟨T101, X101, e101, st101⟩ := getF X0 hx hZ hown (host := "") (Or.inl (hw _ (List.mem_of_getElem? (i := 92) rfl))) Via.refl e0 F (g := (mkF m 1 #[.val (.ref a1)] [(.ref a1)])) rfl rfl (hb hby d13_1)
  obtain ⟨fs, hr, hrun, hended, hW, hsame⟩ := X101.leave (v := some (.ref w)) (fun h => by rw [Bd.returns] at h; cases h)
  refine ⟨_, _, pre0 _ ?_, hrun, hended, _, _, rfl, ?_, ⟨_, rfl⟩, hW, hsame.mono (by decide) (by decide)⟩
  · show Steps p.tables e below (s₁.setTop (mkF m 0 #[.val (.ref a1)] [])) _
    refine XS.aloadN X0.here hx rfl (hb hby d13_0) rfl rfl ?_
    show Steps p.tables e below (s₁.setTop (mkF m 1 #[.val (.ref a1)] [(.ref a1)])) _
    refine st101 _ ?_
    show Steps p.tables e below (T101.setTop (mkF m 4 #[.val (.ref a1)] [(.ref w)])) _
    jvm_step X101.here [X101.here.top, hx, (hb hby d13_4), X101.method', Bd.returns, Value.isRef, FieldType.isReference]
    first | (intro acts; rw [hr _ acts rfl rfl rfl]) | rw [hr _ _ rfl rfl rfl]
    exact Steps.refl _
  · show Qs (some (.ref w)) h0 n0 _ T101.heap _
    rw [e101]
    exact ⟨rfl, N0, rfl⟩
set_option maxRecDepth 65536 in
set_option maxHeartbeats 40000000 in
theorem rmEs (l : Launch) (Z : State) (a0 : Array Value) (hw : ∀ d ∈ tables_1, d.before a0 Z = true) (ws : List Jvm.Cond) (a1 : Addr) (w : Int32) (h0 : Heap) (n0 : Nat) (X00 : Old Z n0 h0) (F : Fld Z h0 a1 EC "status" "I" (.int w)) :
    MetFree l (⟨"com/example/bill_per_call/billpercall/ErrorCode", "status", "()I"⟩ : MethodName) (head1 (Jvm.Cond.code (⟨"com/example/bill_per_call/billpercall/ErrorCode", "status", "()I"⟩ : MethodName) prog_3_method_4_code 1 (some .int) :: ws) ({ frames := 0, cells := 0, slots := 0, locals := 0 } : Room)) (fun a U => a = #[(.ref a1)] ∧ Z.Warmed39 U.vm ∧ U.heap = h0) (fun _ _ _ _ _ => True) (fun _ U o U' => ∃ rv rL, o = .returned rv ∧ Qs (some (.int w)) h0 n0 rv U'.heap rL ∧ FrameEnd U o U' rL ({ frames := 0, cells := 0, slots := 0, locals := 0 } : Room).cells ({ frames := 0, cells := 0, slots := 0, locals := 0 } : Room).slots) := by
  refine MetFree.of_bodySF (plainFor_of_name pn_14) hisR ?_
  intro p e s m args below meth c s₁ Bd hml0 hP hK
  obtain ⟨rfl, hZ, hh⟩ := hP
  have hx := Bd.exec
  have hby := Bd.bytes
  have hml : c.maxLocals = 1 := hml0
  have hown : s.vm.findClass "com/example/bill_per_call/billpercall/ErrorCode" = some m.cls := findClass_of_methodNamed Bd.named
  have hnm := (name_of_methodNamed Bd.named Bd.method).1
  have X0 : Stand p l e ({ frames := 0, cells := 0, slots := 0, locals := 0 } : Room) s m #[(.ref a1)] below meth c s₁ [] 0 0 := Stand.of_body Bd
  have e0 : s₁.heap = h0 := by rw [← hh, Bd.state]; rfl
  have N0 := Fr.nil n0
  have pre0 : ∀ t, Steps p.tables e below (s₁.setTop (mkF m 0 #[.val (.ref a1)] [])) t → Steps p.tables e below (s₁.setTop (entryFrame m #[(.ref a1)] 1)) t := fun t k => castTop (ef_14 m a1) k
  obtain ⟨T101, X101, e101, st101⟩ := getF X0 hx hZ hown (host := "") (Or.inl (hw _ (List.mem_of_getElem? (i := 105) rfl))) Via.refl e0 F (g := (mkF m 1 #[.val (.ref a1)] [(.ref a1)])) rfl rfl (hb hby d14_1)
  obtain ⟨fs, hr, hrun, hended, hW, hsame⟩ := X101.leave (v := some (.int w)) (fun h => by rw [Bd.returns] at h; cases h)
  refine ⟨_, _, pre0 _ ?_, hrun, hended, _, _, rfl, ?_, ⟨_, rfl⟩, hW, hsame.mono (by decide) (by decide)⟩
  · show Steps p.tables e below (s₁.setTop (mkF m 0 #[.val (.ref a1)] [])) _
    refine XS.aloadN X0.here hx rfl (hb hby d14_0) rfl rfl ?_
    show Steps p.tables e below (s₁.setTop (mkF m 1 #[.val (.ref a1)] [(.ref a1)])) _
    refine st101 _ ?_
    show Steps p.tables e below (T101.setTop (mkF m 4 #[.val (.ref a1)] [(.int w)])) _
    exact retI X101 hx Bd.returns (hb hby d14_4) hr
  · show Qs (some (.int w)) h0 n0 _ T101.heap _
    rw [e101]
    exact ⟨rfl, N0, rfl⟩
set_option maxRecDepth 65536 in
set_option maxHeartbeats 40000000 in
theorem rmEc (l : Launch) (Z : State) (a0 : Array Value) (hw : ∀ d ∈ tables_1, d.before a0 Z = true) (ws : List Jvm.Cond) (a1 : Addr) (w : Addr) (h0 : Heap) (n0 : Nat) (X00 : Old Z n0 h0) (F : Fld Z h0 a1 EC "code" "Ljava/lang/String;" (.ref w)) :
    MetFree l (⟨"com/example/bill_per_call/billpercall/ErrorCode", "code", "()Ljava/lang/String;"⟩ : MethodName) (head1 (Jvm.Cond.code (⟨"com/example/bill_per_call/billpercall/ErrorCode", "code", "()Ljava/lang/String;"⟩ : MethodName) prog_3_method_5_code 1 (some (.object "java/lang/String")) :: ws) ({ frames := 0, cells := 0, slots := 0, locals := 0 } : Room)) (fun a U => a = #[(.ref a1)] ∧ Z.Warmed39 U.vm ∧ U.heap = h0) (fun _ _ _ _ _ => True) (fun _ U o U' => ∃ rv rL, o = .returned rv ∧ Qs (some (.ref w)) h0 n0 rv U'.heap rL ∧ FrameEnd U o U' rL ({ frames := 0, cells := 0, slots := 0, locals := 0 } : Room).cells ({ frames := 0, cells := 0, slots := 0, locals := 0 } : Room).slots) := by
  refine MetFree.of_bodySF (plainFor_of_name pn_15) hisR ?_
  intro p e s m args below meth c s₁ Bd hml0 hP hK
  obtain ⟨rfl, hZ, hh⟩ := hP
  have hx := Bd.exec
  have hby := Bd.bytes
  have hml : c.maxLocals = 1 := hml0
  have hown : s.vm.findClass "com/example/bill_per_call/billpercall/ErrorCode" = some m.cls := findClass_of_methodNamed Bd.named
  have hnm := (name_of_methodNamed Bd.named Bd.method).1
  have X0 : Stand p l e ({ frames := 0, cells := 0, slots := 0, locals := 0 } : Room) s m #[(.ref a1)] below meth c s₁ [] 0 0 := Stand.of_body Bd
  have e0 : s₁.heap = h0 := by rw [← hh, Bd.state]; rfl
  have N0 := Fr.nil n0
  have pre0 : ∀ t, Steps p.tables e below (s₁.setTop (mkF m 0 #[.val (.ref a1)] [])) t → Steps p.tables e below (s₁.setTop (entryFrame m #[(.ref a1)] 1)) t := fun t k => castTop (ef_15 m a1) k
  obtain ⟨T101, X101, e101, st101⟩ := getF X0 hx hZ hown (host := "") (Or.inl (hw _ (List.mem_of_getElem? (i := 115) rfl))) Via.refl e0 F (g := (mkF m 1 #[.val (.ref a1)] [(.ref a1)])) rfl rfl (hb hby d15_1)
  obtain ⟨fs, hr, hrun, hended, hW, hsame⟩ := X101.leave (v := some (.ref w)) (fun h => by rw [Bd.returns] at h; cases h)
  refine ⟨_, _, pre0 _ ?_, hrun, hended, _, _, rfl, ?_, ⟨_, rfl⟩, hW, hsame.mono (by decide) (by decide)⟩
  · show Steps p.tables e below (s₁.setTop (mkF m 0 #[.val (.ref a1)] [])) _
    refine XS.aloadN X0.here hx rfl (hb hby d15_0) rfl rfl ?_
    show Steps p.tables e below (s₁.setTop (mkF m 1 #[.val (.ref a1)] [(.ref a1)])) _
    refine st101 _ ?_
    show Steps p.tables e below (T101.setTop (mkF m 4 #[.val (.ref a1)] [(.ref w)])) _
    jvm_step X101.here [X101.here.top, hx, (hb hby d15_4), X101.method', Bd.returns, Value.isRef, FieldType.isReference]
    first | (intro acts; rw [hr _ acts rfl rfl rfl]) | rw [hr _ _ rfl rfl rfl]
    exact Steps.refl _
  · show Qs (some (.ref w)) h0 n0 _ T101.heap _
    rw [e101]
    exact ⟨rfl, N0, rfl⟩
set_option maxRecDepth 65536 in
set_option maxHeartbeats 40000000 in
theorem rmGM_n (l : Launch) (Z : State) (a0 : Array Value) (hw : ∀ d ∈ tables_1, d.before a0 Z = true) (ws : List Jvm.Cond) (a1 : Addr) (h0 : Heap) (n0 : Nat) (X00 : Old Z n0 h0) (F : Fld Z h0 a1 TH "detailMessage" "Ljava/lang/String;" .null) :
    MetFree l (⟨"java/lang/Throwable", "getMessage", "()Ljava/lang/String;"⟩ : MethodName) (head1 (Jvm.Cond.code (⟨"java/lang/Throwable", "getMessage", "()Ljava/lang/String;"⟩ : MethodName) jdk_78_method_6_code 1 (some (.object "java/lang/String")) :: ws) ({ frames := 0, cells := 0, slots := 0, locals := 0 } : Room)) (fun a U => a = #[(.ref a1)] ∧ Z.Warmed39 U.vm ∧ U.heap = h0) (fun _ _ _ _ _ => True) (fun _ U o U' => ∃ rv rL, o = .returned rv ∧ Qs (some .null) h0 n0 rv U'.heap rL ∧ FrameEnd U o U' rL ({ frames := 0, cells := 0, slots := 0, locals := 0 } : Room).cells ({ frames := 0, cells := 0, slots := 0, locals := 0 } : Room).slots) := by
  refine MetFree.of_bodySF (plainFor_of_name pn_18) hisR ?_
  intro p e s m args below meth c s₁ Bd hml0 hP hK
  obtain ⟨rfl, hZ, hh⟩ := hP
  have hx := Bd.exec
  have hby := Bd.bytes
  have hml : c.maxLocals = 1 := hml0
  have hown : s.vm.findClass "java/lang/Throwable" = some m.cls := findClass_of_methodNamed Bd.named
  have hnm := (name_of_methodNamed Bd.named Bd.method).1
  have X0 : Stand p l e ({ frames := 0, cells := 0, slots := 0, locals := 0 } : Room) s m #[(.ref a1)] below meth c s₁ [] 0 0 := Stand.of_body Bd
  have e0 : s₁.heap = h0 := by rw [← hh, Bd.state]; rfl
  have N0 := Fr.nil n0
  have pre0 : ∀ t, Steps p.tables e below (s₁.setTop (mkF m 0 #[.val (.ref a1)] [])) t → Steps p.tables e below (s₁.setTop (entryFrame m #[(.ref a1)] 1)) t := fun t k => castTop (ef_18 m a1) k
  obtain ⟨T101, X101, e101, st101⟩ := getF X0 hx hZ hown (host := "") (Or.inl (hw _ (List.mem_of_getElem? (i := 91) rfl))) Via.refl e0 F (g := (mkF m 1 #[.val (.ref a1)] [(.ref a1)])) rfl rfl (hb hby d18_1)
  obtain ⟨fs, hr, hrun, hended, hW, hsame⟩ := X101.leave (v := some .null) (fun h => by rw [Bd.returns] at h; cases h)
  refine ⟨_, _, pre0 _ ?_, hrun, hended, _, _, rfl, ?_, ⟨_, rfl⟩, hW, hsame.mono (by decide) (by decide)⟩
  · show Steps p.tables e below (s₁.setTop (mkF m 0 #[.val (.ref a1)] [])) _
    refine XS.aloadN X0.here hx rfl (hb hby d18_0) rfl rfl ?_
    show Steps p.tables e below (s₁.setTop (mkF m 1 #[.val (.ref a1)] [(.ref a1)])) _
    refine st101 _ ?_
    show Steps p.tables e below (T101.setTop (mkF m 4 #[.val (.ref a1)] [.null])) _
    jvm_step X101.here [X101.here.top, hx, (hb hby d18_4), X101.method', Bd.returns, Value.isRef, FieldType.isReference]
    first | (intro acts; rw [hr _ acts rfl rfl rfl]) | rw [hr _ _ rfl rfl rfl]
    exact Steps.refl _
  · show Qs (some .null) h0 n0 _ T101.heap _
    rw [e101]
    exact ⟨rfl, N0, rfl⟩
set_option maxRecDepth 65536 in
set_option maxHeartbeats 40000000 in
theorem rmGM_r (l : Launch) (Z : State) (a0 : Array Value) (hw : ∀ d ∈ tables_1, d.before a0 Z = true) (ws : List Jvm.Cond) (a1 : Addr) (mz : Addr) (h0 : Heap) (n0 : Nat) (X00 : Old Z n0 h0) (F : Fld Z h0 a1 TH "detailMessage" "Ljava/lang/String;" (.ref mz)) :
    MetFree l (⟨"java/lang/Throwable", "getMessage", "()Ljava/lang/String;"⟩ : MethodName) (head1 (Jvm.Cond.code (⟨"java/lang/Throwable", "getMessage", "()Ljava/lang/String;"⟩ : MethodName) jdk_78_method_6_code 1 (some (.object "java/lang/String")) :: ws) ({ frames := 0, cells := 0, slots := 0, locals := 0 } : Room)) (fun a U => a = #[(.ref a1)] ∧ Z.Warmed39 U.vm ∧ U.heap = h0) (fun _ _ _ _ _ => True) (fun _ U o U' => ∃ rv rL, o = .returned rv ∧ Qs (some (.ref mz)) h0 n0 rv U'.heap rL ∧ FrameEnd U o U' rL ({ frames := 0, cells := 0, slots := 0, locals := 0 } : Room).cells ({ frames := 0, cells := 0, slots := 0, locals := 0 } : Room).slots) := by
  refine MetFree.of_bodySF (plainFor_of_name pn_18) hisR ?_
  intro p e s m args below meth c s₁ Bd hml0 hP hK
  obtain ⟨rfl, hZ, hh⟩ := hP
  have hx := Bd.exec
  have hby := Bd.bytes
  have hml : c.maxLocals = 1 := hml0
  have hown : s.vm.findClass "java/lang/Throwable" = some m.cls := findClass_of_methodNamed Bd.named
  have hnm := (name_of_methodNamed Bd.named Bd.method).1
  have X0 : Stand p l e ({ frames := 0, cells := 0, slots := 0, locals := 0 } : Room) s m #[(.ref a1)] below meth c s₁ [] 0 0 := Stand.of_body Bd
  have e0 : s₁.heap = h0 := by rw [← hh, Bd.state]; rfl
  have N0 := Fr.nil n0
  have pre0 : ∀ t, Steps p.tables e below (s₁.setTop (mkF m 0 #[.val (.ref a1)] [])) t → Steps p.tables e below (s₁.setTop (entryFrame m #[(.ref a1)] 1)) t := fun t k => castTop (ef_18 m a1) k
  obtain ⟨T101, X101, e101, st101⟩ := getF X0 hx hZ hown (host := "") (Or.inl (hw _ (List.mem_of_getElem? (i := 91) rfl))) Via.refl e0 F (g := (mkF m 1 #[.val (.ref a1)] [(.ref a1)])) rfl rfl (hb hby d18_1)
  obtain ⟨fs, hr, hrun, hended, hW, hsame⟩ := X101.leave (v := some (.ref mz)) (fun h => by rw [Bd.returns] at h; cases h)
  refine ⟨_, _, pre0 _ ?_, hrun, hended, _, _, rfl, ?_, ⟨_, rfl⟩, hW, hsame.mono (by decide) (by decide)⟩
  · show Steps p.tables e below (s₁.setTop (mkF m 0 #[.val (.ref a1)] [])) _
    refine XS.aloadN X0.here hx rfl (hb hby d18_0) rfl rfl ?_
    show Steps p.tables e below (s₁.setTop (mkF m 1 #[.val (.ref a1)] [(.ref a1)])) _
    refine st101 _ ?_
    show Steps p.tables e below (T101.setTop (mkF m 4 #[.val (.ref a1)] [(.ref mz)])) _
    jvm_step X101.here [X101.here.top, hx, (hb hby d18_4), X101.method', Bd.returns, Value.isRef, FieldType.isReference]
    first | (intro acts; rw [hr _ acts rfl rfl rfl]) | rw [hr _ _ rfl rfl rfl]
    exact Steps.refl _
  · show Qs (some (.ref mz)) h0 n0 _ T101.heap _
    rw [e101]
    exact ⟨rfl, N0, rfl⟩
set_option maxRecDepth 65536 in
set_option maxHeartbeats 40000000 in
theorem rmCan (l : Launch) (Z : State) (a0 : Array Value) (hw : ∀ d ∈ tables_1, d.before a0 Z = true) (ws : List Jvm.Cond) (p1 : Int32) (h0 : Heap) (n0 : Nat) (X00 : Old Z n0 h0) (hp : ¬ ((255 : Int32) < p1)) :
    MetFree l (⟨"java/lang/StringLatin1", "canEncode", "(C)Z"⟩ : MethodName) (head1 (Jvm.Cond.code (⟨"java/lang/StringLatin1", "canEncode", "(C)Z"⟩ : MethodName) jdk_43_method_3_code 1 (some .boolean) :: ws) ({ frames := 0, cells := 0, slots := 0, locals := 0 } : Room)) (fun a U => a = #[(.int p1)] ∧ Z.Warmed39 U.vm ∧ U.heap = h0) (fun _ _ _ _ _ => True) (fun _ U o U' => ∃ rv rL, o = .returned rv ∧ Qs (some (.int (1 : Int32))) h0 n0 rv U'.heap rL ∧ FrameEnd U o U' rL ({ frames := 0, cells := 0, slots := 0, locals := 0 } : Room).cells ({ frames := 0, cells := 0, slots := 0, locals := 0 } : Room).slots) := by
  refine MetFree.of_bodySF (plainFor_of_name pn_2) hisR ?_
  intro p e s m args below meth c s₁ Bd hml0 hP hK
  obtain ⟨rfl, hZ, hh⟩ := hP
  have hx := Bd.exec
  have hby := Bd.bytes
  have hml : c.maxLocals = 1 := hml0
  have hown : s.vm.findClass "java/lang/StringLatin1" = some m.cls := findClass_of_methodNamed Bd.named
  have hnm := (name_of_methodNamed Bd.named Bd.method).1
  have X0 : Stand p l e ({ frames := 0, cells := 0, slots := 0, locals := 0 } : Room) s m #[(.int p1)] below meth c s₁ [] 0 0 := Stand.of_body Bd
  have e0 : s₁.heap = h0 := by rw [← hh, Bd.state]; rfl
  have N0 := Fr.nil n0
  have pre0 : ∀ t, Steps p.tables e below (s₁.setTop (mkF m 0 #[.val (.int p1)] [])) t → Steps p.tables e below (s₁.setTop (entryFrame m #[(.int p1)] 1)) t := fun t k => castTop (ef_2 m p1) k
  have hc4 : ¬ ((255 : Int32) < p1) := hp
  obtain ⟨fs, hr, hrun, hended, hW, hsame⟩ := X0.leave (v := some (.int (1 : Int32))) (fun h => by rw [Bd.returns] at h; cases h)
  refine ⟨_, _, pre0 _ ?_, hrun, hended, _, _, rfl, ?_, ⟨_, rfl⟩, hW, hsame.mono (by decide) (by decide)⟩
  · show Steps p.tables e below (s₁.setTop (mkF m 0 #[.val (.int p1)] [])) _
    refine XS.iloadN X0.here hx rfl (hb hby d2_0) rfl ?_
    show Steps p.tables e below (s₁.setTop (mkF m 1 #[.val (.int p1)] [(.int p1)])) _
    refine XS.sipush X0.here hx rfl (hb hby d2_1) ?_
    show Steps p.tables e below (s₁.setTop (mkF m 4 #[.val (.int p1)] [(.int (255 : Int32)), (.int p1)])) _
    refine XS.icmpNo X0.here hx rfl (hb hby d2_4) rfl (flt hc4).2.2.1 ?_
    show Steps p.tables e below (s₁.setTop (mkF m 7 #[.val (.int p1)] [])) _
    refine XS.iconst X0.here hx rfl (hb hby d2_7) ?_
    show Steps p.tables e below (s₁.setTop (mkF m 8 #[.val (.int p1)] [(.int (1 : Int32))])) _
    refine XS.goto X0.here hx rfl (pc0 := 8) (pc' := 12) rfl (hb hby d2_8) (by decide) (by decide) ?_
    show Steps p.tables e below (s₁.setTop (mkF m 12 #[.val (.int p1)] [(.int (1 : Int32))])) _
    exact retN X0 hx (t := .boolean) Bd.returns (by simp) (hb hby d2_12) hr
  · show Qs (some (.int (1 : Int32))) h0 n0 _ s₁.heap _
    rw [e0]
    exact ⟨rfl, N0, rfl⟩
set_option maxRecDepth 65536 in
set_option maxHeartbeats 40000000 in
theorem rmTB (l : Launch) (Z : State) (a0 : Array Value) (hw : ∀ d ∈ tables_1, d.before a0 Z = true) (ws : List Jvm.Cond) (p1 : Int32) (h0 : Heap) (n0 : Nat) (X00 : Old Z n0 h0) :
    MetFree l (⟨"java/lang/StringLatin1", "toBytes", "(C)[B"⟩ : MethodName) (head1 (Jvm.Cond.code (⟨"java/lang/StringLatin1", "toBytes", "(C)[B"⟩ : MethodName) jdk_43_method_46_code 1 (some (.array .byte)) :: ws) ({ frames := 0, cells := 1, slots := 1, locals := 0 } : Room)) (fun a U => a = #[(.int p1)] ∧ Z.Warmed39 U.vm ∧ U.heap = h0) (fun _ _ _ _ _ => True) (fun _ U o U' => ∃ rv rL, o = .returned rv ∧ QR0 h0 n0 rv U'.heap rL ∧ FrameEnd U o U' rL ({ frames := 0, cells := 1, slots := 1, locals := 0 } : Room).cells ({ frames := 0, cells := 1, slots := 1, locals := 0 } : Room).slots) := by
  refine MetFree.of_bodySF (plainFor_of_name pn_3) hisR ?_
  intro p e s m args below meth c s₁ Bd hml0 hP hK
  obtain ⟨rfl, hZ, hh⟩ := hP
  have hx := Bd.exec
  have hby := Bd.bytes
  have hml : c.maxLocals = 1 := hml0
  have hown : s.vm.findClass "java/lang/StringLatin1" = some m.cls := findClass_of_methodNamed Bd.named
  have hnm := (name_of_methodNamed Bd.named Bd.method).1
  have X0 : Stand p l e ({ frames := 0, cells := 1, slots := 1, locals := 0 } : Room) s m #[(.int p1)] below meth c s₁ [] 0 0 := Stand.of_body Bd
  have e0 : s₁.heap = h0 := by rw [← hh, Bd.state]; rfl
  have N0 := Fr.nil n0
  have pre0 : ∀ t, Steps p.tables e below (s₁.setTop (mkF m 0 #[.val (.int p1)] [])) t → Steps p.tables e below (s₁.setTop (entryFrame m #[(.int p1)] 1)) t := fun t k => castTop (ef_3 m p1) k
  obtain ⟨T101, h101, k101, X101, e101, E101, A101, st101⟩ := newP X0 hx hZ (hw _ (List.mem_of_getElem? (i := 14) rfl)) e0 (g := (mkF m 1 #[.val (.int p1)] [(.int (1 : Int32))])) rfl (hb hby d3_1) rfl (by decide) (cap := 1) (by decide) (by decide) (by decide) (by decide)
  obtain ⟨b101, g101⟩ : ∃ z, z = h0.size := ⟨_, rfl⟩
  rw [← g101] at A101 st101
  have g_b101 : n0 ≤ b101 := Nat.le_trans (own_le X00) (Nat.le_of_eq g101.symm)
  have sz_b101 : h0.size ≤ b101 := Nat.le_trans (Keep.refl h0 []).1 (Nat.le_of_eq g101.symm)
  have V101 : Arv Z h101 b101 k101 .byte (1 : Int32) [(.int (0 : Int32))] (.int (0 : Int32)) := (Arv.new A101 (by decide)).pad (pad_rep [] (.int (0 : Int32)) 1)
  obtain ⟨cl102, Ar102, q102, S102, M102, H102, G102⟩ := id V101
  obtain ⟨T102, h102, X102, e102, W102, st102⟩ := stB X101 hx hZ e101 Ar102 (j := (0 : Int32)) (inb_of S102 ⟨by decide, by decide⟩) (g := (mkF m 7 #[.val (.int p1)] [(.int (p1.toInt8.toInt32)), (.int (0 : Int32)), (.ref b101), (.ref b101)])) rfl rfl (hb hby d3_7)
  have V102 : Arv Z h102 b101 k101 .byte (1 : Int32) [(.int (nar .byte (p1.toInt8.toInt32)))] (.int (0 : Int32)) := Arv.set Ar102 q102 S102 M102 H102 G102 (fits_nar_byte _) W102 0 rfl (Nat.le_of_ble_eq_true rfl)
  have N102 := Fr.snoc X102 N0 g_b101
  have y103 := (((Keep.refl h0 []).ext E101).wr W102 (Or.inr sz_b101))
  obtain ⟨fs, hr, hrun, hended, hW, hsame⟩ := X102.leave (v := some (.ref b101)) (fun h => by rw [Bd.returns] at h; cases h)
  refine ⟨_, _, pre0 _ ?_, hrun, hended, _, _, rfl, ?_, ⟨_, rfl⟩, hW, hsame.mono (by decide) (by decide)⟩
  · show Steps p.tables e below (s₁.setTop (mkF m 0 #[.val (.int p1)] [])) _
    refine XS.iconst X0.here hx rfl (hb hby d3_0) ?_
    show Steps p.tables e below (s₁.setTop (mkF m 1 #[.val (.int p1)] [(.int (1 : Int32))])) _
    refine st101 _ ?_
    show Steps p.tables e below (T101.setTop (mkF m 3 #[.val (.int p1)] [(.ref b101)])) _
    refine XS.dup X101.here hx rfl (hb hby d3_3) rfl rfl ?_
    show Steps p.tables e below (T101.setTop (mkF m 4 #[.val (.int p1)] [(.ref b101), (.ref b101)])) _
    refine XS.iconst X101.here hx rfl (hb hby d3_4) ?_
    show Steps p.tables e below (T101.setTop (mkF m 5 #[.val (.int p1)] [(.int (0 : Int32)), (.ref b101), (.ref b101)])) _
    refine XS.iloadN X101.here hx rfl (hb hby d3_5) rfl ?_
    show Steps p.tables e below (T101.setTop (mkF m 6 #[.val (.int p1)] [(.int p1), (.int (0 : Int32)), (.ref b101), (.ref b101)])) _
    refine XS.i2b X101.here hx rfl (hb hby d3_6) rfl ?_
    show Steps p.tables e below (T101.setTop (mkF m 7 #[.val (.int p1)] [(.int (p1.toInt8.toInt32)), (.int (0 : Int32)), (.ref b101), (.ref b101)])) _
    refine st102 _ ?_
    show Steps p.tables e below (T102.setTop (mkF m 8 #[.val (.int p1)] [(.ref b101)])) _
    jvm_step X102.here [X102.here.top, hx, (hb hby d3_8), X102.method', Bd.returns, Value.isRef, FieldType.isReference]
    first | (intro acts; rw [hr _ acts rfl rfl rfl]) | rw [hr _ _ rfl rfl rfl]
    exact Steps.refl _
  · show QR0 h0 n0 _ T102.heap _
    rw [e102]
    exact ⟨_, rfl, N102, y103⟩
set_option maxRecDepth 65536 in
set_option maxHeartbeats 40000000 in
theorem rmSBB (l : Launch) (Z : State) (a0 : Array Value) (hw : ∀ d ∈ tables_1, d.before a0 Z = true) (ws : List Jvm.Cond) (a1 : Addr) (a2 : Addr) (uv : Value) (uk : Value) (h0 : Heap) (n0 : Nat) (X00 : Old Z n0 h0) (E_a1 : Exa Z h0 a1 ST) (F_v : Fld Z h0 a1 ST "value" "[B" uv) (F_k : Fld Z h0 a1 ST "coder" "B" uk) (g_a1 : n0 ≤ a1) :
    MetFree l (⟨"java/lang/String", "<init>", "([BB)V"⟩ : MethodName) (head1 (Jvm.Cond.code (⟨"java/lang/String", "<init>", "([BB)V"⟩ : MethodName) jdk_42_method_151_code 3 none :: ws) ({ frames := 1, cells := 0, slots := 0, locals := 12 } : Room)) (fun a U => a = #[(.ref a1), (.ref a2), (.int (0 : Int32))] ∧ Z.Warmed39 U.vm ∧ U.heap = h0) (fun _ _ _ _ _ => True) (fun _ U o U' => ∃ rv rL, o = .returned rv ∧ QK1 a1 h0 n0 rv U'.heap rL ∧ FrameEnd U o U' rL ({ frames := 1, cells := 0, slots := 0, locals := 12 } : Room).cells ({ frames := 1, cells := 0, slots := 0, locals := 12 } : Room).slots) := by
  refine MetFree.of_bodySF (plainFor_of_name pn_4) hisR ?_
  intro p e s m args below meth c s₁ Bd hml0 hP hK
  obtain ⟨rfl, hZ, hh⟩ := hP
  have hx := Bd.exec
  have hby := Bd.bytes
  have hml : c.maxLocals = 3 := hml0
  have hown : s.vm.findClass "java/lang/String" = some m.cls := findClass_of_methodNamed Bd.named
  have hnm := (name_of_methodNamed Bd.named Bd.method).1
  have X0 : Stand p l e ({ frames := 1, cells := 0, slots := 0, locals := 12 } : Room) s m #[(.ref a1), (.ref a2), (.int (0 : Int32))] below meth c s₁ [] 0 0 := Stand.of_body Bd
  have e0 : s₁.heap = h0 := by rw [← hh, Bd.state]; rfl
  have N0 := Fr.nil n0
  have pre0 : ∀ t, Steps p.tables e below (s₁.setTop (mkF m 0 #[.val (.ref a1), .val (.ref a2), .val (.int (0 : Int32))] [])) t → Steps p.tables e below (s₁.setTop (entryFrame m #[(.ref a1), (.ref a2), (.int (0 : Int32))] 3)) t := fun t k => castTop (ef_4 m a1 a2 (0 : Int32)) k
  obtain ⟨T101, X101, e101, st101⟩ := initO X0 hx hZ hown (hw _ (List.mem_of_getElem? (i := 19) rfl)) (hw _ (List.mem_of_getElem? (i := 20) rfl)) (hw _ (List.mem_of_getElem? (i := 21) rfl)) e0 (g := (mkF m 1 #[.val (.ref a1), .val (.ref a2), .val (.int (0 : Int32))] [(.ref a1)])) rfl (by rw [hml]; rfl) rfl (hb hby d4_1) (by decide) (W := 0) (by show 2 * 0 + _ ≤ _; exact Nat.le_of_eq rfl) (by decide)
  obtain ⟨T102, h102, X102, e102, W102, st102⟩ := putF X101 hx hZ hown (host := "") (Or.inl (hw _ (List.mem_of_getElem? (i := 22) rfl))) Via.refl e101 F_v E_a1 (Or.inr ⟨(hw _ (List.mem_of_getElem? (i := 23) rfl)), rfl, hnm⟩) (hw _ (List.mem_of_getElem? (i := 10) rfl)) (ty := (.array .byte)) (by decide) rfl rfl (g := (mkF m 6 #[.val (.ref a1), .val (.ref a2), .val (.int (0 : Int32))] [(.ref a2), (.ref a1)])) rfl rfl (hb hby d4_6)
  have Fw102 := F_v.same W102
  have N102 := Fr.snoc X102 N0 g_a1
  have y103 := (F_k.other W102 (Or.inr (slot_ne (Or.inr (hw _ (List.mem_of_getElem? (i := 25) rfl))) (Or.inr (hw _ (List.mem_of_getElem? (i := 23) rfl))) (by decide) (t := .byte) (t' := (.array .byte)) (by decide) (by decide))))
  have y104 := (E_a1.wr W102)
  obtain ⟨T105, h105, X105, e105, W105, st105⟩ := putFN X102 hx hZ hown (hw _ (List.mem_of_getElem? (i := 24) rfl)) Via.refl e102 y103 y104 (Or.inr ⟨(hw _ (List.mem_of_getElem? (i := 25) rfl)), rfl, hnm⟩) (hw _ (List.mem_of_getElem? (i := 10) rfl)) (ty := .byte) (v' := (.int (0 : Int32))) (by decide) (by decide) (by decide) (g := (mkF m 11 #[.val (.ref a1), .val (.ref a2), .val (.int (0 : Int32))] [(.int (0 : Int32)), (.ref a1)])) rfl rfl (hb hby d4_11)
  have Fw105 := y103.same W105
  have N105 := Fr.snoc X105 N102 g_a1
  have y106 := (((Keep.refl h0 [a1]).wr W102 (Or.inl (List.mem_of_getElem? (i := 0) rfl))).wr W105 (Or.inl (List.mem_of_getElem? (i := 0) rfl)))
  obtain ⟨fs, hr, hrun, hended, hW, hsame⟩ := X105.leave (v := none) (fun _ => rfl)
  refine ⟨_, _, pre0 _ ?_, hrun, hended, _, _, rfl, ?_, ⟨_, rfl⟩, hW, hsame.mono (by decide) (by decide)⟩
  · show Steps p.tables e below (s₁.setTop (mkF m 0 #[.val (.ref a1), .val (.ref a2), .val (.int (0 : Int32))] [])) _
    refine XS.aloadN X0.here hx rfl (hb hby d4_0) rfl rfl ?_
    show Steps p.tables e below (s₁.setTop (mkF m 1 #[.val (.ref a1), .val (.ref a2), .val (.int (0 : Int32))] [(.ref a1)])) _
    refine st101 _ ?_
    show Steps p.tables e below (T101.setTop (mkF m 4 #[.val (.ref a1), .val (.ref a2), .val (.int (0 : Int32))] [])) _
    refine XS.aloadN X101.here hx rfl (hb hby d4_4) rfl rfl ?_
    show Steps p.tables e below (T101.setTop (mkF m 5 #[.val (.ref a1), .val (.ref a2), .val (.int (0 : Int32))] [(.ref a1)])) _
    refine XS.aloadN X101.here hx rfl (hb hby d4_5) rfl rfl ?_
    show Steps p.tables e below (T101.setTop (mkF m 6 #[.val (.ref a1), .val (.ref a2), .val (.int (0 : Int32))] [(.ref a2), (.ref a1)])) _
    refine st102 _ ?_
    show Steps p.tables e below (T102.setTop (mkF m 9 #[.val (.ref a1), .val (.ref a2), .val (.int (0 : Int32))] [])) _
    refine XS.aloadN X102.here hx rfl (hb hby d4_9) rfl rfl ?_
    show Steps p.tables e below (T102.setTop (mkF m 10 #[.val (.ref a1), .val (.ref a2), .val (.int (0 : Int32))] [(.ref a1)])) _
    refine XS.iloadN X102.here hx rfl (hb hby d4_10) rfl ?_
    show Steps p.tables e below (T102.setTop (mkF m 11 #[.val (.ref a1), .val (.ref a2), .val (.int (0 : Int32))] [(.int (0 : Int32)), (.ref a1)])) _
    refine st105 _ ?_
    show Steps p.tables e below (T105.setTop (mkF m 14 #[.val (.ref a1), .val (.ref a2), .val (.int (0 : Int32))] [])) _
    exact X105.returnOut hx Bd.returns (hb hby d4_14) hr
  · show QK1 a1 h0 n0 _ T105.heap _
    rw [e105]
    exact ⟨rfl, N105, y106⟩
set_option maxRecDepth 65536 in
set_option maxHeartbeats 40000000 in
theorem rmVC (l : Launch) (Z : State) (a0 : Array Value) (hw : ∀ d ∈ tables_1, d.before a0 Z = true) (ws : List Jvm.Cond) (p1 : Int32) (G1 : Int32) (h0 : Heap) (n0 : Nat) (X00 : Old Z n0 h0) (O2 : Sta Z Z.heap ST "COMPACT_STRINGS" "Z" (.int G1)) (P5 : ¬ (G1 = (0 : Int32))) (hp : ¬ ((255 : Int32) < p1)) :
    MetFree l (⟨"java/lang/String", "valueOf", "(C)Ljava/lang/String;"⟩ : MethodName) (head1 (Jvm.Cond.code (⟨"java/lang/String", "valueOf", "(C)Ljava/lang/String;"⟩ : MethodName) jdk_42_method_139_code 1 (some (.object "java/lang/String")) :: ws) ({ frames := 2, cells := 2, slots := 5, locals := 30 } : Room)) (fun a U => a = #[(.int p1)] ∧ Z.Warmed39 U.vm ∧ U.heap = h0) (fun _ _ _ _ _ => True) (fun _ U o U' => ∃ rv rL, o = .returned rv ∧ QR0 h0 n0 rv U'.heap rL ∧ FrameEnd U o U' rL ({ frames := 2, cells := 2, slots := 5, locals := 30 } : Room).cells ({ frames := 2, cells := 2, slots := 5, locals := 30 } : Room).slots) := by
  refine MetFree.of_bodySF (plainFor_of_name pn_1) hisR ?_
  intro p e s m args below meth c s₁ Bd hml0 hP hK
  obtain ⟨rfl, hZ, hh⟩ := hP
  have hx := Bd.exec
  have hby := Bd.bytes
  have hml : c.maxLocals = 1 := hml0
  have hown : s.vm.findClass "java/lang/String" = some m.cls := findClass_of_methodNamed Bd.named
  have hnm := (name_of_methodNamed Bd.named Bd.method).1
  have X0 : Stand p l e ({ frames := 2, cells := 2, slots := 5, locals := 30 } : Room) s m #[(.int p1)] below meth c s₁ [] 0 0 := Stand.of_body Bd
  have e0 : s₁.heap = h0 := by rw [← hh, Bd.state]; rfl
  have N0 := Fr.nil n0
  have pre0 : ∀ t, Steps p.tables e below (s₁.setTop (mkF m 0 #[.val (.int p1)] [])) t → Steps p.tables e below (s₁.setTop (entryFrame m #[(.int p1)] 1)) t := fun t k => castTop (ef_1 m p1) k
  obtain ⟨T101, X101, e101, st101⟩ := getS2 X0 hx hZ hown (host := "") (Or.inl (hw _ (List.mem_of_getElem? (i := 4) rfl))) Via.refl e0 (O2.ext X00.2) (g := (mkF m 0 #[.val (.int p1)] [])) rfl (hb hby d1_0)
  have hc3 : ¬ (G1 = (0 : Int32)) := P5
  obtain ⟨_, _, ⟨T102, L102, k102, n102⟩, -, X102, ⟨Lc102, hQ102, l102, y102, z102⟩, st102⟩ := Jvm.LawKit.callS X101 hx (y := (⟨"java/lang/StringLatin1", "canEncode", "(C)Z"⟩ : MethodName)) hown (mvT hZ (hw _ (List.mem_of_getElem? (i := 5) rfl))) (mvT hZ (hw _ (List.mem_of_getElem? (i := 6) rfl))) (mvT hZ (hw _ (List.mem_of_getElem? (i := 7) rfl))) (mvT hZ (hw _ (List.mem_of_getElem? (i := 8) rfl))) (by decide) (backOf (W := 0) (rmCan l Z a0 hw [] p1 h0 n0 X00 hp) hZ (hw _ (List.mem_of_getElem? (i := 8) rfl)) (hw _ (List.mem_of_getElem? (i := 7) rfl)) (by decide) (by decide)) (g := (mkF m 7 #[.val (.int p1)] [(.int p1)])) rfl (by rw [hml]; rfl) (argsL := [(.int p1)]) (rest := []) (lenOf pd_C_Z rfl) rfl (by show 2 * 0 + _ ≤ _; exact Nat.le_of_eq rfl) (hb hby d1_7) (fun _ _ => ⟨rfl, e101, (by decide : 0 + 0 ≤ _), (by decide : 0 + 0 ≤ _)⟩)
  dsimp only [Pt.U, Pt.locs, Pt.cells, Pt.slots] at X102 l102 y102 z102 st102 hQ102
  subst l102 y102 z102
  obtain ⟨rfl, N102q, eq102⟩ := hQ102
  have N102 := Fr.app N0 N102q
  have hc10 : ¬ ((1 : Int32) = (0 : Int32)) := by decide
  obtain ⟨T103, h103, X103, e103, E103, A103, D103, U103, st103⟩ := newO X102 hx hZ hown (hw _ (List.mem_of_getElem? (i := 9) rfl)) (hw _ (List.mem_of_getElem? (i := 10) rfl)) (hw _ (List.mem_of_getElem? (i := 2) rfl)) eq102 (g := (mkF m 13 #[.val (.int p1)] [])) rfl (hb hby d1_13) (by decide) (by decide)
  obtain ⟨b103, g103⟩ : ∃ z, z = h0.size := ⟨_, rfl⟩
  rw [← g103] at A103 D103 U103 st103
  have g_b103 : n0 ≤ b103 := Nat.le_trans (own_le X00) (Nat.le_of_eq g103.symm)
  have sz_b103 : h0.size ≤ b103 := Nat.le_trans (Keep.refl h0 []).1 (Nat.le_of_eq g103.symm)
  have F103_value : Fld Z h103 b103 "java/lang/String" "value" "[B" .null := D103 (Or.inr (hw _ (List.mem_of_getElem? (i := 23) rfl))) (ty := (.array .byte)) (by decide)
  have F103_coder : Fld Z h103 b103 "java/lang/String" "coder" "B" (.int (0 : Int32)) := D103 (Or.inr (hw _ (List.mem_of_getElem? (i := 25) rfl))) (ty := .byte) (by decide)
  have y104 := (X00.ext E103)
  obtain ⟨_, _, ⟨T105, L105, k105, n105⟩, -, X105, ⟨Lc105, hQ105, l105, y105, z105⟩, st105⟩ := Jvm.LawKit.callS X103 hx (y := (⟨"java/lang/StringLatin1", "toBytes", "(C)[B"⟩ : MethodName)) hown (mvT hZ (hw _ (List.mem_of_getElem? (i := 11) rfl))) (mvT hZ (hw _ (List.mem_of_getElem? (i := 12) rfl))) (mvT hZ (hw _ (List.mem_of_getElem? (i := 7) rfl))) (mvT hZ (hw _ (List.mem_of_getElem? (i := 13) rfl))) (by decide) (backOf (W := 2) (rmTB l Z a0 hw [] p1 h103 n0 y104) hZ (hw _ (List.mem_of_getElem? (i := 13) rfl)) (hw _ (List.mem_of_getElem? (i := 7) rfl)) (by decide) (by decide)) (g := (mkF m 18 #[.val (.int p1)] [(.int p1), (.ref b103), (.ref b103)])) rfl (by rw [hml]; rfl) (argsL := [(.int p1)]) (rest := [(.ref b103), (.ref b103)]) (lenOf pd_C_AB rfl) rfl (by show 2 * 0 + _ ≤ _; exact Nat.le_of_eq rfl) (hb hby d1_18) (fun _ _ => ⟨rfl, e103, (by decide : 1 + 1 ≤ _), (by decide : 4 + 1 ≤ _)⟩)
  dsimp only [Pt.U, Pt.locs, Pt.cells, Pt.slots] at X105 l105 y105 z105 st105 hQ105
  subst l105 y105 z105
  obtain ⟨r105, rfl, N105q, Kc105⟩ := hQ105
  have N105 := Fr.app N102 N105q
  have y106 := (y104.keep Kc105 all0)
  have y107 := (A103.keep Kc105)
  have y108 := (F103_value.keep Kc105 own_nm0)
  have y109 := (F103_coder.keep Kc105 own_nm0)
  obtain ⟨_, _, ⟨T110, L110, k110, n110⟩, -, X110, ⟨Lc110, hQ110, l110, y110, z110⟩, st110⟩ := X105.specialBack hx (y := (⟨"java/lang/String", "<init>", "([BB)V"⟩ : MethodName)) rfl hown (mvT hZ (hw _ (List.mem_of_getElem? (i := 15) rfl))) (mvT hZ (hw _ (List.mem_of_getElem? (i := 16) rfl))) (mvT hZ (hw _ (List.mem_of_getElem? (i := 18) rfl))) (by decide) (backOf (W := 1) (rmSBB l Z a0 hw [] b103 r105 .null (.int (0 : Int32)) T105.heap n0 y106 y107 y108 y109 g_b103) hZ (hw _ (List.mem_of_getElem? (i := 18) rfl)) (hw _ (List.mem_of_getElem? (i := 2) rfl)) (by decide) (by decide)) (g := (mkF m 22 #[.val (.int p1)] [(.int (0 : Int32)), (.ref r105), (.ref b103), (.ref b103)])) rfl (by rw [hml]; rfl) (Steps.refl _) (a := b103) (argsL := [(.ref r105), (.int (0 : Int32))]) (rest := [(.ref b103)]) (lenOf pd_ABB_V rfl) rfl (by show 2 * 0 + _ ≤ _; exact Nat.le_of_eq rfl) (hb hby d1_22) (fun _ _ => ⟨rfl, rfl, (by decide : 2 + 0 ≤ _), (by decide : 5 + 0 ≤ _)⟩)
  dsimp only [Pt.U, Pt.locs, Pt.cells, Pt.slots] at X110 l110 y110 z110 st110 hQ110
  subst l110 y110 z110
  obtain ⟨rfl, N110q, Kc110⟩ := hQ110
  have N110 := Fr.app N105 N110q
  have y111 := ((((Keep.refl h0 []).ext E103).trans Kc105 all0).trans Kc110 (allS (Or.inr sz_b103) all0))
  obtain ⟨fs, hr, hrun, hended, hW, hsame⟩ := X110.leave (v := some (.ref b103)) (fun h => by rw [Bd.returns] at h; cases h)
  refine ⟨_, _, pre0 _ ?_, hrun, hended, _, _, rfl, ?_, ⟨_, rfl⟩, hW, hsame.mono (by decide) (by decide)⟩
  · show Steps p.tables e below (s₁.setTop (mkF m 0 #[.val (.int p1)] [])) _
    refine st101 _ ?_
    show Steps p.tables e below (T101.setTop (mkF m 3 #[.val (.int p1)] [(.int G1)])) _
    refine XS.ifNo X101.here hx rfl (hb hby d1_3) rfl ((if0 _ _).trans (feq hc3).1) ?_
    show Steps p.tables e below (T101.setTop (mkF m 6 #[.val (.int p1)] [])) _
    refine XS.iloadN X101.here hx rfl (hb hby d1_6) rfl ?_
    show Steps p.tables e below (T101.setTop (mkF m 7 #[.val (.int p1)] [(.int p1)])) _
    refine st102 _ ?_
    show Steps p.tables e below (T102.setTop (mkF m 10 #[.val (.int p1)] [(.int (1 : Int32))])) _
    refine XS.ifNo X102.here hx rfl (hb hby d1_10) rfl ((if0 _ _).trans (feq hc10).1) ?_
    show Steps p.tables e below (T102.setTop (mkF m 13 #[.val (.int p1)] [])) _
    refine st103 _ ?_
    show Steps p.tables e below (T103.setTop (mkF m 16 #[.val (.int p1)] [(.ref b103)])) _
    refine XS.dup X103.here hx rfl (hb hby d1_16) rfl rfl ?_
    show Steps p.tables e below (T103.setTop (mkF m 17 #[.val (.int p1)] [(.ref b103), (.ref b103)])) _
    refine XS.iloadN X103.here hx rfl (hb hby d1_17) rfl ?_
    show Steps p.tables e below (T103.setTop (mkF m 18 #[.val (.int p1)] [(.int p1), (.ref b103), (.ref b103)])) _
    refine st105 _ ?_
    show Steps p.tables e below (T105.setTop (mkF m 21 #[.val (.int p1)] [(.ref r105), (.ref b103), (.ref b103)])) _
    refine XS.iconst X105.here hx rfl (hb hby d1_21) ?_
    show Steps p.tables e below (T105.setTop (mkF m 22 #[.val (.int p1)] [(.int (0 : Int32)), (.ref r105), (.ref b103), (.ref b103)])) _
    refine st110.trans ?_
    show Steps p.tables e below (T110.setTop (mkF m 25 #[.val (.int p1)] [(.ref b103)])) _
    jvm_step X110.here [X110.here.top, hx, (hb hby d1_25), X110.method', Bd.returns, Value.isRef, FieldType.isReference]
    first | (intro acts; rw [hr _ acts rfl rfl rfl]) | rw [hr _ _ rfl rfl rfl]
    exact Steps.refl _
  · show QR0 h0 n0 _ T110.heap _
    exact ⟨_, rfl, N110, y111⟩
set_option maxRecDepth 65536 in
set_option maxHeartbeats 40000000 in
theorem rmS0b (l : Launch) (Z : State) (a0 : Array Value) (hw : ∀ d ∈ tables_1, d.before a0 Z = true) (ws : List Jvm.Cond) (a1 : Addr) (a2 : Addr) (uk : Value) (h0 : Heap) (n0 : Nat) (X00 : Old Z n0 h0) (E_a1 : Exa Z h0 a1 ST) (F_v : Fld Z h0 a1 ST "value" "[B" .null) (F_k : Fld Z h0 a1 ST "coder" "B" uk) (g_a1 : n0 ≤ a1) :
    MetFree l (⟨"java/lang/String", "<init>", "([CIILjava/lang/Void;)V"⟩ : MethodName) (head1 (Jvm.Cond.code (⟨"java/lang/String", "<init>", "([CIILjava/lang/Void;)V"⟩ : MethodName) jdk_42_method_149_code 6 none :: ws) ({ frames := 1, cells := 4, slots := 8, locals := 12 } : Room)) (fun a U => a = #[(.ref a1), (.ref a2), (.int (0 : Int32)), (.int (0 : Int32)), .null] ∧ Z.Warmed39 U.vm ∧ U.heap = h0 ∧ CHv Z consts_1 U.vm h0) (fun _ _ _ _ _ => True) (fun _ U o U' => ∃ rv rL, o = .returned rv ∧ QK1 a1 h0 n0 rv U'.heap rL ∧ CHr Z consts_1 U.vm U.heap U'.vm U'.heap ∧ ReturnedEndW U o U' rL ({ frames := 1, cells := 4, slots := 8, locals := 12 } : Room).cells ({ frames := 1, cells := 4, slots := 8, locals := 12 } : Room).slots) := by
  refine MetFree.of_bodySF (plainFor_of_name pn_20) hisR ?_
  intro p e s m args below meth c s₁ Bd hml0 hP hK
  obtain ⟨rfl, hZ, hh, hCH⟩ := hP
  have hx := Bd.exec
  have hby := Bd.bytes
  have hml : c.maxLocals = 6 := hml0
  have hown : s.vm.findClass "java/lang/String" = some m.cls := findClass_of_methodNamed Bd.named
  have hnm := (name_of_methodNamed Bd.named Bd.method).1
  have X0 : Stand p l e ({ frames := 1, cells := 4, slots := 8, locals := 12 } : Room) (s.setVm s.vm) m #[(.ref a1), (.ref a2), (.int (0 : Int32)), (.int (0 : Int32)), .null] below meth c s₁ [] 0 0 := Stand.of_body Bd
  have e0 : s₁.heap = h0 := by rw [← hh, Bd.state]; rfl
  have N0 := Fr.nil n0
  have hS0 : s.Since s.vm s.heap.size := own_since s
  have hk0 : s.heap.size ≤ h0.size := by rw [hh]; exact Nat.le_refl _
  have hstr := own_str hw
  have hEL := own_EL hw
  have pre0 : ∀ t, Steps p.tables e below (s₁.setTop (mkF m 0 #[.val (.ref a1), .val (.ref a2), .val (.int (0 : Int32)), .val (.int (0 : Int32)), .val .null, .unset] [])) t → Steps p.tables e below (s₁.setTop (entryFrame m #[(.ref a1), (.ref a2), (.int (0 : Int32)), (.int (0 : Int32)), .null] 6)) t := fun t k => castTop (ef_20vvvvn m a1 a2 (0 : Int32) (0 : Int32)) k
  have sf0 : Safe Z consts_1 s.vm h0 a1 := own_safeNull hZ.alike E_a1 F_v
  obtain ⟨T101, X101, e101, st101⟩ := initO X0 hx hZ hown (hw _ (List.mem_of_getElem? (i := 19) rfl)) (hw _ (List.mem_of_getElem? (i := 20) rfl)) (hw _ (List.mem_of_getElem? (i := 21) rfl)) e0 (g := (mkF m 1 #[.val (.ref a1), .val (.ref a2), .val (.int (0 : Int32)), .val (.int (0 : Int32)), .val .null, .unset] [(.ref a1)])) rfl (by rw [hml]; rfl) rfl (hb hby d20_1) (by decide) (W := 0) (by show 2 * 0 + _ ≤ _; exact Nat.le_of_eq rfl) (by decide)
  have lz102_a1 := E_a1.lt
  obtain ⟨a102, T102, h102, k102, c102, kc102, X102, e102, E102, hS102, hk102, hZ102, hown102, A102, Fc102, Fv102, V102, la102, lc102, R102, -, ns102, st102⟩ := ldcCH (z := (0 : Int32)) (vs := []) X101 hx hZ hown (hw _ (List.mem_of_getElem? (i := 149) rfl)) hstr e101 hS0 hk0 hEL (by decide) hCH ⟨by decide, by decide⟩ (by decide) (by decide) (g := (mkF m 9 #[.val (.ref a1), .val (.ref a2), .val (.int (0 : Int32)), .val (.int (0 : Int32)), .val .null, .unset] [(.ref a1)])) rfl (hb hby d20_9) (n := 0) (by decide) (by decide) (by decide) (by decide)
  have sf103_a1 := R102.safe lz102_a1 sf0
  have cr103 := (CHr.refl hCH).trans R102
  have ch103 := R102.1
  obtain ⟨T104, X104, e104, st104⟩ := getF X102 hx hZ102 hown102 (host := "") (Or.inl (hw _ (List.mem_of_getElem? (i := 22) rfl))) Via.refl e102 Fv102 (g := (mkF m 11 #[.val (.ref a1), .val (.ref a2), .val (.int (0 : Int32)), .val (.int (0 : Int32)), .val .null, .unset] [(.ref a102), (.ref a1)])) rfl rfl (hb hby d20_11)
  have y105 := (F_v.ext E102)
  have y106 := (E_a1.ext E102)
  obtain ⟨T107, h107, X107, e107, W107, st107⟩ := putF X104 hx hZ102 hown102 (host := "") (Or.inl (hw _ (List.mem_of_getElem? (i := 22) rfl))) Via.refl e104 y105 y106 (Or.inr ⟨(hw _ (List.mem_of_getElem? (i := 23) rfl)), rfl, hnm⟩) (hw _ (List.mem_of_getElem? (i := 10) rfl)) (ty := (.array .byte)) (by decide) rfl rfl (g := (mkF m 14 #[.val (.ref a1), .val (.ref a2), .val (.int (0 : Int32)), .val (.int (0 : Int32)), .val .null, .unset] [(.ref c102), (.ref a1)])) rfl rfl (hb hby d20_14)
  have Fw107 := y105.same W107
  have sf108_a1 := Safe.wr W107 sf103_a1 ch103 sf103_a1
  have cr108 := cr103.trans (CHr.wr W107 sf103_a1 ch103)
  have ch108 := CHv.wr W107 sf103_a1 ch103
  have N107 := Fr.snoc X107 N0 g_a1
  have y110 := (y106.wr W107)
  have lz109_a1 := y110.lt
  have y111 := (A102.wr W107)
  have lz109_a102 := y111.lt
  have y112 := (V102.other W107 (Ne.symm (ns102 _ sf103_a1).2))
  have lz109_c102 := y112.lt
  have y113 := (Nat.le_trans hk102 (Keep.of_wr W107).1)
  obtain ⟨a109, T109, h109, k109, c109, kc109, X109, e109, E109, hS109, hk109, hZ109, hown109, A109, Fc109, Fv109, V109, la109, lc109, R109, -, ns109, st109⟩ := ldcCH (z := (0 : Int32)) (vs := []) X107 hx hZ102 hown102 (hw _ (List.mem_of_getElem? (i := 149) rfl)) hstr e107 hS102 y113 hEL (by decide) ch108 ⟨by decide, by decide⟩ (by decide) (by decide) (g := (mkF m 18 #[.val (.ref a1), .val (.ref a2), .val (.int (0 : Int32)), .val (.int (0 : Int32)), .val .null, .unset] [(.ref a1)])) rfl (hb hby d20_18) (n := 0) (by decide) (by decide) (by decide) (by decide)
  have sf114_a1 := R109.safe lz109_a1 sf108_a1
  have cr114 := cr108.trans R109
  have ch114 := R109.1
  obtain ⟨T115, X115, e115, st115⟩ := getF X109 hx hZ109 hown109 (host := "") (Or.inl (hw _ (List.mem_of_getElem? (i := 24) rfl))) Via.refl e109 Fc109 (g := (mkF m 20 #[.val (.ref a1), .val (.ref a2), .val (.int (0 : Int32)), .val (.int (0 : Int32)), .val .null, .unset] [(.ref a109), (.ref a1)])) rfl rfl (hb hby d20_20)
  have y116 := (((F_k.ext E102).other W107 (Or.inr (slot_ne (Or.inr (hw _ (List.mem_of_getElem? (i := 25) rfl))) (Or.inr (hw _ (List.mem_of_getElem? (i := 23) rfl))) (by decide) (t := .byte) (t' := (.array .byte)) (by decide) (by decide)))).ext E109)
  have y117 := (y110.ext E109)
  obtain ⟨T118, h118, X118, e118, W118, st118⟩ := putFN X115 hx hZ109 hown109 (hw _ (List.mem_of_getElem? (i := 24) rfl)) Via.refl e115 y116 y117 (Or.inr ⟨(hw _ (List.mem_of_getElem? (i := 25) rfl)), rfl, hnm⟩) (hw _ (List.mem_of_getElem? (i := 10) rfl)) (ty := .byte) (v' := (.int (0 : Int32))) (by decide) (by decide) (by decide) (g := (mkF m 23 #[.val (.ref a1), .val (.ref a2), .val (.int (0 : Int32)), .val (.int (0 : Int32)), .val .null, .unset] [(.int (0 : Int32)), (.ref a1)])) rfl rfl (hb hby d20_23)
  have Fw118 := y116.same W118
  have sf119_a1 := Safe.wr W118 sf114_a1 ch114 sf114_a1
  have cr119 := cr114.trans (CHr.wr W118 sf114_a1 ch114)
  have ch119 := CHv.wr W118 sf114_a1 ch114
  have N118 := Fr.snoc X118 N107 g_a1
  have y120 := (((((Keep.refl h0 [a1]).ext E102).wr W107 (Or.inl (List.mem_of_getElem? (i := 0) rfl))).ext E109).wr W118 (Or.inl (List.mem_of_getElem? (i := 0) rfl)))
  have y121 := (Nat.le_trans hk109 (Keep.of_wr W118).1)
  obtain ⟨fs, hr, hrun, hended, hRW⟩ := X118.leaveW hS109 (by rw [e118]; exact y121) (v := none) (fun _ => rfl)
  have crE : CHr Z consts_1 s.vm s.heap T118.vm T118.heap := own_chr hh e118 (cr119.trans (CHv.at X118 hZ109 hEL ch119))
  refine ⟨_, _, pre0 _ ?_, hrun, hended, _, _, rfl, ?_, crE, hRW.1, hRW.2.1, hRW.2.2.1, hRW.2.2.2.mono (by decide) (by decide)⟩
  · show Steps p.tables e below (s₁.setTop (mkF m 0 #[.val (.ref a1), .val (.ref a2), .val (.int (0 : Int32)), .val (.int (0 : Int32)), .val .null, .unset] [])) _
    refine XS.aloadN X0.here hx rfl (hb hby d20_0) rfl rfl ?_
    show Steps p.tables e below (s₁.setTop (mkF m 1 #[.val (.ref a1), .val (.ref a2), .val (.int (0 : Int32)), .val (.int (0 : Int32)), .val .null, .unset] [(.ref a1)])) _
    refine st101 _ ?_
    show Steps p.tables e below (T101.setTop (mkF m 4 #[.val (.ref a1), .val (.ref a2), .val (.int (0 : Int32)), .val (.int (0 : Int32)), .val .null, .unset] [])) _
    refine XS.iloadN X101.here hx rfl (hb hby d20_4) rfl ?_
    show Steps p.tables e below (T101.setTop (mkF m 5 #[.val (.ref a1), .val (.ref a2), .val (.int (0 : Int32)), .val (.int (0 : Int32)), .val .null, .unset] [(.int (0 : Int32))])) _
    refine XS.ifNo X101.here hx rfl (hb hby d20_5) rfl ((if0 _ _).trans (teq (rfl : (0 : Int32) = (0 : Int32))).2) ?_
    show Steps p.tables e below (T101.setTop (mkF m 8 #[.val (.ref a1), .val (.ref a2), .val (.int (0 : Int32)), .val (.int (0 : Int32)), .val .null, .unset] [])) _
    refine XS.aloadN X101.here hx rfl (hb hby d20_8) rfl rfl ?_
    show Steps p.tables e below (T101.setTop (mkF m 9 #[.val (.ref a1), .val (.ref a2), .val (.int (0 : Int32)), .val (.int (0 : Int32)), .val .null, .unset] [(.ref a1)])) _
    refine st102 _ ?_
    show Steps p.tables e below (T102.setTop (mkF m 11 #[.val (.ref a1), .val (.ref a2), .val (.int (0 : Int32)), .val (.int (0 : Int32)), .val .null, .unset] [(.ref a102), (.ref a1)])) _
    refine st104 _ ?_
    show Steps p.tables e below (T104.setTop (mkF m 14 #[.val (.ref a1), .val (.ref a2), .val (.int (0 : Int32)), .val (.int (0 : Int32)), .val .null, .unset] [(.ref c102), (.ref a1)])) _
    refine st107 _ ?_
    show Steps p.tables e below (T107.setTop (mkF m 17 #[.val (.ref a1), .val (.ref a2), .val (.int (0 : Int32)), .val (.int (0 : Int32)), .val .null, .unset] [])) _
    refine XS.aloadN X107.here hx rfl (hb hby d20_17) rfl rfl ?_
    show Steps p.tables e below (T107.setTop (mkF m 18 #[.val (.ref a1), .val (.ref a2), .val (.int (0 : Int32)), .val (.int (0 : Int32)), .val .null, .unset] [(.ref a1)])) _
    refine st109 _ ?_
    show Steps p.tables e below (T109.setTop (mkF m 20 #[.val (.ref a1), .val (.ref a2), .val (.int (0 : Int32)), .val (.int (0 : Int32)), .val .null, .unset] [(.ref a109), (.ref a1)])) _
    refine st115 _ ?_
    show Steps p.tables e below (T115.setTop (mkF m 23 #[.val (.ref a1), .val (.ref a2), .val (.int (0 : Int32)), .val (.int (0 : Int32)), .val .null, .unset] [(.int (0 : Int32)), (.ref a1)])) _
    refine st118 _ ?_
    show Steps p.tables e below (T118.setTop (mkF m 26 #[.val (.ref a1), .val (.ref a2), .val (.int (0 : Int32)), .val (.int (0 : Int32)), .val .null, .unset] [])) _
    exact X118.returnOut hx Bd.returns (hb hby d20_26) hr
  · show QK1 a1 h0 n0 _ T118.heap _
    rw [e118]
    exact ⟨rfl, N118, y120⟩
set_option maxRecDepth 65536 in
set_option maxHeartbeats 40000000 in
theorem rmS0 (l : Launch) (Z : State) (a0 : Array Value) (hw : ∀ d ∈ tables_1, d.before a0 Z = true) (ws : List Jvm.Cond) (a1 : Addr) (a2 : Addr) (ka : ClassId) (uk : Value) (h0 : Heap) (n0 : Nat) (X00 : Old Z n0 h0) (E_a1 : Exa Z h0 a1 ST) (F_v : Fld Z h0 a1 ST "value" "[B" .null) (F_k : Fld Z h0 a1 ST "coder" "B" uk) (g_a1 : n0 ≤ a1) (V_2 : Arv Z h0 a2 ka .char (0 : Int32) [] (.int (0 : Int32))) :
    MetFree l (⟨"java/lang/String", "<init>", "([C)V"⟩ : MethodName) (head1 (Jvm.Cond.code (⟨"java/lang/String", "<init>", "([C)V"⟩ : MethodName) jdk_42_method_3_code 2 none :: ws) ({ frames := 2, cells := 4, slots := 8, locals := 29 } : Room)) (fun a U => a = #[(.ref a1), (.ref a2)] ∧ Z.Warmed39 U.vm ∧ U.heap = h0 ∧ CHv Z consts_1 U.vm h0) (fun _ _ _ _ _ => True) (fun _ U o U' => ∃ rv rL, o = .returned rv ∧ QK1 a1 h0 n0 rv U'.heap rL ∧ CHr Z consts_1 U.vm U.heap U'.vm U'.heap ∧ ReturnedEndW U o U' rL ({ frames := 2, cells := 4, slots := 8, locals := 29 } : Room).cells ({ frames := 2, cells := 4, slots := 8, locals := 29 } : Room).slots) := by
  refine MetFree.of_bodySF (plainFor_of_name pn_19) hisR ?_
  intro p e s m args below meth c s₁ Bd hml0 hP hK
  obtain ⟨rfl, hZ, hh, hCH⟩ := hP
  have hx := Bd.exec
  have hby := Bd.bytes
  have hml : c.maxLocals = 2 := hml0
  have hown : s.vm.findClass "java/lang/String" = some m.cls := findClass_of_methodNamed Bd.named
  have hnm := (name_of_methodNamed Bd.named Bd.method).1
  have X0 : Stand p l e ({ frames := 2, cells := 4, slots := 8, locals := 29 } : Room) (s.setVm s.vm) m #[(.ref a1), (.ref a2)] below meth c s₁ [] 0 0 := Stand.of_body Bd
  have e0 : s₁.heap = h0 := by rw [← hh, Bd.state]; rfl
  have N0 := Fr.nil n0
  have hS0 : s.Since s.vm s.heap.size := own_since s
  have hk0 : s.heap.size ≤ h0.size := by rw [hh]; exact Nat.le_refl _
  have hstr := own_str hw
  have hEL := own_EL hw
  have pre0 : ∀ t, Steps p.tables e below (s₁.setTop (mkF m 0 #[.val (.ref a1), .val (.ref a2)] [])) t → Steps p.tables e below (s₁.setTop (entryFrame m #[(.ref a1), (.ref a2)] 2)) t := fun t k => castTop (ef_19 m a1 a2) k
  obtain ⟨cl101, Ar101, q101, S101, M101, H101, G101⟩ := id V_2
  have lz102_a1 := E_a1.lt
  have lz102_a2 := V_2.lt
  obtain ⟨_, _, ⟨T102, L102, k102, n102⟩, -, X102, hs102, hg102, ⟨Lc102, hQ102, l102, y102, z102, R102⟩, st102⟩ := X0.specialBackS hx (y := (⟨"java/lang/String", "<init>", "([CIILjava/lang/Void;)V"⟩ : MethodName)) rfl hown (mvT hZ (hw _ (List.mem_of_getElem? (i := 136) rfl))) (mvT hZ (hw _ (List.mem_of_getElem? (i := 137) rfl))) (mvT hZ (hw _ (List.mem_of_getElem? (i := 138) rfl))) (by decide) (backOfSH (W := 0) (rmS0b l Z a0 hw [] a1 a2 uk h0 n0 X00 E_a1 F_v F_k g_a1) hZ (hw _ (List.mem_of_getElem? (i := 138) rfl)) (hw _ (List.mem_of_getElem? (i := 2) rfl)) (by decide) (by decide) hEL hCH) (g := (mkF m 6 #[.val (.ref a1), .val (.ref a2)] [.null, (.int (0 : Int32)), (.int (0 : Int32)), (.ref a2), (.ref a1)])) rfl (by rw [hml]; rfl) (Steps.refl _) (a := a1) (argsL := [(.ref a2), (.int (0 : Int32)), (.int (0 : Int32)), .null]) (rest := []) (lenOf pd_ACIILjava_lang_Void__V rfl) rfl (by show 2 * 0 + _ ≤ _; exact Nat.le_of_eq rfl) (hb hby d19_6) (fun _ _ => ⟨rfl, e0, (by decide : 0 + 4 ≤ _), (by decide : 0 + 8 ≤ _)⟩)
  dsimp only [Pt.U, Pt.locs, Pt.cells, Pt.slots] at X102 l102 y102 z102 st102 hQ102 hs102 hg102 R102
  subst l102 y102 z102
  obtain ⟨rfl, N102q, Kc102⟩ := hQ102
  have N102 := Fr.app N0 N102q
  obtain ⟨X102r, hS102, hZ102, hown102⟩ := rebS hS0 (by rw [e0]; exact hk0) X102 hs102 hg102 hZ hown
  have cr103 := (CHr.refl hCH).trans R102
  have ch103 := R102.1
  have y104 := ((Keep.refl h0 [a1]).trans Kc102 (allS (Or.inl (List.mem_of_getElem? (i := 0) rfl)) all0))
  obtain ⟨fs, hr, hrun, hended, hRW⟩ := X102r.leaveW hS102 (Nat.le_refl _) (v := none) (fun _ => rfl)
  have crE : CHr Z consts_1 s.vm s.heap T102.vm T102.heap := own_chr hh rfl (cr103.trans (CHv.at X102r hZ102 hEL ch103))
  refine ⟨_, _, pre0 _ ?_, hrun, hended, _, _, rfl, ?_, crE, hRW.1, hRW.2.1, hRW.2.2.1, hRW.2.2.2.mono (by decide) (by decide)⟩
  · show Steps p.tables e below (s₁.setTop (mkF m 0 #[.val (.ref a1), .val (.ref a2)] [])) _
    refine XS.aloadN X0.here hx rfl (hb hby d19_0) rfl rfl ?_
    show Steps p.tables e below (s₁.setTop (mkF m 1 #[.val (.ref a1), .val (.ref a2)] [(.ref a1)])) _
    refine XS.aloadN X0.here hx rfl (hb hby d19_1) rfl rfl ?_
    show Steps p.tables e below (s₁.setTop (mkF m 2 #[.val (.ref a1), .val (.ref a2)] [(.ref a2), (.ref a1)])) _
    refine XS.iconst X0.here hx rfl (hb hby d19_2) ?_
    show Steps p.tables e below (s₁.setTop (mkF m 3 #[.val (.ref a1), .val (.ref a2)] [(.int (0 : Int32)), (.ref a2), (.ref a1)])) _
    refine XS.aloadN X0.here hx rfl (hb hby d19_3) rfl rfl ?_
    show Steps p.tables e below (s₁.setTop (mkF m 4 #[.val (.ref a1), .val (.ref a2)] [(.ref a2), (.int (0 : Int32)), (.ref a2), (.ref a1)])) _
    refine X0.arraylength hx (by rw [e0]; exact Ar101.1) (State.isArrayOf_alike hZ.alike Ar101.2.1) (g := (mkF m 4 #[.val (.ref a1), .val (.ref a2)] [(.ref a2), (.int (0 : Int32)), (.ref a2), (.ref a1)])) rfl rfl (hb hby d19_4) _ ?_
    rw [len_of S101 M101]
    show Steps p.tables e below (s₁.setTop (mkF m 5 #[.val (.ref a1), .val (.ref a2)] [(.int (0 : Int32)), (.int (0 : Int32)), (.ref a2), (.ref a1)])) _
    refine XS.aconstNull X0.here hx rfl (hb hby d19_5) ?_
    show Steps p.tables e below (s₁.setTop (mkF m 6 #[.val (.ref a1), .val (.ref a2)] [.null, (.int (0 : Int32)), (.int (0 : Int32)), (.ref a2), (.ref a1)])) _
    refine st102.trans ?_
    show Steps p.tables e below (T102.setTop (mkF m 9 #[.val (.ref a1), .val (.ref a2)] [])) _
    exact X102r.returnOut hx Bd.returns (hb hby d19_9) hr
  · show QK1 a1 h0 n0 _ T102.heap _
    exact ⟨rfl, N102, y104⟩
set_option maxRecDepth 65536 in
set_option maxHeartbeats 40000000 in
theorem rm0_0 (l : Launch) (Z : State) (a0 : Array Value) (hw : ∀ d ∈ tables_1, d.before a0 Z = true) (ws : List Jvm.Cond) (p1 : Int32) (p2 : Int32) (p3 : Int32) (wc : Addr) (wt : Addr) (tt : Addr) (kt : ClassId) (G1 : Int32) (h0 : Heap) (n0 : Nat) (X00 : Old Z n0 h0) (hl : l.stackTraces = true) (hr2 : ∀ d ∈ twoRefs, d.before a0 Z = true) (S_c : Sta Z Z.heap EC "CONFLICT" ECD (.ref wc)) (O2 : Sta Z Z.heap ST "COMPACT_STRINGS" "Z" (.int G1)) (P5 : ¬ (G1 = (0 : Int32))) (F_s : Fld Z Z.heap wc EC "status" "I" (.int (409 : Int32))) (F_t : Fld Z Z.heap wc EC "code" "Ljava/lang/String;" (.ref wt)) (E_c : Exa Z Z.heap wc EC) (E_t : Exa Z Z.heap wt ST) (C_t : Fld Z Z.heap wt ST "coder" "B" (.int (0 : Int32))) (V_t : Fld Z Z.heap wt ST "value" "[B" (.ref tt)) (K_t : Arv Z Z.heap tt kt .byte (8 : Int32) [(.int (99 : Int32)), (.int (111 : Int32)), (.int (110 : Int32)), (.int (102 : Int32)), (.int (108 : Int32)), (.int (105 : Int32)), (.int (99 : Int32)), (.int (116 : Int32))] (.int (0 : Int32))) (hk_ : (p3 &&& (3 : Int32)) = (0 : Int32)) :
    MetFree l x (head1 (Jvm.Cond.code x code maxLocals ret :: ws) room_1) (fun a U => a = #[(.int p1), (.int p2), (.int p3)] ∧ Z.Warmed39 U.vm ∧ U.heap = h0 ∧ CHv Z consts_1 U.vm h0) (fun _ _ bl s _ => s.vm.MethodsKnown ∧ s.vm.FramesKnown bl) (fun _ U o U' => ∃ rv rL, o = .returned rv ∧ Q0 h0 n0 rv U'.heap rL ∧ ReturnedEndW U o U' rL room_1.cells room_1.slots) := by
  refine MetFree.of_bodySF (plainFor_of_name pn_0) hisR ?_
  intro p e s m args below meth c s₁ Bd hml0 hP hK
  obtain ⟨rfl, hZ, hh, hCH⟩ := hP
  have hx := Bd.exec
  have hby := Bd.bytes
  have hml : c.maxLocals = 9 := hml0
  have hown : s.vm.findClass "com/example/bill_per_call/billpercall/RequestExceptionConflictPinLaw" = some m.cls := findClass_of_methodNamed Bd.named
  have hnm := (name_of_methodNamed Bd.named Bd.method).1
  have X0 : Stand p l e room_1 (s.setVm s.vm) m #[(.int p1), (.int p2), (.int p3)] below meth c s₁ [] 0 0 := Stand.of_body Bd
  have e0 : s₁.heap = h0 := by rw [← hh, Bd.state]; rfl
  have N0 := Fr.nil n0
  have hS0 : s.Since s.vm s.heap.size := own_since s
  have hk0 : s.heap.size ≤ h0.size := by rw [hh]; exact Nat.le_refl _
  have hstr := own_str hw
  have hEL := own_EL hw
  have pre0 : ∀ t, Steps p.tables e below (s₁.setTop (mkF m 0 #[.val (.int p1), .val (.int p2), .val (.int p3), .unset, .unset, .unset, .unset, .unset, .unset] [])) t → Steps p.tables e below (s₁.setTop (entryFrame m #[(.int p1), (.int p2), (.int p3)] maxLocals)) t := fun t k => castTop (ef_0 m p1 p2 p3) k
  have hwe : ∀ d ∈ StrChars.Road.wordsEq, d.before a0 Z = true := fun d hd => hw d ((by decide +kernel : ∀ d ∈ StrChars.Road.wordsEq, d ∈ tables_1) d hd)
  have hc22 : (p3 &&& (3 : Int32)) = (0 : Int32) := hk_
  obtain ⟨_, _, ⟨T101, L101, k101, n101⟩, -, X101, ⟨Lc101, hQ101, l101, y101, z101⟩, st101⟩ := Jvm.LawKit.callS X0 hx (y := (⟨"com/example/bill_per_call/billpercall/RequestException", "conflict", "(Ljava/lang/String;)Lcom/example/bill_per_call/billpercall/RequestException;"⟩ : MethodName)) hown (mvT hZ (hw _ (List.mem_of_getElem? (i := 26) rfl))) (mvT hZ (hw _ (List.mem_of_getElem? (i := 27) rfl))) (mvT hZ (hw _ (List.mem_of_getElem? (i := 28) rfl))) (mvT hZ (hw _ (List.mem_of_getElem? (i := 29) rfl))) (by decide) (backOfKL (W := 0) (rmCf_n l Z a0 hw []  wc h0 n0 X00 hl hr2 S_c) hZ (hw _ (List.mem_of_getElem? (i := 29) rfl)) (hw _ (List.mem_of_getElem? (i := 28) rfl)) (by decide) (by decide) hK.1 hK.2) (g := (mkF m 90 #[.val (.int p1), .val (.int p2), .val (.int p3), .val (.int ((p1 &&& (255 : Int32)).toUInt32.toUInt16.toUInt32.toInt32)), .val (.int ((p2 &&& (255 : Int32)).toUInt32.toUInt16.toUInt32.toInt32)), .val (.int (p3 &&& (3 : Int32))), .val .null, .unset, .unset] [.null])) rfl (by rw [hml]; rfl) (argsL := [.null]) (rest := []) (lenOf pd_Ljava_lang_String__Lcom_example_bill_per_call_billpercall_RequestException_ rfl) rfl (by show 2 * 0 + _ ≤ _; exact Nat.le_of_eq rfl) (hb hby at_90) (fun _ _ => ⟨rfl, e0, (by decide : 0 + 2 ≤ _), (by decide : 0 + 2759 ≤ _)⟩)
  dsimp only [Pt.U, Pt.locs, Pt.cells, Pt.slots] at X101 l101 y101 z101 st101 hQ101
  subst l101 y101 z101
  obtain ⟨r101, rfl, N101q, Kc101, B101⟩ := hQ101
  have N101 := Fr.app N0 N101q
  have hs102_ : ∀ x ∈ ([] : List Addr), Safe Z consts_1 s.vm h0 x := all0
  have cr102 := (CHr.refl hCH).trans (CHr.keep Kc101 hs102_ hCH)
  have ch102 := CHv.keep Kc101 hs102_ hCH
  have y103 := (X00.keep Kc101 all0)
  obtain ⟨cq104, kq104, q104a, q104b, q104c⟩ := isOf hZ rfl B101.1
  obtain ⟨_, _, ⟨T104, L104, k104, n104⟩, -, X104, ⟨Lc104, hQ104, l104, y104, z104⟩, st104⟩ := X101.virtualBack hx (y := (⟨"com/example/bill_per_call/billpercall/RequestException", "code", "()Lcom/example/bill_per_call/billpercall/ErrorCode;"⟩ : MethodName)) (z := (⟨"com/example/bill_per_call/billpercall/RequestException", "code", "()Lcom/example/bill_per_call/billpercall/ErrorCode;"⟩ : MethodName)) hown (mvT hZ (hw _ (List.mem_of_getElem? (i := 94) rfl))) (mvT hZ (hw _ (List.mem_of_getElem? (i := 95) rfl))) (notFace_of_selects (args := #[]) (mvT hZ (hw _ (List.mem_of_getElem? (i := 97) rfl)))) (mvT hZ (hw _ (List.mem_of_getElem? (i := 97) rfl))) (mvT hZ (hw _ (List.mem_of_getElem? (i := 96) rfl))) (by decide) (backOf (W := 0) (rmCo l Z a0 hw [] r101 wc T101.heap n0 y103 B101.2.1) hZ (hw _ (List.mem_of_getElem? (i := 98) rfl)) (hw _ (List.mem_of_getElem? (i := 28) rfl)) (by decide) (by decide)) q104a q104c (g := (mkF m 104 #[.val (.int p1), .val (.int p2), .val (.int p3), .val (.int ((p1 &&& (255 : Int32)).toUInt32.toUInt16.toUInt32.toInt32)), .val (.int ((p2 &&& (255 : Int32)).toUInt32.toUInt16.toUInt32.toInt32)), .val (.int (p3 &&& (3 : Int32))), .val .null, .val (.ref r101), .unset] [(.ref r101)])) rfl (by rw [hml]; rfl) (Steps.refl _) (argsL := []) (rest := []) (lenOf pd__Lcom_example_bill_per_call_billpercall_ErrorCode_ rfl) rfl (by show 2 * 0 + _ ≤ _; exact Nat.le_of_eq rfl) (hb hby at_104) (fun _ _ => ⟨rfl, rfl, (by decide : 2 + 0 ≤ _), (by decide : 2759 + 0 ≤ _)⟩)
  dsimp only [Pt.U, Pt.locs, Pt.cells, Pt.slots] at X104 l104 y104 z104 st104 hQ104
  subst l104 y104 z104
  obtain ⟨rfl, N104q, eq104⟩ := hQ104
  have N104 := Fr.app N101 N104q
  obtain ⟨T105, X105, e105, st105⟩ := getS2 X104 hx hZ hown (host := "") (Or.inl (hw _ (List.mem_of_getElem? (i := 99) rfl))) Via.refl eq104 (S_c.ext y103.2) (g := (mkF m 111 #[.val (.int p1), .val (.int p2), .val (.int p3), .val (.int ((p1 &&& (255 : Int32)).toUInt32.toUInt16.toUInt32.toInt32)), .val (.int ((p2 &&& (255 : Int32)).toUInt32.toUInt16.toUInt32.toInt32)), .val (.int (p3 &&& (3 : Int32))), .val .null, .val (.ref r101), .val (.ref wc)] [(.ref wc)])) rfl (hb hby at_111)
  obtain ⟨cq106, kq106, q106a, q106b, q106c⟩ := isOf hZ e105 (E_c.ext y103.2)
  obtain ⟨_, _, ⟨T106, L106, k106, n106⟩, -, X106, ⟨Lc106, hQ106, l106, y106, z106⟩, st106⟩ := X105.virtualBack hx (y := (⟨"com/example/bill_per_call/billpercall/ErrorCode", "status", "()I"⟩ : MethodName)) (z := (⟨"com/example/bill_per_call/billpercall/ErrorCode", "status", "()I"⟩ : MethodName)) hown (mvT hZ (hw _ (List.mem_of_getElem? (i := 100) rfl))) (mvT hZ (hw _ (List.mem_of_getElem? (i := 101) rfl))) (notFace_of_selects (args := #[]) (mvT hZ (hw _ (List.mem_of_getElem? (i := 103) rfl)))) (mvT hZ (hw _ (List.mem_of_getElem? (i := 103) rfl))) (mvT hZ (hw _ (List.mem_of_getElem? (i := 102) rfl))) (by decide) (backOf (W := 0) (rmEs l Z a0 hw [] wc (409 : Int32) T101.heap n0 y103 (F_s.ext y103.2)) hZ (hw _ (List.mem_of_getElem? (i := 104) rfl)) (hw _ (List.mem_of_getElem? (i := 33) rfl)) (by decide) (by decide)) q106a q106c (g := (mkF m 121 #[.val (.int p1), .val (.int p2), .val (.int p3), .val (.int ((p1 &&& (255 : Int32)).toUInt32.toUInt16.toUInt32.toInt32)), .val (.int ((p2 &&& (255 : Int32)).toUInt32.toUInt16.toUInt32.toInt32)), .val (.int (p3 &&& (3 : Int32))), .val .null, .val (.ref r101), .val (.ref wc)] [(.ref wc)])) rfl (by rw [hml]; rfl) (Steps.refl _) (argsL := []) (rest := []) (lenOf pd__I rfl) rfl (by show 2 * 0 + _ ≤ _; exact Nat.le_of_eq rfl) (hb hby at_121) (fun _ _ => ⟨rfl, e105, (by decide : 2 + 0 ≤ _), (by decide : 2759 + 0 ≤ _)⟩)
  dsimp only [Pt.U, Pt.locs, Pt.cells, Pt.slots] at X106 l106 y106 z106 st106 hQ106
  subst l106 y106 z106
  obtain ⟨rfl, N106q, eq106⟩ := hQ106
  have N106 := Fr.app N104 N106q
  have lz107_r101 := B101.1.lt
  have y108 := (Nat.le_trans hk0 Kc101.1)
  obtain ⟨a107, T107, h107, k107, c107, kc107, X107, e107, E107, hS107, hk107, hZ107, hown107, A107, Fc107, Fv107, V107, la107, lc107, R107, -, ns107, st107⟩ := ldcCH (z := (8 : Int32)) (vs := [(.int (99 : Int32)), (.int (111 : Int32)), (.int (110 : Int32)), (.int (102 : Int32)), (.int (108 : Int32)), (.int (105 : Int32)), (.int (99 : Int32)), (.int (116 : Int32))]) X106 hx hZ hown (hw _ (List.mem_of_getElem? (i := 107) rfl)) hstr eq106 hS0 y108 hEL (by decide) ch102 ⟨by decide, by decide⟩ (by decide) (by decide) (g := (mkF m 132 #[.val (.int p1), .val (.int p2), .val (.int p3), .val (.int ((p1 &&& (255 : Int32)).toUInt32.toUInt16.toUInt32.toInt32)), .val (.int ((p2 &&& (255 : Int32)).toUInt32.toUInt16.toUInt32.toInt32)), .val (.int (p3 &&& (3 : Int32))), .val .null, .val (.ref r101), .val (.ref wc)] [])) rfl (hb hby at_132) (n := 32) (by decide) (by decide) (by decide) (by decide)
  have cr109 := cr102.trans R107
  have ch109 := R107.1
  have tk110 := Vm.MethodsKnown.alikeC (own_al hS107) hK.1
  have bk110 := Vm.FramesKnown.alikeC (own_al hS107) hK.2
  have y111 := (y103.ext E107)
  obtain ⟨cq112, kq112, q112a, q112b, q112c⟩ := isOf hZ107 e107 (E_c.ext y111.2)
  obtain ⟨_, _, ⟨T112, L112, k112, n112⟩, -, X112, ⟨Lc112, hQ112, l112, y112, z112⟩, st112⟩ := X107.virtualBack hx (y := (⟨"com/example/bill_per_call/billpercall/ErrorCode", "code", "()Ljava/lang/String;"⟩ : MethodName)) (z := (⟨"com/example/bill_per_call/billpercall/ErrorCode", "code", "()Ljava/lang/String;"⟩ : MethodName)) hown107 (mvT hZ107 (hw _ (List.mem_of_getElem? (i := 110) rfl))) (mvT hZ107 (hw _ (List.mem_of_getElem? (i := 111) rfl))) (notFace_of_selects (args := #[]) (mvT hZ107 (hw _ (List.mem_of_getElem? (i := 113) rfl)))) (mvT hZ107 (hw _ (List.mem_of_getElem? (i := 113) rfl))) (mvT hZ107 (hw _ (List.mem_of_getElem? (i := 112) rfl))) (by decide) (backOf (W := 1) (rmEc l Z a0 hw [] wc wt h107 n0 y111 (F_t.ext y111.2)) hZ107 (hw _ (List.mem_of_getElem? (i := 114) rfl)) (hw _ (List.mem_of_getElem? (i := 33) rfl)) (by decide) (by decide)) q112a q112c (g := (mkF m 136 #[.val (.int p1), .val (.int p2), .val (.int p3), .val (.int ((p1 &&& (255 : Int32)).toUInt32.toUInt16.toUInt32.toInt32)), .val (.int ((p2 &&& (255 : Int32)).toUInt32.toUInt16.toUInt32.toInt32)), .val (.int (p3 &&& (3 : Int32))), .val .null, .val (.ref r101), .val (.ref wc)] [(.ref wc), (.ref a107)])) rfl (by rw [hml]; rfl) (Steps.refl _) (argsL := []) (rest := [(.ref a107)]) (lenOf pd__Ljava_lang_String_ rfl) rfl (by show 2 * 0 + _ ≤ _; exact Nat.le_of_eq rfl) (hb hby at_136) (fun _ _ => ⟨rfl, e107, (by decide : 4 + 0 ≤ _), (by decide : 2795 + 0 ≤ _)⟩)
  dsimp only [Pt.U, Pt.locs, Pt.cells, Pt.slots] at X112 l112 y112 z112 st112 hQ112
  subst l112 y112 z112
  obtain ⟨rfl, N112q, eq112⟩ := hQ112
  have N112 := Fr.app N106 N112q
  have hK1_ : Arv Z h107 c107 kc107 .byte (Int32.ofNat 8) ((([(99 : Int32), (111 : Int32), (110 : Int32), (102 : Int32), (108 : Int32), (105 : Int32), (99 : Int32), (116 : Int32)] : List Int32).map StrChars.lo8).map Value.int) (.int (0 : Int32)) := V107
  have hK2_ : Arv Z h107 tt kt .byte (Int32.ofNat 8) ((([(99 : Int32), (111 : Int32), (110 : Int32), (102 : Int32), (108 : Int32), (105 : Int32), (99 : Int32), (116 : Int32)] : List Int32).map StrChars.lo8).map Value.int) (.int (0 : Int32)) := K_t.ext y111.2
  obtain ⟨cq113, kq113, q113a, q113b, q113c⟩ := isOf hZ107 eq112 A107
  obtain ⟨_, _, ⟨T113, L113, k113, n113⟩, -, X113, ⟨Lc113, hQ113, l113, y113, z113⟩, st113⟩ := X112.virtualBack hx (y := (⟨"java/lang/String", "equals", "(Ljava/lang/Object;)Z"⟩ : MethodName)) (z := (⟨"java/lang/String", "equals", "(Ljava/lang/Object;)Z"⟩ : MethodName)) hown107 (mvT hZ107 (hw _ (List.mem_of_getElem? (i := 117) rfl))) (mvT hZ107 (hw _ (List.mem_of_getElem? (i := 118) rfl))) (notFace_of_selects (args := #[]) (mvT hZ107 (hw _ (List.mem_of_getElem? (i := 120) rfl)))) (mvT hZ107 (hw _ (List.mem_of_getElem? (i := 120) rfl))) (mvT hZ107 (hw _ (List.mem_of_getElem? (i := 119) rfl))) (by decide) (StrChars.Road.eqW (W := 0) hZ107 hwe (kI := 4) (hw _ (List.mem_of_getElem? (i := 10) rfl)) (cs := ([(99 : Int32), (111 : Int32), (110 : Int32), (102 : Int32), (108 : Int32), (105 : Int32), (99 : Int32), (116 : Int32)] : List Int32)) A107 Fv107 Fc107 hK1_ (StrChars.Road.codOf (cs := ([(99 : Int32), (111 : Int32), (110 : Int32), (102 : Int32), (108 : Int32), (105 : Int32), (99 : Int32), (116 : Int32)] : List Int32)) (n := 8) rfl (by decide)) (by decide) (by decide) (ds := ([(99 : Int32), (111 : Int32), (110 : Int32), (102 : Int32), (108 : Int32), (105 : Int32), (99 : Int32), (116 : Int32)] : List Int32)) (E_t.ext y111.2) (V_t.ext y111.2) (C_t.ext y111.2) hK2_ (StrChars.Road.codOf (cs := ([(99 : Int32), (111 : Int32), (110 : Int32), (102 : Int32), (108 : Int32), (105 : Int32), (99 : Int32), (116 : Int32)] : List Int32)) (n := 8) rfl (by decide)) (by decide) (by decide) (O2.ext y111.2) P5 (by decide) (by decide)) q113a q113c (g := (mkF m 139 #[.val (.int p1), .val (.int p2), .val (.int p3), .val (.int ((p1 &&& (255 : Int32)).toUInt32.toUInt16.toUInt32.toInt32)), .val (.int ((p2 &&& (255 : Int32)).toUInt32.toUInt16.toUInt32.toInt32)), .val (.int (p3 &&& (3 : Int32))), .val .null, .val (.ref r101), .val (.ref wc)] [(.ref wt), (.ref a107)])) rfl (by rw [hml]; rfl) (Steps.refl _) (argsL := [(.ref wt)]) (rest := []) (lenOf pd_Ljava_lang_Object__Z rfl) rfl (by show 2 * 0 + _ ≤ _; exact Nat.le_of_eq rfl) (hb hby at_139) (fun _ _ => ⟨rfl, eq112, (by decide : 4 + 0 ≤ _), (by decide : 2795 + 0 ≤ _)⟩)
  dsimp only [Pt.U, Pt.locs, Pt.cells, Pt.slots] at X113 l113 y113 z113 st113 hQ113
  subst l113 y113 z113
  obtain ⟨hv113, rfl, eq113⟩ := hQ113
  obtain rfl := own_or1 hv113 rfl
  have N113 := Fr.app N112 (Fr.nil n0)
  have hc142 : ¬ ((1 : Int32) = (0 : Int32)) := by decide
  have y114 := (own_excE B101 E107)
  have y116 := (B101.1.ext E107)
  obtain ⟨cq115, kq115, q115a, q115b, q115c⟩ := isOf hZ107 eq113 y116
  obtain ⟨_, _, ⟨T115, L115, k115, n115⟩, -, X115, ⟨Lc115, hQ115, l115, y115, z115⟩, st115⟩ := X113.virtualBackUp hx (x := (⟨"com/example/bill_per_call/billpercall/RequestException", "getMessage", "()Ljava/lang/String;"⟩ : MethodName)) (y := (⟨"java/lang/Throwable", "getMessage", "()Ljava/lang/String;"⟩ : MethodName)) hown107 (mvT hZ107 (hw _ (List.mem_of_getElem? (i := 125) rfl))) (mvT hZ107 (hw _ (List.mem_of_getElem? (i := 126) rfl))) (mvT hZ107 (hw _ (List.mem_of_getElem? (i := 127) rfl))) (by decide) (mvT hZ107 (hw _ (List.mem_of_getElem? (i := 129) rfl))) (mvT hZ107 (hw _ (List.mem_of_getElem? (i := 128) rfl))) (backOf (W := 0) (rmGM_n l Z a0 hw [] r101  h107 n0 y111 y114.2.2) hZ107 (hw _ (List.mem_of_getElem? (i := 130) rfl)) (hw _ (List.mem_of_getElem? (i := 53) rfl)) (by decide) (by decide)) q115a q115c (g := (mkF m 149 #[.val (.int p1), .val (.int p2), .val (.int p3), .val (.int ((p1 &&& (255 : Int32)).toUInt32.toUInt16.toUInt32.toInt32)), .val (.int ((p2 &&& (255 : Int32)).toUInt32.toUInt16.toUInt32.toInt32)), .val (.int (p3 &&& (3 : Int32))), .val .null, .val (.ref r101), .val (.ref wc)] [(.ref r101)])) rfl (by rw [hml]; rfl) (Steps.refl _) (argsL := []) (rest := []) (lenOf pd__Ljava_lang_String_ rfl) rfl (by show 2 * 0 + _ ≤ _; exact Nat.le_of_eq rfl) (hb hby at_149) (fun _ _ => ⟨rfl, eq113, (by decide : 4 + 0 ≤ _), (by decide : 2795 + 0 ≤ _)⟩)
  dsimp only [Pt.U, Pt.locs, Pt.cells, Pt.slots] at X115 l115 y115 z115 st115 hQ115
  subst l115 y115 z115
  obtain ⟨rfl, N115q, eq115⟩ := hQ115
  have N115 := Fr.app N113 N115q
  obtain ⟨fs, hr, hrun, hended, hRW⟩ := X115.leaveW hS107 (by rw [eq115]; exact hk107) (v := some (.int (1 : Int32))) (fun h => by rw [Bd.returns] at h; cases h)
  refine ⟨_, _, pre0 _ ?_, hrun, hended, _, _, rfl, ?_, hRW.1, hRW.2.1, hRW.2.2.1, hRW.2.2.2.mono (by decide) (by decide)⟩
  · show Steps p.tables e below (s₁.setTop (mkF m 0 #[.val (.int p1), .val (.int p2), .val (.int p3), .unset, .unset, .unset, .unset, .unset, .unset] [])) _
    refine XS.iloadN X0.here hx rfl (hb hby at_0) rfl ?_
    show Steps p.tables e below (s₁.setTop (mkF m 1 #[.val (.int p1), .val (.int p2), .val (.int p3), .unset, .unset, .unset, .unset, .unset, .unset] [(.int p1)])) _
    refine XS.sipush X0.here hx rfl (hb hby at_1) ?_
    show Steps p.tables e below (s₁.setTop (mkF m 4 #[.val (.int p1), .val (.int p2), .val (.int p3), .unset, .unset, .unset, .unset, .unset, .unset] [(.int (255 : Int32)), (.int p1)])) _
    refine XS.iand X0.here hx rfl (hb hby at_4) rfl ?_
    show Steps p.tables e below (s₁.setTop (mkF m 5 #[.val (.int p1), .val (.int p2), .val (.int p3), .unset, .unset, .unset, .unset, .unset, .unset] [(.int (p1 &&& (255 : Int32)))])) _
    refine XS.i2c X0.here hx rfl (hb hby at_5) rfl ?_
    show Steps p.tables e below (s₁.setTop (mkF m 6 #[.val (.int p1), .val (.int p2), .val (.int p3), .unset, .unset, .unset, .unset, .unset, .unset] [(.int ((p1 &&& (255 : Int32)).toUInt32.toUInt16.toUInt32.toInt32))])) _
    refine XS.istoreN X0.here hx rfl (hb hby at_6) rfl (l' := #[.val (.int p1), .val (.int p2), .val (.int p3), .val (.int ((p1 &&& (255 : Int32)).toUInt32.toUInt16.toUInt32.toInt32)), .unset, .unset, .unset, .unset, .unset]) rfl ?_
    show Steps p.tables e below (s₁.setTop (mkF m 7 #[.val (.int p1), .val (.int p2), .val (.int p3), .val (.int ((p1 &&& (255 : Int32)).toUInt32.toUInt16.toUInt32.toInt32)), .unset, .unset, .unset, .unset, .unset] [])) _
    refine XS.iloadN X0.here hx rfl (hb hby at_7) rfl ?_
    show Steps p.tables e below (s₁.setTop (mkF m 8 #[.val (.int p1), .val (.int p2), .val (.int p3), .val (.int ((p1 &&& (255 : Int32)).toUInt32.toUInt16.toUInt32.toInt32)), .unset, .unset, .unset, .unset, .unset] [(.int p2)])) _
    refine XS.sipush X0.here hx rfl (hb hby at_8) ?_
    show Steps p.tables e below (s₁.setTop (mkF m 11 #[.val (.int p1), .val (.int p2), .val (.int p3), .val (.int ((p1 &&& (255 : Int32)).toUInt32.toUInt16.toUInt32.toInt32)), .unset, .unset, .unset, .unset, .unset] [(.int (255 : Int32)), (.int p2)])) _
    refine XS.iand X0.here hx rfl (hb hby at_11) rfl ?_
    show Steps p.tables e below (s₁.setTop (mkF m 12 #[.val (.int p1), .val (.int p2), .val (.int p3), .val (.int ((p1 &&& (255 : Int32)).toUInt32.toUInt16.toUInt32.toInt32)), .unset, .unset, .unset, .unset, .unset] [(.int (p2 &&& (255 : Int32)))])) _
    refine XS.i2c X0.here hx rfl (hb hby at_12) rfl ?_
    show Steps p.tables e below (s₁.setTop (mkF m 13 #[.val (.int p1), .val (.int p2), .val (.int p3), .val (.int ((p1 &&& (255 : Int32)).toUInt32.toUInt16.toUInt32.toInt32)), .unset, .unset, .unset, .unset, .unset] [(.int ((p2 &&& (255 : Int32)).toUInt32.toUInt16.toUInt32.toInt32))])) _
    refine XS.istore X0.here hx rfl (hb hby at_13) rfl (l' := #[.val (.int p1), .val (.int p2), .val (.int p3), .val (.int ((p1 &&& (255 : Int32)).toUInt32.toUInt16.toUInt32.toInt32)), .val (.int ((p2 &&& (255 : Int32)).toUInt32.toUInt16.toUInt32.toInt32)), .unset, .unset, .unset, .unset]) rfl ?_
    show Steps p.tables e below (s₁.setTop (mkF m 15 #[.val (.int p1), .val (.int p2), .val (.int p3), .val (.int ((p1 &&& (255 : Int32)).toUInt32.toUInt16.toUInt32.toInt32)), .val (.int ((p2 &&& (255 : Int32)).toUInt32.toUInt16.toUInt32.toInt32)), .unset, .unset, .unset, .unset] [])) _
    refine XS.iloadN X0.here hx rfl (hb hby at_15) rfl ?_
    show Steps p.tables e below (s₁.setTop (mkF m 16 #[.val (.int p1), .val (.int p2), .val (.int p3), .val (.int ((p1 &&& (255 : Int32)).toUInt32.toUInt16.toUInt32.toInt32)), .val (.int ((p2 &&& (255 : Int32)).toUInt32.toUInt16.toUInt32.toInt32)), .unset, .unset, .unset, .unset] [(.int p3)])) _
    refine XS.iconst X0.here hx rfl (hb hby at_16) ?_
    show Steps p.tables e below (s₁.setTop (mkF m 17 #[.val (.int p1), .val (.int p2), .val (.int p3), .val (.int ((p1 &&& (255 : Int32)).toUInt32.toUInt16.toUInt32.toInt32)), .val (.int ((p2 &&& (255 : Int32)).toUInt32.toUInt16.toUInt32.toInt32)), .unset, .unset, .unset, .unset] [(.int (3 : Int32)), (.int p3)])) _
    refine XS.iand X0.here hx rfl (hb hby at_17) rfl ?_
    show Steps p.tables e below (s₁.setTop (mkF m 18 #[.val (.int p1), .val (.int p2), .val (.int p3), .val (.int ((p1 &&& (255 : Int32)).toUInt32.toUInt16.toUInt32.toInt32)), .val (.int ((p2 &&& (255 : Int32)).toUInt32.toUInt16.toUInt32.toInt32)), .unset, .unset, .unset, .unset] [(.int (p3 &&& (3 : Int32)))])) _
    refine XS.istore X0.here hx rfl (hb hby at_18) rfl (l' := #[.val (.int p1), .val (.int p2), .val (.int p3), .val (.int ((p1 &&& (255 : Int32)).toUInt32.toUInt16.toUInt32.toInt32)), .val (.int ((p2 &&& (255 : Int32)).toUInt32.toUInt16.toUInt32.toInt32)), .val (.int (p3 &&& (3 : Int32))), .unset, .unset, .unset]) rfl ?_
    show Steps p.tables e below (s₁.setTop (mkF m 20 #[.val (.int p1), .val (.int p2), .val (.int p3), .val (.int ((p1 &&& (255 : Int32)).toUInt32.toUInt16.toUInt32.toInt32)), .val (.int ((p2 &&& (255 : Int32)).toUInt32.toUInt16.toUInt32.toInt32)), .val (.int (p3 &&& (3 : Int32))), .unset, .unset, .unset] [])) _
    refine XS.iload X0.here hx rfl (hb hby at_20) rfl ?_
    show Steps p.tables e below (s₁.setTop (mkF m 22 #[.val (.int p1), .val (.int p2), .val (.int p3), .val (.int ((p1 &&& (255 : Int32)).toUInt32.toUInt16.toUInt32.toInt32)), .val (.int ((p2 &&& (255 : Int32)).toUInt32.toUInt16.toUInt32.toInt32)), .val (.int (p3 &&& (3 : Int32))), .unset, .unset, .unset] [(.int (p3 &&& (3 : Int32)))])) _
    refine XS.ifNo X0.here hx rfl (hb hby at_22) rfl ((if0 _ _).trans (teq hc22).2) ?_
    show Steps p.tables e below (s₁.setTop (mkF m 25 #[.val (.int p1), .val (.int p2), .val (.int p3), .val (.int ((p1 &&& (255 : Int32)).toUInt32.toUInt16.toUInt32.toInt32)), .val (.int ((p2 &&& (255 : Int32)).toUInt32.toUInt16.toUInt32.toInt32)), .val (.int (p3 &&& (3 : Int32))), .unset, .unset, .unset] [])) _
    refine XS.aconstNull X0.here hx rfl (hb hby at_25) ?_
    show Steps p.tables e below (s₁.setTop (mkF m 26 #[.val (.int p1), .val (.int p2), .val (.int p3), .val (.int ((p1 &&& (255 : Int32)).toUInt32.toUInt16.toUInt32.toInt32)), .val (.int ((p2 &&& (255 : Int32)).toUInt32.toUInt16.toUInt32.toInt32)), .val (.int (p3 &&& (3 : Int32))), .unset, .unset, .unset] [.null])) _
    refine XS.astore X0.here hx rfl (hb hby at_26) rfl rfl (l' := #[.val (.int p1), .val (.int p2), .val (.int p3), .val (.int ((p1 &&& (255 : Int32)).toUInt32.toUInt16.toUInt32.toInt32)), .val (.int ((p2 &&& (255 : Int32)).toUInt32.toUInt16.toUInt32.toInt32)), .val (.int (p3 &&& (3 : Int32))), .val .null, .unset, .unset]) rfl ?_
    show Steps p.tables e below (s₁.setTop (mkF m 28 #[.val (.int p1), .val (.int p2), .val (.int p3), .val (.int ((p1 &&& (255 : Int32)).toUInt32.toUInt16.toUInt32.toInt32)), .val (.int ((p2 &&& (255 : Int32)).toUInt32.toUInt16.toUInt32.toInt32)), .val (.int (p3 &&& (3 : Int32))), .val .null, .unset, .unset] [])) _
    refine XS.goto X0.here hx rfl (pc0 := 28) (pc' := 88) rfl (hb hby at_28) (by decide) (by decide) ?_
    show Steps p.tables e below (s₁.setTop (mkF m 88 #[.val (.int p1), .val (.int p2), .val (.int p3), .val (.int ((p1 &&& (255 : Int32)).toUInt32.toUInt16.toUInt32.toInt32)), .val (.int ((p2 &&& (255 : Int32)).toUInt32.toUInt16.toUInt32.toInt32)), .val (.int (p3 &&& (3 : Int32))), .val .null, .unset, .unset] [])) _
    refine XS.aload X0.here hx rfl (hb hby at_88) rfl rfl ?_
    show Steps p.tables e below (s₁.setTop (mkF m 90 #[.val (.int p1), .val (.int p2), .val (.int p3), .val (.int ((p1 &&& (255 : Int32)).toUInt32.toUInt16.toUInt32.toInt32)), .val (.int ((p2 &&& (255 : Int32)).toUInt32.toUInt16.toUInt32.toInt32)), .val (.int (p3 &&& (3 : Int32))), .val .null, .unset, .unset] [.null])) _
    refine st101 _ ?_
    show Steps p.tables e below (T101.setTop (mkF m 93 #[.val (.int p1), .val (.int p2), .val (.int p3), .val (.int ((p1 &&& (255 : Int32)).toUInt32.toUInt16.toUInt32.toInt32)), .val (.int ((p2 &&& (255 : Int32)).toUInt32.toUInt16.toUInt32.toInt32)), .val (.int (p3 &&& (3 : Int32))), .val .null, .unset, .unset] [(.ref r101)])) _
    refine XS.astore X101.here hx rfl (hb hby at_93) rfl rfl (l' := #[.val (.int p1), .val (.int p2), .val (.int p3), .val (.int ((p1 &&& (255 : Int32)).toUInt32.toUInt16.toUInt32.toInt32)), .val (.int ((p2 &&& (255 : Int32)).toUInt32.toUInt16.toUInt32.toInt32)), .val (.int (p3 &&& (3 : Int32))), .val .null, .val (.ref r101), .unset]) rfl ?_
    show Steps p.tables e below (T101.setTop (mkF m 95 #[.val (.int p1), .val (.int p2), .val (.int p3), .val (.int ((p1 &&& (255 : Int32)).toUInt32.toUInt16.toUInt32.toInt32)), .val (.int ((p2 &&& (255 : Int32)).toUInt32.toUInt16.toUInt32.toInt32)), .val (.int (p3 &&& (3 : Int32))), .val .null, .val (.ref r101), .unset] [])) _
    refine XS.aload X101.here hx rfl (hb hby at_95) rfl rfl ?_
    show Steps p.tables e below (T101.setTop (mkF m 97 #[.val (.int p1), .val (.int p2), .val (.int p3), .val (.int ((p1 &&& (255 : Int32)).toUInt32.toUInt16.toUInt32.toInt32)), .val (.int ((p2 &&& (255 : Int32)).toUInt32.toUInt16.toUInt32.toInt32)), .val (.int (p3 &&& (3 : Int32))), .val .null, .val (.ref r101), .unset] [(.ref r101)])) _
    refine XS.ifnonnullYes X101.here hx rfl (pc0 := 97) (pc' := 102) rfl (hb hby at_97) rfl (by decide) (by decide) ?_
    show Steps p.tables e below (T101.setTop (mkF m 102 #[.val (.int p1), .val (.int p2), .val (.int p3), .val (.int ((p1 &&& (255 : Int32)).toUInt32.toUInt16.toUInt32.toInt32)), .val (.int ((p2 &&& (255 : Int32)).toUInt32.toUInt16.toUInt32.toInt32)), .val (.int (p3 &&& (3 : Int32))), .val .null, .val (.ref r101), .unset] [])) _
    refine XS.aload X101.here hx rfl (hb hby at_102) rfl rfl ?_
    show Steps p.tables e below (T101.setTop (mkF m 104 #[.val (.int p1), .val (.int p2), .val (.int p3), .val (.int ((p1 &&& (255 : Int32)).toUInt32.toUInt16.toUInt32.toInt32)), .val (.int ((p2 &&& (255 : Int32)).toUInt32.toUInt16.toUInt32.toInt32)), .val (.int (p3 &&& (3 : Int32))), .val .null, .val (.ref r101), .unset] [(.ref r101)])) _
    refine st104.trans ?_
    show Steps p.tables e below (T104.setTop (mkF m 107 #[.val (.int p1), .val (.int p2), .val (.int p3), .val (.int ((p1 &&& (255 : Int32)).toUInt32.toUInt16.toUInt32.toInt32)), .val (.int ((p2 &&& (255 : Int32)).toUInt32.toUInt16.toUInt32.toInt32)), .val (.int (p3 &&& (3 : Int32))), .val .null, .val (.ref r101), .unset] [(.ref wc)])) _
    refine XS.astore X104.here hx rfl (hb hby at_107) rfl rfl (l' := #[.val (.int p1), .val (.int p2), .val (.int p3), .val (.int ((p1 &&& (255 : Int32)).toUInt32.toUInt16.toUInt32.toInt32)), .val (.int ((p2 &&& (255 : Int32)).toUInt32.toUInt16.toUInt32.toInt32)), .val (.int (p3 &&& (3 : Int32))), .val .null, .val (.ref r101), .val (.ref wc)]) rfl ?_
    show Steps p.tables e below (T104.setTop (mkF m 109 #[.val (.int p1), .val (.int p2), .val (.int p3), .val (.int ((p1 &&& (255 : Int32)).toUInt32.toUInt16.toUInt32.toInt32)), .val (.int ((p2 &&& (255 : Int32)).toUInt32.toUInt16.toUInt32.toInt32)), .val (.int (p3 &&& (3 : Int32))), .val .null, .val (.ref r101), .val (.ref wc)] [])) _
    refine XS.aload X104.here hx rfl (hb hby at_109) rfl rfl ?_
    show Steps p.tables e below (T104.setTop (mkF m 111 #[.val (.int p1), .val (.int p2), .val (.int p3), .val (.int ((p1 &&& (255 : Int32)).toUInt32.toUInt16.toUInt32.toInt32)), .val (.int ((p2 &&& (255 : Int32)).toUInt32.toUInt16.toUInt32.toInt32)), .val (.int (p3 &&& (3 : Int32))), .val .null, .val (.ref r101), .val (.ref wc)] [(.ref wc)])) _
    refine st105 _ ?_
    show Steps p.tables e below (T105.setTop (mkF m 114 #[.val (.int p1), .val (.int p2), .val (.int p3), .val (.int ((p1 &&& (255 : Int32)).toUInt32.toUInt16.toUInt32.toInt32)), .val (.int ((p2 &&& (255 : Int32)).toUInt32.toUInt16.toUInt32.toInt32)), .val (.int (p3 &&& (3 : Int32))), .val .null, .val (.ref r101), .val (.ref wc)] [(.ref wc), (.ref wc)])) _
    refine Jvm.RoadKit.acmp (g := (mkF m 114 #[.val (.int p1), .val (.int p2), .val (.int p3), .val (.int ((p1 &&& (255 : Int32)).toUInt32.toUInt16.toUInt32.toInt32)), .val (.int ((p2 &&& (255 : Int32)).toUInt32.toUInt16.toUInt32.toInt32)), .val (.int (p3 &&& (3 : Int32))), .val .null, .val (.ref r101), .val (.ref wc)] [(.ref wc), (.ref wc)])) X105 hx rfl rfl rfl (pc0 := 114) (pc' := 119) (same := true) rfl (hb hby at_114) rfl (decide_eq_true rfl) (by decide) (by decide) ?_
    show Steps p.tables e below (T105.setTop (mkF m 119 #[.val (.int p1), .val (.int p2), .val (.int p3), .val (.int ((p1 &&& (255 : Int32)).toUInt32.toUInt16.toUInt32.toInt32)), .val (.int ((p2 &&& (255 : Int32)).toUInt32.toUInt16.toUInt32.toInt32)), .val (.int (p3 &&& (3 : Int32))), .val .null, .val (.ref r101), .val (.ref wc)] [])) _
    refine XS.aload X105.here hx rfl (hb hby at_119) rfl rfl ?_
    show Steps p.tables e below (T105.setTop (mkF m 121 #[.val (.int p1), .val (.int p2), .val (.int p3), .val (.int ((p1 &&& (255 : Int32)).toUInt32.toUInt16.toUInt32.toInt32)), .val (.int ((p2 &&& (255 : Int32)).toUInt32.toUInt16.toUInt32.toInt32)), .val (.int (p3 &&& (3 : Int32))), .val .null, .val (.ref r101), .val (.ref wc)] [(.ref wc)])) _
    refine st106.trans ?_
    show Steps p.tables e below (T106.setTop (mkF m 124 #[.val (.int p1), .val (.int p2), .val (.int p3), .val (.int ((p1 &&& (255 : Int32)).toUInt32.toUInt16.toUInt32.toInt32)), .val (.int ((p2 &&& (255 : Int32)).toUInt32.toUInt16.toUInt32.toInt32)), .val (.int (p3 &&& (3 : Int32))), .val .null, .val (.ref r101), .val (.ref wc)] [(.int (409 : Int32))])) _
    refine XS.sipush X106.here hx rfl (hb hby at_124) ?_
    show Steps p.tables e below (T106.setTop (mkF m 127 #[.val (.int p1), .val (.int p2), .val (.int p3), .val (.int ((p1 &&& (255 : Int32)).toUInt32.toUInt16.toUInt32.toInt32)), .val (.int ((p2 &&& (255 : Int32)).toUInt32.toUInt16.toUInt32.toInt32)), .val (.int (p3 &&& (3 : Int32))), .val .null, .val (.ref r101), .val (.ref wc)] [(.int (409 : Int32)), (.int (409 : Int32))])) _
    refine XS.icmpYes X106.here hx rfl (pc0 := 127) (pc' := 132) rfl (hb hby at_127) rfl (teq (rfl : (409 : Int32) = (409 : Int32))).1 (by decide) (by decide) ?_
    show Steps p.tables e below (T106.setTop (mkF m 132 #[.val (.int p1), .val (.int p2), .val (.int p3), .val (.int ((p1 &&& (255 : Int32)).toUInt32.toUInt16.toUInt32.toInt32)), .val (.int ((p2 &&& (255 : Int32)).toUInt32.toUInt16.toUInt32.toInt32)), .val (.int (p3 &&& (3 : Int32))), .val .null, .val (.ref r101), .val (.ref wc)] [])) _
    refine st107 _ ?_
    show Steps p.tables e below (T107.setTop (mkF m 134 #[.val (.int p1), .val (.int p2), .val (.int p3), .val (.int ((p1 &&& (255 : Int32)).toUInt32.toUInt16.toUInt32.toInt32)), .val (.int ((p2 &&& (255 : Int32)).toUInt32.toUInt16.toUInt32.toInt32)), .val (.int (p3 &&& (3 : Int32))), .val .null, .val (.ref r101), .val (.ref wc)] [(.ref a107)])) _
    refine XS.aload X107.here hx rfl (hb hby at_134) rfl rfl ?_
    show Steps p.tables e below (T107.setTop (mkF m 136 #[.val (.int p1), .val (.int p2), .val (.int p3), .val (.int ((p1 &&& (255 : Int32)).toUInt32.toUInt16.toUInt32.toInt32)), .val (.int ((p2 &&& (255 : Int32)).toUInt32.toUInt16.toUInt32.toInt32)), .val (.int (p3 &&& (3 : Int32))), .val .null, .val (.ref r101), .val (.ref wc)] [(.ref wc), (.ref a107)])) _
    refine st112.trans ?_
    show Steps p.tables e below (T112.setTop (mkF m 139 #[.val (.int p1), .val (.int p2), .val (.int p3), .val (.int ((p1 &&& (255 : Int32)).toUInt32.toUInt16.toUInt32.toInt32)), .val (.int ((p2 &&& (255 : Int32)).toUInt32.toUInt16.toUInt32.toInt32)), .val (.int (p3 &&& (3 : Int32))), .val .null, .val (.ref r101), .val (.ref wc)] [(.ref wt), (.ref a107)])) _
    refine st113.trans ?_
    show Steps p.tables e below (T113.setTop (mkF m 142 #[.val (.int p1), .val (.int p2), .val (.int p3), .val (.int ((p1 &&& (255 : Int32)).toUInt32.toUInt16.toUInt32.toInt32)), .val (.int ((p2 &&& (255 : Int32)).toUInt32.toUInt16.toUInt32.toInt32)), .val (.int (p3 &&& (3 : Int32))), .val .null, .val (.ref r101), .val (.ref wc)] [(.int (1 : Int32))])) _
    refine XS.ifYes X113.here hx rfl (pc0 := 142) (pc' := 147) rfl (hb hby at_142) rfl ((if0 _ _).trans (feq hc142).2) (by decide) (by decide) ?_
    show Steps p.tables e below (T113.setTop (mkF m 147 #[.val (.int p1), .val (.int p2), .val (.int p3), .val (.int ((p1 &&& (255 : Int32)).toUInt32.toUInt16.toUInt32.toInt32)), .val (.int ((p2 &&& (255 : Int32)).toUInt32.toUInt16.toUInt32.toInt32)), .val (.int (p3 &&& (3 : Int32))), .val .null, .val (.ref r101), .val (.ref wc)] [])) _
    refine XS.aload X113.here hx rfl (hb hby at_147) rfl rfl ?_
    show Steps p.tables e below (T113.setTop (mkF m 149 #[.val (.int p1), .val (.int p2), .val (.int p3), .val (.int ((p1 &&& (255 : Int32)).toUInt32.toUInt16.toUInt32.toInt32)), .val (.int ((p2 &&& (255 : Int32)).toUInt32.toUInt16.toUInt32.toInt32)), .val (.int (p3 &&& (3 : Int32))), .val .null, .val (.ref r101), .val (.ref wc)] [(.ref r101)])) _
    refine st115.trans ?_
    show Steps p.tables e below (T115.setTop (mkF m 152 #[.val (.int p1), .val (.int p2), .val (.int p3), .val (.int ((p1 &&& (255 : Int32)).toUInt32.toUInt16.toUInt32.toInt32)), .val (.int ((p2 &&& (255 : Int32)).toUInt32.toUInt16.toUInt32.toInt32)), .val (.int (p3 &&& (3 : Int32))), .val .null, .val (.ref r101), .val (.ref wc)] [.null])) _
    refine XS.aload X115.here hx rfl (hb hby at_152) rfl rfl ?_
    show Steps p.tables e below (T115.setTop (mkF m 154 #[.val (.int p1), .val (.int p2), .val (.int p3), .val (.int ((p1 &&& (255 : Int32)).toUInt32.toUInt16.toUInt32.toInt32)), .val (.int ((p2 &&& (255 : Int32)).toUInt32.toUInt16.toUInt32.toInt32)), .val (.int (p3 &&& (3 : Int32))), .val .null, .val (.ref r101), .val (.ref wc)] [.null, .null])) _
    refine Jvm.RoadKit.acmp (g := (mkF m 154 #[.val (.int p1), .val (.int p2), .val (.int p3), .val (.int ((p1 &&& (255 : Int32)).toUInt32.toUInt16.toUInt32.toInt32)), .val (.int ((p2 &&& (255 : Int32)).toUInt32.toUInt16.toUInt32.toInt32)), .val (.int (p3 &&& (3 : Int32))), .val .null, .val (.ref r101), .val (.ref wc)] [.null, .null])) X115 hx rfl rfl rfl (pc0 := 154) (pc' := 157) (same := true) rfl (hb hby at_154) rfl (decide_eq_true rfl) (by decide) (by decide) ?_
    show Steps p.tables e below (T115.setTop (mkF m 157 #[.val (.int p1), .val (.int p2), .val (.int p3), .val (.int ((p1 &&& (255 : Int32)).toUInt32.toUInt16.toUInt32.toInt32)), .val (.int ((p2 &&& (255 : Int32)).toUInt32.toUInt16.toUInt32.toInt32)), .val (.int (p3 &&& (3 : Int32))), .val .null, .val (.ref r101), .val (.ref wc)] [])) _
    refine XS.iconst X115.here hx rfl (hb hby at_157) ?_
    show Steps p.tables e below (T115.setTop (mkF m 158 #[.val (.int p1), .val (.int p2), .val (.int p3), .val (.int ((p1 &&& (255 : Int32)).toUInt32.toUInt16.toUInt32.toInt32)), .val (.int ((p2 &&& (255 : Int32)).toUInt32.toUInt16.toUInt32.toInt32)), .val (.int (p3 &&& (3 : Int32))), .val .null, .val (.ref r101), .val (.ref wc)] [(.int (1 : Int32))])) _
    refine XS.goto X115.here hx rfl (pc0 := 158) (pc' := 162) rfl (hb hby at_158) (by decide) (by decide) ?_
    show Steps p.tables e below (T115.setTop (mkF m 162 #[.val (.int p1), .val (.int p2), .val (.int p3), .val (.int ((p1 &&& (255 : Int32)).toUInt32.toUInt16.toUInt32.toInt32)), .val (.int ((p2 &&& (255 : Int32)).toUInt32.toUInt16.toUInt32.toInt32)), .val (.int (p3 &&& (3 : Int32))), .val .null, .val (.ref r101), .val (.ref wc)] [(.int (1 : Int32))])) _
    exact retN X115 hx (t := .boolean) Bd.returns (by simp) (hb hby at_162) hr
  · show Q0 h0 n0 _ T115.heap _
    rw [eq115]
    exact ⟨rfl, N115⟩
set_option maxRecDepth 65536 in
set_option maxHeartbeats 40000000 in
theorem rm0_1 (l : Launch) (Z : State) (a0 : Array Value) (hw : ∀ d ∈ tables_1, d.before a0 Z = true) (ws : List Jvm.Cond) (p1 : Int32) (p2 : Int32) (p3 : Int32) (wc : Addr) (wt : Addr) (tt : Addr) (kt : ClassId) (G1 : Int32) (h0 : Heap) (n0 : Nat) (X00 : Old Z n0 h0) (hl : l.stackTraces = true) (hr2 : ∀ d ∈ twoRefs, d.before a0 Z = true) (S_c : Sta Z Z.heap EC "CONFLICT" ECD (.ref wc)) (O2 : Sta Z Z.heap ST "COMPACT_STRINGS" "Z" (.int G1)) (P5 : ¬ (G1 = (0 : Int32))) (F_s : Fld Z Z.heap wc EC "status" "I" (.int (409 : Int32))) (F_t : Fld Z Z.heap wc EC "code" "Ljava/lang/String;" (.ref wt)) (E_c : Exa Z Z.heap wc EC) (E_t : Exa Z Z.heap wt ST) (C_t : Fld Z Z.heap wt ST "coder" "B" (.int (0 : Int32))) (V_t : Fld Z Z.heap wt ST "value" "[B" (.ref tt)) (K_t : Arv Z Z.heap tt kt .byte (8 : Int32) [(.int (99 : Int32)), (.int (111 : Int32)), (.int (110 : Int32)), (.int (102 : Int32)), (.int (108 : Int32)), (.int (105 : Int32)), (.int (99 : Int32)), (.int (116 : Int32))] (.int (0 : Int32))) (hk_ : (p3 &&& (3 : Int32)) = (1 : Int32)) :
    MetFree l x (head1 (Jvm.Cond.code x code maxLocals ret :: ws) room_1) (fun a U => a = #[(.int p1), (.int p2), (.int p3)] ∧ Z.Warmed39 U.vm ∧ U.heap = h0 ∧ CHv Z consts_1 U.vm h0) (fun _ _ bl s _ => s.vm.MethodsKnown ∧ s.vm.FramesKnown bl) (fun _ U o U' => ∃ rv rL, o = .returned rv ∧ Q0 h0 n0 rv U'.heap rL ∧ ReturnedEndW U o U' rL room_1.cells room_1.slots) := by
  refine MetFree.of_bodySF (plainFor_of_name pn_0) hisR ?_
  intro p e s m args below meth c s₁ Bd hml0 hP hK
  obtain ⟨rfl, hZ, hh, hCH⟩ := hP
  have hx := Bd.exec
  have hby := Bd.bytes
  have hml : c.maxLocals = 9 := hml0
  have hown : s.vm.findClass "com/example/bill_per_call/billpercall/RequestExceptionConflictPinLaw" = some m.cls := findClass_of_methodNamed Bd.named
  have hnm := (name_of_methodNamed Bd.named Bd.method).1
  have X0 : Stand p l e room_1 (s.setVm s.vm) m #[(.int p1), (.int p2), (.int p3)] below meth c s₁ [] 0 0 := Stand.of_body Bd
  have e0 : s₁.heap = h0 := by rw [← hh, Bd.state]; rfl
  have N0 := Fr.nil n0
  have hS0 : s.Since s.vm s.heap.size := own_since s
  have hk0 : s.heap.size ≤ h0.size := by rw [hh]; exact Nat.le_refl _
  have hstr := own_str hw
  have hEL := own_EL hw
  have pre0 : ∀ t, Steps p.tables e below (s₁.setTop (mkF m 0 #[.val (.int p1), .val (.int p2), .val (.int p3), .unset, .unset, .unset, .unset, .unset, .unset] [])) t → Steps p.tables e below (s₁.setTop (entryFrame m #[(.int p1), (.int p2), (.int p3)] maxLocals)) t := fun t k => castTop (ef_0 m p1 p2 p3) k
  have hwe : ∀ d ∈ StrChars.Road.wordsEq, d.before a0 Z = true := fun d hd => hw d ((by decide +kernel : ∀ d ∈ StrChars.Road.wordsEq, d ∈ tables_1) d hd)
  have hc22 : ¬ ((p3 &&& (3 : Int32)) = (0 : Int32)) := by rw [hk_]; decide
  have hc34 : (p3 &&& (3 : Int32)) = (1 : Int32) := hk_
  obtain ⟨T101, h101, X101, e101, E101, A101, D101, U101, st101⟩ := newO X0 hx hZ hown (hw _ (List.mem_of_getElem? (i := 131) rfl)) (hw _ (List.mem_of_getElem? (i := 10) rfl)) (hw _ (List.mem_of_getElem? (i := 2) rfl)) e0 (g := (mkF m 37 #[.val (.int p1), .val (.int p2), .val (.int p3), .val (.int ((p1 &&& (255 : Int32)).toUInt32.toUInt16.toUInt32.toInt32)), .val (.int ((p2 &&& (255 : Int32)).toUInt32.toUInt16.toUInt32.toInt32)), .val (.int (p3 &&& (3 : Int32))), .unset, .unset, .unset] [])) rfl (hb hby at_37) (by decide) (by decide)
  obtain ⟨b101, g101⟩ : ∃ z, z = h0.size := ⟨_, rfl⟩
  rw [← g101] at A101 D101 U101 st101
  have g_b101 : n0 ≤ b101 := Nat.le_trans (own_le X00) (Nat.le_of_eq g101.symm)
  have sn101 : Safe Z consts_1 s.vm h0 b101 := Safe.new (Nat.le_of_eq g101.symm)
  have sf102_b101 := Safe.ext E101 hCH sn101
  have cr102 := (CHr.refl hCH).trans (CHr.ext E101 hCH)
  have ch102 := CHv.ext E101 hCH
  have F101_value : Fld Z h101 b101 "java/lang/String" "value" "[B" .null := D101 (Or.inr (hw _ (List.mem_of_getElem? (i := 23) rfl))) (ty := (.array .byte)) (by decide)
  have F101_coder : Fld Z h101 b101 "java/lang/String" "coder" "B" (.int (0 : Int32)) := D101 (Or.inr (hw _ (List.mem_of_getElem? (i := 25) rfl))) (ty := .byte) (by decide)
  have lz103_b101 := A101.lt
  obtain ⟨T103, h103, k103, X103, e103, E103, A103, st103⟩ := newP X101 hx hZ (hw _ (List.mem_of_getElem? (i := 132) rfl)) e101 (g := (mkF m 42 #[.val (.int p1), .val (.int p2), .val (.int p3), .val (.int ((p1 &&& (255 : Int32)).toUInt32.toUInt16.toUInt32.toInt32)), .val (.int ((p2 &&& (255 : Int32)).toUInt32.toUInt16.toUInt32.toInt32)), .val (.int (p3 &&& (3 : Int32))), .unset, .unset, .unset] [(.int (0 : Int32)), (.ref b101), (.ref b101)])) rfl (hb hby at_42) rfl (by decide) (cap := 0) (by decide) (by decide) (by decide) (by decide)
  obtain ⟨b103, g103⟩ : ∃ z, z = h101.size := ⟨_, rfl⟩
  rw [← g103] at A103 st103
  have y104 := (X00.ext E101)
  have g_b103 : n0 ≤ b103 := Nat.le_trans (own_le y104) (Nat.le_of_eq g103.symm)
  have lt_b101_b103 : b101 < b103 := Nat.lt_of_lt_of_le lz103_b101 (Nat.le_of_eq g103.symm)
  have sn103 : Safe Z consts_1 s.vm h101 b103 := Safe.new (Nat.le_of_eq g103.symm)
  have V103 : Arv Z h103 b103 k103 .char (0 : Int32) [] (.int (0 : Int32)) := Arv.new A103 (by decide)
  have sf105_b101 := Safe.ext E103 ch102 sf102_b101
  have sf105_b103 := Safe.ext E103 ch102 sn103
  have cr105 := cr102.trans (CHr.ext E103 ch102)
  have ch105 := CHv.ext E103 ch102
  have y106 := (y104.ext E103)
  have y107 := (A101.ext E103)
  have y108 := (F101_value.ext E103)
  have y109 := (F101_coder.ext E103)
  have lz110_b101 := y107.lt
  have lz110_b103 := V103.lt
  obtain ⟨_, _, ⟨T110, L110, k110, n110⟩, -, X110, hs110, hg110, ⟨Lc110, hQ110, l110, y110, z110, R110⟩, st110⟩ := X103.specialBackS hx (y := (⟨"java/lang/String", "<init>", "([C)V"⟩ : MethodName)) rfl hown (mvT hZ (hw _ (List.mem_of_getElem? (i := 133) rfl))) (mvT hZ (hw _ (List.mem_of_getElem? (i := 134) rfl))) (mvT hZ (hw _ (List.mem_of_getElem? (i := 135) rfl))) (by decide) (backOfSH (W := 1) (rmS0 l Z a0 hw [] b101 b103 k103 (.int (0 : Int32)) h103 n0 y106 y107 y108 y109 g_b101 V103) hZ (hw _ (List.mem_of_getElem? (i := 135) rfl)) (hw _ (List.mem_of_getElem? (i := 2) rfl)) (by decide) (by decide) hEL ch105) (g := (mkF m 44 #[.val (.int p1), .val (.int p2), .val (.int p3), .val (.int ((p1 &&& (255 : Int32)).toUInt32.toUInt16.toUInt32.toInt32)), .val (.int ((p2 &&& (255 : Int32)).toUInt32.toUInt16.toUInt32.toInt32)), .val (.int (p3 &&& (3 : Int32))), .unset, .unset, .unset] [(.ref b103), (.ref b101), (.ref b101)])) rfl (by rw [hml]; rfl) (Steps.refl _) (a := b101) (argsL := [(.ref b103)]) (rest := [(.ref b101)]) (lenOf pd_AC_V rfl) rfl (by show 2 * 0 + _ ≤ _; exact Nat.le_of_eq rfl) (hb hby at_44) (fun _ _ => ⟨rfl, e103, (by decide : 2 + 4 ≤ _), (by decide : 4 + 8 ≤ _)⟩)
  dsimp only [Pt.U, Pt.locs, Pt.cells, Pt.slots] at X110 l110 y110 z110 st110 hQ110 hs110 hg110 R110
  subst l110 y110 z110
  obtain ⟨rfl, N110q, Kc110⟩ := hQ110
  have N110 := Fr.app N0 N110q
  have y111 := (Nat.le_trans (Nat.le_trans hk0 E101.1) E103.1)
  obtain ⟨X110r, hS110, hZ110, hown110⟩ := rebS hS0 (by rw [e103]; exact y111) X110 hs110 hg110 hZ hown
  have tk112 := Vm.MethodsKnown.alikeC (own_al hS110) hK.1
  have bk112 := Vm.FramesKnown.alikeC (own_al hS110) hK.2
  have sf113_b101 := R110.safe lz110_b101 sf105_b101
  have sf113_b103 := R110.safe lz110_b103 sf105_b103
  have cr113 := cr105.trans R110
  have ch113 := R110.1
  have y114 := (y106.keep Kc110 (allS g_b101 all0))
  obtain ⟨_, _, ⟨T115, L115, k115, n115⟩, -, X115, ⟨Lc115, hQ115, l115, y115, z115⟩, st115⟩ := Jvm.LawKit.callS X110r hx (y := (⟨"com/example/bill_per_call/billpercall/RequestException", "conflict", "(Ljava/lang/String;)Lcom/example/bill_per_call/billpercall/RequestException;"⟩ : MethodName)) hown110 (mvT hZ110 (hw _ (List.mem_of_getElem? (i := 26) rfl))) (mvT hZ110 (hw _ (List.mem_of_getElem? (i := 27) rfl))) (mvT hZ110 (hw _ (List.mem_of_getElem? (i := 28) rfl))) (mvT hZ110 (hw _ (List.mem_of_getElem? (i := 29) rfl))) (by decide) (backOfKL (W := 0) (rmCf_r l Z a0 hw [] b101 wc T110.heap n0 y114 hl hr2 S_c) hZ110 (hw _ (List.mem_of_getElem? (i := 29) rfl)) (hw _ (List.mem_of_getElem? (i := 28) rfl)) (by decide) (by decide) tk112 bk112) (g := (mkF m 90 #[.val (.int p1), .val (.int p2), .val (.int p3), .val (.int ((p1 &&& (255 : Int32)).toUInt32.toUInt16.toUInt32.toInt32)), .val (.int ((p2 &&& (255 : Int32)).toUInt32.toUInt16.toUInt32.toInt32)), .val (.int (p3 &&& (3 : Int32))), .val (.ref b101), .unset, .unset] [(.ref b101)])) rfl (by rw [hml]; rfl) (argsL := [(.ref b101)]) (rest := []) (lenOf pd_Ljava_lang_String__Lcom_example_bill_per_call_billpercall_RequestException_ rfl) rfl (by show 2 * 0 + _ ≤ _; exact Nat.le_of_eq rfl) (hb hby at_90) (fun _ _ => ⟨rfl, rfl, (by decide : 6 + 2 ≤ _), (by decide : 12 + 2759 ≤ _)⟩)
  dsimp only [Pt.U, Pt.locs, Pt.cells, Pt.slots] at X115 l115 y115 z115 st115 hQ115
  subst l115 y115 z115
  obtain ⟨r115, rfl, N115q, Kc115, B115⟩ := hQ115
  have N115 := Fr.app N110 N115q
  have hs116_ : ∀ x ∈ ([] : List Addr), Safe Z consts_1 T110.vm T110.heap x := all0
  have sf116_b101 := Safe.keep Kc115 hs116_ ch113 sf113_b101
  have sf116_b103 := Safe.keep Kc115 hs116_ ch113 sf113_b103
  have cr116 := cr113.trans (CHr.keep Kc115 hs116_ ch113)
  have ch116 := CHv.keep Kc115 hs116_ ch113
  have y117 := (y114.keep Kc115 all0)
  obtain ⟨cq118, kq118, q118a, q118b, q118c⟩ := isOf hZ110 rfl B115.1
  obtain ⟨_, _, ⟨T118, L118, k118, n118⟩, -, X118, ⟨Lc118, hQ118, l118, y118, z118⟩, st118⟩ := X115.virtualBack hx (y := (⟨"com/example/bill_per_call/billpercall/RequestException", "code", "()Lcom/example/bill_per_call/billpercall/ErrorCode;"⟩ : MethodName)) (z := (⟨"com/example/bill_per_call/billpercall/RequestException", "code", "()Lcom/example/bill_per_call/billpercall/ErrorCode;"⟩ : MethodName)) hown110 (mvT hZ110 (hw _ (List.mem_of_getElem? (i := 94) rfl))) (mvT hZ110 (hw _ (List.mem_of_getElem? (i := 95) rfl))) (notFace_of_selects (args := #[]) (mvT hZ110 (hw _ (List.mem_of_getElem? (i := 97) rfl)))) (mvT hZ110 (hw _ (List.mem_of_getElem? (i := 97) rfl))) (mvT hZ110 (hw _ (List.mem_of_getElem? (i := 96) rfl))) (by decide) (backOf (W := 0) (rmCo l Z a0 hw [] r115 wc T115.heap n0 y117 B115.2.1) hZ110 (hw _ (List.mem_of_getElem? (i := 98) rfl)) (hw _ (List.mem_of_getElem? (i := 28) rfl)) (by decide) (by decide)) q118a q118c (g := (mkF m 104 #[.val (.int p1), .val (.int p2), .val (.int p3), .val (.int ((p1 &&& (255 : Int32)).toUInt32.toUInt16.toUInt32.toInt32)), .val (.int ((p2 &&& (255 : Int32)).toUInt32.toUInt16.toUInt32.toInt32)), .val (.int (p3 &&& (3 : Int32))), .val (.ref b101), .val (.ref r115), .unset] [(.ref r115)])) rfl (by rw [hml]; rfl) (Steps.refl _) (argsL := []) (rest := []) (lenOf pd__Lcom_example_bill_per_call_billpercall_ErrorCode_ rfl) rfl (by show 2 * 0 + _ ≤ _; exact Nat.le_of_eq rfl) (hb hby at_104) (fun _ _ => ⟨rfl, rfl, (by decide : 8 + 0 ≤ _), (by decide : 2771 + 0 ≤ _)⟩)
  dsimp only [Pt.U, Pt.locs, Pt.cells, Pt.slots] at X118 l118 y118 z118 st118 hQ118
  subst l118 y118 z118
  obtain ⟨rfl, N118q, eq118⟩ := hQ118
  have N118 := Fr.app N115 N118q
  obtain ⟨T119, X119, e119, st119⟩ := getS2 X118 hx hZ110 hown110 (host := "") (Or.inl (hw _ (List.mem_of_getElem? (i := 99) rfl))) Via.refl eq118 (S_c.ext y117.2) (g := (mkF m 111 #[.val (.int p1), .val (.int p2), .val (.int p3), .val (.int ((p1 &&& (255 : Int32)).toUInt32.toUInt16.toUInt32.toInt32)), .val (.int ((p2 &&& (255 : Int32)).toUInt32.toUInt16.toUInt32.toInt32)), .val (.int (p3 &&& (3 : Int32))), .val (.ref b101), .val (.ref r115), .val (.ref wc)] [(.ref wc)])) rfl (hb hby at_111)
  obtain ⟨cq120, kq120, q120a, q120b, q120c⟩ := isOf hZ110 e119 (E_c.ext y117.2)
  obtain ⟨_, _, ⟨T120, L120, k120, n120⟩, -, X120, ⟨Lc120, hQ120, l120, y120, z120⟩, st120⟩ := X119.virtualBack hx (y := (⟨"com/example/bill_per_call/billpercall/ErrorCode", "status", "()I"⟩ : MethodName)) (z := (⟨"com/example/bill_per_call/billpercall/ErrorCode", "status", "()I"⟩ : MethodName)) hown110 (mvT hZ110 (hw _ (List.mem_of_getElem? (i := 100) rfl))) (mvT hZ110 (hw _ (List.mem_of_getElem? (i := 101) rfl))) (notFace_of_selects (args := #[]) (mvT hZ110 (hw _ (List.mem_of_getElem? (i := 103) rfl)))) (mvT hZ110 (hw _ (List.mem_of_getElem? (i := 103) rfl))) (mvT hZ110 (hw _ (List.mem_of_getElem? (i := 102) rfl))) (by decide) (backOf (W := 0) (rmEs l Z a0 hw [] wc (409 : Int32) T115.heap n0 y117 (F_s.ext y117.2)) hZ110 (hw _ (List.mem_of_getElem? (i := 104) rfl)) (hw _ (List.mem_of_getElem? (i := 33) rfl)) (by decide) (by decide)) q120a q120c (g := (mkF m 121 #[.val (.int p1), .val (.int p2), .val (.int p3), .val (.int ((p1 &&& (255 : Int32)).toUInt32.toUInt16.toUInt32.toInt32)), .val (.int ((p2 &&& (255 : Int32)).toUInt32.toUInt16.toUInt32.toInt32)), .val (.int (p3 &&& (3 : Int32))), .val (.ref b101), .val (.ref r115), .val (.ref wc)] [(.ref wc)])) rfl (by rw [hml]; rfl) (Steps.refl _) (argsL := []) (rest := []) (lenOf pd__I rfl) rfl (by show 2 * 0 + _ ≤ _; exact Nat.le_of_eq rfl) (hb hby at_121) (fun _ _ => ⟨rfl, e119, (by decide : 8 + 0 ≤ _), (by decide : 2771 + 0 ≤ _)⟩)
  dsimp only [Pt.U, Pt.locs, Pt.cells, Pt.slots] at X120 l120 y120 z120 st120 hQ120
  subst l120 y120 z120
  obtain ⟨rfl, N120q, eq120⟩ := hQ120
  have N120 := Fr.app N118 N120q
  have y122 := ((y107.keep Kc110).keep Kc115)
  have lz121_b101 := y122.lt
  have y123 := ((V103.keep Kc110 (own_nmc (Ne.symm (Nat.ne_of_lt lt_b101_b103)) own_nm0)).keep Kc115 own_nm0)
  have lz121_b103 := y123.lt
  have lz121_r115 := B115.1.lt
  have y124 := (Nat.le_trans (Nat.le_refl _) Kc115.1)
  obtain ⟨a121, T121, h121, k121, c121, kc121, X121, e121, E121, hS121, hk121, hZ121, hown121, A121, Fc121, Fv121, V121, la121, lc121, R121, -, ns121, st121⟩ := ldcCH (z := (8 : Int32)) (vs := [(.int (99 : Int32)), (.int (111 : Int32)), (.int (110 : Int32)), (.int (102 : Int32)), (.int (108 : Int32)), (.int (105 : Int32)), (.int (99 : Int32)), (.int (116 : Int32))]) X120 hx hZ110 hown110 (hw _ (List.mem_of_getElem? (i := 107) rfl)) hstr eq120 hS110 y124 hEL (by decide) ch116 ⟨by decide, by decide⟩ (by decide) (by decide) (g := (mkF m 132 #[.val (.int p1), .val (.int p2), .val (.int p3), .val (.int ((p1 &&& (255 : Int32)).toUInt32.toUInt16.toUInt32.toInt32)), .val (.int ((p2 &&& (255 : Int32)).toUInt32.toUInt16.toUInt32.toInt32)), .val (.int (p3 &&& (3 : Int32))), .val (.ref b101), .val (.ref r115), .val (.ref wc)] [])) rfl (hb hby at_132) (n := 32) (by decide) (by decide) (by decide) (by decide)
  have sf125_b101 := R121.safe lz121_b101 sf116_b101
  have sf125_b103 := R121.safe lz121_b103 sf116_b103
  have cr125 := cr116.trans R121
  have ch125 := R121.1
  have tk126 := Vm.MethodsKnown.alikeC (own_al hS121) hK.1
  have bk126 := Vm.FramesKnown.alikeC (own_al hS121) hK.2
  have y127 := (y117.ext E121)
  obtain ⟨cq128, kq128, q128a, q128b, q128c⟩ := isOf hZ121 e121 (E_c.ext y127.2)
  obtain ⟨_, _, ⟨T128, L128, k128, n128⟩, -, X128, ⟨Lc128, hQ128, l128, y128, z128⟩, st128⟩ := X121.virtualBack hx (y := (⟨"com/example/bill_per_call/billpercall/ErrorCode", "code", "()Ljava/lang/String;"⟩ : MethodName)) (z := (⟨"com/example/bill_per_call/billpercall/ErrorCode", "code", "()Ljava/lang/String;"⟩ : MethodName)) hown121 (mvT hZ121 (hw _ (List.mem_of_getElem? (i := 110) rfl))) (mvT hZ121 (hw _ (List.mem_of_getElem? (i := 111) rfl))) (notFace_of_selects (args := #[]) (mvT hZ121 (hw _ (List.mem_of_getElem? (i := 113) rfl)))) (mvT hZ121 (hw _ (List.mem_of_getElem? (i := 113) rfl))) (mvT hZ121 (hw _ (List.mem_of_getElem? (i := 112) rfl))) (by decide) (backOf (W := 1) (rmEc l Z a0 hw [] wc wt h121 n0 y127 (F_t.ext y127.2)) hZ121 (hw _ (List.mem_of_getElem? (i := 114) rfl)) (hw _ (List.mem_of_getElem? (i := 33) rfl)) (by decide) (by decide)) q128a q128c (g := (mkF m 136 #[.val (.int p1), .val (.int p2), .val (.int p3), .val (.int ((p1 &&& (255 : Int32)).toUInt32.toUInt16.toUInt32.toInt32)), .val (.int ((p2 &&& (255 : Int32)).toUInt32.toUInt16.toUInt32.toInt32)), .val (.int (p3 &&& (3 : Int32))), .val (.ref b101), .val (.ref r115), .val (.ref wc)] [(.ref wc), (.ref a121)])) rfl (by rw [hml]; rfl) (Steps.refl _) (argsL := []) (rest := [(.ref a121)]) (lenOf pd__Ljava_lang_String_ rfl) rfl (by show 2 * 0 + _ ≤ _; exact Nat.le_of_eq rfl) (hb hby at_136) (fun _ _ => ⟨rfl, e121, (by decide : 10 + 0 ≤ _), (by decide : 2807 + 0 ≤ _)⟩)
  dsimp only [Pt.U, Pt.locs, Pt.cells, Pt.slots] at X128 l128 y128 z128 st128 hQ128
  subst l128 y128 z128
  obtain ⟨rfl, N128q, eq128⟩ := hQ128
  have N128 := Fr.app N120 N128q
  have hK1_ : Arv Z h121 c121 kc121 .byte (Int32.ofNat 8) ((([(99 : Int32), (111 : Int32), (110 : Int32), (102 : Int32), (108 : Int32), (105 : Int32), (99 : Int32), (116 : Int32)] : List Int32).map StrChars.lo8).map Value.int) (.int (0 : Int32)) := V121
  have hK2_ : Arv Z h121 tt kt .byte (Int32.ofNat 8) ((([(99 : Int32), (111 : Int32), (110 : Int32), (102 : Int32), (108 : Int32), (105 : Int32), (99 : Int32), (116 : Int32)] : List Int32).map StrChars.lo8).map Value.int) (.int (0 : Int32)) := K_t.ext y127.2
  obtain ⟨cq129, kq129, q129a, q129b, q129c⟩ := isOf hZ121 eq128 A121
  obtain ⟨_, _, ⟨T129, L129, k129, n129⟩, -, X129, ⟨Lc129, hQ129, l129, y129, z129⟩, st129⟩ := X128.virtualBack hx (y := (⟨"java/lang/String", "equals", "(Ljava/lang/Object;)Z"⟩ : MethodName)) (z := (⟨"java/lang/String", "equals", "(Ljava/lang/Object;)Z"⟩ : MethodName)) hown121 (mvT hZ121 (hw _ (List.mem_of_getElem? (i := 117) rfl))) (mvT hZ121 (hw _ (List.mem_of_getElem? (i := 118) rfl))) (notFace_of_selects (args := #[]) (mvT hZ121 (hw _ (List.mem_of_getElem? (i := 120) rfl)))) (mvT hZ121 (hw _ (List.mem_of_getElem? (i := 120) rfl))) (mvT hZ121 (hw _ (List.mem_of_getElem? (i := 119) rfl))) (by decide) (StrChars.Road.eqW (W := 0) hZ121 hwe (kI := 4) (hw _ (List.mem_of_getElem? (i := 10) rfl)) (cs := ([(99 : Int32), (111 : Int32), (110 : Int32), (102 : Int32), (108 : Int32), (105 : Int32), (99 : Int32), (116 : Int32)] : List Int32)) A121 Fv121 Fc121 hK1_ (StrChars.Road.codOf (cs := ([(99 : Int32), (111 : Int32), (110 : Int32), (102 : Int32), (108 : Int32), (105 : Int32), (99 : Int32), (116 : Int32)] : List Int32)) (n := 8) rfl (by decide)) (by decide) (by decide) (ds := ([(99 : Int32), (111 : Int32), (110 : Int32), (102 : Int32), (108 : Int32), (105 : Int32), (99 : Int32), (116 : Int32)] : List Int32)) (E_t.ext y127.2) (V_t.ext y127.2) (C_t.ext y127.2) hK2_ (StrChars.Road.codOf (cs := ([(99 : Int32), (111 : Int32), (110 : Int32), (102 : Int32), (108 : Int32), (105 : Int32), (99 : Int32), (116 : Int32)] : List Int32)) (n := 8) rfl (by decide)) (by decide) (by decide) (O2.ext y127.2) P5 (by decide) (by decide)) q129a q129c (g := (mkF m 139 #[.val (.int p1), .val (.int p2), .val (.int p3), .val (.int ((p1 &&& (255 : Int32)).toUInt32.toUInt16.toUInt32.toInt32)), .val (.int ((p2 &&& (255 : Int32)).toUInt32.toUInt16.toUInt32.toInt32)), .val (.int (p3 &&& (3 : Int32))), .val (.ref b101), .val (.ref r115), .val (.ref wc)] [(.ref wt), (.ref a121)])) rfl (by rw [hml]; rfl) (Steps.refl _) (argsL := [(.ref wt)]) (rest := []) (lenOf pd_Ljava_lang_Object__Z rfl) rfl (by show 2 * 0 + _ ≤ _; exact Nat.le_of_eq rfl) (hb hby at_139) (fun _ _ => ⟨rfl, eq128, (by decide : 10 + 0 ≤ _), (by decide : 2807 + 0 ≤ _)⟩)
  dsimp only [Pt.U, Pt.locs, Pt.cells, Pt.slots] at X129 l129 y129 z129 st129 hQ129
  subst l129 y129 z129
  obtain ⟨hv129, rfl, eq129⟩ := hQ129
  obtain rfl := own_or1 hv129 rfl
  have N129 := Fr.app N128 (Fr.nil n0)
  have hc142 : ¬ ((1 : Int32) = (0 : Int32)) := by decide
  have y130 := (own_excE B115 E121)
  have y132 := (B115.1.ext E121)
  obtain ⟨cq131, kq131, q131a, q131b, q131c⟩ := isOf hZ121 eq129 y132
  obtain ⟨_, _, ⟨T131, L131, k131, n131⟩, -, X131, ⟨Lc131, hQ131, l131, y131, z131⟩, st131⟩ := X129.virtualBackUp hx (x := (⟨"com/example/bill_per_call/billpercall/RequestException", "getMessage", "()Ljava/lang/String;"⟩ : MethodName)) (y := (⟨"java/lang/Throwable", "getMessage", "()Ljava/lang/String;"⟩ : MethodName)) hown121 (mvT hZ121 (hw _ (List.mem_of_getElem? (i := 125) rfl))) (mvT hZ121 (hw _ (List.mem_of_getElem? (i := 126) rfl))) (mvT hZ121 (hw _ (List.mem_of_getElem? (i := 127) rfl))) (by decide) (mvT hZ121 (hw _ (List.mem_of_getElem? (i := 129) rfl))) (mvT hZ121 (hw _ (List.mem_of_getElem? (i := 128) rfl))) (backOf (W := 0) (rmGM_r l Z a0 hw [] r115 b101 h121 n0 y127 y130.2.2) hZ121 (hw _ (List.mem_of_getElem? (i := 130) rfl)) (hw _ (List.mem_of_getElem? (i := 53) rfl)) (by decide) (by decide)) q131a q131c (g := (mkF m 149 #[.val (.int p1), .val (.int p2), .val (.int p3), .val (.int ((p1 &&& (255 : Int32)).toUInt32.toUInt16.toUInt32.toInt32)), .val (.int ((p2 &&& (255 : Int32)).toUInt32.toUInt16.toUInt32.toInt32)), .val (.int (p3 &&& (3 : Int32))), .val (.ref b101), .val (.ref r115), .val (.ref wc)] [(.ref r115)])) rfl (by rw [hml]; rfl) (Steps.refl _) (argsL := []) (rest := []) (lenOf pd__Ljava_lang_String_ rfl) rfl (by show 2 * 0 + _ ≤ _; exact Nat.le_of_eq rfl) (hb hby at_149) (fun _ _ => ⟨rfl, eq129, (by decide : 10 + 0 ≤ _), (by decide : 2807 + 0 ≤ _)⟩)
  dsimp only [Pt.U, Pt.locs, Pt.cells, Pt.slots] at X131 l131 y131 z131 st131 hQ131
  subst l131 y131 z131
  obtain ⟨rfl, N131q, eq131⟩ := hQ131
  have N131 := Fr.app N129 N131q
  obtain ⟨fs, hr, hrun, hended, hRW⟩ := X131.leaveW hS121 (by rw [eq131]; exact hk121) (v := some (.int (1 : Int32))) (fun h => by rw [Bd.returns] at h; cases h)
  refine ⟨_, _, pre0 _ ?_, hrun, hended, _, _, rfl, ?_, hRW.1, hRW.2.1, hRW.2.2.1, hRW.2.2.2.mono (by decide) (by decide)⟩
  · show Steps p.tables e below (s₁.setTop (mkF m 0 #[.val (.int p1), .val (.int p2), .val (.int p3), .unset, .unset, .unset, .unset, .unset, .unset] [])) _
    refine XS.iloadN X0.here hx rfl (hb hby at_0) rfl ?_
    show Steps p.tables e below (s₁.setTop (mkF m 1 #[.val (.int p1), .val (.int p2), .val (.int p3), .unset, .unset, .unset, .unset, .unset, .unset] [(.int p1)])) _
    refine XS.sipush X0.here hx rfl (hb hby at_1) ?_
    show Steps p.tables e below (s₁.setTop (mkF m 4 #[.val (.int p1), .val (.int p2), .val (.int p3), .unset, .unset, .unset, .unset, .unset, .unset] [(.int (255 : Int32)), (.int p1)])) _
    refine XS.iand X0.here hx rfl (hb hby at_4) rfl ?_
    show Steps p.tables e below (s₁.setTop (mkF m 5 #[.val (.int p1), .val (.int p2), .val (.int p3), .unset, .unset, .unset, .unset, .unset, .unset] [(.int (p1 &&& (255 : Int32)))])) _
    refine XS.i2c X0.here hx rfl (hb hby at_5) rfl ?_
    show Steps p.tables e below (s₁.setTop (mkF m 6 #[.val (.int p1), .val (.int p2), .val (.int p3), .unset, .unset, .unset, .unset, .unset, .unset] [(.int ((p1 &&& (255 : Int32)).toUInt32.toUInt16.toUInt32.toInt32))])) _
    refine XS.istoreN X0.here hx rfl (hb hby at_6) rfl (l' := #[.val (.int p1), .val (.int p2), .val (.int p3), .val (.int ((p1 &&& (255 : Int32)).toUInt32.toUInt16.toUInt32.toInt32)), .unset, .unset, .unset, .unset, .unset]) rfl ?_
    show Steps p.tables e below (s₁.setTop (mkF m 7 #[.val (.int p1), .val (.int p2), .val (.int p3), .val (.int ((p1 &&& (255 : Int32)).toUInt32.toUInt16.toUInt32.toInt32)), .unset, .unset, .unset, .unset, .unset] [])) _
    refine XS.iloadN X0.here hx rfl (hb hby at_7) rfl ?_
    show Steps p.tables e below (s₁.setTop (mkF m 8 #[.val (.int p1), .val (.int p2), .val (.int p3), .val (.int ((p1 &&& (255 : Int32)).toUInt32.toUInt16.toUInt32.toInt32)), .unset, .unset, .unset, .unset, .unset] [(.int p2)])) _
    refine XS.sipush X0.here hx rfl (hb hby at_8) ?_
    show Steps p.tables e below (s₁.setTop (mkF m 11 #[.val (.int p1), .val (.int p2), .val (.int p3), .val (.int ((p1 &&& (255 : Int32)).toUInt32.toUInt16.toUInt32.toInt32)), .unset, .unset, .unset, .unset, .unset] [(.int (255 : Int32)), (.int p2)])) _
    refine XS.iand X0.here hx rfl (hb hby at_11) rfl ?_
    show Steps p.tables e below (s₁.setTop (mkF m 12 #[.val (.int p1), .val (.int p2), .val (.int p3), .val (.int ((p1 &&& (255 : Int32)).toUInt32.toUInt16.toUInt32.toInt32)), .unset, .unset, .unset, .unset, .unset] [(.int (p2 &&& (255 : Int32)))])) _
    refine XS.i2c X0.here hx rfl (hb hby at_12) rfl ?_
    show Steps p.tables e below (s₁.setTop (mkF m 13 #[.val (.int p1), .val (.int p2), .val (.int p3), .val (.int ((p1 &&& (255 : Int32)).toUInt32.toUInt16.toUInt32.toInt32)), .unset, .unset, .unset, .unset, .unset] [(.int ((p2 &&& (255 : Int32)).toUInt32.toUInt16.toUInt32.toInt32))])) _
    refine XS.istore X0.here hx rfl (hb hby at_13) rfl (l' := #[.val (.int p1), .val (.int p2), .val (.int p3), .val (.int ((p1 &&& (255 : Int32)).toUInt32.toUInt16.toUInt32.toInt32)), .val (.int ((p2 &&& (255 : Int32)).toUInt32.toUInt16.toUInt32.toInt32)), .unset, .unset, .unset, .unset]) rfl ?_
    show Steps p.tables e below (s₁.setTop (mkF m 15 #[.val (.int p1), .val (.int p2), .val (.int p3), .val (.int ((p1 &&& (255 : Int32)).toUInt32.toUInt16.toUInt32.toInt32)), .val (.int ((p2 &&& (255 : Int32)).toUInt32.toUInt16.toUInt32.toInt32)), .unset, .unset, .unset, .unset] [])) _
    refine XS.iloadN X0.here hx rfl (hb hby at_15) rfl ?_
    show Steps p.tables e below (s₁.setTop (mkF m 16 #[.val (.int p1), .val (.int p2), .val (.int p3), .val (.int ((p1 &&& (255 : Int32)).toUInt32.toUInt16.toUInt32.toInt32)), .val (.int ((p2 &&& (255 : Int32)).toUInt32.toUInt16.toUInt32.toInt32)), .unset, .unset, .unset, .unset] [(.int p3)])) _
    refine XS.iconst X0.here hx rfl (hb hby at_16) ?_
    show Steps p.tables e below (s₁.setTop (mkF m 17 #[.val (.int p1), .val (.int p2), .val (.int p3), .val (.int ((p1 &&& (255 : Int32)).toUInt32.toUInt16.toUInt32.toInt32)), .val (.int ((p2 &&& (255 : Int32)).toUInt32.toUInt16.toUInt32.toInt32)), .unset, .unset, .unset, .unset] [(.int (3 : Int32)), (.int p3)])) _
    refine XS.iand X0.here hx rfl (hb hby at_17) rfl ?_
    show Steps p.tables e below (s₁.setTop (mkF m 18 #[.val (.int p1), .val (.int p2), .val (.int p3), .val (.int ((p1 &&& (255 : Int32)).toUInt32.toUInt16.toUInt32.toInt32)), .val (.int ((p2 &&& (255 : Int32)).toUInt32.toUInt16.toUInt32.toInt32)), .unset, .unset, .unset, .unset] [(.int (p3 &&& (3 : Int32)))])) _
    refine XS.istore X0.here hx rfl (hb hby at_18) rfl (l' := #[.val (.int p1), .val (.int p2), .val (.int p3), .val (.int ((p1 &&& (255 : Int32)).toUInt32.toUInt16.toUInt32.toInt32)), .val (.int ((p2 &&& (255 : Int32)).toUInt32.toUInt16.toUInt32.toInt32)), .val (.int (p3 &&& (3 : Int32))), .unset, .unset, .unset]) rfl ?_
    show Steps p.tables e below (s₁.setTop (mkF m 20 #[.val (.int p1), .val (.int p2), .val (.int p3), .val (.int ((p1 &&& (255 : Int32)).toUInt32.toUInt16.toUInt32.toInt32)), .val (.int ((p2 &&& (255 : Int32)).toUInt32.toUInt16.toUInt32.toInt32)), .val (.int (p3 &&& (3 : Int32))), .unset, .unset, .unset] [])) _
    refine XS.iload X0.here hx rfl (hb hby at_20) rfl ?_
    show Steps p.tables e below (s₁.setTop (mkF m 22 #[.val (.int p1), .val (.int p2), .val (.int p3), .val (.int ((p1 &&& (255 : Int32)).toUInt32.toUInt16.toUInt32.toInt32)), .val (.int ((p2 &&& (255 : Int32)).toUInt32.toUInt16.toUInt32.toInt32)), .val (.int (p3 &&& (3 : Int32))), .unset, .unset, .unset] [(.int (p3 &&& (3 : Int32)))])) _
    refine XS.ifYes X0.here hx rfl (pc0 := 22) (pc' := 31) rfl (hb hby at_22) rfl ((if0 _ _).trans (feq hc22).2) (by decide) (by decide) ?_
    show Steps p.tables e below (s₁.setTop (mkF m 31 #[.val (.int p1), .val (.int p2), .val (.int p3), .val (.int ((p1 &&& (255 : Int32)).toUInt32.toUInt16.toUInt32.toInt32)), .val (.int ((p2 &&& (255 : Int32)).toUInt32.toUInt16.toUInt32.toInt32)), .val (.int (p3 &&& (3 : Int32))), .unset, .unset, .unset] [])) _
    refine XS.iload X0.here hx rfl (hb hby at_31) rfl ?_
    show Steps p.tables e below (s₁.setTop (mkF m 33 #[.val (.int p1), .val (.int p2), .val (.int p3), .val (.int ((p1 &&& (255 : Int32)).toUInt32.toUInt16.toUInt32.toInt32)), .val (.int ((p2 &&& (255 : Int32)).toUInt32.toUInt16.toUInt32.toInt32)), .val (.int (p3 &&& (3 : Int32))), .unset, .unset, .unset] [(.int (p3 &&& (3 : Int32)))])) _
    refine XS.iconst X0.here hx rfl (hb hby at_33) ?_
    show Steps p.tables e below (s₁.setTop (mkF m 34 #[.val (.int p1), .val (.int p2), .val (.int p3), .val (.int ((p1 &&& (255 : Int32)).toUInt32.toUInt16.toUInt32.toInt32)), .val (.int ((p2 &&& (255 : Int32)).toUInt32.toUInt16.toUInt32.toInt32)), .val (.int (p3 &&& (3 : Int32))), .unset, .unset, .unset] [(.int (1 : Int32)), (.int (p3 &&& (3 : Int32)))])) _
    refine XS.icmpNo X0.here hx rfl (hb hby at_34) rfl (teq hc34).2 ?_
    show Steps p.tables e below (s₁.setTop (mkF m 37 #[.val (.int p1), .val (.int p2), .val (.int p3), .val (.int ((p1 &&& (255 : Int32)).toUInt32.toUInt16.toUInt32.toInt32)), .val (.int ((p2 &&& (255 : Int32)).toUInt32.toUInt16.toUInt32.toInt32)), .val (.int (p3 &&& (3 : Int32))), .unset, .unset, .unset] [])) _
    refine st101 _ ?_
    show Steps p.tables e below (T101.setTop (mkF m 40 #[.val (.int p1), .val (.int p2), .val (.int p3), .val (.int ((p1 &&& (255 : Int32)).toUInt32.toUInt16.toUInt32.toInt32)), .val (.int ((p2 &&& (255 : Int32)).toUInt32.toUInt16.toUInt32.toInt32)), .val (.int (p3 &&& (3 : Int32))), .unset, .unset, .unset] [(.ref b101)])) _
    refine XS.dup X101.here hx rfl (hb hby at_40) rfl rfl ?_
    show Steps p.tables e below (T101.setTop (mkF m 41 #[.val (.int p1), .val (.int p2), .val (.int p3), .val (.int ((p1 &&& (255 : Int32)).toUInt32.toUInt16.toUInt32.toInt32)), .val (.int ((p2 &&& (255 : Int32)).toUInt32.toUInt16.toUInt32.toInt32)), .val (.int (p3 &&& (3 : Int32))), .unset, .unset, .unset] [(.ref b101), (.ref b101)])) _
    refine XS.iconst X101.here hx rfl (hb hby at_41) ?_
    show Steps p.tables e below (T101.setTop (mkF m 42 #[.val (.int p1), .val (.int p2), .val (.int p3), .val (.int ((p1 &&& (255 : Int32)).toUInt32.toUInt16.toUInt32.toInt32)), .val (.int ((p2 &&& (255 : Int32)).toUInt32.toUInt16.toUInt32.toInt32)), .val (.int (p3 &&& (3 : Int32))), .unset, .unset, .unset] [(.int (0 : Int32)), (.ref b101), (.ref b101)])) _
    refine st103 _ ?_
    show Steps p.tables e below (T103.setTop (mkF m 44 #[.val (.int p1), .val (.int p2), .val (.int p3), .val (.int ((p1 &&& (255 : Int32)).toUInt32.toUInt16.toUInt32.toInt32)), .val (.int ((p2 &&& (255 : Int32)).toUInt32.toUInt16.toUInt32.toInt32)), .val (.int (p3 &&& (3 : Int32))), .unset, .unset, .unset] [(.ref b103), (.ref b101), (.ref b101)])) _
    refine st110.trans ?_
    show Steps p.tables e below (T110.setTop (mkF m 47 #[.val (.int p1), .val (.int p2), .val (.int p3), .val (.int ((p1 &&& (255 : Int32)).toUInt32.toUInt16.toUInt32.toInt32)), .val (.int ((p2 &&& (255 : Int32)).toUInt32.toUInt16.toUInt32.toInt32)), .val (.int (p3 &&& (3 : Int32))), .unset, .unset, .unset] [(.ref b101)])) _
    refine XS.astore X110r.here hx rfl (hb hby at_47) rfl rfl (l' := #[.val (.int p1), .val (.int p2), .val (.int p3), .val (.int ((p1 &&& (255 : Int32)).toUInt32.toUInt16.toUInt32.toInt32)), .val (.int ((p2 &&& (255 : Int32)).toUInt32.toUInt16.toUInt32.toInt32)), .val (.int (p3 &&& (3 : Int32))), .val (.ref b101), .unset, .unset]) rfl ?_
    show Steps p.tables e below (T110.setTop (mkF m 49 #[.val (.int p1), .val (.int p2), .val (.int p3), .val (.int ((p1 &&& (255 : Int32)).toUInt32.toUInt16.toUInt32.toInt32)), .val (.int ((p2 &&& (255 : Int32)).toUInt32.toUInt16.toUInt32.toInt32)), .val (.int (p3 &&& (3 : Int32))), .val (.ref b101), .unset, .unset] [])) _
    refine XS.goto X110r.here hx rfl (pc0 := 49) (pc' := 88) rfl (hb hby at_49) (by decide) (by decide) ?_
    show Steps p.tables e below (T110.setTop (mkF m 88 #[.val (.int p1), .val (.int p2), .val (.int p3), .val (.int ((p1 &&& (255 : Int32)).toUInt32.toUInt16.toUInt32.toInt32)), .val (.int ((p2 &&& (255 : Int32)).toUInt32.toUInt16.toUInt32.toInt32)), .val (.int (p3 &&& (3 : Int32))), .val (.ref b101), .unset, .unset] [])) _
    refine XS.aload X110r.here hx rfl (hb hby at_88) rfl rfl ?_
    show Steps p.tables e below (T110.setTop (mkF m 90 #[.val (.int p1), .val (.int p2), .val (.int p3), .val (.int ((p1 &&& (255 : Int32)).toUInt32.toUInt16.toUInt32.toInt32)), .val (.int ((p2 &&& (255 : Int32)).toUInt32.toUInt16.toUInt32.toInt32)), .val (.int (p3 &&& (3 : Int32))), .val (.ref b101), .unset, .unset] [(.ref b101)])) _
    refine st115 _ ?_
    show Steps p.tables e below (T115.setTop (mkF m 93 #[.val (.int p1), .val (.int p2), .val (.int p3), .val (.int ((p1 &&& (255 : Int32)).toUInt32.toUInt16.toUInt32.toInt32)), .val (.int ((p2 &&& (255 : Int32)).toUInt32.toUInt16.toUInt32.toInt32)), .val (.int (p3 &&& (3 : Int32))), .val (.ref b101), .unset, .unset] [(.ref r115)])) _
    refine XS.astore X115.here hx rfl (hb hby at_93) rfl rfl (l' := #[.val (.int p1), .val (.int p2), .val (.int p3), .val (.int ((p1 &&& (255 : Int32)).toUInt32.toUInt16.toUInt32.toInt32)), .val (.int ((p2 &&& (255 : Int32)).toUInt32.toUInt16.toUInt32.toInt32)), .val (.int (p3 &&& (3 : Int32))), .val (.ref b101), .val (.ref r115), .unset]) rfl ?_
    show Steps p.tables e below (T115.setTop (mkF m 95 #[.val (.int p1), .val (.int p2), .val (.int p3), .val (.int ((p1 &&& (255 : Int32)).toUInt32.toUInt16.toUInt32.toInt32)), .val (.int ((p2 &&& (255 : Int32)).toUInt32.toUInt16.toUInt32.toInt32)), .val (.int (p3 &&& (3 : Int32))), .val (.ref b101), .val (.ref r115), .unset] [])) _
    refine XS.aload X115.here hx rfl (hb hby at_95) rfl rfl ?_
    show Steps p.tables e below (T115.setTop (mkF m 97 #[.val (.int p1), .val (.int p2), .val (.int p3), .val (.int ((p1 &&& (255 : Int32)).toUInt32.toUInt16.toUInt32.toInt32)), .val (.int ((p2 &&& (255 : Int32)).toUInt32.toUInt16.toUInt32.toInt32)), .val (.int (p3 &&& (3 : Int32))), .val (.ref b101), .val (.ref r115), .unset] [(.ref r115)])) _
    refine XS.ifnonnullYes X115.here hx rfl (pc0 := 97) (pc' := 102) rfl (hb hby at_97) rfl (by decide) (by decide) ?_
    show Steps p.tables e below (T115.setTop (mkF m 102 #[.val (.int p1), .val (.int p2), .val (.int p3), .val (.int ((p1 &&& (255 : Int32)).toUInt32.toUInt16.toUInt32.toInt32)), .val (.int ((p2 &&& (255 : Int32)).toUInt32.toUInt16.toUInt32.toInt32)), .val (.int (p3 &&& (3 : Int32))), .val (.ref b101), .val (.ref r115), .unset] [])) _
    refine XS.aload X115.here hx rfl (hb hby at_102) rfl rfl ?_
    show Steps p.tables e below (T115.setTop (mkF m 104 #[.val (.int p1), .val (.int p2), .val (.int p3), .val (.int ((p1 &&& (255 : Int32)).toUInt32.toUInt16.toUInt32.toInt32)), .val (.int ((p2 &&& (255 : Int32)).toUInt32.toUInt16.toUInt32.toInt32)), .val (.int (p3 &&& (3 : Int32))), .val (.ref b101), .val (.ref r115), .unset] [(.ref r115)])) _
    refine st118.trans ?_
    show Steps p.tables e below (T118.setTop (mkF m 107 #[.val (.int p1), .val (.int p2), .val (.int p3), .val (.int ((p1 &&& (255 : Int32)).toUInt32.toUInt16.toUInt32.toInt32)), .val (.int ((p2 &&& (255 : Int32)).toUInt32.toUInt16.toUInt32.toInt32)), .val (.int (p3 &&& (3 : Int32))), .val (.ref b101), .val (.ref r115), .unset] [(.ref wc)])) _
    refine XS.astore X118.here hx rfl (hb hby at_107) rfl rfl (l' := #[.val (.int p1), .val (.int p2), .val (.int p3), .val (.int ((p1 &&& (255 : Int32)).toUInt32.toUInt16.toUInt32.toInt32)), .val (.int ((p2 &&& (255 : Int32)).toUInt32.toUInt16.toUInt32.toInt32)), .val (.int (p3 &&& (3 : Int32))), .val (.ref b101), .val (.ref r115), .val (.ref wc)]) rfl ?_
    show Steps p.tables e below (T118.setTop (mkF m 109 #[.val (.int p1), .val (.int p2), .val (.int p3), .val (.int ((p1 &&& (255 : Int32)).toUInt32.toUInt16.toUInt32.toInt32)), .val (.int ((p2 &&& (255 : Int32)).toUInt32.toUInt16.toUInt32.toInt32)), .val (.int (p3 &&& (3 : Int32))), .val (.ref b101), .val (.ref r115), .val (.ref wc)] [])) _
    refine XS.aload X118.here hx rfl (hb hby at_109) rfl rfl ?_
    show Steps p.tables e below (T118.setTop (mkF m 111 #[.val (.int p1), .val (.int p2), .val (.int p3), .val (.int ((p1 &&& (255 : Int32)).toUInt32.toUInt16.toUInt32.toInt32)), .val (.int ((p2 &&& (255 : Int32)).toUInt32.toUInt16.toUInt32.toInt32)), .val (.int (p3 &&& (3 : Int32))), .val (.ref b101), .val (.ref r115), .val (.ref wc)] [(.ref wc)])) _
    refine st119 _ ?_
    show Steps p.tables e below (T119.setTop (mkF m 114 #[.val (.int p1), .val (.int p2), .val (.int p3), .val (.int ((p1 &&& (255 : Int32)).toUInt32.toUInt16.toUInt32.toInt32)), .val (.int ((p2 &&& (255 : Int32)).toUInt32.toUInt16.toUInt32.toInt32)), .val (.int (p3 &&& (3 : Int32))), .val (.ref b101), .val (.ref r115), .val (.ref wc)] [(.ref wc), (.ref wc)])) _
    refine Jvm.RoadKit.acmp (g := (mkF m 114 #[.val (.int p1), .val (.int p2), .val (.int p3), .val (.int ((p1 &&& (255 : Int32)).toUInt32.toUInt16.toUInt32.toInt32)), .val (.int ((p2 &&& (255 : Int32)).toUInt32.toUInt16.toUInt32.toInt32)), .val (.int (p3 &&& (3 : Int32))), .val (.ref b101), .val (.ref r115), .val (.ref wc)] [(.ref wc), (.ref wc)])) X119 hx rfl rfl rfl (pc0 := 114) (pc' := 119) (same := true) rfl (hb hby at_114) rfl (decide_eq_true rfl) (by decide) (by decide) ?_
    show Steps p.tables e below (T119.setTop (mkF m 119 #[.val (.int p1), .val (.int p2), .val (.int p3), .val (.int ((p1 &&& (255 : Int32)).toUInt32.toUInt16.toUInt32.toInt32)), .val (.int ((p2 &&& (255 : Int32)).toUInt32.toUInt16.toUInt32.toInt32)), .val (.int (p3 &&& (3 : Int32))), .val (.ref b101), .val (.ref r115), .val (.ref wc)] [])) _
    refine XS.aload X119.here hx rfl (hb hby at_119) rfl rfl ?_
    show Steps p.tables e below (T119.setTop (mkF m 121 #[.val (.int p1), .val (.int p2), .val (.int p3), .val (.int ((p1 &&& (255 : Int32)).toUInt32.toUInt16.toUInt32.toInt32)), .val (.int ((p2 &&& (255 : Int32)).toUInt32.toUInt16.toUInt32.toInt32)), .val (.int (p3 &&& (3 : Int32))), .val (.ref b101), .val (.ref r115), .val (.ref wc)] [(.ref wc)])) _
    refine st120.trans ?_
    show Steps p.tables e below (T120.setTop (mkF m 124 #[.val (.int p1), .val (.int p2), .val (.int p3), .val (.int ((p1 &&& (255 : Int32)).toUInt32.toUInt16.toUInt32.toInt32)), .val (.int ((p2 &&& (255 : Int32)).toUInt32.toUInt16.toUInt32.toInt32)), .val (.int (p3 &&& (3 : Int32))), .val (.ref b101), .val (.ref r115), .val (.ref wc)] [(.int (409 : Int32))])) _
    refine XS.sipush X120.here hx rfl (hb hby at_124) ?_
    show Steps p.tables e below (T120.setTop (mkF m 127 #[.val (.int p1), .val (.int p2), .val (.int p3), .val (.int ((p1 &&& (255 : Int32)).toUInt32.toUInt16.toUInt32.toInt32)), .val (.int ((p2 &&& (255 : Int32)).toUInt32.toUInt16.toUInt32.toInt32)), .val (.int (p3 &&& (3 : Int32))), .val (.ref b101), .val (.ref r115), .val (.ref wc)] [(.int (409 : Int32)), (.int (409 : Int32))])) _
    refine XS.icmpYes X120.here hx rfl (pc0 := 127) (pc' := 132) rfl (hb hby at_127) rfl (teq (rfl : (409 : Int32) = (409 : Int32))).1 (by decide) (by decide) ?_
    show Steps p.tables e below (T120.setTop (mkF m 132 #[.val (.int p1), .val (.int p2), .val (.int p3), .val (.int ((p1 &&& (255 : Int32)).toUInt32.toUInt16.toUInt32.toInt32)), .val (.int ((p2 &&& (255 : Int32)).toUInt32.toUInt16.toUInt32.toInt32)), .val (.int (p3 &&& (3 : Int32))), .val (.ref b101), .val (.ref r115), .val (.ref wc)] [])) _
    refine st121 _ ?_
    show Steps p.tables e below (T121.setTop (mkF m 134 #[.val (.int p1), .val (.int p2), .val (.int p3), .val (.int ((p1 &&& (255 : Int32)).toUInt32.toUInt16.toUInt32.toInt32)), .val (.int ((p2 &&& (255 : Int32)).toUInt32.toUInt16.toUInt32.toInt32)), .val (.int (p3 &&& (3 : Int32))), .val (.ref b101), .val (.ref r115), .val (.ref wc)] [(.ref a121)])) _
    refine XS.aload X121.here hx rfl (hb hby at_134) rfl rfl ?_
    show Steps p.tables e below (T121.setTop (mkF m 136 #[.val (.int p1), .val (.int p2), .val (.int p3), .val (.int ((p1 &&& (255 : Int32)).toUInt32.toUInt16.toUInt32.toInt32)), .val (.int ((p2 &&& (255 : Int32)).toUInt32.toUInt16.toUInt32.toInt32)), .val (.int (p3 &&& (3 : Int32))), .val (.ref b101), .val (.ref r115), .val (.ref wc)] [(.ref wc), (.ref a121)])) _
    refine st128.trans ?_
    show Steps p.tables e below (T128.setTop (mkF m 139 #[.val (.int p1), .val (.int p2), .val (.int p3), .val (.int ((p1 &&& (255 : Int32)).toUInt32.toUInt16.toUInt32.toInt32)), .val (.int ((p2 &&& (255 : Int32)).toUInt32.toUInt16.toUInt32.toInt32)), .val (.int (p3 &&& (3 : Int32))), .val (.ref b101), .val (.ref r115), .val (.ref wc)] [(.ref wt), (.ref a121)])) _
    refine st129.trans ?_
    show Steps p.tables e below (T129.setTop (mkF m 142 #[.val (.int p1), .val (.int p2), .val (.int p3), .val (.int ((p1 &&& (255 : Int32)).toUInt32.toUInt16.toUInt32.toInt32)), .val (.int ((p2 &&& (255 : Int32)).toUInt32.toUInt16.toUInt32.toInt32)), .val (.int (p3 &&& (3 : Int32))), .val (.ref b101), .val (.ref r115), .val (.ref wc)] [(.int (1 : Int32))])) _
    refine XS.ifYes X129.here hx rfl (pc0 := 142) (pc' := 147) rfl (hb hby at_142) rfl ((if0 _ _).trans (feq hc142).2) (by decide) (by decide) ?_
    show Steps p.tables e below (T129.setTop (mkF m 147 #[.val (.int p1), .val (.int p2), .val (.int p3), .val (.int ((p1 &&& (255 : Int32)).toUInt32.toUInt16.toUInt32.toInt32)), .val (.int ((p2 &&& (255 : Int32)).toUInt32.toUInt16.toUInt32.toInt32)), .val (.int (p3 &&& (3 : Int32))), .val (.ref b101), .val (.ref r115), .val (.ref wc)] [])) _
    refine XS.aload X129.here hx rfl (hb hby at_147) rfl rfl ?_
    show Steps p.tables e below (T129.setTop (mkF m 149 #[.val (.int p1), .val (.int p2), .val (.int p3), .val (.int ((p1 &&& (255 : Int32)).toUInt32.toUInt16.toUInt32.toInt32)), .val (.int ((p2 &&& (255 : Int32)).toUInt32.toUInt16.toUInt32.toInt32)), .val (.int (p3 &&& (3 : Int32))), .val (.ref b101), .val (.ref r115), .val (.ref wc)] [(.ref r115)])) _
    refine st131.trans ?_
    show Steps p.tables e below (T131.setTop (mkF m 152 #[.val (.int p1), .val (.int p2), .val (.int p3), .val (.int ((p1 &&& (255 : Int32)).toUInt32.toUInt16.toUInt32.toInt32)), .val (.int ((p2 &&& (255 : Int32)).toUInt32.toUInt16.toUInt32.toInt32)), .val (.int (p3 &&& (3 : Int32))), .val (.ref b101), .val (.ref r115), .val (.ref wc)] [(.ref b101)])) _
    refine XS.aload X131.here hx rfl (hb hby at_152) rfl rfl ?_
    show Steps p.tables e below (T131.setTop (mkF m 154 #[.val (.int p1), .val (.int p2), .val (.int p3), .val (.int ((p1 &&& (255 : Int32)).toUInt32.toUInt16.toUInt32.toInt32)), .val (.int ((p2 &&& (255 : Int32)).toUInt32.toUInt16.toUInt32.toInt32)), .val (.int (p3 &&& (3 : Int32))), .val (.ref b101), .val (.ref r115), .val (.ref wc)] [(.ref b101), (.ref b101)])) _
    refine Jvm.RoadKit.acmp (g := (mkF m 154 #[.val (.int p1), .val (.int p2), .val (.int p3), .val (.int ((p1 &&& (255 : Int32)).toUInt32.toUInt16.toUInt32.toInt32)), .val (.int ((p2 &&& (255 : Int32)).toUInt32.toUInt16.toUInt32.toInt32)), .val (.int (p3 &&& (3 : Int32))), .val (.ref b101), .val (.ref r115), .val (.ref wc)] [(.ref b101), (.ref b101)])) X131 hx rfl rfl rfl (pc0 := 154) (pc' := 157) (same := true) rfl (hb hby at_154) rfl (decide_eq_true rfl) (by decide) (by decide) ?_
    show Steps p.tables e below (T131.setTop (mkF m 157 #[.val (.int p1), .val (.int p2), .val (.int p3), .val (.int ((p1 &&& (255 : Int32)).toUInt32.toUInt16.toUInt32.toInt32)), .val (.int ((p2 &&& (255 : Int32)).toUInt32.toUInt16.toUInt32.toInt32)), .val (.int (p3 &&& (3 : Int32))), .val (.ref b101), .val (.ref r115), .val (.ref wc)] [])) _
    refine XS.iconst X131.here hx rfl (hb hby at_157) ?_
    show Steps p.tables e below (T131.setTop (mkF m 158 #[.val (.int p1), .val (.int p2), .val (.int p3), .val (.int ((p1 &&& (255 : Int32)).toUInt32.toUInt16.toUInt32.toInt32)), .val (.int ((p2 &&& (255 : Int32)).toUInt32.toUInt16.toUInt32.toInt32)), .val (.int (p3 &&& (3 : Int32))), .val (.ref b101), .val (.ref r115), .val (.ref wc)] [(.int (1 : Int32))])) _
    refine XS.goto X131.here hx rfl (pc0 := 158) (pc' := 162) rfl (hb hby at_158) (by decide) (by decide) ?_
    show Steps p.tables e below (T131.setTop (mkF m 162 #[.val (.int p1), .val (.int p2), .val (.int p3), .val (.int ((p1 &&& (255 : Int32)).toUInt32.toUInt16.toUInt32.toInt32)), .val (.int ((p2 &&& (255 : Int32)).toUInt32.toUInt16.toUInt32.toInt32)), .val (.int (p3 &&& (3 : Int32))), .val (.ref b101), .val (.ref r115), .val (.ref wc)] [(.int (1 : Int32))])) _
    exact retN X131 hx (t := .boolean) Bd.returns (by simp) (hb hby at_162) hr
  · show Q0 h0 n0 _ T131.heap _
    rw [eq131]
    exact ⟨rfl, N131⟩
set_option maxRecDepth 65536 in
set_option maxHeartbeats 40000000 in
theorem rm0_2 (l : Launch) (Z : State) (a0 : Array Value) (hw : ∀ d ∈ tables_1, d.before a0 Z = true) (ws : List Jvm.Cond) (p1 : Int32) (p2 : Int32) (p3 : Int32) (wc : Addr) (wt : Addr) (tt : Addr) (kt : ClassId) (G1 : Int32) (h0 : Heap) (n0 : Nat) (X00 : Old Z n0 h0) (hl : l.stackTraces = true) (hr2 : ∀ d ∈ twoRefs, d.before a0 Z = true) (S_c : Sta Z Z.heap EC "CONFLICT" ECD (.ref wc)) (O2 : Sta Z Z.heap ST "COMPACT_STRINGS" "Z" (.int G1)) (P5 : ¬ (G1 = (0 : Int32))) (F_s : Fld Z Z.heap wc EC "status" "I" (.int (409 : Int32))) (F_t : Fld Z Z.heap wc EC "code" "Ljava/lang/String;" (.ref wt)) (E_c : Exa Z Z.heap wc EC) (E_t : Exa Z Z.heap wt ST) (C_t : Fld Z Z.heap wt ST "coder" "B" (.int (0 : Int32))) (V_t : Fld Z Z.heap wt ST "value" "[B" (.ref tt)) (K_t : Arv Z Z.heap tt kt .byte (8 : Int32) [(.int (99 : Int32)), (.int (111 : Int32)), (.int (110 : Int32)), (.int (102 : Int32)), (.int (108 : Int32)), (.int (105 : Int32)), (.int (99 : Int32)), (.int (116 : Int32))] (.int (0 : Int32))) (hk_ : (p3 &&& (3 : Int32)) = (2 : Int32)) :
    MetFree l x (head1 (Jvm.Cond.code x code maxLocals ret :: ws) room_1) (fun a U => a = #[(.int p1), (.int p2), (.int p3)] ∧ Z.Warmed39 U.vm ∧ U.heap = h0 ∧ CHv Z consts_1 U.vm h0) (fun _ _ bl s _ => s.vm.MethodsKnown ∧ s.vm.FramesKnown bl) (fun _ U o U' => ∃ rv rL, o = .returned rv ∧ Q0 h0 n0 rv U'.heap rL ∧ ReturnedEndW U o U' rL room_1.cells room_1.slots) := by
  refine MetFree.of_bodySF (plainFor_of_name pn_0) hisR ?_
  intro p e s m args below meth c s₁ Bd hml0 hP hK
  obtain ⟨rfl, hZ, hh, hCH⟩ := hP
  have hx := Bd.exec
  have hby := Bd.bytes
  have hml : c.maxLocals = 9 := hml0
  have hown : s.vm.findClass "com/example/bill_per_call/billpercall/RequestExceptionConflictPinLaw" = some m.cls := findClass_of_methodNamed Bd.named
  have hnm := (name_of_methodNamed Bd.named Bd.method).1
  have X0 : Stand p l e room_1 (s.setVm s.vm) m #[(.int p1), (.int p2), (.int p3)] below meth c s₁ [] 0 0 := Stand.of_body Bd
  have e0 : s₁.heap = h0 := by rw [← hh, Bd.state]; rfl
  have N0 := Fr.nil n0
  have hS0 : s.Since s.vm s.heap.size := own_since s
  have hk0 : s.heap.size ≤ h0.size := by rw [hh]; exact Nat.le_refl _
  have hstr := own_str hw
  have hEL := own_EL hw
  have pre0 : ∀ t, Steps p.tables e below (s₁.setTop (mkF m 0 #[.val (.int p1), .val (.int p2), .val (.int p3), .unset, .unset, .unset, .unset, .unset, .unset] [])) t → Steps p.tables e below (s₁.setTop (entryFrame m #[(.int p1), (.int p2), (.int p3)] maxLocals)) t := fun t k => castTop (ef_0 m p1 p2 p3) k
  have hwe : ∀ d ∈ StrChars.Road.wordsEq, d.before a0 Z = true := fun d hd => hw d ((by decide +kernel : ∀ d ∈ StrChars.Road.wordsEq, d ∈ tables_1) d hd)
  have hp0 : ¬ ((255 : Int32) < ((p1 &&& (255 : Int32)).toUInt32.toUInt16.toUInt32.toInt32)) := (own_and255b p1).2
  have hc22 : ¬ ((p3 &&& (3 : Int32)) = (0 : Int32)) := by rw [hk_]; decide
  have hc34 : ¬ ((p3 &&& (3 : Int32)) = (1 : Int32)) := by rw [hk_]; decide
  have hc55 : (p3 &&& (3 : Int32)) = (2 : Int32) := hk_
  obtain ⟨_, _, ⟨T101, L101, k101, n101⟩, -, X101, ⟨Lc101, hQ101, l101, y101, z101⟩, st101⟩ := Jvm.LawKit.callS X0 hx (y := (⟨"java/lang/String", "valueOf", "(C)Ljava/lang/String;"⟩ : MethodName)) hown (mvT hZ (hw _ (List.mem_of_getElem? (i := 0) rfl))) (mvT hZ (hw _ (List.mem_of_getElem? (i := 1) rfl))) (mvT hZ (hw _ (List.mem_of_getElem? (i := 2) rfl))) (mvT hZ (hw _ (List.mem_of_getElem? (i := 3) rfl))) (by decide) (backOf (W := 0) (rmVC l Z a0 hw [] ((p1 &&& (255 : Int32)).toUInt32.toUInt16.toUInt32.toInt32) G1 h0 n0 X00 O2 P5 hp0) hZ (hw _ (List.mem_of_getElem? (i := 3) rfl)) (hw _ (List.mem_of_getElem? (i := 2) rfl)) (by decide) (by decide)) (g := (mkF m 59 #[.val (.int p1), .val (.int p2), .val (.int p3), .val (.int ((p1 &&& (255 : Int32)).toUInt32.toUInt16.toUInt32.toInt32)), .val (.int ((p2 &&& (255 : Int32)).toUInt32.toUInt16.toUInt32.toInt32)), .val (.int (p3 &&& (3 : Int32))), .unset, .unset, .unset] [(.int ((p1 &&& (255 : Int32)).toUInt32.toUInt16.toUInt32.toInt32))])) rfl (by rw [hml]; rfl) (argsL := [(.int ((p1 &&& (255 : Int32)).toUInt32.toUInt16.toUInt32.toInt32))]) (rest := []) (lenOf pd_C_Ljava_lang_String_ rfl) rfl (by show 2 * 0 + _ ≤ _; exact Nat.le_of_eq rfl) (hb hby at_59) (fun _ _ => ⟨rfl, e0, (by decide : 0 + 2 ≤ _), (by decide : 0 + 5 ≤ _)⟩)
  dsimp only [Pt.U, Pt.locs, Pt.cells, Pt.slots] at X101 l101 y101 z101 st101 hQ101
  subst l101 y101 z101
  obtain ⟨r101, rfl, N101q, Kc101⟩ := hQ101
  have N101 := Fr.app N0 N101q
  have hs102_ : ∀ x ∈ ([] : List Addr), Safe Z consts_1 s.vm h0 x := all0
  have cr102 := (CHr.refl hCH).trans (CHr.keep Kc101 hs102_ hCH)
  have ch102 := CHv.keep Kc101 hs102_ hCH
  have y103 := (X00.keep Kc101 all0)
  obtain ⟨_, _, ⟨T104, L104, k104, n104⟩, -, X104, ⟨Lc104, hQ104, l104, y104, z104⟩, st104⟩ := Jvm.LawKit.callS X101 hx (y := (⟨"com/example/bill_per_call/billpercall/RequestException", "conflict", "(Ljava/lang/String;)Lcom/example/bill_per_call/billpercall/RequestException;"⟩ : MethodName)) hown (mvT hZ (hw _ (List.mem_of_getElem? (i := 26) rfl))) (mvT hZ (hw _ (List.mem_of_getElem? (i := 27) rfl))) (mvT hZ (hw _ (List.mem_of_getElem? (i := 28) rfl))) (mvT hZ (hw _ (List.mem_of_getElem? (i := 29) rfl))) (by decide) (backOfKL (W := 0) (rmCf_r l Z a0 hw [] r101 wc T101.heap n0 y103 hl hr2 S_c) hZ (hw _ (List.mem_of_getElem? (i := 29) rfl)) (hw _ (List.mem_of_getElem? (i := 28) rfl)) (by decide) (by decide) hK.1 hK.2) (g := (mkF m 90 #[.val (.int p1), .val (.int p2), .val (.int p3), .val (.int ((p1 &&& (255 : Int32)).toUInt32.toUInt16.toUInt32.toInt32)), .val (.int ((p2 &&& (255 : Int32)).toUInt32.toUInt16.toUInt32.toInt32)), .val (.int (p3 &&& (3 : Int32))), .val (.ref r101), .unset, .unset] [(.ref r101)])) rfl (by rw [hml]; rfl) (argsL := [(.ref r101)]) (rest := []) (lenOf pd_Ljava_lang_String__Lcom_example_bill_per_call_billpercall_RequestException_ rfl) rfl (by show 2 * 0 + _ ≤ _; exact Nat.le_of_eq rfl) (hb hby at_90) (fun _ _ => ⟨rfl, rfl, (by decide : 2 + 2 ≤ _), (by decide : 5 + 2759 ≤ _)⟩)
  dsimp only [Pt.U, Pt.locs, Pt.cells, Pt.slots] at X104 l104 y104 z104 st104 hQ104
  subst l104 y104 z104
  obtain ⟨r104, rfl, N104q, Kc104, B104⟩ := hQ104
  have N104 := Fr.app N101 N104q
  have hs105_ : ∀ x ∈ ([] : List Addr), Safe Z consts_1 s.vm T101.heap x := all0
  have cr105 := cr102.trans (CHr.keep Kc104 hs105_ ch102)
  have ch105 := CHv.keep Kc104 hs105_ ch102
  have y106 := (y103.keep Kc104 all0)
  obtain ⟨cq107, kq107, q107a, q107b, q107c⟩ := isOf hZ rfl B104.1
  obtain ⟨_, _, ⟨T107, L107, k107, n107⟩, -, X107, ⟨Lc107, hQ107, l107, y107, z107⟩, st107⟩ := X104.virtualBack hx (y := (⟨"com/example/bill_per_call/billpercall/RequestException", "code", "()Lcom/example/bill_per_call/billpercall/ErrorCode;"⟩ : MethodName)) (z := (⟨"com/example/bill_per_call/billpercall/RequestException", "code", "()Lcom/example/bill_per_call/billpercall/ErrorCode;"⟩ : MethodName)) hown (mvT hZ (hw _ (List.mem_of_getElem? (i := 94) rfl))) (mvT hZ (hw _ (List.mem_of_getElem? (i := 95) rfl))) (notFace_of_selects (args := #[]) (mvT hZ (hw _ (List.mem_of_getElem? (i := 97) rfl)))) (mvT hZ (hw _ (List.mem_of_getElem? (i := 97) rfl))) (mvT hZ (hw _ (List.mem_of_getElem? (i := 96) rfl))) (by decide) (backOf (W := 0) (rmCo l Z a0 hw [] r104 wc T104.heap n0 y106 B104.2.1) hZ (hw _ (List.mem_of_getElem? (i := 98) rfl)) (hw _ (List.mem_of_getElem? (i := 28) rfl)) (by decide) (by decide)) q107a q107c (g := (mkF m 104 #[.val (.int p1), .val (.int p2), .val (.int p3), .val (.int ((p1 &&& (255 : Int32)).toUInt32.toUInt16.toUInt32.toInt32)), .val (.int ((p2 &&& (255 : Int32)).toUInt32.toUInt16.toUInt32.toInt32)), .val (.int (p3 &&& (3 : Int32))), .val (.ref r101), .val (.ref r104), .unset] [(.ref r104)])) rfl (by rw [hml]; rfl) (Steps.refl _) (argsL := []) (rest := []) (lenOf pd__Lcom_example_bill_per_call_billpercall_ErrorCode_ rfl) rfl (by show 2 * 0 + _ ≤ _; exact Nat.le_of_eq rfl) (hb hby at_104) (fun _ _ => ⟨rfl, rfl, (by decide : 4 + 0 ≤ _), (by decide : 2764 + 0 ≤ _)⟩)
  dsimp only [Pt.U, Pt.locs, Pt.cells, Pt.slots] at X107 l107 y107 z107 st107 hQ107
  subst l107 y107 z107
  obtain ⟨rfl, N107q, eq107⟩ := hQ107
  have N107 := Fr.app N104 N107q
  obtain ⟨T108, X108, e108, st108⟩ := getS2 X107 hx hZ hown (host := "") (Or.inl (hw _ (List.mem_of_getElem? (i := 99) rfl))) Via.refl eq107 (S_c.ext y106.2) (g := (mkF m 111 #[.val (.int p1), .val (.int p2), .val (.int p3), .val (.int ((p1 &&& (255 : Int32)).toUInt32.toUInt16.toUInt32.toInt32)), .val (.int ((p2 &&& (255 : Int32)).toUInt32.toUInt16.toUInt32.toInt32)), .val (.int (p3 &&& (3 : Int32))), .val (.ref r101), .val (.ref r104), .val (.ref wc)] [(.ref wc)])) rfl (hb hby at_111)
  obtain ⟨cq109, kq109, q109a, q109b, q109c⟩ := isOf hZ e108 (E_c.ext y106.2)
  obtain ⟨_, _, ⟨T109, L109, k109, n109⟩, -, X109, ⟨Lc109, hQ109, l109, y109, z109⟩, st109⟩ := X108.virtualBack hx (y := (⟨"com/example/bill_per_call/billpercall/ErrorCode", "status", "()I"⟩ : MethodName)) (z := (⟨"com/example/bill_per_call/billpercall/ErrorCode", "status", "()I"⟩ : MethodName)) hown (mvT hZ (hw _ (List.mem_of_getElem? (i := 100) rfl))) (mvT hZ (hw _ (List.mem_of_getElem? (i := 101) rfl))) (notFace_of_selects (args := #[]) (mvT hZ (hw _ (List.mem_of_getElem? (i := 103) rfl)))) (mvT hZ (hw _ (List.mem_of_getElem? (i := 103) rfl))) (mvT hZ (hw _ (List.mem_of_getElem? (i := 102) rfl))) (by decide) (backOf (W := 0) (rmEs l Z a0 hw [] wc (409 : Int32) T104.heap n0 y106 (F_s.ext y106.2)) hZ (hw _ (List.mem_of_getElem? (i := 104) rfl)) (hw _ (List.mem_of_getElem? (i := 33) rfl)) (by decide) (by decide)) q109a q109c (g := (mkF m 121 #[.val (.int p1), .val (.int p2), .val (.int p3), .val (.int ((p1 &&& (255 : Int32)).toUInt32.toUInt16.toUInt32.toInt32)), .val (.int ((p2 &&& (255 : Int32)).toUInt32.toUInt16.toUInt32.toInt32)), .val (.int (p3 &&& (3 : Int32))), .val (.ref r101), .val (.ref r104), .val (.ref wc)] [(.ref wc)])) rfl (by rw [hml]; rfl) (Steps.refl _) (argsL := []) (rest := []) (lenOf pd__I rfl) rfl (by show 2 * 0 + _ ≤ _; exact Nat.le_of_eq rfl) (hb hby at_121) (fun _ _ => ⟨rfl, e108, (by decide : 4 + 0 ≤ _), (by decide : 2764 + 0 ≤ _)⟩)
  dsimp only [Pt.U, Pt.locs, Pt.cells, Pt.slots] at X109 l109 y109 z109 st109 hQ109
  subst l109 y109 z109
  obtain ⟨rfl, N109q, eq109⟩ := hQ109
  have N109 := Fr.app N107 N109q
  have lz110_r104 := B104.1.lt
  have y111 := (Nat.le_trans (Nat.le_trans hk0 Kc101.1) Kc104.1)
  obtain ⟨a110, T110, h110, k110, c110, kc110, X110, e110, E110, hS110, hk110, hZ110, hown110, A110, Fc110, Fv110, V110, la110, lc110, R110, -, ns110, st110⟩ := ldcCH (z := (8 : Int32)) (vs := [(.int (99 : Int32)), (.int (111 : Int32)), (.int (110 : Int32)), (.int (102 : Int32)), (.int (108 : Int32)), (.int (105 : Int32)), (.int (99 : Int32)), (.int (116 : Int32))]) X109 hx hZ hown (hw _ (List.mem_of_getElem? (i := 107) rfl)) hstr eq109 hS0 y111 hEL (by decide) ch105 ⟨by decide, by decide⟩ (by decide) (by decide) (g := (mkF m 132 #[.val (.int p1), .val (.int p2), .val (.int p3), .val (.int ((p1 &&& (255 : Int32)).toUInt32.toUInt16.toUInt32.toInt32)), .val (.int ((p2 &&& (255 : Int32)).toUInt32.toUInt16.toUInt32.toInt32)), .val (.int (p3 &&& (3 : Int32))), .val (.ref r101), .val (.ref r104), .val (.ref wc)] [])) rfl (hb hby at_132) (n := 32) (by decide) (by decide) (by decide) (by decide)
  have cr112 := cr105.trans R110
  have ch112 := R110.1
  have tk113 := Vm.MethodsKnown.alikeC (own_al hS110) hK.1
  have bk113 := Vm.FramesKnown.alikeC (own_al hS110) hK.2
  have y114 := (y106.ext E110)
  obtain ⟨cq115, kq115, q115a, q115b, q115c⟩ := isOf hZ110 e110 (E_c.ext y114.2)
  obtain ⟨_, _, ⟨T115, L115, k115, n115⟩, -, X115, ⟨Lc115, hQ115, l115, y115, z115⟩, st115⟩ := X110.virtualBack hx (y := (⟨"com/example/bill_per_call/billpercall/ErrorCode", "code", "()Ljava/lang/String;"⟩ : MethodName)) (z := (⟨"com/example/bill_per_call/billpercall/ErrorCode", "code", "()Ljava/lang/String;"⟩ : MethodName)) hown110 (mvT hZ110 (hw _ (List.mem_of_getElem? (i := 110) rfl))) (mvT hZ110 (hw _ (List.mem_of_getElem? (i := 111) rfl))) (notFace_of_selects (args := #[]) (mvT hZ110 (hw _ (List.mem_of_getElem? (i := 113) rfl)))) (mvT hZ110 (hw _ (List.mem_of_getElem? (i := 113) rfl))) (mvT hZ110 (hw _ (List.mem_of_getElem? (i := 112) rfl))) (by decide) (backOf (W := 1) (rmEc l Z a0 hw [] wc wt h110 n0 y114 (F_t.ext y114.2)) hZ110 (hw _ (List.mem_of_getElem? (i := 114) rfl)) (hw _ (List.mem_of_getElem? (i := 33) rfl)) (by decide) (by decide)) q115a q115c (g := (mkF m 136 #[.val (.int p1), .val (.int p2), .val (.int p3), .val (.int ((p1 &&& (255 : Int32)).toUInt32.toUInt16.toUInt32.toInt32)), .val (.int ((p2 &&& (255 : Int32)).toUInt32.toUInt16.toUInt32.toInt32)), .val (.int (p3 &&& (3 : Int32))), .val (.ref r101), .val (.ref r104), .val (.ref wc)] [(.ref wc), (.ref a110)])) rfl (by rw [hml]; rfl) (Steps.refl _) (argsL := []) (rest := [(.ref a110)]) (lenOf pd__Ljava_lang_String_ rfl) rfl (by show 2 * 0 + _ ≤ _; exact Nat.le_of_eq rfl) (hb hby at_136) (fun _ _ => ⟨rfl, e110, (by decide : 6 + 0 ≤ _), (by decide : 2800 + 0 ≤ _)⟩)
  dsimp only [Pt.U, Pt.locs, Pt.cells, Pt.slots] at X115 l115 y115 z115 st115 hQ115
  subst l115 y115 z115
  obtain ⟨rfl, N115q, eq115⟩ := hQ115
  have N115 := Fr.app N109 N115q
  have hK1_ : Arv Z h110 c110 kc110 .byte (Int32.ofNat 8) ((([(99 : Int32), (111 : Int32), (110 : Int32), (102 : Int32), (108 : Int32), (105 : Int32), (99 : Int32), (116 : Int32)] : List Int32).map StrChars.lo8).map Value.int) (.int (0 : Int32)) := V110
  have hK2_ : Arv Z h110 tt kt .byte (Int32.ofNat 8) ((([(99 : Int32), (111 : Int32), (110 : Int32), (102 : Int32), (108 : Int32), (105 : Int32), (99 : Int32), (116 : Int32)] : List Int32).map StrChars.lo8).map Value.int) (.int (0 : Int32)) := K_t.ext y114.2
  obtain ⟨cq116, kq116, q116a, q116b, q116c⟩ := isOf hZ110 eq115 A110
  obtain ⟨_, _, ⟨T116, L116, k116, n116⟩, -, X116, ⟨Lc116, hQ116, l116, y116, z116⟩, st116⟩ := X115.virtualBack hx (y := (⟨"java/lang/String", "equals", "(Ljava/lang/Object;)Z"⟩ : MethodName)) (z := (⟨"java/lang/String", "equals", "(Ljava/lang/Object;)Z"⟩ : MethodName)) hown110 (mvT hZ110 (hw _ (List.mem_of_getElem? (i := 117) rfl))) (mvT hZ110 (hw _ (List.mem_of_getElem? (i := 118) rfl))) (notFace_of_selects (args := #[]) (mvT hZ110 (hw _ (List.mem_of_getElem? (i := 120) rfl)))) (mvT hZ110 (hw _ (List.mem_of_getElem? (i := 120) rfl))) (mvT hZ110 (hw _ (List.mem_of_getElem? (i := 119) rfl))) (by decide) (StrChars.Road.eqW (W := 0) hZ110 hwe (kI := 4) (hw _ (List.mem_of_getElem? (i := 10) rfl)) (cs := ([(99 : Int32), (111 : Int32), (110 : Int32), (102 : Int32), (108 : Int32), (105 : Int32), (99 : Int32), (116 : Int32)] : List Int32)) A110 Fv110 Fc110 hK1_ (StrChars.Road.codOf (cs := ([(99 : Int32), (111 : Int32), (110 : Int32), (102 : Int32), (108 : Int32), (105 : Int32), (99 : Int32), (116 : Int32)] : List Int32)) (n := 8) rfl (by decide)) (by decide) (by decide) (ds := ([(99 : Int32), (111 : Int32), (110 : Int32), (102 : Int32), (108 : Int32), (105 : Int32), (99 : Int32), (116 : Int32)] : List Int32)) (E_t.ext y114.2) (V_t.ext y114.2) (C_t.ext y114.2) hK2_ (StrChars.Road.codOf (cs := ([(99 : Int32), (111 : Int32), (110 : Int32), (102 : Int32), (108 : Int32), (105 : Int32), (99 : Int32), (116 : Int32)] : List Int32)) (n := 8) rfl (by decide)) (by decide) (by decide) (O2.ext y114.2) P5 (by decide) (by decide)) q116a q116c (g := (mkF m 139 #[.val (.int p1), .val (.int p2), .val (.int p3), .val (.int ((p1 &&& (255 : Int32)).toUInt32.toUInt16.toUInt32.toInt32)), .val (.int ((p2 &&& (255 : Int32)).toUInt32.toUInt16.toUInt32.toInt32)), .val (.int (p3 &&& (3 : Int32))), .val (.ref r101), .val (.ref r104), .val (.ref wc)] [(.ref wt), (.ref a110)])) rfl (by rw [hml]; rfl) (Steps.refl _) (argsL := [(.ref wt)]) (rest := []) (lenOf pd_Ljava_lang_Object__Z rfl) rfl (by show 2 * 0 + _ ≤ _; exact Nat.le_of_eq rfl) (hb hby at_139) (fun _ _ => ⟨rfl, eq115, (by decide : 6 + 0 ≤ _), (by decide : 2800 + 0 ≤ _)⟩)
  dsimp only [Pt.U, Pt.locs, Pt.cells, Pt.slots] at X116 l116 y116 z116 st116 hQ116
  subst l116 y116 z116
  obtain ⟨hv116, rfl, eq116⟩ := hQ116
  obtain rfl := own_or1 hv116 rfl
  have N116 := Fr.app N115 (Fr.nil n0)
  have hc142 : ¬ ((1 : Int32) = (0 : Int32)) := by decide
  have y117 := (own_excE B104 E110)
  have y119 := (B104.1.ext E110)
  obtain ⟨cq118, kq118, q118a, q118b, q118c⟩ := isOf hZ110 eq116 y119
  obtain ⟨_, _, ⟨T118, L118, k118, n118⟩, -, X118, ⟨Lc118, hQ118, l118, y118, z118⟩, st118⟩ := X116.virtualBackUp hx (x := (⟨"com/example/bill_per_call/billpercall/RequestException", "getMessage", "()Ljava/lang/String;"⟩ : MethodName)) (y := (⟨"java/lang/Throwable", "getMessage", "()Ljava/lang/String;"⟩ : MethodName)) hown110 (mvT hZ110 (hw _ (List.mem_of_getElem? (i := 125) rfl))) (mvT hZ110 (hw _ (List.mem_of_getElem? (i := 126) rfl))) (mvT hZ110 (hw _ (List.mem_of_getElem? (i := 127) rfl))) (by decide) (mvT hZ110 (hw _ (List.mem_of_getElem? (i := 129) rfl))) (mvT hZ110 (hw _ (List.mem_of_getElem? (i := 128) rfl))) (backOf (W := 0) (rmGM_r l Z a0 hw [] r104 r101 h110 n0 y114 y117.2.2) hZ110 (hw _ (List.mem_of_getElem? (i := 130) rfl)) (hw _ (List.mem_of_getElem? (i := 53) rfl)) (by decide) (by decide)) q118a q118c (g := (mkF m 149 #[.val (.int p1), .val (.int p2), .val (.int p3), .val (.int ((p1 &&& (255 : Int32)).toUInt32.toUInt16.toUInt32.toInt32)), .val (.int ((p2 &&& (255 : Int32)).toUInt32.toUInt16.toUInt32.toInt32)), .val (.int (p3 &&& (3 : Int32))), .val (.ref r101), .val (.ref r104), .val (.ref wc)] [(.ref r104)])) rfl (by rw [hml]; rfl) (Steps.refl _) (argsL := []) (rest := []) (lenOf pd__Ljava_lang_String_ rfl) rfl (by show 2 * 0 + _ ≤ _; exact Nat.le_of_eq rfl) (hb hby at_149) (fun _ _ => ⟨rfl, eq116, (by decide : 6 + 0 ≤ _), (by decide : 2800 + 0 ≤ _)⟩)
  dsimp only [Pt.U, Pt.locs, Pt.cells, Pt.slots] at X118 l118 y118 z118 st118 hQ118
  subst l118 y118 z118
  obtain ⟨rfl, N118q, eq118⟩ := hQ118
  have N118 := Fr.app N116 N118q
  obtain ⟨fs, hr, hrun, hended, hRW⟩ := X118.leaveW hS110 (by rw [eq118]; exact hk110) (v := some (.int (1 : Int32))) (fun h => by rw [Bd.returns] at h; cases h)
  refine ⟨_, _, pre0 _ ?_, hrun, hended, _, _, rfl, ?_, hRW.1, hRW.2.1, hRW.2.2.1, hRW.2.2.2.mono (by decide) (by decide)⟩
  · show Steps p.tables e below (s₁.setTop (mkF m 0 #[.val (.int p1), .val (.int p2), .val (.int p3), .unset, .unset, .unset, .unset, .unset, .unset] [])) _
    refine XS.iloadN X0.here hx rfl (hb hby at_0) rfl ?_
    show Steps p.tables e below (s₁.setTop (mkF m 1 #[.val (.int p1), .val (.int p2), .val (.int p3), .unset, .unset, .unset, .unset, .unset, .unset] [(.int p1)])) _
    refine XS.sipush X0.here hx rfl (hb hby at_1) ?_
    show Steps p.tables e below (s₁.setTop (mkF m 4 #[.val (.int p1), .val (.int p2), .val (.int p3), .unset, .unset, .unset, .unset, .unset, .unset] [(.int (255 : Int32)), (.int p1)])) _
    refine XS.iand X0.here hx rfl (hb hby at_4) rfl ?_
    show Steps p.tables e below (s₁.setTop (mkF m 5 #[.val (.int p1), .val (.int p2), .val (.int p3), .unset, .unset, .unset, .unset, .unset, .unset] [(.int (p1 &&& (255 : Int32)))])) _
    refine XS.i2c X0.here hx rfl (hb hby at_5) rfl ?_
    show Steps p.tables e below (s₁.setTop (mkF m 6 #[.val (.int p1), .val (.int p2), .val (.int p3), .unset, .unset, .unset, .unset, .unset, .unset] [(.int ((p1 &&& (255 : Int32)).toUInt32.toUInt16.toUInt32.toInt32))])) _
    refine XS.istoreN X0.here hx rfl (hb hby at_6) rfl (l' := #[.val (.int p1), .val (.int p2), .val (.int p3), .val (.int ((p1 &&& (255 : Int32)).toUInt32.toUInt16.toUInt32.toInt32)), .unset, .unset, .unset, .unset, .unset]) rfl ?_
    show Steps p.tables e below (s₁.setTop (mkF m 7 #[.val (.int p1), .val (.int p2), .val (.int p3), .val (.int ((p1 &&& (255 : Int32)).toUInt32.toUInt16.toUInt32.toInt32)), .unset, .unset, .unset, .unset, .unset] [])) _
    refine XS.iloadN X0.here hx rfl (hb hby at_7) rfl ?_
    show Steps p.tables e below (s₁.setTop (mkF m 8 #[.val (.int p1), .val (.int p2), .val (.int p3), .val (.int ((p1 &&& (255 : Int32)).toUInt32.toUInt16.toUInt32.toInt32)), .unset, .unset, .unset, .unset, .unset] [(.int p2)])) _
    refine XS.sipush X0.here hx rfl (hb hby at_8) ?_
    show Steps p.tables e below (s₁.setTop (mkF m 11 #[.val (.int p1), .val (.int p2), .val (.int p3), .val (.int ((p1 &&& (255 : Int32)).toUInt32.toUInt16.toUInt32.toInt32)), .unset, .unset, .unset, .unset, .unset] [(.int (255 : Int32)), (.int p2)])) _
    refine XS.iand X0.here hx rfl (hb hby at_11) rfl ?_
    show Steps p.tables e below (s₁.setTop (mkF m 12 #[.val (.int p1), .val (.int p2), .val (.int p3), .val (.int ((p1 &&& (255 : Int32)).toUInt32.toUInt16.toUInt32.toInt32)), .unset, .unset, .unset, .unset, .unset] [(.int (p2 &&& (255 : Int32)))])) _
    refine XS.i2c X0.here hx rfl (hb hby at_12) rfl ?_
    show Steps p.tables e below (s₁.setTop (mkF m 13 #[.val (.int p1), .val (.int p2), .val (.int p3), .val (.int ((p1 &&& (255 : Int32)).toUInt32.toUInt16.toUInt32.toInt32)), .unset, .unset, .unset, .unset, .unset] [(.int ((p2 &&& (255 : Int32)).toUInt32.toUInt16.toUInt32.toInt32))])) _
    refine XS.istore X0.here hx rfl (hb hby at_13) rfl (l' := #[.val (.int p1), .val (.int p2), .val (.int p3), .val (.int ((p1 &&& (255 : Int32)).toUInt32.toUInt16.toUInt32.toInt32)), .val (.int ((p2 &&& (255 : Int32)).toUInt32.toUInt16.toUInt32.toInt32)), .unset, .unset, .unset, .unset]) rfl ?_
    show Steps p.tables e below (s₁.setTop (mkF m 15 #[.val (.int p1), .val (.int p2), .val (.int p3), .val (.int ((p1 &&& (255 : Int32)).toUInt32.toUInt16.toUInt32.toInt32)), .val (.int ((p2 &&& (255 : Int32)).toUInt32.toUInt16.toUInt32.toInt32)), .unset, .unset, .unset, .unset] [])) _
    refine XS.iloadN X0.here hx rfl (hb hby at_15) rfl ?_
    show Steps p.tables e below (s₁.setTop (mkF m 16 #[.val (.int p1), .val (.int p2), .val (.int p3), .val (.int ((p1 &&& (255 : Int32)).toUInt32.toUInt16.toUInt32.toInt32)), .val (.int ((p2 &&& (255 : Int32)).toUInt32.toUInt16.toUInt32.toInt32)), .unset, .unset, .unset, .unset] [(.int p3)])) _
    refine XS.iconst X0.here hx rfl (hb hby at_16) ?_
    show Steps p.tables e below (s₁.setTop (mkF m 17 #[.val (.int p1), .val (.int p2), .val (.int p3), .val (.int ((p1 &&& (255 : Int32)).toUInt32.toUInt16.toUInt32.toInt32)), .val (.int ((p2 &&& (255 : Int32)).toUInt32.toUInt16.toUInt32.toInt32)), .unset, .unset, .unset, .unset] [(.int (3 : Int32)), (.int p3)])) _
    refine XS.iand X0.here hx rfl (hb hby at_17) rfl ?_
    show Steps p.tables e below (s₁.setTop (mkF m 18 #[.val (.int p1), .val (.int p2), .val (.int p3), .val (.int ((p1 &&& (255 : Int32)).toUInt32.toUInt16.toUInt32.toInt32)), .val (.int ((p2 &&& (255 : Int32)).toUInt32.toUInt16.toUInt32.toInt32)), .unset, .unset, .unset, .unset] [(.int (p3 &&& (3 : Int32)))])) _
    refine XS.istore X0.here hx rfl (hb hby at_18) rfl (l' := #[.val (.int p1), .val (.int p2), .val (.int p3), .val (.int ((p1 &&& (255 : Int32)).toUInt32.toUInt16.toUInt32.toInt32)), .val (.int ((p2 &&& (255 : Int32)).toUInt32.toUInt16.toUInt32.toInt32)), .val (.int (p3 &&& (3 : Int32))), .unset, .unset, .unset]) rfl ?_
    show Steps p.tables e below (s₁.setTop (mkF m 20 #[.val (.int p1), .val (.int p2), .val (.int p3), .val (.int ((p1 &&& (255 : Int32)).toUInt32.toUInt16.toUInt32.toInt32)), .val (.int ((p2 &&& (255 : Int32)).toUInt32.toUInt16.toUInt32.toInt32)), .val (.int (p3 &&& (3 : Int32))), .unset, .unset, .unset] [])) _
    refine XS.iload X0.here hx rfl (hb hby at_20) rfl ?_
    show Steps p.tables e below (s₁.setTop (mkF m 22 #[.val (.int p1), .val (.int p2), .val (.int p3), .val (.int ((p1 &&& (255 : Int32)).toUInt32.toUInt16.toUInt32.toInt32)), .val (.int ((p2 &&& (255 : Int32)).toUInt32.toUInt16.toUInt32.toInt32)), .val (.int (p3 &&& (3 : Int32))), .unset, .unset, .unset] [(.int (p3 &&& (3 : Int32)))])) _
    refine XS.ifYes X0.here hx rfl (pc0 := 22) (pc' := 31) rfl (hb hby at_22) rfl ((if0 _ _).trans (feq hc22).2) (by decide) (by decide) ?_
    show Steps p.tables e below (s₁.setTop (mkF m 31 #[.val (.int p1), .val (.int p2), .val (.int p3), .val (.int ((p1 &&& (255 : Int32)).toUInt32.toUInt16.toUInt32.toInt32)), .val (.int ((p2 &&& (255 : Int32)).toUInt32.toUInt16.toUInt32.toInt32)), .val (.int (p3 &&& (3 : Int32))), .unset, .unset, .unset] [])) _
    refine XS.iload X0.here hx rfl (hb hby at_31) rfl ?_
    show Steps p.tables e below (s₁.setTop (mkF m 33 #[.val (.int p1), .val (.int p2), .val (.int p3), .val (.int ((p1 &&& (255 : Int32)).toUInt32.toUInt16.toUInt32.toInt32)), .val (.int ((p2 &&& (255 : Int32)).toUInt32.toUInt16.toUInt32.toInt32)), .val (.int (p3 &&& (3 : Int32))), .unset, .unset, .unset] [(.int (p3 &&& (3 : Int32)))])) _
    refine XS.iconst X0.here hx rfl (hb hby at_33) ?_
    show Steps p.tables e below (s₁.setTop (mkF m 34 #[.val (.int p1), .val (.int p2), .val (.int p3), .val (.int ((p1 &&& (255 : Int32)).toUInt32.toUInt16.toUInt32.toInt32)), .val (.int ((p2 &&& (255 : Int32)).toUInt32.toUInt16.toUInt32.toInt32)), .val (.int (p3 &&& (3 : Int32))), .unset, .unset, .unset] [(.int (1 : Int32)), (.int (p3 &&& (3 : Int32)))])) _
    refine XS.icmpYes X0.here hx rfl (pc0 := 34) (pc' := 52) rfl (hb hby at_34) rfl (feq hc34).2 (by decide) (by decide) ?_
    show Steps p.tables e below (s₁.setTop (mkF m 52 #[.val (.int p1), .val (.int p2), .val (.int p3), .val (.int ((p1 &&& (255 : Int32)).toUInt32.toUInt16.toUInt32.toInt32)), .val (.int ((p2 &&& (255 : Int32)).toUInt32.toUInt16.toUInt32.toInt32)), .val (.int (p3 &&& (3 : Int32))), .unset, .unset, .unset] [])) _
    refine XS.iload X0.here hx rfl (hb hby at_52) rfl ?_
    show Steps p.tables e below (s₁.setTop (mkF m 54 #[.val (.int p1), .val (.int p2), .val (.int p3), .val (.int ((p1 &&& (255 : Int32)).toUInt32.toUInt16.toUInt32.toInt32)), .val (.int ((p2 &&& (255 : Int32)).toUInt32.toUInt16.toUInt32.toInt32)), .val (.int (p3 &&& (3 : Int32))), .unset, .unset, .unset] [(.int (p3 &&& (3 : Int32)))])) _
    refine XS.iconst X0.here hx rfl (hb hby at_54) ?_
    show Steps p.tables e below (s₁.setTop (mkF m 55 #[.val (.int p1), .val (.int p2), .val (.int p3), .val (.int ((p1 &&& (255 : Int32)).toUInt32.toUInt16.toUInt32.toInt32)), .val (.int ((p2 &&& (255 : Int32)).toUInt32.toUInt16.toUInt32.toInt32)), .val (.int (p3 &&& (3 : Int32))), .unset, .unset, .unset] [(.int (2 : Int32)), (.int (p3 &&& (3 : Int32)))])) _
    refine XS.icmpNo X0.here hx rfl (hb hby at_55) rfl (teq hc55).2 ?_
    show Steps p.tables e below (s₁.setTop (mkF m 58 #[.val (.int p1), .val (.int p2), .val (.int p3), .val (.int ((p1 &&& (255 : Int32)).toUInt32.toUInt16.toUInt32.toInt32)), .val (.int ((p2 &&& (255 : Int32)).toUInt32.toUInt16.toUInt32.toInt32)), .val (.int (p3 &&& (3 : Int32))), .unset, .unset, .unset] [])) _
    refine XS.iloadN X0.here hx rfl (hb hby at_58) rfl ?_
    show Steps p.tables e below (s₁.setTop (mkF m 59 #[.val (.int p1), .val (.int p2), .val (.int p3), .val (.int ((p1 &&& (255 : Int32)).toUInt32.toUInt16.toUInt32.toInt32)), .val (.int ((p2 &&& (255 : Int32)).toUInt32.toUInt16.toUInt32.toInt32)), .val (.int (p3 &&& (3 : Int32))), .unset, .unset, .unset] [(.int ((p1 &&& (255 : Int32)).toUInt32.toUInt16.toUInt32.toInt32))])) _
    refine st101 _ ?_
    show Steps p.tables e below (T101.setTop (mkF m 62 #[.val (.int p1), .val (.int p2), .val (.int p3), .val (.int ((p1 &&& (255 : Int32)).toUInt32.toUInt16.toUInt32.toInt32)), .val (.int ((p2 &&& (255 : Int32)).toUInt32.toUInt16.toUInt32.toInt32)), .val (.int (p3 &&& (3 : Int32))), .unset, .unset, .unset] [(.ref r101)])) _
    refine XS.astore X101.here hx rfl (hb hby at_62) rfl rfl (l' := #[.val (.int p1), .val (.int p2), .val (.int p3), .val (.int ((p1 &&& (255 : Int32)).toUInt32.toUInt16.toUInt32.toInt32)), .val (.int ((p2 &&& (255 : Int32)).toUInt32.toUInt16.toUInt32.toInt32)), .val (.int (p3 &&& (3 : Int32))), .val (.ref r101), .unset, .unset]) rfl ?_
    show Steps p.tables e below (T101.setTop (mkF m 64 #[.val (.int p1), .val (.int p2), .val (.int p3), .val (.int ((p1 &&& (255 : Int32)).toUInt32.toUInt16.toUInt32.toInt32)), .val (.int ((p2 &&& (255 : Int32)).toUInt32.toUInt16.toUInt32.toInt32)), .val (.int (p3 &&& (3 : Int32))), .val (.ref r101), .unset, .unset] [])) _
    refine XS.goto X101.here hx rfl (pc0 := 64) (pc' := 88) rfl (hb hby at_64) (by decide) (by decide) ?_
    show Steps p.tables e below (T101.setTop (mkF m 88 #[.val (.int p1), .val (.int p2), .val (.int p3), .val (.int ((p1 &&& (255 : Int32)).toUInt32.toUInt16.toUInt32.toInt32)), .val (.int ((p2 &&& (255 : Int32)).toUInt32.toUInt16.toUInt32.toInt32)), .val (.int (p3 &&& (3 : Int32))), .val (.ref r101), .unset, .unset] [])) _
    refine XS.aload X101.here hx rfl (hb hby at_88) rfl rfl ?_
    show Steps p.tables e below (T101.setTop (mkF m 90 #[.val (.int p1), .val (.int p2), .val (.int p3), .val (.int ((p1 &&& (255 : Int32)).toUInt32.toUInt16.toUInt32.toInt32)), .val (.int ((p2 &&& (255 : Int32)).toUInt32.toUInt16.toUInt32.toInt32)), .val (.int (p3 &&& (3 : Int32))), .val (.ref r101), .unset, .unset] [(.ref r101)])) _
    refine st104 _ ?_
    show Steps p.tables e below (T104.setTop (mkF m 93 #[.val (.int p1), .val (.int p2), .val (.int p3), .val (.int ((p1 &&& (255 : Int32)).toUInt32.toUInt16.toUInt32.toInt32)), .val (.int ((p2 &&& (255 : Int32)).toUInt32.toUInt16.toUInt32.toInt32)), .val (.int (p3 &&& (3 : Int32))), .val (.ref r101), .unset, .unset] [(.ref r104)])) _
    refine XS.astore X104.here hx rfl (hb hby at_93) rfl rfl (l' := #[.val (.int p1), .val (.int p2), .val (.int p3), .val (.int ((p1 &&& (255 : Int32)).toUInt32.toUInt16.toUInt32.toInt32)), .val (.int ((p2 &&& (255 : Int32)).toUInt32.toUInt16.toUInt32.toInt32)), .val (.int (p3 &&& (3 : Int32))), .val (.ref r101), .val (.ref r104), .unset]) rfl ?_
    show Steps p.tables e below (T104.setTop (mkF m 95 #[.val (.int p1), .val (.int p2), .val (.int p3), .val (.int ((p1 &&& (255 : Int32)).toUInt32.toUInt16.toUInt32.toInt32)), .val (.int ((p2 &&& (255 : Int32)).toUInt32.toUInt16.toUInt32.toInt32)), .val (.int (p3 &&& (3 : Int32))), .val (.ref r101), .val (.ref r104), .unset] [])) _
    refine XS.aload X104.here hx rfl (hb hby at_95) rfl rfl ?_
    show Steps p.tables e below (T104.setTop (mkF m 97 #[.val (.int p1), .val (.int p2), .val (.int p3), .val (.int ((p1 &&& (255 : Int32)).toUInt32.toUInt16.toUInt32.toInt32)), .val (.int ((p2 &&& (255 : Int32)).toUInt32.toUInt16.toUInt32.toInt32)), .val (.int (p3 &&& (3 : Int32))), .val (.ref r101), .val (.ref r104), .unset] [(.ref r104)])) _
    refine XS.ifnonnullYes X104.here hx rfl (pc0 := 97) (pc' := 102) rfl (hb hby at_97) rfl (by decide) (by decide) ?_
    show Steps p.tables e below (T104.setTop (mkF m 102 #[.val (.int p1), .val (.int p2), .val (.int p3), .val (.int ((p1 &&& (255 : Int32)).toUInt32.toUInt16.toUInt32.toInt32)), .val (.int ((p2 &&& (255 : Int32)).toUInt32.toUInt16.toUInt32.toInt32)), .val (.int (p3 &&& (3 : Int32))), .val (.ref r101), .val (.ref r104), .unset] [])) _
    refine XS.aload X104.here hx rfl (hb hby at_102) rfl rfl ?_
    show Steps p.tables e below (T104.setTop (mkF m 104 #[.val (.int p1), .val (.int p2), .val (.int p3), .val (.int ((p1 &&& (255 : Int32)).toUInt32.toUInt16.toUInt32.toInt32)), .val (.int ((p2 &&& (255 : Int32)).toUInt32.toUInt16.toUInt32.toInt32)), .val (.int (p3 &&& (3 : Int32))), .val (.ref r101), .val (.ref r104), .unset] [(.ref r104)])) _
    refine st107.trans ?_
    show Steps p.tables e below (T107.setTop (mkF m 107 #[.val (.int p1), .val (.int p2), .val (.int p3), .val (.int ((p1 &&& (255 : Int32)).toUInt32.toUInt16.toUInt32.toInt32)), .val (.int ((p2 &&& (255 : Int32)).toUInt32.toUInt16.toUInt32.toInt32)), .val (.int (p3 &&& (3 : Int32))), .val (.ref r101), .val (.ref r104), .unset] [(.ref wc)])) _
    refine XS.astore X107.here hx rfl (hb hby at_107) rfl rfl (l' := #[.val (.int p1), .val (.int p2), .val (.int p3), .val (.int ((p1 &&& (255 : Int32)).toUInt32.toUInt16.toUInt32.toInt32)), .val (.int ((p2 &&& (255 : Int32)).toUInt32.toUInt16.toUInt32.toInt32)), .val (.int (p3 &&& (3 : Int32))), .val (.ref r101), .val (.ref r104), .val (.ref wc)]) rfl ?_
    show Steps p.tables e below (T107.setTop (mkF m 109 #[.val (.int p1), .val (.int p2), .val (.int p3), .val (.int ((p1 &&& (255 : Int32)).toUInt32.toUInt16.toUInt32.toInt32)), .val (.int ((p2 &&& (255 : Int32)).toUInt32.toUInt16.toUInt32.toInt32)), .val (.int (p3 &&& (3 : Int32))), .val (.ref r101), .val (.ref r104), .val (.ref wc)] [])) _
    refine XS.aload X107.here hx rfl (hb hby at_109) rfl rfl ?_
    show Steps p.tables e below (T107.setTop (mkF m 111 #[.val (.int p1), .val (.int p2), .val (.int p3), .val (.int ((p1 &&& (255 : Int32)).toUInt32.toUInt16.toUInt32.toInt32)), .val (.int ((p2 &&& (255 : Int32)).toUInt32.toUInt16.toUInt32.toInt32)), .val (.int (p3 &&& (3 : Int32))), .val (.ref r101), .val (.ref r104), .val (.ref wc)] [(.ref wc)])) _
    refine st108 _ ?_
    show Steps p.tables e below (T108.setTop (mkF m 114 #[.val (.int p1), .val (.int p2), .val (.int p3), .val (.int ((p1 &&& (255 : Int32)).toUInt32.toUInt16.toUInt32.toInt32)), .val (.int ((p2 &&& (255 : Int32)).toUInt32.toUInt16.toUInt32.toInt32)), .val (.int (p3 &&& (3 : Int32))), .val (.ref r101), .val (.ref r104), .val (.ref wc)] [(.ref wc), (.ref wc)])) _
    refine Jvm.RoadKit.acmp (g := (mkF m 114 #[.val (.int p1), .val (.int p2), .val (.int p3), .val (.int ((p1 &&& (255 : Int32)).toUInt32.toUInt16.toUInt32.toInt32)), .val (.int ((p2 &&& (255 : Int32)).toUInt32.toUInt16.toUInt32.toInt32)), .val (.int (p3 &&& (3 : Int32))), .val (.ref r101), .val (.ref r104), .val (.ref wc)] [(.ref wc), (.ref wc)])) X108 hx rfl rfl rfl (pc0 := 114) (pc' := 119) (same := true) rfl (hb hby at_114) rfl (decide_eq_true rfl) (by decide) (by decide) ?_
    show Steps p.tables e below (T108.setTop (mkF m 119 #[.val (.int p1), .val (.int p2), .val (.int p3), .val (.int ((p1 &&& (255 : Int32)).toUInt32.toUInt16.toUInt32.toInt32)), .val (.int ((p2 &&& (255 : Int32)).toUInt32.toUInt16.toUInt32.toInt32)), .val (.int (p3 &&& (3 : Int32))), .val (.ref r101), .val (.ref r104), .val (.ref wc)] [])) _
    refine XS.aload X108.here hx rfl (hb hby at_119) rfl rfl ?_
    show Steps p.tables e below (T108.setTop (mkF m 121 #[.val (.int p1), .val (.int p2), .val (.int p3), .val (.int ((p1 &&& (255 : Int32)).toUInt32.toUInt16.toUInt32.toInt32)), .val (.int ((p2 &&& (255 : Int32)).toUInt32.toUInt16.toUInt32.toInt32)), .val (.int (p3 &&& (3 : Int32))), .val (.ref r101), .val (.ref r104), .val (.ref wc)] [(.ref wc)])) _
    refine st109.trans ?_
    show Steps p.tables e below (T109.setTop (mkF m 124 #[.val (.int p1), .val (.int p2), .val (.int p3), .val (.int ((p1 &&& (255 : Int32)).toUInt32.toUInt16.toUInt32.toInt32)), .val (.int ((p2 &&& (255 : Int32)).toUInt32.toUInt16.toUInt32.toInt32)), .val (.int (p3 &&& (3 : Int32))), .val (.ref r101), .val (.ref r104), .val (.ref wc)] [(.int (409 : Int32))])) _
    refine XS.sipush X109.here hx rfl (hb hby at_124) ?_
    show Steps p.tables e below (T109.setTop (mkF m 127 #[.val (.int p1), .val (.int p2), .val (.int p3), .val (.int ((p1 &&& (255 : Int32)).toUInt32.toUInt16.toUInt32.toInt32)), .val (.int ((p2 &&& (255 : Int32)).toUInt32.toUInt16.toUInt32.toInt32)), .val (.int (p3 &&& (3 : Int32))), .val (.ref r101), .val (.ref r104), .val (.ref wc)] [(.int (409 : Int32)), (.int (409 : Int32))])) _
    refine XS.icmpYes X109.here hx rfl (pc0 := 127) (pc' := 132) rfl (hb hby at_127) rfl (teq (rfl : (409 : Int32) = (409 : Int32))).1 (by decide) (by decide) ?_
    show Steps p.tables e below (T109.setTop (mkF m 132 #[.val (.int p1), .val (.int p2), .val (.int p3), .val (.int ((p1 &&& (255 : Int32)).toUInt32.toUInt16.toUInt32.toInt32)), .val (.int ((p2 &&& (255 : Int32)).toUInt32.toUInt16.toUInt32.toInt32)), .val (.int (p3 &&& (3 : Int32))), .val (.ref r101), .val (.ref r104), .val (.ref wc)] [])) _
    refine st110 _ ?_
    show Steps p.tables e below (T110.setTop (mkF m 134 #[.val (.int p1), .val (.int p2), .val (.int p3), .val (.int ((p1 &&& (255 : Int32)).toUInt32.toUInt16.toUInt32.toInt32)), .val (.int ((p2 &&& (255 : Int32)).toUInt32.toUInt16.toUInt32.toInt32)), .val (.int (p3 &&& (3 : Int32))), .val (.ref r101), .val (.ref r104), .val (.ref wc)] [(.ref a110)])) _
    refine XS.aload X110.here hx rfl (hb hby at_134) rfl rfl ?_
    show Steps p.tables e below (T110.setTop (mkF m 136 #[.val (.int p1), .val (.int p2), .val (.int p3), .val (.int ((p1 &&& (255 : Int32)).toUInt32.toUInt16.toUInt32.toInt32)), .val (.int ((p2 &&& (255 : Int32)).toUInt32.toUInt16.toUInt32.toInt32)), .val (.int (p3 &&& (3 : Int32))), .val (.ref r101), .val (.ref r104), .val (.ref wc)] [(.ref wc), (.ref a110)])) _
    refine st115.trans ?_
    show Steps p.tables e below (T115.setTop (mkF m 139 #[.val (.int p1), .val (.int p2), .val (.int p3), .val (.int ((p1 &&& (255 : Int32)).toUInt32.toUInt16.toUInt32.toInt32)), .val (.int ((p2 &&& (255 : Int32)).toUInt32.toUInt16.toUInt32.toInt32)), .val (.int (p3 &&& (3 : Int32))), .val (.ref r101), .val (.ref r104), .val (.ref wc)] [(.ref wt), (.ref a110)])) _
    refine st116.trans ?_
    show Steps p.tables e below (T116.setTop (mkF m 142 #[.val (.int p1), .val (.int p2), .val (.int p3), .val (.int ((p1 &&& (255 : Int32)).toUInt32.toUInt16.toUInt32.toInt32)), .val (.int ((p2 &&& (255 : Int32)).toUInt32.toUInt16.toUInt32.toInt32)), .val (.int (p3 &&& (3 : Int32))), .val (.ref r101), .val (.ref r104), .val (.ref wc)] [(.int (1 : Int32))])) _
    refine XS.ifYes X116.here hx rfl (pc0 := 142) (pc' := 147) rfl (hb hby at_142) rfl ((if0 _ _).trans (feq hc142).2) (by decide) (by decide) ?_
    show Steps p.tables e below (T116.setTop (mkF m 147 #[.val (.int p1), .val (.int p2), .val (.int p3), .val (.int ((p1 &&& (255 : Int32)).toUInt32.toUInt16.toUInt32.toInt32)), .val (.int ((p2 &&& (255 : Int32)).toUInt32.toUInt16.toUInt32.toInt32)), .val (.int (p3 &&& (3 : Int32))), .val (.ref r101), .val (.ref r104), .val (.ref wc)] [])) _
    refine XS.aload X116.here hx rfl (hb hby at_147) rfl rfl ?_
    show Steps p.tables e below (T116.setTop (mkF m 149 #[.val (.int p1), .val (.int p2), .val (.int p3), .val (.int ((p1 &&& (255 : Int32)).toUInt32.toUInt16.toUInt32.toInt32)), .val (.int ((p2 &&& (255 : Int32)).toUInt32.toUInt16.toUInt32.toInt32)), .val (.int (p3 &&& (3 : Int32))), .val (.ref r101), .val (.ref r104), .val (.ref wc)] [(.ref r104)])) _
    refine st118.trans ?_
    show Steps p.tables e below (T118.setTop (mkF m 152 #[.val (.int p1), .val (.int p2), .val (.int p3), .val (.int ((p1 &&& (255 : Int32)).toUInt32.toUInt16.toUInt32.toInt32)), .val (.int ((p2 &&& (255 : Int32)).toUInt32.toUInt16.toUInt32.toInt32)), .val (.int (p3 &&& (3 : Int32))), .val (.ref r101), .val (.ref r104), .val (.ref wc)] [(.ref r101)])) _
    refine XS.aload X118.here hx rfl (hb hby at_152) rfl rfl ?_
    show Steps p.tables e below (T118.setTop (mkF m 154 #[.val (.int p1), .val (.int p2), .val (.int p3), .val (.int ((p1 &&& (255 : Int32)).toUInt32.toUInt16.toUInt32.toInt32)), .val (.int ((p2 &&& (255 : Int32)).toUInt32.toUInt16.toUInt32.toInt32)), .val (.int (p3 &&& (3 : Int32))), .val (.ref r101), .val (.ref r104), .val (.ref wc)] [(.ref r101), (.ref r101)])) _
    refine Jvm.RoadKit.acmp (g := (mkF m 154 #[.val (.int p1), .val (.int p2), .val (.int p3), .val (.int ((p1 &&& (255 : Int32)).toUInt32.toUInt16.toUInt32.toInt32)), .val (.int ((p2 &&& (255 : Int32)).toUInt32.toUInt16.toUInt32.toInt32)), .val (.int (p3 &&& (3 : Int32))), .val (.ref r101), .val (.ref r104), .val (.ref wc)] [(.ref r101), (.ref r101)])) X118 hx rfl rfl rfl (pc0 := 154) (pc' := 157) (same := true) rfl (hb hby at_154) rfl (decide_eq_true rfl) (by decide) (by decide) ?_
    show Steps p.tables e below (T118.setTop (mkF m 157 #[.val (.int p1), .val (.int p2), .val (.int p3), .val (.int ((p1 &&& (255 : Int32)).toUInt32.toUInt16.toUInt32.toInt32)), .val (.int ((p2 &&& (255 : Int32)).toUInt32.toUInt16.toUInt32.toInt32)), .val (.int (p3 &&& (3 : Int32))), .val (.ref r101), .val (.ref r104), .val (.ref wc)] [])) _
    refine XS.iconst X118.here hx rfl (hb hby at_157) ?_
    show Steps p.tables e below (T118.setTop (mkF m 158 #[.val (.int p1), .val (.int p2), .val (.int p3), .val (.int ((p1 &&& (255 : Int32)).toUInt32.toUInt16.toUInt32.toInt32)), .val (.int ((p2 &&& (255 : Int32)).toUInt32.toUInt16.toUInt32.toInt32)), .val (.int (p3 &&& (3 : Int32))), .val (.ref r101), .val (.ref r104), .val (.ref wc)] [(.int (1 : Int32))])) _
    refine XS.goto X118.here hx rfl (pc0 := 158) (pc' := 162) rfl (hb hby at_158) (by decide) (by decide) ?_
    show Steps p.tables e below (T118.setTop (mkF m 162 #[.val (.int p1), .val (.int p2), .val (.int p3), .val (.int ((p1 &&& (255 : Int32)).toUInt32.toUInt16.toUInt32.toInt32)), .val (.int ((p2 &&& (255 : Int32)).toUInt32.toUInt16.toUInt32.toInt32)), .val (.int (p3 &&& (3 : Int32))), .val (.ref r101), .val (.ref r104), .val (.ref wc)] [(.int (1 : Int32))])) _
    exact retN X118 hx (t := .boolean) Bd.returns (by simp) (hb hby at_162) hr
  · show Q0 h0 n0 _ T118.heap _
    rw [eq118]
    exact ⟨rfl, N118⟩
set_option maxRecDepth 65536 in
set_option maxHeartbeats 40000000 in
theorem rm0_3 (l : Launch) (Z : State) (a0 : Array Value) (hw : ∀ d ∈ tables_1, d.before a0 Z = true) (ws : List Jvm.Cond) (p1 : Int32) (p2 : Int32) (p3 : Int32) (wc : Addr) (wt : Addr) (tt : Addr) (kt : ClassId) (G1 : Int32) (h0 : Heap) (n0 : Nat) (X00 : Old Z n0 h0) (hl : l.stackTraces = true) (hr2 : ∀ d ∈ twoRefs, d.before a0 Z = true) (S_c : Sta Z Z.heap EC "CONFLICT" ECD (.ref wc)) (O2 : Sta Z Z.heap ST "COMPACT_STRINGS" "Z" (.int G1)) (P5 : ¬ (G1 = (0 : Int32))) (F_s : Fld Z Z.heap wc EC "status" "I" (.int (409 : Int32))) (F_t : Fld Z Z.heap wc EC "code" "Ljava/lang/String;" (.ref wt)) (E_c : Exa Z Z.heap wc EC) (E_t : Exa Z Z.heap wt ST) (C_t : Fld Z Z.heap wt ST "coder" "B" (.int (0 : Int32))) (V_t : Fld Z Z.heap wt ST "value" "[B" (.ref tt)) (K_t : Arv Z Z.heap tt kt .byte (8 : Int32) [(.int (99 : Int32)), (.int (111 : Int32)), (.int (110 : Int32)), (.int (102 : Int32)), (.int (108 : Int32)), (.int (105 : Int32)), (.int (99 : Int32)), (.int (116 : Int32))] (.int (0 : Int32))) (hk_ : (p3 &&& (3 : Int32)) = (3 : Int32)) :
    MetFree l x (head1 (Jvm.Cond.code x code maxLocals ret :: ws) room_1) (fun a U => a = #[(.int p1), (.int p2), (.int p3)] ∧ Z.Warmed39 U.vm ∧ U.heap = h0 ∧ CHv Z consts_1 U.vm h0) (fun _ _ bl s _ => s.vm.MethodsKnown ∧ s.vm.FramesKnown bl) (fun _ U o U' => ∃ rv rL, o = .returned rv ∧ Q0 h0 n0 rv U'.heap rL ∧ ReturnedEndW U o U' rL room_1.cells room_1.slots) := by
  refine MetFree.of_bodySF (plainFor_of_name pn_0) hisR ?_
  intro p e s m args below meth c s₁ Bd hml0 hP hK
  obtain ⟨rfl, hZ, hh, hCH⟩ := hP
  have hx := Bd.exec
  have hby := Bd.bytes
  have hml : c.maxLocals = 9 := hml0
  have hown : s.vm.findClass "com/example/bill_per_call/billpercall/RequestExceptionConflictPinLaw" = some m.cls := findClass_of_methodNamed Bd.named
  have hnm := (name_of_methodNamed Bd.named Bd.method).1
  have X0 : Stand p l e room_1 (s.setVm s.vm) m #[(.int p1), (.int p2), (.int p3)] below meth c s₁ [] 0 0 := Stand.of_body Bd
  have e0 : s₁.heap = h0 := by rw [← hh, Bd.state]; rfl
  have N0 := Fr.nil n0
  have hS0 : s.Since s.vm s.heap.size := own_since s
  have hk0 : s.heap.size ≤ h0.size := by rw [hh]; exact Nat.le_refl _
  have hstr := own_str hw
  have hEL := own_EL hw
  have pre0 : ∀ t, Steps p.tables e below (s₁.setTop (mkF m 0 #[.val (.int p1), .val (.int p2), .val (.int p3), .unset, .unset, .unset, .unset, .unset, .unset] [])) t → Steps p.tables e below (s₁.setTop (entryFrame m #[(.int p1), (.int p2), (.int p3)] maxLocals)) t := fun t k => castTop (ef_0 m p1 p2 p3) k
  have hwe : ∀ d ∈ StrChars.Road.wordsEq, d.before a0 Z = true := fun d hd => hw d ((by decide +kernel : ∀ d ∈ StrChars.Road.wordsEq, d ∈ tables_1) d hd)
  have hws : ∀ d ∈ StrChars.Road.words, d.before a0 Z = true := fun d hd => hw d ((by decide +kernel : ∀ d ∈ StrChars.Road.words, d ∈ tables_1) d hd)
  have hpc : ∀ c ∈ ([(nar .char ((p1 &&& (255 : Int32)).toUInt32.toUInt16.toUInt32.toInt32)), (nar .char ((p2 &&& (255 : Int32)).toUInt32.toUInt16.toUInt32.toInt32))] : List Int32), ¬ c < 0 ∧ ¬ (255 : Int32) < c := own_two (own_and255 _) (own_and255 _)
  have hc22 : ¬ ((p3 &&& (3 : Int32)) = (0 : Int32)) := by rw [hk_]; decide
  have hc34 : ¬ ((p3 &&& (3 : Int32)) = (1 : Int32)) := by rw [hk_]; decide
  have hc55 : ¬ ((p3 &&& (3 : Int32)) = (2 : Int32)) := by rw [hk_]; decide
  obtain ⟨T101, h101, X101, e101, E101, A101, D101, U101, st101⟩ := newO X0 hx hZ hown (hw _ (List.mem_of_getElem? (i := 131) rfl)) (hw _ (List.mem_of_getElem? (i := 10) rfl)) (hw _ (List.mem_of_getElem? (i := 2) rfl)) e0 (g := (mkF m 67 #[.val (.int p1), .val (.int p2), .val (.int p3), .val (.int ((p1 &&& (255 : Int32)).toUInt32.toUInt16.toUInt32.toInt32)), .val (.int ((p2 &&& (255 : Int32)).toUInt32.toUInt16.toUInt32.toInt32)), .val (.int (p3 &&& (3 : Int32))), .unset, .unset, .unset] [])) rfl (hb hby at_67) (by decide) (by decide)
  obtain ⟨b101, g101⟩ : ∃ z, z = h0.size := ⟨_, rfl⟩
  rw [← g101] at A101 D101 U101 st101
  have g_b101 : n0 ≤ b101 := Nat.le_trans (own_le X00) (Nat.le_of_eq g101.symm)
  have sn101 : Safe Z consts_1 s.vm h0 b101 := Safe.new (Nat.le_of_eq g101.symm)
  have sf102_b101 := Safe.ext E101 hCH sn101
  have cr102 := (CHr.refl hCH).trans (CHr.ext E101 hCH)
  have ch102 := CHv.ext E101 hCH
  have F101_value : Fld Z h101 b101 "java/lang/String" "value" "[B" .null := D101 (Or.inr (hw _ (List.mem_of_getElem? (i := 23) rfl))) (ty := (.array .byte)) (by decide)
  have F101_coder : Fld Z h101 b101 "java/lang/String" "coder" "B" (.int (0 : Int32)) := D101 (Or.inr (hw _ (List.mem_of_getElem? (i := 25) rfl))) (ty := .byte) (by decide)
  have lz103_b101 := A101.lt
  obtain ⟨T103, h103, k103, X103, e103, E103, A103, st103⟩ := newP X101 hx hZ (hw _ (List.mem_of_getElem? (i := 132) rfl)) e101 (g := (mkF m 72 #[.val (.int p1), .val (.int p2), .val (.int p3), .val (.int ((p1 &&& (255 : Int32)).toUInt32.toUInt16.toUInt32.toInt32)), .val (.int ((p2 &&& (255 : Int32)).toUInt32.toUInt16.toUInt32.toInt32)), .val (.int (p3 &&& (3 : Int32))), .unset, .unset, .unset] [(.int (2 : Int32)), (.ref b101), (.ref b101)])) rfl (hb hby at_72) rfl (by decide) (cap := 2) (by decide) (by decide) (by decide) (by decide)
  obtain ⟨b103, g103⟩ : ∃ z, z = h101.size := ⟨_, rfl⟩
  rw [← g103] at A103 st103
  have y104 := (X00.ext E101)
  have g_b103 : n0 ≤ b103 := Nat.le_trans (own_le y104) (Nat.le_of_eq g103.symm)
  have lt_b101_b103 : b101 < b103 := Nat.lt_of_lt_of_le lz103_b101 (Nat.le_of_eq g103.symm)
  have sn103 : Safe Z consts_1 s.vm h101 b103 := Safe.new (Nat.le_of_eq g103.symm)
  have V103 : Arv Z h103 b103 k103 .char (2 : Int32) [(.int (0 : Int32)), (.int (0 : Int32))] (.int (0 : Int32)) := (Arv.new A103 (by decide)).pad (pad_rep [] (.int (0 : Int32)) 2)
  have sf105_b101 := Safe.ext E103 ch102 sf102_b101
  have sf105_b103 := Safe.ext E103 ch102 sn103
  have cr105 := cr102.trans (CHr.ext E103 ch102)
  have ch105 := CHv.ext E103 ch102
  obtain ⟨cl106, Ar106, q106, S106, M106, H106, G106⟩ := id V103
  obtain ⟨T106, h106, X106, e106, W106, st106⟩ := stC X103 hx hZ e103 Ar106 (j := (0 : Int32)) (inb_of S106 ⟨by decide, by decide⟩) (g := (mkF m 77 #[.val (.int p1), .val (.int p2), .val (.int p3), .val (.int ((p1 &&& (255 : Int32)).toUInt32.toUInt16.toUInt32.toInt32)), .val (.int ((p2 &&& (255 : Int32)).toUInt32.toUInt16.toUInt32.toInt32)), .val (.int (p3 &&& (3 : Int32))), .unset, .unset, .unset] [(.int ((p1 &&& (255 : Int32)).toUInt32.toUInt16.toUInt32.toInt32)), (.int (0 : Int32)), (.ref b103), (.ref b103), (.ref b101), (.ref b101)])) rfl rfl (hb hby at_77)
  have V106 : Arv Z h106 b103 k103 .char (2 : Int32) [(.int (nar .char ((p1 &&& (255 : Int32)).toUInt32.toUInt16.toUInt32.toInt32))), (.int (0 : Int32))] (.int (0 : Int32)) := Arv.set Ar106 q106 S106 M106 H106 G106 (fits_nar_char _) W106 0 rfl (Nat.le_of_ble_eq_true rfl)
  have sf107_b101 := Safe.wr W106 sf105_b103 ch105 sf105_b101
  have sf107_b103 := Safe.wr W106 sf105_b103 ch105 sf105_b103
  have cr107 := cr105.trans (CHr.wr W106 sf105_b103 ch105)
  have ch107 := CHv.wr W106 sf105_b103 ch105
  have N106 := Fr.snoc X106 N0 g_b103
  obtain ⟨cl108, Ar108, q108, S108, M108, H108, G108⟩ := id V106
  obtain ⟨T108, h108, X108, e108, W108, st108⟩ := stC X106 hx hZ e106 Ar108 (j := (1 : Int32)) (inb_of S108 ⟨by decide, by decide⟩) (g := (mkF m 82 #[.val (.int p1), .val (.int p2), .val (.int p3), .val (.int ((p1 &&& (255 : Int32)).toUInt32.toUInt16.toUInt32.toInt32)), .val (.int ((p2 &&& (255 : Int32)).toUInt32.toUInt16.toUInt32.toInt32)), .val (.int (p3 &&& (3 : Int32))), .unset, .unset, .unset] [(.int ((p2 &&& (255 : Int32)).toUInt32.toUInt16.toUInt32.toInt32)), (.int (1 : Int32)), (.ref b103), (.ref b103), (.ref b101), (.ref b101)])) rfl rfl (hb hby at_82)
  have V108 : Arv Z h108 b103 k103 .char (2 : Int32) [(.int (nar .char ((p1 &&& (255 : Int32)).toUInt32.toUInt16.toUInt32.toInt32))), (.int (nar .char ((p2 &&& (255 : Int32)).toUInt32.toUInt16.toUInt32.toInt32)))] (.int (0 : Int32)) := Arv.set Ar108 q108 S108 M108 H108 G108 (fits_nar_char _) W108 1 rfl (Nat.le_of_ble_eq_true rfl)
  have sf109_b101 := Safe.wr W108 sf107_b103 ch107 sf107_b101
  have sf109_b103 := Safe.wr W108 sf107_b103 ch107 sf107_b103
  have cr109 := cr107.trans (CHr.wr W108 sf107_b103 ch107)
  have ch109 := CHv.wr W108 sf107_b103 ch107
  have N108 := Fr.snoc X108 N106 g_b103
  have hV_ : Arv Z h108 b103 k103 .char (2 : Int32) (([(nar .char ((p1 &&& (255 : Int32)).toUInt32.toUInt16.toUInt32.toInt32)), (nar .char ((p2 &&& (255 : Int32)).toUInt32.toUInt16.toUInt32.toInt32))] : List Int32).map Value.int) (.int (0 : Int32)) := V108
  have y110 := (((y104.ext E103).wr W106 g_b103).wr W108 g_b103)
  have y111 := (((A101.ext E103).wr W106).wr W108)
  have y112 := (((F101_value.ext E103).other W106 (Or.inl (Nat.ne_of_lt lt_b101_b103))).other W108 (Or.inl (Nat.ne_of_lt lt_b101_b103)))
  have y113 := (((F101_coder.ext E103).other W106 (Or.inl (Nat.ne_of_lt lt_b101_b103))).other W108 (Or.inl (Nat.ne_of_lt lt_b101_b103)))
  obtain ⟨_, _, ⟨T114, L114, k114, n114⟩, -, X114, ⟨Lc114, hQ114, l114, y114, z114⟩, st114⟩ := X108.specialBack hx (y := (⟨"java/lang/String", "<init>", "([C)V"⟩ : MethodName)) rfl hown (mvT hZ (hw _ (List.mem_of_getElem? (i := 133) rfl))) (mvT hZ (hw _ (List.mem_of_getElem? (i := 134) rfl))) (mvT hZ (hw _ (List.mem_of_getElem? (i := 135) rfl))) (by decide) (StrChars.Road.backV (W := 1) hZ hws (kI := 4) (hw _ (List.mem_of_getElem? (i := 10) rfl)) (cs := ([(nar .char ((p1 &&& (255 : Int32)).toUInt32.toUInt16.toUInt32.toInt32)), (nar .char ((p2 &&& (255 : Int32)).toUInt32.toUInt16.toUInt32.toInt32))] : List Int32)) (bs := ([(nar .char ((p1 &&& (255 : Int32)).toUInt32.toUInt16.toUInt32.toInt32)), (nar .char ((p2 &&& (255 : Int32)).toUInt32.toUInt16.toUInt32.toInt32))] : List Int32).map (fun c => c.toInt8.toInt32)) (n := 2) g_b101 (own_le y110) y111 y112 y113 hV_ (O2.ext y110.2) P5 rfl rfl (by decide) (by decide) hpc rfl (by decide) (by decide)) (g := (mkF m 83 #[.val (.int p1), .val (.int p2), .val (.int p3), .val (.int ((p1 &&& (255 : Int32)).toUInt32.toUInt16.toUInt32.toInt32)), .val (.int ((p2 &&& (255 : Int32)).toUInt32.toUInt16.toUInt32.toInt32)), .val (.int (p3 &&& (3 : Int32))), .unset, .unset, .unset] [(.ref b103), (.ref b101), (.ref b101)])) rfl (by rw [hml]; rfl) (Steps.refl _) (a := b101) (argsL := [(.ref b103)]) (rest := [(.ref b101)]) (lenOf pd_AC_V rfl) rfl (by show 2 * 0 + _ ≤ _; exact Nat.le_of_eq rfl) (hb hby at_83) (fun _ _ => ⟨rfl, e108, (by decide : 2 + 1 ≤ _), (by decide : 6 + 2 ≤ _)⟩)
  dsimp only [Pt.U, Pt.locs, Pt.cells, Pt.slots] at X114 l114 y114 z114 st114 hQ114
  subst l114 y114 z114
  obtain ⟨rfl, N114q, Kc114, -, -, -, -, -, -, -, -, -⟩ := hQ114
  have N114 := Fr.app N108 N114q
  have hs115_ : ∀ x ∈ ([b101] : List Addr), Safe Z consts_1 s.vm h108 x := (allS sf109_b101 all0)
  have sf115_b101 := Safe.keep Kc114 hs115_ ch109 sf109_b101
  have sf115_b103 := Safe.keep Kc114 hs115_ ch109 sf109_b103
  have cr115 := cr109.trans (CHr.keep Kc114 hs115_ ch109)
  have ch115 := CHv.keep Kc114 hs115_ ch109
  have y116 := (y110.keep Kc114 (allS g_b101 all0))
  obtain ⟨_, _, ⟨T117, L117, k117, n117⟩, -, X117, ⟨Lc117, hQ117, l117, y117, z117⟩, st117⟩ := Jvm.LawKit.callS X114 hx (y := (⟨"com/example/bill_per_call/billpercall/RequestException", "conflict", "(Ljava/lang/String;)Lcom/example/bill_per_call/billpercall/RequestException;"⟩ : MethodName)) hown (mvT hZ (hw _ (List.mem_of_getElem? (i := 26) rfl))) (mvT hZ (hw _ (List.mem_of_getElem? (i := 27) rfl))) (mvT hZ (hw _ (List.mem_of_getElem? (i := 28) rfl))) (mvT hZ (hw _ (List.mem_of_getElem? (i := 29) rfl))) (by decide) (backOfKL (W := 0) (rmCf_r l Z a0 hw [] b101 wc T114.heap n0 y116 hl hr2 S_c) hZ (hw _ (List.mem_of_getElem? (i := 29) rfl)) (hw _ (List.mem_of_getElem? (i := 28) rfl)) (by decide) (by decide) hK.1 hK.2) (g := (mkF m 90 #[.val (.int p1), .val (.int p2), .val (.int p3), .val (.int ((p1 &&& (255 : Int32)).toUInt32.toUInt16.toUInt32.toInt32)), .val (.int ((p2 &&& (255 : Int32)).toUInt32.toUInt16.toUInt32.toInt32)), .val (.int (p3 &&& (3 : Int32))), .val (.ref b101), .unset, .unset] [(.ref b101)])) rfl (by rw [hml]; rfl) (argsL := [(.ref b101)]) (rest := []) (lenOf pd_Ljava_lang_String__Lcom_example_bill_per_call_billpercall_RequestException_ rfl) rfl (by show 2 * 0 + _ ≤ _; exact Nat.le_of_eq rfl) (hb hby at_90) (fun _ _ => ⟨rfl, rfl, (by decide : 3 + 2 ≤ _), (by decide : 8 + 2759 ≤ _)⟩)
  dsimp only [Pt.U, Pt.locs, Pt.cells, Pt.slots] at X117 l117 y117 z117 st117 hQ117
  subst l117 y117 z117
  obtain ⟨r117, rfl, N117q, Kc117, B117⟩ := hQ117
  have N117 := Fr.app N114 N117q
  have hs118_ : ∀ x ∈ ([] : List Addr), Safe Z consts_1 s.vm T114.heap x := all0
  have sf118_b101 := Safe.keep Kc117 hs118_ ch115 sf115_b101
  have sf118_b103 := Safe.keep Kc117 hs118_ ch115 sf115_b103
  have cr118 := cr115.trans (CHr.keep Kc117 hs118_ ch115)
  have ch118 := CHv.keep Kc117 hs118_ ch115
  have y119 := (y116.keep Kc117 all0)
  obtain ⟨cq120, kq120, q120a, q120b, q120c⟩ := isOf hZ rfl B117.1
  obtain ⟨_, _, ⟨T120, L120, k120, n120⟩, -, X120, ⟨Lc120, hQ120, l120, y120, z120⟩, st120⟩ := X117.virtualBack hx (y := (⟨"com/example/bill_per_call/billpercall/RequestException", "code", "()Lcom/example/bill_per_call/billpercall/ErrorCode;"⟩ : MethodName)) (z := (⟨"com/example/bill_per_call/billpercall/RequestException", "code", "()Lcom/example/bill_per_call/billpercall/ErrorCode;"⟩ : MethodName)) hown (mvT hZ (hw _ (List.mem_of_getElem? (i := 94) rfl))) (mvT hZ (hw _ (List.mem_of_getElem? (i := 95) rfl))) (notFace_of_selects (args := #[]) (mvT hZ (hw _ (List.mem_of_getElem? (i := 97) rfl)))) (mvT hZ (hw _ (List.mem_of_getElem? (i := 97) rfl))) (mvT hZ (hw _ (List.mem_of_getElem? (i := 96) rfl))) (by decide) (backOf (W := 0) (rmCo l Z a0 hw [] r117 wc T117.heap n0 y119 B117.2.1) hZ (hw _ (List.mem_of_getElem? (i := 98) rfl)) (hw _ (List.mem_of_getElem? (i := 28) rfl)) (by decide) (by decide)) q120a q120c (g := (mkF m 104 #[.val (.int p1), .val (.int p2), .val (.int p3), .val (.int ((p1 &&& (255 : Int32)).toUInt32.toUInt16.toUInt32.toInt32)), .val (.int ((p2 &&& (255 : Int32)).toUInt32.toUInt16.toUInt32.toInt32)), .val (.int (p3 &&& (3 : Int32))), .val (.ref b101), .val (.ref r117), .unset] [(.ref r117)])) rfl (by rw [hml]; rfl) (Steps.refl _) (argsL := []) (rest := []) (lenOf pd__Lcom_example_bill_per_call_billpercall_ErrorCode_ rfl) rfl (by show 2 * 0 + _ ≤ _; exact Nat.le_of_eq rfl) (hb hby at_104) (fun _ _ => ⟨rfl, rfl, (by decide : 5 + 0 ≤ _), (by decide : 2767 + 0 ≤ _)⟩)
  dsimp only [Pt.U, Pt.locs, Pt.cells, Pt.slots] at X120 l120 y120 z120 st120 hQ120
  subst l120 y120 z120
  obtain ⟨rfl, N120q, eq120⟩ := hQ120
  have N120 := Fr.app N117 N120q
  obtain ⟨T121, X121, e121, st121⟩ := getS2 X120 hx hZ hown (host := "") (Or.inl (hw _ (List.mem_of_getElem? (i := 99) rfl))) Via.refl eq120 (S_c.ext y119.2) (g := (mkF m 111 #[.val (.int p1), .val (.int p2), .val (.int p3), .val (.int ((p1 &&& (255 : Int32)).toUInt32.toUInt16.toUInt32.toInt32)), .val (.int ((p2 &&& (255 : Int32)).toUInt32.toUInt16.toUInt32.toInt32)), .val (.int (p3 &&& (3 : Int32))), .val (.ref b101), .val (.ref r117), .val (.ref wc)] [(.ref wc)])) rfl (hb hby at_111)
  obtain ⟨cq122, kq122, q122a, q122b, q122c⟩ := isOf hZ e121 (E_c.ext y119.2)
  obtain ⟨_, _, ⟨T122, L122, k122, n122⟩, -, X122, ⟨Lc122, hQ122, l122, y122, z122⟩, st122⟩ := X121.virtualBack hx (y := (⟨"com/example/bill_per_call/billpercall/ErrorCode", "status", "()I"⟩ : MethodName)) (z := (⟨"com/example/bill_per_call/billpercall/ErrorCode", "status", "()I"⟩ : MethodName)) hown (mvT hZ (hw _ (List.mem_of_getElem? (i := 100) rfl))) (mvT hZ (hw _ (List.mem_of_getElem? (i := 101) rfl))) (notFace_of_selects (args := #[]) (mvT hZ (hw _ (List.mem_of_getElem? (i := 103) rfl)))) (mvT hZ (hw _ (List.mem_of_getElem? (i := 103) rfl))) (mvT hZ (hw _ (List.mem_of_getElem? (i := 102) rfl))) (by decide) (backOf (W := 0) (rmEs l Z a0 hw [] wc (409 : Int32) T117.heap n0 y119 (F_s.ext y119.2)) hZ (hw _ (List.mem_of_getElem? (i := 104) rfl)) (hw _ (List.mem_of_getElem? (i := 33) rfl)) (by decide) (by decide)) q122a q122c (g := (mkF m 121 #[.val (.int p1), .val (.int p2), .val (.int p3), .val (.int ((p1 &&& (255 : Int32)).toUInt32.toUInt16.toUInt32.toInt32)), .val (.int ((p2 &&& (255 : Int32)).toUInt32.toUInt16.toUInt32.toInt32)), .val (.int (p3 &&& (3 : Int32))), .val (.ref b101), .val (.ref r117), .val (.ref wc)] [(.ref wc)])) rfl (by rw [hml]; rfl) (Steps.refl _) (argsL := []) (rest := []) (lenOf pd__I rfl) rfl (by show 2 * 0 + _ ≤ _; exact Nat.le_of_eq rfl) (hb hby at_121) (fun _ _ => ⟨rfl, e121, (by decide : 5 + 0 ≤ _), (by decide : 2767 + 0 ≤ _)⟩)
  dsimp only [Pt.U, Pt.locs, Pt.cells, Pt.slots] at X122 l122 y122 z122 st122 hQ122
  subst l122 y122 z122
  obtain ⟨rfl, N122q, eq122⟩ := hQ122
  have N122 := Fr.app N120 N122q
  have y124 := ((y111.keep Kc114).keep Kc117)
  have lz123_b101 := y124.lt
  have y125 := ((V108.keep Kc114 (own_nmc (Ne.symm (Nat.ne_of_lt lt_b101_b103)) own_nm0)).keep Kc117 own_nm0)
  have lz123_b103 := y125.lt
  have lz123_r117 := B117.1.lt
  have y126 := (Nat.le_trans (Nat.le_trans (Nat.le_trans (Nat.le_trans (Nat.le_trans (Nat.le_trans hk0 E101.1) E103.1) (Keep.of_wr W106).1) (Keep.of_wr W108).1) Kc114.1) Kc117.1)
  obtain ⟨a123, T123, h123, k123, c123, kc123, X123, e123, E123, hS123, hk123, hZ123, hown123, A123, Fc123, Fv123, V123, la123, lc123, R123, -, ns123, st123⟩ := ldcCH (z := (8 : Int32)) (vs := [(.int (99 : Int32)), (.int (111 : Int32)), (.int (110 : Int32)), (.int (102 : Int32)), (.int (108 : Int32)), (.int (105 : Int32)), (.int (99 : Int32)), (.int (116 : Int32))]) X122 hx hZ hown (hw _ (List.mem_of_getElem? (i := 107) rfl)) hstr eq122 hS0 y126 hEL (by decide) ch118 ⟨by decide, by decide⟩ (by decide) (by decide) (g := (mkF m 132 #[.val (.int p1), .val (.int p2), .val (.int p3), .val (.int ((p1 &&& (255 : Int32)).toUInt32.toUInt16.toUInt32.toInt32)), .val (.int ((p2 &&& (255 : Int32)).toUInt32.toUInt16.toUInt32.toInt32)), .val (.int (p3 &&& (3 : Int32))), .val (.ref b101), .val (.ref r117), .val (.ref wc)] [])) rfl (hb hby at_132) (n := 32) (by decide) (by decide) (by decide) (by decide)
  have sf127_b101 := R123.safe lz123_b101 sf118_b101
  have sf127_b103 := R123.safe lz123_b103 sf118_b103
  have cr127 := cr118.trans R123
  have ch127 := R123.1
  have tk128 := Vm.MethodsKnown.alikeC (own_al hS123) hK.1
  have bk128 := Vm.FramesKnown.alikeC (own_al hS123) hK.2
  have y129 := (y119.ext E123)
  obtain ⟨cq130, kq130, q130a, q130b, q130c⟩ := isOf hZ123 e123 (E_c.ext y129.2)
  obtain ⟨_, _, ⟨T130, L130, k130, n130⟩, -, X130, ⟨Lc130, hQ130, l130, y130, z130⟩, st130⟩ := X123.virtualBack hx (y := (⟨"com/example/bill_per_call/billpercall/ErrorCode", "code", "()Ljava/lang/String;"⟩ : MethodName)) (z := (⟨"com/example/bill_per_call/billpercall/ErrorCode", "code", "()Ljava/lang/String;"⟩ : MethodName)) hown123 (mvT hZ123 (hw _ (List.mem_of_getElem? (i := 110) rfl))) (mvT hZ123 (hw _ (List.mem_of_getElem? (i := 111) rfl))) (notFace_of_selects (args := #[]) (mvT hZ123 (hw _ (List.mem_of_getElem? (i := 113) rfl)))) (mvT hZ123 (hw _ (List.mem_of_getElem? (i := 113) rfl))) (mvT hZ123 (hw _ (List.mem_of_getElem? (i := 112) rfl))) (by decide) (backOf (W := 1) (rmEc l Z a0 hw [] wc wt h123 n0 y129 (F_t.ext y129.2)) hZ123 (hw _ (List.mem_of_getElem? (i := 114) rfl)) (hw _ (List.mem_of_getElem? (i := 33) rfl)) (by decide) (by decide)) q130a q130c (g := (mkF m 136 #[.val (.int p1), .val (.int p2), .val (.int p3), .val (.int ((p1 &&& (255 : Int32)).toUInt32.toUInt16.toUInt32.toInt32)), .val (.int ((p2 &&& (255 : Int32)).toUInt32.toUInt16.toUInt32.toInt32)), .val (.int (p3 &&& (3 : Int32))), .val (.ref b101), .val (.ref r117), .val (.ref wc)] [(.ref wc), (.ref a123)])) rfl (by rw [hml]; rfl) (Steps.refl _) (argsL := []) (rest := [(.ref a123)]) (lenOf pd__Ljava_lang_String_ rfl) rfl (by show 2 * 0 + _ ≤ _; exact Nat.le_of_eq rfl) (hb hby at_136) (fun _ _ => ⟨rfl, e123, (by decide : 7 + 0 ≤ _), (by decide : 2803 + 0 ≤ _)⟩)
  dsimp only [Pt.U, Pt.locs, Pt.cells, Pt.slots] at X130 l130 y130 z130 st130 hQ130
  subst l130 y130 z130
  obtain ⟨rfl, N130q, eq130⟩ := hQ130
  have N130 := Fr.app N122 N130q
  have hK1_ : Arv Z h123 c123 kc123 .byte (Int32.ofNat 8) ((([(99 : Int32), (111 : Int32), (110 : Int32), (102 : Int32), (108 : Int32), (105 : Int32), (99 : Int32), (116 : Int32)] : List Int32).map StrChars.lo8).map Value.int) (.int (0 : Int32)) := V123
  have hK2_ : Arv Z h123 tt kt .byte (Int32.ofNat 8) ((([(99 : Int32), (111 : Int32), (110 : Int32), (102 : Int32), (108 : Int32), (105 : Int32), (99 : Int32), (116 : Int32)] : List Int32).map StrChars.lo8).map Value.int) (.int (0 : Int32)) := K_t.ext y129.2
  obtain ⟨cq131, kq131, q131a, q131b, q131c⟩ := isOf hZ123 eq130 A123
  obtain ⟨_, _, ⟨T131, L131, k131, n131⟩, -, X131, ⟨Lc131, hQ131, l131, y131, z131⟩, st131⟩ := X130.virtualBack hx (y := (⟨"java/lang/String", "equals", "(Ljava/lang/Object;)Z"⟩ : MethodName)) (z := (⟨"java/lang/String", "equals", "(Ljava/lang/Object;)Z"⟩ : MethodName)) hown123 (mvT hZ123 (hw _ (List.mem_of_getElem? (i := 117) rfl))) (mvT hZ123 (hw _ (List.mem_of_getElem? (i := 118) rfl))) (notFace_of_selects (args := #[]) (mvT hZ123 (hw _ (List.mem_of_getElem? (i := 120) rfl)))) (mvT hZ123 (hw _ (List.mem_of_getElem? (i := 120) rfl))) (mvT hZ123 (hw _ (List.mem_of_getElem? (i := 119) rfl))) (by decide) (StrChars.Road.eqW (W := 0) hZ123 hwe (kI := 4) (hw _ (List.mem_of_getElem? (i := 10) rfl)) (cs := ([(99 : Int32), (111 : Int32), (110 : Int32), (102 : Int32), (108 : Int32), (105 : Int32), (99 : Int32), (116 : Int32)] : List Int32)) A123 Fv123 Fc123 hK1_ (StrChars.Road.codOf (cs := ([(99 : Int32), (111 : Int32), (110 : Int32), (102 : Int32), (108 : Int32), (105 : Int32), (99 : Int32), (116 : Int32)] : List Int32)) (n := 8) rfl (by decide)) (by decide) (by decide) (ds := ([(99 : Int32), (111 : Int32), (110 : Int32), (102 : Int32), (108 : Int32), (105 : Int32), (99 : Int32), (116 : Int32)] : List Int32)) (E_t.ext y129.2) (V_t.ext y129.2) (C_t.ext y129.2) hK2_ (StrChars.Road.codOf (cs := ([(99 : Int32), (111 : Int32), (110 : Int32), (102 : Int32), (108 : Int32), (105 : Int32), (99 : Int32), (116 : Int32)] : List Int32)) (n := 8) rfl (by decide)) (by decide) (by decide) (O2.ext y129.2) P5 (by decide) (by decide)) q131a q131c (g := (mkF m 139 #[.val (.int p1), .val (.int p2), .val (.int p3), .val (.int ((p1 &&& (255 : Int32)).toUInt32.toUInt16.toUInt32.toInt32)), .val (.int ((p2 &&& (255 : Int32)).toUInt32.toUInt16.toUInt32.toInt32)), .val (.int (p3 &&& (3 : Int32))), .val (.ref b101), .val (.ref r117), .val (.ref wc)] [(.ref wt), (.ref a123)])) rfl (by rw [hml]; rfl) (Steps.refl _) (argsL := [(.ref wt)]) (rest := []) (lenOf pd_Ljava_lang_Object__Z rfl) rfl (by show 2 * 0 + _ ≤ _; exact Nat.le_of_eq rfl) (hb hby at_139) (fun _ _ => ⟨rfl, eq130, (by decide : 7 + 0 ≤ _), (by decide : 2803 + 0 ≤ _)⟩)
  dsimp only [Pt.U, Pt.locs, Pt.cells, Pt.slots] at X131 l131 y131 z131 st131 hQ131
  subst l131 y131 z131
  obtain ⟨hv131, rfl, eq131⟩ := hQ131
  obtain rfl := own_or1 hv131 rfl
  have N131 := Fr.app N130 (Fr.nil n0)
  have hc142 : ¬ ((1 : Int32) = (0 : Int32)) := by decide
  have y132 := (own_excE B117 E123)
  have y134 := (B117.1.ext E123)
  obtain ⟨cq133, kq133, q133a, q133b, q133c⟩ := isOf hZ123 eq131 y134
  obtain ⟨_, _, ⟨T133, L133, k133, n133⟩, -, X133, ⟨Lc133, hQ133, l133, y133, z133⟩, st133⟩ := X131.virtualBackUp hx (x := (⟨"com/example/bill_per_call/billpercall/RequestException", "getMessage", "()Ljava/lang/String;"⟩ : MethodName)) (y := (⟨"java/lang/Throwable", "getMessage", "()Ljava/lang/String;"⟩ : MethodName)) hown123 (mvT hZ123 (hw _ (List.mem_of_getElem? (i := 125) rfl))) (mvT hZ123 (hw _ (List.mem_of_getElem? (i := 126) rfl))) (mvT hZ123 (hw _ (List.mem_of_getElem? (i := 127) rfl))) (by decide) (mvT hZ123 (hw _ (List.mem_of_getElem? (i := 129) rfl))) (mvT hZ123 (hw _ (List.mem_of_getElem? (i := 128) rfl))) (backOf (W := 0) (rmGM_r l Z a0 hw [] r117 b101 h123 n0 y129 y132.2.2) hZ123 (hw _ (List.mem_of_getElem? (i := 130) rfl)) (hw _ (List.mem_of_getElem? (i := 53) rfl)) (by decide) (by decide)) q133a q133c (g := (mkF m 149 #[.val (.int p1), .val (.int p2), .val (.int p3), .val (.int ((p1 &&& (255 : Int32)).toUInt32.toUInt16.toUInt32.toInt32)), .val (.int ((p2 &&& (255 : Int32)).toUInt32.toUInt16.toUInt32.toInt32)), .val (.int (p3 &&& (3 : Int32))), .val (.ref b101), .val (.ref r117), .val (.ref wc)] [(.ref r117)])) rfl (by rw [hml]; rfl) (Steps.refl _) (argsL := []) (rest := []) (lenOf pd__Ljava_lang_String_ rfl) rfl (by show 2 * 0 + _ ≤ _; exact Nat.le_of_eq rfl) (hb hby at_149) (fun _ _ => ⟨rfl, eq131, (by decide : 7 + 0 ≤ _), (by decide : 2803 + 0 ≤ _)⟩)
  dsimp only [Pt.U, Pt.locs, Pt.cells, Pt.slots] at X133 l133 y133 z133 st133 hQ133
  subst l133 y133 z133
  obtain ⟨rfl, N133q, eq133⟩ := hQ133
  have N133 := Fr.app N131 N133q
  obtain ⟨fs, hr, hrun, hended, hRW⟩ := X133.leaveW hS123 (by rw [eq133]; exact hk123) (v := some (.int (1 : Int32))) (fun h => by rw [Bd.returns] at h; cases h)
  refine ⟨_, _, pre0 _ ?_, hrun, hended, _, _, rfl, ?_, hRW.1, hRW.2.1, hRW.2.2.1, hRW.2.2.2.mono (by decide) (by decide)⟩
  · show Steps p.tables e below (s₁.setTop (mkF m 0 #[.val (.int p1), .val (.int p2), .val (.int p3), .unset, .unset, .unset, .unset, .unset, .unset] [])) _
    refine XS.iloadN X0.here hx rfl (hb hby at_0) rfl ?_
    show Steps p.tables e below (s₁.setTop (mkF m 1 #[.val (.int p1), .val (.int p2), .val (.int p3), .unset, .unset, .unset, .unset, .unset, .unset] [(.int p1)])) _
    refine XS.sipush X0.here hx rfl (hb hby at_1) ?_
    show Steps p.tables e below (s₁.setTop (mkF m 4 #[.val (.int p1), .val (.int p2), .val (.int p3), .unset, .unset, .unset, .unset, .unset, .unset] [(.int (255 : Int32)), (.int p1)])) _
    refine XS.iand X0.here hx rfl (hb hby at_4) rfl ?_
    show Steps p.tables e below (s₁.setTop (mkF m 5 #[.val (.int p1), .val (.int p2), .val (.int p3), .unset, .unset, .unset, .unset, .unset, .unset] [(.int (p1 &&& (255 : Int32)))])) _
    refine XS.i2c X0.here hx rfl (hb hby at_5) rfl ?_
    show Steps p.tables e below (s₁.setTop (mkF m 6 #[.val (.int p1), .val (.int p2), .val (.int p3), .unset, .unset, .unset, .unset, .unset, .unset] [(.int ((p1 &&& (255 : Int32)).toUInt32.toUInt16.toUInt32.toInt32))])) _
    refine XS.istoreN X0.here hx rfl (hb hby at_6) rfl (l' := #[.val (.int p1), .val (.int p2), .val (.int p3), .val (.int ((p1 &&& (255 : Int32)).toUInt32.toUInt16.toUInt32.toInt32)), .unset, .unset, .unset, .unset, .unset]) rfl ?_
    show Steps p.tables e below (s₁.setTop (mkF m 7 #[.val (.int p1), .val (.int p2), .val (.int p3), .val (.int ((p1 &&& (255 : Int32)).toUInt32.toUInt16.toUInt32.toInt32)), .unset, .unset, .unset, .unset, .unset] [])) _
    refine XS.iloadN X0.here hx rfl (hb hby at_7) rfl ?_
    show Steps p.tables e below (s₁.setTop (mkF m 8 #[.val (.int p1), .val (.int p2), .val (.int p3), .val (.int ((p1 &&& (255 : Int32)).toUInt32.toUInt16.toUInt32.toInt32)), .unset, .unset, .unset, .unset, .unset] [(.int p2)])) _
    refine XS.sipush X0.here hx rfl (hb hby at_8) ?_
    show Steps p.tables e below (s₁.setTop (mkF m 11 #[.val (.int p1), .val (.int p2), .val (.int p3), .val (.int ((p1 &&& (255 : Int32)).toUInt32.toUInt16.toUInt32.toInt32)), .unset, .unset, .unset, .unset, .unset] [(.int (255 : Int32)), (.int p2)])) _
    refine XS.iand X0.here hx rfl (hb hby at_11) rfl ?_
    show Steps p.tables e below (s₁.setTop (mkF m 12 #[.val (.int p1), .val (.int p2), .val (.int p3), .val (.int ((p1 &&& (255 : Int32)).toUInt32.toUInt16.toUInt32.toInt32)), .unset, .unset, .unset, .unset, .unset] [(.int (p2 &&& (255 : Int32)))])) _
    refine XS.i2c X0.here hx rfl (hb hby at_12) rfl ?_
    show Steps p.tables e below (s₁.setTop (mkF m 13 #[.val (.int p1), .val (.int p2), .val (.int p3), .val (.int ((p1 &&& (255 : Int32)).toUInt32.toUInt16.toUInt32.toInt32)), .unset, .unset, .unset, .unset, .unset] [(.int ((p2 &&& (255 : Int32)).toUInt32.toUInt16.toUInt32.toInt32))])) _
    refine XS.istore X0.here hx rfl (hb hby at_13) rfl (l' := #[.val (.int p1), .val (.int p2), .val (.int p3), .val (.int ((p1 &&& (255 : Int32)).toUInt32.toUInt16.toUInt32.toInt32)), .val (.int ((p2 &&& (255 : Int32)).toUInt32.toUInt16.toUInt32.toInt32)), .unset, .unset, .unset, .unset]) rfl ?_
    show Steps p.tables e below (s₁.setTop (mkF m 15 #[.val (.int p1), .val (.int p2), .val (.int p3), .val (.int ((p1 &&& (255 : Int32)).toUInt32.toUInt16.toUInt32.toInt32)), .val (.int ((p2 &&& (255 : Int32)).toUInt32.toUInt16.toUInt32.toInt32)), .unset, .unset, .unset, .unset] [])) _
    refine XS.iloadN X0.here hx rfl (hb hby at_15) rfl ?_
    show Steps p.tables e below (s₁.setTop (mkF m 16 #[.val (.int p1), .val (.int p2), .val (.int p3), .val (.int ((p1 &&& (255 : Int32)).toUInt32.toUInt16.toUInt32.toInt32)), .val (.int ((p2 &&& (255 : Int32)).toUInt32.toUInt16.toUInt32.toInt32)), .unset, .unset, .unset, .unset] [(.int p3)])) _
    refine XS.iconst X0.here hx rfl (hb hby at_16) ?_
    show Steps p.tables e below (s₁.setTop (mkF m 17 #[.val (.int p1), .val (.int p2), .val (.int p3), .val (.int ((p1 &&& (255 : Int32)).toUInt32.toUInt16.toUInt32.toInt32)), .val (.int ((p2 &&& (255 : Int32)).toUInt32.toUInt16.toUInt32.toInt32)), .unset, .unset, .unset, .unset] [(.int (3 : Int32)), (.int p3)])) _
    refine XS.iand X0.here hx rfl (hb hby at_17) rfl ?_
    show Steps p.tables e below (s₁.setTop (mkF m 18 #[.val (.int p1), .val (.int p2), .val (.int p3), .val (.int ((p1 &&& (255 : Int32)).toUInt32.toUInt16.toUInt32.toInt32)), .val (.int ((p2 &&& (255 : Int32)).toUInt32.toUInt16.toUInt32.toInt32)), .unset, .unset, .unset, .unset] [(.int (p3 &&& (3 : Int32)))])) _
    refine XS.istore X0.here hx rfl (hb hby at_18) rfl (l' := #[.val (.int p1), .val (.int p2), .val (.int p3), .val (.int ((p1 &&& (255 : Int32)).toUInt32.toUInt16.toUInt32.toInt32)), .val (.int ((p2 &&& (255 : Int32)).toUInt32.toUInt16.toUInt32.toInt32)), .val (.int (p3 &&& (3 : Int32))), .unset, .unset, .unset]) rfl ?_
    show Steps p.tables e below (s₁.setTop (mkF m 20 #[.val (.int p1), .val (.int p2), .val (.int p3), .val (.int ((p1 &&& (255 : Int32)).toUInt32.toUInt16.toUInt32.toInt32)), .val (.int ((p2 &&& (255 : Int32)).toUInt32.toUInt16.toUInt32.toInt32)), .val (.int (p3 &&& (3 : Int32))), .unset, .unset, .unset] [])) _
    refine XS.iload X0.here hx rfl (hb hby at_20) rfl ?_
    show Steps p.tables e below (s₁.setTop (mkF m 22 #[.val (.int p1), .val (.int p2), .val (.int p3), .val (.int ((p1 &&& (255 : Int32)).toUInt32.toUInt16.toUInt32.toInt32)), .val (.int ((p2 &&& (255 : Int32)).toUInt32.toUInt16.toUInt32.toInt32)), .val (.int (p3 &&& (3 : Int32))), .unset, .unset, .unset] [(.int (p3 &&& (3 : Int32)))])) _
    refine XS.ifYes X0.here hx rfl (pc0 := 22) (pc' := 31) rfl (hb hby at_22) rfl ((if0 _ _).trans (feq hc22).2) (by decide) (by decide) ?_
    show Steps p.tables e below (s₁.setTop (mkF m 31 #[.val (.int p1), .val (.int p2), .val (.int p3), .val (.int ((p1 &&& (255 : Int32)).toUInt32.toUInt16.toUInt32.toInt32)), .val (.int ((p2 &&& (255 : Int32)).toUInt32.toUInt16.toUInt32.toInt32)), .val (.int (p3 &&& (3 : Int32))), .unset, .unset, .unset] [])) _
    refine XS.iload X0.here hx rfl (hb hby at_31) rfl ?_
    show Steps p.tables e below (s₁.setTop (mkF m 33 #[.val (.int p1), .val (.int p2), .val (.int p3), .val (.int ((p1 &&& (255 : Int32)).toUInt32.toUInt16.toUInt32.toInt32)), .val (.int ((p2 &&& (255 : Int32)).toUInt32.toUInt16.toUInt32.toInt32)), .val (.int (p3 &&& (3 : Int32))), .unset, .unset, .unset] [(.int (p3 &&& (3 : Int32)))])) _
    refine XS.iconst X0.here hx rfl (hb hby at_33) ?_
    show Steps p.tables e below (s₁.setTop (mkF m 34 #[.val (.int p1), .val (.int p2), .val (.int p3), .val (.int ((p1 &&& (255 : Int32)).toUInt32.toUInt16.toUInt32.toInt32)), .val (.int ((p2 &&& (255 : Int32)).toUInt32.toUInt16.toUInt32.toInt32)), .val (.int (p3 &&& (3 : Int32))), .unset, .unset, .unset] [(.int (1 : Int32)), (.int (p3 &&& (3 : Int32)))])) _
    refine XS.icmpYes X0.here hx rfl (pc0 := 34) (pc' := 52) rfl (hb hby at_34) rfl (feq hc34).2 (by decide) (by decide) ?_
    show Steps p.tables e below (s₁.setTop (mkF m 52 #[.val (.int p1), .val (.int p2), .val (.int p3), .val (.int ((p1 &&& (255 : Int32)).toUInt32.toUInt16.toUInt32.toInt32)), .val (.int ((p2 &&& (255 : Int32)).toUInt32.toUInt16.toUInt32.toInt32)), .val (.int (p3 &&& (3 : Int32))), .unset, .unset, .unset] [])) _
    refine XS.iload X0.here hx rfl (hb hby at_52) rfl ?_
    show Steps p.tables e below (s₁.setTop (mkF m 54 #[.val (.int p1), .val (.int p2), .val (.int p3), .val (.int ((p1 &&& (255 : Int32)).toUInt32.toUInt16.toUInt32.toInt32)), .val (.int ((p2 &&& (255 : Int32)).toUInt32.toUInt16.toUInt32.toInt32)), .val (.int (p3 &&& (3 : Int32))), .unset, .unset, .unset] [(.int (p3 &&& (3 : Int32)))])) _
    refine XS.iconst X0.here hx rfl (hb hby at_54) ?_
    show Steps p.tables e below (s₁.setTop (mkF m 55 #[.val (.int p1), .val (.int p2), .val (.int p3), .val (.int ((p1 &&& (255 : Int32)).toUInt32.toUInt16.toUInt32.toInt32)), .val (.int ((p2 &&& (255 : Int32)).toUInt32.toUInt16.toUInt32.toInt32)), .val (.int (p3 &&& (3 : Int32))), .unset, .unset, .unset] [(.int (2 : Int32)), (.int (p3 &&& (3 : Int32)))])) _
    refine XS.icmpYes X0.here hx rfl (pc0 := 55) (pc' := 67) rfl (hb hby at_55) rfl (feq hc55).2 (by decide) (by decide) ?_
    show Steps p.tables e below (s₁.setTop (mkF m 67 #[.val (.int p1), .val (.int p2), .val (.int p3), .val (.int ((p1 &&& (255 : Int32)).toUInt32.toUInt16.toUInt32.toInt32)), .val (.int ((p2 &&& (255 : Int32)).toUInt32.toUInt16.toUInt32.toInt32)), .val (.int (p3 &&& (3 : Int32))), .unset, .unset, .unset] [])) _
    refine st101 _ ?_
    show Steps p.tables e below (T101.setTop (mkF m 70 #[.val (.int p1), .val (.int p2), .val (.int p3), .val (.int ((p1 &&& (255 : Int32)).toUInt32.toUInt16.toUInt32.toInt32)), .val (.int ((p2 &&& (255 : Int32)).toUInt32.toUInt16.toUInt32.toInt32)), .val (.int (p3 &&& (3 : Int32))), .unset, .unset, .unset] [(.ref b101)])) _
    refine XS.dup X101.here hx rfl (hb hby at_70) rfl rfl ?_
    show Steps p.tables e below (T101.setTop (mkF m 71 #[.val (.int p1), .val (.int p2), .val (.int p3), .val (.int ((p1 &&& (255 : Int32)).toUInt32.toUInt16.toUInt32.toInt32)), .val (.int ((p2 &&& (255 : Int32)).toUInt32.toUInt16.toUInt32.toInt32)), .val (.int (p3 &&& (3 : Int32))), .unset, .unset, .unset] [(.ref b101), (.ref b101)])) _
    refine XS.iconst X101.here hx rfl (hb hby at_71) ?_
    show Steps p.tables e below (T101.setTop (mkF m 72 #[.val (.int p1), .val (.int p2), .val (.int p3), .val (.int ((p1 &&& (255 : Int32)).toUInt32.toUInt16.toUInt32.toInt32)), .val (.int ((p2 &&& (255 : Int32)).toUInt32.toUInt16.toUInt32.toInt32)), .val (.int (p3 &&& (3 : Int32))), .unset, .unset, .unset] [(.int (2 : Int32)), (.ref b101), (.ref b101)])) _
    refine st103 _ ?_
    show Steps p.tables e below (T103.setTop (mkF m 74 #[.val (.int p1), .val (.int p2), .val (.int p3), .val (.int ((p1 &&& (255 : Int32)).toUInt32.toUInt16.toUInt32.toInt32)), .val (.int ((p2 &&& (255 : Int32)).toUInt32.toUInt16.toUInt32.toInt32)), .val (.int (p3 &&& (3 : Int32))), .unset, .unset, .unset] [(.ref b103), (.ref b101), (.ref b101)])) _
    refine XS.dup X103.here hx rfl (hb hby at_74) rfl rfl ?_
    show Steps p.tables e below (T103.setTop (mkF m 75 #[.val (.int p1), .val (.int p2), .val (.int p3), .val (.int ((p1 &&& (255 : Int32)).toUInt32.toUInt16.toUInt32.toInt32)), .val (.int ((p2 &&& (255 : Int32)).toUInt32.toUInt16.toUInt32.toInt32)), .val (.int (p3 &&& (3 : Int32))), .unset, .unset, .unset] [(.ref b103), (.ref b103), (.ref b101), (.ref b101)])) _
    refine XS.iconst X103.here hx rfl (hb hby at_75) ?_
    show Steps p.tables e below (T103.setTop (mkF m 76 #[.val (.int p1), .val (.int p2), .val (.int p3), .val (.int ((p1 &&& (255 : Int32)).toUInt32.toUInt16.toUInt32.toInt32)), .val (.int ((p2 &&& (255 : Int32)).toUInt32.toUInt16.toUInt32.toInt32)), .val (.int (p3 &&& (3 : Int32))), .unset, .unset, .unset] [(.int (0 : Int32)), (.ref b103), (.ref b103), (.ref b101), (.ref b101)])) _
    refine XS.iloadN X103.here hx rfl (hb hby at_76) rfl ?_
    show Steps p.tables e below (T103.setTop (mkF m 77 #[.val (.int p1), .val (.int p2), .val (.int p3), .val (.int ((p1 &&& (255 : Int32)).toUInt32.toUInt16.toUInt32.toInt32)), .val (.int ((p2 &&& (255 : Int32)).toUInt32.toUInt16.toUInt32.toInt32)), .val (.int (p3 &&& (3 : Int32))), .unset, .unset, .unset] [(.int ((p1 &&& (255 : Int32)).toUInt32.toUInt16.toUInt32.toInt32)), (.int (0 : Int32)), (.ref b103), (.ref b103), (.ref b101), (.ref b101)])) _
    refine st106 _ ?_
    show Steps p.tables e below (T106.setTop (mkF m 78 #[.val (.int p1), .val (.int p2), .val (.int p3), .val (.int ((p1 &&& (255 : Int32)).toUInt32.toUInt16.toUInt32.toInt32)), .val (.int ((p2 &&& (255 : Int32)).toUInt32.toUInt16.toUInt32.toInt32)), .val (.int (p3 &&& (3 : Int32))), .unset, .unset, .unset] [(.ref b103), (.ref b101), (.ref b101)])) _
    refine XS.dup X106.here hx rfl (hb hby at_78) rfl rfl ?_
    show Steps p.tables e below (T106.setTop (mkF m 79 #[.val (.int p1), .val (.int p2), .val (.int p3), .val (.int ((p1 &&& (255 : Int32)).toUInt32.toUInt16.toUInt32.toInt32)), .val (.int ((p2 &&& (255 : Int32)).toUInt32.toUInt16.toUInt32.toInt32)), .val (.int (p3 &&& (3 : Int32))), .unset, .unset, .unset] [(.ref b103), (.ref b103), (.ref b101), (.ref b101)])) _
    refine XS.iconst X106.here hx rfl (hb hby at_79) ?_
    show Steps p.tables e below (T106.setTop (mkF m 80 #[.val (.int p1), .val (.int p2), .val (.int p3), .val (.int ((p1 &&& (255 : Int32)).toUInt32.toUInt16.toUInt32.toInt32)), .val (.int ((p2 &&& (255 : Int32)).toUInt32.toUInt16.toUInt32.toInt32)), .val (.int (p3 &&& (3 : Int32))), .unset, .unset, .unset] [(.int (1 : Int32)), (.ref b103), (.ref b103), (.ref b101), (.ref b101)])) _
    refine XS.iload X106.here hx rfl (hb hby at_80) rfl ?_
    show Steps p.tables e below (T106.setTop (mkF m 82 #[.val (.int p1), .val (.int p2), .val (.int p3), .val (.int ((p1 &&& (255 : Int32)).toUInt32.toUInt16.toUInt32.toInt32)), .val (.int ((p2 &&& (255 : Int32)).toUInt32.toUInt16.toUInt32.toInt32)), .val (.int (p3 &&& (3 : Int32))), .unset, .unset, .unset] [(.int ((p2 &&& (255 : Int32)).toUInt32.toUInt16.toUInt32.toInt32)), (.int (1 : Int32)), (.ref b103), (.ref b103), (.ref b101), (.ref b101)])) _
    refine st108 _ ?_
    show Steps p.tables e below (T108.setTop (mkF m 83 #[.val (.int p1), .val (.int p2), .val (.int p3), .val (.int ((p1 &&& (255 : Int32)).toUInt32.toUInt16.toUInt32.toInt32)), .val (.int ((p2 &&& (255 : Int32)).toUInt32.toUInt16.toUInt32.toInt32)), .val (.int (p3 &&& (3 : Int32))), .unset, .unset, .unset] [(.ref b103), (.ref b101), (.ref b101)])) _
    refine st114.trans ?_
    show Steps p.tables e below (T114.setTop (mkF m 86 #[.val (.int p1), .val (.int p2), .val (.int p3), .val (.int ((p1 &&& (255 : Int32)).toUInt32.toUInt16.toUInt32.toInt32)), .val (.int ((p2 &&& (255 : Int32)).toUInt32.toUInt16.toUInt32.toInt32)), .val (.int (p3 &&& (3 : Int32))), .unset, .unset, .unset] [(.ref b101)])) _
    refine XS.astore X114.here hx rfl (hb hby at_86) rfl rfl (l' := #[.val (.int p1), .val (.int p2), .val (.int p3), .val (.int ((p1 &&& (255 : Int32)).toUInt32.toUInt16.toUInt32.toInt32)), .val (.int ((p2 &&& (255 : Int32)).toUInt32.toUInt16.toUInt32.toInt32)), .val (.int (p3 &&& (3 : Int32))), .val (.ref b101), .unset, .unset]) rfl ?_
    show Steps p.tables e below (T114.setTop (mkF m 88 #[.val (.int p1), .val (.int p2), .val (.int p3), .val (.int ((p1 &&& (255 : Int32)).toUInt32.toUInt16.toUInt32.toInt32)), .val (.int ((p2 &&& (255 : Int32)).toUInt32.toUInt16.toUInt32.toInt32)), .val (.int (p3 &&& (3 : Int32))), .val (.ref b101), .unset, .unset] [])) _
    refine XS.aload X114.here hx rfl (hb hby at_88) rfl rfl ?_
    show Steps p.tables e below (T114.setTop (mkF m 90 #[.val (.int p1), .val (.int p2), .val (.int p3), .val (.int ((p1 &&& (255 : Int32)).toUInt32.toUInt16.toUInt32.toInt32)), .val (.int ((p2 &&& (255 : Int32)).toUInt32.toUInt16.toUInt32.toInt32)), .val (.int (p3 &&& (3 : Int32))), .val (.ref b101), .unset, .unset] [(.ref b101)])) _
    refine st117 _ ?_
    show Steps p.tables e below (T117.setTop (mkF m 93 #[.val (.int p1), .val (.int p2), .val (.int p3), .val (.int ((p1 &&& (255 : Int32)).toUInt32.toUInt16.toUInt32.toInt32)), .val (.int ((p2 &&& (255 : Int32)).toUInt32.toUInt16.toUInt32.toInt32)), .val (.int (p3 &&& (3 : Int32))), .val (.ref b101), .unset, .unset] [(.ref r117)])) _
    refine XS.astore X117.here hx rfl (hb hby at_93) rfl rfl (l' := #[.val (.int p1), .val (.int p2), .val (.int p3), .val (.int ((p1 &&& (255 : Int32)).toUInt32.toUInt16.toUInt32.toInt32)), .val (.int ((p2 &&& (255 : Int32)).toUInt32.toUInt16.toUInt32.toInt32)), .val (.int (p3 &&& (3 : Int32))), .val (.ref b101), .val (.ref r117), .unset]) rfl ?_
    show Steps p.tables e below (T117.setTop (mkF m 95 #[.val (.int p1), .val (.int p2), .val (.int p3), .val (.int ((p1 &&& (255 : Int32)).toUInt32.toUInt16.toUInt32.toInt32)), .val (.int ((p2 &&& (255 : Int32)).toUInt32.toUInt16.toUInt32.toInt32)), .val (.int (p3 &&& (3 : Int32))), .val (.ref b101), .val (.ref r117), .unset] [])) _
    refine XS.aload X117.here hx rfl (hb hby at_95) rfl rfl ?_
    show Steps p.tables e below (T117.setTop (mkF m 97 #[.val (.int p1), .val (.int p2), .val (.int p3), .val (.int ((p1 &&& (255 : Int32)).toUInt32.toUInt16.toUInt32.toInt32)), .val (.int ((p2 &&& (255 : Int32)).toUInt32.toUInt16.toUInt32.toInt32)), .val (.int (p3 &&& (3 : Int32))), .val (.ref b101), .val (.ref r117), .unset] [(.ref r117)])) _
    refine XS.ifnonnullYes X117.here hx rfl (pc0 := 97) (pc' := 102) rfl (hb hby at_97) rfl (by decide) (by decide) ?_
    show Steps p.tables e below (T117.setTop (mkF m 102 #[.val (.int p1), .val (.int p2), .val (.int p3), .val (.int ((p1 &&& (255 : Int32)).toUInt32.toUInt16.toUInt32.toInt32)), .val (.int ((p2 &&& (255 : Int32)).toUInt32.toUInt16.toUInt32.toInt32)), .val (.int (p3 &&& (3 : Int32))), .val (.ref b101), .val (.ref r117), .unset] [])) _
    refine XS.aload X117.here hx rfl (hb hby at_102) rfl rfl ?_
    show Steps p.tables e below (T117.setTop (mkF m 104 #[.val (.int p1), .val (.int p2), .val (.int p3), .val (.int ((p1 &&& (255 : Int32)).toUInt32.toUInt16.toUInt32.toInt32)), .val (.int ((p2 &&& (255 : Int32)).toUInt32.toUInt16.toUInt32.toInt32)), .val (.int (p3 &&& (3 : Int32))), .val (.ref b101), .val (.ref r117), .unset] [(.ref r117)])) _
    refine st120.trans ?_
    show Steps p.tables e below (T120.setTop (mkF m 107 #[.val (.int p1), .val (.int p2), .val (.int p3), .val (.int ((p1 &&& (255 : Int32)).toUInt32.toUInt16.toUInt32.toInt32)), .val (.int ((p2 &&& (255 : Int32)).toUInt32.toUInt16.toUInt32.toInt32)), .val (.int (p3 &&& (3 : Int32))), .val (.ref b101), .val (.ref r117), .unset] [(.ref wc)])) _
    refine XS.astore X120.here hx rfl (hb hby at_107) rfl rfl (l' := #[.val (.int p1), .val (.int p2), .val (.int p3), .val (.int ((p1 &&& (255 : Int32)).toUInt32.toUInt16.toUInt32.toInt32)), .val (.int ((p2 &&& (255 : Int32)).toUInt32.toUInt16.toUInt32.toInt32)), .val (.int (p3 &&& (3 : Int32))), .val (.ref b101), .val (.ref r117), .val (.ref wc)]) rfl ?_
    show Steps p.tables e below (T120.setTop (mkF m 109 #[.val (.int p1), .val (.int p2), .val (.int p3), .val (.int ((p1 &&& (255 : Int32)).toUInt32.toUInt16.toUInt32.toInt32)), .val (.int ((p2 &&& (255 : Int32)).toUInt32.toUInt16.toUInt32.toInt32)), .val (.int (p3 &&& (3 : Int32))), .val (.ref b101), .val (.ref r117), .val (.ref wc)] [])) _
    refine XS.aload X120.here hx rfl (hb hby at_109) rfl rfl ?_
    show Steps p.tables e below (T120.setTop (mkF m 111 #[.val (.int p1), .val (.int p2), .val (.int p3), .val (.int ((p1 &&& (255 : Int32)).toUInt32.toUInt16.toUInt32.toInt32)), .val (.int ((p2 &&& (255 : Int32)).toUInt32.toUInt16.toUInt32.toInt32)), .val (.int (p3 &&& (3 : Int32))), .val (.ref b101), .val (.ref r117), .val (.ref wc)] [(.ref wc)])) _
    refine st121 _ ?_
    show Steps p.tables e below (T121.setTop (mkF m 114 #[.val (.int p1), .val (.int p2), .val (.int p3), .val (.int ((p1 &&& (255 : Int32)).toUInt32.toUInt16.toUInt32.toInt32)), .val (.int ((p2 &&& (255 : Int32)).toUInt32.toUInt16.toUInt32.toInt32)), .val (.int (p3 &&& (3 : Int32))), .val (.ref b101), .val (.ref r117), .val (.ref wc)] [(.ref wc), (.ref wc)])) _
    refine Jvm.RoadKit.acmp (g := (mkF m 114 #[.val (.int p1), .val (.int p2), .val (.int p3), .val (.int ((p1 &&& (255 : Int32)).toUInt32.toUInt16.toUInt32.toInt32)), .val (.int ((p2 &&& (255 : Int32)).toUInt32.toUInt16.toUInt32.toInt32)), .val (.int (p3 &&& (3 : Int32))), .val (.ref b101), .val (.ref r117), .val (.ref wc)] [(.ref wc), (.ref wc)])) X121 hx rfl rfl rfl (pc0 := 114) (pc' := 119) (same := true) rfl (hb hby at_114) rfl (decide_eq_true rfl) (by decide) (by decide) ?_
    show Steps p.tables e below (T121.setTop (mkF m 119 #[.val (.int p1), .val (.int p2), .val (.int p3), .val (.int ((p1 &&& (255 : Int32)).toUInt32.toUInt16.toUInt32.toInt32)), .val (.int ((p2 &&& (255 : Int32)).toUInt32.toUInt16.toUInt32.toInt32)), .val (.int (p3 &&& (3 : Int32))), .val (.ref b101), .val (.ref r117), .val (.ref wc)] [])) _
    refine XS.aload X121.here hx rfl (hb hby at_119) rfl rfl ?_
    show Steps p.tables e below (T121.setTop (mkF m 121 #[.val (.int p1), .val (.int p2), .val (.int p3), .val (.int ((p1 &&& (255 : Int32)).toUInt32.toUInt16.toUInt32.toInt32)), .val (.int ((p2 &&& (255 : Int32)).toUInt32.toUInt16.toUInt32.toInt32)), .val (.int (p3 &&& (3 : Int32))), .val (.ref b101), .val (.ref r117), .val (.ref wc)] [(.ref wc)])) _
    refine st122.trans ?_
    show Steps p.tables e below (T122.setTop (mkF m 124 #[.val (.int p1), .val (.int p2), .val (.int p3), .val (.int ((p1 &&& (255 : Int32)).toUInt32.toUInt16.toUInt32.toInt32)), .val (.int ((p2 &&& (255 : Int32)).toUInt32.toUInt16.toUInt32.toInt32)), .val (.int (p3 &&& (3 : Int32))), .val (.ref b101), .val (.ref r117), .val (.ref wc)] [(.int (409 : Int32))])) _
    refine XS.sipush X122.here hx rfl (hb hby at_124) ?_
    show Steps p.tables e below (T122.setTop (mkF m 127 #[.val (.int p1), .val (.int p2), .val (.int p3), .val (.int ((p1 &&& (255 : Int32)).toUInt32.toUInt16.toUInt32.toInt32)), .val (.int ((p2 &&& (255 : Int32)).toUInt32.toUInt16.toUInt32.toInt32)), .val (.int (p3 &&& (3 : Int32))), .val (.ref b101), .val (.ref r117), .val (.ref wc)] [(.int (409 : Int32)), (.int (409 : Int32))])) _
    refine XS.icmpYes X122.here hx rfl (pc0 := 127) (pc' := 132) rfl (hb hby at_127) rfl (teq (rfl : (409 : Int32) = (409 : Int32))).1 (by decide) (by decide) ?_
    show Steps p.tables e below (T122.setTop (mkF m 132 #[.val (.int p1), .val (.int p2), .val (.int p3), .val (.int ((p1 &&& (255 : Int32)).toUInt32.toUInt16.toUInt32.toInt32)), .val (.int ((p2 &&& (255 : Int32)).toUInt32.toUInt16.toUInt32.toInt32)), .val (.int (p3 &&& (3 : Int32))), .val (.ref b101), .val (.ref r117), .val (.ref wc)] [])) _
    refine st123 _ ?_
    show Steps p.tables e below (T123.setTop (mkF m 134 #[.val (.int p1), .val (.int p2), .val (.int p3), .val (.int ((p1 &&& (255 : Int32)).toUInt32.toUInt16.toUInt32.toInt32)), .val (.int ((p2 &&& (255 : Int32)).toUInt32.toUInt16.toUInt32.toInt32)), .val (.int (p3 &&& (3 : Int32))), .val (.ref b101), .val (.ref r117), .val (.ref wc)] [(.ref a123)])) _
    refine XS.aload X123.here hx rfl (hb hby at_134) rfl rfl ?_
    show Steps p.tables e below (T123.setTop (mkF m 136 #[.val (.int p1), .val (.int p2), .val (.int p3), .val (.int ((p1 &&& (255 : Int32)).toUInt32.toUInt16.toUInt32.toInt32)), .val (.int ((p2 &&& (255 : Int32)).toUInt32.toUInt16.toUInt32.toInt32)), .val (.int (p3 &&& (3 : Int32))), .val (.ref b101), .val (.ref r117), .val (.ref wc)] [(.ref wc), (.ref a123)])) _
    refine st130.trans ?_
    show Steps p.tables e below (T130.setTop (mkF m 139 #[.val (.int p1), .val (.int p2), .val (.int p3), .val (.int ((p1 &&& (255 : Int32)).toUInt32.toUInt16.toUInt32.toInt32)), .val (.int ((p2 &&& (255 : Int32)).toUInt32.toUInt16.toUInt32.toInt32)), .val (.int (p3 &&& (3 : Int32))), .val (.ref b101), .val (.ref r117), .val (.ref wc)] [(.ref wt), (.ref a123)])) _
    refine st131.trans ?_
    show Steps p.tables e below (T131.setTop (mkF m 142 #[.val (.int p1), .val (.int p2), .val (.int p3), .val (.int ((p1 &&& (255 : Int32)).toUInt32.toUInt16.toUInt32.toInt32)), .val (.int ((p2 &&& (255 : Int32)).toUInt32.toUInt16.toUInt32.toInt32)), .val (.int (p3 &&& (3 : Int32))), .val (.ref b101), .val (.ref r117), .val (.ref wc)] [(.int (1 : Int32))])) _
    refine XS.ifYes X131.here hx rfl (pc0 := 142) (pc' := 147) rfl (hb hby at_142) rfl ((if0 _ _).trans (feq hc142).2) (by decide) (by decide) ?_
    show Steps p.tables e below (T131.setTop (mkF m 147 #[.val (.int p1), .val (.int p2), .val (.int p3), .val (.int ((p1 &&& (255 : Int32)).toUInt32.toUInt16.toUInt32.toInt32)), .val (.int ((p2 &&& (255 : Int32)).toUInt32.toUInt16.toUInt32.toInt32)), .val (.int (p3 &&& (3 : Int32))), .val (.ref b101), .val (.ref r117), .val (.ref wc)] [])) _
    refine XS.aload X131.here hx rfl (hb hby at_147) rfl rfl ?_
    show Steps p.tables e below (T131.setTop (mkF m 149 #[.val (.int p1), .val (.int p2), .val (.int p3), .val (.int ((p1 &&& (255 : Int32)).toUInt32.toUInt16.toUInt32.toInt32)), .val (.int ((p2 &&& (255 : Int32)).toUInt32.toUInt16.toUInt32.toInt32)), .val (.int (p3 &&& (3 : Int32))), .val (.ref b101), .val (.ref r117), .val (.ref wc)] [(.ref r117)])) _
    refine st133.trans ?_
    show Steps p.tables e below (T133.setTop (mkF m 152 #[.val (.int p1), .val (.int p2), .val (.int p3), .val (.int ((p1 &&& (255 : Int32)).toUInt32.toUInt16.toUInt32.toInt32)), .val (.int ((p2 &&& (255 : Int32)).toUInt32.toUInt16.toUInt32.toInt32)), .val (.int (p3 &&& (3 : Int32))), .val (.ref b101), .val (.ref r117), .val (.ref wc)] [(.ref b101)])) _
    refine XS.aload X133.here hx rfl (hb hby at_152) rfl rfl ?_
    show Steps p.tables e below (T133.setTop (mkF m 154 #[.val (.int p1), .val (.int p2), .val (.int p3), .val (.int ((p1 &&& (255 : Int32)).toUInt32.toUInt16.toUInt32.toInt32)), .val (.int ((p2 &&& (255 : Int32)).toUInt32.toUInt16.toUInt32.toInt32)), .val (.int (p3 &&& (3 : Int32))), .val (.ref b101), .val (.ref r117), .val (.ref wc)] [(.ref b101), (.ref b101)])) _
    refine Jvm.RoadKit.acmp (g := (mkF m 154 #[.val (.int p1), .val (.int p2), .val (.int p3), .val (.int ((p1 &&& (255 : Int32)).toUInt32.toUInt16.toUInt32.toInt32)), .val (.int ((p2 &&& (255 : Int32)).toUInt32.toUInt16.toUInt32.toInt32)), .val (.int (p3 &&& (3 : Int32))), .val (.ref b101), .val (.ref r117), .val (.ref wc)] [(.ref b101), (.ref b101)])) X133 hx rfl rfl rfl (pc0 := 154) (pc' := 157) (same := true) rfl (hb hby at_154) rfl (decide_eq_true rfl) (by decide) (by decide) ?_
    show Steps p.tables e below (T133.setTop (mkF m 157 #[.val (.int p1), .val (.int p2), .val (.int p3), .val (.int ((p1 &&& (255 : Int32)).toUInt32.toUInt16.toUInt32.toInt32)), .val (.int ((p2 &&& (255 : Int32)).toUInt32.toUInt16.toUInt32.toInt32)), .val (.int (p3 &&& (3 : Int32))), .val (.ref b101), .val (.ref r117), .val (.ref wc)] [])) _
    refine XS.iconst X133.here hx rfl (hb hby at_157) ?_
    show Steps p.tables e below (T133.setTop (mkF m 158 #[.val (.int p1), .val (.int p2), .val (.int p3), .val (.int ((p1 &&& (255 : Int32)).toUInt32.toUInt16.toUInt32.toInt32)), .val (.int ((p2 &&& (255 : Int32)).toUInt32.toUInt16.toUInt32.toInt32)), .val (.int (p3 &&& (3 : Int32))), .val (.ref b101), .val (.ref r117), .val (.ref wc)] [(.int (1 : Int32))])) _
    refine XS.goto X133.here hx rfl (pc0 := 158) (pc' := 162) rfl (hb hby at_158) (by decide) (by decide) ?_
    show Steps p.tables e below (T133.setTop (mkF m 162 #[.val (.int p1), .val (.int p2), .val (.int p3), .val (.int ((p1 &&& (255 : Int32)).toUInt32.toUInt16.toUInt32.toInt32)), .val (.int ((p2 &&& (255 : Int32)).toUInt32.toUInt16.toUInt32.toInt32)), .val (.int (p3 &&& (3 : Int32))), .val (.ref b101), .val (.ref r117), .val (.ref wc)] [(.int (1 : Int32))])) _
    exact retN X133 hx (t := .boolean) Bd.returns (by simp) (hb hby at_162) hr
  · show Q0 h0 n0 _ T133.heap _
    rw [eq133]
    exact ⟨rfl, N133⟩
set_option maxRecDepth 65536 in
set_option maxHeartbeats 40000000 in
theorem rm0 (l : Launch) (Z : State) (a0 : Array Value) (hw : ∀ d ∈ tables_1, d.before a0 Z = true) (ws : List Jvm.Cond) (p1 : Int32) (p2 : Int32) (p3 : Int32) (wc : Addr) (wt : Addr) (tt : Addr) (kt : ClassId) (G1 : Int32) (h0 : Heap) (n0 : Nat) (X00 : Old Z n0 h0) (hl : l.stackTraces = true) (hr2 : ∀ d ∈ twoRefs, d.before a0 Z = true) (S_c : Sta Z Z.heap EC "CONFLICT" ECD (.ref wc)) (O2 : Sta Z Z.heap ST "COMPACT_STRINGS" "Z" (.int G1)) (P5 : ¬ (G1 = (0 : Int32))) (F_s : Fld Z Z.heap wc EC "status" "I" (.int (409 : Int32))) (F_t : Fld Z Z.heap wc EC "code" "Ljava/lang/String;" (.ref wt)) (E_c : Exa Z Z.heap wc EC) (E_t : Exa Z Z.heap wt ST) (C_t : Fld Z Z.heap wt ST "coder" "B" (.int (0 : Int32))) (V_t : Fld Z Z.heap wt ST "value" "[B" (.ref tt)) (K_t : Arv Z Z.heap tt kt .byte (8 : Int32) [(.int (99 : Int32)), (.int (111 : Int32)), (.int (110 : Int32)), (.int (102 : Int32)), (.int (108 : Int32)), (.int (105 : Int32)), (.int (99 : Int32)), (.int (116 : Int32))] (.int (0 : Int32))) :
    MetFree l x (head1 (Jvm.Cond.code x code maxLocals ret :: ws) room_1) (fun a U => a = #[(.int p1), (.int p2), (.int p3)] ∧ Z.Warmed39 U.vm ∧ U.heap = h0 ∧ CHv Z consts_1 U.vm h0) (fun _ _ bl s _ => s.vm.MethodsKnown ∧ s.vm.FramesKnown bl) (fun _ U o U' => ∃ rv rL, o = .returned rv ∧ Q0 h0 n0 rv U'.heap rL ∧ ReturnedEndW U o U' rL room_1.cells room_1.slots) := by
  rcases own_and3 p3 with c | c | c | c
  · exact rm0_0 l Z a0 hw ws p1 p2 p3 wc wt tt kt G1 h0 n0 X00 hl hr2 S_c O2 P5 F_s F_t E_c E_t C_t V_t K_t c
  · exact rm0_1 l Z a0 hw ws p1 p2 p3 wc wt tt kt G1 h0 n0 X00 hl hr2 S_c O2 P5 F_s F_t E_c E_t C_t V_t K_t c
  · exact rm0_2 l Z a0 hw ws p1 p2 p3 wc wt tt kt G1 h0 n0 X00 hl hr2 S_c O2 P5 F_s F_t E_c E_t C_t V_t K_t c
  · exact rm0_3 l Z a0 hw ws p1 p2 p3 wc wt tt kt G1 h0 n0 X00 hl hr2 S_c O2 P5 F_s F_t E_c E_t C_t V_t K_t c
theorem own_len {s : State} {args : Array Value} {t : Term} {b : Addr} {c : Cell} {ty : FieldType} {z : Int32} (et : t.eval args s none [] s = some (.ref b)) (A : Arr s s.heap b c ty) (h : (Term.length t).eval args s none [] s = some (.int z)) : c.slots.size < 2 ^ 31 ∧ c.slots.size.toInt32 = z := by
  have ha : s.arrayAt? b = some c := Arr.fin (Vm.Alike.refl _) A
  by_cases q : c.slots.size < 2 ^ 31
  · refine ⟨q, ?_⟩
    have := (len_f et ha q).symm.trans h
    simpa using this
  · simp [Term.eval, et, ha, q] at h
set_option maxRecDepth 65536 in
set_option maxHeartbeats 40000000 in
theorem comes_1 {Post : Tables → Env → Array Value → State → Outcome → State → Prop} (hpost : ∀ tb e args s v u, (limb_1_1.after args s (.returned v) u = true ∧ limb_1_2.after args s (.returned v) u = true ∧ True) → ReturnedEndW s (.returned v) u (Jvm.fieldLocs frame_1_writes args s ++ Jvm.arrayLocs frame_1_arrays args s ++ Jvm.staticLocs frame_1_statics s) 24 7680 → Post tb e args s (.returned v) u) :
    ArmFor flags0 classFile x code maxLocals ret World_1 tables_1 room_1 Calls_1 rest_1 Pre_1 Post := by
  intro l hfl _ _ p e ha hc hk s m args below hf hA hF happ hP
  obtain ⟨hcalls, hrest, hpre⟩ := hP
  obtain ⟨-, -, -, hnamed, -, -, -, hat⟩ := (Spec.applies_iff hf).mp happ
  obtain ⟨hg, hn⟩ := and_e (Cond.before_iff.mp (show (Jvm.Cond.and given_1 narrow_1).before args s = true from hpre))
  obtain ⟨hcount, hg0⟩ := and_e hg
  obtain ⟨ga0, hg1⟩ := and_e hg0
  obtain ⟨ga1, hg2⟩ := and_e hg1
  have ga2 := hg2
  obtain ⟨w0, w1, w2, rfl⟩ : ∃ w0 w1 w2 : Value, args = #[w0, w1, w2] := by
    have hs : args.size = 3 := by simpa [Cond.value, given_1] using hcount
    obtain ⟨L⟩ := args
    match L, hs with
    | [w0, w1, w2], _ => exact ⟨w0, w1, w2, rfl⟩
  have hw := fun d (hd : d ∈ tables_1) => atoms_spec (ws := Jvm.Cond.code x code maxLocals ret :: tables_1) hat d (List.mem_cons_of_mem _ hd)
  have hfit : Fit s := fun {y c} hc i hi => by
    obtain ⟨ha, rfl⟩ := Array.getElem?_eq_some_iff.mp hc
    have q := List.all_eq_true.mp ((Array.all_eq_true_iff_forall_mem.mp hF) _ (Array.getElem_mem ha)) i (List.mem_range.mpr hi)
    simpa [Array.getElem?_eq_getElem hi] using q
  obtain ⟨hsets, hown0⟩ := atoms_of _ (rest_1_c_eq ▸ (show rest_1_c.before _ s = true from hrest))
  obtain ⟨i0, ei0⟩ := is_v ga0
  obtain rfl : w0 = (.int i0) := Option.some.inj ei0
  obtain ⟨i1, ei1⟩ := is_v ga1
  obtain rfl : w1 = (.int i1) := Option.some.inj ei1
  obtain ⟨i2, ei2⟩ := is_v ga2
  obtain rfl : w2 = (.int i2) := Option.some.inj ei2
  obtain ⟨xC, hn⟩ := and_e hn
  obtain ⟨xS, hn⟩ := and_e hn
  obtain ⟨xT, hn⟩ := and_e hn
  obtain ⟨xK, hn⟩ := and_e hn
  obtain ⟨xA, hn⟩ := and_e hn
  obtain ⟨xL, hn⟩ := and_e hn
  obtain ⟨x0, hn⟩ := and_e hn
  obtain ⟨x1, hn⟩ := and_e hn
  obtain ⟨x2, hn⟩ := and_e hn
  obtain ⟨x3, hn⟩ := and_e hn
  obtain ⟨x4, hn⟩ := and_e hn
  obtain ⟨x5, hn⟩ := and_e hn
  obtain ⟨x6, hn⟩ := and_e hn
  have x7 := hn
  obtain ⟨wc, vc⟩ := exa_v xC
  have S_c : Sta s s.heap EC "CONFLICT" ECD (.ref wc) := Sta.start vc (Or.inr ⟨(hw _ (List.mem_of_getElem? (i := 33) rfl)), (hw _ (List.mem_of_getElem? (i := 34) rfl))⟩)
  have es := eqv_i (Term.int_eval (409 : Int32)) xS
  rw [fld_at vc] at es
  obtain ⟨wt, vt⟩ := exa_v xT
  have vt' := vt
  rw [fld_at vc] at vt'
  have ek := eqv_i (Term.int_eval (0 : Int32)) xK
  rw [fld_at vt] at ek
  obtain ⟨tt, va⟩ := arr_v xA
  obtain ⟨ca, Aa⟩ := Arr.start va xA
  obtain ⟨q1, q2⟩ := own_len va Aa (eqv_i (Term.int_eval (8 : Int32)) xL)
  have va' := va
  rw [fld_at vt] at va'
  have Kt : Arv s s.heap tt ca.cls .byte (8 : Int32) [(.int (99 : Int32)), (.int (111 : Int32)), (.int (110 : Int32)), (.int (102 : Int32)), (.int (108 : Int32)), (.int (105 : Int32)), (.int (99 : Int32)), (.int (116 : Int32))] (.int (0 : Int32)) := Arv.start hfit Aa q1 q2 (by decide) (by decide) ⟨(elem_in (eqv_i (Term.int_eval (99 : Int32)) x0) va (Term.int_eval (0 : Int32)) Aa.1).2, (elem_in (eqv_i (Term.int_eval (111 : Int32)) x1) va (Term.int_eval (1 : Int32)) Aa.1).2, (elem_in (eqv_i (Term.int_eval (110 : Int32)) x2) va (Term.int_eval (2 : Int32)) Aa.1).2, (elem_in (eqv_i (Term.int_eval (102 : Int32)) x3) va (Term.int_eval (3 : Int32)) Aa.1).2, (elem_in (eqv_i (Term.int_eval (108 : Int32)) x4) va (Term.int_eval (4 : Int32)) Aa.1).2, (elem_in (eqv_i (Term.int_eval (105 : Int32)) x5) va (Term.int_eval (5 : Int32)) Aa.1).2, (elem_in (eqv_i (Term.int_eval (99 : Int32)) x6) va (Term.int_eval (6 : Int32)) Aa.1).2, (elem_in (eqv_i (Term.int_eval (116 : Int32)) x7) va (Term.int_eval (7 : Int32)) Aa.1).2, trivial⟩
  have n5 := not_v (Cond.before_iff.mp (hsets _ (List.mem_of_getElem? (i := 2) rfl)))
  obtain ⟨gc, ec⟩ := is_v (Cond.before_iff.mp (hsets _ (List.mem_of_getElem? (i := 1) rfl)))
  have Sc : Sta s s.heap "java/lang/String" "COMPACT_STRINGS" "Z" (.int gc) := Sta.start ec (Or.inl (hsets _ (List.mem_of_getElem? (i := 0) rfl)))
  have c17 : ¬ (gc = (0 : Int32)) := gotF (Cond.eq_ints ec (Term.int_eval (0))) n5
  have hl : l.stackTraces = true := by unfold Launch.stackTraces; rw [hfl]; decide
  have hr2 := two_refs hfit (hw _ (List.mem_of_getElem? (i := 84) rfl)) (hw _ (List.mem_of_getElem? (i := 85) rfl))
  have hCH : CHv s consts_1 s.vm s.heap := CHv.start (own_EL hw) hcalls.2.2.1 (hsets _ (List.mem_of_getElem? (i := 2) rfl)) (hw _ (List.mem_of_getElem? (i := 14) rfl)) (hw _ (List.mem_of_getElem? (i := 10) rfl))
  have hTK := MethodsKnown_of_tablesKnown hcalls.2.1
  have hBel := FramesKnown_of_framesKnown hcalls.1 hf
  obtain ⟨n, o, h1, h2, h3, _, L, rfl, ⟨rfl, N⟩, hq⟩ := rm0 l s _ hw tables_1 i0 i1 i2 wc wt tt ca.cls gc s.heap s.heap.size (Old.start s) hl hr2 S_c Sc c17 (Fld.start es) (Fld.start vt') (Exa.start vc xC) (Exa.start vt xT) (Fld.start ek) (Fld.start va') Kt p e ha hc hk s m _ below hf ((Spec.applies_iff_loose hf).mp happ).1 ⟨rfl, State.Warmed39.refl s, rfl, hCH⟩ ⟨hTK, hBel⟩
  refine ⟨n, _, h1, h2, h3, hpost _ _ _ _ _ _ ⟨Cond.after_iff.mpr rfl, Cond.after_iff.mpr (eq_i res_at (Term.int_eval (1)) rfl), trivial⟩ ⟨hq.1, hq.2.1, hq.2.2.1, (hq.2.2.2.sift fun y hy => Or.inr (N y hy)).mono (by decide) (by decide)⟩⟩
theorem main_1_1 : Claimed_1_1 := comes_1 fun _ _ _ _ _ _ h hF => ⟨h.1, hF⟩
theorem main_1_2 : Claimed_1_2 := comes_1 fun _ _ _ _ _ _ h hF => ⟨h.2.1, hF⟩
end Jvm.Pilot.@@N@@
namespace Jvm.Pilot.@@N@@
open Jvm Jvm.ClassFile Sem Op Lib Jvm.Free Jvm.Stand Jvm.Pilot.@@N@@.Jvm.D
/-! MADE BY PROGRAM (witnessworld.py) out of the Statement's table words and the real class files: 38 classes; the members and pool entries that the words name. The judged class is class 1, her method 1. -/
namespace start1
open Jvm.ClassFile
def u (s : String) : CpInfo := .utf8 (stringToUtf16 s)
/-- a pool by its gaps: so many unusable entries, then the entry; so many at the end -/
def gap : Nat → List CpInfo → List CpInfo
  | 0, r => r
  | n + 1, r => .unusable :: gap n r
def poolList (es : List (Nat × CpInfo)) (last : Nat) : List CpInfo := es.foldr (fun e r => gap e.1 (e.2 :: r)) (gap last [])
def pool (es : List (Nat × CpInfo)) (last : Nat) : Array CpInfo := ⟨poolList es last⟩
def fileOf (pool : Array CpInfo) (this : Nat) (attrs : Array Attribute := #[]) (ms : Array MethodInfo := #[]) (fl : Nat := 33) (sup : Nat := 0) (ifs : Array Nat := #[]) (fds : Array FieldInfo := #[]) : ClassFile where
  minorVersion := 0
  majorVersion := 65
  constantPool := pool
  accessFlags := fl
  thisClass := this
  superClass := sup
  interfaces := ifs
  fields := fds
  methods := ms
  attributes := attrs
def plain (name : String) (sup : Option ClassId) : Class where
  name := name
  kind := .ordinary
  loader := none
  accessFlags := 33
  super := sup
  interfaces := #[]
  cf := none
  fields := #[]
  methods := #[]
  instanceTypes := #[]
  staticTypes := #[]
  resolved := #[]
  callSites := []
  init := .initialized
  statics := none
  mirror := none

def pool0 : Array CpInfo := pool [(5, u "<init>"), (0, u "()V"), (1, .class_ 10), (1, u "java/lang/Object")] 113

def k0c0 : Code := { maxStack := 0, maxLocals := 1, code := object_method_1_code, exceptionTable := #[], attributes := #[] }
def k0m0 : Method := { name := "<init>", desc := "()V", sig := { parameters := [], returnType := none }, accessFlags := 1, code := some k0c0 }
/-- java/lang/Object -/
def k0 : Class := { plain "java/lang/Object" none with
  accessFlags := 33
  interfaces := #[]
  cf := some (fileOf pool0 8 #[] #[{ accessFlags := 1, nameIndex := 5, descriptorIndex := 6, attributes := #[] }] 33 0 #[] #[])
  fields := #[]
  methods := #[k0m0]
  instanceTypes := #[]
  staticTypes := #[]
  resolved := Array.replicate 124 none
  statics := none }

def pool1 : Array CpInfo := pool [(2, .class_ 4), (1, u "java/lang/Object"), (0, u "<init>"), (0, u "()V"), (0, .class_ 8), (0, u "java/lang/String"), (0, .methodref 7 10), (0, .nameAndType 5 11), (0, u "([C)V"), (0, .methodref 7 13), (0, .nameAndType 14 15), (0, u "valueOf"), (0, u "(C)Ljava/lang/String;"), (0, .methodref 17 18), (0, .class_ 19), (0, .nameAndType 20 21), (0, u "com/example/bill_per_call/billpercall/RequestException"), (0, u "conflict"), (0, u "(Ljava/lang/String;)Lcom/example/bill_per_call/billpercall/RequestException;"), (0, .methodref 17 23), (0, .nameAndType 24 25), (0, u "code"), (0, u "()Lcom/example/bill_per_call/billpercall/ErrorCode;"), (0, .fieldref 27 28), (0, .class_ 29), (0, .nameAndType 30 31), (0, u "com/example/bill_per_call/billpercall/ErrorCode"), (0, u "CONFLICT"), (0, u "Lcom/example/bill_per_call/billpercall/ErrorCode;"), (0, .methodref 27 33), (0, .nameAndType 34 35), (0, u "status"), (0, u "()I"), (0, .string 20), (0, .methodref 27 38), (0, .nameAndType 24 39), (0, u "()Ljava/lang/String;"), (0, .methodref 7 41), (0, .nameAndType 42 43), (0, u "equals"), (0, u "(Ljava/lang/Object;)Z"), (0, .methodref 17 45), (0, .nameAndType 46 39), (0, u "getMessage"), (0, .class_ 48), (0, u "com/example/bill_per_call/billpercall/RequestExceptionConflictPinLaw"), (2, u "law"), (0, u "(III)Z")] 3

def k1m0 : Method := { name := "<init>", desc := "()V", sig := { parameters := [], returnType := none }, accessFlags := 1, code := none }
def k1c1 : Code := { maxStack := 6, maxLocals := 9, code := code, exceptionTable := #[], attributes := #[] }
def k1m1 : Method := { name := "law", desc := "(III)Z", sig := { parameters := [.int, .int, .int], returnType := some .boolean }, accessFlags := 9, code := some k1c1 }
/-- com/example/bill_per_call/billpercall/RequestExceptionConflictPinLaw -/
def k1 : Class := { plain "com/example/bill_per_call/billpercall/RequestExceptionConflictPinLaw" (some 0) with
  accessFlags := 49
  interfaces := #[]
  cf := some (fileOf pool1 47 #[] #[{ accessFlags := 1, nameIndex := 5, descriptorIndex := 6, attributes := #[] }, { accessFlags := 9, nameIndex := 51, descriptorIndex := 52, attributes := #[] }] 49 2 #[] #[])
  fields := #[]
  methods := #[k1m0, k1m1]
  instanceTypes := #[]
  staticTypes := #[]
  resolved := Array.replicate 56 none
  statics := none }

def pool2 : Array CpInfo := pool [(1, .class_ 2), (0, u "java/io/Serializable"), (0, .class_ 4), (0, u "java/lang/Object")] 2

/-- java/io/Serializable -/
def k2 : Class := { plain "java/io/Serializable" (some 0) with
  accessFlags := 1537
  interfaces := #[]
  cf := some (fileOf pool2 1 #[] #[] 1537 3 #[] #[])
  fields := #[]
  methods := #[]
  instanceTypes := #[]
  staticTypes := #[]
  resolved := Array.replicate 7 none
  statics := none }

def pool3 : Array CpInfo := pool [(1, .class_ 2), (0, u "java/lang/Comparable"), (0, .class_ 4), (0, u "java/lang/Object")] 7

/-- java/lang/Comparable -/
def k3 : Class := { plain "java/lang/Comparable" (some 0) with
  accessFlags := 1537
  interfaces := #[]
  cf := some (fileOf pool3 1 #[] #[] 1537 3 #[] #[])
  fields := #[]
  methods := #[]
  instanceTypes := #[]
  staticTypes := #[]
  resolved := Array.replicate 12 none
  statics := none }

def pool4 : Array CpInfo := pool [(2, .class_ 4), (1, u "java/lang/CharSequence"), (42, .class_ 48), (0, u "java/lang/CharSequence$1CodePointIterator"), (10, .class_ 60), (0, u "java/lang/CharSequence$1CharIterator"), (5, .class_ 67), (0, u "java/lang/Object")] 63

/-- java/lang/CharSequence -/
def k4 : Class := { plain "java/lang/CharSequence" (some 0) with
  accessFlags := 1537
  interfaces := #[]
  cf := some (fileOf pool4 2 #[.nestMembers #[47, 59]] #[] 1537 66 #[] #[])
  fields := #[]
  methods := #[]
  instanceTypes := #[]
  staticTypes := #[]
  resolved := Array.replicate 131 none
  statics := none }

def pool5 : Array CpInfo := pool [(1, .class_ 2), (0, u "java/lang/constant/Constable"), (0, .class_ 4), (0, u "java/lang/Object")] 6

/-- java/lang/constant/Constable -/
def k5 : Class := { plain "java/lang/constant/Constable" (some 0) with
  accessFlags := 1537
  interfaces := #[]
  cf := some (fileOf pool5 1 #[] #[] 1537 3 #[] #[])
  fields := #[]
  methods := #[]
  instanceTypes := #[]
  staticTypes := #[]
  resolved := Array.replicate 11 none
  statics := none }

def pool6 : Array CpInfo := pool [(1, .class_ 2), (0, u "java/lang/constant/ConstantDesc"), (0, .class_ 4), (0, u "java/lang/Object")] 32

/-- java/lang/constant/ConstantDesc -/
def k6 : Class := { plain "java/lang/constant/ConstantDesc" (some 0) with
  accessFlags := 1537
  interfaces := #[]
  cf := some (fileOf pool6 1 #[] #[] 1537 3 #[] #[])
  fields := #[]
  methods := #[]
  instanceTypes := #[]
  staticTypes := #[]
  resolved := Array.replicate 37 none
  statics := none }

def pool7 : Array CpInfo := pool [(1, .methodref 2 3), (0, .class_ 4), (0, .nameAndType 5 6), (0, u "java/lang/Object"), (0, u "<init>"), (0, u "()V"), (0, .string 8), (0, u ""), (0, .fieldref 10 11), (0, .class_ 12), (0, .nameAndType 13 14), (0, u "java/lang/String"), (0, u "value"), (0, u "[B"), (0, .fieldref 10 16), (0, .nameAndType 17 18), (0, u "coder"), (0, u "B"), (2, u "hash"), (0, u "I"), (2, u "hashIsZero"), (0, u "Z"), (0, .methodref 10 28), (0, .nameAndType 5 29), (0, u "([CIILjava/lang/Void;)V"), (8, .fieldref 10 39), (0, .nameAndType 40 26), (0, u "COMPACT_STRINGS"), (1, .class_ 44), (1, u "java/lang/StringUTF16"), (0, u "compress"), (1, .methodref 42 48), (0, .nameAndType 49 50), (0, u "coderFromArrayLen"), (0, u "([BI)B"), (2, u "toBytes"), (53, .class_ 109), (1, u "java/lang/StringLatin1"), (67, .methodref 42 178), (0, .nameAndType 45 179), (0, u "([CII)[B"), (29, .methodref 10 210), (0, .nameAndType 5 211), (0, u "([BB)V"), (157, u "(C)Z"), (171, .methodref 107 542), (0, .nameAndType 543 544), (0, u "equals"), (0, u "([B[B)Z"), (28, u "(Ljava/lang/Object;)Z"), (1, .class_ 576), (0, u "java/lang/CharSequence"), (22, u "CASE_INSENSITIVE_ORDER"), (0, u "Ljava/util/Comparator;"), (181, u "valueOf"), (0, u "(C)Ljava/lang/String;"), (226, u "([C)V"), (4, .methodref 107 1016), (0, .nameAndType 1017 369), (0, u "canEncode"), (0, .methodref 107 1019), (0, .nameAndType 53 1020), (0, u "(C)[B"), (80, u "serialPersistentFields"), (0, u "[Ljava/io/ObjectStreamField;"), (0, .class_ 1104), (0, u "java/lang/String$CaseInsensitiveComparator"), (1, .class_ 1107), (0, u "java/io/Serializable"), (0, .class_ 1109), (0, u "java/lang/Comparable"), (0, .class_ 1111), (0, u "java/lang/constant/Constable"), (0, .class_ 1113), (0, u "java/lang/constant/ConstantDesc"), (2, u "serialVersionUID"), (0, u "J"), (3, u "REPL"), (0, u "C"), (2, u "LATIN1"), (1, u "UTF16")] 323

def k7m0 : Method := { name := "<init>", desc := "()V", sig := { parameters := [], returnType := none }, accessFlags := 1, code := none }
def k7c1 : Code := { maxStack := 5, maxLocals := 2, code := jdk_42_method_3_code, exceptionTable := #[], attributes := #[] }
def k7m1 : Method := { name := "<init>", desc := "([C)V", sig := { parameters := [(.array .char)], returnType := none }, accessFlags := 1, code := some k7c1 }
def k7c2 : Code := { maxStack := 2, maxLocals := 3, code := jdk_42_method_66_code, exceptionTable := #[], attributes := #[] }
def k7m2 : Method := { name := "equals", desc := "(Ljava/lang/Object;)Z", sig := { parameters := [(.object "java/lang/Object")], returnType := some .boolean }, accessFlags := 1, code := some k7c2 }
def k7c3 : Code := { maxStack := 4, maxLocals := 1, code := jdk_42_method_139_code, exceptionTable := #[], attributes := #[] }
def k7m3 : Method := { name := "valueOf", desc := "(C)Ljava/lang/String;", sig := { parameters := [.char], returnType := some (.object "java/lang/String") }, accessFlags := 9, code := some k7c3 }
def k7c4 : Code := { maxStack := 4, maxLocals := 6, code := jdk_42_method_149_code, exceptionTable := #[], attributes := #[] }
def k7m4 : Method := { name := "<init>", desc := "([CIILjava/lang/Void;)V", sig := { parameters := [(.array .char), .int, .int, (.object "java/lang/Void")], returnType := none }, accessFlags := 2, code := some k7c4 }
def k7c5 : Code := { maxStack := 2, maxLocals := 3, code := jdk_42_method_151_code, exceptionTable := #[], attributes := #[] }
def k7m5 : Method := { name := "<init>", desc := "([BB)V", sig := { parameters := [(.array .byte), .byte], returnType := none }, accessFlags := 0, code := some k7c5 }
/-- java/lang/String -/
def k7 : Class := { plain "java/lang/String" (some 0) with
  accessFlags := 49
  interfaces := #[2, 3, 4, 5, 6]
  cf := some (fileOf pool7 10 #[.nestMembers #[1103]] #[{ accessFlags := 1, nameIndex := 5, descriptorIndex := 6, attributes := #[] }, { accessFlags := 1, nameIndex := 5, descriptorIndex := 1010, attributes := #[] }, { accessFlags := 1, nameIndex := 543, descriptorIndex := 573, attributes := #[] }, { accessFlags := 9, nameIndex := 782, descriptorIndex := 783, attributes := #[] }, { accessFlags := 2, nameIndex := 5, descriptorIndex := 29, attributes := #[] }, { accessFlags := 0, nameIndex := 5, descriptorIndex := 211, attributes := #[] }] 49 2 #[1106, 1108, 575, 1110, 1112] #[{ accessFlags := 18, nameIndex := 13, descriptorIndex := 14, attributes := #[] }, { accessFlags := 18, nameIndex := 17, descriptorIndex := 18, attributes := #[] }, { accessFlags := 2, nameIndex := 21, descriptorIndex := 22, attributes := #[] }, { accessFlags := 2, nameIndex := 25, descriptorIndex := 26, attributes := #[] }, { accessFlags := 26, nameIndex := 1116, descriptorIndex := 1117, attributes := #[] }, { accessFlags := 24, nameIndex := 40, descriptorIndex := 26, attributes := #[] }, { accessFlags := 26, nameIndex := 1101, descriptorIndex := 1102, attributes := #[] }, { accessFlags := 26, nameIndex := 1121, descriptorIndex := 1122, attributes := #[] }, { accessFlags := 25, nameIndex := 599, descriptorIndex := 600, attributes := #[] }, { accessFlags := 24, nameIndex := 1125, descriptorIndex := 18, attributes := #[] }, { accessFlags := 24, nameIndex := 1127, descriptorIndex := 18, attributes := #[] }])
  fields := #[{ name := "value", type := (.array .byte), accessFlags := 18, slot := 0, constantValue := 0 }, { name := "coder", type := .byte, accessFlags := 18, slot := 1, constantValue := 0 }, { name := "hash", type := .int, accessFlags := 2, slot := 2, constantValue := 0 }, { name := "hashIsZero", type := .boolean, accessFlags := 2, slot := 3, constantValue := 0 }, { name := "serialVersionUID", type := .long, accessFlags := 26, slot := 0, constantValue := 0 }, { name := "COMPACT_STRINGS", type := .boolean, accessFlags := 24, slot := 1, constantValue := 0 }, { name := "serialPersistentFields", type := (.array (.object "java/io/ObjectStreamField")), accessFlags := 26, slot := 2, constantValue := 0 }, { name := "REPL", type := .char, accessFlags := 26, slot := 3, constantValue := 0 }, { name := "CASE_INSENSITIVE_ORDER", type := (.object "java/util/Comparator"), accessFlags := 25, slot := 4, constantValue := 0 }, { name := "LATIN1", type := .byte, accessFlags := 24, slot := 5, constantValue := 0 }, { name := "UTF16", type := .byte, accessFlags := 24, slot := 6, constantValue := 0 }]
  methods := #[k7m0, k7m1, k7m2, k7m3, k7m4, k7m5]
  instanceTypes := #[(.array .byte), .byte, .int, .boolean]
  staticTypes := #[.long, .boolean, (.array (.object "java/io/ObjectStreamField")), .char, (.object "java/util/Comparator"), .byte, .byte]
  resolved := Array.replicate 1451 none
  statics := some 0 }

def pool8 : Array CpInfo := pool [(4, .class_ 6), (1, u "java/lang/Object"), (0, u "<init>"), (0, u "()V"), (5, .class_ 16), (1, u "java/lang/StringLatin1"), (73, u "canEncode"), (14, u "(C)Z"), (15, u "$assertionsDisabled"), (0, u "Z"), (98, .class_ 223), (1, u "java/lang/StringLatin1$LinesSpliterator"), (57, u "equals"), (0, u "([B[B)Z"), (97, u "toBytes"), (1, u "(C)[B"), (7, .class_ 391), (0, u "java/lang/StringLatin1$CharsSpliterator")] 3

def k8m0 : Method := { name := "<init>", desc := "()V", sig := { parameters := [], returnType := none }, accessFlags := 0, code := none }
def k8c1 : Code := { maxStack := 2, maxLocals := 1, code := jdk_43_method_3_code, exceptionTable := #[], attributes := #[] }
def k8m1 : Method := { name := "canEncode", desc := "(C)Z", sig := { parameters := [.char], returnType := some .boolean }, accessFlags := 9, code := some k8c1 }
def k8c2 : Code := { maxStack := 3, maxLocals := 3, code := jdk_43_method_13_code, exceptionTable := #[], attributes := #[] }
def k8m2 : Method := { name := "equals", desc := "([B[B)Z", sig := { parameters := [(.array .byte), (.array .byte)], returnType := some .boolean }, accessFlags := 9, code := some k8c2 }
def k8c3 : Code := { maxStack := 4, maxLocals := 1, code := jdk_43_method_46_code, exceptionTable := #[], attributes := #[] }
def k8m3 : Method := { name := "toBytes", desc := "(C)[B", sig := { parameters := [.char], returnType := some (.array .byte) }, accessFlags := 9, code := some k8c3 }
/-- java/lang/StringLatin1 -/
def k8 : Class := { plain "java/lang/StringLatin1" (some 0) with
  accessFlags := 48
  interfaces := #[]
  cf := some (fileOf pool8 14 #[.nestMembers #[390, 221]] #[{ accessFlags := 0, nameIndex := 7, descriptorIndex := 8, attributes := #[] }, { accessFlags := 9, nameIndex := 90, descriptorIndex := 105, attributes := #[] }, { accessFlags := 9, nameIndex := 281, descriptorIndex := 282, attributes := #[] }, { accessFlags := 9, nameIndex := 380, descriptorIndex := 382, attributes := #[] }] 48 4 #[] #[{ accessFlags := 4120, nameIndex := 121, descriptorIndex := 122, attributes := #[] }])
  fields := #[{ name := "$assertionsDisabled", type := .boolean, accessFlags := 4120, slot := 0, constantValue := 0 }]
  methods := #[k8m0, k8m1, k8m2, k8m3]
  instanceTypes := #[]
  staticTypes := #[.boolean]
  resolved := Array.replicate 395 none
  statics := none }

def pool9 : Array CpInfo := pool [(1, .methodref 2 3), (0, .class_ 4), (0, .nameAndType 5 6), (0, u "java/lang/Object"), (0, u "<init>"), (0, u "()V"), (0, .fieldref 8 9), (0, .class_ 10), (0, .nameAndType 11 12), (0, u "java/lang/Throwable"), (0, u "cause"), (0, u "Ljava/lang/Throwable;"), (0, .fieldref 8 14), (0, .nameAndType 15 16), (0, u "UNASSIGNED_STACK"), (0, u "[Ljava/lang/StackTraceElement;"), (0, .fieldref 8 18), (0, .nameAndType 19 16), (0, u "stackTrace"), (0, .fieldref 8 21), (0, .nameAndType 22 23), (0, u "SUPPRESSED_SENTINEL"), (0, u "Ljava/util/List;"), (0, .fieldref 8 25), (0, .nameAndType 26 23), (0, u "suppressedExceptions"), (0, .methodref 8 28), (0, .nameAndType 29 30), (0, u "fillInStackTrace"), (0, u "()Ljava/lang/Throwable;"), (0, .fieldref 8 32), (0, .nameAndType 33 34), (0, u "detailMessage"), (0, u "Ljava/lang/String;"), (3, u "()Ljava/lang/String;"), (2, u "getMessage"), (51, .class_ 94), (0, u "java/lang/Throwable$WrappedPrintStream"), (6, .class_ 103), (1, u "java/lang/Throwable$PrintStreamOrWriter"), (61, u "$assertionsDisabled"), (0, u "Z"), (26, .class_ 194), (0, u "java/lang/Throwable$WrappedPrintWriter"), (3, .fieldref 8 199), (0, .nameAndType 200 201), (0, u "backtrace"), (0, u "Ljava/lang/Object;"), (0, .methodref 8 203), (0, .nameAndType 29 204), (0, u "(I)Ljava/lang/Throwable;"), (6, u "depth"), (0, u "I"), (10, u "(Ljava/lang/String;)V"), (45, .class_ 271), (1, u "java/lang/Throwable$SentinelHolder"), (32, u "EMPTY_THROWABLE_ARRAY"), (0, u "[Ljava/lang/Throwable;"), (12, .class_ 319), (0, u "java/io/Serializable"), (0, u "serialVersionUID"), (0, u "J"), (5, u "NULL_CAUSE_MESSAGE"), (0, u "SELF_SUPPRESSION_MESSAGE"), (0, u "CAUSE_CAPTION"), (0, u "SUPPRESSED_CAPTION")] 73

def k9c0 : Code := { maxStack := 2, maxLocals := 1, code := jdk_78_method_1_code, exceptionTable := #[], attributes := #[] }
def k9m0 : Method := { name := "<init>", desc := "()V", sig := { parameters := [], returnType := none }, accessFlags := 1, code := some k9c0 }
def k9c1 : Code := { maxStack := 2, maxLocals := 2, code := jdk_78_method_2_code, exceptionTable := #[], attributes := #[] }
def k9m1 : Method := { name := "<init>", desc := "(Ljava/lang/String;)V", sig := { parameters := [(.object "java/lang/String")], returnType := none }, accessFlags := 1, code := some k9c1 }
def k9c2 : Code := { maxStack := 1, maxLocals := 1, code := jdk_78_method_6_code, exceptionTable := #[], attributes := #[] }
def k9m2 : Method := { name := "getMessage", desc := "()Ljava/lang/String;", sig := { parameters := [], returnType := some (.object "java/lang/String") }, accessFlags := 1, code := some k9c2 }
def k9c3 : Code := { maxStack := 2, maxLocals := 1, code := ⟨#[0x2a, 0xb4, 0x00, 0x11, 0xc7, 0x00, 0x0a, 0x2a, 0xb4, 0x00, 0xc6, 0xc6, 0x00, 0x10, 0x2a, 0x03, 0xb6, 0x00, 0xca, 0x57, 0x2a, 0xb2, 0x00, 0x0d, 0xb5, 0x00, 0x11, 0x2a, 0xb0]⟩, exceptionTable := #[], attributes := #[] }
def k9m3 : Method := { name := "fillInStackTrace", desc := "()Ljava/lang/Throwable;", sig := { parameters := [], returnType := some (.object "java/lang/Throwable") }, accessFlags := 33, code := some k9c3 }
def k9m4 : Method := { name := "fillInStackTrace", desc := "(I)Ljava/lang/Throwable;", sig := { parameters := [.int], returnType := some (.object "java/lang/Throwable") }, accessFlags := 258, code := none }
/-- java/lang/Throwable -/
def k9 : Class := { plain "java/lang/Throwable" (some 0) with
  accessFlags := 33
  interfaces := #[2]
  cf := some (fileOf pool9 8 #[.nestMembers #[193, 93, 101, 269]] #[{ accessFlags := 1, nameIndex := 5, descriptorIndex := 6, attributes := #[] }, { accessFlags := 1, nameIndex := 5, descriptorIndex := 223, attributes := #[] }, { accessFlags := 1, nameIndex := 41, descriptorIndex := 38, attributes := #[] }, { accessFlags := 33, nameIndex := 29, descriptorIndex := 30, attributes := #[] }, { accessFlags := 258, nameIndex := 29, descriptorIndex := 204, attributes := #[] }] 33 2 #[318] #[{ accessFlags := 26, nameIndex := 320, descriptorIndex := 321, attributes := #[] }, { accessFlags := 130, nameIndex := 200, descriptorIndex := 201, attributes := #[] }, { accessFlags := 2, nameIndex := 33, descriptorIndex := 34, attributes := #[] }, { accessFlags := 26, nameIndex := 15, descriptorIndex := 16, attributes := #[] }, { accessFlags := 2, nameIndex := 11, descriptorIndex := 12, attributes := #[] }, { accessFlags := 2, nameIndex := 19, descriptorIndex := 16, attributes := #[] }, { accessFlags := 130, nameIndex := 211, descriptorIndex := 212, attributes := #[] }, { accessFlags := 26, nameIndex := 22, descriptorIndex := 23, attributes := #[] }, { accessFlags := 2, nameIndex := 26, descriptorIndex := 23, attributes := #[] }, { accessFlags := 26, nameIndex := 327, descriptorIndex := 34, attributes := #[] }, { accessFlags := 26, nameIndex := 328, descriptorIndex := 34, attributes := #[] }, { accessFlags := 26, nameIndex := 329, descriptorIndex := 34, attributes := #[] }, { accessFlags := 26, nameIndex := 330, descriptorIndex := 34, attributes := #[] }, { accessFlags := 26, nameIndex := 304, descriptorIndex := 305, attributes := #[] }, { accessFlags := 4120, nameIndex := 165, descriptorIndex := 166, attributes := #[] }])
  fields := #[{ name := "serialVersionUID", type := .long, accessFlags := 26, slot := 0, constantValue := 0 }, { name := "backtrace", type := (.object "java/lang/Object"), accessFlags := 130, slot := 0, constantValue := 0 }, { name := "detailMessage", type := (.object "java/lang/String"), accessFlags := 2, slot := 1, constantValue := 0 }, { name := "UNASSIGNED_STACK", type := (.array (.object "java/lang/StackTraceElement")), accessFlags := 26, slot := 1, constantValue := 0 }, { name := "cause", type := (.object "java/lang/Throwable"), accessFlags := 2, slot := 2, constantValue := 0 }, { name := "stackTrace", type := (.array (.object "java/lang/StackTraceElement")), accessFlags := 2, slot := 3, constantValue := 0 }, { name := "depth", type := .int, accessFlags := 130, slot := 4, constantValue := 0 }, { name := "SUPPRESSED_SENTINEL", type := (.object "java/util/List"), accessFlags := 26, slot := 2, constantValue := 0 }, { name := "suppressedExceptions", type := (.object "java/util/List"), accessFlags := 2, slot := 5, constantValue := 0 }, { name := "NULL_CAUSE_MESSAGE", type := (.object "java/lang/String"), accessFlags := 26, slot := 3, constantValue := 0 }, { name := "SELF_SUPPRESSION_MESSAGE", type := (.object "java/lang/String"), accessFlags := 26, slot := 4, constantValue := 0 }, { name := "CAUSE_CAPTION", type := (.object "java/lang/String"), accessFlags := 26, slot := 5, constantValue := 0 }, { name := "SUPPRESSED_CAPTION", type := (.object "java/lang/String"), accessFlags := 26, slot := 6, constantValue := 0 }, { name := "EMPTY_THROWABLE_ARRAY", type := (.array (.object "java/lang/Throwable")), accessFlags := 26, slot := 7, constantValue := 0 }, { name := "$assertionsDisabled", type := .boolean, accessFlags := 4120, slot := 8, constantValue := 0 }]
  methods := #[k9m0, k9m1, k9m2, k9m3, k9m4]
  instanceTypes := #[(.object "java/lang/Object"), (.object "java/lang/String"), (.object "java/lang/Throwable"), (.array (.object "java/lang/StackTraceElement")), .int, (.object "java/util/List")]
  staticTypes := #[.long, (.array (.object "java/lang/StackTraceElement")), (.object "java/util/List"), (.object "java/lang/String"), (.object "java/lang/String"), (.object "java/lang/String"), (.object "java/lang/String"), (.array (.object "java/lang/Throwable")), .boolean]
  resolved := Array.replicate 404 none
  statics := some 1 }

def pool10 : Array CpInfo := pool [(2, .class_ 4), (1, u "java/lang/Throwable"), (0, u "<init>"), (0, u "()V"), (0, .methodref 2 8), (0, .nameAndType 5 9), (0, u "(Ljava/lang/String;)V"), (9, .class_ 20), (0, u "java/lang/Exception"), (0, u "serialVersionUID"), (0, u "J")] 17

def k10m0 : Method := { name := "<init>", desc := "()V", sig := { parameters := [], returnType := none }, accessFlags := 1, code := none }
def k10c1 : Code := { maxStack := 2, maxLocals := 2, code := jdk_59_method_2_code, exceptionTable := #[], attributes := #[] }
def k10m1 : Method := { name := "<init>", desc := "(Ljava/lang/String;)V", sig := { parameters := [(.object "java/lang/String")], returnType := none }, accessFlags := 1, code := some k10c1 }
/-- java/lang/Exception -/
def k10 : Class := { plain "java/lang/Exception" (some 9) with
  accessFlags := 33
  interfaces := #[]
  cf := some (fileOf pool10 19 #[] #[{ accessFlags := 1, nameIndex := 5, descriptorIndex := 6, attributes := #[] }, { accessFlags := 1, nameIndex := 5, descriptorIndex := 9, attributes := #[] }] 33 2 #[] #[{ accessFlags := 24, nameIndex := 21, descriptorIndex := 22, attributes := #[] }])
  fields := #[{ name := "serialVersionUID", type := .long, accessFlags := 24, slot := 0, constantValue := 0 }]
  methods := #[k10m0, k10m1]
  instanceTypes := #[(.object "java/lang/Object"), (.object "java/lang/String"), (.object "java/lang/Throwable"), (.array (.object "java/lang/StackTraceElement")), .int, (.object "java/util/List")]
  staticTypes := #[.long]
  resolved := Array.replicate 40 none
  statics := none }

def pool11 : Array CpInfo := pool [(2, .class_ 4), (1, u "java/lang/Exception"), (0, u "<init>"), (0, u "()V"), (0, .methodref 2 8), (0, .nameAndType 5 9), (0, u "(Ljava/lang/String;)V"), (9, .class_ 20), (0, u "java/lang/RuntimeException"), (0, u "serialVersionUID"), (0, u "J")] 17

def k11m0 : Method := { name := "<init>", desc := "()V", sig := { parameters := [], returnType := none }, accessFlags := 1, code := none }
def k11c1 : Code := { maxStack := 2, maxLocals := 2, code := jdk_58_method_2_code, exceptionTable := #[], attributes := #[] }
def k11m1 : Method := { name := "<init>", desc := "(Ljava/lang/String;)V", sig := { parameters := [(.object "java/lang/String")], returnType := none }, accessFlags := 1, code := some k11c1 }
/-- java/lang/RuntimeException -/
def k11 : Class := { plain "java/lang/RuntimeException" (some 10) with
  accessFlags := 33
  interfaces := #[]
  cf := some (fileOf pool11 19 #[] #[{ accessFlags := 1, nameIndex := 5, descriptorIndex := 6, attributes := #[] }, { accessFlags := 1, nameIndex := 5, descriptorIndex := 9, attributes := #[] }] 33 2 #[] #[{ accessFlags := 24, nameIndex := 21, descriptorIndex := 22, attributes := #[] }])
  fields := #[{ name := "serialVersionUID", type := .long, accessFlags := 24, slot := 0, constantValue := 0 }]
  methods := #[k11m0, k11m1]
  instanceTypes := #[(.object "java/lang/Object"), (.object "java/lang/String"), (.object "java/lang/Throwable"), (.array (.object "java/lang/StackTraceElement")), .int, (.object "java/util/List")]
  staticTypes := #[.long]
  resolved := Array.replicate 40 none
  statics := none }

def pool12 : Array CpInfo := pool [(1, .methodref 2 3), (0, .class_ 4), (0, .nameAndType 5 6), (0, u "java/lang/RuntimeException"), (0, u "<init>"), (0, u "(Ljava/lang/String;)V"), (0, .fieldref 8 9), (0, .class_ 10), (0, .nameAndType 11 12), (0, u "com/example/bill_per_call/billpercall/RequestException"), (0, u "code"), (0, u "Lcom/example/bill_per_call/billpercall/ErrorCode;"), (1, .class_ 16), (1, u "com/example/bill_per_call/billpercall/ErrorCode"), (1, .methodref 8 19), (0, .nameAndType 5 20), (0, u "(Lcom/example/bill_per_call/billpercall/ErrorCode;Ljava/lang/String;)V"), (3, .fieldref 14 25), (0, .nameAndType 26 12), (0, u "CONFLICT"), (6, u "serialVersionUID"), (0, u "J"), (6, u "(Ljava/lang/String;)Lcom/example/bill_per_call/billpercall/RequestException;"), (1, u "conflict"), (2, u "()Lcom/example/bill_per_call/billpercall/ErrorCode;")] 2

def k12c0 : Code := { maxStack := 2, maxLocals := 3, code := prog_7_method_1_code, exceptionTable := #[], attributes := #[] }
def k12m0 : Method := { name := "<init>", desc := "(Lcom/example/bill_per_call/billpercall/ErrorCode;Ljava/lang/String;)V", sig := { parameters := [(.object "com/example/bill_per_call/billpercall/ErrorCode"), (.object "java/lang/String")], returnType := none }, accessFlags := 0, code := some k12c0 }
def k12c1 : Code := { maxStack := 4, maxLocals := 1, code := prog_7_method_4_code, exceptionTable := #[], attributes := #[] }
def k12m1 : Method := { name := "conflict", desc := "(Ljava/lang/String;)Lcom/example/bill_per_call/billpercall/RequestException;", sig := { parameters := [(.object "java/lang/String")], returnType := some (.object "com/example/bill_per_call/billpercall/RequestException") }, accessFlags := 8, code := some k12c1 }
def k12c2 : Code := { maxStack := 1, maxLocals := 1, code := prog_7_method_7_code, exceptionTable := #[], attributes := #[] }
def k12m2 : Method := { name := "code", desc := "()Lcom/example/bill_per_call/billpercall/ErrorCode;", sig := { parameters := [], returnType := some (.object "com/example/bill_per_call/billpercall/ErrorCode") }, accessFlags := 0, code := some k12c2 }
/-- com/example/bill_per_call/billpercall/RequestException -/
def k12 : Class := { plain "com/example/bill_per_call/billpercall/RequestException" (some 11) with
  accessFlags := 32
  interfaces := #[]
  cf := some (fileOf pool12 8 #[] #[{ accessFlags := 0, nameIndex := 5, descriptorIndex := 20, attributes := #[] }, { accessFlags := 8, nameIndex := 43, descriptorIndex := 41, attributes := #[] }, { accessFlags := 0, nameIndex := 11, descriptorIndex := 46, attributes := #[] }] 32 2 #[] #[{ accessFlags := 26, nameIndex := 33, descriptorIndex := 34, attributes := #[] }, { accessFlags := 18, nameIndex := 11, descriptorIndex := 12, attributes := #[] }])
  fields := #[{ name := "serialVersionUID", type := .long, accessFlags := 26, slot := 0, constantValue := 0 }, { name := "code", type := (.object "com/example/bill_per_call/billpercall/ErrorCode"), accessFlags := 18, slot := 6, constantValue := 0 }]
  methods := #[k12m0, k12m1, k12m2]
  instanceTypes := #[(.object "java/lang/Object"), (.object "java/lang/String"), (.object "java/lang/Throwable"), (.array (.object "java/lang/StackTraceElement")), .int, (.object "java/util/List"), (.object "com/example/bill_per_call/billpercall/ErrorCode")]
  staticTypes := #[.long]
  resolved := Array.replicate 49 none
  statics := none }

def pool13 : Array CpInfo := pool [(2, .class_ 4), (1, u "java/lang/Enum"), (0, u "name"), (0, u "Ljava/lang/String;"), (2, u "ordinal"), (0, u "I"), (1, .class_ 14), (1, u "java/lang/Object"), (4, u "hash"), (86, .class_ 108), (1, u "java/lang/Enum$EnumDesc"), (2, .class_ 112), (0, u "java/lang/constant/Constable"), (0, .class_ 114), (0, u "java/lang/Comparable"), (0, .class_ 116), (0, u "java/io/Serializable")] 87

/-- java/lang/Enum -/
def k13 : Class := { plain "java/lang/Enum" (some 0) with
  accessFlags := 1057
  interfaces := #[5, 3, 2]
  cf := some (fileOf pool13 2 #[.nestMembers #[106]] #[] 1057 12 #[111, 113, 115] #[{ accessFlags := 18, nameIndex := 5, descriptorIndex := 6, attributes := #[] }, { accessFlags := 18, nameIndex := 9, descriptorIndex := 10, attributes := #[] }, { accessFlags := 2, nameIndex := 19, descriptorIndex := 10, attributes := #[] }])
  fields := #[{ name := "name", type := (.object "java/lang/String"), accessFlags := 18, slot := 0, constantValue := 0 }, { name := "ordinal", type := .int, accessFlags := 18, slot := 1, constantValue := 0 }, { name := "hash", type := .int, accessFlags := 2, slot := 2, constantValue := 0 }]
  methods := #[]
  instanceTypes := #[(.object "java/lang/String"), .int, .int]
  staticTypes := #[]
  resolved := Array.replicate 204 none
  statics := none }

def pool14 : Array CpInfo := pool [(1, .class_ 2), (0, u "com/example/bill_per_call/billpercall/ErrorCode"), (2, u "BAD_REQUEST"), (0, u "Lcom/example/bill_per_call/billpercall/ErrorCode;"), (2, u "UNAUTHORIZED"), (2, u "NOT_FOUND"), (2, u "CONFLICT"), (2, u "UNKNOWN_PRICE"), (2, u "INTERNAL_ERROR"), (2, u "$VALUES"), (0, u "[Lcom/example/bill_per_call/billpercall/ErrorCode;"), (6, .class_ 34), (1, u "java/lang/Enum"), (6, .fieldref 1 42), (0, .nameAndType 43 44), (0, u "status"), (0, u "I"), (0, .fieldref 1 46), (0, .nameAndType 47 48), (0, u "code"), (0, u "Ljava/lang/String;"), (32, u "()I"), (0, u "()Ljava/lang/String;")] 5

def k14c0 : Code := { maxStack := 1, maxLocals := 1, code := prog_3_method_4_code, exceptionTable := #[], attributes := #[] }
def k14m0 : Method := { name := "status", desc := "()I", sig := { parameters := [], returnType := some .int }, accessFlags := 0, code := some k14c0 }
def k14c1 : Code := { maxStack := 1, maxLocals := 1, code := prog_3_method_5_code, exceptionTable := #[], attributes := #[] }
def k14m1 : Method := { name := "code", desc := "()Ljava/lang/String;", sig := { parameters := [], returnType := some (.object "java/lang/String") }, accessFlags := 0, code := some k14c1 }
/-- com/example/bill_per_call/billpercall/ErrorCode -/
def k14 : Class := { plain "com/example/bill_per_call/billpercall/ErrorCode" (some 13) with
  accessFlags := 16432
  interfaces := #[]
  cf := some (fileOf pool14 1 #[] #[{ accessFlags := 0, nameIndex := 43, descriptorIndex := 81, attributes := #[] }, { accessFlags := 0, nameIndex := 47, descriptorIndex := 82, attributes := #[] }] 16432 32 #[] #[{ accessFlags := 16409, nameIndex := 5, descriptorIndex := 6, attributes := #[] }, { accessFlags := 16409, nameIndex := 9, descriptorIndex := 6, attributes := #[] }, { accessFlags := 16409, nameIndex := 12, descriptorIndex := 6, attributes := #[] }, { accessFlags := 16409, nameIndex := 15, descriptorIndex := 6, attributes := #[] }, { accessFlags := 16409, nameIndex := 18, descriptorIndex := 6, attributes := #[] }, { accessFlags := 16409, nameIndex := 21, descriptorIndex := 6, attributes := #[] }, { accessFlags := 18, nameIndex := 43, descriptorIndex := 44, attributes := #[] }, { accessFlags := 18, nameIndex := 47, descriptorIndex := 48, attributes := #[] }, { accessFlags := 4122, nameIndex := 24, descriptorIndex := 25, attributes := #[] }])
  fields := #[{ name := "BAD_REQUEST", type := (.object "com/example/bill_per_call/billpercall/ErrorCode"), accessFlags := 16409, slot := 0, constantValue := 0 }, { name := "UNAUTHORIZED", type := (.object "com/example/bill_per_call/billpercall/ErrorCode"), accessFlags := 16409, slot := 1, constantValue := 0 }, { name := "NOT_FOUND", type := (.object "com/example/bill_per_call/billpercall/ErrorCode"), accessFlags := 16409, slot := 2, constantValue := 0 }, { name := "CONFLICT", type := (.object "com/example/bill_per_call/billpercall/ErrorCode"), accessFlags := 16409, slot := 3, constantValue := 0 }, { name := "UNKNOWN_PRICE", type := (.object "com/example/bill_per_call/billpercall/ErrorCode"), accessFlags := 16409, slot := 4, constantValue := 0 }, { name := "INTERNAL_ERROR", type := (.object "com/example/bill_per_call/billpercall/ErrorCode"), accessFlags := 16409, slot := 5, constantValue := 0 }, { name := "status", type := .int, accessFlags := 18, slot := 3, constantValue := 0 }, { name := "code", type := (.object "java/lang/String"), accessFlags := 18, slot := 4, constantValue := 0 }, { name := "$VALUES", type := (.array (.object "com/example/bill_per_call/billpercall/ErrorCode")), accessFlags := 4122, slot := 6, constantValue := 0 }]
  methods := #[k14m0, k14m1]
  instanceTypes := #[(.object "java/lang/String"), .int, .int, .int, (.object "java/lang/String")]
  staticTypes := #[(.object "com/example/bill_per_call/billpercall/ErrorCode"), (.object "com/example/bill_per_call/billpercall/ErrorCode"), (.object "com/example/bill_per_call/billpercall/ErrorCode"), (.object "com/example/bill_per_call/billpercall/ErrorCode"), (.object "com/example/bill_per_call/billpercall/ErrorCode"), (.object "com/example/bill_per_call/billpercall/ErrorCode"), (.array (.object "com/example/bill_per_call/billpercall/ErrorCode"))]
  resolved := Array.replicate 88 none
  statics := some 2 }

def pool15 : Array CpInfo := pool [(6, .class_ 8), (1, u "java/lang/Object"), (0, u "<init>"), (0, u "()V"), (1, .class_ 14), (1, u "java/lang/StringUTF16"), (31, u "$assertionsDisabled"), (0, u "Z"), (13, u "HI_BYTE_SHIFT"), (0, u "I"), (2, u "LO_BYTE_SHIFT"), (49, .methodref 12 116), (0, .nameAndType 117 118), (0, u "compress"), (0, u "([CI[BII)I"), (3, u "([CII)[B"), (138, u "coderFromArrayLen"), (0, u "([BI)B"), (106, .class_ 371), (1, u "java/lang/StringUTF16$LinesSpliterator"), (58, u "MAX_LENGTH"), (196, .class_ 628), (0, u "java/lang/StringUTF16$CodePointsSpliterator"), (0, .class_ 630), (0, u "java/lang/StringUTF16$CharsSpliterator")] 4

def k15m0 : Method := { name := "<init>", desc := "()V", sig := { parameters := [], returnType := none }, accessFlags := 0, code := none }
def k15c1 : Code := { maxStack := 2, maxLocals := 2, code := jdk_52_method_15_code, exceptionTable := #[], attributes := #[] }
def k15m1 : Method := { name := "coderFromArrayLen", desc := "([BI)B", sig := { parameters := [(.array .byte), .int], returnType := some .byte }, accessFlags := 8, code := some k15c1 }
def k15c2 : Code := { maxStack := 5, maxLocals := 6, code := jdk_52_method_16_code, exceptionTable := #[], attributes := #[] }
def k15m2 : Method := { name := "compress", desc := "([CII)[B", sig := { parameters := [(.array .char), .int, .int], returnType := some (.array .byte) }, accessFlags := 9, code := some k15c2 }
def k15c3 : Code := { maxStack := 3, maxLocals := 7, code := jdk_52_method_21_code, exceptionTable := #[], attributes := #[] }
def k15m3 : Method := { name := "compress", desc := "([CI[BII)I", sig := { parameters := [(.array .char), .int, (.array .byte), .int, .int], returnType := some .int }, accessFlags := 9, code := some k15c3 }
/-- java/lang/StringUTF16 -/
def k15 : Class := { plain "java/lang/StringUTF16" (some 0) with
  accessFlags := 48
  interfaces := #[]
  cf := some (fileOf pool15 12 #[.nestMembers #[627, 629, 369]] #[{ accessFlags := 0, nameIndex := 9, descriptorIndex := 10, attributes := #[] }, { accessFlags := 8, nameIndex := 261, descriptorIndex := 262, attributes := #[] }, { accessFlags := 9, nameIndex := 117, descriptorIndex := 122, attributes := #[] }, { accessFlags := 9, nameIndex := 117, descriptorIndex := 118, attributes := #[] }] 48 6 #[] #[{ accessFlags := 26, nameIndex := 61, descriptorIndex := 62, attributes := #[] }, { accessFlags := 26, nameIndex := 65, descriptorIndex := 62, attributes := #[] }, { accessFlags := 24, nameIndex := 430, descriptorIndex := 62, attributes := #[] }, { accessFlags := 4120, nameIndex := 46, descriptorIndex := 47, attributes := #[] }])
  fields := #[{ name := "HI_BYTE_SHIFT", type := .int, accessFlags := 26, slot := 0, constantValue := 0 }, { name := "LO_BYTE_SHIFT", type := .int, accessFlags := 26, slot := 1, constantValue := 0 }, { name := "MAX_LENGTH", type := .int, accessFlags := 24, slot := 2, constantValue := 0 }, { name := "$assertionsDisabled", type := .boolean, accessFlags := 4120, slot := 3, constantValue := 0 }]
  methods := #[k15m0, k15m1, k15m2, k15m3]
  instanceTypes := #[]
  staticTypes := #[.int, .int, .int, .boolean]
  resolved := Array.replicate 635 none
  statics := none }

def pool16 : Array CpInfo := pool [(2, .class_ 4), (1, u "java/lang/Object"), (0, u "<init>"), (0, u "()V"), (17, .class_ 26), (1, u "jdk/internal/util/Preconditions"), (28, .class_ 56), (0, u "jdk/internal/util/Preconditions$4"), (57, .class_ 115), (0, u "jdk/internal/util/Preconditions$1"), (7, u "SIOOBE_FORMATTER"), (0, u "Ljava/util/function/BiFunction;"), (0, .class_ 126), (0, u "jdk/internal/util/Preconditions$2"), (3, u "AIOOBE_FORMATTER"), (0, .class_ 132), (0, u "jdk/internal/util/Preconditions$3"), (3, u "IOOBE_FORMATTER")] 57

def k16m0 : Method := { name := "<init>", desc := "()V", sig := { parameters := [], returnType := none }, accessFlags := 1, code := none }
/-- jdk/internal/util/Preconditions -/
def k16 : Class := { plain "jdk/internal/util/Preconditions" (some 0) with
  accessFlags := 33
  interfaces := #[]
  cf := some (fileOf pool16 24 #[.nestMembers #[55, 131, 125, 114]] #[{ accessFlags := 1, nameIndex := 5, descriptorIndex := 6, attributes := #[] }] 33 2 #[] #[{ accessFlags := 25, nameIndex := 123, descriptorIndex := 124, attributes := #[] }, { accessFlags := 25, nameIndex := 130, descriptorIndex := 124, attributes := #[] }, { accessFlags := 25, nameIndex := 136, descriptorIndex := 124, attributes := #[] }])
  fields := #[{ name := "SIOOBE_FORMATTER", type := (.object "java/util/function/BiFunction"), accessFlags := 25, slot := 0, constantValue := 0 }, { name := "AIOOBE_FORMATTER", type := (.object "java/util/function/BiFunction"), accessFlags := 25, slot := 1, constantValue := 0 }, { name := "IOOBE_FORMATTER", type := (.object "java/util/function/BiFunction"), accessFlags := 25, slot := 2, constantValue := 0 }]
  methods := #[k16m0]
  instanceTypes := #[]
  staticTypes := #[(.object "java/util/function/BiFunction"), (.object "java/util/function/BiFunction"), (.object "java/util/function/BiFunction")]
  resolved := Array.replicate 194 none
  statics := some 3 }

def pool17 : Array CpInfo := pool [(9, u "<init>"), (6, .class_ 18), (1, u "java/lang/Object"), (0, u "()V"), (1, .class_ 23), (1, u "jdk/internal/util/ArraysSupport"), (0, u "LOG2_ARRAY_LONG_INDEX_SCALE"), (0, u "I"), (2, u "U"), (0, u "Ljdk/internal/misc/Unsafe;"), (8, u "BIG_ENDIAN"), (0, u "Z"), (8, u "LOG2_BYTE_BIT_SIZE"), (4, u "LOG2_ARRAY_INT_INDEX_SCALE"), (54, u "JLA"), (0, u "Ljdk/internal/access/JavaLangAccess;"), (11, u "LOG2_ARRAY_BOOLEAN_INDEX_SCALE"), (9, u "LOG2_ARRAY_BYTE_INDEX_SCALE"), (5, u "LOG2_ARRAY_CHAR_INDEX_SCALE"), (5, u "LOG2_ARRAY_SHORT_INDEX_SCALE"), (18, u "LOG2_ARRAY_FLOAT_INDEX_SCALE"), (24, u "LOG2_ARRAY_DOUBLE_INDEX_SCALE"), (89, u "T_BOOLEAN"), (2, u "T_CHAR"), (1, u "T_FLOAT"), (1, u "T_DOUBLE"), (1, u "T_BYTE"), (1, u "T_SHORT"), (1, u "T_INT"), (1, u "T_LONG"), (1, u "SOFT_MAX_ARRAY_LENGTH")] 83

def k17m0 : Method := { name := "<init>", desc := "()V", sig := { parameters := [], returnType := none }, accessFlags := 2, code := none }
/-- jdk/internal/util/ArraysSupport -/
def k17 : Class := { plain "jdk/internal/util/ArraysSupport" (some 0) with
  accessFlags := 33
  interfaces := #[]
  cf := some (fileOf pool17 21 #[] #[{ accessFlags := 2, nameIndex := 9, descriptorIndex := 19, attributes := #[] }] 33 16 #[] #[{ accessFlags := 24, nameIndex := 28, descriptorIndex := 29, attributes := #[] }, { accessFlags := 26, nameIndex := 38, descriptorIndex := 39, attributes := #[] }, { accessFlags := 25, nameIndex := 121, descriptorIndex := 25, attributes := #[] }, { accessFlags := 25, nameIndex := 131, descriptorIndex := 25, attributes := #[] }, { accessFlags := 25, nameIndex := 137, descriptorIndex := 25, attributes := #[] }, { accessFlags := 25, nameIndex := 143, descriptorIndex := 25, attributes := #[] }, { accessFlags := 25, nameIndex := 53, descriptorIndex := 25, attributes := #[] }, { accessFlags := 25, nameIndex := 24, descriptorIndex := 25, attributes := #[] }, { accessFlags := 25, nameIndex := 162, descriptorIndex := 25, attributes := #[] }, { accessFlags := 25, nameIndex := 187, descriptorIndex := 25, attributes := #[] }, { accessFlags := 26, nameIndex := 48, descriptorIndex := 25, attributes := #[] }, { accessFlags := 25, nameIndex := 277, descriptorIndex := 25, attributes := #[] }, { accessFlags := 25, nameIndex := 280, descriptorIndex := 25, attributes := #[] }, { accessFlags := 25, nameIndex := 282, descriptorIndex := 25, attributes := #[] }, { accessFlags := 25, nameIndex := 284, descriptorIndex := 25, attributes := #[] }, { accessFlags := 25, nameIndex := 286, descriptorIndex := 25, attributes := #[] }, { accessFlags := 25, nameIndex := 288, descriptorIndex := 25, attributes := #[] }, { accessFlags := 25, nameIndex := 290, descriptorIndex := 25, attributes := #[] }, { accessFlags := 25, nameIndex := 292, descriptorIndex := 25, attributes := #[] }, { accessFlags := 26, nameIndex := 108, descriptorIndex := 109, attributes := #[] }, { accessFlags := 25, nameIndex := 294, descriptorIndex := 25, attributes := #[] }])
  fields := #[{ name := "U", type := (.object "jdk/internal/misc/Unsafe"), accessFlags := 24, slot := 0, constantValue := 0 }, { name := "BIG_ENDIAN", type := .boolean, accessFlags := 26, slot := 1, constantValue := 0 }, { name := "LOG2_ARRAY_BOOLEAN_INDEX_SCALE", type := .int, accessFlags := 25, slot := 2, constantValue := 0 }, { name := "LOG2_ARRAY_BYTE_INDEX_SCALE", type := .int, accessFlags := 25, slot := 3, constantValue := 0 }, { name := "LOG2_ARRAY_CHAR_INDEX_SCALE", type := .int, accessFlags := 25, slot := 4, constantValue := 0 }, { name := "LOG2_ARRAY_SHORT_INDEX_SCALE", type := .int, accessFlags := 25, slot := 5, constantValue := 0 }, { name := "LOG2_ARRAY_INT_INDEX_SCALE", type := .int, accessFlags := 25, slot := 6, constantValue := 0 }, { name := "LOG2_ARRAY_LONG_INDEX_SCALE", type := .int, accessFlags := 25, slot := 7, constantValue := 0 }, { name := "LOG2_ARRAY_FLOAT_INDEX_SCALE", type := .int, accessFlags := 25, slot := 8, constantValue := 0 }, { name := "LOG2_ARRAY_DOUBLE_INDEX_SCALE", type := .int, accessFlags := 25, slot := 9, constantValue := 0 }, { name := "LOG2_BYTE_BIT_SIZE", type := .int, accessFlags := 26, slot := 10, constantValue := 0 }, { name := "T_BOOLEAN", type := .int, accessFlags := 25, slot := 11, constantValue := 0 }, { name := "T_CHAR", type := .int, accessFlags := 25, slot := 12, constantValue := 0 }, { name := "T_FLOAT", type := .int, accessFlags := 25, slot := 13, constantValue := 0 }, { name := "T_DOUBLE", type := .int, accessFlags := 25, slot := 14, constantValue := 0 }, { name := "T_BYTE", type := .int, accessFlags := 25, slot := 15, constantValue := 0 }, { name := "T_SHORT", type := .int, accessFlags := 25, slot := 16, constantValue := 0 }, { name := "T_INT", type := .int, accessFlags := 25, slot := 17, constantValue := 0 }, { name := "T_LONG", type := .int, accessFlags := 25, slot := 18, constantValue := 0 }, { name := "JLA", type := (.object "jdk/internal/access/JavaLangAccess"), accessFlags := 26, slot := 19, constantValue := 0 }, { name := "SOFT_MAX_ARRAY_LENGTH", type := .int, accessFlags := 25, slot := 20, constantValue := 0 }]
  methods := #[k17m0]
  instanceTypes := #[]
  staticTypes := #[(.object "jdk/internal/misc/Unsafe"), .boolean, .int, .int, .int, .int, .int, .int, .int, .int, .int, .int, .int, .int, .int, .int, .int, .int, .int, (.object "jdk/internal/access/JavaLangAccess"), .int]
  resolved := Array.replicate 378 none
  statics := none }

def pool18 : Array CpInfo := pool [(2, .class_ 4), (1, u "java/lang/Object"), (0, u "<init>"), (0, u "()V"), (12, .class_ 20), (0, u "java/util/Collections"), (63, u "r"), (0, u "Ljava/util/Random;"), (80, .class_ 167), (0, u "java/util/Collections$UnmodifiableCollection"), (6, .class_ 175), (0, u "java/util/Collections$UnmodifiableSequencedCollection"), (6, .class_ 183), (0, u "java/util/Collections$UnmodifiableSet"), (6, .class_ 191), (0, u "java/util/Collections$UnmodifiableSequencedSet"), (6, .class_ 199), (0, u "java/util/Collections$UnmodifiableSortedSet"), (6, .class_ 207), (0, u "java/util/Collections$UnmodifiableNavigableSet"), (4, .class_ 213), (0, u "java/util/Collections$UnmodifiableList"), (1, .class_ 216), (0, u "java/util/Collections$UnmodifiableRandomAccessList"), (6, .class_ 224), (0, u "java/util/Collections$UnmodifiableMap"), (6, .class_ 232), (0, u "java/util/Collections$UnmodifiableSequencedMap"), (4, .class_ 238), (0, u "java/util/Collections$UnmodifiableSortedMap"), (6, .class_ 246), (0, u "java/util/Collections$UnmodifiableNavigableMap"), (3, .class_ 251), (0, u "java/util/Collections$SynchronizedCollection"), (4, .class_ 257), (0, u "java/util/Collections$SynchronizedSet"), (4, .class_ 263), (0, u "java/util/Collections$SynchronizedSortedSet"), (1, .class_ 266), (0, u "java/util/Collections$SynchronizedNavigableSet"), (1, .class_ 269), (0, u "java/util/Collections$SynchronizedRandomAccessList"), (1, .class_ 272), (0, u "java/util/Collections$SynchronizedList"), (5, .class_ 279), (0, u "java/util/Collections$SynchronizedMap"), (1, .class_ 282), (0, u "java/util/Collections$SynchronizedSortedMap"), (1, .class_ 285), (0, u "java/util/Collections$SynchronizedNavigableMap"), (1, .class_ 288), (0, u "java/util/Collections$CheckedCollection"), (11, .class_ 301), (0, u "java/util/Collections$CheckedQueue"), (3, .class_ 306), (0, u "java/util/Collections$CheckedSet"), (3, .class_ 311), (0, u "java/util/Collections$CheckedSortedSet"), (3, .class_ 316), (0, u "java/util/Collections$CheckedNavigableSet"), (3, .class_ 321), (0, u "java/util/Collections$CheckedRandomAccessList"), (3, .class_ 326), (0, u "java/util/Collections$CheckedList"), (1, .class_ 329), (0, u "java/util/Collections$CheckedMap"), (3, .class_ 334), (0, u "java/util/Collections$CheckedSortedMap"), (3, .class_ 339), (0, u "java/util/Collections$CheckedNavigableMap"), (4, .class_ 346), (1, u "java/util/Collections$EmptyIterator"), (3, .class_ 352), (1, u "java/util/Collections$EmptyListIterator"), (2, .class_ 357), (1, u "java/util/Collections$EmptyEnumeration"), (4, u "EMPTY_SET"), (0, u "Ljava/util/Set;"), (6, u "EMPTY_LIST"), (0, u "Ljava/util/List;"), (2, u "EMPTY_MAP"), (0, u "Ljava/util/Map;"), (4, .class_ 381), (0, u "java/util/Collections$SingletonSet"), (2, .class_ 385), (0, u "java/util/Collections$1"), (1, .class_ 388), (0, u "java/util/Collections$2"), (1, .class_ 391), (0, u "java/util/Collections$SingletonList"), (1, .class_ 394), (0, u "java/util/Collections$SingletonMap"), (22, .class_ 418), (0, u "java/util/Collections$CopiesList"), (4, .class_ 425), (1, u "java/util/Collections$ReverseComparator"), (8, .class_ 435), (0, u "java/util/Collections$ReverseComparator2"), (6, .class_ 443), (0, u "java/util/Collections$3"), (25, .class_ 470), (0, u "java/util/Collections$SetFromMap"), (2, .class_ 474), (0, u "java/util/Collections$SequencedSetFromMap"), (3, .class_ 479), (0, u "java/util/Collections$AsLIFOQueue"), (11, .class_ 492), (0, u "java/util/Collections$EmptySet"), (1, .class_ 495), (0, u "java/util/Collections$EmptyList"), (1, .class_ 498), (0, u "java/util/Collections$EmptyMap"), (1, u "BINARYSEARCH_THRESHOLD"), (0, u "I"), (2, u "REVERSE_THRESHOLD"), (1, u "SHUFFLE_THRESHOLD"), (1, u "FILL_THRESHOLD"), (1, u "ROTATE_THRESHOLD"), (1, u "COPY_THRESHOLD"), (1, u "REPLACEALL_THRESHOLD"), (1, u "INDEXOFSUBLIST_THRESHOLD"), (333, .class_ 851), (0, u "java/util/Collections$CheckedMap$CheckedEntrySet"), (0, .class_ 853), (0, u "java/util/Collections$CheckedMap$CheckedEntrySet$CheckedEntry"), (0, .class_ 855), (0, u "java/util/Collections$CheckedMap$CheckedEntrySet$1"), (0, .class_ 857), (0, u "java/util/Collections$CheckedList$1"), (0, .class_ 859), (0, u "java/util/Collections$CheckedCollection$1"), (0, .class_ 861), (0, u "java/util/Collections$UnmodifiableNavigableMap$EmptyNavigableMap"), (0, .class_ 863), (0, u "java/util/Collections$UnmodifiableMap$UnmodifiableEntrySet"), (0, .class_ 865), (0, u "java/util/Collections$UnmodifiableMap$UnmodifiableEntrySet$UnmodifiableEntry"), (0, .class_ 867), (0, u "java/util/Collections$UnmodifiableMap$UnmodifiableEntrySet$UnmodifiableEntrySetSpliterator"), (0, .class_ 869), (0, u "java/util/Collections$UnmodifiableMap$UnmodifiableEntrySet$1"), (0, .class_ 871), (0, u "java/util/Collections$UnmodifiableList$1"), (0, .class_ 873), (0, u "java/util/Collections$UnmodifiableNavigableSet$EmptyNavigableSet"), (0, .class_ 875), (0, u "java/util/Collections$UnmodifiableCollection$1")] 57

def k18m0 : Method := { name := "<init>", desc := "()V", sig := { parameters := [], returnType := none }, accessFlags := 2, code := none }
/-- java/util/Collections -/
def k18 : Class := { plain "java/util/Collections" (some 0) with
  accessFlags := 33
  interfaces := #[]
  cf := some (fileOf pool18 19 #[.nestMembers #[478, 473, 469, 434, 423, 417, 393, 390, 380, 497, 494, 491, 355, 350, 344, 338, 333, 328, 850, 852, 854, 320, 325, 856, 315, 310, 305, 300, 287, 858, 284, 281, 278, 268, 271, 265, 262, 256, 250, 245, 860, 237, 231, 223, 862, 864, 866, 868, 215, 212, 870, 206, 872, 198, 190, 182, 174, 166, 874, 442, 387, 384]] #[{ accessFlags := 2, nameIndex := 5, descriptorIndex := 6, attributes := #[] }] 33 2 #[] #[{ accessFlags := 26, nameIndex := 500, descriptorIndex := 501, attributes := #[] }, { accessFlags := 26, nameIndex := 504, descriptorIndex := 501, attributes := #[] }, { accessFlags := 26, nameIndex := 506, descriptorIndex := 501, attributes := #[] }, { accessFlags := 26, nameIndex := 508, descriptorIndex := 501, attributes := #[] }, { accessFlags := 26, nameIndex := 510, descriptorIndex := 501, attributes := #[] }, { accessFlags := 26, nameIndex := 512, descriptorIndex := 501, attributes := #[] }, { accessFlags := 26, nameIndex := 514, descriptorIndex := 501, attributes := #[] }, { accessFlags := 26, nameIndex := 516, descriptorIndex := 501, attributes := #[] }, { accessFlags := 10, nameIndex := 84, descriptorIndex := 85, attributes := #[] }, { accessFlags := 25, nameIndex := 362, descriptorIndex := 363, attributes := #[] }, { accessFlags := 25, nameIndex := 370, descriptorIndex := 371, attributes := #[] }, { accessFlags := 25, nameIndex := 374, descriptorIndex := 375, attributes := #[] }])
  fields := #[{ name := "BINARYSEARCH_THRESHOLD", type := .int, accessFlags := 26, slot := 0, constantValue := 0 }, { name := "REVERSE_THRESHOLD", type := .int, accessFlags := 26, slot := 1, constantValue := 0 }, { name := "SHUFFLE_THRESHOLD", type := .int, accessFlags := 26, slot := 2, constantValue := 0 }, { name := "FILL_THRESHOLD", type := .int, accessFlags := 26, slot := 3, constantValue := 0 }, { name := "ROTATE_THRESHOLD", type := .int, accessFlags := 26, slot := 4, constantValue := 0 }, { name := "COPY_THRESHOLD", type := .int, accessFlags := 26, slot := 5, constantValue := 0 }, { name := "REPLACEALL_THRESHOLD", type := .int, accessFlags := 26, slot := 6, constantValue := 0 }, { name := "INDEXOFSUBLIST_THRESHOLD", type := .int, accessFlags := 26, slot := 7, constantValue := 0 }, { name := "r", type := (.object "java/util/Random"), accessFlags := 10, slot := 8, constantValue := 0 }, { name := "EMPTY_SET", type := (.object "java/util/Set"), accessFlags := 25, slot := 9, constantValue := 0 }, { name := "EMPTY_LIST", type := (.object "java/util/List"), accessFlags := 25, slot := 10, constantValue := 0 }, { name := "EMPTY_MAP", type := (.object "java/util/Map"), accessFlags := 25, slot := 11, constantValue := 0 }]
  methods := #[k18m0]
  instanceTypes := #[]
  staticTypes := #[.int, .int, .int, .int, .int, .int, .int, .int, (.object "java/util/Random"), (.object "java/util/Set"), (.object "java/util/List"), (.object "java/util/Map")]
  resolved := Array.replicate 933 none
  statics := some 4 }

def pool19 : Array CpInfo := pool [(8, .class_ 10), (1, u "java/lang/Iterable"), (24, .class_ 36), (0, u "java/lang/Object")] 25

/-- java/lang/Iterable -/
def k19 : Class := { plain "java/lang/Iterable" (some 0) with
  accessFlags := 1537
  interfaces := #[]
  cf := some (fileOf pool19 8 #[] #[] 1537 35 #[] #[])
  fields := #[]
  methods := #[]
  instanceTypes := #[]
  staticTypes := #[]
  resolved := Array.replicate 62 none
  statics := none }

def pool20 : Array CpInfo := pool [(10, .class_ 12), (1, u "java/util/Collection"), (47, .class_ 61), (0, u "java/lang/Object"), (0, .class_ 63), (0, u "java/lang/Iterable")] 51

/-- java/util/Collection -/
def k20 : Class := { plain "java/util/Collection" (some 0) with
  accessFlags := 1537
  interfaces := #[19]
  cf := some (fileOf pool20 10 #[] #[] 1537 60 #[62] #[])
  fields := #[]
  methods := #[]
  instanceTypes := #[]
  staticTypes := #[]
  resolved := Array.replicate 115 none
  statics := none }

def pool21 : Array CpInfo := pool [(2, .class_ 4), (1, u "java/lang/Object"), (0, u "<init>"), (0, u "()V"), (1, .class_ 10), (1, u "java/util/AbstractCollection"), (66, .class_ 78), (0, u "java/util/Collection")] 81

def k21m0 : Method := { name := "<init>", desc := "()V", sig := { parameters := [], returnType := none }, accessFlags := 4, code := none }
/-- java/util/AbstractCollection -/
def k21 : Class := { plain "java/util/AbstractCollection" (some 0) with
  accessFlags := 1057
  interfaces := #[20]
  cf := some (fileOf pool21 8 #[] #[{ accessFlags := 4, nameIndex := 5, descriptorIndex := 6, attributes := #[] }] 1057 2 #[77] #[])
  fields := #[]
  methods := #[k21m0]
  instanceTypes := #[]
  staticTypes := #[]
  resolved := Array.replicate 160 none
  statics := none }

def pool22 : Array CpInfo := pool [(8, .class_ 10), (1, u "java/util/SequencedCollection"), (15, .class_ 27), (0, u "java/lang/Object"), (0, .class_ 29), (0, u "java/util/Collection")] 27

/-- java/util/SequencedCollection -/
def k22 : Class := { plain "java/util/SequencedCollection" (some 0) with
  accessFlags := 1537
  interfaces := #[20]
  cf := some (fileOf pool22 8 #[] #[] 1537 26 #[28] #[])
  fields := #[]
  methods := #[]
  instanceTypes := #[]
  staticTypes := #[]
  resolved := Array.replicate 57 none
  statics := none }

def pool23 : Array CpInfo := pool [(8, .class_ 10), (1, u "java/util/List"), (92, .class_ 104), (0, u "java/lang/Object"), (15, .class_ 121), (0, u "java/util/SequencedCollection")] 129

/-- java/util/List -/
def k23 : Class := { plain "java/util/List" (some 0) with
  accessFlags := 1537
  interfaces := #[22]
  cf := some (fileOf pool23 8 #[] #[] 1537 103 #[120] #[])
  fields := #[]
  methods := #[]
  instanceTypes := #[]
  staticTypes := #[]
  resolved := Array.replicate 251 none
  statics := none }

def pool24 : Array CpInfo := pool [(2, .class_ 4), (1, u "java/util/AbstractCollection"), (0, u "<init>"), (0, u "()V"), (1, .class_ 10), (1, u "java/util/AbstractList"), (0, u "modCount"), (0, u "I"), (64, .class_ 78), (0, u "java/util/AbstractList$Itr"), (3, .class_ 83), (0, u "java/util/AbstractList$ListItr"), (9, .class_ 94), (0, u "java/util/AbstractList$RandomAccessSubList"), (3, .class_ 99), (0, u "java/util/AbstractList$SubList"), (33, .class_ 134), (0, u "java/util/List"), (73, .class_ 209), (0, u "java/util/AbstractList$SubList$1"), (0, .class_ 211), (0, u "java/util/AbstractList$RandomAccessSpliterator")] 6

def k24m0 : Method := { name := "<init>", desc := "()V", sig := { parameters := [], returnType := none }, accessFlags := 4, code := none }
/-- java/util/AbstractList -/
def k24 : Class := { plain "java/util/AbstractList" (some 21) with
  accessFlags := 1057
  interfaces := #[23]
  cf := some (fileOf pool24 8 #[.nestMembers #[93, 98, 208, 210, 82, 77]] #[{ accessFlags := 4, nameIndex := 5, descriptorIndex := 6, attributes := #[] }] 1057 2 #[133] #[{ accessFlags := 132, nameIndex := 11, descriptorIndex := 12, attributes := #[] }])
  fields := #[{ name := "modCount", type := .int, accessFlags := 132, slot := 0, constantValue := 0 }]
  methods := #[k24m0]
  instanceTypes := #[.int]
  staticTypes := #[]
  resolved := Array.replicate 218 none
  statics := none }

def pool25 : Array CpInfo := pool [(1, .class_ 2), (0, u "java/util/RandomAccess"), (0, .class_ 4), (0, u "java/lang/Object")] 2

/-- java/util/RandomAccess -/
def k25 : Class := { plain "java/util/RandomAccess" (some 0) with
  accessFlags := 1537
  interfaces := #[]
  cf := some (fileOf pool25 1 #[] #[] 1537 3 #[] #[])
  fields := #[]
  methods := #[]
  instanceTypes := #[]
  staticTypes := #[]
  resolved := Array.replicate 7 none
  statics := none }

def pool26 : Array CpInfo := pool [(2, .class_ 4), (1, u "java/util/AbstractList"), (0, u "<init>"), (0, u "()V"), (1, .class_ 10), (1, u "java/util/Collections"), (54, .class_ 66), (0, u "java/util/Collections$EmptyList"), (0, .class_ 68), (0, u "java/util/RandomAccess"), (0, .class_ 70), (0, u "java/io/Serializable"), (0, u "serialVersionUID"), (0, u "J")] 77

def k26m0 : Method := { name := "<init>", desc := "()V", sig := { parameters := [], returnType := none }, accessFlags := 2, code := none }
/-- java/util/Collections$EmptyList -/
def k26 : Class := { plain "java/util/Collections$EmptyList" (some 24) with
  accessFlags := 32
  interfaces := #[25, 2]
  cf := some (fileOf pool26 65 #[.nestHost 8] #[{ accessFlags := 2, nameIndex := 5, descriptorIndex := 6, attributes := #[] }] 32 2 #[67, 69] #[{ accessFlags := 26, nameIndex := 71, descriptorIndex := 72, attributes := #[] }])
  fields := #[{ name := "serialVersionUID", type := .long, accessFlags := 26, slot := 0, constantValue := 0 }]
  methods := #[k26m0]
  instanceTypes := #[.int]
  staticTypes := #[.long]
  resolved := Array.replicate 150 none
  statics := none }

def pool27 : Array CpInfo := pool [(2, .class_ 4), (1, u "java/lang/StackTraceElement"), (0, u "<init>"), (2, .class_ 10), (1, u "java/lang/Object"), (0, u "()V"), (2, u "format"), (0, u "B"), (2, u "classLoaderName"), (0, u "Ljava/lang/String;"), (2, u "moduleName"), (2, u "moduleVersion"), (12, u "declaringClass"), (4, u "methodName"), (2, u "fileName"), (2, u "lineNumber"), (0, u "I"), (65, u "declaringClassObject"), (0, u "Ljava/lang/Class;"), (33, .class_ 153), (1, u "java/lang/StackTraceElement$HashedModules"), (17, .class_ 172), (0, u "java/io/Serializable"), (0, u "NATIVE_METHOD"), (1, u "UNKNOWN_SOURCE"), (2, u "BUILTIN_CLASS_LOADER"), (1, u "JDK_NON_UPGRADEABLE_MODULE"), (1, u "serialVersionUID"), (0, u "J")] 51

def k27m0 : Method := { name := "<init>", desc := "()V", sig := { parameters := [], returnType := none }, accessFlags := 2, code := none }
/-- java/lang/StackTraceElement -/
def k27 : Class := { plain "java/lang/StackTraceElement" (some 0) with
  accessFlags := 49
  interfaces := #[2]
  cf := some (fileOf pool27 2 #[.nestMembers #[151]] #[{ accessFlags := 2, nameIndex := 5, descriptorIndex := 11, attributes := #[] }] 49 8 #[171] #[{ accessFlags := 26, nameIndex := 173, descriptorIndex := 19, attributes := #[] }, { accessFlags := 26, nameIndex := 175, descriptorIndex := 19, attributes := #[] }, { accessFlags := 130, nameIndex := 116, descriptorIndex := 117, attributes := #[] }, { accessFlags := 2, nameIndex := 18, descriptorIndex := 19, attributes := #[] }, { accessFlags := 2, nameIndex := 22, descriptorIndex := 19, attributes := #[] }, { accessFlags := 2, nameIndex := 25, descriptorIndex := 19, attributes := #[] }, { accessFlags := 2, nameIndex := 38, descriptorIndex := 19, attributes := #[] }, { accessFlags := 2, nameIndex := 43, descriptorIndex := 19, attributes := #[] }, { accessFlags := 2, nameIndex := 46, descriptorIndex := 19, attributes := #[] }, { accessFlags := 2, nameIndex := 49, descriptorIndex := 50, attributes := #[] }, { accessFlags := 2, nameIndex := 14, descriptorIndex := 15, attributes := #[] }, { accessFlags := 26, nameIndex := 178, descriptorIndex := 15, attributes := #[] }, { accessFlags := 26, nameIndex := 180, descriptorIndex := 15, attributes := #[] }, { accessFlags := 26, nameIndex := 182, descriptorIndex := 183, attributes := #[] }])
  fields := #[{ name := "NATIVE_METHOD", type := (.object "java/lang/String"), accessFlags := 26, slot := 0, constantValue := 0 }, { name := "UNKNOWN_SOURCE", type := (.object "java/lang/String"), accessFlags := 26, slot := 1, constantValue := 0 }, { name := "declaringClassObject", type := (.object "java/lang/Class"), accessFlags := 130, slot := 0, constantValue := 0 }, { name := "classLoaderName", type := (.object "java/lang/String"), accessFlags := 2, slot := 1, constantValue := 0 }, { name := "moduleName", type := (.object "java/lang/String"), accessFlags := 2, slot := 2, constantValue := 0 }, { name := "moduleVersion", type := (.object "java/lang/String"), accessFlags := 2, slot := 3, constantValue := 0 }, { name := "declaringClass", type := (.object "java/lang/String"), accessFlags := 2, slot := 4, constantValue := 0 }, { name := "methodName", type := (.object "java/lang/String"), accessFlags := 2, slot := 5, constantValue := 0 }, { name := "fileName", type := (.object "java/lang/String"), accessFlags := 2, slot := 6, constantValue := 0 }, { name := "lineNumber", type := .int, accessFlags := 2, slot := 7, constantValue := 0 }, { name := "format", type := .byte, accessFlags := 2, slot := 8, constantValue := 0 }, { name := "BUILTIN_CLASS_LOADER", type := .byte, accessFlags := 26, slot := 2, constantValue := 0 }, { name := "JDK_NON_UPGRADEABLE_MODULE", type := .byte, accessFlags := 26, slot := 3, constantValue := 0 }, { name := "serialVersionUID", type := .long, accessFlags := 26, slot := 4, constantValue := 0 }]
  methods := #[k27m0]
  instanceTypes := #[(.object "java/lang/Class"), (.object "java/lang/String"), (.object "java/lang/String"), (.object "java/lang/String"), (.object "java/lang/String"), (.object "java/lang/String"), (.object "java/lang/String"), .int, .byte]
  staticTypes := #[(.object "java/lang/String"), (.object "java/lang/String"), .byte, .byte, .long]
  resolved := Array.replicate 235 none
  statics := none }

def pool28 : Array CpInfo := pool [(1, u "java/lang/Cloneable"), (0, .class_ 1), (0, u "java/lang/Object"), (0, .class_ 3)] 3

/-- java/lang/Cloneable -/
def k28 : Class := { plain "java/lang/Cloneable" (some 0) with
  accessFlags := 1537
  interfaces := #[]
  cf := some (fileOf pool28 2 #[] #[] 1537 4 #[] #[])
  fields := #[]
  methods := #[]
  instanceTypes := #[]
  staticTypes := #[]
  resolved := Array.replicate 8 none
  statics := none }

/-- the primitive byte -/
def k29 : Class := { plain "byte" none with kind := .primitive 'B', accessFlags := 0x411 }
/-- [B -/
def k30 : Class := { plain "[B" (some 0) with kind := .array 29 .byte, interfaces := #[28, 2], accessFlags := 1041 }

/-- the primitive char -/
def k31 : Class := { plain "char" none with kind := .primitive 'C', accessFlags := 0x411 }
/-- [C -/
def k32 : Class := { plain "[C" (some 0) with kind := .array 31 .char, interfaces := #[28, 2], accessFlags := 1041 }

/-- the primitive int -/
def k33 : Class := { plain "int" none with kind := .primitive 'I', accessFlags := 0x411 }
/-- [I -/
def k34 : Class := { plain "[I" (some 0) with kind := .array 33 .int, interfaces := #[28, 2], accessFlags := 1041 }

/-- [Ljava/lang/Object; -/
def k35 : Class := { plain "[Ljava/lang/Object;" (some 0) with kind := .array 0 (.object "java/lang/Object"), interfaces := #[28, 2], accessFlags := 1041 }

/-- [Ljava/lang/StackTraceElement; -/
def k36 : Class := { plain "[Ljava/lang/StackTraceElement;" (some 0) with kind := .array 27 (.object "java/lang/StackTraceElement"), interfaces := #[28, 2], accessFlags := 1041 }

/-- [Ljava/lang/Throwable; -/
def k37 : Class := { plain "[Ljava/lang/Throwable;" (some 0) with kind := .array 9 (.object "java/lang/Throwable"), interfaces := #[28, 2], accessFlags := 1041 }

def heap : Heap := #[{ cls := 7, slots := #[.long 0, .int 1, .null, .int 0, .null, .int 0, .int 0], vm := .statics 7 },
  { cls := 9, slots := #[.long 0, .ref 8, .ref 9, .null, .null, .null, .null, .ref 10, .int 1], vm := .statics 9 },
  { cls := 14, slots := #[.null, .null, .null, .ref 7, .null, .null, .null], vm := .statics 14 },
  { cls := 16, slots := #[.null, .null, .null], vm := .statics 16 },
  { cls := 18, slots := #[.int 0, .int 0, .int 0, .int 0, .int 0, .int 0, .int 0, .int 0, .null, .null, .ref 9, .null], vm := .statics 18 },
  { cls := 30, slots := #[.int 99, .int 111, .int 110, .int 102, .int 108, .int 105, .int 99, .int 116], vm := .none },
  { cls := 7, slots := #[.ref 5, .int 0, .int 0, .int 0], vm := .none },
  { cls := 14, slots := #[.null, .int 0, .int 0, .int 409, .ref 6], vm := .none },
  { cls := 36, slots := #[], vm := .none },
  { cls := 26, slots := #[.int 0], vm := .none },
  { cls := 37, slots := #[], vm := .none }]
def classes : Array Class := #[k0, k1, k2, k3, k4, k5, k6, k7, k8, k9, k10, k11, k12, k13, k14, k15, k16, k17, k18, k19, k20, k21, k22, k23, k24, k25, k26, k27, k28, k29, k30, k31, k32, k33, k34, k35, k36, k37]
def interned : List (Array UInt16 × Addr) := []
def slotsUsed : Nat := 56
def theMethod : MethodId := ⟨1, 1⟩
def args0 : Array Value := #[.int 5, .int 66, .int 3]
def aboutOver (below : List Frame) : State where
  vm := { classes := classes, interned := interned.toArray }
  heap := heap
  slotsUsed := slotsUsed
  threads := #[{ frames := .invoking theMethod args0 :: below }]
def below0 : List Frame := [.native { method := ⟨0, 0⟩, args := #[] }]
def about1 : State := aboutOver below0
def p0 : Program := .bare "" "" ""
def e0 : Env := launch0.env 0 0 0
theorem w_frames : about1.frames = Frame.invoking theMethod args0 :: below0 := rfl
set_option maxRecDepth 65536 in
theorem w_args : argsFit about1.vm theMethod args0 = true := by decide +kernel
set_option maxRecDepth 65536 in
theorem w_heap : heapFits about1 = true := by decide +kernel
set_option maxRecDepth 65536 in
theorem w_runnable : about1.curStatus? = some .runnable := by decide +kernel
set_option maxRecDepth 65536 in
theorem w_alone : about1.alone = true := by decide +kernel
set_option maxRecDepth 65536 in
theorem w_named : about1.methodNamed? x = some theMethod := by decide +kernel
set_option maxRecDepth 65536 in
theorem w_hears : about1.hears theMethod below0 = true := by decide +kernel
set_option maxRecDepth 65536 in
theorem w_ripe : about1.ripe theMethod args0 below0 = true := by decide +kernel
theorem w_running : about1.status = .running := rfl
set_option maxRecDepth 65536 in
theorem w_room : about1.hasRoom e0.platform room_1 = true :=
  launch0.hasRoom_least _ room_1 (by decide +kernel) (by decide +kernel) (by decide +kernel) (by decide +kernel) (by decide +kernel) (by decide +kernel)
theorem allAtoms_all (ts : List Jvm.Cond) (a : Array Jvm.Value) (st : Jvm.State) : (allAtoms ts).before a st = ts.all (fun c => c.before a st) := by
  induction ts with
  | nil => rfl
  | cons c t ih =>
    show (Jvm.Cond.and c (allAtoms t)).before a st = _
    rw [Jvm.Cond.before_and, ih, List.all_cons]
def words1 : List Jvm.Cond := Jvm.Cond.code x code maxLocals ret :: tables_1
/-- a 'code' word, met by the world's own term for the bytes: nothing is compared byte by byte -/
theorem code_word {y : MethodName} {bytes : ByteArray} {mx : Nat} {rt : Option FieldType} {a : Array Value} {s : State} {m : MethodId} {meth : Method} {c : Code} (h1 : s.methodNamed? y = some m) (h2 : s.vm.method? m = some meth) (h3 : meth.code = some c) (h4 : c.code = bytes)
    (h5 : (c.maxLocals == mx && c.exceptionTable.isEmpty && decide (c.maxStack ≤ mostOperands) && decide (meth.sig.returnType = rt) && !meth.locks && decide (parseMethodDescriptor y.desc = some meth.sig)) = true) : (Jvm.Cond.code y bytes mx rt).before a s = true := by
  simp only [Bool.and_eq_true, beq_iff_eq, Bool.not_eq_true', decide_eq_true_eq] at h5
  obtain ⟨⟨⟨⟨⟨g1, g2⟩, g3⟩, g4⟩, g5⟩, g6⟩ := h5
  simp [Cond.before, Cond.holds, Cond.value, h1, h2, h3, h4, g1, g2, g3, g4, g5, g6]
def isCode : Jvm.Cond → Bool
  | .code _ _ _ _ => true
  | _ => false
theorem all_split {L : List Jvm.Cond} {P : Jvm.Cond → Bool} (h1 : L.all (fun c => isCode c || P c) = true) (h2 : ∀ c ∈ L.filter isCode, P c = true) : L.all P = true := by
  refine List.all_eq_true.mpr fun c hc => ?_
  have h := List.all_eq_true.mp h1 c hc
  rcases Bool.eq_false_or_eq_true (isCode c) with hi | hi
  · exact h2 c (List.mem_filter.mpr ⟨hc, hi⟩)
  · simpa [hi] using h
set_option maxRecDepth 65536 in
theorem w_c0 : (Jvm.Cond.code x code maxLocals ret).before args0 about1 = true := code_word (m := ⟨1, 1⟩) (meth := k1m1) (c := k1c1) (by decide +kernel) rfl rfl rfl (by decide +kernel)
set_option maxRecDepth 65536 in
theorem w_c1 : (Jvm.Cond.code ({ cls := "java/lang/String", name := "valueOf", desc := "(C)Ljava/lang/String;" } : Jvm.MethodName) jdk_42_method_139_code (1 : Nat) (Option.some (Jvm.ClassFile.FieldType.object "java/lang/String"))).before args0 about1 = true := code_word (m := ⟨7, 3⟩) (meth := k7m3) (c := k7c3) (by decide +kernel) rfl rfl rfl (by decide +kernel)
set_option maxRecDepth 65536 in
theorem w_c2 : (Jvm.Cond.code ({ cls := "java/lang/StringLatin1", name := "canEncode", desc := "(C)Z" } : Jvm.MethodName) jdk_43_method_3_code (1 : Nat) (Option.some Jvm.ClassFile.FieldType.boolean)).before args0 about1 = true := code_word (m := ⟨8, 1⟩) (meth := k8m1) (c := k8c1) (by decide +kernel) rfl rfl rfl (by decide +kernel)
set_option maxRecDepth 65536 in
theorem w_c3 : (Jvm.Cond.code ({ cls := "java/lang/StringLatin1", name := "toBytes", desc := "(C)[B" } : Jvm.MethodName) jdk_43_method_46_code (1 : Nat) (Option.some (Jvm.ClassFile.FieldType.array Jvm.ClassFile.FieldType.byte))).before args0 about1 = true := code_word (m := ⟨8, 3⟩) (meth := k8m3) (c := k8c3) (by decide +kernel) rfl rfl rfl (by decide +kernel)
set_option maxRecDepth 65536 in
theorem w_c4 : (Jvm.Cond.code ({ cls := "java/lang/String", name := "<init>", desc := "([BB)V" } : Jvm.MethodName) jdk_42_method_151_code (3 : Nat) (Option.none : Option Jvm.ClassFile.FieldType)).before args0 about1 = true := code_word (m := ⟨7, 5⟩) (meth := k7m5) (c := k7c5) (by decide +kernel) rfl rfl rfl (by decide +kernel)
set_option maxRecDepth 65536 in
theorem w_c5 : (Jvm.Cond.code ({ cls := "java/lang/Object", name := "<init>", desc := "()V" } : Jvm.MethodName) object_method_1_code (1 : Nat) (Option.none : Option Jvm.ClassFile.FieldType)).before args0 about1 = true := code_word (m := ⟨0, 0⟩) (meth := k0m0) (c := k0c0) (by decide +kernel) rfl rfl rfl (by decide +kernel)
set_option maxRecDepth 65536 in
theorem w_c6 : (Jvm.Cond.code ({ cls := "com/example/bill_per_call/billpercall/RequestException", name := "conflict", desc := "(Ljava/lang/String;)Lcom/example/bill_per_call/billpercall/RequestException;" } : Jvm.MethodName) prog_7_method_4_code (1 : Nat) (Option.some (Jvm.ClassFile.FieldType.object "com/example/bill_per_call/billpercall/RequestException"))).before args0 about1 = true := code_word (m := ⟨12, 1⟩) (meth := k12m1) (c := k12c1) (by decide +kernel) rfl rfl rfl (by decide +kernel)
set_option maxRecDepth 65536 in
theorem w_c7 : (Jvm.Cond.code ({ cls := "com/example/bill_per_call/billpercall/RequestException", name := "<init>", desc := "(Lcom/example/bill_per_call/billpercall/ErrorCode;Ljava/lang/String;)V" } : Jvm.MethodName) prog_7_method_1_code (3 : Nat) (Option.none : Option Jvm.ClassFile.FieldType)).before args0 about1 = true := code_word (m := ⟨12, 0⟩) (meth := k12m0) (c := k12c0) (by decide +kernel) rfl rfl rfl (by decide +kernel)
set_option maxRecDepth 65536 in
theorem w_c8 : (Jvm.Cond.code ({ cls := "java/lang/RuntimeException", name := "<init>", desc := "(Ljava/lang/String;)V" } : Jvm.MethodName) jdk_58_method_2_code (2 : Nat) (Option.none : Option Jvm.ClassFile.FieldType)).before args0 about1 = true := code_word (m := ⟨11, 1⟩) (meth := k11m1) (c := k11c1) (by decide +kernel) rfl rfl rfl (by decide +kernel)
set_option maxRecDepth 65536 in
theorem w_c9 : (Jvm.Cond.code ({ cls := "java/lang/Exception", name := "<init>", desc := "(Ljava/lang/String;)V" } : Jvm.MethodName) jdk_59_method_2_code (2 : Nat) (Option.none : Option Jvm.ClassFile.FieldType)).before args0 about1 = true := code_word (m := ⟨10, 1⟩) (meth := k10m1) (c := k10c1) (by decide +kernel) rfl rfl rfl (by decide +kernel)
set_option maxRecDepth 65536 in
theorem w_c10 : (Jvm.Cond.code ({ cls := "java/lang/Throwable", name := "<init>", desc := "(Ljava/lang/String;)V" } : Jvm.MethodName) jdk_78_method_2_code (2 : Nat) (Option.none : Option Jvm.ClassFile.FieldType)).before args0 about1 = true := code_word (m := ⟨9, 1⟩) (meth := k9m1) (c := k9c1) (by decide +kernel) rfl rfl rfl (by decide +kernel)
set_option maxRecDepth 65536 in
theorem w_c11 : (Jvm.Cond.code ({ cls := "java/lang/Throwable", name := "<init>", desc := "()V" } : Jvm.MethodName) jdk_78_method_1_code (1 : Nat) (Option.none : Option Jvm.ClassFile.FieldType)).before args0 about1 = true := code_word (m := ⟨9, 0⟩) (meth := k9m0) (c := k9c0) (by decide +kernel) rfl rfl rfl (by decide +kernel)
set_option maxRecDepth 65536 in
theorem w_c12 : (Jvm.Cond.code ({ cls := "com/example/bill_per_call/billpercall/RequestException", name := "code", desc := "()Lcom/example/bill_per_call/billpercall/ErrorCode;" } : Jvm.MethodName) prog_7_method_7_code (1 : Nat) (Option.some (Jvm.ClassFile.FieldType.object "com/example/bill_per_call/billpercall/ErrorCode"))).before args0 about1 = true := code_word (m := ⟨12, 2⟩) (meth := k12m2) (c := k12c2) (by decide +kernel) rfl rfl rfl (by decide +kernel)
set_option maxRecDepth 65536 in
theorem w_c13 : (Jvm.Cond.code ({ cls := "com/example/bill_per_call/billpercall/ErrorCode", name := "status", desc := "()I" } : Jvm.MethodName) prog_3_method_4_code (1 : Nat) (Option.some Jvm.ClassFile.FieldType.int)).before args0 about1 = true := code_word (m := ⟨14, 0⟩) (meth := k14m0) (c := k14c0) (by decide +kernel) rfl rfl rfl (by decide +kernel)
set_option maxRecDepth 65536 in
theorem w_c14 : (Jvm.Cond.code ({ cls := "com/example/bill_per_call/billpercall/ErrorCode", name := "code", desc := "()Ljava/lang/String;" } : Jvm.MethodName) prog_3_method_5_code (1 : Nat) (Option.some (Jvm.ClassFile.FieldType.object "java/lang/String"))).before args0 about1 = true := code_word (m := ⟨14, 1⟩) (meth := k14m1) (c := k14c1) (by decide +kernel) rfl rfl rfl (by decide +kernel)
set_option maxRecDepth 65536 in
theorem w_c15 : (Jvm.Cond.code ({ cls := "java/lang/String", name := "equals", desc := "(Ljava/lang/Object;)Z" } : Jvm.MethodName) jdk_42_method_66_code (3 : Nat) (Option.some Jvm.ClassFile.FieldType.boolean)).before args0 about1 = true := code_word (m := ⟨7, 2⟩) (meth := k7m2) (c := k7c2) (by decide +kernel) rfl rfl rfl (by decide +kernel)
set_option maxRecDepth 65536 in
theorem w_c16 : (Jvm.Cond.code ({ cls := "java/lang/StringLatin1", name := "equals", desc := "([B[B)Z" } : Jvm.MethodName) jdk_43_method_13_code (3 : Nat) (Option.some Jvm.ClassFile.FieldType.boolean)).before args0 about1 = true := code_word (m := ⟨8, 2⟩) (meth := k8m2) (c := k8c2) (by decide +kernel) rfl rfl rfl (by decide +kernel)
set_option maxRecDepth 65536 in
theorem w_c17 : (Jvm.Cond.code ({ cls := "java/lang/Throwable", name := "getMessage", desc := "()Ljava/lang/String;" } : Jvm.MethodName) jdk_78_method_6_code (1 : Nat) (Option.some (Jvm.ClassFile.FieldType.object "java/lang/String"))).before args0 about1 = true := code_word (m := ⟨9, 2⟩) (meth := k9m2) (c := k9c2) (by decide +kernel) rfl rfl rfl (by decide +kernel)
set_option maxRecDepth 65536 in
theorem w_c18 : (Jvm.Cond.code ({ cls := "java/lang/String", name := "<init>", desc := "([C)V" } : Jvm.MethodName) jdk_42_method_3_code (2 : Nat) (Option.none : Option Jvm.ClassFile.FieldType)).before args0 about1 = true := code_word (m := ⟨7, 1⟩) (meth := k7m1) (c := k7c1) (by decide +kernel) rfl rfl rfl (by decide +kernel)
set_option maxRecDepth 65536 in
theorem w_c19 : (Jvm.Cond.code ({ cls := "java/lang/String", name := "<init>", desc := "([CIILjava/lang/Void;)V" } : Jvm.MethodName) jdk_42_method_149_code (6 : Nat) (Option.none : Option Jvm.ClassFile.FieldType)).before args0 about1 = true := code_word (m := ⟨7, 4⟩) (meth := k7m4) (c := k7c4) (by decide +kernel) rfl rfl rfl (by decide +kernel)
set_option maxRecDepth 65536 in
theorem w_c20 : (Jvm.Cond.code ({ cls := "java/lang/StringUTF16", name := "compress", desc := "([CII)[B" } : Jvm.MethodName) jdk_52_method_16_code (6 : Nat) (Option.some (Jvm.ClassFile.FieldType.array Jvm.ClassFile.FieldType.byte))).before args0 about1 = true := code_word (m := ⟨15, 2⟩) (meth := k15m2) (c := k15c2) (by decide +kernel) rfl rfl rfl (by decide +kernel)
set_option maxRecDepth 65536 in
theorem w_c21 : (Jvm.Cond.code ({ cls := "java/lang/StringUTF16", name := "compress", desc := "([CI[BII)I" } : Jvm.MethodName) jdk_52_method_21_code (7 : Nat) (Option.some Jvm.ClassFile.FieldType.int)).before args0 about1 = true := code_word (m := ⟨15, 3⟩) (meth := k15m3) (c := k15c3) (by decide +kernel) rfl rfl rfl (by decide +kernel)
set_option maxRecDepth 65536 in
theorem w_c22 : (Jvm.Cond.code ({ cls := "java/lang/StringUTF16", name := "coderFromArrayLen", desc := "([BI)B" } : Jvm.MethodName) jdk_52_method_15_code (2 : Nat) (Option.some Jvm.ClassFile.FieldType.byte)).before args0 about1 = true := code_word (m := ⟨15, 1⟩) (meth := k15m1) (c := k15c1) (by decide +kernel) rfl rfl rfl (by decide +kernel)
def codes1 : List Jvm.Cond := [Jvm.Cond.code x code maxLocals ret, Jvm.Cond.code ({ cls := "java/lang/String", name := "valueOf", desc := "(C)Ljava/lang/String;" } : Jvm.MethodName) jdk_42_method_139_code (1 : Nat) (Option.some (Jvm.ClassFile.FieldType.object "java/lang/String")), Jvm.Cond.code ({ cls := "java/lang/StringLatin1", name := "canEncode", desc := "(C)Z" } : Jvm.MethodName) jdk_43_method_3_code (1 : Nat) (Option.some Jvm.ClassFile.FieldType.boolean), Jvm.Cond.code ({ cls := "java/lang/StringLatin1", name := "toBytes", desc := "(C)[B" } : Jvm.MethodName) jdk_43_method_46_code (1 : Nat) (Option.some (Jvm.ClassFile.FieldType.array Jvm.ClassFile.FieldType.byte)), Jvm.Cond.code ({ cls := "java/lang/String", name := "<init>", desc := "([BB)V" } : Jvm.MethodName) jdk_42_method_151_code (3 : Nat) (Option.none : Option Jvm.ClassFile.FieldType), Jvm.Cond.code ({ cls := "java/lang/Object", name := "<init>", desc := "()V" } : Jvm.MethodName) object_method_1_code (1 : Nat) (Option.none : Option Jvm.ClassFile.FieldType), Jvm.Cond.code ({ cls := "com/example/bill_per_call/billpercall/RequestException", name := "conflict", desc := "(Ljava/lang/String;)Lcom/example/bill_per_call/billpercall/RequestException;" } : Jvm.MethodName) prog_7_method_4_code (1 : Nat) (Option.some (Jvm.ClassFile.FieldType.object "com/example/bill_per_call/billpercall/RequestException")), Jvm.Cond.code ({ cls := "com/example/bill_per_call/billpercall/RequestException", name := "<init>", desc := "(Lcom/example/bill_per_call/billpercall/ErrorCode;Ljava/lang/String;)V" } : Jvm.MethodName) prog_7_method_1_code (3 : Nat) (Option.none : Option Jvm.ClassFile.FieldType), Jvm.Cond.code ({ cls := "java/lang/RuntimeException", name := "<init>", desc := "(Ljava/lang/String;)V" } : Jvm.MethodName) jdk_58_method_2_code (2 : Nat) (Option.none : Option Jvm.ClassFile.FieldType), Jvm.Cond.code ({ cls := "java/lang/Exception", name := "<init>", desc := "(Ljava/lang/String;)V" } : Jvm.MethodName) jdk_59_method_2_code (2 : Nat) (Option.none : Option Jvm.ClassFile.FieldType), Jvm.Cond.code ({ cls := "java/lang/Throwable", name := "<init>", desc := "(Ljava/lang/String;)V" } : Jvm.MethodName) jdk_78_method_2_code (2 : Nat) (Option.none : Option Jvm.ClassFile.FieldType), Jvm.Cond.code ({ cls := "java/lang/Throwable", name := "<init>", desc := "()V" } : Jvm.MethodName) jdk_78_method_1_code (1 : Nat) (Option.none : Option Jvm.ClassFile.FieldType), Jvm.Cond.code ({ cls := "com/example/bill_per_call/billpercall/RequestException", name := "code", desc := "()Lcom/example/bill_per_call/billpercall/ErrorCode;" } : Jvm.MethodName) prog_7_method_7_code (1 : Nat) (Option.some (Jvm.ClassFile.FieldType.object "com/example/bill_per_call/billpercall/ErrorCode")), Jvm.Cond.code ({ cls := "com/example/bill_per_call/billpercall/ErrorCode", name := "status", desc := "()I" } : Jvm.MethodName) prog_3_method_4_code (1 : Nat) (Option.some Jvm.ClassFile.FieldType.int), Jvm.Cond.code ({ cls := "com/example/bill_per_call/billpercall/ErrorCode", name := "code", desc := "()Ljava/lang/String;" } : Jvm.MethodName) prog_3_method_5_code (1 : Nat) (Option.some (Jvm.ClassFile.FieldType.object "java/lang/String")), Jvm.Cond.code ({ cls := "java/lang/String", name := "equals", desc := "(Ljava/lang/Object;)Z" } : Jvm.MethodName) jdk_42_method_66_code (3 : Nat) (Option.some Jvm.ClassFile.FieldType.boolean), Jvm.Cond.code ({ cls := "java/lang/StringLatin1", name := "equals", desc := "([B[B)Z" } : Jvm.MethodName) jdk_43_method_13_code (3 : Nat) (Option.some Jvm.ClassFile.FieldType.boolean), Jvm.Cond.code ({ cls := "java/lang/Throwable", name := "getMessage", desc := "()Ljava/lang/String;" } : Jvm.MethodName) jdk_78_method_6_code (1 : Nat) (Option.some (Jvm.ClassFile.FieldType.object "java/lang/String")), Jvm.Cond.code ({ cls := "java/lang/String", name := "<init>", desc := "([C)V" } : Jvm.MethodName) jdk_42_method_3_code (2 : Nat) (Option.none : Option Jvm.ClassFile.FieldType), Jvm.Cond.code ({ cls := "java/lang/String", name := "<init>", desc := "([CIILjava/lang/Void;)V" } : Jvm.MethodName) jdk_42_method_149_code (6 : Nat) (Option.none : Option Jvm.ClassFile.FieldType), Jvm.Cond.code ({ cls := "java/lang/StringUTF16", name := "compress", desc := "([CII)[B" } : Jvm.MethodName) jdk_52_method_16_code (6 : Nat) (Option.some (Jvm.ClassFile.FieldType.array Jvm.ClassFile.FieldType.byte)), Jvm.Cond.code ({ cls := "java/lang/StringUTF16", name := "compress", desc := "([CI[BII)I" } : Jvm.MethodName) jdk_52_method_21_code (7 : Nat) (Option.some Jvm.ClassFile.FieldType.int), Jvm.Cond.code ({ cls := "java/lang/StringUTF16", name := "coderFromArrayLen", desc := "([BI)B" } : Jvm.MethodName) jdk_52_method_15_code (2 : Nat) (Option.some Jvm.ClassFile.FieldType.byte)]
set_option maxRecDepth 65536 in
theorem codes_eq : words1.filter isCode = codes1 := rfl
theorem w_codes : ∀ c ∈ words1.filter isCode, c.before args0 about1 = true := by
  rw [codes_eq]
  intro c hc
  simp only [codes1, List.mem_cons, List.not_mem_nil, or_false] at hc
  rcases hc with rfl | rfl | rfl | rfl | rfl | rfl | rfl | rfl | rfl | rfl | rfl | rfl | rfl | rfl | rfl | rfl | rfl | rfl | rfl | rfl | rfl | rfl | rfl
  · exact w_c0
  · exact w_c1
  · exact w_c2
  · exact w_c3
  · exact w_c4
  · exact w_c5
  · exact w_c6
  · exact w_c7
  · exact w_c8
  · exact w_c9
  · exact w_c10
  · exact w_c11
  · exact w_c12
  · exact w_c13
  · exact w_c14
  · exact w_c15
  · exact w_c16
  · exact w_c17
  · exact w_c18
  · exact w_c19
  · exact w_c20
  · exact w_c21
  · exact w_c22
set_option maxRecDepth 65536 in
theorem w_t1 : (words1.take 24).all (fun c => isCode c || c.before args0 about1) = true := by decide +kernel
set_option maxRecDepth 65536 in
theorem w_t2 : ((words1.drop 24).take 24).all (fun c => isCode c || c.before args0 about1) = true := by decide +kernel
set_option maxRecDepth 65536 in
theorem w_t3 : (((words1.drop 24).drop 24).take 24).all (fun c => isCode c || c.before args0 about1) = true := by decide +kernel
set_option maxRecDepth 65536 in
theorem w_t4 : ((((words1.drop 24).drop 24).drop 24).take 24).all (fun c => isCode c || c.before args0 about1) = true := by decide +kernel
set_option maxRecDepth 65536 in
theorem w_t5 : (((((words1.drop 24).drop 24).drop 24).drop 24).take 24).all (fun c => isCode c || c.before args0 about1) = true := by decide +kernel
set_option maxRecDepth 65536 in
theorem w_t6 : ((((((words1.drop 24).drop 24).drop 24).drop 24).drop 24).take 24).all (fun c => isCode c || c.before args0 about1) = true := by decide +kernel
set_option maxRecDepth 65536 in
theorem w_t7 : ((((((words1.drop 24).drop 24).drop 24).drop 24).drop 24).drop 24).all (fun c => isCode c || c.before args0 about1) = true := by decide +kernel
theorem w_tables : (allAtoms (Jvm.Cond.code x code maxLocals ret :: tables_1)).before args0 about1 = true := by
  rw [allAtoms_all]
  show words1.all (fun c => c.before args0 about1) = true
  refine all_split ?_ w_codes
  rw [← List.take_append_drop 24 words1, List.all_append, w_t1, ← List.take_append_drop 24 (words1.drop 24), List.all_append, w_t2, ← List.take_append_drop 24 ((words1.drop 24).drop 24), List.all_append, w_t3, ← List.take_append_drop 24 (((words1.drop 24).drop 24).drop 24), List.all_append, w_t4, ← List.take_append_drop 24 ((((words1.drop 24).drop 24).drop 24).drop 24), List.all_append, w_t5, ← List.take_append_drop 24 (((((words1.drop 24).drop 24).drop 24).drop 24).drop 24), List.all_append, w_t6, w_t7]
  rfl
set_option maxRecDepth 65536 in
theorem w_rest : rest_1_c.before args0 about1 = true := by decide +kernel
set_option maxRecDepth 65536 in
theorem w_case : (Jvm.Cond.and given_1 narrow_1).before args0 about1 = true := by decide +kernel
set_option maxRecDepth 65536 in
theorem w_consts : constsHeld consts_1 about1 := Jvm.Lit.constsHeldB_iff.mp (by decide +kernel)
theorem w_applies : (headSpec (Jvm.Cond.code x code maxLocals ret :: tables_1) room_1).applies x e0.platform about1 = true :=
  (Spec.applies_iff w_frames).mpr ⟨w_running, w_runnable, w_alone, w_named, w_hears, w_ripe, w_room, w_tables⟩
theorem atStart : AtStart classFile x code maxLocals ret World_1 tables_1 room_1 Calls_1 rest_1 Pre_1 launch0 p0 e0 about1 theMethod args0 below0 :=
  ⟨lists_1, trivial, launch0.admits_env _ _ _, launch0.least_env, fairChoices_fair.cas, fairChoices_fair.clock, w_frames, w_args, w_heap, w_applies, ⟨(by decide +kernel : framesKnown about1 = true), ⟨(by decide +kernel : tablesKnown about1 = true), ⟨w_consts, trivial⟩⟩⟩, w_rest, w_case⟩
end start1
theorem witness_1 : WitnessClaimed_1 := ⟨start1.p0, start1.e0, start1.about1, start1.theMethod, start1.args0, start1.below0, start1.atStart⟩
end Jvm.Pilot.@@N@@
